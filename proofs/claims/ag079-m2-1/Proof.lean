import JvmDerived
import JvmDerived.Pilot.@@N@@Statement
import JvmDerived.Pilot.@@N@@Code
set_option linter.unusedVariables false
set_option linter.unusedSimpArgs false
/- laws to paste: Road.backV, Road.eqW, Road.lenW, Road.chN, Road.codOf (cut by pick.py; bodies as the Statement names them) -/
namespace Jvm.Pilot.@@N@@
namespace StrChars
open Jvm Sem ClassFile Op Lib Jvm.Stand Jvm.Free.XT Jvm.Free.ALB Jvm.Free.JM Jvm.Free
open Jvm.Lib.Cold (StaticIs)
/-- a char array whose places are chars -/
def Ch (a : Addr) (A : Cell) (U : State) : Prop := Arr .char a A U ∧ Typed .char A
theorem Ch.mv {a : Addr} {A : Cell} {U U' : State} (h : Ch a A U) (hal : U.vm.Alike U'.vm) (hh : U'.heap = U.heap) : Ch a A U' := ⟨h.1.mv hal hh, h.2⟩
theorem Ch.keep {a : Addr} {A : Cell} {U U' : State} (h : Ch a A U) (hal : U.vm.Alike U'.vm) (hk : U'.heap[a]? = some A) : Ch a A U' := ⟨h.1.keep hal hk, h.2⟩
/-- what place i of a char[]'s cell holds -/
def cv (A : Cell) (i : Nat) : Int32 := match A.slots[i]? with | some (.int x) => x | _ => 0
theorem Ch.get {a : Addr} {A : Cell} {U : State} (h : Ch a A U) {i : Nat} (hi : i < A.slots.size) : A.slots[i]? = some (.int (cv A i)) := by
  have e := Array.getElem?_eq_getElem hi
  have f := h.2 i _ e
  unfold cv; rw [e]
  generalize A.slots[i] = v at f
  cases v <;> simp [fits] at f ⊢
/-- the byte that i2b leaves of a char -/
def lo8 (x : Int32) : Int32 := x.toInt8.toInt32
theorem fits_lo8 (y : Int32) : fits .byte (.int (lo8 y)) = true := by
  have h1 := y.toInt8.le_toInt
  have h2 := y.toInt8.toInt_lt
  simp only [lo8, fits, Bool.and_eq_true, decide_eq_true_eq, Int32.le_iff_toInt_le, Int8.toInt_toInt32, show (-128 : Int32).toInt = -128 from by decide, show (127 : Int32).toInt = 127 from by decide]
  omega
/-- A' is A but that each place j of lo .. hi - 1 holds f j -/
def Laid (A A' : Cell) (lo hi : Nat) (f : Nat → Value) : Prop := A'.cls = A.cls ∧ A'.vm = A.vm ∧ A'.slots.size = A.slots.size ∧ ∀ i, A'.slots[i]? = if lo ≤ i ∧ i < hi then some (f i) else A.slots[i]?
theorem Laid.zero (A : Cell) (lo : Nat) (f : Nat → Value) : Laid A A lo (lo + 0) f := ⟨rfl, rfl, rfl, fun i => by rw [if_neg (by omega)]⟩
theorem Laid.step {A Ak : Cell} {lo k : Nat} {f : Nat → Value} {v : Value} (h : Laid A Ak lo k f) (hlo : lo ≤ k) (hk : k < Ak.slots.size) (hv : v = f k) : Laid A (Ak.setSlot k v) lo (k + 1) f := by
  refine ⟨h.1, h.2.1, by simpa [Cell.setSlot] using h.2.2.1, fun i => ?_⟩
  by_cases e : k = i
  · subst e; rw [Cell.slots_setSlot_self v hk, if_pos (by omega), hv]
  · rw [Cell.slots_setSlot_ne v e, h.2.2.2 i]
    by_cases q : lo ≤ i ∧ i < k
    · rw [if_pos q, if_pos (by omega)]
    · rw [if_neg q, if_neg (by omega)]
def U16 : String := "java/lang/StringUTF16"
namespace Cmp5
def yN : MethodName := ⟨"java/lang/StringUTF16", "compress", "([CI[BII)I"⟩
abbrev yB : ByteArray := jdk_52_method_21_code
theorem d0 : decode yB 0 = .ok (.iconst 0, 1) := by decide +kernel
theorem d1 : decode yB 1 = .ok (.istore 5, 2) := by decide +kernel
theorem d3 : decode yB 3 = .ok (.iload 5, 2) := by decide +kernel
theorem d5 : decode yB 5 = .ok (.iload 4, 2) := by decide +kernel
theorem d7 : decode yB 7 = .ok (.if_icmp (.ge) 37, 3) := by decide +kernel
theorem d10 : decode yB 10 = .ok (.aload_n 0, 1) := by decide +kernel
theorem d11 : decode yB 11 = .ok (.iload_n 1, 1) := by decide +kernel
theorem d12 : decode yB 12 = .ok (.caload, 1) := by decide +kernel
theorem d13 : decode yB 13 = .ok (.istore 6, 2) := by decide +kernel
theorem d15 : decode yB 15 = .ok (.iload 6, 2) := by decide +kernel
theorem d17 : decode yB 17 = .ok (.sipush 255, 3) := by decide +kernel
theorem d20 : decode yB 20 = .ok (.if_icmp (.le) 6, 3) := by decide +kernel
theorem d26 : decode yB 26 = .ok (.aload_n 2, 1) := by decide +kernel
theorem d27 : decode yB 27 = .ok (.iload_n 3, 1) := by decide +kernel
theorem d28 : decode yB 28 = .ok (.iload 6, 2) := by decide +kernel
theorem d30 : decode yB 30 = .ok (.i2b, 1) := by decide +kernel
theorem d31 : decode yB 31 = .ok (.bastore, 1) := by decide +kernel
theorem d32 : decode yB 32 = .ok (.iinc 1 1, 3) := by decide +kernel
theorem d35 : decode yB 35 = .ok (.iinc 3 1, 3) := by decide +kernel
theorem d38 : decode yB 38 = .ok (.iinc 5 1, 3) := by decide +kernel
theorem d41 : decode yB 41 = .ok (.goto (-38), 3) := by decide +kernel
theorem d44 : decode yB 44 = .ok (.iload 4, 2) := by decide +kernel
theorem d46 : decode yB 46 = .ok (.ireturn, 1) := by decide +kernel
def site : List Cond := []
def tab : Cond := tabOf yN yB 7 (some .int) site
def P (b : Addr) (A : Cell) (d : Addr) (B : Cell) (o q len : Nat) (args : Array Value) (s : State) : Prop := args = #[.ref b, .int (Int32.ofNat o), .ref d, .int (Int32.ofNat q), .int (Int32.ofNat len)] ∧ Ch b A s ∧ Arr .byte d B s ∧ b ≠ d ∧ o + len ≤ A.slots.size ∧ q + len ≤ B.slots.size ∧ ∀ i, i < len → ¬ 255 < cv A (o + i)
def E (b : Addr) (A : Cell) (d : Addr) (B : Cell) (o q len : Nat) (r : Option Value) (s u : State) : Prop := r = some (.int (Int32.ofNat len)) ∧ ∃ B', Put d B' s u ∧ Laid B B' q (q + len) (fun j => Value.int (lo8 (cv A (o + (j - q)))))
/-- no char of the range above 255: len; the places written hold each char's low byte -/
theorem law (l : Launch) (b : Addr) (A : Cell) (d : Addr) (B : Cell) (o q len : Nat) : Law l yN 5 5 0 0 yB 7 (some .int) site (P b A d B o q len) (E b A d B o q len) (copyLocs d q len) 0 0 := by
  refine Law.of_walk (plainFor_of_name (by decide +kernel)) (by decide +kernel) (by decide +kernel) (by decide) (fun _ _ h => by rw [h.1]; rfl) (fun _ U U' hal hh h => ⟨h.1, h.2.1.mv hal hh, h.2.2.1.mv hal hh, h.2.2.2⟩) (fun r U U' V V' h1 hal h2 h => ⟨h.1, h.2.elim fun B' q => ⟨B', q.1.mv h1 h2, q.2⟩⟩) ?_
  intro p e s m args below meth c s₁ X0 hexec hbytes hml hret hlk hnm hown hh0 W hP
  obtain ⟨rfl, hA, hB, hne, l1, l2, hp⟩ := hP
  have c1 : Steps p.tables e below (s₁.setTop (entryFrame m #[.ref b, .int (Int32.ofNat o), .ref d, .int (Int32.ofNat q), .int (Int32.ofNat len)] 7)) (s₁.setTop (mkF m 0 #[.val (.ref b), .val (.int (Int32.ofNat o)), .val (.ref d), .val (.int (Int32.ofNat q)), .val (.int (Int32.ofNat len)), .unset, .unset] [])) := entry rfl
  have hA0 := hA.1.mv X0.warmed.alike hh0
  have hB0 := hB.mv X0.warmed.alike hh0
  have a31 := hA.1.2.2.2
  have c2 : Steps p.tables e below (s₁.setTop (entryFrame m #[.ref b, .int (Int32.ofNat o), .ref d, .int (Int32.ofNat q), .int (Int32.ofNat len)] 7)) (s₁.setTop (mkF m 3 #[.val (.ref b), .val (.int (Int32.ofNat o)), .val (.ref d), .val (.int (Int32.ofNat q)), .val (.int (Int32.ofNat len)), .val (.int 0), .unset] [])) := c1.trans (by
    refine iconstV X0.here hexec rfl 0 (hb hbytes d0) (by decide) ?_
    refine XS.istore X0.here hexec rfl (hb hbytes d1) rfl rfl ?_
    exact Steps.refl _)
  have loop : ∀ (r i : Nat), i + r = len → ∀ (z : Slot), (z = .unset ∨ ∃ w, z = .val w ∧ w.category = 1) → ∀ (Tl : State) (Bk : Cell), Stand p l e { frames := 0, locals := 0, cells := 0, slots := 0 } s m #[.ref b, .int (Int32.ofNat o), .ref d, .int (Int32.ofNat q), .int (Int32.ofNat len)] below meth c Tl ([] ++ copyLocs d q i) 0 0 → Put d Bk s₁ Tl → Laid B Bk q (q + i) (fun j => Value.int (lo8 (cv A (o + (j - q))))) →
      Steps p.tables e below (s₁.setTop (entryFrame m #[.ref b, .int (Int32.ofNat o), .ref d, .int (Int32.ofNat q), .int (Int32.ofNat len)] 7)) (Tl.setTop (mkF m 3 #[.val (.ref b), .val (.int (Int32.ofNat (o + i))), .val (.ref d), .val (.int (Int32.ofNat (q + i))), .val (.int (Int32.ofNat len)), .val (.int (Int32.ofNat i)), z] [])) → ∃ (T' : State) (B' : Cell) (z' : Slot), Stand p l e { frames := 0, locals := 0, cells := 0, slots := 0 } s m #[.ref b, .int (Int32.ofNat o), .ref d, .int (Int32.ofNat q), .int (Int32.ofNat len)] below meth c T' ([] ++ copyLocs d q len) 0 0 ∧ Put d B' s₁ T' ∧ Laid B B' q (q + len) (fun j => Value.int (lo8 (cv A (o + (j - q))))) ∧
      Steps p.tables e below (s₁.setTop (entryFrame m #[.ref b, .int (Int32.ofNat o), .ref d, .int (Int32.ofNat q), .int (Int32.ofNat len)] 7)) (T'.setTop (mkF m 3 #[.val (.ref b), .val (.int (Int32.ofNat (o + len))), .val (.ref d), .val (.int (Int32.ofNat (q + len))), .val (.int (Int32.ofNat len)), .val (.int (Int32.ofNat len)), z'] [])) := by
    intro r
    induction r with
    | zero =>
      intro i hi z hz Tl Bk Xl pl fl cl
      have hil : i = len := by omega
      rw [hil] at Xl fl cl
      exact ⟨Tl, Bk, z, Xl, pl, fl, cl⟩
    | succ r ih =>
      intro i hi z hz Tl Bk Xl pl fl cl
      have all := X0.warmed.alike.symm.trans Xl.warmed.alike
      have hAl := hA0.keep all (pl.other hne hA0.1)
      have hBk := hB0.like all pl.1 fl.1 fl.2.1 fl.2.2.1
      have hlt : q + i < Bk.slots.size := by rw [fl.2.2.1]; omega
      have c3 : Steps p.tables e below (s₁.setTop (entryFrame m #[.ref b, .int (Int32.ofNat o), .ref d, .int (Int32.ofNat q), .int (Int32.ofNat len)] 7)) (Tl.setTop (mkF m 12 #[.val (.ref b), .val (.int (Int32.ofNat (o + i))), .val (.ref d), .val (.int (Int32.ofNat (q + i))), .val (.int (Int32.ofNat len)), .val (.int (Int32.ofNat i)), z] [.int (Int32.ofNat (o + i)), .ref b])) := cl.trans (by
        refine XS.iload Xl.here hexec rfl (hb hbytes d3) rfl ?_
        refine XS.iload Xl.here hexec rfl (hb hbytes d5) rfl ?_
        refine XS.icmpNo Xl.here hexec rfl (hb hbytes d7) rfl (ii_ge_f (lt32 (by omega) (by omega))) ?_
        refine XS.aloadN Xl.here hexec rfl (hb hbytes d10) rfl rfl ?_
        refine XS.iloadN Xl.here hexec rfl (hb hbytes d11) rfl ?_
        exact Steps.refl _)
      have c4 : Steps p.tables e below (s₁.setTop (entryFrame m #[.ref b, .int (Int32.ofNat o), .ref d, .int (Int32.ofNat q), .int (Int32.ofNat len)] 7)) (Tl.setTop (mkF m 13 #[.val (.ref b), .val (.int (Int32.ofNat (o + i))), .val (.ref d), .val (.int (Int32.ofNat (q + i))), .val (.int (Int32.ofNat len)), .val (.int (Int32.ofNat i)), z] [.int (cv A (o + i))])) := c3.trans (by
        refine Xl.aget hexec hAl rfl (hA.get (i := o + i) (by omega)) rfl rfl (hb hbytes d12) ?_
        exact Steps.refl _)
      have c5 : Steps p.tables e below (s₁.setTop (entryFrame m #[.ref b, .int (Int32.ofNat o), .ref d, .int (Int32.ofNat q), .int (Int32.ofNat len)] 7)) (Tl.setTop (mkF m 15 #[.val (.ref b), .val (.int (Int32.ofNat (o + i))), .val (.ref d), .val (.int (Int32.ofNat (q + i))), .val (.int (Int32.ofNat len)), .val (.int (Int32.ofNat i)), .val (.int (cv A (o + i)))] [])) := c4.trans (by
        refine XS.istoreS Xl.here hexec rfl (hb hbytes d13) rfl rfl hz ?_
        exact Steps.refl _)
      have c6 : Steps p.tables e below (s₁.setTop (entryFrame m #[.ref b, .int (Int32.ofNat o), .ref d, .int (Int32.ofNat q), .int (Int32.ofNat len)] 7)) (Tl.setTop (mkF m 31 #[.val (.ref b), .val (.int (Int32.ofNat (o + i))), .val (.ref d), .val (.int (Int32.ofNat (q + i))), .val (.int (Int32.ofNat len)), .val (.int (Int32.ofNat i)), .val (.int (cv A (o + i)))] [.int (lo8 (cv A (o + i))), .int (Int32.ofNat (q + i)), .ref d])) := c5.trans (by
        refine XS.iload Xl.here hexec rfl (hb hbytes d15) rfl ?_
        refine sipushV Xl.here hexec rfl 255 (hb hbytes d17) (by decide) ?_
        refine XS.icmpYes Xl.here hexec rfl (pc0 := 20) rfl (hb hbytes d20) rfl (ii_le_t (hp i (by omega))) (by decide) rfl ?_
        refine XS.aloadN Xl.here hexec rfl (hb hbytes d26) rfl rfl ?_
        refine XS.iloadN Xl.here hexec rfl (hb hbytes d27) rfl ?_
        refine XS.iload Xl.here hexec rfl (hb hbytes d28) rfl ?_
        refine i2b Xl.here hexec rfl (hb hbytes d30) rfl ?_
        exact Steps.refl _)
      obtain ⟨T7, X7, p7, st7⟩ := Xl.aput hexec hBk rfl hlt rfl (fits_lo8 (cv A (o + i))) (g := (mkF m 31 #[.val (.ref b), .val (.int (Int32.ofNat (o + i))), .val (.ref d), .val (.int (Int32.ofNat (q + i))), .val (.int (Int32.ofNat len)), .val (.int (Int32.ofNat i)), .val (.int (cv A (o + i)))] [.int (lo8 (cv A (o + i))), .int (Int32.ofNat (q + i)), .ref d])) rfl (rest := []) rfl (hb hbytes d31)
      have c8 : Steps p.tables e below (s₁.setTop (entryFrame m #[.ref b, .int (Int32.ofNat o), .ref d, .int (Int32.ofNat q), .int (Int32.ofNat len)] 7)) (T7.setTop (mkF m 32 #[.val (.ref b), .val (.int (Int32.ofNat (o + i))), .val (.ref d), .val (.int (Int32.ofNat (q + i))), .val (.int (Int32.ofNat len)), .val (.int (Int32.ofNat i)), .val (.int (cv A (o + i)))] [])) := c6.trans (st7 _ (Steps.refl _))
      have c9 : Steps p.tables e below (s₁.setTop (entryFrame m #[.ref b, .int (Int32.ofNat o), .ref d, .int (Int32.ofNat q), .int (Int32.ofNat len)] 7)) (T7.setTop (mkF m 3 #[.val (.ref b), .val (.int (Int32.ofNat (o + i) + 1)), .val (.ref d), .val (.int (Int32.ofNat (q + i) + 1)), .val (.int (Int32.ofNat len)), .val (.int (Int32.ofNat i + 1)), .val (.int (cv A (o + i)))] [])) := c8.trans (by
        refine iincV X7.here hexec rfl 1 (hb hbytes d32) (by decide) rfl rfl ?_
        refine iincV X7.here hexec rfl 1 (hb hbytes d35) (by decide) rfl rfl ?_
        refine iincV X7.here hexec rfl 1 (hb hbytes d38) (by decide) rfl rfl ?_
        refine XS.goto X7.here hexec rfl (pc0 := 41) rfl (hb hbytes d41) (by decide) rfl ?_
        exact Steps.refl _)
      have c10 : Steps p.tables e below (s₁.setTop (entryFrame m #[.ref b, .int (Int32.ofNat o), .ref d, .int (Int32.ofNat q), .int (Int32.ofNat len)] 7)) (T7.setTop (mkF m 3 #[.val (.ref b), .val (.int (Int32.ofNat (o + (i + 1)))), .val (.ref d), .val (.int (Int32.ofNat (q + (i + 1)))), .val (.int (Int32.ofNat len)), .val (.int (Int32.ofNat (i + 1))), .val (.int (cv A (o + i)))] [])) := by
        have := c9
        rw [succ32, succ32, succ32] at this
        exact this
      exact ih (i + 1) (by omega) _ (Or.inr ⟨_, rfl, rfl⟩) T7 _ (by rw [copyLocs_step, ← List.append_assoc]; exact X7) (pl.trans p7) (fl.step (by omega) hlt (by simp)) c10
  obtain ⟨T9, B9, z9, X9, p9, f9, g9⟩ := loop len 0 (by omega) .unset (Or.inl rfl) s₁ B (by simpa [copyLocs] using X0) ⟨hB0.1, fun _ _ => rfl, rfl⟩ (Laid.zero _ _ _) c2
  have c11 : Steps p.tables e below (s₁.setTop (entryFrame m #[.ref b, .int (Int32.ofNat o), .ref d, .int (Int32.ofNat q), .int (Int32.ofNat len)] 7)) (T9.setTop (mkF m 46 #[.val (.ref b), .val (.int (Int32.ofNat (o + len))), .val (.ref d), .val (.int (Int32.ofNat (q + len))), .val (.int (Int32.ofNat len)), .val (.int (Int32.ofNat len)), z9] [.int (Int32.ofNat len)])) := g9.trans (by
    refine XS.iload X9.here hexec rfl (hb hbytes d3) rfl ?_
    refine XS.iload X9.here hexec rfl (hb hbytes d5) rfl ?_
    refine XS.icmpYes X9.here hexec rfl (pc0 := 7) rfl (hb hbytes d7) rfl (ii_ge_t (nlt32 (by omega) (Nat.le_refl _))) (by decide) rfl ?_
    refine XS.iload X9.here hexec rfl (hb hbytes d44) rfl ?_
    exact Steps.refl _)
  exact ⟨T9, some (.int (Int32.ofNat len)), _, _, _, X9, by simp, rfl, rfl, (fun h => by cases h), ⟨rfl, B9, p9.from hh0, f9⟩, fun fs hl => c11.trans (X9.ireturnOut hexec hret rfl (Or.inl rfl) (hb hbytes d46) hl)⟩
end Cmp5
namespace Cmp3
def yN : MethodName := ⟨"java/lang/StringUTF16", "compress", "([CII)[B"⟩
abbrev yB : ByteArray := jdk_52_method_16_code
theorem d0 : decode yB 0 = .ok (.iload_n 2, 1) := by decide +kernel
theorem d1 : decode yB 1 = .ok (.newarray .byte, 2) := by decide +kernel
theorem d3 : decode yB 3 = .ok (.astore_n 3, 1) := by decide +kernel
theorem d4 : decode yB 4 = .ok (.aload_n 0, 1) := by decide +kernel
theorem d5 : decode yB 5 = .ok (.iload_n 1, 1) := by decide +kernel
theorem d6 : decode yB 6 = .ok (.aload_n 3, 1) := by decide +kernel
theorem d7 : decode yB 7 = .ok (.iconst 0, 1) := by decide +kernel
theorem d8 : decode yB 8 = .ok (.iload_n 2, 1) := by decide +kernel
theorem d9 : decode yB 9 = .ok (.invokestatic 115, 3) := by decide +kernel
theorem d12 : decode yB 12 = .ok (.istore 4, 2) := by decide +kernel
theorem d14 : decode yB 14 = .ok (.iload 4, 2) := by decide +kernel
theorem d16 : decode yB 16 = .ok (.iload_n 2, 1) := by decide +kernel
theorem d17 : decode yB 17 = .ok (.if_icmp (.eq) 40, 3) := by decide +kernel
theorem d57 : decode yB 57 = .ok (.aload_n 3, 1) := by decide +kernel
theorem d58 : decode yB 58 = .ok (.areturn, 1) := by decide +kernel
def site : List Cond := [.arrayClass .byte, Cmp5.tab] ++ staticW U16 115 Cmp5.yN
def tab : Cond := tabOf yN yB 6 (some (.array .byte)) site
def P (b : Addr) (A : Cell) (o len : Nat) (args : Array Value) (s : State) : Prop := args = #[.ref b, .int (Int32.ofNat o), .int (Int32.ofNat len)] ∧ Ch b A s ∧ o + len ≤ A.slots.size ∧ len ≤ 536870912 ∧ ∀ i, i < len → ¬ 255 < cv A (o + i)
def E (b : Addr) (A : Cell) (o len : Nat) (r : Option Value) (s u : State) : Prop := NewArr .byte "[B" len (fun j => .int (lo8 (cv A (o + j)))) r s u ∧ u.heap.size = s.heap.size + 1
/-- no char of the range above 255: a new byte[] of their low bytes -/
theorem law (l : Launch) (b : Addr) (A : Cell) (o len : Nat) : Law l yN 3 3 1 18 yB 6 (some (.array .byte)) site (P b A o len) (E b A o len) [] 1 len := by
  refine Law.of_walk (plainFor_of_name (by decide +kernel)) (by decide +kernel) (by decide +kernel) (by decide) (fun _ _ h => by rw [h.1]; rfl) (fun _ U U' hal hh h => ⟨h.1, h.2.1.mv hal hh, h.2.2⟩) (fun r U U' V V' h1 hal h2 h => ⟨NewArr.mv r U U' V V' h1 hal h2 h.1, by rw [h1, h2]; exact h.2⟩) ?_
  intro p e s m args below meth c s₁ X0 hexec hbytes hml hret hlk hnm hown hh0 W hP
  obtain ⟨rfl, hA, l1, l2, hp⟩ := hP
  have a31 := hA.1.2.2.2
  have c1 : Steps p.tables e below (s₁.setTop (entryFrame m #[.ref b, .int (Int32.ofNat o), .int (Int32.ofNat len)] 6)) (s₁.setTop (mkF m 0 #[.val (.ref b), .val (.int (Int32.ofNat o)), .val (.int (Int32.ofNat len)), .unset, .unset, .unset] [])) := entry rfl
  have c2 : Steps p.tables e below (s₁.setTop (entryFrame m #[.ref b, .int (Int32.ofNat o), .int (Int32.ofNat len)] 6)) (s₁.setTop (mkF m 1 #[.val (.ref b), .val (.int (Int32.ofNat o)), .val (.int (Int32.ofNat len)), .unset, .unset, .unset] [.int (Int32.ofNat len)])) := c1.trans (by
    refine XS.iloadN X0.here hexec rfl (hb hbytes d0) rfl ?_
    exact Steps.refl _)
  obtain ⟨T3, B3, X3, ba3, bs3, bv3, bh3, bf3, st3⟩ := X0.anew hexec (atype := .byte) (wk W (.arrayClass .byte)) rfl (by show len * 1 ≤ _; omega) (by omega) (g := (mkF m 1 #[.val (.ref b), .val (.int (Int32.ofNat o)), .val (.int (Int32.ofNat len)), .unset, .unset, .unset] [.int (Int32.ofNat len)])) rfl (hb hbytes d1) (rest := []) rfl (Nat.le_refl _) (by show 0 + len ≤ len; omega)
  rw [hh0] at ba3 st3
  have kp3 : XT.Kept s T3 := (XT.Kept.of_eq hh0).push bh3
  have hA3 := hA.keep X3.warmed.alike (kp3 _ _ hA.1.1)
  have hne : b ≠ s.heap.size := hA.1.ne
  have c4 : Steps p.tables e below (s₁.setTop (entryFrame m #[.ref b, .int (Int32.ofNat o), .int (Int32.ofNat len)] 6)) (T3.setTop (mkF m 3 #[.val (.ref b), .val (.int (Int32.ofNat o)), .val (.int (Int32.ofNat len)), .unset, .unset, .unset] [.ref s.heap.size])) := c2.trans (st3 _ (Steps.refl _))
  have c5 : Steps p.tables e below (s₁.setTop (entryFrame m #[.ref b, .int (Int32.ofNat o), .int (Int32.ofNat len)] 6)) (T3.setTop (mkF m 9 #[.val (.ref b), .val (.int (Int32.ofNat o)), .val (.int (Int32.ofNat len)), .val (.ref s.heap.size), .unset, .unset] [.int (Int32.ofNat len), .int 0, .ref s.heap.size, .int (Int32.ofNat o), .ref b])) := c4.trans (by
    refine XS.astoreN X3.here hexec rfl (hb hbytes d3) rfl rfl rfl ?_
    refine XS.aloadN X3.here hexec rfl (hb hbytes d4) rfl rfl ?_
    refine XS.iloadN X3.here hexec rfl (hb hbytes d5) rfl ?_
    refine XS.aloadN X3.here hexec rfl (hb hbytes d6) rfl rfl ?_
    refine iconstV X3.here hexec rfl 0 (hb hbytes d7) (by decide) ?_
    refine XS.iloadN X3.here hexec rfl (hb hbytes d8) rfl ?_
    exact Steps.refl _)
  obtain ⟨v6, T6, X6, E6, g6⟩ := X3.callS hexec (Cmp5.law l b A s.heap.size B3 o 0 len) hown (wks W (staticW U16 115 Cmp5.yN)) (wk W Cmp5.tab) (W := 0) (Nat.le_of_ble_eq_true rfl) (Nat.le_of_ble_eq_true rfl) (Nat.le_refl _) (by show 0 + len + 0 ≤ len; omega) (g := (mkF m 9 #[.val (.ref b), .val (.int (Int32.ofNat o)), .val (.int (Int32.ofNat len)), .val (.ref s.heap.size), .unset, .unset] [.int (Int32.ofNat len), .int (Int32.ofNat 0), .ref s.heap.size, .int (Int32.ofNat o), .ref b])) rfl (by rw [hml]; rfl) c5 (argsL := [.ref b, .int (Int32.ofNat o), .ref s.heap.size, .int (Int32.ofNat 0), .int (Int32.ofNat len)]) (rest := []) rfl rfl (by show 2 * 0 + 0 ≤ _; decide) (hb hbytes d9) (⟨rfl, hA3, ba3, hne, l1, by rw [bs3]; simp, hp⟩)
  obtain ⟨rfl, B6, p6, f6⟩ := E6
  have c7 : Steps p.tables e below (s₁.setTop (entryFrame m #[.ref b, .int (Int32.ofNat o), .int (Int32.ofNat len)] 6)) (T6.setTop (mkF m 12 #[.val (.ref b), .val (.int (Int32.ofNat o)), .val (.int (Int32.ofNat len)), .val (.ref s.heap.size), .unset, .unset] [.int (Int32.ofNat len)])) := g6
  have c8 : Steps p.tables e below (s₁.setTop (entryFrame m #[.ref b, .int (Int32.ofNat o), .int (Int32.ofNat len)] 6)) (T6.setTop (mkF m 58 #[.val (.ref b), .val (.int (Int32.ofNat o)), .val (.int (Int32.ofNat len)), .val (.ref s.heap.size), .val (.int (Int32.ofNat len)), .unset] [.ref s.heap.size])) := c7.trans (by
    refine XS.istore X6.here hexec rfl (hb hbytes d12) rfl rfl ?_
    refine XS.iload X6.here hexec rfl (hb hbytes d14) rfl ?_
    refine XS.iloadN X6.here hexec rfl (hb hbytes d16) rfl ?_
    refine XS.icmpYes X6.here hexec rfl (pc0 := 17) rfl (hb hbytes d17) rfl (ii_eq_t rfl) (by decide) rfl ?_
    refine XS.aloadN X6.here hexec rfl (hb hbytes d57) rfl rfl ?_
    exact Steps.refl _)
  have X8 := X6.wide (L' := []) (cells' := 1) (slots' := len) (fun x hx hlt => by
    simp only [List.nil_append, copyLocs, List.mem_map, List.mem_range] at hx
    obtain ⟨i, -, rfl⟩ := hx
    exact absurd hlt (Nat.lt_irrefl _)) (Nat.le_refl _) (by omega)
  exact ⟨T6, some (.ref s.heap.size), _, _, _, X8, rfl, rfl, rfl, (fun h => by cases h), ⟨⟨rfl, B6, ba3.like (X3.warmed.alike.symm.trans X6.warmed.alike) p6.1 f6.1 f6.2.1 f6.2.2.1, f6.2.1.trans bv3, by rw [X6.warmed.alike.findClass, f6.1]; exact bf3, by rw [f6.2.2.1, bs3]; simp, fun j hj => by rw [f6.2.2.2 j, if_pos (by omega)]; rfl, kp3.put p6 (Nat.le_refl _)⟩, by rw [p6.2.2, bh3, hh0]; simp⟩, fun fs hl => c8.trans (X8.areturnOut hexec rfl hret rfl (hb hbytes d58) hl)⟩
end Cmp3
namespace CodL
def yN : MethodName := ⟨"java/lang/StringUTF16", "coderFromArrayLen", "([BI)B"⟩
abbrev yB : ByteArray := jdk_52_method_15_code
theorem d0 : decode yB 0 = .ok (.iload_n 1, 1) := by decide +kernel
theorem d1 : decode yB 1 = .ok (.aload_n 0, 1) := by decide +kernel
theorem d2 : decode yB 2 = .ok (.arraylength, 1) := by decide +kernel
theorem d3 : decode yB 3 = .ok (.isub, 1) := by decide +kernel
theorem d4 : decode yB 4 = .ok (.bipush 31, 2) := by decide +kernel
theorem d6 : decode yB 6 = .ok (.iushr, 1) := by decide +kernel
theorem d7 : decode yB 7 = .ok (.i2b, 1) := by decide +kernel
theorem d8 : decode yB 8 = .ok (.ireturn, 1) := by decide +kernel
def site : List Cond := []
def tab : Cond := tabOf yN yB 2 (some .byte) site
def P (d : Addr) (B : Cell) (args : Array Value) (s : State) : Prop := args = #[.ref d, .int (Int32.ofNat B.slots.size)] ∧ Arr .byte d B s
def E (r : Option Value) (s u : State) : Prop := XT.PureE (some (.int 0)) r s u
/-- an array as long as the number of chars: LATIN1 -/
theorem law (l : Launch) (d : Addr) (B : Cell) : Law l yN 2 2 0 0 yB 2 (some .byte) site (P d B) E [] 0 0 := by
  refine Law.of_walk (plainFor_of_name (by decide +kernel)) (by decide +kernel) (by decide +kernel) (by decide) (fun _ _ h => by rw [h.1]; rfl) (fun _ U U' hal hh h => ⟨h.1, h.2.mv hal hh⟩) (fun r U U' V V' h1 hal h2 h => XT.PureE.mv r U U' V V' h1 hal h2 h) ?_
  intro p e s m args below meth c s₁ X0 hexec hbytes hml hret hlk hnm hown hh0 W hP
  obtain ⟨rfl, hB⟩ := hP
  have hB0 := hB.mv X0.warmed.alike hh0
  have c1 : Steps p.tables e below (s₁.setTop (entryFrame m #[.ref d, .int (Int32.ofNat B.slots.size)] 2)) (s₁.setTop (mkF m 0 #[.val (.ref d), .val (.int (Int32.ofNat B.slots.size))] [])) := entry rfl
  have c2 : Steps p.tables e below (s₁.setTop (entryFrame m #[.ref d, .int (Int32.ofNat B.slots.size)] 2)) (s₁.setTop (mkF m 2 #[.val (.ref d), .val (.int (Int32.ofNat B.slots.size))] [.ref d, .int (Int32.ofNat B.slots.size)])) := c1.trans (by
    refine XS.iloadN X0.here hexec rfl (hb hbytes d0) rfl ?_
    refine XS.aloadN X0.here hexec rfl (hb hbytes d1) rfl rfl ?_
    exact Steps.refl _)
  have c3 : Steps p.tables e below (s₁.setTop (entryFrame m #[.ref d, .int (Int32.ofNat B.slots.size)] 2)) (s₁.setTop (mkF m 8 #[.val (.ref d), .val (.int (Int32.ofNat B.slots.size))] [.int (lo8 (ushr (Int32.ofNat B.slots.size - Int32.ofNat B.slots.size) 31))])) := c2.trans (by
    refine X0.alen hexec hB0 rfl rfl (hb hbytes d2) ?_
    refine XS.isub X0.here hexec rfl (hb hbytes d3) rfl ?_
    refine bipushV X0.here hexec rfl 31 (hb hbytes d4) (by decide) ?_
    refine iushr X0.here hexec rfl (hb hbytes d6) rfl ?_
    refine i2b X0.here hexec rfl (hb hbytes d7) rfl ?_
    exact Steps.refl _)
  have e0 : lo8 (ushr (Int32.ofNat B.slots.size - Int32.ofNat B.slots.size) 31) = 0 := by rw [Int32.sub_self]; decide
  rw [e0] at c3
  exact ⟨s₁, some (.int 0), _, _, _, X0, rfl, rfl, rfl, (fun h => by cases h), ⟨rfl, hh0⟩, fun fs hl => c3.trans (X0.ireturnOut hexec hret rfl (Or.inr (Or.inr (Or.inl rfl))) (hb hbytes d8) hl)⟩
end CodL
/-- the String at a is Latin-1 over a new byte[] (the heap's one new cell): the low bytes of the len chars of A from o on; every cell but a is kept -/
def Got (a : Addr) (D : Cell) (fV fC : Field) (A : Cell) (o len : Nat) (r : Option Value) (s u : State) : Prop := r = none ∧ ∃ D' V : Cell, Blank "java/lang/String" a D' u ∧ Same D D' [fV.slot, fC.slot] ∧ D'.slots[fV.slot]? = some (.ref s.heap.size) ∧ D'.slots[fC.slot]? = some (.int 0) ∧ Arr .byte s.heap.size V u ∧ V.vm = .none ∧ u.vm.findClass "[B" = some V.cls ∧ V.slots.size = len ∧ (∀ j, j < len → V.slots[j]? = some (.int (lo8 (cv A (o + j))))) ∧ (∀ (y : Addr) (c : Cell), y ≠ a → s.heap[y]? = some c → u.heap[y]? = some c) ∧ u.heap.size = s.heap.size + 1
theorem Got.mv {a : Addr} {D A : Cell} {fV fC : Field} {o len : Nat} : ∀ r (U U' V V' : State), U'.heap = U.heap → V.vm.Alike V'.vm → V'.heap = V.heap → Got a D fV fC A o len r U V → Got a D fV fC A o len r U' V' :=
  fun r U U' V V' h1 hal h2 ⟨e0, D', X, a1, a2, a3, a4, a5, a6, a7, a8, a9, a10, a11⟩ => ⟨e0, D', X, a1.mv hal h2, a2, by rw [h1]; exact a3, a4, by rw [h1]; exact a5.mv hal h2, a6, by rw [hal.findClass]; exact a7, a8, a9, by rw [h1, h2]; exact a10, by rw [h1, h2]; exact a11⟩
namespace New4
def yN : MethodName := ⟨"java/lang/String", "<init>", "([CIILjava/lang/Void;)V"⟩
abbrev yB : ByteArray := jdk_42_method_149_code
theorem d0 : decode yB 0 = .ok (.aload_n 0, 1) := by decide +kernel
theorem d1 : decode yB 1 = .ok (.invokespecial 1, 3) := by decide +kernel
theorem d4 : decode yB 4 = .ok (.iload_n 3, 1) := by decide +kernel
theorem d5 : decode yB 5 = .ok (.ifCond (.ne) 22, 3) := by decide +kernel
theorem d27 : decode yB 27 = .ok (.getstatic 38, 3) := by decide +kernel
theorem d30 : decode yB 30 = .ok (.ifCond (.eq) 28, 3) := by decide +kernel
theorem d33 : decode yB 33 = .ok (.aload_n 1, 1) := by decide +kernel
theorem d34 : decode yB 34 = .ok (.iload_n 2, 1) := by decide +kernel
theorem d35 : decode yB 35 = .ok (.iload_n 3, 1) := by decide +kernel
theorem d36 : decode yB 36 = .ok (.invokestatic 177, 3) := by decide +kernel
theorem d39 : decode yB 39 = .ok (.astore 5, 2) := by decide +kernel
theorem d41 : decode yB 41 = .ok (.aload_n 0, 1) := by decide +kernel
theorem d42 : decode yB 42 = .ok (.aload 5, 2) := by decide +kernel
theorem d44 : decode yB 44 = .ok (.iload_n 3, 1) := by decide +kernel
theorem d45 : decode yB 45 = .ok (.invokestatic 47, 3) := by decide +kernel
theorem d48 : decode yB 48 = .ok (.putfield 15, 3) := by decide +kernel
theorem d51 : decode yB 51 = .ok (.aload_n 0, 1) := by decide +kernel
theorem d52 : decode yB 52 = .ok (.aload 5, 2) := by decide +kernel
theorem d54 : decode yB 54 = .ok (.putfield 9, 3) := by decide +kernel
theorem d57 : decode yB 57 = .ok (.return_, 1) := by decide +kernel
def site : List Cond := [.fieldLink "java/lang/String" 38 "java/lang/String" "COMPACT_STRINGS" "Z", Cmp3.tab, CodL.tab, .laysFinal "java/lang/String" "java/lang/String" "value" "[B", .fieldLink "java/lang/String" 9 "java/lang/String" "value" "[B", .laysFinal "java/lang/String" "java/lang/String" "coder" "B", .fieldLink "java/lang/String" 15 "java/lang/String" "coder" "B"] ++ objW "java/lang/String" 1 ++ staticW "java/lang/String" 177 Cmp3.yN ++ staticW "java/lang/String" 47 CodL.yN
def tab : Cond := tabOf yN yB 6 none site
def P (a : Addr) (D : Cell) (fV fC : Field) (b : Addr) (A : Cell) (z : Int32) (o len : Nat) (args : Array Value) (s : State) : Prop := args = #[.ref a, .ref b, .int (Int32.ofNat o), .int (Int32.ofNat len), .null] ∧ Blank "java/lang/String" a D s ∧ Found "java/lang/String" "value" "[B" fV s ∧ Found "java/lang/String" "coder" "B" fC s ∧ Ch b A s ∧ StaticIs s "java/lang/String" "COMPACT_STRINGS" "Z" (.int z) ∧ ¬ z = 0 ∧ 0 < len ∧ o + len ≤ A.slots.size ∧ len ≤ 536870912 ∧ ∀ i, i < len → ¬ 255 < cv A (o + i)
def E (a : Addr) (D : Cell) (fV fC : Field) (A : Cell) (o len : Nat) (r : Option Value) (s u : State) : Prop := Got a D fV fC A o len r s u
/-- len > 0, no char of the range above 255: a Latin-1 String of their low bytes -/
theorem law (l : Launch) (a : Addr) (D : Cell) (fV fC : Field) (b : Addr) (A : Cell) (z : Int32) (o len : Nat) : Law l yN 5 4 2 35 yB 6 none site (P a D fV fC b A z o len) (E a D fV fC A o len) [⟨a, fC.slot⟩, ⟨a, fV.slot⟩] 1 len := by
  refine Law.of_walk (plainFor_of_name (by decide +kernel)) (by decide +kernel) (by decide +kernel) (by decide) (fun _ _ h => by rw [h.1]; rfl) (fun _ U U' hal hh h => ⟨h.1, h.2.1.mv hal hh, h.2.2.1.al hal, h.2.2.2.1.al hal, h.2.2.2.2.1.mv hal hh, h.2.2.2.2.2.1.there hal hh, h.2.2.2.2.2.2⟩) (fun r U U' V V' h1 hal h2 h => Got.mv r U U' V V' h1 hal h2 h) ?_
  intro p e s m args below meth c s₁ X0 hexec hbytes hml hret hlk hnm hown hh0 W hP
  obtain ⟨rfl, hB, f1, f2, hA, s1, hz, l0, l1, l2, hp⟩ := hP
  have a31 := hA.1.2.2.2
  have c1 : Steps p.tables e below (s₁.setTop (entryFrame m #[.ref a, .ref b, .int (Int32.ofNat o), .int (Int32.ofNat len), .null] 6)) (s₁.setTop (mkF m 0 #[.val (.ref a), .val (.ref b), .val (.int (Int32.ofNat o)), .val (.int (Int32.ofNat len)), .val .null, .unset] [])) := entry rfl
  have c2 : Steps p.tables e below (s₁.setTop (entryFrame m #[.ref a, .ref b, .int (Int32.ofNat o), .int (Int32.ofNat len), .null] 6)) (s₁.setTop (mkF m 1 #[.val (.ref a), .val (.ref b), .val (.int (Int32.ofNat o)), .val (.int (Int32.ofNat len)), .val .null, .unset] [.ref a])) := c1.trans (by
    refine XS.aloadN X0.here hexec rfl (hb hbytes d0) rfl rfl ?_
    exact Steps.refl _)
  obtain ⟨T3, X3, q3, st3⟩ := X0.oinit hexec hown (wks W (objW "java/lang/String" 1)) (g := (mkF m 1 #[.val (.ref a), .val (.ref b), .val (.int (Int32.ofNat o)), .val (.int (Int32.ofNat len)), .val .null, .unset] [.ref a])) rfl (by rw [hml]; rfl) (rest := []) rfl (hb hbytes d1) (W := 0) (by show 2 * 0 + 0 ≤ _; decide) (Nat.le_of_ble_eq_true rfl) (Nat.le_of_ble_eq_true rfl)
  have hh3 := q3.trans hh0
  have c4 : Steps p.tables e below (s₁.setTop (entryFrame m #[.ref a, .ref b, .int (Int32.ofNat o), .int (Int32.ofNat len), .null] 6)) (T3.setTop (mkF m 27 #[.val (.ref a), .val (.ref b), .val (.int (Int32.ofNat o)), .val (.int (Int32.ofNat len)), .val .null, .unset] [])) := (c2.trans (st3 _ (Steps.refl _))).trans (by
    refine XS.iloadN X3.here hexec rfl (hb hbytes d4) rfl ?_
    refine XS.ifYes X3.here hexec rfl (pc0 := 5) rfl (hb hbytes d5) rfl (i0_ne_t (nz32 (by omega) l0)) (by decide) rfl ?_
    exact Steps.refl _)
  obtain ⟨T5, X5, q5, st5⟩ := X3.sget hexec hown (wk W (.fieldLink "java/lang/String" 38 "java/lang/String" "COMPACT_STRINGS" "Z")) s1 (fun _ _ h => by rw [hh3]; exact h) (g := (mkF m 27 #[.val (.ref a), .val (.ref b), .val (.int (Int32.ofNat o)), .val (.int (Int32.ofNat len)), .val .null, .unset] [])) rfl (hb hbytes d27)
  have hh5 := q5.trans hh3
  have c6 : Steps p.tables e below (s₁.setTop (entryFrame m #[.ref a, .ref b, .int (Int32.ofNat o), .int (Int32.ofNat len), .null] 6)) (T5.setTop (mkF m 30 #[.val (.ref a), .val (.ref b), .val (.int (Int32.ofNat o)), .val (.int (Int32.ofNat len)), .val .null, .unset] [.int z])) := c4.trans (st5 _ (Steps.refl _))
  have c7 : Steps p.tables e below (s₁.setTop (entryFrame m #[.ref a, .ref b, .int (Int32.ofNat o), .int (Int32.ofNat len), .null] 6)) (T5.setTop (mkF m 36 #[.val (.ref a), .val (.ref b), .val (.int (Int32.ofNat o)), .val (.int (Int32.ofNat len)), .val .null, .unset] [.int (Int32.ofNat len), .int (Int32.ofNat o), .ref b])) := c6.trans (by
    refine XS.ifNo X5.here hexec rfl (hb hbytes d30) rfl (i0_eq_f hz) ?_
    refine XS.aloadN X5.here hexec rfl (hb hbytes d33) rfl rfl ?_
    refine XS.iloadN X5.here hexec rfl (hb hbytes d34) rfl ?_
    refine XS.iloadN X5.here hexec rfl (hb hbytes d35) rfl ?_
    exact Steps.refl _)
  obtain ⟨v8, T8, X8, E8, g8⟩ := X5.callS hexec (Cmp3.law l b A o len) hown (wks W (staticW "java/lang/String" 177 Cmp3.yN)) (wk W Cmp3.tab) (W := 0) (Nat.le_of_ble_eq_true rfl) (Nat.le_of_ble_eq_true rfl) (Nat.le_refl _) (by show 0 + len ≤ len; omega) (g := (mkF m 36 #[.val (.ref a), .val (.ref b), .val (.int (Int32.ofNat o)), .val (.int (Int32.ofNat len)), .val .null, .unset] [.int (Int32.ofNat len), .int (Int32.ofNat o), .ref b])) rfl (by rw [hml]; rfl) c7 (argsL := [.ref b, .int (Int32.ofNat o), .int (Int32.ofNat len)]) (rest := []) rfl rfl (by show 2 * 0 + 0 ≤ _; decide) (hb hbytes d36) (⟨rfl, hA.mv X5.warmed.alike hh5, l1, l2, hp⟩)
  obtain ⟨e8, z8⟩ := E8
  obtain ⟨rfl, N, n1, n2, n3, n4, n5, n6⟩ := NewArr.mv _ T5 s _ _ hh5.symm (Vm.Alike.refl _) rfl e8
  rw [hh5] at z8
  have hB1 := hB.keep X8.warmed.alike (n6 _ _ hB.1)
  have hne : s.heap.size ≠ a := (Nat.ne_of_lt (Array.getElem?_eq_some_iff.mp hB.1).1).symm
  have c9 : Steps p.tables e below (s₁.setTop (entryFrame m #[.ref a, .ref b, .int (Int32.ofNat o), .int (Int32.ofNat len), .null] 6)) (T8.setTop (mkF m 39 #[.val (.ref a), .val (.ref b), .val (.int (Int32.ofNat o)), .val (.int (Int32.ofNat len)), .val .null, .unset] [.ref s.heap.size])) := g8
  have c10 : Steps p.tables e below (s₁.setTop (entryFrame m #[.ref a, .ref b, .int (Int32.ofNat o), .int (Int32.ofNat len), .null] 6)) (T8.setTop (mkF m 45 #[.val (.ref a), .val (.ref b), .val (.int (Int32.ofNat o)), .val (.int (Int32.ofNat len)), .val .null, .val (.ref s.heap.size)] [.int (Int32.ofNat N.slots.size), .ref s.heap.size, .ref a])) := by
    have hc : Steps p.tables e below (s₁.setTop (entryFrame m #[.ref a, .ref b, .int (Int32.ofNat o), .int (Int32.ofNat len), .null] 6)) (T8.setTop (mkF m 45 #[.val (.ref a), .val (.ref b), .val (.int (Int32.ofNat o)), .val (.int (Int32.ofNat len)), .val .null, .val (.ref s.heap.size)] [.int (Int32.ofNat len), .ref s.heap.size, .ref a])) := c9.trans (by
      refine XS.astore X8.here hexec rfl (hb hbytes d39) rfl rfl rfl ?_
      refine XS.aloadN X8.here hexec rfl (hb hbytes d41) rfl rfl ?_
      refine XS.aload X8.here hexec rfl (hb hbytes d42) rfl rfl ?_
      refine XS.iloadN X8.here hexec rfl (hb hbytes d44) rfl ?_
      exact Steps.refl _)
    rw [n4]; exact hc
  obtain ⟨v11, T11, X11, E11, g11⟩ := X8.callS hexec (CodL.law l s.heap.size N) hown (wks W (staticW "java/lang/String" 47 CodL.yN)) (wk W CodL.tab) (W := 1) (Nat.le_of_ble_eq_true rfl) (Nat.le_of_ble_eq_true rfl) (Nat.le_refl _) (by show 0 + len + 0 ≤ len; omega) (g := (mkF m 45 #[.val (.ref a), .val (.ref b), .val (.int (Int32.ofNat o)), .val (.int (Int32.ofNat len)), .val .null, .val (.ref s.heap.size)] [.int (Int32.ofNat N.slots.size), .ref s.heap.size, .ref a])) rfl (by rw [hml]; rfl) c10 (argsL := [.ref s.heap.size, .int (Int32.ofNat N.slots.size)]) (rest := [.ref a]) rfl rfl (by show 2 * 0 + (1 + 0) ≤ _; decide) (hb hbytes d45) (⟨rfl, n1⟩)
  obtain ⟨rfl, q11⟩ := E11
  have hB11 := hB1.mv (X8.warmed.alike.symm.trans X11.warmed.alike) q11
  have c12 : Steps p.tables e below (s₁.setTop (entryFrame m #[.ref a, .ref b, .int (Int32.ofNat o), .int (Int32.ofNat len), .null] 6)) (T11.setTop (mkF m 48 #[.val (.ref a), .val (.ref b), .val (.int (Int32.ofNat o)), .val (.int (Int32.ofNat len)), .val .null, .val (.ref s.heap.size)] [.int 0, .ref a])) := g11
  obtain ⟨T13, X13, p13, bl13, sl13, st13⟩ := X11.finit hexec hown (wk W (.fieldLink "java/lang/String" 15 "java/lang/String" "coder" "B")) (Or.inr ⟨_, (wk W (.laysFinal "java/lang/String" "java/lang/String" "coder" "B"))⟩) (Or.inl ⟨rfl, hnm⟩) f2 (Or.inl rfl) hB11 (t := .byte) (by decide +kernel) rfl (g := (mkF m 48 #[.val (.ref a), .val (.ref b), .val (.int (Int32.ofNat o)), .val (.int (Int32.ofNat len)), .val .null, .val (.ref s.heap.size)] [.int 0, .ref a])) rfl (rest := []) rfl (hb hbytes d48)
  have c14 : Steps p.tables e below (s₁.setTop (entryFrame m #[.ref a, .ref b, .int (Int32.ofNat o), .int (Int32.ofNat len), .null] 6)) (T13.setTop (mkF m 54 #[.val (.ref a), .val (.ref b), .val (.int (Int32.ofNat o)), .val (.int (Int32.ofNat len)), .val .null, .val (.ref s.heap.size)] [.ref s.heap.size, .ref a])) := (c12.trans (st13 _ (Steps.refl _))).trans (by
    refine XS.aloadN X13.here hexec rfl (hb hbytes d51) rfl rfl ?_
    refine XS.aload X13.here hexec rfl (hb hbytes d52) rfl rfl ?_
    exact Steps.refl _)
  obtain ⟨T15, X15, p15, bl15, sl15, st15⟩ := X13.finit hexec hown (wk W (.fieldLink "java/lang/String" 9 "java/lang/String" "value" "[B")) (Or.inr ⟨_, (wk W (.laysFinal "java/lang/String" "java/lang/String" "value" "[B"))⟩) (Or.inl ⟨rfl, hnm⟩) f1 (Or.inl rfl) bl13 (t := (.array .byte)) (by decide +kernel) rfl (g := (mkF m 54 #[.val (.ref a), .val (.ref b), .val (.int (Int32.ofNat o)), .val (.int (Int32.ofNat len)), .val .null, .val (.ref s.heap.size)] [.ref s.heap.size, .ref a])) rfl (rest := []) rfl (hb hbytes d54)
  have c16 : Steps p.tables e below (s₁.setTop (entryFrame m #[.ref a, .ref b, .int (Int32.ofNat o), .int (Int32.ofNat len), .null] 6)) (T15.setTop (mkF m 57 #[.val (.ref a), .val (.ref b), .val (.int (Int32.ofNat o)), .val (.int (Int32.ofNat len)), .val .null, .val (.ref s.heap.size)] [])) := c14.trans (st15 _ (Steps.refl _))
  have ap := apart (Or.inr ⟨_, (wk W (.laysFinal "java/lang/String" "java/lang/String" "value" "[B"))⟩) (Or.inr ⟨_, (wk W (.laysFinal "java/lang/String" "java/lang/String" "coder" "B"))⟩) f1 f2 (t₁ := .array .byte) (t₂ := .byte) (by decide +kernel) (by decide +kernel) (by decide)
  have al := X8.warmed.alike.symm.trans X15.warmed.alike
  have n7 : T11.heap[s.heap.size]? = some N := by rw [q11]; exact n1.1
  exact ⟨T15, none, _, _, _, X15, by simp, rfl, by omega, (fun _ => rfl), ⟨rfl, _, N, bl15, ((Same.refl D _).set _ (by simp)).set _ (by simp), sl15, (Cell.slots_setSlot_ne _ ap).trans sl13, n1.keep al (p15.other hne (p13.other hne n7)), n2, by rw [al.findClass]; exact n3, n4, n5, fun y c h1 h2 => p15.other h1 (p13.other h1 (by rw [q11]; exact n6 y c h2)), by rw [p15.2.2, p13.2.2, q11]; exact z8⟩, fun fs hl => c16.trans (X15.returnOut hexec hret (hb hbytes d57) hl)⟩
end New4
namespace New1
def yN : MethodName := ⟨"java/lang/String", "<init>", "([C)V"⟩
abbrev yB : ByteArray := jdk_42_method_3_code
theorem d0 : decode yB 0 = .ok (.aload_n 0, 1) := by decide +kernel
theorem d1 : decode yB 1 = .ok (.aload_n 1, 1) := by decide +kernel
theorem d2 : decode yB 2 = .ok (.iconst 0, 1) := by decide +kernel
theorem d3 : decode yB 3 = .ok (.aload_n 1, 1) := by decide +kernel
theorem d4 : decode yB 4 = .ok (.arraylength, 1) := by decide +kernel
theorem d5 : decode yB 5 = .ok (.aconst_null, 1) := by decide +kernel
theorem d6 : decode yB 6 = .ok (.invokespecial 27, 3) := by decide +kernel
theorem d9 : decode yB 9 = .ok (.return_, 1) := by decide +kernel
def site : List Cond := [New4.tab] ++ initW "java/lang/String" 27 New4.yN
def tab : Cond := tabOf yN yB 2 none site
def P (a : Addr) (D : Cell) (fV fC : Field) (b : Addr) (A : Cell) (z : Int32) (args : Array Value) (s : State) : Prop := args = #[.ref a, .ref b] ∧ Blank "java/lang/String" a D s ∧ Found "java/lang/String" "value" "[B" fV s ∧ Found "java/lang/String" "coder" "B" fC s ∧ Ch b A s ∧ StaticIs s "java/lang/String" "COMPACT_STRINGS" "Z" (.int z) ∧ ¬ z = 0 ∧ 0 < A.slots.size ∧ A.slots.size ≤ 536870912 ∧ ∀ i, i < A.slots.size → ¬ 255 < cv A i
def E (a : Addr) (D : Cell) (fV fC : Field) (A : Cell) (r : Option Value) (s u : State) : Prop := Got a D fV fC A 0 A.slots.size r s u
/-- new String(chars), not empty, no char above 255: a Latin-1 String of their low bytes -/
theorem law (l : Launch) (a : Addr) (D : Cell) (fV fC : Field) (b : Addr) (A : Cell) (z : Int32) : Law l yN 2 1 3 52 yB 2 none site (P a D fV fC b A z) (E a D fV fC A) [⟨a, fC.slot⟩, ⟨a, fV.slot⟩] 1 A.slots.size := by
  refine Law.of_walk (plainFor_of_name (by decide +kernel)) (by decide +kernel) (by decide +kernel) (by decide) (fun _ _ h => by rw [h.1]; rfl) (fun _ U U' hal hh h => ⟨h.1, h.2.1.mv hal hh, h.2.2.1.al hal, h.2.2.2.1.al hal, h.2.2.2.2.1.mv hal hh, h.2.2.2.2.2.1.there hal hh, h.2.2.2.2.2.2⟩) (fun r U U' V V' h1 hal h2 h => Got.mv r U U' V V' h1 hal h2 h) ?_
  intro p e s m args below meth c s₁ X0 hexec hbytes hml hret hlk hnm hown hh0 W hP
  obtain ⟨rfl, hB, f1, f2, hA, s1, hz, l0, l2, hp⟩ := hP
  have c1 : Steps p.tables e below (s₁.setTop (entryFrame m #[.ref a, .ref b] 2)) (s₁.setTop (mkF m 0 #[.val (.ref a), .val (.ref b)] [])) := entry rfl
  have c2 : Steps p.tables e below (s₁.setTop (entryFrame m #[.ref a, .ref b] 2)) (s₁.setTop (mkF m 6 #[.val (.ref a), .val (.ref b)] [.null, .int (Int32.ofNat A.slots.size), .int 0, .ref b, .ref a])) := c1.trans (by
    refine XS.aloadN X0.here hexec rfl (hb hbytes d0) rfl rfl ?_
    refine XS.aloadN X0.here hexec rfl (hb hbytes d1) rfl rfl ?_
    refine iconstV X0.here hexec rfl 0 (hb hbytes d2) (by decide) ?_
    refine XS.aloadN X0.here hexec rfl (hb hbytes d3) rfl rfl ?_
    refine X0.alen hexec (hA.1.mv X0.warmed.alike hh0) rfl rfl (hb hbytes d4) ?_
    refine XS.aconstNull X0.here hexec rfl (hb hbytes d5) ?_
    exact Steps.refl _)
  obtain ⟨v3, T3, X3, E3, g3⟩ := X0.callN hexec (New4.law l a D fV fC b A z 0 A.slots.size) rfl hown (wks W (initW "java/lang/String" 27 New4.yN)) (W New4.tab (by simp only [site, List.mem_cons, List.mem_append, true_or, or_true])) (W := 0) (Nat.le_of_ble_eq_true rfl) (Nat.le_of_ble_eq_true rfl) (Nat.le_refl _) (by show 0 + A.slots.size ≤ A.slots.size; omega) (g := (mkF m 6 #[.val (.ref a), .val (.ref b)] [.null, .int (Int32.ofNat A.slots.size), .int (Int32.ofNat 0), .ref b, .ref a])) rfl (by rw [hml]; rfl) c2 (argsL := [.ref b, .int (Int32.ofNat 0), .int (Int32.ofNat A.slots.size), .null]) (rest := []) rfl rfl (by show 2 * 0 + 0 ≤ _; decide) (hb hbytes d6) (⟨rfl, hB.mv X0.warmed.alike hh0, f1.al X0.warmed.alike, f2.al X0.warmed.alike, hA.mv X0.warmed.alike hh0, s1.there X0.warmed.alike hh0, hz, l0, by omega, l2, fun i hi => by rw [Nat.zero_add]; exact hp i hi⟩)
  have e0 := Got.mv _ s₁ s _ _ hh0.symm (Vm.Alike.refl _) rfl E3
  obtain rfl := e0.1
  have c4 : Steps p.tables e below (s₁.setTop (entryFrame m #[.ref a, .ref b] 2)) (T3.setTop (mkF m 9 #[.val (.ref a), .val (.ref b)] [])) := g3
  exact ⟨T3, none, _, _, _, X3, by simp, rfl, by omega, (fun _ => rfl), e0, fun fs hl => c4.trans (X3.returnOut hexec hret (hb hbytes d9) hl)⟩
theorem pays {l : Launch} {R : Room} {p : Program} {e : Env} {below : List Frame} {s : State} {sargs : Array Value} {len W : Nat} (a : Addr) (D : Cell) (fV fC : Field) (b : Addr) (A : Cell) (z : Int32) (htab : tab.before sargs s = true) (hfr : 4 ≤ R.frames) (hlo : W + 65 ≤ R.locals) :
    Back l R p e below s sargs yN len W (fun A₁ a₁ => A₁.cells + 1 ≤ R.cells ∧ A₁.slots + A.slots.size ≤ R.slots ∧ P a D fV fC b A z a₁ A₁.U) (fun A₁ _ v₁ B₁ => E a D fV fC A v₁ A₁.U B₁.U ∧ B₁.locs = A₁.locs ++ [⟨a, fC.slot⟩, ⟨a, fV.slot⟩] ∧ B₁.cells = A₁.cells + 1 ∧ B₁.slots = A₁.slots + A.slots.size) :=
  (law l a D fV fC b A z).pays htab hfr (by omega)
end New1
/-- the byte, read back as charAt reads it, is the char -/
theorem lo8_mask {x : Int32} (h0 : ¬ x < 0) (h1 : ¬ 255 < x) : lo8 x &&& 255 = x := by
  have t : ∀ k : Fin 256, lo8 (Int32.ofNat k.val) &&& 255 = Int32.ofNat k.val := by decide +kernel
  rw [Int32.lt_iff_toInt_lt] at h0 h1
  have e0 : (0 : Int32).toInt = 0 := rfl
  have e1 : (255 : Int32).toInt = 255 := rfl
  obtain ⟨k, hk⟩ : ∃ k : Nat, x.toInt = k := ⟨x.toInt.toNat, by omega⟩
  have hx : x = Int32.ofNat k := Int32.toInt_inj.mp (by rw [hk, Int32.toInt_ofNat_small (by omega)])
  rw [hx]
  exact t ⟨k, by omega⟩
end StrChars
namespace StrChars.Road
open Jvm Sem ClassFile Op Lib Jvm.Stand Jvm.Free Jvm.Free.XT
open Jvm.Lib.Cold (StaticIs)
abbrev ST : String := "java/lang/String"
/-- every table word that New1's law asks, flat -/
abbrev words : List Jvm.Cond := [.code New1.yN New1.yB 2 none, .initialized ST, .methodLink ST 27 New4.yN, .instanceMethod New4.yN,
  .code New4.yN New4.yB 6 none, .fieldLink ST 38 ST "COMPACT_STRINGS" "Z", .laysFinal ST ST "value" "[B", .fieldLink ST 9 ST "value" "[B", .laysFinal ST ST "coder" "B", .fieldLink ST 15 ST "coder" "B",
  .methodLink ST 1 Lib.objectInit, .instanceMethod Lib.objectInit, .code Lib.objectInit ⟨#[0xb1]⟩ 1 none, .methodLink ST 177 Cmp3.yN, .static Cmp3.yN, .methodLink ST 47 CodL.yN, .static CodL.yN,
  .code Cmp3.yN Cmp3.yB 6 (some (.array .byte)), .initialized U16, .arrayClass .byte, .methodLink U16 115 Cmp5.yN, .static Cmp5.yN, .code Cmp5.yN Cmp5.yB 7 (some .int), .code CodL.yN CodL.yB 2 (some .byte)]
theorem tab_of {a : Array Value} {s : State} (h : ∀ w ∈ words, w.before a s = true) : New1.tab.before a s = true := by
  have h5 : Cmp5.tab.before a s = true := unparts (wk h (.code Cmp5.yN Cmp5.yB 7 (some .int))) (wks h (.initialized Cmp5.yN.cls :: Cmp5.site))
  have hc : CodL.tab.before a s = true := unparts (wk h (.code CodL.yN CodL.yB 2 (some .byte))) (wks h (.initialized CodL.yN.cls :: CodL.site))
  have q5 : ∀ w ∈ Cmp5.tab :: words, w.before a s = true := fun w hw => (List.mem_cons.mp hw).elim (fun e => e ▸ h5) (h w)
  have h3 : Cmp3.tab.before a s = true := unparts (wk q5 (.code Cmp3.yN Cmp3.yB 6 (some (.array .byte)))) (wks q5 (.initialized Cmp3.yN.cls :: Cmp3.site))
  have q3 : ∀ w ∈ Cmp3.tab :: CodL.tab :: words, w.before a s = true := fun w hw => (List.mem_cons.mp hw).elim (fun e => e ▸ h3) fun hw => (List.mem_cons.mp hw).elim (fun e => e ▸ hc) (h w)
  have h4 : New4.tab.before a s = true := unparts (wk q3 (.code New4.yN New4.yB 6 none)) (wks q3 (.initialized New4.yN.cls :: New4.site))
  have q4 : ∀ w ∈ New4.tab :: words, w.before a s = true := fun w hw => (List.mem_cons.mp hw).elim (fun e => e ▸ h4) (h w)
  exact unparts (wk q4 (.code New1.yN New1.yB 2 none)) (wks q4 (.initialized New1.yN.cls :: New1.site))
/-- the words ride from the start Z to the walk's own state -/
theorem moved {Z s : State} {a0 args : Array Value} (hZ : Z.Warmed39 s.vm) (hw : ∀ d ∈ words, d.before a0 Z = true) : ∀ d ∈ words, d.before args s = true := fun d hd => by
  have q := hw d hd
  have t : ∀ d ∈ words, d = .arrayClass .byte ∨ (d.onTables && d.keepsFace) = true := by decide +kernel
  rcases t d hd with rfl | t
  · exact RoadKit.mvA hZ q
  · exact RoadKit.mv hZ q t
/-- WHAT COMES BACK, over the tables of the start Z: h the heap at the call, h' behind it -/
def Q (Z : State) (x : Addr) (A : Cell) (h : Heap) (v : Option Value) (h' : Heap) (L : List Loc) : Prop := v = none ∧ (∀ y ∈ L, y.base = x) ∧ RoadKit.Keep h h' [x] ∧ h'.size = h.size + 1 ∧ RoadKit.Exa Z h' x ST ∧ RoadKit.Fld Z h' x ST "value" "[B" (.ref h.size) ∧ RoadKit.Fld Z h' x ST "coder" "B" (.int 0) ∧
  (∃ V : Cell, RoadKit.Arr Z h' h.size V .byte ∧ V.vm = .none ∧ Z.vm.findClass "[B" = some V.cls ∧ V.slots.size = A.slots.size ∧ ∀ j, j < A.slots.size → V.slots[j]? = some (.int (lo8 (cv A j)))) ∧
  ∀ (O n d : String) (w : Value), RoadKit.Fld Z h x O n d w → RoadKit.slotOf Z O n d ≠ RoadKit.slotOf Z ST "value" "[B" → RoadKit.slotOf Z O n d ≠ RoadKit.slotOf Z ST "coder" "B" → RoadKit.Fld Z h' x O n d w
/-- **new String(chars) AT A CALL, IN THE ROAD'S FORM**: for specialBack behind newO: x the fresh String, b the char[] with the cell A -/
theorem back {p : Program} {l : Launch} {e : Env} {R : Room} {s : State} {args : Array Value} {below : List Frame} {len W : Nat} {Z : State} {a0 : Array Value} {h : Heap} (hZ : Z.Warmed39 s.vm) (hw : ∀ d ∈ words, d.before a0 Z = true) {kI : Nat} (wi : (Jvm.Cond.instantiable ST kI).before a0 Z = true)
    {x b : Addr} {A : Cell} {z : Int32} {v0 c0 : Value} (E : RoadKit.Exa Z h x ST) (V : RoadKit.Fld Z h x ST "value" "[B" v0) (C : RoadKit.Fld Z h x ST "coder" "B" c0) (K : RoadKit.Arr Z h b A .char) (hty : Typed .char A) (S : RoadKit.Sta Z h ST "COMPACT_STRINGS" "Z" (.int z)) (hz : ¬ z = 0)
    (l0 : 0 < A.slots.size) (l2 : A.slots.size ≤ 536870912) (hp : ∀ i, i < A.slots.size → ¬ 255 < cv A i) (hfr : 4 ≤ R.frames) (hlo : W + 65 ≤ R.locals) :
    Back l R p e below s args New1.yN len W (fun P a => a = #[.ref x, .ref b] ∧ P.U.heap = h ∧ P.cells + 1 ≤ R.cells ∧ P.slots + A.slots.size ≤ R.slots)
      (fun P _ v B => ∃ L, Q Z x A h v B.U.heap L ∧ B.locs = P.locs ++ L ∧ B.cells = P.cells + 1 ∧ B.slots = P.slots + A.slots.size) := by
  intro m meth c P g ig mk a X hg hsize hdg hW hn hp'
  obtain ⟨rfl, rfl, r1, r2⟩ := hp'
  have al : Z.vm.Alike P.U.vm := hZ.alike.trans X.warmed.alike
  obtain ⟨D, cfV, kV, iV, fV, hD, gV, stV, knV, obV, asV, slV⟩ := id V
  obtain ⟨D', cfC, kC, iC, fC, hD', gC, stC, -, -, asC, slC⟩ := id C
  cases hD.symm.trans hD'
  obtain ⟨D2, kD, e1, e2, e3, e4, e5⟩ := id E
  cases hD.symm.trans e1
  obtain ⟨c2, k2, i1, i2, i3, -⟩ := Cond.instantiable_spec wi
  cases e2.symm.trans i1
  cases e3.symm.trans i2
  obtain ⟨kU, u1, u2⟩ := al.2.2 _ _ e3
  have hB : Blank ST x D P.U := ⟨hD, ⟨knV, fun q hq => by rw [hq] at obV; cases obV⟩, by rw [al.findClass]; exact e2, kU, u1, by rw [u2]; exact i3, by rw [u2]; exact e5 i3⟩
  have F1 : Found ST "value" "[B" fV P.U := ⟨SBG.found_only al ⟨cfV, kV, iV, gV⟩, stV⟩
  have F2 : Found ST "coder" "B" fC P.U := ⟨SBG.found_only al ⟨cfC, kC, iC, gC⟩, stC⟩
  have hA : Ch b A P.U := ⟨⟨K.1, State.isArrayOf_alike al K.2.1, K.2.2, by omega⟩, hty⟩
  have hS : StaticIs P.U ST "COMPACT_STRINGS" "Z" (.int z) := by
    obtain ⟨cfS, iS, kS, fS, st, cS, t1, t2, t3, t4, t5, t6, t7⟩ := S
    exact StaticIs.there (s := { Z with heap := P.U.heap }) ⟨cfS, iS, kS, fS, st, cS, t1, t2, t3, t4, t5, (fun q => by rw [q] at t6; cases t6), t7⟩ al rfl
  obtain ⟨v, B, X', ⟨⟨hv, E', V', q1, q2, q3, q4, q5, q6, q7, q8, q9, q10, q11⟩, hl, hc, hs⟩, st⟩ := New1.pays x D fV fC b A z (tab_of (moved hZ hw)) hfr hlo m meth c P g ig mk _ X hg hsize hdg hW hn ⟨r1, r2, rfl, hB, F1, F2, hA, hS, hz, l0, l2, hp⟩
  have al' : Z.vm.Alike B.U.vm := hZ.alike.trans X'.warmed.alike
  have hsz : E'.slots.size = D.slots.size := by
    obtain ⟨-, -, -, kB, w1, w2, w3⟩ := q1
    obtain ⟨kB', y1, y2⟩ := al'.2.2 _ _ e3
    rw [q2.2.1] at w1
    cases w1.symm.trans y1
    rw [w3, e5 i3, y2]
  refine ⟨v, B, X', ⟨_, ⟨hv, ?_, ⟨by omega, fun y cy hy hn' => q10 y cy (by simpa using hn') hy, fun y cy hy => ?_⟩, q11, ⟨E', _, q1.1, by rw [q2.2.1]; exact e2, by rw [q2.2.1]; exact e3, by rw [q2.1]; exact obV, fun _ => by rw [hsz]; exact e5 i3⟩,
    ⟨E', cfV, kV, iV, fV, q1.1, gV, stV, by rw [q2.1]; exact knV, by rw [q2.1]; exact obV, by rw [q2.2.1]; exact asV, q3⟩, ⟨E', cfC, kC, iC, fC, q1.1, gC, stC, by rw [q2.1]; exact knV, by rw [q2.1]; exact obV, by rw [q2.2.1]; exact asC, q4⟩,
    ⟨V', ⟨q5.1, State.isArrayOf_alike al'.symm q5.2.1, q5.2.2.1⟩, q6, by rw [← al'.findClass]; exact q7, q8, fun j hj => by have := q9 j hj; rwa [Nat.zero_add] at this⟩, fun O n d w F n1 n2 => ?_⟩, hl, hc, hs⟩, st⟩
  · intro y hy
    simp only [List.mem_cons, List.not_mem_nil, or_false] at hy
    rcases hy with rfl | rfl <;> rfl
  · by_cases q : y = x
    · subst q
      cases hD.symm.trans hy
      exact ⟨E', q1.1, q2.2.1, q2.1, hsz⟩
    · exact ⟨cy, q10 y cy q hy, rfl, rfl, rfl⟩
  · obtain ⟨D3, cf, k, i, f, g1, g2, g3, g4, g5, g6, g7⟩ := F
    cases hD.symm.trans g1
    simp only [RoadKit.slotOf, g2, gV, gC, Option.map_some, Option.getD_some] at n1 n2
    exact ⟨E', cf, k, i, f, q1.1, g2, g3, by rw [q2.1]; exact g4, by rw [q2.1]; exact g5, by rw [q2.2.1]; exact g6, by rw [q2.2.2 f.slot (by simp [n1, n2])]; exact g7⟩
end StrChars.Road
namespace StrChars.Road
open Jvm Sem ClassFile Op Lib Jvm.Stand Jvm.Free Jvm.Free.XT
/-- WHAT COMES BACK, the byte[] as a list of values -/
def QA (Z : State) (x : Addr) (zn : Int32) (cs : List Int32) (h : Heap) (v : Option Value) (h' : Heap) (L : List Loc) : Prop := v = none ∧ (∀ y ∈ L, y.base = x) ∧ RoadKit.Keep h h' [x] ∧ h'.size = h.size + 1 ∧ RoadKit.Exa Z h' x ST ∧ RoadKit.Fld Z h' x ST "value" "[B" (.ref h.size) ∧ RoadKit.Fld Z h' x ST "coder" "B" (.int 0) ∧
  (∃ kb, Z.vm.findClass "[B" = some kb ∧ RoadKit.Arv Z h' h.size kb .byte zn (cs.map fun c => .int (lo8 c)) (.int 0)) ∧
  ∀ (O n d : String) (w : Value), RoadKit.Fld Z h x O n d w → RoadKit.slotOf Z O n d ≠ RoadKit.slotOf Z ST "value" "[B" → RoadKit.slotOf Z O n d ≠ RoadKit.slotOf Z ST "coder" "B" → RoadKit.Fld Z h' x O n d w
/-- **new String(chars) AT A CALL, THE ARRAYS AS LISTS**: the char[] at b holds cs, not empty, no char above 255 -/
theorem backArv {p : Program} {l : Launch} {e : Env} {R : Room} {s : State} {args : Array Value} {below : List Frame} {len W : Nat} {Z : State} {a0 : Array Value} {h : Heap} (hZ : Z.Warmed39 s.vm) (hw : ∀ d ∈ words, d.before a0 Z = true) {kI : Nat} (wi : (Jvm.Cond.instantiable ST kI).before a0 Z = true)
    {x b : Addr} {k : ClassId} {zn z : Int32} {cs : List Int32} {dv v0 c0 : Value} (E : RoadKit.Exa Z h x ST) (V : RoadKit.Fld Z h x ST "value" "[B" v0) (C : RoadKit.Fld Z h x ST "coder" "B" c0) (K : RoadKit.Arv Z h b k .char zn (cs.map Value.int) dv) (S : RoadKit.Sta Z h ST "COMPACT_STRINGS" "Z" (.int z)) (hz : ¬ z = 0)
    (hlen : zn.toNatClampNeg = cs.length) (h0 : 0 < cs.length) (hbig : cs.length ≤ 536870912) (hall : ∀ c ∈ cs, ¬ 255 < c) (hfr : 4 ≤ R.frames) (hlo : W + 65 ≤ R.locals) :
    Back l R p e below s args New1.yN len W (fun P a => a = #[.ref x, .ref b] ∧ P.U.heap = h ∧ P.cells + 1 ≤ R.cells ∧ P.slots + cs.length ≤ R.slots)
      (fun P _ v B => ∃ L, QA Z x zn cs h v B.U.heap L ∧ B.locs = P.locs ++ L ∧ B.cells = P.cells + 1 ∧ B.slots = P.slots + cs.length) := by
  obtain ⟨A, K1, K2, K3, K4, K5, K6⟩ := K
  have e : A.slots.size = cs.length := K3.trans hlen
  have hat : ∀ (i : Nat) (hi : i < cs.length), A.slots[i]? = some (.int cs[i]) := fun i hi => by rw [K5 i (by omega)]; simp [List.getD_eq_getElem?_getD, hi]
  have hcv : ∀ (i : Nat) (hi : i < cs.length), cv A i = cs[i] := fun i hi => by unfold cv; rw [hat i hi]
  have hty : Typed .char A := fun i v hv => by
    have hi : i < A.slots.size := (Array.getElem?_eq_some_iff.mp hv).1
    have q := K5 i hi
    rw [hv] at q
    rw [Option.some.inj q]
    exact K6 i hi
  refine Back.mono (back hZ hw wi E V C K1 hty S hz (by omega) (by omega) (fun i hi => by rw [hcv i (by omega)]; exact hall _ (List.getElem_mem _)) hfr hlo) (fun P a hp => ⟨hp.1, hp.2.1, hp.2.2.1, by rw [e]; exact hp.2.2.2⟩) (fun P a v B hp hq => ?_)
  obtain ⟨L, ⟨q1, q2, q3, q4, q5, q6, q7, ⟨V', v1, v2, v3, v4, v5⟩, q9⟩, hl, hc, hs⟩ := hq
  refine ⟨L, ⟨q1, q2, q3, q4, q5, q6, q7, ⟨V'.cls, v3, V', v1, rfl, by rw [v4, e, hlen], K4, fun i hi => ?_, fun i hi => ?_⟩, q9⟩, hl, hc, by rw [hs, e]⟩
  · have hi' : i < cs.length := by omega
    rw [v5 i (by omega), hcv i hi']; simp [List.getD_eq_getElem?_getD, hi']
  · have hi' : i < cs.length := by omega
    simp only [List.getD_eq_getElem?_getD, List.getElem?_map, List.getElem?_eq_getElem hi', Option.map_some, Option.getD_some]
    exact fits_lo8 _
end StrChars.Road
namespace StrChars.Road
open Jvm Sem ClassFile Op Lib Jvm.Stand Jvm.Free Jvm.Free.XT
/-- WHAT COMES BACK, in the writer's own shape -/
def QV (Z : State) (x : Addr) (N : Int32) (bs : List Int32) (h : Heap) (n0 : Nat) (v : Option Value) (h' : Heap) (L : List Loc) : Prop := v = none ∧ RoadKit.Fr n0 L ∧ RoadKit.Keep h h' [x] ∧ RoadKit.Exa Z h' x ST ∧ RoadKit.Fld Z h' x ST "coder" "B" (.int 0) ∧
  ∃ (t : Addr) (kb : ClassId), n0 ≤ t ∧ h.size ≤ t ∧ ¬ t = x ∧ RoadKit.Fld Z h' x ST "value" "[B" (.ref t) ∧ RoadKit.Arv Z h' t kb .byte N (bs.map Value.int) (.int 0)
/-- **new String(chars) AT A CALL, FOR THE WRITER**: a char[] of n known ints, each 0 to 255 -/
theorem backV {p : Program} {l : Launch} {e : Env} {R : Room} {s : State} {args : Array Value} {below : List Frame} {len W : Nat} {Z : State} {a0 : Array Value} {h : Heap} (hZ : Z.Warmed39 s.vm) (hw : ∀ d ∈ words, d.before a0 Z = true) {kI : Nat} (wi : (Jvm.Cond.instantiable ST kI).before a0 Z = true)
    {x b : Addr} {kC : ClassId} {cs bs : List Int32} {d v0 c0 : Value} {z N : Int32} {n n0 : Nat} (hx0 : n0 ≤ x) (hh0 : n0 ≤ h.size) (E : RoadKit.Exa Z h x ST) (V : RoadKit.Fld Z h x ST "value" "[B" v0) (C : RoadKit.Fld Z h x ST "coder" "B" c0) (K : RoadKit.Arv Z h b kC .char N (cs.map Value.int) d) (S : RoadKit.Sta Z h ST "COMPACT_STRINGS" "Z" (.int z)) (hz : ¬ z = 0)
    (hn : cs.length = n) (hN : N = Int32.ofNat n) (l0 : 0 < n) (l2 : n ≤ 4000) (hp : ∀ c ∈ cs, ¬ c < 0 ∧ ¬ (255 : Int32) < c) (hb : bs = cs.map (fun c => c.toInt8.toInt32)) (hfr : 4 ≤ R.frames) (hlo : W + 65 ≤ R.locals) :
    Back l R p e below s args (⟨"java/lang/String", "<init>", "([C)V"⟩ : MethodName) len W (fun P a => a = #[.ref x, .ref b] ∧ P.U.heap = h ∧ P.cells + 1 ≤ R.cells ∧ P.slots + n ≤ R.slots)
      (fun P _ v B => ∃ L, QV Z x N bs h n0 v B.U.heap L ∧ B.locs = P.locs ++ L ∧ B.cells = P.cells + 1 ∧ B.slots = P.slots + n) := by
  subst hn hN hb
  refine Back.mono (backArv hZ hw wi E V C K S hz (n32 (by omega)) l0 (by omega) (fun c hc => (hp c hc).2) hfr hlo) (fun P a hp => hp) (fun P a v B hp hq => ?_)
  obtain ⟨L, ⟨q1, q2, q3, q4, q5, q6, q7, ⟨kb, v1, v2⟩, q9⟩, hl, hc, hs⟩ := hq
  exact ⟨L, ⟨q1, fun y hy => by rw [q2 y hy]; exact hx0, q3, q5, q7, h.size, kb, hh0, Nat.le_refl _, Nat.ne_of_gt E.lt, q6, by rw [List.map_map]; exact v2⟩, hl, hc, hs⟩
end StrChars.Road
namespace StrChars
open Jvm Sem ClassFile Op Lib Jvm.Stand Jvm.Free.XT Jvm.Free.ALB Jvm.Free.JM Jvm.Free
open Jvm.Lib.Cold (StaticIs)
def hi8 (x : Int32) : Int32 := lo8 (x >>> ((8 : Int32) &&& 31))
/-- what StringUTF16.getChar makes of two bytes -/
def pairCh (u v : Int32) : Int32 := (((u &&& 255) <<< ((0 : Int32) &&& 31)) ||| ((v &&& 255) <<< ((8 : Int32) &&& 31))).toUInt32.toUInt16.toUInt32.toInt32
theorem shr0 (c : Int32) : c >>> ((0 : Int32) &&& 31) = c := by
  have e : ((0 : Int32) &&& 31) = 0 := by decide
  rw [e]
  apply Int32.toBitVec_inj.mp
  rw [Int32.toBitVec_shiftRight]
  have e1 : ((0 : Int32).toBitVec.smod 32) = 0#32 := by decide
  rw [e1, BitVec.sshiftRight_eq']
  exact BitVec.sshiftRight_zero
theorem lo8_and (x : Int32) : (lo8 x &&& 255).toBitVec.toNat = x.toBitVec.toNat % 256 := by
  have h : (lo8 x).toBitVec = (x.toBitVec.signExtend 8).signExtend 32 := by rw [lo8, Int8.toBitVec_toInt32, Int32.toBitVec_toInt8]
  rw [Int32.toBitVec_and, BitVec.toNat_and, h]
  have e : ((x.toBitVec.signExtend 8).signExtend 32).toNat % 256 = x.toBitVec.toNat % 256 := by
    rw [BitVec.toNat_signExtend]
    have hlt := x.toBitVec.isLt
    simp only [BitVec.toNat_setWidth, BitVec.toNat_signExtend]
    split <;> split <;> omega
  rw [← e]
  exact Nat.and_two_pow_sub_one_eq_mod _ 8
theorem pair_says {c : Int32} (h0 : ¬ c < 0) (h1 : ¬ 65535 < c) : pairCh (lo8 c) (hi8 c) = c := by
  rw [Int32.lt_iff_toInt_lt] at h0 h1
  have e0 : (0 : Int32).toInt = 0 := rfl
  have e1 : (65535 : Int32).toInt = 65535 := rfl
  have hc : c.toInt = c.toBitVec.toNat := by
    have := c.toBitVec.isLt
    have e : c.toInt = c.toBitVec.toInt := rfl
    rw [e] at h0 h1
    rw [e]
    rw [BitVec.toInt_eq_toNat_cond] at h0 h1 ⊢
    split at h0 <;> split <;> omega
  have hn : c.toBitVec.toNat < 65536 := by omega
  have a1 := lo8_and c
  have a2 : (hi8 c &&& 255).toBitVec.toNat = c.toBitVec.toNat / 256 := by
    rw [hi8, lo8_and]
    have e : ((8 : Int32) &&& 31) = 8 := by decide
    rw [e, Int32.toBitVec_shiftRight]
    have e2 : ((8 : Int32).toBitVec.smod 32) = 8#32 := by decide
    rw [e2, BitVec.sshiftRight_eq', BitVec.toNat_sshiftRight_of_msb_false (by rw [BitVec.msb_eq_false_iff_two_mul_lt]; omega)]
    show c.toBitVec.toNat >>> 8 % 256 = _
    rw [Nat.shiftRight_eq_div_pow]
    omega
  unfold pairCh
  apply Int32.toBitVec_inj.mp
  apply BitVec.eq_of_toNat_eq
  have f0 : ((0 : Int32) &&& 31) = 0 := by decide
  have f8 : ((8 : Int32) &&& 31) = 8 := by decide
  rw [f0, f8]
  have g : (((lo8 c &&& 255) <<< (0 : Int32)) ||| ((hi8 c &&& 255) <<< (8 : Int32))).toBitVec.toNat = c.toBitVec.toNat := by
    rw [Int32.toBitVec_or, Int32.toBitVec_shiftLeft, Int32.toBitVec_shiftLeft]
    have s0 : ((0 : Int32).toBitVec.smod 32) = 0#32 := by decide
    have s8 : ((8 : Int32).toBitVec.smod 32) = 8#32 := by decide
    rw [s0, s8, BitVec.toNat_or]
    simp only [BitVec.shiftLeft_eq', BitVec.toNat_shiftLeft, a1, a2]
    show (c.toBitVec.toNat % 256) <<< 0 % 2 ^ 32 ||| (c.toBitVec.toNat / 256) <<< 8 % 2 ^ 32 = _
    rw [Nat.shiftLeft_zero, Nat.mod_eq_of_lt (show c.toBitVec.toNat % 256 < 2 ^ 32 by omega), Nat.mod_eq_of_lt (show (c.toBitVec.toNat / 256) <<< 8 < 2 ^ 32 by rw [Nat.shiftLeft_eq]; omega), Nat.or_comm, ← Nat.shiftLeft_add_eq_or_of_lt (by omega), Nat.shiftLeft_eq]
    omega
  show BitVec.toNat (((((lo8 c &&& 255) <<< (0 : Int32)) ||| ((hi8 c &&& 255) <<< (8 : Int32))).toBitVec.setWidth 16).setWidth 32) = _
  rw [BitVec.toNat_setWidth, BitVec.toNat_setWidth, g]
  omega
end StrChars
namespace StrChars
open Jvm Sem ClassFile Op Lib Jvm.Stand Jvm.Free.XT Jvm.Free.ALB Jvm.Free.JM Jvm.Free
open Jvm.Lib.Cold (StaticIs)
theorem shr1 {n : Nat} (h : 2 * n < 2 ^ 31) : Int32.ofNat (2 * n) >>> ((1 : Int32) &&& 31) = Int32.ofNat n := by
  have e : ((1 : Int32) &&& 31) = 1 := by decide
  rw [e]
  apply Int32.toBitVec_inj.mp
  rw [Int32.toBitVec_shiftRight]
  have e1 : ((1 : Int32).toBitVec.smod 32) = 1#32 := by decide
  have hm : (BitVec.ofNat 32 (2 * n)).toNat = 2 * n := by rw [BitVec.toNat_ofNat, Nat.mod_eq_of_lt (by omega)]
  rw [e1, BitVec.sshiftRight_eq']
  apply BitVec.eq_of_toNat_eq
  show ((BitVec.ofNat 32 (2 * n)).sshiftRight 1).toNat = (BitVec.ofNat 32 n).toNat
  rw [BitVec.toNat_sshiftRight_of_msb_false (by rw [BitVec.msb_eq_false_iff_two_mul_lt, hm]; omega), hm, BitVec.toNat_ofNat, Nat.shiftRight_eq_div_pow]
  omega
/-- charAt's cast of a byte read back -/
def chr8 (u : Int32) : Int32 := (u &&& 255).toUInt32.toUInt16.toUInt32.toInt32
theorem chr8_lo8 {c : Int32} (h0 : ¬ c < 0) (h1 : ¬ 255 < c) : chr8 (lo8 c) = c := by
  have t : ∀ k : Fin 256, (Int32.ofNat k.val).toUInt32.toUInt16.toUInt32.toInt32 = Int32.ofNat k.val := by decide +kernel
  unfold chr8
  rw [lo8_mask h0 h1]
  rw [Int32.lt_iff_toInt_lt] at h0 h1
  have e0 : (0 : Int32).toInt = 0 := rfl
  have e1 : (255 : Int32).toInt = 255 := rfl
  obtain ⟨k, hk⟩ : ∃ k : Nat, c.toInt = k := ⟨c.toInt.toNat, by omega⟩
  have hx : c = Int32.ofNat k := Int32.toInt_inj.mp (by rw [hk, Int32.toInt_ofNat_small (by omega)])
  rw [hx]
  exact t ⟨k, by omega⟩
theorem narrow_ch {c : Int32} (h0 : ¬ c < 0) (h1 : ¬ 65535 < c) : narrow .char (.int c) = .int c := by
  have q : narrow .char (.int (pairCh (lo8 c) (hi8 c))) = .int (pairCh (lo8 c) (hi8 c)) := narrow_c _
  rwa [pair_says h0 h1] at q
/-- the array's cell V codes the n chars f 0 .. f (n - 1) by the coder cd, as the JDK does: coder 1 just where some char is above 255 -/
def Cod (cd : Int32) (n : Nat) (f : Nat → Int32) (V : Cell) : Prop := (cd = 0 ∧ V.slots.size = n ∧ ∀ j, j < n → V.slots[j]? = some (.int (lo8 (f j))) ∧ ¬ 255 < f j) ∨ (cd = 1 ∧ V.slots.size = 2 * n ∧ (∀ j, j < n → V.slots[2 * j]? = some (.int (lo8 (f j))) ∧ V.slots[2 * j + 1]? = some (.int (hi8 (f j)))) ∧ ∃ j, j < n ∧ 255 < f j)
theorem Cod.cd {cd : Int32} {n : Nat} {f : Nat → Int32} {V : Cell} (h : Cod cd n f V) : cd = 0 ∨ cd = 1 := h.imp (fun q => q.1) fun q => q.1
theorem Cod.len {cd : Int32} {n : Nat} {f : Nat → Int32} {V : Cell} (h : Cod cd n f V) (hs : V.slots.size < 2 ^ 31) : Int32.ofNat V.slots.size >>> (cd &&& 31) = Int32.ofNat n := by
  rcases h with ⟨rfl, h, -⟩ | ⟨rfl, h, -⟩
  · rw [shr0, h]
  · rw [h, shr1 (by omega)]
/-- **x is a String of the n chars f 0 .. f (n - 1)**, Latin-1 or UTF-16; its array at t has the cell V -/
def Txt (x t : Addr) (V : Cell) (cd : Int32) (n : Nat) (f : Nat → Int32) (U : State) : Prop := Exact "java/lang/String" x U ∧ Has x "java/lang/String" "value" "[B" (.ref t) U ∧ Has x "java/lang/String" "coder" "B" (.int cd) U ∧ XT.Arr .byte t V U ∧ Cod cd n f V ∧ ∀ j, j < n → ¬ f j < 0 ∧ ¬ 65535 < f j
theorem Txt.mv {x t : Addr} {V : Cell} {cd : Int32} {n : Nat} {f : Nat → Int32} {U U' : State} (h : Txt x t V cd n f U) (hal : U.vm.Alike U'.vm) (hh : U'.heap = U.heap) : Txt x t V cd n f U' := ⟨h.1.mv hal hh, h.2.1.mv hal hh, h.2.2.1.mv hal hh, h.2.2.2.1.mv hal hh, h.2.2.2.2⟩
namespace Cdr
def yN : MethodName := ⟨"java/lang/String", "coder", "()B"⟩
abbrev yB : ByteArray := jdk_42_method_152_code
theorem d0 : decode yB 0 = .ok (.getstatic 38, 3) := by decide +kernel
theorem d3 : decode yB 3 = .ok (.ifCond (.eq) 10, 3) := by decide +kernel
theorem d6 : decode yB 6 = .ok (.aload_n 0, 1) := by decide +kernel
theorem d7 : decode yB 7 = .ok (.getfield 15, 3) := by decide +kernel
theorem d10 : decode yB 10 = .ok (.goto 4, 3) := by decide +kernel
theorem d14 : decode yB 14 = .ok (.ireturn, 1) := by decide +kernel
def site : List Cond := [.fieldLink "java/lang/String" 38 "java/lang/String" "COMPACT_STRINGS" "Z", .fieldLink "java/lang/String" 15 "java/lang/String" "coder" "B"]
def tab : Cond := tabOf yN yB 1 (some .byte) site
def P (x : Addr) (cd z : Int32) (args : Array Value) (s : State) : Prop := args = #[.ref x] ∧ Has x "java/lang/String" "coder" "B" (.int cd) s ∧ (cd = 0 ∨ cd = 1) ∧ StaticIs s "java/lang/String" "COMPACT_STRINGS" "Z" (.int z) ∧ ¬ z = 0
def E (cd : Int32) (r : Option Value) (s u : State) : Prop := XT.PureE (some (.int cd)) r s u
theorem law (l : Launch) (x : Addr) (cd z : Int32) : Law l yN 1 0 0 0 yB 1 (some .byte) site (P x cd z) (E cd) [] 0 0 := by
  refine Law.of_walk (plainFor_of_name (by decide +kernel)) (by decide +kernel) (by decide +kernel) (by decide) (fun _ _ h => by rw [h.1]; rfl) (fun _ U U' hal hh h => ⟨h.1, h.2.1.mv hal hh, h.2.2.1, h.2.2.2.1.there hal hh, h.2.2.2.2⟩) (fun r U U' V V' h1 hal h2 h => XT.PureE.mv r U U' V V' h1 hal h2 h) ?_
  intro p e s m args below meth c s₁ X0 hexec hbytes hml hret hlk hnm hown hh0 W hP
  obtain ⟨rfl, hx, hc, s1, hz⟩ := hP
  have c1 : Steps p.tables e below (s₁.setTop (entryFrame m #[.ref x] 1)) (s₁.setTop (mkF m 0 #[.val (.ref x)] [])) := entry rfl
  obtain ⟨T2, X2, q2, st2⟩ := X0.sget hexec hown (wk W (.fieldLink "java/lang/String" 38 "java/lang/String" "COMPACT_STRINGS" "Z")) s1 (fun _ _ h => by rw [hh0]; exact h) (g := (mkF m 0 #[.val (.ref x)] [])) rfl (hb hbytes d0)
  have hh2 := q2.trans hh0
  have c3 : Steps p.tables e below (s₁.setTop (entryFrame m #[.ref x] 1)) (T2.setTop (mkF m 7 #[.val (.ref x)] [.ref x])) := (c1.trans (st2 _ (Steps.refl _))).trans (by
    refine XS.ifNo X2.here hexec rfl (hb hbytes d3) rfl (i0_eq_f hz) ?_
    refine XS.aloadN X2.here hexec rfl (hb hbytes d6) rfl rfl ?_
    exact Steps.refl _)
  obtain ⟨T4, X4, q4, st4⟩ := X2.hget hexec hown (wk W (.fieldLink "java/lang/String" 15 "java/lang/String" "coder" "B")) (hx.mv X2.warmed.alike hh2) (g := (mkF m 7 #[.val (.ref x)] [.ref x])) rfl (rest := []) rfl (hb hbytes d7)
  have c5 : Steps p.tables e below (s₁.setTop (entryFrame m #[.ref x] 1)) (T4.setTop (mkF m 14 #[.val (.ref x)] [.int cd])) := (c3.trans (st4 _ (Steps.refl _))).trans (by
    refine XS.goto X4.here hexec rfl (pc0 := 10) rfl (hb hbytes d10) (by decide) rfl ?_
    exact Steps.refl _)
  exact ⟨T4, some (.int cd), _, _, _, X4, rfl, rfl, rfl, (fun h => by cases h), ⟨rfl, q4.trans hh2⟩, fun fs hl => c5.trans (X4.ireturnOut hexec hret (by rcases hc with rfl | rfl <;> rfl) (Or.inr (Or.inr (Or.inl rfl))) (hb hbytes d14) hl)⟩
end Cdr
namespace Len
def yN : MethodName := ⟨"java/lang/String", "length", "()I"⟩
abbrev yB : ByteArray := jdk_42_method_54_code
theorem d0 : decode yB 0 = .ok (.aload_n 0, 1) := by decide +kernel
theorem d1 : decode yB 1 = .ok (.getfield 9, 3) := by decide +kernel
theorem d4 : decode yB 4 = .ok (.arraylength, 1) := by decide +kernel
theorem d5 : decode yB 5 = .ok (.aload_n 0, 1) := by decide +kernel
theorem d6 : decode yB 6 = .ok (.invokevirtual 335, 3) := by decide +kernel
theorem d9 : decode yB 9 = .ok (.ishr, 1) := by decide +kernel
theorem d10 : decode yB 10 = .ok (.ireturn, 1) := by decide +kernel
def site : List Cond := [.fieldLink "java/lang/String" 9 "java/lang/String" "value" "[B", Cdr.tab] ++ virtW "java/lang/String" 335 "java/lang/String" Cdr.yN Cdr.yN
def tab : Cond := tabOf yN yB 1 (some .int) site
def P (x t : Addr) (V : Cell) (cd : Int32) (n : Nat) (f : Nat → Int32) (z : Int32) (args : Array Value) (s : State) : Prop := args = #[.ref x] ∧ Txt x t V cd n f s ∧ StaticIs s "java/lang/String" "COMPACT_STRINGS" "Z" (.int z) ∧ ¬ z = 0
def E (n : Nat) (r : Option Value) (s u : State) : Prop := XT.PureE (some (.int (Int32.ofNat n))) r s u
/-- length() of a String of n chars, in either coding -/
theorem law (l : Launch) (x t : Addr) (V : Cell) (cd : Int32) (n : Nat) (f : Nat → Int32) (z : Int32) : Law l yN 1 0 1 13 yB 1 (some .int) site (P x t V cd n f z) (E n) [] 0 0 := by
  refine Law.of_walk (plainFor_of_name (by decide +kernel)) (by decide +kernel) (by decide +kernel) (by decide) (fun _ _ h => by rw [h.1]; rfl) (fun _ U U' hal hh h => ⟨h.1, h.2.1.mv hal hh, h.2.2.1.there hal hh, h.2.2.2⟩) (fun r U U' V V' h1 hal h2 h => XT.PureE.mv r U U' V V' h1 hal h2 h) ?_
  intro p e s m args below meth c s₁ X0 hexec hbytes hml hret hlk hnm hown hh0 W hP
  obtain ⟨rfl, hx, s1, hz⟩ := hP
  have v31 := hx.2.2.2.1.2.2.2
  have c1 : Steps p.tables e below (s₁.setTop (entryFrame m #[.ref x] 1)) (s₁.setTop (mkF m 1 #[.val (.ref x)] [.ref x])) := Steps.trans (entry rfl) (by
    show Steps p.tables e below (s₁.setTop (mkF m 0 #[.val (.ref x)] [])) _
    refine XS.aloadN X0.here hexec rfl (hb hbytes d0) rfl rfl ?_
    exact Steps.refl _)
  obtain ⟨T2, X2, q2, st2⟩ := X0.hget hexec hown (wk W (.fieldLink "java/lang/String" 9 "java/lang/String" "value" "[B")) (hx.mv X0.warmed.alike hh0).2.1 (g := (mkF m 1 #[.val (.ref x)] [.ref x])) rfl (rest := []) rfl (hb hbytes d1)
  have hh2 := q2.trans hh0
  have hx2 := hx.mv X2.warmed.alike hh2
  have c3 : Steps p.tables e below (s₁.setTop (entryFrame m #[.ref x] 1)) (T2.setTop (mkF m 6 #[.val (.ref x)] [.ref x, .int (Int32.ofNat V.slots.size)])) := (c1.trans (st2 _ (Steps.refl _))).trans (by
    refine X2.alen hexec hx2.2.2.2.1 rfl rfl (hb hbytes d4) ?_
    refine XS.aloadN X2.here hexec rfl (hb hbytes d5) rfl rfl ?_
    exact Steps.refl _)
  obtain ⟨v4, T4, X4, E4, g4⟩ := X2.callV hexec (Cdr.law l x cd z) hown (wks W (virtW "java/lang/String" 335 "java/lang/String" Cdr.yN Cdr.yN)) rfl (by decide) (wk W Cdr.tab) (W := 1) (Nat.le_of_ble_eq_true rfl) (Nat.le_of_ble_eq_true rfl) (Nat.le_refl _) (Nat.le_refl _) (hx2.1.fc X2.warmed.alike) hx2.1.is (g := (mkF m 6 #[.val (.ref x)] [.ref x, .int (Int32.ofNat V.slots.size)])) rfl (by rw [hml]; rfl) c3 (argsL := []) (rest := [.int (Int32.ofNat V.slots.size)]) rfl rfl (by show 2 * 0 + (1 + 0) ≤ _; decide) (hb hbytes d6) (⟨rfl, hx2.2.2.1, hx.2.2.2.2.1.cd, s1.there X2.warmed.alike hh2, hz⟩)
  obtain ⟨rfl, q4⟩ := E4
  have c5 : Steps p.tables e below (s₁.setTop (entryFrame m #[.ref x] 1)) (T4.setTop (mkF m 10 #[.val (.ref x)] [.int (Int32.ofNat V.slots.size >>> (cd &&& 31))])) := Steps.trans g4 (by
    refine ishr X4.here hexec rfl (hb hbytes d9) rfl ?_
    exact Steps.refl _)
  rw [hx.2.2.2.2.1.len v31] at c5
  exact ⟨T4, some (.int (Int32.ofNat n)), _, _, _, X4, rfl, rfl, rfl, (fun h => by cases h), ⟨rfl, q4.trans hh2⟩, fun fs hl => c5.trans (X4.ireturnOut hexec hret rfl (Or.inl rfl) (hb hbytes d10) hl)⟩
theorem pays {l : Launch} {R : Room} {p : Program} {e : Env} {below : List Frame} {s : State} {sargs : Array Value} {len W : Nat} (x t : Addr) (V : Cell) (cd : Int32) (n : Nat) (f : Nat → Int32) (z : Int32) (htab : tab.before sargs s = true) (hfr : 2 ≤ R.frames) (hlo : W + 25 ≤ R.locals) :
    Back l R p e below s sargs yN len W (fun A₁ a₁ => A₁.cells + 0 ≤ R.cells ∧ A₁.slots + 0 ≤ R.slots ∧ P x t V cd n f z a₁ A₁.U) (fun A₁ _ v₁ B₁ => E n v₁ A₁.U B₁.U ∧ B₁.locs = A₁.locs ++ [] ∧ B₁.cells = A₁.cells + 0 ∧ B₁.slots = A₁.slots + 0) :=
  (law l x t V cd n f z).pays htab hfr (by omega)
end Len
namespace IsL
def yN : MethodName := ⟨"java/lang/String", "isLatin1", "()Z"⟩
abbrev yB : ByteArray := jdk_42_method_154_code
theorem d0 : decode yB 0 = .ok (.getstatic 38, 3) := by decide +kernel
theorem d3 : decode yB 3 = .ok (.ifCond (.eq) 14, 3) := by decide +kernel
theorem d6 : decode yB 6 = .ok (.aload_n 0, 1) := by decide +kernel
theorem d7 : decode yB 7 = .ok (.getfield 15, 3) := by decide +kernel
theorem d10 : decode yB 10 = .ok (.ifCond (.ne) 7, 3) := by decide +kernel
theorem d13 : decode yB 13 = .ok (.iconst 1, 1) := by decide +kernel
theorem d14 : decode yB 14 = .ok (.goto 4, 3) := by decide +kernel
theorem d17 : decode yB 17 = .ok (.iconst 0, 1) := by decide +kernel
theorem d18 : decode yB 18 = .ok (.ireturn, 1) := by decide +kernel
def site : List Cond := [.fieldLink "java/lang/String" 38 "java/lang/String" "COMPACT_STRINGS" "Z", .fieldLink "java/lang/String" 15 "java/lang/String" "coder" "B"]
def tab : Cond := tabOf yN yB 1 (some .boolean) site
def P (x : Addr) (cd z : Int32) (args : Array Value) (s : State) : Prop := args = #[.ref x] ∧ Has x "java/lang/String" "coder" "B" (.int cd) s ∧ (cd = 0 ∨ cd = 1) ∧ StaticIs s "java/lang/String" "COMPACT_STRINGS" "Z" (.int z) ∧ ¬ z = 0
def E (cd : Int32) (r : Option Value) (s u : State) : Prop := XT.PureE (some (.int (1 - cd))) r s u
theorem law (l : Launch) (x : Addr) (cd z : Int32) : Law l yN 1 0 0 0 yB 1 (some .boolean) site (P x cd z) (E cd) [] 0 0 := by
  refine Law.of_walk (plainFor_of_name (by decide +kernel)) (by decide +kernel) (by decide +kernel) (by decide) (fun _ _ h => by rw [h.1]; rfl) (fun _ U U' hal hh h => ⟨h.1, h.2.1.mv hal hh, h.2.2.1, h.2.2.2.1.there hal hh, h.2.2.2.2⟩) (fun r U U' V V' h1 hal h2 h => XT.PureE.mv r U U' V V' h1 hal h2 h) ?_
  intro p e s m args below meth c s₁ X0 hexec hbytes hml hret hlk hnm hown hh0 W hP
  obtain ⟨rfl, hx, hc, s1, hz⟩ := hP
  have c1 : Steps p.tables e below (s₁.setTop (entryFrame m #[.ref x] 1)) (s₁.setTop (mkF m 0 #[.val (.ref x)] [])) := entry rfl
  obtain ⟨T2, X2, q2, st2⟩ := X0.sget hexec hown (wk W (.fieldLink "java/lang/String" 38 "java/lang/String" "COMPACT_STRINGS" "Z")) s1 (fun _ _ h => by rw [hh0]; exact h) (g := (mkF m 0 #[.val (.ref x)] [])) rfl (hb hbytes d0)
  have hh2 := q2.trans hh0
  have c3 : Steps p.tables e below (s₁.setTop (entryFrame m #[.ref x] 1)) (T2.setTop (mkF m 7 #[.val (.ref x)] [.ref x])) := (c1.trans (st2 _ (Steps.refl _))).trans (by
    refine XS.ifNo X2.here hexec rfl (hb hbytes d3) rfl (i0_eq_f hz) ?_
    refine XS.aloadN X2.here hexec rfl (hb hbytes d6) rfl rfl ?_
    exact Steps.refl _)
  obtain ⟨T4, X4, q4, st4⟩ := X2.hget hexec hown (wk W (.fieldLink "java/lang/String" 15 "java/lang/String" "coder" "B")) (hx.mv X2.warmed.alike hh2) (g := (mkF m 7 #[.val (.ref x)] [.ref x])) rfl (rest := []) rfl (hb hbytes d7)
  have c5 : Steps p.tables e below (s₁.setTop (entryFrame m #[.ref x] 1)) (T4.setTop (mkF m 10 #[.val (.ref x)] [.int cd])) := c3.trans (st4 _ (Steps.refl _))
  have c6 : Steps p.tables e below (s₁.setTop (entryFrame m #[.ref x] 1)) (T4.setTop (mkF m 18 #[.val (.ref x)] [.int (1 - cd)])) := by
    rcases hc with rfl | rfl
    · exact c5.trans (by
        refine XS.ifNo X4.here hexec rfl (hb hbytes d10) rfl (i0_ne_f rfl) ?_
        refine iconstV X4.here hexec rfl 1 (hb hbytes d13) (by decide) ?_
        refine XS.goto X4.here hexec rfl (pc0 := 14) rfl (hb hbytes d14) (by decide) rfl ?_
        exact Steps.refl _)
    · exact c5.trans (by
        refine XS.ifYes X4.here hexec rfl (pc0 := 10) rfl (hb hbytes d10) rfl (i0_ne_t (by decide)) (by decide) rfl ?_
        refine iconstV X4.here hexec rfl 0 (hb hbytes d17) (by decide) ?_
        exact Steps.refl _)
  exact ⟨T4, some (.int (1 - cd)), _, _, _, X4, rfl, rfl, rfl, (fun h => by cases h), ⟨rfl, q4.trans hh2⟩, fun fs hl => c6.trans (X4.ireturnOut hexec hret (by rcases hc with rfl | rfl <;> rfl) (Or.inr (Or.inl rfl)) (hb hbytes d18) hl)⟩
end IsL
namespace LChA
def yN : MethodName := ⟨"java/lang/StringLatin1", "charAt", "([BI)C"⟩
abbrev yB : ByteArray := jdk_43_method_2_code
theorem d0 : decode yB 0 = .ok (.iload_n 1, 1) := by decide +kernel
theorem d1 : decode yB 1 = .ok (.aload_n 0, 1) := by decide +kernel
theorem d2 : decode yB 2 = .ok (.arraylength, 1) := by decide +kernel
theorem d3 : decode yB 3 = .ok (.invokestatic 9, 3) := by decide +kernel
theorem d6 : decode yB 6 = .ok (.aload_n 0, 1) := by decide +kernel
theorem d7 : decode yB 7 = .ok (.iload_n 1, 1) := by decide +kernel
theorem d8 : decode yB 8 = .ok (.baload, 1) := by decide +kernel
theorem d9 : decode yB 9 = .ok (.sipush 255, 3) := by decide +kernel
theorem d12 : decode yB 12 = .ok (.iand, 1) := by decide +kernel
theorem d13 : decode yB 13 = .ok (.i2c, 1) := by decide +kernel
theorem d14 : decode yB 14 = .ok (.ireturn, 1) := by decide +kernel
def site : List Cond := [JO.Str_checkIndex.tab] ++ staticW "java/lang/StringLatin1" 9 JO.Str_checkIndex.yN
def tab : Cond := tabOf yN yB 2 (some .char) site
def P (t : Addr) (V : Cell) (i : Nat) (u : Int32) (fm : Value) (args : Array Value) (s : State) : Prop := args = #[.ref t, .int (Int32.ofNat i)] ∧ XT.Arr .byte t V s ∧ V.slots[i]? = some (.int u) ∧ (StaticIs s "jdk/internal/util/Preconditions" "SIOOBE_FORMATTER" "Ljava/util/function/BiFunction;" fm ∧ fm.isRef = true)
def E (u : Int32) (r : Option Value) (s w : State) : Prop := XT.PureE (some (.int (chr8 u))) r s w
theorem law (l : Launch) (t : Addr) (V : Cell) (i : Nat) (u : Int32) (fm : Value) : Law l yN 2 2 2 27 yB 2 (some .char) site (P t V i u fm) (E u) [] 0 0 := by
  refine Law.of_walk (plainFor_of_name (by decide +kernel)) (by decide +kernel) (by decide +kernel) (by decide) (fun _ _ h => by rw [h.1]; rfl) (fun _ U U' hal hh h => ⟨h.1, h.2.1.mv hal hh, h.2.2.1, h.2.2.2.1.there hal hh, h.2.2.2.2⟩) (fun r U U' V V' h1 hal h2 h => XT.PureE.mv r U U' V V' h1 hal h2 h) ?_
  intro p e s m args below meth c s₁ X0 hexec hbytes hml hret hlk hnm hown hh0 W hP
  obtain ⟨rfl, hV, hu, s1, rf⟩ := hP
  have v31 := hV.2.2.2
  have hi : i < V.slots.size := (Array.getElem?_eq_some_iff.mp hu).1
  have c1 : Steps p.tables e below (s₁.setTop (entryFrame m #[.ref t, .int (Int32.ofNat i)] 2)) (s₁.setTop (mkF m 0 #[.val (.ref t), .val (.int (Int32.ofNat i))] [])) := entry rfl
  have c2 : Steps p.tables e below (s₁.setTop (entryFrame m #[.ref t, .int (Int32.ofNat i)] 2)) (s₁.setTop (mkF m 3 #[.val (.ref t), .val (.int (Int32.ofNat i))] [.int (Int32.ofNat V.slots.size), .int (Int32.ofNat i)])) := c1.trans (by
    refine XS.iloadN X0.here hexec rfl (hb hbytes d0) rfl ?_
    refine XS.aloadN X0.here hexec rfl (hb hbytes d1) rfl rfl ?_
    refine X0.alen hexec (hV.mv X0.warmed.alike hh0) rfl rfl (hb hbytes d2) ?_
    exact Steps.refl _)
  obtain ⟨v3, T3, X3, E3, g3⟩ := X0.callS hexec (JO.Str_checkIndex.law l (Int32.ofNat i) (Int32.ofNat V.slots.size) fm) hown (wks W (staticW "java/lang/StringLatin1" 9 JO.Str_checkIndex.yN)) (wk W JO.Str_checkIndex.tab) (W := 0) (Nat.le_of_ble_eq_true rfl) (Nat.le_of_ble_eq_true rfl) (Nat.le_refl _) (Nat.le_refl _) (g := (mkF m 3 #[.val (.ref t), .val (.int (Int32.ofNat i))] [.int (Int32.ofNat V.slots.size), .int (Int32.ofNat i)])) rfl (by rw [hml]; rfl) c2 (argsL := [.int (Int32.ofNat i), .int (Int32.ofNat V.slots.size)]) (rest := []) rfl rfl (by show 2 * 0 + 0 ≤ _; decide) (hb hbytes d3) (⟨rfl, rf, s1.there X0.warmed.alike hh0, Int32.ofNat_not_neg (by omega), lt32 v31 hi⟩)
  obtain ⟨rfl, q3⟩ := E3
  have hh3 := q3.trans hh0
  have c4 : Steps p.tables e below (s₁.setTop (entryFrame m #[.ref t, .int (Int32.ofNat i)] 2)) (T3.setTop (mkF m 14 #[.val (.ref t), .val (.int (Int32.ofNat i))] [.int (chr8 u)])) := Steps.trans g3 (by
    refine XS.aloadN X3.here hexec rfl (hb hbytes d6) rfl rfl ?_
    refine XS.iloadN X3.here hexec rfl (hb hbytes d7) rfl ?_
    refine X3.aget hexec (hV.mv X3.warmed.alike hh3) rfl hu rfl rfl (hb hbytes d8) ?_
    refine sipushV X3.here hexec rfl 255 (hb hbytes d9) (by decide) ?_
    refine XS.iand X3.here hexec rfl (hb hbytes d12) rfl ?_
    refine i2c X3.here hexec rfl (hb hbytes d13) rfl ?_
    exact Steps.refl _)
  exact ⟨T3, some (.int (chr8 u)), _, _, _, X3, rfl, rfl, rfl, (fun h => by cases h), ⟨rfl, hh3⟩, fun fs hl => c4.trans (X3.ireturnOut hexec hret (narrow_c _) (Or.inr (Or.inr (Or.inr (Or.inl rfl)))) (hb hbytes d14) hl)⟩
end LChA
end StrChars
namespace StrChars.Road
open Jvm Sem ClassFile Op Lib Jvm.Stand Jvm.Free Jvm.Free.XT
open Jvm.Lib.Cold (StaticIs)
theorem consq {a : Array Value} {s : State} {c : Jvm.Cond} {L : List Jvm.Cond} (h0 : c.before a s = true) (h : ∀ w ∈ L, w.before a s = true) : ∀ w ∈ c :: L, w.before a s = true := fun w hw => (List.mem_cons.mp hw).elim (fun e => e ▸ h0) (h w)
/-- the words of String.length(), either coding -/
abbrev wordsLen : List Jvm.Cond := [.code Len.yN Len.yB 1 (some .int), .initialized ST, .fieldLink ST 9 ST "value" "[B", .fieldLink ST 38 ST "COMPACT_STRINGS" "Z", .fieldLink ST 15 ST "coder" "B", .code Cdr.yN Cdr.yB 1 (some .byte), .methodLink ST 335 Cdr.yN, .declares Cdr.yN, .selects ST Cdr.yN Cdr.yN, .instanceMethod Cdr.yN]
theorem tabLen_of {a : Array Value} {s : State} (h : ∀ w ∈ wordsLen, w.before a s = true) : Len.tab.before a s = true := by
  have hc : Cdr.tab.before a s = true := unparts (wk h (.code Cdr.yN Cdr.yB 1 (some .byte))) (wks h (.initialized Cdr.yN.cls :: Cdr.site))
  have q := consq hc h
  exact unparts (wk q (.code Len.yN Len.yB 1 (some .int))) (wks q (.initialized Len.yN.cls :: Len.site))
theorem movedLen {Z s : State} {a0 args : Array Value} (hZ : Z.Warmed39 s.vm) (hw : ∀ d ∈ wordsLen, d.before a0 Z = true) : ∀ d ∈ wordsLen, d.before args s = true := fun d hd => by
  have q := hw d hd
  have t : ∀ d ∈ wordsLen, d = .arrayClass .byte ∨ (d.onTables && d.keepsFace) = true := by decide +kernel
  rcases t d hd with rfl | t
  · exact RoadKit.mvA hZ q
  · exact RoadKit.mv hZ q t
/-- the bytes of the chars cs, low before high -/
def wideBytes : List Int32 → List Value
  | [] => []
  | c :: cs => .int (lo8 c) :: .int (hi8 c) :: wideBytes cs
theorem wide_lo (d : Value) : ∀ (cs : List Int32) (j : Nat), j < cs.length → (wideBytes cs).getD (2 * j) d = .int (lo8 (cs.getD j 0))
  | [], j, h => absurd h (Nat.not_lt_zero j)
  | c :: cs, 0, _ => rfl
  | c :: cs, j + 1, h => by
    have q := wide_lo d cs j (by simpa using h)
    rw [show 2 * (j + 1) = 2 * j + 1 + 1 from by omega]
    simpa [wideBytes] using q
theorem wide_hi (d : Value) : ∀ (cs : List Int32) (j : Nat), j < cs.length → (wideBytes cs).getD (2 * j + 1) d = .int (hi8 (cs.getD j 0))
  | [], j, h => absurd h (Nat.not_lt_zero j)
  | c :: cs, 0, _ => rfl
  | c :: cs, j + 1, h => by
    have q := wide_hi d cs j (by simpa using h)
    rw [show 2 * (j + 1) + 1 = 2 * j + 1 + 1 + 1 from by omega]
    simpa [wideBytes] using q
theorem low_at (d : Value) (cs : List Int32) (j : Nat) (h : j < cs.length) : (cs.map fun c => Value.int (lo8 c)).getD j d = .int (lo8 (cs.getD j 0)) := by
  simp [List.getD_eq_getElem?_getD, h]
/-- an array of N2 bytes vs codes the chars cs by the coder cd -/
def CodA (cs : List Int32) (cd N2 : Int32) (vs : List Value) : Prop := (cd = 0 ∧ N2 = Int32.ofNat cs.length ∧ vs = (cs.map fun c => Value.int (lo8 c)) ∧ ∀ c ∈ cs, ¬ 255 < c) ∨ (cd = 1 ∧ N2 = Int32.ofNat (2 * cs.length) ∧ vs = wideBytes cs ∧ ∃ c ∈ cs, 255 < c)
theorem CodA.cod {cs : List Int32} {cd N2 : Int32} {vs : List Value} {V : Cell} (h : CodA cs cd N2 vs) (hn : 2 * cs.length < 2 ^ 31) (hs : V.slots.size = N2.toNatClampNeg) (hv : RoadKit.Has V vs (.int 0)) : Cod cd cs.length (fun j => cs.getD j 0) V := by
  rcases h with ⟨rfl, rfl, rfl, h⟩ | ⟨rfl, rfl, rfl, c, hc, hw⟩
  · rw [n32 (by omega)] at hs
    exact Or.inl ⟨rfl, hs, fun j hj => ⟨by rw [hv j (by omega), low_at _ _ _ hj], by
      have e : cs.getD j 0 = cs[j] := by simp [List.getD_eq_getElem?_getD, hj]
      show ¬ 255 < cs.getD j 0
      rw [e]; exact h _ (List.getElem_mem _)⟩⟩
  · rw [n32 (by omega)] at hs
    obtain ⟨j, hj, rfl⟩ := List.getElem_of_mem hc
    exact Or.inr ⟨rfl, hs, fun j hj => ⟨by rw [hv _ (by omega), wide_lo _ _ _ hj], by rw [hv _ (by omega), wide_hi _ _ _ hj]⟩, j, hj, by
      have e : cs.getD j 0 = cs[j] := by simp [List.getD_eq_getElem?_getD, hj]
      show 255 < cs.getD j 0
      rw [e]; exact hw⟩
/-- an object of exactly java/lang/String, its two fields found: as the laws ask it -/
theorem strObj {Z U : State} {a0 : Array Value} {kI : Nat} (wi : (Jvm.Cond.instantiable ST kI).before a0 Z = true) (al : Z.vm.Alike U.vm) {x : Addr} {v0 c0 : Value} (E : RoadKit.Exa Z U.heap x ST) (V : RoadKit.Fld Z U.heap x ST "value" "[B" v0) (C : RoadKit.Fld Z U.heap x ST "coder" "B" c0) :
    ∃ (D : Cell) (fV fC : Field), Blank ST x D U ∧ Found ST "value" "[B" fV U ∧ Found ST "coder" "B" fC U ∧ D.slots[fV.slot]? = some v0 ∧ D.slots[fC.slot]? = some c0 ∧ RoadKit.slotOf Z ST "value" "[B" = fV.slot ∧ RoadKit.slotOf Z ST "coder" "B" = fC.slot := by
  obtain ⟨D, cfV, kV, iV, fV, hD, gV, stV, knV, obV, asV, slV⟩ := V
  obtain ⟨D', cfC, kC, iC, fC, hD', gC, stC, -, -, asC, slC⟩ := C
  cases hD.symm.trans hD'
  obtain ⟨D2, kD, e1, e2, e3, e4, e5⟩ := E
  cases hD.symm.trans e1
  obtain ⟨c2, k2, i1, i2, i3, -⟩ := Cond.instantiable_spec wi
  cases e2.symm.trans i1
  cases e3.symm.trans i2
  obtain ⟨kU, u1, u2⟩ := al.2.2 _ _ e3
  exact ⟨D, fV, fC, ⟨hD, ⟨knV, fun q hq => by rw [hq] at obV; cases obV⟩, by rw [al.findClass]; exact e2, kU, u1, by rw [u2]; exact i3, by rw [u2]; exact e5 i3⟩, ⟨SBG.found_only al ⟨cfV, kV, iV, gV⟩, stV⟩, ⟨SBG.found_only al ⟨cfC, kC, iC, gC⟩, stC⟩, slV, slC, by simp [RoadKit.slotOf, gV], by simp [RoadKit.slotOf, gC]⟩
theorem sta_is {Z U : State} (al : Z.vm.Alike U.vm) {C n d : String} {v : Value} (S : RoadKit.Sta Z U.heap C n d v) : StaticIs U C n d v := by
  obtain ⟨cfS, iS, kS, fS, st, cS, t1, t2, t3, t4, t5, t6, t7⟩ := S
  exact StaticIs.there (s := { Z with heap := U.heap }) ⟨cfS, iS, kS, fS, st, cS, t1, t2, t3, t4, t5, (fun q => by rw [q] at t6; cases t6), t7⟩ al rfl
/-- **length() OF SUCH A STRING** -/
theorem lenW {p : Program} {l : Launch} {e : Env} {R : Room} {s : State} {args : Array Value} {below : List Frame} {len W : Nat} {Z : State} {a0 : Array Value} {h : Heap} (hZ : Z.Warmed39 s.vm) (hw : ∀ d ∈ wordsLen, d.before a0 Z = true) {kI : Nat} (wi : (Jvm.Cond.instantiable ST kI).before a0 Z = true)
    {x t : Addr} {kb : ClassId} {cs : List Int32} {cd N2 z : Int32} {vs : List Value} (E : RoadKit.Exa Z h x ST) (V : RoadKit.Fld Z h x ST "value" "[B" (.ref t)) (C : RoadKit.Fld Z h x ST "coder" "B" (.int cd)) (K : RoadKit.Arv Z h t kb .byte N2 vs (.int 0)) (hc : CodA cs cd N2 vs) (hb : ∀ c ∈ cs, ¬ c < 0 ∧ ¬ (65535 : Int32) < c)
    (S : RoadKit.Sta Z h ST "COMPACT_STRINGS" "Z" (.int z)) (hz : ¬ z = 0) (l2 : cs.length ≤ 4000) (hfr : 2 ≤ R.frames) (hlo : W + 25 ≤ R.locals) :
    Back l R p e below s args (⟨"java/lang/String", "length", "()I"⟩ : MethodName) len W (fun P a => a = #[.ref x] ∧ P.U.heap = h ∧ P.cells + 0 ≤ R.cells ∧ P.slots + 0 ≤ R.slots)
      (fun P _ v B => ∃ L, (v = some (.int (Int32.ofNat cs.length)) ∧ L = [] ∧ B.U.heap = h) ∧ B.locs = P.locs ++ L ∧ B.cells = P.cells + 0 ∧ B.slots = P.slots + 0) := by
  obtain ⟨A, K1, K2, K3, K4, K5, K6⟩ := K
  have hcod := hc.cod (by omega) K3 K5
  intro m meth c P g ig mk a X hg hsize hdg hW hn hp'
  obtain ⟨rfl, rfl, r1, r2⟩ := hp'
  have al : Z.vm.Alike P.U.vm := hZ.alike.trans X.warmed.alike
  obtain ⟨D, fV, fC, hB, F1, F2, g1, g2, -, -⟩ := strObj wi al E V C
  have hx : Txt x t A cd cs.length (fun j => cs.getD j 0) P.U := ⟨⟨_, hB.2.2.1, D, hB.1, rfl, by cases q : D.vm <;> first | rfl | exact absurd q (hB.2.1.2 _)⟩, Has.of hB F1 g1, Has.of hB F2 g2, ⟨K1.1, State.isArrayOf_alike al K1.2.1, K1.2.2, by rcases hcod with ⟨-, q, -⟩ | ⟨-, q, -⟩ <;> omega⟩, hcod, fun j hj => by
    have e : cs.getD j 0 = cs[j] := by simp [List.getD_eq_getElem?_getD, hj]
    show ¬ cs.getD j 0 < 0 ∧ ¬ 65535 < cs.getD j 0
    rw [e]; exact hb _ (List.getElem_mem _)⟩
  obtain ⟨v, B, X', ⟨⟨hv, hh⟩, hl, hk, hs⟩, st⟩ := Len.pays x t A cd cs.length (fun j => cs.getD j 0) z (tabLen_of (movedLen hZ hw)) hfr hlo m meth c P g ig mk _ X hg hsize hdg hW hn ⟨r1, r2, rfl, hx, sta_is al S, hz⟩
  exact ⟨v, B, X', ⟨[], ⟨hv, rfl, hh⟩, hl, hk, hs⟩, st⟩
end StrChars.Road
namespace StrChars
open Jvm Sem ClassFile Op Lib Jvm.Stand Jvm.Free.XT Jvm.Free.ALB Jvm.Free.JM Jvm.Free
open Jvm.Lib.Cold (StaticIs)
/-- what place i of a byte[]'s cell holds -/
def yv (A : Cell) (i : Nat) : Int32 := match A.slots[i]? with | some (.int x) => x | _ => 0
theorem yv_get {a : Addr} {A : Cell} {U : State} (h : XT.Arr .byte a A U) (ht : Typed .byte A) {i : Nat} (hi : i < A.slots.size) : A.slots[i]? = some (.int (yv A i)) := by
  have e := Array.getElem?_eq_getElem hi
  have f := ht i _ e
  unfold yv; rw [e]
  generalize A.slots[i] = v at f
  cases v <;> simp [fits] at f ⊢
/-- the two arrays are equal, place for place -/
def EqC (A B : Cell) : Prop := A.slots.size = B.slots.size ∧ ∀ i, i < A.slots.size → yv A i = yv B i
/-- a boolean that says whether p -/
def Says01 (q : Prop) (r : Option Value) (s u : State) : Prop := ∃ v : Int32, r = some (.int v) ∧ u.heap = s.heap ∧ ((v = 1 ∧ q) ∨ (v = 0 ∧ ¬ q))
theorem Says01.mv {q : Prop} : ∀ r (U U' V V' : State), U'.heap = U.heap → V.vm.Alike V'.vm → V'.heap = V.heap → Says01 q r U V → Says01 q r U' V' :=
  fun r U U' V V' h1 _ h2 ⟨v, a, b, c⟩ => ⟨v, a, by rw [h1, h2]; exact b, c⟩
namespace LEq
def yN : MethodName := ⟨"java/lang/StringLatin1", "equals", "([B[B)Z"⟩
abbrev yB : ByteArray := jdk_43_method_13_code
theorem d0 : decode yB 0 = .ok (.aload_n 0, 1) := by decide +kernel
theorem d1 : decode yB 1 = .ok (.arraylength, 1) := by decide +kernel
theorem d2 : decode yB 2 = .ok (.aload_n 1, 1) := by decide +kernel
theorem d3 : decode yB 3 = .ok (.arraylength, 1) := by decide +kernel
theorem d4 : decode yB 4 = .ok (.if_icmp (.ne) 30, 3) := by decide +kernel
theorem d7 : decode yB 7 = .ok (.iconst 0, 1) := by decide +kernel
theorem d8 : decode yB 8 = .ok (.istore_n 2, 1) := by decide +kernel
theorem d9 : decode yB 9 = .ok (.iload_n 2, 1) := by decide +kernel
theorem d10 : decode yB 10 = .ok (.aload_n 0, 1) := by decide +kernel
theorem d11 : decode yB 11 = .ok (.arraylength, 1) := by decide +kernel
theorem d12 : decode yB 12 = .ok (.if_icmp (.ge) 20, 3) := by decide +kernel
theorem d15 : decode yB 15 = .ok (.aload_n 0, 1) := by decide +kernel
theorem d16 : decode yB 16 = .ok (.iload_n 2, 1) := by decide +kernel
theorem d17 : decode yB 17 = .ok (.baload, 1) := by decide +kernel
theorem d18 : decode yB 18 = .ok (.aload_n 1, 1) := by decide +kernel
theorem d19 : decode yB 19 = .ok (.iload_n 2, 1) := by decide +kernel
theorem d20 : decode yB 20 = .ok (.baload, 1) := by decide +kernel
theorem d21 : decode yB 21 = .ok (.if_icmp (.eq) 5, 3) := by decide +kernel
theorem d24 : decode yB 24 = .ok (.iconst 0, 1) := by decide +kernel
theorem d25 : decode yB 25 = .ok (.ireturn, 1) := by decide +kernel
theorem d26 : decode yB 26 = .ok (.iinc 2 1, 3) := by decide +kernel
theorem d29 : decode yB 29 = .ok (.goto (-20), 3) := by decide +kernel
theorem d32 : decode yB 32 = .ok (.iconst 1, 1) := by decide +kernel
theorem d33 : decode yB 33 = .ok (.ireturn, 1) := by decide +kernel
theorem d34 : decode yB 34 = .ok (.iconst 0, 1) := by decide +kernel
theorem d35 : decode yB 35 = .ok (.ireturn, 1) := by decide +kernel
def site : List Cond := []
def tab : Cond := tabOf yN yB 3 (some .boolean) site
def P (a : Addr) (A : Cell) (b : Addr) (B : Cell) (args : Array Value) (s : State) : Prop := args = #[.ref a, .ref b] ∧ XT.Arr .byte a A s ∧ Typed .byte A ∧ XT.Arr .byte b B s ∧ Typed .byte B
/-- whether two byte[] are equal, place for place -/
theorem law (l : Launch) (a : Addr) (A : Cell) (b : Addr) (B : Cell) : Law l yN 2 2 0 0 yB 3 (some .boolean) site (P a A b B) (Says01 (EqC A B)) [] 0 0 := by
  refine Law.of_walk (plainFor_of_name (by decide +kernel)) (by decide +kernel) (by decide +kernel) (by decide) (fun _ _ h => by rw [h.1]; rfl) (fun _ U U' hal hh h => ⟨h.1, h.2.1.mv hal hh, h.2.2.1, h.2.2.2.1.mv hal hh, h.2.2.2.2⟩) (fun r U U' V V' h1 hal h2 h => Says01.mv r U U' V V' h1 hal h2 h) ?_
  intro p e s m args below meth c s₁ X0 hexec hbytes hml hret hlk hnm hown hh0 W hP
  obtain ⟨rfl, hA, tA, hB, tB⟩ := hP
  have a31 := hA.2.2.2
  have b31 := hB.2.2.2
  have hA0 := hA.mv X0.warmed.alike hh0
  have hB0 := hB.mv X0.warmed.alike hh0
  have c1 : Steps p.tables e below (s₁.setTop (entryFrame m #[.ref a, .ref b] 3)) (s₁.setTop (mkF m 0 #[.val (.ref a), .val (.ref b), .unset] [])) := entry rfl
  have c2 : Steps p.tables e below (s₁.setTop (entryFrame m #[.ref a, .ref b] 3)) (s₁.setTop (mkF m 4 #[.val (.ref a), .val (.ref b), .unset] [.int (Int32.ofNat B.slots.size), .int (Int32.ofNat A.slots.size)])) := c1.trans (by
    refine XS.aloadN X0.here hexec rfl (hb hbytes d0) rfl rfl ?_
    refine X0.alen hexec hA0 rfl rfl (hb hbytes d1) ?_
    refine XS.aloadN X0.here hexec rfl (hb hbytes d2) rfl rfl ?_
    refine X0.alen hexec hB0 rfl rfl (hb hbytes d3) ?_
    exact Steps.refl _)
  by_cases hs : A.slots.size = B.slots.size
  · have c3 : Steps p.tables e below (s₁.setTop (entryFrame m #[.ref a, .ref b] 3)) (s₁.setTop (mkF m 9 #[.val (.ref a), .val (.ref b), .val (.int 0)] [])) := c2.trans (by
      refine XS.icmpNo X0.here hexec rfl (hb hbytes d4) rfl (ii_ne_f (by rw [hs])) ?_
      refine iconstV X0.here hexec rfl 0 (hb hbytes d7) (by decide) ?_
      refine XS.istoreN X0.here hexec rfl (hb hbytes d8) rfl rfl ?_
      exact Steps.refl _)
    have loop : ∀ (r i : Nat), i + r = A.slots.size → (∀ j, j < i → yv A j = yv B j) → Steps p.tables e below (s₁.setTop (entryFrame m #[.ref a, .ref b] 3)) (s₁.setTop (mkF m 9 #[.val (.ref a), .val (.ref b), .val (.int (Int32.ofNat i))] [])) → ∃ (pc : Nat) (Ls : Array Slot) (v : Int32), (pc = 25 ∨ pc = 33) ∧ ((v = 1 ∧ EqC A B) ∨ (v = 0 ∧ ¬ EqC A B)) ∧ Steps p.tables e below (s₁.setTop (entryFrame m #[.ref a, .ref b] 3)) (s₁.setTop (mkF m pc Ls [.int v])) := by
      intro r
      induction r with
      | zero =>
        intro i hi he cl
        exact ⟨33, _, 1, Or.inr rfl, Or.inl ⟨rfl, hs, fun j hj => he j (by omega)⟩, cl.trans (by
          refine XS.iloadN X0.here hexec rfl (hb hbytes d9) rfl ?_
          refine XS.aloadN X0.here hexec rfl (hb hbytes d10) rfl rfl ?_
          refine X0.alen hexec hA0 rfl rfl (hb hbytes d11) ?_
          refine XS.icmpYes X0.here hexec rfl (pc0 := 12) rfl (hb hbytes d12) rfl (ii_ge_t (nlt32 (by omega) (by omega))) (by decide) rfl ?_
          refine iconstV X0.here hexec rfl 1 (hb hbytes d32) (by decide) ?_
          exact Steps.refl _)⟩
      | succ r ih =>
        intro i hi he cl
        have c4 : Steps p.tables e below (s₁.setTop (entryFrame m #[.ref a, .ref b] 3)) (s₁.setTop (mkF m 21 #[.val (.ref a), .val (.ref b), .val (.int (Int32.ofNat i))] [.int (yv B i), .int (yv A i)])) := cl.trans (by
          refine XS.iloadN X0.here hexec rfl (hb hbytes d9) rfl ?_
          refine XS.aloadN X0.here hexec rfl (hb hbytes d10) rfl rfl ?_
          refine X0.alen hexec hA0 rfl rfl (hb hbytes d11) ?_
          refine XS.icmpNo X0.here hexec rfl (hb hbytes d12) rfl (ii_ge_f (lt32 (by omega) (by omega))) ?_
          refine XS.aloadN X0.here hexec rfl (hb hbytes d15) rfl rfl ?_
          refine XS.iloadN X0.here hexec rfl (hb hbytes d16) rfl ?_
          refine X0.aget hexec hA0 rfl (yv_get hA tA (i := i) (by omega)) rfl rfl (hb hbytes d17) ?_
          refine XS.aloadN X0.here hexec rfl (hb hbytes d18) rfl rfl ?_
          refine XS.iloadN X0.here hexec rfl (hb hbytes d19) rfl ?_
          refine X0.aget hexec hB0 rfl (yv_get hB tB (i := i) (by omega)) rfl rfl (hb hbytes d20) ?_
          exact Steps.refl _)
        by_cases hv : yv A i = yv B i
        · have c5 : Steps p.tables e below (s₁.setTop (entryFrame m #[.ref a, .ref b] 3)) (s₁.setTop (mkF m 9 #[.val (.ref a), .val (.ref b), .val (.int (Int32.ofNat i + 1))] [])) := c4.trans (by
            refine XS.icmpYes X0.here hexec rfl (pc0 := 21) rfl (hb hbytes d21) rfl (ii_eq_t hv) (by decide) rfl ?_
            refine iincV X0.here hexec rfl 1 (hb hbytes d26) (by decide) rfl rfl ?_
            refine XS.goto X0.here hexec rfl (pc0 := 29) rfl (hb hbytes d29) (by decide) rfl ?_
            exact Steps.refl _)
          rw [succ32] at c5
          exact ih (i + 1) (by omega) (fun j hj => by
            by_cases e : j = i
            · rw [e]; exact hv
            · exact he j (by omega)) c5
        · exact ⟨25, _, 0, Or.inl rfl, Or.inr ⟨rfl, fun q => hv (q.2 i (by omega))⟩, c4.trans (by
            refine XS.icmpNo X0.here hexec rfl (hb hbytes d21) rfl (ii_eq_f hv) ?_
            refine iconstV X0.here hexec rfl 0 (hb hbytes d24) (by decide) ?_
            exact Steps.refl _)⟩
    obtain ⟨pc, Ls, v, hpc, hv, cz⟩ := loop A.slots.size 0 (by omega) (fun j hj => absurd hj (Nat.not_lt_zero j)) c3
    have nv : narrow .boolean (.int v) = .int v := by rcases hv with ⟨rfl, -⟩ | ⟨rfl, -⟩ <;> rfl
    rcases hpc with rfl | rfl
    · exact ⟨s₁, some (.int v), _, _, _, X0, rfl, rfl, rfl, (fun h => by cases h), ⟨v, rfl, hh0, hv⟩, fun fs hl => cz.trans (X0.ireturnOut hexec hret nv (Or.inr (Or.inl rfl)) (hb hbytes d25) hl)⟩
    · exact ⟨s₁, some (.int v), _, _, _, X0, rfl, rfl, rfl, (fun h => by cases h), ⟨v, rfl, hh0, hv⟩, fun fs hl => cz.trans (X0.ireturnOut hexec hret nv (Or.inr (Or.inl rfl)) (hb hbytes d33) hl)⟩
  · have c3 : Steps p.tables e below (s₁.setTop (entryFrame m #[.ref a, .ref b] 3)) (s₁.setTop (mkF m 35 #[.val (.ref a), .val (.ref b), .unset] [.int 0])) := c2.trans (by
      refine XS.icmpYes X0.here hexec rfl (pc0 := 4) rfl (hb hbytes d4) rfl (ii_ne_t (ne32 a31 b31 hs)) (by decide) rfl ?_
      refine iconstV X0.here hexec rfl 0 (hb hbytes d34) (by decide) ?_
      exact Steps.refl _)
    exact ⟨s₁, some (.int 0), _, _, _, X0, rfl, rfl, rfl, (fun h => by cases h), ⟨0, rfl, hh0, Or.inr ⟨rfl, fun q => hs q.1⟩⟩, fun fs hl => c3.trans (X0.ireturnOut hexec hret rfl (Or.inr (Or.inl rfl)) (hb hbytes d35) hl)⟩
end LEq
theorem Cod.ty {cd : Int32} {n : Nat} {f : Nat → Int32} {V : Cell} (h : Cod cd n f V) : Typed .byte V := fun i v hv => by
  have hi : i < V.slots.size := (Array.getElem?_eq_some_iff.mp hv).1
  rcases h with ⟨-, k1, k2⟩ | ⟨-, k1, k2, -⟩
  · rw [(k2 i (by omega)).1] at hv; cases hv; exact fits_lo8 _
  · rcases Nat.mod_two_eq_zero_or_one i with e | e
    · obtain ⟨j, rfl⟩ : ∃ j, i = 2 * j := ⟨i / 2, by omega⟩
      rw [(k2 j (by omega)).1] at hv; cases hv; exact fits_lo8 _
    · obtain ⟨j, rfl⟩ : ∃ j, i = 2 * j + 1 := ⟨i / 2, by omega⟩
      rw [(k2 j (by omega)).2] at hv; cases hv; exact fits_lo8 _
/-- the same text -/
def SameT (n : Nat) (f : Nat → Int32) (k : Nat) (g : Nat → Int32) : Prop := n = k ∧ ∀ j, j < n → f j = g j
theorem lo8_inj {x y : Int32} (h0 : ¬ x < 0) (h1 : ¬ 255 < x) (k0 : ¬ y < 0) (k1 : ¬ 255 < y) (h : lo8 x = lo8 y) : x = y := by
  rw [← lo8_mask h0 h1, ← lo8_mask k0 k1, h]
/-- arrays coded by one coder are equal just where the texts are -/
theorem Cod.eqv {cd : Int32} {n k : Nat} {f g : Nat → Int32} {V V' : Cell} (h : Cod cd n f V) (h' : Cod cd k g V') (hf : ∀ j, j < n → ¬ f j < 0 ∧ ¬ 65535 < f j) (hg : ∀ j, j < k → ¬ g j < 0 ∧ ¬ 65535 < g j) : EqC V V' ↔ SameT n f k g := by
  have yvv : ∀ {W : Cell} {i : Nat} {x : Int32}, W.slots[i]? = some (.int x) → yv W i = x := fun q => by unfold yv; rw [q]
  rcases h with ⟨rfl, k1, k2⟩ | ⟨rfl, k1, k2, -⟩
  · rcases h' with ⟨-, m1, m2⟩ | ⟨e, -⟩
    · constructor
      · rintro ⟨e1, e2⟩
        refine ⟨by omega, fun j hj => ?_⟩
        have q := e2 j (by omega)
        rw [yvv (k2 j hj).1, yvv (m2 j (by omega)).1] at q
        exact lo8_inj (hf j hj).1 (k2 j hj).2 (hg j (by omega)).1 (m2 j (by omega)).2 q
      · rintro ⟨rfl, e2⟩
        refine ⟨by omega, fun j hj => ?_⟩
        rw [yvv (k2 j (by omega)).1, yvv (m2 j (by omega)).1, e2 j (by omega)]
    · exact absurd e (by decide)
  · rcases h' with ⟨e, -⟩ | ⟨-, m1, m2, -⟩
    · exact absurd e (by decide)
    · constructor
      · rintro ⟨e1, e2⟩
        refine ⟨by omega, fun j hj => ?_⟩
        have q1 := e2 (2 * j) (by omega)
        have q2 := e2 (2 * j + 1) (by omega)
        rw [yvv (k2 j hj).1, yvv (m2 j (by omega)).1] at q1
        rw [yvv (k2 j hj).2, yvv (m2 j (by omega)).2] at q2
        rw [← pair_says (hf j hj).1 (hf j hj).2, ← pair_says (hg j (by omega)).1 (hg j (by omega)).2, q1, q2]
      · rintro ⟨rfl, e2⟩
        refine ⟨by omega, fun i hi => ?_⟩
        rcases Nat.mod_two_eq_zero_or_one i with e | e
        · obtain ⟨j, rfl⟩ : ∃ j, i = 2 * j := ⟨i / 2, by omega⟩
          rw [yvv (k2 j (by omega)).1, yvv (m2 j (by omega)).1, e2 j (by omega)]
        · obtain ⟨j, rfl⟩ : ∃ j, i = 2 * j + 1 := ⟨i / 2, by omega⟩
          rw [yvv (k2 j (by omega)).2, yvv (m2 j (by omega)).2, e2 j (by omega)]
/-- two codings differ: so do the texts -/
theorem Cod.dif {cd cd' : Int32} {n k : Nat} {f g : Nat → Int32} {V V' : Cell} (h : Cod cd n f V) (h' : Cod cd' k g V') (hne : ¬ cd = cd') : ¬ SameT n f k g := by
  rintro ⟨rfl, e⟩
  rcases h with ⟨rfl, -, k2⟩ | ⟨rfl, -, -, j, hj, hw⟩
  · rcases h' with ⟨rfl, -⟩ | ⟨-, -, -, j, hj, hw⟩
    · exact hne rfl
    · exact (k2 j hj).2 (by rw [e j hj]; exact hw)
  · rcases h' with ⟨-, -, m2⟩ | ⟨rfl, -⟩
    · exact (m2 j hj).2 (by rw [← e j hj]; exact hw)
    · exact hne rfl
/-- an object of exactly C is an instance of C -/
theorem cinst {p : Program} {l : Launch} {e : Env} {R : Room} {s : State} {m : MethodId} {args : Array Value} {below : List Frame} {meth : Method} {c : Code} {T : State} {locs : List Loc} {cells slots : Nat} (X : Stand p l e R s m args below meth c T locs cells slots) (hexec : p.tables.exec = Jvm.exec) {own C : String} {index : Nat} (hown : s.vm.findClass own = some m.cls) (hlink : (Cond.classLink own index C).before args s = true) {a : Addr} (hE : Exact C a T)
    {g : JFrame} (hg : g.method = m) {rest : List Value} (hstack : g.stack = .ref a :: rest) (hdg : decode c.code g.pc = .ok (.instanceof index, 3)) :
    ∃ T', Stand p l e R s m args below meth c T' locs cells slots ∧ T'.heap = T.heap ∧ ∀ target, Steps p.tables e below (T'.setTop { g with pc := g.pc + 3, stack := .int 1 :: rest }) target → Steps p.tables e below (T.setTop g) target := by
  obtain ⟨cB, h1, D, h2, h3, h4⟩ := hE
  have h1' : s.vm.findClass C = some cB := by rw [← X.warmed.alike.findClass]; exact h1
  obtain ⟨vm', X', st⟩ := X.instanceofYes hexec hown hlink h2 h4 h1' (by rw [h3]; exact Jvm.Free.SB.assignable_self _ _) hg hstack hdg
  exact ⟨_, X', rfl, st⟩
theorem cself {p : Program} {l : Launch} {e : Env} {R : Room} {s : State} {m : MethodId} {args : Array Value} {below : List Frame} {meth : Method} {c : Code} {T : State} {locs : List Loc} {cells slots : Nat} (X : Stand p l e R s m args below meth c T locs cells slots) (hexec : p.tables.exec = Jvm.exec) {own C : String} {index : Nat} (hown : s.vm.findClass own = some m.cls) (hlink : (Cond.classLink own index C).before args s = true) {a : Addr} (hE : Exact C a T)
    {g : JFrame} (hg : g.method = m) {rest : List Value} (hstack : g.stack = .ref a :: rest) (hdg : decode c.code g.pc = .ok (.checkcast index, 3)) :
    ∃ T', Stand p l e R s m args below meth c T' locs cells slots ∧ T'.heap = T.heap ∧ ∀ target, Steps p.tables e below (T'.setTop { g with pc := g.pc + 3, stack := .ref a :: rest }) target → Steps p.tables e below (T.setTop g) target := by
  obtain ⟨cB, h1, D, h2, h3, h4⟩ := hE
  have h1' : s.vm.findClass C = some cB := by rw [← X.warmed.alike.findClass]; exact h1
  obtain ⟨vm', X', st⟩ := X.checkcastYes hexec hown hlink h2 h4 h1' (by rw [h3]; exact Jvm.Free.SB.assignable_self _ _) hg hstack hdg
  exact ⟨_, X', rfl, fun t h => st t (by rw [← hstack] at h; exact h)⟩
namespace SEq
def yN : MethodName := ⟨"java/lang/String", "equals", "(Ljava/lang/Object;)Z"⟩
abbrev yB : ByteArray := jdk_42_method_66_code
theorem d0 : decode yB 0 = .ok (.aload_n 0, 1) := by decide +kernel
theorem d1 : decode yB 1 = .ok (.aload_n 1, 1) := by decide +kernel
theorem d2 : decode yB 2 = .ok (.if_acmp (.ne) 5, 3) := by decide +kernel
theorem d5 : decode yB 5 = .ok (.iconst 1, 1) := by decide +kernel
theorem d6 : decode yB 6 = .ok (.ireturn, 1) := by decide +kernel
theorem d7 : decode yB 7 = .ok (.aload_n 1, 1) := by decide +kernel
theorem d8 : decode yB 8 = .ok (.instanceof 10, 3) := by decide +kernel
theorem d11 : decode yB 11 = .ok (.ifCond (.eq) 43, 3) := by decide +kernel
theorem d14 : decode yB 14 = .ok (.aload_n 1, 1) := by decide +kernel
theorem d15 : decode yB 15 = .ok (.checkcast 10, 3) := by decide +kernel
theorem d18 : decode yB 18 = .ok (.astore_n 2, 1) := by decide +kernel
theorem d19 : decode yB 19 = .ok (.getstatic 38, 3) := by decide +kernel
theorem d22 : decode yB 22 = .ok (.ifCond (.eq) 14, 3) := by decide +kernel
theorem d25 : decode yB 25 = .ok (.aload_n 0, 1) := by decide +kernel
theorem d26 : decode yB 26 = .ok (.getfield 15, 3) := by decide +kernel
theorem d29 : decode yB 29 = .ok (.aload_n 2, 1) := by decide +kernel
theorem d30 : decode yB 30 = .ok (.getfield 15, 3) := by decide +kernel
theorem d33 : decode yB 33 = .ok (.if_icmp (.ne) 21, 3) := by decide +kernel
theorem d36 : decode yB 36 = .ok (.aload_n 0, 1) := by decide +kernel
theorem d37 : decode yB 37 = .ok (.getfield 9, 3) := by decide +kernel
theorem d40 : decode yB 40 = .ok (.aload_n 2, 1) := by decide +kernel
theorem d41 : decode yB 41 = .ok (.getfield 9, 3) := by decide +kernel
theorem d44 : decode yB 44 = .ok (.invokestatic 541, 3) := by decide +kernel
theorem d47 : decode yB 47 = .ok (.ifCond (.eq) 7, 3) := by decide +kernel
theorem d50 : decode yB 50 = .ok (.iconst 1, 1) := by decide +kernel
theorem d51 : decode yB 51 = .ok (.goto 4, 3) := by decide +kernel
theorem d54 : decode yB 54 = .ok (.iconst 0, 1) := by decide +kernel
theorem d55 : decode yB 55 = .ok (.ireturn, 1) := by decide +kernel
def site : List Cond := [.classLink "java/lang/String" 10 "java/lang/String", .fieldLink "java/lang/String" 38 "java/lang/String" "COMPACT_STRINGS" "Z", .fieldLink "java/lang/String" 15 "java/lang/String" "coder" "B", .fieldLink "java/lang/String" 9 "java/lang/String" "value" "[B", LEq.tab] ++ staticW "java/lang/String" 541 LEq.yN
def tab : Cond := tabOf yN yB 3 (some .boolean) site
def P (x t : Addr) (V : Cell) (cd : Int32) (n : Nat) (f : Nat → Int32) (y t' : Addr) (V' : Cell) (cd' : Int32) (k : Nat) (g : Nat → Int32) (z : Int32) (args : Array Value) (s : State) : Prop := args = #[.ref x, .ref y] ∧ Txt x t V cd n f s ∧ Txt y t' V' cd' k g s ∧ StaticIs s "java/lang/String" "COMPACT_STRINGS" "Z" (.int z) ∧ ¬ z = 0
/-- equals(Object) of two Strings: whether the texts are the same -/
theorem law (l : Launch) (x t : Addr) (V : Cell) (cd : Int32) (n : Nat) (f : Nat → Int32) (y t' : Addr) (V' : Cell) (cd' : Int32) (k : Nat) (g : Nat → Int32) (z : Int32) : Law l yN 2 1 1 14 yB 3 (some .boolean) site (P x t V cd n f y t' V' cd' k g z) (Says01 (SameT n f k g)) [] 0 0 := by
  refine Law.of_walk (plainFor_of_name (by decide +kernel)) (by decide +kernel) (by decide +kernel) (by decide) (fun _ _ h => by rw [h.1]; rfl) (fun _ U U' hal hh h => ⟨h.1, h.2.1.mv hal hh, h.2.2.1.mv hal hh, h.2.2.2.1.there hal hh, h.2.2.2.2⟩) (fun r U U' V V' h1 hal h2 h => Says01.mv r U U' V V' h1 hal h2 h) ?_
  intro p e s m args below meth c s₁ X0 hexec hbytes hml hret hlk hnm hown hh0 W hP
  obtain ⟨rfl, hx, hy, s1, hz⟩ := hP
  have c1 : Steps p.tables e below (s₁.setTop (entryFrame m #[.ref x, .ref y] 3)) (s₁.setTop (mkF m 2 #[.val (.ref x), .val (.ref y), .unset] [.ref y, .ref x])) := Steps.trans (entry rfl) (by
    show Steps p.tables e below (s₁.setTop (mkF m 0 #[.val (.ref x), .val (.ref y), .unset] [])) _
    refine XS.aloadN X0.here hexec rfl (hb hbytes d0) rfl rfl ?_
    refine XS.aloadN X0.here hexec rfl (hb hbytes d1) rfl rfl ?_
    exact Steps.refl _)
  by_cases hxy : x = y
  · have c2 : Steps p.tables e below (s₁.setTop (entryFrame m #[.ref x, .ref y] 3)) (s₁.setTop (mkF m 6 #[.val (.ref x), .val (.ref y), .unset] [.int 1])) := c1.trans (by
      refine acmpNo X0.here hexec rfl (hb hbytes d2) rfl rfl rfl (by simp [acmp, hxy]) ?_
      refine iconstV X0.here hexec rfl 1 (hb hbytes d5) (by decide) ?_
      exact Steps.refl _)
    subst hxy
    have ec : cd = cd' := by
      obtain ⟨D, fd, a1, a2, a3⟩ := hx.2.2.1
      obtain ⟨D', fd', b1, b2, b3⟩ := hy.2.2.1
      cases a1.symm.trans b1
      obtain ⟨q1, q2, q3, q4⟩ := a2.1
      obtain ⟨r1, r2, r3, r4⟩ := b2.1
      cases q4.symm.trans r4
      cases a3.symm.trans b3; rfl
    have et : t = t' := by
      obtain ⟨D, fd, a1, a2, a3⟩ := hx.2.1
      obtain ⟨D', fd', b1, b2, b3⟩ := hy.2.1
      cases a1.symm.trans b1
      obtain ⟨q1, q2, q3, q4⟩ := a2.1
      obtain ⟨r1, r2, r3, r4⟩ := b2.1
      cases q4.symm.trans r4
      cases a3.symm.trans b3; rfl
    subst ec et
    have ev : V = V' := by cases hx.2.2.2.1.1.symm.trans hy.2.2.2.1.1; rfl
    subst ev
    have hs : SameT n f k g := (Cod.eqv hx.2.2.2.2.1 hy.2.2.2.2.1 hx.2.2.2.2.2 hy.2.2.2.2.2).mp ⟨rfl, fun _ _ => rfl⟩
    exact ⟨s₁, some (.int 1), _, _, _, X0, rfl, rfl, rfl, (fun h => by cases h), ⟨1, rfl, hh0, Or.inl ⟨rfl, hs⟩⟩, fun fs hl => c2.trans (X0.ireturnOut hexec hret rfl (Or.inr (Or.inl rfl)) (hb hbytes d6) hl)⟩
  · have c2 : Steps p.tables e below (s₁.setTop (entryFrame m #[.ref x, .ref y] 3)) (s₁.setTop (mkF m 8 #[.val (.ref x), .val (.ref y), .unset] [.ref y])) := c1.trans (by
      refine acmpYes X0.here hexec rfl (pc0 := 2) rfl (hb hbytes d2) rfl rfl rfl (by simp [acmp, hxy]) (by decide) rfl ?_
      refine XS.aloadN X0.here hexec rfl (hb hbytes d7) rfl rfl ?_
      exact Steps.refl _)
    obtain ⟨T3, X3, q3, st3⟩ := cinst X0 hexec hown (wk W (.classLink "java/lang/String" 10 "java/lang/String")) (hy.mv X0.warmed.alike hh0).1 (g := (mkF m 8 #[.val (.ref x), .val (.ref y), .unset] [.ref y])) rfl (rest := []) rfl (hb hbytes d8)
    have hh3 := q3.trans hh0
    have c4 : Steps p.tables e below (s₁.setTop (entryFrame m #[.ref x, .ref y] 3)) (T3.setTop (mkF m 15 #[.val (.ref x), .val (.ref y), .unset] [.ref y])) := (c2.trans (st3 _ (Steps.refl _))).trans (by
      refine XS.ifNo X3.here hexec rfl (hb hbytes d11) rfl (i0_eq_f (by decide)) ?_
      refine XS.aloadN X3.here hexec rfl (hb hbytes d14) rfl rfl ?_
      exact Steps.refl _)
    obtain ⟨T5, X5, q5, st5⟩ := cself X3 hexec hown (wk W (.classLink "java/lang/String" 10 "java/lang/String")) (hy.mv X3.warmed.alike hh3).1 (g := (mkF m 15 #[.val (.ref x), .val (.ref y), .unset] [.ref y])) rfl (rest := []) rfl (hb hbytes d15)
    have hh5 := q5.trans hh3
    have c6 : Steps p.tables e below (s₁.setTop (entryFrame m #[.ref x, .ref y] 3)) (T5.setTop (mkF m 19 #[.val (.ref x), .val (.ref y), .val (.ref y)] [])) := (c4.trans (st5 _ (Steps.refl _))).trans (by
      refine XS.astoreN X5.here hexec rfl (hb hbytes d18) rfl rfl rfl ?_
      exact Steps.refl _)
    obtain ⟨T7, X7, q7, st7⟩ := X5.sget hexec hown (wk W (.fieldLink "java/lang/String" 38 "java/lang/String" "COMPACT_STRINGS" "Z")) s1 (fun _ _ h => by rw [hh5]; exact h) (g := (mkF m 19 #[.val (.ref x), .val (.ref y), .val (.ref y)] [])) rfl (hb hbytes d19)
    have hh7 := q7.trans hh5
    have c8 : Steps p.tables e below (s₁.setTop (entryFrame m #[.ref x, .ref y] 3)) (T7.setTop (mkF m 26 #[.val (.ref x), .val (.ref y), .val (.ref y)] [.ref x])) := (c6.trans (st7 _ (Steps.refl _))).trans (by
      refine XS.ifNo X7.here hexec rfl (hb hbytes d22) rfl (i0_eq_f hz) ?_
      refine XS.aloadN X7.here hexec rfl (hb hbytes d25) rfl rfl ?_
      exact Steps.refl _)
    obtain ⟨T9, X9, q9, st9⟩ := X7.hget hexec hown (wk W (.fieldLink "java/lang/String" 15 "java/lang/String" "coder" "B")) (hx.mv X7.warmed.alike hh7).2.2.1 (g := (mkF m 26 #[.val (.ref x), .val (.ref y), .val (.ref y)] [.ref x])) rfl (rest := []) rfl (hb hbytes d26)
    have hh9 := q9.trans hh7
    have c10 : Steps p.tables e below (s₁.setTop (entryFrame m #[.ref x, .ref y] 3)) (T9.setTop (mkF m 30 #[.val (.ref x), .val (.ref y), .val (.ref y)] [.ref y, .int cd])) := (c8.trans (st9 _ (Steps.refl _))).trans (by
      refine XS.aloadN X9.here hexec rfl (hb hbytes d29) rfl rfl ?_
      exact Steps.refl _)
    obtain ⟨T11, X11, q11, st11⟩ := X9.hget hexec hown (wk W (.fieldLink "java/lang/String" 15 "java/lang/String" "coder" "B")) (hy.mv X9.warmed.alike hh9).2.2.1 (g := (mkF m 30 #[.val (.ref x), .val (.ref y), .val (.ref y)] [.ref y, .int cd])) rfl (rest := [.int cd]) rfl (hb hbytes d30)
    have hh11 := q11.trans hh9
    have c12 : Steps p.tables e below (s₁.setTop (entryFrame m #[.ref x, .ref y] 3)) (T11.setTop (mkF m 33 #[.val (.ref x), .val (.ref y), .val (.ref y)] [.int cd', .int cd])) := c10.trans (st11 _ (Steps.refl _))
    by_cases hcd : cd = cd'
    · subst hcd
      have c13 : Steps p.tables e below (s₁.setTop (entryFrame m #[.ref x, .ref y] 3)) (T11.setTop (mkF m 37 #[.val (.ref x), .val (.ref y), .val (.ref y)] [.ref x])) := c12.trans (by
        refine XS.icmpNo X11.here hexec rfl (hb hbytes d33) rfl (ii_ne_f rfl) ?_
        refine XS.aloadN X11.here hexec rfl (hb hbytes d36) rfl rfl ?_
        exact Steps.refl _)
      obtain ⟨T14, X14, q14, st14⟩ := X11.hget hexec hown (wk W (.fieldLink "java/lang/String" 9 "java/lang/String" "value" "[B")) (hx.mv X11.warmed.alike hh11).2.1 (g := (mkF m 37 #[.val (.ref x), .val (.ref y), .val (.ref y)] [.ref x])) rfl (rest := []) rfl (hb hbytes d37)
      have hh14 := q14.trans hh11
      have c15 : Steps p.tables e below (s₁.setTop (entryFrame m #[.ref x, .ref y] 3)) (T14.setTop (mkF m 41 #[.val (.ref x), .val (.ref y), .val (.ref y)] [.ref y, .ref t])) := (c13.trans (st14 _ (Steps.refl _))).trans (by
        refine XS.aloadN X14.here hexec rfl (hb hbytes d40) rfl rfl ?_
        exact Steps.refl _)
      obtain ⟨T16, X16, q16, st16⟩ := X14.hget hexec hown (wk W (.fieldLink "java/lang/String" 9 "java/lang/String" "value" "[B")) (hy.mv X14.warmed.alike hh14).2.1 (g := (mkF m 41 #[.val (.ref x), .val (.ref y), .val (.ref y)] [.ref y, .ref t])) rfl (rest := [.ref t]) rfl (hb hbytes d41)
      have hh16 := q16.trans hh14
      have c17 : Steps p.tables e below (s₁.setTop (entryFrame m #[.ref x, .ref y] 3)) (T16.setTop (mkF m 44 #[.val (.ref x), .val (.ref y), .val (.ref y)] [.ref t', .ref t])) := c15.trans (st16 _ (Steps.refl _))
      obtain ⟨v18, T18, X18, E18, g18⟩ := X16.callS hexec (LEq.law l t V t' V') hown (wks W (staticW "java/lang/String" 541 LEq.yN)) (wk W LEq.tab) (W := 0) (Nat.le_of_ble_eq_true rfl) (Nat.le_of_ble_eq_true rfl) (Nat.le_refl _) (Nat.le_refl _) (g := (mkF m 44 #[.val (.ref x), .val (.ref y), .val (.ref y)] [.ref t', .ref t])) rfl (by rw [hml]; rfl) c17 (argsL := [.ref t, .ref t']) (rest := []) rfl rfl (by show 2 * 0 + 0 ≤ _; decide) (hb hbytes d44) (⟨rfl, hx.2.2.2.1.mv X16.warmed.alike hh16, hx.2.2.2.2.1.ty, hy.2.2.2.1.mv X16.warmed.alike hh16, hy.2.2.2.2.1.ty⟩)
      obtain ⟨v, rfl, q18, hv⟩ := E18
      have iff := Cod.eqv hx.2.2.2.2.1 hy.2.2.2.2.1 hx.2.2.2.2.2 hy.2.2.2.2.2
      rcases hv with ⟨rfl, he⟩ | ⟨rfl, he⟩
      · have c19 : Steps p.tables e below (s₁.setTop (entryFrame m #[.ref x, .ref y] 3)) (T18.setTop (mkF m 55 #[.val (.ref x), .val (.ref y), .val (.ref y)] [.int 1])) := Steps.trans g18 (by
          refine XS.ifNo X18.here hexec rfl (hb hbytes d47) rfl (i0_eq_f (by decide)) ?_
          refine iconstV X18.here hexec rfl 1 (hb hbytes d50) (by decide) ?_
          refine XS.goto X18.here hexec rfl (pc0 := 51) rfl (hb hbytes d51) (by decide) rfl ?_
          exact Steps.refl _)
        exact ⟨T18, some (.int 1), _, _, _, X18, rfl, rfl, rfl, (fun h => by cases h), ⟨1, rfl, q18.trans hh16, Or.inl ⟨rfl, iff.mp he⟩⟩, fun fs hl => c19.trans (X18.ireturnOut hexec hret rfl (Or.inr (Or.inl rfl)) (hb hbytes d55) hl)⟩
      · have c19 : Steps p.tables e below (s₁.setTop (entryFrame m #[.ref x, .ref y] 3)) (T18.setTop (mkF m 55 #[.val (.ref x), .val (.ref y), .val (.ref y)] [.int 0])) := Steps.trans g18 (by
          refine XS.ifYes X18.here hexec rfl (pc0 := 47) rfl (hb hbytes d47) rfl (i0_eq_t rfl) (by decide) rfl ?_
          refine iconstV X18.here hexec rfl 0 (hb hbytes d54) (by decide) ?_
          exact Steps.refl _)
        exact ⟨T18, some (.int 0), _, _, _, X18, rfl, rfl, rfl, (fun h => by cases h), ⟨0, rfl, q18.trans hh16, Or.inr ⟨rfl, fun q => he (iff.mpr q)⟩⟩, fun fs hl => c19.trans (X18.ireturnOut hexec hret rfl (Or.inr (Or.inl rfl)) (hb hbytes d55) hl)⟩
    · have c13 : Steps p.tables e below (s₁.setTop (entryFrame m #[.ref x, .ref y] 3)) (T11.setTop (mkF m 55 #[.val (.ref x), .val (.ref y), .val (.ref y)] [.int 0])) := c12.trans (by
        refine XS.icmpYes X11.here hexec rfl (pc0 := 33) rfl (hb hbytes d33) rfl (ii_ne_t hcd) (by decide) rfl ?_
        refine iconstV X11.here hexec rfl 0 (hb hbytes d54) (by decide) ?_
        exact Steps.refl _)
      exact ⟨T11, some (.int 0), _, _, _, X11, rfl, rfl, rfl, (fun h => by cases h), ⟨0, rfl, hh11, Or.inr ⟨rfl, Cod.dif hx.2.2.2.2.1 hy.2.2.2.2.1 hcd⟩⟩, fun fs hl => c13.trans (X11.ireturnOut hexec hret rfl (Or.inr (Or.inl rfl)) (hb hbytes d55) hl)⟩
theorem pays {l : Launch} {R : Room} {p : Program} {e : Env} {below : List Frame} {s : State} {sargs : Array Value} {len W : Nat} (x t : Addr) (V : Cell) (cd : Int32) (n : Nat) (f : Nat → Int32) (y t' : Addr) (V' : Cell) (cd' : Int32) (k : Nat) (g : Nat → Int32) (z : Int32) (htab : tab.before sargs s = true) (hfr : 2 ≤ R.frames) (hlo : W + 28 ≤ R.locals) :
    Back l R p e below s sargs yN len W (fun A₁ a₁ => A₁.cells + 0 ≤ R.cells ∧ A₁.slots + 0 ≤ R.slots ∧ P x t V cd n f y t' V' cd' k g z a₁ A₁.U) (fun A₁ _ v₁ B₁ => Says01 (SameT n f k g) v₁ A₁.U B₁.U ∧ B₁.locs = A₁.locs ++ [] ∧ B₁.cells = A₁.cells + 0 ∧ B₁.slots = A₁.slots + 0) :=
  (law l x t V cd n f y t' V' cd' k g z).pays htab hfr (by omega)
end SEq
end StrChars
namespace StrChars.Road
open Jvm Sem ClassFile Op Lib Jvm.Stand Jvm.Free Jvm.Free.XT
open Jvm.Lib.Cold (StaticIs)
/-- the words of String.equals(Object) -/
abbrev wordsEq : List Jvm.Cond := [.code SEq.yN SEq.yB 3 (some .boolean), .initialized ST, .classLink ST 10 ST, .fieldLink ST 38 ST "COMPACT_STRINGS" "Z", .fieldLink ST 15 ST "coder" "B", .fieldLink ST 9 ST "value" "[B", .methodLink ST 541 LEq.yN, .static LEq.yN, .code LEq.yN LEq.yB 3 (some .boolean), .initialized "java/lang/StringLatin1"]
theorem tabEq_of {a : Array Value} {s : State} (h : ∀ w ∈ wordsEq, w.before a s = true) : SEq.tab.before a s = true := by
  have hl : LEq.tab.before a s = true := unparts (wk h (.code LEq.yN LEq.yB 3 (some .boolean))) (wks h (.initialized LEq.yN.cls :: LEq.site))
  have q := consq hl h
  exact unparts (wk q (.code SEq.yN SEq.yB 3 (some .boolean))) (wks q (.initialized SEq.yN.cls :: SEq.site))
theorem movedEq {Z s : State} {a0 args : Array Value} (hZ : Z.Warmed39 s.vm) (hw : ∀ d ∈ wordsEq, d.before a0 Z = true) : ∀ d ∈ wordsEq, d.before args s = true := fun d hd => by
  have t : ∀ d ∈ wordsEq, (d.onTables && d.keepsFace) = true := by decide +kernel
  exact RoadKit.mv hZ (hw d hd) (t d hd)
/-- the road's facts of a String, as the laws ask it -/
theorem txt_of {Z U : State} {a0 : Array Value} {kI : Nat} (wi : (Jvm.Cond.instantiable ST kI).before a0 Z = true) (al : Z.vm.Alike U.vm) {x t : Addr} {kb : ClassId} {cs : List Int32} {cd N2 : Int32} {vs : List Value} (E : RoadKit.Exa Z U.heap x ST) (V : RoadKit.Fld Z U.heap x ST "value" "[B" (.ref t)) (C : RoadKit.Fld Z U.heap x ST "coder" "B" (.int cd)) (K : RoadKit.Arv Z U.heap t kb .byte N2 vs (.int 0)) (hc : CodA cs cd N2 vs) (hb : ∀ c ∈ cs, ¬ c < 0 ∧ ¬ (65535 : Int32) < c) (l2 : cs.length ≤ 4000) :
    ∃ A, Txt x t A cd cs.length (fun j => cs.getD j 0) U := by
  obtain ⟨A, K1, K2, K3, K4, K5, K6⟩ := K
  have hcod := hc.cod (by omega) K3 K5
  obtain ⟨D, fV, fC, hB, F1, F2, g1, g2, -, -⟩ := strObj wi al E V C
  exact ⟨A, ⟨_, hB.2.2.1, D, hB.1, rfl, by cases q : D.vm <;> first | rfl | exact absurd q (hB.2.1.2 _)⟩, Has.of hB F1 g1, Has.of hB F2 g2, ⟨K1.1, State.isArrayOf_alike al K1.2.1, K1.2.2, by rcases hcod with ⟨-, q, -⟩ | ⟨-, q, -⟩ <;> omega⟩, hcod, fun j hj => by
    have e : cs.getD j 0 = cs[j] := by simp [List.getD_eq_getElem?_getD, hj]
    show ¬ cs.getD j 0 < 0 ∧ ¬ 65535 < cs.getD j 0
    rw [e]; exact hb _ (List.getElem_mem _)⟩
theorem same_list (cs ds : List Int32) : SameT cs.length (fun j => cs.getD j 0) ds.length (fun j => ds.getD j 0) ↔ cs = ds := by
  constructor
  · rintro ⟨e, q⟩
    refine List.ext_getElem e fun j h1 h2 => ?_
    have := q j h1
    simpa [List.getD_eq_getElem?_getD, h1, h2] using this
  · rintro rfl
    exact ⟨rfl, fun _ _ => rfl⟩
/-- **equals(Object) OF TWO SUCH STRINGS**: 1 just where the chars are the same -/
theorem eqW {p : Program} {l : Launch} {e : Env} {R : Room} {s : State} {args : Array Value} {below : List Frame} {len W : Nat} {Z : State} {a0 : Array Value} {h : Heap} (hZ : Z.Warmed39 s.vm) (hw : ∀ d ∈ wordsEq, d.before a0 Z = true) {kI : Nat} (wi : (Jvm.Cond.instantiable ST kI).before a0 Z = true)
    {x t : Addr} {kb : ClassId} {cs : List Int32} {cd N2 : Int32} {vs : List Value} (E : RoadKit.Exa Z h x ST) (V : RoadKit.Fld Z h x ST "value" "[B" (.ref t)) (C : RoadKit.Fld Z h x ST "coder" "B" (.int cd)) (K : RoadKit.Arv Z h t kb .byte N2 vs (.int 0)) (hc : CodA cs cd N2 vs) (hb : ∀ c ∈ cs, ¬ c < 0 ∧ ¬ (65535 : Int32) < c) (l2 : cs.length ≤ 4000)
    {y t' : Addr} {kb' : ClassId} {ds : List Int32} {cd' N2' : Int32} {vs' : List Value} (E' : RoadKit.Exa Z h y ST) (V' : RoadKit.Fld Z h y ST "value" "[B" (.ref t')) (C' : RoadKit.Fld Z h y ST "coder" "B" (.int cd')) (K' : RoadKit.Arv Z h t' kb' .byte N2' vs' (.int 0)) (hc' : CodA ds cd' N2' vs') (hb' : ∀ c ∈ ds, ¬ c < 0 ∧ ¬ (65535 : Int32) < c) (l2' : ds.length ≤ 4000)
    {z : Int32} (S : RoadKit.Sta Z h ST "COMPACT_STRINGS" "Z" (.int z)) (hz : ¬ z = 0) (hfr : 2 ≤ R.frames) (hlo : W + 28 ≤ R.locals) :
    Back l R p e below s args (⟨"java/lang/String", "equals", "(Ljava/lang/Object;)Z"⟩ : MethodName) len W (fun P a => a = #[.ref x, .ref y] ∧ P.U.heap = h ∧ P.cells + 0 ≤ R.cells ∧ P.slots + 0 ≤ R.slots)
      (fun P _ v B => ∃ L, (((v = some (.int 1) ∧ cs = ds) ∨ (v = some (.int 0) ∧ ¬ cs = ds)) ∧ L = [] ∧ B.U.heap = h) ∧ B.locs = P.locs ++ L ∧ B.cells = P.cells + 0 ∧ B.slots = P.slots + 0) := by
  intro m meth c P g ig mk a X hg hsize hdg hW hn hp'
  obtain ⟨rfl, rfl, r1, r2⟩ := hp'
  have al : Z.vm.Alike P.U.vm := hZ.alike.trans X.warmed.alike
  obtain ⟨A, hx⟩ := txt_of wi al E V C K hc hb l2
  obtain ⟨A', hy⟩ := txt_of wi al E' V' C' K' hc' hb' l2'
  obtain ⟨v, B, X', ⟨⟨w, hv, hh, hq⟩, hl, hk, hs⟩, st⟩ := SEq.pays x t A cd cs.length (fun j => cs.getD j 0) y t' A' cd' ds.length (fun j => ds.getD j 0) z (tabEq_of (movedEq hZ hw)) hfr hlo m meth c P g ig mk _ X hg hsize hdg hW hn ⟨r1, r2, rfl, hx, hy, sta_is al S, hz⟩
  refine ⟨v, B, X', ⟨[], ⟨?_, rfl, hh⟩, hl, hk, hs⟩, st⟩
  rcases hq with ⟨rfl, q⟩ | ⟨rfl, q⟩
  · exact Or.inl ⟨hv, (same_list cs ds).mp q⟩
  · exact Or.inr ⟨hv, fun e => q ((same_list cs ds).mpr e)⟩
end StrChars.Road
namespace StrChars
open Jvm Sem ClassFile Op Lib Jvm.Stand Jvm.Free.XT Jvm.Free.ALB Jvm.Free.JM Jvm.Free
open Jvm.Lib.Cold (StaticIs)
namespace ChN
def yN : MethodName := ⟨"java/lang/String", "charAt", "(I)C"⟩
abbrev yB : ByteArray := jdk_42_method_56_code
theorem d0 : decode yB 0 = .ok (.aload_n 0, 1) := by decide +kernel
theorem d1 : decode yB 1 = .ok (.invokevirtual 492, 3) := by decide +kernel
theorem d4 : decode yB 4 = .ok (.ifCond (.eq) 12, 3) := by decide +kernel
theorem d7 : decode yB 7 = .ok (.aload_n 0, 1) := by decide +kernel
theorem d8 : decode yB 8 = .ok (.getfield 9, 3) := by decide +kernel
theorem d11 : decode yB 11 = .ok (.iload_n 1, 1) := by decide +kernel
theorem d12 : decode yB 12 = .ok (.invokestatic 495, 3) := by decide +kernel
theorem d15 : decode yB 15 = .ok (.ireturn, 1) := by decide +kernel
def site : List Cond := [.fieldLink "java/lang/String" 9 "java/lang/String" "value" "[B", IsL.tab, LChA.tab] ++ virtW "java/lang/String" 492 "java/lang/String" IsL.yN IsL.yN ++ staticW "java/lang/String" 495 LChA.yN
def tab : Cond := tabOf yN yB 2 (some .char) site
def P (x t : Addr) (V : Cell) (n : Nat) (f : Nat → Int32) (z : Int32) (fm : Value) (i : Nat) (args : Array Value) (s : State) : Prop := args = #[.ref x, .int (Int32.ofNat i)] ∧ Txt x t V 0 n f s ∧ i < n ∧ StaticIs s "java/lang/String" "COMPACT_STRINGS" "Z" (.int z) ∧ ¬ z = 0 ∧ StaticIs s "jdk/internal/util/Preconditions" "SIOOBE_FORMATTER" "Ljava/util/function/BiFunction;" fm ∧ fm.isRef = true
def E (f : Nat → Int32) (i : Nat) (r : Option Value) (s u : State) : Prop := XT.PureE (some (.int (f i))) r s u
/-- charAt(i) of a Latin-1 String of n chars, i < n: f i -/
theorem law (l : Launch) (x t : Addr) (V : Cell) (n : Nat) (f : Nat → Int32) (z : Int32) (fm : Value) (i : Nat) : Law l yN 2 1 3 40 yB 2 (some .char) site (P x t V n f z fm i) (E f i) [] 0 0 := by
  refine Law.of_walk (plainFor_of_name (by decide +kernel)) (by decide +kernel) (by decide +kernel) (by decide) (fun _ _ h => by rw [h.1]; rfl) (fun _ U U' hal hh h => ⟨h.1, h.2.1.mv hal hh, h.2.2.1, h.2.2.2.1.there hal hh, h.2.2.2.2.1, h.2.2.2.2.2.1.there hal hh, h.2.2.2.2.2.2⟩) (fun r U U' V V' h1 hal h2 h => XT.PureE.mv r U U' V V' h1 hal h2 h) ?_
  intro p e s m args below meth c s₁ X0 hexec hbytes hml hret hlk hnm hown hh0 W hP
  obtain ⟨rfl, hx, hi, s1, hz, s3, rf⟩ := hP
  have v31 := hx.2.2.2.1.2.2.2
  have hr := hx.2.2.2.2.2 i hi
  have hx0 := hx.mv X0.warmed.alike hh0
  have c1 : Steps p.tables e below (s₁.setTop (entryFrame m #[.ref x, .int (Int32.ofNat i)] 2)) (s₁.setTop (mkF m 1 #[.val (.ref x), .val (.int (Int32.ofNat i))] [.ref x])) := Steps.trans (entry rfl) (by
    show Steps p.tables e below (s₁.setTop (mkF m 0 #[.val (.ref x), .val (.int (Int32.ofNat i))] [])) _
    refine XS.aloadN X0.here hexec rfl (hb hbytes d0) rfl rfl ?_
    exact Steps.refl _)
  obtain ⟨v2, T2, X2, E2, g2⟩ := X0.callV hexec (IsL.law l x 0 z) hown (wks W (virtW "java/lang/String" 492 "java/lang/String" IsL.yN IsL.yN)) rfl (by decide) (wk W IsL.tab) (W := 0) (Nat.le_of_ble_eq_true rfl) (Nat.le_of_ble_eq_true rfl) (Nat.le_refl _) (Nat.le_refl _) (hx0.1.fc X0.warmed.alike) hx0.1.is (g := (mkF m 1 #[.val (.ref x), .val (.int (Int32.ofNat i))] [.ref x])) rfl (by rw [hml]; rfl) c1 (argsL := []) (rest := []) rfl rfl (by show 2 * 0 + 0 ≤ _; decide) (hb hbytes d1) (⟨rfl, hx0.2.2.1, hx.2.2.2.2.1.cd, s1.there X0.warmed.alike hh0, hz⟩)
  obtain ⟨rfl, q2⟩ := E2
  have hh2 := q2.trans hh0
  have hx2 := hx.mv X2.warmed.alike hh2
  obtain ⟨-, k1, k2⟩ | ⟨k0, -⟩ := hx.2.2.2.2.1
  · have c3 : Steps p.tables e below (s₁.setTop (entryFrame m #[.ref x, .int (Int32.ofNat i)] 2)) (T2.setTop (mkF m 8 #[.val (.ref x), .val (.int (Int32.ofNat i))] [.ref x])) := Steps.trans g2 (by
      refine XS.ifNo X2.here hexec rfl (hb hbytes d4) rfl (i0_eq_f (by decide)) ?_
      refine XS.aloadN X2.here hexec rfl (hb hbytes d7) rfl rfl ?_
      exact Steps.refl _)
    obtain ⟨T4, X4, q4, st4⟩ := X2.hget hexec hown (wk W (.fieldLink "java/lang/String" 9 "java/lang/String" "value" "[B")) hx2.2.1 (g := (mkF m 8 #[.val (.ref x), .val (.int (Int32.ofNat i))] [.ref x])) rfl (rest := []) rfl (hb hbytes d8)
    have hh4 := q4.trans hh2
    have c5 : Steps p.tables e below (s₁.setTop (entryFrame m #[.ref x, .int (Int32.ofNat i)] 2)) (T4.setTop (mkF m 12 #[.val (.ref x), .val (.int (Int32.ofNat i))] [.int (Int32.ofNat i), .ref t])) := (c3.trans (st4 _ (Steps.refl _))).trans (by
      refine XS.iloadN X4.here hexec rfl (hb hbytes d11) rfl ?_
      exact Steps.refl _)
    obtain ⟨v6, T6, X6, E6, g6⟩ := X4.callS hexec (LChA.law l t V i (lo8 (f i)) fm) hown (wks W (staticW "java/lang/String" 495 LChA.yN)) (wk W LChA.tab) (W := 0) (Nat.le_of_ble_eq_true rfl) (Nat.le_of_ble_eq_true rfl) (Nat.le_refl _) (Nat.le_refl _) (g := (mkF m 12 #[.val (.ref x), .val (.int (Int32.ofNat i))] [.int (Int32.ofNat i), .ref t])) rfl (by rw [hml]; rfl) c5 (argsL := [.ref t, .int (Int32.ofNat i)]) (rest := []) rfl rfl (by show 2 * 0 + 0 ≤ _; decide) (hb hbytes d12) (⟨rfl, hx.2.2.2.1.mv X4.warmed.alike hh4, (k2 i hi).1, s3.there X4.warmed.alike hh4, rf⟩)
    obtain ⟨rfl, q6⟩ := E6
    rw [chr8_lo8 hr.1 (k2 i hi).2] at g6
    exact ⟨T6, some (.int (f i)), _, _, _, X6, rfl, rfl, rfl, (fun h => by cases h), ⟨rfl, q6.trans hh4⟩, fun fs hl => Steps.trans g6 (X6.ireturnOut hexec hret (narrow_ch hr.1 hr.2) (Or.inr (Or.inr (Or.inr (Or.inl rfl)))) (hb hbytes d15) hl)⟩
  · exact absurd k0 (by decide)
theorem pays {l : Launch} {R : Room} {p : Program} {e : Env} {below : List Frame} {s : State} {sargs : Array Value} {len W : Nat} (x t : Addr) (V : Cell) (n : Nat) (f : Nat → Int32) (z : Int32) (fm : Value) (i : Nat) (htab : tab.before sargs s = true) (hfr : 4 ≤ R.frames) (hlo : W + 53 ≤ R.locals) :
    Back l R p e below s sargs yN len W (fun A₁ a₁ => A₁.cells + 0 ≤ R.cells ∧ A₁.slots + 0 ≤ R.slots ∧ P x t V n f z fm i a₁ A₁.U) (fun A₁ _ v₁ B₁ => E f i v₁ A₁.U B₁.U ∧ B₁.locs = A₁.locs ++ [] ∧ B₁.cells = A₁.cells + 0 ∧ B₁.slots = A₁.slots + 0) :=
  (law l x t V n f z fm i).pays htab hfr (by omega)
end ChN
end StrChars
namespace StrChars.Road
open Jvm Sem ClassFile Op Lib Jvm.Stand Jvm.Free Jvm.Free.XT
open Jvm.Lib.Cold (StaticIs)
/-- the words of String.charAt(int), the Latin-1 road alone -/
abbrev wordsChN : List Jvm.Cond := [.code ChN.yN ChN.yB 2 (some .char), .initialized ST, .fieldLink ST 9 ST "value" "[B", .fieldLink ST 38 ST "COMPACT_STRINGS" "Z", .fieldLink ST 15 ST "coder" "B", .code IsL.yN IsL.yB 1 (some .boolean), .methodLink ST 492 IsL.yN, .declares IsL.yN, .selects ST IsL.yN IsL.yN, .instanceMethod IsL.yN,
  .methodLink ST 495 LChA.yN, .static LChA.yN, .code LChA.yN LChA.yB 2 (some .char), .initialized "java/lang/StringLatin1", .methodLink "java/lang/StringLatin1" 9 JO.Str_checkIndex.yN, .static JO.Str_checkIndex.yN, .code JO.Str_checkIndex.yN JO.Str_checkIndex.yB 2 none,
  .fieldLink ST 1053 "jdk/internal/util/Preconditions" "SIOOBE_FORMATTER" "Ljava/util/function/BiFunction;", .methodLink ST 1059 JC.PreCheck.yN, .static JC.PreCheck.yN, .code JC.PreCheck.yN JC.PreCheck.yB 3 (some .int), .initialized "jdk/internal/util/Preconditions"]
theorem tabChN_of {a : Array Value} {s : State} (h : ∀ w ∈ wordsChN, w.before a s = true) : ChN.tab.before a s = true := by
  have hp : JC.PreCheck.tab.before a s = true := unparts (wk h (.code JC.PreCheck.yN JC.PreCheck.yB 3 (some .int))) (wks h (.initialized JC.PreCheck.yN.cls :: JC.PreCheck.site))
  have qk := consq hp h
  have hk : JO.Str_checkIndex.tab.before a s = true := unparts (wk qk (.code JO.Str_checkIndex.yN JO.Str_checkIndex.yB 2 none)) (wks qk (.initialized JO.Str_checkIndex.yN.cls :: JO.Str_checkIndex.site))
  have ql := consq hk h
  have hl : LChA.tab.before a s = true := unparts (wk ql (.code LChA.yN LChA.yB 2 (some .char))) (wks ql (.initialized LChA.yN.cls :: LChA.site))
  have hi : IsL.tab.before a s = true := unparts (wk h (.code IsL.yN IsL.yB 1 (some .boolean))) (wks h (.initialized IsL.yN.cls :: IsL.site))
  have q := consq hi (consq hl h)
  exact unparts (wk q (.code ChN.yN ChN.yB 2 (some .char))) (wks q (.initialized ChN.yN.cls :: ChN.site))
theorem movedChN {Z s : State} {a0 args : Array Value} (hZ : Z.Warmed39 s.vm) (hw : ∀ d ∈ wordsChN, d.before a0 Z = true) : ∀ d ∈ wordsChN, d.before args s = true := fun d hd => by
  have t : ∀ d ∈ wordsChN, (d.onTables && d.keepsFace) = true := by decide +kernel
  exact RoadKit.mv hZ (hw d hd) (t d hd)
/-- **charAt(i) OF A LATIN-1 STRING**, i < n: the char -/
theorem chN {p : Program} {l : Launch} {e : Env} {R : Room} {s : State} {args : Array Value} {below : List Frame} {len W : Nat} {Z : State} {a0 : Array Value} {h : Heap} (hZ : Z.Warmed39 s.vm) (hw : ∀ d ∈ wordsChN, d.before a0 Z = true) {kI : Nat} (wi : (Jvm.Cond.instantiable ST kI).before a0 Z = true)
    {x t : Addr} {kb : ClassId} {cs : List Int32} {N2 z : Int32} {vs : List Value} {fm : Value} {i : Nat} {j : Int32} (E : RoadKit.Exa Z h x ST) (V : RoadKit.Fld Z h x ST "value" "[B" (.ref t)) (C : RoadKit.Fld Z h x ST "coder" "B" (.int 0)) (K : RoadKit.Arv Z h t kb .byte N2 vs (.int 0)) (hc : CodA cs 0 N2 vs) (hb : ∀ c ∈ cs, ¬ c < 0 ∧ ¬ (65535 : Int32) < c)
    (S : RoadKit.Sta Z h ST "COMPACT_STRINGS" "Z" (.int z)) (hz : ¬ z = 0) (F : RoadKit.Sta Z h "jdk/internal/util/Preconditions" "SIOOBE_FORMATTER" "Ljava/util/function/BiFunction;" fm) (rf : fm.isRef = true) (l2 : cs.length ≤ 4000) (hi : i < cs.length) (hj : j = Int32.ofNat i) (hfr : 4 ≤ R.frames) (hlo : W + 53 ≤ R.locals) :
    Back l R p e below s args (⟨"java/lang/String", "charAt", "(I)C"⟩ : MethodName) len W (fun P a => a = #[.ref x, .int j] ∧ P.U.heap = h ∧ P.cells + 0 ≤ R.cells ∧ P.slots + 0 ≤ R.slots)
      (fun P _ v B => ∃ L, (v = some (.int (cs.getD i 0)) ∧ L = [] ∧ B.U.heap = h) ∧ B.locs = P.locs ++ L ∧ B.cells = P.cells + 0 ∧ B.slots = P.slots + 0) := by
  subst hj
  intro m meth c P g ig mk a X hg hsize hdg hW hn hp'
  obtain ⟨rfl, rfl, r1, r2⟩ := hp'
  have al : Z.vm.Alike P.U.vm := hZ.alike.trans X.warmed.alike
  obtain ⟨A, hx⟩ := txt_of wi al E V C K hc hb l2
  obtain ⟨v, B, X', ⟨⟨hv, hh⟩, hl, hk, hs⟩, st⟩ := ChN.pays x t A cs.length (fun j => cs.getD j 0) z fm i (tabChN_of (movedChN hZ hw)) hfr hlo m meth c P g ig mk _ X hg hsize hdg hW hn ⟨r1, r2, rfl, hx, hi, sta_is al S, hz, sta_is al F, rf⟩
  exact ⟨v, B, X', ⟨[], ⟨hv, rfl, hh⟩, hl, hk, hs⟩, st⟩
/-- what backV says of its String, as the contracts of this text ask it: cs's low bytes, coder 0 -/
theorem codOf {cs : List Int32} {n : Nat} (hn : cs.length = n) (hb : ∀ c ∈ cs, ¬ 255 < c) : CodA cs 0 (Int32.ofNat n) ((cs.map lo8).map Value.int) := Or.inl ⟨rfl, by rw [hn], by simp [List.map_map, Function.comp_def], hb⟩
end StrChars.Road
end Jvm.Pilot.@@N@@

namespace Jvm.Pilot.@@N@@
open Jvm Jvm.ClassFile Sem Op Lib Jvm.Free Jvm.Stand Jvm.LawKit Jvm.RoadKit Bundle Jvm.Pilot.@@N@@.Jvm.D
abbrev Db (p : Program) (e : Env) (below : List Frame) (m : MethodId) (T : State) (pc : Nat) (ls : Array Slot) (st : List Value) (t : State) : Prop := Steps p.tables e below (T.setTop (mkF m pc ls st)) t
abbrev Kb (p : Program) (e : Env) (below : List Frame) (m : MethodId) (T : State) (a : Array Value) (n : Nat) (t : State) : Prop := Steps p.tables e below (T.setTop (entryFrame m a n)) t
theorem Ka {a0 : Array Value} {Z : State} (hw : ∀ d ∈ tables_1, d.before a0 Z = true) (i : Nat) {d : Jvm.Cond} (h : tables_1[i]? = some d) : d.before a0 Z = true := hw d (List.mem_of_getElem? h)
theorem Hg {t : Term} {k : Int32} {args : Array Value} {s : State} (h : (Jvm.Cond.eq t (.int k)).value args s none s [] = some true) : t.eval args s none [] s = some (.int k) := by
  have e : (Term.int k).eval args s none [] s = some (.int k) := rfl
  simp only [Cond.value, e] at h
  cases ht : t.eval args s none [] s with
  | none => simp [ht] at h
  | some x => cases x <;> simp [ht] at h ⊢; exact h
theorem Waa {t : Term} {k z : Int32} {args : Array Value} {s : State} (e : t.eval args s none [] s = some (.int z)) (h : (Jvm.Cond.not (Jvm.Cond.eq t (.int k))).value args s none s [] = some true) : ¬ (z = k) := by
  have q := not_v h
  have e2 : (Term.int k).eval args s none [] s = some (.int k) := rfl
  simp only [Cond.value, e, e2, Bool.not_true, Option.some.injEq, decide_eq_false_iff_not] at q
  exact q
theorem own_neR {t u : Term} {a b : Addr} {args : Array Value} {s : State} (ea : t.eval args s none [] s = some (.ref a)) (eb : u.eval args s none [] s = some (.ref b)) (h : (Jvm.Cond.not (Jvm.Cond.eq t u)).value args s none s [] = some true) : ¬ (a = b) := by
  have q := not_v h
  rw [eq_R ea eb rfl rfl] at q
  intro e
  rw [e] at q
  simp at q
theorem own_eqJ {t : Term} {k : Int64} {args : Array Value} {s : State} (h : (Jvm.Cond.eq t (.long k)).value args s none s [] = some true) : t.eval args s none [] s = some (.long k) := by
  have e : (Term.long k).eval args s none [] s = some (.long k) := rfl
  simp only [Cond.value, e] at h
  cases ht : t.eval args s none [] s with
  | none => simp [ht] at h
  | some x => cases x <;> simp [ht] at h ⊢; exact h
theorem H7 {t : Term} {n : Int32} {a : Addr} {cl : Cell} {ty : FieldType} {args : Array Value} {s : State} (ev : t.eval args s none [] s = some (.ref a)) (A : Arr s s.heap a cl ty) (h : (Jvm.Cond.eq (.length t) (.int n)).value args s none s [] = some true) : cl.slots.size < 2 ^ 31 ∧ cl.slots.size.toInt32 = n := by
  have q := Hg h
  have hA := A.fin (Vm.Alike.refl _)
  simp only [Term.eval, ev, hA, Option.bind_eq_bind, Option.bind_some] at q
  split at q
  · rename_i hl
    exact ⟨hl, Value.int.inj (Option.some.inj q)⟩
  · cases q
theorem Bf {t : Term} {j : Int32} {a : Addr} {v : Value} {cl : Cell} {ty : FieldType} {args : Array Value} {s : State} (ev : t.eval args s none [] s = some (.ref a)) (A : Arr s s.heap a cl ty) (h : (Term.elem t (.int j)).eval args s none [] s = some v) (i : Nat) (hi : j.toNatClampNeg = i) : cl.slots[i]? = some v := by
  have q := (elem_in h ev (rfl : (Term.int j).eval args s none [] s = some (.int j)) A.1).2
  rw [hi] at q; exact q
/-- an array as it stood at the start, that may be cloned -/
def Vh (Z : State) (h : Heap) (a : Addr) (ty : FieldType) (n : Int32) (vs : List Value) (d : Value) : Prop := ∃ c : Cell, Arr Z h a c ty ∧ FitC Z c ∧ c.slots.size = n.toNatClampNeg ∧ ¬ n < 0 ∧ Has c vs d ∧ ∀ i, i < c.slots.size → fits ty (vs.getD i d) = true
theorem Vh.ext {Z : State} {h h' : Heap} {a : Addr} {ty : FieldType} {n : Int32} {vs : List Value} {d : Value} (F : Vh Z h a ty n vs d) (E : Ext h h') : Vh Z h' a ty n vs d := by
  obtain ⟨c, A, r⟩ := F; exact ⟨c, A.ext E, r⟩
theorem Vh.start {Z : State} {a : Addr} {cl : Cell} {ty : FieldType} {z : Int32} {vs : List Value} {dv : Value} (hf : Fit Z) (A : Arr Z Z.heap a cl ty) (q : cl.slots.size < 2 ^ 31 ∧ cl.slots.size.toInt32 = z) (hz : ¬ z < 0) (hl : z.toNatClampNeg = vs.length) (H : HasL cl 0 vs) : Vh Z Z.heap a ty z vs dv := by
  have S : cl.slots.size = z.toNatClampNeg := by rw [← q.2]; simp only [Int32.toNatClampNeg, len_toInt q.1]; rfl
  have H' : Has cl vs dv := fun j hj => by have := HasL.at (dv := dv) vs 0 H j (by rw [← hl, ← S]; exact hj); rwa [Nat.zero_add] at this
  refine ⟨cl, A, FitC.start hf A, S, hz, H', fun j hj => ?_⟩
  have e1 : (Nat.toInt32 j).toNatClampNeg = j := by simp only [Int32.toNatClampNeg, len_toInt (Nat.lt_trans hj q.1)]; rfl
  exact elem_fits (j := Nat.toInt32 j) hf A (idx_in hj q.1) (by rw [e1]; exact H' j hj)
theorem Vh.arv {Z : State} {h : Heap} {a : Addr} {ty : FieldType} {n : Int32} {vs : List Value} {d : Value} (F : Vh Z h a ty n vs d) : ∃ k, Arv Z h a k ty n vs d := by
  obtain ⟨c, A, -, r⟩ := F; exact ⟨c.cls, c, A, rfl, r⟩
theorem W7 {t u : Term} {b : Addr} {args : Array Value} {s : State} (h : (Jvm.Cond.eq t u).value args s none s [] = some true) (e : u.eval args s none [] s = some (.ref b)) : t.eval args s none [] s = some (.ref b) := by
  simp only [Cond.value, e] at h
  cases ht : t.eval args s none [] s with
  | none => simp [ht] at h
  | some x => cases x <;> simp [ht] at h ⊢; exact h
theorem own_ncc (x : Int32) : nar .char (x.toUInt32.toUInt16.toUInt32.toInt32) = x.toUInt32.toUInt16.toUInt32.toInt32 := by
  show (x.toUInt32.toUInt16.toUInt32.toInt32).toUInt32.toUInt16.toUInt32.toInt32 = _
  have a := c_i2c x
  have b := c_i2c x.toUInt32.toUInt16.toUInt32.toInt32
  apply Int32.toInt_inj.mp
  omega
theorem own_dup2L {tb : Tables} [Ours tb] {e : Env} {below : List Frame} {T target : State} {m : MethodId} {c : Code} {g : JFrame} (h : At T m c below) (hx : tb.exec = Jvm.exec) (hg : g.method = m) {x : Int64} {rest : List Value} (hd : decode c.code g.pc = .ok (.dup2, 1)) (hs : g.stack = .long x :: rest) (hr : Steps tb e below (T.setTop { g with pc := g.pc + 1, stack := .long x :: .long x :: rest }) target) : Steps tb e below (T.setTop g) target := by
  subst hg
  jvm_step h [h.top, hx, hd, hs, Value.category]
  exact hr
theorem Ik {Z : State} {a0 : Array Value} (hw : ∀ d ∈ tables_1, d.before a0 Z = true) : ∀ d ∈ StrChars.Road.words, d.before a0 Z = true := fun d hd => hw d ((by decide +kernel : ∀ d ∈ StrChars.Road.words, d ∈ tables_1) d hd)
theorem Ig {Z : State} {a0 : Array Value} (hw : ∀ d ∈ tables_1, d.before a0 Z = true) : ∀ d ∈ StrChars.Road.wordsEq, d.before a0 Z = true := fun d hd => hw d ((by decide +kernel : ∀ d ∈ StrChars.Road.wordsEq, d ∈ tables_1) d hd)
theorem Bj {Z : State} {a0 : Array Value} (hw : ∀ d ∈ tables_1, d.before a0 Z = true) : ∀ d ∈ StrChars.Road.wordsLen, d.before a0 Z = true := fun d hd => hw d ((by decide +kernel : ∀ d ∈ StrChars.Road.wordsLen, d ∈ tables_1) d hd)
theorem Kk {Z : State} {a0 : Array Value} (hw : ∀ d ∈ tables_1, d.before a0 Z = true) : ∀ d ∈ StrChars.Road.wordsChN, d.before a0 Z = true := fun d hd => hw d ((by decide +kernel : ∀ d ∈ StrChars.Road.wordsChN, d ∈ tables_1) d hd)
theorem Zc (cs : List Int32) (h : ∀ c ∈ cs, ¬ c < 0 ∧ ¬ (255 : Int32) < c) : ∀ c ∈ cs, ¬ c < 0 ∧ ¬ (65535 : Int32) < c := fun c hc => ⟨(h c hc).1, fun q => (h c hc).2 (by rw [Int32.lt_iff_toInt_lt] at q ⊢; have e1 : (65535 : Int32).toInt = 65535 := rfl; have e2 : (255 : Int32).toInt = 255 := rfl; omega)⟩
theorem Di (x : Int32) : ¬ ((x &&& (255 : Int32)).toUInt32.toUInt16.toUInt32.toInt32) < 0 ∧ ¬ (255 : Int32) < ((x &&& (255 : Int32)).toUInt32.toUInt16.toUInt32.toInt32) := by
  rw [i2c_mask]
  have e := c_mask x (255 : Int32) 8 (by decide) (by decide)
  have e0 : (0 : Int32).toInt = 0 := by decide
  have e1 : (255 : Int32).toInt = 255 := by decide
  constructor
  · rw [Int32.lt_iff_toInt_lt, e, e0]; omega
  · rw [Int32.lt_iff_toInt_lt, e, e1]; omega
theorem Hj (x : Int32) : nar .char ((x &&& (255 : Int32)).toUInt32.toUInt16.toUInt32.toInt32) = (x &&& (255 : Int32)).toUInt32.toUInt16.toUInt32.toInt32 := by
  show ((x &&& (255 : Int32)).toUInt32.toUInt16.toUInt32.toInt32).toUInt32.toUInt16.toUInt32.toInt32 = _
  rw [i2c_mask, i2c_mask]
def EV (Z : State) (Wa : Addr) (Va : Addr) (Ua : Addr) (Ra : Addr) (Ia : Addr) (Da : Addr) (Ha : Addr) (Ba : Addr) (Ga : Addr) (Aa : Addr) (Ma : Int32) (La : Value) (Bb : Addr) : Prop := Sta Z Z.heap "com/example/entitlement_ledger/entitlementledger/model/AssigneeKind" "USER" "Lcom/example/entitlement_ledger/entitlementledger/model/AssigneeKind;" (.ref Wa) ∧ Exa Z Z.heap Wa "com/example/entitlement_ledger/entitlementledger/model/AssigneeKind" ∧ Sta Z Z.heap "com/example/entitlement_ledger/entitlementledger/model/AssigneeKind" "$VALUES" "[Lcom/example/entitlement_ledger/entitlementledger/model/AssigneeKind;" (.ref Va) ∧ Exa Z Z.heap Va "[Lcom/example/entitlement_ledger/entitlementledger/model/AssigneeKind;" ∧ Sta Z Z.heap "com/example/entitlement_ledger/entitlementledger/model/AssigneeKind" "GROUP" "Lcom/example/entitlement_ledger/entitlementledger/model/AssigneeKind;" (.ref Ua) ∧ Exa Z Z.heap Ua "com/example/entitlement_ledger/entitlementledger/model/AssigneeKind" ∧ Sta Z Z.heap "com/example/entitlement_ledger/entitlementledger/model/AssigneeKind" "DEVICE" "Lcom/example/entitlement_ledger/entitlementledger/model/AssigneeKind;" (.ref Ra) ∧ Exa Z Z.heap Ra "com/example/entitlement_ledger/entitlementledger/model/AssigneeKind" ∧ Fld Z Z.heap Wa "com/example/entitlement_ledger/entitlementledger/model/AssigneeKind" "collectionName" "Ljava/lang/String;" (.ref Ia) ∧ Exa Z Z.heap Ia "java/lang/String" ∧ Fld Z Z.heap Ia "java/lang/String" "coder" "B" (.int 0) ∧ Fld Z Z.heap Ia "java/lang/String" "value" "[B" (.ref Da) ∧ Fld Z Z.heap Ua "com/example/entitlement_ledger/entitlementledger/model/AssigneeKind" "collectionName" "Ljava/lang/String;" (.ref Ha) ∧ Exa Z Z.heap Ha "java/lang/String" ∧ Fld Z Z.heap Ha "java/lang/String" "coder" "B" (.int 0) ∧ Fld Z Z.heap Ha "java/lang/String" "value" "[B" (.ref Ba) ∧ Fld Z Z.heap Ra "com/example/entitlement_ledger/entitlementledger/model/AssigneeKind" "collectionName" "Ljava/lang/String;" (.ref Ga) ∧ Exa Z Z.heap Ga "java/lang/String" ∧ Fld Z Z.heap Ga "java/lang/String" "coder" "B" (.int 0) ∧ Fld Z Z.heap Ga "java/lang/String" "value" "[B" (.ref Aa) ∧ Sta Z Z.heap "java/lang/String" "COMPACT_STRINGS" "Z" (.int Ma) ∧ ¬ (Ma = (0 : Int32)) ∧ Sta Z Z.heap "jdk/internal/util/Preconditions" "SIOOBE_FORMATTER" "Ljava/util/function/BiFunction;" La ∧ La.isRef = true ∧ Sta Z Z.heap "java/util/Optional" "EMPTY" "Ljava/util/Optional;" (.ref Bb) ∧ Exa Z Z.heap Bb "java/util/Optional" ∧ Fld Z Z.heap Bb "java/util/Optional" "value" "Ljava/lang/Object;" .null ∧ Vh Z Z.heap Va (.object "com/example/entitlement_ledger/entitlementledger/model/AssigneeKind") (3 : Int32) [(.ref Wa), (.ref Ua), (.ref Ra)] .null ∧ Vh Z Z.heap Da .byte (5 : Int32) [(.int 117), (.int 115), (.int 101), (.int 114), (.int 115)] (.int 0) ∧ Vh Z Z.heap Ba .byte (6 : Int32) [(.int 103), (.int 114), (.int 111), (.int 117), (.int 112), (.int 115)] (.int 0) ∧ Vh Z Z.heap Aa .byte (7 : Int32) [(.int 100), (.int 101), (.int 118), (.int 105), (.int 99), (.int 101), (.int 115)] (.int 0)
def Uc : List (String × Nat) := [("com/example/entitlement_ledger/entitlementledger/model/AssigneeKindOfCollectionNamePinLaw", 22), ("com/example/entitlement_ledger/entitlementledger/model/AssigneeKindOfCollectionNamePinLaw", 24), ("com/example/entitlement_ledger/entitlementledger/model/AssigneeKindOfCollectionNamePinLaw", 26), ("com/example/entitlement_ledger/entitlementledger/model/AssigneeKindOfCollectionNamePinLaw", 28), ("java/lang/String", 7)]
theorem Af {Z : State} {a0 : Array Value} (hw : ∀ d ∈ tables_1, d.before a0 Z = true) : EW Z a0 Uc := (EW.cons (Ka hw 139 rfl) (by decide) (EW.cons (Ka hw 0 rfl) (by decide) (EW.cons (Ka hw 133 rfl) (by decide) (EW.cons (Ka hw 134 rfl) (by decide) (EW.cons (Ka hw 140 rfl) (by decide) EW.nil)))))
theorem V8 {i : Nat} (h : i ≤ 4000) : (Int32.ofNat i).toInt = i := Int32.toInt_ofNat_of_lt (by omega)
theorem Lk {cs : List Int32} {j : Int32} (h2 : cs.length ≤ 4000) (h : j < Int32.ofNat cs.length) (i : Nat) (hj : j.toInt = i) : i < cs.length := by
  rw [Int32.lt_iff_toInt_lt, V8 h2, hj] at h
  omega
theorem Ki {cs : List Int32} (h : ∀ c ∈ cs, ¬ c < 0 ∧ ¬ (255 : Int32) < c) (i : Nat) : ¬ (cs.getD i 0) < 0 ∧ ¬ (255 : Int32) < (cs.getD i 0) := by
  by_cases hi : i < cs.length
  · have e : cs.getD i 0 = cs[i] := by simp [List.getD_eq_getElem?_getD, hi]
    rw [e]; exact h _ (List.getElem_mem _)
  · have e : cs.getD i 0 = 0 := by simp [List.getD_eq_getElem?_getD, Nat.le_of_not_lt hi]
    rw [e]; decide
theorem Pa {x : Int32} (h : ¬ x < 0 ∧ ¬ (255 : Int32) < x) : nar .char x = x := by
  show x.toUInt32.toUInt16.toUInt32.toInt32 = x
  have e := Di x
  have q := Hj x
  have m : (x &&& (255 : Int32)) = x := by
    have a := c_mask x (255 : Int32) 8 (by decide) (by decide)
    have e0 : (0 : Int32).toInt = 0 := by decide
    have e1 : (255 : Int32).toInt = 255 := by decide
    rw [Int32.lt_iff_toInt_lt, Int32.lt_iff_toInt_lt, e0, e1] at h
    apply Int32.toInt_inj.mp
    rw [a]; omega
  have z := i2c_mask x
  rw [m] at z
  exact z
theorem Wh (x : Int64) : ¬ (((x &&& (255 : Int64)).toInt32).toUInt32.toUInt16.toUInt32.toInt32) < 0 ∧ ¬ (255 : Int32) < (((x &&& (255 : Int64)).toInt32).toUInt32.toUInt16.toUInt32.toInt32) := by
  have e : (x &&& (255 : Int64)).toInt32 = (x.toInt32 &&& (255 : Int32)) := by
    apply Int32.toBitVec_inj.mp
    show (x.toBitVec &&& (255 : Int64).toBitVec).signExtend 32 = x.toBitVec.signExtend 32 &&& (255 : Int32).toBitVec
    apply BitVec.eq_of_getLsbD_eq
    intro i hi
    simp [BitVec.getLsbD_signExtend, hi, Nat.lt_trans hi (by decide : 32 < 64)]
  rw [e]; exact Di _
theorem V9 (m : MethodId) (x0 : Addr) (x1 : Int64) (x2 : Int32)  : entryFrame m #[(.ref x0), (.long x1), (.int x2)] 4 = mkF m 0 #[.val (.ref x0), .val (.long x1), .second, .val (.int x2)] [] := by first | (simp [entryFrame, mkF, argsToLocals, Value.category]; done) | rfl
theorem Kg : decode method_2_code 0 = .ok (.iload_n 3, 1) := by decide +kernel
theorem Lg : decode method_2_code 1 = .ok (.aload_n 0, 1) := by decide +kernel
theorem Mg : decode method_2_code 2 = .ok (.invokevirtual 7, 3) := by decide +kernel
theorem Hk : parseMethodDescriptor "()I" = some ⟨[], some .int⟩ := by decide +kernel
abbrev Kh : MethodName := ⟨"java/lang/String", "length", "()I"⟩
theorem Yd : decode method_2_code 5 = .ok (.if_icmp .ge 9, 3) := by decide +kernel
theorem Pg : decode method_2_code 8 = .ok (.aload_n 0, 1) := by decide +kernel
theorem Rg : decode method_2_code 9 = .ok (.iload_n 3, 1) := by decide +kernel
theorem Kf : decode method_2_code 10 = .ok (.invokevirtual 13, 3) := by decide +kernel
theorem Mk : parseMethodDescriptor "(I)C" = some ⟨[.int], some .char⟩ := by decide +kernel
abbrev Li : MethodName := ⟨"java/lang/String", "charAt", "(I)C"⟩
theorem Lf : decode method_2_code 13 = .ok (.ireturn, 1) := by decide +kernel
theorem Mf : decode method_2_code 14 = .ok (.lload_n 1, 1) := by decide +kernel
theorem Pf : decode method_2_code 15 = .ok (.bipush 8, 2) := by decide +kernel
theorem Rf : decode method_2_code 17 = .ok (.iload_n 3, 1) := by decide +kernel
theorem Uf : decode method_2_code 18 = .ok (.bipush 7, 2) := by decide +kernel
theorem Vf : decode method_2_code 20 = .ok (.iand, 1) := by decide +kernel
theorem Wf : decode method_2_code 21 = .ok (.imul, 1) := by decide +kernel
theorem Yf : decode method_2_code 22 = .ok (.lushr, 1) := by decide +kernel
theorem Zf : decode method_2_code 23 = .ok (.ldc2_w 17, 3) := by decide +kernel
theorem Ag : decode method_2_code 26 = .ok (.land, 1) := by decide +kernel
theorem Bg : decode method_2_code 27 = .ok (.l2i, 1) := by decide +kernel
theorem Dg : decode method_2_code 28 = .ok (.i2c, 1) := by decide +kernel
theorem Gg : decode method_2_code 29 = .ok (.ireturn, 1) := by decide +kernel
theorem Ib : plainName "com/example/entitlement_ledger/entitlementledger/model/AssigneeKindOfCollectionNamePinLaw" = true := by first | (simp [plainName, overriddenIn]; done) | decide +kernel
abbrev Ug : MethodName := ⟨"com/example/entitlement_ledger/entitlementledger/model/AssigneeKindOfCollectionNamePinLaw", "pick", "(Ljava/lang/String;JI)C"⟩
def Y7 (Z : State) (s0 : Addr) (v0 : Addr) (kv : ClassId) (z0 : Int32) (vs0 : List Value) (cs0 : List Int32) (j0 : Int64) (Wa : Addr) (Va : Addr) (Ua : Addr) (Ra : Addr) (Ia : Addr) (Da : Addr) (Ha : Addr) (Ba : Addr) (Ga : Addr) (Aa : Addr) (Ma : Int32) (La : Value) (Bb : Addr) (h0 : Heap) (n0 : Nat) (v : Option Value) (h : Heap) (L : List Loc) : Prop := ∃ r : Int32, v = some (.int r) ∧ Fr n0 L ∧ h = h0 ∧ ¬ r < 0 ∧ ¬ (255 : Int32) < r
set_option maxRecDepth 65536 in
set_option maxHeartbeats 40000000 in
theorem W9 (l : Launch) (Z : State) (a0 : Array Value) (hw : ∀ d ∈ tables_1, d.before a0 Z = true) (ws : List Jvm.Cond) (s0 : Addr) (v0 : Addr) (kv : ClassId) (z0 : Int32) (vs0 : List Value) (cs0 : List Int32) (j0 : Int64) (Wa : Addr) (Va : Addr) (Ua : Addr) (Ra : Addr) (Ia : Addr) (Da : Addr) (Ha : Addr) (Ba : Addr) (Ga : Addr) (Aa : Addr) (Ma : Int32) (La : Value) (Bb : Addr) (h0 : Heap) (n0 : Nat) (O0 : Old Z n0 h0) (hE : EV Z Wa Va Ua Ra Ia Da Ha Ba Ga Aa Ma La Bb) (P0 : Exa Z h0 s0 "java/lang/String") (P1 : Fld Z h0 s0 "java/lang/String" "coder" "B" (.int 0)) (P2 : Fld Z h0 s0 "java/lang/String" "value" "[B" (.ref v0)) (P3 : Arv Z h0 v0 kv .byte z0 vs0 (.int 0)) (hcd : StrChars.Road.CodA cs0 0 z0 vs0) (hbd : ∀ c ∈ cs0, ¬ c < 0 ∧ ¬ (255 : Int32) < c) (hl2 : cs0.length ≤ 4000) :
    MetFree l Ug (head1 (Jvm.Cond.code Ug method_2_code 4 (some .char) :: ws) ({ frames := 4, cells := 0, slots := 0, locals := 53 } : Room)) (fun a U => a = #[(.ref s0), (.long j0), (.int 0)] ∧ Z.Warmed39 U.vm ∧ U.heap = h0) (fun _ _ _ _ _ => True) (fun _ U o U' => ∃ v L, o = .returned v ∧ Y7 Z s0 v0 kv z0 vs0 cs0 j0 Wa Va Ua Ra Ia Da Ha Ba Ga Aa Ma La Bb h0 n0 v U'.heap L ∧ FrameEnd U o U' L ({ frames := 4, cells := 0, slots := 0, locals := 53 } : Room).cells ({ frames := 4, cells := 0, slots := 0, locals := 53 } : Room).slots) := by
  refine MetFree.of_bodySF (plainFor_of_name Ib) hisR ?_
  intro p e s m args below meth c s₁ Bd hml0 hP hK
  obtain ⟨rfl, hZ, hh⟩ := hP
  have hx := Bd.exec
  have hby := Bd.bytes
  have hml : c.maxLocals = 4 := hml0
  have hown : s.vm.findClass "com/example/entitlement_ledger/entitlementledger/model/AssigneeKindOfCollectionNamePinLaw" = some m.cls := findClass_of_methodNamed Bd.named
  have hnm := (name_of_methodNamed Bd.named Bd.method).1
  have X00 : Stand p l e ({ frames := 4, cells := 0, slots := 0, locals := 53 } : Room) s m #[(.ref s0), (.long j0), (.int 0)] below meth c s₁ [] 0 0 := Stand.of_body Bd
  have e00 : s₁.heap = h0 := by rw [← hh, Bd.state]; rfl
  have N00 := Fr.nil n0
  refine Classical.byContradiction fun hNG => ?_
  have K00 := Keep.refl h0 []
  have k00 : ∀ t, Db p e below m s₁ 0 #[.val (.ref s0), .val (.long j0), .second, .val (.int 0)] [] t → Kb p e below m s₁ #[(.ref s0), (.long j0), (.int 0)] 4 t := fun t k => castTop (V9 m s0 j0 ((0 : Int32)) ) k
  obtain ⟨Ye, Ze, Ae, Be, Ue, Ve, Ke, Le, Dc, Wb, Ub, Vb, Bc, Yb, Pb, Rb, Ac, Zb, Lb, Mb, Hb, Gb, Hc, Gc, We, Re, Rc, De, Ab, Za, Ya⟩ := (id hE : EV Z Wa Va Ua Ra Ia Da Ha Ba Ga Aa Ma La Bb)
  obtain ⟨kw_USER_collectionName, Aw_USER_collectionName⟩ := Ab.arv
  obtain ⟨kw_GROUP_collectionName, Aw_GROUP_collectionName⟩ := Za.arv
  obtain ⟨kw_DEVICE_collectionName, Aw_DEVICE_collectionName⟩ := Ya.arv
  obtain ⟨cq10, kq10, q10a, q10b, q10c⟩ := isOf hZ e00 P0
  obtain ⟨_, _, ⟨T10, L10, k10, n10⟩, -, X10, ⟨Lc10, hQ10, l10, y10, z10⟩, st10⟩ := X00.virtualBack hx (y := Kh) (z := Kh) hown (mvT hZ (Ka hw 8 rfl)) (mvT hZ (Ka hw 9 rfl)) (notFace_of_selects (args := #[]) (mvT hZ (Ka hw 11 rfl))) (mvT hZ (Ka hw 11 rfl)) (mvT hZ (Ka hw 10 rfl)) (by decide) (StrChars.Road.lenW (W := 1) hZ (Bj hw) (kI := 4) (Ka hw 2 rfl) P0 P2 P1 P3 hcd (Zc _ hbd) (Hb.ext O0.2) Gb hl2 (by decide) (by decide)) q10a q10c (g := (mkF m 2 #[.val (.ref s0), .val (.long j0), .second, .val (.int 0)] [(.ref s0), (.int 0)])) rfl (by rw [hml]; rfl) (Steps.refl _) (argsL := []) (rest := [(.int 0)]) (lenOf Hk rfl) rfl (by show 2 * 0 + _ ≤ _; exact Nat.le_of_eq rfl) (hb hby Mg) (fun _ _ => ⟨rfl, e00, (by decide : 0 + 0 ≤ _), (by decide : 0 + 0 ≤ _)⟩)
  dsimp only [Pt.U, Pt.locs, Pt.cells, Pt.slots] at X10 l10 y10 z10 st10 hQ10
  subst l10 y10 z10
  obtain ⟨rfl, rfl, hp10⟩ := hQ10
  have N10q : Fr n0 ([] : List Loc) := Fr.nil n0
  have N10 := Fr.app N00 N10q
  have k11 : ∀ t, Db p e below m T10 5 #[.val (.ref s0), .val (.long j0), .second, .val (.int 0)] [(.int (Int32.ofNat cs0.length)), (.int 0)] t → Kb p e below m s₁ #[(.ref s0), (.long j0), (.int 0)] 4 t := by
    intro t k
    refine k00 t ?_
    refine XS.iloadN X00.here hx rfl (hb hby Kg) rfl ?_
    refine XS.aloadN X00.here hx rfl (hb hby Lg) rfl rfl ?_
    refine st10.trans ?_
    exact k
  by_cases hc12 : (0 : Int32) < (Int32.ofNat cs0.length)
  · obtain ⟨cq13, kq13, q13a, q13b, q13c⟩ := isOf hZ hp10 P0
    obtain ⟨_, _, ⟨T13, L13, k13, n13⟩, -, X13, ⟨Lc13, hQ13, l13, y13, z13⟩, st13⟩ := X10.virtualBack hx (y := Li) (z := Li) hown (mvT hZ (Ka hw 26 rfl)) (mvT hZ (Ka hw 27 rfl)) (notFace_of_selects (args := #[]) (mvT hZ (Ka hw 29 rfl))) (mvT hZ (Ka hw 29 rfl)) (mvT hZ (Ka hw 28 rfl)) (by decide) (StrChars.Road.chN (W := 0) hZ (Kk hw) (kI := 4) (Ka hw 2 rfl) (i := 0) P0 P2 P1 P3 hcd (Zc _ hbd) (Hb.ext O0.2) Gb (Hc.ext O0.2) Gc hl2 (Lk hl2 hc12 0 (by decide)) (by decide) (by decide) (by decide)) q13a q13c (g := (mkF m 10 #[.val (.ref s0), .val (.long j0), .second, .val (.int 0)] [(.int 0), (.ref s0)])) rfl (by rw [hml]; rfl) (Steps.refl _) (argsL := [(.int 0)]) (rest := []) (lenOf Mk rfl) rfl (by show 2 * 0 + _ ≤ _; exact Nat.le_of_eq rfl) (hb hby Kf) (fun _ _ => ⟨rfl, hp10, (by decide : 0 + 0 ≤ _), (by decide : 0 + 0 ≤ _)⟩)
    dsimp only [Pt.U, Pt.locs, Pt.cells, Pt.slots] at X13 l13 y13 z13 st13 hQ13
    subst l13 y13 z13
    obtain ⟨rfl, rfl, hp13⟩ := hQ13
    have N13q : Fr n0 ([] : List Loc) := Fr.nil n0
    have N13 := Fr.app N10 N13q
    have k14 : ∀ t, Db p e below m T13 13 #[.val (.ref s0), .val (.long j0), .second, .val (.int 0)] [(.int (cs0.getD 0 0))] t → Kb p e below m s₁ #[(.ref s0), (.long j0), (.int 0)] 4 t := by
      intro t k
      refine k11 t ?_
      refine XS.icmpNo X10.here hx rfl (hb hby Yd) rfl (tlt hc12).2.1 ?_
      refine XS.aloadN X10.here hx rfl (hb hby Pg) rfl rfl ?_
      refine XS.iloadN X10.here hx rfl (hb hby Rg) rfl ?_
      refine st13.trans ?_
      exact k
    obtain ⟨fs, hr, hrun, hended, hW, hsame⟩ := X13.leave (v := some (.int (cs0.getD 0 0))) (fun h => by rw [Bd.returns] at h; cases h)
    refine hNG ⟨_, _, k14 _ ?_, hrun, hended, _, _, rfl, ?_, ⟨_, rfl⟩, hW, hsame.mono (by decide) (by decide)⟩
    · exact retN X13 hx (t := .char) Bd.returns (by simp) (hb hby Lf) (by first | exact hr | (rw [Pa (Ki hbd 0)]; exact hr))
    · show Y7 Z s0 v0 kv z0 vs0 cs0 j0 Wa Va Ua Ra Ia Da Ha Ba Ga Aa Ma La Bb h0 n0 _ T13.heap _
      rw [hp13]
      exact ⟨(cs0.getD 0 0), rfl, N13, rfl, (Ki hbd 0)⟩
  · have k15 : ∀ t, Db p e below m T10 29 #[.val (.ref s0), .val (.long j0), .second, .val (.int 0)] [(.int (((((j0.toUInt64 >>> ((0 : Int32) &&& 0x3f).toInt64.toUInt64).toInt64) &&& (255 : Int64)).toInt32).toUInt32.toUInt16.toUInt32.toInt32))] t → Kb p e below m s₁ #[(.ref s0), (.long j0), (.int 0)] 4 t := by
      intro t k
      refine k11 t ?_
      refine XS.icmpYes X10.here hx rfl (pc0 := 5) (pc' := 14) rfl (hb hby Yd) rfl (flt hc12).2.1 (by decide) (by decide) ?_
      refine XS.lloadN X10.here hx rfl (hb hby Mf) rfl ?_
      refine XS.bipush X10.here hx rfl (hb hby Pf) ?_
      refine XS.iloadN X10.here hx rfl (hb hby Rf) rfl ?_
      refine XS.bipush X10.here hx rfl (hb hby Uf) ?_
      refine XS.iand X10.here hx rfl (hb hby Vf) rfl ?_
      show Db p e below m T10 21 #[.val (.ref s0), .val (.long j0), .second, .val (.int 0)] [(.int ((0 : Int32) &&& (7 : Int32))), (.int 8), (.long j0)] t
      rw [show ((0 : Int32) &&& (7 : Int32)) = (0 : Int32) from by decide]
      refine XS.imul X10.here hx rfl (hb hby Wf) rfl ?_
      show Db p e below m T10 22 #[.val (.ref s0), .val (.long j0), .second, .val (.int 0)] [(.int ((8 : Int32) * (0 : Int32))), (.long j0)] t
      rw [show ((8 : Int32) * (0 : Int32)) = (0 : Int32) from by decide]
      refine XS.lushr X10.here hx rfl (hb hby Yf) rfl ?_
      refine X10.ldc2J hx hown (mvT hZ (Ka hw 48 rfl)) rfl (hb hby Zf) ?_
      refine XS.land X10.here hx rfl (hb hby Ag) rfl ?_
      show Db p e below m T10 27 #[.val (.ref s0), .val (.long j0), .second, .val (.int 0)] [(.long (((j0.toUInt64 >>> ((0 : Int32) &&& 0x3f).toInt64.toUInt64).toInt64) &&& (255 : Int64)))] t
      refine XS.l2i X10.here hx rfl (hb hby Bg) rfl ?_
      refine XS.i2c X10.here hx rfl (hb hby Dg) rfl ?_
      exact k
    obtain ⟨fs, hr, hrun, hended, hW, hsame⟩ := X10.leave (v := some (.int (((((j0.toUInt64 >>> ((0 : Int32) &&& 0x3f).toInt64.toUInt64).toInt64) &&& (255 : Int64)).toInt32).toUInt32.toUInt16.toUInt32.toInt32))) (fun h => by rw [Bd.returns] at h; cases h)
    refine hNG ⟨_, _, k15 _ ?_, hrun, hended, _, _, rfl, ?_, ⟨_, rfl⟩, hW, hsame.mono (by decide) (by decide)⟩
    · exact retN X10 hx (t := .char) Bd.returns (by simp) (hb hby Gg) (by first | exact hr | (rw [Pa (Wh _)]; exact hr))
    · show Y7 Z s0 v0 kv z0 vs0 cs0 j0 Wa Va Ua Ra Ia Da Ha Ba Ga Aa Ma La Bb h0 n0 _ T10.heap _
      rw [hp10]
      exact ⟨(((((j0.toUInt64 >>> ((0 : Int32) &&& 0x3f).toInt64.toUInt64).toInt64) &&& (255 : Int64)).toInt32).toUInt32.toUInt16.toUInt32.toInt32), rfl, N10, rfl, (Wh _)⟩
theorem Y9 (m : MethodId) (x0 : Addr) (x1 : Int64) (x2 : Int32)  : entryFrame m #[(.ref x0), (.long x1), (.int x2)] 4 = mkF m 0 #[.val (.ref x0), .val (.long x1), .second, .val (.int x2)] [] := by first | (simp [entryFrame, mkF, argsToLocals, Value.category]; done) | rfl
def Z7 (Z : State) (s0 : Addr) (v0 : Addr) (kv : ClassId) (z0 : Int32) (vs0 : List Value) (cs0 : List Int32) (j0 : Int64) (Wa : Addr) (Va : Addr) (Ua : Addr) (Ra : Addr) (Ia : Addr) (Da : Addr) (Ha : Addr) (Ba : Addr) (Ga : Addr) (Aa : Addr) (Ma : Int32) (La : Value) (Bb : Addr) (h0 : Heap) (n0 : Nat) (v : Option Value) (h : Heap) (L : List Loc) : Prop := ∃ r : Int32, v = some (.int r) ∧ Fr n0 L ∧ h = h0 ∧ ¬ r < 0 ∧ ¬ (255 : Int32) < r
set_option maxRecDepth 65536 in
set_option maxHeartbeats 40000000 in
theorem Z9 (l : Launch) (Z : State) (a0 : Array Value) (hw : ∀ d ∈ tables_1, d.before a0 Z = true) (ws : List Jvm.Cond) (s0 : Addr) (v0 : Addr) (kv : ClassId) (z0 : Int32) (vs0 : List Value) (cs0 : List Int32) (j0 : Int64) (Wa : Addr) (Va : Addr) (Ua : Addr) (Ra : Addr) (Ia : Addr) (Da : Addr) (Ha : Addr) (Ba : Addr) (Ga : Addr) (Aa : Addr) (Ma : Int32) (La : Value) (Bb : Addr) (h0 : Heap) (n0 : Nat) (O0 : Old Z n0 h0) (hE : EV Z Wa Va Ua Ra Ia Da Ha Ba Ga Aa Ma La Bb) (P0 : Exa Z h0 s0 "java/lang/String") (P1 : Fld Z h0 s0 "java/lang/String" "coder" "B" (.int 0)) (P2 : Fld Z h0 s0 "java/lang/String" "value" "[B" (.ref v0)) (P3 : Arv Z h0 v0 kv .byte z0 vs0 (.int 0)) (hcd : StrChars.Road.CodA cs0 0 z0 vs0) (hbd : ∀ c ∈ cs0, ¬ c < 0 ∧ ¬ (255 : Int32) < c) (hl2 : cs0.length ≤ 4000) :
    MetFree l Ug (head1 (Jvm.Cond.code Ug method_2_code 4 (some .char) :: ws) ({ frames := 4, cells := 0, slots := 0, locals := 53 } : Room)) (fun a U => a = #[(.ref s0), (.long j0), (.int 1)] ∧ Z.Warmed39 U.vm ∧ U.heap = h0) (fun _ _ _ _ _ => True) (fun _ U o U' => ∃ v L, o = .returned v ∧ Z7 Z s0 v0 kv z0 vs0 cs0 j0 Wa Va Ua Ra Ia Da Ha Ba Ga Aa Ma La Bb h0 n0 v U'.heap L ∧ FrameEnd U o U' L ({ frames := 4, cells := 0, slots := 0, locals := 53 } : Room).cells ({ frames := 4, cells := 0, slots := 0, locals := 53 } : Room).slots) := by
  refine MetFree.of_bodySF (plainFor_of_name Ib) hisR ?_
  intro p e s m args below meth c s₁ Bd hml0 hP hK
  obtain ⟨rfl, hZ, hh⟩ := hP
  have hx := Bd.exec
  have hby := Bd.bytes
  have hml : c.maxLocals = 4 := hml0
  have hown : s.vm.findClass "com/example/entitlement_ledger/entitlementledger/model/AssigneeKindOfCollectionNamePinLaw" = some m.cls := findClass_of_methodNamed Bd.named
  have hnm := (name_of_methodNamed Bd.named Bd.method).1
  have X00 : Stand p l e ({ frames := 4, cells := 0, slots := 0, locals := 53 } : Room) s m #[(.ref s0), (.long j0), (.int 1)] below meth c s₁ [] 0 0 := Stand.of_body Bd
  have e00 : s₁.heap = h0 := by rw [← hh, Bd.state]; rfl
  have N00 := Fr.nil n0
  refine Classical.byContradiction fun hNG => ?_
  have K00 := Keep.refl h0 []
  have k00 : ∀ t, Db p e below m s₁ 0 #[.val (.ref s0), .val (.long j0), .second, .val (.int 1)] [] t → Kb p e below m s₁ #[(.ref s0), (.long j0), (.int 1)] 4 t := fun t k => castTop (Y9 m s0 j0 ((1 : Int32)) ) k
  obtain ⟨Ye, Ze, Ae, Be, Ue, Ve, Ke, Le, Dc, Wb, Ub, Vb, Bc, Yb, Pb, Rb, Ac, Zb, Lb, Mb, Hb, Gb, Hc, Gc, We, Re, Rc, De, Ab, Za, Ya⟩ := (id hE : EV Z Wa Va Ua Ra Ia Da Ha Ba Ga Aa Ma La Bb)
  obtain ⟨kw_USER_collectionName, Aw_USER_collectionName⟩ := Ab.arv
  obtain ⟨kw_GROUP_collectionName, Aw_GROUP_collectionName⟩ := Za.arv
  obtain ⟨kw_DEVICE_collectionName, Aw_DEVICE_collectionName⟩ := Ya.arv
  obtain ⟨cq10, kq10, q10a, q10b, q10c⟩ := isOf hZ e00 P0
  obtain ⟨_, _, ⟨T10, L10, k10, n10⟩, -, X10, ⟨Lc10, hQ10, l10, y10, z10⟩, st10⟩ := X00.virtualBack hx (y := Kh) (z := Kh) hown (mvT hZ (Ka hw 8 rfl)) (mvT hZ (Ka hw 9 rfl)) (notFace_of_selects (args := #[]) (mvT hZ (Ka hw 11 rfl))) (mvT hZ (Ka hw 11 rfl)) (mvT hZ (Ka hw 10 rfl)) (by decide) (StrChars.Road.lenW (W := 1) hZ (Bj hw) (kI := 4) (Ka hw 2 rfl) P0 P2 P1 P3 hcd (Zc _ hbd) (Hb.ext O0.2) Gb hl2 (by decide) (by decide)) q10a q10c (g := (mkF m 2 #[.val (.ref s0), .val (.long j0), .second, .val (.int 1)] [(.ref s0), (.int 1)])) rfl (by rw [hml]; rfl) (Steps.refl _) (argsL := []) (rest := [(.int 1)]) (lenOf Hk rfl) rfl (by show 2 * 0 + _ ≤ _; exact Nat.le_of_eq rfl) (hb hby Mg) (fun _ _ => ⟨rfl, e00, (by decide : 0 + 0 ≤ _), (by decide : 0 + 0 ≤ _)⟩)
  dsimp only [Pt.U, Pt.locs, Pt.cells, Pt.slots] at X10 l10 y10 z10 st10 hQ10
  subst l10 y10 z10
  obtain ⟨rfl, rfl, hp10⟩ := hQ10
  have N10q : Fr n0 ([] : List Loc) := Fr.nil n0
  have N10 := Fr.app N00 N10q
  have k11 : ∀ t, Db p e below m T10 5 #[.val (.ref s0), .val (.long j0), .second, .val (.int 1)] [(.int (Int32.ofNat cs0.length)), (.int 1)] t → Kb p e below m s₁ #[(.ref s0), (.long j0), (.int 1)] 4 t := by
    intro t k
    refine k00 t ?_
    refine XS.iloadN X00.here hx rfl (hb hby Kg) rfl ?_
    refine XS.aloadN X00.here hx rfl (hb hby Lg) rfl rfl ?_
    refine st10.trans ?_
    exact k
  by_cases hc12 : (1 : Int32) < (Int32.ofNat cs0.length)
  · obtain ⟨cq13, kq13, q13a, q13b, q13c⟩ := isOf hZ hp10 P0
    obtain ⟨_, _, ⟨T13, L13, k13, n13⟩, -, X13, ⟨Lc13, hQ13, l13, y13, z13⟩, st13⟩ := X10.virtualBack hx (y := Li) (z := Li) hown (mvT hZ (Ka hw 26 rfl)) (mvT hZ (Ka hw 27 rfl)) (notFace_of_selects (args := #[]) (mvT hZ (Ka hw 29 rfl))) (mvT hZ (Ka hw 29 rfl)) (mvT hZ (Ka hw 28 rfl)) (by decide) (StrChars.Road.chN (W := 0) hZ (Kk hw) (kI := 4) (Ka hw 2 rfl) (i := 1) P0 P2 P1 P3 hcd (Zc _ hbd) (Hb.ext O0.2) Gb (Hc.ext O0.2) Gc hl2 (Lk hl2 hc12 1 (by decide)) (by decide) (by decide) (by decide)) q13a q13c (g := (mkF m 10 #[.val (.ref s0), .val (.long j0), .second, .val (.int 1)] [(.int 1), (.ref s0)])) rfl (by rw [hml]; rfl) (Steps.refl _) (argsL := [(.int 1)]) (rest := []) (lenOf Mk rfl) rfl (by show 2 * 0 + _ ≤ _; exact Nat.le_of_eq rfl) (hb hby Kf) (fun _ _ => ⟨rfl, hp10, (by decide : 0 + 0 ≤ _), (by decide : 0 + 0 ≤ _)⟩)
    dsimp only [Pt.U, Pt.locs, Pt.cells, Pt.slots] at X13 l13 y13 z13 st13 hQ13
    subst l13 y13 z13
    obtain ⟨rfl, rfl, hp13⟩ := hQ13
    have N13q : Fr n0 ([] : List Loc) := Fr.nil n0
    have N13 := Fr.app N10 N13q
    have k14 : ∀ t, Db p e below m T13 13 #[.val (.ref s0), .val (.long j0), .second, .val (.int 1)] [(.int (cs0.getD 1 0))] t → Kb p e below m s₁ #[(.ref s0), (.long j0), (.int 1)] 4 t := by
      intro t k
      refine k11 t ?_
      refine XS.icmpNo X10.here hx rfl (hb hby Yd) rfl (tlt hc12).2.1 ?_
      refine XS.aloadN X10.here hx rfl (hb hby Pg) rfl rfl ?_
      refine XS.iloadN X10.here hx rfl (hb hby Rg) rfl ?_
      refine st13.trans ?_
      exact k
    obtain ⟨fs, hr, hrun, hended, hW, hsame⟩ := X13.leave (v := some (.int (cs0.getD 1 0))) (fun h => by rw [Bd.returns] at h; cases h)
    refine hNG ⟨_, _, k14 _ ?_, hrun, hended, _, _, rfl, ?_, ⟨_, rfl⟩, hW, hsame.mono (by decide) (by decide)⟩
    · exact retN X13 hx (t := .char) Bd.returns (by simp) (hb hby Lf) (by first | exact hr | (rw [Pa (Ki hbd 1)]; exact hr))
    · show Z7 Z s0 v0 kv z0 vs0 cs0 j0 Wa Va Ua Ra Ia Da Ha Ba Ga Aa Ma La Bb h0 n0 _ T13.heap _
      rw [hp13]
      exact ⟨(cs0.getD 1 0), rfl, N13, rfl, (Ki hbd 1)⟩
  · have k15 : ∀ t, Db p e below m T10 29 #[.val (.ref s0), .val (.long j0), .second, .val (.int 1)] [(.int (((((j0.toUInt64 >>> ((8 : Int32) &&& 0x3f).toInt64.toUInt64).toInt64) &&& (255 : Int64)).toInt32).toUInt32.toUInt16.toUInt32.toInt32))] t → Kb p e below m s₁ #[(.ref s0), (.long j0), (.int 1)] 4 t := by
      intro t k
      refine k11 t ?_
      refine XS.icmpYes X10.here hx rfl (pc0 := 5) (pc' := 14) rfl (hb hby Yd) rfl (flt hc12).2.1 (by decide) (by decide) ?_
      refine XS.lloadN X10.here hx rfl (hb hby Mf) rfl ?_
      refine XS.bipush X10.here hx rfl (hb hby Pf) ?_
      refine XS.iloadN X10.here hx rfl (hb hby Rf) rfl ?_
      refine XS.bipush X10.here hx rfl (hb hby Uf) ?_
      refine XS.iand X10.here hx rfl (hb hby Vf) rfl ?_
      show Db p e below m T10 21 #[.val (.ref s0), .val (.long j0), .second, .val (.int 1)] [(.int ((1 : Int32) &&& (7 : Int32))), (.int 8), (.long j0)] t
      rw [show ((1 : Int32) &&& (7 : Int32)) = (1 : Int32) from by decide]
      refine XS.imul X10.here hx rfl (hb hby Wf) rfl ?_
      show Db p e below m T10 22 #[.val (.ref s0), .val (.long j0), .second, .val (.int 1)] [(.int ((8 : Int32) * (1 : Int32))), (.long j0)] t
      rw [show ((8 : Int32) * (1 : Int32)) = (8 : Int32) from by decide]
      refine XS.lushr X10.here hx rfl (hb hby Yf) rfl ?_
      refine X10.ldc2J hx hown (mvT hZ (Ka hw 48 rfl)) rfl (hb hby Zf) ?_
      refine XS.land X10.here hx rfl (hb hby Ag) rfl ?_
      show Db p e below m T10 27 #[.val (.ref s0), .val (.long j0), .second, .val (.int 1)] [(.long (((j0.toUInt64 >>> ((8 : Int32) &&& 0x3f).toInt64.toUInt64).toInt64) &&& (255 : Int64)))] t
      refine XS.l2i X10.here hx rfl (hb hby Bg) rfl ?_
      refine XS.i2c X10.here hx rfl (hb hby Dg) rfl ?_
      exact k
    obtain ⟨fs, hr, hrun, hended, hW, hsame⟩ := X10.leave (v := some (.int (((((j0.toUInt64 >>> ((8 : Int32) &&& 0x3f).toInt64.toUInt64).toInt64) &&& (255 : Int64)).toInt32).toUInt32.toUInt16.toUInt32.toInt32))) (fun h => by rw [Bd.returns] at h; cases h)
    refine hNG ⟨_, _, k15 _ ?_, hrun, hended, _, _, rfl, ?_, ⟨_, rfl⟩, hW, hsame.mono (by decide) (by decide)⟩
    · exact retN X10 hx (t := .char) Bd.returns (by simp) (hb hby Gg) (by first | exact hr | (rw [Pa (Wh _)]; exact hr))
    · show Z7 Z s0 v0 kv z0 vs0 cs0 j0 Wa Va Ua Ra Ia Da Ha Ba Ga Aa Ma La Bb h0 n0 _ T10.heap _
      rw [hp10]
      exact ⟨(((((j0.toUInt64 >>> ((8 : Int32) &&& 0x3f).toInt64.toUInt64).toInt64) &&& (255 : Int64)).toInt32).toUInt32.toUInt16.toUInt32.toInt32), rfl, N10, rfl, (Wh _)⟩
theorem Aaa (m : MethodId) (x0 : Addr) (x1 : Int64) (x2 : Int32)  : entryFrame m #[(.ref x0), (.long x1), (.int x2)] 4 = mkF m 0 #[.val (.ref x0), .val (.long x1), .second, .val (.int x2)] [] := by first | (simp [entryFrame, mkF, argsToLocals, Value.category]; done) | rfl
def A8 (Z : State) (s0 : Addr) (v0 : Addr) (kv : ClassId) (z0 : Int32) (vs0 : List Value) (cs0 : List Int32) (j0 : Int64) (Wa : Addr) (Va : Addr) (Ua : Addr) (Ra : Addr) (Ia : Addr) (Da : Addr) (Ha : Addr) (Ba : Addr) (Ga : Addr) (Aa : Addr) (Ma : Int32) (La : Value) (Bb : Addr) (h0 : Heap) (n0 : Nat) (v : Option Value) (h : Heap) (L : List Loc) : Prop := ∃ r : Int32, v = some (.int r) ∧ Fr n0 L ∧ h = h0 ∧ ¬ r < 0 ∧ ¬ (255 : Int32) < r
set_option maxRecDepth 65536 in
set_option maxHeartbeats 40000000 in
theorem Baa (l : Launch) (Z : State) (a0 : Array Value) (hw : ∀ d ∈ tables_1, d.before a0 Z = true) (ws : List Jvm.Cond) (s0 : Addr) (v0 : Addr) (kv : ClassId) (z0 : Int32) (vs0 : List Value) (cs0 : List Int32) (j0 : Int64) (Wa : Addr) (Va : Addr) (Ua : Addr) (Ra : Addr) (Ia : Addr) (Da : Addr) (Ha : Addr) (Ba : Addr) (Ga : Addr) (Aa : Addr) (Ma : Int32) (La : Value) (Bb : Addr) (h0 : Heap) (n0 : Nat) (O0 : Old Z n0 h0) (hE : EV Z Wa Va Ua Ra Ia Da Ha Ba Ga Aa Ma La Bb) (P0 : Exa Z h0 s0 "java/lang/String") (P1 : Fld Z h0 s0 "java/lang/String" "coder" "B" (.int 0)) (P2 : Fld Z h0 s0 "java/lang/String" "value" "[B" (.ref v0)) (P3 : Arv Z h0 v0 kv .byte z0 vs0 (.int 0)) (hcd : StrChars.Road.CodA cs0 0 z0 vs0) (hbd : ∀ c ∈ cs0, ¬ c < 0 ∧ ¬ (255 : Int32) < c) (hl2 : cs0.length ≤ 4000) :
    MetFree l Ug (head1 (Jvm.Cond.code Ug method_2_code 4 (some .char) :: ws) ({ frames := 4, cells := 0, slots := 0, locals := 53 } : Room)) (fun a U => a = #[(.ref s0), (.long j0), (.int 2)] ∧ Z.Warmed39 U.vm ∧ U.heap = h0) (fun _ _ _ _ _ => True) (fun _ U o U' => ∃ v L, o = .returned v ∧ A8 Z s0 v0 kv z0 vs0 cs0 j0 Wa Va Ua Ra Ia Da Ha Ba Ga Aa Ma La Bb h0 n0 v U'.heap L ∧ FrameEnd U o U' L ({ frames := 4, cells := 0, slots := 0, locals := 53 } : Room).cells ({ frames := 4, cells := 0, slots := 0, locals := 53 } : Room).slots) := by
  refine MetFree.of_bodySF (plainFor_of_name Ib) hisR ?_
  intro p e s m args below meth c s₁ Bd hml0 hP hK
  obtain ⟨rfl, hZ, hh⟩ := hP
  have hx := Bd.exec
  have hby := Bd.bytes
  have hml : c.maxLocals = 4 := hml0
  have hown : s.vm.findClass "com/example/entitlement_ledger/entitlementledger/model/AssigneeKindOfCollectionNamePinLaw" = some m.cls := findClass_of_methodNamed Bd.named
  have hnm := (name_of_methodNamed Bd.named Bd.method).1
  have X00 : Stand p l e ({ frames := 4, cells := 0, slots := 0, locals := 53 } : Room) s m #[(.ref s0), (.long j0), (.int 2)] below meth c s₁ [] 0 0 := Stand.of_body Bd
  have e00 : s₁.heap = h0 := by rw [← hh, Bd.state]; rfl
  have N00 := Fr.nil n0
  refine Classical.byContradiction fun hNG => ?_
  have K00 := Keep.refl h0 []
  have k00 : ∀ t, Db p e below m s₁ 0 #[.val (.ref s0), .val (.long j0), .second, .val (.int 2)] [] t → Kb p e below m s₁ #[(.ref s0), (.long j0), (.int 2)] 4 t := fun t k => castTop (Aaa m s0 j0 ((2 : Int32)) ) k
  obtain ⟨Ye, Ze, Ae, Be, Ue, Ve, Ke, Le, Dc, Wb, Ub, Vb, Bc, Yb, Pb, Rb, Ac, Zb, Lb, Mb, Hb, Gb, Hc, Gc, We, Re, Rc, De, Ab, Za, Ya⟩ := (id hE : EV Z Wa Va Ua Ra Ia Da Ha Ba Ga Aa Ma La Bb)
  obtain ⟨kw_USER_collectionName, Aw_USER_collectionName⟩ := Ab.arv
  obtain ⟨kw_GROUP_collectionName, Aw_GROUP_collectionName⟩ := Za.arv
  obtain ⟨kw_DEVICE_collectionName, Aw_DEVICE_collectionName⟩ := Ya.arv
  obtain ⟨cq10, kq10, q10a, q10b, q10c⟩ := isOf hZ e00 P0
  obtain ⟨_, _, ⟨T10, L10, k10, n10⟩, -, X10, ⟨Lc10, hQ10, l10, y10, z10⟩, st10⟩ := X00.virtualBack hx (y := Kh) (z := Kh) hown (mvT hZ (Ka hw 8 rfl)) (mvT hZ (Ka hw 9 rfl)) (notFace_of_selects (args := #[]) (mvT hZ (Ka hw 11 rfl))) (mvT hZ (Ka hw 11 rfl)) (mvT hZ (Ka hw 10 rfl)) (by decide) (StrChars.Road.lenW (W := 1) hZ (Bj hw) (kI := 4) (Ka hw 2 rfl) P0 P2 P1 P3 hcd (Zc _ hbd) (Hb.ext O0.2) Gb hl2 (by decide) (by decide)) q10a q10c (g := (mkF m 2 #[.val (.ref s0), .val (.long j0), .second, .val (.int 2)] [(.ref s0), (.int 2)])) rfl (by rw [hml]; rfl) (Steps.refl _) (argsL := []) (rest := [(.int 2)]) (lenOf Hk rfl) rfl (by show 2 * 0 + _ ≤ _; exact Nat.le_of_eq rfl) (hb hby Mg) (fun _ _ => ⟨rfl, e00, (by decide : 0 + 0 ≤ _), (by decide : 0 + 0 ≤ _)⟩)
  dsimp only [Pt.U, Pt.locs, Pt.cells, Pt.slots] at X10 l10 y10 z10 st10 hQ10
  subst l10 y10 z10
  obtain ⟨rfl, rfl, hp10⟩ := hQ10
  have N10q : Fr n0 ([] : List Loc) := Fr.nil n0
  have N10 := Fr.app N00 N10q
  have k11 : ∀ t, Db p e below m T10 5 #[.val (.ref s0), .val (.long j0), .second, .val (.int 2)] [(.int (Int32.ofNat cs0.length)), (.int 2)] t → Kb p e below m s₁ #[(.ref s0), (.long j0), (.int 2)] 4 t := by
    intro t k
    refine k00 t ?_
    refine XS.iloadN X00.here hx rfl (hb hby Kg) rfl ?_
    refine XS.aloadN X00.here hx rfl (hb hby Lg) rfl rfl ?_
    refine st10.trans ?_
    exact k
  by_cases hc12 : (2 : Int32) < (Int32.ofNat cs0.length)
  · obtain ⟨cq13, kq13, q13a, q13b, q13c⟩ := isOf hZ hp10 P0
    obtain ⟨_, _, ⟨T13, L13, k13, n13⟩, -, X13, ⟨Lc13, hQ13, l13, y13, z13⟩, st13⟩ := X10.virtualBack hx (y := Li) (z := Li) hown (mvT hZ (Ka hw 26 rfl)) (mvT hZ (Ka hw 27 rfl)) (notFace_of_selects (args := #[]) (mvT hZ (Ka hw 29 rfl))) (mvT hZ (Ka hw 29 rfl)) (mvT hZ (Ka hw 28 rfl)) (by decide) (StrChars.Road.chN (W := 0) hZ (Kk hw) (kI := 4) (Ka hw 2 rfl) (i := 2) P0 P2 P1 P3 hcd (Zc _ hbd) (Hb.ext O0.2) Gb (Hc.ext O0.2) Gc hl2 (Lk hl2 hc12 2 (by decide)) (by decide) (by decide) (by decide)) q13a q13c (g := (mkF m 10 #[.val (.ref s0), .val (.long j0), .second, .val (.int 2)] [(.int 2), (.ref s0)])) rfl (by rw [hml]; rfl) (Steps.refl _) (argsL := [(.int 2)]) (rest := []) (lenOf Mk rfl) rfl (by show 2 * 0 + _ ≤ _; exact Nat.le_of_eq rfl) (hb hby Kf) (fun _ _ => ⟨rfl, hp10, (by decide : 0 + 0 ≤ _), (by decide : 0 + 0 ≤ _)⟩)
    dsimp only [Pt.U, Pt.locs, Pt.cells, Pt.slots] at X13 l13 y13 z13 st13 hQ13
    subst l13 y13 z13
    obtain ⟨rfl, rfl, hp13⟩ := hQ13
    have N13q : Fr n0 ([] : List Loc) := Fr.nil n0
    have N13 := Fr.app N10 N13q
    have k14 : ∀ t, Db p e below m T13 13 #[.val (.ref s0), .val (.long j0), .second, .val (.int 2)] [(.int (cs0.getD 2 0))] t → Kb p e below m s₁ #[(.ref s0), (.long j0), (.int 2)] 4 t := by
      intro t k
      refine k11 t ?_
      refine XS.icmpNo X10.here hx rfl (hb hby Yd) rfl (tlt hc12).2.1 ?_
      refine XS.aloadN X10.here hx rfl (hb hby Pg) rfl rfl ?_
      refine XS.iloadN X10.here hx rfl (hb hby Rg) rfl ?_
      refine st13.trans ?_
      exact k
    obtain ⟨fs, hr, hrun, hended, hW, hsame⟩ := X13.leave (v := some (.int (cs0.getD 2 0))) (fun h => by rw [Bd.returns] at h; cases h)
    refine hNG ⟨_, _, k14 _ ?_, hrun, hended, _, _, rfl, ?_, ⟨_, rfl⟩, hW, hsame.mono (by decide) (by decide)⟩
    · exact retN X13 hx (t := .char) Bd.returns (by simp) (hb hby Lf) (by first | exact hr | (rw [Pa (Ki hbd 2)]; exact hr))
    · show A8 Z s0 v0 kv z0 vs0 cs0 j0 Wa Va Ua Ra Ia Da Ha Ba Ga Aa Ma La Bb h0 n0 _ T13.heap _
      rw [hp13]
      exact ⟨(cs0.getD 2 0), rfl, N13, rfl, (Ki hbd 2)⟩
  · have k15 : ∀ t, Db p e below m T10 29 #[.val (.ref s0), .val (.long j0), .second, .val (.int 2)] [(.int (((((j0.toUInt64 >>> ((16 : Int32) &&& 0x3f).toInt64.toUInt64).toInt64) &&& (255 : Int64)).toInt32).toUInt32.toUInt16.toUInt32.toInt32))] t → Kb p e below m s₁ #[(.ref s0), (.long j0), (.int 2)] 4 t := by
      intro t k
      refine k11 t ?_
      refine XS.icmpYes X10.here hx rfl (pc0 := 5) (pc' := 14) rfl (hb hby Yd) rfl (flt hc12).2.1 (by decide) (by decide) ?_
      refine XS.lloadN X10.here hx rfl (hb hby Mf) rfl ?_
      refine XS.bipush X10.here hx rfl (hb hby Pf) ?_
      refine XS.iloadN X10.here hx rfl (hb hby Rf) rfl ?_
      refine XS.bipush X10.here hx rfl (hb hby Uf) ?_
      refine XS.iand X10.here hx rfl (hb hby Vf) rfl ?_
      show Db p e below m T10 21 #[.val (.ref s0), .val (.long j0), .second, .val (.int 2)] [(.int ((2 : Int32) &&& (7 : Int32))), (.int 8), (.long j0)] t
      rw [show ((2 : Int32) &&& (7 : Int32)) = (2 : Int32) from by decide]
      refine XS.imul X10.here hx rfl (hb hby Wf) rfl ?_
      show Db p e below m T10 22 #[.val (.ref s0), .val (.long j0), .second, .val (.int 2)] [(.int ((8 : Int32) * (2 : Int32))), (.long j0)] t
      rw [show ((8 : Int32) * (2 : Int32)) = (16 : Int32) from by decide]
      refine XS.lushr X10.here hx rfl (hb hby Yf) rfl ?_
      refine X10.ldc2J hx hown (mvT hZ (Ka hw 48 rfl)) rfl (hb hby Zf) ?_
      refine XS.land X10.here hx rfl (hb hby Ag) rfl ?_
      show Db p e below m T10 27 #[.val (.ref s0), .val (.long j0), .second, .val (.int 2)] [(.long (((j0.toUInt64 >>> ((16 : Int32) &&& 0x3f).toInt64.toUInt64).toInt64) &&& (255 : Int64)))] t
      refine XS.l2i X10.here hx rfl (hb hby Bg) rfl ?_
      refine XS.i2c X10.here hx rfl (hb hby Dg) rfl ?_
      exact k
    obtain ⟨fs, hr, hrun, hended, hW, hsame⟩ := X10.leave (v := some (.int (((((j0.toUInt64 >>> ((16 : Int32) &&& 0x3f).toInt64.toUInt64).toInt64) &&& (255 : Int64)).toInt32).toUInt32.toUInt16.toUInt32.toInt32))) (fun h => by rw [Bd.returns] at h; cases h)
    refine hNG ⟨_, _, k15 _ ?_, hrun, hended, _, _, rfl, ?_, ⟨_, rfl⟩, hW, hsame.mono (by decide) (by decide)⟩
    · exact retN X10 hx (t := .char) Bd.returns (by simp) (hb hby Gg) (by first | exact hr | (rw [Pa (Wh _)]; exact hr))
    · show A8 Z s0 v0 kv z0 vs0 cs0 j0 Wa Va Ua Ra Ia Da Ha Ba Ga Aa Ma La Bb h0 n0 _ T10.heap _
      rw [hp10]
      exact ⟨(((((j0.toUInt64 >>> ((16 : Int32) &&& 0x3f).toInt64.toUInt64).toInt64) &&& (255 : Int64)).toInt32).toUInt32.toUInt16.toUInt32.toInt32), rfl, N10, rfl, (Wh _)⟩
theorem Daa (m : MethodId) (x0 : Addr) (x1 : Int64) (x2 : Int32)  : entryFrame m #[(.ref x0), (.long x1), (.int x2)] 4 = mkF m 0 #[.val (.ref x0), .val (.long x1), .second, .val (.int x2)] [] := by first | (simp [entryFrame, mkF, argsToLocals, Value.category]; done) | rfl
def B8 (Z : State) (s0 : Addr) (v0 : Addr) (kv : ClassId) (z0 : Int32) (vs0 : List Value) (cs0 : List Int32) (j0 : Int64) (Wa : Addr) (Va : Addr) (Ua : Addr) (Ra : Addr) (Ia : Addr) (Da : Addr) (Ha : Addr) (Ba : Addr) (Ga : Addr) (Aa : Addr) (Ma : Int32) (La : Value) (Bb : Addr) (h0 : Heap) (n0 : Nat) (v : Option Value) (h : Heap) (L : List Loc) : Prop := ∃ r : Int32, v = some (.int r) ∧ Fr n0 L ∧ h = h0 ∧ ¬ r < 0 ∧ ¬ (255 : Int32) < r
set_option maxRecDepth 65536 in
set_option maxHeartbeats 40000000 in
theorem Gaa (l : Launch) (Z : State) (a0 : Array Value) (hw : ∀ d ∈ tables_1, d.before a0 Z = true) (ws : List Jvm.Cond) (s0 : Addr) (v0 : Addr) (kv : ClassId) (z0 : Int32) (vs0 : List Value) (cs0 : List Int32) (j0 : Int64) (Wa : Addr) (Va : Addr) (Ua : Addr) (Ra : Addr) (Ia : Addr) (Da : Addr) (Ha : Addr) (Ba : Addr) (Ga : Addr) (Aa : Addr) (Ma : Int32) (La : Value) (Bb : Addr) (h0 : Heap) (n0 : Nat) (O0 : Old Z n0 h0) (hE : EV Z Wa Va Ua Ra Ia Da Ha Ba Ga Aa Ma La Bb) (P0 : Exa Z h0 s0 "java/lang/String") (P1 : Fld Z h0 s0 "java/lang/String" "coder" "B" (.int 0)) (P2 : Fld Z h0 s0 "java/lang/String" "value" "[B" (.ref v0)) (P3 : Arv Z h0 v0 kv .byte z0 vs0 (.int 0)) (hcd : StrChars.Road.CodA cs0 0 z0 vs0) (hbd : ∀ c ∈ cs0, ¬ c < 0 ∧ ¬ (255 : Int32) < c) (hl2 : cs0.length ≤ 4000) :
    MetFree l Ug (head1 (Jvm.Cond.code Ug method_2_code 4 (some .char) :: ws) ({ frames := 4, cells := 0, slots := 0, locals := 53 } : Room)) (fun a U => a = #[(.ref s0), (.long j0), (.int 3)] ∧ Z.Warmed39 U.vm ∧ U.heap = h0) (fun _ _ _ _ _ => True) (fun _ U o U' => ∃ v L, o = .returned v ∧ B8 Z s0 v0 kv z0 vs0 cs0 j0 Wa Va Ua Ra Ia Da Ha Ba Ga Aa Ma La Bb h0 n0 v U'.heap L ∧ FrameEnd U o U' L ({ frames := 4, cells := 0, slots := 0, locals := 53 } : Room).cells ({ frames := 4, cells := 0, slots := 0, locals := 53 } : Room).slots) := by
  refine MetFree.of_bodySF (plainFor_of_name Ib) hisR ?_
  intro p e s m args below meth c s₁ Bd hml0 hP hK
  obtain ⟨rfl, hZ, hh⟩ := hP
  have hx := Bd.exec
  have hby := Bd.bytes
  have hml : c.maxLocals = 4 := hml0
  have hown : s.vm.findClass "com/example/entitlement_ledger/entitlementledger/model/AssigneeKindOfCollectionNamePinLaw" = some m.cls := findClass_of_methodNamed Bd.named
  have hnm := (name_of_methodNamed Bd.named Bd.method).1
  have X00 : Stand p l e ({ frames := 4, cells := 0, slots := 0, locals := 53 } : Room) s m #[(.ref s0), (.long j0), (.int 3)] below meth c s₁ [] 0 0 := Stand.of_body Bd
  have e00 : s₁.heap = h0 := by rw [← hh, Bd.state]; rfl
  have N00 := Fr.nil n0
  refine Classical.byContradiction fun hNG => ?_
  have K00 := Keep.refl h0 []
  have k00 : ∀ t, Db p e below m s₁ 0 #[.val (.ref s0), .val (.long j0), .second, .val (.int 3)] [] t → Kb p e below m s₁ #[(.ref s0), (.long j0), (.int 3)] 4 t := fun t k => castTop (Daa m s0 j0 ((3 : Int32)) ) k
  obtain ⟨Ye, Ze, Ae, Be, Ue, Ve, Ke, Le, Dc, Wb, Ub, Vb, Bc, Yb, Pb, Rb, Ac, Zb, Lb, Mb, Hb, Gb, Hc, Gc, We, Re, Rc, De, Ab, Za, Ya⟩ := (id hE : EV Z Wa Va Ua Ra Ia Da Ha Ba Ga Aa Ma La Bb)
  obtain ⟨kw_USER_collectionName, Aw_USER_collectionName⟩ := Ab.arv
  obtain ⟨kw_GROUP_collectionName, Aw_GROUP_collectionName⟩ := Za.arv
  obtain ⟨kw_DEVICE_collectionName, Aw_DEVICE_collectionName⟩ := Ya.arv
  obtain ⟨cq10, kq10, q10a, q10b, q10c⟩ := isOf hZ e00 P0
  obtain ⟨_, _, ⟨T10, L10, k10, n10⟩, -, X10, ⟨Lc10, hQ10, l10, y10, z10⟩, st10⟩ := X00.virtualBack hx (y := Kh) (z := Kh) hown (mvT hZ (Ka hw 8 rfl)) (mvT hZ (Ka hw 9 rfl)) (notFace_of_selects (args := #[]) (mvT hZ (Ka hw 11 rfl))) (mvT hZ (Ka hw 11 rfl)) (mvT hZ (Ka hw 10 rfl)) (by decide) (StrChars.Road.lenW (W := 1) hZ (Bj hw) (kI := 4) (Ka hw 2 rfl) P0 P2 P1 P3 hcd (Zc _ hbd) (Hb.ext O0.2) Gb hl2 (by decide) (by decide)) q10a q10c (g := (mkF m 2 #[.val (.ref s0), .val (.long j0), .second, .val (.int 3)] [(.ref s0), (.int 3)])) rfl (by rw [hml]; rfl) (Steps.refl _) (argsL := []) (rest := [(.int 3)]) (lenOf Hk rfl) rfl (by show 2 * 0 + _ ≤ _; exact Nat.le_of_eq rfl) (hb hby Mg) (fun _ _ => ⟨rfl, e00, (by decide : 0 + 0 ≤ _), (by decide : 0 + 0 ≤ _)⟩)
  dsimp only [Pt.U, Pt.locs, Pt.cells, Pt.slots] at X10 l10 y10 z10 st10 hQ10
  subst l10 y10 z10
  obtain ⟨rfl, rfl, hp10⟩ := hQ10
  have N10q : Fr n0 ([] : List Loc) := Fr.nil n0
  have N10 := Fr.app N00 N10q
  have k11 : ∀ t, Db p e below m T10 5 #[.val (.ref s0), .val (.long j0), .second, .val (.int 3)] [(.int (Int32.ofNat cs0.length)), (.int 3)] t → Kb p e below m s₁ #[(.ref s0), (.long j0), (.int 3)] 4 t := by
    intro t k
    refine k00 t ?_
    refine XS.iloadN X00.here hx rfl (hb hby Kg) rfl ?_
    refine XS.aloadN X00.here hx rfl (hb hby Lg) rfl rfl ?_
    refine st10.trans ?_
    exact k
  by_cases hc12 : (3 : Int32) < (Int32.ofNat cs0.length)
  · obtain ⟨cq13, kq13, q13a, q13b, q13c⟩ := isOf hZ hp10 P0
    obtain ⟨_, _, ⟨T13, L13, k13, n13⟩, -, X13, ⟨Lc13, hQ13, l13, y13, z13⟩, st13⟩ := X10.virtualBack hx (y := Li) (z := Li) hown (mvT hZ (Ka hw 26 rfl)) (mvT hZ (Ka hw 27 rfl)) (notFace_of_selects (args := #[]) (mvT hZ (Ka hw 29 rfl))) (mvT hZ (Ka hw 29 rfl)) (mvT hZ (Ka hw 28 rfl)) (by decide) (StrChars.Road.chN (W := 0) hZ (Kk hw) (kI := 4) (Ka hw 2 rfl) (i := 3) P0 P2 P1 P3 hcd (Zc _ hbd) (Hb.ext O0.2) Gb (Hc.ext O0.2) Gc hl2 (Lk hl2 hc12 3 (by decide)) (by decide) (by decide) (by decide)) q13a q13c (g := (mkF m 10 #[.val (.ref s0), .val (.long j0), .second, .val (.int 3)] [(.int 3), (.ref s0)])) rfl (by rw [hml]; rfl) (Steps.refl _) (argsL := [(.int 3)]) (rest := []) (lenOf Mk rfl) rfl (by show 2 * 0 + _ ≤ _; exact Nat.le_of_eq rfl) (hb hby Kf) (fun _ _ => ⟨rfl, hp10, (by decide : 0 + 0 ≤ _), (by decide : 0 + 0 ≤ _)⟩)
    dsimp only [Pt.U, Pt.locs, Pt.cells, Pt.slots] at X13 l13 y13 z13 st13 hQ13
    subst l13 y13 z13
    obtain ⟨rfl, rfl, hp13⟩ := hQ13
    have N13q : Fr n0 ([] : List Loc) := Fr.nil n0
    have N13 := Fr.app N10 N13q
    have k14 : ∀ t, Db p e below m T13 13 #[.val (.ref s0), .val (.long j0), .second, .val (.int 3)] [(.int (cs0.getD 3 0))] t → Kb p e below m s₁ #[(.ref s0), (.long j0), (.int 3)] 4 t := by
      intro t k
      refine k11 t ?_
      refine XS.icmpNo X10.here hx rfl (hb hby Yd) rfl (tlt hc12).2.1 ?_
      refine XS.aloadN X10.here hx rfl (hb hby Pg) rfl rfl ?_
      refine XS.iloadN X10.here hx rfl (hb hby Rg) rfl ?_
      refine st13.trans ?_
      exact k
    obtain ⟨fs, hr, hrun, hended, hW, hsame⟩ := X13.leave (v := some (.int (cs0.getD 3 0))) (fun h => by rw [Bd.returns] at h; cases h)
    refine hNG ⟨_, _, k14 _ ?_, hrun, hended, _, _, rfl, ?_, ⟨_, rfl⟩, hW, hsame.mono (by decide) (by decide)⟩
    · exact retN X13 hx (t := .char) Bd.returns (by simp) (hb hby Lf) (by first | exact hr | (rw [Pa (Ki hbd 3)]; exact hr))
    · show B8 Z s0 v0 kv z0 vs0 cs0 j0 Wa Va Ua Ra Ia Da Ha Ba Ga Aa Ma La Bb h0 n0 _ T13.heap _
      rw [hp13]
      exact ⟨(cs0.getD 3 0), rfl, N13, rfl, (Ki hbd 3)⟩
  · have k15 : ∀ t, Db p e below m T10 29 #[.val (.ref s0), .val (.long j0), .second, .val (.int 3)] [(.int (((((j0.toUInt64 >>> ((24 : Int32) &&& 0x3f).toInt64.toUInt64).toInt64) &&& (255 : Int64)).toInt32).toUInt32.toUInt16.toUInt32.toInt32))] t → Kb p e below m s₁ #[(.ref s0), (.long j0), (.int 3)] 4 t := by
      intro t k
      refine k11 t ?_
      refine XS.icmpYes X10.here hx rfl (pc0 := 5) (pc' := 14) rfl (hb hby Yd) rfl (flt hc12).2.1 (by decide) (by decide) ?_
      refine XS.lloadN X10.here hx rfl (hb hby Mf) rfl ?_
      refine XS.bipush X10.here hx rfl (hb hby Pf) ?_
      refine XS.iloadN X10.here hx rfl (hb hby Rf) rfl ?_
      refine XS.bipush X10.here hx rfl (hb hby Uf) ?_
      refine XS.iand X10.here hx rfl (hb hby Vf) rfl ?_
      show Db p e below m T10 21 #[.val (.ref s0), .val (.long j0), .second, .val (.int 3)] [(.int ((3 : Int32) &&& (7 : Int32))), (.int 8), (.long j0)] t
      rw [show ((3 : Int32) &&& (7 : Int32)) = (3 : Int32) from by decide]
      refine XS.imul X10.here hx rfl (hb hby Wf) rfl ?_
      show Db p e below m T10 22 #[.val (.ref s0), .val (.long j0), .second, .val (.int 3)] [(.int ((8 : Int32) * (3 : Int32))), (.long j0)] t
      rw [show ((8 : Int32) * (3 : Int32)) = (24 : Int32) from by decide]
      refine XS.lushr X10.here hx rfl (hb hby Yf) rfl ?_
      refine X10.ldc2J hx hown (mvT hZ (Ka hw 48 rfl)) rfl (hb hby Zf) ?_
      refine XS.land X10.here hx rfl (hb hby Ag) rfl ?_
      show Db p e below m T10 27 #[.val (.ref s0), .val (.long j0), .second, .val (.int 3)] [(.long (((j0.toUInt64 >>> ((24 : Int32) &&& 0x3f).toInt64.toUInt64).toInt64) &&& (255 : Int64)))] t
      refine XS.l2i X10.here hx rfl (hb hby Bg) rfl ?_
      refine XS.i2c X10.here hx rfl (hb hby Dg) rfl ?_
      exact k
    obtain ⟨fs, hr, hrun, hended, hW, hsame⟩ := X10.leave (v := some (.int (((((j0.toUInt64 >>> ((24 : Int32) &&& 0x3f).toInt64.toUInt64).toInt64) &&& (255 : Int64)).toInt32).toUInt32.toUInt16.toUInt32.toInt32))) (fun h => by rw [Bd.returns] at h; cases h)
    refine hNG ⟨_, _, k15 _ ?_, hrun, hended, _, _, rfl, ?_, ⟨_, rfl⟩, hW, hsame.mono (by decide) (by decide)⟩
    · exact retN X10 hx (t := .char) Bd.returns (by simp) (hb hby Gg) (by first | exact hr | (rw [Pa (Wh _)]; exact hr))
    · show B8 Z s0 v0 kv z0 vs0 cs0 j0 Wa Va Ua Ra Ia Da Ha Ba Ga Aa Ma La Bb h0 n0 _ T10.heap _
      rw [hp10]
      exact ⟨(((((j0.toUInt64 >>> ((24 : Int32) &&& 0x3f).toInt64.toUInt64).toInt64) &&& (255 : Int64)).toInt32).toUInt32.toUInt16.toUInt32.toInt32), rfl, N10, rfl, (Wh _)⟩
theorem Haa (m : MethodId) (x0 : Addr) (x1 : Int64) (x2 : Int32)  : entryFrame m #[(.ref x0), (.long x1), (.int x2)] 4 = mkF m 0 #[.val (.ref x0), .val (.long x1), .second, .val (.int x2)] [] := by first | (simp [entryFrame, mkF, argsToLocals, Value.category]; done) | rfl
def D8 (Z : State) (s0 : Addr) (v0 : Addr) (kv : ClassId) (z0 : Int32) (vs0 : List Value) (cs0 : List Int32) (j0 : Int64) (Wa : Addr) (Va : Addr) (Ua : Addr) (Ra : Addr) (Ia : Addr) (Da : Addr) (Ha : Addr) (Ba : Addr) (Ga : Addr) (Aa : Addr) (Ma : Int32) (La : Value) (Bb : Addr) (h0 : Heap) (n0 : Nat) (v : Option Value) (h : Heap) (L : List Loc) : Prop := ∃ r : Int32, v = some (.int r) ∧ Fr n0 L ∧ h = h0 ∧ ¬ r < 0 ∧ ¬ (255 : Int32) < r
set_option maxRecDepth 65536 in
set_option maxHeartbeats 40000000 in
theorem Iaa (l : Launch) (Z : State) (a0 : Array Value) (hw : ∀ d ∈ tables_1, d.before a0 Z = true) (ws : List Jvm.Cond) (s0 : Addr) (v0 : Addr) (kv : ClassId) (z0 : Int32) (vs0 : List Value) (cs0 : List Int32) (j0 : Int64) (Wa : Addr) (Va : Addr) (Ua : Addr) (Ra : Addr) (Ia : Addr) (Da : Addr) (Ha : Addr) (Ba : Addr) (Ga : Addr) (Aa : Addr) (Ma : Int32) (La : Value) (Bb : Addr) (h0 : Heap) (n0 : Nat) (O0 : Old Z n0 h0) (hE : EV Z Wa Va Ua Ra Ia Da Ha Ba Ga Aa Ma La Bb) (P0 : Exa Z h0 s0 "java/lang/String") (P1 : Fld Z h0 s0 "java/lang/String" "coder" "B" (.int 0)) (P2 : Fld Z h0 s0 "java/lang/String" "value" "[B" (.ref v0)) (P3 : Arv Z h0 v0 kv .byte z0 vs0 (.int 0)) (hcd : StrChars.Road.CodA cs0 0 z0 vs0) (hbd : ∀ c ∈ cs0, ¬ c < 0 ∧ ¬ (255 : Int32) < c) (hl2 : cs0.length ≤ 4000) :
    MetFree l Ug (head1 (Jvm.Cond.code Ug method_2_code 4 (some .char) :: ws) ({ frames := 4, cells := 0, slots := 0, locals := 53 } : Room)) (fun a U => a = #[(.ref s0), (.long j0), (.int 4)] ∧ Z.Warmed39 U.vm ∧ U.heap = h0) (fun _ _ _ _ _ => True) (fun _ U o U' => ∃ v L, o = .returned v ∧ D8 Z s0 v0 kv z0 vs0 cs0 j0 Wa Va Ua Ra Ia Da Ha Ba Ga Aa Ma La Bb h0 n0 v U'.heap L ∧ FrameEnd U o U' L ({ frames := 4, cells := 0, slots := 0, locals := 53 } : Room).cells ({ frames := 4, cells := 0, slots := 0, locals := 53 } : Room).slots) := by
  refine MetFree.of_bodySF (plainFor_of_name Ib) hisR ?_
  intro p e s m args below meth c s₁ Bd hml0 hP hK
  obtain ⟨rfl, hZ, hh⟩ := hP
  have hx := Bd.exec
  have hby := Bd.bytes
  have hml : c.maxLocals = 4 := hml0
  have hown : s.vm.findClass "com/example/entitlement_ledger/entitlementledger/model/AssigneeKindOfCollectionNamePinLaw" = some m.cls := findClass_of_methodNamed Bd.named
  have hnm := (name_of_methodNamed Bd.named Bd.method).1
  have X00 : Stand p l e ({ frames := 4, cells := 0, slots := 0, locals := 53 } : Room) s m #[(.ref s0), (.long j0), (.int 4)] below meth c s₁ [] 0 0 := Stand.of_body Bd
  have e00 : s₁.heap = h0 := by rw [← hh, Bd.state]; rfl
  have N00 := Fr.nil n0
  refine Classical.byContradiction fun hNG => ?_
  have K00 := Keep.refl h0 []
  have k00 : ∀ t, Db p e below m s₁ 0 #[.val (.ref s0), .val (.long j0), .second, .val (.int 4)] [] t → Kb p e below m s₁ #[(.ref s0), (.long j0), (.int 4)] 4 t := fun t k => castTop (Haa m s0 j0 ((4 : Int32)) ) k
  obtain ⟨Ye, Ze, Ae, Be, Ue, Ve, Ke, Le, Dc, Wb, Ub, Vb, Bc, Yb, Pb, Rb, Ac, Zb, Lb, Mb, Hb, Gb, Hc, Gc, We, Re, Rc, De, Ab, Za, Ya⟩ := (id hE : EV Z Wa Va Ua Ra Ia Da Ha Ba Ga Aa Ma La Bb)
  obtain ⟨kw_USER_collectionName, Aw_USER_collectionName⟩ := Ab.arv
  obtain ⟨kw_GROUP_collectionName, Aw_GROUP_collectionName⟩ := Za.arv
  obtain ⟨kw_DEVICE_collectionName, Aw_DEVICE_collectionName⟩ := Ya.arv
  obtain ⟨cq10, kq10, q10a, q10b, q10c⟩ := isOf hZ e00 P0
  obtain ⟨_, _, ⟨T10, L10, k10, n10⟩, -, X10, ⟨Lc10, hQ10, l10, y10, z10⟩, st10⟩ := X00.virtualBack hx (y := Kh) (z := Kh) hown (mvT hZ (Ka hw 8 rfl)) (mvT hZ (Ka hw 9 rfl)) (notFace_of_selects (args := #[]) (mvT hZ (Ka hw 11 rfl))) (mvT hZ (Ka hw 11 rfl)) (mvT hZ (Ka hw 10 rfl)) (by decide) (StrChars.Road.lenW (W := 1) hZ (Bj hw) (kI := 4) (Ka hw 2 rfl) P0 P2 P1 P3 hcd (Zc _ hbd) (Hb.ext O0.2) Gb hl2 (by decide) (by decide)) q10a q10c (g := (mkF m 2 #[.val (.ref s0), .val (.long j0), .second, .val (.int 4)] [(.ref s0), (.int 4)])) rfl (by rw [hml]; rfl) (Steps.refl _) (argsL := []) (rest := [(.int 4)]) (lenOf Hk rfl) rfl (by show 2 * 0 + _ ≤ _; exact Nat.le_of_eq rfl) (hb hby Mg) (fun _ _ => ⟨rfl, e00, (by decide : 0 + 0 ≤ _), (by decide : 0 + 0 ≤ _)⟩)
  dsimp only [Pt.U, Pt.locs, Pt.cells, Pt.slots] at X10 l10 y10 z10 st10 hQ10
  subst l10 y10 z10
  obtain ⟨rfl, rfl, hp10⟩ := hQ10
  have N10q : Fr n0 ([] : List Loc) := Fr.nil n0
  have N10 := Fr.app N00 N10q
  have k11 : ∀ t, Db p e below m T10 5 #[.val (.ref s0), .val (.long j0), .second, .val (.int 4)] [(.int (Int32.ofNat cs0.length)), (.int 4)] t → Kb p e below m s₁ #[(.ref s0), (.long j0), (.int 4)] 4 t := by
    intro t k
    refine k00 t ?_
    refine XS.iloadN X00.here hx rfl (hb hby Kg) rfl ?_
    refine XS.aloadN X00.here hx rfl (hb hby Lg) rfl rfl ?_
    refine st10.trans ?_
    exact k
  by_cases hc12 : (4 : Int32) < (Int32.ofNat cs0.length)
  · obtain ⟨cq13, kq13, q13a, q13b, q13c⟩ := isOf hZ hp10 P0
    obtain ⟨_, _, ⟨T13, L13, k13, n13⟩, -, X13, ⟨Lc13, hQ13, l13, y13, z13⟩, st13⟩ := X10.virtualBack hx (y := Li) (z := Li) hown (mvT hZ (Ka hw 26 rfl)) (mvT hZ (Ka hw 27 rfl)) (notFace_of_selects (args := #[]) (mvT hZ (Ka hw 29 rfl))) (mvT hZ (Ka hw 29 rfl)) (mvT hZ (Ka hw 28 rfl)) (by decide) (StrChars.Road.chN (W := 0) hZ (Kk hw) (kI := 4) (Ka hw 2 rfl) (i := 4) P0 P2 P1 P3 hcd (Zc _ hbd) (Hb.ext O0.2) Gb (Hc.ext O0.2) Gc hl2 (Lk hl2 hc12 4 (by decide)) (by decide) (by decide) (by decide)) q13a q13c (g := (mkF m 10 #[.val (.ref s0), .val (.long j0), .second, .val (.int 4)] [(.int 4), (.ref s0)])) rfl (by rw [hml]; rfl) (Steps.refl _) (argsL := [(.int 4)]) (rest := []) (lenOf Mk rfl) rfl (by show 2 * 0 + _ ≤ _; exact Nat.le_of_eq rfl) (hb hby Kf) (fun _ _ => ⟨rfl, hp10, (by decide : 0 + 0 ≤ _), (by decide : 0 + 0 ≤ _)⟩)
    dsimp only [Pt.U, Pt.locs, Pt.cells, Pt.slots] at X13 l13 y13 z13 st13 hQ13
    subst l13 y13 z13
    obtain ⟨rfl, rfl, hp13⟩ := hQ13
    have N13q : Fr n0 ([] : List Loc) := Fr.nil n0
    have N13 := Fr.app N10 N13q
    have k14 : ∀ t, Db p e below m T13 13 #[.val (.ref s0), .val (.long j0), .second, .val (.int 4)] [(.int (cs0.getD 4 0))] t → Kb p e below m s₁ #[(.ref s0), (.long j0), (.int 4)] 4 t := by
      intro t k
      refine k11 t ?_
      refine XS.icmpNo X10.here hx rfl (hb hby Yd) rfl (tlt hc12).2.1 ?_
      refine XS.aloadN X10.here hx rfl (hb hby Pg) rfl rfl ?_
      refine XS.iloadN X10.here hx rfl (hb hby Rg) rfl ?_
      refine st13.trans ?_
      exact k
    obtain ⟨fs, hr, hrun, hended, hW, hsame⟩ := X13.leave (v := some (.int (cs0.getD 4 0))) (fun h => by rw [Bd.returns] at h; cases h)
    refine hNG ⟨_, _, k14 _ ?_, hrun, hended, _, _, rfl, ?_, ⟨_, rfl⟩, hW, hsame.mono (by decide) (by decide)⟩
    · exact retN X13 hx (t := .char) Bd.returns (by simp) (hb hby Lf) (by first | exact hr | (rw [Pa (Ki hbd 4)]; exact hr))
    · show D8 Z s0 v0 kv z0 vs0 cs0 j0 Wa Va Ua Ra Ia Da Ha Ba Ga Aa Ma La Bb h0 n0 _ T13.heap _
      rw [hp13]
      exact ⟨(cs0.getD 4 0), rfl, N13, rfl, (Ki hbd 4)⟩
  · have k15 : ∀ t, Db p e below m T10 29 #[.val (.ref s0), .val (.long j0), .second, .val (.int 4)] [(.int (((((j0.toUInt64 >>> ((32 : Int32) &&& 0x3f).toInt64.toUInt64).toInt64) &&& (255 : Int64)).toInt32).toUInt32.toUInt16.toUInt32.toInt32))] t → Kb p e below m s₁ #[(.ref s0), (.long j0), (.int 4)] 4 t := by
      intro t k
      refine k11 t ?_
      refine XS.icmpYes X10.here hx rfl (pc0 := 5) (pc' := 14) rfl (hb hby Yd) rfl (flt hc12).2.1 (by decide) (by decide) ?_
      refine XS.lloadN X10.here hx rfl (hb hby Mf) rfl ?_
      refine XS.bipush X10.here hx rfl (hb hby Pf) ?_
      refine XS.iloadN X10.here hx rfl (hb hby Rf) rfl ?_
      refine XS.bipush X10.here hx rfl (hb hby Uf) ?_
      refine XS.iand X10.here hx rfl (hb hby Vf) rfl ?_
      show Db p e below m T10 21 #[.val (.ref s0), .val (.long j0), .second, .val (.int 4)] [(.int ((4 : Int32) &&& (7 : Int32))), (.int 8), (.long j0)] t
      rw [show ((4 : Int32) &&& (7 : Int32)) = (4 : Int32) from by decide]
      refine XS.imul X10.here hx rfl (hb hby Wf) rfl ?_
      show Db p e below m T10 22 #[.val (.ref s0), .val (.long j0), .second, .val (.int 4)] [(.int ((8 : Int32) * (4 : Int32))), (.long j0)] t
      rw [show ((8 : Int32) * (4 : Int32)) = (32 : Int32) from by decide]
      refine XS.lushr X10.here hx rfl (hb hby Yf) rfl ?_
      refine X10.ldc2J hx hown (mvT hZ (Ka hw 48 rfl)) rfl (hb hby Zf) ?_
      refine XS.land X10.here hx rfl (hb hby Ag) rfl ?_
      show Db p e below m T10 27 #[.val (.ref s0), .val (.long j0), .second, .val (.int 4)] [(.long (((j0.toUInt64 >>> ((32 : Int32) &&& 0x3f).toInt64.toUInt64).toInt64) &&& (255 : Int64)))] t
      refine XS.l2i X10.here hx rfl (hb hby Bg) rfl ?_
      refine XS.i2c X10.here hx rfl (hb hby Dg) rfl ?_
      exact k
    obtain ⟨fs, hr, hrun, hended, hW, hsame⟩ := X10.leave (v := some (.int (((((j0.toUInt64 >>> ((32 : Int32) &&& 0x3f).toInt64.toUInt64).toInt64) &&& (255 : Int64)).toInt32).toUInt32.toUInt16.toUInt32.toInt32))) (fun h => by rw [Bd.returns] at h; cases h)
    refine hNG ⟨_, _, k15 _ ?_, hrun, hended, _, _, rfl, ?_, ⟨_, rfl⟩, hW, hsame.mono (by decide) (by decide)⟩
    · exact retN X10 hx (t := .char) Bd.returns (by simp) (hb hby Gg) (by first | exact hr | (rw [Pa (Wh _)]; exact hr))
    · show D8 Z s0 v0 kv z0 vs0 cs0 j0 Wa Va Ua Ra Ia Da Ha Ba Ga Aa Ma La Bb h0 n0 _ T10.heap _
      rw [hp10]
      exact ⟨(((((j0.toUInt64 >>> ((32 : Int32) &&& 0x3f).toInt64.toUInt64).toInt64) &&& (255 : Int64)).toInt32).toUInt32.toUInt16.toUInt32.toInt32), rfl, N10, rfl, (Wh _)⟩
theorem Kaa (m : MethodId) (x0 : Addr) (x1 : Int64) (x2 : Int32)  : entryFrame m #[(.ref x0), (.long x1), (.int x2)] 4 = mkF m 0 #[.val (.ref x0), .val (.long x1), .second, .val (.int x2)] [] := by first | (simp [entryFrame, mkF, argsToLocals, Value.category]; done) | rfl
def G8 (Z : State) (s0 : Addr) (v0 : Addr) (kv : ClassId) (z0 : Int32) (vs0 : List Value) (cs0 : List Int32) (j0 : Int64) (Wa : Addr) (Va : Addr) (Ua : Addr) (Ra : Addr) (Ia : Addr) (Da : Addr) (Ha : Addr) (Ba : Addr) (Ga : Addr) (Aa : Addr) (Ma : Int32) (La : Value) (Bb : Addr) (h0 : Heap) (n0 : Nat) (v : Option Value) (h : Heap) (L : List Loc) : Prop := ∃ r : Int32, v = some (.int r) ∧ Fr n0 L ∧ h = h0 ∧ ¬ r < 0 ∧ ¬ (255 : Int32) < r
set_option maxRecDepth 65536 in
set_option maxHeartbeats 40000000 in
theorem Laa (l : Launch) (Z : State) (a0 : Array Value) (hw : ∀ d ∈ tables_1, d.before a0 Z = true) (ws : List Jvm.Cond) (s0 : Addr) (v0 : Addr) (kv : ClassId) (z0 : Int32) (vs0 : List Value) (cs0 : List Int32) (j0 : Int64) (Wa : Addr) (Va : Addr) (Ua : Addr) (Ra : Addr) (Ia : Addr) (Da : Addr) (Ha : Addr) (Ba : Addr) (Ga : Addr) (Aa : Addr) (Ma : Int32) (La : Value) (Bb : Addr) (h0 : Heap) (n0 : Nat) (O0 : Old Z n0 h0) (hE : EV Z Wa Va Ua Ra Ia Da Ha Ba Ga Aa Ma La Bb) (P0 : Exa Z h0 s0 "java/lang/String") (P1 : Fld Z h0 s0 "java/lang/String" "coder" "B" (.int 0)) (P2 : Fld Z h0 s0 "java/lang/String" "value" "[B" (.ref v0)) (P3 : Arv Z h0 v0 kv .byte z0 vs0 (.int 0)) (hcd : StrChars.Road.CodA cs0 0 z0 vs0) (hbd : ∀ c ∈ cs0, ¬ c < 0 ∧ ¬ (255 : Int32) < c) (hl2 : cs0.length ≤ 4000) :
    MetFree l Ug (head1 (Jvm.Cond.code Ug method_2_code 4 (some .char) :: ws) ({ frames := 4, cells := 0, slots := 0, locals := 53 } : Room)) (fun a U => a = #[(.ref s0), (.long j0), (.int 5)] ∧ Z.Warmed39 U.vm ∧ U.heap = h0) (fun _ _ _ _ _ => True) (fun _ U o U' => ∃ v L, o = .returned v ∧ G8 Z s0 v0 kv z0 vs0 cs0 j0 Wa Va Ua Ra Ia Da Ha Ba Ga Aa Ma La Bb h0 n0 v U'.heap L ∧ FrameEnd U o U' L ({ frames := 4, cells := 0, slots := 0, locals := 53 } : Room).cells ({ frames := 4, cells := 0, slots := 0, locals := 53 } : Room).slots) := by
  refine MetFree.of_bodySF (plainFor_of_name Ib) hisR ?_
  intro p e s m args below meth c s₁ Bd hml0 hP hK
  obtain ⟨rfl, hZ, hh⟩ := hP
  have hx := Bd.exec
  have hby := Bd.bytes
  have hml : c.maxLocals = 4 := hml0
  have hown : s.vm.findClass "com/example/entitlement_ledger/entitlementledger/model/AssigneeKindOfCollectionNamePinLaw" = some m.cls := findClass_of_methodNamed Bd.named
  have hnm := (name_of_methodNamed Bd.named Bd.method).1
  have X00 : Stand p l e ({ frames := 4, cells := 0, slots := 0, locals := 53 } : Room) s m #[(.ref s0), (.long j0), (.int 5)] below meth c s₁ [] 0 0 := Stand.of_body Bd
  have e00 : s₁.heap = h0 := by rw [← hh, Bd.state]; rfl
  have N00 := Fr.nil n0
  refine Classical.byContradiction fun hNG => ?_
  have K00 := Keep.refl h0 []
  have k00 : ∀ t, Db p e below m s₁ 0 #[.val (.ref s0), .val (.long j0), .second, .val (.int 5)] [] t → Kb p e below m s₁ #[(.ref s0), (.long j0), (.int 5)] 4 t := fun t k => castTop (Kaa m s0 j0 ((5 : Int32)) ) k
  obtain ⟨Ye, Ze, Ae, Be, Ue, Ve, Ke, Le, Dc, Wb, Ub, Vb, Bc, Yb, Pb, Rb, Ac, Zb, Lb, Mb, Hb, Gb, Hc, Gc, We, Re, Rc, De, Ab, Za, Ya⟩ := (id hE : EV Z Wa Va Ua Ra Ia Da Ha Ba Ga Aa Ma La Bb)
  obtain ⟨kw_USER_collectionName, Aw_USER_collectionName⟩ := Ab.arv
  obtain ⟨kw_GROUP_collectionName, Aw_GROUP_collectionName⟩ := Za.arv
  obtain ⟨kw_DEVICE_collectionName, Aw_DEVICE_collectionName⟩ := Ya.arv
  obtain ⟨cq10, kq10, q10a, q10b, q10c⟩ := isOf hZ e00 P0
  obtain ⟨_, _, ⟨T10, L10, k10, n10⟩, -, X10, ⟨Lc10, hQ10, l10, y10, z10⟩, st10⟩ := X00.virtualBack hx (y := Kh) (z := Kh) hown (mvT hZ (Ka hw 8 rfl)) (mvT hZ (Ka hw 9 rfl)) (notFace_of_selects (args := #[]) (mvT hZ (Ka hw 11 rfl))) (mvT hZ (Ka hw 11 rfl)) (mvT hZ (Ka hw 10 rfl)) (by decide) (StrChars.Road.lenW (W := 1) hZ (Bj hw) (kI := 4) (Ka hw 2 rfl) P0 P2 P1 P3 hcd (Zc _ hbd) (Hb.ext O0.2) Gb hl2 (by decide) (by decide)) q10a q10c (g := (mkF m 2 #[.val (.ref s0), .val (.long j0), .second, .val (.int 5)] [(.ref s0), (.int 5)])) rfl (by rw [hml]; rfl) (Steps.refl _) (argsL := []) (rest := [(.int 5)]) (lenOf Hk rfl) rfl (by show 2 * 0 + _ ≤ _; exact Nat.le_of_eq rfl) (hb hby Mg) (fun _ _ => ⟨rfl, e00, (by decide : 0 + 0 ≤ _), (by decide : 0 + 0 ≤ _)⟩)
  dsimp only [Pt.U, Pt.locs, Pt.cells, Pt.slots] at X10 l10 y10 z10 st10 hQ10
  subst l10 y10 z10
  obtain ⟨rfl, rfl, hp10⟩ := hQ10
  have N10q : Fr n0 ([] : List Loc) := Fr.nil n0
  have N10 := Fr.app N00 N10q
  have k11 : ∀ t, Db p e below m T10 5 #[.val (.ref s0), .val (.long j0), .second, .val (.int 5)] [(.int (Int32.ofNat cs0.length)), (.int 5)] t → Kb p e below m s₁ #[(.ref s0), (.long j0), (.int 5)] 4 t := by
    intro t k
    refine k00 t ?_
    refine XS.iloadN X00.here hx rfl (hb hby Kg) rfl ?_
    refine XS.aloadN X00.here hx rfl (hb hby Lg) rfl rfl ?_
    refine st10.trans ?_
    exact k
  by_cases hc12 : (5 : Int32) < (Int32.ofNat cs0.length)
  · obtain ⟨cq13, kq13, q13a, q13b, q13c⟩ := isOf hZ hp10 P0
    obtain ⟨_, _, ⟨T13, L13, k13, n13⟩, -, X13, ⟨Lc13, hQ13, l13, y13, z13⟩, st13⟩ := X10.virtualBack hx (y := Li) (z := Li) hown (mvT hZ (Ka hw 26 rfl)) (mvT hZ (Ka hw 27 rfl)) (notFace_of_selects (args := #[]) (mvT hZ (Ka hw 29 rfl))) (mvT hZ (Ka hw 29 rfl)) (mvT hZ (Ka hw 28 rfl)) (by decide) (StrChars.Road.chN (W := 0) hZ (Kk hw) (kI := 4) (Ka hw 2 rfl) (i := 5) P0 P2 P1 P3 hcd (Zc _ hbd) (Hb.ext O0.2) Gb (Hc.ext O0.2) Gc hl2 (Lk hl2 hc12 5 (by decide)) (by decide) (by decide) (by decide)) q13a q13c (g := (mkF m 10 #[.val (.ref s0), .val (.long j0), .second, .val (.int 5)] [(.int 5), (.ref s0)])) rfl (by rw [hml]; rfl) (Steps.refl _) (argsL := [(.int 5)]) (rest := []) (lenOf Mk rfl) rfl (by show 2 * 0 + _ ≤ _; exact Nat.le_of_eq rfl) (hb hby Kf) (fun _ _ => ⟨rfl, hp10, (by decide : 0 + 0 ≤ _), (by decide : 0 + 0 ≤ _)⟩)
    dsimp only [Pt.U, Pt.locs, Pt.cells, Pt.slots] at X13 l13 y13 z13 st13 hQ13
    subst l13 y13 z13
    obtain ⟨rfl, rfl, hp13⟩ := hQ13
    have N13q : Fr n0 ([] : List Loc) := Fr.nil n0
    have N13 := Fr.app N10 N13q
    have k14 : ∀ t, Db p e below m T13 13 #[.val (.ref s0), .val (.long j0), .second, .val (.int 5)] [(.int (cs0.getD 5 0))] t → Kb p e below m s₁ #[(.ref s0), (.long j0), (.int 5)] 4 t := by
      intro t k
      refine k11 t ?_
      refine XS.icmpNo X10.here hx rfl (hb hby Yd) rfl (tlt hc12).2.1 ?_
      refine XS.aloadN X10.here hx rfl (hb hby Pg) rfl rfl ?_
      refine XS.iloadN X10.here hx rfl (hb hby Rg) rfl ?_
      refine st13.trans ?_
      exact k
    obtain ⟨fs, hr, hrun, hended, hW, hsame⟩ := X13.leave (v := some (.int (cs0.getD 5 0))) (fun h => by rw [Bd.returns] at h; cases h)
    refine hNG ⟨_, _, k14 _ ?_, hrun, hended, _, _, rfl, ?_, ⟨_, rfl⟩, hW, hsame.mono (by decide) (by decide)⟩
    · exact retN X13 hx (t := .char) Bd.returns (by simp) (hb hby Lf) (by first | exact hr | (rw [Pa (Ki hbd 5)]; exact hr))
    · show G8 Z s0 v0 kv z0 vs0 cs0 j0 Wa Va Ua Ra Ia Da Ha Ba Ga Aa Ma La Bb h0 n0 _ T13.heap _
      rw [hp13]
      exact ⟨(cs0.getD 5 0), rfl, N13, rfl, (Ki hbd 5)⟩
  · have k15 : ∀ t, Db p e below m T10 29 #[.val (.ref s0), .val (.long j0), .second, .val (.int 5)] [(.int (((((j0.toUInt64 >>> ((40 : Int32) &&& 0x3f).toInt64.toUInt64).toInt64) &&& (255 : Int64)).toInt32).toUInt32.toUInt16.toUInt32.toInt32))] t → Kb p e below m s₁ #[(.ref s0), (.long j0), (.int 5)] 4 t := by
      intro t k
      refine k11 t ?_
      refine XS.icmpYes X10.here hx rfl (pc0 := 5) (pc' := 14) rfl (hb hby Yd) rfl (flt hc12).2.1 (by decide) (by decide) ?_
      refine XS.lloadN X10.here hx rfl (hb hby Mf) rfl ?_
      refine XS.bipush X10.here hx rfl (hb hby Pf) ?_
      refine XS.iloadN X10.here hx rfl (hb hby Rf) rfl ?_
      refine XS.bipush X10.here hx rfl (hb hby Uf) ?_
      refine XS.iand X10.here hx rfl (hb hby Vf) rfl ?_
      show Db p e below m T10 21 #[.val (.ref s0), .val (.long j0), .second, .val (.int 5)] [(.int ((5 : Int32) &&& (7 : Int32))), (.int 8), (.long j0)] t
      rw [show ((5 : Int32) &&& (7 : Int32)) = (5 : Int32) from by decide]
      refine XS.imul X10.here hx rfl (hb hby Wf) rfl ?_
      show Db p e below m T10 22 #[.val (.ref s0), .val (.long j0), .second, .val (.int 5)] [(.int ((8 : Int32) * (5 : Int32))), (.long j0)] t
      rw [show ((8 : Int32) * (5 : Int32)) = (40 : Int32) from by decide]
      refine XS.lushr X10.here hx rfl (hb hby Yf) rfl ?_
      refine X10.ldc2J hx hown (mvT hZ (Ka hw 48 rfl)) rfl (hb hby Zf) ?_
      refine XS.land X10.here hx rfl (hb hby Ag) rfl ?_
      show Db p e below m T10 27 #[.val (.ref s0), .val (.long j0), .second, .val (.int 5)] [(.long (((j0.toUInt64 >>> ((40 : Int32) &&& 0x3f).toInt64.toUInt64).toInt64) &&& (255 : Int64)))] t
      refine XS.l2i X10.here hx rfl (hb hby Bg) rfl ?_
      refine XS.i2c X10.here hx rfl (hb hby Dg) rfl ?_
      exact k
    obtain ⟨fs, hr, hrun, hended, hW, hsame⟩ := X10.leave (v := some (.int (((((j0.toUInt64 >>> ((40 : Int32) &&& 0x3f).toInt64.toUInt64).toInt64) &&& (255 : Int64)).toInt32).toUInt32.toUInt16.toUInt32.toInt32))) (fun h => by rw [Bd.returns] at h; cases h)
    refine hNG ⟨_, _, k15 _ ?_, hrun, hended, _, _, rfl, ?_, ⟨_, rfl⟩, hW, hsame.mono (by decide) (by decide)⟩
    · exact retN X10 hx (t := .char) Bd.returns (by simp) (hb hby Gg) (by first | exact hr | (rw [Pa (Wh _)]; exact hr))
    · show G8 Z s0 v0 kv z0 vs0 cs0 j0 Wa Va Ua Ra Ia Da Ha Ba Ga Aa Ma La Bb h0 n0 _ T10.heap _
      rw [hp10]
      exact ⟨(((((j0.toUInt64 >>> ((40 : Int32) &&& 0x3f).toInt64.toUInt64).toInt64) &&& (255 : Int64)).toInt32).toUInt32.toUInt16.toUInt32.toInt32), rfl, N10, rfl, (Wh _)⟩
theorem Maa (m : MethodId) (x0 : Addr) (x1 : Int64) (x2 : Int32)  : entryFrame m #[(.ref x0), (.long x1), (.int x2)] 4 = mkF m 0 #[.val (.ref x0), .val (.long x1), .second, .val (.int x2)] [] := by first | (simp [entryFrame, mkF, argsToLocals, Value.category]; done) | rfl
def H8 (Z : State) (s0 : Addr) (v0 : Addr) (kv : ClassId) (z0 : Int32) (vs0 : List Value) (cs0 : List Int32) (j0 : Int64) (Wa : Addr) (Va : Addr) (Ua : Addr) (Ra : Addr) (Ia : Addr) (Da : Addr) (Ha : Addr) (Ba : Addr) (Ga : Addr) (Aa : Addr) (Ma : Int32) (La : Value) (Bb : Addr) (h0 : Heap) (n0 : Nat) (v : Option Value) (h : Heap) (L : List Loc) : Prop := ∃ r : Int32, v = some (.int r) ∧ Fr n0 L ∧ h = h0 ∧ ¬ r < 0 ∧ ¬ (255 : Int32) < r
set_option maxRecDepth 65536 in
set_option maxHeartbeats 40000000 in
theorem Paa (l : Launch) (Z : State) (a0 : Array Value) (hw : ∀ d ∈ tables_1, d.before a0 Z = true) (ws : List Jvm.Cond) (s0 : Addr) (v0 : Addr) (kv : ClassId) (z0 : Int32) (vs0 : List Value) (cs0 : List Int32) (j0 : Int64) (Wa : Addr) (Va : Addr) (Ua : Addr) (Ra : Addr) (Ia : Addr) (Da : Addr) (Ha : Addr) (Ba : Addr) (Ga : Addr) (Aa : Addr) (Ma : Int32) (La : Value) (Bb : Addr) (h0 : Heap) (n0 : Nat) (O0 : Old Z n0 h0) (hE : EV Z Wa Va Ua Ra Ia Da Ha Ba Ga Aa Ma La Bb) (P0 : Exa Z h0 s0 "java/lang/String") (P1 : Fld Z h0 s0 "java/lang/String" "coder" "B" (.int 0)) (P2 : Fld Z h0 s0 "java/lang/String" "value" "[B" (.ref v0)) (P3 : Arv Z h0 v0 kv .byte z0 vs0 (.int 0)) (hcd : StrChars.Road.CodA cs0 0 z0 vs0) (hbd : ∀ c ∈ cs0, ¬ c < 0 ∧ ¬ (255 : Int32) < c) (hl2 : cs0.length ≤ 4000) :
    MetFree l Ug (head1 (Jvm.Cond.code Ug method_2_code 4 (some .char) :: ws) ({ frames := 4, cells := 0, slots := 0, locals := 53 } : Room)) (fun a U => a = #[(.ref s0), (.long j0), (.int 6)] ∧ Z.Warmed39 U.vm ∧ U.heap = h0) (fun _ _ _ _ _ => True) (fun _ U o U' => ∃ v L, o = .returned v ∧ H8 Z s0 v0 kv z0 vs0 cs0 j0 Wa Va Ua Ra Ia Da Ha Ba Ga Aa Ma La Bb h0 n0 v U'.heap L ∧ FrameEnd U o U' L ({ frames := 4, cells := 0, slots := 0, locals := 53 } : Room).cells ({ frames := 4, cells := 0, slots := 0, locals := 53 } : Room).slots) := by
  refine MetFree.of_bodySF (plainFor_of_name Ib) hisR ?_
  intro p e s m args below meth c s₁ Bd hml0 hP hK
  obtain ⟨rfl, hZ, hh⟩ := hP
  have hx := Bd.exec
  have hby := Bd.bytes
  have hml : c.maxLocals = 4 := hml0
  have hown : s.vm.findClass "com/example/entitlement_ledger/entitlementledger/model/AssigneeKindOfCollectionNamePinLaw" = some m.cls := findClass_of_methodNamed Bd.named
  have hnm := (name_of_methodNamed Bd.named Bd.method).1
  have X00 : Stand p l e ({ frames := 4, cells := 0, slots := 0, locals := 53 } : Room) s m #[(.ref s0), (.long j0), (.int 6)] below meth c s₁ [] 0 0 := Stand.of_body Bd
  have e00 : s₁.heap = h0 := by rw [← hh, Bd.state]; rfl
  have N00 := Fr.nil n0
  refine Classical.byContradiction fun hNG => ?_
  have K00 := Keep.refl h0 []
  have k00 : ∀ t, Db p e below m s₁ 0 #[.val (.ref s0), .val (.long j0), .second, .val (.int 6)] [] t → Kb p e below m s₁ #[(.ref s0), (.long j0), (.int 6)] 4 t := fun t k => castTop (Maa m s0 j0 ((6 : Int32)) ) k
  obtain ⟨Ye, Ze, Ae, Be, Ue, Ve, Ke, Le, Dc, Wb, Ub, Vb, Bc, Yb, Pb, Rb, Ac, Zb, Lb, Mb, Hb, Gb, Hc, Gc, We, Re, Rc, De, Ab, Za, Ya⟩ := (id hE : EV Z Wa Va Ua Ra Ia Da Ha Ba Ga Aa Ma La Bb)
  obtain ⟨kw_USER_collectionName, Aw_USER_collectionName⟩ := Ab.arv
  obtain ⟨kw_GROUP_collectionName, Aw_GROUP_collectionName⟩ := Za.arv
  obtain ⟨kw_DEVICE_collectionName, Aw_DEVICE_collectionName⟩ := Ya.arv
  obtain ⟨cq10, kq10, q10a, q10b, q10c⟩ := isOf hZ e00 P0
  obtain ⟨_, _, ⟨T10, L10, k10, n10⟩, -, X10, ⟨Lc10, hQ10, l10, y10, z10⟩, st10⟩ := X00.virtualBack hx (y := Kh) (z := Kh) hown (mvT hZ (Ka hw 8 rfl)) (mvT hZ (Ka hw 9 rfl)) (notFace_of_selects (args := #[]) (mvT hZ (Ka hw 11 rfl))) (mvT hZ (Ka hw 11 rfl)) (mvT hZ (Ka hw 10 rfl)) (by decide) (StrChars.Road.lenW (W := 1) hZ (Bj hw) (kI := 4) (Ka hw 2 rfl) P0 P2 P1 P3 hcd (Zc _ hbd) (Hb.ext O0.2) Gb hl2 (by decide) (by decide)) q10a q10c (g := (mkF m 2 #[.val (.ref s0), .val (.long j0), .second, .val (.int 6)] [(.ref s0), (.int 6)])) rfl (by rw [hml]; rfl) (Steps.refl _) (argsL := []) (rest := [(.int 6)]) (lenOf Hk rfl) rfl (by show 2 * 0 + _ ≤ _; exact Nat.le_of_eq rfl) (hb hby Mg) (fun _ _ => ⟨rfl, e00, (by decide : 0 + 0 ≤ _), (by decide : 0 + 0 ≤ _)⟩)
  dsimp only [Pt.U, Pt.locs, Pt.cells, Pt.slots] at X10 l10 y10 z10 st10 hQ10
  subst l10 y10 z10
  obtain ⟨rfl, rfl, hp10⟩ := hQ10
  have N10q : Fr n0 ([] : List Loc) := Fr.nil n0
  have N10 := Fr.app N00 N10q
  have k11 : ∀ t, Db p e below m T10 5 #[.val (.ref s0), .val (.long j0), .second, .val (.int 6)] [(.int (Int32.ofNat cs0.length)), (.int 6)] t → Kb p e below m s₁ #[(.ref s0), (.long j0), (.int 6)] 4 t := by
    intro t k
    refine k00 t ?_
    refine XS.iloadN X00.here hx rfl (hb hby Kg) rfl ?_
    refine XS.aloadN X00.here hx rfl (hb hby Lg) rfl rfl ?_
    refine st10.trans ?_
    exact k
  by_cases hc12 : (6 : Int32) < (Int32.ofNat cs0.length)
  · obtain ⟨cq13, kq13, q13a, q13b, q13c⟩ := isOf hZ hp10 P0
    obtain ⟨_, _, ⟨T13, L13, k13, n13⟩, -, X13, ⟨Lc13, hQ13, l13, y13, z13⟩, st13⟩ := X10.virtualBack hx (y := Li) (z := Li) hown (mvT hZ (Ka hw 26 rfl)) (mvT hZ (Ka hw 27 rfl)) (notFace_of_selects (args := #[]) (mvT hZ (Ka hw 29 rfl))) (mvT hZ (Ka hw 29 rfl)) (mvT hZ (Ka hw 28 rfl)) (by decide) (StrChars.Road.chN (W := 0) hZ (Kk hw) (kI := 4) (Ka hw 2 rfl) (i := 6) P0 P2 P1 P3 hcd (Zc _ hbd) (Hb.ext O0.2) Gb (Hc.ext O0.2) Gc hl2 (Lk hl2 hc12 6 (by decide)) (by decide) (by decide) (by decide)) q13a q13c (g := (mkF m 10 #[.val (.ref s0), .val (.long j0), .second, .val (.int 6)] [(.int 6), (.ref s0)])) rfl (by rw [hml]; rfl) (Steps.refl _) (argsL := [(.int 6)]) (rest := []) (lenOf Mk rfl) rfl (by show 2 * 0 + _ ≤ _; exact Nat.le_of_eq rfl) (hb hby Kf) (fun _ _ => ⟨rfl, hp10, (by decide : 0 + 0 ≤ _), (by decide : 0 + 0 ≤ _)⟩)
    dsimp only [Pt.U, Pt.locs, Pt.cells, Pt.slots] at X13 l13 y13 z13 st13 hQ13
    subst l13 y13 z13
    obtain ⟨rfl, rfl, hp13⟩ := hQ13
    have N13q : Fr n0 ([] : List Loc) := Fr.nil n0
    have N13 := Fr.app N10 N13q
    have k14 : ∀ t, Db p e below m T13 13 #[.val (.ref s0), .val (.long j0), .second, .val (.int 6)] [(.int (cs0.getD 6 0))] t → Kb p e below m s₁ #[(.ref s0), (.long j0), (.int 6)] 4 t := by
      intro t k
      refine k11 t ?_
      refine XS.icmpNo X10.here hx rfl (hb hby Yd) rfl (tlt hc12).2.1 ?_
      refine XS.aloadN X10.here hx rfl (hb hby Pg) rfl rfl ?_
      refine XS.iloadN X10.here hx rfl (hb hby Rg) rfl ?_
      refine st13.trans ?_
      exact k
    obtain ⟨fs, hr, hrun, hended, hW, hsame⟩ := X13.leave (v := some (.int (cs0.getD 6 0))) (fun h => by rw [Bd.returns] at h; cases h)
    refine hNG ⟨_, _, k14 _ ?_, hrun, hended, _, _, rfl, ?_, ⟨_, rfl⟩, hW, hsame.mono (by decide) (by decide)⟩
    · exact retN X13 hx (t := .char) Bd.returns (by simp) (hb hby Lf) (by first | exact hr | (rw [Pa (Ki hbd 6)]; exact hr))
    · show H8 Z s0 v0 kv z0 vs0 cs0 j0 Wa Va Ua Ra Ia Da Ha Ba Ga Aa Ma La Bb h0 n0 _ T13.heap _
      rw [hp13]
      exact ⟨(cs0.getD 6 0), rfl, N13, rfl, (Ki hbd 6)⟩
  · have k15 : ∀ t, Db p e below m T10 29 #[.val (.ref s0), .val (.long j0), .second, .val (.int 6)] [(.int (((((j0.toUInt64 >>> ((48 : Int32) &&& 0x3f).toInt64.toUInt64).toInt64) &&& (255 : Int64)).toInt32).toUInt32.toUInt16.toUInt32.toInt32))] t → Kb p e below m s₁ #[(.ref s0), (.long j0), (.int 6)] 4 t := by
      intro t k
      refine k11 t ?_
      refine XS.icmpYes X10.here hx rfl (pc0 := 5) (pc' := 14) rfl (hb hby Yd) rfl (flt hc12).2.1 (by decide) (by decide) ?_
      refine XS.lloadN X10.here hx rfl (hb hby Mf) rfl ?_
      refine XS.bipush X10.here hx rfl (hb hby Pf) ?_
      refine XS.iloadN X10.here hx rfl (hb hby Rf) rfl ?_
      refine XS.bipush X10.here hx rfl (hb hby Uf) ?_
      refine XS.iand X10.here hx rfl (hb hby Vf) rfl ?_
      show Db p e below m T10 21 #[.val (.ref s0), .val (.long j0), .second, .val (.int 6)] [(.int ((6 : Int32) &&& (7 : Int32))), (.int 8), (.long j0)] t
      rw [show ((6 : Int32) &&& (7 : Int32)) = (6 : Int32) from by decide]
      refine XS.imul X10.here hx rfl (hb hby Wf) rfl ?_
      show Db p e below m T10 22 #[.val (.ref s0), .val (.long j0), .second, .val (.int 6)] [(.int ((8 : Int32) * (6 : Int32))), (.long j0)] t
      rw [show ((8 : Int32) * (6 : Int32)) = (48 : Int32) from by decide]
      refine XS.lushr X10.here hx rfl (hb hby Yf) rfl ?_
      refine X10.ldc2J hx hown (mvT hZ (Ka hw 48 rfl)) rfl (hb hby Zf) ?_
      refine XS.land X10.here hx rfl (hb hby Ag) rfl ?_
      show Db p e below m T10 27 #[.val (.ref s0), .val (.long j0), .second, .val (.int 6)] [(.long (((j0.toUInt64 >>> ((48 : Int32) &&& 0x3f).toInt64.toUInt64).toInt64) &&& (255 : Int64)))] t
      refine XS.l2i X10.here hx rfl (hb hby Bg) rfl ?_
      refine XS.i2c X10.here hx rfl (hb hby Dg) rfl ?_
      exact k
    obtain ⟨fs, hr, hrun, hended, hW, hsame⟩ := X10.leave (v := some (.int (((((j0.toUInt64 >>> ((48 : Int32) &&& 0x3f).toInt64.toUInt64).toInt64) &&& (255 : Int64)).toInt32).toUInt32.toUInt16.toUInt32.toInt32))) (fun h => by rw [Bd.returns] at h; cases h)
    refine hNG ⟨_, _, k15 _ ?_, hrun, hended, _, _, rfl, ?_, ⟨_, rfl⟩, hW, hsame.mono (by decide) (by decide)⟩
    · exact retN X10 hx (t := .char) Bd.returns (by simp) (hb hby Gg) (by first | exact hr | (rw [Pa (Wh _)]; exact hr))
    · show H8 Z s0 v0 kv z0 vs0 cs0 j0 Wa Va Ua Ra Ia Da Ha Ba Ga Aa Ma La Bb h0 n0 _ T10.heap _
      rw [hp10]
      exact ⟨(((((j0.toUInt64 >>> ((48 : Int32) &&& 0x3f).toInt64.toUInt64).toInt64) &&& (255 : Int64)).toInt32).toUInt32.toUInt16.toUInt32.toInt32), rfl, N10, rfl, (Wh _)⟩
theorem Raa (m : MethodId) (x0 : Addr) (x1 : Int64) (x2 : Int32)  : entryFrame m #[(.ref x0), (.long x1), (.int x2)] 4 = mkF m 0 #[.val (.ref x0), .val (.long x1), .second, .val (.int x2)] [] := by first | (simp [entryFrame, mkF, argsToLocals, Value.category]; done) | rfl
def I8 (Z : State) (s0 : Addr) (v0 : Addr) (kv : ClassId) (z0 : Int32) (vs0 : List Value) (cs0 : List Int32) (j0 : Int64) (Wa : Addr) (Va : Addr) (Ua : Addr) (Ra : Addr) (Ia : Addr) (Da : Addr) (Ha : Addr) (Ba : Addr) (Ga : Addr) (Aa : Addr) (Ma : Int32) (La : Value) (Bb : Addr) (h0 : Heap) (n0 : Nat) (v : Option Value) (h : Heap) (L : List Loc) : Prop := ∃ r : Int32, v = some (.int r) ∧ Fr n0 L ∧ h = h0 ∧ ¬ r < 0 ∧ ¬ (255 : Int32) < r
set_option maxRecDepth 65536 in
set_option maxHeartbeats 40000000 in
theorem Uaa (l : Launch) (Z : State) (a0 : Array Value) (hw : ∀ d ∈ tables_1, d.before a0 Z = true) (ws : List Jvm.Cond) (s0 : Addr) (v0 : Addr) (kv : ClassId) (z0 : Int32) (vs0 : List Value) (cs0 : List Int32) (j0 : Int64) (Wa : Addr) (Va : Addr) (Ua : Addr) (Ra : Addr) (Ia : Addr) (Da : Addr) (Ha : Addr) (Ba : Addr) (Ga : Addr) (Aa : Addr) (Ma : Int32) (La : Value) (Bb : Addr) (h0 : Heap) (n0 : Nat) (O0 : Old Z n0 h0) (hE : EV Z Wa Va Ua Ra Ia Da Ha Ba Ga Aa Ma La Bb) (P0 : Exa Z h0 s0 "java/lang/String") (P1 : Fld Z h0 s0 "java/lang/String" "coder" "B" (.int 0)) (P2 : Fld Z h0 s0 "java/lang/String" "value" "[B" (.ref v0)) (P3 : Arv Z h0 v0 kv .byte z0 vs0 (.int 0)) (hcd : StrChars.Road.CodA cs0 0 z0 vs0) (hbd : ∀ c ∈ cs0, ¬ c < 0 ∧ ¬ (255 : Int32) < c) (hl2 : cs0.length ≤ 4000) :
    MetFree l Ug (head1 (Jvm.Cond.code Ug method_2_code 4 (some .char) :: ws) ({ frames := 4, cells := 0, slots := 0, locals := 53 } : Room)) (fun a U => a = #[(.ref s0), (.long j0), (.int 7)] ∧ Z.Warmed39 U.vm ∧ U.heap = h0) (fun _ _ _ _ _ => True) (fun _ U o U' => ∃ v L, o = .returned v ∧ I8 Z s0 v0 kv z0 vs0 cs0 j0 Wa Va Ua Ra Ia Da Ha Ba Ga Aa Ma La Bb h0 n0 v U'.heap L ∧ FrameEnd U o U' L ({ frames := 4, cells := 0, slots := 0, locals := 53 } : Room).cells ({ frames := 4, cells := 0, slots := 0, locals := 53 } : Room).slots) := by
  refine MetFree.of_bodySF (plainFor_of_name Ib) hisR ?_
  intro p e s m args below meth c s₁ Bd hml0 hP hK
  obtain ⟨rfl, hZ, hh⟩ := hP
  have hx := Bd.exec
  have hby := Bd.bytes
  have hml : c.maxLocals = 4 := hml0
  have hown : s.vm.findClass "com/example/entitlement_ledger/entitlementledger/model/AssigneeKindOfCollectionNamePinLaw" = some m.cls := findClass_of_methodNamed Bd.named
  have hnm := (name_of_methodNamed Bd.named Bd.method).1
  have X00 : Stand p l e ({ frames := 4, cells := 0, slots := 0, locals := 53 } : Room) s m #[(.ref s0), (.long j0), (.int 7)] below meth c s₁ [] 0 0 := Stand.of_body Bd
  have e00 : s₁.heap = h0 := by rw [← hh, Bd.state]; rfl
  have N00 := Fr.nil n0
  refine Classical.byContradiction fun hNG => ?_
  have K00 := Keep.refl h0 []
  have k00 : ∀ t, Db p e below m s₁ 0 #[.val (.ref s0), .val (.long j0), .second, .val (.int 7)] [] t → Kb p e below m s₁ #[(.ref s0), (.long j0), (.int 7)] 4 t := fun t k => castTop (Raa m s0 j0 ((7 : Int32)) ) k
  obtain ⟨Ye, Ze, Ae, Be, Ue, Ve, Ke, Le, Dc, Wb, Ub, Vb, Bc, Yb, Pb, Rb, Ac, Zb, Lb, Mb, Hb, Gb, Hc, Gc, We, Re, Rc, De, Ab, Za, Ya⟩ := (id hE : EV Z Wa Va Ua Ra Ia Da Ha Ba Ga Aa Ma La Bb)
  obtain ⟨kw_USER_collectionName, Aw_USER_collectionName⟩ := Ab.arv
  obtain ⟨kw_GROUP_collectionName, Aw_GROUP_collectionName⟩ := Za.arv
  obtain ⟨kw_DEVICE_collectionName, Aw_DEVICE_collectionName⟩ := Ya.arv
  obtain ⟨cq10, kq10, q10a, q10b, q10c⟩ := isOf hZ e00 P0
  obtain ⟨_, _, ⟨T10, L10, k10, n10⟩, -, X10, ⟨Lc10, hQ10, l10, y10, z10⟩, st10⟩ := X00.virtualBack hx (y := Kh) (z := Kh) hown (mvT hZ (Ka hw 8 rfl)) (mvT hZ (Ka hw 9 rfl)) (notFace_of_selects (args := #[]) (mvT hZ (Ka hw 11 rfl))) (mvT hZ (Ka hw 11 rfl)) (mvT hZ (Ka hw 10 rfl)) (by decide) (StrChars.Road.lenW (W := 1) hZ (Bj hw) (kI := 4) (Ka hw 2 rfl) P0 P2 P1 P3 hcd (Zc _ hbd) (Hb.ext O0.2) Gb hl2 (by decide) (by decide)) q10a q10c (g := (mkF m 2 #[.val (.ref s0), .val (.long j0), .second, .val (.int 7)] [(.ref s0), (.int 7)])) rfl (by rw [hml]; rfl) (Steps.refl _) (argsL := []) (rest := [(.int 7)]) (lenOf Hk rfl) rfl (by show 2 * 0 + _ ≤ _; exact Nat.le_of_eq rfl) (hb hby Mg) (fun _ _ => ⟨rfl, e00, (by decide : 0 + 0 ≤ _), (by decide : 0 + 0 ≤ _)⟩)
  dsimp only [Pt.U, Pt.locs, Pt.cells, Pt.slots] at X10 l10 y10 z10 st10 hQ10
  subst l10 y10 z10
  obtain ⟨rfl, rfl, hp10⟩ := hQ10
  have N10q : Fr n0 ([] : List Loc) := Fr.nil n0
  have N10 := Fr.app N00 N10q
  have k11 : ∀ t, Db p e below m T10 5 #[.val (.ref s0), .val (.long j0), .second, .val (.int 7)] [(.int (Int32.ofNat cs0.length)), (.int 7)] t → Kb p e below m s₁ #[(.ref s0), (.long j0), (.int 7)] 4 t := by
    intro t k
    refine k00 t ?_
    refine XS.iloadN X00.here hx rfl (hb hby Kg) rfl ?_
    refine XS.aloadN X00.here hx rfl (hb hby Lg) rfl rfl ?_
    refine st10.trans ?_
    exact k
  by_cases hc12 : (7 : Int32) < (Int32.ofNat cs0.length)
  · obtain ⟨cq13, kq13, q13a, q13b, q13c⟩ := isOf hZ hp10 P0
    obtain ⟨_, _, ⟨T13, L13, k13, n13⟩, -, X13, ⟨Lc13, hQ13, l13, y13, z13⟩, st13⟩ := X10.virtualBack hx (y := Li) (z := Li) hown (mvT hZ (Ka hw 26 rfl)) (mvT hZ (Ka hw 27 rfl)) (notFace_of_selects (args := #[]) (mvT hZ (Ka hw 29 rfl))) (mvT hZ (Ka hw 29 rfl)) (mvT hZ (Ka hw 28 rfl)) (by decide) (StrChars.Road.chN (W := 0) hZ (Kk hw) (kI := 4) (Ka hw 2 rfl) (i := 7) P0 P2 P1 P3 hcd (Zc _ hbd) (Hb.ext O0.2) Gb (Hc.ext O0.2) Gc hl2 (Lk hl2 hc12 7 (by decide)) (by decide) (by decide) (by decide)) q13a q13c (g := (mkF m 10 #[.val (.ref s0), .val (.long j0), .second, .val (.int 7)] [(.int 7), (.ref s0)])) rfl (by rw [hml]; rfl) (Steps.refl _) (argsL := [(.int 7)]) (rest := []) (lenOf Mk rfl) rfl (by show 2 * 0 + _ ≤ _; exact Nat.le_of_eq rfl) (hb hby Kf) (fun _ _ => ⟨rfl, hp10, (by decide : 0 + 0 ≤ _), (by decide : 0 + 0 ≤ _)⟩)
    dsimp only [Pt.U, Pt.locs, Pt.cells, Pt.slots] at X13 l13 y13 z13 st13 hQ13
    subst l13 y13 z13
    obtain ⟨rfl, rfl, hp13⟩ := hQ13
    have N13q : Fr n0 ([] : List Loc) := Fr.nil n0
    have N13 := Fr.app N10 N13q
    have k14 : ∀ t, Db p e below m T13 13 #[.val (.ref s0), .val (.long j0), .second, .val (.int 7)] [(.int (cs0.getD 7 0))] t → Kb p e below m s₁ #[(.ref s0), (.long j0), (.int 7)] 4 t := by
      intro t k
      refine k11 t ?_
      refine XS.icmpNo X10.here hx rfl (hb hby Yd) rfl (tlt hc12).2.1 ?_
      refine XS.aloadN X10.here hx rfl (hb hby Pg) rfl rfl ?_
      refine XS.iloadN X10.here hx rfl (hb hby Rg) rfl ?_
      refine st13.trans ?_
      exact k
    obtain ⟨fs, hr, hrun, hended, hW, hsame⟩ := X13.leave (v := some (.int (cs0.getD 7 0))) (fun h => by rw [Bd.returns] at h; cases h)
    refine hNG ⟨_, _, k14 _ ?_, hrun, hended, _, _, rfl, ?_, ⟨_, rfl⟩, hW, hsame.mono (by decide) (by decide)⟩
    · exact retN X13 hx (t := .char) Bd.returns (by simp) (hb hby Lf) (by first | exact hr | (rw [Pa (Ki hbd 7)]; exact hr))
    · show I8 Z s0 v0 kv z0 vs0 cs0 j0 Wa Va Ua Ra Ia Da Ha Ba Ga Aa Ma La Bb h0 n0 _ T13.heap _
      rw [hp13]
      exact ⟨(cs0.getD 7 0), rfl, N13, rfl, (Ki hbd 7)⟩
  · have k15 : ∀ t, Db p e below m T10 29 #[.val (.ref s0), .val (.long j0), .second, .val (.int 7)] [(.int (((((j0.toUInt64 >>> ((56 : Int32) &&& 0x3f).toInt64.toUInt64).toInt64) &&& (255 : Int64)).toInt32).toUInt32.toUInt16.toUInt32.toInt32))] t → Kb p e below m s₁ #[(.ref s0), (.long j0), (.int 7)] 4 t := by
      intro t k
      refine k11 t ?_
      refine XS.icmpYes X10.here hx rfl (pc0 := 5) (pc' := 14) rfl (hb hby Yd) rfl (flt hc12).2.1 (by decide) (by decide) ?_
      refine XS.lloadN X10.here hx rfl (hb hby Mf) rfl ?_
      refine XS.bipush X10.here hx rfl (hb hby Pf) ?_
      refine XS.iloadN X10.here hx rfl (hb hby Rf) rfl ?_
      refine XS.bipush X10.here hx rfl (hb hby Uf) ?_
      refine XS.iand X10.here hx rfl (hb hby Vf) rfl ?_
      show Db p e below m T10 21 #[.val (.ref s0), .val (.long j0), .second, .val (.int 7)] [(.int ((7 : Int32) &&& (7 : Int32))), (.int 8), (.long j0)] t
      rw [show ((7 : Int32) &&& (7 : Int32)) = (7 : Int32) from by decide]
      refine XS.imul X10.here hx rfl (hb hby Wf) rfl ?_
      show Db p e below m T10 22 #[.val (.ref s0), .val (.long j0), .second, .val (.int 7)] [(.int ((8 : Int32) * (7 : Int32))), (.long j0)] t
      rw [show ((8 : Int32) * (7 : Int32)) = (56 : Int32) from by decide]
      refine XS.lushr X10.here hx rfl (hb hby Yf) rfl ?_
      refine X10.ldc2J hx hown (mvT hZ (Ka hw 48 rfl)) rfl (hb hby Zf) ?_
      refine XS.land X10.here hx rfl (hb hby Ag) rfl ?_
      show Db p e below m T10 27 #[.val (.ref s0), .val (.long j0), .second, .val (.int 7)] [(.long (((j0.toUInt64 >>> ((56 : Int32) &&& 0x3f).toInt64.toUInt64).toInt64) &&& (255 : Int64)))] t
      refine XS.l2i X10.here hx rfl (hb hby Bg) rfl ?_
      refine XS.i2c X10.here hx rfl (hb hby Dg) rfl ?_
      exact k
    obtain ⟨fs, hr, hrun, hended, hW, hsame⟩ := X10.leave (v := some (.int (((((j0.toUInt64 >>> ((56 : Int32) &&& 0x3f).toInt64.toUInt64).toInt64) &&& (255 : Int64)).toInt32).toUInt32.toUInt16.toUInt32.toInt32))) (fun h => by rw [Bd.returns] at h; cases h)
    refine hNG ⟨_, _, k15 _ ?_, hrun, hended, _, _, rfl, ?_, ⟨_, rfl⟩, hW, hsame.mono (by decide) (by decide)⟩
    · exact retN X10 hx (t := .char) Bd.returns (by simp) (hb hby Gg) (by first | exact hr | (rw [Pa (Wh _)]; exact hr))
    · show I8 Z s0 v0 kv z0 vs0 cs0 j0 Wa Va Ua Ra Ia Da Ha Ba Ga Aa Ma La Bb h0 n0 _ T10.heap _
      rw [hp10]
      exact ⟨(((((j0.toUInt64 >>> ((56 : Int32) &&& 0x3f).toInt64.toUInt64).toInt64) &&& (255 : Int64)).toInt32).toUInt32.toUInt16.toUInt32.toInt32), rfl, N10, rfl, (Wh _)⟩
theorem K8 {Z : State} {EL : List (String × Nat)} {vm : Vm} {h : Heap} {x : Addr} (hal : Z.vm.Alike vm) (E : Exa Z h x "java/lang/String") (N : Fld Z h x "java/lang/String" "value" "[B" .null) : Safe Z EL vm h x := fun B => by
  obtain ⟨cell, k, e1, e2, e3, -, -⟩ := E
  obtain ⟨p, -, u, a, -, q, -, F, rfl | rfl⟩ := B
  · obtain ⟨cell2, _, _, _, _, n1, n2, -, -, -, -, n7⟩ := N
    have hq : h[q.sa]? = some q.sC := F.ha
    cases hq.symm.trans n1
    obtain ⟨cS, ⟨⟨-, -, -, ⟨c1, k1, i1, f1, -⟩, -, -, -, v1, -⟩, -⟩, -⟩ := F
    obtain ⟨k3, e3', -⟩ := State.fieldFound?_setVm (s := ({ Z with heap := h } : State)) (vm' := vm) hal (show ({ Z with heap := h } : State).fieldFound? _ _ _ = _ from n2)
    have e4 := (show (Wst Z vm h).fieldFound? _ _ _ = _ from e3').symm.trans f1
    simp only [Option.some.injEq, Prod.mk.injEq] at e4
    rw [← e4.2.2.2, n7] at v1
    simp at v1
  · cases (show h[q.sd]? = some q.SA from F.hd).symm.trans e1
    obtain ⟨cS, -, -, f, -⟩ := F
    have f' := (show vm.findClass "[B" = some q.SA.cls from f)
    rw [hal.findClass] at f'
    obtain ⟨k1, q1, q2⟩ := Vm.findClass_spec f'
    obtain ⟨k2, q3, q4⟩ := Vm.findClass_spec e2
    cases q1.symm.trans q3
    exact absurd (q2.symm.trans q4) (by decide)
theorem ef_i4 (m : MethodId) (x0 : Addr) (x1 : Addr) (x2 : Int32) (x3 : Int32)  : entryFrame m #[(.ref x0), (.ref x1), (.int x2), (.int x3), .null] 6 = mkF m 0 #[.val (.ref x0), .val (.ref x1), .val (.int x2), .val (.int x3), .val .null, .unset] [] := by first | (simp [entryFrame, mkF, argsToLocals, Value.category]; done) | rfl
theorem Kl : decode jdk_42_method_149_code 0 = .ok (.aload_n 0, 1) := by decide +kernel
theorem Ll : decode jdk_42_method_149_code 1 = .ok (.invokespecial 1, 3) := by decide +kernel
theorem Ml : decode jdk_42_method_149_code 4 = .ok (.iload_n 3, 1) := by decide +kernel
theorem Pl : decode jdk_42_method_149_code 5 = .ok (.ifCond .ne 22, 3) := by decide +kernel
theorem Rl : decode jdk_42_method_149_code 8 = .ok (.aload_n 0, 1) := by decide +kernel
theorem Aj {Z : State} {a0 : Array Value} (hw : ∀ d ∈ tables_1, d.before a0 Z = true) : ∀ d ∈ Bundle.stringAtoms, d.before a0 Z = true := fun d hd => hw d ((by decide +kernel : ∀ d ∈ Bundle.stringAtoms, d ∈ tables_1) d hd)
theorem Ul : decode jdk_42_method_149_code 9 = .ok (.ldc 7, 2) := by decide +kernel
theorem Wk : decode jdk_42_method_149_code 11 = .ok (.getfield 9, 3) := by decide +kernel
theorem Yk : decode jdk_42_method_149_code 14 = .ok (.putfield 9, 3) := by decide +kernel
theorem Zk : decode jdk_42_method_149_code 17 = .ok (.aload_n 0, 1) := by decide +kernel
theorem Al : decode jdk_42_method_149_code 18 = .ok (.ldc 7, 2) := by decide +kernel
theorem Bl : decode jdk_42_method_149_code 20 = .ok (.getfield 15, 3) := by decide +kernel
theorem Dl : decode jdk_42_method_149_code 23 = .ok (.putfield 15, 3) := by decide +kernel
theorem Gl : decode jdk_42_method_149_code 26 = .ok (.return_, 1) := by decide +kernel
theorem Ai : plainName "java/lang/String" = true := by first | (simp [plainName, overriddenIn]; done) | decide +kernel
abbrev L8 : MethodName := ⟨"java/lang/String", "<init>", "([CIILjava/lang/Void;)V"⟩
def Q_i4 (Z : State) (s0 : Addr) (b0 : Addr) (k0 : ClassId) (Wa : Addr) (Va : Addr) (Ua : Addr) (Ra : Addr) (Ia : Addr) (Da : Addr) (Ha : Addr) (Ba : Addr) (Ga : Addr) (Aa : Addr) (Ma : Int32) (La : Value) (Bb : Addr) (h0 : Heap) (n0 : Nat) (v : Option Value) (h : Heap) (L : List Loc) : Prop := ∃ (t : Addr) (k : ClassId), v = none ∧ Fr n0 L ∧ Old Z n0 h ∧ Keep h0 h [s0] ∧ Exa Z h s0 "java/lang/String" ∧ Fld Z h s0 "java/lang/String" "coder" "B" (.int 0) ∧ Fld Z h s0 "java/lang/String" "value" "[B" (.ref t) ∧ Arv Z h t k .byte (0 : Int32) [] (.int 0)
set_option maxRecDepth 65536 in
set_option maxHeartbeats 40000000 in
theorem rm_i4 (l : Launch) (Z : State) (a0 : Array Value) (hw : ∀ d ∈ tables_1, d.before a0 Z = true) (ws : List Jvm.Cond) (s0 : Addr) (b0 : Addr) (k0 : ClassId) (Wa : Addr) (Va : Addr) (Ua : Addr) (Ra : Addr) (Ia : Addr) (Da : Addr) (Ha : Addr) (Ba : Addr) (Ga : Addr) (Aa : Addr) (Ma : Int32) (La : Value) (Bb : Addr) (h0 : Heap) (n0 : Nat) (O0 : Old Z n0 h0) (hE : EV Z Wa Va Ua Ra Ia Da Ha Ba Ga Aa Ma La Bb) (P0 : Exa Z h0 s0 "java/lang/String") (P1 : Fld Z h0 s0 "java/lang/String" "value" "[B" .null) (P2 : Fld Z h0 s0 "java/lang/String" "coder" "B" (.int 0)) (P3 : Arv Z h0 b0 k0 .char (0 : Int32) [] (.int 0)) (g_s0 : n0 ≤ s0) :
    MetFree l L8 (head1 (Jvm.Cond.code L8 jdk_42_method_149_code 6 none :: ws) ({ frames := 1, cells := 4, slots := 8, locals := 12 } : Room)) (fun a U => a = #[(.ref s0), (.ref b0), (.int 0), (.int 0), .null] ∧ Z.Warmed39 U.vm ∧ U.heap = h0 ∧ CHv Z Uc U.vm h0) (fun _ _ _ _ _ => True) (fun _ U o U' => ∃ v L, o = .returned v ∧ Q_i4 Z s0 b0 k0 Wa Va Ua Ra Ia Da Ha Ba Ga Aa Ma La Bb h0 n0 v U'.heap L ∧ CHr Z Uc U.vm U.heap U'.vm U'.heap ∧ ReturnedEndW U o U' L ({ frames := 1, cells := 4, slots := 8, locals := 12 } : Room).cells ({ frames := 1, cells := 4, slots := 8, locals := 12 } : Room).slots) := by
  refine MetFree.of_bodySF (plainFor_of_name Ai) hisR ?_
  intro p e s m args below meth c s₁ Bd hml0 hP hK
  obtain ⟨rfl, hZ, hh, hCH⟩ := hP
  have hx := Bd.exec
  have hby := Bd.bytes
  have hml : c.maxLocals = 6 := hml0
  have hown : s.vm.findClass "java/lang/String" = some m.cls := findClass_of_methodNamed Bd.named
  have hnm := (name_of_methodNamed Bd.named Bd.method).1
  have X00 : Stand p l e ({ frames := 1, cells := 4, slots := 8, locals := 12 } : Room) s m #[(.ref s0), (.ref b0), (.int 0), (.int 0), .null] below meth c s₁ [] 0 0 := Stand.of_body Bd
  have e00 : s₁.heap = h0 := by rw [← hh, Bd.state]; rfl
  have N00 := Fr.nil n0
  refine Classical.byContradiction fun hNG => ?_
  have K00 := Keep.refl h0 [s0]
  have k00 : ∀ t, Db p e below m s₁ 0 #[.val (.ref s0), .val (.ref b0), .val (.int 0), .val (.int 0), .val .null, .unset] [] t → Kb p e below m s₁ #[(.ref s0), (.ref b0), (.int 0), (.int 0), .null] 6 t := fun t k => castTop (ef_i4 m s0 b0 ((0 : Int32)) ((0 : Int32)) ) k
  have hS : s.Since s.vm 0 := (State.WarmedH.refl s).since 0
  have X00 : Stand p l e ({ frames := 1, cells := 4, slots := 8, locals := 12 } : Room) (s.setVm s.vm) m #[(.ref s0), (.ref b0), (.int 0), (.int 0), .null] below meth c s₁ [] 0 0 := X00
  have hZ : Z.Warmed39 (s.setVm s.vm).vm := hZ
  have hown : (s.setVm s.vm).vm.findClass "java/lang/String" = some m.cls := hown
  have CR0 : CHr Z Uc s.vm h0 s.vm h0 := CHr.refl hCH
  obtain ⟨Ye, Ze, Ae, Be, Ue, Ve, Ke, Le, Dc, Wb, Ub, Vb, Bc, Yb, Pb, Rb, Ac, Zb, Lb, Mb, Hb, Gb, Hc, Gc, We, Re, Rc, De, Ab, Za, Ya⟩ := (id hE : EV Z Wa Va Ua Ra Ia Da Ha Ba Ga Aa Ma La Bb)
  obtain ⟨kw_USER_collectionName, Aw_USER_collectionName⟩ := Ab.arv
  obtain ⟨kw_GROUP_collectionName, Aw_GROUP_collectionName⟩ := Za.arv
  obtain ⟨kw_DEVICE_collectionName, Aw_DEVICE_collectionName⟩ := Ya.arv
  have Sf_s0 : Safe Z Uc s.vm h0 s0 := K8 hZ.alike P0 P1
  have lt_s0 := P0.lt
  obtain ⟨T10, X10, e10, st10⟩ := initO X00 hx hZ hown (Ka hw 60 rfl) (Ka hw 61 rfl) (Ka hw 62 rfl) e00 (g := (mkF m 1 #[.val (.ref s0), .val (.ref b0), .val (.int 0), .val (.int 0), .val .null, .unset] [(.ref s0)])) rfl (by rw [hml]; rfl) rfl (hb hby Ll) (by decide) (W := 0) (by show 2 * 0 + _ ≤ _; exact Nat.le_of_eq rfl) (by decide)
  obtain ⟨a11, T11, h11, q11, t11, kb11, X11, e11, E11, hS, hk11, hZ, hown, Ex11, Fc11, Fv11, Av11, la11, lb11, hC11, -, hSf11, st11⟩ := ldcCH X10 hx hZ hown (Ka hw 140 rfl) (Aj hw) e10 hS (Nat.zero_le _) (Af hw) (EL := Uc) (List.mem_of_getElem? (i := 4) rfl) CR0.1 (vs := []) (z := (0 : Int32)) ⟨by decide, by decide⟩ (by decide) (by decide) (g := (mkF m 9 #[.val (.ref s0), .val (.ref b0), .val (.int 0), .val (.int 0), .val .null, .unset] [(.ref s0)])) rfl (hb hby Ul) (n := 0) (by decide) (by decide) (by decide) (by decide)
  have CR12 := CR0.trans hC11
  have O11 := O0.ext E11
  have K11 := K00.ext E11
  obtain ⟨T13, X13, e13, st13⟩ := getF X11 hx hZ hown (host := "") (Or.inl (Ka hw 13 rfl)) Via.refl e11 Fv11 (g := (mkF m 11 #[.val (.ref s0), .val (.ref b0), .val (.int 0), .val (.int 0), .val .null, .unset] [(.ref a11), (.ref s0)])) rfl rfl (hb hby Wk)
  have f14 := (P0.ext E11)
  have f15 := (P1.ext E11)
  obtain ⟨T16, h16, X16, e16, W16, st16⟩ := putF X13 hx hZ hown (host := "") (Or.inl (Ka hw 13 rfl)) Via.refl e13 f15 f14 (Or.inr ⟨(Ka hw 4 rfl), rfl, hnm⟩) (Ka hw 2 rfl) (ty := (.array .byte)) (by decide) rfl rfl (g := (mkF m 14 #[.val (.ref s0), .val (.ref b0), .val (.int 0), .val (.int 0), .val .null, .unset] [(.ref t11), (.ref s0)])) rfl rfl (hb hby Yk)
  have sf18 := (CHr.safe hC11 lt_s0 Sf_s0)
  have CR17 := CR12.trans (CHr.wr W16 sf18 CR12.1)
  have F16_value := f15.same W16
  have N16 := Fr.snoc X16 N00 g_s0
  have O16 := O11.wr W16 g_s0
  have K16 := K11.wr W16 (Or.inl (List.mem_of_getElem? (i := 0) rfl))
  obtain ⟨a19, T19, h19, q19, t19, kb19, X19, e19, E19, hS, hk19, hZ, hown, Ex19, Fc19, Fv19, Av19, la19, lb19, hC19, -, hSf19, st19⟩ := ldcCH X16 hx hZ hown (Ka hw 140 rfl) (Aj hw) e16 hS (Nat.le_trans hk11 (Keep.of_wr W16).1) (Af hw) (EL := Uc) (List.mem_of_getElem? (i := 4) rfl) CR17.1 (vs := []) (z := (0 : Int32)) ⟨by decide, by decide⟩ (by decide) (by decide) (g := (mkF m 18 #[.val (.ref s0), .val (.ref b0), .val (.int 0), .val (.int 0), .val .null, .unset] [(.ref s0)])) rfl (hb hby Al) (n := 0) (by decide) (by decide) (by decide) (by decide)
  have CR20 := CR17.trans hC19
  have O19 := O16.ext E19
  have K19 := K16.ext E19
  obtain ⟨T21, X21, e21, st21⟩ := getF X19 hx hZ hown (host := "") (Or.inl (Ka hw 20 rfl)) Via.refl e19 Fc19 (g := (mkF m 20 #[.val (.ref s0), .val (.ref b0), .val (.int 0), .val (.int 0), .val .null, .unset] [(.ref a19), (.ref s0)])) rfl rfl (hb hby Bl)
  have f22 := ((f14.wr W16).ext E19)
  have f23 := (((P2.ext E11).other W16 (Or.inr (slot_ne (Or.inr (Ka hw 5 rfl)) (Or.inr (Ka hw 4 rfl)) (by decide) (t := .byte) (t' := (.array .byte)) (by decide) (by decide)))).ext E19)
  obtain ⟨T24, h24, X24, e24, W24, st24⟩ := putFN X21 hx hZ hown (Ka hw 20 rfl) Via.refl e21 f23 f22 (Or.inr ⟨(Ka hw 5 rfl), rfl, hnm⟩) (Ka hw 2 rfl) (ty := .byte) (v' := .int (0 : Int32)) (by decide) rfl (by decide) (g := (mkF m 23 #[.val (.ref s0), .val (.ref b0), .val (.int 0), .val (.int 0), .val .null, .unset] [(.int 0), (.ref s0)])) rfl rfl (hb hby Dl)
  have sf26 := (CHr.safe hC19 (Nat.lt_of_lt_of_le (Nat.lt_of_lt_of_le lt_s0 E11.1) (Keep.of_wr W16).1) (Safe.wr W16 sf18 CR12.1 sf18))
  have CR25 := CR20.trans (CHr.wr W24 sf26 CR20.1)
  have F24_coder := f23.same W24
  have N24 := Fr.snoc X24 N16 g_s0
  have O24 := O19.wr W24 g_s0
  have K24 := K19.wr W24 (Or.inl (List.mem_of_getElem? (i := 0) rfl))
  have k27 : ∀ t, Db p e below m T24 26 #[.val (.ref s0), .val (.ref b0), .val (.int 0), .val (.int 0), .val .null, .unset] [] t → Kb p e below m s₁ #[(.ref s0), (.ref b0), (.int 0), (.int 0), .null] 6 t := by
    intro t k
    refine k00 t ?_
    refine XS.aloadN X00.here hx rfl (hb hby Kl) rfl rfl ?_
    refine st10 _ ?_
    refine XS.iloadN X10.here hx rfl (hb hby Ml) rfl ?_
    refine XS.ifNo X10.here hx rfl (hb hby Pl) rfl ((if0 _ _).trans (teq (by decide : (0 : Int32) = (0 : Int32))).2) ?_
    refine XS.aloadN X10.here hx rfl (hb hby Rl) rfl rfl ?_
    refine st11 _ ?_
    refine st13 _ ?_
    refine st16 _ ?_
    refine XS.aloadN X16.here hx rfl (hb hby Zk) rfl rfl ?_
    refine st19 _ ?_
    refine st21 _ ?_
    refine st24 _ ?_
    show Db p e below m T24 26 #[.val (.ref s0), .val (.ref b0), .val (.int 0), .val (.int 0), .val .null, .unset] [] t
    exact k
  have f28 := (f22.wr W24)
  have f29 := ((F16_value.ext E19).other W24 (Or.inr (slot_ne (Or.inr (Ka hw 4 rfl)) (Or.inr (Ka hw 5 rfl)) (by decide) (t := (.array .byte)) (t' := .byte) (by decide) (by decide))))
  have f30 := (((Av11.other W16 (Ne.symm (hSf11 _ sf18).2)).ext E19).other W24 (Ne.symm (hSf11 _ sf18).2))
  obtain ⟨fs, hr, hrun, hended, hRW⟩ := X24.leaveW hS (by rw [e24]; exact (Nat.le_trans hk19 (Keep.of_wr W24).1)) (v := none) (fun _ => rfl)
  refine hNG ⟨_, _, k27 _ ?_, hrun, hended, _, _, rfl, ?_, by rw [hh]; show CHr Z Uc s.vm h0 T24.vm T24.heap; rw [e24]; exact CR25.trans (CHv.at X24 hZ (Af hw) CR25.1), hRW.1, hRW.2.1, hRW.2.2.1, hRW.2.2.2.mono (by decide) (by decide)⟩
  · exact X24.returnOut hx Bd.returns (hb hby Gl) hr
  · show Q_i4 Z s0 b0 k0 Wa Va Ua Ra Ia Da Ha Ba Ga Aa Ma La Bb h0 n0 _ T24.heap _
    rw [e24]
    exact ⟨t11, kb11, rfl, N24, O24, K24, f28, F24_coder, f29, f30⟩
theorem ef_i1 (m : MethodId) (x0 : Addr) (x1 : Addr)  : entryFrame m #[(.ref x0), (.ref x1)] 2 = mkF m 0 #[.val (.ref x0), .val (.ref x1)] [] := by first | (simp [entryFrame, mkF, argsToLocals, Value.category]; done) | rfl
theorem Pm : decode jdk_42_method_3_code 0 = .ok (.aload_n 0, 1) := by decide +kernel
theorem Rm : decode jdk_42_method_3_code 1 = .ok (.aload_n 1, 1) := by decide +kernel
theorem Um : decode jdk_42_method_3_code 2 = .ok (.iconst 0, 1) := by decide +kernel
theorem Wm : decode jdk_42_method_3_code 3 = .ok (.aload_n 1, 1) := by decide +kernel
theorem Ym : decode jdk_42_method_3_code 4 = .ok (.arraylength, 1) := by decide +kernel
theorem Zm : decode jdk_42_method_3_code 5 = .ok (.aconst_null, 1) := by decide +kernel
theorem Bn : decode jdk_42_method_3_code 6 = .ok (.invokespecial 27, 3) := by decide +kernel
theorem Vl : parseMethodDescriptor "([CIILjava/lang/Void;)V" = some ⟨[(.array .char), .int, .int, (.object "java/lang/Void")], none⟩ := by decide +kernel
theorem Dn : decode jdk_42_method_3_code 9 = .ok (.return_, 1) := by decide +kernel
abbrev Dk : MethodName := ⟨"java/lang/String", "<init>", "([C)V"⟩
def Q_i1 (Z : State) (s0 : Addr) (b0 : Addr) (k0 : ClassId) (Wa : Addr) (Va : Addr) (Ua : Addr) (Ra : Addr) (Ia : Addr) (Da : Addr) (Ha : Addr) (Ba : Addr) (Ga : Addr) (Aa : Addr) (Ma : Int32) (La : Value) (Bb : Addr) (h0 : Heap) (n0 : Nat) (v : Option Value) (h : Heap) (L : List Loc) : Prop := ∃ (t : Addr) (k : ClassId), v = none ∧ Fr n0 L ∧ Old Z n0 h ∧ Keep h0 h [s0] ∧ Exa Z h s0 "java/lang/String" ∧ Fld Z h s0 "java/lang/String" "coder" "B" (.int 0) ∧ Fld Z h s0 "java/lang/String" "value" "[B" (.ref t) ∧ Arv Z h t k .byte (0 : Int32) [] (.int 0)
set_option maxRecDepth 65536 in
set_option maxHeartbeats 40000000 in
theorem rm_i1 (l : Launch) (Z : State) (a0 : Array Value) (hw : ∀ d ∈ tables_1, d.before a0 Z = true) (ws : List Jvm.Cond) (s0 : Addr) (b0 : Addr) (k0 : ClassId) (Wa : Addr) (Va : Addr) (Ua : Addr) (Ra : Addr) (Ia : Addr) (Da : Addr) (Ha : Addr) (Ba : Addr) (Ga : Addr) (Aa : Addr) (Ma : Int32) (La : Value) (Bb : Addr) (h0 : Heap) (n0 : Nat) (O0 : Old Z n0 h0) (hE : EV Z Wa Va Ua Ra Ia Da Ha Ba Ga Aa Ma La Bb) (P0 : Exa Z h0 s0 "java/lang/String") (P1 : Fld Z h0 s0 "java/lang/String" "value" "[B" .null) (P2 : Fld Z h0 s0 "java/lang/String" "coder" "B" (.int 0)) (P3 : Arv Z h0 b0 k0 .char (0 : Int32) [] (.int 0)) (g_s0 : n0 ≤ s0) :
    MetFree l Dk (head1 (Jvm.Cond.code Dk jdk_42_method_3_code 2 none :: ws) ({ frames := 2, cells := 4, slots := 8, locals := 29 } : Room)) (fun a U => a = #[(.ref s0), (.ref b0)] ∧ Z.Warmed39 U.vm ∧ U.heap = h0 ∧ CHv Z Uc U.vm h0) (fun _ _ _ _ _ => True) (fun _ U o U' => ∃ v L, o = .returned v ∧ Q_i1 Z s0 b0 k0 Wa Va Ua Ra Ia Da Ha Ba Ga Aa Ma La Bb h0 n0 v U'.heap L ∧ CHr Z Uc U.vm U.heap U'.vm U'.heap ∧ ReturnedEndW U o U' L ({ frames := 2, cells := 4, slots := 8, locals := 29 } : Room).cells ({ frames := 2, cells := 4, slots := 8, locals := 29 } : Room).slots) := by
  refine MetFree.of_bodySF (plainFor_of_name Ai) hisR ?_
  intro p e s m args below meth c s₁ Bd hml0 hP hK
  obtain ⟨rfl, hZ, hh, hCH⟩ := hP
  have hx := Bd.exec
  have hby := Bd.bytes
  have hml : c.maxLocals = 2 := hml0
  have hown : s.vm.findClass "java/lang/String" = some m.cls := findClass_of_methodNamed Bd.named
  have hnm := (name_of_methodNamed Bd.named Bd.method).1
  have X00 : Stand p l e ({ frames := 2, cells := 4, slots := 8, locals := 29 } : Room) s m #[(.ref s0), (.ref b0)] below meth c s₁ [] 0 0 := Stand.of_body Bd
  have e00 : s₁.heap = h0 := by rw [← hh, Bd.state]; rfl
  have N00 := Fr.nil n0
  refine Classical.byContradiction fun hNG => ?_
  have K00 := Keep.refl h0 [s0]
  have k00 : ∀ t, Db p e below m s₁ 0 #[.val (.ref s0), .val (.ref b0)] [] t → Kb p e below m s₁ #[(.ref s0), (.ref b0)] 2 t := fun t k => castTop (ef_i1 m s0 b0 ) k
  have hS : s.Since s.vm 0 := (State.WarmedH.refl s).since 0
  have X00 : Stand p l e ({ frames := 2, cells := 4, slots := 8, locals := 29 } : Room) (s.setVm s.vm) m #[(.ref s0), (.ref b0)] below meth c s₁ [] 0 0 := X00
  have hZ : Z.Warmed39 (s.setVm s.vm).vm := hZ
  have hown : (s.setVm s.vm).vm.findClass "java/lang/String" = some m.cls := hown
  have CR0 : CHr Z Uc s.vm h0 s.vm h0 := CHr.refl hCH
  obtain ⟨Ye, Ze, Ae, Be, Ue, Ve, Ke, Le, Dc, Wb, Ub, Vb, Bc, Yb, Pb, Rb, Ac, Zb, Lb, Mb, Hb, Gb, Hc, Gc, We, Re, Rc, De, Ab, Za, Ya⟩ := (id hE : EV Z Wa Va Ua Ra Ia Da Ha Ba Ga Aa Ma La Bb)
  obtain ⟨kw_USER_collectionName, Aw_USER_collectionName⟩ := Ab.arv
  obtain ⟨kw_GROUP_collectionName, Aw_GROUP_collectionName⟩ := Za.arv
  obtain ⟨kw_DEVICE_collectionName, Aw_DEVICE_collectionName⟩ := Ya.arv
  have Sf_s0 : Safe Z Uc s.vm h0 s0 := K8 hZ.alike P0 P1
  have lt_s0 := P0.lt
  obtain ⟨cl10, Ar10, q10, Sz10, Nn10, Hs10, Gf10⟩ := id P3
  have k11 : ∀ t, Db p e below m s₁ 6 #[.val (.ref s0), .val (.ref b0)] [.null, (.int 0), (.int 0), (.ref b0), (.ref s0)] t → Kb p e below m s₁ #[(.ref s0), (.ref b0)] 2 t := by
    intro t k
    refine k00 t ?_
    refine XS.aloadN X00.here hx rfl (hb hby Pm) rfl rfl ?_
    refine XS.aloadN X00.here hx rfl (hb hby Rm) rfl rfl ?_
    refine XS.iconst X00.here hx rfl (hb hby Um) ?_
    refine XS.aloadN X00.here hx rfl (hb hby Wm) rfl rfl ?_
    refine X00.arraylength hx (by rw [e00]; exact Ar10.1) (State.isArrayOf_alike hZ.alike Ar10.2.1) (g := (mkF m 4 #[.val (.ref s0), .val (.ref b0)] [(.ref b0), (.int 0), (.ref b0), (.ref s0)])) rfl rfl (hb hby Ym) _ ?_
    rw [len_of Sz10 Nn10]
    refine XS.aconstNull X00.here hx rfl (hb hby Zm) ?_
    exact k
  obtain ⟨_, _, ⟨T12, L12, k12, n12⟩, -, X12, hS12, hg12, ⟨Lc12, hQ12, l12, y12, z12, hC12⟩, st12⟩ := X00.specialBackS hx (y := L8) rfl hown (mvT hZ (Ka hw 56 rfl)) (mvT hZ (Ka hw 57 rfl)) (mvT hZ (Ka hw 59 rfl)) (by decide) (backOfSH (W := 0) (rm_i4 l Z a0 hw [] s0 b0 k0 _ _ _ _ _ _ _ _ _ _ _ _ _ h0 n0 O0 hE P0 P1 P2 P3 g_s0 ) hZ (Ka hw 59 rfl) (Ka hw 1 rfl) (by decide) (by decide) (Af hw) CR0.1) (g := (mkF m 6 #[.val (.ref s0), .val (.ref b0)] [.null, (.int 0), (.int 0), (.ref b0), (.ref s0)])) rfl (by rw [hml]; rfl) (Steps.refl _) (a := s0) (argsL := [(.ref b0), (.int 0), (.int 0), .null]) (rest := []) (lenOf Vl rfl) rfl (by show 2 * 0 + _ ≤ _; exact Nat.le_of_eq rfl) (hb hby Bn) (fun _ _ => ⟨rfl, e00, (by decide : 0 + 4 ≤ _), (by decide : 0 + 8 ≤ _)⟩)
  dsimp only [Pt.U, Pt.locs, Pt.cells, Pt.slots] at X12 l12 y12 z12 st12 hQ12 hS12 hg12 hC12
  subst l12 y12 z12
  obtain ⟨X12, hS, hZ, hown⟩ := rebS hS (by rw [e00]; exact (Nat.zero_le _)) X12 hS12 hg12 hZ hown
  obtain ⟨t12, k12, rfl, N12q, O12, Kc12, F12_0, F12_1, F12_2, F12_3⟩ := hQ12
  have N12 := Fr.app N00 N12q
  have CR13 := CR0.trans hC12
  have K12 := K00.trans Kc12 (allS (Or.inl (List.mem_of_getElem? (i := 0) rfl)) all0)
  have lt_t12 := F12_3.lt
  have k14 : ∀ t, Db p e below m T12 9 #[.val (.ref s0), .val (.ref b0)] [] t → Kb p e below m s₁ #[(.ref s0), (.ref b0)] 2 t := by
    intro t k
    refine k11 t ?_
    refine st12.trans ?_
    exact k
  obtain ⟨fs, hr, hrun, hended, hRW⟩ := X12.leaveW hS (by exact (Nat.le_refl _)) (v := none) (fun _ => rfl)
  refine hNG ⟨_, _, k14 _ ?_, hrun, hended, _, _, rfl, ?_, by rw [hh]; show CHr Z Uc s.vm h0 T12.vm T12.heap; exact CR13.trans (CHv.at X12 hZ (Af hw) CR13.1), hRW.1, hRW.2.1, hRW.2.2.1, hRW.2.2.2.mono (by decide) (by decide)⟩
  · exact X12.returnOut hx Bd.returns (hb hby Dn) hr
  · show Q_i1 Z s0 b0 k0 Wa Va Ua Ra Ia Da Ha Ba Ga Aa Ma La Bb h0 n0 _ T12.heap _
    exact ⟨t12, k12, rfl, N12, O12, K12, F12_0, F12_1, F12_2, F12_3⟩
theorem ef_mk (m : MethodId) (x0 : Addr) (x1 : Int32)  : entryFrame m #[(.ref x0), (.int x1)] 2 = mkF m 0 #[.val (.ref x0), .val (.int x1)] [] := by first | (simp [entryFrame, mkF, argsToLocals, Value.category]; done) | rfl
theorem L7 : decode method_3_code 0 = .ok (.iload_n 1, 1) := by decide +kernel
theorem Hf : decode method_3_code 1 = .ok (.tableswitch 307 0 7 #[47, 58, 75, 98, 127, 162, 203, 251], 47) := by decide +kernel
theorem P4 : decode method_3_code 48 = .ok (.new 8, 3) := by decide +kernel
theorem R4 : decode method_3_code 51 = .ok (.dup, 1) := by decide +kernel
theorem U4 : decode method_3_code 52 = .ok (.iconst 0, 1) := by decide +kernel
theorem V4 : decode method_3_code 53 = .ok (.newarray .char, 2) := by decide +kernel
theorem W4 : decode method_3_code 55 = .ok (.invokespecial 19, 3) := by decide +kernel
theorem Ij : parseMethodDescriptor "([C)V" = some ⟨[(.array .char)], none⟩ := by decide +kernel
theorem Y4 : decode method_3_code 58 = .ok (.areturn, 1) := by decide +kernel
theorem Z4 : decode method_3_code 59 = .ok (.new 8, 3) := by decide +kernel
theorem A5 : decode method_3_code 62 = .ok (.dup, 1) := by decide +kernel
theorem B5 : decode method_3_code 63 = .ok (.iconst 1, 1) := by decide +kernel
theorem D5 : decode method_3_code 64 = .ok (.newarray .char, 2) := by decide +kernel
theorem G5 : decode method_3_code 66 = .ok (.dup, 1) := by decide +kernel
theorem H5 : decode method_3_code 67 = .ok (.iconst 0, 1) := by decide +kernel
theorem I5 : decode method_3_code 68 = .ok (.aload_n 0, 1) := by decide +kernel
theorem L5 : decode method_3_code 69 = .ok (.iconst 0, 1) := by decide +kernel
theorem M5 : decode method_3_code 70 = .ok (.caload, 1) := by decide +kernel
theorem P5 : decode method_3_code 71 = .ok (.castore, 1) := by decide +kernel
theorem R5 : decode method_3_code 72 = .ok (.invokespecial 19, 3) := by decide +kernel
theorem U5 : decode method_3_code 75 = .ok (.areturn, 1) := by decide +kernel
theorem V5 : decode method_3_code 76 = .ok (.new 8, 3) := by decide +kernel
theorem W5 : decode method_3_code 79 = .ok (.dup, 1) := by decide +kernel
theorem Y5 : decode method_3_code 80 = .ok (.iconst 2, 1) := by decide +kernel
theorem Z5 : decode method_3_code 81 = .ok (.newarray .char, 2) := by decide +kernel
theorem A6 : decode method_3_code 83 = .ok (.dup, 1) := by decide +kernel
theorem D6 : decode method_3_code 84 = .ok (.iconst 0, 1) := by decide +kernel
theorem G6 : decode method_3_code 85 = .ok (.aload_n 0, 1) := by decide +kernel
theorem H6 : decode method_3_code 86 = .ok (.iconst 0, 1) := by decide +kernel
theorem I6 : decode method_3_code 87 = .ok (.caload, 1) := by decide +kernel
theorem L6 : decode method_3_code 88 = .ok (.castore, 1) := by decide +kernel
theorem M6 : decode method_3_code 89 = .ok (.dup, 1) := by decide +kernel
theorem P6 : decode method_3_code 90 = .ok (.iconst 1, 1) := by decide +kernel
theorem R6 : decode method_3_code 91 = .ok (.aload_n 0, 1) := by decide +kernel
theorem U6 : decode method_3_code 92 = .ok (.iconst 1, 1) := by decide +kernel
theorem V6 : decode method_3_code 93 = .ok (.caload, 1) := by decide +kernel
theorem W6 : decode method_3_code 94 = .ok (.castore, 1) := by decide +kernel
theorem Y6 : decode method_3_code 95 = .ok (.invokespecial 19, 3) := by decide +kernel
theorem Z6 : decode method_3_code 98 = .ok (.areturn, 1) := by decide +kernel
theorem A7 : decode method_3_code 99 = .ok (.new 8, 3) := by decide +kernel
theorem Bp : decode method_3_code 102 = .ok (.dup, 1) := by decide +kernel
theorem Dp : decode method_3_code 103 = .ok (.iconst 3, 1) := by decide +kernel
theorem Gp : decode method_3_code 104 = .ok (.newarray .char, 2) := by decide +kernel
theorem Hp : decode method_3_code 106 = .ok (.dup, 1) := by decide +kernel
theorem Ip : decode method_3_code 107 = .ok (.iconst 0, 1) := by decide +kernel
theorem Kp : decode method_3_code 108 = .ok (.aload_n 0, 1) := by decide +kernel
theorem Lp : decode method_3_code 109 = .ok (.iconst 0, 1) := by decide +kernel
theorem Mp : decode method_3_code 110 = .ok (.caload, 1) := by decide +kernel
theorem Pp : decode method_3_code 111 = .ok (.castore, 1) := by decide +kernel
theorem Rp : decode method_3_code 112 = .ok (.dup, 1) := by decide +kernel
theorem Up : decode method_3_code 113 = .ok (.iconst 1, 1) := by decide +kernel
theorem Vp : decode method_3_code 114 = .ok (.aload_n 0, 1) := by decide +kernel
theorem Wp : decode method_3_code 115 = .ok (.iconst 1, 1) := by decide +kernel
theorem Yp : decode method_3_code 116 = .ok (.caload, 1) := by decide +kernel
theorem Zp : decode method_3_code 117 = .ok (.castore, 1) := by decide +kernel
theorem Aq : decode method_3_code 118 = .ok (.dup, 1) := by decide +kernel
theorem Bq : decode method_3_code 119 = .ok (.iconst 2, 1) := by decide +kernel
theorem Dq : decode method_3_code 120 = .ok (.aload_n 0, 1) := by decide +kernel
theorem Gq : decode method_3_code 121 = .ok (.iconst 2, 1) := by decide +kernel
theorem Hq : decode method_3_code 122 = .ok (.caload, 1) := by decide +kernel
theorem Iq : decode method_3_code 123 = .ok (.castore, 1) := by decide +kernel
theorem Kq : decode method_3_code 124 = .ok (.invokespecial 19, 3) := by decide +kernel
theorem Lq : decode method_3_code 127 = .ok (.areturn, 1) := by decide +kernel
theorem Mq : decode method_3_code 128 = .ok (.new 8, 3) := by decide +kernel
theorem Pq : decode method_3_code 131 = .ok (.dup, 1) := by decide +kernel
theorem Rq : decode method_3_code 132 = .ok (.iconst 4, 1) := by decide +kernel
theorem Uq : decode method_3_code 133 = .ok (.newarray .char, 2) := by decide +kernel
theorem Vq : decode method_3_code 135 = .ok (.dup, 1) := by decide +kernel
theorem Wq : decode method_3_code 136 = .ok (.iconst 0, 1) := by decide +kernel
theorem Yq : decode method_3_code 137 = .ok (.aload_n 0, 1) := by decide +kernel
theorem Zq : decode method_3_code 138 = .ok (.iconst 0, 1) := by decide +kernel
theorem Ar : decode method_3_code 139 = .ok (.caload, 1) := by decide +kernel
theorem Br : decode method_3_code 140 = .ok (.castore, 1) := by decide +kernel
theorem Dr : decode method_3_code 141 = .ok (.dup, 1) := by decide +kernel
theorem Gr : decode method_3_code 142 = .ok (.iconst 1, 1) := by decide +kernel
theorem Hr : decode method_3_code 143 = .ok (.aload_n 0, 1) := by decide +kernel
theorem Ir : decode method_3_code 144 = .ok (.iconst 1, 1) := by decide +kernel
theorem Kr : decode method_3_code 145 = .ok (.caload, 1) := by decide +kernel
theorem Lr : decode method_3_code 146 = .ok (.castore, 1) := by decide +kernel
theorem Mr : decode method_3_code 147 = .ok (.dup, 1) := by decide +kernel
theorem Pr : decode method_3_code 148 = .ok (.iconst 2, 1) := by decide +kernel
theorem Rr : decode method_3_code 149 = .ok (.aload_n 0, 1) := by decide +kernel
theorem Ur : decode method_3_code 150 = .ok (.iconst 2, 1) := by decide +kernel
theorem Vr : decode method_3_code 151 = .ok (.caload, 1) := by decide +kernel
theorem Wr : decode method_3_code 152 = .ok (.castore, 1) := by decide +kernel
theorem Yr : decode method_3_code 153 = .ok (.dup, 1) := by decide +kernel
theorem Zr : decode method_3_code 154 = .ok (.iconst 3, 1) := by decide +kernel
theorem As : decode method_3_code 155 = .ok (.aload_n 0, 1) := by decide +kernel
theorem Bs : decode method_3_code 156 = .ok (.iconst 3, 1) := by decide +kernel
theorem Ds : decode method_3_code 157 = .ok (.caload, 1) := by decide +kernel
theorem Gs : decode method_3_code 158 = .ok (.castore, 1) := by decide +kernel
theorem Hs : decode method_3_code 159 = .ok (.invokespecial 19, 3) := by decide +kernel
theorem Is : decode method_3_code 162 = .ok (.areturn, 1) := by decide +kernel
theorem Ks : decode method_3_code 163 = .ok (.new 8, 3) := by decide +kernel
theorem Ms : decode method_3_code 166 = .ok (.dup, 1) := by decide +kernel
theorem Ps : decode method_3_code 167 = .ok (.iconst 5, 1) := by decide +kernel
theorem Rs : decode method_3_code 168 = .ok (.newarray .char, 2) := by decide +kernel
theorem Us : decode method_3_code 170 = .ok (.dup, 1) := by decide +kernel
theorem Vs : decode method_3_code 171 = .ok (.iconst 0, 1) := by decide +kernel
theorem Ws : decode method_3_code 172 = .ok (.aload_n 0, 1) := by decide +kernel
theorem Ys : decode method_3_code 173 = .ok (.iconst 0, 1) := by decide +kernel
theorem Zs : decode method_3_code 174 = .ok (.caload, 1) := by decide +kernel
theorem Bt : decode method_3_code 175 = .ok (.castore, 1) := by decide +kernel
theorem Dt : decode method_3_code 176 = .ok (.dup, 1) := by decide +kernel
theorem Gt : decode method_3_code 177 = .ok (.iconst 1, 1) := by decide +kernel
theorem Ht : decode method_3_code 178 = .ok (.aload_n 0, 1) := by decide +kernel
theorem It : decode method_3_code 179 = .ok (.iconst 1, 1) := by decide +kernel
theorem Kt : decode method_3_code 180 = .ok (.caload, 1) := by decide +kernel
theorem Lt : decode method_3_code 181 = .ok (.castore, 1) := by decide +kernel
theorem Mt : decode method_3_code 182 = .ok (.dup, 1) := by decide +kernel
theorem Rt : decode method_3_code 183 = .ok (.iconst 2, 1) := by decide +kernel
theorem Ut : decode method_3_code 184 = .ok (.aload_n 0, 1) := by decide +kernel
theorem Vt : decode method_3_code 185 = .ok (.iconst 2, 1) := by decide +kernel
theorem Wt : decode method_3_code 186 = .ok (.caload, 1) := by decide +kernel
theorem Yt : decode method_3_code 187 = .ok (.castore, 1) := by decide +kernel
theorem Zt : decode method_3_code 188 = .ok (.dup, 1) := by decide +kernel
theorem Au : decode method_3_code 189 = .ok (.iconst 3, 1) := by decide +kernel
theorem Bu : decode method_3_code 190 = .ok (.aload_n 0, 1) := by decide +kernel
theorem Du : decode method_3_code 191 = .ok (.iconst 3, 1) := by decide +kernel
theorem Gu : decode method_3_code 192 = .ok (.caload, 1) := by decide +kernel
theorem Hu : decode method_3_code 193 = .ok (.castore, 1) := by decide +kernel
theorem Iu : decode method_3_code 194 = .ok (.dup, 1) := by decide +kernel
theorem Ku : decode method_3_code 195 = .ok (.iconst 4, 1) := by decide +kernel
theorem Lu : decode method_3_code 196 = .ok (.aload_n 0, 1) := by decide +kernel
theorem Mu : decode method_3_code 197 = .ok (.iconst 4, 1) := by decide +kernel
theorem Pu : decode method_3_code 198 = .ok (.caload, 1) := by decide +kernel
theorem Ru : decode method_3_code 199 = .ok (.castore, 1) := by decide +kernel
theorem Uu : decode method_3_code 200 = .ok (.invokespecial 19, 3) := by decide +kernel
theorem Vu : decode method_3_code 203 = .ok (.areturn, 1) := by decide +kernel
theorem Wu : decode method_3_code 204 = .ok (.new 8, 3) := by decide +kernel
theorem Yu : decode method_3_code 207 = .ok (.dup, 1) := by decide +kernel
theorem Zu : decode method_3_code 208 = .ok (.bipush 6, 2) := by decide +kernel
theorem Av : decode method_3_code 210 = .ok (.newarray .char, 2) := by decide +kernel
theorem Bv : decode method_3_code 212 = .ok (.dup, 1) := by decide +kernel
theorem Dv : decode method_3_code 213 = .ok (.iconst 0, 1) := by decide +kernel
theorem Gv : decode method_3_code 214 = .ok (.aload_n 0, 1) := by decide +kernel
theorem Hv : decode method_3_code 215 = .ok (.iconst 0, 1) := by decide +kernel
theorem Iv : decode method_3_code 216 = .ok (.caload, 1) := by decide +kernel
theorem Kv : decode method_3_code 217 = .ok (.castore, 1) := by decide +kernel
theorem Lv : decode method_3_code 218 = .ok (.dup, 1) := by decide +kernel
theorem Mv : decode method_3_code 219 = .ok (.iconst 1, 1) := by decide +kernel
theorem Pv : decode method_3_code 220 = .ok (.aload_n 0, 1) := by decide +kernel
theorem Rv : decode method_3_code 221 = .ok (.iconst 1, 1) := by decide +kernel
theorem Uv : decode method_3_code 222 = .ok (.caload, 1) := by decide +kernel
theorem Vv : decode method_3_code 223 = .ok (.castore, 1) := by decide +kernel
theorem Wv : decode method_3_code 224 = .ok (.dup, 1) := by decide +kernel
theorem Yv : decode method_3_code 225 = .ok (.iconst 2, 1) := by decide +kernel
theorem Zv : decode method_3_code 226 = .ok (.aload_n 0, 1) := by decide +kernel
theorem Aw : decode method_3_code 227 = .ok (.iconst 2, 1) := by decide +kernel
theorem Bw : decode method_3_code 228 = .ok (.caload, 1) := by decide +kernel
theorem Dw : decode method_3_code 229 = .ok (.castore, 1) := by decide +kernel
theorem Gw : decode method_3_code 230 = .ok (.dup, 1) := by decide +kernel
theorem Hw : decode method_3_code 231 = .ok (.iconst 3, 1) := by decide +kernel
theorem Iw : decode method_3_code 232 = .ok (.aload_n 0, 1) := by decide +kernel
theorem Kw : decode method_3_code 233 = .ok (.iconst 3, 1) := by decide +kernel
theorem Lw : decode method_3_code 234 = .ok (.caload, 1) := by decide +kernel
theorem Mw : decode method_3_code 235 = .ok (.castore, 1) := by decide +kernel
theorem Pw : decode method_3_code 236 = .ok (.dup, 1) := by decide +kernel
theorem Rw : decode method_3_code 237 = .ok (.iconst 4, 1) := by decide +kernel
theorem Uw : decode method_3_code 238 = .ok (.aload_n 0, 1) := by decide +kernel
theorem Vw : decode method_3_code 239 = .ok (.iconst 4, 1) := by decide +kernel
theorem Ww : decode method_3_code 240 = .ok (.caload, 1) := by decide +kernel
theorem Yw : decode method_3_code 241 = .ok (.castore, 1) := by decide +kernel
theorem Zw : decode method_3_code 242 = .ok (.dup, 1) := by decide +kernel
theorem Ax : decode method_3_code 243 = .ok (.iconst 5, 1) := by decide +kernel
theorem Bx : decode method_3_code 244 = .ok (.aload_n 0, 1) := by decide +kernel
theorem Dx : decode method_3_code 245 = .ok (.iconst 5, 1) := by decide +kernel
theorem Gx : decode method_3_code 246 = .ok (.caload, 1) := by decide +kernel
theorem Hx : decode method_3_code 247 = .ok (.castore, 1) := by decide +kernel
theorem Ix : decode method_3_code 248 = .ok (.invokespecial 19, 3) := by decide +kernel
theorem Kx : decode method_3_code 251 = .ok (.areturn, 1) := by decide +kernel
theorem Lx : decode method_3_code 252 = .ok (.new 8, 3) := by decide +kernel
theorem Mx : decode method_3_code 255 = .ok (.dup, 1) := by decide +kernel
theorem Px : decode method_3_code 256 = .ok (.bipush 7, 2) := by decide +kernel
theorem Rx : decode method_3_code 258 = .ok (.newarray .char, 2) := by decide +kernel
theorem Ux : decode method_3_code 260 = .ok (.dup, 1) := by decide +kernel
theorem Vx : decode method_3_code 261 = .ok (.iconst 0, 1) := by decide +kernel
theorem Wx : decode method_3_code 262 = .ok (.aload_n 0, 1) := by decide +kernel
theorem Yx : decode method_3_code 263 = .ok (.iconst 0, 1) := by decide +kernel
theorem Zx : decode method_3_code 264 = .ok (.caload, 1) := by decide +kernel
theorem Ay : decode method_3_code 265 = .ok (.castore, 1) := by decide +kernel
theorem Dy : decode method_3_code 266 = .ok (.dup, 1) := by decide +kernel
theorem Gy : decode method_3_code 267 = .ok (.iconst 1, 1) := by decide +kernel
theorem Hy : decode method_3_code 268 = .ok (.aload_n 0, 1) := by decide +kernel
theorem Iy : decode method_3_code 269 = .ok (.iconst 1, 1) := by decide +kernel
theorem Ky : decode method_3_code 270 = .ok (.caload, 1) := by decide +kernel
theorem Ly : decode method_3_code 271 = .ok (.castore, 1) := by decide +kernel
theorem My : decode method_3_code 272 = .ok (.dup, 1) := by decide +kernel
theorem Py : decode method_3_code 273 = .ok (.iconst 2, 1) := by decide +kernel
theorem Ry : decode method_3_code 274 = .ok (.aload_n 0, 1) := by decide +kernel
theorem Uy : decode method_3_code 275 = .ok (.iconst 2, 1) := by decide +kernel
theorem Vy : decode method_3_code 276 = .ok (.caload, 1) := by decide +kernel
theorem Wy : decode method_3_code 277 = .ok (.castore, 1) := by decide +kernel
theorem Yy : decode method_3_code 278 = .ok (.dup, 1) := by decide +kernel
theorem Zy : decode method_3_code 279 = .ok (.iconst 3, 1) := by decide +kernel
theorem Az : decode method_3_code 280 = .ok (.aload_n 0, 1) := by decide +kernel
theorem Bz : decode method_3_code 281 = .ok (.iconst 3, 1) := by decide +kernel
theorem Dz : decode method_3_code 282 = .ok (.caload, 1) := by decide +kernel
theorem Gz : decode method_3_code 283 = .ok (.castore, 1) := by decide +kernel
theorem Hz : decode method_3_code 284 = .ok (.dup, 1) := by decide +kernel
theorem Iz : decode method_3_code 285 = .ok (.iconst 4, 1) := by decide +kernel
theorem Kz : decode method_3_code 286 = .ok (.aload_n 0, 1) := by decide +kernel
theorem Lz : decode method_3_code 287 = .ok (.iconst 4, 1) := by decide +kernel
theorem Mz : decode method_3_code 288 = .ok (.caload, 1) := by decide +kernel
theorem Pz : decode method_3_code 289 = .ok (.castore, 1) := by decide +kernel
theorem Rz : decode method_3_code 290 = .ok (.dup, 1) := by decide +kernel
theorem Uz : decode method_3_code 291 = .ok (.iconst 5, 1) := by decide +kernel
theorem Vz : decode method_3_code 292 = .ok (.aload_n 0, 1) := by decide +kernel
theorem Wz : decode method_3_code 293 = .ok (.iconst 5, 1) := by decide +kernel
theorem Yz : decode method_3_code 294 = .ok (.caload, 1) := by decide +kernel
theorem Zz : decode method_3_code 295 = .ok (.castore, 1) := by decide +kernel
theorem A0 : decode method_3_code 296 = .ok (.dup, 1) := by decide +kernel
theorem B0 : decode method_3_code 297 = .ok (.bipush 6, 2) := by decide +kernel
theorem D0 : decode method_3_code 299 = .ok (.aload_n 0, 1) := by decide +kernel
theorem G0 : decode method_3_code 300 = .ok (.bipush 6, 2) := by decide +kernel
theorem H0 : decode method_3_code 302 = .ok (.caload, 1) := by decide +kernel
theorem I0 : decode method_3_code 303 = .ok (.castore, 1) := by decide +kernel
theorem K0 : decode method_3_code 304 = .ok (.invokespecial 19, 3) := by decide +kernel
theorem L0 : decode method_3_code 307 = .ok (.areturn, 1) := by decide +kernel
theorem M0 : decode method_3_code 308 = .ok (.new 8, 3) := by decide +kernel
theorem R0 : decode method_3_code 311 = .ok (.dup, 1) := by decide +kernel
theorem U0 : decode method_3_code 312 = .ok (.bipush 8, 2) := by decide +kernel
theorem V0 : decode method_3_code 314 = .ok (.newarray .char, 2) := by decide +kernel
theorem W0 : decode method_3_code 316 = .ok (.dup, 1) := by decide +kernel
theorem Y0 : decode method_3_code 317 = .ok (.iconst 0, 1) := by decide +kernel
theorem Z0 : decode method_3_code 318 = .ok (.aload_n 0, 1) := by decide +kernel
theorem A1 : decode method_3_code 319 = .ok (.iconst 0, 1) := by decide +kernel
theorem B1 : decode method_3_code 320 = .ok (.caload, 1) := by decide +kernel
theorem D1 : decode method_3_code 321 = .ok (.castore, 1) := by decide +kernel
theorem G1 : decode method_3_code 322 = .ok (.dup, 1) := by decide +kernel
theorem H1 : decode method_3_code 323 = .ok (.iconst 1, 1) := by decide +kernel
theorem I1 : decode method_3_code 324 = .ok (.aload_n 0, 1) := by decide +kernel
theorem L1 : decode method_3_code 325 = .ok (.iconst 1, 1) := by decide +kernel
theorem M1 : decode method_3_code 326 = .ok (.caload, 1) := by decide +kernel
theorem R1 : decode method_3_code 327 = .ok (.castore, 1) := by decide +kernel
theorem U1 : decode method_3_code 328 = .ok (.dup, 1) := by decide +kernel
theorem V1 : decode method_3_code 329 = .ok (.iconst 2, 1) := by decide +kernel
theorem W1 : decode method_3_code 330 = .ok (.aload_n 0, 1) := by decide +kernel
theorem Y1 : decode method_3_code 331 = .ok (.iconst 2, 1) := by decide +kernel
theorem Z1 : decode method_3_code 332 = .ok (.caload, 1) := by decide +kernel
theorem A2 : decode method_3_code 333 = .ok (.castore, 1) := by decide +kernel
theorem B2 : decode method_3_code 334 = .ok (.dup, 1) := by decide +kernel
theorem G2 : decode method_3_code 335 = .ok (.iconst 3, 1) := by decide +kernel
theorem H2 : decode method_3_code 336 = .ok (.aload_n 0, 1) := by decide +kernel
theorem I2 : decode method_3_code 337 = .ok (.iconst 3, 1) := by decide +kernel
theorem L2 : decode method_3_code 338 = .ok (.caload, 1) := by decide +kernel
theorem M2 : decode method_3_code 339 = .ok (.castore, 1) := by decide +kernel
theorem R2 : decode method_3_code 340 = .ok (.dup, 1) := by decide +kernel
theorem U2 : decode method_3_code 341 = .ok (.iconst 4, 1) := by decide +kernel
theorem V2 : decode method_3_code 342 = .ok (.aload_n 0, 1) := by decide +kernel
theorem W2 : decode method_3_code 343 = .ok (.iconst 4, 1) := by decide +kernel
theorem Y2 : decode method_3_code 344 = .ok (.caload, 1) := by decide +kernel
theorem Z2 : decode method_3_code 345 = .ok (.castore, 1) := by decide +kernel
theorem A3 : decode method_3_code 346 = .ok (.dup, 1) := by decide +kernel
theorem G3 : decode method_3_code 347 = .ok (.iconst 5, 1) := by decide +kernel
theorem H3 : decode method_3_code 348 = .ok (.aload_n 0, 1) := by decide +kernel
theorem I3 : decode method_3_code 349 = .ok (.iconst 5, 1) := by decide +kernel
theorem L3 : decode method_3_code 350 = .ok (.caload, 1) := by decide +kernel
theorem M3 : decode method_3_code 351 = .ok (.castore, 1) := by decide +kernel
theorem R3 : decode method_3_code 352 = .ok (.dup, 1) := by decide +kernel
theorem U3 : decode method_3_code 353 = .ok (.bipush 6, 2) := by decide +kernel
theorem V3 : decode method_3_code 355 = .ok (.aload_n 0, 1) := by decide +kernel
theorem W3 : decode method_3_code 356 = .ok (.bipush 6, 2) := by decide +kernel
theorem Y3 : decode method_3_code 358 = .ok (.caload, 1) := by decide +kernel
theorem Z3 : decode method_3_code 359 = .ok (.castore, 1) := by decide +kernel
theorem A4 : decode method_3_code 360 = .ok (.dup, 1) := by decide +kernel
theorem B4 : decode method_3_code 361 = .ok (.bipush 7, 2) := by decide +kernel
theorem D4 : decode method_3_code 363 = .ok (.aload_n 0, 1) := by decide +kernel
theorem G4 : decode method_3_code 364 = .ok (.bipush 7, 2) := by decide +kernel
theorem H4 : decode method_3_code 366 = .ok (.caload, 1) := by decide +kernel
theorem I4 : decode method_3_code 367 = .ok (.castore, 1) := by decide +kernel
theorem L4 : decode method_3_code 368 = .ok (.invokespecial 19, 3) := by decide +kernel
theorem M4 : decode method_3_code 371 = .ok (.areturn, 1) := by decide +kernel
abbrev R7 : MethodName := ⟨"com/example/entitlement_ledger/entitlementledger/model/AssigneeKindOfCollectionNamePinLaw", "make", "([CI)Ljava/lang/String;"⟩
def Q_mk (Z : State) (q0 : Addr) (kq : ClassId) (nq : Int32) (c0 : Int32) (c1 : Int32) (c2 : Int32) (c3 : Int32) (c4 : Int32) (c5 : Int32) (c6 : Int32) (c7 : Int32) (Wa : Addr) (Va : Addr) (Ua : Addr) (Ra : Addr) (Ia : Addr) (Da : Addr) (Ha : Addr) (Ba : Addr) (Ga : Addr) (Aa : Addr) (Ma : Int32) (La : Value) (Bb : Addr) (h0 : Heap) (n0 : Nat) (v : Option Value) (h : Heap) (L : List Loc) : Prop := ∃ (b : Addr) (t : Addr) (k : ClassId) (z : Int32) (vs : List Value) (cs : List Int32), v = some (.ref b) ∧ Fr n0 L ∧ Old Z n0 h ∧ Keep h0 h [] ∧ n0 ≤ b ∧ h0.size ≤ b ∧ Exa Z h b "java/lang/String" ∧ Fld Z h b "java/lang/String" "coder" "B" (.int 0) ∧ Fld Z h b "java/lang/String" "value" "[B" (.ref t) ∧ Arv Z h t k .byte z vs (.int 0) ∧ (StrChars.Road.CodA cs 0 z vs) ∧ (∀ c ∈ cs, ¬ c < 0 ∧ ¬ (255 : Int32) < c) ∧ (cs.length ≤ 4000)
set_option maxRecDepth 65536 in
set_option maxHeartbeats 40000000 in
theorem rm_mk (l : Launch) (Z : State) (a0 : Array Value) (hw : ∀ d ∈ tables_1, d.before a0 Z = true) (ws : List Jvm.Cond) (q0 : Addr) (kq : ClassId) (nq : Int32) (c0 : Int32) (c1 : Int32) (c2 : Int32) (c3 : Int32) (c4 : Int32) (c5 : Int32) (c6 : Int32) (c7 : Int32) (Wa : Addr) (Va : Addr) (Ua : Addr) (Ra : Addr) (Ia : Addr) (Da : Addr) (Ha : Addr) (Ba : Addr) (Ga : Addr) (Aa : Addr) (Ma : Int32) (La : Value) (Bb : Addr) (h0 : Heap) (n0 : Nat) (O0 : Old Z n0 h0) (hE : EV Z Wa Va Ua Ra Ia Da Ha Ba Ga Aa Ma La Bb) (P0 : Arv Z h0 q0 kq .char (8 : Int32) [(.int c0), (.int c1), (.int c2), (.int c3), (.int c4), (.int c5), (.int c6), (.int c7)] (.int 0)) (rc0 : ¬ c0 < 0 ∧ ¬ (255 : Int32) < c0) (rc1 : ¬ c1 < 0 ∧ ¬ (255 : Int32) < c1) (rc2 : ¬ c2 < 0 ∧ ¬ (255 : Int32) < c2) (rc3 : ¬ c3 < 0 ∧ ¬ (255 : Int32) < c3) (rc4 : ¬ c4 < 0 ∧ ¬ (255 : Int32) < c4) (rc5 : ¬ c5 < 0 ∧ ¬ (255 : Int32) < c5) (rc6 : ¬ c6 < 0 ∧ ¬ (255 : Int32) < c6) (rc7 : ¬ c7 < 0 ∧ ¬ (255 : Int32) < c7) (hn : nq = (0 : Int32) ∨ nq = (1 : Int32) ∨ nq = (2 : Int32) ∨ nq = (3 : Int32) ∨ nq = (4 : Int32) ∨ nq = (5 : Int32) ∨ nq = (6 : Int32) ∨ nq = (7 : Int32) ∨ nq = (8 : Int32)) :
    MetFree l R7 (head1 (Jvm.Cond.code R7 method_3_code 2 (some (.object "java/lang/String")) :: ws) ({ frames := 4, cells := 6, slots := 20, locals := 66 } : Room)) (fun a U => a = #[(.ref q0), (.int nq)] ∧ Z.Warmed39 U.vm ∧ U.heap = h0 ∧ CHv Z Uc U.vm h0) (fun _ _ _ _ _ => True) (fun _ U o U' => ∃ v L, o = .returned v ∧ Q_mk Z q0 kq nq c0 c1 c2 c3 c4 c5 c6 c7 Wa Va Ua Ra Ia Da Ha Ba Ga Aa Ma La Bb h0 n0 v U'.heap L ∧ CHr Z Uc U.vm U.heap U'.vm U'.heap ∧ ReturnedEndW U o U' L ({ frames := 4, cells := 6, slots := 20, locals := 66 } : Room).cells ({ frames := 4, cells := 6, slots := 20, locals := 66 } : Room).slots) := by
  refine MetFree.of_bodySF (plainFor_of_name Ib) hisR ?_
  intro p e s m args below meth c s₁ Bd hml0 hP hK
  obtain ⟨rfl, hZ, hh, hCH⟩ := hP
  have hx := Bd.exec
  have hby := Bd.bytes
  have hml : c.maxLocals = 2 := hml0
  have hown : s.vm.findClass "com/example/entitlement_ledger/entitlementledger/model/AssigneeKindOfCollectionNamePinLaw" = some m.cls := findClass_of_methodNamed Bd.named
  have hnm := (name_of_methodNamed Bd.named Bd.method).1
  have X00 : Stand p l e ({ frames := 4, cells := 6, slots := 20, locals := 66 } : Room) s m #[(.ref q0), (.int nq)] below meth c s₁ [] 0 0 := Stand.of_body Bd
  have e00 : s₁.heap = h0 := by rw [← hh, Bd.state]; rfl
  have N00 := Fr.nil n0
  refine Classical.byContradiction fun hNG => ?_
  have K00 := Keep.refl h0 []
  have k00 : ∀ t, Db p e below m s₁ 0 #[.val (.ref q0), .val (.int nq)] [] t → Kb p e below m s₁ #[(.ref q0), (.int nq)] 2 t := fun t k => castTop (ef_mk m q0 nq ) k
  have hS : s.Since s.vm 0 := (State.WarmedH.refl s).since 0
  have X00 : Stand p l e ({ frames := 4, cells := 6, slots := 20, locals := 66 } : Room) (s.setVm s.vm) m #[(.ref q0), (.int nq)] below meth c s₁ [] 0 0 := X00
  have hZ : Z.Warmed39 (s.setVm s.vm).vm := hZ
  have hown : (s.setVm s.vm).vm.findClass "com/example/entitlement_ledger/entitlementledger/model/AssigneeKindOfCollectionNamePinLaw" = some m.cls := hown
  have CR0 : CHr Z Uc s.vm h0 s.vm h0 := CHr.refl hCH
  obtain ⟨Ye, Ze, Ae, Be, Ue, Ve, Ke, Le, Dc, Wb, Ub, Vb, Bc, Yb, Pb, Rb, Ac, Zb, Lb, Mb, Hb, Gb, Hc, Gc, We, Re, Rc, De, Ab, Za, Ya⟩ := (id hE : EV Z Wa Va Ua Ra Ia Da Ha Ba Ga Aa Ma La Bb)
  obtain ⟨kw_USER_collectionName, Aw_USER_collectionName⟩ := Ab.arv
  obtain ⟨kw_GROUP_collectionName, Aw_GROUP_collectionName⟩ := Za.arv
  obtain ⟨kw_DEVICE_collectionName, Aw_DEVICE_collectionName⟩ := Ya.arv
  have k10 : ∀ t, Db p e below m s₁ 1 #[.val (.ref q0), .val (.int nq)] [(.int nq)] t → Kb p e below m s₁ #[(.ref q0), (.int nq)] 2 t := by
    intro t k
    refine k00 t ?_
    refine XS.iloadN X00.here hx rfl (hb hby L7) rfl ?_
    exact k
  rcases hn with hs11 | hs11 | hs11 | hs11 | hs11 | hs11 | hs11 | hs11 | hs11
  · have k12 : ∀ t, Db p e below m s₁ 1 #[.val (.ref q0), .val (.int 0)] [(.int 0)] t → Kb p e below m s₁ #[(.ref q0), (.int nq)] 2 t := by
      intro t k
      refine k10 t ?_
      rw [hs11]
      exact k
    obtain ⟨T13, h13, X13, e13, E13, A13, D13, -, st13⟩ := newO X00 hx hZ hown (Ka hw 52 rfl) (Ka hw 2 rfl) (Ka hw 1 rfl) e00 (g := (mkF m 48 #[.val (.ref q0), .val (.int 0)] [])) rfl (hb hby P4) (by decide) (by decide)
    obtain ⟨b13, g13⟩ : ∃ z, z = h0.size := ⟨_, rfl⟩
    have Sf13 : Safe Z Uc _ h13 b13 := Safe.ext E13 CR0.1 (Safe.new (Nat.le_of_eq g13.symm))
    have CR14 := CR0.trans (CHr.ext E13 CR0.1)
    rw [← g13] at A13 D13 st13
    have O13 := O0.ext E13
    have g_b13 : n0 ≤ b13 := Nat.le_trans (Nat.le_of_eq O0.1.symm) (Nat.le_trans O0.2.1 (Nat.le_of_eq g13.symm))
    have s_b13 : h0.size ≤ b13 := Nat.le_trans K00.1 (Nat.le_of_eq g13.symm)
    have K13 := K00.ext E13
    have lt_b13 := A13.lt
    have F13_value : Fld Z h13 b13 "java/lang/String" "value" "[B" .null := D13 (Or.inr (Ka hw 4 rfl)) (ty := (.array .byte)) (by decide)
    have F13_coder : Fld Z h13 b13 "java/lang/String" "coder" "B" (.int 0) := D13 (Or.inr (Ka hw 5 rfl)) (ty := .byte) (by decide)
    obtain ⟨T15, h15, c15, X15, e15, E15, A15, st15⟩ := newP X13 hx hZ (Ka hw 21 rfl) e13 (g := (mkF m 53 #[.val (.ref q0), .val (.int 0)] [(.int 0), (.ref b13), (.ref b13)])) rfl (hb hby V4) rfl (by decide) (cap := 0) (by decide) (by decide) (by decide) (by decide)
    obtain ⟨b15, g15⟩ : ∃ z, z = h13.size := ⟨_, rfl⟩
    have Sf15 : Safe Z Uc _ h15 b15 := Safe.ext E15 CR14.1 (Safe.new (Nat.le_of_eq g15.symm))
    have CR16 := CR14.trans (CHr.ext E15 CR14.1)
    rw [← g15] at A15 st15
    have O15 := O13.ext E15
    have g_b15 : n0 ≤ b15 := Nat.le_trans (Nat.le_of_eq O13.1.symm) (Nat.le_trans O13.2.1 (Nat.le_of_eq g15.symm))
    have s_b15 : h0.size ≤ b15 := Nat.le_trans K13.1 (Nat.le_of_eq g15.symm)
    have K15 := K13.ext E15
    have V15 : Arv Z h15 b15 c15 .char (0 : Int32) [] (.int 0) := (Arv.new A15 (by decide)).pad (pad_rep [] (.int 0) 0)
    have lt_b15 := V15.lt
    have f17 := (A13.ext E15)
    have f18 := (F13_value.ext E15)
    have f19 := (F13_coder.ext E15)
    obtain ⟨_, _, ⟨T20, L20, k20, n20⟩, -, X20, hS20, hg20, ⟨Lc20, hQ20, l20, y20, z20, hC20⟩, st20⟩ := X15.specialBackS hx (y := Dk) rfl hown (mvT hZ (Ka hw 53 rfl)) (mvT hZ (Ka hw 54 rfl)) (mvT hZ (Ka hw 55 rfl)) (by decide) (backOfSH (W := 1) (rm_i1 l Z a0 hw [] b13 b15 c15 _ _ _ _ _ _ _ _ _ _ _ _ _ h15 n0 O15 hE f17 f18 f19 V15 g_b13 ) hZ (Ka hw 55 rfl) (Ka hw 1 rfl) (by decide) (by decide) (Af hw) CR16.1) (g := (mkF m 55 #[.val (.ref q0), .val (.int 0)] [(.ref b15), (.ref b13), (.ref b13)])) rfl (by rw [hml]; rfl) (Steps.refl _) (a := b13) (argsL := [(.ref b15)]) (rest := [(.ref b13)]) (lenOf Ij rfl) rfl (by show 2 * 0 + _ ≤ _; exact Nat.le_of_eq rfl) (hb hby W4) (fun _ _ => ⟨rfl, e15, (by decide : 2 + 4 ≤ _), (by decide : 4 + 8 ≤ _)⟩)
    dsimp only [Pt.U, Pt.locs, Pt.cells, Pt.slots] at X20 l20 y20 z20 st20 hQ20 hS20 hg20 hC20
    subst l20 y20 z20
    obtain ⟨X20, hS, hZ, hown⟩ := rebS hS (by rw [e15]; exact (Nat.le_trans (Nat.le_trans (Nat.zero_le _) E13.1) E15.1)) X20 hS20 hg20 hZ hown
    obtain ⟨t20, k20, rfl, N20q, O20, Kc20, F20_0, F20_1, F20_2, F20_3⟩ := hQ20
    have N20 := Fr.app N00 N20q
    have CR21 := CR16.trans hC20
    have K20 := K15.trans Kc20 (allS (Or.inr s_b13) all0)
    have lt_t20 := F20_3.lt
    have k22 : ∀ t, Db p e below m T20 58 #[.val (.ref q0), .val (.int 0)] [(.ref b13)] t → Kb p e below m s₁ #[(.ref q0), (.int nq)] 2 t := by
      intro t k
      refine k12 t ?_
      refine XS.tswIn X00.here hx rfl (pc0 := 1) (pc' := 48) rfl (hb hby Hf) rfl (by decide) (o := 47) (by decide) (by decide) (by decide) ?_
      refine st13 _ ?_
      refine XS.dup X13.here hx rfl (hb hby R4) rfl rfl ?_
      refine XS.iconst X13.here hx rfl (hb hby U4) ?_
      refine st15 _ ?_
      refine st20.trans ?_
      exact k
    obtain ⟨fs, hr, hrun, hended, hRW⟩ := X20.leaveW hS (by exact (Nat.le_refl _)) (v := some (.ref b13)) (fun h => by rw [Bd.returns] at h; cases h)
    refine hNG ⟨_, _, k22 _ ?_, hrun, hended, _, _, rfl, ?_, by rw [hh]; show CHr Z Uc s.vm h0 T20.vm T20.heap; exact CR21.trans (CHv.at X20 hZ (Af hw) CR21.1), hRW.1, hRW.2.1, hRW.2.2.1, hRW.2.2.2.mono (by decide) (by decide)⟩
    · exact retOut X20 hx (t := (.object "java/lang/String")) Bd.returns rfl (Or.inr (Or.inr (Or.inr (Or.inr ⟨rfl, rfl, rfl⟩)))) (hb hby Y4) hr
    · show Q_mk Z q0 kq nq c0 c1 c2 c3 c4 c5 c6 c7 Wa Va Ua Ra Ia Da Ha Ba Ga Aa Ma La Bb h0 n0 _ T20.heap _
      exact ⟨b13, t20, k20, (0 : Int32), [], [], rfl, N20, O20, K20, g_b13, s_b13, F20_0, F20_1, F20_2, F20_3, StrChars.Road.codOf (cs := []) (n := 0) rfl (fun c hc => nomatch hc), (fun c hc => nomatch hc), (Nat.le_of_ble_eq_true rfl)⟩
  · have k23 : ∀ t, Db p e below m s₁ 1 #[.val (.ref q0), .val (.int 1)] [(.int 1)] t → Kb p e below m s₁ #[(.ref q0), (.int nq)] 2 t := by
      intro t k
      refine k10 t ?_
      rw [hs11]
      exact k
    obtain ⟨T24, h24, X24, e24, E24, A24, D24, -, st24⟩ := newO X00 hx hZ hown (Ka hw 52 rfl) (Ka hw 2 rfl) (Ka hw 1 rfl) e00 (g := (mkF m 59 #[.val (.ref q0), .val (.int 1)] [])) rfl (hb hby Z4) (by decide) (by decide)
    obtain ⟨b24, g24⟩ : ∃ z, z = h0.size := ⟨_, rfl⟩
    have Sf24 : Safe Z Uc _ h24 b24 := Safe.ext E24 CR0.1 (Safe.new (Nat.le_of_eq g24.symm))
    have CR25 := CR0.trans (CHr.ext E24 CR0.1)
    rw [← g24] at A24 D24 st24
    have O24 := O0.ext E24
    have g_b24 : n0 ≤ b24 := Nat.le_trans (Nat.le_of_eq O0.1.symm) (Nat.le_trans O0.2.1 (Nat.le_of_eq g24.symm))
    have s_b24 : h0.size ≤ b24 := Nat.le_trans K00.1 (Nat.le_of_eq g24.symm)
    have K24 := K00.ext E24
    have lt_b24 := A24.lt
    have F24_value : Fld Z h24 b24 "java/lang/String" "value" "[B" .null := D24 (Or.inr (Ka hw 4 rfl)) (ty := (.array .byte)) (by decide)
    have F24_coder : Fld Z h24 b24 "java/lang/String" "coder" "B" (.int 0) := D24 (Or.inr (Ka hw 5 rfl)) (ty := .byte) (by decide)
    obtain ⟨T26, h26, c26, X26, e26, E26, A26, st26⟩ := newP X24 hx hZ (Ka hw 21 rfl) e24 (g := (mkF m 64 #[.val (.ref q0), .val (.int 1)] [(.int 1), (.ref b24), (.ref b24)])) rfl (hb hby D5) rfl (by decide) (cap := 1) (by decide) (by decide) (by decide) (by decide)
    obtain ⟨b26, g26⟩ : ∃ z, z = h24.size := ⟨_, rfl⟩
    have Sf26 : Safe Z Uc _ h26 b26 := Safe.ext E26 CR25.1 (Safe.new (Nat.le_of_eq g26.symm))
    have CR27 := CR25.trans (CHr.ext E26 CR25.1)
    rw [← g26] at A26 st26
    have O26 := O24.ext E26
    have g_b26 : n0 ≤ b26 := Nat.le_trans (Nat.le_of_eq O24.1.symm) (Nat.le_trans O24.2.1 (Nat.le_of_eq g26.symm))
    have s_b26 : h0.size ≤ b26 := Nat.le_trans K24.1 (Nat.le_of_eq g26.symm)
    have K26 := K24.ext E26
    have V26 : Arv Z h26 b26 c26 .char (1 : Int32) [(.int 0)] (.int 0) := (Arv.new A26 (by decide)).pad (pad_rep [] (.int 0) 1)
    have lt_b26 := V26.lt
    have f28 := ((P0.ext E24).ext E26)
    obtain ⟨cl29, Ar29, q29, Sz29, Nn29, Hs29, Gf29⟩ := id f28
    have hin30 : ¬ ((0 : Int32) < 0 ∨ cl29.slots.size ≤ ((0 : Int32)).toNatClampNeg) := inb_of Sz29 ⟨by decide, by decide⟩
    have hat31 : cl29.slots[((0 : Int32)).toNatClampNeg]? = some (.int c0) := Hs29.at hin30 rfl
    obtain ⟨cl32, Ar32, q32, Sz32, Nn32, Hs32, Gf32⟩ := id V26
    have hin33 : ¬ ((0 : Int32) < 0 ∨ cl32.slots.size ≤ ((0 : Int32)).toNatClampNeg) := inb_of Sz32 ⟨by decide, by decide⟩
    obtain ⟨T34, h34, X34, e34, W34, st34⟩ := stC X26 hx hZ e26 Ar32 (j := (0 : Int32)) hin33 (g := (mkF m 71 #[.val (.ref q0), .val (.int 1)] [(.int c0), (.int 0), (.ref b26), (.ref b26), (.ref b24), (.ref b24)])) rfl rfl (hb hby P5)
    have V34 : Arv Z h34 b26 c26 .char (1 : Int32) [(.int c0)] (.int 0) := by
      have q := Arv.set Ar32 q32 Sz32 Nn32 Hs32 Gf32 (fits_nar_char _) W34 0 rfl (Nat.le_of_ble_eq_true rfl)
      first | exact q | (simp only [Pa rc0, Pa rc1, Pa rc2, Pa rc3, Pa rc4, Pa rc5, Pa rc6, Pa rc7] at q; exact q)
    have CR35 := CR27.trans (CHr.wr W34 Sf26 CR27.1)
    have N34 := Fr.snoc X34 N00 g_b26
    have O34 := O26.wr W34 g_b26
    have K34 := K26.wr W34 (Or.inr s_b26)
    have k36 : ∀ t, Db p e below m T34 72 #[.val (.ref q0), .val (.int 1)] [(.ref b26), (.ref b24), (.ref b24)] t → Kb p e below m s₁ #[(.ref q0), (.int nq)] 2 t := by
      intro t k
      refine k23 t ?_
      refine XS.tswIn X00.here hx rfl (pc0 := 1) (pc' := 59) rfl (hb hby Hf) rfl (by decide) (o := 58) (by decide) (by decide) (by decide) ?_
      refine st24 _ ?_
      refine XS.dup X24.here hx rfl (hb hby A5) rfl rfl ?_
      refine XS.iconst X24.here hx rfl (hb hby B5) ?_
      refine st26 _ ?_
      refine XS.dup X26.here hx rfl (hb hby G5) rfl rfl ?_
      refine XS.iconst X26.here hx rfl (hb hby H5) ?_
      refine XS.aloadN X26.here hx rfl (hb hby I5) rfl rfl ?_
      refine XS.iconst X26.here hx rfl (hb hby L5) ?_
      refine X26.caload hx (j := (0 : Int32)) (v := (.int c0)) (by rw [e26]; exact Ar29.1) (State.isArrayOf_alike hZ.alike Ar29.2.1) Ar29.2.2 hin30 hat31 (g := (mkF m 70 #[.val (.ref q0), .val (.int 1)] [(.int 0), (.ref q0), (.int 0), (.ref b26), (.ref b26), (.ref b24), (.ref b24)])) rfl rfl (hb hby M5) _ ?_
      refine st34 _ ?_
      exact k
    have f37 := ((A24.ext E26).wr W34)
    have ne38 : ¬ (b24 = b26) := (Nat.ne_of_lt (Nat.lt_of_lt_of_le lt_b24 (Nat.le_of_eq g26.symm)))
    have f39 := ((F24_value.ext E26).other W34 (Or.inl ne38))
    have f40 := ((F24_coder.ext E26).other W34 (Or.inl ne38))
    have hp41 : ∀ c ∈ ([c0] : List Int32), ¬ c < 0 ∧ ¬ (255 : Int32) < c := (fun c hc => by rw [List.mem_singleton.mp hc]; exact rc0)
    obtain ⟨_, _, ⟨T42, L42, k42, n42⟩, -, X42, ⟨Lc42, hQ42, l42, y42, z42⟩, st42⟩ := X34.specialBack hx (y := Dk) rfl hown (mvT hZ (Ka hw 53 rfl)) (mvT hZ (Ka hw 54 rfl)) (mvT hZ (Ka hw 55 rfl)) (by decide) (StrChars.Road.backV (W := 1) hZ (Ik hw) (kI := 4) (Ka hw 2 rfl) (cs := ([c0] : List Int32)) (bs := (([c0] : List Int32)).map (fun c => c.toInt8.toInt32)) (n := 1) g_b24 (Nat.le_trans (Nat.le_of_eq O34.1.symm) O34.2.1) f37 f39 f40 V34 (Hb.ext O34.2) Gb rfl rfl (by decide) (by decide) hp41 rfl (by decide) (by decide)) (g := (mkF m 72 #[.val (.ref q0), .val (.int 1)] [(.ref b26), (.ref b24), (.ref b24)])) rfl (by rw [hml]; rfl) (Steps.refl _) (a := b24) (argsL := [(.ref b26)]) (rest := [(.ref b24)]) (lenOf Ij rfl) rfl (by show 2 * 0 + _ ≤ _; exact Nat.le_of_eq rfl) (hb hby R5) (fun _ _ => ⟨rfl, e34, (by decide : 2 + 1 ≤ _), (by decide : 5 + 1 ≤ _)⟩)
    dsimp only [Pt.U, Pt.locs, Pt.cells, Pt.slots] at X42 l42 y42 z42 st42 hQ42
    subst l42 y42 z42
    obtain ⟨rfl, N42q, Kc42, Ex42, Fc42, t42, kb42, g_t42, gs_t42, nx42, Fv42, Av42⟩ := hQ42
    have N42 := Fr.app N34 N42q
    have O42 := O34.keep Kc42 (allS g_b24 all0)
    have sf44 := (Safe.wr W34 Sf26 CR27.1 (Safe.ext E26 CR25.1 Sf24))
    have CR43 := CR35.trans (CHr.keep Kc42 (allS sf44 all0) CR35.1)
    have K42 := K34.trans Kc42 (allS (Or.inr s_b24) all0)
    have s_t42 := Nat.le_trans K34.1 gs_t42
    have lt_t42 := Av42.lt
    have k45 : ∀ t, Db p e below m T42 75 #[.val (.ref q0), .val (.int 1)] [(.ref b24)] t → Kb p e below m s₁ #[(.ref q0), (.int nq)] 2 t := by
      intro t k
      refine k36 t ?_
      refine st42.trans ?_
      exact k
    obtain ⟨fs, hr, hrun, hended, hRW⟩ := X42.leaveW hS (by exact (Nat.le_trans (Nat.le_trans (Nat.le_trans (Nat.le_trans (Nat.zero_le _) E24.1) E26.1) (Keep.of_wr W34).1) Kc42.1)) (v := some (.ref b24)) (fun h => by rw [Bd.returns] at h; cases h)
    refine hNG ⟨_, _, k45 _ ?_, hrun, hended, _, _, rfl, ?_, by rw [hh]; show CHr Z Uc s.vm h0 T42.vm T42.heap; exact CR43.trans (CHv.at X42 hZ (Af hw) CR43.1), hRW.1, hRW.2.1, hRW.2.2.1, hRW.2.2.2.mono (by decide) (by decide)⟩
    · exact retOut X42 hx (t := (.object "java/lang/String")) Bd.returns rfl (Or.inr (Or.inr (Or.inr (Or.inr ⟨rfl, rfl, rfl⟩)))) (hb hby U5) hr
    · show Q_mk Z q0 kq nq c0 c1 c2 c3 c4 c5 c6 c7 Wa Va Ua Ra Ia Da Ha Ba Ga Aa Ma La Bb h0 n0 _ T42.heap _
      exact ⟨b24, t42, kb42, (1 : Int32), ((([c0] : List Int32)).map (fun c => c.toInt8.toInt32)).map Value.int, ([c0] : List Int32), rfl, N42, O42, K42, g_b24, s_b24, Ex42, Fc42, Fv42, Av42, StrChars.Road.codOf (cs := ([c0] : List Int32)) (n := 1) rfl (fun c hc => (hp41 c hc).2), hp41, (Nat.le_of_ble_eq_true rfl)⟩
  · have k46 : ∀ t, Db p e below m s₁ 1 #[.val (.ref q0), .val (.int 2)] [(.int 2)] t → Kb p e below m s₁ #[(.ref q0), (.int nq)] 2 t := by
      intro t k
      refine k10 t ?_
      rw [hs11]
      exact k
    obtain ⟨T47, h47, X47, e47, E47, A47, D47, -, st47⟩ := newO X00 hx hZ hown (Ka hw 52 rfl) (Ka hw 2 rfl) (Ka hw 1 rfl) e00 (g := (mkF m 76 #[.val (.ref q0), .val (.int 2)] [])) rfl (hb hby V5) (by decide) (by decide)
    obtain ⟨b47, g47⟩ : ∃ z, z = h0.size := ⟨_, rfl⟩
    have Sf47 : Safe Z Uc _ h47 b47 := Safe.ext E47 CR0.1 (Safe.new (Nat.le_of_eq g47.symm))
    have CR48 := CR0.trans (CHr.ext E47 CR0.1)
    rw [← g47] at A47 D47 st47
    have O47 := O0.ext E47
    have g_b47 : n0 ≤ b47 := Nat.le_trans (Nat.le_of_eq O0.1.symm) (Nat.le_trans O0.2.1 (Nat.le_of_eq g47.symm))
    have s_b47 : h0.size ≤ b47 := Nat.le_trans K00.1 (Nat.le_of_eq g47.symm)
    have K47 := K00.ext E47
    have lt_b47 := A47.lt
    have F47_value : Fld Z h47 b47 "java/lang/String" "value" "[B" .null := D47 (Or.inr (Ka hw 4 rfl)) (ty := (.array .byte)) (by decide)
    have F47_coder : Fld Z h47 b47 "java/lang/String" "coder" "B" (.int 0) := D47 (Or.inr (Ka hw 5 rfl)) (ty := .byte) (by decide)
    obtain ⟨T49, h49, c49, X49, e49, E49, A49, st49⟩ := newP X47 hx hZ (Ka hw 21 rfl) e47 (g := (mkF m 81 #[.val (.ref q0), .val (.int 2)] [(.int 2), (.ref b47), (.ref b47)])) rfl (hb hby Z5) rfl (by decide) (cap := 2) (by decide) (by decide) (by decide) (by decide)
    obtain ⟨b49, g49⟩ : ∃ z, z = h47.size := ⟨_, rfl⟩
    have Sf49 : Safe Z Uc _ h49 b49 := Safe.ext E49 CR48.1 (Safe.new (Nat.le_of_eq g49.symm))
    have CR50 := CR48.trans (CHr.ext E49 CR48.1)
    rw [← g49] at A49 st49
    have O49 := O47.ext E49
    have g_b49 : n0 ≤ b49 := Nat.le_trans (Nat.le_of_eq O47.1.symm) (Nat.le_trans O47.2.1 (Nat.le_of_eq g49.symm))
    have s_b49 : h0.size ≤ b49 := Nat.le_trans K47.1 (Nat.le_of_eq g49.symm)
    have K49 := K47.ext E49
    have V49 : Arv Z h49 b49 c49 .char (2 : Int32) [(.int 0), (.int 0)] (.int 0) := (Arv.new A49 (by decide)).pad (pad_rep [] (.int 0) 2)
    have lt_b49 := V49.lt
    have f51 := ((P0.ext E47).ext E49)
    obtain ⟨cl52, Ar52, q52, Sz52, Nn52, Hs52, Gf52⟩ := id f51
    have hin53 : ¬ ((0 : Int32) < 0 ∨ cl52.slots.size ≤ ((0 : Int32)).toNatClampNeg) := inb_of Sz52 ⟨by decide, by decide⟩
    have hat54 : cl52.slots[((0 : Int32)).toNatClampNeg]? = some (.int c0) := Hs52.at hin53 rfl
    obtain ⟨cl55, Ar55, q55, Sz55, Nn55, Hs55, Gf55⟩ := id V49
    have hin56 : ¬ ((0 : Int32) < 0 ∨ cl55.slots.size ≤ ((0 : Int32)).toNatClampNeg) := inb_of Sz55 ⟨by decide, by decide⟩
    obtain ⟨T57, h57, X57, e57, W57, st57⟩ := stC X49 hx hZ e49 Ar55 (j := (0 : Int32)) hin56 (g := (mkF m 88 #[.val (.ref q0), .val (.int 2)] [(.int c0), (.int 0), (.ref b49), (.ref b49), (.ref b47), (.ref b47)])) rfl rfl (hb hby L6)
    have V57 : Arv Z h57 b49 c49 .char (2 : Int32) [(.int c0), (.int 0)] (.int 0) := by
      have q := Arv.set Ar55 q55 Sz55 Nn55 Hs55 Gf55 (fits_nar_char _) W57 0 rfl (Nat.le_of_ble_eq_true rfl)
      first | exact q | (simp only [Pa rc0, Pa rc1, Pa rc2, Pa rc3, Pa rc4, Pa rc5, Pa rc6, Pa rc7] at q; exact q)
    have CR58 := CR50.trans (CHr.wr W57 Sf49 CR50.1)
    have N57 := Fr.snoc X57 N00 g_b49
    have O57 := O49.wr W57 g_b49
    have K57 := K49.wr W57 (Or.inr s_b49)
    have ne59 : ¬ (q0 = b49) := (Nat.ne_of_lt (Nat.lt_of_lt_of_le (Nat.lt_of_lt_of_le P0.lt E47.1) (Nat.le_of_eq g49.symm)))
    have f60 := (f51.other W57 ne59)
    obtain ⟨cl61, Ar61, q61, Sz61, Nn61, Hs61, Gf61⟩ := id f60
    have hin62 : ¬ ((1 : Int32) < 0 ∨ cl61.slots.size ≤ ((1 : Int32)).toNatClampNeg) := inb_of Sz61 ⟨by decide, by decide⟩
    have hat63 : cl61.slots[((1 : Int32)).toNatClampNeg]? = some (.int c1) := Hs61.at hin62 rfl
    obtain ⟨cl64, Ar64, q64, Sz64, Nn64, Hs64, Gf64⟩ := id V57
    have hin65 : ¬ ((1 : Int32) < 0 ∨ cl64.slots.size ≤ ((1 : Int32)).toNatClampNeg) := inb_of Sz64 ⟨by decide, by decide⟩
    obtain ⟨T66, h66, X66, e66, W66, st66⟩ := stC X57 hx hZ e57 Ar64 (j := (1 : Int32)) hin65 (g := (mkF m 94 #[.val (.ref q0), .val (.int 2)] [(.int c1), (.int 1), (.ref b49), (.ref b49), (.ref b47), (.ref b47)])) rfl rfl (hb hby W6)
    have V66 : Arv Z h66 b49 c49 .char (2 : Int32) [(.int c0), (.int c1)] (.int 0) := by
      have q := Arv.set Ar64 q64 Sz64 Nn64 Hs64 Gf64 (fits_nar_char _) W66 1 rfl (Nat.le_of_ble_eq_true rfl)
      first | exact q | (simp only [Pa rc0, Pa rc1, Pa rc2, Pa rc3, Pa rc4, Pa rc5, Pa rc6, Pa rc7] at q; exact q)
    have sf68 := (Safe.wr W57 Sf49 CR50.1 Sf49)
    have CR67 := CR58.trans (CHr.wr W66 sf68 CR58.1)
    have N66 := Fr.snoc X66 N57 g_b49
    have O66 := O57.wr W66 g_b49
    have K66 := K57.wr W66 (Or.inr s_b49)
    have k69 : ∀ t, Db p e below m T66 95 #[.val (.ref q0), .val (.int 2)] [(.ref b49), (.ref b47), (.ref b47)] t → Kb p e below m s₁ #[(.ref q0), (.int nq)] 2 t := by
      intro t k
      refine k46 t ?_
      refine XS.tswIn X00.here hx rfl (pc0 := 1) (pc' := 76) rfl (hb hby Hf) rfl (by decide) (o := 75) (by decide) (by decide) (by decide) ?_
      refine st47 _ ?_
      refine XS.dup X47.here hx rfl (hb hby W5) rfl rfl ?_
      refine XS.iconst X47.here hx rfl (hb hby Y5) ?_
      refine st49 _ ?_
      refine XS.dup X49.here hx rfl (hb hby A6) rfl rfl ?_
      refine XS.iconst X49.here hx rfl (hb hby D6) ?_
      refine XS.aloadN X49.here hx rfl (hb hby G6) rfl rfl ?_
      refine XS.iconst X49.here hx rfl (hb hby H6) ?_
      refine X49.caload hx (j := (0 : Int32)) (v := (.int c0)) (by rw [e49]; exact Ar52.1) (State.isArrayOf_alike hZ.alike Ar52.2.1) Ar52.2.2 hin53 hat54 (g := (mkF m 87 #[.val (.ref q0), .val (.int 2)] [(.int 0), (.ref q0), (.int 0), (.ref b49), (.ref b49), (.ref b47), (.ref b47)])) rfl rfl (hb hby I6) _ ?_
      refine st57 _ ?_
      refine XS.dup X57.here hx rfl (hb hby M6) rfl rfl ?_
      show Db p e below m T57 90 #[.val (.ref q0), .val (.int 2)] [(.ref b49), (.ref b49), (.ref b47), (.ref b47)] t
      refine XS.iconst X57.here hx rfl (hb hby P6) ?_
      refine XS.aloadN X57.here hx rfl (hb hby R6) rfl rfl ?_
      refine XS.iconst X57.here hx rfl (hb hby U6) ?_
      refine X57.caload hx (j := (1 : Int32)) (v := (.int c1)) (by rw [e57]; exact Ar61.1) (State.isArrayOf_alike hZ.alike Ar61.2.1) Ar61.2.2 hin62 hat63 (g := (mkF m 93 #[.val (.ref q0), .val (.int 2)] [(.int 1), (.ref q0), (.int 1), (.ref b49), (.ref b49), (.ref b47), (.ref b47)])) rfl rfl (hb hby V6) _ ?_
      refine st66 _ ?_
      exact k
    have f70 := (((A47.ext E49).wr W57).wr W66)
    have ne71 : ¬ (b47 = b49) := (Nat.ne_of_lt (Nat.lt_of_lt_of_le lt_b47 (Nat.le_of_eq g49.symm)))
    have f72 := (((F47_value.ext E49).other W57 (Or.inl ne71)).other W66 (Or.inl ne71))
    have f73 := (((F47_coder.ext E49).other W57 (Or.inl ne71)).other W66 (Or.inl ne71))
    have hp74 : ∀ c ∈ ([c0, c1] : List Int32), ¬ c < 0 ∧ ¬ (255 : Int32) < c := (by simp only [List.mem_cons, List.not_mem_nil, or_false, forall_eq_or_imp, forall_eq]; exact ⟨rc0, rc1⟩)
    obtain ⟨_, _, ⟨T75, L75, k75, n75⟩, -, X75, ⟨Lc75, hQ75, l75, y75, z75⟩, st75⟩ := X66.specialBack hx (y := Dk) rfl hown (mvT hZ (Ka hw 53 rfl)) (mvT hZ (Ka hw 54 rfl)) (mvT hZ (Ka hw 55 rfl)) (by decide) (StrChars.Road.backV (W := 1) hZ (Ik hw) (kI := 4) (Ka hw 2 rfl) (cs := ([c0, c1] : List Int32)) (bs := (([c0, c1] : List Int32)).map (fun c => c.toInt8.toInt32)) (n := 2) g_b47 (Nat.le_trans (Nat.le_of_eq O66.1.symm) O66.2.1) f70 f72 f73 V66 (Hb.ext O66.2) Gb rfl rfl (by decide) (by decide) hp74 rfl (by decide) (by decide)) (g := (mkF m 95 #[.val (.ref q0), .val (.int 2)] [(.ref b49), (.ref b47), (.ref b47)])) rfl (by rw [hml]; rfl) (Steps.refl _) (a := b47) (argsL := [(.ref b49)]) (rest := [(.ref b47)]) (lenOf Ij rfl) rfl (by show 2 * 0 + _ ≤ _; exact Nat.le_of_eq rfl) (hb hby Y6) (fun _ _ => ⟨rfl, e66, (by decide : 2 + 1 ≤ _), (by decide : 6 + 2 ≤ _)⟩)
    dsimp only [Pt.U, Pt.locs, Pt.cells, Pt.slots] at X75 l75 y75 z75 st75 hQ75
    subst l75 y75 z75
    obtain ⟨rfl, N75q, Kc75, Ex75, Fc75, t75, kb75, g_t75, gs_t75, nx75, Fv75, Av75⟩ := hQ75
    have N75 := Fr.app N66 N75q
    have O75 := O66.keep Kc75 (allS g_b47 all0)
    have sf77 := (Safe.wr W66 sf68 CR58.1 (Safe.wr W57 Sf49 CR50.1 (Safe.ext E49 CR48.1 Sf47)))
    have CR76 := CR67.trans (CHr.keep Kc75 (allS sf77 all0) CR67.1)
    have K75 := K66.trans Kc75 (allS (Or.inr s_b47) all0)
    have s_t75 := Nat.le_trans K66.1 gs_t75
    have lt_t75 := Av75.lt
    have k78 : ∀ t, Db p e below m T75 98 #[.val (.ref q0), .val (.int 2)] [(.ref b47)] t → Kb p e below m s₁ #[(.ref q0), (.int nq)] 2 t := by
      intro t k
      refine k69 t ?_
      refine st75.trans ?_
      exact k
    obtain ⟨fs, hr, hrun, hended, hRW⟩ := X75.leaveW hS (by exact (Nat.le_trans (Nat.le_trans (Nat.le_trans (Nat.le_trans (Nat.le_trans (Nat.zero_le _) E47.1) E49.1) (Keep.of_wr W57).1) (Keep.of_wr W66).1) Kc75.1)) (v := some (.ref b47)) (fun h => by rw [Bd.returns] at h; cases h)
    refine hNG ⟨_, _, k78 _ ?_, hrun, hended, _, _, rfl, ?_, by rw [hh]; show CHr Z Uc s.vm h0 T75.vm T75.heap; exact CR76.trans (CHv.at X75 hZ (Af hw) CR76.1), hRW.1, hRW.2.1, hRW.2.2.1, hRW.2.2.2.mono (by decide) (by decide)⟩
    · exact retOut X75 hx (t := (.object "java/lang/String")) Bd.returns rfl (Or.inr (Or.inr (Or.inr (Or.inr ⟨rfl, rfl, rfl⟩)))) (hb hby Z6) hr
    · show Q_mk Z q0 kq nq c0 c1 c2 c3 c4 c5 c6 c7 Wa Va Ua Ra Ia Da Ha Ba Ga Aa Ma La Bb h0 n0 _ T75.heap _
      exact ⟨b47, t75, kb75, (2 : Int32), ((([c0, c1] : List Int32)).map (fun c => c.toInt8.toInt32)).map Value.int, ([c0, c1] : List Int32), rfl, N75, O75, K75, g_b47, s_b47, Ex75, Fc75, Fv75, Av75, StrChars.Road.codOf (cs := ([c0, c1] : List Int32)) (n := 2) rfl (fun c hc => (hp74 c hc).2), hp74, (Nat.le_of_ble_eq_true rfl)⟩
  · have k79 : ∀ t, Db p e below m s₁ 1 #[.val (.ref q0), .val (.int 3)] [(.int 3)] t → Kb p e below m s₁ #[(.ref q0), (.int nq)] 2 t := by
      intro t k
      refine k10 t ?_
      rw [hs11]
      exact k
    obtain ⟨T80, h80, X80, e80, E80, A80, D80, -, st80⟩ := newO X00 hx hZ hown (Ka hw 52 rfl) (Ka hw 2 rfl) (Ka hw 1 rfl) e00 (g := (mkF m 99 #[.val (.ref q0), .val (.int 3)] [])) rfl (hb hby A7) (by decide) (by decide)
    obtain ⟨b80, g80⟩ : ∃ z, z = h0.size := ⟨_, rfl⟩
    have Sf80 : Safe Z Uc _ h80 b80 := Safe.ext E80 CR0.1 (Safe.new (Nat.le_of_eq g80.symm))
    have CR81 := CR0.trans (CHr.ext E80 CR0.1)
    rw [← g80] at A80 D80 st80
    have O80 := O0.ext E80
    have g_b80 : n0 ≤ b80 := Nat.le_trans (Nat.le_of_eq O0.1.symm) (Nat.le_trans O0.2.1 (Nat.le_of_eq g80.symm))
    have s_b80 : h0.size ≤ b80 := Nat.le_trans K00.1 (Nat.le_of_eq g80.symm)
    have K80 := K00.ext E80
    have lt_b80 := A80.lt
    have F80_value : Fld Z h80 b80 "java/lang/String" "value" "[B" .null := D80 (Or.inr (Ka hw 4 rfl)) (ty := (.array .byte)) (by decide)
    have F80_coder : Fld Z h80 b80 "java/lang/String" "coder" "B" (.int 0) := D80 (Or.inr (Ka hw 5 rfl)) (ty := .byte) (by decide)
    obtain ⟨T82, h82, c82, X82, e82, E82, A82, st82⟩ := newP X80 hx hZ (Ka hw 21 rfl) e80 (g := (mkF m 104 #[.val (.ref q0), .val (.int 3)] [(.int 3), (.ref b80), (.ref b80)])) rfl (hb hby Gp) rfl (by decide) (cap := 3) (by decide) (by decide) (by decide) (by decide)
    obtain ⟨b82, g82⟩ : ∃ z, z = h80.size := ⟨_, rfl⟩
    have Sf82 : Safe Z Uc _ h82 b82 := Safe.ext E82 CR81.1 (Safe.new (Nat.le_of_eq g82.symm))
    have CR83 := CR81.trans (CHr.ext E82 CR81.1)
    rw [← g82] at A82 st82
    have O82 := O80.ext E82
    have g_b82 : n0 ≤ b82 := Nat.le_trans (Nat.le_of_eq O80.1.symm) (Nat.le_trans O80.2.1 (Nat.le_of_eq g82.symm))
    have s_b82 : h0.size ≤ b82 := Nat.le_trans K80.1 (Nat.le_of_eq g82.symm)
    have K82 := K80.ext E82
    have V82 : Arv Z h82 b82 c82 .char (3 : Int32) [(.int 0), (.int 0), (.int 0)] (.int 0) := (Arv.new A82 (by decide)).pad (pad_rep [] (.int 0) 3)
    have lt_b82 := V82.lt
    have f84 := ((P0.ext E80).ext E82)
    obtain ⟨cl85, Ar85, q85, Sz85, Nn85, Hs85, Gf85⟩ := id f84
    have hin86 : ¬ ((0 : Int32) < 0 ∨ cl85.slots.size ≤ ((0 : Int32)).toNatClampNeg) := inb_of Sz85 ⟨by decide, by decide⟩
    have hat87 : cl85.slots[((0 : Int32)).toNatClampNeg]? = some (.int c0) := Hs85.at hin86 rfl
    obtain ⟨cl88, Ar88, q88, Sz88, Nn88, Hs88, Gf88⟩ := id V82
    have hin89 : ¬ ((0 : Int32) < 0 ∨ cl88.slots.size ≤ ((0 : Int32)).toNatClampNeg) := inb_of Sz88 ⟨by decide, by decide⟩
    obtain ⟨T90, h90, X90, e90, W90, st90⟩ := stC X82 hx hZ e82 Ar88 (j := (0 : Int32)) hin89 (g := (mkF m 111 #[.val (.ref q0), .val (.int 3)] [(.int c0), (.int 0), (.ref b82), (.ref b82), (.ref b80), (.ref b80)])) rfl rfl (hb hby Pp)
    have V90 : Arv Z h90 b82 c82 .char (3 : Int32) [(.int c0), (.int 0), (.int 0)] (.int 0) := by
      have q := Arv.set Ar88 q88 Sz88 Nn88 Hs88 Gf88 (fits_nar_char _) W90 0 rfl (Nat.le_of_ble_eq_true rfl)
      first | exact q | (simp only [Pa rc0, Pa rc1, Pa rc2, Pa rc3, Pa rc4, Pa rc5, Pa rc6, Pa rc7] at q; exact q)
    have CR91 := CR83.trans (CHr.wr W90 Sf82 CR83.1)
    have N90 := Fr.snoc X90 N00 g_b82
    have O90 := O82.wr W90 g_b82
    have K90 := K82.wr W90 (Or.inr s_b82)
    have ne92 : ¬ (q0 = b82) := (Nat.ne_of_lt (Nat.lt_of_lt_of_le (Nat.lt_of_lt_of_le P0.lt E80.1) (Nat.le_of_eq g82.symm)))
    have f93 := (f84.other W90 ne92)
    obtain ⟨cl94, Ar94, q94, Sz94, Nn94, Hs94, Gf94⟩ := id f93
    have hin95 : ¬ ((1 : Int32) < 0 ∨ cl94.slots.size ≤ ((1 : Int32)).toNatClampNeg) := inb_of Sz94 ⟨by decide, by decide⟩
    have hat96 : cl94.slots[((1 : Int32)).toNatClampNeg]? = some (.int c1) := Hs94.at hin95 rfl
    obtain ⟨cl97, Ar97, q97, Sz97, Nn97, Hs97, Gf97⟩ := id V90
    have hin98 : ¬ ((1 : Int32) < 0 ∨ cl97.slots.size ≤ ((1 : Int32)).toNatClampNeg) := inb_of Sz97 ⟨by decide, by decide⟩
    obtain ⟨T99, h99, X99, e99, W99, st99⟩ := stC X90 hx hZ e90 Ar97 (j := (1 : Int32)) hin98 (g := (mkF m 117 #[.val (.ref q0), .val (.int 3)] [(.int c1), (.int 1), (.ref b82), (.ref b82), (.ref b80), (.ref b80)])) rfl rfl (hb hby Zp)
    have V99 : Arv Z h99 b82 c82 .char (3 : Int32) [(.int c0), (.int c1), (.int 0)] (.int 0) := by
      have q := Arv.set Ar97 q97 Sz97 Nn97 Hs97 Gf97 (fits_nar_char _) W99 1 rfl (Nat.le_of_ble_eq_true rfl)
      first | exact q | (simp only [Pa rc0, Pa rc1, Pa rc2, Pa rc3, Pa rc4, Pa rc5, Pa rc6, Pa rc7] at q; exact q)
    have sf101 := (Safe.wr W90 Sf82 CR83.1 Sf82)
    have CR100 := CR91.trans (CHr.wr W99 sf101 CR91.1)
    have N99 := Fr.snoc X99 N90 g_b82
    have O99 := O90.wr W99 g_b82
    have K99 := K90.wr W99 (Or.inr s_b82)
    have f102 := (f93.other W99 ne92)
    obtain ⟨cl103, Ar103, q103, Sz103, Nn103, Hs103, Gf103⟩ := id f102
    have hin104 : ¬ ((2 : Int32) < 0 ∨ cl103.slots.size ≤ ((2 : Int32)).toNatClampNeg) := inb_of Sz103 ⟨by decide, by decide⟩
    have hat105 : cl103.slots[((2 : Int32)).toNatClampNeg]? = some (.int c2) := Hs103.at hin104 rfl
    obtain ⟨cl106, Ar106, q106, Sz106, Nn106, Hs106, Gf106⟩ := id V99
    have hin107 : ¬ ((2 : Int32) < 0 ∨ cl106.slots.size ≤ ((2 : Int32)).toNatClampNeg) := inb_of Sz106 ⟨by decide, by decide⟩
    obtain ⟨T108, h108, X108, e108, W108, st108⟩ := stC X99 hx hZ e99 Ar106 (j := (2 : Int32)) hin107 (g := (mkF m 123 #[.val (.ref q0), .val (.int 3)] [(.int c2), (.int 2), (.ref b82), (.ref b82), (.ref b80), (.ref b80)])) rfl rfl (hb hby Iq)
    have V108 : Arv Z h108 b82 c82 .char (3 : Int32) [(.int c0), (.int c1), (.int c2)] (.int 0) := by
      have q := Arv.set Ar106 q106 Sz106 Nn106 Hs106 Gf106 (fits_nar_char _) W108 2 rfl (Nat.le_of_ble_eq_true rfl)
      first | exact q | (simp only [Pa rc0, Pa rc1, Pa rc2, Pa rc3, Pa rc4, Pa rc5, Pa rc6, Pa rc7] at q; exact q)
    have sf110 := (Safe.wr W99 sf101 CR91.1 sf101)
    have CR109 := CR100.trans (CHr.wr W108 sf110 CR100.1)
    have N108 := Fr.snoc X108 N99 g_b82
    have O108 := O99.wr W108 g_b82
    have K108 := K99.wr W108 (Or.inr s_b82)
    have k111 : ∀ t, Db p e below m T108 124 #[.val (.ref q0), .val (.int 3)] [(.ref b82), (.ref b80), (.ref b80)] t → Kb p e below m s₁ #[(.ref q0), (.int nq)] 2 t := by
      intro t k
      refine k79 t ?_
      refine XS.tswIn X00.here hx rfl (pc0 := 1) (pc' := 99) rfl (hb hby Hf) rfl (by decide) (o := 98) (by decide) (by decide) (by decide) ?_
      refine st80 _ ?_
      refine XS.dup X80.here hx rfl (hb hby Bp) rfl rfl ?_
      refine XS.iconst X80.here hx rfl (hb hby Dp) ?_
      refine st82 _ ?_
      refine XS.dup X82.here hx rfl (hb hby Hp) rfl rfl ?_
      refine XS.iconst X82.here hx rfl (hb hby Ip) ?_
      refine XS.aloadN X82.here hx rfl (hb hby Kp) rfl rfl ?_
      refine XS.iconst X82.here hx rfl (hb hby Lp) ?_
      refine X82.caload hx (j := (0 : Int32)) (v := (.int c0)) (by rw [e82]; exact Ar85.1) (State.isArrayOf_alike hZ.alike Ar85.2.1) Ar85.2.2 hin86 hat87 (g := (mkF m 110 #[.val (.ref q0), .val (.int 3)] [(.int 0), (.ref q0), (.int 0), (.ref b82), (.ref b82), (.ref b80), (.ref b80)])) rfl rfl (hb hby Mp) _ ?_
      refine st90 _ ?_
      refine XS.dup X90.here hx rfl (hb hby Rp) rfl rfl ?_
      show Db p e below m T90 113 #[.val (.ref q0), .val (.int 3)] [(.ref b82), (.ref b82), (.ref b80), (.ref b80)] t
      refine XS.iconst X90.here hx rfl (hb hby Up) ?_
      refine XS.aloadN X90.here hx rfl (hb hby Vp) rfl rfl ?_
      refine XS.iconst X90.here hx rfl (hb hby Wp) ?_
      refine X90.caload hx (j := (1 : Int32)) (v := (.int c1)) (by rw [e90]; exact Ar94.1) (State.isArrayOf_alike hZ.alike Ar94.2.1) Ar94.2.2 hin95 hat96 (g := (mkF m 116 #[.val (.ref q0), .val (.int 3)] [(.int 1), (.ref q0), (.int 1), (.ref b82), (.ref b82), (.ref b80), (.ref b80)])) rfl rfl (hb hby Yp) _ ?_
      refine st99 _ ?_
      refine XS.dup X99.here hx rfl (hb hby Aq) rfl rfl ?_
      refine XS.iconst X99.here hx rfl (hb hby Bq) ?_
      refine XS.aloadN X99.here hx rfl (hb hby Dq) rfl rfl ?_
      refine XS.iconst X99.here hx rfl (hb hby Gq) ?_
      refine X99.caload hx (j := (2 : Int32)) (v := (.int c2)) (by rw [e99]; exact Ar103.1) (State.isArrayOf_alike hZ.alike Ar103.2.1) Ar103.2.2 hin104 hat105 (g := (mkF m 122 #[.val (.ref q0), .val (.int 3)] [(.int 2), (.ref q0), (.int 2), (.ref b82), (.ref b82), (.ref b80), (.ref b80)])) rfl rfl (hb hby Hq) _ ?_
      refine st108 _ ?_
      exact k
    have f112 := ((((A80.ext E82).wr W90).wr W99).wr W108)
    have ne113 : ¬ (b80 = b82) := (Nat.ne_of_lt (Nat.lt_of_lt_of_le lt_b80 (Nat.le_of_eq g82.symm)))
    have f114 := ((((F80_value.ext E82).other W90 (Or.inl ne113)).other W99 (Or.inl ne113)).other W108 (Or.inl ne113))
    have f115 := ((((F80_coder.ext E82).other W90 (Or.inl ne113)).other W99 (Or.inl ne113)).other W108 (Or.inl ne113))
    have hp116 : ∀ c ∈ ([c0, c1, c2] : List Int32), ¬ c < 0 ∧ ¬ (255 : Int32) < c := (by simp only [List.mem_cons, List.not_mem_nil, or_false, forall_eq_or_imp, forall_eq]; exact ⟨rc0, rc1, rc2⟩)
    obtain ⟨_, _, ⟨T117, L117, k117, n117⟩, -, X117, ⟨Lc117, hQ117, l117, y117, z117⟩, st117⟩ := X108.specialBack hx (y := Dk) rfl hown (mvT hZ (Ka hw 53 rfl)) (mvT hZ (Ka hw 54 rfl)) (mvT hZ (Ka hw 55 rfl)) (by decide) (StrChars.Road.backV (W := 1) hZ (Ik hw) (kI := 4) (Ka hw 2 rfl) (cs := ([c0, c1, c2] : List Int32)) (bs := (([c0, c1, c2] : List Int32)).map (fun c => c.toInt8.toInt32)) (n := 3) g_b80 (Nat.le_trans (Nat.le_of_eq O108.1.symm) O108.2.1) f112 f114 f115 V108 (Hb.ext O108.2) Gb rfl rfl (by decide) (by decide) hp116 rfl (by decide) (by decide)) (g := (mkF m 124 #[.val (.ref q0), .val (.int 3)] [(.ref b82), (.ref b80), (.ref b80)])) rfl (by rw [hml]; rfl) (Steps.refl _) (a := b80) (argsL := [(.ref b82)]) (rest := [(.ref b80)]) (lenOf Ij rfl) rfl (by show 2 * 0 + _ ≤ _; exact Nat.le_of_eq rfl) (hb hby Kq) (fun _ _ => ⟨rfl, e108, (by decide : 2 + 1 ≤ _), (by decide : 7 + 3 ≤ _)⟩)
    dsimp only [Pt.U, Pt.locs, Pt.cells, Pt.slots] at X117 l117 y117 z117 st117 hQ117
    subst l117 y117 z117
    obtain ⟨rfl, N117q, Kc117, Ex117, Fc117, t117, kb117, g_t117, gs_t117, nx117, Fv117, Av117⟩ := hQ117
    have N117 := Fr.app N108 N117q
    have O117 := O108.keep Kc117 (allS g_b80 all0)
    have sf119 := (Safe.wr W108 sf110 CR100.1 (Safe.wr W99 sf101 CR91.1 (Safe.wr W90 Sf82 CR83.1 (Safe.ext E82 CR81.1 Sf80))))
    have CR118 := CR109.trans (CHr.keep Kc117 (allS sf119 all0) CR109.1)
    have K117 := K108.trans Kc117 (allS (Or.inr s_b80) all0)
    have s_t117 := Nat.le_trans K108.1 gs_t117
    have lt_t117 := Av117.lt
    have k120 : ∀ t, Db p e below m T117 127 #[.val (.ref q0), .val (.int 3)] [(.ref b80)] t → Kb p e below m s₁ #[(.ref q0), (.int nq)] 2 t := by
      intro t k
      refine k111 t ?_
      refine st117.trans ?_
      exact k
    obtain ⟨fs, hr, hrun, hended, hRW⟩ := X117.leaveW hS (by exact (Nat.le_trans (Nat.le_trans (Nat.le_trans (Nat.le_trans (Nat.le_trans (Nat.le_trans (Nat.zero_le _) E80.1) E82.1) (Keep.of_wr W90).1) (Keep.of_wr W99).1) (Keep.of_wr W108).1) Kc117.1)) (v := some (.ref b80)) (fun h => by rw [Bd.returns] at h; cases h)
    refine hNG ⟨_, _, k120 _ ?_, hrun, hended, _, _, rfl, ?_, by rw [hh]; show CHr Z Uc s.vm h0 T117.vm T117.heap; exact CR118.trans (CHv.at X117 hZ (Af hw) CR118.1), hRW.1, hRW.2.1, hRW.2.2.1, hRW.2.2.2.mono (by decide) (by decide)⟩
    · exact retOut X117 hx (t := (.object "java/lang/String")) Bd.returns rfl (Or.inr (Or.inr (Or.inr (Or.inr ⟨rfl, rfl, rfl⟩)))) (hb hby Lq) hr
    · show Q_mk Z q0 kq nq c0 c1 c2 c3 c4 c5 c6 c7 Wa Va Ua Ra Ia Da Ha Ba Ga Aa Ma La Bb h0 n0 _ T117.heap _
      exact ⟨b80, t117, kb117, (3 : Int32), ((([c0, c1, c2] : List Int32)).map (fun c => c.toInt8.toInt32)).map Value.int, ([c0, c1, c2] : List Int32), rfl, N117, O117, K117, g_b80, s_b80, Ex117, Fc117, Fv117, Av117, StrChars.Road.codOf (cs := ([c0, c1, c2] : List Int32)) (n := 3) rfl (fun c hc => (hp116 c hc).2), hp116, (Nat.le_of_ble_eq_true rfl)⟩
  · have k121 : ∀ t, Db p e below m s₁ 1 #[.val (.ref q0), .val (.int 4)] [(.int 4)] t → Kb p e below m s₁ #[(.ref q0), (.int nq)] 2 t := by
      intro t k
      refine k10 t ?_
      rw [hs11]
      exact k
    obtain ⟨T122, h122, X122, e122, E122, A122, D122, -, st122⟩ := newO X00 hx hZ hown (Ka hw 52 rfl) (Ka hw 2 rfl) (Ka hw 1 rfl) e00 (g := (mkF m 128 #[.val (.ref q0), .val (.int 4)] [])) rfl (hb hby Mq) (by decide) (by decide)
    obtain ⟨b122, g122⟩ : ∃ z, z = h0.size := ⟨_, rfl⟩
    have Sf122 : Safe Z Uc _ h122 b122 := Safe.ext E122 CR0.1 (Safe.new (Nat.le_of_eq g122.symm))
    have CR123 := CR0.trans (CHr.ext E122 CR0.1)
    rw [← g122] at A122 D122 st122
    have O122 := O0.ext E122
    have g_b122 : n0 ≤ b122 := Nat.le_trans (Nat.le_of_eq O0.1.symm) (Nat.le_trans O0.2.1 (Nat.le_of_eq g122.symm))
    have s_b122 : h0.size ≤ b122 := Nat.le_trans K00.1 (Nat.le_of_eq g122.symm)
    have K122 := K00.ext E122
    have lt_b122 := A122.lt
    have F122_value : Fld Z h122 b122 "java/lang/String" "value" "[B" .null := D122 (Or.inr (Ka hw 4 rfl)) (ty := (.array .byte)) (by decide)
    have F122_coder : Fld Z h122 b122 "java/lang/String" "coder" "B" (.int 0) := D122 (Or.inr (Ka hw 5 rfl)) (ty := .byte) (by decide)
    obtain ⟨T124, h124, c124, X124, e124, E124, A124, st124⟩ := newP X122 hx hZ (Ka hw 21 rfl) e122 (g := (mkF m 133 #[.val (.ref q0), .val (.int 4)] [(.int 4), (.ref b122), (.ref b122)])) rfl (hb hby Uq) rfl (by decide) (cap := 4) (by decide) (by decide) (by decide) (by decide)
    obtain ⟨b124, g124⟩ : ∃ z, z = h122.size := ⟨_, rfl⟩
    have Sf124 : Safe Z Uc _ h124 b124 := Safe.ext E124 CR123.1 (Safe.new (Nat.le_of_eq g124.symm))
    have CR125 := CR123.trans (CHr.ext E124 CR123.1)
    rw [← g124] at A124 st124
    have O124 := O122.ext E124
    have g_b124 : n0 ≤ b124 := Nat.le_trans (Nat.le_of_eq O122.1.symm) (Nat.le_trans O122.2.1 (Nat.le_of_eq g124.symm))
    have s_b124 : h0.size ≤ b124 := Nat.le_trans K122.1 (Nat.le_of_eq g124.symm)
    have K124 := K122.ext E124
    have V124 : Arv Z h124 b124 c124 .char (4 : Int32) [(.int 0), (.int 0), (.int 0), (.int 0)] (.int 0) := (Arv.new A124 (by decide)).pad (pad_rep [] (.int 0) 4)
    have lt_b124 := V124.lt
    have f126 := ((P0.ext E122).ext E124)
    obtain ⟨cl127, Ar127, q127, Sz127, Nn127, Hs127, Gf127⟩ := id f126
    have hin128 : ¬ ((0 : Int32) < 0 ∨ cl127.slots.size ≤ ((0 : Int32)).toNatClampNeg) := inb_of Sz127 ⟨by decide, by decide⟩
    have hat129 : cl127.slots[((0 : Int32)).toNatClampNeg]? = some (.int c0) := Hs127.at hin128 rfl
    obtain ⟨cl130, Ar130, q130, Sz130, Nn130, Hs130, Gf130⟩ := id V124
    have hin131 : ¬ ((0 : Int32) < 0 ∨ cl130.slots.size ≤ ((0 : Int32)).toNatClampNeg) := inb_of Sz130 ⟨by decide, by decide⟩
    obtain ⟨T132, h132, X132, e132, W132, st132⟩ := stC X124 hx hZ e124 Ar130 (j := (0 : Int32)) hin131 (g := (mkF m 140 #[.val (.ref q0), .val (.int 4)] [(.int c0), (.int 0), (.ref b124), (.ref b124), (.ref b122), (.ref b122)])) rfl rfl (hb hby Br)
    have V132 : Arv Z h132 b124 c124 .char (4 : Int32) [(.int c0), (.int 0), (.int 0), (.int 0)] (.int 0) := by
      have q := Arv.set Ar130 q130 Sz130 Nn130 Hs130 Gf130 (fits_nar_char _) W132 0 rfl (Nat.le_of_ble_eq_true rfl)
      first | exact q | (simp only [Pa rc0, Pa rc1, Pa rc2, Pa rc3, Pa rc4, Pa rc5, Pa rc6, Pa rc7] at q; exact q)
    have CR133 := CR125.trans (CHr.wr W132 Sf124 CR125.1)
    have N132 := Fr.snoc X132 N00 g_b124
    have O132 := O124.wr W132 g_b124
    have K132 := K124.wr W132 (Or.inr s_b124)
    have ne134 : ¬ (q0 = b124) := (Nat.ne_of_lt (Nat.lt_of_lt_of_le (Nat.lt_of_lt_of_le P0.lt E122.1) (Nat.le_of_eq g124.symm)))
    have f135 := (f126.other W132 ne134)
    obtain ⟨cl136, Ar136, q136, Sz136, Nn136, Hs136, Gf136⟩ := id f135
    have hin137 : ¬ ((1 : Int32) < 0 ∨ cl136.slots.size ≤ ((1 : Int32)).toNatClampNeg) := inb_of Sz136 ⟨by decide, by decide⟩
    have hat138 : cl136.slots[((1 : Int32)).toNatClampNeg]? = some (.int c1) := Hs136.at hin137 rfl
    obtain ⟨cl139, Ar139, q139, Sz139, Nn139, Hs139, Gf139⟩ := id V132
    have hin140 : ¬ ((1 : Int32) < 0 ∨ cl139.slots.size ≤ ((1 : Int32)).toNatClampNeg) := inb_of Sz139 ⟨by decide, by decide⟩
    obtain ⟨T141, h141, X141, e141, W141, st141⟩ := stC X132 hx hZ e132 Ar139 (j := (1 : Int32)) hin140 (g := (mkF m 146 #[.val (.ref q0), .val (.int 4)] [(.int c1), (.int 1), (.ref b124), (.ref b124), (.ref b122), (.ref b122)])) rfl rfl (hb hby Lr)
    have V141 : Arv Z h141 b124 c124 .char (4 : Int32) [(.int c0), (.int c1), (.int 0), (.int 0)] (.int 0) := by
      have q := Arv.set Ar139 q139 Sz139 Nn139 Hs139 Gf139 (fits_nar_char _) W141 1 rfl (Nat.le_of_ble_eq_true rfl)
      first | exact q | (simp only [Pa rc0, Pa rc1, Pa rc2, Pa rc3, Pa rc4, Pa rc5, Pa rc6, Pa rc7] at q; exact q)
    have sf143 := (Safe.wr W132 Sf124 CR125.1 Sf124)
    have CR142 := CR133.trans (CHr.wr W141 sf143 CR133.1)
    have N141 := Fr.snoc X141 N132 g_b124
    have O141 := O132.wr W141 g_b124
    have K141 := K132.wr W141 (Or.inr s_b124)
    have f144 := (f135.other W141 ne134)
    obtain ⟨cl145, Ar145, q145, Sz145, Nn145, Hs145, Gf145⟩ := id f144
    have hin146 : ¬ ((2 : Int32) < 0 ∨ cl145.slots.size ≤ ((2 : Int32)).toNatClampNeg) := inb_of Sz145 ⟨by decide, by decide⟩
    have hat147 : cl145.slots[((2 : Int32)).toNatClampNeg]? = some (.int c2) := Hs145.at hin146 rfl
    obtain ⟨cl148, Ar148, q148, Sz148, Nn148, Hs148, Gf148⟩ := id V141
    have hin149 : ¬ ((2 : Int32) < 0 ∨ cl148.slots.size ≤ ((2 : Int32)).toNatClampNeg) := inb_of Sz148 ⟨by decide, by decide⟩
    obtain ⟨T150, h150, X150, e150, W150, st150⟩ := stC X141 hx hZ e141 Ar148 (j := (2 : Int32)) hin149 (g := (mkF m 152 #[.val (.ref q0), .val (.int 4)] [(.int c2), (.int 2), (.ref b124), (.ref b124), (.ref b122), (.ref b122)])) rfl rfl (hb hby Wr)
    have V150 : Arv Z h150 b124 c124 .char (4 : Int32) [(.int c0), (.int c1), (.int c2), (.int 0)] (.int 0) := by
      have q := Arv.set Ar148 q148 Sz148 Nn148 Hs148 Gf148 (fits_nar_char _) W150 2 rfl (Nat.le_of_ble_eq_true rfl)
      first | exact q | (simp only [Pa rc0, Pa rc1, Pa rc2, Pa rc3, Pa rc4, Pa rc5, Pa rc6, Pa rc7] at q; exact q)
    have sf152 := (Safe.wr W141 sf143 CR133.1 sf143)
    have CR151 := CR142.trans (CHr.wr W150 sf152 CR142.1)
    have N150 := Fr.snoc X150 N141 g_b124
    have O150 := O141.wr W150 g_b124
    have K150 := K141.wr W150 (Or.inr s_b124)
    have f153 := (f144.other W150 ne134)
    obtain ⟨cl154, Ar154, q154, Sz154, Nn154, Hs154, Gf154⟩ := id f153
    have hin155 : ¬ ((3 : Int32) < 0 ∨ cl154.slots.size ≤ ((3 : Int32)).toNatClampNeg) := inb_of Sz154 ⟨by decide, by decide⟩
    have hat156 : cl154.slots[((3 : Int32)).toNatClampNeg]? = some (.int c3) := Hs154.at hin155 rfl
    obtain ⟨cl157, Ar157, q157, Sz157, Nn157, Hs157, Gf157⟩ := id V150
    have hin158 : ¬ ((3 : Int32) < 0 ∨ cl157.slots.size ≤ ((3 : Int32)).toNatClampNeg) := inb_of Sz157 ⟨by decide, by decide⟩
    obtain ⟨T159, h159, X159, e159, W159, st159⟩ := stC X150 hx hZ e150 Ar157 (j := (3 : Int32)) hin158 (g := (mkF m 158 #[.val (.ref q0), .val (.int 4)] [(.int c3), (.int 3), (.ref b124), (.ref b124), (.ref b122), (.ref b122)])) rfl rfl (hb hby Gs)
    have V159 : Arv Z h159 b124 c124 .char (4 : Int32) [(.int c0), (.int c1), (.int c2), (.int c3)] (.int 0) := by
      have q := Arv.set Ar157 q157 Sz157 Nn157 Hs157 Gf157 (fits_nar_char _) W159 3 rfl (Nat.le_of_ble_eq_true rfl)
      first | exact q | (simp only [Pa rc0, Pa rc1, Pa rc2, Pa rc3, Pa rc4, Pa rc5, Pa rc6, Pa rc7] at q; exact q)
    have sf161 := (Safe.wr W150 sf152 CR142.1 sf152)
    have CR160 := CR151.trans (CHr.wr W159 sf161 CR151.1)
    have N159 := Fr.snoc X159 N150 g_b124
    have O159 := O150.wr W159 g_b124
    have K159 := K150.wr W159 (Or.inr s_b124)
    have k162 : ∀ t, Db p e below m T159 159 #[.val (.ref q0), .val (.int 4)] [(.ref b124), (.ref b122), (.ref b122)] t → Kb p e below m s₁ #[(.ref q0), (.int nq)] 2 t := by
      intro t k
      refine k121 t ?_
      refine XS.tswIn X00.here hx rfl (pc0 := 1) (pc' := 128) rfl (hb hby Hf) rfl (by decide) (o := 127) (by decide) (by decide) (by decide) ?_
      refine st122 _ ?_
      refine XS.dup X122.here hx rfl (hb hby Pq) rfl rfl ?_
      refine XS.iconst X122.here hx rfl (hb hby Rq) ?_
      refine st124 _ ?_
      refine XS.dup X124.here hx rfl (hb hby Vq) rfl rfl ?_
      refine XS.iconst X124.here hx rfl (hb hby Wq) ?_
      refine XS.aloadN X124.here hx rfl (hb hby Yq) rfl rfl ?_
      refine XS.iconst X124.here hx rfl (hb hby Zq) ?_
      refine X124.caload hx (j := (0 : Int32)) (v := (.int c0)) (by rw [e124]; exact Ar127.1) (State.isArrayOf_alike hZ.alike Ar127.2.1) Ar127.2.2 hin128 hat129 (g := (mkF m 139 #[.val (.ref q0), .val (.int 4)] [(.int 0), (.ref q0), (.int 0), (.ref b124), (.ref b124), (.ref b122), (.ref b122)])) rfl rfl (hb hby Ar) _ ?_
      refine st132 _ ?_
      refine XS.dup X132.here hx rfl (hb hby Dr) rfl rfl ?_
      show Db p e below m T132 142 #[.val (.ref q0), .val (.int 4)] [(.ref b124), (.ref b124), (.ref b122), (.ref b122)] t
      refine XS.iconst X132.here hx rfl (hb hby Gr) ?_
      refine XS.aloadN X132.here hx rfl (hb hby Hr) rfl rfl ?_
      refine XS.iconst X132.here hx rfl (hb hby Ir) ?_
      refine X132.caload hx (j := (1 : Int32)) (v := (.int c1)) (by rw [e132]; exact Ar136.1) (State.isArrayOf_alike hZ.alike Ar136.2.1) Ar136.2.2 hin137 hat138 (g := (mkF m 145 #[.val (.ref q0), .val (.int 4)] [(.int 1), (.ref q0), (.int 1), (.ref b124), (.ref b124), (.ref b122), (.ref b122)])) rfl rfl (hb hby Kr) _ ?_
      refine st141 _ ?_
      refine XS.dup X141.here hx rfl (hb hby Mr) rfl rfl ?_
      refine XS.iconst X141.here hx rfl (hb hby Pr) ?_
      refine XS.aloadN X141.here hx rfl (hb hby Rr) rfl rfl ?_
      refine XS.iconst X141.here hx rfl (hb hby Ur) ?_
      refine X141.caload hx (j := (2 : Int32)) (v := (.int c2)) (by rw [e141]; exact Ar145.1) (State.isArrayOf_alike hZ.alike Ar145.2.1) Ar145.2.2 hin146 hat147 (g := (mkF m 151 #[.val (.ref q0), .val (.int 4)] [(.int 2), (.ref q0), (.int 2), (.ref b124), (.ref b124), (.ref b122), (.ref b122)])) rfl rfl (hb hby Vr) _ ?_
      refine st150 _ ?_
      refine XS.dup X150.here hx rfl (hb hby Yr) rfl rfl ?_
      show Db p e below m T150 154 #[.val (.ref q0), .val (.int 4)] [(.ref b124), (.ref b124), (.ref b122), (.ref b122)] t
      refine XS.iconst X150.here hx rfl (hb hby Zr) ?_
      refine XS.aloadN X150.here hx rfl (hb hby As) rfl rfl ?_
      refine XS.iconst X150.here hx rfl (hb hby Bs) ?_
      refine X150.caload hx (j := (3 : Int32)) (v := (.int c3)) (by rw [e150]; exact Ar154.1) (State.isArrayOf_alike hZ.alike Ar154.2.1) Ar154.2.2 hin155 hat156 (g := (mkF m 157 #[.val (.ref q0), .val (.int 4)] [(.int 3), (.ref q0), (.int 3), (.ref b124), (.ref b124), (.ref b122), (.ref b122)])) rfl rfl (hb hby Ds) _ ?_
      refine st159 _ ?_
      exact k
    have f163 := (((((A122.ext E124).wr W132).wr W141).wr W150).wr W159)
    have ne164 : ¬ (b122 = b124) := (Nat.ne_of_lt (Nat.lt_of_lt_of_le lt_b122 (Nat.le_of_eq g124.symm)))
    have f165 := (((((F122_value.ext E124).other W132 (Or.inl ne164)).other W141 (Or.inl ne164)).other W150 (Or.inl ne164)).other W159 (Or.inl ne164))
    have f166 := (((((F122_coder.ext E124).other W132 (Or.inl ne164)).other W141 (Or.inl ne164)).other W150 (Or.inl ne164)).other W159 (Or.inl ne164))
    have hp167 : ∀ c ∈ ([c0, c1, c2, c3] : List Int32), ¬ c < 0 ∧ ¬ (255 : Int32) < c := (by simp only [List.mem_cons, List.not_mem_nil, or_false, forall_eq_or_imp, forall_eq]; exact ⟨rc0, rc1, rc2, rc3⟩)
    obtain ⟨_, _, ⟨T168, L168, k168, n168⟩, -, X168, ⟨Lc168, hQ168, l168, y168, z168⟩, st168⟩ := X159.specialBack hx (y := Dk) rfl hown (mvT hZ (Ka hw 53 rfl)) (mvT hZ (Ka hw 54 rfl)) (mvT hZ (Ka hw 55 rfl)) (by decide) (StrChars.Road.backV (W := 1) hZ (Ik hw) (kI := 4) (Ka hw 2 rfl) (cs := ([c0, c1, c2, c3] : List Int32)) (bs := (([c0, c1, c2, c3] : List Int32)).map (fun c => c.toInt8.toInt32)) (n := 4) g_b122 (Nat.le_trans (Nat.le_of_eq O159.1.symm) O159.2.1) f163 f165 f166 V159 (Hb.ext O159.2) Gb rfl rfl (by decide) (by decide) hp167 rfl (by decide) (by decide)) (g := (mkF m 159 #[.val (.ref q0), .val (.int 4)] [(.ref b124), (.ref b122), (.ref b122)])) rfl (by rw [hml]; rfl) (Steps.refl _) (a := b122) (argsL := [(.ref b124)]) (rest := [(.ref b122)]) (lenOf Ij rfl) rfl (by show 2 * 0 + _ ≤ _; exact Nat.le_of_eq rfl) (hb hby Hs) (fun _ _ => ⟨rfl, e159, (by decide : 2 + 1 ≤ _), (by decide : 8 + 4 ≤ _)⟩)
    dsimp only [Pt.U, Pt.locs, Pt.cells, Pt.slots] at X168 l168 y168 z168 st168 hQ168
    subst l168 y168 z168
    obtain ⟨rfl, N168q, Kc168, Ex168, Fc168, t168, kb168, g_t168, gs_t168, nx168, Fv168, Av168⟩ := hQ168
    have N168 := Fr.app N159 N168q
    have O168 := O159.keep Kc168 (allS g_b122 all0)
    have sf170 := (Safe.wr W159 sf161 CR151.1 (Safe.wr W150 sf152 CR142.1 (Safe.wr W141 sf143 CR133.1 (Safe.wr W132 Sf124 CR125.1 (Safe.ext E124 CR123.1 Sf122)))))
    have CR169 := CR160.trans (CHr.keep Kc168 (allS sf170 all0) CR160.1)
    have K168 := K159.trans Kc168 (allS (Or.inr s_b122) all0)
    have s_t168 := Nat.le_trans K159.1 gs_t168
    have lt_t168 := Av168.lt
    have k171 : ∀ t, Db p e below m T168 162 #[.val (.ref q0), .val (.int 4)] [(.ref b122)] t → Kb p e below m s₁ #[(.ref q0), (.int nq)] 2 t := by
      intro t k
      refine k162 t ?_
      refine st168.trans ?_
      exact k
    obtain ⟨fs, hr, hrun, hended, hRW⟩ := X168.leaveW hS (by exact (Nat.le_trans (Nat.le_trans (Nat.le_trans (Nat.le_trans (Nat.le_trans (Nat.le_trans (Nat.le_trans (Nat.zero_le _) E122.1) E124.1) (Keep.of_wr W132).1) (Keep.of_wr W141).1) (Keep.of_wr W150).1) (Keep.of_wr W159).1) Kc168.1)) (v := some (.ref b122)) (fun h => by rw [Bd.returns] at h; cases h)
    refine hNG ⟨_, _, k171 _ ?_, hrun, hended, _, _, rfl, ?_, by rw [hh]; show CHr Z Uc s.vm h0 T168.vm T168.heap; exact CR169.trans (CHv.at X168 hZ (Af hw) CR169.1), hRW.1, hRW.2.1, hRW.2.2.1, hRW.2.2.2.mono (by decide) (by decide)⟩
    · exact retOut X168 hx (t := (.object "java/lang/String")) Bd.returns rfl (Or.inr (Or.inr (Or.inr (Or.inr ⟨rfl, rfl, rfl⟩)))) (hb hby Is) hr
    · show Q_mk Z q0 kq nq c0 c1 c2 c3 c4 c5 c6 c7 Wa Va Ua Ra Ia Da Ha Ba Ga Aa Ma La Bb h0 n0 _ T168.heap _
      exact ⟨b122, t168, kb168, (4 : Int32), ((([c0, c1, c2, c3] : List Int32)).map (fun c => c.toInt8.toInt32)).map Value.int, ([c0, c1, c2, c3] : List Int32), rfl, N168, O168, K168, g_b122, s_b122, Ex168, Fc168, Fv168, Av168, StrChars.Road.codOf (cs := ([c0, c1, c2, c3] : List Int32)) (n := 4) rfl (fun c hc => (hp167 c hc).2), hp167, (Nat.le_of_ble_eq_true rfl)⟩
  · have k172 : ∀ t, Db p e below m s₁ 1 #[.val (.ref q0), .val (.int 5)] [(.int 5)] t → Kb p e below m s₁ #[(.ref q0), (.int nq)] 2 t := by
      intro t k
      refine k10 t ?_
      rw [hs11]
      exact k
    obtain ⟨T173, h173, X173, e173, E173, A173, D173, -, st173⟩ := newO X00 hx hZ hown (Ka hw 52 rfl) (Ka hw 2 rfl) (Ka hw 1 rfl) e00 (g := (mkF m 163 #[.val (.ref q0), .val (.int 5)] [])) rfl (hb hby Ks) (by decide) (by decide)
    obtain ⟨b173, g173⟩ : ∃ z, z = h0.size := ⟨_, rfl⟩
    have Sf173 : Safe Z Uc _ h173 b173 := Safe.ext E173 CR0.1 (Safe.new (Nat.le_of_eq g173.symm))
    have CR174 := CR0.trans (CHr.ext E173 CR0.1)
    rw [← g173] at A173 D173 st173
    have O173 := O0.ext E173
    have g_b173 : n0 ≤ b173 := Nat.le_trans (Nat.le_of_eq O0.1.symm) (Nat.le_trans O0.2.1 (Nat.le_of_eq g173.symm))
    have s_b173 : h0.size ≤ b173 := Nat.le_trans K00.1 (Nat.le_of_eq g173.symm)
    have K173 := K00.ext E173
    have lt_b173 := A173.lt
    have F173_value : Fld Z h173 b173 "java/lang/String" "value" "[B" .null := D173 (Or.inr (Ka hw 4 rfl)) (ty := (.array .byte)) (by decide)
    have F173_coder : Fld Z h173 b173 "java/lang/String" "coder" "B" (.int 0) := D173 (Or.inr (Ka hw 5 rfl)) (ty := .byte) (by decide)
    obtain ⟨T175, h175, c175, X175, e175, E175, A175, st175⟩ := newP X173 hx hZ (Ka hw 21 rfl) e173 (g := (mkF m 168 #[.val (.ref q0), .val (.int 5)] [(.int 5), (.ref b173), (.ref b173)])) rfl (hb hby Rs) rfl (by decide) (cap := 5) (by decide) (by decide) (by decide) (by decide)
    obtain ⟨b175, g175⟩ : ∃ z, z = h173.size := ⟨_, rfl⟩
    have Sf175 : Safe Z Uc _ h175 b175 := Safe.ext E175 CR174.1 (Safe.new (Nat.le_of_eq g175.symm))
    have CR176 := CR174.trans (CHr.ext E175 CR174.1)
    rw [← g175] at A175 st175
    have O175 := O173.ext E175
    have g_b175 : n0 ≤ b175 := Nat.le_trans (Nat.le_of_eq O173.1.symm) (Nat.le_trans O173.2.1 (Nat.le_of_eq g175.symm))
    have s_b175 : h0.size ≤ b175 := Nat.le_trans K173.1 (Nat.le_of_eq g175.symm)
    have K175 := K173.ext E175
    have V175 : Arv Z h175 b175 c175 .char (5 : Int32) [(.int 0), (.int 0), (.int 0), (.int 0), (.int 0)] (.int 0) := (Arv.new A175 (by decide)).pad (pad_rep [] (.int 0) 5)
    have lt_b175 := V175.lt
    have f177 := ((P0.ext E173).ext E175)
    obtain ⟨cl178, Ar178, q178, Sz178, Nn178, Hs178, Gf178⟩ := id f177
    have hin179 : ¬ ((0 : Int32) < 0 ∨ cl178.slots.size ≤ ((0 : Int32)).toNatClampNeg) := inb_of Sz178 ⟨by decide, by decide⟩
    have hat180 : cl178.slots[((0 : Int32)).toNatClampNeg]? = some (.int c0) := Hs178.at hin179 rfl
    obtain ⟨cl181, Ar181, q181, Sz181, Nn181, Hs181, Gf181⟩ := id V175
    have hin182 : ¬ ((0 : Int32) < 0 ∨ cl181.slots.size ≤ ((0 : Int32)).toNatClampNeg) := inb_of Sz181 ⟨by decide, by decide⟩
    obtain ⟨T183, h183, X183, e183, W183, st183⟩ := stC X175 hx hZ e175 Ar181 (j := (0 : Int32)) hin182 (g := (mkF m 175 #[.val (.ref q0), .val (.int 5)] [(.int c0), (.int 0), (.ref b175), (.ref b175), (.ref b173), (.ref b173)])) rfl rfl (hb hby Bt)
    have V183 : Arv Z h183 b175 c175 .char (5 : Int32) [(.int c0), (.int 0), (.int 0), (.int 0), (.int 0)] (.int 0) := by
      have q := Arv.set Ar181 q181 Sz181 Nn181 Hs181 Gf181 (fits_nar_char _) W183 0 rfl (Nat.le_of_ble_eq_true rfl)
      first | exact q | (simp only [Pa rc0, Pa rc1, Pa rc2, Pa rc3, Pa rc4, Pa rc5, Pa rc6, Pa rc7] at q; exact q)
    have CR184 := CR176.trans (CHr.wr W183 Sf175 CR176.1)
    have N183 := Fr.snoc X183 N00 g_b175
    have O183 := O175.wr W183 g_b175
    have K183 := K175.wr W183 (Or.inr s_b175)
    have ne185 : ¬ (q0 = b175) := (Nat.ne_of_lt (Nat.lt_of_lt_of_le (Nat.lt_of_lt_of_le P0.lt E173.1) (Nat.le_of_eq g175.symm)))
    have f186 := (f177.other W183 ne185)
    obtain ⟨cl187, Ar187, q187, Sz187, Nn187, Hs187, Gf187⟩ := id f186
    have hin188 : ¬ ((1 : Int32) < 0 ∨ cl187.slots.size ≤ ((1 : Int32)).toNatClampNeg) := inb_of Sz187 ⟨by decide, by decide⟩
    have hat189 : cl187.slots[((1 : Int32)).toNatClampNeg]? = some (.int c1) := Hs187.at hin188 rfl
    obtain ⟨cl190, Ar190, q190, Sz190, Nn190, Hs190, Gf190⟩ := id V183
    have hin191 : ¬ ((1 : Int32) < 0 ∨ cl190.slots.size ≤ ((1 : Int32)).toNatClampNeg) := inb_of Sz190 ⟨by decide, by decide⟩
    obtain ⟨T192, h192, X192, e192, W192, st192⟩ := stC X183 hx hZ e183 Ar190 (j := (1 : Int32)) hin191 (g := (mkF m 181 #[.val (.ref q0), .val (.int 5)] [(.int c1), (.int 1), (.ref b175), (.ref b175), (.ref b173), (.ref b173)])) rfl rfl (hb hby Lt)
    have V192 : Arv Z h192 b175 c175 .char (5 : Int32) [(.int c0), (.int c1), (.int 0), (.int 0), (.int 0)] (.int 0) := by
      have q := Arv.set Ar190 q190 Sz190 Nn190 Hs190 Gf190 (fits_nar_char _) W192 1 rfl (Nat.le_of_ble_eq_true rfl)
      first | exact q | (simp only [Pa rc0, Pa rc1, Pa rc2, Pa rc3, Pa rc4, Pa rc5, Pa rc6, Pa rc7] at q; exact q)
    have sf194 := (Safe.wr W183 Sf175 CR176.1 Sf175)
    have CR193 := CR184.trans (CHr.wr W192 sf194 CR184.1)
    have N192 := Fr.snoc X192 N183 g_b175
    have O192 := O183.wr W192 g_b175
    have K192 := K183.wr W192 (Or.inr s_b175)
    have f195 := (f186.other W192 ne185)
    obtain ⟨cl196, Ar196, q196, Sz196, Nn196, Hs196, Gf196⟩ := id f195
    have hin197 : ¬ ((2 : Int32) < 0 ∨ cl196.slots.size ≤ ((2 : Int32)).toNatClampNeg) := inb_of Sz196 ⟨by decide, by decide⟩
    have hat198 : cl196.slots[((2 : Int32)).toNatClampNeg]? = some (.int c2) := Hs196.at hin197 rfl
    obtain ⟨cl199, Ar199, q199, Sz199, Nn199, Hs199, Gf199⟩ := id V192
    have hin200 : ¬ ((2 : Int32) < 0 ∨ cl199.slots.size ≤ ((2 : Int32)).toNatClampNeg) := inb_of Sz199 ⟨by decide, by decide⟩
    obtain ⟨T201, h201, X201, e201, W201, st201⟩ := stC X192 hx hZ e192 Ar199 (j := (2 : Int32)) hin200 (g := (mkF m 187 #[.val (.ref q0), .val (.int 5)] [(.int c2), (.int 2), (.ref b175), (.ref b175), (.ref b173), (.ref b173)])) rfl rfl (hb hby Yt)
    have V201 : Arv Z h201 b175 c175 .char (5 : Int32) [(.int c0), (.int c1), (.int c2), (.int 0), (.int 0)] (.int 0) := by
      have q := Arv.set Ar199 q199 Sz199 Nn199 Hs199 Gf199 (fits_nar_char _) W201 2 rfl (Nat.le_of_ble_eq_true rfl)
      first | exact q | (simp only [Pa rc0, Pa rc1, Pa rc2, Pa rc3, Pa rc4, Pa rc5, Pa rc6, Pa rc7] at q; exact q)
    have sf203 := (Safe.wr W192 sf194 CR184.1 sf194)
    have CR202 := CR193.trans (CHr.wr W201 sf203 CR193.1)
    have N201 := Fr.snoc X201 N192 g_b175
    have O201 := O192.wr W201 g_b175
    have K201 := K192.wr W201 (Or.inr s_b175)
    have f204 := (f195.other W201 ne185)
    obtain ⟨cl205, Ar205, q205, Sz205, Nn205, Hs205, Gf205⟩ := id f204
    have hin206 : ¬ ((3 : Int32) < 0 ∨ cl205.slots.size ≤ ((3 : Int32)).toNatClampNeg) := inb_of Sz205 ⟨by decide, by decide⟩
    have hat207 : cl205.slots[((3 : Int32)).toNatClampNeg]? = some (.int c3) := Hs205.at hin206 rfl
    obtain ⟨cl208, Ar208, q208, Sz208, Nn208, Hs208, Gf208⟩ := id V201
    have hin209 : ¬ ((3 : Int32) < 0 ∨ cl208.slots.size ≤ ((3 : Int32)).toNatClampNeg) := inb_of Sz208 ⟨by decide, by decide⟩
    obtain ⟨T210, h210, X210, e210, W210, st210⟩ := stC X201 hx hZ e201 Ar208 (j := (3 : Int32)) hin209 (g := (mkF m 193 #[.val (.ref q0), .val (.int 5)] [(.int c3), (.int 3), (.ref b175), (.ref b175), (.ref b173), (.ref b173)])) rfl rfl (hb hby Hu)
    have V210 : Arv Z h210 b175 c175 .char (5 : Int32) [(.int c0), (.int c1), (.int c2), (.int c3), (.int 0)] (.int 0) := by
      have q := Arv.set Ar208 q208 Sz208 Nn208 Hs208 Gf208 (fits_nar_char _) W210 3 rfl (Nat.le_of_ble_eq_true rfl)
      first | exact q | (simp only [Pa rc0, Pa rc1, Pa rc2, Pa rc3, Pa rc4, Pa rc5, Pa rc6, Pa rc7] at q; exact q)
    have sf212 := (Safe.wr W201 sf203 CR193.1 sf203)
    have CR211 := CR202.trans (CHr.wr W210 sf212 CR202.1)
    have N210 := Fr.snoc X210 N201 g_b175
    have O210 := O201.wr W210 g_b175
    have K210 := K201.wr W210 (Or.inr s_b175)
    have f213 := (f204.other W210 ne185)
    obtain ⟨cl214, Ar214, q214, Sz214, Nn214, Hs214, Gf214⟩ := id f213
    have hin215 : ¬ ((4 : Int32) < 0 ∨ cl214.slots.size ≤ ((4 : Int32)).toNatClampNeg) := inb_of Sz214 ⟨by decide, by decide⟩
    have hat216 : cl214.slots[((4 : Int32)).toNatClampNeg]? = some (.int c4) := Hs214.at hin215 rfl
    obtain ⟨cl217, Ar217, q217, Sz217, Nn217, Hs217, Gf217⟩ := id V210
    have hin218 : ¬ ((4 : Int32) < 0 ∨ cl217.slots.size ≤ ((4 : Int32)).toNatClampNeg) := inb_of Sz217 ⟨by decide, by decide⟩
    obtain ⟨T219, h219, X219, e219, W219, st219⟩ := stC X210 hx hZ e210 Ar217 (j := (4 : Int32)) hin218 (g := (mkF m 199 #[.val (.ref q0), .val (.int 5)] [(.int c4), (.int 4), (.ref b175), (.ref b175), (.ref b173), (.ref b173)])) rfl rfl (hb hby Ru)
    have V219 : Arv Z h219 b175 c175 .char (5 : Int32) [(.int c0), (.int c1), (.int c2), (.int c3), (.int c4)] (.int 0) := by
      have q := Arv.set Ar217 q217 Sz217 Nn217 Hs217 Gf217 (fits_nar_char _) W219 4 rfl (Nat.le_of_ble_eq_true rfl)
      first | exact q | (simp only [Pa rc0, Pa rc1, Pa rc2, Pa rc3, Pa rc4, Pa rc5, Pa rc6, Pa rc7] at q; exact q)
    have sf221 := (Safe.wr W210 sf212 CR202.1 sf212)
    have CR220 := CR211.trans (CHr.wr W219 sf221 CR211.1)
    have N219 := Fr.snoc X219 N210 g_b175
    have O219 := O210.wr W219 g_b175
    have K219 := K210.wr W219 (Or.inr s_b175)
    have k222 : ∀ t, Db p e below m T219 200 #[.val (.ref q0), .val (.int 5)] [(.ref b175), (.ref b173), (.ref b173)] t → Kb p e below m s₁ #[(.ref q0), (.int nq)] 2 t := by
      intro t k
      refine k172 t ?_
      refine XS.tswIn X00.here hx rfl (pc0 := 1) (pc' := 163) rfl (hb hby Hf) rfl (by decide) (o := 162) (by decide) (by decide) (by decide) ?_
      refine st173 _ ?_
      refine XS.dup X173.here hx rfl (hb hby Ms) rfl rfl ?_
      refine XS.iconst X173.here hx rfl (hb hby Ps) ?_
      refine st175 _ ?_
      refine XS.dup X175.here hx rfl (hb hby Us) rfl rfl ?_
      refine XS.iconst X175.here hx rfl (hb hby Vs) ?_
      refine XS.aloadN X175.here hx rfl (hb hby Ws) rfl rfl ?_
      refine XS.iconst X175.here hx rfl (hb hby Ys) ?_
      refine X175.caload hx (j := (0 : Int32)) (v := (.int c0)) (by rw [e175]; exact Ar178.1) (State.isArrayOf_alike hZ.alike Ar178.2.1) Ar178.2.2 hin179 hat180 (g := (mkF m 174 #[.val (.ref q0), .val (.int 5)] [(.int 0), (.ref q0), (.int 0), (.ref b175), (.ref b175), (.ref b173), (.ref b173)])) rfl rfl (hb hby Zs) _ ?_
      refine st183 _ ?_
      refine XS.dup X183.here hx rfl (hb hby Dt) rfl rfl ?_
      show Db p e below m T183 177 #[.val (.ref q0), .val (.int 5)] [(.ref b175), (.ref b175), (.ref b173), (.ref b173)] t
      refine XS.iconst X183.here hx rfl (hb hby Gt) ?_
      refine XS.aloadN X183.here hx rfl (hb hby Ht) rfl rfl ?_
      refine XS.iconst X183.here hx rfl (hb hby It) ?_
      refine X183.caload hx (j := (1 : Int32)) (v := (.int c1)) (by rw [e183]; exact Ar187.1) (State.isArrayOf_alike hZ.alike Ar187.2.1) Ar187.2.2 hin188 hat189 (g := (mkF m 180 #[.val (.ref q0), .val (.int 5)] [(.int 1), (.ref q0), (.int 1), (.ref b175), (.ref b175), (.ref b173), (.ref b173)])) rfl rfl (hb hby Kt) _ ?_
      refine st192 _ ?_
      refine XS.dup X192.here hx rfl (hb hby Mt) rfl rfl ?_
      refine XS.iconst X192.here hx rfl (hb hby Rt) ?_
      refine XS.aloadN X192.here hx rfl (hb hby Ut) rfl rfl ?_
      refine XS.iconst X192.here hx rfl (hb hby Vt) ?_
      refine X192.caload hx (j := (2 : Int32)) (v := (.int c2)) (by rw [e192]; exact Ar196.1) (State.isArrayOf_alike hZ.alike Ar196.2.1) Ar196.2.2 hin197 hat198 (g := (mkF m 186 #[.val (.ref q0), .val (.int 5)] [(.int 2), (.ref q0), (.int 2), (.ref b175), (.ref b175), (.ref b173), (.ref b173)])) rfl rfl (hb hby Wt) _ ?_
      refine st201 _ ?_
      refine XS.dup X201.here hx rfl (hb hby Zt) rfl rfl ?_
      show Db p e below m T201 189 #[.val (.ref q0), .val (.int 5)] [(.ref b175), (.ref b175), (.ref b173), (.ref b173)] t
      refine XS.iconst X201.here hx rfl (hb hby Au) ?_
      refine XS.aloadN X201.here hx rfl (hb hby Bu) rfl rfl ?_
      refine XS.iconst X201.here hx rfl (hb hby Du) ?_
      refine X201.caload hx (j := (3 : Int32)) (v := (.int c3)) (by rw [e201]; exact Ar205.1) (State.isArrayOf_alike hZ.alike Ar205.2.1) Ar205.2.2 hin206 hat207 (g := (mkF m 192 #[.val (.ref q0), .val (.int 5)] [(.int 3), (.ref q0), (.int 3), (.ref b175), (.ref b175), (.ref b173), (.ref b173)])) rfl rfl (hb hby Gu) _ ?_
      refine st210 _ ?_
      refine XS.dup X210.here hx rfl (hb hby Iu) rfl rfl ?_
      refine XS.iconst X210.here hx rfl (hb hby Ku) ?_
      refine XS.aloadN X210.here hx rfl (hb hby Lu) rfl rfl ?_
      refine XS.iconst X210.here hx rfl (hb hby Mu) ?_
      refine X210.caload hx (j := (4 : Int32)) (v := (.int c4)) (by rw [e210]; exact Ar214.1) (State.isArrayOf_alike hZ.alike Ar214.2.1) Ar214.2.2 hin215 hat216 (g := (mkF m 198 #[.val (.ref q0), .val (.int 5)] [(.int 4), (.ref q0), (.int 4), (.ref b175), (.ref b175), (.ref b173), (.ref b173)])) rfl rfl (hb hby Pu) _ ?_
      refine st219 _ ?_
      exact k
    have f223 := ((((((A173.ext E175).wr W183).wr W192).wr W201).wr W210).wr W219)
    have ne224 : ¬ (b173 = b175) := (Nat.ne_of_lt (Nat.lt_of_lt_of_le lt_b173 (Nat.le_of_eq g175.symm)))
    have f225 := ((((((F173_value.ext E175).other W183 (Or.inl ne224)).other W192 (Or.inl ne224)).other W201 (Or.inl ne224)).other W210 (Or.inl ne224)).other W219 (Or.inl ne224))
    have f226 := ((((((F173_coder.ext E175).other W183 (Or.inl ne224)).other W192 (Or.inl ne224)).other W201 (Or.inl ne224)).other W210 (Or.inl ne224)).other W219 (Or.inl ne224))
    have hp227 : ∀ c ∈ ([c0, c1, c2, c3, c4] : List Int32), ¬ c < 0 ∧ ¬ (255 : Int32) < c := (by simp only [List.mem_cons, List.not_mem_nil, or_false, forall_eq_or_imp, forall_eq]; exact ⟨rc0, rc1, rc2, rc3, rc4⟩)
    obtain ⟨_, _, ⟨T228, L228, k228, n228⟩, -, X228, ⟨Lc228, hQ228, l228, y228, z228⟩, st228⟩ := X219.specialBack hx (y := Dk) rfl hown (mvT hZ (Ka hw 53 rfl)) (mvT hZ (Ka hw 54 rfl)) (mvT hZ (Ka hw 55 rfl)) (by decide) (StrChars.Road.backV (W := 1) hZ (Ik hw) (kI := 4) (Ka hw 2 rfl) (cs := ([c0, c1, c2, c3, c4] : List Int32)) (bs := (([c0, c1, c2, c3, c4] : List Int32)).map (fun c => c.toInt8.toInt32)) (n := 5) g_b173 (Nat.le_trans (Nat.le_of_eq O219.1.symm) O219.2.1) f223 f225 f226 V219 (Hb.ext O219.2) Gb rfl rfl (by decide) (by decide) hp227 rfl (by decide) (by decide)) (g := (mkF m 200 #[.val (.ref q0), .val (.int 5)] [(.ref b175), (.ref b173), (.ref b173)])) rfl (by rw [hml]; rfl) (Steps.refl _) (a := b173) (argsL := [(.ref b175)]) (rest := [(.ref b173)]) (lenOf Ij rfl) rfl (by show 2 * 0 + _ ≤ _; exact Nat.le_of_eq rfl) (hb hby Uu) (fun _ _ => ⟨rfl, e219, (by decide : 2 + 1 ≤ _), (by decide : 9 + 5 ≤ _)⟩)
    dsimp only [Pt.U, Pt.locs, Pt.cells, Pt.slots] at X228 l228 y228 z228 st228 hQ228
    subst l228 y228 z228
    obtain ⟨rfl, N228q, Kc228, Ex228, Fc228, t228, kb228, g_t228, gs_t228, nx228, Fv228, Av228⟩ := hQ228
    have N228 := Fr.app N219 N228q
    have O228 := O219.keep Kc228 (allS g_b173 all0)
    have sf230 := (Safe.wr W219 sf221 CR211.1 (Safe.wr W210 sf212 CR202.1 (Safe.wr W201 sf203 CR193.1 (Safe.wr W192 sf194 CR184.1 (Safe.wr W183 Sf175 CR176.1 (Safe.ext E175 CR174.1 Sf173))))))
    have CR229 := CR220.trans (CHr.keep Kc228 (allS sf230 all0) CR220.1)
    have K228 := K219.trans Kc228 (allS (Or.inr s_b173) all0)
    have s_t228 := Nat.le_trans K219.1 gs_t228
    have lt_t228 := Av228.lt
    have k231 : ∀ t, Db p e below m T228 203 #[.val (.ref q0), .val (.int 5)] [(.ref b173)] t → Kb p e below m s₁ #[(.ref q0), (.int nq)] 2 t := by
      intro t k
      refine k222 t ?_
      refine st228.trans ?_
      exact k
    obtain ⟨fs, hr, hrun, hended, hRW⟩ := X228.leaveW hS (by exact (Nat.le_trans (Nat.le_trans (Nat.le_trans (Nat.le_trans (Nat.le_trans (Nat.le_trans (Nat.le_trans (Nat.le_trans (Nat.zero_le _) E173.1) E175.1) (Keep.of_wr W183).1) (Keep.of_wr W192).1) (Keep.of_wr W201).1) (Keep.of_wr W210).1) (Keep.of_wr W219).1) Kc228.1)) (v := some (.ref b173)) (fun h => by rw [Bd.returns] at h; cases h)
    refine hNG ⟨_, _, k231 _ ?_, hrun, hended, _, _, rfl, ?_, by rw [hh]; show CHr Z Uc s.vm h0 T228.vm T228.heap; exact CR229.trans (CHv.at X228 hZ (Af hw) CR229.1), hRW.1, hRW.2.1, hRW.2.2.1, hRW.2.2.2.mono (by decide) (by decide)⟩
    · exact retOut X228 hx (t := (.object "java/lang/String")) Bd.returns rfl (Or.inr (Or.inr (Or.inr (Or.inr ⟨rfl, rfl, rfl⟩)))) (hb hby Vu) hr
    · show Q_mk Z q0 kq nq c0 c1 c2 c3 c4 c5 c6 c7 Wa Va Ua Ra Ia Da Ha Ba Ga Aa Ma La Bb h0 n0 _ T228.heap _
      exact ⟨b173, t228, kb228, (5 : Int32), ((([c0, c1, c2, c3, c4] : List Int32)).map (fun c => c.toInt8.toInt32)).map Value.int, ([c0, c1, c2, c3, c4] : List Int32), rfl, N228, O228, K228, g_b173, s_b173, Ex228, Fc228, Fv228, Av228, StrChars.Road.codOf (cs := ([c0, c1, c2, c3, c4] : List Int32)) (n := 5) rfl (fun c hc => (hp227 c hc).2), hp227, (Nat.le_of_ble_eq_true rfl)⟩
  · have k232 : ∀ t, Db p e below m s₁ 1 #[.val (.ref q0), .val (.int 6)] [(.int 6)] t → Kb p e below m s₁ #[(.ref q0), (.int nq)] 2 t := by
      intro t k
      refine k10 t ?_
      rw [hs11]
      exact k
    obtain ⟨T233, h233, X233, e233, E233, A233, D233, -, st233⟩ := newO X00 hx hZ hown (Ka hw 52 rfl) (Ka hw 2 rfl) (Ka hw 1 rfl) e00 (g := (mkF m 204 #[.val (.ref q0), .val (.int 6)] [])) rfl (hb hby Wu) (by decide) (by decide)
    obtain ⟨b233, g233⟩ : ∃ z, z = h0.size := ⟨_, rfl⟩
    have Sf233 : Safe Z Uc _ h233 b233 := Safe.ext E233 CR0.1 (Safe.new (Nat.le_of_eq g233.symm))
    have CR234 := CR0.trans (CHr.ext E233 CR0.1)
    rw [← g233] at A233 D233 st233
    have O233 := O0.ext E233
    have g_b233 : n0 ≤ b233 := Nat.le_trans (Nat.le_of_eq O0.1.symm) (Nat.le_trans O0.2.1 (Nat.le_of_eq g233.symm))
    have s_b233 : h0.size ≤ b233 := Nat.le_trans K00.1 (Nat.le_of_eq g233.symm)
    have K233 := K00.ext E233
    have lt_b233 := A233.lt
    have F233_value : Fld Z h233 b233 "java/lang/String" "value" "[B" .null := D233 (Or.inr (Ka hw 4 rfl)) (ty := (.array .byte)) (by decide)
    have F233_coder : Fld Z h233 b233 "java/lang/String" "coder" "B" (.int 0) := D233 (Or.inr (Ka hw 5 rfl)) (ty := .byte) (by decide)
    obtain ⟨T235, h235, c235, X235, e235, E235, A235, st235⟩ := newP X233 hx hZ (Ka hw 21 rfl) e233 (g := (mkF m 210 #[.val (.ref q0), .val (.int 6)] [(.int 6), (.ref b233), (.ref b233)])) rfl (hb hby Av) rfl (by decide) (cap := 6) (by decide) (by decide) (by decide) (by decide)
    obtain ⟨b235, g235⟩ : ∃ z, z = h233.size := ⟨_, rfl⟩
    have Sf235 : Safe Z Uc _ h235 b235 := Safe.ext E235 CR234.1 (Safe.new (Nat.le_of_eq g235.symm))
    have CR236 := CR234.trans (CHr.ext E235 CR234.1)
    rw [← g235] at A235 st235
    have O235 := O233.ext E235
    have g_b235 : n0 ≤ b235 := Nat.le_trans (Nat.le_of_eq O233.1.symm) (Nat.le_trans O233.2.1 (Nat.le_of_eq g235.symm))
    have s_b235 : h0.size ≤ b235 := Nat.le_trans K233.1 (Nat.le_of_eq g235.symm)
    have K235 := K233.ext E235
    have V235 : Arv Z h235 b235 c235 .char (6 : Int32) [(.int 0), (.int 0), (.int 0), (.int 0), (.int 0), (.int 0)] (.int 0) := (Arv.new A235 (by decide)).pad (pad_rep [] (.int 0) 6)
    have lt_b235 := V235.lt
    have f237 := ((P0.ext E233).ext E235)
    obtain ⟨cl238, Ar238, q238, Sz238, Nn238, Hs238, Gf238⟩ := id f237
    have hin239 : ¬ ((0 : Int32) < 0 ∨ cl238.slots.size ≤ ((0 : Int32)).toNatClampNeg) := inb_of Sz238 ⟨by decide, by decide⟩
    have hat240 : cl238.slots[((0 : Int32)).toNatClampNeg]? = some (.int c0) := Hs238.at hin239 rfl
    obtain ⟨cl241, Ar241, q241, Sz241, Nn241, Hs241, Gf241⟩ := id V235
    have hin242 : ¬ ((0 : Int32) < 0 ∨ cl241.slots.size ≤ ((0 : Int32)).toNatClampNeg) := inb_of Sz241 ⟨by decide, by decide⟩
    obtain ⟨T243, h243, X243, e243, W243, st243⟩ := stC X235 hx hZ e235 Ar241 (j := (0 : Int32)) hin242 (g := (mkF m 217 #[.val (.ref q0), .val (.int 6)] [(.int c0), (.int 0), (.ref b235), (.ref b235), (.ref b233), (.ref b233)])) rfl rfl (hb hby Kv)
    have V243 : Arv Z h243 b235 c235 .char (6 : Int32) [(.int c0), (.int 0), (.int 0), (.int 0), (.int 0), (.int 0)] (.int 0) := by
      have q := Arv.set Ar241 q241 Sz241 Nn241 Hs241 Gf241 (fits_nar_char _) W243 0 rfl (Nat.le_of_ble_eq_true rfl)
      first | exact q | (simp only [Pa rc0, Pa rc1, Pa rc2, Pa rc3, Pa rc4, Pa rc5, Pa rc6, Pa rc7] at q; exact q)
    have CR244 := CR236.trans (CHr.wr W243 Sf235 CR236.1)
    have N243 := Fr.snoc X243 N00 g_b235
    have O243 := O235.wr W243 g_b235
    have K243 := K235.wr W243 (Or.inr s_b235)
    have ne245 : ¬ (q0 = b235) := (Nat.ne_of_lt (Nat.lt_of_lt_of_le (Nat.lt_of_lt_of_le P0.lt E233.1) (Nat.le_of_eq g235.symm)))
    have f246 := (f237.other W243 ne245)
    obtain ⟨cl247, Ar247, q247, Sz247, Nn247, Hs247, Gf247⟩ := id f246
    have hin248 : ¬ ((1 : Int32) < 0 ∨ cl247.slots.size ≤ ((1 : Int32)).toNatClampNeg) := inb_of Sz247 ⟨by decide, by decide⟩
    have hat249 : cl247.slots[((1 : Int32)).toNatClampNeg]? = some (.int c1) := Hs247.at hin248 rfl
    obtain ⟨cl250, Ar250, q250, Sz250, Nn250, Hs250, Gf250⟩ := id V243
    have hin251 : ¬ ((1 : Int32) < 0 ∨ cl250.slots.size ≤ ((1 : Int32)).toNatClampNeg) := inb_of Sz250 ⟨by decide, by decide⟩
    obtain ⟨T252, h252, X252, e252, W252, st252⟩ := stC X243 hx hZ e243 Ar250 (j := (1 : Int32)) hin251 (g := (mkF m 223 #[.val (.ref q0), .val (.int 6)] [(.int c1), (.int 1), (.ref b235), (.ref b235), (.ref b233), (.ref b233)])) rfl rfl (hb hby Vv)
    have V252 : Arv Z h252 b235 c235 .char (6 : Int32) [(.int c0), (.int c1), (.int 0), (.int 0), (.int 0), (.int 0)] (.int 0) := by
      have q := Arv.set Ar250 q250 Sz250 Nn250 Hs250 Gf250 (fits_nar_char _) W252 1 rfl (Nat.le_of_ble_eq_true rfl)
      first | exact q | (simp only [Pa rc0, Pa rc1, Pa rc2, Pa rc3, Pa rc4, Pa rc5, Pa rc6, Pa rc7] at q; exact q)
    have sf254 := (Safe.wr W243 Sf235 CR236.1 Sf235)
    have CR253 := CR244.trans (CHr.wr W252 sf254 CR244.1)
    have N252 := Fr.snoc X252 N243 g_b235
    have O252 := O243.wr W252 g_b235
    have K252 := K243.wr W252 (Or.inr s_b235)
    have f255 := (f246.other W252 ne245)
    obtain ⟨cl256, Ar256, q256, Sz256, Nn256, Hs256, Gf256⟩ := id f255
    have hin257 : ¬ ((2 : Int32) < 0 ∨ cl256.slots.size ≤ ((2 : Int32)).toNatClampNeg) := inb_of Sz256 ⟨by decide, by decide⟩
    have hat258 : cl256.slots[((2 : Int32)).toNatClampNeg]? = some (.int c2) := Hs256.at hin257 rfl
    obtain ⟨cl259, Ar259, q259, Sz259, Nn259, Hs259, Gf259⟩ := id V252
    have hin260 : ¬ ((2 : Int32) < 0 ∨ cl259.slots.size ≤ ((2 : Int32)).toNatClampNeg) := inb_of Sz259 ⟨by decide, by decide⟩
    obtain ⟨T261, h261, X261, e261, W261, st261⟩ := stC X252 hx hZ e252 Ar259 (j := (2 : Int32)) hin260 (g := (mkF m 229 #[.val (.ref q0), .val (.int 6)] [(.int c2), (.int 2), (.ref b235), (.ref b235), (.ref b233), (.ref b233)])) rfl rfl (hb hby Dw)
    have V261 : Arv Z h261 b235 c235 .char (6 : Int32) [(.int c0), (.int c1), (.int c2), (.int 0), (.int 0), (.int 0)] (.int 0) := by
      have q := Arv.set Ar259 q259 Sz259 Nn259 Hs259 Gf259 (fits_nar_char _) W261 2 rfl (Nat.le_of_ble_eq_true rfl)
      first | exact q | (simp only [Pa rc0, Pa rc1, Pa rc2, Pa rc3, Pa rc4, Pa rc5, Pa rc6, Pa rc7] at q; exact q)
    have sf263 := (Safe.wr W252 sf254 CR244.1 sf254)
    have CR262 := CR253.trans (CHr.wr W261 sf263 CR253.1)
    have N261 := Fr.snoc X261 N252 g_b235
    have O261 := O252.wr W261 g_b235
    have K261 := K252.wr W261 (Or.inr s_b235)
    have f264 := (f255.other W261 ne245)
    obtain ⟨cl265, Ar265, q265, Sz265, Nn265, Hs265, Gf265⟩ := id f264
    have hin266 : ¬ ((3 : Int32) < 0 ∨ cl265.slots.size ≤ ((3 : Int32)).toNatClampNeg) := inb_of Sz265 ⟨by decide, by decide⟩
    have hat267 : cl265.slots[((3 : Int32)).toNatClampNeg]? = some (.int c3) := Hs265.at hin266 rfl
    obtain ⟨cl268, Ar268, q268, Sz268, Nn268, Hs268, Gf268⟩ := id V261
    have hin269 : ¬ ((3 : Int32) < 0 ∨ cl268.slots.size ≤ ((3 : Int32)).toNatClampNeg) := inb_of Sz268 ⟨by decide, by decide⟩
    obtain ⟨T270, h270, X270, e270, W270, st270⟩ := stC X261 hx hZ e261 Ar268 (j := (3 : Int32)) hin269 (g := (mkF m 235 #[.val (.ref q0), .val (.int 6)] [(.int c3), (.int 3), (.ref b235), (.ref b235), (.ref b233), (.ref b233)])) rfl rfl (hb hby Mw)
    have V270 : Arv Z h270 b235 c235 .char (6 : Int32) [(.int c0), (.int c1), (.int c2), (.int c3), (.int 0), (.int 0)] (.int 0) := by
      have q := Arv.set Ar268 q268 Sz268 Nn268 Hs268 Gf268 (fits_nar_char _) W270 3 rfl (Nat.le_of_ble_eq_true rfl)
      first | exact q | (simp only [Pa rc0, Pa rc1, Pa rc2, Pa rc3, Pa rc4, Pa rc5, Pa rc6, Pa rc7] at q; exact q)
    have sf272 := (Safe.wr W261 sf263 CR253.1 sf263)
    have CR271 := CR262.trans (CHr.wr W270 sf272 CR262.1)
    have N270 := Fr.snoc X270 N261 g_b235
    have O270 := O261.wr W270 g_b235
    have K270 := K261.wr W270 (Or.inr s_b235)
    have f273 := (f264.other W270 ne245)
    obtain ⟨cl274, Ar274, q274, Sz274, Nn274, Hs274, Gf274⟩ := id f273
    have hin275 : ¬ ((4 : Int32) < 0 ∨ cl274.slots.size ≤ ((4 : Int32)).toNatClampNeg) := inb_of Sz274 ⟨by decide, by decide⟩
    have hat276 : cl274.slots[((4 : Int32)).toNatClampNeg]? = some (.int c4) := Hs274.at hin275 rfl
    obtain ⟨cl277, Ar277, q277, Sz277, Nn277, Hs277, Gf277⟩ := id V270
    have hin278 : ¬ ((4 : Int32) < 0 ∨ cl277.slots.size ≤ ((4 : Int32)).toNatClampNeg) := inb_of Sz277 ⟨by decide, by decide⟩
    obtain ⟨T279, h279, X279, e279, W279, st279⟩ := stC X270 hx hZ e270 Ar277 (j := (4 : Int32)) hin278 (g := (mkF m 241 #[.val (.ref q0), .val (.int 6)] [(.int c4), (.int 4), (.ref b235), (.ref b235), (.ref b233), (.ref b233)])) rfl rfl (hb hby Yw)
    have V279 : Arv Z h279 b235 c235 .char (6 : Int32) [(.int c0), (.int c1), (.int c2), (.int c3), (.int c4), (.int 0)] (.int 0) := by
      have q := Arv.set Ar277 q277 Sz277 Nn277 Hs277 Gf277 (fits_nar_char _) W279 4 rfl (Nat.le_of_ble_eq_true rfl)
      first | exact q | (simp only [Pa rc0, Pa rc1, Pa rc2, Pa rc3, Pa rc4, Pa rc5, Pa rc6, Pa rc7] at q; exact q)
    have sf281 := (Safe.wr W270 sf272 CR262.1 sf272)
    have CR280 := CR271.trans (CHr.wr W279 sf281 CR271.1)
    have N279 := Fr.snoc X279 N270 g_b235
    have O279 := O270.wr W279 g_b235
    have K279 := K270.wr W279 (Or.inr s_b235)
    have f282 := (f273.other W279 ne245)
    obtain ⟨cl283, Ar283, q283, Sz283, Nn283, Hs283, Gf283⟩ := id f282
    have hin284 : ¬ ((5 : Int32) < 0 ∨ cl283.slots.size ≤ ((5 : Int32)).toNatClampNeg) := inb_of Sz283 ⟨by decide, by decide⟩
    have hat285 : cl283.slots[((5 : Int32)).toNatClampNeg]? = some (.int c5) := Hs283.at hin284 rfl
    obtain ⟨cl286, Ar286, q286, Sz286, Nn286, Hs286, Gf286⟩ := id V279
    have hin287 : ¬ ((5 : Int32) < 0 ∨ cl286.slots.size ≤ ((5 : Int32)).toNatClampNeg) := inb_of Sz286 ⟨by decide, by decide⟩
    obtain ⟨T288, h288, X288, e288, W288, st288⟩ := stC X279 hx hZ e279 Ar286 (j := (5 : Int32)) hin287 (g := (mkF m 247 #[.val (.ref q0), .val (.int 6)] [(.int c5), (.int 5), (.ref b235), (.ref b235), (.ref b233), (.ref b233)])) rfl rfl (hb hby Hx)
    have V288 : Arv Z h288 b235 c235 .char (6 : Int32) [(.int c0), (.int c1), (.int c2), (.int c3), (.int c4), (.int c5)] (.int 0) := by
      have q := Arv.set Ar286 q286 Sz286 Nn286 Hs286 Gf286 (fits_nar_char _) W288 5 rfl (Nat.le_of_ble_eq_true rfl)
      first | exact q | (simp only [Pa rc0, Pa rc1, Pa rc2, Pa rc3, Pa rc4, Pa rc5, Pa rc6, Pa rc7] at q; exact q)
    have sf290 := (Safe.wr W279 sf281 CR271.1 sf281)
    have CR289 := CR280.trans (CHr.wr W288 sf290 CR280.1)
    have N288 := Fr.snoc X288 N279 g_b235
    have O288 := O279.wr W288 g_b235
    have K288 := K279.wr W288 (Or.inr s_b235)
    have k291 : ∀ t, Db p e below m T288 248 #[.val (.ref q0), .val (.int 6)] [(.ref b235), (.ref b233), (.ref b233)] t → Kb p e below m s₁ #[(.ref q0), (.int nq)] 2 t := by
      intro t k
      refine k232 t ?_
      refine XS.tswIn X00.here hx rfl (pc0 := 1) (pc' := 204) rfl (hb hby Hf) rfl (by decide) (o := 203) (by decide) (by decide) (by decide) ?_
      refine st233 _ ?_
      refine XS.dup X233.here hx rfl (hb hby Yu) rfl rfl ?_
      refine XS.bipush X233.here hx rfl (hb hby Zu) ?_
      refine st235 _ ?_
      refine XS.dup X235.here hx rfl (hb hby Bv) rfl rfl ?_
      refine XS.iconst X235.here hx rfl (hb hby Dv) ?_
      refine XS.aloadN X235.here hx rfl (hb hby Gv) rfl rfl ?_
      refine XS.iconst X235.here hx rfl (hb hby Hv) ?_
      refine X235.caload hx (j := (0 : Int32)) (v := (.int c0)) (by rw [e235]; exact Ar238.1) (State.isArrayOf_alike hZ.alike Ar238.2.1) Ar238.2.2 hin239 hat240 (g := (mkF m 216 #[.val (.ref q0), .val (.int 6)] [(.int 0), (.ref q0), (.int 0), (.ref b235), (.ref b235), (.ref b233), (.ref b233)])) rfl rfl (hb hby Iv) _ ?_
      refine st243 _ ?_
      refine XS.dup X243.here hx rfl (hb hby Lv) rfl rfl ?_
      show Db p e below m T243 219 #[.val (.ref q0), .val (.int 6)] [(.ref b235), (.ref b235), (.ref b233), (.ref b233)] t
      refine XS.iconst X243.here hx rfl (hb hby Mv) ?_
      refine XS.aloadN X243.here hx rfl (hb hby Pv) rfl rfl ?_
      refine XS.iconst X243.here hx rfl (hb hby Rv) ?_
      refine X243.caload hx (j := (1 : Int32)) (v := (.int c1)) (by rw [e243]; exact Ar247.1) (State.isArrayOf_alike hZ.alike Ar247.2.1) Ar247.2.2 hin248 hat249 (g := (mkF m 222 #[.val (.ref q0), .val (.int 6)] [(.int 1), (.ref q0), (.int 1), (.ref b235), (.ref b235), (.ref b233), (.ref b233)])) rfl rfl (hb hby Uv) _ ?_
      refine st252 _ ?_
      refine XS.dup X252.here hx rfl (hb hby Wv) rfl rfl ?_
      refine XS.iconst X252.here hx rfl (hb hby Yv) ?_
      refine XS.aloadN X252.here hx rfl (hb hby Zv) rfl rfl ?_
      refine XS.iconst X252.here hx rfl (hb hby Aw) ?_
      refine X252.caload hx (j := (2 : Int32)) (v := (.int c2)) (by rw [e252]; exact Ar256.1) (State.isArrayOf_alike hZ.alike Ar256.2.1) Ar256.2.2 hin257 hat258 (g := (mkF m 228 #[.val (.ref q0), .val (.int 6)] [(.int 2), (.ref q0), (.int 2), (.ref b235), (.ref b235), (.ref b233), (.ref b233)])) rfl rfl (hb hby Bw) _ ?_
      refine st261 _ ?_
      refine XS.dup X261.here hx rfl (hb hby Gw) rfl rfl ?_
      show Db p e below m T261 231 #[.val (.ref q0), .val (.int 6)] [(.ref b235), (.ref b235), (.ref b233), (.ref b233)] t
      refine XS.iconst X261.here hx rfl (hb hby Hw) ?_
      refine XS.aloadN X261.here hx rfl (hb hby Iw) rfl rfl ?_
      refine XS.iconst X261.here hx rfl (hb hby Kw) ?_
      refine X261.caload hx (j := (3 : Int32)) (v := (.int c3)) (by rw [e261]; exact Ar265.1) (State.isArrayOf_alike hZ.alike Ar265.2.1) Ar265.2.2 hin266 hat267 (g := (mkF m 234 #[.val (.ref q0), .val (.int 6)] [(.int 3), (.ref q0), (.int 3), (.ref b235), (.ref b235), (.ref b233), (.ref b233)])) rfl rfl (hb hby Lw) _ ?_
      refine st270 _ ?_
      refine XS.dup X270.here hx rfl (hb hby Pw) rfl rfl ?_
      refine XS.iconst X270.here hx rfl (hb hby Rw) ?_
      refine XS.aloadN X270.here hx rfl (hb hby Uw) rfl rfl ?_
      refine XS.iconst X270.here hx rfl (hb hby Vw) ?_
      refine X270.caload hx (j := (4 : Int32)) (v := (.int c4)) (by rw [e270]; exact Ar274.1) (State.isArrayOf_alike hZ.alike Ar274.2.1) Ar274.2.2 hin275 hat276 (g := (mkF m 240 #[.val (.ref q0), .val (.int 6)] [(.int 4), (.ref q0), (.int 4), (.ref b235), (.ref b235), (.ref b233), (.ref b233)])) rfl rfl (hb hby Ww) _ ?_
      refine st279 _ ?_
      refine XS.dup X279.here hx rfl (hb hby Zw) rfl rfl ?_
      show Db p e below m T279 243 #[.val (.ref q0), .val (.int 6)] [(.ref b235), (.ref b235), (.ref b233), (.ref b233)] t
      refine XS.iconst X279.here hx rfl (hb hby Ax) ?_
      refine XS.aloadN X279.here hx rfl (hb hby Bx) rfl rfl ?_
      refine XS.iconst X279.here hx rfl (hb hby Dx) ?_
      refine X279.caload hx (j := (5 : Int32)) (v := (.int c5)) (by rw [e279]; exact Ar283.1) (State.isArrayOf_alike hZ.alike Ar283.2.1) Ar283.2.2 hin284 hat285 (g := (mkF m 246 #[.val (.ref q0), .val (.int 6)] [(.int 5), (.ref q0), (.int 5), (.ref b235), (.ref b235), (.ref b233), (.ref b233)])) rfl rfl (hb hby Gx) _ ?_
      refine st288 _ ?_
      exact k
    have f292 := (((((((A233.ext E235).wr W243).wr W252).wr W261).wr W270).wr W279).wr W288)
    have ne293 : ¬ (b233 = b235) := (Nat.ne_of_lt (Nat.lt_of_lt_of_le lt_b233 (Nat.le_of_eq g235.symm)))
    have f294 := (((((((F233_value.ext E235).other W243 (Or.inl ne293)).other W252 (Or.inl ne293)).other W261 (Or.inl ne293)).other W270 (Or.inl ne293)).other W279 (Or.inl ne293)).other W288 (Or.inl ne293))
    have f295 := (((((((F233_coder.ext E235).other W243 (Or.inl ne293)).other W252 (Or.inl ne293)).other W261 (Or.inl ne293)).other W270 (Or.inl ne293)).other W279 (Or.inl ne293)).other W288 (Or.inl ne293))
    have hp296 : ∀ c ∈ ([c0, c1, c2, c3, c4, c5] : List Int32), ¬ c < 0 ∧ ¬ (255 : Int32) < c := (by simp only [List.mem_cons, List.not_mem_nil, or_false, forall_eq_or_imp, forall_eq]; exact ⟨rc0, rc1, rc2, rc3, rc4, rc5⟩)
    obtain ⟨_, _, ⟨T297, L297, k297, n297⟩, -, X297, ⟨Lc297, hQ297, l297, y297, z297⟩, st297⟩ := X288.specialBack hx (y := Dk) rfl hown (mvT hZ (Ka hw 53 rfl)) (mvT hZ (Ka hw 54 rfl)) (mvT hZ (Ka hw 55 rfl)) (by decide) (StrChars.Road.backV (W := 1) hZ (Ik hw) (kI := 4) (Ka hw 2 rfl) (cs := ([c0, c1, c2, c3, c4, c5] : List Int32)) (bs := (([c0, c1, c2, c3, c4, c5] : List Int32)).map (fun c => c.toInt8.toInt32)) (n := 6) g_b233 (Nat.le_trans (Nat.le_of_eq O288.1.symm) O288.2.1) f292 f294 f295 V288 (Hb.ext O288.2) Gb rfl rfl (by decide) (by decide) hp296 rfl (by decide) (by decide)) (g := (mkF m 248 #[.val (.ref q0), .val (.int 6)] [(.ref b235), (.ref b233), (.ref b233)])) rfl (by rw [hml]; rfl) (Steps.refl _) (a := b233) (argsL := [(.ref b235)]) (rest := [(.ref b233)]) (lenOf Ij rfl) rfl (by show 2 * 0 + _ ≤ _; exact Nat.le_of_eq rfl) (hb hby Ix) (fun _ _ => ⟨rfl, e288, (by decide : 2 + 1 ≤ _), (by decide : 10 + 6 ≤ _)⟩)
    dsimp only [Pt.U, Pt.locs, Pt.cells, Pt.slots] at X297 l297 y297 z297 st297 hQ297
    subst l297 y297 z297
    obtain ⟨rfl, N297q, Kc297, Ex297, Fc297, t297, kb297, g_t297, gs_t297, nx297, Fv297, Av297⟩ := hQ297
    have N297 := Fr.app N288 N297q
    have O297 := O288.keep Kc297 (allS g_b233 all0)
    have sf299 := (Safe.wr W288 sf290 CR280.1 (Safe.wr W279 sf281 CR271.1 (Safe.wr W270 sf272 CR262.1 (Safe.wr W261 sf263 CR253.1 (Safe.wr W252 sf254 CR244.1 (Safe.wr W243 Sf235 CR236.1 (Safe.ext E235 CR234.1 Sf233)))))))
    have CR298 := CR289.trans (CHr.keep Kc297 (allS sf299 all0) CR289.1)
    have K297 := K288.trans Kc297 (allS (Or.inr s_b233) all0)
    have s_t297 := Nat.le_trans K288.1 gs_t297
    have lt_t297 := Av297.lt
    have k300 : ∀ t, Db p e below m T297 251 #[.val (.ref q0), .val (.int 6)] [(.ref b233)] t → Kb p e below m s₁ #[(.ref q0), (.int nq)] 2 t := by
      intro t k
      refine k291 t ?_
      refine st297.trans ?_
      exact k
    obtain ⟨fs, hr, hrun, hended, hRW⟩ := X297.leaveW hS (by exact (Nat.le_trans (Nat.le_trans (Nat.le_trans (Nat.le_trans (Nat.le_trans (Nat.le_trans (Nat.le_trans (Nat.le_trans (Nat.le_trans (Nat.zero_le _) E233.1) E235.1) (Keep.of_wr W243).1) (Keep.of_wr W252).1) (Keep.of_wr W261).1) (Keep.of_wr W270).1) (Keep.of_wr W279).1) (Keep.of_wr W288).1) Kc297.1)) (v := some (.ref b233)) (fun h => by rw [Bd.returns] at h; cases h)
    refine hNG ⟨_, _, k300 _ ?_, hrun, hended, _, _, rfl, ?_, by rw [hh]; show CHr Z Uc s.vm h0 T297.vm T297.heap; exact CR298.trans (CHv.at X297 hZ (Af hw) CR298.1), hRW.1, hRW.2.1, hRW.2.2.1, hRW.2.2.2.mono (by decide) (by decide)⟩
    · exact retOut X297 hx (t := (.object "java/lang/String")) Bd.returns rfl (Or.inr (Or.inr (Or.inr (Or.inr ⟨rfl, rfl, rfl⟩)))) (hb hby Kx) hr
    · show Q_mk Z q0 kq nq c0 c1 c2 c3 c4 c5 c6 c7 Wa Va Ua Ra Ia Da Ha Ba Ga Aa Ma La Bb h0 n0 _ T297.heap _
      exact ⟨b233, t297, kb297, (6 : Int32), ((([c0, c1, c2, c3, c4, c5] : List Int32)).map (fun c => c.toInt8.toInt32)).map Value.int, ([c0, c1, c2, c3, c4, c5] : List Int32), rfl, N297, O297, K297, g_b233, s_b233, Ex297, Fc297, Fv297, Av297, StrChars.Road.codOf (cs := ([c0, c1, c2, c3, c4, c5] : List Int32)) (n := 6) rfl (fun c hc => (hp296 c hc).2), hp296, (Nat.le_of_ble_eq_true rfl)⟩
  · have k301 : ∀ t, Db p e below m s₁ 1 #[.val (.ref q0), .val (.int 7)] [(.int 7)] t → Kb p e below m s₁ #[(.ref q0), (.int nq)] 2 t := by
      intro t k
      refine k10 t ?_
      rw [hs11]
      exact k
    obtain ⟨T302, h302, X302, e302, E302, A302, D302, -, st302⟩ := newO X00 hx hZ hown (Ka hw 52 rfl) (Ka hw 2 rfl) (Ka hw 1 rfl) e00 (g := (mkF m 252 #[.val (.ref q0), .val (.int 7)] [])) rfl (hb hby Lx) (by decide) (by decide)
    obtain ⟨b302, g302⟩ : ∃ z, z = h0.size := ⟨_, rfl⟩
    have Sf302 : Safe Z Uc _ h302 b302 := Safe.ext E302 CR0.1 (Safe.new (Nat.le_of_eq g302.symm))
    have CR303 := CR0.trans (CHr.ext E302 CR0.1)
    rw [← g302] at A302 D302 st302
    have O302 := O0.ext E302
    have g_b302 : n0 ≤ b302 := Nat.le_trans (Nat.le_of_eq O0.1.symm) (Nat.le_trans O0.2.1 (Nat.le_of_eq g302.symm))
    have s_b302 : h0.size ≤ b302 := Nat.le_trans K00.1 (Nat.le_of_eq g302.symm)
    have K302 := K00.ext E302
    have lt_b302 := A302.lt
    have F302_value : Fld Z h302 b302 "java/lang/String" "value" "[B" .null := D302 (Or.inr (Ka hw 4 rfl)) (ty := (.array .byte)) (by decide)
    have F302_coder : Fld Z h302 b302 "java/lang/String" "coder" "B" (.int 0) := D302 (Or.inr (Ka hw 5 rfl)) (ty := .byte) (by decide)
    obtain ⟨T304, h304, c304, X304, e304, E304, A304, st304⟩ := newP X302 hx hZ (Ka hw 21 rfl) e302 (g := (mkF m 258 #[.val (.ref q0), .val (.int 7)] [(.int 7), (.ref b302), (.ref b302)])) rfl (hb hby Rx) rfl (by decide) (cap := 7) (by decide) (by decide) (by decide) (by decide)
    obtain ⟨b304, g304⟩ : ∃ z, z = h302.size := ⟨_, rfl⟩
    have Sf304 : Safe Z Uc _ h304 b304 := Safe.ext E304 CR303.1 (Safe.new (Nat.le_of_eq g304.symm))
    have CR305 := CR303.trans (CHr.ext E304 CR303.1)
    rw [← g304] at A304 st304
    have O304 := O302.ext E304
    have g_b304 : n0 ≤ b304 := Nat.le_trans (Nat.le_of_eq O302.1.symm) (Nat.le_trans O302.2.1 (Nat.le_of_eq g304.symm))
    have s_b304 : h0.size ≤ b304 := Nat.le_trans K302.1 (Nat.le_of_eq g304.symm)
    have K304 := K302.ext E304
    have V304 : Arv Z h304 b304 c304 .char (7 : Int32) [(.int 0), (.int 0), (.int 0), (.int 0), (.int 0), (.int 0), (.int 0)] (.int 0) := (Arv.new A304 (by decide)).pad (pad_rep [] (.int 0) 7)
    have lt_b304 := V304.lt
    have f306 := ((P0.ext E302).ext E304)
    obtain ⟨cl307, Ar307, q307, Sz307, Nn307, Hs307, Gf307⟩ := id f306
    have hin308 : ¬ ((0 : Int32) < 0 ∨ cl307.slots.size ≤ ((0 : Int32)).toNatClampNeg) := inb_of Sz307 ⟨by decide, by decide⟩
    have hat309 : cl307.slots[((0 : Int32)).toNatClampNeg]? = some (.int c0) := Hs307.at hin308 rfl
    obtain ⟨cl310, Ar310, q310, Sz310, Nn310, Hs310, Gf310⟩ := id V304
    have hin311 : ¬ ((0 : Int32) < 0 ∨ cl310.slots.size ≤ ((0 : Int32)).toNatClampNeg) := inb_of Sz310 ⟨by decide, by decide⟩
    obtain ⟨T312, h312, X312, e312, W312, st312⟩ := stC X304 hx hZ e304 Ar310 (j := (0 : Int32)) hin311 (g := (mkF m 265 #[.val (.ref q0), .val (.int 7)] [(.int c0), (.int 0), (.ref b304), (.ref b304), (.ref b302), (.ref b302)])) rfl rfl (hb hby Ay)
    have V312 : Arv Z h312 b304 c304 .char (7 : Int32) [(.int c0), (.int 0), (.int 0), (.int 0), (.int 0), (.int 0), (.int 0)] (.int 0) := by
      have q := Arv.set Ar310 q310 Sz310 Nn310 Hs310 Gf310 (fits_nar_char _) W312 0 rfl (Nat.le_of_ble_eq_true rfl)
      first | exact q | (simp only [Pa rc0, Pa rc1, Pa rc2, Pa rc3, Pa rc4, Pa rc5, Pa rc6, Pa rc7] at q; exact q)
    have CR313 := CR305.trans (CHr.wr W312 Sf304 CR305.1)
    have N312 := Fr.snoc X312 N00 g_b304
    have O312 := O304.wr W312 g_b304
    have K312 := K304.wr W312 (Or.inr s_b304)
    have ne314 : ¬ (q0 = b304) := (Nat.ne_of_lt (Nat.lt_of_lt_of_le (Nat.lt_of_lt_of_le P0.lt E302.1) (Nat.le_of_eq g304.symm)))
    have f315 := (f306.other W312 ne314)
    obtain ⟨cl316, Ar316, q316, Sz316, Nn316, Hs316, Gf316⟩ := id f315
    have hin317 : ¬ ((1 : Int32) < 0 ∨ cl316.slots.size ≤ ((1 : Int32)).toNatClampNeg) := inb_of Sz316 ⟨by decide, by decide⟩
    have hat318 : cl316.slots[((1 : Int32)).toNatClampNeg]? = some (.int c1) := Hs316.at hin317 rfl
    obtain ⟨cl319, Ar319, q319, Sz319, Nn319, Hs319, Gf319⟩ := id V312
    have hin320 : ¬ ((1 : Int32) < 0 ∨ cl319.slots.size ≤ ((1 : Int32)).toNatClampNeg) := inb_of Sz319 ⟨by decide, by decide⟩
    obtain ⟨T321, h321, X321, e321, W321, st321⟩ := stC X312 hx hZ e312 Ar319 (j := (1 : Int32)) hin320 (g := (mkF m 271 #[.val (.ref q0), .val (.int 7)] [(.int c1), (.int 1), (.ref b304), (.ref b304), (.ref b302), (.ref b302)])) rfl rfl (hb hby Ly)
    have V321 : Arv Z h321 b304 c304 .char (7 : Int32) [(.int c0), (.int c1), (.int 0), (.int 0), (.int 0), (.int 0), (.int 0)] (.int 0) := by
      have q := Arv.set Ar319 q319 Sz319 Nn319 Hs319 Gf319 (fits_nar_char _) W321 1 rfl (Nat.le_of_ble_eq_true rfl)
      first | exact q | (simp only [Pa rc0, Pa rc1, Pa rc2, Pa rc3, Pa rc4, Pa rc5, Pa rc6, Pa rc7] at q; exact q)
    have sf323 := (Safe.wr W312 Sf304 CR305.1 Sf304)
    have CR322 := CR313.trans (CHr.wr W321 sf323 CR313.1)
    have N321 := Fr.snoc X321 N312 g_b304
    have O321 := O312.wr W321 g_b304
    have K321 := K312.wr W321 (Or.inr s_b304)
    have f324 := (f315.other W321 ne314)
    obtain ⟨cl325, Ar325, q325, Sz325, Nn325, Hs325, Gf325⟩ := id f324
    have hin326 : ¬ ((2 : Int32) < 0 ∨ cl325.slots.size ≤ ((2 : Int32)).toNatClampNeg) := inb_of Sz325 ⟨by decide, by decide⟩
    have hat327 : cl325.slots[((2 : Int32)).toNatClampNeg]? = some (.int c2) := Hs325.at hin326 rfl
    obtain ⟨cl328, Ar328, q328, Sz328, Nn328, Hs328, Gf328⟩ := id V321
    have hin329 : ¬ ((2 : Int32) < 0 ∨ cl328.slots.size ≤ ((2 : Int32)).toNatClampNeg) := inb_of Sz328 ⟨by decide, by decide⟩
    obtain ⟨T330, h330, X330, e330, W330, st330⟩ := stC X321 hx hZ e321 Ar328 (j := (2 : Int32)) hin329 (g := (mkF m 277 #[.val (.ref q0), .val (.int 7)] [(.int c2), (.int 2), (.ref b304), (.ref b304), (.ref b302), (.ref b302)])) rfl rfl (hb hby Wy)
    have V330 : Arv Z h330 b304 c304 .char (7 : Int32) [(.int c0), (.int c1), (.int c2), (.int 0), (.int 0), (.int 0), (.int 0)] (.int 0) := by
      have q := Arv.set Ar328 q328 Sz328 Nn328 Hs328 Gf328 (fits_nar_char _) W330 2 rfl (Nat.le_of_ble_eq_true rfl)
      first | exact q | (simp only [Pa rc0, Pa rc1, Pa rc2, Pa rc3, Pa rc4, Pa rc5, Pa rc6, Pa rc7] at q; exact q)
    have sf332 := (Safe.wr W321 sf323 CR313.1 sf323)
    have CR331 := CR322.trans (CHr.wr W330 sf332 CR322.1)
    have N330 := Fr.snoc X330 N321 g_b304
    have O330 := O321.wr W330 g_b304
    have K330 := K321.wr W330 (Or.inr s_b304)
    have f333 := (f324.other W330 ne314)
    obtain ⟨cl334, Ar334, q334, Sz334, Nn334, Hs334, Gf334⟩ := id f333
    have hin335 : ¬ ((3 : Int32) < 0 ∨ cl334.slots.size ≤ ((3 : Int32)).toNatClampNeg) := inb_of Sz334 ⟨by decide, by decide⟩
    have hat336 : cl334.slots[((3 : Int32)).toNatClampNeg]? = some (.int c3) := Hs334.at hin335 rfl
    obtain ⟨cl337, Ar337, q337, Sz337, Nn337, Hs337, Gf337⟩ := id V330
    have hin338 : ¬ ((3 : Int32) < 0 ∨ cl337.slots.size ≤ ((3 : Int32)).toNatClampNeg) := inb_of Sz337 ⟨by decide, by decide⟩
    obtain ⟨T339, h339, X339, e339, W339, st339⟩ := stC X330 hx hZ e330 Ar337 (j := (3 : Int32)) hin338 (g := (mkF m 283 #[.val (.ref q0), .val (.int 7)] [(.int c3), (.int 3), (.ref b304), (.ref b304), (.ref b302), (.ref b302)])) rfl rfl (hb hby Gz)
    have V339 : Arv Z h339 b304 c304 .char (7 : Int32) [(.int c0), (.int c1), (.int c2), (.int c3), (.int 0), (.int 0), (.int 0)] (.int 0) := by
      have q := Arv.set Ar337 q337 Sz337 Nn337 Hs337 Gf337 (fits_nar_char _) W339 3 rfl (Nat.le_of_ble_eq_true rfl)
      first | exact q | (simp only [Pa rc0, Pa rc1, Pa rc2, Pa rc3, Pa rc4, Pa rc5, Pa rc6, Pa rc7] at q; exact q)
    have sf341 := (Safe.wr W330 sf332 CR322.1 sf332)
    have CR340 := CR331.trans (CHr.wr W339 sf341 CR331.1)
    have N339 := Fr.snoc X339 N330 g_b304
    have O339 := O330.wr W339 g_b304
    have K339 := K330.wr W339 (Or.inr s_b304)
    have f342 := (f333.other W339 ne314)
    obtain ⟨cl343, Ar343, q343, Sz343, Nn343, Hs343, Gf343⟩ := id f342
    have hin344 : ¬ ((4 : Int32) < 0 ∨ cl343.slots.size ≤ ((4 : Int32)).toNatClampNeg) := inb_of Sz343 ⟨by decide, by decide⟩
    have hat345 : cl343.slots[((4 : Int32)).toNatClampNeg]? = some (.int c4) := Hs343.at hin344 rfl
    obtain ⟨cl346, Ar346, q346, Sz346, Nn346, Hs346, Gf346⟩ := id V339
    have hin347 : ¬ ((4 : Int32) < 0 ∨ cl346.slots.size ≤ ((4 : Int32)).toNatClampNeg) := inb_of Sz346 ⟨by decide, by decide⟩
    obtain ⟨T348, h348, X348, e348, W348, st348⟩ := stC X339 hx hZ e339 Ar346 (j := (4 : Int32)) hin347 (g := (mkF m 289 #[.val (.ref q0), .val (.int 7)] [(.int c4), (.int 4), (.ref b304), (.ref b304), (.ref b302), (.ref b302)])) rfl rfl (hb hby Pz)
    have V348 : Arv Z h348 b304 c304 .char (7 : Int32) [(.int c0), (.int c1), (.int c2), (.int c3), (.int c4), (.int 0), (.int 0)] (.int 0) := by
      have q := Arv.set Ar346 q346 Sz346 Nn346 Hs346 Gf346 (fits_nar_char _) W348 4 rfl (Nat.le_of_ble_eq_true rfl)
      first | exact q | (simp only [Pa rc0, Pa rc1, Pa rc2, Pa rc3, Pa rc4, Pa rc5, Pa rc6, Pa rc7] at q; exact q)
    have sf350 := (Safe.wr W339 sf341 CR331.1 sf341)
    have CR349 := CR340.trans (CHr.wr W348 sf350 CR340.1)
    have N348 := Fr.snoc X348 N339 g_b304
    have O348 := O339.wr W348 g_b304
    have K348 := K339.wr W348 (Or.inr s_b304)
    have f351 := (f342.other W348 ne314)
    obtain ⟨cl352, Ar352, q352, Sz352, Nn352, Hs352, Gf352⟩ := id f351
    have hin353 : ¬ ((5 : Int32) < 0 ∨ cl352.slots.size ≤ ((5 : Int32)).toNatClampNeg) := inb_of Sz352 ⟨by decide, by decide⟩
    have hat354 : cl352.slots[((5 : Int32)).toNatClampNeg]? = some (.int c5) := Hs352.at hin353 rfl
    obtain ⟨cl355, Ar355, q355, Sz355, Nn355, Hs355, Gf355⟩ := id V348
    have hin356 : ¬ ((5 : Int32) < 0 ∨ cl355.slots.size ≤ ((5 : Int32)).toNatClampNeg) := inb_of Sz355 ⟨by decide, by decide⟩
    obtain ⟨T357, h357, X357, e357, W357, st357⟩ := stC X348 hx hZ e348 Ar355 (j := (5 : Int32)) hin356 (g := (mkF m 295 #[.val (.ref q0), .val (.int 7)] [(.int c5), (.int 5), (.ref b304), (.ref b304), (.ref b302), (.ref b302)])) rfl rfl (hb hby Zz)
    have V357 : Arv Z h357 b304 c304 .char (7 : Int32) [(.int c0), (.int c1), (.int c2), (.int c3), (.int c4), (.int c5), (.int 0)] (.int 0) := by
      have q := Arv.set Ar355 q355 Sz355 Nn355 Hs355 Gf355 (fits_nar_char _) W357 5 rfl (Nat.le_of_ble_eq_true rfl)
      first | exact q | (simp only [Pa rc0, Pa rc1, Pa rc2, Pa rc3, Pa rc4, Pa rc5, Pa rc6, Pa rc7] at q; exact q)
    have sf359 := (Safe.wr W348 sf350 CR340.1 sf350)
    have CR358 := CR349.trans (CHr.wr W357 sf359 CR349.1)
    have N357 := Fr.snoc X357 N348 g_b304
    have O357 := O348.wr W357 g_b304
    have K357 := K348.wr W357 (Or.inr s_b304)
    have f360 := (f351.other W357 ne314)
    obtain ⟨cl361, Ar361, q361, Sz361, Nn361, Hs361, Gf361⟩ := id f360
    have hin362 : ¬ ((6 : Int32) < 0 ∨ cl361.slots.size ≤ ((6 : Int32)).toNatClampNeg) := inb_of Sz361 ⟨by decide, by decide⟩
    have hat363 : cl361.slots[((6 : Int32)).toNatClampNeg]? = some (.int c6) := Hs361.at hin362 rfl
    obtain ⟨cl364, Ar364, q364, Sz364, Nn364, Hs364, Gf364⟩ := id V357
    have hin365 : ¬ ((6 : Int32) < 0 ∨ cl364.slots.size ≤ ((6 : Int32)).toNatClampNeg) := inb_of Sz364 ⟨by decide, by decide⟩
    obtain ⟨T366, h366, X366, e366, W366, st366⟩ := stC X357 hx hZ e357 Ar364 (j := (6 : Int32)) hin365 (g := (mkF m 303 #[.val (.ref q0), .val (.int 7)] [(.int c6), (.int 6), (.ref b304), (.ref b304), (.ref b302), (.ref b302)])) rfl rfl (hb hby I0)
    have V366 : Arv Z h366 b304 c304 .char (7 : Int32) [(.int c0), (.int c1), (.int c2), (.int c3), (.int c4), (.int c5), (.int c6)] (.int 0) := by
      have q := Arv.set Ar364 q364 Sz364 Nn364 Hs364 Gf364 (fits_nar_char _) W366 6 rfl (Nat.le_of_ble_eq_true rfl)
      first | exact q | (simp only [Pa rc0, Pa rc1, Pa rc2, Pa rc3, Pa rc4, Pa rc5, Pa rc6, Pa rc7] at q; exact q)
    have sf368 := (Safe.wr W357 sf359 CR349.1 sf359)
    have CR367 := CR358.trans (CHr.wr W366 sf368 CR358.1)
    have N366 := Fr.snoc X366 N357 g_b304
    have O366 := O357.wr W366 g_b304
    have K366 := K357.wr W366 (Or.inr s_b304)
    have k369 : ∀ t, Db p e below m T366 304 #[.val (.ref q0), .val (.int 7)] [(.ref b304), (.ref b302), (.ref b302)] t → Kb p e below m s₁ #[(.ref q0), (.int nq)] 2 t := by
      intro t k
      refine k301 t ?_
      refine XS.tswIn X00.here hx rfl (pc0 := 1) (pc' := 252) rfl (hb hby Hf) rfl (by decide) (o := 251) (by decide) (by decide) (by decide) ?_
      refine st302 _ ?_
      refine XS.dup X302.here hx rfl (hb hby Mx) rfl rfl ?_
      refine XS.bipush X302.here hx rfl (hb hby Px) ?_
      refine st304 _ ?_
      refine XS.dup X304.here hx rfl (hb hby Ux) rfl rfl ?_
      refine XS.iconst X304.here hx rfl (hb hby Vx) ?_
      refine XS.aloadN X304.here hx rfl (hb hby Wx) rfl rfl ?_
      refine XS.iconst X304.here hx rfl (hb hby Yx) ?_
      refine X304.caload hx (j := (0 : Int32)) (v := (.int c0)) (by rw [e304]; exact Ar307.1) (State.isArrayOf_alike hZ.alike Ar307.2.1) Ar307.2.2 hin308 hat309 (g := (mkF m 264 #[.val (.ref q0), .val (.int 7)] [(.int 0), (.ref q0), (.int 0), (.ref b304), (.ref b304), (.ref b302), (.ref b302)])) rfl rfl (hb hby Zx) _ ?_
      refine st312 _ ?_
      refine XS.dup X312.here hx rfl (hb hby Dy) rfl rfl ?_
      show Db p e below m T312 267 #[.val (.ref q0), .val (.int 7)] [(.ref b304), (.ref b304), (.ref b302), (.ref b302)] t
      refine XS.iconst X312.here hx rfl (hb hby Gy) ?_
      refine XS.aloadN X312.here hx rfl (hb hby Hy) rfl rfl ?_
      refine XS.iconst X312.here hx rfl (hb hby Iy) ?_
      refine X312.caload hx (j := (1 : Int32)) (v := (.int c1)) (by rw [e312]; exact Ar316.1) (State.isArrayOf_alike hZ.alike Ar316.2.1) Ar316.2.2 hin317 hat318 (g := (mkF m 270 #[.val (.ref q0), .val (.int 7)] [(.int 1), (.ref q0), (.int 1), (.ref b304), (.ref b304), (.ref b302), (.ref b302)])) rfl rfl (hb hby Ky) _ ?_
      refine st321 _ ?_
      refine XS.dup X321.here hx rfl (hb hby My) rfl rfl ?_
      refine XS.iconst X321.here hx rfl (hb hby Py) ?_
      refine XS.aloadN X321.here hx rfl (hb hby Ry) rfl rfl ?_
      refine XS.iconst X321.here hx rfl (hb hby Uy) ?_
      refine X321.caload hx (j := (2 : Int32)) (v := (.int c2)) (by rw [e321]; exact Ar325.1) (State.isArrayOf_alike hZ.alike Ar325.2.1) Ar325.2.2 hin326 hat327 (g := (mkF m 276 #[.val (.ref q0), .val (.int 7)] [(.int 2), (.ref q0), (.int 2), (.ref b304), (.ref b304), (.ref b302), (.ref b302)])) rfl rfl (hb hby Vy) _ ?_
      refine st330 _ ?_
      refine XS.dup X330.here hx rfl (hb hby Yy) rfl rfl ?_
      show Db p e below m T330 279 #[.val (.ref q0), .val (.int 7)] [(.ref b304), (.ref b304), (.ref b302), (.ref b302)] t
      refine XS.iconst X330.here hx rfl (hb hby Zy) ?_
      refine XS.aloadN X330.here hx rfl (hb hby Az) rfl rfl ?_
      refine XS.iconst X330.here hx rfl (hb hby Bz) ?_
      refine X330.caload hx (j := (3 : Int32)) (v := (.int c3)) (by rw [e330]; exact Ar334.1) (State.isArrayOf_alike hZ.alike Ar334.2.1) Ar334.2.2 hin335 hat336 (g := (mkF m 282 #[.val (.ref q0), .val (.int 7)] [(.int 3), (.ref q0), (.int 3), (.ref b304), (.ref b304), (.ref b302), (.ref b302)])) rfl rfl (hb hby Dz) _ ?_
      refine st339 _ ?_
      refine XS.dup X339.here hx rfl (hb hby Hz) rfl rfl ?_
      refine XS.iconst X339.here hx rfl (hb hby Iz) ?_
      refine XS.aloadN X339.here hx rfl (hb hby Kz) rfl rfl ?_
      refine XS.iconst X339.here hx rfl (hb hby Lz) ?_
      refine X339.caload hx (j := (4 : Int32)) (v := (.int c4)) (by rw [e339]; exact Ar343.1) (State.isArrayOf_alike hZ.alike Ar343.2.1) Ar343.2.2 hin344 hat345 (g := (mkF m 288 #[.val (.ref q0), .val (.int 7)] [(.int 4), (.ref q0), (.int 4), (.ref b304), (.ref b304), (.ref b302), (.ref b302)])) rfl rfl (hb hby Mz) _ ?_
      refine st348 _ ?_
      refine XS.dup X348.here hx rfl (hb hby Rz) rfl rfl ?_
      show Db p e below m T348 291 #[.val (.ref q0), .val (.int 7)] [(.ref b304), (.ref b304), (.ref b302), (.ref b302)] t
      refine XS.iconst X348.here hx rfl (hb hby Uz) ?_
      refine XS.aloadN X348.here hx rfl (hb hby Vz) rfl rfl ?_
      refine XS.iconst X348.here hx rfl (hb hby Wz) ?_
      refine X348.caload hx (j := (5 : Int32)) (v := (.int c5)) (by rw [e348]; exact Ar352.1) (State.isArrayOf_alike hZ.alike Ar352.2.1) Ar352.2.2 hin353 hat354 (g := (mkF m 294 #[.val (.ref q0), .val (.int 7)] [(.int 5), (.ref q0), (.int 5), (.ref b304), (.ref b304), (.ref b302), (.ref b302)])) rfl rfl (hb hby Yz) _ ?_
      refine st357 _ ?_
      refine XS.dup X357.here hx rfl (hb hby A0) rfl rfl ?_
      refine XS.bipush X357.here hx rfl (hb hby B0) ?_
      refine XS.aloadN X357.here hx rfl (hb hby D0) rfl rfl ?_
      refine XS.bipush X357.here hx rfl (hb hby G0) ?_
      refine X357.caload hx (j := (6 : Int32)) (v := (.int c6)) (by rw [e357]; exact Ar361.1) (State.isArrayOf_alike hZ.alike Ar361.2.1) Ar361.2.2 hin362 hat363 (g := (mkF m 302 #[.val (.ref q0), .val (.int 7)] [(.int 6), (.ref q0), (.int 6), (.ref b304), (.ref b304), (.ref b302), (.ref b302)])) rfl rfl (hb hby H0) _ ?_
      refine st366 _ ?_
      exact k
    have f370 := ((((((((A302.ext E304).wr W312).wr W321).wr W330).wr W339).wr W348).wr W357).wr W366)
    have ne371 : ¬ (b302 = b304) := (Nat.ne_of_lt (Nat.lt_of_lt_of_le lt_b302 (Nat.le_of_eq g304.symm)))
    have f372 := ((((((((F302_value.ext E304).other W312 (Or.inl ne371)).other W321 (Or.inl ne371)).other W330 (Or.inl ne371)).other W339 (Or.inl ne371)).other W348 (Or.inl ne371)).other W357 (Or.inl ne371)).other W366 (Or.inl ne371))
    have f373 := ((((((((F302_coder.ext E304).other W312 (Or.inl ne371)).other W321 (Or.inl ne371)).other W330 (Or.inl ne371)).other W339 (Or.inl ne371)).other W348 (Or.inl ne371)).other W357 (Or.inl ne371)).other W366 (Or.inl ne371))
    have hp374 : ∀ c ∈ ([c0, c1, c2, c3, c4, c5, c6] : List Int32), ¬ c < 0 ∧ ¬ (255 : Int32) < c := (by simp only [List.mem_cons, List.not_mem_nil, or_false, forall_eq_or_imp, forall_eq]; exact ⟨rc0, rc1, rc2, rc3, rc4, rc5, rc6⟩)
    obtain ⟨_, _, ⟨T375, L375, k375, n375⟩, -, X375, ⟨Lc375, hQ375, l375, y375, z375⟩, st375⟩ := X366.specialBack hx (y := Dk) rfl hown (mvT hZ (Ka hw 53 rfl)) (mvT hZ (Ka hw 54 rfl)) (mvT hZ (Ka hw 55 rfl)) (by decide) (StrChars.Road.backV (W := 1) hZ (Ik hw) (kI := 4) (Ka hw 2 rfl) (cs := ([c0, c1, c2, c3, c4, c5, c6] : List Int32)) (bs := (([c0, c1, c2, c3, c4, c5, c6] : List Int32)).map (fun c => c.toInt8.toInt32)) (n := 7) g_b302 (Nat.le_trans (Nat.le_of_eq O366.1.symm) O366.2.1) f370 f372 f373 V366 (Hb.ext O366.2) Gb rfl rfl (by decide) (by decide) hp374 rfl (by decide) (by decide)) (g := (mkF m 304 #[.val (.ref q0), .val (.int 7)] [(.ref b304), (.ref b302), (.ref b302)])) rfl (by rw [hml]; rfl) (Steps.refl _) (a := b302) (argsL := [(.ref b304)]) (rest := [(.ref b302)]) (lenOf Ij rfl) rfl (by show 2 * 0 + _ ≤ _; exact Nat.le_of_eq rfl) (hb hby K0) (fun _ _ => ⟨rfl, e366, (by decide : 2 + 1 ≤ _), (by decide : 11 + 7 ≤ _)⟩)
    dsimp only [Pt.U, Pt.locs, Pt.cells, Pt.slots] at X375 l375 y375 z375 st375 hQ375
    subst l375 y375 z375
    obtain ⟨rfl, N375q, Kc375, Ex375, Fc375, t375, kb375, g_t375, gs_t375, nx375, Fv375, Av375⟩ := hQ375
    have N375 := Fr.app N366 N375q
    have O375 := O366.keep Kc375 (allS g_b302 all0)
    have sf377 := (Safe.wr W366 sf368 CR358.1 (Safe.wr W357 sf359 CR349.1 (Safe.wr W348 sf350 CR340.1 (Safe.wr W339 sf341 CR331.1 (Safe.wr W330 sf332 CR322.1 (Safe.wr W321 sf323 CR313.1 (Safe.wr W312 Sf304 CR305.1 (Safe.ext E304 CR303.1 Sf302))))))))
    have CR376 := CR367.trans (CHr.keep Kc375 (allS sf377 all0) CR367.1)
    have K375 := K366.trans Kc375 (allS (Or.inr s_b302) all0)
    have s_t375 := Nat.le_trans K366.1 gs_t375
    have lt_t375 := Av375.lt
    have k378 : ∀ t, Db p e below m T375 307 #[.val (.ref q0), .val (.int 7)] [(.ref b302)] t → Kb p e below m s₁ #[(.ref q0), (.int nq)] 2 t := by
      intro t k
      refine k369 t ?_
      refine st375.trans ?_
      exact k
    obtain ⟨fs, hr, hrun, hended, hRW⟩ := X375.leaveW hS (by exact (Nat.le_trans (Nat.le_trans (Nat.le_trans (Nat.le_trans (Nat.le_trans (Nat.le_trans (Nat.le_trans (Nat.le_trans (Nat.le_trans (Nat.le_trans (Nat.zero_le _) E302.1) E304.1) (Keep.of_wr W312).1) (Keep.of_wr W321).1) (Keep.of_wr W330).1) (Keep.of_wr W339).1) (Keep.of_wr W348).1) (Keep.of_wr W357).1) (Keep.of_wr W366).1) Kc375.1)) (v := some (.ref b302)) (fun h => by rw [Bd.returns] at h; cases h)
    refine hNG ⟨_, _, k378 _ ?_, hrun, hended, _, _, rfl, ?_, by rw [hh]; show CHr Z Uc s.vm h0 T375.vm T375.heap; exact CR376.trans (CHv.at X375 hZ (Af hw) CR376.1), hRW.1, hRW.2.1, hRW.2.2.1, hRW.2.2.2.mono (by decide) (by decide)⟩
    · exact retOut X375 hx (t := (.object "java/lang/String")) Bd.returns rfl (Or.inr (Or.inr (Or.inr (Or.inr ⟨rfl, rfl, rfl⟩)))) (hb hby L0) hr
    · show Q_mk Z q0 kq nq c0 c1 c2 c3 c4 c5 c6 c7 Wa Va Ua Ra Ia Da Ha Ba Ga Aa Ma La Bb h0 n0 _ T375.heap _
      exact ⟨b302, t375, kb375, (7 : Int32), ((([c0, c1, c2, c3, c4, c5, c6] : List Int32)).map (fun c => c.toInt8.toInt32)).map Value.int, ([c0, c1, c2, c3, c4, c5, c6] : List Int32), rfl, N375, O375, K375, g_b302, s_b302, Ex375, Fc375, Fv375, Av375, StrChars.Road.codOf (cs := ([c0, c1, c2, c3, c4, c5, c6] : List Int32)) (n := 7) rfl (fun c hc => (hp374 c hc).2), hp374, (Nat.le_of_ble_eq_true rfl)⟩
  · have k379 : ∀ t, Db p e below m s₁ 1 #[.val (.ref q0), .val (.int 8)] [(.int 8)] t → Kb p e below m s₁ #[(.ref q0), (.int nq)] 2 t := by
      intro t k
      refine k10 t ?_
      rw [hs11]
      exact k
    obtain ⟨T380, h380, X380, e380, E380, A380, D380, -, st380⟩ := newO X00 hx hZ hown (Ka hw 52 rfl) (Ka hw 2 rfl) (Ka hw 1 rfl) e00 (g := (mkF m 308 #[.val (.ref q0), .val (.int 8)] [])) rfl (hb hby M0) (by decide) (by decide)
    obtain ⟨b380, g380⟩ : ∃ z, z = h0.size := ⟨_, rfl⟩
    have Sf380 : Safe Z Uc _ h380 b380 := Safe.ext E380 CR0.1 (Safe.new (Nat.le_of_eq g380.symm))
    have CR381 := CR0.trans (CHr.ext E380 CR0.1)
    rw [← g380] at A380 D380 st380
    have O380 := O0.ext E380
    have g_b380 : n0 ≤ b380 := Nat.le_trans (Nat.le_of_eq O0.1.symm) (Nat.le_trans O0.2.1 (Nat.le_of_eq g380.symm))
    have s_b380 : h0.size ≤ b380 := Nat.le_trans K00.1 (Nat.le_of_eq g380.symm)
    have K380 := K00.ext E380
    have lt_b380 := A380.lt
    have F380_value : Fld Z h380 b380 "java/lang/String" "value" "[B" .null := D380 (Or.inr (Ka hw 4 rfl)) (ty := (.array .byte)) (by decide)
    have F380_coder : Fld Z h380 b380 "java/lang/String" "coder" "B" (.int 0) := D380 (Or.inr (Ka hw 5 rfl)) (ty := .byte) (by decide)
    obtain ⟨T382, h382, c382, X382, e382, E382, A382, st382⟩ := newP X380 hx hZ (Ka hw 21 rfl) e380 (g := (mkF m 314 #[.val (.ref q0), .val (.int 8)] [(.int 8), (.ref b380), (.ref b380)])) rfl (hb hby V0) rfl (by decide) (cap := 8) (by decide) (by decide) (by decide) (by decide)
    obtain ⟨b382, g382⟩ : ∃ z, z = h380.size := ⟨_, rfl⟩
    have Sf382 : Safe Z Uc _ h382 b382 := Safe.ext E382 CR381.1 (Safe.new (Nat.le_of_eq g382.symm))
    have CR383 := CR381.trans (CHr.ext E382 CR381.1)
    rw [← g382] at A382 st382
    have O382 := O380.ext E382
    have g_b382 : n0 ≤ b382 := Nat.le_trans (Nat.le_of_eq O380.1.symm) (Nat.le_trans O380.2.1 (Nat.le_of_eq g382.symm))
    have s_b382 : h0.size ≤ b382 := Nat.le_trans K380.1 (Nat.le_of_eq g382.symm)
    have K382 := K380.ext E382
    have V382 : Arv Z h382 b382 c382 .char (8 : Int32) [(.int 0), (.int 0), (.int 0), (.int 0), (.int 0), (.int 0), (.int 0), (.int 0)] (.int 0) := (Arv.new A382 (by decide)).pad (pad_rep [] (.int 0) 8)
    have lt_b382 := V382.lt
    have f384 := ((P0.ext E380).ext E382)
    obtain ⟨cl385, Ar385, q385, Sz385, Nn385, Hs385, Gf385⟩ := id f384
    have hin386 : ¬ ((0 : Int32) < 0 ∨ cl385.slots.size ≤ ((0 : Int32)).toNatClampNeg) := inb_of Sz385 ⟨by decide, by decide⟩
    have hat387 : cl385.slots[((0 : Int32)).toNatClampNeg]? = some (.int c0) := Hs385.at hin386 rfl
    obtain ⟨cl388, Ar388, q388, Sz388, Nn388, Hs388, Gf388⟩ := id V382
    have hin389 : ¬ ((0 : Int32) < 0 ∨ cl388.slots.size ≤ ((0 : Int32)).toNatClampNeg) := inb_of Sz388 ⟨by decide, by decide⟩
    obtain ⟨T390, h390, X390, e390, W390, st390⟩ := stC X382 hx hZ e382 Ar388 (j := (0 : Int32)) hin389 (g := (mkF m 321 #[.val (.ref q0), .val (.int 8)] [(.int c0), (.int 0), (.ref b382), (.ref b382), (.ref b380), (.ref b380)])) rfl rfl (hb hby D1)
    have V390 : Arv Z h390 b382 c382 .char (8 : Int32) [(.int c0), (.int 0), (.int 0), (.int 0), (.int 0), (.int 0), (.int 0), (.int 0)] (.int 0) := by
      have q := Arv.set Ar388 q388 Sz388 Nn388 Hs388 Gf388 (fits_nar_char _) W390 0 rfl (Nat.le_of_ble_eq_true rfl)
      first | exact q | (simp only [Pa rc0, Pa rc1, Pa rc2, Pa rc3, Pa rc4, Pa rc5, Pa rc6, Pa rc7] at q; exact q)
    have CR391 := CR383.trans (CHr.wr W390 Sf382 CR383.1)
    have N390 := Fr.snoc X390 N00 g_b382
    have O390 := O382.wr W390 g_b382
    have K390 := K382.wr W390 (Or.inr s_b382)
    have ne392 : ¬ (q0 = b382) := (Nat.ne_of_lt (Nat.lt_of_lt_of_le (Nat.lt_of_lt_of_le P0.lt E380.1) (Nat.le_of_eq g382.symm)))
    have f393 := (f384.other W390 ne392)
    obtain ⟨cl394, Ar394, q394, Sz394, Nn394, Hs394, Gf394⟩ := id f393
    have hin395 : ¬ ((1 : Int32) < 0 ∨ cl394.slots.size ≤ ((1 : Int32)).toNatClampNeg) := inb_of Sz394 ⟨by decide, by decide⟩
    have hat396 : cl394.slots[((1 : Int32)).toNatClampNeg]? = some (.int c1) := Hs394.at hin395 rfl
    obtain ⟨cl397, Ar397, q397, Sz397, Nn397, Hs397, Gf397⟩ := id V390
    have hin398 : ¬ ((1 : Int32) < 0 ∨ cl397.slots.size ≤ ((1 : Int32)).toNatClampNeg) := inb_of Sz397 ⟨by decide, by decide⟩
    obtain ⟨T399, h399, X399, e399, W399, st399⟩ := stC X390 hx hZ e390 Ar397 (j := (1 : Int32)) hin398 (g := (mkF m 327 #[.val (.ref q0), .val (.int 8)] [(.int c1), (.int 1), (.ref b382), (.ref b382), (.ref b380), (.ref b380)])) rfl rfl (hb hby R1)
    have V399 : Arv Z h399 b382 c382 .char (8 : Int32) [(.int c0), (.int c1), (.int 0), (.int 0), (.int 0), (.int 0), (.int 0), (.int 0)] (.int 0) := by
      have q := Arv.set Ar397 q397 Sz397 Nn397 Hs397 Gf397 (fits_nar_char _) W399 1 rfl (Nat.le_of_ble_eq_true rfl)
      first | exact q | (simp only [Pa rc0, Pa rc1, Pa rc2, Pa rc3, Pa rc4, Pa rc5, Pa rc6, Pa rc7] at q; exact q)
    have sf401 := (Safe.wr W390 Sf382 CR383.1 Sf382)
    have CR400 := CR391.trans (CHr.wr W399 sf401 CR391.1)
    have N399 := Fr.snoc X399 N390 g_b382
    have O399 := O390.wr W399 g_b382
    have K399 := K390.wr W399 (Or.inr s_b382)
    have f402 := (f393.other W399 ne392)
    obtain ⟨cl403, Ar403, q403, Sz403, Nn403, Hs403, Gf403⟩ := id f402
    have hin404 : ¬ ((2 : Int32) < 0 ∨ cl403.slots.size ≤ ((2 : Int32)).toNatClampNeg) := inb_of Sz403 ⟨by decide, by decide⟩
    have hat405 : cl403.slots[((2 : Int32)).toNatClampNeg]? = some (.int c2) := Hs403.at hin404 rfl
    obtain ⟨cl406, Ar406, q406, Sz406, Nn406, Hs406, Gf406⟩ := id V399
    have hin407 : ¬ ((2 : Int32) < 0 ∨ cl406.slots.size ≤ ((2 : Int32)).toNatClampNeg) := inb_of Sz406 ⟨by decide, by decide⟩
    obtain ⟨T408, h408, X408, e408, W408, st408⟩ := stC X399 hx hZ e399 Ar406 (j := (2 : Int32)) hin407 (g := (mkF m 333 #[.val (.ref q0), .val (.int 8)] [(.int c2), (.int 2), (.ref b382), (.ref b382), (.ref b380), (.ref b380)])) rfl rfl (hb hby A2)
    have V408 : Arv Z h408 b382 c382 .char (8 : Int32) [(.int c0), (.int c1), (.int c2), (.int 0), (.int 0), (.int 0), (.int 0), (.int 0)] (.int 0) := by
      have q := Arv.set Ar406 q406 Sz406 Nn406 Hs406 Gf406 (fits_nar_char _) W408 2 rfl (Nat.le_of_ble_eq_true rfl)
      first | exact q | (simp only [Pa rc0, Pa rc1, Pa rc2, Pa rc3, Pa rc4, Pa rc5, Pa rc6, Pa rc7] at q; exact q)
    have sf410 := (Safe.wr W399 sf401 CR391.1 sf401)
    have CR409 := CR400.trans (CHr.wr W408 sf410 CR400.1)
    have N408 := Fr.snoc X408 N399 g_b382
    have O408 := O399.wr W408 g_b382
    have K408 := K399.wr W408 (Or.inr s_b382)
    have f411 := (f402.other W408 ne392)
    obtain ⟨cl412, Ar412, q412, Sz412, Nn412, Hs412, Gf412⟩ := id f411
    have hin413 : ¬ ((3 : Int32) < 0 ∨ cl412.slots.size ≤ ((3 : Int32)).toNatClampNeg) := inb_of Sz412 ⟨by decide, by decide⟩
    have hat414 : cl412.slots[((3 : Int32)).toNatClampNeg]? = some (.int c3) := Hs412.at hin413 rfl
    obtain ⟨cl415, Ar415, q415, Sz415, Nn415, Hs415, Gf415⟩ := id V408
    have hin416 : ¬ ((3 : Int32) < 0 ∨ cl415.slots.size ≤ ((3 : Int32)).toNatClampNeg) := inb_of Sz415 ⟨by decide, by decide⟩
    obtain ⟨T417, h417, X417, e417, W417, st417⟩ := stC X408 hx hZ e408 Ar415 (j := (3 : Int32)) hin416 (g := (mkF m 339 #[.val (.ref q0), .val (.int 8)] [(.int c3), (.int 3), (.ref b382), (.ref b382), (.ref b380), (.ref b380)])) rfl rfl (hb hby M2)
    have V417 : Arv Z h417 b382 c382 .char (8 : Int32) [(.int c0), (.int c1), (.int c2), (.int c3), (.int 0), (.int 0), (.int 0), (.int 0)] (.int 0) := by
      have q := Arv.set Ar415 q415 Sz415 Nn415 Hs415 Gf415 (fits_nar_char _) W417 3 rfl (Nat.le_of_ble_eq_true rfl)
      first | exact q | (simp only [Pa rc0, Pa rc1, Pa rc2, Pa rc3, Pa rc4, Pa rc5, Pa rc6, Pa rc7] at q; exact q)
    have sf419 := (Safe.wr W408 sf410 CR400.1 sf410)
    have CR418 := CR409.trans (CHr.wr W417 sf419 CR409.1)
    have N417 := Fr.snoc X417 N408 g_b382
    have O417 := O408.wr W417 g_b382
    have K417 := K408.wr W417 (Or.inr s_b382)
    have f420 := (f411.other W417 ne392)
    obtain ⟨cl421, Ar421, q421, Sz421, Nn421, Hs421, Gf421⟩ := id f420
    have hin422 : ¬ ((4 : Int32) < 0 ∨ cl421.slots.size ≤ ((4 : Int32)).toNatClampNeg) := inb_of Sz421 ⟨by decide, by decide⟩
    have hat423 : cl421.slots[((4 : Int32)).toNatClampNeg]? = some (.int c4) := Hs421.at hin422 rfl
    obtain ⟨cl424, Ar424, q424, Sz424, Nn424, Hs424, Gf424⟩ := id V417
    have hin425 : ¬ ((4 : Int32) < 0 ∨ cl424.slots.size ≤ ((4 : Int32)).toNatClampNeg) := inb_of Sz424 ⟨by decide, by decide⟩
    obtain ⟨T426, h426, X426, e426, W426, st426⟩ := stC X417 hx hZ e417 Ar424 (j := (4 : Int32)) hin425 (g := (mkF m 345 #[.val (.ref q0), .val (.int 8)] [(.int c4), (.int 4), (.ref b382), (.ref b382), (.ref b380), (.ref b380)])) rfl rfl (hb hby Z2)
    have V426 : Arv Z h426 b382 c382 .char (8 : Int32) [(.int c0), (.int c1), (.int c2), (.int c3), (.int c4), (.int 0), (.int 0), (.int 0)] (.int 0) := by
      have q := Arv.set Ar424 q424 Sz424 Nn424 Hs424 Gf424 (fits_nar_char _) W426 4 rfl (Nat.le_of_ble_eq_true rfl)
      first | exact q | (simp only [Pa rc0, Pa rc1, Pa rc2, Pa rc3, Pa rc4, Pa rc5, Pa rc6, Pa rc7] at q; exact q)
    have sf428 := (Safe.wr W417 sf419 CR409.1 sf419)
    have CR427 := CR418.trans (CHr.wr W426 sf428 CR418.1)
    have N426 := Fr.snoc X426 N417 g_b382
    have O426 := O417.wr W426 g_b382
    have K426 := K417.wr W426 (Or.inr s_b382)
    have f429 := (f420.other W426 ne392)
    obtain ⟨cl430, Ar430, q430, Sz430, Nn430, Hs430, Gf430⟩ := id f429
    have hin431 : ¬ ((5 : Int32) < 0 ∨ cl430.slots.size ≤ ((5 : Int32)).toNatClampNeg) := inb_of Sz430 ⟨by decide, by decide⟩
    have hat432 : cl430.slots[((5 : Int32)).toNatClampNeg]? = some (.int c5) := Hs430.at hin431 rfl
    obtain ⟨cl433, Ar433, q433, Sz433, Nn433, Hs433, Gf433⟩ := id V426
    have hin434 : ¬ ((5 : Int32) < 0 ∨ cl433.slots.size ≤ ((5 : Int32)).toNatClampNeg) := inb_of Sz433 ⟨by decide, by decide⟩
    obtain ⟨T435, h435, X435, e435, W435, st435⟩ := stC X426 hx hZ e426 Ar433 (j := (5 : Int32)) hin434 (g := (mkF m 351 #[.val (.ref q0), .val (.int 8)] [(.int c5), (.int 5), (.ref b382), (.ref b382), (.ref b380), (.ref b380)])) rfl rfl (hb hby M3)
    have V435 : Arv Z h435 b382 c382 .char (8 : Int32) [(.int c0), (.int c1), (.int c2), (.int c3), (.int c4), (.int c5), (.int 0), (.int 0)] (.int 0) := by
      have q := Arv.set Ar433 q433 Sz433 Nn433 Hs433 Gf433 (fits_nar_char _) W435 5 rfl (Nat.le_of_ble_eq_true rfl)
      first | exact q | (simp only [Pa rc0, Pa rc1, Pa rc2, Pa rc3, Pa rc4, Pa rc5, Pa rc6, Pa rc7] at q; exact q)
    have sf437 := (Safe.wr W426 sf428 CR418.1 sf428)
    have CR436 := CR427.trans (CHr.wr W435 sf437 CR427.1)
    have N435 := Fr.snoc X435 N426 g_b382
    have O435 := O426.wr W435 g_b382
    have K435 := K426.wr W435 (Or.inr s_b382)
    have f438 := (f429.other W435 ne392)
    obtain ⟨cl439, Ar439, q439, Sz439, Nn439, Hs439, Gf439⟩ := id f438
    have hin440 : ¬ ((6 : Int32) < 0 ∨ cl439.slots.size ≤ ((6 : Int32)).toNatClampNeg) := inb_of Sz439 ⟨by decide, by decide⟩
    have hat441 : cl439.slots[((6 : Int32)).toNatClampNeg]? = some (.int c6) := Hs439.at hin440 rfl
    obtain ⟨cl442, Ar442, q442, Sz442, Nn442, Hs442, Gf442⟩ := id V435
    have hin443 : ¬ ((6 : Int32) < 0 ∨ cl442.slots.size ≤ ((6 : Int32)).toNatClampNeg) := inb_of Sz442 ⟨by decide, by decide⟩
    obtain ⟨T444, h444, X444, e444, W444, st444⟩ := stC X435 hx hZ e435 Ar442 (j := (6 : Int32)) hin443 (g := (mkF m 359 #[.val (.ref q0), .val (.int 8)] [(.int c6), (.int 6), (.ref b382), (.ref b382), (.ref b380), (.ref b380)])) rfl rfl (hb hby Z3)
    have V444 : Arv Z h444 b382 c382 .char (8 : Int32) [(.int c0), (.int c1), (.int c2), (.int c3), (.int c4), (.int c5), (.int c6), (.int 0)] (.int 0) := by
      have q := Arv.set Ar442 q442 Sz442 Nn442 Hs442 Gf442 (fits_nar_char _) W444 6 rfl (Nat.le_of_ble_eq_true rfl)
      first | exact q | (simp only [Pa rc0, Pa rc1, Pa rc2, Pa rc3, Pa rc4, Pa rc5, Pa rc6, Pa rc7] at q; exact q)
    have sf446 := (Safe.wr W435 sf437 CR427.1 sf437)
    have CR445 := CR436.trans (CHr.wr W444 sf446 CR436.1)
    have N444 := Fr.snoc X444 N435 g_b382
    have O444 := O435.wr W444 g_b382
    have K444 := K435.wr W444 (Or.inr s_b382)
    have f447 := (f438.other W444 ne392)
    obtain ⟨cl448, Ar448, q448, Sz448, Nn448, Hs448, Gf448⟩ := id f447
    have hin449 : ¬ ((7 : Int32) < 0 ∨ cl448.slots.size ≤ ((7 : Int32)).toNatClampNeg) := inb_of Sz448 ⟨by decide, by decide⟩
    have hat450 : cl448.slots[((7 : Int32)).toNatClampNeg]? = some (.int c7) := Hs448.at hin449 rfl
    obtain ⟨cl451, Ar451, q451, Sz451, Nn451, Hs451, Gf451⟩ := id V444
    have hin452 : ¬ ((7 : Int32) < 0 ∨ cl451.slots.size ≤ ((7 : Int32)).toNatClampNeg) := inb_of Sz451 ⟨by decide, by decide⟩
    obtain ⟨T453, h453, X453, e453, W453, st453⟩ := stC X444 hx hZ e444 Ar451 (j := (7 : Int32)) hin452 (g := (mkF m 367 #[.val (.ref q0), .val (.int 8)] [(.int c7), (.int 7), (.ref b382), (.ref b382), (.ref b380), (.ref b380)])) rfl rfl (hb hby I4)
    have V453 : Arv Z h453 b382 c382 .char (8 : Int32) [(.int c0), (.int c1), (.int c2), (.int c3), (.int c4), (.int c5), (.int c6), (.int c7)] (.int 0) := by
      have q := Arv.set Ar451 q451 Sz451 Nn451 Hs451 Gf451 (fits_nar_char _) W453 7 rfl (Nat.le_of_ble_eq_true rfl)
      first | exact q | (simp only [Pa rc0, Pa rc1, Pa rc2, Pa rc3, Pa rc4, Pa rc5, Pa rc6, Pa rc7] at q; exact q)
    have sf455 := (Safe.wr W444 sf446 CR436.1 sf446)
    have CR454 := CR445.trans (CHr.wr W453 sf455 CR445.1)
    have N453 := Fr.snoc X453 N444 g_b382
    have O453 := O444.wr W453 g_b382
    have K453 := K444.wr W453 (Or.inr s_b382)
    have k456 : ∀ t, Db p e below m T453 368 #[.val (.ref q0), .val (.int 8)] [(.ref b382), (.ref b380), (.ref b380)] t → Kb p e below m s₁ #[(.ref q0), (.int nq)] 2 t := by
      intro t k
      refine k379 t ?_
      refine XS.tswOut X00.here hx rfl (pc0 := 1) (pc' := 308) rfl (hb hby Hf) rfl (by decide) (by decide) (by decide) ?_
      refine st380 _ ?_
      refine XS.dup X380.here hx rfl (hb hby R0) rfl rfl ?_
      refine XS.bipush X380.here hx rfl (hb hby U0) ?_
      refine st382 _ ?_
      refine XS.dup X382.here hx rfl (hb hby W0) rfl rfl ?_
      refine XS.iconst X382.here hx rfl (hb hby Y0) ?_
      refine XS.aloadN X382.here hx rfl (hb hby Z0) rfl rfl ?_
      refine XS.iconst X382.here hx rfl (hb hby A1) ?_
      refine X382.caload hx (j := (0 : Int32)) (v := (.int c0)) (by rw [e382]; exact Ar385.1) (State.isArrayOf_alike hZ.alike Ar385.2.1) Ar385.2.2 hin386 hat387 (g := (mkF m 320 #[.val (.ref q0), .val (.int 8)] [(.int 0), (.ref q0), (.int 0), (.ref b382), (.ref b382), (.ref b380), (.ref b380)])) rfl rfl (hb hby B1) _ ?_
      refine st390 _ ?_
      refine XS.dup X390.here hx rfl (hb hby G1) rfl rfl ?_
      show Db p e below m T390 323 #[.val (.ref q0), .val (.int 8)] [(.ref b382), (.ref b382), (.ref b380), (.ref b380)] t
      refine XS.iconst X390.here hx rfl (hb hby H1) ?_
      refine XS.aloadN X390.here hx rfl (hb hby I1) rfl rfl ?_
      refine XS.iconst X390.here hx rfl (hb hby L1) ?_
      refine X390.caload hx (j := (1 : Int32)) (v := (.int c1)) (by rw [e390]; exact Ar394.1) (State.isArrayOf_alike hZ.alike Ar394.2.1) Ar394.2.2 hin395 hat396 (g := (mkF m 326 #[.val (.ref q0), .val (.int 8)] [(.int 1), (.ref q0), (.int 1), (.ref b382), (.ref b382), (.ref b380), (.ref b380)])) rfl rfl (hb hby M1) _ ?_
      refine st399 _ ?_
      refine XS.dup X399.here hx rfl (hb hby U1) rfl rfl ?_
      refine XS.iconst X399.here hx rfl (hb hby V1) ?_
      refine XS.aloadN X399.here hx rfl (hb hby W1) rfl rfl ?_
      refine XS.iconst X399.here hx rfl (hb hby Y1) ?_
      refine X399.caload hx (j := (2 : Int32)) (v := (.int c2)) (by rw [e399]; exact Ar403.1) (State.isArrayOf_alike hZ.alike Ar403.2.1) Ar403.2.2 hin404 hat405 (g := (mkF m 332 #[.val (.ref q0), .val (.int 8)] [(.int 2), (.ref q0), (.int 2), (.ref b382), (.ref b382), (.ref b380), (.ref b380)])) rfl rfl (hb hby Z1) _ ?_
      refine st408 _ ?_
      refine XS.dup X408.here hx rfl (hb hby B2) rfl rfl ?_
      show Db p e below m T408 335 #[.val (.ref q0), .val (.int 8)] [(.ref b382), (.ref b382), (.ref b380), (.ref b380)] t
      refine XS.iconst X408.here hx rfl (hb hby G2) ?_
      refine XS.aloadN X408.here hx rfl (hb hby H2) rfl rfl ?_
      refine XS.iconst X408.here hx rfl (hb hby I2) ?_
      refine X408.caload hx (j := (3 : Int32)) (v := (.int c3)) (by rw [e408]; exact Ar412.1) (State.isArrayOf_alike hZ.alike Ar412.2.1) Ar412.2.2 hin413 hat414 (g := (mkF m 338 #[.val (.ref q0), .val (.int 8)] [(.int 3), (.ref q0), (.int 3), (.ref b382), (.ref b382), (.ref b380), (.ref b380)])) rfl rfl (hb hby L2) _ ?_
      refine st417 _ ?_
      refine XS.dup X417.here hx rfl (hb hby R2) rfl rfl ?_
      refine XS.iconst X417.here hx rfl (hb hby U2) ?_
      refine XS.aloadN X417.here hx rfl (hb hby V2) rfl rfl ?_
      refine XS.iconst X417.here hx rfl (hb hby W2) ?_
      refine X417.caload hx (j := (4 : Int32)) (v := (.int c4)) (by rw [e417]; exact Ar421.1) (State.isArrayOf_alike hZ.alike Ar421.2.1) Ar421.2.2 hin422 hat423 (g := (mkF m 344 #[.val (.ref q0), .val (.int 8)] [(.int 4), (.ref q0), (.int 4), (.ref b382), (.ref b382), (.ref b380), (.ref b380)])) rfl rfl (hb hby Y2) _ ?_
      refine st426 _ ?_
      refine XS.dup X426.here hx rfl (hb hby A3) rfl rfl ?_
      show Db p e below m T426 347 #[.val (.ref q0), .val (.int 8)] [(.ref b382), (.ref b382), (.ref b380), (.ref b380)] t
      refine XS.iconst X426.here hx rfl (hb hby G3) ?_
      refine XS.aloadN X426.here hx rfl (hb hby H3) rfl rfl ?_
      refine XS.iconst X426.here hx rfl (hb hby I3) ?_
      refine X426.caload hx (j := (5 : Int32)) (v := (.int c5)) (by rw [e426]; exact Ar430.1) (State.isArrayOf_alike hZ.alike Ar430.2.1) Ar430.2.2 hin431 hat432 (g := (mkF m 350 #[.val (.ref q0), .val (.int 8)] [(.int 5), (.ref q0), (.int 5), (.ref b382), (.ref b382), (.ref b380), (.ref b380)])) rfl rfl (hb hby L3) _ ?_
      refine st435 _ ?_
      refine XS.dup X435.here hx rfl (hb hby R3) rfl rfl ?_
      refine XS.bipush X435.here hx rfl (hb hby U3) ?_
      refine XS.aloadN X435.here hx rfl (hb hby V3) rfl rfl ?_
      refine XS.bipush X435.here hx rfl (hb hby W3) ?_
      refine X435.caload hx (j := (6 : Int32)) (v := (.int c6)) (by rw [e435]; exact Ar439.1) (State.isArrayOf_alike hZ.alike Ar439.2.1) Ar439.2.2 hin440 hat441 (g := (mkF m 358 #[.val (.ref q0), .val (.int 8)] [(.int 6), (.ref q0), (.int 6), (.ref b382), (.ref b382), (.ref b380), (.ref b380)])) rfl rfl (hb hby Y3) _ ?_
      refine st444 _ ?_
      refine XS.dup X444.here hx rfl (hb hby A4) rfl rfl ?_
      show Db p e below m T444 361 #[.val (.ref q0), .val (.int 8)] [(.ref b382), (.ref b382), (.ref b380), (.ref b380)] t
      refine XS.bipush X444.here hx rfl (hb hby B4) ?_
      refine XS.aloadN X444.here hx rfl (hb hby D4) rfl rfl ?_
      refine XS.bipush X444.here hx rfl (hb hby G4) ?_
      refine X444.caload hx (j := (7 : Int32)) (v := (.int c7)) (by rw [e444]; exact Ar448.1) (State.isArrayOf_alike hZ.alike Ar448.2.1) Ar448.2.2 hin449 hat450 (g := (mkF m 366 #[.val (.ref q0), .val (.int 8)] [(.int 7), (.ref q0), (.int 7), (.ref b382), (.ref b382), (.ref b380), (.ref b380)])) rfl rfl (hb hby H4) _ ?_
      refine st453 _ ?_
      exact k
    have f457 := (((((((((A380.ext E382).wr W390).wr W399).wr W408).wr W417).wr W426).wr W435).wr W444).wr W453)
    have ne458 : ¬ (b380 = b382) := (Nat.ne_of_lt (Nat.lt_of_lt_of_le lt_b380 (Nat.le_of_eq g382.symm)))
    have f459 := (((((((((F380_value.ext E382).other W390 (Or.inl ne458)).other W399 (Or.inl ne458)).other W408 (Or.inl ne458)).other W417 (Or.inl ne458)).other W426 (Or.inl ne458)).other W435 (Or.inl ne458)).other W444 (Or.inl ne458)).other W453 (Or.inl ne458))
    have f460 := (((((((((F380_coder.ext E382).other W390 (Or.inl ne458)).other W399 (Or.inl ne458)).other W408 (Or.inl ne458)).other W417 (Or.inl ne458)).other W426 (Or.inl ne458)).other W435 (Or.inl ne458)).other W444 (Or.inl ne458)).other W453 (Or.inl ne458))
    have hp461 : ∀ c ∈ ([c0, c1, c2, c3, c4, c5, c6, c7] : List Int32), ¬ c < 0 ∧ ¬ (255 : Int32) < c := (by simp only [List.mem_cons, List.not_mem_nil, or_false, forall_eq_or_imp, forall_eq]; exact ⟨rc0, rc1, rc2, rc3, rc4, rc5, rc6, rc7⟩)
    obtain ⟨_, _, ⟨T462, L462, k462, n462⟩, -, X462, ⟨Lc462, hQ462, l462, y462, z462⟩, st462⟩ := X453.specialBack hx (y := Dk) rfl hown (mvT hZ (Ka hw 53 rfl)) (mvT hZ (Ka hw 54 rfl)) (mvT hZ (Ka hw 55 rfl)) (by decide) (StrChars.Road.backV (W := 1) hZ (Ik hw) (kI := 4) (Ka hw 2 rfl) (cs := ([c0, c1, c2, c3, c4, c5, c6, c7] : List Int32)) (bs := (([c0, c1, c2, c3, c4, c5, c6, c7] : List Int32)).map (fun c => c.toInt8.toInt32)) (n := 8) g_b380 (Nat.le_trans (Nat.le_of_eq O453.1.symm) O453.2.1) f457 f459 f460 V453 (Hb.ext O453.2) Gb rfl rfl (by decide) (by decide) hp461 rfl (by decide) (by decide)) (g := (mkF m 368 #[.val (.ref q0), .val (.int 8)] [(.ref b382), (.ref b380), (.ref b380)])) rfl (by rw [hml]; rfl) (Steps.refl _) (a := b380) (argsL := [(.ref b382)]) (rest := [(.ref b380)]) (lenOf Ij rfl) rfl (by show 2 * 0 + _ ≤ _; exact Nat.le_of_eq rfl) (hb hby L4) (fun _ _ => ⟨rfl, e453, (by decide : 2 + 1 ≤ _), (by decide : 12 + 8 ≤ _)⟩)
    dsimp only [Pt.U, Pt.locs, Pt.cells, Pt.slots] at X462 l462 y462 z462 st462 hQ462
    subst l462 y462 z462
    obtain ⟨rfl, N462q, Kc462, Ex462, Fc462, t462, kb462, g_t462, gs_t462, nx462, Fv462, Av462⟩ := hQ462
    have N462 := Fr.app N453 N462q
    have O462 := O453.keep Kc462 (allS g_b380 all0)
    have sf464 := (Safe.wr W453 sf455 CR445.1 (Safe.wr W444 sf446 CR436.1 (Safe.wr W435 sf437 CR427.1 (Safe.wr W426 sf428 CR418.1 (Safe.wr W417 sf419 CR409.1 (Safe.wr W408 sf410 CR400.1 (Safe.wr W399 sf401 CR391.1 (Safe.wr W390 Sf382 CR383.1 (Safe.ext E382 CR381.1 Sf380)))))))))
    have CR463 := CR454.trans (CHr.keep Kc462 (allS sf464 all0) CR454.1)
    have K462 := K453.trans Kc462 (allS (Or.inr s_b380) all0)
    have s_t462 := Nat.le_trans K453.1 gs_t462
    have lt_t462 := Av462.lt
    have k465 : ∀ t, Db p e below m T462 371 #[.val (.ref q0), .val (.int 8)] [(.ref b380)] t → Kb p e below m s₁ #[(.ref q0), (.int nq)] 2 t := by
      intro t k
      refine k456 t ?_
      refine st462.trans ?_
      exact k
    obtain ⟨fs, hr, hrun, hended, hRW⟩ := X462.leaveW hS (by exact (Nat.le_trans (Nat.le_trans (Nat.le_trans (Nat.le_trans (Nat.le_trans (Nat.le_trans (Nat.le_trans (Nat.le_trans (Nat.le_trans (Nat.le_trans (Nat.le_trans (Nat.zero_le _) E380.1) E382.1) (Keep.of_wr W390).1) (Keep.of_wr W399).1) (Keep.of_wr W408).1) (Keep.of_wr W417).1) (Keep.of_wr W426).1) (Keep.of_wr W435).1) (Keep.of_wr W444).1) (Keep.of_wr W453).1) Kc462.1)) (v := some (.ref b380)) (fun h => by rw [Bd.returns] at h; cases h)
    refine hNG ⟨_, _, k465 _ ?_, hrun, hended, _, _, rfl, ?_, by rw [hh]; show CHr Z Uc s.vm h0 T462.vm T462.heap; exact CR463.trans (CHv.at X462 hZ (Af hw) CR463.1), hRW.1, hRW.2.1, hRW.2.2.1, hRW.2.2.2.mono (by decide) (by decide)⟩
    · exact retOut X462 hx (t := (.object "java/lang/String")) Bd.returns rfl (Or.inr (Or.inr (Or.inr (Or.inr ⟨rfl, rfl, rfl⟩)))) (hb hby M4) hr
    · show Q_mk Z q0 kq nq c0 c1 c2 c3 c4 c5 c6 c7 Wa Va Ua Ra Ia Da Ha Ba Ga Aa Ma La Bb h0 n0 _ T462.heap _
      exact ⟨b380, t462, kb462, (8 : Int32), ((([c0, c1, c2, c3, c4, c5, c6, c7] : List Int32)).map (fun c => c.toInt8.toInt32)).map Value.int, ([c0, c1, c2, c3, c4, c5, c6, c7] : List Int32), rfl, N462, O462, K462, g_b380, s_b380, Ex462, Fc462, Fv462, Av462, StrChars.Road.codOf (cs := ([c0, c1, c2, c3, c4, c5, c6, c7] : List Int32)) (n := 8) rfl (fun c hc => (hp461 c hc).2), hp461, (Nat.le_of_ble_eq_true rfl)⟩
theorem Yaa (m : MethodId)   : entryFrame m #[] 0 = mkF m 0 #[] [] := by first | (simp [entryFrame, mkF, argsToLocals, Value.category]; done) | rfl
theorem Gn : decode prog_3_method_1_code 0 = .ok (.getstatic 13, 3) := by decide +kernel
theorem Hn : decode prog_3_method_1_code 3 = .ok (.invokevirtual 17, 3) := by decide +kernel
theorem Kn : decode prog_3_method_1_code 6 = .ok (.checkcast 18, 3) := by decide +kernel
theorem Ln : decode prog_3_method_1_code 9 = .ok (.areturn, 1) := by decide +kernel
theorem Lc : plainName "com/example/entitlement_ledger/entitlementledger/model/AssigneeKind" = true := by first | (simp [plainName, overriddenIn]; done) | decide +kernel
abbrev Mn : MethodName := ⟨"com/example/entitlement_ledger/entitlementledger/model/AssigneeKind", "values", "()[Lcom/example/entitlement_ledger/entitlementledger/model/AssigneeKind;"⟩
def I9 (Z : State) (Wa : Addr) (Va : Addr) (Ua : Addr) (Ra : Addr) (Ia : Addr) (Da : Addr) (Ha : Addr) (Ba : Addr) (Ga : Addr) (Aa : Addr) (Ma : Int32) (La : Value) (Bb : Addr) (h0 : Heap) (n0 : Nat) (v : Option Value) (h : Heap) (L : List Loc) : Prop := ∃ (b : Addr) (k : ClassId), v = some (.ref b) ∧ Fr n0 L ∧ Old Z n0 h ∧ Keep h0 h [] ∧ n0 ≤ b ∧ h0.size ≤ b ∧ Arv Z h b k (.object "com/example/entitlement_ledger/entitlementledger/model/AssigneeKind") (3 : Int32) [(.ref Wa), (.ref Ua), (.ref Ra)] .null
set_option maxRecDepth 65536 in
set_option maxHeartbeats 40000000 in
theorem Vo (l : Launch) (Z : State) (a0 : Array Value) (hw : ∀ d ∈ tables_1, d.before a0 Z = true) (ws : List Jvm.Cond) (Wa : Addr) (Va : Addr) (Ua : Addr) (Ra : Addr) (Ia : Addr) (Da : Addr) (Ha : Addr) (Ba : Addr) (Ga : Addr) (Aa : Addr) (Ma : Int32) (La : Value) (Bb : Addr) (h0 : Heap) (n0 : Nat) (O0 : Old Z n0 h0) (hE : EV Z Wa Va Ua Ra Ia Da Ha Ba Ga Aa Ma La Bb) :
    MetFree l Mn (head1 (Jvm.Cond.code Mn prog_3_method_1_code 0 (some (.array (.object "com/example/entitlement_ledger/entitlementledger/model/AssigneeKind"))) :: ws) ({ frames := 1, cells := 1, slots := 3, locals := 14 } : Room)) (fun a U => a = #[] ∧ Z.Warmed39 U.vm ∧ U.heap = h0) (fun _ _ _ _ _ => True) (fun _ U o U' => ∃ v L, o = .returned v ∧ I9 Z Wa Va Ua Ra Ia Da Ha Ba Ga Aa Ma La Bb h0 n0 v U'.heap L ∧ FrameEnd U o U' L ({ frames := 1, cells := 1, slots := 3, locals := 14 } : Room).cells ({ frames := 1, cells := 1, slots := 3, locals := 14 } : Room).slots) := by
  refine MetFree.of_bodySF (plainFor_of_name Lc) hisR ?_
  intro p e s m args below meth c s₁ Bd hml0 hP hK
  obtain ⟨rfl, hZ, hh⟩ := hP
  have hx := Bd.exec
  have hby := Bd.bytes
  have hml : c.maxLocals = 0 := hml0
  have hown : s.vm.findClass "com/example/entitlement_ledger/entitlementledger/model/AssigneeKind" = some m.cls := findClass_of_methodNamed Bd.named
  have hnm := (name_of_methodNamed Bd.named Bd.method).1
  have X00 : Stand p l e ({ frames := 1, cells := 1, slots := 3, locals := 14 } : Room) s m #[] below meth c s₁ [] 0 0 := Stand.of_body Bd
  have e00 : s₁.heap = h0 := by rw [← hh, Bd.state]; rfl
  have N00 := Fr.nil n0
  refine Classical.byContradiction fun hNG => ?_
  have K00 := Keep.refl h0 []
  have k00 : ∀ t, Db p e below m s₁ 0 #[] [] t → Kb p e below m s₁ #[] 0 t := fun t k => castTop (Yaa m  ) k
  obtain ⟨Ye, Ze, Ae, Be, Ue, Ve, Ke, Le, Dc, Wb, Ub, Vb, Bc, Yb, Pb, Rb, Ac, Zb, Lb, Mb, Hb, Gb, Hc, Gc, We, Re, Rc, De, Ab, Za, Ya⟩ := (id hE : EV Z Wa Va Ua Ra Ia Da Ha Ba Ga Aa Ma La Bb)
  obtain ⟨kw_USER_collectionName, Aw_USER_collectionName⟩ := Ab.arv
  obtain ⟨kw_GROUP_collectionName, Aw_GROUP_collectionName⟩ := Za.arv
  obtain ⟨kw_DEVICE_collectionName, Aw_DEVICE_collectionName⟩ := Ya.arv
  obtain ⟨T10, X10, e10, st10⟩ := getS2 X00 hx hZ hown (host := "") (Or.inl (Ka hw 91 rfl)) Via.refl e00 (Ae.ext O0.2) (g := (mkF m 0 #[] [])) rfl (hb hby Gn)
  obtain ⟨cl11, Ar11, Fc11, Sz11, Nn11, Hs11, Gf11⟩ := Vh.ext De O0.2
  obtain ⟨T12, h12, X12, e12, E12, A12, Ex12, st12⟩ := cloneA X10 hx hZ hown (Ka hw 93 rfl) (Ka hw 94 rfl) (Ka hw 98 rfl) (Ka hw 96 rfl) (Ka hw 97 rfl) (Ka hw 99 rfl) e10 Ar11 (Be.ext O0.2) Fc11 (g := (mkF m 3 #[] [(.ref Va)])) rfl (by rw [hml]; rfl) rfl (hb hby Hn) (by decide) (W := 0) (cap := 3) (by show 2 * 0 + _ ≤ _; exact Nat.le_of_eq rfl) (by decide) (by rw [Sz11]; decide) (by decide) (by decide)
  obtain ⟨b12, g12⟩ : ∃ z, z = h0.size := ⟨_, rfl⟩
  rw [← g12] at A12 Ex12 st12
  have O12 := O0.ext E12
  have g_b12 : n0 ≤ b12 := Nat.le_trans (Nat.le_of_eq O0.1.symm) (Nat.le_trans O0.2.1 (Nat.le_of_eq g12.symm))
  have s_b12 : h0.size ≤ b12 := Nat.le_trans K00.1 (Nat.le_of_eq g12.symm)
  have K12 := K00.ext E12
  have V12 : Arv Z h12 b12 cl11.cls (.object "com/example/entitlement_ledger/entitlementledger/model/AssigneeKind") (3 : Int32) [(.ref Wa), (.ref Ua), (.ref Ra)] .null := ⟨cloneOf cl11, A12, rfl, Sz11, Nn11, Hs11, Gf11⟩
  have lt_b12 := V12.lt
  obtain ⟨T13, X13, e13, st13⟩ := castY X12 hx hZ hown (Ka hw 103 rfl) e12 (Ins.self Ex12) (g := (mkF m 6 #[] [(.ref b12)])) rfl rfl (hb hby Kn)
  have k14 : ∀ t, Db p e below m T13 9 #[] [(.ref b12)] t → Kb p e below m s₁ #[] 0 t := by
    intro t k
    refine k00 t ?_
    refine st10 _ ?_
    refine st12 _ ?_
    refine st13 _ ?_
    exact k
  obtain ⟨fs, hr, hrun, hended, hW, hsame⟩ := X13.leave (v := some (.ref b12)) (fun h => by rw [Bd.returns] at h; cases h)
  refine hNG ⟨_, _, k14 _ ?_, hrun, hended, _, _, rfl, ?_, ⟨_, rfl⟩, hW, hsame.mono (by decide) (by decide)⟩
  · exact retOut X13 hx (t := (.array (.object "com/example/entitlement_ledger/entitlementledger/model/AssigneeKind"))) Bd.returns rfl (Or.inr (Or.inr (Or.inr (Or.inr ⟨rfl, rfl, rfl⟩)))) (hb hby Ln) hr
  · show I9 Z Wa Va Ua Ra Ia Da Ha Ba Ga Aa Ma La Bb h0 n0 _ T13.heap _
    rw [e13]
    exact ⟨b12, cl11.cls, rfl, N00, O12, K12, g_b12, s_b12, V12⟩
theorem ef_oi (m : MethodId) (x0 : Addr) (x1 : Addr)  : entryFrame m #[(.ref x0), (.ref x1)] 2 = mkF m 0 #[.val (.ref x0), .val (.ref x1)] [] := by first | (simp [entryFrame, mkF, argsToLocals, Value.category]; done) | rfl
theorem Pn : decode jdk_32_method_2_code 0 = .ok (.aload_n 0, 1) := by decide +kernel
theorem Rn : decode jdk_32_method_2_code 1 = .ok (.invokespecial 7, 3) := by decide +kernel
theorem Un : decode jdk_32_method_2_code 4 = .ok (.aload_n 0, 1) := by decide +kernel
theorem Vn : decode jdk_32_method_2_code 5 = .ok (.aload_n 1, 1) := by decide +kernel
theorem Wn : decode jdk_32_method_2_code 6 = .ok (.putfield 13, 3) := by decide +kernel
theorem Yn : decode jdk_32_method_2_code 9 = .ok (.return_, 1) := by decide +kernel
theorem Lh : plainName "java/util/Optional" = true := by first | (simp [plainName, overriddenIn]; done) | decide +kernel
abbrev M8 : MethodName := ⟨"java/util/Optional", "<init>", "(Ljava/lang/Object;)V"⟩
def Q_oi (Z : State) (a1 : Addr) (r1 : Addr) (Wa : Addr) (Va : Addr) (Ua : Addr) (Ra : Addr) (Ia : Addr) (Da : Addr) (Ha : Addr) (Ba : Addr) (Ga : Addr) (Aa : Addr) (Ma : Int32) (La : Value) (Bb : Addr) (h0 : Heap) (n0 : Nat) (v : Option Value) (h : Heap) (L : List Loc) : Prop := v = none ∧ Fr n0 L ∧ Old Z n0 h ∧ Keep h0 h [a1] ∧ Exa Z h a1 "java/util/Optional" ∧ Fld Z h a1 "java/util/Optional" "value" "Ljava/lang/Object;" (.ref r1)
set_option maxRecDepth 65536 in
set_option maxHeartbeats 40000000 in
theorem rm_oi (l : Launch) (Z : State) (a0 : Array Value) (hw : ∀ d ∈ tables_1, d.before a0 Z = true) (ws : List Jvm.Cond) (a1 : Addr) (r1 : Addr) (Wa : Addr) (Va : Addr) (Ua : Addr) (Ra : Addr) (Ia : Addr) (Da : Addr) (Ha : Addr) (Ba : Addr) (Ga : Addr) (Aa : Addr) (Ma : Int32) (La : Value) (Bb : Addr) (h0 : Heap) (n0 : Nat) (O0 : Old Z n0 h0) (hE : EV Z Wa Va Ua Ra Ia Da Ha Ba Ga Aa Ma La Bb) (W8 : Fld Z h0 a1 "java/util/Optional" "value" "Ljava/lang/Object;" .null) (E_a1 : Exa Z h0 a1 "java/util/Optional") (g_a1 : n0 ≤ a1) :
    MetFree l M8 (head1 (Jvm.Cond.code M8 jdk_32_method_2_code 2 none :: ws) ({ frames := 1, cells := 0, slots := 0, locals := 12 } : Room)) (fun a U => a = #[(.ref a1), (.ref r1)] ∧ Z.Warmed39 U.vm ∧ U.heap = h0) (fun _ _ _ _ _ => True) (fun _ U o U' => ∃ v L, o = .returned v ∧ Q_oi Z a1 r1 Wa Va Ua Ra Ia Da Ha Ba Ga Aa Ma La Bb h0 n0 v U'.heap L ∧ FrameEnd U o U' L ({ frames := 1, cells := 0, slots := 0, locals := 12 } : Room).cells ({ frames := 1, cells := 0, slots := 0, locals := 12 } : Room).slots) := by
  refine MetFree.of_bodySF (plainFor_of_name Lh) hisR ?_
  intro p e s m args below meth c s₁ Bd hml0 hP hK
  obtain ⟨rfl, hZ, hh⟩ := hP
  have hx := Bd.exec
  have hby := Bd.bytes
  have hml : c.maxLocals = 2 := hml0
  have hown : s.vm.findClass "java/util/Optional" = some m.cls := findClass_of_methodNamed Bd.named
  have hnm := (name_of_methodNamed Bd.named Bd.method).1
  have X00 : Stand p l e ({ frames := 1, cells := 0, slots := 0, locals := 12 } : Room) s m #[(.ref a1), (.ref r1)] below meth c s₁ [] 0 0 := Stand.of_body Bd
  have e00 : s₁.heap = h0 := by rw [← hh, Bd.state]; rfl
  have N00 := Fr.nil n0
  refine Classical.byContradiction fun hNG => ?_
  have K00 := Keep.refl h0 [a1]
  have k00 : ∀ t, Db p e below m s₁ 0 #[.val (.ref a1), .val (.ref r1)] [] t → Kb p e below m s₁ #[(.ref a1), (.ref r1)] 2 t := fun t k => castTop (ef_oi m a1 r1 ) k
  obtain ⟨Ye, Ze, Ae, Be, Ue, Ve, Ke, Le, Dc, Wb, Ub, Vb, Bc, Yb, Pb, Rb, Ac, Zb, Lb, Mb, Hb, Gb, Hc, Gc, We, Re, Rc, De, Ab, Za, Ya⟩ := (id hE : EV Z Wa Va Ua Ra Ia Da Ha Ba Ga Aa Ma La Bb)
  obtain ⟨kw_USER_collectionName, Aw_USER_collectionName⟩ := Ab.arv
  obtain ⟨kw_GROUP_collectionName, Aw_GROUP_collectionName⟩ := Za.arv
  obtain ⟨kw_DEVICE_collectionName, Aw_DEVICE_collectionName⟩ := Ya.arv
  obtain ⟨T10, X10, e10, st10⟩ := initO X00 hx hZ hown (Ka hw 122 rfl) (Ka hw 61 rfl) (Ka hw 62 rfl) e00 (g := (mkF m 1 #[.val (.ref a1), .val (.ref r1)] [(.ref a1)])) rfl (by rw [hml]; rfl) rfl (hb hby Rn) (by decide) (W := 0) (by show 2 * 0 + _ ≤ _; exact Nat.le_of_eq rfl) (by decide)
  obtain ⟨T11, h11, X11, e11, W11, st11⟩ := putF X10 hx hZ hown (host := "") (Or.inl (Ka hw 123 rfl)) Via.refl e10 W8 E_a1 (Or.inr ⟨(Ka hw 124 rfl), rfl, hnm⟩) (Ka hw 113 rfl) (ty := (.object "java/lang/Object")) (by decide) rfl rfl (g := (mkF m 6 #[.val (.ref a1), .val (.ref r1)] [(.ref r1), (.ref a1)])) rfl rfl (hb hby Wn)
  have F11_value := W8.same W11
  have N11 := Fr.snoc X11 N00 g_a1
  have O11 := O0.wr W11 g_a1
  have K11 := K00.wr W11 (Or.inl (List.mem_of_getElem? (i := 0) rfl))
  have k12 : ∀ t, Db p e below m T11 9 #[.val (.ref a1), .val (.ref r1)] [] t → Kb p e below m s₁ #[(.ref a1), (.ref r1)] 2 t := by
    intro t k
    refine k00 t ?_
    refine XS.aloadN X00.here hx rfl (hb hby Pn) rfl rfl ?_
    refine st10 _ ?_
    refine XS.aloadN X10.here hx rfl (hb hby Un) rfl rfl ?_
    refine XS.aloadN X10.here hx rfl (hb hby Vn) rfl rfl ?_
    refine st11 _ ?_
    exact k
  have f13 := (E_a1.wr W11)
  obtain ⟨fs, hr, hrun, hended, hW, hsame⟩ := X11.leave (v := none) (fun _ => rfl)
  refine hNG ⟨_, _, k12 _ ?_, hrun, hended, _, _, rfl, ?_, ⟨_, rfl⟩, hW, hsame.mono (by decide) (by decide)⟩
  · exact X11.returnOut hx Bd.returns (hb hby Yn) hr
  · show Q_oi Z a1 r1 Wa Va Ua Ra Ia Da Ha Ba Ga Aa Ma La Bb h0 n0 _ T11.heap _
    rw [e11]
    exact ⟨rfl, N11, O11, K11, f13, F11_value⟩
theorem ef_of (m : MethodId) (x0 : Addr)  : entryFrame m #[(.ref x0)] 1 = mkF m 0 #[.val (.ref x0)] [] := by first | (simp [entryFrame, mkF, argsToLocals, Value.category]; done) | rfl
theorem Zn : decode jdk_32_method_3_code 0 = .ok (.new 2, 3) := by decide +kernel
theorem Ao : decode jdk_32_method_3_code 3 = .ok (.dup, 1) := by decide +kernel
theorem Bo : decode jdk_32_method_3_code 4 = .ok (.aload_n 0, 1) := by decide +kernel
theorem Go : decode jdk_32_method_3_code 5 = .ok (.invokestatic 17, 3) := by decide +kernel
theorem ef_f1 (m : MethodId) (x0 : Addr)  : entryFrame m #[(.ref x0)] 1 = mkF m 0 #[.val (.ref x0)] [] := by first | (simp [entryFrame, mkF, argsToLocals, Value.category]; done) | rfl
theorem Gm : decode jdk_31_method_10_code 0 = .ok (.aload_n 0, 1) := by decide +kernel
theorem Hm : decode jdk_31_method_10_code 1 = .ok (.ifnonnull 11, 3) := by decide +kernel
theorem Wl : decode jdk_31_method_10_code 12 = .ok (.aload_n 0, 1) := by decide +kernel
theorem Yl : decode jdk_31_method_10_code 13 = .ok (.areturn, 1) := by decide +kernel
theorem Wo : plainName "java/util/Objects" = true := by first | (simp [plainName, overriddenIn]; done) | decide +kernel
abbrev P8 : MethodName := ⟨"java/util/Objects", "requireNonNull", "(Ljava/lang/Object;)Ljava/lang/Object;"⟩
def Q_f1 (Z : State) (q0 : Addr) (Wa : Addr) (Va : Addr) (Ua : Addr) (Ra : Addr) (Ia : Addr) (Da : Addr) (Ha : Addr) (Ba : Addr) (Ga : Addr) (Aa : Addr) (Ma : Int32) (La : Value) (Bb : Addr) (h0 : Heap) (n0 : Nat) (v : Option Value) (h : Heap) (L : List Loc) : Prop := v = some (.ref q0) ∧ Fr n0 L ∧ h = h0
set_option maxRecDepth 65536 in
set_option maxHeartbeats 40000000 in
theorem rm_f1 (l : Launch) (Z : State) (a0 : Array Value) (hw : ∀ d ∈ tables_1, d.before a0 Z = true) (ws : List Jvm.Cond) (q0 : Addr) (Wa : Addr) (Va : Addr) (Ua : Addr) (Ra : Addr) (Ia : Addr) (Da : Addr) (Ha : Addr) (Ba : Addr) (Ga : Addr) (Aa : Addr) (Ma : Int32) (La : Value) (Bb : Addr) (h0 : Heap) (n0 : Nat) (O0 : Old Z n0 h0) (hE : EV Z Wa Va Ua Ra Ia Da Ha Ba Ga Aa Ma La Bb) :
    MetFree l P8 (head1 (Jvm.Cond.code P8 jdk_31_method_10_code 1 (some (.object "java/lang/Object")) :: ws) ({ frames := 0, cells := 0, slots := 0, locals := 0 } : Room)) (fun a U => a = #[(.ref q0)] ∧ Z.Warmed39 U.vm ∧ U.heap = h0) (fun _ _ _ _ _ => True) (fun _ U o U' => ∃ v L, o = .returned v ∧ Q_f1 Z q0 Wa Va Ua Ra Ia Da Ha Ba Ga Aa Ma La Bb h0 n0 v U'.heap L ∧ FrameEnd U o U' L ({ frames := 0, cells := 0, slots := 0, locals := 0 } : Room).cells ({ frames := 0, cells := 0, slots := 0, locals := 0 } : Room).slots) := by
  refine MetFree.of_bodySF (plainFor_of_name Wo) hisR ?_
  intro p e s m args below meth c s₁ Bd hml0 hP hK
  obtain ⟨rfl, hZ, hh⟩ := hP
  have hx := Bd.exec
  have hby := Bd.bytes
  have hml : c.maxLocals = 1 := hml0
  have hown : s.vm.findClass "java/util/Objects" = some m.cls := findClass_of_methodNamed Bd.named
  have hnm := (name_of_methodNamed Bd.named Bd.method).1
  have X00 : Stand p l e ({ frames := 0, cells := 0, slots := 0, locals := 0 } : Room) s m #[(.ref q0)] below meth c s₁ [] 0 0 := Stand.of_body Bd
  have e00 : s₁.heap = h0 := by rw [← hh, Bd.state]; rfl
  have N00 := Fr.nil n0
  refine Classical.byContradiction fun hNG => ?_
  have K00 := Keep.refl h0 []
  have k00 : ∀ t, Db p e below m s₁ 0 #[.val (.ref q0)] [] t → Kb p e below m s₁ #[(.ref q0)] 1 t := fun t k => castTop (ef_f1 m q0 ) k
  obtain ⟨Ye, Ze, Ae, Be, Ue, Ve, Ke, Le, Dc, Wb, Ub, Vb, Bc, Yb, Pb, Rb, Ac, Zb, Lb, Mb, Hb, Gb, Hc, Gc, We, Re, Rc, De, Ab, Za, Ya⟩ := (id hE : EV Z Wa Va Ua Ra Ia Da Ha Ba Ga Aa Ma La Bb)
  obtain ⟨kw_USER_collectionName, Aw_USER_collectionName⟩ := Ab.arv
  obtain ⟨kw_GROUP_collectionName, Aw_GROUP_collectionName⟩ := Za.arv
  obtain ⟨kw_DEVICE_collectionName, Aw_DEVICE_collectionName⟩ := Ya.arv
  have k10 : ∀ t, Db p e below m s₁ 13 #[.val (.ref q0)] [(.ref q0)] t → Kb p e below m s₁ #[(.ref q0)] 1 t := by
    intro t k
    refine k00 t ?_
    refine XS.aloadN X00.here hx rfl (hb hby Gm) rfl rfl ?_
    refine XS.ifnonnullYes X00.here hx rfl (pc0 := 1) (pc' := 12) rfl (hb hby Hm) rfl (by decide) (by decide) ?_
    refine XS.aloadN X00.here hx rfl (hb hby Wl) rfl rfl ?_
    exact k
  obtain ⟨fs, hr, hrun, hended, hW, hsame⟩ := X00.leave (v := some (.ref q0)) (fun h => by rw [Bd.returns] at h; cases h)
  refine hNG ⟨_, _, k10 _ ?_, hrun, hended, _, _, rfl, ?_, ⟨_, rfl⟩, hW, hsame.mono (by decide) (by decide)⟩
  · exact retOut X00 hx (t := (.object "java/lang/Object")) Bd.returns rfl (Or.inr (Or.inr (Or.inr (Or.inr ⟨rfl, rfl, rfl⟩)))) (hb hby Yl) hr
  · show Q_f1 Z q0 Wa Va Ua Ra Ia Da Ha Ba Ga Aa Ma La Bb h0 n0 _ s₁.heap _
    rw [e00]
    exact ⟨rfl, N00, rfl⟩
theorem Kc : parseMethodDescriptor "(Ljava/lang/Object;)Ljava/lang/Object;" = some ⟨[(.object "java/lang/Object")], some (.object "java/lang/Object")⟩ := by decide +kernel
theorem Ho : decode jdk_32_method_3_code 8 = .ok (.invokespecial 23, 3) := by decide +kernel
theorem Io : parseMethodDescriptor "(Ljava/lang/Object;)V" = some ⟨[(.object "java/lang/Object")], none⟩ := by decide +kernel
theorem Im : decode jdk_32_method_3_code 11 = .ok (.areturn, 1) := by decide +kernel
abbrev B7 : MethodName := ⟨"java/util/Optional", "of", "(Ljava/lang/Object;)Ljava/util/Optional;"⟩
def Q_of (Z : State) (q0 : Addr) (Wa : Addr) (Va : Addr) (Ua : Addr) (Ra : Addr) (Ia : Addr) (Da : Addr) (Ha : Addr) (Ba : Addr) (Ga : Addr) (Aa : Addr) (Ma : Int32) (La : Value) (Bb : Addr) (h0 : Heap) (n0 : Nat) (v : Option Value) (h : Heap) (L : List Loc) : Prop := ∃ (b : Addr), v = some (.ref b) ∧ Fr n0 L ∧ Old Z n0 h ∧ Keep h0 h [] ∧ n0 ≤ b ∧ h0.size ≤ b ∧ Exa Z h b "java/util/Optional" ∧ Fld Z h b "java/util/Optional" "value" "Ljava/lang/Object;" (.ref q0)
set_option maxRecDepth 65536 in
set_option maxHeartbeats 40000000 in
theorem H9 (l : Launch) (Z : State) (a0 : Array Value) (hw : ∀ d ∈ tables_1, d.before a0 Z = true) (ws : List Jvm.Cond) (q0 : Addr) (Wa : Addr) (Va : Addr) (Ua : Addr) (Ra : Addr) (Ia : Addr) (Da : Addr) (Ha : Addr) (Ba : Addr) (Ga : Addr) (Aa : Addr) (Ma : Int32) (La : Value) (Bb : Addr) (h0 : Heap) (n0 : Nat) (O0 : Old Z n0 h0) (hE : EV Z Wa Va Ua Ra Ia Da Ha Ba Ga Aa Ma La Bb) :
    MetFree l B7 (head1 (Jvm.Cond.code B7 jdk_32_method_3_code 1 (some (.object "java/util/Optional")) :: ws) ({ frames := 2, cells := 1, slots := 1, locals := 26 } : Room)) (fun a U => a = #[(.ref q0)] ∧ Z.Warmed39 U.vm ∧ U.heap = h0) (fun _ _ _ _ _ => True) (fun _ U o U' => ∃ v L, o = .returned v ∧ Q_of Z q0 Wa Va Ua Ra Ia Da Ha Ba Ga Aa Ma La Bb h0 n0 v U'.heap L ∧ FrameEnd U o U' L ({ frames := 2, cells := 1, slots := 1, locals := 26 } : Room).cells ({ frames := 2, cells := 1, slots := 1, locals := 26 } : Room).slots) := by
  refine MetFree.of_bodySF (plainFor_of_name Lh) hisR ?_
  intro p e s m args below meth c s₁ Bd hml0 hP hK
  obtain ⟨rfl, hZ, hh⟩ := hP
  have hx := Bd.exec
  have hby := Bd.bytes
  have hml : c.maxLocals = 1 := hml0
  have hown : s.vm.findClass "java/util/Optional" = some m.cls := findClass_of_methodNamed Bd.named
  have hnm := (name_of_methodNamed Bd.named Bd.method).1
  have X00 : Stand p l e ({ frames := 2, cells := 1, slots := 1, locals := 26 } : Room) s m #[(.ref q0)] below meth c s₁ [] 0 0 := Stand.of_body Bd
  have e00 : s₁.heap = h0 := by rw [← hh, Bd.state]; rfl
  have N00 := Fr.nil n0
  refine Classical.byContradiction fun hNG => ?_
  have K00 := Keep.refl h0 []
  have k00 : ∀ t, Db p e below m s₁ 0 #[.val (.ref q0)] [] t → Kb p e below m s₁ #[(.ref q0)] 1 t := fun t k => castTop (ef_of m q0 ) k
  obtain ⟨Ye, Ze, Ae, Be, Ue, Ve, Ke, Le, Dc, Wb, Ub, Vb, Bc, Yb, Pb, Rb, Ac, Zb, Lb, Mb, Hb, Gb, Hc, Gc, We, Re, Rc, De, Ab, Za, Ya⟩ := (id hE : EV Z Wa Va Ua Ra Ia Da Ha Ba Ga Aa Ma La Bb)
  obtain ⟨kw_USER_collectionName, Aw_USER_collectionName⟩ := Ab.arv
  obtain ⟨kw_GROUP_collectionName, Aw_GROUP_collectionName⟩ := Za.arv
  obtain ⟨kw_DEVICE_collectionName, Aw_DEVICE_collectionName⟩ := Ya.arv
  obtain ⟨T10, h10, X10, e10, E10, A10, D10, -, st10⟩ := newO X00 hx hZ hown (Ka hw 112 rfl) (Ka hw 113 rfl) (Ka hw 110 rfl) e00 (g := (mkF m 0 #[.val (.ref q0)] [])) rfl (hb hby Zn) (by decide) (by decide)
  obtain ⟨b10, g10⟩ : ∃ z, z = h0.size := ⟨_, rfl⟩
  rw [← g10] at A10 D10 st10
  have O10 := O0.ext E10
  have g_b10 : n0 ≤ b10 := Nat.le_trans (Nat.le_of_eq O0.1.symm) (Nat.le_trans O0.2.1 (Nat.le_of_eq g10.symm))
  have s_b10 : h0.size ≤ b10 := Nat.le_trans K00.1 (Nat.le_of_eq g10.symm)
  have K10 := K00.ext E10
  have lt_b10 := A10.lt
  have F10_value : Fld Z h10 b10 "java/util/Optional" "value" "Ljava/lang/Object;" .null := D10 (Or.inr (Ka hw 124 rfl)) (ty := (.object "java/lang/Object")) (by decide)
  obtain ⟨_, _, ⟨T11, L11, k11, n11⟩, -, X11, ⟨Lc11, hQ11, l11, y11, z11⟩, st11⟩ := Jvm.LawKit.callS X10 hx (y := P8) hown (mvT hZ (Ka hw 114 rfl)) (mvT hZ (Ka hw 115 rfl)) (mvT hZ (Ka hw 116 rfl)) (mvT hZ (Ka hw 117 rfl)) (by decide) (backOf (W := 2) (rm_f1 l Z a0 hw [] q0 _ _ _ _ _ _ _ _ _ _ _ _ _ h10 n0 O10 hE) hZ (Ka hw 117 rfl) (Ka hw 116 rfl) (by decide) (by decide)) (g := (mkF m 5 #[.val (.ref q0)] [(.ref q0), (.ref b10), (.ref b10)])) rfl (by rw [hml]; rfl) (argsL := [(.ref q0)]) (rest := [(.ref b10), (.ref b10)]) (lenOf Kc rfl) rfl (by show 2 * 0 + _ ≤ _; exact Nat.le_of_eq rfl) (hb hby Go) (fun _ _ => ⟨rfl, e10, (by decide : 1 + 0 ≤ _), (by decide : 1 + 0 ≤ _)⟩)
  dsimp only [Pt.U, Pt.locs, Pt.cells, Pt.slots] at X11 l11 y11 z11 st11 hQ11
  subst l11 y11 z11
  obtain ⟨rfl, N11q, hp11⟩ := hQ11
  have N11 := Fr.app N00 N11q
  obtain ⟨_, _, ⟨T12, L12, k12, n12⟩, -, X12, ⟨Lc12, hQ12, l12, y12, z12⟩, st12⟩ := X11.specialBack hx (y := M8) rfl hown (mvT hZ (Ka hw 118 rfl)) (mvT hZ (Ka hw 119 rfl)) (mvT hZ (Ka hw 121 rfl)) (by decide) (backOf (W := 1) (rm_oi l Z a0 hw [] b10 q0 _ _ _ _ _ _ _ _ _ _ _ _ _ h10 n0 O10 hE F10_value A10 g_b10 ) hZ (Ka hw 121 rfl) (Ka hw 110 rfl) (by decide) (by decide)) (g := (mkF m 8 #[.val (.ref q0)] [(.ref q0), (.ref b10), (.ref b10)])) rfl (by rw [hml]; rfl) (Steps.refl _) (a := b10) (argsL := [(.ref q0)]) (rest := [(.ref b10)]) (lenOf Io rfl) rfl (by show 2 * 0 + _ ≤ _; exact Nat.le_of_eq rfl) (hb hby Ho) (fun _ _ => ⟨rfl, hp11, (by decide : 1 + 0 ≤ _), (by decide : 1 + 0 ≤ _)⟩)
  dsimp only [Pt.U, Pt.locs, Pt.cells, Pt.slots] at X12 l12 y12 z12 st12 hQ12
  subst l12 y12 z12
  obtain ⟨rfl, N12q, O12, Kc12, Ex12, G12_0⟩ := hQ12
  have N12 := Fr.app N11 N12q
  have K12 := K10.trans Kc12 (allS (Or.inr s_b10) all0)
  have k13 : ∀ t, Db p e below m T12 11 #[.val (.ref q0)] [(.ref b10)] t → Kb p e below m s₁ #[(.ref q0)] 1 t := by
    intro t k
    refine k00 t ?_
    refine st10 _ ?_
    refine XS.dup X10.here hx rfl (hb hby Ao) rfl rfl ?_
    refine XS.aloadN X10.here hx rfl (hb hby Bo) rfl rfl ?_
    refine st11 _ ?_
    refine st12.trans ?_
    exact k
  obtain ⟨fs, hr, hrun, hended, hW, hsame⟩ := X12.leave (v := some (.ref b10)) (fun h => by rw [Bd.returns] at h; cases h)
  refine hNG ⟨_, _, k13 _ ?_, hrun, hended, _, _, rfl, ?_, ⟨_, rfl⟩, hW, hsame.mono (by decide) (by decide)⟩
  · exact retOut X12 hx (t := (.object "java/util/Optional")) Bd.returns rfl (Or.inr (Or.inr (Or.inr (Or.inr ⟨rfl, rfl, rfl⟩)))) (hb hby Im) hr
  · show Q_of Z q0 Wa Va Ua Ra Ia Da Ha Ba Ga Aa Ma La Bb h0 n0 _ T12.heap _
    exact ⟨b10, rfl, N12, O12, K12, g_b10, s_b10, Ex12, G12_0⟩
theorem ef_oe (m : MethodId) (x0 : Addr)  : entryFrame m #[(.ref x0), .null] 2 = mkF m 0 #[.val (.ref x0), .val .null] [] := by first | (simp [entryFrame, mkF, argsToLocals, Value.category]; done) | rfl
theorem Pj : decode jdk_32_method_15_code 0 = .ok (.aload_n 0, 1) := by decide +kernel
theorem Rj : decode jdk_32_method_15_code 1 = .ok (.getfield 13, 3) := by decide +kernel
theorem Uj : decode jdk_32_method_15_code 4 = .ok (.ifnull 10, 3) := by decide +kernel
theorem Km : decode jdk_32_method_15_code 7 = .ok (.aload_n 0, 1) := by decide +kernel
theorem Lm : decode jdk_32_method_15_code 8 = .ok (.getfield 13, 3) := by decide +kernel
theorem Zl : decode jdk_32_method_15_code 11 = .ok (.goto 4, 3) := by decide +kernel
theorem Kj : decode jdk_32_method_15_code 15 = .ok (.areturn, 1) := by decide +kernel
abbrev Df : MethodName := ⟨"java/util/Optional", "orElse", "(Ljava/lang/Object;)Ljava/lang/Object;"⟩
def Q_oe (Z : State) (q0 : Addr) (r0 : Addr) (Wa : Addr) (Va : Addr) (Ua : Addr) (Ra : Addr) (Ia : Addr) (Da : Addr) (Ha : Addr) (Ba : Addr) (Ga : Addr) (Aa : Addr) (Ma : Int32) (La : Value) (Bb : Addr) (h0 : Heap) (n0 : Nat) (v : Option Value) (h : Heap) (L : List Loc) : Prop := v = some (.ref r0) ∧ Fr n0 L ∧ h = h0
set_option maxRecDepth 65536 in
set_option maxHeartbeats 40000000 in
theorem I7 (l : Launch) (Z : State) (a0 : Array Value) (hw : ∀ d ∈ tables_1, d.before a0 Z = true) (ws : List Jvm.Cond) (q0 : Addr) (r0 : Addr) (Wa : Addr) (Va : Addr) (Ua : Addr) (Ra : Addr) (Ia : Addr) (Da : Addr) (Ha : Addr) (Ba : Addr) (Ga : Addr) (Aa : Addr) (Ma : Int32) (La : Value) (Bb : Addr) (h0 : Heap) (n0 : Nat) (O0 : Old Z n0 h0) (hE : EV Z Wa Va Ua Ra Ia Da Ha Ba Ga Aa Ma La Bb) (P0 : Fld Z h0 q0 "java/util/Optional" "value" "Ljava/lang/Object;" (.ref r0)) :
    MetFree l Df (head1 (Jvm.Cond.code Df jdk_32_method_15_code 2 (some (.object "java/lang/Object")) :: ws) ({ frames := 0, cells := 0, slots := 0, locals := 0 } : Room)) (fun a U => a = #[(.ref q0), .null] ∧ Z.Warmed39 U.vm ∧ U.heap = h0) (fun _ _ _ _ _ => True) (fun _ U o U' => ∃ v L, o = .returned v ∧ Q_oe Z q0 r0 Wa Va Ua Ra Ia Da Ha Ba Ga Aa Ma La Bb h0 n0 v U'.heap L ∧ FrameEnd U o U' L ({ frames := 0, cells := 0, slots := 0, locals := 0 } : Room).cells ({ frames := 0, cells := 0, slots := 0, locals := 0 } : Room).slots) := by
  refine MetFree.of_bodySF (plainFor_of_name Lh) hisR ?_
  intro p e s m args below meth c s₁ Bd hml0 hP hK
  obtain ⟨rfl, hZ, hh⟩ := hP
  have hx := Bd.exec
  have hby := Bd.bytes
  have hml : c.maxLocals = 2 := hml0
  have hown : s.vm.findClass "java/util/Optional" = some m.cls := findClass_of_methodNamed Bd.named
  have hnm := (name_of_methodNamed Bd.named Bd.method).1
  have X00 : Stand p l e ({ frames := 0, cells := 0, slots := 0, locals := 0 } : Room) s m #[(.ref q0), .null] below meth c s₁ [] 0 0 := Stand.of_body Bd
  have e00 : s₁.heap = h0 := by rw [← hh, Bd.state]; rfl
  have N00 := Fr.nil n0
  refine Classical.byContradiction fun hNG => ?_
  have K00 := Keep.refl h0 []
  have k00 : ∀ t, Db p e below m s₁ 0 #[.val (.ref q0), .val .null] [] t → Kb p e below m s₁ #[(.ref q0), .null] 2 t := fun t k => castTop (ef_oe m q0 ) k
  obtain ⟨Ye, Ze, Ae, Be, Ue, Ve, Ke, Le, Dc, Wb, Ub, Vb, Bc, Yb, Pb, Rb, Ac, Zb, Lb, Mb, Hb, Gb, Hc, Gc, We, Re, Rc, De, Ab, Za, Ya⟩ := (id hE : EV Z Wa Va Ua Ra Ia Da Ha Ba Ga Aa Ma La Bb)
  obtain ⟨kw_USER_collectionName, Aw_USER_collectionName⟩ := Ab.arv
  obtain ⟨kw_GROUP_collectionName, Aw_GROUP_collectionName⟩ := Za.arv
  obtain ⟨kw_DEVICE_collectionName, Aw_DEVICE_collectionName⟩ := Ya.arv
  obtain ⟨T10, X10, e10, st10⟩ := getF X00 hx hZ hown (host := "") (Or.inl (Ka hw 123 rfl)) Via.refl e00 P0 (g := (mkF m 1 #[.val (.ref q0), .val .null] [(.ref q0)])) rfl rfl (hb hby Rj)
  obtain ⟨T11, X11, e11, st11⟩ := getF X10 hx hZ hown (host := "") (Or.inl (Ka hw 123 rfl)) Via.refl e10 P0 (g := (mkF m 8 #[.val (.ref q0), .val .null] [(.ref q0)])) rfl rfl (hb hby Lm)
  have k12 : ∀ t, Db p e below m T11 15 #[.val (.ref q0), .val .null] [(.ref r0)] t → Kb p e below m s₁ #[(.ref q0), .null] 2 t := by
    intro t k
    refine k00 t ?_
    refine XS.aloadN X00.here hx rfl (hb hby Pj) rfl rfl ?_
    refine st10 _ ?_
    refine XS.ifnullNo X10.here hx rfl (hb hby Uj) rfl ?_
    refine XS.aloadN X10.here hx rfl (hb hby Km) rfl rfl ?_
    refine st11 _ ?_
    refine XS.goto X11.here hx rfl (pc0 := 11) (pc' := 15) rfl (hb hby Zl) (by decide) (by decide) ?_
    exact k
  obtain ⟨fs, hr, hrun, hended, hW, hsame⟩ := X11.leave (v := some (.ref r0)) (fun h => by rw [Bd.returns] at h; cases h)
  refine hNG ⟨_, _, k12 _ ?_, hrun, hended, _, _, rfl, ?_, ⟨_, rfl⟩, hW, hsame.mono (by decide) (by decide)⟩
  · exact retOut X11 hx (t := (.object "java/lang/Object")) Bd.returns rfl (Or.inr (Or.inr (Or.inr (Or.inr ⟨rfl, rfl, rfl⟩)))) (hb hby Kj) hr
  · show Q_oe Z q0 r0 Wa Va Ua Ra Ia Da Ha Ba Ga Aa Ma La Bb h0 n0 _ T11.heap _
    rw [e11]
    exact ⟨rfl, N00, rfl⟩
theorem ef_oeN (m : MethodId) (x0 : Addr)  : entryFrame m #[(.ref x0), .null] 2 = mkF m 0 #[.val (.ref x0), .val .null] [] := by first | (simp [entryFrame, mkF, argsToLocals, Value.category]; done) | rfl
theorem Am : decode jdk_32_method_15_code 14 = .ok (.aload_n 1, 1) := by decide +kernel
def Q_oeN (Z : State) (q0 : Addr) (Wa : Addr) (Va : Addr) (Ua : Addr) (Ra : Addr) (Ia : Addr) (Da : Addr) (Ha : Addr) (Ba : Addr) (Ga : Addr) (Aa : Addr) (Ma : Int32) (La : Value) (Bb : Addr) (h0 : Heap) (n0 : Nat) (v : Option Value) (h : Heap) (L : List Loc) : Prop := v = some .null ∧ Fr n0 L ∧ h = h0
set_option maxRecDepth 65536 in
set_option maxHeartbeats 40000000 in
theorem U7 (l : Launch) (Z : State) (a0 : Array Value) (hw : ∀ d ∈ tables_1, d.before a0 Z = true) (ws : List Jvm.Cond) (q0 : Addr) (Wa : Addr) (Va : Addr) (Ua : Addr) (Ra : Addr) (Ia : Addr) (Da : Addr) (Ha : Addr) (Ba : Addr) (Ga : Addr) (Aa : Addr) (Ma : Int32) (La : Value) (Bb : Addr) (h0 : Heap) (n0 : Nat) (O0 : Old Z n0 h0) (hE : EV Z Wa Va Ua Ra Ia Da Ha Ba Ga Aa Ma La Bb) (P0 : Fld Z h0 q0 "java/util/Optional" "value" "Ljava/lang/Object;" .null) :
    MetFree l Df (head1 (Jvm.Cond.code Df jdk_32_method_15_code 2 (some (.object "java/lang/Object")) :: ws) ({ frames := 0, cells := 0, slots := 0, locals := 0 } : Room)) (fun a U => a = #[(.ref q0), .null] ∧ Z.Warmed39 U.vm ∧ U.heap = h0) (fun _ _ _ _ _ => True) (fun _ U o U' => ∃ v L, o = .returned v ∧ Q_oeN Z q0 Wa Va Ua Ra Ia Da Ha Ba Ga Aa Ma La Bb h0 n0 v U'.heap L ∧ FrameEnd U o U' L ({ frames := 0, cells := 0, slots := 0, locals := 0 } : Room).cells ({ frames := 0, cells := 0, slots := 0, locals := 0 } : Room).slots) := by
  refine MetFree.of_bodySF (plainFor_of_name Lh) hisR ?_
  intro p e s m args below meth c s₁ Bd hml0 hP hK
  obtain ⟨rfl, hZ, hh⟩ := hP
  have hx := Bd.exec
  have hby := Bd.bytes
  have hml : c.maxLocals = 2 := hml0
  have hown : s.vm.findClass "java/util/Optional" = some m.cls := findClass_of_methodNamed Bd.named
  have hnm := (name_of_methodNamed Bd.named Bd.method).1
  have X00 : Stand p l e ({ frames := 0, cells := 0, slots := 0, locals := 0 } : Room) s m #[(.ref q0), .null] below meth c s₁ [] 0 0 := Stand.of_body Bd
  have e00 : s₁.heap = h0 := by rw [← hh, Bd.state]; rfl
  have N00 := Fr.nil n0
  refine Classical.byContradiction fun hNG => ?_
  have K00 := Keep.refl h0 []
  have k00 : ∀ t, Db p e below m s₁ 0 #[.val (.ref q0), .val .null] [] t → Kb p e below m s₁ #[(.ref q0), .null] 2 t := fun t k => castTop (ef_oeN m q0 ) k
  obtain ⟨Ye, Ze, Ae, Be, Ue, Ve, Ke, Le, Dc, Wb, Ub, Vb, Bc, Yb, Pb, Rb, Ac, Zb, Lb, Mb, Hb, Gb, Hc, Gc, We, Re, Rc, De, Ab, Za, Ya⟩ := (id hE : EV Z Wa Va Ua Ra Ia Da Ha Ba Ga Aa Ma La Bb)
  obtain ⟨kw_USER_collectionName, Aw_USER_collectionName⟩ := Ab.arv
  obtain ⟨kw_GROUP_collectionName, Aw_GROUP_collectionName⟩ := Za.arv
  obtain ⟨kw_DEVICE_collectionName, Aw_DEVICE_collectionName⟩ := Ya.arv
  obtain ⟨T10, X10, e10, st10⟩ := getF X00 hx hZ hown (host := "") (Or.inl (Ka hw 123 rfl)) Via.refl e00 P0 (g := (mkF m 1 #[.val (.ref q0), .val .null] [(.ref q0)])) rfl rfl (hb hby Rj)
  have k11 : ∀ t, Db p e below m T10 15 #[.val (.ref q0), .val .null] [.null] t → Kb p e below m s₁ #[(.ref q0), .null] 2 t := by
    intro t k
    refine k00 t ?_
    refine XS.aloadN X00.here hx rfl (hb hby Pj) rfl rfl ?_
    refine st10 _ ?_
    refine XS.ifnullYes X10.here hx rfl (pc0 := 4) (pc' := 14) rfl (hb hby Uj) rfl (by decide) (by decide) ?_
    refine XS.aloadN X10.here hx rfl (hb hby Am) rfl rfl ?_
    exact k
  obtain ⟨fs, hr, hrun, hended, hW, hsame⟩ := X10.leave (v := some .null) (fun h => by rw [Bd.returns] at h; cases h)
  refine hNG ⟨_, _, k11 _ ?_, hrun, hended, _, _, rfl, ?_, ⟨_, rfl⟩, hW, hsame.mono (by decide) (by decide)⟩
  · exact retOut X10 hx (t := (.object "java/lang/Object")) Bd.returns rfl (Or.inr (Or.inr (Or.inr (Or.inr ⟨rfl, rfl, rfl⟩)))) (hb hby Kj) hr
  · show Q_oeN Z q0 Wa Va Ua Ra Ia Da Ha Ba Ga Aa Ma La Bb h0 n0 _ T10.heap _
    rw [e10]
    exact ⟨rfl, N00, rfl⟩
theorem Hh : ∀ c ∈ ([(117 : Int32), (115 : Int32), (101 : Int32), (114 : Int32), (115 : Int32)] : List Int32), ¬ c < 0 ∧ ¬ (255 : Int32) < c := by decide
theorem Rh : StrChars.Road.CodA ([(117 : Int32), (115 : Int32), (101 : Int32), (114 : Int32), (115 : Int32)] : List Int32) 0 (5 : Int32) [(.int 117), (.int 115), (.int 101), (.int 114), (.int 115)] := StrChars.Road.codOf (cs := ([(117 : Int32), (115 : Int32), (101 : Int32), (114 : Int32), (115 : Int32)] : List Int32)) (n := 5) rfl (fun c hc => (Hh c hc).2)
theorem Ih : ∀ c ∈ ([(103 : Int32), (114 : Int32), (111 : Int32), (117 : Int32), (112 : Int32), (115 : Int32)] : List Int32), ¬ c < 0 ∧ ¬ (255 : Int32) < c := by decide
theorem Yh : StrChars.Road.CodA ([(103 : Int32), (114 : Int32), (111 : Int32), (117 : Int32), (112 : Int32), (115 : Int32)] : List Int32) 0 (6 : Int32) [(.int 103), (.int 114), (.int 111), (.int 117), (.int 112), (.int 115)] := StrChars.Road.codOf (cs := ([(103 : Int32), (114 : Int32), (111 : Int32), (117 : Int32), (112 : Int32), (115 : Int32)] : List Int32)) (n := 6) rfl (fun c hc => (Ih c hc).2)
theorem Mh : ∀ c ∈ ([(100 : Int32), (101 : Int32), (118 : Int32), (105 : Int32), (99 : Int32), (101 : Int32), (115 : Int32)] : List Int32), ¬ c < 0 ∧ ¬ (255 : Int32) < c := by decide
theorem Bi : StrChars.Road.CodA ([(100 : Int32), (101 : Int32), (118 : Int32), (105 : Int32), (99 : Int32), (101 : Int32), (115 : Int32)] : List Int32) 0 (7 : Int32) [(.int 100), (.int 101), (.int 118), (.int 105), (.int 99), (.int 101), (.int 115)] := StrChars.Road.codOf (cs := ([(100 : Int32), (101 : Int32), (118 : Int32), (105 : Int32), (99 : Int32), (101 : Int32), (115 : Int32)] : List Int32)) (n := 7) rfl (fun c hc => (Mh c hc).2)
theorem Bm (m : MethodId) (x0 : Addr)  : entryFrame m #[(.ref x0), .null] 3 = mkF m 0 #[.val (.ref x0), .val .null, .unset] [] := by first | (simp [entryFrame, mkF, argsToLocals, Value.category]; done) | rfl
theorem Mi : decode jdk_42_method_66_code 0 = .ok (.aload_n 0, 1) := by decide +kernel
theorem Pi : decode jdk_42_method_66_code 1 = .ok (.aload_n 1, 1) := by decide +kernel
theorem Ri : decode jdk_42_method_66_code 2 = .ok (.if_acmp .ne 5, 3) := by decide +kernel
theorem Ui : decode jdk_42_method_66_code 7 = .ok (.aload_n 1, 1) := by decide +kernel
theorem Vi : decode jdk_42_method_66_code 8 = .ok (.instanceof 10, 3) := by decide +kernel
theorem Gi : decode jdk_42_method_66_code 11 = .ok (.ifCond .eq 43, 3) := by decide +kernel
theorem Hi : decode jdk_42_method_66_code 54 = .ok (.iconst 0, 1) := by decide +kernel
theorem Ii : decode jdk_42_method_66_code 55 = .ok (.ireturn, 1) := by decide +kernel
abbrev Vc : MethodName := ⟨"java/lang/String", "equals", "(Ljava/lang/Object;)Z"⟩
def Vj (Z : State) (Wa : Addr) (Va : Addr) (Ua : Addr) (Ra : Addr) (Ia : Addr) (Da : Addr) (Ha : Addr) (Ba : Addr) (Ga : Addr) (Aa : Addr) (Ma : Int32) (La : Value) (Bb : Addr) (h0 : Heap) (n0 : Nat) (v : Option Value) (h : Heap) (L : List Loc) : Prop := v = some (.int 0) ∧ Fr n0 L ∧ h = h0
set_option maxRecDepth 65536 in
set_option maxHeartbeats 40000000 in
theorem Dm (l : Launch) (Z : State) (a0 : Array Value) (hw : ∀ d ∈ tables_1, d.before a0 Z = true) (ws : List Jvm.Cond) (Wa : Addr) (Va : Addr) (Ua : Addr) (Ra : Addr) (Ia : Addr) (Da : Addr) (Ha : Addr) (Ba : Addr) (Ga : Addr) (Aa : Addr) (Ma : Int32) (La : Value) (Bb : Addr) (h0 : Heap) (n0 : Nat) (O0 : Old Z n0 h0) (hE : EV Z Wa Va Ua Ra Ia Da Ha Ba Ga Aa Ma La Bb) :
    MetFree l Vc (head1 (Jvm.Cond.code Vc jdk_42_method_66_code 3 (some .boolean) :: ws) ({ frames := 0, cells := 0, slots := 0, locals := 0 } : Room)) (fun a U => a = #[(.ref Ia), .null] ∧ Z.Warmed39 U.vm ∧ U.heap = h0) (fun _ _ _ _ _ => True) (fun _ U o U' => ∃ v L, o = .returned v ∧ Vj Z Wa Va Ua Ra Ia Da Ha Ba Ga Aa Ma La Bb h0 n0 v U'.heap L ∧ FrameEnd U o U' L ({ frames := 0, cells := 0, slots := 0, locals := 0 } : Room).cells ({ frames := 0, cells := 0, slots := 0, locals := 0 } : Room).slots) := by
  refine MetFree.of_bodySF (plainFor_of_name Ai) hisR ?_
  intro p e s m args below meth c s₁ Bd hml0 hP hK
  obtain ⟨rfl, hZ, hh⟩ := hP
  have hx := Bd.exec
  have hby := Bd.bytes
  have hml : c.maxLocals = 3 := hml0
  have hown : s.vm.findClass "java/lang/String" = some m.cls := findClass_of_methodNamed Bd.named
  have hnm := (name_of_methodNamed Bd.named Bd.method).1
  have X00 : Stand p l e ({ frames := 0, cells := 0, slots := 0, locals := 0 } : Room) s m #[(.ref Ia), .null] below meth c s₁ [] 0 0 := Stand.of_body Bd
  have e00 : s₁.heap = h0 := by rw [← hh, Bd.state]; rfl
  have N00 := Fr.nil n0
  refine Classical.byContradiction fun hNG => ?_
  have K00 := Keep.refl h0 []
  have k00 : ∀ t, Db p e below m s₁ 0 #[.val (.ref Ia), .val .null, .unset] [] t → Kb p e below m s₁ #[(.ref Ia), .null] 3 t := fun t k => castTop (Bm m Ia ) k
  obtain ⟨Ye, Ze, Ae, Be, Ue, Ve, Ke, Le, Dc, Wb, Ub, Vb, Bc, Yb, Pb, Rb, Ac, Zb, Lb, Mb, Hb, Gb, Hc, Gc, We, Re, Rc, De, Ab, Za, Ya⟩ := (id hE : EV Z Wa Va Ua Ra Ia Da Ha Ba Ga Aa Ma La Bb)
  obtain ⟨kw_USER_collectionName, Aw_USER_collectionName⟩ := Ab.arv
  obtain ⟨kw_GROUP_collectionName, Aw_GROUP_collectionName⟩ := Za.arv
  obtain ⟨kw_DEVICE_collectionName, Aw_DEVICE_collectionName⟩ := Ya.arv
  have k10 : ∀ t, Db p e below m s₁ 55 #[.val (.ref Ia), .val .null, .unset] [(.int 0)] t → Kb p e below m s₁ #[(.ref Ia), .null] 3 t := by
    intro t k
    refine k00 t ?_
    refine XS.aloadN X00.here hx rfl (hb hby Mi) rfl rfl ?_
    refine XS.aloadN X00.here hx rfl (hb hby Pi) rfl rfl ?_
    refine Jvm.RoadKit.acmp (g := (mkF m 2 #[.val (.ref Ia), .val .null, .unset] [.null, (.ref Ia)])) X00 hx rfl rfl rfl (pc0 := 2) (pc' := 7) (same := false) rfl (hb hby Ri) rfl (decide_eq_false nofun) (by decide) (by decide) ?_
    refine XS.aloadN X00.here hx rfl (hb hby Ui) rfl rfl ?_
    refine X00.instanceofNull hx (g := (mkF m 8 #[.val (.ref Ia), .val .null, .unset] [.null])) rfl rfl (hb hby Vi) _ ?_
    refine XS.ifYes X00.here hx rfl (pc0 := 11) (pc' := 54) rfl (hb hby Gi) rfl ((if0 _ _).trans (teq (by decide : (0 : Int32) = (0 : Int32))).1) (by decide) (by decide) ?_
    refine XS.iconst X00.here hx rfl (hb hby Hi) ?_
    exact k
  obtain ⟨fs, hr, hrun, hended, hW, hsame⟩ := X00.leave (v := some (.int 0)) (fun h => by rw [Bd.returns] at h; cases h)
  refine hNG ⟨_, _, k10 _ ?_, hrun, hended, _, _, rfl, ?_, ⟨_, rfl⟩, hW, hsame.mono (by decide) (by decide)⟩
  · exact retN X00 hx (t := .boolean) Bd.returns (by simp) (hb hby Ii) hr
  · show Vj Z Wa Va Ua Ra Ia Da Ha Ba Ga Aa Ma La Bb h0 n0 _ s₁.heap _
    rw [e00]
    exact ⟨rfl, N00, rfl⟩
theorem Hl (m : MethodId) (x0 : Addr)  : entryFrame m #[(.ref x0), .null] 3 = mkF m 0 #[.val (.ref x0), .val .null, .unset] [] := by first | (simp [entryFrame, mkF, argsToLocals, Value.category]; done) | rfl
def Lj (Z : State) (Wa : Addr) (Va : Addr) (Ua : Addr) (Ra : Addr) (Ia : Addr) (Da : Addr) (Ha : Addr) (Ba : Addr) (Ga : Addr) (Aa : Addr) (Ma : Int32) (La : Value) (Bb : Addr) (h0 : Heap) (n0 : Nat) (v : Option Value) (h : Heap) (L : List Loc) : Prop := v = some (.int 0) ∧ Fr n0 L ∧ h = h0
set_option maxRecDepth 65536 in
set_option maxHeartbeats 40000000 in
theorem Il (l : Launch) (Z : State) (a0 : Array Value) (hw : ∀ d ∈ tables_1, d.before a0 Z = true) (ws : List Jvm.Cond) (Wa : Addr) (Va : Addr) (Ua : Addr) (Ra : Addr) (Ia : Addr) (Da : Addr) (Ha : Addr) (Ba : Addr) (Ga : Addr) (Aa : Addr) (Ma : Int32) (La : Value) (Bb : Addr) (h0 : Heap) (n0 : Nat) (O0 : Old Z n0 h0) (hE : EV Z Wa Va Ua Ra Ia Da Ha Ba Ga Aa Ma La Bb) :
    MetFree l Vc (head1 (Jvm.Cond.code Vc jdk_42_method_66_code 3 (some .boolean) :: ws) ({ frames := 0, cells := 0, slots := 0, locals := 0 } : Room)) (fun a U => a = #[(.ref Ha), .null] ∧ Z.Warmed39 U.vm ∧ U.heap = h0) (fun _ _ _ _ _ => True) (fun _ U o U' => ∃ v L, o = .returned v ∧ Lj Z Wa Va Ua Ra Ia Da Ha Ba Ga Aa Ma La Bb h0 n0 v U'.heap L ∧ FrameEnd U o U' L ({ frames := 0, cells := 0, slots := 0, locals := 0 } : Room).cells ({ frames := 0, cells := 0, slots := 0, locals := 0 } : Room).slots) := by
  refine MetFree.of_bodySF (plainFor_of_name Ai) hisR ?_
  intro p e s m args below meth c s₁ Bd hml0 hP hK
  obtain ⟨rfl, hZ, hh⟩ := hP
  have hx := Bd.exec
  have hby := Bd.bytes
  have hml : c.maxLocals = 3 := hml0
  have hown : s.vm.findClass "java/lang/String" = some m.cls := findClass_of_methodNamed Bd.named
  have hnm := (name_of_methodNamed Bd.named Bd.method).1
  have X00 : Stand p l e ({ frames := 0, cells := 0, slots := 0, locals := 0 } : Room) s m #[(.ref Ha), .null] below meth c s₁ [] 0 0 := Stand.of_body Bd
  have e00 : s₁.heap = h0 := by rw [← hh, Bd.state]; rfl
  have N00 := Fr.nil n0
  refine Classical.byContradiction fun hNG => ?_
  have K00 := Keep.refl h0 []
  have k00 : ∀ t, Db p e below m s₁ 0 #[.val (.ref Ha), .val .null, .unset] [] t → Kb p e below m s₁ #[(.ref Ha), .null] 3 t := fun t k => castTop (Hl m Ha ) k
  obtain ⟨Ye, Ze, Ae, Be, Ue, Ve, Ke, Le, Dc, Wb, Ub, Vb, Bc, Yb, Pb, Rb, Ac, Zb, Lb, Mb, Hb, Gb, Hc, Gc, We, Re, Rc, De, Ab, Za, Ya⟩ := (id hE : EV Z Wa Va Ua Ra Ia Da Ha Ba Ga Aa Ma La Bb)
  obtain ⟨kw_USER_collectionName, Aw_USER_collectionName⟩ := Ab.arv
  obtain ⟨kw_GROUP_collectionName, Aw_GROUP_collectionName⟩ := Za.arv
  obtain ⟨kw_DEVICE_collectionName, Aw_DEVICE_collectionName⟩ := Ya.arv
  have k10 : ∀ t, Db p e below m s₁ 55 #[.val (.ref Ha), .val .null, .unset] [(.int 0)] t → Kb p e below m s₁ #[(.ref Ha), .null] 3 t := by
    intro t k
    refine k00 t ?_
    refine XS.aloadN X00.here hx rfl (hb hby Mi) rfl rfl ?_
    refine XS.aloadN X00.here hx rfl (hb hby Pi) rfl rfl ?_
    refine Jvm.RoadKit.acmp (g := (mkF m 2 #[.val (.ref Ha), .val .null, .unset] [.null, (.ref Ha)])) X00 hx rfl rfl rfl (pc0 := 2) (pc' := 7) (same := false) rfl (hb hby Ri) rfl (decide_eq_false nofun) (by decide) (by decide) ?_
    refine XS.aloadN X00.here hx rfl (hb hby Ui) rfl rfl ?_
    refine X00.instanceofNull hx (g := (mkF m 8 #[.val (.ref Ha), .val .null, .unset] [.null])) rfl rfl (hb hby Vi) _ ?_
    refine XS.ifYes X00.here hx rfl (pc0 := 11) (pc' := 54) rfl (hb hby Gi) rfl ((if0 _ _).trans (teq (by decide : (0 : Int32) = (0 : Int32))).1) (by decide) (by decide) ?_
    refine XS.iconst X00.here hx rfl (hb hby Hi) ?_
    exact k
  obtain ⟨fs, hr, hrun, hended, hW, hsame⟩ := X00.leave (v := some (.int 0)) (fun h => by rw [Bd.returns] at h; cases h)
  refine hNG ⟨_, _, k10 _ ?_, hrun, hended, _, _, rfl, ?_, ⟨_, rfl⟩, hW, hsame.mono (by decide) (by decide)⟩
  · exact retN X00 hx (t := .boolean) Bd.returns (by simp) (hb hby Ii) hr
  · show Lj Z Wa Va Ua Ra Ia Da Ha Ba Ga Aa Ma La Bb h0 n0 _ s₁.heap _
    rw [e00]
    exact ⟨rfl, N00, rfl⟩
theorem Uk (m : MethodId) (x0 : Addr)  : entryFrame m #[(.ref x0), .null] 3 = mkF m 0 #[.val (.ref x0), .val .null, .unset] [] := by first | (simp [entryFrame, mkF, argsToLocals, Value.category]; done) | rfl
def Gj (Z : State) (Wa : Addr) (Va : Addr) (Ua : Addr) (Ra : Addr) (Ia : Addr) (Da : Addr) (Ha : Addr) (Ba : Addr) (Ga : Addr) (Aa : Addr) (Ma : Int32) (La : Value) (Bb : Addr) (h0 : Heap) (n0 : Nat) (v : Option Value) (h : Heap) (L : List Loc) : Prop := v = some (.int 0) ∧ Fr n0 L ∧ h = h0
set_option maxRecDepth 65536 in
set_option maxHeartbeats 40000000 in
theorem Vk (l : Launch) (Z : State) (a0 : Array Value) (hw : ∀ d ∈ tables_1, d.before a0 Z = true) (ws : List Jvm.Cond) (Wa : Addr) (Va : Addr) (Ua : Addr) (Ra : Addr) (Ia : Addr) (Da : Addr) (Ha : Addr) (Ba : Addr) (Ga : Addr) (Aa : Addr) (Ma : Int32) (La : Value) (Bb : Addr) (h0 : Heap) (n0 : Nat) (O0 : Old Z n0 h0) (hE : EV Z Wa Va Ua Ra Ia Da Ha Ba Ga Aa Ma La Bb) :
    MetFree l Vc (head1 (Jvm.Cond.code Vc jdk_42_method_66_code 3 (some .boolean) :: ws) ({ frames := 0, cells := 0, slots := 0, locals := 0 } : Room)) (fun a U => a = #[(.ref Ga), .null] ∧ Z.Warmed39 U.vm ∧ U.heap = h0) (fun _ _ _ _ _ => True) (fun _ U o U' => ∃ v L, o = .returned v ∧ Gj Z Wa Va Ua Ra Ia Da Ha Ba Ga Aa Ma La Bb h0 n0 v U'.heap L ∧ FrameEnd U o U' L ({ frames := 0, cells := 0, slots := 0, locals := 0 } : Room).cells ({ frames := 0, cells := 0, slots := 0, locals := 0 } : Room).slots) := by
  refine MetFree.of_bodySF (plainFor_of_name Ai) hisR ?_
  intro p e s m args below meth c s₁ Bd hml0 hP hK
  obtain ⟨rfl, hZ, hh⟩ := hP
  have hx := Bd.exec
  have hby := Bd.bytes
  have hml : c.maxLocals = 3 := hml0
  have hown : s.vm.findClass "java/lang/String" = some m.cls := findClass_of_methodNamed Bd.named
  have hnm := (name_of_methodNamed Bd.named Bd.method).1
  have X00 : Stand p l e ({ frames := 0, cells := 0, slots := 0, locals := 0 } : Room) s m #[(.ref Ga), .null] below meth c s₁ [] 0 0 := Stand.of_body Bd
  have e00 : s₁.heap = h0 := by rw [← hh, Bd.state]; rfl
  have N00 := Fr.nil n0
  refine Classical.byContradiction fun hNG => ?_
  have K00 := Keep.refl h0 []
  have k00 : ∀ t, Db p e below m s₁ 0 #[.val (.ref Ga), .val .null, .unset] [] t → Kb p e below m s₁ #[(.ref Ga), .null] 3 t := fun t k => castTop (Uk m Ga ) k
  obtain ⟨Ye, Ze, Ae, Be, Ue, Ve, Ke, Le, Dc, Wb, Ub, Vb, Bc, Yb, Pb, Rb, Ac, Zb, Lb, Mb, Hb, Gb, Hc, Gc, We, Re, Rc, De, Ab, Za, Ya⟩ := (id hE : EV Z Wa Va Ua Ra Ia Da Ha Ba Ga Aa Ma La Bb)
  obtain ⟨kw_USER_collectionName, Aw_USER_collectionName⟩ := Ab.arv
  obtain ⟨kw_GROUP_collectionName, Aw_GROUP_collectionName⟩ := Za.arv
  obtain ⟨kw_DEVICE_collectionName, Aw_DEVICE_collectionName⟩ := Ya.arv
  have k10 : ∀ t, Db p e below m s₁ 55 #[.val (.ref Ga), .val .null, .unset] [(.int 0)] t → Kb p e below m s₁ #[(.ref Ga), .null] 3 t := by
    intro t k
    refine k00 t ?_
    refine XS.aloadN X00.here hx rfl (hb hby Mi) rfl rfl ?_
    refine XS.aloadN X00.here hx rfl (hb hby Pi) rfl rfl ?_
    refine Jvm.RoadKit.acmp (g := (mkF m 2 #[.val (.ref Ga), .val .null, .unset] [.null, (.ref Ga)])) X00 hx rfl rfl rfl (pc0 := 2) (pc' := 7) (same := false) rfl (hb hby Ri) rfl (decide_eq_false nofun) (by decide) (by decide) ?_
    refine XS.aloadN X00.here hx rfl (hb hby Ui) rfl rfl ?_
    refine X00.instanceofNull hx (g := (mkF m 8 #[.val (.ref Ga), .val .null, .unset] [.null])) rfl rfl (hb hby Vi) _ ?_
    refine XS.ifYes X00.here hx rfl (pc0 := 11) (pc' := 54) rfl (hb hby Gi) rfl ((if0 _ _).trans (teq (by decide : (0 : Int32) = (0 : Int32))).1) (by decide) (by decide) ?_
    refine XS.iconst X00.here hx rfl (hb hby Hi) ?_
    exact k
  obtain ⟨fs, hr, hrun, hended, hW, hsame⟩ := X00.leave (v := some (.int 0)) (fun h => by rw [Bd.returns] at h; cases h)
  refine hNG ⟨_, _, k10 _ ?_, hrun, hended, _, _, rfl, ?_, ⟨_, rfl⟩, hW, hsame.mono (by decide) (by decide)⟩
  · exact retN X00 hx (t := .boolean) Bd.returns (by simp) (hb hby Ii) hr
  · show Gj Z Wa Va Ua Ra Ia Da Ha Ba Ga Aa Ma La Bb h0 n0 _ s₁.heap _
    rw [e00]
    exact ⟨rfl, N00, rfl⟩
theorem ef_emp (m : MethodId)   : entryFrame m #[] 1 = mkF m 0 #[.unset] [] := by first | (simp [entryFrame, mkF, argsToLocals, Value.category]; done) | rfl
theorem Ko : decode jdk_32_method_1_code 0 = .ok (.getstatic 1, 3) := by decide +kernel
theorem Lo : decode jdk_32_method_1_code 3 = .ok (.astore_n 0, 1) := by decide +kernel
theorem Mo : decode jdk_32_method_1_code 4 = .ok (.aload_n 0, 1) := by decide +kernel
theorem Po : decode jdk_32_method_1_code 5 = .ok (.areturn, 1) := by decide +kernel
abbrev K7 : MethodName := ⟨"java/util/Optional", "empty", "()Ljava/util/Optional;"⟩
def Q_emp (Z : State) (Wa : Addr) (Va : Addr) (Ua : Addr) (Ra : Addr) (Ia : Addr) (Da : Addr) (Ha : Addr) (Ba : Addr) (Ga : Addr) (Aa : Addr) (Ma : Int32) (La : Value) (Bb : Addr) (h0 : Heap) (n0 : Nat) (v : Option Value) (h : Heap) (L : List Loc) : Prop := v = some (.ref Bb) ∧ Fr n0 L ∧ h = h0
set_option maxRecDepth 65536 in
set_option maxHeartbeats 40000000 in
theorem K9 (l : Launch) (Z : State) (a0 : Array Value) (hw : ∀ d ∈ tables_1, d.before a0 Z = true) (ws : List Jvm.Cond) (Wa : Addr) (Va : Addr) (Ua : Addr) (Ra : Addr) (Ia : Addr) (Da : Addr) (Ha : Addr) (Ba : Addr) (Ga : Addr) (Aa : Addr) (Ma : Int32) (La : Value) (Bb : Addr) (h0 : Heap) (n0 : Nat) (O0 : Old Z n0 h0) (hE : EV Z Wa Va Ua Ra Ia Da Ha Ba Ga Aa Ma La Bb) :
    MetFree l K7 (head1 (Jvm.Cond.code K7 jdk_32_method_1_code 1 (some (.object "java/util/Optional")) :: ws) ({ frames := 0, cells := 0, slots := 0, locals := 0 } : Room)) (fun a U => a = #[] ∧ Z.Warmed39 U.vm ∧ U.heap = h0) (fun _ _ _ _ _ => True) (fun _ U o U' => ∃ v L, o = .returned v ∧ Q_emp Z Wa Va Ua Ra Ia Da Ha Ba Ga Aa Ma La Bb h0 n0 v U'.heap L ∧ FrameEnd U o U' L ({ frames := 0, cells := 0, slots := 0, locals := 0 } : Room).cells ({ frames := 0, cells := 0, slots := 0, locals := 0 } : Room).slots) := by
  refine MetFree.of_bodySF (plainFor_of_name Lh) hisR ?_
  intro p e s m args below meth c s₁ Bd hml0 hP hK
  obtain ⟨rfl, hZ, hh⟩ := hP
  have hx := Bd.exec
  have hby := Bd.bytes
  have hml : c.maxLocals = 1 := hml0
  have hown : s.vm.findClass "java/util/Optional" = some m.cls := findClass_of_methodNamed Bd.named
  have hnm := (name_of_methodNamed Bd.named Bd.method).1
  have X00 : Stand p l e ({ frames := 0, cells := 0, slots := 0, locals := 0 } : Room) s m #[] below meth c s₁ [] 0 0 := Stand.of_body Bd
  have e00 : s₁.heap = h0 := by rw [← hh, Bd.state]; rfl
  have N00 := Fr.nil n0
  refine Classical.byContradiction fun hNG => ?_
  have K00 := Keep.refl h0 []
  have k00 : ∀ t, Db p e below m s₁ 0 #[.unset] [] t → Kb p e below m s₁ #[] 1 t := fun t k => castTop (ef_emp m  ) k
  obtain ⟨Ye, Ze, Ae, Be, Ue, Ve, Ke, Le, Dc, Wb, Ub, Vb, Bc, Yb, Pb, Rb, Ac, Zb, Lb, Mb, Hb, Gb, Hc, Gc, We, Re, Rc, De, Ab, Za, Ya⟩ := (id hE : EV Z Wa Va Ua Ra Ia Da Ha Ba Ga Aa Ma La Bb)
  obtain ⟨kw_USER_collectionName, Aw_USER_collectionName⟩ := Ab.arv
  obtain ⟨kw_GROUP_collectionName, Aw_GROUP_collectionName⟩ := Za.arv
  obtain ⟨kw_DEVICE_collectionName, Aw_DEVICE_collectionName⟩ := Ya.arv
  obtain ⟨T10, X10, e10, st10⟩ := getS2 X00 hx hZ hown (host := "") (Or.inl (Ka hw 138 rfl)) Via.refl e00 (We.ext O0.2) (g := (mkF m 0 #[.unset] [])) rfl (hb hby Ko)
  have k11 : ∀ t, Db p e below m T10 5 #[.val (.ref Bb)] [(.ref Bb)] t → Kb p e below m s₁ #[] 1 t := by
    intro t k
    refine k00 t ?_
    refine st10 _ ?_
    refine XS.astoreN X10.here hx rfl (hb hby Lo) rfl rfl (l' := #[.val (.ref Bb)]) rfl ?_
    refine XS.aloadN X10.here hx rfl (hb hby Mo) rfl rfl ?_
    exact k
  obtain ⟨fs, hr, hrun, hended, hW, hsame⟩ := X10.leave (v := some (.ref Bb)) (fun h => by rw [Bd.returns] at h; cases h)
  refine hNG ⟨_, _, k11 _ ?_, hrun, hended, _, _, rfl, ?_, ⟨_, rfl⟩, hW, hsame.mono (by decide) (by decide)⟩
  · exact retOut X10 hx (t := (.object "java/util/Optional")) Bd.returns rfl (Or.inr (Or.inr (Or.inr (Or.inr ⟨rfl, rfl, rfl⟩)))) (hb hby Po) hr
  · show Q_emp Z Wa Va Ua Ra Ia Da Ha Ba Ga Aa Ma La Bb h0 n0 _ T10.heap _
    rw [e10]
    exact ⟨rfl, N00, rfl⟩
theorem Zaa (m : MethodId) (x0 : Addr)  : entryFrame m #[(.ref x0)] 5 = mkF m 0 #[.val (.ref x0), .unset, .unset, .unset, .unset] [] := by first | (simp [entryFrame, mkF, argsToLocals, Value.category]; done) | rfl
theorem Wg : decode prog_3_method_6_code 0 = .ok (.invokestatic 39, 3) := by decide +kernel
theorem Pc : parseMethodDescriptor "()[Lcom/example/entitlement_ledger/entitlementledger/model/AssigneeKind;" = some ⟨[], some (.array (.object "com/example/entitlement_ledger/entitlementledger/model/AssigneeKind"))⟩ := by decide +kernel
theorem Yg : decode prog_3_method_6_code 3 = .ok (.astore_n 1, 1) := by decide +kernel
theorem Zg : decode prog_3_method_6_code 4 = .ok (.aload_n 1, 1) := by decide +kernel
theorem Ah : decode prog_3_method_6_code 5 = .ok (.arraylength, 1) := by decide +kernel
theorem Bh : decode prog_3_method_6_code 6 = .ok (.istore_n 2, 1) := by decide +kernel
theorem Dh : decode prog_3_method_6_code 7 = .ok (.iconst 0, 1) := by decide +kernel
theorem Gh : decode prog_3_method_6_code 8 = .ok (.istore_n 3, 1) := by decide +kernel
theorem Ad : decode prog_3_method_6_code 9 = .ok (.iload_n 3, 1) := by decide +kernel
theorem Wc : decode prog_3_method_6_code 10 = .ok (.iload_n 2, 1) := by decide +kernel
theorem Yc : decode prog_3_method_6_code 11 = .ok (.if_icmp .ge 32, 3) := by decide +kernel
theorem Gd : decode prog_3_method_6_code 14 = .ok (.aload_n 1, 1) := by decide +kernel
theorem Hd : decode prog_3_method_6_code 15 = .ok (.iload_n 3, 1) := by decide +kernel
theorem Id : decode prog_3_method_6_code 16 = .ok (.aaload, 1) := by decide +kernel
theorem Kd : decode prog_3_method_6_code 17 = .ok (.astore 4, 2) := by decide +kernel
theorem Ld : decode prog_3_method_6_code 19 = .ok (.aload 4, 2) := by decide +kernel
theorem Md : decode prog_3_method_6_code 21 = .ok (.getfield 36, 3) := by decide +kernel
theorem Pd : decode prog_3_method_6_code 24 = .ok (.aload_n 0, 1) := by decide +kernel
theorem Rd : decode prog_3_method_6_code 25 = .ok (.invokevirtual 43, 3) := by decide +kernel
theorem Ic : parseMethodDescriptor "(Ljava/lang/Object;)Z" = some ⟨[(.object "java/lang/Object")], some .boolean⟩ := by decide +kernel
theorem Ud : decode prog_3_method_6_code 28 = .ok (.ifCond .eq 9, 3) := by decide +kernel
theorem Wi : decode prog_3_method_6_code 31 = .ok (.aload 4, 2) := by decide +kernel
theorem Yi : decode prog_3_method_6_code 33 = .ok (.invokestatic 49, 3) := by decide +kernel
theorem Gf : parseMethodDescriptor "(Ljava/lang/Object;)Ljava/util/Optional;" = some ⟨[(.object "java/lang/Object")], some (.object "java/util/Optional")⟩ := by decide +kernel
theorem Zi : decode prog_3_method_6_code 36 = .ok (.areturn, 1) := by decide +kernel
abbrev Vg : MethodName := ⟨"com/example/entitlement_ledger/entitlementledger/model/AssigneeKind", "ofCollectionName", "(Ljava/lang/String;)Ljava/util/Optional;"⟩
def L9 (Z : State) (s0 : Addr) (v0 : Addr) (kv : ClassId) (z0 : Int32) (vs0 : List Value) (cs0 : List Int32) (Wa : Addr) (Va : Addr) (Ua : Addr) (Ra : Addr) (Ia : Addr) (Da : Addr) (Ha : Addr) (Ba : Addr) (Ga : Addr) (Aa : Addr) (Ma : Int32) (La : Value) (Bb : Addr) (h0 : Heap) (n0 : Nat) (v : Option Value) (h : Heap) (L : List Loc) : Prop := ∃ (b : Addr), v = some (.ref b) ∧ Fr n0 L ∧ Old Z n0 h ∧ Keep h0 h [] ∧ n0 ≤ b ∧ h0.size ≤ b ∧ Exa Z h b "java/util/Optional" ∧ Fld Z h b "java/util/Optional" "value" "Ljava/lang/Object;" (.ref Wa)
set_option maxRecDepth 65536 in
set_option maxHeartbeats 40000000 in
theorem Y8 (l : Launch) (Z : State) (a0 : Array Value) (hw : ∀ d ∈ tables_1, d.before a0 Z = true) (ws : List Jvm.Cond) (s0 : Addr) (v0 : Addr) (kv : ClassId) (z0 : Int32) (vs0 : List Value) (cs0 : List Int32) (Wa : Addr) (Va : Addr) (Ua : Addr) (Ra : Addr) (Ia : Addr) (Da : Addr) (Ha : Addr) (Ba : Addr) (Ga : Addr) (Aa : Addr) (Ma : Int32) (La : Value) (Bb : Addr) (h0 : Heap) (n0 : Nat) (O0 : Old Z n0 h0) (hE : EV Z Wa Va Ua Ra Ia Da Ha Ba Ga Aa Ma La Bb) (P0 : Exa Z h0 s0 "java/lang/String") (P1 : Fld Z h0 s0 "java/lang/String" "coder" "B" (.int 0)) (P2 : Fld Z h0 s0 "java/lang/String" "value" "[B" (.ref v0)) (P3 : Arv Z h0 v0 kv .byte z0 vs0 (.int 0)) (hcd : StrChars.Road.CodA cs0 0 z0 vs0) (hbd : ∀ c ∈ cs0, ¬ c < 0 ∧ ¬ (255 : Int32) < c) (hl2 : cs0.length ≤ 4000) (m0 : cs0 = ([(117 : Int32), (115 : Int32), (101 : Int32), (114 : Int32), (115 : Int32)] : List Int32)) :
    MetFree l Vg (head1 (Jvm.Cond.code Vg prog_3_method_6_code 5 (some (.object "java/util/Optional")) :: ws) ({ frames := 3, cells := 2, slots := 4, locals := 38 } : Room)) (fun a U => a = #[(.ref s0)] ∧ Z.Warmed39 U.vm ∧ U.heap = h0) (fun _ _ _ _ _ => True) (fun _ U o U' => ∃ v L, o = .returned v ∧ L9 Z s0 v0 kv z0 vs0 cs0 Wa Va Ua Ra Ia Da Ha Ba Ga Aa Ma La Bb h0 n0 v U'.heap L ∧ FrameEnd U o U' L ({ frames := 3, cells := 2, slots := 4, locals := 38 } : Room).cells ({ frames := 3, cells := 2, slots := 4, locals := 38 } : Room).slots) := by
  refine MetFree.of_bodySF (plainFor_of_name Lc) hisR ?_
  intro p e s m args below meth c s₁ Bd hml0 hP hK
  obtain ⟨rfl, hZ, hh⟩ := hP
  have hx := Bd.exec
  have hby := Bd.bytes
  have hml : c.maxLocals = 5 := hml0
  have hown : s.vm.findClass "com/example/entitlement_ledger/entitlementledger/model/AssigneeKind" = some m.cls := findClass_of_methodNamed Bd.named
  have hnm := (name_of_methodNamed Bd.named Bd.method).1
  have X00 : Stand p l e ({ frames := 3, cells := 2, slots := 4, locals := 38 } : Room) s m #[(.ref s0)] below meth c s₁ [] 0 0 := Stand.of_body Bd
  have e00 : s₁.heap = h0 := by rw [← hh, Bd.state]; rfl
  have N00 := Fr.nil n0
  refine Classical.byContradiction fun hNG => ?_
  have K00 := Keep.refl h0 []
  have k00 : ∀ t, Db p e below m s₁ 0 #[.val (.ref s0), .unset, .unset, .unset, .unset] [] t → Kb p e below m s₁ #[(.ref s0)] 5 t := fun t k => castTop (Zaa m s0 ) k
  obtain ⟨Ye, Ze, Ae, Be, Ue, Ve, Ke, Le, Dc, Wb, Ub, Vb, Bc, Yb, Pb, Rb, Ac, Zb, Lb, Mb, Hb, Gb, Hc, Gc, We, Re, Rc, De, Ab, Za, Ya⟩ := (id hE : EV Z Wa Va Ua Ra Ia Da Ha Ba Ga Aa Ma La Bb)
  obtain ⟨kw_USER_collectionName, Aw_USER_collectionName⟩ := Ab.arv
  obtain ⟨kw_GROUP_collectionName, Aw_GROUP_collectionName⟩ := Za.arv
  obtain ⟨kw_DEVICE_collectionName, Aw_DEVICE_collectionName⟩ := Ya.arv
  obtain ⟨_, _, ⟨T10, L10, k10, n10⟩, -, X10, ⟨Lc10, hQ10, l10, y10, z10⟩, st10⟩ := Jvm.LawKit.callS X00 hx (y := Mn) hown (mvT hZ (Ka hw 88 rfl)) (mvT hZ (Ka hw 89 rfl)) (mvT hZ (Ka hw 83 rfl)) (mvT hZ (Ka hw 90 rfl)) (by decide) (backOf (W := 0) (Vo l Z a0 hw []  _ _ _ _ _ _ _ _ _ _ _ _ _ h0 n0 O0 hE  ) hZ (Ka hw 90 rfl) (Ka hw 83 rfl) (by decide) (by decide)) (g := (mkF m 0 #[.val (.ref s0), .unset, .unset, .unset, .unset] [])) rfl (by rw [hml]; rfl) (argsL := []) (rest := []) (lenOf Pc rfl) rfl (by show 2 * 0 + _ ≤ _; exact Nat.le_of_eq rfl) (hb hby Wg) (fun _ _ => ⟨rfl, e00, (by decide : 0 + 1 ≤ _), (by decide : 0 + 3 ≤ _)⟩)
  dsimp only [Pt.U, Pt.locs, Pt.cells, Pt.slots] at X10 l10 y10 z10 st10 hQ10
  subst l10 y10 z10
  obtain ⟨b10, k10, rfl, N10q, O10, Kc10, g_b10, gs_b10, F10_0⟩ := hQ10
  have N10 := Fr.app N00 N10q
  have K10 := K00.trans Kc10 (fun x hx => nomatch hx)
  have s_b10 := Nat.le_trans K00.1 gs_b10
  have lt_b10 := F10_0.lt
  obtain ⟨cl11, Ar11, q11, Sz11, Nn11, Hs11, Gf11⟩ := id F10_0
  obtain ⟨cl12, Ar12, q12, Sz12, Nn12, Hs12, Gf12⟩ := id F10_0
  have hin13 : ¬ ((0 : Int32) < 0 ∨ cl12.slots.size ≤ ((0 : Int32)).toNatClampNeg) := inb_of Sz12 ⟨by decide, by decide⟩
  have hat14 : cl12.slots[((0 : Int32)).toNatClampNeg]? = some (.ref Wa) := Hs12.at hin13 rfl
  obtain ⟨T15, X15, e15, st15⟩ := getF X10 hx hZ hown (host := "") (Or.inl (Ka hw 105 rfl)) Via.refl rfl (Dc.ext O10.2) (g := (mkF m 21 #[.val (.ref s0), .val (.ref b10), .val (.int 3), .val (.int 0), .val (.ref Wa)] [(.ref Wa)])) rfl rfl (hb hby Md)
  have f16 := (P0.keep Kc10)
  have f17 := (P2.keep Kc10 List.not_mem_nil)
  have f18 := (P1.keep Kc10 List.not_mem_nil)
  have f19 := (P3.keep Kc10 List.not_mem_nil)
  obtain ⟨cq20, kq20, q20a, q20b, q20c⟩ := isOf hZ e15 (Wb.ext O10.2)
  obtain ⟨_, _, ⟨T20, L20, k20, n20⟩, -, X20, ⟨Lc20, hQ20, l20, y20, z20⟩, st20⟩ := X15.virtualBack hx (y := Vc) (z := Vc) hown (mvT hZ (Ka hw 107 rfl)) (mvT hZ (Ka hw 74 rfl)) (notFace_of_selects (args := #[]) (mvT hZ (Ka hw 76 rfl))) (mvT hZ (Ka hw 76 rfl)) (mvT hZ (Ka hw 75 rfl)) (by decide) (StrChars.Road.eqW (W := 0) hZ (Ig hw) (kI := 4) (Ka hw 2 rfl) (Wb.ext O10.2) (Vb.ext O10.2) (Ub.ext O10.2) (Aw_USER_collectionName.ext O10.2) Rh (Zc _ Hh) (Nat.le_of_ble_eq_true rfl) f16 f17 f18 f19 hcd (Zc _ hbd) hl2 (Hb.ext O10.2) Gb (by decide) (by decide)) q20a q20c (g := (mkF m 25 #[.val (.ref s0), .val (.ref b10), .val (.int 3), .val (.int 0), .val (.ref Wa)] [(.ref s0), (.ref Ia)])) rfl (by rw [hml]; rfl) (Steps.refl _) (argsL := [(.ref s0)]) (rest := []) (lenOf Ic rfl) rfl (by show 2 * 0 + _ ≤ _; exact Nat.le_of_eq rfl) (hb hby Rd) (fun _ _ => ⟨rfl, e15, (by decide : 1 + 0 ≤ _), (by decide : 3 + 0 ≤ _)⟩)
  dsimp only [Pt.U, Pt.locs, Pt.cells, Pt.slots] at X20 l20 y20 z20 st20 hQ20
  subst l20 y20 z20
  obtain ⟨hcase20, rfl, hp20⟩ := hQ20
  have N20q : Fr n0 ([] : List Loc) := Fr.nil n0
  have hv20 : _ = some (Value.int 1) := hcase20.elim (fun q => q.1) (fun q => absurd m0.symm q.2)
  subst hv20
  have N20 := Fr.app N10 N20q
  obtain ⟨_, _, ⟨T21, L21, k21, n21⟩, -, X21, ⟨Lc21, hQ21, l21, y21, z21⟩, st21⟩ := Jvm.LawKit.callS X20 hx (y := B7) hown (mvT hZ (Ka hw 108 rfl)) (mvT hZ (Ka hw 109 rfl)) (mvT hZ (Ka hw 110 rfl)) (mvT hZ (Ka hw 111 rfl)) (by decide) (backOf (W := 0) (H9 l Z a0 hw [] Wa _ _ _ _ _ _ _ _ _ _ _ _ _ T10.heap n0 O10 hE  ) hZ (Ka hw 111 rfl) (Ka hw 110 rfl) (by decide) (by decide)) (g := (mkF m 33 #[.val (.ref s0), .val (.ref b10), .val (.int 3), .val (.int 0), .val (.ref Wa)] [(.ref Wa)])) rfl (by rw [hml]; rfl) (argsL := [(.ref Wa)]) (rest := []) (lenOf Gf rfl) rfl (by show 2 * 0 + _ ≤ _; exact Nat.le_of_eq rfl) (hb hby Yi) (fun _ _ => ⟨rfl, hp20, (by decide : 1 + 1 ≤ _), (by decide : 3 + 1 ≤ _)⟩)
  dsimp only [Pt.U, Pt.locs, Pt.cells, Pt.slots] at X21 l21 y21 z21 st21 hQ21
  subst l21 y21 z21
  obtain ⟨b21, rfl, N21q, O21, Kc21, g_b21, gs_b21, F21_0, F21_1⟩ := hQ21
  have N21 := Fr.app N20 N21q
  have K21 := K10.trans Kc21 (fun x hx => nomatch hx)
  have s_b21 := Nat.le_trans K10.1 gs_b21
  have lt_b21 := F21_0.lt
  have k22 : ∀ t, Db p e below m T21 36 #[.val (.ref s0), .val (.ref b10), .val (.int 3), .val (.int 0), .val (.ref Wa)] [(.ref b21)] t → Kb p e below m s₁ #[(.ref s0)] 5 t := by
    intro t k
    refine k00 t ?_
    refine st10 _ ?_
    refine XS.astoreN X10.here hx rfl (hb hby Yg) rfl rfl (l' := #[.val (.ref s0), .val (.ref b10), .unset, .unset, .unset]) rfl ?_
    refine XS.aloadN X10.here hx rfl (hb hby Zg) rfl rfl ?_
    refine X10.arraylength hx (by exact Ar11.1) (State.isArrayOf_alike hZ.alike Ar11.2.1) (g := (mkF m 5 #[.val (.ref s0), .val (.ref b10), .unset, .unset, .unset] [(.ref b10)])) rfl rfl (hb hby Ah) _ ?_
    rw [len_of Sz11 Nn11]
    refine XS.istoreN X10.here hx rfl (hb hby Bh) rfl (l' := #[.val (.ref s0), .val (.ref b10), .val (.int 3), .unset, .unset]) rfl ?_
    refine XS.iconst X10.here hx rfl (hb hby Dh) ?_
    refine XS.istoreN X10.here hx rfl (hb hby Gh) rfl (l' := #[.val (.ref s0), .val (.ref b10), .val (.int 3), .val (.int 0), .unset]) rfl ?_
    refine XS.iloadN X10.here hx rfl (hb hby Ad) rfl ?_
    refine XS.iloadN X10.here hx rfl (hb hby Wc) rfl ?_
    refine XS.icmpNo X10.here hx rfl (hb hby Yc) rfl (tlt (by decide : (0 : Int32) < (3 : Int32))).2.1 ?_
    refine XS.aloadN X10.here hx rfl (hb hby Gd) rfl rfl ?_
    refine XS.iloadN X10.here hx rfl (hb hby Hd) rfl ?_
    show Db p e below m T10 16 #[.val (.ref s0), .val (.ref b10), .val (.int 3), .val (.int 0), .unset] [(.int 0), (.ref b10)] t
    refine X10.aaload hx (j := (0 : Int32)) (v := (.ref Wa)) (by exact Ar12.1) (State.isArrayOf_alike hZ.alike Ar12.2.1) rfl Ar12.2.2 hin13 hat14 (g := (mkF m 16 #[.val (.ref s0), .val (.ref b10), .val (.int 3), .val (.int 0), .unset] [(.int 0), (.ref b10)])) rfl rfl (hb hby Id) _ ?_
    refine XS.astore X10.here hx rfl (hb hby Kd) rfl rfl (l' := #[.val (.ref s0), .val (.ref b10), .val (.int 3), .val (.int 0), .val (.ref Wa)]) rfl ?_
    refine XS.aload X10.here hx rfl (hb hby Ld) rfl rfl ?_
    refine st15 _ ?_
    refine XS.aloadN X15.here hx rfl (hb hby Pd) rfl rfl ?_
    refine st20.trans ?_
    refine XS.ifNo X20.here hx rfl (hb hby Ud) rfl ((if0 _ _).trans (feq (by decide : ¬ ((1 : Int32) = (0 : Int32)))).1) ?_
    refine XS.aload X20.here hx rfl (hb hby Wi) rfl rfl ?_
    refine st21 _ ?_
    exact k
  obtain ⟨fs, hr, hrun, hended, hW, hsame⟩ := X21.leave (v := some (.ref b21)) (fun h => by rw [Bd.returns] at h; cases h)
  refine hNG ⟨_, _, k22 _ ?_, hrun, hended, _, _, rfl, ?_, ⟨_, rfl⟩, hW, hsame.mono (by decide) (by decide)⟩
  · exact retOut X21 hx (t := (.object "java/util/Optional")) Bd.returns rfl (Or.inr (Or.inr (Or.inr (Or.inr ⟨rfl, rfl, rfl⟩)))) (hb hby Zi) hr
  · show L9 Z s0 v0 kv z0 vs0 cs0 Wa Va Ua Ra Ia Da Ha Ba Ga Aa Ma La Bb h0 n0 _ T21.heap _
    exact ⟨b21, rfl, N21, O21, K21, g_b21, s_b21, F21_0, F21_1⟩
theorem Aba (m : MethodId) (x0 : Addr)  : entryFrame m #[(.ref x0)] 5 = mkF m 0 #[.val (.ref x0), .unset, .unset, .unset, .unset] [] := by first | (simp [entryFrame, mkF, argsToLocals, Value.category]; done) | rfl
theorem He : decode prog_3_method_6_code 37 = .ok (.iinc 3 1, 3) := by decide +kernel
theorem Ie : decode prog_3_method_6_code 40 = .ok (.goto (-31), 3) := by decide +kernel
def M9 (Z : State) (s0 : Addr) (v0 : Addr) (kv : ClassId) (z0 : Int32) (vs0 : List Value) (cs0 : List Int32) (Wa : Addr) (Va : Addr) (Ua : Addr) (Ra : Addr) (Ia : Addr) (Da : Addr) (Ha : Addr) (Ba : Addr) (Ga : Addr) (Aa : Addr) (Ma : Int32) (La : Value) (Bb : Addr) (h0 : Heap) (n0 : Nat) (v : Option Value) (h : Heap) (L : List Loc) : Prop := ∃ (b : Addr), v = some (.ref b) ∧ Fr n0 L ∧ Old Z n0 h ∧ Keep h0 h [] ∧ n0 ≤ b ∧ h0.size ≤ b ∧ Exa Z h b "java/util/Optional" ∧ Fld Z h b "java/util/Optional" "value" "Ljava/lang/Object;" (.ref Ua)
set_option maxRecDepth 65536 in
set_option maxHeartbeats 40000000 in
theorem Z8 (l : Launch) (Z : State) (a0 : Array Value) (hw : ∀ d ∈ tables_1, d.before a0 Z = true) (ws : List Jvm.Cond) (s0 : Addr) (v0 : Addr) (kv : ClassId) (z0 : Int32) (vs0 : List Value) (cs0 : List Int32) (Wa : Addr) (Va : Addr) (Ua : Addr) (Ra : Addr) (Ia : Addr) (Da : Addr) (Ha : Addr) (Ba : Addr) (Ga : Addr) (Aa : Addr) (Ma : Int32) (La : Value) (Bb : Addr) (h0 : Heap) (n0 : Nat) (O0 : Old Z n0 h0) (hE : EV Z Wa Va Ua Ra Ia Da Ha Ba Ga Aa Ma La Bb) (P0 : Exa Z h0 s0 "java/lang/String") (P1 : Fld Z h0 s0 "java/lang/String" "coder" "B" (.int 0)) (P2 : Fld Z h0 s0 "java/lang/String" "value" "[B" (.ref v0)) (P3 : Arv Z h0 v0 kv .byte z0 vs0 (.int 0)) (hcd : StrChars.Road.CodA cs0 0 z0 vs0) (hbd : ∀ c ∈ cs0, ¬ c < 0 ∧ ¬ (255 : Int32) < c) (hl2 : cs0.length ≤ 4000) (m0 : ¬ (cs0 = ([(117 : Int32), (115 : Int32), (101 : Int32), (114 : Int32), (115 : Int32)] : List Int32))) (m1 : cs0 = ([(103 : Int32), (114 : Int32), (111 : Int32), (117 : Int32), (112 : Int32), (115 : Int32)] : List Int32)) :
    MetFree l Vg (head1 (Jvm.Cond.code Vg prog_3_method_6_code 5 (some (.object "java/util/Optional")) :: ws) ({ frames := 3, cells := 2, slots := 4, locals := 38 } : Room)) (fun a U => a = #[(.ref s0)] ∧ Z.Warmed39 U.vm ∧ U.heap = h0) (fun _ _ _ _ _ => True) (fun _ U o U' => ∃ v L, o = .returned v ∧ M9 Z s0 v0 kv z0 vs0 cs0 Wa Va Ua Ra Ia Da Ha Ba Ga Aa Ma La Bb h0 n0 v U'.heap L ∧ FrameEnd U o U' L ({ frames := 3, cells := 2, slots := 4, locals := 38 } : Room).cells ({ frames := 3, cells := 2, slots := 4, locals := 38 } : Room).slots) := by
  refine MetFree.of_bodySF (plainFor_of_name Lc) hisR ?_
  intro p e s m args below meth c s₁ Bd hml0 hP hK
  obtain ⟨rfl, hZ, hh⟩ := hP
  have hx := Bd.exec
  have hby := Bd.bytes
  have hml : c.maxLocals = 5 := hml0
  have hown : s.vm.findClass "com/example/entitlement_ledger/entitlementledger/model/AssigneeKind" = some m.cls := findClass_of_methodNamed Bd.named
  have hnm := (name_of_methodNamed Bd.named Bd.method).1
  have X00 : Stand p l e ({ frames := 3, cells := 2, slots := 4, locals := 38 } : Room) s m #[(.ref s0)] below meth c s₁ [] 0 0 := Stand.of_body Bd
  have e00 : s₁.heap = h0 := by rw [← hh, Bd.state]; rfl
  have N00 := Fr.nil n0
  refine Classical.byContradiction fun hNG => ?_
  have K00 := Keep.refl h0 []
  have k00 : ∀ t, Db p e below m s₁ 0 #[.val (.ref s0), .unset, .unset, .unset, .unset] [] t → Kb p e below m s₁ #[(.ref s0)] 5 t := fun t k => castTop (Aba m s0 ) k
  obtain ⟨Ye, Ze, Ae, Be, Ue, Ve, Ke, Le, Dc, Wb, Ub, Vb, Bc, Yb, Pb, Rb, Ac, Zb, Lb, Mb, Hb, Gb, Hc, Gc, We, Re, Rc, De, Ab, Za, Ya⟩ := (id hE : EV Z Wa Va Ua Ra Ia Da Ha Ba Ga Aa Ma La Bb)
  obtain ⟨kw_USER_collectionName, Aw_USER_collectionName⟩ := Ab.arv
  obtain ⟨kw_GROUP_collectionName, Aw_GROUP_collectionName⟩ := Za.arv
  obtain ⟨kw_DEVICE_collectionName, Aw_DEVICE_collectionName⟩ := Ya.arv
  obtain ⟨_, _, ⟨T10, L10, k10, n10⟩, -, X10, ⟨Lc10, hQ10, l10, y10, z10⟩, st10⟩ := Jvm.LawKit.callS X00 hx (y := Mn) hown (mvT hZ (Ka hw 88 rfl)) (mvT hZ (Ka hw 89 rfl)) (mvT hZ (Ka hw 83 rfl)) (mvT hZ (Ka hw 90 rfl)) (by decide) (backOf (W := 0) (Vo l Z a0 hw []  _ _ _ _ _ _ _ _ _ _ _ _ _ h0 n0 O0 hE  ) hZ (Ka hw 90 rfl) (Ka hw 83 rfl) (by decide) (by decide)) (g := (mkF m 0 #[.val (.ref s0), .unset, .unset, .unset, .unset] [])) rfl (by rw [hml]; rfl) (argsL := []) (rest := []) (lenOf Pc rfl) rfl (by show 2 * 0 + _ ≤ _; exact Nat.le_of_eq rfl) (hb hby Wg) (fun _ _ => ⟨rfl, e00, (by decide : 0 + 1 ≤ _), (by decide : 0 + 3 ≤ _)⟩)
  dsimp only [Pt.U, Pt.locs, Pt.cells, Pt.slots] at X10 l10 y10 z10 st10 hQ10
  subst l10 y10 z10
  obtain ⟨b10, k10, rfl, N10q, O10, Kc10, g_b10, gs_b10, F10_0⟩ := hQ10
  have N10 := Fr.app N00 N10q
  have K10 := K00.trans Kc10 (fun x hx => nomatch hx)
  have s_b10 := Nat.le_trans K00.1 gs_b10
  have lt_b10 := F10_0.lt
  obtain ⟨cl11, Ar11, q11, Sz11, Nn11, Hs11, Gf11⟩ := id F10_0
  obtain ⟨cl12, Ar12, q12, Sz12, Nn12, Hs12, Gf12⟩ := id F10_0
  have hin13 : ¬ ((0 : Int32) < 0 ∨ cl12.slots.size ≤ ((0 : Int32)).toNatClampNeg) := inb_of Sz12 ⟨by decide, by decide⟩
  have hat14 : cl12.slots[((0 : Int32)).toNatClampNeg]? = some (.ref Wa) := Hs12.at hin13 rfl
  obtain ⟨T15, X15, e15, st15⟩ := getF X10 hx hZ hown (host := "") (Or.inl (Ka hw 105 rfl)) Via.refl rfl (Dc.ext O10.2) (g := (mkF m 21 #[.val (.ref s0), .val (.ref b10), .val (.int 3), .val (.int 0), .val (.ref Wa)] [(.ref Wa)])) rfl rfl (hb hby Md)
  have f16 := (P0.keep Kc10)
  have f17 := (P2.keep Kc10 List.not_mem_nil)
  have f18 := (P1.keep Kc10 List.not_mem_nil)
  have f19 := (P3.keep Kc10 List.not_mem_nil)
  obtain ⟨cq20, kq20, q20a, q20b, q20c⟩ := isOf hZ e15 (Wb.ext O10.2)
  obtain ⟨_, _, ⟨T20, L20, k20, n20⟩, -, X20, ⟨Lc20, hQ20, l20, y20, z20⟩, st20⟩ := X15.virtualBack hx (y := Vc) (z := Vc) hown (mvT hZ (Ka hw 107 rfl)) (mvT hZ (Ka hw 74 rfl)) (notFace_of_selects (args := #[]) (mvT hZ (Ka hw 76 rfl))) (mvT hZ (Ka hw 76 rfl)) (mvT hZ (Ka hw 75 rfl)) (by decide) (StrChars.Road.eqW (W := 0) hZ (Ig hw) (kI := 4) (Ka hw 2 rfl) (Wb.ext O10.2) (Vb.ext O10.2) (Ub.ext O10.2) (Aw_USER_collectionName.ext O10.2) Rh (Zc _ Hh) (Nat.le_of_ble_eq_true rfl) f16 f17 f18 f19 hcd (Zc _ hbd) hl2 (Hb.ext O10.2) Gb (by decide) (by decide)) q20a q20c (g := (mkF m 25 #[.val (.ref s0), .val (.ref b10), .val (.int 3), .val (.int 0), .val (.ref Wa)] [(.ref s0), (.ref Ia)])) rfl (by rw [hml]; rfl) (Steps.refl _) (argsL := [(.ref s0)]) (rest := []) (lenOf Ic rfl) rfl (by show 2 * 0 + _ ≤ _; exact Nat.le_of_eq rfl) (hb hby Rd) (fun _ _ => ⟨rfl, e15, (by decide : 1 + 0 ≤ _), (by decide : 3 + 0 ≤ _)⟩)
  dsimp only [Pt.U, Pt.locs, Pt.cells, Pt.slots] at X20 l20 y20 z20 st20 hQ20
  subst l20 y20 z20
  obtain ⟨hcase20, rfl, hp20⟩ := hQ20
  have N20q : Fr n0 ([] : List Loc) := Fr.nil n0
  have hv20 : _ = some (Value.int 0) := hcase20.elim (fun q => absurd q.2 (fun q => m0 q.symm)) (fun q => q.1)
  subst hv20
  have N20 := Fr.app N10 N20q
  obtain ⟨cl21, Ar21, q21, Sz21, Nn21, Hs21, Gf21⟩ := id F10_0
  have hin22 : ¬ ((1 : Int32) < 0 ∨ cl21.slots.size ≤ ((1 : Int32)).toNatClampNeg) := inb_of Sz21 ⟨by decide, by decide⟩
  have hat23 : cl21.slots[((1 : Int32)).toNatClampNeg]? = some (.ref Ua) := Hs21.at hin22 rfl
  obtain ⟨T24, X24, e24, st24⟩ := getF X20 hx hZ hown (host := "") (Or.inl (Ka hw 105 rfl)) Via.refl hp20 (Bc.ext O10.2) (g := (mkF m 21 #[.val (.ref s0), .val (.ref b10), .val (.int 3), .val (.int 1), .val (.ref Ua)] [(.ref Ua)])) rfl rfl (hb hby Md)
  obtain ⟨cq25, kq25, q25a, q25b, q25c⟩ := isOf hZ e24 (Yb.ext O10.2)
  obtain ⟨_, _, ⟨T25, L25, k25, n25⟩, -, X25, ⟨Lc25, hQ25, l25, y25, z25⟩, st25⟩ := X24.virtualBack hx (y := Vc) (z := Vc) hown (mvT hZ (Ka hw 107 rfl)) (mvT hZ (Ka hw 74 rfl)) (notFace_of_selects (args := #[]) (mvT hZ (Ka hw 76 rfl))) (mvT hZ (Ka hw 76 rfl)) (mvT hZ (Ka hw 75 rfl)) (by decide) (StrChars.Road.eqW (W := 0) hZ (Ig hw) (kI := 4) (Ka hw 2 rfl) (Yb.ext O10.2) (Rb.ext O10.2) (Pb.ext O10.2) (Aw_GROUP_collectionName.ext O10.2) Yh (Zc _ Ih) (Nat.le_of_ble_eq_true rfl) f16 f17 f18 f19 hcd (Zc _ hbd) hl2 (Hb.ext O10.2) Gb (by decide) (by decide)) q25a q25c (g := (mkF m 25 #[.val (.ref s0), .val (.ref b10), .val (.int 3), .val (.int 1), .val (.ref Ua)] [(.ref s0), (.ref Ha)])) rfl (by rw [hml]; rfl) (Steps.refl _) (argsL := [(.ref s0)]) (rest := []) (lenOf Ic rfl) rfl (by show 2 * 0 + _ ≤ _; exact Nat.le_of_eq rfl) (hb hby Rd) (fun _ _ => ⟨rfl, e24, (by decide : 1 + 0 ≤ _), (by decide : 3 + 0 ≤ _)⟩)
  dsimp only [Pt.U, Pt.locs, Pt.cells, Pt.slots] at X25 l25 y25 z25 st25 hQ25
  subst l25 y25 z25
  obtain ⟨hcase25, rfl, hp25⟩ := hQ25
  have N25q : Fr n0 ([] : List Loc) := Fr.nil n0
  have hv25 : _ = some (Value.int 1) := hcase25.elim (fun q => q.1) (fun q => absurd m1.symm q.2)
  subst hv25
  have N25 := Fr.app N20 N25q
  obtain ⟨_, _, ⟨T26, L26, k26, n26⟩, -, X26, ⟨Lc26, hQ26, l26, y26, z26⟩, st26⟩ := Jvm.LawKit.callS X25 hx (y := B7) hown (mvT hZ (Ka hw 108 rfl)) (mvT hZ (Ka hw 109 rfl)) (mvT hZ (Ka hw 110 rfl)) (mvT hZ (Ka hw 111 rfl)) (by decide) (backOf (W := 0) (H9 l Z a0 hw [] Ua _ _ _ _ _ _ _ _ _ _ _ _ _ T10.heap n0 O10 hE  ) hZ (Ka hw 111 rfl) (Ka hw 110 rfl) (by decide) (by decide)) (g := (mkF m 33 #[.val (.ref s0), .val (.ref b10), .val (.int 3), .val (.int 1), .val (.ref Ua)] [(.ref Ua)])) rfl (by rw [hml]; rfl) (argsL := [(.ref Ua)]) (rest := []) (lenOf Gf rfl) rfl (by show 2 * 0 + _ ≤ _; exact Nat.le_of_eq rfl) (hb hby Yi) (fun _ _ => ⟨rfl, hp25, (by decide : 1 + 1 ≤ _), (by decide : 3 + 1 ≤ _)⟩)
  dsimp only [Pt.U, Pt.locs, Pt.cells, Pt.slots] at X26 l26 y26 z26 st26 hQ26
  subst l26 y26 z26
  obtain ⟨b26, rfl, N26q, O26, Kc26, g_b26, gs_b26, F26_0, F26_1⟩ := hQ26
  have N26 := Fr.app N25 N26q
  have K26 := K10.trans Kc26 (fun x hx => nomatch hx)
  have s_b26 := Nat.le_trans K10.1 gs_b26
  have lt_b26 := F26_0.lt
  have k27 : ∀ t, Db p e below m T26 36 #[.val (.ref s0), .val (.ref b10), .val (.int 3), .val (.int 1), .val (.ref Ua)] [(.ref b26)] t → Kb p e below m s₁ #[(.ref s0)] 5 t := by
    intro t k
    refine k00 t ?_
    refine st10 _ ?_
    refine XS.astoreN X10.here hx rfl (hb hby Yg) rfl rfl (l' := #[.val (.ref s0), .val (.ref b10), .unset, .unset, .unset]) rfl ?_
    refine XS.aloadN X10.here hx rfl (hb hby Zg) rfl rfl ?_
    refine X10.arraylength hx (by exact Ar11.1) (State.isArrayOf_alike hZ.alike Ar11.2.1) (g := (mkF m 5 #[.val (.ref s0), .val (.ref b10), .unset, .unset, .unset] [(.ref b10)])) rfl rfl (hb hby Ah) _ ?_
    rw [len_of Sz11 Nn11]
    refine XS.istoreN X10.here hx rfl (hb hby Bh) rfl (l' := #[.val (.ref s0), .val (.ref b10), .val (.int 3), .unset, .unset]) rfl ?_
    refine XS.iconst X10.here hx rfl (hb hby Dh) ?_
    refine XS.istoreN X10.here hx rfl (hb hby Gh) rfl (l' := #[.val (.ref s0), .val (.ref b10), .val (.int 3), .val (.int 0), .unset]) rfl ?_
    refine XS.iloadN X10.here hx rfl (hb hby Ad) rfl ?_
    refine XS.iloadN X10.here hx rfl (hb hby Wc) rfl ?_
    refine XS.icmpNo X10.here hx rfl (hb hby Yc) rfl (tlt (by decide : (0 : Int32) < (3 : Int32))).2.1 ?_
    refine XS.aloadN X10.here hx rfl (hb hby Gd) rfl rfl ?_
    refine XS.iloadN X10.here hx rfl (hb hby Hd) rfl ?_
    show Db p e below m T10 16 #[.val (.ref s0), .val (.ref b10), .val (.int 3), .val (.int 0), .unset] [(.int 0), (.ref b10)] t
    refine X10.aaload hx (j := (0 : Int32)) (v := (.ref Wa)) (by exact Ar12.1) (State.isArrayOf_alike hZ.alike Ar12.2.1) rfl Ar12.2.2 hin13 hat14 (g := (mkF m 16 #[.val (.ref s0), .val (.ref b10), .val (.int 3), .val (.int 0), .unset] [(.int 0), (.ref b10)])) rfl rfl (hb hby Id) _ ?_
    refine XS.astore X10.here hx rfl (hb hby Kd) rfl rfl (l' := #[.val (.ref s0), .val (.ref b10), .val (.int 3), .val (.int 0), .val (.ref Wa)]) rfl ?_
    refine XS.aload X10.here hx rfl (hb hby Ld) rfl rfl ?_
    refine st15 _ ?_
    refine XS.aloadN X15.here hx rfl (hb hby Pd) rfl rfl ?_
    refine st20.trans ?_
    refine XS.ifYes X20.here hx rfl (pc0 := 28) (pc' := 37) rfl (hb hby Ud) rfl ((if0 _ _).trans (teq (by decide : (0 : Int32) = (0 : Int32))).1) (by decide) (by decide) ?_
    refine XS.iinc X20.here hx rfl (hb hby He) rfl (l' := #[.val (.ref s0), .val (.ref b10), .val (.int 3), .val (.int ((0 : Int32) + (1 : Int32))), .val (.ref Wa)]) rfl ?_
    show Db p e below m T20 40 #[.val (.ref s0), .val (.ref b10), .val (.int 3), .val (.int ((0 : Int32) + (1 : Int32))), .val (.ref Wa)] [] t
    rw [show ((0 : Int32) + (1 : Int32)) = (1 : Int32) from by decide]
    refine XS.goto X20.here hx rfl (pc0 := 40) (pc' := 9) rfl (hb hby Ie) (by decide) (by decide) ?_
    refine XS.iloadN X20.here hx rfl (hb hby Ad) rfl ?_
    refine XS.iloadN X20.here hx rfl (hb hby Wc) rfl ?_
    show Db p e below m T20 11 #[.val (.ref s0), .val (.ref b10), .val (.int 3), .val (.int 1), .val (.ref Wa)] [(.int 3), (.int 1)] t
    refine XS.icmpNo X20.here hx rfl (hb hby Yc) rfl (tlt (by decide : (1 : Int32) < (3 : Int32))).2.1 ?_
    refine XS.aloadN X20.here hx rfl (hb hby Gd) rfl rfl ?_
    refine XS.iloadN X20.here hx rfl (hb hby Hd) rfl ?_
    refine X20.aaload hx (j := (1 : Int32)) (v := (.ref Ua)) (by rw [hp20]; exact Ar21.1) (State.isArrayOf_alike hZ.alike Ar21.2.1) rfl Ar21.2.2 hin22 hat23 (g := (mkF m 16 #[.val (.ref s0), .val (.ref b10), .val (.int 3), .val (.int 1), .val (.ref Wa)] [(.int 1), (.ref b10)])) rfl rfl (hb hby Id) _ ?_
    refine XS.astore X20.here hx rfl (hb hby Kd) rfl rfl (l' := #[.val (.ref s0), .val (.ref b10), .val (.int 3), .val (.int 1), .val (.ref Ua)]) rfl ?_
    refine XS.aload X20.here hx rfl (hb hby Ld) rfl rfl ?_
    refine st24 _ ?_
    refine XS.aloadN X24.here hx rfl (hb hby Pd) rfl rfl ?_
    refine st25.trans ?_
    refine XS.ifNo X25.here hx rfl (hb hby Ud) rfl ((if0 _ _).trans (feq (by decide : ¬ ((1 : Int32) = (0 : Int32)))).1) ?_
    refine XS.aload X25.here hx rfl (hb hby Wi) rfl rfl ?_
    refine st26 _ ?_
    show Db p e below m T26 36 #[.val (.ref s0), .val (.ref b10), .val (.int 3), .val (.int 1), .val (.ref Ua)] [(.ref b26)] t
    exact k
  obtain ⟨fs, hr, hrun, hended, hW, hsame⟩ := X26.leave (v := some (.ref b26)) (fun h => by rw [Bd.returns] at h; cases h)
  refine hNG ⟨_, _, k27 _ ?_, hrun, hended, _, _, rfl, ?_, ⟨_, rfl⟩, hW, hsame.mono (by decide) (by decide)⟩
  · exact retOut X26 hx (t := (.object "java/util/Optional")) Bd.returns rfl (Or.inr (Or.inr (Or.inr (Or.inr ⟨rfl, rfl, rfl⟩)))) (hb hby Zi) hr
  · show M9 Z s0 v0 kv z0 vs0 cs0 Wa Va Ua Ra Ia Da Ha Ba Ga Aa Ma La Bb h0 n0 _ T26.heap _
    exact ⟨b26, rfl, N26, O26, K26, g_b26, s_b26, F26_0, F26_1⟩
theorem Bba (m : MethodId) (x0 : Addr)  : entryFrame m #[(.ref x0)] 5 = mkF m 0 #[.val (.ref x0), .unset, .unset, .unset, .unset] [] := by first | (simp [entryFrame, mkF, argsToLocals, Value.category]; done) | rfl
def P9 (Z : State) (s0 : Addr) (v0 : Addr) (kv : ClassId) (z0 : Int32) (vs0 : List Value) (cs0 : List Int32) (Wa : Addr) (Va : Addr) (Ua : Addr) (Ra : Addr) (Ia : Addr) (Da : Addr) (Ha : Addr) (Ba : Addr) (Ga : Addr) (Aa : Addr) (Ma : Int32) (La : Value) (Bb : Addr) (h0 : Heap) (n0 : Nat) (v : Option Value) (h : Heap) (L : List Loc) : Prop := ∃ (b : Addr), v = some (.ref b) ∧ Fr n0 L ∧ Old Z n0 h ∧ Keep h0 h [] ∧ n0 ≤ b ∧ h0.size ≤ b ∧ Exa Z h b "java/util/Optional" ∧ Fld Z h b "java/util/Optional" "value" "Ljava/lang/Object;" (.ref Ra)
set_option maxRecDepth 65536 in
set_option maxHeartbeats 40000000 in
theorem A9 (l : Launch) (Z : State) (a0 : Array Value) (hw : ∀ d ∈ tables_1, d.before a0 Z = true) (ws : List Jvm.Cond) (s0 : Addr) (v0 : Addr) (kv : ClassId) (z0 : Int32) (vs0 : List Value) (cs0 : List Int32) (Wa : Addr) (Va : Addr) (Ua : Addr) (Ra : Addr) (Ia : Addr) (Da : Addr) (Ha : Addr) (Ba : Addr) (Ga : Addr) (Aa : Addr) (Ma : Int32) (La : Value) (Bb : Addr) (h0 : Heap) (n0 : Nat) (O0 : Old Z n0 h0) (hE : EV Z Wa Va Ua Ra Ia Da Ha Ba Ga Aa Ma La Bb) (P0 : Exa Z h0 s0 "java/lang/String") (P1 : Fld Z h0 s0 "java/lang/String" "coder" "B" (.int 0)) (P2 : Fld Z h0 s0 "java/lang/String" "value" "[B" (.ref v0)) (P3 : Arv Z h0 v0 kv .byte z0 vs0 (.int 0)) (hcd : StrChars.Road.CodA cs0 0 z0 vs0) (hbd : ∀ c ∈ cs0, ¬ c < 0 ∧ ¬ (255 : Int32) < c) (hl2 : cs0.length ≤ 4000) (m0 : ¬ (cs0 = ([(117 : Int32), (115 : Int32), (101 : Int32), (114 : Int32), (115 : Int32)] : List Int32))) (m1 : ¬ (cs0 = ([(103 : Int32), (114 : Int32), (111 : Int32), (117 : Int32), (112 : Int32), (115 : Int32)] : List Int32))) (m2 : cs0 = ([(100 : Int32), (101 : Int32), (118 : Int32), (105 : Int32), (99 : Int32), (101 : Int32), (115 : Int32)] : List Int32)) :
    MetFree l Vg (head1 (Jvm.Cond.code Vg prog_3_method_6_code 5 (some (.object "java/util/Optional")) :: ws) ({ frames := 3, cells := 2, slots := 4, locals := 38 } : Room)) (fun a U => a = #[(.ref s0)] ∧ Z.Warmed39 U.vm ∧ U.heap = h0) (fun _ _ _ _ _ => True) (fun _ U o U' => ∃ v L, o = .returned v ∧ P9 Z s0 v0 kv z0 vs0 cs0 Wa Va Ua Ra Ia Da Ha Ba Ga Aa Ma La Bb h0 n0 v U'.heap L ∧ FrameEnd U o U' L ({ frames := 3, cells := 2, slots := 4, locals := 38 } : Room).cells ({ frames := 3, cells := 2, slots := 4, locals := 38 } : Room).slots) := by
  refine MetFree.of_bodySF (plainFor_of_name Lc) hisR ?_
  intro p e s m args below meth c s₁ Bd hml0 hP hK
  obtain ⟨rfl, hZ, hh⟩ := hP
  have hx := Bd.exec
  have hby := Bd.bytes
  have hml : c.maxLocals = 5 := hml0
  have hown : s.vm.findClass "com/example/entitlement_ledger/entitlementledger/model/AssigneeKind" = some m.cls := findClass_of_methodNamed Bd.named
  have hnm := (name_of_methodNamed Bd.named Bd.method).1
  have X00 : Stand p l e ({ frames := 3, cells := 2, slots := 4, locals := 38 } : Room) s m #[(.ref s0)] below meth c s₁ [] 0 0 := Stand.of_body Bd
  have e00 : s₁.heap = h0 := by rw [← hh, Bd.state]; rfl
  have N00 := Fr.nil n0
  refine Classical.byContradiction fun hNG => ?_
  have K00 := Keep.refl h0 []
  have k00 : ∀ t, Db p e below m s₁ 0 #[.val (.ref s0), .unset, .unset, .unset, .unset] [] t → Kb p e below m s₁ #[(.ref s0)] 5 t := fun t k => castTop (Bba m s0 ) k
  obtain ⟨Ye, Ze, Ae, Be, Ue, Ve, Ke, Le, Dc, Wb, Ub, Vb, Bc, Yb, Pb, Rb, Ac, Zb, Lb, Mb, Hb, Gb, Hc, Gc, We, Re, Rc, De, Ab, Za, Ya⟩ := (id hE : EV Z Wa Va Ua Ra Ia Da Ha Ba Ga Aa Ma La Bb)
  obtain ⟨kw_USER_collectionName, Aw_USER_collectionName⟩ := Ab.arv
  obtain ⟨kw_GROUP_collectionName, Aw_GROUP_collectionName⟩ := Za.arv
  obtain ⟨kw_DEVICE_collectionName, Aw_DEVICE_collectionName⟩ := Ya.arv
  obtain ⟨_, _, ⟨T10, L10, k10, n10⟩, -, X10, ⟨Lc10, hQ10, l10, y10, z10⟩, st10⟩ := Jvm.LawKit.callS X00 hx (y := Mn) hown (mvT hZ (Ka hw 88 rfl)) (mvT hZ (Ka hw 89 rfl)) (mvT hZ (Ka hw 83 rfl)) (mvT hZ (Ka hw 90 rfl)) (by decide) (backOf (W := 0) (Vo l Z a0 hw []  _ _ _ _ _ _ _ _ _ _ _ _ _ h0 n0 O0 hE  ) hZ (Ka hw 90 rfl) (Ka hw 83 rfl) (by decide) (by decide)) (g := (mkF m 0 #[.val (.ref s0), .unset, .unset, .unset, .unset] [])) rfl (by rw [hml]; rfl) (argsL := []) (rest := []) (lenOf Pc rfl) rfl (by show 2 * 0 + _ ≤ _; exact Nat.le_of_eq rfl) (hb hby Wg) (fun _ _ => ⟨rfl, e00, (by decide : 0 + 1 ≤ _), (by decide : 0 + 3 ≤ _)⟩)
  dsimp only [Pt.U, Pt.locs, Pt.cells, Pt.slots] at X10 l10 y10 z10 st10 hQ10
  subst l10 y10 z10
  obtain ⟨b10, k10, rfl, N10q, O10, Kc10, g_b10, gs_b10, F10_0⟩ := hQ10
  have N10 := Fr.app N00 N10q
  have K10 := K00.trans Kc10 (fun x hx => nomatch hx)
  have s_b10 := Nat.le_trans K00.1 gs_b10
  have lt_b10 := F10_0.lt
  obtain ⟨cl11, Ar11, q11, Sz11, Nn11, Hs11, Gf11⟩ := id F10_0
  obtain ⟨cl12, Ar12, q12, Sz12, Nn12, Hs12, Gf12⟩ := id F10_0
  have hin13 : ¬ ((0 : Int32) < 0 ∨ cl12.slots.size ≤ ((0 : Int32)).toNatClampNeg) := inb_of Sz12 ⟨by decide, by decide⟩
  have hat14 : cl12.slots[((0 : Int32)).toNatClampNeg]? = some (.ref Wa) := Hs12.at hin13 rfl
  obtain ⟨T15, X15, e15, st15⟩ := getF X10 hx hZ hown (host := "") (Or.inl (Ka hw 105 rfl)) Via.refl rfl (Dc.ext O10.2) (g := (mkF m 21 #[.val (.ref s0), .val (.ref b10), .val (.int 3), .val (.int 0), .val (.ref Wa)] [(.ref Wa)])) rfl rfl (hb hby Md)
  have f16 := (P0.keep Kc10)
  have f17 := (P2.keep Kc10 List.not_mem_nil)
  have f18 := (P1.keep Kc10 List.not_mem_nil)
  have f19 := (P3.keep Kc10 List.not_mem_nil)
  obtain ⟨cq20, kq20, q20a, q20b, q20c⟩ := isOf hZ e15 (Wb.ext O10.2)
  obtain ⟨_, _, ⟨T20, L20, k20, n20⟩, -, X20, ⟨Lc20, hQ20, l20, y20, z20⟩, st20⟩ := X15.virtualBack hx (y := Vc) (z := Vc) hown (mvT hZ (Ka hw 107 rfl)) (mvT hZ (Ka hw 74 rfl)) (notFace_of_selects (args := #[]) (mvT hZ (Ka hw 76 rfl))) (mvT hZ (Ka hw 76 rfl)) (mvT hZ (Ka hw 75 rfl)) (by decide) (StrChars.Road.eqW (W := 0) hZ (Ig hw) (kI := 4) (Ka hw 2 rfl) (Wb.ext O10.2) (Vb.ext O10.2) (Ub.ext O10.2) (Aw_USER_collectionName.ext O10.2) Rh (Zc _ Hh) (Nat.le_of_ble_eq_true rfl) f16 f17 f18 f19 hcd (Zc _ hbd) hl2 (Hb.ext O10.2) Gb (by decide) (by decide)) q20a q20c (g := (mkF m 25 #[.val (.ref s0), .val (.ref b10), .val (.int 3), .val (.int 0), .val (.ref Wa)] [(.ref s0), (.ref Ia)])) rfl (by rw [hml]; rfl) (Steps.refl _) (argsL := [(.ref s0)]) (rest := []) (lenOf Ic rfl) rfl (by show 2 * 0 + _ ≤ _; exact Nat.le_of_eq rfl) (hb hby Rd) (fun _ _ => ⟨rfl, e15, (by decide : 1 + 0 ≤ _), (by decide : 3 + 0 ≤ _)⟩)
  dsimp only [Pt.U, Pt.locs, Pt.cells, Pt.slots] at X20 l20 y20 z20 st20 hQ20
  subst l20 y20 z20
  obtain ⟨hcase20, rfl, hp20⟩ := hQ20
  have N20q : Fr n0 ([] : List Loc) := Fr.nil n0
  have hv20 : _ = some (Value.int 0) := hcase20.elim (fun q => absurd q.2 (fun q => m0 q.symm)) (fun q => q.1)
  subst hv20
  have N20 := Fr.app N10 N20q
  obtain ⟨cl21, Ar21, q21, Sz21, Nn21, Hs21, Gf21⟩ := id F10_0
  have hin22 : ¬ ((1 : Int32) < 0 ∨ cl21.slots.size ≤ ((1 : Int32)).toNatClampNeg) := inb_of Sz21 ⟨by decide, by decide⟩
  have hat23 : cl21.slots[((1 : Int32)).toNatClampNeg]? = some (.ref Ua) := Hs21.at hin22 rfl
  obtain ⟨T24, X24, e24, st24⟩ := getF X20 hx hZ hown (host := "") (Or.inl (Ka hw 105 rfl)) Via.refl hp20 (Bc.ext O10.2) (g := (mkF m 21 #[.val (.ref s0), .val (.ref b10), .val (.int 3), .val (.int 1), .val (.ref Ua)] [(.ref Ua)])) rfl rfl (hb hby Md)
  obtain ⟨cq25, kq25, q25a, q25b, q25c⟩ := isOf hZ e24 (Yb.ext O10.2)
  obtain ⟨_, _, ⟨T25, L25, k25, n25⟩, -, X25, ⟨Lc25, hQ25, l25, y25, z25⟩, st25⟩ := X24.virtualBack hx (y := Vc) (z := Vc) hown (mvT hZ (Ka hw 107 rfl)) (mvT hZ (Ka hw 74 rfl)) (notFace_of_selects (args := #[]) (mvT hZ (Ka hw 76 rfl))) (mvT hZ (Ka hw 76 rfl)) (mvT hZ (Ka hw 75 rfl)) (by decide) (StrChars.Road.eqW (W := 0) hZ (Ig hw) (kI := 4) (Ka hw 2 rfl) (Yb.ext O10.2) (Rb.ext O10.2) (Pb.ext O10.2) (Aw_GROUP_collectionName.ext O10.2) Yh (Zc _ Ih) (Nat.le_of_ble_eq_true rfl) f16 f17 f18 f19 hcd (Zc _ hbd) hl2 (Hb.ext O10.2) Gb (by decide) (by decide)) q25a q25c (g := (mkF m 25 #[.val (.ref s0), .val (.ref b10), .val (.int 3), .val (.int 1), .val (.ref Ua)] [(.ref s0), (.ref Ha)])) rfl (by rw [hml]; rfl) (Steps.refl _) (argsL := [(.ref s0)]) (rest := []) (lenOf Ic rfl) rfl (by show 2 * 0 + _ ≤ _; exact Nat.le_of_eq rfl) (hb hby Rd) (fun _ _ => ⟨rfl, e24, (by decide : 1 + 0 ≤ _), (by decide : 3 + 0 ≤ _)⟩)
  dsimp only [Pt.U, Pt.locs, Pt.cells, Pt.slots] at X25 l25 y25 z25 st25 hQ25
  subst l25 y25 z25
  obtain ⟨hcase25, rfl, hp25⟩ := hQ25
  have N25q : Fr n0 ([] : List Loc) := Fr.nil n0
  have hv25 : _ = some (Value.int 0) := hcase25.elim (fun q => absurd q.2 (fun q => m1 q.symm)) (fun q => q.1)
  subst hv25
  have N25 := Fr.app N20 N25q
  obtain ⟨cl26, Ar26, q26, Sz26, Nn26, Hs26, Gf26⟩ := id F10_0
  have hin27 : ¬ ((2 : Int32) < 0 ∨ cl26.slots.size ≤ ((2 : Int32)).toNatClampNeg) := inb_of Sz26 ⟨by decide, by decide⟩
  have hat28 : cl26.slots[((2 : Int32)).toNatClampNeg]? = some (.ref Ra) := Hs26.at hin27 rfl
  obtain ⟨T29, X29, e29, st29⟩ := getF X25 hx hZ hown (host := "") (Or.inl (Ka hw 105 rfl)) Via.refl hp25 (Ac.ext O10.2) (g := (mkF m 21 #[.val (.ref s0), .val (.ref b10), .val (.int 3), .val (.int 2), .val (.ref Ra)] [(.ref Ra)])) rfl rfl (hb hby Md)
  obtain ⟨cq30, kq30, q30a, q30b, q30c⟩ := isOf hZ e29 (Zb.ext O10.2)
  obtain ⟨_, _, ⟨T30, L30, k30, n30⟩, -, X30, ⟨Lc30, hQ30, l30, y30, z30⟩, st30⟩ := X29.virtualBack hx (y := Vc) (z := Vc) hown (mvT hZ (Ka hw 107 rfl)) (mvT hZ (Ka hw 74 rfl)) (notFace_of_selects (args := #[]) (mvT hZ (Ka hw 76 rfl))) (mvT hZ (Ka hw 76 rfl)) (mvT hZ (Ka hw 75 rfl)) (by decide) (StrChars.Road.eqW (W := 0) hZ (Ig hw) (kI := 4) (Ka hw 2 rfl) (Zb.ext O10.2) (Mb.ext O10.2) (Lb.ext O10.2) (Aw_DEVICE_collectionName.ext O10.2) Bi (Zc _ Mh) (Nat.le_of_ble_eq_true rfl) f16 f17 f18 f19 hcd (Zc _ hbd) hl2 (Hb.ext O10.2) Gb (by decide) (by decide)) q30a q30c (g := (mkF m 25 #[.val (.ref s0), .val (.ref b10), .val (.int 3), .val (.int 2), .val (.ref Ra)] [(.ref s0), (.ref Ga)])) rfl (by rw [hml]; rfl) (Steps.refl _) (argsL := [(.ref s0)]) (rest := []) (lenOf Ic rfl) rfl (by show 2 * 0 + _ ≤ _; exact Nat.le_of_eq rfl) (hb hby Rd) (fun _ _ => ⟨rfl, e29, (by decide : 1 + 0 ≤ _), (by decide : 3 + 0 ≤ _)⟩)
  dsimp only [Pt.U, Pt.locs, Pt.cells, Pt.slots] at X30 l30 y30 z30 st30 hQ30
  subst l30 y30 z30
  obtain ⟨hcase30, rfl, hp30⟩ := hQ30
  have N30q : Fr n0 ([] : List Loc) := Fr.nil n0
  have hv30 : _ = some (Value.int 1) := hcase30.elim (fun q => q.1) (fun q => absurd m2.symm q.2)
  subst hv30
  have N30 := Fr.app N25 N30q
  obtain ⟨_, _, ⟨T31, L31, k31, n31⟩, -, X31, ⟨Lc31, hQ31, l31, y31, z31⟩, st31⟩ := Jvm.LawKit.callS X30 hx (y := B7) hown (mvT hZ (Ka hw 108 rfl)) (mvT hZ (Ka hw 109 rfl)) (mvT hZ (Ka hw 110 rfl)) (mvT hZ (Ka hw 111 rfl)) (by decide) (backOf (W := 0) (H9 l Z a0 hw [] Ra _ _ _ _ _ _ _ _ _ _ _ _ _ T10.heap n0 O10 hE  ) hZ (Ka hw 111 rfl) (Ka hw 110 rfl) (by decide) (by decide)) (g := (mkF m 33 #[.val (.ref s0), .val (.ref b10), .val (.int 3), .val (.int 2), .val (.ref Ra)] [(.ref Ra)])) rfl (by rw [hml]; rfl) (argsL := [(.ref Ra)]) (rest := []) (lenOf Gf rfl) rfl (by show 2 * 0 + _ ≤ _; exact Nat.le_of_eq rfl) (hb hby Yi) (fun _ _ => ⟨rfl, hp30, (by decide : 1 + 1 ≤ _), (by decide : 3 + 1 ≤ _)⟩)
  dsimp only [Pt.U, Pt.locs, Pt.cells, Pt.slots] at X31 l31 y31 z31 st31 hQ31
  subst l31 y31 z31
  obtain ⟨b31, rfl, N31q, O31, Kc31, g_b31, gs_b31, F31_0, F31_1⟩ := hQ31
  have N31 := Fr.app N30 N31q
  have K31 := K10.trans Kc31 (fun x hx => nomatch hx)
  have s_b31 := Nat.le_trans K10.1 gs_b31
  have lt_b31 := F31_0.lt
  have k32 : ∀ t, Db p e below m T31 36 #[.val (.ref s0), .val (.ref b10), .val (.int 3), .val (.int 2), .val (.ref Ra)] [(.ref b31)] t → Kb p e below m s₁ #[(.ref s0)] 5 t := by
    intro t k
    refine k00 t ?_
    refine st10 _ ?_
    refine XS.astoreN X10.here hx rfl (hb hby Yg) rfl rfl (l' := #[.val (.ref s0), .val (.ref b10), .unset, .unset, .unset]) rfl ?_
    refine XS.aloadN X10.here hx rfl (hb hby Zg) rfl rfl ?_
    refine X10.arraylength hx (by exact Ar11.1) (State.isArrayOf_alike hZ.alike Ar11.2.1) (g := (mkF m 5 #[.val (.ref s0), .val (.ref b10), .unset, .unset, .unset] [(.ref b10)])) rfl rfl (hb hby Ah) _ ?_
    rw [len_of Sz11 Nn11]
    refine XS.istoreN X10.here hx rfl (hb hby Bh) rfl (l' := #[.val (.ref s0), .val (.ref b10), .val (.int 3), .unset, .unset]) rfl ?_
    refine XS.iconst X10.here hx rfl (hb hby Dh) ?_
    refine XS.istoreN X10.here hx rfl (hb hby Gh) rfl (l' := #[.val (.ref s0), .val (.ref b10), .val (.int 3), .val (.int 0), .unset]) rfl ?_
    refine XS.iloadN X10.here hx rfl (hb hby Ad) rfl ?_
    refine XS.iloadN X10.here hx rfl (hb hby Wc) rfl ?_
    refine XS.icmpNo X10.here hx rfl (hb hby Yc) rfl (tlt (by decide : (0 : Int32) < (3 : Int32))).2.1 ?_
    refine XS.aloadN X10.here hx rfl (hb hby Gd) rfl rfl ?_
    refine XS.iloadN X10.here hx rfl (hb hby Hd) rfl ?_
    show Db p e below m T10 16 #[.val (.ref s0), .val (.ref b10), .val (.int 3), .val (.int 0), .unset] [(.int 0), (.ref b10)] t
    refine X10.aaload hx (j := (0 : Int32)) (v := (.ref Wa)) (by exact Ar12.1) (State.isArrayOf_alike hZ.alike Ar12.2.1) rfl Ar12.2.2 hin13 hat14 (g := (mkF m 16 #[.val (.ref s0), .val (.ref b10), .val (.int 3), .val (.int 0), .unset] [(.int 0), (.ref b10)])) rfl rfl (hb hby Id) _ ?_
    refine XS.astore X10.here hx rfl (hb hby Kd) rfl rfl (l' := #[.val (.ref s0), .val (.ref b10), .val (.int 3), .val (.int 0), .val (.ref Wa)]) rfl ?_
    refine XS.aload X10.here hx rfl (hb hby Ld) rfl rfl ?_
    refine st15 _ ?_
    refine XS.aloadN X15.here hx rfl (hb hby Pd) rfl rfl ?_
    refine st20.trans ?_
    refine XS.ifYes X20.here hx rfl (pc0 := 28) (pc' := 37) rfl (hb hby Ud) rfl ((if0 _ _).trans (teq (by decide : (0 : Int32) = (0 : Int32))).1) (by decide) (by decide) ?_
    refine XS.iinc X20.here hx rfl (hb hby He) rfl (l' := #[.val (.ref s0), .val (.ref b10), .val (.int 3), .val (.int ((0 : Int32) + (1 : Int32))), .val (.ref Wa)]) rfl ?_
    show Db p e below m T20 40 #[.val (.ref s0), .val (.ref b10), .val (.int 3), .val (.int ((0 : Int32) + (1 : Int32))), .val (.ref Wa)] [] t
    rw [show ((0 : Int32) + (1 : Int32)) = (1 : Int32) from by decide]
    refine XS.goto X20.here hx rfl (pc0 := 40) (pc' := 9) rfl (hb hby Ie) (by decide) (by decide) ?_
    refine XS.iloadN X20.here hx rfl (hb hby Ad) rfl ?_
    refine XS.iloadN X20.here hx rfl (hb hby Wc) rfl ?_
    show Db p e below m T20 11 #[.val (.ref s0), .val (.ref b10), .val (.int 3), .val (.int 1), .val (.ref Wa)] [(.int 3), (.int 1)] t
    refine XS.icmpNo X20.here hx rfl (hb hby Yc) rfl (tlt (by decide : (1 : Int32) < (3 : Int32))).2.1 ?_
    refine XS.aloadN X20.here hx rfl (hb hby Gd) rfl rfl ?_
    refine XS.iloadN X20.here hx rfl (hb hby Hd) rfl ?_
    refine X20.aaload hx (j := (1 : Int32)) (v := (.ref Ua)) (by rw [hp20]; exact Ar21.1) (State.isArrayOf_alike hZ.alike Ar21.2.1) rfl Ar21.2.2 hin22 hat23 (g := (mkF m 16 #[.val (.ref s0), .val (.ref b10), .val (.int 3), .val (.int 1), .val (.ref Wa)] [(.int 1), (.ref b10)])) rfl rfl (hb hby Id) _ ?_
    refine XS.astore X20.here hx rfl (hb hby Kd) rfl rfl (l' := #[.val (.ref s0), .val (.ref b10), .val (.int 3), .val (.int 1), .val (.ref Ua)]) rfl ?_
    refine XS.aload X20.here hx rfl (hb hby Ld) rfl rfl ?_
    refine st24 _ ?_
    refine XS.aloadN X24.here hx rfl (hb hby Pd) rfl rfl ?_
    refine st25.trans ?_
    refine XS.ifYes X25.here hx rfl (pc0 := 28) (pc' := 37) rfl (hb hby Ud) rfl ((if0 _ _).trans (teq (by decide : (0 : Int32) = (0 : Int32))).1) (by decide) (by decide) ?_
    refine XS.iinc X25.here hx rfl (hb hby He) rfl (l' := #[.val (.ref s0), .val (.ref b10), .val (.int 3), .val (.int ((1 : Int32) + (1 : Int32))), .val (.ref Ua)]) rfl ?_
    show Db p e below m T25 40 #[.val (.ref s0), .val (.ref b10), .val (.int 3), .val (.int ((1 : Int32) + (1 : Int32))), .val (.ref Ua)] [] t
    rw [show ((1 : Int32) + (1 : Int32)) = (2 : Int32) from by decide]
    show Db p e below m T25 40 #[.val (.ref s0), .val (.ref b10), .val (.int 3), .val (.int 2), .val (.ref Ua)] [] t
    refine XS.goto X25.here hx rfl (pc0 := 40) (pc' := 9) rfl (hb hby Ie) (by decide) (by decide) ?_
    refine XS.iloadN X25.here hx rfl (hb hby Ad) rfl ?_
    refine XS.iloadN X25.here hx rfl (hb hby Wc) rfl ?_
    refine XS.icmpNo X25.here hx rfl (hb hby Yc) rfl (tlt (by decide : (2 : Int32) < (3 : Int32))).2.1 ?_
    refine XS.aloadN X25.here hx rfl (hb hby Gd) rfl rfl ?_
    refine XS.iloadN X25.here hx rfl (hb hby Hd) rfl ?_
    refine X25.aaload hx (j := (2 : Int32)) (v := (.ref Ra)) (by rw [hp25]; exact Ar26.1) (State.isArrayOf_alike hZ.alike Ar26.2.1) rfl Ar26.2.2 hin27 hat28 (g := (mkF m 16 #[.val (.ref s0), .val (.ref b10), .val (.int 3), .val (.int 2), .val (.ref Ua)] [(.int 2), (.ref b10)])) rfl rfl (hb hby Id) _ ?_
    refine XS.astore X25.here hx rfl (hb hby Kd) rfl rfl (l' := #[.val (.ref s0), .val (.ref b10), .val (.int 3), .val (.int 2), .val (.ref Ra)]) rfl ?_
    refine XS.aload X25.here hx rfl (hb hby Ld) rfl rfl ?_
    refine st29 _ ?_
    refine XS.aloadN X29.here hx rfl (hb hby Pd) rfl rfl ?_
    refine st30.trans ?_
    show Db p e below m T30 28 #[.val (.ref s0), .val (.ref b10), .val (.int 3), .val (.int 2), .val (.ref Ra)] [(.int 1)] t
    refine XS.ifNo X30.here hx rfl (hb hby Ud) rfl ((if0 _ _).trans (feq (by decide : ¬ ((1 : Int32) = (0 : Int32)))).1) ?_
    refine XS.aload X30.here hx rfl (hb hby Wi) rfl rfl ?_
    refine st31 _ ?_
    exact k
  obtain ⟨fs, hr, hrun, hended, hW, hsame⟩ := X31.leave (v := some (.ref b31)) (fun h => by rw [Bd.returns] at h; cases h)
  refine hNG ⟨_, _, k32 _ ?_, hrun, hended, _, _, rfl, ?_, ⟨_, rfl⟩, hW, hsame.mono (by decide) (by decide)⟩
  · exact retOut X31 hx (t := (.object "java/util/Optional")) Bd.returns rfl (Or.inr (Or.inr (Or.inr (Or.inr ⟨rfl, rfl, rfl⟩)))) (hb hby Zi) hr
  · show P9 Z s0 v0 kv z0 vs0 cs0 Wa Va Ua Ra Ia Da Ha Ba Ga Aa Ma La Bb h0 n0 _ T31.heap _
    exact ⟨b31, rfl, N31, O31, K31, g_b31, s_b31, F31_0, F31_1⟩
theorem Dba (m : MethodId) (x0 : Addr)  : entryFrame m #[(.ref x0)] 5 = mkF m 0 #[.val (.ref x0), .unset, .unset, .unset, .unset] [] := by first | (simp [entryFrame, mkF, argsToLocals, Value.category]; done) | rfl
theorem Wj : decode prog_3_method_6_code 43 = .ok (.invokestatic 55, 3) := by decide +kernel
theorem Yj : parseMethodDescriptor "()Ljava/util/Optional;" = some ⟨[], some (.object "java/util/Optional")⟩ := by decide +kernel
theorem Zj : decode prog_3_method_6_code 46 = .ok (.areturn, 1) := by decide +kernel
def R9 (Z : State) (s0 : Addr) (v0 : Addr) (kv : ClassId) (z0 : Int32) (vs0 : List Value) (cs0 : List Int32) (Wa : Addr) (Va : Addr) (Ua : Addr) (Ra : Addr) (Ia : Addr) (Da : Addr) (Ha : Addr) (Ba : Addr) (Ga : Addr) (Aa : Addr) (Ma : Int32) (La : Value) (Bb : Addr) (h0 : Heap) (n0 : Nat) (v : Option Value) (h : Heap) (L : List Loc) : Prop := v = some (.ref Bb) ∧ Fr n0 L ∧ Old Z n0 h ∧ Keep h0 h []
set_option maxRecDepth 65536 in
set_option maxHeartbeats 40000000 in
theorem D9 (l : Launch) (Z : State) (a0 : Array Value) (hw : ∀ d ∈ tables_1, d.before a0 Z = true) (ws : List Jvm.Cond) (s0 : Addr) (v0 : Addr) (kv : ClassId) (z0 : Int32) (vs0 : List Value) (cs0 : List Int32) (Wa : Addr) (Va : Addr) (Ua : Addr) (Ra : Addr) (Ia : Addr) (Da : Addr) (Ha : Addr) (Ba : Addr) (Ga : Addr) (Aa : Addr) (Ma : Int32) (La : Value) (Bb : Addr) (h0 : Heap) (n0 : Nat) (O0 : Old Z n0 h0) (hE : EV Z Wa Va Ua Ra Ia Da Ha Ba Ga Aa Ma La Bb) (P0 : Exa Z h0 s0 "java/lang/String") (P1 : Fld Z h0 s0 "java/lang/String" "coder" "B" (.int 0)) (P2 : Fld Z h0 s0 "java/lang/String" "value" "[B" (.ref v0)) (P3 : Arv Z h0 v0 kv .byte z0 vs0 (.int 0)) (hcd : StrChars.Road.CodA cs0 0 z0 vs0) (hbd : ∀ c ∈ cs0, ¬ c < 0 ∧ ¬ (255 : Int32) < c) (hl2 : cs0.length ≤ 4000) (m0 : ¬ (cs0 = ([(117 : Int32), (115 : Int32), (101 : Int32), (114 : Int32), (115 : Int32)] : List Int32))) (m1 : ¬ (cs0 = ([(103 : Int32), (114 : Int32), (111 : Int32), (117 : Int32), (112 : Int32), (115 : Int32)] : List Int32))) (m2 : ¬ (cs0 = ([(100 : Int32), (101 : Int32), (118 : Int32), (105 : Int32), (99 : Int32), (101 : Int32), (115 : Int32)] : List Int32))) :
    MetFree l Vg (head1 (Jvm.Cond.code Vg prog_3_method_6_code 5 (some (.object "java/util/Optional")) :: ws) ({ frames := 2, cells := 1, slots := 3, locals := 28 } : Room)) (fun a U => a = #[(.ref s0)] ∧ Z.Warmed39 U.vm ∧ U.heap = h0) (fun _ _ _ _ _ => True) (fun _ U o U' => ∃ v L, o = .returned v ∧ R9 Z s0 v0 kv z0 vs0 cs0 Wa Va Ua Ra Ia Da Ha Ba Ga Aa Ma La Bb h0 n0 v U'.heap L ∧ FrameEnd U o U' L ({ frames := 2, cells := 1, slots := 3, locals := 28 } : Room).cells ({ frames := 2, cells := 1, slots := 3, locals := 28 } : Room).slots) := by
  refine MetFree.of_bodySF (plainFor_of_name Lc) hisR ?_
  intro p e s m args below meth c s₁ Bd hml0 hP hK
  obtain ⟨rfl, hZ, hh⟩ := hP
  have hx := Bd.exec
  have hby := Bd.bytes
  have hml : c.maxLocals = 5 := hml0
  have hown : s.vm.findClass "com/example/entitlement_ledger/entitlementledger/model/AssigneeKind" = some m.cls := findClass_of_methodNamed Bd.named
  have hnm := (name_of_methodNamed Bd.named Bd.method).1
  have X00 : Stand p l e ({ frames := 2, cells := 1, slots := 3, locals := 28 } : Room) s m #[(.ref s0)] below meth c s₁ [] 0 0 := Stand.of_body Bd
  have e00 : s₁.heap = h0 := by rw [← hh, Bd.state]; rfl
  have N00 := Fr.nil n0
  refine Classical.byContradiction fun hNG => ?_
  have K00 := Keep.refl h0 []
  have k00 : ∀ t, Db p e below m s₁ 0 #[.val (.ref s0), .unset, .unset, .unset, .unset] [] t → Kb p e below m s₁ #[(.ref s0)] 5 t := fun t k => castTop (Dba m s0 ) k
  obtain ⟨Ye, Ze, Ae, Be, Ue, Ve, Ke, Le, Dc, Wb, Ub, Vb, Bc, Yb, Pb, Rb, Ac, Zb, Lb, Mb, Hb, Gb, Hc, Gc, We, Re, Rc, De, Ab, Za, Ya⟩ := (id hE : EV Z Wa Va Ua Ra Ia Da Ha Ba Ga Aa Ma La Bb)
  obtain ⟨kw_USER_collectionName, Aw_USER_collectionName⟩ := Ab.arv
  obtain ⟨kw_GROUP_collectionName, Aw_GROUP_collectionName⟩ := Za.arv
  obtain ⟨kw_DEVICE_collectionName, Aw_DEVICE_collectionName⟩ := Ya.arv
  obtain ⟨_, _, ⟨T10, L10, k10, n10⟩, -, X10, ⟨Lc10, hQ10, l10, y10, z10⟩, st10⟩ := Jvm.LawKit.callS X00 hx (y := Mn) hown (mvT hZ (Ka hw 88 rfl)) (mvT hZ (Ka hw 89 rfl)) (mvT hZ (Ka hw 83 rfl)) (mvT hZ (Ka hw 90 rfl)) (by decide) (backOf (W := 0) (Vo l Z a0 hw []  _ _ _ _ _ _ _ _ _ _ _ _ _ h0 n0 O0 hE  ) hZ (Ka hw 90 rfl) (Ka hw 83 rfl) (by decide) (by decide)) (g := (mkF m 0 #[.val (.ref s0), .unset, .unset, .unset, .unset] [])) rfl (by rw [hml]; rfl) (argsL := []) (rest := []) (lenOf Pc rfl) rfl (by show 2 * 0 + _ ≤ _; exact Nat.le_of_eq rfl) (hb hby Wg) (fun _ _ => ⟨rfl, e00, (by decide : 0 + 1 ≤ _), (by decide : 0 + 3 ≤ _)⟩)
  dsimp only [Pt.U, Pt.locs, Pt.cells, Pt.slots] at X10 l10 y10 z10 st10 hQ10
  subst l10 y10 z10
  obtain ⟨b10, k10, rfl, N10q, O10, Kc10, g_b10, gs_b10, F10_0⟩ := hQ10
  have N10 := Fr.app N00 N10q
  have K10 := K00.trans Kc10 (fun x hx => nomatch hx)
  have s_b10 := Nat.le_trans K00.1 gs_b10
  have lt_b10 := F10_0.lt
  obtain ⟨cl11, Ar11, q11, Sz11, Nn11, Hs11, Gf11⟩ := id F10_0
  obtain ⟨cl12, Ar12, q12, Sz12, Nn12, Hs12, Gf12⟩ := id F10_0
  have hin13 : ¬ ((0 : Int32) < 0 ∨ cl12.slots.size ≤ ((0 : Int32)).toNatClampNeg) := inb_of Sz12 ⟨by decide, by decide⟩
  have hat14 : cl12.slots[((0 : Int32)).toNatClampNeg]? = some (.ref Wa) := Hs12.at hin13 rfl
  obtain ⟨T15, X15, e15, st15⟩ := getF X10 hx hZ hown (host := "") (Or.inl (Ka hw 105 rfl)) Via.refl rfl (Dc.ext O10.2) (g := (mkF m 21 #[.val (.ref s0), .val (.ref b10), .val (.int 3), .val (.int 0), .val (.ref Wa)] [(.ref Wa)])) rfl rfl (hb hby Md)
  have f16 := (P0.keep Kc10)
  have f17 := (P2.keep Kc10 List.not_mem_nil)
  have f18 := (P1.keep Kc10 List.not_mem_nil)
  have f19 := (P3.keep Kc10 List.not_mem_nil)
  obtain ⟨cq20, kq20, q20a, q20b, q20c⟩ := isOf hZ e15 (Wb.ext O10.2)
  obtain ⟨_, _, ⟨T20, L20, k20, n20⟩, -, X20, ⟨Lc20, hQ20, l20, y20, z20⟩, st20⟩ := X15.virtualBack hx (y := Vc) (z := Vc) hown (mvT hZ (Ka hw 107 rfl)) (mvT hZ (Ka hw 74 rfl)) (notFace_of_selects (args := #[]) (mvT hZ (Ka hw 76 rfl))) (mvT hZ (Ka hw 76 rfl)) (mvT hZ (Ka hw 75 rfl)) (by decide) (StrChars.Road.eqW (W := 0) hZ (Ig hw) (kI := 4) (Ka hw 2 rfl) (Wb.ext O10.2) (Vb.ext O10.2) (Ub.ext O10.2) (Aw_USER_collectionName.ext O10.2) Rh (Zc _ Hh) (Nat.le_of_ble_eq_true rfl) f16 f17 f18 f19 hcd (Zc _ hbd) hl2 (Hb.ext O10.2) Gb (by decide) (by decide)) q20a q20c (g := (mkF m 25 #[.val (.ref s0), .val (.ref b10), .val (.int 3), .val (.int 0), .val (.ref Wa)] [(.ref s0), (.ref Ia)])) rfl (by rw [hml]; rfl) (Steps.refl _) (argsL := [(.ref s0)]) (rest := []) (lenOf Ic rfl) rfl (by show 2 * 0 + _ ≤ _; exact Nat.le_of_eq rfl) (hb hby Rd) (fun _ _ => ⟨rfl, e15, (by decide : 1 + 0 ≤ _), (by decide : 3 + 0 ≤ _)⟩)
  dsimp only [Pt.U, Pt.locs, Pt.cells, Pt.slots] at X20 l20 y20 z20 st20 hQ20
  subst l20 y20 z20
  obtain ⟨hcase20, rfl, hp20⟩ := hQ20
  have N20q : Fr n0 ([] : List Loc) := Fr.nil n0
  have hv20 : _ = some (Value.int 0) := hcase20.elim (fun q => absurd q.2 (fun q => m0 q.symm)) (fun q => q.1)
  subst hv20
  have N20 := Fr.app N10 N20q
  obtain ⟨cl21, Ar21, q21, Sz21, Nn21, Hs21, Gf21⟩ := id F10_0
  have hin22 : ¬ ((1 : Int32) < 0 ∨ cl21.slots.size ≤ ((1 : Int32)).toNatClampNeg) := inb_of Sz21 ⟨by decide, by decide⟩
  have hat23 : cl21.slots[((1 : Int32)).toNatClampNeg]? = some (.ref Ua) := Hs21.at hin22 rfl
  obtain ⟨T24, X24, e24, st24⟩ := getF X20 hx hZ hown (host := "") (Or.inl (Ka hw 105 rfl)) Via.refl hp20 (Bc.ext O10.2) (g := (mkF m 21 #[.val (.ref s0), .val (.ref b10), .val (.int 3), .val (.int 1), .val (.ref Ua)] [(.ref Ua)])) rfl rfl (hb hby Md)
  obtain ⟨cq25, kq25, q25a, q25b, q25c⟩ := isOf hZ e24 (Yb.ext O10.2)
  obtain ⟨_, _, ⟨T25, L25, k25, n25⟩, -, X25, ⟨Lc25, hQ25, l25, y25, z25⟩, st25⟩ := X24.virtualBack hx (y := Vc) (z := Vc) hown (mvT hZ (Ka hw 107 rfl)) (mvT hZ (Ka hw 74 rfl)) (notFace_of_selects (args := #[]) (mvT hZ (Ka hw 76 rfl))) (mvT hZ (Ka hw 76 rfl)) (mvT hZ (Ka hw 75 rfl)) (by decide) (StrChars.Road.eqW (W := 0) hZ (Ig hw) (kI := 4) (Ka hw 2 rfl) (Yb.ext O10.2) (Rb.ext O10.2) (Pb.ext O10.2) (Aw_GROUP_collectionName.ext O10.2) Yh (Zc _ Ih) (Nat.le_of_ble_eq_true rfl) f16 f17 f18 f19 hcd (Zc _ hbd) hl2 (Hb.ext O10.2) Gb (by decide) (by decide)) q25a q25c (g := (mkF m 25 #[.val (.ref s0), .val (.ref b10), .val (.int 3), .val (.int 1), .val (.ref Ua)] [(.ref s0), (.ref Ha)])) rfl (by rw [hml]; rfl) (Steps.refl _) (argsL := [(.ref s0)]) (rest := []) (lenOf Ic rfl) rfl (by show 2 * 0 + _ ≤ _; exact Nat.le_of_eq rfl) (hb hby Rd) (fun _ _ => ⟨rfl, e24, (by decide : 1 + 0 ≤ _), (by decide : 3 + 0 ≤ _)⟩)
  dsimp only [Pt.U, Pt.locs, Pt.cells, Pt.slots] at X25 l25 y25 z25 st25 hQ25
  subst l25 y25 z25
  obtain ⟨hcase25, rfl, hp25⟩ := hQ25
  have N25q : Fr n0 ([] : List Loc) := Fr.nil n0
  have hv25 : _ = some (Value.int 0) := hcase25.elim (fun q => absurd q.2 (fun q => m1 q.symm)) (fun q => q.1)
  subst hv25
  have N25 := Fr.app N20 N25q
  obtain ⟨cl26, Ar26, q26, Sz26, Nn26, Hs26, Gf26⟩ := id F10_0
  have hin27 : ¬ ((2 : Int32) < 0 ∨ cl26.slots.size ≤ ((2 : Int32)).toNatClampNeg) := inb_of Sz26 ⟨by decide, by decide⟩
  have hat28 : cl26.slots[((2 : Int32)).toNatClampNeg]? = some (.ref Ra) := Hs26.at hin27 rfl
  obtain ⟨T29, X29, e29, st29⟩ := getF X25 hx hZ hown (host := "") (Or.inl (Ka hw 105 rfl)) Via.refl hp25 (Ac.ext O10.2) (g := (mkF m 21 #[.val (.ref s0), .val (.ref b10), .val (.int 3), .val (.int 2), .val (.ref Ra)] [(.ref Ra)])) rfl rfl (hb hby Md)
  obtain ⟨cq30, kq30, q30a, q30b, q30c⟩ := isOf hZ e29 (Zb.ext O10.2)
  obtain ⟨_, _, ⟨T30, L30, k30, n30⟩, -, X30, ⟨Lc30, hQ30, l30, y30, z30⟩, st30⟩ := X29.virtualBack hx (y := Vc) (z := Vc) hown (mvT hZ (Ka hw 107 rfl)) (mvT hZ (Ka hw 74 rfl)) (notFace_of_selects (args := #[]) (mvT hZ (Ka hw 76 rfl))) (mvT hZ (Ka hw 76 rfl)) (mvT hZ (Ka hw 75 rfl)) (by decide) (StrChars.Road.eqW (W := 0) hZ (Ig hw) (kI := 4) (Ka hw 2 rfl) (Zb.ext O10.2) (Mb.ext O10.2) (Lb.ext O10.2) (Aw_DEVICE_collectionName.ext O10.2) Bi (Zc _ Mh) (Nat.le_of_ble_eq_true rfl) f16 f17 f18 f19 hcd (Zc _ hbd) hl2 (Hb.ext O10.2) Gb (by decide) (by decide)) q30a q30c (g := (mkF m 25 #[.val (.ref s0), .val (.ref b10), .val (.int 3), .val (.int 2), .val (.ref Ra)] [(.ref s0), (.ref Ga)])) rfl (by rw [hml]; rfl) (Steps.refl _) (argsL := [(.ref s0)]) (rest := []) (lenOf Ic rfl) rfl (by show 2 * 0 + _ ≤ _; exact Nat.le_of_eq rfl) (hb hby Rd) (fun _ _ => ⟨rfl, e29, (by decide : 1 + 0 ≤ _), (by decide : 3 + 0 ≤ _)⟩)
  dsimp only [Pt.U, Pt.locs, Pt.cells, Pt.slots] at X30 l30 y30 z30 st30 hQ30
  subst l30 y30 z30
  obtain ⟨hcase30, rfl, hp30⟩ := hQ30
  have N30q : Fr n0 ([] : List Loc) := Fr.nil n0
  have hv30 : _ = some (Value.int 0) := hcase30.elim (fun q => absurd q.2 (fun q => m2 q.symm)) (fun q => q.1)
  subst hv30
  have N30 := Fr.app N25 N30q
  obtain ⟨_, _, ⟨T31, L31, k31, n31⟩, -, X31, ⟨Lc31, hQ31, l31, y31, z31⟩, st31⟩ := Jvm.LawKit.callS X30 hx (y := K7) hown (mvT hZ (Ka hw 135 rfl)) (mvT hZ (Ka hw 136 rfl)) (mvT hZ (Ka hw 110 rfl)) (mvT hZ (Ka hw 137 rfl)) (by decide) (backOf (W := 0) (K9 l Z a0 hw []  _ _ _ _ _ _ _ _ _ _ _ _ _ T10.heap n0 O10 hE  ) hZ (Ka hw 137 rfl) (Ka hw 110 rfl) (by decide) (by decide)) (g := (mkF m 43 #[.val (.ref s0), .val (.ref b10), .val (.int 3), .val (.int 3), .val (.ref Ra)] [])) rfl (by rw [hml]; rfl) (argsL := []) (rest := []) (lenOf Yj rfl) rfl (by show 2 * 0 + _ ≤ _; exact Nat.le_of_eq rfl) (hb hby Wj) (fun _ _ => ⟨rfl, hp30, (by decide : 1 + 0 ≤ _), (by decide : 3 + 0 ≤ _)⟩)
  dsimp only [Pt.U, Pt.locs, Pt.cells, Pt.slots] at X31 l31 y31 z31 st31 hQ31
  subst l31 y31 z31
  obtain ⟨rfl, N31q, hp31⟩ := hQ31
  have N31 := Fr.app N30 N31q
  have k32 : ∀ t, Db p e below m T31 46 #[.val (.ref s0), .val (.ref b10), .val (.int 3), .val (.int 3), .val (.ref Ra)] [(.ref Bb)] t → Kb p e below m s₁ #[(.ref s0)] 5 t := by
    intro t k
    refine k00 t ?_
    refine st10 _ ?_
    refine XS.astoreN X10.here hx rfl (hb hby Yg) rfl rfl (l' := #[.val (.ref s0), .val (.ref b10), .unset, .unset, .unset]) rfl ?_
    refine XS.aloadN X10.here hx rfl (hb hby Zg) rfl rfl ?_
    refine X10.arraylength hx (by exact Ar11.1) (State.isArrayOf_alike hZ.alike Ar11.2.1) (g := (mkF m 5 #[.val (.ref s0), .val (.ref b10), .unset, .unset, .unset] [(.ref b10)])) rfl rfl (hb hby Ah) _ ?_
    rw [len_of Sz11 Nn11]
    refine XS.istoreN X10.here hx rfl (hb hby Bh) rfl (l' := #[.val (.ref s0), .val (.ref b10), .val (.int 3), .unset, .unset]) rfl ?_
    refine XS.iconst X10.here hx rfl (hb hby Dh) ?_
    refine XS.istoreN X10.here hx rfl (hb hby Gh) rfl (l' := #[.val (.ref s0), .val (.ref b10), .val (.int 3), .val (.int 0), .unset]) rfl ?_
    refine XS.iloadN X10.here hx rfl (hb hby Ad) rfl ?_
    refine XS.iloadN X10.here hx rfl (hb hby Wc) rfl ?_
    refine XS.icmpNo X10.here hx rfl (hb hby Yc) rfl (tlt (by decide : (0 : Int32) < (3 : Int32))).2.1 ?_
    refine XS.aloadN X10.here hx rfl (hb hby Gd) rfl rfl ?_
    refine XS.iloadN X10.here hx rfl (hb hby Hd) rfl ?_
    show Db p e below m T10 16 #[.val (.ref s0), .val (.ref b10), .val (.int 3), .val (.int 0), .unset] [(.int 0), (.ref b10)] t
    refine X10.aaload hx (j := (0 : Int32)) (v := (.ref Wa)) (by exact Ar12.1) (State.isArrayOf_alike hZ.alike Ar12.2.1) rfl Ar12.2.2 hin13 hat14 (g := (mkF m 16 #[.val (.ref s0), .val (.ref b10), .val (.int 3), .val (.int 0), .unset] [(.int 0), (.ref b10)])) rfl rfl (hb hby Id) _ ?_
    refine XS.astore X10.here hx rfl (hb hby Kd) rfl rfl (l' := #[.val (.ref s0), .val (.ref b10), .val (.int 3), .val (.int 0), .val (.ref Wa)]) rfl ?_
    refine XS.aload X10.here hx rfl (hb hby Ld) rfl rfl ?_
    refine st15 _ ?_
    refine XS.aloadN X15.here hx rfl (hb hby Pd) rfl rfl ?_
    refine st20.trans ?_
    refine XS.ifYes X20.here hx rfl (pc0 := 28) (pc' := 37) rfl (hb hby Ud) rfl ((if0 _ _).trans (teq (by decide : (0 : Int32) = (0 : Int32))).1) (by decide) (by decide) ?_
    refine XS.iinc X20.here hx rfl (hb hby He) rfl (l' := #[.val (.ref s0), .val (.ref b10), .val (.int 3), .val (.int ((0 : Int32) + (1 : Int32))), .val (.ref Wa)]) rfl ?_
    show Db p e below m T20 40 #[.val (.ref s0), .val (.ref b10), .val (.int 3), .val (.int ((0 : Int32) + (1 : Int32))), .val (.ref Wa)] [] t
    rw [show ((0 : Int32) + (1 : Int32)) = (1 : Int32) from by decide]
    refine XS.goto X20.here hx rfl (pc0 := 40) (pc' := 9) rfl (hb hby Ie) (by decide) (by decide) ?_
    refine XS.iloadN X20.here hx rfl (hb hby Ad) rfl ?_
    refine XS.iloadN X20.here hx rfl (hb hby Wc) rfl ?_
    show Db p e below m T20 11 #[.val (.ref s0), .val (.ref b10), .val (.int 3), .val (.int 1), .val (.ref Wa)] [(.int 3), (.int 1)] t
    refine XS.icmpNo X20.here hx rfl (hb hby Yc) rfl (tlt (by decide : (1 : Int32) < (3 : Int32))).2.1 ?_
    refine XS.aloadN X20.here hx rfl (hb hby Gd) rfl rfl ?_
    refine XS.iloadN X20.here hx rfl (hb hby Hd) rfl ?_
    refine X20.aaload hx (j := (1 : Int32)) (v := (.ref Ua)) (by rw [hp20]; exact Ar21.1) (State.isArrayOf_alike hZ.alike Ar21.2.1) rfl Ar21.2.2 hin22 hat23 (g := (mkF m 16 #[.val (.ref s0), .val (.ref b10), .val (.int 3), .val (.int 1), .val (.ref Wa)] [(.int 1), (.ref b10)])) rfl rfl (hb hby Id) _ ?_
    refine XS.astore X20.here hx rfl (hb hby Kd) rfl rfl (l' := #[.val (.ref s0), .val (.ref b10), .val (.int 3), .val (.int 1), .val (.ref Ua)]) rfl ?_
    refine XS.aload X20.here hx rfl (hb hby Ld) rfl rfl ?_
    refine st24 _ ?_
    refine XS.aloadN X24.here hx rfl (hb hby Pd) rfl rfl ?_
    refine st25.trans ?_
    refine XS.ifYes X25.here hx rfl (pc0 := 28) (pc' := 37) rfl (hb hby Ud) rfl ((if0 _ _).trans (teq (by decide : (0 : Int32) = (0 : Int32))).1) (by decide) (by decide) ?_
    refine XS.iinc X25.here hx rfl (hb hby He) rfl (l' := #[.val (.ref s0), .val (.ref b10), .val (.int 3), .val (.int ((1 : Int32) + (1 : Int32))), .val (.ref Ua)]) rfl ?_
    show Db p e below m T25 40 #[.val (.ref s0), .val (.ref b10), .val (.int 3), .val (.int ((1 : Int32) + (1 : Int32))), .val (.ref Ua)] [] t
    rw [show ((1 : Int32) + (1 : Int32)) = (2 : Int32) from by decide]
    show Db p e below m T25 40 #[.val (.ref s0), .val (.ref b10), .val (.int 3), .val (.int 2), .val (.ref Ua)] [] t
    refine XS.goto X25.here hx rfl (pc0 := 40) (pc' := 9) rfl (hb hby Ie) (by decide) (by decide) ?_
    refine XS.iloadN X25.here hx rfl (hb hby Ad) rfl ?_
    refine XS.iloadN X25.here hx rfl (hb hby Wc) rfl ?_
    refine XS.icmpNo X25.here hx rfl (hb hby Yc) rfl (tlt (by decide : (2 : Int32) < (3 : Int32))).2.1 ?_
    refine XS.aloadN X25.here hx rfl (hb hby Gd) rfl rfl ?_
    refine XS.iloadN X25.here hx rfl (hb hby Hd) rfl ?_
    refine X25.aaload hx (j := (2 : Int32)) (v := (.ref Ra)) (by rw [hp25]; exact Ar26.1) (State.isArrayOf_alike hZ.alike Ar26.2.1) rfl Ar26.2.2 hin27 hat28 (g := (mkF m 16 #[.val (.ref s0), .val (.ref b10), .val (.int 3), .val (.int 2), .val (.ref Ua)] [(.int 2), (.ref b10)])) rfl rfl (hb hby Id) _ ?_
    refine XS.astore X25.here hx rfl (hb hby Kd) rfl rfl (l' := #[.val (.ref s0), .val (.ref b10), .val (.int 3), .val (.int 2), .val (.ref Ra)]) rfl ?_
    refine XS.aload X25.here hx rfl (hb hby Ld) rfl rfl ?_
    refine st29 _ ?_
    refine XS.aloadN X29.here hx rfl (hb hby Pd) rfl rfl ?_
    refine st30.trans ?_
    show Db p e below m T30 28 #[.val (.ref s0), .val (.ref b10), .val (.int 3), .val (.int 2), .val (.ref Ra)] [(.int 0)] t
    refine XS.ifYes X30.here hx rfl (pc0 := 28) (pc' := 37) rfl (hb hby Ud) rfl ((if0 _ _).trans (teq (by decide : (0 : Int32) = (0 : Int32))).1) (by decide) (by decide) ?_
    refine XS.iinc X30.here hx rfl (hb hby He) rfl (l' := #[.val (.ref s0), .val (.ref b10), .val (.int 3), .val (.int ((2 : Int32) + (1 : Int32))), .val (.ref Ra)]) rfl ?_
    show Db p e below m T30 40 #[.val (.ref s0), .val (.ref b10), .val (.int 3), .val (.int ((2 : Int32) + (1 : Int32))), .val (.ref Ra)] [] t
    rw [show ((2 : Int32) + (1 : Int32)) = (3 : Int32) from by decide]
    refine XS.goto X30.here hx rfl (pc0 := 40) (pc' := 9) rfl (hb hby Ie) (by decide) (by decide) ?_
    refine XS.iloadN X30.here hx rfl (hb hby Ad) rfl ?_
    refine XS.iloadN X30.here hx rfl (hb hby Wc) rfl ?_
    refine XS.icmpYes X30.here hx rfl (pc0 := 11) (pc' := 43) rfl (hb hby Yc) rfl (flt (by decide : ¬ ((3 : Int32) < (3 : Int32)))).2.1 (by decide) (by decide) ?_
    refine st31 _ ?_
    exact k
  obtain ⟨fs, hr, hrun, hended, hW, hsame⟩ := X31.leave (v := some (.ref Bb)) (fun h => by rw [Bd.returns] at h; cases h)
  refine hNG ⟨_, _, k32 _ ?_, hrun, hended, _, _, rfl, ?_, ⟨_, rfl⟩, hW, hsame.mono (by decide) (by decide)⟩
  · exact retOut X31 hx (t := (.object "java/util/Optional")) Bd.returns rfl (Or.inr (Or.inr (Or.inr (Or.inr ⟨rfl, rfl, rfl⟩)))) (hb hby Zj) hr
  · show R9 Z s0 v0 kv z0 vs0 cs0 Wa Va Ua Ra Ia Da Ha Ba Ga Aa Ma La Bb h0 n0 _ T31.heap _
    rw [hp31]
    exact ⟨rfl, N31, O10, K10⟩
theorem Gba (m : MethodId)   : entryFrame m #[.null] 5 = mkF m 0 #[.val .null, .unset, .unset, .unset, .unset] [] := by first | (simp [entryFrame, mkF, argsToLocals, Value.category]; done) | rfl
def U9 (Z : State) (Wa : Addr) (Va : Addr) (Ua : Addr) (Ra : Addr) (Ia : Addr) (Da : Addr) (Ha : Addr) (Ba : Addr) (Ga : Addr) (Aa : Addr) (Ma : Int32) (La : Value) (Bb : Addr) (h0 : Heap) (n0 : Nat) (v : Option Value) (h : Heap) (L : List Loc) : Prop := v = some (.ref Bb) ∧ Fr n0 L ∧ Old Z n0 h ∧ Keep h0 h []
set_option maxRecDepth 65536 in
set_option maxHeartbeats 40000000 in
theorem G9 (l : Launch) (Z : State) (a0 : Array Value) (hw : ∀ d ∈ tables_1, d.before a0 Z = true) (ws : List Jvm.Cond) (Wa : Addr) (Va : Addr) (Ua : Addr) (Ra : Addr) (Ia : Addr) (Da : Addr) (Ha : Addr) (Ba : Addr) (Ga : Addr) (Aa : Addr) (Ma : Int32) (La : Value) (Bb : Addr) (h0 : Heap) (n0 : Nat) (O0 : Old Z n0 h0) (hE : EV Z Wa Va Ua Ra Ia Da Ha Ba Ga Aa Ma La Bb) :
    MetFree l Vg (head1 (Jvm.Cond.code Vg prog_3_method_6_code 5 (some (.object "java/util/Optional")) :: ws) ({ frames := 2, cells := 1, slots := 3, locals := 25 } : Room)) (fun a U => a = #[.null] ∧ Z.Warmed39 U.vm ∧ U.heap = h0) (fun _ _ _ _ _ => True) (fun _ U o U' => ∃ v L, o = .returned v ∧ U9 Z Wa Va Ua Ra Ia Da Ha Ba Ga Aa Ma La Bb h0 n0 v U'.heap L ∧ FrameEnd U o U' L ({ frames := 2, cells := 1, slots := 3, locals := 25 } : Room).cells ({ frames := 2, cells := 1, slots := 3, locals := 25 } : Room).slots) := by
  refine MetFree.of_bodySF (plainFor_of_name Lc) hisR ?_
  intro p e s m args below meth c s₁ Bd hml0 hP hK
  obtain ⟨rfl, hZ, hh⟩ := hP
  have hx := Bd.exec
  have hby := Bd.bytes
  have hml : c.maxLocals = 5 := hml0
  have hown : s.vm.findClass "com/example/entitlement_ledger/entitlementledger/model/AssigneeKind" = some m.cls := findClass_of_methodNamed Bd.named
  have hnm := (name_of_methodNamed Bd.named Bd.method).1
  have X00 : Stand p l e ({ frames := 2, cells := 1, slots := 3, locals := 25 } : Room) s m #[.null] below meth c s₁ [] 0 0 := Stand.of_body Bd
  have e00 : s₁.heap = h0 := by rw [← hh, Bd.state]; rfl
  have N00 := Fr.nil n0
  refine Classical.byContradiction fun hNG => ?_
  have K00 := Keep.refl h0 []
  have k00 : ∀ t, Db p e below m s₁ 0 #[.val .null, .unset, .unset, .unset, .unset] [] t → Kb p e below m s₁ #[.null] 5 t := fun t k => castTop (Gba m  ) k
  obtain ⟨Ye, Ze, Ae, Be, Ue, Ve, Ke, Le, Dc, Wb, Ub, Vb, Bc, Yb, Pb, Rb, Ac, Zb, Lb, Mb, Hb, Gb, Hc, Gc, We, Re, Rc, De, Ab, Za, Ya⟩ := (id hE : EV Z Wa Va Ua Ra Ia Da Ha Ba Ga Aa Ma La Bb)
  obtain ⟨kw_USER_collectionName, Aw_USER_collectionName⟩ := Ab.arv
  obtain ⟨kw_GROUP_collectionName, Aw_GROUP_collectionName⟩ := Za.arv
  obtain ⟨kw_DEVICE_collectionName, Aw_DEVICE_collectionName⟩ := Ya.arv
  obtain ⟨_, _, ⟨T10, L10, k10, n10⟩, -, X10, ⟨Lc10, hQ10, l10, y10, z10⟩, st10⟩ := Jvm.LawKit.callS X00 hx (y := Mn) hown (mvT hZ (Ka hw 88 rfl)) (mvT hZ (Ka hw 89 rfl)) (mvT hZ (Ka hw 83 rfl)) (mvT hZ (Ka hw 90 rfl)) (by decide) (backOf (W := 0) (Vo l Z a0 hw []  _ _ _ _ _ _ _ _ _ _ _ _ _ h0 n0 O0 hE  ) hZ (Ka hw 90 rfl) (Ka hw 83 rfl) (by decide) (by decide)) (g := (mkF m 0 #[.val .null, .unset, .unset, .unset, .unset] [])) rfl (by rw [hml]; rfl) (argsL := []) (rest := []) (lenOf Pc rfl) rfl (by show 2 * 0 + _ ≤ _; exact Nat.le_of_eq rfl) (hb hby Wg) (fun _ _ => ⟨rfl, e00, (by decide : 0 + 1 ≤ _), (by decide : 0 + 3 ≤ _)⟩)
  dsimp only [Pt.U, Pt.locs, Pt.cells, Pt.slots] at X10 l10 y10 z10 st10 hQ10
  subst l10 y10 z10
  obtain ⟨b10, k10, rfl, N10q, O10, Kc10, g_b10, gs_b10, F10_0⟩ := hQ10
  have N10 := Fr.app N00 N10q
  have K10 := K00.trans Kc10 (fun x hx => nomatch hx)
  have s_b10 := Nat.le_trans K00.1 gs_b10
  have lt_b10 := F10_0.lt
  obtain ⟨cl11, Ar11, q11, Sz11, Nn11, Hs11, Gf11⟩ := id F10_0
  obtain ⟨cl12, Ar12, q12, Sz12, Nn12, Hs12, Gf12⟩ := id F10_0
  have hin13 : ¬ ((0 : Int32) < 0 ∨ cl12.slots.size ≤ ((0 : Int32)).toNatClampNeg) := inb_of Sz12 ⟨by decide, by decide⟩
  have hat14 : cl12.slots[((0 : Int32)).toNatClampNeg]? = some (.ref Wa) := Hs12.at hin13 rfl
  obtain ⟨T15, X15, e15, st15⟩ := getF X10 hx hZ hown (host := "") (Or.inl (Ka hw 105 rfl)) Via.refl rfl (Dc.ext O10.2) (g := (mkF m 21 #[.val .null, .val (.ref b10), .val (.int 3), .val (.int 0), .val (.ref Wa)] [(.ref Wa)])) rfl rfl (hb hby Md)
  obtain ⟨cq16, kq16, q16a, q16b, q16c⟩ := isOf hZ e15 (Wb.ext O10.2)
  obtain ⟨_, _, ⟨T16, L16, k16, n16⟩, -, X16, ⟨Lc16, hQ16, l16, y16, z16⟩, st16⟩ := X15.virtualBack hx (y := Vc) (z := Vc) hown (mvT hZ (Ka hw 107 rfl)) (mvT hZ (Ka hw 74 rfl)) (notFace_of_selects (args := #[]) (mvT hZ (Ka hw 76 rfl))) (mvT hZ (Ka hw 76 rfl)) (mvT hZ (Ka hw 75 rfl)) (by decide) (backOf (W := 0) (Dm l Z a0 hw []  _ _ _ _ _ _ _ _ _ _ _ _ _ T10.heap n0 O10 hE  ) hZ (Ka hw 77 rfl) (Ka hw 1 rfl) (by decide) (by decide)) q16a q16c (g := (mkF m 25 #[.val .null, .val (.ref b10), .val (.int 3), .val (.int 0), .val (.ref Wa)] [.null, (.ref Ia)])) rfl (by rw [hml]; rfl) (Steps.refl _) (argsL := [.null]) (rest := []) (lenOf Ic rfl) rfl (by show 2 * 0 + _ ≤ _; exact Nat.le_of_eq rfl) (hb hby Rd) (fun _ _ => ⟨rfl, e15, (by decide : 1 + 0 ≤ _), (by decide : 3 + 0 ≤ _)⟩)
  dsimp only [Pt.U, Pt.locs, Pt.cells, Pt.slots] at X16 l16 y16 z16 st16 hQ16
  subst l16 y16 z16
  obtain ⟨rfl, N16q, hp16⟩ := hQ16
  have N16 := Fr.app N10 N16q
  obtain ⟨cl17, Ar17, q17, Sz17, Nn17, Hs17, Gf17⟩ := id F10_0
  have hin18 : ¬ ((1 : Int32) < 0 ∨ cl17.slots.size ≤ ((1 : Int32)).toNatClampNeg) := inb_of Sz17 ⟨by decide, by decide⟩
  have hat19 : cl17.slots[((1 : Int32)).toNatClampNeg]? = some (.ref Ua) := Hs17.at hin18 rfl
  obtain ⟨T20, X20, e20, st20⟩ := getF X16 hx hZ hown (host := "") (Or.inl (Ka hw 105 rfl)) Via.refl hp16 (Bc.ext O10.2) (g := (mkF m 21 #[.val .null, .val (.ref b10), .val (.int 3), .val (.int 1), .val (.ref Ua)] [(.ref Ua)])) rfl rfl (hb hby Md)
  obtain ⟨cq21, kq21, q21a, q21b, q21c⟩ := isOf hZ e20 (Yb.ext O10.2)
  obtain ⟨_, _, ⟨T21, L21, k21, n21⟩, -, X21, ⟨Lc21, hQ21, l21, y21, z21⟩, st21⟩ := X20.virtualBack hx (y := Vc) (z := Vc) hown (mvT hZ (Ka hw 107 rfl)) (mvT hZ (Ka hw 74 rfl)) (notFace_of_selects (args := #[]) (mvT hZ (Ka hw 76 rfl))) (mvT hZ (Ka hw 76 rfl)) (mvT hZ (Ka hw 75 rfl)) (by decide) (backOf (W := 0) (Il l Z a0 hw []  _ _ _ _ _ _ _ _ _ _ _ _ _ T10.heap n0 O10 hE  ) hZ (Ka hw 77 rfl) (Ka hw 1 rfl) (by decide) (by decide)) q21a q21c (g := (mkF m 25 #[.val .null, .val (.ref b10), .val (.int 3), .val (.int 1), .val (.ref Ua)] [.null, (.ref Ha)])) rfl (by rw [hml]; rfl) (Steps.refl _) (argsL := [.null]) (rest := []) (lenOf Ic rfl) rfl (by show 2 * 0 + _ ≤ _; exact Nat.le_of_eq rfl) (hb hby Rd) (fun _ _ => ⟨rfl, e20, (by decide : 1 + 0 ≤ _), (by decide : 3 + 0 ≤ _)⟩)
  dsimp only [Pt.U, Pt.locs, Pt.cells, Pt.slots] at X21 l21 y21 z21 st21 hQ21
  subst l21 y21 z21
  obtain ⟨rfl, N21q, hp21⟩ := hQ21
  have N21 := Fr.app N16 N21q
  obtain ⟨cl22, Ar22, q22, Sz22, Nn22, Hs22, Gf22⟩ := id F10_0
  have hin23 : ¬ ((2 : Int32) < 0 ∨ cl22.slots.size ≤ ((2 : Int32)).toNatClampNeg) := inb_of Sz22 ⟨by decide, by decide⟩
  have hat24 : cl22.slots[((2 : Int32)).toNatClampNeg]? = some (.ref Ra) := Hs22.at hin23 rfl
  obtain ⟨T25, X25, e25, st25⟩ := getF X21 hx hZ hown (host := "") (Or.inl (Ka hw 105 rfl)) Via.refl hp21 (Ac.ext O10.2) (g := (mkF m 21 #[.val .null, .val (.ref b10), .val (.int 3), .val (.int 2), .val (.ref Ra)] [(.ref Ra)])) rfl rfl (hb hby Md)
  obtain ⟨cq26, kq26, q26a, q26b, q26c⟩ := isOf hZ e25 (Zb.ext O10.2)
  obtain ⟨_, _, ⟨T26, L26, k26, n26⟩, -, X26, ⟨Lc26, hQ26, l26, y26, z26⟩, st26⟩ := X25.virtualBack hx (y := Vc) (z := Vc) hown (mvT hZ (Ka hw 107 rfl)) (mvT hZ (Ka hw 74 rfl)) (notFace_of_selects (args := #[]) (mvT hZ (Ka hw 76 rfl))) (mvT hZ (Ka hw 76 rfl)) (mvT hZ (Ka hw 75 rfl)) (by decide) (backOf (W := 0) (Vk l Z a0 hw []  _ _ _ _ _ _ _ _ _ _ _ _ _ T10.heap n0 O10 hE  ) hZ (Ka hw 77 rfl) (Ka hw 1 rfl) (by decide) (by decide)) q26a q26c (g := (mkF m 25 #[.val .null, .val (.ref b10), .val (.int 3), .val (.int 2), .val (.ref Ra)] [.null, (.ref Ga)])) rfl (by rw [hml]; rfl) (Steps.refl _) (argsL := [.null]) (rest := []) (lenOf Ic rfl) rfl (by show 2 * 0 + _ ≤ _; exact Nat.le_of_eq rfl) (hb hby Rd) (fun _ _ => ⟨rfl, e25, (by decide : 1 + 0 ≤ _), (by decide : 3 + 0 ≤ _)⟩)
  dsimp only [Pt.U, Pt.locs, Pt.cells, Pt.slots] at X26 l26 y26 z26 st26 hQ26
  subst l26 y26 z26
  obtain ⟨rfl, N26q, hp26⟩ := hQ26
  have N26 := Fr.app N21 N26q
  obtain ⟨_, _, ⟨T27, L27, k27, n27⟩, -, X27, ⟨Lc27, hQ27, l27, y27, z27⟩, st27⟩ := Jvm.LawKit.callS X26 hx (y := K7) hown (mvT hZ (Ka hw 135 rfl)) (mvT hZ (Ka hw 136 rfl)) (mvT hZ (Ka hw 110 rfl)) (mvT hZ (Ka hw 137 rfl)) (by decide) (backOf (W := 0) (K9 l Z a0 hw []  _ _ _ _ _ _ _ _ _ _ _ _ _ T10.heap n0 O10 hE  ) hZ (Ka hw 137 rfl) (Ka hw 110 rfl) (by decide) (by decide)) (g := (mkF m 43 #[.val .null, .val (.ref b10), .val (.int 3), .val (.int 3), .val (.ref Ra)] [])) rfl (by rw [hml]; rfl) (argsL := []) (rest := []) (lenOf Yj rfl) rfl (by show 2 * 0 + _ ≤ _; exact Nat.le_of_eq rfl) (hb hby Wj) (fun _ _ => ⟨rfl, hp26, (by decide : 1 + 0 ≤ _), (by decide : 3 + 0 ≤ _)⟩)
  dsimp only [Pt.U, Pt.locs, Pt.cells, Pt.slots] at X27 l27 y27 z27 st27 hQ27
  subst l27 y27 z27
  obtain ⟨rfl, N27q, hp27⟩ := hQ27
  have N27 := Fr.app N26 N27q
  have k28 : ∀ t, Db p e below m T27 46 #[.val .null, .val (.ref b10), .val (.int 3), .val (.int 3), .val (.ref Ra)] [(.ref Bb)] t → Kb p e below m s₁ #[.null] 5 t := by
    intro t k
    refine k00 t ?_
    refine st10 _ ?_
    refine XS.astoreN X10.here hx rfl (hb hby Yg) rfl rfl (l' := #[.val .null, .val (.ref b10), .unset, .unset, .unset]) rfl ?_
    refine XS.aloadN X10.here hx rfl (hb hby Zg) rfl rfl ?_
    refine X10.arraylength hx (by exact Ar11.1) (State.isArrayOf_alike hZ.alike Ar11.2.1) (g := (mkF m 5 #[.val .null, .val (.ref b10), .unset, .unset, .unset] [(.ref b10)])) rfl rfl (hb hby Ah) _ ?_
    rw [len_of Sz11 Nn11]
    refine XS.istoreN X10.here hx rfl (hb hby Bh) rfl (l' := #[.val .null, .val (.ref b10), .val (.int 3), .unset, .unset]) rfl ?_
    refine XS.iconst X10.here hx rfl (hb hby Dh) ?_
    refine XS.istoreN X10.here hx rfl (hb hby Gh) rfl (l' := #[.val .null, .val (.ref b10), .val (.int 3), .val (.int 0), .unset]) rfl ?_
    refine XS.iloadN X10.here hx rfl (hb hby Ad) rfl ?_
    refine XS.iloadN X10.here hx rfl (hb hby Wc) rfl ?_
    refine XS.icmpNo X10.here hx rfl (hb hby Yc) rfl (tlt (by decide : (0 : Int32) < (3 : Int32))).2.1 ?_
    refine XS.aloadN X10.here hx rfl (hb hby Gd) rfl rfl ?_
    refine XS.iloadN X10.here hx rfl (hb hby Hd) rfl ?_
    show Db p e below m T10 16 #[.val .null, .val (.ref b10), .val (.int 3), .val (.int 0), .unset] [(.int 0), (.ref b10)] t
    refine X10.aaload hx (j := (0 : Int32)) (v := (.ref Wa)) (by exact Ar12.1) (State.isArrayOf_alike hZ.alike Ar12.2.1) rfl Ar12.2.2 hin13 hat14 (g := (mkF m 16 #[.val .null, .val (.ref b10), .val (.int 3), .val (.int 0), .unset] [(.int 0), (.ref b10)])) rfl rfl (hb hby Id) _ ?_
    refine XS.astore X10.here hx rfl (hb hby Kd) rfl rfl (l' := #[.val .null, .val (.ref b10), .val (.int 3), .val (.int 0), .val (.ref Wa)]) rfl ?_
    refine XS.aload X10.here hx rfl (hb hby Ld) rfl rfl ?_
    refine st15 _ ?_
    refine XS.aloadN X15.here hx rfl (hb hby Pd) rfl rfl ?_
    refine st16.trans ?_
    refine XS.ifYes X16.here hx rfl (pc0 := 28) (pc' := 37) rfl (hb hby Ud) rfl ((if0 _ _).trans (teq (by decide : (0 : Int32) = (0 : Int32))).1) (by decide) (by decide) ?_
    refine XS.iinc X16.here hx rfl (hb hby He) rfl (l' := #[.val .null, .val (.ref b10), .val (.int 3), .val (.int ((0 : Int32) + (1 : Int32))), .val (.ref Wa)]) rfl ?_
    show Db p e below m T16 40 #[.val .null, .val (.ref b10), .val (.int 3), .val (.int ((0 : Int32) + (1 : Int32))), .val (.ref Wa)] [] t
    rw [show ((0 : Int32) + (1 : Int32)) = (1 : Int32) from by decide]
    refine XS.goto X16.here hx rfl (pc0 := 40) (pc' := 9) rfl (hb hby Ie) (by decide) (by decide) ?_
    refine XS.iloadN X16.here hx rfl (hb hby Ad) rfl ?_
    refine XS.iloadN X16.here hx rfl (hb hby Wc) rfl ?_
    show Db p e below m T16 11 #[.val .null, .val (.ref b10), .val (.int 3), .val (.int 1), .val (.ref Wa)] [(.int 3), (.int 1)] t
    refine XS.icmpNo X16.here hx rfl (hb hby Yc) rfl (tlt (by decide : (1 : Int32) < (3 : Int32))).2.1 ?_
    refine XS.aloadN X16.here hx rfl (hb hby Gd) rfl rfl ?_
    refine XS.iloadN X16.here hx rfl (hb hby Hd) rfl ?_
    refine X16.aaload hx (j := (1 : Int32)) (v := (.ref Ua)) (by rw [hp16]; exact Ar17.1) (State.isArrayOf_alike hZ.alike Ar17.2.1) rfl Ar17.2.2 hin18 hat19 (g := (mkF m 16 #[.val .null, .val (.ref b10), .val (.int 3), .val (.int 1), .val (.ref Wa)] [(.int 1), (.ref b10)])) rfl rfl (hb hby Id) _ ?_
    refine XS.astore X16.here hx rfl (hb hby Kd) rfl rfl (l' := #[.val .null, .val (.ref b10), .val (.int 3), .val (.int 1), .val (.ref Ua)]) rfl ?_
    refine XS.aload X16.here hx rfl (hb hby Ld) rfl rfl ?_
    refine st20 _ ?_
    refine XS.aloadN X20.here hx rfl (hb hby Pd) rfl rfl ?_
    refine st21.trans ?_
    refine XS.ifYes X21.here hx rfl (pc0 := 28) (pc' := 37) rfl (hb hby Ud) rfl ((if0 _ _).trans (teq (by decide : (0 : Int32) = (0 : Int32))).1) (by decide) (by decide) ?_
    refine XS.iinc X21.here hx rfl (hb hby He) rfl (l' := #[.val .null, .val (.ref b10), .val (.int 3), .val (.int ((1 : Int32) + (1 : Int32))), .val (.ref Ua)]) rfl ?_
    show Db p e below m T21 40 #[.val .null, .val (.ref b10), .val (.int 3), .val (.int ((1 : Int32) + (1 : Int32))), .val (.ref Ua)] [] t
    rw [show ((1 : Int32) + (1 : Int32)) = (2 : Int32) from by decide]
    show Db p e below m T21 40 #[.val .null, .val (.ref b10), .val (.int 3), .val (.int 2), .val (.ref Ua)] [] t
    refine XS.goto X21.here hx rfl (pc0 := 40) (pc' := 9) rfl (hb hby Ie) (by decide) (by decide) ?_
    refine XS.iloadN X21.here hx rfl (hb hby Ad) rfl ?_
    refine XS.iloadN X21.here hx rfl (hb hby Wc) rfl ?_
    refine XS.icmpNo X21.here hx rfl (hb hby Yc) rfl (tlt (by decide : (2 : Int32) < (3 : Int32))).2.1 ?_
    refine XS.aloadN X21.here hx rfl (hb hby Gd) rfl rfl ?_
    refine XS.iloadN X21.here hx rfl (hb hby Hd) rfl ?_
    refine X21.aaload hx (j := (2 : Int32)) (v := (.ref Ra)) (by rw [hp21]; exact Ar22.1) (State.isArrayOf_alike hZ.alike Ar22.2.1) rfl Ar22.2.2 hin23 hat24 (g := (mkF m 16 #[.val .null, .val (.ref b10), .val (.int 3), .val (.int 2), .val (.ref Ua)] [(.int 2), (.ref b10)])) rfl rfl (hb hby Id) _ ?_
    refine XS.astore X21.here hx rfl (hb hby Kd) rfl rfl (l' := #[.val .null, .val (.ref b10), .val (.int 3), .val (.int 2), .val (.ref Ra)]) rfl ?_
    refine XS.aload X21.here hx rfl (hb hby Ld) rfl rfl ?_
    refine st25 _ ?_
    refine XS.aloadN X25.here hx rfl (hb hby Pd) rfl rfl ?_
    refine st26.trans ?_
    show Db p e below m T26 28 #[.val .null, .val (.ref b10), .val (.int 3), .val (.int 2), .val (.ref Ra)] [(.int 0)] t
    refine XS.ifYes X26.here hx rfl (pc0 := 28) (pc' := 37) rfl (hb hby Ud) rfl ((if0 _ _).trans (teq (by decide : (0 : Int32) = (0 : Int32))).1) (by decide) (by decide) ?_
    refine XS.iinc X26.here hx rfl (hb hby He) rfl (l' := #[.val .null, .val (.ref b10), .val (.int 3), .val (.int ((2 : Int32) + (1 : Int32))), .val (.ref Ra)]) rfl ?_
    show Db p e below m T26 40 #[.val .null, .val (.ref b10), .val (.int 3), .val (.int ((2 : Int32) + (1 : Int32))), .val (.ref Ra)] [] t
    rw [show ((2 : Int32) + (1 : Int32)) = (3 : Int32) from by decide]
    refine XS.goto X26.here hx rfl (pc0 := 40) (pc' := 9) rfl (hb hby Ie) (by decide) (by decide) ?_
    refine XS.iloadN X26.here hx rfl (hb hby Ad) rfl ?_
    refine XS.iloadN X26.here hx rfl (hb hby Wc) rfl ?_
    refine XS.icmpYes X26.here hx rfl (pc0 := 11) (pc' := 43) rfl (hb hby Yc) rfl (flt (by decide : ¬ ((3 : Int32) < (3 : Int32)))).2.1 (by decide) (by decide) ?_
    refine st27 _ ?_
    exact k
  obtain ⟨fs, hr, hrun, hended, hW, hsame⟩ := X27.leave (v := some (.ref Bb)) (fun h => by rw [Bd.returns] at h; cases h)
  refine hNG ⟨_, _, k28 _ ?_, hrun, hended, _, _, rfl, ?_, ⟨_, rfl⟩, hW, hsame.mono (by decide) (by decide)⟩
  · exact retOut X27 hx (t := (.object "java/util/Optional")) Bd.returns rfl (Or.inr (Or.inr (Or.inr (Or.inr ⟨rfl, rfl, rfl⟩)))) (hb hby Zj) hr
  · show U9 Z Wa Va Ua Ra Ia Da Ha Ba Ga Aa Ma La Bb h0 n0 _ T27.heap _
    rw [hp27]
    exact ⟨rfl, N27, O10, K10⟩
theorem Vaa (p : Int32) : 0 ≤ ((p &&& (15 : Int32)) % (9 : Int32)).toInt ∧ ((p &&& (15 : Int32)) % (9 : Int32)).toInt ≤ 8 := by
  have e := c_mask p (15 : Int32) 4 (by decide) (by decide)
  have q := (c_irem (p &&& (15 : Int32)) (9 : Int32) 9 (by decide)).1 (by rw [e]; omega)
  omega
theorem R8 {cs : List Int32} (h : cs.length ≤ 7) : 0 ≤ (Int32.ofNat cs.length).toInt ∧ (Int32.ofNat cs.length).toInt ≤ 8 := by
  rw [V8 (by omega)]; omega
theorem U8 {n : Int32} (h : 0 ≤ n.toInt ∧ n.toInt ≤ 8) : n = (0 : Int32) ∨ n = (1 : Int32) ∨ n = (2 : Int32) ∨ n = (3 : Int32) ∨ n = (4 : Int32) ∨ n = (5 : Int32) ∨ n = (6 : Int32) ∨ n = (7 : Int32) ∨ n = (8 : Int32) := by
  have e0 : (0 : Int32).toInt = 0 := by decide
  have e1 : (1 : Int32).toInt = 1 := by decide
  have e2 : (2 : Int32).toInt = 2 := by decide
  have e3 : (3 : Int32).toInt = 3 := by decide
  have e4 : (4 : Int32).toInt = 4 := by decide
  have e5 : (5 : Int32).toInt = 5 := by decide
  have e6 : (6 : Int32).toInt = 6 := by decide
  have e7 : (7 : Int32).toInt = 7 := by decide
  have e8 : (8 : Int32).toInt = 8 := by decide
  simp only [← Int32.toInt_inj, e0, e1, e2, e3, e4, e5, e6, e7, e8]
  omega
theorem Hba {p n : Int32} (hn : 0 ≤ n.toInt ∧ n.toInt ≤ 8) (h0 : (0 : Int32) < n) : ((p &&& (2147483647 : Int32)) % n) = (0 : Int32) ∨ ((p &&& (2147483647 : Int32)) % n) = (1 : Int32) ∨ ((p &&& (2147483647 : Int32)) % n) = (2 : Int32) ∨ ((p &&& (2147483647 : Int32)) % n) = (3 : Int32) ∨ ((p &&& (2147483647 : Int32)) % n) = (4 : Int32) ∨ ((p &&& (2147483647 : Int32)) % n) = (5 : Int32) ∨ ((p &&& (2147483647 : Int32)) % n) = (6 : Int32) ∨ ((p &&& (2147483647 : Int32)) % n) = (7 : Int32) := by
  have z : (0 : Int32).toInt = 0 := by decide
  rw [Int32.lt_iff_toInt_lt, z] at h0
  have m := c_mask p (2147483647 : Int32) 31 (by decide) (by decide)
  have q := (c_iremV (p &&& (2147483647 : Int32)) n).1 (by rw [m]; omega) h0
  have e0 : (0 : Int32).toInt = 0 := by decide
  have e1 : (1 : Int32).toInt = 1 := by decide
  have e2 : (2 : Int32).toInt = 2 := by decide
  have e3 : (3 : Int32).toInt = 3 := by decide
  have e4 : (4 : Int32).toInt = 4 := by decide
  have e5 : (5 : Int32).toInt = 5 := by decide
  have e6 : (6 : Int32).toInt = 6 := by decide
  have e7 : (7 : Int32).toInt = 7 := by decide
  simp only [← Int32.toInt_inj, e0, e1, e2, e3, e4, e5, e6, e7]
  omega
theorem Iba {n : Int32} (h : (0 : Int32) < n) : n ≠ 0 := fun q => by rw [q] at h; exact absurd h (by decide)
theorem ef_law (m : MethodId) (x0 : Int32) (x1 : Int32) (x2 : Int64) (x3 : Int32) (x4 : Int32)  : entryFrame m #[(.int x0), (.int x1), (.long x2), (.int x3), (.int x4)] maxLocals = mkF m 0 #[.val (.int x0), .val (.int x1), .val (.long x2), .second, .val (.int x3), .val (.int x4), .unset, .unset, .unset, .unset, .unset, .unset, .unset, .unset, .unset] [] := by first | (simp [entryFrame, mkF, argsToLocals, Value.category, maxLocals]; done) | rfl
theorem Pe : parseMethodDescriptor "(Ljava/lang/String;JI)C" = some ⟨[(.object "java/lang/String"), .long, .int], some .char⟩ := by decide +kernel
theorem Mj : parseMethodDescriptor "([CI)Ljava/lang/String;" = some ⟨[(.array .char), .int], some (.object "java/lang/String")⟩ := by decide +kernel
theorem Mc : parseMethodDescriptor "(Ljava/lang/String;)Ljava/util/Optional;" = some ⟨[(.object "java/lang/String")], some (.object "java/util/Optional")⟩ := by decide +kernel
theorem Ro : ∀ c ∈ ([] : List Int32), ¬ c < 0 ∧ ¬ (255 : Int32) < c := by decide
theorem D7 : StrChars.Road.CodA ([] : List Int32) 0 (0 : Int32) [] := StrChars.Road.codOf (cs := ([] : List Int32)) (n := 0) rfl (fun c hc => (Ro c hc).2)
def Pk (Z : State) (p0 : Int32) (p1 : Int32) (p2 : Int64) (p4 : Int32) (p5 : Int32) (Wa : Addr) (Va : Addr) (Ua : Addr) (Ra : Addr) (Ia : Addr) (Da : Addr) (Ha : Addr) (Ba : Addr) (Ga : Addr) (Aa : Addr) (Ma : Int32) (La : Value) (Bb : Addr) (h0 : Heap) (n0 : Nat) (v : Option Value) (h : Heap) (L : List Loc) : Prop := v = some (.int 1) ∧ Fr n0 L
set_option maxRecDepth 65536 in
set_option maxHeartbeats 40000000 in
theorem rm_law (l : Launch) (Z : State) (a0 : Array Value) (hw : ∀ d ∈ tables_1, d.before a0 Z = true) (ws : List Jvm.Cond) (p0 : Int32) (p1 : Int32) (p2 : Int64) (p4 : Int32) (p5 : Int32) (Wa : Addr) (Va : Addr) (Ua : Addr) (Ra : Addr) (Ia : Addr) (Da : Addr) (Ha : Addr) (Ba : Addr) (Ga : Addr) (Aa : Addr) (Ma : Int32) (La : Value) (Bb : Addr) (h0 : Heap) (n0 : Nat) (O0 : Old Z n0 h0) (hE : EV Z Wa Va Ua Ra Ia Da Ha Ba Ga Aa Ma La Bb) :
    MetFree l x (head1 (Jvm.Cond.code x code maxLocals ret :: ws) room_1) (fun a U => a = #[(.int p0), (.int p1), (.long p2), (.int p4), (.int p5)] ∧ Z.Warmed39 U.vm ∧ U.heap = h0 ∧ CHv Z Uc U.vm h0) (fun _ _ _ _ _ => True) (fun _ U o U' => ∃ v L, o = .returned v ∧ Pk Z p0 p1 p2 p4 p5 Wa Va Ua Ra Ia Da Ha Ba Ga Aa Ma La Bb h0 n0 v U'.heap L ∧ ReturnedEndW U o U' L 17 156) := by
  refine MetFree.of_bodySF (plainFor_of_name Ib) hisR ?_
  intro p e s m args below meth c s₁ Bd hml0 hP hK
  obtain ⟨rfl, hZ, hh, hCH⟩ := hP
  have hx := Bd.exec
  have hby := Bd.bytes
  have hml : c.maxLocals = 15 := hml0
  have hown : s.vm.findClass "com/example/entitlement_ledger/entitlementledger/model/AssigneeKindOfCollectionNamePinLaw" = some m.cls := findClass_of_methodNamed Bd.named
  have hnm := (name_of_methodNamed Bd.named Bd.method).1
  have X00 : Stand p l e room_1 s m #[(.int p0), (.int p1), (.long p2), (.int p4), (.int p5)] below meth c s₁ [] 0 0 := Stand.of_body Bd
  have e00 : s₁.heap = h0 := by rw [← hh, Bd.state]; rfl
  have N00 := Fr.nil n0
  refine Classical.byContradiction fun hNG => ?_
  have K00 := Keep.refl h0 []
  have k00 : ∀ t, Db p e below m s₁ 0 #[.val (.int p0), .val (.int p1), .val (.long p2), .second, .val (.int p4), .val (.int p5), .unset, .unset, .unset, .unset, .unset, .unset, .unset, .unset, .unset] [] t → Kb p e below m s₁ #[(.int p0), (.int p1), (.long p2), (.int p4), (.int p5)] maxLocals t := fun t k => castTop (ef_law m p0 p1 p2 p4 p5 ) k
  have hS : s.Since s.vm 0 := (State.WarmedH.refl s).since 0
  have X00 : Stand p l e room_1 (s.setVm s.vm) m #[(.int p0), (.int p1), (.long p2), (.int p4), (.int p5)] below meth c s₁ [] 0 0 := X00
  have hZ : Z.Warmed39 (s.setVm s.vm).vm := hZ
  have hown : (s.setVm s.vm).vm.findClass "com/example/entitlement_ledger/entitlementledger/model/AssigneeKindOfCollectionNamePinLaw" = some m.cls := hown
  have CR0 : CHr Z Uc s.vm h0 s.vm h0 := CHr.refl hCH
  obtain ⟨Ye, Ze, Ae, Be, Ue, Ve, Ke, Le, Dc, Wb, Ub, Vb, Bc, Yb, Pb, Rb, Ac, Zb, Lb, Mb, Hb, Gb, Hc, Gc, We, Re, Rc, De, Ab, Za, Ya⟩ := (id hE : EV Z Wa Va Ua Ra Ia Da Ha Ba Ga Aa Ma La Bb)
  obtain ⟨kw_USER_collectionName, Aw_USER_collectionName⟩ := Ab.arv
  obtain ⟨kw_GROUP_collectionName, Aw_GROUP_collectionName⟩ := Za.arv
  obtain ⟨kw_DEVICE_collectionName, Aw_DEVICE_collectionName⟩ := Ya.arv
  have k10 : ∀ t, Db p e below m s₁ 12 #[.val (.int p0), .val (.int p1), .val (.long p2), .second, .val (.int p4), .val (.int p5), .val (.int (p0 &&& (3 : Int32))), .val (.int (((p0.toUInt32 >>> ((2 : Int32) &&& 31).toUInt32).toInt32) &&& (3 : Int32))), .unset, .unset, .unset, .unset, .unset, .unset, .unset] [] t → Kb p e below m s₁ #[(.int p0), (.int p1), (.long p2), (.int p4), (.int p5)] maxLocals t := by
    intro t k
    refine k00 t ?_
    refine XS.iloadN X00.here hx rfl (hb hby at_0) rfl ?_
    refine XS.iconst X00.here hx rfl (hb hby at_1) ?_
    refine XS.iand X00.here hx rfl (hb hby at_2) rfl ?_
    refine XS.istore X00.here hx rfl (hb hby at_3) rfl (l' := #[.val (.int p0), .val (.int p1), .val (.long p2), .second, .val (.int p4), .val (.int p5), .val (.int (p0 &&& (3 : Int32))), .unset, .unset, .unset, .unset, .unset, .unset, .unset, .unset]) rfl ?_
    refine XS.iloadN X00.here hx rfl (hb hby at_5) rfl ?_
    refine XS.iconst X00.here hx rfl (hb hby at_6) ?_
    refine XS.iushr X00.here hx rfl (hb hby at_7) rfl ?_
    refine XS.iconst X00.here hx rfl (hb hby at_8) ?_
    refine XS.iand X00.here hx rfl (hb hby at_9) rfl ?_
    refine XS.istore X00.here hx rfl (hb hby at_10) rfl (l' := #[.val (.int p0), .val (.int p1), .val (.long p2), .second, .val (.int p4), .val (.int p5), .val (.int (p0 &&& (3 : Int32))), .val (.int (((p0.toUInt32 >>> ((2 : Int32) &&& 31).toUInt32).toInt32) &&& (3 : Int32))), .unset, .unset, .unset, .unset, .unset, .unset, .unset]) rfl ?_
    exact k
  have J11 : ∀ (vm11 : Vm) (kk11 : Nat) (T11 : State) (locs11 : List Loc) (h11 : Heap) (jnl : Int32) (hS : s.Since vm11 kk11) (hk11 : kk11 ≤ h11.size) (hZ : Z.Warmed39 (s.setVm vm11).vm) (hown : (s.setVm vm11).vm.findClass "com/example/entitlement_ledger/entitlementledger/model/AssigneeKindOfCollectionNamePinLaw" = some m.cls) (CR11 : CHr Z Uc s.vm h0 vm11 h11) (X11 : Stand p l e room_1 (s.setVm vm11) m #[(.int p0), (.int p1), (.long p2), (.int p4), (.int p5)] below meth c T11 locs11 0 0) (e11 : T11.heap = h11) (N11 : Fr n0 locs11) (O11 : Old Z n0 h11) (K11 : Keep h0 h11 []) (k11 : ∀ t, Db p e below m T11 30 #[.val (.int p0), .val (.int p1), .val (.long p2), .second, .val (.int p4), .val (.int p5), .val (.int (p0 &&& (3 : Int32))), .val (.int (((p0.toUInt32 >>> ((2 : Int32) &&& 31).toUInt32).toInt32) &&& (3 : Int32))), .val (.int jnl), .unset, .unset, .unset, .unset, .unset, .unset] [] t → Kb p e below m s₁ #[(.int p0), (.int p1), (.long p2), (.int p4), (.int p5)] maxLocals t), False := by
    intro vm11 kk11 T11 locs11 h11 jnl hS hk11 hZ hown CR11 X11 e11 N11 O11 K11 k11
    have J12 : ∀ (vm12 : Vm) (kk12 : Nat) (T12 : State) (locs12 : List Loc) (h12 : Heap) (js : Addr) (jt : Addr) (jk : ClassId) (jz : Int32) (jvs : List Value) (jcs : List Int32) (hS : s.Since vm12 kk12) (hk12 : kk12 ≤ h12.size) (hZ : Z.Warmed39 (s.setVm vm12).vm) (hown : (s.setVm vm12).vm.findClass "com/example/entitlement_ledger/entitlementledger/model/AssigneeKindOfCollectionNamePinLaw" = some m.cls) (CR12 : CHr Z Uc s.vm h0 vm12 h12) (X12 : Stand p l e room_1 (s.setVm vm12) m #[(.int p0), (.int p1), (.long p2), (.int p4), (.int p5)] below meth c T12 locs12 2 32) (e12 : T12.heap = h12) (N12 : Fr n0 locs12) (O12 : Old Z n0 h12) (K12 : Keep h0 h12 []) (G12_0 : Exa Z h12 js "java/lang/String") (G12_1 : Fld Z h12 js "java/lang/String" "coder" "B" (.int 0)) (G12_2 : Fld Z h12 js "java/lang/String" "value" "[B" (.ref jt)) (G12_3 : Arv Z h12 jt jk .byte jz jvs (.int 0)) (jcd : StrChars.Road.CodA jcs 0 jz jvs) (jbd : ∀ c ∈ jcs, ¬ c < 0 ∧ ¬ (255 : Int32) < c) (jl2 : jcs.length ≤ 4000) (jl7 : jcs.length ≤ 7) (k12 : ∀ t, Db p e below m T12 78 #[.val (.int p0), .val (.int p1), .val (.long p2), .second, .val (.int p4), .val (.int p5), .val (.int (p0 &&& (3 : Int32))), .val (.int (((p0.toUInt32 >>> ((2 : Int32) &&& 31).toUInt32).toInt32) &&& (3 : Int32))), .val (.int jnl), .val (.ref js), .unset, .unset, .unset, .unset, .unset] [] t → Kb p e below m s₁ #[(.int p0), (.int p1), (.long p2), (.int p4), (.int p5)] maxLocals t), False := by
      intro vm12 kk12 T12 locs12 h12 js jt jk jz jvs jcs hS hk12 hZ hown CR12 X12 e12 N12 O12 K12 G12_0 G12_1 G12_2 G12_3 jcd jbd jl2 jl7 k12
      have J13 : ∀ (vm13 : Vm) (kk13 : Nat) (T13 : State) (locs13 : List Loc) (h13 : Heap) (jn1 : Int32) (hS : s.Since vm13 kk13) (hk13 : kk13 ≤ h13.size) (hZ : Z.Warmed39 (s.setVm vm13).vm) (hown : (s.setVm vm13).vm.findClass "com/example/entitlement_ledger/entitlementledger/model/AssigneeKindOfCollectionNamePinLaw" = some m.cls) (CR13 : CHr Z Uc s.vm h0 vm13 h13) (X13 : Stand p l e room_1 (s.setVm vm13) m #[(.int p0), (.int p1), (.long p2), (.int p4), (.int p5)] below meth c T13 locs13 2 32) (e13 : T13.heap = h13) (N13 : Fr n0 locs13) (O13 : Old Z n0 h13) (K13 : Keep h0 h13 []) (G13_0 : Exa Z h13 js "java/lang/String") (G13_1 : Fld Z h13 js "java/lang/String" "coder" "B" (.int 0)) (G13_2 : Fld Z h13 js "java/lang/String" "value" "[B" (.ref jt)) (G13_3 : Arv Z h13 jt jk .byte jz jvs (.int 0)) (hn10 : 0 ≤ jn1.toInt ∧ jn1.toInt ≤ 8) (k13 : ∀ t, Db p e below m T13 108 #[.val (.int p0), .val (.int p1), .val (.long p2), .second, .val (.int p4), .val (.int p5), .val (.int (p0 &&& (3 : Int32))), .val (.int (((p0.toUInt32 >>> ((2 : Int32) &&& 31).toUInt32).toInt32) &&& (3 : Int32))), .val (.int jnl), .val (.ref js), .val (.int jn1), .unset, .unset, .unset, .unset] [] t → Kb p e below m s₁ #[(.int p0), (.int p1), (.long p2), (.int p4), (.int p5)] maxLocals t), False := by
        intro vm13 kk13 T13 locs13 h13 jn1 hS hk13 hZ hown CR13 X13 e13 N13 O13 K13 G13_0 G13_1 G13_2 G13_3 hn10 k13
        obtain ⟨T14, h14, c14, X14, e14, E14, A14, st14⟩ := newP X13 hx hZ (Ka hw 21 rfl) e13 (g := (mkF m 110 #[.val (.int p0), .val (.int p1), .val (.long p2), .second, .val (.int p4), .val (.int p5), .val (.int (p0 &&& (3 : Int32))), .val (.int (((p0.toUInt32 >>> ((2 : Int32) &&& 31).toUInt32).toInt32) &&& (3 : Int32))), .val (.int jnl), .val (.ref js), .val (.int jn1), .unset, .unset, .unset, .unset] [(.int 8)])) rfl (hb hby at_110) rfl (by decide) (cap := 8) (by decide) (by decide) (by decide) (by decide)
        obtain ⟨b14, g14⟩ : ∃ z, z = h13.size := ⟨_, rfl⟩
        have Sf14 : Safe Z Uc _ h14 b14 := Safe.ext E14 CR13.1 (Safe.new (Nat.le_of_eq g14.symm))
        have CR15 := CR13.trans (CHr.ext E14 CR13.1)
        rw [← g14] at A14 st14
        have O14 := O13.ext E14
        have g_b14 : n0 ≤ b14 := Nat.le_trans (Nat.le_of_eq O13.1.symm) (Nat.le_trans O13.2.1 (Nat.le_of_eq g14.symm))
        have s_b14 : h0.size ≤ b14 := Nat.le_trans K13.1 (Nat.le_of_eq g14.symm)
        have K14 := K13.ext E14
        have V14 : Arv Z h14 b14 c14 .char (8 : Int32) [(.int 0), (.int 0), (.int 0), (.int 0), (.int 0), (.int 0), (.int 0), (.int 0)] (.int 0) := (Arv.new A14 (by decide)).pad (pad_rep [] (.int 0) 8)
        have lt_b14 := V14.lt
        have f16 := (G13_2.ext E14)
        have f17 := (G13_0.ext E14)
        have f18 := (G13_1.ext E14)
        have f19 := (G13_3.ext E14)
        obtain ⟨_, _, ⟨T20, L20, k20, n20⟩, -, X20, ⟨Lc20, hQ20, l20, y20, z20⟩, st20⟩ := Jvm.LawKit.callS X14 hx (y := Ug) hown (mvT hZ (Ka hw 22 rfl)) (mvT hZ (Ka hw 23 rfl)) (mvT hZ (Ka hw 24 rfl)) (mvT hZ (Ka hw 25 rfl)) (by decide) (backOf (W := 2) (W9 l Z a0 hw [] js jt jk jz jvs jcs p2 _ _ _ _ _ _ _ _ _ _ _ _ _ h14 n0 O14 hE f17 f18 f16 f19 jcd (jbd) jl2) hZ (Ka hw 25 rfl) (Ka hw 24 rfl) (by decide) (by decide)) (g := (mkF m 121 #[.val (.int p0), .val (.int p1), .val (.long p2), .second, .val (.int p4), .val (.int p5), .val (.int (p0 &&& (3 : Int32))), .val (.int (((p0.toUInt32 >>> ((2 : Int32) &&& 31).toUInt32).toInt32) &&& (3 : Int32))), .val (.int jnl), .val (.ref js), .val (.int jn1), .val (.ref b14), .unset, .unset, .unset] [(.int 0), (.long p2), (.ref js), (.int 0), (.ref b14)])) rfl (by rw [hml]; rfl) (argsL := [(.ref js), (.long p2), (.int 0)]) (rest := [(.int 0), (.ref b14)]) (lenOf Pe rfl) rfl (by show 2 * 0 + _ ≤ _; exact Nat.le_of_eq rfl) (hb hby at_121) (fun _ _ => ⟨rfl, e14, (by decide : 3 + 0 ≤ _), (by decide : 40 + 0 ≤ _)⟩)
        dsimp only [Pt.U, Pt.locs, Pt.cells, Pt.slots] at X20 l20 y20 z20 st20 hQ20
        subst l20 y20 z20
        obtain ⟨r20, rfl, N20q, hp20, B20⟩ := hQ20
        have N20 := Fr.app N13 N20q
        obtain ⟨cl21, Ar21, q21, Sz21, Nn21, Hs21, Gf21⟩ := id V14
        have hin22 : ¬ ((0 : Int32) < 0 ∨ cl21.slots.size ≤ ((0 : Int32)).toNatClampNeg) := inb_of Sz21 ⟨by decide, by decide⟩
        obtain ⟨T23, h23, X23, e23, W23, st23⟩ := stC X20 hx hZ hp20 Ar21 (j := (0 : Int32)) hin22 (g := (mkF m 124 #[.val (.int p0), .val (.int p1), .val (.long p2), .second, .val (.int p4), .val (.int p5), .val (.int (p0 &&& (3 : Int32))), .val (.int (((p0.toUInt32 >>> ((2 : Int32) &&& 31).toUInt32).toInt32) &&& (3 : Int32))), .val (.int jnl), .val (.ref js), .val (.int jn1), .val (.ref b14), .unset, .unset, .unset] [(.int r20), (.int 0), (.ref b14)])) rfl rfl (hb hby at_124)
        have V23 : Arv Z h23 b14 c14 .char (8 : Int32) [(.int r20), (.int 0), (.int 0), (.int 0), (.int 0), (.int 0), (.int 0), (.int 0)] (.int 0) := by
          have q := Arv.set Ar21 q21 Sz21 Nn21 Hs21 Gf21 (fits_nar_char _) W23 0 rfl (Nat.le_of_ble_eq_true rfl)
          first | exact q | (simp only [Pa B20] at q; exact q)
        have CR24 := CR15.trans (CHr.wr W23 Sf14 CR15.1)
        have N23 := Fr.snoc X23 N20 g_b14
        have O23 := O14.wr W23 g_b14
        have K23 := K14.wr W23 (Or.inr s_b14)
        have ne25 : ¬ (js = b14) := (Nat.ne_of_lt (Nat.lt_of_lt_of_le G13_0.lt (Nat.le_of_eq g14.symm)))
        have f26 := (f16.other W23 (Or.inl ne25))
        have f27 := (f17.wr W23)
        have f28 := (f18.other W23 (Or.inl ne25))
        have ne29 : ¬ (jt = b14) := (Nat.ne_of_lt (Nat.lt_of_lt_of_le G13_3.lt (Nat.le_of_eq g14.symm)))
        have f30 := (f19.other W23 ne29)
        obtain ⟨_, _, ⟨T31, L31, k31, n31⟩, -, X31, ⟨Lc31, hQ31, l31, y31, z31⟩, st31⟩ := Jvm.LawKit.callS X23 hx (y := Ug) hown (mvT hZ (Ka hw 22 rfl)) (mvT hZ (Ka hw 23 rfl)) (mvT hZ (Ka hw 24 rfl)) (mvT hZ (Ka hw 25 rfl)) (by decide) (backOf (W := 2) (Z9 l Z a0 hw [] js jt jk jz jvs jcs p2 _ _ _ _ _ _ _ _ _ _ _ _ _ h23 n0 O23 hE f27 f28 f26 f30 jcd (jbd) jl2) hZ (Ka hw 25 rfl) (Ka hw 24 rfl) (by decide) (by decide)) (g := (mkF m 132 #[.val (.int p0), .val (.int p1), .val (.long p2), .second, .val (.int p4), .val (.int p5), .val (.int (p0 &&& (3 : Int32))), .val (.int (((p0.toUInt32 >>> ((2 : Int32) &&& 31).toUInt32).toInt32) &&& (3 : Int32))), .val (.int jnl), .val (.ref js), .val (.int jn1), .val (.ref b14), .unset, .unset, .unset] [(.int 1), (.long p2), (.ref js), (.int 1), (.ref b14)])) rfl (by rw [hml]; rfl) (argsL := [(.ref js), (.long p2), (.int 1)]) (rest := [(.int 1), (.ref b14)]) (lenOf Pe rfl) rfl (by show 2 * 0 + _ ≤ _; exact Nat.le_of_eq rfl) (hb hby at_132) (fun _ _ => ⟨rfl, e23, (by decide : 3 + 0 ≤ _), (by decide : 40 + 0 ≤ _)⟩)
        dsimp only [Pt.U, Pt.locs, Pt.cells, Pt.slots] at X31 l31 y31 z31 st31 hQ31
        subst l31 y31 z31
        obtain ⟨r31, rfl, N31q, hp31, B31⟩ := hQ31
        have N31 := Fr.app N23 N31q
        obtain ⟨cl32, Ar32, q32, Sz32, Nn32, Hs32, Gf32⟩ := id V23
        have hin33 : ¬ ((1 : Int32) < 0 ∨ cl32.slots.size ≤ ((1 : Int32)).toNatClampNeg) := inb_of Sz32 ⟨by decide, by decide⟩
        obtain ⟨T34, h34, X34, e34, W34, st34⟩ := stC X31 hx hZ hp31 Ar32 (j := (1 : Int32)) hin33 (g := (mkF m 135 #[.val (.int p0), .val (.int p1), .val (.long p2), .second, .val (.int p4), .val (.int p5), .val (.int (p0 &&& (3 : Int32))), .val (.int (((p0.toUInt32 >>> ((2 : Int32) &&& 31).toUInt32).toInt32) &&& (3 : Int32))), .val (.int jnl), .val (.ref js), .val (.int jn1), .val (.ref b14), .unset, .unset, .unset] [(.int r31), (.int 1), (.ref b14)])) rfl rfl (hb hby at_135)
        have V34 : Arv Z h34 b14 c14 .char (8 : Int32) [(.int r20), (.int r31), (.int 0), (.int 0), (.int 0), (.int 0), (.int 0), (.int 0)] (.int 0) := by
          have q := Arv.set Ar32 q32 Sz32 Nn32 Hs32 Gf32 (fits_nar_char _) W34 1 rfl (Nat.le_of_ble_eq_true rfl)
          first | exact q | (simp only [Pa B31] at q; exact q)
        have sf36 := (Safe.wr W23 Sf14 CR15.1 Sf14)
        have CR35 := CR24.trans (CHr.wr W34 sf36 CR24.1)
        have N34 := Fr.snoc X34 N31 g_b14
        have O34 := O23.wr W34 g_b14
        have K34 := K23.wr W34 (Or.inr s_b14)
        have f37 := (f26.other W34 (Or.inl ne25))
        have f38 := (f27.wr W34)
        have f39 := (f28.other W34 (Or.inl ne25))
        have f40 := (f30.other W34 ne29)
        obtain ⟨_, _, ⟨T41, L41, k41, n41⟩, -, X41, ⟨Lc41, hQ41, l41, y41, z41⟩, st41⟩ := Jvm.LawKit.callS X34 hx (y := Ug) hown (mvT hZ (Ka hw 22 rfl)) (mvT hZ (Ka hw 23 rfl)) (mvT hZ (Ka hw 24 rfl)) (mvT hZ (Ka hw 25 rfl)) (by decide) (backOf (W := 2) (Baa l Z a0 hw [] js jt jk jz jvs jcs p2 _ _ _ _ _ _ _ _ _ _ _ _ _ h34 n0 O34 hE f38 f39 f37 f40 jcd (jbd) jl2) hZ (Ka hw 25 rfl) (Ka hw 24 rfl) (by decide) (by decide)) (g := (mkF m 143 #[.val (.int p0), .val (.int p1), .val (.long p2), .second, .val (.int p4), .val (.int p5), .val (.int (p0 &&& (3 : Int32))), .val (.int (((p0.toUInt32 >>> ((2 : Int32) &&& 31).toUInt32).toInt32) &&& (3 : Int32))), .val (.int jnl), .val (.ref js), .val (.int jn1), .val (.ref b14), .unset, .unset, .unset] [(.int 2), (.long p2), (.ref js), (.int 2), (.ref b14)])) rfl (by rw [hml]; rfl) (argsL := [(.ref js), (.long p2), (.int 2)]) (rest := [(.int 2), (.ref b14)]) (lenOf Pe rfl) rfl (by show 2 * 0 + _ ≤ _; exact Nat.le_of_eq rfl) (hb hby at_143) (fun _ _ => ⟨rfl, e34, (by decide : 3 + 0 ≤ _), (by decide : 40 + 0 ≤ _)⟩)
        dsimp only [Pt.U, Pt.locs, Pt.cells, Pt.slots] at X41 l41 y41 z41 st41 hQ41
        subst l41 y41 z41
        obtain ⟨r41, rfl, N41q, hp41, B41⟩ := hQ41
        have N41 := Fr.app N34 N41q
        obtain ⟨cl42, Ar42, q42, Sz42, Nn42, Hs42, Gf42⟩ := id V34
        have hin43 : ¬ ((2 : Int32) < 0 ∨ cl42.slots.size ≤ ((2 : Int32)).toNatClampNeg) := inb_of Sz42 ⟨by decide, by decide⟩
        obtain ⟨T44, h44, X44, e44, W44, st44⟩ := stC X41 hx hZ hp41 Ar42 (j := (2 : Int32)) hin43 (g := (mkF m 146 #[.val (.int p0), .val (.int p1), .val (.long p2), .second, .val (.int p4), .val (.int p5), .val (.int (p0 &&& (3 : Int32))), .val (.int (((p0.toUInt32 >>> ((2 : Int32) &&& 31).toUInt32).toInt32) &&& (3 : Int32))), .val (.int jnl), .val (.ref js), .val (.int jn1), .val (.ref b14), .unset, .unset, .unset] [(.int r41), (.int 2), (.ref b14)])) rfl rfl (hb hby at_146)
        have V44 : Arv Z h44 b14 c14 .char (8 : Int32) [(.int r20), (.int r31), (.int r41), (.int 0), (.int 0), (.int 0), (.int 0), (.int 0)] (.int 0) := by
          have q := Arv.set Ar42 q42 Sz42 Nn42 Hs42 Gf42 (fits_nar_char _) W44 2 rfl (Nat.le_of_ble_eq_true rfl)
          first | exact q | (simp only [Pa B41] at q; exact q)
        have sf46 := (Safe.wr W34 sf36 CR24.1 sf36)
        have CR45 := CR35.trans (CHr.wr W44 sf46 CR35.1)
        have N44 := Fr.snoc X44 N41 g_b14
        have O44 := O34.wr W44 g_b14
        have K44 := K34.wr W44 (Or.inr s_b14)
        have f47 := (f37.other W44 (Or.inl ne25))
        have f48 := (f38.wr W44)
        have f49 := (f39.other W44 (Or.inl ne25))
        have f50 := (f40.other W44 ne29)
        obtain ⟨_, _, ⟨T51, L51, k51, n51⟩, -, X51, ⟨Lc51, hQ51, l51, y51, z51⟩, st51⟩ := Jvm.LawKit.callS X44 hx (y := Ug) hown (mvT hZ (Ka hw 22 rfl)) (mvT hZ (Ka hw 23 rfl)) (mvT hZ (Ka hw 24 rfl)) (mvT hZ (Ka hw 25 rfl)) (by decide) (backOf (W := 2) (Gaa l Z a0 hw [] js jt jk jz jvs jcs p2 _ _ _ _ _ _ _ _ _ _ _ _ _ h44 n0 O44 hE f48 f49 f47 f50 jcd (jbd) jl2) hZ (Ka hw 25 rfl) (Ka hw 24 rfl) (by decide) (by decide)) (g := (mkF m 154 #[.val (.int p0), .val (.int p1), .val (.long p2), .second, .val (.int p4), .val (.int p5), .val (.int (p0 &&& (3 : Int32))), .val (.int (((p0.toUInt32 >>> ((2 : Int32) &&& 31).toUInt32).toInt32) &&& (3 : Int32))), .val (.int jnl), .val (.ref js), .val (.int jn1), .val (.ref b14), .unset, .unset, .unset] [(.int 3), (.long p2), (.ref js), (.int 3), (.ref b14)])) rfl (by rw [hml]; rfl) (argsL := [(.ref js), (.long p2), (.int 3)]) (rest := [(.int 3), (.ref b14)]) (lenOf Pe rfl) rfl (by show 2 * 0 + _ ≤ _; exact Nat.le_of_eq rfl) (hb hby at_154) (fun _ _ => ⟨rfl, e44, (by decide : 3 + 0 ≤ _), (by decide : 40 + 0 ≤ _)⟩)
        dsimp only [Pt.U, Pt.locs, Pt.cells, Pt.slots] at X51 l51 y51 z51 st51 hQ51
        subst l51 y51 z51
        obtain ⟨r51, rfl, N51q, hp51, B51⟩ := hQ51
        have N51 := Fr.app N44 N51q
        obtain ⟨cl52, Ar52, q52, Sz52, Nn52, Hs52, Gf52⟩ := id V44
        have hin53 : ¬ ((3 : Int32) < 0 ∨ cl52.slots.size ≤ ((3 : Int32)).toNatClampNeg) := inb_of Sz52 ⟨by decide, by decide⟩
        obtain ⟨T54, h54, X54, e54, W54, st54⟩ := stC X51 hx hZ hp51 Ar52 (j := (3 : Int32)) hin53 (g := (mkF m 157 #[.val (.int p0), .val (.int p1), .val (.long p2), .second, .val (.int p4), .val (.int p5), .val (.int (p0 &&& (3 : Int32))), .val (.int (((p0.toUInt32 >>> ((2 : Int32) &&& 31).toUInt32).toInt32) &&& (3 : Int32))), .val (.int jnl), .val (.ref js), .val (.int jn1), .val (.ref b14), .unset, .unset, .unset] [(.int r51), (.int 3), (.ref b14)])) rfl rfl (hb hby at_157)
        have V54 : Arv Z h54 b14 c14 .char (8 : Int32) [(.int r20), (.int r31), (.int r41), (.int r51), (.int 0), (.int 0), (.int 0), (.int 0)] (.int 0) := by
          have q := Arv.set Ar52 q52 Sz52 Nn52 Hs52 Gf52 (fits_nar_char _) W54 3 rfl (Nat.le_of_ble_eq_true rfl)
          first | exact q | (simp only [Pa B51] at q; exact q)
        have sf56 := (Safe.wr W44 sf46 CR35.1 sf46)
        have CR55 := CR45.trans (CHr.wr W54 sf56 CR45.1)
        have N54 := Fr.snoc X54 N51 g_b14
        have O54 := O44.wr W54 g_b14
        have K54 := K44.wr W54 (Or.inr s_b14)
        have f57 := (f47.other W54 (Or.inl ne25))
        have f58 := (f48.wr W54)
        have f59 := (f49.other W54 (Or.inl ne25))
        have f60 := (f50.other W54 ne29)
        obtain ⟨_, _, ⟨T61, L61, k61, n61⟩, -, X61, ⟨Lc61, hQ61, l61, y61, z61⟩, st61⟩ := Jvm.LawKit.callS X54 hx (y := Ug) hown (mvT hZ (Ka hw 22 rfl)) (mvT hZ (Ka hw 23 rfl)) (mvT hZ (Ka hw 24 rfl)) (mvT hZ (Ka hw 25 rfl)) (by decide) (backOf (W := 2) (Iaa l Z a0 hw [] js jt jk jz jvs jcs p2 _ _ _ _ _ _ _ _ _ _ _ _ _ h54 n0 O54 hE f58 f59 f57 f60 jcd (jbd) jl2) hZ (Ka hw 25 rfl) (Ka hw 24 rfl) (by decide) (by decide)) (g := (mkF m 165 #[.val (.int p0), .val (.int p1), .val (.long p2), .second, .val (.int p4), .val (.int p5), .val (.int (p0 &&& (3 : Int32))), .val (.int (((p0.toUInt32 >>> ((2 : Int32) &&& 31).toUInt32).toInt32) &&& (3 : Int32))), .val (.int jnl), .val (.ref js), .val (.int jn1), .val (.ref b14), .unset, .unset, .unset] [(.int 4), (.long p2), (.ref js), (.int 4), (.ref b14)])) rfl (by rw [hml]; rfl) (argsL := [(.ref js), (.long p2), (.int 4)]) (rest := [(.int 4), (.ref b14)]) (lenOf Pe rfl) rfl (by show 2 * 0 + _ ≤ _; exact Nat.le_of_eq rfl) (hb hby at_165) (fun _ _ => ⟨rfl, e54, (by decide : 3 + 0 ≤ _), (by decide : 40 + 0 ≤ _)⟩)
        dsimp only [Pt.U, Pt.locs, Pt.cells, Pt.slots] at X61 l61 y61 z61 st61 hQ61
        subst l61 y61 z61
        obtain ⟨r61, rfl, N61q, hp61, B61⟩ := hQ61
        have N61 := Fr.app N54 N61q
        obtain ⟨cl62, Ar62, q62, Sz62, Nn62, Hs62, Gf62⟩ := id V54
        have hin63 : ¬ ((4 : Int32) < 0 ∨ cl62.slots.size ≤ ((4 : Int32)).toNatClampNeg) := inb_of Sz62 ⟨by decide, by decide⟩
        obtain ⟨T64, h64, X64, e64, W64, st64⟩ := stC X61 hx hZ hp61 Ar62 (j := (4 : Int32)) hin63 (g := (mkF m 168 #[.val (.int p0), .val (.int p1), .val (.long p2), .second, .val (.int p4), .val (.int p5), .val (.int (p0 &&& (3 : Int32))), .val (.int (((p0.toUInt32 >>> ((2 : Int32) &&& 31).toUInt32).toInt32) &&& (3 : Int32))), .val (.int jnl), .val (.ref js), .val (.int jn1), .val (.ref b14), .unset, .unset, .unset] [(.int r61), (.int 4), (.ref b14)])) rfl rfl (hb hby at_168)
        have V64 : Arv Z h64 b14 c14 .char (8 : Int32) [(.int r20), (.int r31), (.int r41), (.int r51), (.int r61), (.int 0), (.int 0), (.int 0)] (.int 0) := by
          have q := Arv.set Ar62 q62 Sz62 Nn62 Hs62 Gf62 (fits_nar_char _) W64 4 rfl (Nat.le_of_ble_eq_true rfl)
          first | exact q | (simp only [Pa B61] at q; exact q)
        have sf66 := (Safe.wr W54 sf56 CR45.1 sf56)
        have CR65 := CR55.trans (CHr.wr W64 sf66 CR55.1)
        have N64 := Fr.snoc X64 N61 g_b14
        have O64 := O54.wr W64 g_b14
        have K64 := K54.wr W64 (Or.inr s_b14)
        have f67 := (f57.other W64 (Or.inl ne25))
        have f68 := (f58.wr W64)
        have f69 := (f59.other W64 (Or.inl ne25))
        have f70 := (f60.other W64 ne29)
        obtain ⟨_, _, ⟨T71, L71, k71, n71⟩, -, X71, ⟨Lc71, hQ71, l71, y71, z71⟩, st71⟩ := Jvm.LawKit.callS X64 hx (y := Ug) hown (mvT hZ (Ka hw 22 rfl)) (mvT hZ (Ka hw 23 rfl)) (mvT hZ (Ka hw 24 rfl)) (mvT hZ (Ka hw 25 rfl)) (by decide) (backOf (W := 2) (Laa l Z a0 hw [] js jt jk jz jvs jcs p2 _ _ _ _ _ _ _ _ _ _ _ _ _ h64 n0 O64 hE f68 f69 f67 f70 jcd (jbd) jl2) hZ (Ka hw 25 rfl) (Ka hw 24 rfl) (by decide) (by decide)) (g := (mkF m 176 #[.val (.int p0), .val (.int p1), .val (.long p2), .second, .val (.int p4), .val (.int p5), .val (.int (p0 &&& (3 : Int32))), .val (.int (((p0.toUInt32 >>> ((2 : Int32) &&& 31).toUInt32).toInt32) &&& (3 : Int32))), .val (.int jnl), .val (.ref js), .val (.int jn1), .val (.ref b14), .unset, .unset, .unset] [(.int 5), (.long p2), (.ref js), (.int 5), (.ref b14)])) rfl (by rw [hml]; rfl) (argsL := [(.ref js), (.long p2), (.int 5)]) (rest := [(.int 5), (.ref b14)]) (lenOf Pe rfl) rfl (by show 2 * 0 + _ ≤ _; exact Nat.le_of_eq rfl) (hb hby at_176) (fun _ _ => ⟨rfl, e64, (by decide : 3 + 0 ≤ _), (by decide : 40 + 0 ≤ _)⟩)
        dsimp only [Pt.U, Pt.locs, Pt.cells, Pt.slots] at X71 l71 y71 z71 st71 hQ71
        subst l71 y71 z71
        obtain ⟨r71, rfl, N71q, hp71, B71⟩ := hQ71
        have N71 := Fr.app N64 N71q
        obtain ⟨cl72, Ar72, q72, Sz72, Nn72, Hs72, Gf72⟩ := id V64
        have hin73 : ¬ ((5 : Int32) < 0 ∨ cl72.slots.size ≤ ((5 : Int32)).toNatClampNeg) := inb_of Sz72 ⟨by decide, by decide⟩
        obtain ⟨T74, h74, X74, e74, W74, st74⟩ := stC X71 hx hZ hp71 Ar72 (j := (5 : Int32)) hin73 (g := (mkF m 179 #[.val (.int p0), .val (.int p1), .val (.long p2), .second, .val (.int p4), .val (.int p5), .val (.int (p0 &&& (3 : Int32))), .val (.int (((p0.toUInt32 >>> ((2 : Int32) &&& 31).toUInt32).toInt32) &&& (3 : Int32))), .val (.int jnl), .val (.ref js), .val (.int jn1), .val (.ref b14), .unset, .unset, .unset] [(.int r71), (.int 5), (.ref b14)])) rfl rfl (hb hby at_179)
        have V74 : Arv Z h74 b14 c14 .char (8 : Int32) [(.int r20), (.int r31), (.int r41), (.int r51), (.int r61), (.int r71), (.int 0), (.int 0)] (.int 0) := by
          have q := Arv.set Ar72 q72 Sz72 Nn72 Hs72 Gf72 (fits_nar_char _) W74 5 rfl (Nat.le_of_ble_eq_true rfl)
          first | exact q | (simp only [Pa B71] at q; exact q)
        have sf76 := (Safe.wr W64 sf66 CR55.1 sf66)
        have CR75 := CR65.trans (CHr.wr W74 sf76 CR65.1)
        have N74 := Fr.snoc X74 N71 g_b14
        have O74 := O64.wr W74 g_b14
        have K74 := K64.wr W74 (Or.inr s_b14)
        have f77 := (f67.other W74 (Or.inl ne25))
        have f78 := (f68.wr W74)
        have f79 := (f69.other W74 (Or.inl ne25))
        have f80 := (f70.other W74 ne29)
        obtain ⟨_, _, ⟨T81, L81, k81, n81⟩, -, X81, ⟨Lc81, hQ81, l81, y81, z81⟩, st81⟩ := Jvm.LawKit.callS X74 hx (y := Ug) hown (mvT hZ (Ka hw 22 rfl)) (mvT hZ (Ka hw 23 rfl)) (mvT hZ (Ka hw 24 rfl)) (mvT hZ (Ka hw 25 rfl)) (by decide) (backOf (W := 2) (Paa l Z a0 hw [] js jt jk jz jvs jcs p2 _ _ _ _ _ _ _ _ _ _ _ _ _ h74 n0 O74 hE f78 f79 f77 f80 jcd (jbd) jl2) hZ (Ka hw 25 rfl) (Ka hw 24 rfl) (by decide) (by decide)) (g := (mkF m 189 #[.val (.int p0), .val (.int p1), .val (.long p2), .second, .val (.int p4), .val (.int p5), .val (.int (p0 &&& (3 : Int32))), .val (.int (((p0.toUInt32 >>> ((2 : Int32) &&& 31).toUInt32).toInt32) &&& (3 : Int32))), .val (.int jnl), .val (.ref js), .val (.int jn1), .val (.ref b14), .unset, .unset, .unset] [(.int 6), (.long p2), (.ref js), (.int 6), (.ref b14)])) rfl (by rw [hml]; rfl) (argsL := [(.ref js), (.long p2), (.int 6)]) (rest := [(.int 6), (.ref b14)]) (lenOf Pe rfl) rfl (by show 2 * 0 + _ ≤ _; exact Nat.le_of_eq rfl) (hb hby at_189) (fun _ _ => ⟨rfl, e74, (by decide : 3 + 0 ≤ _), (by decide : 40 + 0 ≤ _)⟩)
        dsimp only [Pt.U, Pt.locs, Pt.cells, Pt.slots] at X81 l81 y81 z81 st81 hQ81
        subst l81 y81 z81
        obtain ⟨r81, rfl, N81q, hp81, B81⟩ := hQ81
        have N81 := Fr.app N74 N81q
        obtain ⟨cl82, Ar82, q82, Sz82, Nn82, Hs82, Gf82⟩ := id V74
        have hin83 : ¬ ((6 : Int32) < 0 ∨ cl82.slots.size ≤ ((6 : Int32)).toNatClampNeg) := inb_of Sz82 ⟨by decide, by decide⟩
        obtain ⟨T84, h84, X84, e84, W84, st84⟩ := stC X81 hx hZ hp81 Ar82 (j := (6 : Int32)) hin83 (g := (mkF m 192 #[.val (.int p0), .val (.int p1), .val (.long p2), .second, .val (.int p4), .val (.int p5), .val (.int (p0 &&& (3 : Int32))), .val (.int (((p0.toUInt32 >>> ((2 : Int32) &&& 31).toUInt32).toInt32) &&& (3 : Int32))), .val (.int jnl), .val (.ref js), .val (.int jn1), .val (.ref b14), .unset, .unset, .unset] [(.int r81), (.int 6), (.ref b14)])) rfl rfl (hb hby at_192)
        have V84 : Arv Z h84 b14 c14 .char (8 : Int32) [(.int r20), (.int r31), (.int r41), (.int r51), (.int r61), (.int r71), (.int r81), (.int 0)] (.int 0) := by
          have q := Arv.set Ar82 q82 Sz82 Nn82 Hs82 Gf82 (fits_nar_char _) W84 6 rfl (Nat.le_of_ble_eq_true rfl)
          first | exact q | (simp only [Pa B81] at q; exact q)
        have sf86 := (Safe.wr W74 sf76 CR65.1 sf76)
        have CR85 := CR75.trans (CHr.wr W84 sf86 CR75.1)
        have N84 := Fr.snoc X84 N81 g_b14
        have O84 := O74.wr W84 g_b14
        have K84 := K74.wr W84 (Or.inr s_b14)
        have f87 := (f77.other W84 (Or.inl ne25))
        have f88 := (f78.wr W84)
        have f89 := (f79.other W84 (Or.inl ne25))
        have f90 := (f80.other W84 ne29)
        obtain ⟨_, _, ⟨T91, L91, k91, n91⟩, -, X91, ⟨Lc91, hQ91, l91, y91, z91⟩, st91⟩ := Jvm.LawKit.callS X84 hx (y := Ug) hown (mvT hZ (Ka hw 22 rfl)) (mvT hZ (Ka hw 23 rfl)) (mvT hZ (Ka hw 24 rfl)) (mvT hZ (Ka hw 25 rfl)) (by decide) (backOf (W := 2) (Uaa l Z a0 hw [] js jt jk jz jvs jcs p2 _ _ _ _ _ _ _ _ _ _ _ _ _ h84 n0 O84 hE f88 f89 f87 f90 jcd (jbd) jl2) hZ (Ka hw 25 rfl) (Ka hw 24 rfl) (by decide) (by decide)) (g := (mkF m 202 #[.val (.int p0), .val (.int p1), .val (.long p2), .second, .val (.int p4), .val (.int p5), .val (.int (p0 &&& (3 : Int32))), .val (.int (((p0.toUInt32 >>> ((2 : Int32) &&& 31).toUInt32).toInt32) &&& (3 : Int32))), .val (.int jnl), .val (.ref js), .val (.int jn1), .val (.ref b14), .unset, .unset, .unset] [(.int 7), (.long p2), (.ref js), (.int 7), (.ref b14)])) rfl (by rw [hml]; rfl) (argsL := [(.ref js), (.long p2), (.int 7)]) (rest := [(.int 7), (.ref b14)]) (lenOf Pe rfl) rfl (by show 2 * 0 + _ ≤ _; exact Nat.le_of_eq rfl) (hb hby at_202) (fun _ _ => ⟨rfl, e84, (by decide : 3 + 0 ≤ _), (by decide : 40 + 0 ≤ _)⟩)
        dsimp only [Pt.U, Pt.locs, Pt.cells, Pt.slots] at X91 l91 y91 z91 st91 hQ91
        subst l91 y91 z91
        obtain ⟨r91, rfl, N91q, hp91, B91⟩ := hQ91
        have N91 := Fr.app N84 N91q
        obtain ⟨cl92, Ar92, q92, Sz92, Nn92, Hs92, Gf92⟩ := id V84
        have hin93 : ¬ ((7 : Int32) < 0 ∨ cl92.slots.size ≤ ((7 : Int32)).toNatClampNeg) := inb_of Sz92 ⟨by decide, by decide⟩
        obtain ⟨T94, h94, X94, e94, W94, st94⟩ := stC X91 hx hZ hp91 Ar92 (j := (7 : Int32)) hin93 (g := (mkF m 205 #[.val (.int p0), .val (.int p1), .val (.long p2), .second, .val (.int p4), .val (.int p5), .val (.int (p0 &&& (3 : Int32))), .val (.int (((p0.toUInt32 >>> ((2 : Int32) &&& 31).toUInt32).toInt32) &&& (3 : Int32))), .val (.int jnl), .val (.ref js), .val (.int jn1), .val (.ref b14), .unset, .unset, .unset] [(.int r91), (.int 7), (.ref b14)])) rfl rfl (hb hby at_205)
        have V94 : Arv Z h94 b14 c14 .char (8 : Int32) [(.int r20), (.int r31), (.int r41), (.int r51), (.int r61), (.int r71), (.int r81), (.int r91)] (.int 0) := by
          have q := Arv.set Ar92 q92 Sz92 Nn92 Hs92 Gf92 (fits_nar_char _) W94 7 rfl (Nat.le_of_ble_eq_true rfl)
          first | exact q | (simp only [Pa B91] at q; exact q)
        have sf96 := (Safe.wr W84 sf86 CR75.1 sf86)
        have CR95 := CR85.trans (CHr.wr W94 sf96 CR85.1)
        have N94 := Fr.snoc X94 N91 g_b14
        have O94 := O84.wr W94 g_b14
        have K94 := K84.wr W94 (Or.inr s_b14)
        have k97 : ∀ t, Db p e below m T94 206 #[.val (.int p0), .val (.int p1), .val (.long p2), .second, .val (.int p4), .val (.int p5), .val (.int (p0 &&& (3 : Int32))), .val (.int (((p0.toUInt32 >>> ((2 : Int32) &&& 31).toUInt32).toInt32) &&& (3 : Int32))), .val (.int jnl), .val (.ref js), .val (.int jn1), .val (.ref b14), .unset, .unset, .unset] [] t → Kb p e below m s₁ #[(.int p0), (.int p1), (.long p2), (.int p4), (.int p5)] maxLocals t := by
          intro t k
          refine k13 t ?_
          refine XS.bipush X13.here hx rfl (hb hby at_108) ?_
          refine st14 _ ?_
          refine XS.astore X14.here hx rfl (hb hby at_112) rfl rfl (l' := #[.val (.int p0), .val (.int p1), .val (.long p2), .second, .val (.int p4), .val (.int p5), .val (.int (p0 &&& (3 : Int32))), .val (.int (((p0.toUInt32 >>> ((2 : Int32) &&& 31).toUInt32).toInt32) &&& (3 : Int32))), .val (.int jnl), .val (.ref js), .val (.int jn1), .val (.ref b14), .unset, .unset, .unset]) rfl ?_
          refine XS.aload X14.here hx rfl (hb hby at_114) rfl rfl ?_
          refine XS.iconst X14.here hx rfl (hb hby at_116) ?_
          refine XS.aload X14.here hx rfl (hb hby at_117) rfl rfl ?_
          refine XS.lloadN X14.here hx rfl (hb hby at_119) rfl ?_
          refine XS.iconst X14.here hx rfl (hb hby at_120) ?_
          refine st20 _ ?_
          refine st23 _ ?_
          refine XS.aload X23.here hx rfl (hb hby at_125) rfl rfl ?_
          refine XS.iconst X23.here hx rfl (hb hby at_127) ?_
          show Db p e below m T23 128 #[.val (.int p0), .val (.int p1), .val (.long p2), .second, .val (.int p4), .val (.int p5), .val (.int (p0 &&& (3 : Int32))), .val (.int (((p0.toUInt32 >>> ((2 : Int32) &&& 31).toUInt32).toInt32) &&& (3 : Int32))), .val (.int jnl), .val (.ref js), .val (.int jn1), .val (.ref b14), .unset, .unset, .unset] [(.int 1), (.ref b14)] t
          refine XS.aload X23.here hx rfl (hb hby at_128) rfl rfl ?_
          refine XS.lloadN X23.here hx rfl (hb hby at_130) rfl ?_
          refine XS.iconst X23.here hx rfl (hb hby at_131) ?_
          refine st31 _ ?_
          refine st34 _ ?_
          refine XS.aload X34.here hx rfl (hb hby at_136) rfl rfl ?_
          refine XS.iconst X34.here hx rfl (hb hby at_138) ?_
          refine XS.aload X34.here hx rfl (hb hby at_139) rfl rfl ?_
          refine XS.lloadN X34.here hx rfl (hb hby at_141) rfl ?_
          refine XS.iconst X34.here hx rfl (hb hby at_142) ?_
          refine st41 _ ?_
          refine st44 _ ?_
          show Db p e below m T44 147 #[.val (.int p0), .val (.int p1), .val (.long p2), .second, .val (.int p4), .val (.int p5), .val (.int (p0 &&& (3 : Int32))), .val (.int (((p0.toUInt32 >>> ((2 : Int32) &&& 31).toUInt32).toInt32) &&& (3 : Int32))), .val (.int jnl), .val (.ref js), .val (.int jn1), .val (.ref b14), .unset, .unset, .unset] [] t
          refine XS.aload X44.here hx rfl (hb hby at_147) rfl rfl ?_
          refine XS.iconst X44.here hx rfl (hb hby at_149) ?_
          refine XS.aload X44.here hx rfl (hb hby at_150) rfl rfl ?_
          refine XS.lloadN X44.here hx rfl (hb hby at_152) rfl ?_
          refine XS.iconst X44.here hx rfl (hb hby at_153) ?_
          refine st51 _ ?_
          refine st54 _ ?_
          refine XS.aload X54.here hx rfl (hb hby at_158) rfl rfl ?_
          refine XS.iconst X54.here hx rfl (hb hby at_160) ?_
          refine XS.aload X54.here hx rfl (hb hby at_161) rfl rfl ?_
          refine XS.lloadN X54.here hx rfl (hb hby at_163) rfl ?_
          refine XS.iconst X54.here hx rfl (hb hby at_164) ?_
          show Db p e below m T54 165 #[.val (.int p0), .val (.int p1), .val (.long p2), .second, .val (.int p4), .val (.int p5), .val (.int (p0 &&& (3 : Int32))), .val (.int (((p0.toUInt32 >>> ((2 : Int32) &&& 31).toUInt32).toInt32) &&& (3 : Int32))), .val (.int jnl), .val (.ref js), .val (.int jn1), .val (.ref b14), .unset, .unset, .unset] [(.int 4), (.long p2), (.ref js), (.int 4), (.ref b14)] t
          refine st61 _ ?_
          refine st64 _ ?_
          refine XS.aload X64.here hx rfl (hb hby at_169) rfl rfl ?_
          refine XS.iconst X64.here hx rfl (hb hby at_171) ?_
          refine XS.aload X64.here hx rfl (hb hby at_172) rfl rfl ?_
          refine XS.lloadN X64.here hx rfl (hb hby at_174) rfl ?_
          refine XS.iconst X64.here hx rfl (hb hby at_175) ?_
          refine st71 _ ?_
          refine st74 _ ?_
          refine XS.aload X74.here hx rfl (hb hby at_180) rfl rfl ?_
          refine XS.bipush X74.here hx rfl (hb hby at_182) ?_
          refine XS.aload X74.here hx rfl (hb hby at_184) rfl rfl ?_
          show Db p e below m T74 186 #[.val (.int p0), .val (.int p1), .val (.long p2), .second, .val (.int p4), .val (.int p5), .val (.int (p0 &&& (3 : Int32))), .val (.int (((p0.toUInt32 >>> ((2 : Int32) &&& 31).toUInt32).toInt32) &&& (3 : Int32))), .val (.int jnl), .val (.ref js), .val (.int jn1), .val (.ref b14), .unset, .unset, .unset] [(.ref js), (.int 6), (.ref b14)] t
          refine XS.lloadN X74.here hx rfl (hb hby at_186) rfl ?_
          refine XS.bipush X74.here hx rfl (hb hby at_187) ?_
          refine st81 _ ?_
          refine st84 _ ?_
          refine XS.aload X84.here hx rfl (hb hby at_193) rfl rfl ?_
          refine XS.bipush X84.here hx rfl (hb hby at_195) ?_
          refine XS.aload X84.here hx rfl (hb hby at_197) rfl rfl ?_
          refine XS.lloadN X84.here hx rfl (hb hby at_199) rfl ?_
          refine XS.bipush X84.here hx rfl (hb hby at_200) ?_
          refine st91 _ ?_
          refine st94 _ ?_
          exact k
        have J98 : ∀ (vm98 : Vm) (kk98 : Nat) (T98 : State) (locs98 : List Loc) (h98 : Heap) (jb : Addr) (jkb : ClassId) (jn : Int32) (d0 : Int32) (d1 : Int32) (d2 : Int32) (d3 : Int32) (d4 : Int32) (d5 : Int32) (d6 : Int32) (d7 : Int32) (hS : s.Since vm98 kk98) (hk98 : kk98 ≤ h98.size) (hZ : Z.Warmed39 (s.setVm vm98).vm) (hown : (s.setVm vm98).vm.findClass "com/example/entitlement_ledger/entitlementledger/model/AssigneeKindOfCollectionNamePinLaw" = some m.cls) (CR98 : CHr Z Uc s.vm h0 vm98 h98) (X98 : Stand p l e room_1 (s.setVm vm98) m #[(.int p0), (.int p1), (.long p2), (.int p4), (.int p5)] below meth c T98 locs98 3 48) (e98 : T98.heap = h98) (N98 : Fr n0 locs98) (O98 : Old Z n0 h98) (K98 : Keep h0 h98 []) (G98_0 : Arv Z h98 jb jkb .char (8 : Int32) [(.int d0), (.int d1), (.int d2), (.int d3), (.int d4), (.int d5), (.int d6), (.int d7)] (.int 0)) (g_jb : n0 ≤ jb) (s_jb : h0.size ≤ jb) (Sf_jb : Safe Z Uc vm98 h98 jb) (hjn : 0 ≤ jn.toInt ∧ jn.toInt ≤ 8) (rd0 : ¬ d0 < 0 ∧ ¬ (255 : Int32) < d0) (rd1 : ¬ d1 < 0 ∧ ¬ (255 : Int32) < d1) (rd2 : ¬ d2 < 0 ∧ ¬ (255 : Int32) < d2) (rd3 : ¬ d3 < 0 ∧ ¬ (255 : Int32) < d3) (rd4 : ¬ d4 < 0 ∧ ¬ (255 : Int32) < d4) (rd5 : ¬ d5 < 0 ∧ ¬ (255 : Int32) < d5) (rd6 : ¬ d6 < 0 ∧ ¬ (255 : Int32) < d6) (rd7 : ¬ d7 < 0 ∧ ¬ (255 : Int32) < d7) (k98 : ∀ t, Db p e below m T98 239 #[.val (.int p0), .val (.int p1), .val (.long p2), .second, .val (.int p4), .val (.int p5), .val (.int (p0 &&& (3 : Int32))), .val (.int (((p0.toUInt32 >>> ((2 : Int32) &&& 31).toUInt32).toInt32) &&& (3 : Int32))), .val (.int jnl), .val (.ref js), .val (.int jn), .val (.ref jb), .unset, .unset, .unset] [] t → Kb p e below m s₁ #[(.int p0), (.int p1), (.long p2), (.int p4), (.int p5)] maxLocals t), False := by
          intro vm98 kk98 T98 locs98 h98 jb jkb jn d0 d1 d2 d3 d4 d5 d6 d7 hS hk98 hZ hown CR98 X98 e98 N98 O98 K98 G98_0 g_jb s_jb Sf_jb hjn rd0 rd1 rd2 rd3 rd4 rd5 rd6 rd7 k98
          have lt_jb := G98_0.lt
          have k99 : ∀ t, Db p e below m T98 241 #[.val (.int p0), .val (.int p1), .val (.long p2), .second, .val (.int p4), .val (.int p5), .val (.int (p0 &&& (3 : Int32))), .val (.int (((p0.toUInt32 >>> ((2 : Int32) &&& 31).toUInt32).toInt32) &&& (3 : Int32))), .val (.int jnl), .val (.ref js), .val (.int jn), .val (.ref jb), .unset, .unset, .unset] [(.int jnl)] t → Kb p e below m s₁ #[(.int p0), (.int p1), (.long p2), (.int p4), (.int p5)] maxLocals t := by
            intro t k
            refine k98 t ?_
            refine XS.iload X98.here hx rfl (hb hby at_239) rfl ?_
            exact k
          by_cases hc100 : jnl = (0 : Int32)
          · obtain ⟨_, _, ⟨T101, L101, k101, n101⟩, -, X101, hS101, hg101, ⟨Lc101, hQ101, l101, y101, z101, hC101⟩, st101⟩ := callSS X98 hx (y := R7) hown (mvT hZ (Ka hw 49 rfl)) (mvT hZ (Ka hw 50 rfl)) (mvT hZ (Ka hw 24 rfl)) (mvT hZ (Ka hw 51 rfl)) (by decide) (backOfSH (W := 0) (rm_mk l Z a0 hw [] jb jkb jn d0 d1 d2 d3 d4 d5 d6 d7 _ _ _ _ _ _ _ _ _ _ _ _ _ h98 n0 O98 hE G98_0 rd0 rd1 rd2 rd3 rd4 rd5 rd6 rd7 (U8 hjn)) hZ (Ka hw 51 rfl) (Ka hw 24 rfl) (by decide) (by decide) (Af hw) CR98.1) (g := (mkF m 252 #[.val (.int p0), .val (.int p1), .val (.long p2), .second, .val (.int p4), .val (.int p5), .val (.int (p0 &&& (3 : Int32))), .val (.int (((p0.toUInt32 >>> ((2 : Int32) &&& 31).toUInt32).toInt32) &&& (3 : Int32))), .val (.int jnl), .val (.ref js), .val (.int jn), .val (.ref jb), .unset, .unset, .unset] [(.int jn), (.ref jb)])) rfl (by rw [hml]; rfl) (argsL := [(.ref jb), (.int jn)]) (rest := []) (lenOf Mj rfl) rfl (by show 2 * 0 + _ ≤ _; exact Nat.le_of_eq rfl) (hb hby at_252) (fun _ _ => ⟨rfl, e98, (by decide : 3 + 6 ≤ _), (by decide : 48 + 20 ≤ _)⟩)
            dsimp only [Pt.U, Pt.locs, Pt.cells, Pt.slots] at X101 l101 y101 z101 st101 hQ101 hS101 hg101 hC101
            subst l101 y101 z101
            obtain ⟨X101, hS, hZ, hown⟩ := rebS hS (by rw [e98]; exact hk98) X101 hS101 hg101 hZ hown
            obtain ⟨b101, t101, k101, z101, vs101, cs101, rfl, N101q, O101, Kc101, g_b101, gs_b101, F101_0, F101_1, F101_2, F101_3, D101_0, D101_1, D101_2⟩ := hQ101
            have N101 := Fr.app N98 N101q
            have CR102 := CR98.trans hC101
            have K101 := K98.trans Kc101 (fun x hx => nomatch hx)
            have s_b101 := Nat.le_trans K98.1 gs_b101
            have lt_b101 := F101_0.lt
            have lt_t101 := F101_3.lt
            obtain ⟨a103, T103, h103, q103, t103, kb103, X103, e103, E103, hS, hk103, hZ, hown, Ex103, Fc103, Fv103, Av103, la103, lb103, hC103, -, hSf103, st103⟩ := ldcCH X101 hx hZ hown (Ka hw 0 rfl) (Aj hw) rfl hS (Nat.le_refl _) (Af hw) (EL := Uc) (List.mem_of_getElem? (i := 1) rfl) CR102.1 (vs := [(.int 117), (.int 115), (.int 101), (.int 114), (.int 115)]) (z := (5 : Int32)) ⟨by decide, by decide⟩ (by decide) (by decide) (g := (mkF m 270 #[.val (.int p0), .val (.int p1), .val (.long p2), .second, .val (.int p4), .val (.int p5), .val (.int (p0 &&& (3 : Int32))), .val (.int (((p0.toUInt32 >>> ((2 : Int32) &&& 31).toUInt32).toInt32) &&& (3 : Int32))), .val (.int jnl), .val (.ref js), .val (.int jn), .val (.ref jb), .val (.ref b101), .unset, .unset] [(.ref b101)])) rfl (hb hby at_270) (n := 20) (by decide) (by decide) (by decide) (by decide)
            have CR104 := CR102.trans hC103
            have O103 := O101.ext E103
            have K103 := K101.ext E103
            have k105 : ∀ t, Db p e below m T103 272 #[.val (.int p0), .val (.int p1), .val (.long p2), .second, .val (.int p4), .val (.int p5), .val (.int (p0 &&& (3 : Int32))), .val (.int (((p0.toUInt32 >>> ((2 : Int32) &&& 31).toUInt32).toInt32) &&& (3 : Int32))), .val (.int jnl), .val (.ref js), .val (.int jn), .val (.ref jb), .val (.ref b101), .unset, .unset] [(.ref a103), (.ref b101)] t → Kb p e below m s₁ #[(.int p0), (.int p1), (.long p2), (.int p4), (.int p5)] maxLocals t := by
              intro t k
              refine k99 t ?_
              refine XS.ifYes X98.here hx rfl (pc0 := 241) (pc' := 248) rfl (hb hby at_241) rfl ((if0 _ _).trans (teq hc100).1) (by decide) (by decide) ?_
              refine XS.aload X98.here hx rfl (hb hby at_248) rfl rfl ?_
              refine XS.iload X98.here hx rfl (hb hby at_250) rfl ?_
              refine st101.trans ?_
              refine XS.astore X101.here hx rfl (hb hby at_255) rfl rfl (l' := #[.val (.int p0), .val (.int p1), .val (.long p2), .second, .val (.int p4), .val (.int p5), .val (.int (p0 &&& (3 : Int32))), .val (.int (((p0.toUInt32 >>> ((2 : Int32) &&& 31).toUInt32).toInt32) &&& (3 : Int32))), .val (.int jnl), .val (.ref js), .val (.int jn), .val (.ref jb), .val (.ref b101), .unset, .unset]) rfl ?_
              refine XS.aload X101.here hx rfl (hb hby at_257) rfl rfl ?_
              refine XS.ifnonnullYes X101.here hx rfl (pc0 := 259) (pc' := 268) rfl (hb hby at_259) rfl (by decide) (by decide) ?_
              refine XS.aload X101.here hx rfl (hb hby at_268) rfl rfl ?_
              refine st103 _ ?_
              exact k
            by_cases hc106 : cs101 = ([(117 : Int32), (115 : Int32), (101 : Int32), (114 : Int32), (115 : Int32)] : List Int32)
            · have f107 := (F101_0.ext E103)
              have f108 := (F101_2.ext E103)
              have f109 := (F101_1.ext E103)
              have f110 := (F101_3.ext E103)
              obtain ⟨cq111, kq111, q111a, q111b, q111c⟩ := isOf hZ e103 f107
              obtain ⟨_, _, ⟨T111, L111, k111, n111⟩, -, X111, ⟨Lc111, hQ111, l111, y111, z111⟩, st111⟩ := X103.virtualBack hx (y := Vc) (z := Vc) hown (mvT hZ (Ka hw 73 rfl)) (mvT hZ (Ka hw 74 rfl)) (notFace_of_selects (args := #[]) (mvT hZ (Ka hw 76 rfl))) (mvT hZ (Ka hw 76 rfl)) (mvT hZ (Ka hw 75 rfl)) (by decide) (StrChars.Road.eqW (W := 0) hZ (Ig hw) (kI := 4) (Ka hw 2 rfl) f107 f108 f109 f110 D101_0 (Zc _ D101_1) D101_2 Ex103 Fv103 Fc103 Av103 Rh (Zc _ Hh) (Nat.le_of_ble_eq_true rfl) (Hb.ext O103.2) Gb (by decide) (by decide)) q111a q111c (g := (mkF m 272 #[.val (.int p0), .val (.int p1), .val (.long p2), .second, .val (.int p4), .val (.int p5), .val (.int (p0 &&& (3 : Int32))), .val (.int (((p0.toUInt32 >>> ((2 : Int32) &&& 31).toUInt32).toInt32) &&& (3 : Int32))), .val (.int jnl), .val (.ref js), .val (.int jn), .val (.ref jb), .val (.ref b101), .unset, .unset] [(.ref a103), (.ref b101)])) rfl (by rw [hml]; rfl) (Steps.refl _) (argsL := [(.ref a103)]) (rest := []) (lenOf Ic rfl) rfl (by show 2 * 0 + _ ≤ _; exact Nat.le_of_eq rfl) (hb hby at_272) (fun _ _ => ⟨rfl, e103, (by decide : 11 + 0 ≤ _), (by decide : 92 + 0 ≤ _)⟩)
              dsimp only [Pt.U, Pt.locs, Pt.cells, Pt.slots] at X111 l111 y111 z111 st111 hQ111
              subst l111 y111 z111
              obtain ⟨hcase111, rfl, hp111⟩ := hQ111
              have N111q : Fr n0 ([] : List Loc) := Fr.nil n0
              have hv111 : _ = some (Value.int 1) := hcase111.elim (fun q => q.1) (fun q => absurd hc106 q.2)
              subst hv111
              have N111 := Fr.app N101 N111q
              obtain ⟨T112, X112, e112, st112⟩ := getS2 X111 hx hZ hown (host := "") (Or.inl (Ka hw 82 rfl)) Via.refl hp111 (Ye.ext O103.2) (g := (mkF m 278 #[.val (.int p0), .val (.int p1), .val (.long p2), .second, .val (.int p4), .val (.int p5), .val (.int (p0 &&& (3 : Int32))), .val (.int (((p0.toUInt32 >>> ((2 : Int32) &&& 31).toUInt32).toInt32) &&& (3 : Int32))), .val (.int jnl), .val (.ref js), .val (.int jn), .val (.ref jb), .val (.ref b101), .unset, .unset] [])) rfl (hb hby at_278)
              obtain ⟨_, _, ⟨T113, L113, k113, n113⟩, -, X113, ⟨Lc113, hQ113, l113, y113, z113⟩, st113⟩ := Jvm.LawKit.callS X112 hx (y := Vg) hown (mvT hZ (Ka hw 85 rfl)) (mvT hZ (Ka hw 86 rfl)) (mvT hZ (Ka hw 83 rfl)) (mvT hZ (Ka hw 87 rfl)) (by decide) (backOf (W := 0) (Y8 l Z a0 hw [] b101 t101 k101 z101 vs101 cs101 _ _ _ _ _ _ _ _ _ _ _ _ _ h103 n0 O103 hE f107 f109 f108 f110 D101_0 D101_1 D101_2 hc106) hZ (Ka hw 87 rfl) (Ka hw 83 rfl) (by decide) (by decide)) (g := (mkF m 327 #[.val (.int p0), .val (.int p1), .val (.long p2), .second, .val (.int p4), .val (.int p5), .val (.int (p0 &&& (3 : Int32))), .val (.int (((p0.toUInt32 >>> ((2 : Int32) &&& 31).toUInt32).toInt32) &&& (3 : Int32))), .val (.int jnl), .val (.ref js), .val (.int jn), .val (.ref jb), .val (.ref b101), .val (.ref Wa), .unset] [(.ref b101)])) rfl (by rw [hml]; rfl) (argsL := [(.ref b101)]) (rest := []) (lenOf Mc rfl) rfl (by show 2 * 0 + _ ≤ _; exact Nat.le_of_eq rfl) (hb hby at_327) (fun _ _ => ⟨rfl, e112, (by decide : 11 + 2 ≤ _), (by decide : 92 + 4 ≤ _)⟩)
              dsimp only [Pt.U, Pt.locs, Pt.cells, Pt.slots] at X113 l113 y113 z113 st113 hQ113
              subst l113 y113 z113
              obtain ⟨b113, rfl, N113q, O113, Kc113, g_b113, gs_b113, F113_0, F113_1⟩ := hQ113
              have N113 := Fr.app N111 N113q
              have CR114 := CR104.trans (CHr.keep Kc113 all0 CR104.1)
              have K113 := K103.trans Kc113 (fun x hx => nomatch hx)
              have s_b113 := Nat.le_trans K103.1 gs_b113
              have lt_b113 := F113_0.lt
              obtain ⟨cq115, kq115, q115a, q115b, q115c⟩ := isOf hZ rfl F113_0
              obtain ⟨_, _, ⟨T115, L115, k115, n115⟩, -, X115, ⟨Lc115, hQ115, l115, y115, z115⟩, st115⟩ := X113.virtualBack hx (y := Df) (z := Df) hown (mvT hZ (Ka hw 125 rfl)) (mvT hZ (Ka hw 126 rfl)) (notFace_of_selects (args := #[]) (mvT hZ (Ka hw 128 rfl))) (mvT hZ (Ka hw 128 rfl)) (mvT hZ (Ka hw 127 rfl)) (by decide) (backOf (W := 0) (I7 l Z a0 hw [] b113 Wa _ _ _ _ _ _ _ _ _ _ _ _ _ T113.heap n0 O113 hE F113_1 ) hZ (Ka hw 129 rfl) (Ka hw 110 rfl) (by decide) (by decide)) q115a q115c (g := (mkF m 331 #[.val (.int p0), .val (.int p1), .val (.long p2), .second, .val (.int p4), .val (.int p5), .val (.int (p0 &&& (3 : Int32))), .val (.int (((p0.toUInt32 >>> ((2 : Int32) &&& 31).toUInt32).toInt32) &&& (3 : Int32))), .val (.int jnl), .val (.ref js), .val (.int jn), .val (.ref jb), .val (.ref b101), .val (.ref Wa), .unset] [.null, (.ref b113)])) rfl (by rw [hml]; rfl) (Steps.refl _) (argsL := [.null]) (rest := []) (lenOf Kc rfl) rfl (by show 2 * 0 + _ ≤ _; exact Nat.le_of_eq rfl) (hb hby at_331) (fun _ _ => ⟨rfl, rfl, (by decide : 13 + 0 ≤ _), (by decide : 96 + 0 ≤ _)⟩)
              dsimp only [Pt.U, Pt.locs, Pt.cells, Pt.slots] at X115 l115 y115 z115 st115 hQ115
              subst l115 y115 z115
              obtain ⟨rfl, N115q, hp115⟩ := hQ115
              have N115 := Fr.app N113 N115q
              obtain ⟨T116, X116, e116, st116⟩ := castY X115 hx hZ hown (Ka hw 130 rfl) hp115 (Ins.self (Ze.ext O113.2)) (g := (mkF m 334 #[.val (.int p0), .val (.int p1), .val (.long p2), .second, .val (.int p4), .val (.int p5), .val (.int (p0 &&& (3 : Int32))), .val (.int (((p0.toUInt32 >>> ((2 : Int32) &&& 31).toUInt32).toInt32) &&& (3 : Int32))), .val (.int jnl), .val (.ref js), .val (.int jn), .val (.ref jb), .val (.ref b101), .val (.ref Wa), .unset] [(.ref Wa)])) rfl rfl (hb hby at_334)
              have k117 : ∀ t, Db p e below m T116 351 #[.val (.int p0), .val (.int p1), .val (.long p2), .second, .val (.int p4), .val (.int p5), .val (.int (p0 &&& (3 : Int32))), .val (.int (((p0.toUInt32 >>> ((2 : Int32) &&& 31).toUInt32).toInt32) &&& (3 : Int32))), .val (.int jnl), .val (.ref js), .val (.int jn), .val (.ref jb), .val (.ref b101), .val (.ref Wa), .val (.ref Wa)] [(.int 1)] t → Kb p e below m s₁ #[(.int p0), (.int p1), (.long p2), (.int p4), (.int p5)] maxLocals t := by
                intro t k
                refine k105 t ?_
                refine st111.trans ?_
                refine XS.ifNo X111.here hx rfl (hb hby at_275) rfl ((if0 _ _).trans (feq (by decide : ¬ ((1 : Int32) = (0 : Int32)))).1) ?_
                refine st112 _ ?_
                refine XS.astore X112.here hx rfl (hb hby at_281) rfl rfl (l' := #[.val (.int p0), .val (.int p1), .val (.long p2), .second, .val (.int p4), .val (.int p5), .val (.int (p0 &&& (3 : Int32))), .val (.int (((p0.toUInt32 >>> ((2 : Int32) &&& 31).toUInt32).toInt32) &&& (3 : Int32))), .val (.int jnl), .val (.ref js), .val (.int jn), .val (.ref jb), .val (.ref b101), .val (.ref Wa), .unset]) rfl ?_
                refine XS.goto X112.here hx rfl (pc0 := 283) (pc' := 325) rfl (hb hby at_283) (by decide) (by decide) ?_
                refine XS.aload X112.here hx rfl (hb hby at_325) rfl rfl ?_
                refine st113 _ ?_
                refine XS.aconstNull X113.here hx rfl (hb hby at_330) ?_
                refine st115.trans ?_
                refine st116 _ ?_
                refine XS.astore X116.here hx rfl (hb hby at_337) rfl rfl (l' := #[.val (.int p0), .val (.int p1), .val (.long p2), .second, .val (.int p4), .val (.int p5), .val (.int (p0 &&& (3 : Int32))), .val (.int (((p0.toUInt32 >>> ((2 : Int32) &&& 31).toUInt32).toInt32) &&& (3 : Int32))), .val (.int jnl), .val (.ref js), .val (.int jn), .val (.ref jb), .val (.ref b101), .val (.ref Wa), .val (.ref Wa)]) rfl ?_
                refine XS.aload X116.here hx rfl (hb hby at_339) rfl rfl ?_
                show Db p e below m T116 341 #[.val (.int p0), .val (.int p1), .val (.long p2), .second, .val (.int p4), .val (.int p5), .val (.int (p0 &&& (3 : Int32))), .val (.int (((p0.toUInt32 >>> ((2 : Int32) &&& 31).toUInt32).toInt32) &&& (3 : Int32))), .val (.int jnl), .val (.ref js), .val (.int jn), .val (.ref jb), .val (.ref b101), .val (.ref Wa), .val (.ref Wa)] [(.ref Wa)] t
                refine XS.aload X116.here hx rfl (hb hby at_341) rfl rfl ?_
                refine Jvm.RoadKit.acmp (g := (mkF m 343 #[.val (.int p0), .val (.int p1), .val (.long p2), .second, .val (.int p4), .val (.int p5), .val (.int (p0 &&& (3 : Int32))), .val (.int (((p0.toUInt32 >>> ((2 : Int32) &&& 31).toUInt32).toInt32) &&& (3 : Int32))), .val (.int jnl), .val (.ref js), .val (.int jn), .val (.ref jb), .val (.ref b101), .val (.ref Wa), .val (.ref Wa)] [(.ref Wa), (.ref Wa)])) X116 hx rfl rfl rfl (pc0 := 343) (pc' := 346) (same := true) rfl (hb hby at_343) rfl (decide_eq_true rfl) (by decide) (by decide) ?_
                refine XS.iconst X116.here hx rfl (hb hby at_346) ?_
                refine XS.goto X116.here hx rfl (pc0 := 347) (pc' := 351) rfl (hb hby at_347) (by decide) (by decide) ?_
                exact k
              obtain ⟨fs, hr, hrun, hended, hRW⟩ := X116.leaveW hS (by rw [e116]; exact (Nat.le_trans hk103 Kc113.1)) (v := some (.int 1)) (fun h => by rw [Bd.returns] at h; cases h)
              refine hNG ⟨_, _, k117 _ ?_, hrun, hended, _, _, rfl, ?_, hRW.1, hRW.2.1, hRW.2.2.1, hRW.2.2.2.mono (by decide) (by decide)⟩
              · exact retN X116 hx (t := .boolean) Bd.returns (by simp) (hb hby at_351) hr
              · show Pk Z p0 p1 p2 p4 p5 Wa Va Ua Ra Ia Da Ha Ba Ga Aa Ma La Bb h0 n0 _ T116.heap _
                rw [e116]
                exact ⟨rfl, N115⟩
            · have f118 := (F101_0.ext E103)
              have f119 := (F101_2.ext E103)
              have f120 := (F101_1.ext E103)
              have f121 := (F101_3.ext E103)
              obtain ⟨cq122, kq122, q122a, q122b, q122c⟩ := isOf hZ e103 f118
              obtain ⟨_, _, ⟨T122, L122, k122, n122⟩, -, X122, ⟨Lc122, hQ122, l122, y122, z122⟩, st122⟩ := X103.virtualBack hx (y := Vc) (z := Vc) hown (mvT hZ (Ka hw 73 rfl)) (mvT hZ (Ka hw 74 rfl)) (notFace_of_selects (args := #[]) (mvT hZ (Ka hw 76 rfl))) (mvT hZ (Ka hw 76 rfl)) (mvT hZ (Ka hw 75 rfl)) (by decide) (StrChars.Road.eqW (W := 0) hZ (Ig hw) (kI := 4) (Ka hw 2 rfl) f118 f119 f120 f121 D101_0 (Zc _ D101_1) D101_2 Ex103 Fv103 Fc103 Av103 Rh (Zc _ Hh) (Nat.le_of_ble_eq_true rfl) (Hb.ext O103.2) Gb (by decide) (by decide)) q122a q122c (g := (mkF m 272 #[.val (.int p0), .val (.int p1), .val (.long p2), .second, .val (.int p4), .val (.int p5), .val (.int (p0 &&& (3 : Int32))), .val (.int (((p0.toUInt32 >>> ((2 : Int32) &&& 31).toUInt32).toInt32) &&& (3 : Int32))), .val (.int jnl), .val (.ref js), .val (.int jn), .val (.ref jb), .val (.ref b101), .unset, .unset] [(.ref a103), (.ref b101)])) rfl (by rw [hml]; rfl) (Steps.refl _) (argsL := [(.ref a103)]) (rest := []) (lenOf Ic rfl) rfl (by show 2 * 0 + _ ≤ _; exact Nat.le_of_eq rfl) (hb hby at_272) (fun _ _ => ⟨rfl, e103, (by decide : 11 + 0 ≤ _), (by decide : 92 + 0 ≤ _)⟩)
              dsimp only [Pt.U, Pt.locs, Pt.cells, Pt.slots] at X122 l122 y122 z122 st122 hQ122
              subst l122 y122 z122
              obtain ⟨hcase122, rfl, hp122⟩ := hQ122
              have N122q : Fr n0 ([] : List Loc) := Fr.nil n0
              have hv122 : _ = some (Value.int 0) := hcase122.elim (fun q => absurd q.2 hc106) (fun q => q.1)
              subst hv122
              have N122 := Fr.app N101 N122q
              obtain ⟨a123, T123, h123, q123, t123, kb123, X123, e123, E123, hS, hk123, hZ, hown, Ex123, Fc123, Fv123, Av123, la123, lb123, hC123, -, hSf123, st123⟩ := ldcCH X122 hx hZ hown (Ka hw 133 rfl) (Aj hw) hp122 hS hk103 (Af hw) (EL := Uc) (List.mem_of_getElem? (i := 2) rfl) CR104.1 (vs := [(.int 103), (.int 114), (.int 111), (.int 117), (.int 112), (.int 115)]) (z := (6 : Int32)) ⟨by decide, by decide⟩ (by decide) (by decide) (g := (mkF m 288 #[.val (.int p0), .val (.int p1), .val (.long p2), .second, .val (.int p4), .val (.int p5), .val (.int (p0 &&& (3 : Int32))), .val (.int (((p0.toUInt32 >>> ((2 : Int32) &&& 31).toUInt32).toInt32) &&& (3 : Int32))), .val (.int jnl), .val (.ref js), .val (.int jn), .val (.ref jb), .val (.ref b101), .unset, .unset] [(.ref b101)])) rfl (hb hby at_288) (n := 24) (by decide) (by decide) (by decide) (by decide)
              have CR124 := CR104.trans hC123
              have O123 := O103.ext E123
              have K123 := K103.ext E123
              have k125 : ∀ t, Db p e below m T123 290 #[.val (.int p0), .val (.int p1), .val (.long p2), .second, .val (.int p4), .val (.int p5), .val (.int (p0 &&& (3 : Int32))), .val (.int (((p0.toUInt32 >>> ((2 : Int32) &&& 31).toUInt32).toInt32) &&& (3 : Int32))), .val (.int jnl), .val (.ref js), .val (.int jn), .val (.ref jb), .val (.ref b101), .unset, .unset] [(.ref a123), (.ref b101)] t → Kb p e below m s₁ #[(.int p0), (.int p1), (.long p2), (.int p4), (.int p5)] maxLocals t := by
                intro t k
                refine k105 t ?_
                refine st122.trans ?_
                refine XS.ifYes X122.here hx rfl (pc0 := 275) (pc' := 286) rfl (hb hby at_275) rfl ((if0 _ _).trans (teq (by decide : (0 : Int32) = (0 : Int32))).1) (by decide) (by decide) ?_
                refine XS.aload X122.here hx rfl (hb hby at_286) rfl rfl ?_
                refine st123 _ ?_
                exact k
              by_cases hc126 : cs101 = ([(103 : Int32), (114 : Int32), (111 : Int32), (117 : Int32), (112 : Int32), (115 : Int32)] : List Int32)
              · have f127 := (f118.ext E123)
                have f128 := (f119.ext E123)
                have f129 := (f120.ext E123)
                have f130 := (f121.ext E123)
                obtain ⟨cq131, kq131, q131a, q131b, q131c⟩ := isOf hZ e123 f127
                obtain ⟨_, _, ⟨T131, L131, k131, n131⟩, -, X131, ⟨Lc131, hQ131, l131, y131, z131⟩, st131⟩ := X123.virtualBack hx (y := Vc) (z := Vc) hown (mvT hZ (Ka hw 73 rfl)) (mvT hZ (Ka hw 74 rfl)) (notFace_of_selects (args := #[]) (mvT hZ (Ka hw 76 rfl))) (mvT hZ (Ka hw 76 rfl)) (mvT hZ (Ka hw 75 rfl)) (by decide) (StrChars.Road.eqW (W := 0) hZ (Ig hw) (kI := 4) (Ka hw 2 rfl) f127 f128 f129 f130 D101_0 (Zc _ D101_1) D101_2 Ex123 Fv123 Fc123 Av123 Yh (Zc _ Ih) (Nat.le_of_ble_eq_true rfl) (Hb.ext O123.2) Gb (by decide) (by decide)) q131a q131c (g := (mkF m 290 #[.val (.int p0), .val (.int p1), .val (.long p2), .second, .val (.int p4), .val (.int p5), .val (.int (p0 &&& (3 : Int32))), .val (.int (((p0.toUInt32 >>> ((2 : Int32) &&& 31).toUInt32).toInt32) &&& (3 : Int32))), .val (.int jnl), .val (.ref js), .val (.int jn), .val (.ref jb), .val (.ref b101), .unset, .unset] [(.ref a123), (.ref b101)])) rfl (by rw [hml]; rfl) (Steps.refl _) (argsL := [(.ref a123)]) (rest := []) (lenOf Ic rfl) rfl (by show 2 * 0 + _ ≤ _; exact Nat.le_of_eq rfl) (hb hby at_290) (fun _ _ => ⟨rfl, e123, (by decide : 13 + 0 ≤ _), (by decide : 120 + 0 ≤ _)⟩)
                dsimp only [Pt.U, Pt.locs, Pt.cells, Pt.slots] at X131 l131 y131 z131 st131 hQ131
                subst l131 y131 z131
                obtain ⟨hcase131, rfl, hp131⟩ := hQ131
                have N131q : Fr n0 ([] : List Loc) := Fr.nil n0
                have hv131 : _ = some (Value.int 1) := hcase131.elim (fun q => q.1) (fun q => absurd hc126 q.2)
                subst hv131
                have N131 := Fr.app N122 N131q
                obtain ⟨T132, X132, e132, st132⟩ := getS2 X131 hx hZ hown (host := "") (Or.inl (Ka hw 141 rfl)) Via.refl hp131 (Ue.ext O123.2) (g := (mkF m 296 #[.val (.int p0), .val (.int p1), .val (.long p2), .second, .val (.int p4), .val (.int p5), .val (.int (p0 &&& (3 : Int32))), .val (.int (((p0.toUInt32 >>> ((2 : Int32) &&& 31).toUInt32).toInt32) &&& (3 : Int32))), .val (.int jnl), .val (.ref js), .val (.int jn), .val (.ref jb), .val (.ref b101), .unset, .unset] [])) rfl (hb hby at_296)
                obtain ⟨_, _, ⟨T133, L133, k133, n133⟩, -, X133, ⟨Lc133, hQ133, l133, y133, z133⟩, st133⟩ := Jvm.LawKit.callS X132 hx (y := Vg) hown (mvT hZ (Ka hw 85 rfl)) (mvT hZ (Ka hw 86 rfl)) (mvT hZ (Ka hw 83 rfl)) (mvT hZ (Ka hw 87 rfl)) (by decide) (backOf (W := 0) (Z8 l Z a0 hw [] b101 t101 k101 z101 vs101 cs101 _ _ _ _ _ _ _ _ _ _ _ _ _ h123 n0 O123 hE f127 f129 f128 f130 D101_0 D101_1 D101_2 hc106 hc126) hZ (Ka hw 87 rfl) (Ka hw 83 rfl) (by decide) (by decide)) (g := (mkF m 327 #[.val (.int p0), .val (.int p1), .val (.long p2), .second, .val (.int p4), .val (.int p5), .val (.int (p0 &&& (3 : Int32))), .val (.int (((p0.toUInt32 >>> ((2 : Int32) &&& 31).toUInt32).toInt32) &&& (3 : Int32))), .val (.int jnl), .val (.ref js), .val (.int jn), .val (.ref jb), .val (.ref b101), .val (.ref Ua), .unset] [(.ref b101)])) rfl (by rw [hml]; rfl) (argsL := [(.ref b101)]) (rest := []) (lenOf Mc rfl) rfl (by show 2 * 0 + _ ≤ _; exact Nat.le_of_eq rfl) (hb hby at_327) (fun _ _ => ⟨rfl, e132, (by decide : 13 + 2 ≤ _), (by decide : 120 + 4 ≤ _)⟩)
                dsimp only [Pt.U, Pt.locs, Pt.cells, Pt.slots] at X133 l133 y133 z133 st133 hQ133
                subst l133 y133 z133
                obtain ⟨b133, rfl, N133q, O133, Kc133, g_b133, gs_b133, F133_0, F133_1⟩ := hQ133
                have N133 := Fr.app N131 N133q
                have CR134 := CR124.trans (CHr.keep Kc133 all0 CR124.1)
                have K133 := K123.trans Kc133 (fun x hx => nomatch hx)
                have s_b133 := Nat.le_trans K123.1 gs_b133
                have lt_b133 := F133_0.lt
                obtain ⟨cq135, kq135, q135a, q135b, q135c⟩ := isOf hZ rfl F133_0
                obtain ⟨_, _, ⟨T135, L135, k135, n135⟩, -, X135, ⟨Lc135, hQ135, l135, y135, z135⟩, st135⟩ := X133.virtualBack hx (y := Df) (z := Df) hown (mvT hZ (Ka hw 125 rfl)) (mvT hZ (Ka hw 126 rfl)) (notFace_of_selects (args := #[]) (mvT hZ (Ka hw 128 rfl))) (mvT hZ (Ka hw 128 rfl)) (mvT hZ (Ka hw 127 rfl)) (by decide) (backOf (W := 0) (I7 l Z a0 hw [] b133 Ua _ _ _ _ _ _ _ _ _ _ _ _ _ T133.heap n0 O133 hE F133_1 ) hZ (Ka hw 129 rfl) (Ka hw 110 rfl) (by decide) (by decide)) q135a q135c (g := (mkF m 331 #[.val (.int p0), .val (.int p1), .val (.long p2), .second, .val (.int p4), .val (.int p5), .val (.int (p0 &&& (3 : Int32))), .val (.int (((p0.toUInt32 >>> ((2 : Int32) &&& 31).toUInt32).toInt32) &&& (3 : Int32))), .val (.int jnl), .val (.ref js), .val (.int jn), .val (.ref jb), .val (.ref b101), .val (.ref Ua), .unset] [.null, (.ref b133)])) rfl (by rw [hml]; rfl) (Steps.refl _) (argsL := [.null]) (rest := []) (lenOf Kc rfl) rfl (by show 2 * 0 + _ ≤ _; exact Nat.le_of_eq rfl) (hb hby at_331) (fun _ _ => ⟨rfl, rfl, (by decide : 15 + 0 ≤ _), (by decide : 124 + 0 ≤ _)⟩)
                dsimp only [Pt.U, Pt.locs, Pt.cells, Pt.slots] at X135 l135 y135 z135 st135 hQ135
                subst l135 y135 z135
                obtain ⟨rfl, N135q, hp135⟩ := hQ135
                have N135 := Fr.app N133 N135q
                obtain ⟨T136, X136, e136, st136⟩ := castY X135 hx hZ hown (Ka hw 130 rfl) hp135 (Ins.self (Ve.ext O133.2)) (g := (mkF m 334 #[.val (.int p0), .val (.int p1), .val (.long p2), .second, .val (.int p4), .val (.int p5), .val (.int (p0 &&& (3 : Int32))), .val (.int (((p0.toUInt32 >>> ((2 : Int32) &&& 31).toUInt32).toInt32) &&& (3 : Int32))), .val (.int jnl), .val (.ref js), .val (.int jn), .val (.ref jb), .val (.ref b101), .val (.ref Ua), .unset] [(.ref Ua)])) rfl rfl (hb hby at_334)
                have k137 : ∀ t, Db p e below m T136 351 #[.val (.int p0), .val (.int p1), .val (.long p2), .second, .val (.int p4), .val (.int p5), .val (.int (p0 &&& (3 : Int32))), .val (.int (((p0.toUInt32 >>> ((2 : Int32) &&& 31).toUInt32).toInt32) &&& (3 : Int32))), .val (.int jnl), .val (.ref js), .val (.int jn), .val (.ref jb), .val (.ref b101), .val (.ref Ua), .val (.ref Ua)] [(.int 1)] t → Kb p e below m s₁ #[(.int p0), (.int p1), (.long p2), (.int p4), (.int p5)] maxLocals t := by
                  intro t k
                  refine k125 t ?_
                  refine st131.trans ?_
                  refine XS.ifNo X131.here hx rfl (hb hby at_293) rfl ((if0 _ _).trans (feq (by decide : ¬ ((1 : Int32) = (0 : Int32)))).1) ?_
                  refine st132 _ ?_
                  refine XS.astore X132.here hx rfl (hb hby at_299) rfl rfl (l' := #[.val (.int p0), .val (.int p1), .val (.long p2), .second, .val (.int p4), .val (.int p5), .val (.int (p0 &&& (3 : Int32))), .val (.int (((p0.toUInt32 >>> ((2 : Int32) &&& 31).toUInt32).toInt32) &&& (3 : Int32))), .val (.int jnl), .val (.ref js), .val (.int jn), .val (.ref jb), .val (.ref b101), .val (.ref Ua), .unset]) rfl ?_
                  refine XS.goto X132.here hx rfl (pc0 := 301) (pc' := 325) rfl (hb hby at_301) (by decide) (by decide) ?_
                  refine XS.aload X132.here hx rfl (hb hby at_325) rfl rfl ?_
                  refine st133 _ ?_
                  refine XS.aconstNull X133.here hx rfl (hb hby at_330) ?_
                  refine st135.trans ?_
                  refine st136 _ ?_
                  refine XS.astore X136.here hx rfl (hb hby at_337) rfl rfl (l' := #[.val (.int p0), .val (.int p1), .val (.long p2), .second, .val (.int p4), .val (.int p5), .val (.int (p0 &&& (3 : Int32))), .val (.int (((p0.toUInt32 >>> ((2 : Int32) &&& 31).toUInt32).toInt32) &&& (3 : Int32))), .val (.int jnl), .val (.ref js), .val (.int jn), .val (.ref jb), .val (.ref b101), .val (.ref Ua), .val (.ref Ua)]) rfl ?_
                  refine XS.aload X136.here hx rfl (hb hby at_339) rfl rfl ?_
                  show Db p e below m T136 341 #[.val (.int p0), .val (.int p1), .val (.long p2), .second, .val (.int p4), .val (.int p5), .val (.int (p0 &&& (3 : Int32))), .val (.int (((p0.toUInt32 >>> ((2 : Int32) &&& 31).toUInt32).toInt32) &&& (3 : Int32))), .val (.int jnl), .val (.ref js), .val (.int jn), .val (.ref jb), .val (.ref b101), .val (.ref Ua), .val (.ref Ua)] [(.ref Ua)] t
                  refine XS.aload X136.here hx rfl (hb hby at_341) rfl rfl ?_
                  refine Jvm.RoadKit.acmp (g := (mkF m 343 #[.val (.int p0), .val (.int p1), .val (.long p2), .second, .val (.int p4), .val (.int p5), .val (.int (p0 &&& (3 : Int32))), .val (.int (((p0.toUInt32 >>> ((2 : Int32) &&& 31).toUInt32).toInt32) &&& (3 : Int32))), .val (.int jnl), .val (.ref js), .val (.int jn), .val (.ref jb), .val (.ref b101), .val (.ref Ua), .val (.ref Ua)] [(.ref Ua), (.ref Ua)])) X136 hx rfl rfl rfl (pc0 := 343) (pc' := 346) (same := true) rfl (hb hby at_343) rfl (decide_eq_true rfl) (by decide) (by decide) ?_
                  refine XS.iconst X136.here hx rfl (hb hby at_346) ?_
                  refine XS.goto X136.here hx rfl (pc0 := 347) (pc' := 351) rfl (hb hby at_347) (by decide) (by decide) ?_
                  exact k
                obtain ⟨fs, hr, hrun, hended, hRW⟩ := X136.leaveW hS (by rw [e136]; exact (Nat.le_trans hk123 Kc133.1)) (v := some (.int 1)) (fun h => by rw [Bd.returns] at h; cases h)
                refine hNG ⟨_, _, k137 _ ?_, hrun, hended, _, _, rfl, ?_, hRW.1, hRW.2.1, hRW.2.2.1, hRW.2.2.2.mono (by decide) (by decide)⟩
                · exact retN X136 hx (t := .boolean) Bd.returns (by simp) (hb hby at_351) hr
                · show Pk Z p0 p1 p2 p4 p5 Wa Va Ua Ra Ia Da Ha Ba Ga Aa Ma La Bb h0 n0 _ T136.heap _
                  rw [e136]
                  exact ⟨rfl, N135⟩
              · have f138 := (f118.ext E123)
                have f139 := (f119.ext E123)
                have f140 := (f120.ext E123)
                have f141 := (f121.ext E123)
                obtain ⟨cq142, kq142, q142a, q142b, q142c⟩ := isOf hZ e123 f138
                obtain ⟨_, _, ⟨T142, L142, k142, n142⟩, -, X142, ⟨Lc142, hQ142, l142, y142, z142⟩, st142⟩ := X123.virtualBack hx (y := Vc) (z := Vc) hown (mvT hZ (Ka hw 73 rfl)) (mvT hZ (Ka hw 74 rfl)) (notFace_of_selects (args := #[]) (mvT hZ (Ka hw 76 rfl))) (mvT hZ (Ka hw 76 rfl)) (mvT hZ (Ka hw 75 rfl)) (by decide) (StrChars.Road.eqW (W := 0) hZ (Ig hw) (kI := 4) (Ka hw 2 rfl) f138 f139 f140 f141 D101_0 (Zc _ D101_1) D101_2 Ex123 Fv123 Fc123 Av123 Yh (Zc _ Ih) (Nat.le_of_ble_eq_true rfl) (Hb.ext O123.2) Gb (by decide) (by decide)) q142a q142c (g := (mkF m 290 #[.val (.int p0), .val (.int p1), .val (.long p2), .second, .val (.int p4), .val (.int p5), .val (.int (p0 &&& (3 : Int32))), .val (.int (((p0.toUInt32 >>> ((2 : Int32) &&& 31).toUInt32).toInt32) &&& (3 : Int32))), .val (.int jnl), .val (.ref js), .val (.int jn), .val (.ref jb), .val (.ref b101), .unset, .unset] [(.ref a123), (.ref b101)])) rfl (by rw [hml]; rfl) (Steps.refl _) (argsL := [(.ref a123)]) (rest := []) (lenOf Ic rfl) rfl (by show 2 * 0 + _ ≤ _; exact Nat.le_of_eq rfl) (hb hby at_290) (fun _ _ => ⟨rfl, e123, (by decide : 13 + 0 ≤ _), (by decide : 120 + 0 ≤ _)⟩)
                dsimp only [Pt.U, Pt.locs, Pt.cells, Pt.slots] at X142 l142 y142 z142 st142 hQ142
                subst l142 y142 z142
                obtain ⟨hcase142, rfl, hp142⟩ := hQ142
                have N142q : Fr n0 ([] : List Loc) := Fr.nil n0
                have hv142 : _ = some (Value.int 0) := hcase142.elim (fun q => absurd q.2 hc126) (fun q => q.1)
                subst hv142
                have N142 := Fr.app N122 N142q
                obtain ⟨a143, T143, h143, q143, t143, kb143, X143, e143, E143, hS, hk143, hZ, hown, Ex143, Fc143, Fv143, Av143, la143, lb143, hC143, -, hSf143, st143⟩ := ldcCH X142 hx hZ hown (Ka hw 134 rfl) (Aj hw) hp142 hS hk123 (Af hw) (EL := Uc) (List.mem_of_getElem? (i := 3) rfl) CR124.1 (vs := [(.int 100), (.int 101), (.int 118), (.int 105), (.int 99), (.int 101), (.int 115)]) (z := (7 : Int32)) ⟨by decide, by decide⟩ (by decide) (by decide) (g := (mkF m 306 #[.val (.int p0), .val (.int p1), .val (.long p2), .second, .val (.int p4), .val (.int p5), .val (.int (p0 &&& (3 : Int32))), .val (.int (((p0.toUInt32 >>> ((2 : Int32) &&& 31).toUInt32).toInt32) &&& (3 : Int32))), .val (.int jnl), .val (.ref js), .val (.int jn), .val (.ref jb), .val (.ref b101), .unset, .unset] [(.ref b101)])) rfl (hb hby at_306) (n := 28) (by decide) (by decide) (by decide) (by decide)
                have CR144 := CR124.trans hC143
                have O143 := O123.ext E143
                have K143 := K123.ext E143
                have k145 : ∀ t, Db p e below m T143 308 #[.val (.int p0), .val (.int p1), .val (.long p2), .second, .val (.int p4), .val (.int p5), .val (.int (p0 &&& (3 : Int32))), .val (.int (((p0.toUInt32 >>> ((2 : Int32) &&& 31).toUInt32).toInt32) &&& (3 : Int32))), .val (.int jnl), .val (.ref js), .val (.int jn), .val (.ref jb), .val (.ref b101), .unset, .unset] [(.ref a143), (.ref b101)] t → Kb p e below m s₁ #[(.int p0), (.int p1), (.long p2), (.int p4), (.int p5)] maxLocals t := by
                  intro t k
                  refine k125 t ?_
                  refine st142.trans ?_
                  refine XS.ifYes X142.here hx rfl (pc0 := 293) (pc' := 304) rfl (hb hby at_293) rfl ((if0 _ _).trans (teq (by decide : (0 : Int32) = (0 : Int32))).1) (by decide) (by decide) ?_
                  refine XS.aload X142.here hx rfl (hb hby at_304) rfl rfl ?_
                  refine st143 _ ?_
                  exact k
                by_cases hc146 : cs101 = ([(100 : Int32), (101 : Int32), (118 : Int32), (105 : Int32), (99 : Int32), (101 : Int32), (115 : Int32)] : List Int32)
                · have f147 := (f138.ext E143)
                  have f148 := (f139.ext E143)
                  have f149 := (f140.ext E143)
                  have f150 := (f141.ext E143)
                  obtain ⟨cq151, kq151, q151a, q151b, q151c⟩ := isOf hZ e143 f147
                  obtain ⟨_, _, ⟨T151, L151, k151, n151⟩, -, X151, ⟨Lc151, hQ151, l151, y151, z151⟩, st151⟩ := X143.virtualBack hx (y := Vc) (z := Vc) hown (mvT hZ (Ka hw 73 rfl)) (mvT hZ (Ka hw 74 rfl)) (notFace_of_selects (args := #[]) (mvT hZ (Ka hw 76 rfl))) (mvT hZ (Ka hw 76 rfl)) (mvT hZ (Ka hw 75 rfl)) (by decide) (StrChars.Road.eqW (W := 0) hZ (Ig hw) (kI := 4) (Ka hw 2 rfl) f147 f148 f149 f150 D101_0 (Zc _ D101_1) D101_2 Ex143 Fv143 Fc143 Av143 Bi (Zc _ Mh) (Nat.le_of_ble_eq_true rfl) (Hb.ext O143.2) Gb (by decide) (by decide)) q151a q151c (g := (mkF m 308 #[.val (.int p0), .val (.int p1), .val (.long p2), .second, .val (.int p4), .val (.int p5), .val (.int (p0 &&& (3 : Int32))), .val (.int (((p0.toUInt32 >>> ((2 : Int32) &&& 31).toUInt32).toInt32) &&& (3 : Int32))), .val (.int jnl), .val (.ref js), .val (.int jn), .val (.ref jb), .val (.ref b101), .unset, .unset] [(.ref a143), (.ref b101)])) rfl (by rw [hml]; rfl) (Steps.refl _) (argsL := [(.ref a143)]) (rest := []) (lenOf Ic rfl) rfl (by show 2 * 0 + _ ≤ _; exact Nat.le_of_eq rfl) (hb hby at_308) (fun _ _ => ⟨rfl, e143, (by decide : 15 + 0 ≤ _), (by decide : 152 + 0 ≤ _)⟩)
                  dsimp only [Pt.U, Pt.locs, Pt.cells, Pt.slots] at X151 l151 y151 z151 st151 hQ151
                  subst l151 y151 z151
                  obtain ⟨hcase151, rfl, hp151⟩ := hQ151
                  have N151q : Fr n0 ([] : List Loc) := Fr.nil n0
                  have hv151 : _ = some (Value.int 1) := hcase151.elim (fun q => q.1) (fun q => absurd hc146 q.2)
                  subst hv151
                  have N151 := Fr.app N142 N151q
                  obtain ⟨T152, X152, e152, st152⟩ := getS2 X151 hx hZ hown (host := "") (Or.inl (Ka hw 142 rfl)) Via.refl hp151 (Ke.ext O143.2) (g := (mkF m 314 #[.val (.int p0), .val (.int p1), .val (.long p2), .second, .val (.int p4), .val (.int p5), .val (.int (p0 &&& (3 : Int32))), .val (.int (((p0.toUInt32 >>> ((2 : Int32) &&& 31).toUInt32).toInt32) &&& (3 : Int32))), .val (.int jnl), .val (.ref js), .val (.int jn), .val (.ref jb), .val (.ref b101), .unset, .unset] [])) rfl (hb hby at_314)
                  obtain ⟨_, _, ⟨T153, L153, k153, n153⟩, -, X153, ⟨Lc153, hQ153, l153, y153, z153⟩, st153⟩ := Jvm.LawKit.callS X152 hx (y := Vg) hown (mvT hZ (Ka hw 85 rfl)) (mvT hZ (Ka hw 86 rfl)) (mvT hZ (Ka hw 83 rfl)) (mvT hZ (Ka hw 87 rfl)) (by decide) (backOf (W := 0) (A9 l Z a0 hw [] b101 t101 k101 z101 vs101 cs101 _ _ _ _ _ _ _ _ _ _ _ _ _ h143 n0 O143 hE f147 f149 f148 f150 D101_0 D101_1 D101_2 hc106 hc126 hc146) hZ (Ka hw 87 rfl) (Ka hw 83 rfl) (by decide) (by decide)) (g := (mkF m 327 #[.val (.int p0), .val (.int p1), .val (.long p2), .second, .val (.int p4), .val (.int p5), .val (.int (p0 &&& (3 : Int32))), .val (.int (((p0.toUInt32 >>> ((2 : Int32) &&& 31).toUInt32).toInt32) &&& (3 : Int32))), .val (.int jnl), .val (.ref js), .val (.int jn), .val (.ref jb), .val (.ref b101), .val (.ref Ra), .unset] [(.ref b101)])) rfl (by rw [hml]; rfl) (argsL := [(.ref b101)]) (rest := []) (lenOf Mc rfl) rfl (by show 2 * 0 + _ ≤ _; exact Nat.le_of_eq rfl) (hb hby at_327) (fun _ _ => ⟨rfl, e152, (by decide : 15 + 2 ≤ _), (by decide : 152 + 4 ≤ _)⟩)
                  dsimp only [Pt.U, Pt.locs, Pt.cells, Pt.slots] at X153 l153 y153 z153 st153 hQ153
                  subst l153 y153 z153
                  obtain ⟨b153, rfl, N153q, O153, Kc153, g_b153, gs_b153, F153_0, F153_1⟩ := hQ153
                  have N153 := Fr.app N151 N153q
                  have CR154 := CR144.trans (CHr.keep Kc153 all0 CR144.1)
                  have K153 := K143.trans Kc153 (fun x hx => nomatch hx)
                  have s_b153 := Nat.le_trans K143.1 gs_b153
                  have lt_b153 := F153_0.lt
                  obtain ⟨cq155, kq155, q155a, q155b, q155c⟩ := isOf hZ rfl F153_0
                  obtain ⟨_, _, ⟨T155, L155, k155, n155⟩, -, X155, ⟨Lc155, hQ155, l155, y155, z155⟩, st155⟩ := X153.virtualBack hx (y := Df) (z := Df) hown (mvT hZ (Ka hw 125 rfl)) (mvT hZ (Ka hw 126 rfl)) (notFace_of_selects (args := #[]) (mvT hZ (Ka hw 128 rfl))) (mvT hZ (Ka hw 128 rfl)) (mvT hZ (Ka hw 127 rfl)) (by decide) (backOf (W := 0) (I7 l Z a0 hw [] b153 Ra _ _ _ _ _ _ _ _ _ _ _ _ _ T153.heap n0 O153 hE F153_1 ) hZ (Ka hw 129 rfl) (Ka hw 110 rfl) (by decide) (by decide)) q155a q155c (g := (mkF m 331 #[.val (.int p0), .val (.int p1), .val (.long p2), .second, .val (.int p4), .val (.int p5), .val (.int (p0 &&& (3 : Int32))), .val (.int (((p0.toUInt32 >>> ((2 : Int32) &&& 31).toUInt32).toInt32) &&& (3 : Int32))), .val (.int jnl), .val (.ref js), .val (.int jn), .val (.ref jb), .val (.ref b101), .val (.ref Ra), .unset] [.null, (.ref b153)])) rfl (by rw [hml]; rfl) (Steps.refl _) (argsL := [.null]) (rest := []) (lenOf Kc rfl) rfl (by show 2 * 0 + _ ≤ _; exact Nat.le_of_eq rfl) (hb hby at_331) (fun _ _ => ⟨rfl, rfl, (by decide : 17 + 0 ≤ _), (by decide : 156 + 0 ≤ _)⟩)
                  dsimp only [Pt.U, Pt.locs, Pt.cells, Pt.slots] at X155 l155 y155 z155 st155 hQ155
                  subst l155 y155 z155
                  obtain ⟨rfl, N155q, hp155⟩ := hQ155
                  have N155 := Fr.app N153 N155q
                  obtain ⟨T156, X156, e156, st156⟩ := castY X155 hx hZ hown (Ka hw 130 rfl) hp155 (Ins.self (Le.ext O153.2)) (g := (mkF m 334 #[.val (.int p0), .val (.int p1), .val (.long p2), .second, .val (.int p4), .val (.int p5), .val (.int (p0 &&& (3 : Int32))), .val (.int (((p0.toUInt32 >>> ((2 : Int32) &&& 31).toUInt32).toInt32) &&& (3 : Int32))), .val (.int jnl), .val (.ref js), .val (.int jn), .val (.ref jb), .val (.ref b101), .val (.ref Ra), .unset] [(.ref Ra)])) rfl rfl (hb hby at_334)
                  have k157 : ∀ t, Db p e below m T156 351 #[.val (.int p0), .val (.int p1), .val (.long p2), .second, .val (.int p4), .val (.int p5), .val (.int (p0 &&& (3 : Int32))), .val (.int (((p0.toUInt32 >>> ((2 : Int32) &&& 31).toUInt32).toInt32) &&& (3 : Int32))), .val (.int jnl), .val (.ref js), .val (.int jn), .val (.ref jb), .val (.ref b101), .val (.ref Ra), .val (.ref Ra)] [(.int 1)] t → Kb p e below m s₁ #[(.int p0), (.int p1), (.long p2), (.int p4), (.int p5)] maxLocals t := by
                    intro t k
                    refine k145 t ?_
                    refine st151.trans ?_
                    refine XS.ifNo X151.here hx rfl (hb hby at_311) rfl ((if0 _ _).trans (feq (by decide : ¬ ((1 : Int32) = (0 : Int32)))).1) ?_
                    refine st152 _ ?_
                    refine XS.astore X152.here hx rfl (hb hby at_317) rfl rfl (l' := #[.val (.int p0), .val (.int p1), .val (.long p2), .second, .val (.int p4), .val (.int p5), .val (.int (p0 &&& (3 : Int32))), .val (.int (((p0.toUInt32 >>> ((2 : Int32) &&& 31).toUInt32).toInt32) &&& (3 : Int32))), .val (.int jnl), .val (.ref js), .val (.int jn), .val (.ref jb), .val (.ref b101), .val (.ref Ra), .unset]) rfl ?_
                    refine XS.goto X152.here hx rfl (pc0 := 319) (pc' := 325) rfl (hb hby at_319) (by decide) (by decide) ?_
                    refine XS.aload X152.here hx rfl (hb hby at_325) rfl rfl ?_
                    refine st153 _ ?_
                    refine XS.aconstNull X153.here hx rfl (hb hby at_330) ?_
                    refine st155.trans ?_
                    refine st156 _ ?_
                    refine XS.astore X156.here hx rfl (hb hby at_337) rfl rfl (l' := #[.val (.int p0), .val (.int p1), .val (.long p2), .second, .val (.int p4), .val (.int p5), .val (.int (p0 &&& (3 : Int32))), .val (.int (((p0.toUInt32 >>> ((2 : Int32) &&& 31).toUInt32).toInt32) &&& (3 : Int32))), .val (.int jnl), .val (.ref js), .val (.int jn), .val (.ref jb), .val (.ref b101), .val (.ref Ra), .val (.ref Ra)]) rfl ?_
                    refine XS.aload X156.here hx rfl (hb hby at_339) rfl rfl ?_
                    show Db p e below m T156 341 #[.val (.int p0), .val (.int p1), .val (.long p2), .second, .val (.int p4), .val (.int p5), .val (.int (p0 &&& (3 : Int32))), .val (.int (((p0.toUInt32 >>> ((2 : Int32) &&& 31).toUInt32).toInt32) &&& (3 : Int32))), .val (.int jnl), .val (.ref js), .val (.int jn), .val (.ref jb), .val (.ref b101), .val (.ref Ra), .val (.ref Ra)] [(.ref Ra)] t
                    refine XS.aload X156.here hx rfl (hb hby at_341) rfl rfl ?_
                    refine Jvm.RoadKit.acmp (g := (mkF m 343 #[.val (.int p0), .val (.int p1), .val (.long p2), .second, .val (.int p4), .val (.int p5), .val (.int (p0 &&& (3 : Int32))), .val (.int (((p0.toUInt32 >>> ((2 : Int32) &&& 31).toUInt32).toInt32) &&& (3 : Int32))), .val (.int jnl), .val (.ref js), .val (.int jn), .val (.ref jb), .val (.ref b101), .val (.ref Ra), .val (.ref Ra)] [(.ref Ra), (.ref Ra)])) X156 hx rfl rfl rfl (pc0 := 343) (pc' := 346) (same := true) rfl (hb hby at_343) rfl (decide_eq_true rfl) (by decide) (by decide) ?_
                    refine XS.iconst X156.here hx rfl (hb hby at_346) ?_
                    refine XS.goto X156.here hx rfl (pc0 := 347) (pc' := 351) rfl (hb hby at_347) (by decide) (by decide) ?_
                    exact k
                  obtain ⟨fs, hr, hrun, hended, hRW⟩ := X156.leaveW hS (by rw [e156]; exact (Nat.le_trans hk143 Kc153.1)) (v := some (.int 1)) (fun h => by rw [Bd.returns] at h; cases h)
                  refine hNG ⟨_, _, k157 _ ?_, hrun, hended, _, _, rfl, ?_, hRW.1, hRW.2.1, hRW.2.2.1, hRW.2.2.2.mono (by decide) (by decide)⟩
                  · exact retN X156 hx (t := .boolean) Bd.returns (by simp) (hb hby at_351) hr
                  · show Pk Z p0 p1 p2 p4 p5 Wa Va Ua Ra Ia Da Ha Ba Ga Aa Ma La Bb h0 n0 _ T156.heap _
                    rw [e156]
                    exact ⟨rfl, N155⟩
                · have f158 := (f138.ext E143)
                  have f159 := (f139.ext E143)
                  have f160 := (f140.ext E143)
                  have f161 := (f141.ext E143)
                  obtain ⟨cq162, kq162, q162a, q162b, q162c⟩ := isOf hZ e143 f158
                  obtain ⟨_, _, ⟨T162, L162, k162, n162⟩, -, X162, ⟨Lc162, hQ162, l162, y162, z162⟩, st162⟩ := X143.virtualBack hx (y := Vc) (z := Vc) hown (mvT hZ (Ka hw 73 rfl)) (mvT hZ (Ka hw 74 rfl)) (notFace_of_selects (args := #[]) (mvT hZ (Ka hw 76 rfl))) (mvT hZ (Ka hw 76 rfl)) (mvT hZ (Ka hw 75 rfl)) (by decide) (StrChars.Road.eqW (W := 0) hZ (Ig hw) (kI := 4) (Ka hw 2 rfl) f158 f159 f160 f161 D101_0 (Zc _ D101_1) D101_2 Ex143 Fv143 Fc143 Av143 Bi (Zc _ Mh) (Nat.le_of_ble_eq_true rfl) (Hb.ext O143.2) Gb (by decide) (by decide)) q162a q162c (g := (mkF m 308 #[.val (.int p0), .val (.int p1), .val (.long p2), .second, .val (.int p4), .val (.int p5), .val (.int (p0 &&& (3 : Int32))), .val (.int (((p0.toUInt32 >>> ((2 : Int32) &&& 31).toUInt32).toInt32) &&& (3 : Int32))), .val (.int jnl), .val (.ref js), .val (.int jn), .val (.ref jb), .val (.ref b101), .unset, .unset] [(.ref a143), (.ref b101)])) rfl (by rw [hml]; rfl) (Steps.refl _) (argsL := [(.ref a143)]) (rest := []) (lenOf Ic rfl) rfl (by show 2 * 0 + _ ≤ _; exact Nat.le_of_eq rfl) (hb hby at_308) (fun _ _ => ⟨rfl, e143, (by decide : 15 + 0 ≤ _), (by decide : 152 + 0 ≤ _)⟩)
                  dsimp only [Pt.U, Pt.locs, Pt.cells, Pt.slots] at X162 l162 y162 z162 st162 hQ162
                  subst l162 y162 z162
                  obtain ⟨hcase162, rfl, hp162⟩ := hQ162
                  have N162q : Fr n0 ([] : List Loc) := Fr.nil n0
                  have hv162 : _ = some (Value.int 0) := hcase162.elim (fun q => absurd q.2 hc146) (fun q => q.1)
                  subst hv162
                  have N162 := Fr.app N142 N162q
                  obtain ⟨_, _, ⟨T163, L163, k163, n163⟩, -, X163, ⟨Lc163, hQ163, l163, y163, z163⟩, st163⟩ := Jvm.LawKit.callS X162 hx (y := Vg) hown (mvT hZ (Ka hw 85 rfl)) (mvT hZ (Ka hw 86 rfl)) (mvT hZ (Ka hw 83 rfl)) (mvT hZ (Ka hw 87 rfl)) (by decide) (backOf (W := 0) (D9 l Z a0 hw [] b101 t101 k101 z101 vs101 cs101 _ _ _ _ _ _ _ _ _ _ _ _ _ h143 n0 O143 hE f158 f160 f159 f161 D101_0 D101_1 D101_2 hc106 hc126 hc146) hZ (Ka hw 87 rfl) (Ka hw 83 rfl) (by decide) (by decide)) (g := (mkF m 327 #[.val (.int p0), .val (.int p1), .val (.long p2), .second, .val (.int p4), .val (.int p5), .val (.int (p0 &&& (3 : Int32))), .val (.int (((p0.toUInt32 >>> ((2 : Int32) &&& 31).toUInt32).toInt32) &&& (3 : Int32))), .val (.int jnl), .val (.ref js), .val (.int jn), .val (.ref jb), .val (.ref b101), .val .null, .unset] [(.ref b101)])) rfl (by rw [hml]; rfl) (argsL := [(.ref b101)]) (rest := []) (lenOf Mc rfl) rfl (by show 2 * 0 + _ ≤ _; exact Nat.le_of_eq rfl) (hb hby at_327) (fun _ _ => ⟨rfl, hp162, (by decide : 15 + 1 ≤ _), (by decide : 152 + 3 ≤ _)⟩)
                  dsimp only [Pt.U, Pt.locs, Pt.cells, Pt.slots] at X163 l163 y163 z163 st163 hQ163
                  subst l163 y163 z163
                  obtain ⟨rfl, N163q, O163, Kc163⟩ := hQ163
                  have N163 := Fr.app N162 N163q
                  have CR164 := CR144.trans (CHr.keep Kc163 all0 CR144.1)
                  have K163 := K143.trans Kc163 (fun x hx => nomatch hx)
                  obtain ⟨cq165, kq165, q165a, q165b, q165c⟩ := isOf hZ rfl (Re.ext O163.2)
                  obtain ⟨_, _, ⟨T165, L165, k165, n165⟩, -, X165, ⟨Lc165, hQ165, l165, y165, z165⟩, st165⟩ := X163.virtualBack hx (y := Df) (z := Df) hown (mvT hZ (Ka hw 125 rfl)) (mvT hZ (Ka hw 126 rfl)) (notFace_of_selects (args := #[]) (mvT hZ (Ka hw 128 rfl))) (mvT hZ (Ka hw 128 rfl)) (mvT hZ (Ka hw 127 rfl)) (by decide) (backOf (W := 0) (U7 l Z a0 hw [] Bb _ _ _ _ _ _ _ _ _ _ _ _ _ T163.heap n0 O163 hE (Rc.ext O163.2) ) hZ (Ka hw 129 rfl) (Ka hw 110 rfl) (by decide) (by decide)) q165a q165c (g := (mkF m 331 #[.val (.int p0), .val (.int p1), .val (.long p2), .second, .val (.int p4), .val (.int p5), .val (.int (p0 &&& (3 : Int32))), .val (.int (((p0.toUInt32 >>> ((2 : Int32) &&& 31).toUInt32).toInt32) &&& (3 : Int32))), .val (.int jnl), .val (.ref js), .val (.int jn), .val (.ref jb), .val (.ref b101), .val .null, .unset] [.null, (.ref Bb)])) rfl (by rw [hml]; rfl) (Steps.refl _) (argsL := [.null]) (rest := []) (lenOf Kc rfl) rfl (by show 2 * 0 + _ ≤ _; exact Nat.le_of_eq rfl) (hb hby at_331) (fun _ _ => ⟨rfl, rfl, (by decide : 16 + 0 ≤ _), (by decide : 155 + 0 ≤ _)⟩)
                  dsimp only [Pt.U, Pt.locs, Pt.cells, Pt.slots] at X165 l165 y165 z165 st165 hQ165
                  subst l165 y165 z165
                  obtain ⟨rfl, N165q, hp165⟩ := hQ165
                  have N165 := Fr.app N163 N165q
                  have k166 : ∀ t, Db p e below m T165 351 #[.val (.int p0), .val (.int p1), .val (.long p2), .second, .val (.int p4), .val (.int p5), .val (.int (p0 &&& (3 : Int32))), .val (.int (((p0.toUInt32 >>> ((2 : Int32) &&& 31).toUInt32).toInt32) &&& (3 : Int32))), .val (.int jnl), .val (.ref js), .val (.int jn), .val (.ref jb), .val (.ref b101), .val .null, .val .null] [(.int 1)] t → Kb p e below m s₁ #[(.int p0), (.int p1), (.long p2), (.int p4), (.int p5)] maxLocals t := by
                    intro t k
                    refine k145 t ?_
                    refine st162.trans ?_
                    refine XS.ifYes X162.here hx rfl (pc0 := 311) (pc' := 322) rfl (hb hby at_311) rfl ((if0 _ _).trans (teq (by decide : (0 : Int32) = (0 : Int32))).1) (by decide) (by decide) ?_
                    refine XS.aconstNull X162.here hx rfl (hb hby at_322) ?_
                    refine XS.astore X162.here hx rfl (hb hby at_323) rfl rfl (l' := #[.val (.int p0), .val (.int p1), .val (.long p2), .second, .val (.int p4), .val (.int p5), .val (.int (p0 &&& (3 : Int32))), .val (.int (((p0.toUInt32 >>> ((2 : Int32) &&& 31).toUInt32).toInt32) &&& (3 : Int32))), .val (.int jnl), .val (.ref js), .val (.int jn), .val (.ref jb), .val (.ref b101), .val .null, .unset]) rfl ?_
                    refine XS.aload X162.here hx rfl (hb hby at_325) rfl rfl ?_
                    refine st163 _ ?_
                    refine XS.aconstNull X163.here hx rfl (hb hby at_330) ?_
                    refine st165.trans ?_
                    refine X165.checkcastNull hx (g := (mkF m 334 #[.val (.int p0), .val (.int p1), .val (.long p2), .second, .val (.int p4), .val (.int p5), .val (.int (p0 &&& (3 : Int32))), .val (.int (((p0.toUInt32 >>> ((2 : Int32) &&& 31).toUInt32).toInt32) &&& (3 : Int32))), .val (.int jnl), .val (.ref js), .val (.int jn), .val (.ref jb), .val (.ref b101), .val .null, .unset] [.null])) rfl rfl (hb hby at_334) _ ?_
                    refine XS.astore X165.here hx rfl (hb hby at_337) rfl rfl (l' := #[.val (.int p0), .val (.int p1), .val (.long p2), .second, .val (.int p4), .val (.int p5), .val (.int (p0 &&& (3 : Int32))), .val (.int (((p0.toUInt32 >>> ((2 : Int32) &&& 31).toUInt32).toInt32) &&& (3 : Int32))), .val (.int jnl), .val (.ref js), .val (.int jn), .val (.ref jb), .val (.ref b101), .val .null, .val .null]) rfl ?_
                    refine XS.aload X165.here hx rfl (hb hby at_339) rfl rfl ?_
                    refine XS.aload X165.here hx rfl (hb hby at_341) rfl rfl ?_
                    show Db p e below m T165 343 #[.val (.int p0), .val (.int p1), .val (.long p2), .second, .val (.int p4), .val (.int p5), .val (.int (p0 &&& (3 : Int32))), .val (.int (((p0.toUInt32 >>> ((2 : Int32) &&& 31).toUInt32).toInt32) &&& (3 : Int32))), .val (.int jnl), .val (.ref js), .val (.int jn), .val (.ref jb), .val (.ref b101), .val .null, .val .null] [.null, .null] t
                    refine Jvm.RoadKit.acmp (g := (mkF m 343 #[.val (.int p0), .val (.int p1), .val (.long p2), .second, .val (.int p4), .val (.int p5), .val (.int (p0 &&& (3 : Int32))), .val (.int (((p0.toUInt32 >>> ((2 : Int32) &&& 31).toUInt32).toInt32) &&& (3 : Int32))), .val (.int jnl), .val (.ref js), .val (.int jn), .val (.ref jb), .val (.ref b101), .val .null, .val .null] [.null, .null])) X165 hx rfl rfl rfl (pc0 := 343) (pc' := 346) (same := true) rfl (hb hby at_343) rfl (decide_eq_true rfl) (by decide) (by decide) ?_
                    refine XS.iconst X165.here hx rfl (hb hby at_346) ?_
                    refine XS.goto X165.here hx rfl (pc0 := 347) (pc' := 351) rfl (hb hby at_347) (by decide) (by decide) ?_
                    exact k
                  obtain ⟨fs, hr, hrun, hended, hRW⟩ := X165.leaveW hS (by rw [hp165]; exact (Nat.le_trans hk143 Kc163.1)) (v := some (.int 1)) (fun h => by rw [Bd.returns] at h; cases h)
                  refine hNG ⟨_, _, k166 _ ?_, hrun, hended, _, _, rfl, ?_, hRW.1, hRW.2.1, hRW.2.2.1, hRW.2.2.2.mono (by decide) (by decide)⟩
                  · exact retN X165 hx (t := .boolean) Bd.returns (by simp) (hb hby at_351) hr
                  · show Pk Z p0 p1 p2 p4 p5 Wa Va Ua Ra Ia Da Ha Ba Ga Aa Ma La Bb h0 n0 _ T165.heap _
                    rw [hp165]
                    exact ⟨rfl, N165⟩
          · obtain ⟨_, _, ⟨T167, L167, k167, n167⟩, -, X167, ⟨Lc167, hQ167, l167, y167, z167⟩, st167⟩ := Jvm.LawKit.callS X98 hx (y := Vg) hown (mvT hZ (Ka hw 85 rfl)) (mvT hZ (Ka hw 86 rfl)) (mvT hZ (Ka hw 83 rfl)) (mvT hZ (Ka hw 87 rfl)) (by decide) (backOf (W := 0) (G9 l Z a0 hw []  _ _ _ _ _ _ _ _ _ _ _ _ _ h98 n0 O98 hE  ) hZ (Ka hw 87 rfl) (Ka hw 83 rfl) (by decide) (by decide)) (g := (mkF m 327 #[.val (.int p0), .val (.int p1), .val (.long p2), .second, .val (.int p4), .val (.int p5), .val (.int (p0 &&& (3 : Int32))), .val (.int (((p0.toUInt32 >>> ((2 : Int32) &&& 31).toUInt32).toInt32) &&& (3 : Int32))), .val (.int jnl), .val (.ref js), .val (.int jn), .val (.ref jb), .val .null, .val .null, .unset] [.null])) rfl (by rw [hml]; rfl) (argsL := [.null]) (rest := []) (lenOf Mc rfl) rfl (by show 2 * 0 + _ ≤ _; exact Nat.le_of_eq rfl) (hb hby at_327) (fun _ _ => ⟨rfl, e98, (by decide : 3 + 1 ≤ _), (by decide : 48 + 3 ≤ _)⟩)
            dsimp only [Pt.U, Pt.locs, Pt.cells, Pt.slots] at X167 l167 y167 z167 st167 hQ167
            subst l167 y167 z167
            obtain ⟨rfl, N167q, O167, Kc167⟩ := hQ167
            have N167 := Fr.app N98 N167q
            have CR168 := CR98.trans (CHr.keep Kc167 all0 CR98.1)
            have K167 := K98.trans Kc167 (fun x hx => nomatch hx)
            obtain ⟨cq169, kq169, q169a, q169b, q169c⟩ := isOf hZ rfl (Re.ext O167.2)
            obtain ⟨_, _, ⟨T169, L169, k169, n169⟩, -, X169, ⟨Lc169, hQ169, l169, y169, z169⟩, st169⟩ := X167.virtualBack hx (y := Df) (z := Df) hown (mvT hZ (Ka hw 125 rfl)) (mvT hZ (Ka hw 126 rfl)) (notFace_of_selects (args := #[]) (mvT hZ (Ka hw 128 rfl))) (mvT hZ (Ka hw 128 rfl)) (mvT hZ (Ka hw 127 rfl)) (by decide) (backOf (W := 0) (U7 l Z a0 hw [] Bb _ _ _ _ _ _ _ _ _ _ _ _ _ T167.heap n0 O167 hE (Rc.ext O167.2) ) hZ (Ka hw 129 rfl) (Ka hw 110 rfl) (by decide) (by decide)) q169a q169c (g := (mkF m 331 #[.val (.int p0), .val (.int p1), .val (.long p2), .second, .val (.int p4), .val (.int p5), .val (.int (p0 &&& (3 : Int32))), .val (.int (((p0.toUInt32 >>> ((2 : Int32) &&& 31).toUInt32).toInt32) &&& (3 : Int32))), .val (.int jnl), .val (.ref js), .val (.int jn), .val (.ref jb), .val .null, .val .null, .unset] [.null, (.ref Bb)])) rfl (by rw [hml]; rfl) (Steps.refl _) (argsL := [.null]) (rest := []) (lenOf Kc rfl) rfl (by show 2 * 0 + _ ≤ _; exact Nat.le_of_eq rfl) (hb hby at_331) (fun _ _ => ⟨rfl, rfl, (by decide : 4 + 0 ≤ _), (by decide : 51 + 0 ≤ _)⟩)
            dsimp only [Pt.U, Pt.locs, Pt.cells, Pt.slots] at X169 l169 y169 z169 st169 hQ169
            subst l169 y169 z169
            obtain ⟨rfl, N169q, hp169⟩ := hQ169
            have N169 := Fr.app N167 N169q
            have k170 : ∀ t, Db p e below m T169 351 #[.val (.int p0), .val (.int p1), .val (.long p2), .second, .val (.int p4), .val (.int p5), .val (.int (p0 &&& (3 : Int32))), .val (.int (((p0.toUInt32 >>> ((2 : Int32) &&& 31).toUInt32).toInt32) &&& (3 : Int32))), .val (.int jnl), .val (.ref js), .val (.int jn), .val (.ref jb), .val .null, .val .null, .val .null] [(.int 1)] t → Kb p e below m s₁ #[(.int p0), (.int p1), (.long p2), (.int p4), (.int p5)] maxLocals t := by
              intro t k
              refine k99 t ?_
              refine XS.ifNo X98.here hx rfl (hb hby at_241) rfl ((if0 _ _).trans (feq hc100).1) ?_
              refine XS.aconstNull X98.here hx rfl (hb hby at_244) ?_
              refine XS.goto X98.here hx rfl (pc0 := 245) (pc' := 255) rfl (hb hby at_245) (by decide) (by decide) ?_
              refine XS.astore X98.here hx rfl (hb hby at_255) rfl rfl (l' := #[.val (.int p0), .val (.int p1), .val (.long p2), .second, .val (.int p4), .val (.int p5), .val (.int (p0 &&& (3 : Int32))), .val (.int (((p0.toUInt32 >>> ((2 : Int32) &&& 31).toUInt32).toInt32) &&& (3 : Int32))), .val (.int jnl), .val (.ref js), .val (.int jn), .val (.ref jb), .val .null, .unset, .unset]) rfl ?_
              refine XS.aload X98.here hx rfl (hb hby at_257) rfl rfl ?_
              refine XS.ifnonnullNo X98.here hx rfl (hb hby at_259) rfl ?_
              refine XS.aconstNull X98.here hx rfl (hb hby at_262) ?_
              refine XS.astore X98.here hx rfl (hb hby at_263) rfl rfl (l' := #[.val (.int p0), .val (.int p1), .val (.long p2), .second, .val (.int p4), .val (.int p5), .val (.int (p0 &&& (3 : Int32))), .val (.int (((p0.toUInt32 >>> ((2 : Int32) &&& 31).toUInt32).toInt32) &&& (3 : Int32))), .val (.int jnl), .val (.ref js), .val (.int jn), .val (.ref jb), .val .null, .val .null, .unset]) rfl ?_
              refine XS.goto X98.here hx rfl (pc0 := 265) (pc' := 325) rfl (hb hby at_265) (by decide) (by decide) ?_
              refine XS.aload X98.here hx rfl (hb hby at_325) rfl rfl ?_
              refine st167 _ ?_
              refine XS.aconstNull X167.here hx rfl (hb hby at_330) ?_
              show Db p e below m T167 331 #[.val (.int p0), .val (.int p1), .val (.long p2), .second, .val (.int p4), .val (.int p5), .val (.int (p0 &&& (3 : Int32))), .val (.int (((p0.toUInt32 >>> ((2 : Int32) &&& 31).toUInt32).toInt32) &&& (3 : Int32))), .val (.int jnl), .val (.ref js), .val (.int jn), .val (.ref jb), .val .null, .val .null, .unset] [.null, (.ref Bb)] t
              refine st169.trans ?_
              refine X169.checkcastNull hx (g := (mkF m 334 #[.val (.int p0), .val (.int p1), .val (.long p2), .second, .val (.int p4), .val (.int p5), .val (.int (p0 &&& (3 : Int32))), .val (.int (((p0.toUInt32 >>> ((2 : Int32) &&& 31).toUInt32).toInt32) &&& (3 : Int32))), .val (.int jnl), .val (.ref js), .val (.int jn), .val (.ref jb), .val .null, .val .null, .unset] [.null])) rfl rfl (hb hby at_334) _ ?_
              refine XS.astore X169.here hx rfl (hb hby at_337) rfl rfl (l' := #[.val (.int p0), .val (.int p1), .val (.long p2), .second, .val (.int p4), .val (.int p5), .val (.int (p0 &&& (3 : Int32))), .val (.int (((p0.toUInt32 >>> ((2 : Int32) &&& 31).toUInt32).toInt32) &&& (3 : Int32))), .val (.int jnl), .val (.ref js), .val (.int jn), .val (.ref jb), .val .null, .val .null, .val .null]) rfl ?_
              refine XS.aload X169.here hx rfl (hb hby at_339) rfl rfl ?_
              refine XS.aload X169.here hx rfl (hb hby at_341) rfl rfl ?_
              refine Jvm.RoadKit.acmp (g := (mkF m 343 #[.val (.int p0), .val (.int p1), .val (.long p2), .second, .val (.int p4), .val (.int p5), .val (.int (p0 &&& (3 : Int32))), .val (.int (((p0.toUInt32 >>> ((2 : Int32) &&& 31).toUInt32).toInt32) &&& (3 : Int32))), .val (.int jnl), .val (.ref js), .val (.int jn), .val (.ref jb), .val .null, .val .null, .val .null] [.null, .null])) X169 hx rfl rfl rfl (pc0 := 343) (pc' := 346) (same := true) rfl (hb hby at_343) rfl (decide_eq_true rfl) (by decide) (by decide) ?_
              refine XS.iconst X169.here hx rfl (hb hby at_346) ?_
              refine XS.goto X169.here hx rfl (pc0 := 347) (pc' := 351) rfl (hb hby at_347) (by decide) (by decide) ?_
              exact k
            obtain ⟨fs, hr, hrun, hended, hRW⟩ := X169.leaveW hS (by rw [hp169]; exact (Nat.le_trans hk98 Kc167.1)) (v := some (.int 1)) (fun h => by rw [Bd.returns] at h; cases h)
            refine hNG ⟨_, _, k170 _ ?_, hrun, hended, _, _, rfl, ?_, hRW.1, hRW.2.1, hRW.2.2.1, hRW.2.2.2.mono (by decide) (by decide)⟩
            · exact retN X169 hx (t := .boolean) Bd.returns (by simp) (hb hby at_351) hr
            · show Pk Z p0 p1 p2 p4 p5 Wa Va Ua Ra Ia Da Ha Ba Ga Aa Ma La Bb h0 n0 _ T169.heap _
              rw [hp169]
              exact ⟨rfl, N169⟩
        have k171 : ∀ t, Db p e below m T94 209 #[.val (.int p0), .val (.int p1), .val (.long p2), .second, .val (.int p4), .val (.int p5), .val (.int (p0 &&& (3 : Int32))), .val (.int (((p0.toUInt32 >>> ((2 : Int32) &&& 31).toUInt32).toInt32) &&& (3 : Int32))), .val (.int jnl), .val (.ref js), .val (.int jn1), .val (.ref b14), .unset, .unset, .unset] [(.int 1), (.int (((p0.toUInt32 >>> ((2 : Int32) &&& 31).toUInt32).toInt32) &&& (3 : Int32)))] t → Kb p e below m s₁ #[(.int p0), (.int p1), (.long p2), (.int p4), (.int p5)] maxLocals t := by
          intro t k
          refine k97 t ?_
          refine XS.iload X94.here hx rfl (hb hby at_206) rfl ?_
          refine XS.iconst X94.here hx rfl (hb hby at_208) ?_
          exact k
        by_cases hc172 : (((p0.toUInt32 >>> ((2 : Int32) &&& 31).toUInt32).toInt32) &&& (3 : Int32)) = (1 : Int32)
        · have k173 : ∀ t, Db p e below m T94 214 #[.val (.int p0), .val (.int p1), .val (.long p2), .second, .val (.int p4), .val (.int p5), .val (.int (p0 &&& (3 : Int32))), .val (.int (((p0.toUInt32 >>> ((2 : Int32) &&& 31).toUInt32).toInt32) &&& (3 : Int32))), .val (.int jnl), .val (.ref js), .val (.int jn1), .val (.ref b14), .unset, .unset, .unset] [(.int jn1)] t → Kb p e below m s₁ #[(.int p0), (.int p1), (.long p2), (.int p4), (.int p5)] maxLocals t := by
            intro t k
            refine k171 t ?_
            refine XS.icmpNo X94.here hx rfl (hb hby at_209) rfl (teq hc172).2 ?_
            refine XS.iload X94.here hx rfl (hb hby at_212) rfl ?_
            exact k
          by_cases hc174 : (0 : Int32) < jn1
          · have k175 : ∀ t, Db p e below m T94 227 #[.val (.int p0), .val (.int p1), .val (.long p2), .second, .val (.int p4), .val (.int p5), .val (.int (p0 &&& (3 : Int32))), .val (.int (((p0.toUInt32 >>> ((2 : Int32) &&& 31).toUInt32).toInt32) &&& (3 : Int32))), .val (.int jnl), .val (.ref js), .val (.int jn1), .val (.ref b14), .val (.int ((p4 &&& (2147483647 : Int32)) % jn1)), .unset, .unset] [] t → Kb p e below m s₁ #[(.int p0), (.int p1), (.long p2), (.int p4), (.int p5)] maxLocals t := by
              intro t k
              refine k173 t ?_
              refine XS.ifNo X94.here hx rfl (hb hby at_214) rfl ((if0 _ _).trans (tlt hc174).2.2.2) ?_
              refine XS.iload X94.here hx rfl (hb hby at_217) rfl ?_
              refine X94.ldcI hx hown (mvT hZ (Ka hw 132 rfl)) rfl (hb hby at_219) ?_
              refine XS.iand X94.here hx rfl (hb hby at_221) rfl ?_
              refine XS.iload X94.here hx rfl (hb hby at_222) rfl ?_
              refine iremM X94 hx rfl (hb hby at_224) rfl (Iba hc174) ?_
              refine XS.istore X94.here hx rfl (hb hby at_225) rfl (l' := #[.val (.int p0), .val (.int p1), .val (.long p2), .second, .val (.int p4), .val (.int p5), .val (.int (p0 &&& (3 : Int32))), .val (.int (((p0.toUInt32 >>> ((2 : Int32) &&& 31).toUInt32).toInt32) &&& (3 : Int32))), .val (.int jnl), .val (.ref js), .val (.int jn1), .val (.ref b14), .val (.int ((p4 &&& (2147483647 : Int32)) % jn1)), .unset, .unset]) rfl ?_
              exact k
            have J176 : ∀ (vm176 : Vm) (kk176 : Nat) (T176 : State) (locs176 : List Loc) (h176 : Heap) (jb : Addr) (jkb : ClassId) (jn : Int32) (d0 : Int32) (d1 : Int32) (d2 : Int32) (d3 : Int32) (d4 : Int32) (d5 : Int32) (d6 : Int32) (d7 : Int32) (jp : Int32) (hS : s.Since vm176 kk176) (hk176 : kk176 ≤ h176.size) (hZ : Z.Warmed39 (s.setVm vm176).vm) (hown : (s.setVm vm176).vm.findClass "com/example/entitlement_ledger/entitlementledger/model/AssigneeKindOfCollectionNamePinLaw" = some m.cls) (CR176 : CHr Z Uc s.vm h0 vm176 h176) (X176 : Stand p l e room_1 (s.setVm vm176) m #[(.int p0), (.int p1), (.long p2), (.int p4), (.int p5)] below meth c T176 locs176 3 48) (e176 : T176.heap = h176) (N176 : Fr n0 locs176) (O176 : Old Z n0 h176) (K176 : Keep h0 h176 []) (G176_0 : Arv Z h176 jb jkb .char (8 : Int32) [(.int d0), (.int d1), (.int d2), (.int d3), (.int d4), (.int d5), (.int d6), (.int d7)] (.int 0)) (g_jb : n0 ≤ jb) (s_jb : h0.size ≤ jb) (Sf_jb : Safe Z Uc vm176 h176 jb) (hjn : 0 ≤ jn.toInt ∧ jn.toInt ≤ 8) (rd0 : ¬ d0 < 0 ∧ ¬ (255 : Int32) < d0) (rd1 : ¬ d1 < 0 ∧ ¬ (255 : Int32) < d1) (rd2 : ¬ d2 < 0 ∧ ¬ (255 : Int32) < d2) (rd3 : ¬ d3 < 0 ∧ ¬ (255 : Int32) < d3) (rd4 : ¬ d4 < 0 ∧ ¬ (255 : Int32) < d4) (rd5 : ¬ d5 < 0 ∧ ¬ (255 : Int32) < d5) (rd6 : ¬ d6 < 0 ∧ ¬ (255 : Int32) < d6) (rd7 : ¬ d7 < 0 ∧ ¬ (255 : Int32) < d7) (k176 : ∀ t, Db p e below m T176 239 #[.val (.int p0), .val (.int p1), .val (.long p2), .second, .val (.int p4), .val (.int p5), .val (.int (p0 &&& (3 : Int32))), .val (.int (((p0.toUInt32 >>> ((2 : Int32) &&& 31).toUInt32).toInt32) &&& (3 : Int32))), .val (.int jnl), .val (.ref js), .val (.int jn), .val (.ref jb), .val (.int jp), .unset, .unset] [] t → Kb p e below m s₁ #[(.int p0), (.int p1), (.long p2), (.int p4), (.int p5)] maxLocals t), False := by
              intro vm176 kk176 T176 locs176 h176 jb jkb jn d0 d1 d2 d3 d4 d5 d6 d7 jp hS hk176 hZ hown CR176 X176 e176 N176 O176 K176 G176_0 g_jb s_jb Sf_jb hjn rd0 rd1 rd2 rd3 rd4 rd5 rd6 rd7 k176
              have lt_jb := G176_0.lt
              have k177 : ∀ t, Db p e below m T176 241 #[.val (.int p0), .val (.int p1), .val (.long p2), .second, .val (.int p4), .val (.int p5), .val (.int (p0 &&& (3 : Int32))), .val (.int (((p0.toUInt32 >>> ((2 : Int32) &&& 31).toUInt32).toInt32) &&& (3 : Int32))), .val (.int jnl), .val (.ref js), .val (.int jn), .val (.ref jb), .val (.int jp), .unset, .unset] [(.int jnl)] t → Kb p e below m s₁ #[(.int p0), (.int p1), (.long p2), (.int p4), (.int p5)] maxLocals t := by
                intro t k
                refine k176 t ?_
                refine XS.iload X176.here hx rfl (hb hby at_239) rfl ?_
                exact k
              by_cases hc178 : jnl = (0 : Int32)
              · obtain ⟨_, _, ⟨T179, L179, k179, n179⟩, -, X179, hS179, hg179, ⟨Lc179, hQ179, l179, y179, z179, hC179⟩, st179⟩ := callSS X176 hx (y := R7) hown (mvT hZ (Ka hw 49 rfl)) (mvT hZ (Ka hw 50 rfl)) (mvT hZ (Ka hw 24 rfl)) (mvT hZ (Ka hw 51 rfl)) (by decide) (backOfSH (W := 0) (rm_mk l Z a0 hw [] jb jkb jn d0 d1 d2 d3 d4 d5 d6 d7 _ _ _ _ _ _ _ _ _ _ _ _ _ h176 n0 O176 hE G176_0 rd0 rd1 rd2 rd3 rd4 rd5 rd6 rd7 (U8 hjn)) hZ (Ka hw 51 rfl) (Ka hw 24 rfl) (by decide) (by decide) (Af hw) CR176.1) (g := (mkF m 252 #[.val (.int p0), .val (.int p1), .val (.long p2), .second, .val (.int p4), .val (.int p5), .val (.int (p0 &&& (3 : Int32))), .val (.int (((p0.toUInt32 >>> ((2 : Int32) &&& 31).toUInt32).toInt32) &&& (3 : Int32))), .val (.int jnl), .val (.ref js), .val (.int jn), .val (.ref jb), .val (.int jp), .unset, .unset] [(.int jn), (.ref jb)])) rfl (by rw [hml]; rfl) (argsL := [(.ref jb), (.int jn)]) (rest := []) (lenOf Mj rfl) rfl (by show 2 * 0 + _ ≤ _; exact Nat.le_of_eq rfl) (hb hby at_252) (fun _ _ => ⟨rfl, e176, (by decide : 3 + 6 ≤ _), (by decide : 48 + 20 ≤ _)⟩)
                dsimp only [Pt.U, Pt.locs, Pt.cells, Pt.slots] at X179 l179 y179 z179 st179 hQ179 hS179 hg179 hC179
                subst l179 y179 z179
                obtain ⟨X179, hS, hZ, hown⟩ := rebS hS (by rw [e176]; exact hk176) X179 hS179 hg179 hZ hown
                obtain ⟨b179, t179, k179, z179, vs179, cs179, rfl, N179q, O179, Kc179, g_b179, gs_b179, F179_0, F179_1, F179_2, F179_3, D179_0, D179_1, D179_2⟩ := hQ179
                have N179 := Fr.app N176 N179q
                have CR180 := CR176.trans hC179
                have K179 := K176.trans Kc179 (fun x hx => nomatch hx)
                have s_b179 := Nat.le_trans K176.1 gs_b179
                have lt_b179 := F179_0.lt
                have lt_t179 := F179_3.lt
                obtain ⟨a181, T181, h181, q181, t181, kb181, X181, e181, E181, hS, hk181, hZ, hown, Ex181, Fc181, Fv181, Av181, la181, lb181, hC181, -, hSf181, st181⟩ := ldcCH X179 hx hZ hown (Ka hw 0 rfl) (Aj hw) rfl hS (Nat.le_refl _) (Af hw) (EL := Uc) (List.mem_of_getElem? (i := 1) rfl) CR180.1 (vs := [(.int 117), (.int 115), (.int 101), (.int 114), (.int 115)]) (z := (5 : Int32)) ⟨by decide, by decide⟩ (by decide) (by decide) (g := (mkF m 270 #[.val (.int p0), .val (.int p1), .val (.long p2), .second, .val (.int p4), .val (.int p5), .val (.int (p0 &&& (3 : Int32))), .val (.int (((p0.toUInt32 >>> ((2 : Int32) &&& 31).toUInt32).toInt32) &&& (3 : Int32))), .val (.int jnl), .val (.ref js), .val (.int jn), .val (.ref jb), .val (.ref b179), .unset, .unset] [(.ref b179)])) rfl (hb hby at_270) (n := 20) (by decide) (by decide) (by decide) (by decide)
                have CR182 := CR180.trans hC181
                have O181 := O179.ext E181
                have K181 := K179.ext E181
                have k183 : ∀ t, Db p e below m T181 272 #[.val (.int p0), .val (.int p1), .val (.long p2), .second, .val (.int p4), .val (.int p5), .val (.int (p0 &&& (3 : Int32))), .val (.int (((p0.toUInt32 >>> ((2 : Int32) &&& 31).toUInt32).toInt32) &&& (3 : Int32))), .val (.int jnl), .val (.ref js), .val (.int jn), .val (.ref jb), .val (.ref b179), .unset, .unset] [(.ref a181), (.ref b179)] t → Kb p e below m s₁ #[(.int p0), (.int p1), (.long p2), (.int p4), (.int p5)] maxLocals t := by
                  intro t k
                  refine k177 t ?_
                  refine XS.ifYes X176.here hx rfl (pc0 := 241) (pc' := 248) rfl (hb hby at_241) rfl ((if0 _ _).trans (teq hc178).1) (by decide) (by decide) ?_
                  refine XS.aload X176.here hx rfl (hb hby at_248) rfl rfl ?_
                  refine XS.iload X176.here hx rfl (hb hby at_250) rfl ?_
                  refine st179.trans ?_
                  refine XS.astore X179.here hx rfl (hb hby at_255) rfl rfl (l' := #[.val (.int p0), .val (.int p1), .val (.long p2), .second, .val (.int p4), .val (.int p5), .val (.int (p0 &&& (3 : Int32))), .val (.int (((p0.toUInt32 >>> ((2 : Int32) &&& 31).toUInt32).toInt32) &&& (3 : Int32))), .val (.int jnl), .val (.ref js), .val (.int jn), .val (.ref jb), .val (.ref b179), .unset, .unset]) rfl ?_
                  refine XS.aload X179.here hx rfl (hb hby at_257) rfl rfl ?_
                  refine XS.ifnonnullYes X179.here hx rfl (pc0 := 259) (pc' := 268) rfl (hb hby at_259) rfl (by decide) (by decide) ?_
                  refine XS.aload X179.here hx rfl (hb hby at_268) rfl rfl ?_
                  refine st181 _ ?_
                  exact k
                by_cases hc184 : cs179 = ([(117 : Int32), (115 : Int32), (101 : Int32), (114 : Int32), (115 : Int32)] : List Int32)
                · have f185 := (F179_0.ext E181)
                  have f186 := (F179_2.ext E181)
                  have f187 := (F179_1.ext E181)
                  have f188 := (F179_3.ext E181)
                  obtain ⟨cq189, kq189, q189a, q189b, q189c⟩ := isOf hZ e181 f185
                  obtain ⟨_, _, ⟨T189, L189, k189, n189⟩, -, X189, ⟨Lc189, hQ189, l189, y189, z189⟩, st189⟩ := X181.virtualBack hx (y := Vc) (z := Vc) hown (mvT hZ (Ka hw 73 rfl)) (mvT hZ (Ka hw 74 rfl)) (notFace_of_selects (args := #[]) (mvT hZ (Ka hw 76 rfl))) (mvT hZ (Ka hw 76 rfl)) (mvT hZ (Ka hw 75 rfl)) (by decide) (StrChars.Road.eqW (W := 0) hZ (Ig hw) (kI := 4) (Ka hw 2 rfl) f185 f186 f187 f188 D179_0 (Zc _ D179_1) D179_2 Ex181 Fv181 Fc181 Av181 Rh (Zc _ Hh) (Nat.le_of_ble_eq_true rfl) (Hb.ext O181.2) Gb (by decide) (by decide)) q189a q189c (g := (mkF m 272 #[.val (.int p0), .val (.int p1), .val (.long p2), .second, .val (.int p4), .val (.int p5), .val (.int (p0 &&& (3 : Int32))), .val (.int (((p0.toUInt32 >>> ((2 : Int32) &&& 31).toUInt32).toInt32) &&& (3 : Int32))), .val (.int jnl), .val (.ref js), .val (.int jn), .val (.ref jb), .val (.ref b179), .unset, .unset] [(.ref a181), (.ref b179)])) rfl (by rw [hml]; rfl) (Steps.refl _) (argsL := [(.ref a181)]) (rest := []) (lenOf Ic rfl) rfl (by show 2 * 0 + _ ≤ _; exact Nat.le_of_eq rfl) (hb hby at_272) (fun _ _ => ⟨rfl, e181, (by decide : 11 + 0 ≤ _), (by decide : 92 + 0 ≤ _)⟩)
                  dsimp only [Pt.U, Pt.locs, Pt.cells, Pt.slots] at X189 l189 y189 z189 st189 hQ189
                  subst l189 y189 z189
                  obtain ⟨hcase189, rfl, hp189⟩ := hQ189
                  have N189q : Fr n0 ([] : List Loc) := Fr.nil n0
                  have hv189 : _ = some (Value.int 1) := hcase189.elim (fun q => q.1) (fun q => absurd hc184 q.2)
                  subst hv189
                  have N189 := Fr.app N179 N189q
                  obtain ⟨T190, X190, e190, st190⟩ := getS2 X189 hx hZ hown (host := "") (Or.inl (Ka hw 82 rfl)) Via.refl hp189 (Ye.ext O181.2) (g := (mkF m 278 #[.val (.int p0), .val (.int p1), .val (.long p2), .second, .val (.int p4), .val (.int p5), .val (.int (p0 &&& (3 : Int32))), .val (.int (((p0.toUInt32 >>> ((2 : Int32) &&& 31).toUInt32).toInt32) &&& (3 : Int32))), .val (.int jnl), .val (.ref js), .val (.int jn), .val (.ref jb), .val (.ref b179), .unset, .unset] [])) rfl (hb hby at_278)
                  obtain ⟨_, _, ⟨T191, L191, k191, n191⟩, -, X191, ⟨Lc191, hQ191, l191, y191, z191⟩, st191⟩ := Jvm.LawKit.callS X190 hx (y := Vg) hown (mvT hZ (Ka hw 85 rfl)) (mvT hZ (Ka hw 86 rfl)) (mvT hZ (Ka hw 83 rfl)) (mvT hZ (Ka hw 87 rfl)) (by decide) (backOf (W := 0) (Y8 l Z a0 hw [] b179 t179 k179 z179 vs179 cs179 _ _ _ _ _ _ _ _ _ _ _ _ _ h181 n0 O181 hE f185 f187 f186 f188 D179_0 D179_1 D179_2 hc184) hZ (Ka hw 87 rfl) (Ka hw 83 rfl) (by decide) (by decide)) (g := (mkF m 327 #[.val (.int p0), .val (.int p1), .val (.long p2), .second, .val (.int p4), .val (.int p5), .val (.int (p0 &&& (3 : Int32))), .val (.int (((p0.toUInt32 >>> ((2 : Int32) &&& 31).toUInt32).toInt32) &&& (3 : Int32))), .val (.int jnl), .val (.ref js), .val (.int jn), .val (.ref jb), .val (.ref b179), .val (.ref Wa), .unset] [(.ref b179)])) rfl (by rw [hml]; rfl) (argsL := [(.ref b179)]) (rest := []) (lenOf Mc rfl) rfl (by show 2 * 0 + _ ≤ _; exact Nat.le_of_eq rfl) (hb hby at_327) (fun _ _ => ⟨rfl, e190, (by decide : 11 + 2 ≤ _), (by decide : 92 + 4 ≤ _)⟩)
                  dsimp only [Pt.U, Pt.locs, Pt.cells, Pt.slots] at X191 l191 y191 z191 st191 hQ191
                  subst l191 y191 z191
                  obtain ⟨b191, rfl, N191q, O191, Kc191, g_b191, gs_b191, F191_0, F191_1⟩ := hQ191
                  have N191 := Fr.app N189 N191q
                  have CR192 := CR182.trans (CHr.keep Kc191 all0 CR182.1)
                  have K191 := K181.trans Kc191 (fun x hx => nomatch hx)
                  have s_b191 := Nat.le_trans K181.1 gs_b191
                  have lt_b191 := F191_0.lt
                  obtain ⟨cq193, kq193, q193a, q193b, q193c⟩ := isOf hZ rfl F191_0
                  obtain ⟨_, _, ⟨T193, L193, k193, n193⟩, -, X193, ⟨Lc193, hQ193, l193, y193, z193⟩, st193⟩ := X191.virtualBack hx (y := Df) (z := Df) hown (mvT hZ (Ka hw 125 rfl)) (mvT hZ (Ka hw 126 rfl)) (notFace_of_selects (args := #[]) (mvT hZ (Ka hw 128 rfl))) (mvT hZ (Ka hw 128 rfl)) (mvT hZ (Ka hw 127 rfl)) (by decide) (backOf (W := 0) (I7 l Z a0 hw [] b191 Wa _ _ _ _ _ _ _ _ _ _ _ _ _ T191.heap n0 O191 hE F191_1 ) hZ (Ka hw 129 rfl) (Ka hw 110 rfl) (by decide) (by decide)) q193a q193c (g := (mkF m 331 #[.val (.int p0), .val (.int p1), .val (.long p2), .second, .val (.int p4), .val (.int p5), .val (.int (p0 &&& (3 : Int32))), .val (.int (((p0.toUInt32 >>> ((2 : Int32) &&& 31).toUInt32).toInt32) &&& (3 : Int32))), .val (.int jnl), .val (.ref js), .val (.int jn), .val (.ref jb), .val (.ref b179), .val (.ref Wa), .unset] [.null, (.ref b191)])) rfl (by rw [hml]; rfl) (Steps.refl _) (argsL := [.null]) (rest := []) (lenOf Kc rfl) rfl (by show 2 * 0 + _ ≤ _; exact Nat.le_of_eq rfl) (hb hby at_331) (fun _ _ => ⟨rfl, rfl, (by decide : 13 + 0 ≤ _), (by decide : 96 + 0 ≤ _)⟩)
                  dsimp only [Pt.U, Pt.locs, Pt.cells, Pt.slots] at X193 l193 y193 z193 st193 hQ193
                  subst l193 y193 z193
                  obtain ⟨rfl, N193q, hp193⟩ := hQ193
                  have N193 := Fr.app N191 N193q
                  obtain ⟨T194, X194, e194, st194⟩ := castY X193 hx hZ hown (Ka hw 130 rfl) hp193 (Ins.self (Ze.ext O191.2)) (g := (mkF m 334 #[.val (.int p0), .val (.int p1), .val (.long p2), .second, .val (.int p4), .val (.int p5), .val (.int (p0 &&& (3 : Int32))), .val (.int (((p0.toUInt32 >>> ((2 : Int32) &&& 31).toUInt32).toInt32) &&& (3 : Int32))), .val (.int jnl), .val (.ref js), .val (.int jn), .val (.ref jb), .val (.ref b179), .val (.ref Wa), .unset] [(.ref Wa)])) rfl rfl (hb hby at_334)
                  have k195 : ∀ t, Db p e below m T194 351 #[.val (.int p0), .val (.int p1), .val (.long p2), .second, .val (.int p4), .val (.int p5), .val (.int (p0 &&& (3 : Int32))), .val (.int (((p0.toUInt32 >>> ((2 : Int32) &&& 31).toUInt32).toInt32) &&& (3 : Int32))), .val (.int jnl), .val (.ref js), .val (.int jn), .val (.ref jb), .val (.ref b179), .val (.ref Wa), .val (.ref Wa)] [(.int 1)] t → Kb p e below m s₁ #[(.int p0), (.int p1), (.long p2), (.int p4), (.int p5)] maxLocals t := by
                    intro t k
                    refine k183 t ?_
                    refine st189.trans ?_
                    refine XS.ifNo X189.here hx rfl (hb hby at_275) rfl ((if0 _ _).trans (feq (by decide : ¬ ((1 : Int32) = (0 : Int32)))).1) ?_
                    refine st190 _ ?_
                    refine XS.astore X190.here hx rfl (hb hby at_281) rfl rfl (l' := #[.val (.int p0), .val (.int p1), .val (.long p2), .second, .val (.int p4), .val (.int p5), .val (.int (p0 &&& (3 : Int32))), .val (.int (((p0.toUInt32 >>> ((2 : Int32) &&& 31).toUInt32).toInt32) &&& (3 : Int32))), .val (.int jnl), .val (.ref js), .val (.int jn), .val (.ref jb), .val (.ref b179), .val (.ref Wa), .unset]) rfl ?_
                    refine XS.goto X190.here hx rfl (pc0 := 283) (pc' := 325) rfl (hb hby at_283) (by decide) (by decide) ?_
                    refine XS.aload X190.here hx rfl (hb hby at_325) rfl rfl ?_
                    refine st191 _ ?_
                    refine XS.aconstNull X191.here hx rfl (hb hby at_330) ?_
                    refine st193.trans ?_
                    refine st194 _ ?_
                    refine XS.astore X194.here hx rfl (hb hby at_337) rfl rfl (l' := #[.val (.int p0), .val (.int p1), .val (.long p2), .second, .val (.int p4), .val (.int p5), .val (.int (p0 &&& (3 : Int32))), .val (.int (((p0.toUInt32 >>> ((2 : Int32) &&& 31).toUInt32).toInt32) &&& (3 : Int32))), .val (.int jnl), .val (.ref js), .val (.int jn), .val (.ref jb), .val (.ref b179), .val (.ref Wa), .val (.ref Wa)]) rfl ?_
                    refine XS.aload X194.here hx rfl (hb hby at_339) rfl rfl ?_
                    show Db p e below m T194 341 #[.val (.int p0), .val (.int p1), .val (.long p2), .second, .val (.int p4), .val (.int p5), .val (.int (p0 &&& (3 : Int32))), .val (.int (((p0.toUInt32 >>> ((2 : Int32) &&& 31).toUInt32).toInt32) &&& (3 : Int32))), .val (.int jnl), .val (.ref js), .val (.int jn), .val (.ref jb), .val (.ref b179), .val (.ref Wa), .val (.ref Wa)] [(.ref Wa)] t
                    refine XS.aload X194.here hx rfl (hb hby at_341) rfl rfl ?_
                    refine Jvm.RoadKit.acmp (g := (mkF m 343 #[.val (.int p0), .val (.int p1), .val (.long p2), .second, .val (.int p4), .val (.int p5), .val (.int (p0 &&& (3 : Int32))), .val (.int (((p0.toUInt32 >>> ((2 : Int32) &&& 31).toUInt32).toInt32) &&& (3 : Int32))), .val (.int jnl), .val (.ref js), .val (.int jn), .val (.ref jb), .val (.ref b179), .val (.ref Wa), .val (.ref Wa)] [(.ref Wa), (.ref Wa)])) X194 hx rfl rfl rfl (pc0 := 343) (pc' := 346) (same := true) rfl (hb hby at_343) rfl (decide_eq_true rfl) (by decide) (by decide) ?_
                    refine XS.iconst X194.here hx rfl (hb hby at_346) ?_
                    refine XS.goto X194.here hx rfl (pc0 := 347) (pc' := 351) rfl (hb hby at_347) (by decide) (by decide) ?_
                    exact k
                  obtain ⟨fs, hr, hrun, hended, hRW⟩ := X194.leaveW hS (by rw [e194]; exact (Nat.le_trans hk181 Kc191.1)) (v := some (.int 1)) (fun h => by rw [Bd.returns] at h; cases h)
                  refine hNG ⟨_, _, k195 _ ?_, hrun, hended, _, _, rfl, ?_, hRW.1, hRW.2.1, hRW.2.2.1, hRW.2.2.2.mono (by decide) (by decide)⟩
                  · exact retN X194 hx (t := .boolean) Bd.returns (by simp) (hb hby at_351) hr
                  · show Pk Z p0 p1 p2 p4 p5 Wa Va Ua Ra Ia Da Ha Ba Ga Aa Ma La Bb h0 n0 _ T194.heap _
                    rw [e194]
                    exact ⟨rfl, N193⟩
                · have f196 := (F179_0.ext E181)
                  have f197 := (F179_2.ext E181)
                  have f198 := (F179_1.ext E181)
                  have f199 := (F179_3.ext E181)
                  obtain ⟨cq200, kq200, q200a, q200b, q200c⟩ := isOf hZ e181 f196
                  obtain ⟨_, _, ⟨T200, L200, k200, n200⟩, -, X200, ⟨Lc200, hQ200, l200, y200, z200⟩, st200⟩ := X181.virtualBack hx (y := Vc) (z := Vc) hown (mvT hZ (Ka hw 73 rfl)) (mvT hZ (Ka hw 74 rfl)) (notFace_of_selects (args := #[]) (mvT hZ (Ka hw 76 rfl))) (mvT hZ (Ka hw 76 rfl)) (mvT hZ (Ka hw 75 rfl)) (by decide) (StrChars.Road.eqW (W := 0) hZ (Ig hw) (kI := 4) (Ka hw 2 rfl) f196 f197 f198 f199 D179_0 (Zc _ D179_1) D179_2 Ex181 Fv181 Fc181 Av181 Rh (Zc _ Hh) (Nat.le_of_ble_eq_true rfl) (Hb.ext O181.2) Gb (by decide) (by decide)) q200a q200c (g := (mkF m 272 #[.val (.int p0), .val (.int p1), .val (.long p2), .second, .val (.int p4), .val (.int p5), .val (.int (p0 &&& (3 : Int32))), .val (.int (((p0.toUInt32 >>> ((2 : Int32) &&& 31).toUInt32).toInt32) &&& (3 : Int32))), .val (.int jnl), .val (.ref js), .val (.int jn), .val (.ref jb), .val (.ref b179), .unset, .unset] [(.ref a181), (.ref b179)])) rfl (by rw [hml]; rfl) (Steps.refl _) (argsL := [(.ref a181)]) (rest := []) (lenOf Ic rfl) rfl (by show 2 * 0 + _ ≤ _; exact Nat.le_of_eq rfl) (hb hby at_272) (fun _ _ => ⟨rfl, e181, (by decide : 11 + 0 ≤ _), (by decide : 92 + 0 ≤ _)⟩)
                  dsimp only [Pt.U, Pt.locs, Pt.cells, Pt.slots] at X200 l200 y200 z200 st200 hQ200
                  subst l200 y200 z200
                  obtain ⟨hcase200, rfl, hp200⟩ := hQ200
                  have N200q : Fr n0 ([] : List Loc) := Fr.nil n0
                  have hv200 : _ = some (Value.int 0) := hcase200.elim (fun q => absurd q.2 hc184) (fun q => q.1)
                  subst hv200
                  have N200 := Fr.app N179 N200q
                  obtain ⟨a201, T201, h201, q201, t201, kb201, X201, e201, E201, hS, hk201, hZ, hown, Ex201, Fc201, Fv201, Av201, la201, lb201, hC201, -, hSf201, st201⟩ := ldcCH X200 hx hZ hown (Ka hw 133 rfl) (Aj hw) hp200 hS hk181 (Af hw) (EL := Uc) (List.mem_of_getElem? (i := 2) rfl) CR182.1 (vs := [(.int 103), (.int 114), (.int 111), (.int 117), (.int 112), (.int 115)]) (z := (6 : Int32)) ⟨by decide, by decide⟩ (by decide) (by decide) (g := (mkF m 288 #[.val (.int p0), .val (.int p1), .val (.long p2), .second, .val (.int p4), .val (.int p5), .val (.int (p0 &&& (3 : Int32))), .val (.int (((p0.toUInt32 >>> ((2 : Int32) &&& 31).toUInt32).toInt32) &&& (3 : Int32))), .val (.int jnl), .val (.ref js), .val (.int jn), .val (.ref jb), .val (.ref b179), .unset, .unset] [(.ref b179)])) rfl (hb hby at_288) (n := 24) (by decide) (by decide) (by decide) (by decide)
                  have CR202 := CR182.trans hC201
                  have O201 := O181.ext E201
                  have K201 := K181.ext E201
                  have k203 : ∀ t, Db p e below m T201 290 #[.val (.int p0), .val (.int p1), .val (.long p2), .second, .val (.int p4), .val (.int p5), .val (.int (p0 &&& (3 : Int32))), .val (.int (((p0.toUInt32 >>> ((2 : Int32) &&& 31).toUInt32).toInt32) &&& (3 : Int32))), .val (.int jnl), .val (.ref js), .val (.int jn), .val (.ref jb), .val (.ref b179), .unset, .unset] [(.ref a201), (.ref b179)] t → Kb p e below m s₁ #[(.int p0), (.int p1), (.long p2), (.int p4), (.int p5)] maxLocals t := by
                    intro t k
                    refine k183 t ?_
                    refine st200.trans ?_
                    refine XS.ifYes X200.here hx rfl (pc0 := 275) (pc' := 286) rfl (hb hby at_275) rfl ((if0 _ _).trans (teq (by decide : (0 : Int32) = (0 : Int32))).1) (by decide) (by decide) ?_
                    refine XS.aload X200.here hx rfl (hb hby at_286) rfl rfl ?_
                    refine st201 _ ?_
                    exact k
                  by_cases hc204 : cs179 = ([(103 : Int32), (114 : Int32), (111 : Int32), (117 : Int32), (112 : Int32), (115 : Int32)] : List Int32)
                  · have f205 := (f196.ext E201)
                    have f206 := (f197.ext E201)
                    have f207 := (f198.ext E201)
                    have f208 := (f199.ext E201)
                    obtain ⟨cq209, kq209, q209a, q209b, q209c⟩ := isOf hZ e201 f205
                    obtain ⟨_, _, ⟨T209, L209, k209, n209⟩, -, X209, ⟨Lc209, hQ209, l209, y209, z209⟩, st209⟩ := X201.virtualBack hx (y := Vc) (z := Vc) hown (mvT hZ (Ka hw 73 rfl)) (mvT hZ (Ka hw 74 rfl)) (notFace_of_selects (args := #[]) (mvT hZ (Ka hw 76 rfl))) (mvT hZ (Ka hw 76 rfl)) (mvT hZ (Ka hw 75 rfl)) (by decide) (StrChars.Road.eqW (W := 0) hZ (Ig hw) (kI := 4) (Ka hw 2 rfl) f205 f206 f207 f208 D179_0 (Zc _ D179_1) D179_2 Ex201 Fv201 Fc201 Av201 Yh (Zc _ Ih) (Nat.le_of_ble_eq_true rfl) (Hb.ext O201.2) Gb (by decide) (by decide)) q209a q209c (g := (mkF m 290 #[.val (.int p0), .val (.int p1), .val (.long p2), .second, .val (.int p4), .val (.int p5), .val (.int (p0 &&& (3 : Int32))), .val (.int (((p0.toUInt32 >>> ((2 : Int32) &&& 31).toUInt32).toInt32) &&& (3 : Int32))), .val (.int jnl), .val (.ref js), .val (.int jn), .val (.ref jb), .val (.ref b179), .unset, .unset] [(.ref a201), (.ref b179)])) rfl (by rw [hml]; rfl) (Steps.refl _) (argsL := [(.ref a201)]) (rest := []) (lenOf Ic rfl) rfl (by show 2 * 0 + _ ≤ _; exact Nat.le_of_eq rfl) (hb hby at_290) (fun _ _ => ⟨rfl, e201, (by decide : 13 + 0 ≤ _), (by decide : 120 + 0 ≤ _)⟩)
                    dsimp only [Pt.U, Pt.locs, Pt.cells, Pt.slots] at X209 l209 y209 z209 st209 hQ209
                    subst l209 y209 z209
                    obtain ⟨hcase209, rfl, hp209⟩ := hQ209
                    have N209q : Fr n0 ([] : List Loc) := Fr.nil n0
                    have hv209 : _ = some (Value.int 1) := hcase209.elim (fun q => q.1) (fun q => absurd hc204 q.2)
                    subst hv209
                    have N209 := Fr.app N200 N209q
                    obtain ⟨T210, X210, e210, st210⟩ := getS2 X209 hx hZ hown (host := "") (Or.inl (Ka hw 141 rfl)) Via.refl hp209 (Ue.ext O201.2) (g := (mkF m 296 #[.val (.int p0), .val (.int p1), .val (.long p2), .second, .val (.int p4), .val (.int p5), .val (.int (p0 &&& (3 : Int32))), .val (.int (((p0.toUInt32 >>> ((2 : Int32) &&& 31).toUInt32).toInt32) &&& (3 : Int32))), .val (.int jnl), .val (.ref js), .val (.int jn), .val (.ref jb), .val (.ref b179), .unset, .unset] [])) rfl (hb hby at_296)
                    obtain ⟨_, _, ⟨T211, L211, k211, n211⟩, -, X211, ⟨Lc211, hQ211, l211, y211, z211⟩, st211⟩ := Jvm.LawKit.callS X210 hx (y := Vg) hown (mvT hZ (Ka hw 85 rfl)) (mvT hZ (Ka hw 86 rfl)) (mvT hZ (Ka hw 83 rfl)) (mvT hZ (Ka hw 87 rfl)) (by decide) (backOf (W := 0) (Z8 l Z a0 hw [] b179 t179 k179 z179 vs179 cs179 _ _ _ _ _ _ _ _ _ _ _ _ _ h201 n0 O201 hE f205 f207 f206 f208 D179_0 D179_1 D179_2 hc184 hc204) hZ (Ka hw 87 rfl) (Ka hw 83 rfl) (by decide) (by decide)) (g := (mkF m 327 #[.val (.int p0), .val (.int p1), .val (.long p2), .second, .val (.int p4), .val (.int p5), .val (.int (p0 &&& (3 : Int32))), .val (.int (((p0.toUInt32 >>> ((2 : Int32) &&& 31).toUInt32).toInt32) &&& (3 : Int32))), .val (.int jnl), .val (.ref js), .val (.int jn), .val (.ref jb), .val (.ref b179), .val (.ref Ua), .unset] [(.ref b179)])) rfl (by rw [hml]; rfl) (argsL := [(.ref b179)]) (rest := []) (lenOf Mc rfl) rfl (by show 2 * 0 + _ ≤ _; exact Nat.le_of_eq rfl) (hb hby at_327) (fun _ _ => ⟨rfl, e210, (by decide : 13 + 2 ≤ _), (by decide : 120 + 4 ≤ _)⟩)
                    dsimp only [Pt.U, Pt.locs, Pt.cells, Pt.slots] at X211 l211 y211 z211 st211 hQ211
                    subst l211 y211 z211
                    obtain ⟨b211, rfl, N211q, O211, Kc211, g_b211, gs_b211, F211_0, F211_1⟩ := hQ211
                    have N211 := Fr.app N209 N211q
                    have CR212 := CR202.trans (CHr.keep Kc211 all0 CR202.1)
                    have K211 := K201.trans Kc211 (fun x hx => nomatch hx)
                    have s_b211 := Nat.le_trans K201.1 gs_b211
                    have lt_b211 := F211_0.lt
                    obtain ⟨cq213, kq213, q213a, q213b, q213c⟩ := isOf hZ rfl F211_0
                    obtain ⟨_, _, ⟨T213, L213, k213, n213⟩, -, X213, ⟨Lc213, hQ213, l213, y213, z213⟩, st213⟩ := X211.virtualBack hx (y := Df) (z := Df) hown (mvT hZ (Ka hw 125 rfl)) (mvT hZ (Ka hw 126 rfl)) (notFace_of_selects (args := #[]) (mvT hZ (Ka hw 128 rfl))) (mvT hZ (Ka hw 128 rfl)) (mvT hZ (Ka hw 127 rfl)) (by decide) (backOf (W := 0) (I7 l Z a0 hw [] b211 Ua _ _ _ _ _ _ _ _ _ _ _ _ _ T211.heap n0 O211 hE F211_1 ) hZ (Ka hw 129 rfl) (Ka hw 110 rfl) (by decide) (by decide)) q213a q213c (g := (mkF m 331 #[.val (.int p0), .val (.int p1), .val (.long p2), .second, .val (.int p4), .val (.int p5), .val (.int (p0 &&& (3 : Int32))), .val (.int (((p0.toUInt32 >>> ((2 : Int32) &&& 31).toUInt32).toInt32) &&& (3 : Int32))), .val (.int jnl), .val (.ref js), .val (.int jn), .val (.ref jb), .val (.ref b179), .val (.ref Ua), .unset] [.null, (.ref b211)])) rfl (by rw [hml]; rfl) (Steps.refl _) (argsL := [.null]) (rest := []) (lenOf Kc rfl) rfl (by show 2 * 0 + _ ≤ _; exact Nat.le_of_eq rfl) (hb hby at_331) (fun _ _ => ⟨rfl, rfl, (by decide : 15 + 0 ≤ _), (by decide : 124 + 0 ≤ _)⟩)
                    dsimp only [Pt.U, Pt.locs, Pt.cells, Pt.slots] at X213 l213 y213 z213 st213 hQ213
                    subst l213 y213 z213
                    obtain ⟨rfl, N213q, hp213⟩ := hQ213
                    have N213 := Fr.app N211 N213q
                    obtain ⟨T214, X214, e214, st214⟩ := castY X213 hx hZ hown (Ka hw 130 rfl) hp213 (Ins.self (Ve.ext O211.2)) (g := (mkF m 334 #[.val (.int p0), .val (.int p1), .val (.long p2), .second, .val (.int p4), .val (.int p5), .val (.int (p0 &&& (3 : Int32))), .val (.int (((p0.toUInt32 >>> ((2 : Int32) &&& 31).toUInt32).toInt32) &&& (3 : Int32))), .val (.int jnl), .val (.ref js), .val (.int jn), .val (.ref jb), .val (.ref b179), .val (.ref Ua), .unset] [(.ref Ua)])) rfl rfl (hb hby at_334)
                    have k215 : ∀ t, Db p e below m T214 351 #[.val (.int p0), .val (.int p1), .val (.long p2), .second, .val (.int p4), .val (.int p5), .val (.int (p0 &&& (3 : Int32))), .val (.int (((p0.toUInt32 >>> ((2 : Int32) &&& 31).toUInt32).toInt32) &&& (3 : Int32))), .val (.int jnl), .val (.ref js), .val (.int jn), .val (.ref jb), .val (.ref b179), .val (.ref Ua), .val (.ref Ua)] [(.int 1)] t → Kb p e below m s₁ #[(.int p0), (.int p1), (.long p2), (.int p4), (.int p5)] maxLocals t := by
                      intro t k
                      refine k203 t ?_
                      refine st209.trans ?_
                      refine XS.ifNo X209.here hx rfl (hb hby at_293) rfl ((if0 _ _).trans (feq (by decide : ¬ ((1 : Int32) = (0 : Int32)))).1) ?_
                      refine st210 _ ?_
                      refine XS.astore X210.here hx rfl (hb hby at_299) rfl rfl (l' := #[.val (.int p0), .val (.int p1), .val (.long p2), .second, .val (.int p4), .val (.int p5), .val (.int (p0 &&& (3 : Int32))), .val (.int (((p0.toUInt32 >>> ((2 : Int32) &&& 31).toUInt32).toInt32) &&& (3 : Int32))), .val (.int jnl), .val (.ref js), .val (.int jn), .val (.ref jb), .val (.ref b179), .val (.ref Ua), .unset]) rfl ?_
                      refine XS.goto X210.here hx rfl (pc0 := 301) (pc' := 325) rfl (hb hby at_301) (by decide) (by decide) ?_
                      refine XS.aload X210.here hx rfl (hb hby at_325) rfl rfl ?_
                      refine st211 _ ?_
                      refine XS.aconstNull X211.here hx rfl (hb hby at_330) ?_
                      refine st213.trans ?_
                      refine st214 _ ?_
                      refine XS.astore X214.here hx rfl (hb hby at_337) rfl rfl (l' := #[.val (.int p0), .val (.int p1), .val (.long p2), .second, .val (.int p4), .val (.int p5), .val (.int (p0 &&& (3 : Int32))), .val (.int (((p0.toUInt32 >>> ((2 : Int32) &&& 31).toUInt32).toInt32) &&& (3 : Int32))), .val (.int jnl), .val (.ref js), .val (.int jn), .val (.ref jb), .val (.ref b179), .val (.ref Ua), .val (.ref Ua)]) rfl ?_
                      refine XS.aload X214.here hx rfl (hb hby at_339) rfl rfl ?_
                      show Db p e below m T214 341 #[.val (.int p0), .val (.int p1), .val (.long p2), .second, .val (.int p4), .val (.int p5), .val (.int (p0 &&& (3 : Int32))), .val (.int (((p0.toUInt32 >>> ((2 : Int32) &&& 31).toUInt32).toInt32) &&& (3 : Int32))), .val (.int jnl), .val (.ref js), .val (.int jn), .val (.ref jb), .val (.ref b179), .val (.ref Ua), .val (.ref Ua)] [(.ref Ua)] t
                      refine XS.aload X214.here hx rfl (hb hby at_341) rfl rfl ?_
                      refine Jvm.RoadKit.acmp (g := (mkF m 343 #[.val (.int p0), .val (.int p1), .val (.long p2), .second, .val (.int p4), .val (.int p5), .val (.int (p0 &&& (3 : Int32))), .val (.int (((p0.toUInt32 >>> ((2 : Int32) &&& 31).toUInt32).toInt32) &&& (3 : Int32))), .val (.int jnl), .val (.ref js), .val (.int jn), .val (.ref jb), .val (.ref b179), .val (.ref Ua), .val (.ref Ua)] [(.ref Ua), (.ref Ua)])) X214 hx rfl rfl rfl (pc0 := 343) (pc' := 346) (same := true) rfl (hb hby at_343) rfl (decide_eq_true rfl) (by decide) (by decide) ?_
                      refine XS.iconst X214.here hx rfl (hb hby at_346) ?_
                      refine XS.goto X214.here hx rfl (pc0 := 347) (pc' := 351) rfl (hb hby at_347) (by decide) (by decide) ?_
                      exact k
                    obtain ⟨fs, hr, hrun, hended, hRW⟩ := X214.leaveW hS (by rw [e214]; exact (Nat.le_trans hk201 Kc211.1)) (v := some (.int 1)) (fun h => by rw [Bd.returns] at h; cases h)
                    refine hNG ⟨_, _, k215 _ ?_, hrun, hended, _, _, rfl, ?_, hRW.1, hRW.2.1, hRW.2.2.1, hRW.2.2.2.mono (by decide) (by decide)⟩
                    · exact retN X214 hx (t := .boolean) Bd.returns (by simp) (hb hby at_351) hr
                    · show Pk Z p0 p1 p2 p4 p5 Wa Va Ua Ra Ia Da Ha Ba Ga Aa Ma La Bb h0 n0 _ T214.heap _
                      rw [e214]
                      exact ⟨rfl, N213⟩
                  · have f216 := (f196.ext E201)
                    have f217 := (f197.ext E201)
                    have f218 := (f198.ext E201)
                    have f219 := (f199.ext E201)
                    obtain ⟨cq220, kq220, q220a, q220b, q220c⟩ := isOf hZ e201 f216
                    obtain ⟨_, _, ⟨T220, L220, k220, n220⟩, -, X220, ⟨Lc220, hQ220, l220, y220, z220⟩, st220⟩ := X201.virtualBack hx (y := Vc) (z := Vc) hown (mvT hZ (Ka hw 73 rfl)) (mvT hZ (Ka hw 74 rfl)) (notFace_of_selects (args := #[]) (mvT hZ (Ka hw 76 rfl))) (mvT hZ (Ka hw 76 rfl)) (mvT hZ (Ka hw 75 rfl)) (by decide) (StrChars.Road.eqW (W := 0) hZ (Ig hw) (kI := 4) (Ka hw 2 rfl) f216 f217 f218 f219 D179_0 (Zc _ D179_1) D179_2 Ex201 Fv201 Fc201 Av201 Yh (Zc _ Ih) (Nat.le_of_ble_eq_true rfl) (Hb.ext O201.2) Gb (by decide) (by decide)) q220a q220c (g := (mkF m 290 #[.val (.int p0), .val (.int p1), .val (.long p2), .second, .val (.int p4), .val (.int p5), .val (.int (p0 &&& (3 : Int32))), .val (.int (((p0.toUInt32 >>> ((2 : Int32) &&& 31).toUInt32).toInt32) &&& (3 : Int32))), .val (.int jnl), .val (.ref js), .val (.int jn), .val (.ref jb), .val (.ref b179), .unset, .unset] [(.ref a201), (.ref b179)])) rfl (by rw [hml]; rfl) (Steps.refl _) (argsL := [(.ref a201)]) (rest := []) (lenOf Ic rfl) rfl (by show 2 * 0 + _ ≤ _; exact Nat.le_of_eq rfl) (hb hby at_290) (fun _ _ => ⟨rfl, e201, (by decide : 13 + 0 ≤ _), (by decide : 120 + 0 ≤ _)⟩)
                    dsimp only [Pt.U, Pt.locs, Pt.cells, Pt.slots] at X220 l220 y220 z220 st220 hQ220
                    subst l220 y220 z220
                    obtain ⟨hcase220, rfl, hp220⟩ := hQ220
                    have N220q : Fr n0 ([] : List Loc) := Fr.nil n0
                    have hv220 : _ = some (Value.int 0) := hcase220.elim (fun q => absurd q.2 hc204) (fun q => q.1)
                    subst hv220
                    have N220 := Fr.app N200 N220q
                    obtain ⟨a221, T221, h221, q221, t221, kb221, X221, e221, E221, hS, hk221, hZ, hown, Ex221, Fc221, Fv221, Av221, la221, lb221, hC221, -, hSf221, st221⟩ := ldcCH X220 hx hZ hown (Ka hw 134 rfl) (Aj hw) hp220 hS hk201 (Af hw) (EL := Uc) (List.mem_of_getElem? (i := 3) rfl) CR202.1 (vs := [(.int 100), (.int 101), (.int 118), (.int 105), (.int 99), (.int 101), (.int 115)]) (z := (7 : Int32)) ⟨by decide, by decide⟩ (by decide) (by decide) (g := (mkF m 306 #[.val (.int p0), .val (.int p1), .val (.long p2), .second, .val (.int p4), .val (.int p5), .val (.int (p0 &&& (3 : Int32))), .val (.int (((p0.toUInt32 >>> ((2 : Int32) &&& 31).toUInt32).toInt32) &&& (3 : Int32))), .val (.int jnl), .val (.ref js), .val (.int jn), .val (.ref jb), .val (.ref b179), .unset, .unset] [(.ref b179)])) rfl (hb hby at_306) (n := 28) (by decide) (by decide) (by decide) (by decide)
                    have CR222 := CR202.trans hC221
                    have O221 := O201.ext E221
                    have K221 := K201.ext E221
                    have k223 : ∀ t, Db p e below m T221 308 #[.val (.int p0), .val (.int p1), .val (.long p2), .second, .val (.int p4), .val (.int p5), .val (.int (p0 &&& (3 : Int32))), .val (.int (((p0.toUInt32 >>> ((2 : Int32) &&& 31).toUInt32).toInt32) &&& (3 : Int32))), .val (.int jnl), .val (.ref js), .val (.int jn), .val (.ref jb), .val (.ref b179), .unset, .unset] [(.ref a221), (.ref b179)] t → Kb p e below m s₁ #[(.int p0), (.int p1), (.long p2), (.int p4), (.int p5)] maxLocals t := by
                      intro t k
                      refine k203 t ?_
                      refine st220.trans ?_
                      refine XS.ifYes X220.here hx rfl (pc0 := 293) (pc' := 304) rfl (hb hby at_293) rfl ((if0 _ _).trans (teq (by decide : (0 : Int32) = (0 : Int32))).1) (by decide) (by decide) ?_
                      refine XS.aload X220.here hx rfl (hb hby at_304) rfl rfl ?_
                      refine st221 _ ?_
                      exact k
                    by_cases hc224 : cs179 = ([(100 : Int32), (101 : Int32), (118 : Int32), (105 : Int32), (99 : Int32), (101 : Int32), (115 : Int32)] : List Int32)
                    · have f225 := (f216.ext E221)
                      have f226 := (f217.ext E221)
                      have f227 := (f218.ext E221)
                      have f228 := (f219.ext E221)
                      obtain ⟨cq229, kq229, q229a, q229b, q229c⟩ := isOf hZ e221 f225
                      obtain ⟨_, _, ⟨T229, L229, k229, n229⟩, -, X229, ⟨Lc229, hQ229, l229, y229, z229⟩, st229⟩ := X221.virtualBack hx (y := Vc) (z := Vc) hown (mvT hZ (Ka hw 73 rfl)) (mvT hZ (Ka hw 74 rfl)) (notFace_of_selects (args := #[]) (mvT hZ (Ka hw 76 rfl))) (mvT hZ (Ka hw 76 rfl)) (mvT hZ (Ka hw 75 rfl)) (by decide) (StrChars.Road.eqW (W := 0) hZ (Ig hw) (kI := 4) (Ka hw 2 rfl) f225 f226 f227 f228 D179_0 (Zc _ D179_1) D179_2 Ex221 Fv221 Fc221 Av221 Bi (Zc _ Mh) (Nat.le_of_ble_eq_true rfl) (Hb.ext O221.2) Gb (by decide) (by decide)) q229a q229c (g := (mkF m 308 #[.val (.int p0), .val (.int p1), .val (.long p2), .second, .val (.int p4), .val (.int p5), .val (.int (p0 &&& (3 : Int32))), .val (.int (((p0.toUInt32 >>> ((2 : Int32) &&& 31).toUInt32).toInt32) &&& (3 : Int32))), .val (.int jnl), .val (.ref js), .val (.int jn), .val (.ref jb), .val (.ref b179), .unset, .unset] [(.ref a221), (.ref b179)])) rfl (by rw [hml]; rfl) (Steps.refl _) (argsL := [(.ref a221)]) (rest := []) (lenOf Ic rfl) rfl (by show 2 * 0 + _ ≤ _; exact Nat.le_of_eq rfl) (hb hby at_308) (fun _ _ => ⟨rfl, e221, (by decide : 15 + 0 ≤ _), (by decide : 152 + 0 ≤ _)⟩)
                      dsimp only [Pt.U, Pt.locs, Pt.cells, Pt.slots] at X229 l229 y229 z229 st229 hQ229
                      subst l229 y229 z229
                      obtain ⟨hcase229, rfl, hp229⟩ := hQ229
                      have N229q : Fr n0 ([] : List Loc) := Fr.nil n0
                      have hv229 : _ = some (Value.int 1) := hcase229.elim (fun q => q.1) (fun q => absurd hc224 q.2)
                      subst hv229
                      have N229 := Fr.app N220 N229q
                      obtain ⟨T230, X230, e230, st230⟩ := getS2 X229 hx hZ hown (host := "") (Or.inl (Ka hw 142 rfl)) Via.refl hp229 (Ke.ext O221.2) (g := (mkF m 314 #[.val (.int p0), .val (.int p1), .val (.long p2), .second, .val (.int p4), .val (.int p5), .val (.int (p0 &&& (3 : Int32))), .val (.int (((p0.toUInt32 >>> ((2 : Int32) &&& 31).toUInt32).toInt32) &&& (3 : Int32))), .val (.int jnl), .val (.ref js), .val (.int jn), .val (.ref jb), .val (.ref b179), .unset, .unset] [])) rfl (hb hby at_314)
                      obtain ⟨_, _, ⟨T231, L231, k231, n231⟩, -, X231, ⟨Lc231, hQ231, l231, y231, z231⟩, st231⟩ := Jvm.LawKit.callS X230 hx (y := Vg) hown (mvT hZ (Ka hw 85 rfl)) (mvT hZ (Ka hw 86 rfl)) (mvT hZ (Ka hw 83 rfl)) (mvT hZ (Ka hw 87 rfl)) (by decide) (backOf (W := 0) (A9 l Z a0 hw [] b179 t179 k179 z179 vs179 cs179 _ _ _ _ _ _ _ _ _ _ _ _ _ h221 n0 O221 hE f225 f227 f226 f228 D179_0 D179_1 D179_2 hc184 hc204 hc224) hZ (Ka hw 87 rfl) (Ka hw 83 rfl) (by decide) (by decide)) (g := (mkF m 327 #[.val (.int p0), .val (.int p1), .val (.long p2), .second, .val (.int p4), .val (.int p5), .val (.int (p0 &&& (3 : Int32))), .val (.int (((p0.toUInt32 >>> ((2 : Int32) &&& 31).toUInt32).toInt32) &&& (3 : Int32))), .val (.int jnl), .val (.ref js), .val (.int jn), .val (.ref jb), .val (.ref b179), .val (.ref Ra), .unset] [(.ref b179)])) rfl (by rw [hml]; rfl) (argsL := [(.ref b179)]) (rest := []) (lenOf Mc rfl) rfl (by show 2 * 0 + _ ≤ _; exact Nat.le_of_eq rfl) (hb hby at_327) (fun _ _ => ⟨rfl, e230, (by decide : 15 + 2 ≤ _), (by decide : 152 + 4 ≤ _)⟩)
                      dsimp only [Pt.U, Pt.locs, Pt.cells, Pt.slots] at X231 l231 y231 z231 st231 hQ231
                      subst l231 y231 z231
                      obtain ⟨b231, rfl, N231q, O231, Kc231, g_b231, gs_b231, F231_0, F231_1⟩ := hQ231
                      have N231 := Fr.app N229 N231q
                      have CR232 := CR222.trans (CHr.keep Kc231 all0 CR222.1)
                      have K231 := K221.trans Kc231 (fun x hx => nomatch hx)
                      have s_b231 := Nat.le_trans K221.1 gs_b231
                      have lt_b231 := F231_0.lt
                      obtain ⟨cq233, kq233, q233a, q233b, q233c⟩ := isOf hZ rfl F231_0
                      obtain ⟨_, _, ⟨T233, L233, k233, n233⟩, -, X233, ⟨Lc233, hQ233, l233, y233, z233⟩, st233⟩ := X231.virtualBack hx (y := Df) (z := Df) hown (mvT hZ (Ka hw 125 rfl)) (mvT hZ (Ka hw 126 rfl)) (notFace_of_selects (args := #[]) (mvT hZ (Ka hw 128 rfl))) (mvT hZ (Ka hw 128 rfl)) (mvT hZ (Ka hw 127 rfl)) (by decide) (backOf (W := 0) (I7 l Z a0 hw [] b231 Ra _ _ _ _ _ _ _ _ _ _ _ _ _ T231.heap n0 O231 hE F231_1 ) hZ (Ka hw 129 rfl) (Ka hw 110 rfl) (by decide) (by decide)) q233a q233c (g := (mkF m 331 #[.val (.int p0), .val (.int p1), .val (.long p2), .second, .val (.int p4), .val (.int p5), .val (.int (p0 &&& (3 : Int32))), .val (.int (((p0.toUInt32 >>> ((2 : Int32) &&& 31).toUInt32).toInt32) &&& (3 : Int32))), .val (.int jnl), .val (.ref js), .val (.int jn), .val (.ref jb), .val (.ref b179), .val (.ref Ra), .unset] [.null, (.ref b231)])) rfl (by rw [hml]; rfl) (Steps.refl _) (argsL := [.null]) (rest := []) (lenOf Kc rfl) rfl (by show 2 * 0 + _ ≤ _; exact Nat.le_of_eq rfl) (hb hby at_331) (fun _ _ => ⟨rfl, rfl, (by decide : 17 + 0 ≤ _), (by decide : 156 + 0 ≤ _)⟩)
                      dsimp only [Pt.U, Pt.locs, Pt.cells, Pt.slots] at X233 l233 y233 z233 st233 hQ233
                      subst l233 y233 z233
                      obtain ⟨rfl, N233q, hp233⟩ := hQ233
                      have N233 := Fr.app N231 N233q
                      obtain ⟨T234, X234, e234, st234⟩ := castY X233 hx hZ hown (Ka hw 130 rfl) hp233 (Ins.self (Le.ext O231.2)) (g := (mkF m 334 #[.val (.int p0), .val (.int p1), .val (.long p2), .second, .val (.int p4), .val (.int p5), .val (.int (p0 &&& (3 : Int32))), .val (.int (((p0.toUInt32 >>> ((2 : Int32) &&& 31).toUInt32).toInt32) &&& (3 : Int32))), .val (.int jnl), .val (.ref js), .val (.int jn), .val (.ref jb), .val (.ref b179), .val (.ref Ra), .unset] [(.ref Ra)])) rfl rfl (hb hby at_334)
                      have k235 : ∀ t, Db p e below m T234 351 #[.val (.int p0), .val (.int p1), .val (.long p2), .second, .val (.int p4), .val (.int p5), .val (.int (p0 &&& (3 : Int32))), .val (.int (((p0.toUInt32 >>> ((2 : Int32) &&& 31).toUInt32).toInt32) &&& (3 : Int32))), .val (.int jnl), .val (.ref js), .val (.int jn), .val (.ref jb), .val (.ref b179), .val (.ref Ra), .val (.ref Ra)] [(.int 1)] t → Kb p e below m s₁ #[(.int p0), (.int p1), (.long p2), (.int p4), (.int p5)] maxLocals t := by
                        intro t k
                        refine k223 t ?_
                        refine st229.trans ?_
                        refine XS.ifNo X229.here hx rfl (hb hby at_311) rfl ((if0 _ _).trans (feq (by decide : ¬ ((1 : Int32) = (0 : Int32)))).1) ?_
                        refine st230 _ ?_
                        refine XS.astore X230.here hx rfl (hb hby at_317) rfl rfl (l' := #[.val (.int p0), .val (.int p1), .val (.long p2), .second, .val (.int p4), .val (.int p5), .val (.int (p0 &&& (3 : Int32))), .val (.int (((p0.toUInt32 >>> ((2 : Int32) &&& 31).toUInt32).toInt32) &&& (3 : Int32))), .val (.int jnl), .val (.ref js), .val (.int jn), .val (.ref jb), .val (.ref b179), .val (.ref Ra), .unset]) rfl ?_
                        refine XS.goto X230.here hx rfl (pc0 := 319) (pc' := 325) rfl (hb hby at_319) (by decide) (by decide) ?_
                        refine XS.aload X230.here hx rfl (hb hby at_325) rfl rfl ?_
                        refine st231 _ ?_
                        refine XS.aconstNull X231.here hx rfl (hb hby at_330) ?_
                        refine st233.trans ?_
                        refine st234 _ ?_
                        refine XS.astore X234.here hx rfl (hb hby at_337) rfl rfl (l' := #[.val (.int p0), .val (.int p1), .val (.long p2), .second, .val (.int p4), .val (.int p5), .val (.int (p0 &&& (3 : Int32))), .val (.int (((p0.toUInt32 >>> ((2 : Int32) &&& 31).toUInt32).toInt32) &&& (3 : Int32))), .val (.int jnl), .val (.ref js), .val (.int jn), .val (.ref jb), .val (.ref b179), .val (.ref Ra), .val (.ref Ra)]) rfl ?_
                        refine XS.aload X234.here hx rfl (hb hby at_339) rfl rfl ?_
                        show Db p e below m T234 341 #[.val (.int p0), .val (.int p1), .val (.long p2), .second, .val (.int p4), .val (.int p5), .val (.int (p0 &&& (3 : Int32))), .val (.int (((p0.toUInt32 >>> ((2 : Int32) &&& 31).toUInt32).toInt32) &&& (3 : Int32))), .val (.int jnl), .val (.ref js), .val (.int jn), .val (.ref jb), .val (.ref b179), .val (.ref Ra), .val (.ref Ra)] [(.ref Ra)] t
                        refine XS.aload X234.here hx rfl (hb hby at_341) rfl rfl ?_
                        refine Jvm.RoadKit.acmp (g := (mkF m 343 #[.val (.int p0), .val (.int p1), .val (.long p2), .second, .val (.int p4), .val (.int p5), .val (.int (p0 &&& (3 : Int32))), .val (.int (((p0.toUInt32 >>> ((2 : Int32) &&& 31).toUInt32).toInt32) &&& (3 : Int32))), .val (.int jnl), .val (.ref js), .val (.int jn), .val (.ref jb), .val (.ref b179), .val (.ref Ra), .val (.ref Ra)] [(.ref Ra), (.ref Ra)])) X234 hx rfl rfl rfl (pc0 := 343) (pc' := 346) (same := true) rfl (hb hby at_343) rfl (decide_eq_true rfl) (by decide) (by decide) ?_
                        refine XS.iconst X234.here hx rfl (hb hby at_346) ?_
                        refine XS.goto X234.here hx rfl (pc0 := 347) (pc' := 351) rfl (hb hby at_347) (by decide) (by decide) ?_
                        exact k
                      obtain ⟨fs, hr, hrun, hended, hRW⟩ := X234.leaveW hS (by rw [e234]; exact (Nat.le_trans hk221 Kc231.1)) (v := some (.int 1)) (fun h => by rw [Bd.returns] at h; cases h)
                      refine hNG ⟨_, _, k235 _ ?_, hrun, hended, _, _, rfl, ?_, hRW.1, hRW.2.1, hRW.2.2.1, hRW.2.2.2.mono (by decide) (by decide)⟩
                      · exact retN X234 hx (t := .boolean) Bd.returns (by simp) (hb hby at_351) hr
                      · show Pk Z p0 p1 p2 p4 p5 Wa Va Ua Ra Ia Da Ha Ba Ga Aa Ma La Bb h0 n0 _ T234.heap _
                        rw [e234]
                        exact ⟨rfl, N233⟩
                    · have f236 := (f216.ext E221)
                      have f237 := (f217.ext E221)
                      have f238 := (f218.ext E221)
                      have f239 := (f219.ext E221)
                      obtain ⟨cq240, kq240, q240a, q240b, q240c⟩ := isOf hZ e221 f236
                      obtain ⟨_, _, ⟨T240, L240, k240, n240⟩, -, X240, ⟨Lc240, hQ240, l240, y240, z240⟩, st240⟩ := X221.virtualBack hx (y := Vc) (z := Vc) hown (mvT hZ (Ka hw 73 rfl)) (mvT hZ (Ka hw 74 rfl)) (notFace_of_selects (args := #[]) (mvT hZ (Ka hw 76 rfl))) (mvT hZ (Ka hw 76 rfl)) (mvT hZ (Ka hw 75 rfl)) (by decide) (StrChars.Road.eqW (W := 0) hZ (Ig hw) (kI := 4) (Ka hw 2 rfl) f236 f237 f238 f239 D179_0 (Zc _ D179_1) D179_2 Ex221 Fv221 Fc221 Av221 Bi (Zc _ Mh) (Nat.le_of_ble_eq_true rfl) (Hb.ext O221.2) Gb (by decide) (by decide)) q240a q240c (g := (mkF m 308 #[.val (.int p0), .val (.int p1), .val (.long p2), .second, .val (.int p4), .val (.int p5), .val (.int (p0 &&& (3 : Int32))), .val (.int (((p0.toUInt32 >>> ((2 : Int32) &&& 31).toUInt32).toInt32) &&& (3 : Int32))), .val (.int jnl), .val (.ref js), .val (.int jn), .val (.ref jb), .val (.ref b179), .unset, .unset] [(.ref a221), (.ref b179)])) rfl (by rw [hml]; rfl) (Steps.refl _) (argsL := [(.ref a221)]) (rest := []) (lenOf Ic rfl) rfl (by show 2 * 0 + _ ≤ _; exact Nat.le_of_eq rfl) (hb hby at_308) (fun _ _ => ⟨rfl, e221, (by decide : 15 + 0 ≤ _), (by decide : 152 + 0 ≤ _)⟩)
                      dsimp only [Pt.U, Pt.locs, Pt.cells, Pt.slots] at X240 l240 y240 z240 st240 hQ240
                      subst l240 y240 z240
                      obtain ⟨hcase240, rfl, hp240⟩ := hQ240
                      have N240q : Fr n0 ([] : List Loc) := Fr.nil n0
                      have hv240 : _ = some (Value.int 0) := hcase240.elim (fun q => absurd q.2 hc224) (fun q => q.1)
                      subst hv240
                      have N240 := Fr.app N220 N240q
                      obtain ⟨_, _, ⟨T241, L241, k241, n241⟩, -, X241, ⟨Lc241, hQ241, l241, y241, z241⟩, st241⟩ := Jvm.LawKit.callS X240 hx (y := Vg) hown (mvT hZ (Ka hw 85 rfl)) (mvT hZ (Ka hw 86 rfl)) (mvT hZ (Ka hw 83 rfl)) (mvT hZ (Ka hw 87 rfl)) (by decide) (backOf (W := 0) (D9 l Z a0 hw [] b179 t179 k179 z179 vs179 cs179 _ _ _ _ _ _ _ _ _ _ _ _ _ h221 n0 O221 hE f236 f238 f237 f239 D179_0 D179_1 D179_2 hc184 hc204 hc224) hZ (Ka hw 87 rfl) (Ka hw 83 rfl) (by decide) (by decide)) (g := (mkF m 327 #[.val (.int p0), .val (.int p1), .val (.long p2), .second, .val (.int p4), .val (.int p5), .val (.int (p0 &&& (3 : Int32))), .val (.int (((p0.toUInt32 >>> ((2 : Int32) &&& 31).toUInt32).toInt32) &&& (3 : Int32))), .val (.int jnl), .val (.ref js), .val (.int jn), .val (.ref jb), .val (.ref b179), .val .null, .unset] [(.ref b179)])) rfl (by rw [hml]; rfl) (argsL := [(.ref b179)]) (rest := []) (lenOf Mc rfl) rfl (by show 2 * 0 + _ ≤ _; exact Nat.le_of_eq rfl) (hb hby at_327) (fun _ _ => ⟨rfl, hp240, (by decide : 15 + 1 ≤ _), (by decide : 152 + 3 ≤ _)⟩)
                      dsimp only [Pt.U, Pt.locs, Pt.cells, Pt.slots] at X241 l241 y241 z241 st241 hQ241
                      subst l241 y241 z241
                      obtain ⟨rfl, N241q, O241, Kc241⟩ := hQ241
                      have N241 := Fr.app N240 N241q
                      have CR242 := CR222.trans (CHr.keep Kc241 all0 CR222.1)
                      have K241 := K221.trans Kc241 (fun x hx => nomatch hx)
                      obtain ⟨cq243, kq243, q243a, q243b, q243c⟩ := isOf hZ rfl (Re.ext O241.2)
                      obtain ⟨_, _, ⟨T243, L243, k243, n243⟩, -, X243, ⟨Lc243, hQ243, l243, y243, z243⟩, st243⟩ := X241.virtualBack hx (y := Df) (z := Df) hown (mvT hZ (Ka hw 125 rfl)) (mvT hZ (Ka hw 126 rfl)) (notFace_of_selects (args := #[]) (mvT hZ (Ka hw 128 rfl))) (mvT hZ (Ka hw 128 rfl)) (mvT hZ (Ka hw 127 rfl)) (by decide) (backOf (W := 0) (U7 l Z a0 hw [] Bb _ _ _ _ _ _ _ _ _ _ _ _ _ T241.heap n0 O241 hE (Rc.ext O241.2) ) hZ (Ka hw 129 rfl) (Ka hw 110 rfl) (by decide) (by decide)) q243a q243c (g := (mkF m 331 #[.val (.int p0), .val (.int p1), .val (.long p2), .second, .val (.int p4), .val (.int p5), .val (.int (p0 &&& (3 : Int32))), .val (.int (((p0.toUInt32 >>> ((2 : Int32) &&& 31).toUInt32).toInt32) &&& (3 : Int32))), .val (.int jnl), .val (.ref js), .val (.int jn), .val (.ref jb), .val (.ref b179), .val .null, .unset] [.null, (.ref Bb)])) rfl (by rw [hml]; rfl) (Steps.refl _) (argsL := [.null]) (rest := []) (lenOf Kc rfl) rfl (by show 2 * 0 + _ ≤ _; exact Nat.le_of_eq rfl) (hb hby at_331) (fun _ _ => ⟨rfl, rfl, (by decide : 16 + 0 ≤ _), (by decide : 155 + 0 ≤ _)⟩)
                      dsimp only [Pt.U, Pt.locs, Pt.cells, Pt.slots] at X243 l243 y243 z243 st243 hQ243
                      subst l243 y243 z243
                      obtain ⟨rfl, N243q, hp243⟩ := hQ243
                      have N243 := Fr.app N241 N243q
                      have k244 : ∀ t, Db p e below m T243 351 #[.val (.int p0), .val (.int p1), .val (.long p2), .second, .val (.int p4), .val (.int p5), .val (.int (p0 &&& (3 : Int32))), .val (.int (((p0.toUInt32 >>> ((2 : Int32) &&& 31).toUInt32).toInt32) &&& (3 : Int32))), .val (.int jnl), .val (.ref js), .val (.int jn), .val (.ref jb), .val (.ref b179), .val .null, .val .null] [(.int 1)] t → Kb p e below m s₁ #[(.int p0), (.int p1), (.long p2), (.int p4), (.int p5)] maxLocals t := by
                        intro t k
                        refine k223 t ?_
                        refine st240.trans ?_
                        refine XS.ifYes X240.here hx rfl (pc0 := 311) (pc' := 322) rfl (hb hby at_311) rfl ((if0 _ _).trans (teq (by decide : (0 : Int32) = (0 : Int32))).1) (by decide) (by decide) ?_
                        refine XS.aconstNull X240.here hx rfl (hb hby at_322) ?_
                        refine XS.astore X240.here hx rfl (hb hby at_323) rfl rfl (l' := #[.val (.int p0), .val (.int p1), .val (.long p2), .second, .val (.int p4), .val (.int p5), .val (.int (p0 &&& (3 : Int32))), .val (.int (((p0.toUInt32 >>> ((2 : Int32) &&& 31).toUInt32).toInt32) &&& (3 : Int32))), .val (.int jnl), .val (.ref js), .val (.int jn), .val (.ref jb), .val (.ref b179), .val .null, .unset]) rfl ?_
                        refine XS.aload X240.here hx rfl (hb hby at_325) rfl rfl ?_
                        refine st241 _ ?_
                        refine XS.aconstNull X241.here hx rfl (hb hby at_330) ?_
                        refine st243.trans ?_
                        refine X243.checkcastNull hx (g := (mkF m 334 #[.val (.int p0), .val (.int p1), .val (.long p2), .second, .val (.int p4), .val (.int p5), .val (.int (p0 &&& (3 : Int32))), .val (.int (((p0.toUInt32 >>> ((2 : Int32) &&& 31).toUInt32).toInt32) &&& (3 : Int32))), .val (.int jnl), .val (.ref js), .val (.int jn), .val (.ref jb), .val (.ref b179), .val .null, .unset] [.null])) rfl rfl (hb hby at_334) _ ?_
                        refine XS.astore X243.here hx rfl (hb hby at_337) rfl rfl (l' := #[.val (.int p0), .val (.int p1), .val (.long p2), .second, .val (.int p4), .val (.int p5), .val (.int (p0 &&& (3 : Int32))), .val (.int (((p0.toUInt32 >>> ((2 : Int32) &&& 31).toUInt32).toInt32) &&& (3 : Int32))), .val (.int jnl), .val (.ref js), .val (.int jn), .val (.ref jb), .val (.ref b179), .val .null, .val .null]) rfl ?_
                        refine XS.aload X243.here hx rfl (hb hby at_339) rfl rfl ?_
                        refine XS.aload X243.here hx rfl (hb hby at_341) rfl rfl ?_
                        show Db p e below m T243 343 #[.val (.int p0), .val (.int p1), .val (.long p2), .second, .val (.int p4), .val (.int p5), .val (.int (p0 &&& (3 : Int32))), .val (.int (((p0.toUInt32 >>> ((2 : Int32) &&& 31).toUInt32).toInt32) &&& (3 : Int32))), .val (.int jnl), .val (.ref js), .val (.int jn), .val (.ref jb), .val (.ref b179), .val .null, .val .null] [.null, .null] t
                        refine Jvm.RoadKit.acmp (g := (mkF m 343 #[.val (.int p0), .val (.int p1), .val (.long p2), .second, .val (.int p4), .val (.int p5), .val (.int (p0 &&& (3 : Int32))), .val (.int (((p0.toUInt32 >>> ((2 : Int32) &&& 31).toUInt32).toInt32) &&& (3 : Int32))), .val (.int jnl), .val (.ref js), .val (.int jn), .val (.ref jb), .val (.ref b179), .val .null, .val .null] [.null, .null])) X243 hx rfl rfl rfl (pc0 := 343) (pc' := 346) (same := true) rfl (hb hby at_343) rfl (decide_eq_true rfl) (by decide) (by decide) ?_
                        refine XS.iconst X243.here hx rfl (hb hby at_346) ?_
                        refine XS.goto X243.here hx rfl (pc0 := 347) (pc' := 351) rfl (hb hby at_347) (by decide) (by decide) ?_
                        exact k
                      obtain ⟨fs, hr, hrun, hended, hRW⟩ := X243.leaveW hS (by rw [hp243]; exact (Nat.le_trans hk221 Kc241.1)) (v := some (.int 1)) (fun h => by rw [Bd.returns] at h; cases h)
                      refine hNG ⟨_, _, k244 _ ?_, hrun, hended, _, _, rfl, ?_, hRW.1, hRW.2.1, hRW.2.2.1, hRW.2.2.2.mono (by decide) (by decide)⟩
                      · exact retN X243 hx (t := .boolean) Bd.returns (by simp) (hb hby at_351) hr
                      · show Pk Z p0 p1 p2 p4 p5 Wa Va Ua Ra Ia Da Ha Ba Ga Aa Ma La Bb h0 n0 _ T243.heap _
                        rw [hp243]
                        exact ⟨rfl, N243⟩
              · obtain ⟨_, _, ⟨T245, L245, k245, n245⟩, -, X245, ⟨Lc245, hQ245, l245, y245, z245⟩, st245⟩ := Jvm.LawKit.callS X176 hx (y := Vg) hown (mvT hZ (Ka hw 85 rfl)) (mvT hZ (Ka hw 86 rfl)) (mvT hZ (Ka hw 83 rfl)) (mvT hZ (Ka hw 87 rfl)) (by decide) (backOf (W := 0) (G9 l Z a0 hw []  _ _ _ _ _ _ _ _ _ _ _ _ _ h176 n0 O176 hE  ) hZ (Ka hw 87 rfl) (Ka hw 83 rfl) (by decide) (by decide)) (g := (mkF m 327 #[.val (.int p0), .val (.int p1), .val (.long p2), .second, .val (.int p4), .val (.int p5), .val (.int (p0 &&& (3 : Int32))), .val (.int (((p0.toUInt32 >>> ((2 : Int32) &&& 31).toUInt32).toInt32) &&& (3 : Int32))), .val (.int jnl), .val (.ref js), .val (.int jn), .val (.ref jb), .val .null, .val .null, .unset] [.null])) rfl (by rw [hml]; rfl) (argsL := [.null]) (rest := []) (lenOf Mc rfl) rfl (by show 2 * 0 + _ ≤ _; exact Nat.le_of_eq rfl) (hb hby at_327) (fun _ _ => ⟨rfl, e176, (by decide : 3 + 1 ≤ _), (by decide : 48 + 3 ≤ _)⟩)
                dsimp only [Pt.U, Pt.locs, Pt.cells, Pt.slots] at X245 l245 y245 z245 st245 hQ245
                subst l245 y245 z245
                obtain ⟨rfl, N245q, O245, Kc245⟩ := hQ245
                have N245 := Fr.app N176 N245q
                have CR246 := CR176.trans (CHr.keep Kc245 all0 CR176.1)
                have K245 := K176.trans Kc245 (fun x hx => nomatch hx)
                obtain ⟨cq247, kq247, q247a, q247b, q247c⟩ := isOf hZ rfl (Re.ext O245.2)
                obtain ⟨_, _, ⟨T247, L247, k247, n247⟩, -, X247, ⟨Lc247, hQ247, l247, y247, z247⟩, st247⟩ := X245.virtualBack hx (y := Df) (z := Df) hown (mvT hZ (Ka hw 125 rfl)) (mvT hZ (Ka hw 126 rfl)) (notFace_of_selects (args := #[]) (mvT hZ (Ka hw 128 rfl))) (mvT hZ (Ka hw 128 rfl)) (mvT hZ (Ka hw 127 rfl)) (by decide) (backOf (W := 0) (U7 l Z a0 hw [] Bb _ _ _ _ _ _ _ _ _ _ _ _ _ T245.heap n0 O245 hE (Rc.ext O245.2) ) hZ (Ka hw 129 rfl) (Ka hw 110 rfl) (by decide) (by decide)) q247a q247c (g := (mkF m 331 #[.val (.int p0), .val (.int p1), .val (.long p2), .second, .val (.int p4), .val (.int p5), .val (.int (p0 &&& (3 : Int32))), .val (.int (((p0.toUInt32 >>> ((2 : Int32) &&& 31).toUInt32).toInt32) &&& (3 : Int32))), .val (.int jnl), .val (.ref js), .val (.int jn), .val (.ref jb), .val .null, .val .null, .unset] [.null, (.ref Bb)])) rfl (by rw [hml]; rfl) (Steps.refl _) (argsL := [.null]) (rest := []) (lenOf Kc rfl) rfl (by show 2 * 0 + _ ≤ _; exact Nat.le_of_eq rfl) (hb hby at_331) (fun _ _ => ⟨rfl, rfl, (by decide : 4 + 0 ≤ _), (by decide : 51 + 0 ≤ _)⟩)
                dsimp only [Pt.U, Pt.locs, Pt.cells, Pt.slots] at X247 l247 y247 z247 st247 hQ247
                subst l247 y247 z247
                obtain ⟨rfl, N247q, hp247⟩ := hQ247
                have N247 := Fr.app N245 N247q
                have k248 : ∀ t, Db p e below m T247 351 #[.val (.int p0), .val (.int p1), .val (.long p2), .second, .val (.int p4), .val (.int p5), .val (.int (p0 &&& (3 : Int32))), .val (.int (((p0.toUInt32 >>> ((2 : Int32) &&& 31).toUInt32).toInt32) &&& (3 : Int32))), .val (.int jnl), .val (.ref js), .val (.int jn), .val (.ref jb), .val .null, .val .null, .val .null] [(.int 1)] t → Kb p e below m s₁ #[(.int p0), (.int p1), (.long p2), (.int p4), (.int p5)] maxLocals t := by
                  intro t k
                  refine k177 t ?_
                  refine XS.ifNo X176.here hx rfl (hb hby at_241) rfl ((if0 _ _).trans (feq hc178).1) ?_
                  refine XS.aconstNull X176.here hx rfl (hb hby at_244) ?_
                  refine XS.goto X176.here hx rfl (pc0 := 245) (pc' := 255) rfl (hb hby at_245) (by decide) (by decide) ?_
                  refine XS.astore X176.here hx rfl (hb hby at_255) rfl rfl (l' := #[.val (.int p0), .val (.int p1), .val (.long p2), .second, .val (.int p4), .val (.int p5), .val (.int (p0 &&& (3 : Int32))), .val (.int (((p0.toUInt32 >>> ((2 : Int32) &&& 31).toUInt32).toInt32) &&& (3 : Int32))), .val (.int jnl), .val (.ref js), .val (.int jn), .val (.ref jb), .val .null, .unset, .unset]) rfl ?_
                  refine XS.aload X176.here hx rfl (hb hby at_257) rfl rfl ?_
                  refine XS.ifnonnullNo X176.here hx rfl (hb hby at_259) rfl ?_
                  refine XS.aconstNull X176.here hx rfl (hb hby at_262) ?_
                  refine XS.astore X176.here hx rfl (hb hby at_263) rfl rfl (l' := #[.val (.int p0), .val (.int p1), .val (.long p2), .second, .val (.int p4), .val (.int p5), .val (.int (p0 &&& (3 : Int32))), .val (.int (((p0.toUInt32 >>> ((2 : Int32) &&& 31).toUInt32).toInt32) &&& (3 : Int32))), .val (.int jnl), .val (.ref js), .val (.int jn), .val (.ref jb), .val .null, .val .null, .unset]) rfl ?_
                  refine XS.goto X176.here hx rfl (pc0 := 265) (pc' := 325) rfl (hb hby at_265) (by decide) (by decide) ?_
                  refine XS.aload X176.here hx rfl (hb hby at_325) rfl rfl ?_
                  refine st245 _ ?_
                  refine XS.aconstNull X245.here hx rfl (hb hby at_330) ?_
                  show Db p e below m T245 331 #[.val (.int p0), .val (.int p1), .val (.long p2), .second, .val (.int p4), .val (.int p5), .val (.int (p0 &&& (3 : Int32))), .val (.int (((p0.toUInt32 >>> ((2 : Int32) &&& 31).toUInt32).toInt32) &&& (3 : Int32))), .val (.int jnl), .val (.ref js), .val (.int jn), .val (.ref jb), .val .null, .val .null, .unset] [.null, (.ref Bb)] t
                  refine st247.trans ?_
                  refine X247.checkcastNull hx (g := (mkF m 334 #[.val (.int p0), .val (.int p1), .val (.long p2), .second, .val (.int p4), .val (.int p5), .val (.int (p0 &&& (3 : Int32))), .val (.int (((p0.toUInt32 >>> ((2 : Int32) &&& 31).toUInt32).toInt32) &&& (3 : Int32))), .val (.int jnl), .val (.ref js), .val (.int jn), .val (.ref jb), .val .null, .val .null, .unset] [.null])) rfl rfl (hb hby at_334) _ ?_
                  refine XS.astore X247.here hx rfl (hb hby at_337) rfl rfl (l' := #[.val (.int p0), .val (.int p1), .val (.long p2), .second, .val (.int p4), .val (.int p5), .val (.int (p0 &&& (3 : Int32))), .val (.int (((p0.toUInt32 >>> ((2 : Int32) &&& 31).toUInt32).toInt32) &&& (3 : Int32))), .val (.int jnl), .val (.ref js), .val (.int jn), .val (.ref jb), .val .null, .val .null, .val .null]) rfl ?_
                  refine XS.aload X247.here hx rfl (hb hby at_339) rfl rfl ?_
                  refine XS.aload X247.here hx rfl (hb hby at_341) rfl rfl ?_
                  refine Jvm.RoadKit.acmp (g := (mkF m 343 #[.val (.int p0), .val (.int p1), .val (.long p2), .second, .val (.int p4), .val (.int p5), .val (.int (p0 &&& (3 : Int32))), .val (.int (((p0.toUInt32 >>> ((2 : Int32) &&& 31).toUInt32).toInt32) &&& (3 : Int32))), .val (.int jnl), .val (.ref js), .val (.int jn), .val (.ref jb), .val .null, .val .null, .val .null] [.null, .null])) X247 hx rfl rfl rfl (pc0 := 343) (pc' := 346) (same := true) rfl (hb hby at_343) rfl (decide_eq_true rfl) (by decide) (by decide) ?_
                  refine XS.iconst X247.here hx rfl (hb hby at_346) ?_
                  refine XS.goto X247.here hx rfl (pc0 := 347) (pc' := 351) rfl (hb hby at_347) (by decide) (by decide) ?_
                  exact k
                obtain ⟨fs, hr, hrun, hended, hRW⟩ := X247.leaveW hS (by rw [hp247]; exact (Nat.le_trans hk176 Kc245.1)) (v := some (.int 1)) (fun h => by rw [Bd.returns] at h; cases h)
                refine hNG ⟨_, _, k248 _ ?_, hrun, hended, _, _, rfl, ?_, hRW.1, hRW.2.1, hRW.2.2.1, hRW.2.2.2.mono (by decide) (by decide)⟩
                · exact retN X247 hx (t := .boolean) Bd.returns (by simp) (hb hby at_351) hr
                · show Pk Z p0 p1 p2 p4 p5 Wa Va Ua Ra Ia Da Ha Ba Ga Aa Ma La Bb h0 n0 _ T247.heap _
                  rw [hp247]
                  exact ⟨rfl, N247⟩
            rcases Hba hn10 hc174 with hs249 | hs249 | hs249 | hs249 | hs249 | hs249 | hs249 | hs249
            · have k250 : ∀ t, Db p e below m T94 227 #[.val (.int p0), .val (.int p1), .val (.long p2), .second, .val (.int p4), .val (.int p5), .val (.int (p0 &&& (3 : Int32))), .val (.int (((p0.toUInt32 >>> ((2 : Int32) &&& 31).toUInt32).toInt32) &&& (3 : Int32))), .val (.int jnl), .val (.ref js), .val (.int jn1), .val (.ref b14), .val (.int 0), .unset, .unset] [] t → Kb p e below m s₁ #[(.int p0), (.int p1), (.long p2), (.int p4), (.int p5)] maxLocals t := by
                intro t k
                refine k175 t ?_
                rw [hs249]
                exact k
              obtain ⟨cl251, Ar251, q251, Sz251, Nn251, Hs251, Gf251⟩ := id V94
              have hin252 : ¬ ((0 : Int32) < 0 ∨ cl251.slots.size ≤ ((0 : Int32)).toNatClampNeg) := inb_of Sz251 ⟨by decide, by decide⟩
              obtain ⟨T253, h253, X253, e253, W253, st253⟩ := stC X94 hx hZ e94 Ar251 (j := (0 : Int32)) hin252 (g := (mkF m 238 #[.val (.int p0), .val (.int p1), .val (.long p2), .second, .val (.int p4), .val (.int p5), .val (.int (p0 &&& (3 : Int32))), .val (.int (((p0.toUInt32 >>> ((2 : Int32) &&& 31).toUInt32).toInt32) &&& (3 : Int32))), .val (.int jnl), .val (.ref js), .val (.int jn1), .val (.ref b14), .val (.int 0), .unset, .unset] [(.int ((p5 &&& (255 : Int32)).toUInt32.toUInt16.toUInt32.toInt32)), (.int 0), (.ref b14)])) rfl rfl (hb hby at_238)
              have V253 : Arv Z h253 b14 c14 .char (8 : Int32) [(.int ((p5 &&& (255 : Int32)).toUInt32.toUInt16.toUInt32.toInt32)), (.int r31), (.int r41), (.int r51), (.int r61), (.int r71), (.int r81), (.int r91)] (.int 0) := by
                have q := Arv.set Ar251 q251 Sz251 Nn251 Hs251 Gf251 (fits_nar_char _) W253 0 rfl (Nat.le_of_ble_eq_true rfl)
                first | exact q | (simp only [Hj] at q; exact q)
              have sf255 := (Safe.wr W94 sf96 CR85.1 sf96)
              have CR254 := CR95.trans (CHr.wr W253 sf255 CR95.1)
              have N253 := Fr.snoc X253 N94 g_b14
              have O253 := O94.wr W253 g_b14
              have K253 := K94.wr W253 (Or.inr s_b14)
              have k256 : ∀ t, Db p e below m T253 239 #[.val (.int p0), .val (.int p1), .val (.long p2), .second, .val (.int p4), .val (.int p5), .val (.int (p0 &&& (3 : Int32))), .val (.int (((p0.toUInt32 >>> ((2 : Int32) &&& 31).toUInt32).toInt32) &&& (3 : Int32))), .val (.int jnl), .val (.ref js), .val (.int jn1), .val (.ref b14), .val (.int 0), .unset, .unset] [] t → Kb p e below m s₁ #[(.int p0), (.int p1), (.long p2), (.int p4), (.int p5)] maxLocals t := by
                intro t k
                refine k250 t ?_
                refine XS.aload X94.here hx rfl (hb hby at_227) rfl rfl ?_
                refine XS.iload X94.here hx rfl (hb hby at_229) rfl ?_
                refine XS.iload X94.here hx rfl (hb hby at_231) rfl ?_
                refine XS.sipush X94.here hx rfl (hb hby at_233) ?_
                refine XS.iand X94.here hx rfl (hb hby at_236) rfl ?_
                refine XS.i2c X94.here hx rfl (hb hby at_237) rfl ?_
                refine st253 _ ?_
                exact k
              have sf257 := (Safe.wr W253 sf255 CR95.1 sf255)
              exact J176 vm13 _ _ _ h253 b14 c14 jn1 ((p5 &&& (255 : Int32)).toUInt32.toUInt16.toUInt32.toInt32) r31 r41 r51 r61 r71 r81 r91 (0 : Int32) hS (Nat.le_trans (Nat.le_trans (Nat.le_trans (Nat.le_trans (Nat.le_trans (Nat.le_trans (Nat.le_trans (Nat.le_trans (Nat.le_trans (Nat.le_trans hk13 E14.1) (Keep.of_wr W23).1) (Keep.of_wr W34).1) (Keep.of_wr W44).1) (Keep.of_wr W54).1) (Keep.of_wr W64).1) (Keep.of_wr W74).1) (Keep.of_wr W84).1) (Keep.of_wr W94).1) (Keep.of_wr W253).1) hZ hown CR254 (X253.more (by decide) (by decide)) e253 N253 O253 K253 V253 g_b14 s_b14 sf257 hn10 (Di p5) B31 B41 B51 B61 B71 B81 B91 k256
            · have k258 : ∀ t, Db p e below m T94 227 #[.val (.int p0), .val (.int p1), .val (.long p2), .second, .val (.int p4), .val (.int p5), .val (.int (p0 &&& (3 : Int32))), .val (.int (((p0.toUInt32 >>> ((2 : Int32) &&& 31).toUInt32).toInt32) &&& (3 : Int32))), .val (.int jnl), .val (.ref js), .val (.int jn1), .val (.ref b14), .val (.int 1), .unset, .unset] [] t → Kb p e below m s₁ #[(.int p0), (.int p1), (.long p2), (.int p4), (.int p5)] maxLocals t := by
                intro t k
                refine k175 t ?_
                rw [hs249]
                exact k
              obtain ⟨cl259, Ar259, q259, Sz259, Nn259, Hs259, Gf259⟩ := id V94
              have hin260 : ¬ ((1 : Int32) < 0 ∨ cl259.slots.size ≤ ((1 : Int32)).toNatClampNeg) := inb_of Sz259 ⟨by decide, by decide⟩
              obtain ⟨T261, h261, X261, e261, W261, st261⟩ := stC X94 hx hZ e94 Ar259 (j := (1 : Int32)) hin260 (g := (mkF m 238 #[.val (.int p0), .val (.int p1), .val (.long p2), .second, .val (.int p4), .val (.int p5), .val (.int (p0 &&& (3 : Int32))), .val (.int (((p0.toUInt32 >>> ((2 : Int32) &&& 31).toUInt32).toInt32) &&& (3 : Int32))), .val (.int jnl), .val (.ref js), .val (.int jn1), .val (.ref b14), .val (.int 1), .unset, .unset] [(.int ((p5 &&& (255 : Int32)).toUInt32.toUInt16.toUInt32.toInt32)), (.int 1), (.ref b14)])) rfl rfl (hb hby at_238)
              have V261 : Arv Z h261 b14 c14 .char (8 : Int32) [(.int r20), (.int ((p5 &&& (255 : Int32)).toUInt32.toUInt16.toUInt32.toInt32)), (.int r41), (.int r51), (.int r61), (.int r71), (.int r81), (.int r91)] (.int 0) := by
                have q := Arv.set Ar259 q259 Sz259 Nn259 Hs259 Gf259 (fits_nar_char _) W261 1 rfl (Nat.le_of_ble_eq_true rfl)
                first | exact q | (simp only [Hj] at q; exact q)
              have sf263 := (Safe.wr W94 sf96 CR85.1 sf96)
              have CR262 := CR95.trans (CHr.wr W261 sf263 CR95.1)
              have N261 := Fr.snoc X261 N94 g_b14
              have O261 := O94.wr W261 g_b14
              have K261 := K94.wr W261 (Or.inr s_b14)
              have k264 : ∀ t, Db p e below m T261 239 #[.val (.int p0), .val (.int p1), .val (.long p2), .second, .val (.int p4), .val (.int p5), .val (.int (p0 &&& (3 : Int32))), .val (.int (((p0.toUInt32 >>> ((2 : Int32) &&& 31).toUInt32).toInt32) &&& (3 : Int32))), .val (.int jnl), .val (.ref js), .val (.int jn1), .val (.ref b14), .val (.int 1), .unset, .unset] [] t → Kb p e below m s₁ #[(.int p0), (.int p1), (.long p2), (.int p4), (.int p5)] maxLocals t := by
                intro t k
                refine k258 t ?_
                refine XS.aload X94.here hx rfl (hb hby at_227) rfl rfl ?_
                refine XS.iload X94.here hx rfl (hb hby at_229) rfl ?_
                refine XS.iload X94.here hx rfl (hb hby at_231) rfl ?_
                refine XS.sipush X94.here hx rfl (hb hby at_233) ?_
                refine XS.iand X94.here hx rfl (hb hby at_236) rfl ?_
                refine XS.i2c X94.here hx rfl (hb hby at_237) rfl ?_
                refine st261 _ ?_
                exact k
              have sf265 := (Safe.wr W261 sf263 CR95.1 sf263)
              exact J176 vm13 _ _ _ h261 b14 c14 jn1 r20 ((p5 &&& (255 : Int32)).toUInt32.toUInt16.toUInt32.toInt32) r41 r51 r61 r71 r81 r91 (1 : Int32) hS (Nat.le_trans (Nat.le_trans (Nat.le_trans (Nat.le_trans (Nat.le_trans (Nat.le_trans (Nat.le_trans (Nat.le_trans (Nat.le_trans (Nat.le_trans hk13 E14.1) (Keep.of_wr W23).1) (Keep.of_wr W34).1) (Keep.of_wr W44).1) (Keep.of_wr W54).1) (Keep.of_wr W64).1) (Keep.of_wr W74).1) (Keep.of_wr W84).1) (Keep.of_wr W94).1) (Keep.of_wr W261).1) hZ hown CR262 (X261.more (by decide) (by decide)) e261 N261 O261 K261 V261 g_b14 s_b14 sf265 hn10 B20 (Di p5) B41 B51 B61 B71 B81 B91 k264
            · have k266 : ∀ t, Db p e below m T94 227 #[.val (.int p0), .val (.int p1), .val (.long p2), .second, .val (.int p4), .val (.int p5), .val (.int (p0 &&& (3 : Int32))), .val (.int (((p0.toUInt32 >>> ((2 : Int32) &&& 31).toUInt32).toInt32) &&& (3 : Int32))), .val (.int jnl), .val (.ref js), .val (.int jn1), .val (.ref b14), .val (.int 2), .unset, .unset] [] t → Kb p e below m s₁ #[(.int p0), (.int p1), (.long p2), (.int p4), (.int p5)] maxLocals t := by
                intro t k
                refine k175 t ?_
                rw [hs249]
                exact k
              obtain ⟨cl267, Ar267, q267, Sz267, Nn267, Hs267, Gf267⟩ := id V94
              have hin268 : ¬ ((2 : Int32) < 0 ∨ cl267.slots.size ≤ ((2 : Int32)).toNatClampNeg) := inb_of Sz267 ⟨by decide, by decide⟩
              obtain ⟨T269, h269, X269, e269, W269, st269⟩ := stC X94 hx hZ e94 Ar267 (j := (2 : Int32)) hin268 (g := (mkF m 238 #[.val (.int p0), .val (.int p1), .val (.long p2), .second, .val (.int p4), .val (.int p5), .val (.int (p0 &&& (3 : Int32))), .val (.int (((p0.toUInt32 >>> ((2 : Int32) &&& 31).toUInt32).toInt32) &&& (3 : Int32))), .val (.int jnl), .val (.ref js), .val (.int jn1), .val (.ref b14), .val (.int 2), .unset, .unset] [(.int ((p5 &&& (255 : Int32)).toUInt32.toUInt16.toUInt32.toInt32)), (.int 2), (.ref b14)])) rfl rfl (hb hby at_238)
              have V269 : Arv Z h269 b14 c14 .char (8 : Int32) [(.int r20), (.int r31), (.int ((p5 &&& (255 : Int32)).toUInt32.toUInt16.toUInt32.toInt32)), (.int r51), (.int r61), (.int r71), (.int r81), (.int r91)] (.int 0) := by
                have q := Arv.set Ar267 q267 Sz267 Nn267 Hs267 Gf267 (fits_nar_char _) W269 2 rfl (Nat.le_of_ble_eq_true rfl)
                first | exact q | (simp only [Hj] at q; exact q)
              have sf271 := (Safe.wr W94 sf96 CR85.1 sf96)
              have CR270 := CR95.trans (CHr.wr W269 sf271 CR95.1)
              have N269 := Fr.snoc X269 N94 g_b14
              have O269 := O94.wr W269 g_b14
              have K269 := K94.wr W269 (Or.inr s_b14)
              have k272 : ∀ t, Db p e below m T269 239 #[.val (.int p0), .val (.int p1), .val (.long p2), .second, .val (.int p4), .val (.int p5), .val (.int (p0 &&& (3 : Int32))), .val (.int (((p0.toUInt32 >>> ((2 : Int32) &&& 31).toUInt32).toInt32) &&& (3 : Int32))), .val (.int jnl), .val (.ref js), .val (.int jn1), .val (.ref b14), .val (.int 2), .unset, .unset] [] t → Kb p e below m s₁ #[(.int p0), (.int p1), (.long p2), (.int p4), (.int p5)] maxLocals t := by
                intro t k
                refine k266 t ?_
                refine XS.aload X94.here hx rfl (hb hby at_227) rfl rfl ?_
                refine XS.iload X94.here hx rfl (hb hby at_229) rfl ?_
                refine XS.iload X94.here hx rfl (hb hby at_231) rfl ?_
                refine XS.sipush X94.here hx rfl (hb hby at_233) ?_
                refine XS.iand X94.here hx rfl (hb hby at_236) rfl ?_
                refine XS.i2c X94.here hx rfl (hb hby at_237) rfl ?_
                refine st269 _ ?_
                exact k
              have sf273 := (Safe.wr W269 sf271 CR95.1 sf271)
              exact J176 vm13 _ _ _ h269 b14 c14 jn1 r20 r31 ((p5 &&& (255 : Int32)).toUInt32.toUInt16.toUInt32.toInt32) r51 r61 r71 r81 r91 (2 : Int32) hS (Nat.le_trans (Nat.le_trans (Nat.le_trans (Nat.le_trans (Nat.le_trans (Nat.le_trans (Nat.le_trans (Nat.le_trans (Nat.le_trans (Nat.le_trans hk13 E14.1) (Keep.of_wr W23).1) (Keep.of_wr W34).1) (Keep.of_wr W44).1) (Keep.of_wr W54).1) (Keep.of_wr W64).1) (Keep.of_wr W74).1) (Keep.of_wr W84).1) (Keep.of_wr W94).1) (Keep.of_wr W269).1) hZ hown CR270 (X269.more (by decide) (by decide)) e269 N269 O269 K269 V269 g_b14 s_b14 sf273 hn10 B20 B31 (Di p5) B51 B61 B71 B81 B91 k272
            · have k274 : ∀ t, Db p e below m T94 227 #[.val (.int p0), .val (.int p1), .val (.long p2), .second, .val (.int p4), .val (.int p5), .val (.int (p0 &&& (3 : Int32))), .val (.int (((p0.toUInt32 >>> ((2 : Int32) &&& 31).toUInt32).toInt32) &&& (3 : Int32))), .val (.int jnl), .val (.ref js), .val (.int jn1), .val (.ref b14), .val (.int 3), .unset, .unset] [] t → Kb p e below m s₁ #[(.int p0), (.int p1), (.long p2), (.int p4), (.int p5)] maxLocals t := by
                intro t k
                refine k175 t ?_
                rw [hs249]
                exact k
              obtain ⟨cl275, Ar275, q275, Sz275, Nn275, Hs275, Gf275⟩ := id V94
              have hin276 : ¬ ((3 : Int32) < 0 ∨ cl275.slots.size ≤ ((3 : Int32)).toNatClampNeg) := inb_of Sz275 ⟨by decide, by decide⟩
              obtain ⟨T277, h277, X277, e277, W277, st277⟩ := stC X94 hx hZ e94 Ar275 (j := (3 : Int32)) hin276 (g := (mkF m 238 #[.val (.int p0), .val (.int p1), .val (.long p2), .second, .val (.int p4), .val (.int p5), .val (.int (p0 &&& (3 : Int32))), .val (.int (((p0.toUInt32 >>> ((2 : Int32) &&& 31).toUInt32).toInt32) &&& (3 : Int32))), .val (.int jnl), .val (.ref js), .val (.int jn1), .val (.ref b14), .val (.int 3), .unset, .unset] [(.int ((p5 &&& (255 : Int32)).toUInt32.toUInt16.toUInt32.toInt32)), (.int 3), (.ref b14)])) rfl rfl (hb hby at_238)
              have V277 : Arv Z h277 b14 c14 .char (8 : Int32) [(.int r20), (.int r31), (.int r41), (.int ((p5 &&& (255 : Int32)).toUInt32.toUInt16.toUInt32.toInt32)), (.int r61), (.int r71), (.int r81), (.int r91)] (.int 0) := by
                have q := Arv.set Ar275 q275 Sz275 Nn275 Hs275 Gf275 (fits_nar_char _) W277 3 rfl (Nat.le_of_ble_eq_true rfl)
                first | exact q | (simp only [Hj] at q; exact q)
              have sf279 := (Safe.wr W94 sf96 CR85.1 sf96)
              have CR278 := CR95.trans (CHr.wr W277 sf279 CR95.1)
              have N277 := Fr.snoc X277 N94 g_b14
              have O277 := O94.wr W277 g_b14
              have K277 := K94.wr W277 (Or.inr s_b14)
              have k280 : ∀ t, Db p e below m T277 239 #[.val (.int p0), .val (.int p1), .val (.long p2), .second, .val (.int p4), .val (.int p5), .val (.int (p0 &&& (3 : Int32))), .val (.int (((p0.toUInt32 >>> ((2 : Int32) &&& 31).toUInt32).toInt32) &&& (3 : Int32))), .val (.int jnl), .val (.ref js), .val (.int jn1), .val (.ref b14), .val (.int 3), .unset, .unset] [] t → Kb p e below m s₁ #[(.int p0), (.int p1), (.long p2), (.int p4), (.int p5)] maxLocals t := by
                intro t k
                refine k274 t ?_
                refine XS.aload X94.here hx rfl (hb hby at_227) rfl rfl ?_
                refine XS.iload X94.here hx rfl (hb hby at_229) rfl ?_
                refine XS.iload X94.here hx rfl (hb hby at_231) rfl ?_
                refine XS.sipush X94.here hx rfl (hb hby at_233) ?_
                refine XS.iand X94.here hx rfl (hb hby at_236) rfl ?_
                refine XS.i2c X94.here hx rfl (hb hby at_237) rfl ?_
                refine st277 _ ?_
                exact k
              have sf281 := (Safe.wr W277 sf279 CR95.1 sf279)
              exact J176 vm13 _ _ _ h277 b14 c14 jn1 r20 r31 r41 ((p5 &&& (255 : Int32)).toUInt32.toUInt16.toUInt32.toInt32) r61 r71 r81 r91 (3 : Int32) hS (Nat.le_trans (Nat.le_trans (Nat.le_trans (Nat.le_trans (Nat.le_trans (Nat.le_trans (Nat.le_trans (Nat.le_trans (Nat.le_trans (Nat.le_trans hk13 E14.1) (Keep.of_wr W23).1) (Keep.of_wr W34).1) (Keep.of_wr W44).1) (Keep.of_wr W54).1) (Keep.of_wr W64).1) (Keep.of_wr W74).1) (Keep.of_wr W84).1) (Keep.of_wr W94).1) (Keep.of_wr W277).1) hZ hown CR278 (X277.more (by decide) (by decide)) e277 N277 O277 K277 V277 g_b14 s_b14 sf281 hn10 B20 B31 B41 (Di p5) B61 B71 B81 B91 k280
            · have k282 : ∀ t, Db p e below m T94 227 #[.val (.int p0), .val (.int p1), .val (.long p2), .second, .val (.int p4), .val (.int p5), .val (.int (p0 &&& (3 : Int32))), .val (.int (((p0.toUInt32 >>> ((2 : Int32) &&& 31).toUInt32).toInt32) &&& (3 : Int32))), .val (.int jnl), .val (.ref js), .val (.int jn1), .val (.ref b14), .val (.int 4), .unset, .unset] [] t → Kb p e below m s₁ #[(.int p0), (.int p1), (.long p2), (.int p4), (.int p5)] maxLocals t := by
                intro t k
                refine k175 t ?_
                rw [hs249]
                exact k
              obtain ⟨cl283, Ar283, q283, Sz283, Nn283, Hs283, Gf283⟩ := id V94
              have hin284 : ¬ ((4 : Int32) < 0 ∨ cl283.slots.size ≤ ((4 : Int32)).toNatClampNeg) := inb_of Sz283 ⟨by decide, by decide⟩
              obtain ⟨T285, h285, X285, e285, W285, st285⟩ := stC X94 hx hZ e94 Ar283 (j := (4 : Int32)) hin284 (g := (mkF m 238 #[.val (.int p0), .val (.int p1), .val (.long p2), .second, .val (.int p4), .val (.int p5), .val (.int (p0 &&& (3 : Int32))), .val (.int (((p0.toUInt32 >>> ((2 : Int32) &&& 31).toUInt32).toInt32) &&& (3 : Int32))), .val (.int jnl), .val (.ref js), .val (.int jn1), .val (.ref b14), .val (.int 4), .unset, .unset] [(.int ((p5 &&& (255 : Int32)).toUInt32.toUInt16.toUInt32.toInt32)), (.int 4), (.ref b14)])) rfl rfl (hb hby at_238)
              have V285 : Arv Z h285 b14 c14 .char (8 : Int32) [(.int r20), (.int r31), (.int r41), (.int r51), (.int ((p5 &&& (255 : Int32)).toUInt32.toUInt16.toUInt32.toInt32)), (.int r71), (.int r81), (.int r91)] (.int 0) := by
                have q := Arv.set Ar283 q283 Sz283 Nn283 Hs283 Gf283 (fits_nar_char _) W285 4 rfl (Nat.le_of_ble_eq_true rfl)
                first | exact q | (simp only [Hj] at q; exact q)
              have sf287 := (Safe.wr W94 sf96 CR85.1 sf96)
              have CR286 := CR95.trans (CHr.wr W285 sf287 CR95.1)
              have N285 := Fr.snoc X285 N94 g_b14
              have O285 := O94.wr W285 g_b14
              have K285 := K94.wr W285 (Or.inr s_b14)
              have k288 : ∀ t, Db p e below m T285 239 #[.val (.int p0), .val (.int p1), .val (.long p2), .second, .val (.int p4), .val (.int p5), .val (.int (p0 &&& (3 : Int32))), .val (.int (((p0.toUInt32 >>> ((2 : Int32) &&& 31).toUInt32).toInt32) &&& (3 : Int32))), .val (.int jnl), .val (.ref js), .val (.int jn1), .val (.ref b14), .val (.int 4), .unset, .unset] [] t → Kb p e below m s₁ #[(.int p0), (.int p1), (.long p2), (.int p4), (.int p5)] maxLocals t := by
                intro t k
                refine k282 t ?_
                refine XS.aload X94.here hx rfl (hb hby at_227) rfl rfl ?_
                refine XS.iload X94.here hx rfl (hb hby at_229) rfl ?_
                refine XS.iload X94.here hx rfl (hb hby at_231) rfl ?_
                refine XS.sipush X94.here hx rfl (hb hby at_233) ?_
                refine XS.iand X94.here hx rfl (hb hby at_236) rfl ?_
                refine XS.i2c X94.here hx rfl (hb hby at_237) rfl ?_
                refine st285 _ ?_
                exact k
              have sf289 := (Safe.wr W285 sf287 CR95.1 sf287)
              exact J176 vm13 _ _ _ h285 b14 c14 jn1 r20 r31 r41 r51 ((p5 &&& (255 : Int32)).toUInt32.toUInt16.toUInt32.toInt32) r71 r81 r91 (4 : Int32) hS (Nat.le_trans (Nat.le_trans (Nat.le_trans (Nat.le_trans (Nat.le_trans (Nat.le_trans (Nat.le_trans (Nat.le_trans (Nat.le_trans (Nat.le_trans hk13 E14.1) (Keep.of_wr W23).1) (Keep.of_wr W34).1) (Keep.of_wr W44).1) (Keep.of_wr W54).1) (Keep.of_wr W64).1) (Keep.of_wr W74).1) (Keep.of_wr W84).1) (Keep.of_wr W94).1) (Keep.of_wr W285).1) hZ hown CR286 (X285.more (by decide) (by decide)) e285 N285 O285 K285 V285 g_b14 s_b14 sf289 hn10 B20 B31 B41 B51 (Di p5) B71 B81 B91 k288
            · have k290 : ∀ t, Db p e below m T94 227 #[.val (.int p0), .val (.int p1), .val (.long p2), .second, .val (.int p4), .val (.int p5), .val (.int (p0 &&& (3 : Int32))), .val (.int (((p0.toUInt32 >>> ((2 : Int32) &&& 31).toUInt32).toInt32) &&& (3 : Int32))), .val (.int jnl), .val (.ref js), .val (.int jn1), .val (.ref b14), .val (.int 5), .unset, .unset] [] t → Kb p e below m s₁ #[(.int p0), (.int p1), (.long p2), (.int p4), (.int p5)] maxLocals t := by
                intro t k
                refine k175 t ?_
                rw [hs249]
                exact k
              obtain ⟨cl291, Ar291, q291, Sz291, Nn291, Hs291, Gf291⟩ := id V94
              have hin292 : ¬ ((5 : Int32) < 0 ∨ cl291.slots.size ≤ ((5 : Int32)).toNatClampNeg) := inb_of Sz291 ⟨by decide, by decide⟩
              obtain ⟨T293, h293, X293, e293, W293, st293⟩ := stC X94 hx hZ e94 Ar291 (j := (5 : Int32)) hin292 (g := (mkF m 238 #[.val (.int p0), .val (.int p1), .val (.long p2), .second, .val (.int p4), .val (.int p5), .val (.int (p0 &&& (3 : Int32))), .val (.int (((p0.toUInt32 >>> ((2 : Int32) &&& 31).toUInt32).toInt32) &&& (3 : Int32))), .val (.int jnl), .val (.ref js), .val (.int jn1), .val (.ref b14), .val (.int 5), .unset, .unset] [(.int ((p5 &&& (255 : Int32)).toUInt32.toUInt16.toUInt32.toInt32)), (.int 5), (.ref b14)])) rfl rfl (hb hby at_238)
              have V293 : Arv Z h293 b14 c14 .char (8 : Int32) [(.int r20), (.int r31), (.int r41), (.int r51), (.int r61), (.int ((p5 &&& (255 : Int32)).toUInt32.toUInt16.toUInt32.toInt32)), (.int r81), (.int r91)] (.int 0) := by
                have q := Arv.set Ar291 q291 Sz291 Nn291 Hs291 Gf291 (fits_nar_char _) W293 5 rfl (Nat.le_of_ble_eq_true rfl)
                first | exact q | (simp only [Hj] at q; exact q)
              have sf295 := (Safe.wr W94 sf96 CR85.1 sf96)
              have CR294 := CR95.trans (CHr.wr W293 sf295 CR95.1)
              have N293 := Fr.snoc X293 N94 g_b14
              have O293 := O94.wr W293 g_b14
              have K293 := K94.wr W293 (Or.inr s_b14)
              have k296 : ∀ t, Db p e below m T293 239 #[.val (.int p0), .val (.int p1), .val (.long p2), .second, .val (.int p4), .val (.int p5), .val (.int (p0 &&& (3 : Int32))), .val (.int (((p0.toUInt32 >>> ((2 : Int32) &&& 31).toUInt32).toInt32) &&& (3 : Int32))), .val (.int jnl), .val (.ref js), .val (.int jn1), .val (.ref b14), .val (.int 5), .unset, .unset] [] t → Kb p e below m s₁ #[(.int p0), (.int p1), (.long p2), (.int p4), (.int p5)] maxLocals t := by
                intro t k
                refine k290 t ?_
                refine XS.aload X94.here hx rfl (hb hby at_227) rfl rfl ?_
                refine XS.iload X94.here hx rfl (hb hby at_229) rfl ?_
                refine XS.iload X94.here hx rfl (hb hby at_231) rfl ?_
                refine XS.sipush X94.here hx rfl (hb hby at_233) ?_
                refine XS.iand X94.here hx rfl (hb hby at_236) rfl ?_
                refine XS.i2c X94.here hx rfl (hb hby at_237) rfl ?_
                refine st293 _ ?_
                exact k
              have sf297 := (Safe.wr W293 sf295 CR95.1 sf295)
              exact J176 vm13 _ _ _ h293 b14 c14 jn1 r20 r31 r41 r51 r61 ((p5 &&& (255 : Int32)).toUInt32.toUInt16.toUInt32.toInt32) r81 r91 (5 : Int32) hS (Nat.le_trans (Nat.le_trans (Nat.le_trans (Nat.le_trans (Nat.le_trans (Nat.le_trans (Nat.le_trans (Nat.le_trans (Nat.le_trans (Nat.le_trans hk13 E14.1) (Keep.of_wr W23).1) (Keep.of_wr W34).1) (Keep.of_wr W44).1) (Keep.of_wr W54).1) (Keep.of_wr W64).1) (Keep.of_wr W74).1) (Keep.of_wr W84).1) (Keep.of_wr W94).1) (Keep.of_wr W293).1) hZ hown CR294 (X293.more (by decide) (by decide)) e293 N293 O293 K293 V293 g_b14 s_b14 sf297 hn10 B20 B31 B41 B51 B61 (Di p5) B81 B91 k296
            · have k298 : ∀ t, Db p e below m T94 227 #[.val (.int p0), .val (.int p1), .val (.long p2), .second, .val (.int p4), .val (.int p5), .val (.int (p0 &&& (3 : Int32))), .val (.int (((p0.toUInt32 >>> ((2 : Int32) &&& 31).toUInt32).toInt32) &&& (3 : Int32))), .val (.int jnl), .val (.ref js), .val (.int jn1), .val (.ref b14), .val (.int 6), .unset, .unset] [] t → Kb p e below m s₁ #[(.int p0), (.int p1), (.long p2), (.int p4), (.int p5)] maxLocals t := by
                intro t k
                refine k175 t ?_
                rw [hs249]
                exact k
              obtain ⟨cl299, Ar299, q299, Sz299, Nn299, Hs299, Gf299⟩ := id V94
              have hin300 : ¬ ((6 : Int32) < 0 ∨ cl299.slots.size ≤ ((6 : Int32)).toNatClampNeg) := inb_of Sz299 ⟨by decide, by decide⟩
              obtain ⟨T301, h301, X301, e301, W301, st301⟩ := stC X94 hx hZ e94 Ar299 (j := (6 : Int32)) hin300 (g := (mkF m 238 #[.val (.int p0), .val (.int p1), .val (.long p2), .second, .val (.int p4), .val (.int p5), .val (.int (p0 &&& (3 : Int32))), .val (.int (((p0.toUInt32 >>> ((2 : Int32) &&& 31).toUInt32).toInt32) &&& (3 : Int32))), .val (.int jnl), .val (.ref js), .val (.int jn1), .val (.ref b14), .val (.int 6), .unset, .unset] [(.int ((p5 &&& (255 : Int32)).toUInt32.toUInt16.toUInt32.toInt32)), (.int 6), (.ref b14)])) rfl rfl (hb hby at_238)
              have V301 : Arv Z h301 b14 c14 .char (8 : Int32) [(.int r20), (.int r31), (.int r41), (.int r51), (.int r61), (.int r71), (.int ((p5 &&& (255 : Int32)).toUInt32.toUInt16.toUInt32.toInt32)), (.int r91)] (.int 0) := by
                have q := Arv.set Ar299 q299 Sz299 Nn299 Hs299 Gf299 (fits_nar_char _) W301 6 rfl (Nat.le_of_ble_eq_true rfl)
                first | exact q | (simp only [Hj] at q; exact q)
              have sf303 := (Safe.wr W94 sf96 CR85.1 sf96)
              have CR302 := CR95.trans (CHr.wr W301 sf303 CR95.1)
              have N301 := Fr.snoc X301 N94 g_b14
              have O301 := O94.wr W301 g_b14
              have K301 := K94.wr W301 (Or.inr s_b14)
              have k304 : ∀ t, Db p e below m T301 239 #[.val (.int p0), .val (.int p1), .val (.long p2), .second, .val (.int p4), .val (.int p5), .val (.int (p0 &&& (3 : Int32))), .val (.int (((p0.toUInt32 >>> ((2 : Int32) &&& 31).toUInt32).toInt32) &&& (3 : Int32))), .val (.int jnl), .val (.ref js), .val (.int jn1), .val (.ref b14), .val (.int 6), .unset, .unset] [] t → Kb p e below m s₁ #[(.int p0), (.int p1), (.long p2), (.int p4), (.int p5)] maxLocals t := by
                intro t k
                refine k298 t ?_
                refine XS.aload X94.here hx rfl (hb hby at_227) rfl rfl ?_
                refine XS.iload X94.here hx rfl (hb hby at_229) rfl ?_
                refine XS.iload X94.here hx rfl (hb hby at_231) rfl ?_
                refine XS.sipush X94.here hx rfl (hb hby at_233) ?_
                refine XS.iand X94.here hx rfl (hb hby at_236) rfl ?_
                refine XS.i2c X94.here hx rfl (hb hby at_237) rfl ?_
                refine st301 _ ?_
                exact k
              have sf305 := (Safe.wr W301 sf303 CR95.1 sf303)
              exact J176 vm13 _ _ _ h301 b14 c14 jn1 r20 r31 r41 r51 r61 r71 ((p5 &&& (255 : Int32)).toUInt32.toUInt16.toUInt32.toInt32) r91 (6 : Int32) hS (Nat.le_trans (Nat.le_trans (Nat.le_trans (Nat.le_trans (Nat.le_trans (Nat.le_trans (Nat.le_trans (Nat.le_trans (Nat.le_trans (Nat.le_trans hk13 E14.1) (Keep.of_wr W23).1) (Keep.of_wr W34).1) (Keep.of_wr W44).1) (Keep.of_wr W54).1) (Keep.of_wr W64).1) (Keep.of_wr W74).1) (Keep.of_wr W84).1) (Keep.of_wr W94).1) (Keep.of_wr W301).1) hZ hown CR302 (X301.more (by decide) (by decide)) e301 N301 O301 K301 V301 g_b14 s_b14 sf305 hn10 B20 B31 B41 B51 B61 B71 (Di p5) B91 k304
            · have k306 : ∀ t, Db p e below m T94 227 #[.val (.int p0), .val (.int p1), .val (.long p2), .second, .val (.int p4), .val (.int p5), .val (.int (p0 &&& (3 : Int32))), .val (.int (((p0.toUInt32 >>> ((2 : Int32) &&& 31).toUInt32).toInt32) &&& (3 : Int32))), .val (.int jnl), .val (.ref js), .val (.int jn1), .val (.ref b14), .val (.int 7), .unset, .unset] [] t → Kb p e below m s₁ #[(.int p0), (.int p1), (.long p2), (.int p4), (.int p5)] maxLocals t := by
                intro t k
                refine k175 t ?_
                rw [hs249]
                exact k
              obtain ⟨cl307, Ar307, q307, Sz307, Nn307, Hs307, Gf307⟩ := id V94
              have hin308 : ¬ ((7 : Int32) < 0 ∨ cl307.slots.size ≤ ((7 : Int32)).toNatClampNeg) := inb_of Sz307 ⟨by decide, by decide⟩
              obtain ⟨T309, h309, X309, e309, W309, st309⟩ := stC X94 hx hZ e94 Ar307 (j := (7 : Int32)) hin308 (g := (mkF m 238 #[.val (.int p0), .val (.int p1), .val (.long p2), .second, .val (.int p4), .val (.int p5), .val (.int (p0 &&& (3 : Int32))), .val (.int (((p0.toUInt32 >>> ((2 : Int32) &&& 31).toUInt32).toInt32) &&& (3 : Int32))), .val (.int jnl), .val (.ref js), .val (.int jn1), .val (.ref b14), .val (.int 7), .unset, .unset] [(.int ((p5 &&& (255 : Int32)).toUInt32.toUInt16.toUInt32.toInt32)), (.int 7), (.ref b14)])) rfl rfl (hb hby at_238)
              have V309 : Arv Z h309 b14 c14 .char (8 : Int32) [(.int r20), (.int r31), (.int r41), (.int r51), (.int r61), (.int r71), (.int r81), (.int ((p5 &&& (255 : Int32)).toUInt32.toUInt16.toUInt32.toInt32))] (.int 0) := by
                have q := Arv.set Ar307 q307 Sz307 Nn307 Hs307 Gf307 (fits_nar_char _) W309 7 rfl (Nat.le_of_ble_eq_true rfl)
                first | exact q | (simp only [Hj] at q; exact q)
              have sf311 := (Safe.wr W94 sf96 CR85.1 sf96)
              have CR310 := CR95.trans (CHr.wr W309 sf311 CR95.1)
              have N309 := Fr.snoc X309 N94 g_b14
              have O309 := O94.wr W309 g_b14
              have K309 := K94.wr W309 (Or.inr s_b14)
              have k312 : ∀ t, Db p e below m T309 239 #[.val (.int p0), .val (.int p1), .val (.long p2), .second, .val (.int p4), .val (.int p5), .val (.int (p0 &&& (3 : Int32))), .val (.int (((p0.toUInt32 >>> ((2 : Int32) &&& 31).toUInt32).toInt32) &&& (3 : Int32))), .val (.int jnl), .val (.ref js), .val (.int jn1), .val (.ref b14), .val (.int 7), .unset, .unset] [] t → Kb p e below m s₁ #[(.int p0), (.int p1), (.long p2), (.int p4), (.int p5)] maxLocals t := by
                intro t k
                refine k306 t ?_
                refine XS.aload X94.here hx rfl (hb hby at_227) rfl rfl ?_
                refine XS.iload X94.here hx rfl (hb hby at_229) rfl ?_
                refine XS.iload X94.here hx rfl (hb hby at_231) rfl ?_
                refine XS.sipush X94.here hx rfl (hb hby at_233) ?_
                refine XS.iand X94.here hx rfl (hb hby at_236) rfl ?_
                refine XS.i2c X94.here hx rfl (hb hby at_237) rfl ?_
                refine st309 _ ?_
                exact k
              have sf313 := (Safe.wr W309 sf311 CR95.1 sf311)
              exact J176 vm13 _ _ _ h309 b14 c14 jn1 r20 r31 r41 r51 r61 r71 r81 ((p5 &&& (255 : Int32)).toUInt32.toUInt16.toUInt32.toInt32) (7 : Int32) hS (Nat.le_trans (Nat.le_trans (Nat.le_trans (Nat.le_trans (Nat.le_trans (Nat.le_trans (Nat.le_trans (Nat.le_trans (Nat.le_trans (Nat.le_trans hk13 E14.1) (Keep.of_wr W23).1) (Keep.of_wr W34).1) (Keep.of_wr W44).1) (Keep.of_wr W54).1) (Keep.of_wr W64).1) (Keep.of_wr W74).1) (Keep.of_wr W84).1) (Keep.of_wr W94).1) (Keep.of_wr W309).1) hZ hown CR310 (X309.more (by decide) (by decide)) e309 N309 O309 K309 V309 g_b14 s_b14 sf313 hn10 B20 B31 B41 B51 B61 B71 B81 (Di p5) k312
          · have k314 : ∀ t, Db p e below m T94 239 #[.val (.int p0), .val (.int p1), .val (.long p2), .second, .val (.int p4), .val (.int p5), .val (.int (p0 &&& (3 : Int32))), .val (.int (((p0.toUInt32 >>> ((2 : Int32) &&& 31).toUInt32).toInt32) &&& (3 : Int32))), .val (.int jnl), .val (.ref js), .val (.int jn1), .val (.ref b14), .unset, .unset, .unset] [] t → Kb p e below m s₁ #[(.int p0), (.int p1), (.long p2), (.int p4), (.int p5)] maxLocals t := by
              intro t k
              refine k173 t ?_
              refine XS.ifYes X94.here hx rfl (pc0 := 214) (pc' := 239) rfl (hb hby at_214) rfl ((if0 _ _).trans (flt hc174).2.2.2) (by decide) (by decide) ?_
              exact k
            have sf315 := (Safe.wr W94 sf96 CR85.1 sf96)
            exact J98 vm13 _ _ _ h94 b14 c14 jn1 r20 r31 r41 r51 r61 r71 r81 r91 hS (Nat.le_trans (Nat.le_trans (Nat.le_trans (Nat.le_trans (Nat.le_trans (Nat.le_trans (Nat.le_trans (Nat.le_trans (Nat.le_trans hk13 E14.1) (Keep.of_wr W23).1) (Keep.of_wr W34).1) (Keep.of_wr W44).1) (Keep.of_wr W54).1) (Keep.of_wr W64).1) (Keep.of_wr W74).1) (Keep.of_wr W84).1) (Keep.of_wr W94).1) hZ hown CR95 (X94.more (by decide) (by decide)) e94 N94 O94 K94 V94 g_b14 s_b14 sf315 hn10 B20 B31 B41 B51 B61 B71 B81 B91 k314
        · have k316 : ∀ t, Db p e below m T94 239 #[.val (.int p0), .val (.int p1), .val (.long p2), .second, .val (.int p4), .val (.int p5), .val (.int (p0 &&& (3 : Int32))), .val (.int (((p0.toUInt32 >>> ((2 : Int32) &&& 31).toUInt32).toInt32) &&& (3 : Int32))), .val (.int jnl), .val (.ref js), .val (.int jn1), .val (.ref b14), .unset, .unset, .unset] [] t → Kb p e below m s₁ #[(.int p0), (.int p1), (.long p2), (.int p4), (.int p5)] maxLocals t := by
            intro t k
            refine k171 t ?_
            refine XS.icmpYes X94.here hx rfl (pc0 := 209) (pc' := 239) rfl (hb hby at_209) rfl (feq hc172).2 (by decide) (by decide) ?_
            exact k
          have sf317 := (Safe.wr W94 sf96 CR85.1 sf96)
          exact J98 vm13 _ _ _ h94 b14 c14 jn1 r20 r31 r41 r51 r61 r71 r81 r91 hS (Nat.le_trans (Nat.le_trans (Nat.le_trans (Nat.le_trans (Nat.le_trans (Nat.le_trans (Nat.le_trans (Nat.le_trans (Nat.le_trans hk13 E14.1) (Keep.of_wr W23).1) (Keep.of_wr W34).1) (Keep.of_wr W44).1) (Keep.of_wr W54).1) (Keep.of_wr W64).1) (Keep.of_wr W74).1) (Keep.of_wr W84).1) (Keep.of_wr W94).1) hZ hown CR95 (X94.more (by decide) (by decide)) e94 N94 O94 K94 V94 g_b14 s_b14 sf317 hn10 B20 B31 B41 B51 B61 B71 B81 B91 k316
      have k318 : ∀ t, Db p e below m T12 80 #[.val (.int p0), .val (.int p1), .val (.long p2), .second, .val (.int p4), .val (.int p5), .val (.int (p0 &&& (3 : Int32))), .val (.int (((p0.toUInt32 >>> ((2 : Int32) &&& 31).toUInt32).toInt32) &&& (3 : Int32))), .val (.int jnl), .val (.ref js), .unset, .unset, .unset, .unset, .unset] [(.int (((p0.toUInt32 >>> ((2 : Int32) &&& 31).toUInt32).toInt32) &&& (3 : Int32)))] t → Kb p e below m s₁ #[(.int p0), (.int p1), (.long p2), (.int p4), (.int p5)] maxLocals t := by
        intro t k
        refine k12 t ?_
        refine XS.iload X12.here hx rfl (hb hby at_78) rfl ?_
        exact k
      by_cases hc319 : (((p0.toUInt32 >>> ((2 : Int32) &&& 31).toUInt32).toInt32) &&& (3 : Int32)) = (0 : Int32)
      · obtain ⟨cq320, kq320, q320a, q320b, q320c⟩ := isOf hZ e12 G12_0
        obtain ⟨_, _, ⟨T320, L320, k320, n320⟩, -, X320, ⟨Lc320, hQ320, l320, y320, z320⟩, st320⟩ := X12.virtualBack hx (y := Kh) (z := Kh) hown (mvT hZ (Ka hw 8 rfl)) (mvT hZ (Ka hw 9 rfl)) (notFace_of_selects (args := #[]) (mvT hZ (Ka hw 11 rfl))) (mvT hZ (Ka hw 11 rfl)) (mvT hZ (Ka hw 10 rfl)) (by decide) (StrChars.Road.lenW (W := 0) hZ (Bj hw) (kI := 4) (Ka hw 2 rfl) G12_0 G12_2 G12_1 G12_3 jcd (Zc _ jbd) (Hb.ext O12.2) Gb jl2 (by decide) (by decide)) q320a q320c (g := (mkF m 91 #[.val (.int p0), .val (.int p1), .val (.long p2), .second, .val (.int p4), .val (.int p5), .val (.int (p0 &&& (3 : Int32))), .val (.int (((p0.toUInt32 >>> ((2 : Int32) &&& 31).toUInt32).toInt32) &&& (3 : Int32))), .val (.int jnl), .val (.ref js), .unset, .unset, .unset, .unset, .unset] [(.ref js)])) rfl (by rw [hml]; rfl) (Steps.refl _) (argsL := []) (rest := []) (lenOf Hk rfl) rfl (by show 2 * 0 + _ ≤ _; exact Nat.le_of_eq rfl) (hb hby at_91) (fun _ _ => ⟨rfl, e12, (by decide : 2 + 0 ≤ _), (by decide : 32 + 0 ≤ _)⟩)
        dsimp only [Pt.U, Pt.locs, Pt.cells, Pt.slots] at X320 l320 y320 z320 st320 hQ320
        subst l320 y320 z320
        obtain ⟨rfl, rfl, hp320⟩ := hQ320
        have N320q : Fr n0 ([] : List Loc) := Fr.nil n0
        have N320 := Fr.app N12 N320q
        have k321 : ∀ t, Db p e below m T320 108 #[.val (.int p0), .val (.int p1), .val (.long p2), .second, .val (.int p4), .val (.int p5), .val (.int (p0 &&& (3 : Int32))), .val (.int (((p0.toUInt32 >>> ((2 : Int32) &&& 31).toUInt32).toInt32) &&& (3 : Int32))), .val (.int jnl), .val (.ref js), .val (.int (Int32.ofNat jcs.length)), .unset, .unset, .unset, .unset] [] t → Kb p e below m s₁ #[(.int p0), (.int p1), (.long p2), (.int p4), (.int p5)] maxLocals t := by
          intro t k
          refine k318 t ?_
          refine XS.ifYes X12.here hx rfl (pc0 := 80) (pc' := 89) rfl (hb hby at_80) rfl ((if0 _ _).trans (teq hc319).1) (by decide) (by decide) ?_
          refine XS.aload X12.here hx rfl (hb hby at_89) rfl rfl ?_
          refine st320.trans ?_
          refine XS.istore X320.here hx rfl (hb hby at_94) rfl (l' := #[.val (.int p0), .val (.int p1), .val (.long p2), .second, .val (.int p4), .val (.int p5), .val (.int (p0 &&& (3 : Int32))), .val (.int (((p0.toUInt32 >>> ((2 : Int32) &&& 31).toUInt32).toInt32) &&& (3 : Int32))), .val (.int jnl), .val (.ref js), .val (.int (Int32.ofNat jcs.length)), .unset, .unset, .unset, .unset]) rfl ?_
          refine XS.goto X320.here hx rfl (pc0 := 96) (pc' := 108) rfl (hb hby at_96) (by decide) (by decide) ?_
          exact k
        exact J13 vm12 _ _ _ h12 (Int32.ofNat jcs.length) hS hk12 hZ hown CR12 (X320.more (by decide) (by decide)) hp320 N320 O12 K12 G12_0 G12_1 G12_2 G12_3 (R8 jl7) k321
      · have k322 : ∀ t, Db p e below m T12 86 #[.val (.int p0), .val (.int p1), .val (.long p2), .second, .val (.int p4), .val (.int p5), .val (.int (p0 &&& (3 : Int32))), .val (.int (((p0.toUInt32 >>> ((2 : Int32) &&& 31).toUInt32).toInt32) &&& (3 : Int32))), .val (.int jnl), .val (.ref js), .unset, .unset, .unset, .unset, .unset] [(.int 1), (.int (((p0.toUInt32 >>> ((2 : Int32) &&& 31).toUInt32).toInt32) &&& (3 : Int32)))] t → Kb p e below m s₁ #[(.int p0), (.int p1), (.long p2), (.int p4), (.int p5)] maxLocals t := by
          intro t k
          refine k318 t ?_
          refine XS.ifNo X12.here hx rfl (hb hby at_80) rfl ((if0 _ _).trans (feq hc319).1) ?_
          refine XS.iload X12.here hx rfl (hb hby at_83) rfl ?_
          refine XS.iconst X12.here hx rfl (hb hby at_85) ?_
          exact k
        by_cases hc323 : (((p0.toUInt32 >>> ((2 : Int32) &&& 31).toUInt32).toInt32) &&& (3 : Int32)) = (1 : Int32)
        · obtain ⟨cq324, kq324, q324a, q324b, q324c⟩ := isOf hZ e12 G12_0
          obtain ⟨_, _, ⟨T324, L324, k324, n324⟩, -, X324, ⟨Lc324, hQ324, l324, y324, z324⟩, st324⟩ := X12.virtualBack hx (y := Kh) (z := Kh) hown (mvT hZ (Ka hw 8 rfl)) (mvT hZ (Ka hw 9 rfl)) (notFace_of_selects (args := #[]) (mvT hZ (Ka hw 11 rfl))) (mvT hZ (Ka hw 11 rfl)) (mvT hZ (Ka hw 10 rfl)) (by decide) (StrChars.Road.lenW (W := 0) hZ (Bj hw) (kI := 4) (Ka hw 2 rfl) G12_0 G12_2 G12_1 G12_3 jcd (Zc _ jbd) (Hb.ext O12.2) Gb jl2 (by decide) (by decide)) q324a q324c (g := (mkF m 91 #[.val (.int p0), .val (.int p1), .val (.long p2), .second, .val (.int p4), .val (.int p5), .val (.int (p0 &&& (3 : Int32))), .val (.int (((p0.toUInt32 >>> ((2 : Int32) &&& 31).toUInt32).toInt32) &&& (3 : Int32))), .val (.int jnl), .val (.ref js), .unset, .unset, .unset, .unset, .unset] [(.ref js)])) rfl (by rw [hml]; rfl) (Steps.refl _) (argsL := []) (rest := []) (lenOf Hk rfl) rfl (by show 2 * 0 + _ ≤ _; exact Nat.le_of_eq rfl) (hb hby at_91) (fun _ _ => ⟨rfl, e12, (by decide : 2 + 0 ≤ _), (by decide : 32 + 0 ≤ _)⟩)
          dsimp only [Pt.U, Pt.locs, Pt.cells, Pt.slots] at X324 l324 y324 z324 st324 hQ324
          subst l324 y324 z324
          obtain ⟨rfl, rfl, hp324⟩ := hQ324
          have N324q : Fr n0 ([] : List Loc) := Fr.nil n0
          have N324 := Fr.app N12 N324q
          have k325 : ∀ t, Db p e below m T324 108 #[.val (.int p0), .val (.int p1), .val (.long p2), .second, .val (.int p4), .val (.int p5), .val (.int (p0 &&& (3 : Int32))), .val (.int (((p0.toUInt32 >>> ((2 : Int32) &&& 31).toUInt32).toInt32) &&& (3 : Int32))), .val (.int jnl), .val (.ref js), .val (.int (Int32.ofNat jcs.length)), .unset, .unset, .unset, .unset] [] t → Kb p e below m s₁ #[(.int p0), (.int p1), (.long p2), (.int p4), (.int p5)] maxLocals t := by
            intro t k
            refine k322 t ?_
            refine XS.icmpNo X12.here hx rfl (hb hby at_86) rfl (teq hc323).2 ?_
            refine XS.aload X12.here hx rfl (hb hby at_89) rfl rfl ?_
            refine st324.trans ?_
            refine XS.istore X324.here hx rfl (hb hby at_94) rfl (l' := #[.val (.int p0), .val (.int p1), .val (.long p2), .second, .val (.int p4), .val (.int p5), .val (.int (p0 &&& (3 : Int32))), .val (.int (((p0.toUInt32 >>> ((2 : Int32) &&& 31).toUInt32).toInt32) &&& (3 : Int32))), .val (.int jnl), .val (.ref js), .val (.int (Int32.ofNat jcs.length)), .unset, .unset, .unset, .unset]) rfl ?_
            refine XS.goto X324.here hx rfl (pc0 := 96) (pc' := 108) rfl (hb hby at_96) (by decide) (by decide) ?_
            exact k
          exact J13 vm12 _ _ _ h12 (Int32.ofNat jcs.length) hS hk12 hZ hown CR12 (X324.more (by decide) (by decide)) hp324 N324 O12 K12 G12_0 G12_1 G12_2 G12_3 (R8 jl7) k325
        · have k326 : ∀ t, Db p e below m T12 108 #[.val (.int p0), .val (.int p1), .val (.long p2), .second, .val (.int p4), .val (.int p5), .val (.int (p0 &&& (3 : Int32))), .val (.int (((p0.toUInt32 >>> ((2 : Int32) &&& 31).toUInt32).toInt32) &&& (3 : Int32))), .val (.int jnl), .val (.ref js), .val (.int ((p1 &&& (15 : Int32)) % (9 : Int32))), .unset, .unset, .unset, .unset] [] t → Kb p e below m s₁ #[(.int p0), (.int p1), (.long p2), (.int p4), (.int p5)] maxLocals t := by
            intro t k
            refine k322 t ?_
            refine XS.icmpYes X12.here hx rfl (pc0 := 86) (pc' := 99) rfl (hb hby at_86) rfl (feq hc323).2 (by decide) (by decide) ?_
            refine XS.iloadN X12.here hx rfl (hb hby at_99) rfl ?_
            refine XS.bipush X12.here hx rfl (hb hby at_100) ?_
            refine XS.iand X12.here hx rfl (hb hby at_102) rfl ?_
            refine XS.bipush X12.here hx rfl (hb hby at_103) ?_
            refine iremM X12 hx rfl (hb hby at_105) rfl (by decide) ?_
            refine XS.istore X12.here hx rfl (hb hby at_106) rfl (l' := #[.val (.int p0), .val (.int p1), .val (.long p2), .second, .val (.int p4), .val (.int p5), .val (.int (p0 &&& (3 : Int32))), .val (.int (((p0.toUInt32 >>> ((2 : Int32) &&& 31).toUInt32).toInt32) &&& (3 : Int32))), .val (.int jnl), .val (.ref js), .val (.int ((p1 &&& (15 : Int32)) % (9 : Int32))), .unset, .unset, .unset, .unset]) rfl ?_
            exact k
          exact J13 vm12 _ _ _ h12 ((p1 &&& (15 : Int32)) % (9 : Int32)) hS hk12 hZ hown CR12 (X12.more (by decide) (by decide)) e12 N12 O12 K12 G12_0 G12_1 G12_2 G12_3 (Vaa p1) k326
    have k327 : ∀ t, Db p e below m T11 33 #[.val (.int p0), .val (.int p1), .val (.long p2), .second, .val (.int p4), .val (.int p5), .val (.int (p0 &&& (3 : Int32))), .val (.int (((p0.toUInt32 >>> ((2 : Int32) &&& 31).toUInt32).toInt32) &&& (3 : Int32))), .val (.int jnl), .unset, .unset, .unset, .unset, .unset, .unset] [(.int 3), (.int (((p0.toUInt32 >>> ((2 : Int32) &&& 31).toUInt32).toInt32) &&& (3 : Int32)))] t → Kb p e below m s₁ #[(.int p0), (.int p1), (.long p2), (.int p4), (.int p5)] maxLocals t := by
      intro t k
      refine k11 t ?_
      refine XS.iload X11.here hx rfl (hb hby at_30) rfl ?_
      refine XS.iconst X11.here hx rfl (hb hby at_32) ?_
      exact k
    by_cases hc328 : (((p0.toUInt32 >>> ((2 : Int32) &&& 31).toUInt32).toInt32) &&& (3 : Int32)) = (3 : Int32)
    · obtain ⟨a329, T329, h329, q329, t329, kb329, X329, e329, E329, hS, hk329, hZ, hown, Ex329, Fc329, Fv329, Av329, la329, lb329, hC329, -, hSf329, st329⟩ := ldcCH X11 hx hZ hown (Ka hw 139 rfl) (Aj hw) e11 hS hk11 (Af hw) (EL := Uc) (List.mem_of_getElem? (i := 0) rfl) CR11.1 (vs := []) (z := (0 : Int32)) ⟨by decide, by decide⟩ (by decide) (by decide) (g := (mkF m 42 #[.val (.int p0), .val (.int p1), .val (.long p2), .second, .val (.int p4), .val (.int p5), .val (.int (p0 &&& (3 : Int32))), .val (.int (((p0.toUInt32 >>> ((2 : Int32) &&& 31).toUInt32).toInt32) &&& (3 : Int32))), .val (.int jnl), .unset, .unset, .unset, .unset, .unset, .unset] [])) rfl (hb hby at_42) (n := 0) (by decide) (by decide) (by decide) (by decide)
      have CR330 := CR11.trans hC329
      have O329 := O11.ext E329
      have K329 := K11.ext E329
      have k331 : ∀ t, Db p e below m T329 78 #[.val (.int p0), .val (.int p1), .val (.long p2), .second, .val (.int p4), .val (.int p5), .val (.int (p0 &&& (3 : Int32))), .val (.int (((p0.toUInt32 >>> ((2 : Int32) &&& 31).toUInt32).toInt32) &&& (3 : Int32))), .val (.int jnl), .val (.ref a329), .unset, .unset, .unset, .unset, .unset] [] t → Kb p e below m s₁ #[(.int p0), (.int p1), (.long p2), (.int p4), (.int p5)] maxLocals t := by
        intro t k
        refine k327 t ?_
        refine XS.icmpYes X11.here hx rfl (pc0 := 33) (pc' := 42) rfl (hb hby at_33) rfl (teq hc328).1 (by decide) (by decide) ?_
        refine st329 _ ?_
        refine XS.astore X329.here hx rfl (hb hby at_44) rfl rfl (l' := #[.val (.int p0), .val (.int p1), .val (.long p2), .second, .val (.int p4), .val (.int p5), .val (.int (p0 &&& (3 : Int32))), .val (.int (((p0.toUInt32 >>> ((2 : Int32) &&& 31).toUInt32).toInt32) &&& (3 : Int32))), .val (.int jnl), .val (.ref a329), .unset, .unset, .unset, .unset, .unset]) rfl ?_
        refine XS.goto X329.here hx rfl (pc0 := 46) (pc' := 78) rfl (hb hby at_46) (by decide) (by decide) ?_
        exact k
      exact J12 T329.vm _ _ _ h329 a329 t329 kb329 (0 : Int32) [] ([] : List Int32) hS hk329 hZ hown CR330 (X329.more (by decide) (by decide)) e329 N11 O329 K329 Ex329 Fc329 Fv329 Av329 D7 Ro (Nat.le_of_ble_eq_true rfl) (Nat.le_of_ble_eq_true rfl) k331
    · have k332 : ∀ t, Db p e below m T11 39 #[.val (.int p0), .val (.int p1), .val (.long p2), .second, .val (.int p4), .val (.int p5), .val (.int (p0 &&& (3 : Int32))), .val (.int (((p0.toUInt32 >>> ((2 : Int32) &&& 31).toUInt32).toInt32) &&& (3 : Int32))), .val (.int jnl), .unset, .unset, .unset, .unset, .unset, .unset] [(.int 3), (.int (p0 &&& (3 : Int32)))] t → Kb p e below m s₁ #[(.int p0), (.int p1), (.long p2), (.int p4), (.int p5)] maxLocals t := by
        intro t k
        refine k327 t ?_
        refine XS.icmpNo X11.here hx rfl (hb hby at_33) rfl (feq hc328).1 ?_
        refine XS.iload X11.here hx rfl (hb hby at_36) rfl ?_
        refine XS.iconst X11.here hx rfl (hb hby at_38) ?_
        exact k
      by_cases hc333 : (p0 &&& (3 : Int32)) = (3 : Int32)
      · obtain ⟨a334, T334, h334, q334, t334, kb334, X334, e334, E334, hS, hk334, hZ, hown, Ex334, Fc334, Fv334, Av334, la334, lb334, hC334, -, hSf334, st334⟩ := ldcCH X11 hx hZ hown (Ka hw 139 rfl) (Aj hw) e11 hS hk11 (Af hw) (EL := Uc) (List.mem_of_getElem? (i := 0) rfl) CR11.1 (vs := []) (z := (0 : Int32)) ⟨by decide, by decide⟩ (by decide) (by decide) (g := (mkF m 42 #[.val (.int p0), .val (.int p1), .val (.long p2), .second, .val (.int p4), .val (.int p5), .val (.int (p0 &&& (3 : Int32))), .val (.int (((p0.toUInt32 >>> ((2 : Int32) &&& 31).toUInt32).toInt32) &&& (3 : Int32))), .val (.int jnl), .unset, .unset, .unset, .unset, .unset, .unset] [])) rfl (hb hby at_42) (n := 0) (by decide) (by decide) (by decide) (by decide)
        have CR335 := CR11.trans hC334
        have O334 := O11.ext E334
        have K334 := K11.ext E334
        have k336 : ∀ t, Db p e below m T334 78 #[.val (.int p0), .val (.int p1), .val (.long p2), .second, .val (.int p4), .val (.int p5), .val (.int (p0 &&& (3 : Int32))), .val (.int (((p0.toUInt32 >>> ((2 : Int32) &&& 31).toUInt32).toInt32) &&& (3 : Int32))), .val (.int jnl), .val (.ref a334), .unset, .unset, .unset, .unset, .unset] [] t → Kb p e below m s₁ #[(.int p0), (.int p1), (.long p2), (.int p4), (.int p5)] maxLocals t := by
          intro t k
          refine k332 t ?_
          refine XS.icmpNo X11.here hx rfl (hb hby at_39) rfl (teq hc333).2 ?_
          refine st334 _ ?_
          refine XS.astore X334.here hx rfl (hb hby at_44) rfl rfl (l' := #[.val (.int p0), .val (.int p1), .val (.long p2), .second, .val (.int p4), .val (.int p5), .val (.int (p0 &&& (3 : Int32))), .val (.int (((p0.toUInt32 >>> ((2 : Int32) &&& 31).toUInt32).toInt32) &&& (3 : Int32))), .val (.int jnl), .val (.ref a334), .unset, .unset, .unset, .unset, .unset]) rfl ?_
          refine XS.goto X334.here hx rfl (pc0 := 46) (pc' := 78) rfl (hb hby at_46) (by decide) (by decide) ?_
          exact k
        exact J12 T334.vm _ _ _ h334 a334 t334 kb334 (0 : Int32) [] ([] : List Int32) hS hk334 hZ hown CR335 (X334.more (by decide) (by decide)) e334 N11 O334 K334 Ex334 Fc334 Fv334 Av334 D7 Ro (Nat.le_of_ble_eq_true rfl) (Nat.le_of_ble_eq_true rfl) k336
      · have k337 : ∀ t, Db p e below m T11 51 #[.val (.int p0), .val (.int p1), .val (.long p2), .second, .val (.int p4), .val (.int p5), .val (.int (p0 &&& (3 : Int32))), .val (.int (((p0.toUInt32 >>> ((2 : Int32) &&& 31).toUInt32).toInt32) &&& (3 : Int32))), .val (.int jnl), .unset, .unset, .unset, .unset, .unset, .unset] [(.int (p0 &&& (3 : Int32)))] t → Kb p e below m s₁ #[(.int p0), (.int p1), (.long p2), (.int p4), (.int p5)] maxLocals t := by
          intro t k
          refine k332 t ?_
          refine XS.icmpYes X11.here hx rfl (pc0 := 39) (pc' := 49) rfl (hb hby at_39) rfl (feq hc333).2 (by decide) (by decide) ?_
          refine XS.iload X11.here hx rfl (hb hby at_49) rfl ?_
          exact k
        by_cases hc338 : (p0 &&& (3 : Int32)) = (0 : Int32)
        · obtain ⟨a339, T339, h339, q339, t339, kb339, X339, e339, E339, hS, hk339, hZ, hown, Ex339, Fc339, Fv339, Av339, la339, lb339, hC339, -, hSf339, st339⟩ := ldcCH X11 hx hZ hown (Ka hw 0 rfl) (Aj hw) e11 hS hk11 (Af hw) (EL := Uc) (List.mem_of_getElem? (i := 1) rfl) CR11.1 (vs := [(.int 117), (.int 115), (.int 101), (.int 114), (.int 115)]) (z := (5 : Int32)) ⟨by decide, by decide⟩ (by decide) (by decide) (g := (mkF m 54 #[.val (.int p0), .val (.int p1), .val (.long p2), .second, .val (.int p4), .val (.int p5), .val (.int (p0 &&& (3 : Int32))), .val (.int (((p0.toUInt32 >>> ((2 : Int32) &&& 31).toUInt32).toInt32) &&& (3 : Int32))), .val (.int jnl), .unset, .unset, .unset, .unset, .unset, .unset] [])) rfl (hb hby at_54) (n := 20) (by decide) (by decide) (by decide) (by decide)
          have CR340 := CR11.trans hC339
          have O339 := O11.ext E339
          have K339 := K11.ext E339
          have k341 : ∀ t, Db p e below m T339 78 #[.val (.int p0), .val (.int p1), .val (.long p2), .second, .val (.int p4), .val (.int p5), .val (.int (p0 &&& (3 : Int32))), .val (.int (((p0.toUInt32 >>> ((2 : Int32) &&& 31).toUInt32).toInt32) &&& (3 : Int32))), .val (.int jnl), .val (.ref a339), .unset, .unset, .unset, .unset, .unset] [] t → Kb p e below m s₁ #[(.int p0), (.int p1), (.long p2), (.int p4), (.int p5)] maxLocals t := by
            intro t k
            refine k337 t ?_
            refine XS.ifNo X11.here hx rfl (hb hby at_51) rfl ((if0 _ _).trans (teq hc338).2) ?_
            refine st339 _ ?_
            refine XS.astore X339.here hx rfl (hb hby at_56) rfl rfl (l' := #[.val (.int p0), .val (.int p1), .val (.long p2), .second, .val (.int p4), .val (.int p5), .val (.int (p0 &&& (3 : Int32))), .val (.int (((p0.toUInt32 >>> ((2 : Int32) &&& 31).toUInt32).toInt32) &&& (3 : Int32))), .val (.int jnl), .val (.ref a339), .unset, .unset, .unset, .unset, .unset]) rfl ?_
            refine XS.goto X339.here hx rfl (pc0 := 58) (pc' := 78) rfl (hb hby at_58) (by decide) (by decide) ?_
            exact k
          exact J12 T339.vm _ _ _ h339 a339 t339 kb339 (5 : Int32) [(.int 117), (.int 115), (.int 101), (.int 114), (.int 115)] ([(117 : Int32), (115 : Int32), (101 : Int32), (114 : Int32), (115 : Int32)] : List Int32) hS hk339 hZ hown CR340 (X339.more (by decide) (by decide)) e339 N11 O339 K339 Ex339 Fc339 Fv339 Av339 Rh Hh (Nat.le_of_ble_eq_true rfl) (Nat.le_of_ble_eq_true rfl) k341
        · have k342 : ∀ t, Db p e below m T11 64 #[.val (.int p0), .val (.int p1), .val (.long p2), .second, .val (.int p4), .val (.int p5), .val (.int (p0 &&& (3 : Int32))), .val (.int (((p0.toUInt32 >>> ((2 : Int32) &&& 31).toUInt32).toInt32) &&& (3 : Int32))), .val (.int jnl), .unset, .unset, .unset, .unset, .unset, .unset] [(.int 1), (.int (p0 &&& (3 : Int32)))] t → Kb p e below m s₁ #[(.int p0), (.int p1), (.long p2), (.int p4), (.int p5)] maxLocals t := by
            intro t k
            refine k337 t ?_
            refine XS.ifYes X11.here hx rfl (pc0 := 51) (pc' := 61) rfl (hb hby at_51) rfl ((if0 _ _).trans (feq hc338).2) (by decide) (by decide) ?_
            refine XS.iload X11.here hx rfl (hb hby at_61) rfl ?_
            refine XS.iconst X11.here hx rfl (hb hby at_63) ?_
            exact k
          by_cases hc343 : (p0 &&& (3 : Int32)) = (1 : Int32)
          · obtain ⟨a344, T344, h344, q344, t344, kb344, X344, e344, E344, hS, hk344, hZ, hown, Ex344, Fc344, Fv344, Av344, la344, lb344, hC344, -, hSf344, st344⟩ := ldcCH X11 hx hZ hown (Ka hw 133 rfl) (Aj hw) e11 hS hk11 (Af hw) (EL := Uc) (List.mem_of_getElem? (i := 2) rfl) CR11.1 (vs := [(.int 103), (.int 114), (.int 111), (.int 117), (.int 112), (.int 115)]) (z := (6 : Int32)) ⟨by decide, by decide⟩ (by decide) (by decide) (g := (mkF m 67 #[.val (.int p0), .val (.int p1), .val (.long p2), .second, .val (.int p4), .val (.int p5), .val (.int (p0 &&& (3 : Int32))), .val (.int (((p0.toUInt32 >>> ((2 : Int32) &&& 31).toUInt32).toInt32) &&& (3 : Int32))), .val (.int jnl), .unset, .unset, .unset, .unset, .unset, .unset] [])) rfl (hb hby at_67) (n := 24) (by decide) (by decide) (by decide) (by decide)
            have CR345 := CR11.trans hC344
            have O344 := O11.ext E344
            have K344 := K11.ext E344
            have k346 : ∀ t, Db p e below m T344 78 #[.val (.int p0), .val (.int p1), .val (.long p2), .second, .val (.int p4), .val (.int p5), .val (.int (p0 &&& (3 : Int32))), .val (.int (((p0.toUInt32 >>> ((2 : Int32) &&& 31).toUInt32).toInt32) &&& (3 : Int32))), .val (.int jnl), .val (.ref a344), .unset, .unset, .unset, .unset, .unset] [] t → Kb p e below m s₁ #[(.int p0), (.int p1), (.long p2), (.int p4), (.int p5)] maxLocals t := by
              intro t k
              refine k342 t ?_
              refine XS.icmpNo X11.here hx rfl (hb hby at_64) rfl (teq hc343).2 ?_
              refine st344 _ ?_
              refine XS.astore X344.here hx rfl (hb hby at_69) rfl rfl (l' := #[.val (.int p0), .val (.int p1), .val (.long p2), .second, .val (.int p4), .val (.int p5), .val (.int (p0 &&& (3 : Int32))), .val (.int (((p0.toUInt32 >>> ((2 : Int32) &&& 31).toUInt32).toInt32) &&& (3 : Int32))), .val (.int jnl), .val (.ref a344), .unset, .unset, .unset, .unset, .unset]) rfl ?_
              refine XS.goto X344.here hx rfl (pc0 := 71) (pc' := 78) rfl (hb hby at_71) (by decide) (by decide) ?_
              exact k
            exact J12 T344.vm _ _ _ h344 a344 t344 kb344 (6 : Int32) [(.int 103), (.int 114), (.int 111), (.int 117), (.int 112), (.int 115)] ([(103 : Int32), (114 : Int32), (111 : Int32), (117 : Int32), (112 : Int32), (115 : Int32)] : List Int32) hS hk344 hZ hown CR345 (X344.more (by decide) (by decide)) e344 N11 O344 K344 Ex344 Fc344 Fv344 Av344 Yh Ih (Nat.le_of_ble_eq_true rfl) (Nat.le_of_ble_eq_true rfl) k346
          · obtain ⟨a347, T347, h347, q347, t347, kb347, X347, e347, E347, hS, hk347, hZ, hown, Ex347, Fc347, Fv347, Av347, la347, lb347, hC347, -, hSf347, st347⟩ := ldcCH X11 hx hZ hown (Ka hw 134 rfl) (Aj hw) e11 hS hk11 (Af hw) (EL := Uc) (List.mem_of_getElem? (i := 3) rfl) CR11.1 (vs := [(.int 100), (.int 101), (.int 118), (.int 105), (.int 99), (.int 101), (.int 115)]) (z := (7 : Int32)) ⟨by decide, by decide⟩ (by decide) (by decide) (g := (mkF m 74 #[.val (.int p0), .val (.int p1), .val (.long p2), .second, .val (.int p4), .val (.int p5), .val (.int (p0 &&& (3 : Int32))), .val (.int (((p0.toUInt32 >>> ((2 : Int32) &&& 31).toUInt32).toInt32) &&& (3 : Int32))), .val (.int jnl), .unset, .unset, .unset, .unset, .unset, .unset] [])) rfl (hb hby at_74) (n := 28) (by decide) (by decide) (by decide) (by decide)
            have CR348 := CR11.trans hC347
            have O347 := O11.ext E347
            have K347 := K11.ext E347
            have k349 : ∀ t, Db p e below m T347 78 #[.val (.int p0), .val (.int p1), .val (.long p2), .second, .val (.int p4), .val (.int p5), .val (.int (p0 &&& (3 : Int32))), .val (.int (((p0.toUInt32 >>> ((2 : Int32) &&& 31).toUInt32).toInt32) &&& (3 : Int32))), .val (.int jnl), .val (.ref a347), .unset, .unset, .unset, .unset, .unset] [] t → Kb p e below m s₁ #[(.int p0), (.int p1), (.long p2), (.int p4), (.int p5)] maxLocals t := by
              intro t k
              refine k342 t ?_
              refine XS.icmpYes X11.here hx rfl (pc0 := 64) (pc' := 74) rfl (hb hby at_64) rfl (feq hc343).2 (by decide) (by decide) ?_
              refine st347 _ ?_
              refine XS.astore X347.here hx rfl (hb hby at_76) rfl rfl (l' := #[.val (.int p0), .val (.int p1), .val (.long p2), .second, .val (.int p4), .val (.int p5), .val (.int (p0 &&& (3 : Int32))), .val (.int (((p0.toUInt32 >>> ((2 : Int32) &&& 31).toUInt32).toInt32) &&& (3 : Int32))), .val (.int jnl), .val (.ref a347), .unset, .unset, .unset, .unset, .unset]) rfl ?_
              exact k
            exact J12 T347.vm _ _ _ h347 a347 t347 kb347 (7 : Int32) [(.int 100), (.int 101), (.int 118), (.int 105), (.int 99), (.int 101), (.int 115)] ([(100 : Int32), (101 : Int32), (118 : Int32), (105 : Int32), (99 : Int32), (101 : Int32), (115 : Int32)] : List Int32) hS hk347 hZ hown CR348 (X347.more (by decide) (by decide)) e347 N11 O347 K347 Ex347 Fc347 Fv347 Av347 Bi Mh (Nat.le_of_ble_eq_true rfl) (Nat.le_of_ble_eq_true rfl) k349
  have k350 : ∀ t, Db p e below m s₁ 20 #[.val (.int p0), .val (.int p1), .val (.long p2), .second, .val (.int p4), .val (.int p5), .val (.int (p0 &&& (3 : Int32))), .val (.int (((p0.toUInt32 >>> ((2 : Int32) &&& 31).toUInt32).toInt32) &&& (3 : Int32))), .unset, .unset, .unset, .unset, .unset, .unset, .unset] [(.int 15), (.int (((p0.toUInt32 >>> ((4 : Int32) &&& 31).toUInt32).toInt32) &&& (15 : Int32)))] t → Kb p e below m s₁ #[(.int p0), (.int p1), (.long p2), (.int p4), (.int p5)] maxLocals t := by
    intro t k
    refine k10 t ?_
    refine XS.iloadN X00.here hx rfl (hb hby at_12) rfl ?_
    refine XS.iconst X00.here hx rfl (hb hby at_13) ?_
    refine XS.iushr X00.here hx rfl (hb hby at_14) rfl ?_
    refine XS.bipush X00.here hx rfl (hb hby at_15) ?_
    refine XS.iand X00.here hx rfl (hb hby at_17) rfl ?_
    refine XS.bipush X00.here hx rfl (hb hby at_18) ?_
    exact k
  by_cases hc351 : (((p0.toUInt32 >>> ((4 : Int32) &&& 31).toUInt32).toInt32) &&& (15 : Int32)) = (15 : Int32)
  · have k352 : ∀ t, Db p e below m s₁ 30 #[.val (.int p0), .val (.int p1), .val (.long p2), .second, .val (.int p4), .val (.int p5), .val (.int (p0 &&& (3 : Int32))), .val (.int (((p0.toUInt32 >>> ((2 : Int32) &&& 31).toUInt32).toInt32) &&& (3 : Int32))), .val (.int 1), .unset, .unset, .unset, .unset, .unset, .unset] [] t → Kb p e below m s₁ #[(.int p0), (.int p1), (.long p2), (.int p4), (.int p5)] maxLocals t := by
      intro t k
      refine k350 t ?_
      refine XS.icmpNo X00.here hx rfl (hb hby at_20) rfl (teq hc351).2 ?_
      refine XS.iconst X00.here hx rfl (hb hby at_23) ?_
      refine XS.goto X00.here hx rfl (pc0 := 24) (pc' := 28) rfl (hb hby at_24) (by decide) (by decide) ?_
      refine XS.istore X00.here hx rfl (hb hby at_28) rfl (l' := #[.val (.int p0), .val (.int p1), .val (.long p2), .second, .val (.int p4), .val (.int p5), .val (.int (p0 &&& (3 : Int32))), .val (.int (((p0.toUInt32 >>> ((2 : Int32) &&& 31).toUInt32).toInt32) &&& (3 : Int32))), .val (.int 1), .unset, .unset, .unset, .unset, .unset, .unset]) rfl ?_
      exact k
    exact J11 s.vm _ _ _ h0 (1 : Int32) hS (Nat.zero_le _) hZ hown CR0 (X00.more (by decide) (by decide)) e00 N00 O0 K00 k352
  · have k353 : ∀ t, Db p e below m s₁ 30 #[.val (.int p0), .val (.int p1), .val (.long p2), .second, .val (.int p4), .val (.int p5), .val (.int (p0 &&& (3 : Int32))), .val (.int (((p0.toUInt32 >>> ((2 : Int32) &&& 31).toUInt32).toInt32) &&& (3 : Int32))), .val (.int 0), .unset, .unset, .unset, .unset, .unset, .unset] [] t → Kb p e below m s₁ #[(.int p0), (.int p1), (.long p2), (.int p4), (.int p5)] maxLocals t := by
      intro t k
      refine k350 t ?_
      refine XS.icmpYes X00.here hx rfl (pc0 := 20) (pc' := 27) rfl (hb hby at_20) rfl (feq hc351).2 (by decide) (by decide) ?_
      refine XS.iconst X00.here hx rfl (hb hby at_27) ?_
      refine XS.istore X00.here hx rfl (hb hby at_28) rfl (l' := #[.val (.int p0), .val (.int p1), .val (.long p2), .second, .val (.int p4), .val (.int p5), .val (.int (p0 &&& (3 : Int32))), .val (.int (((p0.toUInt32 >>> ((2 : Int32) &&& 31).toUInt32).toInt32) &&& (3 : Int32))), .val (.int 0), .unset, .unset, .unset, .unset, .unset, .unset]) rfl ?_
      exact k
    exact J11 s.vm _ _ _ h0 (0 : Int32) hS (Nat.zero_le _) hZ hown CR0 (X00.more (by decide) (by decide)) e00 N00 O0 K00 k353
set_option maxRecDepth 65536 in
set_option maxHeartbeats 40000000 in
theorem comes_1 {Post : Tables → Env → Array Value → State → Outcome → State → Prop} (hpost : ∀ tb e args s v u, (limb_1_1.after args s (.returned v) u = true ∧ limb_1_2.after args s (.returned v) u = true ∧ True) → ReturnedEndW s (.returned v) u (Jvm.fieldLocs frame_1_writes args s ++ Jvm.arrayLocs frame_1_arrays args s ++ Jvm.staticLocs frame_1_statics s) 32 5312 → Post tb e args s (.returned v) u) :
    ArmFor flags0 classFile x code maxLocals ret World_1 tables_1 room_1 Calls_1 rest_1 Pre_1 Post := by
  intro l hfl _ _ p e ha hc hk s m args below hf hA hF happ hP
  obtain ⟨hcalls, hrest, hpre⟩ := hP
  obtain ⟨-, -, -, hnamed, -, -, -, hat⟩ := (Spec.applies_iff hf).mp happ
  obtain ⟨hg, hn⟩ := and_e (Cond.before_iff.mp (show (Jvm.Cond.and given_1 narrow_1).before args s = true from hpre))
  obtain ⟨g0a, g0b⟩ := and_e hg
  obtain ⟨g1a, g1b⟩ := and_e g0b
  obtain ⟨g2a, g2b⟩ := and_e g1b
  obtain ⟨g3a, g3b⟩ := and_e g2b
  obtain ⟨g4a, g4b⟩ := and_e g3b
  obtain ⟨w0, w1, w2, w3, w4, rfl⟩ : ∃ w0 w1 w2 w3 w4 : Value, args = #[w0, w1, w2, w3, w4] := by
    have hs : args.size = 5 := by simpa [Cond.value, given_1] using g0a
    obtain ⟨L⟩ := args
    match L, hs with
    | [w0, w1, w2, w3, w4], _ => exact ⟨w0, w1, w2, w3, w4, rfl⟩
  have hw := fun d (hd : d ∈ tables_1) => atoms_spec (ws := Jvm.Cond.code x code maxLocals ret :: tables_1) hat d (List.mem_cons_of_mem _ hd)
  have hfit : Fit s := fun {y c} hc i hi => by
    obtain ⟨ha, rfl⟩ := Array.getElem?_eq_some_iff.mp hc
    have q := List.all_eq_true.mp ((Array.all_eq_true_iff_forall_mem.mp hF) _ (Array.getElem_mem ha)) i (List.mem_range.mpr hi)
    simpa [Array.getElem?_eq_getElem hi] using q
  obtain ⟨hsets, hown0⟩ := atoms_of _ (rest_1_c_eq ▸ (show rest_1_c.before _ s = true from hrest))
  obtain ⟨i0, ei0⟩ := is_v g1a
  obtain rfl : w0 = (.int i0) := Option.some.inj ei0
  obtain ⟨i1, ei1⟩ := is_v g2a
  obtain rfl : w1 = (.int i1) := Option.some.inj ei1
  obtain ⟨i2, ei2⟩ := isL_v g3a
  obtain rfl : w2 = (.long i2) := Option.some.inj ei2
  obtain ⟨i3, ei3⟩ := is_v g4a
  obtain rfl : w3 = (.int i3) := Option.some.inj ei3
  obtain ⟨i4, ei4⟩ := is_v g4b
  obtain rfl : w4 = (.int i4) := Option.some.inj ei4
  obtain ⟨hn1a, hn1b⟩ := and_e hn
  obtain ⟨hn2a, hn2b⟩ := and_e hn1b
  obtain ⟨hn3a, hn3b⟩ := and_e hn2b
  obtain ⟨hn4a, hn4b⟩ := and_e hn3b
  obtain ⟨hn5a, hn5b⟩ := and_e hn4b
  obtain ⟨hn6a, hn6b⟩ := and_e hn5b
  obtain ⟨hn7a, hn7b⟩ := and_e hn6b
  obtain ⟨hn8a, hn8b⟩ := and_e hn7b
  obtain ⟨hn9a, hn9b⟩ := and_e hn8b
  obtain ⟨hn10a, hn10b⟩ := and_e hn9b
  obtain ⟨hn11a, hn11b⟩ := and_e hn10b
  obtain ⟨hn12a, hn12b⟩ := and_e hn11b
  obtain ⟨hn13a, hn13b⟩ := and_e hn12b
  obtain ⟨hn14a, hn14b⟩ := and_e hn13b
  obtain ⟨hn15a, hn15b⟩ := and_e hn14b
  obtain ⟨hn16a, hn16b⟩ := and_e hn15b
  obtain ⟨hn17a, hn17b⟩ := and_e hn16b
  obtain ⟨hn18a, hn18b⟩ := and_e hn17b
  obtain ⟨hn19a, hn19b⟩ := and_e hn18b
  obtain ⟨hn20a, hn20b⟩ := and_e hn19b
  obtain ⟨hn21a, hn21b⟩ := and_e hn20b
  obtain ⟨hn22a, hn22b⟩ := and_e hn21b
  obtain ⟨hn23a, hn23b⟩ := and_e hn22b
  obtain ⟨hn24a, hn24b⟩ := and_e hn23b
  obtain ⟨hn25a, hn25b⟩ := and_e hn24b
  obtain ⟨hn26a, hn26b⟩ := and_e hn25b
  obtain ⟨hn27a, hn27b⟩ := and_e hn26b
  obtain ⟨hn28a, hn28b⟩ := and_e hn27b
  obtain ⟨hn29a, hn29b⟩ := and_e hn28b
  obtain ⟨hn30a, hn30b⟩ := and_e hn29b
  obtain ⟨hn31a, hn31b⟩ := and_e hn30b
  obtain ⟨hn32a, hn32b⟩ := and_e hn31b
  obtain ⟨hn33a, hn33b⟩ := and_e hn32b
  obtain ⟨hn34a, hn34b⟩ := and_e hn33b
  obtain ⟨hn35a, hn35b⟩ := and_e hn34b
  obtain ⟨hn36a, hn36b⟩ := and_e hn35b
  obtain ⟨hn37a, hn37b⟩ := and_e hn36b
  obtain ⟨hn38a, hn38b⟩ := and_e hn37b
  obtain ⟨Wa, Yo⟩ := exa_v hn1a
  have Ye := Sta.start Yo (Or.inr ⟨(Ka hw 83 rfl), (Ka hw 84 rfl)⟩)
  have Ze := Exa.start Yo hn1a
  obtain ⟨Va, Dj⟩ := arr_v hn2a
  have Ae := Sta.start Dj (Or.inr ⟨(Ka hw 83 rfl), (Ka hw 92 rfl)⟩)
  have Be := Exa.start Dj hn3a
  obtain ⟨Ua, Uo⟩ := exa_v hn6a
  have Ue := Sta.start Uo (Or.inr ⟨(Ka hw 83 rfl), (Ka hw 100 rfl)⟩)
  have Ve := Exa.start Uo hn6a
  obtain ⟨Ra, Mm⟩ := exa_v hn8a
  have Ke := Sta.start Mm (Or.inr ⟨(Ka hw 83 rfl), (Ka hw 101 rfl)⟩)
  have Le := Exa.start Mm hn8a
  obtain ⟨Ia, Zh⟩ := exa_v hn10a
  have Dc := Fld.start ((fld_at Yo).symm.trans Zh)
  have Wb := Exa.start Zh hn10a
  have Ub := Fld.start ((fld_at Zh).symm.trans (Hg hn11a))
  obtain ⟨Da, Ge⟩ := arr_v hn12a
  have Vb := Fld.start ((fld_at Zh).symm.trans Ge)
  obtain ⟨Ha, Uh⟩ := exa_v hn14a
  have Bc := Fld.start ((fld_at Uo).symm.trans Uh)
  have Yb := Exa.start Uh hn14a
  have Pb := Fld.start ((fld_at Uh).symm.trans (Hg hn15a))
  obtain ⟨Ba, Wd⟩ := arr_v hn16a
  have Rb := Fld.start ((fld_at Uh).symm.trans Wd)
  obtain ⟨Ga, Ph⟩ := exa_v hn18a
  have Ac := Fld.start ((fld_at Mm).symm.trans Ph)
  have Zb := Exa.start Ph hn18a
  have Lb := Fld.start ((fld_at Ph).symm.trans (Hg hn19a))
  obtain ⟨Aa, Dd⟩ := arr_v hn20a
  have Mb := Fld.start ((fld_at Ph).symm.trans Dd)
  obtain ⟨Ma, Rk⟩ := is_v (Cond.before_iff.mp (hsets _ (List.mem_of_getElem? (i := 1) rfl)))
  have Hb := Sta.start Rk (Or.inl (hsets _ (List.mem_of_getElem? (i := 0) rfl)))
  have Gb := Waa Rk (Cond.before_iff.mp (hsets _ (List.mem_of_getElem? (i := 2) rfl)))
  obtain ⟨La, Zo, Ap⟩ := isR_v (Cond.before_iff.mp (hsets _ (List.mem_of_getElem? (i := 8) rfl)))
  have Hc := Sta.start Zo (Or.inl (hsets _ (List.mem_of_getElem? (i := 7) rfl)))
  have Gc := Ap
  obtain ⟨Bb, G7⟩ := exa_v (Cond.before_iff.mp (hsets _ (List.mem_of_getElem? (i := 11) rfl)))
  have We := Sta.start G7 (Or.inr ⟨(Ka hw 110 rfl), hsets _ (List.mem_of_getElem? (i := 9) rfl)⟩)
  have Re := Exa.start G7 (Cond.before_iff.mp (hsets _ (List.mem_of_getElem? (i := 11) rfl)))
  have Rc := Fld.start ((fld_at G7).symm.trans (null_v (Cond.before_iff.mp (hsets _ (List.mem_of_getElem? (i := 12) rfl)))))
  obtain ⟨Kba, Gk⟩ := Arr.start Dj hn2a
  have De := Vh.start (dv := .null) (vs := [(.ref Wa), (.ref Ua), (.ref Ra)]) hfit Gk (H7 Dj Gk hn4a) (by decide) rfl ⟨Bf Dj Gk (W7 hn5a Yo) 0 (by decide), Bf Dj Gk (W7 hn7a Uo) 1 (by decide), Bf Dj Gk (W7 hn9a Mm) 2 (by decide), trivial⟩
  obtain ⟨V7, Me⟩ := Arr.start Ge hn12a
  have Ab := Vh.start (dv := (.int 0)) (vs := [(.int 117), (.int 115), (.int 101), (.int 114), (.int 115)]) hfit Me (H7 Ge Me hn13a) (by decide) rfl ⟨Bf Ge Me (Hg hn22a) 0 (by decide), Bf Ge Me (Hg hn23a) 1 (by decide), Bf Ge Me (Hg hn24a) 2 (by decide), Bf Ge Me (Hg hn25a) 3 (by decide), Bf Ge Me (Hg hn26a) 4 (by decide), trivial⟩
  obtain ⟨P7, Zd⟩ := Arr.start Wd hn16a
  have Za := Vh.start (dv := (.int 0)) (vs := [(.int 103), (.int 114), (.int 111), (.int 117), (.int 112), (.int 115)]) hfit Zd (H7 Wd Zd hn17a) (by decide) rfl ⟨Bf Wd Zd (Hg hn27a) 0 (by decide), Bf Wd Zd (Hg hn28a) 1 (by decide), Bf Wd Zd (Hg hn29a) 2 (by decide), Bf Wd Zd (Hg hn30a) 3 (by decide), Bf Wd Zd (Hg hn31a) 4 (by decide), Bf Wd Zd (Hg hn32a) 5 (by decide), trivial⟩
  obtain ⟨M7, Vd⟩ := Arr.start Dd hn20a
  have Ya := Vh.start (dv := (.int 0)) (vs := [(.int 100), (.int 101), (.int 118), (.int 105), (.int 99), (.int 101), (.int 115)]) hfit Vd (H7 Dd Vd hn21a) (by decide) rfl ⟨Bf Dd Vd (Hg hn33a) 0 (by decide), Bf Dd Vd (Hg hn34a) 1 (by decide), Bf Dd Vd (Hg hn35a) 2 (by decide), Bf Dd Vd (Hg hn36a) 3 (by decide), Bf Dd Vd (Hg hn37a) 4 (by decide), Bf Dd Vd (Hg hn38a) 5 (by decide), Bf Dd Vd (Hg hn38b) 6 (by decide), trivial⟩
  obtain ⟨n, o, h1, h2, h3, _, L, rfl, ⟨rfl, N⟩, hq⟩ := rm_law l s _ hw tables_1 i0 i1 i2 i3 i4 Wa Va Ua Ra Ia Da Ha Ba Ga Aa Ma La Bb s.heap s.heap.size (Old.start s) ⟨Ye, Ze, Ae, Be, Ue, Ve, Ke, Le, Dc, Wb, Ub, Vb, Bc, Yb, Pb, Rb, Ac, Zb, Lb, Mb, Hb, Gb, Hc, Gc, We, Re, Rc, De, Ab, Za, Ya⟩  p e ha hc hk s m _ below hf ((Spec.applies_iff_loose hf).mp happ).1 ⟨rfl, State.Warmed39.refl s, rfl, CHv.start (Af hw) (fun p hp => hcalls.1 p hp) (hsets _ (List.mem_of_getElem? (i := 2) rfl)) (Ka hw 3 rfl) (Ka hw 2 rfl)⟩ trivial
  refine ⟨n, _, h1, h2, h3, hpost _ _ _ _ _ _ ⟨Cond.after_iff.mpr rfl, Cond.after_iff.mpr (eq_i res_at (Term.int_eval (1)) rfl), trivial⟩ ⟨hq.1, hq.2.1, hq.2.2.1, (hq.2.2.2.sift fun y hy => Or.inr (N y hy)).mono (by decide) (by decide)⟩⟩
theorem main_1_1 : Claimed_1_1 := comes_1 fun _ _ _ _ _ _ h hF => ⟨h.1, hF⟩
theorem main_1_2 : Claimed_1_2 := comes_1 fun _ _ _ _ _ _ h hF => ⟨h.2.1, hF⟩
end Jvm.Pilot.@@N@@
namespace Jvm.Pilot.@@N@@
open Jvm Jvm.ClassFile Sem Op Lib Jvm.Free Jvm.Stand Jvm.Pilot.@@N@@.Jvm.D
/-! MADE BY PROGRAM (witnessworld.py) out of the Statement's table words and the real class files: 25 classes; the members and pool entries that the words name. The judged class is class 1, her method 3. -/
namespace start1
open Jvm.ClassFile
def u (s : String) : CpInfo := .utf8 (stringToUtf16 s)
/-- a pool by its gaps: so many unusable entries, then the entry; so many at the end -/
def gap : Nat → List CpInfo → List CpInfo
  | 0, r => r
  | n + 1, r => .unusable :: gap n r
def poolList (es : List (Nat × CpInfo)) (last : Nat) : List CpInfo := es.foldr (fun e r => gap e.1 (e.2 :: r)) (gap last [])
def pool (es : List (Nat × CpInfo)) (last : Nat) : Array CpInfo := ⟨poolList es last⟩
def fileOf (pool : Array CpInfo) (this : Nat) (attrs : Array Attribute := #[]) (ms : Array MethodInfo := #[]) (fl : Nat := 33) (sup : Nat := 0) (ifs : Array Nat := #[]) (fds : Array FieldInfo := #[]) : ClassFile where
  minorVersion := 0
  majorVersion := 65
  constantPool := pool
  accessFlags := fl
  thisClass := this
  superClass := sup
  interfaces := ifs
  fields := fds
  methods := ms
  attributes := attrs
def plain (name : String) (sup : Option ClassId) : Class where
  name := name
  kind := .ordinary
  loader := none
  accessFlags := 33
  super := sup
  interfaces := #[]
  cf := none
  fields := #[]
  methods := #[]
  instanceTypes := #[]
  staticTypes := #[]
  resolved := #[]
  callSites := []
  init := .initialized
  statics := none
  mirror := none

def pool0 : Array CpInfo := pool [(5, u "<init>"), (0, u "()V"), (1, .class_ 10), (1, u "java/lang/Object"), (85, u "clone"), (0, u "()Ljava/lang/Object;")] 26

def k0c0 : Code := { maxStack := 0, maxLocals := 1, code := object_method_1_code, exceptionTable := #[], attributes := #[] }
def k0m0 : Method := { name := "<init>", desc := "()V", sig := { parameters := [], returnType := none }, accessFlags := 1, code := some k0c0 }
def k0m1 : Method := { name := "clone", desc := "()Ljava/lang/Object;", sig := { parameters := [], returnType := some (.object "java/lang/Object") }, accessFlags := 260, code := none }
/-- java/lang/Object -/
def k0 : Class := { plain "java/lang/Object" none with
  accessFlags := 33
  interfaces := #[]
  cf := some (fileOf pool0 8 #[] #[{ accessFlags := 1, nameIndex := 5, descriptorIndex := 6, attributes := #[] }, { accessFlags := 260, nameIndex := 96, descriptorIndex := 97, attributes := #[] }] 33 0 #[] #[])
  fields := #[]
  methods := #[k0m0, k0m1]
  instanceTypes := #[]
  staticTypes := #[]
  resolved := Array.replicate 124 none
  statics := none }

def pool1 : Array CpInfo := pool [(2, .class_ 4), (1, u "java/lang/Object"), (0, u "<init>"), (0, u "()V"), (0, .methodref 8 9), (0, .class_ 10), (0, .nameAndType 11 12), (0, u "java/lang/String"), (0, u "length"), (0, u "()I"), (0, .methodref 8 14), (0, .nameAndType 15 16), (0, u "charAt"), (0, u "(I)C"), (0, .long 255), (1, .methodref 8 20), (0, .nameAndType 5 21), (0, u "([C)V"), (0, .string 23), (0, u ""), (0, .string 25), (0, u "users"), (0, .string 27), (0, u "groups"), (0, .string 29), (0, u "devices"), (0, .methodref 31 32), (0, .class_ 33), (0, .nameAndType 34 35), (0, u "com/example/entitlement_ledger/entitlementledger/model/AssigneeKindOfCollectionNamePinLaw"), (0, u "pick"), (0, u "(Ljava/lang/String;JI)C"), (0, .integer 2147483647), (0, .methodref 31 38), (0, .nameAndType 39 40), (0, u "make"), (0, u "([CI)Ljava/lang/String;"), (0, .methodref 8 42), (0, .nameAndType 43 44), (0, u "equals"), (0, u "(Ljava/lang/Object;)Z"), (0, .fieldref 46 47), (0, .class_ 48), (0, .nameAndType 49 50), (0, u "com/example/entitlement_ledger/entitlementledger/model/AssigneeKind"), (0, u "USER"), (0, u "Lcom/example/entitlement_ledger/entitlementledger/model/AssigneeKind;"), (0, .fieldref 46 52), (0, .nameAndType 53 50), (0, u "GROUP"), (0, .fieldref 46 55), (0, .nameAndType 56 50), (0, u "DEVICE"), (0, .methodref 46 58), (0, .nameAndType 59 60), (0, u "ofCollectionName"), (0, u "(Ljava/lang/String;)Ljava/util/Optional;"), (0, .methodref 62 63), (0, .class_ 64), (0, .nameAndType 65 66), (0, u "java/util/Optional"), (0, u "orElse"), (0, u "(Ljava/lang/Object;)Ljava/lang/Object;"), (3, u "law"), (0, u "(IIJII)Z")] 4

def k1m0 : Method := { name := "<init>", desc := "()V", sig := { parameters := [], returnType := none }, accessFlags := 2, code := none }
def k1c1 : Code := { maxStack := 5, maxLocals := 4, code := method_2_code, exceptionTable := #[], attributes := #[] }
def k1m1 : Method := { name := "pick", desc := "(Ljava/lang/String;JI)C", sig := { parameters := [(.object "java/lang/String"), .long, .int], returnType := some .char }, accessFlags := 10, code := some k1c1 }
def k1c2 : Code := { maxStack := 7, maxLocals := 2, code := method_3_code, exceptionTable := #[], attributes := #[] }
def k1m2 : Method := { name := "make", desc := "([CI)Ljava/lang/String;", sig := { parameters := [(.array .char), .int], returnType := some (.object "java/lang/String") }, accessFlags := 10, code := some k1c2 }
def k1c3 : Code := { maxStack := 6, maxLocals := 15, code := code, exceptionTable := #[], attributes := #[] }
def k1m3 : Method := { name := "law", desc := "(IIJII)Z", sig := { parameters := [.int, .int, .long, .int, .int], returnType := some .boolean }, accessFlags := 9, code := some k1c3 }
/-- com/example/entitlement_ledger/entitlementledger/model/AssigneeKindOfCollectionNamePinLaw -/
def k1 : Class := { plain "com/example/entitlement_ledger/entitlementledger/model/AssigneeKindOfCollectionNamePinLaw" (some 0) with
  accessFlags := 49
  interfaces := #[]
  cf := some (fileOf pool1 31 #[] #[{ accessFlags := 2, nameIndex := 5, descriptorIndex := 6, attributes := #[] }, { accessFlags := 10, nameIndex := 34, descriptorIndex := 35, attributes := #[] }, { accessFlags := 10, nameIndex := 39, descriptorIndex := 40, attributes := #[] }, { accessFlags := 9, nameIndex := 70, descriptorIndex := 71, attributes := #[] }] 49 2 #[] #[])
  fields := #[]
  methods := #[k1m0, k1m1, k1m2, k1m3]
  instanceTypes := #[]
  staticTypes := #[]
  resolved := Array.replicate 76 none
  statics := none }

def pool2 : Array CpInfo := pool [(1, .class_ 2), (0, u "java/io/Serializable"), (0, .class_ 4), (0, u "java/lang/Object")] 2

/-- java/io/Serializable -/
def k2 : Class := { plain "java/io/Serializable" (some 0) with
  accessFlags := 1537
  interfaces := #[]
  cf := some (fileOf pool2 1 #[] #[] 1537 3 #[] #[])
  fields := #[]
  methods := #[]
  instanceTypes := #[]
  staticTypes := #[]
  resolved := Array.replicate 7 none
  statics := none }

def pool3 : Array CpInfo := pool [(1, .class_ 2), (0, u "java/lang/Comparable"), (0, .class_ 4), (0, u "java/lang/Object")] 7

/-- java/lang/Comparable -/
def k3 : Class := { plain "java/lang/Comparable" (some 0) with
  accessFlags := 1537
  interfaces := #[]
  cf := some (fileOf pool3 1 #[] #[] 1537 3 #[] #[])
  fields := #[]
  methods := #[]
  instanceTypes := #[]
  staticTypes := #[]
  resolved := Array.replicate 12 none
  statics := none }

def pool4 : Array CpInfo := pool [(2, .class_ 4), (1, u "java/lang/CharSequence"), (42, .class_ 48), (0, u "java/lang/CharSequence$1CodePointIterator"), (10, .class_ 60), (0, u "java/lang/CharSequence$1CharIterator"), (5, .class_ 67), (0, u "java/lang/Object")] 63

/-- java/lang/CharSequence -/
def k4 : Class := { plain "java/lang/CharSequence" (some 0) with
  accessFlags := 1537
  interfaces := #[]
  cf := some (fileOf pool4 2 #[.nestMembers #[47, 59]] #[] 1537 66 #[] #[])
  fields := #[]
  methods := #[]
  instanceTypes := #[]
  staticTypes := #[]
  resolved := Array.replicate 131 none
  statics := none }

def pool5 : Array CpInfo := pool [(1, .class_ 2), (0, u "java/lang/constant/Constable"), (0, .class_ 4), (0, u "java/lang/Object")] 6

/-- java/lang/constant/Constable -/
def k5 : Class := { plain "java/lang/constant/Constable" (some 0) with
  accessFlags := 1537
  interfaces := #[]
  cf := some (fileOf pool5 1 #[] #[] 1537 3 #[] #[])
  fields := #[]
  methods := #[]
  instanceTypes := #[]
  staticTypes := #[]
  resolved := Array.replicate 11 none
  statics := none }

def pool6 : Array CpInfo := pool [(1, .class_ 2), (0, u "java/lang/constant/ConstantDesc"), (0, .class_ 4), (0, u "java/lang/Object")] 32

/-- java/lang/constant/ConstantDesc -/
def k6 : Class := { plain "java/lang/constant/ConstantDesc" (some 0) with
  accessFlags := 1537
  interfaces := #[]
  cf := some (fileOf pool6 1 #[] #[] 1537 3 #[] #[])
  fields := #[]
  methods := #[]
  instanceTypes := #[]
  staticTypes := #[]
  resolved := Array.replicate 37 none
  statics := none }

def pool7 : Array CpInfo := pool [(1, .methodref 2 3), (0, .class_ 4), (0, .nameAndType 5 6), (0, u "java/lang/Object"), (0, u "<init>"), (0, u "()V"), (0, .string 8), (0, u ""), (0, .fieldref 10 11), (0, .class_ 12), (0, .nameAndType 13 14), (0, u "java/lang/String"), (0, u "value"), (0, u "[B"), (0, .fieldref 10 16), (0, .nameAndType 17 18), (0, u "coder"), (0, u "B"), (2, u "hash"), (0, u "I"), (2, u "hashIsZero"), (0, u "Z"), (0, .methodref 10 28), (0, .nameAndType 5 29), (0, u "([CIILjava/lang/Void;)V"), (8, .fieldref 10 39), (0, .nameAndType 40 26), (0, u "COMPACT_STRINGS"), (1, .class_ 44), (1, u "java/lang/StringUTF16"), (0, u "compress"), (1, .methodref 42 48), (0, .nameAndType 49 50), (0, u "coderFromArrayLen"), (0, u "([BI)B"), (56, .class_ 109), (1, u "java/lang/StringLatin1"), (32, u "()Z"), (34, .methodref 42 178), (0, .nameAndType 45 179), (0, u "([CII)[B"), (154, u "()I"), (0, .methodref 10 336), (0, .nameAndType 17 337), (0, u "()B"), (25, u "([BI)C"), (27, u "(II)V"), (35, u "(I)C"), (64, .methodref 10 493), (0, .nameAndType 494 142), (0, u "isLatin1"), (0, .methodref 107 496), (0, .nameAndType 497 363), (0, u "charAt"), (3, u "checkIndex"), (5, u "length"), (33, .methodref 107 542), (0, .nameAndType 543 544), (0, u "equals"), (0, u "([B[B)Z"), (28, u "(Ljava/lang/Object;)Z"), (1, .class_ 576), (0, u "java/lang/CharSequence"), (22, u "CASE_INSENSITIVE_ORDER"), (0, u "Ljava/util/Comparator;"), (409, u "([C)V"), (42, .fieldref 1054 1055), (0, .class_ 1056), (0, .nameAndType 1057 1058), (0, u "jdk/internal/util/Preconditions"), (0, u "SIOOBE_FORMATTER"), (0, u "Ljava/util/function/BiFunction;"), (0, .methodref 1054 1060), (0, .nameAndType 501 1061), (0, u "(IILjava/util/function/BiFunction;)I"), (39, u "serialPersistentFields"), (0, u "[Ljava/io/ObjectStreamField;"), (0, .class_ 1104), (0, u "java/lang/String$CaseInsensitiveComparator"), (1, .class_ 1107), (0, u "java/io/Serializable"), (0, .class_ 1109), (0, u "java/lang/Comparable"), (0, .class_ 1111), (0, u "java/lang/constant/Constable"), (0, .class_ 1113), (0, u "java/lang/constant/ConstantDesc"), (2, u "serialVersionUID"), (0, u "J"), (3, u "REPL"), (0, u "C"), (2, u "LATIN1"), (1, u "UTF16")] 323

def k7m0 : Method := { name := "<init>", desc := "()V", sig := { parameters := [], returnType := none }, accessFlags := 1, code := none }
def k7c1 : Code := { maxStack := 5, maxLocals := 2, code := jdk_42_method_3_code, exceptionTable := #[], attributes := #[] }
def k7m1 : Method := { name := "<init>", desc := "([C)V", sig := { parameters := [(.array .char)], returnType := none }, accessFlags := 1, code := some k7c1 }
def k7c2 : Code := { maxStack := 2, maxLocals := 1, code := jdk_42_method_54_code, exceptionTable := #[], attributes := #[] }
def k7m2 : Method := { name := "length", desc := "()I", sig := { parameters := [], returnType := some .int }, accessFlags := 1, code := some k7c2 }
def k7c3 : Code := { maxStack := 2, maxLocals := 2, code := jdk_42_method_56_code, exceptionTable := #[], attributes := #[] }
def k7m3 : Method := { name := "charAt", desc := "(I)C", sig := { parameters := [.int], returnType := some .char }, accessFlags := 1, code := some k7c3 }
def k7c4 : Code := { maxStack := 2, maxLocals := 3, code := jdk_42_method_66_code, exceptionTable := #[], attributes := #[] }
def k7m4 : Method := { name := "equals", desc := "(Ljava/lang/Object;)Z", sig := { parameters := [(.object "java/lang/Object")], returnType := some .boolean }, accessFlags := 1, code := some k7c4 }
def k7c5 : Code := { maxStack := 4, maxLocals := 6, code := jdk_42_method_149_code, exceptionTable := #[], attributes := #[] }
def k7m5 : Method := { name := "<init>", desc := "([CIILjava/lang/Void;)V", sig := { parameters := [(.array .char), .int, .int, (.object "java/lang/Void")], returnType := none }, accessFlags := 2, code := some k7c5 }
def k7c6 : Code := { maxStack := 1, maxLocals := 1, code := jdk_42_method_152_code, exceptionTable := #[], attributes := #[] }
def k7m6 : Method := { name := "coder", desc := "()B", sig := { parameters := [], returnType := some .byte }, accessFlags := 0, code := some k7c6 }
def k7c7 : Code := { maxStack := 1, maxLocals := 1, code := jdk_42_method_154_code, exceptionTable := #[], attributes := #[] }
def k7m7 : Method := { name := "isLatin1", desc := "()Z", sig := { parameters := [], returnType := some .boolean }, accessFlags := 0, code := some k7c7 }
def k7c8 : Code := { maxStack := 3, maxLocals := 2, code := jdk_42_method_155_code, exceptionTable := #[], attributes := #[] }
def k7m8 : Method := { name := "checkIndex", desc := "(II)V", sig := { parameters := [.int, .int], returnType := none }, accessFlags := 8, code := some k7c8 }
/-- java/lang/String -/
def k7 : Class := { plain "java/lang/String" (some 0) with
  accessFlags := 49
  interfaces := #[2, 3, 4, 5, 6]
  cf := some (fileOf pool7 10 #[.nestMembers #[1103]] #[{ accessFlags := 1, nameIndex := 5, descriptorIndex := 6, attributes := #[] }, { accessFlags := 1, nameIndex := 5, descriptorIndex := 1010, attributes := #[] }, { accessFlags := 1, nameIndex := 507, descriptorIndex := 334, attributes := #[] }, { accessFlags := 1, nameIndex := 497, descriptorIndex := 427, attributes := #[] }, { accessFlags := 1, nameIndex := 543, descriptorIndex := 573, attributes := #[] }, { accessFlags := 2, nameIndex := 5, descriptorIndex := 29, attributes := #[] }, { accessFlags := 0, nameIndex := 17, descriptorIndex := 337, attributes := #[] }, { accessFlags := 0, nameIndex := 494, descriptorIndex := 142, attributes := #[] }, { accessFlags := 8, nameIndex := 501, descriptorIndex := 391, attributes := #[] }] 49 2 #[1106, 1108, 575, 1110, 1112] #[{ accessFlags := 18, nameIndex := 13, descriptorIndex := 14, attributes := #[] }, { accessFlags := 18, nameIndex := 17, descriptorIndex := 18, attributes := #[] }, { accessFlags := 2, nameIndex := 21, descriptorIndex := 22, attributes := #[] }, { accessFlags := 2, nameIndex := 25, descriptorIndex := 26, attributes := #[] }, { accessFlags := 26, nameIndex := 1116, descriptorIndex := 1117, attributes := #[] }, { accessFlags := 24, nameIndex := 40, descriptorIndex := 26, attributes := #[] }, { accessFlags := 26, nameIndex := 1101, descriptorIndex := 1102, attributes := #[] }, { accessFlags := 26, nameIndex := 1121, descriptorIndex := 1122, attributes := #[] }, { accessFlags := 25, nameIndex := 599, descriptorIndex := 600, attributes := #[] }, { accessFlags := 24, nameIndex := 1125, descriptorIndex := 18, attributes := #[] }, { accessFlags := 24, nameIndex := 1127, descriptorIndex := 18, attributes := #[] }])
  fields := #[{ name := "value", type := (.array .byte), accessFlags := 18, slot := 0, constantValue := 0 }, { name := "coder", type := .byte, accessFlags := 18, slot := 1, constantValue := 0 }, { name := "hash", type := .int, accessFlags := 2, slot := 2, constantValue := 0 }, { name := "hashIsZero", type := .boolean, accessFlags := 2, slot := 3, constantValue := 0 }, { name := "serialVersionUID", type := .long, accessFlags := 26, slot := 0, constantValue := 0 }, { name := "COMPACT_STRINGS", type := .boolean, accessFlags := 24, slot := 1, constantValue := 0 }, { name := "serialPersistentFields", type := (.array (.object "java/io/ObjectStreamField")), accessFlags := 26, slot := 2, constantValue := 0 }, { name := "REPL", type := .char, accessFlags := 26, slot := 3, constantValue := 0 }, { name := "CASE_INSENSITIVE_ORDER", type := (.object "java/util/Comparator"), accessFlags := 25, slot := 4, constantValue := 0 }, { name := "LATIN1", type := .byte, accessFlags := 24, slot := 5, constantValue := 0 }, { name := "UTF16", type := .byte, accessFlags := 24, slot := 6, constantValue := 0 }]
  methods := #[k7m0, k7m1, k7m2, k7m3, k7m4, k7m5, k7m6, k7m7, k7m8]
  instanceTypes := #[(.array .byte), .byte, .int, .boolean]
  staticTypes := #[.long, .boolean, (.array (.object "java/io/ObjectStreamField")), .char, (.object "java/util/Comparator"), .byte, .byte]
  resolved := Array.replicate 1451 none
  statics := some 0 }

def pool8 : Array CpInfo := pool [(1, .class_ 2), (0, u "java/lang/String"), (1, .class_ 6), (1, u "java/lang/Object"), (0, u "<init>"), (0, u "()V"), (0, .methodref 1 10), (0, .nameAndType 11 12), (0, u "checkIndex"), (0, u "(II)V"), (1, .class_ 16), (1, u "java/lang/StringLatin1"), (36, u "([BI)C"), (67, u "$assertionsDisabled"), (0, u "Z"), (98, .class_ 223), (1, u "java/lang/StringLatin1$LinesSpliterator"), (28, u "charAt"), (28, u "equals"), (0, u "([B[B)Z"), (107, .class_ 391), (0, u "java/lang/StringLatin1$CharsSpliterator")] 3

def k8m0 : Method := { name := "<init>", desc := "()V", sig := { parameters := [], returnType := none }, accessFlags := 0, code := none }
def k8c1 : Code := { maxStack := 2, maxLocals := 2, code := jdk_43_method_2_code, exceptionTable := #[], attributes := #[] }
def k8m1 : Method := { name := "charAt", desc := "([BI)C", sig := { parameters := [(.array .byte), .int], returnType := some .char }, accessFlags := 9, code := some k8c1 }
def k8c2 : Code := { maxStack := 3, maxLocals := 3, code := jdk_43_method_13_code, exceptionTable := #[], attributes := #[] }
def k8m2 : Method := { name := "equals", desc := "([B[B)Z", sig := { parameters := [(.array .byte), (.array .byte)], returnType := some .boolean }, accessFlags := 9, code := some k8c2 }
/-- java/lang/StringLatin1 -/
def k8 : Class := { plain "java/lang/StringLatin1" (some 0) with
  accessFlags := 48
  interfaces := #[]
  cf := some (fileOf pool8 14 #[.nestMembers #[390, 221]] #[{ accessFlags := 0, nameIndex := 7, descriptorIndex := 8, attributes := #[] }, { accessFlags := 9, nameIndex := 252, descriptorIndex := 53, attributes := #[] }, { accessFlags := 9, nameIndex := 281, descriptorIndex := 282, attributes := #[] }] 48 4 #[] #[{ accessFlags := 4120, nameIndex := 121, descriptorIndex := 122, attributes := #[] }])
  fields := #[{ name := "$assertionsDisabled", type := .boolean, accessFlags := 4120, slot := 0, constantValue := 0 }]
  methods := #[k8m0, k8m1, k8m2]
  instanceTypes := #[]
  staticTypes := #[.boolean]
  resolved := Array.replicate 395 none
  statics := none }

def pool9 : Array CpInfo := pool [(2, .class_ 4), (1, u "java/lang/Object"), (0, u "<init>"), (0, u "()V"), (17, .class_ 26), (1, u "jdk/internal/util/Preconditions"), (6, u "checkIndex"), (21, .class_ 56), (0, u "jdk/internal/util/Preconditions$4"), (57, .class_ 115), (0, u "jdk/internal/util/Preconditions$1"), (7, u "SIOOBE_FORMATTER"), (0, u "Ljava/util/function/BiFunction;"), (0, .class_ 126), (0, u "jdk/internal/util/Preconditions$2"), (3, u "AIOOBE_FORMATTER"), (0, .class_ 132), (0, u "jdk/internal/util/Preconditions$3"), (3, u "IOOBE_FORMATTER"), (41, u "(IILjava/util/function/BiFunction;)I")] 15

def k9m0 : Method := { name := "<init>", desc := "()V", sig := { parameters := [], returnType := none }, accessFlags := 1, code := none }
def k9c1 : Code := { maxStack := 3, maxLocals := 3, code := jdk_41_method_11_code, exceptionTable := #[], attributes := #[] }
def k9m1 : Method := { name := "checkIndex", desc := "(IILjava/util/function/BiFunction;)I", sig := { parameters := [.int, .int, (.object "java/util/function/BiFunction")], returnType := some .int }, accessFlags := 9, code := some k9c1 }
/-- jdk/internal/util/Preconditions -/
def k9 : Class := { plain "jdk/internal/util/Preconditions" (some 0) with
  accessFlags := 33
  interfaces := #[]
  cf := some (fileOf pool9 24 #[.nestMembers #[55, 131, 125, 114]] #[{ accessFlags := 1, nameIndex := 5, descriptorIndex := 6, attributes := #[] }, { accessFlags := 9, nameIndex := 33, descriptorIndex := 178, attributes := #[] }] 33 2 #[] #[{ accessFlags := 25, nameIndex := 123, descriptorIndex := 124, attributes := #[] }, { accessFlags := 25, nameIndex := 130, descriptorIndex := 124, attributes := #[] }, { accessFlags := 25, nameIndex := 136, descriptorIndex := 124, attributes := #[] }])
  fields := #[{ name := "SIOOBE_FORMATTER", type := (.object "java/util/function/BiFunction"), accessFlags := 25, slot := 0, constantValue := 0 }, { name := "AIOOBE_FORMATTER", type := (.object "java/util/function/BiFunction"), accessFlags := 25, slot := 1, constantValue := 0 }, { name := "IOOBE_FORMATTER", type := (.object "java/util/function/BiFunction"), accessFlags := 25, slot := 2, constantValue := 0 }]
  methods := #[k9m0, k9m1]
  instanceTypes := #[]
  staticTypes := #[(.object "java/util/function/BiFunction"), (.object "java/util/function/BiFunction"), (.object "java/util/function/BiFunction")]
  resolved := Array.replicate 194 none
  statics := some 1 }

def pool10 : Array CpInfo := pool [(6, .class_ 8), (1, u "java/lang/Object"), (0, u "<init>"), (0, u "()V"), (1, .class_ 14), (1, u "java/lang/StringUTF16"), (31, u "$assertionsDisabled"), (0, u "Z"), (13, u "HI_BYTE_SHIFT"), (0, u "I"), (2, u "LO_BYTE_SHIFT"), (49, .methodref 12 116), (0, .nameAndType 117 118), (0, u "compress"), (0, u "([CI[BII)I"), (3, u "([CII)[B"), (138, u "coderFromArrayLen"), (0, u "([BI)B"), (106, .class_ 371), (1, u "java/lang/StringUTF16$LinesSpliterator"), (58, u "MAX_LENGTH"), (196, .class_ 628), (0, u "java/lang/StringUTF16$CodePointsSpliterator"), (0, .class_ 630), (0, u "java/lang/StringUTF16$CharsSpliterator")] 4

def k10m0 : Method := { name := "<init>", desc := "()V", sig := { parameters := [], returnType := none }, accessFlags := 0, code := none }
def k10c1 : Code := { maxStack := 2, maxLocals := 2, code := jdk_52_method_15_code, exceptionTable := #[], attributes := #[] }
def k10m1 : Method := { name := "coderFromArrayLen", desc := "([BI)B", sig := { parameters := [(.array .byte), .int], returnType := some .byte }, accessFlags := 8, code := some k10c1 }
def k10c2 : Code := { maxStack := 5, maxLocals := 6, code := jdk_52_method_16_code, exceptionTable := #[], attributes := #[] }
def k10m2 : Method := { name := "compress", desc := "([CII)[B", sig := { parameters := [(.array .char), .int, .int], returnType := some (.array .byte) }, accessFlags := 9, code := some k10c2 }
def k10c3 : Code := { maxStack := 3, maxLocals := 7, code := jdk_52_method_21_code, exceptionTable := #[], attributes := #[] }
def k10m3 : Method := { name := "compress", desc := "([CI[BII)I", sig := { parameters := [(.array .char), .int, (.array .byte), .int, .int], returnType := some .int }, accessFlags := 9, code := some k10c3 }
/-- java/lang/StringUTF16 -/
def k10 : Class := { plain "java/lang/StringUTF16" (some 0) with
  accessFlags := 48
  interfaces := #[]
  cf := some (fileOf pool10 12 #[.nestMembers #[627, 629, 369]] #[{ accessFlags := 0, nameIndex := 9, descriptorIndex := 10, attributes := #[] }, { accessFlags := 8, nameIndex := 261, descriptorIndex := 262, attributes := #[] }, { accessFlags := 9, nameIndex := 117, descriptorIndex := 122, attributes := #[] }, { accessFlags := 9, nameIndex := 117, descriptorIndex := 118, attributes := #[] }] 48 6 #[] #[{ accessFlags := 26, nameIndex := 61, descriptorIndex := 62, attributes := #[] }, { accessFlags := 26, nameIndex := 65, descriptorIndex := 62, attributes := #[] }, { accessFlags := 24, nameIndex := 430, descriptorIndex := 62, attributes := #[] }, { accessFlags := 4120, nameIndex := 46, descriptorIndex := 47, attributes := #[] }])
  fields := #[{ name := "HI_BYTE_SHIFT", type := .int, accessFlags := 26, slot := 0, constantValue := 0 }, { name := "LO_BYTE_SHIFT", type := .int, accessFlags := 26, slot := 1, constantValue := 0 }, { name := "MAX_LENGTH", type := .int, accessFlags := 24, slot := 2, constantValue := 0 }, { name := "$assertionsDisabled", type := .boolean, accessFlags := 4120, slot := 3, constantValue := 0 }]
  methods := #[k10m0, k10m1, k10m2, k10m3]
  instanceTypes := #[]
  staticTypes := #[.int, .int, .int, .boolean]
  resolved := Array.replicate 635 none
  statics := none }

def pool11 : Array CpInfo := pool [(2, .class_ 4), (1, u "java/lang/Enum"), (0, u "name"), (0, u "Ljava/lang/String;"), (2, u "ordinal"), (0, u "I"), (1, .class_ 14), (1, u "java/lang/Object"), (4, u "hash"), (86, .class_ 108), (1, u "java/lang/Enum$EnumDesc"), (2, .class_ 112), (0, u "java/lang/constant/Constable"), (0, .class_ 114), (0, u "java/lang/Comparable"), (0, .class_ 116), (0, u "java/io/Serializable")] 87

/-- java/lang/Enum -/
def k11 : Class := { plain "java/lang/Enum" (some 0) with
  accessFlags := 1057
  interfaces := #[5, 3, 2]
  cf := some (fileOf pool11 2 #[.nestMembers #[106]] #[] 1057 12 #[111, 113, 115] #[{ accessFlags := 18, nameIndex := 5, descriptorIndex := 6, attributes := #[] }, { accessFlags := 18, nameIndex := 9, descriptorIndex := 10, attributes := #[] }, { accessFlags := 2, nameIndex := 19, descriptorIndex := 10, attributes := #[] }])
  fields := #[{ name := "name", type := (.object "java/lang/String"), accessFlags := 18, slot := 0, constantValue := 0 }, { name := "ordinal", type := .int, accessFlags := 18, slot := 1, constantValue := 0 }, { name := "hash", type := .int, accessFlags := 2, slot := 2, constantValue := 0 }]
  methods := #[]
  instanceTypes := #[(.object "java/lang/String"), .int, .int]
  staticTypes := #[]
  resolved := Array.replicate 204 none
  statics := none }

def pool12 : Array CpInfo := pool [(9, .class_ 10), (0, u "com/example/entitlement_ledger/entitlementledger/model/WireNamed"), (20, .class_ 32), (0, u "java/lang/Object")] 24

/-- com/example/entitlement_ledger/entitlementledger/model/WireNamed -/
def k12 : Class := { plain "com/example/entitlement_ledger/entitlementledger/model/WireNamed" (some 0) with
  accessFlags := 1537
  interfaces := #[]
  cf := some (fileOf pool12 9 #[] #[] 1537 31 #[] #[])
  fields := #[]
  methods := #[]
  instanceTypes := #[]
  staticTypes := #[]
  resolved := Array.replicate 57 none
  statics := none }

def pool13 : Array CpInfo := pool [(1, .class_ 2), (0, u "com/example/entitlement_ledger/entitlementledger/model/AssigneeKind"), (2, u "USER"), (0, u "Lcom/example/entitlement_ledger/entitlementledger/model/AssigneeKind;"), (2, u "GROUP"), (2, u "DEVICE"), (0, .fieldref 1 14), (0, .nameAndType 15 16), (0, u "$VALUES"), (0, u "[Lcom/example/entitlement_ledger/entitlementledger/model/AssigneeKind;"), (0, .methodref 18 19), (0, .class_ 16), (0, .nameAndType 20 21), (0, u "clone"), (0, u "()Ljava/lang/Object;"), (1, .class_ 25), (1, u "java/lang/Enum"), (8, u "wireName"), (0, u "Ljava/lang/String;"), (0, .fieldref 1 37), (0, .nameAndType 38 35), (0, u "collectionName"), (0, .methodref 1 40), (0, .nameAndType 41 42), (0, u "values"), (0, u "()[Lcom/example/entitlement_ledger/entitlementledger/model/AssigneeKind;"), (0, .methodref 44 45), (0, .class_ 46), (0, .nameAndType 47 48), (0, u "java/lang/String"), (0, u "equals"), (0, u "(Ljava/lang/Object;)Z"), (0, .methodref 50 51), (0, .class_ 52), (0, .nameAndType 53 54), (0, u "java/util/Optional"), (0, u "of"), (0, u "(Ljava/lang/Object;)Ljava/util/Optional;"), (0, .methodref 50 56), (0, .nameAndType 57 58), (0, u "empty"), (0, u "()Ljava/util/Optional;"), (21, .class_ 82), (1, u "com/example/entitlement_ledger/entitlementledger/model/WireNamed"), (63, u "ofCollectionName"), (0, u "(Ljava/lang/String;)Ljava/util/Optional;")] 29

def k13c0 : Code := { maxStack := 1, maxLocals := 0, code := prog_3_method_1_code, exceptionTable := #[], attributes := #[] }
def k13m0 : Method := { name := "values", desc := "()[Lcom/example/entitlement_ledger/entitlementledger/model/AssigneeKind;", sig := { parameters := [], returnType := some (.array (.object "com/example/entitlement_ledger/entitlementledger/model/AssigneeKind")) }, accessFlags := 9, code := some k13c0 }
def k13c1 : Code := { maxStack := 2, maxLocals := 5, code := prog_3_method_6_code, exceptionTable := #[], attributes := #[] }
def k13m1 : Method := { name := "ofCollectionName", desc := "(Ljava/lang/String;)Ljava/util/Optional;", sig := { parameters := [(.object "java/lang/String")], returnType := some (.object "java/util/Optional") }, accessFlags := 9, code := some k13c1 }
/-- com/example/entitlement_ledger/entitlementledger/model/AssigneeKind -/
def k13 : Class := { plain "com/example/entitlement_ledger/entitlementledger/model/AssigneeKind" (some 11) with
  accessFlags := 16433
  interfaces := #[12]
  cf := some (fileOf pool13 1 #[] #[{ accessFlags := 9, nameIndex := 41, descriptorIndex := 42, attributes := #[] }, { accessFlags := 9, nameIndex := 146, descriptorIndex := 147, attributes := #[] }] 16433 23 #[80] #[{ accessFlags := 16409, nameIndex := 5, descriptorIndex := 6, attributes := #[] }, { accessFlags := 16409, nameIndex := 9, descriptorIndex := 6, attributes := #[] }, { accessFlags := 16409, nameIndex := 12, descriptorIndex := 6, attributes := #[] }, { accessFlags := 18, nameIndex := 34, descriptorIndex := 35, attributes := #[] }, { accessFlags := 18, nameIndex := 38, descriptorIndex := 35, attributes := #[] }, { accessFlags := 4122, nameIndex := 15, descriptorIndex := 16, attributes := #[] }])
  fields := #[{ name := "USER", type := (.object "com/example/entitlement_ledger/entitlementledger/model/AssigneeKind"), accessFlags := 16409, slot := 0, constantValue := 0 }, { name := "GROUP", type := (.object "com/example/entitlement_ledger/entitlementledger/model/AssigneeKind"), accessFlags := 16409, slot := 1, constantValue := 0 }, { name := "DEVICE", type := (.object "com/example/entitlement_ledger/entitlementledger/model/AssigneeKind"), accessFlags := 16409, slot := 2, constantValue := 0 }, { name := "wireName", type := (.object "java/lang/String"), accessFlags := 18, slot := 3, constantValue := 0 }, { name := "collectionName", type := (.object "java/lang/String"), accessFlags := 18, slot := 4, constantValue := 0 }, { name := "$VALUES", type := (.array (.object "com/example/entitlement_ledger/entitlementledger/model/AssigneeKind")), accessFlags := 4122, slot := 3, constantValue := 0 }]
  methods := #[k13m0, k13m1]
  instanceTypes := #[(.object "java/lang/String"), .int, .int, (.object "java/lang/String"), (.object "java/lang/String")]
  staticTypes := #[(.object "com/example/entitlement_ledger/entitlementledger/model/AssigneeKind"), (.object "com/example/entitlement_ledger/entitlementledger/model/AssigneeKind"), (.object "com/example/entitlement_ledger/entitlementledger/model/AssigneeKind"), (.array (.object "com/example/entitlement_ledger/entitlementledger/model/AssigneeKind"))]
  resolved := Array.replicate 177 none
  statics := some 2 }

def pool14 : Array CpInfo := pool [(1, .class_ 2), (0, u "java/lang/Cloneable"), (0, .class_ 4), (0, u "java/lang/Object")] 2

/-- java/lang/Cloneable -/
def k14 : Class := { plain "java/lang/Cloneable" (some 0) with
  accessFlags := 1537
  interfaces := #[]
  cf := some (fileOf pool14 1 #[] #[] 1537 3 #[] #[])
  fields := #[]
  methods := #[]
  instanceTypes := #[]
  staticTypes := #[]
  resolved := Array.replicate 7 none
  statics := none }

def pool15 : Array CpInfo := pool [(1, .fieldref 2 3), (0, .class_ 4), (0, .nameAndType 5 6), (0, u "java/util/Optional"), (0, u "EMPTY"), (0, u "Ljava/util/Optional;"), (0, .methodref 8 9), (0, .class_ 10), (0, .nameAndType 11 12), (0, u "java/lang/Object"), (0, u "<init>"), (0, u "()V"), (0, .fieldref 2 14), (0, .nameAndType 15 16), (0, u "value"), (0, u "Ljava/lang/Object;"), (0, .methodref 18 19), (0, .class_ 20), (0, .nameAndType 21 22), (0, u "java/util/Objects"), (0, u "requireNonNull"), (0, u "(Ljava/lang/Object;)Ljava/lang/Object;"), (0, .methodref 2 24), (0, .nameAndType 11 25), (0, u "(Ljava/lang/Object;)V"), (29, u "empty"), (0, u "()Ljava/util/Optional;"), (8, u "(Ljava/lang/Object;)Ljava/util/Optional;"), (16, u "of"), (82, u "orElse")] 21

def k15c0 : Code := { maxStack := 1, maxLocals := 1, code := jdk_32_method_1_code, exceptionTable := #[], attributes := #[] }
def k15m0 : Method := { name := "empty", desc := "()Ljava/util/Optional;", sig := { parameters := [], returnType := some (.object "java/util/Optional") }, accessFlags := 9, code := some k15c0 }
def k15c1 : Code := { maxStack := 2, maxLocals := 2, code := jdk_32_method_2_code, exceptionTable := #[], attributes := #[] }
def k15m1 : Method := { name := "<init>", desc := "(Ljava/lang/Object;)V", sig := { parameters := [(.object "java/lang/Object")], returnType := none }, accessFlags := 2, code := some k15c1 }
def k15c2 : Code := { maxStack := 3, maxLocals := 1, code := jdk_32_method_3_code, exceptionTable := #[], attributes := #[] }
def k15m2 : Method := { name := "of", desc := "(Ljava/lang/Object;)Ljava/util/Optional;", sig := { parameters := [(.object "java/lang/Object")], returnType := some (.object "java/util/Optional") }, accessFlags := 9, code := some k15c2 }
def k15c3 : Code := { maxStack := 1, maxLocals := 2, code := jdk_32_method_15_code, exceptionTable := #[], attributes := #[] }
def k15m3 : Method := { name := "orElse", desc := "(Ljava/lang/Object;)Ljava/lang/Object;", sig := { parameters := [(.object "java/lang/Object")], returnType := some (.object "java/lang/Object") }, accessFlags := 1, code := some k15c3 }
/-- java/util/Optional -/
def k15 : Class := { plain "java/util/Optional" (some 0) with
  accessFlags := 49
  interfaces := #[]
  cf := some (fileOf pool15 2 #[] #[{ accessFlags := 9, nameIndex := 55, descriptorIndex := 56, attributes := #[] }, { accessFlags := 2, nameIndex := 11, descriptorIndex := 25, attributes := #[] }, { accessFlags := 9, nameIndex := 82, descriptorIndex := 65, attributes := #[] }, { accessFlags := 1, nameIndex := 165, descriptorIndex := 22, attributes := #[] }] 49 8 #[] #[{ accessFlags := 26, nameIndex := 5, descriptorIndex := 6, attributes := #[] }, { accessFlags := 18, nameIndex := 15, descriptorIndex := 16, attributes := #[] }])
  fields := #[{ name := "EMPTY", type := (.object "java/util/Optional"), accessFlags := 26, slot := 0, constantValue := 0 }, { name := "value", type := (.object "java/lang/Object"), accessFlags := 18, slot := 0, constantValue := 0 }]
  methods := #[k15m0, k15m1, k15m2, k15m3]
  instanceTypes := #[(.object "java/lang/Object")]
  staticTypes := #[(.object "java/util/Optional")]
  resolved := Array.replicate 187 none
  statics := some 3 }

def pool16 : Array CpInfo := pool [(2, .class_ 4), (1, u "java/lang/Object"), (0, u "<init>"), (0, u "()V"), (35, .class_ 44), (1, u "java/util/Objects"), (0, u "requireNonNull"), (0, u "(Ljava/lang/Object;)Ljava/lang/Object;")] 137

def k16m0 : Method := { name := "<init>", desc := "()V", sig := { parameters := [], returnType := none }, accessFlags := 2, code := none }
def k16c1 : Code := { maxStack := 2, maxLocals := 1, code := jdk_31_method_10_code, exceptionTable := #[], attributes := #[] }
def k16m1 : Method := { name := "requireNonNull", desc := "(Ljava/lang/Object;)Ljava/lang/Object;", sig := { parameters := [(.object "java/lang/Object")], returnType := some (.object "java/lang/Object") }, accessFlags := 9, code := some k16c1 }
/-- java/util/Objects -/
def k16 : Class := { plain "java/util/Objects" (some 0) with
  accessFlags := 49
  interfaces := #[]
  cf := some (fileOf pool16 42 #[] #[{ accessFlags := 2, nameIndex := 5, descriptorIndex := 6, attributes := #[] }, { accessFlags := 9, nameIndex := 45, descriptorIndex := 46, attributes := #[] }] 49 2 #[] #[])
  fields := #[]
  methods := #[k16m0, k16m1]
  instanceTypes := #[]
  staticTypes := #[]
  resolved := Array.replicate 184 none
  statics := none }

def pool17 : Array CpInfo := pool [(9, u "<init>"), (6, .class_ 18), (1, u "java/lang/Object"), (0, u "()V"), (1, .class_ 23), (1, u "jdk/internal/util/ArraysSupport"), (0, u "LOG2_ARRAY_LONG_INDEX_SCALE"), (0, u "I"), (2, u "U"), (0, u "Ljdk/internal/misc/Unsafe;"), (8, u "BIG_ENDIAN"), (0, u "Z"), (8, u "LOG2_BYTE_BIT_SIZE"), (4, u "LOG2_ARRAY_INT_INDEX_SCALE"), (54, u "JLA"), (0, u "Ljdk/internal/access/JavaLangAccess;"), (11, u "LOG2_ARRAY_BOOLEAN_INDEX_SCALE"), (9, u "LOG2_ARRAY_BYTE_INDEX_SCALE"), (5, u "LOG2_ARRAY_CHAR_INDEX_SCALE"), (5, u "LOG2_ARRAY_SHORT_INDEX_SCALE"), (18, u "LOG2_ARRAY_FLOAT_INDEX_SCALE"), (24, u "LOG2_ARRAY_DOUBLE_INDEX_SCALE"), (89, u "T_BOOLEAN"), (2, u "T_CHAR"), (1, u "T_FLOAT"), (1, u "T_DOUBLE"), (1, u "T_BYTE"), (1, u "T_SHORT"), (1, u "T_INT"), (1, u "T_LONG"), (1, u "SOFT_MAX_ARRAY_LENGTH")] 83

def k17m0 : Method := { name := "<init>", desc := "()V", sig := { parameters := [], returnType := none }, accessFlags := 2, code := none }
/-- jdk/internal/util/ArraysSupport -/
def k17 : Class := { plain "jdk/internal/util/ArraysSupport" (some 0) with
  accessFlags := 33
  interfaces := #[]
  cf := some (fileOf pool17 21 #[] #[{ accessFlags := 2, nameIndex := 9, descriptorIndex := 19, attributes := #[] }] 33 16 #[] #[{ accessFlags := 24, nameIndex := 28, descriptorIndex := 29, attributes := #[] }, { accessFlags := 26, nameIndex := 38, descriptorIndex := 39, attributes := #[] }, { accessFlags := 25, nameIndex := 121, descriptorIndex := 25, attributes := #[] }, { accessFlags := 25, nameIndex := 131, descriptorIndex := 25, attributes := #[] }, { accessFlags := 25, nameIndex := 137, descriptorIndex := 25, attributes := #[] }, { accessFlags := 25, nameIndex := 143, descriptorIndex := 25, attributes := #[] }, { accessFlags := 25, nameIndex := 53, descriptorIndex := 25, attributes := #[] }, { accessFlags := 25, nameIndex := 24, descriptorIndex := 25, attributes := #[] }, { accessFlags := 25, nameIndex := 162, descriptorIndex := 25, attributes := #[] }, { accessFlags := 25, nameIndex := 187, descriptorIndex := 25, attributes := #[] }, { accessFlags := 26, nameIndex := 48, descriptorIndex := 25, attributes := #[] }, { accessFlags := 25, nameIndex := 277, descriptorIndex := 25, attributes := #[] }, { accessFlags := 25, nameIndex := 280, descriptorIndex := 25, attributes := #[] }, { accessFlags := 25, nameIndex := 282, descriptorIndex := 25, attributes := #[] }, { accessFlags := 25, nameIndex := 284, descriptorIndex := 25, attributes := #[] }, { accessFlags := 25, nameIndex := 286, descriptorIndex := 25, attributes := #[] }, { accessFlags := 25, nameIndex := 288, descriptorIndex := 25, attributes := #[] }, { accessFlags := 25, nameIndex := 290, descriptorIndex := 25, attributes := #[] }, { accessFlags := 25, nameIndex := 292, descriptorIndex := 25, attributes := #[] }, { accessFlags := 26, nameIndex := 108, descriptorIndex := 109, attributes := #[] }, { accessFlags := 25, nameIndex := 294, descriptorIndex := 25, attributes := #[] }])
  fields := #[{ name := "U", type := (.object "jdk/internal/misc/Unsafe"), accessFlags := 24, slot := 0, constantValue := 0 }, { name := "BIG_ENDIAN", type := .boolean, accessFlags := 26, slot := 1, constantValue := 0 }, { name := "LOG2_ARRAY_BOOLEAN_INDEX_SCALE", type := .int, accessFlags := 25, slot := 2, constantValue := 0 }, { name := "LOG2_ARRAY_BYTE_INDEX_SCALE", type := .int, accessFlags := 25, slot := 3, constantValue := 0 }, { name := "LOG2_ARRAY_CHAR_INDEX_SCALE", type := .int, accessFlags := 25, slot := 4, constantValue := 0 }, { name := "LOG2_ARRAY_SHORT_INDEX_SCALE", type := .int, accessFlags := 25, slot := 5, constantValue := 0 }, { name := "LOG2_ARRAY_INT_INDEX_SCALE", type := .int, accessFlags := 25, slot := 6, constantValue := 0 }, { name := "LOG2_ARRAY_LONG_INDEX_SCALE", type := .int, accessFlags := 25, slot := 7, constantValue := 0 }, { name := "LOG2_ARRAY_FLOAT_INDEX_SCALE", type := .int, accessFlags := 25, slot := 8, constantValue := 0 }, { name := "LOG2_ARRAY_DOUBLE_INDEX_SCALE", type := .int, accessFlags := 25, slot := 9, constantValue := 0 }, { name := "LOG2_BYTE_BIT_SIZE", type := .int, accessFlags := 26, slot := 10, constantValue := 0 }, { name := "T_BOOLEAN", type := .int, accessFlags := 25, slot := 11, constantValue := 0 }, { name := "T_CHAR", type := .int, accessFlags := 25, slot := 12, constantValue := 0 }, { name := "T_FLOAT", type := .int, accessFlags := 25, slot := 13, constantValue := 0 }, { name := "T_DOUBLE", type := .int, accessFlags := 25, slot := 14, constantValue := 0 }, { name := "T_BYTE", type := .int, accessFlags := 25, slot := 15, constantValue := 0 }, { name := "T_SHORT", type := .int, accessFlags := 25, slot := 16, constantValue := 0 }, { name := "T_INT", type := .int, accessFlags := 25, slot := 17, constantValue := 0 }, { name := "T_LONG", type := .int, accessFlags := 25, slot := 18, constantValue := 0 }, { name := "JLA", type := (.object "jdk/internal/access/JavaLangAccess"), accessFlags := 26, slot := 19, constantValue := 0 }, { name := "SOFT_MAX_ARRAY_LENGTH", type := .int, accessFlags := 25, slot := 20, constantValue := 0 }]
  methods := #[k17m0]
  instanceTypes := #[]
  staticTypes := #[(.object "jdk/internal/misc/Unsafe"), .boolean, .int, .int, .int, .int, .int, .int, .int, .int, .int, .int, .int, .int, .int, .int, .int, .int, .int, (.object "jdk/internal/access/JavaLangAccess"), .int]
  resolved := Array.replicate 378 none
  statics := none }

/-- the primitive byte -/
def k18 : Class := { plain "byte" none with kind := .primitive 'B', accessFlags := 0x411 }
/-- [B -/
def k19 : Class := { plain "[B" (some 0) with kind := .array 18 .byte, interfaces := #[14, 2], accessFlags := 1041 }

/-- the primitive char -/
def k20 : Class := { plain "char" none with kind := .primitive 'C', accessFlags := 0x411 }
/-- [C -/
def k21 : Class := { plain "[C" (some 0) with kind := .array 20 .char, interfaces := #[14, 2], accessFlags := 1041 }

/-- the primitive int -/
def k22 : Class := { plain "int" none with kind := .primitive 'I', accessFlags := 0x411 }
/-- [I -/
def k23 : Class := { plain "[I" (some 0) with kind := .array 22 .int, interfaces := #[14, 2], accessFlags := 1041 }

/-- [Lcom/example/entitlement_ledger/entitlementledger/model/AssigneeKind; -/
def k24 : Class := { plain "[Lcom/example/entitlement_ledger/entitlementledger/model/AssigneeKind;" (some 0) with kind := .array 13 (.object "com/example/entitlement_ledger/entitlementledger/model/AssigneeKind"), interfaces := #[14, 2], accessFlags := 1041 }

def heap : Heap := #[{ cls := 7, slots := #[.long 0, .int 1, .null, .int 0, .null, .int 0, .int 0], vm := .statics 7 },
  { cls := 9, slots := #[.null, .null, .null], vm := .statics 9 },
  { cls := 13, slots := #[.ref 5, .ref 6, .ref 7, .ref 4], vm := .statics 13 },
  { cls := 15, slots := #[.ref 14], vm := .statics 15 },
  { cls := 24, slots := #[.ref 5, .ref 6, .ref 7], vm := .none },
  { cls := 13, slots := #[.null, .int 0, .int 0, .null, .ref 8], vm := .none },
  { cls := 13, slots := #[.null, .int 0, .int 0, .null, .ref 10], vm := .none },
  { cls := 13, slots := #[.null, .int 0, .int 0, .null, .ref 12], vm := .none },
  { cls := 7, slots := #[.ref 9, .int 0, .int 0, .int 0], vm := .none },
  { cls := 19, slots := #[.int 117, .int 115, .int 101, .int 114, .int 115], vm := .none },
  { cls := 7, slots := #[.ref 11, .int 0, .int 0, .int 0], vm := .none },
  { cls := 19, slots := #[.int 103, .int 114, .int 111, .int 117, .int 112, .int 115], vm := .none },
  { cls := 7, slots := #[.ref 13, .int 0, .int 0, .int 0], vm := .none },
  { cls := 19, slots := #[.int 100, .int 101, .int 118, .int 105, .int 99, .int 101, .int 115], vm := .none },
  { cls := 15, slots := #[.null], vm := .none }]
def classes : Array Class := #[k0, k1, k2, k3, k4, k5, k6, k7, k8, k9, k10, k11, k12, k13, k14, k15, k16, k17, k18, k19, k20, k21, k22, k23, k24]
def interned : List (Array UInt16 × Addr) := []
def slotsUsed : Nat := 64
def theMethod : MethodId := ⟨1, 3⟩
def args0 : Array Value := #[.int 0, .int 3, .long 5, .int 1, .int 97]
def aboutOver (below : List Frame) : State where
  vm := { classes := classes, interned := interned.toArray }
  heap := heap
  slotsUsed := slotsUsed
  threads := #[{ frames := .invoking theMethod args0 :: below }]
def below0 : List Frame := [.native { method := ⟨0, 0⟩, args := #[] }]
def about1 : State := aboutOver below0
def p0 : Program := .bare "" "" ""
def e0 : Env := launch0.env 0 0 0
theorem w_frames : about1.frames = Frame.invoking theMethod args0 :: below0 := rfl
set_option maxRecDepth 65536 in
theorem w_args : argsFit about1.vm theMethod args0 = true := by decide +kernel
set_option maxRecDepth 65536 in
theorem w_heap : heapFits about1 = true := by decide +kernel
set_option maxRecDepth 65536 in
theorem w_runnable : about1.curStatus? = some .runnable := by decide +kernel
set_option maxRecDepth 65536 in
theorem w_alone : about1.alone = true := by decide +kernel
set_option maxRecDepth 65536 in
theorem w_named : about1.methodNamed? x = some theMethod := by decide +kernel
set_option maxRecDepth 65536 in
theorem w_hears : about1.hears theMethod below0 = true := by decide +kernel
set_option maxRecDepth 65536 in
theorem w_ripe : about1.ripe theMethod args0 below0 = true := by decide +kernel
theorem w_running : about1.status = .running := rfl
set_option maxRecDepth 65536 in
theorem w_room : about1.hasRoom e0.platform room_1 = true :=
  launch0.hasRoom_least _ room_1 (by decide +kernel) (by decide +kernel) (by decide +kernel) (by decide +kernel) (by decide +kernel) (by decide +kernel)
theorem allAtoms_all (ts : List Jvm.Cond) (a : Array Jvm.Value) (st : Jvm.State) : (allAtoms ts).before a st = ts.all (fun c => c.before a st) := by
  induction ts with
  | nil => rfl
  | cons c t ih =>
    show (Jvm.Cond.and c (allAtoms t)).before a st = _
    rw [Jvm.Cond.before_and, ih, List.all_cons]
def words1 : List Jvm.Cond := Jvm.Cond.code x code maxLocals ret :: tables_1
/-- a 'code' word, met by the world's own term for the bytes: nothing is compared byte by byte -/
theorem code_word {y : MethodName} {bytes : ByteArray} {mx : Nat} {rt : Option FieldType} {a : Array Value} {s : State} {m : MethodId} {meth : Method} {c : Code} (h1 : s.methodNamed? y = some m) (h2 : s.vm.method? m = some meth) (h3 : meth.code = some c) (h4 : c.code = bytes)
    (h5 : (c.maxLocals == mx && c.exceptionTable.isEmpty && decide (c.maxStack ≤ mostOperands) && decide (meth.sig.returnType = rt) && !meth.locks && decide (parseMethodDescriptor y.desc = some meth.sig)) = true) : (Jvm.Cond.code y bytes mx rt).before a s = true := by
  simp only [Bool.and_eq_true, beq_iff_eq, Bool.not_eq_true', decide_eq_true_eq] at h5
  obtain ⟨⟨⟨⟨⟨g1, g2⟩, g3⟩, g4⟩, g5⟩, g6⟩ := h5
  simp [Cond.before, Cond.holds, Cond.value, h1, h2, h3, h4, g1, g2, g3, g4, g5, g6]
def isCode : Jvm.Cond → Bool
  | .code _ _ _ _ => true
  | _ => false
theorem all_split {L : List Jvm.Cond} {P : Jvm.Cond → Bool} (h1 : L.all (fun c => isCode c || P c) = true) (h2 : ∀ c ∈ L.filter isCode, P c = true) : L.all P = true := by
  refine List.all_eq_true.mpr fun c hc => ?_
  have h := List.all_eq_true.mp h1 c hc
  rcases Bool.eq_false_or_eq_true (isCode c) with hi | hi
  · exact h2 c (List.mem_filter.mpr ⟨hc, hi⟩)
  · simpa [hi] using h
set_option maxRecDepth 65536 in
theorem w_c0 : (Jvm.Cond.code x code maxLocals ret).before args0 about1 = true := code_word (m := ⟨1, 3⟩) (meth := k1m3) (c := k1c3) (by decide +kernel) rfl rfl rfl (by decide +kernel)
set_option maxRecDepth 65536 in
theorem w_c1 : (Jvm.Cond.code ({ cls := "java/lang/String", name := "length", desc := "()I" } : Jvm.MethodName) jdk_42_method_54_code (1 : Nat) (Option.some Jvm.ClassFile.FieldType.int)).before args0 about1 = true := code_word (m := ⟨7, 2⟩) (meth := k7m2) (c := k7c2) (by decide +kernel) rfl rfl rfl (by decide +kernel)
set_option maxRecDepth 65536 in
theorem w_c2 : (Jvm.Cond.code ({ cls := "java/lang/String", name := "coder", desc := "()B" } : Jvm.MethodName) jdk_42_method_152_code (1 : Nat) (Option.some Jvm.ClassFile.FieldType.byte)).before args0 about1 = true := code_word (m := ⟨7, 6⟩) (meth := k7m6) (c := k7c6) (by decide +kernel) rfl rfl rfl (by decide +kernel)
set_option maxRecDepth 65536 in
theorem w_c3 : (Jvm.Cond.code ({ cls := "com/example/entitlement_ledger/entitlementledger/model/AssigneeKindOfCollectionNamePinLaw", name := "pick", desc := "(Ljava/lang/String;JI)C" } : Jvm.MethodName) method_2_code (4 : Nat) (Option.some Jvm.ClassFile.FieldType.char)).before args0 about1 = true := code_word (m := ⟨1, 1⟩) (meth := k1m1) (c := k1c1) (by decide +kernel) rfl rfl rfl (by decide +kernel)
set_option maxRecDepth 65536 in
theorem w_c4 : (Jvm.Cond.code ({ cls := "java/lang/String", name := "charAt", desc := "(I)C" } : Jvm.MethodName) jdk_42_method_56_code (2 : Nat) (Option.some Jvm.ClassFile.FieldType.char)).before args0 about1 = true := code_word (m := ⟨7, 3⟩) (meth := k7m3) (c := k7c3) (by decide +kernel) rfl rfl rfl (by decide +kernel)
set_option maxRecDepth 65536 in
theorem w_c5 : (Jvm.Cond.code ({ cls := "java/lang/String", name := "isLatin1", desc := "()Z" } : Jvm.MethodName) jdk_42_method_154_code (1 : Nat) (Option.some Jvm.ClassFile.FieldType.boolean)).before args0 about1 = true := code_word (m := ⟨7, 7⟩) (meth := k7m7) (c := k7c7) (by decide +kernel) rfl rfl rfl (by decide +kernel)
set_option maxRecDepth 65536 in
theorem w_c6 : (Jvm.Cond.code ({ cls := "java/lang/StringLatin1", name := "charAt", desc := "([BI)C" } : Jvm.MethodName) jdk_43_method_2_code (2 : Nat) (Option.some Jvm.ClassFile.FieldType.char)).before args0 about1 = true := code_word (m := ⟨8, 1⟩) (meth := k8m1) (c := k8c1) (by decide +kernel) rfl rfl rfl (by decide +kernel)
set_option maxRecDepth 65536 in
theorem w_c7 : (Jvm.Cond.code ({ cls := "java/lang/String", name := "checkIndex", desc := "(II)V" } : Jvm.MethodName) jdk_42_method_155_code (2 : Nat) (Option.none : Option Jvm.ClassFile.FieldType)).before args0 about1 = true := code_word (m := ⟨7, 8⟩) (meth := k7m8) (c := k7c8) (by decide +kernel) rfl rfl rfl (by decide +kernel)
set_option maxRecDepth 65536 in
theorem w_c8 : (Jvm.Cond.code ({ cls := "jdk/internal/util/Preconditions", name := "checkIndex", desc := "(IILjava/util/function/BiFunction;)I" } : Jvm.MethodName) jdk_41_method_11_code (3 : Nat) (Option.some Jvm.ClassFile.FieldType.int)).before args0 about1 = true := code_word (m := ⟨9, 1⟩) (meth := k9m1) (c := k9c1) (by decide +kernel) rfl rfl rfl (by decide +kernel)
set_option maxRecDepth 65536 in
theorem w_c9 : (Jvm.Cond.code ({ cls := "com/example/entitlement_ledger/entitlementledger/model/AssigneeKindOfCollectionNamePinLaw", name := "make", desc := "([CI)Ljava/lang/String;" } : Jvm.MethodName) method_3_code (2 : Nat) (Option.some (Jvm.ClassFile.FieldType.object "java/lang/String"))).before args0 about1 = true := code_word (m := ⟨1, 2⟩) (meth := k1m2) (c := k1c2) (by decide +kernel) rfl rfl rfl (by decide +kernel)
set_option maxRecDepth 65536 in
theorem w_c10 : (Jvm.Cond.code ({ cls := "java/lang/String", name := "<init>", desc := "([C)V" } : Jvm.MethodName) jdk_42_method_3_code (2 : Nat) (Option.none : Option Jvm.ClassFile.FieldType)).before args0 about1 = true := code_word (m := ⟨7, 1⟩) (meth := k7m1) (c := k7c1) (by decide +kernel) rfl rfl rfl (by decide +kernel)
set_option maxRecDepth 65536 in
theorem w_c11 : (Jvm.Cond.code ({ cls := "java/lang/String", name := "<init>", desc := "([CIILjava/lang/Void;)V" } : Jvm.MethodName) jdk_42_method_149_code (6 : Nat) (Option.none : Option Jvm.ClassFile.FieldType)).before args0 about1 = true := code_word (m := ⟨7, 5⟩) (meth := k7m5) (c := k7c5) (by decide +kernel) rfl rfl rfl (by decide +kernel)
set_option maxRecDepth 65536 in
theorem w_c12 : (Jvm.Cond.code ({ cls := "java/lang/Object", name := "<init>", desc := "()V" } : Jvm.MethodName) object_method_1_code (1 : Nat) (Option.none : Option Jvm.ClassFile.FieldType)).before args0 about1 = true := code_word (m := ⟨0, 0⟩) (meth := k0m0) (c := k0c0) (by decide +kernel) rfl rfl rfl (by decide +kernel)
set_option maxRecDepth 65536 in
theorem w_c13 : (Jvm.Cond.code ({ cls := "java/lang/StringUTF16", name := "compress", desc := "([CII)[B" } : Jvm.MethodName) jdk_52_method_16_code (6 : Nat) (Option.some (Jvm.ClassFile.FieldType.array Jvm.ClassFile.FieldType.byte))).before args0 about1 = true := code_word (m := ⟨10, 2⟩) (meth := k10m2) (c := k10c2) (by decide +kernel) rfl rfl rfl (by decide +kernel)
set_option maxRecDepth 65536 in
theorem w_c14 : (Jvm.Cond.code ({ cls := "java/lang/StringUTF16", name := "compress", desc := "([CI[BII)I" } : Jvm.MethodName) jdk_52_method_21_code (7 : Nat) (Option.some Jvm.ClassFile.FieldType.int)).before args0 about1 = true := code_word (m := ⟨10, 3⟩) (meth := k10m3) (c := k10c3) (by decide +kernel) rfl rfl rfl (by decide +kernel)
set_option maxRecDepth 65536 in
theorem w_c15 : (Jvm.Cond.code ({ cls := "java/lang/StringUTF16", name := "coderFromArrayLen", desc := "([BI)B" } : Jvm.MethodName) jdk_52_method_15_code (2 : Nat) (Option.some Jvm.ClassFile.FieldType.byte)).before args0 about1 = true := code_word (m := ⟨10, 1⟩) (meth := k10m1) (c := k10c1) (by decide +kernel) rfl rfl rfl (by decide +kernel)
set_option maxRecDepth 65536 in
theorem w_c16 : (Jvm.Cond.code ({ cls := "java/lang/String", name := "equals", desc := "(Ljava/lang/Object;)Z" } : Jvm.MethodName) jdk_42_method_66_code (3 : Nat) (Option.some Jvm.ClassFile.FieldType.boolean)).before args0 about1 = true := code_word (m := ⟨7, 4⟩) (meth := k7m4) (c := k7c4) (by decide +kernel) rfl rfl rfl (by decide +kernel)
set_option maxRecDepth 65536 in
theorem w_c17 : (Jvm.Cond.code ({ cls := "java/lang/StringLatin1", name := "equals", desc := "([B[B)Z" } : Jvm.MethodName) jdk_43_method_13_code (3 : Nat) (Option.some Jvm.ClassFile.FieldType.boolean)).before args0 about1 = true := code_word (m := ⟨8, 2⟩) (meth := k8m2) (c := k8c2) (by decide +kernel) rfl rfl rfl (by decide +kernel)
set_option maxRecDepth 65536 in
theorem w_c18 : (Jvm.Cond.code ({ cls := "com/example/entitlement_ledger/entitlementledger/model/AssigneeKind", name := "ofCollectionName", desc := "(Ljava/lang/String;)Ljava/util/Optional;" } : Jvm.MethodName) prog_3_method_6_code (5 : Nat) (Option.some (Jvm.ClassFile.FieldType.object "java/util/Optional"))).before args0 about1 = true := code_word (m := ⟨13, 1⟩) (meth := k13m1) (c := k13c1) (by decide +kernel) rfl rfl rfl (by decide +kernel)
set_option maxRecDepth 65536 in
theorem w_c19 : (Jvm.Cond.code ({ cls := "com/example/entitlement_ledger/entitlementledger/model/AssigneeKind", name := "values", desc := "()[Lcom/example/entitlement_ledger/entitlementledger/model/AssigneeKind;" } : Jvm.MethodName) prog_3_method_1_code (0 : Nat) (Option.some (Jvm.ClassFile.FieldType.array (Jvm.ClassFile.FieldType.object "com/example/entitlement_ledger/entitlementledger/model/AssigneeKind")))).before args0 about1 = true := code_word (m := ⟨13, 0⟩) (meth := k13m0) (c := k13c0) (by decide +kernel) rfl rfl rfl (by decide +kernel)
set_option maxRecDepth 65536 in
theorem w_c20 : (Jvm.Cond.code ({ cls := "java/util/Optional", name := "of", desc := "(Ljava/lang/Object;)Ljava/util/Optional;" } : Jvm.MethodName) jdk_32_method_3_code (1 : Nat) (Option.some (Jvm.ClassFile.FieldType.object "java/util/Optional"))).before args0 about1 = true := code_word (m := ⟨15, 2⟩) (meth := k15m2) (c := k15c2) (by decide +kernel) rfl rfl rfl (by decide +kernel)
set_option maxRecDepth 65536 in
theorem w_c21 : (Jvm.Cond.code ({ cls := "java/util/Objects", name := "requireNonNull", desc := "(Ljava/lang/Object;)Ljava/lang/Object;" } : Jvm.MethodName) jdk_31_method_10_code (1 : Nat) (Option.some (Jvm.ClassFile.FieldType.object "java/lang/Object"))).before args0 about1 = true := code_word (m := ⟨16, 1⟩) (meth := k16m1) (c := k16c1) (by decide +kernel) rfl rfl rfl (by decide +kernel)
set_option maxRecDepth 65536 in
theorem w_c22 : (Jvm.Cond.code ({ cls := "java/util/Optional", name := "<init>", desc := "(Ljava/lang/Object;)V" } : Jvm.MethodName) jdk_32_method_2_code (2 : Nat) (Option.none : Option Jvm.ClassFile.FieldType)).before args0 about1 = true := code_word (m := ⟨15, 1⟩) (meth := k15m1) (c := k15c1) (by decide +kernel) rfl rfl rfl (by decide +kernel)
set_option maxRecDepth 65536 in
theorem w_c23 : (Jvm.Cond.code ({ cls := "java/util/Optional", name := "orElse", desc := "(Ljava/lang/Object;)Ljava/lang/Object;" } : Jvm.MethodName) jdk_32_method_15_code (2 : Nat) (Option.some (Jvm.ClassFile.FieldType.object "java/lang/Object"))).before args0 about1 = true := code_word (m := ⟨15, 3⟩) (meth := k15m3) (c := k15c3) (by decide +kernel) rfl rfl rfl (by decide +kernel)
set_option maxRecDepth 65536 in
theorem w_c24 : (Jvm.Cond.code ({ cls := "java/util/Optional", name := "empty", desc := "()Ljava/util/Optional;" } : Jvm.MethodName) jdk_32_method_1_code (1 : Nat) (Option.some (Jvm.ClassFile.FieldType.object "java/util/Optional"))).before args0 about1 = true := code_word (m := ⟨15, 0⟩) (meth := k15m0) (c := k15c0) (by decide +kernel) rfl rfl rfl (by decide +kernel)
def codes1 : List Jvm.Cond := [Jvm.Cond.code x code maxLocals ret, Jvm.Cond.code ({ cls := "java/lang/String", name := "length", desc := "()I" } : Jvm.MethodName) jdk_42_method_54_code (1 : Nat) (Option.some Jvm.ClassFile.FieldType.int), Jvm.Cond.code ({ cls := "java/lang/String", name := "coder", desc := "()B" } : Jvm.MethodName) jdk_42_method_152_code (1 : Nat) (Option.some Jvm.ClassFile.FieldType.byte), Jvm.Cond.code ({ cls := "com/example/entitlement_ledger/entitlementledger/model/AssigneeKindOfCollectionNamePinLaw", name := "pick", desc := "(Ljava/lang/String;JI)C" } : Jvm.MethodName) method_2_code (4 : Nat) (Option.some Jvm.ClassFile.FieldType.char), Jvm.Cond.code ({ cls := "java/lang/String", name := "charAt", desc := "(I)C" } : Jvm.MethodName) jdk_42_method_56_code (2 : Nat) (Option.some Jvm.ClassFile.FieldType.char), Jvm.Cond.code ({ cls := "java/lang/String", name := "isLatin1", desc := "()Z" } : Jvm.MethodName) jdk_42_method_154_code (1 : Nat) (Option.some Jvm.ClassFile.FieldType.boolean), Jvm.Cond.code ({ cls := "java/lang/StringLatin1", name := "charAt", desc := "([BI)C" } : Jvm.MethodName) jdk_43_method_2_code (2 : Nat) (Option.some Jvm.ClassFile.FieldType.char), Jvm.Cond.code ({ cls := "java/lang/String", name := "checkIndex", desc := "(II)V" } : Jvm.MethodName) jdk_42_method_155_code (2 : Nat) (Option.none : Option Jvm.ClassFile.FieldType), Jvm.Cond.code ({ cls := "jdk/internal/util/Preconditions", name := "checkIndex", desc := "(IILjava/util/function/BiFunction;)I" } : Jvm.MethodName) jdk_41_method_11_code (3 : Nat) (Option.some Jvm.ClassFile.FieldType.int), Jvm.Cond.code ({ cls := "com/example/entitlement_ledger/entitlementledger/model/AssigneeKindOfCollectionNamePinLaw", name := "make", desc := "([CI)Ljava/lang/String;" } : Jvm.MethodName) method_3_code (2 : Nat) (Option.some (Jvm.ClassFile.FieldType.object "java/lang/String")), Jvm.Cond.code ({ cls := "java/lang/String", name := "<init>", desc := "([C)V" } : Jvm.MethodName) jdk_42_method_3_code (2 : Nat) (Option.none : Option Jvm.ClassFile.FieldType), Jvm.Cond.code ({ cls := "java/lang/String", name := "<init>", desc := "([CIILjava/lang/Void;)V" } : Jvm.MethodName) jdk_42_method_149_code (6 : Nat) (Option.none : Option Jvm.ClassFile.FieldType), Jvm.Cond.code ({ cls := "java/lang/Object", name := "<init>", desc := "()V" } : Jvm.MethodName) object_method_1_code (1 : Nat) (Option.none : Option Jvm.ClassFile.FieldType), Jvm.Cond.code ({ cls := "java/lang/StringUTF16", name := "compress", desc := "([CII)[B" } : Jvm.MethodName) jdk_52_method_16_code (6 : Nat) (Option.some (Jvm.ClassFile.FieldType.array Jvm.ClassFile.FieldType.byte)), Jvm.Cond.code ({ cls := "java/lang/StringUTF16", name := "compress", desc := "([CI[BII)I" } : Jvm.MethodName) jdk_52_method_21_code (7 : Nat) (Option.some Jvm.ClassFile.FieldType.int), Jvm.Cond.code ({ cls := "java/lang/StringUTF16", name := "coderFromArrayLen", desc := "([BI)B" } : Jvm.MethodName) jdk_52_method_15_code (2 : Nat) (Option.some Jvm.ClassFile.FieldType.byte), Jvm.Cond.code ({ cls := "java/lang/String", name := "equals", desc := "(Ljava/lang/Object;)Z" } : Jvm.MethodName) jdk_42_method_66_code (3 : Nat) (Option.some Jvm.ClassFile.FieldType.boolean), Jvm.Cond.code ({ cls := "java/lang/StringLatin1", name := "equals", desc := "([B[B)Z" } : Jvm.MethodName) jdk_43_method_13_code (3 : Nat) (Option.some Jvm.ClassFile.FieldType.boolean), Jvm.Cond.code ({ cls := "com/example/entitlement_ledger/entitlementledger/model/AssigneeKind", name := "ofCollectionName", desc := "(Ljava/lang/String;)Ljava/util/Optional;" } : Jvm.MethodName) prog_3_method_6_code (5 : Nat) (Option.some (Jvm.ClassFile.FieldType.object "java/util/Optional")), Jvm.Cond.code ({ cls := "com/example/entitlement_ledger/entitlementledger/model/AssigneeKind", name := "values", desc := "()[Lcom/example/entitlement_ledger/entitlementledger/model/AssigneeKind;" } : Jvm.MethodName) prog_3_method_1_code (0 : Nat) (Option.some (Jvm.ClassFile.FieldType.array (Jvm.ClassFile.FieldType.object "com/example/entitlement_ledger/entitlementledger/model/AssigneeKind"))), Jvm.Cond.code ({ cls := "java/util/Optional", name := "of", desc := "(Ljava/lang/Object;)Ljava/util/Optional;" } : Jvm.MethodName) jdk_32_method_3_code (1 : Nat) (Option.some (Jvm.ClassFile.FieldType.object "java/util/Optional")), Jvm.Cond.code ({ cls := "java/util/Objects", name := "requireNonNull", desc := "(Ljava/lang/Object;)Ljava/lang/Object;" } : Jvm.MethodName) jdk_31_method_10_code (1 : Nat) (Option.some (Jvm.ClassFile.FieldType.object "java/lang/Object")), Jvm.Cond.code ({ cls := "java/util/Optional", name := "<init>", desc := "(Ljava/lang/Object;)V" } : Jvm.MethodName) jdk_32_method_2_code (2 : Nat) (Option.none : Option Jvm.ClassFile.FieldType), Jvm.Cond.code ({ cls := "java/util/Optional", name := "orElse", desc := "(Ljava/lang/Object;)Ljava/lang/Object;" } : Jvm.MethodName) jdk_32_method_15_code (2 : Nat) (Option.some (Jvm.ClassFile.FieldType.object "java/lang/Object")), Jvm.Cond.code ({ cls := "java/util/Optional", name := "empty", desc := "()Ljava/util/Optional;" } : Jvm.MethodName) jdk_32_method_1_code (1 : Nat) (Option.some (Jvm.ClassFile.FieldType.object "java/util/Optional"))]
set_option maxRecDepth 65536 in
theorem codes_eq : words1.filter isCode = codes1 := rfl
theorem w_codes : ∀ c ∈ words1.filter isCode, c.before args0 about1 = true := by
  rw [codes_eq]
  intro c hc
  simp only [codes1, List.mem_cons, List.not_mem_nil, or_false] at hc
  rcases hc with rfl | rfl | rfl | rfl | rfl | rfl | rfl | rfl | rfl | rfl | rfl | rfl | rfl | rfl | rfl | rfl | rfl | rfl | rfl | rfl | rfl | rfl | rfl | rfl | rfl
  · exact w_c0
  · exact w_c1
  · exact w_c2
  · exact w_c3
  · exact w_c4
  · exact w_c5
  · exact w_c6
  · exact w_c7
  · exact w_c8
  · exact w_c9
  · exact w_c10
  · exact w_c11
  · exact w_c12
  · exact w_c13
  · exact w_c14
  · exact w_c15
  · exact w_c16
  · exact w_c17
  · exact w_c18
  · exact w_c19
  · exact w_c20
  · exact w_c21
  · exact w_c22
  · exact w_c23
  · exact w_c24
set_option maxRecDepth 65536 in
theorem w_t1 : (words1.take 24).all (fun c => isCode c || c.before args0 about1) = true := by decide +kernel
set_option maxRecDepth 65536 in
theorem w_t2 : ((words1.drop 24).take 24).all (fun c => isCode c || c.before args0 about1) = true := by decide +kernel
set_option maxRecDepth 65536 in
theorem w_t3 : (((words1.drop 24).drop 24).take 24).all (fun c => isCode c || c.before args0 about1) = true := by decide +kernel
set_option maxRecDepth 65536 in
theorem w_t4 : ((((words1.drop 24).drop 24).drop 24).take 24).all (fun c => isCode c || c.before args0 about1) = true := by decide +kernel
set_option maxRecDepth 65536 in
theorem w_t5 : (((((words1.drop 24).drop 24).drop 24).drop 24).take 24).all (fun c => isCode c || c.before args0 about1) = true := by decide +kernel
set_option maxRecDepth 65536 in
theorem w_t6 : (((((words1.drop 24).drop 24).drop 24).drop 24).drop 24).all (fun c => isCode c || c.before args0 about1) = true := by decide +kernel
theorem w_tables : (allAtoms (Jvm.Cond.code x code maxLocals ret :: tables_1)).before args0 about1 = true := by
  rw [allAtoms_all]
  show words1.all (fun c => c.before args0 about1) = true
  refine all_split ?_ w_codes
  rw [← List.take_append_drop 24 words1, List.all_append, w_t1, ← List.take_append_drop 24 (words1.drop 24), List.all_append, w_t2, ← List.take_append_drop 24 ((words1.drop 24).drop 24), List.all_append, w_t3, ← List.take_append_drop 24 (((words1.drop 24).drop 24).drop 24), List.all_append, w_t4, ← List.take_append_drop 24 ((((words1.drop 24).drop 24).drop 24).drop 24), List.all_append, w_t5, w_t6]
  rfl
set_option maxRecDepth 65536 in
theorem w_rest : rest_1_c.before args0 about1 = true := by decide +kernel
set_option maxRecDepth 65536 in
theorem w_case : (Jvm.Cond.and given_1 narrow_1).before args0 about1 = true := by decide +kernel
set_option maxRecDepth 65536 in
theorem w_consts : constsHeld consts_1 about1 := Jvm.Lit.constsHeldB_iff.mp (by decide +kernel)
theorem w_applies : (headSpec (Jvm.Cond.code x code maxLocals ret :: tables_1) room_1).applies x e0.platform about1 = true :=
  (Spec.applies_iff w_frames).mpr ⟨w_running, w_runnable, w_alone, w_named, w_hears, w_ripe, w_room, w_tables⟩
theorem atStart : AtStart classFile x code maxLocals ret World_1 tables_1 room_1 Calls_1 rest_1 Pre_1 launch0 p0 e0 about1 theMethod args0 below0 :=
  ⟨lists_1, trivial, launch0.admits_env _ _ _, launch0.least_env, fairChoices_fair.cas, fairChoices_fair.clock, w_frames, w_args, w_heap, w_applies, ⟨w_consts, trivial⟩, w_rest, w_case⟩
end start1
theorem witness_1 : WitnessClaimed_1 := ⟨start1.p0, start1.e0, start1.about1, start1.theMethod, start1.args0, start1.below0, start1.atStart⟩
end Jvm.Pilot.@@N@@
