import JvmDerived
import JvmDerived.Pilot.@@N@@Statement
import JvmDerived.Pilot.@@N@@Code
set_option linter.unusedVariables false
set_option linter.unusedSimpArgs false
/- laws to paste: Road.backV (cut by pick.py; bodies as the Statement names them) -/
namespace Jvm.Pilot.@@N@@
namespace StrChars
open Jvm Sem ClassFile Op Lib Jvm.Stand Jvm.Free.XT Jvm.Free.ALB Jvm.Free.JM Jvm.Free
open Jvm.Lib.Cold (StaticIs)
/-- a char array whose places are chars -/
def Ch (a : Addr) (A : Cell) (U : State) : Prop := Arr .char a A U ∧ Typed .char A
theorem Ch.mv {a : Addr} {A : Cell} {U U' : State} (h : Ch a A U) (hal : U.vm.Alike U'.vm) (hh : U'.heap = U.heap) : Ch a A U' := ⟨h.1.mv hal hh, h.2⟩
theorem Ch.keep {a : Addr} {A : Cell} {U U' : State} (h : Ch a A U) (hal : U.vm.Alike U'.vm) (hk : U'.heap[a]? = some A) : Ch a A U' := ⟨h.1.keep hal hk, h.2⟩
/-- what place i of a char[]'s cell holds -/
def cv (A : Cell) (i : Nat) : Int32 := match A.slots[i]? with | some (.int x) => x | _ => 0
theorem Ch.get {a : Addr} {A : Cell} {U : State} (h : Ch a A U) {i : Nat} (hi : i < A.slots.size) : A.slots[i]? = some (.int (cv A i)) := by
  have e := Array.getElem?_eq_getElem hi
  have f := h.2 i _ e
  unfold cv; rw [e]
  generalize A.slots[i] = v at f
  cases v <;> simp [fits] at f ⊢
/-- the byte that i2b leaves of a char -/
def lo8 (x : Int32) : Int32 := x.toInt8.toInt32
theorem fits_lo8 (y : Int32) : fits .byte (.int (lo8 y)) = true := by
  have h1 := y.toInt8.le_toInt
  have h2 := y.toInt8.toInt_lt
  simp only [lo8, fits, Bool.and_eq_true, decide_eq_true_eq, Int32.le_iff_toInt_le, Int8.toInt_toInt32, show (-128 : Int32).toInt = -128 from by decide, show (127 : Int32).toInt = 127 from by decide]
  omega
/-- A' is A but that each place j of lo .. hi - 1 holds f j -/
def Laid (A A' : Cell) (lo hi : Nat) (f : Nat → Value) : Prop := A'.cls = A.cls ∧ A'.vm = A.vm ∧ A'.slots.size = A.slots.size ∧ ∀ i, A'.slots[i]? = if lo ≤ i ∧ i < hi then some (f i) else A.slots[i]?
theorem Laid.zero (A : Cell) (lo : Nat) (f : Nat → Value) : Laid A A lo (lo + 0) f := ⟨rfl, rfl, rfl, fun i => by rw [if_neg (by omega)]⟩
theorem Laid.step {A Ak : Cell} {lo k : Nat} {f : Nat → Value} {v : Value} (h : Laid A Ak lo k f) (hlo : lo ≤ k) (hk : k < Ak.slots.size) (hv : v = f k) : Laid A (Ak.setSlot k v) lo (k + 1) f := by
  refine ⟨h.1, h.2.1, by simpa [Cell.setSlot] using h.2.2.1, fun i => ?_⟩
  by_cases e : k = i
  · subst e; rw [Cell.slots_setSlot_self v hk, if_pos (by omega), hv]
  · rw [Cell.slots_setSlot_ne v e, h.2.2.2 i]
    by_cases q : lo ≤ i ∧ i < k
    · rw [if_pos q, if_pos (by omega)]
    · rw [if_neg q, if_neg (by omega)]
def U16 : String := "java/lang/StringUTF16"
namespace Cmp5
def yN : MethodName := ⟨"java/lang/StringUTF16", "compress", "([CI[BII)I"⟩
abbrev yB : ByteArray := jdk_52_method_21_code
theorem d0 : decode yB 0 = .ok (.iconst 0, 1) := by decide +kernel
theorem d1 : decode yB 1 = .ok (.istore 5, 2) := by decide +kernel
theorem d3 : decode yB 3 = .ok (.iload 5, 2) := by decide +kernel
theorem d5 : decode yB 5 = .ok (.iload 4, 2) := by decide +kernel
theorem d7 : decode yB 7 = .ok (.if_icmp (.ge) 37, 3) := by decide +kernel
theorem d10 : decode yB 10 = .ok (.aload_n 0, 1) := by decide +kernel
theorem d11 : decode yB 11 = .ok (.iload_n 1, 1) := by decide +kernel
theorem d12 : decode yB 12 = .ok (.caload, 1) := by decide +kernel
theorem d13 : decode yB 13 = .ok (.istore 6, 2) := by decide +kernel
theorem d15 : decode yB 15 = .ok (.iload 6, 2) := by decide +kernel
theorem d17 : decode yB 17 = .ok (.sipush 255, 3) := by decide +kernel
theorem d20 : decode yB 20 = .ok (.if_icmp (.le) 6, 3) := by decide +kernel
theorem d26 : decode yB 26 = .ok (.aload_n 2, 1) := by decide +kernel
theorem d27 : decode yB 27 = .ok (.iload_n 3, 1) := by decide +kernel
theorem d28 : decode yB 28 = .ok (.iload 6, 2) := by decide +kernel
theorem d30 : decode yB 30 = .ok (.i2b, 1) := by decide +kernel
theorem d31 : decode yB 31 = .ok (.bastore, 1) := by decide +kernel
theorem d32 : decode yB 32 = .ok (.iinc 1 1, 3) := by decide +kernel
theorem d35 : decode yB 35 = .ok (.iinc 3 1, 3) := by decide +kernel
theorem d38 : decode yB 38 = .ok (.iinc 5 1, 3) := by decide +kernel
theorem d41 : decode yB 41 = .ok (.goto (-38), 3) := by decide +kernel
theorem d44 : decode yB 44 = .ok (.iload 4, 2) := by decide +kernel
theorem d46 : decode yB 46 = .ok (.ireturn, 1) := by decide +kernel
def site : List Cond := []
def tab : Cond := tabOf yN yB 7 (some .int) site
def P (b : Addr) (A : Cell) (d : Addr) (B : Cell) (o q len : Nat) (args : Array Value) (s : State) : Prop := args = #[.ref b, .int (Int32.ofNat o), .ref d, .int (Int32.ofNat q), .int (Int32.ofNat len)] ∧ Ch b A s ∧ Arr .byte d B s ∧ b ≠ d ∧ o + len ≤ A.slots.size ∧ q + len ≤ B.slots.size ∧ ∀ i, i < len → ¬ 255 < cv A (o + i)
def E (b : Addr) (A : Cell) (d : Addr) (B : Cell) (o q len : Nat) (r : Option Value) (s u : State) : Prop := r = some (.int (Int32.ofNat len)) ∧ ∃ B', Put d B' s u ∧ Laid B B' q (q + len) (fun j => Value.int (lo8 (cv A (o + (j - q)))))
/-- no char of the range above 255: len; the places written hold each char's low byte -/
theorem law (l : Launch) (b : Addr) (A : Cell) (d : Addr) (B : Cell) (o q len : Nat) : Law l yN 5 5 0 0 yB 7 (some .int) site (P b A d B o q len) (E b A d B o q len) (copyLocs d q len) 0 0 := by
  refine Law.of_walk (plainFor_of_name (by decide +kernel)) (by decide +kernel) (by decide +kernel) (by decide) (fun _ _ h => by rw [h.1]; rfl) (fun _ U U' hal hh h => ⟨h.1, h.2.1.mv hal hh, h.2.2.1.mv hal hh, h.2.2.2⟩) (fun r U U' V V' h1 hal h2 h => ⟨h.1, h.2.elim fun B' q => ⟨B', q.1.mv h1 h2, q.2⟩⟩) ?_
  intro p e s m args below meth c s₁ X0 hexec hbytes hml hret hlk hnm hown hh0 W hP
  obtain ⟨rfl, hA, hB, hne, l1, l2, hp⟩ := hP
  have c1 : Steps p.tables e below (s₁.setTop (entryFrame m #[.ref b, .int (Int32.ofNat o), .ref d, .int (Int32.ofNat q), .int (Int32.ofNat len)] 7)) (s₁.setTop (mkF m 0 #[.val (.ref b), .val (.int (Int32.ofNat o)), .val (.ref d), .val (.int (Int32.ofNat q)), .val (.int (Int32.ofNat len)), .unset, .unset] [])) := entry rfl
  have hA0 := hA.1.mv X0.warmed.alike hh0
  have hB0 := hB.mv X0.warmed.alike hh0
  have a31 := hA.1.2.2.2
  have c2 : Steps p.tables e below (s₁.setTop (entryFrame m #[.ref b, .int (Int32.ofNat o), .ref d, .int (Int32.ofNat q), .int (Int32.ofNat len)] 7)) (s₁.setTop (mkF m 3 #[.val (.ref b), .val (.int (Int32.ofNat o)), .val (.ref d), .val (.int (Int32.ofNat q)), .val (.int (Int32.ofNat len)), .val (.int 0), .unset] [])) := c1.trans (by
    refine iconstV X0.here hexec rfl 0 (hb hbytes d0) (by decide) ?_
    refine XS.istore X0.here hexec rfl (hb hbytes d1) rfl rfl ?_
    exact Steps.refl _)
  have loop : ∀ (r i : Nat), i + r = len → ∀ (z : Slot), (z = .unset ∨ ∃ w, z = .val w ∧ w.category = 1) → ∀ (Tl : State) (Bk : Cell), Stand p l e { frames := 0, locals := 0, cells := 0, slots := 0 } s m #[.ref b, .int (Int32.ofNat o), .ref d, .int (Int32.ofNat q), .int (Int32.ofNat len)] below meth c Tl ([] ++ copyLocs d q i) 0 0 → Put d Bk s₁ Tl → Laid B Bk q (q + i) (fun j => Value.int (lo8 (cv A (o + (j - q))))) →
      Steps p.tables e below (s₁.setTop (entryFrame m #[.ref b, .int (Int32.ofNat o), .ref d, .int (Int32.ofNat q), .int (Int32.ofNat len)] 7)) (Tl.setTop (mkF m 3 #[.val (.ref b), .val (.int (Int32.ofNat (o + i))), .val (.ref d), .val (.int (Int32.ofNat (q + i))), .val (.int (Int32.ofNat len)), .val (.int (Int32.ofNat i)), z] [])) → ∃ (T' : State) (B' : Cell) (z' : Slot), Stand p l e { frames := 0, locals := 0, cells := 0, slots := 0 } s m #[.ref b, .int (Int32.ofNat o), .ref d, .int (Int32.ofNat q), .int (Int32.ofNat len)] below meth c T' ([] ++ copyLocs d q len) 0 0 ∧ Put d B' s₁ T' ∧ Laid B B' q (q + len) (fun j => Value.int (lo8 (cv A (o + (j - q))))) ∧
      Steps p.tables e below (s₁.setTop (entryFrame m #[.ref b, .int (Int32.ofNat o), .ref d, .int (Int32.ofNat q), .int (Int32.ofNat len)] 7)) (T'.setTop (mkF m 3 #[.val (.ref b), .val (.int (Int32.ofNat (o + len))), .val (.ref d), .val (.int (Int32.ofNat (q + len))), .val (.int (Int32.ofNat len)), .val (.int (Int32.ofNat len)), z'] [])) := by
    intro r
    induction r with
    | zero =>
      intro i hi z hz Tl Bk Xl pl fl cl
      have hil : i = len := by omega
      rw [hil] at Xl fl cl
      exact ⟨Tl, Bk, z, Xl, pl, fl, cl⟩
    | succ r ih =>
      intro i hi z hz Tl Bk Xl pl fl cl
      have all := X0.warmed.alike.symm.trans Xl.warmed.alike
      have hAl := hA0.keep all (pl.other hne hA0.1)
      have hBk := hB0.like all pl.1 fl.1 fl.2.1 fl.2.2.1
      have hlt : q + i < Bk.slots.size := by rw [fl.2.2.1]; omega
      have c3 : Steps p.tables e below (s₁.setTop (entryFrame m #[.ref b, .int (Int32.ofNat o), .ref d, .int (Int32.ofNat q), .int (Int32.ofNat len)] 7)) (Tl.setTop (mkF m 12 #[.val (.ref b), .val (.int (Int32.ofNat (o + i))), .val (.ref d), .val (.int (Int32.ofNat (q + i))), .val (.int (Int32.ofNat len)), .val (.int (Int32.ofNat i)), z] [.int (Int32.ofNat (o + i)), .ref b])) := cl.trans (by
        refine XS.iload Xl.here hexec rfl (hb hbytes d3) rfl ?_
        refine XS.iload Xl.here hexec rfl (hb hbytes d5) rfl ?_
        refine XS.icmpNo Xl.here hexec rfl (hb hbytes d7) rfl (ii_ge_f (lt32 (by omega) (by omega))) ?_
        refine XS.aloadN Xl.here hexec rfl (hb hbytes d10) rfl rfl ?_
        refine XS.iloadN Xl.here hexec rfl (hb hbytes d11) rfl ?_
        exact Steps.refl _)
      have c4 : Steps p.tables e below (s₁.setTop (entryFrame m #[.ref b, .int (Int32.ofNat o), .ref d, .int (Int32.ofNat q), .int (Int32.ofNat len)] 7)) (Tl.setTop (mkF m 13 #[.val (.ref b), .val (.int (Int32.ofNat (o + i))), .val (.ref d), .val (.int (Int32.ofNat (q + i))), .val (.int (Int32.ofNat len)), .val (.int (Int32.ofNat i)), z] [.int (cv A (o + i))])) := c3.trans (by
        refine Xl.aget hexec hAl rfl (hA.get (i := o + i) (by omega)) rfl rfl (hb hbytes d12) ?_
        exact Steps.refl _)
      have c5 : Steps p.tables e below (s₁.setTop (entryFrame m #[.ref b, .int (Int32.ofNat o), .ref d, .int (Int32.ofNat q), .int (Int32.ofNat len)] 7)) (Tl.setTop (mkF m 15 #[.val (.ref b), .val (.int (Int32.ofNat (o + i))), .val (.ref d), .val (.int (Int32.ofNat (q + i))), .val (.int (Int32.ofNat len)), .val (.int (Int32.ofNat i)), .val (.int (cv A (o + i)))] [])) := c4.trans (by
        refine XS.istoreS Xl.here hexec rfl (hb hbytes d13) rfl rfl hz ?_
        exact Steps.refl _)
      have c6 : Steps p.tables e below (s₁.setTop (entryFrame m #[.ref b, .int (Int32.ofNat o), .ref d, .int (Int32.ofNat q), .int (Int32.ofNat len)] 7)) (Tl.setTop (mkF m 31 #[.val (.ref b), .val (.int (Int32.ofNat (o + i))), .val (.ref d), .val (.int (Int32.ofNat (q + i))), .val (.int (Int32.ofNat len)), .val (.int (Int32.ofNat i)), .val (.int (cv A (o + i)))] [.int (lo8 (cv A (o + i))), .int (Int32.ofNat (q + i)), .ref d])) := c5.trans (by
        refine XS.iload Xl.here hexec rfl (hb hbytes d15) rfl ?_
        refine sipushV Xl.here hexec rfl 255 (hb hbytes d17) (by decide) ?_
        refine XS.icmpYes Xl.here hexec rfl (pc0 := 20) rfl (hb hbytes d20) rfl (ii_le_t (hp i (by omega))) (by decide) rfl ?_
        refine XS.aloadN Xl.here hexec rfl (hb hbytes d26) rfl rfl ?_
        refine XS.iloadN Xl.here hexec rfl (hb hbytes d27) rfl ?_
        refine XS.iload Xl.here hexec rfl (hb hbytes d28) rfl ?_
        refine i2b Xl.here hexec rfl (hb hbytes d30) rfl ?_
        exact Steps.refl _)
      obtain ⟨T7, X7, p7, st7⟩ := Xl.aput hexec hBk rfl hlt rfl (fits_lo8 (cv A (o + i))) (g := (mkF m 31 #[.val (.ref b), .val (.int (Int32.ofNat (o + i))), .val (.ref d), .val (.int (Int32.ofNat (q + i))), .val (.int (Int32.ofNat len)), .val (.int (Int32.ofNat i)), .val (.int (cv A (o + i)))] [.int (lo8 (cv A (o + i))), .int (Int32.ofNat (q + i)), .ref d])) rfl (rest := []) rfl (hb hbytes d31)
      have c8 : Steps p.tables e below (s₁.setTop (entryFrame m #[.ref b, .int (Int32.ofNat o), .ref d, .int (Int32.ofNat q), .int (Int32.ofNat len)] 7)) (T7.setTop (mkF m 32 #[.val (.ref b), .val (.int (Int32.ofNat (o + i))), .val (.ref d), .val (.int (Int32.ofNat (q + i))), .val (.int (Int32.ofNat len)), .val (.int (Int32.ofNat i)), .val (.int (cv A (o + i)))] [])) := c6.trans (st7 _ (Steps.refl _))
      have c9 : Steps p.tables e below (s₁.setTop (entryFrame m #[.ref b, .int (Int32.ofNat o), .ref d, .int (Int32.ofNat q), .int (Int32.ofNat len)] 7)) (T7.setTop (mkF m 3 #[.val (.ref b), .val (.int (Int32.ofNat (o + i) + 1)), .val (.ref d), .val (.int (Int32.ofNat (q + i) + 1)), .val (.int (Int32.ofNat len)), .val (.int (Int32.ofNat i + 1)), .val (.int (cv A (o + i)))] [])) := c8.trans (by
        refine iincV X7.here hexec rfl 1 (hb hbytes d32) (by decide) rfl rfl ?_
        refine iincV X7.here hexec rfl 1 (hb hbytes d35) (by decide) rfl rfl ?_
        refine iincV X7.here hexec rfl 1 (hb hbytes d38) (by decide) rfl rfl ?_
        refine XS.goto X7.here hexec rfl (pc0 := 41) rfl (hb hbytes d41) (by decide) rfl ?_
        exact Steps.refl _)
      have c10 : Steps p.tables e below (s₁.setTop (entryFrame m #[.ref b, .int (Int32.ofNat o), .ref d, .int (Int32.ofNat q), .int (Int32.ofNat len)] 7)) (T7.setTop (mkF m 3 #[.val (.ref b), .val (.int (Int32.ofNat (o + (i + 1)))), .val (.ref d), .val (.int (Int32.ofNat (q + (i + 1)))), .val (.int (Int32.ofNat len)), .val (.int (Int32.ofNat (i + 1))), .val (.int (cv A (o + i)))] [])) := by
        have := c9
        rw [succ32, succ32, succ32] at this
        exact this
      exact ih (i + 1) (by omega) _ (Or.inr ⟨_, rfl, rfl⟩) T7 _ (by rw [copyLocs_step, ← List.append_assoc]; exact X7) (pl.trans p7) (fl.step (by omega) hlt (by simp)) c10
  obtain ⟨T9, B9, z9, X9, p9, f9, g9⟩ := loop len 0 (by omega) .unset (Or.inl rfl) s₁ B (by simpa [copyLocs] using X0) ⟨hB0.1, fun _ _ => rfl, rfl⟩ (Laid.zero _ _ _) c2
  have c11 : Steps p.tables e below (s₁.setTop (entryFrame m #[.ref b, .int (Int32.ofNat o), .ref d, .int (Int32.ofNat q), .int (Int32.ofNat len)] 7)) (T9.setTop (mkF m 46 #[.val (.ref b), .val (.int (Int32.ofNat (o + len))), .val (.ref d), .val (.int (Int32.ofNat (q + len))), .val (.int (Int32.ofNat len)), .val (.int (Int32.ofNat len)), z9] [.int (Int32.ofNat len)])) := g9.trans (by
    refine XS.iload X9.here hexec rfl (hb hbytes d3) rfl ?_
    refine XS.iload X9.here hexec rfl (hb hbytes d5) rfl ?_
    refine XS.icmpYes X9.here hexec rfl (pc0 := 7) rfl (hb hbytes d7) rfl (ii_ge_t (nlt32 (by omega) (Nat.le_refl _))) (by decide) rfl ?_
    refine XS.iload X9.here hexec rfl (hb hbytes d44) rfl ?_
    exact Steps.refl _)
  exact ⟨T9, some (.int (Int32.ofNat len)), _, _, _, X9, by simp, rfl, rfl, (fun h => by cases h), ⟨rfl, B9, p9.from hh0, f9⟩, fun fs hl => c11.trans (X9.ireturnOut hexec hret rfl (Or.inl rfl) (hb hbytes d46) hl)⟩
end Cmp5
namespace Cmp3
def yN : MethodName := ⟨"java/lang/StringUTF16", "compress", "([CII)[B"⟩
abbrev yB : ByteArray := jdk_52_method_16_code
theorem d0 : decode yB 0 = .ok (.iload_n 2, 1) := by decide +kernel
theorem d1 : decode yB 1 = .ok (.newarray .byte, 2) := by decide +kernel
theorem d3 : decode yB 3 = .ok (.astore_n 3, 1) := by decide +kernel
theorem d4 : decode yB 4 = .ok (.aload_n 0, 1) := by decide +kernel
theorem d5 : decode yB 5 = .ok (.iload_n 1, 1) := by decide +kernel
theorem d6 : decode yB 6 = .ok (.aload_n 3, 1) := by decide +kernel
theorem d7 : decode yB 7 = .ok (.iconst 0, 1) := by decide +kernel
theorem d8 : decode yB 8 = .ok (.iload_n 2, 1) := by decide +kernel
theorem d9 : decode yB 9 = .ok (.invokestatic 115, 3) := by decide +kernel
theorem d12 : decode yB 12 = .ok (.istore 4, 2) := by decide +kernel
theorem d14 : decode yB 14 = .ok (.iload 4, 2) := by decide +kernel
theorem d16 : decode yB 16 = .ok (.iload_n 2, 1) := by decide +kernel
theorem d17 : decode yB 17 = .ok (.if_icmp (.eq) 40, 3) := by decide +kernel
theorem d57 : decode yB 57 = .ok (.aload_n 3, 1) := by decide +kernel
theorem d58 : decode yB 58 = .ok (.areturn, 1) := by decide +kernel
def site : List Cond := [.arrayClass .byte, Cmp5.tab] ++ staticW U16 115 Cmp5.yN
def tab : Cond := tabOf yN yB 6 (some (.array .byte)) site
def P (b : Addr) (A : Cell) (o len : Nat) (args : Array Value) (s : State) : Prop := args = #[.ref b, .int (Int32.ofNat o), .int (Int32.ofNat len)] ∧ Ch b A s ∧ o + len ≤ A.slots.size ∧ len ≤ 536870912 ∧ ∀ i, i < len → ¬ 255 < cv A (o + i)
def E (b : Addr) (A : Cell) (o len : Nat) (r : Option Value) (s u : State) : Prop := NewArr .byte "[B" len (fun j => .int (lo8 (cv A (o + j)))) r s u ∧ u.heap.size = s.heap.size + 1
/-- no char of the range above 255: a new byte[] of their low bytes -/
theorem law (l : Launch) (b : Addr) (A : Cell) (o len : Nat) : Law l yN 3 3 1 18 yB 6 (some (.array .byte)) site (P b A o len) (E b A o len) [] 1 len := by
  refine Law.of_walk (plainFor_of_name (by decide +kernel)) (by decide +kernel) (by decide +kernel) (by decide) (fun _ _ h => by rw [h.1]; rfl) (fun _ U U' hal hh h => ⟨h.1, h.2.1.mv hal hh, h.2.2⟩) (fun r U U' V V' h1 hal h2 h => ⟨NewArr.mv r U U' V V' h1 hal h2 h.1, by rw [h1, h2]; exact h.2⟩) ?_
  intro p e s m args below meth c s₁ X0 hexec hbytes hml hret hlk hnm hown hh0 W hP
  obtain ⟨rfl, hA, l1, l2, hp⟩ := hP
  have a31 := hA.1.2.2.2
  have c1 : Steps p.tables e below (s₁.setTop (entryFrame m #[.ref b, .int (Int32.ofNat o), .int (Int32.ofNat len)] 6)) (s₁.setTop (mkF m 0 #[.val (.ref b), .val (.int (Int32.ofNat o)), .val (.int (Int32.ofNat len)), .unset, .unset, .unset] [])) := entry rfl
  have c2 : Steps p.tables e below (s₁.setTop (entryFrame m #[.ref b, .int (Int32.ofNat o), .int (Int32.ofNat len)] 6)) (s₁.setTop (mkF m 1 #[.val (.ref b), .val (.int (Int32.ofNat o)), .val (.int (Int32.ofNat len)), .unset, .unset, .unset] [.int (Int32.ofNat len)])) := c1.trans (by
    refine XS.iloadN X0.here hexec rfl (hb hbytes d0) rfl ?_
    exact Steps.refl _)
  obtain ⟨T3, B3, X3, ba3, bs3, bv3, bh3, bf3, st3⟩ := X0.anew hexec (atype := .byte) (wk W (.arrayClass .byte)) rfl (by show len * 1 ≤ _; omega) (by omega) (g := (mkF m 1 #[.val (.ref b), .val (.int (Int32.ofNat o)), .val (.int (Int32.ofNat len)), .unset, .unset, .unset] [.int (Int32.ofNat len)])) rfl (hb hbytes d1) (rest := []) rfl (Nat.le_refl _) (by show 0 + len ≤ len; omega)
  rw [hh0] at ba3 st3
  have kp3 : XT.Kept s T3 := (XT.Kept.of_eq hh0).push bh3
  have hA3 := hA.keep X3.warmed.alike (kp3 _ _ hA.1.1)
  have hne : b ≠ s.heap.size := hA.1.ne
  have c4 : Steps p.tables e below (s₁.setTop (entryFrame m #[.ref b, .int (Int32.ofNat o), .int (Int32.ofNat len)] 6)) (T3.setTop (mkF m 3 #[.val (.ref b), .val (.int (Int32.ofNat o)), .val (.int (Int32.ofNat len)), .unset, .unset, .unset] [.ref s.heap.size])) := c2.trans (st3 _ (Steps.refl _))
  have c5 : Steps p.tables e below (s₁.setTop (entryFrame m #[.ref b, .int (Int32.ofNat o), .int (Int32.ofNat len)] 6)) (T3.setTop (mkF m 9 #[.val (.ref b), .val (.int (Int32.ofNat o)), .val (.int (Int32.ofNat len)), .val (.ref s.heap.size), .unset, .unset] [.int (Int32.ofNat len), .int 0, .ref s.heap.size, .int (Int32.ofNat o), .ref b])) := c4.trans (by
    refine XS.astoreN X3.here hexec rfl (hb hbytes d3) rfl rfl rfl ?_
    refine XS.aloadN X3.here hexec rfl (hb hbytes d4) rfl rfl ?_
    refine XS.iloadN X3.here hexec rfl (hb hbytes d5) rfl ?_
    refine XS.aloadN X3.here hexec rfl (hb hbytes d6) rfl rfl ?_
    refine iconstV X3.here hexec rfl 0 (hb hbytes d7) (by decide) ?_
    refine XS.iloadN X3.here hexec rfl (hb hbytes d8) rfl ?_
    exact Steps.refl _)
  obtain ⟨v6, T6, X6, E6, g6⟩ := X3.callS hexec (Cmp5.law l b A s.heap.size B3 o 0 len) hown (wks W (staticW U16 115 Cmp5.yN)) (wk W Cmp5.tab) (W := 0) (Nat.le_of_ble_eq_true rfl) (Nat.le_of_ble_eq_true rfl) (Nat.le_refl _) (by show 0 + len + 0 ≤ len; omega) (g := (mkF m 9 #[.val (.ref b), .val (.int (Int32.ofNat o)), .val (.int (Int32.ofNat len)), .val (.ref s.heap.size), .unset, .unset] [.int (Int32.ofNat len), .int (Int32.ofNat 0), .ref s.heap.size, .int (Int32.ofNat o), .ref b])) rfl (by rw [hml]; rfl) c5 (argsL := [.ref b, .int (Int32.ofNat o), .ref s.heap.size, .int (Int32.ofNat 0), .int (Int32.ofNat len)]) (rest := []) rfl rfl (by show 2 * 0 + 0 ≤ _; decide) (hb hbytes d9) (⟨rfl, hA3, ba3, hne, l1, by rw [bs3]; simp, hp⟩)
  obtain ⟨rfl, B6, p6, f6⟩ := E6
  have c7 : Steps p.tables e below (s₁.setTop (entryFrame m #[.ref b, .int (Int32.ofNat o), .int (Int32.ofNat len)] 6)) (T6.setTop (mkF m 12 #[.val (.ref b), .val (.int (Int32.ofNat o)), .val (.int (Int32.ofNat len)), .val (.ref s.heap.size), .unset, .unset] [.int (Int32.ofNat len)])) := g6
  have c8 : Steps p.tables e below (s₁.setTop (entryFrame m #[.ref b, .int (Int32.ofNat o), .int (Int32.ofNat len)] 6)) (T6.setTop (mkF m 58 #[.val (.ref b), .val (.int (Int32.ofNat o)), .val (.int (Int32.ofNat len)), .val (.ref s.heap.size), .val (.int (Int32.ofNat len)), .unset] [.ref s.heap.size])) := c7.trans (by
    refine XS.istore X6.here hexec rfl (hb hbytes d12) rfl rfl ?_
    refine XS.iload X6.here hexec rfl (hb hbytes d14) rfl ?_
    refine XS.iloadN X6.here hexec rfl (hb hbytes d16) rfl ?_
    refine XS.icmpYes X6.here hexec rfl (pc0 := 17) rfl (hb hbytes d17) rfl (ii_eq_t rfl) (by decide) rfl ?_
    refine XS.aloadN X6.here hexec rfl (hb hbytes d57) rfl rfl ?_
    exact Steps.refl _)
  have X8 := X6.wide (L' := []) (cells' := 1) (slots' := len) (fun x hx hlt => by
    simp only [List.nil_append, copyLocs, List.mem_map, List.mem_range] at hx
    obtain ⟨i, -, rfl⟩ := hx
    exact absurd hlt (Nat.lt_irrefl _)) (Nat.le_refl _) (by omega)
  exact ⟨T6, some (.ref s.heap.size), _, _, _, X8, rfl, rfl, rfl, (fun h => by cases h), ⟨⟨rfl, B6, ba3.like (X3.warmed.alike.symm.trans X6.warmed.alike) p6.1 f6.1 f6.2.1 f6.2.2.1, f6.2.1.trans bv3, by rw [X6.warmed.alike.findClass, f6.1]; exact bf3, by rw [f6.2.2.1, bs3]; simp, fun j hj => by rw [f6.2.2.2 j, if_pos (by omega)]; rfl, kp3.put p6 (Nat.le_refl _)⟩, by rw [p6.2.2, bh3, hh0]; simp⟩, fun fs hl => c8.trans (X8.areturnOut hexec rfl hret rfl (hb hbytes d58) hl)⟩
end Cmp3
namespace CodL
def yN : MethodName := ⟨"java/lang/StringUTF16", "coderFromArrayLen", "([BI)B"⟩
abbrev yB : ByteArray := jdk_52_method_15_code
theorem d0 : decode yB 0 = .ok (.iload_n 1, 1) := by decide +kernel
theorem d1 : decode yB 1 = .ok (.aload_n 0, 1) := by decide +kernel
theorem d2 : decode yB 2 = .ok (.arraylength, 1) := by decide +kernel
theorem d3 : decode yB 3 = .ok (.isub, 1) := by decide +kernel
theorem d4 : decode yB 4 = .ok (.bipush 31, 2) := by decide +kernel
theorem d6 : decode yB 6 = .ok (.iushr, 1) := by decide +kernel
theorem d7 : decode yB 7 = .ok (.i2b, 1) := by decide +kernel
theorem d8 : decode yB 8 = .ok (.ireturn, 1) := by decide +kernel
def site : List Cond := []
def tab : Cond := tabOf yN yB 2 (some .byte) site
def P (d : Addr) (B : Cell) (args : Array Value) (s : State) : Prop := args = #[.ref d, .int (Int32.ofNat B.slots.size)] ∧ Arr .byte d B s
def E (r : Option Value) (s u : State) : Prop := XT.PureE (some (.int 0)) r s u
/-- an array as long as the number of chars: LATIN1 -/
theorem law (l : Launch) (d : Addr) (B : Cell) : Law l yN 2 2 0 0 yB 2 (some .byte) site (P d B) E [] 0 0 := by
  refine Law.of_walk (plainFor_of_name (by decide +kernel)) (by decide +kernel) (by decide +kernel) (by decide) (fun _ _ h => by rw [h.1]; rfl) (fun _ U U' hal hh h => ⟨h.1, h.2.mv hal hh⟩) (fun r U U' V V' h1 hal h2 h => XT.PureE.mv r U U' V V' h1 hal h2 h) ?_
  intro p e s m args below meth c s₁ X0 hexec hbytes hml hret hlk hnm hown hh0 W hP
  obtain ⟨rfl, hB⟩ := hP
  have hB0 := hB.mv X0.warmed.alike hh0
  have c1 : Steps p.tables e below (s₁.setTop (entryFrame m #[.ref d, .int (Int32.ofNat B.slots.size)] 2)) (s₁.setTop (mkF m 0 #[.val (.ref d), .val (.int (Int32.ofNat B.slots.size))] [])) := entry rfl
  have c2 : Steps p.tables e below (s₁.setTop (entryFrame m #[.ref d, .int (Int32.ofNat B.slots.size)] 2)) (s₁.setTop (mkF m 2 #[.val (.ref d), .val (.int (Int32.ofNat B.slots.size))] [.ref d, .int (Int32.ofNat B.slots.size)])) := c1.trans (by
    refine XS.iloadN X0.here hexec rfl (hb hbytes d0) rfl ?_
    refine XS.aloadN X0.here hexec rfl (hb hbytes d1) rfl rfl ?_
    exact Steps.refl _)
  have c3 : Steps p.tables e below (s₁.setTop (entryFrame m #[.ref d, .int (Int32.ofNat B.slots.size)] 2)) (s₁.setTop (mkF m 8 #[.val (.ref d), .val (.int (Int32.ofNat B.slots.size))] [.int (lo8 (ushr (Int32.ofNat B.slots.size - Int32.ofNat B.slots.size) 31))])) := c2.trans (by
    refine X0.alen hexec hB0 rfl rfl (hb hbytes d2) ?_
    refine XS.isub X0.here hexec rfl (hb hbytes d3) rfl ?_
    refine bipushV X0.here hexec rfl 31 (hb hbytes d4) (by decide) ?_
    refine iushr X0.here hexec rfl (hb hbytes d6) rfl ?_
    refine i2b X0.here hexec rfl (hb hbytes d7) rfl ?_
    exact Steps.refl _)
  have e0 : lo8 (ushr (Int32.ofNat B.slots.size - Int32.ofNat B.slots.size) 31) = 0 := by rw [Int32.sub_self]; decide
  rw [e0] at c3
  exact ⟨s₁, some (.int 0), _, _, _, X0, rfl, rfl, rfl, (fun h => by cases h), ⟨rfl, hh0⟩, fun fs hl => c3.trans (X0.ireturnOut hexec hret rfl (Or.inr (Or.inr (Or.inl rfl))) (hb hbytes d8) hl)⟩
end CodL
/-- the String at a is Latin-1 over a new byte[] (the heap's one new cell): the low bytes of the len chars of A from o on; every cell but a is kept -/
def Got (a : Addr) (D : Cell) (fV fC : Field) (A : Cell) (o len : Nat) (r : Option Value) (s u : State) : Prop := r = none ∧ ∃ D' V : Cell, Blank "java/lang/String" a D' u ∧ Same D D' [fV.slot, fC.slot] ∧ D'.slots[fV.slot]? = some (.ref s.heap.size) ∧ D'.slots[fC.slot]? = some (.int 0) ∧ Arr .byte s.heap.size V u ∧ V.vm = .none ∧ u.vm.findClass "[B" = some V.cls ∧ V.slots.size = len ∧ (∀ j, j < len → V.slots[j]? = some (.int (lo8 (cv A (o + j))))) ∧ (∀ (y : Addr) (c : Cell), y ≠ a → s.heap[y]? = some c → u.heap[y]? = some c) ∧ u.heap.size = s.heap.size + 1
theorem Got.mv {a : Addr} {D A : Cell} {fV fC : Field} {o len : Nat} : ∀ r (U U' V V' : State), U'.heap = U.heap → V.vm.Alike V'.vm → V'.heap = V.heap → Got a D fV fC A o len r U V → Got a D fV fC A o len r U' V' :=
  fun r U U' V V' h1 hal h2 ⟨e0, D', X, a1, a2, a3, a4, a5, a6, a7, a8, a9, a10, a11⟩ => ⟨e0, D', X, a1.mv hal h2, a2, by rw [h1]; exact a3, a4, by rw [h1]; exact a5.mv hal h2, a6, by rw [hal.findClass]; exact a7, a8, a9, by rw [h1, h2]; exact a10, by rw [h1, h2]; exact a11⟩
namespace New4
def yN : MethodName := ⟨"java/lang/String", "<init>", "([CIILjava/lang/Void;)V"⟩
abbrev yB : ByteArray := jdk_42_method_149_code
theorem d0 : decode yB 0 = .ok (.aload_n 0, 1) := by decide +kernel
theorem d1 : decode yB 1 = .ok (.invokespecial 1, 3) := by decide +kernel
theorem d4 : decode yB 4 = .ok (.iload_n 3, 1) := by decide +kernel
theorem d5 : decode yB 5 = .ok (.ifCond (.ne) 22, 3) := by decide +kernel
theorem d27 : decode yB 27 = .ok (.getstatic 38, 3) := by decide +kernel
theorem d30 : decode yB 30 = .ok (.ifCond (.eq) 28, 3) := by decide +kernel
theorem d33 : decode yB 33 = .ok (.aload_n 1, 1) := by decide +kernel
theorem d34 : decode yB 34 = .ok (.iload_n 2, 1) := by decide +kernel
theorem d35 : decode yB 35 = .ok (.iload_n 3, 1) := by decide +kernel
theorem d36 : decode yB 36 = .ok (.invokestatic 177, 3) := by decide +kernel
theorem d39 : decode yB 39 = .ok (.astore 5, 2) := by decide +kernel
theorem d41 : decode yB 41 = .ok (.aload_n 0, 1) := by decide +kernel
theorem d42 : decode yB 42 = .ok (.aload 5, 2) := by decide +kernel
theorem d44 : decode yB 44 = .ok (.iload_n 3, 1) := by decide +kernel
theorem d45 : decode yB 45 = .ok (.invokestatic 47, 3) := by decide +kernel
theorem d48 : decode yB 48 = .ok (.putfield 15, 3) := by decide +kernel
theorem d51 : decode yB 51 = .ok (.aload_n 0, 1) := by decide +kernel
theorem d52 : decode yB 52 = .ok (.aload 5, 2) := by decide +kernel
theorem d54 : decode yB 54 = .ok (.putfield 9, 3) := by decide +kernel
theorem d57 : decode yB 57 = .ok (.return_, 1) := by decide +kernel
def site : List Cond := [.fieldLink "java/lang/String" 38 "java/lang/String" "COMPACT_STRINGS" "Z", Cmp3.tab, CodL.tab, .laysFinal "java/lang/String" "java/lang/String" "value" "[B", .fieldLink "java/lang/String" 9 "java/lang/String" "value" "[B", .laysFinal "java/lang/String" "java/lang/String" "coder" "B", .fieldLink "java/lang/String" 15 "java/lang/String" "coder" "B"] ++ objW "java/lang/String" 1 ++ staticW "java/lang/String" 177 Cmp3.yN ++ staticW "java/lang/String" 47 CodL.yN
def tab : Cond := tabOf yN yB 6 none site
def P (a : Addr) (D : Cell) (fV fC : Field) (b : Addr) (A : Cell) (z : Int32) (o len : Nat) (args : Array Value) (s : State) : Prop := args = #[.ref a, .ref b, .int (Int32.ofNat o), .int (Int32.ofNat len), .null] ∧ Blank "java/lang/String" a D s ∧ Found "java/lang/String" "value" "[B" fV s ∧ Found "java/lang/String" "coder" "B" fC s ∧ Ch b A s ∧ StaticIs s "java/lang/String" "COMPACT_STRINGS" "Z" (.int z) ∧ ¬ z = 0 ∧ 0 < len ∧ o + len ≤ A.slots.size ∧ len ≤ 536870912 ∧ ∀ i, i < len → ¬ 255 < cv A (o + i)
def E (a : Addr) (D : Cell) (fV fC : Field) (A : Cell) (o len : Nat) (r : Option Value) (s u : State) : Prop := Got a D fV fC A o len r s u
/-- len > 0, no char of the range above 255: a Latin-1 String of their low bytes -/
theorem law (l : Launch) (a : Addr) (D : Cell) (fV fC : Field) (b : Addr) (A : Cell) (z : Int32) (o len : Nat) : Law l yN 5 4 2 35 yB 6 none site (P a D fV fC b A z o len) (E a D fV fC A o len) [⟨a, fC.slot⟩, ⟨a, fV.slot⟩] 1 len := by
  refine Law.of_walk (plainFor_of_name (by decide +kernel)) (by decide +kernel) (by decide +kernel) (by decide) (fun _ _ h => by rw [h.1]; rfl) (fun _ U U' hal hh h => ⟨h.1, h.2.1.mv hal hh, h.2.2.1.al hal, h.2.2.2.1.al hal, h.2.2.2.2.1.mv hal hh, h.2.2.2.2.2.1.there hal hh, h.2.2.2.2.2.2⟩) (fun r U U' V V' h1 hal h2 h => Got.mv r U U' V V' h1 hal h2 h) ?_
  intro p e s m args below meth c s₁ X0 hexec hbytes hml hret hlk hnm hown hh0 W hP
  obtain ⟨rfl, hB, f1, f2, hA, s1, hz, l0, l1, l2, hp⟩ := hP
  have a31 := hA.1.2.2.2
  have c1 : Steps p.tables e below (s₁.setTop (entryFrame m #[.ref a, .ref b, .int (Int32.ofNat o), .int (Int32.ofNat len), .null] 6)) (s₁.setTop (mkF m 0 #[.val (.ref a), .val (.ref b), .val (.int (Int32.ofNat o)), .val (.int (Int32.ofNat len)), .val .null, .unset] [])) := entry rfl
  have c2 : Steps p.tables e below (s₁.setTop (entryFrame m #[.ref a, .ref b, .int (Int32.ofNat o), .int (Int32.ofNat len), .null] 6)) (s₁.setTop (mkF m 1 #[.val (.ref a), .val (.ref b), .val (.int (Int32.ofNat o)), .val (.int (Int32.ofNat len)), .val .null, .unset] [.ref a])) := c1.trans (by
    refine XS.aloadN X0.here hexec rfl (hb hbytes d0) rfl rfl ?_
    exact Steps.refl _)
  obtain ⟨T3, X3, q3, st3⟩ := X0.oinit hexec hown (wks W (objW "java/lang/String" 1)) (g := (mkF m 1 #[.val (.ref a), .val (.ref b), .val (.int (Int32.ofNat o)), .val (.int (Int32.ofNat len)), .val .null, .unset] [.ref a])) rfl (by rw [hml]; rfl) (rest := []) rfl (hb hbytes d1) (W := 0) (by show 2 * 0 + 0 ≤ _; decide) (Nat.le_of_ble_eq_true rfl) (Nat.le_of_ble_eq_true rfl)
  have hh3 := q3.trans hh0
  have c4 : Steps p.tables e below (s₁.setTop (entryFrame m #[.ref a, .ref b, .int (Int32.ofNat o), .int (Int32.ofNat len), .null] 6)) (T3.setTop (mkF m 27 #[.val (.ref a), .val (.ref b), .val (.int (Int32.ofNat o)), .val (.int (Int32.ofNat len)), .val .null, .unset] [])) := (c2.trans (st3 _ (Steps.refl _))).trans (by
    refine XS.iloadN X3.here hexec rfl (hb hbytes d4) rfl ?_
    refine XS.ifYes X3.here hexec rfl (pc0 := 5) rfl (hb hbytes d5) rfl (i0_ne_t (nz32 (by omega) l0)) (by decide) rfl ?_
    exact Steps.refl _)
  obtain ⟨T5, X5, q5, st5⟩ := X3.sget hexec hown (wk W (.fieldLink "java/lang/String" 38 "java/lang/String" "COMPACT_STRINGS" "Z")) s1 (fun _ _ h => by rw [hh3]; exact h) (g := (mkF m 27 #[.val (.ref a), .val (.ref b), .val (.int (Int32.ofNat o)), .val (.int (Int32.ofNat len)), .val .null, .unset] [])) rfl (hb hbytes d27)
  have hh5 := q5.trans hh3
  have c6 : Steps p.tables e below (s₁.setTop (entryFrame m #[.ref a, .ref b, .int (Int32.ofNat o), .int (Int32.ofNat len), .null] 6)) (T5.setTop (mkF m 30 #[.val (.ref a), .val (.ref b), .val (.int (Int32.ofNat o)), .val (.int (Int32.ofNat len)), .val .null, .unset] [.int z])) := c4.trans (st5 _ (Steps.refl _))
  have c7 : Steps p.tables e below (s₁.setTop (entryFrame m #[.ref a, .ref b, .int (Int32.ofNat o), .int (Int32.ofNat len), .null] 6)) (T5.setTop (mkF m 36 #[.val (.ref a), .val (.ref b), .val (.int (Int32.ofNat o)), .val (.int (Int32.ofNat len)), .val .null, .unset] [.int (Int32.ofNat len), .int (Int32.ofNat o), .ref b])) := c6.trans (by
    refine XS.ifNo X5.here hexec rfl (hb hbytes d30) rfl (i0_eq_f hz) ?_
    refine XS.aloadN X5.here hexec rfl (hb hbytes d33) rfl rfl ?_
    refine XS.iloadN X5.here hexec rfl (hb hbytes d34) rfl ?_
    refine XS.iloadN X5.here hexec rfl (hb hbytes d35) rfl ?_
    exact Steps.refl _)
  obtain ⟨v8, T8, X8, E8, g8⟩ := X5.callS hexec (Cmp3.law l b A o len) hown (wks W (staticW "java/lang/String" 177 Cmp3.yN)) (wk W Cmp3.tab) (W := 0) (Nat.le_of_ble_eq_true rfl) (Nat.le_of_ble_eq_true rfl) (Nat.le_refl _) (by show 0 + len ≤ len; omega) (g := (mkF m 36 #[.val (.ref a), .val (.ref b), .val (.int (Int32.ofNat o)), .val (.int (Int32.ofNat len)), .val .null, .unset] [.int (Int32.ofNat len), .int (Int32.ofNat o), .ref b])) rfl (by rw [hml]; rfl) c7 (argsL := [.ref b, .int (Int32.ofNat o), .int (Int32.ofNat len)]) (rest := []) rfl rfl (by show 2 * 0 + 0 ≤ _; decide) (hb hbytes d36) (⟨rfl, hA.mv X5.warmed.alike hh5, l1, l2, hp⟩)
  obtain ⟨e8, z8⟩ := E8
  obtain ⟨rfl, N, n1, n2, n3, n4, n5, n6⟩ := NewArr.mv _ T5 s _ _ hh5.symm (Vm.Alike.refl _) rfl e8
  rw [hh5] at z8
  have hB1 := hB.keep X8.warmed.alike (n6 _ _ hB.1)
  have hne : s.heap.size ≠ a := (Nat.ne_of_lt (Array.getElem?_eq_some_iff.mp hB.1).1).symm
  have c9 : Steps p.tables e below (s₁.setTop (entryFrame m #[.ref a, .ref b, .int (Int32.ofNat o), .int (Int32.ofNat len), .null] 6)) (T8.setTop (mkF m 39 #[.val (.ref a), .val (.ref b), .val (.int (Int32.ofNat o)), .val (.int (Int32.ofNat len)), .val .null, .unset] [.ref s.heap.size])) := g8
  have c10 : Steps p.tables e below (s₁.setTop (entryFrame m #[.ref a, .ref b, .int (Int32.ofNat o), .int (Int32.ofNat len), .null] 6)) (T8.setTop (mkF m 45 #[.val (.ref a), .val (.ref b), .val (.int (Int32.ofNat o)), .val (.int (Int32.ofNat len)), .val .null, .val (.ref s.heap.size)] [.int (Int32.ofNat N.slots.size), .ref s.heap.size, .ref a])) := by
    have hc : Steps p.tables e below (s₁.setTop (entryFrame m #[.ref a, .ref b, .int (Int32.ofNat o), .int (Int32.ofNat len), .null] 6)) (T8.setTop (mkF m 45 #[.val (.ref a), .val (.ref b), .val (.int (Int32.ofNat o)), .val (.int (Int32.ofNat len)), .val .null, .val (.ref s.heap.size)] [.int (Int32.ofNat len), .ref s.heap.size, .ref a])) := c9.trans (by
      refine XS.astore X8.here hexec rfl (hb hbytes d39) rfl rfl rfl ?_
      refine XS.aloadN X8.here hexec rfl (hb hbytes d41) rfl rfl ?_
      refine XS.aload X8.here hexec rfl (hb hbytes d42) rfl rfl ?_
      refine XS.iloadN X8.here hexec rfl (hb hbytes d44) rfl ?_
      exact Steps.refl _)
    rw [n4]; exact hc
  obtain ⟨v11, T11, X11, E11, g11⟩ := X8.callS hexec (CodL.law l s.heap.size N) hown (wks W (staticW "java/lang/String" 47 CodL.yN)) (wk W CodL.tab) (W := 1) (Nat.le_of_ble_eq_true rfl) (Nat.le_of_ble_eq_true rfl) (Nat.le_refl _) (by show 0 + len + 0 ≤ len; omega) (g := (mkF m 45 #[.val (.ref a), .val (.ref b), .val (.int (Int32.ofNat o)), .val (.int (Int32.ofNat len)), .val .null, .val (.ref s.heap.size)] [.int (Int32.ofNat N.slots.size), .ref s.heap.size, .ref a])) rfl (by rw [hml]; rfl) c10 (argsL := [.ref s.heap.size, .int (Int32.ofNat N.slots.size)]) (rest := [.ref a]) rfl rfl (by show 2 * 0 + (1 + 0) ≤ _; decide) (hb hbytes d45) (⟨rfl, n1⟩)
  obtain ⟨rfl, q11⟩ := E11
  have hB11 := hB1.mv (X8.warmed.alike.symm.trans X11.warmed.alike) q11
  have c12 : Steps p.tables e below (s₁.setTop (entryFrame m #[.ref a, .ref b, .int (Int32.ofNat o), .int (Int32.ofNat len), .null] 6)) (T11.setTop (mkF m 48 #[.val (.ref a), .val (.ref b), .val (.int (Int32.ofNat o)), .val (.int (Int32.ofNat len)), .val .null, .val (.ref s.heap.size)] [.int 0, .ref a])) := g11
  obtain ⟨T13, X13, p13, bl13, sl13, st13⟩ := X11.finit hexec hown (wk W (.fieldLink "java/lang/String" 15 "java/lang/String" "coder" "B")) (Or.inr ⟨_, (wk W (.laysFinal "java/lang/String" "java/lang/String" "coder" "B"))⟩) (Or.inl ⟨rfl, hnm⟩) f2 (Or.inl rfl) hB11 (t := .byte) (by decide +kernel) rfl (g := (mkF m 48 #[.val (.ref a), .val (.ref b), .val (.int (Int32.ofNat o)), .val (.int (Int32.ofNat len)), .val .null, .val (.ref s.heap.size)] [.int 0, .ref a])) rfl (rest := []) rfl (hb hbytes d48)
  have c14 : Steps p.tables e below (s₁.setTop (entryFrame m #[.ref a, .ref b, .int (Int32.ofNat o), .int (Int32.ofNat len), .null] 6)) (T13.setTop (mkF m 54 #[.val (.ref a), .val (.ref b), .val (.int (Int32.ofNat o)), .val (.int (Int32.ofNat len)), .val .null, .val (.ref s.heap.size)] [.ref s.heap.size, .ref a])) := (c12.trans (st13 _ (Steps.refl _))).trans (by
    refine XS.aloadN X13.here hexec rfl (hb hbytes d51) rfl rfl ?_
    refine XS.aload X13.here hexec rfl (hb hbytes d52) rfl rfl ?_
    exact Steps.refl _)
  obtain ⟨T15, X15, p15, bl15, sl15, st15⟩ := X13.finit hexec hown (wk W (.fieldLink "java/lang/String" 9 "java/lang/String" "value" "[B")) (Or.inr ⟨_, (wk W (.laysFinal "java/lang/String" "java/lang/String" "value" "[B"))⟩) (Or.inl ⟨rfl, hnm⟩) f1 (Or.inl rfl) bl13 (t := (.array .byte)) (by decide +kernel) rfl (g := (mkF m 54 #[.val (.ref a), .val (.ref b), .val (.int (Int32.ofNat o)), .val (.int (Int32.ofNat len)), .val .null, .val (.ref s.heap.size)] [.ref s.heap.size, .ref a])) rfl (rest := []) rfl (hb hbytes d54)
  have c16 : Steps p.tables e below (s₁.setTop (entryFrame m #[.ref a, .ref b, .int (Int32.ofNat o), .int (Int32.ofNat len), .null] 6)) (T15.setTop (mkF m 57 #[.val (.ref a), .val (.ref b), .val (.int (Int32.ofNat o)), .val (.int (Int32.ofNat len)), .val .null, .val (.ref s.heap.size)] [])) := c14.trans (st15 _ (Steps.refl _))
  have ap := apart (Or.inr ⟨_, (wk W (.laysFinal "java/lang/String" "java/lang/String" "value" "[B"))⟩) (Or.inr ⟨_, (wk W (.laysFinal "java/lang/String" "java/lang/String" "coder" "B"))⟩) f1 f2 (t₁ := .array .byte) (t₂ := .byte) (by decide +kernel) (by decide +kernel) (by decide)
  have al := X8.warmed.alike.symm.trans X15.warmed.alike
  have n7 : T11.heap[s.heap.size]? = some N := by rw [q11]; exact n1.1
  exact ⟨T15, none, _, _, _, X15, by simp, rfl, by omega, (fun _ => rfl), ⟨rfl, _, N, bl15, ((Same.refl D _).set _ (by simp)).set _ (by simp), sl15, (Cell.slots_setSlot_ne _ ap).trans sl13, n1.keep al (p15.other hne (p13.other hne n7)), n2, by rw [al.findClass]; exact n3, n4, n5, fun y c h1 h2 => p15.other h1 (p13.other h1 (by rw [q11]; exact n6 y c h2)), by rw [p15.2.2, p13.2.2, q11]; exact z8⟩, fun fs hl => c16.trans (X15.returnOut hexec hret (hb hbytes d57) hl)⟩
end New4
namespace New1
def yN : MethodName := ⟨"java/lang/String", "<init>", "([C)V"⟩
abbrev yB : ByteArray := jdk_42_method_3_code
theorem d0 : decode yB 0 = .ok (.aload_n 0, 1) := by decide +kernel
theorem d1 : decode yB 1 = .ok (.aload_n 1, 1) := by decide +kernel
theorem d2 : decode yB 2 = .ok (.iconst 0, 1) := by decide +kernel
theorem d3 : decode yB 3 = .ok (.aload_n 1, 1) := by decide +kernel
theorem d4 : decode yB 4 = .ok (.arraylength, 1) := by decide +kernel
theorem d5 : decode yB 5 = .ok (.aconst_null, 1) := by decide +kernel
theorem d6 : decode yB 6 = .ok (.invokespecial 27, 3) := by decide +kernel
theorem d9 : decode yB 9 = .ok (.return_, 1) := by decide +kernel
def site : List Cond := [New4.tab] ++ initW "java/lang/String" 27 New4.yN
def tab : Cond := tabOf yN yB 2 none site
def P (a : Addr) (D : Cell) (fV fC : Field) (b : Addr) (A : Cell) (z : Int32) (args : Array Value) (s : State) : Prop := args = #[.ref a, .ref b] ∧ Blank "java/lang/String" a D s ∧ Found "java/lang/String" "value" "[B" fV s ∧ Found "java/lang/String" "coder" "B" fC s ∧ Ch b A s ∧ StaticIs s "java/lang/String" "COMPACT_STRINGS" "Z" (.int z) ∧ ¬ z = 0 ∧ 0 < A.slots.size ∧ A.slots.size ≤ 536870912 ∧ ∀ i, i < A.slots.size → ¬ 255 < cv A i
def E (a : Addr) (D : Cell) (fV fC : Field) (A : Cell) (r : Option Value) (s u : State) : Prop := Got a D fV fC A 0 A.slots.size r s u
/-- new String(chars), not empty, no char above 255: a Latin-1 String of their low bytes -/
theorem law (l : Launch) (a : Addr) (D : Cell) (fV fC : Field) (b : Addr) (A : Cell) (z : Int32) : Law l yN 2 1 3 52 yB 2 none site (P a D fV fC b A z) (E a D fV fC A) [⟨a, fC.slot⟩, ⟨a, fV.slot⟩] 1 A.slots.size := by
  refine Law.of_walk (plainFor_of_name (by decide +kernel)) (by decide +kernel) (by decide +kernel) (by decide) (fun _ _ h => by rw [h.1]; rfl) (fun _ U U' hal hh h => ⟨h.1, h.2.1.mv hal hh, h.2.2.1.al hal, h.2.2.2.1.al hal, h.2.2.2.2.1.mv hal hh, h.2.2.2.2.2.1.there hal hh, h.2.2.2.2.2.2⟩) (fun r U U' V V' h1 hal h2 h => Got.mv r U U' V V' h1 hal h2 h) ?_
  intro p e s m args below meth c s₁ X0 hexec hbytes hml hret hlk hnm hown hh0 W hP
  obtain ⟨rfl, hB, f1, f2, hA, s1, hz, l0, l2, hp⟩ := hP
  have c1 : Steps p.tables e below (s₁.setTop (entryFrame m #[.ref a, .ref b] 2)) (s₁.setTop (mkF m 0 #[.val (.ref a), .val (.ref b)] [])) := entry rfl
  have c2 : Steps p.tables e below (s₁.setTop (entryFrame m #[.ref a, .ref b] 2)) (s₁.setTop (mkF m 6 #[.val (.ref a), .val (.ref b)] [.null, .int (Int32.ofNat A.slots.size), .int 0, .ref b, .ref a])) := c1.trans (by
    refine XS.aloadN X0.here hexec rfl (hb hbytes d0) rfl rfl ?_
    refine XS.aloadN X0.here hexec rfl (hb hbytes d1) rfl rfl ?_
    refine iconstV X0.here hexec rfl 0 (hb hbytes d2) (by decide) ?_
    refine XS.aloadN X0.here hexec rfl (hb hbytes d3) rfl rfl ?_
    refine X0.alen hexec (hA.1.mv X0.warmed.alike hh0) rfl rfl (hb hbytes d4) ?_
    refine XS.aconstNull X0.here hexec rfl (hb hbytes d5) ?_
    exact Steps.refl _)
  obtain ⟨v3, T3, X3, E3, g3⟩ := X0.callN hexec (New4.law l a D fV fC b A z 0 A.slots.size) rfl hown (wks W (initW "java/lang/String" 27 New4.yN)) (W New4.tab (by simp only [site, List.mem_cons, List.mem_append, true_or, or_true])) (W := 0) (Nat.le_of_ble_eq_true rfl) (Nat.le_of_ble_eq_true rfl) (Nat.le_refl _) (by show 0 + A.slots.size ≤ A.slots.size; omega) (g := (mkF m 6 #[.val (.ref a), .val (.ref b)] [.null, .int (Int32.ofNat A.slots.size), .int (Int32.ofNat 0), .ref b, .ref a])) rfl (by rw [hml]; rfl) c2 (argsL := [.ref b, .int (Int32.ofNat 0), .int (Int32.ofNat A.slots.size), .null]) (rest := []) rfl rfl (by show 2 * 0 + 0 ≤ _; decide) (hb hbytes d6) (⟨rfl, hB.mv X0.warmed.alike hh0, f1.al X0.warmed.alike, f2.al X0.warmed.alike, hA.mv X0.warmed.alike hh0, s1.there X0.warmed.alike hh0, hz, l0, by omega, l2, fun i hi => by rw [Nat.zero_add]; exact hp i hi⟩)
  have e0 := Got.mv _ s₁ s _ _ hh0.symm (Vm.Alike.refl _) rfl E3
  obtain rfl := e0.1
  have c4 : Steps p.tables e below (s₁.setTop (entryFrame m #[.ref a, .ref b] 2)) (T3.setTop (mkF m 9 #[.val (.ref a), .val (.ref b)] [])) := g3
  exact ⟨T3, none, _, _, _, X3, by simp, rfl, by omega, (fun _ => rfl), e0, fun fs hl => c4.trans (X3.returnOut hexec hret (hb hbytes d9) hl)⟩
theorem pays {l : Launch} {R : Room} {p : Program} {e : Env} {below : List Frame} {s : State} {sargs : Array Value} {len W : Nat} (a : Addr) (D : Cell) (fV fC : Field) (b : Addr) (A : Cell) (z : Int32) (htab : tab.before sargs s = true) (hfr : 4 ≤ R.frames) (hlo : W + 65 ≤ R.locals) :
    Back l R p e below s sargs yN len W (fun A₁ a₁ => A₁.cells + 1 ≤ R.cells ∧ A₁.slots + A.slots.size ≤ R.slots ∧ P a D fV fC b A z a₁ A₁.U) (fun A₁ _ v₁ B₁ => E a D fV fC A v₁ A₁.U B₁.U ∧ B₁.locs = A₁.locs ++ [⟨a, fC.slot⟩, ⟨a, fV.slot⟩] ∧ B₁.cells = A₁.cells + 1 ∧ B₁.slots = A₁.slots + A.slots.size) :=
  (law l a D fV fC b A z).pays htab hfr (by omega)
end New1
end StrChars
namespace StrChars.Road
open Jvm Sem ClassFile Op Lib Jvm.Stand Jvm.Free Jvm.Free.XT
open Jvm.Lib.Cold (StaticIs)
abbrev ST : String := "java/lang/String"
/-- every table word that New1's law asks, flat -/
abbrev words : List Jvm.Cond := [.code New1.yN New1.yB 2 none, .initialized ST, .methodLink ST 27 New4.yN, .instanceMethod New4.yN,
  .code New4.yN New4.yB 6 none, .fieldLink ST 38 ST "COMPACT_STRINGS" "Z", .laysFinal ST ST "value" "[B", .fieldLink ST 9 ST "value" "[B", .laysFinal ST ST "coder" "B", .fieldLink ST 15 ST "coder" "B",
  .methodLink ST 1 Lib.objectInit, .instanceMethod Lib.objectInit, .code Lib.objectInit ⟨#[0xb1]⟩ 1 none, .methodLink ST 177 Cmp3.yN, .static Cmp3.yN, .methodLink ST 47 CodL.yN, .static CodL.yN,
  .code Cmp3.yN Cmp3.yB 6 (some (.array .byte)), .initialized U16, .arrayClass .byte, .methodLink U16 115 Cmp5.yN, .static Cmp5.yN, .code Cmp5.yN Cmp5.yB 7 (some .int), .code CodL.yN CodL.yB 2 (some .byte)]
theorem tab_of {a : Array Value} {s : State} (h : ∀ w ∈ words, w.before a s = true) : New1.tab.before a s = true := by
  have h5 : Cmp5.tab.before a s = true := unparts (wk h (.code Cmp5.yN Cmp5.yB 7 (some .int))) (wks h (.initialized Cmp5.yN.cls :: Cmp5.site))
  have hc : CodL.tab.before a s = true := unparts (wk h (.code CodL.yN CodL.yB 2 (some .byte))) (wks h (.initialized CodL.yN.cls :: CodL.site))
  have q5 : ∀ w ∈ Cmp5.tab :: words, w.before a s = true := fun w hw => (List.mem_cons.mp hw).elim (fun e => e ▸ h5) (h w)
  have h3 : Cmp3.tab.before a s = true := unparts (wk q5 (.code Cmp3.yN Cmp3.yB 6 (some (.array .byte)))) (wks q5 (.initialized Cmp3.yN.cls :: Cmp3.site))
  have q3 : ∀ w ∈ Cmp3.tab :: CodL.tab :: words, w.before a s = true := fun w hw => (List.mem_cons.mp hw).elim (fun e => e ▸ h3) fun hw => (List.mem_cons.mp hw).elim (fun e => e ▸ hc) (h w)
  have h4 : New4.tab.before a s = true := unparts (wk q3 (.code New4.yN New4.yB 6 none)) (wks q3 (.initialized New4.yN.cls :: New4.site))
  have q4 : ∀ w ∈ New4.tab :: words, w.before a s = true := fun w hw => (List.mem_cons.mp hw).elim (fun e => e ▸ h4) (h w)
  exact unparts (wk q4 (.code New1.yN New1.yB 2 none)) (wks q4 (.initialized New1.yN.cls :: New1.site))
/-- the words ride from the start Z to the walk's own state -/
theorem moved {Z s : State} {a0 args : Array Value} (hZ : Z.Warmed39 s.vm) (hw : ∀ d ∈ words, d.before a0 Z = true) : ∀ d ∈ words, d.before args s = true := fun d hd => by
  have q := hw d hd
  have t : ∀ d ∈ words, d = .arrayClass .byte ∨ (d.onTables && d.keepsFace) = true := by decide +kernel
  rcases t d hd with rfl | t
  · exact RoadKit.mvA hZ q
  · exact RoadKit.mv hZ q t
/-- WHAT COMES BACK, over the tables of the start Z: h the heap at the call, h' behind it -/
def Q (Z : State) (x : Addr) (A : Cell) (h : Heap) (v : Option Value) (h' : Heap) (L : List Loc) : Prop := v = none ∧ (∀ y ∈ L, y.base = x) ∧ RoadKit.Keep h h' [x] ∧ h'.size = h.size + 1 ∧ RoadKit.Exa Z h' x ST ∧ RoadKit.Fld Z h' x ST "value" "[B" (.ref h.size) ∧ RoadKit.Fld Z h' x ST "coder" "B" (.int 0) ∧
  (∃ V : Cell, RoadKit.Arr Z h' h.size V .byte ∧ V.vm = .none ∧ Z.vm.findClass "[B" = some V.cls ∧ V.slots.size = A.slots.size ∧ ∀ j, j < A.slots.size → V.slots[j]? = some (.int (lo8 (cv A j)))) ∧
  ∀ (O n d : String) (w : Value), RoadKit.Fld Z h x O n d w → RoadKit.slotOf Z O n d ≠ RoadKit.slotOf Z ST "value" "[B" → RoadKit.slotOf Z O n d ≠ RoadKit.slotOf Z ST "coder" "B" → RoadKit.Fld Z h' x O n d w
/-- **new String(chars) AT A CALL, IN THE ROAD'S FORM**: for specialBack behind newO: x the fresh String, b the char[] with the cell A -/
theorem back {p : Program} {l : Launch} {e : Env} {R : Room} {s : State} {args : Array Value} {below : List Frame} {len W : Nat} {Z : State} {a0 : Array Value} {h : Heap} (hZ : Z.Warmed39 s.vm) (hw : ∀ d ∈ words, d.before a0 Z = true) {kI : Nat} (wi : (Jvm.Cond.instantiable ST kI).before a0 Z = true)
    {x b : Addr} {A : Cell} {z : Int32} {v0 c0 : Value} (E : RoadKit.Exa Z h x ST) (V : RoadKit.Fld Z h x ST "value" "[B" v0) (C : RoadKit.Fld Z h x ST "coder" "B" c0) (K : RoadKit.Arr Z h b A .char) (hty : Typed .char A) (S : RoadKit.Sta Z h ST "COMPACT_STRINGS" "Z" (.int z)) (hz : ¬ z = 0)
    (l0 : 0 < A.slots.size) (l2 : A.slots.size ≤ 536870912) (hp : ∀ i, i < A.slots.size → ¬ 255 < cv A i) (hfr : 4 ≤ R.frames) (hlo : W + 65 ≤ R.locals) :
    Back l R p e below s args New1.yN len W (fun P a => a = #[.ref x, .ref b] ∧ P.U.heap = h ∧ P.cells + 1 ≤ R.cells ∧ P.slots + A.slots.size ≤ R.slots)
      (fun P _ v B => ∃ L, Q Z x A h v B.U.heap L ∧ B.locs = P.locs ++ L ∧ B.cells = P.cells + 1 ∧ B.slots = P.slots + A.slots.size) := by
  intro m meth c P g ig mk a X hg hsize hdg hW hn hp'
  obtain ⟨rfl, rfl, r1, r2⟩ := hp'
  have al : Z.vm.Alike P.U.vm := hZ.alike.trans X.warmed.alike
  obtain ⟨D, cfV, kV, iV, fV, hD, gV, stV, knV, obV, asV, slV⟩ := id V
  obtain ⟨D', cfC, kC, iC, fC, hD', gC, stC, -, -, asC, slC⟩ := id C
  cases hD.symm.trans hD'
  obtain ⟨D2, kD, e1, e2, e3, e4, e5⟩ := id E
  cases hD.symm.trans e1
  obtain ⟨c2, k2, i1, i2, i3, -⟩ := Cond.instantiable_spec wi
  cases e2.symm.trans i1
  cases e3.symm.trans i2
  obtain ⟨kU, u1, u2⟩ := al.2.2 _ _ e3
  have hB : Blank ST x D P.U := ⟨hD, ⟨knV, fun q hq => by rw [hq] at obV; cases obV⟩, by rw [al.findClass]; exact e2, kU, u1, by rw [u2]; exact i3, by rw [u2]; exact e5 i3⟩
  have F1 : Found ST "value" "[B" fV P.U := ⟨SBG.found_only al ⟨cfV, kV, iV, gV⟩, stV⟩
  have F2 : Found ST "coder" "B" fC P.U := ⟨SBG.found_only al ⟨cfC, kC, iC, gC⟩, stC⟩
  have hA : Ch b A P.U := ⟨⟨K.1, State.isArrayOf_alike al K.2.1, K.2.2, by omega⟩, hty⟩
  have hS : StaticIs P.U ST "COMPACT_STRINGS" "Z" (.int z) := by
    obtain ⟨cfS, iS, kS, fS, st, cS, t1, t2, t3, t4, t5, t6, t7⟩ := S
    exact StaticIs.there (s := { Z with heap := P.U.heap }) ⟨cfS, iS, kS, fS, st, cS, t1, t2, t3, t4, t5, (fun q => by rw [q] at t6; cases t6), t7⟩ al rfl
  obtain ⟨v, B, X', ⟨⟨hv, E', V', q1, q2, q3, q4, q5, q6, q7, q8, q9, q10, q11⟩, hl, hc, hs⟩, st⟩ := New1.pays x D fV fC b A z (tab_of (moved hZ hw)) hfr hlo m meth c P g ig mk _ X hg hsize hdg hW hn ⟨r1, r2, rfl, hB, F1, F2, hA, hS, hz, l0, l2, hp⟩
  have al' : Z.vm.Alike B.U.vm := hZ.alike.trans X'.warmed.alike
  have hsz : E'.slots.size = D.slots.size := by
    obtain ⟨-, -, -, kB, w1, w2, w3⟩ := q1
    obtain ⟨kB', y1, y2⟩ := al'.2.2 _ _ e3
    rw [q2.2.1] at w1
    cases w1.symm.trans y1
    rw [w3, e5 i3, y2]
  refine ⟨v, B, X', ⟨_, ⟨hv, ?_, ⟨by omega, fun y cy hy hn' => q10 y cy (by simpa using hn') hy, fun y cy hy => ?_⟩, q11, ⟨E', _, q1.1, by rw [q2.2.1]; exact e2, by rw [q2.2.1]; exact e3, by rw [q2.1]; exact obV, fun _ => by rw [hsz]; exact e5 i3⟩,
    ⟨E', cfV, kV, iV, fV, q1.1, gV, stV, by rw [q2.1]; exact knV, by rw [q2.1]; exact obV, by rw [q2.2.1]; exact asV, q3⟩, ⟨E', cfC, kC, iC, fC, q1.1, gC, stC, by rw [q2.1]; exact knV, by rw [q2.1]; exact obV, by rw [q2.2.1]; exact asC, q4⟩,
    ⟨V', ⟨q5.1, State.isArrayOf_alike al'.symm q5.2.1, q5.2.2.1⟩, q6, by rw [← al'.findClass]; exact q7, q8, fun j hj => by have := q9 j hj; rwa [Nat.zero_add] at this⟩, fun O n d w F n1 n2 => ?_⟩, hl, hc, hs⟩, st⟩
  · intro y hy
    simp only [List.mem_cons, List.not_mem_nil, or_false] at hy
    rcases hy with rfl | rfl <;> rfl
  · by_cases q : y = x
    · subst q
      cases hD.symm.trans hy
      exact ⟨E', q1.1, q2.2.1, q2.1, hsz⟩
    · exact ⟨cy, q10 y cy q hy, rfl, rfl, rfl⟩
  · obtain ⟨D3, cf, k, i, f, g1, g2, g3, g4, g5, g6, g7⟩ := F
    cases hD.symm.trans g1
    simp only [RoadKit.slotOf, g2, gV, gC, Option.map_some, Option.getD_some] at n1 n2
    exact ⟨E', cf, k, i, f, q1.1, g2, g3, by rw [q2.1]; exact g4, by rw [q2.1]; exact g5, by rw [q2.2.1]; exact g6, by rw [q2.2.2 f.slot (by simp [n1, n2])]; exact g7⟩
end StrChars.Road
namespace StrChars.Road
open Jvm Sem ClassFile Op Lib Jvm.Stand Jvm.Free Jvm.Free.XT
/-- WHAT COMES BACK, the byte[] as a list of values -/
def QA (Z : State) (x : Addr) (zn : Int32) (cs : List Int32) (h : Heap) (v : Option Value) (h' : Heap) (L : List Loc) : Prop := v = none ∧ (∀ y ∈ L, y.base = x) ∧ RoadKit.Keep h h' [x] ∧ h'.size = h.size + 1 ∧ RoadKit.Exa Z h' x ST ∧ RoadKit.Fld Z h' x ST "value" "[B" (.ref h.size) ∧ RoadKit.Fld Z h' x ST "coder" "B" (.int 0) ∧
  (∃ kb, Z.vm.findClass "[B" = some kb ∧ RoadKit.Arv Z h' h.size kb .byte zn (cs.map fun c => .int (lo8 c)) (.int 0)) ∧
  ∀ (O n d : String) (w : Value), RoadKit.Fld Z h x O n d w → RoadKit.slotOf Z O n d ≠ RoadKit.slotOf Z ST "value" "[B" → RoadKit.slotOf Z O n d ≠ RoadKit.slotOf Z ST "coder" "B" → RoadKit.Fld Z h' x O n d w
/-- **new String(chars) AT A CALL, THE ARRAYS AS LISTS**: the char[] at b holds cs, not empty, no char above 255 -/
theorem backArv {p : Program} {l : Launch} {e : Env} {R : Room} {s : State} {args : Array Value} {below : List Frame} {len W : Nat} {Z : State} {a0 : Array Value} {h : Heap} (hZ : Z.Warmed39 s.vm) (hw : ∀ d ∈ words, d.before a0 Z = true) {kI : Nat} (wi : (Jvm.Cond.instantiable ST kI).before a0 Z = true)
    {x b : Addr} {k : ClassId} {zn z : Int32} {cs : List Int32} {dv v0 c0 : Value} (E : RoadKit.Exa Z h x ST) (V : RoadKit.Fld Z h x ST "value" "[B" v0) (C : RoadKit.Fld Z h x ST "coder" "B" c0) (K : RoadKit.Arv Z h b k .char zn (cs.map Value.int) dv) (S : RoadKit.Sta Z h ST "COMPACT_STRINGS" "Z" (.int z)) (hz : ¬ z = 0)
    (hlen : zn.toNatClampNeg = cs.length) (h0 : 0 < cs.length) (hbig : cs.length ≤ 536870912) (hall : ∀ c ∈ cs, ¬ 255 < c) (hfr : 4 ≤ R.frames) (hlo : W + 65 ≤ R.locals) :
    Back l R p e below s args New1.yN len W (fun P a => a = #[.ref x, .ref b] ∧ P.U.heap = h ∧ P.cells + 1 ≤ R.cells ∧ P.slots + cs.length ≤ R.slots)
      (fun P _ v B => ∃ L, QA Z x zn cs h v B.U.heap L ∧ B.locs = P.locs ++ L ∧ B.cells = P.cells + 1 ∧ B.slots = P.slots + cs.length) := by
  obtain ⟨A, K1, K2, K3, K4, K5, K6⟩ := K
  have e : A.slots.size = cs.length := K3.trans hlen
  have hat : ∀ (i : Nat) (hi : i < cs.length), A.slots[i]? = some (.int cs[i]) := fun i hi => by rw [K5 i (by omega)]; simp [List.getD_eq_getElem?_getD, hi]
  have hcv : ∀ (i : Nat) (hi : i < cs.length), cv A i = cs[i] := fun i hi => by unfold cv; rw [hat i hi]
  have hty : Typed .char A := fun i v hv => by
    have hi : i < A.slots.size := (Array.getElem?_eq_some_iff.mp hv).1
    have q := K5 i hi
    rw [hv] at q
    rw [Option.some.inj q]
    exact K6 i hi
  refine Back.mono (back hZ hw wi E V C K1 hty S hz (by omega) (by omega) (fun i hi => by rw [hcv i (by omega)]; exact hall _ (List.getElem_mem _)) hfr hlo) (fun P a hp => ⟨hp.1, hp.2.1, hp.2.2.1, by rw [e]; exact hp.2.2.2⟩) (fun P a v B hp hq => ?_)
  obtain ⟨L, ⟨q1, q2, q3, q4, q5, q6, q7, ⟨V', v1, v2, v3, v4, v5⟩, q9⟩, hl, hc, hs⟩ := hq
  refine ⟨L, ⟨q1, q2, q3, q4, q5, q6, q7, ⟨V'.cls, v3, V', v1, rfl, by rw [v4, e, hlen], K4, fun i hi => ?_, fun i hi => ?_⟩, q9⟩, hl, hc, by rw [hs, e]⟩
  · have hi' : i < cs.length := by omega
    rw [v5 i (by omega), hcv i hi']; simp [List.getD_eq_getElem?_getD, hi']
  · have hi' : i < cs.length := by omega
    simp only [List.getD_eq_getElem?_getD, List.getElem?_map, List.getElem?_eq_getElem hi', Option.map_some, Option.getD_some]
    exact fits_lo8 _
end StrChars.Road
namespace StrChars.Road
open Jvm Sem ClassFile Op Lib Jvm.Stand Jvm.Free Jvm.Free.XT
/-- WHAT COMES BACK, in the writer's own shape -/
def QV (Z : State) (x : Addr) (N : Int32) (bs : List Int32) (h : Heap) (n0 : Nat) (v : Option Value) (h' : Heap) (L : List Loc) : Prop := v = none ∧ RoadKit.Fr n0 L ∧ RoadKit.Keep h h' [x] ∧ RoadKit.Exa Z h' x ST ∧ RoadKit.Fld Z h' x ST "coder" "B" (.int 0) ∧
  ∃ (t : Addr) (kb : ClassId), n0 ≤ t ∧ h.size ≤ t ∧ ¬ t = x ∧ RoadKit.Fld Z h' x ST "value" "[B" (.ref t) ∧ RoadKit.Arv Z h' t kb .byte N (bs.map Value.int) (.int 0)
/-- **new String(chars) AT A CALL, FOR THE WRITER**: a char[] of n known ints, each 0 to 255 -/
theorem backV {p : Program} {l : Launch} {e : Env} {R : Room} {s : State} {args : Array Value} {below : List Frame} {len W : Nat} {Z : State} {a0 : Array Value} {h : Heap} (hZ : Z.Warmed39 s.vm) (hw : ∀ d ∈ words, d.before a0 Z = true) {kI : Nat} (wi : (Jvm.Cond.instantiable ST kI).before a0 Z = true)
    {x b : Addr} {kC : ClassId} {cs bs : List Int32} {d v0 c0 : Value} {z N : Int32} {n n0 : Nat} (hx0 : n0 ≤ x) (hh0 : n0 ≤ h.size) (E : RoadKit.Exa Z h x ST) (V : RoadKit.Fld Z h x ST "value" "[B" v0) (C : RoadKit.Fld Z h x ST "coder" "B" c0) (K : RoadKit.Arv Z h b kC .char N (cs.map Value.int) d) (S : RoadKit.Sta Z h ST "COMPACT_STRINGS" "Z" (.int z)) (hz : ¬ z = 0)
    (hn : cs.length = n) (hN : N = Int32.ofNat n) (l0 : 0 < n) (l2 : n ≤ 4000) (hp : ∀ c ∈ cs, ¬ c < 0 ∧ ¬ (255 : Int32) < c) (hb : bs = cs.map (fun c => c.toInt8.toInt32)) (hfr : 4 ≤ R.frames) (hlo : W + 65 ≤ R.locals) :
    Back l R p e below s args (⟨"java/lang/String", "<init>", "([C)V"⟩ : MethodName) len W (fun P a => a = #[.ref x, .ref b] ∧ P.U.heap = h ∧ P.cells + 1 ≤ R.cells ∧ P.slots + n ≤ R.slots)
      (fun P _ v B => ∃ L, QV Z x N bs h n0 v B.U.heap L ∧ B.locs = P.locs ++ L ∧ B.cells = P.cells + 1 ∧ B.slots = P.slots + n) := by
  subst hn hN hb
  refine Back.mono (backArv hZ hw wi E V C K S hz (n32 (by omega)) l0 (by omega) (fun c hc => (hp c hc).2) hfr hlo) (fun P a hp => hp) (fun P a v B hp hq => ?_)
  obtain ⟨L, ⟨q1, q2, q3, q4, q5, q6, q7, ⟨kb, v1, v2⟩, q9⟩, hl, hc, hs⟩ := hq
  exact ⟨L, ⟨q1, fun y hy => by rw [q2 y hy]; exact hx0, q3, q5, q7, h.size, kb, hh0, Nat.le_refl _, Nat.ne_of_gt E.lt, q6, by rw [List.map_map]; exact v2⟩, hl, hc, hs⟩
end StrChars.Road
end Jvm.Pilot.@@N@@
namespace Jvm.Pilot.@@N@@
open Jvm Jvm.ClassFile Sem Op Lib Jvm.Free Jvm.Stand Jvm.LawKit Jvm.RoadKit Bundle Jvm.Pilot.@@N@@.Jvm.D
section Own
variable {p : Program} {l : Launch} {e : Env} {R : Room} {s : State} {m : MethodId} {args : Array Value} {below : List Frame} {meth : Method} {c : Code} {T : State} {locs : List Loc} {cells slots : Nat} {Z : State} {a0 : Array Value} {h h0 : Heap} {Q : Option Value → Heap → List Loc → Prop} {S S' : State}
/-- a body's contract: from the heap h0 with the arguments as' it returns, and Q says of the value, the heap and the places written -/
def own_Met (l : Launch) (Z : State) (y : MethodName) (bytes : ByteArray) (maxL : Nat) (rt : Option FieldType) (rm : Room) (as' : Array Value) (h0 : Heap) (Q : Option Value → Heap → List Loc → Prop) : Prop :=
  ∀ ws : List Jvm.Cond, MetFree l y (head1 (Jvm.Cond.code y bytes maxL rt :: ws) rm) (fun a U => a = as' ∧ Z.Warmed39 U.vm ∧ U.heap = h0) (fun _ _ _ _ _ => True) (fun _ U o U' => ∃ v L, o = .returned v ∧ Q v U'.heap L ∧ FrameEnd U o U' L rm.cells rm.slots)
/-- from S the body comes to its end, and Q holds there -/
def own_Ends (p : Program) (e : Env) (below : List Frame) (s : State) (rm : Room) (Q : Option Value → Heap → List Loc → Prop) (S : State) : Prop :=
  ∃ s₂ o, Steps p.tables e below S s₂ ∧ s₂.status = .running ∧ Ended s₂ below o ∧ ∃ v L, o = .returned v ∧ Q v s₂.heap L ∧ FrameEnd s o s₂ L rm.cells rm.slots
theorem own_of (hs : ∀ t, Steps p.tables e below S' t → Steps p.tables e below S t) (k : own_Ends p e below s R Q S') : own_Ends p e below s R Q S := by
  obtain ⟨s₂, o, h1, h2⟩ := k; exact ⟨s₂, o, hs _ h1, h2⟩
theorem own_tr (hs : Steps p.tables e below S S') (k : own_Ends p e below s R Q S') : own_Ends p e below s R Q S := by
  obtain ⟨s₂, o, h1, h2⟩ := k; exact ⟨s₂, o, hs.trans h1, h2⟩
theorem own_ends_mono {Q' : Option Value → Heap → List Loc → Prop} (hq : ∀ v h L, Q v h L → Q' v h L) (k : own_Ends p e below s R Q S) : own_Ends p e below s R Q' S := by
  obtain ⟨s₂, o, h1, h2, h3, v, L, h4, h5, h6⟩ := k; exact ⟨s₂, o, h1, h2, h3, v, L, h4, hq _ _ _ h5, h6⟩
theorem own_met_mono {y : MethodName} {bytes : ByteArray} {maxL : Nat} {rt : Option FieldType} {rm : Room} {as' : Array Value} {Q' : Option Value → Heap → List Loc → Prop} (k : own_Met l Z y bytes maxL rt rm as' h0 Q) (hq : ∀ v h L, Q v h L → Q' v h L) : own_Met l Z y bytes maxL rt rm as' h0 Q' := by
  intro ws p e ha hc hk s m args below hf happ hP hK
  obtain ⟨n, o, g1, g2, g3, v, L, g4, g5, g6⟩ := k ws p e ha hc hk s m args below hf happ hP hK
  exact ⟨n, o, g1, g2, g3, v, L, g4, hq _ _ _ g5, g6⟩
theorem own_body {y : MethodName} {bytes : ByteArray} {maxL : Nat} {rt : Option FieldType} {rm : Room} {as' : Array Value} (hpl : plainFor y = true)
    (body : ∀ (p : Program) (e : Env) (s : State) (m : MethodId) (below : List Frame) (meth : Method) (c : Code) (T : State), Stand p l e rm s m as' below meth c T [] 0 0 → T.heap = h0 → p.tables.exec = Jvm.exec → c.code = bytes → c.maxLocals = maxL → s.vm.findClass y.cls = some m.cls → meth.name = y.name → meth.sig.returnType = rt → meth.locks = false → Z.Warmed39 s.vm → own_Ends p e below s rm Q (T.setTop (entryFrame m as' maxL))) :
    own_Met l Z y bytes maxL rt rm as' h0 Q := by
  intro ws
  refine MetFree.of_bodySF hpl hisR ?_
  intro p e s m args below meth c s₁ Bd hml0 hP hK
  obtain ⟨rfl, hZ, hh⟩ := hP
  exact body p e s m below meth c s₁ (Stand.of_body Bd) (by rw [← hh, Bd.state]; rfl) Bd.exec Bd.bytes hml0 (findClass_of_methodNamed Bd.named) (name_of_methodNamed Bd.named Bd.method).1 Bd.returns Bd.notSynchronized hZ
theorem own_ret (X : Stand p l e R s m args below meth c T locs cells slots) (hlk : meth.locks = false) {v : Option Value} (hv : meth.sig.returnType = none → v = none) (eT : T.heap = h) (hc : cells ≤ R.cells) (hs : slots ≤ R.slots) (hq : Q v h locs)
    (st : ∀ fs : List Frame, (∀ (f : JFrame) (acts : List Action), f.method = m → f.locked = none → f.entered = [] → (doReturn e (T.setTop f) acts v).1 = T.setFrames fs) → Steps p.tables e below S (T.setFrames fs)) : own_Ends p e below s R Q S := by
  subst eT
  obtain ⟨fs, hr, hrun, hended, hW, hsame⟩ := X.leave hv hlk
  exact ⟨_, _, st fs hr, hrun, hended, _, _, rfl, hq, ⟨_, rfl⟩, hW, hsame.mono hc hs⟩
theorem own_retI (X : Stand p l e R s m args below meth c T locs cells slots) (hx : p.tables.exec = Jvm.exec) (hlk : meth.locks = false) (eT : T.heap = h) {pc : Nat} {Ls : Array Slot} {z : Int32} {rest : List Value} (hret : meth.sig.returnType = some .int) (hd : decode c.code pc = .ok (.ireturn, 1))
    (hc : cells ≤ R.cells) (hs : slots ≤ R.slots) (hq : Q (some (.int z)) h locs) : own_Ends p e below s R Q (T.setTop (mkF m pc Ls (.int z :: rest))) :=
  own_ret X hlk (fun q => by rw [hret] at q; cases q) eT hc hs hq fun fs hr => retOut X hx hret rfl (Or.inl ⟨rfl, Or.inl rfl, z, rfl⟩) hd hr
theorem own_retN (X : Stand p l e R s m args below meth c T locs cells slots) (hx : p.tables.exec = Jvm.exec) (hlk : meth.locks = false) (eT : T.heap = h) {pc : Nat} {Ls : Array Slot} {z z' : Int32} {rest : List Value} {t : FieldType} (hret : meth.sig.returnType = some t) (ht : t = .boolean ∨ t = .byte ∨ t = .char ∨ t = .short) (hz : nar t z = z') (hd : decode c.code pc = .ok (.ireturn, 1))
    (hc : cells ≤ R.cells) (hs : slots ≤ R.slots) (hq : Q (some (.int z')) h locs) : own_Ends p e below s R Q (T.setTop (mkF m pc Ls (.int z :: rest))) := by
  subst hz
  exact own_ret X hlk (fun q => by rw [hret] at q; cases q) eT hc hs hq fun fs hr => retN X hx hret ht hd hr
theorem own_retJ (X : Stand p l e R s m args below meth c T locs cells slots) (hx : p.tables.exec = Jvm.exec) (hlk : meth.locks = false) (eT : T.heap = h) {pc : Nat} {Ls : Array Slot} {z : Int64} {rest : List Value} (hret : meth.sig.returnType = some .long) (hd : decode c.code pc = .ok (.lreturn, 1))
    (hc : cells ≤ R.cells) (hs : slots ≤ R.slots) (hq : Q (some (.long z)) h locs) : own_Ends p e below s R Q (T.setTop (mkF m pc Ls (.long z :: rest))) :=
  own_ret X hlk (fun q => by rw [hret] at q; cases q) eT hc hs hq fun fs hr => retOut X hx hret rfl (Or.inr (Or.inl ⟨rfl, rfl, z, rfl⟩)) hd hr
theorem own_retA (X : Stand p l e R s m args below meth c T locs cells slots) (hx : p.tables.exec = Jvm.exec) (hlk : meth.locks = false) (eT : T.heap = h) {pc : Nat} {Ls : Array Slot} {w : Value} {rest : List Value} {t : FieldType} (hret : meth.sig.returnType = some t) (ht : t.isReference = true) (hw : w.isRef = true) (hd : decode c.code pc = .ok (.areturn, 1))
    (hc : cells ≤ R.cells) (hs : slots ≤ R.slots) (hq : Q (some w) h locs) : own_Ends p e below s R Q (T.setTop (mkF m pc Ls (w :: rest))) :=
  own_ret X hlk (fun q => by rw [hret] at q; cases q) eT hc hs hq fun fs hr => retOut X hx hret (by rcases ref_cases hw with rfl | ⟨z, rfl⟩ <;> cases t <;> first | rfl | (simp [FieldType.isReference] at ht)) (Or.inr (Or.inr (Or.inr (Or.inr ⟨rfl, ht, hw⟩)))) hd hr
theorem own_retV (X : Stand p l e R s m args below meth c T locs cells slots) (hx : p.tables.exec = Jvm.exec) (hlk : meth.locks = false) (eT : T.heap = h) {pc : Nat} {Ls : Array Slot} (hret : meth.sig.returnType = none) (hd : decode c.code pc = .ok (.return_, 1))
    (hc : cells ≤ R.cells) (hs : slots ≤ R.slots) (hq : Q none h locs) : own_Ends p e below s R Q (T.setTop (mkF m pc Ls [])) :=
  own_ret X hlk (fun _ => rfl) eT hc hs hq fun fs hr => X.returnOut hx hret hd hr
/-! calls by the callee's contract -/
variable {y z : MethodName} {bytes : ByteArray} {maxL : Nat} {rt : Option FieldType} {rm : Room} {Qc : Option Value → Heap → List Loc → Prop} {own C : String} {index : Nat} {g : JFrame} {argsL rest : List Value} {b : Addr}
theorem own_static (X : Stand p l e R s m args below meth c T locs cells slots) (hx : p.tables.exec = Jvm.exec) (hZ : Z.Warmed39 s.vm) (hown : s.vm.findClass own = some m.cls) (eT : T.heap = h)
    (w1 : (Jvm.Cond.methodLink own index y).before a0 Z = true) (w2 : (Jvm.Cond.static y).before a0 Z = true) (w3 : (Jvm.Cond.initialized y.cls).before a0 Z = true) (w4 : (Jvm.Cond.code y bytes maxL rt).before a0 Z = true)
    (hy : y.cls ≠ "java/lang/invoke/MethodHandle" ∧ y.cls ≠ "java/lang/invoke/VarHandle") (hM : own_Met l Z y bytes maxL rt rm argsL.toArray h Qc)
    (hg : g.method = m) (hsz : g.locals.size = c.maxLocals) (hlen : ∀ sig, parseMethodDescriptor y.desc = some sig → argsL.length = sig.parameters.length) (hst : g.stack = argsL.reverse ++ rest)
    (hf : rm.frames + 1 ≤ R.frames) (hl : (2 * g.monitorRoom + (rest.map fun v => v.category).sum) + (maxL + 11) + rm.locals ≤ R.locals) (hc : cells + rm.cells ≤ R.cells) (hs : slots + rm.slots ≤ R.slots)
    (hd : decode c.code g.pc = .ok (.invokestatic index, 3)) :
    ∃ (v : Option Value) (T' : State) (L : List Loc) (h' : Heap), Stand p l e R s m args below meth c T' (locs ++ L) (cells + rm.cells) (slots + rm.slots) ∧ T'.heap = h' ∧ Qc v h' L ∧ ∀ t, Steps p.tables e below (T'.setTop { g with pc := g.pc + 3, stack := v.toList ++ rest }) t → Steps p.tables e below (T.setTop g) t := by
  obtain ⟨v, _, ⟨T', L', k', n'⟩, -, X', ⟨Lc, hQ, e1, e2, e3⟩, st⟩ := Jvm.LawKit.callS X hx hown (mvT hZ w1) (mvT hZ w2) (mvT hZ w3) (mvT hZ w4) hy (backOf (hM []) hZ w4 w3 hf hl) hg hsz hlen hst (Nat.le_refl _) hd (fun _ _ => ⟨rfl, eT, hc, hs⟩)
  dsimp only [Pt.U, Pt.locs, Pt.cells, Pt.slots] at X' e1 e2 e3 st hQ
  subst e1 e2 e3
  exact ⟨v, T', Lc, _, X', rfl, hQ, st⟩
theorem own_special (X : Stand p l e R s m args below meth c T locs cells slots) (hx : p.tables.exec = Jvm.exec) (hZ : Z.Warmed39 s.vm) (hown : s.vm.findClass own = some m.cls) (eT : T.heap = h) (hy1 : y.name = "<init>")
    (w1 : (Jvm.Cond.methodLink own index y).before a0 Z = true) (w2 : (Jvm.Cond.instanceMethod y).before a0 Z = true) (w3 : (Jvm.Cond.initialized y.cls).before a0 Z = true) (w4 : (Jvm.Cond.code y bytes maxL none).before a0 Z = true)
    (hy : y.cls ≠ "java/lang/invoke/MethodHandle" ∧ y.cls ≠ "java/lang/invoke/VarHandle") (hM : own_Met l Z y bytes maxL none rm (.ref b :: argsL).toArray h Qc)
    (hg : g.method = m) (hsz : g.locals.size = c.maxLocals) (hlen : ∀ sig, parseMethodDescriptor y.desc = some sig → argsL.length = sig.parameters.length) (hst : g.stack = argsL.reverse ++ .ref b :: rest)
    (hf : rm.frames + 1 ≤ R.frames) (hl : (2 * g.monitorRoom + (rest.map fun v => v.category).sum) + (maxL + 11) + rm.locals ≤ R.locals) (hc : cells + rm.cells ≤ R.cells) (hs : slots + rm.slots ≤ R.slots)
    (hd : decode c.code g.pc = .ok (.invokespecial index, 3)) :
    ∃ (v : Option Value) (T' : State) (L : List Loc) (h' : Heap), Stand p l e R s m args below meth c T' (locs ++ L) (cells + rm.cells) (slots + rm.slots) ∧ T'.heap = h' ∧ Qc v h' L ∧ ∀ t, Steps p.tables e below (T'.setTop { g with pc := g.pc + 3, stack := v.toList ++ rest }) t → Steps p.tables e below (T.setTop g) t := by
  obtain ⟨v, _, ⟨T', L', k', n'⟩, -, X', ⟨Lc, hQ, e1, e2, e3⟩, st⟩ := X.specialBack hx hy1 hown (mvT hZ w1) (mvT hZ w2) (mvT hZ w4) hy (backOf (hM []) hZ w4 w3 hf hl) hg hsz (Steps.refl _) hlen hst (Nat.le_refl _) hd (fun _ _ => ⟨rfl, eT, hc, hs⟩)
  dsimp only [Pt.U, Pt.locs, Pt.cells, Pt.slots] at X' e1 e2 e3 st hQ
  subst e1 e2 e3
  exact ⟨v, T', Lc, _, X', rfl, hQ, fun t k => st.trans k⟩
theorem own_virtual (X : Stand p l e R s m args below meth c T locs cells slots) (hx : p.tables.exec = Jvm.exec) (hZ : Z.Warmed39 s.vm) (hown : s.vm.findClass own = some m.cls) (eT : T.heap = h) (E : Exa Z h b C)
    (w1 : (Jvm.Cond.methodLink own index y).before a0 Z = true) (w2 : (Jvm.Cond.declares y).before a0 Z = true) (hnf : NotFace s y) (w5 : (Jvm.Cond.selects C y z).before a0 Z = true) (w6 : (Jvm.Cond.instanceMethod z).before a0 Z = true) (w3 : (Jvm.Cond.initialized z.cls).before a0 Z = true) (w4 : (Jvm.Cond.code z bytes maxL rt).before a0 Z = true)
    (hy : y.cls ≠ "java/lang/invoke/MethodHandle" ∧ y.cls ≠ "java/lang/invoke/VarHandle") (hM : own_Met l Z z bytes maxL rt rm (.ref b :: argsL).toArray h Qc)
    (hg : g.method = m) (hsz : g.locals.size = c.maxLocals) (hlen : ∀ sig, parseMethodDescriptor y.desc = some sig → argsL.length = sig.parameters.length) (hst : g.stack = argsL.reverse ++ .ref b :: rest)
    (hf : rm.frames + 1 ≤ R.frames) (hl : (2 * g.monitorRoom + (rest.map fun v => v.category).sum) + (maxL + 11) + rm.locals ≤ R.locals) (hc : cells + rm.cells ≤ R.cells) (hs : slots + rm.slots ≤ R.slots)
    (hd : decode c.code g.pc = .ok (.invokevirtual index, 3)) :
    ∃ (v : Option Value) (T' : State) (L : List Loc) (h' : Heap), Stand p l e R s m args below meth c T' (locs ++ L) (cells + rm.cells) (slots + rm.slots) ∧ T'.heap = h' ∧ Qc v h' L ∧ ∀ t, Steps p.tables e below (T'.setTop { g with pc := g.pc + 3, stack := v.toList ++ rest }) t → Steps p.tables e below (T.setTop g) t := by
  obtain ⟨cq, kq, qa, qb, qc⟩ := isOf hZ eT E
  obtain ⟨v, _, ⟨T', L', k', n'⟩, -, X', ⟨Lc, hQ, e1, e2, e3⟩, st⟩ := X.virtualBack hx hown (mvT hZ w1) (mvT hZ w2) hnf (mvT hZ w5) (mvT hZ w6) hy (backOf (hM []) hZ w4 w3 hf hl) qa qc hg hsz (Steps.refl _) hlen hst (Nat.le_refl _) hd (fun _ _ => ⟨rfl, eT, hc, hs⟩)
  dsimp only [Pt.U, Pt.locs, Pt.cells, Pt.slots] at X' e1 e2 e3 st hQ
  subst e1 e2 e3
  exact ⟨v, T', Lc, _, X', rfl, hQ, fun t k => st.trans k⟩
theorem own_virtualUp {owner : String} (X : Stand p l e R s m args below meth c T locs cells slots) (hx : p.tables.exec = Jvm.exec) (hZ : Z.Warmed39 s.vm) (hown : s.vm.findClass own = some m.cls) (eT : T.heap = h) (E : Exa Z h b C)
    (w1 : (Jvm.Cond.methodLink own index y).before a0 Z = true) (w7 : (Jvm.Cond.sameMethod y.cls owner y.name y.desc).before a0 Z = true) (w2 : (Jvm.Cond.declares ⟨owner, y.name, y.desc⟩).before a0 Z = true) (w5 : (Jvm.Cond.selects C y z).before a0 Z = true) (w6 : (Jvm.Cond.instanceMethod z).before a0 Z = true) (w3 : (Jvm.Cond.initialized z.cls).before a0 Z = true) (w4 : (Jvm.Cond.code z bytes maxL rt).before a0 Z = true)
    (hy : owner ≠ "java/lang/invoke/MethodHandle" ∧ owner ≠ "java/lang/invoke/VarHandle") (hM : own_Met l Z z bytes maxL rt rm (.ref b :: argsL).toArray h Qc)
    (hg : g.method = m) (hsz : g.locals.size = c.maxLocals) (hlen : ∀ sig, parseMethodDescriptor y.desc = some sig → argsL.length = sig.parameters.length) (hst : g.stack = argsL.reverse ++ .ref b :: rest)
    (hf : rm.frames + 1 ≤ R.frames) (hl : (2 * g.monitorRoom + (rest.map fun v => v.category).sum) + (maxL + 11) + rm.locals ≤ R.locals) (hc : cells + rm.cells ≤ R.cells) (hs : slots + rm.slots ≤ R.slots)
    (hd : decode c.code g.pc = .ok (.invokevirtual index, 3)) :
    ∃ (v : Option Value) (T' : State) (L : List Loc) (h' : Heap), Stand p l e R s m args below meth c T' (locs ++ L) (cells + rm.cells) (slots + rm.slots) ∧ T'.heap = h' ∧ Qc v h' L ∧ ∀ t, Steps p.tables e below (T'.setTop { g with pc := g.pc + 3, stack := v.toList ++ rest }) t → Steps p.tables e below (T.setTop g) t := by
  obtain ⟨cq, kq, qa, qb, qc⟩ := isOf hZ eT E
  obtain ⟨v, _, ⟨T', L', k', n'⟩, -, X', ⟨Lc, hQ, e1, e2, e3⟩, st⟩ := X.virtualBackUp hx hown (mvT hZ w1) (mvT hZ w7) (mvT hZ w2) hy (mvT hZ w5) (mvT hZ w6) (backOf (hM []) hZ w4 w3 hf hl) qa qc hg hsz (Steps.refl _) hlen hst (Nat.le_refl _) hd (fun _ _ => ⟨rfl, eT, hc, hs⟩)
  dsimp only [Pt.U, Pt.locs, Pt.cells, Pt.slots] at X' e1 e2 e3 st hQ
  subst e1 e2 e3
  exact ⟨v, T', Lc, _, X', rfl, hQ, fun t k => st.trans k⟩
end Own
theorem own_eq_int {args : Array Value} {s : State} {t : Jvm.Term} {k : Int32} (h : (Jvm.Cond.eq t (.int k)).value args s none s [] = some true) : t.eval args s none [] s = some (.int k) := by
  simp only [Cond.value, Term.eval] at h
  cases ht : t.eval args s none [] s with
  | none => simp [ht] at h
  | some v => cases v <;> simp [ht] at h; rw [h]
theorem own_i2c (x : Int32) : nar .char ((x &&& (255 : Int32)).toUInt32.toUInt16.toUInt32.toInt32) = x &&& 255 := by
  show ((x &&& (255 : Int32)).toUInt32.toUInt16.toUInt32.toInt32).toUInt32.toUInt16.toUInt32.toInt32 = _
  rw [i2c_mask, i2c_mask]
theorem own_lat (x : Int32) : ¬ (x &&& (255 : Int32)) < 0 ∧ ¬ (255 : Int32) < (x &&& (255 : Int32)) := by
  have h : (x &&& (255 : Int32)).toInt = x.toInt % 256 := c_mask x (255 : Int32) 8 (by decide) (by decide)
  have e1 : (0 : Int32).toInt = 0 := rfl
  have e2 : (255 : Int32).toInt = 255 := rfl
  rw [Int32.lt_iff_toInt_lt, Int32.lt_iff_toInt_lt, h, e1, e2]; omega
theorem own_latc {c x : Int32} (e : c = nar .char ((x &&& (255 : Int32)).toUInt32.toUInt16.toUInt32.toInt32)) : ¬ c < 0 ∧ ¬ (255 : Int32) < c := by rw [e, own_i2c]; exact own_lat x
theorem own_one {c : Int32} {P : Int32 → Prop} (h : P c) : ∀ d ∈ [c], P d := fun d hd => by rw [List.mem_singleton.mp hd]; exact h
theorem pn_com_example_libenq_libenq_engine_Delivery : plainName "com/example/libenq/libenq/engine/Delivery" = true := by first | (simp [plainName, overriddenIn]; done) | decide +kernel
theorem ef_prog_2_method_1_codeRRNRIJ (m : MethodId) (z0 : Addr) (z1 : Addr) (z2 : Addr) (z3 : Int32) (z4 : Int64) : entryFrame m #[(.ref z0), (.ref z1), .null, (.ref z2), (.int z3), (.long z4)] 7 = mkF m 0 #[.val (.ref z0), .val (.ref z1), .val .null, .val (.ref z2), .val (.int z3), .val (.long z4), .second] [] := by first | (simp [entryFrame, mkF, argsToLocals, Value.category]; done) | rfl
theorem d_prog_2_method_1_code_0 : decode prog_2_method_1_code 0 = .ok (.aload_n 0, 1) := by decide +kernel
theorem d_prog_2_method_1_code_1 : decode prog_2_method_1_code 1 = .ok (.invokespecial 1, 3) := by decide +kernel
theorem d_prog_2_method_1_code_4 : decode prog_2_method_1_code 4 = .ok (.aload_n 0, 1) := by decide +kernel
theorem d_prog_2_method_1_code_5 : decode prog_2_method_1_code 5 = .ok (.aload_n 1, 1) := by decide +kernel
theorem d_prog_2_method_1_code_6 : decode prog_2_method_1_code 6 = .ok (.putfield 7, 3) := by decide +kernel
theorem d_prog_2_method_1_code_9 : decode prog_2_method_1_code 9 = .ok (.aload_n 0, 1) := by decide +kernel
theorem d_prog_2_method_1_code_10 : decode prog_2_method_1_code 10 = .ok (.aload_n 2, 1) := by decide +kernel
theorem d_prog_2_method_1_code_11 : decode prog_2_method_1_code 11 = .ok (.putfield 13, 3) := by decide +kernel
theorem d_prog_2_method_1_code_14 : decode prog_2_method_1_code 14 = .ok (.aload_n 0, 1) := by decide +kernel
theorem d_prog_2_method_1_code_15 : decode prog_2_method_1_code 15 = .ok (.aload_n 3, 1) := by decide +kernel
theorem d_prog_2_method_1_code_16 : decode prog_2_method_1_code 16 = .ok (.putfield 17, 3) := by decide +kernel
theorem d_prog_2_method_1_code_19 : decode prog_2_method_1_code 19 = .ok (.aload_n 0, 1) := by decide +kernel
theorem d_prog_2_method_1_code_20 : decode prog_2_method_1_code 20 = .ok (.iload 4, 2) := by decide +kernel
theorem d_prog_2_method_1_code_22 : decode prog_2_method_1_code 22 = .ok (.putfield 20, 3) := by decide +kernel
theorem d_prog_2_method_1_code_25 : decode prog_2_method_1_code 25 = .ok (.aload_n 0, 1) := by decide +kernel
theorem d_prog_2_method_1_code_26 : decode prog_2_method_1_code 26 = .ok (.lload 5, 2) := by decide +kernel
theorem d_prog_2_method_1_code_28 : decode prog_2_method_1_code 28 = .ok (.putfield 24, 3) := by decide +kernel
theorem d_prog_2_method_1_code_31 : decode prog_2_method_1_code 31 = .ok (.return_, 1) := by decide +kernel
set_option maxRecDepth 65536 in
set_option maxHeartbeats 40000000 in
theorem rm_init (l : Launch) (Z : State) (a0 : Array Value) (hw : ∀ d ∈ tables_1, d.before a0 Z = true) (a t u : Addr) (f : Int32) (q : Int64) (h0 : Heap) (n0 : Nat) (Z0 : n0 ≤ h0.size) (E : Exa Z h0 a "com/example/libenq/libenq/engine/Delivery") (F_topic : Fld Z h0 a "com/example/libenq/libenq/engine/Delivery" "topic" "Ljava/lang/String;" .null) (F_message : Fld Z h0 a "com/example/libenq/libenq/engine/Delivery" "message" "Lcom/example/libenq/libenq/engine/TopicMessageRecord;" .null) (F_subscription : Fld Z h0 a "com/example/libenq/libenq/engine/Delivery" "subscription" "Ljava/lang/String;" .null) (F_failedAttempts : Fld Z h0 a "com/example/libenq/libenq/engine/Delivery" "failedAttempts" "I" (.int (0 : Int32))) (F_nextAttemptTime : Fld Z h0 a "com/example/libenq/libenq/engine/Delivery" "nextAttemptTime" "J" (.long (0 : Int64))) (F_cancelled : Fld Z h0 a "com/example/libenq/libenq/engine/Delivery" "cancelled" "Z" (.int (0 : Int32))) (g_a : n0 ≤ a) :
    own_Met l Z (⟨"com/example/libenq/libenq/engine/Delivery", "<init>", "(Ljava/lang/String;Lcom/example/libenq/libenq/engine/TopicMessageRecord;Ljava/lang/String;IJ)V"⟩ : MethodName) prog_2_method_1_code 7 none ({ frames := 1, cells := 0, slots := 0, locals := 12 } : Room) #[(.ref a), (.ref t), .null, (.ref u), (.int f), (.long q)] h0 (fun v h L => v = none ∧ Fr n0 L ∧ Keep h0 h [a] ∧ Exa Z h a "com/example/libenq/libenq/engine/Delivery" ∧ Fld Z h a "com/example/libenq/libenq/engine/Delivery" "topic" "Ljava/lang/String;" (.ref t) ∧ Fld Z h a "com/example/libenq/libenq/engine/Delivery" "message" "Lcom/example/libenq/libenq/engine/TopicMessageRecord;" .null ∧ Fld Z h a "com/example/libenq/libenq/engine/Delivery" "subscription" "Ljava/lang/String;" (.ref u) ∧ Fld Z h a "com/example/libenq/libenq/engine/Delivery" "failedAttempts" "I" (.int f) ∧ Fld Z h a "com/example/libenq/libenq/engine/Delivery" "nextAttemptTime" "J" (.long q) ∧ Fld Z h a "com/example/libenq/libenq/engine/Delivery" "cancelled" "Z" (.int (0 : Int32))) := by
  refine own_body (plainFor_of_name pn_com_example_libenq_libenq_engine_Delivery) ?_
  intro p e s m below meth c T0 X0 e0 hx hby hml hown hnm hret hlk hZ
  replace hown : s.vm.findClass "com/example/libenq/libenq/engine/Delivery" = some m.cls := hown
  have N0 := Fr.nil n0
  refine own_of (fun tt_ kk_ => castTop (ef_prog_2_method_1_codeRRNRIJ m a t u f q) kk_) ?_
  have K := Keep.refl h0 [a]
  show own_Ends _ _ _ _ _ _ (T0.setTop (mkF m 0 #[.val (.ref a), .val (.ref t), .val .null, .val (.ref u), .val (.int f), .val (.long q), .second] []))
  refine own_of (fun tt_ kk_ => XS.aloadN X0.here hx rfl (hb hby d_prog_2_method_1_code_0) rfl rfl kk_) ?_
  show own_Ends _ _ _ _ _ _ (T0.setTop (mkF m 1 #[.val (.ref a), .val (.ref t), .val .null, .val (.ref u), .val (.int f), .val (.long q), .second] [(.ref a)]))
  obtain ⟨T1, X1, e1, st1⟩ := initO X0 hx hZ hown (hw _ (List.mem_of_getElem? (i := 36) rfl)) (hw _ (List.mem_of_getElem? (i := 12) rfl)) (hw _ (List.mem_of_getElem? (i := 13) rfl)) e0 (g := (mkF m 1 #[.val (.ref a), .val (.ref t), .val .null, .val (.ref u), .val (.int f), .val (.long q), .second] [(.ref a)])) rfl (by rw [hml]; rfl) rfl (hb hby d_prog_2_method_1_code_1) (by decide) (W := 0) (by show 2 * 0 + _ ≤ _; exact Nat.le_of_eq rfl) (by decide)
  refine own_of st1 ?_
  show own_Ends _ _ _ _ _ _ (T1.setTop (mkF m 4 #[.val (.ref a), .val (.ref t), .val .null, .val (.ref u), .val (.int f), .val (.long q), .second] []))
  refine own_of (fun tt_ kk_ => XS.aloadN X1.here hx rfl (hb hby d_prog_2_method_1_code_4) rfl rfl kk_) ?_
  show own_Ends _ _ _ _ _ _ (T1.setTop (mkF m 5 #[.val (.ref a), .val (.ref t), .val .null, .val (.ref u), .val (.int f), .val (.long q), .second] [(.ref a)]))
  refine own_of (fun tt_ kk_ => XS.aloadN X1.here hx rfl (hb hby d_prog_2_method_1_code_5) rfl rfl kk_) ?_
  show own_Ends _ _ _ _ _ _ (T1.setTop (mkF m 6 #[.val (.ref a), .val (.ref t), .val .null, .val (.ref u), .val (.int f), .val (.long q), .second] [(.ref t), (.ref a)]))
  obtain ⟨T2, h2, X2, e2, W2, st2⟩ := putF X1 hx hZ hown (host := "") (Or.inl (hw _ (List.mem_of_getElem? (i := 37) rfl))) Via.refl e1 F_topic E (Or.inr ⟨(hw _ (List.mem_of_getElem? (i := 38) rfl)), rfl, hnm⟩) (hw _ (List.mem_of_getElem? (i := 31) rfl)) (ty := (.object "java/lang/String")) (by decide) rfl rfl (g := (mkF m 6 #[.val (.ref a), .val (.ref t), .val .null, .val (.ref u), .val (.int f), .val (.long q), .second] [(.ref t), (.ref a)])) rfl rfl (hb hby d_prog_2_method_1_code_6)
  replace F_topic := F_topic.same W2
  replace E := E.wr W2
  replace F_message := F_message.other W2 (Or.inr (slot_ne (Or.inr (hw _ (List.mem_of_getElem? (i := 40) rfl))) (Or.inr (hw _ (List.mem_of_getElem? (i := 38) rfl))) (by decide) (t := (.object "com/example/libenq/libenq/engine/TopicMessageRecord")) (t' := (.object "java/lang/String")) (by decide) (by decide)))
  replace F_subscription := F_subscription.other W2 (Or.inr (slot_ne (Or.inr (hw _ (List.mem_of_getElem? (i := 42) rfl))) (Or.inr (hw _ (List.mem_of_getElem? (i := 38) rfl))) (by decide) (t := (.object "java/lang/String")) (t' := (.object "java/lang/String")) (by decide) (by decide)))
  replace F_failedAttempts := F_failedAttempts.other W2 (Or.inr (slot_ne (Or.inl (hw _ (List.mem_of_getElem? (i := 44) rfl))) (Or.inr (hw _ (List.mem_of_getElem? (i := 38) rfl))) (by decide) (t := .int) (t' := (.object "java/lang/String")) (by decide) (by decide)))
  replace F_nextAttemptTime := F_nextAttemptTime.other W2 (Or.inr (slot_ne (Or.inl (hw _ (List.mem_of_getElem? (i := 46) rfl))) (Or.inr (hw _ (List.mem_of_getElem? (i := 38) rfl))) (by decide) (t := .long) (t' := (.object "java/lang/String")) (by decide) (by decide)))
  replace F_cancelled := F_cancelled.other W2 (Or.inr (slot_ne (Or.inl (hw _ (List.mem_of_getElem? (i := 53) rfl))) (Or.inr (hw _ (List.mem_of_getElem? (i := 38) rfl))) (by decide) (t := .boolean) (t' := (.object "java/lang/String")) (by decide) (by decide)))
  have N2 := Fr.snoc X2 N0 g_a
  replace K := K.wr W2 (Or.inl (List.mem_of_getElem? (i := 0) rfl))
  refine own_of st2 ?_
  show own_Ends _ _ _ _ _ _ (T2.setTop (mkF m 9 #[.val (.ref a), .val (.ref t), .val .null, .val (.ref u), .val (.int f), .val (.long q), .second] []))
  refine own_of (fun tt_ kk_ => XS.aloadN X2.here hx rfl (hb hby d_prog_2_method_1_code_9) rfl rfl kk_) ?_
  show own_Ends _ _ _ _ _ _ (T2.setTop (mkF m 10 #[.val (.ref a), .val (.ref t), .val .null, .val (.ref u), .val (.int f), .val (.long q), .second] [(.ref a)]))
  refine own_of (fun tt_ kk_ => XS.aloadN X2.here hx rfl (hb hby d_prog_2_method_1_code_10) rfl rfl kk_) ?_
  show own_Ends _ _ _ _ _ _ (T2.setTop (mkF m 11 #[.val (.ref a), .val (.ref t), .val .null, .val (.ref u), .val (.int f), .val (.long q), .second] [.null, (.ref a)]))
  obtain ⟨T3, h3, X3, e3, W3, st3⟩ := putF X2 hx hZ hown (host := "") (Or.inl (hw _ (List.mem_of_getElem? (i := 39) rfl))) Via.refl e2 F_message E (Or.inr ⟨(hw _ (List.mem_of_getElem? (i := 40) rfl)), rfl, hnm⟩) (hw _ (List.mem_of_getElem? (i := 31) rfl)) (ty := (.object "com/example/libenq/libenq/engine/TopicMessageRecord")) (by decide) rfl rfl (g := (mkF m 11 #[.val (.ref a), .val (.ref t), .val .null, .val (.ref u), .val (.int f), .val (.long q), .second] [.null, (.ref a)])) rfl rfl (hb hby d_prog_2_method_1_code_11)
  replace F_message := F_message.same W3
  replace E := E.wr W3
  replace F_topic := F_topic.other W3 (Or.inr (slot_ne (Or.inr (hw _ (List.mem_of_getElem? (i := 38) rfl))) (Or.inr (hw _ (List.mem_of_getElem? (i := 40) rfl))) (by decide) (t := (.object "java/lang/String")) (t' := (.object "com/example/libenq/libenq/engine/TopicMessageRecord")) (by decide) (by decide)))
  replace F_subscription := F_subscription.other W3 (Or.inr (slot_ne (Or.inr (hw _ (List.mem_of_getElem? (i := 42) rfl))) (Or.inr (hw _ (List.mem_of_getElem? (i := 40) rfl))) (by decide) (t := (.object "java/lang/String")) (t' := (.object "com/example/libenq/libenq/engine/TopicMessageRecord")) (by decide) (by decide)))
  replace F_failedAttempts := F_failedAttempts.other W3 (Or.inr (slot_ne (Or.inl (hw _ (List.mem_of_getElem? (i := 44) rfl))) (Or.inr (hw _ (List.mem_of_getElem? (i := 40) rfl))) (by decide) (t := .int) (t' := (.object "com/example/libenq/libenq/engine/TopicMessageRecord")) (by decide) (by decide)))
  replace F_nextAttemptTime := F_nextAttemptTime.other W3 (Or.inr (slot_ne (Or.inl (hw _ (List.mem_of_getElem? (i := 46) rfl))) (Or.inr (hw _ (List.mem_of_getElem? (i := 40) rfl))) (by decide) (t := .long) (t' := (.object "com/example/libenq/libenq/engine/TopicMessageRecord")) (by decide) (by decide)))
  replace F_cancelled := F_cancelled.other W3 (Or.inr (slot_ne (Or.inl (hw _ (List.mem_of_getElem? (i := 53) rfl))) (Or.inr (hw _ (List.mem_of_getElem? (i := 40) rfl))) (by decide) (t := .boolean) (t' := (.object "com/example/libenq/libenq/engine/TopicMessageRecord")) (by decide) (by decide)))
  have N3 := Fr.snoc X3 N2 g_a
  replace K := K.wr W3 (Or.inl (List.mem_of_getElem? (i := 0) rfl))
  refine own_of st3 ?_
  show own_Ends _ _ _ _ _ _ (T3.setTop (mkF m 14 #[.val (.ref a), .val (.ref t), .val .null, .val (.ref u), .val (.int f), .val (.long q), .second] []))
  refine own_of (fun tt_ kk_ => XS.aloadN X3.here hx rfl (hb hby d_prog_2_method_1_code_14) rfl rfl kk_) ?_
  show own_Ends _ _ _ _ _ _ (T3.setTop (mkF m 15 #[.val (.ref a), .val (.ref t), .val .null, .val (.ref u), .val (.int f), .val (.long q), .second] [(.ref a)]))
  refine own_of (fun tt_ kk_ => XS.aloadN X3.here hx rfl (hb hby d_prog_2_method_1_code_15) rfl rfl kk_) ?_
  show own_Ends _ _ _ _ _ _ (T3.setTop (mkF m 16 #[.val (.ref a), .val (.ref t), .val .null, .val (.ref u), .val (.int f), .val (.long q), .second] [(.ref u), (.ref a)]))
  obtain ⟨T4, h4, X4, e4, W4, st4⟩ := putF X3 hx hZ hown (host := "") (Or.inl (hw _ (List.mem_of_getElem? (i := 41) rfl))) Via.refl e3 F_subscription E (Or.inr ⟨(hw _ (List.mem_of_getElem? (i := 42) rfl)), rfl, hnm⟩) (hw _ (List.mem_of_getElem? (i := 31) rfl)) (ty := (.object "java/lang/String")) (by decide) rfl rfl (g := (mkF m 16 #[.val (.ref a), .val (.ref t), .val .null, .val (.ref u), .val (.int f), .val (.long q), .second] [(.ref u), (.ref a)])) rfl rfl (hb hby d_prog_2_method_1_code_16)
  replace F_subscription := F_subscription.same W4
  replace E := E.wr W4
  replace F_topic := F_topic.other W4 (Or.inr (slot_ne (Or.inr (hw _ (List.mem_of_getElem? (i := 38) rfl))) (Or.inr (hw _ (List.mem_of_getElem? (i := 42) rfl))) (by decide) (t := (.object "java/lang/String")) (t' := (.object "java/lang/String")) (by decide) (by decide)))
  replace F_message := F_message.other W4 (Or.inr (slot_ne (Or.inr (hw _ (List.mem_of_getElem? (i := 40) rfl))) (Or.inr (hw _ (List.mem_of_getElem? (i := 42) rfl))) (by decide) (t := (.object "com/example/libenq/libenq/engine/TopicMessageRecord")) (t' := (.object "java/lang/String")) (by decide) (by decide)))
  replace F_failedAttempts := F_failedAttempts.other W4 (Or.inr (slot_ne (Or.inl (hw _ (List.mem_of_getElem? (i := 44) rfl))) (Or.inr (hw _ (List.mem_of_getElem? (i := 42) rfl))) (by decide) (t := .int) (t' := (.object "java/lang/String")) (by decide) (by decide)))
  replace F_nextAttemptTime := F_nextAttemptTime.other W4 (Or.inr (slot_ne (Or.inl (hw _ (List.mem_of_getElem? (i := 46) rfl))) (Or.inr (hw _ (List.mem_of_getElem? (i := 42) rfl))) (by decide) (t := .long) (t' := (.object "java/lang/String")) (by decide) (by decide)))
  replace F_cancelled := F_cancelled.other W4 (Or.inr (slot_ne (Or.inl (hw _ (List.mem_of_getElem? (i := 53) rfl))) (Or.inr (hw _ (List.mem_of_getElem? (i := 42) rfl))) (by decide) (t := .boolean) (t' := (.object "java/lang/String")) (by decide) (by decide)))
  have N4 := Fr.snoc X4 N3 g_a
  replace K := K.wr W4 (Or.inl (List.mem_of_getElem? (i := 0) rfl))
  refine own_of st4 ?_
  show own_Ends _ _ _ _ _ _ (T4.setTop (mkF m 19 #[.val (.ref a), .val (.ref t), .val .null, .val (.ref u), .val (.int f), .val (.long q), .second] []))
  refine own_of (fun tt_ kk_ => XS.aloadN X4.here hx rfl (hb hby d_prog_2_method_1_code_19) rfl rfl kk_) ?_
  show own_Ends _ _ _ _ _ _ (T4.setTop (mkF m 20 #[.val (.ref a), .val (.ref t), .val .null, .val (.ref u), .val (.int f), .val (.long q), .second] [(.ref a)]))
  refine own_of (fun tt_ kk_ => XS.iload X4.here hx rfl (hb hby d_prog_2_method_1_code_20) rfl  kk_) ?_
  show own_Ends _ _ _ _ _ _ (T4.setTop (mkF m 22 #[.val (.ref a), .val (.ref t), .val .null, .val (.ref u), .val (.int f), .val (.long q), .second] [(.int f), (.ref a)]))
  obtain ⟨T5, h5, X5, e5, W5, st5⟩ := putF X4 hx hZ hown (host := "") (Or.inl (hw _ (List.mem_of_getElem? (i := 43) rfl))) Via.refl e4 F_failedAttempts E (Or.inl (hw _ (List.mem_of_getElem? (i := 44) rfl))) (hw _ (List.mem_of_getElem? (i := 31) rfl)) (ty := .int) (by decide) rfl rfl (g := (mkF m 22 #[.val (.ref a), .val (.ref t), .val .null, .val (.ref u), .val (.int f), .val (.long q), .second] [(.int f), (.ref a)])) rfl rfl (hb hby d_prog_2_method_1_code_22)
  replace F_failedAttempts := F_failedAttempts.same W5
  replace E := E.wr W5
  replace F_topic := F_topic.other W5 (Or.inr (slot_ne (Or.inr (hw _ (List.mem_of_getElem? (i := 38) rfl))) (Or.inl (hw _ (List.mem_of_getElem? (i := 44) rfl))) (by decide) (t := (.object "java/lang/String")) (t' := .int) (by decide) (by decide)))
  replace F_message := F_message.other W5 (Or.inr (slot_ne (Or.inr (hw _ (List.mem_of_getElem? (i := 40) rfl))) (Or.inl (hw _ (List.mem_of_getElem? (i := 44) rfl))) (by decide) (t := (.object "com/example/libenq/libenq/engine/TopicMessageRecord")) (t' := .int) (by decide) (by decide)))
  replace F_subscription := F_subscription.other W5 (Or.inr (slot_ne (Or.inr (hw _ (List.mem_of_getElem? (i := 42) rfl))) (Or.inl (hw _ (List.mem_of_getElem? (i := 44) rfl))) (by decide) (t := (.object "java/lang/String")) (t' := .int) (by decide) (by decide)))
  replace F_nextAttemptTime := F_nextAttemptTime.other W5 (Or.inr (slot_ne (Or.inl (hw _ (List.mem_of_getElem? (i := 46) rfl))) (Or.inl (hw _ (List.mem_of_getElem? (i := 44) rfl))) (by decide) (t := .long) (t' := .int) (by decide) (by decide)))
  replace F_cancelled := F_cancelled.other W5 (Or.inr (slot_ne (Or.inl (hw _ (List.mem_of_getElem? (i := 53) rfl))) (Or.inl (hw _ (List.mem_of_getElem? (i := 44) rfl))) (by decide) (t := .boolean) (t' := .int) (by decide) (by decide)))
  have N5 := Fr.snoc X5 N4 g_a
  replace K := K.wr W5 (Or.inl (List.mem_of_getElem? (i := 0) rfl))
  refine own_of st5 ?_
  show own_Ends _ _ _ _ _ _ (T5.setTop (mkF m 25 #[.val (.ref a), .val (.ref t), .val .null, .val (.ref u), .val (.int f), .val (.long q), .second] []))
  refine own_of (fun tt_ kk_ => XS.aloadN X5.here hx rfl (hb hby d_prog_2_method_1_code_25) rfl rfl kk_) ?_
  show own_Ends _ _ _ _ _ _ (T5.setTop (mkF m 26 #[.val (.ref a), .val (.ref t), .val .null, .val (.ref u), .val (.int f), .val (.long q), .second] [(.ref a)]))
  refine own_of (fun tt_ kk_ => XS.lload X5.here hx rfl (hb hby d_prog_2_method_1_code_26) rfl  kk_) ?_
  show own_Ends _ _ _ _ _ _ (T5.setTop (mkF m 28 #[.val (.ref a), .val (.ref t), .val .null, .val (.ref u), .val (.int f), .val (.long q), .second] [(.long q), (.ref a)]))
  obtain ⟨T6, h6, X6, e6, W6, st6⟩ := putF X5 hx hZ hown (host := "") (Or.inl (hw _ (List.mem_of_getElem? (i := 45) rfl))) Via.refl e5 F_nextAttemptTime E (Or.inl (hw _ (List.mem_of_getElem? (i := 46) rfl))) (hw _ (List.mem_of_getElem? (i := 31) rfl)) (ty := .long) (by decide) rfl rfl (g := (mkF m 28 #[.val (.ref a), .val (.ref t), .val .null, .val (.ref u), .val (.int f), .val (.long q), .second] [(.long q), (.ref a)])) rfl rfl (hb hby d_prog_2_method_1_code_28)
  replace F_nextAttemptTime := F_nextAttemptTime.same W6
  replace E := E.wr W6
  replace F_topic := F_topic.other W6 (Or.inr (slot_ne (Or.inr (hw _ (List.mem_of_getElem? (i := 38) rfl))) (Or.inl (hw _ (List.mem_of_getElem? (i := 46) rfl))) (by decide) (t := (.object "java/lang/String")) (t' := .long) (by decide) (by decide)))
  replace F_message := F_message.other W6 (Or.inr (slot_ne (Or.inr (hw _ (List.mem_of_getElem? (i := 40) rfl))) (Or.inl (hw _ (List.mem_of_getElem? (i := 46) rfl))) (by decide) (t := (.object "com/example/libenq/libenq/engine/TopicMessageRecord")) (t' := .long) (by decide) (by decide)))
  replace F_subscription := F_subscription.other W6 (Or.inr (slot_ne (Or.inr (hw _ (List.mem_of_getElem? (i := 42) rfl))) (Or.inl (hw _ (List.mem_of_getElem? (i := 46) rfl))) (by decide) (t := (.object "java/lang/String")) (t' := .long) (by decide) (by decide)))
  replace F_failedAttempts := F_failedAttempts.other W6 (Or.inr (slot_ne (Or.inl (hw _ (List.mem_of_getElem? (i := 44) rfl))) (Or.inl (hw _ (List.mem_of_getElem? (i := 46) rfl))) (by decide) (t := .int) (t' := .long) (by decide) (by decide)))
  replace F_cancelled := F_cancelled.other W6 (Or.inr (slot_ne (Or.inl (hw _ (List.mem_of_getElem? (i := 53) rfl))) (Or.inl (hw _ (List.mem_of_getElem? (i := 46) rfl))) (by decide) (t := .boolean) (t' := .long) (by decide) (by decide)))
  have N6 := Fr.snoc X6 N5 g_a
  replace K := K.wr W6 (Or.inl (List.mem_of_getElem? (i := 0) rfl))
  refine own_of st6 ?_
  show own_Ends _ _ _ _ _ _ (T6.setTop (mkF m 31 #[.val (.ref a), .val (.ref t), .val .null, .val (.ref u), .val (.int f), .val (.long q), .second] []))
  refine own_retV X6 hx hlk e6 hret (hb hby d_prog_2_method_1_code_31) (by decide) (by decide) ?_
  exact ⟨rfl, N6, K, E, F_topic, F_message, F_subscription, F_failedAttempts, F_nextAttemptTime, F_cancelled⟩
theorem ef_prog_2_method_10_codeR (m : MethodId) (z0 : Addr) : entryFrame m #[(.ref z0)] 1 = mkF m 0 #[.val (.ref z0)] [] := by first | (simp [entryFrame, mkF, argsToLocals, Value.category]; done) | rfl
theorem d_prog_2_method_10_code_0 : decode prog_2_method_10_code 0 = .ok (.aload_n 0, 1) := by decide +kernel
theorem d_prog_2_method_10_code_1 : decode prog_2_method_10_code 1 = .ok (.iconst 1, 1) := by decide +kernel
theorem d_prog_2_method_10_code_2 : decode prog_2_method_10_code 2 = .ok (.putfield 28, 3) := by decide +kernel
theorem d_prog_2_method_10_code_5 : decode prog_2_method_10_code 5 = .ok (.return_, 1) := by decide +kernel
set_option maxRecDepth 65536 in
set_option maxHeartbeats 40000000 in
theorem rm_cancel (l : Launch) (Z : State) (a0 : Array Value) (hw : ∀ d ∈ tables_1, d.before a0 Z = true) (a t u : Addr) (f : Int32) (q : Int64) (c : Int32) (h0 : Heap) (n0 : Nat) (Z0 : n0 ≤ h0.size) (E : Exa Z h0 a "com/example/libenq/libenq/engine/Delivery") (F_topic : Fld Z h0 a "com/example/libenq/libenq/engine/Delivery" "topic" "Ljava/lang/String;" (.ref t)) (F_message : Fld Z h0 a "com/example/libenq/libenq/engine/Delivery" "message" "Lcom/example/libenq/libenq/engine/TopicMessageRecord;" .null) (F_subscription : Fld Z h0 a "com/example/libenq/libenq/engine/Delivery" "subscription" "Ljava/lang/String;" (.ref u)) (F_failedAttempts : Fld Z h0 a "com/example/libenq/libenq/engine/Delivery" "failedAttempts" "I" (.int f)) (F_nextAttemptTime : Fld Z h0 a "com/example/libenq/libenq/engine/Delivery" "nextAttemptTime" "J" (.long q)) (F_cancelled : Fld Z h0 a "com/example/libenq/libenq/engine/Delivery" "cancelled" "Z" (.int c)) (g_a : n0 ≤ a) :
    own_Met l Z (⟨"com/example/libenq/libenq/engine/Delivery", "cancel", "()V"⟩ : MethodName) prog_2_method_10_code 1 none ({ frames := 0, cells := 0, slots := 0, locals := 0 } : Room) #[(.ref a)] h0 (fun v h L => v = none ∧ Fr n0 L ∧ Keep h0 h [a] ∧ Exa Z h a "com/example/libenq/libenq/engine/Delivery" ∧ Fld Z h a "com/example/libenq/libenq/engine/Delivery" "topic" "Ljava/lang/String;" (.ref t) ∧ Fld Z h a "com/example/libenq/libenq/engine/Delivery" "message" "Lcom/example/libenq/libenq/engine/TopicMessageRecord;" .null ∧ Fld Z h a "com/example/libenq/libenq/engine/Delivery" "subscription" "Ljava/lang/String;" (.ref u) ∧ Fld Z h a "com/example/libenq/libenq/engine/Delivery" "failedAttempts" "I" (.int f) ∧ Fld Z h a "com/example/libenq/libenq/engine/Delivery" "nextAttemptTime" "J" (.long q) ∧ Fld Z h a "com/example/libenq/libenq/engine/Delivery" "cancelled" "Z" (.int (1 : Int32))) := by
  refine own_body (plainFor_of_name pn_com_example_libenq_libenq_engine_Delivery) ?_
  intro p e s m below meth c T0 X0 e0 hx hby hml hown hnm hret hlk hZ
  replace hown : s.vm.findClass "com/example/libenq/libenq/engine/Delivery" = some m.cls := hown
  have N0 := Fr.nil n0
  refine own_of (fun tt_ kk_ => castTop (ef_prog_2_method_10_codeR m a) kk_) ?_
  have K := Keep.refl h0 [a]
  show own_Ends _ _ _ _ _ _ (T0.setTop (mkF m 0 #[.val (.ref a)] []))
  refine own_of (fun tt_ kk_ => XS.aloadN X0.here hx rfl (hb hby d_prog_2_method_10_code_0) rfl rfl kk_) ?_
  show own_Ends _ _ _ _ _ _ (T0.setTop (mkF m 1 #[.val (.ref a)] [(.ref a)]))
  refine own_of (fun tt_ kk_ => XS.iconst X0.here hx rfl (hb hby d_prog_2_method_10_code_1) kk_) ?_
  show own_Ends _ _ _ _ _ _ (T0.setTop (mkF m 2 #[.val (.ref a)] [(.int (1 : Int32)), (.ref a)]))
  obtain ⟨T7, h7, X7, e7, W7, st7⟩ := putFN X0 hx hZ hown (hw _ (List.mem_of_getElem? (i := 52) rfl)) Via.refl e0 F_cancelled E (Or.inl (hw _ (List.mem_of_getElem? (i := 53) rfl))) (hw _ (List.mem_of_getElem? (i := 31) rfl)) (ty := .boolean) (v' := (.int (1 : Int32))) (by decide) rfl rfl (g := (mkF m 2 #[.val (.ref a)] [(.int (1 : Int32)), (.ref a)])) rfl rfl (hb hby d_prog_2_method_10_code_2)
  replace F_cancelled := F_cancelled.same W7
  replace E := E.wr W7
  replace F_topic := F_topic.other W7 (Or.inr (slot_ne (Or.inr (hw _ (List.mem_of_getElem? (i := 38) rfl))) (Or.inl (hw _ (List.mem_of_getElem? (i := 53) rfl))) (by decide) (t := (.object "java/lang/String")) (t' := .boolean) (by decide) (by decide)))
  replace F_message := F_message.other W7 (Or.inr (slot_ne (Or.inr (hw _ (List.mem_of_getElem? (i := 40) rfl))) (Or.inl (hw _ (List.mem_of_getElem? (i := 53) rfl))) (by decide) (t := (.object "com/example/libenq/libenq/engine/TopicMessageRecord")) (t' := .boolean) (by decide) (by decide)))
  replace F_subscription := F_subscription.other W7 (Or.inr (slot_ne (Or.inr (hw _ (List.mem_of_getElem? (i := 42) rfl))) (Or.inl (hw _ (List.mem_of_getElem? (i := 53) rfl))) (by decide) (t := (.object "java/lang/String")) (t' := .boolean) (by decide) (by decide)))
  replace F_failedAttempts := F_failedAttempts.other W7 (Or.inr (slot_ne (Or.inl (hw _ (List.mem_of_getElem? (i := 44) rfl))) (Or.inl (hw _ (List.mem_of_getElem? (i := 53) rfl))) (by decide) (t := .int) (t' := .boolean) (by decide) (by decide)))
  replace F_nextAttemptTime := F_nextAttemptTime.other W7 (Or.inr (slot_ne (Or.inl (hw _ (List.mem_of_getElem? (i := 46) rfl))) (Or.inl (hw _ (List.mem_of_getElem? (i := 53) rfl))) (by decide) (t := .long) (t' := .boolean) (by decide) (by decide)))
  have N7 := Fr.snoc X7 N0 g_a
  replace K := K.wr W7 (Or.inl (List.mem_of_getElem? (i := 0) rfl))
  refine own_of st7 ?_
  show own_Ends _ _ _ _ _ _ (T7.setTop (mkF m 5 #[.val (.ref a)] []))
  refine own_retV X7 hx hlk e7 hret (hb hby d_prog_2_method_10_code_5) (by decide) (by decide) ?_
  exact ⟨rfl, N7, K, E, F_topic, F_message, F_subscription, F_failedAttempts, F_nextAttemptTime, F_cancelled⟩
theorem ef_prog_2_method_9_codeRJ (m : MethodId) (z0 : Addr) (z1 : Int64) : entryFrame m #[(.ref z0), (.long z1)] 3 = mkF m 0 #[.val (.ref z0), .val (.long z1), .second] [] := by first | (simp [entryFrame, mkF, argsToLocals, Value.category]; done) | rfl
theorem d_prog_2_method_9_code_0 : decode prog_2_method_9_code 0 = .ok (.aload_n 0, 1) := by decide +kernel
theorem d_prog_2_method_9_code_1 : decode prog_2_method_9_code 1 = .ok (.dup, 1) := by decide +kernel
theorem d_prog_2_method_9_code_2 : decode prog_2_method_9_code 2 = .ok (.getfield 20, 3) := by decide +kernel
theorem d_prog_2_method_9_code_5 : decode prog_2_method_9_code 5 = .ok (.iconst 1, 1) := by decide +kernel
theorem d_prog_2_method_9_code_6 : decode prog_2_method_9_code 6 = .ok (.iadd, 1) := by decide +kernel
theorem d_prog_2_method_9_code_7 : decode prog_2_method_9_code 7 = .ok (.putfield 20, 3) := by decide +kernel
theorem d_prog_2_method_9_code_10 : decode prog_2_method_9_code 10 = .ok (.aload_n 0, 1) := by decide +kernel
theorem d_prog_2_method_9_code_11 : decode prog_2_method_9_code 11 = .ok (.lload_n 1, 1) := by decide +kernel
theorem d_prog_2_method_9_code_12 : decode prog_2_method_9_code 12 = .ok (.putfield 24, 3) := by decide +kernel
theorem d_prog_2_method_9_code_15 : decode prog_2_method_9_code 15 = .ok (.return_, 1) := by decide +kernel
set_option maxRecDepth 65536 in
set_option maxHeartbeats 40000000 in
theorem rm_failed (l : Launch) (Z : State) (a0 : Array Value) (hw : ∀ d ∈ tables_1, d.before a0 Z = true) (a t u : Addr) (f : Int32) (q q1 : Int64) (c : Int32) (h0 : Heap) (n0 : Nat) (Z0 : n0 ≤ h0.size) (E : Exa Z h0 a "com/example/libenq/libenq/engine/Delivery") (F_topic : Fld Z h0 a "com/example/libenq/libenq/engine/Delivery" "topic" "Ljava/lang/String;" (.ref t)) (F_message : Fld Z h0 a "com/example/libenq/libenq/engine/Delivery" "message" "Lcom/example/libenq/libenq/engine/TopicMessageRecord;" .null) (F_subscription : Fld Z h0 a "com/example/libenq/libenq/engine/Delivery" "subscription" "Ljava/lang/String;" (.ref u)) (F_failedAttempts : Fld Z h0 a "com/example/libenq/libenq/engine/Delivery" "failedAttempts" "I" (.int f)) (F_nextAttemptTime : Fld Z h0 a "com/example/libenq/libenq/engine/Delivery" "nextAttemptTime" "J" (.long q)) (F_cancelled : Fld Z h0 a "com/example/libenq/libenq/engine/Delivery" "cancelled" "Z" (.int c)) (g_a : n0 ≤ a) :
    own_Met l Z (⟨"com/example/libenq/libenq/engine/Delivery", "failed", "(J)V"⟩ : MethodName) prog_2_method_9_code 3 none ({ frames := 0, cells := 0, slots := 0, locals := 0 } : Room) #[(.ref a), (.long q1)] h0 (fun v h L => v = none ∧ Fr n0 L ∧ Keep h0 h [a] ∧ Exa Z h a "com/example/libenq/libenq/engine/Delivery" ∧ Fld Z h a "com/example/libenq/libenq/engine/Delivery" "topic" "Ljava/lang/String;" (.ref t) ∧ Fld Z h a "com/example/libenq/libenq/engine/Delivery" "message" "Lcom/example/libenq/libenq/engine/TopicMessageRecord;" .null ∧ Fld Z h a "com/example/libenq/libenq/engine/Delivery" "subscription" "Ljava/lang/String;" (.ref u) ∧ Fld Z h a "com/example/libenq/libenq/engine/Delivery" "failedAttempts" "I" (.int (f + (1 : Int32))) ∧ Fld Z h a "com/example/libenq/libenq/engine/Delivery" "nextAttemptTime" "J" (.long q1) ∧ Fld Z h a "com/example/libenq/libenq/engine/Delivery" "cancelled" "Z" (.int c)) := by
  refine own_body (plainFor_of_name pn_com_example_libenq_libenq_engine_Delivery) ?_
  intro p e s m below meth c T0 X0 e0 hx hby hml hown hnm hret hlk hZ
  replace hown : s.vm.findClass "com/example/libenq/libenq/engine/Delivery" = some m.cls := hown
  have N0 := Fr.nil n0
  refine own_of (fun tt_ kk_ => castTop (ef_prog_2_method_9_codeRJ m a q1) kk_) ?_
  have K := Keep.refl h0 [a]
  show own_Ends _ _ _ _ _ _ (T0.setTop (mkF m 0 #[.val (.ref a), .val (.long q1), .second] []))
  refine own_of (fun tt_ kk_ => XS.aloadN X0.here hx rfl (hb hby d_prog_2_method_9_code_0) rfl rfl kk_) ?_
  show own_Ends _ _ _ _ _ _ (T0.setTop (mkF m 1 #[.val (.ref a), .val (.long q1), .second] [(.ref a)]))
  refine own_of (fun tt_ kk_ => XS.dup X0.here hx rfl (hb hby d_prog_2_method_9_code_1) rfl rfl kk_) ?_
  show own_Ends _ _ _ _ _ _ (T0.setTop (mkF m 2 #[.val (.ref a), .val (.long q1), .second] [(.ref a), (.ref a)]))
  obtain ⟨T8, X8, e8, st8⟩ := getF X0 hx hZ hown (host := "") (Or.inl (hw _ (List.mem_of_getElem? (i := 43) rfl))) Via.refl e0 F_failedAttempts (g := (mkF m 2 #[.val (.ref a), .val (.long q1), .second] [(.ref a), (.ref a)])) rfl rfl (hb hby d_prog_2_method_9_code_2)
  refine own_of st8 ?_
  show own_Ends _ _ _ _ _ _ (T8.setTop (mkF m 5 #[.val (.ref a), .val (.long q1), .second] [(.int f), (.ref a)]))
  refine own_of (fun tt_ kk_ => XS.iconst X8.here hx rfl (hb hby d_prog_2_method_9_code_5) kk_) ?_
  show own_Ends _ _ _ _ _ _ (T8.setTop (mkF m 6 #[.val (.ref a), .val (.long q1), .second] [(.int (1 : Int32)), (.int f), (.ref a)]))
  refine own_of (fun tt_ kk_ => XS.iadd X8.here hx rfl (hb hby d_prog_2_method_9_code_6) rfl kk_) ?_
  show own_Ends _ _ _ _ _ _ (T8.setTop (mkF m 7 #[.val (.ref a), .val (.long q1), .second] [(.int (f + (1 : Int32))), (.ref a)]))
  obtain ⟨T9, h9, X9, e9, W9, st9⟩ := putF X8 hx hZ hown (host := "") (Or.inl (hw _ (List.mem_of_getElem? (i := 43) rfl))) Via.refl e8 F_failedAttempts E (Or.inl (hw _ (List.mem_of_getElem? (i := 44) rfl))) (hw _ (List.mem_of_getElem? (i := 31) rfl)) (ty := .int) (by decide) rfl rfl (g := (mkF m 7 #[.val (.ref a), .val (.long q1), .second] [(.int (f + (1 : Int32))), (.ref a)])) rfl rfl (hb hby d_prog_2_method_9_code_7)
  replace F_failedAttempts := F_failedAttempts.same W9
  replace E := E.wr W9
  replace F_topic := F_topic.other W9 (Or.inr (slot_ne (Or.inr (hw _ (List.mem_of_getElem? (i := 38) rfl))) (Or.inl (hw _ (List.mem_of_getElem? (i := 44) rfl))) (by decide) (t := (.object "java/lang/String")) (t' := .int) (by decide) (by decide)))
  replace F_message := F_message.other W9 (Or.inr (slot_ne (Or.inr (hw _ (List.mem_of_getElem? (i := 40) rfl))) (Or.inl (hw _ (List.mem_of_getElem? (i := 44) rfl))) (by decide) (t := (.object "com/example/libenq/libenq/engine/TopicMessageRecord")) (t' := .int) (by decide) (by decide)))
  replace F_subscription := F_subscription.other W9 (Or.inr (slot_ne (Or.inr (hw _ (List.mem_of_getElem? (i := 42) rfl))) (Or.inl (hw _ (List.mem_of_getElem? (i := 44) rfl))) (by decide) (t := (.object "java/lang/String")) (t' := .int) (by decide) (by decide)))
  replace F_nextAttemptTime := F_nextAttemptTime.other W9 (Or.inr (slot_ne (Or.inl (hw _ (List.mem_of_getElem? (i := 46) rfl))) (Or.inl (hw _ (List.mem_of_getElem? (i := 44) rfl))) (by decide) (t := .long) (t' := .int) (by decide) (by decide)))
  replace F_cancelled := F_cancelled.other W9 (Or.inr (slot_ne (Or.inl (hw _ (List.mem_of_getElem? (i := 53) rfl))) (Or.inl (hw _ (List.mem_of_getElem? (i := 44) rfl))) (by decide) (t := .boolean) (t' := .int) (by decide) (by decide)))
  have N9 := Fr.snoc X9 N0 g_a
  replace K := K.wr W9 (Or.inl (List.mem_of_getElem? (i := 0) rfl))
  refine own_of st9 ?_
  show own_Ends _ _ _ _ _ _ (T9.setTop (mkF m 10 #[.val (.ref a), .val (.long q1), .second] []))
  refine own_of (fun tt_ kk_ => XS.aloadN X9.here hx rfl (hb hby d_prog_2_method_9_code_10) rfl rfl kk_) ?_
  show own_Ends _ _ _ _ _ _ (T9.setTop (mkF m 11 #[.val (.ref a), .val (.long q1), .second] [(.ref a)]))
  refine own_of (fun tt_ kk_ => XS.lloadN X9.here hx rfl (hb hby d_prog_2_method_9_code_11) rfl  kk_) ?_
  show own_Ends _ _ _ _ _ _ (T9.setTop (mkF m 12 #[.val (.ref a), .val (.long q1), .second] [(.long q1), (.ref a)]))
  obtain ⟨T10, h10, X10, e10, W10, st10⟩ := putF X9 hx hZ hown (host := "") (Or.inl (hw _ (List.mem_of_getElem? (i := 45) rfl))) Via.refl e9 F_nextAttemptTime E (Or.inl (hw _ (List.mem_of_getElem? (i := 46) rfl))) (hw _ (List.mem_of_getElem? (i := 31) rfl)) (ty := .long) (by decide) rfl rfl (g := (mkF m 12 #[.val (.ref a), .val (.long q1), .second] [(.long q1), (.ref a)])) rfl rfl (hb hby d_prog_2_method_9_code_12)
  replace F_nextAttemptTime := F_nextAttemptTime.same W10
  replace E := E.wr W10
  replace F_topic := F_topic.other W10 (Or.inr (slot_ne (Or.inr (hw _ (List.mem_of_getElem? (i := 38) rfl))) (Or.inl (hw _ (List.mem_of_getElem? (i := 46) rfl))) (by decide) (t := (.object "java/lang/String")) (t' := .long) (by decide) (by decide)))
  replace F_message := F_message.other W10 (Or.inr (slot_ne (Or.inr (hw _ (List.mem_of_getElem? (i := 40) rfl))) (Or.inl (hw _ (List.mem_of_getElem? (i := 46) rfl))) (by decide) (t := (.object "com/example/libenq/libenq/engine/TopicMessageRecord")) (t' := .long) (by decide) (by decide)))
  replace F_subscription := F_subscription.other W10 (Or.inr (slot_ne (Or.inr (hw _ (List.mem_of_getElem? (i := 42) rfl))) (Or.inl (hw _ (List.mem_of_getElem? (i := 46) rfl))) (by decide) (t := (.object "java/lang/String")) (t' := .long) (by decide) (by decide)))
  replace F_failedAttempts := F_failedAttempts.other W10 (Or.inr (slot_ne (Or.inl (hw _ (List.mem_of_getElem? (i := 44) rfl))) (Or.inl (hw _ (List.mem_of_getElem? (i := 46) rfl))) (by decide) (t := .int) (t' := .long) (by decide) (by decide)))
  replace F_cancelled := F_cancelled.other W10 (Or.inr (slot_ne (Or.inl (hw _ (List.mem_of_getElem? (i := 53) rfl))) (Or.inl (hw _ (List.mem_of_getElem? (i := 46) rfl))) (by decide) (t := .boolean) (t' := .long) (by decide) (by decide)))
  have N10 := Fr.snoc X10 N9 g_a
  replace K := K.wr W10 (Or.inl (List.mem_of_getElem? (i := 0) rfl))
  refine own_of st10 ?_
  show own_Ends _ _ _ _ _ _ (T10.setTop (mkF m 15 #[.val (.ref a), .val (.long q1), .second] []))
  refine own_retV X10 hx hlk e10 hret (hb hby d_prog_2_method_9_code_15) (by decide) (by decide) ?_
  exact ⟨rfl, N10, K, E, F_topic, F_message, F_subscription, F_failedAttempts, F_nextAttemptTime, F_cancelled⟩
theorem ef_prog_2_method_2_codeR (m : MethodId) (z0 : Addr) : entryFrame m #[(.ref z0)] 1 = mkF m 0 #[.val (.ref z0)] [] := by first | (simp [entryFrame, mkF, argsToLocals, Value.category]; done) | rfl
theorem d_prog_2_method_2_code_0 : decode prog_2_method_2_code 0 = .ok (.aload_n 0, 1) := by decide +kernel
theorem d_prog_2_method_2_code_1 : decode prog_2_method_2_code 1 = .ok (.getfield 7, 3) := by decide +kernel
theorem d_prog_2_method_2_code_4 : decode prog_2_method_2_code 4 = .ok (.areturn, 1) := by decide +kernel
set_option maxRecDepth 65536 in
set_option maxHeartbeats 40000000 in
theorem rm_topic (l : Launch) (Z : State) (a0 : Array Value) (hw : ∀ d ∈ tables_1, d.before a0 Z = true) (a : Addr) (z : Addr) (h0 : Heap) (n0 : Nat) (Z0 : n0 ≤ h0.size) (F : Fld Z h0 a "com/example/libenq/libenq/engine/Delivery" "topic" "Ljava/lang/String;" (.ref z)) :
    own_Met l Z (⟨"com/example/libenq/libenq/engine/Delivery", "topic", "()Ljava/lang/String;"⟩ : MethodName) prog_2_method_2_code 1 (some (.object "java/lang/String")) ({ frames := 0, cells := 0, slots := 0, locals := 0 } : Room) #[(.ref a)] h0 (fun v h L => v = some (.ref z) ∧ Fr n0 L ∧ h = h0) := by
  refine own_body (plainFor_of_name pn_com_example_libenq_libenq_engine_Delivery) ?_
  intro p e s m below meth c T0 X0 e0 hx hby hml hown hnm hret hlk hZ
  replace hown : s.vm.findClass "com/example/libenq/libenq/engine/Delivery" = some m.cls := hown
  have N0 := Fr.nil n0
  refine own_of (fun tt_ kk_ => castTop (ef_prog_2_method_2_codeR m a) kk_) ?_
  show own_Ends _ _ _ _ _ _ (T0.setTop (mkF m 0 #[.val (.ref a)] []))
  refine own_of (fun tt_ kk_ => XS.aloadN X0.here hx rfl (hb hby d_prog_2_method_2_code_0) rfl rfl kk_) ?_
  show own_Ends _ _ _ _ _ _ (T0.setTop (mkF m 1 #[.val (.ref a)] [(.ref a)]))
  obtain ⟨T11, X11, e11, st11⟩ := getF X0 hx hZ hown (host := "") (Or.inl (hw _ (List.mem_of_getElem? (i := 37) rfl))) Via.refl e0 F (g := (mkF m 1 #[.val (.ref a)] [(.ref a)])) rfl rfl (hb hby d_prog_2_method_2_code_1)
  refine own_of st11 ?_
  show own_Ends _ _ _ _ _ _ (T11.setTop (mkF m 4 #[.val (.ref a)] [(.ref z)]))
  refine own_retA X11 hx hlk e11 hret rfl rfl (hb hby d_prog_2_method_2_code_4) (by decide) (by decide) ?_
  exact ⟨rfl, N0, rfl⟩
theorem ef_prog_2_method_3_codeR (m : MethodId) (z0 : Addr) : entryFrame m #[(.ref z0)] 1 = mkF m 0 #[.val (.ref z0)] [] := by first | (simp [entryFrame, mkF, argsToLocals, Value.category]; done) | rfl
theorem d_prog_2_method_3_code_0 : decode prog_2_method_3_code 0 = .ok (.aload_n 0, 1) := by decide +kernel
theorem d_prog_2_method_3_code_1 : decode prog_2_method_3_code 1 = .ok (.getfield 13, 3) := by decide +kernel
theorem d_prog_2_method_3_code_4 : decode prog_2_method_3_code 4 = .ok (.areturn, 1) := by decide +kernel
set_option maxRecDepth 65536 in
set_option maxHeartbeats 40000000 in
theorem rm_message (l : Launch) (Z : State) (a0 : Array Value) (hw : ∀ d ∈ tables_1, d.before a0 Z = true) (a : Addr) (h0 : Heap) (n0 : Nat) (Z0 : n0 ≤ h0.size) (F : Fld Z h0 a "com/example/libenq/libenq/engine/Delivery" "message" "Lcom/example/libenq/libenq/engine/TopicMessageRecord;" .null) :
    own_Met l Z (⟨"com/example/libenq/libenq/engine/Delivery", "message", "()Lcom/example/libenq/libenq/engine/TopicMessageRecord;"⟩ : MethodName) prog_2_method_3_code 1 (some (.object "com/example/libenq/libenq/engine/TopicMessageRecord")) ({ frames := 0, cells := 0, slots := 0, locals := 0 } : Room) #[(.ref a)] h0 (fun v h L => v = some .null ∧ Fr n0 L ∧ h = h0) := by
  refine own_body (plainFor_of_name pn_com_example_libenq_libenq_engine_Delivery) ?_
  intro p e s m below meth c T0 X0 e0 hx hby hml hown hnm hret hlk hZ
  replace hown : s.vm.findClass "com/example/libenq/libenq/engine/Delivery" = some m.cls := hown
  have N0 := Fr.nil n0
  refine own_of (fun tt_ kk_ => castTop (ef_prog_2_method_3_codeR m a) kk_) ?_
  show own_Ends _ _ _ _ _ _ (T0.setTop (mkF m 0 #[.val (.ref a)] []))
  refine own_of (fun tt_ kk_ => XS.aloadN X0.here hx rfl (hb hby d_prog_2_method_3_code_0) rfl rfl kk_) ?_
  show own_Ends _ _ _ _ _ _ (T0.setTop (mkF m 1 #[.val (.ref a)] [(.ref a)]))
  obtain ⟨T12, X12, e12, st12⟩ := getF X0 hx hZ hown (host := "") (Or.inl (hw _ (List.mem_of_getElem? (i := 39) rfl))) Via.refl e0 F (g := (mkF m 1 #[.val (.ref a)] [(.ref a)])) rfl rfl (hb hby d_prog_2_method_3_code_1)
  refine own_of st12 ?_
  show own_Ends _ _ _ _ _ _ (T12.setTop (mkF m 4 #[.val (.ref a)] [.null]))
  refine own_retA X12 hx hlk e12 hret rfl rfl (hb hby d_prog_2_method_3_code_4) (by decide) (by decide) ?_
  exact ⟨rfl, N0, rfl⟩
theorem ef_prog_2_method_4_codeR (m : MethodId) (z0 : Addr) : entryFrame m #[(.ref z0)] 1 = mkF m 0 #[.val (.ref z0)] [] := by first | (simp [entryFrame, mkF, argsToLocals, Value.category]; done) | rfl
theorem d_prog_2_method_4_code_0 : decode prog_2_method_4_code 0 = .ok (.aload_n 0, 1) := by decide +kernel
theorem d_prog_2_method_4_code_1 : decode prog_2_method_4_code 1 = .ok (.getfield 17, 3) := by decide +kernel
theorem d_prog_2_method_4_code_4 : decode prog_2_method_4_code 4 = .ok (.areturn, 1) := by decide +kernel
set_option maxRecDepth 65536 in
set_option maxHeartbeats 40000000 in
theorem rm_subscription (l : Launch) (Z : State) (a0 : Array Value) (hw : ∀ d ∈ tables_1, d.before a0 Z = true) (a : Addr) (z : Addr) (h0 : Heap) (n0 : Nat) (Z0 : n0 ≤ h0.size) (F : Fld Z h0 a "com/example/libenq/libenq/engine/Delivery" "subscription" "Ljava/lang/String;" (.ref z)) :
    own_Met l Z (⟨"com/example/libenq/libenq/engine/Delivery", "subscription", "()Ljava/lang/String;"⟩ : MethodName) prog_2_method_4_code 1 (some (.object "java/lang/String")) ({ frames := 0, cells := 0, slots := 0, locals := 0 } : Room) #[(.ref a)] h0 (fun v h L => v = some (.ref z) ∧ Fr n0 L ∧ h = h0) := by
  refine own_body (plainFor_of_name pn_com_example_libenq_libenq_engine_Delivery) ?_
  intro p e s m below meth c T0 X0 e0 hx hby hml hown hnm hret hlk hZ
  replace hown : s.vm.findClass "com/example/libenq/libenq/engine/Delivery" = some m.cls := hown
  have N0 := Fr.nil n0
  refine own_of (fun tt_ kk_ => castTop (ef_prog_2_method_4_codeR m a) kk_) ?_
  show own_Ends _ _ _ _ _ _ (T0.setTop (mkF m 0 #[.val (.ref a)] []))
  refine own_of (fun tt_ kk_ => XS.aloadN X0.here hx rfl (hb hby d_prog_2_method_4_code_0) rfl rfl kk_) ?_
  show own_Ends _ _ _ _ _ _ (T0.setTop (mkF m 1 #[.val (.ref a)] [(.ref a)]))
  obtain ⟨T13, X13, e13, st13⟩ := getF X0 hx hZ hown (host := "") (Or.inl (hw _ (List.mem_of_getElem? (i := 41) rfl))) Via.refl e0 F (g := (mkF m 1 #[.val (.ref a)] [(.ref a)])) rfl rfl (hb hby d_prog_2_method_4_code_1)
  refine own_of st13 ?_
  show own_Ends _ _ _ _ _ _ (T13.setTop (mkF m 4 #[.val (.ref a)] [(.ref z)]))
  refine own_retA X13 hx hlk e13 hret rfl rfl (hb hby d_prog_2_method_4_code_4) (by decide) (by decide) ?_
  exact ⟨rfl, N0, rfl⟩
theorem ef_prog_2_method_5_codeR (m : MethodId) (z0 : Addr) : entryFrame m #[(.ref z0)] 1 = mkF m 0 #[.val (.ref z0)] [] := by first | (simp [entryFrame, mkF, argsToLocals, Value.category]; done) | rfl
theorem d_prog_2_method_5_code_0 : decode prog_2_method_5_code 0 = .ok (.aload_n 0, 1) := by decide +kernel
theorem d_prog_2_method_5_code_1 : decode prog_2_method_5_code 1 = .ok (.getfield 20, 3) := by decide +kernel
theorem d_prog_2_method_5_code_4 : decode prog_2_method_5_code 4 = .ok (.ireturn, 1) := by decide +kernel
set_option maxRecDepth 65536 in
set_option maxHeartbeats 40000000 in
theorem rm_failedAttempts (l : Launch) (Z : State) (a0 : Array Value) (hw : ∀ d ∈ tables_1, d.before a0 Z = true) (a : Addr) (z : Int32) (h0 : Heap) (n0 : Nat) (Z0 : n0 ≤ h0.size) (F : Fld Z h0 a "com/example/libenq/libenq/engine/Delivery" "failedAttempts" "I" (.int z)) :
    own_Met l Z (⟨"com/example/libenq/libenq/engine/Delivery", "failedAttempts", "()I"⟩ : MethodName) prog_2_method_5_code 1 (some .int) ({ frames := 0, cells := 0, slots := 0, locals := 0 } : Room) #[(.ref a)] h0 (fun v h L => v = some (.int z) ∧ Fr n0 L ∧ h = h0) := by
  refine own_body (plainFor_of_name pn_com_example_libenq_libenq_engine_Delivery) ?_
  intro p e s m below meth c T0 X0 e0 hx hby hml hown hnm hret hlk hZ
  replace hown : s.vm.findClass "com/example/libenq/libenq/engine/Delivery" = some m.cls := hown
  have N0 := Fr.nil n0
  refine own_of (fun tt_ kk_ => castTop (ef_prog_2_method_5_codeR m a) kk_) ?_
  show own_Ends _ _ _ _ _ _ (T0.setTop (mkF m 0 #[.val (.ref a)] []))
  refine own_of (fun tt_ kk_ => XS.aloadN X0.here hx rfl (hb hby d_prog_2_method_5_code_0) rfl rfl kk_) ?_
  show own_Ends _ _ _ _ _ _ (T0.setTop (mkF m 1 #[.val (.ref a)] [(.ref a)]))
  obtain ⟨T14, X14, e14, st14⟩ := getF X0 hx hZ hown (host := "") (Or.inl (hw _ (List.mem_of_getElem? (i := 43) rfl))) Via.refl e0 F (g := (mkF m 1 #[.val (.ref a)] [(.ref a)])) rfl rfl (hb hby d_prog_2_method_5_code_1)
  refine own_of st14 ?_
  show own_Ends _ _ _ _ _ _ (T14.setTop (mkF m 4 #[.val (.ref a)] [(.int z)]))
  refine own_retI X14 hx hlk e14 hret (hb hby d_prog_2_method_5_code_4) (by decide) (by decide) ?_
  exact ⟨rfl, N0, rfl⟩
theorem ef_prog_2_method_6_codeR (m : MethodId) (z0 : Addr) : entryFrame m #[(.ref z0)] 1 = mkF m 0 #[.val (.ref z0)] [] := by first | (simp [entryFrame, mkF, argsToLocals, Value.category]; done) | rfl
theorem d_prog_2_method_6_code_0 : decode prog_2_method_6_code 0 = .ok (.aload_n 0, 1) := by decide +kernel
theorem d_prog_2_method_6_code_1 : decode prog_2_method_6_code 1 = .ok (.getfield 24, 3) := by decide +kernel
theorem d_prog_2_method_6_code_4 : decode prog_2_method_6_code 4 = .ok (.lreturn, 1) := by decide +kernel
set_option maxRecDepth 65536 in
set_option maxHeartbeats 40000000 in
theorem rm_nextAttemptTime (l : Launch) (Z : State) (a0 : Array Value) (hw : ∀ d ∈ tables_1, d.before a0 Z = true) (a : Addr) (z : Int64) (h0 : Heap) (n0 : Nat) (Z0 : n0 ≤ h0.size) (F : Fld Z h0 a "com/example/libenq/libenq/engine/Delivery" "nextAttemptTime" "J" (.long z)) :
    own_Met l Z (⟨"com/example/libenq/libenq/engine/Delivery", "nextAttemptTime", "()J"⟩ : MethodName) prog_2_method_6_code 1 (some .long) ({ frames := 0, cells := 0, slots := 0, locals := 0 } : Room) #[(.ref a)] h0 (fun v h L => v = some (.long z) ∧ Fr n0 L ∧ h = h0) := by
  refine own_body (plainFor_of_name pn_com_example_libenq_libenq_engine_Delivery) ?_
  intro p e s m below meth c T0 X0 e0 hx hby hml hown hnm hret hlk hZ
  replace hown : s.vm.findClass "com/example/libenq/libenq/engine/Delivery" = some m.cls := hown
  have N0 := Fr.nil n0
  refine own_of (fun tt_ kk_ => castTop (ef_prog_2_method_6_codeR m a) kk_) ?_
  show own_Ends _ _ _ _ _ _ (T0.setTop (mkF m 0 #[.val (.ref a)] []))
  refine own_of (fun tt_ kk_ => XS.aloadN X0.here hx rfl (hb hby d_prog_2_method_6_code_0) rfl rfl kk_) ?_
  show own_Ends _ _ _ _ _ _ (T0.setTop (mkF m 1 #[.val (.ref a)] [(.ref a)]))
  obtain ⟨T15, X15, e15, st15⟩ := getF X0 hx hZ hown (host := "") (Or.inl (hw _ (List.mem_of_getElem? (i := 45) rfl))) Via.refl e0 F (g := (mkF m 1 #[.val (.ref a)] [(.ref a)])) rfl rfl (hb hby d_prog_2_method_6_code_1)
  refine own_of st15 ?_
  show own_Ends _ _ _ _ _ _ (T15.setTop (mkF m 4 #[.val (.ref a)] [(.long z)]))
  refine own_retJ X15 hx hlk e15 hret (hb hby d_prog_2_method_6_code_4) (by decide) (by decide) ?_
  exact ⟨rfl, N0, rfl⟩
theorem ef_prog_2_method_7_codeR (m : MethodId) (z0 : Addr) : entryFrame m #[(.ref z0)] 1 = mkF m 0 #[.val (.ref z0)] [] := by first | (simp [entryFrame, mkF, argsToLocals, Value.category]; done) | rfl
theorem d_prog_2_method_7_code_0 : decode prog_2_method_7_code 0 = .ok (.aload_n 0, 1) := by decide +kernel
theorem d_prog_2_method_7_code_1 : decode prog_2_method_7_code 1 = .ok (.getfield 28, 3) := by decide +kernel
theorem d_prog_2_method_7_code_4 : decode prog_2_method_7_code 4 = .ok (.ireturn, 1) := by decide +kernel
set_option maxRecDepth 65536 in
set_option maxHeartbeats 40000000 in
theorem rm_cancelled (l : Launch) (Z : State) (a0 : Array Value) (hw : ∀ d ∈ tables_1, d.before a0 Z = true) (a : Addr) (z : Int32) (h0 : Heap) (n0 : Nat) (Z0 : n0 ≤ h0.size) (F : Fld Z h0 a "com/example/libenq/libenq/engine/Delivery" "cancelled" "Z" (.int z)) (hz : nar .boolean z = z) :
    own_Met l Z (⟨"com/example/libenq/libenq/engine/Delivery", "cancelled", "()Z"⟩ : MethodName) prog_2_method_7_code 1 (some .boolean) ({ frames := 0, cells := 0, slots := 0, locals := 0 } : Room) #[(.ref a)] h0 (fun v h L => v = some (.int z) ∧ Fr n0 L ∧ h = h0) := by
  refine own_body (plainFor_of_name pn_com_example_libenq_libenq_engine_Delivery) ?_
  intro p e s m below meth c T0 X0 e0 hx hby hml hown hnm hret hlk hZ
  replace hown : s.vm.findClass "com/example/libenq/libenq/engine/Delivery" = some m.cls := hown
  have N0 := Fr.nil n0
  refine own_of (fun tt_ kk_ => castTop (ef_prog_2_method_7_codeR m a) kk_) ?_
  show own_Ends _ _ _ _ _ _ (T0.setTop (mkF m 0 #[.val (.ref a)] []))
  refine own_of (fun tt_ kk_ => XS.aloadN X0.here hx rfl (hb hby d_prog_2_method_7_code_0) rfl rfl kk_) ?_
  show own_Ends _ _ _ _ _ _ (T0.setTop (mkF m 1 #[.val (.ref a)] [(.ref a)]))
  obtain ⟨T16, X16, e16, st16⟩ := getF X0 hx hZ hown (host := "") (Or.inl (hw _ (List.mem_of_getElem? (i := 52) rfl))) Via.refl e0 F (g := (mkF m 1 #[.val (.ref a)] [(.ref a)])) rfl rfl (hb hby d_prog_2_method_7_code_1)
  refine own_of st16 ?_
  show own_Ends _ _ _ _ _ _ (T16.setTop (mkF m 4 #[.val (.ref a)] [(.int z)]))
  refine own_retN X16 hx hlk e16 (t := .boolean) hret (by simp) (z' := z) hz (hb hby d_prog_2_method_7_code_4) (by decide) (by decide) ?_
  exact ⟨rfl, N0, rfl⟩
theorem own_two (x : Int32) : ((x + (1 : Int32)) + (1 : Int32)) = (x + (2 : Int32)) := by rw [Int32.add_assoc]; rfl
theorem pn_com_example_libenq_libenq_engine_DeliveryFailedPinLaw : plainName "com/example/libenq/libenq/engine/DeliveryFailedPinLaw" = true := by first | (simp [plainName, overriddenIn]; done) | decide +kernel
theorem ef_codeIJJJI (m : MethodId) (z0 : Int32) (z1 : Int64) (z2 : Int64) (z3 : Int64) (z4 : Int32) : entryFrame m #[(.int z0), (.long z1), (.long z2), (.long z3), (.int z4)] maxLocals = mkF m 0 #[.val (.int z0), .val (.long z1), .second, .val (.long z2), .second, .val (.long z3), .second, .val (.int z4), .unset, .unset, .unset, .unset, .unset, .unset, .unset, .unset] [] := by first | (simp [entryFrame, mkF, argsToLocals, Value.category, maxLocals]; done) | rfl
theorem pd__AC_r_V : parseMethodDescriptor "([C)V" = some ⟨[(.array .char)], none⟩ := by decide +kernel
theorem pd__Ljava_lang_String_Lcom_example_libenq_libenq_engine_TopicMessageRecord_Ljava_lang_String_IJ_r_V : parseMethodDescriptor "(Ljava/lang/String;Lcom/example/libenq/libenq/engine/TopicMessageRecord;Ljava/lang/String;IJ)V" = some ⟨[(.object "java/lang/String"), (.object "com/example/libenq/libenq/engine/TopicMessageRecord"), (.object "java/lang/String"), .int, .long], none⟩ := by decide +kernel
theorem pd__J_r_V : parseMethodDescriptor "(J)V" = some ⟨[.long], none⟩ := by decide +kernel
theorem pd___r_I : parseMethodDescriptor "()I" = some ⟨[], some .int⟩ := by decide +kernel
theorem pd___r_J : parseMethodDescriptor "()J" = some ⟨[], some .long⟩ := by decide +kernel
theorem pd___r_Ljava_lang_String_ : parseMethodDescriptor "()Ljava/lang/String;" = some ⟨[], some (.object "java/lang/String")⟩ := by decide +kernel
theorem pd___r_Lcom_example_libenq_libenq_engine_TopicMessageRecord_ : parseMethodDescriptor "()Lcom/example/libenq/libenq/engine/TopicMessageRecord;" = some ⟨[], some (.object "com/example/libenq/libenq/engine/TopicMessageRecord")⟩ := by decide +kernel
theorem pd___r_Z : parseMethodDescriptor "()Z" = some ⟨[], some .boolean⟩ := by decide +kernel
theorem pd___r_V : parseMethodDescriptor "()V" = some ⟨[], none⟩ := by decide +kernel
set_option maxRecDepth 65536 in
set_option maxHeartbeats 40000000 in
theorem rm0 (l : Launch) (Z : State) (a0 : Array Value) (hw : ∀ d ∈ tables_1, d.before a0 Z = true) (p1 : Int32) (p2 p3 p4 : Int64) (p5 G1 : Int32) (h0 : Heap) (n0 : Nat) (Z0 : n0 ≤ h0.size) (O2 : Sta Z Z.heap "java/lang/String" "COMPACT_STRINGS" "Z" (.int G1)) (P3 : ¬ (G1 = (0 : Int32))) (OL : Old Z n0 h0) :
    own_Met l Z x code maxLocals ret room_1 #[(.int p1), (.long p2), (.long p3), (.long p4), (.int p5)] h0 (fun v h L => v = some (.int 1) ∧ Fr n0 L) := by
  refine own_body (plainFor_of_name pn_com_example_libenq_libenq_engine_DeliveryFailedPinLaw) ?_
  intro p e s m below meth c T0 X0 e0 hx hby hml hown hnm hret hlk hZ
  replace hown : s.vm.findClass "com/example/libenq/libenq/engine/DeliveryFailedPinLaw" = some m.cls := hown
  have N0 := Fr.nil n0
  refine own_of (fun tt_ kk_ => castTop (ef_codeIJJJI m p1 p2 p3 p4 p5) kk_) ?_
  have hws : ∀ d ∈ StrChars.Road.words, d.before a0 Z = true := fun d hd => hw d ((by decide +kernel : ∀ d ∈ StrChars.Road.words, d ∈ tables_1) d hd)
  have K := Keep.refl h0 []
  show own_Ends _ _ _ _ _ _ (T0.setTop (mkF m 0 #[.val (.int p1), .val (.long p2), .second, .val (.long p3), .second, .val (.long p4), .second, .val (.int p5), .unset, .unset, .unset, .unset, .unset, .unset, .unset, .unset] []))
  refine own_of (fun tt_ kk_ => XS.iconst X0.here hx rfl (hb hby at_0) kk_) ?_
  show own_Ends _ _ _ _ _ _ (T0.setTop (mkF m 1 #[.val (.int p1), .val (.long p2), .second, .val (.long p3), .second, .val (.long p4), .second, .val (.int p5), .unset, .unset, .unset, .unset, .unset, .unset, .unset, .unset] [(.int (1 : Int32))]))
  obtain ⟨T17, h17, k17, X17, e17, E17, A17, st17⟩ := newP X0 hx hZ (hw _ (List.mem_of_getElem? (i := 0) rfl)) e0 (g := (mkF m 1 #[.val (.int p1), .val (.long p2), .second, .val (.long p3), .second, .val (.long p4), .second, .val (.int p5), .unset, .unset, .unset, .unset, .unset, .unset, .unset, .unset] [(.int (1 : Int32))])) rfl (hb hby at_1) rfl (by decide) (cap := 1) (by decide) (by decide) (by decide) (by decide)
  obtain ⟨b17, g17⟩ : ∃ z, z = h0.size := ⟨_, rfl⟩
  rw [← g17] at A17 st17
  have sz_b17 : h0.size ≤ b17 := Nat.le_trans K.1 (Nat.le_of_eq g17.symm)
  have g_b17 : n0 ≤ b17 := Nat.le_trans Z0 sz_b17
  replace OL := OL.ext E17
  have V17 : Arv Z h17 b17 k17 .char (1 : Int32) [(.int (0 : Int32))] (.int (0 : Int32)) := (Arv.new A17 (by decide)).pad (pad_rep [] (.int (0 : Int32)) 1)
  replace K := K.ext E17
  refine own_of st17 ?_
  show own_Ends _ _ _ _ _ _ (T17.setTop (mkF m 3 #[.val (.int p1), .val (.long p2), .second, .val (.long p3), .second, .val (.long p4), .second, .val (.int p5), .unset, .unset, .unset, .unset, .unset, .unset, .unset, .unset] [(.ref b17)]))
  refine own_of (fun tt_ kk_ => XS.dup X17.here hx rfl (hb hby at_3) rfl rfl kk_) ?_
  show own_Ends _ _ _ _ _ _ (T17.setTop (mkF m 4 #[.val (.int p1), .val (.long p2), .second, .val (.long p3), .second, .val (.long p4), .second, .val (.int p5), .unset, .unset, .unset, .unset, .unset, .unset, .unset, .unset] [(.ref b17), (.ref b17)]))
  refine own_of (fun tt_ kk_ => XS.iconst X17.here hx rfl (hb hby at_4) kk_) ?_
  show own_Ends _ _ _ _ _ _ (T17.setTop (mkF m 5 #[.val (.int p1), .val (.long p2), .second, .val (.long p3), .second, .val (.long p4), .second, .val (.int p5), .unset, .unset, .unset, .unset, .unset, .unset, .unset, .unset] [(.int (0 : Int32)), (.ref b17), (.ref b17)]))
  refine own_of (fun tt_ kk_ => XS.iload X17.here hx rfl (hb hby at_5) rfl  kk_) ?_
  show own_Ends _ _ _ _ _ _ (T17.setTop (mkF m 7 #[.val (.int p1), .val (.long p2), .second, .val (.long p3), .second, .val (.long p4), .second, .val (.int p5), .unset, .unset, .unset, .unset, .unset, .unset, .unset, .unset] [(.int p5), (.int (0 : Int32)), (.ref b17), (.ref b17)]))
  refine own_of (fun tt_ kk_ => XS.iconst X17.here hx rfl (hb hby at_7) kk_) ?_
  show own_Ends _ _ _ _ _ _ (T17.setTop (mkF m 8 #[.val (.int p1), .val (.long p2), .second, .val (.long p3), .second, .val (.long p4), .second, .val (.int p5), .unset, .unset, .unset, .unset, .unset, .unset, .unset, .unset] [(.int (2 : Int32)), (.int p5), (.int (0 : Int32)), (.ref b17), (.ref b17)]))
  refine own_of (fun tt_ kk_ => XS.iushr X17.here hx rfl (hb hby at_8) rfl kk_) ?_
  show own_Ends _ _ _ _ _ _ (T17.setTop (mkF m 9 #[.val (.int p1), .val (.long p2), .second, .val (.long p3), .second, .val (.long p4), .second, .val (.int p5), .unset, .unset, .unset, .unset, .unset, .unset, .unset, .unset] [(.int ((p5.toUInt32 >>> ((2 : Int32) &&& 31).toUInt32).toInt32)), (.int (0 : Int32)), (.ref b17), (.ref b17)]))
  refine own_of (fun tt_ kk_ => XS.sipush X17.here hx rfl (hb hby at_9) kk_) ?_
  show own_Ends _ _ _ _ _ _ (T17.setTop (mkF m 12 #[.val (.int p1), .val (.long p2), .second, .val (.long p3), .second, .val (.long p4), .second, .val (.int p5), .unset, .unset, .unset, .unset, .unset, .unset, .unset, .unset] [(.int (255 : Int32)), (.int ((p5.toUInt32 >>> ((2 : Int32) &&& 31).toUInt32).toInt32)), (.int (0 : Int32)), (.ref b17), (.ref b17)]))
  refine own_of (fun tt_ kk_ => XS.iand X17.here hx rfl (hb hby at_12) rfl kk_) ?_
  show own_Ends _ _ _ _ _ _ (T17.setTop (mkF m 13 #[.val (.int p1), .val (.long p2), .second, .val (.long p3), .second, .val (.long p4), .second, .val (.int p5), .unset, .unset, .unset, .unset, .unset, .unset, .unset, .unset] [(.int (((p5.toUInt32 >>> ((2 : Int32) &&& 31).toUInt32).toInt32) &&& (255 : Int32))), (.int (0 : Int32)), (.ref b17), (.ref b17)]))
  refine own_of (fun tt_ kk_ => XS.i2c X17.here hx rfl (hb hby at_13) rfl kk_) ?_
  show own_Ends _ _ _ _ _ _ (T17.setTop (mkF m 14 #[.val (.int p1), .val (.long p2), .second, .val (.long p3), .second, .val (.long p4), .second, .val (.int p5), .unset, .unset, .unset, .unset, .unset, .unset, .unset, .unset] [(.int ((((p5.toUInt32 >>> ((2 : Int32) &&& 31).toUInt32).toInt32) &&& (255 : Int32)).toUInt32.toUInt16.toUInt32.toInt32)), (.int (0 : Int32)), (.ref b17), (.ref b17)]))
  obtain ⟨c1, hc1⟩ : ∃ z : Int32, z = ((((p5.toUInt32 >>> ((2 : Int32) &&& 31).toUInt32).toInt32) &&& (255 : Int32)).toUInt32.toUInt16.toUInt32.toInt32) := ⟨_, rfl⟩
  rw [← hc1]
  have lat_c1 : ¬ (nar .char c1) < 0 ∧ ¬ (255 : Int32) < (nar .char c1) := own_latc (x := ((p5.toUInt32 >>> ((2 : Int32) &&& 31).toUInt32).toInt32)) (by rw [hc1])
  show own_Ends _ _ _ _ _ _ (T17.setTop (mkF m 14 #[.val (.int p1), .val (.long p2), .second, .val (.long p3), .second, .val (.long p4), .second, .val (.int p5), .unset, .unset, .unset, .unset, .unset, .unset, .unset, .unset] [(.int c1), (.int (0 : Int32)), (.ref b17), (.ref b17)]))
  obtain ⟨cl18, Ar18, q18, S18, N18', H18, G18⟩ := V17
  have hin18 : ¬ ((0 : Int32) < 0 ∨ cl18.slots.size ≤ ((0 : Int32)).toNatClampNeg) := inb_of S18 ⟨by decide, by decide⟩
  obtain ⟨T18, h18, X18, e18, W18, st18⟩ := stC X17 hx hZ e17 Ar18 (j := (0 : Int32)) hin18 (g := (mkF m 14 #[.val (.int p1), .val (.long p2), .second, .val (.long p3), .second, .val (.long p4), .second, .val (.int p5), .unset, .unset, .unset, .unset, .unset, .unset, .unset, .unset] [(.int c1), (.int (0 : Int32)), (.ref b17), (.ref b17)])) rfl rfl (hb hby at_14)
  have V18' : Arv Z h18 b17 k17 .char (1 : Int32) [(.int (nar .char c1))] (.int (0 : Int32)) := Arv.set Ar18 q18 S18 N18' H18 G18 (fits_nar_char _) W18 0 rfl (Nat.le_of_ble_eq_true rfl)
  replace OL := OL.wr W18 g_b17
  have N18 := Fr.snoc X18 N0 g_b17
  replace K := K.wr W18 (Or.inr sz_b17)
  refine own_of st18 ?_
  show own_Ends _ _ _ _ _ _ (T18.setTop (mkF m 15 #[.val (.int p1), .val (.long p2), .second, .val (.long p3), .second, .val (.long p4), .second, .val (.int p5), .unset, .unset, .unset, .unset, .unset, .unset, .unset, .unset] [(.ref b17)]))
  refine own_of (fun tt_ kk_ => XS.astore X18.here hx rfl (hb hby at_15) rfl rfl (l' := #[.val (.int p1), .val (.long p2), .second, .val (.long p3), .second, .val (.long p4), .second, .val (.int p5), .val (.ref b17), .unset, .unset, .unset, .unset, .unset, .unset, .unset]) rfl kk_) ?_
  show own_Ends _ _ _ _ _ _ (T18.setTop (mkF m 17 #[.val (.int p1), .val (.long p2), .second, .val (.long p3), .second, .val (.long p4), .second, .val (.int p5), .val (.ref b17), .unset, .unset, .unset, .unset, .unset, .unset, .unset] []))
  refine own_of (fun tt_ kk_ => XS.iconst X18.here hx rfl (hb hby at_17) kk_) ?_
  show own_Ends _ _ _ _ _ _ (T18.setTop (mkF m 18 #[.val (.int p1), .val (.long p2), .second, .val (.long p3), .second, .val (.long p4), .second, .val (.int p5), .val (.ref b17), .unset, .unset, .unset, .unset, .unset, .unset, .unset] [(.int (1 : Int32))]))
  obtain ⟨T19, h19, k19, X19, e19, E19, A19, st19⟩ := newP X18 hx hZ (hw _ (List.mem_of_getElem? (i := 0) rfl)) e18 (g := (mkF m 18 #[.val (.int p1), .val (.long p2), .second, .val (.long p3), .second, .val (.long p4), .second, .val (.int p5), .val (.ref b17), .unset, .unset, .unset, .unset, .unset, .unset, .unset] [(.int (1 : Int32))])) rfl (hb hby at_18) rfl (by decide) (cap := 1) (by decide) (by decide) (by decide) (by decide)
  obtain ⟨b19, g19⟩ : ∃ z, z = h18.size := ⟨_, rfl⟩
  rw [← g19] at A19 st19
  have ne_b17_b19 : b17 ≠ b19 := Nat.ne_of_lt (Nat.lt_of_lt_of_le V18'.lt (Nat.le_of_eq g19.symm))
  have sz_b19 : h0.size ≤ b19 := Nat.le_trans K.1 (Nat.le_of_eq g19.symm)
  have g_b19 : n0 ≤ b19 := Nat.le_trans Z0 sz_b19
  replace OL := OL.ext E19
  replace V18' := V18'.ext E19
  have V19 : Arv Z h19 b19 k19 .char (1 : Int32) [(.int (0 : Int32))] (.int (0 : Int32)) := (Arv.new A19 (by decide)).pad (pad_rep [] (.int (0 : Int32)) 1)
  replace K := K.ext E19
  refine own_of st19 ?_
  show own_Ends _ _ _ _ _ _ (T19.setTop (mkF m 20 #[.val (.int p1), .val (.long p2), .second, .val (.long p3), .second, .val (.long p4), .second, .val (.int p5), .val (.ref b17), .unset, .unset, .unset, .unset, .unset, .unset, .unset] [(.ref b19)]))
  refine own_of (fun tt_ kk_ => XS.dup X19.here hx rfl (hb hby at_20) rfl rfl kk_) ?_
  show own_Ends _ _ _ _ _ _ (T19.setTop (mkF m 21 #[.val (.int p1), .val (.long p2), .second, .val (.long p3), .second, .val (.long p4), .second, .val (.int p5), .val (.ref b17), .unset, .unset, .unset, .unset, .unset, .unset, .unset] [(.ref b19), (.ref b19)]))
  refine own_of (fun tt_ kk_ => XS.iconst X19.here hx rfl (hb hby at_21) kk_) ?_
  show own_Ends _ _ _ _ _ _ (T19.setTop (mkF m 22 #[.val (.int p1), .val (.long p2), .second, .val (.long p3), .second, .val (.long p4), .second, .val (.int p5), .val (.ref b17), .unset, .unset, .unset, .unset, .unset, .unset, .unset] [(.int (0 : Int32)), (.ref b19), (.ref b19)]))
  refine own_of (fun tt_ kk_ => XS.iload X19.here hx rfl (hb hby at_22) rfl  kk_) ?_
  show own_Ends _ _ _ _ _ _ (T19.setTop (mkF m 24 #[.val (.int p1), .val (.long p2), .second, .val (.long p3), .second, .val (.long p4), .second, .val (.int p5), .val (.ref b17), .unset, .unset, .unset, .unset, .unset, .unset, .unset] [(.int p5), (.int (0 : Int32)), (.ref b19), (.ref b19)]))
  refine own_of (fun tt_ kk_ => XS.bipush X19.here hx rfl (hb hby at_24) kk_) ?_
  show own_Ends _ _ _ _ _ _ (T19.setTop (mkF m 26 #[.val (.int p1), .val (.long p2), .second, .val (.long p3), .second, .val (.long p4), .second, .val (.int p5), .val (.ref b17), .unset, .unset, .unset, .unset, .unset, .unset, .unset] [(.int (10 : Int32)), (.int p5), (.int (0 : Int32)), (.ref b19), (.ref b19)]))
  refine own_of (fun tt_ kk_ => XS.iushr X19.here hx rfl (hb hby at_26) rfl kk_) ?_
  show own_Ends _ _ _ _ _ _ (T19.setTop (mkF m 27 #[.val (.int p1), .val (.long p2), .second, .val (.long p3), .second, .val (.long p4), .second, .val (.int p5), .val (.ref b17), .unset, .unset, .unset, .unset, .unset, .unset, .unset] [(.int ((p5.toUInt32 >>> ((10 : Int32) &&& 31).toUInt32).toInt32)), (.int (0 : Int32)), (.ref b19), (.ref b19)]))
  refine own_of (fun tt_ kk_ => XS.sipush X19.here hx rfl (hb hby at_27) kk_) ?_
  show own_Ends _ _ _ _ _ _ (T19.setTop (mkF m 30 #[.val (.int p1), .val (.long p2), .second, .val (.long p3), .second, .val (.long p4), .second, .val (.int p5), .val (.ref b17), .unset, .unset, .unset, .unset, .unset, .unset, .unset] [(.int (255 : Int32)), (.int ((p5.toUInt32 >>> ((10 : Int32) &&& 31).toUInt32).toInt32)), (.int (0 : Int32)), (.ref b19), (.ref b19)]))
  refine own_of (fun tt_ kk_ => XS.iand X19.here hx rfl (hb hby at_30) rfl kk_) ?_
  show own_Ends _ _ _ _ _ _ (T19.setTop (mkF m 31 #[.val (.int p1), .val (.long p2), .second, .val (.long p3), .second, .val (.long p4), .second, .val (.int p5), .val (.ref b17), .unset, .unset, .unset, .unset, .unset, .unset, .unset] [(.int (((p5.toUInt32 >>> ((10 : Int32) &&& 31).toUInt32).toInt32) &&& (255 : Int32))), (.int (0 : Int32)), (.ref b19), (.ref b19)]))
  refine own_of (fun tt_ kk_ => XS.i2c X19.here hx rfl (hb hby at_31) rfl kk_) ?_
  show own_Ends _ _ _ _ _ _ (T19.setTop (mkF m 32 #[.val (.int p1), .val (.long p2), .second, .val (.long p3), .second, .val (.long p4), .second, .val (.int p5), .val (.ref b17), .unset, .unset, .unset, .unset, .unset, .unset, .unset] [(.int ((((p5.toUInt32 >>> ((10 : Int32) &&& 31).toUInt32).toInt32) &&& (255 : Int32)).toUInt32.toUInt16.toUInt32.toInt32)), (.int (0 : Int32)), (.ref b19), (.ref b19)]))
  obtain ⟨c2, hc2⟩ : ∃ z : Int32, z = ((((p5.toUInt32 >>> ((10 : Int32) &&& 31).toUInt32).toInt32) &&& (255 : Int32)).toUInt32.toUInt16.toUInt32.toInt32) := ⟨_, rfl⟩
  rw [← hc2]
  have lat_c2 : ¬ (nar .char c2) < 0 ∧ ¬ (255 : Int32) < (nar .char c2) := own_latc (x := ((p5.toUInt32 >>> ((10 : Int32) &&& 31).toUInt32).toInt32)) (by rw [hc2])
  show own_Ends _ _ _ _ _ _ (T19.setTop (mkF m 32 #[.val (.int p1), .val (.long p2), .second, .val (.long p3), .second, .val (.long p4), .second, .val (.int p5), .val (.ref b17), .unset, .unset, .unset, .unset, .unset, .unset, .unset] [(.int c2), (.int (0 : Int32)), (.ref b19), (.ref b19)]))
  obtain ⟨cl20, Ar20, q20, S20, N20', H20, G20⟩ := V19
  have hin20 : ¬ ((0 : Int32) < 0 ∨ cl20.slots.size ≤ ((0 : Int32)).toNatClampNeg) := inb_of S20 ⟨by decide, by decide⟩
  obtain ⟨T20, h20, X20, e20, W20, st20⟩ := stC X19 hx hZ e19 Ar20 (j := (0 : Int32)) hin20 (g := (mkF m 32 #[.val (.int p1), .val (.long p2), .second, .val (.long p3), .second, .val (.long p4), .second, .val (.int p5), .val (.ref b17), .unset, .unset, .unset, .unset, .unset, .unset, .unset] [(.int c2), (.int (0 : Int32)), (.ref b19), (.ref b19)])) rfl rfl (hb hby at_32)
  have V20' : Arv Z h20 b19 k19 .char (1 : Int32) [(.int (nar .char c2))] (.int (0 : Int32)) := Arv.set Ar20 q20 S20 N20' H20 G20 (fits_nar_char _) W20 0 rfl (Nat.le_of_ble_eq_true rfl)
  replace OL := OL.wr W20 g_b19
  replace V18' := V18'.other W20 ne_b17_b19
  have N20 := Fr.snoc X20 N18 g_b19
  replace K := K.wr W20 (Or.inr sz_b19)
  refine own_of st20 ?_
  show own_Ends _ _ _ _ _ _ (T20.setTop (mkF m 33 #[.val (.int p1), .val (.long p2), .second, .val (.long p3), .second, .val (.long p4), .second, .val (.int p5), .val (.ref b17), .unset, .unset, .unset, .unset, .unset, .unset, .unset] [(.ref b19)]))
  refine own_of (fun tt_ kk_ => XS.astore X20.here hx rfl (hb hby at_33) rfl rfl (l' := #[.val (.int p1), .val (.long p2), .second, .val (.long p3), .second, .val (.long p4), .second, .val (.int p5), .val (.ref b17), .val (.ref b19), .unset, .unset, .unset, .unset, .unset, .unset]) rfl kk_) ?_
  show own_Ends _ _ _ _ _ _ (T20.setTop (mkF m 35 #[.val (.int p1), .val (.long p2), .second, .val (.long p3), .second, .val (.long p4), .second, .val (.int p5), .val (.ref b17), .val (.ref b19), .unset, .unset, .unset, .unset, .unset, .unset] []))
  obtain ⟨T21, h21, X21, e21, E21, A21, D21, -, st21⟩ := newO X20 hx hZ hown (hw _ (List.mem_of_getElem? (i := 1) rfl)) (hw _ (List.mem_of_getElem? (i := 2) rfl)) (hw _ (List.mem_of_getElem? (i := 3) rfl)) e20 (g := (mkF m 35 #[.val (.int p1), .val (.long p2), .second, .val (.long p3), .second, .val (.long p4), .second, .val (.int p5), .val (.ref b17), .val (.ref b19), .unset, .unset, .unset, .unset, .unset, .unset] [])) rfl (hb hby at_35) (by decide) (by decide)
  obtain ⟨b21, g21⟩ : ∃ z, z = h20.size := ⟨_, rfl⟩
  rw [← g21] at A21 D21 st21
  have ne_b17_b21 : b17 ≠ b21 := Nat.ne_of_lt (Nat.lt_of_lt_of_le V18'.lt (Nat.le_of_eq g21.symm))
  have ne_b19_b21 : b19 ≠ b21 := Nat.ne_of_lt (Nat.lt_of_lt_of_le V20'.lt (Nat.le_of_eq g21.symm))
  have sz_b21 : h0.size ≤ b21 := Nat.le_trans K.1 (Nat.le_of_eq g21.symm)
  have g_b21 : n0 ≤ b21 := Nat.le_trans Z0 sz_b21
  replace OL := OL.ext E21
  replace V18' := V18'.ext E21
  replace V20' := V20'.ext E21
  have F_coder_b21 : Fld Z h21 b21 "java/lang/String" "coder" "B" (.int (0 : Int32)) := D21 (Or.inr (hw _ (List.mem_of_getElem? (i := 27) rfl))) (ty := .byte) (by decide)
  have F_value_b21 : Fld Z h21 b21 "java/lang/String" "value" "[B" .null := D21 (Or.inr (hw _ (List.mem_of_getElem? (i := 29) rfl))) (ty := (.array .byte)) (by decide)
  replace K := K.ext E21
  refine own_of st21 ?_
  show own_Ends _ _ _ _ _ _ (T21.setTop (mkF m 38 #[.val (.int p1), .val (.long p2), .second, .val (.long p3), .second, .val (.long p4), .second, .val (.int p5), .val (.ref b17), .val (.ref b19), .unset, .unset, .unset, .unset, .unset, .unset] [(.ref b21)]))
  refine own_of (fun tt_ kk_ => XS.dup X21.here hx rfl (hb hby at_38) rfl rfl kk_) ?_
  show own_Ends _ _ _ _ _ _ (T21.setTop (mkF m 39 #[.val (.int p1), .val (.long p2), .second, .val (.long p3), .second, .val (.long p4), .second, .val (.int p5), .val (.ref b17), .val (.ref b19), .unset, .unset, .unset, .unset, .unset, .unset] [(.ref b21), (.ref b21)]))
  refine own_of (fun tt_ kk_ => XS.aload X21.here hx rfl (hb hby at_39) rfl rfl kk_) ?_
  show own_Ends _ _ _ _ _ _ (T21.setTop (mkF m 41 #[.val (.int p1), .val (.long p2), .second, .val (.long p3), .second, .val (.long p4), .second, .val (.int p5), .val (.ref b17), .val (.ref b19), .unset, .unset, .unset, .unset, .unset, .unset] [(.ref b17), (.ref b21), (.ref b21)]))
  have ZH22 : n0 ≤ h21.size := Nat.le_trans Z0 K.1
  obtain ⟨_, _, ⟨T22, L22, kk22, nn22⟩, -, X22, ⟨Lc22, Q22, l22, y22, z22⟩, st22⟩ := X21.specialBack hx (y := (⟨"java/lang/String", "<init>", "([C)V"⟩ : MethodName)) rfl hown (mvT hZ (hw _ (List.mem_of_getElem? (i := 4) rfl))) (mvT hZ (hw _ (List.mem_of_getElem? (i := 5) rfl))) (mvT hZ (hw _ (List.mem_of_getElem? (i := 6) rfl))) (by decide) (StrChars.Road.backV (W := 1) hZ hws (kI := 4) (hw _ (List.mem_of_getElem? (i := 2) rfl)) (cs := [(nar .char c1)]) (bs := [(nar .char c1).toInt8.toInt32]) (n := 1) g_b21 ZH22 A21 F_value_b21 F_coder_b21 V18' (O2.ext OL.2) P3 rfl rfl (by decide) (by decide) (own_one lat_c1) rfl (by decide) (by decide)) (g := (mkF m 41 #[.val (.int p1), .val (.long p2), .second, .val (.long p3), .second, .val (.long p4), .second, .val (.int p5), .val (.ref b17), .val (.ref b19), .unset, .unset, .unset, .unset, .unset, .unset] [(.ref b17), (.ref b21), (.ref b21)])) rfl (by rw [hml]; rfl) (Steps.refl _) (a := b21) (argsL := [(.ref b17)]) (rest := [(.ref b21)]) (lenOf pd__AC_r_V rfl) rfl (by show 2 * 0 + _ ≤ _; exact Nat.le_of_eq rfl) (hb hby at_41) (fun _ _ => ⟨rfl, e21, (by decide : 3 + 1 ≤ _), (by decide : 6 + 1 ≤ _)⟩)
  dsimp only [Pt.U, Pt.locs, Pt.cells, Pt.slots] at X22 l22 y22 z22 st22 Q22
  subst l22 y22 z22
  obtain ⟨rfl, Nq22, Kq22, Eq22, Cq22, t22, kb22, g_t22, szz22, nex22, Fq22, Vq22⟩ := Q22
  obtain ⟨h22, eh22⟩ : ∃ z, z = T22.heap := ⟨_, rfl⟩
  rw [← eh22] at Kq22 Eq22 Cq22 Fq22 Vq22
  have e22 := eh22.symm
  replace OL := OL.keep Kq22 (allS g_b21 all0)
  replace V18' := V18'.keep Kq22 (ninS ne_b17_b21 nin0)
  replace V20' := V20'.keep Kq22 (ninS ne_b19_b21 nin0)
  replace K := K.trans Kq22 (allS (Or.inr sz_b21) all0)
  have N22 := Fr.app N20 Nq22
  refine own_of (fun t k => st22.trans k) ?_
  show own_Ends _ _ _ _ _ _ (T22.setTop (mkF m 44 #[.val (.int p1), .val (.long p2), .second, .val (.long p3), .second, .val (.long p4), .second, .val (.int p5), .val (.ref b17), .val (.ref b19), .unset, .unset, .unset, .unset, .unset, .unset] [(.ref b21)]))
  refine own_of (fun tt_ kk_ => XS.astore X22.here hx rfl (hb hby at_44) rfl rfl (l' := #[.val (.int p1), .val (.long p2), .second, .val (.long p3), .second, .val (.long p4), .second, .val (.int p5), .val (.ref b17), .val (.ref b19), .val (.ref b21), .unset, .unset, .unset, .unset, .unset]) rfl kk_) ?_
  show own_Ends _ _ _ _ _ _ (T22.setTop (mkF m 46 #[.val (.int p1), .val (.long p2), .second, .val (.long p3), .second, .val (.long p4), .second, .val (.int p5), .val (.ref b17), .val (.ref b19), .val (.ref b21), .unset, .unset, .unset, .unset, .unset] []))
  obtain ⟨T23, h23, X23, e23, E23, A23, D23, -, st23⟩ := newO X22 hx hZ hown (hw _ (List.mem_of_getElem? (i := 1) rfl)) (hw _ (List.mem_of_getElem? (i := 2) rfl)) (hw _ (List.mem_of_getElem? (i := 3) rfl)) e22 (g := (mkF m 46 #[.val (.int p1), .val (.long p2), .second, .val (.long p3), .second, .val (.long p4), .second, .val (.int p5), .val (.ref b17), .val (.ref b19), .val (.ref b21), .unset, .unset, .unset, .unset, .unset] [])) rfl (hb hby at_46) (by decide) (by decide)
  obtain ⟨b23, g23⟩ : ∃ z, z = h22.size := ⟨_, rfl⟩
  rw [← g23] at A23 D23 st23
  have ne_b17_b23 : b17 ≠ b23 := Nat.ne_of_lt (Nat.lt_of_lt_of_le V18'.lt (Nat.le_of_eq g23.symm))
  have ne_b19_b23 : b19 ≠ b23 := Nat.ne_of_lt (Nat.lt_of_lt_of_le V20'.lt (Nat.le_of_eq g23.symm))
  have ne_b21_b23 : b21 ≠ b23 := Nat.ne_of_lt (Nat.lt_of_lt_of_le Eq22.lt (Nat.le_of_eq g23.symm))
  have sz_b23 : h0.size ≤ b23 := Nat.le_trans K.1 (Nat.le_of_eq g23.symm)
  have g_b23 : n0 ≤ b23 := Nat.le_trans Z0 sz_b23
  replace OL := OL.ext E23
  replace V18' := V18'.ext E23
  replace V20' := V20'.ext E23
  replace Eq22 := Eq22.ext E23
  have F_coder_b23 : Fld Z h23 b23 "java/lang/String" "coder" "B" (.int (0 : Int32)) := D23 (Or.inr (hw _ (List.mem_of_getElem? (i := 27) rfl))) (ty := .byte) (by decide)
  have F_value_b23 : Fld Z h23 b23 "java/lang/String" "value" "[B" .null := D23 (Or.inr (hw _ (List.mem_of_getElem? (i := 29) rfl))) (ty := (.array .byte)) (by decide)
  replace K := K.ext E23
  refine own_of st23 ?_
  show own_Ends _ _ _ _ _ _ (T23.setTop (mkF m 49 #[.val (.int p1), .val (.long p2), .second, .val (.long p3), .second, .val (.long p4), .second, .val (.int p5), .val (.ref b17), .val (.ref b19), .val (.ref b21), .unset, .unset, .unset, .unset, .unset] [(.ref b23)]))
  refine own_of (fun tt_ kk_ => XS.dup X23.here hx rfl (hb hby at_49) rfl rfl kk_) ?_
  show own_Ends _ _ _ _ _ _ (T23.setTop (mkF m 50 #[.val (.int p1), .val (.long p2), .second, .val (.long p3), .second, .val (.long p4), .second, .val (.int p5), .val (.ref b17), .val (.ref b19), .val (.ref b21), .unset, .unset, .unset, .unset, .unset] [(.ref b23), (.ref b23)]))
  refine own_of (fun tt_ kk_ => XS.aload X23.here hx rfl (hb hby at_50) rfl rfl kk_) ?_
  show own_Ends _ _ _ _ _ _ (T23.setTop (mkF m 52 #[.val (.int p1), .val (.long p2), .second, .val (.long p3), .second, .val (.long p4), .second, .val (.int p5), .val (.ref b17), .val (.ref b19), .val (.ref b21), .unset, .unset, .unset, .unset, .unset] [(.ref b19), (.ref b23), (.ref b23)]))
  have ZH24 : n0 ≤ h23.size := Nat.le_trans Z0 K.1
  obtain ⟨_, _, ⟨T24, L24, kk24, nn24⟩, -, X24, ⟨Lc24, Q24, l24, y24, z24⟩, st24⟩ := X23.specialBack hx (y := (⟨"java/lang/String", "<init>", "([C)V"⟩ : MethodName)) rfl hown (mvT hZ (hw _ (List.mem_of_getElem? (i := 4) rfl))) (mvT hZ (hw _ (List.mem_of_getElem? (i := 5) rfl))) (mvT hZ (hw _ (List.mem_of_getElem? (i := 6) rfl))) (by decide) (StrChars.Road.backV (W := 1) hZ hws (kI := 4) (hw _ (List.mem_of_getElem? (i := 2) rfl)) (cs := [(nar .char c2)]) (bs := [(nar .char c2).toInt8.toInt32]) (n := 1) g_b23 ZH24 A23 F_value_b23 F_coder_b23 V20' (O2.ext OL.2) P3 rfl rfl (by decide) (by decide) (own_one lat_c2) rfl (by decide) (by decide)) (g := (mkF m 52 #[.val (.int p1), .val (.long p2), .second, .val (.long p3), .second, .val (.long p4), .second, .val (.int p5), .val (.ref b17), .val (.ref b19), .val (.ref b21), .unset, .unset, .unset, .unset, .unset] [(.ref b19), (.ref b23), (.ref b23)])) rfl (by rw [hml]; rfl) (Steps.refl _) (a := b23) (argsL := [(.ref b19)]) (rest := [(.ref b23)]) (lenOf pd__AC_r_V rfl) rfl (by show 2 * 0 + _ ≤ _; exact Nat.le_of_eq rfl) (hb hby at_52) (fun _ _ => ⟨rfl, e23, (by decide : 5 + 1 ≤ _), (by decide : 11 + 1 ≤ _)⟩)
  dsimp only [Pt.U, Pt.locs, Pt.cells, Pt.slots] at X24 l24 y24 z24 st24 Q24
  subst l24 y24 z24
  obtain ⟨rfl, Nq24, Kq24, Eq24, Cq24, t24, kb24, g_t24, szz24, nex24, Fq24, Vq24⟩ := Q24
  obtain ⟨h24, eh24⟩ : ∃ z, z = T24.heap := ⟨_, rfl⟩
  rw [← eh24] at Kq24 Eq24 Cq24 Fq24 Vq24
  have e24 := eh24.symm
  replace OL := OL.keep Kq24 (allS g_b23 all0)
  replace V18' := V18'.keep Kq24 (ninS ne_b17_b23 nin0)
  replace V20' := V20'.keep Kq24 (ninS ne_b19_b23 nin0)
  replace Eq22 := Eq22.keep Kq24
  replace K := K.trans Kq24 (allS (Or.inr sz_b23) all0)
  have N24 := Fr.app N22 Nq24
  refine own_of (fun t k => st24.trans k) ?_
  show own_Ends _ _ _ _ _ _ (T24.setTop (mkF m 55 #[.val (.int p1), .val (.long p2), .second, .val (.long p3), .second, .val (.long p4), .second, .val (.int p5), .val (.ref b17), .val (.ref b19), .val (.ref b21), .unset, .unset, .unset, .unset, .unset] [(.ref b23)]))
  refine own_of (fun tt_ kk_ => XS.astore X24.here hx rfl (hb hby at_55) rfl rfl (l' := #[.val (.int p1), .val (.long p2), .second, .val (.long p3), .second, .val (.long p4), .second, .val (.int p5), .val (.ref b17), .val (.ref b19), .val (.ref b21), .val (.ref b23), .unset, .unset, .unset, .unset]) rfl kk_) ?_
  show own_Ends _ _ _ _ _ _ (T24.setTop (mkF m 57 #[.val (.int p1), .val (.long p2), .second, .val (.long p3), .second, .val (.long p4), .second, .val (.int p5), .val (.ref b17), .val (.ref b19), .val (.ref b21), .val (.ref b23), .unset, .unset, .unset, .unset] []))
  refine own_of (fun tt_ kk_ => XS.iload X24.here hx rfl (hb hby at_57) rfl  kk_) ?_
  show own_Ends _ _ _ _ _ _ (T24.setTop (mkF m 59 #[.val (.int p1), .val (.long p2), .second, .val (.long p3), .second, .val (.long p4), .second, .val (.int p5), .val (.ref b17), .val (.ref b19), .val (.ref b21), .val (.ref b23), .unset, .unset, .unset, .unset] [(.int p5)]))
  refine own_of (fun tt_ kk_ => XS.iconst X24.here hx rfl (hb hby at_59) kk_) ?_
  show own_Ends _ _ _ _ _ _ (T24.setTop (mkF m 60 #[.val (.int p1), .val (.long p2), .second, .val (.long p3), .second, .val (.long p4), .second, .val (.int p5), .val (.ref b17), .val (.ref b19), .val (.ref b21), .val (.ref b23), .unset, .unset, .unset, .unset] [(.int (1 : Int32)), (.int p5)]))
  refine own_of (fun tt_ kk_ => XS.iand X24.here hx rfl (hb hby at_60) rfl kk_) ?_
  show own_Ends _ _ _ _ _ _ (T24.setTop (mkF m 61 #[.val (.int p1), .val (.long p2), .second, .val (.long p3), .second, .val (.long p4), .second, .val (.int p5), .val (.ref b17), .val (.ref b19), .val (.ref b21), .val (.ref b23), .unset, .unset, .unset, .unset] [(.int (p5 &&& (1 : Int32)))]))
  by_cases hc25 : (p5 &&& (1 : Int32)) = (0 : Int32)
  · refine own_of (fun tt_ kk_ => XS.ifYes X24.here hx rfl (pc0 := 61) (pc' := 68) rfl (hb hby at_61) rfl ((if0 _ _).trans (teq hc25).1) (by decide) (by decide) kk_) ?_
    show own_Ends _ _ _ _ _ _ (T24.setTop (mkF m 68 #[.val (.int p1), .val (.long p2), .second, .val (.long p3), .second, .val (.long p4), .second, .val (.int p5), .val (.ref b17), .val (.ref b19), .val (.ref b21), .val (.ref b23), .unset, .unset, .unset, .unset] []))
    refine own_of (fun tt_ kk_ => XS.iconst X24.here hx rfl (hb hby at_68) kk_) ?_
    show own_Ends _ _ _ _ _ _ (T24.setTop (mkF m 69 #[.val (.int p1), .val (.long p2), .second, .val (.long p3), .second, .val (.long p4), .second, .val (.int p5), .val (.ref b17), .val (.ref b19), .val (.ref b21), .val (.ref b23), .unset, .unset, .unset, .unset] [(.int (0 : Int32))]))
    refine own_of (fun tt_ kk_ => XS.istore X24.here hx rfl (hb hby at_69) rfl (l' := #[.val (.int p1), .val (.long p2), .second, .val (.long p3), .second, .val (.long p4), .second, .val (.int p5), .val (.ref b17), .val (.ref b19), .val (.ref b21), .val (.ref b23), .val (.int (0 : Int32)), .unset, .unset, .unset]) rfl kk_) ?_
    show own_Ends _ _ _ _ _ _ (T24.setTop (mkF m 71 #[.val (.int p1), .val (.long p2), .second, .val (.long p3), .second, .val (.long p4), .second, .val (.int p5), .val (.ref b17), .val (.ref b19), .val (.ref b21), .val (.ref b23), .val (.int (0 : Int32)), .unset, .unset, .unset] []))
    refine own_of (fun tt_ kk_ => XS.iload X24.here hx rfl (hb hby at_71) rfl  kk_) ?_
    show own_Ends _ _ _ _ _ _ (T24.setTop (mkF m 73 #[.val (.int p1), .val (.long p2), .second, .val (.long p3), .second, .val (.long p4), .second, .val (.int p5), .val (.ref b17), .val (.ref b19), .val (.ref b21), .val (.ref b23), .val (.int (0 : Int32)), .unset, .unset, .unset] [(.int p5)]))
    refine own_of (fun tt_ kk_ => XS.iconst X24.here hx rfl (hb hby at_73) kk_) ?_
    show own_Ends _ _ _ _ _ _ (T24.setTop (mkF m 74 #[.val (.int p1), .val (.long p2), .second, .val (.long p3), .second, .val (.long p4), .second, .val (.int p5), .val (.ref b17), .val (.ref b19), .val (.ref b21), .val (.ref b23), .val (.int (0 : Int32)), .unset, .unset, .unset] [(.int (2 : Int32)), (.int p5)]))
    refine own_of (fun tt_ kk_ => XS.iand X24.here hx rfl (hb hby at_74) rfl kk_) ?_
    show own_Ends _ _ _ _ _ _ (T24.setTop (mkF m 75 #[.val (.int p1), .val (.long p2), .second, .val (.long p3), .second, .val (.long p4), .second, .val (.int p5), .val (.ref b17), .val (.ref b19), .val (.ref b21), .val (.ref b23), .val (.int (0 : Int32)), .unset, .unset, .unset] [(.int (p5 &&& (2 : Int32)))]))
    by_cases hc26 : (p5 &&& (2 : Int32)) = (0 : Int32)
    · refine own_of (fun tt_ kk_ => XS.ifYes X24.here hx rfl (pc0 := 75) (pc' := 82) rfl (hb hby at_75) rfl ((if0 _ _).trans (teq hc26).1) (by decide) (by decide) kk_) ?_
      show own_Ends _ _ _ _ _ _ (T24.setTop (mkF m 82 #[.val (.int p1), .val (.long p2), .second, .val (.long p3), .second, .val (.long p4), .second, .val (.int p5), .val (.ref b17), .val (.ref b19), .val (.ref b21), .val (.ref b23), .val (.int (0 : Int32)), .unset, .unset, .unset] []))
      refine own_of (fun tt_ kk_ => XS.iconst X24.here hx rfl (hb hby at_82) kk_) ?_
      show own_Ends _ _ _ _ _ _ (T24.setTop (mkF m 83 #[.val (.int p1), .val (.long p2), .second, .val (.long p3), .second, .val (.long p4), .second, .val (.int p5), .val (.ref b17), .val (.ref b19), .val (.ref b21), .val (.ref b23), .val (.int (0 : Int32)), .unset, .unset, .unset] [(.int (0 : Int32))]))
      refine own_of (fun tt_ kk_ => XS.istore X24.here hx rfl (hb hby at_83) rfl (l' := #[.val (.int p1), .val (.long p2), .second, .val (.long p3), .second, .val (.long p4), .second, .val (.int p5), .val (.ref b17), .val (.ref b19), .val (.ref b21), .val (.ref b23), .val (.int (0 : Int32)), .val (.int (0 : Int32)), .unset, .unset]) rfl kk_) ?_
      show own_Ends _ _ _ _ _ _ (T24.setTop (mkF m 85 #[.val (.int p1), .val (.long p2), .second, .val (.long p3), .second, .val (.long p4), .second, .val (.int p5), .val (.ref b17), .val (.ref b19), .val (.ref b21), .val (.ref b23), .val (.int (0 : Int32)), .val (.int (0 : Int32)), .unset, .unset] []))
      obtain ⟨T27, h27, X27, e27, E27, A27, D27, -, st27⟩ := newO X24 hx hZ hown (hw _ (List.mem_of_getElem? (i := 30) rfl)) (hw _ (List.mem_of_getElem? (i := 31) rfl)) (hw _ (List.mem_of_getElem? (i := 32) rfl)) e24 (g := (mkF m 85 #[.val (.int p1), .val (.long p2), .second, .val (.long p3), .second, .val (.long p4), .second, .val (.int p5), .val (.ref b17), .val (.ref b19), .val (.ref b21), .val (.ref b23), .val (.int (0 : Int32)), .val (.int (0 : Int32)), .unset, .unset] [])) rfl (hb hby at_85) (by decide) (by decide)
      obtain ⟨b27, g27⟩ : ∃ z, z = h24.size := ⟨_, rfl⟩
      rw [← g27] at A27 D27 st27
      have ne_b17_b27 : b17 ≠ b27 := Nat.ne_of_lt (Nat.lt_of_lt_of_le V18'.lt (Nat.le_of_eq g27.symm))
      have ne_b19_b27 : b19 ≠ b27 := Nat.ne_of_lt (Nat.lt_of_lt_of_le V20'.lt (Nat.le_of_eq g27.symm))
      have ne_b21_b27 : b21 ≠ b27 := Nat.ne_of_lt (Nat.lt_of_lt_of_le Eq22.lt (Nat.le_of_eq g27.symm))
      have ne_b23_b27 : b23 ≠ b27 := Nat.ne_of_lt (Nat.lt_of_lt_of_le Eq24.lt (Nat.le_of_eq g27.symm))
      have sz_b27 : h0.size ≤ b27 := Nat.le_trans K.1 (Nat.le_of_eq g27.symm)
      have g_b27 : n0 ≤ b27 := Nat.le_trans Z0 sz_b27
      replace OL := OL.ext E27
      replace V18' := V18'.ext E27
      replace V20' := V20'.ext E27
      replace Eq22 := Eq22.ext E27
      replace Eq24 := Eq24.ext E27
      have F_topic_b27 : Fld Z h27 b27 "com/example/libenq/libenq/engine/Delivery" "topic" "Ljava/lang/String;" .null := D27 (Or.inr (hw _ (List.mem_of_getElem? (i := 38) rfl))) (ty := (.object "java/lang/String")) (by decide)
      have F_message_b27 : Fld Z h27 b27 "com/example/libenq/libenq/engine/Delivery" "message" "Lcom/example/libenq/libenq/engine/TopicMessageRecord;" .null := D27 (Or.inr (hw _ (List.mem_of_getElem? (i := 40) rfl))) (ty := (.object "com/example/libenq/libenq/engine/TopicMessageRecord")) (by decide)
      have F_subscription_b27 : Fld Z h27 b27 "com/example/libenq/libenq/engine/Delivery" "subscription" "Ljava/lang/String;" .null := D27 (Or.inr (hw _ (List.mem_of_getElem? (i := 42) rfl))) (ty := (.object "java/lang/String")) (by decide)
      have F_failedAttempts_b27 : Fld Z h27 b27 "com/example/libenq/libenq/engine/Delivery" "failedAttempts" "I" (.int (0 : Int32)) := D27 (Or.inl (hw _ (List.mem_of_getElem? (i := 44) rfl))) (ty := .int) (by decide)
      have F_nextAttemptTime_b27 : Fld Z h27 b27 "com/example/libenq/libenq/engine/Delivery" "nextAttemptTime" "J" (.long (0 : Int64)) := D27 (Or.inl (hw _ (List.mem_of_getElem? (i := 46) rfl))) (ty := .long) (by decide)
      have F_cancelled_b27 : Fld Z h27 b27 "com/example/libenq/libenq/engine/Delivery" "cancelled" "Z" (.int (0 : Int32)) := D27 (Or.inl (hw _ (List.mem_of_getElem? (i := 53) rfl))) (ty := .boolean) (by decide)
      replace K := K.ext E27
      refine own_of st27 ?_
      show own_Ends _ _ _ _ _ _ (T27.setTop (mkF m 88 #[.val (.int p1), .val (.long p2), .second, .val (.long p3), .second, .val (.long p4), .second, .val (.int p5), .val (.ref b17), .val (.ref b19), .val (.ref b21), .val (.ref b23), .val (.int (0 : Int32)), .val (.int (0 : Int32)), .unset, .unset] [(.ref b27)]))
      refine own_of (fun tt_ kk_ => XS.dup X27.here hx rfl (hb hby at_88) rfl rfl kk_) ?_
      show own_Ends _ _ _ _ _ _ (T27.setTop (mkF m 89 #[.val (.int p1), .val (.long p2), .second, .val (.long p3), .second, .val (.long p4), .second, .val (.int p5), .val (.ref b17), .val (.ref b19), .val (.ref b21), .val (.ref b23), .val (.int (0 : Int32)), .val (.int (0 : Int32)), .unset, .unset] [(.ref b27), (.ref b27)]))
      refine own_of (fun tt_ kk_ => XS.aload X27.here hx rfl (hb hby at_89) rfl rfl kk_) ?_
      show own_Ends _ _ _ _ _ _ (T27.setTop (mkF m 91 #[.val (.int p1), .val (.long p2), .second, .val (.long p3), .second, .val (.long p4), .second, .val (.int p5), .val (.ref b17), .val (.ref b19), .val (.ref b21), .val (.ref b23), .val (.int (0 : Int32)), .val (.int (0 : Int32)), .unset, .unset] [(.ref b21), (.ref b27), (.ref b27)]))
      refine own_of (fun tt_ kk_ => XS.aconstNull X27.here hx rfl (hb hby at_91) kk_) ?_
      show own_Ends _ _ _ _ _ _ (T27.setTop (mkF m 92 #[.val (.int p1), .val (.long p2), .second, .val (.long p3), .second, .val (.long p4), .second, .val (.int p5), .val (.ref b17), .val (.ref b19), .val (.ref b21), .val (.ref b23), .val (.int (0 : Int32)), .val (.int (0 : Int32)), .unset, .unset] [.null, (.ref b21), (.ref b27), (.ref b27)]))
      refine own_of (fun tt_ kk_ => XS.aload X27.here hx rfl (hb hby at_92) rfl rfl kk_) ?_
      show own_Ends _ _ _ _ _ _ (T27.setTop (mkF m 94 #[.val (.int p1), .val (.long p2), .second, .val (.long p3), .second, .val (.long p4), .second, .val (.int p5), .val (.ref b17), .val (.ref b19), .val (.ref b21), .val (.ref b23), .val (.int (0 : Int32)), .val (.int (0 : Int32)), .unset, .unset] [(.ref b23), .null, (.ref b21), (.ref b27), (.ref b27)]))
      refine own_of (fun tt_ kk_ => XS.iloadN X27.here hx rfl (hb hby at_94) rfl  kk_) ?_
      show own_Ends _ _ _ _ _ _ (T27.setTop (mkF m 95 #[.val (.int p1), .val (.long p2), .second, .val (.long p3), .second, .val (.long p4), .second, .val (.int p5), .val (.ref b17), .val (.ref b19), .val (.ref b21), .val (.ref b23), .val (.int (0 : Int32)), .val (.int (0 : Int32)), .unset, .unset] [(.int p1), (.ref b23), .null, (.ref b21), (.ref b27), (.ref b27)]))
      refine own_of (fun tt_ kk_ => XS.lloadN X27.here hx rfl (hb hby at_95) rfl  kk_) ?_
      show own_Ends _ _ _ _ _ _ (T27.setTop (mkF m 96 #[.val (.int p1), .val (.long p2), .second, .val (.long p3), .second, .val (.long p4), .second, .val (.int p5), .val (.ref b17), .val (.ref b19), .val (.ref b21), .val (.ref b23), .val (.int (0 : Int32)), .val (.int (0 : Int32)), .unset, .unset] [(.long p2), (.int p1), (.ref b23), .null, (.ref b21), (.ref b27), (.ref b27)]))
      obtain ⟨v28, T28, L28, h28, X28, e28, Q28, st28⟩ := own_special X27 hx hZ hown e27 (b := b27) rfl (hw _ (List.mem_of_getElem? (i := 33) rfl)) (hw _ (List.mem_of_getElem? (i := 34) rfl)) (hw _ (List.mem_of_getElem? (i := 32) rfl)) (hw _ (List.mem_of_getElem? (i := 35) rfl)) (by decide) (argsL := [(.ref b21), .null, (.ref b23), (.int p1), (.long p2)]) (rest := [(.ref b27)]) (rm_init l Z a0 hw b27 b21 b23 p1 p2 h27 n0 (Nat.le_trans Z0 K.1) A27 F_topic_b27 F_message_b27 F_subscription_b27 F_failedAttempts_b27 F_nextAttemptTime_b27 F_cancelled_b27 g_b27) (g := (mkF m 96 #[.val (.int p1), .val (.long p2), .second, .val (.long p3), .second, .val (.long p4), .second, .val (.int p5), .val (.ref b17), .val (.ref b19), .val (.ref b21), .val (.ref b23), .val (.int (0 : Int32)), .val (.int (0 : Int32)), .unset, .unset] [(.long p2), (.int p1), (.ref b23), .null, (.ref b21), (.ref b27), (.ref b27)])) rfl (by rw [hml]; rfl) (lenOf pd__Ljava_lang_String_Lcom_example_libenq_libenq_engine_TopicMessageRecord_Ljava_lang_String_IJ_r_V rfl) rfl (by decide) (Nat.le_of_ble_eq_true rfl) (by decide) (by decide) (hb hby at_96)
      obtain ⟨rfl, Nq28, Kq28, A27', F_topic_b27', F_message_b27', F_subscription_b27', F_failedAttempts_b27', F_nextAttemptTime_b27', F_cancelled_b27'⟩ := Q28
      replace OL := OL.keep Kq28 (allS g_b27 all0)
      replace V18' := V18'.keep Kq28 (ninS ne_b17_b27 nin0)
      replace V20' := V20'.keep Kq28 (ninS ne_b19_b27 nin0)
      replace Eq22 := Eq22.keep Kq28
      replace Eq24 := Eq24.keep Kq28
      replace A27 := A27.keep Kq28
      clear A27
      have A27 := A27'
      have F_topic_b27 := F_topic_b27'
      have F_message_b27 := F_message_b27'
      have F_subscription_b27 := F_subscription_b27'
      have F_failedAttempts_b27 := F_failedAttempts_b27'
      have F_nextAttemptTime_b27 := F_nextAttemptTime_b27'
      have F_cancelled_b27 := F_cancelled_b27'
      replace K := K.trans Kq28 (allS (Or.inr sz_b27) all0)
      have N28 := Fr.app N24 Nq28
      refine own_of st28 ?_
      show own_Ends _ _ _ _ _ _ (T28.setTop (mkF m 99 #[.val (.int p1), .val (.long p2), .second, .val (.long p3), .second, .val (.long p4), .second, .val (.int p5), .val (.ref b17), .val (.ref b19), .val (.ref b21), .val (.ref b23), .val (.int (0 : Int32)), .val (.int (0 : Int32)), .unset, .unset] [(.ref b27)]))
      refine own_of (fun tt_ kk_ => XS.astore X28.here hx rfl (hb hby at_99) rfl rfl (l' := #[.val (.int p1), .val (.long p2), .second, .val (.long p3), .second, .val (.long p4), .second, .val (.int p5), .val (.ref b17), .val (.ref b19), .val (.ref b21), .val (.ref b23), .val (.int (0 : Int32)), .val (.int (0 : Int32)), .val (.ref b27), .unset]) rfl kk_) ?_
      show own_Ends _ _ _ _ _ _ (T28.setTop (mkF m 101 #[.val (.int p1), .val (.long p2), .second, .val (.long p3), .second, .val (.long p4), .second, .val (.int p5), .val (.ref b17), .val (.ref b19), .val (.ref b21), .val (.ref b23), .val (.int (0 : Int32)), .val (.int (0 : Int32)), .val (.ref b27), .unset] []))
      refine own_of (fun tt_ kk_ => XS.iload X28.here hx rfl (hb hby at_101) rfl  kk_) ?_
      show own_Ends _ _ _ _ _ _ (T28.setTop (mkF m 103 #[.val (.int p1), .val (.long p2), .second, .val (.long p3), .second, .val (.long p4), .second, .val (.int p5), .val (.ref b17), .val (.ref b19), .val (.ref b21), .val (.ref b23), .val (.int (0 : Int32)), .val (.int (0 : Int32)), .val (.ref b27), .unset] [(.int (0 : Int32))]))
      refine own_of (fun tt_ kk_ => XS.ifYes X28.here hx rfl (pc0 := 103) (pc' := 111) rfl (hb hby at_103) rfl ((if0 _ _).trans (teq (by decide : ((0 : Int32) = (0 : Int32)))).1) (by decide) (by decide) kk_) ?_
      show own_Ends _ _ _ _ _ _ (T28.setTop (mkF m 111 #[.val (.int p1), .val (.long p2), .second, .val (.long p3), .second, .val (.long p4), .second, .val (.int p5), .val (.ref b17), .val (.ref b19), .val (.ref b21), .val (.ref b23), .val (.int (0 : Int32)), .val (.int (0 : Int32)), .val (.ref b27), .unset] []))
      refine own_of (fun tt_ kk_ => XS.aload X28.here hx rfl (hb hby at_111) rfl rfl kk_) ?_
      show own_Ends _ _ _ _ _ _ (T28.setTop (mkF m 113 #[.val (.int p1), .val (.long p2), .second, .val (.long p3), .second, .val (.long p4), .second, .val (.int p5), .val (.ref b17), .val (.ref b19), .val (.ref b21), .val (.ref b23), .val (.int (0 : Int32)), .val (.int (0 : Int32)), .val (.ref b27), .unset] [(.ref b27)]))
      refine own_of (fun tt_ kk_ => XS.lloadN X28.here hx rfl (hb hby at_113) rfl  kk_) ?_
      show own_Ends _ _ _ _ _ _ (T28.setTop (mkF m 114 #[.val (.int p1), .val (.long p2), .second, .val (.long p3), .second, .val (.long p4), .second, .val (.int p5), .val (.ref b17), .val (.ref b19), .val (.ref b21), .val (.ref b23), .val (.int (0 : Int32)), .val (.int (0 : Int32)), .val (.ref b27), .unset] [(.long p3), (.ref b27)]))
      obtain ⟨v29, T29, L29, h29, X29, e29, Q29, st29⟩ := own_virtual X28 hx hZ hown e28 A27 (hw _ (List.mem_of_getElem? (i := 54) rfl)) (hw _ (List.mem_of_getElem? (i := 55) rfl)) (notFace_of_selects (args := #[]) (mvT hZ (hw _ (List.mem_of_getElem? (i := 57) rfl)))) (hw _ (List.mem_of_getElem? (i := 57) rfl)) (hw _ (List.mem_of_getElem? (i := 56) rfl)) (hw _ (List.mem_of_getElem? (i := 32) rfl)) (hw _ (List.mem_of_getElem? (i := 58) rfl)) (by decide) (argsL := [(.long p3)]) (rest := []) (rm_failed l Z a0 hw b27 b21 b23 p1 p2 p3 (0 : Int32) h28 n0 (Nat.le_trans Z0 K.1) A27 F_topic_b27 F_message_b27 F_subscription_b27 F_failedAttempts_b27 F_nextAttemptTime_b27 F_cancelled_b27 g_b27) (g := (mkF m 114 #[.val (.int p1), .val (.long p2), .second, .val (.long p3), .second, .val (.long p4), .second, .val (.int p5), .val (.ref b17), .val (.ref b19), .val (.ref b21), .val (.ref b23), .val (.int (0 : Int32)), .val (.int (0 : Int32)), .val (.ref b27), .unset] [(.long p3), (.ref b27)])) rfl (by rw [hml]; rfl) (lenOf pd__J_r_V rfl) rfl (by decide) (Nat.le_of_ble_eq_true rfl) (by decide) (by decide) (hb hby at_114)
      obtain ⟨rfl, Nq29, Kq29, A27', F_topic_b27', F_message_b27', F_subscription_b27', F_failedAttempts_b27', F_nextAttemptTime_b27', F_cancelled_b27'⟩ := Q29
      replace OL := OL.keep Kq29 (allS g_b27 all0)
      replace V18' := V18'.keep Kq29 (ninS ne_b17_b27 nin0)
      replace V20' := V20'.keep Kq29 (ninS ne_b19_b27 nin0)
      replace Eq22 := Eq22.keep Kq29
      replace Eq24 := Eq24.keep Kq29
      replace A27 := A27.keep Kq29
      clear A27
      have A27 := A27'
      have F_topic_b27 := F_topic_b27'
      have F_message_b27 := F_message_b27'
      have F_subscription_b27 := F_subscription_b27'
      have F_failedAttempts_b27 := F_failedAttempts_b27'
      have F_nextAttemptTime_b27 := F_nextAttemptTime_b27'
      have F_cancelled_b27 := F_cancelled_b27'
      replace K := K.trans Kq29 (allS (Or.inr sz_b27) all0)
      have N29 := Fr.app N28 Nq29
      refine own_of st29 ?_
      show own_Ends _ _ _ _ _ _ (T29.setTop (mkF m 117 #[.val (.int p1), .val (.long p2), .second, .val (.long p3), .second, .val (.long p4), .second, .val (.int p5), .val (.ref b17), .val (.ref b19), .val (.ref b21), .val (.ref b23), .val (.int (0 : Int32)), .val (.int (0 : Int32)), .val (.ref b27), .unset] []))
      refine own_of (fun tt_ kk_ => XS.aload X29.here hx rfl (hb hby at_117) rfl rfl kk_) ?_
      show own_Ends _ _ _ _ _ _ (T29.setTop (mkF m 119 #[.val (.int p1), .val (.long p2), .second, .val (.long p3), .second, .val (.long p4), .second, .val (.int p5), .val (.ref b17), .val (.ref b19), .val (.ref b21), .val (.ref b23), .val (.int (0 : Int32)), .val (.int (0 : Int32)), .val (.ref b27), .unset] [(.ref b27)]))
      obtain ⟨v30, T30, L30, h30, X30, e30, Q30, st30⟩ := own_virtual X29 hx hZ hown e29 A27 (hw _ (List.mem_of_getElem? (i := 59) rfl)) (hw _ (List.mem_of_getElem? (i := 60) rfl)) (notFace_of_selects (args := #[]) (mvT hZ (hw _ (List.mem_of_getElem? (i := 62) rfl)))) (hw _ (List.mem_of_getElem? (i := 62) rfl)) (hw _ (List.mem_of_getElem? (i := 61) rfl)) (hw _ (List.mem_of_getElem? (i := 32) rfl)) (hw _ (List.mem_of_getElem? (i := 63) rfl)) (by decide) (argsL := []) (rest := []) (rm_failedAttempts l Z a0 hw b27 (p1 + (1 : Int32)) h29 n0 (Nat.le_trans Z0 K.1) F_failedAttempts_b27) (g := (mkF m 119 #[.val (.int p1), .val (.long p2), .second, .val (.long p3), .second, .val (.long p4), .second, .val (.int p5), .val (.ref b17), .val (.ref b19), .val (.ref b21), .val (.ref b23), .val (.int (0 : Int32)), .val (.int (0 : Int32)), .val (.ref b27), .unset] [(.ref b27)])) rfl (by rw [hml]; rfl) (lenOf pd___r_I rfl) rfl (by decide) (Nat.le_of_ble_eq_true rfl) (by decide) (by decide) (hb hby at_119)
      obtain ⟨rfl, Nq30, q30⟩ := Q30
      replace e30 := e30.trans q30
      have N30 := Fr.app N29 Nq30
      refine own_of st30 ?_
      show own_Ends _ _ _ _ _ _ (T30.setTop (mkF m 122 #[.val (.int p1), .val (.long p2), .second, .val (.long p3), .second, .val (.long p4), .second, .val (.int p5), .val (.ref b17), .val (.ref b19), .val (.ref b21), .val (.ref b23), .val (.int (0 : Int32)), .val (.int (0 : Int32)), .val (.ref b27), .unset] [(.int (p1 + (1 : Int32)))]))
      refine own_of (fun tt_ kk_ => XS.iloadN X30.here hx rfl (hb hby at_122) rfl  kk_) ?_
      show own_Ends _ _ _ _ _ _ (T30.setTop (mkF m 123 #[.val (.int p1), .val (.long p2), .second, .val (.long p3), .second, .val (.long p4), .second, .val (.int p5), .val (.ref b17), .val (.ref b19), .val (.ref b21), .val (.ref b23), .val (.int (0 : Int32)), .val (.int (0 : Int32)), .val (.ref b27), .unset] [(.int p1), (.int (p1 + (1 : Int32)))]))
      refine own_of (fun tt_ kk_ => XS.iconst X30.here hx rfl (hb hby at_123) kk_) ?_
      show own_Ends _ _ _ _ _ _ (T30.setTop (mkF m 124 #[.val (.int p1), .val (.long p2), .second, .val (.long p3), .second, .val (.long p4), .second, .val (.int p5), .val (.ref b17), .val (.ref b19), .val (.ref b21), .val (.ref b23), .val (.int (0 : Int32)), .val (.int (0 : Int32)), .val (.ref b27), .unset] [(.int (1 : Int32)), (.int p1), (.int (p1 + (1 : Int32)))]))
      refine own_of (fun tt_ kk_ => XS.iadd X30.here hx rfl (hb hby at_124) rfl kk_) ?_
      show own_Ends _ _ _ _ _ _ (T30.setTop (mkF m 125 #[.val (.int p1), .val (.long p2), .second, .val (.long p3), .second, .val (.long p4), .second, .val (.int p5), .val (.ref b17), .val (.ref b19), .val (.ref b21), .val (.ref b23), .val (.int (0 : Int32)), .val (.int (0 : Int32)), .val (.ref b27), .unset] [(.int (p1 + (1 : Int32))), (.int (p1 + (1 : Int32)))]))
      refine own_of (fun tt_ kk_ => XS.icmpNo X30.here hx rfl (hb hby at_125) rfl (teq (rfl : (p1 + (1 : Int32)) = (p1 + (1 : Int32)))).2 kk_) ?_
      show own_Ends _ _ _ _ _ _ (T30.setTop (mkF m 128 #[.val (.int p1), .val (.long p2), .second, .val (.long p3), .second, .val (.long p4), .second, .val (.int p5), .val (.ref b17), .val (.ref b19), .val (.ref b21), .val (.ref b23), .val (.int (0 : Int32)), .val (.int (0 : Int32)), .val (.ref b27), .unset] []))
      refine own_of (fun tt_ kk_ => XS.aload X30.here hx rfl (hb hby at_128) rfl rfl kk_) ?_
      show own_Ends _ _ _ _ _ _ (T30.setTop (mkF m 130 #[.val (.int p1), .val (.long p2), .second, .val (.long p3), .second, .val (.long p4), .second, .val (.int p5), .val (.ref b17), .val (.ref b19), .val (.ref b21), .val (.ref b23), .val (.int (0 : Int32)), .val (.int (0 : Int32)), .val (.ref b27), .unset] [(.ref b27)]))
      obtain ⟨v31, T31, L31, h31, X31, e31, Q31, st31⟩ := own_virtual X30 hx hZ hown e30 A27 (hw _ (List.mem_of_getElem? (i := 64) rfl)) (hw _ (List.mem_of_getElem? (i := 65) rfl)) (notFace_of_selects (args := #[]) (mvT hZ (hw _ (List.mem_of_getElem? (i := 67) rfl)))) (hw _ (List.mem_of_getElem? (i := 67) rfl)) (hw _ (List.mem_of_getElem? (i := 66) rfl)) (hw _ (List.mem_of_getElem? (i := 32) rfl)) (hw _ (List.mem_of_getElem? (i := 68) rfl)) (by decide) (argsL := []) (rest := []) (rm_nextAttemptTime l Z a0 hw b27 p3 h29 n0 (Nat.le_trans Z0 K.1) F_nextAttemptTime_b27) (g := (mkF m 130 #[.val (.int p1), .val (.long p2), .second, .val (.long p3), .second, .val (.long p4), .second, .val (.int p5), .val (.ref b17), .val (.ref b19), .val (.ref b21), .val (.ref b23), .val (.int (0 : Int32)), .val (.int (0 : Int32)), .val (.ref b27), .unset] [(.ref b27)])) rfl (by rw [hml]; rfl) (lenOf pd___r_J rfl) rfl (by decide) (Nat.le_of_ble_eq_true rfl) (by decide) (by decide) (hb hby at_130)
      obtain ⟨rfl, Nq31, q31⟩ := Q31
      replace e31 := e31.trans q31
      have N31 := Fr.app N30 Nq31
      refine own_of st31 ?_
      show own_Ends _ _ _ _ _ _ (T31.setTop (mkF m 133 #[.val (.int p1), .val (.long p2), .second, .val (.long p3), .second, .val (.long p4), .second, .val (.int p5), .val (.ref b17), .val (.ref b19), .val (.ref b21), .val (.ref b23), .val (.int (0 : Int32)), .val (.int (0 : Int32)), .val (.ref b27), .unset] [(.long p3)]))
      refine own_of (fun tt_ kk_ => XS.lloadN X31.here hx rfl (hb hby at_133) rfl  kk_) ?_
      show own_Ends _ _ _ _ _ _ (T31.setTop (mkF m 134 #[.val (.int p1), .val (.long p2), .second, .val (.long p3), .second, .val (.long p4), .second, .val (.int p5), .val (.ref b17), .val (.ref b19), .val (.ref b21), .val (.ref b23), .val (.int (0 : Int32)), .val (.int (0 : Int32)), .val (.ref b27), .unset] [(.long p3), (.long p3)]))
      refine own_of (fun tt_ kk_ => XS.lcmp X31.here hx rfl (hb hby at_134) rfl kk_) ?_
      show own_Ends _ _ _ _ _ _ (T31.setTop (mkF m 135 #[.val (.int p1), .val (.long p2), .second, .val (.long p3), .second, .val (.long p4), .second, .val (.int p5), .val (.ref b17), .val (.ref b19), .val (.ref b21), .val (.ref b23), .val (.int (0 : Int32)), .val (.int (0 : Int32)), .val (.ref b27), .unset] [(.int (lcmpW p3 p3))]))
      refine own_of (fun tt_ kk_ => XS.ifNo X31.here hx rfl (hb hby at_135) rfl ((if0 _ _).trans (teq ((lw_eq _ _).mpr rfl)).2) kk_) ?_
      show own_Ends _ _ _ _ _ _ (T31.setTop (mkF m 138 #[.val (.int p1), .val (.long p2), .second, .val (.long p3), .second, .val (.long p4), .second, .val (.int p5), .val (.ref b17), .val (.ref b19), .val (.ref b21), .val (.ref b23), .val (.int (0 : Int32)), .val (.int (0 : Int32)), .val (.ref b27), .unset] []))
      refine own_of (fun tt_ kk_ => XS.aload X31.here hx rfl (hb hby at_138) rfl rfl kk_) ?_
      show own_Ends _ _ _ _ _ _ (T31.setTop (mkF m 140 #[.val (.int p1), .val (.long p2), .second, .val (.long p3), .second, .val (.long p4), .second, .val (.int p5), .val (.ref b17), .val (.ref b19), .val (.ref b21), .val (.ref b23), .val (.int (0 : Int32)), .val (.int (0 : Int32)), .val (.ref b27), .unset] [(.ref b27)]))
      obtain ⟨v32, T32, L32, h32, X32, e32, Q32, st32⟩ := own_virtual X31 hx hZ hown e31 A27 (hw _ (List.mem_of_getElem? (i := 69) rfl)) (hw _ (List.mem_of_getElem? (i := 70) rfl)) (notFace_of_selects (args := #[]) (mvT hZ (hw _ (List.mem_of_getElem? (i := 72) rfl)))) (hw _ (List.mem_of_getElem? (i := 72) rfl)) (hw _ (List.mem_of_getElem? (i := 71) rfl)) (hw _ (List.mem_of_getElem? (i := 32) rfl)) (hw _ (List.mem_of_getElem? (i := 73) rfl)) (by decide) (argsL := []) (rest := []) (rm_topic l Z a0 hw b27 b21 h29 n0 (Nat.le_trans Z0 K.1) F_topic_b27) (g := (mkF m 140 #[.val (.int p1), .val (.long p2), .second, .val (.long p3), .second, .val (.long p4), .second, .val (.int p5), .val (.ref b17), .val (.ref b19), .val (.ref b21), .val (.ref b23), .val (.int (0 : Int32)), .val (.int (0 : Int32)), .val (.ref b27), .unset] [(.ref b27)])) rfl (by rw [hml]; rfl) (lenOf pd___r_Ljava_lang_String_ rfl) rfl (by decide) (Nat.le_of_ble_eq_true rfl) (by decide) (by decide) (hb hby at_140)
      obtain ⟨rfl, Nq32, q32⟩ := Q32
      replace e32 := e32.trans q32
      have N32 := Fr.app N31 Nq32
      refine own_of st32 ?_
      show own_Ends _ _ _ _ _ _ (T32.setTop (mkF m 143 #[.val (.int p1), .val (.long p2), .second, .val (.long p3), .second, .val (.long p4), .second, .val (.int p5), .val (.ref b17), .val (.ref b19), .val (.ref b21), .val (.ref b23), .val (.int (0 : Int32)), .val (.int (0 : Int32)), .val (.ref b27), .unset] [(.ref b21)]))
      refine own_of (fun tt_ kk_ => XS.aload X32.here hx rfl (hb hby at_143) rfl rfl kk_) ?_
      show own_Ends _ _ _ _ _ _ (T32.setTop (mkF m 145 #[.val (.int p1), .val (.long p2), .second, .val (.long p3), .second, .val (.long p4), .second, .val (.int p5), .val (.ref b17), .val (.ref b19), .val (.ref b21), .val (.ref b23), .val (.int (0 : Int32)), .val (.int (0 : Int32)), .val (.ref b27), .unset] [(.ref b21), (.ref b21)]))
      refine own_of (fun tt_ kk_ => Jvm.RoadKit.acmp (g := (mkF m 145 #[.val (.int p1), .val (.long p2), .second, .val (.long p3), .second, .val (.long p4), .second, .val (.int p5), .val (.ref b17), .val (.ref b19), .val (.ref b21), .val (.ref b23), .val (.int (0 : Int32)), .val (.int (0 : Int32)), .val (.ref b27), .unset] [(.ref b21), (.ref b21)])) X32 hx rfl rfl rfl (pc0 := 145) (pc' := 148) (same := true) rfl (hb hby at_145) rfl (decide_eq_true rfl) (by decide) (by decide) kk_) ?_
      show own_Ends _ _ _ _ _ _ (T32.setTop (mkF m 148 #[.val (.int p1), .val (.long p2), .second, .val (.long p3), .second, .val (.long p4), .second, .val (.int p5), .val (.ref b17), .val (.ref b19), .val (.ref b21), .val (.ref b23), .val (.int (0 : Int32)), .val (.int (0 : Int32)), .val (.ref b27), .unset] []))
      refine own_of (fun tt_ kk_ => XS.aload X32.here hx rfl (hb hby at_148) rfl rfl kk_) ?_
      show own_Ends _ _ _ _ _ _ (T32.setTop (mkF m 150 #[.val (.int p1), .val (.long p2), .second, .val (.long p3), .second, .val (.long p4), .second, .val (.int p5), .val (.ref b17), .val (.ref b19), .val (.ref b21), .val (.ref b23), .val (.int (0 : Int32)), .val (.int (0 : Int32)), .val (.ref b27), .unset] [(.ref b27)]))
      obtain ⟨v33, T33, L33, h33, X33, e33, Q33, st33⟩ := own_virtual X32 hx hZ hown e32 A27 (hw _ (List.mem_of_getElem? (i := 74) rfl)) (hw _ (List.mem_of_getElem? (i := 75) rfl)) (notFace_of_selects (args := #[]) (mvT hZ (hw _ (List.mem_of_getElem? (i := 77) rfl)))) (hw _ (List.mem_of_getElem? (i := 77) rfl)) (hw _ (List.mem_of_getElem? (i := 76) rfl)) (hw _ (List.mem_of_getElem? (i := 32) rfl)) (hw _ (List.mem_of_getElem? (i := 78) rfl)) (by decide) (argsL := []) (rest := []) (rm_subscription l Z a0 hw b27 b23 h29 n0 (Nat.le_trans Z0 K.1) F_subscription_b27) (g := (mkF m 150 #[.val (.int p1), .val (.long p2), .second, .val (.long p3), .second, .val (.long p4), .second, .val (.int p5), .val (.ref b17), .val (.ref b19), .val (.ref b21), .val (.ref b23), .val (.int (0 : Int32)), .val (.int (0 : Int32)), .val (.ref b27), .unset] [(.ref b27)])) rfl (by rw [hml]; rfl) (lenOf pd___r_Ljava_lang_String_ rfl) rfl (by decide) (Nat.le_of_ble_eq_true rfl) (by decide) (by decide) (hb hby at_150)
      obtain ⟨rfl, Nq33, q33⟩ := Q33
      replace e33 := e33.trans q33
      have N33 := Fr.app N32 Nq33
      refine own_of st33 ?_
      show own_Ends _ _ _ _ _ _ (T33.setTop (mkF m 153 #[.val (.int p1), .val (.long p2), .second, .val (.long p3), .second, .val (.long p4), .second, .val (.int p5), .val (.ref b17), .val (.ref b19), .val (.ref b21), .val (.ref b23), .val (.int (0 : Int32)), .val (.int (0 : Int32)), .val (.ref b27), .unset] [(.ref b23)]))
      refine own_of (fun tt_ kk_ => XS.aload X33.here hx rfl (hb hby at_153) rfl rfl kk_) ?_
      show own_Ends _ _ _ _ _ _ (T33.setTop (mkF m 155 #[.val (.int p1), .val (.long p2), .second, .val (.long p3), .second, .val (.long p4), .second, .val (.int p5), .val (.ref b17), .val (.ref b19), .val (.ref b21), .val (.ref b23), .val (.int (0 : Int32)), .val (.int (0 : Int32)), .val (.ref b27), .unset] [(.ref b23), (.ref b23)]))
      refine own_of (fun tt_ kk_ => Jvm.RoadKit.acmp (g := (mkF m 155 #[.val (.int p1), .val (.long p2), .second, .val (.long p3), .second, .val (.long p4), .second, .val (.int p5), .val (.ref b17), .val (.ref b19), .val (.ref b21), .val (.ref b23), .val (.int (0 : Int32)), .val (.int (0 : Int32)), .val (.ref b27), .unset] [(.ref b23), (.ref b23)])) X33 hx rfl rfl rfl (pc0 := 155) (pc' := 158) (same := true) rfl (hb hby at_155) rfl (decide_eq_true rfl) (by decide) (by decide) kk_) ?_
      show own_Ends _ _ _ _ _ _ (T33.setTop (mkF m 158 #[.val (.int p1), .val (.long p2), .second, .val (.long p3), .second, .val (.long p4), .second, .val (.int p5), .val (.ref b17), .val (.ref b19), .val (.ref b21), .val (.ref b23), .val (.int (0 : Int32)), .val (.int (0 : Int32)), .val (.ref b27), .unset] []))
      refine own_of (fun tt_ kk_ => XS.aload X33.here hx rfl (hb hby at_158) rfl rfl kk_) ?_
      show own_Ends _ _ _ _ _ _ (T33.setTop (mkF m 160 #[.val (.int p1), .val (.long p2), .second, .val (.long p3), .second, .val (.long p4), .second, .val (.int p5), .val (.ref b17), .val (.ref b19), .val (.ref b21), .val (.ref b23), .val (.int (0 : Int32)), .val (.int (0 : Int32)), .val (.ref b27), .unset] [(.ref b27)]))
      obtain ⟨v34, T34, L34, h34, X34, e34, Q34, st34⟩ := own_virtual X33 hx hZ hown e33 A27 (hw _ (List.mem_of_getElem? (i := 79) rfl)) (hw _ (List.mem_of_getElem? (i := 80) rfl)) (notFace_of_selects (args := #[]) (mvT hZ (hw _ (List.mem_of_getElem? (i := 82) rfl)))) (hw _ (List.mem_of_getElem? (i := 82) rfl)) (hw _ (List.mem_of_getElem? (i := 81) rfl)) (hw _ (List.mem_of_getElem? (i := 32) rfl)) (hw _ (List.mem_of_getElem? (i := 83) rfl)) (by decide) (argsL := []) (rest := []) (rm_message l Z a0 hw b27  h29 n0 (Nat.le_trans Z0 K.1) F_message_b27) (g := (mkF m 160 #[.val (.int p1), .val (.long p2), .second, .val (.long p3), .second, .val (.long p4), .second, .val (.int p5), .val (.ref b17), .val (.ref b19), .val (.ref b21), .val (.ref b23), .val (.int (0 : Int32)), .val (.int (0 : Int32)), .val (.ref b27), .unset] [(.ref b27)])) rfl (by rw [hml]; rfl) (lenOf pd___r_Lcom_example_libenq_libenq_engine_TopicMessageRecord_ rfl) rfl (by decide) (Nat.le_of_ble_eq_true rfl) (by decide) (by decide) (hb hby at_160)
      obtain ⟨rfl, Nq34, q34⟩ := Q34
      replace e34 := e34.trans q34
      have N34 := Fr.app N33 Nq34
      refine own_of st34 ?_
      show own_Ends _ _ _ _ _ _ (T34.setTop (mkF m 163 #[.val (.int p1), .val (.long p2), .second, .val (.long p3), .second, .val (.long p4), .second, .val (.int p5), .val (.ref b17), .val (.ref b19), .val (.ref b21), .val (.ref b23), .val (.int (0 : Int32)), .val (.int (0 : Int32)), .val (.ref b27), .unset] [.null]))
      refine own_of (fun tt_ kk_ => XS.ifnonnullNo X34.here hx rfl (hb hby at_163) rfl kk_) ?_
      show own_Ends _ _ _ _ _ _ (T34.setTop (mkF m 166 #[.val (.int p1), .val (.long p2), .second, .val (.long p3), .second, .val (.long p4), .second, .val (.int p5), .val (.ref b17), .val (.ref b19), .val (.ref b21), .val (.ref b23), .val (.int (0 : Int32)), .val (.int (0 : Int32)), .val (.ref b27), .unset] []))
      refine own_of (fun tt_ kk_ => XS.aload X34.here hx rfl (hb hby at_166) rfl rfl kk_) ?_
      show own_Ends _ _ _ _ _ _ (T34.setTop (mkF m 168 #[.val (.int p1), .val (.long p2), .second, .val (.long p3), .second, .val (.long p4), .second, .val (.int p5), .val (.ref b17), .val (.ref b19), .val (.ref b21), .val (.ref b23), .val (.int (0 : Int32)), .val (.int (0 : Int32)), .val (.ref b27), .unset] [(.ref b27)]))
      obtain ⟨v35, T35, L35, h35, X35, e35, Q35, st35⟩ := own_virtual X34 hx hZ hown e34 A27 (hw _ (List.mem_of_getElem? (i := 84) rfl)) (hw _ (List.mem_of_getElem? (i := 85) rfl)) (notFace_of_selects (args := #[]) (mvT hZ (hw _ (List.mem_of_getElem? (i := 87) rfl)))) (hw _ (List.mem_of_getElem? (i := 87) rfl)) (hw _ (List.mem_of_getElem? (i := 86) rfl)) (hw _ (List.mem_of_getElem? (i := 32) rfl)) (hw _ (List.mem_of_getElem? (i := 88) rfl)) (by decide) (argsL := []) (rest := []) (rm_cancelled l Z a0 hw b27 (0 : Int32) h29 n0 (Nat.le_trans Z0 K.1) F_cancelled_b27 rfl) (g := (mkF m 168 #[.val (.int p1), .val (.long p2), .second, .val (.long p3), .second, .val (.long p4), .second, .val (.int p5), .val (.ref b17), .val (.ref b19), .val (.ref b21), .val (.ref b23), .val (.int (0 : Int32)), .val (.int (0 : Int32)), .val (.ref b27), .unset] [(.ref b27)])) rfl (by rw [hml]; rfl) (lenOf pd___r_Z rfl) rfl (by decide) (Nat.le_of_ble_eq_true rfl) (by decide) (by decide) (hb hby at_168)
      obtain ⟨rfl, Nq35, q35⟩ := Q35
      replace e35 := e35.trans q35
      have N35 := Fr.app N34 Nq35
      refine own_of st35 ?_
      show own_Ends _ _ _ _ _ _ (T35.setTop (mkF m 171 #[.val (.int p1), .val (.long p2), .second, .val (.long p3), .second, .val (.long p4), .second, .val (.int p5), .val (.ref b17), .val (.ref b19), .val (.ref b21), .val (.ref b23), .val (.int (0 : Int32)), .val (.int (0 : Int32)), .val (.ref b27), .unset] [(.int (0 : Int32))]))
      refine own_of (fun tt_ kk_ => XS.iload X35.here hx rfl (hb hby at_171) rfl  kk_) ?_
      show own_Ends _ _ _ _ _ _ (T35.setTop (mkF m 173 #[.val (.int p1), .val (.long p2), .second, .val (.long p3), .second, .val (.long p4), .second, .val (.int p5), .val (.ref b17), .val (.ref b19), .val (.ref b21), .val (.ref b23), .val (.int (0 : Int32)), .val (.int (0 : Int32)), .val (.ref b27), .unset] [(.int (0 : Int32)), (.int (0 : Int32))]))
      refine own_of (fun tt_ kk_ => XS.icmpNo X35.here hx rfl (hb hby at_173) rfl (teq (by decide : ((0 : Int32) = (0 : Int32)))).2 kk_) ?_
      show own_Ends _ _ _ _ _ _ (T35.setTop (mkF m 176 #[.val (.int p1), .val (.long p2), .second, .val (.long p3), .second, .val (.long p4), .second, .val (.int p5), .val (.ref b17), .val (.ref b19), .val (.ref b21), .val (.ref b23), .val (.int (0 : Int32)), .val (.int (0 : Int32)), .val (.ref b27), .unset] []))
      refine own_of (fun tt_ kk_ => XS.iconst X35.here hx rfl (hb hby at_176) kk_) ?_
      show own_Ends _ _ _ _ _ _ (T35.setTop (mkF m 177 #[.val (.int p1), .val (.long p2), .second, .val (.long p3), .second, .val (.long p4), .second, .val (.int p5), .val (.ref b17), .val (.ref b19), .val (.ref b21), .val (.ref b23), .val (.int (0 : Int32)), .val (.int (0 : Int32)), .val (.ref b27), .unset] [(.int (1 : Int32))]))
      refine own_of (fun tt_ kk_ => XS.goto X35.here hx rfl (pc0 := 177) (pc' := 181) rfl (hb hby at_177) (by decide) (by decide) kk_) ?_
      show own_Ends _ _ _ _ _ _ (T35.setTop (mkF m 181 #[.val (.int p1), .val (.long p2), .second, .val (.long p3), .second, .val (.long p4), .second, .val (.int p5), .val (.ref b17), .val (.ref b19), .val (.ref b21), .val (.ref b23), .val (.int (0 : Int32)), .val (.int (0 : Int32)), .val (.ref b27), .unset] [(.int (1 : Int32))]))
      refine own_of (fun tt_ kk_ => XS.istore X35.here hx rfl (hb hby at_181) rfl (l' := #[.val (.int p1), .val (.long p2), .second, .val (.long p3), .second, .val (.long p4), .second, .val (.int p5), .val (.ref b17), .val (.ref b19), .val (.ref b21), .val (.ref b23), .val (.int (0 : Int32)), .val (.int (0 : Int32)), .val (.ref b27), .val (.int (1 : Int32))]) rfl kk_) ?_
      show own_Ends _ _ _ _ _ _ (T35.setTop (mkF m 183 #[.val (.int p1), .val (.long p2), .second, .val (.long p3), .second, .val (.long p4), .second, .val (.int p5), .val (.ref b17), .val (.ref b19), .val (.ref b21), .val (.ref b23), .val (.int (0 : Int32)), .val (.int (0 : Int32)), .val (.ref b27), .val (.int (1 : Int32))] []))
      refine own_of (fun tt_ kk_ => XS.iload X35.here hx rfl (hb hby at_183) rfl  kk_) ?_
      show own_Ends _ _ _ _ _ _ (T35.setTop (mkF m 185 #[.val (.int p1), .val (.long p2), .second, .val (.long p3), .second, .val (.long p4), .second, .val (.int p5), .val (.ref b17), .val (.ref b19), .val (.ref b21), .val (.ref b23), .val (.int (0 : Int32)), .val (.int (0 : Int32)), .val (.ref b27), .val (.int (1 : Int32))] [(.int (0 : Int32))]))
      refine own_of (fun tt_ kk_ => XS.ifYes X35.here hx rfl (pc0 := 185) (pc' := 239) rfl (hb hby at_185) rfl ((if0 _ _).trans (teq (by decide : ((0 : Int32) = (0 : Int32)))).1) (by decide) (by decide) kk_) ?_
      show own_Ends _ _ _ _ _ _ (T35.setTop (mkF m 239 #[.val (.int p1), .val (.long p2), .second, .val (.long p3), .second, .val (.long p4), .second, .val (.int p5), .val (.ref b17), .val (.ref b19), .val (.ref b21), .val (.ref b23), .val (.int (0 : Int32)), .val (.int (0 : Int32)), .val (.ref b27), .val (.int (1 : Int32))] []))
      refine own_of (fun tt_ kk_ => XS.iload X35.here hx rfl (hb hby at_239) rfl  kk_) ?_
      show own_Ends _ _ _ _ _ _ (T35.setTop (mkF m 241 #[.val (.int p1), .val (.long p2), .second, .val (.long p3), .second, .val (.long p4), .second, .val (.int p5), .val (.ref b17), .val (.ref b19), .val (.ref b21), .val (.ref b23), .val (.int (0 : Int32)), .val (.int (0 : Int32)), .val (.ref b27), .val (.int (1 : Int32))] [(.int (1 : Int32))]))
      refine own_retN X35 hx hlk e35 (t := .boolean) hret (by simp) (z' := (1 : Int32)) rfl (hb hby at_241) (by decide) (by decide) ?_
      exact ⟨rfl, N35⟩
    · refine own_of (fun tt_ kk_ => XS.ifNo X24.here hx rfl (hb hby at_75) rfl ((if0 _ _).trans (feq hc26).1) kk_) ?_
      show own_Ends _ _ _ _ _ _ (T24.setTop (mkF m 78 #[.val (.int p1), .val (.long p2), .second, .val (.long p3), .second, .val (.long p4), .second, .val (.int p5), .val (.ref b17), .val (.ref b19), .val (.ref b21), .val (.ref b23), .val (.int (0 : Int32)), .unset, .unset, .unset] []))
      refine own_of (fun tt_ kk_ => XS.iconst X24.here hx rfl (hb hby at_78) kk_) ?_
      show own_Ends _ _ _ _ _ _ (T24.setTop (mkF m 79 #[.val (.int p1), .val (.long p2), .second, .val (.long p3), .second, .val (.long p4), .second, .val (.int p5), .val (.ref b17), .val (.ref b19), .val (.ref b21), .val (.ref b23), .val (.int (0 : Int32)), .unset, .unset, .unset] [(.int (1 : Int32))]))
      refine own_of (fun tt_ kk_ => XS.goto X24.here hx rfl (pc0 := 79) (pc' := 83) rfl (hb hby at_79) (by decide) (by decide) kk_) ?_
      show own_Ends _ _ _ _ _ _ (T24.setTop (mkF m 83 #[.val (.int p1), .val (.long p2), .second, .val (.long p3), .second, .val (.long p4), .second, .val (.int p5), .val (.ref b17), .val (.ref b19), .val (.ref b21), .val (.ref b23), .val (.int (0 : Int32)), .unset, .unset, .unset] [(.int (1 : Int32))]))
      refine own_of (fun tt_ kk_ => XS.istore X24.here hx rfl (hb hby at_83) rfl (l' := #[.val (.int p1), .val (.long p2), .second, .val (.long p3), .second, .val (.long p4), .second, .val (.int p5), .val (.ref b17), .val (.ref b19), .val (.ref b21), .val (.ref b23), .val (.int (0 : Int32)), .val (.int (1 : Int32)), .unset, .unset]) rfl kk_) ?_
      show own_Ends _ _ _ _ _ _ (T24.setTop (mkF m 85 #[.val (.int p1), .val (.long p2), .second, .val (.long p3), .second, .val (.long p4), .second, .val (.int p5), .val (.ref b17), .val (.ref b19), .val (.ref b21), .val (.ref b23), .val (.int (0 : Int32)), .val (.int (1 : Int32)), .unset, .unset] []))
      obtain ⟨T36, h36, X36, e36, E36, A36, D36, -, st36⟩ := newO X24 hx hZ hown (hw _ (List.mem_of_getElem? (i := 30) rfl)) (hw _ (List.mem_of_getElem? (i := 31) rfl)) (hw _ (List.mem_of_getElem? (i := 32) rfl)) e24 (g := (mkF m 85 #[.val (.int p1), .val (.long p2), .second, .val (.long p3), .second, .val (.long p4), .second, .val (.int p5), .val (.ref b17), .val (.ref b19), .val (.ref b21), .val (.ref b23), .val (.int (0 : Int32)), .val (.int (1 : Int32)), .unset, .unset] [])) rfl (hb hby at_85) (by decide) (by decide)
      obtain ⟨b36, g36⟩ : ∃ z, z = h24.size := ⟨_, rfl⟩
      rw [← g36] at A36 D36 st36
      have ne_b17_b36 : b17 ≠ b36 := Nat.ne_of_lt (Nat.lt_of_lt_of_le V18'.lt (Nat.le_of_eq g36.symm))
      have ne_b19_b36 : b19 ≠ b36 := Nat.ne_of_lt (Nat.lt_of_lt_of_le V20'.lt (Nat.le_of_eq g36.symm))
      have ne_b21_b36 : b21 ≠ b36 := Nat.ne_of_lt (Nat.lt_of_lt_of_le Eq22.lt (Nat.le_of_eq g36.symm))
      have ne_b23_b36 : b23 ≠ b36 := Nat.ne_of_lt (Nat.lt_of_lt_of_le Eq24.lt (Nat.le_of_eq g36.symm))
      have sz_b36 : h0.size ≤ b36 := Nat.le_trans K.1 (Nat.le_of_eq g36.symm)
      have g_b36 : n0 ≤ b36 := Nat.le_trans Z0 sz_b36
      replace OL := OL.ext E36
      replace V18' := V18'.ext E36
      replace V20' := V20'.ext E36
      replace Eq22 := Eq22.ext E36
      replace Eq24 := Eq24.ext E36
      have F_topic_b36 : Fld Z h36 b36 "com/example/libenq/libenq/engine/Delivery" "topic" "Ljava/lang/String;" .null := D36 (Or.inr (hw _ (List.mem_of_getElem? (i := 38) rfl))) (ty := (.object "java/lang/String")) (by decide)
      have F_message_b36 : Fld Z h36 b36 "com/example/libenq/libenq/engine/Delivery" "message" "Lcom/example/libenq/libenq/engine/TopicMessageRecord;" .null := D36 (Or.inr (hw _ (List.mem_of_getElem? (i := 40) rfl))) (ty := (.object "com/example/libenq/libenq/engine/TopicMessageRecord")) (by decide)
      have F_subscription_b36 : Fld Z h36 b36 "com/example/libenq/libenq/engine/Delivery" "subscription" "Ljava/lang/String;" .null := D36 (Or.inr (hw _ (List.mem_of_getElem? (i := 42) rfl))) (ty := (.object "java/lang/String")) (by decide)
      have F_failedAttempts_b36 : Fld Z h36 b36 "com/example/libenq/libenq/engine/Delivery" "failedAttempts" "I" (.int (0 : Int32)) := D36 (Or.inl (hw _ (List.mem_of_getElem? (i := 44) rfl))) (ty := .int) (by decide)
      have F_nextAttemptTime_b36 : Fld Z h36 b36 "com/example/libenq/libenq/engine/Delivery" "nextAttemptTime" "J" (.long (0 : Int64)) := D36 (Or.inl (hw _ (List.mem_of_getElem? (i := 46) rfl))) (ty := .long) (by decide)
      have F_cancelled_b36 : Fld Z h36 b36 "com/example/libenq/libenq/engine/Delivery" "cancelled" "Z" (.int (0 : Int32)) := D36 (Or.inl (hw _ (List.mem_of_getElem? (i := 53) rfl))) (ty := .boolean) (by decide)
      replace K := K.ext E36
      refine own_of st36 ?_
      show own_Ends _ _ _ _ _ _ (T36.setTop (mkF m 88 #[.val (.int p1), .val (.long p2), .second, .val (.long p3), .second, .val (.long p4), .second, .val (.int p5), .val (.ref b17), .val (.ref b19), .val (.ref b21), .val (.ref b23), .val (.int (0 : Int32)), .val (.int (1 : Int32)), .unset, .unset] [(.ref b36)]))
      refine own_of (fun tt_ kk_ => XS.dup X36.here hx rfl (hb hby at_88) rfl rfl kk_) ?_
      show own_Ends _ _ _ _ _ _ (T36.setTop (mkF m 89 #[.val (.int p1), .val (.long p2), .second, .val (.long p3), .second, .val (.long p4), .second, .val (.int p5), .val (.ref b17), .val (.ref b19), .val (.ref b21), .val (.ref b23), .val (.int (0 : Int32)), .val (.int (1 : Int32)), .unset, .unset] [(.ref b36), (.ref b36)]))
      refine own_of (fun tt_ kk_ => XS.aload X36.here hx rfl (hb hby at_89) rfl rfl kk_) ?_
      show own_Ends _ _ _ _ _ _ (T36.setTop (mkF m 91 #[.val (.int p1), .val (.long p2), .second, .val (.long p3), .second, .val (.long p4), .second, .val (.int p5), .val (.ref b17), .val (.ref b19), .val (.ref b21), .val (.ref b23), .val (.int (0 : Int32)), .val (.int (1 : Int32)), .unset, .unset] [(.ref b21), (.ref b36), (.ref b36)]))
      refine own_of (fun tt_ kk_ => XS.aconstNull X36.here hx rfl (hb hby at_91) kk_) ?_
      show own_Ends _ _ _ _ _ _ (T36.setTop (mkF m 92 #[.val (.int p1), .val (.long p2), .second, .val (.long p3), .second, .val (.long p4), .second, .val (.int p5), .val (.ref b17), .val (.ref b19), .val (.ref b21), .val (.ref b23), .val (.int (0 : Int32)), .val (.int (1 : Int32)), .unset, .unset] [.null, (.ref b21), (.ref b36), (.ref b36)]))
      refine own_of (fun tt_ kk_ => XS.aload X36.here hx rfl (hb hby at_92) rfl rfl kk_) ?_
      show own_Ends _ _ _ _ _ _ (T36.setTop (mkF m 94 #[.val (.int p1), .val (.long p2), .second, .val (.long p3), .second, .val (.long p4), .second, .val (.int p5), .val (.ref b17), .val (.ref b19), .val (.ref b21), .val (.ref b23), .val (.int (0 : Int32)), .val (.int (1 : Int32)), .unset, .unset] [(.ref b23), .null, (.ref b21), (.ref b36), (.ref b36)]))
      refine own_of (fun tt_ kk_ => XS.iloadN X36.here hx rfl (hb hby at_94) rfl  kk_) ?_
      show own_Ends _ _ _ _ _ _ (T36.setTop (mkF m 95 #[.val (.int p1), .val (.long p2), .second, .val (.long p3), .second, .val (.long p4), .second, .val (.int p5), .val (.ref b17), .val (.ref b19), .val (.ref b21), .val (.ref b23), .val (.int (0 : Int32)), .val (.int (1 : Int32)), .unset, .unset] [(.int p1), (.ref b23), .null, (.ref b21), (.ref b36), (.ref b36)]))
      refine own_of (fun tt_ kk_ => XS.lloadN X36.here hx rfl (hb hby at_95) rfl  kk_) ?_
      show own_Ends _ _ _ _ _ _ (T36.setTop (mkF m 96 #[.val (.int p1), .val (.long p2), .second, .val (.long p3), .second, .val (.long p4), .second, .val (.int p5), .val (.ref b17), .val (.ref b19), .val (.ref b21), .val (.ref b23), .val (.int (0 : Int32)), .val (.int (1 : Int32)), .unset, .unset] [(.long p2), (.int p1), (.ref b23), .null, (.ref b21), (.ref b36), (.ref b36)]))
      obtain ⟨v37, T37, L37, h37, X37, e37, Q37, st37⟩ := own_special X36 hx hZ hown e36 (b := b36) rfl (hw _ (List.mem_of_getElem? (i := 33) rfl)) (hw _ (List.mem_of_getElem? (i := 34) rfl)) (hw _ (List.mem_of_getElem? (i := 32) rfl)) (hw _ (List.mem_of_getElem? (i := 35) rfl)) (by decide) (argsL := [(.ref b21), .null, (.ref b23), (.int p1), (.long p2)]) (rest := [(.ref b36)]) (rm_init l Z a0 hw b36 b21 b23 p1 p2 h36 n0 (Nat.le_trans Z0 K.1) A36 F_topic_b36 F_message_b36 F_subscription_b36 F_failedAttempts_b36 F_nextAttemptTime_b36 F_cancelled_b36 g_b36) (g := (mkF m 96 #[.val (.int p1), .val (.long p2), .second, .val (.long p3), .second, .val (.long p4), .second, .val (.int p5), .val (.ref b17), .val (.ref b19), .val (.ref b21), .val (.ref b23), .val (.int (0 : Int32)), .val (.int (1 : Int32)), .unset, .unset] [(.long p2), (.int p1), (.ref b23), .null, (.ref b21), (.ref b36), (.ref b36)])) rfl (by rw [hml]; rfl) (lenOf pd__Ljava_lang_String_Lcom_example_libenq_libenq_engine_TopicMessageRecord_Ljava_lang_String_IJ_r_V rfl) rfl (by decide) (Nat.le_of_ble_eq_true rfl) (by decide) (by decide) (hb hby at_96)
      obtain ⟨rfl, Nq37, Kq37, A36', F_topic_b36', F_message_b36', F_subscription_b36', F_failedAttempts_b36', F_nextAttemptTime_b36', F_cancelled_b36'⟩ := Q37
      replace OL := OL.keep Kq37 (allS g_b36 all0)
      replace V18' := V18'.keep Kq37 (ninS ne_b17_b36 nin0)
      replace V20' := V20'.keep Kq37 (ninS ne_b19_b36 nin0)
      replace Eq22 := Eq22.keep Kq37
      replace Eq24 := Eq24.keep Kq37
      replace A36 := A36.keep Kq37
      clear A36
      have A36 := A36'
      have F_topic_b36 := F_topic_b36'
      have F_message_b36 := F_message_b36'
      have F_subscription_b36 := F_subscription_b36'
      have F_failedAttempts_b36 := F_failedAttempts_b36'
      have F_nextAttemptTime_b36 := F_nextAttemptTime_b36'
      have F_cancelled_b36 := F_cancelled_b36'
      replace K := K.trans Kq37 (allS (Or.inr sz_b36) all0)
      have N37 := Fr.app N24 Nq37
      refine own_of st37 ?_
      show own_Ends _ _ _ _ _ _ (T37.setTop (mkF m 99 #[.val (.int p1), .val (.long p2), .second, .val (.long p3), .second, .val (.long p4), .second, .val (.int p5), .val (.ref b17), .val (.ref b19), .val (.ref b21), .val (.ref b23), .val (.int (0 : Int32)), .val (.int (1 : Int32)), .unset, .unset] [(.ref b36)]))
      refine own_of (fun tt_ kk_ => XS.astore X37.here hx rfl (hb hby at_99) rfl rfl (l' := #[.val (.int p1), .val (.long p2), .second, .val (.long p3), .second, .val (.long p4), .second, .val (.int p5), .val (.ref b17), .val (.ref b19), .val (.ref b21), .val (.ref b23), .val (.int (0 : Int32)), .val (.int (1 : Int32)), .val (.ref b36), .unset]) rfl kk_) ?_
      show own_Ends _ _ _ _ _ _ (T37.setTop (mkF m 101 #[.val (.int p1), .val (.long p2), .second, .val (.long p3), .second, .val (.long p4), .second, .val (.int p5), .val (.ref b17), .val (.ref b19), .val (.ref b21), .val (.ref b23), .val (.int (0 : Int32)), .val (.int (1 : Int32)), .val (.ref b36), .unset] []))
      refine own_of (fun tt_ kk_ => XS.iload X37.here hx rfl (hb hby at_101) rfl  kk_) ?_
      show own_Ends _ _ _ _ _ _ (T37.setTop (mkF m 103 #[.val (.int p1), .val (.long p2), .second, .val (.long p3), .second, .val (.long p4), .second, .val (.int p5), .val (.ref b17), .val (.ref b19), .val (.ref b21), .val (.ref b23), .val (.int (0 : Int32)), .val (.int (1 : Int32)), .val (.ref b36), .unset] [(.int (0 : Int32))]))
      refine own_of (fun tt_ kk_ => XS.ifYes X37.here hx rfl (pc0 := 103) (pc' := 111) rfl (hb hby at_103) rfl ((if0 _ _).trans (teq (by decide : ((0 : Int32) = (0 : Int32)))).1) (by decide) (by decide) kk_) ?_
      show own_Ends _ _ _ _ _ _ (T37.setTop (mkF m 111 #[.val (.int p1), .val (.long p2), .second, .val (.long p3), .second, .val (.long p4), .second, .val (.int p5), .val (.ref b17), .val (.ref b19), .val (.ref b21), .val (.ref b23), .val (.int (0 : Int32)), .val (.int (1 : Int32)), .val (.ref b36), .unset] []))
      refine own_of (fun tt_ kk_ => XS.aload X37.here hx rfl (hb hby at_111) rfl rfl kk_) ?_
      show own_Ends _ _ _ _ _ _ (T37.setTop (mkF m 113 #[.val (.int p1), .val (.long p2), .second, .val (.long p3), .second, .val (.long p4), .second, .val (.int p5), .val (.ref b17), .val (.ref b19), .val (.ref b21), .val (.ref b23), .val (.int (0 : Int32)), .val (.int (1 : Int32)), .val (.ref b36), .unset] [(.ref b36)]))
      refine own_of (fun tt_ kk_ => XS.lloadN X37.here hx rfl (hb hby at_113) rfl  kk_) ?_
      show own_Ends _ _ _ _ _ _ (T37.setTop (mkF m 114 #[.val (.int p1), .val (.long p2), .second, .val (.long p3), .second, .val (.long p4), .second, .val (.int p5), .val (.ref b17), .val (.ref b19), .val (.ref b21), .val (.ref b23), .val (.int (0 : Int32)), .val (.int (1 : Int32)), .val (.ref b36), .unset] [(.long p3), (.ref b36)]))
      obtain ⟨v38, T38, L38, h38, X38, e38, Q38, st38⟩ := own_virtual X37 hx hZ hown e37 A36 (hw _ (List.mem_of_getElem? (i := 54) rfl)) (hw _ (List.mem_of_getElem? (i := 55) rfl)) (notFace_of_selects (args := #[]) (mvT hZ (hw _ (List.mem_of_getElem? (i := 57) rfl)))) (hw _ (List.mem_of_getElem? (i := 57) rfl)) (hw _ (List.mem_of_getElem? (i := 56) rfl)) (hw _ (List.mem_of_getElem? (i := 32) rfl)) (hw _ (List.mem_of_getElem? (i := 58) rfl)) (by decide) (argsL := [(.long p3)]) (rest := []) (rm_failed l Z a0 hw b36 b21 b23 p1 p2 p3 (0 : Int32) h37 n0 (Nat.le_trans Z0 K.1) A36 F_topic_b36 F_message_b36 F_subscription_b36 F_failedAttempts_b36 F_nextAttemptTime_b36 F_cancelled_b36 g_b36) (g := (mkF m 114 #[.val (.int p1), .val (.long p2), .second, .val (.long p3), .second, .val (.long p4), .second, .val (.int p5), .val (.ref b17), .val (.ref b19), .val (.ref b21), .val (.ref b23), .val (.int (0 : Int32)), .val (.int (1 : Int32)), .val (.ref b36), .unset] [(.long p3), (.ref b36)])) rfl (by rw [hml]; rfl) (lenOf pd__J_r_V rfl) rfl (by decide) (Nat.le_of_ble_eq_true rfl) (by decide) (by decide) (hb hby at_114)
      obtain ⟨rfl, Nq38, Kq38, A36', F_topic_b36', F_message_b36', F_subscription_b36', F_failedAttempts_b36', F_nextAttemptTime_b36', F_cancelled_b36'⟩ := Q38
      replace OL := OL.keep Kq38 (allS g_b36 all0)
      replace V18' := V18'.keep Kq38 (ninS ne_b17_b36 nin0)
      replace V20' := V20'.keep Kq38 (ninS ne_b19_b36 nin0)
      replace Eq22 := Eq22.keep Kq38
      replace Eq24 := Eq24.keep Kq38
      replace A36 := A36.keep Kq38
      clear A36
      have A36 := A36'
      have F_topic_b36 := F_topic_b36'
      have F_message_b36 := F_message_b36'
      have F_subscription_b36 := F_subscription_b36'
      have F_failedAttempts_b36 := F_failedAttempts_b36'
      have F_nextAttemptTime_b36 := F_nextAttemptTime_b36'
      have F_cancelled_b36 := F_cancelled_b36'
      replace K := K.trans Kq38 (allS (Or.inr sz_b36) all0)
      have N38 := Fr.app N37 Nq38
      refine own_of st38 ?_
      show own_Ends _ _ _ _ _ _ (T38.setTop (mkF m 117 #[.val (.int p1), .val (.long p2), .second, .val (.long p3), .second, .val (.long p4), .second, .val (.int p5), .val (.ref b17), .val (.ref b19), .val (.ref b21), .val (.ref b23), .val (.int (0 : Int32)), .val (.int (1 : Int32)), .val (.ref b36), .unset] []))
      refine own_of (fun tt_ kk_ => XS.aload X38.here hx rfl (hb hby at_117) rfl rfl kk_) ?_
      show own_Ends _ _ _ _ _ _ (T38.setTop (mkF m 119 #[.val (.int p1), .val (.long p2), .second, .val (.long p3), .second, .val (.long p4), .second, .val (.int p5), .val (.ref b17), .val (.ref b19), .val (.ref b21), .val (.ref b23), .val (.int (0 : Int32)), .val (.int (1 : Int32)), .val (.ref b36), .unset] [(.ref b36)]))
      obtain ⟨v39, T39, L39, h39, X39, e39, Q39, st39⟩ := own_virtual X38 hx hZ hown e38 A36 (hw _ (List.mem_of_getElem? (i := 59) rfl)) (hw _ (List.mem_of_getElem? (i := 60) rfl)) (notFace_of_selects (args := #[]) (mvT hZ (hw _ (List.mem_of_getElem? (i := 62) rfl)))) (hw _ (List.mem_of_getElem? (i := 62) rfl)) (hw _ (List.mem_of_getElem? (i := 61) rfl)) (hw _ (List.mem_of_getElem? (i := 32) rfl)) (hw _ (List.mem_of_getElem? (i := 63) rfl)) (by decide) (argsL := []) (rest := []) (rm_failedAttempts l Z a0 hw b36 (p1 + (1 : Int32)) h38 n0 (Nat.le_trans Z0 K.1) F_failedAttempts_b36) (g := (mkF m 119 #[.val (.int p1), .val (.long p2), .second, .val (.long p3), .second, .val (.long p4), .second, .val (.int p5), .val (.ref b17), .val (.ref b19), .val (.ref b21), .val (.ref b23), .val (.int (0 : Int32)), .val (.int (1 : Int32)), .val (.ref b36), .unset] [(.ref b36)])) rfl (by rw [hml]; rfl) (lenOf pd___r_I rfl) rfl (by decide) (Nat.le_of_ble_eq_true rfl) (by decide) (by decide) (hb hby at_119)
      obtain ⟨rfl, Nq39, q39⟩ := Q39
      replace e39 := e39.trans q39
      have N39 := Fr.app N38 Nq39
      refine own_of st39 ?_
      show own_Ends _ _ _ _ _ _ (T39.setTop (mkF m 122 #[.val (.int p1), .val (.long p2), .second, .val (.long p3), .second, .val (.long p4), .second, .val (.int p5), .val (.ref b17), .val (.ref b19), .val (.ref b21), .val (.ref b23), .val (.int (0 : Int32)), .val (.int (1 : Int32)), .val (.ref b36), .unset] [(.int (p1 + (1 : Int32)))]))
      refine own_of (fun tt_ kk_ => XS.iloadN X39.here hx rfl (hb hby at_122) rfl  kk_) ?_
      show own_Ends _ _ _ _ _ _ (T39.setTop (mkF m 123 #[.val (.int p1), .val (.long p2), .second, .val (.long p3), .second, .val (.long p4), .second, .val (.int p5), .val (.ref b17), .val (.ref b19), .val (.ref b21), .val (.ref b23), .val (.int (0 : Int32)), .val (.int (1 : Int32)), .val (.ref b36), .unset] [(.int p1), (.int (p1 + (1 : Int32)))]))
      refine own_of (fun tt_ kk_ => XS.iconst X39.here hx rfl (hb hby at_123) kk_) ?_
      show own_Ends _ _ _ _ _ _ (T39.setTop (mkF m 124 #[.val (.int p1), .val (.long p2), .second, .val (.long p3), .second, .val (.long p4), .second, .val (.int p5), .val (.ref b17), .val (.ref b19), .val (.ref b21), .val (.ref b23), .val (.int (0 : Int32)), .val (.int (1 : Int32)), .val (.ref b36), .unset] [(.int (1 : Int32)), (.int p1), (.int (p1 + (1 : Int32)))]))
      refine own_of (fun tt_ kk_ => XS.iadd X39.here hx rfl (hb hby at_124) rfl kk_) ?_
      show own_Ends _ _ _ _ _ _ (T39.setTop (mkF m 125 #[.val (.int p1), .val (.long p2), .second, .val (.long p3), .second, .val (.long p4), .second, .val (.int p5), .val (.ref b17), .val (.ref b19), .val (.ref b21), .val (.ref b23), .val (.int (0 : Int32)), .val (.int (1 : Int32)), .val (.ref b36), .unset] [(.int (p1 + (1 : Int32))), (.int (p1 + (1 : Int32)))]))
      refine own_of (fun tt_ kk_ => XS.icmpNo X39.here hx rfl (hb hby at_125) rfl (teq (rfl : (p1 + (1 : Int32)) = (p1 + (1 : Int32)))).2 kk_) ?_
      show own_Ends _ _ _ _ _ _ (T39.setTop (mkF m 128 #[.val (.int p1), .val (.long p2), .second, .val (.long p3), .second, .val (.long p4), .second, .val (.int p5), .val (.ref b17), .val (.ref b19), .val (.ref b21), .val (.ref b23), .val (.int (0 : Int32)), .val (.int (1 : Int32)), .val (.ref b36), .unset] []))
      refine own_of (fun tt_ kk_ => XS.aload X39.here hx rfl (hb hby at_128) rfl rfl kk_) ?_
      show own_Ends _ _ _ _ _ _ (T39.setTop (mkF m 130 #[.val (.int p1), .val (.long p2), .second, .val (.long p3), .second, .val (.long p4), .second, .val (.int p5), .val (.ref b17), .val (.ref b19), .val (.ref b21), .val (.ref b23), .val (.int (0 : Int32)), .val (.int (1 : Int32)), .val (.ref b36), .unset] [(.ref b36)]))
      obtain ⟨v40, T40, L40, h40, X40, e40, Q40, st40⟩ := own_virtual X39 hx hZ hown e39 A36 (hw _ (List.mem_of_getElem? (i := 64) rfl)) (hw _ (List.mem_of_getElem? (i := 65) rfl)) (notFace_of_selects (args := #[]) (mvT hZ (hw _ (List.mem_of_getElem? (i := 67) rfl)))) (hw _ (List.mem_of_getElem? (i := 67) rfl)) (hw _ (List.mem_of_getElem? (i := 66) rfl)) (hw _ (List.mem_of_getElem? (i := 32) rfl)) (hw _ (List.mem_of_getElem? (i := 68) rfl)) (by decide) (argsL := []) (rest := []) (rm_nextAttemptTime l Z a0 hw b36 p3 h38 n0 (Nat.le_trans Z0 K.1) F_nextAttemptTime_b36) (g := (mkF m 130 #[.val (.int p1), .val (.long p2), .second, .val (.long p3), .second, .val (.long p4), .second, .val (.int p5), .val (.ref b17), .val (.ref b19), .val (.ref b21), .val (.ref b23), .val (.int (0 : Int32)), .val (.int (1 : Int32)), .val (.ref b36), .unset] [(.ref b36)])) rfl (by rw [hml]; rfl) (lenOf pd___r_J rfl) rfl (by decide) (Nat.le_of_ble_eq_true rfl) (by decide) (by decide) (hb hby at_130)
      obtain ⟨rfl, Nq40, q40⟩ := Q40
      replace e40 := e40.trans q40
      have N40 := Fr.app N39 Nq40
      refine own_of st40 ?_
      show own_Ends _ _ _ _ _ _ (T40.setTop (mkF m 133 #[.val (.int p1), .val (.long p2), .second, .val (.long p3), .second, .val (.long p4), .second, .val (.int p5), .val (.ref b17), .val (.ref b19), .val (.ref b21), .val (.ref b23), .val (.int (0 : Int32)), .val (.int (1 : Int32)), .val (.ref b36), .unset] [(.long p3)]))
      refine own_of (fun tt_ kk_ => XS.lloadN X40.here hx rfl (hb hby at_133) rfl  kk_) ?_
      show own_Ends _ _ _ _ _ _ (T40.setTop (mkF m 134 #[.val (.int p1), .val (.long p2), .second, .val (.long p3), .second, .val (.long p4), .second, .val (.int p5), .val (.ref b17), .val (.ref b19), .val (.ref b21), .val (.ref b23), .val (.int (0 : Int32)), .val (.int (1 : Int32)), .val (.ref b36), .unset] [(.long p3), (.long p3)]))
      refine own_of (fun tt_ kk_ => XS.lcmp X40.here hx rfl (hb hby at_134) rfl kk_) ?_
      show own_Ends _ _ _ _ _ _ (T40.setTop (mkF m 135 #[.val (.int p1), .val (.long p2), .second, .val (.long p3), .second, .val (.long p4), .second, .val (.int p5), .val (.ref b17), .val (.ref b19), .val (.ref b21), .val (.ref b23), .val (.int (0 : Int32)), .val (.int (1 : Int32)), .val (.ref b36), .unset] [(.int (lcmpW p3 p3))]))
      refine own_of (fun tt_ kk_ => XS.ifNo X40.here hx rfl (hb hby at_135) rfl ((if0 _ _).trans (teq ((lw_eq _ _).mpr rfl)).2) kk_) ?_
      show own_Ends _ _ _ _ _ _ (T40.setTop (mkF m 138 #[.val (.int p1), .val (.long p2), .second, .val (.long p3), .second, .val (.long p4), .second, .val (.int p5), .val (.ref b17), .val (.ref b19), .val (.ref b21), .val (.ref b23), .val (.int (0 : Int32)), .val (.int (1 : Int32)), .val (.ref b36), .unset] []))
      refine own_of (fun tt_ kk_ => XS.aload X40.here hx rfl (hb hby at_138) rfl rfl kk_) ?_
      show own_Ends _ _ _ _ _ _ (T40.setTop (mkF m 140 #[.val (.int p1), .val (.long p2), .second, .val (.long p3), .second, .val (.long p4), .second, .val (.int p5), .val (.ref b17), .val (.ref b19), .val (.ref b21), .val (.ref b23), .val (.int (0 : Int32)), .val (.int (1 : Int32)), .val (.ref b36), .unset] [(.ref b36)]))
      obtain ⟨v41, T41, L41, h41, X41, e41, Q41, st41⟩ := own_virtual X40 hx hZ hown e40 A36 (hw _ (List.mem_of_getElem? (i := 69) rfl)) (hw _ (List.mem_of_getElem? (i := 70) rfl)) (notFace_of_selects (args := #[]) (mvT hZ (hw _ (List.mem_of_getElem? (i := 72) rfl)))) (hw _ (List.mem_of_getElem? (i := 72) rfl)) (hw _ (List.mem_of_getElem? (i := 71) rfl)) (hw _ (List.mem_of_getElem? (i := 32) rfl)) (hw _ (List.mem_of_getElem? (i := 73) rfl)) (by decide) (argsL := []) (rest := []) (rm_topic l Z a0 hw b36 b21 h38 n0 (Nat.le_trans Z0 K.1) F_topic_b36) (g := (mkF m 140 #[.val (.int p1), .val (.long p2), .second, .val (.long p3), .second, .val (.long p4), .second, .val (.int p5), .val (.ref b17), .val (.ref b19), .val (.ref b21), .val (.ref b23), .val (.int (0 : Int32)), .val (.int (1 : Int32)), .val (.ref b36), .unset] [(.ref b36)])) rfl (by rw [hml]; rfl) (lenOf pd___r_Ljava_lang_String_ rfl) rfl (by decide) (Nat.le_of_ble_eq_true rfl) (by decide) (by decide) (hb hby at_140)
      obtain ⟨rfl, Nq41, q41⟩ := Q41
      replace e41 := e41.trans q41
      have N41 := Fr.app N40 Nq41
      refine own_of st41 ?_
      show own_Ends _ _ _ _ _ _ (T41.setTop (mkF m 143 #[.val (.int p1), .val (.long p2), .second, .val (.long p3), .second, .val (.long p4), .second, .val (.int p5), .val (.ref b17), .val (.ref b19), .val (.ref b21), .val (.ref b23), .val (.int (0 : Int32)), .val (.int (1 : Int32)), .val (.ref b36), .unset] [(.ref b21)]))
      refine own_of (fun tt_ kk_ => XS.aload X41.here hx rfl (hb hby at_143) rfl rfl kk_) ?_
      show own_Ends _ _ _ _ _ _ (T41.setTop (mkF m 145 #[.val (.int p1), .val (.long p2), .second, .val (.long p3), .second, .val (.long p4), .second, .val (.int p5), .val (.ref b17), .val (.ref b19), .val (.ref b21), .val (.ref b23), .val (.int (0 : Int32)), .val (.int (1 : Int32)), .val (.ref b36), .unset] [(.ref b21), (.ref b21)]))
      refine own_of (fun tt_ kk_ => Jvm.RoadKit.acmp (g := (mkF m 145 #[.val (.int p1), .val (.long p2), .second, .val (.long p3), .second, .val (.long p4), .second, .val (.int p5), .val (.ref b17), .val (.ref b19), .val (.ref b21), .val (.ref b23), .val (.int (0 : Int32)), .val (.int (1 : Int32)), .val (.ref b36), .unset] [(.ref b21), (.ref b21)])) X41 hx rfl rfl rfl (pc0 := 145) (pc' := 148) (same := true) rfl (hb hby at_145) rfl (decide_eq_true rfl) (by decide) (by decide) kk_) ?_
      show own_Ends _ _ _ _ _ _ (T41.setTop (mkF m 148 #[.val (.int p1), .val (.long p2), .second, .val (.long p3), .second, .val (.long p4), .second, .val (.int p5), .val (.ref b17), .val (.ref b19), .val (.ref b21), .val (.ref b23), .val (.int (0 : Int32)), .val (.int (1 : Int32)), .val (.ref b36), .unset] []))
      refine own_of (fun tt_ kk_ => XS.aload X41.here hx rfl (hb hby at_148) rfl rfl kk_) ?_
      show own_Ends _ _ _ _ _ _ (T41.setTop (mkF m 150 #[.val (.int p1), .val (.long p2), .second, .val (.long p3), .second, .val (.long p4), .second, .val (.int p5), .val (.ref b17), .val (.ref b19), .val (.ref b21), .val (.ref b23), .val (.int (0 : Int32)), .val (.int (1 : Int32)), .val (.ref b36), .unset] [(.ref b36)]))
      obtain ⟨v42, T42, L42, h42, X42, e42, Q42, st42⟩ := own_virtual X41 hx hZ hown e41 A36 (hw _ (List.mem_of_getElem? (i := 74) rfl)) (hw _ (List.mem_of_getElem? (i := 75) rfl)) (notFace_of_selects (args := #[]) (mvT hZ (hw _ (List.mem_of_getElem? (i := 77) rfl)))) (hw _ (List.mem_of_getElem? (i := 77) rfl)) (hw _ (List.mem_of_getElem? (i := 76) rfl)) (hw _ (List.mem_of_getElem? (i := 32) rfl)) (hw _ (List.mem_of_getElem? (i := 78) rfl)) (by decide) (argsL := []) (rest := []) (rm_subscription l Z a0 hw b36 b23 h38 n0 (Nat.le_trans Z0 K.1) F_subscription_b36) (g := (mkF m 150 #[.val (.int p1), .val (.long p2), .second, .val (.long p3), .second, .val (.long p4), .second, .val (.int p5), .val (.ref b17), .val (.ref b19), .val (.ref b21), .val (.ref b23), .val (.int (0 : Int32)), .val (.int (1 : Int32)), .val (.ref b36), .unset] [(.ref b36)])) rfl (by rw [hml]; rfl) (lenOf pd___r_Ljava_lang_String_ rfl) rfl (by decide) (Nat.le_of_ble_eq_true rfl) (by decide) (by decide) (hb hby at_150)
      obtain ⟨rfl, Nq42, q42⟩ := Q42
      replace e42 := e42.trans q42
      have N42 := Fr.app N41 Nq42
      refine own_of st42 ?_
      show own_Ends _ _ _ _ _ _ (T42.setTop (mkF m 153 #[.val (.int p1), .val (.long p2), .second, .val (.long p3), .second, .val (.long p4), .second, .val (.int p5), .val (.ref b17), .val (.ref b19), .val (.ref b21), .val (.ref b23), .val (.int (0 : Int32)), .val (.int (1 : Int32)), .val (.ref b36), .unset] [(.ref b23)]))
      refine own_of (fun tt_ kk_ => XS.aload X42.here hx rfl (hb hby at_153) rfl rfl kk_) ?_
      show own_Ends _ _ _ _ _ _ (T42.setTop (mkF m 155 #[.val (.int p1), .val (.long p2), .second, .val (.long p3), .second, .val (.long p4), .second, .val (.int p5), .val (.ref b17), .val (.ref b19), .val (.ref b21), .val (.ref b23), .val (.int (0 : Int32)), .val (.int (1 : Int32)), .val (.ref b36), .unset] [(.ref b23), (.ref b23)]))
      refine own_of (fun tt_ kk_ => Jvm.RoadKit.acmp (g := (mkF m 155 #[.val (.int p1), .val (.long p2), .second, .val (.long p3), .second, .val (.long p4), .second, .val (.int p5), .val (.ref b17), .val (.ref b19), .val (.ref b21), .val (.ref b23), .val (.int (0 : Int32)), .val (.int (1 : Int32)), .val (.ref b36), .unset] [(.ref b23), (.ref b23)])) X42 hx rfl rfl rfl (pc0 := 155) (pc' := 158) (same := true) rfl (hb hby at_155) rfl (decide_eq_true rfl) (by decide) (by decide) kk_) ?_
      show own_Ends _ _ _ _ _ _ (T42.setTop (mkF m 158 #[.val (.int p1), .val (.long p2), .second, .val (.long p3), .second, .val (.long p4), .second, .val (.int p5), .val (.ref b17), .val (.ref b19), .val (.ref b21), .val (.ref b23), .val (.int (0 : Int32)), .val (.int (1 : Int32)), .val (.ref b36), .unset] []))
      refine own_of (fun tt_ kk_ => XS.aload X42.here hx rfl (hb hby at_158) rfl rfl kk_) ?_
      show own_Ends _ _ _ _ _ _ (T42.setTop (mkF m 160 #[.val (.int p1), .val (.long p2), .second, .val (.long p3), .second, .val (.long p4), .second, .val (.int p5), .val (.ref b17), .val (.ref b19), .val (.ref b21), .val (.ref b23), .val (.int (0 : Int32)), .val (.int (1 : Int32)), .val (.ref b36), .unset] [(.ref b36)]))
      obtain ⟨v43, T43, L43, h43, X43, e43, Q43, st43⟩ := own_virtual X42 hx hZ hown e42 A36 (hw _ (List.mem_of_getElem? (i := 79) rfl)) (hw _ (List.mem_of_getElem? (i := 80) rfl)) (notFace_of_selects (args := #[]) (mvT hZ (hw _ (List.mem_of_getElem? (i := 82) rfl)))) (hw _ (List.mem_of_getElem? (i := 82) rfl)) (hw _ (List.mem_of_getElem? (i := 81) rfl)) (hw _ (List.mem_of_getElem? (i := 32) rfl)) (hw _ (List.mem_of_getElem? (i := 83) rfl)) (by decide) (argsL := []) (rest := []) (rm_message l Z a0 hw b36  h38 n0 (Nat.le_trans Z0 K.1) F_message_b36) (g := (mkF m 160 #[.val (.int p1), .val (.long p2), .second, .val (.long p3), .second, .val (.long p4), .second, .val (.int p5), .val (.ref b17), .val (.ref b19), .val (.ref b21), .val (.ref b23), .val (.int (0 : Int32)), .val (.int (1 : Int32)), .val (.ref b36), .unset] [(.ref b36)])) rfl (by rw [hml]; rfl) (lenOf pd___r_Lcom_example_libenq_libenq_engine_TopicMessageRecord_ rfl) rfl (by decide) (Nat.le_of_ble_eq_true rfl) (by decide) (by decide) (hb hby at_160)
      obtain ⟨rfl, Nq43, q43⟩ := Q43
      replace e43 := e43.trans q43
      have N43 := Fr.app N42 Nq43
      refine own_of st43 ?_
      show own_Ends _ _ _ _ _ _ (T43.setTop (mkF m 163 #[.val (.int p1), .val (.long p2), .second, .val (.long p3), .second, .val (.long p4), .second, .val (.int p5), .val (.ref b17), .val (.ref b19), .val (.ref b21), .val (.ref b23), .val (.int (0 : Int32)), .val (.int (1 : Int32)), .val (.ref b36), .unset] [.null]))
      refine own_of (fun tt_ kk_ => XS.ifnonnullNo X43.here hx rfl (hb hby at_163) rfl kk_) ?_
      show own_Ends _ _ _ _ _ _ (T43.setTop (mkF m 166 #[.val (.int p1), .val (.long p2), .second, .val (.long p3), .second, .val (.long p4), .second, .val (.int p5), .val (.ref b17), .val (.ref b19), .val (.ref b21), .val (.ref b23), .val (.int (0 : Int32)), .val (.int (1 : Int32)), .val (.ref b36), .unset] []))
      refine own_of (fun tt_ kk_ => XS.aload X43.here hx rfl (hb hby at_166) rfl rfl kk_) ?_
      show own_Ends _ _ _ _ _ _ (T43.setTop (mkF m 168 #[.val (.int p1), .val (.long p2), .second, .val (.long p3), .second, .val (.long p4), .second, .val (.int p5), .val (.ref b17), .val (.ref b19), .val (.ref b21), .val (.ref b23), .val (.int (0 : Int32)), .val (.int (1 : Int32)), .val (.ref b36), .unset] [(.ref b36)]))
      obtain ⟨v44, T44, L44, h44, X44, e44, Q44, st44⟩ := own_virtual X43 hx hZ hown e43 A36 (hw _ (List.mem_of_getElem? (i := 84) rfl)) (hw _ (List.mem_of_getElem? (i := 85) rfl)) (notFace_of_selects (args := #[]) (mvT hZ (hw _ (List.mem_of_getElem? (i := 87) rfl)))) (hw _ (List.mem_of_getElem? (i := 87) rfl)) (hw _ (List.mem_of_getElem? (i := 86) rfl)) (hw _ (List.mem_of_getElem? (i := 32) rfl)) (hw _ (List.mem_of_getElem? (i := 88) rfl)) (by decide) (argsL := []) (rest := []) (rm_cancelled l Z a0 hw b36 (0 : Int32) h38 n0 (Nat.le_trans Z0 K.1) F_cancelled_b36 rfl) (g := (mkF m 168 #[.val (.int p1), .val (.long p2), .second, .val (.long p3), .second, .val (.long p4), .second, .val (.int p5), .val (.ref b17), .val (.ref b19), .val (.ref b21), .val (.ref b23), .val (.int (0 : Int32)), .val (.int (1 : Int32)), .val (.ref b36), .unset] [(.ref b36)])) rfl (by rw [hml]; rfl) (lenOf pd___r_Z rfl) rfl (by decide) (Nat.le_of_ble_eq_true rfl) (by decide) (by decide) (hb hby at_168)
      obtain ⟨rfl, Nq44, q44⟩ := Q44
      replace e44 := e44.trans q44
      have N44 := Fr.app N43 Nq44
      refine own_of st44 ?_
      show own_Ends _ _ _ _ _ _ (T44.setTop (mkF m 171 #[.val (.int p1), .val (.long p2), .second, .val (.long p3), .second, .val (.long p4), .second, .val (.int p5), .val (.ref b17), .val (.ref b19), .val (.ref b21), .val (.ref b23), .val (.int (0 : Int32)), .val (.int (1 : Int32)), .val (.ref b36), .unset] [(.int (0 : Int32))]))
      refine own_of (fun tt_ kk_ => XS.iload X44.here hx rfl (hb hby at_171) rfl  kk_) ?_
      show own_Ends _ _ _ _ _ _ (T44.setTop (mkF m 173 #[.val (.int p1), .val (.long p2), .second, .val (.long p3), .second, .val (.long p4), .second, .val (.int p5), .val (.ref b17), .val (.ref b19), .val (.ref b21), .val (.ref b23), .val (.int (0 : Int32)), .val (.int (1 : Int32)), .val (.ref b36), .unset] [(.int (0 : Int32)), (.int (0 : Int32))]))
      refine own_of (fun tt_ kk_ => XS.icmpNo X44.here hx rfl (hb hby at_173) rfl (teq (by decide : ((0 : Int32) = (0 : Int32)))).2 kk_) ?_
      show own_Ends _ _ _ _ _ _ (T44.setTop (mkF m 176 #[.val (.int p1), .val (.long p2), .second, .val (.long p3), .second, .val (.long p4), .second, .val (.int p5), .val (.ref b17), .val (.ref b19), .val (.ref b21), .val (.ref b23), .val (.int (0 : Int32)), .val (.int (1 : Int32)), .val (.ref b36), .unset] []))
      refine own_of (fun tt_ kk_ => XS.iconst X44.here hx rfl (hb hby at_176) kk_) ?_
      show own_Ends _ _ _ _ _ _ (T44.setTop (mkF m 177 #[.val (.int p1), .val (.long p2), .second, .val (.long p3), .second, .val (.long p4), .second, .val (.int p5), .val (.ref b17), .val (.ref b19), .val (.ref b21), .val (.ref b23), .val (.int (0 : Int32)), .val (.int (1 : Int32)), .val (.ref b36), .unset] [(.int (1 : Int32))]))
      refine own_of (fun tt_ kk_ => XS.goto X44.here hx rfl (pc0 := 177) (pc' := 181) rfl (hb hby at_177) (by decide) (by decide) kk_) ?_
      show own_Ends _ _ _ _ _ _ (T44.setTop (mkF m 181 #[.val (.int p1), .val (.long p2), .second, .val (.long p3), .second, .val (.long p4), .second, .val (.int p5), .val (.ref b17), .val (.ref b19), .val (.ref b21), .val (.ref b23), .val (.int (0 : Int32)), .val (.int (1 : Int32)), .val (.ref b36), .unset] [(.int (1 : Int32))]))
      refine own_of (fun tt_ kk_ => XS.istore X44.here hx rfl (hb hby at_181) rfl (l' := #[.val (.int p1), .val (.long p2), .second, .val (.long p3), .second, .val (.long p4), .second, .val (.int p5), .val (.ref b17), .val (.ref b19), .val (.ref b21), .val (.ref b23), .val (.int (0 : Int32)), .val (.int (1 : Int32)), .val (.ref b36), .val (.int (1 : Int32))]) rfl kk_) ?_
      show own_Ends _ _ _ _ _ _ (T44.setTop (mkF m 183 #[.val (.int p1), .val (.long p2), .second, .val (.long p3), .second, .val (.long p4), .second, .val (.int p5), .val (.ref b17), .val (.ref b19), .val (.ref b21), .val (.ref b23), .val (.int (0 : Int32)), .val (.int (1 : Int32)), .val (.ref b36), .val (.int (1 : Int32))] []))
      refine own_of (fun tt_ kk_ => XS.iload X44.here hx rfl (hb hby at_183) rfl  kk_) ?_
      show own_Ends _ _ _ _ _ _ (T44.setTop (mkF m 185 #[.val (.int p1), .val (.long p2), .second, .val (.long p3), .second, .val (.long p4), .second, .val (.int p5), .val (.ref b17), .val (.ref b19), .val (.ref b21), .val (.ref b23), .val (.int (0 : Int32)), .val (.int (1 : Int32)), .val (.ref b36), .val (.int (1 : Int32))] [(.int (1 : Int32))]))
      refine own_of (fun tt_ kk_ => XS.ifNo X44.here hx rfl (hb hby at_185) rfl ((if0 _ _).trans (feq (by decide : ¬ ((1 : Int32) = (0 : Int32)))).1) kk_) ?_
      show own_Ends _ _ _ _ _ _ (T44.setTop (mkF m 188 #[.val (.int p1), .val (.long p2), .second, .val (.long p3), .second, .val (.long p4), .second, .val (.int p5), .val (.ref b17), .val (.ref b19), .val (.ref b21), .val (.ref b23), .val (.int (0 : Int32)), .val (.int (1 : Int32)), .val (.ref b36), .val (.int (1 : Int32))] []))
      refine own_of (fun tt_ kk_ => XS.aload X44.here hx rfl (hb hby at_188) rfl rfl kk_) ?_
      show own_Ends _ _ _ _ _ _ (T44.setTop (mkF m 190 #[.val (.int p1), .val (.long p2), .second, .val (.long p3), .second, .val (.long p4), .second, .val (.int p5), .val (.ref b17), .val (.ref b19), .val (.ref b21), .val (.ref b23), .val (.int (0 : Int32)), .val (.int (1 : Int32)), .val (.ref b36), .val (.int (1 : Int32))] [(.ref b36)]))
      refine own_of (fun tt_ kk_ => XS.lload X44.here hx rfl (hb hby at_190) rfl  kk_) ?_
      show own_Ends _ _ _ _ _ _ (T44.setTop (mkF m 192 #[.val (.int p1), .val (.long p2), .second, .val (.long p3), .second, .val (.long p4), .second, .val (.int p5), .val (.ref b17), .val (.ref b19), .val (.ref b21), .val (.ref b23), .val (.int (0 : Int32)), .val (.int (1 : Int32)), .val (.ref b36), .val (.int (1 : Int32))] [(.long p4), (.ref b36)]))
      obtain ⟨v45, T45, L45, h45, X45, e45, Q45, st45⟩ := own_virtual X44 hx hZ hown e44 A36 (hw _ (List.mem_of_getElem? (i := 54) rfl)) (hw _ (List.mem_of_getElem? (i := 55) rfl)) (notFace_of_selects (args := #[]) (mvT hZ (hw _ (List.mem_of_getElem? (i := 57) rfl)))) (hw _ (List.mem_of_getElem? (i := 57) rfl)) (hw _ (List.mem_of_getElem? (i := 56) rfl)) (hw _ (List.mem_of_getElem? (i := 32) rfl)) (hw _ (List.mem_of_getElem? (i := 58) rfl)) (by decide) (argsL := [(.long p4)]) (rest := []) (rm_failed l Z a0 hw b36 b21 b23 (p1 + (1 : Int32)) p3 p4 (0 : Int32) h38 n0 (Nat.le_trans Z0 K.1) A36 F_topic_b36 F_message_b36 F_subscription_b36 F_failedAttempts_b36 F_nextAttemptTime_b36 F_cancelled_b36 g_b36) (g := (mkF m 192 #[.val (.int p1), .val (.long p2), .second, .val (.long p3), .second, .val (.long p4), .second, .val (.int p5), .val (.ref b17), .val (.ref b19), .val (.ref b21), .val (.ref b23), .val (.int (0 : Int32)), .val (.int (1 : Int32)), .val (.ref b36), .val (.int (1 : Int32))] [(.long p4), (.ref b36)])) rfl (by rw [hml]; rfl) (lenOf pd__J_r_V rfl) rfl (by decide) (Nat.le_of_ble_eq_true rfl) (by decide) (by decide) (hb hby at_192)
      obtain ⟨rfl, Nq45, Kq45, A36', F_topic_b36', F_message_b36', F_subscription_b36', F_failedAttempts_b36', F_nextAttemptTime_b36', F_cancelled_b36'⟩ := Q45
      replace OL := OL.keep Kq45 (allS g_b36 all0)
      replace V18' := V18'.keep Kq45 (ninS ne_b17_b36 nin0)
      replace V20' := V20'.keep Kq45 (ninS ne_b19_b36 nin0)
      replace Eq22 := Eq22.keep Kq45
      replace Eq24 := Eq24.keep Kq45
      replace A36 := A36.keep Kq45
      clear A36
      have A36 := A36'
      have F_topic_b36 := F_topic_b36'
      have F_message_b36 := F_message_b36'
      have F_subscription_b36 := F_subscription_b36'
      have F_failedAttempts_b36 := F_failedAttempts_b36'
      have F_nextAttemptTime_b36 := F_nextAttemptTime_b36'
      have F_cancelled_b36 := F_cancelled_b36'
      replace K := K.trans Kq45 (allS (Or.inr sz_b36) all0)
      have N45 := Fr.app N44 Nq45
      refine own_of st45 ?_
      show own_Ends _ _ _ _ _ _ (T45.setTop (mkF m 195 #[.val (.int p1), .val (.long p2), .second, .val (.long p3), .second, .val (.long p4), .second, .val (.int p5), .val (.ref b17), .val (.ref b19), .val (.ref b21), .val (.ref b23), .val (.int (0 : Int32)), .val (.int (1 : Int32)), .val (.ref b36), .val (.int (1 : Int32))] []))
      refine own_of (fun tt_ kk_ => XS.iload X45.here hx rfl (hb hby at_195) rfl  kk_) ?_
      show own_Ends _ _ _ _ _ _ (T45.setTop (mkF m 197 #[.val (.int p1), .val (.long p2), .second, .val (.long p3), .second, .val (.long p4), .second, .val (.int p5), .val (.ref b17), .val (.ref b19), .val (.ref b21), .val (.ref b23), .val (.int (0 : Int32)), .val (.int (1 : Int32)), .val (.ref b36), .val (.int (1 : Int32))] [(.int (1 : Int32))]))
      refine own_of (fun tt_ kk_ => XS.ifNo X45.here hx rfl (hb hby at_197) rfl ((if0 _ _).trans (feq (by decide : ¬ ((1 : Int32) = (0 : Int32)))).1) kk_) ?_
      show own_Ends _ _ _ _ _ _ (T45.setTop (mkF m 200 #[.val (.int p1), .val (.long p2), .second, .val (.long p3), .second, .val (.long p4), .second, .val (.int p5), .val (.ref b17), .val (.ref b19), .val (.ref b21), .val (.ref b23), .val (.int (0 : Int32)), .val (.int (1 : Int32)), .val (.ref b36), .val (.int (1 : Int32))] []))
      refine own_of (fun tt_ kk_ => XS.aload X45.here hx rfl (hb hby at_200) rfl rfl kk_) ?_
      show own_Ends _ _ _ _ _ _ (T45.setTop (mkF m 202 #[.val (.int p1), .val (.long p2), .second, .val (.long p3), .second, .val (.long p4), .second, .val (.int p5), .val (.ref b17), .val (.ref b19), .val (.ref b21), .val (.ref b23), .val (.int (0 : Int32)), .val (.int (1 : Int32)), .val (.ref b36), .val (.int (1 : Int32))] [(.ref b36)]))
      obtain ⟨v46, T46, L46, h46, X46, e46, Q46, st46⟩ := own_virtual X45 hx hZ hown e45 A36 (hw _ (List.mem_of_getElem? (i := 59) rfl)) (hw _ (List.mem_of_getElem? (i := 60) rfl)) (notFace_of_selects (args := #[]) (mvT hZ (hw _ (List.mem_of_getElem? (i := 62) rfl)))) (hw _ (List.mem_of_getElem? (i := 62) rfl)) (hw _ (List.mem_of_getElem? (i := 61) rfl)) (hw _ (List.mem_of_getElem? (i := 32) rfl)) (hw _ (List.mem_of_getElem? (i := 63) rfl)) (by decide) (argsL := []) (rest := []) (rm_failedAttempts l Z a0 hw b36 ((p1 + (1 : Int32)) + (1 : Int32)) h45 n0 (Nat.le_trans Z0 K.1) F_failedAttempts_b36) (g := (mkF m 202 #[.val (.int p1), .val (.long p2), .second, .val (.long p3), .second, .val (.long p4), .second, .val (.int p5), .val (.ref b17), .val (.ref b19), .val (.ref b21), .val (.ref b23), .val (.int (0 : Int32)), .val (.int (1 : Int32)), .val (.ref b36), .val (.int (1 : Int32))] [(.ref b36)])) rfl (by rw [hml]; rfl) (lenOf pd___r_I rfl) rfl (by decide) (Nat.le_of_ble_eq_true rfl) (by decide) (by decide) (hb hby at_202)
      obtain ⟨rfl, Nq46, q46⟩ := Q46
      replace e46 := e46.trans q46
      have N46 := Fr.app N45 Nq46
      refine own_of st46 ?_
      show own_Ends _ _ _ _ _ _ (T46.setTop (mkF m 205 #[.val (.int p1), .val (.long p2), .second, .val (.long p3), .second, .val (.long p4), .second, .val (.int p5), .val (.ref b17), .val (.ref b19), .val (.ref b21), .val (.ref b23), .val (.int (0 : Int32)), .val (.int (1 : Int32)), .val (.ref b36), .val (.int (1 : Int32))] [(.int ((p1 + (1 : Int32)) + (1 : Int32)))]))
      refine own_of (fun tt_ kk_ => XS.iloadN X46.here hx rfl (hb hby at_205) rfl  kk_) ?_
      show own_Ends _ _ _ _ _ _ (T46.setTop (mkF m 206 #[.val (.int p1), .val (.long p2), .second, .val (.long p3), .second, .val (.long p4), .second, .val (.int p5), .val (.ref b17), .val (.ref b19), .val (.ref b21), .val (.ref b23), .val (.int (0 : Int32)), .val (.int (1 : Int32)), .val (.ref b36), .val (.int (1 : Int32))] [(.int p1), (.int ((p1 + (1 : Int32)) + (1 : Int32)))]))
      refine own_of (fun tt_ kk_ => XS.iconst X46.here hx rfl (hb hby at_206) kk_) ?_
      show own_Ends _ _ _ _ _ _ (T46.setTop (mkF m 207 #[.val (.int p1), .val (.long p2), .second, .val (.long p3), .second, .val (.long p4), .second, .val (.int p5), .val (.ref b17), .val (.ref b19), .val (.ref b21), .val (.ref b23), .val (.int (0 : Int32)), .val (.int (1 : Int32)), .val (.ref b36), .val (.int (1 : Int32))] [(.int (2 : Int32)), (.int p1), (.int ((p1 + (1 : Int32)) + (1 : Int32)))]))
      refine own_of (fun tt_ kk_ => XS.iadd X46.here hx rfl (hb hby at_207) rfl kk_) ?_
      show own_Ends _ _ _ _ _ _ (T46.setTop (mkF m 208 #[.val (.int p1), .val (.long p2), .second, .val (.long p3), .second, .val (.long p4), .second, .val (.int p5), .val (.ref b17), .val (.ref b19), .val (.ref b21), .val (.ref b23), .val (.int (0 : Int32)), .val (.int (1 : Int32)), .val (.ref b36), .val (.int (1 : Int32))] [(.int (p1 + (2 : Int32))), (.int ((p1 + (1 : Int32)) + (1 : Int32)))]))
      refine own_of (fun tt_ kk_ => XS.icmpNo X46.here hx rfl (hb hby at_208) rfl (teq (own_two p1)).2 kk_) ?_
      show own_Ends _ _ _ _ _ _ (T46.setTop (mkF m 211 #[.val (.int p1), .val (.long p2), .second, .val (.long p3), .second, .val (.long p4), .second, .val (.int p5), .val (.ref b17), .val (.ref b19), .val (.ref b21), .val (.ref b23), .val (.int (0 : Int32)), .val (.int (1 : Int32)), .val (.ref b36), .val (.int (1 : Int32))] []))
      refine own_of (fun tt_ kk_ => XS.aload X46.here hx rfl (hb hby at_211) rfl rfl kk_) ?_
      show own_Ends _ _ _ _ _ _ (T46.setTop (mkF m 213 #[.val (.int p1), .val (.long p2), .second, .val (.long p3), .second, .val (.long p4), .second, .val (.int p5), .val (.ref b17), .val (.ref b19), .val (.ref b21), .val (.ref b23), .val (.int (0 : Int32)), .val (.int (1 : Int32)), .val (.ref b36), .val (.int (1 : Int32))] [(.ref b36)]))
      obtain ⟨v47, T47, L47, h47, X47, e47, Q47, st47⟩ := own_virtual X46 hx hZ hown e46 A36 (hw _ (List.mem_of_getElem? (i := 64) rfl)) (hw _ (List.mem_of_getElem? (i := 65) rfl)) (notFace_of_selects (args := #[]) (mvT hZ (hw _ (List.mem_of_getElem? (i := 67) rfl)))) (hw _ (List.mem_of_getElem? (i := 67) rfl)) (hw _ (List.mem_of_getElem? (i := 66) rfl)) (hw _ (List.mem_of_getElem? (i := 32) rfl)) (hw _ (List.mem_of_getElem? (i := 68) rfl)) (by decide) (argsL := []) (rest := []) (rm_nextAttemptTime l Z a0 hw b36 p4 h45 n0 (Nat.le_trans Z0 K.1) F_nextAttemptTime_b36) (g := (mkF m 213 #[.val (.int p1), .val (.long p2), .second, .val (.long p3), .second, .val (.long p4), .second, .val (.int p5), .val (.ref b17), .val (.ref b19), .val (.ref b21), .val (.ref b23), .val (.int (0 : Int32)), .val (.int (1 : Int32)), .val (.ref b36), .val (.int (1 : Int32))] [(.ref b36)])) rfl (by rw [hml]; rfl) (lenOf pd___r_J rfl) rfl (by decide) (Nat.le_of_ble_eq_true rfl) (by decide) (by decide) (hb hby at_213)
      obtain ⟨rfl, Nq47, q47⟩ := Q47
      replace e47 := e47.trans q47
      have N47 := Fr.app N46 Nq47
      refine own_of st47 ?_
      show own_Ends _ _ _ _ _ _ (T47.setTop (mkF m 216 #[.val (.int p1), .val (.long p2), .second, .val (.long p3), .second, .val (.long p4), .second, .val (.int p5), .val (.ref b17), .val (.ref b19), .val (.ref b21), .val (.ref b23), .val (.int (0 : Int32)), .val (.int (1 : Int32)), .val (.ref b36), .val (.int (1 : Int32))] [(.long p4)]))
      refine own_of (fun tt_ kk_ => XS.lload X47.here hx rfl (hb hby at_216) rfl  kk_) ?_
      show own_Ends _ _ _ _ _ _ (T47.setTop (mkF m 218 #[.val (.int p1), .val (.long p2), .second, .val (.long p3), .second, .val (.long p4), .second, .val (.int p5), .val (.ref b17), .val (.ref b19), .val (.ref b21), .val (.ref b23), .val (.int (0 : Int32)), .val (.int (1 : Int32)), .val (.ref b36), .val (.int (1 : Int32))] [(.long p4), (.long p4)]))
      refine own_of (fun tt_ kk_ => XS.lcmp X47.here hx rfl (hb hby at_218) rfl kk_) ?_
      show own_Ends _ _ _ _ _ _ (T47.setTop (mkF m 219 #[.val (.int p1), .val (.long p2), .second, .val (.long p3), .second, .val (.long p4), .second, .val (.int p5), .val (.ref b17), .val (.ref b19), .val (.ref b21), .val (.ref b23), .val (.int (0 : Int32)), .val (.int (1 : Int32)), .val (.ref b36), .val (.int (1 : Int32))] [(.int (lcmpW p4 p4))]))
      refine own_of (fun tt_ kk_ => XS.ifNo X47.here hx rfl (hb hby at_219) rfl ((if0 _ _).trans (teq ((lw_eq _ _).mpr rfl)).2) kk_) ?_
      show own_Ends _ _ _ _ _ _ (T47.setTop (mkF m 222 #[.val (.int p1), .val (.long p2), .second, .val (.long p3), .second, .val (.long p4), .second, .val (.int p5), .val (.ref b17), .val (.ref b19), .val (.ref b21), .val (.ref b23), .val (.int (0 : Int32)), .val (.int (1 : Int32)), .val (.ref b36), .val (.int (1 : Int32))] []))
      refine own_of (fun tt_ kk_ => XS.aload X47.here hx rfl (hb hby at_222) rfl rfl kk_) ?_
      show own_Ends _ _ _ _ _ _ (T47.setTop (mkF m 224 #[.val (.int p1), .val (.long p2), .second, .val (.long p3), .second, .val (.long p4), .second, .val (.int p5), .val (.ref b17), .val (.ref b19), .val (.ref b21), .val (.ref b23), .val (.int (0 : Int32)), .val (.int (1 : Int32)), .val (.ref b36), .val (.int (1 : Int32))] [(.ref b36)]))
      obtain ⟨v48, T48, L48, h48, X48, e48, Q48, st48⟩ := own_virtual X47 hx hZ hown e47 A36 (hw _ (List.mem_of_getElem? (i := 84) rfl)) (hw _ (List.mem_of_getElem? (i := 85) rfl)) (notFace_of_selects (args := #[]) (mvT hZ (hw _ (List.mem_of_getElem? (i := 87) rfl)))) (hw _ (List.mem_of_getElem? (i := 87) rfl)) (hw _ (List.mem_of_getElem? (i := 86) rfl)) (hw _ (List.mem_of_getElem? (i := 32) rfl)) (hw _ (List.mem_of_getElem? (i := 88) rfl)) (by decide) (argsL := []) (rest := []) (rm_cancelled l Z a0 hw b36 (0 : Int32) h45 n0 (Nat.le_trans Z0 K.1) F_cancelled_b36 rfl) (g := (mkF m 224 #[.val (.int p1), .val (.long p2), .second, .val (.long p3), .second, .val (.long p4), .second, .val (.int p5), .val (.ref b17), .val (.ref b19), .val (.ref b21), .val (.ref b23), .val (.int (0 : Int32)), .val (.int (1 : Int32)), .val (.ref b36), .val (.int (1 : Int32))] [(.ref b36)])) rfl (by rw [hml]; rfl) (lenOf pd___r_Z rfl) rfl (by decide) (Nat.le_of_ble_eq_true rfl) (by decide) (by decide) (hb hby at_224)
      obtain ⟨rfl, Nq48, q48⟩ := Q48
      replace e48 := e48.trans q48
      have N48 := Fr.app N47 Nq48
      refine own_of st48 ?_
      show own_Ends _ _ _ _ _ _ (T48.setTop (mkF m 227 #[.val (.int p1), .val (.long p2), .second, .val (.long p3), .second, .val (.long p4), .second, .val (.int p5), .val (.ref b17), .val (.ref b19), .val (.ref b21), .val (.ref b23), .val (.int (0 : Int32)), .val (.int (1 : Int32)), .val (.ref b36), .val (.int (1 : Int32))] [(.int (0 : Int32))]))
      refine own_of (fun tt_ kk_ => XS.iload X48.here hx rfl (hb hby at_227) rfl  kk_) ?_
      show own_Ends _ _ _ _ _ _ (T48.setTop (mkF m 229 #[.val (.int p1), .val (.long p2), .second, .val (.long p3), .second, .val (.long p4), .second, .val (.int p5), .val (.ref b17), .val (.ref b19), .val (.ref b21), .val (.ref b23), .val (.int (0 : Int32)), .val (.int (1 : Int32)), .val (.ref b36), .val (.int (1 : Int32))] [(.int (0 : Int32)), (.int (0 : Int32))]))
      refine own_of (fun tt_ kk_ => XS.icmpNo X48.here hx rfl (hb hby at_229) rfl (teq (by decide : ((0 : Int32) = (0 : Int32)))).2 kk_) ?_
      show own_Ends _ _ _ _ _ _ (T48.setTop (mkF m 232 #[.val (.int p1), .val (.long p2), .second, .val (.long p3), .second, .val (.long p4), .second, .val (.int p5), .val (.ref b17), .val (.ref b19), .val (.ref b21), .val (.ref b23), .val (.int (0 : Int32)), .val (.int (1 : Int32)), .val (.ref b36), .val (.int (1 : Int32))] []))
      refine own_of (fun tt_ kk_ => XS.iconst X48.here hx rfl (hb hby at_232) kk_) ?_
      show own_Ends _ _ _ _ _ _ (T48.setTop (mkF m 233 #[.val (.int p1), .val (.long p2), .second, .val (.long p3), .second, .val (.long p4), .second, .val (.int p5), .val (.ref b17), .val (.ref b19), .val (.ref b21), .val (.ref b23), .val (.int (0 : Int32)), .val (.int (1 : Int32)), .val (.ref b36), .val (.int (1 : Int32))] [(.int (1 : Int32))]))
      refine own_of (fun tt_ kk_ => XS.goto X48.here hx rfl (pc0 := 233) (pc' := 237) rfl (hb hby at_233) (by decide) (by decide) kk_) ?_
      show own_Ends _ _ _ _ _ _ (T48.setTop (mkF m 237 #[.val (.int p1), .val (.long p2), .second, .val (.long p3), .second, .val (.long p4), .second, .val (.int p5), .val (.ref b17), .val (.ref b19), .val (.ref b21), .val (.ref b23), .val (.int (0 : Int32)), .val (.int (1 : Int32)), .val (.ref b36), .val (.int (1 : Int32))] [(.int (1 : Int32))]))
      refine own_of (fun tt_ kk_ => XS.istore X48.here hx rfl (hb hby at_237) rfl (l' := #[.val (.int p1), .val (.long p2), .second, .val (.long p3), .second, .val (.long p4), .second, .val (.int p5), .val (.ref b17), .val (.ref b19), .val (.ref b21), .val (.ref b23), .val (.int (0 : Int32)), .val (.int (1 : Int32)), .val (.ref b36), .val (.int (1 : Int32))]) rfl kk_) ?_
      show own_Ends _ _ _ _ _ _ (T48.setTop (mkF m 239 #[.val (.int p1), .val (.long p2), .second, .val (.long p3), .second, .val (.long p4), .second, .val (.int p5), .val (.ref b17), .val (.ref b19), .val (.ref b21), .val (.ref b23), .val (.int (0 : Int32)), .val (.int (1 : Int32)), .val (.ref b36), .val (.int (1 : Int32))] []))
      refine own_of (fun tt_ kk_ => XS.iload X48.here hx rfl (hb hby at_239) rfl  kk_) ?_
      show own_Ends _ _ _ _ _ _ (T48.setTop (mkF m 241 #[.val (.int p1), .val (.long p2), .second, .val (.long p3), .second, .val (.long p4), .second, .val (.int p5), .val (.ref b17), .val (.ref b19), .val (.ref b21), .val (.ref b23), .val (.int (0 : Int32)), .val (.int (1 : Int32)), .val (.ref b36), .val (.int (1 : Int32))] [(.int (1 : Int32))]))
      refine own_retN X48 hx hlk e48 (t := .boolean) hret (by simp) (z' := (1 : Int32)) rfl (hb hby at_241) (by decide) (by decide) ?_
      exact ⟨rfl, N48⟩
  · refine own_of (fun tt_ kk_ => XS.ifNo X24.here hx rfl (hb hby at_61) rfl ((if0 _ _).trans (feq hc25).1) kk_) ?_
    show own_Ends _ _ _ _ _ _ (T24.setTop (mkF m 64 #[.val (.int p1), .val (.long p2), .second, .val (.long p3), .second, .val (.long p4), .second, .val (.int p5), .val (.ref b17), .val (.ref b19), .val (.ref b21), .val (.ref b23), .unset, .unset, .unset, .unset] []))
    refine own_of (fun tt_ kk_ => XS.iconst X24.here hx rfl (hb hby at_64) kk_) ?_
    show own_Ends _ _ _ _ _ _ (T24.setTop (mkF m 65 #[.val (.int p1), .val (.long p2), .second, .val (.long p3), .second, .val (.long p4), .second, .val (.int p5), .val (.ref b17), .val (.ref b19), .val (.ref b21), .val (.ref b23), .unset, .unset, .unset, .unset] [(.int (1 : Int32))]))
    refine own_of (fun tt_ kk_ => XS.goto X24.here hx rfl (pc0 := 65) (pc' := 69) rfl (hb hby at_65) (by decide) (by decide) kk_) ?_
    show own_Ends _ _ _ _ _ _ (T24.setTop (mkF m 69 #[.val (.int p1), .val (.long p2), .second, .val (.long p3), .second, .val (.long p4), .second, .val (.int p5), .val (.ref b17), .val (.ref b19), .val (.ref b21), .val (.ref b23), .unset, .unset, .unset, .unset] [(.int (1 : Int32))]))
    refine own_of (fun tt_ kk_ => XS.istore X24.here hx rfl (hb hby at_69) rfl (l' := #[.val (.int p1), .val (.long p2), .second, .val (.long p3), .second, .val (.long p4), .second, .val (.int p5), .val (.ref b17), .val (.ref b19), .val (.ref b21), .val (.ref b23), .val (.int (1 : Int32)), .unset, .unset, .unset]) rfl kk_) ?_
    show own_Ends _ _ _ _ _ _ (T24.setTop (mkF m 71 #[.val (.int p1), .val (.long p2), .second, .val (.long p3), .second, .val (.long p4), .second, .val (.int p5), .val (.ref b17), .val (.ref b19), .val (.ref b21), .val (.ref b23), .val (.int (1 : Int32)), .unset, .unset, .unset] []))
    refine own_of (fun tt_ kk_ => XS.iload X24.here hx rfl (hb hby at_71) rfl  kk_) ?_
    show own_Ends _ _ _ _ _ _ (T24.setTop (mkF m 73 #[.val (.int p1), .val (.long p2), .second, .val (.long p3), .second, .val (.long p4), .second, .val (.int p5), .val (.ref b17), .val (.ref b19), .val (.ref b21), .val (.ref b23), .val (.int (1 : Int32)), .unset, .unset, .unset] [(.int p5)]))
    refine own_of (fun tt_ kk_ => XS.iconst X24.here hx rfl (hb hby at_73) kk_) ?_
    show own_Ends _ _ _ _ _ _ (T24.setTop (mkF m 74 #[.val (.int p1), .val (.long p2), .second, .val (.long p3), .second, .val (.long p4), .second, .val (.int p5), .val (.ref b17), .val (.ref b19), .val (.ref b21), .val (.ref b23), .val (.int (1 : Int32)), .unset, .unset, .unset] [(.int (2 : Int32)), (.int p5)]))
    refine own_of (fun tt_ kk_ => XS.iand X24.here hx rfl (hb hby at_74) rfl kk_) ?_
    show own_Ends _ _ _ _ _ _ (T24.setTop (mkF m 75 #[.val (.int p1), .val (.long p2), .second, .val (.long p3), .second, .val (.long p4), .second, .val (.int p5), .val (.ref b17), .val (.ref b19), .val (.ref b21), .val (.ref b23), .val (.int (1 : Int32)), .unset, .unset, .unset] [(.int (p5 &&& (2 : Int32)))]))
    by_cases hc49 : (p5 &&& (2 : Int32)) = (0 : Int32)
    · refine own_of (fun tt_ kk_ => XS.ifYes X24.here hx rfl (pc0 := 75) (pc' := 82) rfl (hb hby at_75) rfl ((if0 _ _).trans (teq hc49).1) (by decide) (by decide) kk_) ?_
      show own_Ends _ _ _ _ _ _ (T24.setTop (mkF m 82 #[.val (.int p1), .val (.long p2), .second, .val (.long p3), .second, .val (.long p4), .second, .val (.int p5), .val (.ref b17), .val (.ref b19), .val (.ref b21), .val (.ref b23), .val (.int (1 : Int32)), .unset, .unset, .unset] []))
      refine own_of (fun tt_ kk_ => XS.iconst X24.here hx rfl (hb hby at_82) kk_) ?_
      show own_Ends _ _ _ _ _ _ (T24.setTop (mkF m 83 #[.val (.int p1), .val (.long p2), .second, .val (.long p3), .second, .val (.long p4), .second, .val (.int p5), .val (.ref b17), .val (.ref b19), .val (.ref b21), .val (.ref b23), .val (.int (1 : Int32)), .unset, .unset, .unset] [(.int (0 : Int32))]))
      refine own_of (fun tt_ kk_ => XS.istore X24.here hx rfl (hb hby at_83) rfl (l' := #[.val (.int p1), .val (.long p2), .second, .val (.long p3), .second, .val (.long p4), .second, .val (.int p5), .val (.ref b17), .val (.ref b19), .val (.ref b21), .val (.ref b23), .val (.int (1 : Int32)), .val (.int (0 : Int32)), .unset, .unset]) rfl kk_) ?_
      show own_Ends _ _ _ _ _ _ (T24.setTop (mkF m 85 #[.val (.int p1), .val (.long p2), .second, .val (.long p3), .second, .val (.long p4), .second, .val (.int p5), .val (.ref b17), .val (.ref b19), .val (.ref b21), .val (.ref b23), .val (.int (1 : Int32)), .val (.int (0 : Int32)), .unset, .unset] []))
      obtain ⟨T50, h50, X50, e50, E50, A50, D50, -, st50⟩ := newO X24 hx hZ hown (hw _ (List.mem_of_getElem? (i := 30) rfl)) (hw _ (List.mem_of_getElem? (i := 31) rfl)) (hw _ (List.mem_of_getElem? (i := 32) rfl)) e24 (g := (mkF m 85 #[.val (.int p1), .val (.long p2), .second, .val (.long p3), .second, .val (.long p4), .second, .val (.int p5), .val (.ref b17), .val (.ref b19), .val (.ref b21), .val (.ref b23), .val (.int (1 : Int32)), .val (.int (0 : Int32)), .unset, .unset] [])) rfl (hb hby at_85) (by decide) (by decide)
      obtain ⟨b50, g50⟩ : ∃ z, z = h24.size := ⟨_, rfl⟩
      rw [← g50] at A50 D50 st50
      have ne_b17_b50 : b17 ≠ b50 := Nat.ne_of_lt (Nat.lt_of_lt_of_le V18'.lt (Nat.le_of_eq g50.symm))
      have ne_b19_b50 : b19 ≠ b50 := Nat.ne_of_lt (Nat.lt_of_lt_of_le V20'.lt (Nat.le_of_eq g50.symm))
      have ne_b21_b50 : b21 ≠ b50 := Nat.ne_of_lt (Nat.lt_of_lt_of_le Eq22.lt (Nat.le_of_eq g50.symm))
      have ne_b23_b50 : b23 ≠ b50 := Nat.ne_of_lt (Nat.lt_of_lt_of_le Eq24.lt (Nat.le_of_eq g50.symm))
      have sz_b50 : h0.size ≤ b50 := Nat.le_trans K.1 (Nat.le_of_eq g50.symm)
      have g_b50 : n0 ≤ b50 := Nat.le_trans Z0 sz_b50
      replace OL := OL.ext E50
      replace V18' := V18'.ext E50
      replace V20' := V20'.ext E50
      replace Eq22 := Eq22.ext E50
      replace Eq24 := Eq24.ext E50
      have F_topic_b50 : Fld Z h50 b50 "com/example/libenq/libenq/engine/Delivery" "topic" "Ljava/lang/String;" .null := D50 (Or.inr (hw _ (List.mem_of_getElem? (i := 38) rfl))) (ty := (.object "java/lang/String")) (by decide)
      have F_message_b50 : Fld Z h50 b50 "com/example/libenq/libenq/engine/Delivery" "message" "Lcom/example/libenq/libenq/engine/TopicMessageRecord;" .null := D50 (Or.inr (hw _ (List.mem_of_getElem? (i := 40) rfl))) (ty := (.object "com/example/libenq/libenq/engine/TopicMessageRecord")) (by decide)
      have F_subscription_b50 : Fld Z h50 b50 "com/example/libenq/libenq/engine/Delivery" "subscription" "Ljava/lang/String;" .null := D50 (Or.inr (hw _ (List.mem_of_getElem? (i := 42) rfl))) (ty := (.object "java/lang/String")) (by decide)
      have F_failedAttempts_b50 : Fld Z h50 b50 "com/example/libenq/libenq/engine/Delivery" "failedAttempts" "I" (.int (0 : Int32)) := D50 (Or.inl (hw _ (List.mem_of_getElem? (i := 44) rfl))) (ty := .int) (by decide)
      have F_nextAttemptTime_b50 : Fld Z h50 b50 "com/example/libenq/libenq/engine/Delivery" "nextAttemptTime" "J" (.long (0 : Int64)) := D50 (Or.inl (hw _ (List.mem_of_getElem? (i := 46) rfl))) (ty := .long) (by decide)
      have F_cancelled_b50 : Fld Z h50 b50 "com/example/libenq/libenq/engine/Delivery" "cancelled" "Z" (.int (0 : Int32)) := D50 (Or.inl (hw _ (List.mem_of_getElem? (i := 53) rfl))) (ty := .boolean) (by decide)
      replace K := K.ext E50
      refine own_of st50 ?_
      show own_Ends _ _ _ _ _ _ (T50.setTop (mkF m 88 #[.val (.int p1), .val (.long p2), .second, .val (.long p3), .second, .val (.long p4), .second, .val (.int p5), .val (.ref b17), .val (.ref b19), .val (.ref b21), .val (.ref b23), .val (.int (1 : Int32)), .val (.int (0 : Int32)), .unset, .unset] [(.ref b50)]))
      refine own_of (fun tt_ kk_ => XS.dup X50.here hx rfl (hb hby at_88) rfl rfl kk_) ?_
      show own_Ends _ _ _ _ _ _ (T50.setTop (mkF m 89 #[.val (.int p1), .val (.long p2), .second, .val (.long p3), .second, .val (.long p4), .second, .val (.int p5), .val (.ref b17), .val (.ref b19), .val (.ref b21), .val (.ref b23), .val (.int (1 : Int32)), .val (.int (0 : Int32)), .unset, .unset] [(.ref b50), (.ref b50)]))
      refine own_of (fun tt_ kk_ => XS.aload X50.here hx rfl (hb hby at_89) rfl rfl kk_) ?_
      show own_Ends _ _ _ _ _ _ (T50.setTop (mkF m 91 #[.val (.int p1), .val (.long p2), .second, .val (.long p3), .second, .val (.long p4), .second, .val (.int p5), .val (.ref b17), .val (.ref b19), .val (.ref b21), .val (.ref b23), .val (.int (1 : Int32)), .val (.int (0 : Int32)), .unset, .unset] [(.ref b21), (.ref b50), (.ref b50)]))
      refine own_of (fun tt_ kk_ => XS.aconstNull X50.here hx rfl (hb hby at_91) kk_) ?_
      show own_Ends _ _ _ _ _ _ (T50.setTop (mkF m 92 #[.val (.int p1), .val (.long p2), .second, .val (.long p3), .second, .val (.long p4), .second, .val (.int p5), .val (.ref b17), .val (.ref b19), .val (.ref b21), .val (.ref b23), .val (.int (1 : Int32)), .val (.int (0 : Int32)), .unset, .unset] [.null, (.ref b21), (.ref b50), (.ref b50)]))
      refine own_of (fun tt_ kk_ => XS.aload X50.here hx rfl (hb hby at_92) rfl rfl kk_) ?_
      show own_Ends _ _ _ _ _ _ (T50.setTop (mkF m 94 #[.val (.int p1), .val (.long p2), .second, .val (.long p3), .second, .val (.long p4), .second, .val (.int p5), .val (.ref b17), .val (.ref b19), .val (.ref b21), .val (.ref b23), .val (.int (1 : Int32)), .val (.int (0 : Int32)), .unset, .unset] [(.ref b23), .null, (.ref b21), (.ref b50), (.ref b50)]))
      refine own_of (fun tt_ kk_ => XS.iloadN X50.here hx rfl (hb hby at_94) rfl  kk_) ?_
      show own_Ends _ _ _ _ _ _ (T50.setTop (mkF m 95 #[.val (.int p1), .val (.long p2), .second, .val (.long p3), .second, .val (.long p4), .second, .val (.int p5), .val (.ref b17), .val (.ref b19), .val (.ref b21), .val (.ref b23), .val (.int (1 : Int32)), .val (.int (0 : Int32)), .unset, .unset] [(.int p1), (.ref b23), .null, (.ref b21), (.ref b50), (.ref b50)]))
      refine own_of (fun tt_ kk_ => XS.lloadN X50.here hx rfl (hb hby at_95) rfl  kk_) ?_
      show own_Ends _ _ _ _ _ _ (T50.setTop (mkF m 96 #[.val (.int p1), .val (.long p2), .second, .val (.long p3), .second, .val (.long p4), .second, .val (.int p5), .val (.ref b17), .val (.ref b19), .val (.ref b21), .val (.ref b23), .val (.int (1 : Int32)), .val (.int (0 : Int32)), .unset, .unset] [(.long p2), (.int p1), (.ref b23), .null, (.ref b21), (.ref b50), (.ref b50)]))
      obtain ⟨v51, T51, L51, h51, X51, e51, Q51, st51⟩ := own_special X50 hx hZ hown e50 (b := b50) rfl (hw _ (List.mem_of_getElem? (i := 33) rfl)) (hw _ (List.mem_of_getElem? (i := 34) rfl)) (hw _ (List.mem_of_getElem? (i := 32) rfl)) (hw _ (List.mem_of_getElem? (i := 35) rfl)) (by decide) (argsL := [(.ref b21), .null, (.ref b23), (.int p1), (.long p2)]) (rest := [(.ref b50)]) (rm_init l Z a0 hw b50 b21 b23 p1 p2 h50 n0 (Nat.le_trans Z0 K.1) A50 F_topic_b50 F_message_b50 F_subscription_b50 F_failedAttempts_b50 F_nextAttemptTime_b50 F_cancelled_b50 g_b50) (g := (mkF m 96 #[.val (.int p1), .val (.long p2), .second, .val (.long p3), .second, .val (.long p4), .second, .val (.int p5), .val (.ref b17), .val (.ref b19), .val (.ref b21), .val (.ref b23), .val (.int (1 : Int32)), .val (.int (0 : Int32)), .unset, .unset] [(.long p2), (.int p1), (.ref b23), .null, (.ref b21), (.ref b50), (.ref b50)])) rfl (by rw [hml]; rfl) (lenOf pd__Ljava_lang_String_Lcom_example_libenq_libenq_engine_TopicMessageRecord_Ljava_lang_String_IJ_r_V rfl) rfl (by decide) (Nat.le_of_ble_eq_true rfl) (by decide) (by decide) (hb hby at_96)
      obtain ⟨rfl, Nq51, Kq51, A50', F_topic_b50', F_message_b50', F_subscription_b50', F_failedAttempts_b50', F_nextAttemptTime_b50', F_cancelled_b50'⟩ := Q51
      replace OL := OL.keep Kq51 (allS g_b50 all0)
      replace V18' := V18'.keep Kq51 (ninS ne_b17_b50 nin0)
      replace V20' := V20'.keep Kq51 (ninS ne_b19_b50 nin0)
      replace Eq22 := Eq22.keep Kq51
      replace Eq24 := Eq24.keep Kq51
      replace A50 := A50.keep Kq51
      clear A50
      have A50 := A50'
      have F_topic_b50 := F_topic_b50'
      have F_message_b50 := F_message_b50'
      have F_subscription_b50 := F_subscription_b50'
      have F_failedAttempts_b50 := F_failedAttempts_b50'
      have F_nextAttemptTime_b50 := F_nextAttemptTime_b50'
      have F_cancelled_b50 := F_cancelled_b50'
      replace K := K.trans Kq51 (allS (Or.inr sz_b50) all0)
      have N51 := Fr.app N24 Nq51
      refine own_of st51 ?_
      show own_Ends _ _ _ _ _ _ (T51.setTop (mkF m 99 #[.val (.int p1), .val (.long p2), .second, .val (.long p3), .second, .val (.long p4), .second, .val (.int p5), .val (.ref b17), .val (.ref b19), .val (.ref b21), .val (.ref b23), .val (.int (1 : Int32)), .val (.int (0 : Int32)), .unset, .unset] [(.ref b50)]))
      refine own_of (fun tt_ kk_ => XS.astore X51.here hx rfl (hb hby at_99) rfl rfl (l' := #[.val (.int p1), .val (.long p2), .second, .val (.long p3), .second, .val (.long p4), .second, .val (.int p5), .val (.ref b17), .val (.ref b19), .val (.ref b21), .val (.ref b23), .val (.int (1 : Int32)), .val (.int (0 : Int32)), .val (.ref b50), .unset]) rfl kk_) ?_
      show own_Ends _ _ _ _ _ _ (T51.setTop (mkF m 101 #[.val (.int p1), .val (.long p2), .second, .val (.long p3), .second, .val (.long p4), .second, .val (.int p5), .val (.ref b17), .val (.ref b19), .val (.ref b21), .val (.ref b23), .val (.int (1 : Int32)), .val (.int (0 : Int32)), .val (.ref b50), .unset] []))
      refine own_of (fun tt_ kk_ => XS.iload X51.here hx rfl (hb hby at_101) rfl  kk_) ?_
      show own_Ends _ _ _ _ _ _ (T51.setTop (mkF m 103 #[.val (.int p1), .val (.long p2), .second, .val (.long p3), .second, .val (.long p4), .second, .val (.int p5), .val (.ref b17), .val (.ref b19), .val (.ref b21), .val (.ref b23), .val (.int (1 : Int32)), .val (.int (0 : Int32)), .val (.ref b50), .unset] [(.int (1 : Int32))]))
      refine own_of (fun tt_ kk_ => XS.ifNo X51.here hx rfl (hb hby at_103) rfl ((if0 _ _).trans (feq (by decide : ¬ ((1 : Int32) = (0 : Int32)))).1) kk_) ?_
      show own_Ends _ _ _ _ _ _ (T51.setTop (mkF m 106 #[.val (.int p1), .val (.long p2), .second, .val (.long p3), .second, .val (.long p4), .second, .val (.int p5), .val (.ref b17), .val (.ref b19), .val (.ref b21), .val (.ref b23), .val (.int (1 : Int32)), .val (.int (0 : Int32)), .val (.ref b50), .unset] []))
      refine own_of (fun tt_ kk_ => XS.aload X51.here hx rfl (hb hby at_106) rfl rfl kk_) ?_
      show own_Ends _ _ _ _ _ _ (T51.setTop (mkF m 108 #[.val (.int p1), .val (.long p2), .second, .val (.long p3), .second, .val (.long p4), .second, .val (.int p5), .val (.ref b17), .val (.ref b19), .val (.ref b21), .val (.ref b23), .val (.int (1 : Int32)), .val (.int (0 : Int32)), .val (.ref b50), .unset] [(.ref b50)]))
      obtain ⟨v52, T52, L52, h52, X52, e52, Q52, st52⟩ := own_virtual X51 hx hZ hown e51 A50 (hw _ (List.mem_of_getElem? (i := 47) rfl)) (hw _ (List.mem_of_getElem? (i := 48) rfl)) (notFace_of_selects (args := #[]) (mvT hZ (hw _ (List.mem_of_getElem? (i := 50) rfl)))) (hw _ (List.mem_of_getElem? (i := 50) rfl)) (hw _ (List.mem_of_getElem? (i := 49) rfl)) (hw _ (List.mem_of_getElem? (i := 32) rfl)) (hw _ (List.mem_of_getElem? (i := 51) rfl)) (by decide) (argsL := []) (rest := []) (rm_cancel l Z a0 hw b50 b21 b23 p1 p2 (0 : Int32) h51 n0 (Nat.le_trans Z0 K.1) A50 F_topic_b50 F_message_b50 F_subscription_b50 F_failedAttempts_b50 F_nextAttemptTime_b50 F_cancelled_b50 g_b50) (g := (mkF m 108 #[.val (.int p1), .val (.long p2), .second, .val (.long p3), .second, .val (.long p4), .second, .val (.int p5), .val (.ref b17), .val (.ref b19), .val (.ref b21), .val (.ref b23), .val (.int (1 : Int32)), .val (.int (0 : Int32)), .val (.ref b50), .unset] [(.ref b50)])) rfl (by rw [hml]; rfl) (lenOf pd___r_V rfl) rfl (by decide) (Nat.le_of_ble_eq_true rfl) (by decide) (by decide) (hb hby at_108)
      obtain ⟨rfl, Nq52, Kq52, A50', F_topic_b50', F_message_b50', F_subscription_b50', F_failedAttempts_b50', F_nextAttemptTime_b50', F_cancelled_b50'⟩ := Q52
      replace OL := OL.keep Kq52 (allS g_b50 all0)
      replace V18' := V18'.keep Kq52 (ninS ne_b17_b50 nin0)
      replace V20' := V20'.keep Kq52 (ninS ne_b19_b50 nin0)
      replace Eq22 := Eq22.keep Kq52
      replace Eq24 := Eq24.keep Kq52
      replace A50 := A50.keep Kq52
      clear A50
      have A50 := A50'
      have F_topic_b50 := F_topic_b50'
      have F_message_b50 := F_message_b50'
      have F_subscription_b50 := F_subscription_b50'
      have F_failedAttempts_b50 := F_failedAttempts_b50'
      have F_nextAttemptTime_b50 := F_nextAttemptTime_b50'
      have F_cancelled_b50 := F_cancelled_b50'
      replace K := K.trans Kq52 (allS (Or.inr sz_b50) all0)
      have N52 := Fr.app N51 Nq52
      refine own_of st52 ?_
      show own_Ends _ _ _ _ _ _ (T52.setTop (mkF m 111 #[.val (.int p1), .val (.long p2), .second, .val (.long p3), .second, .val (.long p4), .second, .val (.int p5), .val (.ref b17), .val (.ref b19), .val (.ref b21), .val (.ref b23), .val (.int (1 : Int32)), .val (.int (0 : Int32)), .val (.ref b50), .unset] []))
      refine own_of (fun tt_ kk_ => XS.aload X52.here hx rfl (hb hby at_111) rfl rfl kk_) ?_
      show own_Ends _ _ _ _ _ _ (T52.setTop (mkF m 113 #[.val (.int p1), .val (.long p2), .second, .val (.long p3), .second, .val (.long p4), .second, .val (.int p5), .val (.ref b17), .val (.ref b19), .val (.ref b21), .val (.ref b23), .val (.int (1 : Int32)), .val (.int (0 : Int32)), .val (.ref b50), .unset] [(.ref b50)]))
      refine own_of (fun tt_ kk_ => XS.lloadN X52.here hx rfl (hb hby at_113) rfl  kk_) ?_
      show own_Ends _ _ _ _ _ _ (T52.setTop (mkF m 114 #[.val (.int p1), .val (.long p2), .second, .val (.long p3), .second, .val (.long p4), .second, .val (.int p5), .val (.ref b17), .val (.ref b19), .val (.ref b21), .val (.ref b23), .val (.int (1 : Int32)), .val (.int (0 : Int32)), .val (.ref b50), .unset] [(.long p3), (.ref b50)]))
      obtain ⟨v53, T53, L53, h53, X53, e53, Q53, st53⟩ := own_virtual X52 hx hZ hown e52 A50 (hw _ (List.mem_of_getElem? (i := 54) rfl)) (hw _ (List.mem_of_getElem? (i := 55) rfl)) (notFace_of_selects (args := #[]) (mvT hZ (hw _ (List.mem_of_getElem? (i := 57) rfl)))) (hw _ (List.mem_of_getElem? (i := 57) rfl)) (hw _ (List.mem_of_getElem? (i := 56) rfl)) (hw _ (List.mem_of_getElem? (i := 32) rfl)) (hw _ (List.mem_of_getElem? (i := 58) rfl)) (by decide) (argsL := [(.long p3)]) (rest := []) (rm_failed l Z a0 hw b50 b21 b23 p1 p2 p3 (1 : Int32) h52 n0 (Nat.le_trans Z0 K.1) A50 F_topic_b50 F_message_b50 F_subscription_b50 F_failedAttempts_b50 F_nextAttemptTime_b50 F_cancelled_b50 g_b50) (g := (mkF m 114 #[.val (.int p1), .val (.long p2), .second, .val (.long p3), .second, .val (.long p4), .second, .val (.int p5), .val (.ref b17), .val (.ref b19), .val (.ref b21), .val (.ref b23), .val (.int (1 : Int32)), .val (.int (0 : Int32)), .val (.ref b50), .unset] [(.long p3), (.ref b50)])) rfl (by rw [hml]; rfl) (lenOf pd__J_r_V rfl) rfl (by decide) (Nat.le_of_ble_eq_true rfl) (by decide) (by decide) (hb hby at_114)
      obtain ⟨rfl, Nq53, Kq53, A50', F_topic_b50', F_message_b50', F_subscription_b50', F_failedAttempts_b50', F_nextAttemptTime_b50', F_cancelled_b50'⟩ := Q53
      replace OL := OL.keep Kq53 (allS g_b50 all0)
      replace V18' := V18'.keep Kq53 (ninS ne_b17_b50 nin0)
      replace V20' := V20'.keep Kq53 (ninS ne_b19_b50 nin0)
      replace Eq22 := Eq22.keep Kq53
      replace Eq24 := Eq24.keep Kq53
      replace A50 := A50.keep Kq53
      clear A50
      have A50 := A50'
      have F_topic_b50 := F_topic_b50'
      have F_message_b50 := F_message_b50'
      have F_subscription_b50 := F_subscription_b50'
      have F_failedAttempts_b50 := F_failedAttempts_b50'
      have F_nextAttemptTime_b50 := F_nextAttemptTime_b50'
      have F_cancelled_b50 := F_cancelled_b50'
      replace K := K.trans Kq53 (allS (Or.inr sz_b50) all0)
      have N53 := Fr.app N52 Nq53
      refine own_of st53 ?_
      show own_Ends _ _ _ _ _ _ (T53.setTop (mkF m 117 #[.val (.int p1), .val (.long p2), .second, .val (.long p3), .second, .val (.long p4), .second, .val (.int p5), .val (.ref b17), .val (.ref b19), .val (.ref b21), .val (.ref b23), .val (.int (1 : Int32)), .val (.int (0 : Int32)), .val (.ref b50), .unset] []))
      refine own_of (fun tt_ kk_ => XS.aload X53.here hx rfl (hb hby at_117) rfl rfl kk_) ?_
      show own_Ends _ _ _ _ _ _ (T53.setTop (mkF m 119 #[.val (.int p1), .val (.long p2), .second, .val (.long p3), .second, .val (.long p4), .second, .val (.int p5), .val (.ref b17), .val (.ref b19), .val (.ref b21), .val (.ref b23), .val (.int (1 : Int32)), .val (.int (0 : Int32)), .val (.ref b50), .unset] [(.ref b50)]))
      obtain ⟨v54, T54, L54, h54, X54, e54, Q54, st54⟩ := own_virtual X53 hx hZ hown e53 A50 (hw _ (List.mem_of_getElem? (i := 59) rfl)) (hw _ (List.mem_of_getElem? (i := 60) rfl)) (notFace_of_selects (args := #[]) (mvT hZ (hw _ (List.mem_of_getElem? (i := 62) rfl)))) (hw _ (List.mem_of_getElem? (i := 62) rfl)) (hw _ (List.mem_of_getElem? (i := 61) rfl)) (hw _ (List.mem_of_getElem? (i := 32) rfl)) (hw _ (List.mem_of_getElem? (i := 63) rfl)) (by decide) (argsL := []) (rest := []) (rm_failedAttempts l Z a0 hw b50 (p1 + (1 : Int32)) h53 n0 (Nat.le_trans Z0 K.1) F_failedAttempts_b50) (g := (mkF m 119 #[.val (.int p1), .val (.long p2), .second, .val (.long p3), .second, .val (.long p4), .second, .val (.int p5), .val (.ref b17), .val (.ref b19), .val (.ref b21), .val (.ref b23), .val (.int (1 : Int32)), .val (.int (0 : Int32)), .val (.ref b50), .unset] [(.ref b50)])) rfl (by rw [hml]; rfl) (lenOf pd___r_I rfl) rfl (by decide) (Nat.le_of_ble_eq_true rfl) (by decide) (by decide) (hb hby at_119)
      obtain ⟨rfl, Nq54, q54⟩ := Q54
      replace e54 := e54.trans q54
      have N54 := Fr.app N53 Nq54
      refine own_of st54 ?_
      show own_Ends _ _ _ _ _ _ (T54.setTop (mkF m 122 #[.val (.int p1), .val (.long p2), .second, .val (.long p3), .second, .val (.long p4), .second, .val (.int p5), .val (.ref b17), .val (.ref b19), .val (.ref b21), .val (.ref b23), .val (.int (1 : Int32)), .val (.int (0 : Int32)), .val (.ref b50), .unset] [(.int (p1 + (1 : Int32)))]))
      refine own_of (fun tt_ kk_ => XS.iloadN X54.here hx rfl (hb hby at_122) rfl  kk_) ?_
      show own_Ends _ _ _ _ _ _ (T54.setTop (mkF m 123 #[.val (.int p1), .val (.long p2), .second, .val (.long p3), .second, .val (.long p4), .second, .val (.int p5), .val (.ref b17), .val (.ref b19), .val (.ref b21), .val (.ref b23), .val (.int (1 : Int32)), .val (.int (0 : Int32)), .val (.ref b50), .unset] [(.int p1), (.int (p1 + (1 : Int32)))]))
      refine own_of (fun tt_ kk_ => XS.iconst X54.here hx rfl (hb hby at_123) kk_) ?_
      show own_Ends _ _ _ _ _ _ (T54.setTop (mkF m 124 #[.val (.int p1), .val (.long p2), .second, .val (.long p3), .second, .val (.long p4), .second, .val (.int p5), .val (.ref b17), .val (.ref b19), .val (.ref b21), .val (.ref b23), .val (.int (1 : Int32)), .val (.int (0 : Int32)), .val (.ref b50), .unset] [(.int (1 : Int32)), (.int p1), (.int (p1 + (1 : Int32)))]))
      refine own_of (fun tt_ kk_ => XS.iadd X54.here hx rfl (hb hby at_124) rfl kk_) ?_
      show own_Ends _ _ _ _ _ _ (T54.setTop (mkF m 125 #[.val (.int p1), .val (.long p2), .second, .val (.long p3), .second, .val (.long p4), .second, .val (.int p5), .val (.ref b17), .val (.ref b19), .val (.ref b21), .val (.ref b23), .val (.int (1 : Int32)), .val (.int (0 : Int32)), .val (.ref b50), .unset] [(.int (p1 + (1 : Int32))), (.int (p1 + (1 : Int32)))]))
      refine own_of (fun tt_ kk_ => XS.icmpNo X54.here hx rfl (hb hby at_125) rfl (teq (rfl : (p1 + (1 : Int32)) = (p1 + (1 : Int32)))).2 kk_) ?_
      show own_Ends _ _ _ _ _ _ (T54.setTop (mkF m 128 #[.val (.int p1), .val (.long p2), .second, .val (.long p3), .second, .val (.long p4), .second, .val (.int p5), .val (.ref b17), .val (.ref b19), .val (.ref b21), .val (.ref b23), .val (.int (1 : Int32)), .val (.int (0 : Int32)), .val (.ref b50), .unset] []))
      refine own_of (fun tt_ kk_ => XS.aload X54.here hx rfl (hb hby at_128) rfl rfl kk_) ?_
      show own_Ends _ _ _ _ _ _ (T54.setTop (mkF m 130 #[.val (.int p1), .val (.long p2), .second, .val (.long p3), .second, .val (.long p4), .second, .val (.int p5), .val (.ref b17), .val (.ref b19), .val (.ref b21), .val (.ref b23), .val (.int (1 : Int32)), .val (.int (0 : Int32)), .val (.ref b50), .unset] [(.ref b50)]))
      obtain ⟨v55, T55, L55, h55, X55, e55, Q55, st55⟩ := own_virtual X54 hx hZ hown e54 A50 (hw _ (List.mem_of_getElem? (i := 64) rfl)) (hw _ (List.mem_of_getElem? (i := 65) rfl)) (notFace_of_selects (args := #[]) (mvT hZ (hw _ (List.mem_of_getElem? (i := 67) rfl)))) (hw _ (List.mem_of_getElem? (i := 67) rfl)) (hw _ (List.mem_of_getElem? (i := 66) rfl)) (hw _ (List.mem_of_getElem? (i := 32) rfl)) (hw _ (List.mem_of_getElem? (i := 68) rfl)) (by decide) (argsL := []) (rest := []) (rm_nextAttemptTime l Z a0 hw b50 p3 h53 n0 (Nat.le_trans Z0 K.1) F_nextAttemptTime_b50) (g := (mkF m 130 #[.val (.int p1), .val (.long p2), .second, .val (.long p3), .second, .val (.long p4), .second, .val (.int p5), .val (.ref b17), .val (.ref b19), .val (.ref b21), .val (.ref b23), .val (.int (1 : Int32)), .val (.int (0 : Int32)), .val (.ref b50), .unset] [(.ref b50)])) rfl (by rw [hml]; rfl) (lenOf pd___r_J rfl) rfl (by decide) (Nat.le_of_ble_eq_true rfl) (by decide) (by decide) (hb hby at_130)
      obtain ⟨rfl, Nq55, q55⟩ := Q55
      replace e55 := e55.trans q55
      have N55 := Fr.app N54 Nq55
      refine own_of st55 ?_
      show own_Ends _ _ _ _ _ _ (T55.setTop (mkF m 133 #[.val (.int p1), .val (.long p2), .second, .val (.long p3), .second, .val (.long p4), .second, .val (.int p5), .val (.ref b17), .val (.ref b19), .val (.ref b21), .val (.ref b23), .val (.int (1 : Int32)), .val (.int (0 : Int32)), .val (.ref b50), .unset] [(.long p3)]))
      refine own_of (fun tt_ kk_ => XS.lloadN X55.here hx rfl (hb hby at_133) rfl  kk_) ?_
      show own_Ends _ _ _ _ _ _ (T55.setTop (mkF m 134 #[.val (.int p1), .val (.long p2), .second, .val (.long p3), .second, .val (.long p4), .second, .val (.int p5), .val (.ref b17), .val (.ref b19), .val (.ref b21), .val (.ref b23), .val (.int (1 : Int32)), .val (.int (0 : Int32)), .val (.ref b50), .unset] [(.long p3), (.long p3)]))
      refine own_of (fun tt_ kk_ => XS.lcmp X55.here hx rfl (hb hby at_134) rfl kk_) ?_
      show own_Ends _ _ _ _ _ _ (T55.setTop (mkF m 135 #[.val (.int p1), .val (.long p2), .second, .val (.long p3), .second, .val (.long p4), .second, .val (.int p5), .val (.ref b17), .val (.ref b19), .val (.ref b21), .val (.ref b23), .val (.int (1 : Int32)), .val (.int (0 : Int32)), .val (.ref b50), .unset] [(.int (lcmpW p3 p3))]))
      refine own_of (fun tt_ kk_ => XS.ifNo X55.here hx rfl (hb hby at_135) rfl ((if0 _ _).trans (teq ((lw_eq _ _).mpr rfl)).2) kk_) ?_
      show own_Ends _ _ _ _ _ _ (T55.setTop (mkF m 138 #[.val (.int p1), .val (.long p2), .second, .val (.long p3), .second, .val (.long p4), .second, .val (.int p5), .val (.ref b17), .val (.ref b19), .val (.ref b21), .val (.ref b23), .val (.int (1 : Int32)), .val (.int (0 : Int32)), .val (.ref b50), .unset] []))
      refine own_of (fun tt_ kk_ => XS.aload X55.here hx rfl (hb hby at_138) rfl rfl kk_) ?_
      show own_Ends _ _ _ _ _ _ (T55.setTop (mkF m 140 #[.val (.int p1), .val (.long p2), .second, .val (.long p3), .second, .val (.long p4), .second, .val (.int p5), .val (.ref b17), .val (.ref b19), .val (.ref b21), .val (.ref b23), .val (.int (1 : Int32)), .val (.int (0 : Int32)), .val (.ref b50), .unset] [(.ref b50)]))
      obtain ⟨v56, T56, L56, h56, X56, e56, Q56, st56⟩ := own_virtual X55 hx hZ hown e55 A50 (hw _ (List.mem_of_getElem? (i := 69) rfl)) (hw _ (List.mem_of_getElem? (i := 70) rfl)) (notFace_of_selects (args := #[]) (mvT hZ (hw _ (List.mem_of_getElem? (i := 72) rfl)))) (hw _ (List.mem_of_getElem? (i := 72) rfl)) (hw _ (List.mem_of_getElem? (i := 71) rfl)) (hw _ (List.mem_of_getElem? (i := 32) rfl)) (hw _ (List.mem_of_getElem? (i := 73) rfl)) (by decide) (argsL := []) (rest := []) (rm_topic l Z a0 hw b50 b21 h53 n0 (Nat.le_trans Z0 K.1) F_topic_b50) (g := (mkF m 140 #[.val (.int p1), .val (.long p2), .second, .val (.long p3), .second, .val (.long p4), .second, .val (.int p5), .val (.ref b17), .val (.ref b19), .val (.ref b21), .val (.ref b23), .val (.int (1 : Int32)), .val (.int (0 : Int32)), .val (.ref b50), .unset] [(.ref b50)])) rfl (by rw [hml]; rfl) (lenOf pd___r_Ljava_lang_String_ rfl) rfl (by decide) (Nat.le_of_ble_eq_true rfl) (by decide) (by decide) (hb hby at_140)
      obtain ⟨rfl, Nq56, q56⟩ := Q56
      replace e56 := e56.trans q56
      have N56 := Fr.app N55 Nq56
      refine own_of st56 ?_
      show own_Ends _ _ _ _ _ _ (T56.setTop (mkF m 143 #[.val (.int p1), .val (.long p2), .second, .val (.long p3), .second, .val (.long p4), .second, .val (.int p5), .val (.ref b17), .val (.ref b19), .val (.ref b21), .val (.ref b23), .val (.int (1 : Int32)), .val (.int (0 : Int32)), .val (.ref b50), .unset] [(.ref b21)]))
      refine own_of (fun tt_ kk_ => XS.aload X56.here hx rfl (hb hby at_143) rfl rfl kk_) ?_
      show own_Ends _ _ _ _ _ _ (T56.setTop (mkF m 145 #[.val (.int p1), .val (.long p2), .second, .val (.long p3), .second, .val (.long p4), .second, .val (.int p5), .val (.ref b17), .val (.ref b19), .val (.ref b21), .val (.ref b23), .val (.int (1 : Int32)), .val (.int (0 : Int32)), .val (.ref b50), .unset] [(.ref b21), (.ref b21)]))
      refine own_of (fun tt_ kk_ => Jvm.RoadKit.acmp (g := (mkF m 145 #[.val (.int p1), .val (.long p2), .second, .val (.long p3), .second, .val (.long p4), .second, .val (.int p5), .val (.ref b17), .val (.ref b19), .val (.ref b21), .val (.ref b23), .val (.int (1 : Int32)), .val (.int (0 : Int32)), .val (.ref b50), .unset] [(.ref b21), (.ref b21)])) X56 hx rfl rfl rfl (pc0 := 145) (pc' := 148) (same := true) rfl (hb hby at_145) rfl (decide_eq_true rfl) (by decide) (by decide) kk_) ?_
      show own_Ends _ _ _ _ _ _ (T56.setTop (mkF m 148 #[.val (.int p1), .val (.long p2), .second, .val (.long p3), .second, .val (.long p4), .second, .val (.int p5), .val (.ref b17), .val (.ref b19), .val (.ref b21), .val (.ref b23), .val (.int (1 : Int32)), .val (.int (0 : Int32)), .val (.ref b50), .unset] []))
      refine own_of (fun tt_ kk_ => XS.aload X56.here hx rfl (hb hby at_148) rfl rfl kk_) ?_
      show own_Ends _ _ _ _ _ _ (T56.setTop (mkF m 150 #[.val (.int p1), .val (.long p2), .second, .val (.long p3), .second, .val (.long p4), .second, .val (.int p5), .val (.ref b17), .val (.ref b19), .val (.ref b21), .val (.ref b23), .val (.int (1 : Int32)), .val (.int (0 : Int32)), .val (.ref b50), .unset] [(.ref b50)]))
      obtain ⟨v57, T57, L57, h57, X57, e57, Q57, st57⟩ := own_virtual X56 hx hZ hown e56 A50 (hw _ (List.mem_of_getElem? (i := 74) rfl)) (hw _ (List.mem_of_getElem? (i := 75) rfl)) (notFace_of_selects (args := #[]) (mvT hZ (hw _ (List.mem_of_getElem? (i := 77) rfl)))) (hw _ (List.mem_of_getElem? (i := 77) rfl)) (hw _ (List.mem_of_getElem? (i := 76) rfl)) (hw _ (List.mem_of_getElem? (i := 32) rfl)) (hw _ (List.mem_of_getElem? (i := 78) rfl)) (by decide) (argsL := []) (rest := []) (rm_subscription l Z a0 hw b50 b23 h53 n0 (Nat.le_trans Z0 K.1) F_subscription_b50) (g := (mkF m 150 #[.val (.int p1), .val (.long p2), .second, .val (.long p3), .second, .val (.long p4), .second, .val (.int p5), .val (.ref b17), .val (.ref b19), .val (.ref b21), .val (.ref b23), .val (.int (1 : Int32)), .val (.int (0 : Int32)), .val (.ref b50), .unset] [(.ref b50)])) rfl (by rw [hml]; rfl) (lenOf pd___r_Ljava_lang_String_ rfl) rfl (by decide) (Nat.le_of_ble_eq_true rfl) (by decide) (by decide) (hb hby at_150)
      obtain ⟨rfl, Nq57, q57⟩ := Q57
      replace e57 := e57.trans q57
      have N57 := Fr.app N56 Nq57
      refine own_of st57 ?_
      show own_Ends _ _ _ _ _ _ (T57.setTop (mkF m 153 #[.val (.int p1), .val (.long p2), .second, .val (.long p3), .second, .val (.long p4), .second, .val (.int p5), .val (.ref b17), .val (.ref b19), .val (.ref b21), .val (.ref b23), .val (.int (1 : Int32)), .val (.int (0 : Int32)), .val (.ref b50), .unset] [(.ref b23)]))
      refine own_of (fun tt_ kk_ => XS.aload X57.here hx rfl (hb hby at_153) rfl rfl kk_) ?_
      show own_Ends _ _ _ _ _ _ (T57.setTop (mkF m 155 #[.val (.int p1), .val (.long p2), .second, .val (.long p3), .second, .val (.long p4), .second, .val (.int p5), .val (.ref b17), .val (.ref b19), .val (.ref b21), .val (.ref b23), .val (.int (1 : Int32)), .val (.int (0 : Int32)), .val (.ref b50), .unset] [(.ref b23), (.ref b23)]))
      refine own_of (fun tt_ kk_ => Jvm.RoadKit.acmp (g := (mkF m 155 #[.val (.int p1), .val (.long p2), .second, .val (.long p3), .second, .val (.long p4), .second, .val (.int p5), .val (.ref b17), .val (.ref b19), .val (.ref b21), .val (.ref b23), .val (.int (1 : Int32)), .val (.int (0 : Int32)), .val (.ref b50), .unset] [(.ref b23), (.ref b23)])) X57 hx rfl rfl rfl (pc0 := 155) (pc' := 158) (same := true) rfl (hb hby at_155) rfl (decide_eq_true rfl) (by decide) (by decide) kk_) ?_
      show own_Ends _ _ _ _ _ _ (T57.setTop (mkF m 158 #[.val (.int p1), .val (.long p2), .second, .val (.long p3), .second, .val (.long p4), .second, .val (.int p5), .val (.ref b17), .val (.ref b19), .val (.ref b21), .val (.ref b23), .val (.int (1 : Int32)), .val (.int (0 : Int32)), .val (.ref b50), .unset] []))
      refine own_of (fun tt_ kk_ => XS.aload X57.here hx rfl (hb hby at_158) rfl rfl kk_) ?_
      show own_Ends _ _ _ _ _ _ (T57.setTop (mkF m 160 #[.val (.int p1), .val (.long p2), .second, .val (.long p3), .second, .val (.long p4), .second, .val (.int p5), .val (.ref b17), .val (.ref b19), .val (.ref b21), .val (.ref b23), .val (.int (1 : Int32)), .val (.int (0 : Int32)), .val (.ref b50), .unset] [(.ref b50)]))
      obtain ⟨v58, T58, L58, h58, X58, e58, Q58, st58⟩ := own_virtual X57 hx hZ hown e57 A50 (hw _ (List.mem_of_getElem? (i := 79) rfl)) (hw _ (List.mem_of_getElem? (i := 80) rfl)) (notFace_of_selects (args := #[]) (mvT hZ (hw _ (List.mem_of_getElem? (i := 82) rfl)))) (hw _ (List.mem_of_getElem? (i := 82) rfl)) (hw _ (List.mem_of_getElem? (i := 81) rfl)) (hw _ (List.mem_of_getElem? (i := 32) rfl)) (hw _ (List.mem_of_getElem? (i := 83) rfl)) (by decide) (argsL := []) (rest := []) (rm_message l Z a0 hw b50  h53 n0 (Nat.le_trans Z0 K.1) F_message_b50) (g := (mkF m 160 #[.val (.int p1), .val (.long p2), .second, .val (.long p3), .second, .val (.long p4), .second, .val (.int p5), .val (.ref b17), .val (.ref b19), .val (.ref b21), .val (.ref b23), .val (.int (1 : Int32)), .val (.int (0 : Int32)), .val (.ref b50), .unset] [(.ref b50)])) rfl (by rw [hml]; rfl) (lenOf pd___r_Lcom_example_libenq_libenq_engine_TopicMessageRecord_ rfl) rfl (by decide) (Nat.le_of_ble_eq_true rfl) (by decide) (by decide) (hb hby at_160)
      obtain ⟨rfl, Nq58, q58⟩ := Q58
      replace e58 := e58.trans q58
      have N58 := Fr.app N57 Nq58
      refine own_of st58 ?_
      show own_Ends _ _ _ _ _ _ (T58.setTop (mkF m 163 #[.val (.int p1), .val (.long p2), .second, .val (.long p3), .second, .val (.long p4), .second, .val (.int p5), .val (.ref b17), .val (.ref b19), .val (.ref b21), .val (.ref b23), .val (.int (1 : Int32)), .val (.int (0 : Int32)), .val (.ref b50), .unset] [.null]))
      refine own_of (fun tt_ kk_ => XS.ifnonnullNo X58.here hx rfl (hb hby at_163) rfl kk_) ?_
      show own_Ends _ _ _ _ _ _ (T58.setTop (mkF m 166 #[.val (.int p1), .val (.long p2), .second, .val (.long p3), .second, .val (.long p4), .second, .val (.int p5), .val (.ref b17), .val (.ref b19), .val (.ref b21), .val (.ref b23), .val (.int (1 : Int32)), .val (.int (0 : Int32)), .val (.ref b50), .unset] []))
      refine own_of (fun tt_ kk_ => XS.aload X58.here hx rfl (hb hby at_166) rfl rfl kk_) ?_
      show own_Ends _ _ _ _ _ _ (T58.setTop (mkF m 168 #[.val (.int p1), .val (.long p2), .second, .val (.long p3), .second, .val (.long p4), .second, .val (.int p5), .val (.ref b17), .val (.ref b19), .val (.ref b21), .val (.ref b23), .val (.int (1 : Int32)), .val (.int (0 : Int32)), .val (.ref b50), .unset] [(.ref b50)]))
      obtain ⟨v59, T59, L59, h59, X59, e59, Q59, st59⟩ := own_virtual X58 hx hZ hown e58 A50 (hw _ (List.mem_of_getElem? (i := 84) rfl)) (hw _ (List.mem_of_getElem? (i := 85) rfl)) (notFace_of_selects (args := #[]) (mvT hZ (hw _ (List.mem_of_getElem? (i := 87) rfl)))) (hw _ (List.mem_of_getElem? (i := 87) rfl)) (hw _ (List.mem_of_getElem? (i := 86) rfl)) (hw _ (List.mem_of_getElem? (i := 32) rfl)) (hw _ (List.mem_of_getElem? (i := 88) rfl)) (by decide) (argsL := []) (rest := []) (rm_cancelled l Z a0 hw b50 (1 : Int32) h53 n0 (Nat.le_trans Z0 K.1) F_cancelled_b50 rfl) (g := (mkF m 168 #[.val (.int p1), .val (.long p2), .second, .val (.long p3), .second, .val (.long p4), .second, .val (.int p5), .val (.ref b17), .val (.ref b19), .val (.ref b21), .val (.ref b23), .val (.int (1 : Int32)), .val (.int (0 : Int32)), .val (.ref b50), .unset] [(.ref b50)])) rfl (by rw [hml]; rfl) (lenOf pd___r_Z rfl) rfl (by decide) (Nat.le_of_ble_eq_true rfl) (by decide) (by decide) (hb hby at_168)
      obtain ⟨rfl, Nq59, q59⟩ := Q59
      replace e59 := e59.trans q59
      have N59 := Fr.app N58 Nq59
      refine own_of st59 ?_
      show own_Ends _ _ _ _ _ _ (T59.setTop (mkF m 171 #[.val (.int p1), .val (.long p2), .second, .val (.long p3), .second, .val (.long p4), .second, .val (.int p5), .val (.ref b17), .val (.ref b19), .val (.ref b21), .val (.ref b23), .val (.int (1 : Int32)), .val (.int (0 : Int32)), .val (.ref b50), .unset] [(.int (1 : Int32))]))
      refine own_of (fun tt_ kk_ => XS.iload X59.here hx rfl (hb hby at_171) rfl  kk_) ?_
      show own_Ends _ _ _ _ _ _ (T59.setTop (mkF m 173 #[.val (.int p1), .val (.long p2), .second, .val (.long p3), .second, .val (.long p4), .second, .val (.int p5), .val (.ref b17), .val (.ref b19), .val (.ref b21), .val (.ref b23), .val (.int (1 : Int32)), .val (.int (0 : Int32)), .val (.ref b50), .unset] [(.int (1 : Int32)), (.int (1 : Int32))]))
      refine own_of (fun tt_ kk_ => XS.icmpNo X59.here hx rfl (hb hby at_173) rfl (teq (by decide : ((1 : Int32) = (1 : Int32)))).2 kk_) ?_
      show own_Ends _ _ _ _ _ _ (T59.setTop (mkF m 176 #[.val (.int p1), .val (.long p2), .second, .val (.long p3), .second, .val (.long p4), .second, .val (.int p5), .val (.ref b17), .val (.ref b19), .val (.ref b21), .val (.ref b23), .val (.int (1 : Int32)), .val (.int (0 : Int32)), .val (.ref b50), .unset] []))
      refine own_of (fun tt_ kk_ => XS.iconst X59.here hx rfl (hb hby at_176) kk_) ?_
      show own_Ends _ _ _ _ _ _ (T59.setTop (mkF m 177 #[.val (.int p1), .val (.long p2), .second, .val (.long p3), .second, .val (.long p4), .second, .val (.int p5), .val (.ref b17), .val (.ref b19), .val (.ref b21), .val (.ref b23), .val (.int (1 : Int32)), .val (.int (0 : Int32)), .val (.ref b50), .unset] [(.int (1 : Int32))]))
      refine own_of (fun tt_ kk_ => XS.goto X59.here hx rfl (pc0 := 177) (pc' := 181) rfl (hb hby at_177) (by decide) (by decide) kk_) ?_
      show own_Ends _ _ _ _ _ _ (T59.setTop (mkF m 181 #[.val (.int p1), .val (.long p2), .second, .val (.long p3), .second, .val (.long p4), .second, .val (.int p5), .val (.ref b17), .val (.ref b19), .val (.ref b21), .val (.ref b23), .val (.int (1 : Int32)), .val (.int (0 : Int32)), .val (.ref b50), .unset] [(.int (1 : Int32))]))
      refine own_of (fun tt_ kk_ => XS.istore X59.here hx rfl (hb hby at_181) rfl (l' := #[.val (.int p1), .val (.long p2), .second, .val (.long p3), .second, .val (.long p4), .second, .val (.int p5), .val (.ref b17), .val (.ref b19), .val (.ref b21), .val (.ref b23), .val (.int (1 : Int32)), .val (.int (0 : Int32)), .val (.ref b50), .val (.int (1 : Int32))]) rfl kk_) ?_
      show own_Ends _ _ _ _ _ _ (T59.setTop (mkF m 183 #[.val (.int p1), .val (.long p2), .second, .val (.long p3), .second, .val (.long p4), .second, .val (.int p5), .val (.ref b17), .val (.ref b19), .val (.ref b21), .val (.ref b23), .val (.int (1 : Int32)), .val (.int (0 : Int32)), .val (.ref b50), .val (.int (1 : Int32))] []))
      refine own_of (fun tt_ kk_ => XS.iload X59.here hx rfl (hb hby at_183) rfl  kk_) ?_
      show own_Ends _ _ _ _ _ _ (T59.setTop (mkF m 185 #[.val (.int p1), .val (.long p2), .second, .val (.long p3), .second, .val (.long p4), .second, .val (.int p5), .val (.ref b17), .val (.ref b19), .val (.ref b21), .val (.ref b23), .val (.int (1 : Int32)), .val (.int (0 : Int32)), .val (.ref b50), .val (.int (1 : Int32))] [(.int (0 : Int32))]))
      refine own_of (fun tt_ kk_ => XS.ifYes X59.here hx rfl (pc0 := 185) (pc' := 239) rfl (hb hby at_185) rfl ((if0 _ _).trans (teq (by decide : ((0 : Int32) = (0 : Int32)))).1) (by decide) (by decide) kk_) ?_
      show own_Ends _ _ _ _ _ _ (T59.setTop (mkF m 239 #[.val (.int p1), .val (.long p2), .second, .val (.long p3), .second, .val (.long p4), .second, .val (.int p5), .val (.ref b17), .val (.ref b19), .val (.ref b21), .val (.ref b23), .val (.int (1 : Int32)), .val (.int (0 : Int32)), .val (.ref b50), .val (.int (1 : Int32))] []))
      refine own_of (fun tt_ kk_ => XS.iload X59.here hx rfl (hb hby at_239) rfl  kk_) ?_
      show own_Ends _ _ _ _ _ _ (T59.setTop (mkF m 241 #[.val (.int p1), .val (.long p2), .second, .val (.long p3), .second, .val (.long p4), .second, .val (.int p5), .val (.ref b17), .val (.ref b19), .val (.ref b21), .val (.ref b23), .val (.int (1 : Int32)), .val (.int (0 : Int32)), .val (.ref b50), .val (.int (1 : Int32))] [(.int (1 : Int32))]))
      refine own_retN X59 hx hlk e59 (t := .boolean) hret (by simp) (z' := (1 : Int32)) rfl (hb hby at_241) (by decide) (by decide) ?_
      exact ⟨rfl, N59⟩
    · refine own_of (fun tt_ kk_ => XS.ifNo X24.here hx rfl (hb hby at_75) rfl ((if0 _ _).trans (feq hc49).1) kk_) ?_
      show own_Ends _ _ _ _ _ _ (T24.setTop (mkF m 78 #[.val (.int p1), .val (.long p2), .second, .val (.long p3), .second, .val (.long p4), .second, .val (.int p5), .val (.ref b17), .val (.ref b19), .val (.ref b21), .val (.ref b23), .val (.int (1 : Int32)), .unset, .unset, .unset] []))
      refine own_of (fun tt_ kk_ => XS.iconst X24.here hx rfl (hb hby at_78) kk_) ?_
      show own_Ends _ _ _ _ _ _ (T24.setTop (mkF m 79 #[.val (.int p1), .val (.long p2), .second, .val (.long p3), .second, .val (.long p4), .second, .val (.int p5), .val (.ref b17), .val (.ref b19), .val (.ref b21), .val (.ref b23), .val (.int (1 : Int32)), .unset, .unset, .unset] [(.int (1 : Int32))]))
      refine own_of (fun tt_ kk_ => XS.goto X24.here hx rfl (pc0 := 79) (pc' := 83) rfl (hb hby at_79) (by decide) (by decide) kk_) ?_
      show own_Ends _ _ _ _ _ _ (T24.setTop (mkF m 83 #[.val (.int p1), .val (.long p2), .second, .val (.long p3), .second, .val (.long p4), .second, .val (.int p5), .val (.ref b17), .val (.ref b19), .val (.ref b21), .val (.ref b23), .val (.int (1 : Int32)), .unset, .unset, .unset] [(.int (1 : Int32))]))
      refine own_of (fun tt_ kk_ => XS.istore X24.here hx rfl (hb hby at_83) rfl (l' := #[.val (.int p1), .val (.long p2), .second, .val (.long p3), .second, .val (.long p4), .second, .val (.int p5), .val (.ref b17), .val (.ref b19), .val (.ref b21), .val (.ref b23), .val (.int (1 : Int32)), .val (.int (1 : Int32)), .unset, .unset]) rfl kk_) ?_
      show own_Ends _ _ _ _ _ _ (T24.setTop (mkF m 85 #[.val (.int p1), .val (.long p2), .second, .val (.long p3), .second, .val (.long p4), .second, .val (.int p5), .val (.ref b17), .val (.ref b19), .val (.ref b21), .val (.ref b23), .val (.int (1 : Int32)), .val (.int (1 : Int32)), .unset, .unset] []))
      obtain ⟨T60, h60, X60, e60, E60, A60, D60, -, st60⟩ := newO X24 hx hZ hown (hw _ (List.mem_of_getElem? (i := 30) rfl)) (hw _ (List.mem_of_getElem? (i := 31) rfl)) (hw _ (List.mem_of_getElem? (i := 32) rfl)) e24 (g := (mkF m 85 #[.val (.int p1), .val (.long p2), .second, .val (.long p3), .second, .val (.long p4), .second, .val (.int p5), .val (.ref b17), .val (.ref b19), .val (.ref b21), .val (.ref b23), .val (.int (1 : Int32)), .val (.int (1 : Int32)), .unset, .unset] [])) rfl (hb hby at_85) (by decide) (by decide)
      obtain ⟨b60, g60⟩ : ∃ z, z = h24.size := ⟨_, rfl⟩
      rw [← g60] at A60 D60 st60
      have ne_b17_b60 : b17 ≠ b60 := Nat.ne_of_lt (Nat.lt_of_lt_of_le V18'.lt (Nat.le_of_eq g60.symm))
      have ne_b19_b60 : b19 ≠ b60 := Nat.ne_of_lt (Nat.lt_of_lt_of_le V20'.lt (Nat.le_of_eq g60.symm))
      have ne_b21_b60 : b21 ≠ b60 := Nat.ne_of_lt (Nat.lt_of_lt_of_le Eq22.lt (Nat.le_of_eq g60.symm))
      have ne_b23_b60 : b23 ≠ b60 := Nat.ne_of_lt (Nat.lt_of_lt_of_le Eq24.lt (Nat.le_of_eq g60.symm))
      have sz_b60 : h0.size ≤ b60 := Nat.le_trans K.1 (Nat.le_of_eq g60.symm)
      have g_b60 : n0 ≤ b60 := Nat.le_trans Z0 sz_b60
      replace OL := OL.ext E60
      replace V18' := V18'.ext E60
      replace V20' := V20'.ext E60
      replace Eq22 := Eq22.ext E60
      replace Eq24 := Eq24.ext E60
      have F_topic_b60 : Fld Z h60 b60 "com/example/libenq/libenq/engine/Delivery" "topic" "Ljava/lang/String;" .null := D60 (Or.inr (hw _ (List.mem_of_getElem? (i := 38) rfl))) (ty := (.object "java/lang/String")) (by decide)
      have F_message_b60 : Fld Z h60 b60 "com/example/libenq/libenq/engine/Delivery" "message" "Lcom/example/libenq/libenq/engine/TopicMessageRecord;" .null := D60 (Or.inr (hw _ (List.mem_of_getElem? (i := 40) rfl))) (ty := (.object "com/example/libenq/libenq/engine/TopicMessageRecord")) (by decide)
      have F_subscription_b60 : Fld Z h60 b60 "com/example/libenq/libenq/engine/Delivery" "subscription" "Ljava/lang/String;" .null := D60 (Or.inr (hw _ (List.mem_of_getElem? (i := 42) rfl))) (ty := (.object "java/lang/String")) (by decide)
      have F_failedAttempts_b60 : Fld Z h60 b60 "com/example/libenq/libenq/engine/Delivery" "failedAttempts" "I" (.int (0 : Int32)) := D60 (Or.inl (hw _ (List.mem_of_getElem? (i := 44) rfl))) (ty := .int) (by decide)
      have F_nextAttemptTime_b60 : Fld Z h60 b60 "com/example/libenq/libenq/engine/Delivery" "nextAttemptTime" "J" (.long (0 : Int64)) := D60 (Or.inl (hw _ (List.mem_of_getElem? (i := 46) rfl))) (ty := .long) (by decide)
      have F_cancelled_b60 : Fld Z h60 b60 "com/example/libenq/libenq/engine/Delivery" "cancelled" "Z" (.int (0 : Int32)) := D60 (Or.inl (hw _ (List.mem_of_getElem? (i := 53) rfl))) (ty := .boolean) (by decide)
      replace K := K.ext E60
      refine own_of st60 ?_
      show own_Ends _ _ _ _ _ _ (T60.setTop (mkF m 88 #[.val (.int p1), .val (.long p2), .second, .val (.long p3), .second, .val (.long p4), .second, .val (.int p5), .val (.ref b17), .val (.ref b19), .val (.ref b21), .val (.ref b23), .val (.int (1 : Int32)), .val (.int (1 : Int32)), .unset, .unset] [(.ref b60)]))
      refine own_of (fun tt_ kk_ => XS.dup X60.here hx rfl (hb hby at_88) rfl rfl kk_) ?_
      show own_Ends _ _ _ _ _ _ (T60.setTop (mkF m 89 #[.val (.int p1), .val (.long p2), .second, .val (.long p3), .second, .val (.long p4), .second, .val (.int p5), .val (.ref b17), .val (.ref b19), .val (.ref b21), .val (.ref b23), .val (.int (1 : Int32)), .val (.int (1 : Int32)), .unset, .unset] [(.ref b60), (.ref b60)]))
      refine own_of (fun tt_ kk_ => XS.aload X60.here hx rfl (hb hby at_89) rfl rfl kk_) ?_
      show own_Ends _ _ _ _ _ _ (T60.setTop (mkF m 91 #[.val (.int p1), .val (.long p2), .second, .val (.long p3), .second, .val (.long p4), .second, .val (.int p5), .val (.ref b17), .val (.ref b19), .val (.ref b21), .val (.ref b23), .val (.int (1 : Int32)), .val (.int (1 : Int32)), .unset, .unset] [(.ref b21), (.ref b60), (.ref b60)]))
      refine own_of (fun tt_ kk_ => XS.aconstNull X60.here hx rfl (hb hby at_91) kk_) ?_
      show own_Ends _ _ _ _ _ _ (T60.setTop (mkF m 92 #[.val (.int p1), .val (.long p2), .second, .val (.long p3), .second, .val (.long p4), .second, .val (.int p5), .val (.ref b17), .val (.ref b19), .val (.ref b21), .val (.ref b23), .val (.int (1 : Int32)), .val (.int (1 : Int32)), .unset, .unset] [.null, (.ref b21), (.ref b60), (.ref b60)]))
      refine own_of (fun tt_ kk_ => XS.aload X60.here hx rfl (hb hby at_92) rfl rfl kk_) ?_
      show own_Ends _ _ _ _ _ _ (T60.setTop (mkF m 94 #[.val (.int p1), .val (.long p2), .second, .val (.long p3), .second, .val (.long p4), .second, .val (.int p5), .val (.ref b17), .val (.ref b19), .val (.ref b21), .val (.ref b23), .val (.int (1 : Int32)), .val (.int (1 : Int32)), .unset, .unset] [(.ref b23), .null, (.ref b21), (.ref b60), (.ref b60)]))
      refine own_of (fun tt_ kk_ => XS.iloadN X60.here hx rfl (hb hby at_94) rfl  kk_) ?_
      show own_Ends _ _ _ _ _ _ (T60.setTop (mkF m 95 #[.val (.int p1), .val (.long p2), .second, .val (.long p3), .second, .val (.long p4), .second, .val (.int p5), .val (.ref b17), .val (.ref b19), .val (.ref b21), .val (.ref b23), .val (.int (1 : Int32)), .val (.int (1 : Int32)), .unset, .unset] [(.int p1), (.ref b23), .null, (.ref b21), (.ref b60), (.ref b60)]))
      refine own_of (fun tt_ kk_ => XS.lloadN X60.here hx rfl (hb hby at_95) rfl  kk_) ?_
      show own_Ends _ _ _ _ _ _ (T60.setTop (mkF m 96 #[.val (.int p1), .val (.long p2), .second, .val (.long p3), .second, .val (.long p4), .second, .val (.int p5), .val (.ref b17), .val (.ref b19), .val (.ref b21), .val (.ref b23), .val (.int (1 : Int32)), .val (.int (1 : Int32)), .unset, .unset] [(.long p2), (.int p1), (.ref b23), .null, (.ref b21), (.ref b60), (.ref b60)]))
      obtain ⟨v61, T61, L61, h61, X61, e61, Q61, st61⟩ := own_special X60 hx hZ hown e60 (b := b60) rfl (hw _ (List.mem_of_getElem? (i := 33) rfl)) (hw _ (List.mem_of_getElem? (i := 34) rfl)) (hw _ (List.mem_of_getElem? (i := 32) rfl)) (hw _ (List.mem_of_getElem? (i := 35) rfl)) (by decide) (argsL := [(.ref b21), .null, (.ref b23), (.int p1), (.long p2)]) (rest := [(.ref b60)]) (rm_init l Z a0 hw b60 b21 b23 p1 p2 h60 n0 (Nat.le_trans Z0 K.1) A60 F_topic_b60 F_message_b60 F_subscription_b60 F_failedAttempts_b60 F_nextAttemptTime_b60 F_cancelled_b60 g_b60) (g := (mkF m 96 #[.val (.int p1), .val (.long p2), .second, .val (.long p3), .second, .val (.long p4), .second, .val (.int p5), .val (.ref b17), .val (.ref b19), .val (.ref b21), .val (.ref b23), .val (.int (1 : Int32)), .val (.int (1 : Int32)), .unset, .unset] [(.long p2), (.int p1), (.ref b23), .null, (.ref b21), (.ref b60), (.ref b60)])) rfl (by rw [hml]; rfl) (lenOf pd__Ljava_lang_String_Lcom_example_libenq_libenq_engine_TopicMessageRecord_Ljava_lang_String_IJ_r_V rfl) rfl (by decide) (Nat.le_of_ble_eq_true rfl) (by decide) (by decide) (hb hby at_96)
      obtain ⟨rfl, Nq61, Kq61, A60', F_topic_b60', F_message_b60', F_subscription_b60', F_failedAttempts_b60', F_nextAttemptTime_b60', F_cancelled_b60'⟩ := Q61
      replace OL := OL.keep Kq61 (allS g_b60 all0)
      replace V18' := V18'.keep Kq61 (ninS ne_b17_b60 nin0)
      replace V20' := V20'.keep Kq61 (ninS ne_b19_b60 nin0)
      replace Eq22 := Eq22.keep Kq61
      replace Eq24 := Eq24.keep Kq61
      replace A60 := A60.keep Kq61
      clear A60
      have A60 := A60'
      have F_topic_b60 := F_topic_b60'
      have F_message_b60 := F_message_b60'
      have F_subscription_b60 := F_subscription_b60'
      have F_failedAttempts_b60 := F_failedAttempts_b60'
      have F_nextAttemptTime_b60 := F_nextAttemptTime_b60'
      have F_cancelled_b60 := F_cancelled_b60'
      replace K := K.trans Kq61 (allS (Or.inr sz_b60) all0)
      have N61 := Fr.app N24 Nq61
      refine own_of st61 ?_
      show own_Ends _ _ _ _ _ _ (T61.setTop (mkF m 99 #[.val (.int p1), .val (.long p2), .second, .val (.long p3), .second, .val (.long p4), .second, .val (.int p5), .val (.ref b17), .val (.ref b19), .val (.ref b21), .val (.ref b23), .val (.int (1 : Int32)), .val (.int (1 : Int32)), .unset, .unset] [(.ref b60)]))
      refine own_of (fun tt_ kk_ => XS.astore X61.here hx rfl (hb hby at_99) rfl rfl (l' := #[.val (.int p1), .val (.long p2), .second, .val (.long p3), .second, .val (.long p4), .second, .val (.int p5), .val (.ref b17), .val (.ref b19), .val (.ref b21), .val (.ref b23), .val (.int (1 : Int32)), .val (.int (1 : Int32)), .val (.ref b60), .unset]) rfl kk_) ?_
      show own_Ends _ _ _ _ _ _ (T61.setTop (mkF m 101 #[.val (.int p1), .val (.long p2), .second, .val (.long p3), .second, .val (.long p4), .second, .val (.int p5), .val (.ref b17), .val (.ref b19), .val (.ref b21), .val (.ref b23), .val (.int (1 : Int32)), .val (.int (1 : Int32)), .val (.ref b60), .unset] []))
      refine own_of (fun tt_ kk_ => XS.iload X61.here hx rfl (hb hby at_101) rfl  kk_) ?_
      show own_Ends _ _ _ _ _ _ (T61.setTop (mkF m 103 #[.val (.int p1), .val (.long p2), .second, .val (.long p3), .second, .val (.long p4), .second, .val (.int p5), .val (.ref b17), .val (.ref b19), .val (.ref b21), .val (.ref b23), .val (.int (1 : Int32)), .val (.int (1 : Int32)), .val (.ref b60), .unset] [(.int (1 : Int32))]))
      refine own_of (fun tt_ kk_ => XS.ifNo X61.here hx rfl (hb hby at_103) rfl ((if0 _ _).trans (feq (by decide : ¬ ((1 : Int32) = (0 : Int32)))).1) kk_) ?_
      show own_Ends _ _ _ _ _ _ (T61.setTop (mkF m 106 #[.val (.int p1), .val (.long p2), .second, .val (.long p3), .second, .val (.long p4), .second, .val (.int p5), .val (.ref b17), .val (.ref b19), .val (.ref b21), .val (.ref b23), .val (.int (1 : Int32)), .val (.int (1 : Int32)), .val (.ref b60), .unset] []))
      refine own_of (fun tt_ kk_ => XS.aload X61.here hx rfl (hb hby at_106) rfl rfl kk_) ?_
      show own_Ends _ _ _ _ _ _ (T61.setTop (mkF m 108 #[.val (.int p1), .val (.long p2), .second, .val (.long p3), .second, .val (.long p4), .second, .val (.int p5), .val (.ref b17), .val (.ref b19), .val (.ref b21), .val (.ref b23), .val (.int (1 : Int32)), .val (.int (1 : Int32)), .val (.ref b60), .unset] [(.ref b60)]))
      obtain ⟨v62, T62, L62, h62, X62, e62, Q62, st62⟩ := own_virtual X61 hx hZ hown e61 A60 (hw _ (List.mem_of_getElem? (i := 47) rfl)) (hw _ (List.mem_of_getElem? (i := 48) rfl)) (notFace_of_selects (args := #[]) (mvT hZ (hw _ (List.mem_of_getElem? (i := 50) rfl)))) (hw _ (List.mem_of_getElem? (i := 50) rfl)) (hw _ (List.mem_of_getElem? (i := 49) rfl)) (hw _ (List.mem_of_getElem? (i := 32) rfl)) (hw _ (List.mem_of_getElem? (i := 51) rfl)) (by decide) (argsL := []) (rest := []) (rm_cancel l Z a0 hw b60 b21 b23 p1 p2 (0 : Int32) h61 n0 (Nat.le_trans Z0 K.1) A60 F_topic_b60 F_message_b60 F_subscription_b60 F_failedAttempts_b60 F_nextAttemptTime_b60 F_cancelled_b60 g_b60) (g := (mkF m 108 #[.val (.int p1), .val (.long p2), .second, .val (.long p3), .second, .val (.long p4), .second, .val (.int p5), .val (.ref b17), .val (.ref b19), .val (.ref b21), .val (.ref b23), .val (.int (1 : Int32)), .val (.int (1 : Int32)), .val (.ref b60), .unset] [(.ref b60)])) rfl (by rw [hml]; rfl) (lenOf pd___r_V rfl) rfl (by decide) (Nat.le_of_ble_eq_true rfl) (by decide) (by decide) (hb hby at_108)
      obtain ⟨rfl, Nq62, Kq62, A60', F_topic_b60', F_message_b60', F_subscription_b60', F_failedAttempts_b60', F_nextAttemptTime_b60', F_cancelled_b60'⟩ := Q62
      replace OL := OL.keep Kq62 (allS g_b60 all0)
      replace V18' := V18'.keep Kq62 (ninS ne_b17_b60 nin0)
      replace V20' := V20'.keep Kq62 (ninS ne_b19_b60 nin0)
      replace Eq22 := Eq22.keep Kq62
      replace Eq24 := Eq24.keep Kq62
      replace A60 := A60.keep Kq62
      clear A60
      have A60 := A60'
      have F_topic_b60 := F_topic_b60'
      have F_message_b60 := F_message_b60'
      have F_subscription_b60 := F_subscription_b60'
      have F_failedAttempts_b60 := F_failedAttempts_b60'
      have F_nextAttemptTime_b60 := F_nextAttemptTime_b60'
      have F_cancelled_b60 := F_cancelled_b60'
      replace K := K.trans Kq62 (allS (Or.inr sz_b60) all0)
      have N62 := Fr.app N61 Nq62
      refine own_of st62 ?_
      show own_Ends _ _ _ _ _ _ (T62.setTop (mkF m 111 #[.val (.int p1), .val (.long p2), .second, .val (.long p3), .second, .val (.long p4), .second, .val (.int p5), .val (.ref b17), .val (.ref b19), .val (.ref b21), .val (.ref b23), .val (.int (1 : Int32)), .val (.int (1 : Int32)), .val (.ref b60), .unset] []))
      refine own_of (fun tt_ kk_ => XS.aload X62.here hx rfl (hb hby at_111) rfl rfl kk_) ?_
      show own_Ends _ _ _ _ _ _ (T62.setTop (mkF m 113 #[.val (.int p1), .val (.long p2), .second, .val (.long p3), .second, .val (.long p4), .second, .val (.int p5), .val (.ref b17), .val (.ref b19), .val (.ref b21), .val (.ref b23), .val (.int (1 : Int32)), .val (.int (1 : Int32)), .val (.ref b60), .unset] [(.ref b60)]))
      refine own_of (fun tt_ kk_ => XS.lloadN X62.here hx rfl (hb hby at_113) rfl  kk_) ?_
      show own_Ends _ _ _ _ _ _ (T62.setTop (mkF m 114 #[.val (.int p1), .val (.long p2), .second, .val (.long p3), .second, .val (.long p4), .second, .val (.int p5), .val (.ref b17), .val (.ref b19), .val (.ref b21), .val (.ref b23), .val (.int (1 : Int32)), .val (.int (1 : Int32)), .val (.ref b60), .unset] [(.long p3), (.ref b60)]))
      obtain ⟨v63, T63, L63, h63, X63, e63, Q63, st63⟩ := own_virtual X62 hx hZ hown e62 A60 (hw _ (List.mem_of_getElem? (i := 54) rfl)) (hw _ (List.mem_of_getElem? (i := 55) rfl)) (notFace_of_selects (args := #[]) (mvT hZ (hw _ (List.mem_of_getElem? (i := 57) rfl)))) (hw _ (List.mem_of_getElem? (i := 57) rfl)) (hw _ (List.mem_of_getElem? (i := 56) rfl)) (hw _ (List.mem_of_getElem? (i := 32) rfl)) (hw _ (List.mem_of_getElem? (i := 58) rfl)) (by decide) (argsL := [(.long p3)]) (rest := []) (rm_failed l Z a0 hw b60 b21 b23 p1 p2 p3 (1 : Int32) h62 n0 (Nat.le_trans Z0 K.1) A60 F_topic_b60 F_message_b60 F_subscription_b60 F_failedAttempts_b60 F_nextAttemptTime_b60 F_cancelled_b60 g_b60) (g := (mkF m 114 #[.val (.int p1), .val (.long p2), .second, .val (.long p3), .second, .val (.long p4), .second, .val (.int p5), .val (.ref b17), .val (.ref b19), .val (.ref b21), .val (.ref b23), .val (.int (1 : Int32)), .val (.int (1 : Int32)), .val (.ref b60), .unset] [(.long p3), (.ref b60)])) rfl (by rw [hml]; rfl) (lenOf pd__J_r_V rfl) rfl (by decide) (Nat.le_of_ble_eq_true rfl) (by decide) (by decide) (hb hby at_114)
      obtain ⟨rfl, Nq63, Kq63, A60', F_topic_b60', F_message_b60', F_subscription_b60', F_failedAttempts_b60', F_nextAttemptTime_b60', F_cancelled_b60'⟩ := Q63
      replace OL := OL.keep Kq63 (allS g_b60 all0)
      replace V18' := V18'.keep Kq63 (ninS ne_b17_b60 nin0)
      replace V20' := V20'.keep Kq63 (ninS ne_b19_b60 nin0)
      replace Eq22 := Eq22.keep Kq63
      replace Eq24 := Eq24.keep Kq63
      replace A60 := A60.keep Kq63
      clear A60
      have A60 := A60'
      have F_topic_b60 := F_topic_b60'
      have F_message_b60 := F_message_b60'
      have F_subscription_b60 := F_subscription_b60'
      have F_failedAttempts_b60 := F_failedAttempts_b60'
      have F_nextAttemptTime_b60 := F_nextAttemptTime_b60'
      have F_cancelled_b60 := F_cancelled_b60'
      replace K := K.trans Kq63 (allS (Or.inr sz_b60) all0)
      have N63 := Fr.app N62 Nq63
      refine own_of st63 ?_
      show own_Ends _ _ _ _ _ _ (T63.setTop (mkF m 117 #[.val (.int p1), .val (.long p2), .second, .val (.long p3), .second, .val (.long p4), .second, .val (.int p5), .val (.ref b17), .val (.ref b19), .val (.ref b21), .val (.ref b23), .val (.int (1 : Int32)), .val (.int (1 : Int32)), .val (.ref b60), .unset] []))
      refine own_of (fun tt_ kk_ => XS.aload X63.here hx rfl (hb hby at_117) rfl rfl kk_) ?_
      show own_Ends _ _ _ _ _ _ (T63.setTop (mkF m 119 #[.val (.int p1), .val (.long p2), .second, .val (.long p3), .second, .val (.long p4), .second, .val (.int p5), .val (.ref b17), .val (.ref b19), .val (.ref b21), .val (.ref b23), .val (.int (1 : Int32)), .val (.int (1 : Int32)), .val (.ref b60), .unset] [(.ref b60)]))
      obtain ⟨v64, T64, L64, h64, X64, e64, Q64, st64⟩ := own_virtual X63 hx hZ hown e63 A60 (hw _ (List.mem_of_getElem? (i := 59) rfl)) (hw _ (List.mem_of_getElem? (i := 60) rfl)) (notFace_of_selects (args := #[]) (mvT hZ (hw _ (List.mem_of_getElem? (i := 62) rfl)))) (hw _ (List.mem_of_getElem? (i := 62) rfl)) (hw _ (List.mem_of_getElem? (i := 61) rfl)) (hw _ (List.mem_of_getElem? (i := 32) rfl)) (hw _ (List.mem_of_getElem? (i := 63) rfl)) (by decide) (argsL := []) (rest := []) (rm_failedAttempts l Z a0 hw b60 (p1 + (1 : Int32)) h63 n0 (Nat.le_trans Z0 K.1) F_failedAttempts_b60) (g := (mkF m 119 #[.val (.int p1), .val (.long p2), .second, .val (.long p3), .second, .val (.long p4), .second, .val (.int p5), .val (.ref b17), .val (.ref b19), .val (.ref b21), .val (.ref b23), .val (.int (1 : Int32)), .val (.int (1 : Int32)), .val (.ref b60), .unset] [(.ref b60)])) rfl (by rw [hml]; rfl) (lenOf pd___r_I rfl) rfl (by decide) (Nat.le_of_ble_eq_true rfl) (by decide) (by decide) (hb hby at_119)
      obtain ⟨rfl, Nq64, q64⟩ := Q64
      replace e64 := e64.trans q64
      have N64 := Fr.app N63 Nq64
      refine own_of st64 ?_
      show own_Ends _ _ _ _ _ _ (T64.setTop (mkF m 122 #[.val (.int p1), .val (.long p2), .second, .val (.long p3), .second, .val (.long p4), .second, .val (.int p5), .val (.ref b17), .val (.ref b19), .val (.ref b21), .val (.ref b23), .val (.int (1 : Int32)), .val (.int (1 : Int32)), .val (.ref b60), .unset] [(.int (p1 + (1 : Int32)))]))
      refine own_of (fun tt_ kk_ => XS.iloadN X64.here hx rfl (hb hby at_122) rfl  kk_) ?_
      show own_Ends _ _ _ _ _ _ (T64.setTop (mkF m 123 #[.val (.int p1), .val (.long p2), .second, .val (.long p3), .second, .val (.long p4), .second, .val (.int p5), .val (.ref b17), .val (.ref b19), .val (.ref b21), .val (.ref b23), .val (.int (1 : Int32)), .val (.int (1 : Int32)), .val (.ref b60), .unset] [(.int p1), (.int (p1 + (1 : Int32)))]))
      refine own_of (fun tt_ kk_ => XS.iconst X64.here hx rfl (hb hby at_123) kk_) ?_
      show own_Ends _ _ _ _ _ _ (T64.setTop (mkF m 124 #[.val (.int p1), .val (.long p2), .second, .val (.long p3), .second, .val (.long p4), .second, .val (.int p5), .val (.ref b17), .val (.ref b19), .val (.ref b21), .val (.ref b23), .val (.int (1 : Int32)), .val (.int (1 : Int32)), .val (.ref b60), .unset] [(.int (1 : Int32)), (.int p1), (.int (p1 + (1 : Int32)))]))
      refine own_of (fun tt_ kk_ => XS.iadd X64.here hx rfl (hb hby at_124) rfl kk_) ?_
      show own_Ends _ _ _ _ _ _ (T64.setTop (mkF m 125 #[.val (.int p1), .val (.long p2), .second, .val (.long p3), .second, .val (.long p4), .second, .val (.int p5), .val (.ref b17), .val (.ref b19), .val (.ref b21), .val (.ref b23), .val (.int (1 : Int32)), .val (.int (1 : Int32)), .val (.ref b60), .unset] [(.int (p1 + (1 : Int32))), (.int (p1 + (1 : Int32)))]))
      refine own_of (fun tt_ kk_ => XS.icmpNo X64.here hx rfl (hb hby at_125) rfl (teq (rfl : (p1 + (1 : Int32)) = (p1 + (1 : Int32)))).2 kk_) ?_
      show own_Ends _ _ _ _ _ _ (T64.setTop (mkF m 128 #[.val (.int p1), .val (.long p2), .second, .val (.long p3), .second, .val (.long p4), .second, .val (.int p5), .val (.ref b17), .val (.ref b19), .val (.ref b21), .val (.ref b23), .val (.int (1 : Int32)), .val (.int (1 : Int32)), .val (.ref b60), .unset] []))
      refine own_of (fun tt_ kk_ => XS.aload X64.here hx rfl (hb hby at_128) rfl rfl kk_) ?_
      show own_Ends _ _ _ _ _ _ (T64.setTop (mkF m 130 #[.val (.int p1), .val (.long p2), .second, .val (.long p3), .second, .val (.long p4), .second, .val (.int p5), .val (.ref b17), .val (.ref b19), .val (.ref b21), .val (.ref b23), .val (.int (1 : Int32)), .val (.int (1 : Int32)), .val (.ref b60), .unset] [(.ref b60)]))
      obtain ⟨v65, T65, L65, h65, X65, e65, Q65, st65⟩ := own_virtual X64 hx hZ hown e64 A60 (hw _ (List.mem_of_getElem? (i := 64) rfl)) (hw _ (List.mem_of_getElem? (i := 65) rfl)) (notFace_of_selects (args := #[]) (mvT hZ (hw _ (List.mem_of_getElem? (i := 67) rfl)))) (hw _ (List.mem_of_getElem? (i := 67) rfl)) (hw _ (List.mem_of_getElem? (i := 66) rfl)) (hw _ (List.mem_of_getElem? (i := 32) rfl)) (hw _ (List.mem_of_getElem? (i := 68) rfl)) (by decide) (argsL := []) (rest := []) (rm_nextAttemptTime l Z a0 hw b60 p3 h63 n0 (Nat.le_trans Z0 K.1) F_nextAttemptTime_b60) (g := (mkF m 130 #[.val (.int p1), .val (.long p2), .second, .val (.long p3), .second, .val (.long p4), .second, .val (.int p5), .val (.ref b17), .val (.ref b19), .val (.ref b21), .val (.ref b23), .val (.int (1 : Int32)), .val (.int (1 : Int32)), .val (.ref b60), .unset] [(.ref b60)])) rfl (by rw [hml]; rfl) (lenOf pd___r_J rfl) rfl (by decide) (Nat.le_of_ble_eq_true rfl) (by decide) (by decide) (hb hby at_130)
      obtain ⟨rfl, Nq65, q65⟩ := Q65
      replace e65 := e65.trans q65
      have N65 := Fr.app N64 Nq65
      refine own_of st65 ?_
      show own_Ends _ _ _ _ _ _ (T65.setTop (mkF m 133 #[.val (.int p1), .val (.long p2), .second, .val (.long p3), .second, .val (.long p4), .second, .val (.int p5), .val (.ref b17), .val (.ref b19), .val (.ref b21), .val (.ref b23), .val (.int (1 : Int32)), .val (.int (1 : Int32)), .val (.ref b60), .unset] [(.long p3)]))
      refine own_of (fun tt_ kk_ => XS.lloadN X65.here hx rfl (hb hby at_133) rfl  kk_) ?_
      show own_Ends _ _ _ _ _ _ (T65.setTop (mkF m 134 #[.val (.int p1), .val (.long p2), .second, .val (.long p3), .second, .val (.long p4), .second, .val (.int p5), .val (.ref b17), .val (.ref b19), .val (.ref b21), .val (.ref b23), .val (.int (1 : Int32)), .val (.int (1 : Int32)), .val (.ref b60), .unset] [(.long p3), (.long p3)]))
      refine own_of (fun tt_ kk_ => XS.lcmp X65.here hx rfl (hb hby at_134) rfl kk_) ?_
      show own_Ends _ _ _ _ _ _ (T65.setTop (mkF m 135 #[.val (.int p1), .val (.long p2), .second, .val (.long p3), .second, .val (.long p4), .second, .val (.int p5), .val (.ref b17), .val (.ref b19), .val (.ref b21), .val (.ref b23), .val (.int (1 : Int32)), .val (.int (1 : Int32)), .val (.ref b60), .unset] [(.int (lcmpW p3 p3))]))
      refine own_of (fun tt_ kk_ => XS.ifNo X65.here hx rfl (hb hby at_135) rfl ((if0 _ _).trans (teq ((lw_eq _ _).mpr rfl)).2) kk_) ?_
      show own_Ends _ _ _ _ _ _ (T65.setTop (mkF m 138 #[.val (.int p1), .val (.long p2), .second, .val (.long p3), .second, .val (.long p4), .second, .val (.int p5), .val (.ref b17), .val (.ref b19), .val (.ref b21), .val (.ref b23), .val (.int (1 : Int32)), .val (.int (1 : Int32)), .val (.ref b60), .unset] []))
      refine own_of (fun tt_ kk_ => XS.aload X65.here hx rfl (hb hby at_138) rfl rfl kk_) ?_
      show own_Ends _ _ _ _ _ _ (T65.setTop (mkF m 140 #[.val (.int p1), .val (.long p2), .second, .val (.long p3), .second, .val (.long p4), .second, .val (.int p5), .val (.ref b17), .val (.ref b19), .val (.ref b21), .val (.ref b23), .val (.int (1 : Int32)), .val (.int (1 : Int32)), .val (.ref b60), .unset] [(.ref b60)]))
      obtain ⟨v66, T66, L66, h66, X66, e66, Q66, st66⟩ := own_virtual X65 hx hZ hown e65 A60 (hw _ (List.mem_of_getElem? (i := 69) rfl)) (hw _ (List.mem_of_getElem? (i := 70) rfl)) (notFace_of_selects (args := #[]) (mvT hZ (hw _ (List.mem_of_getElem? (i := 72) rfl)))) (hw _ (List.mem_of_getElem? (i := 72) rfl)) (hw _ (List.mem_of_getElem? (i := 71) rfl)) (hw _ (List.mem_of_getElem? (i := 32) rfl)) (hw _ (List.mem_of_getElem? (i := 73) rfl)) (by decide) (argsL := []) (rest := []) (rm_topic l Z a0 hw b60 b21 h63 n0 (Nat.le_trans Z0 K.1) F_topic_b60) (g := (mkF m 140 #[.val (.int p1), .val (.long p2), .second, .val (.long p3), .second, .val (.long p4), .second, .val (.int p5), .val (.ref b17), .val (.ref b19), .val (.ref b21), .val (.ref b23), .val (.int (1 : Int32)), .val (.int (1 : Int32)), .val (.ref b60), .unset] [(.ref b60)])) rfl (by rw [hml]; rfl) (lenOf pd___r_Ljava_lang_String_ rfl) rfl (by decide) (Nat.le_of_ble_eq_true rfl) (by decide) (by decide) (hb hby at_140)
      obtain ⟨rfl, Nq66, q66⟩ := Q66
      replace e66 := e66.trans q66
      have N66 := Fr.app N65 Nq66
      refine own_of st66 ?_
      show own_Ends _ _ _ _ _ _ (T66.setTop (mkF m 143 #[.val (.int p1), .val (.long p2), .second, .val (.long p3), .second, .val (.long p4), .second, .val (.int p5), .val (.ref b17), .val (.ref b19), .val (.ref b21), .val (.ref b23), .val (.int (1 : Int32)), .val (.int (1 : Int32)), .val (.ref b60), .unset] [(.ref b21)]))
      refine own_of (fun tt_ kk_ => XS.aload X66.here hx rfl (hb hby at_143) rfl rfl kk_) ?_
      show own_Ends _ _ _ _ _ _ (T66.setTop (mkF m 145 #[.val (.int p1), .val (.long p2), .second, .val (.long p3), .second, .val (.long p4), .second, .val (.int p5), .val (.ref b17), .val (.ref b19), .val (.ref b21), .val (.ref b23), .val (.int (1 : Int32)), .val (.int (1 : Int32)), .val (.ref b60), .unset] [(.ref b21), (.ref b21)]))
      refine own_of (fun tt_ kk_ => Jvm.RoadKit.acmp (g := (mkF m 145 #[.val (.int p1), .val (.long p2), .second, .val (.long p3), .second, .val (.long p4), .second, .val (.int p5), .val (.ref b17), .val (.ref b19), .val (.ref b21), .val (.ref b23), .val (.int (1 : Int32)), .val (.int (1 : Int32)), .val (.ref b60), .unset] [(.ref b21), (.ref b21)])) X66 hx rfl rfl rfl (pc0 := 145) (pc' := 148) (same := true) rfl (hb hby at_145) rfl (decide_eq_true rfl) (by decide) (by decide) kk_) ?_
      show own_Ends _ _ _ _ _ _ (T66.setTop (mkF m 148 #[.val (.int p1), .val (.long p2), .second, .val (.long p3), .second, .val (.long p4), .second, .val (.int p5), .val (.ref b17), .val (.ref b19), .val (.ref b21), .val (.ref b23), .val (.int (1 : Int32)), .val (.int (1 : Int32)), .val (.ref b60), .unset] []))
      refine own_of (fun tt_ kk_ => XS.aload X66.here hx rfl (hb hby at_148) rfl rfl kk_) ?_
      show own_Ends _ _ _ _ _ _ (T66.setTop (mkF m 150 #[.val (.int p1), .val (.long p2), .second, .val (.long p3), .second, .val (.long p4), .second, .val (.int p5), .val (.ref b17), .val (.ref b19), .val (.ref b21), .val (.ref b23), .val (.int (1 : Int32)), .val (.int (1 : Int32)), .val (.ref b60), .unset] [(.ref b60)]))
      obtain ⟨v67, T67, L67, h67, X67, e67, Q67, st67⟩ := own_virtual X66 hx hZ hown e66 A60 (hw _ (List.mem_of_getElem? (i := 74) rfl)) (hw _ (List.mem_of_getElem? (i := 75) rfl)) (notFace_of_selects (args := #[]) (mvT hZ (hw _ (List.mem_of_getElem? (i := 77) rfl)))) (hw _ (List.mem_of_getElem? (i := 77) rfl)) (hw _ (List.mem_of_getElem? (i := 76) rfl)) (hw _ (List.mem_of_getElem? (i := 32) rfl)) (hw _ (List.mem_of_getElem? (i := 78) rfl)) (by decide) (argsL := []) (rest := []) (rm_subscription l Z a0 hw b60 b23 h63 n0 (Nat.le_trans Z0 K.1) F_subscription_b60) (g := (mkF m 150 #[.val (.int p1), .val (.long p2), .second, .val (.long p3), .second, .val (.long p4), .second, .val (.int p5), .val (.ref b17), .val (.ref b19), .val (.ref b21), .val (.ref b23), .val (.int (1 : Int32)), .val (.int (1 : Int32)), .val (.ref b60), .unset] [(.ref b60)])) rfl (by rw [hml]; rfl) (lenOf pd___r_Ljava_lang_String_ rfl) rfl (by decide) (Nat.le_of_ble_eq_true rfl) (by decide) (by decide) (hb hby at_150)
      obtain ⟨rfl, Nq67, q67⟩ := Q67
      replace e67 := e67.trans q67
      have N67 := Fr.app N66 Nq67
      refine own_of st67 ?_
      show own_Ends _ _ _ _ _ _ (T67.setTop (mkF m 153 #[.val (.int p1), .val (.long p2), .second, .val (.long p3), .second, .val (.long p4), .second, .val (.int p5), .val (.ref b17), .val (.ref b19), .val (.ref b21), .val (.ref b23), .val (.int (1 : Int32)), .val (.int (1 : Int32)), .val (.ref b60), .unset] [(.ref b23)]))
      refine own_of (fun tt_ kk_ => XS.aload X67.here hx rfl (hb hby at_153) rfl rfl kk_) ?_
      show own_Ends _ _ _ _ _ _ (T67.setTop (mkF m 155 #[.val (.int p1), .val (.long p2), .second, .val (.long p3), .second, .val (.long p4), .second, .val (.int p5), .val (.ref b17), .val (.ref b19), .val (.ref b21), .val (.ref b23), .val (.int (1 : Int32)), .val (.int (1 : Int32)), .val (.ref b60), .unset] [(.ref b23), (.ref b23)]))
      refine own_of (fun tt_ kk_ => Jvm.RoadKit.acmp (g := (mkF m 155 #[.val (.int p1), .val (.long p2), .second, .val (.long p3), .second, .val (.long p4), .second, .val (.int p5), .val (.ref b17), .val (.ref b19), .val (.ref b21), .val (.ref b23), .val (.int (1 : Int32)), .val (.int (1 : Int32)), .val (.ref b60), .unset] [(.ref b23), (.ref b23)])) X67 hx rfl rfl rfl (pc0 := 155) (pc' := 158) (same := true) rfl (hb hby at_155) rfl (decide_eq_true rfl) (by decide) (by decide) kk_) ?_
      show own_Ends _ _ _ _ _ _ (T67.setTop (mkF m 158 #[.val (.int p1), .val (.long p2), .second, .val (.long p3), .second, .val (.long p4), .second, .val (.int p5), .val (.ref b17), .val (.ref b19), .val (.ref b21), .val (.ref b23), .val (.int (1 : Int32)), .val (.int (1 : Int32)), .val (.ref b60), .unset] []))
      refine own_of (fun tt_ kk_ => XS.aload X67.here hx rfl (hb hby at_158) rfl rfl kk_) ?_
      show own_Ends _ _ _ _ _ _ (T67.setTop (mkF m 160 #[.val (.int p1), .val (.long p2), .second, .val (.long p3), .second, .val (.long p4), .second, .val (.int p5), .val (.ref b17), .val (.ref b19), .val (.ref b21), .val (.ref b23), .val (.int (1 : Int32)), .val (.int (1 : Int32)), .val (.ref b60), .unset] [(.ref b60)]))
      obtain ⟨v68, T68, L68, h68, X68, e68, Q68, st68⟩ := own_virtual X67 hx hZ hown e67 A60 (hw _ (List.mem_of_getElem? (i := 79) rfl)) (hw _ (List.mem_of_getElem? (i := 80) rfl)) (notFace_of_selects (args := #[]) (mvT hZ (hw _ (List.mem_of_getElem? (i := 82) rfl)))) (hw _ (List.mem_of_getElem? (i := 82) rfl)) (hw _ (List.mem_of_getElem? (i := 81) rfl)) (hw _ (List.mem_of_getElem? (i := 32) rfl)) (hw _ (List.mem_of_getElem? (i := 83) rfl)) (by decide) (argsL := []) (rest := []) (rm_message l Z a0 hw b60  h63 n0 (Nat.le_trans Z0 K.1) F_message_b60) (g := (mkF m 160 #[.val (.int p1), .val (.long p2), .second, .val (.long p3), .second, .val (.long p4), .second, .val (.int p5), .val (.ref b17), .val (.ref b19), .val (.ref b21), .val (.ref b23), .val (.int (1 : Int32)), .val (.int (1 : Int32)), .val (.ref b60), .unset] [(.ref b60)])) rfl (by rw [hml]; rfl) (lenOf pd___r_Lcom_example_libenq_libenq_engine_TopicMessageRecord_ rfl) rfl (by decide) (Nat.le_of_ble_eq_true rfl) (by decide) (by decide) (hb hby at_160)
      obtain ⟨rfl, Nq68, q68⟩ := Q68
      replace e68 := e68.trans q68
      have N68 := Fr.app N67 Nq68
      refine own_of st68 ?_
      show own_Ends _ _ _ _ _ _ (T68.setTop (mkF m 163 #[.val (.int p1), .val (.long p2), .second, .val (.long p3), .second, .val (.long p4), .second, .val (.int p5), .val (.ref b17), .val (.ref b19), .val (.ref b21), .val (.ref b23), .val (.int (1 : Int32)), .val (.int (1 : Int32)), .val (.ref b60), .unset] [.null]))
      refine own_of (fun tt_ kk_ => XS.ifnonnullNo X68.here hx rfl (hb hby at_163) rfl kk_) ?_
      show own_Ends _ _ _ _ _ _ (T68.setTop (mkF m 166 #[.val (.int p1), .val (.long p2), .second, .val (.long p3), .second, .val (.long p4), .second, .val (.int p5), .val (.ref b17), .val (.ref b19), .val (.ref b21), .val (.ref b23), .val (.int (1 : Int32)), .val (.int (1 : Int32)), .val (.ref b60), .unset] []))
      refine own_of (fun tt_ kk_ => XS.aload X68.here hx rfl (hb hby at_166) rfl rfl kk_) ?_
      show own_Ends _ _ _ _ _ _ (T68.setTop (mkF m 168 #[.val (.int p1), .val (.long p2), .second, .val (.long p3), .second, .val (.long p4), .second, .val (.int p5), .val (.ref b17), .val (.ref b19), .val (.ref b21), .val (.ref b23), .val (.int (1 : Int32)), .val (.int (1 : Int32)), .val (.ref b60), .unset] [(.ref b60)]))
      obtain ⟨v69, T69, L69, h69, X69, e69, Q69, st69⟩ := own_virtual X68 hx hZ hown e68 A60 (hw _ (List.mem_of_getElem? (i := 84) rfl)) (hw _ (List.mem_of_getElem? (i := 85) rfl)) (notFace_of_selects (args := #[]) (mvT hZ (hw _ (List.mem_of_getElem? (i := 87) rfl)))) (hw _ (List.mem_of_getElem? (i := 87) rfl)) (hw _ (List.mem_of_getElem? (i := 86) rfl)) (hw _ (List.mem_of_getElem? (i := 32) rfl)) (hw _ (List.mem_of_getElem? (i := 88) rfl)) (by decide) (argsL := []) (rest := []) (rm_cancelled l Z a0 hw b60 (1 : Int32) h63 n0 (Nat.le_trans Z0 K.1) F_cancelled_b60 rfl) (g := (mkF m 168 #[.val (.int p1), .val (.long p2), .second, .val (.long p3), .second, .val (.long p4), .second, .val (.int p5), .val (.ref b17), .val (.ref b19), .val (.ref b21), .val (.ref b23), .val (.int (1 : Int32)), .val (.int (1 : Int32)), .val (.ref b60), .unset] [(.ref b60)])) rfl (by rw [hml]; rfl) (lenOf pd___r_Z rfl) rfl (by decide) (Nat.le_of_ble_eq_true rfl) (by decide) (by decide) (hb hby at_168)
      obtain ⟨rfl, Nq69, q69⟩ := Q69
      replace e69 := e69.trans q69
      have N69 := Fr.app N68 Nq69
      refine own_of st69 ?_
      show own_Ends _ _ _ _ _ _ (T69.setTop (mkF m 171 #[.val (.int p1), .val (.long p2), .second, .val (.long p3), .second, .val (.long p4), .second, .val (.int p5), .val (.ref b17), .val (.ref b19), .val (.ref b21), .val (.ref b23), .val (.int (1 : Int32)), .val (.int (1 : Int32)), .val (.ref b60), .unset] [(.int (1 : Int32))]))
      refine own_of (fun tt_ kk_ => XS.iload X69.here hx rfl (hb hby at_171) rfl  kk_) ?_
      show own_Ends _ _ _ _ _ _ (T69.setTop (mkF m 173 #[.val (.int p1), .val (.long p2), .second, .val (.long p3), .second, .val (.long p4), .second, .val (.int p5), .val (.ref b17), .val (.ref b19), .val (.ref b21), .val (.ref b23), .val (.int (1 : Int32)), .val (.int (1 : Int32)), .val (.ref b60), .unset] [(.int (1 : Int32)), (.int (1 : Int32))]))
      refine own_of (fun tt_ kk_ => XS.icmpNo X69.here hx rfl (hb hby at_173) rfl (teq (by decide : ((1 : Int32) = (1 : Int32)))).2 kk_) ?_
      show own_Ends _ _ _ _ _ _ (T69.setTop (mkF m 176 #[.val (.int p1), .val (.long p2), .second, .val (.long p3), .second, .val (.long p4), .second, .val (.int p5), .val (.ref b17), .val (.ref b19), .val (.ref b21), .val (.ref b23), .val (.int (1 : Int32)), .val (.int (1 : Int32)), .val (.ref b60), .unset] []))
      refine own_of (fun tt_ kk_ => XS.iconst X69.here hx rfl (hb hby at_176) kk_) ?_
      show own_Ends _ _ _ _ _ _ (T69.setTop (mkF m 177 #[.val (.int p1), .val (.long p2), .second, .val (.long p3), .second, .val (.long p4), .second, .val (.int p5), .val (.ref b17), .val (.ref b19), .val (.ref b21), .val (.ref b23), .val (.int (1 : Int32)), .val (.int (1 : Int32)), .val (.ref b60), .unset] [(.int (1 : Int32))]))
      refine own_of (fun tt_ kk_ => XS.goto X69.here hx rfl (pc0 := 177) (pc' := 181) rfl (hb hby at_177) (by decide) (by decide) kk_) ?_
      show own_Ends _ _ _ _ _ _ (T69.setTop (mkF m 181 #[.val (.int p1), .val (.long p2), .second, .val (.long p3), .second, .val (.long p4), .second, .val (.int p5), .val (.ref b17), .val (.ref b19), .val (.ref b21), .val (.ref b23), .val (.int (1 : Int32)), .val (.int (1 : Int32)), .val (.ref b60), .unset] [(.int (1 : Int32))]))
      refine own_of (fun tt_ kk_ => XS.istore X69.here hx rfl (hb hby at_181) rfl (l' := #[.val (.int p1), .val (.long p2), .second, .val (.long p3), .second, .val (.long p4), .second, .val (.int p5), .val (.ref b17), .val (.ref b19), .val (.ref b21), .val (.ref b23), .val (.int (1 : Int32)), .val (.int (1 : Int32)), .val (.ref b60), .val (.int (1 : Int32))]) rfl kk_) ?_
      show own_Ends _ _ _ _ _ _ (T69.setTop (mkF m 183 #[.val (.int p1), .val (.long p2), .second, .val (.long p3), .second, .val (.long p4), .second, .val (.int p5), .val (.ref b17), .val (.ref b19), .val (.ref b21), .val (.ref b23), .val (.int (1 : Int32)), .val (.int (1 : Int32)), .val (.ref b60), .val (.int (1 : Int32))] []))
      refine own_of (fun tt_ kk_ => XS.iload X69.here hx rfl (hb hby at_183) rfl  kk_) ?_
      show own_Ends _ _ _ _ _ _ (T69.setTop (mkF m 185 #[.val (.int p1), .val (.long p2), .second, .val (.long p3), .second, .val (.long p4), .second, .val (.int p5), .val (.ref b17), .val (.ref b19), .val (.ref b21), .val (.ref b23), .val (.int (1 : Int32)), .val (.int (1 : Int32)), .val (.ref b60), .val (.int (1 : Int32))] [(.int (1 : Int32))]))
      refine own_of (fun tt_ kk_ => XS.ifNo X69.here hx rfl (hb hby at_185) rfl ((if0 _ _).trans (feq (by decide : ¬ ((1 : Int32) = (0 : Int32)))).1) kk_) ?_
      show own_Ends _ _ _ _ _ _ (T69.setTop (mkF m 188 #[.val (.int p1), .val (.long p2), .second, .val (.long p3), .second, .val (.long p4), .second, .val (.int p5), .val (.ref b17), .val (.ref b19), .val (.ref b21), .val (.ref b23), .val (.int (1 : Int32)), .val (.int (1 : Int32)), .val (.ref b60), .val (.int (1 : Int32))] []))
      refine own_of (fun tt_ kk_ => XS.aload X69.here hx rfl (hb hby at_188) rfl rfl kk_) ?_
      show own_Ends _ _ _ _ _ _ (T69.setTop (mkF m 190 #[.val (.int p1), .val (.long p2), .second, .val (.long p3), .second, .val (.long p4), .second, .val (.int p5), .val (.ref b17), .val (.ref b19), .val (.ref b21), .val (.ref b23), .val (.int (1 : Int32)), .val (.int (1 : Int32)), .val (.ref b60), .val (.int (1 : Int32))] [(.ref b60)]))
      refine own_of (fun tt_ kk_ => XS.lload X69.here hx rfl (hb hby at_190) rfl  kk_) ?_
      show own_Ends _ _ _ _ _ _ (T69.setTop (mkF m 192 #[.val (.int p1), .val (.long p2), .second, .val (.long p3), .second, .val (.long p4), .second, .val (.int p5), .val (.ref b17), .val (.ref b19), .val (.ref b21), .val (.ref b23), .val (.int (1 : Int32)), .val (.int (1 : Int32)), .val (.ref b60), .val (.int (1 : Int32))] [(.long p4), (.ref b60)]))
      obtain ⟨v70, T70, L70, h70, X70, e70, Q70, st70⟩ := own_virtual X69 hx hZ hown e69 A60 (hw _ (List.mem_of_getElem? (i := 54) rfl)) (hw _ (List.mem_of_getElem? (i := 55) rfl)) (notFace_of_selects (args := #[]) (mvT hZ (hw _ (List.mem_of_getElem? (i := 57) rfl)))) (hw _ (List.mem_of_getElem? (i := 57) rfl)) (hw _ (List.mem_of_getElem? (i := 56) rfl)) (hw _ (List.mem_of_getElem? (i := 32) rfl)) (hw _ (List.mem_of_getElem? (i := 58) rfl)) (by decide) (argsL := [(.long p4)]) (rest := []) (rm_failed l Z a0 hw b60 b21 b23 (p1 + (1 : Int32)) p3 p4 (1 : Int32) h63 n0 (Nat.le_trans Z0 K.1) A60 F_topic_b60 F_message_b60 F_subscription_b60 F_failedAttempts_b60 F_nextAttemptTime_b60 F_cancelled_b60 g_b60) (g := (mkF m 192 #[.val (.int p1), .val (.long p2), .second, .val (.long p3), .second, .val (.long p4), .second, .val (.int p5), .val (.ref b17), .val (.ref b19), .val (.ref b21), .val (.ref b23), .val (.int (1 : Int32)), .val (.int (1 : Int32)), .val (.ref b60), .val (.int (1 : Int32))] [(.long p4), (.ref b60)])) rfl (by rw [hml]; rfl) (lenOf pd__J_r_V rfl) rfl (by decide) (Nat.le_of_ble_eq_true rfl) (by decide) (by decide) (hb hby at_192)
      obtain ⟨rfl, Nq70, Kq70, A60', F_topic_b60', F_message_b60', F_subscription_b60', F_failedAttempts_b60', F_nextAttemptTime_b60', F_cancelled_b60'⟩ := Q70
      replace OL := OL.keep Kq70 (allS g_b60 all0)
      replace V18' := V18'.keep Kq70 (ninS ne_b17_b60 nin0)
      replace V20' := V20'.keep Kq70 (ninS ne_b19_b60 nin0)
      replace Eq22 := Eq22.keep Kq70
      replace Eq24 := Eq24.keep Kq70
      replace A60 := A60.keep Kq70
      clear A60
      have A60 := A60'
      have F_topic_b60 := F_topic_b60'
      have F_message_b60 := F_message_b60'
      have F_subscription_b60 := F_subscription_b60'
      have F_failedAttempts_b60 := F_failedAttempts_b60'
      have F_nextAttemptTime_b60 := F_nextAttemptTime_b60'
      have F_cancelled_b60 := F_cancelled_b60'
      replace K := K.trans Kq70 (allS (Or.inr sz_b60) all0)
      have N70 := Fr.app N69 Nq70
      refine own_of st70 ?_
      show own_Ends _ _ _ _ _ _ (T70.setTop (mkF m 195 #[.val (.int p1), .val (.long p2), .second, .val (.long p3), .second, .val (.long p4), .second, .val (.int p5), .val (.ref b17), .val (.ref b19), .val (.ref b21), .val (.ref b23), .val (.int (1 : Int32)), .val (.int (1 : Int32)), .val (.ref b60), .val (.int (1 : Int32))] []))
      refine own_of (fun tt_ kk_ => XS.iload X70.here hx rfl (hb hby at_195) rfl  kk_) ?_
      show own_Ends _ _ _ _ _ _ (T70.setTop (mkF m 197 #[.val (.int p1), .val (.long p2), .second, .val (.long p3), .second, .val (.long p4), .second, .val (.int p5), .val (.ref b17), .val (.ref b19), .val (.ref b21), .val (.ref b23), .val (.int (1 : Int32)), .val (.int (1 : Int32)), .val (.ref b60), .val (.int (1 : Int32))] [(.int (1 : Int32))]))
      refine own_of (fun tt_ kk_ => XS.ifNo X70.here hx rfl (hb hby at_197) rfl ((if0 _ _).trans (feq (by decide : ¬ ((1 : Int32) = (0 : Int32)))).1) kk_) ?_
      show own_Ends _ _ _ _ _ _ (T70.setTop (mkF m 200 #[.val (.int p1), .val (.long p2), .second, .val (.long p3), .second, .val (.long p4), .second, .val (.int p5), .val (.ref b17), .val (.ref b19), .val (.ref b21), .val (.ref b23), .val (.int (1 : Int32)), .val (.int (1 : Int32)), .val (.ref b60), .val (.int (1 : Int32))] []))
      refine own_of (fun tt_ kk_ => XS.aload X70.here hx rfl (hb hby at_200) rfl rfl kk_) ?_
      show own_Ends _ _ _ _ _ _ (T70.setTop (mkF m 202 #[.val (.int p1), .val (.long p2), .second, .val (.long p3), .second, .val (.long p4), .second, .val (.int p5), .val (.ref b17), .val (.ref b19), .val (.ref b21), .val (.ref b23), .val (.int (1 : Int32)), .val (.int (1 : Int32)), .val (.ref b60), .val (.int (1 : Int32))] [(.ref b60)]))
      obtain ⟨v71, T71, L71, h71, X71, e71, Q71, st71⟩ := own_virtual X70 hx hZ hown e70 A60 (hw _ (List.mem_of_getElem? (i := 59) rfl)) (hw _ (List.mem_of_getElem? (i := 60) rfl)) (notFace_of_selects (args := #[]) (mvT hZ (hw _ (List.mem_of_getElem? (i := 62) rfl)))) (hw _ (List.mem_of_getElem? (i := 62) rfl)) (hw _ (List.mem_of_getElem? (i := 61) rfl)) (hw _ (List.mem_of_getElem? (i := 32) rfl)) (hw _ (List.mem_of_getElem? (i := 63) rfl)) (by decide) (argsL := []) (rest := []) (rm_failedAttempts l Z a0 hw b60 ((p1 + (1 : Int32)) + (1 : Int32)) h70 n0 (Nat.le_trans Z0 K.1) F_failedAttempts_b60) (g := (mkF m 202 #[.val (.int p1), .val (.long p2), .second, .val (.long p3), .second, .val (.long p4), .second, .val (.int p5), .val (.ref b17), .val (.ref b19), .val (.ref b21), .val (.ref b23), .val (.int (1 : Int32)), .val (.int (1 : Int32)), .val (.ref b60), .val (.int (1 : Int32))] [(.ref b60)])) rfl (by rw [hml]; rfl) (lenOf pd___r_I rfl) rfl (by decide) (Nat.le_of_ble_eq_true rfl) (by decide) (by decide) (hb hby at_202)
      obtain ⟨rfl, Nq71, q71⟩ := Q71
      replace e71 := e71.trans q71
      have N71 := Fr.app N70 Nq71
      refine own_of st71 ?_
      show own_Ends _ _ _ _ _ _ (T71.setTop (mkF m 205 #[.val (.int p1), .val (.long p2), .second, .val (.long p3), .second, .val (.long p4), .second, .val (.int p5), .val (.ref b17), .val (.ref b19), .val (.ref b21), .val (.ref b23), .val (.int (1 : Int32)), .val (.int (1 : Int32)), .val (.ref b60), .val (.int (1 : Int32))] [(.int ((p1 + (1 : Int32)) + (1 : Int32)))]))
      refine own_of (fun tt_ kk_ => XS.iloadN X71.here hx rfl (hb hby at_205) rfl  kk_) ?_
      show own_Ends _ _ _ _ _ _ (T71.setTop (mkF m 206 #[.val (.int p1), .val (.long p2), .second, .val (.long p3), .second, .val (.long p4), .second, .val (.int p5), .val (.ref b17), .val (.ref b19), .val (.ref b21), .val (.ref b23), .val (.int (1 : Int32)), .val (.int (1 : Int32)), .val (.ref b60), .val (.int (1 : Int32))] [(.int p1), (.int ((p1 + (1 : Int32)) + (1 : Int32)))]))
      refine own_of (fun tt_ kk_ => XS.iconst X71.here hx rfl (hb hby at_206) kk_) ?_
      show own_Ends _ _ _ _ _ _ (T71.setTop (mkF m 207 #[.val (.int p1), .val (.long p2), .second, .val (.long p3), .second, .val (.long p4), .second, .val (.int p5), .val (.ref b17), .val (.ref b19), .val (.ref b21), .val (.ref b23), .val (.int (1 : Int32)), .val (.int (1 : Int32)), .val (.ref b60), .val (.int (1 : Int32))] [(.int (2 : Int32)), (.int p1), (.int ((p1 + (1 : Int32)) + (1 : Int32)))]))
      refine own_of (fun tt_ kk_ => XS.iadd X71.here hx rfl (hb hby at_207) rfl kk_) ?_
      show own_Ends _ _ _ _ _ _ (T71.setTop (mkF m 208 #[.val (.int p1), .val (.long p2), .second, .val (.long p3), .second, .val (.long p4), .second, .val (.int p5), .val (.ref b17), .val (.ref b19), .val (.ref b21), .val (.ref b23), .val (.int (1 : Int32)), .val (.int (1 : Int32)), .val (.ref b60), .val (.int (1 : Int32))] [(.int (p1 + (2 : Int32))), (.int ((p1 + (1 : Int32)) + (1 : Int32)))]))
      refine own_of (fun tt_ kk_ => XS.icmpNo X71.here hx rfl (hb hby at_208) rfl (teq (own_two p1)).2 kk_) ?_
      show own_Ends _ _ _ _ _ _ (T71.setTop (mkF m 211 #[.val (.int p1), .val (.long p2), .second, .val (.long p3), .second, .val (.long p4), .second, .val (.int p5), .val (.ref b17), .val (.ref b19), .val (.ref b21), .val (.ref b23), .val (.int (1 : Int32)), .val (.int (1 : Int32)), .val (.ref b60), .val (.int (1 : Int32))] []))
      refine own_of (fun tt_ kk_ => XS.aload X71.here hx rfl (hb hby at_211) rfl rfl kk_) ?_
      show own_Ends _ _ _ _ _ _ (T71.setTop (mkF m 213 #[.val (.int p1), .val (.long p2), .second, .val (.long p3), .second, .val (.long p4), .second, .val (.int p5), .val (.ref b17), .val (.ref b19), .val (.ref b21), .val (.ref b23), .val (.int (1 : Int32)), .val (.int (1 : Int32)), .val (.ref b60), .val (.int (1 : Int32))] [(.ref b60)]))
      obtain ⟨v72, T72, L72, h72, X72, e72, Q72, st72⟩ := own_virtual X71 hx hZ hown e71 A60 (hw _ (List.mem_of_getElem? (i := 64) rfl)) (hw _ (List.mem_of_getElem? (i := 65) rfl)) (notFace_of_selects (args := #[]) (mvT hZ (hw _ (List.mem_of_getElem? (i := 67) rfl)))) (hw _ (List.mem_of_getElem? (i := 67) rfl)) (hw _ (List.mem_of_getElem? (i := 66) rfl)) (hw _ (List.mem_of_getElem? (i := 32) rfl)) (hw _ (List.mem_of_getElem? (i := 68) rfl)) (by decide) (argsL := []) (rest := []) (rm_nextAttemptTime l Z a0 hw b60 p4 h70 n0 (Nat.le_trans Z0 K.1) F_nextAttemptTime_b60) (g := (mkF m 213 #[.val (.int p1), .val (.long p2), .second, .val (.long p3), .second, .val (.long p4), .second, .val (.int p5), .val (.ref b17), .val (.ref b19), .val (.ref b21), .val (.ref b23), .val (.int (1 : Int32)), .val (.int (1 : Int32)), .val (.ref b60), .val (.int (1 : Int32))] [(.ref b60)])) rfl (by rw [hml]; rfl) (lenOf pd___r_J rfl) rfl (by decide) (Nat.le_of_ble_eq_true rfl) (by decide) (by decide) (hb hby at_213)
      obtain ⟨rfl, Nq72, q72⟩ := Q72
      replace e72 := e72.trans q72
      have N72 := Fr.app N71 Nq72
      refine own_of st72 ?_
      show own_Ends _ _ _ _ _ _ (T72.setTop (mkF m 216 #[.val (.int p1), .val (.long p2), .second, .val (.long p3), .second, .val (.long p4), .second, .val (.int p5), .val (.ref b17), .val (.ref b19), .val (.ref b21), .val (.ref b23), .val (.int (1 : Int32)), .val (.int (1 : Int32)), .val (.ref b60), .val (.int (1 : Int32))] [(.long p4)]))
      refine own_of (fun tt_ kk_ => XS.lload X72.here hx rfl (hb hby at_216) rfl  kk_) ?_
      show own_Ends _ _ _ _ _ _ (T72.setTop (mkF m 218 #[.val (.int p1), .val (.long p2), .second, .val (.long p3), .second, .val (.long p4), .second, .val (.int p5), .val (.ref b17), .val (.ref b19), .val (.ref b21), .val (.ref b23), .val (.int (1 : Int32)), .val (.int (1 : Int32)), .val (.ref b60), .val (.int (1 : Int32))] [(.long p4), (.long p4)]))
      refine own_of (fun tt_ kk_ => XS.lcmp X72.here hx rfl (hb hby at_218) rfl kk_) ?_
      show own_Ends _ _ _ _ _ _ (T72.setTop (mkF m 219 #[.val (.int p1), .val (.long p2), .second, .val (.long p3), .second, .val (.long p4), .second, .val (.int p5), .val (.ref b17), .val (.ref b19), .val (.ref b21), .val (.ref b23), .val (.int (1 : Int32)), .val (.int (1 : Int32)), .val (.ref b60), .val (.int (1 : Int32))] [(.int (lcmpW p4 p4))]))
      refine own_of (fun tt_ kk_ => XS.ifNo X72.here hx rfl (hb hby at_219) rfl ((if0 _ _).trans (teq ((lw_eq _ _).mpr rfl)).2) kk_) ?_
      show own_Ends _ _ _ _ _ _ (T72.setTop (mkF m 222 #[.val (.int p1), .val (.long p2), .second, .val (.long p3), .second, .val (.long p4), .second, .val (.int p5), .val (.ref b17), .val (.ref b19), .val (.ref b21), .val (.ref b23), .val (.int (1 : Int32)), .val (.int (1 : Int32)), .val (.ref b60), .val (.int (1 : Int32))] []))
      refine own_of (fun tt_ kk_ => XS.aload X72.here hx rfl (hb hby at_222) rfl rfl kk_) ?_
      show own_Ends _ _ _ _ _ _ (T72.setTop (mkF m 224 #[.val (.int p1), .val (.long p2), .second, .val (.long p3), .second, .val (.long p4), .second, .val (.int p5), .val (.ref b17), .val (.ref b19), .val (.ref b21), .val (.ref b23), .val (.int (1 : Int32)), .val (.int (1 : Int32)), .val (.ref b60), .val (.int (1 : Int32))] [(.ref b60)]))
      obtain ⟨v73, T73, L73, h73, X73, e73, Q73, st73⟩ := own_virtual X72 hx hZ hown e72 A60 (hw _ (List.mem_of_getElem? (i := 84) rfl)) (hw _ (List.mem_of_getElem? (i := 85) rfl)) (notFace_of_selects (args := #[]) (mvT hZ (hw _ (List.mem_of_getElem? (i := 87) rfl)))) (hw _ (List.mem_of_getElem? (i := 87) rfl)) (hw _ (List.mem_of_getElem? (i := 86) rfl)) (hw _ (List.mem_of_getElem? (i := 32) rfl)) (hw _ (List.mem_of_getElem? (i := 88) rfl)) (by decide) (argsL := []) (rest := []) (rm_cancelled l Z a0 hw b60 (1 : Int32) h70 n0 (Nat.le_trans Z0 K.1) F_cancelled_b60 rfl) (g := (mkF m 224 #[.val (.int p1), .val (.long p2), .second, .val (.long p3), .second, .val (.long p4), .second, .val (.int p5), .val (.ref b17), .val (.ref b19), .val (.ref b21), .val (.ref b23), .val (.int (1 : Int32)), .val (.int (1 : Int32)), .val (.ref b60), .val (.int (1 : Int32))] [(.ref b60)])) rfl (by rw [hml]; rfl) (lenOf pd___r_Z rfl) rfl (by decide) (Nat.le_of_ble_eq_true rfl) (by decide) (by decide) (hb hby at_224)
      obtain ⟨rfl, Nq73, q73⟩ := Q73
      replace e73 := e73.trans q73
      have N73 := Fr.app N72 Nq73
      refine own_of st73 ?_
      show own_Ends _ _ _ _ _ _ (T73.setTop (mkF m 227 #[.val (.int p1), .val (.long p2), .second, .val (.long p3), .second, .val (.long p4), .second, .val (.int p5), .val (.ref b17), .val (.ref b19), .val (.ref b21), .val (.ref b23), .val (.int (1 : Int32)), .val (.int (1 : Int32)), .val (.ref b60), .val (.int (1 : Int32))] [(.int (1 : Int32))]))
      refine own_of (fun tt_ kk_ => XS.iload X73.here hx rfl (hb hby at_227) rfl  kk_) ?_
      show own_Ends _ _ _ _ _ _ (T73.setTop (mkF m 229 #[.val (.int p1), .val (.long p2), .second, .val (.long p3), .second, .val (.long p4), .second, .val (.int p5), .val (.ref b17), .val (.ref b19), .val (.ref b21), .val (.ref b23), .val (.int (1 : Int32)), .val (.int (1 : Int32)), .val (.ref b60), .val (.int (1 : Int32))] [(.int (1 : Int32)), (.int (1 : Int32))]))
      refine own_of (fun tt_ kk_ => XS.icmpNo X73.here hx rfl (hb hby at_229) rfl (teq (by decide : ((1 : Int32) = (1 : Int32)))).2 kk_) ?_
      show own_Ends _ _ _ _ _ _ (T73.setTop (mkF m 232 #[.val (.int p1), .val (.long p2), .second, .val (.long p3), .second, .val (.long p4), .second, .val (.int p5), .val (.ref b17), .val (.ref b19), .val (.ref b21), .val (.ref b23), .val (.int (1 : Int32)), .val (.int (1 : Int32)), .val (.ref b60), .val (.int (1 : Int32))] []))
      refine own_of (fun tt_ kk_ => XS.iconst X73.here hx rfl (hb hby at_232) kk_) ?_
      show own_Ends _ _ _ _ _ _ (T73.setTop (mkF m 233 #[.val (.int p1), .val (.long p2), .second, .val (.long p3), .second, .val (.long p4), .second, .val (.int p5), .val (.ref b17), .val (.ref b19), .val (.ref b21), .val (.ref b23), .val (.int (1 : Int32)), .val (.int (1 : Int32)), .val (.ref b60), .val (.int (1 : Int32))] [(.int (1 : Int32))]))
      refine own_of (fun tt_ kk_ => XS.goto X73.here hx rfl (pc0 := 233) (pc' := 237) rfl (hb hby at_233) (by decide) (by decide) kk_) ?_
      show own_Ends _ _ _ _ _ _ (T73.setTop (mkF m 237 #[.val (.int p1), .val (.long p2), .second, .val (.long p3), .second, .val (.long p4), .second, .val (.int p5), .val (.ref b17), .val (.ref b19), .val (.ref b21), .val (.ref b23), .val (.int (1 : Int32)), .val (.int (1 : Int32)), .val (.ref b60), .val (.int (1 : Int32))] [(.int (1 : Int32))]))
      refine own_of (fun tt_ kk_ => XS.istore X73.here hx rfl (hb hby at_237) rfl (l' := #[.val (.int p1), .val (.long p2), .second, .val (.long p3), .second, .val (.long p4), .second, .val (.int p5), .val (.ref b17), .val (.ref b19), .val (.ref b21), .val (.ref b23), .val (.int (1 : Int32)), .val (.int (1 : Int32)), .val (.ref b60), .val (.int (1 : Int32))]) rfl kk_) ?_
      show own_Ends _ _ _ _ _ _ (T73.setTop (mkF m 239 #[.val (.int p1), .val (.long p2), .second, .val (.long p3), .second, .val (.long p4), .second, .val (.int p5), .val (.ref b17), .val (.ref b19), .val (.ref b21), .val (.ref b23), .val (.int (1 : Int32)), .val (.int (1 : Int32)), .val (.ref b60), .val (.int (1 : Int32))] []))
      refine own_of (fun tt_ kk_ => XS.iload X73.here hx rfl (hb hby at_239) rfl  kk_) ?_
      show own_Ends _ _ _ _ _ _ (T73.setTop (mkF m 241 #[.val (.int p1), .val (.long p2), .second, .val (.long p3), .second, .val (.long p4), .second, .val (.int p5), .val (.ref b17), .val (.ref b19), .val (.ref b21), .val (.ref b23), .val (.int (1 : Int32)), .val (.int (1 : Int32)), .val (.ref b60), .val (.int (1 : Int32))] [(.int (1 : Int32))]))
      refine own_retN X73 hx hlk e73 (t := .boolean) hret (by simp) (z' := (1 : Int32)) rfl (hb hby at_241) (by decide) (by decide) ?_
      exact ⟨rfl, N73⟩
set_option maxRecDepth 65536 in
set_option maxHeartbeats 40000000 in
theorem comes_1 {Post : Tables → Env → Array Value → State → Outcome → State → Prop} (hpost : ∀ tb e args s v u, (limb_1_1.after args s (.returned v) u = true ∧ limb_1_2.after args s (.returned v) u = true ∧ True) → FrameEnd s (.returned v) u (Jvm.fieldLocs frame_1_writes args s ++ Jvm.arrayLocs frame_1_arrays args s ++ Jvm.staticLocs frame_1_statics s) 24 128 → Post tb e args s (.returned v) u) :
    ArmFor flags0 classFile x code maxLocals ret World_1 tables_1 room_1 Calls_1 rest_1 Pre_1 Post := by
  intro l hfl _ _ p e ha hc hk s m args below hf hA hF happ hP
  obtain ⟨hcalls, hrest, hpre⟩ := hP
  obtain ⟨-, -, -, hnamed, -, -, -, hat⟩ := (Spec.applies_iff hf).mp happ
  obtain ⟨hg, hn⟩ := and_e (Cond.before_iff.mp (show (Jvm.Cond.and given_1 narrow_1).before args s = true from hpre))
  obtain ⟨hcount, hg⟩ := and_e hg
  obtain ⟨hgi0, hg⟩ := and_e hg
  obtain ⟨hgi1, hg⟩ := and_e hg
  obtain ⟨hgi2, hg⟩ := and_e hg
  obtain ⟨hgi3, hg⟩ := and_e hg
  have hgi4 := hg
  obtain ⟨w0, w1, w2, w3, w4, rfl⟩ : ∃ w0 w1 w2 w3 w4 : Value, args = #[w0, w1, w2, w3, w4] := by
    have hs : args.size = 5 := by simpa [Cond.value, given_1] using hcount
    obtain ⟨L⟩ := args
    match L, hs with
    | [w0, w1, w2, w3, w4], _ => exact ⟨w0, w1, w2, w3, w4, rfl⟩
  have hw := fun d (hd : d ∈ tables_1) => atoms_spec (ws := Jvm.Cond.code x code maxLocals ret :: tables_1) hat d (List.mem_cons_of_mem _ hd)
  have hfit : Fit s := fun {y c} hc i hi => by
    obtain ⟨ha, rfl⟩ := Array.getElem?_eq_some_iff.mp hc
    have q := List.all_eq_true.mp ((Array.all_eq_true_iff_forall_mem.mp hF) _ (Array.getElem_mem ha)) i (List.mem_range.mpr hi)
    simpa [Array.getElem?_eq_getElem hi] using q
  obtain ⟨hsets, hown0⟩ := atoms_of _ (rest_1_c_eq ▸ (show rest_1_c.before _ s = true from hrest))
  have hr0 := Cond.before_iff.mp hown0
  obtain ⟨i0, ei0⟩ := is_v hgi0
  obtain rfl : w0 = (.int i0) := Option.some.inj ei0
  obtain ⟨i1, ei1⟩ := isL_v hgi1
  obtain rfl : w1 = (.long i1) := Option.some.inj ei1
  obtain ⟨i2, ei2⟩ := isL_v hgi2
  obtain rfl : w2 = (.long i2) := Option.some.inj ei2
  obtain ⟨i3, ei3⟩ := isL_v hgi3
  obtain rfl : w3 = (.long i3) := Option.some.inj ei3
  obtain ⟨i4, ei4⟩ := is_v hgi4
  obtain rfl : w4 = (.int i4) := Option.some.inj ei4
  have n3 := not_v (Cond.before_iff.mp (hsets _ (List.mem_of_getElem? (i := 2) rfl)))
  obtain ⟨iG, eG⟩ := is_v (Cond.before_iff.mp (hsets _ (List.mem_of_getElem? (i := 1) rfl)))
  have SG : Sta s s.heap "java/lang/String" "COMPACT_STRINGS" "Z" (.int iG) := Sta.start eG (Or.inl (hsets _ (List.mem_of_getElem? (i := 0) rfl)))
  have cG : ¬ (iG = (0 : Int32)) := gotF (Cond.eq_ints eG (Term.int_eval (0))) n3
  obtain ⟨n, o, h1, h2, h3, _, L, rfl, ⟨rfl, N⟩, hq⟩ := rm0 l s _ hw i0 i1 i2 i3 i4 iG s.heap s.heap.size (Nat.le_refl _) SG cG (Old.start s) tables_1 p e ha hc hk s m _ below hf ((Spec.applies_iff_loose hf).mp happ).1 ⟨rfl, State.Warmed39.refl s, rfl⟩ trivial
  refine ⟨n, _, h1, h2, h3, hpost _ _ _ _ _ _ ⟨Cond.after_iff.mpr rfl, Cond.after_iff.mpr (eq_i res_at (Term.int_eval (1)) rfl), trivial⟩ ⟨hq.1, hq.2.1, (hq.2.2.sift fun y hy => Or.inr (N y hy)).mono (by decide) (by decide)⟩⟩
theorem main_1_1 : Claimed_1_1 := comes_1 fun _ _ _ _ _ _ h hF => ⟨h.1, hF⟩
theorem main_1_2 : Claimed_1_2 := comes_1 fun _ _ _ _ _ _ h hF => ⟨h.2.1, hF⟩
end Jvm.Pilot.@@N@@
namespace Jvm.Pilot.@@N@@
open Jvm Jvm.ClassFile Sem Op Lib Jvm.Free Jvm.Stand Jvm.Pilot.@@N@@.Jvm.D
/-! MADE BY PROGRAM (witnessworld.py) out of the Statement's table words and the real class files: 20 classes; the members and pool entries that the words name. The judged class is class 1, her method 1. -/
namespace start1
open Jvm.ClassFile
def u (s : String) : CpInfo := .utf8 (stringToUtf16 s)
/-- a pool by its gaps: so many unusable entries, then the entry; so many at the end -/
def gap : Nat → List CpInfo → List CpInfo
  | 0, r => r
  | n + 1, r => .unusable :: gap n r
def poolList (es : List (Nat × CpInfo)) (last : Nat) : List CpInfo := es.foldr (fun e r => gap e.1 (e.2 :: r)) (gap last [])
def pool (es : List (Nat × CpInfo)) (last : Nat) : Array CpInfo := ⟨poolList es last⟩
def fileOf (pool : Array CpInfo) (this : Nat) (attrs : Array Attribute := #[]) (ms : Array MethodInfo := #[]) (fl : Nat := 33) (sup : Nat := 0) (ifs : Array Nat := #[]) (fds : Array FieldInfo := #[]) : ClassFile where
  minorVersion := 0
  majorVersion := 65
  constantPool := pool
  accessFlags := fl
  thisClass := this
  superClass := sup
  interfaces := ifs
  fields := fds
  methods := ms
  attributes := attrs
def plain (name : String) (sup : Option ClassId) : Class where
  name := name
  kind := .ordinary
  loader := none
  accessFlags := 33
  super := sup
  interfaces := #[]
  cf := none
  fields := #[]
  methods := #[]
  instanceTypes := #[]
  staticTypes := #[]
  resolved := #[]
  callSites := []
  init := .initialized
  statics := none
  mirror := none

def pool0 : Array CpInfo := pool [(5, u "<init>"), (0, u "()V"), (1, .class_ 10), (1, u "java/lang/Object")] 113

def k0c0 : Code := { maxStack := 0, maxLocals := 1, code := object_method_1_code, exceptionTable := #[], attributes := #[] }
def k0m0 : Method := { name := "<init>", desc := "()V", sig := { parameters := [], returnType := none }, accessFlags := 1, code := some k0c0 }
/-- java/lang/Object -/
def k0 : Class := { plain "java/lang/Object" none with
  accessFlags := 33
  interfaces := #[]
  cf := some (fileOf pool0 8 #[] #[{ accessFlags := 1, nameIndex := 5, descriptorIndex := 6, attributes := #[] }] 33 0 #[] #[])
  fields := #[]
  methods := #[k0m0]
  instanceTypes := #[]
  staticTypes := #[]
  resolved := Array.replicate 124 none
  statics := none }

def pool1 : Array CpInfo := pool [(2, .class_ 4), (1, u "java/lang/Object"), (0, u "<init>"), (0, u "()V"), (0, .class_ 8), (0, u "java/lang/String"), (0, .methodref 7 10), (0, .nameAndType 5 11), (0, u "([C)V"), (0, .class_ 13), (0, u "com/example/libenq/libenq/engine/Delivery"), (0, .methodref 12 15), (0, .nameAndType 5 16), (0, u "(Ljava/lang/String;Lcom/example/libenq/libenq/engine/TopicMessageRecord;Ljava/lang/String;IJ)V"), (0, .methodref 12 18), (0, .nameAndType 19 6), (0, u "cancel"), (0, .methodref 12 21), (0, .nameAndType 22 23), (0, u "failed"), (0, u "(J)V"), (0, .methodref 12 25), (0, .nameAndType 26 27), (0, u "failedAttempts"), (0, u "()I"), (0, .methodref 12 29), (0, .nameAndType 30 31), (0, u "nextAttemptTime"), (0, u "()J"), (0, .methodref 12 33), (0, .nameAndType 34 35), (0, u "topic"), (0, u "()Ljava/lang/String;"), (0, .methodref 12 37), (0, .nameAndType 38 35), (0, u "subscription"), (0, .methodref 12 40), (0, .nameAndType 41 42), (0, u "message"), (0, u "()Lcom/example/libenq/libenq/engine/TopicMessageRecord;"), (0, .methodref 12 44), (0, .nameAndType 45 46), (0, u "cancelled"), (0, u "()Z"), (0, .class_ 48), (0, u "com/example/libenq/libenq/engine/DeliveryFailedPinLaw"), (2, u "law"), (0, u "(IJJJI)Z")] 5

def k1m0 : Method := { name := "<init>", desc := "()V", sig := { parameters := [], returnType := none }, accessFlags := 2, code := none }
def k1c1 : Code := { maxStack := 8, maxLocals := 16, code := code, exceptionTable := #[], attributes := #[] }
def k1m1 : Method := { name := "law", desc := "(IJJJI)Z", sig := { parameters := [.int, .long, .long, .long, .int], returnType := some .boolean }, accessFlags := 9, code := some k1c1 }
/-- com/example/libenq/libenq/engine/DeliveryFailedPinLaw -/
def k1 : Class := { plain "com/example/libenq/libenq/engine/DeliveryFailedPinLaw" (some 0) with
  accessFlags := 49
  interfaces := #[]
  cf := some (fileOf pool1 47 #[] #[{ accessFlags := 2, nameIndex := 5, descriptorIndex := 6, attributes := #[] }, { accessFlags := 9, nameIndex := 51, descriptorIndex := 52, attributes := #[] }] 49 2 #[] #[])
  fields := #[]
  methods := #[k1m0, k1m1]
  instanceTypes := #[]
  staticTypes := #[]
  resolved := Array.replicate 58 none
  statics := none }

def pool2 : Array CpInfo := pool [(1, .class_ 2), (0, u "java/io/Serializable"), (0, .class_ 4), (0, u "java/lang/Object")] 2

/-- java/io/Serializable -/
def k2 : Class := { plain "java/io/Serializable" (some 0) with
  accessFlags := 1537
  interfaces := #[]
  cf := some (fileOf pool2 1 #[] #[] 1537 3 #[] #[])
  fields := #[]
  methods := #[]
  instanceTypes := #[]
  staticTypes := #[]
  resolved := Array.replicate 7 none
  statics := none }

def pool3 : Array CpInfo := pool [(1, .class_ 2), (0, u "java/lang/Comparable"), (0, .class_ 4), (0, u "java/lang/Object")] 7

/-- java/lang/Comparable -/
def k3 : Class := { plain "java/lang/Comparable" (some 0) with
  accessFlags := 1537
  interfaces := #[]
  cf := some (fileOf pool3 1 #[] #[] 1537 3 #[] #[])
  fields := #[]
  methods := #[]
  instanceTypes := #[]
  staticTypes := #[]
  resolved := Array.replicate 12 none
  statics := none }

def pool4 : Array CpInfo := pool [(2, .class_ 4), (1, u "java/lang/CharSequence"), (42, .class_ 48), (0, u "java/lang/CharSequence$1CodePointIterator"), (10, .class_ 60), (0, u "java/lang/CharSequence$1CharIterator"), (5, .class_ 67), (0, u "java/lang/Object")] 63

/-- java/lang/CharSequence -/
def k4 : Class := { plain "java/lang/CharSequence" (some 0) with
  accessFlags := 1537
  interfaces := #[]
  cf := some (fileOf pool4 2 #[.nestMembers #[47, 59]] #[] 1537 66 #[] #[])
  fields := #[]
  methods := #[]
  instanceTypes := #[]
  staticTypes := #[]
  resolved := Array.replicate 131 none
  statics := none }

def pool5 : Array CpInfo := pool [(1, .class_ 2), (0, u "java/lang/constant/Constable"), (0, .class_ 4), (0, u "java/lang/Object")] 6

/-- java/lang/constant/Constable -/
def k5 : Class := { plain "java/lang/constant/Constable" (some 0) with
  accessFlags := 1537
  interfaces := #[]
  cf := some (fileOf pool5 1 #[] #[] 1537 3 #[] #[])
  fields := #[]
  methods := #[]
  instanceTypes := #[]
  staticTypes := #[]
  resolved := Array.replicate 11 none
  statics := none }

def pool6 : Array CpInfo := pool [(1, .class_ 2), (0, u "java/lang/constant/ConstantDesc"), (0, .class_ 4), (0, u "java/lang/Object")] 32

/-- java/lang/constant/ConstantDesc -/
def k6 : Class := { plain "java/lang/constant/ConstantDesc" (some 0) with
  accessFlags := 1537
  interfaces := #[]
  cf := some (fileOf pool6 1 #[] #[] 1537 3 #[] #[])
  fields := #[]
  methods := #[]
  instanceTypes := #[]
  staticTypes := #[]
  resolved := Array.replicate 37 none
  statics := none }

def pool7 : Array CpInfo := pool [(1, .methodref 2 3), (0, .class_ 4), (0, .nameAndType 5 6), (0, u "java/lang/Object"), (0, u "<init>"), (0, u "()V"), (2, .fieldref 10 11), (0, .class_ 12), (0, .nameAndType 13 14), (0, u "java/lang/String"), (0, u "value"), (0, u "[B"), (0, .fieldref 10 16), (0, .nameAndType 17 18), (0, u "coder"), (0, u "B"), (2, u "hash"), (0, u "I"), (2, u "hashIsZero"), (0, u "Z"), (0, .methodref 10 28), (0, .nameAndType 5 29), (0, u "([CIILjava/lang/Void;)V"), (8, .fieldref 10 39), (0, .nameAndType 40 26), (0, u "COMPACT_STRINGS"), (1, .class_ 44), (1, u "java/lang/StringUTF16"), (0, u "compress"), (1, .methodref 42 48), (0, .nameAndType 49 50), (0, u "coderFromArrayLen"), (0, u "([BI)B"), (126, .methodref 42 178), (0, .nameAndType 45 179), (0, u "([CII)[B"), (395, .class_ 576), (0, u "java/lang/CharSequence"), (22, u "CASE_INSENSITIVE_ORDER"), (0, u "Ljava/util/Comparator;"), (409, u "([C)V"), (90, u "serialPersistentFields"), (0, u "[Ljava/io/ObjectStreamField;"), (0, .class_ 1104), (0, u "java/lang/String$CaseInsensitiveComparator"), (1, .class_ 1107), (0, u "java/io/Serializable"), (0, .class_ 1109), (0, u "java/lang/Comparable"), (0, .class_ 1111), (0, u "java/lang/constant/Constable"), (0, .class_ 1113), (0, u "java/lang/constant/ConstantDesc"), (2, u "serialVersionUID"), (0, u "J"), (3, u "REPL"), (0, u "C"), (2, u "LATIN1"), (1, u "UTF16")] 323

def k7m0 : Method := { name := "<init>", desc := "()V", sig := { parameters := [], returnType := none }, accessFlags := 1, code := none }
def k7c1 : Code := { maxStack := 5, maxLocals := 2, code := jdk_42_method_3_code, exceptionTable := #[], attributes := #[] }
def k7m1 : Method := { name := "<init>", desc := "([C)V", sig := { parameters := [(.array .char)], returnType := none }, accessFlags := 1, code := some k7c1 }
def k7c2 : Code := { maxStack := 4, maxLocals := 6, code := jdk_42_method_149_code, exceptionTable := #[], attributes := #[] }
def k7m2 : Method := { name := "<init>", desc := "([CIILjava/lang/Void;)V", sig := { parameters := [(.array .char), .int, .int, (.object "java/lang/Void")], returnType := none }, accessFlags := 2, code := some k7c2 }
/-- java/lang/String -/
def k7 : Class := { plain "java/lang/String" (some 0) with
  accessFlags := 49
  interfaces := #[2, 3, 4, 5, 6]
  cf := some (fileOf pool7 10 #[.nestMembers #[1103]] #[{ accessFlags := 1, nameIndex := 5, descriptorIndex := 6, attributes := #[] }, { accessFlags := 1, nameIndex := 5, descriptorIndex := 1010, attributes := #[] }, { accessFlags := 2, nameIndex := 5, descriptorIndex := 29, attributes := #[] }] 49 2 #[1106, 1108, 575, 1110, 1112] #[{ accessFlags := 18, nameIndex := 13, descriptorIndex := 14, attributes := #[] }, { accessFlags := 18, nameIndex := 17, descriptorIndex := 18, attributes := #[] }, { accessFlags := 2, nameIndex := 21, descriptorIndex := 22, attributes := #[] }, { accessFlags := 2, nameIndex := 25, descriptorIndex := 26, attributes := #[] }, { accessFlags := 26, nameIndex := 1116, descriptorIndex := 1117, attributes := #[] }, { accessFlags := 24, nameIndex := 40, descriptorIndex := 26, attributes := #[] }, { accessFlags := 26, nameIndex := 1101, descriptorIndex := 1102, attributes := #[] }, { accessFlags := 26, nameIndex := 1121, descriptorIndex := 1122, attributes := #[] }, { accessFlags := 25, nameIndex := 599, descriptorIndex := 600, attributes := #[] }, { accessFlags := 24, nameIndex := 1125, descriptorIndex := 18, attributes := #[] }, { accessFlags := 24, nameIndex := 1127, descriptorIndex := 18, attributes := #[] }])
  fields := #[{ name := "value", type := (.array .byte), accessFlags := 18, slot := 0, constantValue := 0 }, { name := "coder", type := .byte, accessFlags := 18, slot := 1, constantValue := 0 }, { name := "hash", type := .int, accessFlags := 2, slot := 2, constantValue := 0 }, { name := "hashIsZero", type := .boolean, accessFlags := 2, slot := 3, constantValue := 0 }, { name := "serialVersionUID", type := .long, accessFlags := 26, slot := 0, constantValue := 0 }, { name := "COMPACT_STRINGS", type := .boolean, accessFlags := 24, slot := 1, constantValue := 0 }, { name := "serialPersistentFields", type := (.array (.object "java/io/ObjectStreamField")), accessFlags := 26, slot := 2, constantValue := 0 }, { name := "REPL", type := .char, accessFlags := 26, slot := 3, constantValue := 0 }, { name := "CASE_INSENSITIVE_ORDER", type := (.object "java/util/Comparator"), accessFlags := 25, slot := 4, constantValue := 0 }, { name := "LATIN1", type := .byte, accessFlags := 24, slot := 5, constantValue := 0 }, { name := "UTF16", type := .byte, accessFlags := 24, slot := 6, constantValue := 0 }]
  methods := #[k7m0, k7m1, k7m2]
  instanceTypes := #[(.array .byte), .byte, .int, .boolean]
  staticTypes := #[.long, .boolean, (.array (.object "java/io/ObjectStreamField")), .char, (.object "java/util/Comparator"), .byte, .byte]
  resolved := Array.replicate 1451 none
  statics := some 0 }

def pool8 : Array CpInfo := pool [(6, .class_ 8), (1, u "java/lang/Object"), (0, u "<init>"), (0, u "()V"), (1, .class_ 14), (1, u "java/lang/StringUTF16"), (31, u "$assertionsDisabled"), (0, u "Z"), (13, u "HI_BYTE_SHIFT"), (0, u "I"), (2, u "LO_BYTE_SHIFT"), (49, .methodref 12 116), (0, .nameAndType 117 118), (0, u "compress"), (0, u "([CI[BII)I"), (3, u "([CII)[B"), (138, u "coderFromArrayLen"), (0, u "([BI)B"), (106, .class_ 371), (1, u "java/lang/StringUTF16$LinesSpliterator"), (58, u "MAX_LENGTH"), (196, .class_ 628), (0, u "java/lang/StringUTF16$CodePointsSpliterator"), (0, .class_ 630), (0, u "java/lang/StringUTF16$CharsSpliterator")] 4

def k8m0 : Method := { name := "<init>", desc := "()V", sig := { parameters := [], returnType := none }, accessFlags := 0, code := none }
def k8c1 : Code := { maxStack := 2, maxLocals := 2, code := jdk_52_method_15_code, exceptionTable := #[], attributes := #[] }
def k8m1 : Method := { name := "coderFromArrayLen", desc := "([BI)B", sig := { parameters := [(.array .byte), .int], returnType := some .byte }, accessFlags := 8, code := some k8c1 }
def k8c2 : Code := { maxStack := 5, maxLocals := 6, code := jdk_52_method_16_code, exceptionTable := #[], attributes := #[] }
def k8m2 : Method := { name := "compress", desc := "([CII)[B", sig := { parameters := [(.array .char), .int, .int], returnType := some (.array .byte) }, accessFlags := 9, code := some k8c2 }
def k8c3 : Code := { maxStack := 3, maxLocals := 7, code := jdk_52_method_21_code, exceptionTable := #[], attributes := #[] }
def k8m3 : Method := { name := "compress", desc := "([CI[BII)I", sig := { parameters := [(.array .char), .int, (.array .byte), .int, .int], returnType := some .int }, accessFlags := 9, code := some k8c3 }
/-- java/lang/StringUTF16 -/
def k8 : Class := { plain "java/lang/StringUTF16" (some 0) with
  accessFlags := 48
  interfaces := #[]
  cf := some (fileOf pool8 12 #[.nestMembers #[627, 629, 369]] #[{ accessFlags := 0, nameIndex := 9, descriptorIndex := 10, attributes := #[] }, { accessFlags := 8, nameIndex := 261, descriptorIndex := 262, attributes := #[] }, { accessFlags := 9, nameIndex := 117, descriptorIndex := 122, attributes := #[] }, { accessFlags := 9, nameIndex := 117, descriptorIndex := 118, attributes := #[] }] 48 6 #[] #[{ accessFlags := 26, nameIndex := 61, descriptorIndex := 62, attributes := #[] }, { accessFlags := 26, nameIndex := 65, descriptorIndex := 62, attributes := #[] }, { accessFlags := 24, nameIndex := 430, descriptorIndex := 62, attributes := #[] }, { accessFlags := 4120, nameIndex := 46, descriptorIndex := 47, attributes := #[] }])
  fields := #[{ name := "HI_BYTE_SHIFT", type := .int, accessFlags := 26, slot := 0, constantValue := 0 }, { name := "LO_BYTE_SHIFT", type := .int, accessFlags := 26, slot := 1, constantValue := 0 }, { name := "MAX_LENGTH", type := .int, accessFlags := 24, slot := 2, constantValue := 0 }, { name := "$assertionsDisabled", type := .boolean, accessFlags := 4120, slot := 3, constantValue := 0 }]
  methods := #[k8m0, k8m1, k8m2, k8m3]
  instanceTypes := #[]
  staticTypes := #[.int, .int, .int, .boolean]
  resolved := Array.replicate 635 none
  statics := none }

def pool9 : Array CpInfo := pool [(1, .methodref 2 3), (0, .class_ 4), (0, .nameAndType 5 6), (0, u "java/lang/Object"), (0, u "<init>"), (0, u "()V"), (0, .fieldref 8 9), (0, .class_ 10), (0, .nameAndType 11 12), (0, u "com/example/libenq/libenq/engine/Delivery"), (0, u "topic"), (0, u "Ljava/lang/String;"), (0, .fieldref 8 14), (0, .nameAndType 15 16), (0, u "message"), (0, u "Lcom/example/libenq/libenq/engine/TopicMessageRecord;"), (0, .fieldref 8 18), (0, .nameAndType 19 12), (0, u "subscription"), (0, .fieldref 8 21), (0, .nameAndType 22 23), (0, u "failedAttempts"), (0, u "I"), (0, .fieldref 8 25), (0, .nameAndType 26 27), (0, u "nextAttemptTime"), (0, u "J"), (0, .fieldref 8 29), (0, .nameAndType 30 31), (0, u "cancelled"), (0, u "Z"), (7, u "()J"), (3, u "(Ljava/lang/String;Lcom/example/libenq/libenq/engine/TopicMessageRecord;Ljava/lang/String;IJ)V"), (2, u "()Ljava/lang/String;"), (0, u "()Lcom/example/libenq/libenq/engine/TopicMessageRecord;"), (0, u "()I"), (0, u "()Z"), (2, u "failed"), (0, u "(J)V"), (0, u "cancel")] 2

def k9c0 : Code := { maxStack := 3, maxLocals := 7, code := prog_2_method_1_code, exceptionTable := #[], attributes := #[] }
def k9m0 : Method := { name := "<init>", desc := "(Ljava/lang/String;Lcom/example/libenq/libenq/engine/TopicMessageRecord;Ljava/lang/String;IJ)V", sig := { parameters := [(.object "java/lang/String"), (.object "com/example/libenq/libenq/engine/TopicMessageRecord"), (.object "java/lang/String"), .int, .long], returnType := none }, accessFlags := 0, code := some k9c0 }
def k9c1 : Code := { maxStack := 1, maxLocals := 1, code := prog_2_method_2_code, exceptionTable := #[], attributes := #[] }
def k9m1 : Method := { name := "topic", desc := "()Ljava/lang/String;", sig := { parameters := [], returnType := some (.object "java/lang/String") }, accessFlags := 0, code := some k9c1 }
def k9c2 : Code := { maxStack := 1, maxLocals := 1, code := prog_2_method_3_code, exceptionTable := #[], attributes := #[] }
def k9m2 : Method := { name := "message", desc := "()Lcom/example/libenq/libenq/engine/TopicMessageRecord;", sig := { parameters := [], returnType := some (.object "com/example/libenq/libenq/engine/TopicMessageRecord") }, accessFlags := 0, code := some k9c2 }
def k9c3 : Code := { maxStack := 1, maxLocals := 1, code := prog_2_method_4_code, exceptionTable := #[], attributes := #[] }
def k9m3 : Method := { name := "subscription", desc := "()Ljava/lang/String;", sig := { parameters := [], returnType := some (.object "java/lang/String") }, accessFlags := 0, code := some k9c3 }
def k9c4 : Code := { maxStack := 1, maxLocals := 1, code := prog_2_method_5_code, exceptionTable := #[], attributes := #[] }
def k9m4 : Method := { name := "failedAttempts", desc := "()I", sig := { parameters := [], returnType := some .int }, accessFlags := 0, code := some k9c4 }
def k9c5 : Code := { maxStack := 2, maxLocals := 1, code := prog_2_method_6_code, exceptionTable := #[], attributes := #[] }
def k9m5 : Method := { name := "nextAttemptTime", desc := "()J", sig := { parameters := [], returnType := some .long }, accessFlags := 0, code := some k9c5 }
def k9c6 : Code := { maxStack := 1, maxLocals := 1, code := prog_2_method_7_code, exceptionTable := #[], attributes := #[] }
def k9m6 : Method := { name := "cancelled", desc := "()Z", sig := { parameters := [], returnType := some .boolean }, accessFlags := 0, code := some k9c6 }
def k9c7 : Code := { maxStack := 3, maxLocals := 3, code := prog_2_method_9_code, exceptionTable := #[], attributes := #[] }
def k9m7 : Method := { name := "failed", desc := "(J)V", sig := { parameters := [.long], returnType := none }, accessFlags := 0, code := some k9c7 }
def k9c8 : Code := { maxStack := 2, maxLocals := 1, code := prog_2_method_10_code, exceptionTable := #[], attributes := #[] }
def k9m8 : Method := { name := "cancel", desc := "()V", sig := { parameters := [], returnType := none }, accessFlags := 0, code := some k9c8 }
/-- com/example/libenq/libenq/engine/Delivery -/
def k9 : Class := { plain "com/example/libenq/libenq/engine/Delivery" (some 0) with
  accessFlags := 48
  interfaces := #[]
  cf := some (fileOf pool9 8 #[] #[{ accessFlags := 0, nameIndex := 5, descriptorIndex := 43, attributes := #[] }, { accessFlags := 0, nameIndex := 11, descriptorIndex := 46, attributes := #[] }, { accessFlags := 0, nameIndex := 15, descriptorIndex := 47, attributes := #[] }, { accessFlags := 0, nameIndex := 19, descriptorIndex := 46, attributes := #[] }, { accessFlags := 0, nameIndex := 22, descriptorIndex := 48, attributes := #[] }, { accessFlags := 0, nameIndex := 26, descriptorIndex := 39, attributes := #[] }, { accessFlags := 0, nameIndex := 30, descriptorIndex := 49, attributes := #[] }, { accessFlags := 0, nameIndex := 52, descriptorIndex := 53, attributes := #[] }, { accessFlags := 0, nameIndex := 54, descriptorIndex := 6, attributes := #[] }] 48 2 #[] #[{ accessFlags := 18, nameIndex := 11, descriptorIndex := 12, attributes := #[] }, { accessFlags := 18, nameIndex := 15, descriptorIndex := 16, attributes := #[] }, { accessFlags := 18, nameIndex := 19, descriptorIndex := 12, attributes := #[] }, { accessFlags := 2, nameIndex := 22, descriptorIndex := 23, attributes := #[] }, { accessFlags := 2, nameIndex := 26, descriptorIndex := 27, attributes := #[] }, { accessFlags := 2, nameIndex := 30, descriptorIndex := 31, attributes := #[] }])
  fields := #[{ name := "topic", type := (.object "java/lang/String"), accessFlags := 18, slot := 0, constantValue := 0 }, { name := "message", type := (.object "com/example/libenq/libenq/engine/TopicMessageRecord"), accessFlags := 18, slot := 1, constantValue := 0 }, { name := "subscription", type := (.object "java/lang/String"), accessFlags := 18, slot := 2, constantValue := 0 }, { name := "failedAttempts", type := .int, accessFlags := 2, slot := 3, constantValue := 0 }, { name := "nextAttemptTime", type := .long, accessFlags := 2, slot := 4, constantValue := 0 }, { name := "cancelled", type := .boolean, accessFlags := 2, slot := 5, constantValue := 0 }]
  methods := #[k9m0, k9m1, k9m2, k9m3, k9m4, k9m5, k9m6, k9m7, k9m8]
  instanceTypes := #[(.object "java/lang/String"), (.object "com/example/libenq/libenq/engine/TopicMessageRecord"), (.object "java/lang/String"), .int, .long, .boolean]
  staticTypes := #[]
  resolved := Array.replicate 57 none
  statics := none }

def pool10 : Array CpInfo := pool [(4, .class_ 6), (1, u "java/lang/Object"), (0, u "<init>"), (0, u "()V"), (5, .class_ 16), (1, u "java/lang/StringLatin1"), (104, u "$assertionsDisabled"), (0, u "Z"), (98, .class_ 223), (1, u "java/lang/StringLatin1$LinesSpliterator"), (166, .class_ 391), (0, u "java/lang/StringLatin1$CharsSpliterator")] 3

def k10m0 : Method := { name := "<init>", desc := "()V", sig := { parameters := [], returnType := none }, accessFlags := 0, code := none }
/-- java/lang/StringLatin1 -/
def k10 : Class := { plain "java/lang/StringLatin1" (some 0) with
  accessFlags := 48
  interfaces := #[]
  cf := some (fileOf pool10 14 #[.nestMembers #[390, 221]] #[{ accessFlags := 0, nameIndex := 7, descriptorIndex := 8, attributes := #[] }] 48 4 #[] #[{ accessFlags := 4120, nameIndex := 121, descriptorIndex := 122, attributes := #[] }])
  fields := #[{ name := "$assertionsDisabled", type := .boolean, accessFlags := 4120, slot := 0, constantValue := 0 }]
  methods := #[k10m0]
  instanceTypes := #[]
  staticTypes := #[.boolean]
  resolved := Array.replicate 395 none
  statics := none }

def pool11 : Array CpInfo := pool [(2, .class_ 4), (1, u "java/lang/Object"), (0, u "<init>"), (0, u "()V"), (17, .class_ 26), (1, u "jdk/internal/util/Preconditions"), (28, .class_ 56), (0, u "jdk/internal/util/Preconditions$4"), (57, .class_ 115), (0, u "jdk/internal/util/Preconditions$1"), (7, u "SIOOBE_FORMATTER"), (0, u "Ljava/util/function/BiFunction;"), (0, .class_ 126), (0, u "jdk/internal/util/Preconditions$2"), (3, u "AIOOBE_FORMATTER"), (0, .class_ 132), (0, u "jdk/internal/util/Preconditions$3"), (3, u "IOOBE_FORMATTER")] 57

def k11m0 : Method := { name := "<init>", desc := "()V", sig := { parameters := [], returnType := none }, accessFlags := 1, code := none }
/-- jdk/internal/util/Preconditions -/
def k11 : Class := { plain "jdk/internal/util/Preconditions" (some 0) with
  accessFlags := 33
  interfaces := #[]
  cf := some (fileOf pool11 24 #[.nestMembers #[55, 131, 125, 114]] #[{ accessFlags := 1, nameIndex := 5, descriptorIndex := 6, attributes := #[] }] 33 2 #[] #[{ accessFlags := 25, nameIndex := 123, descriptorIndex := 124, attributes := #[] }, { accessFlags := 25, nameIndex := 130, descriptorIndex := 124, attributes := #[] }, { accessFlags := 25, nameIndex := 136, descriptorIndex := 124, attributes := #[] }])
  fields := #[{ name := "SIOOBE_FORMATTER", type := (.object "java/util/function/BiFunction"), accessFlags := 25, slot := 0, constantValue := 0 }, { name := "AIOOBE_FORMATTER", type := (.object "java/util/function/BiFunction"), accessFlags := 25, slot := 1, constantValue := 0 }, { name := "IOOBE_FORMATTER", type := (.object "java/util/function/BiFunction"), accessFlags := 25, slot := 2, constantValue := 0 }]
  methods := #[k11m0]
  instanceTypes := #[]
  staticTypes := #[(.object "java/util/function/BiFunction"), (.object "java/util/function/BiFunction"), (.object "java/util/function/BiFunction")]
  resolved := Array.replicate 194 none
  statics := some 1 }

def pool12 : Array CpInfo := pool [(9, u "<init>"), (6, .class_ 18), (1, u "java/lang/Object"), (0, u "()V"), (1, .class_ 23), (1, u "jdk/internal/util/ArraysSupport"), (0, u "LOG2_ARRAY_LONG_INDEX_SCALE"), (0, u "I"), (2, u "U"), (0, u "Ljdk/internal/misc/Unsafe;"), (8, u "BIG_ENDIAN"), (0, u "Z"), (8, u "LOG2_BYTE_BIT_SIZE"), (4, u "LOG2_ARRAY_INT_INDEX_SCALE"), (54, u "JLA"), (0, u "Ljdk/internal/access/JavaLangAccess;"), (11, u "LOG2_ARRAY_BOOLEAN_INDEX_SCALE"), (9, u "LOG2_ARRAY_BYTE_INDEX_SCALE"), (5, u "LOG2_ARRAY_CHAR_INDEX_SCALE"), (5, u "LOG2_ARRAY_SHORT_INDEX_SCALE"), (18, u "LOG2_ARRAY_FLOAT_INDEX_SCALE"), (24, u "LOG2_ARRAY_DOUBLE_INDEX_SCALE"), (89, u "T_BOOLEAN"), (2, u "T_CHAR"), (1, u "T_FLOAT"), (1, u "T_DOUBLE"), (1, u "T_BYTE"), (1, u "T_SHORT"), (1, u "T_INT"), (1, u "T_LONG"), (1, u "SOFT_MAX_ARRAY_LENGTH")] 83

def k12m0 : Method := { name := "<init>", desc := "()V", sig := { parameters := [], returnType := none }, accessFlags := 2, code := none }
/-- jdk/internal/util/ArraysSupport -/
def k12 : Class := { plain "jdk/internal/util/ArraysSupport" (some 0) with
  accessFlags := 33
  interfaces := #[]
  cf := some (fileOf pool12 21 #[] #[{ accessFlags := 2, nameIndex := 9, descriptorIndex := 19, attributes := #[] }] 33 16 #[] #[{ accessFlags := 24, nameIndex := 28, descriptorIndex := 29, attributes := #[] }, { accessFlags := 26, nameIndex := 38, descriptorIndex := 39, attributes := #[] }, { accessFlags := 25, nameIndex := 121, descriptorIndex := 25, attributes := #[] }, { accessFlags := 25, nameIndex := 131, descriptorIndex := 25, attributes := #[] }, { accessFlags := 25, nameIndex := 137, descriptorIndex := 25, attributes := #[] }, { accessFlags := 25, nameIndex := 143, descriptorIndex := 25, attributes := #[] }, { accessFlags := 25, nameIndex := 53, descriptorIndex := 25, attributes := #[] }, { accessFlags := 25, nameIndex := 24, descriptorIndex := 25, attributes := #[] }, { accessFlags := 25, nameIndex := 162, descriptorIndex := 25, attributes := #[] }, { accessFlags := 25, nameIndex := 187, descriptorIndex := 25, attributes := #[] }, { accessFlags := 26, nameIndex := 48, descriptorIndex := 25, attributes := #[] }, { accessFlags := 25, nameIndex := 277, descriptorIndex := 25, attributes := #[] }, { accessFlags := 25, nameIndex := 280, descriptorIndex := 25, attributes := #[] }, { accessFlags := 25, nameIndex := 282, descriptorIndex := 25, attributes := #[] }, { accessFlags := 25, nameIndex := 284, descriptorIndex := 25, attributes := #[] }, { accessFlags := 25, nameIndex := 286, descriptorIndex := 25, attributes := #[] }, { accessFlags := 25, nameIndex := 288, descriptorIndex := 25, attributes := #[] }, { accessFlags := 25, nameIndex := 290, descriptorIndex := 25, attributes := #[] }, { accessFlags := 25, nameIndex := 292, descriptorIndex := 25, attributes := #[] }, { accessFlags := 26, nameIndex := 108, descriptorIndex := 109, attributes := #[] }, { accessFlags := 25, nameIndex := 294, descriptorIndex := 25, attributes := #[] }])
  fields := #[{ name := "U", type := (.object "jdk/internal/misc/Unsafe"), accessFlags := 24, slot := 0, constantValue := 0 }, { name := "BIG_ENDIAN", type := .boolean, accessFlags := 26, slot := 1, constantValue := 0 }, { name := "LOG2_ARRAY_BOOLEAN_INDEX_SCALE", type := .int, accessFlags := 25, slot := 2, constantValue := 0 }, { name := "LOG2_ARRAY_BYTE_INDEX_SCALE", type := .int, accessFlags := 25, slot := 3, constantValue := 0 }, { name := "LOG2_ARRAY_CHAR_INDEX_SCALE", type := .int, accessFlags := 25, slot := 4, constantValue := 0 }, { name := "LOG2_ARRAY_SHORT_INDEX_SCALE", type := .int, accessFlags := 25, slot := 5, constantValue := 0 }, { name := "LOG2_ARRAY_INT_INDEX_SCALE", type := .int, accessFlags := 25, slot := 6, constantValue := 0 }, { name := "LOG2_ARRAY_LONG_INDEX_SCALE", type := .int, accessFlags := 25, slot := 7, constantValue := 0 }, { name := "LOG2_ARRAY_FLOAT_INDEX_SCALE", type := .int, accessFlags := 25, slot := 8, constantValue := 0 }, { name := "LOG2_ARRAY_DOUBLE_INDEX_SCALE", type := .int, accessFlags := 25, slot := 9, constantValue := 0 }, { name := "LOG2_BYTE_BIT_SIZE", type := .int, accessFlags := 26, slot := 10, constantValue := 0 }, { name := "T_BOOLEAN", type := .int, accessFlags := 25, slot := 11, constantValue := 0 }, { name := "T_CHAR", type := .int, accessFlags := 25, slot := 12, constantValue := 0 }, { name := "T_FLOAT", type := .int, accessFlags := 25, slot := 13, constantValue := 0 }, { name := "T_DOUBLE", type := .int, accessFlags := 25, slot := 14, constantValue := 0 }, { name := "T_BYTE", type := .int, accessFlags := 25, slot := 15, constantValue := 0 }, { name := "T_SHORT", type := .int, accessFlags := 25, slot := 16, constantValue := 0 }, { name := "T_INT", type := .int, accessFlags := 25, slot := 17, constantValue := 0 }, { name := "T_LONG", type := .int, accessFlags := 25, slot := 18, constantValue := 0 }, { name := "JLA", type := (.object "jdk/internal/access/JavaLangAccess"), accessFlags := 26, slot := 19, constantValue := 0 }, { name := "SOFT_MAX_ARRAY_LENGTH", type := .int, accessFlags := 25, slot := 20, constantValue := 0 }]
  methods := #[k12m0]
  instanceTypes := #[]
  staticTypes := #[(.object "jdk/internal/misc/Unsafe"), .boolean, .int, .int, .int, .int, .int, .int, .int, .int, .int, .int, .int, .int, .int, .int, .int, .int, .int, (.object "jdk/internal/access/JavaLangAccess"), .int]
  resolved := Array.replicate 378 none
  statics := none }

def pool13 : Array CpInfo := pool [(1, u "java/lang/Cloneable"), (0, .class_ 1), (0, u "java/lang/Object"), (0, .class_ 3)] 3

/-- java/lang/Cloneable -/
def k13 : Class := { plain "java/lang/Cloneable" (some 0) with
  accessFlags := 1537
  interfaces := #[]
  cf := some (fileOf pool13 2 #[] #[] 1537 4 #[] #[])
  fields := #[]
  methods := #[]
  instanceTypes := #[]
  staticTypes := #[]
  resolved := Array.replicate 8 none
  statics := none }

/-- the primitive byte -/
def k14 : Class := { plain "byte" none with kind := .primitive 'B', accessFlags := 0x411 }
/-- [B -/
def k15 : Class := { plain "[B" (some 0) with kind := .array 14 .byte, interfaces := #[13, 2], accessFlags := 1041 }

/-- the primitive char -/
def k16 : Class := { plain "char" none with kind := .primitive 'C', accessFlags := 0x411 }
/-- [C -/
def k17 : Class := { plain "[C" (some 0) with kind := .array 16 .char, interfaces := #[13, 2], accessFlags := 1041 }

/-- the primitive int -/
def k18 : Class := { plain "int" none with kind := .primitive 'I', accessFlags := 0x411 }
/-- [I -/
def k19 : Class := { plain "[I" (some 0) with kind := .array 18 .int, interfaces := #[13, 2], accessFlags := 1041 }

def heap : Heap := #[{ cls := 7, slots := #[.long 0, .int 1, .null, .int 0, .null, .int 0, .int 0], vm := .statics 7 },
  { cls := 11, slots := #[.null, .null, .null], vm := .statics 11 }]
def classes : Array Class := #[k0, k1, k2, k3, k4, k5, k6, k7, k8, k9, k10, k11, k12, k13, k14, k15, k16, k17, k18, k19]
def interned : List (Array UInt16 × Addr) := []
def slotsUsed : Nat := 10
def theMethod : MethodId := ⟨1, 1⟩
def args0 : Array Value := #[.int 5, .long 7, .long 8, .long 9, .int 1027]
def aboutOver (below : List Frame) : State where
  vm := { classes := classes, interned := interned.toArray }
  heap := heap
  slotsUsed := slotsUsed
  threads := #[{ frames := .invoking theMethod args0 :: below }]
def below0 : List Frame := [.native { method := ⟨0, 0⟩, args := #[] }]
def about1 : State := aboutOver below0
def p0 : Program := .bare "" "" ""
def e0 : Env := launch0.env 0 0 0
theorem w_frames : about1.frames = Frame.invoking theMethod args0 :: below0 := rfl
set_option maxRecDepth 65536 in
theorem w_args : argsFit about1.vm theMethod args0 = true := by decide +kernel
set_option maxRecDepth 65536 in
theorem w_heap : heapFits about1 = true := by decide +kernel
set_option maxRecDepth 65536 in
theorem w_runnable : about1.curStatus? = some .runnable := by decide +kernel
set_option maxRecDepth 65536 in
theorem w_alone : about1.alone = true := by decide +kernel
set_option maxRecDepth 65536 in
theorem w_named : about1.methodNamed? x = some theMethod := by decide +kernel
set_option maxRecDepth 65536 in
theorem w_hears : about1.hears theMethod below0 = true := by decide +kernel
set_option maxRecDepth 65536 in
theorem w_ripe : about1.ripe theMethod args0 below0 = true := by decide +kernel
theorem w_running : about1.status = .running := rfl
set_option maxRecDepth 65536 in
theorem w_room : about1.hasRoom e0.platform room_1 = true :=
  launch0.hasRoom_least _ room_1 (by decide +kernel) (by decide +kernel) (by decide +kernel) (by decide +kernel) (by decide +kernel) (by decide +kernel)
theorem allAtoms_all (ts : List Jvm.Cond) (a : Array Jvm.Value) (st : Jvm.State) : (allAtoms ts).before a st = ts.all (fun c => c.before a st) := by
  induction ts with
  | nil => rfl
  | cons c t ih =>
    show (Jvm.Cond.and c (allAtoms t)).before a st = _
    rw [Jvm.Cond.before_and, ih, List.all_cons]
def words1 : List Jvm.Cond := Jvm.Cond.code x code maxLocals ret :: tables_1
/-- a 'code' word, met by the world's own term for the bytes: nothing is compared byte by byte -/
theorem code_word {y : MethodName} {bytes : ByteArray} {mx : Nat} {rt : Option FieldType} {a : Array Value} {s : State} {m : MethodId} {meth : Method} {c : Code} (h1 : s.methodNamed? y = some m) (h2 : s.vm.method? m = some meth) (h3 : meth.code = some c) (h4 : c.code = bytes)
    (h5 : (c.maxLocals == mx && c.exceptionTable.isEmpty && decide (c.maxStack ≤ mostOperands) && decide (meth.sig.returnType = rt) && !meth.locks && decide (parseMethodDescriptor y.desc = some meth.sig)) = true) : (Jvm.Cond.code y bytes mx rt).before a s = true := by
  simp only [Bool.and_eq_true, beq_iff_eq, Bool.not_eq_true', decide_eq_true_eq] at h5
  obtain ⟨⟨⟨⟨⟨g1, g2⟩, g3⟩, g4⟩, g5⟩, g6⟩ := h5
  simp [Cond.before, Cond.holds, Cond.value, h1, h2, h3, h4, g1, g2, g3, g4, g5, g6]
def isCode : Jvm.Cond → Bool
  | .code _ _ _ _ => true
  | _ => false
theorem all_split {L : List Jvm.Cond} {P : Jvm.Cond → Bool} (h1 : L.all (fun c => isCode c || P c) = true) (h2 : ∀ c ∈ L.filter isCode, P c = true) : L.all P = true := by
  refine List.all_eq_true.mpr fun c hc => ?_
  have h := List.all_eq_true.mp h1 c hc
  rcases Bool.eq_false_or_eq_true (isCode c) with hi | hi
  · exact h2 c (List.mem_filter.mpr ⟨hc, hi⟩)
  · simpa [hi] using h
set_option maxRecDepth 65536 in
theorem w_c0 : (Jvm.Cond.code x code maxLocals ret).before args0 about1 = true := code_word (m := ⟨1, 1⟩) (meth := k1m1) (c := k1c1) (by decide +kernel) rfl rfl rfl (by decide +kernel)
set_option maxRecDepth 65536 in
theorem w_c1 : (Jvm.Cond.code ({ cls := "java/lang/String", name := "<init>", desc := "([C)V" } : Jvm.MethodName) jdk_42_method_3_code (2 : Nat) (Option.none : Option Jvm.ClassFile.FieldType)).before args0 about1 = true := code_word (m := ⟨7, 1⟩) (meth := k7m1) (c := k7c1) (by decide +kernel) rfl rfl rfl (by decide +kernel)
set_option maxRecDepth 65536 in
theorem w_c2 : (Jvm.Cond.code ({ cls := "java/lang/String", name := "<init>", desc := "([CIILjava/lang/Void;)V" } : Jvm.MethodName) jdk_42_method_149_code (6 : Nat) (Option.none : Option Jvm.ClassFile.FieldType)).before args0 about1 = true := code_word (m := ⟨7, 2⟩) (meth := k7m2) (c := k7c2) (by decide +kernel) rfl rfl rfl (by decide +kernel)
set_option maxRecDepth 65536 in
theorem w_c3 : (Jvm.Cond.code ({ cls := "java/lang/Object", name := "<init>", desc := "()V" } : Jvm.MethodName) object_method_1_code (1 : Nat) (Option.none : Option Jvm.ClassFile.FieldType)).before args0 about1 = true := code_word (m := ⟨0, 0⟩) (meth := k0m0) (c := k0c0) (by decide +kernel) rfl rfl rfl (by decide +kernel)
set_option maxRecDepth 65536 in
theorem w_c4 : (Jvm.Cond.code ({ cls := "java/lang/StringUTF16", name := "compress", desc := "([CII)[B" } : Jvm.MethodName) jdk_52_method_16_code (6 : Nat) (Option.some (Jvm.ClassFile.FieldType.array Jvm.ClassFile.FieldType.byte))).before args0 about1 = true := code_word (m := ⟨8, 2⟩) (meth := k8m2) (c := k8c2) (by decide +kernel) rfl rfl rfl (by decide +kernel)
set_option maxRecDepth 65536 in
theorem w_c5 : (Jvm.Cond.code ({ cls := "java/lang/StringUTF16", name := "compress", desc := "([CI[BII)I" } : Jvm.MethodName) jdk_52_method_21_code (7 : Nat) (Option.some Jvm.ClassFile.FieldType.int)).before args0 about1 = true := code_word (m := ⟨8, 3⟩) (meth := k8m3) (c := k8c3) (by decide +kernel) rfl rfl rfl (by decide +kernel)
set_option maxRecDepth 65536 in
theorem w_c6 : (Jvm.Cond.code ({ cls := "java/lang/StringUTF16", name := "coderFromArrayLen", desc := "([BI)B" } : Jvm.MethodName) jdk_52_method_15_code (2 : Nat) (Option.some Jvm.ClassFile.FieldType.byte)).before args0 about1 = true := code_word (m := ⟨8, 1⟩) (meth := k8m1) (c := k8c1) (by decide +kernel) rfl rfl rfl (by decide +kernel)
set_option maxRecDepth 65536 in
theorem w_c7 : (Jvm.Cond.code ({ cls := "com/example/libenq/libenq/engine/Delivery", name := "<init>", desc := "(Ljava/lang/String;Lcom/example/libenq/libenq/engine/TopicMessageRecord;Ljava/lang/String;IJ)V" } : Jvm.MethodName) prog_2_method_1_code (7 : Nat) (Option.none : Option Jvm.ClassFile.FieldType)).before args0 about1 = true := code_word (m := ⟨9, 0⟩) (meth := k9m0) (c := k9c0) (by decide +kernel) rfl rfl rfl (by decide +kernel)
set_option maxRecDepth 65536 in
theorem w_c8 : (Jvm.Cond.code ({ cls := "com/example/libenq/libenq/engine/Delivery", name := "cancel", desc := "()V" } : Jvm.MethodName) prog_2_method_10_code (1 : Nat) (Option.none : Option Jvm.ClassFile.FieldType)).before args0 about1 = true := code_word (m := ⟨9, 8⟩) (meth := k9m8) (c := k9c8) (by decide +kernel) rfl rfl rfl (by decide +kernel)
set_option maxRecDepth 65536 in
theorem w_c9 : (Jvm.Cond.code ({ cls := "com/example/libenq/libenq/engine/Delivery", name := "failed", desc := "(J)V" } : Jvm.MethodName) prog_2_method_9_code (3 : Nat) (Option.none : Option Jvm.ClassFile.FieldType)).before args0 about1 = true := code_word (m := ⟨9, 7⟩) (meth := k9m7) (c := k9c7) (by decide +kernel) rfl rfl rfl (by decide +kernel)
set_option maxRecDepth 65536 in
theorem w_c10 : (Jvm.Cond.code ({ cls := "com/example/libenq/libenq/engine/Delivery", name := "failedAttempts", desc := "()I" } : Jvm.MethodName) prog_2_method_5_code (1 : Nat) (Option.some Jvm.ClassFile.FieldType.int)).before args0 about1 = true := code_word (m := ⟨9, 4⟩) (meth := k9m4) (c := k9c4) (by decide +kernel) rfl rfl rfl (by decide +kernel)
set_option maxRecDepth 65536 in
theorem w_c11 : (Jvm.Cond.code ({ cls := "com/example/libenq/libenq/engine/Delivery", name := "nextAttemptTime", desc := "()J" } : Jvm.MethodName) prog_2_method_6_code (1 : Nat) (Option.some Jvm.ClassFile.FieldType.long)).before args0 about1 = true := code_word (m := ⟨9, 5⟩) (meth := k9m5) (c := k9c5) (by decide +kernel) rfl rfl rfl (by decide +kernel)
set_option maxRecDepth 65536 in
theorem w_c12 : (Jvm.Cond.code ({ cls := "com/example/libenq/libenq/engine/Delivery", name := "topic", desc := "()Ljava/lang/String;" } : Jvm.MethodName) prog_2_method_2_code (1 : Nat) (Option.some (Jvm.ClassFile.FieldType.object "java/lang/String"))).before args0 about1 = true := code_word (m := ⟨9, 1⟩) (meth := k9m1) (c := k9c1) (by decide +kernel) rfl rfl rfl (by decide +kernel)
set_option maxRecDepth 65536 in
theorem w_c13 : (Jvm.Cond.code ({ cls := "com/example/libenq/libenq/engine/Delivery", name := "subscription", desc := "()Ljava/lang/String;" } : Jvm.MethodName) prog_2_method_4_code (1 : Nat) (Option.some (Jvm.ClassFile.FieldType.object "java/lang/String"))).before args0 about1 = true := code_word (m := ⟨9, 3⟩) (meth := k9m3) (c := k9c3) (by decide +kernel) rfl rfl rfl (by decide +kernel)
set_option maxRecDepth 65536 in
theorem w_c14 : (Jvm.Cond.code ({ cls := "com/example/libenq/libenq/engine/Delivery", name := "message", desc := "()Lcom/example/libenq/libenq/engine/TopicMessageRecord;" } : Jvm.MethodName) prog_2_method_3_code (1 : Nat) (Option.some (Jvm.ClassFile.FieldType.object "com/example/libenq/libenq/engine/TopicMessageRecord"))).before args0 about1 = true := code_word (m := ⟨9, 2⟩) (meth := k9m2) (c := k9c2) (by decide +kernel) rfl rfl rfl (by decide +kernel)
set_option maxRecDepth 65536 in
theorem w_c15 : (Jvm.Cond.code ({ cls := "com/example/libenq/libenq/engine/Delivery", name := "cancelled", desc := "()Z" } : Jvm.MethodName) prog_2_method_7_code (1 : Nat) (Option.some Jvm.ClassFile.FieldType.boolean)).before args0 about1 = true := code_word (m := ⟨9, 6⟩) (meth := k9m6) (c := k9c6) (by decide +kernel) rfl rfl rfl (by decide +kernel)
def codes1 : List Jvm.Cond := [Jvm.Cond.code x code maxLocals ret, Jvm.Cond.code ({ cls := "java/lang/String", name := "<init>", desc := "([C)V" } : Jvm.MethodName) jdk_42_method_3_code (2 : Nat) (Option.none : Option Jvm.ClassFile.FieldType), Jvm.Cond.code ({ cls := "java/lang/String", name := "<init>", desc := "([CIILjava/lang/Void;)V" } : Jvm.MethodName) jdk_42_method_149_code (6 : Nat) (Option.none : Option Jvm.ClassFile.FieldType), Jvm.Cond.code ({ cls := "java/lang/Object", name := "<init>", desc := "()V" } : Jvm.MethodName) object_method_1_code (1 : Nat) (Option.none : Option Jvm.ClassFile.FieldType), Jvm.Cond.code ({ cls := "java/lang/StringUTF16", name := "compress", desc := "([CII)[B" } : Jvm.MethodName) jdk_52_method_16_code (6 : Nat) (Option.some (Jvm.ClassFile.FieldType.array Jvm.ClassFile.FieldType.byte)), Jvm.Cond.code ({ cls := "java/lang/StringUTF16", name := "compress", desc := "([CI[BII)I" } : Jvm.MethodName) jdk_52_method_21_code (7 : Nat) (Option.some Jvm.ClassFile.FieldType.int), Jvm.Cond.code ({ cls := "java/lang/StringUTF16", name := "coderFromArrayLen", desc := "([BI)B" } : Jvm.MethodName) jdk_52_method_15_code (2 : Nat) (Option.some Jvm.ClassFile.FieldType.byte), Jvm.Cond.code ({ cls := "com/example/libenq/libenq/engine/Delivery", name := "<init>", desc := "(Ljava/lang/String;Lcom/example/libenq/libenq/engine/TopicMessageRecord;Ljava/lang/String;IJ)V" } : Jvm.MethodName) prog_2_method_1_code (7 : Nat) (Option.none : Option Jvm.ClassFile.FieldType), Jvm.Cond.code ({ cls := "com/example/libenq/libenq/engine/Delivery", name := "cancel", desc := "()V" } : Jvm.MethodName) prog_2_method_10_code (1 : Nat) (Option.none : Option Jvm.ClassFile.FieldType), Jvm.Cond.code ({ cls := "com/example/libenq/libenq/engine/Delivery", name := "failed", desc := "(J)V" } : Jvm.MethodName) prog_2_method_9_code (3 : Nat) (Option.none : Option Jvm.ClassFile.FieldType), Jvm.Cond.code ({ cls := "com/example/libenq/libenq/engine/Delivery", name := "failedAttempts", desc := "()I" } : Jvm.MethodName) prog_2_method_5_code (1 : Nat) (Option.some Jvm.ClassFile.FieldType.int), Jvm.Cond.code ({ cls := "com/example/libenq/libenq/engine/Delivery", name := "nextAttemptTime", desc := "()J" } : Jvm.MethodName) prog_2_method_6_code (1 : Nat) (Option.some Jvm.ClassFile.FieldType.long), Jvm.Cond.code ({ cls := "com/example/libenq/libenq/engine/Delivery", name := "topic", desc := "()Ljava/lang/String;" } : Jvm.MethodName) prog_2_method_2_code (1 : Nat) (Option.some (Jvm.ClassFile.FieldType.object "java/lang/String")), Jvm.Cond.code ({ cls := "com/example/libenq/libenq/engine/Delivery", name := "subscription", desc := "()Ljava/lang/String;" } : Jvm.MethodName) prog_2_method_4_code (1 : Nat) (Option.some (Jvm.ClassFile.FieldType.object "java/lang/String")), Jvm.Cond.code ({ cls := "com/example/libenq/libenq/engine/Delivery", name := "message", desc := "()Lcom/example/libenq/libenq/engine/TopicMessageRecord;" } : Jvm.MethodName) prog_2_method_3_code (1 : Nat) (Option.some (Jvm.ClassFile.FieldType.object "com/example/libenq/libenq/engine/TopicMessageRecord")), Jvm.Cond.code ({ cls := "com/example/libenq/libenq/engine/Delivery", name := "cancelled", desc := "()Z" } : Jvm.MethodName) prog_2_method_7_code (1 : Nat) (Option.some Jvm.ClassFile.FieldType.boolean)]
set_option maxRecDepth 65536 in
theorem codes_eq : words1.filter isCode = codes1 := rfl
theorem w_codes : ∀ c ∈ words1.filter isCode, c.before args0 about1 = true := by
  rw [codes_eq]
  intro c hc
  simp only [codes1, List.mem_cons, List.not_mem_nil, or_false] at hc
  rcases hc with rfl | rfl | rfl | rfl | rfl | rfl | rfl | rfl | rfl | rfl | rfl | rfl | rfl | rfl | rfl | rfl
  · exact w_c0
  · exact w_c1
  · exact w_c2
  · exact w_c3
  · exact w_c4
  · exact w_c5
  · exact w_c6
  · exact w_c7
  · exact w_c8
  · exact w_c9
  · exact w_c10
  · exact w_c11
  · exact w_c12
  · exact w_c13
  · exact w_c14
  · exact w_c15
set_option maxRecDepth 65536 in
theorem w_t1 : (words1.take 24).all (fun c => isCode c || c.before args0 about1) = true := by decide +kernel
set_option maxRecDepth 65536 in
theorem w_t2 : ((words1.drop 24).take 24).all (fun c => isCode c || c.before args0 about1) = true := by decide +kernel
set_option maxRecDepth 65536 in
theorem w_t3 : (((words1.drop 24).drop 24).take 24).all (fun c => isCode c || c.before args0 about1) = true := by decide +kernel
set_option maxRecDepth 65536 in
theorem w_t4 : (((words1.drop 24).drop 24).drop 24).all (fun c => isCode c || c.before args0 about1) = true := by decide +kernel
theorem w_tables : (allAtoms (Jvm.Cond.code x code maxLocals ret :: tables_1)).before args0 about1 = true := by
  rw [allAtoms_all]
  show words1.all (fun c => c.before args0 about1) = true
  refine all_split ?_ w_codes
  rw [← List.take_append_drop 24 words1, List.all_append, w_t1, ← List.take_append_drop 24 (words1.drop 24), List.all_append, w_t2, ← List.take_append_drop 24 ((words1.drop 24).drop 24), List.all_append, w_t3, w_t4]
  rfl
set_option maxRecDepth 65536 in
theorem w_rest : rest_1_c.before args0 about1 = true := by decide +kernel
set_option maxRecDepth 65536 in
theorem w_case : (Jvm.Cond.and given_1 narrow_1).before args0 about1 = true := by decide +kernel
theorem w_applies : (headSpec (Jvm.Cond.code x code maxLocals ret :: tables_1) room_1).applies x e0.platform about1 = true :=
  (Spec.applies_iff w_frames).mpr ⟨w_running, w_runnable, w_alone, w_named, w_hears, w_ripe, w_room, w_tables⟩
theorem atStart : AtStart classFile x code maxLocals ret World_1 tables_1 room_1 Calls_1 rest_1 Pre_1 launch0 p0 e0 about1 theMethod args0 below0 :=
  ⟨lists_1, trivial, launch0.admits_env _ _ _, launch0.least_env, fairChoices_fair.cas, fairChoices_fair.clock, w_frames, w_args, w_heap, w_applies, trivial, w_rest, w_case⟩
end start1
theorem witness_1 : WitnessClaimed_1 := ⟨start1.p0, start1.e0, start1.about1, start1.theMethod, start1.args0, start1.below0, start1.atStart⟩
end Jvm.Pilot.@@N@@
