import JvmDerived
import JvmDerived.Pilot.@@N@@Statement
import JvmDerived.Pilot.@@N@@Code
set_option linter.unusedVariables false
set_option linter.unusedSimpArgs false
/- laws to paste: Road.backV, Road.eqW (cut by pick.py; bodies as the Statement names them) -/
namespace Jvm.Pilot.@@N@@
namespace StrChars
open Jvm Sem ClassFile Op Lib Jvm.Stand Jvm.Free.XT Jvm.Free.ALB Jvm.Free.JM Jvm.Free
open Jvm.Lib.Cold (StaticIs)
/-- a char array whose places are chars -/
def Ch (a : Addr) (A : Cell) (U : State) : Prop := Arr .char a A U ∧ Typed .char A
theorem Ch.mv {a : Addr} {A : Cell} {U U' : State} (h : Ch a A U) (hal : U.vm.Alike U'.vm) (hh : U'.heap = U.heap) : Ch a A U' := ⟨h.1.mv hal hh, h.2⟩
theorem Ch.keep {a : Addr} {A : Cell} {U U' : State} (h : Ch a A U) (hal : U.vm.Alike U'.vm) (hk : U'.heap[a]? = some A) : Ch a A U' := ⟨h.1.keep hal hk, h.2⟩
/-- what place i of a char[]'s cell holds -/
def cv (A : Cell) (i : Nat) : Int32 := match A.slots[i]? with | some (.int x) => x | _ => 0
theorem Ch.get {a : Addr} {A : Cell} {U : State} (h : Ch a A U) {i : Nat} (hi : i < A.slots.size) : A.slots[i]? = some (.int (cv A i)) := by
  have e := Array.getElem?_eq_getElem hi
  have f := h.2 i _ e
  unfold cv; rw [e]
  generalize A.slots[i] = v at f
  cases v <;> simp [fits] at f ⊢
/-- the byte that i2b leaves of a char -/
def lo8 (x : Int32) : Int32 := x.toInt8.toInt32
theorem fits_lo8 (y : Int32) : fits .byte (.int (lo8 y)) = true := by
  have h1 := y.toInt8.le_toInt
  have h2 := y.toInt8.toInt_lt
  simp only [lo8, fits, Bool.and_eq_true, decide_eq_true_eq, Int32.le_iff_toInt_le, Int8.toInt_toInt32, show (-128 : Int32).toInt = -128 from by decide, show (127 : Int32).toInt = 127 from by decide]
  omega
/-- A' is A but that each place j of lo .. hi - 1 holds f j -/
def Laid (A A' : Cell) (lo hi : Nat) (f : Nat → Value) : Prop := A'.cls = A.cls ∧ A'.vm = A.vm ∧ A'.slots.size = A.slots.size ∧ ∀ i, A'.slots[i]? = if lo ≤ i ∧ i < hi then some (f i) else A.slots[i]?
theorem Laid.zero (A : Cell) (lo : Nat) (f : Nat → Value) : Laid A A lo (lo + 0) f := ⟨rfl, rfl, rfl, fun i => by rw [if_neg (by omega)]⟩
theorem Laid.step {A Ak : Cell} {lo k : Nat} {f : Nat → Value} {v : Value} (h : Laid A Ak lo k f) (hlo : lo ≤ k) (hk : k < Ak.slots.size) (hv : v = f k) : Laid A (Ak.setSlot k v) lo (k + 1) f := by
  refine ⟨h.1, h.2.1, by simpa [Cell.setSlot] using h.2.2.1, fun i => ?_⟩
  by_cases e : k = i
  · subst e; rw [Cell.slots_setSlot_self v hk, if_pos (by omega), hv]
  · rw [Cell.slots_setSlot_ne v e, h.2.2.2 i]
    by_cases q : lo ≤ i ∧ i < k
    · rw [if_pos q, if_pos (by omega)]
    · rw [if_neg q, if_neg (by omega)]
def U16 : String := "java/lang/StringUTF16"
namespace Cmp5
def yN : MethodName := ⟨"java/lang/StringUTF16", "compress", "([CI[BII)I"⟩
abbrev yB : ByteArray := jdk_52_method_21_code
theorem d0 : decode yB 0 = .ok (.iconst 0, 1) := by decide +kernel
theorem d1 : decode yB 1 = .ok (.istore 5, 2) := by decide +kernel
theorem d3 : decode yB 3 = .ok (.iload 5, 2) := by decide +kernel
theorem d5 : decode yB 5 = .ok (.iload 4, 2) := by decide +kernel
theorem d7 : decode yB 7 = .ok (.if_icmp (.ge) 37, 3) := by decide +kernel
theorem d10 : decode yB 10 = .ok (.aload_n 0, 1) := by decide +kernel
theorem d11 : decode yB 11 = .ok (.iload_n 1, 1) := by decide +kernel
theorem d12 : decode yB 12 = .ok (.caload, 1) := by decide +kernel
theorem d13 : decode yB 13 = .ok (.istore 6, 2) := by decide +kernel
theorem d15 : decode yB 15 = .ok (.iload 6, 2) := by decide +kernel
theorem d17 : decode yB 17 = .ok (.sipush 255, 3) := by decide +kernel
theorem d20 : decode yB 20 = .ok (.if_icmp (.le) 6, 3) := by decide +kernel
theorem d26 : decode yB 26 = .ok (.aload_n 2, 1) := by decide +kernel
theorem d27 : decode yB 27 = .ok (.iload_n 3, 1) := by decide +kernel
theorem d28 : decode yB 28 = .ok (.iload 6, 2) := by decide +kernel
theorem d30 : decode yB 30 = .ok (.i2b, 1) := by decide +kernel
theorem d31 : decode yB 31 = .ok (.bastore, 1) := by decide +kernel
theorem d32 : decode yB 32 = .ok (.iinc 1 1, 3) := by decide +kernel
theorem d35 : decode yB 35 = .ok (.iinc 3 1, 3) := by decide +kernel
theorem d38 : decode yB 38 = .ok (.iinc 5 1, 3) := by decide +kernel
theorem d41 : decode yB 41 = .ok (.goto (-38), 3) := by decide +kernel
theorem d44 : decode yB 44 = .ok (.iload 4, 2) := by decide +kernel
theorem d46 : decode yB 46 = .ok (.ireturn, 1) := by decide +kernel
def site : List Cond := []
def tab : Cond := tabOf yN yB 7 (some .int) site
def P (b : Addr) (A : Cell) (d : Addr) (B : Cell) (o q len : Nat) (args : Array Value) (s : State) : Prop := args = #[.ref b, .int (Int32.ofNat o), .ref d, .int (Int32.ofNat q), .int (Int32.ofNat len)] ∧ Ch b A s ∧ Arr .byte d B s ∧ b ≠ d ∧ o + len ≤ A.slots.size ∧ q + len ≤ B.slots.size ∧ ∀ i, i < len → ¬ 255 < cv A (o + i)
def E (b : Addr) (A : Cell) (d : Addr) (B : Cell) (o q len : Nat) (r : Option Value) (s u : State) : Prop := r = some (.int (Int32.ofNat len)) ∧ ∃ B', Put d B' s u ∧ Laid B B' q (q + len) (fun j => Value.int (lo8 (cv A (o + (j - q)))))
/-- no char of the range above 255: len; the places written hold each char's low byte -/
theorem law (l : Launch) (b : Addr) (A : Cell) (d : Addr) (B : Cell) (o q len : Nat) : Law l yN 5 5 0 0 yB 7 (some .int) site (P b A d B o q len) (E b A d B o q len) (copyLocs d q len) 0 0 := by
  refine Law.of_walk (plainFor_of_name (by decide +kernel)) (by decide +kernel) (by decide +kernel) (by decide) (fun _ _ h => by rw [h.1]; rfl) (fun _ U U' hal hh h => ⟨h.1, h.2.1.mv hal hh, h.2.2.1.mv hal hh, h.2.2.2⟩) (fun r U U' V V' h1 hal h2 h => ⟨h.1, h.2.elim fun B' q => ⟨B', q.1.mv h1 h2, q.2⟩⟩) ?_
  intro p e s m args below meth c s₁ X0 hexec hbytes hml hret hlk hnm hown hh0 W hP
  obtain ⟨rfl, hA, hB, hne, l1, l2, hp⟩ := hP
  have c1 : Steps p.tables e below (s₁.setTop (entryFrame m #[.ref b, .int (Int32.ofNat o), .ref d, .int (Int32.ofNat q), .int (Int32.ofNat len)] 7)) (s₁.setTop (mkF m 0 #[.val (.ref b), .val (.int (Int32.ofNat o)), .val (.ref d), .val (.int (Int32.ofNat q)), .val (.int (Int32.ofNat len)), .unset, .unset] [])) := entry rfl
  have hA0 := hA.1.mv X0.warmed.alike hh0
  have hB0 := hB.mv X0.warmed.alike hh0
  have a31 := hA.1.2.2.2
  have c2 : Steps p.tables e below (s₁.setTop (entryFrame m #[.ref b, .int (Int32.ofNat o), .ref d, .int (Int32.ofNat q), .int (Int32.ofNat len)] 7)) (s₁.setTop (mkF m 3 #[.val (.ref b), .val (.int (Int32.ofNat o)), .val (.ref d), .val (.int (Int32.ofNat q)), .val (.int (Int32.ofNat len)), .val (.int 0), .unset] [])) := c1.trans (by
    refine iconstV X0.here hexec rfl 0 (hb hbytes d0) (by decide) ?_
    refine XS.istore X0.here hexec rfl (hb hbytes d1) rfl rfl ?_
    exact Steps.refl _)
  have loop : ∀ (r i : Nat), i + r = len → ∀ (z : Slot), (z = .unset ∨ ∃ w, z = .val w ∧ w.category = 1) → ∀ (Tl : State) (Bk : Cell), Stand p l e { frames := 0, locals := 0, cells := 0, slots := 0 } s m #[.ref b, .int (Int32.ofNat o), .ref d, .int (Int32.ofNat q), .int (Int32.ofNat len)] below meth c Tl ([] ++ copyLocs d q i) 0 0 → Put d Bk s₁ Tl → Laid B Bk q (q + i) (fun j => Value.int (lo8 (cv A (o + (j - q))))) →
      Steps p.tables e below (s₁.setTop (entryFrame m #[.ref b, .int (Int32.ofNat o), .ref d, .int (Int32.ofNat q), .int (Int32.ofNat len)] 7)) (Tl.setTop (mkF m 3 #[.val (.ref b), .val (.int (Int32.ofNat (o + i))), .val (.ref d), .val (.int (Int32.ofNat (q + i))), .val (.int (Int32.ofNat len)), .val (.int (Int32.ofNat i)), z] [])) → ∃ (T' : State) (B' : Cell) (z' : Slot), Stand p l e { frames := 0, locals := 0, cells := 0, slots := 0 } s m #[.ref b, .int (Int32.ofNat o), .ref d, .int (Int32.ofNat q), .int (Int32.ofNat len)] below meth c T' ([] ++ copyLocs d q len) 0 0 ∧ Put d B' s₁ T' ∧ Laid B B' q (q + len) (fun j => Value.int (lo8 (cv A (o + (j - q))))) ∧
      Steps p.tables e below (s₁.setTop (entryFrame m #[.ref b, .int (Int32.ofNat o), .ref d, .int (Int32.ofNat q), .int (Int32.ofNat len)] 7)) (T'.setTop (mkF m 3 #[.val (.ref b), .val (.int (Int32.ofNat (o + len))), .val (.ref d), .val (.int (Int32.ofNat (q + len))), .val (.int (Int32.ofNat len)), .val (.int (Int32.ofNat len)), z'] [])) := by
    intro r
    induction r with
    | zero =>
      intro i hi z hz Tl Bk Xl pl fl cl
      have hil : i = len := by omega
      rw [hil] at Xl fl cl
      exact ⟨Tl, Bk, z, Xl, pl, fl, cl⟩
    | succ r ih =>
      intro i hi z hz Tl Bk Xl pl fl cl
      have all := X0.warmed.alike.symm.trans Xl.warmed.alike
      have hAl := hA0.keep all (pl.other hne hA0.1)
      have hBk := hB0.like all pl.1 fl.1 fl.2.1 fl.2.2.1
      have hlt : q + i < Bk.slots.size := by rw [fl.2.2.1]; omega
      have c3 : Steps p.tables e below (s₁.setTop (entryFrame m #[.ref b, .int (Int32.ofNat o), .ref d, .int (Int32.ofNat q), .int (Int32.ofNat len)] 7)) (Tl.setTop (mkF m 12 #[.val (.ref b), .val (.int (Int32.ofNat (o + i))), .val (.ref d), .val (.int (Int32.ofNat (q + i))), .val (.int (Int32.ofNat len)), .val (.int (Int32.ofNat i)), z] [.int (Int32.ofNat (o + i)), .ref b])) := cl.trans (by
        refine XS.iload Xl.here hexec rfl (hb hbytes d3) rfl ?_
        refine XS.iload Xl.here hexec rfl (hb hbytes d5) rfl ?_
        refine XS.icmpNo Xl.here hexec rfl (hb hbytes d7) rfl (ii_ge_f (lt32 (by omega) (by omega))) ?_
        refine XS.aloadN Xl.here hexec rfl (hb hbytes d10) rfl rfl ?_
        refine XS.iloadN Xl.here hexec rfl (hb hbytes d11) rfl ?_
        exact Steps.refl _)
      have c4 : Steps p.tables e below (s₁.setTop (entryFrame m #[.ref b, .int (Int32.ofNat o), .ref d, .int (Int32.ofNat q), .int (Int32.ofNat len)] 7)) (Tl.setTop (mkF m 13 #[.val (.ref b), .val (.int (Int32.ofNat (o + i))), .val (.ref d), .val (.int (Int32.ofNat (q + i))), .val (.int (Int32.ofNat len)), .val (.int (Int32.ofNat i)), z] [.int (cv A (o + i))])) := c3.trans (by
        refine Xl.aget hexec hAl rfl (hA.get (i := o + i) (by omega)) rfl rfl (hb hbytes d12) ?_
        exact Steps.refl _)
      have c5 : Steps p.tables e below (s₁.setTop (entryFrame m #[.ref b, .int (Int32.ofNat o), .ref d, .int (Int32.ofNat q), .int (Int32.ofNat len)] 7)) (Tl.setTop (mkF m 15 #[.val (.ref b), .val (.int (Int32.ofNat (o + i))), .val (.ref d), .val (.int (Int32.ofNat (q + i))), .val (.int (Int32.ofNat len)), .val (.int (Int32.ofNat i)), .val (.int (cv A (o + i)))] [])) := c4.trans (by
        refine XS.istoreS Xl.here hexec rfl (hb hbytes d13) rfl rfl hz ?_
        exact Steps.refl _)
      have c6 : Steps p.tables e below (s₁.setTop (entryFrame m #[.ref b, .int (Int32.ofNat o), .ref d, .int (Int32.ofNat q), .int (Int32.ofNat len)] 7)) (Tl.setTop (mkF m 31 #[.val (.ref b), .val (.int (Int32.ofNat (o + i))), .val (.ref d), .val (.int (Int32.ofNat (q + i))), .val (.int (Int32.ofNat len)), .val (.int (Int32.ofNat i)), .val (.int (cv A (o + i)))] [.int (lo8 (cv A (o + i))), .int (Int32.ofNat (q + i)), .ref d])) := c5.trans (by
        refine XS.iload Xl.here hexec rfl (hb hbytes d15) rfl ?_
        refine sipushV Xl.here hexec rfl 255 (hb hbytes d17) (by decide) ?_
        refine XS.icmpYes Xl.here hexec rfl (pc0 := 20) rfl (hb hbytes d20) rfl (ii_le_t (hp i (by omega))) (by decide) rfl ?_
        refine XS.aloadN Xl.here hexec rfl (hb hbytes d26) rfl rfl ?_
        refine XS.iloadN Xl.here hexec rfl (hb hbytes d27) rfl ?_
        refine XS.iload Xl.here hexec rfl (hb hbytes d28) rfl ?_
        refine i2b Xl.here hexec rfl (hb hbytes d30) rfl ?_
        exact Steps.refl _)
      obtain ⟨T7, X7, p7, st7⟩ := Xl.aput hexec hBk rfl hlt rfl (fits_lo8 (cv A (o + i))) (g := (mkF m 31 #[.val (.ref b), .val (.int (Int32.ofNat (o + i))), .val (.ref d), .val (.int (Int32.ofNat (q + i))), .val (.int (Int32.ofNat len)), .val (.int (Int32.ofNat i)), .val (.int (cv A (o + i)))] [.int (lo8 (cv A (o + i))), .int (Int32.ofNat (q + i)), .ref d])) rfl (rest := []) rfl (hb hbytes d31)
      have c8 : Steps p.tables e below (s₁.setTop (entryFrame m #[.ref b, .int (Int32.ofNat o), .ref d, .int (Int32.ofNat q), .int (Int32.ofNat len)] 7)) (T7.setTop (mkF m 32 #[.val (.ref b), .val (.int (Int32.ofNat (o + i))), .val (.ref d), .val (.int (Int32.ofNat (q + i))), .val (.int (Int32.ofNat len)), .val (.int (Int32.ofNat i)), .val (.int (cv A (o + i)))] [])) := c6.trans (st7 _ (Steps.refl _))
      have c9 : Steps p.tables e below (s₁.setTop (entryFrame m #[.ref b, .int (Int32.ofNat o), .ref d, .int (Int32.ofNat q), .int (Int32.ofNat len)] 7)) (T7.setTop (mkF m 3 #[.val (.ref b), .val (.int (Int32.ofNat (o + i) + 1)), .val (.ref d), .val (.int (Int32.ofNat (q + i) + 1)), .val (.int (Int32.ofNat len)), .val (.int (Int32.ofNat i + 1)), .val (.int (cv A (o + i)))] [])) := c8.trans (by
        refine iincV X7.here hexec rfl 1 (hb hbytes d32) (by decide) rfl rfl ?_
        refine iincV X7.here hexec rfl 1 (hb hbytes d35) (by decide) rfl rfl ?_
        refine iincV X7.here hexec rfl 1 (hb hbytes d38) (by decide) rfl rfl ?_
        refine XS.goto X7.here hexec rfl (pc0 := 41) rfl (hb hbytes d41) (by decide) rfl ?_
        exact Steps.refl _)
      have c10 : Steps p.tables e below (s₁.setTop (entryFrame m #[.ref b, .int (Int32.ofNat o), .ref d, .int (Int32.ofNat q), .int (Int32.ofNat len)] 7)) (T7.setTop (mkF m 3 #[.val (.ref b), .val (.int (Int32.ofNat (o + (i + 1)))), .val (.ref d), .val (.int (Int32.ofNat (q + (i + 1)))), .val (.int (Int32.ofNat len)), .val (.int (Int32.ofNat (i + 1))), .val (.int (cv A (o + i)))] [])) := by
        have := c9
        rw [succ32, succ32, succ32] at this
        exact this
      exact ih (i + 1) (by omega) _ (Or.inr ⟨_, rfl, rfl⟩) T7 _ (by rw [copyLocs_step, ← List.append_assoc]; exact X7) (pl.trans p7) (fl.step (by omega) hlt (by simp)) c10
  obtain ⟨T9, B9, z9, X9, p9, f9, g9⟩ := loop len 0 (by omega) .unset (Or.inl rfl) s₁ B (by simpa [copyLocs] using X0) ⟨hB0.1, fun _ _ => rfl, rfl⟩ (Laid.zero _ _ _) c2
  have c11 : Steps p.tables e below (s₁.setTop (entryFrame m #[.ref b, .int (Int32.ofNat o), .ref d, .int (Int32.ofNat q), .int (Int32.ofNat len)] 7)) (T9.setTop (mkF m 46 #[.val (.ref b), .val (.int (Int32.ofNat (o + len))), .val (.ref d), .val (.int (Int32.ofNat (q + len))), .val (.int (Int32.ofNat len)), .val (.int (Int32.ofNat len)), z9] [.int (Int32.ofNat len)])) := g9.trans (by
    refine XS.iload X9.here hexec rfl (hb hbytes d3) rfl ?_
    refine XS.iload X9.here hexec rfl (hb hbytes d5) rfl ?_
    refine XS.icmpYes X9.here hexec rfl (pc0 := 7) rfl (hb hbytes d7) rfl (ii_ge_t (nlt32 (by omega) (Nat.le_refl _))) (by decide) rfl ?_
    refine XS.iload X9.here hexec rfl (hb hbytes d44) rfl ?_
    exact Steps.refl _)
  exact ⟨T9, some (.int (Int32.ofNat len)), _, _, _, X9, by simp, rfl, rfl, (fun h => by cases h), ⟨rfl, B9, p9.from hh0, f9⟩, fun fs hl => c11.trans (X9.ireturnOut hexec hret rfl (Or.inl rfl) (hb hbytes d46) hl)⟩
end Cmp5
namespace Cmp3
def yN : MethodName := ⟨"java/lang/StringUTF16", "compress", "([CII)[B"⟩
abbrev yB : ByteArray := jdk_52_method_16_code
theorem d0 : decode yB 0 = .ok (.iload_n 2, 1) := by decide +kernel
theorem d1 : decode yB 1 = .ok (.newarray .byte, 2) := by decide +kernel
theorem d3 : decode yB 3 = .ok (.astore_n 3, 1) := by decide +kernel
theorem d4 : decode yB 4 = .ok (.aload_n 0, 1) := by decide +kernel
theorem d5 : decode yB 5 = .ok (.iload_n 1, 1) := by decide +kernel
theorem d6 : decode yB 6 = .ok (.aload_n 3, 1) := by decide +kernel
theorem d7 : decode yB 7 = .ok (.iconst 0, 1) := by decide +kernel
theorem d8 : decode yB 8 = .ok (.iload_n 2, 1) := by decide +kernel
theorem d9 : decode yB 9 = .ok (.invokestatic 115, 3) := by decide +kernel
theorem d12 : decode yB 12 = .ok (.istore 4, 2) := by decide +kernel
theorem d14 : decode yB 14 = .ok (.iload 4, 2) := by decide +kernel
theorem d16 : decode yB 16 = .ok (.iload_n 2, 1) := by decide +kernel
theorem d17 : decode yB 17 = .ok (.if_icmp (.eq) 40, 3) := by decide +kernel
theorem d57 : decode yB 57 = .ok (.aload_n 3, 1) := by decide +kernel
theorem d58 : decode yB 58 = .ok (.areturn, 1) := by decide +kernel
def site : List Cond := [.arrayClass .byte, Cmp5.tab] ++ staticW U16 115 Cmp5.yN
def tab : Cond := tabOf yN yB 6 (some (.array .byte)) site
def P (b : Addr) (A : Cell) (o len : Nat) (args : Array Value) (s : State) : Prop := args = #[.ref b, .int (Int32.ofNat o), .int (Int32.ofNat len)] ∧ Ch b A s ∧ o + len ≤ A.slots.size ∧ len ≤ 536870912 ∧ ∀ i, i < len → ¬ 255 < cv A (o + i)
def E (b : Addr) (A : Cell) (o len : Nat) (r : Option Value) (s u : State) : Prop := NewArr .byte "[B" len (fun j => .int (lo8 (cv A (o + j)))) r s u ∧ u.heap.size = s.heap.size + 1
/-- no char of the range above 255: a new byte[] of their low bytes -/
theorem law (l : Launch) (b : Addr) (A : Cell) (o len : Nat) : Law l yN 3 3 1 18 yB 6 (some (.array .byte)) site (P b A o len) (E b A o len) [] 1 len := by
  refine Law.of_walk (plainFor_of_name (by decide +kernel)) (by decide +kernel) (by decide +kernel) (by decide) (fun _ _ h => by rw [h.1]; rfl) (fun _ U U' hal hh h => ⟨h.1, h.2.1.mv hal hh, h.2.2⟩) (fun r U U' V V' h1 hal h2 h => ⟨NewArr.mv r U U' V V' h1 hal h2 h.1, by rw [h1, h2]; exact h.2⟩) ?_
  intro p e s m args below meth c s₁ X0 hexec hbytes hml hret hlk hnm hown hh0 W hP
  obtain ⟨rfl, hA, l1, l2, hp⟩ := hP
  have a31 := hA.1.2.2.2
  have c1 : Steps p.tables e below (s₁.setTop (entryFrame m #[.ref b, .int (Int32.ofNat o), .int (Int32.ofNat len)] 6)) (s₁.setTop (mkF m 0 #[.val (.ref b), .val (.int (Int32.ofNat o)), .val (.int (Int32.ofNat len)), .unset, .unset, .unset] [])) := entry rfl
  have c2 : Steps p.tables e below (s₁.setTop (entryFrame m #[.ref b, .int (Int32.ofNat o), .int (Int32.ofNat len)] 6)) (s₁.setTop (mkF m 1 #[.val (.ref b), .val (.int (Int32.ofNat o)), .val (.int (Int32.ofNat len)), .unset, .unset, .unset] [.int (Int32.ofNat len)])) := c1.trans (by
    refine XS.iloadN X0.here hexec rfl (hb hbytes d0) rfl ?_
    exact Steps.refl _)
  obtain ⟨T3, B3, X3, ba3, bs3, bv3, bh3, bf3, st3⟩ := X0.anew hexec (atype := .byte) (wk W (.arrayClass .byte)) rfl (by show len * 1 ≤ _; omega) (by omega) (g := (mkF m 1 #[.val (.ref b), .val (.int (Int32.ofNat o)), .val (.int (Int32.ofNat len)), .unset, .unset, .unset] [.int (Int32.ofNat len)])) rfl (hb hbytes d1) (rest := []) rfl (Nat.le_refl _) (by show 0 + len ≤ len; omega)
  rw [hh0] at ba3 st3
  have kp3 : XT.Kept s T3 := (XT.Kept.of_eq hh0).push bh3
  have hA3 := hA.keep X3.warmed.alike (kp3 _ _ hA.1.1)
  have hne : b ≠ s.heap.size := hA.1.ne
  have c4 : Steps p.tables e below (s₁.setTop (entryFrame m #[.ref b, .int (Int32.ofNat o), .int (Int32.ofNat len)] 6)) (T3.setTop (mkF m 3 #[.val (.ref b), .val (.int (Int32.ofNat o)), .val (.int (Int32.ofNat len)), .unset, .unset, .unset] [.ref s.heap.size])) := c2.trans (st3 _ (Steps.refl _))
  have c5 : Steps p.tables e below (s₁.setTop (entryFrame m #[.ref b, .int (Int32.ofNat o), .int (Int32.ofNat len)] 6)) (T3.setTop (mkF m 9 #[.val (.ref b), .val (.int (Int32.ofNat o)), .val (.int (Int32.ofNat len)), .val (.ref s.heap.size), .unset, .unset] [.int (Int32.ofNat len), .int 0, .ref s.heap.size, .int (Int32.ofNat o), .ref b])) := c4.trans (by
    refine XS.astoreN X3.here hexec rfl (hb hbytes d3) rfl rfl rfl ?_
    refine XS.aloadN X3.here hexec rfl (hb hbytes d4) rfl rfl ?_
    refine XS.iloadN X3.here hexec rfl (hb hbytes d5) rfl ?_
    refine XS.aloadN X3.here hexec rfl (hb hbytes d6) rfl rfl ?_
    refine iconstV X3.here hexec rfl 0 (hb hbytes d7) (by decide) ?_
    refine XS.iloadN X3.here hexec rfl (hb hbytes d8) rfl ?_
    exact Steps.refl _)
  obtain ⟨v6, T6, X6, E6, g6⟩ := X3.callS hexec (Cmp5.law l b A s.heap.size B3 o 0 len) hown (wks W (staticW U16 115 Cmp5.yN)) (wk W Cmp5.tab) (W := 0) (Nat.le_of_ble_eq_true rfl) (Nat.le_of_ble_eq_true rfl) (Nat.le_refl _) (by show 0 + len + 0 ≤ len; omega) (g := (mkF m 9 #[.val (.ref b), .val (.int (Int32.ofNat o)), .val (.int (Int32.ofNat len)), .val (.ref s.heap.size), .unset, .unset] [.int (Int32.ofNat len), .int (Int32.ofNat 0), .ref s.heap.size, .int (Int32.ofNat o), .ref b])) rfl (by rw [hml]; rfl) c5 (argsL := [.ref b, .int (Int32.ofNat o), .ref s.heap.size, .int (Int32.ofNat 0), .int (Int32.ofNat len)]) (rest := []) rfl rfl (by show 2 * 0 + 0 ≤ _; decide) (hb hbytes d9) (⟨rfl, hA3, ba3, hne, l1, by rw [bs3]; simp, hp⟩)
  obtain ⟨rfl, B6, p6, f6⟩ := E6
  have c7 : Steps p.tables e below (s₁.setTop (entryFrame m #[.ref b, .int (Int32.ofNat o), .int (Int32.ofNat len)] 6)) (T6.setTop (mkF m 12 #[.val (.ref b), .val (.int (Int32.ofNat o)), .val (.int (Int32.ofNat len)), .val (.ref s.heap.size), .unset, .unset] [.int (Int32.ofNat len)])) := g6
  have c8 : Steps p.tables e below (s₁.setTop (entryFrame m #[.ref b, .int (Int32.ofNat o), .int (Int32.ofNat len)] 6)) (T6.setTop (mkF m 58 #[.val (.ref b), .val (.int (Int32.ofNat o)), .val (.int (Int32.ofNat len)), .val (.ref s.heap.size), .val (.int (Int32.ofNat len)), .unset] [.ref s.heap.size])) := c7.trans (by
    refine XS.istore X6.here hexec rfl (hb hbytes d12) rfl rfl ?_
    refine XS.iload X6.here hexec rfl (hb hbytes d14) rfl ?_
    refine XS.iloadN X6.here hexec rfl (hb hbytes d16) rfl ?_
    refine XS.icmpYes X6.here hexec rfl (pc0 := 17) rfl (hb hbytes d17) rfl (ii_eq_t rfl) (by decide) rfl ?_
    refine XS.aloadN X6.here hexec rfl (hb hbytes d57) rfl rfl ?_
    exact Steps.refl _)
  have X8 := X6.wide (L' := []) (cells' := 1) (slots' := len) (fun x hx hlt => by
    simp only [List.nil_append, copyLocs, List.mem_map, List.mem_range] at hx
    obtain ⟨i, -, rfl⟩ := hx
    exact absurd hlt (Nat.lt_irrefl _)) (Nat.le_refl _) (by omega)
  exact ⟨T6, some (.ref s.heap.size), _, _, _, X8, rfl, rfl, rfl, (fun h => by cases h), ⟨⟨rfl, B6, ba3.like (X3.warmed.alike.symm.trans X6.warmed.alike) p6.1 f6.1 f6.2.1 f6.2.2.1, f6.2.1.trans bv3, by rw [X6.warmed.alike.findClass, f6.1]; exact bf3, by rw [f6.2.2.1, bs3]; simp, fun j hj => by rw [f6.2.2.2 j, if_pos (by omega)]; rfl, kp3.put p6 (Nat.le_refl _)⟩, by rw [p6.2.2, bh3, hh0]; simp⟩, fun fs hl => c8.trans (X8.areturnOut hexec rfl hret rfl (hb hbytes d58) hl)⟩
end Cmp3
namespace CodL
def yN : MethodName := ⟨"java/lang/StringUTF16", "coderFromArrayLen", "([BI)B"⟩
abbrev yB : ByteArray := jdk_52_method_15_code
theorem d0 : decode yB 0 = .ok (.iload_n 1, 1) := by decide +kernel
theorem d1 : decode yB 1 = .ok (.aload_n 0, 1) := by decide +kernel
theorem d2 : decode yB 2 = .ok (.arraylength, 1) := by decide +kernel
theorem d3 : decode yB 3 = .ok (.isub, 1) := by decide +kernel
theorem d4 : decode yB 4 = .ok (.bipush 31, 2) := by decide +kernel
theorem d6 : decode yB 6 = .ok (.iushr, 1) := by decide +kernel
theorem d7 : decode yB 7 = .ok (.i2b, 1) := by decide +kernel
theorem d8 : decode yB 8 = .ok (.ireturn, 1) := by decide +kernel
def site : List Cond := []
def tab : Cond := tabOf yN yB 2 (some .byte) site
def P (d : Addr) (B : Cell) (args : Array Value) (s : State) : Prop := args = #[.ref d, .int (Int32.ofNat B.slots.size)] ∧ Arr .byte d B s
def E (r : Option Value) (s u : State) : Prop := XT.PureE (some (.int 0)) r s u
/-- an array as long as the number of chars: LATIN1 -/
theorem law (l : Launch) (d : Addr) (B : Cell) : Law l yN 2 2 0 0 yB 2 (some .byte) site (P d B) E [] 0 0 := by
  refine Law.of_walk (plainFor_of_name (by decide +kernel)) (by decide +kernel) (by decide +kernel) (by decide) (fun _ _ h => by rw [h.1]; rfl) (fun _ U U' hal hh h => ⟨h.1, h.2.mv hal hh⟩) (fun r U U' V V' h1 hal h2 h => XT.PureE.mv r U U' V V' h1 hal h2 h) ?_
  intro p e s m args below meth c s₁ X0 hexec hbytes hml hret hlk hnm hown hh0 W hP
  obtain ⟨rfl, hB⟩ := hP
  have hB0 := hB.mv X0.warmed.alike hh0
  have c1 : Steps p.tables e below (s₁.setTop (entryFrame m #[.ref d, .int (Int32.ofNat B.slots.size)] 2)) (s₁.setTop (mkF m 0 #[.val (.ref d), .val (.int (Int32.ofNat B.slots.size))] [])) := entry rfl
  have c2 : Steps p.tables e below (s₁.setTop (entryFrame m #[.ref d, .int (Int32.ofNat B.slots.size)] 2)) (s₁.setTop (mkF m 2 #[.val (.ref d), .val (.int (Int32.ofNat B.slots.size))] [.ref d, .int (Int32.ofNat B.slots.size)])) := c1.trans (by
    refine XS.iloadN X0.here hexec rfl (hb hbytes d0) rfl ?_
    refine XS.aloadN X0.here hexec rfl (hb hbytes d1) rfl rfl ?_
    exact Steps.refl _)
  have c3 : Steps p.tables e below (s₁.setTop (entryFrame m #[.ref d, .int (Int32.ofNat B.slots.size)] 2)) (s₁.setTop (mkF m 8 #[.val (.ref d), .val (.int (Int32.ofNat B.slots.size))] [.int (lo8 (ushr (Int32.ofNat B.slots.size - Int32.ofNat B.slots.size) 31))])) := c2.trans (by
    refine X0.alen hexec hB0 rfl rfl (hb hbytes d2) ?_
    refine XS.isub X0.here hexec rfl (hb hbytes d3) rfl ?_
    refine bipushV X0.here hexec rfl 31 (hb hbytes d4) (by decide) ?_
    refine iushr X0.here hexec rfl (hb hbytes d6) rfl ?_
    refine i2b X0.here hexec rfl (hb hbytes d7) rfl ?_
    exact Steps.refl _)
  have e0 : lo8 (ushr (Int32.ofNat B.slots.size - Int32.ofNat B.slots.size) 31) = 0 := by rw [Int32.sub_self]; decide
  rw [e0] at c3
  exact ⟨s₁, some (.int 0), _, _, _, X0, rfl, rfl, rfl, (fun h => by cases h), ⟨rfl, hh0⟩, fun fs hl => c3.trans (X0.ireturnOut hexec hret rfl (Or.inr (Or.inr (Or.inl rfl))) (hb hbytes d8) hl)⟩
end CodL
/-- the String at a is Latin-1 over a new byte[] (the heap's one new cell): the low bytes of the len chars of A from o on; every cell but a is kept -/
def Got (a : Addr) (D : Cell) (fV fC : Field) (A : Cell) (o len : Nat) (r : Option Value) (s u : State) : Prop := r = none ∧ ∃ D' V : Cell, Blank "java/lang/String" a D' u ∧ Same D D' [fV.slot, fC.slot] ∧ D'.slots[fV.slot]? = some (.ref s.heap.size) ∧ D'.slots[fC.slot]? = some (.int 0) ∧ Arr .byte s.heap.size V u ∧ V.vm = .none ∧ u.vm.findClass "[B" = some V.cls ∧ V.slots.size = len ∧ (∀ j, j < len → V.slots[j]? = some (.int (lo8 (cv A (o + j))))) ∧ (∀ (y : Addr) (c : Cell), y ≠ a → s.heap[y]? = some c → u.heap[y]? = some c) ∧ u.heap.size = s.heap.size + 1
theorem Got.mv {a : Addr} {D A : Cell} {fV fC : Field} {o len : Nat} : ∀ r (U U' V V' : State), U'.heap = U.heap → V.vm.Alike V'.vm → V'.heap = V.heap → Got a D fV fC A o len r U V → Got a D fV fC A o len r U' V' :=
  fun r U U' V V' h1 hal h2 ⟨e0, D', X, a1, a2, a3, a4, a5, a6, a7, a8, a9, a10, a11⟩ => ⟨e0, D', X, a1.mv hal h2, a2, by rw [h1]; exact a3, a4, by rw [h1]; exact a5.mv hal h2, a6, by rw [hal.findClass]; exact a7, a8, a9, by rw [h1, h2]; exact a10, by rw [h1, h2]; exact a11⟩
namespace New4
def yN : MethodName := ⟨"java/lang/String", "<init>", "([CIILjava/lang/Void;)V"⟩
abbrev yB : ByteArray := jdk_42_method_149_code
theorem d0 : decode yB 0 = .ok (.aload_n 0, 1) := by decide +kernel
theorem d1 : decode yB 1 = .ok (.invokespecial 1, 3) := by decide +kernel
theorem d4 : decode yB 4 = .ok (.iload_n 3, 1) := by decide +kernel
theorem d5 : decode yB 5 = .ok (.ifCond (.ne) 22, 3) := by decide +kernel
theorem d27 : decode yB 27 = .ok (.getstatic 38, 3) := by decide +kernel
theorem d30 : decode yB 30 = .ok (.ifCond (.eq) 28, 3) := by decide +kernel
theorem d33 : decode yB 33 = .ok (.aload_n 1, 1) := by decide +kernel
theorem d34 : decode yB 34 = .ok (.iload_n 2, 1) := by decide +kernel
theorem d35 : decode yB 35 = .ok (.iload_n 3, 1) := by decide +kernel
theorem d36 : decode yB 36 = .ok (.invokestatic 177, 3) := by decide +kernel
theorem d39 : decode yB 39 = .ok (.astore 5, 2) := by decide +kernel
theorem d41 : decode yB 41 = .ok (.aload_n 0, 1) := by decide +kernel
theorem d42 : decode yB 42 = .ok (.aload 5, 2) := by decide +kernel
theorem d44 : decode yB 44 = .ok (.iload_n 3, 1) := by decide +kernel
theorem d45 : decode yB 45 = .ok (.invokestatic 47, 3) := by decide +kernel
theorem d48 : decode yB 48 = .ok (.putfield 15, 3) := by decide +kernel
theorem d51 : decode yB 51 = .ok (.aload_n 0, 1) := by decide +kernel
theorem d52 : decode yB 52 = .ok (.aload 5, 2) := by decide +kernel
theorem d54 : decode yB 54 = .ok (.putfield 9, 3) := by decide +kernel
theorem d57 : decode yB 57 = .ok (.return_, 1) := by decide +kernel
def site : List Cond := [.fieldLink "java/lang/String" 38 "java/lang/String" "COMPACT_STRINGS" "Z", Cmp3.tab, CodL.tab, .laysFinal "java/lang/String" "java/lang/String" "value" "[B", .fieldLink "java/lang/String" 9 "java/lang/String" "value" "[B", .laysFinal "java/lang/String" "java/lang/String" "coder" "B", .fieldLink "java/lang/String" 15 "java/lang/String" "coder" "B"] ++ objW "java/lang/String" 1 ++ staticW "java/lang/String" 177 Cmp3.yN ++ staticW "java/lang/String" 47 CodL.yN
def tab : Cond := tabOf yN yB 6 none site
def P (a : Addr) (D : Cell) (fV fC : Field) (b : Addr) (A : Cell) (z : Int32) (o len : Nat) (args : Array Value) (s : State) : Prop := args = #[.ref a, .ref b, .int (Int32.ofNat o), .int (Int32.ofNat len), .null] ∧ Blank "java/lang/String" a D s ∧ Found "java/lang/String" "value" "[B" fV s ∧ Found "java/lang/String" "coder" "B" fC s ∧ Ch b A s ∧ StaticIs s "java/lang/String" "COMPACT_STRINGS" "Z" (.int z) ∧ ¬ z = 0 ∧ 0 < len ∧ o + len ≤ A.slots.size ∧ len ≤ 536870912 ∧ ∀ i, i < len → ¬ 255 < cv A (o + i)
def E (a : Addr) (D : Cell) (fV fC : Field) (A : Cell) (o len : Nat) (r : Option Value) (s u : State) : Prop := Got a D fV fC A o len r s u
/-- len > 0, no char of the range above 255: a Latin-1 String of their low bytes -/
theorem law (l : Launch) (a : Addr) (D : Cell) (fV fC : Field) (b : Addr) (A : Cell) (z : Int32) (o len : Nat) : Law l yN 5 4 2 35 yB 6 none site (P a D fV fC b A z o len) (E a D fV fC A o len) [⟨a, fC.slot⟩, ⟨a, fV.slot⟩] 1 len := by
  refine Law.of_walk (plainFor_of_name (by decide +kernel)) (by decide +kernel) (by decide +kernel) (by decide) (fun _ _ h => by rw [h.1]; rfl) (fun _ U U' hal hh h => ⟨h.1, h.2.1.mv hal hh, h.2.2.1.al hal, h.2.2.2.1.al hal, h.2.2.2.2.1.mv hal hh, h.2.2.2.2.2.1.there hal hh, h.2.2.2.2.2.2⟩) (fun r U U' V V' h1 hal h2 h => Got.mv r U U' V V' h1 hal h2 h) ?_
  intro p e s m args below meth c s₁ X0 hexec hbytes hml hret hlk hnm hown hh0 W hP
  obtain ⟨rfl, hB, f1, f2, hA, s1, hz, l0, l1, l2, hp⟩ := hP
  have a31 := hA.1.2.2.2
  have c1 : Steps p.tables e below (s₁.setTop (entryFrame m #[.ref a, .ref b, .int (Int32.ofNat o), .int (Int32.ofNat len), .null] 6)) (s₁.setTop (mkF m 0 #[.val (.ref a), .val (.ref b), .val (.int (Int32.ofNat o)), .val (.int (Int32.ofNat len)), .val .null, .unset] [])) := entry rfl
  have c2 : Steps p.tables e below (s₁.setTop (entryFrame m #[.ref a, .ref b, .int (Int32.ofNat o), .int (Int32.ofNat len), .null] 6)) (s₁.setTop (mkF m 1 #[.val (.ref a), .val (.ref b), .val (.int (Int32.ofNat o)), .val (.int (Int32.ofNat len)), .val .null, .unset] [.ref a])) := c1.trans (by
    refine XS.aloadN X0.here hexec rfl (hb hbytes d0) rfl rfl ?_
    exact Steps.refl _)
  obtain ⟨T3, X3, q3, st3⟩ := X0.oinit hexec hown (wks W (objW "java/lang/String" 1)) (g := (mkF m 1 #[.val (.ref a), .val (.ref b), .val (.int (Int32.ofNat o)), .val (.int (Int32.ofNat len)), .val .null, .unset] [.ref a])) rfl (by rw [hml]; rfl) (rest := []) rfl (hb hbytes d1) (W := 0) (by show 2 * 0 + 0 ≤ _; decide) (Nat.le_of_ble_eq_true rfl) (Nat.le_of_ble_eq_true rfl)
  have hh3 := q3.trans hh0
  have c4 : Steps p.tables e below (s₁.setTop (entryFrame m #[.ref a, .ref b, .int (Int32.ofNat o), .int (Int32.ofNat len), .null] 6)) (T3.setTop (mkF m 27 #[.val (.ref a), .val (.ref b), .val (.int (Int32.ofNat o)), .val (.int (Int32.ofNat len)), .val .null, .unset] [])) := (c2.trans (st3 _ (Steps.refl _))).trans (by
    refine XS.iloadN X3.here hexec rfl (hb hbytes d4) rfl ?_
    refine XS.ifYes X3.here hexec rfl (pc0 := 5) rfl (hb hbytes d5) rfl (i0_ne_t (nz32 (by omega) l0)) (by decide) rfl ?_
    exact Steps.refl _)
  obtain ⟨T5, X5, q5, st5⟩ := X3.sget hexec hown (wk W (.fieldLink "java/lang/String" 38 "java/lang/String" "COMPACT_STRINGS" "Z")) s1 (fun _ _ h => by rw [hh3]; exact h) (g := (mkF m 27 #[.val (.ref a), .val (.ref b), .val (.int (Int32.ofNat o)), .val (.int (Int32.ofNat len)), .val .null, .unset] [])) rfl (hb hbytes d27)
  have hh5 := q5.trans hh3
  have c6 : Steps p.tables e below (s₁.setTop (entryFrame m #[.ref a, .ref b, .int (Int32.ofNat o), .int (Int32.ofNat len), .null] 6)) (T5.setTop (mkF m 30 #[.val (.ref a), .val (.ref b), .val (.int (Int32.ofNat o)), .val (.int (Int32.ofNat len)), .val .null, .unset] [.int z])) := c4.trans (st5 _ (Steps.refl _))
  have c7 : Steps p.tables e below (s₁.setTop (entryFrame m #[.ref a, .ref b, .int (Int32.ofNat o), .int (Int32.ofNat len), .null] 6)) (T5.setTop (mkF m 36 #[.val (.ref a), .val (.ref b), .val (.int (Int32.ofNat o)), .val (.int (Int32.ofNat len)), .val .null, .unset] [.int (Int32.ofNat len), .int (Int32.ofNat o), .ref b])) := c6.trans (by
    refine XS.ifNo X5.here hexec rfl (hb hbytes d30) rfl (i0_eq_f hz) ?_
    refine XS.aloadN X5.here hexec rfl (hb hbytes d33) rfl rfl ?_
    refine XS.iloadN X5.here hexec rfl (hb hbytes d34) rfl ?_
    refine XS.iloadN X5.here hexec rfl (hb hbytes d35) rfl ?_
    exact Steps.refl _)
  obtain ⟨v8, T8, X8, E8, g8⟩ := X5.callS hexec (Cmp3.law l b A o len) hown (wks W (staticW "java/lang/String" 177 Cmp3.yN)) (wk W Cmp3.tab) (W := 0) (Nat.le_of_ble_eq_true rfl) (Nat.le_of_ble_eq_true rfl) (Nat.le_refl _) (by show 0 + len ≤ len; omega) (g := (mkF m 36 #[.val (.ref a), .val (.ref b), .val (.int (Int32.ofNat o)), .val (.int (Int32.ofNat len)), .val .null, .unset] [.int (Int32.ofNat len), .int (Int32.ofNat o), .ref b])) rfl (by rw [hml]; rfl) c7 (argsL := [.ref b, .int (Int32.ofNat o), .int (Int32.ofNat len)]) (rest := []) rfl rfl (by show 2 * 0 + 0 ≤ _; decide) (hb hbytes d36) (⟨rfl, hA.mv X5.warmed.alike hh5, l1, l2, hp⟩)
  obtain ⟨e8, z8⟩ := E8
  obtain ⟨rfl, N, n1, n2, n3, n4, n5, n6⟩ := NewArr.mv _ T5 s _ _ hh5.symm (Vm.Alike.refl _) rfl e8
  rw [hh5] at z8
  have hB1 := hB.keep X8.warmed.alike (n6 _ _ hB.1)
  have hne : s.heap.size ≠ a := (Nat.ne_of_lt (Array.getElem?_eq_some_iff.mp hB.1).1).symm
  have c9 : Steps p.tables e below (s₁.setTop (entryFrame m #[.ref a, .ref b, .int (Int32.ofNat o), .int (Int32.ofNat len), .null] 6)) (T8.setTop (mkF m 39 #[.val (.ref a), .val (.ref b), .val (.int (Int32.ofNat o)), .val (.int (Int32.ofNat len)), .val .null, .unset] [.ref s.heap.size])) := g8
  have c10 : Steps p.tables e below (s₁.setTop (entryFrame m #[.ref a, .ref b, .int (Int32.ofNat o), .int (Int32.ofNat len), .null] 6)) (T8.setTop (mkF m 45 #[.val (.ref a), .val (.ref b), .val (.int (Int32.ofNat o)), .val (.int (Int32.ofNat len)), .val .null, .val (.ref s.heap.size)] [.int (Int32.ofNat N.slots.size), .ref s.heap.size, .ref a])) := by
    have hc : Steps p.tables e below (s₁.setTop (entryFrame m #[.ref a, .ref b, .int (Int32.ofNat o), .int (Int32.ofNat len), .null] 6)) (T8.setTop (mkF m 45 #[.val (.ref a), .val (.ref b), .val (.int (Int32.ofNat o)), .val (.int (Int32.ofNat len)), .val .null, .val (.ref s.heap.size)] [.int (Int32.ofNat len), .ref s.heap.size, .ref a])) := c9.trans (by
      refine XS.astore X8.here hexec rfl (hb hbytes d39) rfl rfl rfl ?_
      refine XS.aloadN X8.here hexec rfl (hb hbytes d41) rfl rfl ?_
      refine XS.aload X8.here hexec rfl (hb hbytes d42) rfl rfl ?_
      refine XS.iloadN X8.here hexec rfl (hb hbytes d44) rfl ?_
      exact Steps.refl _)
    rw [n4]; exact hc
  obtain ⟨v11, T11, X11, E11, g11⟩ := X8.callS hexec (CodL.law l s.heap.size N) hown (wks W (staticW "java/lang/String" 47 CodL.yN)) (wk W CodL.tab) (W := 1) (Nat.le_of_ble_eq_true rfl) (Nat.le_of_ble_eq_true rfl) (Nat.le_refl _) (by show 0 + len + 0 ≤ len; omega) (g := (mkF m 45 #[.val (.ref a), .val (.ref b), .val (.int (Int32.ofNat o)), .val (.int (Int32.ofNat len)), .val .null, .val (.ref s.heap.size)] [.int (Int32.ofNat N.slots.size), .ref s.heap.size, .ref a])) rfl (by rw [hml]; rfl) c10 (argsL := [.ref s.heap.size, .int (Int32.ofNat N.slots.size)]) (rest := [.ref a]) rfl rfl (by show 2 * 0 + (1 + 0) ≤ _; decide) (hb hbytes d45) (⟨rfl, n1⟩)
  obtain ⟨rfl, q11⟩ := E11
  have hB11 := hB1.mv (X8.warmed.alike.symm.trans X11.warmed.alike) q11
  have c12 : Steps p.tables e below (s₁.setTop (entryFrame m #[.ref a, .ref b, .int (Int32.ofNat o), .int (Int32.ofNat len), .null] 6)) (T11.setTop (mkF m 48 #[.val (.ref a), .val (.ref b), .val (.int (Int32.ofNat o)), .val (.int (Int32.ofNat len)), .val .null, .val (.ref s.heap.size)] [.int 0, .ref a])) := g11
  obtain ⟨T13, X13, p13, bl13, sl13, st13⟩ := X11.finit hexec hown (wk W (.fieldLink "java/lang/String" 15 "java/lang/String" "coder" "B")) (Or.inr ⟨_, (wk W (.laysFinal "java/lang/String" "java/lang/String" "coder" "B"))⟩) (Or.inl ⟨rfl, hnm⟩) f2 (Or.inl rfl) hB11 (t := .byte) (by decide +kernel) rfl (g := (mkF m 48 #[.val (.ref a), .val (.ref b), .val (.int (Int32.ofNat o)), .val (.int (Int32.ofNat len)), .val .null, .val (.ref s.heap.size)] [.int 0, .ref a])) rfl (rest := []) rfl (hb hbytes d48)
  have c14 : Steps p.tables e below (s₁.setTop (entryFrame m #[.ref a, .ref b, .int (Int32.ofNat o), .int (Int32.ofNat len), .null] 6)) (T13.setTop (mkF m 54 #[.val (.ref a), .val (.ref b), .val (.int (Int32.ofNat o)), .val (.int (Int32.ofNat len)), .val .null, .val (.ref s.heap.size)] [.ref s.heap.size, .ref a])) := (c12.trans (st13 _ (Steps.refl _))).trans (by
    refine XS.aloadN X13.here hexec rfl (hb hbytes d51) rfl rfl ?_
    refine XS.aload X13.here hexec rfl (hb hbytes d52) rfl rfl ?_
    exact Steps.refl _)
  obtain ⟨T15, X15, p15, bl15, sl15, st15⟩ := X13.finit hexec hown (wk W (.fieldLink "java/lang/String" 9 "java/lang/String" "value" "[B")) (Or.inr ⟨_, (wk W (.laysFinal "java/lang/String" "java/lang/String" "value" "[B"))⟩) (Or.inl ⟨rfl, hnm⟩) f1 (Or.inl rfl) bl13 (t := (.array .byte)) (by decide +kernel) rfl (g := (mkF m 54 #[.val (.ref a), .val (.ref b), .val (.int (Int32.ofNat o)), .val (.int (Int32.ofNat len)), .val .null, .val (.ref s.heap.size)] [.ref s.heap.size, .ref a])) rfl (rest := []) rfl (hb hbytes d54)
  have c16 : Steps p.tables e below (s₁.setTop (entryFrame m #[.ref a, .ref b, .int (Int32.ofNat o), .int (Int32.ofNat len), .null] 6)) (T15.setTop (mkF m 57 #[.val (.ref a), .val (.ref b), .val (.int (Int32.ofNat o)), .val (.int (Int32.ofNat len)), .val .null, .val (.ref s.heap.size)] [])) := c14.trans (st15 _ (Steps.refl _))
  have ap := apart (Or.inr ⟨_, (wk W (.laysFinal "java/lang/String" "java/lang/String" "value" "[B"))⟩) (Or.inr ⟨_, (wk W (.laysFinal "java/lang/String" "java/lang/String" "coder" "B"))⟩) f1 f2 (t₁ := .array .byte) (t₂ := .byte) (by decide +kernel) (by decide +kernel) (by decide)
  have al := X8.warmed.alike.symm.trans X15.warmed.alike
  have n7 : T11.heap[s.heap.size]? = some N := by rw [q11]; exact n1.1
  exact ⟨T15, none, _, _, _, X15, by simp, rfl, by omega, (fun _ => rfl), ⟨rfl, _, N, bl15, ((Same.refl D _).set _ (by simp)).set _ (by simp), sl15, (Cell.slots_setSlot_ne _ ap).trans sl13, n1.keep al (p15.other hne (p13.other hne n7)), n2, by rw [al.findClass]; exact n3, n4, n5, fun y c h1 h2 => p15.other h1 (p13.other h1 (by rw [q11]; exact n6 y c h2)), by rw [p15.2.2, p13.2.2, q11]; exact z8⟩, fun fs hl => c16.trans (X15.returnOut hexec hret (hb hbytes d57) hl)⟩
end New4
namespace New1
def yN : MethodName := ⟨"java/lang/String", "<init>", "([C)V"⟩
abbrev yB : ByteArray := jdk_42_method_3_code
theorem d0 : decode yB 0 = .ok (.aload_n 0, 1) := by decide +kernel
theorem d1 : decode yB 1 = .ok (.aload_n 1, 1) := by decide +kernel
theorem d2 : decode yB 2 = .ok (.iconst 0, 1) := by decide +kernel
theorem d3 : decode yB 3 = .ok (.aload_n 1, 1) := by decide +kernel
theorem d4 : decode yB 4 = .ok (.arraylength, 1) := by decide +kernel
theorem d5 : decode yB 5 = .ok (.aconst_null, 1) := by decide +kernel
theorem d6 : decode yB 6 = .ok (.invokespecial 27, 3) := by decide +kernel
theorem d9 : decode yB 9 = .ok (.return_, 1) := by decide +kernel
def site : List Cond := [New4.tab] ++ initW "java/lang/String" 27 New4.yN
def tab : Cond := tabOf yN yB 2 none site
def P (a : Addr) (D : Cell) (fV fC : Field) (b : Addr) (A : Cell) (z : Int32) (args : Array Value) (s : State) : Prop := args = #[.ref a, .ref b] ∧ Blank "java/lang/String" a D s ∧ Found "java/lang/String" "value" "[B" fV s ∧ Found "java/lang/String" "coder" "B" fC s ∧ Ch b A s ∧ StaticIs s "java/lang/String" "COMPACT_STRINGS" "Z" (.int z) ∧ ¬ z = 0 ∧ 0 < A.slots.size ∧ A.slots.size ≤ 536870912 ∧ ∀ i, i < A.slots.size → ¬ 255 < cv A i
def E (a : Addr) (D : Cell) (fV fC : Field) (A : Cell) (r : Option Value) (s u : State) : Prop := Got a D fV fC A 0 A.slots.size r s u
/-- new String(chars), not empty, no char above 255: a Latin-1 String of their low bytes -/
theorem law (l : Launch) (a : Addr) (D : Cell) (fV fC : Field) (b : Addr) (A : Cell) (z : Int32) : Law l yN 2 1 3 52 yB 2 none site (P a D fV fC b A z) (E a D fV fC A) [⟨a, fC.slot⟩, ⟨a, fV.slot⟩] 1 A.slots.size := by
  refine Law.of_walk (plainFor_of_name (by decide +kernel)) (by decide +kernel) (by decide +kernel) (by decide) (fun _ _ h => by rw [h.1]; rfl) (fun _ U U' hal hh h => ⟨h.1, h.2.1.mv hal hh, h.2.2.1.al hal, h.2.2.2.1.al hal, h.2.2.2.2.1.mv hal hh, h.2.2.2.2.2.1.there hal hh, h.2.2.2.2.2.2⟩) (fun r U U' V V' h1 hal h2 h => Got.mv r U U' V V' h1 hal h2 h) ?_
  intro p e s m args below meth c s₁ X0 hexec hbytes hml hret hlk hnm hown hh0 W hP
  obtain ⟨rfl, hB, f1, f2, hA, s1, hz, l0, l2, hp⟩ := hP
  have c1 : Steps p.tables e below (s₁.setTop (entryFrame m #[.ref a, .ref b] 2)) (s₁.setTop (mkF m 0 #[.val (.ref a), .val (.ref b)] [])) := entry rfl
  have c2 : Steps p.tables e below (s₁.setTop (entryFrame m #[.ref a, .ref b] 2)) (s₁.setTop (mkF m 6 #[.val (.ref a), .val (.ref b)] [.null, .int (Int32.ofNat A.slots.size), .int 0, .ref b, .ref a])) := c1.trans (by
    refine XS.aloadN X0.here hexec rfl (hb hbytes d0) rfl rfl ?_
    refine XS.aloadN X0.here hexec rfl (hb hbytes d1) rfl rfl ?_
    refine iconstV X0.here hexec rfl 0 (hb hbytes d2) (by decide) ?_
    refine XS.aloadN X0.here hexec rfl (hb hbytes d3) rfl rfl ?_
    refine X0.alen hexec (hA.1.mv X0.warmed.alike hh0) rfl rfl (hb hbytes d4) ?_
    refine XS.aconstNull X0.here hexec rfl (hb hbytes d5) ?_
    exact Steps.refl _)
  obtain ⟨v3, T3, X3, E3, g3⟩ := X0.callN hexec (New4.law l a D fV fC b A z 0 A.slots.size) rfl hown (wks W (initW "java/lang/String" 27 New4.yN)) (W New4.tab (by simp only [site, List.mem_cons, List.mem_append, true_or, or_true])) (W := 0) (Nat.le_of_ble_eq_true rfl) (Nat.le_of_ble_eq_true rfl) (Nat.le_refl _) (by show 0 + A.slots.size ≤ A.slots.size; omega) (g := (mkF m 6 #[.val (.ref a), .val (.ref b)] [.null, .int (Int32.ofNat A.slots.size), .int (Int32.ofNat 0), .ref b, .ref a])) rfl (by rw [hml]; rfl) c2 (argsL := [.ref b, .int (Int32.ofNat 0), .int (Int32.ofNat A.slots.size), .null]) (rest := []) rfl rfl (by show 2 * 0 + 0 ≤ _; decide) (hb hbytes d6) (⟨rfl, hB.mv X0.warmed.alike hh0, f1.al X0.warmed.alike, f2.al X0.warmed.alike, hA.mv X0.warmed.alike hh0, s1.there X0.warmed.alike hh0, hz, l0, by omega, l2, fun i hi => by rw [Nat.zero_add]; exact hp i hi⟩)
  have e0 := Got.mv _ s₁ s _ _ hh0.symm (Vm.Alike.refl _) rfl E3
  obtain rfl := e0.1
  have c4 : Steps p.tables e below (s₁.setTop (entryFrame m #[.ref a, .ref b] 2)) (T3.setTop (mkF m 9 #[.val (.ref a), .val (.ref b)] [])) := g3
  exact ⟨T3, none, _, _, _, X3, by simp, rfl, by omega, (fun _ => rfl), e0, fun fs hl => c4.trans (X3.returnOut hexec hret (hb hbytes d9) hl)⟩
theorem pays {l : Launch} {R : Room} {p : Program} {e : Env} {below : List Frame} {s : State} {sargs : Array Value} {len W : Nat} (a : Addr) (D : Cell) (fV fC : Field) (b : Addr) (A : Cell) (z : Int32) (htab : tab.before sargs s = true) (hfr : 4 ≤ R.frames) (hlo : W + 65 ≤ R.locals) :
    Back l R p e below s sargs yN len W (fun A₁ a₁ => A₁.cells + 1 ≤ R.cells ∧ A₁.slots + A.slots.size ≤ R.slots ∧ P a D fV fC b A z a₁ A₁.U) (fun A₁ _ v₁ B₁ => E a D fV fC A v₁ A₁.U B₁.U ∧ B₁.locs = A₁.locs ++ [⟨a, fC.slot⟩, ⟨a, fV.slot⟩] ∧ B₁.cells = A₁.cells + 1 ∧ B₁.slots = A₁.slots + A.slots.size) :=
  (law l a D fV fC b A z).pays htab hfr (by omega)
end New1
/-- the byte, read back as charAt reads it, is the char -/
theorem lo8_mask {x : Int32} (h0 : ¬ x < 0) (h1 : ¬ 255 < x) : lo8 x &&& 255 = x := by
  have t : ∀ k : Fin 256, lo8 (Int32.ofNat k.val) &&& 255 = Int32.ofNat k.val := by decide +kernel
  rw [Int32.lt_iff_toInt_lt] at h0 h1
  have e0 : (0 : Int32).toInt = 0 := rfl
  have e1 : (255 : Int32).toInt = 255 := rfl
  obtain ⟨k, hk⟩ : ∃ k : Nat, x.toInt = k := ⟨x.toInt.toNat, by omega⟩
  have hx : x = Int32.ofNat k := Int32.toInt_inj.mp (by rw [hk, Int32.toInt_ofNat_small (by omega)])
  rw [hx]
  exact t ⟨k, by omega⟩
end StrChars
namespace StrChars.Road
open Jvm Sem ClassFile Op Lib Jvm.Stand Jvm.Free Jvm.Free.XT
open Jvm.Lib.Cold (StaticIs)
abbrev ST : String := "java/lang/String"
/-- every table word that New1's law asks, flat -/
abbrev words : List Jvm.Cond := [.code New1.yN New1.yB 2 none, .initialized ST, .methodLink ST 27 New4.yN, .instanceMethod New4.yN,
  .code New4.yN New4.yB 6 none, .fieldLink ST 38 ST "COMPACT_STRINGS" "Z", .laysFinal ST ST "value" "[B", .fieldLink ST 9 ST "value" "[B", .laysFinal ST ST "coder" "B", .fieldLink ST 15 ST "coder" "B",
  .methodLink ST 1 Lib.objectInit, .instanceMethod Lib.objectInit, .code Lib.objectInit ⟨#[0xb1]⟩ 1 none, .methodLink ST 177 Cmp3.yN, .static Cmp3.yN, .methodLink ST 47 CodL.yN, .static CodL.yN,
  .code Cmp3.yN Cmp3.yB 6 (some (.array .byte)), .initialized U16, .arrayClass .byte, .methodLink U16 115 Cmp5.yN, .static Cmp5.yN, .code Cmp5.yN Cmp5.yB 7 (some .int), .code CodL.yN CodL.yB 2 (some .byte)]
theorem tab_of {a : Array Value} {s : State} (h : ∀ w ∈ words, w.before a s = true) : New1.tab.before a s = true := by
  have h5 : Cmp5.tab.before a s = true := unparts (wk h (.code Cmp5.yN Cmp5.yB 7 (some .int))) (wks h (.initialized Cmp5.yN.cls :: Cmp5.site))
  have hc : CodL.tab.before a s = true := unparts (wk h (.code CodL.yN CodL.yB 2 (some .byte))) (wks h (.initialized CodL.yN.cls :: CodL.site))
  have q5 : ∀ w ∈ Cmp5.tab :: words, w.before a s = true := fun w hw => (List.mem_cons.mp hw).elim (fun e => e ▸ h5) (h w)
  have h3 : Cmp3.tab.before a s = true := unparts (wk q5 (.code Cmp3.yN Cmp3.yB 6 (some (.array .byte)))) (wks q5 (.initialized Cmp3.yN.cls :: Cmp3.site))
  have q3 : ∀ w ∈ Cmp3.tab :: CodL.tab :: words, w.before a s = true := fun w hw => (List.mem_cons.mp hw).elim (fun e => e ▸ h3) fun hw => (List.mem_cons.mp hw).elim (fun e => e ▸ hc) (h w)
  have h4 : New4.tab.before a s = true := unparts (wk q3 (.code New4.yN New4.yB 6 none)) (wks q3 (.initialized New4.yN.cls :: New4.site))
  have q4 : ∀ w ∈ New4.tab :: words, w.before a s = true := fun w hw => (List.mem_cons.mp hw).elim (fun e => e ▸ h4) (h w)
  exact unparts (wk q4 (.code New1.yN New1.yB 2 none)) (wks q4 (.initialized New1.yN.cls :: New1.site))
/-- the words ride from the start Z to the walk's own state -/
theorem moved {Z s : State} {a0 args : Array Value} (hZ : Z.Warmed39 s.vm) (hw : ∀ d ∈ words, d.before a0 Z = true) : ∀ d ∈ words, d.before args s = true := fun d hd => by
  have q := hw d hd
  have t : ∀ d ∈ words, d = .arrayClass .byte ∨ (d.onTables && d.keepsFace) = true := by decide +kernel
  rcases t d hd with rfl | t
  · exact RoadKit.mvA hZ q
  · exact RoadKit.mv hZ q t
/-- WHAT COMES BACK, over the tables of the start Z: h the heap at the call, h' behind it -/
def Q (Z : State) (x : Addr) (A : Cell) (h : Heap) (v : Option Value) (h' : Heap) (L : List Loc) : Prop := v = none ∧ (∀ y ∈ L, y.base = x) ∧ RoadKit.Keep h h' [x] ∧ h'.size = h.size + 1 ∧ RoadKit.Exa Z h' x ST ∧ RoadKit.Fld Z h' x ST "value" "[B" (.ref h.size) ∧ RoadKit.Fld Z h' x ST "coder" "B" (.int 0) ∧
  (∃ V : Cell, RoadKit.Arr Z h' h.size V .byte ∧ V.vm = .none ∧ Z.vm.findClass "[B" = some V.cls ∧ V.slots.size = A.slots.size ∧ ∀ j, j < A.slots.size → V.slots[j]? = some (.int (lo8 (cv A j)))) ∧
  ∀ (O n d : String) (w : Value), RoadKit.Fld Z h x O n d w → RoadKit.slotOf Z O n d ≠ RoadKit.slotOf Z ST "value" "[B" → RoadKit.slotOf Z O n d ≠ RoadKit.slotOf Z ST "coder" "B" → RoadKit.Fld Z h' x O n d w
/-- **new String(chars) AT A CALL, IN THE ROAD'S FORM**: for specialBack behind newO: x the fresh String, b the char[] with the cell A -/
theorem back {p : Program} {l : Launch} {e : Env} {R : Room} {s : State} {args : Array Value} {below : List Frame} {len W : Nat} {Z : State} {a0 : Array Value} {h : Heap} (hZ : Z.Warmed39 s.vm) (hw : ∀ d ∈ words, d.before a0 Z = true) {kI : Nat} (wi : (Jvm.Cond.instantiable ST kI).before a0 Z = true)
    {x b : Addr} {A : Cell} {z : Int32} {v0 c0 : Value} (E : RoadKit.Exa Z h x ST) (V : RoadKit.Fld Z h x ST "value" "[B" v0) (C : RoadKit.Fld Z h x ST "coder" "B" c0) (K : RoadKit.Arr Z h b A .char) (hty : Typed .char A) (S : RoadKit.Sta Z h ST "COMPACT_STRINGS" "Z" (.int z)) (hz : ¬ z = 0)
    (l0 : 0 < A.slots.size) (l2 : A.slots.size ≤ 536870912) (hp : ∀ i, i < A.slots.size → ¬ 255 < cv A i) (hfr : 4 ≤ R.frames) (hlo : W + 65 ≤ R.locals) :
    Back l R p e below s args New1.yN len W (fun P a => a = #[.ref x, .ref b] ∧ P.U.heap = h ∧ P.cells + 1 ≤ R.cells ∧ P.slots + A.slots.size ≤ R.slots)
      (fun P _ v B => ∃ L, Q Z x A h v B.U.heap L ∧ B.locs = P.locs ++ L ∧ B.cells = P.cells + 1 ∧ B.slots = P.slots + A.slots.size) := by
  intro m meth c P g ig mk a X hg hsize hdg hW hn hp'
  obtain ⟨rfl, rfl, r1, r2⟩ := hp'
  have al : Z.vm.Alike P.U.vm := hZ.alike.trans X.warmed.alike
  obtain ⟨D, cfV, kV, iV, fV, hD, gV, stV, knV, obV, asV, slV⟩ := id V
  obtain ⟨D', cfC, kC, iC, fC, hD', gC, stC, -, -, asC, slC⟩ := id C
  cases hD.symm.trans hD'
  obtain ⟨D2, kD, e1, e2, e3, e4, e5⟩ := id E
  cases hD.symm.trans e1
  obtain ⟨c2, k2, i1, i2, i3, -⟩ := Cond.instantiable_spec wi
  cases e2.symm.trans i1
  cases e3.symm.trans i2
  obtain ⟨kU, u1, u2⟩ := al.2.2 _ _ e3
  have hB : Blank ST x D P.U := ⟨hD, ⟨knV, fun q hq => by rw [hq] at obV; cases obV⟩, by rw [al.findClass]; exact e2, kU, u1, by rw [u2]; exact i3, by rw [u2]; exact e5 i3⟩
  have F1 : Found ST "value" "[B" fV P.U := ⟨SBG.found_only al ⟨cfV, kV, iV, gV⟩, stV⟩
  have F2 : Found ST "coder" "B" fC P.U := ⟨SBG.found_only al ⟨cfC, kC, iC, gC⟩, stC⟩
  have hA : Ch b A P.U := ⟨⟨K.1, State.isArrayOf_alike al K.2.1, K.2.2, by omega⟩, hty⟩
  have hS : StaticIs P.U ST "COMPACT_STRINGS" "Z" (.int z) := by
    obtain ⟨cfS, iS, kS, fS, st, cS, t1, t2, t3, t4, t5, t6, t7⟩ := S
    exact StaticIs.there (s := { Z with heap := P.U.heap }) ⟨cfS, iS, kS, fS, st, cS, t1, t2, t3, t4, t5, (fun q => by rw [q] at t6; cases t6), t7⟩ al rfl
  obtain ⟨v, B, X', ⟨⟨hv, E', V', q1, q2, q3, q4, q5, q6, q7, q8, q9, q10, q11⟩, hl, hc, hs⟩, st⟩ := New1.pays x D fV fC b A z (tab_of (moved hZ hw)) hfr hlo m meth c P g ig mk _ X hg hsize hdg hW hn ⟨r1, r2, rfl, hB, F1, F2, hA, hS, hz, l0, l2, hp⟩
  have al' : Z.vm.Alike B.U.vm := hZ.alike.trans X'.warmed.alike
  have hsz : E'.slots.size = D.slots.size := by
    obtain ⟨-, -, -, kB, w1, w2, w3⟩ := q1
    obtain ⟨kB', y1, y2⟩ := al'.2.2 _ _ e3
    rw [q2.2.1] at w1
    cases w1.symm.trans y1
    rw [w3, e5 i3, y2]
  refine ⟨v, B, X', ⟨_, ⟨hv, ?_, ⟨by omega, fun y cy hy hn' => q10 y cy (by simpa using hn') hy, fun y cy hy => ?_⟩, q11, ⟨E', _, q1.1, by rw [q2.2.1]; exact e2, by rw [q2.2.1]; exact e3, by rw [q2.1]; exact obV, fun _ => by rw [hsz]; exact e5 i3⟩,
    ⟨E', cfV, kV, iV, fV, q1.1, gV, stV, by rw [q2.1]; exact knV, by rw [q2.1]; exact obV, by rw [q2.2.1]; exact asV, q3⟩, ⟨E', cfC, kC, iC, fC, q1.1, gC, stC, by rw [q2.1]; exact knV, by rw [q2.1]; exact obV, by rw [q2.2.1]; exact asC, q4⟩,
    ⟨V', ⟨q5.1, State.isArrayOf_alike al'.symm q5.2.1, q5.2.2.1⟩, q6, by rw [← al'.findClass]; exact q7, q8, fun j hj => by have := q9 j hj; rwa [Nat.zero_add] at this⟩, fun O n d w F n1 n2 => ?_⟩, hl, hc, hs⟩, st⟩
  · intro y hy
    simp only [List.mem_cons, List.not_mem_nil, or_false] at hy
    rcases hy with rfl | rfl <;> rfl
  · by_cases q : y = x
    · subst q
      cases hD.symm.trans hy
      exact ⟨E', q1.1, q2.2.1, q2.1, hsz⟩
    · exact ⟨cy, q10 y cy q hy, rfl, rfl, rfl⟩
  · obtain ⟨D3, cf, k, i, f, g1, g2, g3, g4, g5, g6, g7⟩ := F
    cases hD.symm.trans g1
    simp only [RoadKit.slotOf, g2, gV, gC, Option.map_some, Option.getD_some] at n1 n2
    exact ⟨E', cf, k, i, f, q1.1, g2, g3, by rw [q2.1]; exact g4, by rw [q2.1]; exact g5, by rw [q2.2.1]; exact g6, by rw [q2.2.2 f.slot (by simp [n1, n2])]; exact g7⟩
end StrChars.Road
namespace StrChars.Road
open Jvm Sem ClassFile Op Lib Jvm.Stand Jvm.Free Jvm.Free.XT
/-- WHAT COMES BACK, the byte[] as a list of values -/
def QA (Z : State) (x : Addr) (zn : Int32) (cs : List Int32) (h : Heap) (v : Option Value) (h' : Heap) (L : List Loc) : Prop := v = none ∧ (∀ y ∈ L, y.base = x) ∧ RoadKit.Keep h h' [x] ∧ h'.size = h.size + 1 ∧ RoadKit.Exa Z h' x ST ∧ RoadKit.Fld Z h' x ST "value" "[B" (.ref h.size) ∧ RoadKit.Fld Z h' x ST "coder" "B" (.int 0) ∧
  (∃ kb, Z.vm.findClass "[B" = some kb ∧ RoadKit.Arv Z h' h.size kb .byte zn (cs.map fun c => .int (lo8 c)) (.int 0)) ∧
  ∀ (O n d : String) (w : Value), RoadKit.Fld Z h x O n d w → RoadKit.slotOf Z O n d ≠ RoadKit.slotOf Z ST "value" "[B" → RoadKit.slotOf Z O n d ≠ RoadKit.slotOf Z ST "coder" "B" → RoadKit.Fld Z h' x O n d w
/-- **new String(chars) AT A CALL, THE ARRAYS AS LISTS**: the char[] at b holds cs, not empty, no char above 255 -/
theorem backArv {p : Program} {l : Launch} {e : Env} {R : Room} {s : State} {args : Array Value} {below : List Frame} {len W : Nat} {Z : State} {a0 : Array Value} {h : Heap} (hZ : Z.Warmed39 s.vm) (hw : ∀ d ∈ words, d.before a0 Z = true) {kI : Nat} (wi : (Jvm.Cond.instantiable ST kI).before a0 Z = true)
    {x b : Addr} {k : ClassId} {zn z : Int32} {cs : List Int32} {dv v0 c0 : Value} (E : RoadKit.Exa Z h x ST) (V : RoadKit.Fld Z h x ST "value" "[B" v0) (C : RoadKit.Fld Z h x ST "coder" "B" c0) (K : RoadKit.Arv Z h b k .char zn (cs.map Value.int) dv) (S : RoadKit.Sta Z h ST "COMPACT_STRINGS" "Z" (.int z)) (hz : ¬ z = 0)
    (hlen : zn.toNatClampNeg = cs.length) (h0 : 0 < cs.length) (hbig : cs.length ≤ 536870912) (hall : ∀ c ∈ cs, ¬ 255 < c) (hfr : 4 ≤ R.frames) (hlo : W + 65 ≤ R.locals) :
    Back l R p e below s args New1.yN len W (fun P a => a = #[.ref x, .ref b] ∧ P.U.heap = h ∧ P.cells + 1 ≤ R.cells ∧ P.slots + cs.length ≤ R.slots)
      (fun P _ v B => ∃ L, QA Z x zn cs h v B.U.heap L ∧ B.locs = P.locs ++ L ∧ B.cells = P.cells + 1 ∧ B.slots = P.slots + cs.length) := by
  obtain ⟨A, K1, K2, K3, K4, K5, K6⟩ := K
  have e : A.slots.size = cs.length := K3.trans hlen
  have hat : ∀ (i : Nat) (hi : i < cs.length), A.slots[i]? = some (.int cs[i]) := fun i hi => by rw [K5 i (by omega)]; simp [List.getD_eq_getElem?_getD, hi]
  have hcv : ∀ (i : Nat) (hi : i < cs.length), cv A i = cs[i] := fun i hi => by unfold cv; rw [hat i hi]
  have hty : Typed .char A := fun i v hv => by
    have hi : i < A.slots.size := (Array.getElem?_eq_some_iff.mp hv).1
    have q := K5 i hi
    rw [hv] at q
    rw [Option.some.inj q]
    exact K6 i hi
  refine Back.mono (back hZ hw wi E V C K1 hty S hz (by omega) (by omega) (fun i hi => by rw [hcv i (by omega)]; exact hall _ (List.getElem_mem _)) hfr hlo) (fun P a hp => ⟨hp.1, hp.2.1, hp.2.2.1, by rw [e]; exact hp.2.2.2⟩) (fun P a v B hp hq => ?_)
  obtain ⟨L, ⟨q1, q2, q3, q4, q5, q6, q7, ⟨V', v1, v2, v3, v4, v5⟩, q9⟩, hl, hc, hs⟩ := hq
  refine ⟨L, ⟨q1, q2, q3, q4, q5, q6, q7, ⟨V'.cls, v3, V', v1, rfl, by rw [v4, e, hlen], K4, fun i hi => ?_, fun i hi => ?_⟩, q9⟩, hl, hc, by rw [hs, e]⟩
  · have hi' : i < cs.length := by omega
    rw [v5 i (by omega), hcv i hi']; simp [List.getD_eq_getElem?_getD, hi']
  · have hi' : i < cs.length := by omega
    simp only [List.getD_eq_getElem?_getD, List.getElem?_map, List.getElem?_eq_getElem hi', Option.map_some, Option.getD_some]
    exact fits_lo8 _
end StrChars.Road
namespace StrChars.Road
open Jvm Sem ClassFile Op Lib Jvm.Stand Jvm.Free Jvm.Free.XT
/-- WHAT COMES BACK, in the writer's own shape -/
def QV (Z : State) (x : Addr) (N : Int32) (bs : List Int32) (h : Heap) (n0 : Nat) (v : Option Value) (h' : Heap) (L : List Loc) : Prop := v = none ∧ RoadKit.Fr n0 L ∧ RoadKit.Keep h h' [x] ∧ RoadKit.Exa Z h' x ST ∧ RoadKit.Fld Z h' x ST "coder" "B" (.int 0) ∧
  ∃ (t : Addr) (kb : ClassId), n0 ≤ t ∧ h.size ≤ t ∧ ¬ t = x ∧ RoadKit.Fld Z h' x ST "value" "[B" (.ref t) ∧ RoadKit.Arv Z h' t kb .byte N (bs.map Value.int) (.int 0)
/-- **new String(chars) AT A CALL, FOR THE WRITER**: a char[] of n known ints, each 0 to 255 -/
theorem backV {p : Program} {l : Launch} {e : Env} {R : Room} {s : State} {args : Array Value} {below : List Frame} {len W : Nat} {Z : State} {a0 : Array Value} {h : Heap} (hZ : Z.Warmed39 s.vm) (hw : ∀ d ∈ words, d.before a0 Z = true) {kI : Nat} (wi : (Jvm.Cond.instantiable ST kI).before a0 Z = true)
    {x b : Addr} {kC : ClassId} {cs bs : List Int32} {d v0 c0 : Value} {z N : Int32} {n n0 : Nat} (hx0 : n0 ≤ x) (hh0 : n0 ≤ h.size) (E : RoadKit.Exa Z h x ST) (V : RoadKit.Fld Z h x ST "value" "[B" v0) (C : RoadKit.Fld Z h x ST "coder" "B" c0) (K : RoadKit.Arv Z h b kC .char N (cs.map Value.int) d) (S : RoadKit.Sta Z h ST "COMPACT_STRINGS" "Z" (.int z)) (hz : ¬ z = 0)
    (hn : cs.length = n) (hN : N = Int32.ofNat n) (l0 : 0 < n) (l2 : n ≤ 4000) (hp : ∀ c ∈ cs, ¬ c < 0 ∧ ¬ (255 : Int32) < c) (hb : bs = cs.map (fun c => c.toInt8.toInt32)) (hfr : 4 ≤ R.frames) (hlo : W + 65 ≤ R.locals) :
    Back l R p e below s args (⟨"java/lang/String", "<init>", "([C)V"⟩ : MethodName) len W (fun P a => a = #[.ref x, .ref b] ∧ P.U.heap = h ∧ P.cells + 1 ≤ R.cells ∧ P.slots + n ≤ R.slots)
      (fun P _ v B => ∃ L, QV Z x N bs h n0 v B.U.heap L ∧ B.locs = P.locs ++ L ∧ B.cells = P.cells + 1 ∧ B.slots = P.slots + n) := by
  subst hn hN hb
  refine Back.mono (backArv hZ hw wi E V C K S hz (n32 (by omega)) l0 (by omega) (fun c hc => (hp c hc).2) hfr hlo) (fun P a hp => hp) (fun P a v B hp hq => ?_)
  obtain ⟨L, ⟨q1, q2, q3, q4, q5, q6, q7, ⟨kb, v1, v2⟩, q9⟩, hl, hc, hs⟩ := hq
  exact ⟨L, ⟨q1, fun y hy => by rw [q2 y hy]; exact hx0, q3, q5, q7, h.size, kb, hh0, Nat.le_refl _, Nat.ne_of_gt E.lt, q6, by rw [List.map_map]; exact v2⟩, hl, hc, hs⟩
end StrChars.Road
namespace StrChars
open Jvm Sem ClassFile Op Lib Jvm.Stand Jvm.Free.XT Jvm.Free.ALB Jvm.Free.JM Jvm.Free
open Jvm.Lib.Cold (StaticIs)
def hi8 (x : Int32) : Int32 := lo8 (x >>> ((8 : Int32) &&& 31))
/-- what StringUTF16.getChar makes of two bytes -/
def pairCh (u v : Int32) : Int32 := (((u &&& 255) <<< ((0 : Int32) &&& 31)) ||| ((v &&& 255) <<< ((8 : Int32) &&& 31))).toUInt32.toUInt16.toUInt32.toInt32
theorem lo8_and (x : Int32) : (lo8 x &&& 255).toBitVec.toNat = x.toBitVec.toNat % 256 := by
  have h : (lo8 x).toBitVec = (x.toBitVec.signExtend 8).signExtend 32 := by rw [lo8, Int8.toBitVec_toInt32, Int32.toBitVec_toInt8]
  rw [Int32.toBitVec_and, BitVec.toNat_and, h]
  have e : ((x.toBitVec.signExtend 8).signExtend 32).toNat % 256 = x.toBitVec.toNat % 256 := by
    rw [BitVec.toNat_signExtend]
    have hlt := x.toBitVec.isLt
    simp only [BitVec.toNat_setWidth, BitVec.toNat_signExtend]
    split <;> split <;> omega
  rw [← e]
  exact Nat.and_two_pow_sub_one_eq_mod _ 8
theorem pair_says {c : Int32} (h0 : ¬ c < 0) (h1 : ¬ 65535 < c) : pairCh (lo8 c) (hi8 c) = c := by
  rw [Int32.lt_iff_toInt_lt] at h0 h1
  have e0 : (0 : Int32).toInt = 0 := rfl
  have e1 : (65535 : Int32).toInt = 65535 := rfl
  have hc : c.toInt = c.toBitVec.toNat := by
    have := c.toBitVec.isLt
    have e : c.toInt = c.toBitVec.toInt := rfl
    rw [e] at h0 h1
    rw [e]
    rw [BitVec.toInt_eq_toNat_cond] at h0 h1 ⊢
    split at h0 <;> split <;> omega
  have hn : c.toBitVec.toNat < 65536 := by omega
  have a1 := lo8_and c
  have a2 : (hi8 c &&& 255).toBitVec.toNat = c.toBitVec.toNat / 256 := by
    rw [hi8, lo8_and]
    have e : ((8 : Int32) &&& 31) = 8 := by decide
    rw [e, Int32.toBitVec_shiftRight]
    have e2 : ((8 : Int32).toBitVec.smod 32) = 8#32 := by decide
    rw [e2, BitVec.sshiftRight_eq', BitVec.toNat_sshiftRight_of_msb_false (by rw [BitVec.msb_eq_false_iff_two_mul_lt]; omega)]
    show c.toBitVec.toNat >>> 8 % 256 = _
    rw [Nat.shiftRight_eq_div_pow]
    omega
  unfold pairCh
  apply Int32.toBitVec_inj.mp
  apply BitVec.eq_of_toNat_eq
  have f0 : ((0 : Int32) &&& 31) = 0 := by decide
  have f8 : ((8 : Int32) &&& 31) = 8 := by decide
  rw [f0, f8]
  have g : (((lo8 c &&& 255) <<< (0 : Int32)) ||| ((hi8 c &&& 255) <<< (8 : Int32))).toBitVec.toNat = c.toBitVec.toNat := by
    rw [Int32.toBitVec_or, Int32.toBitVec_shiftLeft, Int32.toBitVec_shiftLeft]
    have s0 : ((0 : Int32).toBitVec.smod 32) = 0#32 := by decide
    have s8 : ((8 : Int32).toBitVec.smod 32) = 8#32 := by decide
    rw [s0, s8, BitVec.toNat_or]
    simp only [BitVec.shiftLeft_eq', BitVec.toNat_shiftLeft, a1, a2]
    show (c.toBitVec.toNat % 256) <<< 0 % 2 ^ 32 ||| (c.toBitVec.toNat / 256) <<< 8 % 2 ^ 32 = _
    rw [Nat.shiftLeft_zero, Nat.mod_eq_of_lt (show c.toBitVec.toNat % 256 < 2 ^ 32 by omega), Nat.mod_eq_of_lt (show (c.toBitVec.toNat / 256) <<< 8 < 2 ^ 32 by rw [Nat.shiftLeft_eq]; omega), Nat.or_comm, ← Nat.shiftLeft_add_eq_or_of_lt (by omega), Nat.shiftLeft_eq]
    omega
  show BitVec.toNat (((((lo8 c &&& 255) <<< (0 : Int32)) ||| ((hi8 c &&& 255) <<< (8 : Int32))).toBitVec.setWidth 16).setWidth 32) = _
  rw [BitVec.toNat_setWidth, BitVec.toNat_setWidth, g]
  omega
end StrChars
namespace StrChars
open Jvm Sem ClassFile Op Lib Jvm.Stand Jvm.Free.XT Jvm.Free.ALB Jvm.Free.JM Jvm.Free
open Jvm.Lib.Cold (StaticIs)
/-- the array's cell V codes the n chars f 0 .. f (n - 1) by the coder cd, as the JDK does: coder 1 just where some char is above 255 -/
def Cod (cd : Int32) (n : Nat) (f : Nat → Int32) (V : Cell) : Prop := (cd = 0 ∧ V.slots.size = n ∧ ∀ j, j < n → V.slots[j]? = some (.int (lo8 (f j))) ∧ ¬ 255 < f j) ∨ (cd = 1 ∧ V.slots.size = 2 * n ∧ (∀ j, j < n → V.slots[2 * j]? = some (.int (lo8 (f j))) ∧ V.slots[2 * j + 1]? = some (.int (hi8 (f j)))) ∧ ∃ j, j < n ∧ 255 < f j)
/-- **x is a String of the n chars f 0 .. f (n - 1)**, Latin-1 or UTF-16; its array at t has the cell V -/
def Txt (x t : Addr) (V : Cell) (cd : Int32) (n : Nat) (f : Nat → Int32) (U : State) : Prop := Exact "java/lang/String" x U ∧ Has x "java/lang/String" "value" "[B" (.ref t) U ∧ Has x "java/lang/String" "coder" "B" (.int cd) U ∧ XT.Arr .byte t V U ∧ Cod cd n f V ∧ ∀ j, j < n → ¬ f j < 0 ∧ ¬ 65535 < f j
theorem Txt.mv {x t : Addr} {V : Cell} {cd : Int32} {n : Nat} {f : Nat → Int32} {U U' : State} (h : Txt x t V cd n f U) (hal : U.vm.Alike U'.vm) (hh : U'.heap = U.heap) : Txt x t V cd n f U' := ⟨h.1.mv hal hh, h.2.1.mv hal hh, h.2.2.1.mv hal hh, h.2.2.2.1.mv hal hh, h.2.2.2.2⟩
end StrChars
namespace StrChars.Road
open Jvm Sem ClassFile Op Lib Jvm.Stand Jvm.Free Jvm.Free.XT
open Jvm.Lib.Cold (StaticIs)
theorem consq {a : Array Value} {s : State} {c : Jvm.Cond} {L : List Jvm.Cond} (h0 : c.before a s = true) (h : ∀ w ∈ L, w.before a s = true) : ∀ w ∈ c :: L, w.before a s = true := fun w hw => (List.mem_cons.mp hw).elim (fun e => e ▸ h0) (h w)
/-- the bytes of the chars cs, low before high -/
def wideBytes : List Int32 → List Value
  | [] => []
  | c :: cs => .int (lo8 c) :: .int (hi8 c) :: wideBytes cs
theorem wide_lo (d : Value) : ∀ (cs : List Int32) (j : Nat), j < cs.length → (wideBytes cs).getD (2 * j) d = .int (lo8 (cs.getD j 0))
  | [], j, h => absurd h (Nat.not_lt_zero j)
  | c :: cs, 0, _ => rfl
  | c :: cs, j + 1, h => by
    have q := wide_lo d cs j (by simpa using h)
    rw [show 2 * (j + 1) = 2 * j + 1 + 1 from by omega]
    simpa [wideBytes] using q
theorem wide_hi (d : Value) : ∀ (cs : List Int32) (j : Nat), j < cs.length → (wideBytes cs).getD (2 * j + 1) d = .int (hi8 (cs.getD j 0))
  | [], j, h => absurd h (Nat.not_lt_zero j)
  | c :: cs, 0, _ => rfl
  | c :: cs, j + 1, h => by
    have q := wide_hi d cs j (by simpa using h)
    rw [show 2 * (j + 1) + 1 = 2 * j + 1 + 1 + 1 from by omega]
    simpa [wideBytes] using q
theorem low_at (d : Value) (cs : List Int32) (j : Nat) (h : j < cs.length) : (cs.map fun c => Value.int (lo8 c)).getD j d = .int (lo8 (cs.getD j 0)) := by
  simp [List.getD_eq_getElem?_getD, h]
/-- an array of N2 bytes vs codes the chars cs by the coder cd -/
def CodA (cs : List Int32) (cd N2 : Int32) (vs : List Value) : Prop := (cd = 0 ∧ N2 = Int32.ofNat cs.length ∧ vs = (cs.map fun c => Value.int (lo8 c)) ∧ ∀ c ∈ cs, ¬ 255 < c) ∨ (cd = 1 ∧ N2 = Int32.ofNat (2 * cs.length) ∧ vs = wideBytes cs ∧ ∃ c ∈ cs, 255 < c)
theorem CodA.cod {cs : List Int32} {cd N2 : Int32} {vs : List Value} {V : Cell} (h : CodA cs cd N2 vs) (hn : 2 * cs.length < 2 ^ 31) (hs : V.slots.size = N2.toNatClampNeg) (hv : RoadKit.Has V vs (.int 0)) : Cod cd cs.length (fun j => cs.getD j 0) V := by
  rcases h with ⟨rfl, rfl, rfl, h⟩ | ⟨rfl, rfl, rfl, c, hc, hw⟩
  · rw [n32 (by omega)] at hs
    exact Or.inl ⟨rfl, hs, fun j hj => ⟨by rw [hv j (by omega), low_at _ _ _ hj], by
      have e : cs.getD j 0 = cs[j] := by simp [List.getD_eq_getElem?_getD, hj]
      show ¬ 255 < cs.getD j 0
      rw [e]; exact h _ (List.getElem_mem _)⟩⟩
  · rw [n32 (by omega)] at hs
    obtain ⟨j, hj, rfl⟩ := List.getElem_of_mem hc
    exact Or.inr ⟨rfl, hs, fun j hj => ⟨by rw [hv _ (by omega), wide_lo _ _ _ hj], by rw [hv _ (by omega), wide_hi _ _ _ hj]⟩, j, hj, by
      have e : cs.getD j 0 = cs[j] := by simp [List.getD_eq_getElem?_getD, hj]
      show 255 < cs.getD j 0
      rw [e]; exact hw⟩
/-- an object of exactly java/lang/String, its two fields found: as the laws ask it -/
theorem strObj {Z U : State} {a0 : Array Value} {kI : Nat} (wi : (Jvm.Cond.instantiable ST kI).before a0 Z = true) (al : Z.vm.Alike U.vm) {x : Addr} {v0 c0 : Value} (E : RoadKit.Exa Z U.heap x ST) (V : RoadKit.Fld Z U.heap x ST "value" "[B" v0) (C : RoadKit.Fld Z U.heap x ST "coder" "B" c0) :
    ∃ (D : Cell) (fV fC : Field), Blank ST x D U ∧ Found ST "value" "[B" fV U ∧ Found ST "coder" "B" fC U ∧ D.slots[fV.slot]? = some v0 ∧ D.slots[fC.slot]? = some c0 ∧ RoadKit.slotOf Z ST "value" "[B" = fV.slot ∧ RoadKit.slotOf Z ST "coder" "B" = fC.slot := by
  obtain ⟨D, cfV, kV, iV, fV, hD, gV, stV, knV, obV, asV, slV⟩ := V
  obtain ⟨D', cfC, kC, iC, fC, hD', gC, stC, -, -, asC, slC⟩ := C
  cases hD.symm.trans hD'
  obtain ⟨D2, kD, e1, e2, e3, e4, e5⟩ := E
  cases hD.symm.trans e1
  obtain ⟨c2, k2, i1, i2, i3, -⟩ := Cond.instantiable_spec wi
  cases e2.symm.trans i1
  cases e3.symm.trans i2
  obtain ⟨kU, u1, u2⟩ := al.2.2 _ _ e3
  exact ⟨D, fV, fC, ⟨hD, ⟨knV, fun q hq => by rw [hq] at obV; cases obV⟩, by rw [al.findClass]; exact e2, kU, u1, by rw [u2]; exact i3, by rw [u2]; exact e5 i3⟩, ⟨SBG.found_only al ⟨cfV, kV, iV, gV⟩, stV⟩, ⟨SBG.found_only al ⟨cfC, kC, iC, gC⟩, stC⟩, slV, slC, by simp [RoadKit.slotOf, gV], by simp [RoadKit.slotOf, gC]⟩
theorem sta_is {Z U : State} (al : Z.vm.Alike U.vm) {C n d : String} {v : Value} (S : RoadKit.Sta Z U.heap C n d v) : StaticIs U C n d v := by
  obtain ⟨cfS, iS, kS, fS, st, cS, t1, t2, t3, t4, t5, t6, t7⟩ := S
  exact StaticIs.there (s := { Z with heap := U.heap }) ⟨cfS, iS, kS, fS, st, cS, t1, t2, t3, t4, t5, (fun q => by rw [q] at t6; cases t6), t7⟩ al rfl
end StrChars.Road
namespace StrChars
open Jvm Sem ClassFile Op Lib Jvm.Stand Jvm.Free.XT Jvm.Free.ALB Jvm.Free.JM Jvm.Free
open Jvm.Lib.Cold (StaticIs)
/-- what place i of a byte[]'s cell holds -/
def yv (A : Cell) (i : Nat) : Int32 := match A.slots[i]? with | some (.int x) => x | _ => 0
theorem yv_get {a : Addr} {A : Cell} {U : State} (h : XT.Arr .byte a A U) (ht : Typed .byte A) {i : Nat} (hi : i < A.slots.size) : A.slots[i]? = some (.int (yv A i)) := by
  have e := Array.getElem?_eq_getElem hi
  have f := ht i _ e
  unfold yv; rw [e]
  generalize A.slots[i] = v at f
  cases v <;> simp [fits] at f ⊢
/-- the two arrays are equal, place for place -/
def EqC (A B : Cell) : Prop := A.slots.size = B.slots.size ∧ ∀ i, i < A.slots.size → yv A i = yv B i
/-- a boolean that says whether p -/
def Says01 (q : Prop) (r : Option Value) (s u : State) : Prop := ∃ v : Int32, r = some (.int v) ∧ u.heap = s.heap ∧ ((v = 1 ∧ q) ∨ (v = 0 ∧ ¬ q))
theorem Says01.mv {q : Prop} : ∀ r (U U' V V' : State), U'.heap = U.heap → V.vm.Alike V'.vm → V'.heap = V.heap → Says01 q r U V → Says01 q r U' V' :=
  fun r U U' V V' h1 _ h2 ⟨v, a, b, c⟩ => ⟨v, a, by rw [h1, h2]; exact b, c⟩
namespace LEq
def yN : MethodName := ⟨"java/lang/StringLatin1", "equals", "([B[B)Z"⟩
abbrev yB : ByteArray := jdk_43_method_13_code
theorem d0 : decode yB 0 = .ok (.aload_n 0, 1) := by decide +kernel
theorem d1 : decode yB 1 = .ok (.arraylength, 1) := by decide +kernel
theorem d2 : decode yB 2 = .ok (.aload_n 1, 1) := by decide +kernel
theorem d3 : decode yB 3 = .ok (.arraylength, 1) := by decide +kernel
theorem d4 : decode yB 4 = .ok (.if_icmp (.ne) 30, 3) := by decide +kernel
theorem d7 : decode yB 7 = .ok (.iconst 0, 1) := by decide +kernel
theorem d8 : decode yB 8 = .ok (.istore_n 2, 1) := by decide +kernel
theorem d9 : decode yB 9 = .ok (.iload_n 2, 1) := by decide +kernel
theorem d10 : decode yB 10 = .ok (.aload_n 0, 1) := by decide +kernel
theorem d11 : decode yB 11 = .ok (.arraylength, 1) := by decide +kernel
theorem d12 : decode yB 12 = .ok (.if_icmp (.ge) 20, 3) := by decide +kernel
theorem d15 : decode yB 15 = .ok (.aload_n 0, 1) := by decide +kernel
theorem d16 : decode yB 16 = .ok (.iload_n 2, 1) := by decide +kernel
theorem d17 : decode yB 17 = .ok (.baload, 1) := by decide +kernel
theorem d18 : decode yB 18 = .ok (.aload_n 1, 1) := by decide +kernel
theorem d19 : decode yB 19 = .ok (.iload_n 2, 1) := by decide +kernel
theorem d20 : decode yB 20 = .ok (.baload, 1) := by decide +kernel
theorem d21 : decode yB 21 = .ok (.if_icmp (.eq) 5, 3) := by decide +kernel
theorem d24 : decode yB 24 = .ok (.iconst 0, 1) := by decide +kernel
theorem d25 : decode yB 25 = .ok (.ireturn, 1) := by decide +kernel
theorem d26 : decode yB 26 = .ok (.iinc 2 1, 3) := by decide +kernel
theorem d29 : decode yB 29 = .ok (.goto (-20), 3) := by decide +kernel
theorem d32 : decode yB 32 = .ok (.iconst 1, 1) := by decide +kernel
theorem d33 : decode yB 33 = .ok (.ireturn, 1) := by decide +kernel
theorem d34 : decode yB 34 = .ok (.iconst 0, 1) := by decide +kernel
theorem d35 : decode yB 35 = .ok (.ireturn, 1) := by decide +kernel
def site : List Cond := []
def tab : Cond := tabOf yN yB 3 (some .boolean) site
def P (a : Addr) (A : Cell) (b : Addr) (B : Cell) (args : Array Value) (s : State) : Prop := args = #[.ref a, .ref b] ∧ XT.Arr .byte a A s ∧ Typed .byte A ∧ XT.Arr .byte b B s ∧ Typed .byte B
/-- whether two byte[] are equal, place for place -/
theorem law (l : Launch) (a : Addr) (A : Cell) (b : Addr) (B : Cell) : Law l yN 2 2 0 0 yB 3 (some .boolean) site (P a A b B) (Says01 (EqC A B)) [] 0 0 := by
  refine Law.of_walk (plainFor_of_name (by decide +kernel)) (by decide +kernel) (by decide +kernel) (by decide) (fun _ _ h => by rw [h.1]; rfl) (fun _ U U' hal hh h => ⟨h.1, h.2.1.mv hal hh, h.2.2.1, h.2.2.2.1.mv hal hh, h.2.2.2.2⟩) (fun r U U' V V' h1 hal h2 h => Says01.mv r U U' V V' h1 hal h2 h) ?_
  intro p e s m args below meth c s₁ X0 hexec hbytes hml hret hlk hnm hown hh0 W hP
  obtain ⟨rfl, hA, tA, hB, tB⟩ := hP
  have a31 := hA.2.2.2
  have b31 := hB.2.2.2
  have hA0 := hA.mv X0.warmed.alike hh0
  have hB0 := hB.mv X0.warmed.alike hh0
  have c1 : Steps p.tables e below (s₁.setTop (entryFrame m #[.ref a, .ref b] 3)) (s₁.setTop (mkF m 0 #[.val (.ref a), .val (.ref b), .unset] [])) := entry rfl
  have c2 : Steps p.tables e below (s₁.setTop (entryFrame m #[.ref a, .ref b] 3)) (s₁.setTop (mkF m 4 #[.val (.ref a), .val (.ref b), .unset] [.int (Int32.ofNat B.slots.size), .int (Int32.ofNat A.slots.size)])) := c1.trans (by
    refine XS.aloadN X0.here hexec rfl (hb hbytes d0) rfl rfl ?_
    refine X0.alen hexec hA0 rfl rfl (hb hbytes d1) ?_
    refine XS.aloadN X0.here hexec rfl (hb hbytes d2) rfl rfl ?_
    refine X0.alen hexec hB0 rfl rfl (hb hbytes d3) ?_
    exact Steps.refl _)
  by_cases hs : A.slots.size = B.slots.size
  · have c3 : Steps p.tables e below (s₁.setTop (entryFrame m #[.ref a, .ref b] 3)) (s₁.setTop (mkF m 9 #[.val (.ref a), .val (.ref b), .val (.int 0)] [])) := c2.trans (by
      refine XS.icmpNo X0.here hexec rfl (hb hbytes d4) rfl (ii_ne_f (by rw [hs])) ?_
      refine iconstV X0.here hexec rfl 0 (hb hbytes d7) (by decide) ?_
      refine XS.istoreN X0.here hexec rfl (hb hbytes d8) rfl rfl ?_
      exact Steps.refl _)
    have loop : ∀ (r i : Nat), i + r = A.slots.size → (∀ j, j < i → yv A j = yv B j) → Steps p.tables e below (s₁.setTop (entryFrame m #[.ref a, .ref b] 3)) (s₁.setTop (mkF m 9 #[.val (.ref a), .val (.ref b), .val (.int (Int32.ofNat i))] [])) → ∃ (pc : Nat) (Ls : Array Slot) (v : Int32), (pc = 25 ∨ pc = 33) ∧ ((v = 1 ∧ EqC A B) ∨ (v = 0 ∧ ¬ EqC A B)) ∧ Steps p.tables e below (s₁.setTop (entryFrame m #[.ref a, .ref b] 3)) (s₁.setTop (mkF m pc Ls [.int v])) := by
      intro r
      induction r with
      | zero =>
        intro i hi he cl
        exact ⟨33, _, 1, Or.inr rfl, Or.inl ⟨rfl, hs, fun j hj => he j (by omega)⟩, cl.trans (by
          refine XS.iloadN X0.here hexec rfl (hb hbytes d9) rfl ?_
          refine XS.aloadN X0.here hexec rfl (hb hbytes d10) rfl rfl ?_
          refine X0.alen hexec hA0 rfl rfl (hb hbytes d11) ?_
          refine XS.icmpYes X0.here hexec rfl (pc0 := 12) rfl (hb hbytes d12) rfl (ii_ge_t (nlt32 (by omega) (by omega))) (by decide) rfl ?_
          refine iconstV X0.here hexec rfl 1 (hb hbytes d32) (by decide) ?_
          exact Steps.refl _)⟩
      | succ r ih =>
        intro i hi he cl
        have c4 : Steps p.tables e below (s₁.setTop (entryFrame m #[.ref a, .ref b] 3)) (s₁.setTop (mkF m 21 #[.val (.ref a), .val (.ref b), .val (.int (Int32.ofNat i))] [.int (yv B i), .int (yv A i)])) := cl.trans (by
          refine XS.iloadN X0.here hexec rfl (hb hbytes d9) rfl ?_
          refine XS.aloadN X0.here hexec rfl (hb hbytes d10) rfl rfl ?_
          refine X0.alen hexec hA0 rfl rfl (hb hbytes d11) ?_
          refine XS.icmpNo X0.here hexec rfl (hb hbytes d12) rfl (ii_ge_f (lt32 (by omega) (by omega))) ?_
          refine XS.aloadN X0.here hexec rfl (hb hbytes d15) rfl rfl ?_
          refine XS.iloadN X0.here hexec rfl (hb hbytes d16) rfl ?_
          refine X0.aget hexec hA0 rfl (yv_get hA tA (i := i) (by omega)) rfl rfl (hb hbytes d17) ?_
          refine XS.aloadN X0.here hexec rfl (hb hbytes d18) rfl rfl ?_
          refine XS.iloadN X0.here hexec rfl (hb hbytes d19) rfl ?_
          refine X0.aget hexec hB0 rfl (yv_get hB tB (i := i) (by omega)) rfl rfl (hb hbytes d20) ?_
          exact Steps.refl _)
        by_cases hv : yv A i = yv B i
        · have c5 : Steps p.tables e below (s₁.setTop (entryFrame m #[.ref a, .ref b] 3)) (s₁.setTop (mkF m 9 #[.val (.ref a), .val (.ref b), .val (.int (Int32.ofNat i + 1))] [])) := c4.trans (by
            refine XS.icmpYes X0.here hexec rfl (pc0 := 21) rfl (hb hbytes d21) rfl (ii_eq_t hv) (by decide) rfl ?_
            refine iincV X0.here hexec rfl 1 (hb hbytes d26) (by decide) rfl rfl ?_
            refine XS.goto X0.here hexec rfl (pc0 := 29) rfl (hb hbytes d29) (by decide) rfl ?_
            exact Steps.refl _)
          rw [succ32] at c5
          exact ih (i + 1) (by omega) (fun j hj => by
            by_cases e : j = i
            · rw [e]; exact hv
            · exact he j (by omega)) c5
        · exact ⟨25, _, 0, Or.inl rfl, Or.inr ⟨rfl, fun q => hv (q.2 i (by omega))⟩, c4.trans (by
            refine XS.icmpNo X0.here hexec rfl (hb hbytes d21) rfl (ii_eq_f hv) ?_
            refine iconstV X0.here hexec rfl 0 (hb hbytes d24) (by decide) ?_
            exact Steps.refl _)⟩
    obtain ⟨pc, Ls, v, hpc, hv, cz⟩ := loop A.slots.size 0 (by omega) (fun j hj => absurd hj (Nat.not_lt_zero j)) c3
    have nv : narrow .boolean (.int v) = .int v := by rcases hv with ⟨rfl, -⟩ | ⟨rfl, -⟩ <;> rfl
    rcases hpc with rfl | rfl
    · exact ⟨s₁, some (.int v), _, _, _, X0, rfl, rfl, rfl, (fun h => by cases h), ⟨v, rfl, hh0, hv⟩, fun fs hl => cz.trans (X0.ireturnOut hexec hret nv (Or.inr (Or.inl rfl)) (hb hbytes d25) hl)⟩
    · exact ⟨s₁, some (.int v), _, _, _, X0, rfl, rfl, rfl, (fun h => by cases h), ⟨v, rfl, hh0, hv⟩, fun fs hl => cz.trans (X0.ireturnOut hexec hret nv (Or.inr (Or.inl rfl)) (hb hbytes d33) hl)⟩
  · have c3 : Steps p.tables e below (s₁.setTop (entryFrame m #[.ref a, .ref b] 3)) (s₁.setTop (mkF m 35 #[.val (.ref a), .val (.ref b), .unset] [.int 0])) := c2.trans (by
      refine XS.icmpYes X0.here hexec rfl (pc0 := 4) rfl (hb hbytes d4) rfl (ii_ne_t (ne32 a31 b31 hs)) (by decide) rfl ?_
      refine iconstV X0.here hexec rfl 0 (hb hbytes d34) (by decide) ?_
      exact Steps.refl _)
    exact ⟨s₁, some (.int 0), _, _, _, X0, rfl, rfl, rfl, (fun h => by cases h), ⟨0, rfl, hh0, Or.inr ⟨rfl, fun q => hs q.1⟩⟩, fun fs hl => c3.trans (X0.ireturnOut hexec hret rfl (Or.inr (Or.inl rfl)) (hb hbytes d35) hl)⟩
end LEq
theorem Cod.ty {cd : Int32} {n : Nat} {f : Nat → Int32} {V : Cell} (h : Cod cd n f V) : Typed .byte V := fun i v hv => by
  have hi : i < V.slots.size := (Array.getElem?_eq_some_iff.mp hv).1
  rcases h with ⟨-, k1, k2⟩ | ⟨-, k1, k2, -⟩
  · rw [(k2 i (by omega)).1] at hv; cases hv; exact fits_lo8 _
  · rcases Nat.mod_two_eq_zero_or_one i with e | e
    · obtain ⟨j, rfl⟩ : ∃ j, i = 2 * j := ⟨i / 2, by omega⟩
      rw [(k2 j (by omega)).1] at hv; cases hv; exact fits_lo8 _
    · obtain ⟨j, rfl⟩ : ∃ j, i = 2 * j + 1 := ⟨i / 2, by omega⟩
      rw [(k2 j (by omega)).2] at hv; cases hv; exact fits_lo8 _
/-- the same text -/
def SameT (n : Nat) (f : Nat → Int32) (k : Nat) (g : Nat → Int32) : Prop := n = k ∧ ∀ j, j < n → f j = g j
theorem lo8_inj {x y : Int32} (h0 : ¬ x < 0) (h1 : ¬ 255 < x) (k0 : ¬ y < 0) (k1 : ¬ 255 < y) (h : lo8 x = lo8 y) : x = y := by
  rw [← lo8_mask h0 h1, ← lo8_mask k0 k1, h]
/-- arrays coded by one coder are equal just where the texts are -/
theorem Cod.eqv {cd : Int32} {n k : Nat} {f g : Nat → Int32} {V V' : Cell} (h : Cod cd n f V) (h' : Cod cd k g V') (hf : ∀ j, j < n → ¬ f j < 0 ∧ ¬ 65535 < f j) (hg : ∀ j, j < k → ¬ g j < 0 ∧ ¬ 65535 < g j) : EqC V V' ↔ SameT n f k g := by
  have yvv : ∀ {W : Cell} {i : Nat} {x : Int32}, W.slots[i]? = some (.int x) → yv W i = x := fun q => by unfold yv; rw [q]
  rcases h with ⟨rfl, k1, k2⟩ | ⟨rfl, k1, k2, -⟩
  · rcases h' with ⟨-, m1, m2⟩ | ⟨e, -⟩
    · constructor
      · rintro ⟨e1, e2⟩
        refine ⟨by omega, fun j hj => ?_⟩
        have q := e2 j (by omega)
        rw [yvv (k2 j hj).1, yvv (m2 j (by omega)).1] at q
        exact lo8_inj (hf j hj).1 (k2 j hj).2 (hg j (by omega)).1 (m2 j (by omega)).2 q
      · rintro ⟨rfl, e2⟩
        refine ⟨by omega, fun j hj => ?_⟩
        rw [yvv (k2 j (by omega)).1, yvv (m2 j (by omega)).1, e2 j (by omega)]
    · exact absurd e (by decide)
  · rcases h' with ⟨e, -⟩ | ⟨-, m1, m2, -⟩
    · exact absurd e (by decide)
    · constructor
      · rintro ⟨e1, e2⟩
        refine ⟨by omega, fun j hj => ?_⟩
        have q1 := e2 (2 * j) (by omega)
        have q2 := e2 (2 * j + 1) (by omega)
        rw [yvv (k2 j hj).1, yvv (m2 j (by omega)).1] at q1
        rw [yvv (k2 j hj).2, yvv (m2 j (by omega)).2] at q2
        rw [← pair_says (hf j hj).1 (hf j hj).2, ← pair_says (hg j (by omega)).1 (hg j (by omega)).2, q1, q2]
      · rintro ⟨rfl, e2⟩
        refine ⟨by omega, fun i hi => ?_⟩
        rcases Nat.mod_two_eq_zero_or_one i with e | e
        · obtain ⟨j, rfl⟩ : ∃ j, i = 2 * j := ⟨i / 2, by omega⟩
          rw [yvv (k2 j (by omega)).1, yvv (m2 j (by omega)).1, e2 j (by omega)]
        · obtain ⟨j, rfl⟩ : ∃ j, i = 2 * j + 1 := ⟨i / 2, by omega⟩
          rw [yvv (k2 j (by omega)).2, yvv (m2 j (by omega)).2, e2 j (by omega)]
/-- two codings differ: so do the texts -/
theorem Cod.dif {cd cd' : Int32} {n k : Nat} {f g : Nat → Int32} {V V' : Cell} (h : Cod cd n f V) (h' : Cod cd' k g V') (hne : ¬ cd = cd') : ¬ SameT n f k g := by
  rintro ⟨rfl, e⟩
  rcases h with ⟨rfl, -, k2⟩ | ⟨rfl, -, -, j, hj, hw⟩
  · rcases h' with ⟨rfl, -⟩ | ⟨-, -, -, j, hj, hw⟩
    · exact hne rfl
    · exact (k2 j hj).2 (by rw [e j hj]; exact hw)
  · rcases h' with ⟨-, -, m2⟩ | ⟨rfl, -⟩
    · exact (m2 j hj).2 (by rw [← e j hj]; exact hw)
    · exact hne rfl
/-- an object of exactly C is an instance of C -/
theorem cinst {p : Program} {l : Launch} {e : Env} {R : Room} {s : State} {m : MethodId} {args : Array Value} {below : List Frame} {meth : Method} {c : Code} {T : State} {locs : List Loc} {cells slots : Nat} (X : Stand p l e R s m args below meth c T locs cells slots) (hexec : p.tables.exec = Jvm.exec) {own C : String} {index : Nat} (hown : s.vm.findClass own = some m.cls) (hlink : (Cond.classLink own index C).before args s = true) {a : Addr} (hE : Exact C a T)
    {g : JFrame} (hg : g.method = m) {rest : List Value} (hstack : g.stack = .ref a :: rest) (hdg : decode c.code g.pc = .ok (.instanceof index, 3)) :
    ∃ T', Stand p l e R s m args below meth c T' locs cells slots ∧ T'.heap = T.heap ∧ ∀ target, Steps p.tables e below (T'.setTop { g with pc := g.pc + 3, stack := .int 1 :: rest }) target → Steps p.tables e below (T.setTop g) target := by
  obtain ⟨cB, h1, D, h2, h3, h4⟩ := hE
  have h1' : s.vm.findClass C = some cB := by rw [← X.warmed.alike.findClass]; exact h1
  obtain ⟨vm', X', st⟩ := X.instanceofYes hexec hown hlink h2 h4 h1' (by rw [h3]; exact Jvm.Free.SB.assignable_self _ _) hg hstack hdg
  exact ⟨_, X', rfl, st⟩
theorem cself {p : Program} {l : Launch} {e : Env} {R : Room} {s : State} {m : MethodId} {args : Array Value} {below : List Frame} {meth : Method} {c : Code} {T : State} {locs : List Loc} {cells slots : Nat} (X : Stand p l e R s m args below meth c T locs cells slots) (hexec : p.tables.exec = Jvm.exec) {own C : String} {index : Nat} (hown : s.vm.findClass own = some m.cls) (hlink : (Cond.classLink own index C).before args s = true) {a : Addr} (hE : Exact C a T)
    {g : JFrame} (hg : g.method = m) {rest : List Value} (hstack : g.stack = .ref a :: rest) (hdg : decode c.code g.pc = .ok (.checkcast index, 3)) :
    ∃ T', Stand p l e R s m args below meth c T' locs cells slots ∧ T'.heap = T.heap ∧ ∀ target, Steps p.tables e below (T'.setTop { g with pc := g.pc + 3, stack := .ref a :: rest }) target → Steps p.tables e below (T.setTop g) target := by
  obtain ⟨cB, h1, D, h2, h3, h4⟩ := hE
  have h1' : s.vm.findClass C = some cB := by rw [← X.warmed.alike.findClass]; exact h1
  obtain ⟨vm', X', st⟩ := X.checkcastYes hexec hown hlink h2 h4 h1' (by rw [h3]; exact Jvm.Free.SB.assignable_self _ _) hg hstack hdg
  exact ⟨_, X', rfl, fun t h => st t (by rw [← hstack] at h; exact h)⟩
namespace SEq
def yN : MethodName := ⟨"java/lang/String", "equals", "(Ljava/lang/Object;)Z"⟩
abbrev yB : ByteArray := jdk_42_method_66_code
theorem d0 : decode yB 0 = .ok (.aload_n 0, 1) := by decide +kernel
theorem d1 : decode yB 1 = .ok (.aload_n 1, 1) := by decide +kernel
theorem d2 : decode yB 2 = .ok (.if_acmp (.ne) 5, 3) := by decide +kernel
theorem d5 : decode yB 5 = .ok (.iconst 1, 1) := by decide +kernel
theorem d6 : decode yB 6 = .ok (.ireturn, 1) := by decide +kernel
theorem d7 : decode yB 7 = .ok (.aload_n 1, 1) := by decide +kernel
theorem d8 : decode yB 8 = .ok (.instanceof 10, 3) := by decide +kernel
theorem d11 : decode yB 11 = .ok (.ifCond (.eq) 43, 3) := by decide +kernel
theorem d14 : decode yB 14 = .ok (.aload_n 1, 1) := by decide +kernel
theorem d15 : decode yB 15 = .ok (.checkcast 10, 3) := by decide +kernel
theorem d18 : decode yB 18 = .ok (.astore_n 2, 1) := by decide +kernel
theorem d19 : decode yB 19 = .ok (.getstatic 38, 3) := by decide +kernel
theorem d22 : decode yB 22 = .ok (.ifCond (.eq) 14, 3) := by decide +kernel
theorem d25 : decode yB 25 = .ok (.aload_n 0, 1) := by decide +kernel
theorem d26 : decode yB 26 = .ok (.getfield 15, 3) := by decide +kernel
theorem d29 : decode yB 29 = .ok (.aload_n 2, 1) := by decide +kernel
theorem d30 : decode yB 30 = .ok (.getfield 15, 3) := by decide +kernel
theorem d33 : decode yB 33 = .ok (.if_icmp (.ne) 21, 3) := by decide +kernel
theorem d36 : decode yB 36 = .ok (.aload_n 0, 1) := by decide +kernel
theorem d37 : decode yB 37 = .ok (.getfield 9, 3) := by decide +kernel
theorem d40 : decode yB 40 = .ok (.aload_n 2, 1) := by decide +kernel
theorem d41 : decode yB 41 = .ok (.getfield 9, 3) := by decide +kernel
theorem d44 : decode yB 44 = .ok (.invokestatic 541, 3) := by decide +kernel
theorem d47 : decode yB 47 = .ok (.ifCond (.eq) 7, 3) := by decide +kernel
theorem d50 : decode yB 50 = .ok (.iconst 1, 1) := by decide +kernel
theorem d51 : decode yB 51 = .ok (.goto 4, 3) := by decide +kernel
theorem d54 : decode yB 54 = .ok (.iconst 0, 1) := by decide +kernel
theorem d55 : decode yB 55 = .ok (.ireturn, 1) := by decide +kernel
def site : List Cond := [.classLink "java/lang/String" 10 "java/lang/String", .fieldLink "java/lang/String" 38 "java/lang/String" "COMPACT_STRINGS" "Z", .fieldLink "java/lang/String" 15 "java/lang/String" "coder" "B", .fieldLink "java/lang/String" 9 "java/lang/String" "value" "[B", LEq.tab] ++ staticW "java/lang/String" 541 LEq.yN
def tab : Cond := tabOf yN yB 3 (some .boolean) site
def P (x t : Addr) (V : Cell) (cd : Int32) (n : Nat) (f : Nat → Int32) (y t' : Addr) (V' : Cell) (cd' : Int32) (k : Nat) (g : Nat → Int32) (z : Int32) (args : Array Value) (s : State) : Prop := args = #[.ref x, .ref y] ∧ Txt x t V cd n f s ∧ Txt y t' V' cd' k g s ∧ StaticIs s "java/lang/String" "COMPACT_STRINGS" "Z" (.int z) ∧ ¬ z = 0
/-- equals(Object) of two Strings: whether the texts are the same -/
theorem law (l : Launch) (x t : Addr) (V : Cell) (cd : Int32) (n : Nat) (f : Nat → Int32) (y t' : Addr) (V' : Cell) (cd' : Int32) (k : Nat) (g : Nat → Int32) (z : Int32) : Law l yN 2 1 1 14 yB 3 (some .boolean) site (P x t V cd n f y t' V' cd' k g z) (Says01 (SameT n f k g)) [] 0 0 := by
  refine Law.of_walk (plainFor_of_name (by decide +kernel)) (by decide +kernel) (by decide +kernel) (by decide) (fun _ _ h => by rw [h.1]; rfl) (fun _ U U' hal hh h => ⟨h.1, h.2.1.mv hal hh, h.2.2.1.mv hal hh, h.2.2.2.1.there hal hh, h.2.2.2.2⟩) (fun r U U' V V' h1 hal h2 h => Says01.mv r U U' V V' h1 hal h2 h) ?_
  intro p e s m args below meth c s₁ X0 hexec hbytes hml hret hlk hnm hown hh0 W hP
  obtain ⟨rfl, hx, hy, s1, hz⟩ := hP
  have c1 : Steps p.tables e below (s₁.setTop (entryFrame m #[.ref x, .ref y] 3)) (s₁.setTop (mkF m 2 #[.val (.ref x), .val (.ref y), .unset] [.ref y, .ref x])) := Steps.trans (entry rfl) (by
    show Steps p.tables e below (s₁.setTop (mkF m 0 #[.val (.ref x), .val (.ref y), .unset] [])) _
    refine XS.aloadN X0.here hexec rfl (hb hbytes d0) rfl rfl ?_
    refine XS.aloadN X0.here hexec rfl (hb hbytes d1) rfl rfl ?_
    exact Steps.refl _)
  by_cases hxy : x = y
  · have c2 : Steps p.tables e below (s₁.setTop (entryFrame m #[.ref x, .ref y] 3)) (s₁.setTop (mkF m 6 #[.val (.ref x), .val (.ref y), .unset] [.int 1])) := c1.trans (by
      refine acmpNo X0.here hexec rfl (hb hbytes d2) rfl rfl rfl (by simp [acmp, hxy]) ?_
      refine iconstV X0.here hexec rfl 1 (hb hbytes d5) (by decide) ?_
      exact Steps.refl _)
    subst hxy
    have ec : cd = cd' := by
      obtain ⟨D, fd, a1, a2, a3⟩ := hx.2.2.1
      obtain ⟨D', fd', b1, b2, b3⟩ := hy.2.2.1
      cases a1.symm.trans b1
      obtain ⟨q1, q2, q3, q4⟩ := a2.1
      obtain ⟨r1, r2, r3, r4⟩ := b2.1
      cases q4.symm.trans r4
      cases a3.symm.trans b3; rfl
    have et : t = t' := by
      obtain ⟨D, fd, a1, a2, a3⟩ := hx.2.1
      obtain ⟨D', fd', b1, b2, b3⟩ := hy.2.1
      cases a1.symm.trans b1
      obtain ⟨q1, q2, q3, q4⟩ := a2.1
      obtain ⟨r1, r2, r3, r4⟩ := b2.1
      cases q4.symm.trans r4
      cases a3.symm.trans b3; rfl
    subst ec et
    have ev : V = V' := by cases hx.2.2.2.1.1.symm.trans hy.2.2.2.1.1; rfl
    subst ev
    have hs : SameT n f k g := (Cod.eqv hx.2.2.2.2.1 hy.2.2.2.2.1 hx.2.2.2.2.2 hy.2.2.2.2.2).mp ⟨rfl, fun _ _ => rfl⟩
    exact ⟨s₁, some (.int 1), _, _, _, X0, rfl, rfl, rfl, (fun h => by cases h), ⟨1, rfl, hh0, Or.inl ⟨rfl, hs⟩⟩, fun fs hl => c2.trans (X0.ireturnOut hexec hret rfl (Or.inr (Or.inl rfl)) (hb hbytes d6) hl)⟩
  · have c2 : Steps p.tables e below (s₁.setTop (entryFrame m #[.ref x, .ref y] 3)) (s₁.setTop (mkF m 8 #[.val (.ref x), .val (.ref y), .unset] [.ref y])) := c1.trans (by
      refine acmpYes X0.here hexec rfl (pc0 := 2) rfl (hb hbytes d2) rfl rfl rfl (by simp [acmp, hxy]) (by decide) rfl ?_
      refine XS.aloadN X0.here hexec rfl (hb hbytes d7) rfl rfl ?_
      exact Steps.refl _)
    obtain ⟨T3, X3, q3, st3⟩ := cinst X0 hexec hown (wk W (.classLink "java/lang/String" 10 "java/lang/String")) (hy.mv X0.warmed.alike hh0).1 (g := (mkF m 8 #[.val (.ref x), .val (.ref y), .unset] [.ref y])) rfl (rest := []) rfl (hb hbytes d8)
    have hh3 := q3.trans hh0
    have c4 : Steps p.tables e below (s₁.setTop (entryFrame m #[.ref x, .ref y] 3)) (T3.setTop (mkF m 15 #[.val (.ref x), .val (.ref y), .unset] [.ref y])) := (c2.trans (st3 _ (Steps.refl _))).trans (by
      refine XS.ifNo X3.here hexec rfl (hb hbytes d11) rfl (i0_eq_f (by decide)) ?_
      refine XS.aloadN X3.here hexec rfl (hb hbytes d14) rfl rfl ?_
      exact Steps.refl _)
    obtain ⟨T5, X5, q5, st5⟩ := cself X3 hexec hown (wk W (.classLink "java/lang/String" 10 "java/lang/String")) (hy.mv X3.warmed.alike hh3).1 (g := (mkF m 15 #[.val (.ref x), .val (.ref y), .unset] [.ref y])) rfl (rest := []) rfl (hb hbytes d15)
    have hh5 := q5.trans hh3
    have c6 : Steps p.tables e below (s₁.setTop (entryFrame m #[.ref x, .ref y] 3)) (T5.setTop (mkF m 19 #[.val (.ref x), .val (.ref y), .val (.ref y)] [])) := (c4.trans (st5 _ (Steps.refl _))).trans (by
      refine XS.astoreN X5.here hexec rfl (hb hbytes d18) rfl rfl rfl ?_
      exact Steps.refl _)
    obtain ⟨T7, X7, q7, st7⟩ := X5.sget hexec hown (wk W (.fieldLink "java/lang/String" 38 "java/lang/String" "COMPACT_STRINGS" "Z")) s1 (fun _ _ h => by rw [hh5]; exact h) (g := (mkF m 19 #[.val (.ref x), .val (.ref y), .val (.ref y)] [])) rfl (hb hbytes d19)
    have hh7 := q7.trans hh5
    have c8 : Steps p.tables e below (s₁.setTop (entryFrame m #[.ref x, .ref y] 3)) (T7.setTop (mkF m 26 #[.val (.ref x), .val (.ref y), .val (.ref y)] [.ref x])) := (c6.trans (st7 _ (Steps.refl _))).trans (by
      refine XS.ifNo X7.here hexec rfl (hb hbytes d22) rfl (i0_eq_f hz) ?_
      refine XS.aloadN X7.here hexec rfl (hb hbytes d25) rfl rfl ?_
      exact Steps.refl _)
    obtain ⟨T9, X9, q9, st9⟩ := X7.hget hexec hown (wk W (.fieldLink "java/lang/String" 15 "java/lang/String" "coder" "B")) (hx.mv X7.warmed.alike hh7).2.2.1 (g := (mkF m 26 #[.val (.ref x), .val (.ref y), .val (.ref y)] [.ref x])) rfl (rest := []) rfl (hb hbytes d26)
    have hh9 := q9.trans hh7
    have c10 : Steps p.tables e below (s₁.setTop (entryFrame m #[.ref x, .ref y] 3)) (T9.setTop (mkF m 30 #[.val (.ref x), .val (.ref y), .val (.ref y)] [.ref y, .int cd])) := (c8.trans (st9 _ (Steps.refl _))).trans (by
      refine XS.aloadN X9.here hexec rfl (hb hbytes d29) rfl rfl ?_
      exact Steps.refl _)
    obtain ⟨T11, X11, q11, st11⟩ := X9.hget hexec hown (wk W (.fieldLink "java/lang/String" 15 "java/lang/String" "coder" "B")) (hy.mv X9.warmed.alike hh9).2.2.1 (g := (mkF m 30 #[.val (.ref x), .val (.ref y), .val (.ref y)] [.ref y, .int cd])) rfl (rest := [.int cd]) rfl (hb hbytes d30)
    have hh11 := q11.trans hh9
    have c12 : Steps p.tables e below (s₁.setTop (entryFrame m #[.ref x, .ref y] 3)) (T11.setTop (mkF m 33 #[.val (.ref x), .val (.ref y), .val (.ref y)] [.int cd', .int cd])) := c10.trans (st11 _ (Steps.refl _))
    by_cases hcd : cd = cd'
    · subst hcd
      have c13 : Steps p.tables e below (s₁.setTop (entryFrame m #[.ref x, .ref y] 3)) (T11.setTop (mkF m 37 #[.val (.ref x), .val (.ref y), .val (.ref y)] [.ref x])) := c12.trans (by
        refine XS.icmpNo X11.here hexec rfl (hb hbytes d33) rfl (ii_ne_f rfl) ?_
        refine XS.aloadN X11.here hexec rfl (hb hbytes d36) rfl rfl ?_
        exact Steps.refl _)
      obtain ⟨T14, X14, q14, st14⟩ := X11.hget hexec hown (wk W (.fieldLink "java/lang/String" 9 "java/lang/String" "value" "[B")) (hx.mv X11.warmed.alike hh11).2.1 (g := (mkF m 37 #[.val (.ref x), .val (.ref y), .val (.ref y)] [.ref x])) rfl (rest := []) rfl (hb hbytes d37)
      have hh14 := q14.trans hh11
      have c15 : Steps p.tables e below (s₁.setTop (entryFrame m #[.ref x, .ref y] 3)) (T14.setTop (mkF m 41 #[.val (.ref x), .val (.ref y), .val (.ref y)] [.ref y, .ref t])) := (c13.trans (st14 _ (Steps.refl _))).trans (by
        refine XS.aloadN X14.here hexec rfl (hb hbytes d40) rfl rfl ?_
        exact Steps.refl _)
      obtain ⟨T16, X16, q16, st16⟩ := X14.hget hexec hown (wk W (.fieldLink "java/lang/String" 9 "java/lang/String" "value" "[B")) (hy.mv X14.warmed.alike hh14).2.1 (g := (mkF m 41 #[.val (.ref x), .val (.ref y), .val (.ref y)] [.ref y, .ref t])) rfl (rest := [.ref t]) rfl (hb hbytes d41)
      have hh16 := q16.trans hh14
      have c17 : Steps p.tables e below (s₁.setTop (entryFrame m #[.ref x, .ref y] 3)) (T16.setTop (mkF m 44 #[.val (.ref x), .val (.ref y), .val (.ref y)] [.ref t', .ref t])) := c15.trans (st16 _ (Steps.refl _))
      obtain ⟨v18, T18, X18, E18, g18⟩ := X16.callS hexec (LEq.law l t V t' V') hown (wks W (staticW "java/lang/String" 541 LEq.yN)) (wk W LEq.tab) (W := 0) (Nat.le_of_ble_eq_true rfl) (Nat.le_of_ble_eq_true rfl) (Nat.le_refl _) (Nat.le_refl _) (g := (mkF m 44 #[.val (.ref x), .val (.ref y), .val (.ref y)] [.ref t', .ref t])) rfl (by rw [hml]; rfl) c17 (argsL := [.ref t, .ref t']) (rest := []) rfl rfl (by show 2 * 0 + 0 ≤ _; decide) (hb hbytes d44) (⟨rfl, hx.2.2.2.1.mv X16.warmed.alike hh16, hx.2.2.2.2.1.ty, hy.2.2.2.1.mv X16.warmed.alike hh16, hy.2.2.2.2.1.ty⟩)
      obtain ⟨v, rfl, q18, hv⟩ := E18
      have iff := Cod.eqv hx.2.2.2.2.1 hy.2.2.2.2.1 hx.2.2.2.2.2 hy.2.2.2.2.2
      rcases hv with ⟨rfl, he⟩ | ⟨rfl, he⟩
      · have c19 : Steps p.tables e below (s₁.setTop (entryFrame m #[.ref x, .ref y] 3)) (T18.setTop (mkF m 55 #[.val (.ref x), .val (.ref y), .val (.ref y)] [.int 1])) := Steps.trans g18 (by
          refine XS.ifNo X18.here hexec rfl (hb hbytes d47) rfl (i0_eq_f (by decide)) ?_
          refine iconstV X18.here hexec rfl 1 (hb hbytes d50) (by decide) ?_
          refine XS.goto X18.here hexec rfl (pc0 := 51) rfl (hb hbytes d51) (by decide) rfl ?_
          exact Steps.refl _)
        exact ⟨T18, some (.int 1), _, _, _, X18, rfl, rfl, rfl, (fun h => by cases h), ⟨1, rfl, q18.trans hh16, Or.inl ⟨rfl, iff.mp he⟩⟩, fun fs hl => c19.trans (X18.ireturnOut hexec hret rfl (Or.inr (Or.inl rfl)) (hb hbytes d55) hl)⟩
      · have c19 : Steps p.tables e below (s₁.setTop (entryFrame m #[.ref x, .ref y] 3)) (T18.setTop (mkF m 55 #[.val (.ref x), .val (.ref y), .val (.ref y)] [.int 0])) := Steps.trans g18 (by
          refine XS.ifYes X18.here hexec rfl (pc0 := 47) rfl (hb hbytes d47) rfl (i0_eq_t rfl) (by decide) rfl ?_
          refine iconstV X18.here hexec rfl 0 (hb hbytes d54) (by decide) ?_
          exact Steps.refl _)
        exact ⟨T18, some (.int 0), _, _, _, X18, rfl, rfl, rfl, (fun h => by cases h), ⟨0, rfl, q18.trans hh16, Or.inr ⟨rfl, fun q => he (iff.mpr q)⟩⟩, fun fs hl => c19.trans (X18.ireturnOut hexec hret rfl (Or.inr (Or.inl rfl)) (hb hbytes d55) hl)⟩
    · have c13 : Steps p.tables e below (s₁.setTop (entryFrame m #[.ref x, .ref y] 3)) (T11.setTop (mkF m 55 #[.val (.ref x), .val (.ref y), .val (.ref y)] [.int 0])) := c12.trans (by
        refine XS.icmpYes X11.here hexec rfl (pc0 := 33) rfl (hb hbytes d33) rfl (ii_ne_t hcd) (by decide) rfl ?_
        refine iconstV X11.here hexec rfl 0 (hb hbytes d54) (by decide) ?_
        exact Steps.refl _)
      exact ⟨T11, some (.int 0), _, _, _, X11, rfl, rfl, rfl, (fun h => by cases h), ⟨0, rfl, hh11, Or.inr ⟨rfl, Cod.dif hx.2.2.2.2.1 hy.2.2.2.2.1 hcd⟩⟩, fun fs hl => c13.trans (X11.ireturnOut hexec hret rfl (Or.inr (Or.inl rfl)) (hb hbytes d55) hl)⟩
theorem pays {l : Launch} {R : Room} {p : Program} {e : Env} {below : List Frame} {s : State} {sargs : Array Value} {len W : Nat} (x t : Addr) (V : Cell) (cd : Int32) (n : Nat) (f : Nat → Int32) (y t' : Addr) (V' : Cell) (cd' : Int32) (k : Nat) (g : Nat → Int32) (z : Int32) (htab : tab.before sargs s = true) (hfr : 2 ≤ R.frames) (hlo : W + 28 ≤ R.locals) :
    Back l R p e below s sargs yN len W (fun A₁ a₁ => A₁.cells + 0 ≤ R.cells ∧ A₁.slots + 0 ≤ R.slots ∧ P x t V cd n f y t' V' cd' k g z a₁ A₁.U) (fun A₁ _ v₁ B₁ => Says01 (SameT n f k g) v₁ A₁.U B₁.U ∧ B₁.locs = A₁.locs ++ [] ∧ B₁.cells = A₁.cells + 0 ∧ B₁.slots = A₁.slots + 0) :=
  (law l x t V cd n f y t' V' cd' k g z).pays htab hfr (by omega)
end SEq
end StrChars
namespace StrChars.Road
open Jvm Sem ClassFile Op Lib Jvm.Stand Jvm.Free Jvm.Free.XT
open Jvm.Lib.Cold (StaticIs)
/-- the words of String.equals(Object) -/
abbrev wordsEq : List Jvm.Cond := [.code SEq.yN SEq.yB 3 (some .boolean), .initialized ST, .classLink ST 10 ST, .fieldLink ST 38 ST "COMPACT_STRINGS" "Z", .fieldLink ST 15 ST "coder" "B", .fieldLink ST 9 ST "value" "[B", .methodLink ST 541 LEq.yN, .static LEq.yN, .code LEq.yN LEq.yB 3 (some .boolean), .initialized "java/lang/StringLatin1"]
theorem tabEq_of {a : Array Value} {s : State} (h : ∀ w ∈ wordsEq, w.before a s = true) : SEq.tab.before a s = true := by
  have hl : LEq.tab.before a s = true := unparts (wk h (.code LEq.yN LEq.yB 3 (some .boolean))) (wks h (.initialized LEq.yN.cls :: LEq.site))
  have q := consq hl h
  exact unparts (wk q (.code SEq.yN SEq.yB 3 (some .boolean))) (wks q (.initialized SEq.yN.cls :: SEq.site))
theorem movedEq {Z s : State} {a0 args : Array Value} (hZ : Z.Warmed39 s.vm) (hw : ∀ d ∈ wordsEq, d.before a0 Z = true) : ∀ d ∈ wordsEq, d.before args s = true := fun d hd => by
  have t : ∀ d ∈ wordsEq, (d.onTables && d.keepsFace) = true := by decide +kernel
  exact RoadKit.mv hZ (hw d hd) (t d hd)
/-- the road's facts of a String, as the laws ask it -/
theorem txt_of {Z U : State} {a0 : Array Value} {kI : Nat} (wi : (Jvm.Cond.instantiable ST kI).before a0 Z = true) (al : Z.vm.Alike U.vm) {x t : Addr} {kb : ClassId} {cs : List Int32} {cd N2 : Int32} {vs : List Value} (E : RoadKit.Exa Z U.heap x ST) (V : RoadKit.Fld Z U.heap x ST "value" "[B" (.ref t)) (C : RoadKit.Fld Z U.heap x ST "coder" "B" (.int cd)) (K : RoadKit.Arv Z U.heap t kb .byte N2 vs (.int 0)) (hc : CodA cs cd N2 vs) (hb : ∀ c ∈ cs, ¬ c < 0 ∧ ¬ (65535 : Int32) < c) (l2 : cs.length ≤ 4000) :
    ∃ A, Txt x t A cd cs.length (fun j => cs.getD j 0) U := by
  obtain ⟨A, K1, K2, K3, K4, K5, K6⟩ := K
  have hcod := hc.cod (by omega) K3 K5
  obtain ⟨D, fV, fC, hB, F1, F2, g1, g2, -, -⟩ := strObj wi al E V C
  exact ⟨A, ⟨_, hB.2.2.1, D, hB.1, rfl, by cases q : D.vm <;> first | rfl | exact absurd q (hB.2.1.2 _)⟩, Has.of hB F1 g1, Has.of hB F2 g2, ⟨K1.1, State.isArrayOf_alike al K1.2.1, K1.2.2, by rcases hcod with ⟨-, q, -⟩ | ⟨-, q, -⟩ <;> omega⟩, hcod, fun j hj => by
    have e : cs.getD j 0 = cs[j] := by simp [List.getD_eq_getElem?_getD, hj]
    show ¬ cs.getD j 0 < 0 ∧ ¬ 65535 < cs.getD j 0
    rw [e]; exact hb _ (List.getElem_mem _)⟩
theorem same_list (cs ds : List Int32) : SameT cs.length (fun j => cs.getD j 0) ds.length (fun j => ds.getD j 0) ↔ cs = ds := by
  constructor
  · rintro ⟨e, q⟩
    refine List.ext_getElem e fun j h1 h2 => ?_
    have := q j h1
    simpa [List.getD_eq_getElem?_getD, h1, h2] using this
  · rintro rfl
    exact ⟨rfl, fun _ _ => rfl⟩
/-- **equals(Object) OF TWO SUCH STRINGS**: 1 just where the chars are the same -/
theorem eqW {p : Program} {l : Launch} {e : Env} {R : Room} {s : State} {args : Array Value} {below : List Frame} {len W : Nat} {Z : State} {a0 : Array Value} {h : Heap} (hZ : Z.Warmed39 s.vm) (hw : ∀ d ∈ wordsEq, d.before a0 Z = true) {kI : Nat} (wi : (Jvm.Cond.instantiable ST kI).before a0 Z = true)
    {x t : Addr} {kb : ClassId} {cs : List Int32} {cd N2 : Int32} {vs : List Value} (E : RoadKit.Exa Z h x ST) (V : RoadKit.Fld Z h x ST "value" "[B" (.ref t)) (C : RoadKit.Fld Z h x ST "coder" "B" (.int cd)) (K : RoadKit.Arv Z h t kb .byte N2 vs (.int 0)) (hc : CodA cs cd N2 vs) (hb : ∀ c ∈ cs, ¬ c < 0 ∧ ¬ (65535 : Int32) < c) (l2 : cs.length ≤ 4000)
    {y t' : Addr} {kb' : ClassId} {ds : List Int32} {cd' N2' : Int32} {vs' : List Value} (E' : RoadKit.Exa Z h y ST) (V' : RoadKit.Fld Z h y ST "value" "[B" (.ref t')) (C' : RoadKit.Fld Z h y ST "coder" "B" (.int cd')) (K' : RoadKit.Arv Z h t' kb' .byte N2' vs' (.int 0)) (hc' : CodA ds cd' N2' vs') (hb' : ∀ c ∈ ds, ¬ c < 0 ∧ ¬ (65535 : Int32) < c) (l2' : ds.length ≤ 4000)
    {z : Int32} (S : RoadKit.Sta Z h ST "COMPACT_STRINGS" "Z" (.int z)) (hz : ¬ z = 0) (hfr : 2 ≤ R.frames) (hlo : W + 28 ≤ R.locals) :
    Back l R p e below s args (⟨"java/lang/String", "equals", "(Ljava/lang/Object;)Z"⟩ : MethodName) len W (fun P a => a = #[.ref x, .ref y] ∧ P.U.heap = h ∧ P.cells + 0 ≤ R.cells ∧ P.slots + 0 ≤ R.slots)
      (fun P _ v B => ∃ L, (((v = some (.int 1) ∧ cs = ds) ∨ (v = some (.int 0) ∧ ¬ cs = ds)) ∧ L = [] ∧ B.U.heap = h) ∧ B.locs = P.locs ++ L ∧ B.cells = P.cells + 0 ∧ B.slots = P.slots + 0) := by
  intro m meth c P g ig mk a X hg hsize hdg hW hn hp'
  obtain ⟨rfl, rfl, r1, r2⟩ := hp'
  have al : Z.vm.Alike P.U.vm := hZ.alike.trans X.warmed.alike
  obtain ⟨A, hx⟩ := txt_of wi al E V C K hc hb l2
  obtain ⟨A', hy⟩ := txt_of wi al E' V' C' K' hc' hb' l2'
  obtain ⟨v, B, X', ⟨⟨w, hv, hh, hq⟩, hl, hk, hs⟩, st⟩ := SEq.pays x t A cd cs.length (fun j => cs.getD j 0) y t' A' cd' ds.length (fun j => ds.getD j 0) z (tabEq_of (movedEq hZ hw)) hfr hlo m meth c P g ig mk _ X hg hsize hdg hW hn ⟨r1, r2, rfl, hx, hy, sta_is al S, hz⟩
  refine ⟨v, B, X', ⟨[], ⟨?_, rfl, hh⟩, hl, hk, hs⟩, st⟩
  rcases hq with ⟨rfl, q⟩ | ⟨rfl, q⟩
  · exact Or.inl ⟨hv, (same_list cs ds).mp q⟩
  · exact Or.inr ⟨hv, fun e => q ((same_list cs ds).mpr e)⟩
end StrChars.Road
end Jvm.Pilot.@@N@@
namespace Jvm.Pilot.@@N@@
open Jvm Jvm.ClassFile Sem Op Lib Jvm.Free Jvm.Stand Jvm.LawKit Jvm.RoadKit Bundle Jvm.Pilot.@@N@@.Jvm.D
section Own
variable {p : Program} {l : Launch} {e : Env} {R : Room} {s : State} {m : MethodId} {args : Array Value} {below : List Frame} {meth : Method} {c : Code} {T : State} {locs : List Loc} {cells slots : Nat} {Z : State} {a0 : Array Value} {h h0 : Heap} {Q : Option Value → Heap → List Loc → Prop} {S S' : State}
/-- a body's contract: from the heap h0 with the arguments as' it returns, and Q says of the value, the heap and the places written -/
def own_Met (l : Launch) (Z : State) (y : MethodName) (bytes : ByteArray) (maxL : Nat) (rt : Option FieldType) (rm : Room) (as' : Array Value) (h0 : Heap) (Q : Option Value → Heap → List Loc → Prop) : Prop :=
  ∀ ws : List Jvm.Cond, MetFree l y (head1 (Jvm.Cond.code y bytes maxL rt :: ws) rm) (fun a U => a = as' ∧ Z.Warmed39 U.vm ∧ U.heap = h0) (fun _ _ _ _ _ => True) (fun _ U o U' => ∃ v L, o = .returned v ∧ Q v U'.heap L ∧ FrameEnd U o U' L rm.cells rm.slots)
/-- from S the body comes to its end, and Q holds there -/
def own_Ends (p : Program) (e : Env) (below : List Frame) (s : State) (rm : Room) (Q : Option Value → Heap → List Loc → Prop) (S : State) : Prop :=
  ∃ s₂ o, Steps p.tables e below S s₂ ∧ s₂.status = .running ∧ Ended s₂ below o ∧ ∃ v L, o = .returned v ∧ Q v s₂.heap L ∧ FrameEnd s o s₂ L rm.cells rm.slots
theorem own_of (hs : ∀ t, Steps p.tables e below S' t → Steps p.tables e below S t) (k : own_Ends p e below s R Q S') : own_Ends p e below s R Q S := by
  obtain ⟨s₂, o, h1, h2⟩ := k; exact ⟨s₂, o, hs _ h1, h2⟩
theorem own_tr (hs : Steps p.tables e below S S') (k : own_Ends p e below s R Q S') : own_Ends p e below s R Q S := by
  obtain ⟨s₂, o, h1, h2⟩ := k; exact ⟨s₂, o, hs.trans h1, h2⟩
theorem own_ends_mono {Q' : Option Value → Heap → List Loc → Prop} (hq : ∀ v h L, Q v h L → Q' v h L) (k : own_Ends p e below s R Q S) : own_Ends p e below s R Q' S := by
  obtain ⟨s₂, o, h1, h2, h3, v, L, h4, h5, h6⟩ := k; exact ⟨s₂, o, h1, h2, h3, v, L, h4, hq _ _ _ h5, h6⟩
theorem own_met_mono {y : MethodName} {bytes : ByteArray} {maxL : Nat} {rt : Option FieldType} {rm : Room} {as' : Array Value} {Q' : Option Value → Heap → List Loc → Prop} (k : own_Met l Z y bytes maxL rt rm as' h0 Q) (hq : ∀ v h L, Q v h L → Q' v h L) : own_Met l Z y bytes maxL rt rm as' h0 Q' := by
  intro ws p e ha hc hk s m args below hf happ hP hK
  obtain ⟨n, o, g1, g2, g3, v, L, g4, g5, g6⟩ := k ws p e ha hc hk s m args below hf happ hP hK
  exact ⟨n, o, g1, g2, g3, v, L, g4, hq _ _ _ g5, g6⟩
theorem own_body {y : MethodName} {bytes : ByteArray} {maxL : Nat} {rt : Option FieldType} {rm : Room} {as' : Array Value} (hpl : plainFor y = true)
    (body : ∀ (p : Program) (e : Env) (s : State) (m : MethodId) (below : List Frame) (meth : Method) (c : Code) (T : State), Stand p l e rm s m as' below meth c T [] 0 0 → T.heap = h0 → p.tables.exec = Jvm.exec → c.code = bytes → c.maxLocals = maxL → s.vm.findClass y.cls = some m.cls → meth.name = y.name → meth.sig.returnType = rt → meth.locks = false → Z.Warmed39 s.vm → own_Ends p e below s rm Q (T.setTop (entryFrame m as' maxL))) :
    own_Met l Z y bytes maxL rt rm as' h0 Q := by
  intro ws
  refine MetFree.of_bodySF hpl hisR ?_
  intro p e s m args below meth c s₁ Bd hml0 hP hK
  obtain ⟨rfl, hZ, hh⟩ := hP
  exact body p e s m below meth c s₁ (Stand.of_body Bd) (by rw [← hh, Bd.state]; rfl) Bd.exec Bd.bytes hml0 (findClass_of_methodNamed Bd.named) (name_of_methodNamed Bd.named Bd.method).1 Bd.returns Bd.notSynchronized hZ
theorem own_ret (X : Stand p l e R s m args below meth c T locs cells slots) (hlk : meth.locks = false) {v : Option Value} (hv : meth.sig.returnType = none → v = none) (eT : T.heap = h) (hc : cells ≤ R.cells) (hs : slots ≤ R.slots) (hq : Q v h locs)
    (st : ∀ fs : List Frame, (∀ (f : JFrame) (acts : List Action), f.method = m → f.locked = none → f.entered = [] → (doReturn e (T.setTop f) acts v).1 = T.setFrames fs) → Steps p.tables e below S (T.setFrames fs)) : own_Ends p e below s R Q S := by
  subst eT
  obtain ⟨fs, hr, hrun, hended, hW, hsame⟩ := X.leave hv hlk
  exact ⟨_, _, st fs hr, hrun, hended, _, _, rfl, hq, ⟨_, rfl⟩, hW, hsame.mono hc hs⟩
theorem own_retI (X : Stand p l e R s m args below meth c T locs cells slots) (hx : p.tables.exec = Jvm.exec) (hlk : meth.locks = false) (eT : T.heap = h) {pc : Nat} {Ls : Array Slot} {z : Int32} {rest : List Value} (hret : meth.sig.returnType = some .int) (hd : decode c.code pc = .ok (.ireturn, 1))
    (hc : cells ≤ R.cells) (hs : slots ≤ R.slots) (hq : Q (some (.int z)) h locs) : own_Ends p e below s R Q (T.setTop (mkF m pc Ls (.int z :: rest))) :=
  own_ret X hlk (fun q => by rw [hret] at q; cases q) eT hc hs hq fun fs hr => retOut X hx hret rfl (Or.inl ⟨rfl, Or.inl rfl, z, rfl⟩) hd hr
theorem own_retN (X : Stand p l e R s m args below meth c T locs cells slots) (hx : p.tables.exec = Jvm.exec) (hlk : meth.locks = false) (eT : T.heap = h) {pc : Nat} {Ls : Array Slot} {z z' : Int32} {rest : List Value} {t : FieldType} (hret : meth.sig.returnType = some t) (ht : t = .boolean ∨ t = .byte ∨ t = .char ∨ t = .short) (hz : nar t z = z') (hd : decode c.code pc = .ok (.ireturn, 1))
    (hc : cells ≤ R.cells) (hs : slots ≤ R.slots) (hq : Q (some (.int z')) h locs) : own_Ends p e below s R Q (T.setTop (mkF m pc Ls (.int z :: rest))) := by
  subst hz
  exact own_ret X hlk (fun q => by rw [hret] at q; cases q) eT hc hs hq fun fs hr => retN X hx hret ht hd hr
theorem own_retJ (X : Stand p l e R s m args below meth c T locs cells slots) (hx : p.tables.exec = Jvm.exec) (hlk : meth.locks = false) (eT : T.heap = h) {pc : Nat} {Ls : Array Slot} {z : Int64} {rest : List Value} (hret : meth.sig.returnType = some .long) (hd : decode c.code pc = .ok (.lreturn, 1))
    (hc : cells ≤ R.cells) (hs : slots ≤ R.slots) (hq : Q (some (.long z)) h locs) : own_Ends p e below s R Q (T.setTop (mkF m pc Ls (.long z :: rest))) :=
  own_ret X hlk (fun q => by rw [hret] at q; cases q) eT hc hs hq fun fs hr => retOut X hx hret rfl (Or.inr (Or.inl ⟨rfl, rfl, z, rfl⟩)) hd hr
theorem own_retA (X : Stand p l e R s m args below meth c T locs cells slots) (hx : p.tables.exec = Jvm.exec) (hlk : meth.locks = false) (eT : T.heap = h) {pc : Nat} {Ls : Array Slot} {w : Value} {rest : List Value} {t : FieldType} (hret : meth.sig.returnType = some t) (ht : t.isReference = true) (hw : w.isRef = true) (hd : decode c.code pc = .ok (.areturn, 1))
    (hc : cells ≤ R.cells) (hs : slots ≤ R.slots) (hq : Q (some w) h locs) : own_Ends p e below s R Q (T.setTop (mkF m pc Ls (w :: rest))) :=
  own_ret X hlk (fun q => by rw [hret] at q; cases q) eT hc hs hq fun fs hr => retOut X hx hret (by rcases ref_cases hw with rfl | ⟨z, rfl⟩ <;> cases t <;> first | rfl | (simp [FieldType.isReference] at ht)) (Or.inr (Or.inr (Or.inr (Or.inr ⟨rfl, ht, hw⟩)))) hd hr
theorem own_retV (X : Stand p l e R s m args below meth c T locs cells slots) (hx : p.tables.exec = Jvm.exec) (hlk : meth.locks = false) (eT : T.heap = h) {pc : Nat} {Ls : Array Slot} (hret : meth.sig.returnType = none) (hd : decode c.code pc = .ok (.return_, 1))
    (hc : cells ≤ R.cells) (hs : slots ≤ R.slots) (hq : Q none h locs) : own_Ends p e below s R Q (T.setTop (mkF m pc Ls [])) :=
  own_ret X hlk (fun _ => rfl) eT hc hs hq fun fs hr => X.returnOut hx hret hd hr
/-! calls by the callee's contract -/
variable {y z : MethodName} {bytes : ByteArray} {maxL : Nat} {rt : Option FieldType} {rm : Room} {Qc : Option Value → Heap → List Loc → Prop} {own C : String} {index : Nat} {g : JFrame} {argsL rest : List Value} {b : Addr}
theorem own_static (X : Stand p l e R s m args below meth c T locs cells slots) (hx : p.tables.exec = Jvm.exec) (hZ : Z.Warmed39 s.vm) (hown : s.vm.findClass own = some m.cls) (eT : T.heap = h)
    (w1 : (Jvm.Cond.methodLink own index y).before a0 Z = true) (w2 : (Jvm.Cond.static y).before a0 Z = true) (w3 : (Jvm.Cond.initialized y.cls).before a0 Z = true) (w4 : (Jvm.Cond.code y bytes maxL rt).before a0 Z = true)
    (hy : y.cls ≠ "java/lang/invoke/MethodHandle" ∧ y.cls ≠ "java/lang/invoke/VarHandle") (hM : own_Met l Z y bytes maxL rt rm argsL.toArray h Qc)
    (hg : g.method = m) (hsz : g.locals.size = c.maxLocals) (hlen : ∀ sig, parseMethodDescriptor y.desc = some sig → argsL.length = sig.parameters.length) (hst : g.stack = argsL.reverse ++ rest)
    (hf : rm.frames + 1 ≤ R.frames) (hl : (2 * g.monitorRoom + (rest.map fun v => v.category).sum) + (maxL + 11) + rm.locals ≤ R.locals) (hc : cells + rm.cells ≤ R.cells) (hs : slots + rm.slots ≤ R.slots)
    (hd : decode c.code g.pc = .ok (.invokestatic index, 3)) :
    ∃ (v : Option Value) (T' : State) (L : List Loc) (h' : Heap), Stand p l e R s m args below meth c T' (locs ++ L) (cells + rm.cells) (slots + rm.slots) ∧ T'.heap = h' ∧ Qc v h' L ∧ ∀ t, Steps p.tables e below (T'.setTop { g with pc := g.pc + 3, stack := v.toList ++ rest }) t → Steps p.tables e below (T.setTop g) t := by
  obtain ⟨v, _, ⟨T', L', k', n'⟩, -, X', ⟨Lc, hQ, e1, e2, e3⟩, st⟩ := Jvm.LawKit.callS X hx hown (mvT hZ w1) (mvT hZ w2) (mvT hZ w3) (mvT hZ w4) hy (backOf (hM []) hZ w4 w3 hf hl) hg hsz hlen hst (Nat.le_refl _) hd (fun _ _ => ⟨rfl, eT, hc, hs⟩)
  dsimp only [Pt.U, Pt.locs, Pt.cells, Pt.slots] at X' e1 e2 e3 st hQ
  subst e1 e2 e3
  exact ⟨v, T', Lc, _, X', rfl, hQ, st⟩
theorem own_special (X : Stand p l e R s m args below meth c T locs cells slots) (hx : p.tables.exec = Jvm.exec) (hZ : Z.Warmed39 s.vm) (hown : s.vm.findClass own = some m.cls) (eT : T.heap = h) (hy1 : y.name = "<init>")
    (w1 : (Jvm.Cond.methodLink own index y).before a0 Z = true) (w2 : (Jvm.Cond.instanceMethod y).before a0 Z = true) (w3 : (Jvm.Cond.initialized y.cls).before a0 Z = true) (w4 : (Jvm.Cond.code y bytes maxL none).before a0 Z = true)
    (hy : y.cls ≠ "java/lang/invoke/MethodHandle" ∧ y.cls ≠ "java/lang/invoke/VarHandle") (hM : own_Met l Z y bytes maxL none rm (.ref b :: argsL).toArray h Qc)
    (hg : g.method = m) (hsz : g.locals.size = c.maxLocals) (hlen : ∀ sig, parseMethodDescriptor y.desc = some sig → argsL.length = sig.parameters.length) (hst : g.stack = argsL.reverse ++ .ref b :: rest)
    (hf : rm.frames + 1 ≤ R.frames) (hl : (2 * g.monitorRoom + (rest.map fun v => v.category).sum) + (maxL + 11) + rm.locals ≤ R.locals) (hc : cells + rm.cells ≤ R.cells) (hs : slots + rm.slots ≤ R.slots)
    (hd : decode c.code g.pc = .ok (.invokespecial index, 3)) :
    ∃ (v : Option Value) (T' : State) (L : List Loc) (h' : Heap), Stand p l e R s m args below meth c T' (locs ++ L) (cells + rm.cells) (slots + rm.slots) ∧ T'.heap = h' ∧ Qc v h' L ∧ ∀ t, Steps p.tables e below (T'.setTop { g with pc := g.pc + 3, stack := v.toList ++ rest }) t → Steps p.tables e below (T.setTop g) t := by
  obtain ⟨v, _, ⟨T', L', k', n'⟩, -, X', ⟨Lc, hQ, e1, e2, e3⟩, st⟩ := X.specialBack hx hy1 hown (mvT hZ w1) (mvT hZ w2) (mvT hZ w4) hy (backOf (hM []) hZ w4 w3 hf hl) hg hsz (Steps.refl _) hlen hst (Nat.le_refl _) hd (fun _ _ => ⟨rfl, eT, hc, hs⟩)
  dsimp only [Pt.U, Pt.locs, Pt.cells, Pt.slots] at X' e1 e2 e3 st hQ
  subst e1 e2 e3
  exact ⟨v, T', Lc, _, X', rfl, hQ, fun t k => st.trans k⟩
theorem own_virtual (X : Stand p l e R s m args below meth c T locs cells slots) (hx : p.tables.exec = Jvm.exec) (hZ : Z.Warmed39 s.vm) (hown : s.vm.findClass own = some m.cls) (eT : T.heap = h) (E : Exa Z h b C)
    (w1 : (Jvm.Cond.methodLink own index y).before a0 Z = true) (w2 : (Jvm.Cond.declares y).before a0 Z = true) (hnf : NotFace s y) (w5 : (Jvm.Cond.selects C y z).before a0 Z = true) (w6 : (Jvm.Cond.instanceMethod z).before a0 Z = true) (w3 : (Jvm.Cond.initialized z.cls).before a0 Z = true) (w4 : (Jvm.Cond.code z bytes maxL rt).before a0 Z = true)
    (hy : y.cls ≠ "java/lang/invoke/MethodHandle" ∧ y.cls ≠ "java/lang/invoke/VarHandle") (hM : own_Met l Z z bytes maxL rt rm (.ref b :: argsL).toArray h Qc)
    (hg : g.method = m) (hsz : g.locals.size = c.maxLocals) (hlen : ∀ sig, parseMethodDescriptor y.desc = some sig → argsL.length = sig.parameters.length) (hst : g.stack = argsL.reverse ++ .ref b :: rest)
    (hf : rm.frames + 1 ≤ R.frames) (hl : (2 * g.monitorRoom + (rest.map fun v => v.category).sum) + (maxL + 11) + rm.locals ≤ R.locals) (hc : cells + rm.cells ≤ R.cells) (hs : slots + rm.slots ≤ R.slots)
    (hd : decode c.code g.pc = .ok (.invokevirtual index, 3)) :
    ∃ (v : Option Value) (T' : State) (L : List Loc) (h' : Heap), Stand p l e R s m args below meth c T' (locs ++ L) (cells + rm.cells) (slots + rm.slots) ∧ T'.heap = h' ∧ Qc v h' L ∧ ∀ t, Steps p.tables e below (T'.setTop { g with pc := g.pc + 3, stack := v.toList ++ rest }) t → Steps p.tables e below (T.setTop g) t := by
  obtain ⟨cq, kq, qa, qb, qc⟩ := isOf hZ eT E
  obtain ⟨v, _, ⟨T', L', k', n'⟩, -, X', ⟨Lc, hQ, e1, e2, e3⟩, st⟩ := X.virtualBack hx hown (mvT hZ w1) (mvT hZ w2) hnf (mvT hZ w5) (mvT hZ w6) hy (backOf (hM []) hZ w4 w3 hf hl) qa qc hg hsz (Steps.refl _) hlen hst (Nat.le_refl _) hd (fun _ _ => ⟨rfl, eT, hc, hs⟩)
  dsimp only [Pt.U, Pt.locs, Pt.cells, Pt.slots] at X' e1 e2 e3 st hQ
  subst e1 e2 e3
  exact ⟨v, T', Lc, _, X', rfl, hQ, fun t k => st.trans k⟩
theorem own_virtualUp {owner : String} (X : Stand p l e R s m args below meth c T locs cells slots) (hx : p.tables.exec = Jvm.exec) (hZ : Z.Warmed39 s.vm) (hown : s.vm.findClass own = some m.cls) (eT : T.heap = h) (E : Exa Z h b C)
    (w1 : (Jvm.Cond.methodLink own index y).before a0 Z = true) (w7 : (Jvm.Cond.sameMethod y.cls owner y.name y.desc).before a0 Z = true) (w2 : (Jvm.Cond.declares ⟨owner, y.name, y.desc⟩).before a0 Z = true) (w5 : (Jvm.Cond.selects C y z).before a0 Z = true) (w6 : (Jvm.Cond.instanceMethod z).before a0 Z = true) (w3 : (Jvm.Cond.initialized z.cls).before a0 Z = true) (w4 : (Jvm.Cond.code z bytes maxL rt).before a0 Z = true)
    (hy : owner ≠ "java/lang/invoke/MethodHandle" ∧ owner ≠ "java/lang/invoke/VarHandle") (hM : own_Met l Z z bytes maxL rt rm (.ref b :: argsL).toArray h Qc)
    (hg : g.method = m) (hsz : g.locals.size = c.maxLocals) (hlen : ∀ sig, parseMethodDescriptor y.desc = some sig → argsL.length = sig.parameters.length) (hst : g.stack = argsL.reverse ++ .ref b :: rest)
    (hf : rm.frames + 1 ≤ R.frames) (hl : (2 * g.monitorRoom + (rest.map fun v => v.category).sum) + (maxL + 11) + rm.locals ≤ R.locals) (hc : cells + rm.cells ≤ R.cells) (hs : slots + rm.slots ≤ R.slots)
    (hd : decode c.code g.pc = .ok (.invokevirtual index, 3)) :
    ∃ (v : Option Value) (T' : State) (L : List Loc) (h' : Heap), Stand p l e R s m args below meth c T' (locs ++ L) (cells + rm.cells) (slots + rm.slots) ∧ T'.heap = h' ∧ Qc v h' L ∧ ∀ t, Steps p.tables e below (T'.setTop { g with pc := g.pc + 3, stack := v.toList ++ rest }) t → Steps p.tables e below (T.setTop g) t := by
  obtain ⟨cq, kq, qa, qb, qc⟩ := isOf hZ eT E
  obtain ⟨v, _, ⟨T', L', k', n'⟩, -, X', ⟨Lc, hQ, e1, e2, e3⟩, st⟩ := X.virtualBackUp hx hown (mvT hZ w1) (mvT hZ w7) (mvT hZ w2) hy (mvT hZ w5) (mvT hZ w6) (backOf (hM []) hZ w4 w3 hf hl) qa qc hg hsz (Steps.refl _) hlen hst (Nat.le_refl _) hd (fun _ _ => ⟨rfl, eT, hc, hs⟩)
  dsimp only [Pt.U, Pt.locs, Pt.cells, Pt.slots] at X' e1 e2 e3 st hQ
  subst e1 e2 e3
  exact ⟨v, T', Lc, _, X', rfl, hQ, fun t k => st.trans k⟩
end Own
section OwnW
variable {p : Program} {l : Launch} {e : Env} {R : Room} {s : State} {m : MethodId} {args : Array Value} {below : List Frame} {meth : Method} {c : Code} {T : State} {locs : List Loc} {cells slots : Nat} {Z : State} {a0 : Array Value} {h h0 : Heap} {Q : Option Value → Heap → List Loc → Prop} {S S' : State} {EL : List (String × Nat)} {vm0 : Vm} {k0 : Nat}
/-- a body's contract, where it may load String constants: the booked constants of EL say their texts, and go on doing so -/
def own_MetW (l : Launch) (Z : State) (EL : List (String × Nat)) (y : MethodName) (bytes : ByteArray) (maxL : Nat) (rt : Option FieldType) (rm : Room) (as' : Array Value) (h0 : Heap) (Q : Option Value → Heap → List Loc → Prop) : Prop :=
  ∀ ws : List Jvm.Cond, MetFree l y (head1 (Jvm.Cond.code y bytes maxL rt :: ws) rm) (fun a U => a = as' ∧ Z.Warmed39 U.vm ∧ U.heap = h0 ∧ CHv Z EL U.vm h0) (fun _ _ _ _ _ => True) (fun _ U o U' => ∃ v L, o = .returned v ∧ Q v U'.heap L ∧ CHr Z EL U.vm U.heap U'.vm U'.heap ∧ ReturnedEndW U o U' L rm.cells rm.slots)
def own_EndsW (Z : State) (EL : List (String × Nat)) (p : Program) (e : Env) (below : List Frame) (s : State) (rm : Room) (Q : Option Value → Heap → List Loc → Prop) (S : State) : Prop :=
  ∃ s₂ o, Steps p.tables e below S s₂ ∧ s₂.status = .running ∧ Ended s₂ below o ∧ ∃ v L, o = .returned v ∧ Q v s₂.heap L ∧ CHr Z EL s.vm s.heap s₂.vm s₂.heap ∧ ReturnedEndW s o s₂ L rm.cells rm.slots
theorem own_ofW (hs : ∀ t, Steps p.tables e below S' t → Steps p.tables e below S t) (k : own_EndsW Z EL p e below s R Q S') : own_EndsW Z EL p e below s R Q S := by
  obtain ⟨s₂, o, h1, h2⟩ := k; exact ⟨s₂, o, hs _ h1, h2⟩
theorem own_metW_mono {y : MethodName} {bytes : ByteArray} {maxL : Nat} {rt : Option FieldType} {rm : Room} {as' : Array Value} {Q' : Option Value → Heap → List Loc → Prop} (k : own_MetW l Z EL y bytes maxL rt rm as' h0 Q) (hq : ∀ v h L, Q v h L → Q' v h L) : own_MetW l Z EL y bytes maxL rt rm as' h0 Q' := by
  intro ws p e ha hc hk s m args below hf happ hP hK
  obtain ⟨n, o, g1, g2, g3, v, L, g4, g5, g6⟩ := k ws p e ha hc hk s m args below hf happ hP hK
  exact ⟨n, o, g1, g2, g3, v, L, g4, hq _ _ _ g5, g6⟩
theorem own_bodyW {y : MethodName} {bytes : ByteArray} {maxL : Nat} {rt : Option FieldType} {rm : Room} {as' : Array Value} (hpl : plainFor y = true)
    (body : ∀ (p : Program) (e : Env) (s : State) (m : MethodId) (below : List Frame) (meth : Method) (c : Code) (T : State), Stand p l e rm (s.setVm s.vm) m as' below meth c T [] 0 0 → T.heap = h0 → s.heap = h0 → p.tables.exec = Jvm.exec → c.code = bytes → c.maxLocals = maxL → (s.setVm s.vm).vm.findClass y.cls = some m.cls → meth.name = y.name → meth.sig.returnType = rt → meth.locks = false → Z.Warmed39 (s.setVm s.vm).vm → s.Since s.vm 0 → CHr Z EL s.vm h0 s.vm h0 → own_EndsW Z EL p e below s rm Q (T.setTop (entryFrame m as' maxL))) :
    own_MetW l Z EL y bytes maxL rt rm as' h0 Q := by
  intro ws
  refine MetFree.of_bodySF hpl hisR ?_
  intro p e s m args below meth c s₁ Bd hml0 hP hK
  obtain ⟨rfl, hZ, hh, hC⟩ := hP
  exact body p e s m below meth c s₁ (Stand.of_body Bd) (by rw [← hh, Bd.state]; rfl) hh Bd.exec Bd.bytes hml0 (findClass_of_methodNamed Bd.named) (name_of_methodNamed Bd.named Bd.method).1 Bd.returns Bd.notSynchronized hZ ((State.WarmedH.refl s).since 0) (CHr.refl hC)
theorem own_retW (X : Stand p l e R (s.setVm vm0) m args below meth c T locs cells slots) (hlk : meth.locks = false) {v : Option Value} (hv : meth.sig.returnType = none → v = none) (hZ : Z.Warmed39 (s.setVm vm0).vm) (hS : s.Since vm0 k0) (eT : T.heap = h) (hk : k0 ≤ h.size) (es : s.heap = h0) (hEL : EW Z a0 EL) (HC : CHr Z EL s.vm h0 vm0 h) (hc : cells ≤ R.cells) (hs : slots ≤ R.slots) (hq : Q v h locs)
    (st : ∀ fs : List Frame, (∀ (f : JFrame) (acts : List Action), f.method = m → f.locked = none → f.entered = [] → (doReturn e (T.setTop f) acts v).1 = T.setFrames fs) → Steps p.tables e below S (T.setFrames fs)) : own_EndsW Z EL p e below s R Q S := by
  subst eT es
  obtain ⟨fs, hr, hrun, hended, g1, g2, g3, g4⟩ := X.leaveW hS hk hv hlk
  have A := HC.trans (CHv.at X hZ hEL HC.1)
  exact ⟨_, _, st fs hr, hrun, hended, _, _, rfl, hq, A, g1, g2, g3, g4.mono hc hs⟩
theorem own_retIW (X : Stand p l e R (s.setVm vm0) m args below meth c T locs cells slots) (hx : p.tables.exec = Jvm.exec) (hlk : meth.locks = false) (hZ : Z.Warmed39 (s.setVm vm0).vm) (hS : s.Since vm0 k0) (eT : T.heap = h) (hk : k0 ≤ h.size) (es : s.heap = h0) (hEL : EW Z a0 EL) (HC : CHr Z EL s.vm h0 vm0 h) {pc : Nat} {Ls : Array Slot} {z : Int32} {rest : List Value} (hret : meth.sig.returnType = some .int) (hd : decode c.code pc = .ok (.ireturn, 1))
    (hc : cells ≤ R.cells) (hs : slots ≤ R.slots) (hq : Q (some (.int z)) h locs) : own_EndsW Z EL p e below s R Q (T.setTop (mkF m pc Ls (.int z :: rest))) :=
  own_retW X hlk (fun q => by rw [hret] at q; cases q) hZ hS eT hk es hEL HC hc hs hq fun fs hr => retOut X hx hret rfl (Or.inl ⟨rfl, Or.inl rfl, z, rfl⟩) hd hr
theorem own_retNW (X : Stand p l e R (s.setVm vm0) m args below meth c T locs cells slots) (hx : p.tables.exec = Jvm.exec) (hlk : meth.locks = false) (hZ : Z.Warmed39 (s.setVm vm0).vm) (hS : s.Since vm0 k0) (eT : T.heap = h) (hk : k0 ≤ h.size) (es : s.heap = h0) (hEL : EW Z a0 EL) (HC : CHr Z EL s.vm h0 vm0 h) {pc : Nat} {Ls : Array Slot} {z z' : Int32} {rest : List Value} {t : FieldType} (hret : meth.sig.returnType = some t) (ht : t = .boolean ∨ t = .byte ∨ t = .char ∨ t = .short) (hz : nar t z = z') (hd : decode c.code pc = .ok (.ireturn, 1))
    (hc : cells ≤ R.cells) (hs : slots ≤ R.slots) (hq : Q (some (.int z')) h locs) : own_EndsW Z EL p e below s R Q (T.setTop (mkF m pc Ls (.int z :: rest))) := by
  subst hz
  exact own_retW X hlk (fun q => by rw [hret] at q; cases q) hZ hS eT hk es hEL HC hc hs hq fun fs hr => retN X hx hret ht hd hr
theorem own_retAW (X : Stand p l e R (s.setVm vm0) m args below meth c T locs cells slots) (hx : p.tables.exec = Jvm.exec) (hlk : meth.locks = false) (hZ : Z.Warmed39 (s.setVm vm0).vm) (hS : s.Since vm0 k0) (eT : T.heap = h) (hk : k0 ≤ h.size) (es : s.heap = h0) (hEL : EW Z a0 EL) (HC : CHr Z EL s.vm h0 vm0 h) {pc : Nat} {Ls : Array Slot} {w : Value} {rest : List Value} {t : FieldType} (hret : meth.sig.returnType = some t) (ht : t.isReference = true) (hw : w.isRef = true) (hd : decode c.code pc = .ok (.areturn, 1))
    (hc : cells ≤ R.cells) (hs : slots ≤ R.slots) (hq : Q (some w) h locs) : own_EndsW Z EL p e below s R Q (T.setTop (mkF m pc Ls (w :: rest))) :=
  own_retW X hlk (fun q => by rw [hret] at q; cases q) hZ hS eT hk es hEL HC hc hs hq fun fs hr => retOut X hx hret (by rcases ref_cases hw with rfl | ⟨z, rfl⟩ <;> cases t <;> first | rfl | (simp [FieldType.isReference] at ht)) (Or.inr (Or.inr (Or.inr (Or.inr ⟨rfl, ht, hw⟩)))) hd hr
theorem own_retVW (X : Stand p l e R (s.setVm vm0) m args below meth c T locs cells slots) (hx : p.tables.exec = Jvm.exec) (hlk : meth.locks = false) (hZ : Z.Warmed39 (s.setVm vm0).vm) (hS : s.Since vm0 k0) (eT : T.heap = h) (hk : k0 ≤ h.size) (es : s.heap = h0) (hEL : EW Z a0 EL) (HC : CHr Z EL s.vm h0 vm0 h) {pc : Nat} {Ls : Array Slot} (hret : meth.sig.returnType = none) (hd : decode c.code pc = .ok (.return_, 1))
    (hc : cells ≤ R.cells) (hs : slots ≤ R.slots) (hq : Q none h locs) : own_EndsW Z EL p e below s R Q (T.setTop (mkF m pc Ls [])) :=
  own_retW X hlk (fun _ => rfl) hZ hS eT hk es hEL HC hc hs hq fun fs hr => X.returnOut hx hret hd hr
/-! calls of a body that may load String constants -/
variable {y z : MethodName} {bytes : ByteArray} {maxL : Nat} {rt : Option FieldType} {rm : Room} {Qc : Option Value → Heap → List Loc → Prop} {own C : String} {index : Nat} {g : JFrame} {argsL rest : List Value} {b : Addr}
theorem own_staticW (X : Stand p l e R (s.setVm vm0) m args below meth c T locs cells slots) (hx : p.tables.exec = Jvm.exec) (hZ : Z.Warmed39 (s.setVm vm0).vm) (hown : (s.setVm vm0).vm.findClass own = some m.cls) (eT : T.heap = h) (hS : s.Since vm0 k0) (hk : k0 ≤ h.size) (hEL : EW Z a0 EL) (H : CHv Z EL vm0 h)
    (w1 : (Jvm.Cond.methodLink own index y).before a0 Z = true) (w2 : (Jvm.Cond.static y).before a0 Z = true) (w3 : (Jvm.Cond.initialized y.cls).before a0 Z = true) (w4 : (Jvm.Cond.code y bytes maxL rt).before a0 Z = true)
    (hy : y.cls ≠ "java/lang/invoke/MethodHandle" ∧ y.cls ≠ "java/lang/invoke/VarHandle") (hM : own_MetW l Z EL y bytes maxL rt rm argsL.toArray h Qc)
    (hg : g.method = m) (hsz : g.locals.size = c.maxLocals) (hlen : ∀ sig, parseMethodDescriptor y.desc = some sig → argsL.length = sig.parameters.length) (hst : g.stack = argsL.reverse ++ rest)
    (hf : rm.frames + 1 ≤ R.frames) (hl : (2 * g.monitorRoom + (rest.map fun v => v.category).sum) + (maxL + 11) + rm.locals ≤ R.locals) (hc : cells + rm.cells ≤ R.cells) (hs : slots + rm.slots ≤ R.slots)
    (hd : decode c.code g.pc = .ok (.invokestatic index, 3)) :
    ∃ (v : Option Value) (T' : State) (L : List Loc) (h' : Heap) (k' : Nat), Stand p l e R (s.setVm T'.vm) m args below meth c T' (locs ++ L) (cells + rm.cells) (slots + rm.slots) ∧ T'.heap = h' ∧ Qc v h' L ∧ Z.Warmed39 (s.setVm T'.vm).vm ∧ (s.setVm T'.vm).vm.findClass own = some m.cls ∧ s.Since T'.vm k' ∧ k' ≤ h'.size ∧ CHr Z EL vm0 h T'.vm h' ∧ ∀ t, Steps p.tables e below (T'.setTop { g with pc := g.pc + 3, stack := v.toList ++ rest }) t → Steps p.tables e below (T.setTop g) t := by
  obtain ⟨v, _, ⟨T', L', k', n'⟩, -, X', hS', hgr, ⟨Lc, hQ, e1, e2, e3, hC⟩, st⟩ := callSS X hx hown (mvT hZ w1) (mvT hZ w2) (mvT hZ w3) (mvT hZ w4) hy (backOfSH (hM []) hZ w4 w3 hf hl hEL H) hg hsz hlen hst (Nat.le_refl _) hd (fun _ _ => ⟨rfl, eT, hc, hs⟩)
  dsimp only [Pt.U, Pt.locs, Pt.cells, Pt.slots] at X' e1 e2 e3 st hQ hS' hgr hC
  subst e1 e2 e3
  obtain ⟨X2, hS2, hZ2, hown2⟩ := rebS hS (eT ▸ hk) X' hS' hgr hZ hown
  exact ⟨v, T', Lc, _, _, X2, rfl, hQ, hZ2, hown2, hS2, Nat.le_refl _, hC, fun t k => st.trans k⟩
theorem own_specialW (X : Stand p l e R (s.setVm vm0) m args below meth c T locs cells slots) (hx : p.tables.exec = Jvm.exec) (hZ : Z.Warmed39 (s.setVm vm0).vm) (hown : (s.setVm vm0).vm.findClass own = some m.cls) (eT : T.heap = h) (hS : s.Since vm0 k0) (hk : k0 ≤ h.size) (hEL : EW Z a0 EL) (H : CHv Z EL vm0 h) (hy1 : y.name = "<init>")
    (w1 : (Jvm.Cond.methodLink own index y).before a0 Z = true) (w2 : (Jvm.Cond.instanceMethod y).before a0 Z = true) (w3 : (Jvm.Cond.initialized y.cls).before a0 Z = true) (w4 : (Jvm.Cond.code y bytes maxL none).before a0 Z = true)
    (hy : y.cls ≠ "java/lang/invoke/MethodHandle" ∧ y.cls ≠ "java/lang/invoke/VarHandle") (hM : own_MetW l Z EL y bytes maxL none rm (.ref b :: argsL).toArray h Qc)
    (hg : g.method = m) (hsz : g.locals.size = c.maxLocals) (hlen : ∀ sig, parseMethodDescriptor y.desc = some sig → argsL.length = sig.parameters.length) (hst : g.stack = argsL.reverse ++ .ref b :: rest)
    (hf : rm.frames + 1 ≤ R.frames) (hl : (2 * g.monitorRoom + (rest.map fun v => v.category).sum) + (maxL + 11) + rm.locals ≤ R.locals) (hc : cells + rm.cells ≤ R.cells) (hs : slots + rm.slots ≤ R.slots)
    (hd : decode c.code g.pc = .ok (.invokespecial index, 3)) :
    ∃ (v : Option Value) (T' : State) (L : List Loc) (h' : Heap) (k' : Nat), Stand p l e R (s.setVm T'.vm) m args below meth c T' (locs ++ L) (cells + rm.cells) (slots + rm.slots) ∧ T'.heap = h' ∧ Qc v h' L ∧ Z.Warmed39 (s.setVm T'.vm).vm ∧ (s.setVm T'.vm).vm.findClass own = some m.cls ∧ s.Since T'.vm k' ∧ k' ≤ h'.size ∧ CHr Z EL vm0 h T'.vm h' ∧ ∀ t, Steps p.tables e below (T'.setTop { g with pc := g.pc + 3, stack := v.toList ++ rest }) t → Steps p.tables e below (T.setTop g) t := by
  obtain ⟨v, _, ⟨T', L', k', n'⟩, -, X', hS', hgr, ⟨Lc, hQ, e1, e2, e3, hC⟩, st⟩ := X.specialBackS hx hy1 hown (mvT hZ w1) (mvT hZ w2) (mvT hZ w4) hy (backOfSH (hM []) hZ w4 w3 hf hl hEL H) hg hsz (Steps.refl _) hlen hst (Nat.le_refl _) hd (fun _ _ => ⟨rfl, eT, hc, hs⟩)
  dsimp only [Pt.U, Pt.locs, Pt.cells, Pt.slots] at X' e1 e2 e3 st hQ hS' hgr hC
  subst e1 e2 e3
  obtain ⟨X2, hS2, hZ2, hown2⟩ := rebS hS (eT ▸ hk) X' hS' hgr hZ hown
  exact ⟨v, T', Lc, _, _, X2, rfl, hQ, hZ2, hown2, hS2, Nat.le_refl _, hC, fun t k => st.trans k⟩
theorem own_virtualW (X : Stand p l e R (s.setVm vm0) m args below meth c T locs cells slots) (hx : p.tables.exec = Jvm.exec) (hZ : Z.Warmed39 (s.setVm vm0).vm) (hown : (s.setVm vm0).vm.findClass own = some m.cls) (eT : T.heap = h) (hS : s.Since vm0 k0) (hk : k0 ≤ h.size) (hEL : EW Z a0 EL) (H : CHv Z EL vm0 h) (E : Exa Z h b C)
    (w1 : (Jvm.Cond.methodLink own index y).before a0 Z = true) (w2 : (Jvm.Cond.declares y).before a0 Z = true) (hnf : NotFace (s.setVm vm0) y) (w5 : (Jvm.Cond.selects C y z).before a0 Z = true) (w6 : (Jvm.Cond.instanceMethod z).before a0 Z = true) (w3 : (Jvm.Cond.initialized z.cls).before a0 Z = true) (w4 : (Jvm.Cond.code z bytes maxL rt).before a0 Z = true)
    (hy : y.cls ≠ "java/lang/invoke/MethodHandle" ∧ y.cls ≠ "java/lang/invoke/VarHandle") (hM : own_MetW l Z EL z bytes maxL rt rm (.ref b :: argsL).toArray h Qc)
    (hg : g.method = m) (hsz : g.locals.size = c.maxLocals) (hlen : ∀ sig, parseMethodDescriptor y.desc = some sig → argsL.length = sig.parameters.length) (hst : g.stack = argsL.reverse ++ .ref b :: rest)
    (hf : rm.frames + 1 ≤ R.frames) (hl : (2 * g.monitorRoom + (rest.map fun v => v.category).sum) + (maxL + 11) + rm.locals ≤ R.locals) (hc : cells + rm.cells ≤ R.cells) (hs : slots + rm.slots ≤ R.slots)
    (hd : decode c.code g.pc = .ok (.invokevirtual index, 3)) :
    ∃ (v : Option Value) (T' : State) (L : List Loc) (h' : Heap) (k' : Nat), Stand p l e R (s.setVm T'.vm) m args below meth c T' (locs ++ L) (cells + rm.cells) (slots + rm.slots) ∧ T'.heap = h' ∧ Qc v h' L ∧ Z.Warmed39 (s.setVm T'.vm).vm ∧ (s.setVm T'.vm).vm.findClass own = some m.cls ∧ s.Since T'.vm k' ∧ k' ≤ h'.size ∧ CHr Z EL vm0 h T'.vm h' ∧ ∀ t, Steps p.tables e below (T'.setTop { g with pc := g.pc + 3, stack := v.toList ++ rest }) t → Steps p.tables e below (T.setTop g) t := by
  obtain ⟨cq, kq, qa, qb, qc⟩ := isOf hZ eT E
  obtain ⟨v, _, ⟨T', L', k', n'⟩, -, X', hS', hgr, ⟨Lc, hQ, e1, e2, e3, hC⟩, st⟩ := X.virtualBackS hx hown (mvT hZ w1) (mvT hZ w2) hnf (mvT hZ w5) (mvT hZ w6) hy (backOfSH (hM []) hZ w4 w3 hf hl hEL H) qa qc hg hsz (Steps.refl _) hlen hst (Nat.le_refl _) hd (fun _ _ => ⟨rfl, eT, hc, hs⟩)
  dsimp only [Pt.U, Pt.locs, Pt.cells, Pt.slots] at X' e1 e2 e3 st hQ hS' hgr hC
  subst e1 e2 e3
  obtain ⟨X2, hS2, hZ2, hown2⟩ := rebS hS (eT ▸ hk) X' hS' hgr hZ hown
  exact ⟨v, T', Lc, _, _, X2, rfl, hQ, hZ2, hown2, hS2, Nat.le_refl _, hC, fun t k => st.trans k⟩
end OwnW
section OwnWS
variable {p : Program} {l : Launch} {e : Env} {R : Room} {s : State} {m : MethodId} {args : Array Value} {below : List Frame} {meth : Method} {c : Code} {T : State} {locs : List Loc} {cells slots : Nat} {Z : State} {a0 : Array Value} {h h0 : Heap} {Q : Option Value → Heap → List Loc → Prop} {S S' : State} {EL : List (String × Nat)} {vm0 : Vm} {k0 : Nat} {x : Addr}
/-- the wide contract of a body that writes into x, which is no booked constant's cell -/
def own_MetWS (l : Launch) (Z : State) (EL : List (String × Nat)) (x : Addr) (y : MethodName) (bytes : ByteArray) (maxL : Nat) (rt : Option FieldType) (rm : Room) (as' : Array Value) (h0 : Heap) (Q : Option Value → Heap → List Loc → Prop) : Prop :=
  ∀ ws : List Jvm.Cond, MetFree l y (head1 (Jvm.Cond.code y bytes maxL rt :: ws) rm) (fun a U => a = as' ∧ Z.Warmed39 U.vm ∧ U.heap = h0 ∧ CHv Z EL U.vm h0 ∧ Safe Z EL U.vm h0 x) (fun _ _ _ _ _ => True) (fun _ U o U' => ∃ v L, o = .returned v ∧ Q v U'.heap L ∧ CHr Z EL U.vm U.heap U'.vm U'.heap ∧ ReturnedEndW U o U' L rm.cells rm.slots)
theorem own_bodyWS {y : MethodName} {bytes : ByteArray} {maxL : Nat} {rt : Option FieldType} {rm : Room} {as' : Array Value} (hpl : plainFor y = true)
    (body : ∀ (p : Program) (e : Env) (s : State) (m : MethodId) (below : List Frame) (meth : Method) (c : Code) (T : State), Stand p l e rm (s.setVm s.vm) m as' below meth c T [] 0 0 → T.heap = h0 → s.heap = h0 → p.tables.exec = Jvm.exec → c.code = bytes → c.maxLocals = maxL → (s.setVm s.vm).vm.findClass y.cls = some m.cls → meth.name = y.name → meth.sig.returnType = rt → meth.locks = false → Z.Warmed39 (s.setVm s.vm).vm → s.Since s.vm 0 → CHr Z EL s.vm h0 s.vm h0 → Safe Z EL s.vm h0 x → own_EndsW Z EL p e below s rm Q (T.setTop (entryFrame m as' maxL))) :
    own_MetWS l Z EL x y bytes maxL rt rm as' h0 Q := by
  intro ws
  refine MetFree.of_bodySF hpl hisR ?_
  intro p e s m args below meth c s₁ Bd hml0 hP hK
  obtain ⟨rfl, hZ, hh, hC, hx⟩ := hP
  exact body p e s m below meth c s₁ (Stand.of_body Bd) (by rw [← hh, Bd.state]; rfl) hh Bd.exec Bd.bytes hml0 (findClass_of_methodNamed Bd.named) (name_of_methodNamed Bd.named Bd.method).1 Bd.returns Bd.notSynchronized hZ ((State.WarmedH.refl s).since 0) (CHr.refl hC) hx
theorem own_backS {y : MethodName} {bytes : ByteArray} {maxL : Nat} {rt : Option FieldType} {rm : Room} {len W : Nat} {as' : Array Value}
    (hM : MetFree l y (head1 [Jvm.Cond.code y bytes maxL rt] rm) (fun a U => a = as' ∧ Z.Warmed39 U.vm ∧ U.heap = h ∧ CHv Z EL U.vm h ∧ Safe Z EL U.vm h x) (fun _ _ _ _ _ => True) (fun _ U o U' => ∃ v L, o = .returned v ∧ Q v U'.heap L ∧ CHr Z EL U.vm U.heap U'.vm U'.heap ∧ ReturnedEndW U o U' L rm.cells rm.slots))
    (hZ : Z.Warmed39 vm0) (wc : (Jvm.Cond.code y bytes maxL rt).before a0 Z = true) (wz : (Jvm.Cond.initialized y.cls).before a0 Z = true) (hf : rm.frames + 1 ≤ R.frames) (hl : W + (maxL + 11) + rm.locals ≤ R.locals) (hEL : EW Z a0 EL) (H : CHv Z EL vm0 h) (hSx : Safe Z EL vm0 h x) (hlt : x < h.size) :
    BackS l R p e below (s.setVm vm0) args y len W (fun A a => a = as' ∧ A.U.heap = h ∧ A.cells + rm.cells ≤ R.cells ∧ A.slots + rm.slots ≤ R.slots)
      (fun A _ v B => ∃ L, Q v B.U.heap L ∧ B.locs = A.locs ++ L ∧ B.cells = A.cells + rm.cells ∧ B.slots = A.slots + rm.slots ∧ CHr Z EL vm0 h B.U.vm B.U.heap) :=
  BackS.of_freeW (bytes := bytes) (maxL := maxL) (ret := rt) (E := fun _ first o t L k n => k = rm.cells ∧ n = rm.slots ∧ (∃ v, o = .returned v ∧ Q v t.heap L) ∧ CHr Z EL first.vm first.heap t.vm t.heap) hM hf hl
    (fun m meth c A a Y hp => have hU : Z.Warmed39 A.U.vm := wtrans (s := s.setVm vm0) hZ Y.warmed
      ⟨by show (Cond.and _ .tt).before a A.U = true; rw [Cond.before_and, mv hU wc]; rfl, mv hU wc, mv hU wz, hp.2.2.1, hp.2.2.2⟩)
    (fun m meth c A a g mk Y hp => ⟨hp.1, wtrans (s := s.setVm vm0) hZ Y.warmed, hp.2.1, (CHv.at Y hZ hEL H).1, (CHv.at Y hZ hEL H).safe hlt hSx⟩) (fun _ _ _ _ _ _ _ _ _ => trivial)
    (fun _ _ _ _ ⟨v, L, h1, h2, h3, h4⟩ => ⟨L, _, _, h4, rfl, rfl, ⟨v, h1, h2⟩, h3⟩)
    (fun m meth c A a g mk v t L k n Y hp _ _ ⟨e1, e2, ⟨v', e3, e4⟩, e5⟩ => by
      cases e3; subst e1 e2
      refine ⟨L, e4, rfl, rfl, rfl, (CHv.at Y hZ hEL H).trans ?_⟩
      rw [← hp.2.1]; exact e5)
variable {y z : MethodName} {bytes : ByteArray} {maxL : Nat} {rt : Option FieldType} {rm : Room} {Qc : Option Value → Heap → List Loc → Prop} {own C : String} {index : Nat} {g : JFrame} {argsL rest : List Value} {b : Addr}
theorem own_specialWS (X : Stand p l e R (s.setVm vm0) m args below meth c T locs cells slots) (hx : p.tables.exec = Jvm.exec) (hZ : Z.Warmed39 (s.setVm vm0).vm) (hown : (s.setVm vm0).vm.findClass own = some m.cls) (eT : T.heap = h) (hS : s.Since vm0 k0) (hk : k0 ≤ h.size) (hEL : EW Z a0 EL) (H : CHv Z EL vm0 h) (hSx : Safe Z EL vm0 h x) (hlt : x < h.size) (hy1 : y.name = "<init>")
    (w1 : (Jvm.Cond.methodLink own index y).before a0 Z = true) (w2 : (Jvm.Cond.instanceMethod y).before a0 Z = true) (w3 : (Jvm.Cond.initialized y.cls).before a0 Z = true) (w4 : (Jvm.Cond.code y bytes maxL none).before a0 Z = true)
    (hy : y.cls ≠ "java/lang/invoke/MethodHandle" ∧ y.cls ≠ "java/lang/invoke/VarHandle") (hM : own_MetWS l Z EL x y bytes maxL none rm (.ref b :: argsL).toArray h Qc)
    (hg : g.method = m) (hsz : g.locals.size = c.maxLocals) (hlen : ∀ sig, parseMethodDescriptor y.desc = some sig → argsL.length = sig.parameters.length) (hst : g.stack = argsL.reverse ++ .ref b :: rest)
    (hf : rm.frames + 1 ≤ R.frames) (hl : (2 * g.monitorRoom + (rest.map fun v => v.category).sum) + (maxL + 11) + rm.locals ≤ R.locals) (hc : cells + rm.cells ≤ R.cells) (hs : slots + rm.slots ≤ R.slots)
    (hd : decode c.code g.pc = .ok (.invokespecial index, 3)) :
    ∃ (v : Option Value) (T' : State) (L : List Loc) (h' : Heap) (k' : Nat), Stand p l e R (s.setVm T'.vm) m args below meth c T' (locs ++ L) (cells + rm.cells) (slots + rm.slots) ∧ T'.heap = h' ∧ Qc v h' L ∧ Z.Warmed39 (s.setVm T'.vm).vm ∧ (s.setVm T'.vm).vm.findClass own = some m.cls ∧ s.Since T'.vm k' ∧ k' ≤ h'.size ∧ CHr Z EL vm0 h T'.vm h' ∧ ∀ t, Steps p.tables e below (T'.setTop { g with pc := g.pc + 3, stack := v.toList ++ rest }) t → Steps p.tables e below (T.setTop g) t := by
  obtain ⟨v, _, ⟨T', L', k', n'⟩, -, X', hS', hgr, ⟨Lc, hQ, e1, e2, e3, hC⟩, st⟩ := X.specialBackS hx hy1 hown (mvT hZ w1) (mvT hZ w2) (mvT hZ w4) hy (own_backS (hM []) hZ w4 w3 hf hl hEL H hSx hlt) hg hsz (Steps.refl _) hlen hst (Nat.le_refl _) hd (fun _ _ => ⟨rfl, eT, hc, hs⟩)
  dsimp only [Pt.U, Pt.locs, Pt.cells, Pt.slots] at X' e1 e2 e3 st hQ hS' hgr hC
  subst e1 e2 e3
  obtain ⟨X2, hS2, hZ2, hown2⟩ := rebS hS (eT ▸ hk) X' hS' hgr hZ hown
  exact ⟨v, T', Lc, _, _, X2, rfl, hQ, hZ2, hown2, hS2, Nat.le_refl _, hC, fun t k => st.trans k⟩
end OwnWS
theorem own_eq_int {args : Array Value} {s : State} {t : Jvm.Term} {k : Int32} (h : (Jvm.Cond.eq t (.int k)).value args s none s [] = some true) : t.eval args s none [] s = some (.int k) := by
  simp only [Cond.value, Term.eval] at h
  cases ht : t.eval args s none [] s with
  | none => simp [ht] at h
  | some v => cases v <;> simp [ht] at h; rw [h]
theorem own_i2c (x : Int32) : nar .char ((x &&& (255 : Int32)).toUInt32.toUInt16.toUInt32.toInt32) = x &&& 255 := by
  show ((x &&& (255 : Int32)).toUInt32.toUInt16.toUInt32.toInt32).toUInt32.toUInt16.toUInt32.toInt32 = _
  rw [i2c_mask, i2c_mask]
theorem own_lat (x : Int32) : ¬ (x &&& (255 : Int32)) < 0 ∧ ¬ (255 : Int32) < (x &&& (255 : Int32)) := by
  have h : (x &&& (255 : Int32)).toInt = x.toInt % 256 := c_mask x (255 : Int32) 8 (by decide) (by decide)
  have e1 : (0 : Int32).toInt = 0 := rfl
  have e2 : (255 : Int32).toInt = 255 := rfl
  rw [Int32.lt_iff_toInt_lt, Int32.lt_iff_toInt_lt, h, e1, e2]; omega
theorem own_latc {c x : Int32} (e : c = nar .char ((x &&& (255 : Int32)).toUInt32.toUInt16.toUInt32.toInt32)) : ¬ c < 0 ∧ ¬ (255 : Int32) < c := by rw [e, own_i2c]; exact own_lat x
theorem own_one {c : Int32} {P : Int32 → Prop} (h : P c) : ∀ d ∈ [c], P d := fun d hd => by rw [List.mem_singleton.mp hd]; exact h
section OwnQ
variable {p : Program} {l : Launch} {e : Env} {R : Room} {s : State} {m : MethodId} {args : Array Value} {below : List Frame} {meth : Method} {c : Code} {T : State} {locs : List Loc} {cells slots : Nat} {Z : State} {a0 : Array Value} {h : Heap} {own : String} {index : Nat} {g : JFrame} {rest : List Value}
/-- a String's bytes -/
abbrev own_by (cs : List Int32) : List Value := (cs.map StrChars.lo8).map Value.int
abbrev own_lat8 (cs : List Int32) : Prop := ∀ c ∈ cs, ¬ c < 0 ∧ ¬ (255 : Int32) < c
theorem own_up {cs : List Int32} (h : own_lat8 cs) : ∀ c ∈ cs, ¬ c < 0 ∧ ¬ (65535 : Int32) < c := fun c hc => by
  obtain ⟨h1, h2⟩ := h c hc
  refine ⟨h1, fun q => h2 ?_⟩
  have e1 : (255 : Int32).toInt = 255 := rfl
  have e2 : (65535 : Int32).toInt = 65535 := rfl
  rw [Int32.lt_iff_toInt_lt] at q ⊢
  omega
theorem own_codS {cs : List Int32} {N : Int32} (hN : N = Int32.ofNat cs.length) (h : own_lat8 cs) : StrChars.Road.CodA cs 0 N (own_by cs) := Or.inl ⟨rfl, hN, by simp [own_by, List.map_map, Function.comp_def], fun c hc => (h c hc).2⟩
/-- String.equals at a call, by the pasted law -/
theorem own_eqCall (X : Stand p l e R s m args below meth c T locs cells slots) (hx : p.tables.exec = Jvm.exec) (hZ : Z.Warmed39 s.vm) (hown : s.vm.findClass own = some m.cls) (eT : T.heap = h)
    (w1 : (Jvm.Cond.methodLink own index ⟨"java/lang/String", "equals", "(Ljava/lang/Object;)Z"⟩).before a0 Z = true) (w2 : (Jvm.Cond.declares ⟨"java/lang/String", "equals", "(Ljava/lang/Object;)Z"⟩).before a0 Z = true) (w5 : (Jvm.Cond.selects "java/lang/String" ⟨"java/lang/String", "equals", "(Ljava/lang/Object;)Z"⟩ ⟨"java/lang/String", "equals", "(Ljava/lang/Object;)Z"⟩).before a0 Z = true) (w6 : (Jvm.Cond.instanceMethod ⟨"java/lang/String", "equals", "(Ljava/lang/Object;)Z"⟩).before a0 Z = true)
    (hws : ∀ d ∈ StrChars.Road.wordsEq, d.before a0 Z = true) (wi : (Jvm.Cond.instantiable "java/lang/String" 4).before a0 Z = true)
    {a t : Addr} {kb : ClassId} {cs : List Int32} {N : Int32} {vs : List Value} (E : Exa Z h a "java/lang/String") (V : Fld Z h a "java/lang/String" "value" "[B" (.ref t)) (C : Fld Z h a "java/lang/String" "coder" "B" (.int 0)) (K : Arv Z h t kb .byte N vs (.int 0)) (hc : StrChars.Road.CodA cs 0 N vs) (hb : ∀ c ∈ cs, ¬ c < 0 ∧ ¬ (65535 : Int32) < c) (l2 : cs.length ≤ 4000)
    {b t' : Addr} {kb' : ClassId} {ds : List Int32} {N' : Int32} {vs' : List Value} (E' : Exa Z h b "java/lang/String") (V' : Fld Z h b "java/lang/String" "value" "[B" (.ref t')) (C' : Fld Z h b "java/lang/String" "coder" "B" (.int 0)) (K' : Arv Z h t' kb' .byte N' vs' (.int 0)) (hc' : StrChars.Road.CodA ds 0 N' vs') (hb' : ∀ c ∈ ds, ¬ c < 0 ∧ ¬ (65535 : Int32) < c) (l2' : ds.length ≤ 4000)
    {z : Int32} (S : Sta Z h "java/lang/String" "COMPACT_STRINGS" "Z" (.int z)) (hz : ¬ z = 0) {r : Int32} (hr : (r = 1 ∧ cs = ds) ∨ (r = 0 ∧ ¬ cs = ds))
    (hg : g.method = m) (hsz : g.locals.size = c.maxLocals) (hlen : ∀ sig, parseMethodDescriptor "(Ljava/lang/Object;)Z" = some sig → [Value.ref b].length = sig.parameters.length) (hst : g.stack = .ref b :: .ref a :: rest)
    (hf : 2 ≤ R.frames) (hl : (2 * g.monitorRoom + (rest.map fun v => v.category).sum) + 28 ≤ R.locals) (hce : cells ≤ R.cells) (hs : slots ≤ R.slots) (hd : decode c.code g.pc = .ok (.invokevirtual index, 3)) :
    ∃ T' : State, Stand p l e R s m args below meth c T' locs cells slots ∧ T'.heap = h ∧ ∀ t, Steps p.tables e below (T'.setTop { g with pc := g.pc + 3, stack := .int r :: rest }) t → Steps p.tables e below (T.setTop g) t := by
  obtain ⟨cq, kq, qa, qb, qc⟩ := isOf hZ eT E
  obtain ⟨v, _, ⟨T', L', k', n'⟩, -, X', ⟨Lc, ⟨hQ, rfl, hh⟩, e1, e2, e3⟩, st⟩ := X.virtualBack hx hown (mvT hZ w1) (mvT hZ w2) (notFace_of_selects (args := #[]) (mvT hZ w5)) (mvT hZ w5) (mvT hZ w6) (by decide) (StrChars.Road.eqW hZ hws (kI := 4) wi E V C K hc hb l2 E' V' C' K' hc' hb' l2' S hz hf hl) qa qc hg hsz (Steps.refl _) (argsL := [.ref b]) (rest := rest) hlen hst (Nat.le_refl _) hd (fun _ _ => ⟨rfl, eT, hce, hs⟩)
  dsimp only [Pt.U, Pt.locs, Pt.cells, Pt.slots] at X' e1 e2 e3 st hQ hh
  subst e1 e2 e3
  have hv : v = some (.int r) := by
    rcases hQ with ⟨q1, q2⟩ | ⟨q1, q2⟩ <;> rcases hr with ⟨rfl, q3⟩ | ⟨rfl, q3⟩
    · exact q1
    · exact absurd q2 q3
    · exact absurd q3 q2
    · exact q1
  subst hv
  exact ⟨T', by simpa using X', hh, fun t k => st.trans k⟩
theorem own_getD (cs : List Int32) (i : Nat) : (cs.map Value.int).getD i (.int 0) = .int (cs.getD i 0) := by
  cases q : cs[i]? <;> simp [List.getD_eq_getElem?_getD, q]
theorem own_neL {a b : List Int32} {n k : Nat} (h1 : a.length = n) (h2 : b.length = k) (h : n ≠ k) : a ≠ b := fun q => h (by rw [← h1, ← h2, q])
theorem own_setT {l : List Int32} {k : Nat} {x : Int32} (hk : k < l.length) (h : l.getD k 0 = x) : l.set k x = l := by
  have e : l.getD k 0 = l[k] := by simp [List.getD_eq_getElem?_getD, hk]
  rw [← h, e]; exact List.set_getElem_self hk
theorem own_setF {l : List Int32} {k : Nat} {x : Int32} (hk : k < l.length) (h : ¬ l.getD k 0 = x) : l.set k x ≠ l := fun q => h (by
  have e : l.getD k 0 = l[k] := by simp [List.getD_eq_getElem?_getD, hk]
  have e2 : (l.set k x)[k]? = some x := by simp [hk]
  rw [q, List.getElem?_eq_getElem hk] at e2
  rw [e]; exact Option.some.inj e2)
theorem own_setLat {l : List Int32} {k : Nat} {x : Int32} (h : own_lat8 l) (hx : ¬ x < 0 ∧ ¬ (255 : Int32) < x) : own_lat8 (l.set k x) := fun c hc => by
  rcases List.mem_or_eq_of_mem_set hc with q | rfl
  · exact h c q
  · exact hx
theorem own_three {x y z : Int32} (hx : ¬ x < 0 ∧ ¬ (255 : Int32) < x) (hy : ¬ y < 0 ∧ ¬ (255 : Int32) < y) (hz : ¬ z < 0 ∧ ¬ (255 : Int32) < z) : own_lat8 [x, y, z] := fun c hc => by
  simp only [List.mem_cons, List.not_mem_nil, or_false] at hc
  rcases hc with rfl | rfl | rfl
  · exact hx
  · exact hy
  · exact hz
theorem own_latN (x : Int32) : ¬ nar .char ((x &&& (255 : Int32)).toUInt32.toUInt16.toUInt32.toInt32) < 0 ∧ ¬ (255 : Int32) < nar .char ((x &&& (255 : Int32)).toUInt32.toUInt16.toUInt32.toInt32) := by rw [own_i2c]; exact own_lat x
theorem own_rem (x n : Int32) (k : Nat) (hk : n.toInt = k) (hp : 0 < k) : ¬ (x &&& (2147483647 : Int32)) % n < 0 ∧ (x &&& (2147483647 : Int32)) % n < n ∧ ((x &&& (2147483647 : Int32)) % n).toNatClampNeg < k := by
  have h1 : (x &&& (2147483647 : Int32)).toInt = x.toInt % ((2 ^ 31 : Nat) : Int) := c_mask x (2147483647 : Int32) 31 (by decide) (by decide)
  have h2 : ((x &&& (2147483647 : Int32)) % n).toInt = (x.toInt % ((2 ^ 31 : Nat) : Int)).tmod k := by rw [Int32.toInt_mod, h1, hk]
  have h3 : 0 ≤ x.toInt % ((2 ^ 31 : Nat) : Int) := Int.emod_nonneg _ (by decide)
  rw [Int.tmod_eq_emod_of_nonneg h3] at h2
  have h4 := Int.emod_nonneg (x.toInt % ((2 ^ 31 : Nat) : Int)) (b := (k : Int)) (by omega)
  have h5 := Int.emod_lt_of_pos (x.toInt % ((2 ^ 31 : Nat) : Int)) (b := (k : Int)) (by omega)
  have e1 : (0 : Int32).toInt = 0 := rfl
  have e3 : ((x &&& (2147483647 : Int32)) % n).toNatClampNeg = ((x &&& (2147483647 : Int32)) % n).toInt.toNat := rfl
  rw [Int32.lt_iff_toInt_lt, Int32.lt_iff_toInt_lt, e1, e3, h2, hk]
  omega
end OwnQ
abbrev own_EL : List (String × Nat) := consts_1
abbrev own_EXT : List Int32 := [101, 120, 116, 101, 110, 115, 105, 111, 110]
theorem len_own_EXT : own_EXT.length = 9 := rfl
theorem lat_own_EXT : own_lat8 own_EXT := by decide +kernel
abbrev own_MOD : List Int32 := [109, 111, 100, 105, 102, 105, 101, 114, 69, 120, 116, 101, 110, 115, 105, 111, 110]
theorem len_own_MOD : own_MOD.length = 17 := rfl
theorem lat_own_MOD : own_lat8 own_MOD := by decide +kernel
abbrev own_EXTP : List Int32 := [101, 120, 116, 101, 110, 115, 105, 111, 110, 97]
theorem len_own_EXTP : own_EXTP.length = 10 := rfl
theorem lat_own_EXTP : own_lat8 own_EXTP := by decide +kernel
abbrev own_MODP : List Int32 := [109, 111, 100, 105, 102, 105, 101, 114, 69, 120, 116, 101, 110, 115, 105, 111, 110, 97]
theorem len_own_MODP : own_MODP.length = 18 := rfl
theorem lat_own_MODP : own_lat8 own_MODP := by decide +kernel
theorem cod_own_EXT : StrChars.Road.CodA own_EXT 0 (9 : Int32) [(.int (101 : Int32)), (.int (120 : Int32)), (.int (116 : Int32)), (.int (101 : Int32)), (.int (110 : Int32)), (.int (115 : Int32)), (.int (105 : Int32)), (.int (111 : Int32)), (.int (110 : Int32))] := Or.inl ⟨rfl, rfl, by decide +kernel, by decide +kernel⟩
theorem flip_lo_own_EXT : ∀ k : Fin 9, (own_EXT.getD k.1 0) < (97 : Int32) → own_EXT.set k.1 (nar .char (((own_EXT.getD k.1 0) + (32 : Int32)).toUInt32.toUInt16.toUInt32.toInt32)) ≠ own_EXT ∧ own_lat8 (own_EXT.set k.1 (nar .char (((own_EXT.getD k.1 0) + (32 : Int32)).toUInt32.toUInt16.toUInt32.toInt32))) := by decide +kernel
theorem flip_hi_own_EXT : ∀ k : Fin 9, (122 : Int32) < (own_EXT.getD k.1 0) → own_EXT.set k.1 (nar .char (((own_EXT.getD k.1 0) + (32 : Int32)).toUInt32.toUInt16.toUInt32.toInt32)) ≠ own_EXT ∧ own_lat8 (own_EXT.set k.1 (nar .char (((own_EXT.getD k.1 0) + (32 : Int32)).toUInt32.toUInt16.toUInt32.toInt32))) := by decide +kernel
theorem flip_md_own_EXT : ∀ k : Fin 9, ¬ (own_EXT.getD k.1 0) < (97 : Int32) → ¬ (122 : Int32) < (own_EXT.getD k.1 0) → own_EXT.set k.1 (nar .char (((own_EXT.getD k.1 0) - (32 : Int32)).toUInt32.toUInt16.toUInt32.toInt32)) ≠ own_EXT ∧ own_lat8 (own_EXT.set k.1 (nar .char (((own_EXT.getD k.1 0) - (32 : Int32)).toUInt32.toUInt16.toUInt32.toInt32))) := by decide +kernel
theorem cod_own_MOD : StrChars.Road.CodA own_MOD 0 (17 : Int32) [(.int (109 : Int32)), (.int (111 : Int32)), (.int (100 : Int32)), (.int (105 : Int32)), (.int (102 : Int32)), (.int (105 : Int32)), (.int (101 : Int32)), (.int (114 : Int32)), (.int (69 : Int32)), (.int (120 : Int32)), (.int (116 : Int32)), (.int (101 : Int32)), (.int (110 : Int32)), (.int (115 : Int32)), (.int (105 : Int32)), (.int (111 : Int32)), (.int (110 : Int32))] := Or.inl ⟨rfl, rfl, by decide +kernel, by decide +kernel⟩
theorem flip_lo_own_MOD : ∀ k : Fin 17, (own_MOD.getD k.1 0) < (97 : Int32) → own_MOD.set k.1 (nar .char (((own_MOD.getD k.1 0) + (32 : Int32)).toUInt32.toUInt16.toUInt32.toInt32)) ≠ own_MOD ∧ own_lat8 (own_MOD.set k.1 (nar .char (((own_MOD.getD k.1 0) + (32 : Int32)).toUInt32.toUInt16.toUInt32.toInt32))) := by decide +kernel
theorem flip_hi_own_MOD : ∀ k : Fin 17, (122 : Int32) < (own_MOD.getD k.1 0) → own_MOD.set k.1 (nar .char (((own_MOD.getD k.1 0) + (32 : Int32)).toUInt32.toUInt16.toUInt32.toInt32)) ≠ own_MOD ∧ own_lat8 (own_MOD.set k.1 (nar .char (((own_MOD.getD k.1 0) + (32 : Int32)).toUInt32.toUInt16.toUInt32.toInt32))) := by decide +kernel
theorem flip_md_own_MOD : ∀ k : Fin 17, ¬ (own_MOD.getD k.1 0) < (97 : Int32) → ¬ (122 : Int32) < (own_MOD.getD k.1 0) → own_MOD.set k.1 (nar .char (((own_MOD.getD k.1 0) - (32 : Int32)).toUInt32.toUInt16.toUInt32.toInt32)) ≠ own_MOD ∧ own_lat8 (own_MOD.set k.1 (nar .char (((own_MOD.getD k.1 0) - (32 : Int32)).toUInt32.toUInt16.toUInt32.toInt32))) := by decide +kernel
theorem d_method_2_code_0 : decode method_2_code 0 = .ok (.bipush 9, 2) := by decide +kernel
theorem d_method_2_code_2 : decode method_2_code 2 = .ok (.newarray .char, 2) := by decide +kernel
theorem d_method_2_code_4 : decode method_2_code 4 = .ok (.dup, 1) := by decide +kernel
theorem d_method_2_code_5 : decode method_2_code 5 = .ok (.iconst 0, 1) := by decide +kernel
theorem d_method_2_code_6 : decode method_2_code 6 = .ok (.bipush 101, 2) := by decide +kernel
theorem d_method_2_code_8 : decode method_2_code 8 = .ok (.castore, 1) := by decide +kernel
theorem d_method_2_code_9 : decode method_2_code 9 = .ok (.dup, 1) := by decide +kernel
theorem d_method_2_code_10 : decode method_2_code 10 = .ok (.iconst 1, 1) := by decide +kernel
theorem d_method_2_code_11 : decode method_2_code 11 = .ok (.bipush 120, 2) := by decide +kernel
theorem d_method_2_code_13 : decode method_2_code 13 = .ok (.castore, 1) := by decide +kernel
theorem d_method_2_code_14 : decode method_2_code 14 = .ok (.dup, 1) := by decide +kernel
theorem d_method_2_code_15 : decode method_2_code 15 = .ok (.iconst 2, 1) := by decide +kernel
theorem d_method_2_code_16 : decode method_2_code 16 = .ok (.bipush 116, 2) := by decide +kernel
theorem d_method_2_code_18 : decode method_2_code 18 = .ok (.castore, 1) := by decide +kernel
theorem d_method_2_code_19 : decode method_2_code 19 = .ok (.dup, 1) := by decide +kernel
theorem d_method_2_code_20 : decode method_2_code 20 = .ok (.iconst 3, 1) := by decide +kernel
theorem d_method_2_code_21 : decode method_2_code 21 = .ok (.bipush 101, 2) := by decide +kernel
theorem d_method_2_code_23 : decode method_2_code 23 = .ok (.castore, 1) := by decide +kernel
theorem d_method_2_code_24 : decode method_2_code 24 = .ok (.dup, 1) := by decide +kernel
theorem d_method_2_code_25 : decode method_2_code 25 = .ok (.iconst 4, 1) := by decide +kernel
theorem d_method_2_code_26 : decode method_2_code 26 = .ok (.bipush 110, 2) := by decide +kernel
theorem d_method_2_code_28 : decode method_2_code 28 = .ok (.castore, 1) := by decide +kernel
theorem d_method_2_code_29 : decode method_2_code 29 = .ok (.dup, 1) := by decide +kernel
theorem d_method_2_code_30 : decode method_2_code 30 = .ok (.iconst 5, 1) := by decide +kernel
theorem d_method_2_code_31 : decode method_2_code 31 = .ok (.bipush 115, 2) := by decide +kernel
theorem d_method_2_code_33 : decode method_2_code 33 = .ok (.castore, 1) := by decide +kernel
theorem d_method_2_code_34 : decode method_2_code 34 = .ok (.dup, 1) := by decide +kernel
theorem d_method_2_code_35 : decode method_2_code 35 = .ok (.bipush 6, 2) := by decide +kernel
theorem d_method_2_code_37 : decode method_2_code 37 = .ok (.bipush 105, 2) := by decide +kernel
theorem d_method_2_code_39 : decode method_2_code 39 = .ok (.castore, 1) := by decide +kernel
theorem d_method_2_code_40 : decode method_2_code 40 = .ok (.dup, 1) := by decide +kernel
theorem d_method_2_code_41 : decode method_2_code 41 = .ok (.bipush 7, 2) := by decide +kernel
theorem d_method_2_code_43 : decode method_2_code 43 = .ok (.bipush 111, 2) := by decide +kernel
theorem d_method_2_code_45 : decode method_2_code 45 = .ok (.castore, 1) := by decide +kernel
theorem d_method_2_code_46 : decode method_2_code 46 = .ok (.dup, 1) := by decide +kernel
theorem d_method_2_code_47 : decode method_2_code 47 = .ok (.bipush 8, 2) := by decide +kernel
theorem d_method_2_code_49 : decode method_2_code 49 = .ok (.bipush 110, 2) := by decide +kernel
theorem d_method_2_code_51 : decode method_2_code 51 = .ok (.castore, 1) := by decide +kernel
theorem d_method_2_code_52 : decode method_2_code 52 = .ok (.areturn, 1) := by decide +kernel
theorem pn_com_example_extlint_extlint_model_ExtensionNamesListPinLaw : plainName "com/example/extlint/extlint/model/ExtensionNamesListPinLaw" = true := by first | (simp [plainName, overriddenIn]; done) | decide +kernel
theorem ef_method_2_code (m : MethodId)  : entryFrame m #[] 0 = mkF m 0 #[] [] := by first | (simp [entryFrame, mkF, argsToLocals, Value.category]; done) | rfl
set_option maxRecDepth 65536 in
set_option maxHeartbeats 40000000 in
theorem rm_ext (l : Launch) (Z : State) (a0 : Array Value) (hw : ∀ d ∈ tables_1, d.before a0 Z = true)  (h0 : Heap) (n0 : Nat) (Z0 : n0 ≤ h0.size) :
    own_Met l Z (⟨"com/example/extlint/extlint/model/ExtensionNamesListPinLaw", "ext", "()[C"⟩ : MethodName) method_2_code 0 (some (.array .char)) ({ frames := 0, cells := 1, slots := 9, locals := 0 } : Room) #[] h0 (fun v h L => ∃ (b : Addr) (k : ClassId), v = some (.ref b) ∧ Fr n0 L ∧ Keep h0 h [] ∧ h0.size ≤ b ∧ Arv Z h b k .char (9 : Int32) (own_EXT.map Value.int) (.int (0 : Int32))) := by
  refine own_body (plainFor_of_name pn_com_example_extlint_extlint_model_ExtensionNamesListPinLaw) ?_
  intro p e s m below meth c T0 X0 e0 hx hby hml hown hnm hret hlk hZ
  replace hown : s.vm.findClass "com/example/extlint/extlint/model/ExtensionNamesListPinLaw" = some m.cls := hown
  have N0 := Fr.nil n0
  refine own_of (fun tt_ kk_ => castTop (ef_method_2_code m ) kk_) ?_
  have K := Keep.refl h0 []
  show own_Ends _ _ _ _ _ _ (T0.setTop (mkF m 0 #[] []))
  refine own_of (fun tt_ kk_ => XS.bipush X0.here hx rfl (hb hby d_method_2_code_0) kk_) ?_
  show own_Ends _ _ _ _ _ _ (T0.setTop (mkF m 2 #[] [(.int (9 : Int32))]))
  obtain ⟨T1, h1, k1, X1, e1, E1, A1, st1⟩ := newP X0 hx hZ (hw _ (List.mem_of_getElem? (i := 4) rfl)) e0 (g := (mkF m 2 #[] [(.int (9 : Int32))])) rfl (hb hby d_method_2_code_2) rfl (by decide) (cap := 9) (by decide) (by decide) (by decide) (by decide)
  obtain ⟨b1, g1⟩ : ∃ z, z = h0.size := ⟨_, rfl⟩
  rw [← g1] at A1 st1
  have sz_b1 : h0.size ≤ b1 := Nat.le_trans K.1 (Nat.le_of_eq g1.symm)
  have g_b1 : n0 ≤ b1 := Nat.le_trans Z0 sz_b1
  have V1 : Arv Z h1 b1 k1 .char (9 : Int32) [(.int (0 : Int32)), (.int (0 : Int32)), (.int (0 : Int32)), (.int (0 : Int32)), (.int (0 : Int32)), (.int (0 : Int32)), (.int (0 : Int32)), (.int (0 : Int32)), (.int (0 : Int32))] (.int (0 : Int32)) := (Arv.new A1 (by decide)).pad (pad_rep [] (.int (0 : Int32)) 9)
  replace K := K.ext E1
  refine own_of st1 ?_
  show own_Ends _ _ _ _ _ _ (T1.setTop (mkF m 4 #[] [(.ref b1)]))
  refine own_of (fun tt_ kk_ => XS.dup X1.here hx rfl (hb hby d_method_2_code_4) rfl rfl kk_) ?_
  show own_Ends _ _ _ _ _ _ (T1.setTop (mkF m 5 #[] [(.ref b1), (.ref b1)]))
  refine own_of (fun tt_ kk_ => XS.iconst X1.here hx rfl (hb hby d_method_2_code_5) kk_) ?_
  show own_Ends _ _ _ _ _ _ (T1.setTop (mkF m 6 #[] [(.int (0 : Int32)), (.ref b1), (.ref b1)]))
  refine own_of (fun tt_ kk_ => XS.bipush X1.here hx rfl (hb hby d_method_2_code_6) kk_) ?_
  show own_Ends _ _ _ _ _ _ (T1.setTop (mkF m 8 #[] [(.int (101 : Int32)), (.int (0 : Int32)), (.ref b1), (.ref b1)]))
  obtain ⟨cl2, Ar2, q2, S2, N2', H2, G2⟩ := V1
  have hin2 : ¬ ((0 : Int32) < 0 ∨ cl2.slots.size ≤ ((0 : Int32)).toNatClampNeg) := inb_of S2 ⟨by decide, by decide⟩
  obtain ⟨T2, h2, X2, e2, W2, st2⟩ := stC X1 hx hZ e1 Ar2 (j := (0 : Int32)) hin2 (g := (mkF m 8 #[] [(.int (101 : Int32)), (.int (0 : Int32)), (.ref b1), (.ref b1)])) rfl rfl (hb hby d_method_2_code_8)
  have V2' : Arv Z h2 b1 k1 .char (9 : Int32) [(.int (101 : Int32)), (.int (0 : Int32)), (.int (0 : Int32)), (.int (0 : Int32)), (.int (0 : Int32)), (.int (0 : Int32)), (.int (0 : Int32)), (.int (0 : Int32)), (.int (0 : Int32))] (.int (0 : Int32)) := Arv.set Ar2 q2 S2 N2' H2 G2 rfl W2 0 rfl (Nat.le_of_ble_eq_true rfl)
  have N2 := Fr.snoc X2 N0 g_b1
  replace K := K.wr W2 (Or.inr sz_b1)
  refine own_of st2 ?_
  show own_Ends _ _ _ _ _ _ (T2.setTop (mkF m 9 #[] [(.ref b1)]))
  refine own_of (fun tt_ kk_ => XS.dup X2.here hx rfl (hb hby d_method_2_code_9) rfl rfl kk_) ?_
  show own_Ends _ _ _ _ _ _ (T2.setTop (mkF m 10 #[] [(.ref b1), (.ref b1)]))
  refine own_of (fun tt_ kk_ => XS.iconst X2.here hx rfl (hb hby d_method_2_code_10) kk_) ?_
  show own_Ends _ _ _ _ _ _ (T2.setTop (mkF m 11 #[] [(.int (1 : Int32)), (.ref b1), (.ref b1)]))
  refine own_of (fun tt_ kk_ => XS.bipush X2.here hx rfl (hb hby d_method_2_code_11) kk_) ?_
  show own_Ends _ _ _ _ _ _ (T2.setTop (mkF m 13 #[] [(.int (120 : Int32)), (.int (1 : Int32)), (.ref b1), (.ref b1)]))
  obtain ⟨cl3, Ar3, q3, S3, N3', H3, G3⟩ := V2'
  have hin3 : ¬ ((1 : Int32) < 0 ∨ cl3.slots.size ≤ ((1 : Int32)).toNatClampNeg) := inb_of S3 ⟨by decide, by decide⟩
  obtain ⟨T3, h3, X3, e3, W3, st3⟩ := stC X2 hx hZ e2 Ar3 (j := (1 : Int32)) hin3 (g := (mkF m 13 #[] [(.int (120 : Int32)), (.int (1 : Int32)), (.ref b1), (.ref b1)])) rfl rfl (hb hby d_method_2_code_13)
  have V3' : Arv Z h3 b1 k1 .char (9 : Int32) [(.int (101 : Int32)), (.int (120 : Int32)), (.int (0 : Int32)), (.int (0 : Int32)), (.int (0 : Int32)), (.int (0 : Int32)), (.int (0 : Int32)), (.int (0 : Int32)), (.int (0 : Int32))] (.int (0 : Int32)) := Arv.set Ar3 q3 S3 N3' H3 G3 rfl W3 1 rfl (Nat.le_of_ble_eq_true rfl)
  have N3 := Fr.snoc X3 N2 g_b1
  replace K := K.wr W3 (Or.inr sz_b1)
  refine own_of st3 ?_
  show own_Ends _ _ _ _ _ _ (T3.setTop (mkF m 14 #[] [(.ref b1)]))
  refine own_of (fun tt_ kk_ => XS.dup X3.here hx rfl (hb hby d_method_2_code_14) rfl rfl kk_) ?_
  show own_Ends _ _ _ _ _ _ (T3.setTop (mkF m 15 #[] [(.ref b1), (.ref b1)]))
  refine own_of (fun tt_ kk_ => XS.iconst X3.here hx rfl (hb hby d_method_2_code_15) kk_) ?_
  show own_Ends _ _ _ _ _ _ (T3.setTop (mkF m 16 #[] [(.int (2 : Int32)), (.ref b1), (.ref b1)]))
  refine own_of (fun tt_ kk_ => XS.bipush X3.here hx rfl (hb hby d_method_2_code_16) kk_) ?_
  show own_Ends _ _ _ _ _ _ (T3.setTop (mkF m 18 #[] [(.int (116 : Int32)), (.int (2 : Int32)), (.ref b1), (.ref b1)]))
  obtain ⟨cl4, Ar4, q4, S4, N4', H4, G4⟩ := V3'
  have hin4 : ¬ ((2 : Int32) < 0 ∨ cl4.slots.size ≤ ((2 : Int32)).toNatClampNeg) := inb_of S4 ⟨by decide, by decide⟩
  obtain ⟨T4, h4, X4, e4, W4, st4⟩ := stC X3 hx hZ e3 Ar4 (j := (2 : Int32)) hin4 (g := (mkF m 18 #[] [(.int (116 : Int32)), (.int (2 : Int32)), (.ref b1), (.ref b1)])) rfl rfl (hb hby d_method_2_code_18)
  have V4' : Arv Z h4 b1 k1 .char (9 : Int32) [(.int (101 : Int32)), (.int (120 : Int32)), (.int (116 : Int32)), (.int (0 : Int32)), (.int (0 : Int32)), (.int (0 : Int32)), (.int (0 : Int32)), (.int (0 : Int32)), (.int (0 : Int32))] (.int (0 : Int32)) := Arv.set Ar4 q4 S4 N4' H4 G4 rfl W4 2 rfl (Nat.le_of_ble_eq_true rfl)
  have N4 := Fr.snoc X4 N3 g_b1
  replace K := K.wr W4 (Or.inr sz_b1)
  refine own_of st4 ?_
  show own_Ends _ _ _ _ _ _ (T4.setTop (mkF m 19 #[] [(.ref b1)]))
  refine own_of (fun tt_ kk_ => XS.dup X4.here hx rfl (hb hby d_method_2_code_19) rfl rfl kk_) ?_
  show own_Ends _ _ _ _ _ _ (T4.setTop (mkF m 20 #[] [(.ref b1), (.ref b1)]))
  refine own_of (fun tt_ kk_ => XS.iconst X4.here hx rfl (hb hby d_method_2_code_20) kk_) ?_
  show own_Ends _ _ _ _ _ _ (T4.setTop (mkF m 21 #[] [(.int (3 : Int32)), (.ref b1), (.ref b1)]))
  refine own_of (fun tt_ kk_ => XS.bipush X4.here hx rfl (hb hby d_method_2_code_21) kk_) ?_
  show own_Ends _ _ _ _ _ _ (T4.setTop (mkF m 23 #[] [(.int (101 : Int32)), (.int (3 : Int32)), (.ref b1), (.ref b1)]))
  obtain ⟨cl5, Ar5, q5, S5, N5', H5, G5⟩ := V4'
  have hin5 : ¬ ((3 : Int32) < 0 ∨ cl5.slots.size ≤ ((3 : Int32)).toNatClampNeg) := inb_of S5 ⟨by decide, by decide⟩
  obtain ⟨T5, h5, X5, e5, W5, st5⟩ := stC X4 hx hZ e4 Ar5 (j := (3 : Int32)) hin5 (g := (mkF m 23 #[] [(.int (101 : Int32)), (.int (3 : Int32)), (.ref b1), (.ref b1)])) rfl rfl (hb hby d_method_2_code_23)
  have V5' : Arv Z h5 b1 k1 .char (9 : Int32) [(.int (101 : Int32)), (.int (120 : Int32)), (.int (116 : Int32)), (.int (101 : Int32)), (.int (0 : Int32)), (.int (0 : Int32)), (.int (0 : Int32)), (.int (0 : Int32)), (.int (0 : Int32))] (.int (0 : Int32)) := Arv.set Ar5 q5 S5 N5' H5 G5 rfl W5 3 rfl (Nat.le_of_ble_eq_true rfl)
  have N5 := Fr.snoc X5 N4 g_b1
  replace K := K.wr W5 (Or.inr sz_b1)
  refine own_of st5 ?_
  show own_Ends _ _ _ _ _ _ (T5.setTop (mkF m 24 #[] [(.ref b1)]))
  refine own_of (fun tt_ kk_ => XS.dup X5.here hx rfl (hb hby d_method_2_code_24) rfl rfl kk_) ?_
  show own_Ends _ _ _ _ _ _ (T5.setTop (mkF m 25 #[] [(.ref b1), (.ref b1)]))
  refine own_of (fun tt_ kk_ => XS.iconst X5.here hx rfl (hb hby d_method_2_code_25) kk_) ?_
  show own_Ends _ _ _ _ _ _ (T5.setTop (mkF m 26 #[] [(.int (4 : Int32)), (.ref b1), (.ref b1)]))
  refine own_of (fun tt_ kk_ => XS.bipush X5.here hx rfl (hb hby d_method_2_code_26) kk_) ?_
  show own_Ends _ _ _ _ _ _ (T5.setTop (mkF m 28 #[] [(.int (110 : Int32)), (.int (4 : Int32)), (.ref b1), (.ref b1)]))
  obtain ⟨cl6, Ar6, q6, S6, N6', H6, G6⟩ := V5'
  have hin6 : ¬ ((4 : Int32) < 0 ∨ cl6.slots.size ≤ ((4 : Int32)).toNatClampNeg) := inb_of S6 ⟨by decide, by decide⟩
  obtain ⟨T6, h6, X6, e6, W6, st6⟩ := stC X5 hx hZ e5 Ar6 (j := (4 : Int32)) hin6 (g := (mkF m 28 #[] [(.int (110 : Int32)), (.int (4 : Int32)), (.ref b1), (.ref b1)])) rfl rfl (hb hby d_method_2_code_28)
  have V6' : Arv Z h6 b1 k1 .char (9 : Int32) [(.int (101 : Int32)), (.int (120 : Int32)), (.int (116 : Int32)), (.int (101 : Int32)), (.int (110 : Int32)), (.int (0 : Int32)), (.int (0 : Int32)), (.int (0 : Int32)), (.int (0 : Int32))] (.int (0 : Int32)) := Arv.set Ar6 q6 S6 N6' H6 G6 rfl W6 4 rfl (Nat.le_of_ble_eq_true rfl)
  have N6 := Fr.snoc X6 N5 g_b1
  replace K := K.wr W6 (Or.inr sz_b1)
  refine own_of st6 ?_
  show own_Ends _ _ _ _ _ _ (T6.setTop (mkF m 29 #[] [(.ref b1)]))
  refine own_of (fun tt_ kk_ => XS.dup X6.here hx rfl (hb hby d_method_2_code_29) rfl rfl kk_) ?_
  show own_Ends _ _ _ _ _ _ (T6.setTop (mkF m 30 #[] [(.ref b1), (.ref b1)]))
  refine own_of (fun tt_ kk_ => XS.iconst X6.here hx rfl (hb hby d_method_2_code_30) kk_) ?_
  show own_Ends _ _ _ _ _ _ (T6.setTop (mkF m 31 #[] [(.int (5 : Int32)), (.ref b1), (.ref b1)]))
  refine own_of (fun tt_ kk_ => XS.bipush X6.here hx rfl (hb hby d_method_2_code_31) kk_) ?_
  show own_Ends _ _ _ _ _ _ (T6.setTop (mkF m 33 #[] [(.int (115 : Int32)), (.int (5 : Int32)), (.ref b1), (.ref b1)]))
  obtain ⟨cl7, Ar7, q7, S7, N7', H7, G7⟩ := V6'
  have hin7 : ¬ ((5 : Int32) < 0 ∨ cl7.slots.size ≤ ((5 : Int32)).toNatClampNeg) := inb_of S7 ⟨by decide, by decide⟩
  obtain ⟨T7, h7, X7, e7, W7, st7⟩ := stC X6 hx hZ e6 Ar7 (j := (5 : Int32)) hin7 (g := (mkF m 33 #[] [(.int (115 : Int32)), (.int (5 : Int32)), (.ref b1), (.ref b1)])) rfl rfl (hb hby d_method_2_code_33)
  have V7' : Arv Z h7 b1 k1 .char (9 : Int32) [(.int (101 : Int32)), (.int (120 : Int32)), (.int (116 : Int32)), (.int (101 : Int32)), (.int (110 : Int32)), (.int (115 : Int32)), (.int (0 : Int32)), (.int (0 : Int32)), (.int (0 : Int32))] (.int (0 : Int32)) := Arv.set Ar7 q7 S7 N7' H7 G7 rfl W7 5 rfl (Nat.le_of_ble_eq_true rfl)
  have N7 := Fr.snoc X7 N6 g_b1
  replace K := K.wr W7 (Or.inr sz_b1)
  refine own_of st7 ?_
  show own_Ends _ _ _ _ _ _ (T7.setTop (mkF m 34 #[] [(.ref b1)]))
  refine own_of (fun tt_ kk_ => XS.dup X7.here hx rfl (hb hby d_method_2_code_34) rfl rfl kk_) ?_
  show own_Ends _ _ _ _ _ _ (T7.setTop (mkF m 35 #[] [(.ref b1), (.ref b1)]))
  refine own_of (fun tt_ kk_ => XS.bipush X7.here hx rfl (hb hby d_method_2_code_35) kk_) ?_
  show own_Ends _ _ _ _ _ _ (T7.setTop (mkF m 37 #[] [(.int (6 : Int32)), (.ref b1), (.ref b1)]))
  refine own_of (fun tt_ kk_ => XS.bipush X7.here hx rfl (hb hby d_method_2_code_37) kk_) ?_
  show own_Ends _ _ _ _ _ _ (T7.setTop (mkF m 39 #[] [(.int (105 : Int32)), (.int (6 : Int32)), (.ref b1), (.ref b1)]))
  obtain ⟨cl8, Ar8, q8, S8, N8', H8, G8⟩ := V7'
  have hin8 : ¬ ((6 : Int32) < 0 ∨ cl8.slots.size ≤ ((6 : Int32)).toNatClampNeg) := inb_of S8 ⟨by decide, by decide⟩
  obtain ⟨T8, h8, X8, e8, W8, st8⟩ := stC X7 hx hZ e7 Ar8 (j := (6 : Int32)) hin8 (g := (mkF m 39 #[] [(.int (105 : Int32)), (.int (6 : Int32)), (.ref b1), (.ref b1)])) rfl rfl (hb hby d_method_2_code_39)
  have V8' : Arv Z h8 b1 k1 .char (9 : Int32) [(.int (101 : Int32)), (.int (120 : Int32)), (.int (116 : Int32)), (.int (101 : Int32)), (.int (110 : Int32)), (.int (115 : Int32)), (.int (105 : Int32)), (.int (0 : Int32)), (.int (0 : Int32))] (.int (0 : Int32)) := Arv.set Ar8 q8 S8 N8' H8 G8 rfl W8 6 rfl (Nat.le_of_ble_eq_true rfl)
  have N8 := Fr.snoc X8 N7 g_b1
  replace K := K.wr W8 (Or.inr sz_b1)
  refine own_of st8 ?_
  show own_Ends _ _ _ _ _ _ (T8.setTop (mkF m 40 #[] [(.ref b1)]))
  refine own_of (fun tt_ kk_ => XS.dup X8.here hx rfl (hb hby d_method_2_code_40) rfl rfl kk_) ?_
  show own_Ends _ _ _ _ _ _ (T8.setTop (mkF m 41 #[] [(.ref b1), (.ref b1)]))
  refine own_of (fun tt_ kk_ => XS.bipush X8.here hx rfl (hb hby d_method_2_code_41) kk_) ?_
  show own_Ends _ _ _ _ _ _ (T8.setTop (mkF m 43 #[] [(.int (7 : Int32)), (.ref b1), (.ref b1)]))
  refine own_of (fun tt_ kk_ => XS.bipush X8.here hx rfl (hb hby d_method_2_code_43) kk_) ?_
  show own_Ends _ _ _ _ _ _ (T8.setTop (mkF m 45 #[] [(.int (111 : Int32)), (.int (7 : Int32)), (.ref b1), (.ref b1)]))
  obtain ⟨cl9, Ar9, q9, S9, N9', H9, G9⟩ := V8'
  have hin9 : ¬ ((7 : Int32) < 0 ∨ cl9.slots.size ≤ ((7 : Int32)).toNatClampNeg) := inb_of S9 ⟨by decide, by decide⟩
  obtain ⟨T9, h9, X9, e9, W9, st9⟩ := stC X8 hx hZ e8 Ar9 (j := (7 : Int32)) hin9 (g := (mkF m 45 #[] [(.int (111 : Int32)), (.int (7 : Int32)), (.ref b1), (.ref b1)])) rfl rfl (hb hby d_method_2_code_45)
  have V9' : Arv Z h9 b1 k1 .char (9 : Int32) [(.int (101 : Int32)), (.int (120 : Int32)), (.int (116 : Int32)), (.int (101 : Int32)), (.int (110 : Int32)), (.int (115 : Int32)), (.int (105 : Int32)), (.int (111 : Int32)), (.int (0 : Int32))] (.int (0 : Int32)) := Arv.set Ar9 q9 S9 N9' H9 G9 rfl W9 7 rfl (Nat.le_of_ble_eq_true rfl)
  have N9 := Fr.snoc X9 N8 g_b1
  replace K := K.wr W9 (Or.inr sz_b1)
  refine own_of st9 ?_
  show own_Ends _ _ _ _ _ _ (T9.setTop (mkF m 46 #[] [(.ref b1)]))
  refine own_of (fun tt_ kk_ => XS.dup X9.here hx rfl (hb hby d_method_2_code_46) rfl rfl kk_) ?_
  show own_Ends _ _ _ _ _ _ (T9.setTop (mkF m 47 #[] [(.ref b1), (.ref b1)]))
  refine own_of (fun tt_ kk_ => XS.bipush X9.here hx rfl (hb hby d_method_2_code_47) kk_) ?_
  show own_Ends _ _ _ _ _ _ (T9.setTop (mkF m 49 #[] [(.int (8 : Int32)), (.ref b1), (.ref b1)]))
  refine own_of (fun tt_ kk_ => XS.bipush X9.here hx rfl (hb hby d_method_2_code_49) kk_) ?_
  show own_Ends _ _ _ _ _ _ (T9.setTop (mkF m 51 #[] [(.int (110 : Int32)), (.int (8 : Int32)), (.ref b1), (.ref b1)]))
  obtain ⟨cl10, Ar10, q10, S10, N10', H10, G10⟩ := V9'
  have hin10 : ¬ ((8 : Int32) < 0 ∨ cl10.slots.size ≤ ((8 : Int32)).toNatClampNeg) := inb_of S10 ⟨by decide, by decide⟩
  obtain ⟨T10, h10, X10, e10, W10, st10⟩ := stC X9 hx hZ e9 Ar10 (j := (8 : Int32)) hin10 (g := (mkF m 51 #[] [(.int (110 : Int32)), (.int (8 : Int32)), (.ref b1), (.ref b1)])) rfl rfl (hb hby d_method_2_code_51)
  have V10' : Arv Z h10 b1 k1 .char (9 : Int32) [(.int (101 : Int32)), (.int (120 : Int32)), (.int (116 : Int32)), (.int (101 : Int32)), (.int (110 : Int32)), (.int (115 : Int32)), (.int (105 : Int32)), (.int (111 : Int32)), (.int (110 : Int32))] (.int (0 : Int32)) := Arv.set Ar10 q10 S10 N10' H10 G10 rfl W10 8 rfl (Nat.le_of_ble_eq_true rfl)
  have N10 := Fr.snoc X10 N9 g_b1
  replace K := K.wr W10 (Or.inr sz_b1)
  refine own_of st10 ?_
  show own_Ends _ _ _ _ _ _ (T10.setTop (mkF m 52 #[] [(.ref b1)]))
  refine own_retA X10 hx hlk e10 hret rfl rfl (hb hby d_method_2_code_52) (by decide) (by decide) ?_
  exact ⟨b1, k1, rfl, N10, K, sz_b1, V10'⟩
theorem d_method_3_code_0 : decode method_3_code 0 = .ok (.bipush 17, 2) := by decide +kernel
theorem d_method_3_code_2 : decode method_3_code 2 = .ok (.newarray .char, 2) := by decide +kernel
theorem d_method_3_code_4 : decode method_3_code 4 = .ok (.dup, 1) := by decide +kernel
theorem d_method_3_code_5 : decode method_3_code 5 = .ok (.iconst 0, 1) := by decide +kernel
theorem d_method_3_code_6 : decode method_3_code 6 = .ok (.bipush 109, 2) := by decide +kernel
theorem d_method_3_code_8 : decode method_3_code 8 = .ok (.castore, 1) := by decide +kernel
theorem d_method_3_code_9 : decode method_3_code 9 = .ok (.dup, 1) := by decide +kernel
theorem d_method_3_code_10 : decode method_3_code 10 = .ok (.iconst 1, 1) := by decide +kernel
theorem d_method_3_code_11 : decode method_3_code 11 = .ok (.bipush 111, 2) := by decide +kernel
theorem d_method_3_code_13 : decode method_3_code 13 = .ok (.castore, 1) := by decide +kernel
theorem d_method_3_code_14 : decode method_3_code 14 = .ok (.dup, 1) := by decide +kernel
theorem d_method_3_code_15 : decode method_3_code 15 = .ok (.iconst 2, 1) := by decide +kernel
theorem d_method_3_code_16 : decode method_3_code 16 = .ok (.bipush 100, 2) := by decide +kernel
theorem d_method_3_code_18 : decode method_3_code 18 = .ok (.castore, 1) := by decide +kernel
theorem d_method_3_code_19 : decode method_3_code 19 = .ok (.dup, 1) := by decide +kernel
theorem d_method_3_code_20 : decode method_3_code 20 = .ok (.iconst 3, 1) := by decide +kernel
theorem d_method_3_code_21 : decode method_3_code 21 = .ok (.bipush 105, 2) := by decide +kernel
theorem d_method_3_code_23 : decode method_3_code 23 = .ok (.castore, 1) := by decide +kernel
theorem d_method_3_code_24 : decode method_3_code 24 = .ok (.dup, 1) := by decide +kernel
theorem d_method_3_code_25 : decode method_3_code 25 = .ok (.iconst 4, 1) := by decide +kernel
theorem d_method_3_code_26 : decode method_3_code 26 = .ok (.bipush 102, 2) := by decide +kernel
theorem d_method_3_code_28 : decode method_3_code 28 = .ok (.castore, 1) := by decide +kernel
theorem d_method_3_code_29 : decode method_3_code 29 = .ok (.dup, 1) := by decide +kernel
theorem d_method_3_code_30 : decode method_3_code 30 = .ok (.iconst 5, 1) := by decide +kernel
theorem d_method_3_code_31 : decode method_3_code 31 = .ok (.bipush 105, 2) := by decide +kernel
theorem d_method_3_code_33 : decode method_3_code 33 = .ok (.castore, 1) := by decide +kernel
theorem d_method_3_code_34 : decode method_3_code 34 = .ok (.dup, 1) := by decide +kernel
theorem d_method_3_code_35 : decode method_3_code 35 = .ok (.bipush 6, 2) := by decide +kernel
theorem d_method_3_code_37 : decode method_3_code 37 = .ok (.bipush 101, 2) := by decide +kernel
theorem d_method_3_code_39 : decode method_3_code 39 = .ok (.castore, 1) := by decide +kernel
theorem d_method_3_code_40 : decode method_3_code 40 = .ok (.dup, 1) := by decide +kernel
theorem d_method_3_code_41 : decode method_3_code 41 = .ok (.bipush 7, 2) := by decide +kernel
theorem d_method_3_code_43 : decode method_3_code 43 = .ok (.bipush 114, 2) := by decide +kernel
theorem d_method_3_code_45 : decode method_3_code 45 = .ok (.castore, 1) := by decide +kernel
theorem d_method_3_code_46 : decode method_3_code 46 = .ok (.dup, 1) := by decide +kernel
theorem d_method_3_code_47 : decode method_3_code 47 = .ok (.bipush 8, 2) := by decide +kernel
theorem d_method_3_code_49 : decode method_3_code 49 = .ok (.bipush 69, 2) := by decide +kernel
theorem d_method_3_code_51 : decode method_3_code 51 = .ok (.castore, 1) := by decide +kernel
theorem d_method_3_code_52 : decode method_3_code 52 = .ok (.dup, 1) := by decide +kernel
theorem d_method_3_code_53 : decode method_3_code 53 = .ok (.bipush 9, 2) := by decide +kernel
theorem d_method_3_code_55 : decode method_3_code 55 = .ok (.bipush 120, 2) := by decide +kernel
theorem d_method_3_code_57 : decode method_3_code 57 = .ok (.castore, 1) := by decide +kernel
theorem d_method_3_code_58 : decode method_3_code 58 = .ok (.dup, 1) := by decide +kernel
theorem d_method_3_code_59 : decode method_3_code 59 = .ok (.bipush 10, 2) := by decide +kernel
theorem d_method_3_code_61 : decode method_3_code 61 = .ok (.bipush 116, 2) := by decide +kernel
theorem d_method_3_code_63 : decode method_3_code 63 = .ok (.castore, 1) := by decide +kernel
theorem d_method_3_code_64 : decode method_3_code 64 = .ok (.dup, 1) := by decide +kernel
theorem d_method_3_code_65 : decode method_3_code 65 = .ok (.bipush 11, 2) := by decide +kernel
theorem d_method_3_code_67 : decode method_3_code 67 = .ok (.bipush 101, 2) := by decide +kernel
theorem d_method_3_code_69 : decode method_3_code 69 = .ok (.castore, 1) := by decide +kernel
theorem d_method_3_code_70 : decode method_3_code 70 = .ok (.dup, 1) := by decide +kernel
theorem d_method_3_code_71 : decode method_3_code 71 = .ok (.bipush 12, 2) := by decide +kernel
theorem d_method_3_code_73 : decode method_3_code 73 = .ok (.bipush 110, 2) := by decide +kernel
theorem d_method_3_code_75 : decode method_3_code 75 = .ok (.castore, 1) := by decide +kernel
theorem d_method_3_code_76 : decode method_3_code 76 = .ok (.dup, 1) := by decide +kernel
theorem d_method_3_code_77 : decode method_3_code 77 = .ok (.bipush 13, 2) := by decide +kernel
theorem d_method_3_code_79 : decode method_3_code 79 = .ok (.bipush 115, 2) := by decide +kernel
theorem d_method_3_code_81 : decode method_3_code 81 = .ok (.castore, 1) := by decide +kernel
theorem d_method_3_code_82 : decode method_3_code 82 = .ok (.dup, 1) := by decide +kernel
theorem d_method_3_code_83 : decode method_3_code 83 = .ok (.bipush 14, 2) := by decide +kernel
theorem d_method_3_code_85 : decode method_3_code 85 = .ok (.bipush 105, 2) := by decide +kernel
theorem d_method_3_code_87 : decode method_3_code 87 = .ok (.castore, 1) := by decide +kernel
theorem d_method_3_code_88 : decode method_3_code 88 = .ok (.dup, 1) := by decide +kernel
theorem d_method_3_code_89 : decode method_3_code 89 = .ok (.bipush 15, 2) := by decide +kernel
theorem d_method_3_code_91 : decode method_3_code 91 = .ok (.bipush 111, 2) := by decide +kernel
theorem d_method_3_code_93 : decode method_3_code 93 = .ok (.castore, 1) := by decide +kernel
theorem d_method_3_code_94 : decode method_3_code 94 = .ok (.dup, 1) := by decide +kernel
theorem d_method_3_code_95 : decode method_3_code 95 = .ok (.bipush 16, 2) := by decide +kernel
theorem d_method_3_code_97 : decode method_3_code 97 = .ok (.bipush 110, 2) := by decide +kernel
theorem d_method_3_code_99 : decode method_3_code 99 = .ok (.castore, 1) := by decide +kernel
theorem d_method_3_code_100 : decode method_3_code 100 = .ok (.areturn, 1) := by decide +kernel
theorem ef_method_3_code (m : MethodId)  : entryFrame m #[] 0 = mkF m 0 #[] [] := by first | (simp [entryFrame, mkF, argsToLocals, Value.category]; done) | rfl
set_option maxRecDepth 65536 in
set_option maxHeartbeats 40000000 in
theorem rm_mod (l : Launch) (Z : State) (a0 : Array Value) (hw : ∀ d ∈ tables_1, d.before a0 Z = true)  (h0 : Heap) (n0 : Nat) (Z0 : n0 ≤ h0.size) :
    own_Met l Z (⟨"com/example/extlint/extlint/model/ExtensionNamesListPinLaw", "mod", "()[C"⟩ : MethodName) method_3_code 0 (some (.array .char)) ({ frames := 0, cells := 1, slots := 17, locals := 0 } : Room) #[] h0 (fun v h L => ∃ (b : Addr) (k : ClassId), v = some (.ref b) ∧ Fr n0 L ∧ Keep h0 h [] ∧ h0.size ≤ b ∧ Arv Z h b k .char (17 : Int32) (own_MOD.map Value.int) (.int (0 : Int32))) := by
  refine own_body (plainFor_of_name pn_com_example_extlint_extlint_model_ExtensionNamesListPinLaw) ?_
  intro p e s m below meth c T0 X0 e0 hx hby hml hown hnm hret hlk hZ
  replace hown : s.vm.findClass "com/example/extlint/extlint/model/ExtensionNamesListPinLaw" = some m.cls := hown
  have N0 := Fr.nil n0
  refine own_of (fun tt_ kk_ => castTop (ef_method_3_code m ) kk_) ?_
  have K := Keep.refl h0 []
  show own_Ends _ _ _ _ _ _ (T0.setTop (mkF m 0 #[] []))
  refine own_of (fun tt_ kk_ => XS.bipush X0.here hx rfl (hb hby d_method_3_code_0) kk_) ?_
  show own_Ends _ _ _ _ _ _ (T0.setTop (mkF m 2 #[] [(.int (17 : Int32))]))
  obtain ⟨T11, h11, k11, X11, e11, E11, A11, st11⟩ := newP X0 hx hZ (hw _ (List.mem_of_getElem? (i := 4) rfl)) e0 (g := (mkF m 2 #[] [(.int (17 : Int32))])) rfl (hb hby d_method_3_code_2) rfl (by decide) (cap := 17) (by decide) (by decide) (by decide) (by decide)
  obtain ⟨b11, g11⟩ : ∃ z, z = h0.size := ⟨_, rfl⟩
  rw [← g11] at A11 st11
  have sz_b11 : h0.size ≤ b11 := Nat.le_trans K.1 (Nat.le_of_eq g11.symm)
  have g_b11 : n0 ≤ b11 := Nat.le_trans Z0 sz_b11
  have V11 : Arv Z h11 b11 k11 .char (17 : Int32) [(.int (0 : Int32)), (.int (0 : Int32)), (.int (0 : Int32)), (.int (0 : Int32)), (.int (0 : Int32)), (.int (0 : Int32)), (.int (0 : Int32)), (.int (0 : Int32)), (.int (0 : Int32)), (.int (0 : Int32)), (.int (0 : Int32)), (.int (0 : Int32)), (.int (0 : Int32)), (.int (0 : Int32)), (.int (0 : Int32)), (.int (0 : Int32)), (.int (0 : Int32))] (.int (0 : Int32)) := (Arv.new A11 (by decide)).pad (pad_rep [] (.int (0 : Int32)) 17)
  replace K := K.ext E11
  refine own_of st11 ?_
  show own_Ends _ _ _ _ _ _ (T11.setTop (mkF m 4 #[] [(.ref b11)]))
  refine own_of (fun tt_ kk_ => XS.dup X11.here hx rfl (hb hby d_method_3_code_4) rfl rfl kk_) ?_
  show own_Ends _ _ _ _ _ _ (T11.setTop (mkF m 5 #[] [(.ref b11), (.ref b11)]))
  refine own_of (fun tt_ kk_ => XS.iconst X11.here hx rfl (hb hby d_method_3_code_5) kk_) ?_
  show own_Ends _ _ _ _ _ _ (T11.setTop (mkF m 6 #[] [(.int (0 : Int32)), (.ref b11), (.ref b11)]))
  refine own_of (fun tt_ kk_ => XS.bipush X11.here hx rfl (hb hby d_method_3_code_6) kk_) ?_
  show own_Ends _ _ _ _ _ _ (T11.setTop (mkF m 8 #[] [(.int (109 : Int32)), (.int (0 : Int32)), (.ref b11), (.ref b11)]))
  obtain ⟨cl12, Ar12, q12, S12, N12', H12, G12⟩ := V11
  have hin12 : ¬ ((0 : Int32) < 0 ∨ cl12.slots.size ≤ ((0 : Int32)).toNatClampNeg) := inb_of S12 ⟨by decide, by decide⟩
  obtain ⟨T12, h12, X12, e12, W12, st12⟩ := stC X11 hx hZ e11 Ar12 (j := (0 : Int32)) hin12 (g := (mkF m 8 #[] [(.int (109 : Int32)), (.int (0 : Int32)), (.ref b11), (.ref b11)])) rfl rfl (hb hby d_method_3_code_8)
  have V12' : Arv Z h12 b11 k11 .char (17 : Int32) [(.int (109 : Int32)), (.int (0 : Int32)), (.int (0 : Int32)), (.int (0 : Int32)), (.int (0 : Int32)), (.int (0 : Int32)), (.int (0 : Int32)), (.int (0 : Int32)), (.int (0 : Int32)), (.int (0 : Int32)), (.int (0 : Int32)), (.int (0 : Int32)), (.int (0 : Int32)), (.int (0 : Int32)), (.int (0 : Int32)), (.int (0 : Int32)), (.int (0 : Int32))] (.int (0 : Int32)) := Arv.set Ar12 q12 S12 N12' H12 G12 rfl W12 0 rfl (Nat.le_of_ble_eq_true rfl)
  have N12 := Fr.snoc X12 N0 g_b11
  replace K := K.wr W12 (Or.inr sz_b11)
  refine own_of st12 ?_
  show own_Ends _ _ _ _ _ _ (T12.setTop (mkF m 9 #[] [(.ref b11)]))
  refine own_of (fun tt_ kk_ => XS.dup X12.here hx rfl (hb hby d_method_3_code_9) rfl rfl kk_) ?_
  show own_Ends _ _ _ _ _ _ (T12.setTop (mkF m 10 #[] [(.ref b11), (.ref b11)]))
  refine own_of (fun tt_ kk_ => XS.iconst X12.here hx rfl (hb hby d_method_3_code_10) kk_) ?_
  show own_Ends _ _ _ _ _ _ (T12.setTop (mkF m 11 #[] [(.int (1 : Int32)), (.ref b11), (.ref b11)]))
  refine own_of (fun tt_ kk_ => XS.bipush X12.here hx rfl (hb hby d_method_3_code_11) kk_) ?_
  show own_Ends _ _ _ _ _ _ (T12.setTop (mkF m 13 #[] [(.int (111 : Int32)), (.int (1 : Int32)), (.ref b11), (.ref b11)]))
  obtain ⟨cl13, Ar13, q13, S13, N13', H13, G13⟩ := V12'
  have hin13 : ¬ ((1 : Int32) < 0 ∨ cl13.slots.size ≤ ((1 : Int32)).toNatClampNeg) := inb_of S13 ⟨by decide, by decide⟩
  obtain ⟨T13, h13, X13, e13, W13, st13⟩ := stC X12 hx hZ e12 Ar13 (j := (1 : Int32)) hin13 (g := (mkF m 13 #[] [(.int (111 : Int32)), (.int (1 : Int32)), (.ref b11), (.ref b11)])) rfl rfl (hb hby d_method_3_code_13)
  have V13' : Arv Z h13 b11 k11 .char (17 : Int32) [(.int (109 : Int32)), (.int (111 : Int32)), (.int (0 : Int32)), (.int (0 : Int32)), (.int (0 : Int32)), (.int (0 : Int32)), (.int (0 : Int32)), (.int (0 : Int32)), (.int (0 : Int32)), (.int (0 : Int32)), (.int (0 : Int32)), (.int (0 : Int32)), (.int (0 : Int32)), (.int (0 : Int32)), (.int (0 : Int32)), (.int (0 : Int32)), (.int (0 : Int32))] (.int (0 : Int32)) := Arv.set Ar13 q13 S13 N13' H13 G13 rfl W13 1 rfl (Nat.le_of_ble_eq_true rfl)
  have N13 := Fr.snoc X13 N12 g_b11
  replace K := K.wr W13 (Or.inr sz_b11)
  refine own_of st13 ?_
  show own_Ends _ _ _ _ _ _ (T13.setTop (mkF m 14 #[] [(.ref b11)]))
  refine own_of (fun tt_ kk_ => XS.dup X13.here hx rfl (hb hby d_method_3_code_14) rfl rfl kk_) ?_
  show own_Ends _ _ _ _ _ _ (T13.setTop (mkF m 15 #[] [(.ref b11), (.ref b11)]))
  refine own_of (fun tt_ kk_ => XS.iconst X13.here hx rfl (hb hby d_method_3_code_15) kk_) ?_
  show own_Ends _ _ _ _ _ _ (T13.setTop (mkF m 16 #[] [(.int (2 : Int32)), (.ref b11), (.ref b11)]))
  refine own_of (fun tt_ kk_ => XS.bipush X13.here hx rfl (hb hby d_method_3_code_16) kk_) ?_
  show own_Ends _ _ _ _ _ _ (T13.setTop (mkF m 18 #[] [(.int (100 : Int32)), (.int (2 : Int32)), (.ref b11), (.ref b11)]))
  obtain ⟨cl14, Ar14, q14, S14, N14', H14, G14⟩ := V13'
  have hin14 : ¬ ((2 : Int32) < 0 ∨ cl14.slots.size ≤ ((2 : Int32)).toNatClampNeg) := inb_of S14 ⟨by decide, by decide⟩
  obtain ⟨T14, h14, X14, e14, W14, st14⟩ := stC X13 hx hZ e13 Ar14 (j := (2 : Int32)) hin14 (g := (mkF m 18 #[] [(.int (100 : Int32)), (.int (2 : Int32)), (.ref b11), (.ref b11)])) rfl rfl (hb hby d_method_3_code_18)
  have V14' : Arv Z h14 b11 k11 .char (17 : Int32) [(.int (109 : Int32)), (.int (111 : Int32)), (.int (100 : Int32)), (.int (0 : Int32)), (.int (0 : Int32)), (.int (0 : Int32)), (.int (0 : Int32)), (.int (0 : Int32)), (.int (0 : Int32)), (.int (0 : Int32)), (.int (0 : Int32)), (.int (0 : Int32)), (.int (0 : Int32)), (.int (0 : Int32)), (.int (0 : Int32)), (.int (0 : Int32)), (.int (0 : Int32))] (.int (0 : Int32)) := Arv.set Ar14 q14 S14 N14' H14 G14 rfl W14 2 rfl (Nat.le_of_ble_eq_true rfl)
  have N14 := Fr.snoc X14 N13 g_b11
  replace K := K.wr W14 (Or.inr sz_b11)
  refine own_of st14 ?_
  show own_Ends _ _ _ _ _ _ (T14.setTop (mkF m 19 #[] [(.ref b11)]))
  refine own_of (fun tt_ kk_ => XS.dup X14.here hx rfl (hb hby d_method_3_code_19) rfl rfl kk_) ?_
  show own_Ends _ _ _ _ _ _ (T14.setTop (mkF m 20 #[] [(.ref b11), (.ref b11)]))
  refine own_of (fun tt_ kk_ => XS.iconst X14.here hx rfl (hb hby d_method_3_code_20) kk_) ?_
  show own_Ends _ _ _ _ _ _ (T14.setTop (mkF m 21 #[] [(.int (3 : Int32)), (.ref b11), (.ref b11)]))
  refine own_of (fun tt_ kk_ => XS.bipush X14.here hx rfl (hb hby d_method_3_code_21) kk_) ?_
  show own_Ends _ _ _ _ _ _ (T14.setTop (mkF m 23 #[] [(.int (105 : Int32)), (.int (3 : Int32)), (.ref b11), (.ref b11)]))
  obtain ⟨cl15, Ar15, q15, S15, N15', H15, G15⟩ := V14'
  have hin15 : ¬ ((3 : Int32) < 0 ∨ cl15.slots.size ≤ ((3 : Int32)).toNatClampNeg) := inb_of S15 ⟨by decide, by decide⟩
  obtain ⟨T15, h15, X15, e15, W15, st15⟩ := stC X14 hx hZ e14 Ar15 (j := (3 : Int32)) hin15 (g := (mkF m 23 #[] [(.int (105 : Int32)), (.int (3 : Int32)), (.ref b11), (.ref b11)])) rfl rfl (hb hby d_method_3_code_23)
  have V15' : Arv Z h15 b11 k11 .char (17 : Int32) [(.int (109 : Int32)), (.int (111 : Int32)), (.int (100 : Int32)), (.int (105 : Int32)), (.int (0 : Int32)), (.int (0 : Int32)), (.int (0 : Int32)), (.int (0 : Int32)), (.int (0 : Int32)), (.int (0 : Int32)), (.int (0 : Int32)), (.int (0 : Int32)), (.int (0 : Int32)), (.int (0 : Int32)), (.int (0 : Int32)), (.int (0 : Int32)), (.int (0 : Int32))] (.int (0 : Int32)) := Arv.set Ar15 q15 S15 N15' H15 G15 rfl W15 3 rfl (Nat.le_of_ble_eq_true rfl)
  have N15 := Fr.snoc X15 N14 g_b11
  replace K := K.wr W15 (Or.inr sz_b11)
  refine own_of st15 ?_
  show own_Ends _ _ _ _ _ _ (T15.setTop (mkF m 24 #[] [(.ref b11)]))
  refine own_of (fun tt_ kk_ => XS.dup X15.here hx rfl (hb hby d_method_3_code_24) rfl rfl kk_) ?_
  show own_Ends _ _ _ _ _ _ (T15.setTop (mkF m 25 #[] [(.ref b11), (.ref b11)]))
  refine own_of (fun tt_ kk_ => XS.iconst X15.here hx rfl (hb hby d_method_3_code_25) kk_) ?_
  show own_Ends _ _ _ _ _ _ (T15.setTop (mkF m 26 #[] [(.int (4 : Int32)), (.ref b11), (.ref b11)]))
  refine own_of (fun tt_ kk_ => XS.bipush X15.here hx rfl (hb hby d_method_3_code_26) kk_) ?_
  show own_Ends _ _ _ _ _ _ (T15.setTop (mkF m 28 #[] [(.int (102 : Int32)), (.int (4 : Int32)), (.ref b11), (.ref b11)]))
  obtain ⟨cl16, Ar16, q16, S16, N16', H16, G16⟩ := V15'
  have hin16 : ¬ ((4 : Int32) < 0 ∨ cl16.slots.size ≤ ((4 : Int32)).toNatClampNeg) := inb_of S16 ⟨by decide, by decide⟩
  obtain ⟨T16, h16, X16, e16, W16, st16⟩ := stC X15 hx hZ e15 Ar16 (j := (4 : Int32)) hin16 (g := (mkF m 28 #[] [(.int (102 : Int32)), (.int (4 : Int32)), (.ref b11), (.ref b11)])) rfl rfl (hb hby d_method_3_code_28)
  have V16' : Arv Z h16 b11 k11 .char (17 : Int32) [(.int (109 : Int32)), (.int (111 : Int32)), (.int (100 : Int32)), (.int (105 : Int32)), (.int (102 : Int32)), (.int (0 : Int32)), (.int (0 : Int32)), (.int (0 : Int32)), (.int (0 : Int32)), (.int (0 : Int32)), (.int (0 : Int32)), (.int (0 : Int32)), (.int (0 : Int32)), (.int (0 : Int32)), (.int (0 : Int32)), (.int (0 : Int32)), (.int (0 : Int32))] (.int (0 : Int32)) := Arv.set Ar16 q16 S16 N16' H16 G16 rfl W16 4 rfl (Nat.le_of_ble_eq_true rfl)
  have N16 := Fr.snoc X16 N15 g_b11
  replace K := K.wr W16 (Or.inr sz_b11)
  refine own_of st16 ?_
  show own_Ends _ _ _ _ _ _ (T16.setTop (mkF m 29 #[] [(.ref b11)]))
  refine own_of (fun tt_ kk_ => XS.dup X16.here hx rfl (hb hby d_method_3_code_29) rfl rfl kk_) ?_
  show own_Ends _ _ _ _ _ _ (T16.setTop (mkF m 30 #[] [(.ref b11), (.ref b11)]))
  refine own_of (fun tt_ kk_ => XS.iconst X16.here hx rfl (hb hby d_method_3_code_30) kk_) ?_
  show own_Ends _ _ _ _ _ _ (T16.setTop (mkF m 31 #[] [(.int (5 : Int32)), (.ref b11), (.ref b11)]))
  refine own_of (fun tt_ kk_ => XS.bipush X16.here hx rfl (hb hby d_method_3_code_31) kk_) ?_
  show own_Ends _ _ _ _ _ _ (T16.setTop (mkF m 33 #[] [(.int (105 : Int32)), (.int (5 : Int32)), (.ref b11), (.ref b11)]))
  obtain ⟨cl17, Ar17, q17, S17, N17', H17, G17⟩ := V16'
  have hin17 : ¬ ((5 : Int32) < 0 ∨ cl17.slots.size ≤ ((5 : Int32)).toNatClampNeg) := inb_of S17 ⟨by decide, by decide⟩
  obtain ⟨T17, h17, X17, e17, W17, st17⟩ := stC X16 hx hZ e16 Ar17 (j := (5 : Int32)) hin17 (g := (mkF m 33 #[] [(.int (105 : Int32)), (.int (5 : Int32)), (.ref b11), (.ref b11)])) rfl rfl (hb hby d_method_3_code_33)
  have V17' : Arv Z h17 b11 k11 .char (17 : Int32) [(.int (109 : Int32)), (.int (111 : Int32)), (.int (100 : Int32)), (.int (105 : Int32)), (.int (102 : Int32)), (.int (105 : Int32)), (.int (0 : Int32)), (.int (0 : Int32)), (.int (0 : Int32)), (.int (0 : Int32)), (.int (0 : Int32)), (.int (0 : Int32)), (.int (0 : Int32)), (.int (0 : Int32)), (.int (0 : Int32)), (.int (0 : Int32)), (.int (0 : Int32))] (.int (0 : Int32)) := Arv.set Ar17 q17 S17 N17' H17 G17 rfl W17 5 rfl (Nat.le_of_ble_eq_true rfl)
  have N17 := Fr.snoc X17 N16 g_b11
  replace K := K.wr W17 (Or.inr sz_b11)
  refine own_of st17 ?_
  show own_Ends _ _ _ _ _ _ (T17.setTop (mkF m 34 #[] [(.ref b11)]))
  refine own_of (fun tt_ kk_ => XS.dup X17.here hx rfl (hb hby d_method_3_code_34) rfl rfl kk_) ?_
  show own_Ends _ _ _ _ _ _ (T17.setTop (mkF m 35 #[] [(.ref b11), (.ref b11)]))
  refine own_of (fun tt_ kk_ => XS.bipush X17.here hx rfl (hb hby d_method_3_code_35) kk_) ?_
  show own_Ends _ _ _ _ _ _ (T17.setTop (mkF m 37 #[] [(.int (6 : Int32)), (.ref b11), (.ref b11)]))
  refine own_of (fun tt_ kk_ => XS.bipush X17.here hx rfl (hb hby d_method_3_code_37) kk_) ?_
  show own_Ends _ _ _ _ _ _ (T17.setTop (mkF m 39 #[] [(.int (101 : Int32)), (.int (6 : Int32)), (.ref b11), (.ref b11)]))
  obtain ⟨cl18, Ar18, q18, S18, N18', H18, G18⟩ := V17'
  have hin18 : ¬ ((6 : Int32) < 0 ∨ cl18.slots.size ≤ ((6 : Int32)).toNatClampNeg) := inb_of S18 ⟨by decide, by decide⟩
  obtain ⟨T18, h18, X18, e18, W18, st18⟩ := stC X17 hx hZ e17 Ar18 (j := (6 : Int32)) hin18 (g := (mkF m 39 #[] [(.int (101 : Int32)), (.int (6 : Int32)), (.ref b11), (.ref b11)])) rfl rfl (hb hby d_method_3_code_39)
  have V18' : Arv Z h18 b11 k11 .char (17 : Int32) [(.int (109 : Int32)), (.int (111 : Int32)), (.int (100 : Int32)), (.int (105 : Int32)), (.int (102 : Int32)), (.int (105 : Int32)), (.int (101 : Int32)), (.int (0 : Int32)), (.int (0 : Int32)), (.int (0 : Int32)), (.int (0 : Int32)), (.int (0 : Int32)), (.int (0 : Int32)), (.int (0 : Int32)), (.int (0 : Int32)), (.int (0 : Int32)), (.int (0 : Int32))] (.int (0 : Int32)) := Arv.set Ar18 q18 S18 N18' H18 G18 rfl W18 6 rfl (Nat.le_of_ble_eq_true rfl)
  have N18 := Fr.snoc X18 N17 g_b11
  replace K := K.wr W18 (Or.inr sz_b11)
  refine own_of st18 ?_
  show own_Ends _ _ _ _ _ _ (T18.setTop (mkF m 40 #[] [(.ref b11)]))
  refine own_of (fun tt_ kk_ => XS.dup X18.here hx rfl (hb hby d_method_3_code_40) rfl rfl kk_) ?_
  show own_Ends _ _ _ _ _ _ (T18.setTop (mkF m 41 #[] [(.ref b11), (.ref b11)]))
  refine own_of (fun tt_ kk_ => XS.bipush X18.here hx rfl (hb hby d_method_3_code_41) kk_) ?_
  show own_Ends _ _ _ _ _ _ (T18.setTop (mkF m 43 #[] [(.int (7 : Int32)), (.ref b11), (.ref b11)]))
  refine own_of (fun tt_ kk_ => XS.bipush X18.here hx rfl (hb hby d_method_3_code_43) kk_) ?_
  show own_Ends _ _ _ _ _ _ (T18.setTop (mkF m 45 #[] [(.int (114 : Int32)), (.int (7 : Int32)), (.ref b11), (.ref b11)]))
  obtain ⟨cl19, Ar19, q19, S19, N19', H19, G19⟩ := V18'
  have hin19 : ¬ ((7 : Int32) < 0 ∨ cl19.slots.size ≤ ((7 : Int32)).toNatClampNeg) := inb_of S19 ⟨by decide, by decide⟩
  obtain ⟨T19, h19, X19, e19, W19, st19⟩ := stC X18 hx hZ e18 Ar19 (j := (7 : Int32)) hin19 (g := (mkF m 45 #[] [(.int (114 : Int32)), (.int (7 : Int32)), (.ref b11), (.ref b11)])) rfl rfl (hb hby d_method_3_code_45)
  have V19' : Arv Z h19 b11 k11 .char (17 : Int32) [(.int (109 : Int32)), (.int (111 : Int32)), (.int (100 : Int32)), (.int (105 : Int32)), (.int (102 : Int32)), (.int (105 : Int32)), (.int (101 : Int32)), (.int (114 : Int32)), (.int (0 : Int32)), (.int (0 : Int32)), (.int (0 : Int32)), (.int (0 : Int32)), (.int (0 : Int32)), (.int (0 : Int32)), (.int (0 : Int32)), (.int (0 : Int32)), (.int (0 : Int32))] (.int (0 : Int32)) := Arv.set Ar19 q19 S19 N19' H19 G19 rfl W19 7 rfl (Nat.le_of_ble_eq_true rfl)
  have N19 := Fr.snoc X19 N18 g_b11
  replace K := K.wr W19 (Or.inr sz_b11)
  refine own_of st19 ?_
  show own_Ends _ _ _ _ _ _ (T19.setTop (mkF m 46 #[] [(.ref b11)]))
  refine own_of (fun tt_ kk_ => XS.dup X19.here hx rfl (hb hby d_method_3_code_46) rfl rfl kk_) ?_
  show own_Ends _ _ _ _ _ _ (T19.setTop (mkF m 47 #[] [(.ref b11), (.ref b11)]))
  refine own_of (fun tt_ kk_ => XS.bipush X19.here hx rfl (hb hby d_method_3_code_47) kk_) ?_
  show own_Ends _ _ _ _ _ _ (T19.setTop (mkF m 49 #[] [(.int (8 : Int32)), (.ref b11), (.ref b11)]))
  refine own_of (fun tt_ kk_ => XS.bipush X19.here hx rfl (hb hby d_method_3_code_49) kk_) ?_
  show own_Ends _ _ _ _ _ _ (T19.setTop (mkF m 51 #[] [(.int (69 : Int32)), (.int (8 : Int32)), (.ref b11), (.ref b11)]))
  obtain ⟨cl20, Ar20, q20, S20, N20', H20, G20⟩ := V19'
  have hin20 : ¬ ((8 : Int32) < 0 ∨ cl20.slots.size ≤ ((8 : Int32)).toNatClampNeg) := inb_of S20 ⟨by decide, by decide⟩
  obtain ⟨T20, h20, X20, e20, W20, st20⟩ := stC X19 hx hZ e19 Ar20 (j := (8 : Int32)) hin20 (g := (mkF m 51 #[] [(.int (69 : Int32)), (.int (8 : Int32)), (.ref b11), (.ref b11)])) rfl rfl (hb hby d_method_3_code_51)
  have V20' : Arv Z h20 b11 k11 .char (17 : Int32) [(.int (109 : Int32)), (.int (111 : Int32)), (.int (100 : Int32)), (.int (105 : Int32)), (.int (102 : Int32)), (.int (105 : Int32)), (.int (101 : Int32)), (.int (114 : Int32)), (.int (69 : Int32)), (.int (0 : Int32)), (.int (0 : Int32)), (.int (0 : Int32)), (.int (0 : Int32)), (.int (0 : Int32)), (.int (0 : Int32)), (.int (0 : Int32)), (.int (0 : Int32))] (.int (0 : Int32)) := Arv.set Ar20 q20 S20 N20' H20 G20 rfl W20 8 rfl (Nat.le_of_ble_eq_true rfl)
  have N20 := Fr.snoc X20 N19 g_b11
  replace K := K.wr W20 (Or.inr sz_b11)
  refine own_of st20 ?_
  show own_Ends _ _ _ _ _ _ (T20.setTop (mkF m 52 #[] [(.ref b11)]))
  refine own_of (fun tt_ kk_ => XS.dup X20.here hx rfl (hb hby d_method_3_code_52) rfl rfl kk_) ?_
  show own_Ends _ _ _ _ _ _ (T20.setTop (mkF m 53 #[] [(.ref b11), (.ref b11)]))
  refine own_of (fun tt_ kk_ => XS.bipush X20.here hx rfl (hb hby d_method_3_code_53) kk_) ?_
  show own_Ends _ _ _ _ _ _ (T20.setTop (mkF m 55 #[] [(.int (9 : Int32)), (.ref b11), (.ref b11)]))
  refine own_of (fun tt_ kk_ => XS.bipush X20.here hx rfl (hb hby d_method_3_code_55) kk_) ?_
  show own_Ends _ _ _ _ _ _ (T20.setTop (mkF m 57 #[] [(.int (120 : Int32)), (.int (9 : Int32)), (.ref b11), (.ref b11)]))
  obtain ⟨cl21, Ar21, q21, S21, N21', H21, G21⟩ := V20'
  have hin21 : ¬ ((9 : Int32) < 0 ∨ cl21.slots.size ≤ ((9 : Int32)).toNatClampNeg) := inb_of S21 ⟨by decide, by decide⟩
  obtain ⟨T21, h21, X21, e21, W21, st21⟩ := stC X20 hx hZ e20 Ar21 (j := (9 : Int32)) hin21 (g := (mkF m 57 #[] [(.int (120 : Int32)), (.int (9 : Int32)), (.ref b11), (.ref b11)])) rfl rfl (hb hby d_method_3_code_57)
  have V21' : Arv Z h21 b11 k11 .char (17 : Int32) [(.int (109 : Int32)), (.int (111 : Int32)), (.int (100 : Int32)), (.int (105 : Int32)), (.int (102 : Int32)), (.int (105 : Int32)), (.int (101 : Int32)), (.int (114 : Int32)), (.int (69 : Int32)), (.int (120 : Int32)), (.int (0 : Int32)), (.int (0 : Int32)), (.int (0 : Int32)), (.int (0 : Int32)), (.int (0 : Int32)), (.int (0 : Int32)), (.int (0 : Int32))] (.int (0 : Int32)) := Arv.set Ar21 q21 S21 N21' H21 G21 rfl W21 9 rfl (Nat.le_of_ble_eq_true rfl)
  have N21 := Fr.snoc X21 N20 g_b11
  replace K := K.wr W21 (Or.inr sz_b11)
  refine own_of st21 ?_
  show own_Ends _ _ _ _ _ _ (T21.setTop (mkF m 58 #[] [(.ref b11)]))
  refine own_of (fun tt_ kk_ => XS.dup X21.here hx rfl (hb hby d_method_3_code_58) rfl rfl kk_) ?_
  show own_Ends _ _ _ _ _ _ (T21.setTop (mkF m 59 #[] [(.ref b11), (.ref b11)]))
  refine own_of (fun tt_ kk_ => XS.bipush X21.here hx rfl (hb hby d_method_3_code_59) kk_) ?_
  show own_Ends _ _ _ _ _ _ (T21.setTop (mkF m 61 #[] [(.int (10 : Int32)), (.ref b11), (.ref b11)]))
  refine own_of (fun tt_ kk_ => XS.bipush X21.here hx rfl (hb hby d_method_3_code_61) kk_) ?_
  show own_Ends _ _ _ _ _ _ (T21.setTop (mkF m 63 #[] [(.int (116 : Int32)), (.int (10 : Int32)), (.ref b11), (.ref b11)]))
  obtain ⟨cl22, Ar22, q22, S22, N22', H22, G22⟩ := V21'
  have hin22 : ¬ ((10 : Int32) < 0 ∨ cl22.slots.size ≤ ((10 : Int32)).toNatClampNeg) := inb_of S22 ⟨by decide, by decide⟩
  obtain ⟨T22, h22, X22, e22, W22, st22⟩ := stC X21 hx hZ e21 Ar22 (j := (10 : Int32)) hin22 (g := (mkF m 63 #[] [(.int (116 : Int32)), (.int (10 : Int32)), (.ref b11), (.ref b11)])) rfl rfl (hb hby d_method_3_code_63)
  have V22' : Arv Z h22 b11 k11 .char (17 : Int32) [(.int (109 : Int32)), (.int (111 : Int32)), (.int (100 : Int32)), (.int (105 : Int32)), (.int (102 : Int32)), (.int (105 : Int32)), (.int (101 : Int32)), (.int (114 : Int32)), (.int (69 : Int32)), (.int (120 : Int32)), (.int (116 : Int32)), (.int (0 : Int32)), (.int (0 : Int32)), (.int (0 : Int32)), (.int (0 : Int32)), (.int (0 : Int32)), (.int (0 : Int32))] (.int (0 : Int32)) := Arv.set Ar22 q22 S22 N22' H22 G22 rfl W22 10 rfl (Nat.le_of_ble_eq_true rfl)
  have N22 := Fr.snoc X22 N21 g_b11
  replace K := K.wr W22 (Or.inr sz_b11)
  refine own_of st22 ?_
  show own_Ends _ _ _ _ _ _ (T22.setTop (mkF m 64 #[] [(.ref b11)]))
  refine own_of (fun tt_ kk_ => XS.dup X22.here hx rfl (hb hby d_method_3_code_64) rfl rfl kk_) ?_
  show own_Ends _ _ _ _ _ _ (T22.setTop (mkF m 65 #[] [(.ref b11), (.ref b11)]))
  refine own_of (fun tt_ kk_ => XS.bipush X22.here hx rfl (hb hby d_method_3_code_65) kk_) ?_
  show own_Ends _ _ _ _ _ _ (T22.setTop (mkF m 67 #[] [(.int (11 : Int32)), (.ref b11), (.ref b11)]))
  refine own_of (fun tt_ kk_ => XS.bipush X22.here hx rfl (hb hby d_method_3_code_67) kk_) ?_
  show own_Ends _ _ _ _ _ _ (T22.setTop (mkF m 69 #[] [(.int (101 : Int32)), (.int (11 : Int32)), (.ref b11), (.ref b11)]))
  obtain ⟨cl23, Ar23, q23, S23, N23', H23, G23⟩ := V22'
  have hin23 : ¬ ((11 : Int32) < 0 ∨ cl23.slots.size ≤ ((11 : Int32)).toNatClampNeg) := inb_of S23 ⟨by decide, by decide⟩
  obtain ⟨T23, h23, X23, e23, W23, st23⟩ := stC X22 hx hZ e22 Ar23 (j := (11 : Int32)) hin23 (g := (mkF m 69 #[] [(.int (101 : Int32)), (.int (11 : Int32)), (.ref b11), (.ref b11)])) rfl rfl (hb hby d_method_3_code_69)
  have V23' : Arv Z h23 b11 k11 .char (17 : Int32) [(.int (109 : Int32)), (.int (111 : Int32)), (.int (100 : Int32)), (.int (105 : Int32)), (.int (102 : Int32)), (.int (105 : Int32)), (.int (101 : Int32)), (.int (114 : Int32)), (.int (69 : Int32)), (.int (120 : Int32)), (.int (116 : Int32)), (.int (101 : Int32)), (.int (0 : Int32)), (.int (0 : Int32)), (.int (0 : Int32)), (.int (0 : Int32)), (.int (0 : Int32))] (.int (0 : Int32)) := Arv.set Ar23 q23 S23 N23' H23 G23 rfl W23 11 rfl (Nat.le_of_ble_eq_true rfl)
  have N23 := Fr.snoc X23 N22 g_b11
  replace K := K.wr W23 (Or.inr sz_b11)
  refine own_of st23 ?_
  show own_Ends _ _ _ _ _ _ (T23.setTop (mkF m 70 #[] [(.ref b11)]))
  refine own_of (fun tt_ kk_ => XS.dup X23.here hx rfl (hb hby d_method_3_code_70) rfl rfl kk_) ?_
  show own_Ends _ _ _ _ _ _ (T23.setTop (mkF m 71 #[] [(.ref b11), (.ref b11)]))
  refine own_of (fun tt_ kk_ => XS.bipush X23.here hx rfl (hb hby d_method_3_code_71) kk_) ?_
  show own_Ends _ _ _ _ _ _ (T23.setTop (mkF m 73 #[] [(.int (12 : Int32)), (.ref b11), (.ref b11)]))
  refine own_of (fun tt_ kk_ => XS.bipush X23.here hx rfl (hb hby d_method_3_code_73) kk_) ?_
  show own_Ends _ _ _ _ _ _ (T23.setTop (mkF m 75 #[] [(.int (110 : Int32)), (.int (12 : Int32)), (.ref b11), (.ref b11)]))
  obtain ⟨cl24, Ar24, q24, S24, N24', H24, G24⟩ := V23'
  have hin24 : ¬ ((12 : Int32) < 0 ∨ cl24.slots.size ≤ ((12 : Int32)).toNatClampNeg) := inb_of S24 ⟨by decide, by decide⟩
  obtain ⟨T24, h24, X24, e24, W24, st24⟩ := stC X23 hx hZ e23 Ar24 (j := (12 : Int32)) hin24 (g := (mkF m 75 #[] [(.int (110 : Int32)), (.int (12 : Int32)), (.ref b11), (.ref b11)])) rfl rfl (hb hby d_method_3_code_75)
  have V24' : Arv Z h24 b11 k11 .char (17 : Int32) [(.int (109 : Int32)), (.int (111 : Int32)), (.int (100 : Int32)), (.int (105 : Int32)), (.int (102 : Int32)), (.int (105 : Int32)), (.int (101 : Int32)), (.int (114 : Int32)), (.int (69 : Int32)), (.int (120 : Int32)), (.int (116 : Int32)), (.int (101 : Int32)), (.int (110 : Int32)), (.int (0 : Int32)), (.int (0 : Int32)), (.int (0 : Int32)), (.int (0 : Int32))] (.int (0 : Int32)) := Arv.set Ar24 q24 S24 N24' H24 G24 rfl W24 12 rfl (Nat.le_of_ble_eq_true rfl)
  have N24 := Fr.snoc X24 N23 g_b11
  replace K := K.wr W24 (Or.inr sz_b11)
  refine own_of st24 ?_
  show own_Ends _ _ _ _ _ _ (T24.setTop (mkF m 76 #[] [(.ref b11)]))
  refine own_of (fun tt_ kk_ => XS.dup X24.here hx rfl (hb hby d_method_3_code_76) rfl rfl kk_) ?_
  show own_Ends _ _ _ _ _ _ (T24.setTop (mkF m 77 #[] [(.ref b11), (.ref b11)]))
  refine own_of (fun tt_ kk_ => XS.bipush X24.here hx rfl (hb hby d_method_3_code_77) kk_) ?_
  show own_Ends _ _ _ _ _ _ (T24.setTop (mkF m 79 #[] [(.int (13 : Int32)), (.ref b11), (.ref b11)]))
  refine own_of (fun tt_ kk_ => XS.bipush X24.here hx rfl (hb hby d_method_3_code_79) kk_) ?_
  show own_Ends _ _ _ _ _ _ (T24.setTop (mkF m 81 #[] [(.int (115 : Int32)), (.int (13 : Int32)), (.ref b11), (.ref b11)]))
  obtain ⟨cl25, Ar25, q25, S25, N25', H25, G25⟩ := V24'
  have hin25 : ¬ ((13 : Int32) < 0 ∨ cl25.slots.size ≤ ((13 : Int32)).toNatClampNeg) := inb_of S25 ⟨by decide, by decide⟩
  obtain ⟨T25, h25, X25, e25, W25, st25⟩ := stC X24 hx hZ e24 Ar25 (j := (13 : Int32)) hin25 (g := (mkF m 81 #[] [(.int (115 : Int32)), (.int (13 : Int32)), (.ref b11), (.ref b11)])) rfl rfl (hb hby d_method_3_code_81)
  have V25' : Arv Z h25 b11 k11 .char (17 : Int32) [(.int (109 : Int32)), (.int (111 : Int32)), (.int (100 : Int32)), (.int (105 : Int32)), (.int (102 : Int32)), (.int (105 : Int32)), (.int (101 : Int32)), (.int (114 : Int32)), (.int (69 : Int32)), (.int (120 : Int32)), (.int (116 : Int32)), (.int (101 : Int32)), (.int (110 : Int32)), (.int (115 : Int32)), (.int (0 : Int32)), (.int (0 : Int32)), (.int (0 : Int32))] (.int (0 : Int32)) := Arv.set Ar25 q25 S25 N25' H25 G25 rfl W25 13 rfl (Nat.le_of_ble_eq_true rfl)
  have N25 := Fr.snoc X25 N24 g_b11
  replace K := K.wr W25 (Or.inr sz_b11)
  refine own_of st25 ?_
  show own_Ends _ _ _ _ _ _ (T25.setTop (mkF m 82 #[] [(.ref b11)]))
  refine own_of (fun tt_ kk_ => XS.dup X25.here hx rfl (hb hby d_method_3_code_82) rfl rfl kk_) ?_
  show own_Ends _ _ _ _ _ _ (T25.setTop (mkF m 83 #[] [(.ref b11), (.ref b11)]))
  refine own_of (fun tt_ kk_ => XS.bipush X25.here hx rfl (hb hby d_method_3_code_83) kk_) ?_
  show own_Ends _ _ _ _ _ _ (T25.setTop (mkF m 85 #[] [(.int (14 : Int32)), (.ref b11), (.ref b11)]))
  refine own_of (fun tt_ kk_ => XS.bipush X25.here hx rfl (hb hby d_method_3_code_85) kk_) ?_
  show own_Ends _ _ _ _ _ _ (T25.setTop (mkF m 87 #[] [(.int (105 : Int32)), (.int (14 : Int32)), (.ref b11), (.ref b11)]))
  obtain ⟨cl26, Ar26, q26, S26, N26', H26, G26⟩ := V25'
  have hin26 : ¬ ((14 : Int32) < 0 ∨ cl26.slots.size ≤ ((14 : Int32)).toNatClampNeg) := inb_of S26 ⟨by decide, by decide⟩
  obtain ⟨T26, h26, X26, e26, W26, st26⟩ := stC X25 hx hZ e25 Ar26 (j := (14 : Int32)) hin26 (g := (mkF m 87 #[] [(.int (105 : Int32)), (.int (14 : Int32)), (.ref b11), (.ref b11)])) rfl rfl (hb hby d_method_3_code_87)
  have V26' : Arv Z h26 b11 k11 .char (17 : Int32) [(.int (109 : Int32)), (.int (111 : Int32)), (.int (100 : Int32)), (.int (105 : Int32)), (.int (102 : Int32)), (.int (105 : Int32)), (.int (101 : Int32)), (.int (114 : Int32)), (.int (69 : Int32)), (.int (120 : Int32)), (.int (116 : Int32)), (.int (101 : Int32)), (.int (110 : Int32)), (.int (115 : Int32)), (.int (105 : Int32)), (.int (0 : Int32)), (.int (0 : Int32))] (.int (0 : Int32)) := Arv.set Ar26 q26 S26 N26' H26 G26 rfl W26 14 rfl (Nat.le_of_ble_eq_true rfl)
  have N26 := Fr.snoc X26 N25 g_b11
  replace K := K.wr W26 (Or.inr sz_b11)
  refine own_of st26 ?_
  show own_Ends _ _ _ _ _ _ (T26.setTop (mkF m 88 #[] [(.ref b11)]))
  refine own_of (fun tt_ kk_ => XS.dup X26.here hx rfl (hb hby d_method_3_code_88) rfl rfl kk_) ?_
  show own_Ends _ _ _ _ _ _ (T26.setTop (mkF m 89 #[] [(.ref b11), (.ref b11)]))
  refine own_of (fun tt_ kk_ => XS.bipush X26.here hx rfl (hb hby d_method_3_code_89) kk_) ?_
  show own_Ends _ _ _ _ _ _ (T26.setTop (mkF m 91 #[] [(.int (15 : Int32)), (.ref b11), (.ref b11)]))
  refine own_of (fun tt_ kk_ => XS.bipush X26.here hx rfl (hb hby d_method_3_code_91) kk_) ?_
  show own_Ends _ _ _ _ _ _ (T26.setTop (mkF m 93 #[] [(.int (111 : Int32)), (.int (15 : Int32)), (.ref b11), (.ref b11)]))
  obtain ⟨cl27, Ar27, q27, S27, N27', H27, G27⟩ := V26'
  have hin27 : ¬ ((15 : Int32) < 0 ∨ cl27.slots.size ≤ ((15 : Int32)).toNatClampNeg) := inb_of S27 ⟨by decide, by decide⟩
  obtain ⟨T27, h27, X27, e27, W27, st27⟩ := stC X26 hx hZ e26 Ar27 (j := (15 : Int32)) hin27 (g := (mkF m 93 #[] [(.int (111 : Int32)), (.int (15 : Int32)), (.ref b11), (.ref b11)])) rfl rfl (hb hby d_method_3_code_93)
  have V27' : Arv Z h27 b11 k11 .char (17 : Int32) [(.int (109 : Int32)), (.int (111 : Int32)), (.int (100 : Int32)), (.int (105 : Int32)), (.int (102 : Int32)), (.int (105 : Int32)), (.int (101 : Int32)), (.int (114 : Int32)), (.int (69 : Int32)), (.int (120 : Int32)), (.int (116 : Int32)), (.int (101 : Int32)), (.int (110 : Int32)), (.int (115 : Int32)), (.int (105 : Int32)), (.int (111 : Int32)), (.int (0 : Int32))] (.int (0 : Int32)) := Arv.set Ar27 q27 S27 N27' H27 G27 rfl W27 15 rfl (Nat.le_of_ble_eq_true rfl)
  have N27 := Fr.snoc X27 N26 g_b11
  replace K := K.wr W27 (Or.inr sz_b11)
  refine own_of st27 ?_
  show own_Ends _ _ _ _ _ _ (T27.setTop (mkF m 94 #[] [(.ref b11)]))
  refine own_of (fun tt_ kk_ => XS.dup X27.here hx rfl (hb hby d_method_3_code_94) rfl rfl kk_) ?_
  show own_Ends _ _ _ _ _ _ (T27.setTop (mkF m 95 #[] [(.ref b11), (.ref b11)]))
  refine own_of (fun tt_ kk_ => XS.bipush X27.here hx rfl (hb hby d_method_3_code_95) kk_) ?_
  show own_Ends _ _ _ _ _ _ (T27.setTop (mkF m 97 #[] [(.int (16 : Int32)), (.ref b11), (.ref b11)]))
  refine own_of (fun tt_ kk_ => XS.bipush X27.here hx rfl (hb hby d_method_3_code_97) kk_) ?_
  show own_Ends _ _ _ _ _ _ (T27.setTop (mkF m 99 #[] [(.int (110 : Int32)), (.int (16 : Int32)), (.ref b11), (.ref b11)]))
  obtain ⟨cl28, Ar28, q28, S28, N28', H28, G28⟩ := V27'
  have hin28 : ¬ ((16 : Int32) < 0 ∨ cl28.slots.size ≤ ((16 : Int32)).toNatClampNeg) := inb_of S28 ⟨by decide, by decide⟩
  obtain ⟨T28, h28, X28, e28, W28, st28⟩ := stC X27 hx hZ e27 Ar28 (j := (16 : Int32)) hin28 (g := (mkF m 99 #[] [(.int (110 : Int32)), (.int (16 : Int32)), (.ref b11), (.ref b11)])) rfl rfl (hb hby d_method_3_code_99)
  have V28' : Arv Z h28 b11 k11 .char (17 : Int32) [(.int (109 : Int32)), (.int (111 : Int32)), (.int (100 : Int32)), (.int (105 : Int32)), (.int (102 : Int32)), (.int (105 : Int32)), (.int (101 : Int32)), (.int (114 : Int32)), (.int (69 : Int32)), (.int (120 : Int32)), (.int (116 : Int32)), (.int (101 : Int32)), (.int (110 : Int32)), (.int (115 : Int32)), (.int (105 : Int32)), (.int (111 : Int32)), (.int (110 : Int32))] (.int (0 : Int32)) := Arv.set Ar28 q28 S28 N28' H28 G28 rfl W28 16 rfl (Nat.le_of_ble_eq_true rfl)
  have N28 := Fr.snoc X28 N27 g_b11
  replace K := K.wr W28 (Or.inr sz_b11)
  refine own_of st28 ?_
  show own_Ends _ _ _ _ _ _ (T28.setTop (mkF m 100 #[] [(.ref b11)]))
  refine own_retA X28 hx hlk e28 hret rfl rfl (hb hby d_method_3_code_100) (by decide) (by decide) ?_
  exact ⟨b11, k11, rfl, N28, K, sz_b11, V28'⟩
theorem d_method_4_code_0 : decode method_4_code 0 = .ok (.bipush 10, 2) := by decide +kernel
theorem d_method_4_code_2 : decode method_4_code 2 = .ok (.newarray .char, 2) := by decide +kernel
theorem d_method_4_code_4 : decode method_4_code 4 = .ok (.dup, 1) := by decide +kernel
theorem d_method_4_code_5 : decode method_4_code 5 = .ok (.iconst 0, 1) := by decide +kernel
theorem d_method_4_code_6 : decode method_4_code 6 = .ok (.bipush 101, 2) := by decide +kernel
theorem d_method_4_code_8 : decode method_4_code 8 = .ok (.castore, 1) := by decide +kernel
theorem d_method_4_code_9 : decode method_4_code 9 = .ok (.dup, 1) := by decide +kernel
theorem d_method_4_code_10 : decode method_4_code 10 = .ok (.iconst 1, 1) := by decide +kernel
theorem d_method_4_code_11 : decode method_4_code 11 = .ok (.bipush 120, 2) := by decide +kernel
theorem d_method_4_code_13 : decode method_4_code 13 = .ok (.castore, 1) := by decide +kernel
theorem d_method_4_code_14 : decode method_4_code 14 = .ok (.dup, 1) := by decide +kernel
theorem d_method_4_code_15 : decode method_4_code 15 = .ok (.iconst 2, 1) := by decide +kernel
theorem d_method_4_code_16 : decode method_4_code 16 = .ok (.bipush 116, 2) := by decide +kernel
theorem d_method_4_code_18 : decode method_4_code 18 = .ok (.castore, 1) := by decide +kernel
theorem d_method_4_code_19 : decode method_4_code 19 = .ok (.dup, 1) := by decide +kernel
theorem d_method_4_code_20 : decode method_4_code 20 = .ok (.iconst 3, 1) := by decide +kernel
theorem d_method_4_code_21 : decode method_4_code 21 = .ok (.bipush 101, 2) := by decide +kernel
theorem d_method_4_code_23 : decode method_4_code 23 = .ok (.castore, 1) := by decide +kernel
theorem d_method_4_code_24 : decode method_4_code 24 = .ok (.dup, 1) := by decide +kernel
theorem d_method_4_code_25 : decode method_4_code 25 = .ok (.iconst 4, 1) := by decide +kernel
theorem d_method_4_code_26 : decode method_4_code 26 = .ok (.bipush 110, 2) := by decide +kernel
theorem d_method_4_code_28 : decode method_4_code 28 = .ok (.castore, 1) := by decide +kernel
theorem d_method_4_code_29 : decode method_4_code 29 = .ok (.dup, 1) := by decide +kernel
theorem d_method_4_code_30 : decode method_4_code 30 = .ok (.iconst 5, 1) := by decide +kernel
theorem d_method_4_code_31 : decode method_4_code 31 = .ok (.bipush 115, 2) := by decide +kernel
theorem d_method_4_code_33 : decode method_4_code 33 = .ok (.castore, 1) := by decide +kernel
theorem d_method_4_code_34 : decode method_4_code 34 = .ok (.dup, 1) := by decide +kernel
theorem d_method_4_code_35 : decode method_4_code 35 = .ok (.bipush 6, 2) := by decide +kernel
theorem d_method_4_code_37 : decode method_4_code 37 = .ok (.bipush 105, 2) := by decide +kernel
theorem d_method_4_code_39 : decode method_4_code 39 = .ok (.castore, 1) := by decide +kernel
theorem d_method_4_code_40 : decode method_4_code 40 = .ok (.dup, 1) := by decide +kernel
theorem d_method_4_code_41 : decode method_4_code 41 = .ok (.bipush 7, 2) := by decide +kernel
theorem d_method_4_code_43 : decode method_4_code 43 = .ok (.bipush 111, 2) := by decide +kernel
theorem d_method_4_code_45 : decode method_4_code 45 = .ok (.castore, 1) := by decide +kernel
theorem d_method_4_code_46 : decode method_4_code 46 = .ok (.dup, 1) := by decide +kernel
theorem d_method_4_code_47 : decode method_4_code 47 = .ok (.bipush 8, 2) := by decide +kernel
theorem d_method_4_code_49 : decode method_4_code 49 = .ok (.bipush 110, 2) := by decide +kernel
theorem d_method_4_code_51 : decode method_4_code 51 = .ok (.castore, 1) := by decide +kernel
theorem d_method_4_code_52 : decode method_4_code 52 = .ok (.dup, 1) := by decide +kernel
theorem d_method_4_code_53 : decode method_4_code 53 = .ok (.bipush 9, 2) := by decide +kernel
theorem d_method_4_code_55 : decode method_4_code 55 = .ok (.bipush 97, 2) := by decide +kernel
theorem d_method_4_code_57 : decode method_4_code 57 = .ok (.castore, 1) := by decide +kernel
theorem d_method_4_code_58 : decode method_4_code 58 = .ok (.areturn, 1) := by decide +kernel
theorem ef_method_4_code (m : MethodId)  : entryFrame m #[] 0 = mkF m 0 #[] [] := by first | (simp [entryFrame, mkF, argsToLocals, Value.category]; done) | rfl
set_option maxRecDepth 65536 in
set_option maxHeartbeats 40000000 in
theorem rm_extPlus (l : Launch) (Z : State) (a0 : Array Value) (hw : ∀ d ∈ tables_1, d.before a0 Z = true)  (h0 : Heap) (n0 : Nat) (Z0 : n0 ≤ h0.size) :
    own_Met l Z (⟨"com/example/extlint/extlint/model/ExtensionNamesListPinLaw", "extPlus", "()[C"⟩ : MethodName) method_4_code 0 (some (.array .char)) ({ frames := 0, cells := 1, slots := 10, locals := 0 } : Room) #[] h0 (fun v h L => ∃ (b : Addr) (k : ClassId), v = some (.ref b) ∧ Fr n0 L ∧ Keep h0 h [] ∧ h0.size ≤ b ∧ Arv Z h b k .char (10 : Int32) (own_EXTP.map Value.int) (.int (0 : Int32))) := by
  refine own_body (plainFor_of_name pn_com_example_extlint_extlint_model_ExtensionNamesListPinLaw) ?_
  intro p e s m below meth c T0 X0 e0 hx hby hml hown hnm hret hlk hZ
  replace hown : s.vm.findClass "com/example/extlint/extlint/model/ExtensionNamesListPinLaw" = some m.cls := hown
  have N0 := Fr.nil n0
  refine own_of (fun tt_ kk_ => castTop (ef_method_4_code m ) kk_) ?_
  have K := Keep.refl h0 []
  show own_Ends _ _ _ _ _ _ (T0.setTop (mkF m 0 #[] []))
  refine own_of (fun tt_ kk_ => XS.bipush X0.here hx rfl (hb hby d_method_4_code_0) kk_) ?_
  show own_Ends _ _ _ _ _ _ (T0.setTop (mkF m 2 #[] [(.int (10 : Int32))]))
  obtain ⟨T29, h29, k29, X29, e29, E29, A29, st29⟩ := newP X0 hx hZ (hw _ (List.mem_of_getElem? (i := 4) rfl)) e0 (g := (mkF m 2 #[] [(.int (10 : Int32))])) rfl (hb hby d_method_4_code_2) rfl (by decide) (cap := 10) (by decide) (by decide) (by decide) (by decide)
  obtain ⟨b29, g29⟩ : ∃ z, z = h0.size := ⟨_, rfl⟩
  rw [← g29] at A29 st29
  have sz_b29 : h0.size ≤ b29 := Nat.le_trans K.1 (Nat.le_of_eq g29.symm)
  have g_b29 : n0 ≤ b29 := Nat.le_trans Z0 sz_b29
  have V29 : Arv Z h29 b29 k29 .char (10 : Int32) [(.int (0 : Int32)), (.int (0 : Int32)), (.int (0 : Int32)), (.int (0 : Int32)), (.int (0 : Int32)), (.int (0 : Int32)), (.int (0 : Int32)), (.int (0 : Int32)), (.int (0 : Int32)), (.int (0 : Int32))] (.int (0 : Int32)) := (Arv.new A29 (by decide)).pad (pad_rep [] (.int (0 : Int32)) 10)
  replace K := K.ext E29
  refine own_of st29 ?_
  show own_Ends _ _ _ _ _ _ (T29.setTop (mkF m 4 #[] [(.ref b29)]))
  refine own_of (fun tt_ kk_ => XS.dup X29.here hx rfl (hb hby d_method_4_code_4) rfl rfl kk_) ?_
  show own_Ends _ _ _ _ _ _ (T29.setTop (mkF m 5 #[] [(.ref b29), (.ref b29)]))
  refine own_of (fun tt_ kk_ => XS.iconst X29.here hx rfl (hb hby d_method_4_code_5) kk_) ?_
  show own_Ends _ _ _ _ _ _ (T29.setTop (mkF m 6 #[] [(.int (0 : Int32)), (.ref b29), (.ref b29)]))
  refine own_of (fun tt_ kk_ => XS.bipush X29.here hx rfl (hb hby d_method_4_code_6) kk_) ?_
  show own_Ends _ _ _ _ _ _ (T29.setTop (mkF m 8 #[] [(.int (101 : Int32)), (.int (0 : Int32)), (.ref b29), (.ref b29)]))
  obtain ⟨cl30, Ar30, q30, S30, N30', H30, G30⟩ := V29
  have hin30 : ¬ ((0 : Int32) < 0 ∨ cl30.slots.size ≤ ((0 : Int32)).toNatClampNeg) := inb_of S30 ⟨by decide, by decide⟩
  obtain ⟨T30, h30, X30, e30, W30, st30⟩ := stC X29 hx hZ e29 Ar30 (j := (0 : Int32)) hin30 (g := (mkF m 8 #[] [(.int (101 : Int32)), (.int (0 : Int32)), (.ref b29), (.ref b29)])) rfl rfl (hb hby d_method_4_code_8)
  have V30' : Arv Z h30 b29 k29 .char (10 : Int32) [(.int (101 : Int32)), (.int (0 : Int32)), (.int (0 : Int32)), (.int (0 : Int32)), (.int (0 : Int32)), (.int (0 : Int32)), (.int (0 : Int32)), (.int (0 : Int32)), (.int (0 : Int32)), (.int (0 : Int32))] (.int (0 : Int32)) := Arv.set Ar30 q30 S30 N30' H30 G30 rfl W30 0 rfl (Nat.le_of_ble_eq_true rfl)
  have N30 := Fr.snoc X30 N0 g_b29
  replace K := K.wr W30 (Or.inr sz_b29)
  refine own_of st30 ?_
  show own_Ends _ _ _ _ _ _ (T30.setTop (mkF m 9 #[] [(.ref b29)]))
  refine own_of (fun tt_ kk_ => XS.dup X30.here hx rfl (hb hby d_method_4_code_9) rfl rfl kk_) ?_
  show own_Ends _ _ _ _ _ _ (T30.setTop (mkF m 10 #[] [(.ref b29), (.ref b29)]))
  refine own_of (fun tt_ kk_ => XS.iconst X30.here hx rfl (hb hby d_method_4_code_10) kk_) ?_
  show own_Ends _ _ _ _ _ _ (T30.setTop (mkF m 11 #[] [(.int (1 : Int32)), (.ref b29), (.ref b29)]))
  refine own_of (fun tt_ kk_ => XS.bipush X30.here hx rfl (hb hby d_method_4_code_11) kk_) ?_
  show own_Ends _ _ _ _ _ _ (T30.setTop (mkF m 13 #[] [(.int (120 : Int32)), (.int (1 : Int32)), (.ref b29), (.ref b29)]))
  obtain ⟨cl31, Ar31, q31, S31, N31', H31, G31⟩ := V30'
  have hin31 : ¬ ((1 : Int32) < 0 ∨ cl31.slots.size ≤ ((1 : Int32)).toNatClampNeg) := inb_of S31 ⟨by decide, by decide⟩
  obtain ⟨T31, h31, X31, e31, W31, st31⟩ := stC X30 hx hZ e30 Ar31 (j := (1 : Int32)) hin31 (g := (mkF m 13 #[] [(.int (120 : Int32)), (.int (1 : Int32)), (.ref b29), (.ref b29)])) rfl rfl (hb hby d_method_4_code_13)
  have V31' : Arv Z h31 b29 k29 .char (10 : Int32) [(.int (101 : Int32)), (.int (120 : Int32)), (.int (0 : Int32)), (.int (0 : Int32)), (.int (0 : Int32)), (.int (0 : Int32)), (.int (0 : Int32)), (.int (0 : Int32)), (.int (0 : Int32)), (.int (0 : Int32))] (.int (0 : Int32)) := Arv.set Ar31 q31 S31 N31' H31 G31 rfl W31 1 rfl (Nat.le_of_ble_eq_true rfl)
  have N31 := Fr.snoc X31 N30 g_b29
  replace K := K.wr W31 (Or.inr sz_b29)
  refine own_of st31 ?_
  show own_Ends _ _ _ _ _ _ (T31.setTop (mkF m 14 #[] [(.ref b29)]))
  refine own_of (fun tt_ kk_ => XS.dup X31.here hx rfl (hb hby d_method_4_code_14) rfl rfl kk_) ?_
  show own_Ends _ _ _ _ _ _ (T31.setTop (mkF m 15 #[] [(.ref b29), (.ref b29)]))
  refine own_of (fun tt_ kk_ => XS.iconst X31.here hx rfl (hb hby d_method_4_code_15) kk_) ?_
  show own_Ends _ _ _ _ _ _ (T31.setTop (mkF m 16 #[] [(.int (2 : Int32)), (.ref b29), (.ref b29)]))
  refine own_of (fun tt_ kk_ => XS.bipush X31.here hx rfl (hb hby d_method_4_code_16) kk_) ?_
  show own_Ends _ _ _ _ _ _ (T31.setTop (mkF m 18 #[] [(.int (116 : Int32)), (.int (2 : Int32)), (.ref b29), (.ref b29)]))
  obtain ⟨cl32, Ar32, q32, S32, N32', H32, G32⟩ := V31'
  have hin32 : ¬ ((2 : Int32) < 0 ∨ cl32.slots.size ≤ ((2 : Int32)).toNatClampNeg) := inb_of S32 ⟨by decide, by decide⟩
  obtain ⟨T32, h32, X32, e32, W32, st32⟩ := stC X31 hx hZ e31 Ar32 (j := (2 : Int32)) hin32 (g := (mkF m 18 #[] [(.int (116 : Int32)), (.int (2 : Int32)), (.ref b29), (.ref b29)])) rfl rfl (hb hby d_method_4_code_18)
  have V32' : Arv Z h32 b29 k29 .char (10 : Int32) [(.int (101 : Int32)), (.int (120 : Int32)), (.int (116 : Int32)), (.int (0 : Int32)), (.int (0 : Int32)), (.int (0 : Int32)), (.int (0 : Int32)), (.int (0 : Int32)), (.int (0 : Int32)), (.int (0 : Int32))] (.int (0 : Int32)) := Arv.set Ar32 q32 S32 N32' H32 G32 rfl W32 2 rfl (Nat.le_of_ble_eq_true rfl)
  have N32 := Fr.snoc X32 N31 g_b29
  replace K := K.wr W32 (Or.inr sz_b29)
  refine own_of st32 ?_
  show own_Ends _ _ _ _ _ _ (T32.setTop (mkF m 19 #[] [(.ref b29)]))
  refine own_of (fun tt_ kk_ => XS.dup X32.here hx rfl (hb hby d_method_4_code_19) rfl rfl kk_) ?_
  show own_Ends _ _ _ _ _ _ (T32.setTop (mkF m 20 #[] [(.ref b29), (.ref b29)]))
  refine own_of (fun tt_ kk_ => XS.iconst X32.here hx rfl (hb hby d_method_4_code_20) kk_) ?_
  show own_Ends _ _ _ _ _ _ (T32.setTop (mkF m 21 #[] [(.int (3 : Int32)), (.ref b29), (.ref b29)]))
  refine own_of (fun tt_ kk_ => XS.bipush X32.here hx rfl (hb hby d_method_4_code_21) kk_) ?_
  show own_Ends _ _ _ _ _ _ (T32.setTop (mkF m 23 #[] [(.int (101 : Int32)), (.int (3 : Int32)), (.ref b29), (.ref b29)]))
  obtain ⟨cl33, Ar33, q33, S33, N33', H33, G33⟩ := V32'
  have hin33 : ¬ ((3 : Int32) < 0 ∨ cl33.slots.size ≤ ((3 : Int32)).toNatClampNeg) := inb_of S33 ⟨by decide, by decide⟩
  obtain ⟨T33, h33, X33, e33, W33, st33⟩ := stC X32 hx hZ e32 Ar33 (j := (3 : Int32)) hin33 (g := (mkF m 23 #[] [(.int (101 : Int32)), (.int (3 : Int32)), (.ref b29), (.ref b29)])) rfl rfl (hb hby d_method_4_code_23)
  have V33' : Arv Z h33 b29 k29 .char (10 : Int32) [(.int (101 : Int32)), (.int (120 : Int32)), (.int (116 : Int32)), (.int (101 : Int32)), (.int (0 : Int32)), (.int (0 : Int32)), (.int (0 : Int32)), (.int (0 : Int32)), (.int (0 : Int32)), (.int (0 : Int32))] (.int (0 : Int32)) := Arv.set Ar33 q33 S33 N33' H33 G33 rfl W33 3 rfl (Nat.le_of_ble_eq_true rfl)
  have N33 := Fr.snoc X33 N32 g_b29
  replace K := K.wr W33 (Or.inr sz_b29)
  refine own_of st33 ?_
  show own_Ends _ _ _ _ _ _ (T33.setTop (mkF m 24 #[] [(.ref b29)]))
  refine own_of (fun tt_ kk_ => XS.dup X33.here hx rfl (hb hby d_method_4_code_24) rfl rfl kk_) ?_
  show own_Ends _ _ _ _ _ _ (T33.setTop (mkF m 25 #[] [(.ref b29), (.ref b29)]))
  refine own_of (fun tt_ kk_ => XS.iconst X33.here hx rfl (hb hby d_method_4_code_25) kk_) ?_
  show own_Ends _ _ _ _ _ _ (T33.setTop (mkF m 26 #[] [(.int (4 : Int32)), (.ref b29), (.ref b29)]))
  refine own_of (fun tt_ kk_ => XS.bipush X33.here hx rfl (hb hby d_method_4_code_26) kk_) ?_
  show own_Ends _ _ _ _ _ _ (T33.setTop (mkF m 28 #[] [(.int (110 : Int32)), (.int (4 : Int32)), (.ref b29), (.ref b29)]))
  obtain ⟨cl34, Ar34, q34, S34, N34', H34, G34⟩ := V33'
  have hin34 : ¬ ((4 : Int32) < 0 ∨ cl34.slots.size ≤ ((4 : Int32)).toNatClampNeg) := inb_of S34 ⟨by decide, by decide⟩
  obtain ⟨T34, h34, X34, e34, W34, st34⟩ := stC X33 hx hZ e33 Ar34 (j := (4 : Int32)) hin34 (g := (mkF m 28 #[] [(.int (110 : Int32)), (.int (4 : Int32)), (.ref b29), (.ref b29)])) rfl rfl (hb hby d_method_4_code_28)
  have V34' : Arv Z h34 b29 k29 .char (10 : Int32) [(.int (101 : Int32)), (.int (120 : Int32)), (.int (116 : Int32)), (.int (101 : Int32)), (.int (110 : Int32)), (.int (0 : Int32)), (.int (0 : Int32)), (.int (0 : Int32)), (.int (0 : Int32)), (.int (0 : Int32))] (.int (0 : Int32)) := Arv.set Ar34 q34 S34 N34' H34 G34 rfl W34 4 rfl (Nat.le_of_ble_eq_true rfl)
  have N34 := Fr.snoc X34 N33 g_b29
  replace K := K.wr W34 (Or.inr sz_b29)
  refine own_of st34 ?_
  show own_Ends _ _ _ _ _ _ (T34.setTop (mkF m 29 #[] [(.ref b29)]))
  refine own_of (fun tt_ kk_ => XS.dup X34.here hx rfl (hb hby d_method_4_code_29) rfl rfl kk_) ?_
  show own_Ends _ _ _ _ _ _ (T34.setTop (mkF m 30 #[] [(.ref b29), (.ref b29)]))
  refine own_of (fun tt_ kk_ => XS.iconst X34.here hx rfl (hb hby d_method_4_code_30) kk_) ?_
  show own_Ends _ _ _ _ _ _ (T34.setTop (mkF m 31 #[] [(.int (5 : Int32)), (.ref b29), (.ref b29)]))
  refine own_of (fun tt_ kk_ => XS.bipush X34.here hx rfl (hb hby d_method_4_code_31) kk_) ?_
  show own_Ends _ _ _ _ _ _ (T34.setTop (mkF m 33 #[] [(.int (115 : Int32)), (.int (5 : Int32)), (.ref b29), (.ref b29)]))
  obtain ⟨cl35, Ar35, q35, S35, N35', H35, G35⟩ := V34'
  have hin35 : ¬ ((5 : Int32) < 0 ∨ cl35.slots.size ≤ ((5 : Int32)).toNatClampNeg) := inb_of S35 ⟨by decide, by decide⟩
  obtain ⟨T35, h35, X35, e35, W35, st35⟩ := stC X34 hx hZ e34 Ar35 (j := (5 : Int32)) hin35 (g := (mkF m 33 #[] [(.int (115 : Int32)), (.int (5 : Int32)), (.ref b29), (.ref b29)])) rfl rfl (hb hby d_method_4_code_33)
  have V35' : Arv Z h35 b29 k29 .char (10 : Int32) [(.int (101 : Int32)), (.int (120 : Int32)), (.int (116 : Int32)), (.int (101 : Int32)), (.int (110 : Int32)), (.int (115 : Int32)), (.int (0 : Int32)), (.int (0 : Int32)), (.int (0 : Int32)), (.int (0 : Int32))] (.int (0 : Int32)) := Arv.set Ar35 q35 S35 N35' H35 G35 rfl W35 5 rfl (Nat.le_of_ble_eq_true rfl)
  have N35 := Fr.snoc X35 N34 g_b29
  replace K := K.wr W35 (Or.inr sz_b29)
  refine own_of st35 ?_
  show own_Ends _ _ _ _ _ _ (T35.setTop (mkF m 34 #[] [(.ref b29)]))
  refine own_of (fun tt_ kk_ => XS.dup X35.here hx rfl (hb hby d_method_4_code_34) rfl rfl kk_) ?_
  show own_Ends _ _ _ _ _ _ (T35.setTop (mkF m 35 #[] [(.ref b29), (.ref b29)]))
  refine own_of (fun tt_ kk_ => XS.bipush X35.here hx rfl (hb hby d_method_4_code_35) kk_) ?_
  show own_Ends _ _ _ _ _ _ (T35.setTop (mkF m 37 #[] [(.int (6 : Int32)), (.ref b29), (.ref b29)]))
  refine own_of (fun tt_ kk_ => XS.bipush X35.here hx rfl (hb hby d_method_4_code_37) kk_) ?_
  show own_Ends _ _ _ _ _ _ (T35.setTop (mkF m 39 #[] [(.int (105 : Int32)), (.int (6 : Int32)), (.ref b29), (.ref b29)]))
  obtain ⟨cl36, Ar36, q36, S36, N36', H36, G36⟩ := V35'
  have hin36 : ¬ ((6 : Int32) < 0 ∨ cl36.slots.size ≤ ((6 : Int32)).toNatClampNeg) := inb_of S36 ⟨by decide, by decide⟩
  obtain ⟨T36, h36, X36, e36, W36, st36⟩ := stC X35 hx hZ e35 Ar36 (j := (6 : Int32)) hin36 (g := (mkF m 39 #[] [(.int (105 : Int32)), (.int (6 : Int32)), (.ref b29), (.ref b29)])) rfl rfl (hb hby d_method_4_code_39)
  have V36' : Arv Z h36 b29 k29 .char (10 : Int32) [(.int (101 : Int32)), (.int (120 : Int32)), (.int (116 : Int32)), (.int (101 : Int32)), (.int (110 : Int32)), (.int (115 : Int32)), (.int (105 : Int32)), (.int (0 : Int32)), (.int (0 : Int32)), (.int (0 : Int32))] (.int (0 : Int32)) := Arv.set Ar36 q36 S36 N36' H36 G36 rfl W36 6 rfl (Nat.le_of_ble_eq_true rfl)
  have N36 := Fr.snoc X36 N35 g_b29
  replace K := K.wr W36 (Or.inr sz_b29)
  refine own_of st36 ?_
  show own_Ends _ _ _ _ _ _ (T36.setTop (mkF m 40 #[] [(.ref b29)]))
  refine own_of (fun tt_ kk_ => XS.dup X36.here hx rfl (hb hby d_method_4_code_40) rfl rfl kk_) ?_
  show own_Ends _ _ _ _ _ _ (T36.setTop (mkF m 41 #[] [(.ref b29), (.ref b29)]))
  refine own_of (fun tt_ kk_ => XS.bipush X36.here hx rfl (hb hby d_method_4_code_41) kk_) ?_
  show own_Ends _ _ _ _ _ _ (T36.setTop (mkF m 43 #[] [(.int (7 : Int32)), (.ref b29), (.ref b29)]))
  refine own_of (fun tt_ kk_ => XS.bipush X36.here hx rfl (hb hby d_method_4_code_43) kk_) ?_
  show own_Ends _ _ _ _ _ _ (T36.setTop (mkF m 45 #[] [(.int (111 : Int32)), (.int (7 : Int32)), (.ref b29), (.ref b29)]))
  obtain ⟨cl37, Ar37, q37, S37, N37', H37, G37⟩ := V36'
  have hin37 : ¬ ((7 : Int32) < 0 ∨ cl37.slots.size ≤ ((7 : Int32)).toNatClampNeg) := inb_of S37 ⟨by decide, by decide⟩
  obtain ⟨T37, h37, X37, e37, W37, st37⟩ := stC X36 hx hZ e36 Ar37 (j := (7 : Int32)) hin37 (g := (mkF m 45 #[] [(.int (111 : Int32)), (.int (7 : Int32)), (.ref b29), (.ref b29)])) rfl rfl (hb hby d_method_4_code_45)
  have V37' : Arv Z h37 b29 k29 .char (10 : Int32) [(.int (101 : Int32)), (.int (120 : Int32)), (.int (116 : Int32)), (.int (101 : Int32)), (.int (110 : Int32)), (.int (115 : Int32)), (.int (105 : Int32)), (.int (111 : Int32)), (.int (0 : Int32)), (.int (0 : Int32))] (.int (0 : Int32)) := Arv.set Ar37 q37 S37 N37' H37 G37 rfl W37 7 rfl (Nat.le_of_ble_eq_true rfl)
  have N37 := Fr.snoc X37 N36 g_b29
  replace K := K.wr W37 (Or.inr sz_b29)
  refine own_of st37 ?_
  show own_Ends _ _ _ _ _ _ (T37.setTop (mkF m 46 #[] [(.ref b29)]))
  refine own_of (fun tt_ kk_ => XS.dup X37.here hx rfl (hb hby d_method_4_code_46) rfl rfl kk_) ?_
  show own_Ends _ _ _ _ _ _ (T37.setTop (mkF m 47 #[] [(.ref b29), (.ref b29)]))
  refine own_of (fun tt_ kk_ => XS.bipush X37.here hx rfl (hb hby d_method_4_code_47) kk_) ?_
  show own_Ends _ _ _ _ _ _ (T37.setTop (mkF m 49 #[] [(.int (8 : Int32)), (.ref b29), (.ref b29)]))
  refine own_of (fun tt_ kk_ => XS.bipush X37.here hx rfl (hb hby d_method_4_code_49) kk_) ?_
  show own_Ends _ _ _ _ _ _ (T37.setTop (mkF m 51 #[] [(.int (110 : Int32)), (.int (8 : Int32)), (.ref b29), (.ref b29)]))
  obtain ⟨cl38, Ar38, q38, S38, N38', H38, G38⟩ := V37'
  have hin38 : ¬ ((8 : Int32) < 0 ∨ cl38.slots.size ≤ ((8 : Int32)).toNatClampNeg) := inb_of S38 ⟨by decide, by decide⟩
  obtain ⟨T38, h38, X38, e38, W38, st38⟩ := stC X37 hx hZ e37 Ar38 (j := (8 : Int32)) hin38 (g := (mkF m 51 #[] [(.int (110 : Int32)), (.int (8 : Int32)), (.ref b29), (.ref b29)])) rfl rfl (hb hby d_method_4_code_51)
  have V38' : Arv Z h38 b29 k29 .char (10 : Int32) [(.int (101 : Int32)), (.int (120 : Int32)), (.int (116 : Int32)), (.int (101 : Int32)), (.int (110 : Int32)), (.int (115 : Int32)), (.int (105 : Int32)), (.int (111 : Int32)), (.int (110 : Int32)), (.int (0 : Int32))] (.int (0 : Int32)) := Arv.set Ar38 q38 S38 N38' H38 G38 rfl W38 8 rfl (Nat.le_of_ble_eq_true rfl)
  have N38 := Fr.snoc X38 N37 g_b29
  replace K := K.wr W38 (Or.inr sz_b29)
  refine own_of st38 ?_
  show own_Ends _ _ _ _ _ _ (T38.setTop (mkF m 52 #[] [(.ref b29)]))
  refine own_of (fun tt_ kk_ => XS.dup X38.here hx rfl (hb hby d_method_4_code_52) rfl rfl kk_) ?_
  show own_Ends _ _ _ _ _ _ (T38.setTop (mkF m 53 #[] [(.ref b29), (.ref b29)]))
  refine own_of (fun tt_ kk_ => XS.bipush X38.here hx rfl (hb hby d_method_4_code_53) kk_) ?_
  show own_Ends _ _ _ _ _ _ (T38.setTop (mkF m 55 #[] [(.int (9 : Int32)), (.ref b29), (.ref b29)]))
  refine own_of (fun tt_ kk_ => XS.bipush X38.here hx rfl (hb hby d_method_4_code_55) kk_) ?_
  show own_Ends _ _ _ _ _ _ (T38.setTop (mkF m 57 #[] [(.int (97 : Int32)), (.int (9 : Int32)), (.ref b29), (.ref b29)]))
  obtain ⟨cl39, Ar39, q39, S39, N39', H39, G39⟩ := V38'
  have hin39 : ¬ ((9 : Int32) < 0 ∨ cl39.slots.size ≤ ((9 : Int32)).toNatClampNeg) := inb_of S39 ⟨by decide, by decide⟩
  obtain ⟨T39, h39, X39, e39, W39, st39⟩ := stC X38 hx hZ e38 Ar39 (j := (9 : Int32)) hin39 (g := (mkF m 57 #[] [(.int (97 : Int32)), (.int (9 : Int32)), (.ref b29), (.ref b29)])) rfl rfl (hb hby d_method_4_code_57)
  have V39' : Arv Z h39 b29 k29 .char (10 : Int32) [(.int (101 : Int32)), (.int (120 : Int32)), (.int (116 : Int32)), (.int (101 : Int32)), (.int (110 : Int32)), (.int (115 : Int32)), (.int (105 : Int32)), (.int (111 : Int32)), (.int (110 : Int32)), (.int (97 : Int32))] (.int (0 : Int32)) := Arv.set Ar39 q39 S39 N39' H39 G39 rfl W39 9 rfl (Nat.le_of_ble_eq_true rfl)
  have N39 := Fr.snoc X39 N38 g_b29
  replace K := K.wr W39 (Or.inr sz_b29)
  refine own_of st39 ?_
  show own_Ends _ _ _ _ _ _ (T39.setTop (mkF m 58 #[] [(.ref b29)]))
  refine own_retA X39 hx hlk e39 hret rfl rfl (hb hby d_method_4_code_58) (by decide) (by decide) ?_
  exact ⟨b29, k29, rfl, N39, K, sz_b29, V39'⟩
theorem d_method_5_code_0 : decode method_5_code 0 = .ok (.bipush 18, 2) := by decide +kernel
theorem d_method_5_code_2 : decode method_5_code 2 = .ok (.newarray .char, 2) := by decide +kernel
theorem d_method_5_code_4 : decode method_5_code 4 = .ok (.dup, 1) := by decide +kernel
theorem d_method_5_code_5 : decode method_5_code 5 = .ok (.iconst 0, 1) := by decide +kernel
theorem d_method_5_code_6 : decode method_5_code 6 = .ok (.bipush 109, 2) := by decide +kernel
theorem d_method_5_code_8 : decode method_5_code 8 = .ok (.castore, 1) := by decide +kernel
theorem d_method_5_code_9 : decode method_5_code 9 = .ok (.dup, 1) := by decide +kernel
theorem d_method_5_code_10 : decode method_5_code 10 = .ok (.iconst 1, 1) := by decide +kernel
theorem d_method_5_code_11 : decode method_5_code 11 = .ok (.bipush 111, 2) := by decide +kernel
theorem d_method_5_code_13 : decode method_5_code 13 = .ok (.castore, 1) := by decide +kernel
theorem d_method_5_code_14 : decode method_5_code 14 = .ok (.dup, 1) := by decide +kernel
theorem d_method_5_code_15 : decode method_5_code 15 = .ok (.iconst 2, 1) := by decide +kernel
theorem d_method_5_code_16 : decode method_5_code 16 = .ok (.bipush 100, 2) := by decide +kernel
theorem d_method_5_code_18 : decode method_5_code 18 = .ok (.castore, 1) := by decide +kernel
theorem d_method_5_code_19 : decode method_5_code 19 = .ok (.dup, 1) := by decide +kernel
theorem d_method_5_code_20 : decode method_5_code 20 = .ok (.iconst 3, 1) := by decide +kernel
theorem d_method_5_code_21 : decode method_5_code 21 = .ok (.bipush 105, 2) := by decide +kernel
theorem d_method_5_code_23 : decode method_5_code 23 = .ok (.castore, 1) := by decide +kernel
theorem d_method_5_code_24 : decode method_5_code 24 = .ok (.dup, 1) := by decide +kernel
theorem d_method_5_code_25 : decode method_5_code 25 = .ok (.iconst 4, 1) := by decide +kernel
theorem d_method_5_code_26 : decode method_5_code 26 = .ok (.bipush 102, 2) := by decide +kernel
theorem d_method_5_code_28 : decode method_5_code 28 = .ok (.castore, 1) := by decide +kernel
theorem d_method_5_code_29 : decode method_5_code 29 = .ok (.dup, 1) := by decide +kernel
theorem d_method_5_code_30 : decode method_5_code 30 = .ok (.iconst 5, 1) := by decide +kernel
theorem d_method_5_code_31 : decode method_5_code 31 = .ok (.bipush 105, 2) := by decide +kernel
theorem d_method_5_code_33 : decode method_5_code 33 = .ok (.castore, 1) := by decide +kernel
theorem d_method_5_code_34 : decode method_5_code 34 = .ok (.dup, 1) := by decide +kernel
theorem d_method_5_code_35 : decode method_5_code 35 = .ok (.bipush 6, 2) := by decide +kernel
theorem d_method_5_code_37 : decode method_5_code 37 = .ok (.bipush 101, 2) := by decide +kernel
theorem d_method_5_code_39 : decode method_5_code 39 = .ok (.castore, 1) := by decide +kernel
theorem d_method_5_code_40 : decode method_5_code 40 = .ok (.dup, 1) := by decide +kernel
theorem d_method_5_code_41 : decode method_5_code 41 = .ok (.bipush 7, 2) := by decide +kernel
theorem d_method_5_code_43 : decode method_5_code 43 = .ok (.bipush 114, 2) := by decide +kernel
theorem d_method_5_code_45 : decode method_5_code 45 = .ok (.castore, 1) := by decide +kernel
theorem d_method_5_code_46 : decode method_5_code 46 = .ok (.dup, 1) := by decide +kernel
theorem d_method_5_code_47 : decode method_5_code 47 = .ok (.bipush 8, 2) := by decide +kernel
theorem d_method_5_code_49 : decode method_5_code 49 = .ok (.bipush 69, 2) := by decide +kernel
theorem d_method_5_code_51 : decode method_5_code 51 = .ok (.castore, 1) := by decide +kernel
theorem d_method_5_code_52 : decode method_5_code 52 = .ok (.dup, 1) := by decide +kernel
theorem d_method_5_code_53 : decode method_5_code 53 = .ok (.bipush 9, 2) := by decide +kernel
theorem d_method_5_code_55 : decode method_5_code 55 = .ok (.bipush 120, 2) := by decide +kernel
theorem d_method_5_code_57 : decode method_5_code 57 = .ok (.castore, 1) := by decide +kernel
theorem d_method_5_code_58 : decode method_5_code 58 = .ok (.dup, 1) := by decide +kernel
theorem d_method_5_code_59 : decode method_5_code 59 = .ok (.bipush 10, 2) := by decide +kernel
theorem d_method_5_code_61 : decode method_5_code 61 = .ok (.bipush 116, 2) := by decide +kernel
theorem d_method_5_code_63 : decode method_5_code 63 = .ok (.castore, 1) := by decide +kernel
theorem d_method_5_code_64 : decode method_5_code 64 = .ok (.dup, 1) := by decide +kernel
theorem d_method_5_code_65 : decode method_5_code 65 = .ok (.bipush 11, 2) := by decide +kernel
theorem d_method_5_code_67 : decode method_5_code 67 = .ok (.bipush 101, 2) := by decide +kernel
theorem d_method_5_code_69 : decode method_5_code 69 = .ok (.castore, 1) := by decide +kernel
theorem d_method_5_code_70 : decode method_5_code 70 = .ok (.dup, 1) := by decide +kernel
theorem d_method_5_code_71 : decode method_5_code 71 = .ok (.bipush 12, 2) := by decide +kernel
theorem d_method_5_code_73 : decode method_5_code 73 = .ok (.bipush 110, 2) := by decide +kernel
theorem d_method_5_code_75 : decode method_5_code 75 = .ok (.castore, 1) := by decide +kernel
theorem d_method_5_code_76 : decode method_5_code 76 = .ok (.dup, 1) := by decide +kernel
theorem d_method_5_code_77 : decode method_5_code 77 = .ok (.bipush 13, 2) := by decide +kernel
theorem d_method_5_code_79 : decode method_5_code 79 = .ok (.bipush 115, 2) := by decide +kernel
theorem d_method_5_code_81 : decode method_5_code 81 = .ok (.castore, 1) := by decide +kernel
theorem d_method_5_code_82 : decode method_5_code 82 = .ok (.dup, 1) := by decide +kernel
theorem d_method_5_code_83 : decode method_5_code 83 = .ok (.bipush 14, 2) := by decide +kernel
theorem d_method_5_code_85 : decode method_5_code 85 = .ok (.bipush 105, 2) := by decide +kernel
theorem d_method_5_code_87 : decode method_5_code 87 = .ok (.castore, 1) := by decide +kernel
theorem d_method_5_code_88 : decode method_5_code 88 = .ok (.dup, 1) := by decide +kernel
theorem d_method_5_code_89 : decode method_5_code 89 = .ok (.bipush 15, 2) := by decide +kernel
theorem d_method_5_code_91 : decode method_5_code 91 = .ok (.bipush 111, 2) := by decide +kernel
theorem d_method_5_code_93 : decode method_5_code 93 = .ok (.castore, 1) := by decide +kernel
theorem d_method_5_code_94 : decode method_5_code 94 = .ok (.dup, 1) := by decide +kernel
theorem d_method_5_code_95 : decode method_5_code 95 = .ok (.bipush 16, 2) := by decide +kernel
theorem d_method_5_code_97 : decode method_5_code 97 = .ok (.bipush 110, 2) := by decide +kernel
theorem d_method_5_code_99 : decode method_5_code 99 = .ok (.castore, 1) := by decide +kernel
theorem d_method_5_code_100 : decode method_5_code 100 = .ok (.dup, 1) := by decide +kernel
theorem d_method_5_code_101 : decode method_5_code 101 = .ok (.bipush 17, 2) := by decide +kernel
theorem d_method_5_code_103 : decode method_5_code 103 = .ok (.bipush 97, 2) := by decide +kernel
theorem d_method_5_code_105 : decode method_5_code 105 = .ok (.castore, 1) := by decide +kernel
theorem d_method_5_code_106 : decode method_5_code 106 = .ok (.areturn, 1) := by decide +kernel
theorem ef_method_5_code (m : MethodId)  : entryFrame m #[] 0 = mkF m 0 #[] [] := by first | (simp [entryFrame, mkF, argsToLocals, Value.category]; done) | rfl
set_option maxRecDepth 65536 in
set_option maxHeartbeats 40000000 in
theorem rm_modPlus (l : Launch) (Z : State) (a0 : Array Value) (hw : ∀ d ∈ tables_1, d.before a0 Z = true)  (h0 : Heap) (n0 : Nat) (Z0 : n0 ≤ h0.size) :
    own_Met l Z (⟨"com/example/extlint/extlint/model/ExtensionNamesListPinLaw", "modPlus", "()[C"⟩ : MethodName) method_5_code 0 (some (.array .char)) ({ frames := 0, cells := 1, slots := 18, locals := 0 } : Room) #[] h0 (fun v h L => ∃ (b : Addr) (k : ClassId), v = some (.ref b) ∧ Fr n0 L ∧ Keep h0 h [] ∧ h0.size ≤ b ∧ Arv Z h b k .char (18 : Int32) (own_MODP.map Value.int) (.int (0 : Int32))) := by
  refine own_body (plainFor_of_name pn_com_example_extlint_extlint_model_ExtensionNamesListPinLaw) ?_
  intro p e s m below meth c T0 X0 e0 hx hby hml hown hnm hret hlk hZ
  replace hown : s.vm.findClass "com/example/extlint/extlint/model/ExtensionNamesListPinLaw" = some m.cls := hown
  have N0 := Fr.nil n0
  refine own_of (fun tt_ kk_ => castTop (ef_method_5_code m ) kk_) ?_
  have K := Keep.refl h0 []
  show own_Ends _ _ _ _ _ _ (T0.setTop (mkF m 0 #[] []))
  refine own_of (fun tt_ kk_ => XS.bipush X0.here hx rfl (hb hby d_method_5_code_0) kk_) ?_
  show own_Ends _ _ _ _ _ _ (T0.setTop (mkF m 2 #[] [(.int (18 : Int32))]))
  obtain ⟨T40, h40, k40, X40, e40, E40, A40, st40⟩ := newP X0 hx hZ (hw _ (List.mem_of_getElem? (i := 4) rfl)) e0 (g := (mkF m 2 #[] [(.int (18 : Int32))])) rfl (hb hby d_method_5_code_2) rfl (by decide) (cap := 18) (by decide) (by decide) (by decide) (by decide)
  obtain ⟨b40, g40⟩ : ∃ z, z = h0.size := ⟨_, rfl⟩
  rw [← g40] at A40 st40
  have sz_b40 : h0.size ≤ b40 := Nat.le_trans K.1 (Nat.le_of_eq g40.symm)
  have g_b40 : n0 ≤ b40 := Nat.le_trans Z0 sz_b40
  have V40 : Arv Z h40 b40 k40 .char (18 : Int32) [(.int (0 : Int32)), (.int (0 : Int32)), (.int (0 : Int32)), (.int (0 : Int32)), (.int (0 : Int32)), (.int (0 : Int32)), (.int (0 : Int32)), (.int (0 : Int32)), (.int (0 : Int32)), (.int (0 : Int32)), (.int (0 : Int32)), (.int (0 : Int32)), (.int (0 : Int32)), (.int (0 : Int32)), (.int (0 : Int32)), (.int (0 : Int32)), (.int (0 : Int32)), (.int (0 : Int32))] (.int (0 : Int32)) := (Arv.new A40 (by decide)).pad (pad_rep [] (.int (0 : Int32)) 18)
  replace K := K.ext E40
  refine own_of st40 ?_
  show own_Ends _ _ _ _ _ _ (T40.setTop (mkF m 4 #[] [(.ref b40)]))
  refine own_of (fun tt_ kk_ => XS.dup X40.here hx rfl (hb hby d_method_5_code_4) rfl rfl kk_) ?_
  show own_Ends _ _ _ _ _ _ (T40.setTop (mkF m 5 #[] [(.ref b40), (.ref b40)]))
  refine own_of (fun tt_ kk_ => XS.iconst X40.here hx rfl (hb hby d_method_5_code_5) kk_) ?_
  show own_Ends _ _ _ _ _ _ (T40.setTop (mkF m 6 #[] [(.int (0 : Int32)), (.ref b40), (.ref b40)]))
  refine own_of (fun tt_ kk_ => XS.bipush X40.here hx rfl (hb hby d_method_5_code_6) kk_) ?_
  show own_Ends _ _ _ _ _ _ (T40.setTop (mkF m 8 #[] [(.int (109 : Int32)), (.int (0 : Int32)), (.ref b40), (.ref b40)]))
  obtain ⟨cl41, Ar41, q41, S41, N41', H41, G41⟩ := V40
  have hin41 : ¬ ((0 : Int32) < 0 ∨ cl41.slots.size ≤ ((0 : Int32)).toNatClampNeg) := inb_of S41 ⟨by decide, by decide⟩
  obtain ⟨T41, h41, X41, e41, W41, st41⟩ := stC X40 hx hZ e40 Ar41 (j := (0 : Int32)) hin41 (g := (mkF m 8 #[] [(.int (109 : Int32)), (.int (0 : Int32)), (.ref b40), (.ref b40)])) rfl rfl (hb hby d_method_5_code_8)
  have V41' : Arv Z h41 b40 k40 .char (18 : Int32) [(.int (109 : Int32)), (.int (0 : Int32)), (.int (0 : Int32)), (.int (0 : Int32)), (.int (0 : Int32)), (.int (0 : Int32)), (.int (0 : Int32)), (.int (0 : Int32)), (.int (0 : Int32)), (.int (0 : Int32)), (.int (0 : Int32)), (.int (0 : Int32)), (.int (0 : Int32)), (.int (0 : Int32)), (.int (0 : Int32)), (.int (0 : Int32)), (.int (0 : Int32)), (.int (0 : Int32))] (.int (0 : Int32)) := Arv.set Ar41 q41 S41 N41' H41 G41 rfl W41 0 rfl (Nat.le_of_ble_eq_true rfl)
  have N41 := Fr.snoc X41 N0 g_b40
  replace K := K.wr W41 (Or.inr sz_b40)
  refine own_of st41 ?_
  show own_Ends _ _ _ _ _ _ (T41.setTop (mkF m 9 #[] [(.ref b40)]))
  refine own_of (fun tt_ kk_ => XS.dup X41.here hx rfl (hb hby d_method_5_code_9) rfl rfl kk_) ?_
  show own_Ends _ _ _ _ _ _ (T41.setTop (mkF m 10 #[] [(.ref b40), (.ref b40)]))
  refine own_of (fun tt_ kk_ => XS.iconst X41.here hx rfl (hb hby d_method_5_code_10) kk_) ?_
  show own_Ends _ _ _ _ _ _ (T41.setTop (mkF m 11 #[] [(.int (1 : Int32)), (.ref b40), (.ref b40)]))
  refine own_of (fun tt_ kk_ => XS.bipush X41.here hx rfl (hb hby d_method_5_code_11) kk_) ?_
  show own_Ends _ _ _ _ _ _ (T41.setTop (mkF m 13 #[] [(.int (111 : Int32)), (.int (1 : Int32)), (.ref b40), (.ref b40)]))
  obtain ⟨cl42, Ar42, q42, S42, N42', H42, G42⟩ := V41'
  have hin42 : ¬ ((1 : Int32) < 0 ∨ cl42.slots.size ≤ ((1 : Int32)).toNatClampNeg) := inb_of S42 ⟨by decide, by decide⟩
  obtain ⟨T42, h42, X42, e42, W42, st42⟩ := stC X41 hx hZ e41 Ar42 (j := (1 : Int32)) hin42 (g := (mkF m 13 #[] [(.int (111 : Int32)), (.int (1 : Int32)), (.ref b40), (.ref b40)])) rfl rfl (hb hby d_method_5_code_13)
  have V42' : Arv Z h42 b40 k40 .char (18 : Int32) [(.int (109 : Int32)), (.int (111 : Int32)), (.int (0 : Int32)), (.int (0 : Int32)), (.int (0 : Int32)), (.int (0 : Int32)), (.int (0 : Int32)), (.int (0 : Int32)), (.int (0 : Int32)), (.int (0 : Int32)), (.int (0 : Int32)), (.int (0 : Int32)), (.int (0 : Int32)), (.int (0 : Int32)), (.int (0 : Int32)), (.int (0 : Int32)), (.int (0 : Int32)), (.int (0 : Int32))] (.int (0 : Int32)) := Arv.set Ar42 q42 S42 N42' H42 G42 rfl W42 1 rfl (Nat.le_of_ble_eq_true rfl)
  have N42 := Fr.snoc X42 N41 g_b40
  replace K := K.wr W42 (Or.inr sz_b40)
  refine own_of st42 ?_
  show own_Ends _ _ _ _ _ _ (T42.setTop (mkF m 14 #[] [(.ref b40)]))
  refine own_of (fun tt_ kk_ => XS.dup X42.here hx rfl (hb hby d_method_5_code_14) rfl rfl kk_) ?_
  show own_Ends _ _ _ _ _ _ (T42.setTop (mkF m 15 #[] [(.ref b40), (.ref b40)]))
  refine own_of (fun tt_ kk_ => XS.iconst X42.here hx rfl (hb hby d_method_5_code_15) kk_) ?_
  show own_Ends _ _ _ _ _ _ (T42.setTop (mkF m 16 #[] [(.int (2 : Int32)), (.ref b40), (.ref b40)]))
  refine own_of (fun tt_ kk_ => XS.bipush X42.here hx rfl (hb hby d_method_5_code_16) kk_) ?_
  show own_Ends _ _ _ _ _ _ (T42.setTop (mkF m 18 #[] [(.int (100 : Int32)), (.int (2 : Int32)), (.ref b40), (.ref b40)]))
  obtain ⟨cl43, Ar43, q43, S43, N43', H43, G43⟩ := V42'
  have hin43 : ¬ ((2 : Int32) < 0 ∨ cl43.slots.size ≤ ((2 : Int32)).toNatClampNeg) := inb_of S43 ⟨by decide, by decide⟩
  obtain ⟨T43, h43, X43, e43, W43, st43⟩ := stC X42 hx hZ e42 Ar43 (j := (2 : Int32)) hin43 (g := (mkF m 18 #[] [(.int (100 : Int32)), (.int (2 : Int32)), (.ref b40), (.ref b40)])) rfl rfl (hb hby d_method_5_code_18)
  have V43' : Arv Z h43 b40 k40 .char (18 : Int32) [(.int (109 : Int32)), (.int (111 : Int32)), (.int (100 : Int32)), (.int (0 : Int32)), (.int (0 : Int32)), (.int (0 : Int32)), (.int (0 : Int32)), (.int (0 : Int32)), (.int (0 : Int32)), (.int (0 : Int32)), (.int (0 : Int32)), (.int (0 : Int32)), (.int (0 : Int32)), (.int (0 : Int32)), (.int (0 : Int32)), (.int (0 : Int32)), (.int (0 : Int32)), (.int (0 : Int32))] (.int (0 : Int32)) := Arv.set Ar43 q43 S43 N43' H43 G43 rfl W43 2 rfl (Nat.le_of_ble_eq_true rfl)
  have N43 := Fr.snoc X43 N42 g_b40
  replace K := K.wr W43 (Or.inr sz_b40)
  refine own_of st43 ?_
  show own_Ends _ _ _ _ _ _ (T43.setTop (mkF m 19 #[] [(.ref b40)]))
  refine own_of (fun tt_ kk_ => XS.dup X43.here hx rfl (hb hby d_method_5_code_19) rfl rfl kk_) ?_
  show own_Ends _ _ _ _ _ _ (T43.setTop (mkF m 20 #[] [(.ref b40), (.ref b40)]))
  refine own_of (fun tt_ kk_ => XS.iconst X43.here hx rfl (hb hby d_method_5_code_20) kk_) ?_
  show own_Ends _ _ _ _ _ _ (T43.setTop (mkF m 21 #[] [(.int (3 : Int32)), (.ref b40), (.ref b40)]))
  refine own_of (fun tt_ kk_ => XS.bipush X43.here hx rfl (hb hby d_method_5_code_21) kk_) ?_
  show own_Ends _ _ _ _ _ _ (T43.setTop (mkF m 23 #[] [(.int (105 : Int32)), (.int (3 : Int32)), (.ref b40), (.ref b40)]))
  obtain ⟨cl44, Ar44, q44, S44, N44', H44, G44⟩ := V43'
  have hin44 : ¬ ((3 : Int32) < 0 ∨ cl44.slots.size ≤ ((3 : Int32)).toNatClampNeg) := inb_of S44 ⟨by decide, by decide⟩
  obtain ⟨T44, h44, X44, e44, W44, st44⟩ := stC X43 hx hZ e43 Ar44 (j := (3 : Int32)) hin44 (g := (mkF m 23 #[] [(.int (105 : Int32)), (.int (3 : Int32)), (.ref b40), (.ref b40)])) rfl rfl (hb hby d_method_5_code_23)
  have V44' : Arv Z h44 b40 k40 .char (18 : Int32) [(.int (109 : Int32)), (.int (111 : Int32)), (.int (100 : Int32)), (.int (105 : Int32)), (.int (0 : Int32)), (.int (0 : Int32)), (.int (0 : Int32)), (.int (0 : Int32)), (.int (0 : Int32)), (.int (0 : Int32)), (.int (0 : Int32)), (.int (0 : Int32)), (.int (0 : Int32)), (.int (0 : Int32)), (.int (0 : Int32)), (.int (0 : Int32)), (.int (0 : Int32)), (.int (0 : Int32))] (.int (0 : Int32)) := Arv.set Ar44 q44 S44 N44' H44 G44 rfl W44 3 rfl (Nat.le_of_ble_eq_true rfl)
  have N44 := Fr.snoc X44 N43 g_b40
  replace K := K.wr W44 (Or.inr sz_b40)
  refine own_of st44 ?_
  show own_Ends _ _ _ _ _ _ (T44.setTop (mkF m 24 #[] [(.ref b40)]))
  refine own_of (fun tt_ kk_ => XS.dup X44.here hx rfl (hb hby d_method_5_code_24) rfl rfl kk_) ?_
  show own_Ends _ _ _ _ _ _ (T44.setTop (mkF m 25 #[] [(.ref b40), (.ref b40)]))
  refine own_of (fun tt_ kk_ => XS.iconst X44.here hx rfl (hb hby d_method_5_code_25) kk_) ?_
  show own_Ends _ _ _ _ _ _ (T44.setTop (mkF m 26 #[] [(.int (4 : Int32)), (.ref b40), (.ref b40)]))
  refine own_of (fun tt_ kk_ => XS.bipush X44.here hx rfl (hb hby d_method_5_code_26) kk_) ?_
  show own_Ends _ _ _ _ _ _ (T44.setTop (mkF m 28 #[] [(.int (102 : Int32)), (.int (4 : Int32)), (.ref b40), (.ref b40)]))
  obtain ⟨cl45, Ar45, q45, S45, N45', H45, G45⟩ := V44'
  have hin45 : ¬ ((4 : Int32) < 0 ∨ cl45.slots.size ≤ ((4 : Int32)).toNatClampNeg) := inb_of S45 ⟨by decide, by decide⟩
  obtain ⟨T45, h45, X45, e45, W45, st45⟩ := stC X44 hx hZ e44 Ar45 (j := (4 : Int32)) hin45 (g := (mkF m 28 #[] [(.int (102 : Int32)), (.int (4 : Int32)), (.ref b40), (.ref b40)])) rfl rfl (hb hby d_method_5_code_28)
  have V45' : Arv Z h45 b40 k40 .char (18 : Int32) [(.int (109 : Int32)), (.int (111 : Int32)), (.int (100 : Int32)), (.int (105 : Int32)), (.int (102 : Int32)), (.int (0 : Int32)), (.int (0 : Int32)), (.int (0 : Int32)), (.int (0 : Int32)), (.int (0 : Int32)), (.int (0 : Int32)), (.int (0 : Int32)), (.int (0 : Int32)), (.int (0 : Int32)), (.int (0 : Int32)), (.int (0 : Int32)), (.int (0 : Int32)), (.int (0 : Int32))] (.int (0 : Int32)) := Arv.set Ar45 q45 S45 N45' H45 G45 rfl W45 4 rfl (Nat.le_of_ble_eq_true rfl)
  have N45 := Fr.snoc X45 N44 g_b40
  replace K := K.wr W45 (Or.inr sz_b40)
  refine own_of st45 ?_
  show own_Ends _ _ _ _ _ _ (T45.setTop (mkF m 29 #[] [(.ref b40)]))
  refine own_of (fun tt_ kk_ => XS.dup X45.here hx rfl (hb hby d_method_5_code_29) rfl rfl kk_) ?_
  show own_Ends _ _ _ _ _ _ (T45.setTop (mkF m 30 #[] [(.ref b40), (.ref b40)]))
  refine own_of (fun tt_ kk_ => XS.iconst X45.here hx rfl (hb hby d_method_5_code_30) kk_) ?_
  show own_Ends _ _ _ _ _ _ (T45.setTop (mkF m 31 #[] [(.int (5 : Int32)), (.ref b40), (.ref b40)]))
  refine own_of (fun tt_ kk_ => XS.bipush X45.here hx rfl (hb hby d_method_5_code_31) kk_) ?_
  show own_Ends _ _ _ _ _ _ (T45.setTop (mkF m 33 #[] [(.int (105 : Int32)), (.int (5 : Int32)), (.ref b40), (.ref b40)]))
  obtain ⟨cl46, Ar46, q46, S46, N46', H46, G46⟩ := V45'
  have hin46 : ¬ ((5 : Int32) < 0 ∨ cl46.slots.size ≤ ((5 : Int32)).toNatClampNeg) := inb_of S46 ⟨by decide, by decide⟩
  obtain ⟨T46, h46, X46, e46, W46, st46⟩ := stC X45 hx hZ e45 Ar46 (j := (5 : Int32)) hin46 (g := (mkF m 33 #[] [(.int (105 : Int32)), (.int (5 : Int32)), (.ref b40), (.ref b40)])) rfl rfl (hb hby d_method_5_code_33)
  have V46' : Arv Z h46 b40 k40 .char (18 : Int32) [(.int (109 : Int32)), (.int (111 : Int32)), (.int (100 : Int32)), (.int (105 : Int32)), (.int (102 : Int32)), (.int (105 : Int32)), (.int (0 : Int32)), (.int (0 : Int32)), (.int (0 : Int32)), (.int (0 : Int32)), (.int (0 : Int32)), (.int (0 : Int32)), (.int (0 : Int32)), (.int (0 : Int32)), (.int (0 : Int32)), (.int (0 : Int32)), (.int (0 : Int32)), (.int (0 : Int32))] (.int (0 : Int32)) := Arv.set Ar46 q46 S46 N46' H46 G46 rfl W46 5 rfl (Nat.le_of_ble_eq_true rfl)
  have N46 := Fr.snoc X46 N45 g_b40
  replace K := K.wr W46 (Or.inr sz_b40)
  refine own_of st46 ?_
  show own_Ends _ _ _ _ _ _ (T46.setTop (mkF m 34 #[] [(.ref b40)]))
  refine own_of (fun tt_ kk_ => XS.dup X46.here hx rfl (hb hby d_method_5_code_34) rfl rfl kk_) ?_
  show own_Ends _ _ _ _ _ _ (T46.setTop (mkF m 35 #[] [(.ref b40), (.ref b40)]))
  refine own_of (fun tt_ kk_ => XS.bipush X46.here hx rfl (hb hby d_method_5_code_35) kk_) ?_
  show own_Ends _ _ _ _ _ _ (T46.setTop (mkF m 37 #[] [(.int (6 : Int32)), (.ref b40), (.ref b40)]))
  refine own_of (fun tt_ kk_ => XS.bipush X46.here hx rfl (hb hby d_method_5_code_37) kk_) ?_
  show own_Ends _ _ _ _ _ _ (T46.setTop (mkF m 39 #[] [(.int (101 : Int32)), (.int (6 : Int32)), (.ref b40), (.ref b40)]))
  obtain ⟨cl47, Ar47, q47, S47, N47', H47, G47⟩ := V46'
  have hin47 : ¬ ((6 : Int32) < 0 ∨ cl47.slots.size ≤ ((6 : Int32)).toNatClampNeg) := inb_of S47 ⟨by decide, by decide⟩
  obtain ⟨T47, h47, X47, e47, W47, st47⟩ := stC X46 hx hZ e46 Ar47 (j := (6 : Int32)) hin47 (g := (mkF m 39 #[] [(.int (101 : Int32)), (.int (6 : Int32)), (.ref b40), (.ref b40)])) rfl rfl (hb hby d_method_5_code_39)
  have V47' : Arv Z h47 b40 k40 .char (18 : Int32) [(.int (109 : Int32)), (.int (111 : Int32)), (.int (100 : Int32)), (.int (105 : Int32)), (.int (102 : Int32)), (.int (105 : Int32)), (.int (101 : Int32)), (.int (0 : Int32)), (.int (0 : Int32)), (.int (0 : Int32)), (.int (0 : Int32)), (.int (0 : Int32)), (.int (0 : Int32)), (.int (0 : Int32)), (.int (0 : Int32)), (.int (0 : Int32)), (.int (0 : Int32)), (.int (0 : Int32))] (.int (0 : Int32)) := Arv.set Ar47 q47 S47 N47' H47 G47 rfl W47 6 rfl (Nat.le_of_ble_eq_true rfl)
  have N47 := Fr.snoc X47 N46 g_b40
  replace K := K.wr W47 (Or.inr sz_b40)
  refine own_of st47 ?_
  show own_Ends _ _ _ _ _ _ (T47.setTop (mkF m 40 #[] [(.ref b40)]))
  refine own_of (fun tt_ kk_ => XS.dup X47.here hx rfl (hb hby d_method_5_code_40) rfl rfl kk_) ?_
  show own_Ends _ _ _ _ _ _ (T47.setTop (mkF m 41 #[] [(.ref b40), (.ref b40)]))
  refine own_of (fun tt_ kk_ => XS.bipush X47.here hx rfl (hb hby d_method_5_code_41) kk_) ?_
  show own_Ends _ _ _ _ _ _ (T47.setTop (mkF m 43 #[] [(.int (7 : Int32)), (.ref b40), (.ref b40)]))
  refine own_of (fun tt_ kk_ => XS.bipush X47.here hx rfl (hb hby d_method_5_code_43) kk_) ?_
  show own_Ends _ _ _ _ _ _ (T47.setTop (mkF m 45 #[] [(.int (114 : Int32)), (.int (7 : Int32)), (.ref b40), (.ref b40)]))
  obtain ⟨cl48, Ar48, q48, S48, N48', H48, G48⟩ := V47'
  have hin48 : ¬ ((7 : Int32) < 0 ∨ cl48.slots.size ≤ ((7 : Int32)).toNatClampNeg) := inb_of S48 ⟨by decide, by decide⟩
  obtain ⟨T48, h48, X48, e48, W48, st48⟩ := stC X47 hx hZ e47 Ar48 (j := (7 : Int32)) hin48 (g := (mkF m 45 #[] [(.int (114 : Int32)), (.int (7 : Int32)), (.ref b40), (.ref b40)])) rfl rfl (hb hby d_method_5_code_45)
  have V48' : Arv Z h48 b40 k40 .char (18 : Int32) [(.int (109 : Int32)), (.int (111 : Int32)), (.int (100 : Int32)), (.int (105 : Int32)), (.int (102 : Int32)), (.int (105 : Int32)), (.int (101 : Int32)), (.int (114 : Int32)), (.int (0 : Int32)), (.int (0 : Int32)), (.int (0 : Int32)), (.int (0 : Int32)), (.int (0 : Int32)), (.int (0 : Int32)), (.int (0 : Int32)), (.int (0 : Int32)), (.int (0 : Int32)), (.int (0 : Int32))] (.int (0 : Int32)) := Arv.set Ar48 q48 S48 N48' H48 G48 rfl W48 7 rfl (Nat.le_of_ble_eq_true rfl)
  have N48 := Fr.snoc X48 N47 g_b40
  replace K := K.wr W48 (Or.inr sz_b40)
  refine own_of st48 ?_
  show own_Ends _ _ _ _ _ _ (T48.setTop (mkF m 46 #[] [(.ref b40)]))
  refine own_of (fun tt_ kk_ => XS.dup X48.here hx rfl (hb hby d_method_5_code_46) rfl rfl kk_) ?_
  show own_Ends _ _ _ _ _ _ (T48.setTop (mkF m 47 #[] [(.ref b40), (.ref b40)]))
  refine own_of (fun tt_ kk_ => XS.bipush X48.here hx rfl (hb hby d_method_5_code_47) kk_) ?_
  show own_Ends _ _ _ _ _ _ (T48.setTop (mkF m 49 #[] [(.int (8 : Int32)), (.ref b40), (.ref b40)]))
  refine own_of (fun tt_ kk_ => XS.bipush X48.here hx rfl (hb hby d_method_5_code_49) kk_) ?_
  show own_Ends _ _ _ _ _ _ (T48.setTop (mkF m 51 #[] [(.int (69 : Int32)), (.int (8 : Int32)), (.ref b40), (.ref b40)]))
  obtain ⟨cl49, Ar49, q49, S49, N49', H49, G49⟩ := V48'
  have hin49 : ¬ ((8 : Int32) < 0 ∨ cl49.slots.size ≤ ((8 : Int32)).toNatClampNeg) := inb_of S49 ⟨by decide, by decide⟩
  obtain ⟨T49, h49, X49, e49, W49, st49⟩ := stC X48 hx hZ e48 Ar49 (j := (8 : Int32)) hin49 (g := (mkF m 51 #[] [(.int (69 : Int32)), (.int (8 : Int32)), (.ref b40), (.ref b40)])) rfl rfl (hb hby d_method_5_code_51)
  have V49' : Arv Z h49 b40 k40 .char (18 : Int32) [(.int (109 : Int32)), (.int (111 : Int32)), (.int (100 : Int32)), (.int (105 : Int32)), (.int (102 : Int32)), (.int (105 : Int32)), (.int (101 : Int32)), (.int (114 : Int32)), (.int (69 : Int32)), (.int (0 : Int32)), (.int (0 : Int32)), (.int (0 : Int32)), (.int (0 : Int32)), (.int (0 : Int32)), (.int (0 : Int32)), (.int (0 : Int32)), (.int (0 : Int32)), (.int (0 : Int32))] (.int (0 : Int32)) := Arv.set Ar49 q49 S49 N49' H49 G49 rfl W49 8 rfl (Nat.le_of_ble_eq_true rfl)
  have N49 := Fr.snoc X49 N48 g_b40
  replace K := K.wr W49 (Or.inr sz_b40)
  refine own_of st49 ?_
  show own_Ends _ _ _ _ _ _ (T49.setTop (mkF m 52 #[] [(.ref b40)]))
  refine own_of (fun tt_ kk_ => XS.dup X49.here hx rfl (hb hby d_method_5_code_52) rfl rfl kk_) ?_
  show own_Ends _ _ _ _ _ _ (T49.setTop (mkF m 53 #[] [(.ref b40), (.ref b40)]))
  refine own_of (fun tt_ kk_ => XS.bipush X49.here hx rfl (hb hby d_method_5_code_53) kk_) ?_
  show own_Ends _ _ _ _ _ _ (T49.setTop (mkF m 55 #[] [(.int (9 : Int32)), (.ref b40), (.ref b40)]))
  refine own_of (fun tt_ kk_ => XS.bipush X49.here hx rfl (hb hby d_method_5_code_55) kk_) ?_
  show own_Ends _ _ _ _ _ _ (T49.setTop (mkF m 57 #[] [(.int (120 : Int32)), (.int (9 : Int32)), (.ref b40), (.ref b40)]))
  obtain ⟨cl50, Ar50, q50, S50, N50', H50, G50⟩ := V49'
  have hin50 : ¬ ((9 : Int32) < 0 ∨ cl50.slots.size ≤ ((9 : Int32)).toNatClampNeg) := inb_of S50 ⟨by decide, by decide⟩
  obtain ⟨T50, h50, X50, e50, W50, st50⟩ := stC X49 hx hZ e49 Ar50 (j := (9 : Int32)) hin50 (g := (mkF m 57 #[] [(.int (120 : Int32)), (.int (9 : Int32)), (.ref b40), (.ref b40)])) rfl rfl (hb hby d_method_5_code_57)
  have V50' : Arv Z h50 b40 k40 .char (18 : Int32) [(.int (109 : Int32)), (.int (111 : Int32)), (.int (100 : Int32)), (.int (105 : Int32)), (.int (102 : Int32)), (.int (105 : Int32)), (.int (101 : Int32)), (.int (114 : Int32)), (.int (69 : Int32)), (.int (120 : Int32)), (.int (0 : Int32)), (.int (0 : Int32)), (.int (0 : Int32)), (.int (0 : Int32)), (.int (0 : Int32)), (.int (0 : Int32)), (.int (0 : Int32)), (.int (0 : Int32))] (.int (0 : Int32)) := Arv.set Ar50 q50 S50 N50' H50 G50 rfl W50 9 rfl (Nat.le_of_ble_eq_true rfl)
  have N50 := Fr.snoc X50 N49 g_b40
  replace K := K.wr W50 (Or.inr sz_b40)
  refine own_of st50 ?_
  show own_Ends _ _ _ _ _ _ (T50.setTop (mkF m 58 #[] [(.ref b40)]))
  refine own_of (fun tt_ kk_ => XS.dup X50.here hx rfl (hb hby d_method_5_code_58) rfl rfl kk_) ?_
  show own_Ends _ _ _ _ _ _ (T50.setTop (mkF m 59 #[] [(.ref b40), (.ref b40)]))
  refine own_of (fun tt_ kk_ => XS.bipush X50.here hx rfl (hb hby d_method_5_code_59) kk_) ?_
  show own_Ends _ _ _ _ _ _ (T50.setTop (mkF m 61 #[] [(.int (10 : Int32)), (.ref b40), (.ref b40)]))
  refine own_of (fun tt_ kk_ => XS.bipush X50.here hx rfl (hb hby d_method_5_code_61) kk_) ?_
  show own_Ends _ _ _ _ _ _ (T50.setTop (mkF m 63 #[] [(.int (116 : Int32)), (.int (10 : Int32)), (.ref b40), (.ref b40)]))
  obtain ⟨cl51, Ar51, q51, S51, N51', H51, G51⟩ := V50'
  have hin51 : ¬ ((10 : Int32) < 0 ∨ cl51.slots.size ≤ ((10 : Int32)).toNatClampNeg) := inb_of S51 ⟨by decide, by decide⟩
  obtain ⟨T51, h51, X51, e51, W51, st51⟩ := stC X50 hx hZ e50 Ar51 (j := (10 : Int32)) hin51 (g := (mkF m 63 #[] [(.int (116 : Int32)), (.int (10 : Int32)), (.ref b40), (.ref b40)])) rfl rfl (hb hby d_method_5_code_63)
  have V51' : Arv Z h51 b40 k40 .char (18 : Int32) [(.int (109 : Int32)), (.int (111 : Int32)), (.int (100 : Int32)), (.int (105 : Int32)), (.int (102 : Int32)), (.int (105 : Int32)), (.int (101 : Int32)), (.int (114 : Int32)), (.int (69 : Int32)), (.int (120 : Int32)), (.int (116 : Int32)), (.int (0 : Int32)), (.int (0 : Int32)), (.int (0 : Int32)), (.int (0 : Int32)), (.int (0 : Int32)), (.int (0 : Int32)), (.int (0 : Int32))] (.int (0 : Int32)) := Arv.set Ar51 q51 S51 N51' H51 G51 rfl W51 10 rfl (Nat.le_of_ble_eq_true rfl)
  have N51 := Fr.snoc X51 N50 g_b40
  replace K := K.wr W51 (Or.inr sz_b40)
  refine own_of st51 ?_
  show own_Ends _ _ _ _ _ _ (T51.setTop (mkF m 64 #[] [(.ref b40)]))
  refine own_of (fun tt_ kk_ => XS.dup X51.here hx rfl (hb hby d_method_5_code_64) rfl rfl kk_) ?_
  show own_Ends _ _ _ _ _ _ (T51.setTop (mkF m 65 #[] [(.ref b40), (.ref b40)]))
  refine own_of (fun tt_ kk_ => XS.bipush X51.here hx rfl (hb hby d_method_5_code_65) kk_) ?_
  show own_Ends _ _ _ _ _ _ (T51.setTop (mkF m 67 #[] [(.int (11 : Int32)), (.ref b40), (.ref b40)]))
  refine own_of (fun tt_ kk_ => XS.bipush X51.here hx rfl (hb hby d_method_5_code_67) kk_) ?_
  show own_Ends _ _ _ _ _ _ (T51.setTop (mkF m 69 #[] [(.int (101 : Int32)), (.int (11 : Int32)), (.ref b40), (.ref b40)]))
  obtain ⟨cl52, Ar52, q52, S52, N52', H52, G52⟩ := V51'
  have hin52 : ¬ ((11 : Int32) < 0 ∨ cl52.slots.size ≤ ((11 : Int32)).toNatClampNeg) := inb_of S52 ⟨by decide, by decide⟩
  obtain ⟨T52, h52, X52, e52, W52, st52⟩ := stC X51 hx hZ e51 Ar52 (j := (11 : Int32)) hin52 (g := (mkF m 69 #[] [(.int (101 : Int32)), (.int (11 : Int32)), (.ref b40), (.ref b40)])) rfl rfl (hb hby d_method_5_code_69)
  have V52' : Arv Z h52 b40 k40 .char (18 : Int32) [(.int (109 : Int32)), (.int (111 : Int32)), (.int (100 : Int32)), (.int (105 : Int32)), (.int (102 : Int32)), (.int (105 : Int32)), (.int (101 : Int32)), (.int (114 : Int32)), (.int (69 : Int32)), (.int (120 : Int32)), (.int (116 : Int32)), (.int (101 : Int32)), (.int (0 : Int32)), (.int (0 : Int32)), (.int (0 : Int32)), (.int (0 : Int32)), (.int (0 : Int32)), (.int (0 : Int32))] (.int (0 : Int32)) := Arv.set Ar52 q52 S52 N52' H52 G52 rfl W52 11 rfl (Nat.le_of_ble_eq_true rfl)
  have N52 := Fr.snoc X52 N51 g_b40
  replace K := K.wr W52 (Or.inr sz_b40)
  refine own_of st52 ?_
  show own_Ends _ _ _ _ _ _ (T52.setTop (mkF m 70 #[] [(.ref b40)]))
  refine own_of (fun tt_ kk_ => XS.dup X52.here hx rfl (hb hby d_method_5_code_70) rfl rfl kk_) ?_
  show own_Ends _ _ _ _ _ _ (T52.setTop (mkF m 71 #[] [(.ref b40), (.ref b40)]))
  refine own_of (fun tt_ kk_ => XS.bipush X52.here hx rfl (hb hby d_method_5_code_71) kk_) ?_
  show own_Ends _ _ _ _ _ _ (T52.setTop (mkF m 73 #[] [(.int (12 : Int32)), (.ref b40), (.ref b40)]))
  refine own_of (fun tt_ kk_ => XS.bipush X52.here hx rfl (hb hby d_method_5_code_73) kk_) ?_
  show own_Ends _ _ _ _ _ _ (T52.setTop (mkF m 75 #[] [(.int (110 : Int32)), (.int (12 : Int32)), (.ref b40), (.ref b40)]))
  obtain ⟨cl53, Ar53, q53, S53, N53', H53, G53⟩ := V52'
  have hin53 : ¬ ((12 : Int32) < 0 ∨ cl53.slots.size ≤ ((12 : Int32)).toNatClampNeg) := inb_of S53 ⟨by decide, by decide⟩
  obtain ⟨T53, h53, X53, e53, W53, st53⟩ := stC X52 hx hZ e52 Ar53 (j := (12 : Int32)) hin53 (g := (mkF m 75 #[] [(.int (110 : Int32)), (.int (12 : Int32)), (.ref b40), (.ref b40)])) rfl rfl (hb hby d_method_5_code_75)
  have V53' : Arv Z h53 b40 k40 .char (18 : Int32) [(.int (109 : Int32)), (.int (111 : Int32)), (.int (100 : Int32)), (.int (105 : Int32)), (.int (102 : Int32)), (.int (105 : Int32)), (.int (101 : Int32)), (.int (114 : Int32)), (.int (69 : Int32)), (.int (120 : Int32)), (.int (116 : Int32)), (.int (101 : Int32)), (.int (110 : Int32)), (.int (0 : Int32)), (.int (0 : Int32)), (.int (0 : Int32)), (.int (0 : Int32)), (.int (0 : Int32))] (.int (0 : Int32)) := Arv.set Ar53 q53 S53 N53' H53 G53 rfl W53 12 rfl (Nat.le_of_ble_eq_true rfl)
  have N53 := Fr.snoc X53 N52 g_b40
  replace K := K.wr W53 (Or.inr sz_b40)
  refine own_of st53 ?_
  show own_Ends _ _ _ _ _ _ (T53.setTop (mkF m 76 #[] [(.ref b40)]))
  refine own_of (fun tt_ kk_ => XS.dup X53.here hx rfl (hb hby d_method_5_code_76) rfl rfl kk_) ?_
  show own_Ends _ _ _ _ _ _ (T53.setTop (mkF m 77 #[] [(.ref b40), (.ref b40)]))
  refine own_of (fun tt_ kk_ => XS.bipush X53.here hx rfl (hb hby d_method_5_code_77) kk_) ?_
  show own_Ends _ _ _ _ _ _ (T53.setTop (mkF m 79 #[] [(.int (13 : Int32)), (.ref b40), (.ref b40)]))
  refine own_of (fun tt_ kk_ => XS.bipush X53.here hx rfl (hb hby d_method_5_code_79) kk_) ?_
  show own_Ends _ _ _ _ _ _ (T53.setTop (mkF m 81 #[] [(.int (115 : Int32)), (.int (13 : Int32)), (.ref b40), (.ref b40)]))
  obtain ⟨cl54, Ar54, q54, S54, N54', H54, G54⟩ := V53'
  have hin54 : ¬ ((13 : Int32) < 0 ∨ cl54.slots.size ≤ ((13 : Int32)).toNatClampNeg) := inb_of S54 ⟨by decide, by decide⟩
  obtain ⟨T54, h54, X54, e54, W54, st54⟩ := stC X53 hx hZ e53 Ar54 (j := (13 : Int32)) hin54 (g := (mkF m 81 #[] [(.int (115 : Int32)), (.int (13 : Int32)), (.ref b40), (.ref b40)])) rfl rfl (hb hby d_method_5_code_81)
  have V54' : Arv Z h54 b40 k40 .char (18 : Int32) [(.int (109 : Int32)), (.int (111 : Int32)), (.int (100 : Int32)), (.int (105 : Int32)), (.int (102 : Int32)), (.int (105 : Int32)), (.int (101 : Int32)), (.int (114 : Int32)), (.int (69 : Int32)), (.int (120 : Int32)), (.int (116 : Int32)), (.int (101 : Int32)), (.int (110 : Int32)), (.int (115 : Int32)), (.int (0 : Int32)), (.int (0 : Int32)), (.int (0 : Int32)), (.int (0 : Int32))] (.int (0 : Int32)) := Arv.set Ar54 q54 S54 N54' H54 G54 rfl W54 13 rfl (Nat.le_of_ble_eq_true rfl)
  have N54 := Fr.snoc X54 N53 g_b40
  replace K := K.wr W54 (Or.inr sz_b40)
  refine own_of st54 ?_
  show own_Ends _ _ _ _ _ _ (T54.setTop (mkF m 82 #[] [(.ref b40)]))
  refine own_of (fun tt_ kk_ => XS.dup X54.here hx rfl (hb hby d_method_5_code_82) rfl rfl kk_) ?_
  show own_Ends _ _ _ _ _ _ (T54.setTop (mkF m 83 #[] [(.ref b40), (.ref b40)]))
  refine own_of (fun tt_ kk_ => XS.bipush X54.here hx rfl (hb hby d_method_5_code_83) kk_) ?_
  show own_Ends _ _ _ _ _ _ (T54.setTop (mkF m 85 #[] [(.int (14 : Int32)), (.ref b40), (.ref b40)]))
  refine own_of (fun tt_ kk_ => XS.bipush X54.here hx rfl (hb hby d_method_5_code_85) kk_) ?_
  show own_Ends _ _ _ _ _ _ (T54.setTop (mkF m 87 #[] [(.int (105 : Int32)), (.int (14 : Int32)), (.ref b40), (.ref b40)]))
  obtain ⟨cl55, Ar55, q55, S55, N55', H55, G55⟩ := V54'
  have hin55 : ¬ ((14 : Int32) < 0 ∨ cl55.slots.size ≤ ((14 : Int32)).toNatClampNeg) := inb_of S55 ⟨by decide, by decide⟩
  obtain ⟨T55, h55, X55, e55, W55, st55⟩ := stC X54 hx hZ e54 Ar55 (j := (14 : Int32)) hin55 (g := (mkF m 87 #[] [(.int (105 : Int32)), (.int (14 : Int32)), (.ref b40), (.ref b40)])) rfl rfl (hb hby d_method_5_code_87)
  have V55' : Arv Z h55 b40 k40 .char (18 : Int32) [(.int (109 : Int32)), (.int (111 : Int32)), (.int (100 : Int32)), (.int (105 : Int32)), (.int (102 : Int32)), (.int (105 : Int32)), (.int (101 : Int32)), (.int (114 : Int32)), (.int (69 : Int32)), (.int (120 : Int32)), (.int (116 : Int32)), (.int (101 : Int32)), (.int (110 : Int32)), (.int (115 : Int32)), (.int (105 : Int32)), (.int (0 : Int32)), (.int (0 : Int32)), (.int (0 : Int32))] (.int (0 : Int32)) := Arv.set Ar55 q55 S55 N55' H55 G55 rfl W55 14 rfl (Nat.le_of_ble_eq_true rfl)
  have N55 := Fr.snoc X55 N54 g_b40
  replace K := K.wr W55 (Or.inr sz_b40)
  refine own_of st55 ?_
  show own_Ends _ _ _ _ _ _ (T55.setTop (mkF m 88 #[] [(.ref b40)]))
  refine own_of (fun tt_ kk_ => XS.dup X55.here hx rfl (hb hby d_method_5_code_88) rfl rfl kk_) ?_
  show own_Ends _ _ _ _ _ _ (T55.setTop (mkF m 89 #[] [(.ref b40), (.ref b40)]))
  refine own_of (fun tt_ kk_ => XS.bipush X55.here hx rfl (hb hby d_method_5_code_89) kk_) ?_
  show own_Ends _ _ _ _ _ _ (T55.setTop (mkF m 91 #[] [(.int (15 : Int32)), (.ref b40), (.ref b40)]))
  refine own_of (fun tt_ kk_ => XS.bipush X55.here hx rfl (hb hby d_method_5_code_91) kk_) ?_
  show own_Ends _ _ _ _ _ _ (T55.setTop (mkF m 93 #[] [(.int (111 : Int32)), (.int (15 : Int32)), (.ref b40), (.ref b40)]))
  obtain ⟨cl56, Ar56, q56, S56, N56', H56, G56⟩ := V55'
  have hin56 : ¬ ((15 : Int32) < 0 ∨ cl56.slots.size ≤ ((15 : Int32)).toNatClampNeg) := inb_of S56 ⟨by decide, by decide⟩
  obtain ⟨T56, h56, X56, e56, W56, st56⟩ := stC X55 hx hZ e55 Ar56 (j := (15 : Int32)) hin56 (g := (mkF m 93 #[] [(.int (111 : Int32)), (.int (15 : Int32)), (.ref b40), (.ref b40)])) rfl rfl (hb hby d_method_5_code_93)
  have V56' : Arv Z h56 b40 k40 .char (18 : Int32) [(.int (109 : Int32)), (.int (111 : Int32)), (.int (100 : Int32)), (.int (105 : Int32)), (.int (102 : Int32)), (.int (105 : Int32)), (.int (101 : Int32)), (.int (114 : Int32)), (.int (69 : Int32)), (.int (120 : Int32)), (.int (116 : Int32)), (.int (101 : Int32)), (.int (110 : Int32)), (.int (115 : Int32)), (.int (105 : Int32)), (.int (111 : Int32)), (.int (0 : Int32)), (.int (0 : Int32))] (.int (0 : Int32)) := Arv.set Ar56 q56 S56 N56' H56 G56 rfl W56 15 rfl (Nat.le_of_ble_eq_true rfl)
  have N56 := Fr.snoc X56 N55 g_b40
  replace K := K.wr W56 (Or.inr sz_b40)
  refine own_of st56 ?_
  show own_Ends _ _ _ _ _ _ (T56.setTop (mkF m 94 #[] [(.ref b40)]))
  refine own_of (fun tt_ kk_ => XS.dup X56.here hx rfl (hb hby d_method_5_code_94) rfl rfl kk_) ?_
  show own_Ends _ _ _ _ _ _ (T56.setTop (mkF m 95 #[] [(.ref b40), (.ref b40)]))
  refine own_of (fun tt_ kk_ => XS.bipush X56.here hx rfl (hb hby d_method_5_code_95) kk_) ?_
  show own_Ends _ _ _ _ _ _ (T56.setTop (mkF m 97 #[] [(.int (16 : Int32)), (.ref b40), (.ref b40)]))
  refine own_of (fun tt_ kk_ => XS.bipush X56.here hx rfl (hb hby d_method_5_code_97) kk_) ?_
  show own_Ends _ _ _ _ _ _ (T56.setTop (mkF m 99 #[] [(.int (110 : Int32)), (.int (16 : Int32)), (.ref b40), (.ref b40)]))
  obtain ⟨cl57, Ar57, q57, S57, N57', H57, G57⟩ := V56'
  have hin57 : ¬ ((16 : Int32) < 0 ∨ cl57.slots.size ≤ ((16 : Int32)).toNatClampNeg) := inb_of S57 ⟨by decide, by decide⟩
  obtain ⟨T57, h57, X57, e57, W57, st57⟩ := stC X56 hx hZ e56 Ar57 (j := (16 : Int32)) hin57 (g := (mkF m 99 #[] [(.int (110 : Int32)), (.int (16 : Int32)), (.ref b40), (.ref b40)])) rfl rfl (hb hby d_method_5_code_99)
  have V57' : Arv Z h57 b40 k40 .char (18 : Int32) [(.int (109 : Int32)), (.int (111 : Int32)), (.int (100 : Int32)), (.int (105 : Int32)), (.int (102 : Int32)), (.int (105 : Int32)), (.int (101 : Int32)), (.int (114 : Int32)), (.int (69 : Int32)), (.int (120 : Int32)), (.int (116 : Int32)), (.int (101 : Int32)), (.int (110 : Int32)), (.int (115 : Int32)), (.int (105 : Int32)), (.int (111 : Int32)), (.int (110 : Int32)), (.int (0 : Int32))] (.int (0 : Int32)) := Arv.set Ar57 q57 S57 N57' H57 G57 rfl W57 16 rfl (Nat.le_of_ble_eq_true rfl)
  have N57 := Fr.snoc X57 N56 g_b40
  replace K := K.wr W57 (Or.inr sz_b40)
  refine own_of st57 ?_
  show own_Ends _ _ _ _ _ _ (T57.setTop (mkF m 100 #[] [(.ref b40)]))
  refine own_of (fun tt_ kk_ => XS.dup X57.here hx rfl (hb hby d_method_5_code_100) rfl rfl kk_) ?_
  show own_Ends _ _ _ _ _ _ (T57.setTop (mkF m 101 #[] [(.ref b40), (.ref b40)]))
  refine own_of (fun tt_ kk_ => XS.bipush X57.here hx rfl (hb hby d_method_5_code_101) kk_) ?_
  show own_Ends _ _ _ _ _ _ (T57.setTop (mkF m 103 #[] [(.int (17 : Int32)), (.ref b40), (.ref b40)]))
  refine own_of (fun tt_ kk_ => XS.bipush X57.here hx rfl (hb hby d_method_5_code_103) kk_) ?_
  show own_Ends _ _ _ _ _ _ (T57.setTop (mkF m 105 #[] [(.int (97 : Int32)), (.int (17 : Int32)), (.ref b40), (.ref b40)]))
  obtain ⟨cl58, Ar58, q58, S58, N58', H58, G58⟩ := V57'
  have hin58 : ¬ ((17 : Int32) < 0 ∨ cl58.slots.size ≤ ((17 : Int32)).toNatClampNeg) := inb_of S58 ⟨by decide, by decide⟩
  obtain ⟨T58, h58, X58, e58, W58, st58⟩ := stC X57 hx hZ e57 Ar58 (j := (17 : Int32)) hin58 (g := (mkF m 105 #[] [(.int (97 : Int32)), (.int (17 : Int32)), (.ref b40), (.ref b40)])) rfl rfl (hb hby d_method_5_code_105)
  have V58' : Arv Z h58 b40 k40 .char (18 : Int32) [(.int (109 : Int32)), (.int (111 : Int32)), (.int (100 : Int32)), (.int (105 : Int32)), (.int (102 : Int32)), (.int (105 : Int32)), (.int (101 : Int32)), (.int (114 : Int32)), (.int (69 : Int32)), (.int (120 : Int32)), (.int (116 : Int32)), (.int (101 : Int32)), (.int (110 : Int32)), (.int (115 : Int32)), (.int (105 : Int32)), (.int (111 : Int32)), (.int (110 : Int32)), (.int (97 : Int32))] (.int (0 : Int32)) := Arv.set Ar58 q58 S58 N58' H58 G58 rfl W58 17 rfl (Nat.le_of_ble_eq_true rfl)
  have N58 := Fr.snoc X58 N57 g_b40
  replace K := K.wr W58 (Or.inr sz_b40)
  refine own_of st58 ?_
  show own_Ends _ _ _ _ _ _ (T58.setTop (mkF m 106 #[] [(.ref b40)]))
  refine own_retA X58 hx hlk e58 hret rfl rfl (hb hby d_method_5_code_106) (by decide) (by decide) ?_
  exact ⟨b40, k40, rfl, N58, K, sz_b40, V58'⟩
theorem d_prog_29_method_6_code_0 : decode prog_29_method_6_code 0 = .ok (.aload_n 0, 1) := by decide +kernel
theorem d_prog_29_method_6_code_1 : decode prog_29_method_6_code 1 = .ok (.ldc 99, 2) := by decide +kernel
theorem pd__Ljava_lang_Object__r_Z : parseMethodDescriptor "(Ljava/lang/Object;)Z" = some ⟨[(.object "java/lang/Object")], some .boolean⟩ := by decide +kernel
theorem d_prog_29_method_6_code_3 : decode prog_29_method_6_code 3 = .ok (.invokevirtual 101, 3) := by decide +kernel
theorem d_prog_29_method_6_code_6 : decode prog_29_method_6_code 6 = .ok (.ifCond .ne 12, 3) := by decide +kernel
theorem d_prog_29_method_6_code_18 : decode prog_29_method_6_code 18 = .ok (.iconst 1, 1) := by decide +kernel
theorem d_prog_29_method_6_code_19 : decode prog_29_method_6_code 19 = .ok (.goto 4, 3) := by decide +kernel
theorem d_prog_29_method_6_code_23 : decode prog_29_method_6_code 23 = .ok (.ireturn, 1) := by decide +kernel
theorem pn_com_example_extlint_extlint_model_Extension : plainName "com/example/extlint/extlint/model/Extension" = true := by first | (simp [plainName, overriddenIn]; done) | decide +kernel
theorem ef_prog_29_method_6_codeR (m : MethodId) (z0 : Addr) : entryFrame m #[(.ref z0)] 1 = mkF m 0 #[.val (.ref z0)] [] := by first | (simp [entryFrame, mkF, argsToLocals, Value.category]; done) | rfl
set_option maxRecDepth 65536 in
set_option maxHeartbeats 40000000 in
theorem rm_nlE (l : Launch) (Z : State) (a0 : Array Value) (hw : ∀ d ∈ tables_1, d.before a0 Z = true) (a t : Addr) (k : ClassId) (cs : List Int32) (N G1 : Int32) (h0 : Heap) (n0 : Nat) (Z0 : n0 ≤ h0.size) (hEL : EW Z a0 own_EL) (E : Exa Z h0 a "java/lang/String") (FC : Fld Z h0 a "java/lang/String" "coder" "B" (.int (0 : Int32))) (FV : Fld Z h0 a "java/lang/String" "value" "[B" (.ref t)) (V : Arv Z h0 t k .byte N (own_by cs) (.int 0)) (hN : N = Int32.ofNat cs.length) (hq8 : own_lat8 cs) (hl : cs.length ≤ 4000) (O2 : Sta Z Z.heap "java/lang/String" "COMPACT_STRINGS" "Z" (.int G1)) (P3 : ¬ (G1 = (0 : Int32))) (OL : Old Z n0 h0) (hE : cs = own_EXT) :
    own_MetW l Z own_EL (⟨"com/example/extlint/extlint/model/Extension", "namesList", "(Ljava/lang/String;)Z"⟩ : MethodName) prog_29_method_6_code 1 (some .boolean) ({ frames := 2, cells := 2, slots := 40, locals := 28 } : Room) #[(.ref a)] h0 (fun v h L => v = some (.int (1 : Int32)) ∧ Fr n0 L ∧ Keep h0 h []) := by
  refine own_bodyW (plainFor_of_name pn_com_example_extlint_extlint_model_Extension) ?_
  intro p e s m below meth c T0 X0 e0 es hx hby hml hown hnm hret hlk hZ hS HC
  replace hown : (s.setVm s.vm).vm.findClass "com/example/extlint/extlint/model/Extension" = some m.cls := hown
  have N0 := Fr.nil n0
  have hk : 0 ≤ h0.size := Nat.zero_le _
  have wS : ∀ d ∈ Bundle.stringAtoms, d.before a0 Z = true := fun d hd => hw d ((by decide +kernel : ∀ d ∈ Bundle.stringAtoms, d ∈ tables_1) d hd)
  refine own_ofW (fun tt_ kk_ => castTop (ef_prog_29_method_6_codeR m a) kk_) ?_
  have K := Keep.refl h0 []
  have hwq : ∀ d ∈ StrChars.Road.wordsEq, d.before a0 Z = true := fun d hd => hw d ((by decide +kernel : ∀ d ∈ StrChars.Road.wordsEq, d ∈ tables_1) d hd)
  show own_EndsW _ _ _ _ _ _ _ _ (T0.setTop (mkF m 0 #[.val (.ref a)] []))
  refine own_ofW (fun tt_ kk_ => XS.aloadN X0.here hx rfl (hb hby d_prog_29_method_6_code_0) rfl rfl kk_) ?_
  show own_EndsW _ _ _ _ _ _ _ _ (T0.setTop (mkF m 1 #[.val (.ref a)] [(.ref a)]))
  obtain ⟨a59, T59, h59, k59', t59, kb59, X59, e59, E59, hS, hk, hZ, hown, Es59, Cs59, Fs59, Vs59, la59, lt59, HCq59, Lt59, Sf59, st59⟩ := ldcCH X0 hx hZ hown (hw _ (List.mem_of_getElem? (i := 38) rfl)) wS e0 hS hk hEL (by decide +kernel) HC.1 (vs := [(.int (101 : Int32)), (.int (120 : Int32)), (.int (116 : Int32)), (.int (101 : Int32)), (.int (110 : Int32)), (.int (115 : Int32)), (.int (105 : Int32)), (.int (111 : Int32)), (.int (110 : Int32))]) (z := (9 : Int32)) (by decide +kernel) (by decide) (by decide) (g := (mkF m 1 #[.val (.ref a)] [(.ref a)])) rfl (hb hby d_prog_29_method_6_code_1) (n := 36) (by decide +kernel) (by decide) (by decide) (by decide)
  replace HC := HC.trans HCq59
  replace E := E.ext E59
  replace FC := FC.ext E59
  replace FV := FV.ext E59
  replace V := V.ext E59
  replace OL := OL.ext E59
  replace K := K.ext E59
  refine own_ofW st59 ?_
  show own_EndsW _ _ _ _ _ _ _ _ (T59.setTop (mkF m 3 #[.val (.ref a)] [(.ref a59), (.ref a)]))
  obtain ⟨T60, X60, e60, st60⟩ := own_eqCall X59 hx hZ hown e59 (hw _ (List.mem_of_getElem? (i := 41) rfl)) (hw _ (List.mem_of_getElem? (i := 42) rfl)) (hw _ (List.mem_of_getElem? (i := 44) rfl)) (hw _ (List.mem_of_getElem? (i := 43) rfl)) hwq (hw _ (List.mem_of_getElem? (i := 6) rfl)) E FV FC V (own_codS hN hq8) (own_up hq8) hl Es59 Fs59 Cs59 Vs59 cod_own_EXT (own_up lat_own_EXT) (by decide) (O2.ext OL.2) P3 (r := (1 : Int32)) (Or.inl ⟨rfl, hE⟩) (g := (mkF m 3 #[.val (.ref a)] [(.ref a59), (.ref a)])) rfl (by rw [hml]; rfl) (lenOf pd__Ljava_lang_Object__r_Z rfl) (rest := []) rfl (by decide) (Nat.le_of_ble_eq_true rfl) (by decide) (by decide) (hb hby d_prog_29_method_6_code_3)
  refine own_ofW st60 ?_
  show own_EndsW _ _ _ _ _ _ _ _ (T60.setTop (mkF m 6 #[.val (.ref a)] [(.int (1 : Int32))]))
  refine own_ofW (fun tt_ kk_ => XS.ifYes X60.here hx rfl (pc0 := 6) (pc' := 18) rfl (hb hby d_prog_29_method_6_code_6) rfl ((if0 _ _).trans (feq (by decide : ¬ ((1 : Int32) = (0 : Int32)))).2) (by decide) (by decide) kk_) ?_
  show own_EndsW _ _ _ _ _ _ _ _ (T60.setTop (mkF m 18 #[.val (.ref a)] []))
  refine own_ofW (fun tt_ kk_ => XS.iconst X60.here hx rfl (hb hby d_prog_29_method_6_code_18) kk_) ?_
  show own_EndsW _ _ _ _ _ _ _ _ (T60.setTop (mkF m 19 #[.val (.ref a)] [(.int (1 : Int32))]))
  refine own_ofW (fun tt_ kk_ => XS.goto X60.here hx rfl (pc0 := 19) (pc' := 23) rfl (hb hby d_prog_29_method_6_code_19) (by decide) (by decide) kk_) ?_
  show own_EndsW _ _ _ _ _ _ _ _ (T60.setTop (mkF m 23 #[.val (.ref a)] [(.int (1 : Int32))]))
  refine own_retNW X60 hx hlk hZ hS e60 hk es hEL HC (t := .boolean) hret (by simp) (z' := (1 : Int32)) rfl (hb hby d_prog_29_method_6_code_23) (by decide) (by decide) ?_
  exact ⟨rfl, N0, K⟩
theorem d_prog_29_method_6_code_9 : decode prog_29_method_6_code 9 = .ok (.aload_n 0, 1) := by decide +kernel
theorem d_prog_29_method_6_code_10 : decode prog_29_method_6_code 10 = .ok (.ldc 107, 2) := by decide +kernel
theorem d_prog_29_method_6_code_12 : decode prog_29_method_6_code 12 = .ok (.invokevirtual 101, 3) := by decide +kernel
theorem d_prog_29_method_6_code_15 : decode prog_29_method_6_code 15 = .ok (.ifCond .eq 7, 3) := by decide +kernel
set_option maxRecDepth 65536 in
set_option maxHeartbeats 40000000 in
theorem rm_nlM (l : Launch) (Z : State) (a0 : Array Value) (hw : ∀ d ∈ tables_1, d.before a0 Z = true) (a t : Addr) (k : ClassId) (cs : List Int32) (N G1 : Int32) (h0 : Heap) (n0 : Nat) (Z0 : n0 ≤ h0.size) (hEL : EW Z a0 own_EL) (E : Exa Z h0 a "java/lang/String") (FC : Fld Z h0 a "java/lang/String" "coder" "B" (.int (0 : Int32))) (FV : Fld Z h0 a "java/lang/String" "value" "[B" (.ref t)) (V : Arv Z h0 t k .byte N (own_by cs) (.int 0)) (hN : N = Int32.ofNat cs.length) (hq8 : own_lat8 cs) (hl : cs.length ≤ 4000) (O2 : Sta Z Z.heap "java/lang/String" "COMPACT_STRINGS" "Z" (.int G1)) (P3 : ¬ (G1 = (0 : Int32))) (OL : Old Z n0 h0) (hE : ¬ cs = own_EXT) (hM : cs = own_MOD) :
    own_MetW l Z own_EL (⟨"com/example/extlint/extlint/model/Extension", "namesList", "(Ljava/lang/String;)Z"⟩ : MethodName) prog_29_method_6_code 1 (some .boolean) ({ frames := 2, cells := 4, slots := 112, locals := 28 } : Room) #[(.ref a)] h0 (fun v h L => v = some (.int (1 : Int32)) ∧ Fr n0 L ∧ Keep h0 h []) := by
  refine own_bodyW (plainFor_of_name pn_com_example_extlint_extlint_model_Extension) ?_
  intro p e s m below meth c T0 X0 e0 es hx hby hml hown hnm hret hlk hZ hS HC
  replace hown : (s.setVm s.vm).vm.findClass "com/example/extlint/extlint/model/Extension" = some m.cls := hown
  have N0 := Fr.nil n0
  have hk : 0 ≤ h0.size := Nat.zero_le _
  have wS : ∀ d ∈ Bundle.stringAtoms, d.before a0 Z = true := fun d hd => hw d ((by decide +kernel : ∀ d ∈ Bundle.stringAtoms, d ∈ tables_1) d hd)
  refine own_ofW (fun tt_ kk_ => castTop (ef_prog_29_method_6_codeR m a) kk_) ?_
  have K := Keep.refl h0 []
  have hwq : ∀ d ∈ StrChars.Road.wordsEq, d.before a0 Z = true := fun d hd => hw d ((by decide +kernel : ∀ d ∈ StrChars.Road.wordsEq, d ∈ tables_1) d hd)
  show own_EndsW _ _ _ _ _ _ _ _ (T0.setTop (mkF m 0 #[.val (.ref a)] []))
  refine own_ofW (fun tt_ kk_ => XS.aloadN X0.here hx rfl (hb hby d_prog_29_method_6_code_0) rfl rfl kk_) ?_
  show own_EndsW _ _ _ _ _ _ _ _ (T0.setTop (mkF m 1 #[.val (.ref a)] [(.ref a)]))
  obtain ⟨a61, T61, h61, k61', t61, kb61, X61, e61, E61, hS, hk, hZ, hown, Es61, Cs61, Fs61, Vs61, la61, lt61, HCq61, Lt61, Sf61, st61⟩ := ldcCH X0 hx hZ hown (hw _ (List.mem_of_getElem? (i := 38) rfl)) wS e0 hS hk hEL (by decide +kernel) HC.1 (vs := [(.int (101 : Int32)), (.int (120 : Int32)), (.int (116 : Int32)), (.int (101 : Int32)), (.int (110 : Int32)), (.int (115 : Int32)), (.int (105 : Int32)), (.int (111 : Int32)), (.int (110 : Int32))]) (z := (9 : Int32)) (by decide +kernel) (by decide) (by decide) (g := (mkF m 1 #[.val (.ref a)] [(.ref a)])) rfl (hb hby d_prog_29_method_6_code_1) (n := 36) (by decide +kernel) (by decide) (by decide) (by decide)
  replace HC := HC.trans HCq61
  replace E := E.ext E61
  replace FC := FC.ext E61
  replace FV := FV.ext E61
  replace V := V.ext E61
  replace OL := OL.ext E61
  replace K := K.ext E61
  refine own_ofW st61 ?_
  show own_EndsW _ _ _ _ _ _ _ _ (T61.setTop (mkF m 3 #[.val (.ref a)] [(.ref a61), (.ref a)]))
  obtain ⟨T62, X62, e62, st62⟩ := own_eqCall X61 hx hZ hown e61 (hw _ (List.mem_of_getElem? (i := 41) rfl)) (hw _ (List.mem_of_getElem? (i := 42) rfl)) (hw _ (List.mem_of_getElem? (i := 44) rfl)) (hw _ (List.mem_of_getElem? (i := 43) rfl)) hwq (hw _ (List.mem_of_getElem? (i := 6) rfl)) E FV FC V (own_codS hN hq8) (own_up hq8) hl Es61 Fs61 Cs61 Vs61 cod_own_EXT (own_up lat_own_EXT) (by decide) (O2.ext OL.2) P3 (r := (0 : Int32)) (Or.inr ⟨rfl, hE⟩) (g := (mkF m 3 #[.val (.ref a)] [(.ref a61), (.ref a)])) rfl (by rw [hml]; rfl) (lenOf pd__Ljava_lang_Object__r_Z rfl) (rest := []) rfl (by decide) (Nat.le_of_ble_eq_true rfl) (by decide) (by decide) (hb hby d_prog_29_method_6_code_3)
  refine own_ofW st62 ?_
  show own_EndsW _ _ _ _ _ _ _ _ (T62.setTop (mkF m 6 #[.val (.ref a)] [(.int (0 : Int32))]))
  refine own_ofW (fun tt_ kk_ => XS.ifNo X62.here hx rfl (hb hby d_prog_29_method_6_code_6) rfl ((if0 _ _).trans (teq (by decide : ((0 : Int32) = (0 : Int32)))).2) kk_) ?_
  show own_EndsW _ _ _ _ _ _ _ _ (T62.setTop (mkF m 9 #[.val (.ref a)] []))
  refine own_ofW (fun tt_ kk_ => XS.aloadN X62.here hx rfl (hb hby d_prog_29_method_6_code_9) rfl rfl kk_) ?_
  show own_EndsW _ _ _ _ _ _ _ _ (T62.setTop (mkF m 10 #[.val (.ref a)] [(.ref a)]))
  obtain ⟨a63, T63, h63, k63', t63, kb63, X63, e63, E63, hS, hk, hZ, hown, Es63, Cs63, Fs63, Vs63, la63, lt63, HCq63, Lt63, Sf63, st63⟩ := ldcCH X62 hx hZ hown (hw _ (List.mem_of_getElem? (i := 55) rfl)) wS e62 hS hk hEL (by decide +kernel) HC.1 (vs := [(.int (109 : Int32)), (.int (111 : Int32)), (.int (100 : Int32)), (.int (105 : Int32)), (.int (102 : Int32)), (.int (105 : Int32)), (.int (101 : Int32)), (.int (114 : Int32)), (.int (69 : Int32)), (.int (120 : Int32)), (.int (116 : Int32)), (.int (101 : Int32)), (.int (110 : Int32)), (.int (115 : Int32)), (.int (105 : Int32)), (.int (111 : Int32)), (.int (110 : Int32))]) (z := (17 : Int32)) (by decide +kernel) (by decide) (by decide) (g := (mkF m 10 #[.val (.ref a)] [(.ref a)])) rfl (hb hby d_prog_29_method_6_code_10) (n := 68) (by decide +kernel) (by decide) (by decide) (by decide)
  replace HC := HC.trans HCq63
  replace E := E.ext E63
  replace FC := FC.ext E63
  replace FV := FV.ext E63
  replace V := V.ext E63
  replace OL := OL.ext E63
  replace Es61 := Es61.ext E63
  replace Cs61 := Cs61.ext E63
  replace Fs61 := Fs61.ext E63
  replace Vs61 := Vs61.ext E63
  replace K := K.ext E63
  refine own_ofW st63 ?_
  show own_EndsW _ _ _ _ _ _ _ _ (T63.setTop (mkF m 12 #[.val (.ref a)] [(.ref a63), (.ref a)]))
  obtain ⟨T64, X64, e64, st64⟩ := own_eqCall X63 hx hZ hown e63 (hw _ (List.mem_of_getElem? (i := 41) rfl)) (hw _ (List.mem_of_getElem? (i := 42) rfl)) (hw _ (List.mem_of_getElem? (i := 44) rfl)) (hw _ (List.mem_of_getElem? (i := 43) rfl)) hwq (hw _ (List.mem_of_getElem? (i := 6) rfl)) E FV FC V (own_codS hN hq8) (own_up hq8) hl Es63 Fs63 Cs63 Vs63 cod_own_MOD (own_up lat_own_MOD) (by decide) (O2.ext OL.2) P3 (r := (1 : Int32)) (Or.inl ⟨rfl, hM⟩) (g := (mkF m 12 #[.val (.ref a)] [(.ref a63), (.ref a)])) rfl (by rw [hml]; rfl) (lenOf pd__Ljava_lang_Object__r_Z rfl) (rest := []) rfl (by decide) (Nat.le_of_ble_eq_true rfl) (by decide) (by decide) (hb hby d_prog_29_method_6_code_12)
  refine own_ofW st64 ?_
  show own_EndsW _ _ _ _ _ _ _ _ (T64.setTop (mkF m 15 #[.val (.ref a)] [(.int (1 : Int32))]))
  refine own_ofW (fun tt_ kk_ => XS.ifNo X64.here hx rfl (hb hby d_prog_29_method_6_code_15) rfl ((if0 _ _).trans (feq (by decide : ¬ ((1 : Int32) = (0 : Int32)))).1) kk_) ?_
  show own_EndsW _ _ _ _ _ _ _ _ (T64.setTop (mkF m 18 #[.val (.ref a)] []))
  refine own_ofW (fun tt_ kk_ => XS.iconst X64.here hx rfl (hb hby d_prog_29_method_6_code_18) kk_) ?_
  show own_EndsW _ _ _ _ _ _ _ _ (T64.setTop (mkF m 19 #[.val (.ref a)] [(.int (1 : Int32))]))
  refine own_ofW (fun tt_ kk_ => XS.goto X64.here hx rfl (pc0 := 19) (pc' := 23) rfl (hb hby d_prog_29_method_6_code_19) (by decide) (by decide) kk_) ?_
  show own_EndsW _ _ _ _ _ _ _ _ (T64.setTop (mkF m 23 #[.val (.ref a)] [(.int (1 : Int32))]))
  refine own_retNW X64 hx hlk hZ hS e64 hk es hEL HC (t := .boolean) hret (by simp) (z' := (1 : Int32)) rfl (hb hby d_prog_29_method_6_code_23) (by decide) (by decide) ?_
  exact ⟨rfl, N0, K⟩
theorem d_prog_29_method_6_code_22 : decode prog_29_method_6_code 22 = .ok (.iconst 0, 1) := by decide +kernel
set_option maxRecDepth 65536 in
set_option maxHeartbeats 40000000 in
theorem rm_nlN (l : Launch) (Z : State) (a0 : Array Value) (hw : ∀ d ∈ tables_1, d.before a0 Z = true) (a t : Addr) (k : ClassId) (cs : List Int32) (N G1 : Int32) (h0 : Heap) (n0 : Nat) (Z0 : n0 ≤ h0.size) (hEL : EW Z a0 own_EL) (E : Exa Z h0 a "java/lang/String") (FC : Fld Z h0 a "java/lang/String" "coder" "B" (.int (0 : Int32))) (FV : Fld Z h0 a "java/lang/String" "value" "[B" (.ref t)) (V : Arv Z h0 t k .byte N (own_by cs) (.int 0)) (hN : N = Int32.ofNat cs.length) (hq8 : own_lat8 cs) (hl : cs.length ≤ 4000) (O2 : Sta Z Z.heap "java/lang/String" "COMPACT_STRINGS" "Z" (.int G1)) (P3 : ¬ (G1 = (0 : Int32))) (OL : Old Z n0 h0) (hE : ¬ cs = own_EXT) (hM : ¬ cs = own_MOD) :
    own_MetW l Z own_EL (⟨"com/example/extlint/extlint/model/Extension", "namesList", "(Ljava/lang/String;)Z"⟩ : MethodName) prog_29_method_6_code 1 (some .boolean) ({ frames := 2, cells := 4, slots := 112, locals := 28 } : Room) #[(.ref a)] h0 (fun v h L => v = some (.int (0 : Int32)) ∧ Fr n0 L ∧ Keep h0 h []) := by
  refine own_bodyW (plainFor_of_name pn_com_example_extlint_extlint_model_Extension) ?_
  intro p e s m below meth c T0 X0 e0 es hx hby hml hown hnm hret hlk hZ hS HC
  replace hown : (s.setVm s.vm).vm.findClass "com/example/extlint/extlint/model/Extension" = some m.cls := hown
  have N0 := Fr.nil n0
  have hk : 0 ≤ h0.size := Nat.zero_le _
  have wS : ∀ d ∈ Bundle.stringAtoms, d.before a0 Z = true := fun d hd => hw d ((by decide +kernel : ∀ d ∈ Bundle.stringAtoms, d ∈ tables_1) d hd)
  refine own_ofW (fun tt_ kk_ => castTop (ef_prog_29_method_6_codeR m a) kk_) ?_
  have K := Keep.refl h0 []
  have hwq : ∀ d ∈ StrChars.Road.wordsEq, d.before a0 Z = true := fun d hd => hw d ((by decide +kernel : ∀ d ∈ StrChars.Road.wordsEq, d ∈ tables_1) d hd)
  show own_EndsW _ _ _ _ _ _ _ _ (T0.setTop (mkF m 0 #[.val (.ref a)] []))
  refine own_ofW (fun tt_ kk_ => XS.aloadN X0.here hx rfl (hb hby d_prog_29_method_6_code_0) rfl rfl kk_) ?_
  show own_EndsW _ _ _ _ _ _ _ _ (T0.setTop (mkF m 1 #[.val (.ref a)] [(.ref a)]))
  obtain ⟨a65, T65, h65, k65', t65, kb65, X65, e65, E65, hS, hk, hZ, hown, Es65, Cs65, Fs65, Vs65, la65, lt65, HCq65, Lt65, Sf65, st65⟩ := ldcCH X0 hx hZ hown (hw _ (List.mem_of_getElem? (i := 38) rfl)) wS e0 hS hk hEL (by decide +kernel) HC.1 (vs := [(.int (101 : Int32)), (.int (120 : Int32)), (.int (116 : Int32)), (.int (101 : Int32)), (.int (110 : Int32)), (.int (115 : Int32)), (.int (105 : Int32)), (.int (111 : Int32)), (.int (110 : Int32))]) (z := (9 : Int32)) (by decide +kernel) (by decide) (by decide) (g := (mkF m 1 #[.val (.ref a)] [(.ref a)])) rfl (hb hby d_prog_29_method_6_code_1) (n := 36) (by decide +kernel) (by decide) (by decide) (by decide)
  replace HC := HC.trans HCq65
  replace E := E.ext E65
  replace FC := FC.ext E65
  replace FV := FV.ext E65
  replace V := V.ext E65
  replace OL := OL.ext E65
  replace K := K.ext E65
  refine own_ofW st65 ?_
  show own_EndsW _ _ _ _ _ _ _ _ (T65.setTop (mkF m 3 #[.val (.ref a)] [(.ref a65), (.ref a)]))
  obtain ⟨T66, X66, e66, st66⟩ := own_eqCall X65 hx hZ hown e65 (hw _ (List.mem_of_getElem? (i := 41) rfl)) (hw _ (List.mem_of_getElem? (i := 42) rfl)) (hw _ (List.mem_of_getElem? (i := 44) rfl)) (hw _ (List.mem_of_getElem? (i := 43) rfl)) hwq (hw _ (List.mem_of_getElem? (i := 6) rfl)) E FV FC V (own_codS hN hq8) (own_up hq8) hl Es65 Fs65 Cs65 Vs65 cod_own_EXT (own_up lat_own_EXT) (by decide) (O2.ext OL.2) P3 (r := (0 : Int32)) (Or.inr ⟨rfl, hE⟩) (g := (mkF m 3 #[.val (.ref a)] [(.ref a65), (.ref a)])) rfl (by rw [hml]; rfl) (lenOf pd__Ljava_lang_Object__r_Z rfl) (rest := []) rfl (by decide) (Nat.le_of_ble_eq_true rfl) (by decide) (by decide) (hb hby d_prog_29_method_6_code_3)
  refine own_ofW st66 ?_
  show own_EndsW _ _ _ _ _ _ _ _ (T66.setTop (mkF m 6 #[.val (.ref a)] [(.int (0 : Int32))]))
  refine own_ofW (fun tt_ kk_ => XS.ifNo X66.here hx rfl (hb hby d_prog_29_method_6_code_6) rfl ((if0 _ _).trans (teq (by decide : ((0 : Int32) = (0 : Int32)))).2) kk_) ?_
  show own_EndsW _ _ _ _ _ _ _ _ (T66.setTop (mkF m 9 #[.val (.ref a)] []))
  refine own_ofW (fun tt_ kk_ => XS.aloadN X66.here hx rfl (hb hby d_prog_29_method_6_code_9) rfl rfl kk_) ?_
  show own_EndsW _ _ _ _ _ _ _ _ (T66.setTop (mkF m 10 #[.val (.ref a)] [(.ref a)]))
  obtain ⟨a67, T67, h67, k67', t67, kb67, X67, e67, E67, hS, hk, hZ, hown, Es67, Cs67, Fs67, Vs67, la67, lt67, HCq67, Lt67, Sf67, st67⟩ := ldcCH X66 hx hZ hown (hw _ (List.mem_of_getElem? (i := 55) rfl)) wS e66 hS hk hEL (by decide +kernel) HC.1 (vs := [(.int (109 : Int32)), (.int (111 : Int32)), (.int (100 : Int32)), (.int (105 : Int32)), (.int (102 : Int32)), (.int (105 : Int32)), (.int (101 : Int32)), (.int (114 : Int32)), (.int (69 : Int32)), (.int (120 : Int32)), (.int (116 : Int32)), (.int (101 : Int32)), (.int (110 : Int32)), (.int (115 : Int32)), (.int (105 : Int32)), (.int (111 : Int32)), (.int (110 : Int32))]) (z := (17 : Int32)) (by decide +kernel) (by decide) (by decide) (g := (mkF m 10 #[.val (.ref a)] [(.ref a)])) rfl (hb hby d_prog_29_method_6_code_10) (n := 68) (by decide +kernel) (by decide) (by decide) (by decide)
  replace HC := HC.trans HCq67
  replace E := E.ext E67
  replace FC := FC.ext E67
  replace FV := FV.ext E67
  replace V := V.ext E67
  replace OL := OL.ext E67
  replace Es65 := Es65.ext E67
  replace Cs65 := Cs65.ext E67
  replace Fs65 := Fs65.ext E67
  replace Vs65 := Vs65.ext E67
  replace K := K.ext E67
  refine own_ofW st67 ?_
  show own_EndsW _ _ _ _ _ _ _ _ (T67.setTop (mkF m 12 #[.val (.ref a)] [(.ref a67), (.ref a)]))
  obtain ⟨T68, X68, e68, st68⟩ := own_eqCall X67 hx hZ hown e67 (hw _ (List.mem_of_getElem? (i := 41) rfl)) (hw _ (List.mem_of_getElem? (i := 42) rfl)) (hw _ (List.mem_of_getElem? (i := 44) rfl)) (hw _ (List.mem_of_getElem? (i := 43) rfl)) hwq (hw _ (List.mem_of_getElem? (i := 6) rfl)) E FV FC V (own_codS hN hq8) (own_up hq8) hl Es67 Fs67 Cs67 Vs67 cod_own_MOD (own_up lat_own_MOD) (by decide) (O2.ext OL.2) P3 (r := (0 : Int32)) (Or.inr ⟨rfl, hM⟩) (g := (mkF m 12 #[.val (.ref a)] [(.ref a67), (.ref a)])) rfl (by rw [hml]; rfl) (lenOf pd__Ljava_lang_Object__r_Z rfl) (rest := []) rfl (by decide) (Nat.le_of_ble_eq_true rfl) (by decide) (by decide) (hb hby d_prog_29_method_6_code_12)
  refine own_ofW st68 ?_
  show own_EndsW _ _ _ _ _ _ _ _ (T68.setTop (mkF m 15 #[.val (.ref a)] [(.int (0 : Int32))]))
  refine own_ofW (fun tt_ kk_ => XS.ifYes X68.here hx rfl (pc0 := 15) (pc' := 22) rfl (hb hby d_prog_29_method_6_code_15) rfl ((if0 _ _).trans (teq (by decide : ((0 : Int32) = (0 : Int32)))).1) (by decide) (by decide) kk_) ?_
  show own_EndsW _ _ _ _ _ _ _ _ (T68.setTop (mkF m 22 #[.val (.ref a)] []))
  refine own_ofW (fun tt_ kk_ => XS.iconst X68.here hx rfl (hb hby d_prog_29_method_6_code_22) kk_) ?_
  show own_EndsW _ _ _ _ _ _ _ _ (T68.setTop (mkF m 23 #[.val (.ref a)] [(.int (0 : Int32))]))
  refine own_retNW X68 hx hlk hZ hS e68 hk es hEL HC (t := .boolean) hret (by simp) (z' := (0 : Int32)) rfl (hb hby d_prog_29_method_6_code_23) (by decide) (by decide) ?_
  exact ⟨rfl, N0, K⟩
theorem d_method_6_code_0 : decode method_6_code 0 = .ok (.iload_n 0, 1) := by decide +kernel
theorem d_method_6_code_1 : decode method_6_code 1 = .ok (.ifCond .ne 6, 3) := by decide +kernel
theorem d_method_6_code_4 : decode method_6_code 4 = .ok (.ldc 7, 2) := by decide +kernel
theorem d_method_6_code_6 : decode method_6_code 6 = .ok (.areturn, 1) := by decide +kernel
theorem d_method_6_code_7 : decode method_6_code 7 = .ok (.iload_n 0, 1) := by decide +kernel
theorem d_method_6_code_8 : decode method_6_code 8 = .ok (.iconst 1, 1) := by decide +kernel
theorem d_method_6_code_9 : decode method_6_code 9 = .ok (.if_icmp .ne 6, 3) := by decide +kernel
theorem d_method_6_code_12 : decode method_6_code 12 = .ok (.ldc 9, 2) := by decide +kernel
theorem d_method_6_code_14 : decode method_6_code 14 = .ok (.areturn, 1) := by decide +kernel
theorem d_method_6_code_15 : decode method_6_code 15 = .ok (.iload_n 0, 1) := by decide +kernel
theorem d_method_6_code_16 : decode method_6_code 16 = .ok (.iconst 2, 1) := by decide +kernel
theorem d_method_6_code_17 : decode method_6_code 17 = .ok (.if_icmp .ne 6, 3) := by decide +kernel
theorem d_method_6_code_20 : decode method_6_code 20 = .ok (.ldc 11, 2) := by decide +kernel
theorem d_method_6_code_22 : decode method_6_code 22 = .ok (.areturn, 1) := by decide +kernel
theorem d_method_6_code_23 : decode method_6_code 23 = .ok (.iload_n 0, 1) := by decide +kernel
theorem d_method_6_code_24 : decode method_6_code 24 = .ok (.iconst 3, 1) := by decide +kernel
theorem d_method_6_code_25 : decode method_6_code 25 = .ok (.if_icmp .ne 6, 3) := by decide +kernel
theorem d_method_6_code_28 : decode method_6_code 28 = .ok (.ldc 13, 2) := by decide +kernel
theorem d_method_6_code_30 : decode method_6_code 30 = .ok (.areturn, 1) := by decide +kernel
theorem d_method_6_code_31 : decode method_6_code 31 = .ok (.iload_n 0, 1) := by decide +kernel
theorem d_method_6_code_32 : decode method_6_code 32 = .ok (.iconst 4, 1) := by decide +kernel
theorem d_method_6_code_33 : decode method_6_code 33 = .ok (.if_icmp .ne 6, 3) := by decide +kernel
theorem d_method_6_code_36 : decode method_6_code 36 = .ok (.ldc 15, 2) := by decide +kernel
theorem d_method_6_code_38 : decode method_6_code 38 = .ok (.areturn, 1) := by decide +kernel
theorem d_method_6_code_39 : decode method_6_code 39 = .ok (.iload_n 0, 1) := by decide +kernel
theorem d_method_6_code_40 : decode method_6_code 40 = .ok (.iconst 5, 1) := by decide +kernel
theorem d_method_6_code_41 : decode method_6_code 41 = .ok (.if_icmp .ne 6, 3) := by decide +kernel
theorem d_method_6_code_44 : decode method_6_code 44 = .ok (.ldc 17, 2) := by decide +kernel
theorem d_method_6_code_46 : decode method_6_code 46 = .ok (.areturn, 1) := by decide +kernel
theorem d_method_6_code_47 : decode method_6_code 47 = .ok (.iload_n 0, 1) := by decide +kernel
theorem d_method_6_code_48 : decode method_6_code 48 = .ok (.bipush 6, 2) := by decide +kernel
theorem d_method_6_code_50 : decode method_6_code 50 = .ok (.if_icmp .ne 6, 3) := by decide +kernel
theorem d_method_6_code_53 : decode method_6_code 53 = .ok (.ldc 19, 2) := by decide +kernel
theorem d_method_6_code_55 : decode method_6_code 55 = .ok (.areturn, 1) := by decide +kernel
theorem d_method_6_code_56 : decode method_6_code 56 = .ok (.ldc 21, 2) := by decide +kernel
theorem d_method_6_code_58 : decode method_6_code 58 = .ok (.areturn, 1) := by decide +kernel
theorem ef_method_6_codeI (m : MethodId) (z0 : Int32) : entryFrame m #[(.int z0)] 1 = mkF m 0 #[.val (.int z0)] [] := by first | (simp [entryFrame, mkF, argsToLocals, Value.category]; done) | rfl
set_option maxRecDepth 65536 in
set_option maxHeartbeats 40000000 in
theorem rm_near (l : Launch) (Z : State) (a0 : Array Value) (hw : ∀ d ∈ tables_1, d.before a0 Z = true) (kk : Int32) (h0 : Heap) (n0 : Nat) (Z0 : n0 ≤ h0.size) (hEL : EW Z a0 own_EL) :
    own_MetW l Z own_EL (⟨"com/example/extlint/extlint/model/ExtensionNamesListPinLaw", "near", "(I)Ljava/lang/String;"⟩ : MethodName) method_6_code 1 (some (.object "java/lang/String")) ({ frames := 0, cells := 2, slots := 108, locals := 0 } : Room) #[(.int kk)] h0 (fun v h L => ∃ (b u : Addr) (k' : ClassId) (cs : List Int32) (N : Int32), v = some (.ref b) ∧ Fr n0 L ∧ Keep h0 h [] ∧ Exa Z h b "java/lang/String" ∧ Fld Z h b "java/lang/String" "coder" "B" (.int (0 : Int32)) ∧ Fld Z h b "java/lang/String" "value" "[B" (.ref u) ∧ Arv Z h u k' .byte N (own_by cs) (.int 0) ∧ N = Int32.ofNat cs.length ∧ own_lat8 cs ∧ cs.length ≤ 4000 ∧ ¬ cs = own_EXT ∧ ¬ cs = own_MOD) := by
  refine own_bodyW (plainFor_of_name pn_com_example_extlint_extlint_model_ExtensionNamesListPinLaw) ?_
  intro p e s m below meth c T0 X0 e0 es hx hby hml hown hnm hret hlk hZ hS HC
  replace hown : (s.setVm s.vm).vm.findClass "com/example/extlint/extlint/model/ExtensionNamesListPinLaw" = some m.cls := hown
  have N0 := Fr.nil n0
  have hk : 0 ≤ h0.size := Nat.zero_le _
  have wS : ∀ d ∈ Bundle.stringAtoms, d.before a0 Z = true := fun d hd => hw d ((by decide +kernel : ∀ d ∈ Bundle.stringAtoms, d ∈ tables_1) d hd)
  refine own_ofW (fun tt_ kk_ => castTop (ef_method_6_codeI m kk) kk_) ?_
  have K := Keep.refl h0 []
  show own_EndsW _ _ _ _ _ _ _ _ (T0.setTop (mkF m 0 #[.val (.int kk)] []))
  refine own_ofW (fun tt_ kk_ => XS.iloadN X0.here hx rfl (hb hby d_method_6_code_0) rfl  kk_) ?_
  show own_EndsW _ _ _ _ _ _ _ _ (T0.setTop (mkF m 1 #[.val (.int kk)] [(.int kk)]))
  by_cases hc69 : kk = (0 : Int32)
  · refine own_ofW (fun tt_ kk_ => XS.ifNo X0.here hx rfl (hb hby d_method_6_code_1) rfl ((if0 _ _).trans (teq hc69).2) kk_) ?_
    show own_EndsW _ _ _ _ _ _ _ _ (T0.setTop (mkF m 4 #[.val (.int kk)] []))
    obtain ⟨a70, T70, h70, k70', t70, kb70, X70, e70, E70, hS, hk, hZ, hown, Es70, Cs70, Fs70, Vs70, la70, lt70, HCq70, Lt70, Sf70, st70⟩ := ldcCH X0 hx hZ hown (hw _ (List.mem_of_getElem? (i := 66) rfl)) wS e0 hS hk hEL (by decide +kernel) HC.1 (vs := [(.int (101 : Int32)), (.int (120 : Int32)), (.int (116 : Int32)), (.int (101 : Int32)), (.int (110 : Int32)), (.int (115 : Int32)), (.int (105 : Int32)), (.int (111 : Int32))]) (z := (8 : Int32)) (by decide +kernel) (by decide) (by decide) (g := (mkF m 4 #[.val (.int kk)] [])) rfl (hb hby d_method_6_code_4) (n := 32) (by decide +kernel) (by decide) (by decide) (by decide)
    replace HC := HC.trans HCq70
    replace K := K.ext E70
    refine own_ofW st70 ?_
    show own_EndsW _ _ _ _ _ _ _ _ (T70.setTop (mkF m 6 #[.val (.int kk)] [(.ref a70)]))
    refine own_retAW X70 hx hlk hZ hS e70 hk es hEL HC hret rfl rfl (hb hby d_method_6_code_6) (by decide) (by decide) ?_
    have eb71 : [(.int (101 : Int32)), (.int (120 : Int32)), (.int (116 : Int32)), (.int (101 : Int32)), (.int (110 : Int32)), (.int (115 : Int32)), (.int (105 : Int32)), (.int (111 : Int32))] = own_by [101, 120, 116, 101, 110, 115, 105, 111] := by decide +kernel
    rw [eb71] at Vs70
    exact ⟨a70, t70, kb70, [101, 120, 116, 101, 110, 115, 105, 111], (8 : Int32), rfl, N0, K, Es70, Cs70, Fs70, Vs70, by decide +kernel, by decide +kernel, by decide, by decide, by decide⟩
  · refine own_ofW (fun tt_ kk_ => XS.ifYes X0.here hx rfl (pc0 := 1) (pc' := 7) rfl (hb hby d_method_6_code_1) rfl ((if0 _ _).trans (feq hc69).2) (by decide) (by decide) kk_) ?_
    show own_EndsW _ _ _ _ _ _ _ _ (T0.setTop (mkF m 7 #[.val (.int kk)] []))
    refine own_ofW (fun tt_ kk_ => XS.iloadN X0.here hx rfl (hb hby d_method_6_code_7) rfl  kk_) ?_
    show own_EndsW _ _ _ _ _ _ _ _ (T0.setTop (mkF m 8 #[.val (.int kk)] [(.int kk)]))
    refine own_ofW (fun tt_ kk_ => XS.iconst X0.here hx rfl (hb hby d_method_6_code_8) kk_) ?_
    show own_EndsW _ _ _ _ _ _ _ _ (T0.setTop (mkF m 9 #[.val (.int kk)] [(.int (1 : Int32)), (.int kk)]))
    by_cases hc72 : kk = (1 : Int32)
    · refine own_ofW (fun tt_ kk_ => XS.icmpNo X0.here hx rfl (hb hby d_method_6_code_9) rfl (teq hc72).2 kk_) ?_
      show own_EndsW _ _ _ _ _ _ _ _ (T0.setTop (mkF m 12 #[.val (.int kk)] []))
      obtain ⟨a73, T73, h73, k73', t73, kb73, X73, e73, E73, hS, hk, hZ, hown, Es73, Cs73, Fs73, Vs73, la73, lt73, HCq73, Lt73, Sf73, st73⟩ := ldcCH X0 hx hZ hown (hw _ (List.mem_of_getElem? (i := 61) rfl)) wS e0 hS hk hEL (by decide +kernel) HC.1 (vs := [(.int (120 : Int32)), (.int (116 : Int32)), (.int (101 : Int32)), (.int (110 : Int32)), (.int (115 : Int32)), (.int (105 : Int32)), (.int (111 : Int32)), (.int (110 : Int32))]) (z := (8 : Int32)) (by decide +kernel) (by decide) (by decide) (g := (mkF m 12 #[.val (.int kk)] [])) rfl (hb hby d_method_6_code_12) (n := 32) (by decide +kernel) (by decide) (by decide) (by decide)
      replace HC := HC.trans HCq73
      replace K := K.ext E73
      refine own_ofW st73 ?_
      show own_EndsW _ _ _ _ _ _ _ _ (T73.setTop (mkF m 14 #[.val (.int kk)] [(.ref a73)]))
      refine own_retAW X73 hx hlk hZ hS e73 hk es hEL HC hret rfl rfl (hb hby d_method_6_code_14) (by decide) (by decide) ?_
      have eb74 : [(.int (120 : Int32)), (.int (116 : Int32)), (.int (101 : Int32)), (.int (110 : Int32)), (.int (115 : Int32)), (.int (105 : Int32)), (.int (111 : Int32)), (.int (110 : Int32))] = own_by [120, 116, 101, 110, 115, 105, 111, 110] := by decide +kernel
      rw [eb74] at Vs73
      exact ⟨a73, t73, kb73, [120, 116, 101, 110, 115, 105, 111, 110], (8 : Int32), rfl, N0, K, Es73, Cs73, Fs73, Vs73, by decide +kernel, by decide +kernel, by decide, by decide, by decide⟩
    · refine own_ofW (fun tt_ kk_ => XS.icmpYes X0.here hx rfl (pc0 := 9) (pc' := 15) rfl (hb hby d_method_6_code_9) rfl (feq hc72).2 (by decide) (by decide) kk_) ?_
      show own_EndsW _ _ _ _ _ _ _ _ (T0.setTop (mkF m 15 #[.val (.int kk)] []))
      refine own_ofW (fun tt_ kk_ => XS.iloadN X0.here hx rfl (hb hby d_method_6_code_15) rfl  kk_) ?_
      show own_EndsW _ _ _ _ _ _ _ _ (T0.setTop (mkF m 16 #[.val (.int kk)] [(.int kk)]))
      refine own_ofW (fun tt_ kk_ => XS.iconst X0.here hx rfl (hb hby d_method_6_code_16) kk_) ?_
      show own_EndsW _ _ _ _ _ _ _ _ (T0.setTop (mkF m 17 #[.val (.int kk)] [(.int (2 : Int32)), (.int kk)]))
      by_cases hc75 : kk = (2 : Int32)
      · refine own_ofW (fun tt_ kk_ => XS.icmpNo X0.here hx rfl (hb hby d_method_6_code_17) rfl (teq hc75).2 kk_) ?_
        show own_EndsW _ _ _ _ _ _ _ _ (T0.setTop (mkF m 20 #[.val (.int kk)] []))
        obtain ⟨a76, T76, h76, k76', t76, kb76, X76, e76, E76, hS, hk, hZ, hown, Es76, Cs76, Fs76, Vs76, la76, lt76, HCq76, Lt76, Sf76, st76⟩ := ldcCH X0 hx hZ hown (hw _ (List.mem_of_getElem? (i := 67) rfl)) wS e0 hS hk hEL (by decide +kernel) HC.1 (vs := [(.int (109 : Int32)), (.int (111 : Int32)), (.int (100 : Int32)), (.int (105 : Int32)), (.int (102 : Int32)), (.int (105 : Int32)), (.int (101 : Int32)), (.int (114 : Int32)), (.int (69 : Int32)), (.int (120 : Int32)), (.int (116 : Int32)), (.int (101 : Int32)), (.int (110 : Int32)), (.int (115 : Int32)), (.int (105 : Int32)), (.int (111 : Int32))]) (z := (16 : Int32)) (by decide +kernel) (by decide) (by decide) (g := (mkF m 20 #[.val (.int kk)] [])) rfl (hb hby d_method_6_code_20) (n := 64) (by decide +kernel) (by decide) (by decide) (by decide)
        replace HC := HC.trans HCq76
        replace K := K.ext E76
        refine own_ofW st76 ?_
        show own_EndsW _ _ _ _ _ _ _ _ (T76.setTop (mkF m 22 #[.val (.int kk)] [(.ref a76)]))
        refine own_retAW X76 hx hlk hZ hS e76 hk es hEL HC hret rfl rfl (hb hby d_method_6_code_22) (by decide) (by decide) ?_
        have eb77 : [(.int (109 : Int32)), (.int (111 : Int32)), (.int (100 : Int32)), (.int (105 : Int32)), (.int (102 : Int32)), (.int (105 : Int32)), (.int (101 : Int32)), (.int (114 : Int32)), (.int (69 : Int32)), (.int (120 : Int32)), (.int (116 : Int32)), (.int (101 : Int32)), (.int (110 : Int32)), (.int (115 : Int32)), (.int (105 : Int32)), (.int (111 : Int32))] = own_by [109, 111, 100, 105, 102, 105, 101, 114, 69, 120, 116, 101, 110, 115, 105, 111] := by decide +kernel
        rw [eb77] at Vs76
        exact ⟨a76, t76, kb76, [109, 111, 100, 105, 102, 105, 101, 114, 69, 120, 116, 101, 110, 115, 105, 111], (16 : Int32), rfl, N0, K, Es76, Cs76, Fs76, Vs76, by decide +kernel, by decide +kernel, by decide, by decide, by decide⟩
      · refine own_ofW (fun tt_ kk_ => XS.icmpYes X0.here hx rfl (pc0 := 17) (pc' := 23) rfl (hb hby d_method_6_code_17) rfl (feq hc75).2 (by decide) (by decide) kk_) ?_
        show own_EndsW _ _ _ _ _ _ _ _ (T0.setTop (mkF m 23 #[.val (.int kk)] []))
        refine own_ofW (fun tt_ kk_ => XS.iloadN X0.here hx rfl (hb hby d_method_6_code_23) rfl  kk_) ?_
        show own_EndsW _ _ _ _ _ _ _ _ (T0.setTop (mkF m 24 #[.val (.int kk)] [(.int kk)]))
        refine own_ofW (fun tt_ kk_ => XS.iconst X0.here hx rfl (hb hby d_method_6_code_24) kk_) ?_
        show own_EndsW _ _ _ _ _ _ _ _ (T0.setTop (mkF m 25 #[.val (.int kk)] [(.int (3 : Int32)), (.int kk)]))
        by_cases hc78 : kk = (3 : Int32)
        · refine own_ofW (fun tt_ kk_ => XS.icmpNo X0.here hx rfl (hb hby d_method_6_code_25) rfl (teq hc78).2 kk_) ?_
          show own_EndsW _ _ _ _ _ _ _ _ (T0.setTop (mkF m 28 #[.val (.int kk)] []))
          obtain ⟨a79, T79, h79, k79', t79, kb79, X79, e79, E79, hS, hk, hZ, hown, Es79, Cs79, Fs79, Vs79, la79, lt79, HCq79, Lt79, Sf79, st79⟩ := ldcCH X0 hx hZ hown (hw _ (List.mem_of_getElem? (i := 54) rfl)) wS e0 hS hk hEL (by decide +kernel) HC.1 (vs := [(.int (111 : Int32)), (.int (100 : Int32)), (.int (105 : Int32)), (.int (102 : Int32)), (.int (105 : Int32)), (.int (101 : Int32)), (.int (114 : Int32)), (.int (69 : Int32)), (.int (120 : Int32)), (.int (116 : Int32)), (.int (101 : Int32)), (.int (110 : Int32)), (.int (115 : Int32)), (.int (105 : Int32)), (.int (111 : Int32)), (.int (110 : Int32))]) (z := (16 : Int32)) (by decide +kernel) (by decide) (by decide) (g := (mkF m 28 #[.val (.int kk)] [])) rfl (hb hby d_method_6_code_28) (n := 64) (by decide +kernel) (by decide) (by decide) (by decide)
          replace HC := HC.trans HCq79
          replace K := K.ext E79
          refine own_ofW st79 ?_
          show own_EndsW _ _ _ _ _ _ _ _ (T79.setTop (mkF m 30 #[.val (.int kk)] [(.ref a79)]))
          refine own_retAW X79 hx hlk hZ hS e79 hk es hEL HC hret rfl rfl (hb hby d_method_6_code_30) (by decide) (by decide) ?_
          have eb80 : [(.int (111 : Int32)), (.int (100 : Int32)), (.int (105 : Int32)), (.int (102 : Int32)), (.int (105 : Int32)), (.int (101 : Int32)), (.int (114 : Int32)), (.int (69 : Int32)), (.int (120 : Int32)), (.int (116 : Int32)), (.int (101 : Int32)), (.int (110 : Int32)), (.int (115 : Int32)), (.int (105 : Int32)), (.int (111 : Int32)), (.int (110 : Int32))] = own_by [111, 100, 105, 102, 105, 101, 114, 69, 120, 116, 101, 110, 115, 105, 111, 110] := by decide +kernel
          rw [eb80] at Vs79
          exact ⟨a79, t79, kb79, [111, 100, 105, 102, 105, 101, 114, 69, 120, 116, 101, 110, 115, 105, 111, 110], (16 : Int32), rfl, N0, K, Es79, Cs79, Fs79, Vs79, by decide +kernel, by decide +kernel, by decide, by decide, by decide⟩
        · refine own_ofW (fun tt_ kk_ => XS.icmpYes X0.here hx rfl (pc0 := 25) (pc' := 31) rfl (hb hby d_method_6_code_25) rfl (feq hc78).2 (by decide) (by decide) kk_) ?_
          show own_EndsW _ _ _ _ _ _ _ _ (T0.setTop (mkF m 31 #[.val (.int kk)] []))
          refine own_ofW (fun tt_ kk_ => XS.iloadN X0.here hx rfl (hb hby d_method_6_code_31) rfl  kk_) ?_
          show own_EndsW _ _ _ _ _ _ _ _ (T0.setTop (mkF m 32 #[.val (.int kk)] [(.int kk)]))
          refine own_ofW (fun tt_ kk_ => XS.iconst X0.here hx rfl (hb hby d_method_6_code_32) kk_) ?_
          show own_EndsW _ _ _ _ _ _ _ _ (T0.setTop (mkF m 33 #[.val (.int kk)] [(.int (4 : Int32)), (.int kk)]))
          by_cases hc81 : kk = (4 : Int32)
          · refine own_ofW (fun tt_ kk_ => XS.icmpNo X0.here hx rfl (hb hby d_method_6_code_33) rfl (teq hc81).2 kk_) ?_
            show own_EndsW _ _ _ _ _ _ _ _ (T0.setTop (mkF m 36 #[.val (.int kk)] []))
            obtain ⟨a82, T82, h82, k82', t82, kb82, X82, e82, E82, hS, hk, hZ, hown, Es82, Cs82, Fs82, Vs82, la82, lt82, HCq82, Lt82, Sf82, st82⟩ := ldcCH X0 hx hZ hown (hw _ (List.mem_of_getElem? (i := 72) rfl)) wS e0 hS hk hEL (by decide +kernel) HC.1 (vs := [(.int (77 : Int32)), (.int (111 : Int32)), (.int (100 : Int32)), (.int (105 : Int32)), (.int (102 : Int32)), (.int (105 : Int32)), (.int (101 : Int32)), (.int (114 : Int32)), (.int (69 : Int32)), (.int (120 : Int32)), (.int (116 : Int32)), (.int (101 : Int32)), (.int (110 : Int32)), (.int (115 : Int32)), (.int (105 : Int32)), (.int (111 : Int32)), (.int (110 : Int32))]) (z := (17 : Int32)) (by decide +kernel) (by decide) (by decide) (g := (mkF m 36 #[.val (.int kk)] [])) rfl (hb hby d_method_6_code_36) (n := 68) (by decide +kernel) (by decide) (by decide) (by decide)
            replace HC := HC.trans HCq82
            replace K := K.ext E82
            refine own_ofW st82 ?_
            show own_EndsW _ _ _ _ _ _ _ _ (T82.setTop (mkF m 38 #[.val (.int kk)] [(.ref a82)]))
            refine own_retAW X82 hx hlk hZ hS e82 hk es hEL HC hret rfl rfl (hb hby d_method_6_code_38) (by decide) (by decide) ?_
            have eb83 : [(.int (77 : Int32)), (.int (111 : Int32)), (.int (100 : Int32)), (.int (105 : Int32)), (.int (102 : Int32)), (.int (105 : Int32)), (.int (101 : Int32)), (.int (114 : Int32)), (.int (69 : Int32)), (.int (120 : Int32)), (.int (116 : Int32)), (.int (101 : Int32)), (.int (110 : Int32)), (.int (115 : Int32)), (.int (105 : Int32)), (.int (111 : Int32)), (.int (110 : Int32))] = own_by [77, 111, 100, 105, 102, 105, 101, 114, 69, 120, 116, 101, 110, 115, 105, 111, 110] := by decide +kernel
            rw [eb83] at Vs82
            exact ⟨a82, t82, kb82, [77, 111, 100, 105, 102, 105, 101, 114, 69, 120, 116, 101, 110, 115, 105, 111, 110], (17 : Int32), rfl, N0, K, Es82, Cs82, Fs82, Vs82, by decide +kernel, by decide +kernel, by decide, by decide, by decide⟩
          · refine own_ofW (fun tt_ kk_ => XS.icmpYes X0.here hx rfl (pc0 := 33) (pc' := 39) rfl (hb hby d_method_6_code_33) rfl (feq hc81).2 (by decide) (by decide) kk_) ?_
            show own_EndsW _ _ _ _ _ _ _ _ (T0.setTop (mkF m 39 #[.val (.int kk)] []))
            refine own_ofW (fun tt_ kk_ => XS.iloadN X0.here hx rfl (hb hby d_method_6_code_39) rfl  kk_) ?_
            show own_EndsW _ _ _ _ _ _ _ _ (T0.setTop (mkF m 40 #[.val (.int kk)] [(.int kk)]))
            refine own_ofW (fun tt_ kk_ => XS.iconst X0.here hx rfl (hb hby d_method_6_code_40) kk_) ?_
            show own_EndsW _ _ _ _ _ _ _ _ (T0.setTop (mkF m 41 #[.val (.int kk)] [(.int (5 : Int32)), (.int kk)]))
            by_cases hc84 : kk = (5 : Int32)
            · refine own_ofW (fun tt_ kk_ => XS.icmpNo X0.here hx rfl (hb hby d_method_6_code_41) rfl (teq hc84).2 kk_) ?_
              show own_EndsW _ _ _ _ _ _ _ _ (T0.setTop (mkF m 44 #[.val (.int kk)] []))
              obtain ⟨a85, T85, h85, k85', t85, kb85, X85, e85, E85, hS, hk, hZ, hown, Es85, Cs85, Fs85, Vs85, la85, lt85, HCq85, Lt85, Sf85, st85⟩ := ldcCH X0 hx hZ hown (hw _ (List.mem_of_getElem? (i := 71) rfl)) wS e0 hS hk hEL (by decide +kernel) HC.1 (vs := [(.int (109 : Int32)), (.int (111 : Int32)), (.int (100 : Int32)), (.int (105 : Int32)), (.int (102 : Int32)), (.int (105 : Int32)), (.int (101 : Int32)), (.int (114 : Int32)), (.int (101 : Int32)), (.int (120 : Int32)), (.int (116 : Int32)), (.int (101 : Int32)), (.int (110 : Int32)), (.int (115 : Int32)), (.int (105 : Int32)), (.int (111 : Int32)), (.int (110 : Int32))]) (z := (17 : Int32)) (by decide +kernel) (by decide) (by decide) (g := (mkF m 44 #[.val (.int kk)] [])) rfl (hb hby d_method_6_code_44) (n := 68) (by decide +kernel) (by decide) (by decide) (by decide)
              replace HC := HC.trans HCq85
              replace K := K.ext E85
              refine own_ofW st85 ?_
              show own_EndsW _ _ _ _ _ _ _ _ (T85.setTop (mkF m 46 #[.val (.int kk)] [(.ref a85)]))
              refine own_retAW X85 hx hlk hZ hS e85 hk es hEL HC hret rfl rfl (hb hby d_method_6_code_46) (by decide) (by decide) ?_
              have eb86 : [(.int (109 : Int32)), (.int (111 : Int32)), (.int (100 : Int32)), (.int (105 : Int32)), (.int (102 : Int32)), (.int (105 : Int32)), (.int (101 : Int32)), (.int (114 : Int32)), (.int (101 : Int32)), (.int (120 : Int32)), (.int (116 : Int32)), (.int (101 : Int32)), (.int (110 : Int32)), (.int (115 : Int32)), (.int (105 : Int32)), (.int (111 : Int32)), (.int (110 : Int32))] = own_by [109, 111, 100, 105, 102, 105, 101, 114, 101, 120, 116, 101, 110, 115, 105, 111, 110] := by decide +kernel
              rw [eb86] at Vs85
              exact ⟨a85, t85, kb85, [109, 111, 100, 105, 102, 105, 101, 114, 101, 120, 116, 101, 110, 115, 105, 111, 110], (17 : Int32), rfl, N0, K, Es85, Cs85, Fs85, Vs85, by decide +kernel, by decide +kernel, by decide, by decide, by decide⟩
            · refine own_ofW (fun tt_ kk_ => XS.icmpYes X0.here hx rfl (pc0 := 41) (pc' := 47) rfl (hb hby d_method_6_code_41) rfl (feq hc84).2 (by decide) (by decide) kk_) ?_
              show own_EndsW _ _ _ _ _ _ _ _ (T0.setTop (mkF m 47 #[.val (.int kk)] []))
              refine own_ofW (fun tt_ kk_ => XS.iloadN X0.here hx rfl (hb hby d_method_6_code_47) rfl  kk_) ?_
              show own_EndsW _ _ _ _ _ _ _ _ (T0.setTop (mkF m 48 #[.val (.int kk)] [(.int kk)]))
              refine own_ofW (fun tt_ kk_ => XS.bipush X0.here hx rfl (hb hby d_method_6_code_48) kk_) ?_
              show own_EndsW _ _ _ _ _ _ _ _ (T0.setTop (mkF m 50 #[.val (.int kk)] [(.int (6 : Int32)), (.int kk)]))
              by_cases hc87 : kk = (6 : Int32)
              · refine own_ofW (fun tt_ kk_ => XS.icmpNo X0.here hx rfl (hb hby d_method_6_code_50) rfl (teq hc87).2 kk_) ?_
                show own_EndsW _ _ _ _ _ _ _ _ (T0.setTop (mkF m 53 #[.val (.int kk)] []))
                obtain ⟨a88, T88, h88, k88', t88, kb88, X88, e88, E88, hS, hk, hZ, hown, Es88, Cs88, Fs88, Vs88, la88, lt88, HCq88, Lt88, Sf88, st88⟩ := ldcCH X0 hx hZ hown (hw _ (List.mem_of_getElem? (i := 73) rfl)) wS e0 hS hk hEL (by decide +kernel) HC.1 (vs := [(.int (69 : Int32)), (.int (88 : Int32)), (.int (84 : Int32)), (.int (69 : Int32)), (.int (78 : Int32)), (.int (83 : Int32)), (.int (73 : Int32)), (.int (79 : Int32)), (.int (78 : Int32))]) (z := (9 : Int32)) (by decide +kernel) (by decide) (by decide) (g := (mkF m 53 #[.val (.int kk)] [])) rfl (hb hby d_method_6_code_53) (n := 36) (by decide +kernel) (by decide) (by decide) (by decide)
                replace HC := HC.trans HCq88
                replace K := K.ext E88
                refine own_ofW st88 ?_
                show own_EndsW _ _ _ _ _ _ _ _ (T88.setTop (mkF m 55 #[.val (.int kk)] [(.ref a88)]))
                refine own_retAW X88 hx hlk hZ hS e88 hk es hEL HC hret rfl rfl (hb hby d_method_6_code_55) (by decide) (by decide) ?_
                have eb89 : [(.int (69 : Int32)), (.int (88 : Int32)), (.int (84 : Int32)), (.int (69 : Int32)), (.int (78 : Int32)), (.int (83 : Int32)), (.int (73 : Int32)), (.int (79 : Int32)), (.int (78 : Int32))] = own_by [69, 88, 84, 69, 78, 83, 73, 79, 78] := by decide +kernel
                rw [eb89] at Vs88
                exact ⟨a88, t88, kb88, [69, 88, 84, 69, 78, 83, 73, 79, 78], (9 : Int32), rfl, N0, K, Es88, Cs88, Fs88, Vs88, by decide +kernel, by decide +kernel, by decide, by decide, by decide⟩
              · refine own_ofW (fun tt_ kk_ => XS.icmpYes X0.here hx rfl (pc0 := 50) (pc' := 56) rfl (hb hby d_method_6_code_50) rfl (feq hc87).2 (by decide) (by decide) kk_) ?_
                show own_EndsW _ _ _ _ _ _ _ _ (T0.setTop (mkF m 56 #[.val (.int kk)] []))
                obtain ⟨a90, T90, h90, k90', t90, kb90, X90, e90, E90, hS, hk, hZ, hown, Es90, Cs90, Fs90, Vs90, la90, lt90, HCq90, Lt90, Sf90, st90⟩ := ldcCH X0 hx hZ hown (hw _ (List.mem_of_getElem? (i := 59) rfl)) wS e0 hS hk hEL (by decide +kernel) HC.1 (vs := [(.int (101 : Int32)), (.int (120 : Int32)), (.int (116 : Int32)), (.int (101 : Int32)), (.int (110 : Int32)), (.int (115 : Int32)), (.int (105 : Int32)), (.int (111 : Int32)), (.int (110 : Int32)), (.int (109 : Int32)), (.int (111 : Int32)), (.int (100 : Int32)), (.int (105 : Int32)), (.int (102 : Int32)), (.int (105 : Int32)), (.int (101 : Int32)), (.int (114 : Int32)), (.int (69 : Int32)), (.int (120 : Int32)), (.int (116 : Int32)), (.int (101 : Int32)), (.int (110 : Int32)), (.int (115 : Int32)), (.int (105 : Int32)), (.int (111 : Int32)), (.int (110 : Int32))]) (z := (26 : Int32)) (by decide +kernel) (by decide) (by decide) (g := (mkF m 56 #[.val (.int kk)] [])) rfl (hb hby d_method_6_code_56) (n := 104) (by decide +kernel) (by decide) (by decide) (by decide)
                replace HC := HC.trans HCq90
                replace K := K.ext E90
                refine own_ofW st90 ?_
                show own_EndsW _ _ _ _ _ _ _ _ (T90.setTop (mkF m 58 #[.val (.int kk)] [(.ref a90)]))
                refine own_retAW X90 hx hlk hZ hS e90 hk es hEL HC hret rfl rfl (hb hby d_method_6_code_58) (by decide) (by decide) ?_
                have eb91 : [(.int (101 : Int32)), (.int (120 : Int32)), (.int (116 : Int32)), (.int (101 : Int32)), (.int (110 : Int32)), (.int (115 : Int32)), (.int (105 : Int32)), (.int (111 : Int32)), (.int (110 : Int32)), (.int (109 : Int32)), (.int (111 : Int32)), (.int (100 : Int32)), (.int (105 : Int32)), (.int (102 : Int32)), (.int (105 : Int32)), (.int (101 : Int32)), (.int (114 : Int32)), (.int (69 : Int32)), (.int (120 : Int32)), (.int (116 : Int32)), (.int (101 : Int32)), (.int (110 : Int32)), (.int (115 : Int32)), (.int (105 : Int32)), (.int (111 : Int32)), (.int (110 : Int32))] = own_by [101, 120, 116, 101, 110, 115, 105, 111, 110, 109, 111, 100, 105, 102, 105, 101, 114, 69, 120, 116, 101, 110, 115, 105, 111, 110] := by decide +kernel
                rw [eb91] at Vs90
                exact ⟨a90, t90, kb90, [101, 120, 116, 101, 110, 115, 105, 111, 110, 109, 111, 100, 105, 102, 105, 101, 114, 69, 120, 116, 101, 110, 115, 105, 111, 110], (26 : Int32), rfl, N0, K, Es90, Cs90, Fs90, Vs90, by decide +kernel, by decide +kernel, by decide, by decide, by decide⟩
theorem d_jdk_42_method_149_code_0 : decode jdk_42_method_149_code 0 = .ok (.aload_n 0, 1) := by decide +kernel
theorem d_jdk_42_method_149_code_1 : decode jdk_42_method_149_code 1 = .ok (.invokespecial 1, 3) := by decide +kernel
theorem d_jdk_42_method_149_code_4 : decode jdk_42_method_149_code 4 = .ok (.iload_n 3, 1) := by decide +kernel
theorem d_jdk_42_method_149_code_5 : decode jdk_42_method_149_code 5 = .ok (.ifCond .ne 22, 3) := by decide +kernel
theorem d_jdk_42_method_149_code_8 : decode jdk_42_method_149_code 8 = .ok (.aload_n 0, 1) := by decide +kernel
theorem d_jdk_42_method_149_code_9 : decode jdk_42_method_149_code 9 = .ok (.ldc 7, 2) := by decide +kernel
theorem d_jdk_42_method_149_code_11 : decode jdk_42_method_149_code 11 = .ok (.getfield 9, 3) := by decide +kernel
theorem d_jdk_42_method_149_code_14 : decode jdk_42_method_149_code 14 = .ok (.putfield 9, 3) := by decide +kernel
theorem d_jdk_42_method_149_code_17 : decode jdk_42_method_149_code 17 = .ok (.aload_n 0, 1) := by decide +kernel
theorem d_jdk_42_method_149_code_18 : decode jdk_42_method_149_code 18 = .ok (.ldc 7, 2) := by decide +kernel
theorem d_jdk_42_method_149_code_20 : decode jdk_42_method_149_code 20 = .ok (.getfield 15, 3) := by decide +kernel
theorem d_jdk_42_method_149_code_23 : decode jdk_42_method_149_code 23 = .ok (.putfield 15, 3) := by decide +kernel
theorem d_jdk_42_method_149_code_26 : decode jdk_42_method_149_code 26 = .ok (.return_, 1) := by decide +kernel
theorem pn_java_lang_String : plainName "java/lang/String" = true := by first | (simp [plainName, overriddenIn]; done) | decide +kernel
theorem ef_jdk_42_method_149_codeRRIIN (m : MethodId) (z0 : Addr) (z1 : Addr) (z2 : Int32) (z3 : Int32) : entryFrame m #[(.ref z0), (.ref z1), (.int z2), (.int z3), .null] 6 = mkF m 0 #[.val (.ref z0), .val (.ref z1), .val (.int z2), .val (.int z3), .val .null, .unset] [] := by first | (simp [entryFrame, mkF, argsToLocals, Value.category]; done) | rfl
set_option maxRecDepth 65536 in
set_option maxHeartbeats 40000000 in
theorem rm_ini4 (l : Launch) (Z : State) (a0 : Array Value) (hw : ∀ d ∈ tables_1, d.before a0 Z = true) (x b : Addr) (h0 : Heap) (n0 : Nat) (Z0 : n0 ≤ h0.size) (hEL : EW Z a0 own_EL) (E : Exa Z h0 x "java/lang/String") (Fv : Fld Z h0 x "java/lang/String" "value" "[B" .null) (Fc : Fld Z h0 x "java/lang/String" "coder" "B" (.int (0 : Int32))) (g_x : n0 ≤ x) :
    own_MetWS l Z own_EL x (⟨"java/lang/String", "<init>", "([CIILjava/lang/Void;)V"⟩ : MethodName) jdk_42_method_149_code 6 none ({ frames := 1, cells := 4, slots := 8, locals := 12 } : Room) #[(.ref x), (.ref b), (.int (0 : Int32)), (.int (0 : Int32)), .null] h0 (fun v h L => ∃ (t : Addr) (k : ClassId), v = none ∧ Fr n0 L ∧ Keep h0 h [x] ∧ Exa Z h x "java/lang/String" ∧ Fld Z h x "java/lang/String" "coder" "B" (.int (0 : Int32)) ∧ Fld Z h x "java/lang/String" "value" "[B" (.ref t) ∧ Arv Z h t k .byte (0 : Int32) [] (.int 0)) := by
  refine own_bodyWS (plainFor_of_name pn_java_lang_String) ?_
  intro p e s m below meth c T0 X0 e0 es hx hby hml hown hnm hret hlk hZ hS HC Sf_x
  replace hown : (s.setVm s.vm).vm.findClass "java/lang/String" = some m.cls := hown
  have N0 := Fr.nil n0
  have hk : 0 ≤ h0.size := Nat.zero_le _
  have wS : ∀ d ∈ Bundle.stringAtoms, d.before a0 Z = true := fun d hd => hw d ((by decide +kernel : ∀ d ∈ Bundle.stringAtoms, d ∈ tables_1) d hd)
  refine own_ofW (fun tt_ kk_ => castTop (ef_jdk_42_method_149_codeRRIIN m x b (0 : Int32) (0 : Int32)) kk_) ?_
  have K := Keep.refl h0 [x]
  show own_EndsW _ _ _ _ _ _ _ _ (T0.setTop (mkF m 0 #[.val (.ref x), .val (.ref b), .val (.int (0 : Int32)), .val (.int (0 : Int32)), .val .null, .unset] []))
  refine own_ofW (fun tt_ kk_ => XS.aloadN X0.here hx rfl (hb hby d_jdk_42_method_149_code_0) rfl rfl kk_) ?_
  show own_EndsW _ _ _ _ _ _ _ _ (T0.setTop (mkF m 1 #[.val (.ref x), .val (.ref b), .val (.int (0 : Int32)), .val (.int (0 : Int32)), .val .null, .unset] [(.ref x)]))
  obtain ⟨T92, X92, e92, st92⟩ := initO X0 hx hZ hown (hw _ (List.mem_of_getElem? (i := 15) rfl)) (hw _ (List.mem_of_getElem? (i := 16) rfl)) (hw _ (List.mem_of_getElem? (i := 17) rfl)) e0 (g := (mkF m 1 #[.val (.ref x), .val (.ref b), .val (.int (0 : Int32)), .val (.int (0 : Int32)), .val .null, .unset] [(.ref x)])) rfl (by rw [hml]; rfl) rfl (hb hby d_jdk_42_method_149_code_1) (by decide) (W := 0) (by show 2 * 0 + _ ≤ _; exact Nat.le_of_eq rfl) (by decide)
  refine own_ofW st92 ?_
  show own_EndsW _ _ _ _ _ _ _ _ (T92.setTop (mkF m 4 #[.val (.ref x), .val (.ref b), .val (.int (0 : Int32)), .val (.int (0 : Int32)), .val .null, .unset] []))
  refine own_ofW (fun tt_ kk_ => XS.iloadN X92.here hx rfl (hb hby d_jdk_42_method_149_code_4) rfl  kk_) ?_
  show own_EndsW _ _ _ _ _ _ _ _ (T92.setTop (mkF m 5 #[.val (.ref x), .val (.ref b), .val (.int (0 : Int32)), .val (.int (0 : Int32)), .val .null, .unset] [(.int (0 : Int32))]))
  refine own_ofW (fun tt_ kk_ => XS.ifNo X92.here hx rfl (hb hby d_jdk_42_method_149_code_5) rfl ((if0 _ _).trans (teq (by decide : ((0 : Int32) = (0 : Int32)))).2) kk_) ?_
  show own_EndsW _ _ _ _ _ _ _ _ (T92.setTop (mkF m 8 #[.val (.ref x), .val (.ref b), .val (.int (0 : Int32)), .val (.int (0 : Int32)), .val .null, .unset] []))
  refine own_ofW (fun tt_ kk_ => XS.aloadN X92.here hx rfl (hb hby d_jdk_42_method_149_code_8) rfl rfl kk_) ?_
  show own_EndsW _ _ _ _ _ _ _ _ (T92.setTop (mkF m 9 #[.val (.ref x), .val (.ref b), .val (.int (0 : Int32)), .val (.int (0 : Int32)), .val .null, .unset] [(.ref x)]))
  obtain ⟨a93, T93, h93, k93', t93, kb93, X93, e93, E93, hS, hk, hZ, hown, Es93, Cs93, Fs93, Vs93, la93, lt93, HCq93, Lt93, Sf93, st93⟩ := ldcCH X92 hx hZ hown (hw _ (List.mem_of_getElem? (i := 60) rfl)) wS e92 hS hk hEL (by decide +kernel) HC.1 (vs := []) (z := (0 : Int32)) (by decide +kernel) (by decide) (by decide) (g := (mkF m 9 #[.val (.ref x), .val (.ref b), .val (.int (0 : Int32)), .val (.int (0 : Int32)), .val .null, .unset] [(.ref x)])) rfl (hb hby d_jdk_42_method_149_code_9) (n := 0) (by decide +kernel) (by decide) (by decide) (by decide)
  replace Sf_x := HCq93.safe E.lt Sf_x
  have ne_x_a93 : x ≠ a93 := (Sf93 _ Sf_x).1
  have ne_x_t93 : x ≠ t93 := (Sf93 _ Sf_x).2
  replace HC := HC.trans HCq93
  replace E := E.ext E93
  replace Fv := Fv.ext E93
  replace Fc := Fc.ext E93
  replace K := K.ext E93
  refine own_ofW st93 ?_
  show own_EndsW _ _ _ _ _ _ _ _ (T93.setTop (mkF m 11 #[.val (.ref x), .val (.ref b), .val (.int (0 : Int32)), .val (.int (0 : Int32)), .val .null, .unset] [(.ref a93), (.ref x)]))
  obtain ⟨T94, X94, e94, st94⟩ := getF X93 hx hZ hown (host := "") (Or.inl (hw _ (List.mem_of_getElem? (i := 32) rfl))) Via.refl e93 Fs93 (g := (mkF m 11 #[.val (.ref x), .val (.ref b), .val (.int (0 : Int32)), .val (.int (0 : Int32)), .val .null, .unset] [(.ref a93), (.ref x)])) rfl rfl (hb hby d_jdk_42_method_149_code_11)
  refine own_ofW st94 ?_
  show own_EndsW _ _ _ _ _ _ _ _ (T94.setTop (mkF m 14 #[.val (.ref x), .val (.ref b), .val (.int (0 : Int32)), .val (.int (0 : Int32)), .val .null, .unset] [(.ref t93), (.ref x)]))
  obtain ⟨T95, h95, X95, e95, W95, st95⟩ := putF X94 hx hZ hown (host := "") (Or.inl (hw _ (List.mem_of_getElem? (i := 32) rfl))) Via.refl e94 Fv E (Or.inr ⟨(hw _ (List.mem_of_getElem? (i := 33) rfl)), rfl, hnm⟩) (hw _ (List.mem_of_getElem? (i := 6) rfl)) (ty := (.array .byte)) (by decide) rfl rfl (g := (mkF m 14 #[.val (.ref x), .val (.ref b), .val (.int (0 : Int32)), .val (.int (0 : Int32)), .val .null, .unset] [(.ref t93), (.ref x)])) rfl rfl (hb hby d_jdk_42_method_149_code_14)
  replace Fv := Fv.same W95
  have Sf_x' := Safe.wr W95 Sf_x HC.1 Sf_x
  replace hk := Nat.le_trans hk (Keep.of_wr W95).1
  replace HC := HC.trans (CHr.wr W95 Sf_x HC.1)
  replace Sf_x := Sf_x'
  replace E := E.wr W95
  replace Fc := Fc.other W95 (Or.inr (slot_ne (Or.inr (hw _ (List.mem_of_getElem? (i := 31) rfl))) (Or.inr (hw _ (List.mem_of_getElem? (i := 33) rfl))) (by decide) (t := .byte) (t' := (.array .byte)) (by decide) (by decide)))
  replace Es93 := Es93.wr W95
  replace Cs93 := Cs93.other W95 (Or.inl (Ne.symm ne_x_a93))
  replace Fs93 := Fs93.other W95 (Or.inl (Ne.symm ne_x_a93))
  replace Vs93 := Vs93.other W95 (Ne.symm ne_x_t93)
  have N95 := Fr.snoc X95 N0 g_x
  replace K := K.wr W95 (Or.inl (List.mem_of_getElem? (i := 0) rfl))
  refine own_ofW st95 ?_
  show own_EndsW _ _ _ _ _ _ _ _ (T95.setTop (mkF m 17 #[.val (.ref x), .val (.ref b), .val (.int (0 : Int32)), .val (.int (0 : Int32)), .val .null, .unset] []))
  refine own_ofW (fun tt_ kk_ => XS.aloadN X95.here hx rfl (hb hby d_jdk_42_method_149_code_17) rfl rfl kk_) ?_
  show own_EndsW _ _ _ _ _ _ _ _ (T95.setTop (mkF m 18 #[.val (.ref x), .val (.ref b), .val (.int (0 : Int32)), .val (.int (0 : Int32)), .val .null, .unset] [(.ref x)]))
  obtain ⟨a96, T96, h96, k96', t96, kb96, X96, e96, E96, hS, hk, hZ, hown, Es96, Cs96, Fs96, Vs96, la96, lt96, HCq96, Lt96, Sf96, st96⟩ := ldcCH X95 hx hZ hown (hw _ (List.mem_of_getElem? (i := 60) rfl)) wS e95 hS hk hEL (by decide +kernel) HC.1 (vs := []) (z := (0 : Int32)) (by decide +kernel) (by decide) (by decide) (g := (mkF m 18 #[.val (.ref x), .val (.ref b), .val (.int (0 : Int32)), .val (.int (0 : Int32)), .val .null, .unset] [(.ref x)])) rfl (hb hby d_jdk_42_method_149_code_18) (n := 0) (by decide +kernel) (by decide) (by decide) (by decide)
  replace Sf_x := HCq96.safe E.lt Sf_x
  have ne_x_a96 : x ≠ a96 := (Sf96 _ Sf_x).1
  have ne_x_t96 : x ≠ t96 := (Sf96 _ Sf_x).2
  replace HC := HC.trans HCq96
  replace E := E.ext E96
  replace Fv := Fv.ext E96
  replace Fc := Fc.ext E96
  replace Es93 := Es93.ext E96
  replace Cs93 := Cs93.ext E96
  replace Fs93 := Fs93.ext E96
  replace Vs93 := Vs93.ext E96
  replace K := K.ext E96
  refine own_ofW st96 ?_
  show own_EndsW _ _ _ _ _ _ _ _ (T96.setTop (mkF m 20 #[.val (.ref x), .val (.ref b), .val (.int (0 : Int32)), .val (.int (0 : Int32)), .val .null, .unset] [(.ref a96), (.ref x)]))
  obtain ⟨T97, X97, e97, st97⟩ := getF X96 hx hZ hown (host := "") (Or.inl (hw _ (List.mem_of_getElem? (i := 30) rfl))) Via.refl e96 Cs96 (g := (mkF m 20 #[.val (.ref x), .val (.ref b), .val (.int (0 : Int32)), .val (.int (0 : Int32)), .val .null, .unset] [(.ref a96), (.ref x)])) rfl rfl (hb hby d_jdk_42_method_149_code_20)
  refine own_ofW st97 ?_
  show own_EndsW _ _ _ _ _ _ _ _ (T97.setTop (mkF m 23 #[.val (.ref x), .val (.ref b), .val (.int (0 : Int32)), .val (.int (0 : Int32)), .val .null, .unset] [(.int (0 : Int32)), (.ref x)]))
  obtain ⟨T98, h98, X98, e98, W98, st98⟩ := putFN X97 hx hZ hown (hw _ (List.mem_of_getElem? (i := 30) rfl)) Via.refl e97 Fc E (Or.inr ⟨(hw _ (List.mem_of_getElem? (i := 31) rfl)), rfl, hnm⟩) (hw _ (List.mem_of_getElem? (i := 6) rfl)) (ty := .byte) (v' := (.int (0 : Int32))) (by decide) rfl rfl (g := (mkF m 23 #[.val (.ref x), .val (.ref b), .val (.int (0 : Int32)), .val (.int (0 : Int32)), .val .null, .unset] [(.int (0 : Int32)), (.ref x)])) rfl rfl (hb hby d_jdk_42_method_149_code_23)
  replace Fc := Fc.same W98
  have Sf_x' := Safe.wr W98 Sf_x HC.1 Sf_x
  replace hk := Nat.le_trans hk (Keep.of_wr W98).1
  replace HC := HC.trans (CHr.wr W98 Sf_x HC.1)
  replace Sf_x := Sf_x'
  replace E := E.wr W98
  replace Fv := Fv.other W98 (Or.inr (slot_ne (Or.inr (hw _ (List.mem_of_getElem? (i := 33) rfl))) (Or.inr (hw _ (List.mem_of_getElem? (i := 31) rfl))) (by decide) (t := (.array .byte)) (t' := .byte) (by decide) (by decide)))
  replace Es93 := Es93.wr W98
  replace Cs93 := Cs93.other W98 (Or.inl (Ne.symm ne_x_a93))
  replace Fs93 := Fs93.other W98 (Or.inl (Ne.symm ne_x_a93))
  replace Vs93 := Vs93.other W98 (Ne.symm ne_x_t93)
  replace Es96 := Es96.wr W98
  replace Cs96 := Cs96.other W98 (Or.inl (Ne.symm ne_x_a96))
  replace Fs96 := Fs96.other W98 (Or.inl (Ne.symm ne_x_a96))
  replace Vs96 := Vs96.other W98 (Ne.symm ne_x_t96)
  have N98 := Fr.snoc X98 N95 g_x
  replace K := K.wr W98 (Or.inl (List.mem_of_getElem? (i := 0) rfl))
  refine own_ofW st98 ?_
  show own_EndsW _ _ _ _ _ _ _ _ (T98.setTop (mkF m 26 #[.val (.ref x), .val (.ref b), .val (.int (0 : Int32)), .val (.int (0 : Int32)), .val .null, .unset] []))
  refine own_retVW X98 hx hlk hZ hS e98 hk es hEL HC hret (hb hby d_jdk_42_method_149_code_26) (by decide) (by decide) ?_
  exact ⟨t93, kb93, rfl, N98, K, E, Fc, Fv, Vs93⟩
theorem d_jdk_42_method_3_code_0 : decode jdk_42_method_3_code 0 = .ok (.aload_n 0, 1) := by decide +kernel
theorem d_jdk_42_method_3_code_1 : decode jdk_42_method_3_code 1 = .ok (.aload_n 1, 1) := by decide +kernel
theorem d_jdk_42_method_3_code_2 : decode jdk_42_method_3_code 2 = .ok (.iconst 0, 1) := by decide +kernel
theorem d_jdk_42_method_3_code_3 : decode jdk_42_method_3_code 3 = .ok (.aload_n 1, 1) := by decide +kernel
theorem d_jdk_42_method_3_code_4 : decode jdk_42_method_3_code 4 = .ok (.arraylength, 1) := by decide +kernel
theorem d_jdk_42_method_3_code_5 : decode jdk_42_method_3_code 5 = .ok (.aconst_null, 1) := by decide +kernel
theorem pd__ACIILjava_lang_Void__r_V : parseMethodDescriptor "([CIILjava/lang/Void;)V" = some ⟨[(.array .char), .int, .int, (.object "java/lang/Void")], none⟩ := by decide +kernel
theorem d_jdk_42_method_3_code_6 : decode jdk_42_method_3_code 6 = .ok (.invokespecial 27, 3) := by decide +kernel
theorem d_jdk_42_method_3_code_9 : decode jdk_42_method_3_code 9 = .ok (.return_, 1) := by decide +kernel
theorem ef_jdk_42_method_3_codeRR (m : MethodId) (z0 : Addr) (z1 : Addr) : entryFrame m #[(.ref z0), (.ref z1)] 2 = mkF m 0 #[.val (.ref z0), .val (.ref z1)] [] := by first | (simp [entryFrame, mkF, argsToLocals, Value.category]; done) | rfl
set_option maxRecDepth 65536 in
set_option maxHeartbeats 40000000 in
theorem rm_ini1 (l : Launch) (Z : State) (a0 : Array Value) (hw : ∀ d ∈ tables_1, d.before a0 Z = true) (x b : Addr) (kb : ClassId) (h0 : Heap) (n0 : Nat) (Z0 : n0 ≤ h0.size) (hEL : EW Z a0 own_EL) (E : Exa Z h0 x "java/lang/String") (Fv : Fld Z h0 x "java/lang/String" "value" "[B" .null) (Fc : Fld Z h0 x "java/lang/String" "coder" "B" (.int (0 : Int32))) (g_x : n0 ≤ x) (Vb : Arv Z h0 b kb .char (0 : Int32) [] (.int (0 : Int32))) :
    own_MetWS l Z own_EL x (⟨"java/lang/String", "<init>", "([C)V"⟩ : MethodName) jdk_42_method_3_code 2 none ({ frames := 2, cells := 4, slots := 8, locals := 29 } : Room) #[(.ref x), (.ref b)] h0 (fun v h L => ∃ (t : Addr) (k : ClassId), v = none ∧ Fr n0 L ∧ Keep h0 h [x] ∧ Exa Z h x "java/lang/String" ∧ Fld Z h x "java/lang/String" "coder" "B" (.int (0 : Int32)) ∧ Fld Z h x "java/lang/String" "value" "[B" (.ref t) ∧ Arv Z h t k .byte (0 : Int32) [] (.int 0)) := by
  refine own_bodyWS (plainFor_of_name pn_java_lang_String) ?_
  intro p e s m below meth c T0 X0 e0 es hx hby hml hown hnm hret hlk hZ hS HC Sf_x
  replace hown : (s.setVm s.vm).vm.findClass "java/lang/String" = some m.cls := hown
  have N0 := Fr.nil n0
  have hk : 0 ≤ h0.size := Nat.zero_le _
  have wS : ∀ d ∈ Bundle.stringAtoms, d.before a0 Z = true := fun d hd => hw d ((by decide +kernel : ∀ d ∈ Bundle.stringAtoms, d ∈ tables_1) d hd)
  refine own_ofW (fun tt_ kk_ => castTop (ef_jdk_42_method_3_codeRR m x b) kk_) ?_
  have K := Keep.refl h0 [x]
  show own_EndsW _ _ _ _ _ _ _ _ (T0.setTop (mkF m 0 #[.val (.ref x), .val (.ref b)] []))
  refine own_ofW (fun tt_ kk_ => XS.aloadN X0.here hx rfl (hb hby d_jdk_42_method_3_code_0) rfl rfl kk_) ?_
  show own_EndsW _ _ _ _ _ _ _ _ (T0.setTop (mkF m 1 #[.val (.ref x), .val (.ref b)] [(.ref x)]))
  refine own_ofW (fun tt_ kk_ => XS.aloadN X0.here hx rfl (hb hby d_jdk_42_method_3_code_1) rfl rfl kk_) ?_
  show own_EndsW _ _ _ _ _ _ _ _ (T0.setTop (mkF m 2 #[.val (.ref x), .val (.ref b)] [(.ref b), (.ref x)]))
  refine own_ofW (fun tt_ kk_ => XS.iconst X0.here hx rfl (hb hby d_jdk_42_method_3_code_2) kk_) ?_
  show own_EndsW _ _ _ _ _ _ _ _ (T0.setTop (mkF m 3 #[.val (.ref x), .val (.ref b)] [(.int (0 : Int32)), (.ref b), (.ref x)]))
  refine own_ofW (fun tt_ kk_ => XS.aloadN X0.here hx rfl (hb hby d_jdk_42_method_3_code_3) rfl rfl kk_) ?_
  show own_EndsW _ _ _ _ _ _ _ _ (T0.setTop (mkF m 4 #[.val (.ref x), .val (.ref b)] [(.ref b), (.int (0 : Int32)), (.ref b), (.ref x)]))
  obtain ⟨cl99, Ar99, -, S99, N99', -, -⟩ := id Vb
  refine own_ofW (fun tt_ kk_ => X0.arraylength hx (by rw [e0]; exact Ar99.1) (State.isArrayOf_alike hZ.alike Ar99.2.1) (g := (mkF m 4 #[.val (.ref x), .val (.ref b)] [(.ref b), (.int (0 : Int32)), (.ref b), (.ref x)])) rfl rfl (hb hby d_jdk_42_method_3_code_4) _ kk_) ?_
  rw [len_of S99 N99']
  show own_EndsW _ _ _ _ _ _ _ _ (T0.setTop (mkF m 5 #[.val (.ref x), .val (.ref b)] [(.int (0 : Int32)), (.int (0 : Int32)), (.ref b), (.ref x)]))
  refine own_ofW (fun tt_ kk_ => XS.aconstNull X0.here hx rfl (hb hby d_jdk_42_method_3_code_5) kk_) ?_
  show own_EndsW _ _ _ _ _ _ _ _ (T0.setTop (mkF m 6 #[.val (.ref x), .val (.ref b)] [.null, (.int (0 : Int32)), (.int (0 : Int32)), (.ref b), (.ref x)]))
  obtain ⟨v100, T100, L100, h100, k100', X100, e100, Q100, hZ, hown, hS, hk, HCq100, st100⟩ := own_specialWS X0 hx hZ hown e0 hS hk hEL HC.1 Sf_x E.lt (b := x) rfl (hw _ (List.mem_of_getElem? (i := 11) rfl)) (hw _ (List.mem_of_getElem? (i := 12) rfl)) (hw _ (List.mem_of_getElem? (i := 7) rfl)) (hw _ (List.mem_of_getElem? (i := 14) rfl)) (by decide) (argsL := [(.ref b), (.int (0 : Int32)), (.int (0 : Int32)), .null]) (rest := []) (rm_ini4 l Z a0 hw x b h0 n0 (Nat.le_trans Z0 K.1) hEL E Fv Fc g_x) (g := (mkF m 6 #[.val (.ref x), .val (.ref b)] [.null, (.int (0 : Int32)), (.int (0 : Int32)), (.ref b), (.ref x)])) rfl (by rw [hml]; rfl) (lenOf pd__ACIILjava_lang_Void__r_V rfl) rfl (by decide) (Nat.le_of_ble_eq_true rfl) (by decide) (by decide) (hb hby d_jdk_42_method_3_code_6)
  replace HC := HC.trans HCq100
  obtain ⟨t100, k100, rfl, Nq100, Kq100, Eq100, Cq100, Fq100, Vq100⟩ := Q100
  replace E := E.keep Kq100
  replace K := K.trans Kq100 (allS (Or.inl (List.mem_of_getElem? (i := 0) rfl)) all0)
  have N100 := Fr.app N0 Nq100
  refine own_ofW st100 ?_
  show own_EndsW _ _ _ _ _ _ _ _ (T100.setTop (mkF m 9 #[.val (.ref x), .val (.ref b)] []))
  refine own_retVW X100 hx hlk hZ hS e100 hk es hEL HC hret (hb hby d_jdk_42_method_3_code_9) (by decide) (by decide) ?_
  exact ⟨t100, k100, rfl, N100, K, E, Cq100, Fq100, Vq100⟩
theorem pd___r_AC : parseMethodDescriptor "()[C" = some ⟨[], some (.array .char)⟩ := by decide +kernel
theorem pd__AC_r_V : parseMethodDescriptor "([C)V" = some ⟨[(.array .char)], none⟩ := by decide +kernel
theorem pd__Ljava_lang_String__r_Z : parseMethodDescriptor "(Ljava/lang/String;)Z" = some ⟨[(.object "java/lang/String")], some .boolean⟩ := by decide +kernel
theorem pd__I_r_Ljava_lang_String_ : parseMethodDescriptor "(I)Ljava/lang/String;" = some ⟨[.int], some (.object "java/lang/String")⟩ := by decide +kernel
theorem ef_codeIIII (m : MethodId) (z0 : Int32) (z1 : Int32) (z2 : Int32) (z3 : Int32) : entryFrame m #[(.int z0), (.int z1), (.int z2), (.int z3)] maxLocals = mkF m 0 #[.val (.int z0), .val (.int z1), .val (.int z2), .val (.int z3), .unset, .unset, .unset, .unset, .unset, .unset, .unset] [] := by first | (simp [entryFrame, mkF, argsToLocals, Value.category, maxLocals]; done) | rfl
set_option maxRecDepth 65536 in
set_option maxHeartbeats 40000000 in
theorem rm0 (l : Launch) (Z : State) (a0 : Array Value) (hw : ∀ d ∈ tables_1, d.before a0 Z = true) (p1 p2 p3 p4 G1 : Int32) (h0 : Heap) (n0 : Nat) (Z0 : n0 ≤ h0.size) (hEL : EW Z a0 own_EL) (O2 : Sta Z Z.heap "java/lang/String" "COMPACT_STRINGS" "Z" (.int G1)) (P3 : ¬ (G1 = (0 : Int32))) (OL : Old Z n0 h0) :
    own_MetW l Z own_EL x code maxLocals ret room_1 #[(.int p1), (.int p2), (.int p3), (.int p4)] h0 (fun v h L => v = some (.int 1) ∧ Fr n0 L) := by
  refine own_bodyW (plainFor_of_name pn_com_example_extlint_extlint_model_ExtensionNamesListPinLaw) ?_
  intro p e s m below meth c T0 X0 e0 es hx hby hml hown hnm hret hlk hZ hS HC
  replace hown : (s.setVm s.vm).vm.findClass "com/example/extlint/extlint/model/ExtensionNamesListPinLaw" = some m.cls := hown
  have N0 := Fr.nil n0
  have hk : 0 ≤ h0.size := Nat.zero_le _
  have wS : ∀ d ∈ Bundle.stringAtoms, d.before a0 Z = true := fun d hd => hw d ((by decide +kernel : ∀ d ∈ Bundle.stringAtoms, d ∈ tables_1) d hd)
  refine own_ofW (fun tt_ kk_ => castTop (ef_codeIIII m p1 p2 p3 p4) kk_) ?_
  have K := Keep.refl h0 []
  have hws : ∀ d ∈ StrChars.Road.words, d.before a0 Z = true := fun d hd => hw d ((by decide +kernel : ∀ d ∈ StrChars.Road.words, d ∈ tables_1) d hd)
  show own_EndsW _ _ _ _ _ _ _ _ (T0.setTop (mkF m 0 #[.val (.int p1), .val (.int p2), .val (.int p3), .val (.int p4), .unset, .unset, .unset, .unset, .unset, .unset, .unset] []))
  refine own_ofW (fun tt_ kk_ => XS.iloadN X0.here hx rfl (hb hby at_0) rfl  kk_) ?_
  show own_EndsW _ _ _ _ _ _ _ _ (T0.setTop (mkF m 1 #[.val (.int p1), .val (.int p2), .val (.int p3), .val (.int p4), .unset, .unset, .unset, .unset, .unset, .unset, .unset] [(.int p1)]))
  refine own_ofW (fun tt_ kk_ => XS.iconst X0.here hx rfl (hb hby at_1) kk_) ?_
  show own_EndsW _ _ _ _ _ _ _ _ (T0.setTop (mkF m 2 #[.val (.int p1), .val (.int p2), .val (.int p3), .val (.int p4), .unset, .unset, .unset, .unset, .unset, .unset, .unset] [(.int (1 : Int32)), (.int p1)]))
  refine own_ofW (fun tt_ kk_ => XS.iand X0.here hx rfl (hb hby at_2) rfl kk_) ?_
  show own_EndsW _ _ _ _ _ _ _ _ (T0.setTop (mkF m 3 #[.val (.int p1), .val (.int p2), .val (.int p3), .val (.int p4), .unset, .unset, .unset, .unset, .unset, .unset, .unset] [(.int (p1 &&& (1 : Int32)))]))
  by_cases hc101 : (p1 &&& (1 : Int32)) = (0 : Int32)
  · refine own_ofW (fun tt_ kk_ => XS.ifYes X0.here hx rfl (pc0 := 3) (pc' := 10) rfl (hb hby at_3) rfl ((if0 _ _).trans (teq hc101).1) (by decide) (by decide) kk_) ?_
    show own_EndsW _ _ _ _ _ _ _ _ (T0.setTop (mkF m 10 #[.val (.int p1), .val (.int p2), .val (.int p3), .val (.int p4), .unset, .unset, .unset, .unset, .unset, .unset, .unset] []))
    refine own_ofW (fun tt_ kk_ => XS.iconst X0.here hx rfl (hb hby at_10) kk_) ?_
    show own_EndsW _ _ _ _ _ _ _ _ (T0.setTop (mkF m 11 #[.val (.int p1), .val (.int p2), .val (.int p3), .val (.int p4), .unset, .unset, .unset, .unset, .unset, .unset, .unset] [(.int (0 : Int32))]))
    refine own_ofW (fun tt_ kk_ => XS.istore X0.here hx rfl (hb hby at_11) rfl (l' := #[.val (.int p1), .val (.int p2), .val (.int p3), .val (.int p4), .val (.int (0 : Int32)), .unset, .unset, .unset, .unset, .unset, .unset]) rfl kk_) ?_
    show own_EndsW _ _ _ _ _ _ _ _ (T0.setTop (mkF m 13 #[.val (.int p1), .val (.int p2), .val (.int p3), .val (.int p4), .val (.int (0 : Int32)), .unset, .unset, .unset, .unset, .unset, .unset] []))
    refine own_ofW (fun tt_ kk_ => XS.iloadN X0.here hx rfl (hb hby at_13) rfl  kk_) ?_
    show own_EndsW _ _ _ _ _ _ _ _ (T0.setTop (mkF m 14 #[.val (.int p1), .val (.int p2), .val (.int p3), .val (.int p4), .val (.int (0 : Int32)), .unset, .unset, .unset, .unset, .unset, .unset] [(.int p1)]))
    refine own_ofW (fun tt_ kk_ => XS.iconst X0.here hx rfl (hb hby at_14) kk_) ?_
    show own_EndsW _ _ _ _ _ _ _ _ (T0.setTop (mkF m 15 #[.val (.int p1), .val (.int p2), .val (.int p3), .val (.int p4), .val (.int (0 : Int32)), .unset, .unset, .unset, .unset, .unset, .unset] [(.int (1 : Int32)), (.int p1)]))
    refine own_ofW (fun tt_ kk_ => XS.iushr X0.here hx rfl (hb hby at_15) rfl kk_) ?_
    show own_EndsW _ _ _ _ _ _ _ _ (T0.setTop (mkF m 16 #[.val (.int p1), .val (.int p2), .val (.int p3), .val (.int p4), .val (.int (0 : Int32)), .unset, .unset, .unset, .unset, .unset, .unset] [(.int ((p1.toUInt32 >>> ((1 : Int32) &&& 31).toUInt32).toInt32))]))
    refine own_ofW (fun tt_ kk_ => XS.bipush X0.here hx rfl (hb hby at_16) kk_) ?_
    show own_EndsW _ _ _ _ _ _ _ _ (T0.setTop (mkF m 18 #[.val (.int p1), .val (.int p2), .val (.int p3), .val (.int p4), .val (.int (0 : Int32)), .unset, .unset, .unset, .unset, .unset, .unset] [(.int (7 : Int32)), (.int ((p1.toUInt32 >>> ((1 : Int32) &&& 31).toUInt32).toInt32))]))
    refine own_ofW (fun tt_ kk_ => XS.iand X0.here hx rfl (hb hby at_18) rfl kk_) ?_
    show own_EndsW _ _ _ _ _ _ _ _ (T0.setTop (mkF m 19 #[.val (.int p1), .val (.int p2), .val (.int p3), .val (.int p4), .val (.int (0 : Int32)), .unset, .unset, .unset, .unset, .unset, .unset] [(.int (((p1.toUInt32 >>> ((1 : Int32) &&& 31).toUInt32).toInt32) &&& (7 : Int32)))]))
    obtain ⟨md, hmd⟩ : ∃ z : Int32, z = (((p1.toUInt32 >>> ((1 : Int32) &&& 31).toUInt32).toInt32) &&& (7 : Int32)) := ⟨_, rfl⟩
    rw [← hmd]
    show own_EndsW _ _ _ _ _ _ _ _ (T0.setTop (mkF m 19 #[.val (.int p1), .val (.int p2), .val (.int p3), .val (.int p4), .val (.int (0 : Int32)), .unset, .unset, .unset, .unset, .unset, .unset] [(.int md)]))
    refine own_ofW (fun tt_ kk_ => XS.istore X0.here hx rfl (hb hby at_19) rfl (l' := #[.val (.int p1), .val (.int p2), .val (.int p3), .val (.int p4), .val (.int (0 : Int32)), .val (.int md), .unset, .unset, .unset, .unset, .unset]) rfl kk_) ?_
    show own_EndsW _ _ _ _ _ _ _ _ (T0.setTop (mkF m 21 #[.val (.int p1), .val (.int p2), .val (.int p3), .val (.int p4), .val (.int (0 : Int32)), .val (.int md), .unset, .unset, .unset, .unset, .unset] []))
    refine own_ofW (fun tt_ kk_ => XS.iloadN X0.here hx rfl (hb hby at_21) rfl  kk_) ?_
    show own_EndsW _ _ _ _ _ _ _ _ (T0.setTop (mkF m 22 #[.val (.int p1), .val (.int p2), .val (.int p3), .val (.int p4), .val (.int (0 : Int32)), .val (.int md), .unset, .unset, .unset, .unset, .unset] [(.int p3)]))
    refine own_ofW (fun tt_ kk_ => XS.sipush X0.here hx rfl (hb hby at_22) kk_) ?_
    show own_EndsW _ _ _ _ _ _ _ _ (T0.setTop (mkF m 25 #[.val (.int p1), .val (.int p2), .val (.int p3), .val (.int p4), .val (.int (0 : Int32)), .val (.int md), .unset, .unset, .unset, .unset, .unset] [(.int (255 : Int32)), (.int p3)]))
    refine own_ofW (fun tt_ kk_ => XS.iand X0.here hx rfl (hb hby at_25) rfl kk_) ?_
    show own_EndsW _ _ _ _ _ _ _ _ (T0.setTop (mkF m 26 #[.val (.int p1), .val (.int p2), .val (.int p3), .val (.int p4), .val (.int (0 : Int32)), .val (.int md), .unset, .unset, .unset, .unset, .unset] [(.int (p3 &&& (255 : Int32)))]))
    refine own_ofW (fun tt_ kk_ => XS.i2c X0.here hx rfl (hb hby at_26) rfl kk_) ?_
    show own_EndsW _ _ _ _ _ _ _ _ (T0.setTop (mkF m 27 #[.val (.int p1), .val (.int p2), .val (.int p3), .val (.int p4), .val (.int (0 : Int32)), .val (.int md), .unset, .unset, .unset, .unset, .unset] [(.int ((p3 &&& (255 : Int32)).toUInt32.toUInt16.toUInt32.toInt32))]))
    obtain ⟨cc, hcc⟩ : ∃ z : Int32, z = ((p3 &&& (255 : Int32)).toUInt32.toUInt16.toUInt32.toInt32) := ⟨_, rfl⟩
    rw [← hcc]
    have nr_cc : nar .char cc = cc := by rw [hcc, own_i2c, i2c_mask]
    have lat_cc : ¬ cc < 0 ∧ ¬ (255 : Int32) < cc := by rw [hcc, i2c_mask]; exact own_lat p3
    show own_EndsW _ _ _ _ _ _ _ _ (T0.setTop (mkF m 27 #[.val (.int p1), .val (.int p2), .val (.int p3), .val (.int p4), .val (.int (0 : Int32)), .val (.int md), .unset, .unset, .unset, .unset, .unset] [(.int cc)]))
    refine own_ofW (fun tt_ kk_ => XS.istore X0.here hx rfl (hb hby at_27) rfl (l' := #[.val (.int p1), .val (.int p2), .val (.int p3), .val (.int p4), .val (.int (0 : Int32)), .val (.int md), .val (.int cc), .unset, .unset, .unset, .unset]) rfl kk_) ?_
    show own_EndsW _ _ _ _ _ _ _ _ (T0.setTop (mkF m 29 #[.val (.int p1), .val (.int p2), .val (.int p3), .val (.int p4), .val (.int (0 : Int32)), .val (.int md), .val (.int cc), .unset, .unset, .unset, .unset] []))
    refine own_ofW (fun tt_ kk_ => XS.iload X0.here hx rfl (hb hby at_29) rfl  kk_) ?_
    show own_EndsW _ _ _ _ _ _ _ _ (T0.setTop (mkF m 31 #[.val (.int p1), .val (.int p2), .val (.int p3), .val (.int p4), .val (.int (0 : Int32)), .val (.int md), .val (.int cc), .unset, .unset, .unset, .unset] [(.int (0 : Int32))]))
    refine own_ofW (fun tt_ kk_ => XS.ifYes X0.here hx rfl (pc0 := 31) (pc' := 40) rfl (hb hby at_31) rfl ((if0 _ _).trans (teq (by decide : ((0 : Int32) = (0 : Int32)))).1) (by decide) (by decide) kk_) ?_
    show own_EndsW _ _ _ _ _ _ _ _ (T0.setTop (mkF m 40 #[.val (.int p1), .val (.int p2), .val (.int p3), .val (.int p4), .val (.int (0 : Int32)), .val (.int md), .val (.int cc), .unset, .unset, .unset, .unset] []))
    obtain ⟨v102, T102, L102, h102, X102, e102, Q102, st102⟩ := own_static X0 hx hZ hown e0 (hw _ (List.mem_of_getElem? (i := 0) rfl)) (hw _ (List.mem_of_getElem? (i := 1) rfl)) (hw _ (List.mem_of_getElem? (i := 2) rfl)) (hw _ (List.mem_of_getElem? (i := 3) rfl)) (by decide) (argsL := []) (rest := []) (rm_ext l Z a0 hw h0 n0 (Nat.le_trans Z0 K.1)) (g := (mkF m 40 #[.val (.int p1), .val (.int p2), .val (.int p3), .val (.int p4), .val (.int (0 : Int32)), .val (.int md), .val (.int cc), .unset, .unset, .unset, .unset] [])) rfl (by rw [hml]; rfl) (lenOf pd___r_AC rfl) rfl (by decide) (Nat.le_of_ble_eq_true rfl) (by decide) (by decide) (hb hby at_40)
    obtain ⟨b102, k102, rfl, Nq102, Kq102, szq_b102, Vb102⟩ := Q102
    have sz_b102 : h0.size ≤ b102 := Nat.le_trans K.1 szq_b102
    have g_b102 : n0 ≤ b102 := Nat.le_trans Z0 sz_b102
    replace hk := Nat.le_trans hk Kq102.1
    replace HC := HC.trans (CHr.keep Kq102 sf0 HC.1)
    replace OL := OL.keep Kq102 all0
    replace K := K.trans Kq102 all0
    have N102 := Fr.app N0 Nq102
    refine own_ofW st102 ?_
    show own_EndsW _ _ _ _ _ _ _ _ (T102.setTop (mkF m 43 #[.val (.int p1), .val (.int p2), .val (.int p3), .val (.int p4), .val (.int (0 : Int32)), .val (.int md), .val (.int cc), .unset, .unset, .unset, .unset] [(.ref b102)]))
    refine own_ofW (fun tt_ kk_ => XS.astore X102.here hx rfl (hb hby at_43) rfl rfl (l' := #[.val (.int p1), .val (.int p2), .val (.int p3), .val (.int p4), .val (.int (0 : Int32)), .val (.int md), .val (.int cc), .val (.ref b102), .unset, .unset, .unset]) rfl kk_) ?_
    show own_EndsW _ _ _ _ _ _ _ _ (T102.setTop (mkF m 45 #[.val (.int p1), .val (.int p2), .val (.int p3), .val (.int p4), .val (.int (0 : Int32)), .val (.int md), .val (.int cc), .val (.ref b102), .unset, .unset, .unset] []))
    refine own_ofW (fun tt_ kk_ => XS.aload X102.here hx rfl (hb hby at_45) rfl rfl kk_) ?_
    show own_EndsW _ _ _ _ _ _ _ _ (T102.setTop (mkF m 47 #[.val (.int p1), .val (.int p2), .val (.int p3), .val (.int p4), .val (.int (0 : Int32)), .val (.int md), .val (.int cc), .val (.ref b102), .unset, .unset, .unset] [(.ref b102)]))
    obtain ⟨cl103, Ar103, -, S103, N103', -, -⟩ := id Vb102
    refine own_ofW (fun tt_ kk_ => X102.arraylength hx (by rw [e102]; exact Ar103.1) (State.isArrayOf_alike hZ.alike Ar103.2.1) (g := (mkF m 47 #[.val (.int p1), .val (.int p2), .val (.int p3), .val (.int p4), .val (.int (0 : Int32)), .val (.int md), .val (.int cc), .val (.ref b102), .unset, .unset, .unset] [(.ref b102)])) rfl rfl (hb hby at_47) _ kk_) ?_
    rw [len_of S103 N103']
    show own_EndsW _ _ _ _ _ _ _ _ (T102.setTop (mkF m 48 #[.val (.int p1), .val (.int p2), .val (.int p3), .val (.int p4), .val (.int (0 : Int32)), .val (.int md), .val (.int cc), .val (.ref b102), .unset, .unset, .unset] [(.int (9 : Int32))]))
    refine own_ofW (fun tt_ kk_ => XS.istore X102.here hx rfl (hb hby at_48) rfl (l' := #[.val (.int p1), .val (.int p2), .val (.int p3), .val (.int p4), .val (.int (0 : Int32)), .val (.int md), .val (.int cc), .val (.ref b102), .val (.int (9 : Int32)), .unset, .unset]) rfl kk_) ?_
    show own_EndsW _ _ _ _ _ _ _ _ (T102.setTop (mkF m 50 #[.val (.int p1), .val (.int p2), .val (.int p3), .val (.int p4), .val (.int (0 : Int32)), .val (.int md), .val (.int cc), .val (.ref b102), .val (.int (9 : Int32)), .unset, .unset] []))
    refine own_ofW (fun tt_ kk_ => XS.iload X102.here hx rfl (hb hby at_50) rfl  kk_) ?_
    show own_EndsW _ _ _ _ _ _ _ _ (T102.setTop (mkF m 52 #[.val (.int p1), .val (.int p2), .val (.int p3), .val (.int p4), .val (.int (0 : Int32)), .val (.int md), .val (.int cc), .val (.ref b102), .val (.int (9 : Int32)), .unset, .unset] [(.int md)]))
    by_cases hc104 : md = (0 : Int32)
    · refine own_ofW (fun tt_ kk_ => XS.ifNo X102.here hx rfl (hb hby at_52) rfl ((if0 _ _).trans (teq hc104).2) kk_) ?_
      show own_EndsW _ _ _ _ _ _ _ _ (T102.setTop (mkF m 55 #[.val (.int p1), .val (.int p2), .val (.int p3), .val (.int p4), .val (.int (0 : Int32)), .val (.int md), .val (.int cc), .val (.ref b102), .val (.int (9 : Int32)), .unset, .unset] []))
      obtain ⟨T105, h105, X105, e105, E105, A105, D105, -, st105⟩ := newO X102 hx hZ hown (hw _ (List.mem_of_getElem? (i := 5) rfl)) (hw _ (List.mem_of_getElem? (i := 6) rfl)) (hw _ (List.mem_of_getElem? (i := 7) rfl)) e102 (g := (mkF m 55 #[.val (.int p1), .val (.int p2), .val (.int p3), .val (.int p4), .val (.int (0 : Int32)), .val (.int md), .val (.int cc), .val (.ref b102), .val (.int (9 : Int32)), .unset, .unset] [])) rfl (hb hby at_55) (by decide) (by decide)
      obtain ⟨b105, g105⟩ : ∃ z, z = h102.size := ⟨_, rfl⟩
      rw [← g105] at A105 D105 st105
      have ne_b102_b105 : b102 ≠ b105 := Nat.ne_of_lt (Nat.lt_of_lt_of_le Vb102.lt (Nat.le_of_eq g105.symm))
      have sz_b105 : h0.size ≤ b105 := Nat.le_trans K.1 (Nat.le_of_eq g105.symm)
      have g_b105 : n0 ≤ b105 := Nat.le_trans Z0 sz_b105
      have Sf_b105 : Safe Z own_EL s.vm h102 b105 := Safe.new (Nat.le_of_eq g105.symm)
      replace Sf_b105 := Safe.ext E105 HC.1 Sf_b105
      replace hk := Nat.le_trans hk E105.1
      replace HC := HC.trans (CHr.ext E105 HC.1)
      replace OL := OL.ext E105
      replace Vb102 := Vb102.ext E105
      have F_coder_b105 : Fld Z h105 b105 "java/lang/String" "coder" "B" (.int (0 : Int32)) := D105 (Or.inr (hw _ (List.mem_of_getElem? (i := 31) rfl))) (ty := .byte) (by decide)
      have F_value_b105 : Fld Z h105 b105 "java/lang/String" "value" "[B" .null := D105 (Or.inr (hw _ (List.mem_of_getElem? (i := 33) rfl))) (ty := (.array .byte)) (by decide)
      replace K := K.ext E105
      refine own_ofW st105 ?_
      show own_EndsW _ _ _ _ _ _ _ _ (T105.setTop (mkF m 58 #[.val (.int p1), .val (.int p2), .val (.int p3), .val (.int p4), .val (.int (0 : Int32)), .val (.int md), .val (.int cc), .val (.ref b102), .val (.int (9 : Int32)), .unset, .unset] [(.ref b105)]))
      refine own_ofW (fun tt_ kk_ => XS.dup X105.here hx rfl (hb hby at_58) rfl rfl kk_) ?_
      show own_EndsW _ _ _ _ _ _ _ _ (T105.setTop (mkF m 59 #[.val (.int p1), .val (.int p2), .val (.int p3), .val (.int p4), .val (.int (0 : Int32)), .val (.int md), .val (.int cc), .val (.ref b102), .val (.int (9 : Int32)), .unset, .unset] [(.ref b105), (.ref b105)]))
      refine own_ofW (fun tt_ kk_ => XS.aload X105.here hx rfl (hb hby at_59) rfl rfl kk_) ?_
      show own_EndsW _ _ _ _ _ _ _ _ (T105.setTop (mkF m 61 #[.val (.int p1), .val (.int p2), .val (.int p3), .val (.int p4), .val (.int (0 : Int32)), .val (.int md), .val (.int cc), .val (.ref b102), .val (.int (9 : Int32)), .unset, .unset] [(.ref b102), (.ref b105), (.ref b105)]))
      obtain ⟨cs106, ecs106⟩ : ∃ z : List Int32, z = own_EXT := ⟨_, rfl⟩
      have vb106 : own_lat8 cs106 := by rw [ecs106]; exact lat_own_EXT
      have ln106 : cs106.length = 9 := by rw [ecs106]; exact len_own_EXT
      have Vb102' : Arv Z h105 b102 k102 .char (9 : Int32) (cs106.map Value.int) (.int (0 : Int32)) := by rw [ecs106]; exact Vb102
      have ZH106 : n0 ≤ h105.size := Nat.le_trans Z0 K.1
      obtain ⟨_, _, ⟨T106, L106, kk106, nn106⟩, -, X106, ⟨Lc106, Q106, l106, y106, z106⟩, st106⟩ := X105.specialBack hx (y := (⟨"java/lang/String", "<init>", "([C)V"⟩ : MethodName)) rfl hown (mvT hZ (hw _ (List.mem_of_getElem? (i := 8) rfl))) (mvT hZ (hw _ (List.mem_of_getElem? (i := 9) rfl))) (mvT hZ (hw _ (List.mem_of_getElem? (i := 10) rfl))) (by decide) (StrChars.Road.backV (W := 1) hZ hws (kI := 4) (hw _ (List.mem_of_getElem? (i := 6) rfl)) (cs := cs106) (bs := cs106.map StrChars.lo8) (n := 9) g_b105 ZH106 A105 F_value_b105 F_coder_b105 Vb102' (O2.ext OL.2) P3 ln106 rfl (by decide) (by decide) vb106 rfl (by decide) (by decide)) (g := (mkF m 61 #[.val (.int p1), .val (.int p2), .val (.int p3), .val (.int p4), .val (.int (0 : Int32)), .val (.int md), .val (.int cc), .val (.ref b102), .val (.int (9 : Int32)), .unset, .unset] [(.ref b102), (.ref b105), (.ref b105)])) rfl (by rw [hml]; rfl) (Steps.refl _) (a := b105) (argsL := [(.ref b102)]) (rest := [(.ref b105)]) (lenOf pd__AC_r_V rfl) rfl (by show 2 * 0 + _ ≤ _; exact Nat.le_of_eq rfl) (hb hby at_61) (fun _ _ => ⟨rfl, e105, (by decide : 2 + 1 ≤ _), (by decide : 13 + 9 ≤ _)⟩)
      dsimp only [Pt.U, Pt.locs, Pt.cells, Pt.slots] at X106 l106 y106 z106 st106 Q106
      subst l106 y106 z106
      obtain ⟨rfl, Nq106, Kq106, Eq106, Cq106, t106, kb106, g_t106, szz106, nex106, Fq106, Vq106⟩ := Q106
      obtain ⟨h106, eh106⟩ : ∃ z, z = T106.heap := ⟨_, rfl⟩
      rw [← eh106] at Kq106 Eq106 Cq106 Fq106 Vq106
      have e106 := eh106.symm
      have Sf_b105' := Safe.keep Kq106 (sfS Sf_b105 sf0) HC.1 Sf_b105
      replace hk := Nat.le_trans hk Kq106.1
      replace HC := HC.trans (CHr.keep Kq106 (sfS Sf_b105 sf0) HC.1)
      replace Sf_b105 := Sf_b105'
      replace OL := OL.keep Kq106 (allS g_b105 all0)
      replace A105 := A105.keep Kq106
      replace K := K.trans Kq106 (allS (Or.inr sz_b105) all0)
      have N106 := Fr.app N102 Nq106
      refine own_ofW (fun t k => st106.trans k) ?_
      show own_EndsW _ _ _ _ _ _ _ _ (T106.setTop (mkF m 64 #[.val (.int p1), .val (.int p2), .val (.int p3), .val (.int p4), .val (.int (0 : Int32)), .val (.int md), .val (.int cc), .val (.ref b102), .val (.int (9 : Int32)), .unset, .unset] [(.ref b105)]))
      obtain ⟨v107, T107, L107, h107, k107', X107, e107, Q107, hZ, hown, hS, hk, HCq107, st107⟩ := own_staticW X106 hx hZ hown e106 hS hk hEL HC.1 (hw _ (List.mem_of_getElem? (i := 34) rfl)) (hw _ (List.mem_of_getElem? (i := 35) rfl)) (hw _ (List.mem_of_getElem? (i := 36) rfl)) (hw _ (List.mem_of_getElem? (i := 37) rfl)) (by decide) (argsL := [(.ref b105)]) (rest := []) (rm_nlE l Z a0 hw b105 t106 kb106 cs106 (9 : Int32) G1 h106 n0 (Nat.le_trans Z0 K.1) hEL Eq106 Cq106 Fq106 Vq106 (by rw [ln106]; rfl) vb106 (by rw [ln106]; decide) O2 P3 OL ecs106) (g := (mkF m 64 #[.val (.int p1), .val (.int p2), .val (.int p3), .val (.int p4), .val (.int (0 : Int32)), .val (.int md), .val (.int cc), .val (.ref b102), .val (.int (9 : Int32)), .unset, .unset] [(.ref b105)])) rfl (by rw [hml]; rfl) (lenOf pd__Ljava_lang_String__r_Z rfl) rfl (by decide) (Nat.le_of_ble_eq_true rfl) (by decide) (by decide) (hb hby at_64)
      replace HC := HC.trans HCq107
      obtain ⟨rfl, Nq107, Kq107⟩ := Q107
      replace OL := OL.keep Kq107 all0
      replace Eq106 := Eq106.keep Kq107
      replace Cq106 := Cq106.keep Kq107 nin0
      replace Fq106 := Fq106.keep Kq107 nin0
      replace Vq106 := Vq106.keep Kq107 nin0
      replace K := K.trans Kq107 all0
      have N107 := Fr.app N106 Nq107
      refine own_ofW st107 ?_
      show own_EndsW _ _ _ _ _ _ _ _ (T107.setTop (mkF m 67 #[.val (.int p1), .val (.int p2), .val (.int p3), .val (.int p4), .val (.int (0 : Int32)), .val (.int md), .val (.int cc), .val (.ref b102), .val (.int (9 : Int32)), .unset, .unset] [(.int (1 : Int32))]))
      refine own_retNW X107 hx hlk hZ hS e107 hk es hEL HC (t := .boolean) hret (by simp) (z' := (1 : Int32)) rfl (hb hby at_67) (by decide) (by decide) ?_
      exact ⟨rfl, N107⟩
    · refine own_ofW (fun tt_ kk_ => XS.ifYes X102.here hx rfl (pc0 := 52) (pc' := 68) rfl (hb hby at_52) rfl ((if0 _ _).trans (feq hc104).2) (by decide) (by decide) kk_) ?_
      show own_EndsW _ _ _ _ _ _ _ _ (T102.setTop (mkF m 68 #[.val (.int p1), .val (.int p2), .val (.int p3), .val (.int p4), .val (.int (0 : Int32)), .val (.int md), .val (.int cc), .val (.ref b102), .val (.int (9 : Int32)), .unset, .unset] []))
      refine own_ofW (fun tt_ kk_ => XS.iload X102.here hx rfl (hb hby at_68) rfl  kk_) ?_
      show own_EndsW _ _ _ _ _ _ _ _ (T102.setTop (mkF m 70 #[.val (.int p1), .val (.int p2), .val (.int p3), .val (.int p4), .val (.int (0 : Int32)), .val (.int md), .val (.int cc), .val (.ref b102), .val (.int (9 : Int32)), .unset, .unset] [(.int md)]))
      refine own_ofW (fun tt_ kk_ => XS.iconst X102.here hx rfl (hb hby at_70) kk_) ?_
      show own_EndsW _ _ _ _ _ _ _ _ (T102.setTop (mkF m 71 #[.val (.int p1), .val (.int p2), .val (.int p3), .val (.int p4), .val (.int (0 : Int32)), .val (.int md), .val (.int cc), .val (.ref b102), .val (.int (9 : Int32)), .unset, .unset] [(.int (1 : Int32)), (.int md)]))
      by_cases hc108 : md = (1 : Int32)
      · refine own_ofW (fun tt_ kk_ => XS.icmpNo X102.here hx rfl (hb hby at_71) rfl (teq hc108).2 kk_) ?_
        show own_EndsW _ _ _ _ _ _ _ _ (T102.setTop (mkF m 74 #[.val (.int p1), .val (.int p2), .val (.int p3), .val (.int p4), .val (.int (0 : Int32)), .val (.int md), .val (.int cc), .val (.ref b102), .val (.int (9 : Int32)), .unset, .unset] []))
        refine own_ofW (fun tt_ kk_ => XS.iloadN X102.here hx rfl (hb hby at_74) rfl  kk_) ?_
        show own_EndsW _ _ _ _ _ _ _ _ (T102.setTop (mkF m 75 #[.val (.int p1), .val (.int p2), .val (.int p3), .val (.int p4), .val (.int (0 : Int32)), .val (.int md), .val (.int cc), .val (.ref b102), .val (.int (9 : Int32)), .unset, .unset] [(.int p2)]))
        refine own_ofW (fun tt_ kk_ => X102.ldcI hx hown (mvT hZ (hw _ (List.mem_of_getElem? (i := 62) rfl))) (g := (mkF m 75 #[.val (.int p1), .val (.int p2), .val (.int p3), .val (.int p4), .val (.int (0 : Int32)), .val (.int md), .val (.int cc), .val (.ref b102), .val (.int (9 : Int32)), .unset, .unset] [(.int p2)])) rfl (hb hby at_75) kk_) ?_
        show own_EndsW _ _ _ _ _ _ _ _ (T102.setTop (mkF m 77 #[.val (.int p1), .val (.int p2), .val (.int p3), .val (.int p4), .val (.int (0 : Int32)), .val (.int md), .val (.int cc), .val (.ref b102), .val (.int (9 : Int32)), .unset, .unset] [(.int (2147483647 : Int32)), (.int p2)]))
        refine own_ofW (fun tt_ kk_ => XS.iand X102.here hx rfl (hb hby at_77) rfl kk_) ?_
        show own_EndsW _ _ _ _ _ _ _ _ (T102.setTop (mkF m 78 #[.val (.int p1), .val (.int p2), .val (.int p3), .val (.int p4), .val (.int (0 : Int32)), .val (.int md), .val (.int cc), .val (.ref b102), .val (.int (9 : Int32)), .unset, .unset] [(.int (p2 &&& (2147483647 : Int32)))]))
        refine own_ofW (fun tt_ kk_ => XS.iload X102.here hx rfl (hb hby at_78) rfl  kk_) ?_
        show own_EndsW _ _ _ _ _ _ _ _ (T102.setTop (mkF m 80 #[.val (.int p1), .val (.int p2), .val (.int p3), .val (.int p4), .val (.int (0 : Int32)), .val (.int md), .val (.int cc), .val (.ref b102), .val (.int (9 : Int32)), .unset, .unset] [(.int (9 : Int32)), (.int (p2 &&& (2147483647 : Int32)))]))
        refine own_ofW (fun tt_ kk_ => iremM (g := (mkF m 80 #[.val (.int p1), .val (.int p2), .val (.int p3), .val (.int p4), .val (.int (0 : Int32)), .val (.int md), .val (.int cc), .val (.ref b102), .val (.int (9 : Int32)), .unset, .unset] [(.int (9 : Int32)), (.int (p2 &&& (2147483647 : Int32)))])) X102 hx rfl (hb hby at_80) rfl (by decide) kk_) ?_
        show own_EndsW _ _ _ _ _ _ _ _ (T102.setTop (mkF m 81 #[.val (.int p1), .val (.int p2), .val (.int p3), .val (.int p4), .val (.int (0 : Int32)), .val (.int md), .val (.int cc), .val (.ref b102), .val (.int (9 : Int32)), .unset, .unset] [(.int ((p2 &&& (2147483647 : Int32)) % (9 : Int32)))]))
        obtain ⟨pr, hpr⟩ : ∃ z : Int32, z = ((p2 &&& (2147483647 : Int32)) % (9 : Int32)) := ⟨_, rfl⟩
        rw [← hpr]
        obtain ⟨pr_0, pr_n, pk_n⟩ : ¬ pr < 0 ∧ pr < (9 : Int32) ∧ pr.toNatClampNeg < 9 := by rw [hpr]; exact own_rem p2 (9 : Int32) 9 rfl (by decide)
        obtain ⟨pk, hpk⟩ : ∃ z, z = pr.toNatClampNeg := ⟨_, rfl⟩
        rw [← hpk] at pk_n
        show own_EndsW _ _ _ _ _ _ _ _ (T102.setTop (mkF m 81 #[.val (.int p1), .val (.int p2), .val (.int p3), .val (.int p4), .val (.int (0 : Int32)), .val (.int md), .val (.int cc), .val (.ref b102), .val (.int (9 : Int32)), .unset, .unset] [(.int pr)]))
        refine own_ofW (fun tt_ kk_ => XS.istore X102.here hx rfl (hb hby at_81) rfl (l' := #[.val (.int p1), .val (.int p2), .val (.int p3), .val (.int p4), .val (.int (0 : Int32)), .val (.int md), .val (.int cc), .val (.ref b102), .val (.int (9 : Int32)), .val (.int pr), .unset]) rfl kk_) ?_
        show own_EndsW _ _ _ _ _ _ _ _ (T102.setTop (mkF m 83 #[.val (.int p1), .val (.int p2), .val (.int p3), .val (.int p4), .val (.int (0 : Int32)), .val (.int md), .val (.int cc), .val (.ref b102), .val (.int (9 : Int32)), .val (.int pr), .unset] []))
        refine own_ofW (fun tt_ kk_ => XS.aload X102.here hx rfl (hb hby at_83) rfl rfl kk_) ?_
        show own_EndsW _ _ _ _ _ _ _ _ (T102.setTop (mkF m 85 #[.val (.int p1), .val (.int p2), .val (.int p3), .val (.int p4), .val (.int (0 : Int32)), .val (.int md), .val (.int cc), .val (.ref b102), .val (.int (9 : Int32)), .val (.int pr), .unset] [(.ref b102)]))
        refine own_ofW (fun tt_ kk_ => XS.iload X102.here hx rfl (hb hby at_85) rfl  kk_) ?_
        show own_EndsW _ _ _ _ _ _ _ _ (T102.setTop (mkF m 87 #[.val (.int p1), .val (.int p2), .val (.int p3), .val (.int p4), .val (.int (0 : Int32)), .val (.int md), .val (.int cc), .val (.ref b102), .val (.int (9 : Int32)), .val (.int pr), .unset] [(.int pr), (.ref b102)]))
        obtain ⟨cl109, Ar109, q109, S109, N109', H109, G109⟩ := id Vb102
        have hin109 : ¬ (pr < 0 ∨ cl109.slots.size ≤ pr.toNatClampNeg) := inb_of S109 ⟨pr_0, pr_n⟩
        have hat109 : cl109.slots[pr.toNatClampNeg]? = some (.int (own_EXT.getD pk 0)) := H109.at hin109 (by rw [← hpk]; exact own_getD _ _)
        refine own_ofW (fun tt_ kk_ => X102.caload hx (j := pr) (v := (.int (own_EXT.getD pk 0))) (by rw [e102]; exact Ar109.1) (State.isArrayOf_alike hZ.alike Ar109.2.1) Ar109.2.2 hin109 hat109 (g := (mkF m 87 #[.val (.int p1), .val (.int p2), .val (.int p3), .val (.int p4), .val (.int (0 : Int32)), .val (.int md), .val (.int cc), .val (.ref b102), .val (.int (9 : Int32)), .val (.int pr), .unset] [(.int pr), (.ref b102)])) rfl rfl (hb hby at_87) _ kk_) ?_
        show own_EndsW _ _ _ _ _ _ _ _ (T102.setTop (mkF m 88 #[.val (.int p1), .val (.int p2), .val (.int p3), .val (.int p4), .val (.int (0 : Int32)), .val (.int md), .val (.int cc), .val (.ref b102), .val (.int (9 : Int32)), .val (.int pr), .unset] [(.int (own_EXT.getD pk 0))]))
        refine own_ofW (fun tt_ kk_ => XS.iload X102.here hx rfl (hb hby at_88) rfl  kk_) ?_
        show own_EndsW _ _ _ _ _ _ _ _ (T102.setTop (mkF m 90 #[.val (.int p1), .val (.int p2), .val (.int p3), .val (.int p4), .val (.int (0 : Int32)), .val (.int md), .val (.int cc), .val (.ref b102), .val (.int (9 : Int32)), .val (.int pr), .unset] [(.int cc), (.int (own_EXT.getD pk 0))]))
        by_cases hc110 : (own_EXT.getD pk 0) = cc
        · refine own_ofW (fun tt_ kk_ => XS.icmpNo X102.here hx rfl (hb hby at_90) rfl (teq hc110).2 kk_) ?_
          show own_EndsW _ _ _ _ _ _ _ _ (T102.setTop (mkF m 93 #[.val (.int p1), .val (.int p2), .val (.int p3), .val (.int p4), .val (.int (0 : Int32)), .val (.int md), .val (.int cc), .val (.ref b102), .val (.int (9 : Int32)), .val (.int pr), .unset] []))
          refine own_ofW (fun tt_ kk_ => XS.iconst X102.here hx rfl (hb hby at_93) kk_) ?_
          show own_EndsW _ _ _ _ _ _ _ _ (T102.setTop (mkF m 94 #[.val (.int p1), .val (.int p2), .val (.int p3), .val (.int p4), .val (.int (0 : Int32)), .val (.int md), .val (.int cc), .val (.ref b102), .val (.int (9 : Int32)), .val (.int pr), .unset] [(.int (1 : Int32))]))
          refine own_ofW (fun tt_ kk_ => XS.goto X102.here hx rfl (pc0 := 94) (pc' := 98) rfl (hb hby at_94) (by decide) (by decide) kk_) ?_
          show own_EndsW _ _ _ _ _ _ _ _ (T102.setTop (mkF m 98 #[.val (.int p1), .val (.int p2), .val (.int p3), .val (.int p4), .val (.int (0 : Int32)), .val (.int md), .val (.int cc), .val (.ref b102), .val (.int (9 : Int32)), .val (.int pr), .unset] [(.int (1 : Int32))]))
          refine own_ofW (fun tt_ kk_ => XS.istore X102.here hx rfl (hb hby at_98) rfl (l' := #[.val (.int p1), .val (.int p2), .val (.int p3), .val (.int p4), .val (.int (0 : Int32)), .val (.int md), .val (.int cc), .val (.ref b102), .val (.int (9 : Int32)), .val (.int pr), .val (.int (1 : Int32))]) rfl kk_) ?_
          show own_EndsW _ _ _ _ _ _ _ _ (T102.setTop (mkF m 100 #[.val (.int p1), .val (.int p2), .val (.int p3), .val (.int p4), .val (.int (0 : Int32)), .val (.int md), .val (.int cc), .val (.ref b102), .val (.int (9 : Int32)), .val (.int pr), .val (.int (1 : Int32))] []))
          refine own_ofW (fun tt_ kk_ => XS.aload X102.here hx rfl (hb hby at_100) rfl rfl kk_) ?_
          show own_EndsW _ _ _ _ _ _ _ _ (T102.setTop (mkF m 102 #[.val (.int p1), .val (.int p2), .val (.int p3), .val (.int p4), .val (.int (0 : Int32)), .val (.int md), .val (.int cc), .val (.ref b102), .val (.int (9 : Int32)), .val (.int pr), .val (.int (1 : Int32))] [(.ref b102)]))
          refine own_ofW (fun tt_ kk_ => XS.iload X102.here hx rfl (hb hby at_102) rfl  kk_) ?_
          show own_EndsW _ _ _ _ _ _ _ _ (T102.setTop (mkF m 104 #[.val (.int p1), .val (.int p2), .val (.int p3), .val (.int p4), .val (.int (0 : Int32)), .val (.int md), .val (.int cc), .val (.ref b102), .val (.int (9 : Int32)), .val (.int pr), .val (.int (1 : Int32))] [(.int pr), (.ref b102)]))
          refine own_ofW (fun tt_ kk_ => XS.iload X102.here hx rfl (hb hby at_104) rfl  kk_) ?_
          show own_EndsW _ _ _ _ _ _ _ _ (T102.setTop (mkF m 106 #[.val (.int p1), .val (.int p2), .val (.int p3), .val (.int p4), .val (.int (0 : Int32)), .val (.int md), .val (.int cc), .val (.ref b102), .val (.int (9 : Int32)), .val (.int pr), .val (.int (1 : Int32))] [(.int cc), (.int pr), (.ref b102)]))
          obtain ⟨cl111, Ar111, q111, S111, N111', H111, G111⟩ := id Vb102
          have hin111 : ¬ (pr < 0 ∨ cl111.slots.size ≤ (pr).toNatClampNeg) := inb_of S111 ⟨pr_0, pr_n⟩
          obtain ⟨T111, h111, X111, e111, W111, st111⟩ := stC X102 hx hZ e102 Ar111 (j := pr) hin111 (g := (mkF m 106 #[.val (.int p1), .val (.int p2), .val (.int p3), .val (.int p4), .val (.int (0 : Int32)), .val (.int md), .val (.int cc), .val (.ref b102), .val (.int (9 : Int32)), .val (.int pr), .val (.int (1 : Int32))] [(.int cc), (.int pr), (.ref b102)])) rfl rfl (hb hby at_106)
          have V111' : Arv Z h111 b102 k102 .char (9 : Int32) ((own_EXT.set pk (nar .char cc)).map Value.int) (.int (0 : Int32)) := by
            rw [List.map_set]; exact Arv.set Ar111 q111 S111 N111' H111 G111 (fits_nar_char _) W111 pk hpk.symm (by rw [List.length_map, len_own_EXT]; exact pk_n)
          rw [nr_cc] at V111'
          replace hk := Nat.le_trans hk (Keep.of_wr W111).1
          replace HC := HC.trans (CHr.wr W111 (Safe.arv hZ.alike Vb102 (by decide)) HC.1)
          replace OL := OL.wr W111 g_b102
          have N111 := Fr.snoc X111 N102 g_b102
          replace K := K.wr W111 (Or.inr sz_b102)
          refine own_ofW st111 ?_
          show own_EndsW _ _ _ _ _ _ _ _ (T111.setTop (mkF m 107 #[.val (.int p1), .val (.int p2), .val (.int p3), .val (.int p4), .val (.int (0 : Int32)), .val (.int md), .val (.int cc), .val (.ref b102), .val (.int (9 : Int32)), .val (.int pr), .val (.int (1 : Int32))] []))
          obtain ⟨T112, h112, X112, e112, E112, A112, D112, -, st112⟩ := newO X111 hx hZ hown (hw _ (List.mem_of_getElem? (i := 5) rfl)) (hw _ (List.mem_of_getElem? (i := 6) rfl)) (hw _ (List.mem_of_getElem? (i := 7) rfl)) e111 (g := (mkF m 107 #[.val (.int p1), .val (.int p2), .val (.int p3), .val (.int p4), .val (.int (0 : Int32)), .val (.int md), .val (.int cc), .val (.ref b102), .val (.int (9 : Int32)), .val (.int pr), .val (.int (1 : Int32))] [])) rfl (hb hby at_107) (by decide) (by decide)
          obtain ⟨b112, g112⟩ : ∃ z, z = h111.size := ⟨_, rfl⟩
          rw [← g112] at A112 D112 st112
          have ne_b102_b112 : b102 ≠ b112 := Nat.ne_of_lt (Nat.lt_of_lt_of_le V111'.lt (Nat.le_of_eq g112.symm))
          have sz_b112 : h0.size ≤ b112 := Nat.le_trans K.1 (Nat.le_of_eq g112.symm)
          have g_b112 : n0 ≤ b112 := Nat.le_trans Z0 sz_b112
          have Sf_b112 : Safe Z own_EL s.vm h111 b112 := Safe.new (Nat.le_of_eq g112.symm)
          replace Sf_b112 := Safe.ext E112 HC.1 Sf_b112
          replace hk := Nat.le_trans hk E112.1
          replace HC := HC.trans (CHr.ext E112 HC.1)
          replace OL := OL.ext E112
          replace V111' := V111'.ext E112
          have F_coder_b112 : Fld Z h112 b112 "java/lang/String" "coder" "B" (.int (0 : Int32)) := D112 (Or.inr (hw _ (List.mem_of_getElem? (i := 31) rfl))) (ty := .byte) (by decide)
          have F_value_b112 : Fld Z h112 b112 "java/lang/String" "value" "[B" .null := D112 (Or.inr (hw _ (List.mem_of_getElem? (i := 33) rfl))) (ty := (.array .byte)) (by decide)
          replace K := K.ext E112
          refine own_ofW st112 ?_
          show own_EndsW _ _ _ _ _ _ _ _ (T112.setTop (mkF m 110 #[.val (.int p1), .val (.int p2), .val (.int p3), .val (.int p4), .val (.int (0 : Int32)), .val (.int md), .val (.int cc), .val (.ref b102), .val (.int (9 : Int32)), .val (.int pr), .val (.int (1 : Int32))] [(.ref b112)]))
          refine own_ofW (fun tt_ kk_ => XS.dup X112.here hx rfl (hb hby at_110) rfl rfl kk_) ?_
          show own_EndsW _ _ _ _ _ _ _ _ (T112.setTop (mkF m 111 #[.val (.int p1), .val (.int p2), .val (.int p3), .val (.int p4), .val (.int (0 : Int32)), .val (.int md), .val (.int cc), .val (.ref b102), .val (.int (9 : Int32)), .val (.int pr), .val (.int (1 : Int32))] [(.ref b112), (.ref b112)]))
          refine own_ofW (fun tt_ kk_ => XS.aload X112.here hx rfl (hb hby at_111) rfl rfl kk_) ?_
          show own_EndsW _ _ _ _ _ _ _ _ (T112.setTop (mkF m 113 #[.val (.int p1), .val (.int p2), .val (.int p3), .val (.int p4), .val (.int (0 : Int32)), .val (.int md), .val (.int cc), .val (.ref b102), .val (.int (9 : Int32)), .val (.int pr), .val (.int (1 : Int32))] [(.ref b102), (.ref b112), (.ref b112)]))
          obtain ⟨cs113, ecs113⟩ : ∃ z : List Int32, z = (own_EXT.set pk cc) := ⟨_, rfl⟩
          have vb113 : own_lat8 cs113 := by rw [ecs113]; exact (own_setLat lat_own_EXT lat_cc)
          have ln113 : cs113.length = 9 := by rw [ecs113]; exact (List.length_set.trans len_own_EXT)
          have V111'' : Arv Z h112 b102 k102 .char (9 : Int32) (cs113.map Value.int) (.int (0 : Int32)) := by rw [ecs113]; exact V111'
          have ZH113 : n0 ≤ h112.size := Nat.le_trans Z0 K.1
          obtain ⟨_, _, ⟨T113, L113, kk113, nn113⟩, -, X113, ⟨Lc113, Q113, l113, y113, z113⟩, st113⟩ := X112.specialBack hx (y := (⟨"java/lang/String", "<init>", "([C)V"⟩ : MethodName)) rfl hown (mvT hZ (hw _ (List.mem_of_getElem? (i := 8) rfl))) (mvT hZ (hw _ (List.mem_of_getElem? (i := 9) rfl))) (mvT hZ (hw _ (List.mem_of_getElem? (i := 10) rfl))) (by decide) (StrChars.Road.backV (W := 1) hZ hws (kI := 4) (hw _ (List.mem_of_getElem? (i := 6) rfl)) (cs := cs113) (bs := cs113.map StrChars.lo8) (n := 9) g_b112 ZH113 A112 F_value_b112 F_coder_b112 V111'' (O2.ext OL.2) P3 ln113 rfl (by decide) (by decide) vb113 rfl (by decide) (by decide)) (g := (mkF m 113 #[.val (.int p1), .val (.int p2), .val (.int p3), .val (.int p4), .val (.int (0 : Int32)), .val (.int md), .val (.int cc), .val (.ref b102), .val (.int (9 : Int32)), .val (.int pr), .val (.int (1 : Int32))] [(.ref b102), (.ref b112), (.ref b112)])) rfl (by rw [hml]; rfl) (Steps.refl _) (a := b112) (argsL := [(.ref b102)]) (rest := [(.ref b112)]) (lenOf pd__AC_r_V rfl) rfl (by show 2 * 0 + _ ≤ _; exact Nat.le_of_eq rfl) (hb hby at_113) (fun _ _ => ⟨rfl, e112, (by decide : 2 + 1 ≤ _), (by decide : 13 + 9 ≤ _)⟩)
          dsimp only [Pt.U, Pt.locs, Pt.cells, Pt.slots] at X113 l113 y113 z113 st113 Q113
          subst l113 y113 z113
          obtain ⟨rfl, Nq113, Kq113, Eq113, Cq113, t113, kb113, g_t113, szz113, nex113, Fq113, Vq113⟩ := Q113
          obtain ⟨h113, eh113⟩ : ∃ z, z = T113.heap := ⟨_, rfl⟩
          rw [← eh113] at Kq113 Eq113 Cq113 Fq113 Vq113
          have e113 := eh113.symm
          have Sf_b112' := Safe.keep Kq113 (sfS Sf_b112 sf0) HC.1 Sf_b112
          replace hk := Nat.le_trans hk Kq113.1
          replace HC := HC.trans (CHr.keep Kq113 (sfS Sf_b112 sf0) HC.1)
          replace Sf_b112 := Sf_b112'
          replace OL := OL.keep Kq113 (allS g_b112 all0)
          replace A112 := A112.keep Kq113
          replace K := K.trans Kq113 (allS (Or.inr sz_b112) all0)
          have N113 := Fr.app N111 Nq113
          refine own_ofW (fun t k => st113.trans k) ?_
          show own_EndsW _ _ _ _ _ _ _ _ (T113.setTop (mkF m 116 #[.val (.int p1), .val (.int p2), .val (.int p3), .val (.int p4), .val (.int (0 : Int32)), .val (.int md), .val (.int cc), .val (.ref b102), .val (.int (9 : Int32)), .val (.int pr), .val (.int (1 : Int32))] [(.ref b112)]))
          obtain ⟨v114, T114, L114, h114, k114', X114, e114, Q114, hZ, hown, hS, hk, HCq114, st114⟩ := own_staticW X113 hx hZ hown e113 hS hk hEL HC.1 (hw _ (List.mem_of_getElem? (i := 34) rfl)) (hw _ (List.mem_of_getElem? (i := 35) rfl)) (hw _ (List.mem_of_getElem? (i := 36) rfl)) (hw _ (List.mem_of_getElem? (i := 37) rfl)) (by decide) (argsL := [(.ref b112)]) (rest := []) (rm_nlE l Z a0 hw b112 t113 kb113 cs113 (9 : Int32) G1 h113 n0 (Nat.le_trans Z0 K.1) hEL Eq113 Cq113 Fq113 Vq113 (by rw [ln113]; rfl) vb113 (by rw [ln113]; decide) O2 P3 OL (by rw [ecs113]; exact (own_setT (by rw [len_own_EXT]; exact pk_n) hc110))) (g := (mkF m 116 #[.val (.int p1), .val (.int p2), .val (.int p3), .val (.int p4), .val (.int (0 : Int32)), .val (.int md), .val (.int cc), .val (.ref b102), .val (.int (9 : Int32)), .val (.int pr), .val (.int (1 : Int32))] [(.ref b112)])) rfl (by rw [hml]; rfl) (lenOf pd__Ljava_lang_String__r_Z rfl) rfl (by decide) (Nat.le_of_ble_eq_true rfl) (by decide) (by decide) (hb hby at_116)
          replace HC := HC.trans HCq114
          obtain ⟨rfl, Nq114, Kq114⟩ := Q114
          replace OL := OL.keep Kq114 all0
          replace Eq113 := Eq113.keep Kq114
          replace Cq113 := Cq113.keep Kq114 nin0
          replace Fq113 := Fq113.keep Kq114 nin0
          replace Vq113 := Vq113.keep Kq114 nin0
          replace K := K.trans Kq114 all0
          have N114 := Fr.app N113 Nq114
          refine own_ofW st114 ?_
          show own_EndsW _ _ _ _ _ _ _ _ (T114.setTop (mkF m 119 #[.val (.int p1), .val (.int p2), .val (.int p3), .val (.int p4), .val (.int (0 : Int32)), .val (.int md), .val (.int cc), .val (.ref b102), .val (.int (9 : Int32)), .val (.int pr), .val (.int (1 : Int32))] [(.int (1 : Int32))]))
          refine own_ofW (fun tt_ kk_ => XS.iload X114.here hx rfl (hb hby at_119) rfl  kk_) ?_
          show own_EndsW _ _ _ _ _ _ _ _ (T114.setTop (mkF m 121 #[.val (.int p1), .val (.int p2), .val (.int p3), .val (.int p4), .val (.int (0 : Int32)), .val (.int md), .val (.int cc), .val (.ref b102), .val (.int (9 : Int32)), .val (.int pr), .val (.int (1 : Int32))] [(.int (1 : Int32)), (.int (1 : Int32))]))
          refine own_ofW (fun tt_ kk_ => XS.icmpNo X114.here hx rfl (hb hby at_121) rfl (teq (by decide : ((1 : Int32) = (1 : Int32)))).2 kk_) ?_
          show own_EndsW _ _ _ _ _ _ _ _ (T114.setTop (mkF m 124 #[.val (.int p1), .val (.int p2), .val (.int p3), .val (.int p4), .val (.int (0 : Int32)), .val (.int md), .val (.int cc), .val (.ref b102), .val (.int (9 : Int32)), .val (.int pr), .val (.int (1 : Int32))] []))
          refine own_ofW (fun tt_ kk_ => XS.iconst X114.here hx rfl (hb hby at_124) kk_) ?_
          show own_EndsW _ _ _ _ _ _ _ _ (T114.setTop (mkF m 125 #[.val (.int p1), .val (.int p2), .val (.int p3), .val (.int p4), .val (.int (0 : Int32)), .val (.int md), .val (.int cc), .val (.ref b102), .val (.int (9 : Int32)), .val (.int pr), .val (.int (1 : Int32))] [(.int (1 : Int32))]))
          refine own_ofW (fun tt_ kk_ => XS.goto X114.here hx rfl (pc0 := 125) (pc' := 129) rfl (hb hby at_125) (by decide) (by decide) kk_) ?_
          show own_EndsW _ _ _ _ _ _ _ _ (T114.setTop (mkF m 129 #[.val (.int p1), .val (.int p2), .val (.int p3), .val (.int p4), .val (.int (0 : Int32)), .val (.int md), .val (.int cc), .val (.ref b102), .val (.int (9 : Int32)), .val (.int pr), .val (.int (1 : Int32))] [(.int (1 : Int32))]))
          refine own_retNW X114 hx hlk hZ hS e114 hk es hEL HC (t := .boolean) hret (by simp) (z' := (1 : Int32)) rfl (hb hby at_129) (by decide) (by decide) ?_
          exact ⟨rfl, N114⟩
        · refine own_ofW (fun tt_ kk_ => XS.icmpYes X102.here hx rfl (pc0 := 90) (pc' := 97) rfl (hb hby at_90) rfl (feq hc110).2 (by decide) (by decide) kk_) ?_
          show own_EndsW _ _ _ _ _ _ _ _ (T102.setTop (mkF m 97 #[.val (.int p1), .val (.int p2), .val (.int p3), .val (.int p4), .val (.int (0 : Int32)), .val (.int md), .val (.int cc), .val (.ref b102), .val (.int (9 : Int32)), .val (.int pr), .unset] []))
          refine own_ofW (fun tt_ kk_ => XS.iconst X102.here hx rfl (hb hby at_97) kk_) ?_
          show own_EndsW _ _ _ _ _ _ _ _ (T102.setTop (mkF m 98 #[.val (.int p1), .val (.int p2), .val (.int p3), .val (.int p4), .val (.int (0 : Int32)), .val (.int md), .val (.int cc), .val (.ref b102), .val (.int (9 : Int32)), .val (.int pr), .unset] [(.int (0 : Int32))]))
          refine own_ofW (fun tt_ kk_ => XS.istore X102.here hx rfl (hb hby at_98) rfl (l' := #[.val (.int p1), .val (.int p2), .val (.int p3), .val (.int p4), .val (.int (0 : Int32)), .val (.int md), .val (.int cc), .val (.ref b102), .val (.int (9 : Int32)), .val (.int pr), .val (.int (0 : Int32))]) rfl kk_) ?_
          show own_EndsW _ _ _ _ _ _ _ _ (T102.setTop (mkF m 100 #[.val (.int p1), .val (.int p2), .val (.int p3), .val (.int p4), .val (.int (0 : Int32)), .val (.int md), .val (.int cc), .val (.ref b102), .val (.int (9 : Int32)), .val (.int pr), .val (.int (0 : Int32))] []))
          refine own_ofW (fun tt_ kk_ => XS.aload X102.here hx rfl (hb hby at_100) rfl rfl kk_) ?_
          show own_EndsW _ _ _ _ _ _ _ _ (T102.setTop (mkF m 102 #[.val (.int p1), .val (.int p2), .val (.int p3), .val (.int p4), .val (.int (0 : Int32)), .val (.int md), .val (.int cc), .val (.ref b102), .val (.int (9 : Int32)), .val (.int pr), .val (.int (0 : Int32))] [(.ref b102)]))
          refine own_ofW (fun tt_ kk_ => XS.iload X102.here hx rfl (hb hby at_102) rfl  kk_) ?_
          show own_EndsW _ _ _ _ _ _ _ _ (T102.setTop (mkF m 104 #[.val (.int p1), .val (.int p2), .val (.int p3), .val (.int p4), .val (.int (0 : Int32)), .val (.int md), .val (.int cc), .val (.ref b102), .val (.int (9 : Int32)), .val (.int pr), .val (.int (0 : Int32))] [(.int pr), (.ref b102)]))
          refine own_ofW (fun tt_ kk_ => XS.iload X102.here hx rfl (hb hby at_104) rfl  kk_) ?_
          show own_EndsW _ _ _ _ _ _ _ _ (T102.setTop (mkF m 106 #[.val (.int p1), .val (.int p2), .val (.int p3), .val (.int p4), .val (.int (0 : Int32)), .val (.int md), .val (.int cc), .val (.ref b102), .val (.int (9 : Int32)), .val (.int pr), .val (.int (0 : Int32))] [(.int cc), (.int pr), (.ref b102)]))
          obtain ⟨cl115, Ar115, q115, S115, N115', H115, G115⟩ := id Vb102
          have hin115 : ¬ (pr < 0 ∨ cl115.slots.size ≤ (pr).toNatClampNeg) := inb_of S115 ⟨pr_0, pr_n⟩
          obtain ⟨T115, h115, X115, e115, W115, st115⟩ := stC X102 hx hZ e102 Ar115 (j := pr) hin115 (g := (mkF m 106 #[.val (.int p1), .val (.int p2), .val (.int p3), .val (.int p4), .val (.int (0 : Int32)), .val (.int md), .val (.int cc), .val (.ref b102), .val (.int (9 : Int32)), .val (.int pr), .val (.int (0 : Int32))] [(.int cc), (.int pr), (.ref b102)])) rfl rfl (hb hby at_106)
          have V115' : Arv Z h115 b102 k102 .char (9 : Int32) ((own_EXT.set pk (nar .char cc)).map Value.int) (.int (0 : Int32)) := by
            rw [List.map_set]; exact Arv.set Ar115 q115 S115 N115' H115 G115 (fits_nar_char _) W115 pk hpk.symm (by rw [List.length_map, len_own_EXT]; exact pk_n)
          rw [nr_cc] at V115'
          replace hk := Nat.le_trans hk (Keep.of_wr W115).1
          replace HC := HC.trans (CHr.wr W115 (Safe.arv hZ.alike Vb102 (by decide)) HC.1)
          replace OL := OL.wr W115 g_b102
          have N115 := Fr.snoc X115 N102 g_b102
          replace K := K.wr W115 (Or.inr sz_b102)
          refine own_ofW st115 ?_
          show own_EndsW _ _ _ _ _ _ _ _ (T115.setTop (mkF m 107 #[.val (.int p1), .val (.int p2), .val (.int p3), .val (.int p4), .val (.int (0 : Int32)), .val (.int md), .val (.int cc), .val (.ref b102), .val (.int (9 : Int32)), .val (.int pr), .val (.int (0 : Int32))] []))
          obtain ⟨T116, h116, X116, e116, E116, A116, D116, -, st116⟩ := newO X115 hx hZ hown (hw _ (List.mem_of_getElem? (i := 5) rfl)) (hw _ (List.mem_of_getElem? (i := 6) rfl)) (hw _ (List.mem_of_getElem? (i := 7) rfl)) e115 (g := (mkF m 107 #[.val (.int p1), .val (.int p2), .val (.int p3), .val (.int p4), .val (.int (0 : Int32)), .val (.int md), .val (.int cc), .val (.ref b102), .val (.int (9 : Int32)), .val (.int pr), .val (.int (0 : Int32))] [])) rfl (hb hby at_107) (by decide) (by decide)
          obtain ⟨b116, g116⟩ : ∃ z, z = h115.size := ⟨_, rfl⟩
          rw [← g116] at A116 D116 st116
          have ne_b102_b116 : b102 ≠ b116 := Nat.ne_of_lt (Nat.lt_of_lt_of_le V115'.lt (Nat.le_of_eq g116.symm))
          have sz_b116 : h0.size ≤ b116 := Nat.le_trans K.1 (Nat.le_of_eq g116.symm)
          have g_b116 : n0 ≤ b116 := Nat.le_trans Z0 sz_b116
          have Sf_b116 : Safe Z own_EL s.vm h115 b116 := Safe.new (Nat.le_of_eq g116.symm)
          replace Sf_b116 := Safe.ext E116 HC.1 Sf_b116
          replace hk := Nat.le_trans hk E116.1
          replace HC := HC.trans (CHr.ext E116 HC.1)
          replace OL := OL.ext E116
          replace V115' := V115'.ext E116
          have F_coder_b116 : Fld Z h116 b116 "java/lang/String" "coder" "B" (.int (0 : Int32)) := D116 (Or.inr (hw _ (List.mem_of_getElem? (i := 31) rfl))) (ty := .byte) (by decide)
          have F_value_b116 : Fld Z h116 b116 "java/lang/String" "value" "[B" .null := D116 (Or.inr (hw _ (List.mem_of_getElem? (i := 33) rfl))) (ty := (.array .byte)) (by decide)
          replace K := K.ext E116
          refine own_ofW st116 ?_
          show own_EndsW _ _ _ _ _ _ _ _ (T116.setTop (mkF m 110 #[.val (.int p1), .val (.int p2), .val (.int p3), .val (.int p4), .val (.int (0 : Int32)), .val (.int md), .val (.int cc), .val (.ref b102), .val (.int (9 : Int32)), .val (.int pr), .val (.int (0 : Int32))] [(.ref b116)]))
          refine own_ofW (fun tt_ kk_ => XS.dup X116.here hx rfl (hb hby at_110) rfl rfl kk_) ?_
          show own_EndsW _ _ _ _ _ _ _ _ (T116.setTop (mkF m 111 #[.val (.int p1), .val (.int p2), .val (.int p3), .val (.int p4), .val (.int (0 : Int32)), .val (.int md), .val (.int cc), .val (.ref b102), .val (.int (9 : Int32)), .val (.int pr), .val (.int (0 : Int32))] [(.ref b116), (.ref b116)]))
          refine own_ofW (fun tt_ kk_ => XS.aload X116.here hx rfl (hb hby at_111) rfl rfl kk_) ?_
          show own_EndsW _ _ _ _ _ _ _ _ (T116.setTop (mkF m 113 #[.val (.int p1), .val (.int p2), .val (.int p3), .val (.int p4), .val (.int (0 : Int32)), .val (.int md), .val (.int cc), .val (.ref b102), .val (.int (9 : Int32)), .val (.int pr), .val (.int (0 : Int32))] [(.ref b102), (.ref b116), (.ref b116)]))
          obtain ⟨cs117, ecs117⟩ : ∃ z : List Int32, z = (own_EXT.set pk cc) := ⟨_, rfl⟩
          have vb117 : own_lat8 cs117 := by rw [ecs117]; exact (own_setLat lat_own_EXT lat_cc)
          have ln117 : cs117.length = 9 := by rw [ecs117]; exact (List.length_set.trans len_own_EXT)
          have V115'' : Arv Z h116 b102 k102 .char (9 : Int32) (cs117.map Value.int) (.int (0 : Int32)) := by rw [ecs117]; exact V115'
          have ZH117 : n0 ≤ h116.size := Nat.le_trans Z0 K.1
          obtain ⟨_, _, ⟨T117, L117, kk117, nn117⟩, -, X117, ⟨Lc117, Q117, l117, y117, z117⟩, st117⟩ := X116.specialBack hx (y := (⟨"java/lang/String", "<init>", "([C)V"⟩ : MethodName)) rfl hown (mvT hZ (hw _ (List.mem_of_getElem? (i := 8) rfl))) (mvT hZ (hw _ (List.mem_of_getElem? (i := 9) rfl))) (mvT hZ (hw _ (List.mem_of_getElem? (i := 10) rfl))) (by decide) (StrChars.Road.backV (W := 1) hZ hws (kI := 4) (hw _ (List.mem_of_getElem? (i := 6) rfl)) (cs := cs117) (bs := cs117.map StrChars.lo8) (n := 9) g_b116 ZH117 A116 F_value_b116 F_coder_b116 V115'' (O2.ext OL.2) P3 ln117 rfl (by decide) (by decide) vb117 rfl (by decide) (by decide)) (g := (mkF m 113 #[.val (.int p1), .val (.int p2), .val (.int p3), .val (.int p4), .val (.int (0 : Int32)), .val (.int md), .val (.int cc), .val (.ref b102), .val (.int (9 : Int32)), .val (.int pr), .val (.int (0 : Int32))] [(.ref b102), (.ref b116), (.ref b116)])) rfl (by rw [hml]; rfl) (Steps.refl _) (a := b116) (argsL := [(.ref b102)]) (rest := [(.ref b116)]) (lenOf pd__AC_r_V rfl) rfl (by show 2 * 0 + _ ≤ _; exact Nat.le_of_eq rfl) (hb hby at_113) (fun _ _ => ⟨rfl, e116, (by decide : 2 + 1 ≤ _), (by decide : 13 + 9 ≤ _)⟩)
          dsimp only [Pt.U, Pt.locs, Pt.cells, Pt.slots] at X117 l117 y117 z117 st117 Q117
          subst l117 y117 z117
          obtain ⟨rfl, Nq117, Kq117, Eq117, Cq117, t117, kb117, g_t117, szz117, nex117, Fq117, Vq117⟩ := Q117
          obtain ⟨h117, eh117⟩ : ∃ z, z = T117.heap := ⟨_, rfl⟩
          rw [← eh117] at Kq117 Eq117 Cq117 Fq117 Vq117
          have e117 := eh117.symm
          have Sf_b116' := Safe.keep Kq117 (sfS Sf_b116 sf0) HC.1 Sf_b116
          replace hk := Nat.le_trans hk Kq117.1
          replace HC := HC.trans (CHr.keep Kq117 (sfS Sf_b116 sf0) HC.1)
          replace Sf_b116 := Sf_b116'
          replace OL := OL.keep Kq117 (allS g_b116 all0)
          replace A116 := A116.keep Kq117
          replace K := K.trans Kq117 (allS (Or.inr sz_b116) all0)
          have N117 := Fr.app N115 Nq117
          refine own_ofW (fun t k => st117.trans k) ?_
          show own_EndsW _ _ _ _ _ _ _ _ (T117.setTop (mkF m 116 #[.val (.int p1), .val (.int p2), .val (.int p3), .val (.int p4), .val (.int (0 : Int32)), .val (.int md), .val (.int cc), .val (.ref b102), .val (.int (9 : Int32)), .val (.int pr), .val (.int (0 : Int32))] [(.ref b116)]))
          obtain ⟨v118, T118, L118, h118, k118', X118, e118, Q118, hZ, hown, hS, hk, HCq118, st118⟩ := own_staticW X117 hx hZ hown e117 hS hk hEL HC.1 (hw _ (List.mem_of_getElem? (i := 34) rfl)) (hw _ (List.mem_of_getElem? (i := 35) rfl)) (hw _ (List.mem_of_getElem? (i := 36) rfl)) (hw _ (List.mem_of_getElem? (i := 37) rfl)) (by decide) (argsL := [(.ref b116)]) (rest := []) (rm_nlN l Z a0 hw b116 t117 kb117 cs117 (9 : Int32) G1 h117 n0 (Nat.le_trans Z0 K.1) hEL Eq117 Cq117 Fq117 Vq117 (by rw [ln117]; rfl) vb117 (by rw [ln117]; decide) O2 P3 OL (by rw [ecs117]; exact (own_setF (by rw [len_own_EXT]; exact pk_n) hc110)) (by rw [ecs117]; exact (own_neL (List.length_set.trans len_own_EXT) len_own_MOD (by decide)))) (g := (mkF m 116 #[.val (.int p1), .val (.int p2), .val (.int p3), .val (.int p4), .val (.int (0 : Int32)), .val (.int md), .val (.int cc), .val (.ref b102), .val (.int (9 : Int32)), .val (.int pr), .val (.int (0 : Int32))] [(.ref b116)])) rfl (by rw [hml]; rfl) (lenOf pd__Ljava_lang_String__r_Z rfl) rfl (by decide) (Nat.le_of_ble_eq_true rfl) (by decide) (by decide) (hb hby at_116)
          replace HC := HC.trans HCq118
          obtain ⟨rfl, Nq118, Kq118⟩ := Q118
          replace OL := OL.keep Kq118 all0
          replace Eq117 := Eq117.keep Kq118
          replace Cq117 := Cq117.keep Kq118 nin0
          replace Fq117 := Fq117.keep Kq118 nin0
          replace Vq117 := Vq117.keep Kq118 nin0
          replace K := K.trans Kq118 all0
          have N118 := Fr.app N117 Nq118
          refine own_ofW st118 ?_
          show own_EndsW _ _ _ _ _ _ _ _ (T118.setTop (mkF m 119 #[.val (.int p1), .val (.int p2), .val (.int p3), .val (.int p4), .val (.int (0 : Int32)), .val (.int md), .val (.int cc), .val (.ref b102), .val (.int (9 : Int32)), .val (.int pr), .val (.int (0 : Int32))] [(.int (0 : Int32))]))
          refine own_ofW (fun tt_ kk_ => XS.iload X118.here hx rfl (hb hby at_119) rfl  kk_) ?_
          show own_EndsW _ _ _ _ _ _ _ _ (T118.setTop (mkF m 121 #[.val (.int p1), .val (.int p2), .val (.int p3), .val (.int p4), .val (.int (0 : Int32)), .val (.int md), .val (.int cc), .val (.ref b102), .val (.int (9 : Int32)), .val (.int pr), .val (.int (0 : Int32))] [(.int (0 : Int32)), (.int (0 : Int32))]))
          refine own_ofW (fun tt_ kk_ => XS.icmpNo X118.here hx rfl (hb hby at_121) rfl (teq (by decide : ((0 : Int32) = (0 : Int32)))).2 kk_) ?_
          show own_EndsW _ _ _ _ _ _ _ _ (T118.setTop (mkF m 124 #[.val (.int p1), .val (.int p2), .val (.int p3), .val (.int p4), .val (.int (0 : Int32)), .val (.int md), .val (.int cc), .val (.ref b102), .val (.int (9 : Int32)), .val (.int pr), .val (.int (0 : Int32))] []))
          refine own_ofW (fun tt_ kk_ => XS.iconst X118.here hx rfl (hb hby at_124) kk_) ?_
          show own_EndsW _ _ _ _ _ _ _ _ (T118.setTop (mkF m 125 #[.val (.int p1), .val (.int p2), .val (.int p3), .val (.int p4), .val (.int (0 : Int32)), .val (.int md), .val (.int cc), .val (.ref b102), .val (.int (9 : Int32)), .val (.int pr), .val (.int (0 : Int32))] [(.int (1 : Int32))]))
          refine own_ofW (fun tt_ kk_ => XS.goto X118.here hx rfl (pc0 := 125) (pc' := 129) rfl (hb hby at_125) (by decide) (by decide) kk_) ?_
          show own_EndsW _ _ _ _ _ _ _ _ (T118.setTop (mkF m 129 #[.val (.int p1), .val (.int p2), .val (.int p3), .val (.int p4), .val (.int (0 : Int32)), .val (.int md), .val (.int cc), .val (.ref b102), .val (.int (9 : Int32)), .val (.int pr), .val (.int (0 : Int32))] [(.int (1 : Int32))]))
          refine own_retNW X118 hx hlk hZ hS e118 hk es hEL HC (t := .boolean) hret (by simp) (z' := (1 : Int32)) rfl (hb hby at_129) (by decide) (by decide) ?_
          exact ⟨rfl, N118⟩
      · refine own_ofW (fun tt_ kk_ => XS.icmpYes X102.here hx rfl (pc0 := 71) (pc' := 130) rfl (hb hby at_71) rfl (feq hc108).2 (by decide) (by decide) kk_) ?_
        show own_EndsW _ _ _ _ _ _ _ _ (T102.setTop (mkF m 130 #[.val (.int p1), .val (.int p2), .val (.int p3), .val (.int p4), .val (.int (0 : Int32)), .val (.int md), .val (.int cc), .val (.ref b102), .val (.int (9 : Int32)), .unset, .unset] []))
        refine own_ofW (fun tt_ kk_ => XS.iload X102.here hx rfl (hb hby at_130) rfl  kk_) ?_
        show own_EndsW _ _ _ _ _ _ _ _ (T102.setTop (mkF m 132 #[.val (.int p1), .val (.int p2), .val (.int p3), .val (.int p4), .val (.int (0 : Int32)), .val (.int md), .val (.int cc), .val (.ref b102), .val (.int (9 : Int32)), .unset, .unset] [(.int md)]))
        refine own_ofW (fun tt_ kk_ => XS.iconst X102.here hx rfl (hb hby at_132) kk_) ?_
        show own_EndsW _ _ _ _ _ _ _ _ (T102.setTop (mkF m 133 #[.val (.int p1), .val (.int p2), .val (.int p3), .val (.int p4), .val (.int (0 : Int32)), .val (.int md), .val (.int cc), .val (.ref b102), .val (.int (9 : Int32)), .unset, .unset] [(.int (2 : Int32)), (.int md)]))
        by_cases hc119 : md = (2 : Int32)
        · refine own_ofW (fun tt_ kk_ => XS.icmpNo X102.here hx rfl (hb hby at_133) rfl (teq hc119).2 kk_) ?_
          show own_EndsW _ _ _ _ _ _ _ _ (T102.setTop (mkF m 136 #[.val (.int p1), .val (.int p2), .val (.int p3), .val (.int p4), .val (.int (0 : Int32)), .val (.int md), .val (.int cc), .val (.ref b102), .val (.int (9 : Int32)), .unset, .unset] []))
          refine own_ofW (fun tt_ kk_ => XS.iload X102.here hx rfl (hb hby at_136) rfl  kk_) ?_
          show own_EndsW _ _ _ _ _ _ _ _ (T102.setTop (mkF m 138 #[.val (.int p1), .val (.int p2), .val (.int p3), .val (.int p4), .val (.int (0 : Int32)), .val (.int md), .val (.int cc), .val (.ref b102), .val (.int (9 : Int32)), .unset, .unset] [(.int (0 : Int32))]))
          refine own_ofW (fun tt_ kk_ => XS.ifYes X102.here hx rfl (pc0 := 138) (pc' := 147) rfl (hb hby at_138) rfl ((if0 _ _).trans (teq (by decide : ((0 : Int32) = (0 : Int32)))).1) (by decide) (by decide) kk_) ?_
          show own_EndsW _ _ _ _ _ _ _ _ (T102.setTop (mkF m 147 #[.val (.int p1), .val (.int p2), .val (.int p3), .val (.int p4), .val (.int (0 : Int32)), .val (.int md), .val (.int cc), .val (.ref b102), .val (.int (9 : Int32)), .unset, .unset] []))
          obtain ⟨v120, T120, L120, h120, X120, e120, Q120, st120⟩ := own_static X102 hx hZ hown e102 (hw _ (List.mem_of_getElem? (i := 63) rfl)) (hw _ (List.mem_of_getElem? (i := 64) rfl)) (hw _ (List.mem_of_getElem? (i := 2) rfl)) (hw _ (List.mem_of_getElem? (i := 65) rfl)) (by decide) (argsL := []) (rest := []) (rm_extPlus l Z a0 hw h102 n0 (Nat.le_trans Z0 K.1)) (g := (mkF m 147 #[.val (.int p1), .val (.int p2), .val (.int p3), .val (.int p4), .val (.int (0 : Int32)), .val (.int md), .val (.int cc), .val (.ref b102), .val (.int (9 : Int32)), .unset, .unset] [])) rfl (by rw [hml]; rfl) (lenOf pd___r_AC rfl) rfl (by decide) (Nat.le_of_ble_eq_true rfl) (by decide) (by decide) (hb hby at_147)
          obtain ⟨b120, k120, rfl, Nq120, Kq120, szq_b120, Vb120⟩ := Q120
          have ne_b102_b120 : b102 ≠ b120 := Nat.ne_of_lt (Nat.lt_of_lt_of_le Vb102.lt szq_b120)
          have sz_b120 : h0.size ≤ b120 := Nat.le_trans K.1 szq_b120
          have g_b120 : n0 ≤ b120 := Nat.le_trans Z0 sz_b120
          replace hk := Nat.le_trans hk Kq120.1
          replace HC := HC.trans (CHr.keep Kq120 sf0 HC.1)
          replace OL := OL.keep Kq120 all0
          replace Vb102 := Vb102.keep Kq120 nin0
          replace K := K.trans Kq120 all0
          have N120 := Fr.app N102 Nq120
          refine own_ofW st120 ?_
          show own_EndsW _ _ _ _ _ _ _ _ (T120.setTop (mkF m 150 #[.val (.int p1), .val (.int p2), .val (.int p3), .val (.int p4), .val (.int (0 : Int32)), .val (.int md), .val (.int cc), .val (.ref b102), .val (.int (9 : Int32)), .unset, .unset] [(.ref b120)]))
          refine own_ofW (fun tt_ kk_ => XS.astore X120.here hx rfl (hb hby at_150) rfl rfl (l' := #[.val (.int p1), .val (.int p2), .val (.int p3), .val (.int p4), .val (.int (0 : Int32)), .val (.int md), .val (.int cc), .val (.ref b102), .val (.int (9 : Int32)), .val (.ref b120), .unset]) rfl kk_) ?_
          show own_EndsW _ _ _ _ _ _ _ _ (T120.setTop (mkF m 152 #[.val (.int p1), .val (.int p2), .val (.int p3), .val (.int p4), .val (.int (0 : Int32)), .val (.int md), .val (.int cc), .val (.ref b102), .val (.int (9 : Int32)), .val (.ref b120), .unset] []))
          refine own_ofW (fun tt_ kk_ => XS.aload X120.here hx rfl (hb hby at_152) rfl rfl kk_) ?_
          show own_EndsW _ _ _ _ _ _ _ _ (T120.setTop (mkF m 154 #[.val (.int p1), .val (.int p2), .val (.int p3), .val (.int p4), .val (.int (0 : Int32)), .val (.int md), .val (.int cc), .val (.ref b102), .val (.int (9 : Int32)), .val (.ref b120), .unset] [(.ref b120)]))
          refine own_ofW (fun tt_ kk_ => XS.iload X120.here hx rfl (hb hby at_154) rfl  kk_) ?_
          show own_EndsW _ _ _ _ _ _ _ _ (T120.setTop (mkF m 156 #[.val (.int p1), .val (.int p2), .val (.int p3), .val (.int p4), .val (.int (0 : Int32)), .val (.int md), .val (.int cc), .val (.ref b102), .val (.int (9 : Int32)), .val (.ref b120), .unset] [(.int (9 : Int32)), (.ref b120)]))
          refine own_ofW (fun tt_ kk_ => XS.iload X120.here hx rfl (hb hby at_156) rfl  kk_) ?_
          show own_EndsW _ _ _ _ _ _ _ _ (T120.setTop (mkF m 158 #[.val (.int p1), .val (.int p2), .val (.int p3), .val (.int p4), .val (.int (0 : Int32)), .val (.int md), .val (.int cc), .val (.ref b102), .val (.int (9 : Int32)), .val (.ref b120), .unset] [(.int cc), (.int (9 : Int32)), (.ref b120)]))
          obtain ⟨cl121, Ar121, q121, S121, N121', H121, G121⟩ := id Vb120
          have hin121 : ¬ ((9 : Int32) < 0 ∨ cl121.slots.size ≤ ((9 : Int32)).toNatClampNeg) := inb_of S121 ⟨by decide, by decide⟩
          obtain ⟨T121, h121, X121, e121, W121, st121⟩ := stC X120 hx hZ e120 Ar121 (j := (9 : Int32)) hin121 (g := (mkF m 158 #[.val (.int p1), .val (.int p2), .val (.int p3), .val (.int p4), .val (.int (0 : Int32)), .val (.int md), .val (.int cc), .val (.ref b102), .val (.int (9 : Int32)), .val (.ref b120), .unset] [(.int cc), (.int (9 : Int32)), (.ref b120)])) rfl rfl (hb hby at_158)
          have V121' : Arv Z h121 b120 k120 .char (10 : Int32) ((own_EXTP.set 9 (nar .char cc)).map Value.int) (.int (0 : Int32)) := by
            rw [List.map_set]; exact Arv.set Ar121 q121 S121 N121' H121 G121 (fits_nar_char _) W121 9 rfl (by rw [List.length_map, len_own_EXTP]; decide)
          rw [nr_cc] at V121'
          replace hk := Nat.le_trans hk (Keep.of_wr W121).1
          replace HC := HC.trans (CHr.wr W121 (Safe.arv hZ.alike Vb120 (by decide)) HC.1)
          replace OL := OL.wr W121 g_b120
          replace Vb102 := Vb102.other W121 ne_b102_b120
          have N121 := Fr.snoc X121 N120 g_b120
          replace K := K.wr W121 (Or.inr sz_b120)
          refine own_ofW st121 ?_
          show own_EndsW _ _ _ _ _ _ _ _ (T121.setTop (mkF m 159 #[.val (.int p1), .val (.int p2), .val (.int p3), .val (.int p4), .val (.int (0 : Int32)), .val (.int md), .val (.int cc), .val (.ref b102), .val (.int (9 : Int32)), .val (.ref b120), .unset] []))
          obtain ⟨T122, h122, X122, e122, E122, A122, D122, -, st122⟩ := newO X121 hx hZ hown (hw _ (List.mem_of_getElem? (i := 5) rfl)) (hw _ (List.mem_of_getElem? (i := 6) rfl)) (hw _ (List.mem_of_getElem? (i := 7) rfl)) e121 (g := (mkF m 159 #[.val (.int p1), .val (.int p2), .val (.int p3), .val (.int p4), .val (.int (0 : Int32)), .val (.int md), .val (.int cc), .val (.ref b102), .val (.int (9 : Int32)), .val (.ref b120), .unset] [])) rfl (hb hby at_159) (by decide) (by decide)
          obtain ⟨b122, g122⟩ : ∃ z, z = h121.size := ⟨_, rfl⟩
          rw [← g122] at A122 D122 st122
          have ne_b102_b122 : b102 ≠ b122 := Nat.ne_of_lt (Nat.lt_of_lt_of_le Vb102.lt (Nat.le_of_eq g122.symm))
          have ne_b120_b122 : b120 ≠ b122 := Nat.ne_of_lt (Nat.lt_of_lt_of_le V121'.lt (Nat.le_of_eq g122.symm))
          have sz_b122 : h0.size ≤ b122 := Nat.le_trans K.1 (Nat.le_of_eq g122.symm)
          have g_b122 : n0 ≤ b122 := Nat.le_trans Z0 sz_b122
          have Sf_b122 : Safe Z own_EL s.vm h121 b122 := Safe.new (Nat.le_of_eq g122.symm)
          replace Sf_b122 := Safe.ext E122 HC.1 Sf_b122
          replace hk := Nat.le_trans hk E122.1
          replace HC := HC.trans (CHr.ext E122 HC.1)
          replace OL := OL.ext E122
          replace Vb102 := Vb102.ext E122
          replace V121' := V121'.ext E122
          have F_coder_b122 : Fld Z h122 b122 "java/lang/String" "coder" "B" (.int (0 : Int32)) := D122 (Or.inr (hw _ (List.mem_of_getElem? (i := 31) rfl))) (ty := .byte) (by decide)
          have F_value_b122 : Fld Z h122 b122 "java/lang/String" "value" "[B" .null := D122 (Or.inr (hw _ (List.mem_of_getElem? (i := 33) rfl))) (ty := (.array .byte)) (by decide)
          replace K := K.ext E122
          refine own_ofW st122 ?_
          show own_EndsW _ _ _ _ _ _ _ _ (T122.setTop (mkF m 162 #[.val (.int p1), .val (.int p2), .val (.int p3), .val (.int p4), .val (.int (0 : Int32)), .val (.int md), .val (.int cc), .val (.ref b102), .val (.int (9 : Int32)), .val (.ref b120), .unset] [(.ref b122)]))
          refine own_ofW (fun tt_ kk_ => XS.dup X122.here hx rfl (hb hby at_162) rfl rfl kk_) ?_
          show own_EndsW _ _ _ _ _ _ _ _ (T122.setTop (mkF m 163 #[.val (.int p1), .val (.int p2), .val (.int p3), .val (.int p4), .val (.int (0 : Int32)), .val (.int md), .val (.int cc), .val (.ref b102), .val (.int (9 : Int32)), .val (.ref b120), .unset] [(.ref b122), (.ref b122)]))
          refine own_ofW (fun tt_ kk_ => XS.aload X122.here hx rfl (hb hby at_163) rfl rfl kk_) ?_
          show own_EndsW _ _ _ _ _ _ _ _ (T122.setTop (mkF m 165 #[.val (.int p1), .val (.int p2), .val (.int p3), .val (.int p4), .val (.int (0 : Int32)), .val (.int md), .val (.int cc), .val (.ref b102), .val (.int (9 : Int32)), .val (.ref b120), .unset] [(.ref b120), (.ref b122), (.ref b122)]))
          obtain ⟨cs123, ecs123⟩ : ∃ z : List Int32, z = (own_EXTP.set 9 cc) := ⟨_, rfl⟩
          have vb123 : own_lat8 cs123 := by rw [ecs123]; exact (own_setLat lat_own_EXTP lat_cc)
          have ln123 : cs123.length = 10 := by rw [ecs123]; exact (List.length_set.trans len_own_EXTP)
          have V121'' : Arv Z h122 b120 k120 .char (10 : Int32) (cs123.map Value.int) (.int (0 : Int32)) := by rw [ecs123]; exact V121'
          have ZH123 : n0 ≤ h122.size := Nat.le_trans Z0 K.1
          obtain ⟨_, _, ⟨T123, L123, kk123, nn123⟩, -, X123, ⟨Lc123, Q123, l123, y123, z123⟩, st123⟩ := X122.specialBack hx (y := (⟨"java/lang/String", "<init>", "([C)V"⟩ : MethodName)) rfl hown (mvT hZ (hw _ (List.mem_of_getElem? (i := 8) rfl))) (mvT hZ (hw _ (List.mem_of_getElem? (i := 9) rfl))) (mvT hZ (hw _ (List.mem_of_getElem? (i := 10) rfl))) (by decide) (StrChars.Road.backV (W := 1) hZ hws (kI := 4) (hw _ (List.mem_of_getElem? (i := 6) rfl)) (cs := cs123) (bs := cs123.map StrChars.lo8) (n := 10) g_b122 ZH123 A122 F_value_b122 F_coder_b122 V121'' (O2.ext OL.2) P3 ln123 rfl (by decide) (by decide) vb123 rfl (by decide) (by decide)) (g := (mkF m 165 #[.val (.int p1), .val (.int p2), .val (.int p3), .val (.int p4), .val (.int (0 : Int32)), .val (.int md), .val (.int cc), .val (.ref b102), .val (.int (9 : Int32)), .val (.ref b120), .unset] [(.ref b120), (.ref b122), (.ref b122)])) rfl (by rw [hml]; rfl) (Steps.refl _) (a := b122) (argsL := [(.ref b120)]) (rest := [(.ref b122)]) (lenOf pd__AC_r_V rfl) rfl (by show 2 * 0 + _ ≤ _; exact Nat.le_of_eq rfl) (hb hby at_165) (fun _ _ => ⟨rfl, e122, (by decide : 3 + 1 ≤ _), (by decide : 23 + 10 ≤ _)⟩)
          dsimp only [Pt.U, Pt.locs, Pt.cells, Pt.slots] at X123 l123 y123 z123 st123 Q123
          subst l123 y123 z123
          obtain ⟨rfl, Nq123, Kq123, Eq123, Cq123, t123, kb123, g_t123, szz123, nex123, Fq123, Vq123⟩ := Q123
          obtain ⟨h123, eh123⟩ : ∃ z, z = T123.heap := ⟨_, rfl⟩
          rw [← eh123] at Kq123 Eq123 Cq123 Fq123 Vq123
          have e123 := eh123.symm
          have Sf_b122' := Safe.keep Kq123 (sfS Sf_b122 sf0) HC.1 Sf_b122
          replace hk := Nat.le_trans hk Kq123.1
          replace HC := HC.trans (CHr.keep Kq123 (sfS Sf_b122 sf0) HC.1)
          replace Sf_b122 := Sf_b122'
          replace OL := OL.keep Kq123 (allS g_b122 all0)
          replace Vb102 := Vb102.keep Kq123 (ninS ne_b102_b122 nin0)
          replace A122 := A122.keep Kq123
          replace K := K.trans Kq123 (allS (Or.inr sz_b122) all0)
          have N123 := Fr.app N121 Nq123
          refine own_ofW (fun t k => st123.trans k) ?_
          show own_EndsW _ _ _ _ _ _ _ _ (T123.setTop (mkF m 168 #[.val (.int p1), .val (.int p2), .val (.int p3), .val (.int p4), .val (.int (0 : Int32)), .val (.int md), .val (.int cc), .val (.ref b102), .val (.int (9 : Int32)), .val (.ref b120), .unset] [(.ref b122)]))
          obtain ⟨v124, T124, L124, h124, k124', X124, e124, Q124, hZ, hown, hS, hk, HCq124, st124⟩ := own_staticW X123 hx hZ hown e123 hS hk hEL HC.1 (hw _ (List.mem_of_getElem? (i := 34) rfl)) (hw _ (List.mem_of_getElem? (i := 35) rfl)) (hw _ (List.mem_of_getElem? (i := 36) rfl)) (hw _ (List.mem_of_getElem? (i := 37) rfl)) (by decide) (argsL := [(.ref b122)]) (rest := []) (rm_nlN l Z a0 hw b122 t123 kb123 cs123 (10 : Int32) G1 h123 n0 (Nat.le_trans Z0 K.1) hEL Eq123 Cq123 Fq123 Vq123 (by rw [ln123]; rfl) vb123 (by rw [ln123]; decide) O2 P3 OL (by rw [ecs123]; exact (own_neL (List.length_set.trans len_own_EXTP) len_own_EXT (by decide))) (by rw [ecs123]; exact (own_neL (List.length_set.trans len_own_EXTP) len_own_MOD (by decide)))) (g := (mkF m 168 #[.val (.int p1), .val (.int p2), .val (.int p3), .val (.int p4), .val (.int (0 : Int32)), .val (.int md), .val (.int cc), .val (.ref b102), .val (.int (9 : Int32)), .val (.ref b120), .unset] [(.ref b122)])) rfl (by rw [hml]; rfl) (lenOf pd__Ljava_lang_String__r_Z rfl) rfl (by decide) (Nat.le_of_ble_eq_true rfl) (by decide) (by decide) (hb hby at_168)
          replace HC := HC.trans HCq124
          obtain ⟨rfl, Nq124, Kq124⟩ := Q124
          replace OL := OL.keep Kq124 all0
          replace Vb102 := Vb102.keep Kq124 nin0
          replace Eq123 := Eq123.keep Kq124
          replace Cq123 := Cq123.keep Kq124 nin0
          replace Fq123 := Fq123.keep Kq124 nin0
          replace Vq123 := Vq123.keep Kq124 nin0
          replace K := K.trans Kq124 all0
          have N124 := Fr.app N123 Nq124
          refine own_ofW st124 ?_
          show own_EndsW _ _ _ _ _ _ _ _ (T124.setTop (mkF m 171 #[.val (.int p1), .val (.int p2), .val (.int p3), .val (.int p4), .val (.int (0 : Int32)), .val (.int md), .val (.int cc), .val (.ref b102), .val (.int (9 : Int32)), .val (.ref b120), .unset] [(.int (0 : Int32))]))
          refine own_ofW (fun tt_ kk_ => XS.ifNo X124.here hx rfl (hb hby at_171) rfl ((if0 _ _).trans (teq (by decide : ((0 : Int32) = (0 : Int32)))).2) kk_) ?_
          show own_EndsW _ _ _ _ _ _ _ _ (T124.setTop (mkF m 174 #[.val (.int p1), .val (.int p2), .val (.int p3), .val (.int p4), .val (.int (0 : Int32)), .val (.int md), .val (.int cc), .val (.ref b102), .val (.int (9 : Int32)), .val (.ref b120), .unset] []))
          refine own_ofW (fun tt_ kk_ => XS.iconst X124.here hx rfl (hb hby at_174) kk_) ?_
          show own_EndsW _ _ _ _ _ _ _ _ (T124.setTop (mkF m 175 #[.val (.int p1), .val (.int p2), .val (.int p3), .val (.int p4), .val (.int (0 : Int32)), .val (.int md), .val (.int cc), .val (.ref b102), .val (.int (9 : Int32)), .val (.ref b120), .unset] [(.int (1 : Int32))]))
          refine own_ofW (fun tt_ kk_ => XS.goto X124.here hx rfl (pc0 := 175) (pc' := 179) rfl (hb hby at_175) (by decide) (by decide) kk_) ?_
          show own_EndsW _ _ _ _ _ _ _ _ (T124.setTop (mkF m 179 #[.val (.int p1), .val (.int p2), .val (.int p3), .val (.int p4), .val (.int (0 : Int32)), .val (.int md), .val (.int cc), .val (.ref b102), .val (.int (9 : Int32)), .val (.ref b120), .unset] [(.int (1 : Int32))]))
          refine own_retNW X124 hx hlk hZ hS e124 hk es hEL HC (t := .boolean) hret (by simp) (z' := (1 : Int32)) rfl (hb hby at_179) (by decide) (by decide) ?_
          exact ⟨rfl, N124⟩
        · refine own_ofW (fun tt_ kk_ => XS.icmpYes X102.here hx rfl (pc0 := 133) (pc' := 180) rfl (hb hby at_133) rfl (feq hc119).2 (by decide) (by decide) kk_) ?_
          show own_EndsW _ _ _ _ _ _ _ _ (T102.setTop (mkF m 180 #[.val (.int p1), .val (.int p2), .val (.int p3), .val (.int p4), .val (.int (0 : Int32)), .val (.int md), .val (.int cc), .val (.ref b102), .val (.int (9 : Int32)), .unset, .unset] []))
          refine own_ofW (fun tt_ kk_ => XS.iload X102.here hx rfl (hb hby at_180) rfl  kk_) ?_
          show own_EndsW _ _ _ _ _ _ _ _ (T102.setTop (mkF m 182 #[.val (.int p1), .val (.int p2), .val (.int p3), .val (.int p4), .val (.int (0 : Int32)), .val (.int md), .val (.int cc), .val (.ref b102), .val (.int (9 : Int32)), .unset, .unset] [(.int md)]))
          refine own_ofW (fun tt_ kk_ => XS.iconst X102.here hx rfl (hb hby at_182) kk_) ?_
          show own_EndsW _ _ _ _ _ _ _ _ (T102.setTop (mkF m 183 #[.val (.int p1), .val (.int p2), .val (.int p3), .val (.int p4), .val (.int (0 : Int32)), .val (.int md), .val (.int cc), .val (.ref b102), .val (.int (9 : Int32)), .unset, .unset] [(.int (3 : Int32)), (.int md)]))
          by_cases hc125 : md = (3 : Int32)
          · refine own_ofW (fun tt_ kk_ => XS.icmpNo X102.here hx rfl (hb hby at_183) rfl (teq hc125).2 kk_) ?_
            show own_EndsW _ _ _ _ _ _ _ _ (T102.setTop (mkF m 186 #[.val (.int p1), .val (.int p2), .val (.int p3), .val (.int p4), .val (.int (0 : Int32)), .val (.int md), .val (.int cc), .val (.ref b102), .val (.int (9 : Int32)), .unset, .unset] []))
            refine own_ofW (fun tt_ kk_ => XS.iloadN X102.here hx rfl (hb hby at_186) rfl  kk_) ?_
            show own_EndsW _ _ _ _ _ _ _ _ (T102.setTop (mkF m 187 #[.val (.int p1), .val (.int p2), .val (.int p3), .val (.int p4), .val (.int (0 : Int32)), .val (.int md), .val (.int cc), .val (.ref b102), .val (.int (9 : Int32)), .unset, .unset] [(.int p2)]))
            refine own_ofW (fun tt_ kk_ => X102.ldcI hx hown (mvT hZ (hw _ (List.mem_of_getElem? (i := 62) rfl))) (g := (mkF m 187 #[.val (.int p1), .val (.int p2), .val (.int p3), .val (.int p4), .val (.int (0 : Int32)), .val (.int md), .val (.int cc), .val (.ref b102), .val (.int (9 : Int32)), .unset, .unset] [(.int p2)])) rfl (hb hby at_187) kk_) ?_
            show own_EndsW _ _ _ _ _ _ _ _ (T102.setTop (mkF m 189 #[.val (.int p1), .val (.int p2), .val (.int p3), .val (.int p4), .val (.int (0 : Int32)), .val (.int md), .val (.int cc), .val (.ref b102), .val (.int (9 : Int32)), .unset, .unset] [(.int (2147483647 : Int32)), (.int p2)]))
            refine own_ofW (fun tt_ kk_ => XS.iand X102.here hx rfl (hb hby at_189) rfl kk_) ?_
            show own_EndsW _ _ _ _ _ _ _ _ (T102.setTop (mkF m 190 #[.val (.int p1), .val (.int p2), .val (.int p3), .val (.int p4), .val (.int (0 : Int32)), .val (.int md), .val (.int cc), .val (.ref b102), .val (.int (9 : Int32)), .unset, .unset] [(.int (p2 &&& (2147483647 : Int32)))]))
            refine own_ofW (fun tt_ kk_ => XS.iload X102.here hx rfl (hb hby at_190) rfl  kk_) ?_
            show own_EndsW _ _ _ _ _ _ _ _ (T102.setTop (mkF m 192 #[.val (.int p1), .val (.int p2), .val (.int p3), .val (.int p4), .val (.int (0 : Int32)), .val (.int md), .val (.int cc), .val (.ref b102), .val (.int (9 : Int32)), .unset, .unset] [(.int (9 : Int32)), (.int (p2 &&& (2147483647 : Int32)))]))
            refine own_ofW (fun tt_ kk_ => iremM (g := (mkF m 192 #[.val (.int p1), .val (.int p2), .val (.int p3), .val (.int p4), .val (.int (0 : Int32)), .val (.int md), .val (.int cc), .val (.ref b102), .val (.int (9 : Int32)), .unset, .unset] [(.int (9 : Int32)), (.int (p2 &&& (2147483647 : Int32)))])) X102 hx rfl (hb hby at_192) rfl (by decide) kk_) ?_
            show own_EndsW _ _ _ _ _ _ _ _ (T102.setTop (mkF m 193 #[.val (.int p1), .val (.int p2), .val (.int p3), .val (.int p4), .val (.int (0 : Int32)), .val (.int md), .val (.int cc), .val (.ref b102), .val (.int (9 : Int32)), .unset, .unset] [(.int ((p2 &&& (2147483647 : Int32)) % (9 : Int32)))]))
            obtain ⟨pr, hpr⟩ : ∃ z : Int32, z = ((p2 &&& (2147483647 : Int32)) % (9 : Int32)) := ⟨_, rfl⟩
            rw [← hpr]
            obtain ⟨pr_0, pr_n, pk_n⟩ : ¬ pr < 0 ∧ pr < (9 : Int32) ∧ pr.toNatClampNeg < 9 := by rw [hpr]; exact own_rem p2 (9 : Int32) 9 rfl (by decide)
            obtain ⟨pk, hpk⟩ : ∃ z, z = pr.toNatClampNeg := ⟨_, rfl⟩
            rw [← hpk] at pk_n
            show own_EndsW _ _ _ _ _ _ _ _ (T102.setTop (mkF m 193 #[.val (.int p1), .val (.int p2), .val (.int p3), .val (.int p4), .val (.int (0 : Int32)), .val (.int md), .val (.int cc), .val (.ref b102), .val (.int (9 : Int32)), .unset, .unset] [(.int pr)]))
            refine own_ofW (fun tt_ kk_ => XS.istore X102.here hx rfl (hb hby at_193) rfl (l' := #[.val (.int p1), .val (.int p2), .val (.int p3), .val (.int p4), .val (.int (0 : Int32)), .val (.int md), .val (.int cc), .val (.ref b102), .val (.int (9 : Int32)), .val (.int pr), .unset]) rfl kk_) ?_
            show own_EndsW _ _ _ _ _ _ _ _ (T102.setTop (mkF m 195 #[.val (.int p1), .val (.int p2), .val (.int p3), .val (.int p4), .val (.int (0 : Int32)), .val (.int md), .val (.int cc), .val (.ref b102), .val (.int (9 : Int32)), .val (.int pr), .unset] []))
            refine own_ofW (fun tt_ kk_ => XS.aload X102.here hx rfl (hb hby at_195) rfl rfl kk_) ?_
            show own_EndsW _ _ _ _ _ _ _ _ (T102.setTop (mkF m 197 #[.val (.int p1), .val (.int p2), .val (.int p3), .val (.int p4), .val (.int (0 : Int32)), .val (.int md), .val (.int cc), .val (.ref b102), .val (.int (9 : Int32)), .val (.int pr), .unset] [(.ref b102)]))
            refine own_ofW (fun tt_ kk_ => XS.iload X102.here hx rfl (hb hby at_197) rfl  kk_) ?_
            show own_EndsW _ _ _ _ _ _ _ _ (T102.setTop (mkF m 199 #[.val (.int p1), .val (.int p2), .val (.int p3), .val (.int p4), .val (.int (0 : Int32)), .val (.int md), .val (.int cc), .val (.ref b102), .val (.int (9 : Int32)), .val (.int pr), .unset] [(.int pr), (.ref b102)]))
            obtain ⟨cl126, Ar126, q126, S126, N126', H126, G126⟩ := id Vb102
            have hin126 : ¬ (pr < 0 ∨ cl126.slots.size ≤ pr.toNatClampNeg) := inb_of S126 ⟨pr_0, pr_n⟩
            have hat126 : cl126.slots[pr.toNatClampNeg]? = some (.int (own_EXT.getD pk 0)) := H126.at hin126 (by rw [← hpk]; exact own_getD _ _)
            refine own_ofW (fun tt_ kk_ => X102.caload hx (j := pr) (v := (.int (own_EXT.getD pk 0))) (by rw [e102]; exact Ar126.1) (State.isArrayOf_alike hZ.alike Ar126.2.1) Ar126.2.2 hin126 hat126 (g := (mkF m 199 #[.val (.int p1), .val (.int p2), .val (.int p3), .val (.int p4), .val (.int (0 : Int32)), .val (.int md), .val (.int cc), .val (.ref b102), .val (.int (9 : Int32)), .val (.int pr), .unset] [(.int pr), (.ref b102)])) rfl rfl (hb hby at_199) _ kk_) ?_
            show own_EndsW _ _ _ _ _ _ _ _ (T102.setTop (mkF m 200 #[.val (.int p1), .val (.int p2), .val (.int p3), .val (.int p4), .val (.int (0 : Int32)), .val (.int md), .val (.int cc), .val (.ref b102), .val (.int (9 : Int32)), .val (.int pr), .unset] [(.int (own_EXT.getD pk 0))]))
            refine own_ofW (fun tt_ kk_ => XS.istore X102.here hx rfl (hb hby at_200) rfl (l' := #[.val (.int p1), .val (.int p2), .val (.int p3), .val (.int p4), .val (.int (0 : Int32)), .val (.int md), .val (.int cc), .val (.ref b102), .val (.int (9 : Int32)), .val (.int pr), .val (.int (own_EXT.getD pk 0))]) rfl kk_) ?_
            show own_EndsW _ _ _ _ _ _ _ _ (T102.setTop (mkF m 202 #[.val (.int p1), .val (.int p2), .val (.int p3), .val (.int p4), .val (.int (0 : Int32)), .val (.int md), .val (.int cc), .val (.ref b102), .val (.int (9 : Int32)), .val (.int pr), .val (.int (own_EXT.getD pk 0))] []))
            refine own_ofW (fun tt_ kk_ => XS.iload X102.here hx rfl (hb hby at_202) rfl  kk_) ?_
            show own_EndsW _ _ _ _ _ _ _ _ (T102.setTop (mkF m 204 #[.val (.int p1), .val (.int p2), .val (.int p3), .val (.int p4), .val (.int (0 : Int32)), .val (.int md), .val (.int cc), .val (.ref b102), .val (.int (9 : Int32)), .val (.int pr), .val (.int (own_EXT.getD pk 0))] [(.int (own_EXT.getD pk 0))]))
            refine own_ofW (fun tt_ kk_ => XS.bipush X102.here hx rfl (hb hby at_204) kk_) ?_
            show own_EndsW _ _ _ _ _ _ _ _ (T102.setTop (mkF m 206 #[.val (.int p1), .val (.int p2), .val (.int p3), .val (.int p4), .val (.int (0 : Int32)), .val (.int md), .val (.int cc), .val (.ref b102), .val (.int (9 : Int32)), .val (.int pr), .val (.int (own_EXT.getD pk 0))] [(.int (97 : Int32)), (.int (own_EXT.getD pk 0))]))
            by_cases hc127 : (own_EXT.getD pk 0) < (97 : Int32)
            · refine own_ofW (fun tt_ kk_ => XS.icmpYes X102.here hx rfl (pc0 := 206) (pc' := 230) rfl (hb hby at_206) rfl (tlt hc127).1 (by decide) (by decide) kk_) ?_
              show own_EndsW _ _ _ _ _ _ _ _ (T102.setTop (mkF m 230 #[.val (.int p1), .val (.int p2), .val (.int p3), .val (.int p4), .val (.int (0 : Int32)), .val (.int md), .val (.int cc), .val (.ref b102), .val (.int (9 : Int32)), .val (.int pr), .val (.int (own_EXT.getD pk 0))] []))
              refine own_ofW (fun tt_ kk_ => XS.aload X102.here hx rfl (hb hby at_230) rfl rfl kk_) ?_
              show own_EndsW _ _ _ _ _ _ _ _ (T102.setTop (mkF m 232 #[.val (.int p1), .val (.int p2), .val (.int p3), .val (.int p4), .val (.int (0 : Int32)), .val (.int md), .val (.int cc), .val (.ref b102), .val (.int (9 : Int32)), .val (.int pr), .val (.int (own_EXT.getD pk 0))] [(.ref b102)]))
              refine own_ofW (fun tt_ kk_ => XS.iload X102.here hx rfl (hb hby at_232) rfl  kk_) ?_
              show own_EndsW _ _ _ _ _ _ _ _ (T102.setTop (mkF m 234 #[.val (.int p1), .val (.int p2), .val (.int p3), .val (.int p4), .val (.int (0 : Int32)), .val (.int md), .val (.int cc), .val (.ref b102), .val (.int (9 : Int32)), .val (.int pr), .val (.int (own_EXT.getD pk 0))] [(.int pr), (.ref b102)]))
              refine own_ofW (fun tt_ kk_ => XS.iload X102.here hx rfl (hb hby at_234) rfl  kk_) ?_
              show own_EndsW _ _ _ _ _ _ _ _ (T102.setTop (mkF m 236 #[.val (.int p1), .val (.int p2), .val (.int p3), .val (.int p4), .val (.int (0 : Int32)), .val (.int md), .val (.int cc), .val (.ref b102), .val (.int (9 : Int32)), .val (.int pr), .val (.int (own_EXT.getD pk 0))] [(.int (own_EXT.getD pk 0)), (.int pr), (.ref b102)]))
              refine own_ofW (fun tt_ kk_ => XS.bipush X102.here hx rfl (hb hby at_236) kk_) ?_
              show own_EndsW _ _ _ _ _ _ _ _ (T102.setTop (mkF m 238 #[.val (.int p1), .val (.int p2), .val (.int p3), .val (.int p4), .val (.int (0 : Int32)), .val (.int md), .val (.int cc), .val (.ref b102), .val (.int (9 : Int32)), .val (.int pr), .val (.int (own_EXT.getD pk 0))] [(.int (32 : Int32)), (.int (own_EXT.getD pk 0)), (.int pr), (.ref b102)]))
              refine own_ofW (fun tt_ kk_ => XS.iadd X102.here hx rfl (hb hby at_238) rfl kk_) ?_
              show own_EndsW _ _ _ _ _ _ _ _ (T102.setTop (mkF m 239 #[.val (.int p1), .val (.int p2), .val (.int p3), .val (.int p4), .val (.int (0 : Int32)), .val (.int md), .val (.int cc), .val (.ref b102), .val (.int (9 : Int32)), .val (.int pr), .val (.int (own_EXT.getD pk 0))] [(.int ((own_EXT.getD pk 0) + (32 : Int32))), (.int pr), (.ref b102)]))
              refine own_ofW (fun tt_ kk_ => XS.i2c X102.here hx rfl (hb hby at_239) rfl kk_) ?_
              show own_EndsW _ _ _ _ _ _ _ _ (T102.setTop (mkF m 240 #[.val (.int p1), .val (.int p2), .val (.int p3), .val (.int p4), .val (.int (0 : Int32)), .val (.int md), .val (.int cc), .val (.ref b102), .val (.int (9 : Int32)), .val (.int pr), .val (.int (own_EXT.getD pk 0))] [(.int (((own_EXT.getD pk 0) + (32 : Int32)).toUInt32.toUInt16.toUInt32.toInt32)), (.int pr), (.ref b102)]))
              obtain ⟨cl128, Ar128, q128, S128, N128', H128, G128⟩ := id Vb102
              have hin128 : ¬ (pr < 0 ∨ cl128.slots.size ≤ (pr).toNatClampNeg) := inb_of S128 ⟨pr_0, pr_n⟩
              obtain ⟨T128, h128, X128, e128, W128, st128⟩ := stC X102 hx hZ e102 Ar128 (j := pr) hin128 (g := (mkF m 240 #[.val (.int p1), .val (.int p2), .val (.int p3), .val (.int p4), .val (.int (0 : Int32)), .val (.int md), .val (.int cc), .val (.ref b102), .val (.int (9 : Int32)), .val (.int pr), .val (.int (own_EXT.getD pk 0))] [(.int (((own_EXT.getD pk 0) + (32 : Int32)).toUInt32.toUInt16.toUInt32.toInt32)), (.int pr), (.ref b102)])) rfl rfl (hb hby at_240)
              have V128' : Arv Z h128 b102 k102 .char (9 : Int32) ((own_EXT.set pk (nar .char (((own_EXT.getD pk 0) + (32 : Int32)).toUInt32.toUInt16.toUInt32.toInt32))).map Value.int) (.int (0 : Int32)) := by
                rw [List.map_set]; exact Arv.set Ar128 q128 S128 N128' H128 G128 (fits_nar_char _) W128 pk hpk.symm (by rw [List.length_map, len_own_EXT]; exact pk_n)
              replace hk := Nat.le_trans hk (Keep.of_wr W128).1
              replace HC := HC.trans (CHr.wr W128 (Safe.arv hZ.alike Vb102 (by decide)) HC.1)
              replace OL := OL.wr W128 g_b102
              have N128 := Fr.snoc X128 N102 g_b102
              replace K := K.wr W128 (Or.inr sz_b102)
              refine own_ofW st128 ?_
              show own_EndsW _ _ _ _ _ _ _ _ (T128.setTop (mkF m 241 #[.val (.int p1), .val (.int p2), .val (.int p3), .val (.int p4), .val (.int (0 : Int32)), .val (.int md), .val (.int cc), .val (.ref b102), .val (.int (9 : Int32)), .val (.int pr), .val (.int (own_EXT.getD pk 0))] []))
              obtain ⟨T129, h129, X129, e129, E129, A129, D129, -, st129⟩ := newO X128 hx hZ hown (hw _ (List.mem_of_getElem? (i := 5) rfl)) (hw _ (List.mem_of_getElem? (i := 6) rfl)) (hw _ (List.mem_of_getElem? (i := 7) rfl)) e128 (g := (mkF m 241 #[.val (.int p1), .val (.int p2), .val (.int p3), .val (.int p4), .val (.int (0 : Int32)), .val (.int md), .val (.int cc), .val (.ref b102), .val (.int (9 : Int32)), .val (.int pr), .val (.int (own_EXT.getD pk 0))] [])) rfl (hb hby at_241) (by decide) (by decide)
              obtain ⟨b129, g129⟩ : ∃ z, z = h128.size := ⟨_, rfl⟩
              rw [← g129] at A129 D129 st129
              have ne_b102_b129 : b102 ≠ b129 := Nat.ne_of_lt (Nat.lt_of_lt_of_le V128'.lt (Nat.le_of_eq g129.symm))
              have sz_b129 : h0.size ≤ b129 := Nat.le_trans K.1 (Nat.le_of_eq g129.symm)
              have g_b129 : n0 ≤ b129 := Nat.le_trans Z0 sz_b129
              have Sf_b129 : Safe Z own_EL s.vm h128 b129 := Safe.new (Nat.le_of_eq g129.symm)
              replace Sf_b129 := Safe.ext E129 HC.1 Sf_b129
              replace hk := Nat.le_trans hk E129.1
              replace HC := HC.trans (CHr.ext E129 HC.1)
              replace OL := OL.ext E129
              replace V128' := V128'.ext E129
              have F_coder_b129 : Fld Z h129 b129 "java/lang/String" "coder" "B" (.int (0 : Int32)) := D129 (Or.inr (hw _ (List.mem_of_getElem? (i := 31) rfl))) (ty := .byte) (by decide)
              have F_value_b129 : Fld Z h129 b129 "java/lang/String" "value" "[B" .null := D129 (Or.inr (hw _ (List.mem_of_getElem? (i := 33) rfl))) (ty := (.array .byte)) (by decide)
              replace K := K.ext E129
              refine own_ofW st129 ?_
              show own_EndsW _ _ _ _ _ _ _ _ (T129.setTop (mkF m 244 #[.val (.int p1), .val (.int p2), .val (.int p3), .val (.int p4), .val (.int (0 : Int32)), .val (.int md), .val (.int cc), .val (.ref b102), .val (.int (9 : Int32)), .val (.int pr), .val (.int (own_EXT.getD pk 0))] [(.ref b129)]))
              refine own_ofW (fun tt_ kk_ => XS.dup X129.here hx rfl (hb hby at_244) rfl rfl kk_) ?_
              show own_EndsW _ _ _ _ _ _ _ _ (T129.setTop (mkF m 245 #[.val (.int p1), .val (.int p2), .val (.int p3), .val (.int p4), .val (.int (0 : Int32)), .val (.int md), .val (.int cc), .val (.ref b102), .val (.int (9 : Int32)), .val (.int pr), .val (.int (own_EXT.getD pk 0))] [(.ref b129), (.ref b129)]))
              refine own_ofW (fun tt_ kk_ => XS.aload X129.here hx rfl (hb hby at_245) rfl rfl kk_) ?_
              show own_EndsW _ _ _ _ _ _ _ _ (T129.setTop (mkF m 247 #[.val (.int p1), .val (.int p2), .val (.int p3), .val (.int p4), .val (.int (0 : Int32)), .val (.int md), .val (.int cc), .val (.ref b102), .val (.int (9 : Int32)), .val (.int pr), .val (.int (own_EXT.getD pk 0))] [(.ref b102), (.ref b129), (.ref b129)]))
              obtain ⟨cs130, ecs130⟩ : ∃ z : List Int32, z = (own_EXT.set pk (nar .char (((own_EXT.getD pk 0) + (32 : Int32)).toUInt32.toUInt16.toUInt32.toInt32))) := ⟨_, rfl⟩
              have vb130 : own_lat8 cs130 := by rw [ecs130]; exact (flip_lo_own_EXT ⟨pk, pk_n⟩ hc127).2
              have ln130 : cs130.length = 9 := by rw [ecs130]; exact (List.length_set.trans len_own_EXT)
              have V128'' : Arv Z h129 b102 k102 .char (9 : Int32) (cs130.map Value.int) (.int (0 : Int32)) := by rw [ecs130]; exact V128'
              have ZH130 : n0 ≤ h129.size := Nat.le_trans Z0 K.1
              obtain ⟨_, _, ⟨T130, L130, kk130, nn130⟩, -, X130, ⟨Lc130, Q130, l130, y130, z130⟩, st130⟩ := X129.specialBack hx (y := (⟨"java/lang/String", "<init>", "([C)V"⟩ : MethodName)) rfl hown (mvT hZ (hw _ (List.mem_of_getElem? (i := 8) rfl))) (mvT hZ (hw _ (List.mem_of_getElem? (i := 9) rfl))) (mvT hZ (hw _ (List.mem_of_getElem? (i := 10) rfl))) (by decide) (StrChars.Road.backV (W := 1) hZ hws (kI := 4) (hw _ (List.mem_of_getElem? (i := 6) rfl)) (cs := cs130) (bs := cs130.map StrChars.lo8) (n := 9) g_b129 ZH130 A129 F_value_b129 F_coder_b129 V128'' (O2.ext OL.2) P3 ln130 rfl (by decide) (by decide) vb130 rfl (by decide) (by decide)) (g := (mkF m 247 #[.val (.int p1), .val (.int p2), .val (.int p3), .val (.int p4), .val (.int (0 : Int32)), .val (.int md), .val (.int cc), .val (.ref b102), .val (.int (9 : Int32)), .val (.int pr), .val (.int (own_EXT.getD pk 0))] [(.ref b102), (.ref b129), (.ref b129)])) rfl (by rw [hml]; rfl) (Steps.refl _) (a := b129) (argsL := [(.ref b102)]) (rest := [(.ref b129)]) (lenOf pd__AC_r_V rfl) rfl (by show 2 * 0 + _ ≤ _; exact Nat.le_of_eq rfl) (hb hby at_247) (fun _ _ => ⟨rfl, e129, (by decide : 2 + 1 ≤ _), (by decide : 13 + 9 ≤ _)⟩)
              dsimp only [Pt.U, Pt.locs, Pt.cells, Pt.slots] at X130 l130 y130 z130 st130 Q130
              subst l130 y130 z130
              obtain ⟨rfl, Nq130, Kq130, Eq130, Cq130, t130, kb130, g_t130, szz130, nex130, Fq130, Vq130⟩ := Q130
              obtain ⟨h130, eh130⟩ : ∃ z, z = T130.heap := ⟨_, rfl⟩
              rw [← eh130] at Kq130 Eq130 Cq130 Fq130 Vq130
              have e130 := eh130.symm
              have Sf_b129' := Safe.keep Kq130 (sfS Sf_b129 sf0) HC.1 Sf_b129
              replace hk := Nat.le_trans hk Kq130.1
              replace HC := HC.trans (CHr.keep Kq130 (sfS Sf_b129 sf0) HC.1)
              replace Sf_b129 := Sf_b129'
              replace OL := OL.keep Kq130 (allS g_b129 all0)
              replace A129 := A129.keep Kq130
              replace K := K.trans Kq130 (allS (Or.inr sz_b129) all0)
              have N130 := Fr.app N128 Nq130
              refine own_ofW (fun t k => st130.trans k) ?_
              show own_EndsW _ _ _ _ _ _ _ _ (T130.setTop (mkF m 250 #[.val (.int p1), .val (.int p2), .val (.int p3), .val (.int p4), .val (.int (0 : Int32)), .val (.int md), .val (.int cc), .val (.ref b102), .val (.int (9 : Int32)), .val (.int pr), .val (.int (own_EXT.getD pk 0))] [(.ref b129)]))
              obtain ⟨v131, T131, L131, h131, k131', X131, e131, Q131, hZ, hown, hS, hk, HCq131, st131⟩ := own_staticW X130 hx hZ hown e130 hS hk hEL HC.1 (hw _ (List.mem_of_getElem? (i := 34) rfl)) (hw _ (List.mem_of_getElem? (i := 35) rfl)) (hw _ (List.mem_of_getElem? (i := 36) rfl)) (hw _ (List.mem_of_getElem? (i := 37) rfl)) (by decide) (argsL := [(.ref b129)]) (rest := []) (rm_nlN l Z a0 hw b129 t130 kb130 cs130 (9 : Int32) G1 h130 n0 (Nat.le_trans Z0 K.1) hEL Eq130 Cq130 Fq130 Vq130 (by rw [ln130]; rfl) vb130 (by rw [ln130]; decide) O2 P3 OL (by rw [ecs130]; exact (flip_lo_own_EXT ⟨pk, pk_n⟩ hc127).1) (by rw [ecs130]; exact (own_neL (List.length_set.trans len_own_EXT) len_own_MOD (by decide)))) (g := (mkF m 250 #[.val (.int p1), .val (.int p2), .val (.int p3), .val (.int p4), .val (.int (0 : Int32)), .val (.int md), .val (.int cc), .val (.ref b102), .val (.int (9 : Int32)), .val (.int pr), .val (.int (own_EXT.getD pk 0))] [(.ref b129)])) rfl (by rw [hml]; rfl) (lenOf pd__Ljava_lang_String__r_Z rfl) rfl (by decide) (Nat.le_of_ble_eq_true rfl) (by decide) (by decide) (hb hby at_250)
              replace HC := HC.trans HCq131
              obtain ⟨rfl, Nq131, Kq131⟩ := Q131
              replace OL := OL.keep Kq131 all0
              replace Eq130 := Eq130.keep Kq131
              replace Cq130 := Cq130.keep Kq131 nin0
              replace Fq130 := Fq130.keep Kq131 nin0
              replace Vq130 := Vq130.keep Kq131 nin0
              replace K := K.trans Kq131 all0
              have N131 := Fr.app N130 Nq131
              refine own_ofW st131 ?_
              show own_EndsW _ _ _ _ _ _ _ _ (T131.setTop (mkF m 253 #[.val (.int p1), .val (.int p2), .val (.int p3), .val (.int p4), .val (.int (0 : Int32)), .val (.int md), .val (.int cc), .val (.ref b102), .val (.int (9 : Int32)), .val (.int pr), .val (.int (own_EXT.getD pk 0))] [(.int (0 : Int32))]))
              refine own_ofW (fun tt_ kk_ => XS.ifNo X131.here hx rfl (hb hby at_253) rfl ((if0 _ _).trans (teq (by decide : ((0 : Int32) = (0 : Int32)))).2) kk_) ?_
              show own_EndsW _ _ _ _ _ _ _ _ (T131.setTop (mkF m 256 #[.val (.int p1), .val (.int p2), .val (.int p3), .val (.int p4), .val (.int (0 : Int32)), .val (.int md), .val (.int cc), .val (.ref b102), .val (.int (9 : Int32)), .val (.int pr), .val (.int (own_EXT.getD pk 0))] []))
              refine own_ofW (fun tt_ kk_ => XS.iconst X131.here hx rfl (hb hby at_256) kk_) ?_
              show own_EndsW _ _ _ _ _ _ _ _ (T131.setTop (mkF m 257 #[.val (.int p1), .val (.int p2), .val (.int p3), .val (.int p4), .val (.int (0 : Int32)), .val (.int md), .val (.int cc), .val (.ref b102), .val (.int (9 : Int32)), .val (.int pr), .val (.int (own_EXT.getD pk 0))] [(.int (1 : Int32))]))
              refine own_ofW (fun tt_ kk_ => XS.goto X131.here hx rfl (pc0 := 257) (pc' := 261) rfl (hb hby at_257) (by decide) (by decide) kk_) ?_
              show own_EndsW _ _ _ _ _ _ _ _ (T131.setTop (mkF m 261 #[.val (.int p1), .val (.int p2), .val (.int p3), .val (.int p4), .val (.int (0 : Int32)), .val (.int md), .val (.int cc), .val (.ref b102), .val (.int (9 : Int32)), .val (.int pr), .val (.int (own_EXT.getD pk 0))] [(.int (1 : Int32))]))
              refine own_retNW X131 hx hlk hZ hS e131 hk es hEL HC (t := .boolean) hret (by simp) (z' := (1 : Int32)) rfl (hb hby at_261) (by decide) (by decide) ?_
              exact ⟨rfl, N131⟩
            · refine own_ofW (fun tt_ kk_ => XS.icmpNo X102.here hx rfl (hb hby at_206) rfl (flt hc127).1 kk_) ?_
              show own_EndsW _ _ _ _ _ _ _ _ (T102.setTop (mkF m 209 #[.val (.int p1), .val (.int p2), .val (.int p3), .val (.int p4), .val (.int (0 : Int32)), .val (.int md), .val (.int cc), .val (.ref b102), .val (.int (9 : Int32)), .val (.int pr), .val (.int (own_EXT.getD pk 0))] []))
              refine own_ofW (fun tt_ kk_ => XS.iload X102.here hx rfl (hb hby at_209) rfl  kk_) ?_
              show own_EndsW _ _ _ _ _ _ _ _ (T102.setTop (mkF m 211 #[.val (.int p1), .val (.int p2), .val (.int p3), .val (.int p4), .val (.int (0 : Int32)), .val (.int md), .val (.int cc), .val (.ref b102), .val (.int (9 : Int32)), .val (.int pr), .val (.int (own_EXT.getD pk 0))] [(.int (own_EXT.getD pk 0))]))
              refine own_ofW (fun tt_ kk_ => XS.bipush X102.here hx rfl (hb hby at_211) kk_) ?_
              show own_EndsW _ _ _ _ _ _ _ _ (T102.setTop (mkF m 213 #[.val (.int p1), .val (.int p2), .val (.int p3), .val (.int p4), .val (.int (0 : Int32)), .val (.int md), .val (.int cc), .val (.ref b102), .val (.int (9 : Int32)), .val (.int pr), .val (.int (own_EXT.getD pk 0))] [(.int (122 : Int32)), (.int (own_EXT.getD pk 0))]))
              by_cases hc132 : (122 : Int32) < (own_EXT.getD pk 0)
              · refine own_ofW (fun tt_ kk_ => XS.icmpYes X102.here hx rfl (pc0 := 213) (pc' := 230) rfl (hb hby at_213) rfl (tlt hc132).2.2.1 (by decide) (by decide) kk_) ?_
                show own_EndsW _ _ _ _ _ _ _ _ (T102.setTop (mkF m 230 #[.val (.int p1), .val (.int p2), .val (.int p3), .val (.int p4), .val (.int (0 : Int32)), .val (.int md), .val (.int cc), .val (.ref b102), .val (.int (9 : Int32)), .val (.int pr), .val (.int (own_EXT.getD pk 0))] []))
                refine own_ofW (fun tt_ kk_ => XS.aload X102.here hx rfl (hb hby at_230) rfl rfl kk_) ?_
                show own_EndsW _ _ _ _ _ _ _ _ (T102.setTop (mkF m 232 #[.val (.int p1), .val (.int p2), .val (.int p3), .val (.int p4), .val (.int (0 : Int32)), .val (.int md), .val (.int cc), .val (.ref b102), .val (.int (9 : Int32)), .val (.int pr), .val (.int (own_EXT.getD pk 0))] [(.ref b102)]))
                refine own_ofW (fun tt_ kk_ => XS.iload X102.here hx rfl (hb hby at_232) rfl  kk_) ?_
                show own_EndsW _ _ _ _ _ _ _ _ (T102.setTop (mkF m 234 #[.val (.int p1), .val (.int p2), .val (.int p3), .val (.int p4), .val (.int (0 : Int32)), .val (.int md), .val (.int cc), .val (.ref b102), .val (.int (9 : Int32)), .val (.int pr), .val (.int (own_EXT.getD pk 0))] [(.int pr), (.ref b102)]))
                refine own_ofW (fun tt_ kk_ => XS.iload X102.here hx rfl (hb hby at_234) rfl  kk_) ?_
                show own_EndsW _ _ _ _ _ _ _ _ (T102.setTop (mkF m 236 #[.val (.int p1), .val (.int p2), .val (.int p3), .val (.int p4), .val (.int (0 : Int32)), .val (.int md), .val (.int cc), .val (.ref b102), .val (.int (9 : Int32)), .val (.int pr), .val (.int (own_EXT.getD pk 0))] [(.int (own_EXT.getD pk 0)), (.int pr), (.ref b102)]))
                refine own_ofW (fun tt_ kk_ => XS.bipush X102.here hx rfl (hb hby at_236) kk_) ?_
                show own_EndsW _ _ _ _ _ _ _ _ (T102.setTop (mkF m 238 #[.val (.int p1), .val (.int p2), .val (.int p3), .val (.int p4), .val (.int (0 : Int32)), .val (.int md), .val (.int cc), .val (.ref b102), .val (.int (9 : Int32)), .val (.int pr), .val (.int (own_EXT.getD pk 0))] [(.int (32 : Int32)), (.int (own_EXT.getD pk 0)), (.int pr), (.ref b102)]))
                refine own_ofW (fun tt_ kk_ => XS.iadd X102.here hx rfl (hb hby at_238) rfl kk_) ?_
                show own_EndsW _ _ _ _ _ _ _ _ (T102.setTop (mkF m 239 #[.val (.int p1), .val (.int p2), .val (.int p3), .val (.int p4), .val (.int (0 : Int32)), .val (.int md), .val (.int cc), .val (.ref b102), .val (.int (9 : Int32)), .val (.int pr), .val (.int (own_EXT.getD pk 0))] [(.int ((own_EXT.getD pk 0) + (32 : Int32))), (.int pr), (.ref b102)]))
                refine own_ofW (fun tt_ kk_ => XS.i2c X102.here hx rfl (hb hby at_239) rfl kk_) ?_
                show own_EndsW _ _ _ _ _ _ _ _ (T102.setTop (mkF m 240 #[.val (.int p1), .val (.int p2), .val (.int p3), .val (.int p4), .val (.int (0 : Int32)), .val (.int md), .val (.int cc), .val (.ref b102), .val (.int (9 : Int32)), .val (.int pr), .val (.int (own_EXT.getD pk 0))] [(.int (((own_EXT.getD pk 0) + (32 : Int32)).toUInt32.toUInt16.toUInt32.toInt32)), (.int pr), (.ref b102)]))
                obtain ⟨cl133, Ar133, q133, S133, N133', H133, G133⟩ := id Vb102
                have hin133 : ¬ (pr < 0 ∨ cl133.slots.size ≤ (pr).toNatClampNeg) := inb_of S133 ⟨pr_0, pr_n⟩
                obtain ⟨T133, h133, X133, e133, W133, st133⟩ := stC X102 hx hZ e102 Ar133 (j := pr) hin133 (g := (mkF m 240 #[.val (.int p1), .val (.int p2), .val (.int p3), .val (.int p4), .val (.int (0 : Int32)), .val (.int md), .val (.int cc), .val (.ref b102), .val (.int (9 : Int32)), .val (.int pr), .val (.int (own_EXT.getD pk 0))] [(.int (((own_EXT.getD pk 0) + (32 : Int32)).toUInt32.toUInt16.toUInt32.toInt32)), (.int pr), (.ref b102)])) rfl rfl (hb hby at_240)
                have V133' : Arv Z h133 b102 k102 .char (9 : Int32) ((own_EXT.set pk (nar .char (((own_EXT.getD pk 0) + (32 : Int32)).toUInt32.toUInt16.toUInt32.toInt32))).map Value.int) (.int (0 : Int32)) := by
                  rw [List.map_set]; exact Arv.set Ar133 q133 S133 N133' H133 G133 (fits_nar_char _) W133 pk hpk.symm (by rw [List.length_map, len_own_EXT]; exact pk_n)
                replace hk := Nat.le_trans hk (Keep.of_wr W133).1
                replace HC := HC.trans (CHr.wr W133 (Safe.arv hZ.alike Vb102 (by decide)) HC.1)
                replace OL := OL.wr W133 g_b102
                have N133 := Fr.snoc X133 N102 g_b102
                replace K := K.wr W133 (Or.inr sz_b102)
                refine own_ofW st133 ?_
                show own_EndsW _ _ _ _ _ _ _ _ (T133.setTop (mkF m 241 #[.val (.int p1), .val (.int p2), .val (.int p3), .val (.int p4), .val (.int (0 : Int32)), .val (.int md), .val (.int cc), .val (.ref b102), .val (.int (9 : Int32)), .val (.int pr), .val (.int (own_EXT.getD pk 0))] []))
                obtain ⟨T134, h134, X134, e134, E134, A134, D134, -, st134⟩ := newO X133 hx hZ hown (hw _ (List.mem_of_getElem? (i := 5) rfl)) (hw _ (List.mem_of_getElem? (i := 6) rfl)) (hw _ (List.mem_of_getElem? (i := 7) rfl)) e133 (g := (mkF m 241 #[.val (.int p1), .val (.int p2), .val (.int p3), .val (.int p4), .val (.int (0 : Int32)), .val (.int md), .val (.int cc), .val (.ref b102), .val (.int (9 : Int32)), .val (.int pr), .val (.int (own_EXT.getD pk 0))] [])) rfl (hb hby at_241) (by decide) (by decide)
                obtain ⟨b134, g134⟩ : ∃ z, z = h133.size := ⟨_, rfl⟩
                rw [← g134] at A134 D134 st134
                have ne_b102_b134 : b102 ≠ b134 := Nat.ne_of_lt (Nat.lt_of_lt_of_le V133'.lt (Nat.le_of_eq g134.symm))
                have sz_b134 : h0.size ≤ b134 := Nat.le_trans K.1 (Nat.le_of_eq g134.symm)
                have g_b134 : n0 ≤ b134 := Nat.le_trans Z0 sz_b134
                have Sf_b134 : Safe Z own_EL s.vm h133 b134 := Safe.new (Nat.le_of_eq g134.symm)
                replace Sf_b134 := Safe.ext E134 HC.1 Sf_b134
                replace hk := Nat.le_trans hk E134.1
                replace HC := HC.trans (CHr.ext E134 HC.1)
                replace OL := OL.ext E134
                replace V133' := V133'.ext E134
                have F_coder_b134 : Fld Z h134 b134 "java/lang/String" "coder" "B" (.int (0 : Int32)) := D134 (Or.inr (hw _ (List.mem_of_getElem? (i := 31) rfl))) (ty := .byte) (by decide)
                have F_value_b134 : Fld Z h134 b134 "java/lang/String" "value" "[B" .null := D134 (Or.inr (hw _ (List.mem_of_getElem? (i := 33) rfl))) (ty := (.array .byte)) (by decide)
                replace K := K.ext E134
                refine own_ofW st134 ?_
                show own_EndsW _ _ _ _ _ _ _ _ (T134.setTop (mkF m 244 #[.val (.int p1), .val (.int p2), .val (.int p3), .val (.int p4), .val (.int (0 : Int32)), .val (.int md), .val (.int cc), .val (.ref b102), .val (.int (9 : Int32)), .val (.int pr), .val (.int (own_EXT.getD pk 0))] [(.ref b134)]))
                refine own_ofW (fun tt_ kk_ => XS.dup X134.here hx rfl (hb hby at_244) rfl rfl kk_) ?_
                show own_EndsW _ _ _ _ _ _ _ _ (T134.setTop (mkF m 245 #[.val (.int p1), .val (.int p2), .val (.int p3), .val (.int p4), .val (.int (0 : Int32)), .val (.int md), .val (.int cc), .val (.ref b102), .val (.int (9 : Int32)), .val (.int pr), .val (.int (own_EXT.getD pk 0))] [(.ref b134), (.ref b134)]))
                refine own_ofW (fun tt_ kk_ => XS.aload X134.here hx rfl (hb hby at_245) rfl rfl kk_) ?_
                show own_EndsW _ _ _ _ _ _ _ _ (T134.setTop (mkF m 247 #[.val (.int p1), .val (.int p2), .val (.int p3), .val (.int p4), .val (.int (0 : Int32)), .val (.int md), .val (.int cc), .val (.ref b102), .val (.int (9 : Int32)), .val (.int pr), .val (.int (own_EXT.getD pk 0))] [(.ref b102), (.ref b134), (.ref b134)]))
                obtain ⟨cs135, ecs135⟩ : ∃ z : List Int32, z = (own_EXT.set pk (nar .char (((own_EXT.getD pk 0) + (32 : Int32)).toUInt32.toUInt16.toUInt32.toInt32))) := ⟨_, rfl⟩
                have vb135 : own_lat8 cs135 := by rw [ecs135]; exact (flip_hi_own_EXT ⟨pk, pk_n⟩ hc132).2
                have ln135 : cs135.length = 9 := by rw [ecs135]; exact (List.length_set.trans len_own_EXT)
                have V133'' : Arv Z h134 b102 k102 .char (9 : Int32) (cs135.map Value.int) (.int (0 : Int32)) := by rw [ecs135]; exact V133'
                have ZH135 : n0 ≤ h134.size := Nat.le_trans Z0 K.1
                obtain ⟨_, _, ⟨T135, L135, kk135, nn135⟩, -, X135, ⟨Lc135, Q135, l135, y135, z135⟩, st135⟩ := X134.specialBack hx (y := (⟨"java/lang/String", "<init>", "([C)V"⟩ : MethodName)) rfl hown (mvT hZ (hw _ (List.mem_of_getElem? (i := 8) rfl))) (mvT hZ (hw _ (List.mem_of_getElem? (i := 9) rfl))) (mvT hZ (hw _ (List.mem_of_getElem? (i := 10) rfl))) (by decide) (StrChars.Road.backV (W := 1) hZ hws (kI := 4) (hw _ (List.mem_of_getElem? (i := 6) rfl)) (cs := cs135) (bs := cs135.map StrChars.lo8) (n := 9) g_b134 ZH135 A134 F_value_b134 F_coder_b134 V133'' (O2.ext OL.2) P3 ln135 rfl (by decide) (by decide) vb135 rfl (by decide) (by decide)) (g := (mkF m 247 #[.val (.int p1), .val (.int p2), .val (.int p3), .val (.int p4), .val (.int (0 : Int32)), .val (.int md), .val (.int cc), .val (.ref b102), .val (.int (9 : Int32)), .val (.int pr), .val (.int (own_EXT.getD pk 0))] [(.ref b102), (.ref b134), (.ref b134)])) rfl (by rw [hml]; rfl) (Steps.refl _) (a := b134) (argsL := [(.ref b102)]) (rest := [(.ref b134)]) (lenOf pd__AC_r_V rfl) rfl (by show 2 * 0 + _ ≤ _; exact Nat.le_of_eq rfl) (hb hby at_247) (fun _ _ => ⟨rfl, e134, (by decide : 2 + 1 ≤ _), (by decide : 13 + 9 ≤ _)⟩)
                dsimp only [Pt.U, Pt.locs, Pt.cells, Pt.slots] at X135 l135 y135 z135 st135 Q135
                subst l135 y135 z135
                obtain ⟨rfl, Nq135, Kq135, Eq135, Cq135, t135, kb135, g_t135, szz135, nex135, Fq135, Vq135⟩ := Q135
                obtain ⟨h135, eh135⟩ : ∃ z, z = T135.heap := ⟨_, rfl⟩
                rw [← eh135] at Kq135 Eq135 Cq135 Fq135 Vq135
                have e135 := eh135.symm
                have Sf_b134' := Safe.keep Kq135 (sfS Sf_b134 sf0) HC.1 Sf_b134
                replace hk := Nat.le_trans hk Kq135.1
                replace HC := HC.trans (CHr.keep Kq135 (sfS Sf_b134 sf0) HC.1)
                replace Sf_b134 := Sf_b134'
                replace OL := OL.keep Kq135 (allS g_b134 all0)
                replace A134 := A134.keep Kq135
                replace K := K.trans Kq135 (allS (Or.inr sz_b134) all0)
                have N135 := Fr.app N133 Nq135
                refine own_ofW (fun t k => st135.trans k) ?_
                show own_EndsW _ _ _ _ _ _ _ _ (T135.setTop (mkF m 250 #[.val (.int p1), .val (.int p2), .val (.int p3), .val (.int p4), .val (.int (0 : Int32)), .val (.int md), .val (.int cc), .val (.ref b102), .val (.int (9 : Int32)), .val (.int pr), .val (.int (own_EXT.getD pk 0))] [(.ref b134)]))
                obtain ⟨v136, T136, L136, h136, k136', X136, e136, Q136, hZ, hown, hS, hk, HCq136, st136⟩ := own_staticW X135 hx hZ hown e135 hS hk hEL HC.1 (hw _ (List.mem_of_getElem? (i := 34) rfl)) (hw _ (List.mem_of_getElem? (i := 35) rfl)) (hw _ (List.mem_of_getElem? (i := 36) rfl)) (hw _ (List.mem_of_getElem? (i := 37) rfl)) (by decide) (argsL := [(.ref b134)]) (rest := []) (rm_nlN l Z a0 hw b134 t135 kb135 cs135 (9 : Int32) G1 h135 n0 (Nat.le_trans Z0 K.1) hEL Eq135 Cq135 Fq135 Vq135 (by rw [ln135]; rfl) vb135 (by rw [ln135]; decide) O2 P3 OL (by rw [ecs135]; exact (flip_hi_own_EXT ⟨pk, pk_n⟩ hc132).1) (by rw [ecs135]; exact (own_neL (List.length_set.trans len_own_EXT) len_own_MOD (by decide)))) (g := (mkF m 250 #[.val (.int p1), .val (.int p2), .val (.int p3), .val (.int p4), .val (.int (0 : Int32)), .val (.int md), .val (.int cc), .val (.ref b102), .val (.int (9 : Int32)), .val (.int pr), .val (.int (own_EXT.getD pk 0))] [(.ref b134)])) rfl (by rw [hml]; rfl) (lenOf pd__Ljava_lang_String__r_Z rfl) rfl (by decide) (Nat.le_of_ble_eq_true rfl) (by decide) (by decide) (hb hby at_250)
                replace HC := HC.trans HCq136
                obtain ⟨rfl, Nq136, Kq136⟩ := Q136
                replace OL := OL.keep Kq136 all0
                replace Eq135 := Eq135.keep Kq136
                replace Cq135 := Cq135.keep Kq136 nin0
                replace Fq135 := Fq135.keep Kq136 nin0
                replace Vq135 := Vq135.keep Kq136 nin0
                replace K := K.trans Kq136 all0
                have N136 := Fr.app N135 Nq136
                refine own_ofW st136 ?_
                show own_EndsW _ _ _ _ _ _ _ _ (T136.setTop (mkF m 253 #[.val (.int p1), .val (.int p2), .val (.int p3), .val (.int p4), .val (.int (0 : Int32)), .val (.int md), .val (.int cc), .val (.ref b102), .val (.int (9 : Int32)), .val (.int pr), .val (.int (own_EXT.getD pk 0))] [(.int (0 : Int32))]))
                refine own_ofW (fun tt_ kk_ => XS.ifNo X136.here hx rfl (hb hby at_253) rfl ((if0 _ _).trans (teq (by decide : ((0 : Int32) = (0 : Int32)))).2) kk_) ?_
                show own_EndsW _ _ _ _ _ _ _ _ (T136.setTop (mkF m 256 #[.val (.int p1), .val (.int p2), .val (.int p3), .val (.int p4), .val (.int (0 : Int32)), .val (.int md), .val (.int cc), .val (.ref b102), .val (.int (9 : Int32)), .val (.int pr), .val (.int (own_EXT.getD pk 0))] []))
                refine own_ofW (fun tt_ kk_ => XS.iconst X136.here hx rfl (hb hby at_256) kk_) ?_
                show own_EndsW _ _ _ _ _ _ _ _ (T136.setTop (mkF m 257 #[.val (.int p1), .val (.int p2), .val (.int p3), .val (.int p4), .val (.int (0 : Int32)), .val (.int md), .val (.int cc), .val (.ref b102), .val (.int (9 : Int32)), .val (.int pr), .val (.int (own_EXT.getD pk 0))] [(.int (1 : Int32))]))
                refine own_ofW (fun tt_ kk_ => XS.goto X136.here hx rfl (pc0 := 257) (pc' := 261) rfl (hb hby at_257) (by decide) (by decide) kk_) ?_
                show own_EndsW _ _ _ _ _ _ _ _ (T136.setTop (mkF m 261 #[.val (.int p1), .val (.int p2), .val (.int p3), .val (.int p4), .val (.int (0 : Int32)), .val (.int md), .val (.int cc), .val (.ref b102), .val (.int (9 : Int32)), .val (.int pr), .val (.int (own_EXT.getD pk 0))] [(.int (1 : Int32))]))
                refine own_retNW X136 hx hlk hZ hS e136 hk es hEL HC (t := .boolean) hret (by simp) (z' := (1 : Int32)) rfl (hb hby at_261) (by decide) (by decide) ?_
                exact ⟨rfl, N136⟩
              · refine own_ofW (fun tt_ kk_ => XS.icmpNo X102.here hx rfl (hb hby at_213) rfl (flt hc132).2.2.1 kk_) ?_
                show own_EndsW _ _ _ _ _ _ _ _ (T102.setTop (mkF m 216 #[.val (.int p1), .val (.int p2), .val (.int p3), .val (.int p4), .val (.int (0 : Int32)), .val (.int md), .val (.int cc), .val (.ref b102), .val (.int (9 : Int32)), .val (.int pr), .val (.int (own_EXT.getD pk 0))] []))
                refine own_ofW (fun tt_ kk_ => XS.aload X102.here hx rfl (hb hby at_216) rfl rfl kk_) ?_
                show own_EndsW _ _ _ _ _ _ _ _ (T102.setTop (mkF m 218 #[.val (.int p1), .val (.int p2), .val (.int p3), .val (.int p4), .val (.int (0 : Int32)), .val (.int md), .val (.int cc), .val (.ref b102), .val (.int (9 : Int32)), .val (.int pr), .val (.int (own_EXT.getD pk 0))] [(.ref b102)]))
                refine own_ofW (fun tt_ kk_ => XS.iload X102.here hx rfl (hb hby at_218) rfl  kk_) ?_
                show own_EndsW _ _ _ _ _ _ _ _ (T102.setTop (mkF m 220 #[.val (.int p1), .val (.int p2), .val (.int p3), .val (.int p4), .val (.int (0 : Int32)), .val (.int md), .val (.int cc), .val (.ref b102), .val (.int (9 : Int32)), .val (.int pr), .val (.int (own_EXT.getD pk 0))] [(.int pr), (.ref b102)]))
                refine own_ofW (fun tt_ kk_ => XS.iload X102.here hx rfl (hb hby at_220) rfl  kk_) ?_
                show own_EndsW _ _ _ _ _ _ _ _ (T102.setTop (mkF m 222 #[.val (.int p1), .val (.int p2), .val (.int p3), .val (.int p4), .val (.int (0 : Int32)), .val (.int md), .val (.int cc), .val (.ref b102), .val (.int (9 : Int32)), .val (.int pr), .val (.int (own_EXT.getD pk 0))] [(.int (own_EXT.getD pk 0)), (.int pr), (.ref b102)]))
                refine own_ofW (fun tt_ kk_ => XS.bipush X102.here hx rfl (hb hby at_222) kk_) ?_
                show own_EndsW _ _ _ _ _ _ _ _ (T102.setTop (mkF m 224 #[.val (.int p1), .val (.int p2), .val (.int p3), .val (.int p4), .val (.int (0 : Int32)), .val (.int md), .val (.int cc), .val (.ref b102), .val (.int (9 : Int32)), .val (.int pr), .val (.int (own_EXT.getD pk 0))] [(.int (32 : Int32)), (.int (own_EXT.getD pk 0)), (.int pr), (.ref b102)]))
                refine own_ofW (fun tt_ kk_ => XS.isub X102.here hx rfl (hb hby at_224) rfl kk_) ?_
                show own_EndsW _ _ _ _ _ _ _ _ (T102.setTop (mkF m 225 #[.val (.int p1), .val (.int p2), .val (.int p3), .val (.int p4), .val (.int (0 : Int32)), .val (.int md), .val (.int cc), .val (.ref b102), .val (.int (9 : Int32)), .val (.int pr), .val (.int (own_EXT.getD pk 0))] [(.int ((own_EXT.getD pk 0) - (32 : Int32))), (.int pr), (.ref b102)]))
                refine own_ofW (fun tt_ kk_ => XS.i2c X102.here hx rfl (hb hby at_225) rfl kk_) ?_
                show own_EndsW _ _ _ _ _ _ _ _ (T102.setTop (mkF m 226 #[.val (.int p1), .val (.int p2), .val (.int p3), .val (.int p4), .val (.int (0 : Int32)), .val (.int md), .val (.int cc), .val (.ref b102), .val (.int (9 : Int32)), .val (.int pr), .val (.int (own_EXT.getD pk 0))] [(.int (((own_EXT.getD pk 0) - (32 : Int32)).toUInt32.toUInt16.toUInt32.toInt32)), (.int pr), (.ref b102)]))
                obtain ⟨cl137, Ar137, q137, S137, N137', H137, G137⟩ := id Vb102
                have hin137 : ¬ (pr < 0 ∨ cl137.slots.size ≤ (pr).toNatClampNeg) := inb_of S137 ⟨pr_0, pr_n⟩
                obtain ⟨T137, h137, X137, e137, W137, st137⟩ := stC X102 hx hZ e102 Ar137 (j := pr) hin137 (g := (mkF m 226 #[.val (.int p1), .val (.int p2), .val (.int p3), .val (.int p4), .val (.int (0 : Int32)), .val (.int md), .val (.int cc), .val (.ref b102), .val (.int (9 : Int32)), .val (.int pr), .val (.int (own_EXT.getD pk 0))] [(.int (((own_EXT.getD pk 0) - (32 : Int32)).toUInt32.toUInt16.toUInt32.toInt32)), (.int pr), (.ref b102)])) rfl rfl (hb hby at_226)
                have V137' : Arv Z h137 b102 k102 .char (9 : Int32) ((own_EXT.set pk (nar .char (((own_EXT.getD pk 0) - (32 : Int32)).toUInt32.toUInt16.toUInt32.toInt32))).map Value.int) (.int (0 : Int32)) := by
                  rw [List.map_set]; exact Arv.set Ar137 q137 S137 N137' H137 G137 (fits_nar_char _) W137 pk hpk.symm (by rw [List.length_map, len_own_EXT]; exact pk_n)
                replace hk := Nat.le_trans hk (Keep.of_wr W137).1
                replace HC := HC.trans (CHr.wr W137 (Safe.arv hZ.alike Vb102 (by decide)) HC.1)
                replace OL := OL.wr W137 g_b102
                have N137 := Fr.snoc X137 N102 g_b102
                replace K := K.wr W137 (Or.inr sz_b102)
                refine own_ofW st137 ?_
                show own_EndsW _ _ _ _ _ _ _ _ (T137.setTop (mkF m 227 #[.val (.int p1), .val (.int p2), .val (.int p3), .val (.int p4), .val (.int (0 : Int32)), .val (.int md), .val (.int cc), .val (.ref b102), .val (.int (9 : Int32)), .val (.int pr), .val (.int (own_EXT.getD pk 0))] []))
                refine own_ofW (fun tt_ kk_ => XS.goto X137.here hx rfl (pc0 := 227) (pc' := 241) rfl (hb hby at_227) (by decide) (by decide) kk_) ?_
                show own_EndsW _ _ _ _ _ _ _ _ (T137.setTop (mkF m 241 #[.val (.int p1), .val (.int p2), .val (.int p3), .val (.int p4), .val (.int (0 : Int32)), .val (.int md), .val (.int cc), .val (.ref b102), .val (.int (9 : Int32)), .val (.int pr), .val (.int (own_EXT.getD pk 0))] []))
                obtain ⟨T138, h138, X138, e138, E138, A138, D138, -, st138⟩ := newO X137 hx hZ hown (hw _ (List.mem_of_getElem? (i := 5) rfl)) (hw _ (List.mem_of_getElem? (i := 6) rfl)) (hw _ (List.mem_of_getElem? (i := 7) rfl)) e137 (g := (mkF m 241 #[.val (.int p1), .val (.int p2), .val (.int p3), .val (.int p4), .val (.int (0 : Int32)), .val (.int md), .val (.int cc), .val (.ref b102), .val (.int (9 : Int32)), .val (.int pr), .val (.int (own_EXT.getD pk 0))] [])) rfl (hb hby at_241) (by decide) (by decide)
                obtain ⟨b138, g138⟩ : ∃ z, z = h137.size := ⟨_, rfl⟩
                rw [← g138] at A138 D138 st138
                have ne_b102_b138 : b102 ≠ b138 := Nat.ne_of_lt (Nat.lt_of_lt_of_le V137'.lt (Nat.le_of_eq g138.symm))
                have sz_b138 : h0.size ≤ b138 := Nat.le_trans K.1 (Nat.le_of_eq g138.symm)
                have g_b138 : n0 ≤ b138 := Nat.le_trans Z0 sz_b138
                have Sf_b138 : Safe Z own_EL s.vm h137 b138 := Safe.new (Nat.le_of_eq g138.symm)
                replace Sf_b138 := Safe.ext E138 HC.1 Sf_b138
                replace hk := Nat.le_trans hk E138.1
                replace HC := HC.trans (CHr.ext E138 HC.1)
                replace OL := OL.ext E138
                replace V137' := V137'.ext E138
                have F_coder_b138 : Fld Z h138 b138 "java/lang/String" "coder" "B" (.int (0 : Int32)) := D138 (Or.inr (hw _ (List.mem_of_getElem? (i := 31) rfl))) (ty := .byte) (by decide)
                have F_value_b138 : Fld Z h138 b138 "java/lang/String" "value" "[B" .null := D138 (Or.inr (hw _ (List.mem_of_getElem? (i := 33) rfl))) (ty := (.array .byte)) (by decide)
                replace K := K.ext E138
                refine own_ofW st138 ?_
                show own_EndsW _ _ _ _ _ _ _ _ (T138.setTop (mkF m 244 #[.val (.int p1), .val (.int p2), .val (.int p3), .val (.int p4), .val (.int (0 : Int32)), .val (.int md), .val (.int cc), .val (.ref b102), .val (.int (9 : Int32)), .val (.int pr), .val (.int (own_EXT.getD pk 0))] [(.ref b138)]))
                refine own_ofW (fun tt_ kk_ => XS.dup X138.here hx rfl (hb hby at_244) rfl rfl kk_) ?_
                show own_EndsW _ _ _ _ _ _ _ _ (T138.setTop (mkF m 245 #[.val (.int p1), .val (.int p2), .val (.int p3), .val (.int p4), .val (.int (0 : Int32)), .val (.int md), .val (.int cc), .val (.ref b102), .val (.int (9 : Int32)), .val (.int pr), .val (.int (own_EXT.getD pk 0))] [(.ref b138), (.ref b138)]))
                refine own_ofW (fun tt_ kk_ => XS.aload X138.here hx rfl (hb hby at_245) rfl rfl kk_) ?_
                show own_EndsW _ _ _ _ _ _ _ _ (T138.setTop (mkF m 247 #[.val (.int p1), .val (.int p2), .val (.int p3), .val (.int p4), .val (.int (0 : Int32)), .val (.int md), .val (.int cc), .val (.ref b102), .val (.int (9 : Int32)), .val (.int pr), .val (.int (own_EXT.getD pk 0))] [(.ref b102), (.ref b138), (.ref b138)]))
                obtain ⟨cs139, ecs139⟩ : ∃ z : List Int32, z = (own_EXT.set pk (nar .char (((own_EXT.getD pk 0) - (32 : Int32)).toUInt32.toUInt16.toUInt32.toInt32))) := ⟨_, rfl⟩
                have vb139 : own_lat8 cs139 := by rw [ecs139]; exact (flip_md_own_EXT ⟨pk, pk_n⟩ hc127 hc132).2
                have ln139 : cs139.length = 9 := by rw [ecs139]; exact (List.length_set.trans len_own_EXT)
                have V137'' : Arv Z h138 b102 k102 .char (9 : Int32) (cs139.map Value.int) (.int (0 : Int32)) := by rw [ecs139]; exact V137'
                have ZH139 : n0 ≤ h138.size := Nat.le_trans Z0 K.1
                obtain ⟨_, _, ⟨T139, L139, kk139, nn139⟩, -, X139, ⟨Lc139, Q139, l139, y139, z139⟩, st139⟩ := X138.specialBack hx (y := (⟨"java/lang/String", "<init>", "([C)V"⟩ : MethodName)) rfl hown (mvT hZ (hw _ (List.mem_of_getElem? (i := 8) rfl))) (mvT hZ (hw _ (List.mem_of_getElem? (i := 9) rfl))) (mvT hZ (hw _ (List.mem_of_getElem? (i := 10) rfl))) (by decide) (StrChars.Road.backV (W := 1) hZ hws (kI := 4) (hw _ (List.mem_of_getElem? (i := 6) rfl)) (cs := cs139) (bs := cs139.map StrChars.lo8) (n := 9) g_b138 ZH139 A138 F_value_b138 F_coder_b138 V137'' (O2.ext OL.2) P3 ln139 rfl (by decide) (by decide) vb139 rfl (by decide) (by decide)) (g := (mkF m 247 #[.val (.int p1), .val (.int p2), .val (.int p3), .val (.int p4), .val (.int (0 : Int32)), .val (.int md), .val (.int cc), .val (.ref b102), .val (.int (9 : Int32)), .val (.int pr), .val (.int (own_EXT.getD pk 0))] [(.ref b102), (.ref b138), (.ref b138)])) rfl (by rw [hml]; rfl) (Steps.refl _) (a := b138) (argsL := [(.ref b102)]) (rest := [(.ref b138)]) (lenOf pd__AC_r_V rfl) rfl (by show 2 * 0 + _ ≤ _; exact Nat.le_of_eq rfl) (hb hby at_247) (fun _ _ => ⟨rfl, e138, (by decide : 2 + 1 ≤ _), (by decide : 13 + 9 ≤ _)⟩)
                dsimp only [Pt.U, Pt.locs, Pt.cells, Pt.slots] at X139 l139 y139 z139 st139 Q139
                subst l139 y139 z139
                obtain ⟨rfl, Nq139, Kq139, Eq139, Cq139, t139, kb139, g_t139, szz139, nex139, Fq139, Vq139⟩ := Q139
                obtain ⟨h139, eh139⟩ : ∃ z, z = T139.heap := ⟨_, rfl⟩
                rw [← eh139] at Kq139 Eq139 Cq139 Fq139 Vq139
                have e139 := eh139.symm
                have Sf_b138' := Safe.keep Kq139 (sfS Sf_b138 sf0) HC.1 Sf_b138
                replace hk := Nat.le_trans hk Kq139.1
                replace HC := HC.trans (CHr.keep Kq139 (sfS Sf_b138 sf0) HC.1)
                replace Sf_b138 := Sf_b138'
                replace OL := OL.keep Kq139 (allS g_b138 all0)
                replace A138 := A138.keep Kq139
                replace K := K.trans Kq139 (allS (Or.inr sz_b138) all0)
                have N139 := Fr.app N137 Nq139
                refine own_ofW (fun t k => st139.trans k) ?_
                show own_EndsW _ _ _ _ _ _ _ _ (T139.setTop (mkF m 250 #[.val (.int p1), .val (.int p2), .val (.int p3), .val (.int p4), .val (.int (0 : Int32)), .val (.int md), .val (.int cc), .val (.ref b102), .val (.int (9 : Int32)), .val (.int pr), .val (.int (own_EXT.getD pk 0))] [(.ref b138)]))
                obtain ⟨v140, T140, L140, h140, k140', X140, e140, Q140, hZ, hown, hS, hk, HCq140, st140⟩ := own_staticW X139 hx hZ hown e139 hS hk hEL HC.1 (hw _ (List.mem_of_getElem? (i := 34) rfl)) (hw _ (List.mem_of_getElem? (i := 35) rfl)) (hw _ (List.mem_of_getElem? (i := 36) rfl)) (hw _ (List.mem_of_getElem? (i := 37) rfl)) (by decide) (argsL := [(.ref b138)]) (rest := []) (rm_nlN l Z a0 hw b138 t139 kb139 cs139 (9 : Int32) G1 h139 n0 (Nat.le_trans Z0 K.1) hEL Eq139 Cq139 Fq139 Vq139 (by rw [ln139]; rfl) vb139 (by rw [ln139]; decide) O2 P3 OL (by rw [ecs139]; exact (flip_md_own_EXT ⟨pk, pk_n⟩ hc127 hc132).1) (by rw [ecs139]; exact (own_neL (List.length_set.trans len_own_EXT) len_own_MOD (by decide)))) (g := (mkF m 250 #[.val (.int p1), .val (.int p2), .val (.int p3), .val (.int p4), .val (.int (0 : Int32)), .val (.int md), .val (.int cc), .val (.ref b102), .val (.int (9 : Int32)), .val (.int pr), .val (.int (own_EXT.getD pk 0))] [(.ref b138)])) rfl (by rw [hml]; rfl) (lenOf pd__Ljava_lang_String__r_Z rfl) rfl (by decide) (Nat.le_of_ble_eq_true rfl) (by decide) (by decide) (hb hby at_250)
                replace HC := HC.trans HCq140
                obtain ⟨rfl, Nq140, Kq140⟩ := Q140
                replace OL := OL.keep Kq140 all0
                replace Eq139 := Eq139.keep Kq140
                replace Cq139 := Cq139.keep Kq140 nin0
                replace Fq139 := Fq139.keep Kq140 nin0
                replace Vq139 := Vq139.keep Kq140 nin0
                replace K := K.trans Kq140 all0
                have N140 := Fr.app N139 Nq140
                refine own_ofW st140 ?_
                show own_EndsW _ _ _ _ _ _ _ _ (T140.setTop (mkF m 253 #[.val (.int p1), .val (.int p2), .val (.int p3), .val (.int p4), .val (.int (0 : Int32)), .val (.int md), .val (.int cc), .val (.ref b102), .val (.int (9 : Int32)), .val (.int pr), .val (.int (own_EXT.getD pk 0))] [(.int (0 : Int32))]))
                refine own_ofW (fun tt_ kk_ => XS.ifNo X140.here hx rfl (hb hby at_253) rfl ((if0 _ _).trans (teq (by decide : ((0 : Int32) = (0 : Int32)))).2) kk_) ?_
                show own_EndsW _ _ _ _ _ _ _ _ (T140.setTop (mkF m 256 #[.val (.int p1), .val (.int p2), .val (.int p3), .val (.int p4), .val (.int (0 : Int32)), .val (.int md), .val (.int cc), .val (.ref b102), .val (.int (9 : Int32)), .val (.int pr), .val (.int (own_EXT.getD pk 0))] []))
                refine own_ofW (fun tt_ kk_ => XS.iconst X140.here hx rfl (hb hby at_256) kk_) ?_
                show own_EndsW _ _ _ _ _ _ _ _ (T140.setTop (mkF m 257 #[.val (.int p1), .val (.int p2), .val (.int p3), .val (.int p4), .val (.int (0 : Int32)), .val (.int md), .val (.int cc), .val (.ref b102), .val (.int (9 : Int32)), .val (.int pr), .val (.int (own_EXT.getD pk 0))] [(.int (1 : Int32))]))
                refine own_ofW (fun tt_ kk_ => XS.goto X140.here hx rfl (pc0 := 257) (pc' := 261) rfl (hb hby at_257) (by decide) (by decide) kk_) ?_
                show own_EndsW _ _ _ _ _ _ _ _ (T140.setTop (mkF m 261 #[.val (.int p1), .val (.int p2), .val (.int p3), .val (.int p4), .val (.int (0 : Int32)), .val (.int md), .val (.int cc), .val (.ref b102), .val (.int (9 : Int32)), .val (.int pr), .val (.int (own_EXT.getD pk 0))] [(.int (1 : Int32))]))
                refine own_retNW X140 hx hlk hZ hS e140 hk es hEL HC (t := .boolean) hret (by simp) (z' := (1 : Int32)) rfl (hb hby at_261) (by decide) (by decide) ?_
                exact ⟨rfl, N140⟩
          · refine own_ofW (fun tt_ kk_ => XS.icmpYes X102.here hx rfl (pc0 := 183) (pc' := 262) rfl (hb hby at_183) rfl (feq hc125).2 (by decide) (by decide) kk_) ?_
            show own_EndsW _ _ _ _ _ _ _ _ (T102.setTop (mkF m 262 #[.val (.int p1), .val (.int p2), .val (.int p3), .val (.int p4), .val (.int (0 : Int32)), .val (.int md), .val (.int cc), .val (.ref b102), .val (.int (9 : Int32)), .unset, .unset] []))
            refine own_ofW (fun tt_ kk_ => XS.iload X102.here hx rfl (hb hby at_262) rfl  kk_) ?_
            show own_EndsW _ _ _ _ _ _ _ _ (T102.setTop (mkF m 264 #[.val (.int p1), .val (.int p2), .val (.int p3), .val (.int p4), .val (.int (0 : Int32)), .val (.int md), .val (.int cc), .val (.ref b102), .val (.int (9 : Int32)), .unset, .unset] [(.int md)]))
            refine own_ofW (fun tt_ kk_ => XS.iconst X102.here hx rfl (hb hby at_264) kk_) ?_
            show own_EndsW _ _ _ _ _ _ _ _ (T102.setTop (mkF m 265 #[.val (.int p1), .val (.int p2), .val (.int p3), .val (.int p4), .val (.int (0 : Int32)), .val (.int md), .val (.int cc), .val (.ref b102), .val (.int (9 : Int32)), .unset, .unset] [(.int (4 : Int32)), (.int md)]))
            by_cases hc141 : md = (4 : Int32)
            · refine own_ofW (fun tt_ kk_ => XS.icmpNo X102.here hx rfl (hb hby at_265) rfl (teq hc141).2 kk_) ?_
              show own_EndsW _ _ _ _ _ _ _ _ (T102.setTop (mkF m 268 #[.val (.int p1), .val (.int p2), .val (.int p3), .val (.int p4), .val (.int (0 : Int32)), .val (.int md), .val (.int cc), .val (.ref b102), .val (.int (9 : Int32)), .unset, .unset] []))
              refine own_ofW (fun tt_ kk_ => XS.iconst X102.here hx rfl (hb hby at_268) kk_) ?_
              show own_EndsW _ _ _ _ _ _ _ _ (T102.setTop (mkF m 269 #[.val (.int p1), .val (.int p2), .val (.int p3), .val (.int p4), .val (.int (0 : Int32)), .val (.int md), .val (.int cc), .val (.ref b102), .val (.int (9 : Int32)), .unset, .unset] [(.int (3 : Int32))]))
              obtain ⟨T142, h142, k142, X142, e142, E142, A142, st142⟩ := newP X102 hx hZ (hw _ (List.mem_of_getElem? (i := 4) rfl)) e102 (g := (mkF m 269 #[.val (.int p1), .val (.int p2), .val (.int p3), .val (.int p4), .val (.int (0 : Int32)), .val (.int md), .val (.int cc), .val (.ref b102), .val (.int (9 : Int32)), .unset, .unset] [(.int (3 : Int32))])) rfl (hb hby at_269) rfl (by decide) (cap := 3) (by decide) (by decide) (by decide) (by decide)
              obtain ⟨b142, g142⟩ : ∃ z, z = h102.size := ⟨_, rfl⟩
              rw [← g142] at A142 st142
              have ne_b102_b142 : b102 ≠ b142 := Nat.ne_of_lt (Nat.lt_of_lt_of_le Vb102.lt (Nat.le_of_eq g142.symm))
              have sz_b142 : h0.size ≤ b142 := Nat.le_trans K.1 (Nat.le_of_eq g142.symm)
              have g_b142 : n0 ≤ b142 := Nat.le_trans Z0 sz_b142
              replace hk := Nat.le_trans hk E142.1
              replace HC := HC.trans (CHr.ext E142 HC.1)
              replace OL := OL.ext E142
              replace Vb102 := Vb102.ext E142
              have V142 : Arv Z h142 b142 k142 .char (3 : Int32) [(.int (0 : Int32)), (.int (0 : Int32)), (.int (0 : Int32))] (.int (0 : Int32)) := (Arv.new A142 (by decide)).pad (pad_rep [] (.int (0 : Int32)) 3)
              replace K := K.ext E142
              refine own_ofW st142 ?_
              show own_EndsW _ _ _ _ _ _ _ _ (T142.setTop (mkF m 271 #[.val (.int p1), .val (.int p2), .val (.int p3), .val (.int p4), .val (.int (0 : Int32)), .val (.int md), .val (.int cc), .val (.ref b102), .val (.int (9 : Int32)), .unset, .unset] [(.ref b142)]))
              refine own_ofW (fun tt_ kk_ => XS.astore X142.here hx rfl (hb hby at_271) rfl rfl (l' := #[.val (.int p1), .val (.int p2), .val (.int p3), .val (.int p4), .val (.int (0 : Int32)), .val (.int md), .val (.int cc), .val (.ref b102), .val (.int (9 : Int32)), .val (.ref b142), .unset]) rfl kk_) ?_
              show own_EndsW _ _ _ _ _ _ _ _ (T142.setTop (mkF m 273 #[.val (.int p1), .val (.int p2), .val (.int p3), .val (.int p4), .val (.int (0 : Int32)), .val (.int md), .val (.int cc), .val (.ref b102), .val (.int (9 : Int32)), .val (.ref b142), .unset] []))
              refine own_ofW (fun tt_ kk_ => XS.aload X142.here hx rfl (hb hby at_273) rfl rfl kk_) ?_
              show own_EndsW _ _ _ _ _ _ _ _ (T142.setTop (mkF m 275 #[.val (.int p1), .val (.int p2), .val (.int p3), .val (.int p4), .val (.int (0 : Int32)), .val (.int md), .val (.int cc), .val (.ref b102), .val (.int (9 : Int32)), .val (.ref b142), .unset] [(.ref b142)]))
              refine own_ofW (fun tt_ kk_ => XS.iconst X142.here hx rfl (hb hby at_275) kk_) ?_
              show own_EndsW _ _ _ _ _ _ _ _ (T142.setTop (mkF m 276 #[.val (.int p1), .val (.int p2), .val (.int p3), .val (.int p4), .val (.int (0 : Int32)), .val (.int md), .val (.int cc), .val (.ref b102), .val (.int (9 : Int32)), .val (.ref b142), .unset] [(.int (0 : Int32)), (.ref b142)]))
              refine own_ofW (fun tt_ kk_ => XS.iload X142.here hx rfl (hb hby at_276) rfl  kk_) ?_
              show own_EndsW _ _ _ _ _ _ _ _ (T142.setTop (mkF m 278 #[.val (.int p1), .val (.int p2), .val (.int p3), .val (.int p4), .val (.int (0 : Int32)), .val (.int md), .val (.int cc), .val (.ref b102), .val (.int (9 : Int32)), .val (.ref b142), .unset] [(.int cc), (.int (0 : Int32)), (.ref b142)]))
              obtain ⟨cl143, Ar143, q143, S143, N143', H143, G143⟩ := id V142
              have hin143 : ¬ ((0 : Int32) < 0 ∨ cl143.slots.size ≤ ((0 : Int32)).toNatClampNeg) := inb_of S143 ⟨by decide, by decide⟩
              obtain ⟨T143, h143, X143, e143, W143, st143⟩ := stC X142 hx hZ e142 Ar143 (j := (0 : Int32)) hin143 (g := (mkF m 278 #[.val (.int p1), .val (.int p2), .val (.int p3), .val (.int p4), .val (.int (0 : Int32)), .val (.int md), .val (.int cc), .val (.ref b102), .val (.int (9 : Int32)), .val (.ref b142), .unset] [(.int cc), (.int (0 : Int32)), (.ref b142)])) rfl rfl (hb hby at_278)
              have V143' : Arv Z h143 b142 k142 .char (3 : Int32) [(.int (nar .char cc)), (.int (0 : Int32)), (.int (0 : Int32))] (.int (0 : Int32)) := Arv.set Ar143 q143 S143 N143' H143 G143 (fits_nar_char _) W143 0 rfl (Nat.le_of_ble_eq_true rfl)
              replace hk := Nat.le_trans hk (Keep.of_wr W143).1
              replace HC := HC.trans (CHr.wr W143 (Safe.arv hZ.alike V142 (by decide)) HC.1)
              replace OL := OL.wr W143 g_b142
              replace Vb102 := Vb102.other W143 ne_b102_b142
              have N143 := Fr.snoc X143 N102 g_b142
              replace K := K.wr W143 (Or.inr sz_b142)
              refine own_ofW st143 ?_
              show own_EndsW _ _ _ _ _ _ _ _ (T143.setTop (mkF m 279 #[.val (.int p1), .val (.int p2), .val (.int p3), .val (.int p4), .val (.int (0 : Int32)), .val (.int md), .val (.int cc), .val (.ref b102), .val (.int (9 : Int32)), .val (.ref b142), .unset] []))
              refine own_ofW (fun tt_ kk_ => XS.aload X143.here hx rfl (hb hby at_279) rfl rfl kk_) ?_
              show own_EndsW _ _ _ _ _ _ _ _ (T143.setTop (mkF m 281 #[.val (.int p1), .val (.int p2), .val (.int p3), .val (.int p4), .val (.int (0 : Int32)), .val (.int md), .val (.int cc), .val (.ref b102), .val (.int (9 : Int32)), .val (.ref b142), .unset] [(.ref b142)]))
              refine own_ofW (fun tt_ kk_ => XS.iconst X143.here hx rfl (hb hby at_281) kk_) ?_
              show own_EndsW _ _ _ _ _ _ _ _ (T143.setTop (mkF m 282 #[.val (.int p1), .val (.int p2), .val (.int p3), .val (.int p4), .val (.int (0 : Int32)), .val (.int md), .val (.int cc), .val (.ref b102), .val (.int (9 : Int32)), .val (.ref b142), .unset] [(.int (1 : Int32)), (.ref b142)]))
              refine own_ofW (fun tt_ kk_ => XS.iloadN X143.here hx rfl (hb hby at_282) rfl  kk_) ?_
              show own_EndsW _ _ _ _ _ _ _ _ (T143.setTop (mkF m 283 #[.val (.int p1), .val (.int p2), .val (.int p3), .val (.int p4), .val (.int (0 : Int32)), .val (.int md), .val (.int cc), .val (.ref b102), .val (.int (9 : Int32)), .val (.ref b142), .unset] [(.int p3), (.int (1 : Int32)), (.ref b142)]))
              refine own_ofW (fun tt_ kk_ => XS.bipush X143.here hx rfl (hb hby at_283) kk_) ?_
              show own_EndsW _ _ _ _ _ _ _ _ (T143.setTop (mkF m 285 #[.val (.int p1), .val (.int p2), .val (.int p3), .val (.int p4), .val (.int (0 : Int32)), .val (.int md), .val (.int cc), .val (.ref b102), .val (.int (9 : Int32)), .val (.ref b142), .unset] [(.int (8 : Int32)), (.int p3), (.int (1 : Int32)), (.ref b142)]))
              refine own_ofW (fun tt_ kk_ => XS.iushr X143.here hx rfl (hb hby at_285) rfl kk_) ?_
              show own_EndsW _ _ _ _ _ _ _ _ (T143.setTop (mkF m 286 #[.val (.int p1), .val (.int p2), .val (.int p3), .val (.int p4), .val (.int (0 : Int32)), .val (.int md), .val (.int cc), .val (.ref b102), .val (.int (9 : Int32)), .val (.ref b142), .unset] [(.int ((p3.toUInt32 >>> ((8 : Int32) &&& 31).toUInt32).toInt32)), (.int (1 : Int32)), (.ref b142)]))
              refine own_ofW (fun tt_ kk_ => XS.sipush X143.here hx rfl (hb hby at_286) kk_) ?_
              show own_EndsW _ _ _ _ _ _ _ _ (T143.setTop (mkF m 289 #[.val (.int p1), .val (.int p2), .val (.int p3), .val (.int p4), .val (.int (0 : Int32)), .val (.int md), .val (.int cc), .val (.ref b102), .val (.int (9 : Int32)), .val (.ref b142), .unset] [(.int (255 : Int32)), (.int ((p3.toUInt32 >>> ((8 : Int32) &&& 31).toUInt32).toInt32)), (.int (1 : Int32)), (.ref b142)]))
              refine own_ofW (fun tt_ kk_ => XS.iand X143.here hx rfl (hb hby at_289) rfl kk_) ?_
              show own_EndsW _ _ _ _ _ _ _ _ (T143.setTop (mkF m 290 #[.val (.int p1), .val (.int p2), .val (.int p3), .val (.int p4), .val (.int (0 : Int32)), .val (.int md), .val (.int cc), .val (.ref b102), .val (.int (9 : Int32)), .val (.ref b142), .unset] [(.int (((p3.toUInt32 >>> ((8 : Int32) &&& 31).toUInt32).toInt32) &&& (255 : Int32))), (.int (1 : Int32)), (.ref b142)]))
              refine own_ofW (fun tt_ kk_ => XS.i2c X143.here hx rfl (hb hby at_290) rfl kk_) ?_
              show own_EndsW _ _ _ _ _ _ _ _ (T143.setTop (mkF m 291 #[.val (.int p1), .val (.int p2), .val (.int p3), .val (.int p4), .val (.int (0 : Int32)), .val (.int md), .val (.int cc), .val (.ref b102), .val (.int (9 : Int32)), .val (.ref b142), .unset] [(.int ((((p3.toUInt32 >>> ((8 : Int32) &&& 31).toUInt32).toInt32) &&& (255 : Int32)).toUInt32.toUInt16.toUInt32.toInt32)), (.int (1 : Int32)), (.ref b142)]))
              obtain ⟨cl144, Ar144, q144, S144, N144', H144, G144⟩ := id V143'
              have hin144 : ¬ ((1 : Int32) < 0 ∨ cl144.slots.size ≤ ((1 : Int32)).toNatClampNeg) := inb_of S144 ⟨by decide, by decide⟩
              obtain ⟨T144, h144, X144, e144, W144, st144⟩ := stC X143 hx hZ e143 Ar144 (j := (1 : Int32)) hin144 (g := (mkF m 291 #[.val (.int p1), .val (.int p2), .val (.int p3), .val (.int p4), .val (.int (0 : Int32)), .val (.int md), .val (.int cc), .val (.ref b102), .val (.int (9 : Int32)), .val (.ref b142), .unset] [(.int ((((p3.toUInt32 >>> ((8 : Int32) &&& 31).toUInt32).toInt32) &&& (255 : Int32)).toUInt32.toUInt16.toUInt32.toInt32)), (.int (1 : Int32)), (.ref b142)])) rfl rfl (hb hby at_291)
              have V144' : Arv Z h144 b142 k142 .char (3 : Int32) [(.int (nar .char cc)), (.int (nar .char ((((p3.toUInt32 >>> ((8 : Int32) &&& 31).toUInt32).toInt32) &&& (255 : Int32)).toUInt32.toUInt16.toUInt32.toInt32))), (.int (0 : Int32))] (.int (0 : Int32)) := Arv.set Ar144 q144 S144 N144' H144 G144 (fits_nar_char _) W144 1 rfl (Nat.le_of_ble_eq_true rfl)
              replace hk := Nat.le_trans hk (Keep.of_wr W144).1
              replace HC := HC.trans (CHr.wr W144 (Safe.arv hZ.alike V143' (by decide)) HC.1)
              replace OL := OL.wr W144 g_b142
              replace Vb102 := Vb102.other W144 ne_b102_b142
              have N144 := Fr.snoc X144 N143 g_b142
              replace K := K.wr W144 (Or.inr sz_b142)
              refine own_ofW st144 ?_
              show own_EndsW _ _ _ _ _ _ _ _ (T144.setTop (mkF m 292 #[.val (.int p1), .val (.int p2), .val (.int p3), .val (.int p4), .val (.int (0 : Int32)), .val (.int md), .val (.int cc), .val (.ref b102), .val (.int (9 : Int32)), .val (.ref b142), .unset] []))
              refine own_ofW (fun tt_ kk_ => XS.aload X144.here hx rfl (hb hby at_292) rfl rfl kk_) ?_
              show own_EndsW _ _ _ _ _ _ _ _ (T144.setTop (mkF m 294 #[.val (.int p1), .val (.int p2), .val (.int p3), .val (.int p4), .val (.int (0 : Int32)), .val (.int md), .val (.int cc), .val (.ref b102), .val (.int (9 : Int32)), .val (.ref b142), .unset] [(.ref b142)]))
              refine own_ofW (fun tt_ kk_ => XS.iconst X144.here hx rfl (hb hby at_294) kk_) ?_
              show own_EndsW _ _ _ _ _ _ _ _ (T144.setTop (mkF m 295 #[.val (.int p1), .val (.int p2), .val (.int p3), .val (.int p4), .val (.int (0 : Int32)), .val (.int md), .val (.int cc), .val (.ref b102), .val (.int (9 : Int32)), .val (.ref b142), .unset] [(.int (2 : Int32)), (.ref b142)]))
              refine own_ofW (fun tt_ kk_ => XS.iloadN X144.here hx rfl (hb hby at_295) rfl  kk_) ?_
              show own_EndsW _ _ _ _ _ _ _ _ (T144.setTop (mkF m 296 #[.val (.int p1), .val (.int p2), .val (.int p3), .val (.int p4), .val (.int (0 : Int32)), .val (.int md), .val (.int cc), .val (.ref b102), .val (.int (9 : Int32)), .val (.ref b142), .unset] [(.int p4), (.int (2 : Int32)), (.ref b142)]))
              refine own_ofW (fun tt_ kk_ => XS.sipush X144.here hx rfl (hb hby at_296) kk_) ?_
              show own_EndsW _ _ _ _ _ _ _ _ (T144.setTop (mkF m 299 #[.val (.int p1), .val (.int p2), .val (.int p3), .val (.int p4), .val (.int (0 : Int32)), .val (.int md), .val (.int cc), .val (.ref b102), .val (.int (9 : Int32)), .val (.ref b142), .unset] [(.int (255 : Int32)), (.int p4), (.int (2 : Int32)), (.ref b142)]))
              refine own_ofW (fun tt_ kk_ => XS.iand X144.here hx rfl (hb hby at_299) rfl kk_) ?_
              show own_EndsW _ _ _ _ _ _ _ _ (T144.setTop (mkF m 300 #[.val (.int p1), .val (.int p2), .val (.int p3), .val (.int p4), .val (.int (0 : Int32)), .val (.int md), .val (.int cc), .val (.ref b102), .val (.int (9 : Int32)), .val (.ref b142), .unset] [(.int (p4 &&& (255 : Int32))), (.int (2 : Int32)), (.ref b142)]))
              refine own_ofW (fun tt_ kk_ => XS.i2c X144.here hx rfl (hb hby at_300) rfl kk_) ?_
              show own_EndsW _ _ _ _ _ _ _ _ (T144.setTop (mkF m 301 #[.val (.int p1), .val (.int p2), .val (.int p3), .val (.int p4), .val (.int (0 : Int32)), .val (.int md), .val (.int cc), .val (.ref b102), .val (.int (9 : Int32)), .val (.ref b142), .unset] [(.int ((p4 &&& (255 : Int32)).toUInt32.toUInt16.toUInt32.toInt32)), (.int (2 : Int32)), (.ref b142)]))
              obtain ⟨cl145, Ar145, q145, S145, N145', H145, G145⟩ := id V144'
              have hin145 : ¬ ((2 : Int32) < 0 ∨ cl145.slots.size ≤ ((2 : Int32)).toNatClampNeg) := inb_of S145 ⟨by decide, by decide⟩
              obtain ⟨T145, h145, X145, e145, W145, st145⟩ := stC X144 hx hZ e144 Ar145 (j := (2 : Int32)) hin145 (g := (mkF m 301 #[.val (.int p1), .val (.int p2), .val (.int p3), .val (.int p4), .val (.int (0 : Int32)), .val (.int md), .val (.int cc), .val (.ref b102), .val (.int (9 : Int32)), .val (.ref b142), .unset] [(.int ((p4 &&& (255 : Int32)).toUInt32.toUInt16.toUInt32.toInt32)), (.int (2 : Int32)), (.ref b142)])) rfl rfl (hb hby at_301)
              have V145' : Arv Z h145 b142 k142 .char (3 : Int32) [(.int (nar .char cc)), (.int (nar .char ((((p3.toUInt32 >>> ((8 : Int32) &&& 31).toUInt32).toInt32) &&& (255 : Int32)).toUInt32.toUInt16.toUInt32.toInt32))), (.int (nar .char ((p4 &&& (255 : Int32)).toUInt32.toUInt16.toUInt32.toInt32)))] (.int (0 : Int32)) := Arv.set Ar145 q145 S145 N145' H145 G145 (fits_nar_char _) W145 2 rfl (Nat.le_of_ble_eq_true rfl)
              replace hk := Nat.le_trans hk (Keep.of_wr W145).1
              replace HC := HC.trans (CHr.wr W145 (Safe.arv hZ.alike V144' (by decide)) HC.1)
              replace OL := OL.wr W145 g_b142
              replace Vb102 := Vb102.other W145 ne_b102_b142
              have N145 := Fr.snoc X145 N144 g_b142
              replace K := K.wr W145 (Or.inr sz_b142)
              refine own_ofW st145 ?_
              show own_EndsW _ _ _ _ _ _ _ _ (T145.setTop (mkF m 302 #[.val (.int p1), .val (.int p2), .val (.int p3), .val (.int p4), .val (.int (0 : Int32)), .val (.int md), .val (.int cc), .val (.ref b102), .val (.int (9 : Int32)), .val (.ref b142), .unset] []))
              obtain ⟨T146, h146, X146, e146, E146, A146, D146, -, st146⟩ := newO X145 hx hZ hown (hw _ (List.mem_of_getElem? (i := 5) rfl)) (hw _ (List.mem_of_getElem? (i := 6) rfl)) (hw _ (List.mem_of_getElem? (i := 7) rfl)) e145 (g := (mkF m 302 #[.val (.int p1), .val (.int p2), .val (.int p3), .val (.int p4), .val (.int (0 : Int32)), .val (.int md), .val (.int cc), .val (.ref b102), .val (.int (9 : Int32)), .val (.ref b142), .unset] [])) rfl (hb hby at_302) (by decide) (by decide)
              obtain ⟨b146, g146⟩ : ∃ z, z = h145.size := ⟨_, rfl⟩
              rw [← g146] at A146 D146 st146
              have ne_b102_b146 : b102 ≠ b146 := Nat.ne_of_lt (Nat.lt_of_lt_of_le Vb102.lt (Nat.le_of_eq g146.symm))
              have ne_b142_b146 : b142 ≠ b146 := Nat.ne_of_lt (Nat.lt_of_lt_of_le V145'.lt (Nat.le_of_eq g146.symm))
              have sz_b146 : h0.size ≤ b146 := Nat.le_trans K.1 (Nat.le_of_eq g146.symm)
              have g_b146 : n0 ≤ b146 := Nat.le_trans Z0 sz_b146
              have Sf_b146 : Safe Z own_EL s.vm h145 b146 := Safe.new (Nat.le_of_eq g146.symm)
              replace Sf_b146 := Safe.ext E146 HC.1 Sf_b146
              replace hk := Nat.le_trans hk E146.1
              replace HC := HC.trans (CHr.ext E146 HC.1)
              replace OL := OL.ext E146
              replace Vb102 := Vb102.ext E146
              replace V145' := V145'.ext E146
              have F_coder_b146 : Fld Z h146 b146 "java/lang/String" "coder" "B" (.int (0 : Int32)) := D146 (Or.inr (hw _ (List.mem_of_getElem? (i := 31) rfl))) (ty := .byte) (by decide)
              have F_value_b146 : Fld Z h146 b146 "java/lang/String" "value" "[B" .null := D146 (Or.inr (hw _ (List.mem_of_getElem? (i := 33) rfl))) (ty := (.array .byte)) (by decide)
              replace K := K.ext E146
              refine own_ofW st146 ?_
              show own_EndsW _ _ _ _ _ _ _ _ (T146.setTop (mkF m 305 #[.val (.int p1), .val (.int p2), .val (.int p3), .val (.int p4), .val (.int (0 : Int32)), .val (.int md), .val (.int cc), .val (.ref b102), .val (.int (9 : Int32)), .val (.ref b142), .unset] [(.ref b146)]))
              refine own_ofW (fun tt_ kk_ => XS.dup X146.here hx rfl (hb hby at_305) rfl rfl kk_) ?_
              show own_EndsW _ _ _ _ _ _ _ _ (T146.setTop (mkF m 306 #[.val (.int p1), .val (.int p2), .val (.int p3), .val (.int p4), .val (.int (0 : Int32)), .val (.int md), .val (.int cc), .val (.ref b102), .val (.int (9 : Int32)), .val (.ref b142), .unset] [(.ref b146), (.ref b146)]))
              refine own_ofW (fun tt_ kk_ => XS.aload X146.here hx rfl (hb hby at_306) rfl rfl kk_) ?_
              show own_EndsW _ _ _ _ _ _ _ _ (T146.setTop (mkF m 308 #[.val (.int p1), .val (.int p2), .val (.int p3), .val (.int p4), .val (.int (0 : Int32)), .val (.int md), .val (.int cc), .val (.ref b102), .val (.int (9 : Int32)), .val (.ref b142), .unset] [(.ref b142), (.ref b146), (.ref b146)]))
              obtain ⟨cs147, ecs147⟩ : ∃ z : List Int32, z = [(nar .char cc), (nar .char ((((p3.toUInt32 >>> ((8 : Int32) &&& 31).toUInt32).toInt32) &&& (255 : Int32)).toUInt32.toUInt16.toUInt32.toInt32)), (nar .char ((p4 &&& (255 : Int32)).toUInt32.toUInt16.toUInt32.toInt32))] := ⟨_, rfl⟩
              have vb147 : own_lat8 cs147 := by rw [ecs147]; exact (own_three (by rw [nr_cc]; exact lat_cc) (own_latN _) (own_latN _))
              have ln147 : cs147.length = 3 := by rw [ecs147]; exact rfl
              have V145'' : Arv Z h146 b142 k142 .char (3 : Int32) (cs147.map Value.int) (.int (0 : Int32)) := by rw [ecs147]; exact V145'
              have ZH147 : n0 ≤ h146.size := Nat.le_trans Z0 K.1
              obtain ⟨_, _, ⟨T147, L147, kk147, nn147⟩, -, X147, ⟨Lc147, Q147, l147, y147, z147⟩, st147⟩ := X146.specialBack hx (y := (⟨"java/lang/String", "<init>", "([C)V"⟩ : MethodName)) rfl hown (mvT hZ (hw _ (List.mem_of_getElem? (i := 8) rfl))) (mvT hZ (hw _ (List.mem_of_getElem? (i := 9) rfl))) (mvT hZ (hw _ (List.mem_of_getElem? (i := 10) rfl))) (by decide) (StrChars.Road.backV (W := 1) hZ hws (kI := 4) (hw _ (List.mem_of_getElem? (i := 6) rfl)) (cs := cs147) (bs := cs147.map StrChars.lo8) (n := 3) g_b146 ZH147 A146 F_value_b146 F_coder_b146 V145'' (O2.ext OL.2) P3 ln147 rfl (by decide) (by decide) vb147 rfl (by decide) (by decide)) (g := (mkF m 308 #[.val (.int p1), .val (.int p2), .val (.int p3), .val (.int p4), .val (.int (0 : Int32)), .val (.int md), .val (.int cc), .val (.ref b102), .val (.int (9 : Int32)), .val (.ref b142), .unset] [(.ref b142), (.ref b146), (.ref b146)])) rfl (by rw [hml]; rfl) (Steps.refl _) (a := b146) (argsL := [(.ref b142)]) (rest := [(.ref b146)]) (lenOf pd__AC_r_V rfl) rfl (by show 2 * 0 + _ ≤ _; exact Nat.le_of_eq rfl) (hb hby at_308) (fun _ _ => ⟨rfl, e146, (by decide : 3 + 1 ≤ _), (by decide : 16 + 3 ≤ _)⟩)
              dsimp only [Pt.U, Pt.locs, Pt.cells, Pt.slots] at X147 l147 y147 z147 st147 Q147
              subst l147 y147 z147
              obtain ⟨rfl, Nq147, Kq147, Eq147, Cq147, t147, kb147, g_t147, szz147, nex147, Fq147, Vq147⟩ := Q147
              obtain ⟨h147, eh147⟩ : ∃ z, z = T147.heap := ⟨_, rfl⟩
              rw [← eh147] at Kq147 Eq147 Cq147 Fq147 Vq147
              have e147 := eh147.symm
              have Sf_b146' := Safe.keep Kq147 (sfS Sf_b146 sf0) HC.1 Sf_b146
              replace hk := Nat.le_trans hk Kq147.1
              replace HC := HC.trans (CHr.keep Kq147 (sfS Sf_b146 sf0) HC.1)
              replace Sf_b146 := Sf_b146'
              replace OL := OL.keep Kq147 (allS g_b146 all0)
              replace Vb102 := Vb102.keep Kq147 (ninS ne_b102_b146 nin0)
              replace A146 := A146.keep Kq147
              replace K := K.trans Kq147 (allS (Or.inr sz_b146) all0)
              have N147 := Fr.app N145 Nq147
              refine own_ofW (fun t k => st147.trans k) ?_
              show own_EndsW _ _ _ _ _ _ _ _ (T147.setTop (mkF m 311 #[.val (.int p1), .val (.int p2), .val (.int p3), .val (.int p4), .val (.int (0 : Int32)), .val (.int md), .val (.int cc), .val (.ref b102), .val (.int (9 : Int32)), .val (.ref b142), .unset] [(.ref b146)]))
              obtain ⟨v148, T148, L148, h148, k148', X148, e148, Q148, hZ, hown, hS, hk, HCq148, st148⟩ := own_staticW X147 hx hZ hown e147 hS hk hEL HC.1 (hw _ (List.mem_of_getElem? (i := 34) rfl)) (hw _ (List.mem_of_getElem? (i := 35) rfl)) (hw _ (List.mem_of_getElem? (i := 36) rfl)) (hw _ (List.mem_of_getElem? (i := 37) rfl)) (by decide) (argsL := [(.ref b146)]) (rest := []) (rm_nlN l Z a0 hw b146 t147 kb147 cs147 (3 : Int32) G1 h147 n0 (Nat.le_trans Z0 K.1) hEL Eq147 Cq147 Fq147 Vq147 (by rw [ln147]; rfl) vb147 (by rw [ln147]; decide) O2 P3 OL (by rw [ecs147]; exact (own_neL (n := 3) rfl len_own_EXT (by decide))) (by rw [ecs147]; exact (own_neL (n := 3) rfl len_own_MOD (by decide)))) (g := (mkF m 311 #[.val (.int p1), .val (.int p2), .val (.int p3), .val (.int p4), .val (.int (0 : Int32)), .val (.int md), .val (.int cc), .val (.ref b102), .val (.int (9 : Int32)), .val (.ref b142), .unset] [(.ref b146)])) rfl (by rw [hml]; rfl) (lenOf pd__Ljava_lang_String__r_Z rfl) rfl (by decide) (Nat.le_of_ble_eq_true rfl) (by decide) (by decide) (hb hby at_311)
              replace HC := HC.trans HCq148
              obtain ⟨rfl, Nq148, Kq148⟩ := Q148
              replace OL := OL.keep Kq148 all0
              replace Vb102 := Vb102.keep Kq148 nin0
              replace Eq147 := Eq147.keep Kq148
              replace Cq147 := Cq147.keep Kq148 nin0
              replace Fq147 := Fq147.keep Kq148 nin0
              replace Vq147 := Vq147.keep Kq148 nin0
              replace K := K.trans Kq148 all0
              have N148 := Fr.app N147 Nq148
              refine own_ofW st148 ?_
              show own_EndsW _ _ _ _ _ _ _ _ (T148.setTop (mkF m 314 #[.val (.int p1), .val (.int p2), .val (.int p3), .val (.int p4), .val (.int (0 : Int32)), .val (.int md), .val (.int cc), .val (.ref b102), .val (.int (9 : Int32)), .val (.ref b142), .unset] [(.int (0 : Int32))]))
              refine own_ofW (fun tt_ kk_ => XS.ifNo X148.here hx rfl (hb hby at_314) rfl ((if0 _ _).trans (teq (by decide : ((0 : Int32) = (0 : Int32)))).2) kk_) ?_
              show own_EndsW _ _ _ _ _ _ _ _ (T148.setTop (mkF m 317 #[.val (.int p1), .val (.int p2), .val (.int p3), .val (.int p4), .val (.int (0 : Int32)), .val (.int md), .val (.int cc), .val (.ref b102), .val (.int (9 : Int32)), .val (.ref b142), .unset] []))
              refine own_ofW (fun tt_ kk_ => XS.iconst X148.here hx rfl (hb hby at_317) kk_) ?_
              show own_EndsW _ _ _ _ _ _ _ _ (T148.setTop (mkF m 318 #[.val (.int p1), .val (.int p2), .val (.int p3), .val (.int p4), .val (.int (0 : Int32)), .val (.int md), .val (.int cc), .val (.ref b102), .val (.int (9 : Int32)), .val (.ref b142), .unset] [(.int (1 : Int32))]))
              refine own_ofW (fun tt_ kk_ => XS.goto X148.here hx rfl (pc0 := 318) (pc' := 322) rfl (hb hby at_318) (by decide) (by decide) kk_) ?_
              show own_EndsW _ _ _ _ _ _ _ _ (T148.setTop (mkF m 322 #[.val (.int p1), .val (.int p2), .val (.int p3), .val (.int p4), .val (.int (0 : Int32)), .val (.int md), .val (.int cc), .val (.ref b102), .val (.int (9 : Int32)), .val (.ref b142), .unset] [(.int (1 : Int32))]))
              refine own_retNW X148 hx hlk hZ hS e148 hk es hEL HC (t := .boolean) hret (by simp) (z' := (1 : Int32)) rfl (hb hby at_322) (by decide) (by decide) ?_
              exact ⟨rfl, N148⟩
            · refine own_ofW (fun tt_ kk_ => XS.icmpYes X102.here hx rfl (pc0 := 265) (pc' := 323) rfl (hb hby at_265) rfl (feq hc141).2 (by decide) (by decide) kk_) ?_
              show own_EndsW _ _ _ _ _ _ _ _ (T102.setTop (mkF m 323 #[.val (.int p1), .val (.int p2), .val (.int p3), .val (.int p4), .val (.int (0 : Int32)), .val (.int md), .val (.int cc), .val (.ref b102), .val (.int (9 : Int32)), .unset, .unset] []))
              refine own_ofW (fun tt_ kk_ => XS.iload X102.here hx rfl (hb hby at_323) rfl  kk_) ?_
              show own_EndsW _ _ _ _ _ _ _ _ (T102.setTop (mkF m 325 #[.val (.int p1), .val (.int p2), .val (.int p3), .val (.int p4), .val (.int (0 : Int32)), .val (.int md), .val (.int cc), .val (.ref b102), .val (.int (9 : Int32)), .unset, .unset] [(.int md)]))
              refine own_ofW (fun tt_ kk_ => XS.iconst X102.here hx rfl (hb hby at_325) kk_) ?_
              show own_EndsW _ _ _ _ _ _ _ _ (T102.setTop (mkF m 326 #[.val (.int p1), .val (.int p2), .val (.int p3), .val (.int p4), .val (.int (0 : Int32)), .val (.int md), .val (.int cc), .val (.ref b102), .val (.int (9 : Int32)), .unset, .unset] [(.int (5 : Int32)), (.int md)]))
              by_cases hc149 : md = (5 : Int32)
              · refine own_ofW (fun tt_ kk_ => XS.icmpNo X102.here hx rfl (hb hby at_326) rfl (teq hc149).2 kk_) ?_
                show own_EndsW _ _ _ _ _ _ _ _ (T102.setTop (mkF m 329 #[.val (.int p1), .val (.int p2), .val (.int p3), .val (.int p4), .val (.int (0 : Int32)), .val (.int md), .val (.int cc), .val (.ref b102), .val (.int (9 : Int32)), .unset, .unset] []))
                obtain ⟨T150, h150, X150, e150, E150, A150, D150, -, st150⟩ := newO X102 hx hZ hown (hw _ (List.mem_of_getElem? (i := 5) rfl)) (hw _ (List.mem_of_getElem? (i := 6) rfl)) (hw _ (List.mem_of_getElem? (i := 7) rfl)) e102 (g := (mkF m 329 #[.val (.int p1), .val (.int p2), .val (.int p3), .val (.int p4), .val (.int (0 : Int32)), .val (.int md), .val (.int cc), .val (.ref b102), .val (.int (9 : Int32)), .unset, .unset] [])) rfl (hb hby at_329) (by decide) (by decide)
                obtain ⟨b150, g150⟩ : ∃ z, z = h102.size := ⟨_, rfl⟩
                rw [← g150] at A150 D150 st150
                have ne_b102_b150 : b102 ≠ b150 := Nat.ne_of_lt (Nat.lt_of_lt_of_le Vb102.lt (Nat.le_of_eq g150.symm))
                have sz_b150 : h0.size ≤ b150 := Nat.le_trans K.1 (Nat.le_of_eq g150.symm)
                have g_b150 : n0 ≤ b150 := Nat.le_trans Z0 sz_b150
                have Sf_b150 : Safe Z own_EL s.vm h102 b150 := Safe.new (Nat.le_of_eq g150.symm)
                replace Sf_b150 := Safe.ext E150 HC.1 Sf_b150
                replace hk := Nat.le_trans hk E150.1
                replace HC := HC.trans (CHr.ext E150 HC.1)
                replace OL := OL.ext E150
                replace Vb102 := Vb102.ext E150
                have F_coder_b150 : Fld Z h150 b150 "java/lang/String" "coder" "B" (.int (0 : Int32)) := D150 (Or.inr (hw _ (List.mem_of_getElem? (i := 31) rfl))) (ty := .byte) (by decide)
                have F_value_b150 : Fld Z h150 b150 "java/lang/String" "value" "[B" .null := D150 (Or.inr (hw _ (List.mem_of_getElem? (i := 33) rfl))) (ty := (.array .byte)) (by decide)
                replace K := K.ext E150
                refine own_ofW st150 ?_
                show own_EndsW _ _ _ _ _ _ _ _ (T150.setTop (mkF m 332 #[.val (.int p1), .val (.int p2), .val (.int p3), .val (.int p4), .val (.int (0 : Int32)), .val (.int md), .val (.int cc), .val (.ref b102), .val (.int (9 : Int32)), .unset, .unset] [(.ref b150)]))
                refine own_ofW (fun tt_ kk_ => XS.dup X150.here hx rfl (hb hby at_332) rfl rfl kk_) ?_
                show own_EndsW _ _ _ _ _ _ _ _ (T150.setTop (mkF m 333 #[.val (.int p1), .val (.int p2), .val (.int p3), .val (.int p4), .val (.int (0 : Int32)), .val (.int md), .val (.int cc), .val (.ref b102), .val (.int (9 : Int32)), .unset, .unset] [(.ref b150), (.ref b150)]))
                refine own_ofW (fun tt_ kk_ => XS.iconst X150.here hx rfl (hb hby at_333) kk_) ?_
                show own_EndsW _ _ _ _ _ _ _ _ (T150.setTop (mkF m 334 #[.val (.int p1), .val (.int p2), .val (.int p3), .val (.int p4), .val (.int (0 : Int32)), .val (.int md), .val (.int cc), .val (.ref b102), .val (.int (9 : Int32)), .unset, .unset] [(.int (0 : Int32)), (.ref b150), (.ref b150)]))
                obtain ⟨T151, h151, k151, X151, e151, E151, A151, st151⟩ := newP X150 hx hZ (hw _ (List.mem_of_getElem? (i := 4) rfl)) e150 (g := (mkF m 334 #[.val (.int p1), .val (.int p2), .val (.int p3), .val (.int p4), .val (.int (0 : Int32)), .val (.int md), .val (.int cc), .val (.ref b102), .val (.int (9 : Int32)), .unset, .unset] [(.int (0 : Int32)), (.ref b150), (.ref b150)])) rfl (hb hby at_334) rfl (by decide) (cap := 0) (by decide) (by decide) (by decide) (by decide)
                obtain ⟨b151, g151⟩ : ∃ z, z = h150.size := ⟨_, rfl⟩
                rw [← g151] at A151 st151
                have ne_b102_b151 : b102 ≠ b151 := Nat.ne_of_lt (Nat.lt_of_lt_of_le Vb102.lt (Nat.le_of_eq g151.symm))
                have ne_b150_b151 : b150 ≠ b151 := Nat.ne_of_lt (Nat.lt_of_lt_of_le A150.lt (Nat.le_of_eq g151.symm))
                have sz_b151 : h0.size ≤ b151 := Nat.le_trans K.1 (Nat.le_of_eq g151.symm)
                have g_b151 : n0 ≤ b151 := Nat.le_trans Z0 sz_b151
                replace Sf_b150 := Safe.ext E151 HC.1 Sf_b150
                replace hk := Nat.le_trans hk E151.1
                replace HC := HC.trans (CHr.ext E151 HC.1)
                replace OL := OL.ext E151
                replace Vb102 := Vb102.ext E151
                replace A150 := A150.ext E151
                replace F_coder_b150 := F_coder_b150.ext E151
                replace F_value_b150 := F_value_b150.ext E151
                have V151 : Arv Z h151 b151 k151 .char (0 : Int32) [] (.int (0 : Int32)) := (Arv.new A151 (by decide)).pad (pad_rep [] (.int (0 : Int32)) 0)
                replace K := K.ext E151
                refine own_ofW st151 ?_
                show own_EndsW _ _ _ _ _ _ _ _ (T151.setTop (mkF m 336 #[.val (.int p1), .val (.int p2), .val (.int p3), .val (.int p4), .val (.int (0 : Int32)), .val (.int md), .val (.int cc), .val (.ref b102), .val (.int (9 : Int32)), .unset, .unset] [(.ref b151), (.ref b150), (.ref b150)]))
                obtain ⟨v152, T152, L152, h152, k152', X152, e152, Q152, hZ, hown, hS, hk, HCq152, st152⟩ := own_specialWS X151 hx hZ hown e151 hS hk hEL HC.1 Sf_b150 A150.lt (b := b150) rfl (hw _ (List.mem_of_getElem? (i := 8) rfl)) (hw _ (List.mem_of_getElem? (i := 9) rfl)) (hw _ (List.mem_of_getElem? (i := 7) rfl)) (hw _ (List.mem_of_getElem? (i := 10) rfl)) (by decide) (argsL := [(.ref b151)]) (rest := [(.ref b150)]) (rm_ini1 l Z a0 hw b150 b151 k151 h151 n0 (Nat.le_trans Z0 K.1) hEL A150 F_value_b150 F_coder_b150 g_b150 V151) (g := (mkF m 336 #[.val (.int p1), .val (.int p2), .val (.int p3), .val (.int p4), .val (.int (0 : Int32)), .val (.int md), .val (.int cc), .val (.ref b102), .val (.int (9 : Int32)), .unset, .unset] [(.ref b151), (.ref b150), (.ref b150)])) rfl (by rw [hml]; rfl) (lenOf pd__AC_r_V rfl) rfl (by decide) (Nat.le_of_ble_eq_true rfl) (by decide) (by decide) (hb hby at_336)
                replace HC := HC.trans HCq152
                obtain ⟨t152, k152, rfl, Nq152, Kq152, Eq152, Cq152, Fq152, Vq152⟩ := Q152
                replace OL := OL.keep Kq152 (allS g_b150 all0)
                replace Vb102 := Vb102.keep Kq152 (ninS ne_b102_b150 nin0)
                replace A150 := A150.keep Kq152
                replace V151 := V151.keep Kq152 (ninS (Ne.symm ne_b150_b151) nin0)
                replace K := K.trans Kq152 (allS (Or.inr sz_b150) all0)
                have N152 := Fr.app N102 Nq152
                refine own_ofW st152 ?_
                show own_EndsW _ _ _ _ _ _ _ _ (T152.setTop (mkF m 339 #[.val (.int p1), .val (.int p2), .val (.int p3), .val (.int p4), .val (.int (0 : Int32)), .val (.int md), .val (.int cc), .val (.ref b102), .val (.int (9 : Int32)), .unset, .unset] [(.ref b150)]))
                obtain ⟨v153, T153, L153, h153, k153', X153, e153, Q153, hZ, hown, hS, hk, HCq153, st153⟩ := own_staticW X152 hx hZ hown e152 hS hk hEL HC.1 (hw _ (List.mem_of_getElem? (i := 34) rfl)) (hw _ (List.mem_of_getElem? (i := 35) rfl)) (hw _ (List.mem_of_getElem? (i := 36) rfl)) (hw _ (List.mem_of_getElem? (i := 37) rfl)) (by decide) (argsL := [(.ref b150)]) (rest := []) (rm_nlN l Z a0 hw b150 t152 k152 [] (0 : Int32) G1 h152 n0 (Nat.le_trans Z0 K.1) hEL A150 Cq152 Fq152 Vq152 rfl (fun _ h => nomatch h) (by decide) O2 P3 OL (by decide) (by decide)) (g := (mkF m 339 #[.val (.int p1), .val (.int p2), .val (.int p3), .val (.int p4), .val (.int (0 : Int32)), .val (.int md), .val (.int cc), .val (.ref b102), .val (.int (9 : Int32)), .unset, .unset] [(.ref b150)])) rfl (by rw [hml]; rfl) (lenOf pd__Ljava_lang_String__r_Z rfl) rfl (by decide) (Nat.le_of_ble_eq_true rfl) (by decide) (by decide) (hb hby at_339)
                replace HC := HC.trans HCq153
                obtain ⟨rfl, Nq153, Kq153⟩ := Q153
                replace OL := OL.keep Kq153 all0
                replace Vb102 := Vb102.keep Kq153 nin0
                replace A150 := A150.keep Kq153
                replace V151 := V151.keep Kq153 nin0
                replace Eq152 := Eq152.keep Kq153
                replace Cq152 := Cq152.keep Kq153 nin0
                replace Fq152 := Fq152.keep Kq153 nin0
                replace Vq152 := Vq152.keep Kq153 nin0
                replace K := K.trans Kq153 all0
                have N153 := Fr.app N152 Nq153
                refine own_ofW st153 ?_
                show own_EndsW _ _ _ _ _ _ _ _ (T153.setTop (mkF m 342 #[.val (.int p1), .val (.int p2), .val (.int p3), .val (.int p4), .val (.int (0 : Int32)), .val (.int md), .val (.int cc), .val (.ref b102), .val (.int (9 : Int32)), .unset, .unset] [(.int (0 : Int32))]))
                refine own_ofW (fun tt_ kk_ => XS.ifNo X153.here hx rfl (hb hby at_342) rfl ((if0 _ _).trans (teq (by decide : ((0 : Int32) = (0 : Int32)))).2) kk_) ?_
                show own_EndsW _ _ _ _ _ _ _ _ (T153.setTop (mkF m 345 #[.val (.int p1), .val (.int p2), .val (.int p3), .val (.int p4), .val (.int (0 : Int32)), .val (.int md), .val (.int cc), .val (.ref b102), .val (.int (9 : Int32)), .unset, .unset] []))
                refine own_ofW (fun tt_ kk_ => XS.iconst X153.here hx rfl (hb hby at_345) kk_) ?_
                show own_EndsW _ _ _ _ _ _ _ _ (T153.setTop (mkF m 346 #[.val (.int p1), .val (.int p2), .val (.int p3), .val (.int p4), .val (.int (0 : Int32)), .val (.int md), .val (.int cc), .val (.ref b102), .val (.int (9 : Int32)), .unset, .unset] [(.int (1 : Int32))]))
                refine own_ofW (fun tt_ kk_ => XS.goto X153.here hx rfl (pc0 := 346) (pc' := 350) rfl (hb hby at_346) (by decide) (by decide) kk_) ?_
                show own_EndsW _ _ _ _ _ _ _ _ (T153.setTop (mkF m 350 #[.val (.int p1), .val (.int p2), .val (.int p3), .val (.int p4), .val (.int (0 : Int32)), .val (.int md), .val (.int cc), .val (.ref b102), .val (.int (9 : Int32)), .unset, .unset] [(.int (1 : Int32))]))
                refine own_retNW X153 hx hlk hZ hS e153 hk es hEL HC (t := .boolean) hret (by simp) (z' := (1 : Int32)) rfl (hb hby at_350) (by decide) (by decide) ?_
                exact ⟨rfl, N153⟩
              · refine own_ofW (fun tt_ kk_ => XS.icmpYes X102.here hx rfl (pc0 := 326) (pc' := 351) rfl (hb hby at_326) rfl (feq hc149).2 (by decide) (by decide) kk_) ?_
                show own_EndsW _ _ _ _ _ _ _ _ (T102.setTop (mkF m 351 #[.val (.int p1), .val (.int p2), .val (.int p3), .val (.int p4), .val (.int (0 : Int32)), .val (.int md), .val (.int cc), .val (.ref b102), .val (.int (9 : Int32)), .unset, .unset] []))
                refine own_ofW (fun tt_ kk_ => XS.iload X102.here hx rfl (hb hby at_351) rfl  kk_) ?_
                show own_EndsW _ _ _ _ _ _ _ _ (T102.setTop (mkF m 353 #[.val (.int p1), .val (.int p2), .val (.int p3), .val (.int p4), .val (.int (0 : Int32)), .val (.int md), .val (.int cc), .val (.ref b102), .val (.int (9 : Int32)), .unset, .unset] [(.int md)]))
                refine own_ofW (fun tt_ kk_ => XS.iconst X102.here hx rfl (hb hby at_353) kk_) ?_
                show own_EndsW _ _ _ _ _ _ _ _ (T102.setTop (mkF m 354 #[.val (.int p1), .val (.int p2), .val (.int p3), .val (.int p4), .val (.int (0 : Int32)), .val (.int md), .val (.int cc), .val (.ref b102), .val (.int (9 : Int32)), .unset, .unset] [(.int (1 : Int32)), (.int md)]))
                refine own_ofW (fun tt_ kk_ => XS.iand X102.here hx rfl (hb hby at_354) rfl kk_) ?_
                show own_EndsW _ _ _ _ _ _ _ _ (T102.setTop (mkF m 355 #[.val (.int p1), .val (.int p2), .val (.int p3), .val (.int p4), .val (.int (0 : Int32)), .val (.int md), .val (.int cc), .val (.ref b102), .val (.int (9 : Int32)), .unset, .unset] [(.int (md &&& (1 : Int32)))]))
                refine own_ofW (fun tt_ kk_ => XS.iconst X102.here hx rfl (hb hby at_355) kk_) ?_
                show own_EndsW _ _ _ _ _ _ _ _ (T102.setTop (mkF m 356 #[.val (.int p1), .val (.int p2), .val (.int p3), .val (.int p4), .val (.int (0 : Int32)), .val (.int md), .val (.int cc), .val (.ref b102), .val (.int (9 : Int32)), .unset, .unset] [(.int (2 : Int32)), (.int (md &&& (1 : Int32)))]))
                refine own_ofW (fun tt_ kk_ => XS.ishl X102.here hx rfl (hb hby at_356) rfl kk_) ?_
                show own_EndsW _ _ _ _ _ _ _ _ (T102.setTop (mkF m 357 #[.val (.int p1), .val (.int p2), .val (.int p3), .val (.int p4), .val (.int (0 : Int32)), .val (.int md), .val (.int cc), .val (.ref b102), .val (.int (9 : Int32)), .unset, .unset] [(.int ((md &&& (1 : Int32)) <<< ((2 : Int32) &&& 31)))]))
                refine own_ofW (fun tt_ kk_ => XS.iloadN X102.here hx rfl (hb hby at_357) rfl  kk_) ?_
                show own_EndsW _ _ _ _ _ _ _ _ (T102.setTop (mkF m 358 #[.val (.int p1), .val (.int p2), .val (.int p3), .val (.int p4), .val (.int (0 : Int32)), .val (.int md), .val (.int cc), .val (.ref b102), .val (.int (9 : Int32)), .unset, .unset] [(.int p2), (.int ((md &&& (1 : Int32)) <<< ((2 : Int32) &&& 31)))]))
                refine own_ofW (fun tt_ kk_ => XS.iconst X102.here hx rfl (hb hby at_358) kk_) ?_
                show own_EndsW _ _ _ _ _ _ _ _ (T102.setTop (mkF m 359 #[.val (.int p1), .val (.int p2), .val (.int p3), .val (.int p4), .val (.int (0 : Int32)), .val (.int md), .val (.int cc), .val (.ref b102), .val (.int (9 : Int32)), .unset, .unset] [(.int (3 : Int32)), (.int p2), (.int ((md &&& (1 : Int32)) <<< ((2 : Int32) &&& 31)))]))
                refine own_ofW (fun tt_ kk_ => XS.iand X102.here hx rfl (hb hby at_359) rfl kk_) ?_
                show own_EndsW _ _ _ _ _ _ _ _ (T102.setTop (mkF m 360 #[.val (.int p1), .val (.int p2), .val (.int p3), .val (.int p4), .val (.int (0 : Int32)), .val (.int md), .val (.int cc), .val (.ref b102), .val (.int (9 : Int32)), .unset, .unset] [(.int (p2 &&& (3 : Int32))), (.int ((md &&& (1 : Int32)) <<< ((2 : Int32) &&& 31)))]))
                refine own_ofW (fun tt_ kk_ => XS.ior X102.here hx rfl (hb hby at_360) rfl kk_) ?_
                show own_EndsW _ _ _ _ _ _ _ _ (T102.setTop (mkF m 361 #[.val (.int p1), .val (.int p2), .val (.int p3), .val (.int p4), .val (.int (0 : Int32)), .val (.int md), .val (.int cc), .val (.ref b102), .val (.int (9 : Int32)), .unset, .unset] [(.int (((md &&& (1 : Int32)) <<< ((2 : Int32) &&& 31)) ||| (p2 &&& (3 : Int32))))]))
                refine own_ofW (fun tt_ kk_ => XS.istore X102.here hx rfl (hb hby at_361) rfl (l' := #[.val (.int p1), .val (.int p2), .val (.int p3), .val (.int p4), .val (.int (0 : Int32)), .val (.int md), .val (.int cc), .val (.ref b102), .val (.int (9 : Int32)), .val (.int (((md &&& (1 : Int32)) <<< ((2 : Int32) &&& 31)) ||| (p2 &&& (3 : Int32)))), .unset]) rfl kk_) ?_
                show own_EndsW _ _ _ _ _ _ _ _ (T102.setTop (mkF m 363 #[.val (.int p1), .val (.int p2), .val (.int p3), .val (.int p4), .val (.int (0 : Int32)), .val (.int md), .val (.int cc), .val (.ref b102), .val (.int (9 : Int32)), .val (.int (((md &&& (1 : Int32)) <<< ((2 : Int32) &&& 31)) ||| (p2 &&& (3 : Int32)))), .unset] []))
                refine own_ofW (fun tt_ kk_ => XS.iload X102.here hx rfl (hb hby at_363) rfl  kk_) ?_
                show own_EndsW _ _ _ _ _ _ _ _ (T102.setTop (mkF m 365 #[.val (.int p1), .val (.int p2), .val (.int p3), .val (.int p4), .val (.int (0 : Int32)), .val (.int md), .val (.int cc), .val (.ref b102), .val (.int (9 : Int32)), .val (.int (((md &&& (1 : Int32)) <<< ((2 : Int32) &&& 31)) ||| (p2 &&& (3 : Int32)))), .unset] [(.int (((md &&& (1 : Int32)) <<< ((2 : Int32) &&& 31)) ||| (p2 &&& (3 : Int32))))]))
                obtain ⟨v154, T154, L154, h154, k154', X154, e154, Q154, hZ, hown, hS, hk, HCq154, st154⟩ := own_staticW X102 hx hZ hown e102 hS hk hEL HC.1 (hw _ (List.mem_of_getElem? (i := 51) rfl)) (hw _ (List.mem_of_getElem? (i := 52) rfl)) (hw _ (List.mem_of_getElem? (i := 2) rfl)) (hw _ (List.mem_of_getElem? (i := 53) rfl)) (by decide) (argsL := [(.int (((md &&& (1 : Int32)) <<< ((2 : Int32) &&& 31)) ||| (p2 &&& (3 : Int32))))]) (rest := []) (rm_near l Z a0 hw (((md &&& (1 : Int32)) <<< ((2 : Int32) &&& 31)) ||| (p2 &&& (3 : Int32))) h102 n0 (Nat.le_trans Z0 K.1) hEL) (g := (mkF m 365 #[.val (.int p1), .val (.int p2), .val (.int p3), .val (.int p4), .val (.int (0 : Int32)), .val (.int md), .val (.int cc), .val (.ref b102), .val (.int (9 : Int32)), .val (.int (((md &&& (1 : Int32)) <<< ((2 : Int32) &&& 31)) ||| (p2 &&& (3 : Int32)))), .unset] [(.int (((md &&& (1 : Int32)) <<< ((2 : Int32) &&& 31)) ||| (p2 &&& (3 : Int32))))])) rfl (by rw [hml]; rfl) (lenOf pd__I_r_Ljava_lang_String_ rfl) rfl (by decide) (Nat.le_of_ble_eq_true rfl) (by decide) (by decide) (hb hby at_365)
                replace HC := HC.trans HCq154
                obtain ⟨b154, u154, k154, cs154, NN154, rfl, Nq154, Kq154, Es154, Cs154, Fs154, Vs154, hN154, hb154, hl154, n1154, n2154⟩ := Q154
                replace OL := OL.keep Kq154 all0
                replace Vb102 := Vb102.keep Kq154 nin0
                replace K := K.trans Kq154 all0
                have N154 := Fr.app N102 Nq154
                refine own_ofW st154 ?_
                show own_EndsW _ _ _ _ _ _ _ _ (T154.setTop (mkF m 368 #[.val (.int p1), .val (.int p2), .val (.int p3), .val (.int p4), .val (.int (0 : Int32)), .val (.int md), .val (.int cc), .val (.ref b102), .val (.int (9 : Int32)), .val (.int (((md &&& (1 : Int32)) <<< ((2 : Int32) &&& 31)) ||| (p2 &&& (3 : Int32)))), .unset] [(.ref b154)]))
                obtain ⟨v155, T155, L155, h155, k155', X155, e155, Q155, hZ, hown, hS, hk, HCq155, st155⟩ := own_staticW X154 hx hZ hown e154 hS hk hEL HC.1 (hw _ (List.mem_of_getElem? (i := 34) rfl)) (hw _ (List.mem_of_getElem? (i := 35) rfl)) (hw _ (List.mem_of_getElem? (i := 36) rfl)) (hw _ (List.mem_of_getElem? (i := 37) rfl)) (by decide) (argsL := [(.ref b154)]) (rest := []) (rm_nlN l Z a0 hw b154 u154 k154 cs154 NN154 G1 h154 n0 (Nat.le_trans Z0 K.1) hEL Es154 Cs154 Fs154 Vs154 hN154 hb154 hl154 O2 P3 OL n1154 n2154) (g := (mkF m 368 #[.val (.int p1), .val (.int p2), .val (.int p3), .val (.int p4), .val (.int (0 : Int32)), .val (.int md), .val (.int cc), .val (.ref b102), .val (.int (9 : Int32)), .val (.int (((md &&& (1 : Int32)) <<< ((2 : Int32) &&& 31)) ||| (p2 &&& (3 : Int32)))), .unset] [(.ref b154)])) rfl (by rw [hml]; rfl) (lenOf pd__Ljava_lang_String__r_Z rfl) rfl (by decide) (Nat.le_of_ble_eq_true rfl) (by decide) (by decide) (hb hby at_368)
                replace HC := HC.trans HCq155
                obtain ⟨rfl, Nq155, Kq155⟩ := Q155
                replace OL := OL.keep Kq155 all0
                replace Vb102 := Vb102.keep Kq155 nin0
                replace Es154 := Es154.keep Kq155
                replace Cs154 := Cs154.keep Kq155 nin0
                replace Fs154 := Fs154.keep Kq155 nin0
                replace Vs154 := Vs154.keep Kq155 nin0
                replace K := K.trans Kq155 all0
                have N155 := Fr.app N154 Nq155
                refine own_ofW st155 ?_
                show own_EndsW _ _ _ _ _ _ _ _ (T155.setTop (mkF m 371 #[.val (.int p1), .val (.int p2), .val (.int p3), .val (.int p4), .val (.int (0 : Int32)), .val (.int md), .val (.int cc), .val (.ref b102), .val (.int (9 : Int32)), .val (.int (((md &&& (1 : Int32)) <<< ((2 : Int32) &&& 31)) ||| (p2 &&& (3 : Int32)))), .unset] [(.int (0 : Int32))]))
                refine own_ofW (fun tt_ kk_ => XS.ifNo X155.here hx rfl (hb hby at_371) rfl ((if0 _ _).trans (teq (by decide : ((0 : Int32) = (0 : Int32)))).2) kk_) ?_
                show own_EndsW _ _ _ _ _ _ _ _ (T155.setTop (mkF m 374 #[.val (.int p1), .val (.int p2), .val (.int p3), .val (.int p4), .val (.int (0 : Int32)), .val (.int md), .val (.int cc), .val (.ref b102), .val (.int (9 : Int32)), .val (.int (((md &&& (1 : Int32)) <<< ((2 : Int32) &&& 31)) ||| (p2 &&& (3 : Int32)))), .unset] []))
                refine own_ofW (fun tt_ kk_ => XS.iconst X155.here hx rfl (hb hby at_374) kk_) ?_
                show own_EndsW _ _ _ _ _ _ _ _ (T155.setTop (mkF m 375 #[.val (.int p1), .val (.int p2), .val (.int p3), .val (.int p4), .val (.int (0 : Int32)), .val (.int md), .val (.int cc), .val (.ref b102), .val (.int (9 : Int32)), .val (.int (((md &&& (1 : Int32)) <<< ((2 : Int32) &&& 31)) ||| (p2 &&& (3 : Int32)))), .unset] [(.int (1 : Int32))]))
                refine own_ofW (fun tt_ kk_ => XS.goto X155.here hx rfl (pc0 := 375) (pc' := 379) rfl (hb hby at_375) (by decide) (by decide) kk_) ?_
                show own_EndsW _ _ _ _ _ _ _ _ (T155.setTop (mkF m 379 #[.val (.int p1), .val (.int p2), .val (.int p3), .val (.int p4), .val (.int (0 : Int32)), .val (.int md), .val (.int cc), .val (.ref b102), .val (.int (9 : Int32)), .val (.int (((md &&& (1 : Int32)) <<< ((2 : Int32) &&& 31)) ||| (p2 &&& (3 : Int32)))), .unset] [(.int (1 : Int32))]))
                refine own_retNW X155 hx hlk hZ hS e155 hk es hEL HC (t := .boolean) hret (by simp) (z' := (1 : Int32)) rfl (hb hby at_379) (by decide) (by decide) ?_
                exact ⟨rfl, N155⟩
  · refine own_ofW (fun tt_ kk_ => XS.ifNo X0.here hx rfl (hb hby at_3) rfl ((if0 _ _).trans (feq hc101).1) kk_) ?_
    show own_EndsW _ _ _ _ _ _ _ _ (T0.setTop (mkF m 6 #[.val (.int p1), .val (.int p2), .val (.int p3), .val (.int p4), .unset, .unset, .unset, .unset, .unset, .unset, .unset] []))
    refine own_ofW (fun tt_ kk_ => XS.iconst X0.here hx rfl (hb hby at_6) kk_) ?_
    show own_EndsW _ _ _ _ _ _ _ _ (T0.setTop (mkF m 7 #[.val (.int p1), .val (.int p2), .val (.int p3), .val (.int p4), .unset, .unset, .unset, .unset, .unset, .unset, .unset] [(.int (1 : Int32))]))
    refine own_ofW (fun tt_ kk_ => XS.goto X0.here hx rfl (pc0 := 7) (pc' := 11) rfl (hb hby at_7) (by decide) (by decide) kk_) ?_
    show own_EndsW _ _ _ _ _ _ _ _ (T0.setTop (mkF m 11 #[.val (.int p1), .val (.int p2), .val (.int p3), .val (.int p4), .unset, .unset, .unset, .unset, .unset, .unset, .unset] [(.int (1 : Int32))]))
    refine own_ofW (fun tt_ kk_ => XS.istore X0.here hx rfl (hb hby at_11) rfl (l' := #[.val (.int p1), .val (.int p2), .val (.int p3), .val (.int p4), .val (.int (1 : Int32)), .unset, .unset, .unset, .unset, .unset, .unset]) rfl kk_) ?_
    show own_EndsW _ _ _ _ _ _ _ _ (T0.setTop (mkF m 13 #[.val (.int p1), .val (.int p2), .val (.int p3), .val (.int p4), .val (.int (1 : Int32)), .unset, .unset, .unset, .unset, .unset, .unset] []))
    refine own_ofW (fun tt_ kk_ => XS.iloadN X0.here hx rfl (hb hby at_13) rfl  kk_) ?_
    show own_EndsW _ _ _ _ _ _ _ _ (T0.setTop (mkF m 14 #[.val (.int p1), .val (.int p2), .val (.int p3), .val (.int p4), .val (.int (1 : Int32)), .unset, .unset, .unset, .unset, .unset, .unset] [(.int p1)]))
    refine own_ofW (fun tt_ kk_ => XS.iconst X0.here hx rfl (hb hby at_14) kk_) ?_
    show own_EndsW _ _ _ _ _ _ _ _ (T0.setTop (mkF m 15 #[.val (.int p1), .val (.int p2), .val (.int p3), .val (.int p4), .val (.int (1 : Int32)), .unset, .unset, .unset, .unset, .unset, .unset] [(.int (1 : Int32)), (.int p1)]))
    refine own_ofW (fun tt_ kk_ => XS.iushr X0.here hx rfl (hb hby at_15) rfl kk_) ?_
    show own_EndsW _ _ _ _ _ _ _ _ (T0.setTop (mkF m 16 #[.val (.int p1), .val (.int p2), .val (.int p3), .val (.int p4), .val (.int (1 : Int32)), .unset, .unset, .unset, .unset, .unset, .unset] [(.int ((p1.toUInt32 >>> ((1 : Int32) &&& 31).toUInt32).toInt32))]))
    refine own_ofW (fun tt_ kk_ => XS.bipush X0.here hx rfl (hb hby at_16) kk_) ?_
    show own_EndsW _ _ _ _ _ _ _ _ (T0.setTop (mkF m 18 #[.val (.int p1), .val (.int p2), .val (.int p3), .val (.int p4), .val (.int (1 : Int32)), .unset, .unset, .unset, .unset, .unset, .unset] [(.int (7 : Int32)), (.int ((p1.toUInt32 >>> ((1 : Int32) &&& 31).toUInt32).toInt32))]))
    refine own_ofW (fun tt_ kk_ => XS.iand X0.here hx rfl (hb hby at_18) rfl kk_) ?_
    show own_EndsW _ _ _ _ _ _ _ _ (T0.setTop (mkF m 19 #[.val (.int p1), .val (.int p2), .val (.int p3), .val (.int p4), .val (.int (1 : Int32)), .unset, .unset, .unset, .unset, .unset, .unset] [(.int (((p1.toUInt32 >>> ((1 : Int32) &&& 31).toUInt32).toInt32) &&& (7 : Int32)))]))
    obtain ⟨md, hmd⟩ : ∃ z : Int32, z = (((p1.toUInt32 >>> ((1 : Int32) &&& 31).toUInt32).toInt32) &&& (7 : Int32)) := ⟨_, rfl⟩
    rw [← hmd]
    show own_EndsW _ _ _ _ _ _ _ _ (T0.setTop (mkF m 19 #[.val (.int p1), .val (.int p2), .val (.int p3), .val (.int p4), .val (.int (1 : Int32)), .unset, .unset, .unset, .unset, .unset, .unset] [(.int md)]))
    refine own_ofW (fun tt_ kk_ => XS.istore X0.here hx rfl (hb hby at_19) rfl (l' := #[.val (.int p1), .val (.int p2), .val (.int p3), .val (.int p4), .val (.int (1 : Int32)), .val (.int md), .unset, .unset, .unset, .unset, .unset]) rfl kk_) ?_
    show own_EndsW _ _ _ _ _ _ _ _ (T0.setTop (mkF m 21 #[.val (.int p1), .val (.int p2), .val (.int p3), .val (.int p4), .val (.int (1 : Int32)), .val (.int md), .unset, .unset, .unset, .unset, .unset] []))
    refine own_ofW (fun tt_ kk_ => XS.iloadN X0.here hx rfl (hb hby at_21) rfl  kk_) ?_
    show own_EndsW _ _ _ _ _ _ _ _ (T0.setTop (mkF m 22 #[.val (.int p1), .val (.int p2), .val (.int p3), .val (.int p4), .val (.int (1 : Int32)), .val (.int md), .unset, .unset, .unset, .unset, .unset] [(.int p3)]))
    refine own_ofW (fun tt_ kk_ => XS.sipush X0.here hx rfl (hb hby at_22) kk_) ?_
    show own_EndsW _ _ _ _ _ _ _ _ (T0.setTop (mkF m 25 #[.val (.int p1), .val (.int p2), .val (.int p3), .val (.int p4), .val (.int (1 : Int32)), .val (.int md), .unset, .unset, .unset, .unset, .unset] [(.int (255 : Int32)), (.int p3)]))
    refine own_ofW (fun tt_ kk_ => XS.iand X0.here hx rfl (hb hby at_25) rfl kk_) ?_
    show own_EndsW _ _ _ _ _ _ _ _ (T0.setTop (mkF m 26 #[.val (.int p1), .val (.int p2), .val (.int p3), .val (.int p4), .val (.int (1 : Int32)), .val (.int md), .unset, .unset, .unset, .unset, .unset] [(.int (p3 &&& (255 : Int32)))]))
    refine own_ofW (fun tt_ kk_ => XS.i2c X0.here hx rfl (hb hby at_26) rfl kk_) ?_
    show own_EndsW _ _ _ _ _ _ _ _ (T0.setTop (mkF m 27 #[.val (.int p1), .val (.int p2), .val (.int p3), .val (.int p4), .val (.int (1 : Int32)), .val (.int md), .unset, .unset, .unset, .unset, .unset] [(.int ((p3 &&& (255 : Int32)).toUInt32.toUInt16.toUInt32.toInt32))]))
    obtain ⟨cc, hcc⟩ : ∃ z : Int32, z = ((p3 &&& (255 : Int32)).toUInt32.toUInt16.toUInt32.toInt32) := ⟨_, rfl⟩
    rw [← hcc]
    have nr_cc : nar .char cc = cc := by rw [hcc, own_i2c, i2c_mask]
    have lat_cc : ¬ cc < 0 ∧ ¬ (255 : Int32) < cc := by rw [hcc, i2c_mask]; exact own_lat p3
    show own_EndsW _ _ _ _ _ _ _ _ (T0.setTop (mkF m 27 #[.val (.int p1), .val (.int p2), .val (.int p3), .val (.int p4), .val (.int (1 : Int32)), .val (.int md), .unset, .unset, .unset, .unset, .unset] [(.int cc)]))
    refine own_ofW (fun tt_ kk_ => XS.istore X0.here hx rfl (hb hby at_27) rfl (l' := #[.val (.int p1), .val (.int p2), .val (.int p3), .val (.int p4), .val (.int (1 : Int32)), .val (.int md), .val (.int cc), .unset, .unset, .unset, .unset]) rfl kk_) ?_
    show own_EndsW _ _ _ _ _ _ _ _ (T0.setTop (mkF m 29 #[.val (.int p1), .val (.int p2), .val (.int p3), .val (.int p4), .val (.int (1 : Int32)), .val (.int md), .val (.int cc), .unset, .unset, .unset, .unset] []))
    refine own_ofW (fun tt_ kk_ => XS.iload X0.here hx rfl (hb hby at_29) rfl  kk_) ?_
    show own_EndsW _ _ _ _ _ _ _ _ (T0.setTop (mkF m 31 #[.val (.int p1), .val (.int p2), .val (.int p3), .val (.int p4), .val (.int (1 : Int32)), .val (.int md), .val (.int cc), .unset, .unset, .unset, .unset] [(.int (1 : Int32))]))
    refine own_ofW (fun tt_ kk_ => XS.ifNo X0.here hx rfl (hb hby at_31) rfl ((if0 _ _).trans (feq (by decide : ¬ ((1 : Int32) = (0 : Int32)))).1) kk_) ?_
    show own_EndsW _ _ _ _ _ _ _ _ (T0.setTop (mkF m 34 #[.val (.int p1), .val (.int p2), .val (.int p3), .val (.int p4), .val (.int (1 : Int32)), .val (.int md), .val (.int cc), .unset, .unset, .unset, .unset] []))
    obtain ⟨v156, T156, L156, h156, X156, e156, Q156, st156⟩ := own_static X0 hx hZ hown e0 (hw _ (List.mem_of_getElem? (i := 56) rfl)) (hw _ (List.mem_of_getElem? (i := 57) rfl)) (hw _ (List.mem_of_getElem? (i := 2) rfl)) (hw _ (List.mem_of_getElem? (i := 58) rfl)) (by decide) (argsL := []) (rest := []) (rm_mod l Z a0 hw h0 n0 (Nat.le_trans Z0 K.1)) (g := (mkF m 34 #[.val (.int p1), .val (.int p2), .val (.int p3), .val (.int p4), .val (.int (1 : Int32)), .val (.int md), .val (.int cc), .unset, .unset, .unset, .unset] [])) rfl (by rw [hml]; rfl) (lenOf pd___r_AC rfl) rfl (by decide) (Nat.le_of_ble_eq_true rfl) (by decide) (by decide) (hb hby at_34)
    obtain ⟨b156, k156, rfl, Nq156, Kq156, szq_b156, Vb156⟩ := Q156
    have sz_b156 : h0.size ≤ b156 := Nat.le_trans K.1 szq_b156
    have g_b156 : n0 ≤ b156 := Nat.le_trans Z0 sz_b156
    replace hk := Nat.le_trans hk Kq156.1
    replace HC := HC.trans (CHr.keep Kq156 sf0 HC.1)
    replace OL := OL.keep Kq156 all0
    replace K := K.trans Kq156 all0
    have N156 := Fr.app N0 Nq156
    refine own_ofW st156 ?_
    show own_EndsW _ _ _ _ _ _ _ _ (T156.setTop (mkF m 37 #[.val (.int p1), .val (.int p2), .val (.int p3), .val (.int p4), .val (.int (1 : Int32)), .val (.int md), .val (.int cc), .unset, .unset, .unset, .unset] [(.ref b156)]))
    refine own_ofW (fun tt_ kk_ => XS.goto X156.here hx rfl (pc0 := 37) (pc' := 43) rfl (hb hby at_37) (by decide) (by decide) kk_) ?_
    show own_EndsW _ _ _ _ _ _ _ _ (T156.setTop (mkF m 43 #[.val (.int p1), .val (.int p2), .val (.int p3), .val (.int p4), .val (.int (1 : Int32)), .val (.int md), .val (.int cc), .unset, .unset, .unset, .unset] [(.ref b156)]))
    refine own_ofW (fun tt_ kk_ => XS.astore X156.here hx rfl (hb hby at_43) rfl rfl (l' := #[.val (.int p1), .val (.int p2), .val (.int p3), .val (.int p4), .val (.int (1 : Int32)), .val (.int md), .val (.int cc), .val (.ref b156), .unset, .unset, .unset]) rfl kk_) ?_
    show own_EndsW _ _ _ _ _ _ _ _ (T156.setTop (mkF m 45 #[.val (.int p1), .val (.int p2), .val (.int p3), .val (.int p4), .val (.int (1 : Int32)), .val (.int md), .val (.int cc), .val (.ref b156), .unset, .unset, .unset] []))
    refine own_ofW (fun tt_ kk_ => XS.aload X156.here hx rfl (hb hby at_45) rfl rfl kk_) ?_
    show own_EndsW _ _ _ _ _ _ _ _ (T156.setTop (mkF m 47 #[.val (.int p1), .val (.int p2), .val (.int p3), .val (.int p4), .val (.int (1 : Int32)), .val (.int md), .val (.int cc), .val (.ref b156), .unset, .unset, .unset] [(.ref b156)]))
    obtain ⟨cl157, Ar157, -, S157, N157', -, -⟩ := id Vb156
    refine own_ofW (fun tt_ kk_ => X156.arraylength hx (by rw [e156]; exact Ar157.1) (State.isArrayOf_alike hZ.alike Ar157.2.1) (g := (mkF m 47 #[.val (.int p1), .val (.int p2), .val (.int p3), .val (.int p4), .val (.int (1 : Int32)), .val (.int md), .val (.int cc), .val (.ref b156), .unset, .unset, .unset] [(.ref b156)])) rfl rfl (hb hby at_47) _ kk_) ?_
    rw [len_of S157 N157']
    show own_EndsW _ _ _ _ _ _ _ _ (T156.setTop (mkF m 48 #[.val (.int p1), .val (.int p2), .val (.int p3), .val (.int p4), .val (.int (1 : Int32)), .val (.int md), .val (.int cc), .val (.ref b156), .unset, .unset, .unset] [(.int (17 : Int32))]))
    refine own_ofW (fun tt_ kk_ => XS.istore X156.here hx rfl (hb hby at_48) rfl (l' := #[.val (.int p1), .val (.int p2), .val (.int p3), .val (.int p4), .val (.int (1 : Int32)), .val (.int md), .val (.int cc), .val (.ref b156), .val (.int (17 : Int32)), .unset, .unset]) rfl kk_) ?_
    show own_EndsW _ _ _ _ _ _ _ _ (T156.setTop (mkF m 50 #[.val (.int p1), .val (.int p2), .val (.int p3), .val (.int p4), .val (.int (1 : Int32)), .val (.int md), .val (.int cc), .val (.ref b156), .val (.int (17 : Int32)), .unset, .unset] []))
    refine own_ofW (fun tt_ kk_ => XS.iload X156.here hx rfl (hb hby at_50) rfl  kk_) ?_
    show own_EndsW _ _ _ _ _ _ _ _ (T156.setTop (mkF m 52 #[.val (.int p1), .val (.int p2), .val (.int p3), .val (.int p4), .val (.int (1 : Int32)), .val (.int md), .val (.int cc), .val (.ref b156), .val (.int (17 : Int32)), .unset, .unset] [(.int md)]))
    by_cases hc158 : md = (0 : Int32)
    · refine own_ofW (fun tt_ kk_ => XS.ifNo X156.here hx rfl (hb hby at_52) rfl ((if0 _ _).trans (teq hc158).2) kk_) ?_
      show own_EndsW _ _ _ _ _ _ _ _ (T156.setTop (mkF m 55 #[.val (.int p1), .val (.int p2), .val (.int p3), .val (.int p4), .val (.int (1 : Int32)), .val (.int md), .val (.int cc), .val (.ref b156), .val (.int (17 : Int32)), .unset, .unset] []))
      obtain ⟨T159, h159, X159, e159, E159, A159, D159, -, st159⟩ := newO X156 hx hZ hown (hw _ (List.mem_of_getElem? (i := 5) rfl)) (hw _ (List.mem_of_getElem? (i := 6) rfl)) (hw _ (List.mem_of_getElem? (i := 7) rfl)) e156 (g := (mkF m 55 #[.val (.int p1), .val (.int p2), .val (.int p3), .val (.int p4), .val (.int (1 : Int32)), .val (.int md), .val (.int cc), .val (.ref b156), .val (.int (17 : Int32)), .unset, .unset] [])) rfl (hb hby at_55) (by decide) (by decide)
      obtain ⟨b159, g159⟩ : ∃ z, z = h156.size := ⟨_, rfl⟩
      rw [← g159] at A159 D159 st159
      have ne_b156_b159 : b156 ≠ b159 := Nat.ne_of_lt (Nat.lt_of_lt_of_le Vb156.lt (Nat.le_of_eq g159.symm))
      have sz_b159 : h0.size ≤ b159 := Nat.le_trans K.1 (Nat.le_of_eq g159.symm)
      have g_b159 : n0 ≤ b159 := Nat.le_trans Z0 sz_b159
      have Sf_b159 : Safe Z own_EL s.vm h156 b159 := Safe.new (Nat.le_of_eq g159.symm)
      replace Sf_b159 := Safe.ext E159 HC.1 Sf_b159
      replace hk := Nat.le_trans hk E159.1
      replace HC := HC.trans (CHr.ext E159 HC.1)
      replace OL := OL.ext E159
      replace Vb156 := Vb156.ext E159
      have F_coder_b159 : Fld Z h159 b159 "java/lang/String" "coder" "B" (.int (0 : Int32)) := D159 (Or.inr (hw _ (List.mem_of_getElem? (i := 31) rfl))) (ty := .byte) (by decide)
      have F_value_b159 : Fld Z h159 b159 "java/lang/String" "value" "[B" .null := D159 (Or.inr (hw _ (List.mem_of_getElem? (i := 33) rfl))) (ty := (.array .byte)) (by decide)
      replace K := K.ext E159
      refine own_ofW st159 ?_
      show own_EndsW _ _ _ _ _ _ _ _ (T159.setTop (mkF m 58 #[.val (.int p1), .val (.int p2), .val (.int p3), .val (.int p4), .val (.int (1 : Int32)), .val (.int md), .val (.int cc), .val (.ref b156), .val (.int (17 : Int32)), .unset, .unset] [(.ref b159)]))
      refine own_ofW (fun tt_ kk_ => XS.dup X159.here hx rfl (hb hby at_58) rfl rfl kk_) ?_
      show own_EndsW _ _ _ _ _ _ _ _ (T159.setTop (mkF m 59 #[.val (.int p1), .val (.int p2), .val (.int p3), .val (.int p4), .val (.int (1 : Int32)), .val (.int md), .val (.int cc), .val (.ref b156), .val (.int (17 : Int32)), .unset, .unset] [(.ref b159), (.ref b159)]))
      refine own_ofW (fun tt_ kk_ => XS.aload X159.here hx rfl (hb hby at_59) rfl rfl kk_) ?_
      show own_EndsW _ _ _ _ _ _ _ _ (T159.setTop (mkF m 61 #[.val (.int p1), .val (.int p2), .val (.int p3), .val (.int p4), .val (.int (1 : Int32)), .val (.int md), .val (.int cc), .val (.ref b156), .val (.int (17 : Int32)), .unset, .unset] [(.ref b156), (.ref b159), (.ref b159)]))
      obtain ⟨cs160, ecs160⟩ : ∃ z : List Int32, z = own_MOD := ⟨_, rfl⟩
      have vb160 : own_lat8 cs160 := by rw [ecs160]; exact lat_own_MOD
      have ln160 : cs160.length = 17 := by rw [ecs160]; exact len_own_MOD
      have Vb156' : Arv Z h159 b156 k156 .char (17 : Int32) (cs160.map Value.int) (.int (0 : Int32)) := by rw [ecs160]; exact Vb156
      have ZH160 : n0 ≤ h159.size := Nat.le_trans Z0 K.1
      obtain ⟨_, _, ⟨T160, L160, kk160, nn160⟩, -, X160, ⟨Lc160, Q160, l160, y160, z160⟩, st160⟩ := X159.specialBack hx (y := (⟨"java/lang/String", "<init>", "([C)V"⟩ : MethodName)) rfl hown (mvT hZ (hw _ (List.mem_of_getElem? (i := 8) rfl))) (mvT hZ (hw _ (List.mem_of_getElem? (i := 9) rfl))) (mvT hZ (hw _ (List.mem_of_getElem? (i := 10) rfl))) (by decide) (StrChars.Road.backV (W := 1) hZ hws (kI := 4) (hw _ (List.mem_of_getElem? (i := 6) rfl)) (cs := cs160) (bs := cs160.map StrChars.lo8) (n := 17) g_b159 ZH160 A159 F_value_b159 F_coder_b159 Vb156' (O2.ext OL.2) P3 ln160 rfl (by decide) (by decide) vb160 rfl (by decide) (by decide)) (g := (mkF m 61 #[.val (.int p1), .val (.int p2), .val (.int p3), .val (.int p4), .val (.int (1 : Int32)), .val (.int md), .val (.int cc), .val (.ref b156), .val (.int (17 : Int32)), .unset, .unset] [(.ref b156), (.ref b159), (.ref b159)])) rfl (by rw [hml]; rfl) (Steps.refl _) (a := b159) (argsL := [(.ref b156)]) (rest := [(.ref b159)]) (lenOf pd__AC_r_V rfl) rfl (by show 2 * 0 + _ ≤ _; exact Nat.le_of_eq rfl) (hb hby at_61) (fun _ _ => ⟨rfl, e159, (by decide : 2 + 1 ≤ _), (by decide : 21 + 17 ≤ _)⟩)
      dsimp only [Pt.U, Pt.locs, Pt.cells, Pt.slots] at X160 l160 y160 z160 st160 Q160
      subst l160 y160 z160
      obtain ⟨rfl, Nq160, Kq160, Eq160, Cq160, t160, kb160, g_t160, szz160, nex160, Fq160, Vq160⟩ := Q160
      obtain ⟨h160, eh160⟩ : ∃ z, z = T160.heap := ⟨_, rfl⟩
      rw [← eh160] at Kq160 Eq160 Cq160 Fq160 Vq160
      have e160 := eh160.symm
      have Sf_b159' := Safe.keep Kq160 (sfS Sf_b159 sf0) HC.1 Sf_b159
      replace hk := Nat.le_trans hk Kq160.1
      replace HC := HC.trans (CHr.keep Kq160 (sfS Sf_b159 sf0) HC.1)
      replace Sf_b159 := Sf_b159'
      replace OL := OL.keep Kq160 (allS g_b159 all0)
      replace A159 := A159.keep Kq160
      replace K := K.trans Kq160 (allS (Or.inr sz_b159) all0)
      have N160 := Fr.app N156 Nq160
      refine own_ofW (fun t k => st160.trans k) ?_
      show own_EndsW _ _ _ _ _ _ _ _ (T160.setTop (mkF m 64 #[.val (.int p1), .val (.int p2), .val (.int p3), .val (.int p4), .val (.int (1 : Int32)), .val (.int md), .val (.int cc), .val (.ref b156), .val (.int (17 : Int32)), .unset, .unset] [(.ref b159)]))
      obtain ⟨v161, T161, L161, h161, k161', X161, e161, Q161, hZ, hown, hS, hk, HCq161, st161⟩ := own_staticW X160 hx hZ hown e160 hS hk hEL HC.1 (hw _ (List.mem_of_getElem? (i := 34) rfl)) (hw _ (List.mem_of_getElem? (i := 35) rfl)) (hw _ (List.mem_of_getElem? (i := 36) rfl)) (hw _ (List.mem_of_getElem? (i := 37) rfl)) (by decide) (argsL := [(.ref b159)]) (rest := []) (rm_nlM l Z a0 hw b159 t160 kb160 cs160 (17 : Int32) G1 h160 n0 (Nat.le_trans Z0 K.1) hEL Eq160 Cq160 Fq160 Vq160 (by rw [ln160]; rfl) vb160 (by rw [ln160]; decide) O2 P3 OL (by rw [ecs160]; exact (own_neL len_own_MOD len_own_EXT (by decide))) ecs160) (g := (mkF m 64 #[.val (.int p1), .val (.int p2), .val (.int p3), .val (.int p4), .val (.int (1 : Int32)), .val (.int md), .val (.int cc), .val (.ref b156), .val (.int (17 : Int32)), .unset, .unset] [(.ref b159)])) rfl (by rw [hml]; rfl) (lenOf pd__Ljava_lang_String__r_Z rfl) rfl (by decide) (Nat.le_of_ble_eq_true rfl) (by decide) (by decide) (hb hby at_64)
      replace HC := HC.trans HCq161
      obtain ⟨rfl, Nq161, Kq161⟩ := Q161
      replace OL := OL.keep Kq161 all0
      replace Eq160 := Eq160.keep Kq161
      replace Cq160 := Cq160.keep Kq161 nin0
      replace Fq160 := Fq160.keep Kq161 nin0
      replace Vq160 := Vq160.keep Kq161 nin0
      replace K := K.trans Kq161 all0
      have N161 := Fr.app N160 Nq161
      refine own_ofW st161 ?_
      show own_EndsW _ _ _ _ _ _ _ _ (T161.setTop (mkF m 67 #[.val (.int p1), .val (.int p2), .val (.int p3), .val (.int p4), .val (.int (1 : Int32)), .val (.int md), .val (.int cc), .val (.ref b156), .val (.int (17 : Int32)), .unset, .unset] [(.int (1 : Int32))]))
      refine own_retNW X161 hx hlk hZ hS e161 hk es hEL HC (t := .boolean) hret (by simp) (z' := (1 : Int32)) rfl (hb hby at_67) (by decide) (by decide) ?_
      exact ⟨rfl, N161⟩
    · refine own_ofW (fun tt_ kk_ => XS.ifYes X156.here hx rfl (pc0 := 52) (pc' := 68) rfl (hb hby at_52) rfl ((if0 _ _).trans (feq hc158).2) (by decide) (by decide) kk_) ?_
      show own_EndsW _ _ _ _ _ _ _ _ (T156.setTop (mkF m 68 #[.val (.int p1), .val (.int p2), .val (.int p3), .val (.int p4), .val (.int (1 : Int32)), .val (.int md), .val (.int cc), .val (.ref b156), .val (.int (17 : Int32)), .unset, .unset] []))
      refine own_ofW (fun tt_ kk_ => XS.iload X156.here hx rfl (hb hby at_68) rfl  kk_) ?_
      show own_EndsW _ _ _ _ _ _ _ _ (T156.setTop (mkF m 70 #[.val (.int p1), .val (.int p2), .val (.int p3), .val (.int p4), .val (.int (1 : Int32)), .val (.int md), .val (.int cc), .val (.ref b156), .val (.int (17 : Int32)), .unset, .unset] [(.int md)]))
      refine own_ofW (fun tt_ kk_ => XS.iconst X156.here hx rfl (hb hby at_70) kk_) ?_
      show own_EndsW _ _ _ _ _ _ _ _ (T156.setTop (mkF m 71 #[.val (.int p1), .val (.int p2), .val (.int p3), .val (.int p4), .val (.int (1 : Int32)), .val (.int md), .val (.int cc), .val (.ref b156), .val (.int (17 : Int32)), .unset, .unset] [(.int (1 : Int32)), (.int md)]))
      by_cases hc162 : md = (1 : Int32)
      · refine own_ofW (fun tt_ kk_ => XS.icmpNo X156.here hx rfl (hb hby at_71) rfl (teq hc162).2 kk_) ?_
        show own_EndsW _ _ _ _ _ _ _ _ (T156.setTop (mkF m 74 #[.val (.int p1), .val (.int p2), .val (.int p3), .val (.int p4), .val (.int (1 : Int32)), .val (.int md), .val (.int cc), .val (.ref b156), .val (.int (17 : Int32)), .unset, .unset] []))
        refine own_ofW (fun tt_ kk_ => XS.iloadN X156.here hx rfl (hb hby at_74) rfl  kk_) ?_
        show own_EndsW _ _ _ _ _ _ _ _ (T156.setTop (mkF m 75 #[.val (.int p1), .val (.int p2), .val (.int p3), .val (.int p4), .val (.int (1 : Int32)), .val (.int md), .val (.int cc), .val (.ref b156), .val (.int (17 : Int32)), .unset, .unset] [(.int p2)]))
        refine own_ofW (fun tt_ kk_ => X156.ldcI hx hown (mvT hZ (hw _ (List.mem_of_getElem? (i := 62) rfl))) (g := (mkF m 75 #[.val (.int p1), .val (.int p2), .val (.int p3), .val (.int p4), .val (.int (1 : Int32)), .val (.int md), .val (.int cc), .val (.ref b156), .val (.int (17 : Int32)), .unset, .unset] [(.int p2)])) rfl (hb hby at_75) kk_) ?_
        show own_EndsW _ _ _ _ _ _ _ _ (T156.setTop (mkF m 77 #[.val (.int p1), .val (.int p2), .val (.int p3), .val (.int p4), .val (.int (1 : Int32)), .val (.int md), .val (.int cc), .val (.ref b156), .val (.int (17 : Int32)), .unset, .unset] [(.int (2147483647 : Int32)), (.int p2)]))
        refine own_ofW (fun tt_ kk_ => XS.iand X156.here hx rfl (hb hby at_77) rfl kk_) ?_
        show own_EndsW _ _ _ _ _ _ _ _ (T156.setTop (mkF m 78 #[.val (.int p1), .val (.int p2), .val (.int p3), .val (.int p4), .val (.int (1 : Int32)), .val (.int md), .val (.int cc), .val (.ref b156), .val (.int (17 : Int32)), .unset, .unset] [(.int (p2 &&& (2147483647 : Int32)))]))
        refine own_ofW (fun tt_ kk_ => XS.iload X156.here hx rfl (hb hby at_78) rfl  kk_) ?_
        show own_EndsW _ _ _ _ _ _ _ _ (T156.setTop (mkF m 80 #[.val (.int p1), .val (.int p2), .val (.int p3), .val (.int p4), .val (.int (1 : Int32)), .val (.int md), .val (.int cc), .val (.ref b156), .val (.int (17 : Int32)), .unset, .unset] [(.int (17 : Int32)), (.int (p2 &&& (2147483647 : Int32)))]))
        refine own_ofW (fun tt_ kk_ => iremM (g := (mkF m 80 #[.val (.int p1), .val (.int p2), .val (.int p3), .val (.int p4), .val (.int (1 : Int32)), .val (.int md), .val (.int cc), .val (.ref b156), .val (.int (17 : Int32)), .unset, .unset] [(.int (17 : Int32)), (.int (p2 &&& (2147483647 : Int32)))])) X156 hx rfl (hb hby at_80) rfl (by decide) kk_) ?_
        show own_EndsW _ _ _ _ _ _ _ _ (T156.setTop (mkF m 81 #[.val (.int p1), .val (.int p2), .val (.int p3), .val (.int p4), .val (.int (1 : Int32)), .val (.int md), .val (.int cc), .val (.ref b156), .val (.int (17 : Int32)), .unset, .unset] [(.int ((p2 &&& (2147483647 : Int32)) % (17 : Int32)))]))
        obtain ⟨pr, hpr⟩ : ∃ z : Int32, z = ((p2 &&& (2147483647 : Int32)) % (17 : Int32)) := ⟨_, rfl⟩
        rw [← hpr]
        obtain ⟨pr_0, pr_n, pk_n⟩ : ¬ pr < 0 ∧ pr < (17 : Int32) ∧ pr.toNatClampNeg < 17 := by rw [hpr]; exact own_rem p2 (17 : Int32) 17 rfl (by decide)
        obtain ⟨pk, hpk⟩ : ∃ z, z = pr.toNatClampNeg := ⟨_, rfl⟩
        rw [← hpk] at pk_n
        show own_EndsW _ _ _ _ _ _ _ _ (T156.setTop (mkF m 81 #[.val (.int p1), .val (.int p2), .val (.int p3), .val (.int p4), .val (.int (1 : Int32)), .val (.int md), .val (.int cc), .val (.ref b156), .val (.int (17 : Int32)), .unset, .unset] [(.int pr)]))
        refine own_ofW (fun tt_ kk_ => XS.istore X156.here hx rfl (hb hby at_81) rfl (l' := #[.val (.int p1), .val (.int p2), .val (.int p3), .val (.int p4), .val (.int (1 : Int32)), .val (.int md), .val (.int cc), .val (.ref b156), .val (.int (17 : Int32)), .val (.int pr), .unset]) rfl kk_) ?_
        show own_EndsW _ _ _ _ _ _ _ _ (T156.setTop (mkF m 83 #[.val (.int p1), .val (.int p2), .val (.int p3), .val (.int p4), .val (.int (1 : Int32)), .val (.int md), .val (.int cc), .val (.ref b156), .val (.int (17 : Int32)), .val (.int pr), .unset] []))
        refine own_ofW (fun tt_ kk_ => XS.aload X156.here hx rfl (hb hby at_83) rfl rfl kk_) ?_
        show own_EndsW _ _ _ _ _ _ _ _ (T156.setTop (mkF m 85 #[.val (.int p1), .val (.int p2), .val (.int p3), .val (.int p4), .val (.int (1 : Int32)), .val (.int md), .val (.int cc), .val (.ref b156), .val (.int (17 : Int32)), .val (.int pr), .unset] [(.ref b156)]))
        refine own_ofW (fun tt_ kk_ => XS.iload X156.here hx rfl (hb hby at_85) rfl  kk_) ?_
        show own_EndsW _ _ _ _ _ _ _ _ (T156.setTop (mkF m 87 #[.val (.int p1), .val (.int p2), .val (.int p3), .val (.int p4), .val (.int (1 : Int32)), .val (.int md), .val (.int cc), .val (.ref b156), .val (.int (17 : Int32)), .val (.int pr), .unset] [(.int pr), (.ref b156)]))
        obtain ⟨cl163, Ar163, q163, S163, N163', H163, G163⟩ := id Vb156
        have hin163 : ¬ (pr < 0 ∨ cl163.slots.size ≤ pr.toNatClampNeg) := inb_of S163 ⟨pr_0, pr_n⟩
        have hat163 : cl163.slots[pr.toNatClampNeg]? = some (.int (own_MOD.getD pk 0)) := H163.at hin163 (by rw [← hpk]; exact own_getD _ _)
        refine own_ofW (fun tt_ kk_ => X156.caload hx (j := pr) (v := (.int (own_MOD.getD pk 0))) (by rw [e156]; exact Ar163.1) (State.isArrayOf_alike hZ.alike Ar163.2.1) Ar163.2.2 hin163 hat163 (g := (mkF m 87 #[.val (.int p1), .val (.int p2), .val (.int p3), .val (.int p4), .val (.int (1 : Int32)), .val (.int md), .val (.int cc), .val (.ref b156), .val (.int (17 : Int32)), .val (.int pr), .unset] [(.int pr), (.ref b156)])) rfl rfl (hb hby at_87) _ kk_) ?_
        show own_EndsW _ _ _ _ _ _ _ _ (T156.setTop (mkF m 88 #[.val (.int p1), .val (.int p2), .val (.int p3), .val (.int p4), .val (.int (1 : Int32)), .val (.int md), .val (.int cc), .val (.ref b156), .val (.int (17 : Int32)), .val (.int pr), .unset] [(.int (own_MOD.getD pk 0))]))
        refine own_ofW (fun tt_ kk_ => XS.iload X156.here hx rfl (hb hby at_88) rfl  kk_) ?_
        show own_EndsW _ _ _ _ _ _ _ _ (T156.setTop (mkF m 90 #[.val (.int p1), .val (.int p2), .val (.int p3), .val (.int p4), .val (.int (1 : Int32)), .val (.int md), .val (.int cc), .val (.ref b156), .val (.int (17 : Int32)), .val (.int pr), .unset] [(.int cc), (.int (own_MOD.getD pk 0))]))
        by_cases hc164 : (own_MOD.getD pk 0) = cc
        · refine own_ofW (fun tt_ kk_ => XS.icmpNo X156.here hx rfl (hb hby at_90) rfl (teq hc164).2 kk_) ?_
          show own_EndsW _ _ _ _ _ _ _ _ (T156.setTop (mkF m 93 #[.val (.int p1), .val (.int p2), .val (.int p3), .val (.int p4), .val (.int (1 : Int32)), .val (.int md), .val (.int cc), .val (.ref b156), .val (.int (17 : Int32)), .val (.int pr), .unset] []))
          refine own_ofW (fun tt_ kk_ => XS.iconst X156.here hx rfl (hb hby at_93) kk_) ?_
          show own_EndsW _ _ _ _ _ _ _ _ (T156.setTop (mkF m 94 #[.val (.int p1), .val (.int p2), .val (.int p3), .val (.int p4), .val (.int (1 : Int32)), .val (.int md), .val (.int cc), .val (.ref b156), .val (.int (17 : Int32)), .val (.int pr), .unset] [(.int (1 : Int32))]))
          refine own_ofW (fun tt_ kk_ => XS.goto X156.here hx rfl (pc0 := 94) (pc' := 98) rfl (hb hby at_94) (by decide) (by decide) kk_) ?_
          show own_EndsW _ _ _ _ _ _ _ _ (T156.setTop (mkF m 98 #[.val (.int p1), .val (.int p2), .val (.int p3), .val (.int p4), .val (.int (1 : Int32)), .val (.int md), .val (.int cc), .val (.ref b156), .val (.int (17 : Int32)), .val (.int pr), .unset] [(.int (1 : Int32))]))
          refine own_ofW (fun tt_ kk_ => XS.istore X156.here hx rfl (hb hby at_98) rfl (l' := #[.val (.int p1), .val (.int p2), .val (.int p3), .val (.int p4), .val (.int (1 : Int32)), .val (.int md), .val (.int cc), .val (.ref b156), .val (.int (17 : Int32)), .val (.int pr), .val (.int (1 : Int32))]) rfl kk_) ?_
          show own_EndsW _ _ _ _ _ _ _ _ (T156.setTop (mkF m 100 #[.val (.int p1), .val (.int p2), .val (.int p3), .val (.int p4), .val (.int (1 : Int32)), .val (.int md), .val (.int cc), .val (.ref b156), .val (.int (17 : Int32)), .val (.int pr), .val (.int (1 : Int32))] []))
          refine own_ofW (fun tt_ kk_ => XS.aload X156.here hx rfl (hb hby at_100) rfl rfl kk_) ?_
          show own_EndsW _ _ _ _ _ _ _ _ (T156.setTop (mkF m 102 #[.val (.int p1), .val (.int p2), .val (.int p3), .val (.int p4), .val (.int (1 : Int32)), .val (.int md), .val (.int cc), .val (.ref b156), .val (.int (17 : Int32)), .val (.int pr), .val (.int (1 : Int32))] [(.ref b156)]))
          refine own_ofW (fun tt_ kk_ => XS.iload X156.here hx rfl (hb hby at_102) rfl  kk_) ?_
          show own_EndsW _ _ _ _ _ _ _ _ (T156.setTop (mkF m 104 #[.val (.int p1), .val (.int p2), .val (.int p3), .val (.int p4), .val (.int (1 : Int32)), .val (.int md), .val (.int cc), .val (.ref b156), .val (.int (17 : Int32)), .val (.int pr), .val (.int (1 : Int32))] [(.int pr), (.ref b156)]))
          refine own_ofW (fun tt_ kk_ => XS.iload X156.here hx rfl (hb hby at_104) rfl  kk_) ?_
          show own_EndsW _ _ _ _ _ _ _ _ (T156.setTop (mkF m 106 #[.val (.int p1), .val (.int p2), .val (.int p3), .val (.int p4), .val (.int (1 : Int32)), .val (.int md), .val (.int cc), .val (.ref b156), .val (.int (17 : Int32)), .val (.int pr), .val (.int (1 : Int32))] [(.int cc), (.int pr), (.ref b156)]))
          obtain ⟨cl165, Ar165, q165, S165, N165', H165, G165⟩ := id Vb156
          have hin165 : ¬ (pr < 0 ∨ cl165.slots.size ≤ (pr).toNatClampNeg) := inb_of S165 ⟨pr_0, pr_n⟩
          obtain ⟨T165, h165, X165, e165, W165, st165⟩ := stC X156 hx hZ e156 Ar165 (j := pr) hin165 (g := (mkF m 106 #[.val (.int p1), .val (.int p2), .val (.int p3), .val (.int p4), .val (.int (1 : Int32)), .val (.int md), .val (.int cc), .val (.ref b156), .val (.int (17 : Int32)), .val (.int pr), .val (.int (1 : Int32))] [(.int cc), (.int pr), (.ref b156)])) rfl rfl (hb hby at_106)
          have V165' : Arv Z h165 b156 k156 .char (17 : Int32) ((own_MOD.set pk (nar .char cc)).map Value.int) (.int (0 : Int32)) := by
            rw [List.map_set]; exact Arv.set Ar165 q165 S165 N165' H165 G165 (fits_nar_char _) W165 pk hpk.symm (by rw [List.length_map, len_own_MOD]; exact pk_n)
          rw [nr_cc] at V165'
          replace hk := Nat.le_trans hk (Keep.of_wr W165).1
          replace HC := HC.trans (CHr.wr W165 (Safe.arv hZ.alike Vb156 (by decide)) HC.1)
          replace OL := OL.wr W165 g_b156
          have N165 := Fr.snoc X165 N156 g_b156
          replace K := K.wr W165 (Or.inr sz_b156)
          refine own_ofW st165 ?_
          show own_EndsW _ _ _ _ _ _ _ _ (T165.setTop (mkF m 107 #[.val (.int p1), .val (.int p2), .val (.int p3), .val (.int p4), .val (.int (1 : Int32)), .val (.int md), .val (.int cc), .val (.ref b156), .val (.int (17 : Int32)), .val (.int pr), .val (.int (1 : Int32))] []))
          obtain ⟨T166, h166, X166, e166, E166, A166, D166, -, st166⟩ := newO X165 hx hZ hown (hw _ (List.mem_of_getElem? (i := 5) rfl)) (hw _ (List.mem_of_getElem? (i := 6) rfl)) (hw _ (List.mem_of_getElem? (i := 7) rfl)) e165 (g := (mkF m 107 #[.val (.int p1), .val (.int p2), .val (.int p3), .val (.int p4), .val (.int (1 : Int32)), .val (.int md), .val (.int cc), .val (.ref b156), .val (.int (17 : Int32)), .val (.int pr), .val (.int (1 : Int32))] [])) rfl (hb hby at_107) (by decide) (by decide)
          obtain ⟨b166, g166⟩ : ∃ z, z = h165.size := ⟨_, rfl⟩
          rw [← g166] at A166 D166 st166
          have ne_b156_b166 : b156 ≠ b166 := Nat.ne_of_lt (Nat.lt_of_lt_of_le V165'.lt (Nat.le_of_eq g166.symm))
          have sz_b166 : h0.size ≤ b166 := Nat.le_trans K.1 (Nat.le_of_eq g166.symm)
          have g_b166 : n0 ≤ b166 := Nat.le_trans Z0 sz_b166
          have Sf_b166 : Safe Z own_EL s.vm h165 b166 := Safe.new (Nat.le_of_eq g166.symm)
          replace Sf_b166 := Safe.ext E166 HC.1 Sf_b166
          replace hk := Nat.le_trans hk E166.1
          replace HC := HC.trans (CHr.ext E166 HC.1)
          replace OL := OL.ext E166
          replace V165' := V165'.ext E166
          have F_coder_b166 : Fld Z h166 b166 "java/lang/String" "coder" "B" (.int (0 : Int32)) := D166 (Or.inr (hw _ (List.mem_of_getElem? (i := 31) rfl))) (ty := .byte) (by decide)
          have F_value_b166 : Fld Z h166 b166 "java/lang/String" "value" "[B" .null := D166 (Or.inr (hw _ (List.mem_of_getElem? (i := 33) rfl))) (ty := (.array .byte)) (by decide)
          replace K := K.ext E166
          refine own_ofW st166 ?_
          show own_EndsW _ _ _ _ _ _ _ _ (T166.setTop (mkF m 110 #[.val (.int p1), .val (.int p2), .val (.int p3), .val (.int p4), .val (.int (1 : Int32)), .val (.int md), .val (.int cc), .val (.ref b156), .val (.int (17 : Int32)), .val (.int pr), .val (.int (1 : Int32))] [(.ref b166)]))
          refine own_ofW (fun tt_ kk_ => XS.dup X166.here hx rfl (hb hby at_110) rfl rfl kk_) ?_
          show own_EndsW _ _ _ _ _ _ _ _ (T166.setTop (mkF m 111 #[.val (.int p1), .val (.int p2), .val (.int p3), .val (.int p4), .val (.int (1 : Int32)), .val (.int md), .val (.int cc), .val (.ref b156), .val (.int (17 : Int32)), .val (.int pr), .val (.int (1 : Int32))] [(.ref b166), (.ref b166)]))
          refine own_ofW (fun tt_ kk_ => XS.aload X166.here hx rfl (hb hby at_111) rfl rfl kk_) ?_
          show own_EndsW _ _ _ _ _ _ _ _ (T166.setTop (mkF m 113 #[.val (.int p1), .val (.int p2), .val (.int p3), .val (.int p4), .val (.int (1 : Int32)), .val (.int md), .val (.int cc), .val (.ref b156), .val (.int (17 : Int32)), .val (.int pr), .val (.int (1 : Int32))] [(.ref b156), (.ref b166), (.ref b166)]))
          obtain ⟨cs167, ecs167⟩ : ∃ z : List Int32, z = (own_MOD.set pk cc) := ⟨_, rfl⟩
          have vb167 : own_lat8 cs167 := by rw [ecs167]; exact (own_setLat lat_own_MOD lat_cc)
          have ln167 : cs167.length = 17 := by rw [ecs167]; exact (List.length_set.trans len_own_MOD)
          have V165'' : Arv Z h166 b156 k156 .char (17 : Int32) (cs167.map Value.int) (.int (0 : Int32)) := by rw [ecs167]; exact V165'
          have ZH167 : n0 ≤ h166.size := Nat.le_trans Z0 K.1
          obtain ⟨_, _, ⟨T167, L167, kk167, nn167⟩, -, X167, ⟨Lc167, Q167, l167, y167, z167⟩, st167⟩ := X166.specialBack hx (y := (⟨"java/lang/String", "<init>", "([C)V"⟩ : MethodName)) rfl hown (mvT hZ (hw _ (List.mem_of_getElem? (i := 8) rfl))) (mvT hZ (hw _ (List.mem_of_getElem? (i := 9) rfl))) (mvT hZ (hw _ (List.mem_of_getElem? (i := 10) rfl))) (by decide) (StrChars.Road.backV (W := 1) hZ hws (kI := 4) (hw _ (List.mem_of_getElem? (i := 6) rfl)) (cs := cs167) (bs := cs167.map StrChars.lo8) (n := 17) g_b166 ZH167 A166 F_value_b166 F_coder_b166 V165'' (O2.ext OL.2) P3 ln167 rfl (by decide) (by decide) vb167 rfl (by decide) (by decide)) (g := (mkF m 113 #[.val (.int p1), .val (.int p2), .val (.int p3), .val (.int p4), .val (.int (1 : Int32)), .val (.int md), .val (.int cc), .val (.ref b156), .val (.int (17 : Int32)), .val (.int pr), .val (.int (1 : Int32))] [(.ref b156), (.ref b166), (.ref b166)])) rfl (by rw [hml]; rfl) (Steps.refl _) (a := b166) (argsL := [(.ref b156)]) (rest := [(.ref b166)]) (lenOf pd__AC_r_V rfl) rfl (by show 2 * 0 + _ ≤ _; exact Nat.le_of_eq rfl) (hb hby at_113) (fun _ _ => ⟨rfl, e166, (by decide : 2 + 1 ≤ _), (by decide : 21 + 17 ≤ _)⟩)
          dsimp only [Pt.U, Pt.locs, Pt.cells, Pt.slots] at X167 l167 y167 z167 st167 Q167
          subst l167 y167 z167
          obtain ⟨rfl, Nq167, Kq167, Eq167, Cq167, t167, kb167, g_t167, szz167, nex167, Fq167, Vq167⟩ := Q167
          obtain ⟨h167, eh167⟩ : ∃ z, z = T167.heap := ⟨_, rfl⟩
          rw [← eh167] at Kq167 Eq167 Cq167 Fq167 Vq167
          have e167 := eh167.symm
          have Sf_b166' := Safe.keep Kq167 (sfS Sf_b166 sf0) HC.1 Sf_b166
          replace hk := Nat.le_trans hk Kq167.1
          replace HC := HC.trans (CHr.keep Kq167 (sfS Sf_b166 sf0) HC.1)
          replace Sf_b166 := Sf_b166'
          replace OL := OL.keep Kq167 (allS g_b166 all0)
          replace A166 := A166.keep Kq167
          replace K := K.trans Kq167 (allS (Or.inr sz_b166) all0)
          have N167 := Fr.app N165 Nq167
          refine own_ofW (fun t k => st167.trans k) ?_
          show own_EndsW _ _ _ _ _ _ _ _ (T167.setTop (mkF m 116 #[.val (.int p1), .val (.int p2), .val (.int p3), .val (.int p4), .val (.int (1 : Int32)), .val (.int md), .val (.int cc), .val (.ref b156), .val (.int (17 : Int32)), .val (.int pr), .val (.int (1 : Int32))] [(.ref b166)]))
          obtain ⟨v168, T168, L168, h168, k168', X168, e168, Q168, hZ, hown, hS, hk, HCq168, st168⟩ := own_staticW X167 hx hZ hown e167 hS hk hEL HC.1 (hw _ (List.mem_of_getElem? (i := 34) rfl)) (hw _ (List.mem_of_getElem? (i := 35) rfl)) (hw _ (List.mem_of_getElem? (i := 36) rfl)) (hw _ (List.mem_of_getElem? (i := 37) rfl)) (by decide) (argsL := [(.ref b166)]) (rest := []) (rm_nlM l Z a0 hw b166 t167 kb167 cs167 (17 : Int32) G1 h167 n0 (Nat.le_trans Z0 K.1) hEL Eq167 Cq167 Fq167 Vq167 (by rw [ln167]; rfl) vb167 (by rw [ln167]; decide) O2 P3 OL (by rw [ecs167]; exact (own_neL (List.length_set.trans len_own_MOD) len_own_EXT (by decide))) (by rw [ecs167]; exact (own_setT (by rw [len_own_MOD]; exact pk_n) hc164))) (g := (mkF m 116 #[.val (.int p1), .val (.int p2), .val (.int p3), .val (.int p4), .val (.int (1 : Int32)), .val (.int md), .val (.int cc), .val (.ref b156), .val (.int (17 : Int32)), .val (.int pr), .val (.int (1 : Int32))] [(.ref b166)])) rfl (by rw [hml]; rfl) (lenOf pd__Ljava_lang_String__r_Z rfl) rfl (by decide) (Nat.le_of_ble_eq_true rfl) (by decide) (by decide) (hb hby at_116)
          replace HC := HC.trans HCq168
          obtain ⟨rfl, Nq168, Kq168⟩ := Q168
          replace OL := OL.keep Kq168 all0
          replace Eq167 := Eq167.keep Kq168
          replace Cq167 := Cq167.keep Kq168 nin0
          replace Fq167 := Fq167.keep Kq168 nin0
          replace Vq167 := Vq167.keep Kq168 nin0
          replace K := K.trans Kq168 all0
          have N168 := Fr.app N167 Nq168
          refine own_ofW st168 ?_
          show own_EndsW _ _ _ _ _ _ _ _ (T168.setTop (mkF m 119 #[.val (.int p1), .val (.int p2), .val (.int p3), .val (.int p4), .val (.int (1 : Int32)), .val (.int md), .val (.int cc), .val (.ref b156), .val (.int (17 : Int32)), .val (.int pr), .val (.int (1 : Int32))] [(.int (1 : Int32))]))
          refine own_ofW (fun tt_ kk_ => XS.iload X168.here hx rfl (hb hby at_119) rfl  kk_) ?_
          show own_EndsW _ _ _ _ _ _ _ _ (T168.setTop (mkF m 121 #[.val (.int p1), .val (.int p2), .val (.int p3), .val (.int p4), .val (.int (1 : Int32)), .val (.int md), .val (.int cc), .val (.ref b156), .val (.int (17 : Int32)), .val (.int pr), .val (.int (1 : Int32))] [(.int (1 : Int32)), (.int (1 : Int32))]))
          refine own_ofW (fun tt_ kk_ => XS.icmpNo X168.here hx rfl (hb hby at_121) rfl (teq (by decide : ((1 : Int32) = (1 : Int32)))).2 kk_) ?_
          show own_EndsW _ _ _ _ _ _ _ _ (T168.setTop (mkF m 124 #[.val (.int p1), .val (.int p2), .val (.int p3), .val (.int p4), .val (.int (1 : Int32)), .val (.int md), .val (.int cc), .val (.ref b156), .val (.int (17 : Int32)), .val (.int pr), .val (.int (1 : Int32))] []))
          refine own_ofW (fun tt_ kk_ => XS.iconst X168.here hx rfl (hb hby at_124) kk_) ?_
          show own_EndsW _ _ _ _ _ _ _ _ (T168.setTop (mkF m 125 #[.val (.int p1), .val (.int p2), .val (.int p3), .val (.int p4), .val (.int (1 : Int32)), .val (.int md), .val (.int cc), .val (.ref b156), .val (.int (17 : Int32)), .val (.int pr), .val (.int (1 : Int32))] [(.int (1 : Int32))]))
          refine own_ofW (fun tt_ kk_ => XS.goto X168.here hx rfl (pc0 := 125) (pc' := 129) rfl (hb hby at_125) (by decide) (by decide) kk_) ?_
          show own_EndsW _ _ _ _ _ _ _ _ (T168.setTop (mkF m 129 #[.val (.int p1), .val (.int p2), .val (.int p3), .val (.int p4), .val (.int (1 : Int32)), .val (.int md), .val (.int cc), .val (.ref b156), .val (.int (17 : Int32)), .val (.int pr), .val (.int (1 : Int32))] [(.int (1 : Int32))]))
          refine own_retNW X168 hx hlk hZ hS e168 hk es hEL HC (t := .boolean) hret (by simp) (z' := (1 : Int32)) rfl (hb hby at_129) (by decide) (by decide) ?_
          exact ⟨rfl, N168⟩
        · refine own_ofW (fun tt_ kk_ => XS.icmpYes X156.here hx rfl (pc0 := 90) (pc' := 97) rfl (hb hby at_90) rfl (feq hc164).2 (by decide) (by decide) kk_) ?_
          show own_EndsW _ _ _ _ _ _ _ _ (T156.setTop (mkF m 97 #[.val (.int p1), .val (.int p2), .val (.int p3), .val (.int p4), .val (.int (1 : Int32)), .val (.int md), .val (.int cc), .val (.ref b156), .val (.int (17 : Int32)), .val (.int pr), .unset] []))
          refine own_ofW (fun tt_ kk_ => XS.iconst X156.here hx rfl (hb hby at_97) kk_) ?_
          show own_EndsW _ _ _ _ _ _ _ _ (T156.setTop (mkF m 98 #[.val (.int p1), .val (.int p2), .val (.int p3), .val (.int p4), .val (.int (1 : Int32)), .val (.int md), .val (.int cc), .val (.ref b156), .val (.int (17 : Int32)), .val (.int pr), .unset] [(.int (0 : Int32))]))
          refine own_ofW (fun tt_ kk_ => XS.istore X156.here hx rfl (hb hby at_98) rfl (l' := #[.val (.int p1), .val (.int p2), .val (.int p3), .val (.int p4), .val (.int (1 : Int32)), .val (.int md), .val (.int cc), .val (.ref b156), .val (.int (17 : Int32)), .val (.int pr), .val (.int (0 : Int32))]) rfl kk_) ?_
          show own_EndsW _ _ _ _ _ _ _ _ (T156.setTop (mkF m 100 #[.val (.int p1), .val (.int p2), .val (.int p3), .val (.int p4), .val (.int (1 : Int32)), .val (.int md), .val (.int cc), .val (.ref b156), .val (.int (17 : Int32)), .val (.int pr), .val (.int (0 : Int32))] []))
          refine own_ofW (fun tt_ kk_ => XS.aload X156.here hx rfl (hb hby at_100) rfl rfl kk_) ?_
          show own_EndsW _ _ _ _ _ _ _ _ (T156.setTop (mkF m 102 #[.val (.int p1), .val (.int p2), .val (.int p3), .val (.int p4), .val (.int (1 : Int32)), .val (.int md), .val (.int cc), .val (.ref b156), .val (.int (17 : Int32)), .val (.int pr), .val (.int (0 : Int32))] [(.ref b156)]))
          refine own_ofW (fun tt_ kk_ => XS.iload X156.here hx rfl (hb hby at_102) rfl  kk_) ?_
          show own_EndsW _ _ _ _ _ _ _ _ (T156.setTop (mkF m 104 #[.val (.int p1), .val (.int p2), .val (.int p3), .val (.int p4), .val (.int (1 : Int32)), .val (.int md), .val (.int cc), .val (.ref b156), .val (.int (17 : Int32)), .val (.int pr), .val (.int (0 : Int32))] [(.int pr), (.ref b156)]))
          refine own_ofW (fun tt_ kk_ => XS.iload X156.here hx rfl (hb hby at_104) rfl  kk_) ?_
          show own_EndsW _ _ _ _ _ _ _ _ (T156.setTop (mkF m 106 #[.val (.int p1), .val (.int p2), .val (.int p3), .val (.int p4), .val (.int (1 : Int32)), .val (.int md), .val (.int cc), .val (.ref b156), .val (.int (17 : Int32)), .val (.int pr), .val (.int (0 : Int32))] [(.int cc), (.int pr), (.ref b156)]))
          obtain ⟨cl169, Ar169, q169, S169, N169', H169, G169⟩ := id Vb156
          have hin169 : ¬ (pr < 0 ∨ cl169.slots.size ≤ (pr).toNatClampNeg) := inb_of S169 ⟨pr_0, pr_n⟩
          obtain ⟨T169, h169, X169, e169, W169, st169⟩ := stC X156 hx hZ e156 Ar169 (j := pr) hin169 (g := (mkF m 106 #[.val (.int p1), .val (.int p2), .val (.int p3), .val (.int p4), .val (.int (1 : Int32)), .val (.int md), .val (.int cc), .val (.ref b156), .val (.int (17 : Int32)), .val (.int pr), .val (.int (0 : Int32))] [(.int cc), (.int pr), (.ref b156)])) rfl rfl (hb hby at_106)
          have V169' : Arv Z h169 b156 k156 .char (17 : Int32) ((own_MOD.set pk (nar .char cc)).map Value.int) (.int (0 : Int32)) := by
            rw [List.map_set]; exact Arv.set Ar169 q169 S169 N169' H169 G169 (fits_nar_char _) W169 pk hpk.symm (by rw [List.length_map, len_own_MOD]; exact pk_n)
          rw [nr_cc] at V169'
          replace hk := Nat.le_trans hk (Keep.of_wr W169).1
          replace HC := HC.trans (CHr.wr W169 (Safe.arv hZ.alike Vb156 (by decide)) HC.1)
          replace OL := OL.wr W169 g_b156
          have N169 := Fr.snoc X169 N156 g_b156
          replace K := K.wr W169 (Or.inr sz_b156)
          refine own_ofW st169 ?_
          show own_EndsW _ _ _ _ _ _ _ _ (T169.setTop (mkF m 107 #[.val (.int p1), .val (.int p2), .val (.int p3), .val (.int p4), .val (.int (1 : Int32)), .val (.int md), .val (.int cc), .val (.ref b156), .val (.int (17 : Int32)), .val (.int pr), .val (.int (0 : Int32))] []))
          obtain ⟨T170, h170, X170, e170, E170, A170, D170, -, st170⟩ := newO X169 hx hZ hown (hw _ (List.mem_of_getElem? (i := 5) rfl)) (hw _ (List.mem_of_getElem? (i := 6) rfl)) (hw _ (List.mem_of_getElem? (i := 7) rfl)) e169 (g := (mkF m 107 #[.val (.int p1), .val (.int p2), .val (.int p3), .val (.int p4), .val (.int (1 : Int32)), .val (.int md), .val (.int cc), .val (.ref b156), .val (.int (17 : Int32)), .val (.int pr), .val (.int (0 : Int32))] [])) rfl (hb hby at_107) (by decide) (by decide)
          obtain ⟨b170, g170⟩ : ∃ z, z = h169.size := ⟨_, rfl⟩
          rw [← g170] at A170 D170 st170
          have ne_b156_b170 : b156 ≠ b170 := Nat.ne_of_lt (Nat.lt_of_lt_of_le V169'.lt (Nat.le_of_eq g170.symm))
          have sz_b170 : h0.size ≤ b170 := Nat.le_trans K.1 (Nat.le_of_eq g170.symm)
          have g_b170 : n0 ≤ b170 := Nat.le_trans Z0 sz_b170
          have Sf_b170 : Safe Z own_EL s.vm h169 b170 := Safe.new (Nat.le_of_eq g170.symm)
          replace Sf_b170 := Safe.ext E170 HC.1 Sf_b170
          replace hk := Nat.le_trans hk E170.1
          replace HC := HC.trans (CHr.ext E170 HC.1)
          replace OL := OL.ext E170
          replace V169' := V169'.ext E170
          have F_coder_b170 : Fld Z h170 b170 "java/lang/String" "coder" "B" (.int (0 : Int32)) := D170 (Or.inr (hw _ (List.mem_of_getElem? (i := 31) rfl))) (ty := .byte) (by decide)
          have F_value_b170 : Fld Z h170 b170 "java/lang/String" "value" "[B" .null := D170 (Or.inr (hw _ (List.mem_of_getElem? (i := 33) rfl))) (ty := (.array .byte)) (by decide)
          replace K := K.ext E170
          refine own_ofW st170 ?_
          show own_EndsW _ _ _ _ _ _ _ _ (T170.setTop (mkF m 110 #[.val (.int p1), .val (.int p2), .val (.int p3), .val (.int p4), .val (.int (1 : Int32)), .val (.int md), .val (.int cc), .val (.ref b156), .val (.int (17 : Int32)), .val (.int pr), .val (.int (0 : Int32))] [(.ref b170)]))
          refine own_ofW (fun tt_ kk_ => XS.dup X170.here hx rfl (hb hby at_110) rfl rfl kk_) ?_
          show own_EndsW _ _ _ _ _ _ _ _ (T170.setTop (mkF m 111 #[.val (.int p1), .val (.int p2), .val (.int p3), .val (.int p4), .val (.int (1 : Int32)), .val (.int md), .val (.int cc), .val (.ref b156), .val (.int (17 : Int32)), .val (.int pr), .val (.int (0 : Int32))] [(.ref b170), (.ref b170)]))
          refine own_ofW (fun tt_ kk_ => XS.aload X170.here hx rfl (hb hby at_111) rfl rfl kk_) ?_
          show own_EndsW _ _ _ _ _ _ _ _ (T170.setTop (mkF m 113 #[.val (.int p1), .val (.int p2), .val (.int p3), .val (.int p4), .val (.int (1 : Int32)), .val (.int md), .val (.int cc), .val (.ref b156), .val (.int (17 : Int32)), .val (.int pr), .val (.int (0 : Int32))] [(.ref b156), (.ref b170), (.ref b170)]))
          obtain ⟨cs171, ecs171⟩ : ∃ z : List Int32, z = (own_MOD.set pk cc) := ⟨_, rfl⟩
          have vb171 : own_lat8 cs171 := by rw [ecs171]; exact (own_setLat lat_own_MOD lat_cc)
          have ln171 : cs171.length = 17 := by rw [ecs171]; exact (List.length_set.trans len_own_MOD)
          have V169'' : Arv Z h170 b156 k156 .char (17 : Int32) (cs171.map Value.int) (.int (0 : Int32)) := by rw [ecs171]; exact V169'
          have ZH171 : n0 ≤ h170.size := Nat.le_trans Z0 K.1
          obtain ⟨_, _, ⟨T171, L171, kk171, nn171⟩, -, X171, ⟨Lc171, Q171, l171, y171, z171⟩, st171⟩ := X170.specialBack hx (y := (⟨"java/lang/String", "<init>", "([C)V"⟩ : MethodName)) rfl hown (mvT hZ (hw _ (List.mem_of_getElem? (i := 8) rfl))) (mvT hZ (hw _ (List.mem_of_getElem? (i := 9) rfl))) (mvT hZ (hw _ (List.mem_of_getElem? (i := 10) rfl))) (by decide) (StrChars.Road.backV (W := 1) hZ hws (kI := 4) (hw _ (List.mem_of_getElem? (i := 6) rfl)) (cs := cs171) (bs := cs171.map StrChars.lo8) (n := 17) g_b170 ZH171 A170 F_value_b170 F_coder_b170 V169'' (O2.ext OL.2) P3 ln171 rfl (by decide) (by decide) vb171 rfl (by decide) (by decide)) (g := (mkF m 113 #[.val (.int p1), .val (.int p2), .val (.int p3), .val (.int p4), .val (.int (1 : Int32)), .val (.int md), .val (.int cc), .val (.ref b156), .val (.int (17 : Int32)), .val (.int pr), .val (.int (0 : Int32))] [(.ref b156), (.ref b170), (.ref b170)])) rfl (by rw [hml]; rfl) (Steps.refl _) (a := b170) (argsL := [(.ref b156)]) (rest := [(.ref b170)]) (lenOf pd__AC_r_V rfl) rfl (by show 2 * 0 + _ ≤ _; exact Nat.le_of_eq rfl) (hb hby at_113) (fun _ _ => ⟨rfl, e170, (by decide : 2 + 1 ≤ _), (by decide : 21 + 17 ≤ _)⟩)
          dsimp only [Pt.U, Pt.locs, Pt.cells, Pt.slots] at X171 l171 y171 z171 st171 Q171
          subst l171 y171 z171
          obtain ⟨rfl, Nq171, Kq171, Eq171, Cq171, t171, kb171, g_t171, szz171, nex171, Fq171, Vq171⟩ := Q171
          obtain ⟨h171, eh171⟩ : ∃ z, z = T171.heap := ⟨_, rfl⟩
          rw [← eh171] at Kq171 Eq171 Cq171 Fq171 Vq171
          have e171 := eh171.symm
          have Sf_b170' := Safe.keep Kq171 (sfS Sf_b170 sf0) HC.1 Sf_b170
          replace hk := Nat.le_trans hk Kq171.1
          replace HC := HC.trans (CHr.keep Kq171 (sfS Sf_b170 sf0) HC.1)
          replace Sf_b170 := Sf_b170'
          replace OL := OL.keep Kq171 (allS g_b170 all0)
          replace A170 := A170.keep Kq171
          replace K := K.trans Kq171 (allS (Or.inr sz_b170) all0)
          have N171 := Fr.app N169 Nq171
          refine own_ofW (fun t k => st171.trans k) ?_
          show own_EndsW _ _ _ _ _ _ _ _ (T171.setTop (mkF m 116 #[.val (.int p1), .val (.int p2), .val (.int p3), .val (.int p4), .val (.int (1 : Int32)), .val (.int md), .val (.int cc), .val (.ref b156), .val (.int (17 : Int32)), .val (.int pr), .val (.int (0 : Int32))] [(.ref b170)]))
          obtain ⟨v172, T172, L172, h172, k172', X172, e172, Q172, hZ, hown, hS, hk, HCq172, st172⟩ := own_staticW X171 hx hZ hown e171 hS hk hEL HC.1 (hw _ (List.mem_of_getElem? (i := 34) rfl)) (hw _ (List.mem_of_getElem? (i := 35) rfl)) (hw _ (List.mem_of_getElem? (i := 36) rfl)) (hw _ (List.mem_of_getElem? (i := 37) rfl)) (by decide) (argsL := [(.ref b170)]) (rest := []) (rm_nlN l Z a0 hw b170 t171 kb171 cs171 (17 : Int32) G1 h171 n0 (Nat.le_trans Z0 K.1) hEL Eq171 Cq171 Fq171 Vq171 (by rw [ln171]; rfl) vb171 (by rw [ln171]; decide) O2 P3 OL (by rw [ecs171]; exact (own_neL (List.length_set.trans len_own_MOD) len_own_EXT (by decide))) (by rw [ecs171]; exact (own_setF (by rw [len_own_MOD]; exact pk_n) hc164))) (g := (mkF m 116 #[.val (.int p1), .val (.int p2), .val (.int p3), .val (.int p4), .val (.int (1 : Int32)), .val (.int md), .val (.int cc), .val (.ref b156), .val (.int (17 : Int32)), .val (.int pr), .val (.int (0 : Int32))] [(.ref b170)])) rfl (by rw [hml]; rfl) (lenOf pd__Ljava_lang_String__r_Z rfl) rfl (by decide) (Nat.le_of_ble_eq_true rfl) (by decide) (by decide) (hb hby at_116)
          replace HC := HC.trans HCq172
          obtain ⟨rfl, Nq172, Kq172⟩ := Q172
          replace OL := OL.keep Kq172 all0
          replace Eq171 := Eq171.keep Kq172
          replace Cq171 := Cq171.keep Kq172 nin0
          replace Fq171 := Fq171.keep Kq172 nin0
          replace Vq171 := Vq171.keep Kq172 nin0
          replace K := K.trans Kq172 all0
          have N172 := Fr.app N171 Nq172
          refine own_ofW st172 ?_
          show own_EndsW _ _ _ _ _ _ _ _ (T172.setTop (mkF m 119 #[.val (.int p1), .val (.int p2), .val (.int p3), .val (.int p4), .val (.int (1 : Int32)), .val (.int md), .val (.int cc), .val (.ref b156), .val (.int (17 : Int32)), .val (.int pr), .val (.int (0 : Int32))] [(.int (0 : Int32))]))
          refine own_ofW (fun tt_ kk_ => XS.iload X172.here hx rfl (hb hby at_119) rfl  kk_) ?_
          show own_EndsW _ _ _ _ _ _ _ _ (T172.setTop (mkF m 121 #[.val (.int p1), .val (.int p2), .val (.int p3), .val (.int p4), .val (.int (1 : Int32)), .val (.int md), .val (.int cc), .val (.ref b156), .val (.int (17 : Int32)), .val (.int pr), .val (.int (0 : Int32))] [(.int (0 : Int32)), (.int (0 : Int32))]))
          refine own_ofW (fun tt_ kk_ => XS.icmpNo X172.here hx rfl (hb hby at_121) rfl (teq (by decide : ((0 : Int32) = (0 : Int32)))).2 kk_) ?_
          show own_EndsW _ _ _ _ _ _ _ _ (T172.setTop (mkF m 124 #[.val (.int p1), .val (.int p2), .val (.int p3), .val (.int p4), .val (.int (1 : Int32)), .val (.int md), .val (.int cc), .val (.ref b156), .val (.int (17 : Int32)), .val (.int pr), .val (.int (0 : Int32))] []))
          refine own_ofW (fun tt_ kk_ => XS.iconst X172.here hx rfl (hb hby at_124) kk_) ?_
          show own_EndsW _ _ _ _ _ _ _ _ (T172.setTop (mkF m 125 #[.val (.int p1), .val (.int p2), .val (.int p3), .val (.int p4), .val (.int (1 : Int32)), .val (.int md), .val (.int cc), .val (.ref b156), .val (.int (17 : Int32)), .val (.int pr), .val (.int (0 : Int32))] [(.int (1 : Int32))]))
          refine own_ofW (fun tt_ kk_ => XS.goto X172.here hx rfl (pc0 := 125) (pc' := 129) rfl (hb hby at_125) (by decide) (by decide) kk_) ?_
          show own_EndsW _ _ _ _ _ _ _ _ (T172.setTop (mkF m 129 #[.val (.int p1), .val (.int p2), .val (.int p3), .val (.int p4), .val (.int (1 : Int32)), .val (.int md), .val (.int cc), .val (.ref b156), .val (.int (17 : Int32)), .val (.int pr), .val (.int (0 : Int32))] [(.int (1 : Int32))]))
          refine own_retNW X172 hx hlk hZ hS e172 hk es hEL HC (t := .boolean) hret (by simp) (z' := (1 : Int32)) rfl (hb hby at_129) (by decide) (by decide) ?_
          exact ⟨rfl, N172⟩
      · refine own_ofW (fun tt_ kk_ => XS.icmpYes X156.here hx rfl (pc0 := 71) (pc' := 130) rfl (hb hby at_71) rfl (feq hc162).2 (by decide) (by decide) kk_) ?_
        show own_EndsW _ _ _ _ _ _ _ _ (T156.setTop (mkF m 130 #[.val (.int p1), .val (.int p2), .val (.int p3), .val (.int p4), .val (.int (1 : Int32)), .val (.int md), .val (.int cc), .val (.ref b156), .val (.int (17 : Int32)), .unset, .unset] []))
        refine own_ofW (fun tt_ kk_ => XS.iload X156.here hx rfl (hb hby at_130) rfl  kk_) ?_
        show own_EndsW _ _ _ _ _ _ _ _ (T156.setTop (mkF m 132 #[.val (.int p1), .val (.int p2), .val (.int p3), .val (.int p4), .val (.int (1 : Int32)), .val (.int md), .val (.int cc), .val (.ref b156), .val (.int (17 : Int32)), .unset, .unset] [(.int md)]))
        refine own_ofW (fun tt_ kk_ => XS.iconst X156.here hx rfl (hb hby at_132) kk_) ?_
        show own_EndsW _ _ _ _ _ _ _ _ (T156.setTop (mkF m 133 #[.val (.int p1), .val (.int p2), .val (.int p3), .val (.int p4), .val (.int (1 : Int32)), .val (.int md), .val (.int cc), .val (.ref b156), .val (.int (17 : Int32)), .unset, .unset] [(.int (2 : Int32)), (.int md)]))
        by_cases hc173 : md = (2 : Int32)
        · refine own_ofW (fun tt_ kk_ => XS.icmpNo X156.here hx rfl (hb hby at_133) rfl (teq hc173).2 kk_) ?_
          show own_EndsW _ _ _ _ _ _ _ _ (T156.setTop (mkF m 136 #[.val (.int p1), .val (.int p2), .val (.int p3), .val (.int p4), .val (.int (1 : Int32)), .val (.int md), .val (.int cc), .val (.ref b156), .val (.int (17 : Int32)), .unset, .unset] []))
          refine own_ofW (fun tt_ kk_ => XS.iload X156.here hx rfl (hb hby at_136) rfl  kk_) ?_
          show own_EndsW _ _ _ _ _ _ _ _ (T156.setTop (mkF m 138 #[.val (.int p1), .val (.int p2), .val (.int p3), .val (.int p4), .val (.int (1 : Int32)), .val (.int md), .val (.int cc), .val (.ref b156), .val (.int (17 : Int32)), .unset, .unset] [(.int (1 : Int32))]))
          refine own_ofW (fun tt_ kk_ => XS.ifNo X156.here hx rfl (hb hby at_138) rfl ((if0 _ _).trans (feq (by decide : ¬ ((1 : Int32) = (0 : Int32)))).1) kk_) ?_
          show own_EndsW _ _ _ _ _ _ _ _ (T156.setTop (mkF m 141 #[.val (.int p1), .val (.int p2), .val (.int p3), .val (.int p4), .val (.int (1 : Int32)), .val (.int md), .val (.int cc), .val (.ref b156), .val (.int (17 : Int32)), .unset, .unset] []))
          obtain ⟨v174, T174, L174, h174, X174, e174, Q174, st174⟩ := own_static X156 hx hZ hown e156 (hw _ (List.mem_of_getElem? (i := 68) rfl)) (hw _ (List.mem_of_getElem? (i := 69) rfl)) (hw _ (List.mem_of_getElem? (i := 2) rfl)) (hw _ (List.mem_of_getElem? (i := 70) rfl)) (by decide) (argsL := []) (rest := []) (rm_modPlus l Z a0 hw h156 n0 (Nat.le_trans Z0 K.1)) (g := (mkF m 141 #[.val (.int p1), .val (.int p2), .val (.int p3), .val (.int p4), .val (.int (1 : Int32)), .val (.int md), .val (.int cc), .val (.ref b156), .val (.int (17 : Int32)), .unset, .unset] [])) rfl (by rw [hml]; rfl) (lenOf pd___r_AC rfl) rfl (by decide) (Nat.le_of_ble_eq_true rfl) (by decide) (by decide) (hb hby at_141)
          obtain ⟨b174, k174, rfl, Nq174, Kq174, szq_b174, Vb174⟩ := Q174
          have ne_b156_b174 : b156 ≠ b174 := Nat.ne_of_lt (Nat.lt_of_lt_of_le Vb156.lt szq_b174)
          have sz_b174 : h0.size ≤ b174 := Nat.le_trans K.1 szq_b174
          have g_b174 : n0 ≤ b174 := Nat.le_trans Z0 sz_b174
          replace hk := Nat.le_trans hk Kq174.1
          replace HC := HC.trans (CHr.keep Kq174 sf0 HC.1)
          replace OL := OL.keep Kq174 all0
          replace Vb156 := Vb156.keep Kq174 nin0
          replace K := K.trans Kq174 all0
          have N174 := Fr.app N156 Nq174
          refine own_ofW st174 ?_
          show own_EndsW _ _ _ _ _ _ _ _ (T174.setTop (mkF m 144 #[.val (.int p1), .val (.int p2), .val (.int p3), .val (.int p4), .val (.int (1 : Int32)), .val (.int md), .val (.int cc), .val (.ref b156), .val (.int (17 : Int32)), .unset, .unset] [(.ref b174)]))
          refine own_ofW (fun tt_ kk_ => XS.goto X174.here hx rfl (pc0 := 144) (pc' := 150) rfl (hb hby at_144) (by decide) (by decide) kk_) ?_
          show own_EndsW _ _ _ _ _ _ _ _ (T174.setTop (mkF m 150 #[.val (.int p1), .val (.int p2), .val (.int p3), .val (.int p4), .val (.int (1 : Int32)), .val (.int md), .val (.int cc), .val (.ref b156), .val (.int (17 : Int32)), .unset, .unset] [(.ref b174)]))
          refine own_ofW (fun tt_ kk_ => XS.astore X174.here hx rfl (hb hby at_150) rfl rfl (l' := #[.val (.int p1), .val (.int p2), .val (.int p3), .val (.int p4), .val (.int (1 : Int32)), .val (.int md), .val (.int cc), .val (.ref b156), .val (.int (17 : Int32)), .val (.ref b174), .unset]) rfl kk_) ?_
          show own_EndsW _ _ _ _ _ _ _ _ (T174.setTop (mkF m 152 #[.val (.int p1), .val (.int p2), .val (.int p3), .val (.int p4), .val (.int (1 : Int32)), .val (.int md), .val (.int cc), .val (.ref b156), .val (.int (17 : Int32)), .val (.ref b174), .unset] []))
          refine own_ofW (fun tt_ kk_ => XS.aload X174.here hx rfl (hb hby at_152) rfl rfl kk_) ?_
          show own_EndsW _ _ _ _ _ _ _ _ (T174.setTop (mkF m 154 #[.val (.int p1), .val (.int p2), .val (.int p3), .val (.int p4), .val (.int (1 : Int32)), .val (.int md), .val (.int cc), .val (.ref b156), .val (.int (17 : Int32)), .val (.ref b174), .unset] [(.ref b174)]))
          refine own_ofW (fun tt_ kk_ => XS.iload X174.here hx rfl (hb hby at_154) rfl  kk_) ?_
          show own_EndsW _ _ _ _ _ _ _ _ (T174.setTop (mkF m 156 #[.val (.int p1), .val (.int p2), .val (.int p3), .val (.int p4), .val (.int (1 : Int32)), .val (.int md), .val (.int cc), .val (.ref b156), .val (.int (17 : Int32)), .val (.ref b174), .unset] [(.int (17 : Int32)), (.ref b174)]))
          refine own_ofW (fun tt_ kk_ => XS.iload X174.here hx rfl (hb hby at_156) rfl  kk_) ?_
          show own_EndsW _ _ _ _ _ _ _ _ (T174.setTop (mkF m 158 #[.val (.int p1), .val (.int p2), .val (.int p3), .val (.int p4), .val (.int (1 : Int32)), .val (.int md), .val (.int cc), .val (.ref b156), .val (.int (17 : Int32)), .val (.ref b174), .unset] [(.int cc), (.int (17 : Int32)), (.ref b174)]))
          obtain ⟨cl175, Ar175, q175, S175, N175', H175, G175⟩ := id Vb174
          have hin175 : ¬ ((17 : Int32) < 0 ∨ cl175.slots.size ≤ ((17 : Int32)).toNatClampNeg) := inb_of S175 ⟨by decide, by decide⟩
          obtain ⟨T175, h175, X175, e175, W175, st175⟩ := stC X174 hx hZ e174 Ar175 (j := (17 : Int32)) hin175 (g := (mkF m 158 #[.val (.int p1), .val (.int p2), .val (.int p3), .val (.int p4), .val (.int (1 : Int32)), .val (.int md), .val (.int cc), .val (.ref b156), .val (.int (17 : Int32)), .val (.ref b174), .unset] [(.int cc), (.int (17 : Int32)), (.ref b174)])) rfl rfl (hb hby at_158)
          have V175' : Arv Z h175 b174 k174 .char (18 : Int32) ((own_MODP.set 17 (nar .char cc)).map Value.int) (.int (0 : Int32)) := by
            rw [List.map_set]; exact Arv.set Ar175 q175 S175 N175' H175 G175 (fits_nar_char _) W175 17 rfl (by rw [List.length_map, len_own_MODP]; decide)
          rw [nr_cc] at V175'
          replace hk := Nat.le_trans hk (Keep.of_wr W175).1
          replace HC := HC.trans (CHr.wr W175 (Safe.arv hZ.alike Vb174 (by decide)) HC.1)
          replace OL := OL.wr W175 g_b174
          replace Vb156 := Vb156.other W175 ne_b156_b174
          have N175 := Fr.snoc X175 N174 g_b174
          replace K := K.wr W175 (Or.inr sz_b174)
          refine own_ofW st175 ?_
          show own_EndsW _ _ _ _ _ _ _ _ (T175.setTop (mkF m 159 #[.val (.int p1), .val (.int p2), .val (.int p3), .val (.int p4), .val (.int (1 : Int32)), .val (.int md), .val (.int cc), .val (.ref b156), .val (.int (17 : Int32)), .val (.ref b174), .unset] []))
          obtain ⟨T176, h176, X176, e176, E176, A176, D176, -, st176⟩ := newO X175 hx hZ hown (hw _ (List.mem_of_getElem? (i := 5) rfl)) (hw _ (List.mem_of_getElem? (i := 6) rfl)) (hw _ (List.mem_of_getElem? (i := 7) rfl)) e175 (g := (mkF m 159 #[.val (.int p1), .val (.int p2), .val (.int p3), .val (.int p4), .val (.int (1 : Int32)), .val (.int md), .val (.int cc), .val (.ref b156), .val (.int (17 : Int32)), .val (.ref b174), .unset] [])) rfl (hb hby at_159) (by decide) (by decide)
          obtain ⟨b176, g176⟩ : ∃ z, z = h175.size := ⟨_, rfl⟩
          rw [← g176] at A176 D176 st176
          have ne_b156_b176 : b156 ≠ b176 := Nat.ne_of_lt (Nat.lt_of_lt_of_le Vb156.lt (Nat.le_of_eq g176.symm))
          have ne_b174_b176 : b174 ≠ b176 := Nat.ne_of_lt (Nat.lt_of_lt_of_le V175'.lt (Nat.le_of_eq g176.symm))
          have sz_b176 : h0.size ≤ b176 := Nat.le_trans K.1 (Nat.le_of_eq g176.symm)
          have g_b176 : n0 ≤ b176 := Nat.le_trans Z0 sz_b176
          have Sf_b176 : Safe Z own_EL s.vm h175 b176 := Safe.new (Nat.le_of_eq g176.symm)
          replace Sf_b176 := Safe.ext E176 HC.1 Sf_b176
          replace hk := Nat.le_trans hk E176.1
          replace HC := HC.trans (CHr.ext E176 HC.1)
          replace OL := OL.ext E176
          replace Vb156 := Vb156.ext E176
          replace V175' := V175'.ext E176
          have F_coder_b176 : Fld Z h176 b176 "java/lang/String" "coder" "B" (.int (0 : Int32)) := D176 (Or.inr (hw _ (List.mem_of_getElem? (i := 31) rfl))) (ty := .byte) (by decide)
          have F_value_b176 : Fld Z h176 b176 "java/lang/String" "value" "[B" .null := D176 (Or.inr (hw _ (List.mem_of_getElem? (i := 33) rfl))) (ty := (.array .byte)) (by decide)
          replace K := K.ext E176
          refine own_ofW st176 ?_
          show own_EndsW _ _ _ _ _ _ _ _ (T176.setTop (mkF m 162 #[.val (.int p1), .val (.int p2), .val (.int p3), .val (.int p4), .val (.int (1 : Int32)), .val (.int md), .val (.int cc), .val (.ref b156), .val (.int (17 : Int32)), .val (.ref b174), .unset] [(.ref b176)]))
          refine own_ofW (fun tt_ kk_ => XS.dup X176.here hx rfl (hb hby at_162) rfl rfl kk_) ?_
          show own_EndsW _ _ _ _ _ _ _ _ (T176.setTop (mkF m 163 #[.val (.int p1), .val (.int p2), .val (.int p3), .val (.int p4), .val (.int (1 : Int32)), .val (.int md), .val (.int cc), .val (.ref b156), .val (.int (17 : Int32)), .val (.ref b174), .unset] [(.ref b176), (.ref b176)]))
          refine own_ofW (fun tt_ kk_ => XS.aload X176.here hx rfl (hb hby at_163) rfl rfl kk_) ?_
          show own_EndsW _ _ _ _ _ _ _ _ (T176.setTop (mkF m 165 #[.val (.int p1), .val (.int p2), .val (.int p3), .val (.int p4), .val (.int (1 : Int32)), .val (.int md), .val (.int cc), .val (.ref b156), .val (.int (17 : Int32)), .val (.ref b174), .unset] [(.ref b174), (.ref b176), (.ref b176)]))
          obtain ⟨cs177, ecs177⟩ : ∃ z : List Int32, z = (own_MODP.set 17 cc) := ⟨_, rfl⟩
          have vb177 : own_lat8 cs177 := by rw [ecs177]; exact (own_setLat lat_own_MODP lat_cc)
          have ln177 : cs177.length = 18 := by rw [ecs177]; exact (List.length_set.trans len_own_MODP)
          have V175'' : Arv Z h176 b174 k174 .char (18 : Int32) (cs177.map Value.int) (.int (0 : Int32)) := by rw [ecs177]; exact V175'
          have ZH177 : n0 ≤ h176.size := Nat.le_trans Z0 K.1
          obtain ⟨_, _, ⟨T177, L177, kk177, nn177⟩, -, X177, ⟨Lc177, Q177, l177, y177, z177⟩, st177⟩ := X176.specialBack hx (y := (⟨"java/lang/String", "<init>", "([C)V"⟩ : MethodName)) rfl hown (mvT hZ (hw _ (List.mem_of_getElem? (i := 8) rfl))) (mvT hZ (hw _ (List.mem_of_getElem? (i := 9) rfl))) (mvT hZ (hw _ (List.mem_of_getElem? (i := 10) rfl))) (by decide) (StrChars.Road.backV (W := 1) hZ hws (kI := 4) (hw _ (List.mem_of_getElem? (i := 6) rfl)) (cs := cs177) (bs := cs177.map StrChars.lo8) (n := 18) g_b176 ZH177 A176 F_value_b176 F_coder_b176 V175'' (O2.ext OL.2) P3 ln177 rfl (by decide) (by decide) vb177 rfl (by decide) (by decide)) (g := (mkF m 165 #[.val (.int p1), .val (.int p2), .val (.int p3), .val (.int p4), .val (.int (1 : Int32)), .val (.int md), .val (.int cc), .val (.ref b156), .val (.int (17 : Int32)), .val (.ref b174), .unset] [(.ref b174), (.ref b176), (.ref b176)])) rfl (by rw [hml]; rfl) (Steps.refl _) (a := b176) (argsL := [(.ref b174)]) (rest := [(.ref b176)]) (lenOf pd__AC_r_V rfl) rfl (by show 2 * 0 + _ ≤ _; exact Nat.le_of_eq rfl) (hb hby at_165) (fun _ _ => ⟨rfl, e176, (by decide : 3 + 1 ≤ _), (by decide : 39 + 18 ≤ _)⟩)
          dsimp only [Pt.U, Pt.locs, Pt.cells, Pt.slots] at X177 l177 y177 z177 st177 Q177
          subst l177 y177 z177
          obtain ⟨rfl, Nq177, Kq177, Eq177, Cq177, t177, kb177, g_t177, szz177, nex177, Fq177, Vq177⟩ := Q177
          obtain ⟨h177, eh177⟩ : ∃ z, z = T177.heap := ⟨_, rfl⟩
          rw [← eh177] at Kq177 Eq177 Cq177 Fq177 Vq177
          have e177 := eh177.symm
          have Sf_b176' := Safe.keep Kq177 (sfS Sf_b176 sf0) HC.1 Sf_b176
          replace hk := Nat.le_trans hk Kq177.1
          replace HC := HC.trans (CHr.keep Kq177 (sfS Sf_b176 sf0) HC.1)
          replace Sf_b176 := Sf_b176'
          replace OL := OL.keep Kq177 (allS g_b176 all0)
          replace Vb156 := Vb156.keep Kq177 (ninS ne_b156_b176 nin0)
          replace A176 := A176.keep Kq177
          replace K := K.trans Kq177 (allS (Or.inr sz_b176) all0)
          have N177 := Fr.app N175 Nq177
          refine own_ofW (fun t k => st177.trans k) ?_
          show own_EndsW _ _ _ _ _ _ _ _ (T177.setTop (mkF m 168 #[.val (.int p1), .val (.int p2), .val (.int p3), .val (.int p4), .val (.int (1 : Int32)), .val (.int md), .val (.int cc), .val (.ref b156), .val (.int (17 : Int32)), .val (.ref b174), .unset] [(.ref b176)]))
          obtain ⟨v178, T178, L178, h178, k178', X178, e178, Q178, hZ, hown, hS, hk, HCq178, st178⟩ := own_staticW X177 hx hZ hown e177 hS hk hEL HC.1 (hw _ (List.mem_of_getElem? (i := 34) rfl)) (hw _ (List.mem_of_getElem? (i := 35) rfl)) (hw _ (List.mem_of_getElem? (i := 36) rfl)) (hw _ (List.mem_of_getElem? (i := 37) rfl)) (by decide) (argsL := [(.ref b176)]) (rest := []) (rm_nlN l Z a0 hw b176 t177 kb177 cs177 (18 : Int32) G1 h177 n0 (Nat.le_trans Z0 K.1) hEL Eq177 Cq177 Fq177 Vq177 (by rw [ln177]; rfl) vb177 (by rw [ln177]; decide) O2 P3 OL (by rw [ecs177]; exact (own_neL (List.length_set.trans len_own_MODP) len_own_EXT (by decide))) (by rw [ecs177]; exact (own_neL (List.length_set.trans len_own_MODP) len_own_MOD (by decide)))) (g := (mkF m 168 #[.val (.int p1), .val (.int p2), .val (.int p3), .val (.int p4), .val (.int (1 : Int32)), .val (.int md), .val (.int cc), .val (.ref b156), .val (.int (17 : Int32)), .val (.ref b174), .unset] [(.ref b176)])) rfl (by rw [hml]; rfl) (lenOf pd__Ljava_lang_String__r_Z rfl) rfl (by decide) (Nat.le_of_ble_eq_true rfl) (by decide) (by decide) (hb hby at_168)
          replace HC := HC.trans HCq178
          obtain ⟨rfl, Nq178, Kq178⟩ := Q178
          replace OL := OL.keep Kq178 all0
          replace Vb156 := Vb156.keep Kq178 nin0
          replace Eq177 := Eq177.keep Kq178
          replace Cq177 := Cq177.keep Kq178 nin0
          replace Fq177 := Fq177.keep Kq178 nin0
          replace Vq177 := Vq177.keep Kq178 nin0
          replace K := K.trans Kq178 all0
          have N178 := Fr.app N177 Nq178
          refine own_ofW st178 ?_
          show own_EndsW _ _ _ _ _ _ _ _ (T178.setTop (mkF m 171 #[.val (.int p1), .val (.int p2), .val (.int p3), .val (.int p4), .val (.int (1 : Int32)), .val (.int md), .val (.int cc), .val (.ref b156), .val (.int (17 : Int32)), .val (.ref b174), .unset] [(.int (0 : Int32))]))
          refine own_ofW (fun tt_ kk_ => XS.ifNo X178.here hx rfl (hb hby at_171) rfl ((if0 _ _).trans (teq (by decide : ((0 : Int32) = (0 : Int32)))).2) kk_) ?_
          show own_EndsW _ _ _ _ _ _ _ _ (T178.setTop (mkF m 174 #[.val (.int p1), .val (.int p2), .val (.int p3), .val (.int p4), .val (.int (1 : Int32)), .val (.int md), .val (.int cc), .val (.ref b156), .val (.int (17 : Int32)), .val (.ref b174), .unset] []))
          refine own_ofW (fun tt_ kk_ => XS.iconst X178.here hx rfl (hb hby at_174) kk_) ?_
          show own_EndsW _ _ _ _ _ _ _ _ (T178.setTop (mkF m 175 #[.val (.int p1), .val (.int p2), .val (.int p3), .val (.int p4), .val (.int (1 : Int32)), .val (.int md), .val (.int cc), .val (.ref b156), .val (.int (17 : Int32)), .val (.ref b174), .unset] [(.int (1 : Int32))]))
          refine own_ofW (fun tt_ kk_ => XS.goto X178.here hx rfl (pc0 := 175) (pc' := 179) rfl (hb hby at_175) (by decide) (by decide) kk_) ?_
          show own_EndsW _ _ _ _ _ _ _ _ (T178.setTop (mkF m 179 #[.val (.int p1), .val (.int p2), .val (.int p3), .val (.int p4), .val (.int (1 : Int32)), .val (.int md), .val (.int cc), .val (.ref b156), .val (.int (17 : Int32)), .val (.ref b174), .unset] [(.int (1 : Int32))]))
          refine own_retNW X178 hx hlk hZ hS e178 hk es hEL HC (t := .boolean) hret (by simp) (z' := (1 : Int32)) rfl (hb hby at_179) (by decide) (by decide) ?_
          exact ⟨rfl, N178⟩
        · refine own_ofW (fun tt_ kk_ => XS.icmpYes X156.here hx rfl (pc0 := 133) (pc' := 180) rfl (hb hby at_133) rfl (feq hc173).2 (by decide) (by decide) kk_) ?_
          show own_EndsW _ _ _ _ _ _ _ _ (T156.setTop (mkF m 180 #[.val (.int p1), .val (.int p2), .val (.int p3), .val (.int p4), .val (.int (1 : Int32)), .val (.int md), .val (.int cc), .val (.ref b156), .val (.int (17 : Int32)), .unset, .unset] []))
          refine own_ofW (fun tt_ kk_ => XS.iload X156.here hx rfl (hb hby at_180) rfl  kk_) ?_
          show own_EndsW _ _ _ _ _ _ _ _ (T156.setTop (mkF m 182 #[.val (.int p1), .val (.int p2), .val (.int p3), .val (.int p4), .val (.int (1 : Int32)), .val (.int md), .val (.int cc), .val (.ref b156), .val (.int (17 : Int32)), .unset, .unset] [(.int md)]))
          refine own_ofW (fun tt_ kk_ => XS.iconst X156.here hx rfl (hb hby at_182) kk_) ?_
          show own_EndsW _ _ _ _ _ _ _ _ (T156.setTop (mkF m 183 #[.val (.int p1), .val (.int p2), .val (.int p3), .val (.int p4), .val (.int (1 : Int32)), .val (.int md), .val (.int cc), .val (.ref b156), .val (.int (17 : Int32)), .unset, .unset] [(.int (3 : Int32)), (.int md)]))
          by_cases hc179 : md = (3 : Int32)
          · refine own_ofW (fun tt_ kk_ => XS.icmpNo X156.here hx rfl (hb hby at_183) rfl (teq hc179).2 kk_) ?_
            show own_EndsW _ _ _ _ _ _ _ _ (T156.setTop (mkF m 186 #[.val (.int p1), .val (.int p2), .val (.int p3), .val (.int p4), .val (.int (1 : Int32)), .val (.int md), .val (.int cc), .val (.ref b156), .val (.int (17 : Int32)), .unset, .unset] []))
            refine own_ofW (fun tt_ kk_ => XS.iloadN X156.here hx rfl (hb hby at_186) rfl  kk_) ?_
            show own_EndsW _ _ _ _ _ _ _ _ (T156.setTop (mkF m 187 #[.val (.int p1), .val (.int p2), .val (.int p3), .val (.int p4), .val (.int (1 : Int32)), .val (.int md), .val (.int cc), .val (.ref b156), .val (.int (17 : Int32)), .unset, .unset] [(.int p2)]))
            refine own_ofW (fun tt_ kk_ => X156.ldcI hx hown (mvT hZ (hw _ (List.mem_of_getElem? (i := 62) rfl))) (g := (mkF m 187 #[.val (.int p1), .val (.int p2), .val (.int p3), .val (.int p4), .val (.int (1 : Int32)), .val (.int md), .val (.int cc), .val (.ref b156), .val (.int (17 : Int32)), .unset, .unset] [(.int p2)])) rfl (hb hby at_187) kk_) ?_
            show own_EndsW _ _ _ _ _ _ _ _ (T156.setTop (mkF m 189 #[.val (.int p1), .val (.int p2), .val (.int p3), .val (.int p4), .val (.int (1 : Int32)), .val (.int md), .val (.int cc), .val (.ref b156), .val (.int (17 : Int32)), .unset, .unset] [(.int (2147483647 : Int32)), (.int p2)]))
            refine own_ofW (fun tt_ kk_ => XS.iand X156.here hx rfl (hb hby at_189) rfl kk_) ?_
            show own_EndsW _ _ _ _ _ _ _ _ (T156.setTop (mkF m 190 #[.val (.int p1), .val (.int p2), .val (.int p3), .val (.int p4), .val (.int (1 : Int32)), .val (.int md), .val (.int cc), .val (.ref b156), .val (.int (17 : Int32)), .unset, .unset] [(.int (p2 &&& (2147483647 : Int32)))]))
            refine own_ofW (fun tt_ kk_ => XS.iload X156.here hx rfl (hb hby at_190) rfl  kk_) ?_
            show own_EndsW _ _ _ _ _ _ _ _ (T156.setTop (mkF m 192 #[.val (.int p1), .val (.int p2), .val (.int p3), .val (.int p4), .val (.int (1 : Int32)), .val (.int md), .val (.int cc), .val (.ref b156), .val (.int (17 : Int32)), .unset, .unset] [(.int (17 : Int32)), (.int (p2 &&& (2147483647 : Int32)))]))
            refine own_ofW (fun tt_ kk_ => iremM (g := (mkF m 192 #[.val (.int p1), .val (.int p2), .val (.int p3), .val (.int p4), .val (.int (1 : Int32)), .val (.int md), .val (.int cc), .val (.ref b156), .val (.int (17 : Int32)), .unset, .unset] [(.int (17 : Int32)), (.int (p2 &&& (2147483647 : Int32)))])) X156 hx rfl (hb hby at_192) rfl (by decide) kk_) ?_
            show own_EndsW _ _ _ _ _ _ _ _ (T156.setTop (mkF m 193 #[.val (.int p1), .val (.int p2), .val (.int p3), .val (.int p4), .val (.int (1 : Int32)), .val (.int md), .val (.int cc), .val (.ref b156), .val (.int (17 : Int32)), .unset, .unset] [(.int ((p2 &&& (2147483647 : Int32)) % (17 : Int32)))]))
            obtain ⟨pr, hpr⟩ : ∃ z : Int32, z = ((p2 &&& (2147483647 : Int32)) % (17 : Int32)) := ⟨_, rfl⟩
            rw [← hpr]
            obtain ⟨pr_0, pr_n, pk_n⟩ : ¬ pr < 0 ∧ pr < (17 : Int32) ∧ pr.toNatClampNeg < 17 := by rw [hpr]; exact own_rem p2 (17 : Int32) 17 rfl (by decide)
            obtain ⟨pk, hpk⟩ : ∃ z, z = pr.toNatClampNeg := ⟨_, rfl⟩
            rw [← hpk] at pk_n
            show own_EndsW _ _ _ _ _ _ _ _ (T156.setTop (mkF m 193 #[.val (.int p1), .val (.int p2), .val (.int p3), .val (.int p4), .val (.int (1 : Int32)), .val (.int md), .val (.int cc), .val (.ref b156), .val (.int (17 : Int32)), .unset, .unset] [(.int pr)]))
            refine own_ofW (fun tt_ kk_ => XS.istore X156.here hx rfl (hb hby at_193) rfl (l' := #[.val (.int p1), .val (.int p2), .val (.int p3), .val (.int p4), .val (.int (1 : Int32)), .val (.int md), .val (.int cc), .val (.ref b156), .val (.int (17 : Int32)), .val (.int pr), .unset]) rfl kk_) ?_
            show own_EndsW _ _ _ _ _ _ _ _ (T156.setTop (mkF m 195 #[.val (.int p1), .val (.int p2), .val (.int p3), .val (.int p4), .val (.int (1 : Int32)), .val (.int md), .val (.int cc), .val (.ref b156), .val (.int (17 : Int32)), .val (.int pr), .unset] []))
            refine own_ofW (fun tt_ kk_ => XS.aload X156.here hx rfl (hb hby at_195) rfl rfl kk_) ?_
            show own_EndsW _ _ _ _ _ _ _ _ (T156.setTop (mkF m 197 #[.val (.int p1), .val (.int p2), .val (.int p3), .val (.int p4), .val (.int (1 : Int32)), .val (.int md), .val (.int cc), .val (.ref b156), .val (.int (17 : Int32)), .val (.int pr), .unset] [(.ref b156)]))
            refine own_ofW (fun tt_ kk_ => XS.iload X156.here hx rfl (hb hby at_197) rfl  kk_) ?_
            show own_EndsW _ _ _ _ _ _ _ _ (T156.setTop (mkF m 199 #[.val (.int p1), .val (.int p2), .val (.int p3), .val (.int p4), .val (.int (1 : Int32)), .val (.int md), .val (.int cc), .val (.ref b156), .val (.int (17 : Int32)), .val (.int pr), .unset] [(.int pr), (.ref b156)]))
            obtain ⟨cl180, Ar180, q180, S180, N180', H180, G180⟩ := id Vb156
            have hin180 : ¬ (pr < 0 ∨ cl180.slots.size ≤ pr.toNatClampNeg) := inb_of S180 ⟨pr_0, pr_n⟩
            have hat180 : cl180.slots[pr.toNatClampNeg]? = some (.int (own_MOD.getD pk 0)) := H180.at hin180 (by rw [← hpk]; exact own_getD _ _)
            refine own_ofW (fun tt_ kk_ => X156.caload hx (j := pr) (v := (.int (own_MOD.getD pk 0))) (by rw [e156]; exact Ar180.1) (State.isArrayOf_alike hZ.alike Ar180.2.1) Ar180.2.2 hin180 hat180 (g := (mkF m 199 #[.val (.int p1), .val (.int p2), .val (.int p3), .val (.int p4), .val (.int (1 : Int32)), .val (.int md), .val (.int cc), .val (.ref b156), .val (.int (17 : Int32)), .val (.int pr), .unset] [(.int pr), (.ref b156)])) rfl rfl (hb hby at_199) _ kk_) ?_
            show own_EndsW _ _ _ _ _ _ _ _ (T156.setTop (mkF m 200 #[.val (.int p1), .val (.int p2), .val (.int p3), .val (.int p4), .val (.int (1 : Int32)), .val (.int md), .val (.int cc), .val (.ref b156), .val (.int (17 : Int32)), .val (.int pr), .unset] [(.int (own_MOD.getD pk 0))]))
            refine own_ofW (fun tt_ kk_ => XS.istore X156.here hx rfl (hb hby at_200) rfl (l' := #[.val (.int p1), .val (.int p2), .val (.int p3), .val (.int p4), .val (.int (1 : Int32)), .val (.int md), .val (.int cc), .val (.ref b156), .val (.int (17 : Int32)), .val (.int pr), .val (.int (own_MOD.getD pk 0))]) rfl kk_) ?_
            show own_EndsW _ _ _ _ _ _ _ _ (T156.setTop (mkF m 202 #[.val (.int p1), .val (.int p2), .val (.int p3), .val (.int p4), .val (.int (1 : Int32)), .val (.int md), .val (.int cc), .val (.ref b156), .val (.int (17 : Int32)), .val (.int pr), .val (.int (own_MOD.getD pk 0))] []))
            refine own_ofW (fun tt_ kk_ => XS.iload X156.here hx rfl (hb hby at_202) rfl  kk_) ?_
            show own_EndsW _ _ _ _ _ _ _ _ (T156.setTop (mkF m 204 #[.val (.int p1), .val (.int p2), .val (.int p3), .val (.int p4), .val (.int (1 : Int32)), .val (.int md), .val (.int cc), .val (.ref b156), .val (.int (17 : Int32)), .val (.int pr), .val (.int (own_MOD.getD pk 0))] [(.int (own_MOD.getD pk 0))]))
            refine own_ofW (fun tt_ kk_ => XS.bipush X156.here hx rfl (hb hby at_204) kk_) ?_
            show own_EndsW _ _ _ _ _ _ _ _ (T156.setTop (mkF m 206 #[.val (.int p1), .val (.int p2), .val (.int p3), .val (.int p4), .val (.int (1 : Int32)), .val (.int md), .val (.int cc), .val (.ref b156), .val (.int (17 : Int32)), .val (.int pr), .val (.int (own_MOD.getD pk 0))] [(.int (97 : Int32)), (.int (own_MOD.getD pk 0))]))
            by_cases hc181 : (own_MOD.getD pk 0) < (97 : Int32)
            · refine own_ofW (fun tt_ kk_ => XS.icmpYes X156.here hx rfl (pc0 := 206) (pc' := 230) rfl (hb hby at_206) rfl (tlt hc181).1 (by decide) (by decide) kk_) ?_
              show own_EndsW _ _ _ _ _ _ _ _ (T156.setTop (mkF m 230 #[.val (.int p1), .val (.int p2), .val (.int p3), .val (.int p4), .val (.int (1 : Int32)), .val (.int md), .val (.int cc), .val (.ref b156), .val (.int (17 : Int32)), .val (.int pr), .val (.int (own_MOD.getD pk 0))] []))
              refine own_ofW (fun tt_ kk_ => XS.aload X156.here hx rfl (hb hby at_230) rfl rfl kk_) ?_
              show own_EndsW _ _ _ _ _ _ _ _ (T156.setTop (mkF m 232 #[.val (.int p1), .val (.int p2), .val (.int p3), .val (.int p4), .val (.int (1 : Int32)), .val (.int md), .val (.int cc), .val (.ref b156), .val (.int (17 : Int32)), .val (.int pr), .val (.int (own_MOD.getD pk 0))] [(.ref b156)]))
              refine own_ofW (fun tt_ kk_ => XS.iload X156.here hx rfl (hb hby at_232) rfl  kk_) ?_
              show own_EndsW _ _ _ _ _ _ _ _ (T156.setTop (mkF m 234 #[.val (.int p1), .val (.int p2), .val (.int p3), .val (.int p4), .val (.int (1 : Int32)), .val (.int md), .val (.int cc), .val (.ref b156), .val (.int (17 : Int32)), .val (.int pr), .val (.int (own_MOD.getD pk 0))] [(.int pr), (.ref b156)]))
              refine own_ofW (fun tt_ kk_ => XS.iload X156.here hx rfl (hb hby at_234) rfl  kk_) ?_
              show own_EndsW _ _ _ _ _ _ _ _ (T156.setTop (mkF m 236 #[.val (.int p1), .val (.int p2), .val (.int p3), .val (.int p4), .val (.int (1 : Int32)), .val (.int md), .val (.int cc), .val (.ref b156), .val (.int (17 : Int32)), .val (.int pr), .val (.int (own_MOD.getD pk 0))] [(.int (own_MOD.getD pk 0)), (.int pr), (.ref b156)]))
              refine own_ofW (fun tt_ kk_ => XS.bipush X156.here hx rfl (hb hby at_236) kk_) ?_
              show own_EndsW _ _ _ _ _ _ _ _ (T156.setTop (mkF m 238 #[.val (.int p1), .val (.int p2), .val (.int p3), .val (.int p4), .val (.int (1 : Int32)), .val (.int md), .val (.int cc), .val (.ref b156), .val (.int (17 : Int32)), .val (.int pr), .val (.int (own_MOD.getD pk 0))] [(.int (32 : Int32)), (.int (own_MOD.getD pk 0)), (.int pr), (.ref b156)]))
              refine own_ofW (fun tt_ kk_ => XS.iadd X156.here hx rfl (hb hby at_238) rfl kk_) ?_
              show own_EndsW _ _ _ _ _ _ _ _ (T156.setTop (mkF m 239 #[.val (.int p1), .val (.int p2), .val (.int p3), .val (.int p4), .val (.int (1 : Int32)), .val (.int md), .val (.int cc), .val (.ref b156), .val (.int (17 : Int32)), .val (.int pr), .val (.int (own_MOD.getD pk 0))] [(.int ((own_MOD.getD pk 0) + (32 : Int32))), (.int pr), (.ref b156)]))
              refine own_ofW (fun tt_ kk_ => XS.i2c X156.here hx rfl (hb hby at_239) rfl kk_) ?_
              show own_EndsW _ _ _ _ _ _ _ _ (T156.setTop (mkF m 240 #[.val (.int p1), .val (.int p2), .val (.int p3), .val (.int p4), .val (.int (1 : Int32)), .val (.int md), .val (.int cc), .val (.ref b156), .val (.int (17 : Int32)), .val (.int pr), .val (.int (own_MOD.getD pk 0))] [(.int (((own_MOD.getD pk 0) + (32 : Int32)).toUInt32.toUInt16.toUInt32.toInt32)), (.int pr), (.ref b156)]))
              obtain ⟨cl182, Ar182, q182, S182, N182', H182, G182⟩ := id Vb156
              have hin182 : ¬ (pr < 0 ∨ cl182.slots.size ≤ (pr).toNatClampNeg) := inb_of S182 ⟨pr_0, pr_n⟩
              obtain ⟨T182, h182, X182, e182, W182, st182⟩ := stC X156 hx hZ e156 Ar182 (j := pr) hin182 (g := (mkF m 240 #[.val (.int p1), .val (.int p2), .val (.int p3), .val (.int p4), .val (.int (1 : Int32)), .val (.int md), .val (.int cc), .val (.ref b156), .val (.int (17 : Int32)), .val (.int pr), .val (.int (own_MOD.getD pk 0))] [(.int (((own_MOD.getD pk 0) + (32 : Int32)).toUInt32.toUInt16.toUInt32.toInt32)), (.int pr), (.ref b156)])) rfl rfl (hb hby at_240)
              have V182' : Arv Z h182 b156 k156 .char (17 : Int32) ((own_MOD.set pk (nar .char (((own_MOD.getD pk 0) + (32 : Int32)).toUInt32.toUInt16.toUInt32.toInt32))).map Value.int) (.int (0 : Int32)) := by
                rw [List.map_set]; exact Arv.set Ar182 q182 S182 N182' H182 G182 (fits_nar_char _) W182 pk hpk.symm (by rw [List.length_map, len_own_MOD]; exact pk_n)
              replace hk := Nat.le_trans hk (Keep.of_wr W182).1
              replace HC := HC.trans (CHr.wr W182 (Safe.arv hZ.alike Vb156 (by decide)) HC.1)
              replace OL := OL.wr W182 g_b156
              have N182 := Fr.snoc X182 N156 g_b156
              replace K := K.wr W182 (Or.inr sz_b156)
              refine own_ofW st182 ?_
              show own_EndsW _ _ _ _ _ _ _ _ (T182.setTop (mkF m 241 #[.val (.int p1), .val (.int p2), .val (.int p3), .val (.int p4), .val (.int (1 : Int32)), .val (.int md), .val (.int cc), .val (.ref b156), .val (.int (17 : Int32)), .val (.int pr), .val (.int (own_MOD.getD pk 0))] []))
              obtain ⟨T183, h183, X183, e183, E183, A183, D183, -, st183⟩ := newO X182 hx hZ hown (hw _ (List.mem_of_getElem? (i := 5) rfl)) (hw _ (List.mem_of_getElem? (i := 6) rfl)) (hw _ (List.mem_of_getElem? (i := 7) rfl)) e182 (g := (mkF m 241 #[.val (.int p1), .val (.int p2), .val (.int p3), .val (.int p4), .val (.int (1 : Int32)), .val (.int md), .val (.int cc), .val (.ref b156), .val (.int (17 : Int32)), .val (.int pr), .val (.int (own_MOD.getD pk 0))] [])) rfl (hb hby at_241) (by decide) (by decide)
              obtain ⟨b183, g183⟩ : ∃ z, z = h182.size := ⟨_, rfl⟩
              rw [← g183] at A183 D183 st183
              have ne_b156_b183 : b156 ≠ b183 := Nat.ne_of_lt (Nat.lt_of_lt_of_le V182'.lt (Nat.le_of_eq g183.symm))
              have sz_b183 : h0.size ≤ b183 := Nat.le_trans K.1 (Nat.le_of_eq g183.symm)
              have g_b183 : n0 ≤ b183 := Nat.le_trans Z0 sz_b183
              have Sf_b183 : Safe Z own_EL s.vm h182 b183 := Safe.new (Nat.le_of_eq g183.symm)
              replace Sf_b183 := Safe.ext E183 HC.1 Sf_b183
              replace hk := Nat.le_trans hk E183.1
              replace HC := HC.trans (CHr.ext E183 HC.1)
              replace OL := OL.ext E183
              replace V182' := V182'.ext E183
              have F_coder_b183 : Fld Z h183 b183 "java/lang/String" "coder" "B" (.int (0 : Int32)) := D183 (Or.inr (hw _ (List.mem_of_getElem? (i := 31) rfl))) (ty := .byte) (by decide)
              have F_value_b183 : Fld Z h183 b183 "java/lang/String" "value" "[B" .null := D183 (Or.inr (hw _ (List.mem_of_getElem? (i := 33) rfl))) (ty := (.array .byte)) (by decide)
              replace K := K.ext E183
              refine own_ofW st183 ?_
              show own_EndsW _ _ _ _ _ _ _ _ (T183.setTop (mkF m 244 #[.val (.int p1), .val (.int p2), .val (.int p3), .val (.int p4), .val (.int (1 : Int32)), .val (.int md), .val (.int cc), .val (.ref b156), .val (.int (17 : Int32)), .val (.int pr), .val (.int (own_MOD.getD pk 0))] [(.ref b183)]))
              refine own_ofW (fun tt_ kk_ => XS.dup X183.here hx rfl (hb hby at_244) rfl rfl kk_) ?_
              show own_EndsW _ _ _ _ _ _ _ _ (T183.setTop (mkF m 245 #[.val (.int p1), .val (.int p2), .val (.int p3), .val (.int p4), .val (.int (1 : Int32)), .val (.int md), .val (.int cc), .val (.ref b156), .val (.int (17 : Int32)), .val (.int pr), .val (.int (own_MOD.getD pk 0))] [(.ref b183), (.ref b183)]))
              refine own_ofW (fun tt_ kk_ => XS.aload X183.here hx rfl (hb hby at_245) rfl rfl kk_) ?_
              show own_EndsW _ _ _ _ _ _ _ _ (T183.setTop (mkF m 247 #[.val (.int p1), .val (.int p2), .val (.int p3), .val (.int p4), .val (.int (1 : Int32)), .val (.int md), .val (.int cc), .val (.ref b156), .val (.int (17 : Int32)), .val (.int pr), .val (.int (own_MOD.getD pk 0))] [(.ref b156), (.ref b183), (.ref b183)]))
              obtain ⟨cs184, ecs184⟩ : ∃ z : List Int32, z = (own_MOD.set pk (nar .char (((own_MOD.getD pk 0) + (32 : Int32)).toUInt32.toUInt16.toUInt32.toInt32))) := ⟨_, rfl⟩
              have vb184 : own_lat8 cs184 := by rw [ecs184]; exact (flip_lo_own_MOD ⟨pk, pk_n⟩ hc181).2
              have ln184 : cs184.length = 17 := by rw [ecs184]; exact (List.length_set.trans len_own_MOD)
              have V182'' : Arv Z h183 b156 k156 .char (17 : Int32) (cs184.map Value.int) (.int (0 : Int32)) := by rw [ecs184]; exact V182'
              have ZH184 : n0 ≤ h183.size := Nat.le_trans Z0 K.1
              obtain ⟨_, _, ⟨T184, L184, kk184, nn184⟩, -, X184, ⟨Lc184, Q184, l184, y184, z184⟩, st184⟩ := X183.specialBack hx (y := (⟨"java/lang/String", "<init>", "([C)V"⟩ : MethodName)) rfl hown (mvT hZ (hw _ (List.mem_of_getElem? (i := 8) rfl))) (mvT hZ (hw _ (List.mem_of_getElem? (i := 9) rfl))) (mvT hZ (hw _ (List.mem_of_getElem? (i := 10) rfl))) (by decide) (StrChars.Road.backV (W := 1) hZ hws (kI := 4) (hw _ (List.mem_of_getElem? (i := 6) rfl)) (cs := cs184) (bs := cs184.map StrChars.lo8) (n := 17) g_b183 ZH184 A183 F_value_b183 F_coder_b183 V182'' (O2.ext OL.2) P3 ln184 rfl (by decide) (by decide) vb184 rfl (by decide) (by decide)) (g := (mkF m 247 #[.val (.int p1), .val (.int p2), .val (.int p3), .val (.int p4), .val (.int (1 : Int32)), .val (.int md), .val (.int cc), .val (.ref b156), .val (.int (17 : Int32)), .val (.int pr), .val (.int (own_MOD.getD pk 0))] [(.ref b156), (.ref b183), (.ref b183)])) rfl (by rw [hml]; rfl) (Steps.refl _) (a := b183) (argsL := [(.ref b156)]) (rest := [(.ref b183)]) (lenOf pd__AC_r_V rfl) rfl (by show 2 * 0 + _ ≤ _; exact Nat.le_of_eq rfl) (hb hby at_247) (fun _ _ => ⟨rfl, e183, (by decide : 2 + 1 ≤ _), (by decide : 21 + 17 ≤ _)⟩)
              dsimp only [Pt.U, Pt.locs, Pt.cells, Pt.slots] at X184 l184 y184 z184 st184 Q184
              subst l184 y184 z184
              obtain ⟨rfl, Nq184, Kq184, Eq184, Cq184, t184, kb184, g_t184, szz184, nex184, Fq184, Vq184⟩ := Q184
              obtain ⟨h184, eh184⟩ : ∃ z, z = T184.heap := ⟨_, rfl⟩
              rw [← eh184] at Kq184 Eq184 Cq184 Fq184 Vq184
              have e184 := eh184.symm
              have Sf_b183' := Safe.keep Kq184 (sfS Sf_b183 sf0) HC.1 Sf_b183
              replace hk := Nat.le_trans hk Kq184.1
              replace HC := HC.trans (CHr.keep Kq184 (sfS Sf_b183 sf0) HC.1)
              replace Sf_b183 := Sf_b183'
              replace OL := OL.keep Kq184 (allS g_b183 all0)
              replace A183 := A183.keep Kq184
              replace K := K.trans Kq184 (allS (Or.inr sz_b183) all0)
              have N184 := Fr.app N182 Nq184
              refine own_ofW (fun t k => st184.trans k) ?_
              show own_EndsW _ _ _ _ _ _ _ _ (T184.setTop (mkF m 250 #[.val (.int p1), .val (.int p2), .val (.int p3), .val (.int p4), .val (.int (1 : Int32)), .val (.int md), .val (.int cc), .val (.ref b156), .val (.int (17 : Int32)), .val (.int pr), .val (.int (own_MOD.getD pk 0))] [(.ref b183)]))
              obtain ⟨v185, T185, L185, h185, k185', X185, e185, Q185, hZ, hown, hS, hk, HCq185, st185⟩ := own_staticW X184 hx hZ hown e184 hS hk hEL HC.1 (hw _ (List.mem_of_getElem? (i := 34) rfl)) (hw _ (List.mem_of_getElem? (i := 35) rfl)) (hw _ (List.mem_of_getElem? (i := 36) rfl)) (hw _ (List.mem_of_getElem? (i := 37) rfl)) (by decide) (argsL := [(.ref b183)]) (rest := []) (rm_nlN l Z a0 hw b183 t184 kb184 cs184 (17 : Int32) G1 h184 n0 (Nat.le_trans Z0 K.1) hEL Eq184 Cq184 Fq184 Vq184 (by rw [ln184]; rfl) vb184 (by rw [ln184]; decide) O2 P3 OL (by rw [ecs184]; exact (own_neL (List.length_set.trans len_own_MOD) len_own_EXT (by decide))) (by rw [ecs184]; exact (flip_lo_own_MOD ⟨pk, pk_n⟩ hc181).1)) (g := (mkF m 250 #[.val (.int p1), .val (.int p2), .val (.int p3), .val (.int p4), .val (.int (1 : Int32)), .val (.int md), .val (.int cc), .val (.ref b156), .val (.int (17 : Int32)), .val (.int pr), .val (.int (own_MOD.getD pk 0))] [(.ref b183)])) rfl (by rw [hml]; rfl) (lenOf pd__Ljava_lang_String__r_Z rfl) rfl (by decide) (Nat.le_of_ble_eq_true rfl) (by decide) (by decide) (hb hby at_250)
              replace HC := HC.trans HCq185
              obtain ⟨rfl, Nq185, Kq185⟩ := Q185
              replace OL := OL.keep Kq185 all0
              replace Eq184 := Eq184.keep Kq185
              replace Cq184 := Cq184.keep Kq185 nin0
              replace Fq184 := Fq184.keep Kq185 nin0
              replace Vq184 := Vq184.keep Kq185 nin0
              replace K := K.trans Kq185 all0
              have N185 := Fr.app N184 Nq185
              refine own_ofW st185 ?_
              show own_EndsW _ _ _ _ _ _ _ _ (T185.setTop (mkF m 253 #[.val (.int p1), .val (.int p2), .val (.int p3), .val (.int p4), .val (.int (1 : Int32)), .val (.int md), .val (.int cc), .val (.ref b156), .val (.int (17 : Int32)), .val (.int pr), .val (.int (own_MOD.getD pk 0))] [(.int (0 : Int32))]))
              refine own_ofW (fun tt_ kk_ => XS.ifNo X185.here hx rfl (hb hby at_253) rfl ((if0 _ _).trans (teq (by decide : ((0 : Int32) = (0 : Int32)))).2) kk_) ?_
              show own_EndsW _ _ _ _ _ _ _ _ (T185.setTop (mkF m 256 #[.val (.int p1), .val (.int p2), .val (.int p3), .val (.int p4), .val (.int (1 : Int32)), .val (.int md), .val (.int cc), .val (.ref b156), .val (.int (17 : Int32)), .val (.int pr), .val (.int (own_MOD.getD pk 0))] []))
              refine own_ofW (fun tt_ kk_ => XS.iconst X185.here hx rfl (hb hby at_256) kk_) ?_
              show own_EndsW _ _ _ _ _ _ _ _ (T185.setTop (mkF m 257 #[.val (.int p1), .val (.int p2), .val (.int p3), .val (.int p4), .val (.int (1 : Int32)), .val (.int md), .val (.int cc), .val (.ref b156), .val (.int (17 : Int32)), .val (.int pr), .val (.int (own_MOD.getD pk 0))] [(.int (1 : Int32))]))
              refine own_ofW (fun tt_ kk_ => XS.goto X185.here hx rfl (pc0 := 257) (pc' := 261) rfl (hb hby at_257) (by decide) (by decide) kk_) ?_
              show own_EndsW _ _ _ _ _ _ _ _ (T185.setTop (mkF m 261 #[.val (.int p1), .val (.int p2), .val (.int p3), .val (.int p4), .val (.int (1 : Int32)), .val (.int md), .val (.int cc), .val (.ref b156), .val (.int (17 : Int32)), .val (.int pr), .val (.int (own_MOD.getD pk 0))] [(.int (1 : Int32))]))
              refine own_retNW X185 hx hlk hZ hS e185 hk es hEL HC (t := .boolean) hret (by simp) (z' := (1 : Int32)) rfl (hb hby at_261) (by decide) (by decide) ?_
              exact ⟨rfl, N185⟩
            · refine own_ofW (fun tt_ kk_ => XS.icmpNo X156.here hx rfl (hb hby at_206) rfl (flt hc181).1 kk_) ?_
              show own_EndsW _ _ _ _ _ _ _ _ (T156.setTop (mkF m 209 #[.val (.int p1), .val (.int p2), .val (.int p3), .val (.int p4), .val (.int (1 : Int32)), .val (.int md), .val (.int cc), .val (.ref b156), .val (.int (17 : Int32)), .val (.int pr), .val (.int (own_MOD.getD pk 0))] []))
              refine own_ofW (fun tt_ kk_ => XS.iload X156.here hx rfl (hb hby at_209) rfl  kk_) ?_
              show own_EndsW _ _ _ _ _ _ _ _ (T156.setTop (mkF m 211 #[.val (.int p1), .val (.int p2), .val (.int p3), .val (.int p4), .val (.int (1 : Int32)), .val (.int md), .val (.int cc), .val (.ref b156), .val (.int (17 : Int32)), .val (.int pr), .val (.int (own_MOD.getD pk 0))] [(.int (own_MOD.getD pk 0))]))
              refine own_ofW (fun tt_ kk_ => XS.bipush X156.here hx rfl (hb hby at_211) kk_) ?_
              show own_EndsW _ _ _ _ _ _ _ _ (T156.setTop (mkF m 213 #[.val (.int p1), .val (.int p2), .val (.int p3), .val (.int p4), .val (.int (1 : Int32)), .val (.int md), .val (.int cc), .val (.ref b156), .val (.int (17 : Int32)), .val (.int pr), .val (.int (own_MOD.getD pk 0))] [(.int (122 : Int32)), (.int (own_MOD.getD pk 0))]))
              by_cases hc186 : (122 : Int32) < (own_MOD.getD pk 0)
              · refine own_ofW (fun tt_ kk_ => XS.icmpYes X156.here hx rfl (pc0 := 213) (pc' := 230) rfl (hb hby at_213) rfl (tlt hc186).2.2.1 (by decide) (by decide) kk_) ?_
                show own_EndsW _ _ _ _ _ _ _ _ (T156.setTop (mkF m 230 #[.val (.int p1), .val (.int p2), .val (.int p3), .val (.int p4), .val (.int (1 : Int32)), .val (.int md), .val (.int cc), .val (.ref b156), .val (.int (17 : Int32)), .val (.int pr), .val (.int (own_MOD.getD pk 0))] []))
                refine own_ofW (fun tt_ kk_ => XS.aload X156.here hx rfl (hb hby at_230) rfl rfl kk_) ?_
                show own_EndsW _ _ _ _ _ _ _ _ (T156.setTop (mkF m 232 #[.val (.int p1), .val (.int p2), .val (.int p3), .val (.int p4), .val (.int (1 : Int32)), .val (.int md), .val (.int cc), .val (.ref b156), .val (.int (17 : Int32)), .val (.int pr), .val (.int (own_MOD.getD pk 0))] [(.ref b156)]))
                refine own_ofW (fun tt_ kk_ => XS.iload X156.here hx rfl (hb hby at_232) rfl  kk_) ?_
                show own_EndsW _ _ _ _ _ _ _ _ (T156.setTop (mkF m 234 #[.val (.int p1), .val (.int p2), .val (.int p3), .val (.int p4), .val (.int (1 : Int32)), .val (.int md), .val (.int cc), .val (.ref b156), .val (.int (17 : Int32)), .val (.int pr), .val (.int (own_MOD.getD pk 0))] [(.int pr), (.ref b156)]))
                refine own_ofW (fun tt_ kk_ => XS.iload X156.here hx rfl (hb hby at_234) rfl  kk_) ?_
                show own_EndsW _ _ _ _ _ _ _ _ (T156.setTop (mkF m 236 #[.val (.int p1), .val (.int p2), .val (.int p3), .val (.int p4), .val (.int (1 : Int32)), .val (.int md), .val (.int cc), .val (.ref b156), .val (.int (17 : Int32)), .val (.int pr), .val (.int (own_MOD.getD pk 0))] [(.int (own_MOD.getD pk 0)), (.int pr), (.ref b156)]))
                refine own_ofW (fun tt_ kk_ => XS.bipush X156.here hx rfl (hb hby at_236) kk_) ?_
                show own_EndsW _ _ _ _ _ _ _ _ (T156.setTop (mkF m 238 #[.val (.int p1), .val (.int p2), .val (.int p3), .val (.int p4), .val (.int (1 : Int32)), .val (.int md), .val (.int cc), .val (.ref b156), .val (.int (17 : Int32)), .val (.int pr), .val (.int (own_MOD.getD pk 0))] [(.int (32 : Int32)), (.int (own_MOD.getD pk 0)), (.int pr), (.ref b156)]))
                refine own_ofW (fun tt_ kk_ => XS.iadd X156.here hx rfl (hb hby at_238) rfl kk_) ?_
                show own_EndsW _ _ _ _ _ _ _ _ (T156.setTop (mkF m 239 #[.val (.int p1), .val (.int p2), .val (.int p3), .val (.int p4), .val (.int (1 : Int32)), .val (.int md), .val (.int cc), .val (.ref b156), .val (.int (17 : Int32)), .val (.int pr), .val (.int (own_MOD.getD pk 0))] [(.int ((own_MOD.getD pk 0) + (32 : Int32))), (.int pr), (.ref b156)]))
                refine own_ofW (fun tt_ kk_ => XS.i2c X156.here hx rfl (hb hby at_239) rfl kk_) ?_
                show own_EndsW _ _ _ _ _ _ _ _ (T156.setTop (mkF m 240 #[.val (.int p1), .val (.int p2), .val (.int p3), .val (.int p4), .val (.int (1 : Int32)), .val (.int md), .val (.int cc), .val (.ref b156), .val (.int (17 : Int32)), .val (.int pr), .val (.int (own_MOD.getD pk 0))] [(.int (((own_MOD.getD pk 0) + (32 : Int32)).toUInt32.toUInt16.toUInt32.toInt32)), (.int pr), (.ref b156)]))
                obtain ⟨cl187, Ar187, q187, S187, N187', H187, G187⟩ := id Vb156
                have hin187 : ¬ (pr < 0 ∨ cl187.slots.size ≤ (pr).toNatClampNeg) := inb_of S187 ⟨pr_0, pr_n⟩
                obtain ⟨T187, h187, X187, e187, W187, st187⟩ := stC X156 hx hZ e156 Ar187 (j := pr) hin187 (g := (mkF m 240 #[.val (.int p1), .val (.int p2), .val (.int p3), .val (.int p4), .val (.int (1 : Int32)), .val (.int md), .val (.int cc), .val (.ref b156), .val (.int (17 : Int32)), .val (.int pr), .val (.int (own_MOD.getD pk 0))] [(.int (((own_MOD.getD pk 0) + (32 : Int32)).toUInt32.toUInt16.toUInt32.toInt32)), (.int pr), (.ref b156)])) rfl rfl (hb hby at_240)
                have V187' : Arv Z h187 b156 k156 .char (17 : Int32) ((own_MOD.set pk (nar .char (((own_MOD.getD pk 0) + (32 : Int32)).toUInt32.toUInt16.toUInt32.toInt32))).map Value.int) (.int (0 : Int32)) := by
                  rw [List.map_set]; exact Arv.set Ar187 q187 S187 N187' H187 G187 (fits_nar_char _) W187 pk hpk.symm (by rw [List.length_map, len_own_MOD]; exact pk_n)
                replace hk := Nat.le_trans hk (Keep.of_wr W187).1
                replace HC := HC.trans (CHr.wr W187 (Safe.arv hZ.alike Vb156 (by decide)) HC.1)
                replace OL := OL.wr W187 g_b156
                have N187 := Fr.snoc X187 N156 g_b156
                replace K := K.wr W187 (Or.inr sz_b156)
                refine own_ofW st187 ?_
                show own_EndsW _ _ _ _ _ _ _ _ (T187.setTop (mkF m 241 #[.val (.int p1), .val (.int p2), .val (.int p3), .val (.int p4), .val (.int (1 : Int32)), .val (.int md), .val (.int cc), .val (.ref b156), .val (.int (17 : Int32)), .val (.int pr), .val (.int (own_MOD.getD pk 0))] []))
                obtain ⟨T188, h188, X188, e188, E188, A188, D188, -, st188⟩ := newO X187 hx hZ hown (hw _ (List.mem_of_getElem? (i := 5) rfl)) (hw _ (List.mem_of_getElem? (i := 6) rfl)) (hw _ (List.mem_of_getElem? (i := 7) rfl)) e187 (g := (mkF m 241 #[.val (.int p1), .val (.int p2), .val (.int p3), .val (.int p4), .val (.int (1 : Int32)), .val (.int md), .val (.int cc), .val (.ref b156), .val (.int (17 : Int32)), .val (.int pr), .val (.int (own_MOD.getD pk 0))] [])) rfl (hb hby at_241) (by decide) (by decide)
                obtain ⟨b188, g188⟩ : ∃ z, z = h187.size := ⟨_, rfl⟩
                rw [← g188] at A188 D188 st188
                have ne_b156_b188 : b156 ≠ b188 := Nat.ne_of_lt (Nat.lt_of_lt_of_le V187'.lt (Nat.le_of_eq g188.symm))
                have sz_b188 : h0.size ≤ b188 := Nat.le_trans K.1 (Nat.le_of_eq g188.symm)
                have g_b188 : n0 ≤ b188 := Nat.le_trans Z0 sz_b188
                have Sf_b188 : Safe Z own_EL s.vm h187 b188 := Safe.new (Nat.le_of_eq g188.symm)
                replace Sf_b188 := Safe.ext E188 HC.1 Sf_b188
                replace hk := Nat.le_trans hk E188.1
                replace HC := HC.trans (CHr.ext E188 HC.1)
                replace OL := OL.ext E188
                replace V187' := V187'.ext E188
                have F_coder_b188 : Fld Z h188 b188 "java/lang/String" "coder" "B" (.int (0 : Int32)) := D188 (Or.inr (hw _ (List.mem_of_getElem? (i := 31) rfl))) (ty := .byte) (by decide)
                have F_value_b188 : Fld Z h188 b188 "java/lang/String" "value" "[B" .null := D188 (Or.inr (hw _ (List.mem_of_getElem? (i := 33) rfl))) (ty := (.array .byte)) (by decide)
                replace K := K.ext E188
                refine own_ofW st188 ?_
                show own_EndsW _ _ _ _ _ _ _ _ (T188.setTop (mkF m 244 #[.val (.int p1), .val (.int p2), .val (.int p3), .val (.int p4), .val (.int (1 : Int32)), .val (.int md), .val (.int cc), .val (.ref b156), .val (.int (17 : Int32)), .val (.int pr), .val (.int (own_MOD.getD pk 0))] [(.ref b188)]))
                refine own_ofW (fun tt_ kk_ => XS.dup X188.here hx rfl (hb hby at_244) rfl rfl kk_) ?_
                show own_EndsW _ _ _ _ _ _ _ _ (T188.setTop (mkF m 245 #[.val (.int p1), .val (.int p2), .val (.int p3), .val (.int p4), .val (.int (1 : Int32)), .val (.int md), .val (.int cc), .val (.ref b156), .val (.int (17 : Int32)), .val (.int pr), .val (.int (own_MOD.getD pk 0))] [(.ref b188), (.ref b188)]))
                refine own_ofW (fun tt_ kk_ => XS.aload X188.here hx rfl (hb hby at_245) rfl rfl kk_) ?_
                show own_EndsW _ _ _ _ _ _ _ _ (T188.setTop (mkF m 247 #[.val (.int p1), .val (.int p2), .val (.int p3), .val (.int p4), .val (.int (1 : Int32)), .val (.int md), .val (.int cc), .val (.ref b156), .val (.int (17 : Int32)), .val (.int pr), .val (.int (own_MOD.getD pk 0))] [(.ref b156), (.ref b188), (.ref b188)]))
                obtain ⟨cs189, ecs189⟩ : ∃ z : List Int32, z = (own_MOD.set pk (nar .char (((own_MOD.getD pk 0) + (32 : Int32)).toUInt32.toUInt16.toUInt32.toInt32))) := ⟨_, rfl⟩
                have vb189 : own_lat8 cs189 := by rw [ecs189]; exact (flip_hi_own_MOD ⟨pk, pk_n⟩ hc186).2
                have ln189 : cs189.length = 17 := by rw [ecs189]; exact (List.length_set.trans len_own_MOD)
                have V187'' : Arv Z h188 b156 k156 .char (17 : Int32) (cs189.map Value.int) (.int (0 : Int32)) := by rw [ecs189]; exact V187'
                have ZH189 : n0 ≤ h188.size := Nat.le_trans Z0 K.1
                obtain ⟨_, _, ⟨T189, L189, kk189, nn189⟩, -, X189, ⟨Lc189, Q189, l189, y189, z189⟩, st189⟩ := X188.specialBack hx (y := (⟨"java/lang/String", "<init>", "([C)V"⟩ : MethodName)) rfl hown (mvT hZ (hw _ (List.mem_of_getElem? (i := 8) rfl))) (mvT hZ (hw _ (List.mem_of_getElem? (i := 9) rfl))) (mvT hZ (hw _ (List.mem_of_getElem? (i := 10) rfl))) (by decide) (StrChars.Road.backV (W := 1) hZ hws (kI := 4) (hw _ (List.mem_of_getElem? (i := 6) rfl)) (cs := cs189) (bs := cs189.map StrChars.lo8) (n := 17) g_b188 ZH189 A188 F_value_b188 F_coder_b188 V187'' (O2.ext OL.2) P3 ln189 rfl (by decide) (by decide) vb189 rfl (by decide) (by decide)) (g := (mkF m 247 #[.val (.int p1), .val (.int p2), .val (.int p3), .val (.int p4), .val (.int (1 : Int32)), .val (.int md), .val (.int cc), .val (.ref b156), .val (.int (17 : Int32)), .val (.int pr), .val (.int (own_MOD.getD pk 0))] [(.ref b156), (.ref b188), (.ref b188)])) rfl (by rw [hml]; rfl) (Steps.refl _) (a := b188) (argsL := [(.ref b156)]) (rest := [(.ref b188)]) (lenOf pd__AC_r_V rfl) rfl (by show 2 * 0 + _ ≤ _; exact Nat.le_of_eq rfl) (hb hby at_247) (fun _ _ => ⟨rfl, e188, (by decide : 2 + 1 ≤ _), (by decide : 21 + 17 ≤ _)⟩)
                dsimp only [Pt.U, Pt.locs, Pt.cells, Pt.slots] at X189 l189 y189 z189 st189 Q189
                subst l189 y189 z189
                obtain ⟨rfl, Nq189, Kq189, Eq189, Cq189, t189, kb189, g_t189, szz189, nex189, Fq189, Vq189⟩ := Q189
                obtain ⟨h189, eh189⟩ : ∃ z, z = T189.heap := ⟨_, rfl⟩
                rw [← eh189] at Kq189 Eq189 Cq189 Fq189 Vq189
                have e189 := eh189.symm
                have Sf_b188' := Safe.keep Kq189 (sfS Sf_b188 sf0) HC.1 Sf_b188
                replace hk := Nat.le_trans hk Kq189.1
                replace HC := HC.trans (CHr.keep Kq189 (sfS Sf_b188 sf0) HC.1)
                replace Sf_b188 := Sf_b188'
                replace OL := OL.keep Kq189 (allS g_b188 all0)
                replace A188 := A188.keep Kq189
                replace K := K.trans Kq189 (allS (Or.inr sz_b188) all0)
                have N189 := Fr.app N187 Nq189
                refine own_ofW (fun t k => st189.trans k) ?_
                show own_EndsW _ _ _ _ _ _ _ _ (T189.setTop (mkF m 250 #[.val (.int p1), .val (.int p2), .val (.int p3), .val (.int p4), .val (.int (1 : Int32)), .val (.int md), .val (.int cc), .val (.ref b156), .val (.int (17 : Int32)), .val (.int pr), .val (.int (own_MOD.getD pk 0))] [(.ref b188)]))
                obtain ⟨v190, T190, L190, h190, k190', X190, e190, Q190, hZ, hown, hS, hk, HCq190, st190⟩ := own_staticW X189 hx hZ hown e189 hS hk hEL HC.1 (hw _ (List.mem_of_getElem? (i := 34) rfl)) (hw _ (List.mem_of_getElem? (i := 35) rfl)) (hw _ (List.mem_of_getElem? (i := 36) rfl)) (hw _ (List.mem_of_getElem? (i := 37) rfl)) (by decide) (argsL := [(.ref b188)]) (rest := []) (rm_nlN l Z a0 hw b188 t189 kb189 cs189 (17 : Int32) G1 h189 n0 (Nat.le_trans Z0 K.1) hEL Eq189 Cq189 Fq189 Vq189 (by rw [ln189]; rfl) vb189 (by rw [ln189]; decide) O2 P3 OL (by rw [ecs189]; exact (own_neL (List.length_set.trans len_own_MOD) len_own_EXT (by decide))) (by rw [ecs189]; exact (flip_hi_own_MOD ⟨pk, pk_n⟩ hc186).1)) (g := (mkF m 250 #[.val (.int p1), .val (.int p2), .val (.int p3), .val (.int p4), .val (.int (1 : Int32)), .val (.int md), .val (.int cc), .val (.ref b156), .val (.int (17 : Int32)), .val (.int pr), .val (.int (own_MOD.getD pk 0))] [(.ref b188)])) rfl (by rw [hml]; rfl) (lenOf pd__Ljava_lang_String__r_Z rfl) rfl (by decide) (Nat.le_of_ble_eq_true rfl) (by decide) (by decide) (hb hby at_250)
                replace HC := HC.trans HCq190
                obtain ⟨rfl, Nq190, Kq190⟩ := Q190
                replace OL := OL.keep Kq190 all0
                replace Eq189 := Eq189.keep Kq190
                replace Cq189 := Cq189.keep Kq190 nin0
                replace Fq189 := Fq189.keep Kq190 nin0
                replace Vq189 := Vq189.keep Kq190 nin0
                replace K := K.trans Kq190 all0
                have N190 := Fr.app N189 Nq190
                refine own_ofW st190 ?_
                show own_EndsW _ _ _ _ _ _ _ _ (T190.setTop (mkF m 253 #[.val (.int p1), .val (.int p2), .val (.int p3), .val (.int p4), .val (.int (1 : Int32)), .val (.int md), .val (.int cc), .val (.ref b156), .val (.int (17 : Int32)), .val (.int pr), .val (.int (own_MOD.getD pk 0))] [(.int (0 : Int32))]))
                refine own_ofW (fun tt_ kk_ => XS.ifNo X190.here hx rfl (hb hby at_253) rfl ((if0 _ _).trans (teq (by decide : ((0 : Int32) = (0 : Int32)))).2) kk_) ?_
                show own_EndsW _ _ _ _ _ _ _ _ (T190.setTop (mkF m 256 #[.val (.int p1), .val (.int p2), .val (.int p3), .val (.int p4), .val (.int (1 : Int32)), .val (.int md), .val (.int cc), .val (.ref b156), .val (.int (17 : Int32)), .val (.int pr), .val (.int (own_MOD.getD pk 0))] []))
                refine own_ofW (fun tt_ kk_ => XS.iconst X190.here hx rfl (hb hby at_256) kk_) ?_
                show own_EndsW _ _ _ _ _ _ _ _ (T190.setTop (mkF m 257 #[.val (.int p1), .val (.int p2), .val (.int p3), .val (.int p4), .val (.int (1 : Int32)), .val (.int md), .val (.int cc), .val (.ref b156), .val (.int (17 : Int32)), .val (.int pr), .val (.int (own_MOD.getD pk 0))] [(.int (1 : Int32))]))
                refine own_ofW (fun tt_ kk_ => XS.goto X190.here hx rfl (pc0 := 257) (pc' := 261) rfl (hb hby at_257) (by decide) (by decide) kk_) ?_
                show own_EndsW _ _ _ _ _ _ _ _ (T190.setTop (mkF m 261 #[.val (.int p1), .val (.int p2), .val (.int p3), .val (.int p4), .val (.int (1 : Int32)), .val (.int md), .val (.int cc), .val (.ref b156), .val (.int (17 : Int32)), .val (.int pr), .val (.int (own_MOD.getD pk 0))] [(.int (1 : Int32))]))
                refine own_retNW X190 hx hlk hZ hS e190 hk es hEL HC (t := .boolean) hret (by simp) (z' := (1 : Int32)) rfl (hb hby at_261) (by decide) (by decide) ?_
                exact ⟨rfl, N190⟩
              · refine own_ofW (fun tt_ kk_ => XS.icmpNo X156.here hx rfl (hb hby at_213) rfl (flt hc186).2.2.1 kk_) ?_
                show own_EndsW _ _ _ _ _ _ _ _ (T156.setTop (mkF m 216 #[.val (.int p1), .val (.int p2), .val (.int p3), .val (.int p4), .val (.int (1 : Int32)), .val (.int md), .val (.int cc), .val (.ref b156), .val (.int (17 : Int32)), .val (.int pr), .val (.int (own_MOD.getD pk 0))] []))
                refine own_ofW (fun tt_ kk_ => XS.aload X156.here hx rfl (hb hby at_216) rfl rfl kk_) ?_
                show own_EndsW _ _ _ _ _ _ _ _ (T156.setTop (mkF m 218 #[.val (.int p1), .val (.int p2), .val (.int p3), .val (.int p4), .val (.int (1 : Int32)), .val (.int md), .val (.int cc), .val (.ref b156), .val (.int (17 : Int32)), .val (.int pr), .val (.int (own_MOD.getD pk 0))] [(.ref b156)]))
                refine own_ofW (fun tt_ kk_ => XS.iload X156.here hx rfl (hb hby at_218) rfl  kk_) ?_
                show own_EndsW _ _ _ _ _ _ _ _ (T156.setTop (mkF m 220 #[.val (.int p1), .val (.int p2), .val (.int p3), .val (.int p4), .val (.int (1 : Int32)), .val (.int md), .val (.int cc), .val (.ref b156), .val (.int (17 : Int32)), .val (.int pr), .val (.int (own_MOD.getD pk 0))] [(.int pr), (.ref b156)]))
                refine own_ofW (fun tt_ kk_ => XS.iload X156.here hx rfl (hb hby at_220) rfl  kk_) ?_
                show own_EndsW _ _ _ _ _ _ _ _ (T156.setTop (mkF m 222 #[.val (.int p1), .val (.int p2), .val (.int p3), .val (.int p4), .val (.int (1 : Int32)), .val (.int md), .val (.int cc), .val (.ref b156), .val (.int (17 : Int32)), .val (.int pr), .val (.int (own_MOD.getD pk 0))] [(.int (own_MOD.getD pk 0)), (.int pr), (.ref b156)]))
                refine own_ofW (fun tt_ kk_ => XS.bipush X156.here hx rfl (hb hby at_222) kk_) ?_
                show own_EndsW _ _ _ _ _ _ _ _ (T156.setTop (mkF m 224 #[.val (.int p1), .val (.int p2), .val (.int p3), .val (.int p4), .val (.int (1 : Int32)), .val (.int md), .val (.int cc), .val (.ref b156), .val (.int (17 : Int32)), .val (.int pr), .val (.int (own_MOD.getD pk 0))] [(.int (32 : Int32)), (.int (own_MOD.getD pk 0)), (.int pr), (.ref b156)]))
                refine own_ofW (fun tt_ kk_ => XS.isub X156.here hx rfl (hb hby at_224) rfl kk_) ?_
                show own_EndsW _ _ _ _ _ _ _ _ (T156.setTop (mkF m 225 #[.val (.int p1), .val (.int p2), .val (.int p3), .val (.int p4), .val (.int (1 : Int32)), .val (.int md), .val (.int cc), .val (.ref b156), .val (.int (17 : Int32)), .val (.int pr), .val (.int (own_MOD.getD pk 0))] [(.int ((own_MOD.getD pk 0) - (32 : Int32))), (.int pr), (.ref b156)]))
                refine own_ofW (fun tt_ kk_ => XS.i2c X156.here hx rfl (hb hby at_225) rfl kk_) ?_
                show own_EndsW _ _ _ _ _ _ _ _ (T156.setTop (mkF m 226 #[.val (.int p1), .val (.int p2), .val (.int p3), .val (.int p4), .val (.int (1 : Int32)), .val (.int md), .val (.int cc), .val (.ref b156), .val (.int (17 : Int32)), .val (.int pr), .val (.int (own_MOD.getD pk 0))] [(.int (((own_MOD.getD pk 0) - (32 : Int32)).toUInt32.toUInt16.toUInt32.toInt32)), (.int pr), (.ref b156)]))
                obtain ⟨cl191, Ar191, q191, S191, N191', H191, G191⟩ := id Vb156
                have hin191 : ¬ (pr < 0 ∨ cl191.slots.size ≤ (pr).toNatClampNeg) := inb_of S191 ⟨pr_0, pr_n⟩
                obtain ⟨T191, h191, X191, e191, W191, st191⟩ := stC X156 hx hZ e156 Ar191 (j := pr) hin191 (g := (mkF m 226 #[.val (.int p1), .val (.int p2), .val (.int p3), .val (.int p4), .val (.int (1 : Int32)), .val (.int md), .val (.int cc), .val (.ref b156), .val (.int (17 : Int32)), .val (.int pr), .val (.int (own_MOD.getD pk 0))] [(.int (((own_MOD.getD pk 0) - (32 : Int32)).toUInt32.toUInt16.toUInt32.toInt32)), (.int pr), (.ref b156)])) rfl rfl (hb hby at_226)
                have V191' : Arv Z h191 b156 k156 .char (17 : Int32) ((own_MOD.set pk (nar .char (((own_MOD.getD pk 0) - (32 : Int32)).toUInt32.toUInt16.toUInt32.toInt32))).map Value.int) (.int (0 : Int32)) := by
                  rw [List.map_set]; exact Arv.set Ar191 q191 S191 N191' H191 G191 (fits_nar_char _) W191 pk hpk.symm (by rw [List.length_map, len_own_MOD]; exact pk_n)
                replace hk := Nat.le_trans hk (Keep.of_wr W191).1
                replace HC := HC.trans (CHr.wr W191 (Safe.arv hZ.alike Vb156 (by decide)) HC.1)
                replace OL := OL.wr W191 g_b156
                have N191 := Fr.snoc X191 N156 g_b156
                replace K := K.wr W191 (Or.inr sz_b156)
                refine own_ofW st191 ?_
                show own_EndsW _ _ _ _ _ _ _ _ (T191.setTop (mkF m 227 #[.val (.int p1), .val (.int p2), .val (.int p3), .val (.int p4), .val (.int (1 : Int32)), .val (.int md), .val (.int cc), .val (.ref b156), .val (.int (17 : Int32)), .val (.int pr), .val (.int (own_MOD.getD pk 0))] []))
                refine own_ofW (fun tt_ kk_ => XS.goto X191.here hx rfl (pc0 := 227) (pc' := 241) rfl (hb hby at_227) (by decide) (by decide) kk_) ?_
                show own_EndsW _ _ _ _ _ _ _ _ (T191.setTop (mkF m 241 #[.val (.int p1), .val (.int p2), .val (.int p3), .val (.int p4), .val (.int (1 : Int32)), .val (.int md), .val (.int cc), .val (.ref b156), .val (.int (17 : Int32)), .val (.int pr), .val (.int (own_MOD.getD pk 0))] []))
                obtain ⟨T192, h192, X192, e192, E192, A192, D192, -, st192⟩ := newO X191 hx hZ hown (hw _ (List.mem_of_getElem? (i := 5) rfl)) (hw _ (List.mem_of_getElem? (i := 6) rfl)) (hw _ (List.mem_of_getElem? (i := 7) rfl)) e191 (g := (mkF m 241 #[.val (.int p1), .val (.int p2), .val (.int p3), .val (.int p4), .val (.int (1 : Int32)), .val (.int md), .val (.int cc), .val (.ref b156), .val (.int (17 : Int32)), .val (.int pr), .val (.int (own_MOD.getD pk 0))] [])) rfl (hb hby at_241) (by decide) (by decide)
                obtain ⟨b192, g192⟩ : ∃ z, z = h191.size := ⟨_, rfl⟩
                rw [← g192] at A192 D192 st192
                have ne_b156_b192 : b156 ≠ b192 := Nat.ne_of_lt (Nat.lt_of_lt_of_le V191'.lt (Nat.le_of_eq g192.symm))
                have sz_b192 : h0.size ≤ b192 := Nat.le_trans K.1 (Nat.le_of_eq g192.symm)
                have g_b192 : n0 ≤ b192 := Nat.le_trans Z0 sz_b192
                have Sf_b192 : Safe Z own_EL s.vm h191 b192 := Safe.new (Nat.le_of_eq g192.symm)
                replace Sf_b192 := Safe.ext E192 HC.1 Sf_b192
                replace hk := Nat.le_trans hk E192.1
                replace HC := HC.trans (CHr.ext E192 HC.1)
                replace OL := OL.ext E192
                replace V191' := V191'.ext E192
                have F_coder_b192 : Fld Z h192 b192 "java/lang/String" "coder" "B" (.int (0 : Int32)) := D192 (Or.inr (hw _ (List.mem_of_getElem? (i := 31) rfl))) (ty := .byte) (by decide)
                have F_value_b192 : Fld Z h192 b192 "java/lang/String" "value" "[B" .null := D192 (Or.inr (hw _ (List.mem_of_getElem? (i := 33) rfl))) (ty := (.array .byte)) (by decide)
                replace K := K.ext E192
                refine own_ofW st192 ?_
                show own_EndsW _ _ _ _ _ _ _ _ (T192.setTop (mkF m 244 #[.val (.int p1), .val (.int p2), .val (.int p3), .val (.int p4), .val (.int (1 : Int32)), .val (.int md), .val (.int cc), .val (.ref b156), .val (.int (17 : Int32)), .val (.int pr), .val (.int (own_MOD.getD pk 0))] [(.ref b192)]))
                refine own_ofW (fun tt_ kk_ => XS.dup X192.here hx rfl (hb hby at_244) rfl rfl kk_) ?_
                show own_EndsW _ _ _ _ _ _ _ _ (T192.setTop (mkF m 245 #[.val (.int p1), .val (.int p2), .val (.int p3), .val (.int p4), .val (.int (1 : Int32)), .val (.int md), .val (.int cc), .val (.ref b156), .val (.int (17 : Int32)), .val (.int pr), .val (.int (own_MOD.getD pk 0))] [(.ref b192), (.ref b192)]))
                refine own_ofW (fun tt_ kk_ => XS.aload X192.here hx rfl (hb hby at_245) rfl rfl kk_) ?_
                show own_EndsW _ _ _ _ _ _ _ _ (T192.setTop (mkF m 247 #[.val (.int p1), .val (.int p2), .val (.int p3), .val (.int p4), .val (.int (1 : Int32)), .val (.int md), .val (.int cc), .val (.ref b156), .val (.int (17 : Int32)), .val (.int pr), .val (.int (own_MOD.getD pk 0))] [(.ref b156), (.ref b192), (.ref b192)]))
                obtain ⟨cs193, ecs193⟩ : ∃ z : List Int32, z = (own_MOD.set pk (nar .char (((own_MOD.getD pk 0) - (32 : Int32)).toUInt32.toUInt16.toUInt32.toInt32))) := ⟨_, rfl⟩
                have vb193 : own_lat8 cs193 := by rw [ecs193]; exact (flip_md_own_MOD ⟨pk, pk_n⟩ hc181 hc186).2
                have ln193 : cs193.length = 17 := by rw [ecs193]; exact (List.length_set.trans len_own_MOD)
                have V191'' : Arv Z h192 b156 k156 .char (17 : Int32) (cs193.map Value.int) (.int (0 : Int32)) := by rw [ecs193]; exact V191'
                have ZH193 : n0 ≤ h192.size := Nat.le_trans Z0 K.1
                obtain ⟨_, _, ⟨T193, L193, kk193, nn193⟩, -, X193, ⟨Lc193, Q193, l193, y193, z193⟩, st193⟩ := X192.specialBack hx (y := (⟨"java/lang/String", "<init>", "([C)V"⟩ : MethodName)) rfl hown (mvT hZ (hw _ (List.mem_of_getElem? (i := 8) rfl))) (mvT hZ (hw _ (List.mem_of_getElem? (i := 9) rfl))) (mvT hZ (hw _ (List.mem_of_getElem? (i := 10) rfl))) (by decide) (StrChars.Road.backV (W := 1) hZ hws (kI := 4) (hw _ (List.mem_of_getElem? (i := 6) rfl)) (cs := cs193) (bs := cs193.map StrChars.lo8) (n := 17) g_b192 ZH193 A192 F_value_b192 F_coder_b192 V191'' (O2.ext OL.2) P3 ln193 rfl (by decide) (by decide) vb193 rfl (by decide) (by decide)) (g := (mkF m 247 #[.val (.int p1), .val (.int p2), .val (.int p3), .val (.int p4), .val (.int (1 : Int32)), .val (.int md), .val (.int cc), .val (.ref b156), .val (.int (17 : Int32)), .val (.int pr), .val (.int (own_MOD.getD pk 0))] [(.ref b156), (.ref b192), (.ref b192)])) rfl (by rw [hml]; rfl) (Steps.refl _) (a := b192) (argsL := [(.ref b156)]) (rest := [(.ref b192)]) (lenOf pd__AC_r_V rfl) rfl (by show 2 * 0 + _ ≤ _; exact Nat.le_of_eq rfl) (hb hby at_247) (fun _ _ => ⟨rfl, e192, (by decide : 2 + 1 ≤ _), (by decide : 21 + 17 ≤ _)⟩)
                dsimp only [Pt.U, Pt.locs, Pt.cells, Pt.slots] at X193 l193 y193 z193 st193 Q193
                subst l193 y193 z193
                obtain ⟨rfl, Nq193, Kq193, Eq193, Cq193, t193, kb193, g_t193, szz193, nex193, Fq193, Vq193⟩ := Q193
                obtain ⟨h193, eh193⟩ : ∃ z, z = T193.heap := ⟨_, rfl⟩
                rw [← eh193] at Kq193 Eq193 Cq193 Fq193 Vq193
                have e193 := eh193.symm
                have Sf_b192' := Safe.keep Kq193 (sfS Sf_b192 sf0) HC.1 Sf_b192
                replace hk := Nat.le_trans hk Kq193.1
                replace HC := HC.trans (CHr.keep Kq193 (sfS Sf_b192 sf0) HC.1)
                replace Sf_b192 := Sf_b192'
                replace OL := OL.keep Kq193 (allS g_b192 all0)
                replace A192 := A192.keep Kq193
                replace K := K.trans Kq193 (allS (Or.inr sz_b192) all0)
                have N193 := Fr.app N191 Nq193
                refine own_ofW (fun t k => st193.trans k) ?_
                show own_EndsW _ _ _ _ _ _ _ _ (T193.setTop (mkF m 250 #[.val (.int p1), .val (.int p2), .val (.int p3), .val (.int p4), .val (.int (1 : Int32)), .val (.int md), .val (.int cc), .val (.ref b156), .val (.int (17 : Int32)), .val (.int pr), .val (.int (own_MOD.getD pk 0))] [(.ref b192)]))
                obtain ⟨v194, T194, L194, h194, k194', X194, e194, Q194, hZ, hown, hS, hk, HCq194, st194⟩ := own_staticW X193 hx hZ hown e193 hS hk hEL HC.1 (hw _ (List.mem_of_getElem? (i := 34) rfl)) (hw _ (List.mem_of_getElem? (i := 35) rfl)) (hw _ (List.mem_of_getElem? (i := 36) rfl)) (hw _ (List.mem_of_getElem? (i := 37) rfl)) (by decide) (argsL := [(.ref b192)]) (rest := []) (rm_nlN l Z a0 hw b192 t193 kb193 cs193 (17 : Int32) G1 h193 n0 (Nat.le_trans Z0 K.1) hEL Eq193 Cq193 Fq193 Vq193 (by rw [ln193]; rfl) vb193 (by rw [ln193]; decide) O2 P3 OL (by rw [ecs193]; exact (own_neL (List.length_set.trans len_own_MOD) len_own_EXT (by decide))) (by rw [ecs193]; exact (flip_md_own_MOD ⟨pk, pk_n⟩ hc181 hc186).1)) (g := (mkF m 250 #[.val (.int p1), .val (.int p2), .val (.int p3), .val (.int p4), .val (.int (1 : Int32)), .val (.int md), .val (.int cc), .val (.ref b156), .val (.int (17 : Int32)), .val (.int pr), .val (.int (own_MOD.getD pk 0))] [(.ref b192)])) rfl (by rw [hml]; rfl) (lenOf pd__Ljava_lang_String__r_Z rfl) rfl (by decide) (Nat.le_of_ble_eq_true rfl) (by decide) (by decide) (hb hby at_250)
                replace HC := HC.trans HCq194
                obtain ⟨rfl, Nq194, Kq194⟩ := Q194
                replace OL := OL.keep Kq194 all0
                replace Eq193 := Eq193.keep Kq194
                replace Cq193 := Cq193.keep Kq194 nin0
                replace Fq193 := Fq193.keep Kq194 nin0
                replace Vq193 := Vq193.keep Kq194 nin0
                replace K := K.trans Kq194 all0
                have N194 := Fr.app N193 Nq194
                refine own_ofW st194 ?_
                show own_EndsW _ _ _ _ _ _ _ _ (T194.setTop (mkF m 253 #[.val (.int p1), .val (.int p2), .val (.int p3), .val (.int p4), .val (.int (1 : Int32)), .val (.int md), .val (.int cc), .val (.ref b156), .val (.int (17 : Int32)), .val (.int pr), .val (.int (own_MOD.getD pk 0))] [(.int (0 : Int32))]))
                refine own_ofW (fun tt_ kk_ => XS.ifNo X194.here hx rfl (hb hby at_253) rfl ((if0 _ _).trans (teq (by decide : ((0 : Int32) = (0 : Int32)))).2) kk_) ?_
                show own_EndsW _ _ _ _ _ _ _ _ (T194.setTop (mkF m 256 #[.val (.int p1), .val (.int p2), .val (.int p3), .val (.int p4), .val (.int (1 : Int32)), .val (.int md), .val (.int cc), .val (.ref b156), .val (.int (17 : Int32)), .val (.int pr), .val (.int (own_MOD.getD pk 0))] []))
                refine own_ofW (fun tt_ kk_ => XS.iconst X194.here hx rfl (hb hby at_256) kk_) ?_
                show own_EndsW _ _ _ _ _ _ _ _ (T194.setTop (mkF m 257 #[.val (.int p1), .val (.int p2), .val (.int p3), .val (.int p4), .val (.int (1 : Int32)), .val (.int md), .val (.int cc), .val (.ref b156), .val (.int (17 : Int32)), .val (.int pr), .val (.int (own_MOD.getD pk 0))] [(.int (1 : Int32))]))
                refine own_ofW (fun tt_ kk_ => XS.goto X194.here hx rfl (pc0 := 257) (pc' := 261) rfl (hb hby at_257) (by decide) (by decide) kk_) ?_
                show own_EndsW _ _ _ _ _ _ _ _ (T194.setTop (mkF m 261 #[.val (.int p1), .val (.int p2), .val (.int p3), .val (.int p4), .val (.int (1 : Int32)), .val (.int md), .val (.int cc), .val (.ref b156), .val (.int (17 : Int32)), .val (.int pr), .val (.int (own_MOD.getD pk 0))] [(.int (1 : Int32))]))
                refine own_retNW X194 hx hlk hZ hS e194 hk es hEL HC (t := .boolean) hret (by simp) (z' := (1 : Int32)) rfl (hb hby at_261) (by decide) (by decide) ?_
                exact ⟨rfl, N194⟩
          · refine own_ofW (fun tt_ kk_ => XS.icmpYes X156.here hx rfl (pc0 := 183) (pc' := 262) rfl (hb hby at_183) rfl (feq hc179).2 (by decide) (by decide) kk_) ?_
            show own_EndsW _ _ _ _ _ _ _ _ (T156.setTop (mkF m 262 #[.val (.int p1), .val (.int p2), .val (.int p3), .val (.int p4), .val (.int (1 : Int32)), .val (.int md), .val (.int cc), .val (.ref b156), .val (.int (17 : Int32)), .unset, .unset] []))
            refine own_ofW (fun tt_ kk_ => XS.iload X156.here hx rfl (hb hby at_262) rfl  kk_) ?_
            show own_EndsW _ _ _ _ _ _ _ _ (T156.setTop (mkF m 264 #[.val (.int p1), .val (.int p2), .val (.int p3), .val (.int p4), .val (.int (1 : Int32)), .val (.int md), .val (.int cc), .val (.ref b156), .val (.int (17 : Int32)), .unset, .unset] [(.int md)]))
            refine own_ofW (fun tt_ kk_ => XS.iconst X156.here hx rfl (hb hby at_264) kk_) ?_
            show own_EndsW _ _ _ _ _ _ _ _ (T156.setTop (mkF m 265 #[.val (.int p1), .val (.int p2), .val (.int p3), .val (.int p4), .val (.int (1 : Int32)), .val (.int md), .val (.int cc), .val (.ref b156), .val (.int (17 : Int32)), .unset, .unset] [(.int (4 : Int32)), (.int md)]))
            by_cases hc195 : md = (4 : Int32)
            · refine own_ofW (fun tt_ kk_ => XS.icmpNo X156.here hx rfl (hb hby at_265) rfl (teq hc195).2 kk_) ?_
              show own_EndsW _ _ _ _ _ _ _ _ (T156.setTop (mkF m 268 #[.val (.int p1), .val (.int p2), .val (.int p3), .val (.int p4), .val (.int (1 : Int32)), .val (.int md), .val (.int cc), .val (.ref b156), .val (.int (17 : Int32)), .unset, .unset] []))
              refine own_ofW (fun tt_ kk_ => XS.iconst X156.here hx rfl (hb hby at_268) kk_) ?_
              show own_EndsW _ _ _ _ _ _ _ _ (T156.setTop (mkF m 269 #[.val (.int p1), .val (.int p2), .val (.int p3), .val (.int p4), .val (.int (1 : Int32)), .val (.int md), .val (.int cc), .val (.ref b156), .val (.int (17 : Int32)), .unset, .unset] [(.int (3 : Int32))]))
              obtain ⟨T196, h196, k196, X196, e196, E196, A196, st196⟩ := newP X156 hx hZ (hw _ (List.mem_of_getElem? (i := 4) rfl)) e156 (g := (mkF m 269 #[.val (.int p1), .val (.int p2), .val (.int p3), .val (.int p4), .val (.int (1 : Int32)), .val (.int md), .val (.int cc), .val (.ref b156), .val (.int (17 : Int32)), .unset, .unset] [(.int (3 : Int32))])) rfl (hb hby at_269) rfl (by decide) (cap := 3) (by decide) (by decide) (by decide) (by decide)
              obtain ⟨b196, g196⟩ : ∃ z, z = h156.size := ⟨_, rfl⟩
              rw [← g196] at A196 st196
              have ne_b156_b196 : b156 ≠ b196 := Nat.ne_of_lt (Nat.lt_of_lt_of_le Vb156.lt (Nat.le_of_eq g196.symm))
              have sz_b196 : h0.size ≤ b196 := Nat.le_trans K.1 (Nat.le_of_eq g196.symm)
              have g_b196 : n0 ≤ b196 := Nat.le_trans Z0 sz_b196
              replace hk := Nat.le_trans hk E196.1
              replace HC := HC.trans (CHr.ext E196 HC.1)
              replace OL := OL.ext E196
              replace Vb156 := Vb156.ext E196
              have V196 : Arv Z h196 b196 k196 .char (3 : Int32) [(.int (0 : Int32)), (.int (0 : Int32)), (.int (0 : Int32))] (.int (0 : Int32)) := (Arv.new A196 (by decide)).pad (pad_rep [] (.int (0 : Int32)) 3)
              replace K := K.ext E196
              refine own_ofW st196 ?_
              show own_EndsW _ _ _ _ _ _ _ _ (T196.setTop (mkF m 271 #[.val (.int p1), .val (.int p2), .val (.int p3), .val (.int p4), .val (.int (1 : Int32)), .val (.int md), .val (.int cc), .val (.ref b156), .val (.int (17 : Int32)), .unset, .unset] [(.ref b196)]))
              refine own_ofW (fun tt_ kk_ => XS.astore X196.here hx rfl (hb hby at_271) rfl rfl (l' := #[.val (.int p1), .val (.int p2), .val (.int p3), .val (.int p4), .val (.int (1 : Int32)), .val (.int md), .val (.int cc), .val (.ref b156), .val (.int (17 : Int32)), .val (.ref b196), .unset]) rfl kk_) ?_
              show own_EndsW _ _ _ _ _ _ _ _ (T196.setTop (mkF m 273 #[.val (.int p1), .val (.int p2), .val (.int p3), .val (.int p4), .val (.int (1 : Int32)), .val (.int md), .val (.int cc), .val (.ref b156), .val (.int (17 : Int32)), .val (.ref b196), .unset] []))
              refine own_ofW (fun tt_ kk_ => XS.aload X196.here hx rfl (hb hby at_273) rfl rfl kk_) ?_
              show own_EndsW _ _ _ _ _ _ _ _ (T196.setTop (mkF m 275 #[.val (.int p1), .val (.int p2), .val (.int p3), .val (.int p4), .val (.int (1 : Int32)), .val (.int md), .val (.int cc), .val (.ref b156), .val (.int (17 : Int32)), .val (.ref b196), .unset] [(.ref b196)]))
              refine own_ofW (fun tt_ kk_ => XS.iconst X196.here hx rfl (hb hby at_275) kk_) ?_
              show own_EndsW _ _ _ _ _ _ _ _ (T196.setTop (mkF m 276 #[.val (.int p1), .val (.int p2), .val (.int p3), .val (.int p4), .val (.int (1 : Int32)), .val (.int md), .val (.int cc), .val (.ref b156), .val (.int (17 : Int32)), .val (.ref b196), .unset] [(.int (0 : Int32)), (.ref b196)]))
              refine own_ofW (fun tt_ kk_ => XS.iload X196.here hx rfl (hb hby at_276) rfl  kk_) ?_
              show own_EndsW _ _ _ _ _ _ _ _ (T196.setTop (mkF m 278 #[.val (.int p1), .val (.int p2), .val (.int p3), .val (.int p4), .val (.int (1 : Int32)), .val (.int md), .val (.int cc), .val (.ref b156), .val (.int (17 : Int32)), .val (.ref b196), .unset] [(.int cc), (.int (0 : Int32)), (.ref b196)]))
              obtain ⟨cl197, Ar197, q197, S197, N197', H197, G197⟩ := id V196
              have hin197 : ¬ ((0 : Int32) < 0 ∨ cl197.slots.size ≤ ((0 : Int32)).toNatClampNeg) := inb_of S197 ⟨by decide, by decide⟩
              obtain ⟨T197, h197, X197, e197, W197, st197⟩ := stC X196 hx hZ e196 Ar197 (j := (0 : Int32)) hin197 (g := (mkF m 278 #[.val (.int p1), .val (.int p2), .val (.int p3), .val (.int p4), .val (.int (1 : Int32)), .val (.int md), .val (.int cc), .val (.ref b156), .val (.int (17 : Int32)), .val (.ref b196), .unset] [(.int cc), (.int (0 : Int32)), (.ref b196)])) rfl rfl (hb hby at_278)
              have V197' : Arv Z h197 b196 k196 .char (3 : Int32) [(.int (nar .char cc)), (.int (0 : Int32)), (.int (0 : Int32))] (.int (0 : Int32)) := Arv.set Ar197 q197 S197 N197' H197 G197 (fits_nar_char _) W197 0 rfl (Nat.le_of_ble_eq_true rfl)
              replace hk := Nat.le_trans hk (Keep.of_wr W197).1
              replace HC := HC.trans (CHr.wr W197 (Safe.arv hZ.alike V196 (by decide)) HC.1)
              replace OL := OL.wr W197 g_b196
              replace Vb156 := Vb156.other W197 ne_b156_b196
              have N197 := Fr.snoc X197 N156 g_b196
              replace K := K.wr W197 (Or.inr sz_b196)
              refine own_ofW st197 ?_
              show own_EndsW _ _ _ _ _ _ _ _ (T197.setTop (mkF m 279 #[.val (.int p1), .val (.int p2), .val (.int p3), .val (.int p4), .val (.int (1 : Int32)), .val (.int md), .val (.int cc), .val (.ref b156), .val (.int (17 : Int32)), .val (.ref b196), .unset] []))
              refine own_ofW (fun tt_ kk_ => XS.aload X197.here hx rfl (hb hby at_279) rfl rfl kk_) ?_
              show own_EndsW _ _ _ _ _ _ _ _ (T197.setTop (mkF m 281 #[.val (.int p1), .val (.int p2), .val (.int p3), .val (.int p4), .val (.int (1 : Int32)), .val (.int md), .val (.int cc), .val (.ref b156), .val (.int (17 : Int32)), .val (.ref b196), .unset] [(.ref b196)]))
              refine own_ofW (fun tt_ kk_ => XS.iconst X197.here hx rfl (hb hby at_281) kk_) ?_
              show own_EndsW _ _ _ _ _ _ _ _ (T197.setTop (mkF m 282 #[.val (.int p1), .val (.int p2), .val (.int p3), .val (.int p4), .val (.int (1 : Int32)), .val (.int md), .val (.int cc), .val (.ref b156), .val (.int (17 : Int32)), .val (.ref b196), .unset] [(.int (1 : Int32)), (.ref b196)]))
              refine own_ofW (fun tt_ kk_ => XS.iloadN X197.here hx rfl (hb hby at_282) rfl  kk_) ?_
              show own_EndsW _ _ _ _ _ _ _ _ (T197.setTop (mkF m 283 #[.val (.int p1), .val (.int p2), .val (.int p3), .val (.int p4), .val (.int (1 : Int32)), .val (.int md), .val (.int cc), .val (.ref b156), .val (.int (17 : Int32)), .val (.ref b196), .unset] [(.int p3), (.int (1 : Int32)), (.ref b196)]))
              refine own_ofW (fun tt_ kk_ => XS.bipush X197.here hx rfl (hb hby at_283) kk_) ?_
              show own_EndsW _ _ _ _ _ _ _ _ (T197.setTop (mkF m 285 #[.val (.int p1), .val (.int p2), .val (.int p3), .val (.int p4), .val (.int (1 : Int32)), .val (.int md), .val (.int cc), .val (.ref b156), .val (.int (17 : Int32)), .val (.ref b196), .unset] [(.int (8 : Int32)), (.int p3), (.int (1 : Int32)), (.ref b196)]))
              refine own_ofW (fun tt_ kk_ => XS.iushr X197.here hx rfl (hb hby at_285) rfl kk_) ?_
              show own_EndsW _ _ _ _ _ _ _ _ (T197.setTop (mkF m 286 #[.val (.int p1), .val (.int p2), .val (.int p3), .val (.int p4), .val (.int (1 : Int32)), .val (.int md), .val (.int cc), .val (.ref b156), .val (.int (17 : Int32)), .val (.ref b196), .unset] [(.int ((p3.toUInt32 >>> ((8 : Int32) &&& 31).toUInt32).toInt32)), (.int (1 : Int32)), (.ref b196)]))
              refine own_ofW (fun tt_ kk_ => XS.sipush X197.here hx rfl (hb hby at_286) kk_) ?_
              show own_EndsW _ _ _ _ _ _ _ _ (T197.setTop (mkF m 289 #[.val (.int p1), .val (.int p2), .val (.int p3), .val (.int p4), .val (.int (1 : Int32)), .val (.int md), .val (.int cc), .val (.ref b156), .val (.int (17 : Int32)), .val (.ref b196), .unset] [(.int (255 : Int32)), (.int ((p3.toUInt32 >>> ((8 : Int32) &&& 31).toUInt32).toInt32)), (.int (1 : Int32)), (.ref b196)]))
              refine own_ofW (fun tt_ kk_ => XS.iand X197.here hx rfl (hb hby at_289) rfl kk_) ?_
              show own_EndsW _ _ _ _ _ _ _ _ (T197.setTop (mkF m 290 #[.val (.int p1), .val (.int p2), .val (.int p3), .val (.int p4), .val (.int (1 : Int32)), .val (.int md), .val (.int cc), .val (.ref b156), .val (.int (17 : Int32)), .val (.ref b196), .unset] [(.int (((p3.toUInt32 >>> ((8 : Int32) &&& 31).toUInt32).toInt32) &&& (255 : Int32))), (.int (1 : Int32)), (.ref b196)]))
              refine own_ofW (fun tt_ kk_ => XS.i2c X197.here hx rfl (hb hby at_290) rfl kk_) ?_
              show own_EndsW _ _ _ _ _ _ _ _ (T197.setTop (mkF m 291 #[.val (.int p1), .val (.int p2), .val (.int p3), .val (.int p4), .val (.int (1 : Int32)), .val (.int md), .val (.int cc), .val (.ref b156), .val (.int (17 : Int32)), .val (.ref b196), .unset] [(.int ((((p3.toUInt32 >>> ((8 : Int32) &&& 31).toUInt32).toInt32) &&& (255 : Int32)).toUInt32.toUInt16.toUInt32.toInt32)), (.int (1 : Int32)), (.ref b196)]))
              obtain ⟨cl198, Ar198, q198, S198, N198', H198, G198⟩ := id V197'
              have hin198 : ¬ ((1 : Int32) < 0 ∨ cl198.slots.size ≤ ((1 : Int32)).toNatClampNeg) := inb_of S198 ⟨by decide, by decide⟩
              obtain ⟨T198, h198, X198, e198, W198, st198⟩ := stC X197 hx hZ e197 Ar198 (j := (1 : Int32)) hin198 (g := (mkF m 291 #[.val (.int p1), .val (.int p2), .val (.int p3), .val (.int p4), .val (.int (1 : Int32)), .val (.int md), .val (.int cc), .val (.ref b156), .val (.int (17 : Int32)), .val (.ref b196), .unset] [(.int ((((p3.toUInt32 >>> ((8 : Int32) &&& 31).toUInt32).toInt32) &&& (255 : Int32)).toUInt32.toUInt16.toUInt32.toInt32)), (.int (1 : Int32)), (.ref b196)])) rfl rfl (hb hby at_291)
              have V198' : Arv Z h198 b196 k196 .char (3 : Int32) [(.int (nar .char cc)), (.int (nar .char ((((p3.toUInt32 >>> ((8 : Int32) &&& 31).toUInt32).toInt32) &&& (255 : Int32)).toUInt32.toUInt16.toUInt32.toInt32))), (.int (0 : Int32))] (.int (0 : Int32)) := Arv.set Ar198 q198 S198 N198' H198 G198 (fits_nar_char _) W198 1 rfl (Nat.le_of_ble_eq_true rfl)
              replace hk := Nat.le_trans hk (Keep.of_wr W198).1
              replace HC := HC.trans (CHr.wr W198 (Safe.arv hZ.alike V197' (by decide)) HC.1)
              replace OL := OL.wr W198 g_b196
              replace Vb156 := Vb156.other W198 ne_b156_b196
              have N198 := Fr.snoc X198 N197 g_b196
              replace K := K.wr W198 (Or.inr sz_b196)
              refine own_ofW st198 ?_
              show own_EndsW _ _ _ _ _ _ _ _ (T198.setTop (mkF m 292 #[.val (.int p1), .val (.int p2), .val (.int p3), .val (.int p4), .val (.int (1 : Int32)), .val (.int md), .val (.int cc), .val (.ref b156), .val (.int (17 : Int32)), .val (.ref b196), .unset] []))
              refine own_ofW (fun tt_ kk_ => XS.aload X198.here hx rfl (hb hby at_292) rfl rfl kk_) ?_
              show own_EndsW _ _ _ _ _ _ _ _ (T198.setTop (mkF m 294 #[.val (.int p1), .val (.int p2), .val (.int p3), .val (.int p4), .val (.int (1 : Int32)), .val (.int md), .val (.int cc), .val (.ref b156), .val (.int (17 : Int32)), .val (.ref b196), .unset] [(.ref b196)]))
              refine own_ofW (fun tt_ kk_ => XS.iconst X198.here hx rfl (hb hby at_294) kk_) ?_
              show own_EndsW _ _ _ _ _ _ _ _ (T198.setTop (mkF m 295 #[.val (.int p1), .val (.int p2), .val (.int p3), .val (.int p4), .val (.int (1 : Int32)), .val (.int md), .val (.int cc), .val (.ref b156), .val (.int (17 : Int32)), .val (.ref b196), .unset] [(.int (2 : Int32)), (.ref b196)]))
              refine own_ofW (fun tt_ kk_ => XS.iloadN X198.here hx rfl (hb hby at_295) rfl  kk_) ?_
              show own_EndsW _ _ _ _ _ _ _ _ (T198.setTop (mkF m 296 #[.val (.int p1), .val (.int p2), .val (.int p3), .val (.int p4), .val (.int (1 : Int32)), .val (.int md), .val (.int cc), .val (.ref b156), .val (.int (17 : Int32)), .val (.ref b196), .unset] [(.int p4), (.int (2 : Int32)), (.ref b196)]))
              refine own_ofW (fun tt_ kk_ => XS.sipush X198.here hx rfl (hb hby at_296) kk_) ?_
              show own_EndsW _ _ _ _ _ _ _ _ (T198.setTop (mkF m 299 #[.val (.int p1), .val (.int p2), .val (.int p3), .val (.int p4), .val (.int (1 : Int32)), .val (.int md), .val (.int cc), .val (.ref b156), .val (.int (17 : Int32)), .val (.ref b196), .unset] [(.int (255 : Int32)), (.int p4), (.int (2 : Int32)), (.ref b196)]))
              refine own_ofW (fun tt_ kk_ => XS.iand X198.here hx rfl (hb hby at_299) rfl kk_) ?_
              show own_EndsW _ _ _ _ _ _ _ _ (T198.setTop (mkF m 300 #[.val (.int p1), .val (.int p2), .val (.int p3), .val (.int p4), .val (.int (1 : Int32)), .val (.int md), .val (.int cc), .val (.ref b156), .val (.int (17 : Int32)), .val (.ref b196), .unset] [(.int (p4 &&& (255 : Int32))), (.int (2 : Int32)), (.ref b196)]))
              refine own_ofW (fun tt_ kk_ => XS.i2c X198.here hx rfl (hb hby at_300) rfl kk_) ?_
              show own_EndsW _ _ _ _ _ _ _ _ (T198.setTop (mkF m 301 #[.val (.int p1), .val (.int p2), .val (.int p3), .val (.int p4), .val (.int (1 : Int32)), .val (.int md), .val (.int cc), .val (.ref b156), .val (.int (17 : Int32)), .val (.ref b196), .unset] [(.int ((p4 &&& (255 : Int32)).toUInt32.toUInt16.toUInt32.toInt32)), (.int (2 : Int32)), (.ref b196)]))
              obtain ⟨cl199, Ar199, q199, S199, N199', H199, G199⟩ := id V198'
              have hin199 : ¬ ((2 : Int32) < 0 ∨ cl199.slots.size ≤ ((2 : Int32)).toNatClampNeg) := inb_of S199 ⟨by decide, by decide⟩
              obtain ⟨T199, h199, X199, e199, W199, st199⟩ := stC X198 hx hZ e198 Ar199 (j := (2 : Int32)) hin199 (g := (mkF m 301 #[.val (.int p1), .val (.int p2), .val (.int p3), .val (.int p4), .val (.int (1 : Int32)), .val (.int md), .val (.int cc), .val (.ref b156), .val (.int (17 : Int32)), .val (.ref b196), .unset] [(.int ((p4 &&& (255 : Int32)).toUInt32.toUInt16.toUInt32.toInt32)), (.int (2 : Int32)), (.ref b196)])) rfl rfl (hb hby at_301)
              have V199' : Arv Z h199 b196 k196 .char (3 : Int32) [(.int (nar .char cc)), (.int (nar .char ((((p3.toUInt32 >>> ((8 : Int32) &&& 31).toUInt32).toInt32) &&& (255 : Int32)).toUInt32.toUInt16.toUInt32.toInt32))), (.int (nar .char ((p4 &&& (255 : Int32)).toUInt32.toUInt16.toUInt32.toInt32)))] (.int (0 : Int32)) := Arv.set Ar199 q199 S199 N199' H199 G199 (fits_nar_char _) W199 2 rfl (Nat.le_of_ble_eq_true rfl)
              replace hk := Nat.le_trans hk (Keep.of_wr W199).1
              replace HC := HC.trans (CHr.wr W199 (Safe.arv hZ.alike V198' (by decide)) HC.1)
              replace OL := OL.wr W199 g_b196
              replace Vb156 := Vb156.other W199 ne_b156_b196
              have N199 := Fr.snoc X199 N198 g_b196
              replace K := K.wr W199 (Or.inr sz_b196)
              refine own_ofW st199 ?_
              show own_EndsW _ _ _ _ _ _ _ _ (T199.setTop (mkF m 302 #[.val (.int p1), .val (.int p2), .val (.int p3), .val (.int p4), .val (.int (1 : Int32)), .val (.int md), .val (.int cc), .val (.ref b156), .val (.int (17 : Int32)), .val (.ref b196), .unset] []))
              obtain ⟨T200, h200, X200, e200, E200, A200, D200, -, st200⟩ := newO X199 hx hZ hown (hw _ (List.mem_of_getElem? (i := 5) rfl)) (hw _ (List.mem_of_getElem? (i := 6) rfl)) (hw _ (List.mem_of_getElem? (i := 7) rfl)) e199 (g := (mkF m 302 #[.val (.int p1), .val (.int p2), .val (.int p3), .val (.int p4), .val (.int (1 : Int32)), .val (.int md), .val (.int cc), .val (.ref b156), .val (.int (17 : Int32)), .val (.ref b196), .unset] [])) rfl (hb hby at_302) (by decide) (by decide)
              obtain ⟨b200, g200⟩ : ∃ z, z = h199.size := ⟨_, rfl⟩
              rw [← g200] at A200 D200 st200
              have ne_b156_b200 : b156 ≠ b200 := Nat.ne_of_lt (Nat.lt_of_lt_of_le Vb156.lt (Nat.le_of_eq g200.symm))
              have ne_b196_b200 : b196 ≠ b200 := Nat.ne_of_lt (Nat.lt_of_lt_of_le V199'.lt (Nat.le_of_eq g200.symm))
              have sz_b200 : h0.size ≤ b200 := Nat.le_trans K.1 (Nat.le_of_eq g200.symm)
              have g_b200 : n0 ≤ b200 := Nat.le_trans Z0 sz_b200
              have Sf_b200 : Safe Z own_EL s.vm h199 b200 := Safe.new (Nat.le_of_eq g200.symm)
              replace Sf_b200 := Safe.ext E200 HC.1 Sf_b200
              replace hk := Nat.le_trans hk E200.1
              replace HC := HC.trans (CHr.ext E200 HC.1)
              replace OL := OL.ext E200
              replace Vb156 := Vb156.ext E200
              replace V199' := V199'.ext E200
              have F_coder_b200 : Fld Z h200 b200 "java/lang/String" "coder" "B" (.int (0 : Int32)) := D200 (Or.inr (hw _ (List.mem_of_getElem? (i := 31) rfl))) (ty := .byte) (by decide)
              have F_value_b200 : Fld Z h200 b200 "java/lang/String" "value" "[B" .null := D200 (Or.inr (hw _ (List.mem_of_getElem? (i := 33) rfl))) (ty := (.array .byte)) (by decide)
              replace K := K.ext E200
              refine own_ofW st200 ?_
              show own_EndsW _ _ _ _ _ _ _ _ (T200.setTop (mkF m 305 #[.val (.int p1), .val (.int p2), .val (.int p3), .val (.int p4), .val (.int (1 : Int32)), .val (.int md), .val (.int cc), .val (.ref b156), .val (.int (17 : Int32)), .val (.ref b196), .unset] [(.ref b200)]))
              refine own_ofW (fun tt_ kk_ => XS.dup X200.here hx rfl (hb hby at_305) rfl rfl kk_) ?_
              show own_EndsW _ _ _ _ _ _ _ _ (T200.setTop (mkF m 306 #[.val (.int p1), .val (.int p2), .val (.int p3), .val (.int p4), .val (.int (1 : Int32)), .val (.int md), .val (.int cc), .val (.ref b156), .val (.int (17 : Int32)), .val (.ref b196), .unset] [(.ref b200), (.ref b200)]))
              refine own_ofW (fun tt_ kk_ => XS.aload X200.here hx rfl (hb hby at_306) rfl rfl kk_) ?_
              show own_EndsW _ _ _ _ _ _ _ _ (T200.setTop (mkF m 308 #[.val (.int p1), .val (.int p2), .val (.int p3), .val (.int p4), .val (.int (1 : Int32)), .val (.int md), .val (.int cc), .val (.ref b156), .val (.int (17 : Int32)), .val (.ref b196), .unset] [(.ref b196), (.ref b200), (.ref b200)]))
              obtain ⟨cs201, ecs201⟩ : ∃ z : List Int32, z = [(nar .char cc), (nar .char ((((p3.toUInt32 >>> ((8 : Int32) &&& 31).toUInt32).toInt32) &&& (255 : Int32)).toUInt32.toUInt16.toUInt32.toInt32)), (nar .char ((p4 &&& (255 : Int32)).toUInt32.toUInt16.toUInt32.toInt32))] := ⟨_, rfl⟩
              have vb201 : own_lat8 cs201 := by rw [ecs201]; exact (own_three (by rw [nr_cc]; exact lat_cc) (own_latN _) (own_latN _))
              have ln201 : cs201.length = 3 := by rw [ecs201]; exact rfl
              have V199'' : Arv Z h200 b196 k196 .char (3 : Int32) (cs201.map Value.int) (.int (0 : Int32)) := by rw [ecs201]; exact V199'
              have ZH201 : n0 ≤ h200.size := Nat.le_trans Z0 K.1
              obtain ⟨_, _, ⟨T201, L201, kk201, nn201⟩, -, X201, ⟨Lc201, Q201, l201, y201, z201⟩, st201⟩ := X200.specialBack hx (y := (⟨"java/lang/String", "<init>", "([C)V"⟩ : MethodName)) rfl hown (mvT hZ (hw _ (List.mem_of_getElem? (i := 8) rfl))) (mvT hZ (hw _ (List.mem_of_getElem? (i := 9) rfl))) (mvT hZ (hw _ (List.mem_of_getElem? (i := 10) rfl))) (by decide) (StrChars.Road.backV (W := 1) hZ hws (kI := 4) (hw _ (List.mem_of_getElem? (i := 6) rfl)) (cs := cs201) (bs := cs201.map StrChars.lo8) (n := 3) g_b200 ZH201 A200 F_value_b200 F_coder_b200 V199'' (O2.ext OL.2) P3 ln201 rfl (by decide) (by decide) vb201 rfl (by decide) (by decide)) (g := (mkF m 308 #[.val (.int p1), .val (.int p2), .val (.int p3), .val (.int p4), .val (.int (1 : Int32)), .val (.int md), .val (.int cc), .val (.ref b156), .val (.int (17 : Int32)), .val (.ref b196), .unset] [(.ref b196), (.ref b200), (.ref b200)])) rfl (by rw [hml]; rfl) (Steps.refl _) (a := b200) (argsL := [(.ref b196)]) (rest := [(.ref b200)]) (lenOf pd__AC_r_V rfl) rfl (by show 2 * 0 + _ ≤ _; exact Nat.le_of_eq rfl) (hb hby at_308) (fun _ _ => ⟨rfl, e200, (by decide : 3 + 1 ≤ _), (by decide : 24 + 3 ≤ _)⟩)
              dsimp only [Pt.U, Pt.locs, Pt.cells, Pt.slots] at X201 l201 y201 z201 st201 Q201
              subst l201 y201 z201
              obtain ⟨rfl, Nq201, Kq201, Eq201, Cq201, t201, kb201, g_t201, szz201, nex201, Fq201, Vq201⟩ := Q201
              obtain ⟨h201, eh201⟩ : ∃ z, z = T201.heap := ⟨_, rfl⟩
              rw [← eh201] at Kq201 Eq201 Cq201 Fq201 Vq201
              have e201 := eh201.symm
              have Sf_b200' := Safe.keep Kq201 (sfS Sf_b200 sf0) HC.1 Sf_b200
              replace hk := Nat.le_trans hk Kq201.1
              replace HC := HC.trans (CHr.keep Kq201 (sfS Sf_b200 sf0) HC.1)
              replace Sf_b200 := Sf_b200'
              replace OL := OL.keep Kq201 (allS g_b200 all0)
              replace Vb156 := Vb156.keep Kq201 (ninS ne_b156_b200 nin0)
              replace A200 := A200.keep Kq201
              replace K := K.trans Kq201 (allS (Or.inr sz_b200) all0)
              have N201 := Fr.app N199 Nq201
              refine own_ofW (fun t k => st201.trans k) ?_
              show own_EndsW _ _ _ _ _ _ _ _ (T201.setTop (mkF m 311 #[.val (.int p1), .val (.int p2), .val (.int p3), .val (.int p4), .val (.int (1 : Int32)), .val (.int md), .val (.int cc), .val (.ref b156), .val (.int (17 : Int32)), .val (.ref b196), .unset] [(.ref b200)]))
              obtain ⟨v202, T202, L202, h202, k202', X202, e202, Q202, hZ, hown, hS, hk, HCq202, st202⟩ := own_staticW X201 hx hZ hown e201 hS hk hEL HC.1 (hw _ (List.mem_of_getElem? (i := 34) rfl)) (hw _ (List.mem_of_getElem? (i := 35) rfl)) (hw _ (List.mem_of_getElem? (i := 36) rfl)) (hw _ (List.mem_of_getElem? (i := 37) rfl)) (by decide) (argsL := [(.ref b200)]) (rest := []) (rm_nlN l Z a0 hw b200 t201 kb201 cs201 (3 : Int32) G1 h201 n0 (Nat.le_trans Z0 K.1) hEL Eq201 Cq201 Fq201 Vq201 (by rw [ln201]; rfl) vb201 (by rw [ln201]; decide) O2 P3 OL (by rw [ecs201]; exact (own_neL (n := 3) rfl len_own_EXT (by decide))) (by rw [ecs201]; exact (own_neL (n := 3) rfl len_own_MOD (by decide)))) (g := (mkF m 311 #[.val (.int p1), .val (.int p2), .val (.int p3), .val (.int p4), .val (.int (1 : Int32)), .val (.int md), .val (.int cc), .val (.ref b156), .val (.int (17 : Int32)), .val (.ref b196), .unset] [(.ref b200)])) rfl (by rw [hml]; rfl) (lenOf pd__Ljava_lang_String__r_Z rfl) rfl (by decide) (Nat.le_of_ble_eq_true rfl) (by decide) (by decide) (hb hby at_311)
              replace HC := HC.trans HCq202
              obtain ⟨rfl, Nq202, Kq202⟩ := Q202
              replace OL := OL.keep Kq202 all0
              replace Vb156 := Vb156.keep Kq202 nin0
              replace Eq201 := Eq201.keep Kq202
              replace Cq201 := Cq201.keep Kq202 nin0
              replace Fq201 := Fq201.keep Kq202 nin0
              replace Vq201 := Vq201.keep Kq202 nin0
              replace K := K.trans Kq202 all0
              have N202 := Fr.app N201 Nq202
              refine own_ofW st202 ?_
              show own_EndsW _ _ _ _ _ _ _ _ (T202.setTop (mkF m 314 #[.val (.int p1), .val (.int p2), .val (.int p3), .val (.int p4), .val (.int (1 : Int32)), .val (.int md), .val (.int cc), .val (.ref b156), .val (.int (17 : Int32)), .val (.ref b196), .unset] [(.int (0 : Int32))]))
              refine own_ofW (fun tt_ kk_ => XS.ifNo X202.here hx rfl (hb hby at_314) rfl ((if0 _ _).trans (teq (by decide : ((0 : Int32) = (0 : Int32)))).2) kk_) ?_
              show own_EndsW _ _ _ _ _ _ _ _ (T202.setTop (mkF m 317 #[.val (.int p1), .val (.int p2), .val (.int p3), .val (.int p4), .val (.int (1 : Int32)), .val (.int md), .val (.int cc), .val (.ref b156), .val (.int (17 : Int32)), .val (.ref b196), .unset] []))
              refine own_ofW (fun tt_ kk_ => XS.iconst X202.here hx rfl (hb hby at_317) kk_) ?_
              show own_EndsW _ _ _ _ _ _ _ _ (T202.setTop (mkF m 318 #[.val (.int p1), .val (.int p2), .val (.int p3), .val (.int p4), .val (.int (1 : Int32)), .val (.int md), .val (.int cc), .val (.ref b156), .val (.int (17 : Int32)), .val (.ref b196), .unset] [(.int (1 : Int32))]))
              refine own_ofW (fun tt_ kk_ => XS.goto X202.here hx rfl (pc0 := 318) (pc' := 322) rfl (hb hby at_318) (by decide) (by decide) kk_) ?_
              show own_EndsW _ _ _ _ _ _ _ _ (T202.setTop (mkF m 322 #[.val (.int p1), .val (.int p2), .val (.int p3), .val (.int p4), .val (.int (1 : Int32)), .val (.int md), .val (.int cc), .val (.ref b156), .val (.int (17 : Int32)), .val (.ref b196), .unset] [(.int (1 : Int32))]))
              refine own_retNW X202 hx hlk hZ hS e202 hk es hEL HC (t := .boolean) hret (by simp) (z' := (1 : Int32)) rfl (hb hby at_322) (by decide) (by decide) ?_
              exact ⟨rfl, N202⟩
            · refine own_ofW (fun tt_ kk_ => XS.icmpYes X156.here hx rfl (pc0 := 265) (pc' := 323) rfl (hb hby at_265) rfl (feq hc195).2 (by decide) (by decide) kk_) ?_
              show own_EndsW _ _ _ _ _ _ _ _ (T156.setTop (mkF m 323 #[.val (.int p1), .val (.int p2), .val (.int p3), .val (.int p4), .val (.int (1 : Int32)), .val (.int md), .val (.int cc), .val (.ref b156), .val (.int (17 : Int32)), .unset, .unset] []))
              refine own_ofW (fun tt_ kk_ => XS.iload X156.here hx rfl (hb hby at_323) rfl  kk_) ?_
              show own_EndsW _ _ _ _ _ _ _ _ (T156.setTop (mkF m 325 #[.val (.int p1), .val (.int p2), .val (.int p3), .val (.int p4), .val (.int (1 : Int32)), .val (.int md), .val (.int cc), .val (.ref b156), .val (.int (17 : Int32)), .unset, .unset] [(.int md)]))
              refine own_ofW (fun tt_ kk_ => XS.iconst X156.here hx rfl (hb hby at_325) kk_) ?_
              show own_EndsW _ _ _ _ _ _ _ _ (T156.setTop (mkF m 326 #[.val (.int p1), .val (.int p2), .val (.int p3), .val (.int p4), .val (.int (1 : Int32)), .val (.int md), .val (.int cc), .val (.ref b156), .val (.int (17 : Int32)), .unset, .unset] [(.int (5 : Int32)), (.int md)]))
              by_cases hc203 : md = (5 : Int32)
              · refine own_ofW (fun tt_ kk_ => XS.icmpNo X156.here hx rfl (hb hby at_326) rfl (teq hc203).2 kk_) ?_
                show own_EndsW _ _ _ _ _ _ _ _ (T156.setTop (mkF m 329 #[.val (.int p1), .val (.int p2), .val (.int p3), .val (.int p4), .val (.int (1 : Int32)), .val (.int md), .val (.int cc), .val (.ref b156), .val (.int (17 : Int32)), .unset, .unset] []))
                obtain ⟨T204, h204, X204, e204, E204, A204, D204, -, st204⟩ := newO X156 hx hZ hown (hw _ (List.mem_of_getElem? (i := 5) rfl)) (hw _ (List.mem_of_getElem? (i := 6) rfl)) (hw _ (List.mem_of_getElem? (i := 7) rfl)) e156 (g := (mkF m 329 #[.val (.int p1), .val (.int p2), .val (.int p3), .val (.int p4), .val (.int (1 : Int32)), .val (.int md), .val (.int cc), .val (.ref b156), .val (.int (17 : Int32)), .unset, .unset] [])) rfl (hb hby at_329) (by decide) (by decide)
                obtain ⟨b204, g204⟩ : ∃ z, z = h156.size := ⟨_, rfl⟩
                rw [← g204] at A204 D204 st204
                have ne_b156_b204 : b156 ≠ b204 := Nat.ne_of_lt (Nat.lt_of_lt_of_le Vb156.lt (Nat.le_of_eq g204.symm))
                have sz_b204 : h0.size ≤ b204 := Nat.le_trans K.1 (Nat.le_of_eq g204.symm)
                have g_b204 : n0 ≤ b204 := Nat.le_trans Z0 sz_b204
                have Sf_b204 : Safe Z own_EL s.vm h156 b204 := Safe.new (Nat.le_of_eq g204.symm)
                replace Sf_b204 := Safe.ext E204 HC.1 Sf_b204
                replace hk := Nat.le_trans hk E204.1
                replace HC := HC.trans (CHr.ext E204 HC.1)
                replace OL := OL.ext E204
                replace Vb156 := Vb156.ext E204
                have F_coder_b204 : Fld Z h204 b204 "java/lang/String" "coder" "B" (.int (0 : Int32)) := D204 (Or.inr (hw _ (List.mem_of_getElem? (i := 31) rfl))) (ty := .byte) (by decide)
                have F_value_b204 : Fld Z h204 b204 "java/lang/String" "value" "[B" .null := D204 (Or.inr (hw _ (List.mem_of_getElem? (i := 33) rfl))) (ty := (.array .byte)) (by decide)
                replace K := K.ext E204
                refine own_ofW st204 ?_
                show own_EndsW _ _ _ _ _ _ _ _ (T204.setTop (mkF m 332 #[.val (.int p1), .val (.int p2), .val (.int p3), .val (.int p4), .val (.int (1 : Int32)), .val (.int md), .val (.int cc), .val (.ref b156), .val (.int (17 : Int32)), .unset, .unset] [(.ref b204)]))
                refine own_ofW (fun tt_ kk_ => XS.dup X204.here hx rfl (hb hby at_332) rfl rfl kk_) ?_
                show own_EndsW _ _ _ _ _ _ _ _ (T204.setTop (mkF m 333 #[.val (.int p1), .val (.int p2), .val (.int p3), .val (.int p4), .val (.int (1 : Int32)), .val (.int md), .val (.int cc), .val (.ref b156), .val (.int (17 : Int32)), .unset, .unset] [(.ref b204), (.ref b204)]))
                refine own_ofW (fun tt_ kk_ => XS.iconst X204.here hx rfl (hb hby at_333) kk_) ?_
                show own_EndsW _ _ _ _ _ _ _ _ (T204.setTop (mkF m 334 #[.val (.int p1), .val (.int p2), .val (.int p3), .val (.int p4), .val (.int (1 : Int32)), .val (.int md), .val (.int cc), .val (.ref b156), .val (.int (17 : Int32)), .unset, .unset] [(.int (0 : Int32)), (.ref b204), (.ref b204)]))
                obtain ⟨T205, h205, k205, X205, e205, E205, A205, st205⟩ := newP X204 hx hZ (hw _ (List.mem_of_getElem? (i := 4) rfl)) e204 (g := (mkF m 334 #[.val (.int p1), .val (.int p2), .val (.int p3), .val (.int p4), .val (.int (1 : Int32)), .val (.int md), .val (.int cc), .val (.ref b156), .val (.int (17 : Int32)), .unset, .unset] [(.int (0 : Int32)), (.ref b204), (.ref b204)])) rfl (hb hby at_334) rfl (by decide) (cap := 0) (by decide) (by decide) (by decide) (by decide)
                obtain ⟨b205, g205⟩ : ∃ z, z = h204.size := ⟨_, rfl⟩
                rw [← g205] at A205 st205
                have ne_b156_b205 : b156 ≠ b205 := Nat.ne_of_lt (Nat.lt_of_lt_of_le Vb156.lt (Nat.le_of_eq g205.symm))
                have ne_b204_b205 : b204 ≠ b205 := Nat.ne_of_lt (Nat.lt_of_lt_of_le A204.lt (Nat.le_of_eq g205.symm))
                have sz_b205 : h0.size ≤ b205 := Nat.le_trans K.1 (Nat.le_of_eq g205.symm)
                have g_b205 : n0 ≤ b205 := Nat.le_trans Z0 sz_b205
                replace Sf_b204 := Safe.ext E205 HC.1 Sf_b204
                replace hk := Nat.le_trans hk E205.1
                replace HC := HC.trans (CHr.ext E205 HC.1)
                replace OL := OL.ext E205
                replace Vb156 := Vb156.ext E205
                replace A204 := A204.ext E205
                replace F_coder_b204 := F_coder_b204.ext E205
                replace F_value_b204 := F_value_b204.ext E205
                have V205 : Arv Z h205 b205 k205 .char (0 : Int32) [] (.int (0 : Int32)) := (Arv.new A205 (by decide)).pad (pad_rep [] (.int (0 : Int32)) 0)
                replace K := K.ext E205
                refine own_ofW st205 ?_
                show own_EndsW _ _ _ _ _ _ _ _ (T205.setTop (mkF m 336 #[.val (.int p1), .val (.int p2), .val (.int p3), .val (.int p4), .val (.int (1 : Int32)), .val (.int md), .val (.int cc), .val (.ref b156), .val (.int (17 : Int32)), .unset, .unset] [(.ref b205), (.ref b204), (.ref b204)]))
                obtain ⟨v206, T206, L206, h206, k206', X206, e206, Q206, hZ, hown, hS, hk, HCq206, st206⟩ := own_specialWS X205 hx hZ hown e205 hS hk hEL HC.1 Sf_b204 A204.lt (b := b204) rfl (hw _ (List.mem_of_getElem? (i := 8) rfl)) (hw _ (List.mem_of_getElem? (i := 9) rfl)) (hw _ (List.mem_of_getElem? (i := 7) rfl)) (hw _ (List.mem_of_getElem? (i := 10) rfl)) (by decide) (argsL := [(.ref b205)]) (rest := [(.ref b204)]) (rm_ini1 l Z a0 hw b204 b205 k205 h205 n0 (Nat.le_trans Z0 K.1) hEL A204 F_value_b204 F_coder_b204 g_b204 V205) (g := (mkF m 336 #[.val (.int p1), .val (.int p2), .val (.int p3), .val (.int p4), .val (.int (1 : Int32)), .val (.int md), .val (.int cc), .val (.ref b156), .val (.int (17 : Int32)), .unset, .unset] [(.ref b205), (.ref b204), (.ref b204)])) rfl (by rw [hml]; rfl) (lenOf pd__AC_r_V rfl) rfl (by decide) (Nat.le_of_ble_eq_true rfl) (by decide) (by decide) (hb hby at_336)
                replace HC := HC.trans HCq206
                obtain ⟨t206, k206, rfl, Nq206, Kq206, Eq206, Cq206, Fq206, Vq206⟩ := Q206
                replace OL := OL.keep Kq206 (allS g_b204 all0)
                replace Vb156 := Vb156.keep Kq206 (ninS ne_b156_b204 nin0)
                replace A204 := A204.keep Kq206
                replace V205 := V205.keep Kq206 (ninS (Ne.symm ne_b204_b205) nin0)
                replace K := K.trans Kq206 (allS (Or.inr sz_b204) all0)
                have N206 := Fr.app N156 Nq206
                refine own_ofW st206 ?_
                show own_EndsW _ _ _ _ _ _ _ _ (T206.setTop (mkF m 339 #[.val (.int p1), .val (.int p2), .val (.int p3), .val (.int p4), .val (.int (1 : Int32)), .val (.int md), .val (.int cc), .val (.ref b156), .val (.int (17 : Int32)), .unset, .unset] [(.ref b204)]))
                obtain ⟨v207, T207, L207, h207, k207', X207, e207, Q207, hZ, hown, hS, hk, HCq207, st207⟩ := own_staticW X206 hx hZ hown e206 hS hk hEL HC.1 (hw _ (List.mem_of_getElem? (i := 34) rfl)) (hw _ (List.mem_of_getElem? (i := 35) rfl)) (hw _ (List.mem_of_getElem? (i := 36) rfl)) (hw _ (List.mem_of_getElem? (i := 37) rfl)) (by decide) (argsL := [(.ref b204)]) (rest := []) (rm_nlN l Z a0 hw b204 t206 k206 [] (0 : Int32) G1 h206 n0 (Nat.le_trans Z0 K.1) hEL A204 Cq206 Fq206 Vq206 rfl (fun _ h => nomatch h) (by decide) O2 P3 OL (by decide) (by decide)) (g := (mkF m 339 #[.val (.int p1), .val (.int p2), .val (.int p3), .val (.int p4), .val (.int (1 : Int32)), .val (.int md), .val (.int cc), .val (.ref b156), .val (.int (17 : Int32)), .unset, .unset] [(.ref b204)])) rfl (by rw [hml]; rfl) (lenOf pd__Ljava_lang_String__r_Z rfl) rfl (by decide) (Nat.le_of_ble_eq_true rfl) (by decide) (by decide) (hb hby at_339)
                replace HC := HC.trans HCq207
                obtain ⟨rfl, Nq207, Kq207⟩ := Q207
                replace OL := OL.keep Kq207 all0
                replace Vb156 := Vb156.keep Kq207 nin0
                replace A204 := A204.keep Kq207
                replace V205 := V205.keep Kq207 nin0
                replace Eq206 := Eq206.keep Kq207
                replace Cq206 := Cq206.keep Kq207 nin0
                replace Fq206 := Fq206.keep Kq207 nin0
                replace Vq206 := Vq206.keep Kq207 nin0
                replace K := K.trans Kq207 all0
                have N207 := Fr.app N206 Nq207
                refine own_ofW st207 ?_
                show own_EndsW _ _ _ _ _ _ _ _ (T207.setTop (mkF m 342 #[.val (.int p1), .val (.int p2), .val (.int p3), .val (.int p4), .val (.int (1 : Int32)), .val (.int md), .val (.int cc), .val (.ref b156), .val (.int (17 : Int32)), .unset, .unset] [(.int (0 : Int32))]))
                refine own_ofW (fun tt_ kk_ => XS.ifNo X207.here hx rfl (hb hby at_342) rfl ((if0 _ _).trans (teq (by decide : ((0 : Int32) = (0 : Int32)))).2) kk_) ?_
                show own_EndsW _ _ _ _ _ _ _ _ (T207.setTop (mkF m 345 #[.val (.int p1), .val (.int p2), .val (.int p3), .val (.int p4), .val (.int (1 : Int32)), .val (.int md), .val (.int cc), .val (.ref b156), .val (.int (17 : Int32)), .unset, .unset] []))
                refine own_ofW (fun tt_ kk_ => XS.iconst X207.here hx rfl (hb hby at_345) kk_) ?_
                show own_EndsW _ _ _ _ _ _ _ _ (T207.setTop (mkF m 346 #[.val (.int p1), .val (.int p2), .val (.int p3), .val (.int p4), .val (.int (1 : Int32)), .val (.int md), .val (.int cc), .val (.ref b156), .val (.int (17 : Int32)), .unset, .unset] [(.int (1 : Int32))]))
                refine own_ofW (fun tt_ kk_ => XS.goto X207.here hx rfl (pc0 := 346) (pc' := 350) rfl (hb hby at_346) (by decide) (by decide) kk_) ?_
                show own_EndsW _ _ _ _ _ _ _ _ (T207.setTop (mkF m 350 #[.val (.int p1), .val (.int p2), .val (.int p3), .val (.int p4), .val (.int (1 : Int32)), .val (.int md), .val (.int cc), .val (.ref b156), .val (.int (17 : Int32)), .unset, .unset] [(.int (1 : Int32))]))
                refine own_retNW X207 hx hlk hZ hS e207 hk es hEL HC (t := .boolean) hret (by simp) (z' := (1 : Int32)) rfl (hb hby at_350) (by decide) (by decide) ?_
                exact ⟨rfl, N207⟩
              · refine own_ofW (fun tt_ kk_ => XS.icmpYes X156.here hx rfl (pc0 := 326) (pc' := 351) rfl (hb hby at_326) rfl (feq hc203).2 (by decide) (by decide) kk_) ?_
                show own_EndsW _ _ _ _ _ _ _ _ (T156.setTop (mkF m 351 #[.val (.int p1), .val (.int p2), .val (.int p3), .val (.int p4), .val (.int (1 : Int32)), .val (.int md), .val (.int cc), .val (.ref b156), .val (.int (17 : Int32)), .unset, .unset] []))
                refine own_ofW (fun tt_ kk_ => XS.iload X156.here hx rfl (hb hby at_351) rfl  kk_) ?_
                show own_EndsW _ _ _ _ _ _ _ _ (T156.setTop (mkF m 353 #[.val (.int p1), .val (.int p2), .val (.int p3), .val (.int p4), .val (.int (1 : Int32)), .val (.int md), .val (.int cc), .val (.ref b156), .val (.int (17 : Int32)), .unset, .unset] [(.int md)]))
                refine own_ofW (fun tt_ kk_ => XS.iconst X156.here hx rfl (hb hby at_353) kk_) ?_
                show own_EndsW _ _ _ _ _ _ _ _ (T156.setTop (mkF m 354 #[.val (.int p1), .val (.int p2), .val (.int p3), .val (.int p4), .val (.int (1 : Int32)), .val (.int md), .val (.int cc), .val (.ref b156), .val (.int (17 : Int32)), .unset, .unset] [(.int (1 : Int32)), (.int md)]))
                refine own_ofW (fun tt_ kk_ => XS.iand X156.here hx rfl (hb hby at_354) rfl kk_) ?_
                show own_EndsW _ _ _ _ _ _ _ _ (T156.setTop (mkF m 355 #[.val (.int p1), .val (.int p2), .val (.int p3), .val (.int p4), .val (.int (1 : Int32)), .val (.int md), .val (.int cc), .val (.ref b156), .val (.int (17 : Int32)), .unset, .unset] [(.int (md &&& (1 : Int32)))]))
                refine own_ofW (fun tt_ kk_ => XS.iconst X156.here hx rfl (hb hby at_355) kk_) ?_
                show own_EndsW _ _ _ _ _ _ _ _ (T156.setTop (mkF m 356 #[.val (.int p1), .val (.int p2), .val (.int p3), .val (.int p4), .val (.int (1 : Int32)), .val (.int md), .val (.int cc), .val (.ref b156), .val (.int (17 : Int32)), .unset, .unset] [(.int (2 : Int32)), (.int (md &&& (1 : Int32)))]))
                refine own_ofW (fun tt_ kk_ => XS.ishl X156.here hx rfl (hb hby at_356) rfl kk_) ?_
                show own_EndsW _ _ _ _ _ _ _ _ (T156.setTop (mkF m 357 #[.val (.int p1), .val (.int p2), .val (.int p3), .val (.int p4), .val (.int (1 : Int32)), .val (.int md), .val (.int cc), .val (.ref b156), .val (.int (17 : Int32)), .unset, .unset] [(.int ((md &&& (1 : Int32)) <<< ((2 : Int32) &&& 31)))]))
                refine own_ofW (fun tt_ kk_ => XS.iloadN X156.here hx rfl (hb hby at_357) rfl  kk_) ?_
                show own_EndsW _ _ _ _ _ _ _ _ (T156.setTop (mkF m 358 #[.val (.int p1), .val (.int p2), .val (.int p3), .val (.int p4), .val (.int (1 : Int32)), .val (.int md), .val (.int cc), .val (.ref b156), .val (.int (17 : Int32)), .unset, .unset] [(.int p2), (.int ((md &&& (1 : Int32)) <<< ((2 : Int32) &&& 31)))]))
                refine own_ofW (fun tt_ kk_ => XS.iconst X156.here hx rfl (hb hby at_358) kk_) ?_
                show own_EndsW _ _ _ _ _ _ _ _ (T156.setTop (mkF m 359 #[.val (.int p1), .val (.int p2), .val (.int p3), .val (.int p4), .val (.int (1 : Int32)), .val (.int md), .val (.int cc), .val (.ref b156), .val (.int (17 : Int32)), .unset, .unset] [(.int (3 : Int32)), (.int p2), (.int ((md &&& (1 : Int32)) <<< ((2 : Int32) &&& 31)))]))
                refine own_ofW (fun tt_ kk_ => XS.iand X156.here hx rfl (hb hby at_359) rfl kk_) ?_
                show own_EndsW _ _ _ _ _ _ _ _ (T156.setTop (mkF m 360 #[.val (.int p1), .val (.int p2), .val (.int p3), .val (.int p4), .val (.int (1 : Int32)), .val (.int md), .val (.int cc), .val (.ref b156), .val (.int (17 : Int32)), .unset, .unset] [(.int (p2 &&& (3 : Int32))), (.int ((md &&& (1 : Int32)) <<< ((2 : Int32) &&& 31)))]))
                refine own_ofW (fun tt_ kk_ => XS.ior X156.here hx rfl (hb hby at_360) rfl kk_) ?_
                show own_EndsW _ _ _ _ _ _ _ _ (T156.setTop (mkF m 361 #[.val (.int p1), .val (.int p2), .val (.int p3), .val (.int p4), .val (.int (1 : Int32)), .val (.int md), .val (.int cc), .val (.ref b156), .val (.int (17 : Int32)), .unset, .unset] [(.int (((md &&& (1 : Int32)) <<< ((2 : Int32) &&& 31)) ||| (p2 &&& (3 : Int32))))]))
                refine own_ofW (fun tt_ kk_ => XS.istore X156.here hx rfl (hb hby at_361) rfl (l' := #[.val (.int p1), .val (.int p2), .val (.int p3), .val (.int p4), .val (.int (1 : Int32)), .val (.int md), .val (.int cc), .val (.ref b156), .val (.int (17 : Int32)), .val (.int (((md &&& (1 : Int32)) <<< ((2 : Int32) &&& 31)) ||| (p2 &&& (3 : Int32)))), .unset]) rfl kk_) ?_
                show own_EndsW _ _ _ _ _ _ _ _ (T156.setTop (mkF m 363 #[.val (.int p1), .val (.int p2), .val (.int p3), .val (.int p4), .val (.int (1 : Int32)), .val (.int md), .val (.int cc), .val (.ref b156), .val (.int (17 : Int32)), .val (.int (((md &&& (1 : Int32)) <<< ((2 : Int32) &&& 31)) ||| (p2 &&& (3 : Int32)))), .unset] []))
                refine own_ofW (fun tt_ kk_ => XS.iload X156.here hx rfl (hb hby at_363) rfl  kk_) ?_
                show own_EndsW _ _ _ _ _ _ _ _ (T156.setTop (mkF m 365 #[.val (.int p1), .val (.int p2), .val (.int p3), .val (.int p4), .val (.int (1 : Int32)), .val (.int md), .val (.int cc), .val (.ref b156), .val (.int (17 : Int32)), .val (.int (((md &&& (1 : Int32)) <<< ((2 : Int32) &&& 31)) ||| (p2 &&& (3 : Int32)))), .unset] [(.int (((md &&& (1 : Int32)) <<< ((2 : Int32) &&& 31)) ||| (p2 &&& (3 : Int32))))]))
                obtain ⟨v208, T208, L208, h208, k208', X208, e208, Q208, hZ, hown, hS, hk, HCq208, st208⟩ := own_staticW X156 hx hZ hown e156 hS hk hEL HC.1 (hw _ (List.mem_of_getElem? (i := 51) rfl)) (hw _ (List.mem_of_getElem? (i := 52) rfl)) (hw _ (List.mem_of_getElem? (i := 2) rfl)) (hw _ (List.mem_of_getElem? (i := 53) rfl)) (by decide) (argsL := [(.int (((md &&& (1 : Int32)) <<< ((2 : Int32) &&& 31)) ||| (p2 &&& (3 : Int32))))]) (rest := []) (rm_near l Z a0 hw (((md &&& (1 : Int32)) <<< ((2 : Int32) &&& 31)) ||| (p2 &&& (3 : Int32))) h156 n0 (Nat.le_trans Z0 K.1) hEL) (g := (mkF m 365 #[.val (.int p1), .val (.int p2), .val (.int p3), .val (.int p4), .val (.int (1 : Int32)), .val (.int md), .val (.int cc), .val (.ref b156), .val (.int (17 : Int32)), .val (.int (((md &&& (1 : Int32)) <<< ((2 : Int32) &&& 31)) ||| (p2 &&& (3 : Int32)))), .unset] [(.int (((md &&& (1 : Int32)) <<< ((2 : Int32) &&& 31)) ||| (p2 &&& (3 : Int32))))])) rfl (by rw [hml]; rfl) (lenOf pd__I_r_Ljava_lang_String_ rfl) rfl (by decide) (Nat.le_of_ble_eq_true rfl) (by decide) (by decide) (hb hby at_365)
                replace HC := HC.trans HCq208
                obtain ⟨b208, u208, k208, cs208, NN208, rfl, Nq208, Kq208, Es208, Cs208, Fs208, Vs208, hN208, hb208, hl208, n1208, n2208⟩ := Q208
                replace OL := OL.keep Kq208 all0
                replace Vb156 := Vb156.keep Kq208 nin0
                replace K := K.trans Kq208 all0
                have N208 := Fr.app N156 Nq208
                refine own_ofW st208 ?_
                show own_EndsW _ _ _ _ _ _ _ _ (T208.setTop (mkF m 368 #[.val (.int p1), .val (.int p2), .val (.int p3), .val (.int p4), .val (.int (1 : Int32)), .val (.int md), .val (.int cc), .val (.ref b156), .val (.int (17 : Int32)), .val (.int (((md &&& (1 : Int32)) <<< ((2 : Int32) &&& 31)) ||| (p2 &&& (3 : Int32)))), .unset] [(.ref b208)]))
                obtain ⟨v209, T209, L209, h209, k209', X209, e209, Q209, hZ, hown, hS, hk, HCq209, st209⟩ := own_staticW X208 hx hZ hown e208 hS hk hEL HC.1 (hw _ (List.mem_of_getElem? (i := 34) rfl)) (hw _ (List.mem_of_getElem? (i := 35) rfl)) (hw _ (List.mem_of_getElem? (i := 36) rfl)) (hw _ (List.mem_of_getElem? (i := 37) rfl)) (by decide) (argsL := [(.ref b208)]) (rest := []) (rm_nlN l Z a0 hw b208 u208 k208 cs208 NN208 G1 h208 n0 (Nat.le_trans Z0 K.1) hEL Es208 Cs208 Fs208 Vs208 hN208 hb208 hl208 O2 P3 OL n1208 n2208) (g := (mkF m 368 #[.val (.int p1), .val (.int p2), .val (.int p3), .val (.int p4), .val (.int (1 : Int32)), .val (.int md), .val (.int cc), .val (.ref b156), .val (.int (17 : Int32)), .val (.int (((md &&& (1 : Int32)) <<< ((2 : Int32) &&& 31)) ||| (p2 &&& (3 : Int32)))), .unset] [(.ref b208)])) rfl (by rw [hml]; rfl) (lenOf pd__Ljava_lang_String__r_Z rfl) rfl (by decide) (Nat.le_of_ble_eq_true rfl) (by decide) (by decide) (hb hby at_368)
                replace HC := HC.trans HCq209
                obtain ⟨rfl, Nq209, Kq209⟩ := Q209
                replace OL := OL.keep Kq209 all0
                replace Vb156 := Vb156.keep Kq209 nin0
                replace Es208 := Es208.keep Kq209
                replace Cs208 := Cs208.keep Kq209 nin0
                replace Fs208 := Fs208.keep Kq209 nin0
                replace Vs208 := Vs208.keep Kq209 nin0
                replace K := K.trans Kq209 all0
                have N209 := Fr.app N208 Nq209
                refine own_ofW st209 ?_
                show own_EndsW _ _ _ _ _ _ _ _ (T209.setTop (mkF m 371 #[.val (.int p1), .val (.int p2), .val (.int p3), .val (.int p4), .val (.int (1 : Int32)), .val (.int md), .val (.int cc), .val (.ref b156), .val (.int (17 : Int32)), .val (.int (((md &&& (1 : Int32)) <<< ((2 : Int32) &&& 31)) ||| (p2 &&& (3 : Int32)))), .unset] [(.int (0 : Int32))]))
                refine own_ofW (fun tt_ kk_ => XS.ifNo X209.here hx rfl (hb hby at_371) rfl ((if0 _ _).trans (teq (by decide : ((0 : Int32) = (0 : Int32)))).2) kk_) ?_
                show own_EndsW _ _ _ _ _ _ _ _ (T209.setTop (mkF m 374 #[.val (.int p1), .val (.int p2), .val (.int p3), .val (.int p4), .val (.int (1 : Int32)), .val (.int md), .val (.int cc), .val (.ref b156), .val (.int (17 : Int32)), .val (.int (((md &&& (1 : Int32)) <<< ((2 : Int32) &&& 31)) ||| (p2 &&& (3 : Int32)))), .unset] []))
                refine own_ofW (fun tt_ kk_ => XS.iconst X209.here hx rfl (hb hby at_374) kk_) ?_
                show own_EndsW _ _ _ _ _ _ _ _ (T209.setTop (mkF m 375 #[.val (.int p1), .val (.int p2), .val (.int p3), .val (.int p4), .val (.int (1 : Int32)), .val (.int md), .val (.int cc), .val (.ref b156), .val (.int (17 : Int32)), .val (.int (((md &&& (1 : Int32)) <<< ((2 : Int32) &&& 31)) ||| (p2 &&& (3 : Int32)))), .unset] [(.int (1 : Int32))]))
                refine own_ofW (fun tt_ kk_ => XS.goto X209.here hx rfl (pc0 := 375) (pc' := 379) rfl (hb hby at_375) (by decide) (by decide) kk_) ?_
                show own_EndsW _ _ _ _ _ _ _ _ (T209.setTop (mkF m 379 #[.val (.int p1), .val (.int p2), .val (.int p3), .val (.int p4), .val (.int (1 : Int32)), .val (.int md), .val (.int cc), .val (.ref b156), .val (.int (17 : Int32)), .val (.int (((md &&& (1 : Int32)) <<< ((2 : Int32) &&& 31)) ||| (p2 &&& (3 : Int32)))), .unset] [(.int (1 : Int32))]))
                refine own_retNW X209 hx hlk hZ hS e209 hk es hEL HC (t := .boolean) hret (by simp) (z' := (1 : Int32)) rfl (hb hby at_379) (by decide) (by decide) ?_
                exact ⟨rfl, N209⟩
set_option maxRecDepth 65536 in
set_option maxHeartbeats 40000000 in
theorem comes_1 {Post : Tables → Env → Array Value → State → Outcome → State → Prop} (hpost : ∀ tb e args s v u, (limb_1_1.after args s (.returned v) u = true ∧ limb_1_2.after args s (.returned v) u = true ∧ True) → ReturnedEndW s (.returned v) u (Jvm.fieldLocs frame_1_writes args s ++ Jvm.arrayLocs frame_1_arrays args s ++ Jvm.staticLocs frame_1_statics s) 40 11520 → Post tb e args s (.returned v) u) :
    ArmFor flags0 classFile x code maxLocals ret World_1 tables_1 room_1 Calls_1 rest_1 Pre_1 Post := by
  intro l hfl _ _ p e ha hc hk s m args below hf hA hF happ hP
  obtain ⟨hcalls, hrest, hpre⟩ := hP
  obtain ⟨-, -, -, hnamed, -, -, -, hat⟩ := (Spec.applies_iff hf).mp happ
  obtain ⟨hg, hn⟩ := and_e (Cond.before_iff.mp (show (Jvm.Cond.and given_1 narrow_1).before args s = true from hpre))
  obtain ⟨hcount, hg⟩ := and_e hg
  obtain ⟨hgi0, hg⟩ := and_e hg
  obtain ⟨hgi1, hg⟩ := and_e hg
  obtain ⟨hgi2, hg⟩ := and_e hg
  have hgi3 := hg
  obtain ⟨w0, w1, w2, w3, rfl⟩ : ∃ w0 w1 w2 w3 : Value, args = #[w0, w1, w2, w3] := by
    have hs : args.size = 4 := by simpa [Cond.value, given_1] using hcount
    obtain ⟨L⟩ := args
    match L, hs with
    | [w0, w1, w2, w3], _ => exact ⟨w0, w1, w2, w3, rfl⟩
  have hw := fun d (hd : d ∈ tables_1) => atoms_spec (ws := Jvm.Cond.code x code maxLocals ret :: tables_1) hat d (List.mem_cons_of_mem _ hd)
  have hfit : Fit s := fun {y c} hc i hi => by
    obtain ⟨ha, rfl⟩ := Array.getElem?_eq_some_iff.mp hc
    have q := List.all_eq_true.mp ((Array.all_eq_true_iff_forall_mem.mp hF) _ (Array.getElem_mem ha)) i (List.mem_range.mpr hi)
    simpa [Array.getElem?_eq_getElem hi] using q
  obtain ⟨hsets, hown0⟩ := atoms_of _ (rest_1_c_eq ▸ (show rest_1_c.before _ s = true from hrest))
  have hr0 := Cond.before_iff.mp hown0
  obtain ⟨i0, ei0⟩ := is_v hgi0
  obtain rfl : w0 = (.int i0) := Option.some.inj ei0
  obtain ⟨i1, ei1⟩ := is_v hgi1
  obtain rfl : w1 = (.int i1) := Option.some.inj ei1
  obtain ⟨i2, ei2⟩ := is_v hgi2
  obtain rfl : w2 = (.int i2) := Option.some.inj ei2
  obtain ⟨i3, ei3⟩ := is_v hgi3
  obtain rfl : w3 = (.int i3) := Option.some.inj ei3
  have n3 := not_v (Cond.before_iff.mp (hsets _ (List.mem_of_getElem? (i := 2) rfl)))
  obtain ⟨iG, eG⟩ := is_v (Cond.before_iff.mp (hsets _ (List.mem_of_getElem? (i := 1) rfl)))
  have SG : Sta s s.heap "java/lang/String" "COMPACT_STRINGS" "Z" (.int iG) := Sta.start eG (Or.inl (hsets _ (List.mem_of_getElem? (i := 0) rfl)))
  have cG : ¬ (iG = (0 : Int32)) := gotF (Cond.eq_ints eG (Term.int_eval (0))) n3
  have hEL : EW s _ own_EL := (EW.cons (text := "extension") (hw _ (List.mem_of_getElem? (i := 38) rfl)) (by decide +kernel) (EW.cons (text := "modifierExtension") (hw _ (List.mem_of_getElem? (i := 55) rfl)) (by decide +kernel) (EW.cons (text := "extensio") (hw _ (List.mem_of_getElem? (i := 66) rfl)) (by decide +kernel) (EW.cons (text := "xtension") (hw _ (List.mem_of_getElem? (i := 61) rfl)) (by decide +kernel) (EW.cons (text := "modifierExtensio") (hw _ (List.mem_of_getElem? (i := 67) rfl)) (by decide +kernel) (EW.cons (text := "odifierExtension") (hw _ (List.mem_of_getElem? (i := 54) rfl)) (by decide +kernel) (EW.cons (text := "ModifierExtension") (hw _ (List.mem_of_getElem? (i := 72) rfl)) (by decide +kernel) (EW.cons (text := "modifierextension") (hw _ (List.mem_of_getElem? (i := 71) rfl)) (by decide +kernel) (EW.cons (text := "EXTENSION") (hw _ (List.mem_of_getElem? (i := 73) rfl)) (by decide +kernel) (EW.cons (text := "extensionmodifierExtension") (hw _ (List.mem_of_getElem? (i := 59) rfl)) (by decide +kernel) (EW.cons (text := "") (hw _ (List.mem_of_getElem? (i := 60) rfl)) (by decide +kernel) EW.nil)))))))))))
  have HC := CHv.start hEL (fun p hp => hcalls.1 p hp) (hsets _ (List.mem_of_getElem? (i := 2) rfl)) (hw _ (List.mem_of_getElem? (i := 23) rfl)) (hw _ (List.mem_of_getElem? (i := 6) rfl))
  obtain ⟨n, o, h1, h2, h3, _, L, rfl, ⟨rfl, N⟩, -, hq⟩ := rm0 l s _ hw i0 i1 i2 i3 iG s.heap s.heap.size (Nat.le_refl _) hEL SG cG (Old.start s) tables_1 p e ha hc hk s m _ below hf ((Spec.applies_iff_loose hf).mp happ).1 ⟨rfl, State.Warmed39.refl s, rfl, HC⟩ trivial
  refine ⟨n, _, h1, h2, h3, hpost _ _ _ _ _ _ ⟨Cond.after_iff.mpr rfl, Cond.after_iff.mpr (eq_i res_at (Term.int_eval (1)) rfl), trivial⟩ ⟨hq.1, hq.2.1, hq.2.2.1, (hq.2.2.2.sift fun y hy => Or.inr (N y hy)).mono (by decide) (by decide)⟩⟩
theorem main_1_1 : Claimed_1_1 := comes_1 fun _ _ _ _ _ _ h hF => ⟨h.1, hF⟩
theorem main_1_2 : Claimed_1_2 := comes_1 fun _ _ _ _ _ _ h hF => ⟨h.2.1, hF⟩
end Jvm.Pilot.@@N@@
namespace Jvm.Pilot.@@N@@
open Jvm Jvm.ClassFile Sem Op Lib Jvm.Free Jvm.Stand Jvm.Pilot.@@N@@.Jvm.D
/-! MADE BY PROGRAM (witnessworld.py) out of the Statement's table words and the real class files: 21 classes; the members and pool entries that the words name. The judged class is class 1, her method 6. -/
namespace start1
open Jvm.ClassFile
def u (s : String) : CpInfo := .utf8 (stringToUtf16 s)
/-- a pool by its gaps: so many unusable entries, then the entry; so many at the end -/
def gap : Nat → List CpInfo → List CpInfo
  | 0, r => r
  | n + 1, r => .unusable :: gap n r
def poolList (es : List (Nat × CpInfo)) (last : Nat) : List CpInfo := es.foldr (fun e r => gap e.1 (e.2 :: r)) (gap last [])
def pool (es : List (Nat × CpInfo)) (last : Nat) : Array CpInfo := ⟨poolList es last⟩
def fileOf (pool : Array CpInfo) (this : Nat) (attrs : Array Attribute := #[]) (ms : Array MethodInfo := #[]) (fl : Nat := 33) (sup : Nat := 0) (ifs : Array Nat := #[]) (fds : Array FieldInfo := #[]) : ClassFile where
  minorVersion := 0
  majorVersion := 65
  constantPool := pool
  accessFlags := fl
  thisClass := this
  superClass := sup
  interfaces := ifs
  fields := fds
  methods := ms
  attributes := attrs
def plain (name : String) (sup : Option ClassId) : Class where
  name := name
  kind := .ordinary
  loader := none
  accessFlags := 33
  super := sup
  interfaces := #[]
  cf := none
  fields := #[]
  methods := #[]
  instanceTypes := #[]
  staticTypes := #[]
  resolved := #[]
  callSites := []
  init := .initialized
  statics := none
  mirror := none

def pool0 : Array CpInfo := pool [(5, u "<init>"), (0, u "()V"), (1, .class_ 10), (1, u "java/lang/Object")] 113

def k0c0 : Code := { maxStack := 0, maxLocals := 1, code := object_method_1_code, exceptionTable := #[], attributes := #[] }
def k0m0 : Method := { name := "<init>", desc := "()V", sig := { parameters := [], returnType := none }, accessFlags := 1, code := some k0c0 }
/-- java/lang/Object -/
def k0 : Class := { plain "java/lang/Object" none with
  accessFlags := 33
  interfaces := #[]
  cf := some (fileOf pool0 8 #[] #[{ accessFlags := 1, nameIndex := 5, descriptorIndex := 6, attributes := #[] }] 33 0 #[] #[])
  fields := #[]
  methods := #[k0m0]
  instanceTypes := #[]
  staticTypes := #[]
  resolved := Array.replicate 124 none
  statics := none }

def pool1 : Array CpInfo := pool [(2, .class_ 4), (1, u "java/lang/Object"), (0, u "<init>"), (0, u "()V"), (0, .string 8), (0, u "extensio"), (0, .string 10), (0, u "xtension"), (0, .string 12), (0, u "modifierExtensio"), (0, .string 14), (0, u "odifierExtension"), (0, .string 16), (0, u "ModifierExtension"), (0, .string 18), (0, u "modifierextension"), (0, .string 20), (0, u "EXTENSION"), (0, .string 22), (0, u "extensionmodifierExtension"), (0, .methodref 24 25), (0, .class_ 26), (0, .nameAndType 27 28), (0, u "com/example/extlint/extlint/model/ExtensionNamesListPinLaw"), (0, u "mod"), (0, u "()[C"), (0, .methodref 24 30), (0, .nameAndType 31 28), (0, u "ext"), (0, .class_ 33), (0, u "java/lang/String"), (0, .methodref 32 35), (0, .nameAndType 5 36), (0, u "([C)V"), (0, .methodref 38 39), (0, .class_ 40), (0, .nameAndType 41 42), (0, u "com/example/extlint/extlint/model/Extension"), (0, u "namesList"), (0, u "(Ljava/lang/String;)Z"), (0, .integer 2147483647), (0, .methodref 24 45), (0, .nameAndType 46 28), (0, u "modPlus"), (0, .methodref 24 48), (0, .nameAndType 49 28), (0, u "extPlus"), (0, .methodref 24 51), (0, .nameAndType 52 53), (0, u "near"), (0, u "(I)Ljava/lang/String;"), (3, u "law"), (0, u "(IIII)Z")] 4

def k1m0 : Method := { name := "<init>", desc := "()V", sig := { parameters := [], returnType := none }, accessFlags := 1, code := none }
def k1c1 : Code := { maxStack := 4, maxLocals := 0, code := method_2_code, exceptionTable := #[], attributes := #[] }
def k1m1 : Method := { name := "ext", desc := "()[C", sig := { parameters := [], returnType := some (.array .char) }, accessFlags := 10, code := some k1c1 }
def k1c2 : Code := { maxStack := 4, maxLocals := 0, code := method_3_code, exceptionTable := #[], attributes := #[] }
def k1m2 : Method := { name := "mod", desc := "()[C", sig := { parameters := [], returnType := some (.array .char) }, accessFlags := 10, code := some k1c2 }
def k1c3 : Code := { maxStack := 4, maxLocals := 0, code := method_4_code, exceptionTable := #[], attributes := #[] }
def k1m3 : Method := { name := "extPlus", desc := "()[C", sig := { parameters := [], returnType := some (.array .char) }, accessFlags := 10, code := some k1c3 }
def k1c4 : Code := { maxStack := 4, maxLocals := 0, code := method_5_code, exceptionTable := #[], attributes := #[] }
def k1m4 : Method := { name := "modPlus", desc := "()[C", sig := { parameters := [], returnType := some (.array .char) }, accessFlags := 10, code := some k1c4 }
def k1c5 : Code := { maxStack := 2, maxLocals := 1, code := method_6_code, exceptionTable := #[], attributes := #[] }
def k1m5 : Method := { name := "near", desc := "(I)Ljava/lang/String;", sig := { parameters := [.int], returnType := some (.object "java/lang/String") }, accessFlags := 10, code := some k1c5 }
def k1c6 : Code := { maxStack := 4, maxLocals := 11, code := code, exceptionTable := #[], attributes := #[] }
def k1m6 : Method := { name := "law", desc := "(IIII)Z", sig := { parameters := [.int, .int, .int, .int], returnType := some .boolean }, accessFlags := 9, code := some k1c6 }
/-- com/example/extlint/extlint/model/ExtensionNamesListPinLaw -/
def k1 : Class := { plain "com/example/extlint/extlint/model/ExtensionNamesListPinLaw" (some 0) with
  accessFlags := 49
  interfaces := #[]
  cf := some (fileOf pool1 24 #[] #[{ accessFlags := 1, nameIndex := 5, descriptorIndex := 6, attributes := #[] }, { accessFlags := 10, nameIndex := 31, descriptorIndex := 28, attributes := #[] }, { accessFlags := 10, nameIndex := 27, descriptorIndex := 28, attributes := #[] }, { accessFlags := 10, nameIndex := 49, descriptorIndex := 28, attributes := #[] }, { accessFlags := 10, nameIndex := 46, descriptorIndex := 28, attributes := #[] }, { accessFlags := 10, nameIndex := 52, descriptorIndex := 53, attributes := #[] }, { accessFlags := 9, nameIndex := 57, descriptorIndex := 58, attributes := #[] }] 49 2 #[] #[])
  fields := #[]
  methods := #[k1m0, k1m1, k1m2, k1m3, k1m4, k1m5, k1m6]
  instanceTypes := #[]
  staticTypes := #[]
  resolved := Array.replicate 63 none
  statics := none }

def pool2 : Array CpInfo := pool [(1, .class_ 2), (0, u "java/io/Serializable"), (0, .class_ 4), (0, u "java/lang/Object")] 2

/-- java/io/Serializable -/
def k2 : Class := { plain "java/io/Serializable" (some 0) with
  accessFlags := 1537
  interfaces := #[]
  cf := some (fileOf pool2 1 #[] #[] 1537 3 #[] #[])
  fields := #[]
  methods := #[]
  instanceTypes := #[]
  staticTypes := #[]
  resolved := Array.replicate 7 none
  statics := none }

def pool3 : Array CpInfo := pool [(1, .class_ 2), (0, u "java/lang/Comparable"), (0, .class_ 4), (0, u "java/lang/Object")] 7

/-- java/lang/Comparable -/
def k3 : Class := { plain "java/lang/Comparable" (some 0) with
  accessFlags := 1537
  interfaces := #[]
  cf := some (fileOf pool3 1 #[] #[] 1537 3 #[] #[])
  fields := #[]
  methods := #[]
  instanceTypes := #[]
  staticTypes := #[]
  resolved := Array.replicate 12 none
  statics := none }

def pool4 : Array CpInfo := pool [(2, .class_ 4), (1, u "java/lang/CharSequence"), (42, .class_ 48), (0, u "java/lang/CharSequence$1CodePointIterator"), (10, .class_ 60), (0, u "java/lang/CharSequence$1CharIterator"), (5, .class_ 67), (0, u "java/lang/Object")] 63

/-- java/lang/CharSequence -/
def k4 : Class := { plain "java/lang/CharSequence" (some 0) with
  accessFlags := 1537
  interfaces := #[]
  cf := some (fileOf pool4 2 #[.nestMembers #[47, 59]] #[] 1537 66 #[] #[])
  fields := #[]
  methods := #[]
  instanceTypes := #[]
  staticTypes := #[]
  resolved := Array.replicate 131 none
  statics := none }

def pool5 : Array CpInfo := pool [(1, .class_ 2), (0, u "java/lang/constant/Constable"), (0, .class_ 4), (0, u "java/lang/Object")] 6

/-- java/lang/constant/Constable -/
def k5 : Class := { plain "java/lang/constant/Constable" (some 0) with
  accessFlags := 1537
  interfaces := #[]
  cf := some (fileOf pool5 1 #[] #[] 1537 3 #[] #[])
  fields := #[]
  methods := #[]
  instanceTypes := #[]
  staticTypes := #[]
  resolved := Array.replicate 11 none
  statics := none }

def pool6 : Array CpInfo := pool [(1, .class_ 2), (0, u "java/lang/constant/ConstantDesc"), (0, .class_ 4), (0, u "java/lang/Object")] 32

/-- java/lang/constant/ConstantDesc -/
def k6 : Class := { plain "java/lang/constant/ConstantDesc" (some 0) with
  accessFlags := 1537
  interfaces := #[]
  cf := some (fileOf pool6 1 #[] #[] 1537 3 #[] #[])
  fields := #[]
  methods := #[]
  instanceTypes := #[]
  staticTypes := #[]
  resolved := Array.replicate 37 none
  statics := none }

def pool7 : Array CpInfo := pool [(1, .methodref 2 3), (0, .class_ 4), (0, .nameAndType 5 6), (0, u "java/lang/Object"), (0, u "<init>"), (0, u "()V"), (0, .string 8), (0, u ""), (0, .fieldref 10 11), (0, .class_ 12), (0, .nameAndType 13 14), (0, u "java/lang/String"), (0, u "value"), (0, u "[B"), (0, .fieldref 10 16), (0, .nameAndType 17 18), (0, u "coder"), (0, u "B"), (2, u "hash"), (0, u "I"), (2, u "hashIsZero"), (0, u "Z"), (0, .methodref 10 28), (0, .nameAndType 5 29), (0, u "([CIILjava/lang/Void;)V"), (8, .fieldref 10 39), (0, .nameAndType 40 26), (0, u "COMPACT_STRINGS"), (1, .class_ 44), (1, u "java/lang/StringUTF16"), (0, u "compress"), (1, .methodref 42 48), (0, .nameAndType 49 50), (0, u "coderFromArrayLen"), (0, u "([BI)B"), (56, .class_ 109), (1, u "java/lang/StringLatin1"), (67, .methodref 42 178), (0, .nameAndType 45 179), (0, u "([CII)[B"), (361, .methodref 107 542), (0, .nameAndType 543 544), (0, u "equals"), (0, u "([B[B)Z"), (28, u "(Ljava/lang/Object;)Z"), (1, .class_ 576), (0, u "java/lang/CharSequence"), (22, u "CASE_INSENSITIVE_ORDER"), (0, u "Ljava/util/Comparator;"), (409, u "([C)V"), (90, u "serialPersistentFields"), (0, u "[Ljava/io/ObjectStreamField;"), (0, .class_ 1104), (0, u "java/lang/String$CaseInsensitiveComparator"), (1, .class_ 1107), (0, u "java/io/Serializable"), (0, .class_ 1109), (0, u "java/lang/Comparable"), (0, .class_ 1111), (0, u "java/lang/constant/Constable"), (0, .class_ 1113), (0, u "java/lang/constant/ConstantDesc"), (2, u "serialVersionUID"), (0, u "J"), (3, u "REPL"), (0, u "C"), (2, u "LATIN1"), (1, u "UTF16")] 323

def k7m0 : Method := { name := "<init>", desc := "()V", sig := { parameters := [], returnType := none }, accessFlags := 1, code := none }
def k7c1 : Code := { maxStack := 5, maxLocals := 2, code := jdk_42_method_3_code, exceptionTable := #[], attributes := #[] }
def k7m1 : Method := { name := "<init>", desc := "([C)V", sig := { parameters := [(.array .char)], returnType := none }, accessFlags := 1, code := some k7c1 }
def k7c2 : Code := { maxStack := 2, maxLocals := 3, code := jdk_42_method_66_code, exceptionTable := #[], attributes := #[] }
def k7m2 : Method := { name := "equals", desc := "(Ljava/lang/Object;)Z", sig := { parameters := [(.object "java/lang/Object")], returnType := some .boolean }, accessFlags := 1, code := some k7c2 }
def k7c3 : Code := { maxStack := 4, maxLocals := 6, code := jdk_42_method_149_code, exceptionTable := #[], attributes := #[] }
def k7m3 : Method := { name := "<init>", desc := "([CIILjava/lang/Void;)V", sig := { parameters := [(.array .char), .int, .int, (.object "java/lang/Void")], returnType := none }, accessFlags := 2, code := some k7c3 }
/-- java/lang/String -/
def k7 : Class := { plain "java/lang/String" (some 0) with
  accessFlags := 49
  interfaces := #[2, 3, 4, 5, 6]
  cf := some (fileOf pool7 10 #[.nestMembers #[1103]] #[{ accessFlags := 1, nameIndex := 5, descriptorIndex := 6, attributes := #[] }, { accessFlags := 1, nameIndex := 5, descriptorIndex := 1010, attributes := #[] }, { accessFlags := 1, nameIndex := 543, descriptorIndex := 573, attributes := #[] }, { accessFlags := 2, nameIndex := 5, descriptorIndex := 29, attributes := #[] }] 49 2 #[1106, 1108, 575, 1110, 1112] #[{ accessFlags := 18, nameIndex := 13, descriptorIndex := 14, attributes := #[] }, { accessFlags := 18, nameIndex := 17, descriptorIndex := 18, attributes := #[] }, { accessFlags := 2, nameIndex := 21, descriptorIndex := 22, attributes := #[] }, { accessFlags := 2, nameIndex := 25, descriptorIndex := 26, attributes := #[] }, { accessFlags := 26, nameIndex := 1116, descriptorIndex := 1117, attributes := #[] }, { accessFlags := 24, nameIndex := 40, descriptorIndex := 26, attributes := #[] }, { accessFlags := 26, nameIndex := 1101, descriptorIndex := 1102, attributes := #[] }, { accessFlags := 26, nameIndex := 1121, descriptorIndex := 1122, attributes := #[] }, { accessFlags := 25, nameIndex := 599, descriptorIndex := 600, attributes := #[] }, { accessFlags := 24, nameIndex := 1125, descriptorIndex := 18, attributes := #[] }, { accessFlags := 24, nameIndex := 1127, descriptorIndex := 18, attributes := #[] }])
  fields := #[{ name := "value", type := (.array .byte), accessFlags := 18, slot := 0, constantValue := 0 }, { name := "coder", type := .byte, accessFlags := 18, slot := 1, constantValue := 0 }, { name := "hash", type := .int, accessFlags := 2, slot := 2, constantValue := 0 }, { name := "hashIsZero", type := .boolean, accessFlags := 2, slot := 3, constantValue := 0 }, { name := "serialVersionUID", type := .long, accessFlags := 26, slot := 0, constantValue := 0 }, { name := "COMPACT_STRINGS", type := .boolean, accessFlags := 24, slot := 1, constantValue := 0 }, { name := "serialPersistentFields", type := (.array (.object "java/io/ObjectStreamField")), accessFlags := 26, slot := 2, constantValue := 0 }, { name := "REPL", type := .char, accessFlags := 26, slot := 3, constantValue := 0 }, { name := "CASE_INSENSITIVE_ORDER", type := (.object "java/util/Comparator"), accessFlags := 25, slot := 4, constantValue := 0 }, { name := "LATIN1", type := .byte, accessFlags := 24, slot := 5, constantValue := 0 }, { name := "UTF16", type := .byte, accessFlags := 24, slot := 6, constantValue := 0 }]
  methods := #[k7m0, k7m1, k7m2, k7m3]
  instanceTypes := #[(.array .byte), .byte, .int, .boolean]
  staticTypes := #[.long, .boolean, (.array (.object "java/io/ObjectStreamField")), .char, (.object "java/util/Comparator"), .byte, .byte]
  resolved := Array.replicate 1451 none
  statics := some 0 }

def pool8 : Array CpInfo := pool [(6, .class_ 8), (1, u "java/lang/Object"), (0, u "<init>"), (0, u "()V"), (1, .class_ 14), (1, u "java/lang/StringUTF16"), (31, u "$assertionsDisabled"), (0, u "Z"), (13, u "HI_BYTE_SHIFT"), (0, u "I"), (2, u "LO_BYTE_SHIFT"), (49, .methodref 12 116), (0, .nameAndType 117 118), (0, u "compress"), (0, u "([CI[BII)I"), (3, u "([CII)[B"), (138, u "coderFromArrayLen"), (0, u "([BI)B"), (106, .class_ 371), (1, u "java/lang/StringUTF16$LinesSpliterator"), (58, u "MAX_LENGTH"), (196, .class_ 628), (0, u "java/lang/StringUTF16$CodePointsSpliterator"), (0, .class_ 630), (0, u "java/lang/StringUTF16$CharsSpliterator")] 4

def k8m0 : Method := { name := "<init>", desc := "()V", sig := { parameters := [], returnType := none }, accessFlags := 0, code := none }
def k8c1 : Code := { maxStack := 2, maxLocals := 2, code := jdk_52_method_15_code, exceptionTable := #[], attributes := #[] }
def k8m1 : Method := { name := "coderFromArrayLen", desc := "([BI)B", sig := { parameters := [(.array .byte), .int], returnType := some .byte }, accessFlags := 8, code := some k8c1 }
def k8c2 : Code := { maxStack := 5, maxLocals := 6, code := jdk_52_method_16_code, exceptionTable := #[], attributes := #[] }
def k8m2 : Method := { name := "compress", desc := "([CII)[B", sig := { parameters := [(.array .char), .int, .int], returnType := some (.array .byte) }, accessFlags := 9, code := some k8c2 }
def k8c3 : Code := { maxStack := 3, maxLocals := 7, code := jdk_52_method_21_code, exceptionTable := #[], attributes := #[] }
def k8m3 : Method := { name := "compress", desc := "([CI[BII)I", sig := { parameters := [(.array .char), .int, (.array .byte), .int, .int], returnType := some .int }, accessFlags := 9, code := some k8c3 }
/-- java/lang/StringUTF16 -/
def k8 : Class := { plain "java/lang/StringUTF16" (some 0) with
  accessFlags := 48
  interfaces := #[]
  cf := some (fileOf pool8 12 #[.nestMembers #[627, 629, 369]] #[{ accessFlags := 0, nameIndex := 9, descriptorIndex := 10, attributes := #[] }, { accessFlags := 8, nameIndex := 261, descriptorIndex := 262, attributes := #[] }, { accessFlags := 9, nameIndex := 117, descriptorIndex := 122, attributes := #[] }, { accessFlags := 9, nameIndex := 117, descriptorIndex := 118, attributes := #[] }] 48 6 #[] #[{ accessFlags := 26, nameIndex := 61, descriptorIndex := 62, attributes := #[] }, { accessFlags := 26, nameIndex := 65, descriptorIndex := 62, attributes := #[] }, { accessFlags := 24, nameIndex := 430, descriptorIndex := 62, attributes := #[] }, { accessFlags := 4120, nameIndex := 46, descriptorIndex := 47, attributes := #[] }])
  fields := #[{ name := "HI_BYTE_SHIFT", type := .int, accessFlags := 26, slot := 0, constantValue := 0 }, { name := "LO_BYTE_SHIFT", type := .int, accessFlags := 26, slot := 1, constantValue := 0 }, { name := "MAX_LENGTH", type := .int, accessFlags := 24, slot := 2, constantValue := 0 }, { name := "$assertionsDisabled", type := .boolean, accessFlags := 4120, slot := 3, constantValue := 0 }]
  methods := #[k8m0, k8m1, k8m2, k8m3]
  instanceTypes := #[]
  staticTypes := #[.int, .int, .int, .boolean]
  resolved := Array.replicate 635 none
  statics := none }

def pool9 : Array CpInfo := pool [(2, .class_ 4), (1, u "java/lang/Object"), (0, u "<init>"), (0, u "()V"), (0, .class_ 8), (0, u "java/lang/Record")] 13

def k9m0 : Method := { name := "<init>", desc := "()V", sig := { parameters := [], returnType := none }, accessFlags := 4, code := none }
/-- java/lang/Record -/
def k9 : Class := { plain "java/lang/Record" (some 0) with
  accessFlags := 1057
  interfaces := #[]
  cf := some (fileOf pool9 7 #[] #[{ accessFlags := 4, nameIndex := 5, descriptorIndex := 6, attributes := #[] }] 1057 2 #[] #[])
  fields := #[]
  methods := #[k9m0]
  instanceTypes := #[]
  staticTypes := #[]
  resolved := Array.replicate 22 none
  statics := none }

def pool10 : Array CpInfo := pool [(2, .class_ 4), (1, u "java/lang/Record"), (3, .class_ 10), (1, u "com/example/extlint/extlint/model/Extension"), (19, u "element"), (0, u "Lcom/example/extlint/extlint/model/Element;"), (59, u "namesList"), (0, u "(Ljava/lang/String;)Z"), (6, .string 100), (0, u "extension"), (0, .methodref 102 103), (0, .class_ 104), (0, .nameAndType 105 106), (0, u "java/lang/String"), (0, u "equals"), (0, u "(Ljava/lang/Object;)Z"), (0, .string 108), (0, u "modifierExtension"), (31, u "VALUE"), (0, u "Ljava/util/regex/Pattern;")] 132

def k10c0 : Code := { maxStack := 2, maxLocals := 1, code := prog_29_method_6_code, exceptionTable := #[], attributes := #[] }
def k10m0 : Method := { name := "namesList", desc := "(Ljava/lang/String;)Z", sig := { parameters := [(.object "java/lang/String")], returnType := some .boolean }, accessFlags := 9, code := some k10c0 }
/-- com/example/extlint/extlint/model/Extension -/
def k10 : Class := { plain "com/example/extlint/extlint/model/Extension" (some 9) with
  accessFlags := 49
  interfaces := #[]
  cf := some (fileOf pool10 8 #[] #[{ accessFlags := 9, nameIndex := 91, descriptorIndex := 92, attributes := #[] }] 49 2 #[] #[{ accessFlags := 18, nameIndex := 30, descriptorIndex := 31, attributes := #[] }, { accessFlags := 26, nameIndex := 140, descriptorIndex := 141, attributes := #[] }])
  fields := #[{ name := "element", type := (.object "com/example/extlint/extlint/model/Element"), accessFlags := 18, slot := 0, constantValue := 0 }, { name := "VALUE", type := (.object "java/util/regex/Pattern"), accessFlags := 26, slot := 0, constantValue := 0 }]
  methods := #[k10m0]
  instanceTypes := #[(.object "com/example/extlint/extlint/model/Element")]
  staticTypes := #[(.object "java/util/regex/Pattern")]
  resolved := Array.replicate 274 none
  statics := none }

def pool11 : Array CpInfo := pool [(4, .class_ 6), (1, u "java/lang/Object"), (0, u "<init>"), (0, u "()V"), (5, .class_ 16), (1, u "java/lang/StringLatin1"), (104, u "$assertionsDisabled"), (0, u "Z"), (98, .class_ 223), (1, u "java/lang/StringLatin1$LinesSpliterator"), (57, u "equals"), (0, u "([B[B)Z"), (107, .class_ 391), (0, u "java/lang/StringLatin1$CharsSpliterator")] 3

def k11m0 : Method := { name := "<init>", desc := "()V", sig := { parameters := [], returnType := none }, accessFlags := 0, code := none }
def k11c1 : Code := { maxStack := 3, maxLocals := 3, code := jdk_43_method_13_code, exceptionTable := #[], attributes := #[] }
def k11m1 : Method := { name := "equals", desc := "([B[B)Z", sig := { parameters := [(.array .byte), (.array .byte)], returnType := some .boolean }, accessFlags := 9, code := some k11c1 }
/-- java/lang/StringLatin1 -/
def k11 : Class := { plain "java/lang/StringLatin1" (some 0) with
  accessFlags := 48
  interfaces := #[]
  cf := some (fileOf pool11 14 #[.nestMembers #[390, 221]] #[{ accessFlags := 0, nameIndex := 7, descriptorIndex := 8, attributes := #[] }, { accessFlags := 9, nameIndex := 281, descriptorIndex := 282, attributes := #[] }] 48 4 #[] #[{ accessFlags := 4120, nameIndex := 121, descriptorIndex := 122, attributes := #[] }])
  fields := #[{ name := "$assertionsDisabled", type := .boolean, accessFlags := 4120, slot := 0, constantValue := 0 }]
  methods := #[k11m0, k11m1]
  instanceTypes := #[]
  staticTypes := #[.boolean]
  resolved := Array.replicate 395 none
  statics := none }

def pool12 : Array CpInfo := pool [(2, .class_ 4), (1, u "java/lang/Object"), (0, u "<init>"), (0, u "()V"), (17, .class_ 26), (1, u "jdk/internal/util/Preconditions"), (28, .class_ 56), (0, u "jdk/internal/util/Preconditions$4"), (57, .class_ 115), (0, u "jdk/internal/util/Preconditions$1"), (7, u "SIOOBE_FORMATTER"), (0, u "Ljava/util/function/BiFunction;"), (0, .class_ 126), (0, u "jdk/internal/util/Preconditions$2"), (3, u "AIOOBE_FORMATTER"), (0, .class_ 132), (0, u "jdk/internal/util/Preconditions$3"), (3, u "IOOBE_FORMATTER")] 57

def k12m0 : Method := { name := "<init>", desc := "()V", sig := { parameters := [], returnType := none }, accessFlags := 1, code := none }
/-- jdk/internal/util/Preconditions -/
def k12 : Class := { plain "jdk/internal/util/Preconditions" (some 0) with
  accessFlags := 33
  interfaces := #[]
  cf := some (fileOf pool12 24 #[.nestMembers #[55, 131, 125, 114]] #[{ accessFlags := 1, nameIndex := 5, descriptorIndex := 6, attributes := #[] }] 33 2 #[] #[{ accessFlags := 25, nameIndex := 123, descriptorIndex := 124, attributes := #[] }, { accessFlags := 25, nameIndex := 130, descriptorIndex := 124, attributes := #[] }, { accessFlags := 25, nameIndex := 136, descriptorIndex := 124, attributes := #[] }])
  fields := #[{ name := "SIOOBE_FORMATTER", type := (.object "java/util/function/BiFunction"), accessFlags := 25, slot := 0, constantValue := 0 }, { name := "AIOOBE_FORMATTER", type := (.object "java/util/function/BiFunction"), accessFlags := 25, slot := 1, constantValue := 0 }, { name := "IOOBE_FORMATTER", type := (.object "java/util/function/BiFunction"), accessFlags := 25, slot := 2, constantValue := 0 }]
  methods := #[k12m0]
  instanceTypes := #[]
  staticTypes := #[(.object "java/util/function/BiFunction"), (.object "java/util/function/BiFunction"), (.object "java/util/function/BiFunction")]
  resolved := Array.replicate 194 none
  statics := some 1 }

def pool13 : Array CpInfo := pool [(9, u "<init>"), (6, .class_ 18), (1, u "java/lang/Object"), (0, u "()V"), (1, .class_ 23), (1, u "jdk/internal/util/ArraysSupport"), (0, u "LOG2_ARRAY_LONG_INDEX_SCALE"), (0, u "I"), (2, u "U"), (0, u "Ljdk/internal/misc/Unsafe;"), (8, u "BIG_ENDIAN"), (0, u "Z"), (8, u "LOG2_BYTE_BIT_SIZE"), (4, u "LOG2_ARRAY_INT_INDEX_SCALE"), (54, u "JLA"), (0, u "Ljdk/internal/access/JavaLangAccess;"), (11, u "LOG2_ARRAY_BOOLEAN_INDEX_SCALE"), (9, u "LOG2_ARRAY_BYTE_INDEX_SCALE"), (5, u "LOG2_ARRAY_CHAR_INDEX_SCALE"), (5, u "LOG2_ARRAY_SHORT_INDEX_SCALE"), (18, u "LOG2_ARRAY_FLOAT_INDEX_SCALE"), (24, u "LOG2_ARRAY_DOUBLE_INDEX_SCALE"), (89, u "T_BOOLEAN"), (2, u "T_CHAR"), (1, u "T_FLOAT"), (1, u "T_DOUBLE"), (1, u "T_BYTE"), (1, u "T_SHORT"), (1, u "T_INT"), (1, u "T_LONG"), (1, u "SOFT_MAX_ARRAY_LENGTH")] 83

def k13m0 : Method := { name := "<init>", desc := "()V", sig := { parameters := [], returnType := none }, accessFlags := 2, code := none }
/-- jdk/internal/util/ArraysSupport -/
def k13 : Class := { plain "jdk/internal/util/ArraysSupport" (some 0) with
  accessFlags := 33
  interfaces := #[]
  cf := some (fileOf pool13 21 #[] #[{ accessFlags := 2, nameIndex := 9, descriptorIndex := 19, attributes := #[] }] 33 16 #[] #[{ accessFlags := 24, nameIndex := 28, descriptorIndex := 29, attributes := #[] }, { accessFlags := 26, nameIndex := 38, descriptorIndex := 39, attributes := #[] }, { accessFlags := 25, nameIndex := 121, descriptorIndex := 25, attributes := #[] }, { accessFlags := 25, nameIndex := 131, descriptorIndex := 25, attributes := #[] }, { accessFlags := 25, nameIndex := 137, descriptorIndex := 25, attributes := #[] }, { accessFlags := 25, nameIndex := 143, descriptorIndex := 25, attributes := #[] }, { accessFlags := 25, nameIndex := 53, descriptorIndex := 25, attributes := #[] }, { accessFlags := 25, nameIndex := 24, descriptorIndex := 25, attributes := #[] }, { accessFlags := 25, nameIndex := 162, descriptorIndex := 25, attributes := #[] }, { accessFlags := 25, nameIndex := 187, descriptorIndex := 25, attributes := #[] }, { accessFlags := 26, nameIndex := 48, descriptorIndex := 25, attributes := #[] }, { accessFlags := 25, nameIndex := 277, descriptorIndex := 25, attributes := #[] }, { accessFlags := 25, nameIndex := 280, descriptorIndex := 25, attributes := #[] }, { accessFlags := 25, nameIndex := 282, descriptorIndex := 25, attributes := #[] }, { accessFlags := 25, nameIndex := 284, descriptorIndex := 25, attributes := #[] }, { accessFlags := 25, nameIndex := 286, descriptorIndex := 25, attributes := #[] }, { accessFlags := 25, nameIndex := 288, descriptorIndex := 25, attributes := #[] }, { accessFlags := 25, nameIndex := 290, descriptorIndex := 25, attributes := #[] }, { accessFlags := 25, nameIndex := 292, descriptorIndex := 25, attributes := #[] }, { accessFlags := 26, nameIndex := 108, descriptorIndex := 109, attributes := #[] }, { accessFlags := 25, nameIndex := 294, descriptorIndex := 25, attributes := #[] }])
  fields := #[{ name := "U", type := (.object "jdk/internal/misc/Unsafe"), accessFlags := 24, slot := 0, constantValue := 0 }, { name := "BIG_ENDIAN", type := .boolean, accessFlags := 26, slot := 1, constantValue := 0 }, { name := "LOG2_ARRAY_BOOLEAN_INDEX_SCALE", type := .int, accessFlags := 25, slot := 2, constantValue := 0 }, { name := "LOG2_ARRAY_BYTE_INDEX_SCALE", type := .int, accessFlags := 25, slot := 3, constantValue := 0 }, { name := "LOG2_ARRAY_CHAR_INDEX_SCALE", type := .int, accessFlags := 25, slot := 4, constantValue := 0 }, { name := "LOG2_ARRAY_SHORT_INDEX_SCALE", type := .int, accessFlags := 25, slot := 5, constantValue := 0 }, { name := "LOG2_ARRAY_INT_INDEX_SCALE", type := .int, accessFlags := 25, slot := 6, constantValue := 0 }, { name := "LOG2_ARRAY_LONG_INDEX_SCALE", type := .int, accessFlags := 25, slot := 7, constantValue := 0 }, { name := "LOG2_ARRAY_FLOAT_INDEX_SCALE", type := .int, accessFlags := 25, slot := 8, constantValue := 0 }, { name := "LOG2_ARRAY_DOUBLE_INDEX_SCALE", type := .int, accessFlags := 25, slot := 9, constantValue := 0 }, { name := "LOG2_BYTE_BIT_SIZE", type := .int, accessFlags := 26, slot := 10, constantValue := 0 }, { name := "T_BOOLEAN", type := .int, accessFlags := 25, slot := 11, constantValue := 0 }, { name := "T_CHAR", type := .int, accessFlags := 25, slot := 12, constantValue := 0 }, { name := "T_FLOAT", type := .int, accessFlags := 25, slot := 13, constantValue := 0 }, { name := "T_DOUBLE", type := .int, accessFlags := 25, slot := 14, constantValue := 0 }, { name := "T_BYTE", type := .int, accessFlags := 25, slot := 15, constantValue := 0 }, { name := "T_SHORT", type := .int, accessFlags := 25, slot := 16, constantValue := 0 }, { name := "T_INT", type := .int, accessFlags := 25, slot := 17, constantValue := 0 }, { name := "T_LONG", type := .int, accessFlags := 25, slot := 18, constantValue := 0 }, { name := "JLA", type := (.object "jdk/internal/access/JavaLangAccess"), accessFlags := 26, slot := 19, constantValue := 0 }, { name := "SOFT_MAX_ARRAY_LENGTH", type := .int, accessFlags := 25, slot := 20, constantValue := 0 }]
  methods := #[k13m0]
  instanceTypes := #[]
  staticTypes := #[(.object "jdk/internal/misc/Unsafe"), .boolean, .int, .int, .int, .int, .int, .int, .int, .int, .int, .int, .int, .int, .int, .int, .int, .int, .int, (.object "jdk/internal/access/JavaLangAccess"), .int]
  resolved := Array.replicate 378 none
  statics := none }

def pool14 : Array CpInfo := pool [(1, u "java/lang/Cloneable"), (0, .class_ 1), (0, u "java/lang/Object"), (0, .class_ 3)] 3

/-- java/lang/Cloneable -/
def k14 : Class := { plain "java/lang/Cloneable" (some 0) with
  accessFlags := 1537
  interfaces := #[]
  cf := some (fileOf pool14 2 #[] #[] 1537 4 #[] #[])
  fields := #[]
  methods := #[]
  instanceTypes := #[]
  staticTypes := #[]
  resolved := Array.replicate 8 none
  statics := none }

/-- the primitive byte -/
def k15 : Class := { plain "byte" none with kind := .primitive 'B', accessFlags := 0x411 }
/-- [B -/
def k16 : Class := { plain "[B" (some 0) with kind := .array 15 .byte, interfaces := #[14, 2], accessFlags := 1041 }

/-- the primitive char -/
def k17 : Class := { plain "char" none with kind := .primitive 'C', accessFlags := 0x411 }
/-- [C -/
def k18 : Class := { plain "[C" (some 0) with kind := .array 17 .char, interfaces := #[14, 2], accessFlags := 1041 }

/-- the primitive int -/
def k19 : Class := { plain "int" none with kind := .primitive 'I', accessFlags := 0x411 }
/-- [I -/
def k20 : Class := { plain "[I" (some 0) with kind := .array 19 .int, interfaces := #[14, 2], accessFlags := 1041 }

def heap : Heap := #[{ cls := 7, slots := #[.long 0, .int 1, .null, .int 0, .null, .int 0, .int 0], vm := .statics 7 },
  { cls := 12, slots := #[.null, .null, .null], vm := .statics 12 }]
def classes : Array Class := #[k0, k1, k2, k3, k4, k5, k6, k7, k8, k9, k10, k11, k12, k13, k14, k15, k16, k17, k18, k19, k20]
def interned : List (Array UInt16 × Addr) := []
def slotsUsed : Nat := 10
def theMethod : MethodId := ⟨1, 6⟩
def args0 : Array Value := #[.int 0, .int 1, .int 65, .int 2]
def aboutOver (below : List Frame) : State where
  vm := { classes := classes, interned := interned.toArray }
  heap := heap
  slotsUsed := slotsUsed
  threads := #[{ frames := .invoking theMethod args0 :: below }]
def below0 : List Frame := [.native { method := ⟨0, 0⟩, args := #[] }]
def about1 : State := aboutOver below0
def p0 : Program := .bare "" "" ""
def e0 : Env := launch0.env 0 0 0
theorem w_frames : about1.frames = Frame.invoking theMethod args0 :: below0 := rfl
set_option maxRecDepth 65536 in
theorem w_args : argsFit about1.vm theMethod args0 = true := by decide +kernel
set_option maxRecDepth 65536 in
theorem w_heap : heapFits about1 = true := by decide +kernel
set_option maxRecDepth 65536 in
theorem w_runnable : about1.curStatus? = some .runnable := by decide +kernel
set_option maxRecDepth 65536 in
theorem w_alone : about1.alone = true := by decide +kernel
set_option maxRecDepth 65536 in
theorem w_named : about1.methodNamed? x = some theMethod := by decide +kernel
set_option maxRecDepth 65536 in
theorem w_hears : about1.hears theMethod below0 = true := by decide +kernel
set_option maxRecDepth 65536 in
theorem w_ripe : about1.ripe theMethod args0 below0 = true := by decide +kernel
theorem w_running : about1.status = .running := rfl
set_option maxRecDepth 65536 in
theorem w_room : about1.hasRoom e0.platform room_1 = true :=
  launch0.hasRoom_least _ room_1 (by decide +kernel) (by decide +kernel) (by decide +kernel) (by decide +kernel) (by decide +kernel) (by decide +kernel)
theorem allAtoms_all (ts : List Jvm.Cond) (a : Array Jvm.Value) (st : Jvm.State) : (allAtoms ts).before a st = ts.all (fun c => c.before a st) := by
  induction ts with
  | nil => rfl
  | cons c t ih =>
    show (Jvm.Cond.and c (allAtoms t)).before a st = _
    rw [Jvm.Cond.before_and, ih, List.all_cons]
def words1 : List Jvm.Cond := Jvm.Cond.code x code maxLocals ret :: tables_1
/-- a 'code' word, met by the world's own term for the bytes: nothing is compared byte by byte -/
theorem code_word {y : MethodName} {bytes : ByteArray} {mx : Nat} {rt : Option FieldType} {a : Array Value} {s : State} {m : MethodId} {meth : Method} {c : Code} (h1 : s.methodNamed? y = some m) (h2 : s.vm.method? m = some meth) (h3 : meth.code = some c) (h4 : c.code = bytes)
    (h5 : (c.maxLocals == mx && c.exceptionTable.isEmpty && decide (c.maxStack ≤ mostOperands) && decide (meth.sig.returnType = rt) && !meth.locks && decide (parseMethodDescriptor y.desc = some meth.sig)) = true) : (Jvm.Cond.code y bytes mx rt).before a s = true := by
  simp only [Bool.and_eq_true, beq_iff_eq, Bool.not_eq_true', decide_eq_true_eq] at h5
  obtain ⟨⟨⟨⟨⟨g1, g2⟩, g3⟩, g4⟩, g5⟩, g6⟩ := h5
  simp [Cond.before, Cond.holds, Cond.value, h1, h2, h3, h4, g1, g2, g3, g4, g5, g6]
def isCode : Jvm.Cond → Bool
  | .code _ _ _ _ => true
  | _ => false
theorem all_split {L : List Jvm.Cond} {P : Jvm.Cond → Bool} (h1 : L.all (fun c => isCode c || P c) = true) (h2 : ∀ c ∈ L.filter isCode, P c = true) : L.all P = true := by
  refine List.all_eq_true.mpr fun c hc => ?_
  have h := List.all_eq_true.mp h1 c hc
  rcases Bool.eq_false_or_eq_true (isCode c) with hi | hi
  · exact h2 c (List.mem_filter.mpr ⟨hc, hi⟩)
  · simpa [hi] using h
set_option maxRecDepth 65536 in
theorem w_c0 : (Jvm.Cond.code x code maxLocals ret).before args0 about1 = true := code_word (m := ⟨1, 6⟩) (meth := k1m6) (c := k1c6) (by decide +kernel) rfl rfl rfl (by decide +kernel)
set_option maxRecDepth 65536 in
theorem w_c1 : (Jvm.Cond.code ({ cls := "com/example/extlint/extlint/model/ExtensionNamesListPinLaw", name := "ext", desc := "()[C" } : Jvm.MethodName) method_2_code (0 : Nat) (Option.some (Jvm.ClassFile.FieldType.array Jvm.ClassFile.FieldType.char))).before args0 about1 = true := code_word (m := ⟨1, 1⟩) (meth := k1m1) (c := k1c1) (by decide +kernel) rfl rfl rfl (by decide +kernel)
set_option maxRecDepth 65536 in
theorem w_c2 : (Jvm.Cond.code ({ cls := "java/lang/String", name := "<init>", desc := "([C)V" } : Jvm.MethodName) jdk_42_method_3_code (2 : Nat) (Option.none : Option Jvm.ClassFile.FieldType)).before args0 about1 = true := code_word (m := ⟨7, 1⟩) (meth := k7m1) (c := k7c1) (by decide +kernel) rfl rfl rfl (by decide +kernel)
set_option maxRecDepth 65536 in
theorem w_c3 : (Jvm.Cond.code ({ cls := "java/lang/String", name := "<init>", desc := "([CIILjava/lang/Void;)V" } : Jvm.MethodName) jdk_42_method_149_code (6 : Nat) (Option.none : Option Jvm.ClassFile.FieldType)).before args0 about1 = true := code_word (m := ⟨7, 3⟩) (meth := k7m3) (c := k7c3) (by decide +kernel) rfl rfl rfl (by decide +kernel)
set_option maxRecDepth 65536 in
theorem w_c4 : (Jvm.Cond.code ({ cls := "java/lang/Object", name := "<init>", desc := "()V" } : Jvm.MethodName) object_method_1_code (1 : Nat) (Option.none : Option Jvm.ClassFile.FieldType)).before args0 about1 = true := code_word (m := ⟨0, 0⟩) (meth := k0m0) (c := k0c0) (by decide +kernel) rfl rfl rfl (by decide +kernel)
set_option maxRecDepth 65536 in
theorem w_c5 : (Jvm.Cond.code ({ cls := "java/lang/StringUTF16", name := "compress", desc := "([CII)[B" } : Jvm.MethodName) jdk_52_method_16_code (6 : Nat) (Option.some (Jvm.ClassFile.FieldType.array Jvm.ClassFile.FieldType.byte))).before args0 about1 = true := code_word (m := ⟨8, 2⟩) (meth := k8m2) (c := k8c2) (by decide +kernel) rfl rfl rfl (by decide +kernel)
set_option maxRecDepth 65536 in
theorem w_c6 : (Jvm.Cond.code ({ cls := "java/lang/StringUTF16", name := "compress", desc := "([CI[BII)I" } : Jvm.MethodName) jdk_52_method_21_code (7 : Nat) (Option.some Jvm.ClassFile.FieldType.int)).before args0 about1 = true := code_word (m := ⟨8, 3⟩) (meth := k8m3) (c := k8c3) (by decide +kernel) rfl rfl rfl (by decide +kernel)
set_option maxRecDepth 65536 in
theorem w_c7 : (Jvm.Cond.code ({ cls := "java/lang/StringUTF16", name := "coderFromArrayLen", desc := "([BI)B" } : Jvm.MethodName) jdk_52_method_15_code (2 : Nat) (Option.some Jvm.ClassFile.FieldType.byte)).before args0 about1 = true := code_word (m := ⟨8, 1⟩) (meth := k8m1) (c := k8c1) (by decide +kernel) rfl rfl rfl (by decide +kernel)
set_option maxRecDepth 65536 in
theorem w_c8 : (Jvm.Cond.code ({ cls := "com/example/extlint/extlint/model/Extension", name := "namesList", desc := "(Ljava/lang/String;)Z" } : Jvm.MethodName) prog_29_method_6_code (1 : Nat) (Option.some Jvm.ClassFile.FieldType.boolean)).before args0 about1 = true := code_word (m := ⟨10, 0⟩) (meth := k10m0) (c := k10c0) (by decide +kernel) rfl rfl rfl (by decide +kernel)
set_option maxRecDepth 65536 in
theorem w_c9 : (Jvm.Cond.code ({ cls := "java/lang/String", name := "equals", desc := "(Ljava/lang/Object;)Z" } : Jvm.MethodName) jdk_42_method_66_code (3 : Nat) (Option.some Jvm.ClassFile.FieldType.boolean)).before args0 about1 = true := code_word (m := ⟨7, 2⟩) (meth := k7m2) (c := k7c2) (by decide +kernel) rfl rfl rfl (by decide +kernel)
set_option maxRecDepth 65536 in
theorem w_c10 : (Jvm.Cond.code ({ cls := "java/lang/StringLatin1", name := "equals", desc := "([B[B)Z" } : Jvm.MethodName) jdk_43_method_13_code (3 : Nat) (Option.some Jvm.ClassFile.FieldType.boolean)).before args0 about1 = true := code_word (m := ⟨11, 1⟩) (meth := k11m1) (c := k11c1) (by decide +kernel) rfl rfl rfl (by decide +kernel)
set_option maxRecDepth 65536 in
theorem w_c11 : (Jvm.Cond.code ({ cls := "com/example/extlint/extlint/model/ExtensionNamesListPinLaw", name := "near", desc := "(I)Ljava/lang/String;" } : Jvm.MethodName) method_6_code (1 : Nat) (Option.some (Jvm.ClassFile.FieldType.object "java/lang/String"))).before args0 about1 = true := code_word (m := ⟨1, 5⟩) (meth := k1m5) (c := k1c5) (by decide +kernel) rfl rfl rfl (by decide +kernel)
set_option maxRecDepth 65536 in
theorem w_c12 : (Jvm.Cond.code ({ cls := "com/example/extlint/extlint/model/ExtensionNamesListPinLaw", name := "mod", desc := "()[C" } : Jvm.MethodName) method_3_code (0 : Nat) (Option.some (Jvm.ClassFile.FieldType.array Jvm.ClassFile.FieldType.char))).before args0 about1 = true := code_word (m := ⟨1, 2⟩) (meth := k1m2) (c := k1c2) (by decide +kernel) rfl rfl rfl (by decide +kernel)
set_option maxRecDepth 65536 in
theorem w_c13 : (Jvm.Cond.code ({ cls := "com/example/extlint/extlint/model/ExtensionNamesListPinLaw", name := "extPlus", desc := "()[C" } : Jvm.MethodName) method_4_code (0 : Nat) (Option.some (Jvm.ClassFile.FieldType.array Jvm.ClassFile.FieldType.char))).before args0 about1 = true := code_word (m := ⟨1, 3⟩) (meth := k1m3) (c := k1c3) (by decide +kernel) rfl rfl rfl (by decide +kernel)
set_option maxRecDepth 65536 in
theorem w_c14 : (Jvm.Cond.code ({ cls := "com/example/extlint/extlint/model/ExtensionNamesListPinLaw", name := "modPlus", desc := "()[C" } : Jvm.MethodName) method_5_code (0 : Nat) (Option.some (Jvm.ClassFile.FieldType.array Jvm.ClassFile.FieldType.char))).before args0 about1 = true := code_word (m := ⟨1, 4⟩) (meth := k1m4) (c := k1c4) (by decide +kernel) rfl rfl rfl (by decide +kernel)
def codes1 : List Jvm.Cond := [Jvm.Cond.code x code maxLocals ret, Jvm.Cond.code ({ cls := "com/example/extlint/extlint/model/ExtensionNamesListPinLaw", name := "ext", desc := "()[C" } : Jvm.MethodName) method_2_code (0 : Nat) (Option.some (Jvm.ClassFile.FieldType.array Jvm.ClassFile.FieldType.char)), Jvm.Cond.code ({ cls := "java/lang/String", name := "<init>", desc := "([C)V" } : Jvm.MethodName) jdk_42_method_3_code (2 : Nat) (Option.none : Option Jvm.ClassFile.FieldType), Jvm.Cond.code ({ cls := "java/lang/String", name := "<init>", desc := "([CIILjava/lang/Void;)V" } : Jvm.MethodName) jdk_42_method_149_code (6 : Nat) (Option.none : Option Jvm.ClassFile.FieldType), Jvm.Cond.code ({ cls := "java/lang/Object", name := "<init>", desc := "()V" } : Jvm.MethodName) object_method_1_code (1 : Nat) (Option.none : Option Jvm.ClassFile.FieldType), Jvm.Cond.code ({ cls := "java/lang/StringUTF16", name := "compress", desc := "([CII)[B" } : Jvm.MethodName) jdk_52_method_16_code (6 : Nat) (Option.some (Jvm.ClassFile.FieldType.array Jvm.ClassFile.FieldType.byte)), Jvm.Cond.code ({ cls := "java/lang/StringUTF16", name := "compress", desc := "([CI[BII)I" } : Jvm.MethodName) jdk_52_method_21_code (7 : Nat) (Option.some Jvm.ClassFile.FieldType.int), Jvm.Cond.code ({ cls := "java/lang/StringUTF16", name := "coderFromArrayLen", desc := "([BI)B" } : Jvm.MethodName) jdk_52_method_15_code (2 : Nat) (Option.some Jvm.ClassFile.FieldType.byte), Jvm.Cond.code ({ cls := "com/example/extlint/extlint/model/Extension", name := "namesList", desc := "(Ljava/lang/String;)Z" } : Jvm.MethodName) prog_29_method_6_code (1 : Nat) (Option.some Jvm.ClassFile.FieldType.boolean), Jvm.Cond.code ({ cls := "java/lang/String", name := "equals", desc := "(Ljava/lang/Object;)Z" } : Jvm.MethodName) jdk_42_method_66_code (3 : Nat) (Option.some Jvm.ClassFile.FieldType.boolean), Jvm.Cond.code ({ cls := "java/lang/StringLatin1", name := "equals", desc := "([B[B)Z" } : Jvm.MethodName) jdk_43_method_13_code (3 : Nat) (Option.some Jvm.ClassFile.FieldType.boolean), Jvm.Cond.code ({ cls := "com/example/extlint/extlint/model/ExtensionNamesListPinLaw", name := "near", desc := "(I)Ljava/lang/String;" } : Jvm.MethodName) method_6_code (1 : Nat) (Option.some (Jvm.ClassFile.FieldType.object "java/lang/String")), Jvm.Cond.code ({ cls := "com/example/extlint/extlint/model/ExtensionNamesListPinLaw", name := "mod", desc := "()[C" } : Jvm.MethodName) method_3_code (0 : Nat) (Option.some (Jvm.ClassFile.FieldType.array Jvm.ClassFile.FieldType.char)), Jvm.Cond.code ({ cls := "com/example/extlint/extlint/model/ExtensionNamesListPinLaw", name := "extPlus", desc := "()[C" } : Jvm.MethodName) method_4_code (0 : Nat) (Option.some (Jvm.ClassFile.FieldType.array Jvm.ClassFile.FieldType.char)), Jvm.Cond.code ({ cls := "com/example/extlint/extlint/model/ExtensionNamesListPinLaw", name := "modPlus", desc := "()[C" } : Jvm.MethodName) method_5_code (0 : Nat) (Option.some (Jvm.ClassFile.FieldType.array Jvm.ClassFile.FieldType.char))]
set_option maxRecDepth 65536 in
theorem codes_eq : words1.filter isCode = codes1 := rfl
theorem w_codes : ∀ c ∈ words1.filter isCode, c.before args0 about1 = true := by
  rw [codes_eq]
  intro c hc
  simp only [codes1, List.mem_cons, List.not_mem_nil, or_false] at hc
  rcases hc with rfl | rfl | rfl | rfl | rfl | rfl | rfl | rfl | rfl | rfl | rfl | rfl | rfl | rfl | rfl
  · exact w_c0
  · exact w_c1
  · exact w_c2
  · exact w_c3
  · exact w_c4
  · exact w_c5
  · exact w_c6
  · exact w_c7
  · exact w_c8
  · exact w_c9
  · exact w_c10
  · exact w_c11
  · exact w_c12
  · exact w_c13
  · exact w_c14
set_option maxRecDepth 65536 in
theorem w_t1 : (words1.take 24).all (fun c => isCode c || c.before args0 about1) = true := by decide +kernel
set_option maxRecDepth 65536 in
theorem w_t2 : ((words1.drop 24).take 24).all (fun c => isCode c || c.before args0 about1) = true := by decide +kernel
set_option maxRecDepth 65536 in
theorem w_t3 : (((words1.drop 24).drop 24).take 24).all (fun c => isCode c || c.before args0 about1) = true := by decide +kernel
set_option maxRecDepth 65536 in
theorem w_t4 : (((words1.drop 24).drop 24).drop 24).all (fun c => isCode c || c.before args0 about1) = true := by decide +kernel
theorem w_tables : (allAtoms (Jvm.Cond.code x code maxLocals ret :: tables_1)).before args0 about1 = true := by
  rw [allAtoms_all]
  show words1.all (fun c => c.before args0 about1) = true
  refine all_split ?_ w_codes
  rw [← List.take_append_drop 24 words1, List.all_append, w_t1, ← List.take_append_drop 24 (words1.drop 24), List.all_append, w_t2, ← List.take_append_drop 24 ((words1.drop 24).drop 24), List.all_append, w_t3, w_t4]
  rfl
set_option maxRecDepth 65536 in
theorem w_rest : rest_1_c.before args0 about1 = true := by decide +kernel
set_option maxRecDepth 65536 in
theorem w_case : (Jvm.Cond.and given_1 narrow_1).before args0 about1 = true := by decide +kernel
set_option maxRecDepth 65536 in
theorem w_consts : constsHeld consts_1 about1 := Jvm.Lit.constsHeldB_iff.mp (by decide +kernel)
theorem w_applies : (headSpec (Jvm.Cond.code x code maxLocals ret :: tables_1) room_1).applies x e0.platform about1 = true :=
  (Spec.applies_iff w_frames).mpr ⟨w_running, w_runnable, w_alone, w_named, w_hears, w_ripe, w_room, w_tables⟩
theorem atStart : AtStart classFile x code maxLocals ret World_1 tables_1 room_1 Calls_1 rest_1 Pre_1 launch0 p0 e0 about1 theMethod args0 below0 :=
  ⟨lists_1, trivial, launch0.admits_env _ _ _, launch0.least_env, fairChoices_fair.cas, fairChoices_fair.clock, w_frames, w_args, w_heap, w_applies, ⟨w_consts, trivial⟩, w_rest, w_case⟩
end start1
theorem witness_1 : WitnessClaimed_1 := ⟨start1.p0, start1.e0, start1.about1, start1.theMethod, start1.args0, start1.below0, start1.atStart⟩
end Jvm.Pilot.@@N@@
