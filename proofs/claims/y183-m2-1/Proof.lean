import JvmDerived
import JvmDerived.Pilot.@@N@@Statement
import JvmDerived.Pilot.@@N@@Code
set_option linter.unusedVariables false
set_option linter.unusedSimpArgs false
/- laws to paste: Road.backV (cut by pick.py; bodies as the Statement names them) -/
namespace Jvm.Pilot.@@N@@
namespace StrChars
open Jvm Sem ClassFile Op Lib Jvm.Stand Jvm.Free.XT Jvm.Free.ALB Jvm.Free.JM Jvm.Free
open Jvm.Lib.Cold (StaticIs)
/-- a char array whose places are chars -/
def Ch (a : Addr) (A : Cell) (U : State) : Prop := Arr .char a A U ∧ Typed .char A
theorem Ch.mv {a : Addr} {A : Cell} {U U' : State} (h : Ch a A U) (hal : U.vm.Alike U'.vm) (hh : U'.heap = U.heap) : Ch a A U' := ⟨h.1.mv hal hh, h.2⟩
theorem Ch.keep {a : Addr} {A : Cell} {U U' : State} (h : Ch a A U) (hal : U.vm.Alike U'.vm) (hk : U'.heap[a]? = some A) : Ch a A U' := ⟨h.1.keep hal hk, h.2⟩
/-- what place i of a char[]'s cell holds -/
def cv (A : Cell) (i : Nat) : Int32 := match A.slots[i]? with | some (.int x) => x | _ => 0
theorem Ch.get {a : Addr} {A : Cell} {U : State} (h : Ch a A U) {i : Nat} (hi : i < A.slots.size) : A.slots[i]? = some (.int (cv A i)) := by
  have e := Array.getElem?_eq_getElem hi
  have f := h.2 i _ e
  unfold cv; rw [e]
  generalize A.slots[i] = v at f
  cases v <;> simp [fits] at f ⊢
/-- the byte that i2b leaves of a char -/
def lo8 (x : Int32) : Int32 := x.toInt8.toInt32
theorem fits_lo8 (y : Int32) : fits .byte (.int (lo8 y)) = true := by
  have h1 := y.toInt8.le_toInt
  have h2 := y.toInt8.toInt_lt
  simp only [lo8, fits, Bool.and_eq_true, decide_eq_true_eq, Int32.le_iff_toInt_le, Int8.toInt_toInt32, show (-128 : Int32).toInt = -128 from by decide, show (127 : Int32).toInt = 127 from by decide]
  omega
/-- A' is A but that each place j of lo .. hi - 1 holds f j -/
def Laid (A A' : Cell) (lo hi : Nat) (f : Nat → Value) : Prop := A'.cls = A.cls ∧ A'.vm = A.vm ∧ A'.slots.size = A.slots.size ∧ ∀ i, A'.slots[i]? = if lo ≤ i ∧ i < hi then some (f i) else A.slots[i]?
theorem Laid.zero (A : Cell) (lo : Nat) (f : Nat → Value) : Laid A A lo (lo + 0) f := ⟨rfl, rfl, rfl, fun i => by rw [if_neg (by omega)]⟩
theorem Laid.step {A Ak : Cell} {lo k : Nat} {f : Nat → Value} {v : Value} (h : Laid A Ak lo k f) (hlo : lo ≤ k) (hk : k < Ak.slots.size) (hv : v = f k) : Laid A (Ak.setSlot k v) lo (k + 1) f := by
  refine ⟨h.1, h.2.1, by simpa [Cell.setSlot] using h.2.2.1, fun i => ?_⟩
  by_cases e : k = i
  · subst e; rw [Cell.slots_setSlot_self v hk, if_pos (by omega), hv]
  · rw [Cell.slots_setSlot_ne v e, h.2.2.2 i]
    by_cases q : lo ≤ i ∧ i < k
    · rw [if_pos q, if_pos (by omega)]
    · rw [if_neg q, if_neg (by omega)]
def U16 : String := "java/lang/StringUTF16"
namespace Cmp5
def yN : MethodName := ⟨"java/lang/StringUTF16", "compress", "([CI[BII)I"⟩
abbrev yB : ByteArray := jdk_52_method_21_code
theorem d0 : decode yB 0 = .ok (.iconst 0, 1) := by decide +kernel
theorem d1 : decode yB 1 = .ok (.istore 5, 2) := by decide +kernel
theorem d3 : decode yB 3 = .ok (.iload 5, 2) := by decide +kernel
theorem d5 : decode yB 5 = .ok (.iload 4, 2) := by decide +kernel
theorem d7 : decode yB 7 = .ok (.if_icmp (.ge) 37, 3) := by decide +kernel
theorem d10 : decode yB 10 = .ok (.aload_n 0, 1) := by decide +kernel
theorem d11 : decode yB 11 = .ok (.iload_n 1, 1) := by decide +kernel
theorem d12 : decode yB 12 = .ok (.caload, 1) := by decide +kernel
theorem d13 : decode yB 13 = .ok (.istore 6, 2) := by decide +kernel
theorem d15 : decode yB 15 = .ok (.iload 6, 2) := by decide +kernel
theorem d17 : decode yB 17 = .ok (.sipush 255, 3) := by decide +kernel
theorem d20 : decode yB 20 = .ok (.if_icmp (.le) 6, 3) := by decide +kernel
theorem d26 : decode yB 26 = .ok (.aload_n 2, 1) := by decide +kernel
theorem d27 : decode yB 27 = .ok (.iload_n 3, 1) := by decide +kernel
theorem d28 : decode yB 28 = .ok (.iload 6, 2) := by decide +kernel
theorem d30 : decode yB 30 = .ok (.i2b, 1) := by decide +kernel
theorem d31 : decode yB 31 = .ok (.bastore, 1) := by decide +kernel
theorem d32 : decode yB 32 = .ok (.iinc 1 1, 3) := by decide +kernel
theorem d35 : decode yB 35 = .ok (.iinc 3 1, 3) := by decide +kernel
theorem d38 : decode yB 38 = .ok (.iinc 5 1, 3) := by decide +kernel
theorem d41 : decode yB 41 = .ok (.goto (-38), 3) := by decide +kernel
theorem d44 : decode yB 44 = .ok (.iload 4, 2) := by decide +kernel
theorem d46 : decode yB 46 = .ok (.ireturn, 1) := by decide +kernel
def site : List Cond := []
def tab : Cond := tabOf yN yB 7 (some .int) site
def P (b : Addr) (A : Cell) (d : Addr) (B : Cell) (o q len : Nat) (args : Array Value) (s : State) : Prop := args = #[.ref b, .int (Int32.ofNat o), .ref d, .int (Int32.ofNat q), .int (Int32.ofNat len)] ∧ Ch b A s ∧ Arr .byte d B s ∧ b ≠ d ∧ o + len ≤ A.slots.size ∧ q + len ≤ B.slots.size ∧ ∀ i, i < len → ¬ 255 < cv A (o + i)
def E (b : Addr) (A : Cell) (d : Addr) (B : Cell) (o q len : Nat) (r : Option Value) (s u : State) : Prop := r = some (.int (Int32.ofNat len)) ∧ ∃ B', Put d B' s u ∧ Laid B B' q (q + len) (fun j => Value.int (lo8 (cv A (o + (j - q)))))
/-- no char of the range above 255: len; the places written hold each char's low byte -/
theorem law (l : Launch) (b : Addr) (A : Cell) (d : Addr) (B : Cell) (o q len : Nat) : Law l yN 5 5 0 0 yB 7 (some .int) site (P b A d B o q len) (E b A d B o q len) (copyLocs d q len) 0 0 := by
  refine Law.of_walk (plainFor_of_name (by decide +kernel)) (by decide +kernel) (by decide +kernel) (by decide) (fun _ _ h => by rw [h.1]; rfl) (fun _ U U' hal hh h => ⟨h.1, h.2.1.mv hal hh, h.2.2.1.mv hal hh, h.2.2.2⟩) (fun r U U' V V' h1 hal h2 h => ⟨h.1, h.2.elim fun B' q => ⟨B', q.1.mv h1 h2, q.2⟩⟩) ?_
  intro p e s m args below meth c s₁ X0 hexec hbytes hml hret hlk hnm hown hh0 W hP
  obtain ⟨rfl, hA, hB, hne, l1, l2, hp⟩ := hP
  have c1 : Steps p.tables e below (s₁.setTop (entryFrame m #[.ref b, .int (Int32.ofNat o), .ref d, .int (Int32.ofNat q), .int (Int32.ofNat len)] 7)) (s₁.setTop (mkF m 0 #[.val (.ref b), .val (.int (Int32.ofNat o)), .val (.ref d), .val (.int (Int32.ofNat q)), .val (.int (Int32.ofNat len)), .unset, .unset] [])) := entry rfl
  have hA0 := hA.1.mv X0.warmed.alike hh0
  have hB0 := hB.mv X0.warmed.alike hh0
  have a31 := hA.1.2.2.2
  have c2 : Steps p.tables e below (s₁.setTop (entryFrame m #[.ref b, .int (Int32.ofNat o), .ref d, .int (Int32.ofNat q), .int (Int32.ofNat len)] 7)) (s₁.setTop (mkF m 3 #[.val (.ref b), .val (.int (Int32.ofNat o)), .val (.ref d), .val (.int (Int32.ofNat q)), .val (.int (Int32.ofNat len)), .val (.int 0), .unset] [])) := c1.trans (by
    refine iconstV X0.here hexec rfl 0 (hb hbytes d0) (by decide) ?_
    refine XS.istore X0.here hexec rfl (hb hbytes d1) rfl rfl ?_
    exact Steps.refl _)
  have loop : ∀ (r i : Nat), i + r = len → ∀ (z : Slot), (z = .unset ∨ ∃ w, z = .val w ∧ w.category = 1) → ∀ (Tl : State) (Bk : Cell), Stand p l e { frames := 0, locals := 0, cells := 0, slots := 0 } s m #[.ref b, .int (Int32.ofNat o), .ref d, .int (Int32.ofNat q), .int (Int32.ofNat len)] below meth c Tl ([] ++ copyLocs d q i) 0 0 → Put d Bk s₁ Tl → Laid B Bk q (q + i) (fun j => Value.int (lo8 (cv A (o + (j - q))))) →
      Steps p.tables e below (s₁.setTop (entryFrame m #[.ref b, .int (Int32.ofNat o), .ref d, .int (Int32.ofNat q), .int (Int32.ofNat len)] 7)) (Tl.setTop (mkF m 3 #[.val (.ref b), .val (.int (Int32.ofNat (o + i))), .val (.ref d), .val (.int (Int32.ofNat (q + i))), .val (.int (Int32.ofNat len)), .val (.int (Int32.ofNat i)), z] [])) → ∃ (T' : State) (B' : Cell) (z' : Slot), Stand p l e { frames := 0, locals := 0, cells := 0, slots := 0 } s m #[.ref b, .int (Int32.ofNat o), .ref d, .int (Int32.ofNat q), .int (Int32.ofNat len)] below meth c T' ([] ++ copyLocs d q len) 0 0 ∧ Put d B' s₁ T' ∧ Laid B B' q (q + len) (fun j => Value.int (lo8 (cv A (o + (j - q))))) ∧
      Steps p.tables e below (s₁.setTop (entryFrame m #[.ref b, .int (Int32.ofNat o), .ref d, .int (Int32.ofNat q), .int (Int32.ofNat len)] 7)) (T'.setTop (mkF m 3 #[.val (.ref b), .val (.int (Int32.ofNat (o + len))), .val (.ref d), .val (.int (Int32.ofNat (q + len))), .val (.int (Int32.ofNat len)), .val (.int (Int32.ofNat len)), z'] [])) := by
    intro r
    induction r with
    | zero =>
      intro i hi z hz Tl Bk Xl pl fl cl
      have hil : i = len := by omega
      rw [hil] at Xl fl cl
      exact ⟨Tl, Bk, z, Xl, pl, fl, cl⟩
    | succ r ih =>
      intro i hi z hz Tl Bk Xl pl fl cl
      have all := X0.warmed.alike.symm.trans Xl.warmed.alike
      have hAl := hA0.keep all (pl.other hne hA0.1)
      have hBk := hB0.like all pl.1 fl.1 fl.2.1 fl.2.2.1
      have hlt : q + i < Bk.slots.size := by rw [fl.2.2.1]; omega
      have c3 : Steps p.tables e below (s₁.setTop (entryFrame m #[.ref b, .int (Int32.ofNat o), .ref d, .int (Int32.ofNat q), .int (Int32.ofNat len)] 7)) (Tl.setTop (mkF m 12 #[.val (.ref b), .val (.int (Int32.ofNat (o + i))), .val (.ref d), .val (.int (Int32.ofNat (q + i))), .val (.int (Int32.ofNat len)), .val (.int (Int32.ofNat i)), z] [.int (Int32.ofNat (o + i)), .ref b])) := cl.trans (by
        refine XS.iload Xl.here hexec rfl (hb hbytes d3) rfl ?_
        refine XS.iload Xl.here hexec rfl (hb hbytes d5) rfl ?_
        refine XS.icmpNo Xl.here hexec rfl (hb hbytes d7) rfl (ii_ge_f (lt32 (by omega) (by omega))) ?_
        refine XS.aloadN Xl.here hexec rfl (hb hbytes d10) rfl rfl ?_
        refine XS.iloadN Xl.here hexec rfl (hb hbytes d11) rfl ?_
        exact Steps.refl _)
      have c4 : Steps p.tables e below (s₁.setTop (entryFrame m #[.ref b, .int (Int32.ofNat o), .ref d, .int (Int32.ofNat q), .int (Int32.ofNat len)] 7)) (Tl.setTop (mkF m 13 #[.val (.ref b), .val (.int (Int32.ofNat (o + i))), .val (.ref d), .val (.int (Int32.ofNat (q + i))), .val (.int (Int32.ofNat len)), .val (.int (Int32.ofNat i)), z] [.int (cv A (o + i))])) := c3.trans (by
        refine Xl.aget hexec hAl rfl (hA.get (i := o + i) (by omega)) rfl rfl (hb hbytes d12) ?_
        exact Steps.refl _)
      have c5 : Steps p.tables e below (s₁.setTop (entryFrame m #[.ref b, .int (Int32.ofNat o), .ref d, .int (Int32.ofNat q), .int (Int32.ofNat len)] 7)) (Tl.setTop (mkF m 15 #[.val (.ref b), .val (.int (Int32.ofNat (o + i))), .val (.ref d), .val (.int (Int32.ofNat (q + i))), .val (.int (Int32.ofNat len)), .val (.int (Int32.ofNat i)), .val (.int (cv A (o + i)))] [])) := c4.trans (by
        refine XS.istoreS Xl.here hexec rfl (hb hbytes d13) rfl rfl hz ?_
        exact Steps.refl _)
      have c6 : Steps p.tables e below (s₁.setTop (entryFrame m #[.ref b, .int (Int32.ofNat o), .ref d, .int (Int32.ofNat q), .int (Int32.ofNat len)] 7)) (Tl.setTop (mkF m 31 #[.val (.ref b), .val (.int (Int32.ofNat (o + i))), .val (.ref d), .val (.int (Int32.ofNat (q + i))), .val (.int (Int32.ofNat len)), .val (.int (Int32.ofNat i)), .val (.int (cv A (o + i)))] [.int (lo8 (cv A (o + i))), .int (Int32.ofNat (q + i)), .ref d])) := c5.trans (by
        refine XS.iload Xl.here hexec rfl (hb hbytes d15) rfl ?_
        refine sipushV Xl.here hexec rfl 255 (hb hbytes d17) (by decide) ?_
        refine XS.icmpYes Xl.here hexec rfl (pc0 := 20) rfl (hb hbytes d20) rfl (ii_le_t (hp i (by omega))) (by decide) rfl ?_
        refine XS.aloadN Xl.here hexec rfl (hb hbytes d26) rfl rfl ?_
        refine XS.iloadN Xl.here hexec rfl (hb hbytes d27) rfl ?_
        refine XS.iload Xl.here hexec rfl (hb hbytes d28) rfl ?_
        refine i2b Xl.here hexec rfl (hb hbytes d30) rfl ?_
        exact Steps.refl _)
      obtain ⟨T7, X7, p7, st7⟩ := Xl.aput hexec hBk rfl hlt rfl (fits_lo8 (cv A (o + i))) (g := (mkF m 31 #[.val (.ref b), .val (.int (Int32.ofNat (o + i))), .val (.ref d), .val (.int (Int32.ofNat (q + i))), .val (.int (Int32.ofNat len)), .val (.int (Int32.ofNat i)), .val (.int (cv A (o + i)))] [.int (lo8 (cv A (o + i))), .int (Int32.ofNat (q + i)), .ref d])) rfl (rest := []) rfl (hb hbytes d31)
      have c8 : Steps p.tables e below (s₁.setTop (entryFrame m #[.ref b, .int (Int32.ofNat o), .ref d, .int (Int32.ofNat q), .int (Int32.ofNat len)] 7)) (T7.setTop (mkF m 32 #[.val (.ref b), .val (.int (Int32.ofNat (o + i))), .val (.ref d), .val (.int (Int32.ofNat (q + i))), .val (.int (Int32.ofNat len)), .val (.int (Int32.ofNat i)), .val (.int (cv A (o + i)))] [])) := c6.trans (st7 _ (Steps.refl _))
      have c9 : Steps p.tables e below (s₁.setTop (entryFrame m #[.ref b, .int (Int32.ofNat o), .ref d, .int (Int32.ofNat q), .int (Int32.ofNat len)] 7)) (T7.setTop (mkF m 3 #[.val (.ref b), .val (.int (Int32.ofNat (o + i) + 1)), .val (.ref d), .val (.int (Int32.ofNat (q + i) + 1)), .val (.int (Int32.ofNat len)), .val (.int (Int32.ofNat i + 1)), .val (.int (cv A (o + i)))] [])) := c8.trans (by
        refine iincV X7.here hexec rfl 1 (hb hbytes d32) (by decide) rfl rfl ?_
        refine iincV X7.here hexec rfl 1 (hb hbytes d35) (by decide) rfl rfl ?_
        refine iincV X7.here hexec rfl 1 (hb hbytes d38) (by decide) rfl rfl ?_
        refine XS.goto X7.here hexec rfl (pc0 := 41) rfl (hb hbytes d41) (by decide) rfl ?_
        exact Steps.refl _)
      have c10 : Steps p.tables e below (s₁.setTop (entryFrame m #[.ref b, .int (Int32.ofNat o), .ref d, .int (Int32.ofNat q), .int (Int32.ofNat len)] 7)) (T7.setTop (mkF m 3 #[.val (.ref b), .val (.int (Int32.ofNat (o + (i + 1)))), .val (.ref d), .val (.int (Int32.ofNat (q + (i + 1)))), .val (.int (Int32.ofNat len)), .val (.int (Int32.ofNat (i + 1))), .val (.int (cv A (o + i)))] [])) := by
        have := c9
        rw [succ32, succ32, succ32] at this
        exact this
      exact ih (i + 1) (by omega) _ (Or.inr ⟨_, rfl, rfl⟩) T7 _ (by rw [copyLocs_step, ← List.append_assoc]; exact X7) (pl.trans p7) (fl.step (by omega) hlt (by simp)) c10
  obtain ⟨T9, B9, z9, X9, p9, f9, g9⟩ := loop len 0 (by omega) .unset (Or.inl rfl) s₁ B (by simpa [copyLocs] using X0) ⟨hB0.1, fun _ _ => rfl, rfl⟩ (Laid.zero _ _ _) c2
  have c11 : Steps p.tables e below (s₁.setTop (entryFrame m #[.ref b, .int (Int32.ofNat o), .ref d, .int (Int32.ofNat q), .int (Int32.ofNat len)] 7)) (T9.setTop (mkF m 46 #[.val (.ref b), .val (.int (Int32.ofNat (o + len))), .val (.ref d), .val (.int (Int32.ofNat (q + len))), .val (.int (Int32.ofNat len)), .val (.int (Int32.ofNat len)), z9] [.int (Int32.ofNat len)])) := g9.trans (by
    refine XS.iload X9.here hexec rfl (hb hbytes d3) rfl ?_
    refine XS.iload X9.here hexec rfl (hb hbytes d5) rfl ?_
    refine XS.icmpYes X9.here hexec rfl (pc0 := 7) rfl (hb hbytes d7) rfl (ii_ge_t (nlt32 (by omega) (Nat.le_refl _))) (by decide) rfl ?_
    refine XS.iload X9.here hexec rfl (hb hbytes d44) rfl ?_
    exact Steps.refl _)
  exact ⟨T9, some (.int (Int32.ofNat len)), _, _, _, X9, by simp, rfl, rfl, (fun h => by cases h), ⟨rfl, B9, p9.from hh0, f9⟩, fun fs hl => c11.trans (X9.ireturnOut hexec hret rfl (Or.inl rfl) (hb hbytes d46) hl)⟩
end Cmp5
namespace Cmp3
def yN : MethodName := ⟨"java/lang/StringUTF16", "compress", "([CII)[B"⟩
abbrev yB : ByteArray := jdk_52_method_16_code
theorem d0 : decode yB 0 = .ok (.iload_n 2, 1) := by decide +kernel
theorem d1 : decode yB 1 = .ok (.newarray .byte, 2) := by decide +kernel
theorem d3 : decode yB 3 = .ok (.astore_n 3, 1) := by decide +kernel
theorem d4 : decode yB 4 = .ok (.aload_n 0, 1) := by decide +kernel
theorem d5 : decode yB 5 = .ok (.iload_n 1, 1) := by decide +kernel
theorem d6 : decode yB 6 = .ok (.aload_n 3, 1) := by decide +kernel
theorem d7 : decode yB 7 = .ok (.iconst 0, 1) := by decide +kernel
theorem d8 : decode yB 8 = .ok (.iload_n 2, 1) := by decide +kernel
theorem d9 : decode yB 9 = .ok (.invokestatic 115, 3) := by decide +kernel
theorem d12 : decode yB 12 = .ok (.istore 4, 2) := by decide +kernel
theorem d14 : decode yB 14 = .ok (.iload 4, 2) := by decide +kernel
theorem d16 : decode yB 16 = .ok (.iload_n 2, 1) := by decide +kernel
theorem d17 : decode yB 17 = .ok (.if_icmp (.eq) 40, 3) := by decide +kernel
theorem d57 : decode yB 57 = .ok (.aload_n 3, 1) := by decide +kernel
theorem d58 : decode yB 58 = .ok (.areturn, 1) := by decide +kernel
def site : List Cond := [.arrayClass .byte, Cmp5.tab] ++ staticW U16 115 Cmp5.yN
def tab : Cond := tabOf yN yB 6 (some (.array .byte)) site
def P (b : Addr) (A : Cell) (o len : Nat) (args : Array Value) (s : State) : Prop := args = #[.ref b, .int (Int32.ofNat o), .int (Int32.ofNat len)] ∧ Ch b A s ∧ o + len ≤ A.slots.size ∧ len ≤ 536870912 ∧ ∀ i, i < len → ¬ 255 < cv A (o + i)
def E (b : Addr) (A : Cell) (o len : Nat) (r : Option Value) (s u : State) : Prop := NewArr .byte "[B" len (fun j => .int (lo8 (cv A (o + j)))) r s u ∧ u.heap.size = s.heap.size + 1
/-- no char of the range above 255: a new byte[] of their low bytes -/
theorem law (l : Launch) (b : Addr) (A : Cell) (o len : Nat) : Law l yN 3 3 1 18 yB 6 (some (.array .byte)) site (P b A o len) (E b A o len) [] 1 len := by
  refine Law.of_walk (plainFor_of_name (by decide +kernel)) (by decide +kernel) (by decide +kernel) (by decide) (fun _ _ h => by rw [h.1]; rfl) (fun _ U U' hal hh h => ⟨h.1, h.2.1.mv hal hh, h.2.2⟩) (fun r U U' V V' h1 hal h2 h => ⟨NewArr.mv r U U' V V' h1 hal h2 h.1, by rw [h1, h2]; exact h.2⟩) ?_
  intro p e s m args below meth c s₁ X0 hexec hbytes hml hret hlk hnm hown hh0 W hP
  obtain ⟨rfl, hA, l1, l2, hp⟩ := hP
  have a31 := hA.1.2.2.2
  have c1 : Steps p.tables e below (s₁.setTop (entryFrame m #[.ref b, .int (Int32.ofNat o), .int (Int32.ofNat len)] 6)) (s₁.setTop (mkF m 0 #[.val (.ref b), .val (.int (Int32.ofNat o)), .val (.int (Int32.ofNat len)), .unset, .unset, .unset] [])) := entry rfl
  have c2 : Steps p.tables e below (s₁.setTop (entryFrame m #[.ref b, .int (Int32.ofNat o), .int (Int32.ofNat len)] 6)) (s₁.setTop (mkF m 1 #[.val (.ref b), .val (.int (Int32.ofNat o)), .val (.int (Int32.ofNat len)), .unset, .unset, .unset] [.int (Int32.ofNat len)])) := c1.trans (by
    refine XS.iloadN X0.here hexec rfl (hb hbytes d0) rfl ?_
    exact Steps.refl _)
  obtain ⟨T3, B3, X3, ba3, bs3, bv3, bh3, bf3, st3⟩ := X0.anew hexec (atype := .byte) (wk W (.arrayClass .byte)) rfl (by show len * 1 ≤ _; omega) (by omega) (g := (mkF m 1 #[.val (.ref b), .val (.int (Int32.ofNat o)), .val (.int (Int32.ofNat len)), .unset, .unset, .unset] [.int (Int32.ofNat len)])) rfl (hb hbytes d1) (rest := []) rfl (Nat.le_refl _) (by show 0 + len ≤ len; omega)
  rw [hh0] at ba3 st3
  have kp3 : XT.Kept s T3 := (XT.Kept.of_eq hh0).push bh3
  have hA3 := hA.keep X3.warmed.alike (kp3 _ _ hA.1.1)
  have hne : b ≠ s.heap.size := hA.1.ne
  have c4 : Steps p.tables e below (s₁.setTop (entryFrame m #[.ref b, .int (Int32.ofNat o), .int (Int32.ofNat len)] 6)) (T3.setTop (mkF m 3 #[.val (.ref b), .val (.int (Int32.ofNat o)), .val (.int (Int32.ofNat len)), .unset, .unset, .unset] [.ref s.heap.size])) := c2.trans (st3 _ (Steps.refl _))
  have c5 : Steps p.tables e below (s₁.setTop (entryFrame m #[.ref b, .int (Int32.ofNat o), .int (Int32.ofNat len)] 6)) (T3.setTop (mkF m 9 #[.val (.ref b), .val (.int (Int32.ofNat o)), .val (.int (Int32.ofNat len)), .val (.ref s.heap.size), .unset, .unset] [.int (Int32.ofNat len), .int 0, .ref s.heap.size, .int (Int32.ofNat o), .ref b])) := c4.trans (by
    refine XS.astoreN X3.here hexec rfl (hb hbytes d3) rfl rfl rfl ?_
    refine XS.aloadN X3.here hexec rfl (hb hbytes d4) rfl rfl ?_
    refine XS.iloadN X3.here hexec rfl (hb hbytes d5) rfl ?_
    refine XS.aloadN X3.here hexec rfl (hb hbytes d6) rfl rfl ?_
    refine iconstV X3.here hexec rfl 0 (hb hbytes d7) (by decide) ?_
    refine XS.iloadN X3.here hexec rfl (hb hbytes d8) rfl ?_
    exact Steps.refl _)
  obtain ⟨v6, T6, X6, E6, g6⟩ := X3.callS hexec (Cmp5.law l b A s.heap.size B3 o 0 len) hown (wks W (staticW U16 115 Cmp5.yN)) (wk W Cmp5.tab) (W := 0) (Nat.le_of_ble_eq_true rfl) (Nat.le_of_ble_eq_true rfl) (Nat.le_refl _) (by show 0 + len + 0 ≤ len; omega) (g := (mkF m 9 #[.val (.ref b), .val (.int (Int32.ofNat o)), .val (.int (Int32.ofNat len)), .val (.ref s.heap.size), .unset, .unset] [.int (Int32.ofNat len), .int (Int32.ofNat 0), .ref s.heap.size, .int (Int32.ofNat o), .ref b])) rfl (by rw [hml]; rfl) c5 (argsL := [.ref b, .int (Int32.ofNat o), .ref s.heap.size, .int (Int32.ofNat 0), .int (Int32.ofNat len)]) (rest := []) rfl rfl (by show 2 * 0 + 0 ≤ _; decide) (hb hbytes d9) (⟨rfl, hA3, ba3, hne, l1, by rw [bs3]; simp, hp⟩)
  obtain ⟨rfl, B6, p6, f6⟩ := E6
  have c7 : Steps p.tables e below (s₁.setTop (entryFrame m #[.ref b, .int (Int32.ofNat o), .int (Int32.ofNat len)] 6)) (T6.setTop (mkF m 12 #[.val (.ref b), .val (.int (Int32.ofNat o)), .val (.int (Int32.ofNat len)), .val (.ref s.heap.size), .unset, .unset] [.int (Int32.ofNat len)])) := g6
  have c8 : Steps p.tables e below (s₁.setTop (entryFrame m #[.ref b, .int (Int32.ofNat o), .int (Int32.ofNat len)] 6)) (T6.setTop (mkF m 58 #[.val (.ref b), .val (.int (Int32.ofNat o)), .val (.int (Int32.ofNat len)), .val (.ref s.heap.size), .val (.int (Int32.ofNat len)), .unset] [.ref s.heap.size])) := c7.trans (by
    refine XS.istore X6.here hexec rfl (hb hbytes d12) rfl rfl ?_
    refine XS.iload X6.here hexec rfl (hb hbytes d14) rfl ?_
    refine XS.iloadN X6.here hexec rfl (hb hbytes d16) rfl ?_
    refine XS.icmpYes X6.here hexec rfl (pc0 := 17) rfl (hb hbytes d17) rfl (ii_eq_t rfl) (by decide) rfl ?_
    refine XS.aloadN X6.here hexec rfl (hb hbytes d57) rfl rfl ?_
    exact Steps.refl _)
  have X8 := X6.wide (L' := []) (cells' := 1) (slots' := len) (fun x hx hlt => by
    simp only [List.nil_append, copyLocs, List.mem_map, List.mem_range] at hx
    obtain ⟨i, -, rfl⟩ := hx
    exact absurd hlt (Nat.lt_irrefl _)) (Nat.le_refl _) (by omega)
  exact ⟨T6, some (.ref s.heap.size), _, _, _, X8, rfl, rfl, rfl, (fun h => by cases h), ⟨⟨rfl, B6, ba3.like (X3.warmed.alike.symm.trans X6.warmed.alike) p6.1 f6.1 f6.2.1 f6.2.2.1, f6.2.1.trans bv3, by rw [X6.warmed.alike.findClass, f6.1]; exact bf3, by rw [f6.2.2.1, bs3]; simp, fun j hj => by rw [f6.2.2.2 j, if_pos (by omega)]; rfl, kp3.put p6 (Nat.le_refl _)⟩, by rw [p6.2.2, bh3, hh0]; simp⟩, fun fs hl => c8.trans (X8.areturnOut hexec rfl hret rfl (hb hbytes d58) hl)⟩
end Cmp3
namespace CodL
def yN : MethodName := ⟨"java/lang/StringUTF16", "coderFromArrayLen", "([BI)B"⟩
abbrev yB : ByteArray := jdk_52_method_15_code
theorem d0 : decode yB 0 = .ok (.iload_n 1, 1) := by decide +kernel
theorem d1 : decode yB 1 = .ok (.aload_n 0, 1) := by decide +kernel
theorem d2 : decode yB 2 = .ok (.arraylength, 1) := by decide +kernel
theorem d3 : decode yB 3 = .ok (.isub, 1) := by decide +kernel
theorem d4 : decode yB 4 = .ok (.bipush 31, 2) := by decide +kernel
theorem d6 : decode yB 6 = .ok (.iushr, 1) := by decide +kernel
theorem d7 : decode yB 7 = .ok (.i2b, 1) := by decide +kernel
theorem d8 : decode yB 8 = .ok (.ireturn, 1) := by decide +kernel
def site : List Cond := []
def tab : Cond := tabOf yN yB 2 (some .byte) site
def P (d : Addr) (B : Cell) (args : Array Value) (s : State) : Prop := args = #[.ref d, .int (Int32.ofNat B.slots.size)] ∧ Arr .byte d B s
def E (r : Option Value) (s u : State) : Prop := XT.PureE (some (.int 0)) r s u
/-- an array as long as the number of chars: LATIN1 -/
theorem law (l : Launch) (d : Addr) (B : Cell) : Law l yN 2 2 0 0 yB 2 (some .byte) site (P d B) E [] 0 0 := by
  refine Law.of_walk (plainFor_of_name (by decide +kernel)) (by decide +kernel) (by decide +kernel) (by decide) (fun _ _ h => by rw [h.1]; rfl) (fun _ U U' hal hh h => ⟨h.1, h.2.mv hal hh⟩) (fun r U U' V V' h1 hal h2 h => XT.PureE.mv r U U' V V' h1 hal h2 h) ?_
  intro p e s m args below meth c s₁ X0 hexec hbytes hml hret hlk hnm hown hh0 W hP
  obtain ⟨rfl, hB⟩ := hP
  have hB0 := hB.mv X0.warmed.alike hh0
  have c1 : Steps p.tables e below (s₁.setTop (entryFrame m #[.ref d, .int (Int32.ofNat B.slots.size)] 2)) (s₁.setTop (mkF m 0 #[.val (.ref d), .val (.int (Int32.ofNat B.slots.size))] [])) := entry rfl
  have c2 : Steps p.tables e below (s₁.setTop (entryFrame m #[.ref d, .int (Int32.ofNat B.slots.size)] 2)) (s₁.setTop (mkF m 2 #[.val (.ref d), .val (.int (Int32.ofNat B.slots.size))] [.ref d, .int (Int32.ofNat B.slots.size)])) := c1.trans (by
    refine XS.iloadN X0.here hexec rfl (hb hbytes d0) rfl ?_
    refine XS.aloadN X0.here hexec rfl (hb hbytes d1) rfl rfl ?_
    exact Steps.refl _)
  have c3 : Steps p.tables e below (s₁.setTop (entryFrame m #[.ref d, .int (Int32.ofNat B.slots.size)] 2)) (s₁.setTop (mkF m 8 #[.val (.ref d), .val (.int (Int32.ofNat B.slots.size))] [.int (lo8 (ushr (Int32.ofNat B.slots.size - Int32.ofNat B.slots.size) 31))])) := c2.trans (by
    refine X0.alen hexec hB0 rfl rfl (hb hbytes d2) ?_
    refine XS.isub X0.here hexec rfl (hb hbytes d3) rfl ?_
    refine bipushV X0.here hexec rfl 31 (hb hbytes d4) (by decide) ?_
    refine iushr X0.here hexec rfl (hb hbytes d6) rfl ?_
    refine i2b X0.here hexec rfl (hb hbytes d7) rfl ?_
    exact Steps.refl _)
  have e0 : lo8 (ushr (Int32.ofNat B.slots.size - Int32.ofNat B.slots.size) 31) = 0 := by rw [Int32.sub_self]; decide
  rw [e0] at c3
  exact ⟨s₁, some (.int 0), _, _, _, X0, rfl, rfl, rfl, (fun h => by cases h), ⟨rfl, hh0⟩, fun fs hl => c3.trans (X0.ireturnOut hexec hret rfl (Or.inr (Or.inr (Or.inl rfl))) (hb hbytes d8) hl)⟩
end CodL
/-- the String at a is Latin-1 over a new byte[] (the heap's one new cell): the low bytes of the len chars of A from o on; every cell but a is kept -/
def Got (a : Addr) (D : Cell) (fV fC : Field) (A : Cell) (o len : Nat) (r : Option Value) (s u : State) : Prop := r = none ∧ ∃ D' V : Cell, Blank "java/lang/String" a D' u ∧ Same D D' [fV.slot, fC.slot] ∧ D'.slots[fV.slot]? = some (.ref s.heap.size) ∧ D'.slots[fC.slot]? = some (.int 0) ∧ Arr .byte s.heap.size V u ∧ V.vm = .none ∧ u.vm.findClass "[B" = some V.cls ∧ V.slots.size = len ∧ (∀ j, j < len → V.slots[j]? = some (.int (lo8 (cv A (o + j))))) ∧ (∀ (y : Addr) (c : Cell), y ≠ a → s.heap[y]? = some c → u.heap[y]? = some c) ∧ u.heap.size = s.heap.size + 1
theorem Got.mv {a : Addr} {D A : Cell} {fV fC : Field} {o len : Nat} : ∀ r (U U' V V' : State), U'.heap = U.heap → V.vm.Alike V'.vm → V'.heap = V.heap → Got a D fV fC A o len r U V → Got a D fV fC A o len r U' V' :=
  fun r U U' V V' h1 hal h2 ⟨e0, D', X, a1, a2, a3, a4, a5, a6, a7, a8, a9, a10, a11⟩ => ⟨e0, D', X, a1.mv hal h2, a2, by rw [h1]; exact a3, a4, by rw [h1]; exact a5.mv hal h2, a6, by rw [hal.findClass]; exact a7, a8, a9, by rw [h1, h2]; exact a10, by rw [h1, h2]; exact a11⟩
namespace New4
def yN : MethodName := ⟨"java/lang/String", "<init>", "([CIILjava/lang/Void;)V"⟩
abbrev yB : ByteArray := jdk_42_method_149_code
theorem d0 : decode yB 0 = .ok (.aload_n 0, 1) := by decide +kernel
theorem d1 : decode yB 1 = .ok (.invokespecial 1, 3) := by decide +kernel
theorem d4 : decode yB 4 = .ok (.iload_n 3, 1) := by decide +kernel
theorem d5 : decode yB 5 = .ok (.ifCond (.ne) 22, 3) := by decide +kernel
theorem d27 : decode yB 27 = .ok (.getstatic 38, 3) := by decide +kernel
theorem d30 : decode yB 30 = .ok (.ifCond (.eq) 28, 3) := by decide +kernel
theorem d33 : decode yB 33 = .ok (.aload_n 1, 1) := by decide +kernel
theorem d34 : decode yB 34 = .ok (.iload_n 2, 1) := by decide +kernel
theorem d35 : decode yB 35 = .ok (.iload_n 3, 1) := by decide +kernel
theorem d36 : decode yB 36 = .ok (.invokestatic 177, 3) := by decide +kernel
theorem d39 : decode yB 39 = .ok (.astore 5, 2) := by decide +kernel
theorem d41 : decode yB 41 = .ok (.aload_n 0, 1) := by decide +kernel
theorem d42 : decode yB 42 = .ok (.aload 5, 2) := by decide +kernel
theorem d44 : decode yB 44 = .ok (.iload_n 3, 1) := by decide +kernel
theorem d45 : decode yB 45 = .ok (.invokestatic 47, 3) := by decide +kernel
theorem d48 : decode yB 48 = .ok (.putfield 15, 3) := by decide +kernel
theorem d51 : decode yB 51 = .ok (.aload_n 0, 1) := by decide +kernel
theorem d52 : decode yB 52 = .ok (.aload 5, 2) := by decide +kernel
theorem d54 : decode yB 54 = .ok (.putfield 9, 3) := by decide +kernel
theorem d57 : decode yB 57 = .ok (.return_, 1) := by decide +kernel
def site : List Cond := [.fieldLink "java/lang/String" 38 "java/lang/String" "COMPACT_STRINGS" "Z", Cmp3.tab, CodL.tab, .laysFinal "java/lang/String" "java/lang/String" "value" "[B", .fieldLink "java/lang/String" 9 "java/lang/String" "value" "[B", .laysFinal "java/lang/String" "java/lang/String" "coder" "B", .fieldLink "java/lang/String" 15 "java/lang/String" "coder" "B"] ++ objW "java/lang/String" 1 ++ staticW "java/lang/String" 177 Cmp3.yN ++ staticW "java/lang/String" 47 CodL.yN
def tab : Cond := tabOf yN yB 6 none site
def P (a : Addr) (D : Cell) (fV fC : Field) (b : Addr) (A : Cell) (z : Int32) (o len : Nat) (args : Array Value) (s : State) : Prop := args = #[.ref a, .ref b, .int (Int32.ofNat o), .int (Int32.ofNat len), .null] ∧ Blank "java/lang/String" a D s ∧ Found "java/lang/String" "value" "[B" fV s ∧ Found "java/lang/String" "coder" "B" fC s ∧ Ch b A s ∧ StaticIs s "java/lang/String" "COMPACT_STRINGS" "Z" (.int z) ∧ ¬ z = 0 ∧ 0 < len ∧ o + len ≤ A.slots.size ∧ len ≤ 536870912 ∧ ∀ i, i < len → ¬ 255 < cv A (o + i)
def E (a : Addr) (D : Cell) (fV fC : Field) (A : Cell) (o len : Nat) (r : Option Value) (s u : State) : Prop := Got a D fV fC A o len r s u
/-- len > 0, no char of the range above 255: a Latin-1 String of their low bytes -/
theorem law (l : Launch) (a : Addr) (D : Cell) (fV fC : Field) (b : Addr) (A : Cell) (z : Int32) (o len : Nat) : Law l yN 5 4 2 35 yB 6 none site (P a D fV fC b A z o len) (E a D fV fC A o len) [⟨a, fC.slot⟩, ⟨a, fV.slot⟩] 1 len := by
  refine Law.of_walk (plainFor_of_name (by decide +kernel)) (by decide +kernel) (by decide +kernel) (by decide) (fun _ _ h => by rw [h.1]; rfl) (fun _ U U' hal hh h => ⟨h.1, h.2.1.mv hal hh, h.2.2.1.al hal, h.2.2.2.1.al hal, h.2.2.2.2.1.mv hal hh, h.2.2.2.2.2.1.there hal hh, h.2.2.2.2.2.2⟩) (fun r U U' V V' h1 hal h2 h => Got.mv r U U' V V' h1 hal h2 h) ?_
  intro p e s m args below meth c s₁ X0 hexec hbytes hml hret hlk hnm hown hh0 W hP
  obtain ⟨rfl, hB, f1, f2, hA, s1, hz, l0, l1, l2, hp⟩ := hP
  have a31 := hA.1.2.2.2
  have c1 : Steps p.tables e below (s₁.setTop (entryFrame m #[.ref a, .ref b, .int (Int32.ofNat o), .int (Int32.ofNat len), .null] 6)) (s₁.setTop (mkF m 0 #[.val (.ref a), .val (.ref b), .val (.int (Int32.ofNat o)), .val (.int (Int32.ofNat len)), .val .null, .unset] [])) := entry rfl
  have c2 : Steps p.tables e below (s₁.setTop (entryFrame m #[.ref a, .ref b, .int (Int32.ofNat o), .int (Int32.ofNat len), .null] 6)) (s₁.setTop (mkF m 1 #[.val (.ref a), .val (.ref b), .val (.int (Int32.ofNat o)), .val (.int (Int32.ofNat len)), .val .null, .unset] [.ref a])) := c1.trans (by
    refine XS.aloadN X0.here hexec rfl (hb hbytes d0) rfl rfl ?_
    exact Steps.refl _)
  obtain ⟨T3, X3, q3, st3⟩ := X0.oinit hexec hown (wks W (objW "java/lang/String" 1)) (g := (mkF m 1 #[.val (.ref a), .val (.ref b), .val (.int (Int32.ofNat o)), .val (.int (Int32.ofNat len)), .val .null, .unset] [.ref a])) rfl (by rw [hml]; rfl) (rest := []) rfl (hb hbytes d1) (W := 0) (by show 2 * 0 + 0 ≤ _; decide) (Nat.le_of_ble_eq_true rfl) (Nat.le_of_ble_eq_true rfl)
  have hh3 := q3.trans hh0
  have c4 : Steps p.tables e below (s₁.setTop (entryFrame m #[.ref a, .ref b, .int (Int32.ofNat o), .int (Int32.ofNat len), .null] 6)) (T3.setTop (mkF m 27 #[.val (.ref a), .val (.ref b), .val (.int (Int32.ofNat o)), .val (.int (Int32.ofNat len)), .val .null, .unset] [])) := (c2.trans (st3 _ (Steps.refl _))).trans (by
    refine XS.iloadN X3.here hexec rfl (hb hbytes d4) rfl ?_
    refine XS.ifYes X3.here hexec rfl (pc0 := 5) rfl (hb hbytes d5) rfl (i0_ne_t (nz32 (by omega) l0)) (by decide) rfl ?_
    exact Steps.refl _)
  obtain ⟨T5, X5, q5, st5⟩ := X3.sget hexec hown (wk W (.fieldLink "java/lang/String" 38 "java/lang/String" "COMPACT_STRINGS" "Z")) s1 (fun _ _ h => by rw [hh3]; exact h) (g := (mkF m 27 #[.val (.ref a), .val (.ref b), .val (.int (Int32.ofNat o)), .val (.int (Int32.ofNat len)), .val .null, .unset] [])) rfl (hb hbytes d27)
  have hh5 := q5.trans hh3
  have c6 : Steps p.tables e below (s₁.setTop (entryFrame m #[.ref a, .ref b, .int (Int32.ofNat o), .int (Int32.ofNat len), .null] 6)) (T5.setTop (mkF m 30 #[.val (.ref a), .val (.ref b), .val (.int (Int32.ofNat o)), .val (.int (Int32.ofNat len)), .val .null, .unset] [.int z])) := c4.trans (st5 _ (Steps.refl _))
  have c7 : Steps p.tables e below (s₁.setTop (entryFrame m #[.ref a, .ref b, .int (Int32.ofNat o), .int (Int32.ofNat len), .null] 6)) (T5.setTop (mkF m 36 #[.val (.ref a), .val (.ref b), .val (.int (Int32.ofNat o)), .val (.int (Int32.ofNat len)), .val .null, .unset] [.int (Int32.ofNat len), .int (Int32.ofNat o), .ref b])) := c6.trans (by
    refine XS.ifNo X5.here hexec rfl (hb hbytes d30) rfl (i0_eq_f hz) ?_
    refine XS.aloadN X5.here hexec rfl (hb hbytes d33) rfl rfl ?_
    refine XS.iloadN X5.here hexec rfl (hb hbytes d34) rfl ?_
    refine XS.iloadN X5.here hexec rfl (hb hbytes d35) rfl ?_
    exact Steps.refl _)
  obtain ⟨v8, T8, X8, E8, g8⟩ := X5.callS hexec (Cmp3.law l b A o len) hown (wks W (staticW "java/lang/String" 177 Cmp3.yN)) (wk W Cmp3.tab) (W := 0) (Nat.le_of_ble_eq_true rfl) (Nat.le_of_ble_eq_true rfl) (Nat.le_refl _) (by show 0 + len ≤ len; omega) (g := (mkF m 36 #[.val (.ref a), .val (.ref b), .val (.int (Int32.ofNat o)), .val (.int (Int32.ofNat len)), .val .null, .unset] [.int (Int32.ofNat len), .int (Int32.ofNat o), .ref b])) rfl (by rw [hml]; rfl) c7 (argsL := [.ref b, .int (Int32.ofNat o), .int (Int32.ofNat len)]) (rest := []) rfl rfl (by show 2 * 0 + 0 ≤ _; decide) (hb hbytes d36) (⟨rfl, hA.mv X5.warmed.alike hh5, l1, l2, hp⟩)
  obtain ⟨e8, z8⟩ := E8
  obtain ⟨rfl, N, n1, n2, n3, n4, n5, n6⟩ := NewArr.mv _ T5 s _ _ hh5.symm (Vm.Alike.refl _) rfl e8
  rw [hh5] at z8
  have hB1 := hB.keep X8.warmed.alike (n6 _ _ hB.1)
  have hne : s.heap.size ≠ a := (Nat.ne_of_lt (Array.getElem?_eq_some_iff.mp hB.1).1).symm
  have c9 : Steps p.tables e below (s₁.setTop (entryFrame m #[.ref a, .ref b, .int (Int32.ofNat o), .int (Int32.ofNat len), .null] 6)) (T8.setTop (mkF m 39 #[.val (.ref a), .val (.ref b), .val (.int (Int32.ofNat o)), .val (.int (Int32.ofNat len)), .val .null, .unset] [.ref s.heap.size])) := g8
  have c10 : Steps p.tables e below (s₁.setTop (entryFrame m #[.ref a, .ref b, .int (Int32.ofNat o), .int (Int32.ofNat len), .null] 6)) (T8.setTop (mkF m 45 #[.val (.ref a), .val (.ref b), .val (.int (Int32.ofNat o)), .val (.int (Int32.ofNat len)), .val .null, .val (.ref s.heap.size)] [.int (Int32.ofNat N.slots.size), .ref s.heap.size, .ref a])) := by
    have hc : Steps p.tables e below (s₁.setTop (entryFrame m #[.ref a, .ref b, .int (Int32.ofNat o), .int (Int32.ofNat len), .null] 6)) (T8.setTop (mkF m 45 #[.val (.ref a), .val (.ref b), .val (.int (Int32.ofNat o)), .val (.int (Int32.ofNat len)), .val .null, .val (.ref s.heap.size)] [.int (Int32.ofNat len), .ref s.heap.size, .ref a])) := c9.trans (by
      refine XS.astore X8.here hexec rfl (hb hbytes d39) rfl rfl rfl ?_
      refine XS.aloadN X8.here hexec rfl (hb hbytes d41) rfl rfl ?_
      refine XS.aload X8.here hexec rfl (hb hbytes d42) rfl rfl ?_
      refine XS.iloadN X8.here hexec rfl (hb hbytes d44) rfl ?_
      exact Steps.refl _)
    rw [n4]; exact hc
  obtain ⟨v11, T11, X11, E11, g11⟩ := X8.callS hexec (CodL.law l s.heap.size N) hown (wks W (staticW "java/lang/String" 47 CodL.yN)) (wk W CodL.tab) (W := 1) (Nat.le_of_ble_eq_true rfl) (Nat.le_of_ble_eq_true rfl) (Nat.le_refl _) (by show 0 + len + 0 ≤ len; omega) (g := (mkF m 45 #[.val (.ref a), .val (.ref b), .val (.int (Int32.ofNat o)), .val (.int (Int32.ofNat len)), .val .null, .val (.ref s.heap.size)] [.int (Int32.ofNat N.slots.size), .ref s.heap.size, .ref a])) rfl (by rw [hml]; rfl) c10 (argsL := [.ref s.heap.size, .int (Int32.ofNat N.slots.size)]) (rest := [.ref a]) rfl rfl (by show 2 * 0 + (1 + 0) ≤ _; decide) (hb hbytes d45) (⟨rfl, n1⟩)
  obtain ⟨rfl, q11⟩ := E11
  have hB11 := hB1.mv (X8.warmed.alike.symm.trans X11.warmed.alike) q11
  have c12 : Steps p.tables e below (s₁.setTop (entryFrame m #[.ref a, .ref b, .int (Int32.ofNat o), .int (Int32.ofNat len), .null] 6)) (T11.setTop (mkF m 48 #[.val (.ref a), .val (.ref b), .val (.int (Int32.ofNat o)), .val (.int (Int32.ofNat len)), .val .null, .val (.ref s.heap.size)] [.int 0, .ref a])) := g11
  obtain ⟨T13, X13, p13, bl13, sl13, st13⟩ := X11.finit hexec hown (wk W (.fieldLink "java/lang/String" 15 "java/lang/String" "coder" "B")) (Or.inr ⟨_, (wk W (.laysFinal "java/lang/String" "java/lang/String" "coder" "B"))⟩) (Or.inl ⟨rfl, hnm⟩) f2 (Or.inl rfl) hB11 (t := .byte) (by decide +kernel) rfl (g := (mkF m 48 #[.val (.ref a), .val (.ref b), .val (.int (Int32.ofNat o)), .val (.int (Int32.ofNat len)), .val .null, .val (.ref s.heap.size)] [.int 0, .ref a])) rfl (rest := []) rfl (hb hbytes d48)
  have c14 : Steps p.tables e below (s₁.setTop (entryFrame m #[.ref a, .ref b, .int (Int32.ofNat o), .int (Int32.ofNat len), .null] 6)) (T13.setTop (mkF m 54 #[.val (.ref a), .val (.ref b), .val (.int (Int32.ofNat o)), .val (.int (Int32.ofNat len)), .val .null, .val (.ref s.heap.size)] [.ref s.heap.size, .ref a])) := (c12.trans (st13 _ (Steps.refl _))).trans (by
    refine XS.aloadN X13.here hexec rfl (hb hbytes d51) rfl rfl ?_
    refine XS.aload X13.here hexec rfl (hb hbytes d52) rfl rfl ?_
    exact Steps.refl _)
  obtain ⟨T15, X15, p15, bl15, sl15, st15⟩ := X13.finit hexec hown (wk W (.fieldLink "java/lang/String" 9 "java/lang/String" "value" "[B")) (Or.inr ⟨_, (wk W (.laysFinal "java/lang/String" "java/lang/String" "value" "[B"))⟩) (Or.inl ⟨rfl, hnm⟩) f1 (Or.inl rfl) bl13 (t := (.array .byte)) (by decide +kernel) rfl (g := (mkF m 54 #[.val (.ref a), .val (.ref b), .val (.int (Int32.ofNat o)), .val (.int (Int32.ofNat len)), .val .null, .val (.ref s.heap.size)] [.ref s.heap.size, .ref a])) rfl (rest := []) rfl (hb hbytes d54)
  have c16 : Steps p.tables e below (s₁.setTop (entryFrame m #[.ref a, .ref b, .int (Int32.ofNat o), .int (Int32.ofNat len), .null] 6)) (T15.setTop (mkF m 57 #[.val (.ref a), .val (.ref b), .val (.int (Int32.ofNat o)), .val (.int (Int32.ofNat len)), .val .null, .val (.ref s.heap.size)] [])) := c14.trans (st15 _ (Steps.refl _))
  have ap := apart (Or.inr ⟨_, (wk W (.laysFinal "java/lang/String" "java/lang/String" "value" "[B"))⟩) (Or.inr ⟨_, (wk W (.laysFinal "java/lang/String" "java/lang/String" "coder" "B"))⟩) f1 f2 (t₁ := .array .byte) (t₂ := .byte) (by decide +kernel) (by decide +kernel) (by decide)
  have al := X8.warmed.alike.symm.trans X15.warmed.alike
  have n7 : T11.heap[s.heap.size]? = some N := by rw [q11]; exact n1.1
  exact ⟨T15, none, _, _, _, X15, by simp, rfl, by omega, (fun _ => rfl), ⟨rfl, _, N, bl15, ((Same.refl D _).set _ (by simp)).set _ (by simp), sl15, (Cell.slots_setSlot_ne _ ap).trans sl13, n1.keep al (p15.other hne (p13.other hne n7)), n2, by rw [al.findClass]; exact n3, n4, n5, fun y c h1 h2 => p15.other h1 (p13.other h1 (by rw [q11]; exact n6 y c h2)), by rw [p15.2.2, p13.2.2, q11]; exact z8⟩, fun fs hl => c16.trans (X15.returnOut hexec hret (hb hbytes d57) hl)⟩
end New4
namespace New1
def yN : MethodName := ⟨"java/lang/String", "<init>", "([C)V"⟩
abbrev yB : ByteArray := jdk_42_method_3_code
theorem d0 : decode yB 0 = .ok (.aload_n 0, 1) := by decide +kernel
theorem d1 : decode yB 1 = .ok (.aload_n 1, 1) := by decide +kernel
theorem d2 : decode yB 2 = .ok (.iconst 0, 1) := by decide +kernel
theorem d3 : decode yB 3 = .ok (.aload_n 1, 1) := by decide +kernel
theorem d4 : decode yB 4 = .ok (.arraylength, 1) := by decide +kernel
theorem d5 : decode yB 5 = .ok (.aconst_null, 1) := by decide +kernel
theorem d6 : decode yB 6 = .ok (.invokespecial 27, 3) := by decide +kernel
theorem d9 : decode yB 9 = .ok (.return_, 1) := by decide +kernel
def site : List Cond := [New4.tab] ++ initW "java/lang/String" 27 New4.yN
def tab : Cond := tabOf yN yB 2 none site
def P (a : Addr) (D : Cell) (fV fC : Field) (b : Addr) (A : Cell) (z : Int32) (args : Array Value) (s : State) : Prop := args = #[.ref a, .ref b] ∧ Blank "java/lang/String" a D s ∧ Found "java/lang/String" "value" "[B" fV s ∧ Found "java/lang/String" "coder" "B" fC s ∧ Ch b A s ∧ StaticIs s "java/lang/String" "COMPACT_STRINGS" "Z" (.int z) ∧ ¬ z = 0 ∧ 0 < A.slots.size ∧ A.slots.size ≤ 536870912 ∧ ∀ i, i < A.slots.size → ¬ 255 < cv A i
def E (a : Addr) (D : Cell) (fV fC : Field) (A : Cell) (r : Option Value) (s u : State) : Prop := Got a D fV fC A 0 A.slots.size r s u
/-- new String(chars), not empty, no char above 255: a Latin-1 String of their low bytes -/
theorem law (l : Launch) (a : Addr) (D : Cell) (fV fC : Field) (b : Addr) (A : Cell) (z : Int32) : Law l yN 2 1 3 52 yB 2 none site (P a D fV fC b A z) (E a D fV fC A) [⟨a, fC.slot⟩, ⟨a, fV.slot⟩] 1 A.slots.size := by
  refine Law.of_walk (plainFor_of_name (by decide +kernel)) (by decide +kernel) (by decide +kernel) (by decide) (fun _ _ h => by rw [h.1]; rfl) (fun _ U U' hal hh h => ⟨h.1, h.2.1.mv hal hh, h.2.2.1.al hal, h.2.2.2.1.al hal, h.2.2.2.2.1.mv hal hh, h.2.2.2.2.2.1.there hal hh, h.2.2.2.2.2.2⟩) (fun r U U' V V' h1 hal h2 h => Got.mv r U U' V V' h1 hal h2 h) ?_
  intro p e s m args below meth c s₁ X0 hexec hbytes hml hret hlk hnm hown hh0 W hP
  obtain ⟨rfl, hB, f1, f2, hA, s1, hz, l0, l2, hp⟩ := hP
  have c1 : Steps p.tables e below (s₁.setTop (entryFrame m #[.ref a, .ref b] 2)) (s₁.setTop (mkF m 0 #[.val (.ref a), .val (.ref b)] [])) := entry rfl
  have c2 : Steps p.tables e below (s₁.setTop (entryFrame m #[.ref a, .ref b] 2)) (s₁.setTop (mkF m 6 #[.val (.ref a), .val (.ref b)] [.null, .int (Int32.ofNat A.slots.size), .int 0, .ref b, .ref a])) := c1.trans (by
    refine XS.aloadN X0.here hexec rfl (hb hbytes d0) rfl rfl ?_
    refine XS.aloadN X0.here hexec rfl (hb hbytes d1) rfl rfl ?_
    refine iconstV X0.here hexec rfl 0 (hb hbytes d2) (by decide) ?_
    refine XS.aloadN X0.here hexec rfl (hb hbytes d3) rfl rfl ?_
    refine X0.alen hexec (hA.1.mv X0.warmed.alike hh0) rfl rfl (hb hbytes d4) ?_
    refine XS.aconstNull X0.here hexec rfl (hb hbytes d5) ?_
    exact Steps.refl _)
  obtain ⟨v3, T3, X3, E3, g3⟩ := X0.callN hexec (New4.law l a D fV fC b A z 0 A.slots.size) rfl hown (wks W (initW "java/lang/String" 27 New4.yN)) (W New4.tab (by simp only [site, List.mem_cons, List.mem_append, true_or, or_true])) (W := 0) (Nat.le_of_ble_eq_true rfl) (Nat.le_of_ble_eq_true rfl) (Nat.le_refl _) (by show 0 + A.slots.size ≤ A.slots.size; omega) (g := (mkF m 6 #[.val (.ref a), .val (.ref b)] [.null, .int (Int32.ofNat A.slots.size), .int (Int32.ofNat 0), .ref b, .ref a])) rfl (by rw [hml]; rfl) c2 (argsL := [.ref b, .int (Int32.ofNat 0), .int (Int32.ofNat A.slots.size), .null]) (rest := []) rfl rfl (by show 2 * 0 + 0 ≤ _; decide) (hb hbytes d6) (⟨rfl, hB.mv X0.warmed.alike hh0, f1.al X0.warmed.alike, f2.al X0.warmed.alike, hA.mv X0.warmed.alike hh0, s1.there X0.warmed.alike hh0, hz, l0, by omega, l2, fun i hi => by rw [Nat.zero_add]; exact hp i hi⟩)
  have e0 := Got.mv _ s₁ s _ _ hh0.symm (Vm.Alike.refl _) rfl E3
  obtain rfl := e0.1
  have c4 : Steps p.tables e below (s₁.setTop (entryFrame m #[.ref a, .ref b] 2)) (T3.setTop (mkF m 9 #[.val (.ref a), .val (.ref b)] [])) := g3
  exact ⟨T3, none, _, _, _, X3, by simp, rfl, by omega, (fun _ => rfl), e0, fun fs hl => c4.trans (X3.returnOut hexec hret (hb hbytes d9) hl)⟩
theorem pays {l : Launch} {R : Room} {p : Program} {e : Env} {below : List Frame} {s : State} {sargs : Array Value} {len W : Nat} (a : Addr) (D : Cell) (fV fC : Field) (b : Addr) (A : Cell) (z : Int32) (htab : tab.before sargs s = true) (hfr : 4 ≤ R.frames) (hlo : W + 65 ≤ R.locals) :
    Back l R p e below s sargs yN len W (fun A₁ a₁ => A₁.cells + 1 ≤ R.cells ∧ A₁.slots + A.slots.size ≤ R.slots ∧ P a D fV fC b A z a₁ A₁.U) (fun A₁ _ v₁ B₁ => E a D fV fC A v₁ A₁.U B₁.U ∧ B₁.locs = A₁.locs ++ [⟨a, fC.slot⟩, ⟨a, fV.slot⟩] ∧ B₁.cells = A₁.cells + 1 ∧ B₁.slots = A₁.slots + A.slots.size) :=
  (law l a D fV fC b A z).pays htab hfr (by omega)
end New1
end StrChars
namespace StrChars.Road
open Jvm Sem ClassFile Op Lib Jvm.Stand Jvm.Free Jvm.Free.XT
open Jvm.Lib.Cold (StaticIs)
abbrev ST : String := "java/lang/String"
/-- every table word that New1's law asks, flat -/
abbrev words : List Jvm.Cond := [.code New1.yN New1.yB 2 none, .initialized ST, .methodLink ST 27 New4.yN, .instanceMethod New4.yN,
  .code New4.yN New4.yB 6 none, .fieldLink ST 38 ST "COMPACT_STRINGS" "Z", .laysFinal ST ST "value" "[B", .fieldLink ST 9 ST "value" "[B", .laysFinal ST ST "coder" "B", .fieldLink ST 15 ST "coder" "B",
  .methodLink ST 1 Lib.objectInit, .instanceMethod Lib.objectInit, .code Lib.objectInit ⟨#[0xb1]⟩ 1 none, .methodLink ST 177 Cmp3.yN, .static Cmp3.yN, .methodLink ST 47 CodL.yN, .static CodL.yN,
  .code Cmp3.yN Cmp3.yB 6 (some (.array .byte)), .initialized U16, .arrayClass .byte, .methodLink U16 115 Cmp5.yN, .static Cmp5.yN, .code Cmp5.yN Cmp5.yB 7 (some .int), .code CodL.yN CodL.yB 2 (some .byte)]
theorem tab_of {a : Array Value} {s : State} (h : ∀ w ∈ words, w.before a s = true) : New1.tab.before a s = true := by
  have h5 : Cmp5.tab.before a s = true := unparts (wk h (.code Cmp5.yN Cmp5.yB 7 (some .int))) (wks h (.initialized Cmp5.yN.cls :: Cmp5.site))
  have hc : CodL.tab.before a s = true := unparts (wk h (.code CodL.yN CodL.yB 2 (some .byte))) (wks h (.initialized CodL.yN.cls :: CodL.site))
  have q5 : ∀ w ∈ Cmp5.tab :: words, w.before a s = true := fun w hw => (List.mem_cons.mp hw).elim (fun e => e ▸ h5) (h w)
  have h3 : Cmp3.tab.before a s = true := unparts (wk q5 (.code Cmp3.yN Cmp3.yB 6 (some (.array .byte)))) (wks q5 (.initialized Cmp3.yN.cls :: Cmp3.site))
  have q3 : ∀ w ∈ Cmp3.tab :: CodL.tab :: words, w.before a s = true := fun w hw => (List.mem_cons.mp hw).elim (fun e => e ▸ h3) fun hw => (List.mem_cons.mp hw).elim (fun e => e ▸ hc) (h w)
  have h4 : New4.tab.before a s = true := unparts (wk q3 (.code New4.yN New4.yB 6 none)) (wks q3 (.initialized New4.yN.cls :: New4.site))
  have q4 : ∀ w ∈ New4.tab :: words, w.before a s = true := fun w hw => (List.mem_cons.mp hw).elim (fun e => e ▸ h4) (h w)
  exact unparts (wk q4 (.code New1.yN New1.yB 2 none)) (wks q4 (.initialized New1.yN.cls :: New1.site))
/-- the words ride from the start Z to the walk's own state -/
theorem moved {Z s : State} {a0 args : Array Value} (hZ : Z.Warmed39 s.vm) (hw : ∀ d ∈ words, d.before a0 Z = true) : ∀ d ∈ words, d.before args s = true := fun d hd => by
  have q := hw d hd
  have t : ∀ d ∈ words, d = .arrayClass .byte ∨ (d.onTables && d.keepsFace) = true := by decide +kernel
  rcases t d hd with rfl | t
  · exact RoadKit.mvA hZ q
  · exact RoadKit.mv hZ q t
/-- WHAT COMES BACK, over the tables of the start Z: h the heap at the call, h' behind it -/
def Q (Z : State) (x : Addr) (A : Cell) (h : Heap) (v : Option Value) (h' : Heap) (L : List Loc) : Prop := v = none ∧ (∀ y ∈ L, y.base = x) ∧ RoadKit.Keep h h' [x] ∧ h'.size = h.size + 1 ∧ RoadKit.Exa Z h' x ST ∧ RoadKit.Fld Z h' x ST "value" "[B" (.ref h.size) ∧ RoadKit.Fld Z h' x ST "coder" "B" (.int 0) ∧
  (∃ V : Cell, RoadKit.Arr Z h' h.size V .byte ∧ V.vm = .none ∧ Z.vm.findClass "[B" = some V.cls ∧ V.slots.size = A.slots.size ∧ ∀ j, j < A.slots.size → V.slots[j]? = some (.int (lo8 (cv A j)))) ∧
  ∀ (O n d : String) (w : Value), RoadKit.Fld Z h x O n d w → RoadKit.slotOf Z O n d ≠ RoadKit.slotOf Z ST "value" "[B" → RoadKit.slotOf Z O n d ≠ RoadKit.slotOf Z ST "coder" "B" → RoadKit.Fld Z h' x O n d w
/-- **new String(chars) AT A CALL, IN THE ROAD'S FORM**: for specialBack behind newO: x the fresh String, b the char[] with the cell A -/
theorem back {p : Program} {l : Launch} {e : Env} {R : Room} {s : State} {args : Array Value} {below : List Frame} {len W : Nat} {Z : State} {a0 : Array Value} {h : Heap} (hZ : Z.Warmed39 s.vm) (hw : ∀ d ∈ words, d.before a0 Z = true) {kI : Nat} (wi : (Jvm.Cond.instantiable ST kI).before a0 Z = true)
    {x b : Addr} {A : Cell} {z : Int32} {v0 c0 : Value} (E : RoadKit.Exa Z h x ST) (V : RoadKit.Fld Z h x ST "value" "[B" v0) (C : RoadKit.Fld Z h x ST "coder" "B" c0) (K : RoadKit.Arr Z h b A .char) (hty : Typed .char A) (S : RoadKit.Sta Z h ST "COMPACT_STRINGS" "Z" (.int z)) (hz : ¬ z = 0)
    (l0 : 0 < A.slots.size) (l2 : A.slots.size ≤ 536870912) (hp : ∀ i, i < A.slots.size → ¬ 255 < cv A i) (hfr : 4 ≤ R.frames) (hlo : W + 65 ≤ R.locals) :
    Back l R p e below s args New1.yN len W (fun P a => a = #[.ref x, .ref b] ∧ P.U.heap = h ∧ P.cells + 1 ≤ R.cells ∧ P.slots + A.slots.size ≤ R.slots)
      (fun P _ v B => ∃ L, Q Z x A h v B.U.heap L ∧ B.locs = P.locs ++ L ∧ B.cells = P.cells + 1 ∧ B.slots = P.slots + A.slots.size) := by
  intro m meth c P g ig mk a X hg hsize hdg hW hn hp'
  obtain ⟨rfl, rfl, r1, r2⟩ := hp'
  have al : Z.vm.Alike P.U.vm := hZ.alike.trans X.warmed.alike
  obtain ⟨D, cfV, kV, iV, fV, hD, gV, stV, knV, obV, asV, slV⟩ := id V
  obtain ⟨D', cfC, kC, iC, fC, hD', gC, stC, -, -, asC, slC⟩ := id C
  cases hD.symm.trans hD'
  obtain ⟨D2, kD, e1, e2, e3, e4, e5⟩ := id E
  cases hD.symm.trans e1
  obtain ⟨c2, k2, i1, i2, i3, -⟩ := Cond.instantiable_spec wi
  cases e2.symm.trans i1
  cases e3.symm.trans i2
  obtain ⟨kU, u1, u2⟩ := al.2.2 _ _ e3
  have hB : Blank ST x D P.U := ⟨hD, ⟨knV, fun q hq => by rw [hq] at obV; cases obV⟩, by rw [al.findClass]; exact e2, kU, u1, by rw [u2]; exact i3, by rw [u2]; exact e5 i3⟩
  have F1 : Found ST "value" "[B" fV P.U := ⟨SBG.found_only al ⟨cfV, kV, iV, gV⟩, stV⟩
  have F2 : Found ST "coder" "B" fC P.U := ⟨SBG.found_only al ⟨cfC, kC, iC, gC⟩, stC⟩
  have hA : Ch b A P.U := ⟨⟨K.1, State.isArrayOf_alike al K.2.1, K.2.2, by omega⟩, hty⟩
  have hS : StaticIs P.U ST "COMPACT_STRINGS" "Z" (.int z) := by
    obtain ⟨cfS, iS, kS, fS, st, cS, t1, t2, t3, t4, t5, t6, t7⟩ := S
    exact StaticIs.there (s := { Z with heap := P.U.heap }) ⟨cfS, iS, kS, fS, st, cS, t1, t2, t3, t4, t5, (fun q => by rw [q] at t6; cases t6), t7⟩ al rfl
  obtain ⟨v, B, X', ⟨⟨hv, E', V', q1, q2, q3, q4, q5, q6, q7, q8, q9, q10, q11⟩, hl, hc, hs⟩, st⟩ := New1.pays x D fV fC b A z (tab_of (moved hZ hw)) hfr hlo m meth c P g ig mk _ X hg hsize hdg hW hn ⟨r1, r2, rfl, hB, F1, F2, hA, hS, hz, l0, l2, hp⟩
  have al' : Z.vm.Alike B.U.vm := hZ.alike.trans X'.warmed.alike
  have hsz : E'.slots.size = D.slots.size := by
    obtain ⟨-, -, -, kB, w1, w2, w3⟩ := q1
    obtain ⟨kB', y1, y2⟩ := al'.2.2 _ _ e3
    rw [q2.2.1] at w1
    cases w1.symm.trans y1
    rw [w3, e5 i3, y2]
  refine ⟨v, B, X', ⟨_, ⟨hv, ?_, ⟨by omega, fun y cy hy hn' => q10 y cy (by simpa using hn') hy, fun y cy hy => ?_⟩, q11, ⟨E', _, q1.1, by rw [q2.2.1]; exact e2, by rw [q2.2.1]; exact e3, by rw [q2.1]; exact obV, fun _ => by rw [hsz]; exact e5 i3⟩,
    ⟨E', cfV, kV, iV, fV, q1.1, gV, stV, by rw [q2.1]; exact knV, by rw [q2.1]; exact obV, by rw [q2.2.1]; exact asV, q3⟩, ⟨E', cfC, kC, iC, fC, q1.1, gC, stC, by rw [q2.1]; exact knV, by rw [q2.1]; exact obV, by rw [q2.2.1]; exact asC, q4⟩,
    ⟨V', ⟨q5.1, State.isArrayOf_alike al'.symm q5.2.1, q5.2.2.1⟩, q6, by rw [← al'.findClass]; exact q7, q8, fun j hj => by have := q9 j hj; rwa [Nat.zero_add] at this⟩, fun O n d w F n1 n2 => ?_⟩, hl, hc, hs⟩, st⟩
  · intro y hy
    simp only [List.mem_cons, List.not_mem_nil, or_false] at hy
    rcases hy with rfl | rfl <;> rfl
  · by_cases q : y = x
    · subst q
      cases hD.symm.trans hy
      exact ⟨E', q1.1, q2.2.1, q2.1, hsz⟩
    · exact ⟨cy, q10 y cy q hy, rfl, rfl, rfl⟩
  · obtain ⟨D3, cf, k, i, f, g1, g2, g3, g4, g5, g6, g7⟩ := F
    cases hD.symm.trans g1
    simp only [RoadKit.slotOf, g2, gV, gC, Option.map_some, Option.getD_some] at n1 n2
    exact ⟨E', cf, k, i, f, q1.1, g2, g3, by rw [q2.1]; exact g4, by rw [q2.1]; exact g5, by rw [q2.2.1]; exact g6, by rw [q2.2.2 f.slot (by simp [n1, n2])]; exact g7⟩
end StrChars.Road
namespace StrChars.Road
open Jvm Sem ClassFile Op Lib Jvm.Stand Jvm.Free Jvm.Free.XT
/-- WHAT COMES BACK, the byte[] as a list of values -/
def QA (Z : State) (x : Addr) (zn : Int32) (cs : List Int32) (h : Heap) (v : Option Value) (h' : Heap) (L : List Loc) : Prop := v = none ∧ (∀ y ∈ L, y.base = x) ∧ RoadKit.Keep h h' [x] ∧ h'.size = h.size + 1 ∧ RoadKit.Exa Z h' x ST ∧ RoadKit.Fld Z h' x ST "value" "[B" (.ref h.size) ∧ RoadKit.Fld Z h' x ST "coder" "B" (.int 0) ∧
  (∃ kb, Z.vm.findClass "[B" = some kb ∧ RoadKit.Arv Z h' h.size kb .byte zn (cs.map fun c => .int (lo8 c)) (.int 0)) ∧
  ∀ (O n d : String) (w : Value), RoadKit.Fld Z h x O n d w → RoadKit.slotOf Z O n d ≠ RoadKit.slotOf Z ST "value" "[B" → RoadKit.slotOf Z O n d ≠ RoadKit.slotOf Z ST "coder" "B" → RoadKit.Fld Z h' x O n d w
/-- **new String(chars) AT A CALL, THE ARRAYS AS LISTS**: the char[] at b holds cs, not empty, no char above 255 -/
theorem backArv {p : Program} {l : Launch} {e : Env} {R : Room} {s : State} {args : Array Value} {below : List Frame} {len W : Nat} {Z : State} {a0 : Array Value} {h : Heap} (hZ : Z.Warmed39 s.vm) (hw : ∀ d ∈ words, d.before a0 Z = true) {kI : Nat} (wi : (Jvm.Cond.instantiable ST kI).before a0 Z = true)
    {x b : Addr} {k : ClassId} {zn z : Int32} {cs : List Int32} {dv v0 c0 : Value} (E : RoadKit.Exa Z h x ST) (V : RoadKit.Fld Z h x ST "value" "[B" v0) (C : RoadKit.Fld Z h x ST "coder" "B" c0) (K : RoadKit.Arv Z h b k .char zn (cs.map Value.int) dv) (S : RoadKit.Sta Z h ST "COMPACT_STRINGS" "Z" (.int z)) (hz : ¬ z = 0)
    (hlen : zn.toNatClampNeg = cs.length) (h0 : 0 < cs.length) (hbig : cs.length ≤ 536870912) (hall : ∀ c ∈ cs, ¬ 255 < c) (hfr : 4 ≤ R.frames) (hlo : W + 65 ≤ R.locals) :
    Back l R p e below s args New1.yN len W (fun P a => a = #[.ref x, .ref b] ∧ P.U.heap = h ∧ P.cells + 1 ≤ R.cells ∧ P.slots + cs.length ≤ R.slots)
      (fun P _ v B => ∃ L, QA Z x zn cs h v B.U.heap L ∧ B.locs = P.locs ++ L ∧ B.cells = P.cells + 1 ∧ B.slots = P.slots + cs.length) := by
  obtain ⟨A, K1, K2, K3, K4, K5, K6⟩ := K
  have e : A.slots.size = cs.length := K3.trans hlen
  have hat : ∀ (i : Nat) (hi : i < cs.length), A.slots[i]? = some (.int cs[i]) := fun i hi => by rw [K5 i (by omega)]; simp [List.getD_eq_getElem?_getD, hi]
  have hcv : ∀ (i : Nat) (hi : i < cs.length), cv A i = cs[i] := fun i hi => by unfold cv; rw [hat i hi]
  have hty : Typed .char A := fun i v hv => by
    have hi : i < A.slots.size := (Array.getElem?_eq_some_iff.mp hv).1
    have q := K5 i hi
    rw [hv] at q
    rw [Option.some.inj q]
    exact K6 i hi
  refine Back.mono (back hZ hw wi E V C K1 hty S hz (by omega) (by omega) (fun i hi => by rw [hcv i (by omega)]; exact hall _ (List.getElem_mem _)) hfr hlo) (fun P a hp => ⟨hp.1, hp.2.1, hp.2.2.1, by rw [e]; exact hp.2.2.2⟩) (fun P a v B hp hq => ?_)
  obtain ⟨L, ⟨q1, q2, q3, q4, q5, q6, q7, ⟨V', v1, v2, v3, v4, v5⟩, q9⟩, hl, hc, hs⟩ := hq
  refine ⟨L, ⟨q1, q2, q3, q4, q5, q6, q7, ⟨V'.cls, v3, V', v1, rfl, by rw [v4, e, hlen], K4, fun i hi => ?_, fun i hi => ?_⟩, q9⟩, hl, hc, by rw [hs, e]⟩
  · have hi' : i < cs.length := by omega
    rw [v5 i (by omega), hcv i hi']; simp [List.getD_eq_getElem?_getD, hi']
  · have hi' : i < cs.length := by omega
    simp only [List.getD_eq_getElem?_getD, List.getElem?_map, List.getElem?_eq_getElem hi', Option.map_some, Option.getD_some]
    exact fits_lo8 _
end StrChars.Road
namespace StrChars.Road
open Jvm Sem ClassFile Op Lib Jvm.Stand Jvm.Free Jvm.Free.XT
/-- WHAT COMES BACK, in the writer's own shape -/
def QV (Z : State) (x : Addr) (N : Int32) (bs : List Int32) (h : Heap) (n0 : Nat) (v : Option Value) (h' : Heap) (L : List Loc) : Prop := v = none ∧ RoadKit.Fr n0 L ∧ RoadKit.Keep h h' [x] ∧ RoadKit.Exa Z h' x ST ∧ RoadKit.Fld Z h' x ST "coder" "B" (.int 0) ∧
  ∃ (t : Addr) (kb : ClassId), n0 ≤ t ∧ h.size ≤ t ∧ ¬ t = x ∧ RoadKit.Fld Z h' x ST "value" "[B" (.ref t) ∧ RoadKit.Arv Z h' t kb .byte N (bs.map Value.int) (.int 0)
/-- **new String(chars) AT A CALL, FOR THE WRITER**: a char[] of n known ints, each 0 to 255 -/
theorem backV {p : Program} {l : Launch} {e : Env} {R : Room} {s : State} {args : Array Value} {below : List Frame} {len W : Nat} {Z : State} {a0 : Array Value} {h : Heap} (hZ : Z.Warmed39 s.vm) (hw : ∀ d ∈ words, d.before a0 Z = true) {kI : Nat} (wi : (Jvm.Cond.instantiable ST kI).before a0 Z = true)
    {x b : Addr} {kC : ClassId} {cs bs : List Int32} {d v0 c0 : Value} {z N : Int32} {n n0 : Nat} (hx0 : n0 ≤ x) (hh0 : n0 ≤ h.size) (E : RoadKit.Exa Z h x ST) (V : RoadKit.Fld Z h x ST "value" "[B" v0) (C : RoadKit.Fld Z h x ST "coder" "B" c0) (K : RoadKit.Arv Z h b kC .char N (cs.map Value.int) d) (S : RoadKit.Sta Z h ST "COMPACT_STRINGS" "Z" (.int z)) (hz : ¬ z = 0)
    (hn : cs.length = n) (hN : N = Int32.ofNat n) (l0 : 0 < n) (l2 : n ≤ 4000) (hp : ∀ c ∈ cs, ¬ c < 0 ∧ ¬ (255 : Int32) < c) (hb : bs = cs.map (fun c => c.toInt8.toInt32)) (hfr : 4 ≤ R.frames) (hlo : W + 65 ≤ R.locals) :
    Back l R p e below s args (⟨"java/lang/String", "<init>", "([C)V"⟩ : MethodName) len W (fun P a => a = #[.ref x, .ref b] ∧ P.U.heap = h ∧ P.cells + 1 ≤ R.cells ∧ P.slots + n ≤ R.slots)
      (fun P _ v B => ∃ L, QV Z x N bs h n0 v B.U.heap L ∧ B.locs = P.locs ++ L ∧ B.cells = P.cells + 1 ∧ B.slots = P.slots + n) := by
  subst hn hN hb
  refine Back.mono (backArv hZ hw wi E V C K S hz (n32 (by omega)) l0 (by omega) (fun c hc => (hp c hc).2) hfr hlo) (fun P a hp => hp) (fun P a v B hp hq => ?_)
  obtain ⟨L, ⟨q1, q2, q3, q4, q5, q6, q7, ⟨kb, v1, v2⟩, q9⟩, hl, hc, hs⟩ := hq
  exact ⟨L, ⟨q1, fun y hy => by rw [q2 y hy]; exact hx0, q3, q5, q7, h.size, kb, hh0, Nat.le_refl _, Nat.ne_of_gt E.lt, q6, by rw [List.map_map]; exact v2⟩, hl, hc, hs⟩
end StrChars.Road
end Jvm.Pilot.@@N@@
namespace Jvm.Pilot.@@N@@
open Jvm Jvm.ClassFile Sem Op Lib Jvm.Free Jvm.Stand Jvm.LawKit Jvm.RoadKit Bundle Jvm.Pilot.@@N@@.Jvm.D
section OwnSmall
variable {x y : Int32} {v : Value}
theorem qEqT (h : x = y) : if_icmp.holds .eq x y = true := (teq h).1
theorem qEqF (h : ¬ x = y) : if_icmp.holds .eq x y = false := (feq h).1
theorem qNeT (h : ¬ x = y) : if_icmp.holds .ne x y = true := (feq h).2
theorem qNeF (h : x = y) : if_icmp.holds .ne x y = false := (teq h).2
theorem qLtT (h : x < y) : if_icmp.holds .lt x y = true := (tlt h).1
theorem qGeF (h : x < y) : if_icmp.holds .ge x y = false := (tlt h).2.1
theorem qGtT (h : y < x) : if_icmp.holds .gt x y = true := (tlt h).2.2.1
theorem qLeF (h : y < x) : if_icmp.holds .le x y = false := (tlt h).2.2.2
theorem qLtF (h : ¬ x < y) : if_icmp.holds .lt x y = false := by simp [if_icmp.holds, h]
theorem qGeT (h : ¬ x < y) : if_icmp.holds .ge x y = true := by
  have h' : y ≤ x := by rw [Int32.le_iff_toInt_le]; rw [Int32.lt_iff_toInt_lt] at h; omega
  simp [if_icmp.holds, h']
theorem qGtF (h : ¬ y < x) : if_icmp.holds .gt x y = false := by simp [if_icmp.holds, h]
theorem qLeT (h : ¬ y < x) : if_icmp.holds .le x y = true := by
  have h' : x ≤ y := by rw [Int32.le_iff_toInt_le]; rw [Int32.lt_iff_toInt_lt] at h; omega
  simp [if_icmp.holds, h']
theorem zEqT (h : x = 0) : ifCond.holds .eq x = true := by rw [if0]; exact qEqT h
theorem zEqF (h : ¬ x = 0) : ifCond.holds .eq x = false := by rw [if0]; exact qEqF h
theorem zNeT (h : ¬ x = 0) : ifCond.holds .ne x = true := by rw [if0]; exact qNeT h
theorem zNeF (h : x = 0) : ifCond.holds .ne x = false := by rw [if0]; exact qNeF h
theorem zLtT (h : x < 0) : ifCond.holds .lt x = true := by rw [if0]; exact qLtT h
theorem zLtF (h : ¬ x < 0) : ifCond.holds .lt x = false := by rw [if0]; exact qLtF h
theorem zGeT (h : ¬ x < 0) : ifCond.holds .ge x = true := by rw [if0]; exact qGeT h
theorem zGeF (h : x < 0) : ifCond.holds .ge x = false := by rw [if0]; exact qGeF h
theorem zGtT (h : 0 < x) : ifCond.holds .gt x = true := by rw [if0]; exact qGtT h
theorem zGtF (h : ¬ 0 < x) : ifCond.holds .gt x = false := by rw [if0]; exact qGtF h
theorem zLeT (h : ¬ 0 < x) : ifCond.holds .le x = true := by rw [if0]; exact qLeT h
theorem zLeF (h : 0 < x) : ifCond.holds .le x = false := by rw [if0]; exact qLeF h
theorem cat1 (h : v.isRef = true) : v.category = 1 := by cases v <;> first | rfl | cases h
theorem nrR {c : String} (h : v.isRef = true) : narrow (.object c) v = v := by cases v <;> first | rfl | cases h
theorem ftR {c : String} (h : v.isRef = true) : fits (.object c) v = true := by cases v <;> first | rfl | cases h
/-- a char below 256 -/
def Chr (c : Int32) : Prop := ¬ c < 0 ∧ ¬ (255 : Int32) < c
theorem Chr.nar {c : Int32} (h : Chr c) : nar .char c = c := by
  have q := c_i2c c
  show c.toUInt32.toUInt16.toUInt32.toInt32 = c
  apply Int32.toInt_inj.mp
  have h1 := h.1
  have h2 := h.2
  rw [Int32.lt_iff_toInt_lt] at h1 h2
  have e1 : (0 : Int32).toInt = 0 := rfl
  have e2 : (255 : Int32).toInt = 255 := rfl
  omega
theorem chr255 (z : Int32) : Chr ((z &&& (255 : Int32)).toUInt32.toUInt16.toUInt32.toInt32) := by
  rw [i2c_mask]
  have q := c_and z 255 (by decide)
  have e1 : (0 : Int32).toInt = 0 := rfl
  have e2 : (255 : Int32).toInt = 255 := rfl
  refine ⟨fun h => ?_, fun h => ?_⟩ <;> rw [Int32.lt_iff_toInt_lt] at h <;> omega
end OwnSmall
end Jvm.Pilot.@@N@@
namespace Jvm.Pilot.@@N@@
open Jvm Jvm.ClassFile Sem Op Lib Jvm.Free Jvm.Stand Jvm.LawKit Jvm.RoadKit Bundle Jvm.Pilot.@@N@@.Jvm.D
section OwnKit
/-- from (T, f) the run comes to an end of which P speaks -/
def Go (p : Program) (e : Env) (below : List Frame) (P : Outcome → State → Prop) (T : State) (f : JFrame) : Prop :=
  ∃ s₂ o, Steps p.tables e below (T.setTop f) s₂ ∧ s₂.status = .running ∧ Ended s₂ below o ∧ P o s₂
/-- the end of a body: narrow (nothing interned) or wide -/
def EndB (wd : Bool) (EL : List (String × Nat)) (Z s : State) (o : Outcome) (t : State) (L : List Loc) (k n : Nat) : Prop :=
  match wd with
  | true => CHr Z EL s.vm s.heap t.vm t.heap ∧ ReturnedEndW s o t L k n
  | false => FrameEnd s o t L k n
def Done (wd : Bool) (EL : List (String × Nat)) (Z s : State) (n0 : Nat) (h0 : Heap) (ws : List Addr) (rc rs : Nat) (Q : Option Value → Heap → Prop) (o : Outcome) (U : State) : Prop :=
  ∃ v L, o = .returned v ∧ (Q v U.heap ∧ Keep h0 U.heap ws ∧ Fr n0 L) ∧ EndB wd EL Z s o U L rc rs
/-- where a walk stands: its state T, its heap h; F: places that no booked literal lies in; ws0: what may be written of what stood at the body's start -/
def Sd (wd : Bool) (EL : List (String × Nat)) (a0 : Array Value) (p : Program) (l : Launch) (e : Env) (R : Room) (s : State) (m : MethodId) (args : Array Value) (below : List Frame) (meth : Method) (c : Code) (Z : State) (own : String) (n0 : Nat) (h0 : Heap) (ws0 : List Addr)
    (T : State) (h : Heap) (F : List Addr) (locs : List Loc) (cells slots : Nat) : Prop :=
  (p.tables.exec = Jvm.exec ∧ meth.locks = false ∧ EW Z a0 EL ∧ s.heap = h0 ∧ Old Z n0 h0 ∧ ∀ x ∈ ws0, n0 ≤ x) ∧
  ∃ vm0 k0, (wd = false → vm0 = s.vm) ∧ Stand p l e R (s.setVm vm0) m args below meth c T locs cells slots ∧ T.heap = h ∧ s.Since vm0 k0 ∧ k0 ≤ h.size ∧ Z.Warmed39 vm0 ∧ vm0.findClass own = some m.cls ∧ Old Z n0 h ∧ Fr n0 locs ∧ Keep h0 h ws0 ∧
    CHr Z EL s.vm s.heap vm0 h ∧ ∀ x ∈ F, Safe Z EL vm0 h x ∧ x < h.size
variable {wd : Bool} {EL : List (String × Nat)} {a0 : Array Value} {p : Program} {l : Launch} {e : Env} {R : Room} {s : State} {m : MethodId} {args : Array Value} {below : List Frame} {meth : Method} {c : Code} {Z : State} {own : String} {n0 : Nat} {h0 : Heap} {ws0 : List Addr}
  {T T' : State} {h h' : Heap} {F F' : List Addr} {locs locs' : List Loc} {cells slots cells' slots' : Nat} {P : Outcome → State → Prop} {pc pc' : Nat} {Ls : Array Slot} {st rest : List Value} {f f' : JFrame} {vm0 : Vm} {k0 : Nat} {ws : List Addr}
theorem Go.by (k : ∀ t, Steps p.tables e below (T'.setTop f') t → Steps p.tables e below (T.setTop f) t) (g : Go p e below P T' f') : Go p e below P T f := by
  obtain ⟨s₂, o, h1, h2⟩ := g
  exact ⟨s₂, o, k _ h1, h2⟩
theorem Go.cast (q : f = f') (g : Go p e below P T f') : Go p e below P T f := q ▸ g
theorem own_ole (O : Old Z n0 h) : n0 ≤ h.size := by rw [← O.1]; exact O.2.1
/-- what may be written -/
def Wok (n0 : Nat) (h0 : Heap) (ws0 : List Addr) (a : Addr) : Prop := a ∈ ws0 ∨ h0.size ≤ a
theorem Wok.le {a : Addr} (w : Wok n0 h0 ws0 a) (h1 : n0 ≤ h0.size) (h2 : ∀ x ∈ ws0, n0 ≤ x) : n0 ≤ a := by
  rcases w with w | w
  · exact h2 _ w
  · exact Nat.le_trans h1 w
theorem Sd.hx (S : Sd wd EL a0 p l e R s m args below meth c Z own n0 h0 ws0 T h F locs cells slots) : p.tables.exec = Jvm.exec := S.1.1
theorem Sd.at (S : Sd wd EL a0 p l e R s m args below meth c Z own n0 h0 ws0 T h F locs cells slots) : At T m c below := by
  obtain ⟨-, vm0, k0, -, X, -⟩ := S
  exact X.here
theorem Sd.old (S : Sd wd EL a0 p l e R s m args below meth c Z own n0 h0 ws0 T h F locs cells slots) : Old Z n0 h := by
  obtain ⟨-, vm0, k0, -, -, -, -, -, -, -, O, -⟩ := S
  exact O
theorem Sd.kept (S : Sd wd EL a0 p l e R s m args below meth c Z own n0 h0 ws0 T h F locs cells slots) : Keep h0 h ws0 := by
  obtain ⟨-, vm0, k0, -, -, -, -, -, -, -, -, -, K, -⟩ := S
  exact K
theorem Sd.sz (S : Sd wd EL a0 p l e R s m args below meth c Z own n0 h0 ws0 T h F locs cells slots) : n0 ≤ h.size := Nat.le_trans (own_ole S.1.2.2.2.2.1) S.kept.1
theorem Sd.ge (S : Sd wd EL a0 p l e R s m args below meth c Z own n0 h0 ws0 T h F locs cells slots) {a : Addr} (w : Wok n0 h0 ws0 a) : n0 ≤ a := w.le (own_ole S.1.2.2.2.2.1) S.1.2.2.2.2.2
/-- the walk goes on over the same tables: the heap moved by a Keep -/
theorem Sd.close (A : p.tables.exec = Jvm.exec ∧ meth.locks = false ∧ EW Z a0 EL ∧ s.heap = h0 ∧ Old Z n0 h0 ∧ ∀ x ∈ ws0, n0 ≤ x) (hv : wd = false → vm0 = s.vm) (X : Stand p l e R (s.setVm vm0) m args below meth c T' locs' cells' slots') (eT : T'.heap = h') (hS : s.Since vm0 k0) (hk : k0 ≤ h.size) (hZ : Z.Warmed39 vm0) (hown : vm0.findClass own = some m.cls) (O : Old Z n0 h) (N : Fr n0 locs') (K0 : Keep h0 h ws0)
    (C : CHr Z EL s.vm s.heap vm0 h) (hF : ∀ x ∈ F, Safe Z EL vm0 h x ∧ x < h.size) (K : Keep h h' ws) (hws : ∀ x ∈ ws, Wok n0 h0 ws0 x ∧ Safe Z EL vm0 h x) (hF' : ∀ x ∈ F', x ∈ F ∨ (h.size ≤ x ∧ x < h'.size)) : Sd wd EL a0 p l e R s m args below meth c Z own n0 h0 ws0 T' h' F' locs' cells' slots' := by
  have hsf : ∀ x ∈ ws, Safe Z EL vm0 h x := fun x hx => (hws x hx).2
  refine ⟨A, vm0, k0, hv, X, eT, hS, Nat.le_trans hk K.1, hZ, hown, O.keep K fun x hx => (hws x hx).1.le (own_ole A.2.2.2.2.1) A.2.2.2.2.2, N, K0.trans K fun x hx => (hws x hx).1, C.trans (CHr.keep K hsf C.1), fun x hx => ?_⟩
  rcases hF' x hx with q | ⟨q1, q2⟩
  · exact ⟨Safe.keep K hsf C.1 (hF x q).1, Nat.lt_of_lt_of_le (hF x q).2 K.1⟩
  · exact ⟨Safe.keep K hsf C.1 (Safe.new q1), q2⟩
theorem Ext.kp (E : Ext h h') : Keep h h' [] := (Keep.refl h []).ext E
theorem noWs : ∀ x ∈ ([] : List Addr), Wok n0 h0 ws0 x ∧ Safe Z EL vm0 h x := fun _ q => nomatch q
/-! ### plain steps -/
theorem Sd.aloadN (S : Sd wd EL a0 p l e R s m args below meth c Z own n0 h0 ws0 T h F locs cells slots) {k : Fin 4} {v : Value} (pc' : Nat) (hd : decode c.code pc = .ok (.aload_n k, 1)) (hl : Ls[k.val]? = some (.val v)) (hv : v.isRef = true) (g : Go p e below P T (mkF m pc' Ls (v :: st))) (hp : pc + 1 = pc' := by rfl) : Go p e below P T (mkF m pc Ls st) := by
  subst hp; exact Go.by (fun _ q => XS.aloadN S.at S.hx rfl hd hl hv q) g
theorem Sd.aload (S : Sd wd EL a0 p l e R s m args below meth c Z own n0 h0 ws0 T h F locs cells slots) {k : Nat} {v : Value} (pc' : Nat) (hd : decode c.code pc = .ok (.aload k, 2)) (hl : Ls[k]? = some (.val v)) (hv : v.isRef = true) (g : Go p e below P T (mkF m pc' Ls (v :: st))) (hp : pc + 2 = pc' := by rfl) : Go p e below P T (mkF m pc Ls st) := by
  subst hp; exact Go.by (fun _ q => XS.aload S.at S.hx rfl hd hl hv q) g
theorem Sd.iloadN (S : Sd wd EL a0 p l e R s m args below meth c Z own n0 h0 ws0 T h F locs cells slots) {k : Fin 4} {v : Int32} (pc' : Nat) (hd : decode c.code pc = .ok (.iload_n k, 1)) (hl : Ls[k.val]? = some (.val (.int v))) (g : Go p e below P T (mkF m pc' Ls (.int v :: st))) (hp : pc + 1 = pc' := by rfl) : Go p e below P T (mkF m pc Ls st) := by
  subst hp; exact Go.by (fun _ q => XS.iloadN S.at S.hx rfl hd hl q) g
theorem Sd.iload (S : Sd wd EL a0 p l e R s m args below meth c Z own n0 h0 ws0 T h F locs cells slots) {k : Nat} {v : Int32} (pc' : Nat) (hd : decode c.code pc = .ok (.iload k, 2)) (hl : Ls[k]? = some (.val (.int v))) (g : Go p e below P T (mkF m pc' Ls (.int v :: st))) (hp : pc + 2 = pc' := by rfl) : Go p e below P T (mkF m pc Ls st) := by
  subst hp; exact Go.by (fun _ q => XS.iload S.at S.hx rfl hd hl q) g
theorem Sd.lloadN (S : Sd wd EL a0 p l e R s m args below meth c Z own n0 h0 ws0 T h F locs cells slots) {k : Fin 4} {v : Int64} (pc' : Nat) (hd : decode c.code pc = .ok (.lload_n k, 1)) (hl : Ls[k.val]? = some (.val (.long v))) (g : Go p e below P T (mkF m pc' Ls (.long v :: st))) (hp : pc + 1 = pc' := by rfl) : Go p e below P T (mkF m pc Ls st) := by
  subst hp; exact Go.by (fun _ q => XS.lloadN S.at S.hx rfl hd hl q) g
theorem Sd.lload (S : Sd wd EL a0 p l e R s m args below meth c Z own n0 h0 ws0 T h F locs cells slots) {k : Nat} {v : Int64} (pc' : Nat) (hd : decode c.code pc = .ok (.lload k, 2)) (hl : Ls[k]? = some (.val (.long v))) (g : Go p e below P T (mkF m pc' Ls (.long v :: st))) (hp : pc + 2 = pc' := by rfl) : Go p e below P T (mkF m pc Ls st) := by
  subst hp; exact Go.by (fun _ q => XS.lload S.at S.hx rfl hd hl q) g
theorem Sd.iconst (S : Sd wd EL a0 p l e R s m args below meth c Z own n0 h0 ws0 T h F locs cells slots) {i : Int} (pc' : Nat) (z : Int32) (hd : decode c.code pc = .ok (.iconst i, 1)) (g : Go p e below P T (mkF m pc' Ls (.int z :: st))) (hp : pc + 1 = pc' := by rfl) (hz : Int32.ofInt i = z := by rfl) : Go p e below P T (mkF m pc Ls st) := by
  subst hp hz; exact Go.by (fun _ q => XS.iconst S.at S.hx rfl hd q) g
theorem Sd.bipush (S : Sd wd EL a0 p l e R s m args below meth c Z own n0 h0 ws0 T h F locs cells slots) {i : Int} (pc' : Nat) (z : Int32) (hd : decode c.code pc = .ok (.bipush i, 2)) (g : Go p e below P T (mkF m pc' Ls (.int z :: st))) (hp : pc + 2 = pc' := by rfl) (hz : (Int8.ofInt i).toInt32 = z := by rfl) : Go p e below P T (mkF m pc Ls st) := by
  subst hp hz; exact Go.by (fun _ q => XS.bipush S.at S.hx rfl hd q) g
theorem Sd.sipush (S : Sd wd EL a0 p l e R s m args below meth c Z own n0 h0 ws0 T h F locs cells slots) {i : Int} (pc' : Nat) (z : Int32) (hd : decode c.code pc = .ok (.sipush i, 3)) (g : Go p e below P T (mkF m pc' Ls (.int z :: st))) (hp : pc + 3 = pc' := by rfl) (hz : (Int16.ofInt i).toInt32 = z := by rfl) : Go p e below P T (mkF m pc Ls st) := by
  subst hp hz; exact Go.by (fun _ q => XS.sipush S.at S.hx rfl hd q) g
theorem Sd.lconst (S : Sd wd EL a0 p l e R s m args below meth c Z own n0 h0 ws0 T h F locs cells slots) {i : Fin 2} (pc' : Nat) (z : Int64) (hd : decode c.code pc = .ok (.lconst i, 1)) (g : Go p e below P T (mkF m pc' Ls (.long z :: st))) (hp : pc + 1 = pc' := by rfl) (hz : Int64.ofNat i = z := by rfl) : Go p e below P T (mkF m pc Ls st) := by
  subst hp hz; exact Go.by (fun _ q => XS.lconst S.at S.hx rfl hd q) g
theorem Sd.anull (S : Sd wd EL a0 p l e R s m args below meth c Z own n0 h0 ws0 T h F locs cells slots) (pc' : Nat) (hd : decode c.code pc = .ok (.aconst_null, 1)) (g : Go p e below P T (mkF m pc' Ls (.null :: st))) (hp : pc + 1 = pc' := by rfl) : Go p e below P T (mkF m pc Ls st) := by
  subst hp; exact Go.by (fun _ q => XS.aconstNull S.at S.hx rfl hd q) g
theorem Sd.istoreN (S : Sd wd EL a0 p l e R s m args below meth c Z own n0 h0 ws0 T h F locs cells slots) {k : Fin 4} {x : Int32} (pc' : Nat) (l' : Array Slot) (hd : decode c.code pc = .ok (.istore_n k, 1)) (hl : storeLocals Ls k.val (.int x) = some l') (g : Go p e below P T (mkF m pc' l' st)) (hp : pc + 1 = pc' := by rfl) : Go p e below P T (mkF m pc Ls (.int x :: st)) := by
  subst hp; exact Go.by (fun _ q => XS.istoreN S.at S.hx rfl hd rfl hl q) g
theorem Sd.istore (S : Sd wd EL a0 p l e R s m args below meth c Z own n0 h0 ws0 T h F locs cells slots) {k : Nat} {x : Int32} (pc' : Nat) (l' : Array Slot) (hd : decode c.code pc = .ok (.istore k, 2)) (hl : storeLocals Ls k (.int x) = some l') (g : Go p e below P T (mkF m pc' l' st)) (hp : pc + 2 = pc' := by rfl) : Go p e below P T (mkF m pc Ls (.int x :: st)) := by
  subst hp; exact Go.by (fun _ q => XS.istore S.at S.hx rfl hd rfl hl q) g
theorem Sd.lstoreN (S : Sd wd EL a0 p l e R s m args below meth c Z own n0 h0 ws0 T h F locs cells slots) {k : Fin 4} {x : Int64} (pc' : Nat) (l' : Array Slot) (hd : decode c.code pc = .ok (.lstore_n k, 1)) (hl : storeLocals Ls k.val (.long x) = some l') (g : Go p e below P T (mkF m pc' l' st)) (hp : pc + 1 = pc' := by rfl) : Go p e below P T (mkF m pc Ls (.long x :: st)) := by
  subst hp; exact Go.by (fun _ q => XS.lstoreN S.at S.hx rfl hd rfl hl q) g
theorem Sd.lstore (S : Sd wd EL a0 p l e R s m args below meth c Z own n0 h0 ws0 T h F locs cells slots) {k : Nat} {x : Int64} (pc' : Nat) (l' : Array Slot) (hd : decode c.code pc = .ok (.lstore k, 2)) (hl : storeLocals Ls k (.long x) = some l') (g : Go p e below P T (mkF m pc' l' st)) (hp : pc + 2 = pc' := by rfl) : Go p e below P T (mkF m pc Ls (.long x :: st)) := by
  subst hp; exact Go.by (fun _ q => XS.lstore S.at S.hx rfl hd rfl hl q) g
theorem Sd.astoreN (S : Sd wd EL a0 p l e R s m args below meth c Z own n0 h0 ws0 T h F locs cells slots) {k : Fin 4} {x : Value} (pc' : Nat) (l' : Array Slot) (hd : decode c.code pc = .ok (.astore_n k, 1)) (hv : x.isRef = true) (hl : storeLocals Ls k.val x = some l') (g : Go p e below P T (mkF m pc' l' st)) (hp : pc + 1 = pc' := by rfl) : Go p e below P T (mkF m pc Ls (x :: st)) := by
  subst hp; exact Go.by (fun _ q => XS.astoreN S.at S.hx rfl hd rfl hv hl q) g
theorem Sd.astore (S : Sd wd EL a0 p l e R s m args below meth c Z own n0 h0 ws0 T h F locs cells slots) {k : Nat} {x : Value} (pc' : Nat) (l' : Array Slot) (hd : decode c.code pc = .ok (.astore k, 2)) (hv : x.isRef = true) (hl : storeLocals Ls k x = some l') (g : Go p e below P T (mkF m pc' l' st)) (hp : pc + 2 = pc' := by rfl) : Go p e below P T (mkF m pc Ls (x :: st)) := by
  subst hp; exact Go.by (fun _ q => XS.astore S.at S.hx rfl hd rfl hv hl q) g
theorem Sd.iinc (S : Sd wd EL a0 p l e R s m args below meth c Z own n0 h0 ws0 T h F locs cells slots) {k : Nat} {cst : Int} {x : Int32} (pc' : Nat) (l' : Array Slot) (hd : decode c.code pc = .ok (.iinc k cst, 3)) (hl : Ls[k]? = some (.val (.int x))) (hl' : storeLocals Ls k (.int (x + Int32.ofInt cst)) = some l') (g : Go p e below P T (mkF m pc' l' st)) (hp : pc + 3 = pc' := by rfl) : Go p e below P T (mkF m pc Ls st) := by
  subst hp; exact Go.by (fun _ q => XS.iinc S.at S.hx rfl hd hl hl' q) g
theorem Sd.goto (S : Sd wd EL a0 p l e R s m args below meth c Z own n0 h0 ws0 T h F locs cells slots) {o : Int} (pc' : Nat) (hd : decode c.code pc = .ok (.goto o, 3)) (g : Go p e below P T (mkF m pc' Ls st)) (ho : 0 ≤ (pc : Int) + o := by decide) (hp : ((pc : Int) + o).toNat = pc' := by decide) : Go p e below P T (mkF m pc Ls st) :=
  Go.by (fun _ q => XS.goto S.at S.hx rfl rfl hd ho hp q) g
theorem Sd.ifY (S : Sd wd EL a0 p l e R s m args below meth c Z own n0 h0 ws0 T h F locs cells slots) {cd : ClassFile.Cond} {x : Int32} {o : Int} (pc' : Nat) (hd : decode c.code pc = .ok (.ifCond cd o, 3)) (hc : ifCond.holds cd x = true) (g : Go p e below P T (mkF m pc' Ls st)) (ho : 0 ≤ (pc : Int) + o := by decide) (hp : ((pc : Int) + o).toNat = pc' := by decide) : Go p e below P T (mkF m pc Ls (.int x :: st)) :=
  Go.by (fun _ q => XS.ifYes S.at S.hx rfl rfl hd rfl hc ho hp q) g
theorem Sd.ifN (S : Sd wd EL a0 p l e R s m args below meth c Z own n0 h0 ws0 T h F locs cells slots) {cd : ClassFile.Cond} {x : Int32} {o : Int} (pc' : Nat) (hd : decode c.code pc = .ok (.ifCond cd o, 3)) (hc : ifCond.holds cd x = false) (g : Go p e below P T (mkF m pc' Ls st)) (hp : pc + 3 = pc' := by rfl) : Go p e below P T (mkF m pc Ls (.int x :: st)) := by
  subst hp; exact Go.by (fun _ q => XS.ifNo S.at S.hx rfl hd rfl hc q) g
theorem Sd.icmpY (S : Sd wd EL a0 p l e R s m args below meth c Z own n0 h0 ws0 T h F locs cells slots) {cd : ClassFile.Cond} {x y : Int32} {o : Int} (pc' : Nat) (hd : decode c.code pc = .ok (.if_icmp cd o, 3)) (hc : if_icmp.holds cd x y = true) (g : Go p e below P T (mkF m pc' Ls st)) (ho : 0 ≤ (pc : Int) + o := by decide) (hp : ((pc : Int) + o).toNat = pc' := by decide) : Go p e below P T (mkF m pc Ls (.int y :: .int x :: st)) :=
  Go.by (fun _ q => XS.icmpYes S.at S.hx rfl rfl hd rfl hc ho hp q) g
theorem Sd.icmpN (S : Sd wd EL a0 p l e R s m args below meth c Z own n0 h0 ws0 T h F locs cells slots) {cd : ClassFile.Cond} {x y : Int32} {o : Int} (pc' : Nat) (hd : decode c.code pc = .ok (.if_icmp cd o, 3)) (hc : if_icmp.holds cd x y = false) (g : Go p e below P T (mkF m pc' Ls st)) (hp : pc + 3 = pc' := by rfl) : Go p e below P T (mkF m pc Ls (.int y :: .int x :: st)) := by
  subst hp; exact Go.by (fun _ q => XS.icmpNo S.at S.hx rfl hd rfl hc q) g
theorem Sd.nullY (S : Sd wd EL a0 p l e R s m args below meth c Z own n0 h0 ws0 T h F locs cells slots) {o : Int} (pc' : Nat) (hd : decode c.code pc = .ok (.ifnull o, 3)) (g : Go p e below P T (mkF m pc' Ls st)) (ho : 0 ≤ (pc : Int) + o := by decide) (hp : ((pc : Int) + o).toNat = pc' := by decide) : Go p e below P T (mkF m pc Ls (.null :: st)) :=
  Go.by (fun _ q => XS.ifnullYes S.at S.hx rfl rfl hd rfl ho hp q) g
theorem Sd.nullN (S : Sd wd EL a0 p l e R s m args below meth c Z own n0 h0 ws0 T h F locs cells slots) {o : Int} {b : Addr} (pc' : Nat) (hd : decode c.code pc = .ok (.ifnull o, 3)) (g : Go p e below P T (mkF m pc' Ls st)) (hp : pc + 3 = pc' := by rfl) : Go p e below P T (mkF m pc Ls (.ref b :: st)) := by
  subst hp; exact Go.by (fun _ q => XS.ifnullNo S.at S.hx rfl hd rfl q) g
theorem Sd.nonnullY (S : Sd wd EL a0 p l e R s m args below meth c Z own n0 h0 ws0 T h F locs cells slots) {o : Int} {b : Addr} (pc' : Nat) (hd : decode c.code pc = .ok (.ifnonnull o, 3)) (g : Go p e below P T (mkF m pc' Ls st)) (ho : 0 ≤ (pc : Int) + o := by decide) (hp : ((pc : Int) + o).toNat = pc' := by decide) : Go p e below P T (mkF m pc Ls (.ref b :: st)) :=
  Go.by (fun _ q => XT.ifnonnullYes S.at S.hx rfl rfl hd rfl ho hp q) g
theorem Sd.nonnullN (S : Sd wd EL a0 p l e R s m args below meth c Z own n0 h0 ws0 T h F locs cells slots) {o : Int} (pc' : Nat) (hd : decode c.code pc = .ok (.ifnonnull o, 3)) (g : Go p e below P T (mkF m pc' Ls st)) (hp : pc + 3 = pc' := by rfl) : Go p e below P T (mkF m pc Ls (.null :: st)) := by
  subst hp; exact Go.by (fun _ q => XT.ifnonnullNo S.at S.hx rfl hd rfl q) g
theorem Sd.acmpY (S : Sd wd EL a0 p l e R s m args below meth c Z own n0 h0 ws0 T h F locs cells slots) {cd : ClassFile.ACond} {x y : Value} {o : Int} (pc' : Nat) (hd : decode c.code pc = .ok (.if_acmp cd o, 3)) (hx : x.isRef = true) (hy : y.isRef = true) (hc : XT.acmp cd x y = true) (g : Go p e below P T (mkF m pc' Ls st)) (ho : 0 ≤ (pc : Int) + o := by decide) (hp : ((pc : Int) + o).toNat = pc' := by decide) : Go p e below P T (mkF m pc Ls (y :: x :: st)) :=
  Go.by (fun _ q => XT.acmpYes S.at S.hx rfl rfl hd rfl hx hy hc ho hp q) g
theorem Sd.acmpN (S : Sd wd EL a0 p l e R s m args below meth c Z own n0 h0 ws0 T h F locs cells slots) {cd : ClassFile.ACond} {x y : Value} {o : Int} (pc' : Nat) (hd : decode c.code pc = .ok (.if_acmp cd o, 3)) (hx : x.isRef = true) (hy : y.isRef = true) (hc : XT.acmp cd x y = false) (g : Go p e below P T (mkF m pc' Ls st)) (hp : pc + 3 = pc' := by rfl) : Go p e below P T (mkF m pc Ls (y :: x :: st)) := by
  subst hp; exact Go.by (fun _ q => XT.acmpNo S.at S.hx rfl hd rfl hx hy hc q) g
theorem Sd.dup (S : Sd wd EL a0 p l e R s m args below meth c Z own n0 h0 ws0 T h F locs cells slots) {x : Value} (pc' : Nat) (hd : decode c.code pc = .ok (.dup, 1)) (hc : x.category = 1) (g : Go p e below P T (mkF m pc' Ls (x :: x :: st))) (hp : pc + 1 = pc' := by rfl) : Go p e below P T (mkF m pc Ls (x :: st)) := by
  subst hp; exact Go.by (fun _ q => XS.dup S.at S.hx rfl hd rfl hc q) g
theorem Sd.dupX1 (S : Sd wd EL a0 p l e R s m args below meth c Z own n0 h0 ws0 T h F locs cells slots) {x y : Value} (pc' : Nat) (hd : decode c.code pc = .ok (.dup_x1, 1)) (hc : x.category = 1) (hc' : y.category = 1) (g : Go p e below P T (mkF m pc' Ls (x :: y :: x :: st))) (hp : pc + 1 = pc' := by rfl) : Go p e below P T (mkF m pc Ls (x :: y :: st)) := by
  subst hp; exact Go.by (fun _ q => XT.dupX1 S.at S.hx rfl hd rfl hc hc' q) g
theorem Sd.dup2 (S : Sd wd EL a0 p l e R s m args below meth c Z own n0 h0 ws0 T h F locs cells slots) {x y : Value} (pc' : Nat) (hd : decode c.code pc = .ok (.dup2, 1)) (hc : x.category = 1) (hc' : y.category = 1) (g : Go p e below P T (mkF m pc' Ls (x :: y :: x :: y :: st))) (hp : pc + 1 = pc' := by rfl) : Go p e below P T (mkF m pc Ls (x :: y :: st)) := by
  subst hp; exact Go.by (fun _ q => XT.dup2 S.at S.hx rfl hd rfl hc hc' q) g
theorem Sd.pop (S : Sd wd EL a0 p l e R s m args below meth c Z own n0 h0 ws0 T h F locs cells slots) {x : Value} (pc' : Nat) (hd : decode c.code pc = .ok (.pop, 1)) (hc : x.category = 1) (g : Go p e below P T (mkF m pc' Ls st)) (hp : pc + 1 = pc' := by rfl) : Go p e below P T (mkF m pc Ls (x :: st)) := by
  subst hp; exact Go.by (fun _ q => XT.pop S.at S.hx rfl hd rfl hc q) g
theorem Sd.iadd (S : Sd wd EL a0 p l e R s m args below meth c Z own n0 h0 ws0 T h F locs cells slots) {x : Int32} {y : Int32} (pc' : Nat) (hd : decode c.code pc = .ok (.iadd, 1)) (g : Go p e below P T (mkF m pc' Ls (.int (x + y) :: st))) (hp : pc + 1 = pc' := by rfl) : Go p e below P T (mkF m pc Ls (.int y :: .int x :: st)) := by
  subst hp; exact Go.by (fun _ q => XS.iadd S.at S.hx rfl hd rfl q) g
theorem Sd.isub (S : Sd wd EL a0 p l e R s m args below meth c Z own n0 h0 ws0 T h F locs cells slots) {x : Int32} {y : Int32} (pc' : Nat) (hd : decode c.code pc = .ok (.isub, 1)) (g : Go p e below P T (mkF m pc' Ls (.int (x - y) :: st))) (hp : pc + 1 = pc' := by rfl) : Go p e below P T (mkF m pc Ls (.int y :: .int x :: st)) := by
  subst hp; exact Go.by (fun _ q => XS.isub S.at S.hx rfl hd rfl q) g
theorem Sd.iand (S : Sd wd EL a0 p l e R s m args below meth c Z own n0 h0 ws0 T h F locs cells slots) {x : Int32} {y : Int32} (pc' : Nat) (hd : decode c.code pc = .ok (.iand, 1)) (g : Go p e below P T (mkF m pc' Ls (.int (x &&& y) :: st))) (hp : pc + 1 = pc' := by rfl) : Go p e below P T (mkF m pc Ls (.int y :: .int x :: st)) := by
  subst hp; exact Go.by (fun _ q => XS.iand S.at S.hx rfl hd rfl q) g
theorem Sd.imul (S : Sd wd EL a0 p l e R s m args below meth c Z own n0 h0 ws0 T h F locs cells slots) {x : Int32} {y : Int32} (pc' : Nat) (hd : decode c.code pc = .ok (.imul, 1)) (g : Go p e below P T (mkF m pc' Ls (.int (x * y) :: st))) (hp : pc + 1 = pc' := by rfl) : Go p e below P T (mkF m pc Ls (.int y :: .int x :: st)) := by
  subst hp; exact Go.by (fun _ q => XS.imul S.at S.hx rfl hd rfl q) g
theorem Sd.ior (S : Sd wd EL a0 p l e R s m args below meth c Z own n0 h0 ws0 T h F locs cells slots) {x : Int32} {y : Int32} (pc' : Nat) (hd : decode c.code pc = .ok (.ior, 1)) (g : Go p e below P T (mkF m pc' Ls (.int (x ||| y) :: st))) (hp : pc + 1 = pc' := by rfl) : Go p e below P T (mkF m pc Ls (.int y :: .int x :: st)) := by
  subst hp; exact Go.by (fun _ q => XS.ior S.at S.hx rfl hd rfl q) g
theorem Sd.ixor (S : Sd wd EL a0 p l e R s m args below meth c Z own n0 h0 ws0 T h F locs cells slots) {x : Int32} {y : Int32} (pc' : Nat) (hd : decode c.code pc = .ok (.ixor, 1)) (g : Go p e below P T (mkF m pc' Ls (.int (x ^^^ y) :: st))) (hp : pc + 1 = pc' := by rfl) : Go p e below P T (mkF m pc Ls (.int y :: .int x :: st)) := by
  subst hp; exact Go.by (fun _ q => XS.ixor S.at S.hx rfl hd rfl q) g
theorem Sd.ishl (S : Sd wd EL a0 p l e R s m args below meth c Z own n0 h0 ws0 T h F locs cells slots) {x : Int32} {y : Int32} (pc' : Nat) (hd : decode c.code pc = .ok (.ishl, 1)) (g : Go p e below P T (mkF m pc' Ls (.int (x <<< (y &&& 31)) :: st))) (hp : pc + 1 = pc' := by rfl) : Go p e below P T (mkF m pc Ls (.int y :: .int x :: st)) := by
  subst hp; exact Go.by (fun _ q => XS.ishl S.at S.hx rfl hd rfl q) g
theorem Sd.ishr (S : Sd wd EL a0 p l e R s m args below meth c Z own n0 h0 ws0 T h F locs cells slots) {x : Int32} {y : Int32} (pc' : Nat) (hd : decode c.code pc = .ok (.ishr, 1)) (g : Go p e below P T (mkF m pc' Ls (.int (x >>> (y &&& 31)) :: st))) (hp : pc + 1 = pc' := by rfl) : Go p e below P T (mkF m pc Ls (.int y :: .int x :: st)) := by
  subst hp; exact Go.by (fun _ q => XS.ishr S.at S.hx rfl hd rfl q) g
theorem Sd.iushr (S : Sd wd EL a0 p l e R s m args below meth c Z own n0 h0 ws0 T h F locs cells slots) {x : Int32} {y : Int32} (pc' : Nat) (hd : decode c.code pc = .ok (.iushr, 1)) (g : Go p e below P T (mkF m pc' Ls (.int ((x.toUInt32 >>> (y &&& 31).toUInt32).toInt32) :: st))) (hp : pc + 1 = pc' := by rfl) : Go p e below P T (mkF m pc Ls (.int y :: .int x :: st)) := by
  subst hp; exact Go.by (fun _ q => XS.iushr S.at S.hx rfl hd rfl q) g
theorem Sd.idiv (S : Sd wd EL a0 p l e R s m args below meth c Z own n0 h0 ws0 T h F locs cells slots) {x : Int32} {y : Int32} (pc' : Nat) (hd : decode c.code pc = .ok (.idiv, 1)) (hy : y ≠ 0) (g : Go p e below P T (mkF m pc' Ls (.int (x / y) :: st))) (hp : pc + 1 = pc' := by rfl) : Go p e below P T (mkF m pc Ls (.int y :: .int x :: st)) := by
  subst hp; exact Go.by (fun _ q => XS.idiv S.at S.hx rfl hd rfl hy q) g
theorem Sd.ladd (S : Sd wd EL a0 p l e R s m args below meth c Z own n0 h0 ws0 T h F locs cells slots) {x : Int64} {y : Int64} (pc' : Nat) (hd : decode c.code pc = .ok (.ladd, 1)) (g : Go p e below P T (mkF m pc' Ls (.long (x + y) :: st))) (hp : pc + 1 = pc' := by rfl) : Go p e below P T (mkF m pc Ls (.long y :: .long x :: st)) := by
  subst hp; exact Go.by (fun _ q => XS.ladd S.at S.hx rfl hd rfl q) g
theorem Sd.lsub (S : Sd wd EL a0 p l e R s m args below meth c Z own n0 h0 ws0 T h F locs cells slots) {x : Int64} {y : Int64} (pc' : Nat) (hd : decode c.code pc = .ok (.lsub, 1)) (g : Go p e below P T (mkF m pc' Ls (.long (x - y) :: st))) (hp : pc + 1 = pc' := by rfl) : Go p e below P T (mkF m pc Ls (.long y :: .long x :: st)) := by
  subst hp; exact Go.by (fun _ q => XS.lsub S.at S.hx rfl hd rfl q) g
theorem Sd.lmul (S : Sd wd EL a0 p l e R s m args below meth c Z own n0 h0 ws0 T h F locs cells slots) {x : Int64} {y : Int64} (pc' : Nat) (hd : decode c.code pc = .ok (.lmul, 1)) (g : Go p e below P T (mkF m pc' Ls (.long (x * y) :: st))) (hp : pc + 1 = pc' := by rfl) : Go p e below P T (mkF m pc Ls (.long y :: .long x :: st)) := by
  subst hp; exact Go.by (fun _ q => XS.lmul S.at S.hx rfl hd rfl q) g
theorem Sd.land (S : Sd wd EL a0 p l e R s m args below meth c Z own n0 h0 ws0 T h F locs cells slots) {x : Int64} {y : Int64} (pc' : Nat) (hd : decode c.code pc = .ok (.land, 1)) (g : Go p e below P T (mkF m pc' Ls (.long (x &&& y) :: st))) (hp : pc + 1 = pc' := by rfl) : Go p e below P T (mkF m pc Ls (.long y :: .long x :: st)) := by
  subst hp; exact Go.by (fun _ q => XS.land S.at S.hx rfl hd rfl q) g
theorem Sd.lor (S : Sd wd EL a0 p l e R s m args below meth c Z own n0 h0 ws0 T h F locs cells slots) {x : Int64} {y : Int64} (pc' : Nat) (hd : decode c.code pc = .ok (.lor, 1)) (g : Go p e below P T (mkF m pc' Ls (.long (x ||| y) :: st))) (hp : pc + 1 = pc' := by rfl) : Go p e below P T (mkF m pc Ls (.long y :: .long x :: st)) := by
  subst hp; exact Go.by (fun _ q => XS.lor S.at S.hx rfl hd rfl q) g
theorem Sd.lxor (S : Sd wd EL a0 p l e R s m args below meth c Z own n0 h0 ws0 T h F locs cells slots) {x : Int64} {y : Int64} (pc' : Nat) (hd : decode c.code pc = .ok (.lxor, 1)) (g : Go p e below P T (mkF m pc' Ls (.long (x ^^^ y) :: st))) (hp : pc + 1 = pc' := by rfl) : Go p e below P T (mkF m pc Ls (.long y :: .long x :: st)) := by
  subst hp; exact Go.by (fun _ q => XS.lxor S.at S.hx rfl hd rfl q) g
theorem Sd.lshl (S : Sd wd EL a0 p l e R s m args below meth c Z own n0 h0 ws0 T h F locs cells slots) {x : Int64} {y : Int32} (pc' : Nat) (hd : decode c.code pc = .ok (.lshl, 1)) (g : Go p e below P T (mkF m pc' Ls (.long (x <<< (y &&& 0x3f).toInt64) :: st))) (hp : pc + 1 = pc' := by rfl) : Go p e below P T (mkF m pc Ls (.int y :: .long x :: st)) := by
  subst hp; exact Go.by (fun _ q => XS.lshl S.at S.hx rfl hd rfl q) g
theorem Sd.lshr (S : Sd wd EL a0 p l e R s m args below meth c Z own n0 h0 ws0 T h F locs cells slots) {x : Int64} {y : Int32} (pc' : Nat) (hd : decode c.code pc = .ok (.lshr, 1)) (g : Go p e below P T (mkF m pc' Ls (.long (x >>> (y &&& 0x3f).toInt64) :: st))) (hp : pc + 1 = pc' := by rfl) : Go p e below P T (mkF m pc Ls (.int y :: .long x :: st)) := by
  subst hp; exact Go.by (fun _ q => XS.lshr S.at S.hx rfl hd rfl q) g
theorem Sd.lushr (S : Sd wd EL a0 p l e R s m args below meth c Z own n0 h0 ws0 T h F locs cells slots) {x : Int64} {y : Int32} (pc' : Nat) (hd : decode c.code pc = .ok (.lushr, 1)) (g : Go p e below P T (mkF m pc' Ls (.long ((x.toUInt64 >>> (y &&& 0x3f).toInt64.toUInt64).toInt64) :: st))) (hp : pc + 1 = pc' := by rfl) : Go p e below P T (mkF m pc Ls (.int y :: .long x :: st)) := by
  subst hp; exact Go.by (fun _ q => XS.lushr S.at S.hx rfl hd rfl q) g
theorem Sd.ldiv (S : Sd wd EL a0 p l e R s m args below meth c Z own n0 h0 ws0 T h F locs cells slots) {x : Int64} {y : Int64} (pc' : Nat) (hd : decode c.code pc = .ok (.ldiv, 1)) (hy : y ≠ 0) (g : Go p e below P T (mkF m pc' Ls (.long (x / y) :: st))) (hp : pc + 1 = pc' := by rfl) : Go p e below P T (mkF m pc Ls (.long y :: .long x :: st)) := by
  subst hp; exact Go.by (fun _ q => XS.ldiv S.at S.hx rfl hd rfl hy q) g
theorem Sd.lrem (S : Sd wd EL a0 p l e R s m args below meth c Z own n0 h0 ws0 T h F locs cells slots) {x : Int64} {y : Int64} (pc' : Nat) (hd : decode c.code pc = .ok (.lrem, 1)) (hy : y ≠ 0) (g : Go p e below P T (mkF m pc' Ls (.long (x - (x / y) * y) :: st))) (hp : pc + 1 = pc' := by rfl) : Go p e below P T (mkF m pc Ls (.long y :: .long x :: st)) := by
  subst hp; exact Go.by (fun _ q => XS.lrem S.at S.hx rfl hd rfl hy q) g
theorem Sd.lcmp (S : Sd wd EL a0 p l e R s m args below meth c Z own n0 h0 ws0 T h F locs cells slots) {x : Int64} {y : Int64} (pc' : Nat) (hd : decode c.code pc = .ok (.lcmp, 1)) (g : Go p e below P T (mkF m pc' Ls (.int (if x > y then 1 else if x = y then 0 else -1) :: st))) (hp : pc + 1 = pc' := by rfl) : Go p e below P T (mkF m pc Ls (.long y :: .long x :: st)) := by
  subst hp; exact Go.by (fun _ q => XS.lcmp S.at S.hx rfl hd rfl q) g
theorem Sd.ineg (S : Sd wd EL a0 p l e R s m args below meth c Z own n0 h0 ws0 T h F locs cells slots) {x : Int32} (pc' : Nat) (hd : decode c.code pc = .ok (.ineg, 1)) (g : Go p e below P T (mkF m pc' Ls (.int (-x) :: st))) (hp : pc + 1 = pc' := by rfl) : Go p e below P T (mkF m pc Ls (.int x :: st)) := by
  subst hp; exact Go.by (fun _ q => XS.ineg S.at S.hx rfl hd rfl q) g
theorem Sd.i2b (S : Sd wd EL a0 p l e R s m args below meth c Z own n0 h0 ws0 T h F locs cells slots) {x : Int32} (pc' : Nat) (hd : decode c.code pc = .ok (.i2b, 1)) (g : Go p e below P T (mkF m pc' Ls (.int (x.toInt8.toInt32) :: st))) (hp : pc + 1 = pc' := by rfl) : Go p e below P T (mkF m pc Ls (.int x :: st)) := by
  subst hp; exact Go.by (fun _ q => XS.i2b S.at S.hx rfl hd rfl q) g
theorem Sd.i2c (S : Sd wd EL a0 p l e R s m args below meth c Z own n0 h0 ws0 T h F locs cells slots) {x : Int32} (pc' : Nat) (hd : decode c.code pc = .ok (.i2c, 1)) (g : Go p e below P T (mkF m pc' Ls (.int (x.toUInt32.toUInt16.toUInt32.toInt32) :: st))) (hp : pc + 1 = pc' := by rfl) : Go p e below P T (mkF m pc Ls (.int x :: st)) := by
  subst hp; exact Go.by (fun _ q => XS.i2c S.at S.hx rfl hd rfl q) g
theorem Sd.i2s (S : Sd wd EL a0 p l e R s m args below meth c Z own n0 h0 ws0 T h F locs cells slots) {x : Int32} (pc' : Nat) (hd : decode c.code pc = .ok (.i2s, 1)) (g : Go p e below P T (mkF m pc' Ls (.int (x.toInt16.toInt32) :: st))) (hp : pc + 1 = pc' := by rfl) : Go p e below P T (mkF m pc Ls (.int x :: st)) := by
  subst hp; exact Go.by (fun _ q => XS.i2s S.at S.hx rfl hd rfl q) g
theorem Sd.i2l (S : Sd wd EL a0 p l e R s m args below meth c Z own n0 h0 ws0 T h F locs cells slots) {x : Int32} (pc' : Nat) (hd : decode c.code pc = .ok (.i2l, 1)) (g : Go p e below P T (mkF m pc' Ls (.long (x.toInt64) :: st))) (hp : pc + 1 = pc' := by rfl) : Go p e below P T (mkF m pc Ls (.int x :: st)) := by
  subst hp; exact Go.by (fun _ q => XS.i2l S.at S.hx rfl hd rfl q) g
theorem Sd.l2i (S : Sd wd EL a0 p l e R s m args below meth c Z own n0 h0 ws0 T h F locs cells slots) {x : Int64} (pc' : Nat) (hd : decode c.code pc = .ok (.l2i, 1)) (g : Go p e below P T (mkF m pc' Ls (.int (x.toInt32) :: st))) (hp : pc + 1 = pc' := by rfl) : Go p e below P T (mkF m pc Ls (.long x :: st)) := by
  subst hp; exact Go.by (fun _ q => XS.l2i S.at S.hx rfl hd rfl q) g
theorem Sd.lneg (S : Sd wd EL a0 p l e R s m args below meth c Z own n0 h0 ws0 T h F locs cells slots) {x : Int64} (pc' : Nat) (hd : decode c.code pc = .ok (.lneg, 1)) (g : Go p e below P T (mkF m pc' Ls (.long (-x) :: st))) (hp : pc + 1 = pc' := by rfl) : Go p e below P T (mkF m pc Ls (.long x :: st)) := by
  subst hp; exact Go.by (fun _ q => XS.lneg S.at S.hx rfl hd rfl q) g
theorem Sd.irem (S : Sd wd EL a0 p l e R s m args below meth c Z own n0 h0 ws0 T h F locs cells slots) {x y : Int32} (pc' : Nat) (hd : decode c.code pc = .ok (.irem, 1)) (hy : y ≠ 0) (g : Go p e below P T (mkF m pc' Ls (.int (x % y) :: st))) (hp : pc + 1 = pc' := by rfl) : Go p e below P T (mkF m pc Ls (.int y :: .int x :: st)) := by
  subst hp
  obtain ⟨A, vm0, k0, hv, X, r⟩ := S
  exact Go.by (fun _ q => iremM X A.1 rfl hd rfl hy q) g
/-! ### steps on the heap -/
theorem Sd.new (S : Sd wd EL a0 p l e R s m args below meth c Z own n0 h0 ws0 T h F locs cells slots) {C : String} {index n : Nat} (pc' : Nat) (hd : decode c.code pc = .ok (.new index, 3)) (w : (Jvm.Cond.classLink own index C).before a0 Z = true) (wi : (Jvm.Cond.instantiable C n).before a0 Z = true) (wz : (Jvm.Cond.initialized C).before a0 Z = true) (hc : cells + 1 ≤ R.cells) (hl : slots + n ≤ R.slots)
    (g : ∀ (T' : State) (h' : Heap) (a : Addr), Sd wd EL a0 p l e R s m args below meth c Z own n0 h0 ws0 T' h' (a :: F) locs (cells + 1) (slots + n) → Ext h h' → a = h.size → Wok n0 h0 ws0 a → Exa Z h' a C → (∀ {O nm d : String} {ty : FieldType}, Laid Z a0 C O nm d → parseFieldDescriptor d = some ty → Fld Z h' a O nm d (defaultValue ty)) → Unt h' a → Go p e below P T' (mkF m pc' Ls (.ref a :: st))) (hp : pc + 3 = pc' := by rfl) :
    Go p e below P T (mkF m pc Ls st) := by
  subst hp
  obtain ⟨A, vm0, k0, hv, X, eT, hS, hk, hZ, hown, O, N, K0, C0, hF⟩ := S
  obtain ⟨T', h', X', e', E', A', D', U', st'⟩ := newO X A.1 hZ hown w wi wz eT (g := mkF m pc Ls st) rfl hd hc hl
  exact Go.by st' (g T' h' h.size (Sd.close A hv X' e' hS hk hZ hown O N K0 C0 hF (Ext.kp E') noWs fun x hx => by
    rcases List.mem_cons.mp hx with rfl | q
    · exact Or.inr ⟨Nat.le_refl _, A'.lt⟩
    · exact Or.inl q) E' rfl (Or.inr K0.1) A' D' U')
theorem Sd.getf (S : Sd wd EL a0 p l e R s m args below meth c Z own n0 h0 ws0 T h F locs cells slots) {R0 O n d host : String} {index : Nat} {a : Addr} {v : Value} (pc' : Nat) (hd : decode c.code pc = .ok (.getfield index, 3)) (w : (Jvm.Cond.fieldLink own index R0 n d).before a0 Z = true ∨ (Jvm.Cond.fieldLinkNest own index R0 n d host).before a0 Z = true) (via : Via Z R0 O n d) (V : Fld Z h a O n d v)
    (g : ∀ (T' : State), Sd wd EL a0 p l e R s m args below meth c Z own n0 h0 ws0 T' h F locs cells slots → Go p e below P T' (mkF m pc' Ls (v :: st))) (hp : pc + 3 = pc' := by rfl) : Go p e below P T (mkF m pc Ls (.ref a :: st)) := by
  subst hp
  obtain ⟨A, vm0, k0, hv, X, eT, r⟩ := S
  obtain ⟨hS, hk, hZ, hown, r'⟩ := id r
  obtain ⟨T', X', e', st'⟩ := getF X A.1 hZ hown w via eT V (g := mkF m pc Ls (.ref a :: st)) rfl rfl hd
  exact Go.by st' (g T' ⟨A, vm0, k0, hv, X', e', r⟩)
theorem Sd.gets (S : Sd wd EL a0 p l e R s m args below meth c Z own n0 h0 ws0 T h F locs cells slots) {R0 O n d host : String} {index : Nat} {v : Value} (pc' : Nat) (hd : decode c.code pc = .ok (.getstatic index, 3)) (w : (Jvm.Cond.fieldLink own index R0 n d).before a0 Z = true ∨ (Jvm.Cond.fieldLinkNest own index R0 n d host).before a0 Z = true) (via : Via Z R0 O n d) (V : Sta Z h O n d v)
    (g : ∀ (T' : State), Sd wd EL a0 p l e R s m args below meth c Z own n0 h0 ws0 T' h F locs cells slots → Go p e below P T' (mkF m pc' Ls (v :: st))) (hp : pc + 3 = pc' := by rfl) : Go p e below P T (mkF m pc Ls st) := by
  subst hp
  obtain ⟨A, vm0, k0, hv, X, eT, r⟩ := S
  obtain ⟨hS, hk, hZ, hown, r'⟩ := id r
  obtain ⟨T', X', e', st'⟩ := getS2 X A.1 hZ hown w via eT V (g := mkF m pc Ls st) rfl hd
  exact Go.by st' (g T' ⟨A, vm0, k0, hv, X', e', r⟩)
/-- no booked literal lies in an object of another class than String and byte[] -/
def Sok (F : List Addr) (a : Addr) (C : String) : Prop := (C ≠ "java/lang/String" ∧ C ≠ "[B") ∨ a ∈ F
theorem Sd.putf (S : Sd wd EL a0 p l e R s m args below meth c Z own n0 h0 ws0 T h F locs cells slots) {R0 O n d host C : String} {index kk : Nat} {a : Addr} {v old : Value} {ty : FieldType} (pc' : Nat) (hd : decode c.code pc = .ok (.putfield index, 3)) (w : (Jvm.Cond.fieldLink own index R0 n d).before a0 Z = true ∨ (Jvm.Cond.fieldLinkNest own index R0 n d host).before a0 Z = true) (via : Via Z R0 O n d)
    (V : Fld Z h a O n d old) (E : Exa Z h a C) (L : (Jvm.Cond.lays C O n d).before a0 Z = true ∨ ((Jvm.Cond.laysFinal C O n d).before a0 Z = true ∧ own = O ∧ meth.name = "<init>")) (wi : (Jvm.Cond.instantiable C kk).before a0 Z = true) (hty : parseFieldDescriptor d = some ty) (hn : narrow ty v = v) (hf : fits ty v = true) (wo : Wok n0 h0 ws0 a) (so : Sok F a C)
    (g : ∀ (T' : State) (h' : Heap) (locs' : List Loc), Sd wd EL a0 p l e R s m args below meth c Z own n0 h0 ws0 T' h' F locs' cells slots → Wr h h' a (Jvm.RoadKit.slotOf Z O n d) v → Go p e below P T' (mkF m pc' Ls st)) (hp : pc + 3 = pc' := by rfl) : Go p e below P T (mkF m pc Ls (v :: .ref a :: st)) := by
  subst hp
  have ge : n0 ≤ a := S.ge wo
  obtain ⟨A, vm0, k0, hv, X, eT, hS, hk, hZ, hown, O0, N, K0, C0, hF⟩ := S
  obtain ⟨T', h', X', e', W', st'⟩ := putF X A.1 hZ hown w via eT V E L wi hty hn hf (g := mkF m pc Ls (v :: .ref a :: st)) rfl rfl hd
  have sf : Safe Z EL vm0 h a := by
    rcases so with q | q
    · exact Safe.exa hZ.alike E q.1 q.2
    · exact (hF a q).1
  exact Go.by st' (g T' h' _ (Sd.close A hv X' e' hS hk hZ hown O0 (Fr.snoc X' N ge) K0 C0 hF (Keep.of_wr W') (fun x hx => by rw [List.mem_singleton.mp hx]; exact ⟨wo, sf⟩) fun x hx => Or.inl hx) W')
theorem Sd.newarr (S : Sd wd EL a0 p l e R s m args below meth c Z own n0 h0 ws0 T h F locs cells slots) {aty : ArrayType} {n : Int32} (pc' : Nat) (cap : Nat) (hd : decode c.code pc = .ok (.newarray aty, 2)) (w : (Jvm.Cond.arrayClass (newarray.typeOf aty)).before a0 Z = true) (hn : ¬ n < 0) (hcap : n.toNatClampNeg ≤ cap) (hb : cap * 8 ≤ 536870912) (hc : cells + 1 ≤ R.cells) (hl : slots + cap ≤ R.slots)
    (g : ∀ (T' : State) (h' : Heap) (a : Addr) (k : ClassId), Sd wd EL a0 p l e R s m args below meth c Z own n0 h0 ws0 T' h' (a :: F) locs (cells + 1) (slots + cap) → Ext h h' → a = h.size → Wok n0 h0 ws0 a → Arv Z h' a k (newarray.typeOf aty) n [] (defaultValue (newarray.typeOf aty)) → Go p e below P T' (mkF m pc' Ls (.ref a :: st))) (hp : pc + 2 = pc' := by rfl) :
    Go p e below P T (mkF m pc Ls (.int n :: st)) := by
  subst hp
  obtain ⟨A, vm0, k0, hv, X, eT, hS, hk, hZ, hown, O, N, K0, C0, hF⟩ := S
  obtain ⟨T', h', cA, X', e', E', A', st'⟩ := newP X A.1 hZ w eT (g := mkF m pc Ls (.int n :: st)) rfl hd rfl hn hcap hb hc hl
  exact Go.by st' (g T' h' h.size cA (Sd.close A hv X' e' hS hk hZ hown O N K0 C0 hF (Ext.kp E') noWs fun x hx => by
    rcases List.mem_cons.mp hx with rfl | q
    · exact Or.inr ⟨Nat.le_refl _, A'.lt⟩
    · exact Or.inl q) E' rfl (Or.inr K0.1) (Arv.new A' hn))
theorem Sd.castore (S : Sd wd EL a0 p l e R s m args below meth c Z own n0 h0 ws0 T h F locs cells slots) {a : Addr} {k : ClassId} {N : Int32} {vs : List Value} {dv : Value} {j x : Int32} (pc' i : Nat) (hd : decode c.code pc = .ok (.castore, 1)) (V : Arv Z h a k .char N vs dv) (hj : ¬ j < 0 ∧ j < N) (hi : j.toNatClampNeg = i) (hlt : i < vs.length) (wo : Wok n0 h0 ws0 a)
    (g : ∀ (T' : State) (h' : Heap) (locs' : List Loc), Sd wd EL a0 p l e R s m args below meth c Z own n0 h0 ws0 T' h' F locs' cells slots → Wr h h' a j.toNatClampNeg (.int (nar .char x)) → Arv Z h' a k .char N (vs.set i (.int (nar .char x))) dv → Go p e below P T' (mkF m pc' Ls st)) (hp : pc + 1 = pc' := by rfl) : Go p e below P T (mkF m pc Ls (.int x :: .int j :: .ref a :: st)) := by
  subst hp
  have ge : n0 ≤ a := S.ge wo
  obtain ⟨A, vm0, k0, hv, X, eT, hS, hk, hZ, hown, O0, N0, K0, C0, hF⟩ := S
  obtain ⟨cl, Ar, q, S', M, H, G⟩ := V
  obtain ⟨T', h', X', e', W', st'⟩ := stC X A.1 hZ eT Ar (x := x) (inb_of S' hj) (g := mkF m pc Ls (.int x :: .int j :: .ref a :: st)) rfl rfl hd
  exact Go.by st' (g T' h' _ (Sd.close A hv X' e' hS hk hZ hown O0 (Fr.snoc X' N0 ge) K0 C0 hF (Keep.of_wr W') (fun y hy => by rw [List.mem_singleton.mp hy]; exact ⟨wo, Safe.arr hZ.alike Ar (by decide)⟩) fun y hy => Or.inl hy) W' (Arv.set Ar q S' M H G (fits_nar_char _) W' i hi hlt))
theorem Sd.alen (S : Sd wd EL a0 p l e R s m args below meth c Z own n0 h0 ws0 T h F locs cells slots) {a : Addr} {k : ClassId} {ty : FieldType} {N : Int32} {vs : List Value} {dv : Value} (pc' : Nat) (hd : decode c.code pc = .ok (.arraylength, 1)) (V : Arv Z h a k ty N vs dv) (g : Go p e below P T (mkF m pc' Ls (.int N :: st))) (hp : pc + 1 = pc' := by rfl) : Go p e below P T (mkF m pc Ls (.ref a :: st)) := by
  subst hp
  obtain ⟨A, vm0, k0, hv, X, eT, hS, hk, hZ, r⟩ := S
  obtain ⟨cl, Ar, q, S', M, H, G⟩ := V
  rw [← len_of S' M] at g
  exact Go.by (fun t z => X.arraylength A.1 (by rw [eT]; exact Ar.1) (State.isArrayOf_alike hZ.alike Ar.2.1) (g := mkF m pc Ls (.ref a :: st)) rfl rfl hd t z) g
theorem Sd.caload (S : Sd wd EL a0 p l e R s m args below meth c Z own n0 h0 ws0 T h F locs cells slots) {a : Addr} {k : ClassId} {N : Int32} {vs : List Value} {dv v : Value} {j : Int32} (pc' : Nat) (hd : decode c.code pc = .ok (.caload, 1)) (V : Arv Z h a k .char N vs dv) (hj : ¬ j < 0 ∧ j < N) (hv' : vs.getD j.toNatClampNeg dv = v) (g : Go p e below P T (mkF m pc' Ls (v :: st))) (hp : pc + 1 = pc' := by rfl) : Go p e below P T (mkF m pc Ls (.int j :: .ref a :: st)) := by
  subst hp
  obtain ⟨A, vm0, k0, hv, X, eT, hS, hk, hZ, r⟩ := S
  obtain ⟨cl, Ar, q, S', M, H, G⟩ := V
  exact Go.by (fun t z => X.caload A.1 (by rw [eT]; exact Ar.1) (State.isArrayOf_alike hZ.alike Ar.2.1) Ar.2.2 (inb_of S' hj) (H.at (inb_of S' hj) hv') (g := mkF m pc Ls (.int j :: .ref a :: st)) rfl rfl hd t z) g
theorem Sd.baload (S : Sd wd EL a0 p l e R s m args below meth c Z own n0 h0 ws0 T h F locs cells slots) {a : Addr} {k : ClassId} {N : Int32} {vs : List Value} {dv v : Value} {j : Int32} (pc' : Nat) (hd : decode c.code pc = .ok (.baload, 1)) (V : Arv Z h a k .byte N vs dv) (hj : ¬ j < 0 ∧ j < N) (hv' : vs.getD j.toNatClampNeg dv = v) (g : Go p e below P T (mkF m pc' Ls (v :: st))) (hp : pc + 1 = pc' := by rfl) : Go p e below P T (mkF m pc Ls (.int j :: .ref a :: st)) := by
  subst hp
  obtain ⟨A, vm0, k0, hv, X, eT, hS, hk, hZ, r⟩ := S
  obtain ⟨cl, Ar, q, S', M, H, G⟩ := V
  exact Go.by (fun t z => X.baloadBytes A.1 (by rw [eT]; exact Ar.1) (State.isArrayOf_alike hZ.alike Ar.2.1) Ar.2.2 (inb_of S' hj) (H.at (inb_of S' hj) hv') (g := mkF m pc Ls (.int j :: .ref a :: st)) rfl rfl hd t z) g
theorem Sd.iaload (S : Sd wd EL a0 p l e R s m args below meth c Z own n0 h0 ws0 T h F locs cells slots) {a : Addr} {k : ClassId} {N : Int32} {vs : List Value} {dv v : Value} {j : Int32} (pc' : Nat) (hd : decode c.code pc = .ok (.iaload, 1)) (V : Arv Z h a k .int N vs dv) (hj : ¬ j < 0 ∧ j < N) (hv' : vs.getD j.toNatClampNeg dv = v) (g : Go p e below P T (mkF m pc' Ls (v :: st))) (hp : pc + 1 = pc' := by rfl) : Go p e below P T (mkF m pc Ls (.int j :: .ref a :: st)) := by
  subst hp
  obtain ⟨A, vm0, k0, hv, X, eT, hS, hk, hZ, r⟩ := S
  obtain ⟨cl, Ar, q, S', M, H, G⟩ := V
  exact Go.by (fun t z => X.iaload A.1 (by rw [eT]; exact Ar.1) (State.isArrayOf_alike hZ.alike Ar.2.1) Ar.2.2 (inb_of S' hj) (H.at (inb_of S' hj) hv') (g := mkF m pc Ls (.int j :: .ref a :: st)) rfl rfl hd t z) g
theorem Sd.ldcI (S : Sd wd EL a0 p l e R s m args below meth c Z own n0 h0 ws0 T h F locs cells slots) {index : Nat} {v : Int32} (pc' : Nat) (hd : decode c.code pc = .ok (.ldc index, 2)) (w : (Jvm.Cond.constant own index v).before a0 Z = true) (g : Go p e below P T (mkF m pc' Ls (.int v :: st))) (hp : pc + 2 = pc' := by rfl) : Go p e below P T (mkF m pc Ls st) := by
  subst hp
  obtain ⟨A, vm0, k0, hv, X, eT, hS, hk, hZ, hown, r⟩ := S
  exact Go.by (fun t z => X.ldcInt A.1 hown (mvT (s := s.setVm vm0) hZ w) (g := mkF m pc Ls st) rfl hd t z) g
theorem Sd.ldc2J (S : Sd wd EL a0 p l e R s m args below meth c Z own n0 h0 ws0 T h F locs cells slots) {index : Nat} {v : Int64} (pc' : Nat) (hd : decode c.code pc = .ok (.ldc2_w index, 3)) (w : (Jvm.Cond.constantLong own index v).before a0 Z = true) (g : Go p e below P T (mkF m pc' Ls (.long v :: st))) (hp : pc + 3 = pc' := by rfl) : Go p e below P T (mkF m pc Ls st) := by
  subst hp
  obtain ⟨A, vm0, k0, hv, X, eT, hS, hk, hZ, hown, r⟩ := S
  exact Go.by (fun t z => X.ldc2Long A.1 hown (mvT (s := s.setVm vm0) hZ w) (g := mkF m pc Ls st) rfl hd t z) g
theorem Sd.cast (S : Sd wd EL a0 p l e R s m args below meth c Z own n0 h0 ws0 T h F locs cells slots) {K : String} {index : Nat} {a : Addr} (pc' : Nat) (hd : decode c.code pc = .ok (.checkcast index, 3)) (w : (Jvm.Cond.classLink own index K).before a0 Z = true) (I : Ins Z h a K true)
    (g : ∀ (T' : State), Sd wd EL a0 p l e R s m args below meth c Z own n0 h0 ws0 T' h F locs cells slots → Go p e below P T' (mkF m pc' Ls (.ref a :: st))) (hp : pc + 3 = pc' := by rfl) : Go p e below P T (mkF m pc Ls (.ref a :: st)) := by
  subst hp
  obtain ⟨A, vm0, k0, hv, X, eT, r⟩ := S
  obtain ⟨hS, hk, hZ, hown, r'⟩ := id r
  obtain ⟨T', X', e', st'⟩ := castY X A.1 hZ hown w eT I (g := mkF m pc Ls (.ref a :: st)) rfl rfl hd
  exact Go.by st' (g T' ⟨A, vm0, k0, hv, X', e', r⟩)
theorem Sd.castNull (S : Sd wd EL a0 p l e R s m args below meth c Z own n0 h0 ws0 T h F locs cells slots) {index : Nat} (pc' : Nat) (hd : decode c.code pc = .ok (.checkcast index, 3)) (g : Go p e below P T (mkF m pc' Ls (.null :: st))) (hp : pc + 3 = pc' := by rfl) : Go p e below P T (mkF m pc Ls (.null :: st)) := by
  subst hp
  obtain ⟨A, vm0, k0, hv, X, r⟩ := S
  exact Go.by (fun t z => X.checkcastNull A.1 (g := mkF m pc Ls (.null :: st)) rfl rfl hd t z) g
theorem Sd.instY (S : Sd wd EL a0 p l e R s m args below meth c Z own n0 h0 ws0 T h F locs cells slots) {K : String} {index : Nat} {a : Addr} (pc' : Nat) (hd : decode c.code pc = .ok (.instanceof index, 3)) (w : (Jvm.Cond.classLink own index K).before a0 Z = true) (I : Ins Z h a K true)
    (g : ∀ (T' : State), Sd wd EL a0 p l e R s m args below meth c Z own n0 h0 ws0 T' h F locs cells slots → Go p e below P T' (mkF m pc' Ls (.int 1 :: st))) (hp : pc + 3 = pc' := by rfl) : Go p e below P T (mkF m pc Ls (.ref a :: st)) := by
  subst hp
  obtain ⟨A, vm0, k0, hv, X, eT, r⟩ := S
  obtain ⟨hS, hk, hZ, hown, r'⟩ := id r
  obtain ⟨T', X', e', st'⟩ := RoadKit.instY X A.1 hZ hown w eT I (g := mkF m pc Ls (.ref a :: st)) rfl rfl hd
  exact Go.by st' (g T' ⟨A, vm0, k0, hv, X', e', r⟩)
theorem Sd.instNo (S : Sd wd EL a0 p l e R s m args below meth c Z own n0 h0 ws0 T h F locs cells slots) {K C : String} {index : Nat} {a : Addr} (pc' : Nat) (hd : decode c.code pc = .ok (.instanceof index, 3)) (w : (Jvm.Cond.classLink own index K).before a0 Z = true) (E : Exa Z h a C) (I : ∃ c t, Z.vm.findClass C = some c ∧ Z.vm.findClass K = some t ∧ Z.vm.assignable c t = false)
    (g : ∀ (T' : State), Sd wd EL a0 p l e R s m args below meth c Z own n0 h0 ws0 T' h F locs cells slots → Go p e below P T' (mkF m pc' Ls (.int 0 :: st))) (hp : pc + 3 = pc' := by rfl) : Go p e below P T (mkF m pc Ls (.ref a :: st)) := by
  subst hp
  obtain ⟨A, vm0, k0, hv, X, eT, r⟩ := S
  obtain ⟨hS, hk, hZ, hown, r'⟩ := id r
  obtain ⟨T', X', e', st'⟩ := RoadKit.instNo X A.1 hZ hown w eT E I (g := mkF m pc Ls (.ref a :: st)) rfl rfl hd
  exact Go.by st' (g T' ⟨A, vm0, k0, hv, X', e', r⟩)
theorem Sd.initO (S : Sd wd EL a0 p l e R s m args below meth c Z own n0 h0 ws0 T h F locs cells slots) {idx W : Nat} {a : Addr} (pc' : Nat) (hd : decode c.code pc = .ok (.invokespecial idx, 3)) (hml : Ls.size = c.maxLocals) (w1 : (Jvm.Cond.methodLink own idx Lib.objectInit).before a0 Z = true) (w2 : (Jvm.Cond.instanceMethod Lib.objectInit).before a0 Z = true) (w3 : (Jvm.Cond.code Lib.objectInit ⟨#[0xb1]⟩ 1 none).before a0 Z = true)
    (hf : 1 ≤ R.frames) (hW : (st.map fun v => v.category).sum ≤ W) (hl : W + 12 ≤ R.locals)
    (g : ∀ (T' : State), Sd wd EL a0 p l e R s m args below meth c Z own n0 h0 ws0 T' h F locs cells slots → Go p e below P T' (mkF m pc' Ls st)) (hp : pc + 3 = pc' := by rfl) : Go p e below P T (mkF m pc Ls (.ref a :: st)) := by
  subst hp
  obtain ⟨A, vm0, k0, hv, X, eT, r⟩ := S
  obtain ⟨hS, hk, hZ, hown, r'⟩ := id r
  obtain ⟨T', X', e', st'⟩ := RoadKit.initO X A.1 hZ hown w1 w2 w3 eT (g := mkF m pc Ls (.ref a :: st)) rfl hml rfl hd hf (W := W) (by show 2 * 0 + _ ≤ _; omega) hl
  exact Go.by st' (g T' ⟨A, vm0, k0, hv, X', e', r⟩)
/-- 'ldc' of a String constant, opaque (a wide body) -/
theorem Sd.ldcO (S : Sd true EL a0 p l e R s m args below meth c Z own n0 h0 ws0 T h F locs cells slots) {index n : Nat} {text : String} (pc' : Nat) (hd : decode c.code pc = .ok (.ldc index, 2)) (w : (Jvm.Cond.stringLink own index text).before a0 Z = true) (wS : ∀ a ∈ Bundle.stringAtoms, a.before a0 Z = true) (hn : 4 * text.toList.length ≤ n) (hbig : n ≤ 536870912) (hc : cells + 2 ≤ R.cells) (hl : slots + (n + 4) ≤ R.slots)
    (g : ∀ (T' : State) (h' : Heap) (a : Addr), Sd true EL a0 p l e R s m args below meth c Z own n0 h0 ws0 T' h' F locs (cells + 2) (slots + (n + 4)) → Ext h h' → Go p e below P T' (mkF m pc' Ls (.ref a :: st))) (hp : pc + 2 = pc' := by rfl) : Go p e below P T (mkF m pc Ls st) := by
  subst hp
  obtain ⟨A, vm0, k0, hv, X, eT, hS, hk, hZ, hown, O, N, K0, C0, hF⟩ := S
  obtain ⟨a, T', h', k1, X', e', E, hS', hk', hZ', hown', C', -, st'⟩ := ldcOH X A.1 hZ hown w wS eT hS hk A.2.2.1 C0.1 (g := mkF m pc Ls st) rfl hd hn hbig hc hl
  exact Go.by st' (g T' h' a ⟨A, T'.vm, k1, nofun, X', e', hS', hk', hZ', hown', O.ext E, N, K0.ext E, C0.trans C', fun x hx => ⟨C'.safe (hF x hx).2 (hF x hx).1, Nat.lt_of_lt_of_le (hF x hx).2 E.1⟩⟩ E)
/-- 'ldc' of a String constant of EL, read (a wide body) -/
theorem Sd.ldcR (S : Sd true EL a0 p l e R s m args below meth c Z own n0 h0 ws0 T h F locs cells slots) {index n : Nat} {text : String} {vs : List Value} {z : Int32} (pc' : Nat) (hd : decode c.code pc = .ok (.ldc index, 2)) (w : (Jvm.Cond.stringLink own index text).before a0 Z = true) (wS : ∀ a ∈ Bundle.stringAtoms, a.before a0 Z = true) (hmem : (own, index) ∈ EL) (ht : (∀ c ∈ text.toList, c.toNat < 256) ∧ text.toList.map (fun c => Value.int (Jvm.Lit.byteI c.toNat.toUInt16)) = vs) (hz : ¬ z < 0) (hlen : z.toNatClampNeg = vs.length)
    (hn : 4 * text.toList.length ≤ n) (hbig : n ≤ 536870912) (hc : cells + 2 ≤ R.cells) (hl : slots + (n + 4) ≤ R.slots)
    (g : ∀ (T' : State) (h' : Heap) (a b : Addr) (k : ClassId), Sd true EL a0 p l e R s m args below meth c Z own n0 h0 ws0 T' h' F locs (cells + 2) (slots + (n + 4)) → Ext h h' → Exa Z h' a "java/lang/String" → Fld Z h' a "java/lang/String" "coder" "B" (.int 0) → Fld Z h' a "java/lang/String" "value" "[B" (.ref b) → Arv Z h' b k .byte z vs (.int 0) → (∀ x ∈ F, x ≠ a ∧ x ≠ b) → Go p e below P T' (mkF m pc' Ls (.ref a :: st))) (hp : pc + 2 = pc' := by rfl) : Go p e below P T (mkF m pc Ls st) := by
  subst hp
  obtain ⟨A, vm0, k0, hv, X, eT, hS, hk, hZ, hown, O, N, K0, C0, hF⟩ := S
  obtain ⟨a, T', h', k1, b, k, X', e', E, hS', hk', hZ', hown', g1, g2, g3, g4, -, -, C', -, hne, st'⟩ := ldcCH X A.1 hZ hown w wS eT hS hk A.2.2.1 hmem C0.1 ht hz hlen (g := mkF m pc Ls st) rfl hd hn hbig hc hl
  have sf : ∀ x ∈ F, Safe Z EL T'.vm h' x ∧ x < h'.size := fun x hx => ⟨C'.safe (hF x hx).2 (hF x hx).1, Nat.lt_of_lt_of_le (hF x hx).2 E.1⟩
  exact Go.by st' (g T' h' a b k ⟨A, T'.vm, k1, nofun, X', e', hS', hk', hZ', hown', O.ext E, N, K0.ext E, C0.trans C', sf⟩ E g1 g2 g3 g4 fun x hx => hne x (sf x hx).1)
/-! ### the end of a body -/
theorem Sd.endB (S : Sd wd EL a0 p l e R s m args below meth c Z own n0 h0 ws0 T h F locs cells slots) {v : Option Value} (hv : meth.sig.returnType = none → v = none) {rc rs : Nat} (hc : cells ≤ rc) (hs : slots ≤ rs) {Q : Option Value → Heap → Prop} (q : Q v h) :
    ∃ fs, (∀ (f : JFrame) (acts : List Action), f.method = m → f.locked = none → f.entered = [] → (doReturn e (T.setTop f) acts v).1 = T.setFrames fs) ∧ (T.setFrames fs).status = .running ∧ Ended (T.setFrames fs) below (.returned v) ∧ Done wd EL Z s n0 h0 ws0 rc rs Q (.returned v) (T.setFrames fs) := by
  obtain ⟨A, vm0, k0, hw, X, eT, hS, hk, hZ, hown, O, N, K0, C0, hF⟩ := S
  have hh : ∀ fs, (T.setFrames fs).heap = h := fun fs => eT
  cases wd with
  | false =>
    obtain rfl := hw rfl
    have X : Stand p l e R s m args below meth c T locs cells slots := X
    obtain ⟨fs, h1, h2, h3, hW, hsame⟩ := X.leave hv A.2.1
    exact ⟨fs, h1, h2, h3, v, locs, rfl, ⟨by rw [hh]; exact q, by rw [hh]; exact K0, N⟩, ⟨_, rfl⟩, hW, hsame.mono hc hs⟩
  | true =>
    obtain ⟨fs, h1, h2, h3, e1, e2, e3, e4⟩ := X.leaveW hS (by rw [eT]; exact hk) hv A.2.1
    refine ⟨fs, h1, h2, h3, v, locs, rfl, ⟨by rw [hh]; exact q, by rw [hh]; exact K0, N⟩, ?_, e1, e2, e3, e4.mono hc hs⟩
    have C1 := C0.trans (CHv.at X hZ A.2.2.1 C0.1)
    show CHr Z EL s.vm s.heap T.vm (T.setFrames fs).heap
    rw [hh]; exact C1
theorem Sd.ret0 (S : Sd wd EL a0 p l e R s m args below meth c Z own n0 h0 ws0 T h F locs cells slots) {rc rs : Nat} {Q : Option Value → Heap → Prop} (hd : decode c.code pc = .ok (.return_, 1)) (hret : meth.sig.returnType = none) (hc : cells ≤ rc) (hs : slots ≤ rs) (q : Q none h) : Go p e below (Done wd EL Z s n0 h0 ws0 rc rs Q) T (mkF m pc Ls []) := by
  obtain ⟨fs, h1, h2, h3, h4⟩ := S.endB (v := none) (fun _ => rfl) hc hs q
  obtain ⟨A, vm0, k0, hw, X, r⟩ := S
  exact ⟨_, _, X.returnOut A.1 hret hd h1, h2, h3, h4⟩
theorem Sd.retV (S : Sd wd EL a0 p l e R s m args below meth c Z own n0 h0 ws0 T h F locs cells slots) {rc rs : Nat} {Q : Option Value → Heap → Prop} {w : Value} {t : FieldType} {i : Instr} (hd : decode c.code pc = .ok (i, 1)) (hret : meth.sig.returnType = some t) (hn : narrow t w = w)
    (hi : (i = .ireturn ∧ (t = .int ∨ t = .boolean ∨ t = .byte ∨ t = .char ∨ t = .short) ∧ ∃ z, w = .int z) ∨ (i = .lreturn ∧ t = .long ∧ ∃ z, w = .long z) ∨ (i = .dreturn ∧ t = .double ∧ ∃ z, w = .double z) ∨ (i = .freturn ∧ t = .float ∧ ∃ z, w = .float z) ∨ (i = .areturn ∧ t.isReference = true ∧ w.isRef = true))
    (hc : cells ≤ rc) (hs : slots ≤ rs) (q : Q (some w) h) : Go p e below (Done wd EL Z s n0 h0 ws0 rc rs Q) T (mkF m pc Ls (w :: st)) := by
  obtain ⟨fs, h1, h2, h3, h4⟩ := S.endB (v := some w) (fun z => by rw [hret] at z; cases z) hc hs q
  obtain ⟨A, vm0, k0, hw, X, r⟩ := S
  exact ⟨_, _, retOut X A.1 hret hn hi hd h1, h2, h3, h4⟩
theorem Sd.retI (S : Sd wd EL a0 p l e R s m args below meth c Z own n0 h0 ws0 T h F locs cells slots) {rc rs : Nat} {Q : Option Value → Heap → Prop} {z : Int32} (hd : decode c.code pc = .ok (.ireturn, 1)) (hret : meth.sig.returnType = some .int) (hc : cells ≤ rc) (hs : slots ≤ rs) (q : Q (some (.int z)) h) : Go p e below (Done wd EL Z s n0 h0 ws0 rc rs Q) T (mkF m pc Ls (.int z :: st)) :=
  S.retV hd hret rfl (Or.inl ⟨rfl, Or.inl rfl, z, rfl⟩) hc hs q
/-- the return of a boolean, byte, char or short: what the frame holds is narrowed -/
theorem Sd.retN (S : Sd wd EL a0 p l e R s m args below meth c Z own n0 h0 ws0 T h F locs cells slots) {rc rs : Nat} {Q : Option Value → Heap → Prop} {z : Int32} {t : FieldType} (hd : decode c.code pc = .ok (.ireturn, 1)) (hret : meth.sig.returnType = some t) (ht : t = .boolean ∨ t = .byte ∨ t = .char ∨ t = .short) (hc : cells ≤ rc) (hs : slots ≤ rs) (q : Q (some (.int (nar t z))) h) : Go p e below (Done wd EL Z s n0 h0 ws0 rc rs Q) T (mkF m pc Ls (.int z :: st)) := by
  obtain ⟨fs, h1, h2, h3, h4⟩ := S.endB (v := some (.int (nar t z))) (fun y => by rw [hret] at y; cases y) hc hs q
  obtain ⟨A, vm0, k0, hw, X, r⟩ := S
  exact ⟨_, _, RoadKit.retN X A.1 hret ht hd h1, h2, h3, h4⟩
theorem Sd.retJ (S : Sd wd EL a0 p l e R s m args below meth c Z own n0 h0 ws0 T h F locs cells slots) {rc rs : Nat} {Q : Option Value → Heap → Prop} {z : Int64} (hd : decode c.code pc = .ok (.lreturn, 1)) (hret : meth.sig.returnType = some .long) (hc : cells ≤ rc) (hs : slots ≤ rs) (q : Q (some (.long z)) h) : Go p e below (Done wd EL Z s n0 h0 ws0 rc rs Q) T (mkF m pc Ls (.long z :: st)) :=
  S.retV hd hret rfl (Or.inr (Or.inl ⟨rfl, rfl, z, rfl⟩)) hc hs q
theorem Sd.retA (S : Sd wd EL a0 p l e R s m args below meth c Z own n0 h0 ws0 T h F locs cells slots) {rc rs : Nat} {Q : Option Value → Heap → Prop} {w : Value} {t : FieldType} (hd : decode c.code pc = .ok (.areturn, 1)) (hret : meth.sig.returnType = some t) (ht : t.isReference = true) (hw : w.isRef = true) (hc : cells ≤ rc) (hs : slots ≤ rs) (q : Q (some w) h) : Go p e below (Done wd EL Z s n0 h0 ws0 rc rs Q) T (mkF m pc Ls (w :: st)) :=
  S.retV hd hret (Jvm.narrow_isRef _ hw) (Or.inr (Or.inr (Or.inr (Or.inr ⟨rfl, ht, hw⟩)))) hc hs q
/-! ### contracts -/
/-- a body that interns nothing -/
def Con (l : Launch) (Z : State) (n0 : Nat) (y : MethodName) (bytes : ByteArray) (maxL : Nat) (ret : Option FieldType) (cs : List Jvm.Cond) (rm : Room) (as' : Array Value) (h : Heap) (ws : List Addr) (Q : Option Value → Heap → Prop) : Prop :=
  MetFree l y (head1 (Jvm.Cond.code y bytes maxL ret :: cs) rm) (fun a U => a = as' ∧ Z.Warmed39 U.vm ∧ U.heap = h) (fun _ _ _ _ _ => True) (fun _ U o U' => ∃ v L, o = .returned v ∧ (Q v U'.heap ∧ Keep h U'.heap ws ∧ Fr n0 L) ∧ FrameEnd U o U' L rm.cells rm.slots)
/-- a body that may intern: F0: what must hold no booked literal -/
def ConS (EL : List (String × Nat)) (l : Launch) (Z : State) (n0 : Nat) (y : MethodName) (bytes : ByteArray) (maxL : Nat) (ret : Option FieldType) (cs : List Jvm.Cond) (rm : Room) (as' : Array Value) (h : Heap) (ws F0 : List Addr) (Q : Option Value → Heap → Prop) : Prop :=
  MetFree l y (head1 (Jvm.Cond.code y bytes maxL ret :: cs) rm) (fun a U => a = as' ∧ Z.Warmed39 U.vm ∧ U.heap = h ∧ CHv Z EL U.vm h ∧ ∀ x ∈ F0, Safe Z EL U.vm h x ∧ x < h.size) (fun _ _ _ _ _ => True) (fun _ U o U' => ∃ v L, o = .returned v ∧ (Q v U'.heap ∧ Keep h U'.heap ws ∧ Fr n0 L) ∧ CHr Z EL U.vm U.heap U'.vm U'.heap ∧ ReturnedEndW U o U' L rm.cells rm.slots)
theorem chv0 {vm : Vm} : CHv Z [] vm h := fun _ q => nomatch q
theorem safe0 {vm : Vm} {x : Addr} : Safe Z [] vm h x := fun ⟨_, q, _⟩ => nomatch q
theorem Con.of {y : MethodName} {bytes : ByteArray} {maxL : Nat} {ret : Option FieldType} {cs : List Jvm.Cond} {rm : Room} {as' : Array Value} {Q : Option Value → Heap → Prop} (a0 : Array Value) (hn : plainFor y = true) (hO : Old Z n0 h) (hws : ∀ x ∈ ws, n0 ≤ x) (F0 : List Addr) (hF0 : ∀ x ∈ F0, x < h.size)
    (body : ∀ (p : Program) (e : Env) (s : State) (m : MethodId) (below : List Frame) (meth : Method) (c : Code) (T : State), Sd false [] a0 p l e rm s m as' below meth c Z y.cls n0 h ws T h F0 [] 0 0 → c.code = bytes → c.maxLocals = maxL → meth.sig.returnType = ret → meth.name = y.name → Go p e below (Done false [] Z s n0 h ws rm.cells rm.slots Q) T (entryFrame m as' maxL)) :
    Con l Z n0 y bytes maxL ret cs rm as' h ws Q := by
  refine MetFree.of_bodySF hn hisR ?_
  intro p e s m args below meth c s₁ Bd hml0 hP hK
  obtain ⟨rfl, hZ, rfl⟩ := hP
  have e0 : s₁.heap = s.heap := by rw [Bd.state]; rfl
  obtain ⟨s₂, o, h1, h2, h3, h4⟩ := body p e s m below meth c s₁ ⟨⟨Bd.exec, Bd.notSynchronized, EW.nil, rfl, hO, hws⟩, s.vm, 0, fun _ => rfl, (Stand.of_body Bd : Stand p l e rm s m args below meth c s₁ [] 0 0), e0, State.WarmedH.since (State.WarmedH.refl s) 0, Nat.zero_le _, hZ, findClass_of_methodNamed Bd.named, hO, Fr.nil n0, Keep.refl _ _, CHr.refl chv0, fun x hx => ⟨safe0, hF0 x hx⟩⟩ Bd.bytes hml0 Bd.returns (name_of_methodNamed Bd.named Bd.method).1
  exact ⟨s₂, o, h1, h2, h3, h4⟩
theorem ConS.of {y : MethodName} {bytes : ByteArray} {maxL : Nat} {ret : Option FieldType} {cs : List Jvm.Cond} {rm : Room} {as' : Array Value} {F0 : List Addr} {Q : Option Value → Heap → Prop} (hn : plainFor y = true) (hO : Old Z n0 h) (hEL : EW Z a0 EL) (hws : ∀ x ∈ ws, n0 ≤ x)
    (body : ∀ (p : Program) (e : Env) (s : State) (m : MethodId) (below : List Frame) (meth : Method) (c : Code) (T : State), Sd true EL a0 p l e rm s m as' below meth c Z y.cls n0 h ws T h F0 [] 0 0 → c.code = bytes → c.maxLocals = maxL → meth.sig.returnType = ret → meth.name = y.name → Go p e below (Done true EL Z s n0 h ws rm.cells rm.slots Q) T (entryFrame m as' maxL)) :
    ConS EL l Z n0 y bytes maxL ret cs rm as' h ws F0 Q := by
  refine MetFree.of_bodySF hn hisR ?_
  intro p e s m args below meth c s₁ Bd hml0 hP hK
  obtain ⟨rfl, hZ, rfl, hC, hF⟩ := hP
  have e0 : s₁.heap = s.heap := by rw [Bd.state]; rfl
  obtain ⟨s₂, o, h1, h2, h3, h4⟩ := body p e s m below meth c s₁ ⟨⟨Bd.exec, Bd.notSynchronized, hEL, rfl, hO, hws⟩, s.vm, 0, fun _ => rfl, (Stand.of_body Bd : Stand p l e rm s m args below meth c s₁ [] 0 0), e0, State.WarmedH.since (State.WarmedH.refl s) 0, Nat.zero_le _, hZ, findClass_of_methodNamed Bd.named, hO, Fr.nil n0, Keep.refl _ _, CHr.refl hC, hF⟩ Bd.bytes hml0 Bd.returns (name_of_methodNamed Bd.named Bd.method).1
  exact ⟨s₂, o, h1, h2, h3, h4⟩
/-! ### who pays a call -/
def Pay (l : Launch) (R : Room) (p : Program) (e : Env) (below : List Frame) (args : Array Value) (Z s : State) (n0 : Nat) (y : MethodName) (len W : Nat) (as' : Array Value) (h : Heap) (ws : List Addr) (rc rs : Nat) (Q : Option Value → Heap → Prop) : Prop :=
  ∀ s' : State, Z.Warmed39 s'.vm → s.vm.Alike s'.vm → Back l R p e below s' args y len W (fun A a => a = as' ∧ A.U.heap = h ∧ A.cells + rc ≤ R.cells ∧ A.slots + rs ≤ R.slots) (fun A _ v B => ∃ L, (Q v B.U.heap ∧ Keep h B.U.heap ws ∧ Fr n0 L) ∧ B.locs = A.locs ++ L ∧ B.cells = A.cells + rc ∧ B.slots = A.slots + rs)
def PayS (EL : List (String × Nat)) (a0 : Array Value) (l : Launch) (R : Room) (p : Program) (e : Env) (below : List Frame) (args : Array Value) (Z : State) (n0 : Nat) (y : MethodName) (len W : Nat) (as' : Array Value) (h : Heap) (ws F0 : List Addr) (rc rs : Nat) (Q : Option Value → Heap → Prop) : Prop :=
  ∀ (s : State) (vm0 : Vm), Z.Warmed39 vm0 → EW Z a0 EL → CHv Z EL vm0 h → (∀ x ∈ F0, Safe Z EL vm0 h x ∧ x < h.size) → BackS l R p e below (s.setVm vm0) args y len W (fun A a => a = as' ∧ A.U.heap = h ∧ A.cells + rc ≤ R.cells ∧ A.slots + rs ≤ R.slots)
    (fun A _ v B => ∃ L, (Q v B.U.heap ∧ Keep h B.U.heap ws ∧ Fr n0 L) ∧ B.locs = A.locs ++ L ∧ B.cells = A.cells + rc ∧ B.slots = A.slots + rs ∧ CHr Z EL vm0 h B.U.vm B.U.heap)
variable {y : MethodName} {bytes : ByteArray} {maxL : Nat} {ret : Option FieldType} {cs : List Jvm.Cond} {rm : Room} {as' : Array Value} {Q : Option Value → Heap → Prop} {len W rc rs : Nat} {F0 : List Addr} {argsL : List Value}
theorem Con.pay (M : Con l Z n0 y bytes maxL ret [] rm as' h ws Q) (wc : (Jvm.Cond.code y bytes maxL ret).before a0 Z = true) (wz : (Jvm.Cond.initialized y.cls).before a0 Z = true) (hf : rm.frames + 1 ≤ R.frames) (hl : W + (maxL + 11) + rm.locals ≤ R.locals) : Pay l R p e below args Z s n0 y len W as' h ws rm.cells rm.slots Q :=
  fun _ hZ _ => backOf (Q := fun v h' L => Q v h' ∧ Keep h h' ws ∧ Fr n0 L) M hZ wc wz hf hl
theorem ConS.pay (M : ConS EL l Z n0 y bytes maxL ret [] rm as' h ws F0 Q) (wc : (Jvm.Cond.code y bytes maxL ret).before a0 Z = true) (wz : (Jvm.Cond.initialized y.cls).before a0 Z = true) (hf : rm.frames + 1 ≤ R.frames) (hl : W + (maxL + 11) + rm.locals ≤ R.locals) : PayS EL a0 l R p e below args Z n0 y len W as' h ws F0 rm.cells rm.slots Q := by
  intro s vm0 hZ hEL H hF
  exact BackS.of_freeW (bytes := bytes) (maxL := maxL) (ret := ret) (E := fun _ first o t L k n => k = rm.cells ∧ n = rm.slots ∧ (∃ v, o = .returned v ∧ (Q v t.heap ∧ Keep h t.heap ws ∧ Fr n0 L)) ∧ CHr Z EL first.vm first.heap t.vm t.heap) M hf hl
    (fun m meth c A a Y hp => have hU : Z.Warmed39 A.U.vm := wtrans (s := s.setVm vm0) hZ Y.warmed
      ⟨by show (Cond.and _ .tt).before a A.U = true; rw [Cond.before_and, mv hU wc]; rfl, mv hU wc, mv hU wz, hp.2.2.1, hp.2.2.2⟩)
    (fun m meth c A a g mk Y hp => ⟨hp.1, wtrans (s := s.setVm vm0) hZ Y.warmed, hp.2.1, (CHv.at Y hZ hEL H).1, fun x hx => ⟨(CHv.at Y hZ hEL H).safe (hF x hx).2 (hF x hx).1, (hF x hx).2⟩⟩) (fun _ _ _ _ _ _ _ _ _ => trivial)
    (fun _ _ _ _ ⟨v, L, h1, h2, h3, h4⟩ => ⟨L, _, _, h4, rfl, rfl, ⟨v, h1, h2⟩, h3⟩)
    (fun m meth c A a g mk v t L k n Y hp _ _ ⟨e1, e2, ⟨v', e3, e4⟩, e5⟩ => by
      cases e3; subst e1 e2
      refine ⟨L, e4, rfl, rfl, rfl, (CHv.at Y hZ hEL H).trans ?_⟩
      rw [← hp.2.1]; exact e5)
/-- what a caller must know of what its callee writes -/
def Wrs (Z : State) (n0 : Nat) (h0 : Heap) (ws0 : List Addr) (h : Heap) (F ws : List Addr) : Prop := ∀ x ∈ ws, Wok n0 h0 ws0 x ∧ (x ∈ F ∨ ∃ C, Exa Z h x C ∧ C ≠ "java/lang/String" ∧ C ≠ "[B")
theorem Wrs.nil : Wrs Z n0 h0 ws0 h F [] := fun _ q => nomatch q
theorem Wrs.one {x : Addr} (w : Wok n0 h0 ws0 x) (q : x ∈ F ∨ ∃ C, Exa Z h x C ∧ C ≠ "java/lang/String" ∧ C ≠ "[B") : Wrs Z n0 h0 ws0 h F [x] := fun y hy => by rw [List.mem_singleton.mp hy]; exact ⟨w, q⟩
theorem Wrs.safe (w : Wrs Z n0 h0 ws0 h F ws) (hal : Z.vm.Alike vm0) (hF : ∀ x ∈ F, Safe Z EL vm0 h x ∧ x < h.size) : ∀ x ∈ ws, Wok n0 h0 ws0 x ∧ Safe Z EL vm0 h x := fun x hx => by
  obtain ⟨w1, w2⟩ := w x hx
  refine ⟨w1, ?_⟩
  rcases w2 with q | ⟨C, E, q1, q2⟩
  · exact (hF x q).1
  · exact Safe.exa hal E q1 q2
theorem Sd.afterN {A : p.tables.exec = Jvm.exec ∧ meth.locks = false ∧ EW Z a0 EL ∧ s.heap = h0 ∧ Old Z n0 h0 ∧ ∀ x ∈ ws0, n0 ≤ x} (hv : wd = false → vm0 = s.vm) (hS : s.Since vm0 k0) (hk : k0 ≤ h.size) (hZ : Z.Warmed39 vm0) (hown : vm0.findClass own = some m.cls) (O : Old Z n0 h) (N : Fr n0 locs) (K0 : Keep h0 h ws0) (C0 : CHr Z EL s.vm s.heap vm0 h) (hF : ∀ x ∈ F, Safe Z EL vm0 h x ∧ x < h.size) (hws : Wrs Z n0 h0 ws0 h F ws)
    {B : Pt} (X : Stand p l e R (s.setVm vm0) m args below meth c B.U B.locs B.cells B.slots) {L : List Loc} (K : Keep h B.U.heap ws) (NL : Fr n0 L) (l1 : B.locs = locs ++ L) (l2 : B.cells = cells + rc) (l3 : B.slots = slots + rs) : Sd wd EL a0 p l e R s m args below meth c Z own n0 h0 ws0 B.U B.U.heap F (locs ++ L) (cells + rc) (slots + rs) := by
  rw [l1, l2, l3] at X
  exact Sd.close A hv X rfl hS hk hZ hown O (Fr.app N NL) K0 C0 hF K (hws.safe hZ.alike hF) fun x hx => Or.inl hx
theorem Sd.scall (S : Sd wd EL a0 p l e R s m args below meth c Z own n0 h0 ws0 T h F locs cells slots) {index : Nat} (pc' : Nat) (hd : decode c.code pc = .ok (.invokestatic index, 3)) (hml : Ls.size = c.maxLocals) (w1 : (Jvm.Cond.methodLink own index y).before a0 Z = true) (w2 : (Jvm.Cond.static y).before a0 Z = true) (w3 : (Jvm.Cond.initialized y.cls).before a0 Z = true) (w4 : (Jvm.Cond.code y bytes maxL ret).before a0 Z = true) (hy : y.cls ≠ "java/lang/invoke/MethodHandle" ∧ y.cls ≠ "java/lang/invoke/VarHandle")
    (argsL rest : List Value) (K : Pay l R p e below args Z s n0 y 3 W argsL.toArray h ws rc rs Q) (hlen : ∀ sig, parseMethodDescriptor y.desc = some sig → argsL.length = sig.parameters.length) (hst : st = argsL.reverse ++ rest) (hW : (rest.map fun v => v.category).sum ≤ W) (hc : cells + rc ≤ R.cells) (hs : slots + rs ≤ R.slots) (hws : Wrs Z n0 h0 ws0 h F ws)
    (g : ∀ (v : Option Value) (T' : State) (h' : Heap) (L : List Loc), Sd wd EL a0 p l e R s m args below meth c Z own n0 h0 ws0 T' h' F (locs ++ L) (cells + rc) (slots + rs) → Q v h' → Keep h h' ws → Go p e below P T' (mkF m pc' Ls (v.toList ++ rest))) (hp : pc + 3 = pc' := by rfl) : Go p e below P T (mkF m pc Ls st) := by
  subst hp hst
  obtain ⟨A, vm0, k0, hv, X, eT, hS, hk, hZ, hown, O, N, K0, C0, hF⟩ := S
  obtain ⟨v, vm₁, B, -, X', ⟨L, ⟨q, KK, NL⟩, l1, l2, l3⟩, st'⟩ := Jvm.LawKit.callS X A.1 hown (mvT (s := s.setVm vm0) hZ w1) (mvT (s := s.setVm vm0) hZ w2) (mvT (s := s.setVm vm0) hZ w3) (mvT (s := s.setVm vm0) hZ w4) hy (K (s.setVm vm0) hZ hS.1.alike) (g := mkF m pc Ls (argsL.reverse ++ rest)) rfl hml (argsL := argsL) (rest := rest) hlen rfl (by show 2 * 0 + _ ≤ _; omega) hd (fun _ _ => ⟨rfl, eT, hc, hs⟩)
  exact Go.by st' (g v B.U B.U.heap L (Sd.afterN (A := A) hv hS hk hZ hown O N K0 C0 hF hws X' KK NL l1 l2 l3) q KK)
theorem Sd.icall (S : Sd wd EL a0 p l e R s m args below meth c Z own n0 h0 ws0 T h F locs cells slots) {index : Nat} {a : Addr} (pc' : Nat) (hd : decode c.code pc = .ok (.invokespecial index, 3)) (hml : Ls.size = c.maxLocals) (hy1 : y.name = "<init>") (w1 : (Jvm.Cond.methodLink own index y).before a0 Z = true) (w2 : (Jvm.Cond.instanceMethod y).before a0 Z = true) (w4 : (Jvm.Cond.code y bytes maxL none).before a0 Z = true) (hy : y.cls ≠ "java/lang/invoke/MethodHandle" ∧ y.cls ≠ "java/lang/invoke/VarHandle")
    (argsL rest : List Value) (K : Pay l R p e below args Z s n0 y 3 W (.ref a :: argsL).toArray h ws rc rs Q) (hlen : ∀ sig, parseMethodDescriptor y.desc = some sig → argsL.length = sig.parameters.length) (hst : st = argsL.reverse ++ .ref a :: rest) (hW : (rest.map fun v => v.category).sum ≤ W) (hc : cells + rc ≤ R.cells) (hs : slots + rs ≤ R.slots) (hws : Wrs Z n0 h0 ws0 h F ws)
    (g : ∀ (v : Option Value) (T' : State) (h' : Heap) (L : List Loc), Sd wd EL a0 p l e R s m args below meth c Z own n0 h0 ws0 T' h' F (locs ++ L) (cells + rc) (slots + rs) → Q v h' → Keep h h' ws → Go p e below P T' (mkF m pc' Ls (v.toList ++ rest))) (hp : pc + 3 = pc' := by rfl) : Go p e below P T (mkF m pc Ls st) := by
  subst hp hst
  obtain ⟨A, vm0, k0, hv, X, eT, hS, hk, hZ, hown, O, N, K0, C0, hF⟩ := S
  obtain ⟨v, vm₁, B, -, X', ⟨L, ⟨q, KK, NL⟩, l1, l2, l3⟩, st'⟩ := X.specialBack A.1 hy1 hown (mvT (s := s.setVm vm0) hZ w1) (mvT (s := s.setVm vm0) hZ w2) (mvT (s := s.setVm vm0) hZ w4) hy (K (s.setVm vm0) hZ hS.1.alike) (g := mkF m pc Ls (argsL.reverse ++ .ref a :: rest)) rfl hml (Steps.refl _) (a := a) (argsL := argsL) (rest := rest) hlen rfl (by show 2 * 0 + _ ≤ _; omega) hd (fun _ _ => ⟨rfl, eT, hc, hs⟩)
  exact Go.by (fun _ z => st'.trans z) (g v B.U B.U.heap L (Sd.afterN (A := A) hv hS hk hZ hown O N K0 C0 hF hws X' KK NL l1 l2 l3) q KK)
theorem Sd.vcall (S : Sd wd EL a0 p l e R s m args below meth c Z own n0 h0 ws0 T h F locs cells slots) {index : Nat} {a : Addr} {x : MethodName} {C : String} (pc' : Nat) (hd : decode c.code pc = .ok (.invokevirtual index, 3)) (hml : Ls.size = c.maxLocals) (w1 : (Jvm.Cond.methodLink own index x).before a0 Z = true) (w2 : (Jvm.Cond.declares x).before a0 Z = true) (w3 : (Jvm.Cond.selects C x y).before a0 Z = true) (w4 : (Jvm.Cond.instanceMethod y).before a0 Z = true) (hnf : ∀ s' : State, Z.Warmed39 s'.vm → NotFace s' x) (hy : x.cls ≠ "java/lang/invoke/MethodHandle" ∧ x.cls ≠ "java/lang/invoke/VarHandle") (E : Exa Z h a C)
    (argsL rest : List Value) (K : Pay l R p e below args Z s n0 y 3 W (.ref a :: argsL).toArray h ws rc rs Q) (hlen : ∀ sig, parseMethodDescriptor x.desc = some sig → argsL.length = sig.parameters.length) (hst : st = argsL.reverse ++ .ref a :: rest) (hW : (rest.map fun v => v.category).sum ≤ W) (hc : cells + rc ≤ R.cells) (hs : slots + rs ≤ R.slots) (hws : Wrs Z n0 h0 ws0 h F ws)
    (g : ∀ (v : Option Value) (T' : State) (h' : Heap) (L : List Loc), Sd wd EL a0 p l e R s m args below meth c Z own n0 h0 ws0 T' h' F (locs ++ L) (cells + rc) (slots + rs) → Q v h' → Keep h h' ws → Go p e below P T' (mkF m pc' Ls (v.toList ++ rest))) (hp : pc + 3 = pc' := by rfl) : Go p e below P T (mkF m pc Ls st) := by
  subst hp hst
  obtain ⟨A, vm0, k0, hv, X, eT, hS, hk, hZ, hown, O, N, K0, C0, hF⟩ := S
  obtain ⟨cB, kB, q1, -, q3⟩ := isOf (s := s.setVm vm0) hZ eT E
  obtain ⟨v, vm₁, B, -, X', ⟨L, ⟨q, KK, NL⟩, l1, l2, l3⟩, st'⟩ := X.virtualBack A.1 hown (mvT (s := s.setVm vm0) hZ w1) (mvT (s := s.setVm vm0) hZ w2) (hnf (s.setVm vm0) hZ) (mvT (s := s.setVm vm0) hZ w3) (mvT (s := s.setVm vm0) hZ w4) hy (K (s.setVm vm0) hZ hS.1.alike) q1 q3 (g := mkF m pc Ls (argsL.reverse ++ .ref a :: rest)) rfl hml (Steps.refl _) (argsL := argsL) (rest := rest) hlen rfl (by show 2 * 0 + _ ≤ _; omega) hd (fun _ _ => ⟨rfl, eT, hc, hs⟩)
  exact Go.by (fun _ z => st'.trans z) (g v B.U B.U.heap L (Sd.afterN (A := A) hv hS hk hZ hown O N K0 C0 hF hws X' KK NL l1 l2 l3) q KK)
theorem nfSel {x : MethodName} {C : String} (w3 : (Jvm.Cond.selects C x x).before a0 Z = true) : ∀ s' : State, Z.Warmed39 s'.vm → NotFace s' x := fun s' hZ => notFace_of_selects (args := #[]) (mvT (s := s') hZ w3)
/-! ### a callee that may intern -/
theorem Sd.afterS {A : p.tables.exec = Jvm.exec ∧ meth.locks = false ∧ EW Z a0 EL ∧ s.heap = h0 ∧ Old Z n0 h0 ∧ ∀ x ∈ ws0, n0 ≤ x} (eT : T.heap = h) (hS : s.Since vm0 k0) (hk : k0 ≤ h.size) (hZ : Z.Warmed39 vm0) (hown : vm0.findClass own = some m.cls) (O : Old Z n0 h) (N : Fr n0 locs) (K0 : Keep h0 h ws0) (C0 : CHr Z EL s.vm s.heap vm0 h) (hF : ∀ x ∈ F, Safe Z EL vm0 h x ∧ x < h.size) (hws : Wrs Z n0 h0 ws0 h F ws)
    {B : Pt} (X : Stand p l e R ((s.setVm vm0).setVm B.U.vm) m args below meth c B.U B.locs B.cells B.slots) (h2 : (s.setVm vm0).Since B.U.vm B.U.heap.size) (gr : T.heap.size ≤ B.U.heap.size) {L : List Loc} (K : Keep h B.U.heap ws) (NL : Fr n0 L) (l1 : B.locs = locs ++ L) (l2 : B.cells = cells + rc) (l3 : B.slots = slots + rs) (C1 : CHr Z EL vm0 h B.U.vm B.U.heap) :
    Sd true EL a0 p l e R s m args below meth c Z own n0 h0 ws0 B.U B.U.heap F (locs ++ L) (cells + rc) (slots + rs) := by
  rw [l1, l2, l3] at X
  obtain ⟨X', hS', hZ', hown'⟩ := rebS hS (by rw [eT]; exact hk) X h2 gr hZ hown
  exact ⟨A, B.U.vm, _, nofun, X', rfl, hS', Nat.le_refl _, hZ', hown', O.keep K fun x hx => (hws x hx).1.le (own_ole A.2.2.2.2.1) A.2.2.2.2.2, Fr.app N NL, K0.trans K fun x hx => (hws x hx).1, C0.trans C1, fun x hx => ⟨C1.safe (hF x hx).2 (hF x hx).1, Nat.lt_of_lt_of_le (hF x hx).2 K.1⟩⟩
theorem Sd.scallS (S : Sd true EL a0 p l e R s m args below meth c Z own n0 h0 ws0 T h F locs cells slots) {index : Nat} (pc' : Nat) (hd : decode c.code pc = .ok (.invokestatic index, 3)) (hml : Ls.size = c.maxLocals) (w1 : (Jvm.Cond.methodLink own index y).before a0 Z = true) (w2 : (Jvm.Cond.static y).before a0 Z = true) (w3 : (Jvm.Cond.initialized y.cls).before a0 Z = true) (w4 : (Jvm.Cond.code y bytes maxL ret).before a0 Z = true) (hy : y.cls ≠ "java/lang/invoke/MethodHandle" ∧ y.cls ≠ "java/lang/invoke/VarHandle")
    (argsL rest : List Value) (K : PayS EL a0 l R p e below args Z n0 y 3 W argsL.toArray h ws F0 rc rs Q) (hlen : ∀ sig, parseMethodDescriptor y.desc = some sig → argsL.length = sig.parameters.length) (hst : st = argsL.reverse ++ rest) (hW : (rest.map fun v => v.category).sum ≤ W) (hc : cells + rc ≤ R.cells) (hs : slots + rs ≤ R.slots) (hws : Wrs Z n0 h0 ws0 h F ws) (hF0 : ∀ x ∈ F0, x ∈ F)
    (g : ∀ (v : Option Value) (T' : State) (h' : Heap) (L : List Loc), Sd true EL a0 p l e R s m args below meth c Z own n0 h0 ws0 T' h' F (locs ++ L) (cells + rc) (slots + rs) → Q v h' → Keep h h' ws → Go p e below P T' (mkF m pc' Ls (v.toList ++ rest))) (hp : pc + 3 = pc' := by rfl) : Go p e below P T (mkF m pc Ls st) := by
  subst hp hst
  obtain ⟨A, vm0, k0, hv, X, eT, hS, hk, hZ, hown, O, N, K0, C0, hF⟩ := S
  obtain ⟨v, vm₁, B, -, X', h2, gr, ⟨L, ⟨q, KK, NL⟩, l1, l2, l3, C1⟩, st'⟩ := callSS X A.1 hown (mvT (s := s.setVm vm0) hZ w1) (mvT (s := s.setVm vm0) hZ w2) (mvT (s := s.setVm vm0) hZ w3) (mvT (s := s.setVm vm0) hZ w4) hy (K s vm0 hZ A.2.2.1 C0.1 fun x hx => hF x (hF0 x hx)) (g := mkF m pc Ls (argsL.reverse ++ rest)) rfl hml (argsL := argsL) (rest := rest) hlen rfl (by show 2 * 0 + _ ≤ _; omega) hd (fun _ _ => ⟨rfl, eT, hc, hs⟩)
  exact Go.by (fun _ z => st'.trans z) (g v B.U B.U.heap L (Sd.afterS (A := A) eT hS hk hZ hown O N K0 C0 hF hws X' h2 gr KK NL l1 l2 l3 C1) q KK)
theorem Sd.icallS (S : Sd true EL a0 p l e R s m args below meth c Z own n0 h0 ws0 T h F locs cells slots) {index : Nat} {a : Addr} (pc' : Nat) (hd : decode c.code pc = .ok (.invokespecial index, 3)) (hml : Ls.size = c.maxLocals) (hy1 : y.name = "<init>") (w1 : (Jvm.Cond.methodLink own index y).before a0 Z = true) (w2 : (Jvm.Cond.instanceMethod y).before a0 Z = true) (w4 : (Jvm.Cond.code y bytes maxL none).before a0 Z = true) (hy : y.cls ≠ "java/lang/invoke/MethodHandle" ∧ y.cls ≠ "java/lang/invoke/VarHandle")
    (argsL rest : List Value) (K : PayS EL a0 l R p e below args Z n0 y 3 W (.ref a :: argsL).toArray h ws F0 rc rs Q) (hlen : ∀ sig, parseMethodDescriptor y.desc = some sig → argsL.length = sig.parameters.length) (hst : st = argsL.reverse ++ .ref a :: rest) (hW : (rest.map fun v => v.category).sum ≤ W) (hc : cells + rc ≤ R.cells) (hs : slots + rs ≤ R.slots) (hws : Wrs Z n0 h0 ws0 h F ws) (hF0 : ∀ x ∈ F0, x ∈ F)
    (g : ∀ (v : Option Value) (T' : State) (h' : Heap) (L : List Loc), Sd true EL a0 p l e R s m args below meth c Z own n0 h0 ws0 T' h' F (locs ++ L) (cells + rc) (slots + rs) → Q v h' → Keep h h' ws → Go p e below P T' (mkF m pc' Ls (v.toList ++ rest))) (hp : pc + 3 = pc' := by rfl) : Go p e below P T (mkF m pc Ls st) := by
  subst hp hst
  obtain ⟨A, vm0, k0, hv, X, eT, hS, hk, hZ, hown, O, N, K0, C0, hF⟩ := S
  obtain ⟨v, vm₁, B, -, X', h2, gr, ⟨L, ⟨q, KK, NL⟩, l1, l2, l3, C1⟩, st'⟩ := X.specialBackS A.1 hy1 hown (mvT (s := s.setVm vm0) hZ w1) (mvT (s := s.setVm vm0) hZ w2) (mvT (s := s.setVm vm0) hZ w4) hy (K s vm0 hZ A.2.2.1 C0.1 fun x hx => hF x (hF0 x hx)) (g := mkF m pc Ls (argsL.reverse ++ .ref a :: rest)) rfl hml (Steps.refl _) (a := a) (argsL := argsL) (rest := rest) hlen rfl (by show 2 * 0 + _ ≤ _; omega) hd (fun _ _ => ⟨rfl, eT, hc, hs⟩)
  exact Go.by (fun _ z => st'.trans z) (g v B.U B.U.heap L (Sd.afterS (A := A) eT hS hk hZ hown O N K0 C0 hF hws X' h2 gr KK NL l1 l2 l3 C1) q KK)
theorem Sd.vcallS (S : Sd true EL a0 p l e R s m args below meth c Z own n0 h0 ws0 T h F locs cells slots) {index : Nat} {a : Addr} {x : MethodName} {C : String} (pc' : Nat) (hd : decode c.code pc = .ok (.invokevirtual index, 3)) (hml : Ls.size = c.maxLocals) (w1 : (Jvm.Cond.methodLink own index x).before a0 Z = true) (w2 : (Jvm.Cond.declares x).before a0 Z = true) (w3 : (Jvm.Cond.selects C x y).before a0 Z = true) (w4 : (Jvm.Cond.instanceMethod y).before a0 Z = true) (hnf : ∀ s' : State, Z.Warmed39 s'.vm → NotFace s' x) (hy : x.cls ≠ "java/lang/invoke/MethodHandle" ∧ x.cls ≠ "java/lang/invoke/VarHandle") (E : Exa Z h a C)
    (argsL rest : List Value) (K : PayS EL a0 l R p e below args Z n0 y 3 W (.ref a :: argsL).toArray h ws F0 rc rs Q) (hlen : ∀ sig, parseMethodDescriptor x.desc = some sig → argsL.length = sig.parameters.length) (hst : st = argsL.reverse ++ .ref a :: rest) (hW : (rest.map fun v => v.category).sum ≤ W) (hc : cells + rc ≤ R.cells) (hs : slots + rs ≤ R.slots) (hws : Wrs Z n0 h0 ws0 h F ws) (hF0 : ∀ x ∈ F0, x ∈ F)
    (g : ∀ (v : Option Value) (T' : State) (h' : Heap) (L : List Loc), Sd true EL a0 p l e R s m args below meth c Z own n0 h0 ws0 T' h' F (locs ++ L) (cells + rc) (slots + rs) → Q v h' → Keep h h' ws → Go p e below P T' (mkF m pc' Ls (v.toList ++ rest))) (hp : pc + 3 = pc' := by rfl) : Go p e below P T (mkF m pc Ls st) := by
  subst hp hst
  obtain ⟨A, vm0, k0, hv, X, eT, hS, hk, hZ, hown, O, N, K0, C0, hF⟩ := S
  obtain ⟨cB, kB, q1, -, q3⟩ := isOf (s := s.setVm vm0) hZ eT E
  obtain ⟨v, vm₁, B, -, X', h2, gr, ⟨L, ⟨q, KK, NL⟩, l1, l2, l3, C1⟩, st'⟩ := X.virtualBackS A.1 hown (mvT (s := s.setVm vm0) hZ w1) (mvT (s := s.setVm vm0) hZ w2) (hnf (s.setVm vm0) hZ) (mvT (s := s.setVm vm0) hZ w3) (mvT (s := s.setVm vm0) hZ w4) hy (K s vm0 hZ A.2.2.1 C0.1 fun x hx => hF x (hF0 x hx)) q1 q3 (g := mkF m pc Ls (argsL.reverse ++ .ref a :: rest)) rfl hml (Steps.refl _) (argsL := argsL) (rest := rest) hlen rfl (by show 2 * 0 + _ ≤ _; omega) hd (fun _ _ => ⟨rfl, eT, hc, hs⟩)
  exact Go.by (fun _ z => st'.trans z) (g v B.U B.U.heap L (Sd.afterS (A := A) eT hS hk hZ hown O N K0 C0 hF hws X' h2 gr KK NL l1 l2 l3 C1) q KK)
end OwnKit
end Jvm.Pilot.@@N@@
namespace Jvm.Pilot.@@N@@
open Jvm Jvm.ClassFile Sem Op Lib Jvm.Free Jvm.Stand Jvm.LawKit Jvm.RoadKit Bundle Jvm.Pilot.@@N@@.Jvm.D
section OwnMore
variable {wd : Bool} {EL : List (String × Nat)} {a0 : Array Value} {p : Program} {l : Launch} {e : Env} {R : Room} {s : State} {m : MethodId} {args : Array Value} {below : List Frame} {meth : Method} {c : Code} {Z : State} {own : String} {n0 : Nat} {h0 : Heap} {ws0 : List Addr}
  {T T' : State} {h h' : Heap} {F F' : List Addr} {locs locs' : List Loc} {cells slots cells' slots' : Nat} {P : Outcome → State → Prop} {pc pc' : Nat} {Ls : Array Slot} {st rest : List Value}
theorem Sd.pop2J (S : Sd wd EL a0 p l e R s m args below meth c Z own n0 h0 ws0 T h F locs cells slots) {x : Int64} (pc' : Nat) (hd : decode c.code pc = .ok (.pop2, 1)) (g : Go p e below P T (mkF m pc' Ls st)) (hp : pc + 1 = pc' := by rfl) : Go p e below P T (mkF m pc Ls (.long x :: st)) := by
  subst hp
  refine Go.by (fun t q => ?_) g
  have H := S.at
  have hx := S.hx
  show Steps p.tables e below (T.setTop { method := m, pc := pc, locals := Ls, stack := .long x :: st, locked := none }) t
  jvm_step H [H.top, hx, hd, Value.category]
  exact q
theorem Sd.aaload (S : Sd wd EL a0 p l e R s m args below meth c Z own n0 h0 ws0 T h F locs cells slots) {a : Addr} {cl : Cell} {ty : FieldType} {v : Value} {j : Int32} (pc' : Nat) (hd : decode c.code pc = .ok (.aaload, 1)) (A : Arr Z h a cl ty) (hty : ty.isReference = true) (hin : ¬ (j < 0 ∨ cl.slots.size ≤ j.toNatClampNeg)) (hv' : cl.slots[j.toNatClampNeg]? = some v) (g : Go p e below P T (mkF m pc' Ls (v :: st))) (hp : pc + 1 = pc' := by rfl) : Go p e below P T (mkF m pc Ls (.int j :: .ref a :: st)) := by
  subst hp
  obtain ⟨A', vm0, k0, hv, X, eT, hS, hk, hZ, r⟩ := S
  exact Go.by (fun t z => X.aaload A'.1 (by rw [eT]; exact A.1) (State.isArrayOf_alike hZ.alike A.2.1) hty A.2.2 hin hv' (g := mkF m pc Ls (.int j :: .ref a :: st)) rfl rfl hd t z) g
theorem Sd.bastore (S : Sd wd EL a0 p l e R s m args below meth c Z own n0 h0 ws0 T h F locs cells slots) {a : Addr} {k : ClassId} {N : Int32} {vs : List Value} {dv : Value} {j x : Int32} (pc' i : Nat) (hd : decode c.code pc = .ok (.bastore, 1)) (V : Arv Z h a k .byte N vs dv) (hj : ¬ j < 0 ∧ j < N) (hi : j.toNatClampNeg = i) (hlt : i < vs.length) (wo : Wok n0 h0 ws0 a) (so : a ∈ F)
    (g : ∀ (T' : State) (h' : Heap) (locs' : List Loc), Sd wd EL a0 p l e R s m args below meth c Z own n0 h0 ws0 T' h' F locs' cells slots → Wr h h' a j.toNatClampNeg (.int (nar .byte x)) → Arv Z h' a k .byte N (vs.set i (.int (nar .byte x))) dv → Go p e below P T' (mkF m pc' Ls st)) (hp : pc + 1 = pc' := by rfl) : Go p e below P T (mkF m pc Ls (.int x :: .int j :: .ref a :: st)) := by
  subst hp
  have ge : n0 ≤ a := S.ge wo
  obtain ⟨A, vm0, k0, hv, X, eT, hS, hk, hZ, hown, O0, N0, K0, C0, hF⟩ := S
  obtain ⟨cl, Ar, q, S', M, H, G⟩ := V
  obtain ⟨T', h', X', e', W', st'⟩ := stB X A.1 hZ eT Ar (x := x) (inb_of S' hj) (g := mkF m pc Ls (.int x :: .int j :: .ref a :: st)) rfl rfl hd
  exact Go.by st' (g T' h' _ (Sd.close A hv X' e' hS hk hZ hown O0 (Fr.snoc X' N0 ge) K0 C0 hF (Keep.of_wr W') (fun y hy => by rw [List.mem_singleton.mp hy]; exact ⟨wo, (hF a so).1⟩) fun y hy => Or.inl hy) W' (Arv.set Ar q S' M H G (fits_nar_byte _) W' i hi hlt))
variable {y : MethodName} {as' : Array Value} {Q : Option Value → Heap → Prop} {W rc rs : Nat} {ws : List Addr}
/-- 'invokevirtual' of a method that a superclass of the named class declares -/
theorem Sd.vcallU (S : Sd wd EL a0 p l e R s m args below meth c Z own n0 h0 ws0 T h F locs cells slots) {index : Nat} {a : Addr} {x : MethodName} {C owner : String} (pc' : Nat) (hd : decode c.code pc = .ok (.invokevirtual index, 3)) (hml : Ls.size = c.maxLocals) (w1 : (Jvm.Cond.methodLink own index x).before a0 Z = true) (w2 : (Jvm.Cond.sameMethod x.cls owner x.name x.desc).before a0 Z = true) (w2' : (Jvm.Cond.declares ⟨owner, x.name, x.desc⟩).before a0 Z = true) (hy : owner ≠ "java/lang/invoke/MethodHandle" ∧ owner ≠ "java/lang/invoke/VarHandle") (w3 : (Jvm.Cond.selects C x y).before a0 Z = true) (w4 : (Jvm.Cond.instanceMethod y).before a0 Z = true) (E : Exa Z h a C)
    (argsL rest : List Value) (K : Pay l R p e below args Z s n0 y 3 W (.ref a :: argsL).toArray h ws rc rs Q) (hlen : ∀ sig, parseMethodDescriptor x.desc = some sig → argsL.length = sig.parameters.length) (hst : st = argsL.reverse ++ .ref a :: rest) (hW : (rest.map fun v => v.category).sum ≤ W) (hc : cells + rc ≤ R.cells) (hs : slots + rs ≤ R.slots) (hws : Wrs Z n0 h0 ws0 h F ws)
    (g : ∀ (v : Option Value) (T' : State) (h' : Heap) (L : List Loc), Sd wd EL a0 p l e R s m args below meth c Z own n0 h0 ws0 T' h' F (locs ++ L) (cells + rc) (slots + rs) → Q v h' → Keep h h' ws → Go p e below P T' (mkF m pc' Ls (v.toList ++ rest))) (hp : pc + 3 = pc' := by rfl) : Go p e below P T (mkF m pc Ls st) := by
  subst hp hst
  obtain ⟨A, vm0, k0, hv, X, eT, hS, hk, hZ, hown, O, N, K0, C0, hF⟩ := S
  obtain ⟨cB, kB, q1, -, q3⟩ := isOf (s := s.setVm vm0) hZ eT E
  obtain ⟨v, vm₁, B, -, X', ⟨L, ⟨q, KK, NL⟩, l1, l2, l3⟩, st'⟩ := X.virtualBackUp A.1 hown (mvT (s := s.setVm vm0) hZ w1) (mvT (s := s.setVm vm0) hZ w2) (mvT (s := s.setVm vm0) hZ w2') hy (mvT (s := s.setVm vm0) hZ w3) (mvT (s := s.setVm vm0) hZ w4) (K (s.setVm vm0) hZ hS.1.alike) q1 q3 (g := mkF m pc Ls (argsL.reverse ++ .ref a :: rest)) rfl hml (Steps.refl _) (argsL := argsL) (rest := rest) hlen rfl (by show 2 * 0 + _ ≤ _; omega) hd (fun _ _ => ⟨rfl, eT, hc, hs⟩)
  exact Go.by (fun _ z => st'.trans z) (g v B.U B.U.heap L (Sd.afterN (A := A) hv hS hk hZ hown O N K0 C0 hF hws X' KK NL l1 l2 l3) q KK)
/-- 'invokeinterface' -/
theorem Sd.fcall (S : Sd wd EL a0 p l e R s m args below meth c Z own n0 h0 ws0 T h F locs cells slots) {index count : Nat} {a : Addr} {x : MethodName} {C : String} (pc' : Nat) (hd : decode c.code pc = .ok (.invokeinterface index count, 5)) (hml : Ls.size = c.maxLocals) (w1 : (Jvm.Cond.methodLink own index x).before a0 Z = true) (w2 : (Jvm.Cond.declares x).before a0 Z = true) (w3 : (Jvm.Cond.interfaceMethod x.cls x.cls x.name x.desc).before a0 Z = true) (w4 : (Jvm.Cond.selects C x y).before a0 Z = true) (w5 : (Jvm.Cond.instanceMethod y).before a0 Z = true) (w6 : (Jvm.Cond.publicMethod y).before a0 Z = true) (w7 : (Jvm.Cond.unhidden C x.name x.desc).before a0 Z = true) (w8 : (Jvm.Cond.castable C x.cls).before a0 Z = true) (hy : x.cls ≠ "java/lang/invoke/MethodHandle" ∧ x.cls ≠ "java/lang/invoke/VarHandle") (E : Exa Z h a C)
    (argsL rest : List Value) (K : Pay l R p e below args Z s n0 y 5 W (.ref a :: argsL).toArray h ws rc rs Q) (hlen : ∀ sig, parseMethodDescriptor x.desc = some sig → argsL.length = sig.parameters.length) (hst : st = argsL.reverse ++ .ref a :: rest) (hW : (rest.map fun v => v.category).sum ≤ W) (hc : cells + rc ≤ R.cells) (hs : slots + rs ≤ R.slots) (hws : Wrs Z n0 h0 ws0 h F ws)
    (g : ∀ (v : Option Value) (T' : State) (h' : Heap) (L : List Loc), Sd wd EL a0 p l e R s m args below meth c Z own n0 h0 ws0 T' h' F (locs ++ L) (cells + rc) (slots + rs) → Q v h' → Keep h h' ws → Go p e below P T' (mkF m pc' Ls (v.toList ++ rest))) (hp : pc + 5 = pc' := by rfl) : Go p e below P T (mkF m pc Ls st) := by
  subst hp hst
  obtain ⟨A, vm0, k0, hv, X, eT, hS, hk, hZ, hown, O, N, K0, C0, hF⟩ := S
  obtain ⟨cB, kB, q1, q2, q3⟩ := isOf (s := s.setVm vm0) hZ eT E
  obtain ⟨v, vm₁, B, -, X', ⟨L, ⟨q, KK, NL⟩, l1, l2, l3⟩, st'⟩ := X.interfaceBack A.1 hown (mvT (s := s.setVm vm0) hZ w1) (mvT (s := s.setVm vm0) hZ w2) (mvT (s := s.setVm vm0) hZ w3 (show (x.cls == x.cls && x.cls != "java/lang/invoke/MethodHandle" && x.cls != "java/lang/invoke/VarHandle") = true by simp [hy.1, hy.2])) (mvT (s := s.setVm vm0) hZ w4) (mvT (s := s.setVm vm0) hZ w5) (mvT (s := s.setVm vm0) hZ w6) (mvT (s := s.setVm vm0) hZ w7) (mvT (s := s.setVm vm0) hZ w8) hy (K (s.setVm vm0) hZ hS.1.alike) q1 q2 q3 (g := mkF m pc Ls (argsL.reverse ++ .ref a :: rest)) rfl hml (Steps.refl _) (argsL := argsL) (rest := rest) hlen rfl (by show 2 * 0 + _ ≤ _; omega) hd (fun _ _ => ⟨rfl, eT, hc, hs⟩)
  exact Go.by (fun _ z => st'.trans z) (g v B.U B.U.heap L (Sd.afterN (A := A) hv hS hk hZ hown O N K0 C0 hF hws X' KK NL l1 l2 l3) q KK)
theorem Sd.instNull (S : Sd wd EL a0 p l e R s m args below meth c Z own n0 h0 ws0 T h F locs cells slots) {index : Nat} (pc' : Nat) (hd : decode c.code pc = .ok (.instanceof index, 3)) (g : Go p e below P T (mkF m pc' Ls (.int 0 :: st))) (hp : pc + 3 = pc' := by rfl) : Go p e below P T (mkF m pc Ls (.null :: st)) := by
  subst hp
  obtain ⟨A, vm0, k0, hv, X, r⟩ := S
  exact Go.by (fun t z => X.instanceofNull A.1 (g := mkF m pc Ls (.null :: st)) rfl rfl hd t z) g
/-- where no literal is kept track of, any place is safe -/
theorem Sd.addF (S : Sd wd [] a0 p l e R s m args below meth c Z own n0 h0 ws0 T h F locs cells slots) {x : Addr} (hx : x < h.size) : Sd wd [] a0 p l e R s m args below meth c Z own n0 h0 ws0 T h (x :: F) locs cells slots := by
  obtain ⟨A, vm0, k0, hv, X, eT, hS, hk, hZ, hown, O, N, K0, C0, hF⟩ := S
  exact ⟨A, vm0, k0, hv, X, eT, hS, hk, hZ, hown, O, N, K0, C0, fun y hy => by
    rcases List.mem_cons.mp hy with rfl | q
    · exact ⟨safe0, hx⟩
    · exact hF y q⟩
theorem Pay.weak {len : Nat} {Q' : Option Value → Heap → Prop} (P : Pay l R p e below args Z s n0 y len W as' h ws rc rs Q) (q : ∀ v h', Q v h' → Q' v h') : Pay l R p e below args Z s n0 y len W as' h ws rc rs Q' :=
  fun s' hZ hal => Back.mono (P s' hZ hal) (fun _ _ z => z) fun _ _ _ _ _ ⟨L, ⟨q1, q2⟩, r⟩ => ⟨L, ⟨q _ _ q1, q2⟩, r⟩
theorem Pay.mono {len rc' rs' : Nat} (P : Pay l R p e below args Z s n0 y len W as' h ws rc rs Q) (h1 : rc ≤ rc') (h2 : rs ≤ rs') : Pay l R p e below args Z s n0 y len W as' h ws rc' rs' Q := by
  intro s' hZ hal m meth c A g ig mk a X hg hsize hd hW hn hp
  obtain ⟨v, B, X', ⟨L, q, l1, l2, l3⟩, st⟩ := P s' hZ hal m meth c A g ig mk a X hg hsize hd hW hn ⟨hp.1, hp.2.1, Nat.le_trans (Nat.add_le_add_left h1 _) hp.2.2.1, Nat.le_trans (Nat.add_le_add_left h2 _) hp.2.2.2⟩
  refine ⟨v, ⟨B.U, B.locs, A.cells + rc', A.slots + rs'⟩, ?_, ⟨L, q, l1, rfl, rfl⟩, st⟩
  rw [l2, l3] at X'
  exact { X' with same := X'.same.mono (Nat.add_le_add_left h1 _) (Nat.add_le_add_left h2 _) }
theorem eqJ {t : Term} {z : Int64} (q : (Jvm.Cond.eq t (.long z)).value args Z none Z [] = some true) : t.eval args Z none [] Z = some (.long z) := by
  obtain ⟨x, y, e1, e2, k1, k2⟩ := cmp_v (Or.inl q)
  rw [long_at] at e2
  cases e2
  obtain ⟨w, rfl⟩ : ∃ w, x = .long w := k2
  have := gotT (eq_L e1 (long_at z)) q
  rw [e1, this]
theorem eqI {t : Term} {z : Int32} (q : (Jvm.Cond.eq t (.int z)).value args Z none Z [] = some true) : t.eval args Z none [] Z = some (.int z) := by
  obtain ⟨x, y, e1, e2, k1, k2⟩ := cmp_v (Or.inl q)
  rw [Term.int_eval] at e2
  cases e2
  obtain ⟨w, rfl⟩ : ∃ w, x = .int w := k2
  have := gotT (Cond.eq_ints e1 (Term.int_eval z)) q
  rw [e1, this]
/-- the object that a word names, and one field of it -/
theorem fldAt {t : Term} {C n d : String} {a : Addr} {v : Value} (ht : t.eval args Z none [] Z = some (.ref a)) (q : (Term.field t C n d).eval args Z none [] Z = some v) : Fld Z Z.heap a C n d v := Fld.start (by rw [← fld_at (C := C) (n := n) (dd := d) ht]; exact q)
theorem lenAt {t : Term} {a : Addr} {cl : Cell} {z : Int32} (ht : t.eval args Z none [] Z = some (.ref a)) (hc : Z.heap[a]? = some cl) (q : (Term.length t).eval args Z none [] Z = some (.int z)) : cl.slots.size < 2 ^ 31 ∧ cl.slots.size.toInt32 = z := by
  cases hA : Z.arrayAt? a with
  | none => simp [Term.eval, ht, hA] at q
  | some c2 =>
    have hc2 : c2 = cl := Option.some.inj ((State.arrayAt?_spec hA).1.symm.trans hc)
    subst hc2
    by_cases hl : c2.slots.size < 2 ^ 31
    · refine ⟨hl, ?_⟩
      simpa [Term.eval, ht, hA, hl] using q
    · simp [Term.eval, ht, hA, hl] at q
end OwnMore
end Jvm.Pilot.@@N@@
namespace Jvm.Pilot.@@N@@
open Jvm Jvm.ClassFile Sem Op Lib Jvm.Free Jvm.Stand Jvm.LawKit Jvm.RoadKit Bundle Jvm.Pilot.@@N@@.Jvm.D
section OwnStr
variable {a0 : Array Value} {p : Program} {l : Launch} {e : Env} {R : Room} {args : Array Value} {below : List Frame} {Z s : State} {n0 : Nat} {h h' : Heap} {ws : List Addr} {x t a y t' : Addr} {cs ds : List Int32} {sl W : Nat} {v : Value}
/-- the object x is a String of these chars, all below 256; t: its byte[] -/
def Str (Z : State) (h : Heap) (x t : Addr) (cs : List Int32) : Prop :=
  (∃ kb, Exa Z h x "java/lang/String" ∧ Fld Z h x "java/lang/String" "value" "[B" (.ref t) ∧ Fld Z h x "java/lang/String" "coder" "B" (.int 0) ∧ Arv Z h t kb .byte (Int32.ofNat cs.length) ((cs.map fun c => c.toInt8.toInt32).map Value.int) (.int 0)) ∧ (∀ c ∈ cs, ¬ c < 0 ∧ ¬ (255 : Int32) < c) ∧ cs.length ≤ 4000
theorem Str.exa (F : Str Z h x t cs) : Exa Z h x "java/lang/String" := by obtain ⟨⟨kb, E, -⟩, -⟩ := F; exact E
theorem Str.lt (F : Str Z h x t cs) : x < h.size := F.exa.lt
theorem Str.lt' (F : Str Z h x t cs) : t < h.size := by obtain ⟨⟨kb, -, -, -, A⟩, -⟩ := F; exact A.lt
theorem Str.ext (F : Str Z h x t cs) (E : Ext h h') : Str Z h' x t cs := by obtain ⟨⟨kb, a, b, c, d⟩, r⟩ := F; exact ⟨⟨kb, a.ext E, b.ext E, c.ext E, d.ext E⟩, r⟩
theorem Str.keep (F : Str Z h x t cs) (K : Keep h h' ws) (q : x ∉ ws) (r : t ∉ ws) : Str Z h' x t cs := by obtain ⟨⟨kb, a, b, c, d⟩, z⟩ := F; exact ⟨⟨kb, a.keep K, b.keep K q, c.keep K q, d.keep K r⟩, z⟩
theorem Str.wr (F : Str Z h x t cs) (W : Wr h h' a sl v) (q : x ≠ a) (r : t ≠ a) : Str Z h' x t cs := by obtain ⟨⟨kb, a, b, c, d⟩, z⟩ := F; exact ⟨⟨kb, a.wr W, b.other W (Or.inl q), c.other W (Or.inl q), d.other W r⟩, z⟩
/-- COMPACT_STRINGS is set -/
def Com (Z : State) : Prop := ∃ z : Int32, Sta Z Z.heap "java/lang/String" "COMPACT_STRINGS" "Z" (.int z) ∧ ¬ z = 0
def Sfo (Z : State) : Prop := ∃ v : Value, Sta Z Z.heap "jdk/internal/util/Preconditions" "SIOOBE_FORMATTER" "Ljava/util/function/BiFunction;" v ∧ v.isRef = true
theorem up16 (h : ∀ c ∈ cs, ¬ c < 0 ∧ ¬ (255 : Int32) < c) : ∀ c ∈ cs, ¬ c < 0 ∧ ¬ (65535 : Int32) < c := fun c hc => ⟨(h c hc).1, fun q => (h c hc).2 (by rw [Int32.lt_iff_toInt_lt] at q ⊢; have e1 : (65535 : Int32).toInt = 65535 := rfl; have e2 : (255 : Int32).toInt = 255 := rfl; omega)⟩
theorem payNew (hw : ∀ d ∈ tables_1, d.before a0 Z = true) (wi : (Jvm.Cond.instantiable "java/lang/String" 4).before a0 Z = true) (cm : Com Z) (O : Old Z n0 h) {k : ClassId} {b : Addr} {d v0 c0 : Value} {N : Int32} {n : Nat} (hx0 : n0 ≤ x) (E : Exa Z h x "java/lang/String") (V : Fld Z h x "java/lang/String" "value" "[B" v0) (C : Fld Z h x "java/lang/String" "coder" "B" c0) (K : Arv Z h b k .char N (cs.map Value.int) d)
    (hn : cs.length = n) (hN : N = Int32.ofNat n) (l0 : 0 < n) (l2 : n ≤ 4000) (hp : ∀ c ∈ cs, ¬ c < 0 ∧ ¬ (255 : Int32) < c) (hfr : 4 ≤ R.frames) (hlo : W + 65 ≤ R.locals) :
    Pay l R p e below args Z s n0 ⟨"java/lang/String", "<init>", "([C)V"⟩ 3 W #[.ref x, .ref b] h [x] 1 n (fun v h' => v = none ∧ ∃ t, h.size ≤ t ∧ Str Z h' x t cs) := fun s' hZ _ => by
  obtain ⟨z, St, hz⟩ := cm
  refine Back.mono (StrChars.Road.backV hZ (fun d hd => hw d ((by decide +kernel : ∀ d ∈ StrChars.Road.words, d ∈ tables_1) d hd)) wi (n0 := n0) hx0 (by rw [← O.1]; exact O.2.1) E V C K (St.ext O.2) hz hn hN l0 l2 hp rfl hfr hlo) (fun P a q => q) (fun P a v B hp' hq => ?_)
  obtain ⟨L, ⟨q1, q2, q3, q4, q5, t, kb, q6, q7, q8, q9, q10⟩, hl, hc, hs⟩ := hq
  exact ⟨L, ⟨⟨q1, t, q7, ⟨⟨kb, q4, q9, q5, by rw [hn, ← hN]; exact q10⟩, hp, by omega⟩⟩, q3, q2⟩, hl, hc, hs⟩
theorem Str.of {kb : ClassId} {z : Int32} {vs : List Value} (E : Exa Z h x "java/lang/String") (C : Fld Z h x "java/lang/String" "coder" "B" (.int 0)) (V : Fld Z h x "java/lang/String" "value" "[B" (.ref t)) (A : Arv Z h t kb .byte z vs (.int 0)) (cs : List Int32) (hz : z = Int32.ofNat cs.length) (hvs : vs = (cs.map fun c => c.toInt8.toInt32).map Value.int) (hp : ∀ c ∈ cs, ¬ c < 0 ∧ ¬ (255 : Int32) < c) (hl : cs.length ≤ 4000) : Str Z h x t cs := by
  subst hz hvs
  exact ⟨⟨kb, E, V, C, A⟩, hp, hl⟩
end OwnStr
end Jvm.Pilot.@@N@@
namespace Jvm.Pilot.@@N@@
open Jvm Jvm.ClassFile Sem Op Lib Jvm.Free Jvm.Stand Jvm.LawKit Jvm.RoadKit Bundle Jvm.Pilot.@@N@@.Jvm.D
theorem Tw {a0 : Array Value} {Z : State} (hw : ∀ d ∈ tables_1, d.before a0 Z = true) (i : Nat) {d : Jvm.Cond} (h : tables_1[i]? = some d) : d.before a0 Z = true := hw d (List.mem_of_getElem? h)
theorem Nle {a b : Nat} (h : Nat.ble a b = true) : a ≤ b := Nat.le_of_ble_eq_true h
theorem own_wS {a0 : Array Value} {Z : State} (hw : ∀ d ∈ tables_1, d.before a0 Z = true) : ∀ a ∈ Bundle.stringAtoms, a.before a0 Z = true := fun a ha => hw a ((by decide +kernel : ∀ a ∈ Bundle.stringAtoms, a ∈ tables_1) a ha)
theorem own_EW {a0 : Array Value} {Z : State} (hw : ∀ d ∈ tables_1, d.before a0 Z = true) : EW Z a0 consts_1 := (EW.cons (Tw hw 14 rfl) (by decide) EW.nil)
def Emp (Z : State) : Prop := ∃ a, Sta Z Z.heap "java/util/Optional" "EMPTY" "Ljava/util/Optional;" (.ref a) ∧ Exa Z Z.heap a "java/util/Optional" ∧ Fld Z Z.heap a "java/util/Optional" "value" "Ljava/lang/Object;" .null
theorem own_ef_1 (m : MethodId) (x0 : Addr) (x1 : Addr) (x2 : Int32) (x3 : Int32) : entryFrame m #[(.ref x0), (.ref x1), (.int x2), (.int x3), .null] 6 = mkF m 0 #[.val (.ref x0), .val (.ref x1), .val (.int x2), .val (.int x3), .val .null, .unset] [] := by first | rfl | (simp [entryFrame, mkF, argsToLocals, Value.category]; done)
theorem own_d_jdk_42_method_149_code_0 : decode jdk_42_method_149_code 0 = .ok (.aload_n 0, 1) := by decide +kernel
theorem own_d_jdk_42_method_149_code_1 : decode jdk_42_method_149_code 1 = .ok (.invokespecial 1, 3) := by decide +kernel
theorem own_d_jdk_42_method_149_code_4 : decode jdk_42_method_149_code 4 = .ok (.iload_n 3, 1) := by decide +kernel
theorem own_d_jdk_42_method_149_code_5 : decode jdk_42_method_149_code 5 = .ok (.ifCond .ne 22, 3) := by decide +kernel
theorem own_d_jdk_42_method_149_code_8 : decode jdk_42_method_149_code 8 = .ok (.aload_n 0, 1) := by decide +kernel
theorem own_d_jdk_42_method_149_code_9 : decode jdk_42_method_149_code 9 = .ok (.ldc 7, 2) := by decide +kernel
theorem own_d_jdk_42_method_149_code_11 : decode jdk_42_method_149_code 11 = .ok (.getfield 9, 3) := by decide +kernel
theorem own_d_jdk_42_method_149_code_14 : decode jdk_42_method_149_code 14 = .ok (.putfield 9, 3) := by decide +kernel
theorem own_d_jdk_42_method_149_code_17 : decode jdk_42_method_149_code 17 = .ok (.aload_n 0, 1) := by decide +kernel
theorem own_d_jdk_42_method_149_code_18 : decode jdk_42_method_149_code 18 = .ok (.ldc 7, 2) := by decide +kernel
theorem own_d_jdk_42_method_149_code_20 : decode jdk_42_method_149_code 20 = .ok (.getfield 15, 3) := by decide +kernel
theorem own_d_jdk_42_method_149_code_23 : decode jdk_42_method_149_code 23 = .ok (.putfield 15, 3) := by decide +kernel
theorem own_d_jdk_42_method_149_code_26 : decode jdk_42_method_149_code 26 = .ok (.return_, 1) := by decide +kernel
theorem own_pn_2 : plainName "java/lang/String" = true := by first | (simp [plainName, overriddenIn]; done) | decide +kernel
set_option maxRecDepth 65536 in
set_option maxHeartbeats 4000000 in
theorem own_sE4 (l : Launch) (Z : State) (a0 : Array Value) (hw : ∀ d ∈ tables_1, d.before a0 Z = true) (h0 : Heap) (n0 : Nat) (O : Old Z n0 h0) (x : Addr) (b : Addr) (ge_x : n0 ≤ x) (E : Exa Z h0 x "java/lang/String") (FV : Fld Z h0 x "java/lang/String" "value" "[B" .null) (FC : Fld Z h0 x "java/lang/String" "coder" "B" (.int 0)) :
    ConS consts_1 l Z n0 (⟨"java/lang/String", "<init>", "([CIILjava/lang/Void;)V"⟩ : MethodName) jdk_42_method_149_code 6 none [] ({ frames := 1, cells := 4, slots := 8, locals := 14 } : Room) #[(.ref x), (.ref b), (.int (0 : Int32)), (.int (0 : Int32)), .null] h0 [x] [x] (fun v h' => v = none ∧ ∃ t, Str Z h' x t []) := by
  refine ConS.of (a0 := a0) (plainFor_of_name own_pn_2) O (own_EW hw) (by simp [ge_x]) ?_
  intro p e s m below meth cdX T S hby hml hret hnm
  refine Go.cast (own_ef_1 m x b (0 : Int32) (0 : Int32)) ?_
  refine S.aloadN 1 (hb hby own_d_jdk_42_method_149_code_0) rfl rfl ?_
  refine S.initO (W := 0) 4 (hb hby own_d_jdk_42_method_149_code_1) (by rw [hml]; rfl) (Tw hw 11 rfl) (Tw hw 12 rfl) (Tw hw 13 rfl) (by decide) (Nle rfl) (by decide) ?_
  intro T1 S2
  refine S2.iloadN 5 (hb hby own_d_jdk_42_method_149_code_4) rfl ?_
  refine S2.ifN 8 (hb hby own_d_jdk_42_method_149_code_5) (zNeF (by decide)) ?_
  refine S2.aloadN 9 (hb hby own_d_jdk_42_method_149_code_8) rfl rfl ?_
  refine S2.ldcR (n := 0) (vs := ([] : List Value)) (z := (0 : Int32)) 11 (hb hby own_d_jdk_42_method_149_code_9) (Tw hw 14 rfl) (own_wS hw) (by decide) ⟨by decide, by decide⟩ (by decide) (by decide) (by decide) (by decide) (by decide) (by decide) ?_
  intro T3 h4 b5 t6 k7 S8 E9 f10 f11 f12 f13 hne14
  refine S8.getf (host := "") 14 (hb hby own_d_jdk_42_method_149_code_11) (Or.inl (Tw hw 20 rfl)) Via.refl f12 ?_
  intro T15 S16
  have f17 := (FV.ext E9)
  have f18 := (E.ext E9)
  refine S16.putf (host := "") (ty := (.array .byte)) 17 (hb hby own_d_jdk_42_method_149_code_14) (Or.inl (Tw hw 20 rfl)) Via.refl f17 f18 (Or.inr ⟨(Tw hw 16 rfl), rfl, hnm⟩) (Tw hw 1 rfl) (by decide) rfl rfl (Or.inl (by simp)) (Or.inr (by simp)) ?_
  intro T19 h20 L21 S22 W23
  have f24 := f17.same W23
  refine S22.aloadN 18 (hb hby own_d_jdk_42_method_149_code_17) rfl rfl ?_
  refine S22.ldcR (n := 0) (vs := ([] : List Value)) (z := (0 : Int32)) 20 (hb hby own_d_jdk_42_method_149_code_18) (Tw hw 14 rfl) (own_wS hw) (by decide) ⟨by decide, by decide⟩ (by decide) (by decide) (by decide) (by decide) (by decide) (by decide) ?_
  intro T25 h26 b27 t28 k29 S30 E31 f32 f33 f34 f35 hne36
  refine S30.getf (host := "") 23 (hb hby own_d_jdk_42_method_149_code_20) (Or.inl (Tw hw 21 rfl)) Via.refl f33 ?_
  intro T37 S38
  have f39 := (((FC.ext E9).other W23 (Or.inr (slot_ne (t := .byte) (t' := (.array .byte)) (Or.inr (Tw hw 17 rfl)) (Or.inr (Tw hw 16 rfl)) (by decide) (by decide) (by decide)))).ext E31)
  have f40 := ((f18.wr W23).ext E31)
  refine S38.putf (host := "") (ty := .byte) 26 (hb hby own_d_jdk_42_method_149_code_23) (Or.inl (Tw hw 21 rfl)) Via.refl f39 f40 (Or.inr ⟨(Tw hw 17 rfl), rfl, hnm⟩) (Tw hw 1 rfl) (by decide) rfl rfl (Or.inl (by simp)) (Or.inr (by simp)) ?_
  intro T41 h42 L43 S44 W45
  have f46 := f39.same W45
  have f47 := (f40.wr W45)
  have f48 := ((f24.ext E31).other W45 (Or.inr (slot_ne (t := (.array .byte)) (t' := .byte) (Or.inr (Tw hw 16 rfl)) (Or.inr (Tw hw 17 rfl)) (by decide) (by decide) (by decide))))
  have f49 := (((f13.other W23 (Ne.symm (hne14 x (by simp)).2)).ext E31).other W45 (Ne.symm (hne14 x (by simp)).2))
  exact S44.ret0 (hb hby own_d_jdk_42_method_149_code_26) hret (by decide) (by decide) ⟨rfl, _, Str.of f47 f46 f48 f49 [] rfl rfl (by decide) (by decide)⟩

theorem own_ef_3 (m : MethodId) (x0 : Addr) (x1 : Addr) : entryFrame m #[(.ref x0), (.ref x1)] 2 = mkF m 0 #[.val (.ref x0), .val (.ref x1)] [] := by first | rfl | (simp [entryFrame, mkF, argsToLocals, Value.category]; done)
theorem own_d_jdk_42_method_3_code_0 : decode jdk_42_method_3_code 0 = .ok (.aload_n 0, 1) := by decide +kernel
theorem own_d_jdk_42_method_3_code_1 : decode jdk_42_method_3_code 1 = .ok (.aload_n 1, 1) := by decide +kernel
theorem own_d_jdk_42_method_3_code_2 : decode jdk_42_method_3_code 2 = .ok (.iconst 0, 1) := by decide +kernel
theorem own_d_jdk_42_method_3_code_3 : decode jdk_42_method_3_code 3 = .ok (.aload_n 1, 1) := by decide +kernel
theorem own_d_jdk_42_method_3_code_4 : decode jdk_42_method_3_code 4 = .ok (.arraylength, 1) := by decide +kernel
theorem own_d_jdk_42_method_3_code_5 : decode jdk_42_method_3_code 5 = .ok (.aconst_null, 1) := by decide +kernel
theorem own_d_jdk_42_method_3_code_6 : decode jdk_42_method_3_code 6 = .ok (.invokespecial 27, 3) := by decide +kernel
theorem own_pd_4 : parseMethodDescriptor "([CIILjava/lang/Void;)V" = some ⟨[(.array .char), .int, .int, (.object "java/lang/Void")], none⟩ := by decide +kernel
theorem own_d_jdk_42_method_3_code_9 : decode jdk_42_method_3_code 9 = .ok (.return_, 1) := by decide +kernel
set_option maxRecDepth 65536 in
set_option maxHeartbeats 4000000 in
theorem own_sE1 (l : Launch) (Z : State) (a0 : Array Value) (hw : ∀ d ∈ tables_1, d.before a0 Z = true) (h0 : Heap) (n0 : Nat) (O : Old Z n0 h0) (x : Addr) (b : Addr) (k : ClassId) (d : Value) (ge_x : n0 ≤ x) (E : Exa Z h0 x "java/lang/String") (FV : Fld Z h0 x "java/lang/String" "value" "[B" .null) (FC : Fld Z h0 x "java/lang/String" "coder" "B" (.int 0)) (A : Arv Z h0 b k .char (0 : Int32) [] d) :
    ConS consts_1 l Z n0 (⟨"java/lang/String", "<init>", "([C)V"⟩ : MethodName) jdk_42_method_3_code 2 none [] ({ frames := 2, cells := 4, slots := 8, locals := 40 } : Room) #[(.ref x), (.ref b)] h0 [x] [x] (fun v h' => v = none ∧ ∃ t, Str Z h' x t []) := by
  refine ConS.of (a0 := a0) (plainFor_of_name own_pn_2) O (own_EW hw) (by simp [ge_x]) ?_
  intro p e s m below meth cdX T S hby hml hret hnm
  refine Go.cast (own_ef_3 m x b) ?_
  refine S.aloadN 1 (hb hby own_d_jdk_42_method_3_code_0) rfl rfl ?_
  refine S.aloadN 2 (hb hby own_d_jdk_42_method_3_code_1) rfl rfl ?_
  refine S.iconst 3 (0 : Int32) (hb hby own_d_jdk_42_method_3_code_2) ?_
  refine S.aloadN 4 (hb hby own_d_jdk_42_method_3_code_3) rfl rfl ?_
  refine S.alen 5 (hb hby own_d_jdk_42_method_3_code_4) A ?_
  refine S.anull 6 (hb hby own_d_jdk_42_method_3_code_5) ?_
  refine S.icallS 9 (hb hby own_d_jdk_42_method_3_code_6) (by rw [hml]; rfl) rfl (Tw hw 7 rfl) (Tw hw 8 rfl) (Tw hw 10 rfl) (by decide) [(.ref b), (.int (0 : Int32)), (.int (0 : Int32)), .null] [] (ConS.pay (W := 0) (own_sE4 l Z a0 hw h0 n0 S.old x b ge_x E FV FC) (Tw hw 10 rfl) (Tw hw 2 rfl) (by decide) (by decide)) (lenOf own_pd_4 rfl) rfl (Nle rfl) (by decide) (by decide) (Wrs.one (Or.inl (by simp)) (Or.inl (by simp))) (by simp) ?_
  intro v50 T51 h52 L53 S54 q55 K56
  obtain ⟨rfl, te, q55_2⟩ := q55
  show Go p e below _ T51 (mkF m 9 #[.val (.ref x), .val (.ref b)] [])
  exact S54.ret0 (hb hby own_d_jdk_42_method_3_code_9) hret (by decide) (by decide) ⟨rfl, te, q55_2⟩

theorem own_ef_5 (m : MethodId) (x0 : Addr) : entryFrame m #[(.ref x0)] 1 = mkF m 0 #[.val (.ref x0)] [] := by first | rfl | (simp [entryFrame, mkF, argsToLocals, Value.category]; done)
theorem own_d_jdk_31_method_10_code_0 : decode jdk_31_method_10_code 0 = .ok (.aload_n 0, 1) := by decide +kernel
theorem own_d_jdk_31_method_10_code_1 : decode jdk_31_method_10_code 1 = .ok (.ifnonnull 11, 3) := by decide +kernel
theorem own_d_jdk_31_method_10_code_12 : decode jdk_31_method_10_code 12 = .ok (.aload_n 0, 1) := by decide +kernel
theorem own_d_jdk_31_method_10_code_13 : decode jdk_31_method_10_code 13 = .ok (.areturn, 1) := by decide +kernel
theorem own_pn_6 : plainName "java/util/Objects" = true := by first | (simp [plainName, overriddenIn]; done) | decide +kernel
set_option maxRecDepth 65536 in
set_option maxHeartbeats 4000000 in
theorem own_rnn1 (l : Launch) (Z : State) (a0 : Array Value) (hw : ∀ d ∈ tables_1, d.before a0 Z = true) (h0 : Heap) (n0 : Nat) (O : Old Z n0 h0) (a : Addr) :
    Con l Z n0 (⟨"java/util/Objects", "requireNonNull", "(Ljava/lang/Object;)Ljava/lang/Object;"⟩ : MethodName) jdk_31_method_10_code 1 (some (.object "java/lang/Object")) [] ({ frames := 0, cells := 0, slots := 0, locals := 0 } : Room) #[(.ref a)] h0 [] (fun v h' => v = some (.ref a) ∧ h' = h0) := by
  refine Con.of a0 (plainFor_of_name own_pn_6) O (fun _ q => nomatch q) [] (fun _ q => nomatch q) ?_
  intro p e s m below meth cdX T S hby hml hret hnm
  refine Go.cast (own_ef_5 m a) ?_
  refine S.aloadN 1 (hb hby own_d_jdk_31_method_10_code_0) rfl rfl ?_
  refine S.nonnullY 12 (hb hby own_d_jdk_31_method_10_code_1) ?_
  refine S.aloadN 13 (hb hby own_d_jdk_31_method_10_code_12) rfl rfl ?_
  exact S.retA (hb hby own_d_jdk_31_method_10_code_13) hret rfl rfl (by decide) (by decide) ⟨rfl, rfl⟩

theorem own_d_jdk_32_method_2_code_0 : decode jdk_32_method_2_code 0 = .ok (.aload_n 0, 1) := by decide +kernel
theorem own_d_jdk_32_method_2_code_1 : decode jdk_32_method_2_code 1 = .ok (.invokespecial 7, 3) := by decide +kernel
theorem own_d_jdk_32_method_2_code_4 : decode jdk_32_method_2_code 4 = .ok (.aload_n 0, 1) := by decide +kernel
theorem own_d_jdk_32_method_2_code_5 : decode jdk_32_method_2_code 5 = .ok (.aload_n 1, 1) := by decide +kernel
theorem own_d_jdk_32_method_2_code_6 : decode jdk_32_method_2_code 6 = .ok (.putfield 13, 3) := by decide +kernel
theorem own_d_jdk_32_method_2_code_9 : decode jdk_32_method_2_code 9 = .ok (.return_, 1) := by decide +kernel
theorem own_pn_7 : plainName "java/util/Optional" = true := by first | (simp [plainName, overriddenIn]; done) | decide +kernel
set_option maxRecDepth 65536 in
set_option maxHeartbeats 4000000 in
theorem own_optI (l : Launch) (Z : State) (a0 : Array Value) (hw : ∀ d ∈ tables_1, d.before a0 Z = true) (h0 : Heap) (n0 : Nat) (O : Old Z n0 h0) (a : Addr) (q : Addr) (ge_a : n0 ≤ a) (E : Exa Z h0 a "java/util/Optional") (F : Fld Z h0 a "java/util/Optional" "value" "Ljava/lang/Object;" .null) :
    Con l Z n0 (⟨"java/util/Optional", "<init>", "(Ljava/lang/Object;)V"⟩ : MethodName) jdk_32_method_2_code 2 none [] ({ frames := 1, cells := 0, slots := 0, locals := 12 } : Room) #[(.ref a), (.ref q)] h0 [a] (fun v h' => v = none ∧ Exa Z h' a "java/util/Optional" ∧ Fld Z h' a "java/util/Optional" "value" "Ljava/lang/Object;" (.ref q)) := by
  refine Con.of a0 (plainFor_of_name own_pn_7) O (by simp [ge_a]) [] (fun _ q => nomatch q) ?_
  intro p e s m below meth cdX T S hby hml hret hnm
  refine Go.cast (own_ef_3 m a q) ?_
  refine S.aloadN 1 (hb hby own_d_jdk_32_method_2_code_0) rfl rfl ?_
  refine S.initO (W := 0) 4 (hb hby own_d_jdk_32_method_2_code_1) (by rw [hml]; rfl) (Tw hw 36 rfl) (Tw hw 12 rfl) (Tw hw 13 rfl) (by decide) (Nle rfl) (by decide) ?_
  intro T57 S58
  refine S58.aloadN 5 (hb hby own_d_jdk_32_method_2_code_4) rfl rfl ?_
  refine S58.aloadN 6 (hb hby own_d_jdk_32_method_2_code_5) rfl rfl ?_
  refine S58.putf (host := "") (ty := (.object "java/lang/Object")) 9 (hb hby own_d_jdk_32_method_2_code_6) (Or.inl (Tw hw 37 rfl)) Via.refl F E (Or.inr ⟨(Tw hw 38 rfl), rfl, hnm⟩) (Tw hw 27 rfl) (by decide) rfl rfl (Or.inl (by simp)) (Or.inl (by decide)) ?_
  intro T59 h60 L61 S62 W63
  have f64 := F.same W63
  have f65 := (E.wr W63)
  exact S62.ret0 (hb hby own_d_jdk_32_method_2_code_9) hret (by decide) (by decide) ⟨rfl, f65, f64⟩

theorem own_d_jdk_32_method_3_code_0 : decode jdk_32_method_3_code 0 = .ok (.new 2, 3) := by decide +kernel
theorem own_d_jdk_32_method_3_code_3 : decode jdk_32_method_3_code 3 = .ok (.dup, 1) := by decide +kernel
theorem own_d_jdk_32_method_3_code_4 : decode jdk_32_method_3_code 4 = .ok (.aload_n 0, 1) := by decide +kernel
theorem own_d_jdk_32_method_3_code_5 : decode jdk_32_method_3_code 5 = .ok (.invokestatic 17, 3) := by decide +kernel
theorem own_pd_8 : parseMethodDescriptor "(Ljava/lang/Object;)Ljava/lang/Object;" = some ⟨[(.object "java/lang/Object")], some (.object "java/lang/Object")⟩ := by decide +kernel
theorem own_d_jdk_32_method_3_code_8 : decode jdk_32_method_3_code 8 = .ok (.invokespecial 23, 3) := by decide +kernel
theorem own_pd_9 : parseMethodDescriptor "(Ljava/lang/Object;)V" = some ⟨[(.object "java/lang/Object")], none⟩ := by decide +kernel
theorem own_d_jdk_32_method_3_code_11 : decode jdk_32_method_3_code 11 = .ok (.areturn, 1) := by decide +kernel
set_option maxRecDepth 65536 in
set_option maxHeartbeats 4000000 in
theorem own_optOf (l : Launch) (Z : State) (a0 : Array Value) (hw : ∀ d ∈ tables_1, d.before a0 Z = true) (h0 : Heap) (n0 : Nat) (O : Old Z n0 h0) (q : Addr) :
    Con l Z n0 (⟨"java/util/Optional", "of", "(Ljava/lang/Object;)Ljava/util/Optional;"⟩ : MethodName) jdk_32_method_3_code 1 (some (.object "java/util/Optional")) [] ({ frames := 2, cells := 1, slots := 1, locals := 40 } : Room) #[(.ref q)] h0 [] (fun v h' => ∃ b, v = some (.ref b) ∧ h0.size ≤ b ∧ Exa Z h' b "java/util/Optional" ∧ Fld Z h' b "java/util/Optional" "value" "Ljava/lang/Object;" (.ref q)) := by
  refine Con.of a0 (plainFor_of_name own_pn_7) O (fun _ q => nomatch q) [] (fun _ q => nomatch q) ?_
  intro p e s m below meth cdX T S hby hml hret hnm
  refine Go.cast (own_ef_5 m q) ?_
  refine S.new 3 (hb hby own_d_jdk_32_method_3_code_0) (Tw hw 26 rfl) (Tw hw 27 rfl) (Tw hw 24 rfl) (by decide) (by decide) ?_
  intro T66 h67 b68 S69 E70 g71 wo72 A73 D74 U75
  have f76 : Fld Z h67 b68 "java/util/Optional" "value" "Ljava/lang/Object;" .null := D74 (Or.inr (Tw hw 38 rfl)) (ty := (.object "java/lang/Object")) (by decide)
  refine S69.dup 4 (hb hby own_d_jdk_32_method_3_code_3) rfl ?_
  refine S69.aloadN 5 (hb hby own_d_jdk_32_method_3_code_4) rfl rfl ?_
  refine S69.scall 8 (hb hby own_d_jdk_32_method_3_code_5) (by rw [hml]; rfl) (Tw hw 28 rfl) (Tw hw 29 rfl) (Tw hw 30 rfl) (Tw hw 31 rfl) (by decide) [(.ref q)] [(.ref b68), (.ref b68)] (Con.pay (W := 2) (own_rnn1 l Z a0 hw h67 n0 S69.old q) (Tw hw 31 rfl) (Tw hw 30 rfl) (by decide) (by decide)) (lenOf own_pd_8 rfl) rfl (Nle rfl) (by decide) (by decide) Wrs.nil ?_
  intro v77 T78 h79 L80 S81 q82 K83
  obtain ⟨rfl, e_q82⟩ := q82
  obtain rfl := e_q82.symm
  show Go p e below _ T78 (mkF m 8 #[.val (.ref q)] [(.ref q), (.ref b68), (.ref b68)])
  refine S81.icall 11 (hb hby own_d_jdk_32_method_3_code_8) (by rw [hml]; rfl) rfl (Tw hw 32 rfl) (Tw hw 33 rfl) (Tw hw 35 rfl) (by decide) [(.ref q)] [(.ref b68)] (Con.pay (W := 1) (own_optI l Z a0 hw h67 n0 S81.old b68 q (S81.ge wo72) A73 f76) (Tw hw 35 rfl) (Tw hw 24 rfl) (by decide) (by decide)) (lenOf own_pd_9 rfl) rfl (Nle rfl) (by decide) (by decide) (Wrs.one wo72 (Or.inr ⟨_, A73, by decide, by decide⟩)) ?_
  intro v84 T85 h86 L87 S88 q89 K90
  obtain ⟨rfl, gg1, gg2⟩ := q89
  show Go p e below _ T85 (mkF m 11 #[.val (.ref q)] [(.ref b68)])
  exact S88.retA (hb hby own_d_jdk_32_method_3_code_11) hret rfl rfl (by decide) (by decide) ⟨_, rfl, (by rcases wo72 with z | z; exact absurd z List.not_mem_nil; exact z), gg1, gg2⟩

theorem own_ef_10 (m : MethodId)  : entryFrame m #[] 1 = mkF m 0 #[.unset] [] := by first | rfl | (simp [entryFrame, mkF, argsToLocals, Value.category]; done)
theorem own_d_jdk_32_method_1_code_0 : decode jdk_32_method_1_code 0 = .ok (.getstatic 1, 3) := by decide +kernel
theorem own_d_jdk_32_method_1_code_3 : decode jdk_32_method_1_code 3 = .ok (.astore_n 0, 1) := by decide +kernel
theorem own_d_jdk_32_method_1_code_4 : decode jdk_32_method_1_code 4 = .ok (.aload_n 0, 1) := by decide +kernel
theorem own_d_jdk_32_method_1_code_5 : decode jdk_32_method_1_code 5 = .ok (.areturn, 1) := by decide +kernel
set_option maxRecDepth 65536 in
set_option maxHeartbeats 4000000 in
theorem own_optE (l : Launch) (Z : State) (a0 : Array Value) (hw : ∀ d ∈ tables_1, d.before a0 Z = true) (h0 : Heap) (n0 : Nat) (O : Old Z n0 h0) (a : Addr) (St : Sta Z Z.heap "java/util/Optional" "EMPTY" "Ljava/util/Optional;" (.ref a)) :
    Con l Z n0 (⟨"java/util/Optional", "empty", "()Ljava/util/Optional;"⟩ : MethodName) jdk_32_method_1_code 1 (some (.object "java/util/Optional")) [] ({ frames := 0, cells := 0, slots := 0, locals := 0 } : Room) #[] h0 [] (fun v h' => v = some (.ref a) ∧ h' = h0) := by
  refine Con.of a0 (plainFor_of_name own_pn_7) O (fun _ q => nomatch q) [] (fun _ q => nomatch q) ?_
  intro p e s m below meth cdX T S hby hml hret hnm
  refine Go.cast (own_ef_10 m ) ?_
  refine S.gets (host := "") 3 (hb hby own_d_jdk_32_method_1_code_0) (Or.inl (Tw hw 99 rfl)) Via.refl (St.ext S.old.2) ?_
  intro T91 S92
  refine S92.astoreN 4 #[.val (.ref a)] (hb hby own_d_jdk_32_method_1_code_3) rfl rfl ?_
  refine S92.aloadN 5 (hb hby own_d_jdk_32_method_1_code_4) rfl rfl ?_
  exact S92.retA (hb hby own_d_jdk_32_method_1_code_5) hret rfl rfl (by decide) (by decide) ⟨rfl, rfl⟩

theorem own_d_jdk_32_method_7_code_0 : decode jdk_32_method_7_code 0 = .ok (.aload_n 0, 1) := by decide +kernel
theorem own_d_jdk_32_method_7_code_1 : decode jdk_32_method_7_code 1 = .ok (.getfield 13, 3) := by decide +kernel
theorem own_d_jdk_32_method_7_code_4 : decode jdk_32_method_7_code 4 = .ok (.ifnonnull 7, 3) := by decide +kernel
theorem own_d_jdk_32_method_7_code_7 : decode jdk_32_method_7_code 7 = .ok (.iconst 1, 1) := by decide +kernel
theorem own_d_jdk_32_method_7_code_8 : decode jdk_32_method_7_code 8 = .ok (.goto 4, 3) := by decide +kernel
theorem own_d_jdk_32_method_7_code_12 : decode jdk_32_method_7_code 12 = .ok (.ireturn, 1) := by decide +kernel
set_option maxRecDepth 65536 in
set_option maxHeartbeats 4000000 in
theorem own_optisEmptyN (l : Launch) (Z : State) (a0 : Array Value) (hw : ∀ d ∈ tables_1, d.before a0 Z = true) (h0 : Heap) (n0 : Nat) (O : Old Z n0 h0) (a : Addr) (F : Fld Z h0 a "java/util/Optional" "value" "Ljava/lang/Object;" .null) :
    Con l Z n0 (⟨"java/util/Optional", "isEmpty", "()Z"⟩ : MethodName) jdk_32_method_7_code 1 (some .boolean) [] ({ frames := 0, cells := 0, slots := 0, locals := 0 } : Room) #[(.ref a)] h0 [] (fun v h' => v = some (.int 1) ∧ h' = h0) := by
  refine Con.of a0 (plainFor_of_name own_pn_7) O (fun _ q => nomatch q) [] (fun _ q => nomatch q) ?_
  intro p e s m below meth cdX T S hby hml hret hnm
  refine Go.cast (own_ef_5 m a) ?_
  refine S.aloadN 1 (hb hby own_d_jdk_32_method_7_code_0) rfl rfl ?_
  refine S.getf (host := "") 4 (hb hby own_d_jdk_32_method_7_code_1) (Or.inl (Tw hw 37 rfl)) Via.refl F ?_
  intro T93 S94
  refine S94.nonnullN 7 (hb hby own_d_jdk_32_method_7_code_4) ?_
  refine S94.iconst 8 (1 : Int32) (hb hby own_d_jdk_32_method_7_code_7) ?_
  refine S94.goto 12 (hb hby own_d_jdk_32_method_7_code_8) ?_
  exact S94.retN (t := .boolean) (hb hby own_d_jdk_32_method_7_code_12) hret (by decide) (by decide) (by decide) ⟨rfl, rfl⟩

theorem own_d_jdk_32_method_7_code_11 : decode jdk_32_method_7_code 11 = .ok (.iconst 0, 1) := by decide +kernel
set_option maxRecDepth 65536 in
set_option maxHeartbeats 4000000 in
theorem own_optisEmptyR (l : Launch) (Z : State) (a0 : Array Value) (hw : ∀ d ∈ tables_1, d.before a0 Z = true) (h0 : Heap) (n0 : Nat) (O : Old Z n0 h0) (a : Addr) (q : Addr) (F : Fld Z h0 a "java/util/Optional" "value" "Ljava/lang/Object;" (.ref q)) :
    Con l Z n0 (⟨"java/util/Optional", "isEmpty", "()Z"⟩ : MethodName) jdk_32_method_7_code 1 (some .boolean) [] ({ frames := 0, cells := 0, slots := 0, locals := 0 } : Room) #[(.ref a)] h0 [] (fun v h' => v = some (.int 0) ∧ h' = h0) := by
  refine Con.of a0 (plainFor_of_name own_pn_7) O (fun _ q => nomatch q) [] (fun _ q => nomatch q) ?_
  intro p e s m below meth cdX T S hby hml hret hnm
  refine Go.cast (own_ef_5 m a) ?_
  refine S.aloadN 1 (hb hby own_d_jdk_32_method_7_code_0) rfl rfl ?_
  refine S.getf (host := "") 4 (hb hby own_d_jdk_32_method_7_code_1) (Or.inl (Tw hw 37 rfl)) Via.refl F ?_
  intro T95 S96
  refine S96.nonnullY 11 (hb hby own_d_jdk_32_method_7_code_4) ?_
  refine S96.iconst 12 (0 : Int32) (hb hby own_d_jdk_32_method_7_code_11) ?_
  exact S96.retN (t := .boolean) (hb hby own_d_jdk_32_method_7_code_12) hret (by decide) (by decide) (by decide) ⟨rfl, rfl⟩

theorem own_ef_11 (m : MethodId) (x0 : Int32) : entryFrame m #[(.int x0)] 1 = mkF m 0 #[.val (.int x0)] [] := by first | rfl | (simp [entryFrame, mkF, argsToLocals, Value.category]; done)
theorem own_d_jdk_43_method_3_code_0 : decode jdk_43_method_3_code 0 = .ok (.iload_n 0, 1) := by decide +kernel
theorem own_d_jdk_43_method_3_code_1 : decode jdk_43_method_3_code 1 = .ok (.sipush 255, 3) := by decide +kernel
theorem own_d_jdk_43_method_3_code_4 : decode jdk_43_method_3_code 4 = .ok (.if_icmp .gt 7, 3) := by decide +kernel
theorem own_d_jdk_43_method_3_code_7 : decode jdk_43_method_3_code 7 = .ok (.iconst 1, 1) := by decide +kernel
theorem own_d_jdk_43_method_3_code_8 : decode jdk_43_method_3_code 8 = .ok (.goto 4, 3) := by decide +kernel
theorem own_d_jdk_43_method_3_code_12 : decode jdk_43_method_3_code 12 = .ok (.ireturn, 1) := by decide +kernel
theorem own_pn_12 : plainName "java/lang/StringLatin1" = true := by first | (simp [plainName, overriddenIn]; done) | decide +kernel
set_option maxRecDepth 65536 in
set_option maxHeartbeats 4000000 in
theorem own_can (l : Launch) (Z : State) (a0 : Array Value) (hw : ∀ d ∈ tables_1, d.before a0 Z = true) (h0 : Heap) (n0 : Nat) (O : Old Z n0 h0) (cc : Int32) (hc : Chr cc) :
    Con l Z n0 (⟨"java/lang/StringLatin1", "canEncode", "(C)Z"⟩ : MethodName) jdk_43_method_3_code 1 (some .boolean) [] ({ frames := 0, cells := 0, slots := 0, locals := 0 } : Room) #[(.int cc)] h0 [] (fun v h' => v = some (.int 1) ∧ h' = h0) := by
  refine Con.of a0 (plainFor_of_name own_pn_12) O (fun _ q => nomatch q) [] (fun _ q => nomatch q) ?_
  intro p e s m below meth cdX T S hby hml hret hnm
  refine Go.cast (own_ef_11 m cc) ?_
  refine S.iloadN 1 (hb hby own_d_jdk_43_method_3_code_0) rfl ?_
  refine S.sipush 4 (255 : Int32) (hb hby own_d_jdk_43_method_3_code_1) ?_
  refine S.icmpN 7 (hb hby own_d_jdk_43_method_3_code_4) (qGtF hc.2) ?_
  refine S.iconst 8 (1 : Int32) (hb hby own_d_jdk_43_method_3_code_7) ?_
  refine S.goto 12 (hb hby own_d_jdk_43_method_3_code_8) ?_
  exact S.retN (t := .boolean) (hb hby own_d_jdk_43_method_3_code_12) hret (by decide) (by decide) (by decide) ⟨rfl, rfl⟩

theorem own_d_jdk_43_method_46_code_0 : decode jdk_43_method_46_code 0 = .ok (.iconst 1, 1) := by decide +kernel
theorem own_d_jdk_43_method_46_code_1 : decode jdk_43_method_46_code 1 = .ok (.newarray .byte, 2) := by decide +kernel
theorem own_d_jdk_43_method_46_code_3 : decode jdk_43_method_46_code 3 = .ok (.dup, 1) := by decide +kernel
theorem own_d_jdk_43_method_46_code_4 : decode jdk_43_method_46_code 4 = .ok (.iconst 0, 1) := by decide +kernel
theorem own_d_jdk_43_method_46_code_5 : decode jdk_43_method_46_code 5 = .ok (.iload_n 0, 1) := by decide +kernel
theorem own_d_jdk_43_method_46_code_6 : decode jdk_43_method_46_code 6 = .ok (.i2b, 1) := by decide +kernel
theorem own_d_jdk_43_method_46_code_7 : decode jdk_43_method_46_code 7 = .ok (.bastore, 1) := by decide +kernel
theorem own_d_jdk_43_method_46_code_8 : decode jdk_43_method_46_code 8 = .ok (.areturn, 1) := by decide +kernel
set_option maxRecDepth 65536 in
set_option maxHeartbeats 4000000 in
theorem own_toB (l : Launch) (Z : State) (a0 : Array Value) (hw : ∀ d ∈ tables_1, d.before a0 Z = true) (h0 : Heap) (n0 : Nat) (O : Old Z n0 h0) (cc : Int32) :
    Con l Z n0 (⟨"java/lang/StringLatin1", "toBytes", "(C)[B"⟩ : MethodName) jdk_43_method_46_code 1 (some (.array .byte)) [] ({ frames := 0, cells := 1, slots := 1, locals := 0 } : Room) #[(.int cc)] h0 [] (fun v h' => ∃ b, v = some (.ref b)) := by
  refine Con.of a0 (plainFor_of_name own_pn_12) O (fun _ q => nomatch q) [] (fun _ q => nomatch q) ?_
  intro p e s m below meth cdX T S hby hml hret hnm
  refine Go.cast (own_ef_11 m cc) ?_
  refine S.iconst 1 (1 : Int32) (hb hby own_d_jdk_43_method_46_code_0) ?_
  refine S.newarr 3 1 (hb hby own_d_jdk_43_method_46_code_1) (Tw hw 15 rfl) (by decide) (by decide) (by decide) (by decide) (by decide) ?_
  intro T97 h98 b99 k100 S101 E102 g103 wo104 A105
  have f106 : Arv Z h98 b99 k100 .byte (1 : Int32) [(.int (0 : Int32))] (.int (0 : Int32)) := A105.pad (pad_rep [] (.int (0 : Int32)) 1)
  refine S101.dup 4 (hb hby own_d_jdk_43_method_46_code_3) rfl ?_
  refine S101.iconst 5 (0 : Int32) (hb hby own_d_jdk_43_method_46_code_4) ?_
  refine S101.iloadN 6 (hb hby own_d_jdk_43_method_46_code_5) rfl ?_
  refine S101.i2b 7 (hb hby own_d_jdk_43_method_46_code_6) ?_
  refine S101.bastore 8 0 (hb hby own_d_jdk_43_method_46_code_7) f106 ⟨by decide, by decide⟩ rfl (Nle rfl) wo104 (by simp) ?_
  intro T107 h108 L109 S110 W111 A112
  have f113 : Arv Z h108 b99 k100 .byte (1 : Int32) [(.int (nar .byte (cc.toInt8.toInt32)))] (.int (0 : Int32)) := A112
  exact S110.retA (hb hby own_d_jdk_43_method_46_code_8) hret rfl rfl (by decide) (by decide) ⟨_, rfl⟩

theorem own_ef_13 (m : MethodId) (x0 : Addr) (x1 : Addr) (x2 : Int32) : entryFrame m #[(.ref x0), (.ref x1), (.int x2)] 3 = mkF m 0 #[.val (.ref x0), .val (.ref x1), .val (.int x2)] [] := by first | rfl | (simp [entryFrame, mkF, argsToLocals, Value.category]; done)
theorem own_d_jdk_42_method_151_code_0 : decode jdk_42_method_151_code 0 = .ok (.aload_n 0, 1) := by decide +kernel
theorem own_d_jdk_42_method_151_code_1 : decode jdk_42_method_151_code 1 = .ok (.invokespecial 1, 3) := by decide +kernel
theorem own_d_jdk_42_method_151_code_4 : decode jdk_42_method_151_code 4 = .ok (.aload_n 0, 1) := by decide +kernel
theorem own_d_jdk_42_method_151_code_5 : decode jdk_42_method_151_code 5 = .ok (.aload_n 1, 1) := by decide +kernel
theorem own_d_jdk_42_method_151_code_6 : decode jdk_42_method_151_code 6 = .ok (.putfield 9, 3) := by decide +kernel
theorem own_d_jdk_42_method_151_code_9 : decode jdk_42_method_151_code 9 = .ok (.aload_n 0, 1) := by decide +kernel
theorem own_d_jdk_42_method_151_code_10 : decode jdk_42_method_151_code 10 = .ok (.iload_n 2, 1) := by decide +kernel
theorem own_d_jdk_42_method_151_code_11 : decode jdk_42_method_151_code 11 = .ok (.putfield 15, 3) := by decide +kernel
theorem own_d_jdk_42_method_151_code_14 : decode jdk_42_method_151_code 14 = .ok (.return_, 1) := by decide +kernel
set_option maxRecDepth 65536 in
set_option maxHeartbeats 4000000 in
theorem own_sBB (l : Launch) (Z : State) (a0 : Array Value) (hw : ∀ d ∈ tables_1, d.before a0 Z = true) (h0 : Heap) (n0 : Nat) (O : Old Z n0 h0) (x : Addr) (b : Addr) (ge_x : n0 ≤ x) (E : Exa Z h0 x "java/lang/String") (FV : Fld Z h0 x "java/lang/String" "value" "[B" .null) (FC : Fld Z h0 x "java/lang/String" "coder" "B" (.int 0)) :
    Con l Z n0 (⟨"java/lang/String", "<init>", "([BB)V"⟩ : MethodName) jdk_42_method_151_code 3 none [] ({ frames := 1, cells := 0, slots := 0, locals := 12 } : Room) #[(.ref x), (.ref b), (.int (0 : Int32))] h0 [x] (fun v h' => v = none) := by
  refine Con.of a0 (plainFor_of_name own_pn_2) O (by simp [ge_x]) [x] (by simp [E.lt]) ?_
  intro p e s m below meth cdX T S hby hml hret hnm
  refine Go.cast (own_ef_13 m x b (0 : Int32)) ?_
  refine S.aloadN 1 (hb hby own_d_jdk_42_method_151_code_0) rfl rfl ?_
  refine S.initO (W := 0) 4 (hb hby own_d_jdk_42_method_151_code_1) (by rw [hml]; rfl) (Tw hw 11 rfl) (Tw hw 12 rfl) (Tw hw 13 rfl) (by decide) (Nle rfl) (by decide) ?_
  intro T114 S115
  refine S115.aloadN 5 (hb hby own_d_jdk_42_method_151_code_4) rfl rfl ?_
  refine S115.aloadN 6 (hb hby own_d_jdk_42_method_151_code_5) rfl rfl ?_
  refine S115.putf (host := "") (ty := (.array .byte)) 9 (hb hby own_d_jdk_42_method_151_code_6) (Or.inl (Tw hw 20 rfl)) Via.refl FV E (Or.inr ⟨(Tw hw 16 rfl), rfl, hnm⟩) (Tw hw 1 rfl) (by decide) rfl rfl (Or.inl (by simp)) (Or.inr (by simp)) ?_
  intro T116 h117 L118 S119 W120
  have f121 := FV.same W120
  refine S119.aloadN 10 (hb hby own_d_jdk_42_method_151_code_9) rfl rfl ?_
  refine S119.iloadN 11 (hb hby own_d_jdk_42_method_151_code_10) rfl ?_
  have f122 := (FC.other W120 (Or.inr (slot_ne (t := .byte) (t' := (.array .byte)) (Or.inr (Tw hw 17 rfl)) (Or.inr (Tw hw 16 rfl)) (by decide) (by decide) (by decide))))
  have f123 := (E.wr W120)
  refine S119.putf (host := "") (ty := .byte) 14 (hb hby own_d_jdk_42_method_151_code_11) (Or.inl (Tw hw 21 rfl)) Via.refl f122 f123 (Or.inr ⟨(Tw hw 17 rfl), rfl, hnm⟩) (Tw hw 1 rfl) (by decide) rfl rfl (Or.inl (by simp)) (Or.inr (by simp)) ?_
  intro T124 h125 L126 S127 W128
  have f129 := f122.same W128
  exact S127.ret0 (hb hby own_d_jdk_42_method_151_code_14) hret (by decide) (by decide) rfl

theorem own_d_jdk_42_method_139_code_0 : decode jdk_42_method_139_code 0 = .ok (.getstatic 38, 3) := by decide +kernel
theorem own_d_jdk_42_method_139_code_3 : decode jdk_42_method_139_code 3 = .ok (.ifCond .eq 23, 3) := by decide +kernel
theorem own_d_jdk_42_method_139_code_6 : decode jdk_42_method_139_code 6 = .ok (.iload_n 0, 1) := by decide +kernel
theorem own_d_jdk_42_method_139_code_7 : decode jdk_42_method_139_code 7 = .ok (.invokestatic 1015, 3) := by decide +kernel
theorem own_pd_14 : parseMethodDescriptor "(C)Z" = some ⟨[.char], some .boolean⟩ := by decide +kernel
theorem own_d_jdk_42_method_139_code_10 : decode jdk_42_method_139_code 10 = .ok (.ifCond .eq 16, 3) := by decide +kernel
theorem own_d_jdk_42_method_139_code_13 : decode jdk_42_method_139_code 13 = .ok (.new 10, 3) := by decide +kernel
theorem own_d_jdk_42_method_139_code_16 : decode jdk_42_method_139_code 16 = .ok (.dup, 1) := by decide +kernel
theorem own_d_jdk_42_method_139_code_17 : decode jdk_42_method_139_code 17 = .ok (.iload_n 0, 1) := by decide +kernel
theorem own_d_jdk_42_method_139_code_18 : decode jdk_42_method_139_code 18 = .ok (.invokestatic 1018, 3) := by decide +kernel
theorem own_pd_15 : parseMethodDescriptor "(C)[B" = some ⟨[.char], some (.array .byte)⟩ := by decide +kernel
theorem own_d_jdk_42_method_139_code_21 : decode jdk_42_method_139_code 21 = .ok (.iconst 0, 1) := by decide +kernel
theorem own_d_jdk_42_method_139_code_22 : decode jdk_42_method_139_code 22 = .ok (.invokespecial 209, 3) := by decide +kernel
theorem own_pd_16 : parseMethodDescriptor "([BB)V" = some ⟨[(.array .byte), .byte], none⟩ := by decide +kernel
theorem own_d_jdk_42_method_139_code_25 : decode jdk_42_method_139_code 25 = .ok (.areturn, 1) := by decide +kernel
set_option maxRecDepth 65536 in
set_option maxHeartbeats 4000000 in
theorem own_vof (l : Launch) (Z : State) (a0 : Array Value) (hw : ∀ d ∈ tables_1, d.before a0 Z = true) (cm : Com Z) (h0 : Heap) (n0 : Nat) (O : Old Z n0 h0) (cc : Int32) (hc : Chr cc) :
    Con l Z n0 (⟨"java/lang/String", "valueOf", "(C)Ljava/lang/String;"⟩ : MethodName) jdk_42_method_139_code 1 (some (.object "java/lang/String")) [] ({ frames := 2, cells := 2, slots := 5, locals := 40 } : Room) #[(.int cc)] h0 [] (fun v h' => ∃ x, v = some (.ref x)) := by
  refine Con.of a0 (plainFor_of_name own_pn_2) O (fun _ q => nomatch q) [] (fun _ q => nomatch q) ?_
  intro p e s m below meth cdX T S hby hml hret hnm
  refine Go.cast (own_ef_11 m cc) ?_
  obtain ⟨zc, sc, nc⟩ := cm
  refine S.gets (host := "") 3 (hb hby own_d_jdk_42_method_139_code_0) (Or.inl (Tw hw 42 rfl)) Via.refl (sc.ext S.old.2) ?_
  intro T130 S131
  refine S131.ifN 6 (hb hby own_d_jdk_42_method_139_code_3) (zEqF nc) ?_
  refine S131.iloadN 7 (hb hby own_d_jdk_42_method_139_code_6) rfl ?_
  refine S131.scall 10 (hb hby own_d_jdk_42_method_139_code_7) (by rw [hml]; rfl) (Tw hw 43 rfl) (Tw hw 44 rfl) (Tw hw 45 rfl) (Tw hw 46 rfl) (by decide) [(.int cc)] [] (Con.pay (W := 0) (own_can l Z a0 hw h0 n0 S131.old cc hc) (Tw hw 46 rfl) (Tw hw 45 rfl) (by decide) (by decide)) (lenOf own_pd_14 rfl) rfl (Nle rfl) (by decide) (by decide) Wrs.nil ?_
  intro v132 T133 h134 L135 S136 q137 K138
  obtain ⟨rfl, e_q137⟩ := q137
  obtain rfl := e_q137.symm
  show Go p e below _ T133 (mkF m 10 #[.val (.int cc)] [(.int (1 : Int32))])
  refine S136.ifN 13 (hb hby own_d_jdk_42_method_139_code_10) (zEqF (by decide)) ?_
  refine S136.new 16 (hb hby own_d_jdk_42_method_139_code_13) (Tw hw 47 rfl) (Tw hw 1 rfl) (Tw hw 2 rfl) (by decide) (by decide) ?_
  intro T139 h140 b141 S142 E143 g144 wo145 A146 D147 U148
  have f149 : Fld Z h140 b141 "java/lang/String" "value" "[B" .null := D147 (Or.inr (Tw hw 16 rfl)) (ty := (.array .byte)) (by decide)
  have f150 : Fld Z h140 b141 "java/lang/String" "coder" "B" (.int (0 : Int32)) := D147 (Or.inr (Tw hw 17 rfl)) (ty := .byte) (by decide)
  refine S142.dup 17 (hb hby own_d_jdk_42_method_139_code_16) rfl ?_
  refine S142.iloadN 18 (hb hby own_d_jdk_42_method_139_code_17) rfl ?_
  refine S142.scall 21 (hb hby own_d_jdk_42_method_139_code_18) (by rw [hml]; rfl) (Tw hw 48 rfl) (Tw hw 49 rfl) (Tw hw 45 rfl) (Tw hw 50 rfl) (by decide) [(.int cc)] [(.ref b141), (.ref b141)] (Con.pay (W := 2) (own_toB l Z a0 hw h140 n0 S142.old cc) (Tw hw 50 rfl) (Tw hw 45 rfl) (by decide) (by decide)) (lenOf own_pd_15 rfl) rfl (Nle rfl) (by decide) (by decide) Wrs.nil ?_
  intro v151 T152 h153 L154 S155 q156 K157
  obtain ⟨bb, rfl⟩ := q156
  show Go p e below _ T152 (mkF m 21 #[.val (.int cc)] [(.ref bb), (.ref b141), (.ref b141)])
  refine S155.iconst 22 (0 : Int32) (hb hby own_d_jdk_42_method_139_code_21) ?_
  have f158 := (A146.keep K157)
  have f159 := (f149.keep K157 nin0)
  have f160 := (f150.keep K157 nin0)
  refine S155.icall 25 (hb hby own_d_jdk_42_method_139_code_22) (by rw [hml]; rfl) rfl (Tw hw 51 rfl) (Tw hw 52 rfl) (Tw hw 53 rfl) (by decide) [(.ref bb), (.int (0 : Int32))] [(.ref b141)] (Con.pay (W := 1) (own_sBB l Z a0 hw h153 n0 S155.old b141 bb (S155.ge wo145) f158 f159 f160) (Tw hw 53 rfl) (Tw hw 2 rfl) (by decide) (by decide)) (lenOf own_pd_16 rfl) rfl (Nle rfl) (by decide) (by decide) (Wrs.one wo145 (Or.inl (by simp))) ?_
  intro v161 T162 h163 L164 S165 q166 K167
  obtain rfl := q166
  show Go p e below _ T162 (mkF m 25 #[.val (.int cc)] [(.ref b141)])
  exact S165.retA (hb hby own_d_jdk_42_method_139_code_25) hret rfl rfl (by decide) (by decide) ⟨_, rfl⟩

theorem own_d_jdk_30_method_1_code_0 : decode jdk_30_method_1_code 0 = .ok (.aload_n 0, 1) := by decide +kernel
theorem own_d_jdk_30_method_1_code_1 : decode jdk_30_method_1_code 1 = .ok (.invokespecial 1, 3) := by decide +kernel
theorem own_d_jdk_30_method_1_code_4 : decode jdk_30_method_1_code 4 = .ok (.return_, 1) := by decide +kernel
theorem own_pn_17 : plainName "java/lang/Record" = true := by first | (simp [plainName, overriddenIn]; done) | decide +kernel
set_option maxRecDepth 65536 in
set_option maxHeartbeats 4000000 in
theorem own_rec (l : Launch) (Z : State) (a0 : Array Value) (hw : ∀ d ∈ tables_1, d.before a0 Z = true) (h0 : Heap) (n0 : Nat) (O : Old Z n0 h0) (a : Addr) :
    Con l Z n0 (⟨"java/lang/Record", "<init>", "()V"⟩ : MethodName) jdk_30_method_1_code 1 none [] ({ frames := 1, cells := 0, slots := 0, locals := 12 } : Room) #[(.ref a)] h0 [] (fun v h' => v = none ∧ h' = h0) := by
  refine Con.of a0 (plainFor_of_name own_pn_17) O (fun _ q => nomatch q) [] (fun _ q => nomatch q) ?_
  intro p e s m below meth cdX T S hby hml hret hnm
  refine Go.cast (own_ef_5 m a) ?_
  refine S.aloadN 1 (hb hby own_d_jdk_30_method_1_code_0) rfl rfl ?_
  refine S.initO (W := 0) 4 (hb hby own_d_jdk_30_method_1_code_1) (by rw [hml]; rfl) (Tw hw 65 rfl) (Tw hw 12 rfl) (Tw hw 13 rfl) (by decide) (Nle rfl) (by decide) ?_
  intro T168 S169
  exact S169.ret0 (hb hby own_d_jdk_30_method_1_code_4) hret (by decide) (by decide) ⟨rfl, rfl⟩

theorem own_ef_18 (m : MethodId) (x0 : Addr) (x1 : Addr) (x2 : Int32) (x3 : Addr) (x4 : Addr) (x5 : Int32) : entryFrame m #[(.ref x0), (.ref x1), (.int x2), (.ref x3), (.ref x4), (.int x5)] 6 = mkF m 0 #[.val (.ref x0), .val (.ref x1), .val (.int x2), .val (.ref x3), .val (.ref x4), .val (.int x5)] [] := by first | rfl | (simp [entryFrame, mkF, argsToLocals, Value.category]; done)
theorem own_d_prog_30_method_1_code_0 : decode prog_30_method_1_code 0 = .ok (.aload_n 0, 1) := by decide +kernel
theorem own_d_prog_30_method_1_code_1 : decode prog_30_method_1_code 1 = .ok (.invokespecial 1, 3) := by decide +kernel
theorem own_pd_19 : parseMethodDescriptor "()V" = some ⟨[], none⟩ := by decide +kernel
theorem own_d_prog_30_method_1_code_4 : decode prog_30_method_1_code 4 = .ok (.aload_n 0, 1) := by decide +kernel
theorem own_d_prog_30_method_1_code_5 : decode prog_30_method_1_code 5 = .ok (.aload_n 1, 1) := by decide +kernel
theorem own_d_prog_30_method_1_code_6 : decode prog_30_method_1_code 6 = .ok (.putfield 7, 3) := by decide +kernel
theorem own_d_prog_30_method_1_code_9 : decode prog_30_method_1_code 9 = .ok (.aload_n 0, 1) := by decide +kernel
theorem own_d_prog_30_method_1_code_10 : decode prog_30_method_1_code 10 = .ok (.iload_n 2, 1) := by decide +kernel
theorem own_d_prog_30_method_1_code_11 : decode prog_30_method_1_code 11 = .ok (.putfield 13, 3) := by decide +kernel
theorem own_d_prog_30_method_1_code_14 : decode prog_30_method_1_code 14 = .ok (.aload_n 0, 1) := by decide +kernel
theorem own_d_prog_30_method_1_code_15 : decode prog_30_method_1_code 15 = .ok (.aload_n 3, 1) := by decide +kernel
theorem own_d_prog_30_method_1_code_16 : decode prog_30_method_1_code 16 = .ok (.putfield 17, 3) := by decide +kernel
theorem own_d_prog_30_method_1_code_19 : decode prog_30_method_1_code 19 = .ok (.aload_n 0, 1) := by decide +kernel
theorem own_d_prog_30_method_1_code_20 : decode prog_30_method_1_code 20 = .ok (.aload 4, 2) := by decide +kernel
theorem own_d_prog_30_method_1_code_22 : decode prog_30_method_1_code 22 = .ok (.putfield 21, 3) := by decide +kernel
theorem own_d_prog_30_method_1_code_25 : decode prog_30_method_1_code 25 = .ok (.aload_n 0, 1) := by decide +kernel
theorem own_d_prog_30_method_1_code_26 : decode prog_30_method_1_code 26 = .ok (.iload 5, 2) := by decide +kernel
theorem own_d_prog_30_method_1_code_28 : decode prog_30_method_1_code 28 = .ok (.putfield 24, 3) := by decide +kernel
theorem own_d_prog_30_method_1_code_31 : decode prog_30_method_1_code 31 = .ok (.return_, 1) := by decide +kernel
theorem own_pn_20 : plainName "com/example/oref/oref/wikipedia/Page" = true := by first | (simp [plainName, overriddenIn]; done) | decide +kernel
set_option maxRecDepth 65536 in
set_option maxHeartbeats 4000000 in
theorem own_page (l : Launch) (Z : State) (a0 : Array Value) (hw : ∀ d ∈ tables_1, d.before a0 Z = true) (h0 : Heap) (n0 : Nat) (O : Old Z n0 h0) (a : Addr) (s1 : Addr) (ns : Int32) (o : Addr) (s2 : Addr) (ln : Int32) (ge_a : n0 ≤ a) (E : Exa Z h0 a "com/example/oref/oref/wikipedia/Page") (F_title : Fld Z h0 a "com/example/oref/oref/wikipedia/Page" "title" "Ljava/lang/String;" .null) (F_namespace : Fld Z h0 a "com/example/oref/oref/wikipedia/Page" "namespace" "I" (.int (0 : Int32))) (F_redirect : Fld Z h0 a "com/example/oref/oref/wikipedia/Page" "redirect" "Ljava/util/Optional;" .null) (F_text : Fld Z h0 a "com/example/oref/oref/wikipedia/Page" "text" "Ljava/lang/String;" .null) (F_line : Fld Z h0 a "com/example/oref/oref/wikipedia/Page" "line" "I" (.int (0 : Int32))) :
    Con l Z n0 (⟨"com/example/oref/oref/wikipedia/Page", "<init>", "(Ljava/lang/String;ILjava/util/Optional;Ljava/lang/String;I)V"⟩ : MethodName) prog_30_method_1_code 6 none [] ({ frames := 2, cells := 0, slots := 0, locals := 30 } : Room) #[(.ref a), (.ref s1), (.int ns), (.ref o), (.ref s2), (.int ln)] h0 [a] (fun v h' => v = none ∧ Exa Z h' a "com/example/oref/oref/wikipedia/Page" ∧ Fld Z h' a "com/example/oref/oref/wikipedia/Page" "namespace" "I" (.int ns) ∧ Fld Z h' a "com/example/oref/oref/wikipedia/Page" "redirect" "Ljava/util/Optional;" (.ref o)) := by
  refine Con.of a0 (plainFor_of_name own_pn_20) O (by simp [ge_a]) [] (fun _ q => nomatch q) ?_
  intro p e s m below meth cdX T S hby hml hret hnm
  refine Go.cast (own_ef_18 m a s1 ns o s2 ln) ?_
  refine S.aloadN 1 (hb hby own_d_prog_30_method_1_code_0) rfl rfl ?_
  refine S.icall 4 (hb hby own_d_prog_30_method_1_code_1) (by rw [hml]; rfl) rfl (Tw hw 60 rfl) (Tw hw 61 rfl) (Tw hw 64 rfl) (by decide) [] [] (Con.pay (W := 0) (own_rec l Z a0 hw h0 n0 S.old a) (Tw hw 64 rfl) (Tw hw 63 rfl) (by decide) (by decide)) (lenOf own_pd_19 rfl) rfl (Nle rfl) (by decide) (by decide) Wrs.nil ?_
  intro v170 T171 h172 L173 S174 q175 K176
  obtain ⟨rfl, e_q175⟩ := q175
  obtain rfl := e_q175.symm
  show Go p e below _ T171 (mkF m 4 #[.val (.ref a), .val (.ref s1), .val (.int ns), .val (.ref o), .val (.ref s2), .val (.int ln)] [])
  refine S174.aloadN 5 (hb hby own_d_prog_30_method_1_code_4) rfl rfl ?_
  refine S174.aloadN 6 (hb hby own_d_prog_30_method_1_code_5) rfl rfl ?_
  refine S174.putf (host := "") (ty := (.object "java/lang/String")) 9 (hb hby own_d_prog_30_method_1_code_6) (Or.inl (Tw hw 66 rfl)) Via.refl F_title E (Or.inr ⟨(Tw hw 67 rfl), rfl, hnm⟩) (Tw hw 55 rfl) (by decide) rfl rfl (Or.inl (by simp)) (Or.inl (by decide)) ?_
  intro T177 h178 L179 S180 W181
  have f182 := F_title.same W181
  refine S180.aloadN 10 (hb hby own_d_prog_30_method_1_code_9) rfl rfl ?_
  refine S180.iloadN 11 (hb hby own_d_prog_30_method_1_code_10) rfl ?_
  have f183 := (F_namespace.other W181 (Or.inr (slot_ne (t := .int) (t' := (.object "java/lang/String")) (Or.inr (Tw hw 69 rfl)) (Or.inr (Tw hw 67 rfl)) (by decide) (by decide) (by decide))))
  have f184 := (E.wr W181)
  refine S180.putf (host := "") (ty := .int) 14 (hb hby own_d_prog_30_method_1_code_11) (Or.inl (Tw hw 68 rfl)) Via.refl f183 f184 (Or.inr ⟨(Tw hw 69 rfl), rfl, hnm⟩) (Tw hw 55 rfl) (by decide) rfl rfl (Or.inl (by simp)) (Or.inl (by decide)) ?_
  intro T185 h186 L187 S188 W189
  have f190 := f183.same W189
  refine S188.aloadN 15 (hb hby own_d_prog_30_method_1_code_14) rfl rfl ?_
  refine S188.aloadN 16 (hb hby own_d_prog_30_method_1_code_15) rfl rfl ?_
  have f191 := ((F_redirect.other W181 (Or.inr (slot_ne (t := (.object "java/util/Optional")) (t' := (.object "java/lang/String")) (Or.inr (Tw hw 71 rfl)) (Or.inr (Tw hw 67 rfl)) (by decide) (by decide) (by decide)))).other W189 (Or.inr (slot_ne (t := (.object "java/util/Optional")) (t' := .int) (Or.inr (Tw hw 71 rfl)) (Or.inr (Tw hw 69 rfl)) (by decide) (by decide) (by decide))))
  have f192 := (f184.wr W189)
  refine S188.putf (host := "") (ty := (.object "java/util/Optional")) 19 (hb hby own_d_prog_30_method_1_code_16) (Or.inl (Tw hw 70 rfl)) Via.refl f191 f192 (Or.inr ⟨(Tw hw 71 rfl), rfl, hnm⟩) (Tw hw 55 rfl) (by decide) rfl rfl (Or.inl (by simp)) (Or.inl (by decide)) ?_
  intro T193 h194 L195 S196 W197
  have f198 := f191.same W197
  refine S196.aloadN 20 (hb hby own_d_prog_30_method_1_code_19) rfl rfl ?_
  refine S196.aload 22 (hb hby own_d_prog_30_method_1_code_20) rfl rfl ?_
  have f199 := (((F_text.other W181 (Or.inr (slot_ne (t := (.object "java/lang/String")) (t' := (.object "java/lang/String")) (Or.inr (Tw hw 73 rfl)) (Or.inr (Tw hw 67 rfl)) (by decide) (by decide) (by decide)))).other W189 (Or.inr (slot_ne (t := (.object "java/lang/String")) (t' := .int) (Or.inr (Tw hw 73 rfl)) (Or.inr (Tw hw 69 rfl)) (by decide) (by decide) (by decide)))).other W197 (Or.inr (slot_ne (t := (.object "java/lang/String")) (t' := (.object "java/util/Optional")) (Or.inr (Tw hw 73 rfl)) (Or.inr (Tw hw 71 rfl)) (by decide) (by decide) (by decide))))
  have f200 := (f192.wr W197)
  refine S196.putf (host := "") (ty := (.object "java/lang/String")) 25 (hb hby own_d_prog_30_method_1_code_22) (Or.inl (Tw hw 72 rfl)) Via.refl f199 f200 (Or.inr ⟨(Tw hw 73 rfl), rfl, hnm⟩) (Tw hw 55 rfl) (by decide) rfl rfl (Or.inl (by simp)) (Or.inl (by decide)) ?_
  intro T201 h202 L203 S204 W205
  have f206 := f199.same W205
  refine S204.aloadN 26 (hb hby own_d_prog_30_method_1_code_25) rfl rfl ?_
  refine S204.iload 28 (hb hby own_d_prog_30_method_1_code_26) rfl ?_
  have f207 := ((((F_line.other W181 (Or.inr (slot_ne (t := .int) (t' := (.object "java/lang/String")) (Or.inr (Tw hw 75 rfl)) (Or.inr (Tw hw 67 rfl)) (by decide) (by decide) (by decide)))).other W189 (Or.inr (slot_ne (t := .int) (t' := .int) (Or.inr (Tw hw 75 rfl)) (Or.inr (Tw hw 69 rfl)) (by decide) (by decide) (by decide)))).other W197 (Or.inr (slot_ne (t := .int) (t' := (.object "java/util/Optional")) (Or.inr (Tw hw 75 rfl)) (Or.inr (Tw hw 71 rfl)) (by decide) (by decide) (by decide)))).other W205 (Or.inr (slot_ne (t := .int) (t' := (.object "java/lang/String")) (Or.inr (Tw hw 75 rfl)) (Or.inr (Tw hw 73 rfl)) (by decide) (by decide) (by decide))))
  have f208 := (f200.wr W205)
  refine S204.putf (host := "") (ty := .int) 31 (hb hby own_d_prog_30_method_1_code_28) (Or.inl (Tw hw 74 rfl)) Via.refl f207 f208 (Or.inr ⟨(Tw hw 75 rfl), rfl, hnm⟩) (Tw hw 55 rfl) (by decide) rfl rfl (Or.inl (by simp)) (Or.inl (by decide)) ?_
  intro T209 h210 L211 S212 W213
  have f214 := f207.same W213
  have f215 := (f208.wr W213)
  have f216 := (((f190.other W197 (Or.inr (slot_ne (t := .int) (t' := (.object "java/util/Optional")) (Or.inr (Tw hw 69 rfl)) (Or.inr (Tw hw 71 rfl)) (by decide) (by decide) (by decide)))).other W205 (Or.inr (slot_ne (t := .int) (t' := (.object "java/lang/String")) (Or.inr (Tw hw 69 rfl)) (Or.inr (Tw hw 73 rfl)) (by decide) (by decide) (by decide)))).other W213 (Or.inr (slot_ne (t := .int) (t' := .int) (Or.inr (Tw hw 69 rfl)) (Or.inr (Tw hw 75 rfl)) (by decide) (by decide) (by decide))))
  have f217 := ((f198.other W205 (Or.inr (slot_ne (t := (.object "java/util/Optional")) (t' := (.object "java/lang/String")) (Or.inr (Tw hw 71 rfl)) (Or.inr (Tw hw 73 rfl)) (by decide) (by decide) (by decide)))).other W213 (Or.inr (slot_ne (t := (.object "java/util/Optional")) (t' := .int) (Or.inr (Tw hw 71 rfl)) (Or.inr (Tw hw 75 rfl)) (by decide) (by decide) (by decide))))
  exact S212.ret0 (hb hby own_d_prog_30_method_1_code_31) hret (by decide) (by decide) ⟨rfl, f215, f216, f217⟩

theorem own_d_prog_30_method_2_code_0 : decode prog_30_method_2_code 0 = .ok (.aload_n 0, 1) := by decide +kernel
theorem own_d_prog_30_method_2_code_1 : decode prog_30_method_2_code 1 = .ok (.getfield 13, 3) := by decide +kernel
theorem own_d_prog_30_method_2_code_4 : decode prog_30_method_2_code 4 = .ok (.ifCond .ne 17, 3) := by decide +kernel
theorem own_d_prog_30_method_2_code_7 : decode prog_30_method_2_code 7 = .ok (.aload_n 0, 1) := by decide +kernel
theorem own_d_prog_30_method_2_code_8 : decode prog_30_method_2_code 8 = .ok (.getfield 17, 3) := by decide +kernel
theorem own_d_prog_30_method_2_code_11 : decode prog_30_method_2_code 11 = .ok (.invokevirtual 27, 3) := by decide +kernel
theorem own_pd_21 : parseMethodDescriptor "()Z" = some ⟨[], some .boolean⟩ := by decide +kernel
theorem own_d_prog_30_method_2_code_14 : decode prog_30_method_2_code 14 = .ok (.ifCond .eq 7, 3) := by decide +kernel
theorem own_d_prog_30_method_2_code_17 : decode prog_30_method_2_code 17 = .ok (.iconst 1, 1) := by decide +kernel
theorem own_d_prog_30_method_2_code_18 : decode prog_30_method_2_code 18 = .ok (.goto 4, 3) := by decide +kernel
theorem own_d_prog_30_method_2_code_22 : decode prog_30_method_2_code 22 = .ok (.ireturn, 1) := by decide +kernel
theorem own_d_prog_30_method_2_code_21 : decode prog_30_method_2_code 21 = .ok (.iconst 0, 1) := by decide +kernel
set_option maxRecDepth 65536 in
set_option maxHeartbeats 4000000 in
theorem own_artN (l : Launch) (Z : State) (a0 : Array Value) (hw : ∀ d ∈ tables_1, d.before a0 Z = true) (h0 : Heap) (n0 : Nat) (O : Old Z n0 h0) (a : Addr) (ns : Int32) (o : Addr) (F1 : Fld Z h0 a "com/example/oref/oref/wikipedia/Page" "namespace" "I" (.int ns)) (F2 : Fld Z h0 a "com/example/oref/oref/wikipedia/Page" "redirect" "Ljava/util/Optional;" (.ref o)) (E : Exa Z h0 o "java/util/Optional") (F3 : Fld Z h0 o "java/util/Optional" "value" "Ljava/lang/Object;" .null) :
    Con l Z n0 (⟨"com/example/oref/oref/wikipedia/Page", "isArticle", "()Z"⟩ : MethodName) prog_30_method_2_code 1 (some .boolean) [] ({ frames := 1, cells := 0, slots := 0, locals := 20 } : Room) #[(.ref a)] h0 [] (fun v h' => v = some (.int (if ns = 0 then 1 else 0)) ∧ h' = h0) := by
  refine Con.of a0 (plainFor_of_name own_pn_20) O (fun _ q => nomatch q) [] (fun _ q => nomatch q) ?_
  intro p e s m below meth cdX T S hby hml hret hnm
  refine Go.cast (own_ef_5 m a) ?_
  refine S.aloadN 1 (hb hby own_d_prog_30_method_2_code_0) rfl rfl ?_
  refine S.getf (host := "") 4 (hb hby own_d_prog_30_method_2_code_1) (Or.inl (Tw hw 68 rfl)) Via.refl F1 ?_
  intro T218 S219
  by_cases hq : ns = (0 : Int32)
  · skip
    refine S219.ifN 7 (hb hby own_d_prog_30_method_2_code_4) (zNeF hq) ?_
    refine S219.aloadN 8 (hb hby own_d_prog_30_method_2_code_7) rfl rfl ?_
    refine S219.getf (host := "") 11 (hb hby own_d_prog_30_method_2_code_8) (Or.inl (Tw hw 70 rfl)) Via.refl F2 ?_
    intro T220 S221
    refine S221.vcall 14 (hb hby own_d_prog_30_method_2_code_11) (by rw [hml]; rfl) (Tw hw 81 rfl) (Tw hw 82 rfl) (Tw hw 84 rfl) (Tw hw 83 rfl) (nfSel (Tw hw 84 rfl)) (by decide) E [] [] (Con.pay (W := 0) (own_optisEmptyN l Z a0 hw h0 n0 S221.old o F3) (Tw hw 85 rfl) (Tw hw 24 rfl) (by decide) (by decide)) (lenOf own_pd_21 rfl) rfl (Nle rfl) (by decide) (by decide) Wrs.nil ?_
    intro v222 T223 h224 L225 S226 q227 K228
    obtain ⟨rfl, e_q227⟩ := q227
    obtain rfl := e_q227.symm
    show Go p e below _ T223 (mkF m 14 #[.val (.ref a)] [(.int (1 : Int32))])
    refine S226.ifN 17 (hb hby own_d_prog_30_method_2_code_14) (zEqF (by decide)) ?_
    refine S226.iconst 18 (1 : Int32) (hb hby own_d_prog_30_method_2_code_17) ?_
    refine S226.goto 22 (hb hby own_d_prog_30_method_2_code_18) ?_
    exact S226.retN (t := .boolean) (hb hby own_d_prog_30_method_2_code_22) hret (by decide) (by decide) (by decide) ⟨by simp [hq]; try decide, rfl⟩
  · skip
    refine S219.ifY 21 (hb hby own_d_prog_30_method_2_code_4) (zNeT hq) ?_
    refine S219.iconst 22 (0 : Int32) (hb hby own_d_prog_30_method_2_code_21) ?_
    exact S219.retN (t := .boolean) (hb hby own_d_prog_30_method_2_code_22) hret (by decide) (by decide) (by decide) ⟨by simp [hq]; try decide, rfl⟩


set_option maxRecDepth 65536 in
set_option maxHeartbeats 4000000 in
theorem own_artR (l : Launch) (Z : State) (a0 : Array Value) (hw : ∀ d ∈ tables_1, d.before a0 Z = true) (h0 : Heap) (n0 : Nat) (O : Old Z n0 h0) (a : Addr) (ns : Int32) (o : Addr) (q : Addr) (F1 : Fld Z h0 a "com/example/oref/oref/wikipedia/Page" "namespace" "I" (.int ns)) (F2 : Fld Z h0 a "com/example/oref/oref/wikipedia/Page" "redirect" "Ljava/util/Optional;" (.ref o)) (E : Exa Z h0 o "java/util/Optional") (F3 : Fld Z h0 o "java/util/Optional" "value" "Ljava/lang/Object;" (.ref q)) :
    Con l Z n0 (⟨"com/example/oref/oref/wikipedia/Page", "isArticle", "()Z"⟩ : MethodName) prog_30_method_2_code 1 (some .boolean) [] ({ frames := 1, cells := 0, slots := 0, locals := 20 } : Room) #[(.ref a)] h0 [] (fun v h' => v = some (.int 0) ∧ h' = h0) := by
  refine Con.of a0 (plainFor_of_name own_pn_20) O (fun _ q => nomatch q) [] (fun _ q => nomatch q) ?_
  intro p e s m below meth cdX T S hby hml hret hnm
  refine Go.cast (own_ef_5 m a) ?_
  refine S.aloadN 1 (hb hby own_d_prog_30_method_2_code_0) rfl rfl ?_
  refine S.getf (host := "") 4 (hb hby own_d_prog_30_method_2_code_1) (Or.inl (Tw hw 68 rfl)) Via.refl F1 ?_
  intro T229 S230
  by_cases hq : ns = (0 : Int32)
  · skip
    refine S230.ifN 7 (hb hby own_d_prog_30_method_2_code_4) (zNeF hq) ?_
    refine S230.aloadN 8 (hb hby own_d_prog_30_method_2_code_7) rfl rfl ?_
    refine S230.getf (host := "") 11 (hb hby own_d_prog_30_method_2_code_8) (Or.inl (Tw hw 70 rfl)) Via.refl F2 ?_
    intro T231 S232
    refine S232.vcall 14 (hb hby own_d_prog_30_method_2_code_11) (by rw [hml]; rfl) (Tw hw 81 rfl) (Tw hw 82 rfl) (Tw hw 84 rfl) (Tw hw 83 rfl) (nfSel (Tw hw 84 rfl)) (by decide) E [] [] (Con.pay (W := 0) (own_optisEmptyR l Z a0 hw h0 n0 S232.old o q F3) (Tw hw 85 rfl) (Tw hw 24 rfl) (by decide) (by decide)) (lenOf own_pd_21 rfl) rfl (Nle rfl) (by decide) (by decide) Wrs.nil ?_
    intro v233 T234 h235 L236 S237 q238 K239
    obtain ⟨rfl, e_q238⟩ := q238
    obtain rfl := e_q238.symm
    show Go p e below _ T234 (mkF m 14 #[.val (.ref a)] [(.int (0 : Int32))])
    refine S237.ifY 21 (hb hby own_d_prog_30_method_2_code_14) (zEqT (by decide)) ?_
    refine S237.iconst 22 (0 : Int32) (hb hby own_d_prog_30_method_2_code_21) ?_
    exact S237.retN (t := .boolean) (hb hby own_d_prog_30_method_2_code_22) hret (by decide) (by decide) (by decide) ⟨rfl, rfl⟩
  · skip
    refine S230.ifY 21 (hb hby own_d_prog_30_method_2_code_4) (zNeT hq) ?_
    refine S230.iconst 22 (0 : Int32) (hb hby own_d_prog_30_method_2_code_21) ?_
    exact S230.retN (t := .boolean) (hb hby own_d_prog_30_method_2_code_22) hret (by decide) (by decide) (by decide) ⟨rfl, rfl⟩

theorem own_ef_22 (m : MethodId) (x0 : Int32) (x1 : Int32) (x2 : Int32) (x3 : Int32) : entryFrame m #[(.int x0), (.int x1), (.int x2), (.int x3)] maxLocals = mkF m 0 #[.val (.int x0), .val (.int x1), .val (.int x2), .val (.int x3), .unset, .unset, .unset, .unset, .unset, .unset, .unset, .unset] [] := by first | rfl | (simp [entryFrame, mkF, argsToLocals, Value.category, maxLocals]; done)
theorem own_pd_23 : parseMethodDescriptor "([C)V" = some ⟨[(.array .char)], none⟩ := by decide +kernel
theorem own_pd_24 : parseMethodDescriptor "()Ljava/util/Optional;" = some ⟨[], some (.object "java/util/Optional")⟩ := by decide +kernel
theorem own_pd_25 : parseMethodDescriptor "(C)Ljava/lang/String;" = some ⟨[.char], some (.object "java/lang/String")⟩ := by decide +kernel
theorem own_pd_26 : parseMethodDescriptor "(Ljava/lang/String;ILjava/util/Optional;Ljava/lang/String;I)V" = some ⟨[(.object "java/lang/String"), .int, (.object "java/util/Optional"), (.object "java/lang/String"), .int], none⟩ := by decide +kernel
theorem own_pd_27 : parseMethodDescriptor "(Ljava/lang/Object;)Ljava/util/Optional;" = some ⟨[(.object "java/lang/Object")], some (.object "java/util/Optional")⟩ := by decide +kernel
theorem own_pn_28 : plainName "com/example/oref/oref/wikipedia/PageIsArticlePinLaw" = true := by first | (simp [plainName, overriddenIn]; done) | decide +kernel
set_option maxRecDepth 65536 in
set_option maxHeartbeats 4000000 in
theorem own_law (l : Launch) (Z : State) (a0 : Array Value) (hw : ∀ d ∈ tables_1, d.before a0 Z = true) (cm : Com Z) (em : Emp Z) (h0 : Heap) (n0 : Nat) (O : Old Z n0 h0) (p1 : Int32) (p2 : Int32) (p3 : Int32) (p4 : Int32) :
    ConS consts_1 l Z n0 x code maxLocals ret tables_1 room_1 #[(.int p1), (.int p2), (.int p3), (.int p4)] h0 [] [] (fun v h' => v = some (.int 1)) := by
  refine ConS.of (a0 := a0) (plainFor_of_name own_pn_28) O (own_EW hw) (fun _ q => nomatch q) ?_
  intro p e s m below meth cdX T S hby hml hret hnm
  refine Go.cast (own_ef_22 m p1 p2 p3 p4) ?_
  have tail241 : ∀ z240 : Int32, Go p e below (Done true consts_1 Z s n0 h0 [] room_1.cells room_1.slots (fun v h' => v = some (.int 1))) T (mkF m 13 #[.val (.int p1), .val (.int p2), .val (.int p3), .val (.int p4), .val (.int z240), .unset, .unset, .unset, .unset, .unset, .unset, .unset] []) := by
    intro z240
    refine S.iloadN 14 (hb hby at_13) rfl ?_
    refine S.iconst 15 (2 : Int32) (hb hby at_14) ?_
    refine S.iand 16 (hb hby at_15) ?_
    show Go p e below _ T (mkF m 16 #[.val (.int p1), .val (.int p2), .val (.int p3), .val (.int p4), .val (.int z240), .unset, .unset, .unset, .unset, .unset, .unset, .unset] [(.int (p2 &&& (2 : Int32)))])
    by_cases hb242 : (p2 &&& (2 : Int32)) = (0 : Int32)
    · skip
      refine S.ifY 23 (hb hby at_16) (zEqT hb242) ?_
      refine S.iconst 24 (0 : Int32) (hb hby at_23) ?_
      refine S.istore 26 #[.val (.int p1), .val (.int p2), .val (.int p3), .val (.int p4), .val (.int z240), .val (.int (0 : Int32)), .unset, .unset, .unset, .unset, .unset, .unset] (hb hby at_24) rfl ?_
      refine S.iloadN 27 (hb hby at_26) rfl ?_
      refine S.iconst 28 (4 : Int32) (hb hby at_27) ?_
      refine S.iand 29 (hb hby at_28) ?_
      show Go p e below _ T (mkF m 29 #[.val (.int p1), .val (.int p2), .val (.int p3), .val (.int p4), .val (.int z240), .val (.int (0 : Int32)), .unset, .unset, .unset, .unset, .unset, .unset] [(.int (p2 &&& (4 : Int32)))])
      by_cases hb243 : (p2 &&& (4 : Int32)) = (0 : Int32)
      · skip
        refine S.ifY 54 (hb hby at_29) (zEqT hb243) ?_
        refine S.new 57 (hb hby at_54) (Tw hw 0 rfl) (Tw hw 1 rfl) (Tw hw 2 rfl) (by decide) (by decide) ?_
        intro T244 h245 b246 S247 E248 g249 wo250 A251 D252 U253
        have f254 : Fld Z h245 b246 "java/lang/String" "value" "[B" .null := D252 (Or.inr (Tw hw 16 rfl)) (ty := (.array .byte)) (by decide)
        have f255 : Fld Z h245 b246 "java/lang/String" "coder" "B" (.int (0 : Int32)) := D252 (Or.inr (Tw hw 17 rfl)) (ty := .byte) (by decide)
        refine S247.dup 58 (hb hby at_57) rfl ?_
        refine S247.iconst 59 (0 : Int32) (hb hby at_58) ?_
        refine S247.newarr 61 0 (hb hby at_59) (Tw hw 3 rfl) (by decide) (by decide) (by decide) (by decide) (by decide) ?_
        intro T256 h257 b258 k259 S260 E261 g262 wo263 A264
        have l265 : b246 < b258 := (by rw [g262]; exact A251.lt)
        have f266 : Arv Z h257 b258 k259 .char (0 : Int32) [] (.int (0 : Int32)) := A264.pad (pad_rep [] (.int (0 : Int32)) 0)
        have f267 := (A251.ext E261)
        have f268 := (f254.ext E261)
        have f269 := (f255.ext E261)
        refine S260.icallS 64 (hb hby at_61) (by rw [hml]; rfl) rfl (Tw hw 4 rfl) (Tw hw 5 rfl) (Tw hw 6 rfl) (by decide) [(.ref b258)] [(.ref b246)] (ConS.pay (W := 1) (own_sE1 l Z a0 hw h257 n0 S260.old b246 b258 k259 (.int (0 : Int32)) (S260.ge wo250) f267 f268 f269 f266) (Tw hw 6 rfl) (Tw hw 2 rfl) (by decide) (by decide)) (lenOf own_pd_23 rfl) rfl (Nle rfl) (by decide) (by decide) (Wrs.one wo250 (Or.inl (by simp))) (by simp) ?_
        intro v270 T271 h272 L273 S274 q275 K276
        obtain ⟨rfl, t277, Z278⟩ := q275
        have f279 := Z278.exa
        show Go p e below _ T271 (mkF m 64 #[.val (.int p1), .val (.int p2), .val (.int p3), .val (.int p4), .val (.int z240), .val (.int (0 : Int32)), .unset, .unset, .unset, .unset, .unset, .unset] [(.ref b246)])
        refine S274.astore 66 #[.val (.int p1), .val (.int p2), .val (.int p3), .val (.int p4), .val (.int z240), .val (.int (0 : Int32)), .val (.ref b246), .unset, .unset, .unset, .unset, .unset] (hb hby at_64) rfl rfl ?_
        refine S274.iload 68 (hb hby at_66) rfl ?_
        refine S274.ifY 79 (hb hby at_68) (zEqT (by decide)) ?_
        obtain ⟨b280, s281, f282, f283⟩ := em
        refine S274.scall 82 (hb hby at_79) (by rw [hml]; rfl) (Tw hw 96 rfl) (Tw hw 97 rfl) (Tw hw 24 rfl) (Tw hw 98 rfl) (by decide) [] [] (Con.pay (W := 0) (own_optE l Z a0 hw h272 n0 S274.old b280 s281) (Tw hw 98 rfl) (Tw hw 24 rfl) (by decide) (by decide)) (lenOf own_pd_24 rfl) rfl (Nle rfl) (by decide) (by decide) Wrs.nil ?_
        intro v284 T285 h286 L287 S288 q289 K290
        obtain ⟨rfl, e_q289⟩ := q289
        obtain rfl := e_q289.symm
        show Go p e below _ T285 (mkF m 82 #[.val (.int p1), .val (.int p2), .val (.int p3), .val (.int p4), .val (.int z240), .val (.int (0 : Int32)), .val (.ref b246), .unset, .unset, .unset, .unset, .unset] [(.ref b280)])
        refine S288.astore 84 #[.val (.int p1), .val (.int p2), .val (.int p3), .val (.int p4), .val (.int z240), .val (.int (0 : Int32)), .val (.ref b246), .val (.ref b280), .unset, .unset, .unset, .unset] (hb hby at_82) rfl rfl ?_
        refine S288.iloadN 85 (hb hby at_84) rfl ?_
        refine S288.bipush 87 (8 : Int32) (hb hby at_85) ?_
        refine S288.iushr 88 (hb hby at_87) ?_
        show Go p e below _ T285 (mkF m 88 #[.val (.int p1), .val (.int p2), .val (.int p3), .val (.int p4), .val (.int z240), .val (.int (0 : Int32)), .val (.ref b246), .val (.ref b280), .unset, .unset, .unset, .unset] [(.int ((p3.toUInt32 >>> ((8 : Int32) &&& 31).toUInt32).toInt32))])
        refine S288.sipush 91 (255 : Int32) (hb hby at_88) ?_
        refine S288.iand 92 (hb hby at_91) ?_
        show Go p e below _ T285 (mkF m 92 #[.val (.int p1), .val (.int p2), .val (.int p3), .val (.int p4), .val (.int z240), .val (.int (0 : Int32)), .val (.ref b246), .val (.ref b280), .unset, .unset, .unset, .unset] [(.int (((p3.toUInt32 >>> ((8 : Int32) &&& 31).toUInt32).toInt32) &&& (255 : Int32)))])
        refine S288.i2c 93 (hb hby at_92) ?_
        have chr_c_291 := chr255 ((p3.toUInt32 >>> ((8 : Int32) &&& 31).toUInt32).toInt32)
        generalize e_c_291 : ((((p3.toUInt32 >>> ((8 : Int32) &&& 31).toUInt32).toInt32) &&& (255 : Int32)).toUInt32.toUInt16.toUInt32.toInt32) = c_291 at chr_c_291 ⊢
        refine S288.scall 96 (hb hby at_93) (by rw [hml]; rfl) (Tw hw 39 rfl) (Tw hw 40 rfl) (Tw hw 2 rfl) (Tw hw 41 rfl) (by decide) [(.int c_291)] [] (Con.pay (W := 0) (own_vof l Z a0 hw cm h272 n0 S288.old c_291 chr_c_291) (Tw hw 41 rfl) (Tw hw 2 rfl) (by decide) (by decide)) (lenOf own_pd_25 rfl) rfl (Nle rfl) (by decide) (by decide) Wrs.nil ?_
        intro v292 T293 h294 L295 S296 q297 K298
        obtain ⟨b299, rfl⟩ := q297
        show Go p e below _ T293 (mkF m 96 #[.val (.int p1), .val (.int p2), .val (.int p3), .val (.int p4), .val (.int z240), .val (.int (0 : Int32)), .val (.ref b246), .val (.ref b280), .unset, .unset, .unset, .unset] [(.ref b299)])
        refine S296.astore 98 #[.val (.int p1), .val (.int p2), .val (.int p3), .val (.int p4), .val (.int z240), .val (.int (0 : Int32)), .val (.ref b246), .val (.ref b280), .val (.ref b299), .unset, .unset, .unset] (hb hby at_96) rfl rfl ?_
        refine S296.iloadN 99 (hb hby at_98) rfl ?_
        refine S296.bipush 101 (16 : Int32) (hb hby at_99) ?_
        refine S296.iushr 102 (hb hby at_101) ?_
        show Go p e below _ T293 (mkF m 102 #[.val (.int p1), .val (.int p2), .val (.int p3), .val (.int p4), .val (.int z240), .val (.int (0 : Int32)), .val (.ref b246), .val (.ref b280), .val (.ref b299), .unset, .unset, .unset] [(.int ((p3.toUInt32 >>> ((16 : Int32) &&& 31).toUInt32).toInt32))])
        refine S296.sipush 105 (255 : Int32) (hb hby at_102) ?_
        refine S296.iand 106 (hb hby at_105) ?_
        show Go p e below _ T293 (mkF m 106 #[.val (.int p1), .val (.int p2), .val (.int p3), .val (.int p4), .val (.int z240), .val (.int (0 : Int32)), .val (.ref b246), .val (.ref b280), .val (.ref b299), .unset, .unset, .unset] [(.int (((p3.toUInt32 >>> ((16 : Int32) &&& 31).toUInt32).toInt32) &&& (255 : Int32)))])
        refine S296.i2c 107 (hb hby at_106) ?_
        have chr_c_300 := chr255 ((p3.toUInt32 >>> ((16 : Int32) &&& 31).toUInt32).toInt32)
        generalize e_c_300 : ((((p3.toUInt32 >>> ((16 : Int32) &&& 31).toUInt32).toInt32) &&& (255 : Int32)).toUInt32.toUInt16.toUInt32.toInt32) = c_300 at chr_c_300 ⊢
        refine S296.scall 110 (hb hby at_107) (by rw [hml]; rfl) (Tw hw 39 rfl) (Tw hw 40 rfl) (Tw hw 2 rfl) (Tw hw 41 rfl) (by decide) [(.int c_300)] [] (Con.pay (W := 0) (own_vof l Z a0 hw cm h294 n0 S296.old c_300 chr_c_300) (Tw hw 41 rfl) (Tw hw 2 rfl) (by decide) (by decide)) (lenOf own_pd_25 rfl) rfl (Nle rfl) (by decide) (by decide) Wrs.nil ?_
        intro v301 T302 h303 L304 S305 q306 K307
        obtain ⟨b308, rfl⟩ := q306
        show Go p e below _ T302 (mkF m 110 #[.val (.int p1), .val (.int p2), .val (.int p3), .val (.int p4), .val (.int z240), .val (.int (0 : Int32)), .val (.ref b246), .val (.ref b280), .val (.ref b299), .unset, .unset, .unset] [(.ref b308)])
        refine S305.astore 112 #[.val (.int p1), .val (.int p2), .val (.int p3), .val (.int p4), .val (.int z240), .val (.int (0 : Int32)), .val (.ref b246), .val (.ref b280), .val (.ref b299), .val (.ref b308), .unset, .unset] (hb hby at_110) rfl rfl ?_
        refine S305.new 115 (hb hby at_112) (Tw hw 54 rfl) (Tw hw 55 rfl) (Tw hw 56 rfl) (by decide) (by decide) ?_
        intro T309 h310 b311 S312 E313 g314 wo315 A316 D317 U318
        have f319 := (((f266.keep K276 (ninS (Nat.ne_of_gt l265) nin0)).keep K298 nin0).keep K307 nin0)
        have l320 : b258 < b311 := (by rw [g314]; exact f319.lt)
        have f321 := ((f279.keep K298).keep K307)
        have l322 : b246 < b311 := (by rw [g314]; exact f321.lt)
        have f323 := ((Z278.keep K298 nin0 nin0).keep K307 nin0 nin0)
        have l324 : t277 < b311 := (by rw [g314]; exact f323.lt')
        have f325 := (((f282.ext S288.old.2).keep K298).keep K307)
        have l326 : b280 < b311 := (by rw [g314]; exact f325.lt)
        have f327 : Fld Z h310 b311 "com/example/oref/oref/wikipedia/Page" "title" "Ljava/lang/String;" .null := D317 (Or.inr (Tw hw 67 rfl)) (ty := (.object "java/lang/String")) (by decide)
        have f328 : Fld Z h310 b311 "com/example/oref/oref/wikipedia/Page" "namespace" "I" (.int (0 : Int32)) := D317 (Or.inr (Tw hw 69 rfl)) (ty := .int) (by decide)
        have f329 : Fld Z h310 b311 "com/example/oref/oref/wikipedia/Page" "redirect" "Ljava/util/Optional;" .null := D317 (Or.inr (Tw hw 71 rfl)) (ty := (.object "java/util/Optional")) (by decide)
        have f330 : Fld Z h310 b311 "com/example/oref/oref/wikipedia/Page" "text" "Ljava/lang/String;" .null := D317 (Or.inr (Tw hw 73 rfl)) (ty := (.object "java/lang/String")) (by decide)
        have f331 : Fld Z h310 b311 "com/example/oref/oref/wikipedia/Page" "line" "I" (.int (0 : Int32)) := D317 (Or.inr (Tw hw 75 rfl)) (ty := .int) (by decide)
        refine S312.dup 116 (hb hby at_115) rfl ?_
        refine S312.aload 118 (hb hby at_116) rfl rfl ?_
        refine S312.iload 120 (hb hby at_118) rfl ?_
        refine S312.aload 122 (hb hby at_120) rfl rfl ?_
        refine S312.aload 124 (hb hby at_122) rfl rfl ?_
        refine S312.iloadN 125 (hb hby at_124) rfl ?_
        refine S312.icall 128 (hb hby at_125) (by rw [hml]; rfl) rfl (Tw hw 57 rfl) (Tw hw 58 rfl) (Tw hw 59 rfl) (by decide) [(.ref b299), (.int z240), (.ref b280), (.ref b308), (.int p4)] [(.ref b311)] (Con.pay (W := 1) (own_page l Z a0 hw h310 n0 S312.old b311 b299 z240 b280 b308 p4 (S312.ge wo315) A316 f327 f328 f329 f330 f331) (Tw hw 59 rfl) (Tw hw 56 rfl) (by decide) (by decide)) (lenOf own_pd_26 rfl) rfl (Nle rfl) (by decide) (by decide) (Wrs.one wo315 (Or.inr ⟨_, A316, by decide, by decide⟩)) ?_
        intro v332 T333 h334 L335 S336 q337 K338
        obtain ⟨rfl, f339, f340, f341⟩ := q337
        show Go p e below _ T333 (mkF m 128 #[.val (.int p1), .val (.int p2), .val (.int p3), .val (.int p4), .val (.int z240), .val (.int (0 : Int32)), .val (.ref b246), .val (.ref b280), .val (.ref b299), .val (.ref b308), .unset, .unset] [(.ref b311)])
        refine S336.astore 130 #[.val (.int p1), .val (.int p2), .val (.int p3), .val (.int p4), .val (.int z240), .val (.int (0 : Int32)), .val (.ref b246), .val (.ref b280), .val (.ref b299), .val (.ref b308), .val (.ref b311), .unset] (hb hby at_128) rfl rfl ?_
        refine S336.iload 132 (hb hby at_130) rfl ?_
        by_cases hz : z240 = (0 : Int32)
        · skip
          refine S336.ifN 135 (hb hby at_132) (zNeF hz) ?_
          refine S336.iload 137 (hb hby at_135) rfl ?_
          refine S336.ifN 140 (hb hby at_137) (zNeF (by decide)) ?_
          refine S336.iconst 141 (1 : Int32) (hb hby at_140) ?_
          refine S336.goto 145 (hb hby at_141) ?_
          refine S336.istore 147 #[.val (.int p1), .val (.int p2), .val (.int p3), .val (.int p4), .val (.int z240), .val (.int (0 : Int32)), .val (.ref b246), .val (.ref b280), .val (.ref b299), .val (.ref b308), .val (.ref b311), .val (.int (1 : Int32))] (hb hby at_145) rfl ?_
          refine S336.aload 149 (hb hby at_147) rfl rfl ?_
          have f342 := ((f325.ext E313).keep K338)
          have f343 := (((((f283.ext S288.old.2).keep K298 nin0).keep K307 nin0).ext E313).keep K338 (ninS (Nat.ne_of_lt l326) nin0))
          refine S336.vcall 152 (hb hby at_149) (by rw [hml]; rfl) (Tw hw 76 rfl) (Tw hw 77 rfl) (Tw hw 79 rfl) (Tw hw 78 rfl) (nfSel (Tw hw 79 rfl)) (by decide) f339 [] [] (Con.pay (W := 0) (own_artN l Z a0 hw h334 n0 S336.old b311 z240 b280 f340 f341 f342 f343) (Tw hw 80 rfl) (Tw hw 56 rfl) (by decide) (by decide)) (lenOf own_pd_21 rfl) rfl (Nle rfl) (by decide) (by decide) Wrs.nil ?_
          intro v344 T345 h346 L347 S348 q349 K350
          obtain ⟨rfl, e_q349⟩ := q349
          obtain rfl := e_q349.symm
          show Go p e below _ T345 (mkF m 152 #[.val (.int p1), .val (.int p2), .val (.int p3), .val (.int p4), .val (.int z240), .val (.int (0 : Int32)), .val (.ref b246), .val (.ref b280), .val (.ref b299), .val (.ref b308), .val (.ref b311), .val (.int (1 : Int32))] [(.int (if z240 = 0 then 1 else 0))])
          refine S348.iload 154 (hb hby at_152) rfl ?_
          refine S348.icmpN 157 (hb hby at_154) (qNeF (by simp [hz])) ?_
          refine S348.iconst 158 (1 : Int32) (hb hby at_157) ?_
          refine S348.goto 162 (hb hby at_158) ?_
          exact S348.retN (t := .boolean) (hb hby at_162) hret (by decide) (by decide) (by decide) rfl
        · skip
          refine S336.ifY 144 (hb hby at_132) (zNeT hz) ?_
          refine S336.iconst 145 (0 : Int32) (hb hby at_144) ?_
          refine S336.istore 147 #[.val (.int p1), .val (.int p2), .val (.int p3), .val (.int p4), .val (.int z240), .val (.int (0 : Int32)), .val (.ref b246), .val (.ref b280), .val (.ref b299), .val (.ref b308), .val (.ref b311), .val (.int (0 : Int32))] (hb hby at_145) rfl ?_
          refine S336.aload 149 (hb hby at_147) rfl rfl ?_
          have f351 := ((f325.ext E313).keep K338)
          have f352 := (((((f283.ext S288.old.2).keep K298 nin0).keep K307 nin0).ext E313).keep K338 (ninS (Nat.ne_of_lt l326) nin0))
          refine S336.vcall 152 (hb hby at_149) (by rw [hml]; rfl) (Tw hw 76 rfl) (Tw hw 77 rfl) (Tw hw 79 rfl) (Tw hw 78 rfl) (nfSel (Tw hw 79 rfl)) (by decide) f339 [] [] (Con.pay (W := 0) (own_artN l Z a0 hw h334 n0 S336.old b311 z240 b280 f340 f341 f351 f352) (Tw hw 80 rfl) (Tw hw 56 rfl) (by decide) (by decide)) (lenOf own_pd_21 rfl) rfl (Nle rfl) (by decide) (by decide) Wrs.nil ?_
          intro v353 T354 h355 L356 S357 q358 K359
          obtain ⟨rfl, e_q358⟩ := q358
          obtain rfl := e_q358.symm
          show Go p e below _ T354 (mkF m 152 #[.val (.int p1), .val (.int p2), .val (.int p3), .val (.int p4), .val (.int z240), .val (.int (0 : Int32)), .val (.ref b246), .val (.ref b280), .val (.ref b299), .val (.ref b308), .val (.ref b311), .val (.int (0 : Int32))] [(.int (if z240 = 0 then 1 else 0))])
          refine S357.iload 154 (hb hby at_152) rfl ?_
          refine S357.icmpN 157 (hb hby at_154) (qNeF (by simp [hz])) ?_
          refine S357.iconst 158 (1 : Int32) (hb hby at_157) ?_
          refine S357.goto 162 (hb hby at_158) ?_
          exact S357.retN (t := .boolean) (hb hby at_162) hret (by decide) (by decide) (by decide) rfl
      · skip
        refine S.ifN 32 (hb hby at_29) (zEqF hb243) ?_
        refine S.new 35 (hb hby at_32) (Tw hw 0 rfl) (Tw hw 1 rfl) (Tw hw 2 rfl) (by decide) (by decide) ?_
        intro T360 h361 b362 S363 E364 g365 wo366 A367 D368 U369
        have f370 : Fld Z h361 b362 "java/lang/String" "value" "[B" .null := D368 (Or.inr (Tw hw 16 rfl)) (ty := (.array .byte)) (by decide)
        have f371 : Fld Z h361 b362 "java/lang/String" "coder" "B" (.int (0 : Int32)) := D368 (Or.inr (Tw hw 17 rfl)) (ty := .byte) (by decide)
        refine S363.dup 36 (hb hby at_35) rfl ?_
        refine S363.iconst 37 (1 : Int32) (hb hby at_36) ?_
        refine S363.newarr 39 1 (hb hby at_37) (Tw hw 3 rfl) (by decide) (by decide) (by decide) (by decide) (by decide) ?_
        intro T372 h373 b374 k375 S376 E377 g378 wo379 A380
        have l381 : b362 < b374 := (by rw [g378]; exact A367.lt)
        have f382 : Arv Z h373 b374 k375 .char (1 : Int32) [(.int (0 : Int32))] (.int (0 : Int32)) := A380.pad (pad_rep [] (.int (0 : Int32)) 1)
        refine S376.dup 40 (hb hby at_39) rfl ?_
        refine S376.iconst 41 (0 : Int32) (hb hby at_40) ?_
        refine S376.iloadN 42 (hb hby at_41) rfl ?_
        refine S376.sipush 45 (255 : Int32) (hb hby at_42) ?_
        refine S376.iand 46 (hb hby at_45) ?_
        show Go p e below _ T372 (mkF m 46 #[.val (.int p1), .val (.int p2), .val (.int p3), .val (.int p4), .val (.int z240), .val (.int (0 : Int32)), .unset, .unset, .unset, .unset, .unset, .unset] [(.int (p3 &&& (255 : Int32))), (.int (0 : Int32)), (.ref b374), (.ref b374), (.ref b362), (.ref b362)])
        refine S376.i2c 47 (hb hby at_46) ?_
        have chr_c_383 := chr255 p3
        generalize e_c_383 : ((p3 &&& (255 : Int32)).toUInt32.toUInt16.toUInt32.toInt32) = c_383 at chr_c_383 ⊢
        refine S376.castore 48 0 (hb hby at_47) f382 ⟨by decide, by decide⟩ rfl (Nle rfl) wo379 ?_
        intro T384 h385 L386 S387 W388 A389
        rw [Chr.nar chr_c_383] at A389
        have f390 : Arv Z h385 b374 k375 .char (1 : Int32) [(.int c_383)] (.int (0 : Int32)) := A389
        have hp391 : ∀ c ∈ ([c_383] : List Int32), ¬ c < 0 ∧ ¬ (255 : Int32) < c := by
          intro c hc
          simp only [List.mem_cons, List.not_mem_nil, or_false] at hc
          rcases hc with rfl
          · exact chr_c_383
        have f392 := ((A367.ext E377).wr W388)
        have f393 := ((f370.ext E377).other W388 (Or.inl (Nat.ne_of_lt l381)))
        have f394 := ((f371.ext E377).other W388 (Or.inl (Nat.ne_of_lt l381)))
        refine S387.icall 51 (hb hby at_48) (by rw [hml]; rfl) rfl (Tw hw 4 rfl) (Tw hw 5 rfl) (Tw hw 6 rfl) (by decide) [(.ref b374)] [(.ref b362)] (payNew (W := 1) (n := 1) (cs := ([c_383] : List Int32)) hw (Tw hw 1 rfl) cm S387.old (S387.ge wo366) f392 f393 f394 f390 rfl rfl (by decide) (by decide) hp391 (by decide) (by decide)) (lenOf own_pd_23 rfl) rfl (Nle rfl) (by decide) (by decide) (Wrs.one wo366 (Or.inl (by simp))) ?_
        intro v395 T396 h397 L398 S399 q400 K401
        obtain ⟨rfl, t402, g403, Z404⟩ := q400
        have l405 : b374 < t402 := Nat.lt_of_lt_of_le f390.lt g403
        have l406 : b362 < t402 := Nat.lt_of_lt_of_le f392.lt g403
        have f407 := Z404.exa
        show Go p e below _ T396 (mkF m 51 #[.val (.int p1), .val (.int p2), .val (.int p3), .val (.int p4), .val (.int z240), .val (.int (0 : Int32)), .unset, .unset, .unset, .unset, .unset, .unset] [(.ref b362)])
        refine S399.goto 64 (hb hby at_51) ?_
        refine S399.astore 66 #[.val (.int p1), .val (.int p2), .val (.int p3), .val (.int p4), .val (.int z240), .val (.int (0 : Int32)), .val (.ref b362), .unset, .unset, .unset, .unset, .unset] (hb hby at_64) rfl rfl ?_
        refine S399.iload 68 (hb hby at_66) rfl ?_
        refine S399.ifY 79 (hb hby at_68) (zEqT (by decide)) ?_
        obtain ⟨b408, s409, f410, f411⟩ := em
        refine S399.scall 82 (hb hby at_79) (by rw [hml]; rfl) (Tw hw 96 rfl) (Tw hw 97 rfl) (Tw hw 24 rfl) (Tw hw 98 rfl) (by decide) [] [] (Con.pay (W := 0) (own_optE l Z a0 hw h397 n0 S399.old b408 s409) (Tw hw 98 rfl) (Tw hw 24 rfl) (by decide) (by decide)) (lenOf own_pd_24 rfl) rfl (Nle rfl) (by decide) (by decide) Wrs.nil ?_
        intro v412 T413 h414 L415 S416 q417 K418
        obtain ⟨rfl, e_q417⟩ := q417
        obtain rfl := e_q417.symm
        show Go p e below _ T413 (mkF m 82 #[.val (.int p1), .val (.int p2), .val (.int p3), .val (.int p4), .val (.int z240), .val (.int (0 : Int32)), .val (.ref b362), .unset, .unset, .unset, .unset, .unset] [(.ref b408)])
        refine S416.astore 84 #[.val (.int p1), .val (.int p2), .val (.int p3), .val (.int p4), .val (.int z240), .val (.int (0 : Int32)), .val (.ref b362), .val (.ref b408), .unset, .unset, .unset, .unset] (hb hby at_82) rfl rfl ?_
        refine S416.iloadN 85 (hb hby at_84) rfl ?_
        refine S416.bipush 87 (8 : Int32) (hb hby at_85) ?_
        refine S416.iushr 88 (hb hby at_87) ?_
        show Go p e below _ T413 (mkF m 88 #[.val (.int p1), .val (.int p2), .val (.int p3), .val (.int p4), .val (.int z240), .val (.int (0 : Int32)), .val (.ref b362), .val (.ref b408), .unset, .unset, .unset, .unset] [(.int ((p3.toUInt32 >>> ((8 : Int32) &&& 31).toUInt32).toInt32))])
        refine S416.sipush 91 (255 : Int32) (hb hby at_88) ?_
        refine S416.iand 92 (hb hby at_91) ?_
        show Go p e below _ T413 (mkF m 92 #[.val (.int p1), .val (.int p2), .val (.int p3), .val (.int p4), .val (.int z240), .val (.int (0 : Int32)), .val (.ref b362), .val (.ref b408), .unset, .unset, .unset, .unset] [(.int (((p3.toUInt32 >>> ((8 : Int32) &&& 31).toUInt32).toInt32) &&& (255 : Int32)))])
        refine S416.i2c 93 (hb hby at_92) ?_
        have chr_c_419 := chr255 ((p3.toUInt32 >>> ((8 : Int32) &&& 31).toUInt32).toInt32)
        generalize e_c_419 : ((((p3.toUInt32 >>> ((8 : Int32) &&& 31).toUInt32).toInt32) &&& (255 : Int32)).toUInt32.toUInt16.toUInt32.toInt32) = c_419 at chr_c_419 ⊢
        refine S416.scall 96 (hb hby at_93) (by rw [hml]; rfl) (Tw hw 39 rfl) (Tw hw 40 rfl) (Tw hw 2 rfl) (Tw hw 41 rfl) (by decide) [(.int c_419)] [] (Con.pay (W := 0) (own_vof l Z a0 hw cm h397 n0 S416.old c_419 chr_c_419) (Tw hw 41 rfl) (Tw hw 2 rfl) (by decide) (by decide)) (lenOf own_pd_25 rfl) rfl (Nle rfl) (by decide) (by decide) Wrs.nil ?_
        intro v420 T421 h422 L423 S424 q425 K426
        obtain ⟨b427, rfl⟩ := q425
        show Go p e below _ T421 (mkF m 96 #[.val (.int p1), .val (.int p2), .val (.int p3), .val (.int p4), .val (.int z240), .val (.int (0 : Int32)), .val (.ref b362), .val (.ref b408), .unset, .unset, .unset, .unset] [(.ref b427)])
        refine S424.astore 98 #[.val (.int p1), .val (.int p2), .val (.int p3), .val (.int p4), .val (.int z240), .val (.int (0 : Int32)), .val (.ref b362), .val (.ref b408), .val (.ref b427), .unset, .unset, .unset] (hb hby at_96) rfl rfl ?_
        refine S424.iloadN 99 (hb hby at_98) rfl ?_
        refine S424.bipush 101 (16 : Int32) (hb hby at_99) ?_
        refine S424.iushr 102 (hb hby at_101) ?_
        show Go p e below _ T421 (mkF m 102 #[.val (.int p1), .val (.int p2), .val (.int p3), .val (.int p4), .val (.int z240), .val (.int (0 : Int32)), .val (.ref b362), .val (.ref b408), .val (.ref b427), .unset, .unset, .unset] [(.int ((p3.toUInt32 >>> ((16 : Int32) &&& 31).toUInt32).toInt32))])
        refine S424.sipush 105 (255 : Int32) (hb hby at_102) ?_
        refine S424.iand 106 (hb hby at_105) ?_
        show Go p e below _ T421 (mkF m 106 #[.val (.int p1), .val (.int p2), .val (.int p3), .val (.int p4), .val (.int z240), .val (.int (0 : Int32)), .val (.ref b362), .val (.ref b408), .val (.ref b427), .unset, .unset, .unset] [(.int (((p3.toUInt32 >>> ((16 : Int32) &&& 31).toUInt32).toInt32) &&& (255 : Int32)))])
        refine S424.i2c 107 (hb hby at_106) ?_
        have chr_c_428 := chr255 ((p3.toUInt32 >>> ((16 : Int32) &&& 31).toUInt32).toInt32)
        generalize e_c_428 : ((((p3.toUInt32 >>> ((16 : Int32) &&& 31).toUInt32).toInt32) &&& (255 : Int32)).toUInt32.toUInt16.toUInt32.toInt32) = c_428 at chr_c_428 ⊢
        refine S424.scall 110 (hb hby at_107) (by rw [hml]; rfl) (Tw hw 39 rfl) (Tw hw 40 rfl) (Tw hw 2 rfl) (Tw hw 41 rfl) (by decide) [(.int c_428)] [] (Con.pay (W := 0) (own_vof l Z a0 hw cm h422 n0 S424.old c_428 chr_c_428) (Tw hw 41 rfl) (Tw hw 2 rfl) (by decide) (by decide)) (lenOf own_pd_25 rfl) rfl (Nle rfl) (by decide) (by decide) Wrs.nil ?_
        intro v429 T430 h431 L432 S433 q434 K435
        obtain ⟨b436, rfl⟩ := q434
        show Go p e below _ T430 (mkF m 110 #[.val (.int p1), .val (.int p2), .val (.int p3), .val (.int p4), .val (.int z240), .val (.int (0 : Int32)), .val (.ref b362), .val (.ref b408), .val (.ref b427), .unset, .unset, .unset] [(.ref b436)])
        refine S433.astore 112 #[.val (.int p1), .val (.int p2), .val (.int p3), .val (.int p4), .val (.int z240), .val (.int (0 : Int32)), .val (.ref b362), .val (.ref b408), .val (.ref b427), .val (.ref b436), .unset, .unset] (hb hby at_110) rfl rfl ?_
        refine S433.new 115 (hb hby at_112) (Tw hw 54 rfl) (Tw hw 55 rfl) (Tw hw 56 rfl) (by decide) (by decide) ?_
        intro T437 h438 b439 S440 E441 g442 wo443 A444 D445 U446
        have f447 := (((f390.keep K401 (ninS (Nat.ne_of_gt l381) nin0)).keep K426 nin0).keep K435 nin0)
        have l448 : b374 < b439 := (by rw [g442]; exact f447.lt)
        have f449 := ((f407.keep K426).keep K435)
        have l450 : b362 < b439 := (by rw [g442]; exact f449.lt)
        have f451 := ((Z404.keep K426 nin0 nin0).keep K435 nin0 nin0)
        have l452 : t402 < b439 := (by rw [g442]; exact f451.lt')
        have f453 := (((f410.ext S416.old.2).keep K426).keep K435)
        have l454 : b408 < b439 := (by rw [g442]; exact f453.lt)
        have f455 : Fld Z h438 b439 "com/example/oref/oref/wikipedia/Page" "title" "Ljava/lang/String;" .null := D445 (Or.inr (Tw hw 67 rfl)) (ty := (.object "java/lang/String")) (by decide)
        have f456 : Fld Z h438 b439 "com/example/oref/oref/wikipedia/Page" "namespace" "I" (.int (0 : Int32)) := D445 (Or.inr (Tw hw 69 rfl)) (ty := .int) (by decide)
        have f457 : Fld Z h438 b439 "com/example/oref/oref/wikipedia/Page" "redirect" "Ljava/util/Optional;" .null := D445 (Or.inr (Tw hw 71 rfl)) (ty := (.object "java/util/Optional")) (by decide)
        have f458 : Fld Z h438 b439 "com/example/oref/oref/wikipedia/Page" "text" "Ljava/lang/String;" .null := D445 (Or.inr (Tw hw 73 rfl)) (ty := (.object "java/lang/String")) (by decide)
        have f459 : Fld Z h438 b439 "com/example/oref/oref/wikipedia/Page" "line" "I" (.int (0 : Int32)) := D445 (Or.inr (Tw hw 75 rfl)) (ty := .int) (by decide)
        refine S440.dup 116 (hb hby at_115) rfl ?_
        refine S440.aload 118 (hb hby at_116) rfl rfl ?_
        refine S440.iload 120 (hb hby at_118) rfl ?_
        refine S440.aload 122 (hb hby at_120) rfl rfl ?_
        refine S440.aload 124 (hb hby at_122) rfl rfl ?_
        refine S440.iloadN 125 (hb hby at_124) rfl ?_
        refine S440.icall 128 (hb hby at_125) (by rw [hml]; rfl) rfl (Tw hw 57 rfl) (Tw hw 58 rfl) (Tw hw 59 rfl) (by decide) [(.ref b427), (.int z240), (.ref b408), (.ref b436), (.int p4)] [(.ref b439)] (Con.pay (W := 1) (own_page l Z a0 hw h438 n0 S440.old b439 b427 z240 b408 b436 p4 (S440.ge wo443) A444 f455 f456 f457 f458 f459) (Tw hw 59 rfl) (Tw hw 56 rfl) (by decide) (by decide)) (lenOf own_pd_26 rfl) rfl (Nle rfl) (by decide) (by decide) (Wrs.one wo443 (Or.inr ⟨_, A444, by decide, by decide⟩)) ?_
        intro v460 T461 h462 L463 S464 q465 K466
        obtain ⟨rfl, f467, f468, f469⟩ := q465
        show Go p e below _ T461 (mkF m 128 #[.val (.int p1), .val (.int p2), .val (.int p3), .val (.int p4), .val (.int z240), .val (.int (0 : Int32)), .val (.ref b362), .val (.ref b408), .val (.ref b427), .val (.ref b436), .unset, .unset] [(.ref b439)])
        refine S464.astore 130 #[.val (.int p1), .val (.int p2), .val (.int p3), .val (.int p4), .val (.int z240), .val (.int (0 : Int32)), .val (.ref b362), .val (.ref b408), .val (.ref b427), .val (.ref b436), .val (.ref b439), .unset] (hb hby at_128) rfl rfl ?_
        refine S464.iload 132 (hb hby at_130) rfl ?_
        by_cases hz : z240 = (0 : Int32)
        · skip
          refine S464.ifN 135 (hb hby at_132) (zNeF hz) ?_
          refine S464.iload 137 (hb hby at_135) rfl ?_
          refine S464.ifN 140 (hb hby at_137) (zNeF (by decide)) ?_
          refine S464.iconst 141 (1 : Int32) (hb hby at_140) ?_
          refine S464.goto 145 (hb hby at_141) ?_
          refine S464.istore 147 #[.val (.int p1), .val (.int p2), .val (.int p3), .val (.int p4), .val (.int z240), .val (.int (0 : Int32)), .val (.ref b362), .val (.ref b408), .val (.ref b427), .val (.ref b436), .val (.ref b439), .val (.int (1 : Int32))] (hb hby at_145) rfl ?_
          refine S464.aload 149 (hb hby at_147) rfl rfl ?_
          have f470 := ((f453.ext E441).keep K466)
          have f471 := (((((f411.ext S416.old.2).keep K426 nin0).keep K435 nin0).ext E441).keep K466 (ninS (Nat.ne_of_lt l454) nin0))
          refine S464.vcall 152 (hb hby at_149) (by rw [hml]; rfl) (Tw hw 76 rfl) (Tw hw 77 rfl) (Tw hw 79 rfl) (Tw hw 78 rfl) (nfSel (Tw hw 79 rfl)) (by decide) f467 [] [] (Con.pay (W := 0) (own_artN l Z a0 hw h462 n0 S464.old b439 z240 b408 f468 f469 f470 f471) (Tw hw 80 rfl) (Tw hw 56 rfl) (by decide) (by decide)) (lenOf own_pd_21 rfl) rfl (Nle rfl) (by decide) (by decide) Wrs.nil ?_
          intro v472 T473 h474 L475 S476 q477 K478
          obtain ⟨rfl, e_q477⟩ := q477
          obtain rfl := e_q477.symm
          show Go p e below _ T473 (mkF m 152 #[.val (.int p1), .val (.int p2), .val (.int p3), .val (.int p4), .val (.int z240), .val (.int (0 : Int32)), .val (.ref b362), .val (.ref b408), .val (.ref b427), .val (.ref b436), .val (.ref b439), .val (.int (1 : Int32))] [(.int (if z240 = 0 then 1 else 0))])
          refine S476.iload 154 (hb hby at_152) rfl ?_
          refine S476.icmpN 157 (hb hby at_154) (qNeF (by simp [hz])) ?_
          refine S476.iconst 158 (1 : Int32) (hb hby at_157) ?_
          refine S476.goto 162 (hb hby at_158) ?_
          exact S476.retN (t := .boolean) (hb hby at_162) hret (by decide) (by decide) (by decide) rfl
        · skip
          refine S464.ifY 144 (hb hby at_132) (zNeT hz) ?_
          refine S464.iconst 145 (0 : Int32) (hb hby at_144) ?_
          refine S464.istore 147 #[.val (.int p1), .val (.int p2), .val (.int p3), .val (.int p4), .val (.int z240), .val (.int (0 : Int32)), .val (.ref b362), .val (.ref b408), .val (.ref b427), .val (.ref b436), .val (.ref b439), .val (.int (0 : Int32))] (hb hby at_145) rfl ?_
          refine S464.aload 149 (hb hby at_147) rfl rfl ?_
          have f479 := ((f453.ext E441).keep K466)
          have f480 := (((((f411.ext S416.old.2).keep K426 nin0).keep K435 nin0).ext E441).keep K466 (ninS (Nat.ne_of_lt l454) nin0))
          refine S464.vcall 152 (hb hby at_149) (by rw [hml]; rfl) (Tw hw 76 rfl) (Tw hw 77 rfl) (Tw hw 79 rfl) (Tw hw 78 rfl) (nfSel (Tw hw 79 rfl)) (by decide) f467 [] [] (Con.pay (W := 0) (own_artN l Z a0 hw h462 n0 S464.old b439 z240 b408 f468 f469 f479 f480) (Tw hw 80 rfl) (Tw hw 56 rfl) (by decide) (by decide)) (lenOf own_pd_21 rfl) rfl (Nle rfl) (by decide) (by decide) Wrs.nil ?_
          intro v481 T482 h483 L484 S485 q486 K487
          obtain ⟨rfl, e_q486⟩ := q486
          obtain rfl := e_q486.symm
          show Go p e below _ T482 (mkF m 152 #[.val (.int p1), .val (.int p2), .val (.int p3), .val (.int p4), .val (.int z240), .val (.int (0 : Int32)), .val (.ref b362), .val (.ref b408), .val (.ref b427), .val (.ref b436), .val (.ref b439), .val (.int (0 : Int32))] [(.int (if z240 = 0 then 1 else 0))])
          refine S485.iload 154 (hb hby at_152) rfl ?_
          refine S485.icmpN 157 (hb hby at_154) (qNeF (by simp [hz])) ?_
          refine S485.iconst 158 (1 : Int32) (hb hby at_157) ?_
          refine S485.goto 162 (hb hby at_158) ?_
          exact S485.retN (t := .boolean) (hb hby at_162) hret (by decide) (by decide) (by decide) rfl
    · skip
      refine S.ifN 19 (hb hby at_16) (zEqF hb242) ?_
      refine S.iconst 20 (1 : Int32) (hb hby at_19) ?_
      refine S.goto 24 (hb hby at_20) ?_
      refine S.istore 26 #[.val (.int p1), .val (.int p2), .val (.int p3), .val (.int p4), .val (.int z240), .val (.int (1 : Int32)), .unset, .unset, .unset, .unset, .unset, .unset] (hb hby at_24) rfl ?_
      refine S.iloadN 27 (hb hby at_26) rfl ?_
      refine S.iconst 28 (4 : Int32) (hb hby at_27) ?_
      refine S.iand 29 (hb hby at_28) ?_
      show Go p e below _ T (mkF m 29 #[.val (.int p1), .val (.int p2), .val (.int p3), .val (.int p4), .val (.int z240), .val (.int (1 : Int32)), .unset, .unset, .unset, .unset, .unset, .unset] [(.int (p2 &&& (4 : Int32)))])
      by_cases hb488 : (p2 &&& (4 : Int32)) = (0 : Int32)
      · skip
        refine S.ifY 54 (hb hby at_29) (zEqT hb488) ?_
        refine S.new 57 (hb hby at_54) (Tw hw 0 rfl) (Tw hw 1 rfl) (Tw hw 2 rfl) (by decide) (by decide) ?_
        intro T489 h490 b491 S492 E493 g494 wo495 A496 D497 U498
        have f499 : Fld Z h490 b491 "java/lang/String" "value" "[B" .null := D497 (Or.inr (Tw hw 16 rfl)) (ty := (.array .byte)) (by decide)
        have f500 : Fld Z h490 b491 "java/lang/String" "coder" "B" (.int (0 : Int32)) := D497 (Or.inr (Tw hw 17 rfl)) (ty := .byte) (by decide)
        refine S492.dup 58 (hb hby at_57) rfl ?_
        refine S492.iconst 59 (0 : Int32) (hb hby at_58) ?_
        refine S492.newarr 61 0 (hb hby at_59) (Tw hw 3 rfl) (by decide) (by decide) (by decide) (by decide) (by decide) ?_
        intro T501 h502 b503 k504 S505 E506 g507 wo508 A509
        have l510 : b491 < b503 := (by rw [g507]; exact A496.lt)
        have f511 : Arv Z h502 b503 k504 .char (0 : Int32) [] (.int (0 : Int32)) := A509.pad (pad_rep [] (.int (0 : Int32)) 0)
        have f512 := (A496.ext E506)
        have f513 := (f499.ext E506)
        have f514 := (f500.ext E506)
        refine S505.icallS 64 (hb hby at_61) (by rw [hml]; rfl) rfl (Tw hw 4 rfl) (Tw hw 5 rfl) (Tw hw 6 rfl) (by decide) [(.ref b503)] [(.ref b491)] (ConS.pay (W := 1) (own_sE1 l Z a0 hw h502 n0 S505.old b491 b503 k504 (.int (0 : Int32)) (S505.ge wo495) f512 f513 f514 f511) (Tw hw 6 rfl) (Tw hw 2 rfl) (by decide) (by decide)) (lenOf own_pd_23 rfl) rfl (Nle rfl) (by decide) (by decide) (Wrs.one wo495 (Or.inl (by simp))) (by simp) ?_
        intro v515 T516 h517 L518 S519 q520 K521
        obtain ⟨rfl, t522, Z523⟩ := q520
        have f524 := Z523.exa
        show Go p e below _ T516 (mkF m 64 #[.val (.int p1), .val (.int p2), .val (.int p3), .val (.int p4), .val (.int z240), .val (.int (1 : Int32)), .unset, .unset, .unset, .unset, .unset, .unset] [(.ref b491)])
        refine S519.astore 66 #[.val (.int p1), .val (.int p2), .val (.int p3), .val (.int p4), .val (.int z240), .val (.int (1 : Int32)), .val (.ref b491), .unset, .unset, .unset, .unset, .unset] (hb hby at_64) rfl rfl ?_
        refine S519.iload 68 (hb hby at_66) rfl ?_
        refine S519.ifN 71 (hb hby at_68) (zEqF (by decide)) ?_
        refine S519.aload 73 (hb hby at_71) rfl rfl ?_
        refine S519.scall 76 (hb hby at_73) (by rw [hml]; rfl) (Tw hw 22 rfl) (Tw hw 23 rfl) (Tw hw 24 rfl) (Tw hw 25 rfl) (by decide) [(.ref b491)] [] (Con.pay (W := 0) (own_optOf l Z a0 hw h517 n0 S519.old b491) (Tw hw 25 rfl) (Tw hw 24 rfl) (by decide) (by decide)) (lenOf own_pd_27 rfl) rfl (Nle rfl) (by decide) (by decide) Wrs.nil ?_
        intro v525 T526 h527 L528 S529 q530 K531
        obtain ⟨b532, rfl, g533, f534, f535⟩ := q530
        have f536 := (f511.keep K521 (ninS (Nat.ne_of_gt l510) nin0))
        have l537 : b503 < b532 := Nat.lt_of_lt_of_le f536.lt g533
        have l538 : b491 < b532 := Nat.lt_of_lt_of_le f524.lt g533
        have l539 : t522 < b532 := Nat.lt_of_lt_of_le Z523.lt' g533
        show Go p e below _ T526 (mkF m 76 #[.val (.int p1), .val (.int p2), .val (.int p3), .val (.int p4), .val (.int z240), .val (.int (1 : Int32)), .val (.ref b491), .unset, .unset, .unset, .unset, .unset] [(.ref b532)])
        refine S529.goto 82 (hb hby at_76) ?_
        refine S529.astore 84 #[.val (.int p1), .val (.int p2), .val (.int p3), .val (.int p4), .val (.int z240), .val (.int (1 : Int32)), .val (.ref b491), .val (.ref b532), .unset, .unset, .unset, .unset] (hb hby at_82) rfl rfl ?_
        refine S529.iloadN 85 (hb hby at_84) rfl ?_
        refine S529.bipush 87 (8 : Int32) (hb hby at_85) ?_
        refine S529.iushr 88 (hb hby at_87) ?_
        show Go p e below _ T526 (mkF m 88 #[.val (.int p1), .val (.int p2), .val (.int p3), .val (.int p4), .val (.int z240), .val (.int (1 : Int32)), .val (.ref b491), .val (.ref b532), .unset, .unset, .unset, .unset] [(.int ((p3.toUInt32 >>> ((8 : Int32) &&& 31).toUInt32).toInt32))])
        refine S529.sipush 91 (255 : Int32) (hb hby at_88) ?_
        refine S529.iand 92 (hb hby at_91) ?_
        show Go p e below _ T526 (mkF m 92 #[.val (.int p1), .val (.int p2), .val (.int p3), .val (.int p4), .val (.int z240), .val (.int (1 : Int32)), .val (.ref b491), .val (.ref b532), .unset, .unset, .unset, .unset] [(.int (((p3.toUInt32 >>> ((8 : Int32) &&& 31).toUInt32).toInt32) &&& (255 : Int32)))])
        refine S529.i2c 93 (hb hby at_92) ?_
        have chr_c_540 := chr255 ((p3.toUInt32 >>> ((8 : Int32) &&& 31).toUInt32).toInt32)
        generalize e_c_540 : ((((p3.toUInt32 >>> ((8 : Int32) &&& 31).toUInt32).toInt32) &&& (255 : Int32)).toUInt32.toUInt16.toUInt32.toInt32) = c_540 at chr_c_540 ⊢
        refine S529.scall 96 (hb hby at_93) (by rw [hml]; rfl) (Tw hw 39 rfl) (Tw hw 40 rfl) (Tw hw 2 rfl) (Tw hw 41 rfl) (by decide) [(.int c_540)] [] (Con.pay (W := 0) (own_vof l Z a0 hw cm h527 n0 S529.old c_540 chr_c_540) (Tw hw 41 rfl) (Tw hw 2 rfl) (by decide) (by decide)) (lenOf own_pd_25 rfl) rfl (Nle rfl) (by decide) (by decide) Wrs.nil ?_
        intro v541 T542 h543 L544 S545 q546 K547
        obtain ⟨b548, rfl⟩ := q546
        show Go p e below _ T542 (mkF m 96 #[.val (.int p1), .val (.int p2), .val (.int p3), .val (.int p4), .val (.int z240), .val (.int (1 : Int32)), .val (.ref b491), .val (.ref b532), .unset, .unset, .unset, .unset] [(.ref b548)])
        refine S545.astore 98 #[.val (.int p1), .val (.int p2), .val (.int p3), .val (.int p4), .val (.int z240), .val (.int (1 : Int32)), .val (.ref b491), .val (.ref b532), .val (.ref b548), .unset, .unset, .unset] (hb hby at_96) rfl rfl ?_
        refine S545.iloadN 99 (hb hby at_98) rfl ?_
        refine S545.bipush 101 (16 : Int32) (hb hby at_99) ?_
        refine S545.iushr 102 (hb hby at_101) ?_
        show Go p e below _ T542 (mkF m 102 #[.val (.int p1), .val (.int p2), .val (.int p3), .val (.int p4), .val (.int z240), .val (.int (1 : Int32)), .val (.ref b491), .val (.ref b532), .val (.ref b548), .unset, .unset, .unset] [(.int ((p3.toUInt32 >>> ((16 : Int32) &&& 31).toUInt32).toInt32))])
        refine S545.sipush 105 (255 : Int32) (hb hby at_102) ?_
        refine S545.iand 106 (hb hby at_105) ?_
        show Go p e below _ T542 (mkF m 106 #[.val (.int p1), .val (.int p2), .val (.int p3), .val (.int p4), .val (.int z240), .val (.int (1 : Int32)), .val (.ref b491), .val (.ref b532), .val (.ref b548), .unset, .unset, .unset] [(.int (((p3.toUInt32 >>> ((16 : Int32) &&& 31).toUInt32).toInt32) &&& (255 : Int32)))])
        refine S545.i2c 107 (hb hby at_106) ?_
        have chr_c_549 := chr255 ((p3.toUInt32 >>> ((16 : Int32) &&& 31).toUInt32).toInt32)
        generalize e_c_549 : ((((p3.toUInt32 >>> ((16 : Int32) &&& 31).toUInt32).toInt32) &&& (255 : Int32)).toUInt32.toUInt16.toUInt32.toInt32) = c_549 at chr_c_549 ⊢
        refine S545.scall 110 (hb hby at_107) (by rw [hml]; rfl) (Tw hw 39 rfl) (Tw hw 40 rfl) (Tw hw 2 rfl) (Tw hw 41 rfl) (by decide) [(.int c_549)] [] (Con.pay (W := 0) (own_vof l Z a0 hw cm h543 n0 S545.old c_549 chr_c_549) (Tw hw 41 rfl) (Tw hw 2 rfl) (by decide) (by decide)) (lenOf own_pd_25 rfl) rfl (Nle rfl) (by decide) (by decide) Wrs.nil ?_
        intro v550 T551 h552 L553 S554 q555 K556
        obtain ⟨b557, rfl⟩ := q555
        show Go p e below _ T551 (mkF m 110 #[.val (.int p1), .val (.int p2), .val (.int p3), .val (.int p4), .val (.int z240), .val (.int (1 : Int32)), .val (.ref b491), .val (.ref b532), .val (.ref b548), .unset, .unset, .unset] [(.ref b557)])
        refine S554.astore 112 #[.val (.int p1), .val (.int p2), .val (.int p3), .val (.int p4), .val (.int z240), .val (.int (1 : Int32)), .val (.ref b491), .val (.ref b532), .val (.ref b548), .val (.ref b557), .unset, .unset] (hb hby at_110) rfl rfl ?_
        refine S554.new 115 (hb hby at_112) (Tw hw 54 rfl) (Tw hw 55 rfl) (Tw hw 56 rfl) (by decide) (by decide) ?_
        intro T558 h559 b560 S561 E562 g563 wo564 A565 D566 U567
        have f568 := (((f536.keep K531 nin0).keep K547 nin0).keep K556 nin0)
        have l569 : b503 < b560 := (by rw [g563]; exact f568.lt)
        have f570 := (((f524.keep K531).keep K547).keep K556)
        have l571 : b491 < b560 := (by rw [g563]; exact f570.lt)
        have f572 := (((Z523.keep K531 nin0 nin0).keep K547 nin0 nin0).keep K556 nin0 nin0)
        have l573 : t522 < b560 := (by rw [g563]; exact f572.lt')
        have f574 := ((f534.keep K547).keep K556)
        have l575 : b532 < b560 := (by rw [g563]; exact f574.lt)
        have f576 : Fld Z h559 b560 "com/example/oref/oref/wikipedia/Page" "title" "Ljava/lang/String;" .null := D566 (Or.inr (Tw hw 67 rfl)) (ty := (.object "java/lang/String")) (by decide)
        have f577 : Fld Z h559 b560 "com/example/oref/oref/wikipedia/Page" "namespace" "I" (.int (0 : Int32)) := D566 (Or.inr (Tw hw 69 rfl)) (ty := .int) (by decide)
        have f578 : Fld Z h559 b560 "com/example/oref/oref/wikipedia/Page" "redirect" "Ljava/util/Optional;" .null := D566 (Or.inr (Tw hw 71 rfl)) (ty := (.object "java/util/Optional")) (by decide)
        have f579 : Fld Z h559 b560 "com/example/oref/oref/wikipedia/Page" "text" "Ljava/lang/String;" .null := D566 (Or.inr (Tw hw 73 rfl)) (ty := (.object "java/lang/String")) (by decide)
        have f580 : Fld Z h559 b560 "com/example/oref/oref/wikipedia/Page" "line" "I" (.int (0 : Int32)) := D566 (Or.inr (Tw hw 75 rfl)) (ty := .int) (by decide)
        refine S561.dup 116 (hb hby at_115) rfl ?_
        refine S561.aload 118 (hb hby at_116) rfl rfl ?_
        refine S561.iload 120 (hb hby at_118) rfl ?_
        refine S561.aload 122 (hb hby at_120) rfl rfl ?_
        refine S561.aload 124 (hb hby at_122) rfl rfl ?_
        refine S561.iloadN 125 (hb hby at_124) rfl ?_
        refine S561.icall 128 (hb hby at_125) (by rw [hml]; rfl) rfl (Tw hw 57 rfl) (Tw hw 58 rfl) (Tw hw 59 rfl) (by decide) [(.ref b548), (.int z240), (.ref b532), (.ref b557), (.int p4)] [(.ref b560)] (Con.pay (W := 1) (own_page l Z a0 hw h559 n0 S561.old b560 b548 z240 b532 b557 p4 (S561.ge wo564) A565 f576 f577 f578 f579 f580) (Tw hw 59 rfl) (Tw hw 56 rfl) (by decide) (by decide)) (lenOf own_pd_26 rfl) rfl (Nle rfl) (by decide) (by decide) (Wrs.one wo564 (Or.inr ⟨_, A565, by decide, by decide⟩)) ?_
        intro v581 T582 h583 L584 S585 q586 K587
        obtain ⟨rfl, f588, f589, f590⟩ := q586
        show Go p e below _ T582 (mkF m 128 #[.val (.int p1), .val (.int p2), .val (.int p3), .val (.int p4), .val (.int z240), .val (.int (1 : Int32)), .val (.ref b491), .val (.ref b532), .val (.ref b548), .val (.ref b557), .unset, .unset] [(.ref b560)])
        refine S585.astore 130 #[.val (.int p1), .val (.int p2), .val (.int p3), .val (.int p4), .val (.int z240), .val (.int (1 : Int32)), .val (.ref b491), .val (.ref b532), .val (.ref b548), .val (.ref b557), .val (.ref b560), .unset] (hb hby at_128) rfl rfl ?_
        refine S585.iload 132 (hb hby at_130) rfl ?_
        by_cases hz : z240 = (0 : Int32)
        · skip
          refine S585.ifN 135 (hb hby at_132) (zNeF hz) ?_
          refine S585.iload 137 (hb hby at_135) rfl ?_
          refine S585.ifY 144 (hb hby at_137) (zNeT (by decide)) ?_
          refine S585.iconst 145 (0 : Int32) (hb hby at_144) ?_
          refine S585.istore 147 #[.val (.int p1), .val (.int p2), .val (.int p3), .val (.int p4), .val (.int z240), .val (.int (1 : Int32)), .val (.ref b491), .val (.ref b532), .val (.ref b548), .val (.ref b557), .val (.ref b560), .val (.int (0 : Int32))] (hb hby at_145) rfl ?_
          refine S585.aload 149 (hb hby at_147) rfl rfl ?_
          have f591 := ((f574.ext E562).keep K587)
          have f592 := ((((f535.keep K547 nin0).keep K556 nin0).ext E562).keep K587 (ninS (Nat.ne_of_lt l575) nin0))
          refine S585.vcall 152 (hb hby at_149) (by rw [hml]; rfl) (Tw hw 76 rfl) (Tw hw 77 rfl) (Tw hw 79 rfl) (Tw hw 78 rfl) (nfSel (Tw hw 79 rfl)) (by decide) f588 [] [] (Con.pay (W := 0) (own_artR l Z a0 hw h583 n0 S585.old b560 z240 b532 b491 f589 f590 f591 f592) (Tw hw 80 rfl) (Tw hw 56 rfl) (by decide) (by decide)) (lenOf own_pd_21 rfl) rfl (Nle rfl) (by decide) (by decide) Wrs.nil ?_
          intro v593 T594 h595 L596 S597 q598 K599
          obtain ⟨rfl, e_q598⟩ := q598
          obtain rfl := e_q598.symm
          show Go p e below _ T594 (mkF m 152 #[.val (.int p1), .val (.int p2), .val (.int p3), .val (.int p4), .val (.int z240), .val (.int (1 : Int32)), .val (.ref b491), .val (.ref b532), .val (.ref b548), .val (.ref b557), .val (.ref b560), .val (.int (0 : Int32))] [(.int (0 : Int32))])
          refine S597.iload 154 (hb hby at_152) rfl ?_
          refine S597.icmpN 157 (hb hby at_154) (qNeF (by decide)) ?_
          refine S597.iconst 158 (1 : Int32) (hb hby at_157) ?_
          refine S597.goto 162 (hb hby at_158) ?_
          exact S597.retN (t := .boolean) (hb hby at_162) hret (by decide) (by decide) (by decide) rfl
        · skip
          refine S585.ifY 144 (hb hby at_132) (zNeT hz) ?_
          refine S585.iconst 145 (0 : Int32) (hb hby at_144) ?_
          refine S585.istore 147 #[.val (.int p1), .val (.int p2), .val (.int p3), .val (.int p4), .val (.int z240), .val (.int (1 : Int32)), .val (.ref b491), .val (.ref b532), .val (.ref b548), .val (.ref b557), .val (.ref b560), .val (.int (0 : Int32))] (hb hby at_145) rfl ?_
          refine S585.aload 149 (hb hby at_147) rfl rfl ?_
          have f600 := ((f574.ext E562).keep K587)
          have f601 := ((((f535.keep K547 nin0).keep K556 nin0).ext E562).keep K587 (ninS (Nat.ne_of_lt l575) nin0))
          refine S585.vcall 152 (hb hby at_149) (by rw [hml]; rfl) (Tw hw 76 rfl) (Tw hw 77 rfl) (Tw hw 79 rfl) (Tw hw 78 rfl) (nfSel (Tw hw 79 rfl)) (by decide) f588 [] [] (Con.pay (W := 0) (own_artR l Z a0 hw h583 n0 S585.old b560 z240 b532 b491 f589 f590 f600 f601) (Tw hw 80 rfl) (Tw hw 56 rfl) (by decide) (by decide)) (lenOf own_pd_21 rfl) rfl (Nle rfl) (by decide) (by decide) Wrs.nil ?_
          intro v602 T603 h604 L605 S606 q607 K608
          obtain ⟨rfl, e_q607⟩ := q607
          obtain rfl := e_q607.symm
          show Go p e below _ T603 (mkF m 152 #[.val (.int p1), .val (.int p2), .val (.int p3), .val (.int p4), .val (.int z240), .val (.int (1 : Int32)), .val (.ref b491), .val (.ref b532), .val (.ref b548), .val (.ref b557), .val (.ref b560), .val (.int (0 : Int32))] [(.int (0 : Int32))])
          refine S606.iload 154 (hb hby at_152) rfl ?_
          refine S606.icmpN 157 (hb hby at_154) (qNeF (by decide)) ?_
          refine S606.iconst 158 (1 : Int32) (hb hby at_157) ?_
          refine S606.goto 162 (hb hby at_158) ?_
          exact S606.retN (t := .boolean) (hb hby at_162) hret (by decide) (by decide) (by decide) rfl
      · skip
        refine S.ifN 32 (hb hby at_29) (zEqF hb488) ?_
        refine S.new 35 (hb hby at_32) (Tw hw 0 rfl) (Tw hw 1 rfl) (Tw hw 2 rfl) (by decide) (by decide) ?_
        intro T609 h610 b611 S612 E613 g614 wo615 A616 D617 U618
        have f619 : Fld Z h610 b611 "java/lang/String" "value" "[B" .null := D617 (Or.inr (Tw hw 16 rfl)) (ty := (.array .byte)) (by decide)
        have f620 : Fld Z h610 b611 "java/lang/String" "coder" "B" (.int (0 : Int32)) := D617 (Or.inr (Tw hw 17 rfl)) (ty := .byte) (by decide)
        refine S612.dup 36 (hb hby at_35) rfl ?_
        refine S612.iconst 37 (1 : Int32) (hb hby at_36) ?_
        refine S612.newarr 39 1 (hb hby at_37) (Tw hw 3 rfl) (by decide) (by decide) (by decide) (by decide) (by decide) ?_
        intro T621 h622 b623 k624 S625 E626 g627 wo628 A629
        have l630 : b611 < b623 := (by rw [g627]; exact A616.lt)
        have f631 : Arv Z h622 b623 k624 .char (1 : Int32) [(.int (0 : Int32))] (.int (0 : Int32)) := A629.pad (pad_rep [] (.int (0 : Int32)) 1)
        refine S625.dup 40 (hb hby at_39) rfl ?_
        refine S625.iconst 41 (0 : Int32) (hb hby at_40) ?_
        refine S625.iloadN 42 (hb hby at_41) rfl ?_
        refine S625.sipush 45 (255 : Int32) (hb hby at_42) ?_
        refine S625.iand 46 (hb hby at_45) ?_
        show Go p e below _ T621 (mkF m 46 #[.val (.int p1), .val (.int p2), .val (.int p3), .val (.int p4), .val (.int z240), .val (.int (1 : Int32)), .unset, .unset, .unset, .unset, .unset, .unset] [(.int (p3 &&& (255 : Int32))), (.int (0 : Int32)), (.ref b623), (.ref b623), (.ref b611), (.ref b611)])
        refine S625.i2c 47 (hb hby at_46) ?_
        have chr_c_632 := chr255 p3
        generalize e_c_632 : ((p3 &&& (255 : Int32)).toUInt32.toUInt16.toUInt32.toInt32) = c_632 at chr_c_632 ⊢
        refine S625.castore 48 0 (hb hby at_47) f631 ⟨by decide, by decide⟩ rfl (Nle rfl) wo628 ?_
        intro T633 h634 L635 S636 W637 A638
        rw [Chr.nar chr_c_632] at A638
        have f639 : Arv Z h634 b623 k624 .char (1 : Int32) [(.int c_632)] (.int (0 : Int32)) := A638
        have hp640 : ∀ c ∈ ([c_632] : List Int32), ¬ c < 0 ∧ ¬ (255 : Int32) < c := by
          intro c hc
          simp only [List.mem_cons, List.not_mem_nil, or_false] at hc
          rcases hc with rfl
          · exact chr_c_632
        have f641 := ((A616.ext E626).wr W637)
        have f642 := ((f619.ext E626).other W637 (Or.inl (Nat.ne_of_lt l630)))
        have f643 := ((f620.ext E626).other W637 (Or.inl (Nat.ne_of_lt l630)))
        refine S636.icall 51 (hb hby at_48) (by rw [hml]; rfl) rfl (Tw hw 4 rfl) (Tw hw 5 rfl) (Tw hw 6 rfl) (by decide) [(.ref b623)] [(.ref b611)] (payNew (W := 1) (n := 1) (cs := ([c_632] : List Int32)) hw (Tw hw 1 rfl) cm S636.old (S636.ge wo615) f641 f642 f643 f639 rfl rfl (by decide) (by decide) hp640 (by decide) (by decide)) (lenOf own_pd_23 rfl) rfl (Nle rfl) (by decide) (by decide) (Wrs.one wo615 (Or.inl (by simp))) ?_
        intro v644 T645 h646 L647 S648 q649 K650
        obtain ⟨rfl, t651, g652, Z653⟩ := q649
        have l654 : b623 < t651 := Nat.lt_of_lt_of_le f639.lt g652
        have l655 : b611 < t651 := Nat.lt_of_lt_of_le f641.lt g652
        have f656 := Z653.exa
        show Go p e below _ T645 (mkF m 51 #[.val (.int p1), .val (.int p2), .val (.int p3), .val (.int p4), .val (.int z240), .val (.int (1 : Int32)), .unset, .unset, .unset, .unset, .unset, .unset] [(.ref b611)])
        refine S648.goto 64 (hb hby at_51) ?_
        refine S648.astore 66 #[.val (.int p1), .val (.int p2), .val (.int p3), .val (.int p4), .val (.int z240), .val (.int (1 : Int32)), .val (.ref b611), .unset, .unset, .unset, .unset, .unset] (hb hby at_64) rfl rfl ?_
        refine S648.iload 68 (hb hby at_66) rfl ?_
        refine S648.ifN 71 (hb hby at_68) (zEqF (by decide)) ?_
        refine S648.aload 73 (hb hby at_71) rfl rfl ?_
        refine S648.scall 76 (hb hby at_73) (by rw [hml]; rfl) (Tw hw 22 rfl) (Tw hw 23 rfl) (Tw hw 24 rfl) (Tw hw 25 rfl) (by decide) [(.ref b611)] [] (Con.pay (W := 0) (own_optOf l Z a0 hw h646 n0 S648.old b611) (Tw hw 25 rfl) (Tw hw 24 rfl) (by decide) (by decide)) (lenOf own_pd_27 rfl) rfl (Nle rfl) (by decide) (by decide) Wrs.nil ?_
        intro v657 T658 h659 L660 S661 q662 K663
        obtain ⟨b664, rfl, g665, f666, f667⟩ := q662
        have f668 := (f639.keep K650 (ninS (Nat.ne_of_gt l630) nin0))
        have l669 : b623 < b664 := Nat.lt_of_lt_of_le f668.lt g665
        have l670 : b611 < b664 := Nat.lt_of_lt_of_le f656.lt g665
        have l671 : t651 < b664 := Nat.lt_of_lt_of_le Z653.lt' g665
        show Go p e below _ T658 (mkF m 76 #[.val (.int p1), .val (.int p2), .val (.int p3), .val (.int p4), .val (.int z240), .val (.int (1 : Int32)), .val (.ref b611), .unset, .unset, .unset, .unset, .unset] [(.ref b664)])
        refine S661.goto 82 (hb hby at_76) ?_
        refine S661.astore 84 #[.val (.int p1), .val (.int p2), .val (.int p3), .val (.int p4), .val (.int z240), .val (.int (1 : Int32)), .val (.ref b611), .val (.ref b664), .unset, .unset, .unset, .unset] (hb hby at_82) rfl rfl ?_
        refine S661.iloadN 85 (hb hby at_84) rfl ?_
        refine S661.bipush 87 (8 : Int32) (hb hby at_85) ?_
        refine S661.iushr 88 (hb hby at_87) ?_
        show Go p e below _ T658 (mkF m 88 #[.val (.int p1), .val (.int p2), .val (.int p3), .val (.int p4), .val (.int z240), .val (.int (1 : Int32)), .val (.ref b611), .val (.ref b664), .unset, .unset, .unset, .unset] [(.int ((p3.toUInt32 >>> ((8 : Int32) &&& 31).toUInt32).toInt32))])
        refine S661.sipush 91 (255 : Int32) (hb hby at_88) ?_
        refine S661.iand 92 (hb hby at_91) ?_
        show Go p e below _ T658 (mkF m 92 #[.val (.int p1), .val (.int p2), .val (.int p3), .val (.int p4), .val (.int z240), .val (.int (1 : Int32)), .val (.ref b611), .val (.ref b664), .unset, .unset, .unset, .unset] [(.int (((p3.toUInt32 >>> ((8 : Int32) &&& 31).toUInt32).toInt32) &&& (255 : Int32)))])
        refine S661.i2c 93 (hb hby at_92) ?_
        have chr_c_672 := chr255 ((p3.toUInt32 >>> ((8 : Int32) &&& 31).toUInt32).toInt32)
        generalize e_c_672 : ((((p3.toUInt32 >>> ((8 : Int32) &&& 31).toUInt32).toInt32) &&& (255 : Int32)).toUInt32.toUInt16.toUInt32.toInt32) = c_672 at chr_c_672 ⊢
        refine S661.scall 96 (hb hby at_93) (by rw [hml]; rfl) (Tw hw 39 rfl) (Tw hw 40 rfl) (Tw hw 2 rfl) (Tw hw 41 rfl) (by decide) [(.int c_672)] [] (Con.pay (W := 0) (own_vof l Z a0 hw cm h659 n0 S661.old c_672 chr_c_672) (Tw hw 41 rfl) (Tw hw 2 rfl) (by decide) (by decide)) (lenOf own_pd_25 rfl) rfl (Nle rfl) (by decide) (by decide) Wrs.nil ?_
        intro v673 T674 h675 L676 S677 q678 K679
        obtain ⟨b680, rfl⟩ := q678
        show Go p e below _ T674 (mkF m 96 #[.val (.int p1), .val (.int p2), .val (.int p3), .val (.int p4), .val (.int z240), .val (.int (1 : Int32)), .val (.ref b611), .val (.ref b664), .unset, .unset, .unset, .unset] [(.ref b680)])
        refine S677.astore 98 #[.val (.int p1), .val (.int p2), .val (.int p3), .val (.int p4), .val (.int z240), .val (.int (1 : Int32)), .val (.ref b611), .val (.ref b664), .val (.ref b680), .unset, .unset, .unset] (hb hby at_96) rfl rfl ?_
        refine S677.iloadN 99 (hb hby at_98) rfl ?_
        refine S677.bipush 101 (16 : Int32) (hb hby at_99) ?_
        refine S677.iushr 102 (hb hby at_101) ?_
        show Go p e below _ T674 (mkF m 102 #[.val (.int p1), .val (.int p2), .val (.int p3), .val (.int p4), .val (.int z240), .val (.int (1 : Int32)), .val (.ref b611), .val (.ref b664), .val (.ref b680), .unset, .unset, .unset] [(.int ((p3.toUInt32 >>> ((16 : Int32) &&& 31).toUInt32).toInt32))])
        refine S677.sipush 105 (255 : Int32) (hb hby at_102) ?_
        refine S677.iand 106 (hb hby at_105) ?_
        show Go p e below _ T674 (mkF m 106 #[.val (.int p1), .val (.int p2), .val (.int p3), .val (.int p4), .val (.int z240), .val (.int (1 : Int32)), .val (.ref b611), .val (.ref b664), .val (.ref b680), .unset, .unset, .unset] [(.int (((p3.toUInt32 >>> ((16 : Int32) &&& 31).toUInt32).toInt32) &&& (255 : Int32)))])
        refine S677.i2c 107 (hb hby at_106) ?_
        have chr_c_681 := chr255 ((p3.toUInt32 >>> ((16 : Int32) &&& 31).toUInt32).toInt32)
        generalize e_c_681 : ((((p3.toUInt32 >>> ((16 : Int32) &&& 31).toUInt32).toInt32) &&& (255 : Int32)).toUInt32.toUInt16.toUInt32.toInt32) = c_681 at chr_c_681 ⊢
        refine S677.scall 110 (hb hby at_107) (by rw [hml]; rfl) (Tw hw 39 rfl) (Tw hw 40 rfl) (Tw hw 2 rfl) (Tw hw 41 rfl) (by decide) [(.int c_681)] [] (Con.pay (W := 0) (own_vof l Z a0 hw cm h675 n0 S677.old c_681 chr_c_681) (Tw hw 41 rfl) (Tw hw 2 rfl) (by decide) (by decide)) (lenOf own_pd_25 rfl) rfl (Nle rfl) (by decide) (by decide) Wrs.nil ?_
        intro v682 T683 h684 L685 S686 q687 K688
        obtain ⟨b689, rfl⟩ := q687
        show Go p e below _ T683 (mkF m 110 #[.val (.int p1), .val (.int p2), .val (.int p3), .val (.int p4), .val (.int z240), .val (.int (1 : Int32)), .val (.ref b611), .val (.ref b664), .val (.ref b680), .unset, .unset, .unset] [(.ref b689)])
        refine S686.astore 112 #[.val (.int p1), .val (.int p2), .val (.int p3), .val (.int p4), .val (.int z240), .val (.int (1 : Int32)), .val (.ref b611), .val (.ref b664), .val (.ref b680), .val (.ref b689), .unset, .unset] (hb hby at_110) rfl rfl ?_
        refine S686.new 115 (hb hby at_112) (Tw hw 54 rfl) (Tw hw 55 rfl) (Tw hw 56 rfl) (by decide) (by decide) ?_
        intro T690 h691 b692 S693 E694 g695 wo696 A697 D698 U699
        have f700 := (((f668.keep K663 nin0).keep K679 nin0).keep K688 nin0)
        have l701 : b623 < b692 := (by rw [g695]; exact f700.lt)
        have f702 := (((f656.keep K663).keep K679).keep K688)
        have l703 : b611 < b692 := (by rw [g695]; exact f702.lt)
        have f704 := (((Z653.keep K663 nin0 nin0).keep K679 nin0 nin0).keep K688 nin0 nin0)
        have l705 : t651 < b692 := (by rw [g695]; exact f704.lt')
        have f706 := ((f666.keep K679).keep K688)
        have l707 : b664 < b692 := (by rw [g695]; exact f706.lt)
        have f708 : Fld Z h691 b692 "com/example/oref/oref/wikipedia/Page" "title" "Ljava/lang/String;" .null := D698 (Or.inr (Tw hw 67 rfl)) (ty := (.object "java/lang/String")) (by decide)
        have f709 : Fld Z h691 b692 "com/example/oref/oref/wikipedia/Page" "namespace" "I" (.int (0 : Int32)) := D698 (Or.inr (Tw hw 69 rfl)) (ty := .int) (by decide)
        have f710 : Fld Z h691 b692 "com/example/oref/oref/wikipedia/Page" "redirect" "Ljava/util/Optional;" .null := D698 (Or.inr (Tw hw 71 rfl)) (ty := (.object "java/util/Optional")) (by decide)
        have f711 : Fld Z h691 b692 "com/example/oref/oref/wikipedia/Page" "text" "Ljava/lang/String;" .null := D698 (Or.inr (Tw hw 73 rfl)) (ty := (.object "java/lang/String")) (by decide)
        have f712 : Fld Z h691 b692 "com/example/oref/oref/wikipedia/Page" "line" "I" (.int (0 : Int32)) := D698 (Or.inr (Tw hw 75 rfl)) (ty := .int) (by decide)
        refine S693.dup 116 (hb hby at_115) rfl ?_
        refine S693.aload 118 (hb hby at_116) rfl rfl ?_
        refine S693.iload 120 (hb hby at_118) rfl ?_
        refine S693.aload 122 (hb hby at_120) rfl rfl ?_
        refine S693.aload 124 (hb hby at_122) rfl rfl ?_
        refine S693.iloadN 125 (hb hby at_124) rfl ?_
        refine S693.icall 128 (hb hby at_125) (by rw [hml]; rfl) rfl (Tw hw 57 rfl) (Tw hw 58 rfl) (Tw hw 59 rfl) (by decide) [(.ref b680), (.int z240), (.ref b664), (.ref b689), (.int p4)] [(.ref b692)] (Con.pay (W := 1) (own_page l Z a0 hw h691 n0 S693.old b692 b680 z240 b664 b689 p4 (S693.ge wo696) A697 f708 f709 f710 f711 f712) (Tw hw 59 rfl) (Tw hw 56 rfl) (by decide) (by decide)) (lenOf own_pd_26 rfl) rfl (Nle rfl) (by decide) (by decide) (Wrs.one wo696 (Or.inr ⟨_, A697, by decide, by decide⟩)) ?_
        intro v713 T714 h715 L716 S717 q718 K719
        obtain ⟨rfl, f720, f721, f722⟩ := q718
        show Go p e below _ T714 (mkF m 128 #[.val (.int p1), .val (.int p2), .val (.int p3), .val (.int p4), .val (.int z240), .val (.int (1 : Int32)), .val (.ref b611), .val (.ref b664), .val (.ref b680), .val (.ref b689), .unset, .unset] [(.ref b692)])
        refine S717.astore 130 #[.val (.int p1), .val (.int p2), .val (.int p3), .val (.int p4), .val (.int z240), .val (.int (1 : Int32)), .val (.ref b611), .val (.ref b664), .val (.ref b680), .val (.ref b689), .val (.ref b692), .unset] (hb hby at_128) rfl rfl ?_
        refine S717.iload 132 (hb hby at_130) rfl ?_
        by_cases hz : z240 = (0 : Int32)
        · skip
          refine S717.ifN 135 (hb hby at_132) (zNeF hz) ?_
          refine S717.iload 137 (hb hby at_135) rfl ?_
          refine S717.ifY 144 (hb hby at_137) (zNeT (by decide)) ?_
          refine S717.iconst 145 (0 : Int32) (hb hby at_144) ?_
          refine S717.istore 147 #[.val (.int p1), .val (.int p2), .val (.int p3), .val (.int p4), .val (.int z240), .val (.int (1 : Int32)), .val (.ref b611), .val (.ref b664), .val (.ref b680), .val (.ref b689), .val (.ref b692), .val (.int (0 : Int32))] (hb hby at_145) rfl ?_
          refine S717.aload 149 (hb hby at_147) rfl rfl ?_
          have f723 := ((f706.ext E694).keep K719)
          have f724 := ((((f667.keep K679 nin0).keep K688 nin0).ext E694).keep K719 (ninS (Nat.ne_of_lt l707) nin0))
          refine S717.vcall 152 (hb hby at_149) (by rw [hml]; rfl) (Tw hw 76 rfl) (Tw hw 77 rfl) (Tw hw 79 rfl) (Tw hw 78 rfl) (nfSel (Tw hw 79 rfl)) (by decide) f720 [] [] (Con.pay (W := 0) (own_artR l Z a0 hw h715 n0 S717.old b692 z240 b664 b611 f721 f722 f723 f724) (Tw hw 80 rfl) (Tw hw 56 rfl) (by decide) (by decide)) (lenOf own_pd_21 rfl) rfl (Nle rfl) (by decide) (by decide) Wrs.nil ?_
          intro v725 T726 h727 L728 S729 q730 K731
          obtain ⟨rfl, e_q730⟩ := q730
          obtain rfl := e_q730.symm
          show Go p e below _ T726 (mkF m 152 #[.val (.int p1), .val (.int p2), .val (.int p3), .val (.int p4), .val (.int z240), .val (.int (1 : Int32)), .val (.ref b611), .val (.ref b664), .val (.ref b680), .val (.ref b689), .val (.ref b692), .val (.int (0 : Int32))] [(.int (0 : Int32))])
          refine S729.iload 154 (hb hby at_152) rfl ?_
          refine S729.icmpN 157 (hb hby at_154) (qNeF (by decide)) ?_
          refine S729.iconst 158 (1 : Int32) (hb hby at_157) ?_
          refine S729.goto 162 (hb hby at_158) ?_
          exact S729.retN (t := .boolean) (hb hby at_162) hret (by decide) (by decide) (by decide) rfl
        · skip
          refine S717.ifY 144 (hb hby at_132) (zNeT hz) ?_
          refine S717.iconst 145 (0 : Int32) (hb hby at_144) ?_
          refine S717.istore 147 #[.val (.int p1), .val (.int p2), .val (.int p3), .val (.int p4), .val (.int z240), .val (.int (1 : Int32)), .val (.ref b611), .val (.ref b664), .val (.ref b680), .val (.ref b689), .val (.ref b692), .val (.int (0 : Int32))] (hb hby at_145) rfl ?_
          refine S717.aload 149 (hb hby at_147) rfl rfl ?_
          have f732 := ((f706.ext E694).keep K719)
          have f733 := ((((f667.keep K679 nin0).keep K688 nin0).ext E694).keep K719 (ninS (Nat.ne_of_lt l707) nin0))
          refine S717.vcall 152 (hb hby at_149) (by rw [hml]; rfl) (Tw hw 76 rfl) (Tw hw 77 rfl) (Tw hw 79 rfl) (Tw hw 78 rfl) (nfSel (Tw hw 79 rfl)) (by decide) f720 [] [] (Con.pay (W := 0) (own_artR l Z a0 hw h715 n0 S717.old b692 z240 b664 b611 f721 f722 f732 f733) (Tw hw 80 rfl) (Tw hw 56 rfl) (by decide) (by decide)) (lenOf own_pd_21 rfl) rfl (Nle rfl) (by decide) (by decide) Wrs.nil ?_
          intro v734 T735 h736 L737 S738 q739 K740
          obtain ⟨rfl, e_q739⟩ := q739
          obtain rfl := e_q739.symm
          show Go p e below _ T735 (mkF m 152 #[.val (.int p1), .val (.int p2), .val (.int p3), .val (.int p4), .val (.int z240), .val (.int (1 : Int32)), .val (.ref b611), .val (.ref b664), .val (.ref b680), .val (.ref b689), .val (.ref b692), .val (.int (0 : Int32))] [(.int (0 : Int32))])
          refine S738.iload 154 (hb hby at_152) rfl ?_
          refine S738.icmpN 157 (hb hby at_154) (qNeF (by decide)) ?_
          refine S738.iconst 158 (1 : Int32) (hb hby at_157) ?_
          refine S738.goto 162 (hb hby at_158) ?_
          exact S738.retN (t := .boolean) (hb hby at_162) hret (by decide) (by decide) (by decide) rfl
  refine S.iloadN 1 (hb hby at_0) rfl ?_
  refine S.iconst 2 (1 : Int32) (hb hby at_1) ?_
  refine S.iand 3 (hb hby at_2) ?_
  show Go p e below _ T (mkF m 3 #[.val (.int p1), .val (.int p2), .val (.int p3), .val (.int p4), .unset, .unset, .unset, .unset, .unset, .unset, .unset, .unset] [(.int (p2 &&& (1 : Int32)))])
  by_cases hb741 : (p2 &&& (1 : Int32)) = (0 : Int32)
  · skip
    refine S.ifY 10 (hb hby at_3) (zEqT hb741) ?_
    refine S.iloadN 11 (hb hby at_10) rfl ?_
    refine S.istore 13 #[.val (.int p1), .val (.int p2), .val (.int p3), .val (.int p4), .val (.int p1), .unset, .unset, .unset, .unset, .unset, .unset, .unset] (hb hby at_11) rfl ?_
    exact tail241 _
  · skip
    refine S.ifN 6 (hb hby at_3) (zEqF hb741) ?_
    refine S.iconst 7 (0 : Int32) (hb hby at_6) ?_
    refine S.goto 11 (hb hby at_7) ?_
    refine S.istore 13 #[.val (.int p1), .val (.int p2), .val (.int p3), .val (.int p4), .val (.int (0 : Int32)), .unset, .unset, .unset, .unset, .unset, .unset, .unset] (hb hby at_11) rfl ?_
    exact tail241 _

theorem own_start {a0 : Array Value} {Z : State} (hw : ∀ d ∈ tables_1, d.before a0 Z = true) (hE : EW Z a0 consts_1) (hh : ∀ p ∈ consts_1, Jvm.Lit.constHeld Z p.1 p.2) (hcw : Jvm.Lit.compactW.before a0 Z = true) : CHv Z consts_1 Z.vm Z.heap :=
  CHv.start hE hh hcw (Tw hw 15 rfl) (Tw hw 1 rfl)
set_option maxRecDepth 65536 in
set_option maxHeartbeats 40000000 in
theorem own_comes {Post : Tables → Env → Array Value → State → Outcome → State → Prop} (hpost : ∀ tb e args s v u, (limb_1_1.after args s (.returned v) u = true ∧ limb_1_2.after args s (.returned v) u = true ∧ True) → ReturnedEndW s (.returned v) u (Jvm.fieldLocs frame_1_writes args s ++ Jvm.arrayLocs frame_1_arrays args s ++ Jvm.staticLocs frame_1_statics s) 32 1152 → Post tb e args s (.returned v) u) :
    ArmFor flags0 classFile x code maxLocals ret World_1 tables_1 room_1 Calls_1 rest_1 Pre_1 Post := by
  intro l hfl _ _ p e ha hc hk s m args below hf hA hF happ hP
  obtain ⟨hcalls, hrest, hpre⟩ := hP
  obtain ⟨-, -, -, hnamed, -, -, -, hat⟩ := (Spec.applies_iff hf).mp happ
  obtain ⟨hg, hn⟩ := and_e (Cond.before_iff.mp (show (Jvm.Cond.and given_1 narrow_1).before args s = true from hpre))
  obtain ⟨g0, q0⟩ := and_e hg
  obtain ⟨g1, q1⟩ := and_e q0
  obtain ⟨g2, q2⟩ := and_e q1
  obtain ⟨g3, q3⟩ := and_e q2
  obtain ⟨w0, w1, w2, w3, rfl⟩ : ∃ w0 w1 w2 w3 : Value, args = #[w0, w1, w2, w3] := by
    have hs : args.size = 4 := by simpa [Cond.value, given_1] using g0
    obtain ⟨L⟩ := args
    match L, hs with
    | [w0, w1, w2, w3], _ => exact ⟨w0, w1, w2, w3, rfl⟩
  have hw := fun d (hd : d ∈ tables_1) => atoms_spec (ws := Jvm.Cond.code x code maxLocals ret :: tables_1) hat d (List.mem_cons_of_mem _ hd)
  obtain ⟨hsets, hown0⟩ := atoms_of _ (rest_1_c_eq ▸ (show rest_1_c.before _ s = true from hrest))
  have hr0 := Cond.before_iff.mp hown0
  have hfit : Fit s := fun {y c} hc i hi => by
    obtain ⟨ha, rfl⟩ := Array.getElem?_eq_some_iff.mp hc
    have q := List.all_eq_true.mp ((Array.all_eq_true_iff_forall_mem.mp hF) _ (Array.getElem_mem ha)) i (List.mem_range.mpr hi)
    simpa [Array.getElem?_eq_getElem hi] using q
  obtain ⟨i0, e0⟩ := is_v g1
  obtain rfl : w0 = (.int i0) := Option.some.inj e0
  obtain ⟨i1, e1⟩ := is_v g2
  obtain rfl : w1 = (.int i1) := Option.some.inj e1
  obtain ⟨i2, e2⟩ := is_v g3
  obtain rfl : w2 = (.int i2) := Option.some.inj e2
  obtain ⟨i3, e3⟩ := is_v q3
  obtain rfl : w3 = (.int i3) := Option.some.inj e3
  obtain ⟨cz, cze⟩ := is_v (Cond.before_iff.mp (hsets _ (List.mem_of_getElem? (i := 1) rfl)))
  have cm : Com s := ⟨cz, Sta.start cze (Or.inl (hsets _ (List.mem_of_getElem? (i := 0) rfl))), gotF (Cond.eq_ints cze (Term.int_eval (0))) (not_v (Cond.before_iff.mp (hsets _ (List.mem_of_getElem? (i := 2) rfl))))⟩
  have hcw : Jvm.Lit.compactW.before _ s = true := hsets _ (List.mem_of_getElem? (i := 2) rfl)
  obtain ⟨oa, oe⟩ := exa_v (Cond.before_iff.mp (hsets _ (List.mem_of_getElem? (i := 11) rfl)))
  have em : Emp s := ⟨oa, Sta.start oe (Or.inl (hsets _ (List.mem_of_getElem? (i := 10) rfl))), Exa.start oe (Cond.before_iff.mp (hsets _ (List.mem_of_getElem? (i := 11) rfl))), fldAt oe (null_v (Cond.before_iff.mp (hsets _ (List.mem_of_getElem? (i := 12) rfl))))⟩
  obtain ⟨n, o, h1, h2, h3, _, L, rfl, ⟨rfl, KK, N⟩, -, hq⟩ := own_law l s _ hw cm em s.heap s.heap.size (Old.start s) i0 i1 i2 i3 p e ha hc hk s m _ below hf ((Spec.applies_iff_loose hf).mp happ).1 ⟨rfl, State.Warmed39.refl s, rfl, (own_start hw (own_EW hw) hcalls.1 hcw), fun _ q => nomatch q⟩ trivial
  refine ⟨n, _, h1, h2, h3, hpost _ _ _ _ _ _ ⟨Cond.after_iff.mpr rfl, Cond.after_iff.mpr (eq_i res_at (Term.int_eval (1)) rfl), trivial⟩ ⟨hq.1, hq.2.1, hq.2.2.1, (hq.2.2.2.sift fun y hy => Or.inr (N y hy)).mono (by decide) (by decide)⟩⟩
theorem main_1_1 : Claimed_1_1 := own_comes fun _ _ _ _ _ _ h hF => ⟨h.1, hF⟩
theorem main_1_2 : Claimed_1_2 := own_comes fun _ _ _ _ _ _ h hF => ⟨h.2.1, hF⟩
end Jvm.Pilot.@@N@@
namespace Jvm.Pilot.@@N@@
open Jvm Jvm.ClassFile Sem Op Lib Jvm.Free Jvm.Stand Jvm.Pilot.@@N@@.Jvm.D
/-! MADE BY PROGRAM (witnessworld.py) out of the Statement's table words and the real class files: 23 classes; the members and pool entries that the words name. The judged class is class 1, her method 1. -/
namespace start1
open Jvm.ClassFile
def u (s : String) : CpInfo := .utf8 (stringToUtf16 s)
/-- a pool by its gaps: so many unusable entries, then the entry; so many at the end -/
def gap : Nat → List CpInfo → List CpInfo
  | 0, r => r
  | n + 1, r => .unusable :: gap n r
def poolList (es : List (Nat × CpInfo)) (last : Nat) : List CpInfo := es.foldr (fun e r => gap e.1 (e.2 :: r)) (gap last [])
def pool (es : List (Nat × CpInfo)) (last : Nat) : Array CpInfo := ⟨poolList es last⟩
def fileOf (pool : Array CpInfo) (this : Nat) (attrs : Array Attribute := #[]) (ms : Array MethodInfo := #[]) (fl : Nat := 33) (sup : Nat := 0) (ifs : Array Nat := #[]) (fds : Array FieldInfo := #[]) : ClassFile where
  minorVersion := 0
  majorVersion := 65
  constantPool := pool
  accessFlags := fl
  thisClass := this
  superClass := sup
  interfaces := ifs
  fields := fds
  methods := ms
  attributes := attrs
def plain (name : String) (sup : Option ClassId) : Class where
  name := name
  kind := .ordinary
  loader := none
  accessFlags := 33
  super := sup
  interfaces := #[]
  cf := none
  fields := #[]
  methods := #[]
  instanceTypes := #[]
  staticTypes := #[]
  resolved := #[]
  callSites := []
  init := .initialized
  statics := none
  mirror := none

def pool0 : Array CpInfo := pool [(5, u "<init>"), (0, u "()V"), (1, .class_ 10), (1, u "java/lang/Object")] 113

def k0c0 : Code := { maxStack := 0, maxLocals := 1, code := object_method_1_code, exceptionTable := #[], attributes := #[] }
def k0m0 : Method := { name := "<init>", desc := "()V", sig := { parameters := [], returnType := none }, accessFlags := 1, code := some k0c0 }
/-- java/lang/Object -/
def k0 : Class := { plain "java/lang/Object" none with
  accessFlags := 33
  interfaces := #[]
  cf := some (fileOf pool0 8 #[] #[{ accessFlags := 1, nameIndex := 5, descriptorIndex := 6, attributes := #[] }] 33 0 #[] #[])
  fields := #[]
  methods := #[k0m0]
  instanceTypes := #[]
  staticTypes := #[]
  resolved := Array.replicate 124 none
  statics := none }

def pool1 : Array CpInfo := pool [(2, .class_ 4), (1, u "java/lang/Object"), (0, u "<init>"), (0, u "()V"), (0, .class_ 8), (0, u "java/lang/String"), (0, .methodref 7 10), (0, .nameAndType 5 11), (0, u "([C)V"), (0, .methodref 13 14), (0, .class_ 15), (0, .nameAndType 16 17), (0, u "java/util/Optional"), (0, u "of"), (0, u "(Ljava/lang/Object;)Ljava/util/Optional;"), (0, .methodref 13 19), (0, .nameAndType 20 21), (0, u "empty"), (0, u "()Ljava/util/Optional;"), (0, .methodref 7 23), (0, .nameAndType 24 25), (0, u "valueOf"), (0, u "(C)Ljava/lang/String;"), (0, .class_ 27), (0, u "com/example/oref/oref/wikipedia/Page"), (0, .methodref 26 29), (0, .nameAndType 5 30), (0, u "(Ljava/lang/String;ILjava/util/Optional;Ljava/lang/String;I)V"), (0, .methodref 26 32), (0, .nameAndType 33 34), (0, u "isArticle"), (0, u "()Z"), (0, .class_ 36), (0, u "com/example/oref/oref/wikipedia/PageIsArticlePinLaw"), (2, u "law"), (0, u "(IIII)Z")] 3

def k1m0 : Method := { name := "<init>", desc := "()V", sig := { parameters := [], returnType := none }, accessFlags := 1, code := none }
def k1c1 : Code := { maxStack := 7, maxLocals := 12, code := code, exceptionTable := #[], attributes := #[] }
def k1m1 : Method := { name := "law", desc := "(IIII)Z", sig := { parameters := [.int, .int, .int, .int], returnType := some .boolean }, accessFlags := 9, code := some k1c1 }
/-- com/example/oref/oref/wikipedia/PageIsArticlePinLaw -/
def k1 : Class := { plain "com/example/oref/oref/wikipedia/PageIsArticlePinLaw" (some 0) with
  accessFlags := 49
  interfaces := #[]
  cf := some (fileOf pool1 35 #[] #[{ accessFlags := 1, nameIndex := 5, descriptorIndex := 6, attributes := #[] }, { accessFlags := 9, nameIndex := 39, descriptorIndex := 40, attributes := #[] }] 49 2 #[] #[])
  fields := #[]
  methods := #[k1m0, k1m1]
  instanceTypes := #[]
  staticTypes := #[]
  resolved := Array.replicate 44 none
  statics := none }

def pool2 : Array CpInfo := pool [(1, .class_ 2), (0, u "java/io/Serializable"), (0, .class_ 4), (0, u "java/lang/Object")] 2

/-- java/io/Serializable -/
def k2 : Class := { plain "java/io/Serializable" (some 0) with
  accessFlags := 1537
  interfaces := #[]
  cf := some (fileOf pool2 1 #[] #[] 1537 3 #[] #[])
  fields := #[]
  methods := #[]
  instanceTypes := #[]
  staticTypes := #[]
  resolved := Array.replicate 7 none
  statics := none }

def pool3 : Array CpInfo := pool [(1, .class_ 2), (0, u "java/lang/Comparable"), (0, .class_ 4), (0, u "java/lang/Object")] 7

/-- java/lang/Comparable -/
def k3 : Class := { plain "java/lang/Comparable" (some 0) with
  accessFlags := 1537
  interfaces := #[]
  cf := some (fileOf pool3 1 #[] #[] 1537 3 #[] #[])
  fields := #[]
  methods := #[]
  instanceTypes := #[]
  staticTypes := #[]
  resolved := Array.replicate 12 none
  statics := none }

def pool4 : Array CpInfo := pool [(2, .class_ 4), (1, u "java/lang/CharSequence"), (42, .class_ 48), (0, u "java/lang/CharSequence$1CodePointIterator"), (10, .class_ 60), (0, u "java/lang/CharSequence$1CharIterator"), (5, .class_ 67), (0, u "java/lang/Object")] 63

/-- java/lang/CharSequence -/
def k4 : Class := { plain "java/lang/CharSequence" (some 0) with
  accessFlags := 1537
  interfaces := #[]
  cf := some (fileOf pool4 2 #[.nestMembers #[47, 59]] #[] 1537 66 #[] #[])
  fields := #[]
  methods := #[]
  instanceTypes := #[]
  staticTypes := #[]
  resolved := Array.replicate 131 none
  statics := none }

def pool5 : Array CpInfo := pool [(1, .class_ 2), (0, u "java/lang/constant/Constable"), (0, .class_ 4), (0, u "java/lang/Object")] 6

/-- java/lang/constant/Constable -/
def k5 : Class := { plain "java/lang/constant/Constable" (some 0) with
  accessFlags := 1537
  interfaces := #[]
  cf := some (fileOf pool5 1 #[] #[] 1537 3 #[] #[])
  fields := #[]
  methods := #[]
  instanceTypes := #[]
  staticTypes := #[]
  resolved := Array.replicate 11 none
  statics := none }

def pool6 : Array CpInfo := pool [(1, .class_ 2), (0, u "java/lang/constant/ConstantDesc"), (0, .class_ 4), (0, u "java/lang/Object")] 32

/-- java/lang/constant/ConstantDesc -/
def k6 : Class := { plain "java/lang/constant/ConstantDesc" (some 0) with
  accessFlags := 1537
  interfaces := #[]
  cf := some (fileOf pool6 1 #[] #[] 1537 3 #[] #[])
  fields := #[]
  methods := #[]
  instanceTypes := #[]
  staticTypes := #[]
  resolved := Array.replicate 37 none
  statics := none }

def pool7 : Array CpInfo := pool [(1, .methodref 2 3), (0, .class_ 4), (0, .nameAndType 5 6), (0, u "java/lang/Object"), (0, u "<init>"), (0, u "()V"), (0, .string 8), (0, u ""), (0, .fieldref 10 11), (0, .class_ 12), (0, .nameAndType 13 14), (0, u "java/lang/String"), (0, u "value"), (0, u "[B"), (0, .fieldref 10 16), (0, .nameAndType 17 18), (0, u "coder"), (0, u "B"), (2, u "hash"), (0, u "I"), (2, u "hashIsZero"), (0, u "Z"), (0, .methodref 10 28), (0, .nameAndType 5 29), (0, u "([CIILjava/lang/Void;)V"), (8, .fieldref 10 39), (0, .nameAndType 40 26), (0, u "COMPACT_STRINGS"), (1, .class_ 44), (1, u "java/lang/StringUTF16"), (0, u "compress"), (1, .methodref 42 48), (0, .nameAndType 49 50), (0, u "coderFromArrayLen"), (0, u "([BI)B"), (2, u "toBytes"), (53, .class_ 109), (1, u "java/lang/StringLatin1"), (67, .methodref 42 178), (0, .nameAndType 45 179), (0, u "([CII)[B"), (29, .methodref 10 210), (0, .nameAndType 5 211), (0, u "([BB)V"), (157, u "(C)Z"), (205, .class_ 576), (0, u "java/lang/CharSequence"), (22, u "CASE_INSENSITIVE_ORDER"), (0, u "Ljava/util/Comparator;"), (181, u "valueOf"), (0, u "(C)Ljava/lang/String;"), (226, u "([C)V"), (4, .methodref 107 1016), (0, .nameAndType 1017 369), (0, u "canEncode"), (0, .methodref 107 1019), (0, .nameAndType 53 1020), (0, u "(C)[B"), (80, u "serialPersistentFields"), (0, u "[Ljava/io/ObjectStreamField;"), (0, .class_ 1104), (0, u "java/lang/String$CaseInsensitiveComparator"), (1, .class_ 1107), (0, u "java/io/Serializable"), (0, .class_ 1109), (0, u "java/lang/Comparable"), (0, .class_ 1111), (0, u "java/lang/constant/Constable"), (0, .class_ 1113), (0, u "java/lang/constant/ConstantDesc"), (2, u "serialVersionUID"), (0, u "J"), (3, u "REPL"), (0, u "C"), (2, u "LATIN1"), (1, u "UTF16")] 323

def k7m0 : Method := { name := "<init>", desc := "()V", sig := { parameters := [], returnType := none }, accessFlags := 1, code := none }
def k7c1 : Code := { maxStack := 5, maxLocals := 2, code := jdk_42_method_3_code, exceptionTable := #[], attributes := #[] }
def k7m1 : Method := { name := "<init>", desc := "([C)V", sig := { parameters := [(.array .char)], returnType := none }, accessFlags := 1, code := some k7c1 }
def k7c2 : Code := { maxStack := 4, maxLocals := 1, code := jdk_42_method_139_code, exceptionTable := #[], attributes := #[] }
def k7m2 : Method := { name := "valueOf", desc := "(C)Ljava/lang/String;", sig := { parameters := [.char], returnType := some (.object "java/lang/String") }, accessFlags := 9, code := some k7c2 }
def k7c3 : Code := { maxStack := 4, maxLocals := 6, code := jdk_42_method_149_code, exceptionTable := #[], attributes := #[] }
def k7m3 : Method := { name := "<init>", desc := "([CIILjava/lang/Void;)V", sig := { parameters := [(.array .char), .int, .int, (.object "java/lang/Void")], returnType := none }, accessFlags := 2, code := some k7c3 }
def k7c4 : Code := { maxStack := 2, maxLocals := 3, code := jdk_42_method_151_code, exceptionTable := #[], attributes := #[] }
def k7m4 : Method := { name := "<init>", desc := "([BB)V", sig := { parameters := [(.array .byte), .byte], returnType := none }, accessFlags := 0, code := some k7c4 }
/-- java/lang/String -/
def k7 : Class := { plain "java/lang/String" (some 0) with
  accessFlags := 49
  interfaces := #[2, 3, 4, 5, 6]
  cf := some (fileOf pool7 10 #[.nestMembers #[1103]] #[{ accessFlags := 1, nameIndex := 5, descriptorIndex := 6, attributes := #[] }, { accessFlags := 1, nameIndex := 5, descriptorIndex := 1010, attributes := #[] }, { accessFlags := 9, nameIndex := 782, descriptorIndex := 783, attributes := #[] }, { accessFlags := 2, nameIndex := 5, descriptorIndex := 29, attributes := #[] }, { accessFlags := 0, nameIndex := 5, descriptorIndex := 211, attributes := #[] }] 49 2 #[1106, 1108, 575, 1110, 1112] #[{ accessFlags := 18, nameIndex := 13, descriptorIndex := 14, attributes := #[] }, { accessFlags := 18, nameIndex := 17, descriptorIndex := 18, attributes := #[] }, { accessFlags := 2, nameIndex := 21, descriptorIndex := 22, attributes := #[] }, { accessFlags := 2, nameIndex := 25, descriptorIndex := 26, attributes := #[] }, { accessFlags := 26, nameIndex := 1116, descriptorIndex := 1117, attributes := #[] }, { accessFlags := 24, nameIndex := 40, descriptorIndex := 26, attributes := #[] }, { accessFlags := 26, nameIndex := 1101, descriptorIndex := 1102, attributes := #[] }, { accessFlags := 26, nameIndex := 1121, descriptorIndex := 1122, attributes := #[] }, { accessFlags := 25, nameIndex := 599, descriptorIndex := 600, attributes := #[] }, { accessFlags := 24, nameIndex := 1125, descriptorIndex := 18, attributes := #[] }, { accessFlags := 24, nameIndex := 1127, descriptorIndex := 18, attributes := #[] }])
  fields := #[{ name := "value", type := (.array .byte), accessFlags := 18, slot := 0, constantValue := 0 }, { name := "coder", type := .byte, accessFlags := 18, slot := 1, constantValue := 0 }, { name := "hash", type := .int, accessFlags := 2, slot := 2, constantValue := 0 }, { name := "hashIsZero", type := .boolean, accessFlags := 2, slot := 3, constantValue := 0 }, { name := "serialVersionUID", type := .long, accessFlags := 26, slot := 0, constantValue := 0 }, { name := "COMPACT_STRINGS", type := .boolean, accessFlags := 24, slot := 1, constantValue := 0 }, { name := "serialPersistentFields", type := (.array (.object "java/io/ObjectStreamField")), accessFlags := 26, slot := 2, constantValue := 0 }, { name := "REPL", type := .char, accessFlags := 26, slot := 3, constantValue := 0 }, { name := "CASE_INSENSITIVE_ORDER", type := (.object "java/util/Comparator"), accessFlags := 25, slot := 4, constantValue := 0 }, { name := "LATIN1", type := .byte, accessFlags := 24, slot := 5, constantValue := 0 }, { name := "UTF16", type := .byte, accessFlags := 24, slot := 6, constantValue := 0 }]
  methods := #[k7m0, k7m1, k7m2, k7m3, k7m4]
  instanceTypes := #[(.array .byte), .byte, .int, .boolean]
  staticTypes := #[.long, .boolean, (.array (.object "java/io/ObjectStreamField")), .char, (.object "java/util/Comparator"), .byte, .byte]
  resolved := Array.replicate 1451 none
  statics := some 0 }

def pool8 : Array CpInfo := pool [(1, .fieldref 2 3), (0, .class_ 4), (0, .nameAndType 5 6), (0, u "java/util/Optional"), (0, u "EMPTY"), (0, u "Ljava/util/Optional;"), (0, .methodref 8 9), (0, .class_ 10), (0, .nameAndType 11 12), (0, u "java/lang/Object"), (0, u "<init>"), (0, u "()V"), (0, .fieldref 2 14), (0, .nameAndType 15 16), (0, u "value"), (0, u "Ljava/lang/Object;"), (0, .methodref 18 19), (0, .class_ 20), (0, .nameAndType 21 22), (0, u "java/util/Objects"), (0, u "requireNonNull"), (0, u "(Ljava/lang/Object;)Ljava/lang/Object;"), (0, .methodref 2 24), (0, .nameAndType 11 25), (0, u "(Ljava/lang/Object;)V"), (19, u "isEmpty"), (0, u "()Z"), (8, u "empty"), (0, u "()Ljava/util/Optional;"), (8, u "(Ljava/lang/Object;)Ljava/util/Optional;"), (16, u "of")] 104

def k8c0 : Code := { maxStack := 1, maxLocals := 1, code := jdk_32_method_1_code, exceptionTable := #[], attributes := #[] }
def k8m0 : Method := { name := "empty", desc := "()Ljava/util/Optional;", sig := { parameters := [], returnType := some (.object "java/util/Optional") }, accessFlags := 9, code := some k8c0 }
def k8c1 : Code := { maxStack := 2, maxLocals := 2, code := jdk_32_method_2_code, exceptionTable := #[], attributes := #[] }
def k8m1 : Method := { name := "<init>", desc := "(Ljava/lang/Object;)V", sig := { parameters := [(.object "java/lang/Object")], returnType := none }, accessFlags := 2, code := some k8c1 }
def k8c2 : Code := { maxStack := 3, maxLocals := 1, code := jdk_32_method_3_code, exceptionTable := #[], attributes := #[] }
def k8m2 : Method := { name := "of", desc := "(Ljava/lang/Object;)Ljava/util/Optional;", sig := { parameters := [(.object "java/lang/Object")], returnType := some (.object "java/util/Optional") }, accessFlags := 9, code := some k8c2 }
def k8c3 : Code := { maxStack := 1, maxLocals := 1, code := jdk_32_method_7_code, exceptionTable := #[], attributes := #[] }
def k8m3 : Method := { name := "isEmpty", desc := "()Z", sig := { parameters := [], returnType := some .boolean }, accessFlags := 1, code := some k8c3 }
/-- java/util/Optional -/
def k8 : Class := { plain "java/util/Optional" (some 0) with
  accessFlags := 49
  interfaces := #[]
  cf := some (fileOf pool8 2 #[] #[{ accessFlags := 9, nameIndex := 55, descriptorIndex := 56, attributes := #[] }, { accessFlags := 2, nameIndex := 11, descriptorIndex := 25, attributes := #[] }, { accessFlags := 9, nameIndex := 82, descriptorIndex := 65, attributes := #[] }, { accessFlags := 1, nameIndex := 45, descriptorIndex := 46, attributes := #[] }] 49 8 #[] #[{ accessFlags := 26, nameIndex := 5, descriptorIndex := 6, attributes := #[] }, { accessFlags := 18, nameIndex := 15, descriptorIndex := 16, attributes := #[] }])
  fields := #[{ name := "EMPTY", type := (.object "java/util/Optional"), accessFlags := 26, slot := 0, constantValue := 0 }, { name := "value", type := (.object "java/lang/Object"), accessFlags := 18, slot := 0, constantValue := 0 }]
  methods := #[k8m0, k8m1, k8m2, k8m3]
  instanceTypes := #[(.object "java/lang/Object")]
  staticTypes := #[(.object "java/util/Optional")]
  resolved := Array.replicate 187 none
  statics := some 1 }

def pool9 : Array CpInfo := pool [(2, .class_ 4), (1, u "java/lang/Object"), (0, u "<init>"), (0, u "()V"), (35, .class_ 44), (1, u "java/util/Objects"), (0, u "requireNonNull"), (0, u "(Ljava/lang/Object;)Ljava/lang/Object;")] 137

def k9m0 : Method := { name := "<init>", desc := "()V", sig := { parameters := [], returnType := none }, accessFlags := 2, code := none }
def k9c1 : Code := { maxStack := 2, maxLocals := 1, code := jdk_31_method_10_code, exceptionTable := #[], attributes := #[] }
def k9m1 : Method := { name := "requireNonNull", desc := "(Ljava/lang/Object;)Ljava/lang/Object;", sig := { parameters := [(.object "java/lang/Object")], returnType := some (.object "java/lang/Object") }, accessFlags := 9, code := some k9c1 }
/-- java/util/Objects -/
def k9 : Class := { plain "java/util/Objects" (some 0) with
  accessFlags := 49
  interfaces := #[]
  cf := some (fileOf pool9 42 #[] #[{ accessFlags := 2, nameIndex := 5, descriptorIndex := 6, attributes := #[] }, { accessFlags := 9, nameIndex := 45, descriptorIndex := 46, attributes := #[] }] 49 2 #[] #[])
  fields := #[]
  methods := #[k9m0, k9m1]
  instanceTypes := #[]
  staticTypes := #[]
  resolved := Array.replicate 184 none
  statics := none }

def pool10 : Array CpInfo := pool [(4, .class_ 6), (1, u "java/lang/Object"), (0, u "<init>"), (0, u "()V"), (5, .class_ 16), (1, u "java/lang/StringLatin1"), (73, u "canEncode"), (14, u "(C)Z"), (15, u "$assertionsDisabled"), (0, u "Z"), (98, .class_ 223), (1, u "java/lang/StringLatin1$LinesSpliterator"), (156, u "toBytes"), (1, u "(C)[B"), (7, .class_ 391), (0, u "java/lang/StringLatin1$CharsSpliterator")] 3

def k10m0 : Method := { name := "<init>", desc := "()V", sig := { parameters := [], returnType := none }, accessFlags := 0, code := none }
def k10c1 : Code := { maxStack := 2, maxLocals := 1, code := jdk_43_method_3_code, exceptionTable := #[], attributes := #[] }
def k10m1 : Method := { name := "canEncode", desc := "(C)Z", sig := { parameters := [.char], returnType := some .boolean }, accessFlags := 9, code := some k10c1 }
def k10c2 : Code := { maxStack := 4, maxLocals := 1, code := jdk_43_method_46_code, exceptionTable := #[], attributes := #[] }
def k10m2 : Method := { name := "toBytes", desc := "(C)[B", sig := { parameters := [.char], returnType := some (.array .byte) }, accessFlags := 9, code := some k10c2 }
/-- java/lang/StringLatin1 -/
def k10 : Class := { plain "java/lang/StringLatin1" (some 0) with
  accessFlags := 48
  interfaces := #[]
  cf := some (fileOf pool10 14 #[.nestMembers #[390, 221]] #[{ accessFlags := 0, nameIndex := 7, descriptorIndex := 8, attributes := #[] }, { accessFlags := 9, nameIndex := 90, descriptorIndex := 105, attributes := #[] }, { accessFlags := 9, nameIndex := 380, descriptorIndex := 382, attributes := #[] }] 48 4 #[] #[{ accessFlags := 4120, nameIndex := 121, descriptorIndex := 122, attributes := #[] }])
  fields := #[{ name := "$assertionsDisabled", type := .boolean, accessFlags := 4120, slot := 0, constantValue := 0 }]
  methods := #[k10m0, k10m1, k10m2]
  instanceTypes := #[]
  staticTypes := #[.boolean]
  resolved := Array.replicate 395 none
  statics := none }

def pool11 : Array CpInfo := pool [(1, .methodref 2 3), (0, .class_ 4), (0, .nameAndType 5 6), (0, u "java/lang/Object"), (0, u "<init>"), (0, u "()V"), (0, .class_ 8), (0, u "java/lang/Record")] 13

def k11c0 : Code := { maxStack := 1, maxLocals := 1, code := jdk_30_method_1_code, exceptionTable := #[], attributes := #[] }
def k11m0 : Method := { name := "<init>", desc := "()V", sig := { parameters := [], returnType := none }, accessFlags := 4, code := some k11c0 }
/-- java/lang/Record -/
def k11 : Class := { plain "java/lang/Record" (some 0) with
  accessFlags := 1057
  interfaces := #[]
  cf := some (fileOf pool11 7 #[] #[{ accessFlags := 4, nameIndex := 5, descriptorIndex := 6, attributes := #[] }] 1057 2 #[] #[])
  fields := #[]
  methods := #[k11m0]
  instanceTypes := #[]
  staticTypes := #[]
  resolved := Array.replicate 22 none
  statics := none }

def pool12 : Array CpInfo := pool [(1, .methodref 2 3), (0, .class_ 4), (0, .nameAndType 5 6), (0, u "java/lang/Record"), (0, u "<init>"), (0, u "()V"), (0, .fieldref 8 9), (0, .class_ 10), (0, .nameAndType 11 12), (0, u "com/example/oref/oref/wikipedia/Page"), (0, u "title"), (0, u "Ljava/lang/String;"), (0, .fieldref 8 14), (0, .nameAndType 15 16), (0, u "namespace"), (0, u "I"), (0, .fieldref 8 18), (0, .nameAndType 19 20), (0, u "redirect"), (0, u "Ljava/util/Optional;"), (0, .fieldref 8 22), (0, .nameAndType 23 12), (0, u "text"), (0, .fieldref 8 25), (0, .nameAndType 26 16), (0, u "line"), (0, .methodref 28 29), (0, .class_ 30), (0, .nameAndType 31 32), (0, u "java/util/Optional"), (0, u "isEmpty"), (0, u "()Z"), (14, u "MAIN"), (2, u "(Ljava/lang/String;ILjava/util/Optional;Ljava/lang/String;I)V"), (4, u "isArticle")] 30

def k12c0 : Code := { maxStack := 2, maxLocals := 6, code := prog_30_method_1_code, exceptionTable := #[], attributes := #[] }
def k12m0 : Method := { name := "<init>", desc := "(Ljava/lang/String;ILjava/util/Optional;Ljava/lang/String;I)V", sig := { parameters := [(.object "java/lang/String"), .int, (.object "java/util/Optional"), (.object "java/lang/String"), .int], returnType := none }, accessFlags := 1, code := some k12c0 }
def k12c1 : Code := { maxStack := 1, maxLocals := 1, code := prog_30_method_2_code, exceptionTable := #[], attributes := #[] }
def k12m1 : Method := { name := "isArticle", desc := "()Z", sig := { parameters := [], returnType := some .boolean }, accessFlags := 1, code := some k12c1 }
/-- com/example/oref/oref/wikipedia/Page -/
def k12 : Class := { plain "com/example/oref/oref/wikipedia/Page" (some 11) with
  accessFlags := 49
  interfaces := #[]
  cf := some (fileOf pool12 8 #[] #[{ accessFlags := 1, nameIndex := 5, descriptorIndex := 50, attributes := #[] }, { accessFlags := 1, nameIndex := 55, descriptorIndex := 32, attributes := #[] }] 49 2 #[] #[{ accessFlags := 18, nameIndex := 11, descriptorIndex := 12, attributes := #[] }, { accessFlags := 18, nameIndex := 15, descriptorIndex := 16, attributes := #[] }, { accessFlags := 18, nameIndex := 19, descriptorIndex := 20, attributes := #[] }, { accessFlags := 18, nameIndex := 23, descriptorIndex := 12, attributes := #[] }, { accessFlags := 18, nameIndex := 26, descriptorIndex := 16, attributes := #[] }, { accessFlags := 25, nameIndex := 47, descriptorIndex := 16, attributes := #[] }])
  fields := #[{ name := "title", type := (.object "java/lang/String"), accessFlags := 18, slot := 0, constantValue := 0 }, { name := "namespace", type := .int, accessFlags := 18, slot := 1, constantValue := 0 }, { name := "redirect", type := (.object "java/util/Optional"), accessFlags := 18, slot := 2, constantValue := 0 }, { name := "text", type := (.object "java/lang/String"), accessFlags := 18, slot := 3, constantValue := 0 }, { name := "line", type := .int, accessFlags := 18, slot := 4, constantValue := 0 }, { name := "MAIN", type := .int, accessFlags := 25, slot := 0, constantValue := 0 }]
  methods := #[k12m0, k12m1]
  instanceTypes := #[(.object "java/lang/String"), .int, (.object "java/util/Optional"), (.object "java/lang/String"), .int]
  staticTypes := #[.int]
  resolved := Array.replicate 86 none
  statics := none }

def pool13 : Array CpInfo := pool [(6, .class_ 8), (1, u "java/lang/Object"), (0, u "<init>"), (0, u "()V"), (1, .class_ 14), (1, u "java/lang/StringUTF16"), (31, u "$assertionsDisabled"), (0, u "Z"), (13, u "HI_BYTE_SHIFT"), (0, u "I"), (2, u "LO_BYTE_SHIFT"), (49, .methodref 12 116), (0, .nameAndType 117 118), (0, u "compress"), (0, u "([CI[BII)I"), (3, u "([CII)[B"), (138, u "coderFromArrayLen"), (0, u "([BI)B"), (106, .class_ 371), (1, u "java/lang/StringUTF16$LinesSpliterator"), (58, u "MAX_LENGTH"), (196, .class_ 628), (0, u "java/lang/StringUTF16$CodePointsSpliterator"), (0, .class_ 630), (0, u "java/lang/StringUTF16$CharsSpliterator")] 4

def k13m0 : Method := { name := "<init>", desc := "()V", sig := { parameters := [], returnType := none }, accessFlags := 0, code := none }
def k13c1 : Code := { maxStack := 2, maxLocals := 2, code := jdk_52_method_15_code, exceptionTable := #[], attributes := #[] }
def k13m1 : Method := { name := "coderFromArrayLen", desc := "([BI)B", sig := { parameters := [(.array .byte), .int], returnType := some .byte }, accessFlags := 8, code := some k13c1 }
def k13c2 : Code := { maxStack := 5, maxLocals := 6, code := jdk_52_method_16_code, exceptionTable := #[], attributes := #[] }
def k13m2 : Method := { name := "compress", desc := "([CII)[B", sig := { parameters := [(.array .char), .int, .int], returnType := some (.array .byte) }, accessFlags := 9, code := some k13c2 }
def k13c3 : Code := { maxStack := 3, maxLocals := 7, code := jdk_52_method_21_code, exceptionTable := #[], attributes := #[] }
def k13m3 : Method := { name := "compress", desc := "([CI[BII)I", sig := { parameters := [(.array .char), .int, (.array .byte), .int, .int], returnType := some .int }, accessFlags := 9, code := some k13c3 }
/-- java/lang/StringUTF16 -/
def k13 : Class := { plain "java/lang/StringUTF16" (some 0) with
  accessFlags := 48
  interfaces := #[]
  cf := some (fileOf pool13 12 #[.nestMembers #[627, 629, 369]] #[{ accessFlags := 0, nameIndex := 9, descriptorIndex := 10, attributes := #[] }, { accessFlags := 8, nameIndex := 261, descriptorIndex := 262, attributes := #[] }, { accessFlags := 9, nameIndex := 117, descriptorIndex := 122, attributes := #[] }, { accessFlags := 9, nameIndex := 117, descriptorIndex := 118, attributes := #[] }] 48 6 #[] #[{ accessFlags := 26, nameIndex := 61, descriptorIndex := 62, attributes := #[] }, { accessFlags := 26, nameIndex := 65, descriptorIndex := 62, attributes := #[] }, { accessFlags := 24, nameIndex := 430, descriptorIndex := 62, attributes := #[] }, { accessFlags := 4120, nameIndex := 46, descriptorIndex := 47, attributes := #[] }])
  fields := #[{ name := "HI_BYTE_SHIFT", type := .int, accessFlags := 26, slot := 0, constantValue := 0 }, { name := "LO_BYTE_SHIFT", type := .int, accessFlags := 26, slot := 1, constantValue := 0 }, { name := "MAX_LENGTH", type := .int, accessFlags := 24, slot := 2, constantValue := 0 }, { name := "$assertionsDisabled", type := .boolean, accessFlags := 4120, slot := 3, constantValue := 0 }]
  methods := #[k13m0, k13m1, k13m2, k13m3]
  instanceTypes := #[]
  staticTypes := #[.int, .int, .int, .boolean]
  resolved := Array.replicate 635 none
  statics := none }

def pool14 : Array CpInfo := pool [(2, .class_ 4), (1, u "java/lang/Object"), (0, u "<init>"), (0, u "()V"), (17, .class_ 26), (1, u "jdk/internal/util/Preconditions"), (28, .class_ 56), (0, u "jdk/internal/util/Preconditions$4"), (57, .class_ 115), (0, u "jdk/internal/util/Preconditions$1"), (7, u "SIOOBE_FORMATTER"), (0, u "Ljava/util/function/BiFunction;"), (0, .class_ 126), (0, u "jdk/internal/util/Preconditions$2"), (3, u "AIOOBE_FORMATTER"), (0, .class_ 132), (0, u "jdk/internal/util/Preconditions$3"), (3, u "IOOBE_FORMATTER")] 57

def k14m0 : Method := { name := "<init>", desc := "()V", sig := { parameters := [], returnType := none }, accessFlags := 1, code := none }
/-- jdk/internal/util/Preconditions -/
def k14 : Class := { plain "jdk/internal/util/Preconditions" (some 0) with
  accessFlags := 33
  interfaces := #[]
  cf := some (fileOf pool14 24 #[.nestMembers #[55, 131, 125, 114]] #[{ accessFlags := 1, nameIndex := 5, descriptorIndex := 6, attributes := #[] }] 33 2 #[] #[{ accessFlags := 25, nameIndex := 123, descriptorIndex := 124, attributes := #[] }, { accessFlags := 25, nameIndex := 130, descriptorIndex := 124, attributes := #[] }, { accessFlags := 25, nameIndex := 136, descriptorIndex := 124, attributes := #[] }])
  fields := #[{ name := "SIOOBE_FORMATTER", type := (.object "java/util/function/BiFunction"), accessFlags := 25, slot := 0, constantValue := 0 }, { name := "AIOOBE_FORMATTER", type := (.object "java/util/function/BiFunction"), accessFlags := 25, slot := 1, constantValue := 0 }, { name := "IOOBE_FORMATTER", type := (.object "java/util/function/BiFunction"), accessFlags := 25, slot := 2, constantValue := 0 }]
  methods := #[k14m0]
  instanceTypes := #[]
  staticTypes := #[(.object "java/util/function/BiFunction"), (.object "java/util/function/BiFunction"), (.object "java/util/function/BiFunction")]
  resolved := Array.replicate 194 none
  statics := some 2 }

def pool15 : Array CpInfo := pool [(9, u "<init>"), (6, .class_ 18), (1, u "java/lang/Object"), (0, u "()V"), (1, .class_ 23), (1, u "jdk/internal/util/ArraysSupport"), (0, u "LOG2_ARRAY_LONG_INDEX_SCALE"), (0, u "I"), (2, u "U"), (0, u "Ljdk/internal/misc/Unsafe;"), (8, u "BIG_ENDIAN"), (0, u "Z"), (8, u "LOG2_BYTE_BIT_SIZE"), (4, u "LOG2_ARRAY_INT_INDEX_SCALE"), (54, u "JLA"), (0, u "Ljdk/internal/access/JavaLangAccess;"), (11, u "LOG2_ARRAY_BOOLEAN_INDEX_SCALE"), (9, u "LOG2_ARRAY_BYTE_INDEX_SCALE"), (5, u "LOG2_ARRAY_CHAR_INDEX_SCALE"), (5, u "LOG2_ARRAY_SHORT_INDEX_SCALE"), (18, u "LOG2_ARRAY_FLOAT_INDEX_SCALE"), (24, u "LOG2_ARRAY_DOUBLE_INDEX_SCALE"), (89, u "T_BOOLEAN"), (2, u "T_CHAR"), (1, u "T_FLOAT"), (1, u "T_DOUBLE"), (1, u "T_BYTE"), (1, u "T_SHORT"), (1, u "T_INT"), (1, u "T_LONG"), (1, u "SOFT_MAX_ARRAY_LENGTH")] 83

def k15m0 : Method := { name := "<init>", desc := "()V", sig := { parameters := [], returnType := none }, accessFlags := 2, code := none }
/-- jdk/internal/util/ArraysSupport -/
def k15 : Class := { plain "jdk/internal/util/ArraysSupport" (some 0) with
  accessFlags := 33
  interfaces := #[]
  cf := some (fileOf pool15 21 #[] #[{ accessFlags := 2, nameIndex := 9, descriptorIndex := 19, attributes := #[] }] 33 16 #[] #[{ accessFlags := 24, nameIndex := 28, descriptorIndex := 29, attributes := #[] }, { accessFlags := 26, nameIndex := 38, descriptorIndex := 39, attributes := #[] }, { accessFlags := 25, nameIndex := 121, descriptorIndex := 25, attributes := #[] }, { accessFlags := 25, nameIndex := 131, descriptorIndex := 25, attributes := #[] }, { accessFlags := 25, nameIndex := 137, descriptorIndex := 25, attributes := #[] }, { accessFlags := 25, nameIndex := 143, descriptorIndex := 25, attributes := #[] }, { accessFlags := 25, nameIndex := 53, descriptorIndex := 25, attributes := #[] }, { accessFlags := 25, nameIndex := 24, descriptorIndex := 25, attributes := #[] }, { accessFlags := 25, nameIndex := 162, descriptorIndex := 25, attributes := #[] }, { accessFlags := 25, nameIndex := 187, descriptorIndex := 25, attributes := #[] }, { accessFlags := 26, nameIndex := 48, descriptorIndex := 25, attributes := #[] }, { accessFlags := 25, nameIndex := 277, descriptorIndex := 25, attributes := #[] }, { accessFlags := 25, nameIndex := 280, descriptorIndex := 25, attributes := #[] }, { accessFlags := 25, nameIndex := 282, descriptorIndex := 25, attributes := #[] }, { accessFlags := 25, nameIndex := 284, descriptorIndex := 25, attributes := #[] }, { accessFlags := 25, nameIndex := 286, descriptorIndex := 25, attributes := #[] }, { accessFlags := 25, nameIndex := 288, descriptorIndex := 25, attributes := #[] }, { accessFlags := 25, nameIndex := 290, descriptorIndex := 25, attributes := #[] }, { accessFlags := 25, nameIndex := 292, descriptorIndex := 25, attributes := #[] }, { accessFlags := 26, nameIndex := 108, descriptorIndex := 109, attributes := #[] }, { accessFlags := 25, nameIndex := 294, descriptorIndex := 25, attributes := #[] }])
  fields := #[{ name := "U", type := (.object "jdk/internal/misc/Unsafe"), accessFlags := 24, slot := 0, constantValue := 0 }, { name := "BIG_ENDIAN", type := .boolean, accessFlags := 26, slot := 1, constantValue := 0 }, { name := "LOG2_ARRAY_BOOLEAN_INDEX_SCALE", type := .int, accessFlags := 25, slot := 2, constantValue := 0 }, { name := "LOG2_ARRAY_BYTE_INDEX_SCALE", type := .int, accessFlags := 25, slot := 3, constantValue := 0 }, { name := "LOG2_ARRAY_CHAR_INDEX_SCALE", type := .int, accessFlags := 25, slot := 4, constantValue := 0 }, { name := "LOG2_ARRAY_SHORT_INDEX_SCALE", type := .int, accessFlags := 25, slot := 5, constantValue := 0 }, { name := "LOG2_ARRAY_INT_INDEX_SCALE", type := .int, accessFlags := 25, slot := 6, constantValue := 0 }, { name := "LOG2_ARRAY_LONG_INDEX_SCALE", type := .int, accessFlags := 25, slot := 7, constantValue := 0 }, { name := "LOG2_ARRAY_FLOAT_INDEX_SCALE", type := .int, accessFlags := 25, slot := 8, constantValue := 0 }, { name := "LOG2_ARRAY_DOUBLE_INDEX_SCALE", type := .int, accessFlags := 25, slot := 9, constantValue := 0 }, { name := "LOG2_BYTE_BIT_SIZE", type := .int, accessFlags := 26, slot := 10, constantValue := 0 }, { name := "T_BOOLEAN", type := .int, accessFlags := 25, slot := 11, constantValue := 0 }, { name := "T_CHAR", type := .int, accessFlags := 25, slot := 12, constantValue := 0 }, { name := "T_FLOAT", type := .int, accessFlags := 25, slot := 13, constantValue := 0 }, { name := "T_DOUBLE", type := .int, accessFlags := 25, slot := 14, constantValue := 0 }, { name := "T_BYTE", type := .int, accessFlags := 25, slot := 15, constantValue := 0 }, { name := "T_SHORT", type := .int, accessFlags := 25, slot := 16, constantValue := 0 }, { name := "T_INT", type := .int, accessFlags := 25, slot := 17, constantValue := 0 }, { name := "T_LONG", type := .int, accessFlags := 25, slot := 18, constantValue := 0 }, { name := "JLA", type := (.object "jdk/internal/access/JavaLangAccess"), accessFlags := 26, slot := 19, constantValue := 0 }, { name := "SOFT_MAX_ARRAY_LENGTH", type := .int, accessFlags := 25, slot := 20, constantValue := 0 }]
  methods := #[k15m0]
  instanceTypes := #[]
  staticTypes := #[(.object "jdk/internal/misc/Unsafe"), .boolean, .int, .int, .int, .int, .int, .int, .int, .int, .int, .int, .int, .int, .int, .int, .int, .int, .int, (.object "jdk/internal/access/JavaLangAccess"), .int]
  resolved := Array.replicate 378 none
  statics := none }

def pool16 : Array CpInfo := pool [(1, u "java/lang/Cloneable"), (0, .class_ 1), (0, u "java/lang/Object"), (0, .class_ 3)] 3

/-- java/lang/Cloneable -/
def k16 : Class := { plain "java/lang/Cloneable" (some 0) with
  accessFlags := 1537
  interfaces := #[]
  cf := some (fileOf pool16 2 #[] #[] 1537 4 #[] #[])
  fields := #[]
  methods := #[]
  instanceTypes := #[]
  staticTypes := #[]
  resolved := Array.replicate 8 none
  statics := none }

/-- the primitive byte -/
def k17 : Class := { plain "byte" none with kind := .primitive 'B', accessFlags := 0x411 }
/-- [B -/
def k18 : Class := { plain "[B" (some 0) with kind := .array 17 .byte, interfaces := #[16, 2], accessFlags := 1041 }

/-- the primitive char -/
def k19 : Class := { plain "char" none with kind := .primitive 'C', accessFlags := 0x411 }
/-- [C -/
def k20 : Class := { plain "[C" (some 0) with kind := .array 19 .char, interfaces := #[16, 2], accessFlags := 1041 }

/-- the primitive int -/
def k21 : Class := { plain "int" none with kind := .primitive 'I', accessFlags := 0x411 }
/-- [I -/
def k22 : Class := { plain "[I" (some 0) with kind := .array 21 .int, interfaces := #[16, 2], accessFlags := 1041 }

def heap : Heap := #[{ cls := 7, slots := #[.long 0, .int 1, .null, .int 0, .null, .int 0, .int 0], vm := .statics 7 },
  { cls := 8, slots := #[.ref 3], vm := .statics 8 },
  { cls := 14, slots := #[.null, .null, .null], vm := .statics 14 },
  { cls := 8, slots := #[.null], vm := .none }]
def classes : Array Class := #[k0, k1, k2, k3, k4, k5, k6, k7, k8, k9, k10, k11, k12, k13, k14, k15, k16, k17, k18, k19, k20, k21, k22]
def interned : List (Array UInt16 × Addr) := []
def slotsUsed : Nat := 12
def theMethod : MethodId := ⟨1, 1⟩
def args0 : Array Value := #[.int 0, .int 4, .int 65, .int 3]
def aboutOver (below : List Frame) : State where
  vm := { classes := classes, interned := interned.toArray }
  heap := heap
  slotsUsed := slotsUsed
  threads := #[{ frames := .invoking theMethod args0 :: below }]
def below0 : List Frame := [.native { method := ⟨0, 0⟩, args := #[] }]
def about1 : State := aboutOver below0
def p0 : Program := .bare "" "" ""
def e0 : Env := launch0.env 0 0 0
theorem w_frames : about1.frames = Frame.invoking theMethod args0 :: below0 := rfl
set_option maxRecDepth 65536 in
theorem w_args : argsFit about1.vm theMethod args0 = true := by decide +kernel
set_option maxRecDepth 65536 in
theorem w_heap : heapFits about1 = true := by decide +kernel
set_option maxRecDepth 65536 in
theorem w_runnable : about1.curStatus? = some .runnable := by decide +kernel
set_option maxRecDepth 65536 in
theorem w_alone : about1.alone = true := by decide +kernel
set_option maxRecDepth 65536 in
theorem w_named : about1.methodNamed? x = some theMethod := by decide +kernel
set_option maxRecDepth 65536 in
theorem w_hears : about1.hears theMethod below0 = true := by decide +kernel
set_option maxRecDepth 65536 in
theorem w_ripe : about1.ripe theMethod args0 below0 = true := by decide +kernel
theorem w_running : about1.status = .running := rfl
set_option maxRecDepth 65536 in
theorem w_room : about1.hasRoom e0.platform room_1 = true :=
  launch0.hasRoom_least _ room_1 (by decide +kernel) (by decide +kernel) (by decide +kernel) (by decide +kernel) (by decide +kernel) (by decide +kernel)
theorem allAtoms_all (ts : List Jvm.Cond) (a : Array Jvm.Value) (st : Jvm.State) : (allAtoms ts).before a st = ts.all (fun c => c.before a st) := by
  induction ts with
  | nil => rfl
  | cons c t ih =>
    show (Jvm.Cond.and c (allAtoms t)).before a st = _
    rw [Jvm.Cond.before_and, ih, List.all_cons]
def words1 : List Jvm.Cond := Jvm.Cond.code x code maxLocals ret :: tables_1
/-- a 'code' word, met by the world's own term for the bytes: nothing is compared byte by byte -/
theorem code_word {y : MethodName} {bytes : ByteArray} {mx : Nat} {rt : Option FieldType} {a : Array Value} {s : State} {m : MethodId} {meth : Method} {c : Code} (h1 : s.methodNamed? y = some m) (h2 : s.vm.method? m = some meth) (h3 : meth.code = some c) (h4 : c.code = bytes)
    (h5 : (c.maxLocals == mx && c.exceptionTable.isEmpty && decide (c.maxStack ≤ mostOperands) && decide (meth.sig.returnType = rt) && !meth.locks && decide (parseMethodDescriptor y.desc = some meth.sig)) = true) : (Jvm.Cond.code y bytes mx rt).before a s = true := by
  simp only [Bool.and_eq_true, beq_iff_eq, Bool.not_eq_true', decide_eq_true_eq] at h5
  obtain ⟨⟨⟨⟨⟨g1, g2⟩, g3⟩, g4⟩, g5⟩, g6⟩ := h5
  simp [Cond.before, Cond.holds, Cond.value, h1, h2, h3, h4, g1, g2, g3, g4, g5, g6]
def isCode : Jvm.Cond → Bool
  | .code _ _ _ _ => true
  | _ => false
theorem all_split {L : List Jvm.Cond} {P : Jvm.Cond → Bool} (h1 : L.all (fun c => isCode c || P c) = true) (h2 : ∀ c ∈ L.filter isCode, P c = true) : L.all P = true := by
  refine List.all_eq_true.mpr fun c hc => ?_
  have h := List.all_eq_true.mp h1 c hc
  rcases Bool.eq_false_or_eq_true (isCode c) with hi | hi
  · exact h2 c (List.mem_filter.mpr ⟨hc, hi⟩)
  · simpa [hi] using h
set_option maxRecDepth 65536 in
theorem w_c0 : (Jvm.Cond.code x code maxLocals ret).before args0 about1 = true := code_word (m := ⟨1, 1⟩) (meth := k1m1) (c := k1c1) (by decide +kernel) rfl rfl rfl (by decide +kernel)
set_option maxRecDepth 65536 in
theorem w_c1 : (Jvm.Cond.code ({ cls := "java/lang/String", name := "<init>", desc := "([C)V" } : Jvm.MethodName) jdk_42_method_3_code (2 : Nat) (Option.none : Option Jvm.ClassFile.FieldType)).before args0 about1 = true := code_word (m := ⟨7, 1⟩) (meth := k7m1) (c := k7c1) (by decide +kernel) rfl rfl rfl (by decide +kernel)
set_option maxRecDepth 65536 in
theorem w_c2 : (Jvm.Cond.code ({ cls := "java/lang/String", name := "<init>", desc := "([CIILjava/lang/Void;)V" } : Jvm.MethodName) jdk_42_method_149_code (6 : Nat) (Option.none : Option Jvm.ClassFile.FieldType)).before args0 about1 = true := code_word (m := ⟨7, 3⟩) (meth := k7m3) (c := k7c3) (by decide +kernel) rfl rfl rfl (by decide +kernel)
set_option maxRecDepth 65536 in
theorem w_c3 : (Jvm.Cond.code ({ cls := "java/lang/Object", name := "<init>", desc := "()V" } : Jvm.MethodName) object_method_1_code (1 : Nat) (Option.none : Option Jvm.ClassFile.FieldType)).before args0 about1 = true := code_word (m := ⟨0, 0⟩) (meth := k0m0) (c := k0c0) (by decide +kernel) rfl rfl rfl (by decide +kernel)
set_option maxRecDepth 65536 in
theorem w_c4 : (Jvm.Cond.code ({ cls := "java/util/Optional", name := "of", desc := "(Ljava/lang/Object;)Ljava/util/Optional;" } : Jvm.MethodName) jdk_32_method_3_code (1 : Nat) (Option.some (Jvm.ClassFile.FieldType.object "java/util/Optional"))).before args0 about1 = true := code_word (m := ⟨8, 2⟩) (meth := k8m2) (c := k8c2) (by decide +kernel) rfl rfl rfl (by decide +kernel)
set_option maxRecDepth 65536 in
theorem w_c5 : (Jvm.Cond.code ({ cls := "java/util/Objects", name := "requireNonNull", desc := "(Ljava/lang/Object;)Ljava/lang/Object;" } : Jvm.MethodName) jdk_31_method_10_code (1 : Nat) (Option.some (Jvm.ClassFile.FieldType.object "java/lang/Object"))).before args0 about1 = true := code_word (m := ⟨9, 1⟩) (meth := k9m1) (c := k9c1) (by decide +kernel) rfl rfl rfl (by decide +kernel)
set_option maxRecDepth 65536 in
theorem w_c6 : (Jvm.Cond.code ({ cls := "java/util/Optional", name := "<init>", desc := "(Ljava/lang/Object;)V" } : Jvm.MethodName) jdk_32_method_2_code (2 : Nat) (Option.none : Option Jvm.ClassFile.FieldType)).before args0 about1 = true := code_word (m := ⟨8, 1⟩) (meth := k8m1) (c := k8c1) (by decide +kernel) rfl rfl rfl (by decide +kernel)
set_option maxRecDepth 65536 in
theorem w_c7 : (Jvm.Cond.code ({ cls := "java/lang/String", name := "valueOf", desc := "(C)Ljava/lang/String;" } : Jvm.MethodName) jdk_42_method_139_code (1 : Nat) (Option.some (Jvm.ClassFile.FieldType.object "java/lang/String"))).before args0 about1 = true := code_word (m := ⟨7, 2⟩) (meth := k7m2) (c := k7c2) (by decide +kernel) rfl rfl rfl (by decide +kernel)
set_option maxRecDepth 65536 in
theorem w_c8 : (Jvm.Cond.code ({ cls := "java/lang/StringLatin1", name := "canEncode", desc := "(C)Z" } : Jvm.MethodName) jdk_43_method_3_code (1 : Nat) (Option.some Jvm.ClassFile.FieldType.boolean)).before args0 about1 = true := code_word (m := ⟨10, 1⟩) (meth := k10m1) (c := k10c1) (by decide +kernel) rfl rfl rfl (by decide +kernel)
set_option maxRecDepth 65536 in
theorem w_c9 : (Jvm.Cond.code ({ cls := "java/lang/StringLatin1", name := "toBytes", desc := "(C)[B" } : Jvm.MethodName) jdk_43_method_46_code (1 : Nat) (Option.some (Jvm.ClassFile.FieldType.array Jvm.ClassFile.FieldType.byte))).before args0 about1 = true := code_word (m := ⟨10, 2⟩) (meth := k10m2) (c := k10c2) (by decide +kernel) rfl rfl rfl (by decide +kernel)
set_option maxRecDepth 65536 in
theorem w_c10 : (Jvm.Cond.code ({ cls := "java/lang/String", name := "<init>", desc := "([BB)V" } : Jvm.MethodName) jdk_42_method_151_code (3 : Nat) (Option.none : Option Jvm.ClassFile.FieldType)).before args0 about1 = true := code_word (m := ⟨7, 4⟩) (meth := k7m4) (c := k7c4) (by decide +kernel) rfl rfl rfl (by decide +kernel)
set_option maxRecDepth 65536 in
theorem w_c11 : (Jvm.Cond.code ({ cls := "com/example/oref/oref/wikipedia/Page", name := "<init>", desc := "(Ljava/lang/String;ILjava/util/Optional;Ljava/lang/String;I)V" } : Jvm.MethodName) prog_30_method_1_code (6 : Nat) (Option.none : Option Jvm.ClassFile.FieldType)).before args0 about1 = true := code_word (m := ⟨12, 0⟩) (meth := k12m0) (c := k12c0) (by decide +kernel) rfl rfl rfl (by decide +kernel)
set_option maxRecDepth 65536 in
theorem w_c12 : (Jvm.Cond.code ({ cls := "java/lang/Record", name := "<init>", desc := "()V" } : Jvm.MethodName) jdk_30_method_1_code (1 : Nat) (Option.none : Option Jvm.ClassFile.FieldType)).before args0 about1 = true := code_word (m := ⟨11, 0⟩) (meth := k11m0) (c := k11c0) (by decide +kernel) rfl rfl rfl (by decide +kernel)
set_option maxRecDepth 65536 in
theorem w_c13 : (Jvm.Cond.code ({ cls := "com/example/oref/oref/wikipedia/Page", name := "isArticle", desc := "()Z" } : Jvm.MethodName) prog_30_method_2_code (1 : Nat) (Option.some Jvm.ClassFile.FieldType.boolean)).before args0 about1 = true := code_word (m := ⟨12, 1⟩) (meth := k12m1) (c := k12c1) (by decide +kernel) rfl rfl rfl (by decide +kernel)
set_option maxRecDepth 65536 in
theorem w_c14 : (Jvm.Cond.code ({ cls := "java/util/Optional", name := "isEmpty", desc := "()Z" } : Jvm.MethodName) jdk_32_method_7_code (1 : Nat) (Option.some Jvm.ClassFile.FieldType.boolean)).before args0 about1 = true := code_word (m := ⟨8, 3⟩) (meth := k8m3) (c := k8c3) (by decide +kernel) rfl rfl rfl (by decide +kernel)
set_option maxRecDepth 65536 in
theorem w_c15 : (Jvm.Cond.code ({ cls := "java/lang/StringUTF16", name := "compress", desc := "([CII)[B" } : Jvm.MethodName) jdk_52_method_16_code (6 : Nat) (Option.some (Jvm.ClassFile.FieldType.array Jvm.ClassFile.FieldType.byte))).before args0 about1 = true := code_word (m := ⟨13, 2⟩) (meth := k13m2) (c := k13c2) (by decide +kernel) rfl rfl rfl (by decide +kernel)
set_option maxRecDepth 65536 in
theorem w_c16 : (Jvm.Cond.code ({ cls := "java/lang/StringUTF16", name := "compress", desc := "([CI[BII)I" } : Jvm.MethodName) jdk_52_method_21_code (7 : Nat) (Option.some Jvm.ClassFile.FieldType.int)).before args0 about1 = true := code_word (m := ⟨13, 3⟩) (meth := k13m3) (c := k13c3) (by decide +kernel) rfl rfl rfl (by decide +kernel)
set_option maxRecDepth 65536 in
theorem w_c17 : (Jvm.Cond.code ({ cls := "java/lang/StringUTF16", name := "coderFromArrayLen", desc := "([BI)B" } : Jvm.MethodName) jdk_52_method_15_code (2 : Nat) (Option.some Jvm.ClassFile.FieldType.byte)).before args0 about1 = true := code_word (m := ⟨13, 1⟩) (meth := k13m1) (c := k13c1) (by decide +kernel) rfl rfl rfl (by decide +kernel)
set_option maxRecDepth 65536 in
theorem w_c18 : (Jvm.Cond.code ({ cls := "java/util/Optional", name := "empty", desc := "()Ljava/util/Optional;" } : Jvm.MethodName) jdk_32_method_1_code (1 : Nat) (Option.some (Jvm.ClassFile.FieldType.object "java/util/Optional"))).before args0 about1 = true := code_word (m := ⟨8, 0⟩) (meth := k8m0) (c := k8c0) (by decide +kernel) rfl rfl rfl (by decide +kernel)
def codes1 : List Jvm.Cond := [Jvm.Cond.code x code maxLocals ret, Jvm.Cond.code ({ cls := "java/lang/String", name := "<init>", desc := "([C)V" } : Jvm.MethodName) jdk_42_method_3_code (2 : Nat) (Option.none : Option Jvm.ClassFile.FieldType), Jvm.Cond.code ({ cls := "java/lang/String", name := "<init>", desc := "([CIILjava/lang/Void;)V" } : Jvm.MethodName) jdk_42_method_149_code (6 : Nat) (Option.none : Option Jvm.ClassFile.FieldType), Jvm.Cond.code ({ cls := "java/lang/Object", name := "<init>", desc := "()V" } : Jvm.MethodName) object_method_1_code (1 : Nat) (Option.none : Option Jvm.ClassFile.FieldType), Jvm.Cond.code ({ cls := "java/util/Optional", name := "of", desc := "(Ljava/lang/Object;)Ljava/util/Optional;" } : Jvm.MethodName) jdk_32_method_3_code (1 : Nat) (Option.some (Jvm.ClassFile.FieldType.object "java/util/Optional")), Jvm.Cond.code ({ cls := "java/util/Objects", name := "requireNonNull", desc := "(Ljava/lang/Object;)Ljava/lang/Object;" } : Jvm.MethodName) jdk_31_method_10_code (1 : Nat) (Option.some (Jvm.ClassFile.FieldType.object "java/lang/Object")), Jvm.Cond.code ({ cls := "java/util/Optional", name := "<init>", desc := "(Ljava/lang/Object;)V" } : Jvm.MethodName) jdk_32_method_2_code (2 : Nat) (Option.none : Option Jvm.ClassFile.FieldType), Jvm.Cond.code ({ cls := "java/lang/String", name := "valueOf", desc := "(C)Ljava/lang/String;" } : Jvm.MethodName) jdk_42_method_139_code (1 : Nat) (Option.some (Jvm.ClassFile.FieldType.object "java/lang/String")), Jvm.Cond.code ({ cls := "java/lang/StringLatin1", name := "canEncode", desc := "(C)Z" } : Jvm.MethodName) jdk_43_method_3_code (1 : Nat) (Option.some Jvm.ClassFile.FieldType.boolean), Jvm.Cond.code ({ cls := "java/lang/StringLatin1", name := "toBytes", desc := "(C)[B" } : Jvm.MethodName) jdk_43_method_46_code (1 : Nat) (Option.some (Jvm.ClassFile.FieldType.array Jvm.ClassFile.FieldType.byte)), Jvm.Cond.code ({ cls := "java/lang/String", name := "<init>", desc := "([BB)V" } : Jvm.MethodName) jdk_42_method_151_code (3 : Nat) (Option.none : Option Jvm.ClassFile.FieldType), Jvm.Cond.code ({ cls := "com/example/oref/oref/wikipedia/Page", name := "<init>", desc := "(Ljava/lang/String;ILjava/util/Optional;Ljava/lang/String;I)V" } : Jvm.MethodName) prog_30_method_1_code (6 : Nat) (Option.none : Option Jvm.ClassFile.FieldType), Jvm.Cond.code ({ cls := "java/lang/Record", name := "<init>", desc := "()V" } : Jvm.MethodName) jdk_30_method_1_code (1 : Nat) (Option.none : Option Jvm.ClassFile.FieldType), Jvm.Cond.code ({ cls := "com/example/oref/oref/wikipedia/Page", name := "isArticle", desc := "()Z" } : Jvm.MethodName) prog_30_method_2_code (1 : Nat) (Option.some Jvm.ClassFile.FieldType.boolean), Jvm.Cond.code ({ cls := "java/util/Optional", name := "isEmpty", desc := "()Z" } : Jvm.MethodName) jdk_32_method_7_code (1 : Nat) (Option.some Jvm.ClassFile.FieldType.boolean), Jvm.Cond.code ({ cls := "java/lang/StringUTF16", name := "compress", desc := "([CII)[B" } : Jvm.MethodName) jdk_52_method_16_code (6 : Nat) (Option.some (Jvm.ClassFile.FieldType.array Jvm.ClassFile.FieldType.byte)), Jvm.Cond.code ({ cls := "java/lang/StringUTF16", name := "compress", desc := "([CI[BII)I" } : Jvm.MethodName) jdk_52_method_21_code (7 : Nat) (Option.some Jvm.ClassFile.FieldType.int), Jvm.Cond.code ({ cls := "java/lang/StringUTF16", name := "coderFromArrayLen", desc := "([BI)B" } : Jvm.MethodName) jdk_52_method_15_code (2 : Nat) (Option.some Jvm.ClassFile.FieldType.byte), Jvm.Cond.code ({ cls := "java/util/Optional", name := "empty", desc := "()Ljava/util/Optional;" } : Jvm.MethodName) jdk_32_method_1_code (1 : Nat) (Option.some (Jvm.ClassFile.FieldType.object "java/util/Optional"))]
set_option maxRecDepth 65536 in
theorem codes_eq : words1.filter isCode = codes1 := rfl
theorem w_codes : ∀ c ∈ words1.filter isCode, c.before args0 about1 = true := by
  rw [codes_eq]
  intro c hc
  simp only [codes1, List.mem_cons, List.not_mem_nil, or_false] at hc
  rcases hc with rfl | rfl | rfl | rfl | rfl | rfl | rfl | rfl | rfl | rfl | rfl | rfl | rfl | rfl | rfl | rfl | rfl | rfl | rfl
  · exact w_c0
  · exact w_c1
  · exact w_c2
  · exact w_c3
  · exact w_c4
  · exact w_c5
  · exact w_c6
  · exact w_c7
  · exact w_c8
  · exact w_c9
  · exact w_c10
  · exact w_c11
  · exact w_c12
  · exact w_c13
  · exact w_c14
  · exact w_c15
  · exact w_c16
  · exact w_c17
  · exact w_c18
set_option maxRecDepth 65536 in
theorem w_t1 : (words1.take 24).all (fun c => isCode c || c.before args0 about1) = true := by decide +kernel
set_option maxRecDepth 65536 in
theorem w_t2 : ((words1.drop 24).take 24).all (fun c => isCode c || c.before args0 about1) = true := by decide +kernel
set_option maxRecDepth 65536 in
theorem w_t3 : (((words1.drop 24).drop 24).take 24).all (fun c => isCode c || c.before args0 about1) = true := by decide +kernel
set_option maxRecDepth 65536 in
theorem w_t4 : ((((words1.drop 24).drop 24).drop 24).take 24).all (fun c => isCode c || c.before args0 about1) = true := by decide +kernel
set_option maxRecDepth 65536 in
theorem w_t5 : ((((words1.drop 24).drop 24).drop 24).drop 24).all (fun c => isCode c || c.before args0 about1) = true := by decide +kernel
theorem w_tables : (allAtoms (Jvm.Cond.code x code maxLocals ret :: tables_1)).before args0 about1 = true := by
  rw [allAtoms_all]
  show words1.all (fun c => c.before args0 about1) = true
  refine all_split ?_ w_codes
  rw [← List.take_append_drop 24 words1, List.all_append, w_t1, ← List.take_append_drop 24 (words1.drop 24), List.all_append, w_t2, ← List.take_append_drop 24 ((words1.drop 24).drop 24), List.all_append, w_t3, ← List.take_append_drop 24 (((words1.drop 24).drop 24).drop 24), List.all_append, w_t4, w_t5]
  rfl
set_option maxRecDepth 65536 in
theorem w_rest : rest_1_c.before args0 about1 = true := by decide +kernel
set_option maxRecDepth 65536 in
theorem w_case : (Jvm.Cond.and given_1 narrow_1).before args0 about1 = true := by decide +kernel
set_option maxRecDepth 65536 in
theorem w_consts : constsHeld consts_1 about1 := Jvm.Lit.constsHeldB_iff.mp (by decide +kernel)
theorem w_applies : (headSpec (Jvm.Cond.code x code maxLocals ret :: tables_1) room_1).applies x e0.platform about1 = true :=
  (Spec.applies_iff w_frames).mpr ⟨w_running, w_runnable, w_alone, w_named, w_hears, w_ripe, w_room, w_tables⟩
theorem atStart : AtStart classFile x code maxLocals ret World_1 tables_1 room_1 Calls_1 rest_1 Pre_1 launch0 p0 e0 about1 theMethod args0 below0 :=
  ⟨lists_1, trivial, launch0.admits_env _ _ _, launch0.least_env, fairChoices_fair.cas, fairChoices_fair.clock, w_frames, w_args, w_heap, w_applies, ⟨w_consts, trivial⟩, w_rest, w_case⟩
end start1
theorem witness_1 : WitnessClaimed_1 := ⟨start1.p0, start1.e0, start1.about1, start1.theMethod, start1.args0, start1.below0, start1.atStart⟩
end Jvm.Pilot.@@N@@
