import JvmDerived
import JvmDerived.Pilot.@@N@@Statement
import JvmDerived.Pilot.@@N@@Code
set_option linter.unusedVariables false
set_option linter.unusedSimpArgs false
@@BLOCK:TracedD.lean.txt@@
/- laws to paste: Road.backV (cut by pick.py; bodies as the Statement names them) -/
namespace Jvm.Pilot.@@N@@
namespace StrChars
open Jvm Sem ClassFile Op Lib Jvm.Stand Jvm.Free.XT Jvm.Free.ALB Jvm.Free.JM Jvm.Free
open Jvm.Lib.Cold (StaticIs)
/-- a char array whose places are chars -/
def Ch (a : Addr) (A : Cell) (U : State) : Prop := Arr .char a A U ∧ Typed .char A
theorem Ch.mv {a : Addr} {A : Cell} {U U' : State} (h : Ch a A U) (hal : U.vm.Alike U'.vm) (hh : U'.heap = U.heap) : Ch a A U' := ⟨h.1.mv hal hh, h.2⟩
theorem Ch.keep {a : Addr} {A : Cell} {U U' : State} (h : Ch a A U) (hal : U.vm.Alike U'.vm) (hk : U'.heap[a]? = some A) : Ch a A U' := ⟨h.1.keep hal hk, h.2⟩
/-- what place i of a char[]'s cell holds -/
def cv (A : Cell) (i : Nat) : Int32 := match A.slots[i]? with | some (.int x) => x | _ => 0
theorem Ch.get {a : Addr} {A : Cell} {U : State} (h : Ch a A U) {i : Nat} (hi : i < A.slots.size) : A.slots[i]? = some (.int (cv A i)) := by
  have e := Array.getElem?_eq_getElem hi
  have f := h.2 i _ e
  unfold cv; rw [e]
  generalize A.slots[i] = v at f
  cases v <;> simp [fits] at f ⊢
/-- the byte that i2b leaves of a char -/
def lo8 (x : Int32) : Int32 := x.toInt8.toInt32
theorem fits_lo8 (y : Int32) : fits .byte (.int (lo8 y)) = true := by
  have h1 := y.toInt8.le_toInt
  have h2 := y.toInt8.toInt_lt
  simp only [lo8, fits, Bool.and_eq_true, decide_eq_true_eq, Int32.le_iff_toInt_le, Int8.toInt_toInt32, show (-128 : Int32).toInt = -128 from by decide, show (127 : Int32).toInt = 127 from by decide]
  omega
/-- A' is A but that each place j of lo .. hi - 1 holds f j -/
def Laid (A A' : Cell) (lo hi : Nat) (f : Nat → Value) : Prop := A'.cls = A.cls ∧ A'.vm = A.vm ∧ A'.slots.size = A.slots.size ∧ ∀ i, A'.slots[i]? = if lo ≤ i ∧ i < hi then some (f i) else A.slots[i]?
theorem Laid.zero (A : Cell) (lo : Nat) (f : Nat → Value) : Laid A A lo (lo + 0) f := ⟨rfl, rfl, rfl, fun i => by rw [if_neg (by omega)]⟩
theorem Laid.step {A Ak : Cell} {lo k : Nat} {f : Nat → Value} {v : Value} (h : Laid A Ak lo k f) (hlo : lo ≤ k) (hk : k < Ak.slots.size) (hv : v = f k) : Laid A (Ak.setSlot k v) lo (k + 1) f := by
  refine ⟨h.1, h.2.1, by simpa [Cell.setSlot] using h.2.2.1, fun i => ?_⟩
  by_cases e : k = i
  · subst e; rw [Cell.slots_setSlot_self v hk, if_pos (by omega), hv]
  · rw [Cell.slots_setSlot_ne v e, h.2.2.2 i]
    by_cases q : lo ≤ i ∧ i < k
    · rw [if_pos q, if_pos (by omega)]
    · rw [if_neg q, if_neg (by omega)]
def U16 : String := "java/lang/StringUTF16"
namespace Cmp5
def yN : MethodName := ⟨"java/lang/StringUTF16", "compress", "([CI[BII)I"⟩
abbrev yB : ByteArray := jdk_52_method_21_code
theorem d0 : decode yB 0 = .ok (.iconst 0, 1) := by decide +kernel
theorem d1 : decode yB 1 = .ok (.istore 5, 2) := by decide +kernel
theorem d3 : decode yB 3 = .ok (.iload 5, 2) := by decide +kernel
theorem d5 : decode yB 5 = .ok (.iload 4, 2) := by decide +kernel
theorem d7 : decode yB 7 = .ok (.if_icmp (.ge) 37, 3) := by decide +kernel
theorem d10 : decode yB 10 = .ok (.aload_n 0, 1) := by decide +kernel
theorem d11 : decode yB 11 = .ok (.iload_n 1, 1) := by decide +kernel
theorem d12 : decode yB 12 = .ok (.caload, 1) := by decide +kernel
theorem d13 : decode yB 13 = .ok (.istore 6, 2) := by decide +kernel
theorem d15 : decode yB 15 = .ok (.iload 6, 2) := by decide +kernel
theorem d17 : decode yB 17 = .ok (.sipush 255, 3) := by decide +kernel
theorem d20 : decode yB 20 = .ok (.if_icmp (.le) 6, 3) := by decide +kernel
theorem d26 : decode yB 26 = .ok (.aload_n 2, 1) := by decide +kernel
theorem d27 : decode yB 27 = .ok (.iload_n 3, 1) := by decide +kernel
theorem d28 : decode yB 28 = .ok (.iload 6, 2) := by decide +kernel
theorem d30 : decode yB 30 = .ok (.i2b, 1) := by decide +kernel
theorem d31 : decode yB 31 = .ok (.bastore, 1) := by decide +kernel
theorem d32 : decode yB 32 = .ok (.iinc 1 1, 3) := by decide +kernel
theorem d35 : decode yB 35 = .ok (.iinc 3 1, 3) := by decide +kernel
theorem d38 : decode yB 38 = .ok (.iinc 5 1, 3) := by decide +kernel
theorem d41 : decode yB 41 = .ok (.goto (-38), 3) := by decide +kernel
theorem d44 : decode yB 44 = .ok (.iload 4, 2) := by decide +kernel
theorem d46 : decode yB 46 = .ok (.ireturn, 1) := by decide +kernel
def site : List Cond := []
def tab : Cond := tabOf yN yB 7 (some .int) site
def P (b : Addr) (A : Cell) (d : Addr) (B : Cell) (o q len : Nat) (args : Array Value) (s : State) : Prop := args = #[.ref b, .int (Int32.ofNat o), .ref d, .int (Int32.ofNat q), .int (Int32.ofNat len)] ∧ Ch b A s ∧ Arr .byte d B s ∧ b ≠ d ∧ o + len ≤ A.slots.size ∧ q + len ≤ B.slots.size ∧ ∀ i, i < len → ¬ 255 < cv A (o + i)
def E (b : Addr) (A : Cell) (d : Addr) (B : Cell) (o q len : Nat) (r : Option Value) (s u : State) : Prop := r = some (.int (Int32.ofNat len)) ∧ ∃ B', Put d B' s u ∧ Laid B B' q (q + len) (fun j => Value.int (lo8 (cv A (o + (j - q)))))
/-- no char of the range above 255: len; the places written hold each char's low byte -/
theorem law (l : Launch) (b : Addr) (A : Cell) (d : Addr) (B : Cell) (o q len : Nat) : Law l yN 5 5 0 0 yB 7 (some .int) site (P b A d B o q len) (E b A d B o q len) (copyLocs d q len) 0 0 := by
  refine Law.of_walk (plainFor_of_name (by decide +kernel)) (by decide +kernel) (by decide +kernel) (by decide) (fun _ _ h => by rw [h.1]; rfl) (fun _ U U' hal hh h => ⟨h.1, h.2.1.mv hal hh, h.2.2.1.mv hal hh, h.2.2.2⟩) (fun r U U' V V' h1 hal h2 h => ⟨h.1, h.2.elim fun B' q => ⟨B', q.1.mv h1 h2, q.2⟩⟩) ?_
  intro p e s m args below meth c s₁ X0 hexec hbytes hml hret hlk hnm hown hh0 W hP
  obtain ⟨rfl, hA, hB, hne, l1, l2, hp⟩ := hP
  have c1 : Steps p.tables e below (s₁.setTop (entryFrame m #[.ref b, .int (Int32.ofNat o), .ref d, .int (Int32.ofNat q), .int (Int32.ofNat len)] 7)) (s₁.setTop (mkF m 0 #[.val (.ref b), .val (.int (Int32.ofNat o)), .val (.ref d), .val (.int (Int32.ofNat q)), .val (.int (Int32.ofNat len)), .unset, .unset] [])) := entry rfl
  have hA0 := hA.1.mv X0.warmed.alike hh0
  have hB0 := hB.mv X0.warmed.alike hh0
  have a31 := hA.1.2.2.2
  have c2 : Steps p.tables e below (s₁.setTop (entryFrame m #[.ref b, .int (Int32.ofNat o), .ref d, .int (Int32.ofNat q), .int (Int32.ofNat len)] 7)) (s₁.setTop (mkF m 3 #[.val (.ref b), .val (.int (Int32.ofNat o)), .val (.ref d), .val (.int (Int32.ofNat q)), .val (.int (Int32.ofNat len)), .val (.int 0), .unset] [])) := c1.trans (by
    refine iconstV X0.here hexec rfl 0 (hb hbytes d0) (by decide) ?_
    refine XS.istore X0.here hexec rfl (hb hbytes d1) rfl rfl ?_
    exact Steps.refl _)
  have loop : ∀ (r i : Nat), i + r = len → ∀ (z : Slot), (z = .unset ∨ ∃ w, z = .val w ∧ w.category = 1) → ∀ (Tl : State) (Bk : Cell), Stand p l e { frames := 0, locals := 0, cells := 0, slots := 0 } s m #[.ref b, .int (Int32.ofNat o), .ref d, .int (Int32.ofNat q), .int (Int32.ofNat len)] below meth c Tl ([] ++ copyLocs d q i) 0 0 → Put d Bk s₁ Tl → Laid B Bk q (q + i) (fun j => Value.int (lo8 (cv A (o + (j - q))))) →
      Steps p.tables e below (s₁.setTop (entryFrame m #[.ref b, .int (Int32.ofNat o), .ref d, .int (Int32.ofNat q), .int (Int32.ofNat len)] 7)) (Tl.setTop (mkF m 3 #[.val (.ref b), .val (.int (Int32.ofNat (o + i))), .val (.ref d), .val (.int (Int32.ofNat (q + i))), .val (.int (Int32.ofNat len)), .val (.int (Int32.ofNat i)), z] [])) → ∃ (T' : State) (B' : Cell) (z' : Slot), Stand p l e { frames := 0, locals := 0, cells := 0, slots := 0 } s m #[.ref b, .int (Int32.ofNat o), .ref d, .int (Int32.ofNat q), .int (Int32.ofNat len)] below meth c T' ([] ++ copyLocs d q len) 0 0 ∧ Put d B' s₁ T' ∧ Laid B B' q (q + len) (fun j => Value.int (lo8 (cv A (o + (j - q))))) ∧
      Steps p.tables e below (s₁.setTop (entryFrame m #[.ref b, .int (Int32.ofNat o), .ref d, .int (Int32.ofNat q), .int (Int32.ofNat len)] 7)) (T'.setTop (mkF m 3 #[.val (.ref b), .val (.int (Int32.ofNat (o + len))), .val (.ref d), .val (.int (Int32.ofNat (q + len))), .val (.int (Int32.ofNat len)), .val (.int (Int32.ofNat len)), z'] [])) := by
    intro r
    induction r with
    | zero =>
      intro i hi z hz Tl Bk Xl pl fl cl
      have hil : i = len := by omega
      rw [hil] at Xl fl cl
      exact ⟨Tl, Bk, z, Xl, pl, fl, cl⟩
    | succ r ih =>
      intro i hi z hz Tl Bk Xl pl fl cl
      have all := X0.warmed.alike.symm.trans Xl.warmed.alike
      have hAl := hA0.keep all (pl.other hne hA0.1)
      have hBk := hB0.like all pl.1 fl.1 fl.2.1 fl.2.2.1
      have hlt : q + i < Bk.slots.size := by rw [fl.2.2.1]; omega
      have c3 : Steps p.tables e below (s₁.setTop (entryFrame m #[.ref b, .int (Int32.ofNat o), .ref d, .int (Int32.ofNat q), .int (Int32.ofNat len)] 7)) (Tl.setTop (mkF m 12 #[.val (.ref b), .val (.int (Int32.ofNat (o + i))), .val (.ref d), .val (.int (Int32.ofNat (q + i))), .val (.int (Int32.ofNat len)), .val (.int (Int32.ofNat i)), z] [.int (Int32.ofNat (o + i)), .ref b])) := cl.trans (by
        refine XS.iload Xl.here hexec rfl (hb hbytes d3) rfl ?_
        refine XS.iload Xl.here hexec rfl (hb hbytes d5) rfl ?_
        refine XS.icmpNo Xl.here hexec rfl (hb hbytes d7) rfl (ii_ge_f (lt32 (by omega) (by omega))) ?_
        refine XS.aloadN Xl.here hexec rfl (hb hbytes d10) rfl rfl ?_
        refine XS.iloadN Xl.here hexec rfl (hb hbytes d11) rfl ?_
        exact Steps.refl _)
      have c4 : Steps p.tables e below (s₁.setTop (entryFrame m #[.ref b, .int (Int32.ofNat o), .ref d, .int (Int32.ofNat q), .int (Int32.ofNat len)] 7)) (Tl.setTop (mkF m 13 #[.val (.ref b), .val (.int (Int32.ofNat (o + i))), .val (.ref d), .val (.int (Int32.ofNat (q + i))), .val (.int (Int32.ofNat len)), .val (.int (Int32.ofNat i)), z] [.int (cv A (o + i))])) := c3.trans (by
        refine Xl.aget hexec hAl rfl (hA.get (i := o + i) (by omega)) rfl rfl (hb hbytes d12) ?_
        exact Steps.refl _)
      have c5 : Steps p.tables e below (s₁.setTop (entryFrame m #[.ref b, .int (Int32.ofNat o), .ref d, .int (Int32.ofNat q), .int (Int32.ofNat len)] 7)) (Tl.setTop (mkF m 15 #[.val (.ref b), .val (.int (Int32.ofNat (o + i))), .val (.ref d), .val (.int (Int32.ofNat (q + i))), .val (.int (Int32.ofNat len)), .val (.int (Int32.ofNat i)), .val (.int (cv A (o + i)))] [])) := c4.trans (by
        refine XS.istoreS Xl.here hexec rfl (hb hbytes d13) rfl rfl hz ?_
        exact Steps.refl _)
      have c6 : Steps p.tables e below (s₁.setTop (entryFrame m #[.ref b, .int (Int32.ofNat o), .ref d, .int (Int32.ofNat q), .int (Int32.ofNat len)] 7)) (Tl.setTop (mkF m 31 #[.val (.ref b), .val (.int (Int32.ofNat (o + i))), .val (.ref d), .val (.int (Int32.ofNat (q + i))), .val (.int (Int32.ofNat len)), .val (.int (Int32.ofNat i)), .val (.int (cv A (o + i)))] [.int (lo8 (cv A (o + i))), .int (Int32.ofNat (q + i)), .ref d])) := c5.trans (by
        refine XS.iload Xl.here hexec rfl (hb hbytes d15) rfl ?_
        refine sipushV Xl.here hexec rfl 255 (hb hbytes d17) (by decide) ?_
        refine XS.icmpYes Xl.here hexec rfl (pc0 := 20) rfl (hb hbytes d20) rfl (ii_le_t (hp i (by omega))) (by decide) rfl ?_
        refine XS.aloadN Xl.here hexec rfl (hb hbytes d26) rfl rfl ?_
        refine XS.iloadN Xl.here hexec rfl (hb hbytes d27) rfl ?_
        refine XS.iload Xl.here hexec rfl (hb hbytes d28) rfl ?_
        refine i2b Xl.here hexec rfl (hb hbytes d30) rfl ?_
        exact Steps.refl _)
      obtain ⟨T7, X7, p7, st7⟩ := Xl.aput hexec hBk rfl hlt rfl (fits_lo8 (cv A (o + i))) (g := (mkF m 31 #[.val (.ref b), .val (.int (Int32.ofNat (o + i))), .val (.ref d), .val (.int (Int32.ofNat (q + i))), .val (.int (Int32.ofNat len)), .val (.int (Int32.ofNat i)), .val (.int (cv A (o + i)))] [.int (lo8 (cv A (o + i))), .int (Int32.ofNat (q + i)), .ref d])) rfl (rest := []) rfl (hb hbytes d31)
      have c8 : Steps p.tables e below (s₁.setTop (entryFrame m #[.ref b, .int (Int32.ofNat o), .ref d, .int (Int32.ofNat q), .int (Int32.ofNat len)] 7)) (T7.setTop (mkF m 32 #[.val (.ref b), .val (.int (Int32.ofNat (o + i))), .val (.ref d), .val (.int (Int32.ofNat (q + i))), .val (.int (Int32.ofNat len)), .val (.int (Int32.ofNat i)), .val (.int (cv A (o + i)))] [])) := c6.trans (st7 _ (Steps.refl _))
      have c9 : Steps p.tables e below (s₁.setTop (entryFrame m #[.ref b, .int (Int32.ofNat o), .ref d, .int (Int32.ofNat q), .int (Int32.ofNat len)] 7)) (T7.setTop (mkF m 3 #[.val (.ref b), .val (.int (Int32.ofNat (o + i) + 1)), .val (.ref d), .val (.int (Int32.ofNat (q + i) + 1)), .val (.int (Int32.ofNat len)), .val (.int (Int32.ofNat i + 1)), .val (.int (cv A (o + i)))] [])) := c8.trans (by
        refine iincV X7.here hexec rfl 1 (hb hbytes d32) (by decide) rfl rfl ?_
        refine iincV X7.here hexec rfl 1 (hb hbytes d35) (by decide) rfl rfl ?_
        refine iincV X7.here hexec rfl 1 (hb hbytes d38) (by decide) rfl rfl ?_
        refine XS.goto X7.here hexec rfl (pc0 := 41) rfl (hb hbytes d41) (by decide) rfl ?_
        exact Steps.refl _)
      have c10 : Steps p.tables e below (s₁.setTop (entryFrame m #[.ref b, .int (Int32.ofNat o), .ref d, .int (Int32.ofNat q), .int (Int32.ofNat len)] 7)) (T7.setTop (mkF m 3 #[.val (.ref b), .val (.int (Int32.ofNat (o + (i + 1)))), .val (.ref d), .val (.int (Int32.ofNat (q + (i + 1)))), .val (.int (Int32.ofNat len)), .val (.int (Int32.ofNat (i + 1))), .val (.int (cv A (o + i)))] [])) := by
        have := c9
        rw [succ32, succ32, succ32] at this
        exact this
      exact ih (i + 1) (by omega) _ (Or.inr ⟨_, rfl, rfl⟩) T7 _ (by rw [copyLocs_step, ← List.append_assoc]; exact X7) (pl.trans p7) (fl.step (by omega) hlt (by simp)) c10
  obtain ⟨T9, B9, z9, X9, p9, f9, g9⟩ := loop len 0 (by omega) .unset (Or.inl rfl) s₁ B (by simpa [copyLocs] using X0) ⟨hB0.1, fun _ _ => rfl, rfl⟩ (Laid.zero _ _ _) c2
  have c11 : Steps p.tables e below (s₁.setTop (entryFrame m #[.ref b, .int (Int32.ofNat o), .ref d, .int (Int32.ofNat q), .int (Int32.ofNat len)] 7)) (T9.setTop (mkF m 46 #[.val (.ref b), .val (.int (Int32.ofNat (o + len))), .val (.ref d), .val (.int (Int32.ofNat (q + len))), .val (.int (Int32.ofNat len)), .val (.int (Int32.ofNat len)), z9] [.int (Int32.ofNat len)])) := g9.trans (by
    refine XS.iload X9.here hexec rfl (hb hbytes d3) rfl ?_
    refine XS.iload X9.here hexec rfl (hb hbytes d5) rfl ?_
    refine XS.icmpYes X9.here hexec rfl (pc0 := 7) rfl (hb hbytes d7) rfl (ii_ge_t (nlt32 (by omega) (Nat.le_refl _))) (by decide) rfl ?_
    refine XS.iload X9.here hexec rfl (hb hbytes d44) rfl ?_
    exact Steps.refl _)
  exact ⟨T9, some (.int (Int32.ofNat len)), _, _, _, X9, by simp, rfl, rfl, (fun h => by cases h), ⟨rfl, B9, p9.from hh0, f9⟩, fun fs hl => c11.trans (X9.ireturnOut hexec hret rfl (Or.inl rfl) (hb hbytes d46) hl)⟩
end Cmp5
namespace Cmp3
def yN : MethodName := ⟨"java/lang/StringUTF16", "compress", "([CII)[B"⟩
abbrev yB : ByteArray := jdk_52_method_16_code
theorem d0 : decode yB 0 = .ok (.iload_n 2, 1) := by decide +kernel
theorem d1 : decode yB 1 = .ok (.newarray .byte, 2) := by decide +kernel
theorem d3 : decode yB 3 = .ok (.astore_n 3, 1) := by decide +kernel
theorem d4 : decode yB 4 = .ok (.aload_n 0, 1) := by decide +kernel
theorem d5 : decode yB 5 = .ok (.iload_n 1, 1) := by decide +kernel
theorem d6 : decode yB 6 = .ok (.aload_n 3, 1) := by decide +kernel
theorem d7 : decode yB 7 = .ok (.iconst 0, 1) := by decide +kernel
theorem d8 : decode yB 8 = .ok (.iload_n 2, 1) := by decide +kernel
theorem d9 : decode yB 9 = .ok (.invokestatic 115, 3) := by decide +kernel
theorem d12 : decode yB 12 = .ok (.istore 4, 2) := by decide +kernel
theorem d14 : decode yB 14 = .ok (.iload 4, 2) := by decide +kernel
theorem d16 : decode yB 16 = .ok (.iload_n 2, 1) := by decide +kernel
theorem d17 : decode yB 17 = .ok (.if_icmp (.eq) 40, 3) := by decide +kernel
theorem d57 : decode yB 57 = .ok (.aload_n 3, 1) := by decide +kernel
theorem d58 : decode yB 58 = .ok (.areturn, 1) := by decide +kernel
def site : List Cond := [.arrayClass .byte, Cmp5.tab] ++ staticW U16 115 Cmp5.yN
def tab : Cond := tabOf yN yB 6 (some (.array .byte)) site
def P (b : Addr) (A : Cell) (o len : Nat) (args : Array Value) (s : State) : Prop := args = #[.ref b, .int (Int32.ofNat o), .int (Int32.ofNat len)] ∧ Ch b A s ∧ o + len ≤ A.slots.size ∧ len ≤ 536870912 ∧ ∀ i, i < len → ¬ 255 < cv A (o + i)
def E (b : Addr) (A : Cell) (o len : Nat) (r : Option Value) (s u : State) : Prop := NewArr .byte "[B" len (fun j => .int (lo8 (cv A (o + j)))) r s u ∧ u.heap.size = s.heap.size + 1
/-- no char of the range above 255: a new byte[] of their low bytes -/
theorem law (l : Launch) (b : Addr) (A : Cell) (o len : Nat) : Law l yN 3 3 1 18 yB 6 (some (.array .byte)) site (P b A o len) (E b A o len) [] 1 len := by
  refine Law.of_walk (plainFor_of_name (by decide +kernel)) (by decide +kernel) (by decide +kernel) (by decide) (fun _ _ h => by rw [h.1]; rfl) (fun _ U U' hal hh h => ⟨h.1, h.2.1.mv hal hh, h.2.2⟩) (fun r U U' V V' h1 hal h2 h => ⟨NewArr.mv r U U' V V' h1 hal h2 h.1, by rw [h1, h2]; exact h.2⟩) ?_
  intro p e s m args below meth c s₁ X0 hexec hbytes hml hret hlk hnm hown hh0 W hP
  obtain ⟨rfl, hA, l1, l2, hp⟩ := hP
  have a31 := hA.1.2.2.2
  have c1 : Steps p.tables e below (s₁.setTop (entryFrame m #[.ref b, .int (Int32.ofNat o), .int (Int32.ofNat len)] 6)) (s₁.setTop (mkF m 0 #[.val (.ref b), .val (.int (Int32.ofNat o)), .val (.int (Int32.ofNat len)), .unset, .unset, .unset] [])) := entry rfl
  have c2 : Steps p.tables e below (s₁.setTop (entryFrame m #[.ref b, .int (Int32.ofNat o), .int (Int32.ofNat len)] 6)) (s₁.setTop (mkF m 1 #[.val (.ref b), .val (.int (Int32.ofNat o)), .val (.int (Int32.ofNat len)), .unset, .unset, .unset] [.int (Int32.ofNat len)])) := c1.trans (by
    refine XS.iloadN X0.here hexec rfl (hb hbytes d0) rfl ?_
    exact Steps.refl _)
  obtain ⟨T3, B3, X3, ba3, bs3, bv3, bh3, bf3, st3⟩ := X0.anew hexec (atype := .byte) (wk W (.arrayClass .byte)) rfl (by show len * 1 ≤ _; omega) (by omega) (g := (mkF m 1 #[.val (.ref b), .val (.int (Int32.ofNat o)), .val (.int (Int32.ofNat len)), .unset, .unset, .unset] [.int (Int32.ofNat len)])) rfl (hb hbytes d1) (rest := []) rfl (Nat.le_refl _) (by show 0 + len ≤ len; omega)
  rw [hh0] at ba3 st3
  have kp3 : XT.Kept s T3 := (XT.Kept.of_eq hh0).push bh3
  have hA3 := hA.keep X3.warmed.alike (kp3 _ _ hA.1.1)
  have hne : b ≠ s.heap.size := hA.1.ne
  have c4 : Steps p.tables e below (s₁.setTop (entryFrame m #[.ref b, .int (Int32.ofNat o), .int (Int32.ofNat len)] 6)) (T3.setTop (mkF m 3 #[.val (.ref b), .val (.int (Int32.ofNat o)), .val (.int (Int32.ofNat len)), .unset, .unset, .unset] [.ref s.heap.size])) := c2.trans (st3 _ (Steps.refl _))
  have c5 : Steps p.tables e below (s₁.setTop (entryFrame m #[.ref b, .int (Int32.ofNat o), .int (Int32.ofNat len)] 6)) (T3.setTop (mkF m 9 #[.val (.ref b), .val (.int (Int32.ofNat o)), .val (.int (Int32.ofNat len)), .val (.ref s.heap.size), .unset, .unset] [.int (Int32.ofNat len), .int 0, .ref s.heap.size, .int (Int32.ofNat o), .ref b])) := c4.trans (by
    refine XS.astoreN X3.here hexec rfl (hb hbytes d3) rfl rfl rfl ?_
    refine XS.aloadN X3.here hexec rfl (hb hbytes d4) rfl rfl ?_
    refine XS.iloadN X3.here hexec rfl (hb hbytes d5) rfl ?_
    refine XS.aloadN X3.here hexec rfl (hb hbytes d6) rfl rfl ?_
    refine iconstV X3.here hexec rfl 0 (hb hbytes d7) (by decide) ?_
    refine XS.iloadN X3.here hexec rfl (hb hbytes d8) rfl ?_
    exact Steps.refl _)
  obtain ⟨v6, T6, X6, E6, g6⟩ := X3.callS hexec (Cmp5.law l b A s.heap.size B3 o 0 len) hown (wks W (staticW U16 115 Cmp5.yN)) (wk W Cmp5.tab) (W := 0) (Nat.le_of_ble_eq_true rfl) (Nat.le_of_ble_eq_true rfl) (Nat.le_refl _) (by show 0 + len + 0 ≤ len; omega) (g := (mkF m 9 #[.val (.ref b), .val (.int (Int32.ofNat o)), .val (.int (Int32.ofNat len)), .val (.ref s.heap.size), .unset, .unset] [.int (Int32.ofNat len), .int (Int32.ofNat 0), .ref s.heap.size, .int (Int32.ofNat o), .ref b])) rfl (by rw [hml]; rfl) c5 (argsL := [.ref b, .int (Int32.ofNat o), .ref s.heap.size, .int (Int32.ofNat 0), .int (Int32.ofNat len)]) (rest := []) rfl rfl (by show 2 * 0 + 0 ≤ _; decide) (hb hbytes d9) (⟨rfl, hA3, ba3, hne, l1, by rw [bs3]; simp, hp⟩)
  obtain ⟨rfl, B6, p6, f6⟩ := E6
  have c7 : Steps p.tables e below (s₁.setTop (entryFrame m #[.ref b, .int (Int32.ofNat o), .int (Int32.ofNat len)] 6)) (T6.setTop (mkF m 12 #[.val (.ref b), .val (.int (Int32.ofNat o)), .val (.int (Int32.ofNat len)), .val (.ref s.heap.size), .unset, .unset] [.int (Int32.ofNat len)])) := g6
  have c8 : Steps p.tables e below (s₁.setTop (entryFrame m #[.ref b, .int (Int32.ofNat o), .int (Int32.ofNat len)] 6)) (T6.setTop (mkF m 58 #[.val (.ref b), .val (.int (Int32.ofNat o)), .val (.int (Int32.ofNat len)), .val (.ref s.heap.size), .val (.int (Int32.ofNat len)), .unset] [.ref s.heap.size])) := c7.trans (by
    refine XS.istore X6.here hexec rfl (hb hbytes d12) rfl rfl ?_
    refine XS.iload X6.here hexec rfl (hb hbytes d14) rfl ?_
    refine XS.iloadN X6.here hexec rfl (hb hbytes d16) rfl ?_
    refine XS.icmpYes X6.here hexec rfl (pc0 := 17) rfl (hb hbytes d17) rfl (ii_eq_t rfl) (by decide) rfl ?_
    refine XS.aloadN X6.here hexec rfl (hb hbytes d57) rfl rfl ?_
    exact Steps.refl _)
  have X8 := X6.wide (L' := []) (cells' := 1) (slots' := len) (fun x hx hlt => by
    simp only [List.nil_append, copyLocs, List.mem_map, List.mem_range] at hx
    obtain ⟨i, -, rfl⟩ := hx
    exact absurd hlt (Nat.lt_irrefl _)) (Nat.le_refl _) (by omega)
  exact ⟨T6, some (.ref s.heap.size), _, _, _, X8, rfl, rfl, rfl, (fun h => by cases h), ⟨⟨rfl, B6, ba3.like (X3.warmed.alike.symm.trans X6.warmed.alike) p6.1 f6.1 f6.2.1 f6.2.2.1, f6.2.1.trans bv3, by rw [X6.warmed.alike.findClass, f6.1]; exact bf3, by rw [f6.2.2.1, bs3]; simp, fun j hj => by rw [f6.2.2.2 j, if_pos (by omega)]; rfl, kp3.put p6 (Nat.le_refl _)⟩, by rw [p6.2.2, bh3, hh0]; simp⟩, fun fs hl => c8.trans (X8.areturnOut hexec rfl hret rfl (hb hbytes d58) hl)⟩
end Cmp3
namespace CodL
def yN : MethodName := ⟨"java/lang/StringUTF16", "coderFromArrayLen", "([BI)B"⟩
abbrev yB : ByteArray := jdk_52_method_15_code
theorem d0 : decode yB 0 = .ok (.iload_n 1, 1) := by decide +kernel
theorem d1 : decode yB 1 = .ok (.aload_n 0, 1) := by decide +kernel
theorem d2 : decode yB 2 = .ok (.arraylength, 1) := by decide +kernel
theorem d3 : decode yB 3 = .ok (.isub, 1) := by decide +kernel
theorem d4 : decode yB 4 = .ok (.bipush 31, 2) := by decide +kernel
theorem d6 : decode yB 6 = .ok (.iushr, 1) := by decide +kernel
theorem d7 : decode yB 7 = .ok (.i2b, 1) := by decide +kernel
theorem d8 : decode yB 8 = .ok (.ireturn, 1) := by decide +kernel
def site : List Cond := []
def tab : Cond := tabOf yN yB 2 (some .byte) site
def P (d : Addr) (B : Cell) (args : Array Value) (s : State) : Prop := args = #[.ref d, .int (Int32.ofNat B.slots.size)] ∧ Arr .byte d B s
def E (r : Option Value) (s u : State) : Prop := XT.PureE (some (.int 0)) r s u
/-- an array as long as the number of chars: LATIN1 -/
theorem law (l : Launch) (d : Addr) (B : Cell) : Law l yN 2 2 0 0 yB 2 (some .byte) site (P d B) E [] 0 0 := by
  refine Law.of_walk (plainFor_of_name (by decide +kernel)) (by decide +kernel) (by decide +kernel) (by decide) (fun _ _ h => by rw [h.1]; rfl) (fun _ U U' hal hh h => ⟨h.1, h.2.mv hal hh⟩) (fun r U U' V V' h1 hal h2 h => XT.PureE.mv r U U' V V' h1 hal h2 h) ?_
  intro p e s m args below meth c s₁ X0 hexec hbytes hml hret hlk hnm hown hh0 W hP
  obtain ⟨rfl, hB⟩ := hP
  have hB0 := hB.mv X0.warmed.alike hh0
  have c1 : Steps p.tables e below (s₁.setTop (entryFrame m #[.ref d, .int (Int32.ofNat B.slots.size)] 2)) (s₁.setTop (mkF m 0 #[.val (.ref d), .val (.int (Int32.ofNat B.slots.size))] [])) := entry rfl
  have c2 : Steps p.tables e below (s₁.setTop (entryFrame m #[.ref d, .int (Int32.ofNat B.slots.size)] 2)) (s₁.setTop (mkF m 2 #[.val (.ref d), .val (.int (Int32.ofNat B.slots.size))] [.ref d, .int (Int32.ofNat B.slots.size)])) := c1.trans (by
    refine XS.iloadN X0.here hexec rfl (hb hbytes d0) rfl ?_
    refine XS.aloadN X0.here hexec rfl (hb hbytes d1) rfl rfl ?_
    exact Steps.refl _)
  have c3 : Steps p.tables e below (s₁.setTop (entryFrame m #[.ref d, .int (Int32.ofNat B.slots.size)] 2)) (s₁.setTop (mkF m 8 #[.val (.ref d), .val (.int (Int32.ofNat B.slots.size))] [.int (lo8 (ushr (Int32.ofNat B.slots.size - Int32.ofNat B.slots.size) 31))])) := c2.trans (by
    refine X0.alen hexec hB0 rfl rfl (hb hbytes d2) ?_
    refine XS.isub X0.here hexec rfl (hb hbytes d3) rfl ?_
    refine bipushV X0.here hexec rfl 31 (hb hbytes d4) (by decide) ?_
    refine iushr X0.here hexec rfl (hb hbytes d6) rfl ?_
    refine i2b X0.here hexec rfl (hb hbytes d7) rfl ?_
    exact Steps.refl _)
  have e0 : lo8 (ushr (Int32.ofNat B.slots.size - Int32.ofNat B.slots.size) 31) = 0 := by rw [Int32.sub_self]; decide
  rw [e0] at c3
  exact ⟨s₁, some (.int 0), _, _, _, X0, rfl, rfl, rfl, (fun h => by cases h), ⟨rfl, hh0⟩, fun fs hl => c3.trans (X0.ireturnOut hexec hret rfl (Or.inr (Or.inr (Or.inl rfl))) (hb hbytes d8) hl)⟩
end CodL
/-- the String at a is Latin-1 over a new byte[] (the heap's one new cell): the low bytes of the len chars of A from o on; every cell but a is kept -/
def Got (a : Addr) (D : Cell) (fV fC : Field) (A : Cell) (o len : Nat) (r : Option Value) (s u : State) : Prop := r = none ∧ ∃ D' V : Cell, Blank "java/lang/String" a D' u ∧ Same D D' [fV.slot, fC.slot] ∧ D'.slots[fV.slot]? = some (.ref s.heap.size) ∧ D'.slots[fC.slot]? = some (.int 0) ∧ Arr .byte s.heap.size V u ∧ V.vm = .none ∧ u.vm.findClass "[B" = some V.cls ∧ V.slots.size = len ∧ (∀ j, j < len → V.slots[j]? = some (.int (lo8 (cv A (o + j))))) ∧ (∀ (y : Addr) (c : Cell), y ≠ a → s.heap[y]? = some c → u.heap[y]? = some c) ∧ u.heap.size = s.heap.size + 1
theorem Got.mv {a : Addr} {D A : Cell} {fV fC : Field} {o len : Nat} : ∀ r (U U' V V' : State), U'.heap = U.heap → V.vm.Alike V'.vm → V'.heap = V.heap → Got a D fV fC A o len r U V → Got a D fV fC A o len r U' V' :=
  fun r U U' V V' h1 hal h2 ⟨e0, D', X, a1, a2, a3, a4, a5, a6, a7, a8, a9, a10, a11⟩ => ⟨e0, D', X, a1.mv hal h2, a2, by rw [h1]; exact a3, a4, by rw [h1]; exact a5.mv hal h2, a6, by rw [hal.findClass]; exact a7, a8, a9, by rw [h1, h2]; exact a10, by rw [h1, h2]; exact a11⟩
namespace New4
def yN : MethodName := ⟨"java/lang/String", "<init>", "([CIILjava/lang/Void;)V"⟩
abbrev yB : ByteArray := jdk_42_method_149_code
theorem d0 : decode yB 0 = .ok (.aload_n 0, 1) := by decide +kernel
theorem d1 : decode yB 1 = .ok (.invokespecial 1, 3) := by decide +kernel
theorem d4 : decode yB 4 = .ok (.iload_n 3, 1) := by decide +kernel
theorem d5 : decode yB 5 = .ok (.ifCond (.ne) 22, 3) := by decide +kernel
theorem d27 : decode yB 27 = .ok (.getstatic 38, 3) := by decide +kernel
theorem d30 : decode yB 30 = .ok (.ifCond (.eq) 28, 3) := by decide +kernel
theorem d33 : decode yB 33 = .ok (.aload_n 1, 1) := by decide +kernel
theorem d34 : decode yB 34 = .ok (.iload_n 2, 1) := by decide +kernel
theorem d35 : decode yB 35 = .ok (.iload_n 3, 1) := by decide +kernel
theorem d36 : decode yB 36 = .ok (.invokestatic 177, 3) := by decide +kernel
theorem d39 : decode yB 39 = .ok (.astore 5, 2) := by decide +kernel
theorem d41 : decode yB 41 = .ok (.aload_n 0, 1) := by decide +kernel
theorem d42 : decode yB 42 = .ok (.aload 5, 2) := by decide +kernel
theorem d44 : decode yB 44 = .ok (.iload_n 3, 1) := by decide +kernel
theorem d45 : decode yB 45 = .ok (.invokestatic 47, 3) := by decide +kernel
theorem d48 : decode yB 48 = .ok (.putfield 15, 3) := by decide +kernel
theorem d51 : decode yB 51 = .ok (.aload_n 0, 1) := by decide +kernel
theorem d52 : decode yB 52 = .ok (.aload 5, 2) := by decide +kernel
theorem d54 : decode yB 54 = .ok (.putfield 9, 3) := by decide +kernel
theorem d57 : decode yB 57 = .ok (.return_, 1) := by decide +kernel
def site : List Cond := [.fieldLink "java/lang/String" 38 "java/lang/String" "COMPACT_STRINGS" "Z", Cmp3.tab, CodL.tab, .laysFinal "java/lang/String" "java/lang/String" "value" "[B", .fieldLink "java/lang/String" 9 "java/lang/String" "value" "[B", .laysFinal "java/lang/String" "java/lang/String" "coder" "B", .fieldLink "java/lang/String" 15 "java/lang/String" "coder" "B"] ++ objW "java/lang/String" 1 ++ staticW "java/lang/String" 177 Cmp3.yN ++ staticW "java/lang/String" 47 CodL.yN
def tab : Cond := tabOf yN yB 6 none site
def P (a : Addr) (D : Cell) (fV fC : Field) (b : Addr) (A : Cell) (z : Int32) (o len : Nat) (args : Array Value) (s : State) : Prop := args = #[.ref a, .ref b, .int (Int32.ofNat o), .int (Int32.ofNat len), .null] ∧ Blank "java/lang/String" a D s ∧ Found "java/lang/String" "value" "[B" fV s ∧ Found "java/lang/String" "coder" "B" fC s ∧ Ch b A s ∧ StaticIs s "java/lang/String" "COMPACT_STRINGS" "Z" (.int z) ∧ ¬ z = 0 ∧ 0 < len ∧ o + len ≤ A.slots.size ∧ len ≤ 536870912 ∧ ∀ i, i < len → ¬ 255 < cv A (o + i)
def E (a : Addr) (D : Cell) (fV fC : Field) (A : Cell) (o len : Nat) (r : Option Value) (s u : State) : Prop := Got a D fV fC A o len r s u
/-- len > 0, no char of the range above 255: a Latin-1 String of their low bytes -/
theorem law (l : Launch) (a : Addr) (D : Cell) (fV fC : Field) (b : Addr) (A : Cell) (z : Int32) (o len : Nat) : Law l yN 5 4 2 35 yB 6 none site (P a D fV fC b A z o len) (E a D fV fC A o len) [⟨a, fC.slot⟩, ⟨a, fV.slot⟩] 1 len := by
  refine Law.of_walk (plainFor_of_name (by decide +kernel)) (by decide +kernel) (by decide +kernel) (by decide) (fun _ _ h => by rw [h.1]; rfl) (fun _ U U' hal hh h => ⟨h.1, h.2.1.mv hal hh, h.2.2.1.al hal, h.2.2.2.1.al hal, h.2.2.2.2.1.mv hal hh, h.2.2.2.2.2.1.there hal hh, h.2.2.2.2.2.2⟩) (fun r U U' V V' h1 hal h2 h => Got.mv r U U' V V' h1 hal h2 h) ?_
  intro p e s m args below meth c s₁ X0 hexec hbytes hml hret hlk hnm hown hh0 W hP
  obtain ⟨rfl, hB, f1, f2, hA, s1, hz, l0, l1, l2, hp⟩ := hP
  have a31 := hA.1.2.2.2
  have c1 : Steps p.tables e below (s₁.setTop (entryFrame m #[.ref a, .ref b, .int (Int32.ofNat o), .int (Int32.ofNat len), .null] 6)) (s₁.setTop (mkF m 0 #[.val (.ref a), .val (.ref b), .val (.int (Int32.ofNat o)), .val (.int (Int32.ofNat len)), .val .null, .unset] [])) := entry rfl
  have c2 : Steps p.tables e below (s₁.setTop (entryFrame m #[.ref a, .ref b, .int (Int32.ofNat o), .int (Int32.ofNat len), .null] 6)) (s₁.setTop (mkF m 1 #[.val (.ref a), .val (.ref b), .val (.int (Int32.ofNat o)), .val (.int (Int32.ofNat len)), .val .null, .unset] [.ref a])) := c1.trans (by
    refine XS.aloadN X0.here hexec rfl (hb hbytes d0) rfl rfl ?_
    exact Steps.refl _)
  obtain ⟨T3, X3, q3, st3⟩ := X0.oinit hexec hown (wks W (objW "java/lang/String" 1)) (g := (mkF m 1 #[.val (.ref a), .val (.ref b), .val (.int (Int32.ofNat o)), .val (.int (Int32.ofNat len)), .val .null, .unset] [.ref a])) rfl (by rw [hml]; rfl) (rest := []) rfl (hb hbytes d1) (W := 0) (by show 2 * 0 + 0 ≤ _; decide) (Nat.le_of_ble_eq_true rfl) (Nat.le_of_ble_eq_true rfl)
  have hh3 := q3.trans hh0
  have c4 : Steps p.tables e below (s₁.setTop (entryFrame m #[.ref a, .ref b, .int (Int32.ofNat o), .int (Int32.ofNat len), .null] 6)) (T3.setTop (mkF m 27 #[.val (.ref a), .val (.ref b), .val (.int (Int32.ofNat o)), .val (.int (Int32.ofNat len)), .val .null, .unset] [])) := (c2.trans (st3 _ (Steps.refl _))).trans (by
    refine XS.iloadN X3.here hexec rfl (hb hbytes d4) rfl ?_
    refine XS.ifYes X3.here hexec rfl (pc0 := 5) rfl (hb hbytes d5) rfl (i0_ne_t (nz32 (by omega) l0)) (by decide) rfl ?_
    exact Steps.refl _)
  obtain ⟨T5, X5, q5, st5⟩ := X3.sget hexec hown (wk W (.fieldLink "java/lang/String" 38 "java/lang/String" "COMPACT_STRINGS" "Z")) s1 (fun _ _ h => by rw [hh3]; exact h) (g := (mkF m 27 #[.val (.ref a), .val (.ref b), .val (.int (Int32.ofNat o)), .val (.int (Int32.ofNat len)), .val .null, .unset] [])) rfl (hb hbytes d27)
  have hh5 := q5.trans hh3
  have c6 : Steps p.tables e below (s₁.setTop (entryFrame m #[.ref a, .ref b, .int (Int32.ofNat o), .int (Int32.ofNat len), .null] 6)) (T5.setTop (mkF m 30 #[.val (.ref a), .val (.ref b), .val (.int (Int32.ofNat o)), .val (.int (Int32.ofNat len)), .val .null, .unset] [.int z])) := c4.trans (st5 _ (Steps.refl _))
  have c7 : Steps p.tables e below (s₁.setTop (entryFrame m #[.ref a, .ref b, .int (Int32.ofNat o), .int (Int32.ofNat len), .null] 6)) (T5.setTop (mkF m 36 #[.val (.ref a), .val (.ref b), .val (.int (Int32.ofNat o)), .val (.int (Int32.ofNat len)), .val .null, .unset] [.int (Int32.ofNat len), .int (Int32.ofNat o), .ref b])) := c6.trans (by
    refine XS.ifNo X5.here hexec rfl (hb hbytes d30) rfl (i0_eq_f hz) ?_
    refine XS.aloadN X5.here hexec rfl (hb hbytes d33) rfl rfl ?_
    refine XS.iloadN X5.here hexec rfl (hb hbytes d34) rfl ?_
    refine XS.iloadN X5.here hexec rfl (hb hbytes d35) rfl ?_
    exact Steps.refl _)
  obtain ⟨v8, T8, X8, E8, g8⟩ := X5.callS hexec (Cmp3.law l b A o len) hown (wks W (staticW "java/lang/String" 177 Cmp3.yN)) (wk W Cmp3.tab) (W := 0) (Nat.le_of_ble_eq_true rfl) (Nat.le_of_ble_eq_true rfl) (Nat.le_refl _) (by show 0 + len ≤ len; omega) (g := (mkF m 36 #[.val (.ref a), .val (.ref b), .val (.int (Int32.ofNat o)), .val (.int (Int32.ofNat len)), .val .null, .unset] [.int (Int32.ofNat len), .int (Int32.ofNat o), .ref b])) rfl (by rw [hml]; rfl) c7 (argsL := [.ref b, .int (Int32.ofNat o), .int (Int32.ofNat len)]) (rest := []) rfl rfl (by show 2 * 0 + 0 ≤ _; decide) (hb hbytes d36) (⟨rfl, hA.mv X5.warmed.alike hh5, l1, l2, hp⟩)
  obtain ⟨e8, z8⟩ := E8
  obtain ⟨rfl, N, n1, n2, n3, n4, n5, n6⟩ := NewArr.mv _ T5 s _ _ hh5.symm (Vm.Alike.refl _) rfl e8
  rw [hh5] at z8
  have hB1 := hB.keep X8.warmed.alike (n6 _ _ hB.1)
  have hne : s.heap.size ≠ a := (Nat.ne_of_lt (Array.getElem?_eq_some_iff.mp hB.1).1).symm
  have c9 : Steps p.tables e below (s₁.setTop (entryFrame m #[.ref a, .ref b, .int (Int32.ofNat o), .int (Int32.ofNat len), .null] 6)) (T8.setTop (mkF m 39 #[.val (.ref a), .val (.ref b), .val (.int (Int32.ofNat o)), .val (.int (Int32.ofNat len)), .val .null, .unset] [.ref s.heap.size])) := g8
  have c10 : Steps p.tables e below (s₁.setTop (entryFrame m #[.ref a, .ref b, .int (Int32.ofNat o), .int (Int32.ofNat len), .null] 6)) (T8.setTop (mkF m 45 #[.val (.ref a), .val (.ref b), .val (.int (Int32.ofNat o)), .val (.int (Int32.ofNat len)), .val .null, .val (.ref s.heap.size)] [.int (Int32.ofNat N.slots.size), .ref s.heap.size, .ref a])) := by
    have hc : Steps p.tables e below (s₁.setTop (entryFrame m #[.ref a, .ref b, .int (Int32.ofNat o), .int (Int32.ofNat len), .null] 6)) (T8.setTop (mkF m 45 #[.val (.ref a), .val (.ref b), .val (.int (Int32.ofNat o)), .val (.int (Int32.ofNat len)), .val .null, .val (.ref s.heap.size)] [.int (Int32.ofNat len), .ref s.heap.size, .ref a])) := c9.trans (by
      refine XS.astore X8.here hexec rfl (hb hbytes d39) rfl rfl rfl ?_
      refine XS.aloadN X8.here hexec rfl (hb hbytes d41) rfl rfl ?_
      refine XS.aload X8.here hexec rfl (hb hbytes d42) rfl rfl ?_
      refine XS.iloadN X8.here hexec rfl (hb hbytes d44) rfl ?_
      exact Steps.refl _)
    rw [n4]; exact hc
  obtain ⟨v11, T11, X11, E11, g11⟩ := X8.callS hexec (CodL.law l s.heap.size N) hown (wks W (staticW "java/lang/String" 47 CodL.yN)) (wk W CodL.tab) (W := 1) (Nat.le_of_ble_eq_true rfl) (Nat.le_of_ble_eq_true rfl) (Nat.le_refl _) (by show 0 + len + 0 ≤ len; omega) (g := (mkF m 45 #[.val (.ref a), .val (.ref b), .val (.int (Int32.ofNat o)), .val (.int (Int32.ofNat len)), .val .null, .val (.ref s.heap.size)] [.int (Int32.ofNat N.slots.size), .ref s.heap.size, .ref a])) rfl (by rw [hml]; rfl) c10 (argsL := [.ref s.heap.size, .int (Int32.ofNat N.slots.size)]) (rest := [.ref a]) rfl rfl (by show 2 * 0 + (1 + 0) ≤ _; decide) (hb hbytes d45) (⟨rfl, n1⟩)
  obtain ⟨rfl, q11⟩ := E11
  have hB11 := hB1.mv (X8.warmed.alike.symm.trans X11.warmed.alike) q11
  have c12 : Steps p.tables e below (s₁.setTop (entryFrame m #[.ref a, .ref b, .int (Int32.ofNat o), .int (Int32.ofNat len), .null] 6)) (T11.setTop (mkF m 48 #[.val (.ref a), .val (.ref b), .val (.int (Int32.ofNat o)), .val (.int (Int32.ofNat len)), .val .null, .val (.ref s.heap.size)] [.int 0, .ref a])) := g11
  obtain ⟨T13, X13, p13, bl13, sl13, st13⟩ := X11.finit hexec hown (wk W (.fieldLink "java/lang/String" 15 "java/lang/String" "coder" "B")) (Or.inr ⟨_, (wk W (.laysFinal "java/lang/String" "java/lang/String" "coder" "B"))⟩) (Or.inl ⟨rfl, hnm⟩) f2 (Or.inl rfl) hB11 (t := .byte) (by decide +kernel) rfl (g := (mkF m 48 #[.val (.ref a), .val (.ref b), .val (.int (Int32.ofNat o)), .val (.int (Int32.ofNat len)), .val .null, .val (.ref s.heap.size)] [.int 0, .ref a])) rfl (rest := []) rfl (hb hbytes d48)
  have c14 : Steps p.tables e below (s₁.setTop (entryFrame m #[.ref a, .ref b, .int (Int32.ofNat o), .int (Int32.ofNat len), .null] 6)) (T13.setTop (mkF m 54 #[.val (.ref a), .val (.ref b), .val (.int (Int32.ofNat o)), .val (.int (Int32.ofNat len)), .val .null, .val (.ref s.heap.size)] [.ref s.heap.size, .ref a])) := (c12.trans (st13 _ (Steps.refl _))).trans (by
    refine XS.aloadN X13.here hexec rfl (hb hbytes d51) rfl rfl ?_
    refine XS.aload X13.here hexec rfl (hb hbytes d52) rfl rfl ?_
    exact Steps.refl _)
  obtain ⟨T15, X15, p15, bl15, sl15, st15⟩ := X13.finit hexec hown (wk W (.fieldLink "java/lang/String" 9 "java/lang/String" "value" "[B")) (Or.inr ⟨_, (wk W (.laysFinal "java/lang/String" "java/lang/String" "value" "[B"))⟩) (Or.inl ⟨rfl, hnm⟩) f1 (Or.inl rfl) bl13 (t := (.array .byte)) (by decide +kernel) rfl (g := (mkF m 54 #[.val (.ref a), .val (.ref b), .val (.int (Int32.ofNat o)), .val (.int (Int32.ofNat len)), .val .null, .val (.ref s.heap.size)] [.ref s.heap.size, .ref a])) rfl (rest := []) rfl (hb hbytes d54)
  have c16 : Steps p.tables e below (s₁.setTop (entryFrame m #[.ref a, .ref b, .int (Int32.ofNat o), .int (Int32.ofNat len), .null] 6)) (T15.setTop (mkF m 57 #[.val (.ref a), .val (.ref b), .val (.int (Int32.ofNat o)), .val (.int (Int32.ofNat len)), .val .null, .val (.ref s.heap.size)] [])) := c14.trans (st15 _ (Steps.refl _))
  have ap := apart (Or.inr ⟨_, (wk W (.laysFinal "java/lang/String" "java/lang/String" "value" "[B"))⟩) (Or.inr ⟨_, (wk W (.laysFinal "java/lang/String" "java/lang/String" "coder" "B"))⟩) f1 f2 (t₁ := .array .byte) (t₂ := .byte) (by decide +kernel) (by decide +kernel) (by decide)
  have al := X8.warmed.alike.symm.trans X15.warmed.alike
  have n7 : T11.heap[s.heap.size]? = some N := by rw [q11]; exact n1.1
  exact ⟨T15, none, _, _, _, X15, by simp, rfl, by omega, (fun _ => rfl), ⟨rfl, _, N, bl15, ((Same.refl D _).set _ (by simp)).set _ (by simp), sl15, (Cell.slots_setSlot_ne _ ap).trans sl13, n1.keep al (p15.other hne (p13.other hne n7)), n2, by rw [al.findClass]; exact n3, n4, n5, fun y c h1 h2 => p15.other h1 (p13.other h1 (by rw [q11]; exact n6 y c h2)), by rw [p15.2.2, p13.2.2, q11]; exact z8⟩, fun fs hl => c16.trans (X15.returnOut hexec hret (hb hbytes d57) hl)⟩
end New4
namespace New1
def yN : MethodName := ⟨"java/lang/String", "<init>", "([C)V"⟩
abbrev yB : ByteArray := jdk_42_method_3_code
theorem d0 : decode yB 0 = .ok (.aload_n 0, 1) := by decide +kernel
theorem d1 : decode yB 1 = .ok (.aload_n 1, 1) := by decide +kernel
theorem d2 : decode yB 2 = .ok (.iconst 0, 1) := by decide +kernel
theorem d3 : decode yB 3 = .ok (.aload_n 1, 1) := by decide +kernel
theorem d4 : decode yB 4 = .ok (.arraylength, 1) := by decide +kernel
theorem d5 : decode yB 5 = .ok (.aconst_null, 1) := by decide +kernel
theorem d6 : decode yB 6 = .ok (.invokespecial 27, 3) := by decide +kernel
theorem d9 : decode yB 9 = .ok (.return_, 1) := by decide +kernel
def site : List Cond := [New4.tab] ++ initW "java/lang/String" 27 New4.yN
def tab : Cond := tabOf yN yB 2 none site
def P (a : Addr) (D : Cell) (fV fC : Field) (b : Addr) (A : Cell) (z : Int32) (args : Array Value) (s : State) : Prop := args = #[.ref a, .ref b] ∧ Blank "java/lang/String" a D s ∧ Found "java/lang/String" "value" "[B" fV s ∧ Found "java/lang/String" "coder" "B" fC s ∧ Ch b A s ∧ StaticIs s "java/lang/String" "COMPACT_STRINGS" "Z" (.int z) ∧ ¬ z = 0 ∧ 0 < A.slots.size ∧ A.slots.size ≤ 536870912 ∧ ∀ i, i < A.slots.size → ¬ 255 < cv A i
def E (a : Addr) (D : Cell) (fV fC : Field) (A : Cell) (r : Option Value) (s u : State) : Prop := Got a D fV fC A 0 A.slots.size r s u
/-- new String(chars), not empty, no char above 255: a Latin-1 String of their low bytes -/
theorem law (l : Launch) (a : Addr) (D : Cell) (fV fC : Field) (b : Addr) (A : Cell) (z : Int32) : Law l yN 2 1 3 52 yB 2 none site (P a D fV fC b A z) (E a D fV fC A) [⟨a, fC.slot⟩, ⟨a, fV.slot⟩] 1 A.slots.size := by
  refine Law.of_walk (plainFor_of_name (by decide +kernel)) (by decide +kernel) (by decide +kernel) (by decide) (fun _ _ h => by rw [h.1]; rfl) (fun _ U U' hal hh h => ⟨h.1, h.2.1.mv hal hh, h.2.2.1.al hal, h.2.2.2.1.al hal, h.2.2.2.2.1.mv hal hh, h.2.2.2.2.2.1.there hal hh, h.2.2.2.2.2.2⟩) (fun r U U' V V' h1 hal h2 h => Got.mv r U U' V V' h1 hal h2 h) ?_
  intro p e s m args below meth c s₁ X0 hexec hbytes hml hret hlk hnm hown hh0 W hP
  obtain ⟨rfl, hB, f1, f2, hA, s1, hz, l0, l2, hp⟩ := hP
  have c1 : Steps p.tables e below (s₁.setTop (entryFrame m #[.ref a, .ref b] 2)) (s₁.setTop (mkF m 0 #[.val (.ref a), .val (.ref b)] [])) := entry rfl
  have c2 : Steps p.tables e below (s₁.setTop (entryFrame m #[.ref a, .ref b] 2)) (s₁.setTop (mkF m 6 #[.val (.ref a), .val (.ref b)] [.null, .int (Int32.ofNat A.slots.size), .int 0, .ref b, .ref a])) := c1.trans (by
    refine XS.aloadN X0.here hexec rfl (hb hbytes d0) rfl rfl ?_
    refine XS.aloadN X0.here hexec rfl (hb hbytes d1) rfl rfl ?_
    refine iconstV X0.here hexec rfl 0 (hb hbytes d2) (by decide) ?_
    refine XS.aloadN X0.here hexec rfl (hb hbytes d3) rfl rfl ?_
    refine X0.alen hexec (hA.1.mv X0.warmed.alike hh0) rfl rfl (hb hbytes d4) ?_
    refine XS.aconstNull X0.here hexec rfl (hb hbytes d5) ?_
    exact Steps.refl _)
  obtain ⟨v3, T3, X3, E3, g3⟩ := X0.callN hexec (New4.law l a D fV fC b A z 0 A.slots.size) rfl hown (wks W (initW "java/lang/String" 27 New4.yN)) (W New4.tab (by simp only [site, List.mem_cons, List.mem_append, true_or, or_true])) (W := 0) (Nat.le_of_ble_eq_true rfl) (Nat.le_of_ble_eq_true rfl) (Nat.le_refl _) (by show 0 + A.slots.size ≤ A.slots.size; omega) (g := (mkF m 6 #[.val (.ref a), .val (.ref b)] [.null, .int (Int32.ofNat A.slots.size), .int (Int32.ofNat 0), .ref b, .ref a])) rfl (by rw [hml]; rfl) c2 (argsL := [.ref b, .int (Int32.ofNat 0), .int (Int32.ofNat A.slots.size), .null]) (rest := []) rfl rfl (by show 2 * 0 + 0 ≤ _; decide) (hb hbytes d6) (⟨rfl, hB.mv X0.warmed.alike hh0, f1.al X0.warmed.alike, f2.al X0.warmed.alike, hA.mv X0.warmed.alike hh0, s1.there X0.warmed.alike hh0, hz, l0, by omega, l2, fun i hi => by rw [Nat.zero_add]; exact hp i hi⟩)
  have e0 := Got.mv _ s₁ s _ _ hh0.symm (Vm.Alike.refl _) rfl E3
  obtain rfl := e0.1
  have c4 : Steps p.tables e below (s₁.setTop (entryFrame m #[.ref a, .ref b] 2)) (T3.setTop (mkF m 9 #[.val (.ref a), .val (.ref b)] [])) := g3
  exact ⟨T3, none, _, _, _, X3, by simp, rfl, by omega, (fun _ => rfl), e0, fun fs hl => c4.trans (X3.returnOut hexec hret (hb hbytes d9) hl)⟩
theorem pays {l : Launch} {R : Room} {p : Program} {e : Env} {below : List Frame} {s : State} {sargs : Array Value} {len W : Nat} (a : Addr) (D : Cell) (fV fC : Field) (b : Addr) (A : Cell) (z : Int32) (htab : tab.before sargs s = true) (hfr : 4 ≤ R.frames) (hlo : W + 65 ≤ R.locals) :
    Back l R p e below s sargs yN len W (fun A₁ a₁ => A₁.cells + 1 ≤ R.cells ∧ A₁.slots + A.slots.size ≤ R.slots ∧ P a D fV fC b A z a₁ A₁.U) (fun A₁ _ v₁ B₁ => E a D fV fC A v₁ A₁.U B₁.U ∧ B₁.locs = A₁.locs ++ [⟨a, fC.slot⟩, ⟨a, fV.slot⟩] ∧ B₁.cells = A₁.cells + 1 ∧ B₁.slots = A₁.slots + A.slots.size) :=
  (law l a D fV fC b A z).pays htab hfr (by omega)
end New1
end StrChars
namespace StrChars.Road
open Jvm Sem ClassFile Op Lib Jvm.Stand Jvm.Free Jvm.Free.XT
open Jvm.Lib.Cold (StaticIs)
abbrev ST : String := "java/lang/String"
/-- every table word that New1's law asks, flat -/
abbrev words : List Jvm.Cond := [.code New1.yN New1.yB 2 none, .initialized ST, .methodLink ST 27 New4.yN, .instanceMethod New4.yN,
  .code New4.yN New4.yB 6 none, .fieldLink ST 38 ST "COMPACT_STRINGS" "Z", .laysFinal ST ST "value" "[B", .fieldLink ST 9 ST "value" "[B", .laysFinal ST ST "coder" "B", .fieldLink ST 15 ST "coder" "B",
  .methodLink ST 1 Lib.objectInit, .instanceMethod Lib.objectInit, .code Lib.objectInit ⟨#[0xb1]⟩ 1 none, .methodLink ST 177 Cmp3.yN, .static Cmp3.yN, .methodLink ST 47 CodL.yN, .static CodL.yN,
  .code Cmp3.yN Cmp3.yB 6 (some (.array .byte)), .initialized U16, .arrayClass .byte, .methodLink U16 115 Cmp5.yN, .static Cmp5.yN, .code Cmp5.yN Cmp5.yB 7 (some .int), .code CodL.yN CodL.yB 2 (some .byte)]
theorem tab_of {a : Array Value} {s : State} (h : ∀ w ∈ words, w.before a s = true) : New1.tab.before a s = true := by
  have h5 : Cmp5.tab.before a s = true := unparts (wk h (.code Cmp5.yN Cmp5.yB 7 (some .int))) (wks h (.initialized Cmp5.yN.cls :: Cmp5.site))
  have hc : CodL.tab.before a s = true := unparts (wk h (.code CodL.yN CodL.yB 2 (some .byte))) (wks h (.initialized CodL.yN.cls :: CodL.site))
  have q5 : ∀ w ∈ Cmp5.tab :: words, w.before a s = true := fun w hw => (List.mem_cons.mp hw).elim (fun e => e ▸ h5) (h w)
  have h3 : Cmp3.tab.before a s = true := unparts (wk q5 (.code Cmp3.yN Cmp3.yB 6 (some (.array .byte)))) (wks q5 (.initialized Cmp3.yN.cls :: Cmp3.site))
  have q3 : ∀ w ∈ Cmp3.tab :: CodL.tab :: words, w.before a s = true := fun w hw => (List.mem_cons.mp hw).elim (fun e => e ▸ h3) fun hw => (List.mem_cons.mp hw).elim (fun e => e ▸ hc) (h w)
  have h4 : New4.tab.before a s = true := unparts (wk q3 (.code New4.yN New4.yB 6 none)) (wks q3 (.initialized New4.yN.cls :: New4.site))
  have q4 : ∀ w ∈ New4.tab :: words, w.before a s = true := fun w hw => (List.mem_cons.mp hw).elim (fun e => e ▸ h4) (h w)
  exact unparts (wk q4 (.code New1.yN New1.yB 2 none)) (wks q4 (.initialized New1.yN.cls :: New1.site))
/-- the words ride from the start Z to the walk's own state -/
theorem moved {Z s : State} {a0 args : Array Value} (hZ : Z.Warmed39 s.vm) (hw : ∀ d ∈ words, d.before a0 Z = true) : ∀ d ∈ words, d.before args s = true := fun d hd => by
  have q := hw d hd
  have t : ∀ d ∈ words, d = .arrayClass .byte ∨ (d.onTables && d.keepsFace) = true := by decide +kernel
  rcases t d hd with rfl | t
  · exact RoadKit.mvA hZ q
  · exact RoadKit.mv hZ q t
/-- WHAT COMES BACK, over the tables of the start Z: h the heap at the call, h' behind it -/
def Q (Z : State) (x : Addr) (A : Cell) (h : Heap) (v : Option Value) (h' : Heap) (L : List Loc) : Prop := v = none ∧ (∀ y ∈ L, y.base = x) ∧ RoadKit.Keep h h' [x] ∧ h'.size = h.size + 1 ∧ RoadKit.Exa Z h' x ST ∧ RoadKit.Fld Z h' x ST "value" "[B" (.ref h.size) ∧ RoadKit.Fld Z h' x ST "coder" "B" (.int 0) ∧
  (∃ V : Cell, RoadKit.Arr Z h' h.size V .byte ∧ V.vm = .none ∧ Z.vm.findClass "[B" = some V.cls ∧ V.slots.size = A.slots.size ∧ ∀ j, j < A.slots.size → V.slots[j]? = some (.int (lo8 (cv A j)))) ∧
  ∀ (O n d : String) (w : Value), RoadKit.Fld Z h x O n d w → RoadKit.slotOf Z O n d ≠ RoadKit.slotOf Z ST "value" "[B" → RoadKit.slotOf Z O n d ≠ RoadKit.slotOf Z ST "coder" "B" → RoadKit.Fld Z h' x O n d w
/-- **new String(chars) AT A CALL, IN THE ROAD'S FORM**: for specialBack behind newO: x the fresh String, b the char[] with the cell A -/
theorem back {p : Program} {l : Launch} {e : Env} {R : Room} {s : State} {args : Array Value} {below : List Frame} {len W : Nat} {Z : State} {a0 : Array Value} {h : Heap} (hZ : Z.Warmed39 s.vm) (hw : ∀ d ∈ words, d.before a0 Z = true) {kI : Nat} (wi : (Jvm.Cond.instantiable ST kI).before a0 Z = true)
    {x b : Addr} {A : Cell} {z : Int32} {v0 c0 : Value} (E : RoadKit.Exa Z h x ST) (V : RoadKit.Fld Z h x ST "value" "[B" v0) (C : RoadKit.Fld Z h x ST "coder" "B" c0) (K : RoadKit.Arr Z h b A .char) (hty : Typed .char A) (S : RoadKit.Sta Z h ST "COMPACT_STRINGS" "Z" (.int z)) (hz : ¬ z = 0)
    (l0 : 0 < A.slots.size) (l2 : A.slots.size ≤ 536870912) (hp : ∀ i, i < A.slots.size → ¬ 255 < cv A i) (hfr : 4 ≤ R.frames) (hlo : W + 65 ≤ R.locals) :
    Back l R p e below s args New1.yN len W (fun P a => a = #[.ref x, .ref b] ∧ P.U.heap = h ∧ P.cells + 1 ≤ R.cells ∧ P.slots + A.slots.size ≤ R.slots)
      (fun P _ v B => ∃ L, Q Z x A h v B.U.heap L ∧ B.locs = P.locs ++ L ∧ B.cells = P.cells + 1 ∧ B.slots = P.slots + A.slots.size) := by
  intro m meth c P g ig mk a X hg hsize hdg hW hn hp'
  obtain ⟨rfl, rfl, r1, r2⟩ := hp'
  have al : Z.vm.Alike P.U.vm := hZ.alike.trans X.warmed.alike
  obtain ⟨D, cfV, kV, iV, fV, hD, gV, stV, knV, obV, asV, slV⟩ := id V
  obtain ⟨D', cfC, kC, iC, fC, hD', gC, stC, -, -, asC, slC⟩ := id C
  cases hD.symm.trans hD'
  obtain ⟨D2, kD, e1, e2, e3, e4, e5⟩ := id E
  cases hD.symm.trans e1
  obtain ⟨c2, k2, i1, i2, i3, -⟩ := Cond.instantiable_spec wi
  cases e2.symm.trans i1
  cases e3.symm.trans i2
  obtain ⟨kU, u1, u2⟩ := al.2.2 _ _ e3
  have hB : Blank ST x D P.U := ⟨hD, ⟨knV, fun q hq => by rw [hq] at obV; cases obV⟩, by rw [al.findClass]; exact e2, kU, u1, by rw [u2]; exact i3, by rw [u2]; exact e5 i3⟩
  have F1 : Found ST "value" "[B" fV P.U := ⟨SBG.found_only al ⟨cfV, kV, iV, gV⟩, stV⟩
  have F2 : Found ST "coder" "B" fC P.U := ⟨SBG.found_only al ⟨cfC, kC, iC, gC⟩, stC⟩
  have hA : Ch b A P.U := ⟨⟨K.1, State.isArrayOf_alike al K.2.1, K.2.2, by omega⟩, hty⟩
  have hS : StaticIs P.U ST "COMPACT_STRINGS" "Z" (.int z) := by
    obtain ⟨cfS, iS, kS, fS, st, cS, t1, t2, t3, t4, t5, t6, t7⟩ := S
    exact StaticIs.there (s := { Z with heap := P.U.heap }) ⟨cfS, iS, kS, fS, st, cS, t1, t2, t3, t4, t5, (fun q => by rw [q] at t6; cases t6), t7⟩ al rfl
  obtain ⟨v, B, X', ⟨⟨hv, E', V', q1, q2, q3, q4, q5, q6, q7, q8, q9, q10, q11⟩, hl, hc, hs⟩, st⟩ := New1.pays x D fV fC b A z (tab_of (moved hZ hw)) hfr hlo m meth c P g ig mk _ X hg hsize hdg hW hn ⟨r1, r2, rfl, hB, F1, F2, hA, hS, hz, l0, l2, hp⟩
  have al' : Z.vm.Alike B.U.vm := hZ.alike.trans X'.warmed.alike
  have hsz : E'.slots.size = D.slots.size := by
    obtain ⟨-, -, -, kB, w1, w2, w3⟩ := q1
    obtain ⟨kB', y1, y2⟩ := al'.2.2 _ _ e3
    rw [q2.2.1] at w1
    cases w1.symm.trans y1
    rw [w3, e5 i3, y2]
  refine ⟨v, B, X', ⟨_, ⟨hv, ?_, ⟨by omega, fun y cy hy hn' => q10 y cy (by simpa using hn') hy, fun y cy hy => ?_⟩, q11, ⟨E', _, q1.1, by rw [q2.2.1]; exact e2, by rw [q2.2.1]; exact e3, by rw [q2.1]; exact obV, fun _ => by rw [hsz]; exact e5 i3⟩,
    ⟨E', cfV, kV, iV, fV, q1.1, gV, stV, by rw [q2.1]; exact knV, by rw [q2.1]; exact obV, by rw [q2.2.1]; exact asV, q3⟩, ⟨E', cfC, kC, iC, fC, q1.1, gC, stC, by rw [q2.1]; exact knV, by rw [q2.1]; exact obV, by rw [q2.2.1]; exact asC, q4⟩,
    ⟨V', ⟨q5.1, State.isArrayOf_alike al'.symm q5.2.1, q5.2.2.1⟩, q6, by rw [← al'.findClass]; exact q7, q8, fun j hj => by have := q9 j hj; rwa [Nat.zero_add] at this⟩, fun O n d w F n1 n2 => ?_⟩, hl, hc, hs⟩, st⟩
  · intro y hy
    simp only [List.mem_cons, List.not_mem_nil, or_false] at hy
    rcases hy with rfl | rfl <;> rfl
  · by_cases q : y = x
    · subst q
      cases hD.symm.trans hy
      exact ⟨E', q1.1, q2.2.1, q2.1, hsz⟩
    · exact ⟨cy, q10 y cy q hy, rfl, rfl, rfl⟩
  · obtain ⟨D3, cf, k, i, f, g1, g2, g3, g4, g5, g6, g7⟩ := F
    cases hD.symm.trans g1
    simp only [RoadKit.slotOf, g2, gV, gC, Option.map_some, Option.getD_some] at n1 n2
    exact ⟨E', cf, k, i, f, q1.1, g2, g3, by rw [q2.1]; exact g4, by rw [q2.1]; exact g5, by rw [q2.2.1]; exact g6, by rw [q2.2.2 f.slot (by simp [n1, n2])]; exact g7⟩
end StrChars.Road
namespace StrChars.Road
open Jvm Sem ClassFile Op Lib Jvm.Stand Jvm.Free Jvm.Free.XT
/-- WHAT COMES BACK, the byte[] as a list of values -/
def QA (Z : State) (x : Addr) (zn : Int32) (cs : List Int32) (h : Heap) (v : Option Value) (h' : Heap) (L : List Loc) : Prop := v = none ∧ (∀ y ∈ L, y.base = x) ∧ RoadKit.Keep h h' [x] ∧ h'.size = h.size + 1 ∧ RoadKit.Exa Z h' x ST ∧ RoadKit.Fld Z h' x ST "value" "[B" (.ref h.size) ∧ RoadKit.Fld Z h' x ST "coder" "B" (.int 0) ∧
  (∃ kb, Z.vm.findClass "[B" = some kb ∧ RoadKit.Arv Z h' h.size kb .byte zn (cs.map fun c => .int (lo8 c)) (.int 0)) ∧
  ∀ (O n d : String) (w : Value), RoadKit.Fld Z h x O n d w → RoadKit.slotOf Z O n d ≠ RoadKit.slotOf Z ST "value" "[B" → RoadKit.slotOf Z O n d ≠ RoadKit.slotOf Z ST "coder" "B" → RoadKit.Fld Z h' x O n d w
/-- **new String(chars) AT A CALL, THE ARRAYS AS LISTS**: the char[] at b holds cs, not empty, no char above 255 -/
theorem backArv {p : Program} {l : Launch} {e : Env} {R : Room} {s : State} {args : Array Value} {below : List Frame} {len W : Nat} {Z : State} {a0 : Array Value} {h : Heap} (hZ : Z.Warmed39 s.vm) (hw : ∀ d ∈ words, d.before a0 Z = true) {kI : Nat} (wi : (Jvm.Cond.instantiable ST kI).before a0 Z = true)
    {x b : Addr} {k : ClassId} {zn z : Int32} {cs : List Int32} {dv v0 c0 : Value} (E : RoadKit.Exa Z h x ST) (V : RoadKit.Fld Z h x ST "value" "[B" v0) (C : RoadKit.Fld Z h x ST "coder" "B" c0) (K : RoadKit.Arv Z h b k .char zn (cs.map Value.int) dv) (S : RoadKit.Sta Z h ST "COMPACT_STRINGS" "Z" (.int z)) (hz : ¬ z = 0)
    (hlen : zn.toNatClampNeg = cs.length) (h0 : 0 < cs.length) (hbig : cs.length ≤ 536870912) (hall : ∀ c ∈ cs, ¬ 255 < c) (hfr : 4 ≤ R.frames) (hlo : W + 65 ≤ R.locals) :
    Back l R p e below s args New1.yN len W (fun P a => a = #[.ref x, .ref b] ∧ P.U.heap = h ∧ P.cells + 1 ≤ R.cells ∧ P.slots + cs.length ≤ R.slots)
      (fun P _ v B => ∃ L, QA Z x zn cs h v B.U.heap L ∧ B.locs = P.locs ++ L ∧ B.cells = P.cells + 1 ∧ B.slots = P.slots + cs.length) := by
  obtain ⟨A, K1, K2, K3, K4, K5, K6⟩ := K
  have e : A.slots.size = cs.length := K3.trans hlen
  have hat : ∀ (i : Nat) (hi : i < cs.length), A.slots[i]? = some (.int cs[i]) := fun i hi => by rw [K5 i (by omega)]; simp [List.getD_eq_getElem?_getD, hi]
  have hcv : ∀ (i : Nat) (hi : i < cs.length), cv A i = cs[i] := fun i hi => by unfold cv; rw [hat i hi]
  have hty : Typed .char A := fun i v hv => by
    have hi : i < A.slots.size := (Array.getElem?_eq_some_iff.mp hv).1
    have q := K5 i hi
    rw [hv] at q
    rw [Option.some.inj q]
    exact K6 i hi
  refine Back.mono (back hZ hw wi E V C K1 hty S hz (by omega) (by omega) (fun i hi => by rw [hcv i (by omega)]; exact hall _ (List.getElem_mem _)) hfr hlo) (fun P a hp => ⟨hp.1, hp.2.1, hp.2.2.1, by rw [e]; exact hp.2.2.2⟩) (fun P a v B hp hq => ?_)
  obtain ⟨L, ⟨q1, q2, q3, q4, q5, q6, q7, ⟨V', v1, v2, v3, v4, v5⟩, q9⟩, hl, hc, hs⟩ := hq
  refine ⟨L, ⟨q1, q2, q3, q4, q5, q6, q7, ⟨V'.cls, v3, V', v1, rfl, by rw [v4, e, hlen], K4, fun i hi => ?_, fun i hi => ?_⟩, q9⟩, hl, hc, by rw [hs, e]⟩
  · have hi' : i < cs.length := by omega
    rw [v5 i (by omega), hcv i hi']; simp [List.getD_eq_getElem?_getD, hi']
  · have hi' : i < cs.length := by omega
    simp only [List.getD_eq_getElem?_getD, List.getElem?_map, List.getElem?_eq_getElem hi', Option.map_some, Option.getD_some]
    exact fits_lo8 _
end StrChars.Road
namespace StrChars.Road
open Jvm Sem ClassFile Op Lib Jvm.Stand Jvm.Free Jvm.Free.XT
/-- WHAT COMES BACK, in the writer's own shape -/
def QV (Z : State) (x : Addr) (N : Int32) (bs : List Int32) (h : Heap) (n0 : Nat) (v : Option Value) (h' : Heap) (L : List Loc) : Prop := v = none ∧ RoadKit.Fr n0 L ∧ RoadKit.Keep h h' [x] ∧ RoadKit.Exa Z h' x ST ∧ RoadKit.Fld Z h' x ST "coder" "B" (.int 0) ∧
  ∃ (t : Addr) (kb : ClassId), n0 ≤ t ∧ h.size ≤ t ∧ ¬ t = x ∧ RoadKit.Fld Z h' x ST "value" "[B" (.ref t) ∧ RoadKit.Arv Z h' t kb .byte N (bs.map Value.int) (.int 0)
/-- **new String(chars) AT A CALL, FOR THE WRITER**: a char[] of n known ints, each 0 to 255 -/
theorem backV {p : Program} {l : Launch} {e : Env} {R : Room} {s : State} {args : Array Value} {below : List Frame} {len W : Nat} {Z : State} {a0 : Array Value} {h : Heap} (hZ : Z.Warmed39 s.vm) (hw : ∀ d ∈ words, d.before a0 Z = true) {kI : Nat} (wi : (Jvm.Cond.instantiable ST kI).before a0 Z = true)
    {x b : Addr} {kC : ClassId} {cs bs : List Int32} {d v0 c0 : Value} {z N : Int32} {n n0 : Nat} (hx0 : n0 ≤ x) (hh0 : n0 ≤ h.size) (E : RoadKit.Exa Z h x ST) (V : RoadKit.Fld Z h x ST "value" "[B" v0) (C : RoadKit.Fld Z h x ST "coder" "B" c0) (K : RoadKit.Arv Z h b kC .char N (cs.map Value.int) d) (S : RoadKit.Sta Z h ST "COMPACT_STRINGS" "Z" (.int z)) (hz : ¬ z = 0)
    (hn : cs.length = n) (hN : N = Int32.ofNat n) (l0 : 0 < n) (l2 : n ≤ 4000) (hp : ∀ c ∈ cs, ¬ c < 0 ∧ ¬ (255 : Int32) < c) (hb : bs = cs.map (fun c => c.toInt8.toInt32)) (hfr : 4 ≤ R.frames) (hlo : W + 65 ≤ R.locals) :
    Back l R p e below s args (⟨"java/lang/String", "<init>", "([C)V"⟩ : MethodName) len W (fun P a => a = #[.ref x, .ref b] ∧ P.U.heap = h ∧ P.cells + 1 ≤ R.cells ∧ P.slots + n ≤ R.slots)
      (fun P _ v B => ∃ L, QV Z x N bs h n0 v B.U.heap L ∧ B.locs = P.locs ++ L ∧ B.cells = P.cells + 1 ∧ B.slots = P.slots + n) := by
  subst hn hN hb
  refine Back.mono (backArv hZ hw wi E V C K S hz (n32 (by omega)) l0 (by omega) (fun c hc => (hp c hc).2) hfr hlo) (fun P a hp => hp) (fun P a v B hp hq => ?_)
  obtain ⟨L, ⟨q1, q2, q3, q4, q5, q6, q7, ⟨kb, v1, v2⟩, q9⟩, hl, hc, hs⟩ := hq
  exact ⟨L, ⟨q1, fun y hy => by rw [q2 y hy]; exact hx0, q3, q5, q7, h.size, kb, hh0, Nat.le_refl _, Nat.ne_of_gt E.lt, q6, by rw [List.map_map]; exact v2⟩, hl, hc, hs⟩
end StrChars.Road
end Jvm.Pilot.@@N@@
namespace Jvm.Pilot.@@N@@
open Jvm Jvm.ClassFile Sem Op Lib Jvm.Free Jvm.Stand Jvm.LawKit Jvm.RoadKit Bundle Jvm.Pilot.@@N@@.Jvm.D
section OwnSmall
variable {x y : Int32} {v : Value}
theorem qEqT (h : x = y) : if_icmp.holds .eq x y = true := (teq h).1
theorem qEqF (h : ¬ x = y) : if_icmp.holds .eq x y = false := (feq h).1
theorem qNeT (h : ¬ x = y) : if_icmp.holds .ne x y = true := (feq h).2
theorem qNeF (h : x = y) : if_icmp.holds .ne x y = false := (teq h).2
theorem qLtT (h : x < y) : if_icmp.holds .lt x y = true := (tlt h).1
theorem qGeF (h : x < y) : if_icmp.holds .ge x y = false := (tlt h).2.1
theorem qGtT (h : y < x) : if_icmp.holds .gt x y = true := (tlt h).2.2.1
theorem qLeF (h : y < x) : if_icmp.holds .le x y = false := (tlt h).2.2.2
theorem qLtF (h : ¬ x < y) : if_icmp.holds .lt x y = false := by simp [if_icmp.holds, h]
theorem qGeT (h : ¬ x < y) : if_icmp.holds .ge x y = true := by
  have h' : y ≤ x := by rw [Int32.le_iff_toInt_le]; rw [Int32.lt_iff_toInt_lt] at h; omega
  simp [if_icmp.holds, h']
theorem qGtF (h : ¬ y < x) : if_icmp.holds .gt x y = false := by simp [if_icmp.holds, h]
theorem qLeT (h : ¬ y < x) : if_icmp.holds .le x y = true := by
  have h' : x ≤ y := by rw [Int32.le_iff_toInt_le]; rw [Int32.lt_iff_toInt_lt] at h; omega
  simp [if_icmp.holds, h']
theorem zEqT (h : x = 0) : ifCond.holds .eq x = true := by rw [if0]; exact qEqT h
theorem zEqF (h : ¬ x = 0) : ifCond.holds .eq x = false := by rw [if0]; exact qEqF h
theorem zNeT (h : ¬ x = 0) : ifCond.holds .ne x = true := by rw [if0]; exact qNeT h
theorem zNeF (h : x = 0) : ifCond.holds .ne x = false := by rw [if0]; exact qNeF h
theorem zLtT (h : x < 0) : ifCond.holds .lt x = true := by rw [if0]; exact qLtT h
theorem zLtF (h : ¬ x < 0) : ifCond.holds .lt x = false := by rw [if0]; exact qLtF h
theorem zGeT (h : ¬ x < 0) : ifCond.holds .ge x = true := by rw [if0]; exact qGeT h
theorem zGeF (h : x < 0) : ifCond.holds .ge x = false := by rw [if0]; exact qGeF h
theorem zGtT (h : 0 < x) : ifCond.holds .gt x = true := by rw [if0]; exact qGtT h
theorem zGtF (h : ¬ 0 < x) : ifCond.holds .gt x = false := by rw [if0]; exact qGtF h
theorem zLeT (h : ¬ 0 < x) : ifCond.holds .le x = true := by rw [if0]; exact qLeT h
theorem zLeF (h : 0 < x) : ifCond.holds .le x = false := by rw [if0]; exact qLeF h
theorem cat1 (h : v.isRef = true) : v.category = 1 := by cases v <;> first | rfl | cases h
theorem nrR {c : String} (h : v.isRef = true) : narrow (.object c) v = v := by cases v <;> first | rfl | cases h
theorem ftR {c : String} (h : v.isRef = true) : fits (.object c) v = true := by cases v <;> first | rfl | cases h
/-- a char below 256 -/
def Chr (c : Int32) : Prop := ¬ c < 0 ∧ ¬ (255 : Int32) < c
theorem Chr.nar {c : Int32} (h : Chr c) : nar .char c = c := by
  have q := c_i2c c
  show c.toUInt32.toUInt16.toUInt32.toInt32 = c
  apply Int32.toInt_inj.mp
  have h1 := h.1
  have h2 := h.2
  rw [Int32.lt_iff_toInt_lt] at h1 h2
  have e1 : (0 : Int32).toInt = 0 := rfl
  have e2 : (255 : Int32).toInt = 255 := rfl
  omega
theorem chr255 (z : Int32) : Chr ((z &&& (255 : Int32)).toUInt32.toUInt16.toUInt32.toInt32) := by
  rw [i2c_mask]
  have q := c_and z 255 (by decide)
  have e1 : (0 : Int32).toInt = 0 := rfl
  have e2 : (255 : Int32).toInt = 255 := rfl
  refine ⟨fun h => ?_, fun h => ?_⟩ <;> rw [Int32.lt_iff_toInt_lt] at h <;> omega
end OwnSmall
end Jvm.Pilot.@@N@@
namespace Jvm.Pilot.@@N@@
open Jvm Jvm.ClassFile Sem Op Lib Jvm.Free Jvm.Stand Jvm.LawKit Jvm.RoadKit Bundle Jvm.Pilot.@@N@@.Jvm.D
section OwnKit
/-- from (T, f) the run comes to an end of which P speaks -/
def Go (p : Program) (e : Env) (below : List Frame) (P : Outcome → State → Prop) (T : State) (f : JFrame) : Prop :=
  ∃ s₂ o, Steps p.tables e below (T.setTop f) s₂ ∧ s₂.status = .running ∧ Ended s₂ below o ∧ P o s₂
/-- the end of a body: narrow (nothing interned) or wide -/
def EndB (wd : Bool) (EL : List (String × Nat)) (Z s : State) (o : Outcome) (t : State) (L : List Loc) (k n : Nat) : Prop :=
  match wd with
  | true => CHr Z EL s.vm s.heap t.vm t.heap ∧ ReturnedEndW s o t L k n
  | false => FrameEnd s o t L k n
def Done (wd : Bool) (EL : List (String × Nat)) (Z s : State) (n0 : Nat) (h0 : Heap) (ws : List Addr) (rc rs : Nat) (Q : Option Value → Heap → Prop) (o : Outcome) (U : State) : Prop :=
  ∃ v L, o = .returned v ∧ (Q v U.heap ∧ Keep h0 U.heap ws ∧ Fr n0 L) ∧ EndB wd EL Z s o U L rc rs
/-- where a walk stands: its state T, its heap h; F: places that no booked literal lies in; ws0: what may be written of what stood at the body's start -/
def Sd (wd : Bool) (EL : List (String × Nat)) (a0 : Array Value) (p : Program) (l : Launch) (e : Env) (R : Room) (s : State) (m : MethodId) (args : Array Value) (below : List Frame) (meth : Method) (c : Code) (Z : State) (own : String) (n0 : Nat) (h0 : Heap) (ws0 : List Addr)
    (T : State) (h : Heap) (F : List Addr) (locs : List Loc) (cells slots : Nat) : Prop :=
  (p.tables.exec = Jvm.exec ∧ meth.locks = false ∧ EW Z a0 EL ∧ s.heap = h0 ∧ Old Z n0 h0 ∧ ∀ x ∈ ws0, n0 ≤ x) ∧
  ∃ vm0 k0, (wd = false → vm0 = s.vm) ∧ Stand p l e R (s.setVm vm0) m args below meth c T locs cells slots ∧ T.heap = h ∧ s.Since vm0 k0 ∧ k0 ≤ h.size ∧ Z.Warmed39 vm0 ∧ vm0.findClass own = some m.cls ∧ Old Z n0 h ∧ Fr n0 locs ∧ Keep h0 h ws0 ∧
    CHr Z EL s.vm s.heap vm0 h ∧ ∀ x ∈ F, Safe Z EL vm0 h x ∧ x < h.size
variable {wd : Bool} {EL : List (String × Nat)} {a0 : Array Value} {p : Program} {l : Launch} {e : Env} {R : Room} {s : State} {m : MethodId} {args : Array Value} {below : List Frame} {meth : Method} {c : Code} {Z : State} {own : String} {n0 : Nat} {h0 : Heap} {ws0 : List Addr}
  {T T' : State} {h h' : Heap} {F F' : List Addr} {locs locs' : List Loc} {cells slots cells' slots' : Nat} {P : Outcome → State → Prop} {pc pc' : Nat} {Ls : Array Slot} {st rest : List Value} {f f' : JFrame} {vm0 : Vm} {k0 : Nat} {ws : List Addr}
theorem Go.by (k : ∀ t, Steps p.tables e below (T'.setTop f') t → Steps p.tables e below (T.setTop f) t) (g : Go p e below P T' f') : Go p e below P T f := by
  obtain ⟨s₂, o, h1, h2⟩ := g
  exact ⟨s₂, o, k _ h1, h2⟩
theorem Go.cast (q : f = f') (g : Go p e below P T f') : Go p e below P T f := q ▸ g
theorem own_ole (O : Old Z n0 h) : n0 ≤ h.size := by rw [← O.1]; exact O.2.1
/-- what may be written -/
def Wok (n0 : Nat) (h0 : Heap) (ws0 : List Addr) (a : Addr) : Prop := a ∈ ws0 ∨ h0.size ≤ a
theorem Wok.le {a : Addr} (w : Wok n0 h0 ws0 a) (h1 : n0 ≤ h0.size) (h2 : ∀ x ∈ ws0, n0 ≤ x) : n0 ≤ a := by
  rcases w with w | w
  · exact h2 _ w
  · exact Nat.le_trans h1 w
theorem Sd.hx (S : Sd wd EL a0 p l e R s m args below meth c Z own n0 h0 ws0 T h F locs cells slots) : p.tables.exec = Jvm.exec := S.1.1
theorem Sd.at (S : Sd wd EL a0 p l e R s m args below meth c Z own n0 h0 ws0 T h F locs cells slots) : At T m c below := by
  obtain ⟨-, vm0, k0, -, X, -⟩ := S
  exact X.here
theorem Sd.old (S : Sd wd EL a0 p l e R s m args below meth c Z own n0 h0 ws0 T h F locs cells slots) : Old Z n0 h := by
  obtain ⟨-, vm0, k0, -, -, -, -, -, -, -, O, -⟩ := S
  exact O
theorem Sd.kept (S : Sd wd EL a0 p l e R s m args below meth c Z own n0 h0 ws0 T h F locs cells slots) : Keep h0 h ws0 := by
  obtain ⟨-, vm0, k0, -, -, -, -, -, -, -, -, -, K, -⟩ := S
  exact K
theorem Sd.sz (S : Sd wd EL a0 p l e R s m args below meth c Z own n0 h0 ws0 T h F locs cells slots) : n0 ≤ h.size := Nat.le_trans (own_ole S.1.2.2.2.2.1) S.kept.1
theorem Sd.ge (S : Sd wd EL a0 p l e R s m args below meth c Z own n0 h0 ws0 T h F locs cells slots) {a : Addr} (w : Wok n0 h0 ws0 a) : n0 ≤ a := w.le (own_ole S.1.2.2.2.2.1) S.1.2.2.2.2.2
/-- the walk goes on over the same tables: the heap moved by a Keep -/
theorem Sd.close (A : p.tables.exec = Jvm.exec ∧ meth.locks = false ∧ EW Z a0 EL ∧ s.heap = h0 ∧ Old Z n0 h0 ∧ ∀ x ∈ ws0, n0 ≤ x) (hv : wd = false → vm0 = s.vm) (X : Stand p l e R (s.setVm vm0) m args below meth c T' locs' cells' slots') (eT : T'.heap = h') (hS : s.Since vm0 k0) (hk : k0 ≤ h.size) (hZ : Z.Warmed39 vm0) (hown : vm0.findClass own = some m.cls) (O : Old Z n0 h) (N : Fr n0 locs') (K0 : Keep h0 h ws0)
    (C : CHr Z EL s.vm s.heap vm0 h) (hF : ∀ x ∈ F, Safe Z EL vm0 h x ∧ x < h.size) (K : Keep h h' ws) (hws : ∀ x ∈ ws, Wok n0 h0 ws0 x ∧ Safe Z EL vm0 h x) (hF' : ∀ x ∈ F', x ∈ F ∨ (h.size ≤ x ∧ x < h'.size)) : Sd wd EL a0 p l e R s m args below meth c Z own n0 h0 ws0 T' h' F' locs' cells' slots' := by
  have hsf : ∀ x ∈ ws, Safe Z EL vm0 h x := fun x hx => (hws x hx).2
  refine ⟨A, vm0, k0, hv, X, eT, hS, Nat.le_trans hk K.1, hZ, hown, O.keep K fun x hx => (hws x hx).1.le (own_ole A.2.2.2.2.1) A.2.2.2.2.2, N, K0.trans K fun x hx => (hws x hx).1, C.trans (CHr.keep K hsf C.1), fun x hx => ?_⟩
  rcases hF' x hx with q | ⟨q1, q2⟩
  · exact ⟨Safe.keep K hsf C.1 (hF x q).1, Nat.lt_of_lt_of_le (hF x q).2 K.1⟩
  · exact ⟨Safe.keep K hsf C.1 (Safe.new q1), q2⟩
theorem Ext.kp (E : Ext h h') : Keep h h' [] := (Keep.refl h []).ext E
theorem noWs : ∀ x ∈ ([] : List Addr), Wok n0 h0 ws0 x ∧ Safe Z EL vm0 h x := fun _ q => nomatch q
/-! ### plain steps -/
theorem Sd.aloadN (S : Sd wd EL a0 p l e R s m args below meth c Z own n0 h0 ws0 T h F locs cells slots) {k : Fin 4} {v : Value} (pc' : Nat) (hd : decode c.code pc = .ok (.aload_n k, 1)) (hl : Ls[k.val]? = some (.val v)) (hv : v.isRef = true) (g : Go p e below P T (mkF m pc' Ls (v :: st))) (hp : pc + 1 = pc' := by rfl) : Go p e below P T (mkF m pc Ls st) := by
  subst hp; exact Go.by (fun _ q => XS.aloadN S.at S.hx rfl hd hl hv q) g
theorem Sd.aload (S : Sd wd EL a0 p l e R s m args below meth c Z own n0 h0 ws0 T h F locs cells slots) {k : Nat} {v : Value} (pc' : Nat) (hd : decode c.code pc = .ok (.aload k, 2)) (hl : Ls[k]? = some (.val v)) (hv : v.isRef = true) (g : Go p e below P T (mkF m pc' Ls (v :: st))) (hp : pc + 2 = pc' := by rfl) : Go p e below P T (mkF m pc Ls st) := by
  subst hp; exact Go.by (fun _ q => XS.aload S.at S.hx rfl hd hl hv q) g
theorem Sd.iloadN (S : Sd wd EL a0 p l e R s m args below meth c Z own n0 h0 ws0 T h F locs cells slots) {k : Fin 4} {v : Int32} (pc' : Nat) (hd : decode c.code pc = .ok (.iload_n k, 1)) (hl : Ls[k.val]? = some (.val (.int v))) (g : Go p e below P T (mkF m pc' Ls (.int v :: st))) (hp : pc + 1 = pc' := by rfl) : Go p e below P T (mkF m pc Ls st) := by
  subst hp; exact Go.by (fun _ q => XS.iloadN S.at S.hx rfl hd hl q) g
theorem Sd.iload (S : Sd wd EL a0 p l e R s m args below meth c Z own n0 h0 ws0 T h F locs cells slots) {k : Nat} {v : Int32} (pc' : Nat) (hd : decode c.code pc = .ok (.iload k, 2)) (hl : Ls[k]? = some (.val (.int v))) (g : Go p e below P T (mkF m pc' Ls (.int v :: st))) (hp : pc + 2 = pc' := by rfl) : Go p e below P T (mkF m pc Ls st) := by
  subst hp; exact Go.by (fun _ q => XS.iload S.at S.hx rfl hd hl q) g
theorem Sd.lloadN (S : Sd wd EL a0 p l e R s m args below meth c Z own n0 h0 ws0 T h F locs cells slots) {k : Fin 4} {v : Int64} (pc' : Nat) (hd : decode c.code pc = .ok (.lload_n k, 1)) (hl : Ls[k.val]? = some (.val (.long v))) (g : Go p e below P T (mkF m pc' Ls (.long v :: st))) (hp : pc + 1 = pc' := by rfl) : Go p e below P T (mkF m pc Ls st) := by
  subst hp; exact Go.by (fun _ q => XS.lloadN S.at S.hx rfl hd hl q) g
theorem Sd.lload (S : Sd wd EL a0 p l e R s m args below meth c Z own n0 h0 ws0 T h F locs cells slots) {k : Nat} {v : Int64} (pc' : Nat) (hd : decode c.code pc = .ok (.lload k, 2)) (hl : Ls[k]? = some (.val (.long v))) (g : Go p e below P T (mkF m pc' Ls (.long v :: st))) (hp : pc + 2 = pc' := by rfl) : Go p e below P T (mkF m pc Ls st) := by
  subst hp; exact Go.by (fun _ q => XS.lload S.at S.hx rfl hd hl q) g
theorem Sd.iconst (S : Sd wd EL a0 p l e R s m args below meth c Z own n0 h0 ws0 T h F locs cells slots) {i : Int} (pc' : Nat) (z : Int32) (hd : decode c.code pc = .ok (.iconst i, 1)) (g : Go p e below P T (mkF m pc' Ls (.int z :: st))) (hp : pc + 1 = pc' := by rfl) (hz : Int32.ofInt i = z := by rfl) : Go p e below P T (mkF m pc Ls st) := by
  subst hp hz; exact Go.by (fun _ q => XS.iconst S.at S.hx rfl hd q) g
theorem Sd.bipush (S : Sd wd EL a0 p l e R s m args below meth c Z own n0 h0 ws0 T h F locs cells slots) {i : Int} (pc' : Nat) (z : Int32) (hd : decode c.code pc = .ok (.bipush i, 2)) (g : Go p e below P T (mkF m pc' Ls (.int z :: st))) (hp : pc + 2 = pc' := by rfl) (hz : (Int8.ofInt i).toInt32 = z := by rfl) : Go p e below P T (mkF m pc Ls st) := by
  subst hp hz; exact Go.by (fun _ q => XS.bipush S.at S.hx rfl hd q) g
theorem Sd.sipush (S : Sd wd EL a0 p l e R s m args below meth c Z own n0 h0 ws0 T h F locs cells slots) {i : Int} (pc' : Nat) (z : Int32) (hd : decode c.code pc = .ok (.sipush i, 3)) (g : Go p e below P T (mkF m pc' Ls (.int z :: st))) (hp : pc + 3 = pc' := by rfl) (hz : (Int16.ofInt i).toInt32 = z := by rfl) : Go p e below P T (mkF m pc Ls st) := by
  subst hp hz; exact Go.by (fun _ q => XS.sipush S.at S.hx rfl hd q) g
theorem Sd.lconst (S : Sd wd EL a0 p l e R s m args below meth c Z own n0 h0 ws0 T h F locs cells slots) {i : Fin 2} (pc' : Nat) (z : Int64) (hd : decode c.code pc = .ok (.lconst i, 1)) (g : Go p e below P T (mkF m pc' Ls (.long z :: st))) (hp : pc + 1 = pc' := by rfl) (hz : Int64.ofNat i = z := by rfl) : Go p e below P T (mkF m pc Ls st) := by
  subst hp hz; exact Go.by (fun _ q => XS.lconst S.at S.hx rfl hd q) g
theorem Sd.anull (S : Sd wd EL a0 p l e R s m args below meth c Z own n0 h0 ws0 T h F locs cells slots) (pc' : Nat) (hd : decode c.code pc = .ok (.aconst_null, 1)) (g : Go p e below P T (mkF m pc' Ls (.null :: st))) (hp : pc + 1 = pc' := by rfl) : Go p e below P T (mkF m pc Ls st) := by
  subst hp; exact Go.by (fun _ q => XS.aconstNull S.at S.hx rfl hd q) g
theorem Sd.istoreN (S : Sd wd EL a0 p l e R s m args below meth c Z own n0 h0 ws0 T h F locs cells slots) {k : Fin 4} {x : Int32} (pc' : Nat) (l' : Array Slot) (hd : decode c.code pc = .ok (.istore_n k, 1)) (hl : storeLocals Ls k.val (.int x) = some l') (g : Go p e below P T (mkF m pc' l' st)) (hp : pc + 1 = pc' := by rfl) : Go p e below P T (mkF m pc Ls (.int x :: st)) := by
  subst hp; exact Go.by (fun _ q => XS.istoreN S.at S.hx rfl hd rfl hl q) g
theorem Sd.istore (S : Sd wd EL a0 p l e R s m args below meth c Z own n0 h0 ws0 T h F locs cells slots) {k : Nat} {x : Int32} (pc' : Nat) (l' : Array Slot) (hd : decode c.code pc = .ok (.istore k, 2)) (hl : storeLocals Ls k (.int x) = some l') (g : Go p e below P T (mkF m pc' l' st)) (hp : pc + 2 = pc' := by rfl) : Go p e below P T (mkF m pc Ls (.int x :: st)) := by
  subst hp; exact Go.by (fun _ q => XS.istore S.at S.hx rfl hd rfl hl q) g
theorem Sd.lstoreN (S : Sd wd EL a0 p l e R s m args below meth c Z own n0 h0 ws0 T h F locs cells slots) {k : Fin 4} {x : Int64} (pc' : Nat) (l' : Array Slot) (hd : decode c.code pc = .ok (.lstore_n k, 1)) (hl : storeLocals Ls k.val (.long x) = some l') (g : Go p e below P T (mkF m pc' l' st)) (hp : pc + 1 = pc' := by rfl) : Go p e below P T (mkF m pc Ls (.long x :: st)) := by
  subst hp; exact Go.by (fun _ q => XS.lstoreN S.at S.hx rfl hd rfl hl q) g
theorem Sd.lstore (S : Sd wd EL a0 p l e R s m args below meth c Z own n0 h0 ws0 T h F locs cells slots) {k : Nat} {x : Int64} (pc' : Nat) (l' : Array Slot) (hd : decode c.code pc = .ok (.lstore k, 2)) (hl : storeLocals Ls k (.long x) = some l') (g : Go p e below P T (mkF m pc' l' st)) (hp : pc + 2 = pc' := by rfl) : Go p e below P T (mkF m pc Ls (.long x :: st)) := by
  subst hp; exact Go.by (fun _ q => XS.lstore S.at S.hx rfl hd rfl hl q) g
theorem Sd.astoreN (S : Sd wd EL a0 p l e R s m args below meth c Z own n0 h0 ws0 T h F locs cells slots) {k : Fin 4} {x : Value} (pc' : Nat) (l' : Array Slot) (hd : decode c.code pc = .ok (.astore_n k, 1)) (hv : x.isRef = true) (hl : storeLocals Ls k.val x = some l') (g : Go p e below P T (mkF m pc' l' st)) (hp : pc + 1 = pc' := by rfl) : Go p e below P T (mkF m pc Ls (x :: st)) := by
  subst hp; exact Go.by (fun _ q => XS.astoreN S.at S.hx rfl hd rfl hv hl q) g
theorem Sd.astore (S : Sd wd EL a0 p l e R s m args below meth c Z own n0 h0 ws0 T h F locs cells slots) {k : Nat} {x : Value} (pc' : Nat) (l' : Array Slot) (hd : decode c.code pc = .ok (.astore k, 2)) (hv : x.isRef = true) (hl : storeLocals Ls k x = some l') (g : Go p e below P T (mkF m pc' l' st)) (hp : pc + 2 = pc' := by rfl) : Go p e below P T (mkF m pc Ls (x :: st)) := by
  subst hp; exact Go.by (fun _ q => XS.astore S.at S.hx rfl hd rfl hv hl q) g
theorem Sd.iinc (S : Sd wd EL a0 p l e R s m args below meth c Z own n0 h0 ws0 T h F locs cells slots) {k : Nat} {cst : Int} {x : Int32} (pc' : Nat) (l' : Array Slot) (hd : decode c.code pc = .ok (.iinc k cst, 3)) (hl : Ls[k]? = some (.val (.int x))) (hl' : storeLocals Ls k (.int (x + Int32.ofInt cst)) = some l') (g : Go p e below P T (mkF m pc' l' st)) (hp : pc + 3 = pc' := by rfl) : Go p e below P T (mkF m pc Ls st) := by
  subst hp; exact Go.by (fun _ q => XS.iinc S.at S.hx rfl hd hl hl' q) g
theorem Sd.goto (S : Sd wd EL a0 p l e R s m args below meth c Z own n0 h0 ws0 T h F locs cells slots) {o : Int} (pc' : Nat) (hd : decode c.code pc = .ok (.goto o, 3)) (g : Go p e below P T (mkF m pc' Ls st)) (ho : 0 ≤ (pc : Int) + o := by decide) (hp : ((pc : Int) + o).toNat = pc' := by decide) : Go p e below P T (mkF m pc Ls st) :=
  Go.by (fun _ q => XS.goto S.at S.hx rfl rfl hd ho hp q) g
theorem Sd.ifY (S : Sd wd EL a0 p l e R s m args below meth c Z own n0 h0 ws0 T h F locs cells slots) {cd : ClassFile.Cond} {x : Int32} {o : Int} (pc' : Nat) (hd : decode c.code pc = .ok (.ifCond cd o, 3)) (hc : ifCond.holds cd x = true) (g : Go p e below P T (mkF m pc' Ls st)) (ho : 0 ≤ (pc : Int) + o := by decide) (hp : ((pc : Int) + o).toNat = pc' := by decide) : Go p e below P T (mkF m pc Ls (.int x :: st)) :=
  Go.by (fun _ q => XS.ifYes S.at S.hx rfl rfl hd rfl hc ho hp q) g
theorem Sd.ifN (S : Sd wd EL a0 p l e R s m args below meth c Z own n0 h0 ws0 T h F locs cells slots) {cd : ClassFile.Cond} {x : Int32} {o : Int} (pc' : Nat) (hd : decode c.code pc = .ok (.ifCond cd o, 3)) (hc : ifCond.holds cd x = false) (g : Go p e below P T (mkF m pc' Ls st)) (hp : pc + 3 = pc' := by rfl) : Go p e below P T (mkF m pc Ls (.int x :: st)) := by
  subst hp; exact Go.by (fun _ q => XS.ifNo S.at S.hx rfl hd rfl hc q) g
theorem Sd.icmpY (S : Sd wd EL a0 p l e R s m args below meth c Z own n0 h0 ws0 T h F locs cells slots) {cd : ClassFile.Cond} {x y : Int32} {o : Int} (pc' : Nat) (hd : decode c.code pc = .ok (.if_icmp cd o, 3)) (hc : if_icmp.holds cd x y = true) (g : Go p e below P T (mkF m pc' Ls st)) (ho : 0 ≤ (pc : Int) + o := by decide) (hp : ((pc : Int) + o).toNat = pc' := by decide) : Go p e below P T (mkF m pc Ls (.int y :: .int x :: st)) :=
  Go.by (fun _ q => XS.icmpYes S.at S.hx rfl rfl hd rfl hc ho hp q) g
theorem Sd.icmpN (S : Sd wd EL a0 p l e R s m args below meth c Z own n0 h0 ws0 T h F locs cells slots) {cd : ClassFile.Cond} {x y : Int32} {o : Int} (pc' : Nat) (hd : decode c.code pc = .ok (.if_icmp cd o, 3)) (hc : if_icmp.holds cd x y = false) (g : Go p e below P T (mkF m pc' Ls st)) (hp : pc + 3 = pc' := by rfl) : Go p e below P T (mkF m pc Ls (.int y :: .int x :: st)) := by
  subst hp; exact Go.by (fun _ q => XS.icmpNo S.at S.hx rfl hd rfl hc q) g
theorem Sd.nullY (S : Sd wd EL a0 p l e R s m args below meth c Z own n0 h0 ws0 T h F locs cells slots) {o : Int} (pc' : Nat) (hd : decode c.code pc = .ok (.ifnull o, 3)) (g : Go p e below P T (mkF m pc' Ls st)) (ho : 0 ≤ (pc : Int) + o := by decide) (hp : ((pc : Int) + o).toNat = pc' := by decide) : Go p e below P T (mkF m pc Ls (.null :: st)) :=
  Go.by (fun _ q => XS.ifnullYes S.at S.hx rfl rfl hd rfl ho hp q) g
theorem Sd.nullN (S : Sd wd EL a0 p l e R s m args below meth c Z own n0 h0 ws0 T h F locs cells slots) {o : Int} {b : Addr} (pc' : Nat) (hd : decode c.code pc = .ok (.ifnull o, 3)) (g : Go p e below P T (mkF m pc' Ls st)) (hp : pc + 3 = pc' := by rfl) : Go p e below P T (mkF m pc Ls (.ref b :: st)) := by
  subst hp; exact Go.by (fun _ q => XS.ifnullNo S.at S.hx rfl hd rfl q) g
theorem Sd.nonnullY (S : Sd wd EL a0 p l e R s m args below meth c Z own n0 h0 ws0 T h F locs cells slots) {o : Int} {b : Addr} (pc' : Nat) (hd : decode c.code pc = .ok (.ifnonnull o, 3)) (g : Go p e below P T (mkF m pc' Ls st)) (ho : 0 ≤ (pc : Int) + o := by decide) (hp : ((pc : Int) + o).toNat = pc' := by decide) : Go p e below P T (mkF m pc Ls (.ref b :: st)) :=
  Go.by (fun _ q => XT.ifnonnullYes S.at S.hx rfl rfl hd rfl ho hp q) g
theorem Sd.nonnullN (S : Sd wd EL a0 p l e R s m args below meth c Z own n0 h0 ws0 T h F locs cells slots) {o : Int} (pc' : Nat) (hd : decode c.code pc = .ok (.ifnonnull o, 3)) (g : Go p e below P T (mkF m pc' Ls st)) (hp : pc + 3 = pc' := by rfl) : Go p e below P T (mkF m pc Ls (.null :: st)) := by
  subst hp; exact Go.by (fun _ q => XT.ifnonnullNo S.at S.hx rfl hd rfl q) g
theorem Sd.acmpY (S : Sd wd EL a0 p l e R s m args below meth c Z own n0 h0 ws0 T h F locs cells slots) {cd : ClassFile.ACond} {x y : Value} {o : Int} (pc' : Nat) (hd : decode c.code pc = .ok (.if_acmp cd o, 3)) (hx : x.isRef = true) (hy : y.isRef = true) (hc : XT.acmp cd x y = true) (g : Go p e below P T (mkF m pc' Ls st)) (ho : 0 ≤ (pc : Int) + o := by decide) (hp : ((pc : Int) + o).toNat = pc' := by decide) : Go p e below P T (mkF m pc Ls (y :: x :: st)) :=
  Go.by (fun _ q => XT.acmpYes S.at S.hx rfl rfl hd rfl hx hy hc ho hp q) g
theorem Sd.acmpN (S : Sd wd EL a0 p l e R s m args below meth c Z own n0 h0 ws0 T h F locs cells slots) {cd : ClassFile.ACond} {x y : Value} {o : Int} (pc' : Nat) (hd : decode c.code pc = .ok (.if_acmp cd o, 3)) (hx : x.isRef = true) (hy : y.isRef = true) (hc : XT.acmp cd x y = false) (g : Go p e below P T (mkF m pc' Ls st)) (hp : pc + 3 = pc' := by rfl) : Go p e below P T (mkF m pc Ls (y :: x :: st)) := by
  subst hp; exact Go.by (fun _ q => XT.acmpNo S.at S.hx rfl hd rfl hx hy hc q) g
theorem Sd.dup (S : Sd wd EL a0 p l e R s m args below meth c Z own n0 h0 ws0 T h F locs cells slots) {x : Value} (pc' : Nat) (hd : decode c.code pc = .ok (.dup, 1)) (hc : x.category = 1) (g : Go p e below P T (mkF m pc' Ls (x :: x :: st))) (hp : pc + 1 = pc' := by rfl) : Go p e below P T (mkF m pc Ls (x :: st)) := by
  subst hp; exact Go.by (fun _ q => XS.dup S.at S.hx rfl hd rfl hc q) g
theorem Sd.dupX1 (S : Sd wd EL a0 p l e R s m args below meth c Z own n0 h0 ws0 T h F locs cells slots) {x y : Value} (pc' : Nat) (hd : decode c.code pc = .ok (.dup_x1, 1)) (hc : x.category = 1) (hc' : y.category = 1) (g : Go p e below P T (mkF m pc' Ls (x :: y :: x :: st))) (hp : pc + 1 = pc' := by rfl) : Go p e below P T (mkF m pc Ls (x :: y :: st)) := by
  subst hp; exact Go.by (fun _ q => XT.dupX1 S.at S.hx rfl hd rfl hc hc' q) g
theorem Sd.dup2 (S : Sd wd EL a0 p l e R s m args below meth c Z own n0 h0 ws0 T h F locs cells slots) {x y : Value} (pc' : Nat) (hd : decode c.code pc = .ok (.dup2, 1)) (hc : x.category = 1) (hc' : y.category = 1) (g : Go p e below P T (mkF m pc' Ls (x :: y :: x :: y :: st))) (hp : pc + 1 = pc' := by rfl) : Go p e below P T (mkF m pc Ls (x :: y :: st)) := by
  subst hp; exact Go.by (fun _ q => XT.dup2 S.at S.hx rfl hd rfl hc hc' q) g
theorem Sd.pop (S : Sd wd EL a0 p l e R s m args below meth c Z own n0 h0 ws0 T h F locs cells slots) {x : Value} (pc' : Nat) (hd : decode c.code pc = .ok (.pop, 1)) (hc : x.category = 1) (g : Go p e below P T (mkF m pc' Ls st)) (hp : pc + 1 = pc' := by rfl) : Go p e below P T (mkF m pc Ls (x :: st)) := by
  subst hp; exact Go.by (fun _ q => XT.pop S.at S.hx rfl hd rfl hc q) g
theorem Sd.iadd (S : Sd wd EL a0 p l e R s m args below meth c Z own n0 h0 ws0 T h F locs cells slots) {x : Int32} {y : Int32} (pc' : Nat) (hd : decode c.code pc = .ok (.iadd, 1)) (g : Go p e below P T (mkF m pc' Ls (.int (x + y) :: st))) (hp : pc + 1 = pc' := by rfl) : Go p e below P T (mkF m pc Ls (.int y :: .int x :: st)) := by
  subst hp; exact Go.by (fun _ q => XS.iadd S.at S.hx rfl hd rfl q) g
theorem Sd.isub (S : Sd wd EL a0 p l e R s m args below meth c Z own n0 h0 ws0 T h F locs cells slots) {x : Int32} {y : Int32} (pc' : Nat) (hd : decode c.code pc = .ok (.isub, 1)) (g : Go p e below P T (mkF m pc' Ls (.int (x - y) :: st))) (hp : pc + 1 = pc' := by rfl) : Go p e below P T (mkF m pc Ls (.int y :: .int x :: st)) := by
  subst hp; exact Go.by (fun _ q => XS.isub S.at S.hx rfl hd rfl q) g
theorem Sd.iand (S : Sd wd EL a0 p l e R s m args below meth c Z own n0 h0 ws0 T h F locs cells slots) {x : Int32} {y : Int32} (pc' : Nat) (hd : decode c.code pc = .ok (.iand, 1)) (g : Go p e below P T (mkF m pc' Ls (.int (x &&& y) :: st))) (hp : pc + 1 = pc' := by rfl) : Go p e below P T (mkF m pc Ls (.int y :: .int x :: st)) := by
  subst hp; exact Go.by (fun _ q => XS.iand S.at S.hx rfl hd rfl q) g
theorem Sd.imul (S : Sd wd EL a0 p l e R s m args below meth c Z own n0 h0 ws0 T h F locs cells slots) {x : Int32} {y : Int32} (pc' : Nat) (hd : decode c.code pc = .ok (.imul, 1)) (g : Go p e below P T (mkF m pc' Ls (.int (x * y) :: st))) (hp : pc + 1 = pc' := by rfl) : Go p e below P T (mkF m pc Ls (.int y :: .int x :: st)) := by
  subst hp; exact Go.by (fun _ q => XS.imul S.at S.hx rfl hd rfl q) g
theorem Sd.ior (S : Sd wd EL a0 p l e R s m args below meth c Z own n0 h0 ws0 T h F locs cells slots) {x : Int32} {y : Int32} (pc' : Nat) (hd : decode c.code pc = .ok (.ior, 1)) (g : Go p e below P T (mkF m pc' Ls (.int (x ||| y) :: st))) (hp : pc + 1 = pc' := by rfl) : Go p e below P T (mkF m pc Ls (.int y :: .int x :: st)) := by
  subst hp; exact Go.by (fun _ q => XS.ior S.at S.hx rfl hd rfl q) g
theorem Sd.ixor (S : Sd wd EL a0 p l e R s m args below meth c Z own n0 h0 ws0 T h F locs cells slots) {x : Int32} {y : Int32} (pc' : Nat) (hd : decode c.code pc = .ok (.ixor, 1)) (g : Go p e below P T (mkF m pc' Ls (.int (x ^^^ y) :: st))) (hp : pc + 1 = pc' := by rfl) : Go p e below P T (mkF m pc Ls (.int y :: .int x :: st)) := by
  subst hp; exact Go.by (fun _ q => XS.ixor S.at S.hx rfl hd rfl q) g
theorem Sd.ishl (S : Sd wd EL a0 p l e R s m args below meth c Z own n0 h0 ws0 T h F locs cells slots) {x : Int32} {y : Int32} (pc' : Nat) (hd : decode c.code pc = .ok (.ishl, 1)) (g : Go p e below P T (mkF m pc' Ls (.int (x <<< (y &&& 31)) :: st))) (hp : pc + 1 = pc' := by rfl) : Go p e below P T (mkF m pc Ls (.int y :: .int x :: st)) := by
  subst hp; exact Go.by (fun _ q => XS.ishl S.at S.hx rfl hd rfl q) g
theorem Sd.ishr (S : Sd wd EL a0 p l e R s m args below meth c Z own n0 h0 ws0 T h F locs cells slots) {x : Int32} {y : Int32} (pc' : Nat) (hd : decode c.code pc = .ok (.ishr, 1)) (g : Go p e below P T (mkF m pc' Ls (.int (x >>> (y &&& 31)) :: st))) (hp : pc + 1 = pc' := by rfl) : Go p e below P T (mkF m pc Ls (.int y :: .int x :: st)) := by
  subst hp; exact Go.by (fun _ q => XS.ishr S.at S.hx rfl hd rfl q) g
theorem Sd.iushr (S : Sd wd EL a0 p l e R s m args below meth c Z own n0 h0 ws0 T h F locs cells slots) {x : Int32} {y : Int32} (pc' : Nat) (hd : decode c.code pc = .ok (.iushr, 1)) (g : Go p e below P T (mkF m pc' Ls (.int ((x.toUInt32 >>> (y &&& 31).toUInt32).toInt32) :: st))) (hp : pc + 1 = pc' := by rfl) : Go p e below P T (mkF m pc Ls (.int y :: .int x :: st)) := by
  subst hp; exact Go.by (fun _ q => XS.iushr S.at S.hx rfl hd rfl q) g
theorem Sd.idiv (S : Sd wd EL a0 p l e R s m args below meth c Z own n0 h0 ws0 T h F locs cells slots) {x : Int32} {y : Int32} (pc' : Nat) (hd : decode c.code pc = .ok (.idiv, 1)) (hy : y ≠ 0) (g : Go p e below P T (mkF m pc' Ls (.int (x / y) :: st))) (hp : pc + 1 = pc' := by rfl) : Go p e below P T (mkF m pc Ls (.int y :: .int x :: st)) := by
  subst hp; exact Go.by (fun _ q => XS.idiv S.at S.hx rfl hd rfl hy q) g
theorem Sd.ladd (S : Sd wd EL a0 p l e R s m args below meth c Z own n0 h0 ws0 T h F locs cells slots) {x : Int64} {y : Int64} (pc' : Nat) (hd : decode c.code pc = .ok (.ladd, 1)) (g : Go p e below P T (mkF m pc' Ls (.long (x + y) :: st))) (hp : pc + 1 = pc' := by rfl) : Go p e below P T (mkF m pc Ls (.long y :: .long x :: st)) := by
  subst hp; exact Go.by (fun _ q => XS.ladd S.at S.hx rfl hd rfl q) g
theorem Sd.lsub (S : Sd wd EL a0 p l e R s m args below meth c Z own n0 h0 ws0 T h F locs cells slots) {x : Int64} {y : Int64} (pc' : Nat) (hd : decode c.code pc = .ok (.lsub, 1)) (g : Go p e below P T (mkF m pc' Ls (.long (x - y) :: st))) (hp : pc + 1 = pc' := by rfl) : Go p e below P T (mkF m pc Ls (.long y :: .long x :: st)) := by
  subst hp; exact Go.by (fun _ q => XS.lsub S.at S.hx rfl hd rfl q) g
theorem Sd.lmul (S : Sd wd EL a0 p l e R s m args below meth c Z own n0 h0 ws0 T h F locs cells slots) {x : Int64} {y : Int64} (pc' : Nat) (hd : decode c.code pc = .ok (.lmul, 1)) (g : Go p e below P T (mkF m pc' Ls (.long (x * y) :: st))) (hp : pc + 1 = pc' := by rfl) : Go p e below P T (mkF m pc Ls (.long y :: .long x :: st)) := by
  subst hp; exact Go.by (fun _ q => XS.lmul S.at S.hx rfl hd rfl q) g
theorem Sd.land (S : Sd wd EL a0 p l e R s m args below meth c Z own n0 h0 ws0 T h F locs cells slots) {x : Int64} {y : Int64} (pc' : Nat) (hd : decode c.code pc = .ok (.land, 1)) (g : Go p e below P T (mkF m pc' Ls (.long (x &&& y) :: st))) (hp : pc + 1 = pc' := by rfl) : Go p e below P T (mkF m pc Ls (.long y :: .long x :: st)) := by
  subst hp; exact Go.by (fun _ q => XS.land S.at S.hx rfl hd rfl q) g
theorem Sd.lor (S : Sd wd EL a0 p l e R s m args below meth c Z own n0 h0 ws0 T h F locs cells slots) {x : Int64} {y : Int64} (pc' : Nat) (hd : decode c.code pc = .ok (.lor, 1)) (g : Go p e below P T (mkF m pc' Ls (.long (x ||| y) :: st))) (hp : pc + 1 = pc' := by rfl) : Go p e below P T (mkF m pc Ls (.long y :: .long x :: st)) := by
  subst hp; exact Go.by (fun _ q => XS.lor S.at S.hx rfl hd rfl q) g
theorem Sd.lxor (S : Sd wd EL a0 p l e R s m args below meth c Z own n0 h0 ws0 T h F locs cells slots) {x : Int64} {y : Int64} (pc' : Nat) (hd : decode c.code pc = .ok (.lxor, 1)) (g : Go p e below P T (mkF m pc' Ls (.long (x ^^^ y) :: st))) (hp : pc + 1 = pc' := by rfl) : Go p e below P T (mkF m pc Ls (.long y :: .long x :: st)) := by
  subst hp; exact Go.by (fun _ q => XS.lxor S.at S.hx rfl hd rfl q) g
theorem Sd.lshl (S : Sd wd EL a0 p l e R s m args below meth c Z own n0 h0 ws0 T h F locs cells slots) {x : Int64} {y : Int32} (pc' : Nat) (hd : decode c.code pc = .ok (.lshl, 1)) (g : Go p e below P T (mkF m pc' Ls (.long (x <<< (y &&& 0x3f).toInt64) :: st))) (hp : pc + 1 = pc' := by rfl) : Go p e below P T (mkF m pc Ls (.int y :: .long x :: st)) := by
  subst hp; exact Go.by (fun _ q => XS.lshl S.at S.hx rfl hd rfl q) g
theorem Sd.lshr (S : Sd wd EL a0 p l e R s m args below meth c Z own n0 h0 ws0 T h F locs cells slots) {x : Int64} {y : Int32} (pc' : Nat) (hd : decode c.code pc = .ok (.lshr, 1)) (g : Go p e below P T (mkF m pc' Ls (.long (x >>> (y &&& 0x3f).toInt64) :: st))) (hp : pc + 1 = pc' := by rfl) : Go p e below P T (mkF m pc Ls (.int y :: .long x :: st)) := by
  subst hp; exact Go.by (fun _ q => XS.lshr S.at S.hx rfl hd rfl q) g
theorem Sd.lushr (S : Sd wd EL a0 p l e R s m args below meth c Z own n0 h0 ws0 T h F locs cells slots) {x : Int64} {y : Int32} (pc' : Nat) (hd : decode c.code pc = .ok (.lushr, 1)) (g : Go p e below P T (mkF m pc' Ls (.long ((x.toUInt64 >>> (y &&& 0x3f).toInt64.toUInt64).toInt64) :: st))) (hp : pc + 1 = pc' := by rfl) : Go p e below P T (mkF m pc Ls (.int y :: .long x :: st)) := by
  subst hp; exact Go.by (fun _ q => XS.lushr S.at S.hx rfl hd rfl q) g
theorem Sd.ldiv (S : Sd wd EL a0 p l e R s m args below meth c Z own n0 h0 ws0 T h F locs cells slots) {x : Int64} {y : Int64} (pc' : Nat) (hd : decode c.code pc = .ok (.ldiv, 1)) (hy : y ≠ 0) (g : Go p e below P T (mkF m pc' Ls (.long (x / y) :: st))) (hp : pc + 1 = pc' := by rfl) : Go p e below P T (mkF m pc Ls (.long y :: .long x :: st)) := by
  subst hp; exact Go.by (fun _ q => XS.ldiv S.at S.hx rfl hd rfl hy q) g
theorem Sd.lrem (S : Sd wd EL a0 p l e R s m args below meth c Z own n0 h0 ws0 T h F locs cells slots) {x : Int64} {y : Int64} (pc' : Nat) (hd : decode c.code pc = .ok (.lrem, 1)) (hy : y ≠ 0) (g : Go p e below P T (mkF m pc' Ls (.long (x - (x / y) * y) :: st))) (hp : pc + 1 = pc' := by rfl) : Go p e below P T (mkF m pc Ls (.long y :: .long x :: st)) := by
  subst hp; exact Go.by (fun _ q => XS.lrem S.at S.hx rfl hd rfl hy q) g
theorem Sd.lcmp (S : Sd wd EL a0 p l e R s m args below meth c Z own n0 h0 ws0 T h F locs cells slots) {x : Int64} {y : Int64} (pc' : Nat) (hd : decode c.code pc = .ok (.lcmp, 1)) (g : Go p e below P T (mkF m pc' Ls (.int (if x > y then 1 else if x = y then 0 else -1) :: st))) (hp : pc + 1 = pc' := by rfl) : Go p e below P T (mkF m pc Ls (.long y :: .long x :: st)) := by
  subst hp; exact Go.by (fun _ q => XS.lcmp S.at S.hx rfl hd rfl q) g
theorem Sd.ineg (S : Sd wd EL a0 p l e R s m args below meth c Z own n0 h0 ws0 T h F locs cells slots) {x : Int32} (pc' : Nat) (hd : decode c.code pc = .ok (.ineg, 1)) (g : Go p e below P T (mkF m pc' Ls (.int (-x) :: st))) (hp : pc + 1 = pc' := by rfl) : Go p e below P T (mkF m pc Ls (.int x :: st)) := by
  subst hp; exact Go.by (fun _ q => XS.ineg S.at S.hx rfl hd rfl q) g
theorem Sd.i2b (S : Sd wd EL a0 p l e R s m args below meth c Z own n0 h0 ws0 T h F locs cells slots) {x : Int32} (pc' : Nat) (hd : decode c.code pc = .ok (.i2b, 1)) (g : Go p e below P T (mkF m pc' Ls (.int (x.toInt8.toInt32) :: st))) (hp : pc + 1 = pc' := by rfl) : Go p e below P T (mkF m pc Ls (.int x :: st)) := by
  subst hp; exact Go.by (fun _ q => XS.i2b S.at S.hx rfl hd rfl q) g
theorem Sd.i2c (S : Sd wd EL a0 p l e R s m args below meth c Z own n0 h0 ws0 T h F locs cells slots) {x : Int32} (pc' : Nat) (hd : decode c.code pc = .ok (.i2c, 1)) (g : Go p e below P T (mkF m pc' Ls (.int (x.toUInt32.toUInt16.toUInt32.toInt32) :: st))) (hp : pc + 1 = pc' := by rfl) : Go p e below P T (mkF m pc Ls (.int x :: st)) := by
  subst hp; exact Go.by (fun _ q => XS.i2c S.at S.hx rfl hd rfl q) g
theorem Sd.i2s (S : Sd wd EL a0 p l e R s m args below meth c Z own n0 h0 ws0 T h F locs cells slots) {x : Int32} (pc' : Nat) (hd : decode c.code pc = .ok (.i2s, 1)) (g : Go p e below P T (mkF m pc' Ls (.int (x.toInt16.toInt32) :: st))) (hp : pc + 1 = pc' := by rfl) : Go p e below P T (mkF m pc Ls (.int x :: st)) := by
  subst hp; exact Go.by (fun _ q => XS.i2s S.at S.hx rfl hd rfl q) g
theorem Sd.i2l (S : Sd wd EL a0 p l e R s m args below meth c Z own n0 h0 ws0 T h F locs cells slots) {x : Int32} (pc' : Nat) (hd : decode c.code pc = .ok (.i2l, 1)) (g : Go p e below P T (mkF m pc' Ls (.long (x.toInt64) :: st))) (hp : pc + 1 = pc' := by rfl) : Go p e below P T (mkF m pc Ls (.int x :: st)) := by
  subst hp; exact Go.by (fun _ q => XS.i2l S.at S.hx rfl hd rfl q) g
theorem Sd.l2i (S : Sd wd EL a0 p l e R s m args below meth c Z own n0 h0 ws0 T h F locs cells slots) {x : Int64} (pc' : Nat) (hd : decode c.code pc = .ok (.l2i, 1)) (g : Go p e below P T (mkF m pc' Ls (.int (x.toInt32) :: st))) (hp : pc + 1 = pc' := by rfl) : Go p e below P T (mkF m pc Ls (.long x :: st)) := by
  subst hp; exact Go.by (fun _ q => XS.l2i S.at S.hx rfl hd rfl q) g
theorem Sd.lneg (S : Sd wd EL a0 p l e R s m args below meth c Z own n0 h0 ws0 T h F locs cells slots) {x : Int64} (pc' : Nat) (hd : decode c.code pc = .ok (.lneg, 1)) (g : Go p e below P T (mkF m pc' Ls (.long (-x) :: st))) (hp : pc + 1 = pc' := by rfl) : Go p e below P T (mkF m pc Ls (.long x :: st)) := by
  subst hp; exact Go.by (fun _ q => XS.lneg S.at S.hx rfl hd rfl q) g
theorem Sd.irem (S : Sd wd EL a0 p l e R s m args below meth c Z own n0 h0 ws0 T h F locs cells slots) {x y : Int32} (pc' : Nat) (hd : decode c.code pc = .ok (.irem, 1)) (hy : y ≠ 0) (g : Go p e below P T (mkF m pc' Ls (.int (x % y) :: st))) (hp : pc + 1 = pc' := by rfl) : Go p e below P T (mkF m pc Ls (.int y :: .int x :: st)) := by
  subst hp
  obtain ⟨A, vm0, k0, hv, X, r⟩ := S
  exact Go.by (fun _ q => iremM X A.1 rfl hd rfl hy q) g
/-! ### steps on the heap -/
theorem Sd.new (S : Sd wd EL a0 p l e R s m args below meth c Z own n0 h0 ws0 T h F locs cells slots) {C : String} {index n : Nat} (pc' : Nat) (hd : decode c.code pc = .ok (.new index, 3)) (w : (Jvm.Cond.classLink own index C).before a0 Z = true) (wi : (Jvm.Cond.instantiable C n).before a0 Z = true) (wz : (Jvm.Cond.initialized C).before a0 Z = true) (hc : cells + 1 ≤ R.cells) (hl : slots + n ≤ R.slots)
    (g : ∀ (T' : State) (h' : Heap) (a : Addr), Sd wd EL a0 p l e R s m args below meth c Z own n0 h0 ws0 T' h' (a :: F) locs (cells + 1) (slots + n) → Ext h h' → a = h.size → Wok n0 h0 ws0 a → Exa Z h' a C → (∀ {O nm d : String} {ty : FieldType}, Laid Z a0 C O nm d → parseFieldDescriptor d = some ty → Fld Z h' a O nm d (defaultValue ty)) → Unt h' a → Go p e below P T' (mkF m pc' Ls (.ref a :: st))) (hp : pc + 3 = pc' := by rfl) :
    Go p e below P T (mkF m pc Ls st) := by
  subst hp
  obtain ⟨A, vm0, k0, hv, X, eT, hS, hk, hZ, hown, O, N, K0, C0, hF⟩ := S
  obtain ⟨T', h', X', e', E', A', D', U', st'⟩ := newO X A.1 hZ hown w wi wz eT (g := mkF m pc Ls st) rfl hd hc hl
  exact Go.by st' (g T' h' h.size (Sd.close A hv X' e' hS hk hZ hown O N K0 C0 hF (Ext.kp E') noWs fun x hx => by
    rcases List.mem_cons.mp hx with rfl | q
    · exact Or.inr ⟨Nat.le_refl _, A'.lt⟩
    · exact Or.inl q) E' rfl (Or.inr K0.1) A' D' U')
theorem Sd.getf (S : Sd wd EL a0 p l e R s m args below meth c Z own n0 h0 ws0 T h F locs cells slots) {R0 O n d host : String} {index : Nat} {a : Addr} {v : Value} (pc' : Nat) (hd : decode c.code pc = .ok (.getfield index, 3)) (w : (Jvm.Cond.fieldLink own index R0 n d).before a0 Z = true ∨ (Jvm.Cond.fieldLinkNest own index R0 n d host).before a0 Z = true) (via : Via Z R0 O n d) (V : Fld Z h a O n d v)
    (g : ∀ (T' : State), Sd wd EL a0 p l e R s m args below meth c Z own n0 h0 ws0 T' h F locs cells slots → Go p e below P T' (mkF m pc' Ls (v :: st))) (hp : pc + 3 = pc' := by rfl) : Go p e below P T (mkF m pc Ls (.ref a :: st)) := by
  subst hp
  obtain ⟨A, vm0, k0, hv, X, eT, r⟩ := S
  obtain ⟨hS, hk, hZ, hown, r'⟩ := id r
  obtain ⟨T', X', e', st'⟩ := getF X A.1 hZ hown w via eT V (g := mkF m pc Ls (.ref a :: st)) rfl rfl hd
  exact Go.by st' (g T' ⟨A, vm0, k0, hv, X', e', r⟩)
theorem Sd.gets (S : Sd wd EL a0 p l e R s m args below meth c Z own n0 h0 ws0 T h F locs cells slots) {R0 O n d host : String} {index : Nat} {v : Value} (pc' : Nat) (hd : decode c.code pc = .ok (.getstatic index, 3)) (w : (Jvm.Cond.fieldLink own index R0 n d).before a0 Z = true ∨ (Jvm.Cond.fieldLinkNest own index R0 n d host).before a0 Z = true) (via : Via Z R0 O n d) (V : Sta Z h O n d v)
    (g : ∀ (T' : State), Sd wd EL a0 p l e R s m args below meth c Z own n0 h0 ws0 T' h F locs cells slots → Go p e below P T' (mkF m pc' Ls (v :: st))) (hp : pc + 3 = pc' := by rfl) : Go p e below P T (mkF m pc Ls st) := by
  subst hp
  obtain ⟨A, vm0, k0, hv, X, eT, r⟩ := S
  obtain ⟨hS, hk, hZ, hown, r'⟩ := id r
  obtain ⟨T', X', e', st'⟩ := getS2 X A.1 hZ hown w via eT V (g := mkF m pc Ls st) rfl hd
  exact Go.by st' (g T' ⟨A, vm0, k0, hv, X', e', r⟩)
/-- no booked literal lies in an object of another class than String and byte[] -/
def Sok (F : List Addr) (a : Addr) (C : String) : Prop := (C ≠ "java/lang/String" ∧ C ≠ "[B") ∨ a ∈ F
theorem Sd.putf (S : Sd wd EL a0 p l e R s m args below meth c Z own n0 h0 ws0 T h F locs cells slots) {R0 O n d host C : String} {index kk : Nat} {a : Addr} {v old : Value} {ty : FieldType} (pc' : Nat) (hd : decode c.code pc = .ok (.putfield index, 3)) (w : (Jvm.Cond.fieldLink own index R0 n d).before a0 Z = true ∨ (Jvm.Cond.fieldLinkNest own index R0 n d host).before a0 Z = true) (via : Via Z R0 O n d)
    (V : Fld Z h a O n d old) (E : Exa Z h a C) (L : (Jvm.Cond.lays C O n d).before a0 Z = true ∨ ((Jvm.Cond.laysFinal C O n d).before a0 Z = true ∧ own = O ∧ meth.name = "<init>")) (wi : (Jvm.Cond.instantiable C kk).before a0 Z = true) (hty : parseFieldDescriptor d = some ty) (hn : narrow ty v = v) (hf : fits ty v = true) (wo : Wok n0 h0 ws0 a) (so : Sok F a C)
    (g : ∀ (T' : State) (h' : Heap) (locs' : List Loc), Sd wd EL a0 p l e R s m args below meth c Z own n0 h0 ws0 T' h' F locs' cells slots → Wr h h' a (Jvm.RoadKit.slotOf Z O n d) v → Go p e below P T' (mkF m pc' Ls st)) (hp : pc + 3 = pc' := by rfl) : Go p e below P T (mkF m pc Ls (v :: .ref a :: st)) := by
  subst hp
  have ge : n0 ≤ a := S.ge wo
  obtain ⟨A, vm0, k0, hv, X, eT, hS, hk, hZ, hown, O0, N, K0, C0, hF⟩ := S
  obtain ⟨T', h', X', e', W', st'⟩ := putF X A.1 hZ hown w via eT V E L wi hty hn hf (g := mkF m pc Ls (v :: .ref a :: st)) rfl rfl hd
  have sf : Safe Z EL vm0 h a := by
    rcases so with q | q
    · exact Safe.exa hZ.alike E q.1 q.2
    · exact (hF a q).1
  exact Go.by st' (g T' h' _ (Sd.close A hv X' e' hS hk hZ hown O0 (Fr.snoc X' N ge) K0 C0 hF (Keep.of_wr W') (fun x hx => by rw [List.mem_singleton.mp hx]; exact ⟨wo, sf⟩) fun x hx => Or.inl hx) W')
theorem Sd.newarr (S : Sd wd EL a0 p l e R s m args below meth c Z own n0 h0 ws0 T h F locs cells slots) {aty : ArrayType} {n : Int32} (pc' : Nat) (cap : Nat) (hd : decode c.code pc = .ok (.newarray aty, 2)) (w : (Jvm.Cond.arrayClass (newarray.typeOf aty)).before a0 Z = true) (hn : ¬ n < 0) (hcap : n.toNatClampNeg ≤ cap) (hb : cap * 8 ≤ 536870912) (hc : cells + 1 ≤ R.cells) (hl : slots + cap ≤ R.slots)
    (g : ∀ (T' : State) (h' : Heap) (a : Addr) (k : ClassId), Sd wd EL a0 p l e R s m args below meth c Z own n0 h0 ws0 T' h' (a :: F) locs (cells + 1) (slots + cap) → Ext h h' → a = h.size → Wok n0 h0 ws0 a → Arv Z h' a k (newarray.typeOf aty) n [] (defaultValue (newarray.typeOf aty)) → Go p e below P T' (mkF m pc' Ls (.ref a :: st))) (hp : pc + 2 = pc' := by rfl) :
    Go p e below P T (mkF m pc Ls (.int n :: st)) := by
  subst hp
  obtain ⟨A, vm0, k0, hv, X, eT, hS, hk, hZ, hown, O, N, K0, C0, hF⟩ := S
  obtain ⟨T', h', cA, X', e', E', A', st'⟩ := newP X A.1 hZ w eT (g := mkF m pc Ls (.int n :: st)) rfl hd rfl hn hcap hb hc hl
  exact Go.by st' (g T' h' h.size cA (Sd.close A hv X' e' hS hk hZ hown O N K0 C0 hF (Ext.kp E') noWs fun x hx => by
    rcases List.mem_cons.mp hx with rfl | q
    · exact Or.inr ⟨Nat.le_refl _, A'.lt⟩
    · exact Or.inl q) E' rfl (Or.inr K0.1) (Arv.new A' hn))
theorem Sd.castore (S : Sd wd EL a0 p l e R s m args below meth c Z own n0 h0 ws0 T h F locs cells slots) {a : Addr} {k : ClassId} {N : Int32} {vs : List Value} {dv : Value} {j x : Int32} (pc' i : Nat) (hd : decode c.code pc = .ok (.castore, 1)) (V : Arv Z h a k .char N vs dv) (hj : ¬ j < 0 ∧ j < N) (hi : j.toNatClampNeg = i) (hlt : i < vs.length) (wo : Wok n0 h0 ws0 a)
    (g : ∀ (T' : State) (h' : Heap) (locs' : List Loc), Sd wd EL a0 p l e R s m args below meth c Z own n0 h0 ws0 T' h' F locs' cells slots → Wr h h' a j.toNatClampNeg (.int (nar .char x)) → Arv Z h' a k .char N (vs.set i (.int (nar .char x))) dv → Go p e below P T' (mkF m pc' Ls st)) (hp : pc + 1 = pc' := by rfl) : Go p e below P T (mkF m pc Ls (.int x :: .int j :: .ref a :: st)) := by
  subst hp
  have ge : n0 ≤ a := S.ge wo
  obtain ⟨A, vm0, k0, hv, X, eT, hS, hk, hZ, hown, O0, N0, K0, C0, hF⟩ := S
  obtain ⟨cl, Ar, q, S', M, H, G⟩ := V
  obtain ⟨T', h', X', e', W', st'⟩ := stC X A.1 hZ eT Ar (x := x) (inb_of S' hj) (g := mkF m pc Ls (.int x :: .int j :: .ref a :: st)) rfl rfl hd
  exact Go.by st' (g T' h' _ (Sd.close A hv X' e' hS hk hZ hown O0 (Fr.snoc X' N0 ge) K0 C0 hF (Keep.of_wr W') (fun y hy => by rw [List.mem_singleton.mp hy]; exact ⟨wo, Safe.arr hZ.alike Ar (by decide)⟩) fun y hy => Or.inl hy) W' (Arv.set Ar q S' M H G (fits_nar_char _) W' i hi hlt))
theorem Sd.alen (S : Sd wd EL a0 p l e R s m args below meth c Z own n0 h0 ws0 T h F locs cells slots) {a : Addr} {k : ClassId} {ty : FieldType} {N : Int32} {vs : List Value} {dv : Value} (pc' : Nat) (hd : decode c.code pc = .ok (.arraylength, 1)) (V : Arv Z h a k ty N vs dv) (g : Go p e below P T (mkF m pc' Ls (.int N :: st))) (hp : pc + 1 = pc' := by rfl) : Go p e below P T (mkF m pc Ls (.ref a :: st)) := by
  subst hp
  obtain ⟨A, vm0, k0, hv, X, eT, hS, hk, hZ, r⟩ := S
  obtain ⟨cl, Ar, q, S', M, H, G⟩ := V
  rw [← len_of S' M] at g
  exact Go.by (fun t z => X.arraylength A.1 (by rw [eT]; exact Ar.1) (State.isArrayOf_alike hZ.alike Ar.2.1) (g := mkF m pc Ls (.ref a :: st)) rfl rfl hd t z) g
theorem Sd.caload (S : Sd wd EL a0 p l e R s m args below meth c Z own n0 h0 ws0 T h F locs cells slots) {a : Addr} {k : ClassId} {N : Int32} {vs : List Value} {dv v : Value} {j : Int32} (pc' : Nat) (hd : decode c.code pc = .ok (.caload, 1)) (V : Arv Z h a k .char N vs dv) (hj : ¬ j < 0 ∧ j < N) (hv' : vs.getD j.toNatClampNeg dv = v) (g : Go p e below P T (mkF m pc' Ls (v :: st))) (hp : pc + 1 = pc' := by rfl) : Go p e below P T (mkF m pc Ls (.int j :: .ref a :: st)) := by
  subst hp
  obtain ⟨A, vm0, k0, hv, X, eT, hS, hk, hZ, r⟩ := S
  obtain ⟨cl, Ar, q, S', M, H, G⟩ := V
  exact Go.by (fun t z => X.caload A.1 (by rw [eT]; exact Ar.1) (State.isArrayOf_alike hZ.alike Ar.2.1) Ar.2.2 (inb_of S' hj) (H.at (inb_of S' hj) hv') (g := mkF m pc Ls (.int j :: .ref a :: st)) rfl rfl hd t z) g
theorem Sd.baload (S : Sd wd EL a0 p l e R s m args below meth c Z own n0 h0 ws0 T h F locs cells slots) {a : Addr} {k : ClassId} {N : Int32} {vs : List Value} {dv v : Value} {j : Int32} (pc' : Nat) (hd : decode c.code pc = .ok (.baload, 1)) (V : Arv Z h a k .byte N vs dv) (hj : ¬ j < 0 ∧ j < N) (hv' : vs.getD j.toNatClampNeg dv = v) (g : Go p e below P T (mkF m pc' Ls (v :: st))) (hp : pc + 1 = pc' := by rfl) : Go p e below P T (mkF m pc Ls (.int j :: .ref a :: st)) := by
  subst hp
  obtain ⟨A, vm0, k0, hv, X, eT, hS, hk, hZ, r⟩ := S
  obtain ⟨cl, Ar, q, S', M, H, G⟩ := V
  exact Go.by (fun t z => X.baloadBytes A.1 (by rw [eT]; exact Ar.1) (State.isArrayOf_alike hZ.alike Ar.2.1) Ar.2.2 (inb_of S' hj) (H.at (inb_of S' hj) hv') (g := mkF m pc Ls (.int j :: .ref a :: st)) rfl rfl hd t z) g
theorem Sd.iaload (S : Sd wd EL a0 p l e R s m args below meth c Z own n0 h0 ws0 T h F locs cells slots) {a : Addr} {k : ClassId} {N : Int32} {vs : List Value} {dv v : Value} {j : Int32} (pc' : Nat) (hd : decode c.code pc = .ok (.iaload, 1)) (V : Arv Z h a k .int N vs dv) (hj : ¬ j < 0 ∧ j < N) (hv' : vs.getD j.toNatClampNeg dv = v) (g : Go p e below P T (mkF m pc' Ls (v :: st))) (hp : pc + 1 = pc' := by rfl) : Go p e below P T (mkF m pc Ls (.int j :: .ref a :: st)) := by
  subst hp
  obtain ⟨A, vm0, k0, hv, X, eT, hS, hk, hZ, r⟩ := S
  obtain ⟨cl, Ar, q, S', M, H, G⟩ := V
  exact Go.by (fun t z => X.iaload A.1 (by rw [eT]; exact Ar.1) (State.isArrayOf_alike hZ.alike Ar.2.1) Ar.2.2 (inb_of S' hj) (H.at (inb_of S' hj) hv') (g := mkF m pc Ls (.int j :: .ref a :: st)) rfl rfl hd t z) g
theorem Sd.ldcI (S : Sd wd EL a0 p l e R s m args below meth c Z own n0 h0 ws0 T h F locs cells slots) {index : Nat} {v : Int32} (pc' : Nat) (hd : decode c.code pc = .ok (.ldc index, 2)) (w : (Jvm.Cond.constant own index v).before a0 Z = true) (g : Go p e below P T (mkF m pc' Ls (.int v :: st))) (hp : pc + 2 = pc' := by rfl) : Go p e below P T (mkF m pc Ls st) := by
  subst hp
  obtain ⟨A, vm0, k0, hv, X, eT, hS, hk, hZ, hown, r⟩ := S
  exact Go.by (fun t z => X.ldcInt A.1 hown (mvT (s := s.setVm vm0) hZ w) (g := mkF m pc Ls st) rfl hd t z) g
theorem Sd.ldc2J (S : Sd wd EL a0 p l e R s m args below meth c Z own n0 h0 ws0 T h F locs cells slots) {index : Nat} {v : Int64} (pc' : Nat) (hd : decode c.code pc = .ok (.ldc2_w index, 3)) (w : (Jvm.Cond.constantLong own index v).before a0 Z = true) (g : Go p e below P T (mkF m pc' Ls (.long v :: st))) (hp : pc + 3 = pc' := by rfl) : Go p e below P T (mkF m pc Ls st) := by
  subst hp
  obtain ⟨A, vm0, k0, hv, X, eT, hS, hk, hZ, hown, r⟩ := S
  exact Go.by (fun t z => X.ldc2Long A.1 hown (mvT (s := s.setVm vm0) hZ w) (g := mkF m pc Ls st) rfl hd t z) g
theorem Sd.cast (S : Sd wd EL a0 p l e R s m args below meth c Z own n0 h0 ws0 T h F locs cells slots) {K : String} {index : Nat} {a : Addr} (pc' : Nat) (hd : decode c.code pc = .ok (.checkcast index, 3)) (w : (Jvm.Cond.classLink own index K).before a0 Z = true) (I : Ins Z h a K true)
    (g : ∀ (T' : State), Sd wd EL a0 p l e R s m args below meth c Z own n0 h0 ws0 T' h F locs cells slots → Go p e below P T' (mkF m pc' Ls (.ref a :: st))) (hp : pc + 3 = pc' := by rfl) : Go p e below P T (mkF m pc Ls (.ref a :: st)) := by
  subst hp
  obtain ⟨A, vm0, k0, hv, X, eT, r⟩ := S
  obtain ⟨hS, hk, hZ, hown, r'⟩ := id r
  obtain ⟨T', X', e', st'⟩ := castY X A.1 hZ hown w eT I (g := mkF m pc Ls (.ref a :: st)) rfl rfl hd
  exact Go.by st' (g T' ⟨A, vm0, k0, hv, X', e', r⟩)
theorem Sd.castNull (S : Sd wd EL a0 p l e R s m args below meth c Z own n0 h0 ws0 T h F locs cells slots) {index : Nat} (pc' : Nat) (hd : decode c.code pc = .ok (.checkcast index, 3)) (g : Go p e below P T (mkF m pc' Ls (.null :: st))) (hp : pc + 3 = pc' := by rfl) : Go p e below P T (mkF m pc Ls (.null :: st)) := by
  subst hp
  obtain ⟨A, vm0, k0, hv, X, r⟩ := S
  exact Go.by (fun t z => X.checkcastNull A.1 (g := mkF m pc Ls (.null :: st)) rfl rfl hd t z) g
theorem Sd.instY (S : Sd wd EL a0 p l e R s m args below meth c Z own n0 h0 ws0 T h F locs cells slots) {K : String} {index : Nat} {a : Addr} (pc' : Nat) (hd : decode c.code pc = .ok (.instanceof index, 3)) (w : (Jvm.Cond.classLink own index K).before a0 Z = true) (I : Ins Z h a K true)
    (g : ∀ (T' : State), Sd wd EL a0 p l e R s m args below meth c Z own n0 h0 ws0 T' h F locs cells slots → Go p e below P T' (mkF m pc' Ls (.int 1 :: st))) (hp : pc + 3 = pc' := by rfl) : Go p e below P T (mkF m pc Ls (.ref a :: st)) := by
  subst hp
  obtain ⟨A, vm0, k0, hv, X, eT, r⟩ := S
  obtain ⟨hS, hk, hZ, hown, r'⟩ := id r
  obtain ⟨T', X', e', st'⟩ := RoadKit.instY X A.1 hZ hown w eT I (g := mkF m pc Ls (.ref a :: st)) rfl rfl hd
  exact Go.by st' (g T' ⟨A, vm0, k0, hv, X', e', r⟩)
theorem Sd.instNo (S : Sd wd EL a0 p l e R s m args below meth c Z own n0 h0 ws0 T h F locs cells slots) {K C : String} {index : Nat} {a : Addr} (pc' : Nat) (hd : decode c.code pc = .ok (.instanceof index, 3)) (w : (Jvm.Cond.classLink own index K).before a0 Z = true) (E : Exa Z h a C) (I : ∃ c t, Z.vm.findClass C = some c ∧ Z.vm.findClass K = some t ∧ Z.vm.assignable c t = false)
    (g : ∀ (T' : State), Sd wd EL a0 p l e R s m args below meth c Z own n0 h0 ws0 T' h F locs cells slots → Go p e below P T' (mkF m pc' Ls (.int 0 :: st))) (hp : pc + 3 = pc' := by rfl) : Go p e below P T (mkF m pc Ls (.ref a :: st)) := by
  subst hp
  obtain ⟨A, vm0, k0, hv, X, eT, r⟩ := S
  obtain ⟨hS, hk, hZ, hown, r'⟩ := id r
  obtain ⟨T', X', e', st'⟩ := RoadKit.instNo X A.1 hZ hown w eT E I (g := mkF m pc Ls (.ref a :: st)) rfl rfl hd
  exact Go.by st' (g T' ⟨A, vm0, k0, hv, X', e', r⟩)
theorem Sd.initO (S : Sd wd EL a0 p l e R s m args below meth c Z own n0 h0 ws0 T h F locs cells slots) {idx W : Nat} {a : Addr} (pc' : Nat) (hd : decode c.code pc = .ok (.invokespecial idx, 3)) (hml : Ls.size = c.maxLocals) (w1 : (Jvm.Cond.methodLink own idx Lib.objectInit).before a0 Z = true) (w2 : (Jvm.Cond.instanceMethod Lib.objectInit).before a0 Z = true) (w3 : (Jvm.Cond.code Lib.objectInit ⟨#[0xb1]⟩ 1 none).before a0 Z = true)
    (hf : 1 ≤ R.frames) (hW : (st.map fun v => v.category).sum ≤ W) (hl : W + 12 ≤ R.locals)
    (g : ∀ (T' : State), Sd wd EL a0 p l e R s m args below meth c Z own n0 h0 ws0 T' h F locs cells slots → Go p e below P T' (mkF m pc' Ls st)) (hp : pc + 3 = pc' := by rfl) : Go p e below P T (mkF m pc Ls (.ref a :: st)) := by
  subst hp
  obtain ⟨A, vm0, k0, hv, X, eT, r⟩ := S
  obtain ⟨hS, hk, hZ, hown, r'⟩ := id r
  obtain ⟨T', X', e', st'⟩ := RoadKit.initO X A.1 hZ hown w1 w2 w3 eT (g := mkF m pc Ls (.ref a :: st)) rfl hml rfl hd hf (W := W) (by show 2 * 0 + _ ≤ _; omega) hl
  exact Go.by st' (g T' ⟨A, vm0, k0, hv, X', e', r⟩)
/-- 'ldc' of a String constant, opaque (a wide body) -/
theorem Sd.ldcO (S : Sd true EL a0 p l e R s m args below meth c Z own n0 h0 ws0 T h F locs cells slots) {index n : Nat} {text : String} (pc' : Nat) (hd : decode c.code pc = .ok (.ldc index, 2)) (w : (Jvm.Cond.stringLink own index text).before a0 Z = true) (wS : ∀ a ∈ Bundle.stringAtoms, a.before a0 Z = true) (hn : 4 * text.toList.length ≤ n) (hbig : n ≤ 536870912) (hc : cells + 2 ≤ R.cells) (hl : slots + (n + 4) ≤ R.slots)
    (g : ∀ (T' : State) (h' : Heap) (a : Addr), Sd true EL a0 p l e R s m args below meth c Z own n0 h0 ws0 T' h' F locs (cells + 2) (slots + (n + 4)) → Ext h h' → Go p e below P T' (mkF m pc' Ls (.ref a :: st))) (hp : pc + 2 = pc' := by rfl) : Go p e below P T (mkF m pc Ls st) := by
  subst hp
  obtain ⟨A, vm0, k0, hv, X, eT, hS, hk, hZ, hown, O, N, K0, C0, hF⟩ := S
  obtain ⟨a, T', h', k1, X', e', E, hS', hk', hZ', hown', C', -, st'⟩ := ldcOH X A.1 hZ hown w wS eT hS hk A.2.2.1 C0.1 (g := mkF m pc Ls st) rfl hd hn hbig hc hl
  exact Go.by st' (g T' h' a ⟨A, T'.vm, k1, nofun, X', e', hS', hk', hZ', hown', O.ext E, N, K0.ext E, C0.trans C', fun x hx => ⟨C'.safe (hF x hx).2 (hF x hx).1, Nat.lt_of_lt_of_le (hF x hx).2 E.1⟩⟩ E)
/-- 'ldc' of a String constant of EL, read (a wide body) -/
theorem Sd.ldcR (S : Sd true EL a0 p l e R s m args below meth c Z own n0 h0 ws0 T h F locs cells slots) {index n : Nat} {text : String} {vs : List Value} {z : Int32} (pc' : Nat) (hd : decode c.code pc = .ok (.ldc index, 2)) (w : (Jvm.Cond.stringLink own index text).before a0 Z = true) (wS : ∀ a ∈ Bundle.stringAtoms, a.before a0 Z = true) (hmem : (own, index) ∈ EL) (ht : (∀ c ∈ text.toList, c.toNat < 256) ∧ text.toList.map (fun c => Value.int (Jvm.Lit.byteI c.toNat.toUInt16)) = vs) (hz : ¬ z < 0) (hlen : z.toNatClampNeg = vs.length)
    (hn : 4 * text.toList.length ≤ n) (hbig : n ≤ 536870912) (hc : cells + 2 ≤ R.cells) (hl : slots + (n + 4) ≤ R.slots)
    (g : ∀ (T' : State) (h' : Heap) (a b : Addr) (k : ClassId), Sd true EL a0 p l e R s m args below meth c Z own n0 h0 ws0 T' h' F locs (cells + 2) (slots + (n + 4)) → Ext h h' → Exa Z h' a "java/lang/String" → Fld Z h' a "java/lang/String" "coder" "B" (.int 0) → Fld Z h' a "java/lang/String" "value" "[B" (.ref b) → Arv Z h' b k .byte z vs (.int 0) → (∀ x ∈ F, x ≠ a ∧ x ≠ b) → Go p e below P T' (mkF m pc' Ls (.ref a :: st))) (hp : pc + 2 = pc' := by rfl) : Go p e below P T (mkF m pc Ls st) := by
  subst hp
  obtain ⟨A, vm0, k0, hv, X, eT, hS, hk, hZ, hown, O, N, K0, C0, hF⟩ := S
  obtain ⟨a, T', h', k1, b, k, X', e', E, hS', hk', hZ', hown', g1, g2, g3, g4, -, -, C', -, hne, st'⟩ := ldcCH X A.1 hZ hown w wS eT hS hk A.2.2.1 hmem C0.1 ht hz hlen (g := mkF m pc Ls st) rfl hd hn hbig hc hl
  have sf : ∀ x ∈ F, Safe Z EL T'.vm h' x ∧ x < h'.size := fun x hx => ⟨C'.safe (hF x hx).2 (hF x hx).1, Nat.lt_of_lt_of_le (hF x hx).2 E.1⟩
  exact Go.by st' (g T' h' a b k ⟨A, T'.vm, k1, nofun, X', e', hS', hk', hZ', hown', O.ext E, N, K0.ext E, C0.trans C', sf⟩ E g1 g2 g3 g4 fun x hx => hne x (sf x hx).1)
/-! ### the end of a body -/
theorem Sd.endB (S : Sd wd EL a0 p l e R s m args below meth c Z own n0 h0 ws0 T h F locs cells slots) {v : Option Value} (hv : meth.sig.returnType = none → v = none) {rc rs : Nat} (hc : cells ≤ rc) (hs : slots ≤ rs) {Q : Option Value → Heap → Prop} (q : Q v h) :
    ∃ fs, (∀ (f : JFrame) (acts : List Action), f.method = m → f.locked = none → f.entered = [] → (doReturn e (T.setTop f) acts v).1 = T.setFrames fs) ∧ (T.setFrames fs).status = .running ∧ Ended (T.setFrames fs) below (.returned v) ∧ Done wd EL Z s n0 h0 ws0 rc rs Q (.returned v) (T.setFrames fs) := by
  obtain ⟨A, vm0, k0, hw, X, eT, hS, hk, hZ, hown, O, N, K0, C0, hF⟩ := S
  have hh : ∀ fs, (T.setFrames fs).heap = h := fun fs => eT
  cases wd with
  | false =>
    obtain rfl := hw rfl
    have X : Stand p l e R s m args below meth c T locs cells slots := X
    obtain ⟨fs, h1, h2, h3, hW, hsame⟩ := X.leave hv A.2.1
    exact ⟨fs, h1, h2, h3, v, locs, rfl, ⟨by rw [hh]; exact q, by rw [hh]; exact K0, N⟩, ⟨_, rfl⟩, hW, hsame.mono hc hs⟩
  | true =>
    obtain ⟨fs, h1, h2, h3, e1, e2, e3, e4⟩ := X.leaveW hS (by rw [eT]; exact hk) hv A.2.1
    refine ⟨fs, h1, h2, h3, v, locs, rfl, ⟨by rw [hh]; exact q, by rw [hh]; exact K0, N⟩, ?_, e1, e2, e3, e4.mono hc hs⟩
    have C1 := C0.trans (CHv.at X hZ A.2.2.1 C0.1)
    show CHr Z EL s.vm s.heap T.vm (T.setFrames fs).heap
    rw [hh]; exact C1
theorem Sd.ret0 (S : Sd wd EL a0 p l e R s m args below meth c Z own n0 h0 ws0 T h F locs cells slots) {rc rs : Nat} {Q : Option Value → Heap → Prop} (hd : decode c.code pc = .ok (.return_, 1)) (hret : meth.sig.returnType = none) (hc : cells ≤ rc) (hs : slots ≤ rs) (q : Q none h) : Go p e below (Done wd EL Z s n0 h0 ws0 rc rs Q) T (mkF m pc Ls []) := by
  obtain ⟨fs, h1, h2, h3, h4⟩ := S.endB (v := none) (fun _ => rfl) hc hs q
  obtain ⟨A, vm0, k0, hw, X, r⟩ := S
  exact ⟨_, _, X.returnOut A.1 hret hd h1, h2, h3, h4⟩
theorem Sd.retV (S : Sd wd EL a0 p l e R s m args below meth c Z own n0 h0 ws0 T h F locs cells slots) {rc rs : Nat} {Q : Option Value → Heap → Prop} {w : Value} {t : FieldType} {i : Instr} (hd : decode c.code pc = .ok (i, 1)) (hret : meth.sig.returnType = some t) (hn : narrow t w = w)
    (hi : (i = .ireturn ∧ (t = .int ∨ t = .boolean ∨ t = .byte ∨ t = .char ∨ t = .short) ∧ ∃ z, w = .int z) ∨ (i = .lreturn ∧ t = .long ∧ ∃ z, w = .long z) ∨ (i = .dreturn ∧ t = .double ∧ ∃ z, w = .double z) ∨ (i = .freturn ∧ t = .float ∧ ∃ z, w = .float z) ∨ (i = .areturn ∧ t.isReference = true ∧ w.isRef = true))
    (hc : cells ≤ rc) (hs : slots ≤ rs) (q : Q (some w) h) : Go p e below (Done wd EL Z s n0 h0 ws0 rc rs Q) T (mkF m pc Ls (w :: st)) := by
  obtain ⟨fs, h1, h2, h3, h4⟩ := S.endB (v := some w) (fun z => by rw [hret] at z; cases z) hc hs q
  obtain ⟨A, vm0, k0, hw, X, r⟩ := S
  exact ⟨_, _, retOut X A.1 hret hn hi hd h1, h2, h3, h4⟩
theorem Sd.retI (S : Sd wd EL a0 p l e R s m args below meth c Z own n0 h0 ws0 T h F locs cells slots) {rc rs : Nat} {Q : Option Value → Heap → Prop} {z : Int32} (hd : decode c.code pc = .ok (.ireturn, 1)) (hret : meth.sig.returnType = some .int) (hc : cells ≤ rc) (hs : slots ≤ rs) (q : Q (some (.int z)) h) : Go p e below (Done wd EL Z s n0 h0 ws0 rc rs Q) T (mkF m pc Ls (.int z :: st)) :=
  S.retV hd hret rfl (Or.inl ⟨rfl, Or.inl rfl, z, rfl⟩) hc hs q
/-- the return of a boolean, byte, char or short: what the frame holds is narrowed -/
theorem Sd.retN (S : Sd wd EL a0 p l e R s m args below meth c Z own n0 h0 ws0 T h F locs cells slots) {rc rs : Nat} {Q : Option Value → Heap → Prop} {z : Int32} {t : FieldType} (hd : decode c.code pc = .ok (.ireturn, 1)) (hret : meth.sig.returnType = some t) (ht : t = .boolean ∨ t = .byte ∨ t = .char ∨ t = .short) (hc : cells ≤ rc) (hs : slots ≤ rs) (q : Q (some (.int (nar t z))) h) : Go p e below (Done wd EL Z s n0 h0 ws0 rc rs Q) T (mkF m pc Ls (.int z :: st)) := by
  obtain ⟨fs, h1, h2, h3, h4⟩ := S.endB (v := some (.int (nar t z))) (fun y => by rw [hret] at y; cases y) hc hs q
  obtain ⟨A, vm0, k0, hw, X, r⟩ := S
  exact ⟨_, _, RoadKit.retN X A.1 hret ht hd h1, h2, h3, h4⟩
theorem Sd.retJ (S : Sd wd EL a0 p l e R s m args below meth c Z own n0 h0 ws0 T h F locs cells slots) {rc rs : Nat} {Q : Option Value → Heap → Prop} {z : Int64} (hd : decode c.code pc = .ok (.lreturn, 1)) (hret : meth.sig.returnType = some .long) (hc : cells ≤ rc) (hs : slots ≤ rs) (q : Q (some (.long z)) h) : Go p e below (Done wd EL Z s n0 h0 ws0 rc rs Q) T (mkF m pc Ls (.long z :: st)) :=
  S.retV hd hret rfl (Or.inr (Or.inl ⟨rfl, rfl, z, rfl⟩)) hc hs q
theorem Sd.retA (S : Sd wd EL a0 p l e R s m args below meth c Z own n0 h0 ws0 T h F locs cells slots) {rc rs : Nat} {Q : Option Value → Heap → Prop} {w : Value} {t : FieldType} (hd : decode c.code pc = .ok (.areturn, 1)) (hret : meth.sig.returnType = some t) (ht : t.isReference = true) (hw : w.isRef = true) (hc : cells ≤ rc) (hs : slots ≤ rs) (q : Q (some w) h) : Go p e below (Done wd EL Z s n0 h0 ws0 rc rs Q) T (mkF m pc Ls (w :: st)) :=
  S.retV hd hret (Jvm.narrow_isRef _ hw) (Or.inr (Or.inr (Or.inr (Or.inr ⟨rfl, ht, hw⟩)))) hc hs q
/-! ### contracts -/
/-- a body that interns nothing -/
def Con (l : Launch) (Z : State) (n0 : Nat) (y : MethodName) (bytes : ByteArray) (maxL : Nat) (ret : Option FieldType) (cs : List Jvm.Cond) (rm : Room) (as' : Array Value) (h : Heap) (ws : List Addr) (Q : Option Value → Heap → Prop) : Prop :=
  MetFree l y (head1 (Jvm.Cond.code y bytes maxL ret :: cs) rm) (fun a U => a = as' ∧ Z.Warmed39 U.vm ∧ U.heap = h) (fun _ _ _ _ _ => True) (fun _ U o U' => ∃ v L, o = .returned v ∧ (Q v U'.heap ∧ Keep h U'.heap ws ∧ Fr n0 L) ∧ FrameEnd U o U' L rm.cells rm.slots)
/-- a body that may intern: F0: what must hold no booked literal -/
def ConS (EL : List (String × Nat)) (l : Launch) (Z : State) (n0 : Nat) (y : MethodName) (bytes : ByteArray) (maxL : Nat) (ret : Option FieldType) (cs : List Jvm.Cond) (rm : Room) (as' : Array Value) (h : Heap) (ws F0 : List Addr) (Q : Option Value → Heap → Prop) : Prop :=
  MetFree l y (head1 (Jvm.Cond.code y bytes maxL ret :: cs) rm) (fun a U => a = as' ∧ Z.Warmed39 U.vm ∧ U.heap = h ∧ CHv Z EL U.vm h ∧ ∀ x ∈ F0, Safe Z EL U.vm h x ∧ x < h.size) (fun _ _ _ _ _ => True) (fun _ U o U' => ∃ v L, o = .returned v ∧ (Q v U'.heap ∧ Keep h U'.heap ws ∧ Fr n0 L) ∧ CHr Z EL U.vm U.heap U'.vm U'.heap ∧ ReturnedEndW U o U' L rm.cells rm.slots)
theorem chv0 {vm : Vm} : CHv Z [] vm h := fun _ q => nomatch q
theorem safe0 {vm : Vm} {x : Addr} : Safe Z [] vm h x := fun ⟨_, q, _⟩ => nomatch q
theorem Con.of {y : MethodName} {bytes : ByteArray} {maxL : Nat} {ret : Option FieldType} {cs : List Jvm.Cond} {rm : Room} {as' : Array Value} {Q : Option Value → Heap → Prop} (a0 : Array Value) (hn : plainFor y = true) (hO : Old Z n0 h) (hws : ∀ x ∈ ws, n0 ≤ x) (F0 : List Addr) (hF0 : ∀ x ∈ F0, x < h.size)
    (body : ∀ (p : Program) (e : Env) (s : State) (m : MethodId) (below : List Frame) (meth : Method) (c : Code) (T : State), Sd false [] a0 p l e rm s m as' below meth c Z y.cls n0 h ws T h F0 [] 0 0 → c.code = bytes → c.maxLocals = maxL → meth.sig.returnType = ret → meth.name = y.name → Go p e below (Done false [] Z s n0 h ws rm.cells rm.slots Q) T (entryFrame m as' maxL)) :
    Con l Z n0 y bytes maxL ret cs rm as' h ws Q := by
  refine MetFree.of_bodySF hn hisR ?_
  intro p e s m args below meth c s₁ Bd hml0 hP hK
  obtain ⟨rfl, hZ, rfl⟩ := hP
  have e0 : s₁.heap = s.heap := by rw [Bd.state]; rfl
  obtain ⟨s₂, o, h1, h2, h3, h4⟩ := body p e s m below meth c s₁ ⟨⟨Bd.exec, Bd.notSynchronized, EW.nil, rfl, hO, hws⟩, s.vm, 0, fun _ => rfl, (Stand.of_body Bd : Stand p l e rm s m args below meth c s₁ [] 0 0), e0, State.WarmedH.since (State.WarmedH.refl s) 0, Nat.zero_le _, hZ, findClass_of_methodNamed Bd.named, hO, Fr.nil n0, Keep.refl _ _, CHr.refl chv0, fun x hx => ⟨safe0, hF0 x hx⟩⟩ Bd.bytes hml0 Bd.returns (name_of_methodNamed Bd.named Bd.method).1
  exact ⟨s₂, o, h1, h2, h3, h4⟩
theorem ConS.of {y : MethodName} {bytes : ByteArray} {maxL : Nat} {ret : Option FieldType} {cs : List Jvm.Cond} {rm : Room} {as' : Array Value} {F0 : List Addr} {Q : Option Value → Heap → Prop} (hn : plainFor y = true) (hO : Old Z n0 h) (hEL : EW Z a0 EL) (hws : ∀ x ∈ ws, n0 ≤ x)
    (body : ∀ (p : Program) (e : Env) (s : State) (m : MethodId) (below : List Frame) (meth : Method) (c : Code) (T : State), Sd true EL a0 p l e rm s m as' below meth c Z y.cls n0 h ws T h F0 [] 0 0 → c.code = bytes → c.maxLocals = maxL → meth.sig.returnType = ret → meth.name = y.name → Go p e below (Done true EL Z s n0 h ws rm.cells rm.slots Q) T (entryFrame m as' maxL)) :
    ConS EL l Z n0 y bytes maxL ret cs rm as' h ws F0 Q := by
  refine MetFree.of_bodySF hn hisR ?_
  intro p e s m args below meth c s₁ Bd hml0 hP hK
  obtain ⟨rfl, hZ, rfl, hC, hF⟩ := hP
  have e0 : s₁.heap = s.heap := by rw [Bd.state]; rfl
  obtain ⟨s₂, o, h1, h2, h3, h4⟩ := body p e s m below meth c s₁ ⟨⟨Bd.exec, Bd.notSynchronized, hEL, rfl, hO, hws⟩, s.vm, 0, fun _ => rfl, (Stand.of_body Bd : Stand p l e rm s m args below meth c s₁ [] 0 0), e0, State.WarmedH.since (State.WarmedH.refl s) 0, Nat.zero_le _, hZ, findClass_of_methodNamed Bd.named, hO, Fr.nil n0, Keep.refl _ _, CHr.refl hC, hF⟩ Bd.bytes hml0 Bd.returns (name_of_methodNamed Bd.named Bd.method).1
  exact ⟨s₂, o, h1, h2, h3, h4⟩
/-! ### who pays a call -/
def Pay (l : Launch) (R : Room) (p : Program) (e : Env) (below : List Frame) (args : Array Value) (Z s : State) (n0 : Nat) (y : MethodName) (len W : Nat) (as' : Array Value) (h : Heap) (ws : List Addr) (rc rs : Nat) (Q : Option Value → Heap → Prop) : Prop :=
  ∀ s' : State, Z.Warmed39 s'.vm → s.vm.Alike s'.vm → Back l R p e below s' args y len W (fun A a => a = as' ∧ A.U.heap = h ∧ A.cells + rc ≤ R.cells ∧ A.slots + rs ≤ R.slots) (fun A _ v B => ∃ L, (Q v B.U.heap ∧ Keep h B.U.heap ws ∧ Fr n0 L) ∧ B.locs = A.locs ++ L ∧ B.cells = A.cells + rc ∧ B.slots = A.slots + rs)
def PayS (EL : List (String × Nat)) (a0 : Array Value) (l : Launch) (R : Room) (p : Program) (e : Env) (below : List Frame) (args : Array Value) (Z : State) (n0 : Nat) (y : MethodName) (len W : Nat) (as' : Array Value) (h : Heap) (ws F0 : List Addr) (rc rs : Nat) (Q : Option Value → Heap → Prop) : Prop :=
  ∀ (s : State) (vm0 : Vm), Z.Warmed39 vm0 → EW Z a0 EL → CHv Z EL vm0 h → (∀ x ∈ F0, Safe Z EL vm0 h x ∧ x < h.size) → BackS l R p e below (s.setVm vm0) args y len W (fun A a => a = as' ∧ A.U.heap = h ∧ A.cells + rc ≤ R.cells ∧ A.slots + rs ≤ R.slots)
    (fun A _ v B => ∃ L, (Q v B.U.heap ∧ Keep h B.U.heap ws ∧ Fr n0 L) ∧ B.locs = A.locs ++ L ∧ B.cells = A.cells + rc ∧ B.slots = A.slots + rs ∧ CHr Z EL vm0 h B.U.vm B.U.heap)
variable {y : MethodName} {bytes : ByteArray} {maxL : Nat} {ret : Option FieldType} {cs : List Jvm.Cond} {rm : Room} {as' : Array Value} {Q : Option Value → Heap → Prop} {len W rc rs : Nat} {F0 : List Addr} {argsL : List Value}
theorem Con.pay (M : Con l Z n0 y bytes maxL ret [] rm as' h ws Q) (wc : (Jvm.Cond.code y bytes maxL ret).before a0 Z = true) (wz : (Jvm.Cond.initialized y.cls).before a0 Z = true) (hf : rm.frames + 1 ≤ R.frames) (hl : W + (maxL + 11) + rm.locals ≤ R.locals) : Pay l R p e below args Z s n0 y len W as' h ws rm.cells rm.slots Q :=
  fun _ hZ _ => backOf (Q := fun v h' L => Q v h' ∧ Keep h h' ws ∧ Fr n0 L) M hZ wc wz hf hl
theorem ConS.pay (M : ConS EL l Z n0 y bytes maxL ret [] rm as' h ws F0 Q) (wc : (Jvm.Cond.code y bytes maxL ret).before a0 Z = true) (wz : (Jvm.Cond.initialized y.cls).before a0 Z = true) (hf : rm.frames + 1 ≤ R.frames) (hl : W + (maxL + 11) + rm.locals ≤ R.locals) : PayS EL a0 l R p e below args Z n0 y len W as' h ws F0 rm.cells rm.slots Q := by
  intro s vm0 hZ hEL H hF
  exact BackS.of_freeW (bytes := bytes) (maxL := maxL) (ret := ret) (E := fun _ first o t L k n => k = rm.cells ∧ n = rm.slots ∧ (∃ v, o = .returned v ∧ (Q v t.heap ∧ Keep h t.heap ws ∧ Fr n0 L)) ∧ CHr Z EL first.vm first.heap t.vm t.heap) M hf hl
    (fun m meth c A a Y hp => have hU : Z.Warmed39 A.U.vm := wtrans (s := s.setVm vm0) hZ Y.warmed
      ⟨by show (Cond.and _ .tt).before a A.U = true; rw [Cond.before_and, mv hU wc]; rfl, mv hU wc, mv hU wz, hp.2.2.1, hp.2.2.2⟩)
    (fun m meth c A a g mk Y hp => ⟨hp.1, wtrans (s := s.setVm vm0) hZ Y.warmed, hp.2.1, (CHv.at Y hZ hEL H).1, fun x hx => ⟨(CHv.at Y hZ hEL H).safe (hF x hx).2 (hF x hx).1, (hF x hx).2⟩⟩) (fun _ _ _ _ _ _ _ _ _ => trivial)
    (fun _ _ _ _ ⟨v, L, h1, h2, h3, h4⟩ => ⟨L, _, _, h4, rfl, rfl, ⟨v, h1, h2⟩, h3⟩)
    (fun m meth c A a g mk v t L k n Y hp _ _ ⟨e1, e2, ⟨v', e3, e4⟩, e5⟩ => by
      cases e3; subst e1 e2
      refine ⟨L, e4, rfl, rfl, rfl, (CHv.at Y hZ hEL H).trans ?_⟩
      rw [← hp.2.1]; exact e5)
/-- what a caller must know of what its callee writes -/
def Wrs (Z : State) (n0 : Nat) (h0 : Heap) (ws0 : List Addr) (h : Heap) (F ws : List Addr) : Prop := ∀ x ∈ ws, Wok n0 h0 ws0 x ∧ (x ∈ F ∨ ∃ C, Exa Z h x C ∧ C ≠ "java/lang/String" ∧ C ≠ "[B")
theorem Wrs.nil : Wrs Z n0 h0 ws0 h F [] := fun _ q => nomatch q
theorem Wrs.one {x : Addr} (w : Wok n0 h0 ws0 x) (q : x ∈ F ∨ ∃ C, Exa Z h x C ∧ C ≠ "java/lang/String" ∧ C ≠ "[B") : Wrs Z n0 h0 ws0 h F [x] := fun y hy => by rw [List.mem_singleton.mp hy]; exact ⟨w, q⟩
theorem Wrs.safe (w : Wrs Z n0 h0 ws0 h F ws) (hal : Z.vm.Alike vm0) (hF : ∀ x ∈ F, Safe Z EL vm0 h x ∧ x < h.size) : ∀ x ∈ ws, Wok n0 h0 ws0 x ∧ Safe Z EL vm0 h x := fun x hx => by
  obtain ⟨w1, w2⟩ := w x hx
  refine ⟨w1, ?_⟩
  rcases w2 with q | ⟨C, E, q1, q2⟩
  · exact (hF x q).1
  · exact Safe.exa hal E q1 q2
theorem Sd.afterN {A : p.tables.exec = Jvm.exec ∧ meth.locks = false ∧ EW Z a0 EL ∧ s.heap = h0 ∧ Old Z n0 h0 ∧ ∀ x ∈ ws0, n0 ≤ x} (hv : wd = false → vm0 = s.vm) (hS : s.Since vm0 k0) (hk : k0 ≤ h.size) (hZ : Z.Warmed39 vm0) (hown : vm0.findClass own = some m.cls) (O : Old Z n0 h) (N : Fr n0 locs) (K0 : Keep h0 h ws0) (C0 : CHr Z EL s.vm s.heap vm0 h) (hF : ∀ x ∈ F, Safe Z EL vm0 h x ∧ x < h.size) (hws : Wrs Z n0 h0 ws0 h F ws)
    {B : Pt} (X : Stand p l e R (s.setVm vm0) m args below meth c B.U B.locs B.cells B.slots) {L : List Loc} (K : Keep h B.U.heap ws) (NL : Fr n0 L) (l1 : B.locs = locs ++ L) (l2 : B.cells = cells + rc) (l3 : B.slots = slots + rs) : Sd wd EL a0 p l e R s m args below meth c Z own n0 h0 ws0 B.U B.U.heap F (locs ++ L) (cells + rc) (slots + rs) := by
  rw [l1, l2, l3] at X
  exact Sd.close A hv X rfl hS hk hZ hown O (Fr.app N NL) K0 C0 hF K (hws.safe hZ.alike hF) fun x hx => Or.inl hx
theorem Sd.scall (S : Sd wd EL a0 p l e R s m args below meth c Z own n0 h0 ws0 T h F locs cells slots) {index : Nat} (pc' : Nat) (hd : decode c.code pc = .ok (.invokestatic index, 3)) (hml : Ls.size = c.maxLocals) (w1 : (Jvm.Cond.methodLink own index y).before a0 Z = true) (w2 : (Jvm.Cond.static y).before a0 Z = true) (w3 : (Jvm.Cond.initialized y.cls).before a0 Z = true) (w4 : (Jvm.Cond.code y bytes maxL ret).before a0 Z = true) (hy : y.cls ≠ "java/lang/invoke/MethodHandle" ∧ y.cls ≠ "java/lang/invoke/VarHandle")
    (argsL rest : List Value) (K : Pay l R p e below args Z s n0 y 3 W argsL.toArray h ws rc rs Q) (hlen : ∀ sig, parseMethodDescriptor y.desc = some sig → argsL.length = sig.parameters.length) (hst : st = argsL.reverse ++ rest) (hW : (rest.map fun v => v.category).sum ≤ W) (hc : cells + rc ≤ R.cells) (hs : slots + rs ≤ R.slots) (hws : Wrs Z n0 h0 ws0 h F ws)
    (g : ∀ (v : Option Value) (T' : State) (h' : Heap) (L : List Loc), Sd wd EL a0 p l e R s m args below meth c Z own n0 h0 ws0 T' h' F (locs ++ L) (cells + rc) (slots + rs) → Q v h' → Keep h h' ws → Go p e below P T' (mkF m pc' Ls (v.toList ++ rest))) (hp : pc + 3 = pc' := by rfl) : Go p e below P T (mkF m pc Ls st) := by
  subst hp hst
  obtain ⟨A, vm0, k0, hv, X, eT, hS, hk, hZ, hown, O, N, K0, C0, hF⟩ := S
  obtain ⟨v, vm₁, B, -, X', ⟨L, ⟨q, KK, NL⟩, l1, l2, l3⟩, st'⟩ := Jvm.LawKit.callS X A.1 hown (mvT (s := s.setVm vm0) hZ w1) (mvT (s := s.setVm vm0) hZ w2) (mvT (s := s.setVm vm0) hZ w3) (mvT (s := s.setVm vm0) hZ w4) hy (K (s.setVm vm0) hZ hS.1.alike) (g := mkF m pc Ls (argsL.reverse ++ rest)) rfl hml (argsL := argsL) (rest := rest) hlen rfl (by show 2 * 0 + _ ≤ _; omega) hd (fun _ _ => ⟨rfl, eT, hc, hs⟩)
  exact Go.by st' (g v B.U B.U.heap L (Sd.afterN (A := A) hv hS hk hZ hown O N K0 C0 hF hws X' KK NL l1 l2 l3) q KK)
theorem Sd.icall (S : Sd wd EL a0 p l e R s m args below meth c Z own n0 h0 ws0 T h F locs cells slots) {index : Nat} {a : Addr} (pc' : Nat) (hd : decode c.code pc = .ok (.invokespecial index, 3)) (hml : Ls.size = c.maxLocals) (hy1 : y.name = "<init>") (w1 : (Jvm.Cond.methodLink own index y).before a0 Z = true) (w2 : (Jvm.Cond.instanceMethod y).before a0 Z = true) (w4 : (Jvm.Cond.code y bytes maxL none).before a0 Z = true) (hy : y.cls ≠ "java/lang/invoke/MethodHandle" ∧ y.cls ≠ "java/lang/invoke/VarHandle")
    (argsL rest : List Value) (K : Pay l R p e below args Z s n0 y 3 W (.ref a :: argsL).toArray h ws rc rs Q) (hlen : ∀ sig, parseMethodDescriptor y.desc = some sig → argsL.length = sig.parameters.length) (hst : st = argsL.reverse ++ .ref a :: rest) (hW : (rest.map fun v => v.category).sum ≤ W) (hc : cells + rc ≤ R.cells) (hs : slots + rs ≤ R.slots) (hws : Wrs Z n0 h0 ws0 h F ws)
    (g : ∀ (v : Option Value) (T' : State) (h' : Heap) (L : List Loc), Sd wd EL a0 p l e R s m args below meth c Z own n0 h0 ws0 T' h' F (locs ++ L) (cells + rc) (slots + rs) → Q v h' → Keep h h' ws → Go p e below P T' (mkF m pc' Ls (v.toList ++ rest))) (hp : pc + 3 = pc' := by rfl) : Go p e below P T (mkF m pc Ls st) := by
  subst hp hst
  obtain ⟨A, vm0, k0, hv, X, eT, hS, hk, hZ, hown, O, N, K0, C0, hF⟩ := S
  obtain ⟨v, vm₁, B, -, X', ⟨L, ⟨q, KK, NL⟩, l1, l2, l3⟩, st'⟩ := X.specialBack A.1 hy1 hown (mvT (s := s.setVm vm0) hZ w1) (mvT (s := s.setVm vm0) hZ w2) (mvT (s := s.setVm vm0) hZ w4) hy (K (s.setVm vm0) hZ hS.1.alike) (g := mkF m pc Ls (argsL.reverse ++ .ref a :: rest)) rfl hml (Steps.refl _) (a := a) (argsL := argsL) (rest := rest) hlen rfl (by show 2 * 0 + _ ≤ _; omega) hd (fun _ _ => ⟨rfl, eT, hc, hs⟩)
  exact Go.by (fun _ z => st'.trans z) (g v B.U B.U.heap L (Sd.afterN (A := A) hv hS hk hZ hown O N K0 C0 hF hws X' KK NL l1 l2 l3) q KK)
theorem Sd.vcall (S : Sd wd EL a0 p l e R s m args below meth c Z own n0 h0 ws0 T h F locs cells slots) {index : Nat} {a : Addr} {x : MethodName} {C : String} (pc' : Nat) (hd : decode c.code pc = .ok (.invokevirtual index, 3)) (hml : Ls.size = c.maxLocals) (w1 : (Jvm.Cond.methodLink own index x).before a0 Z = true) (w2 : (Jvm.Cond.declares x).before a0 Z = true) (w3 : (Jvm.Cond.selects C x y).before a0 Z = true) (w4 : (Jvm.Cond.instanceMethod y).before a0 Z = true) (hnf : ∀ s' : State, Z.Warmed39 s'.vm → NotFace s' x) (hy : x.cls ≠ "java/lang/invoke/MethodHandle" ∧ x.cls ≠ "java/lang/invoke/VarHandle") (E : Exa Z h a C)
    (argsL rest : List Value) (K : Pay l R p e below args Z s n0 y 3 W (.ref a :: argsL).toArray h ws rc rs Q) (hlen : ∀ sig, parseMethodDescriptor x.desc = some sig → argsL.length = sig.parameters.length) (hst : st = argsL.reverse ++ .ref a :: rest) (hW : (rest.map fun v => v.category).sum ≤ W) (hc : cells + rc ≤ R.cells) (hs : slots + rs ≤ R.slots) (hws : Wrs Z n0 h0 ws0 h F ws)
    (g : ∀ (v : Option Value) (T' : State) (h' : Heap) (L : List Loc), Sd wd EL a0 p l e R s m args below meth c Z own n0 h0 ws0 T' h' F (locs ++ L) (cells + rc) (slots + rs) → Q v h' → Keep h h' ws → Go p e below P T' (mkF m pc' Ls (v.toList ++ rest))) (hp : pc + 3 = pc' := by rfl) : Go p e below P T (mkF m pc Ls st) := by
  subst hp hst
  obtain ⟨A, vm0, k0, hv, X, eT, hS, hk, hZ, hown, O, N, K0, C0, hF⟩ := S
  obtain ⟨cB, kB, q1, -, q3⟩ := isOf (s := s.setVm vm0) hZ eT E
  obtain ⟨v, vm₁, B, -, X', ⟨L, ⟨q, KK, NL⟩, l1, l2, l3⟩, st'⟩ := X.virtualBack A.1 hown (mvT (s := s.setVm vm0) hZ w1) (mvT (s := s.setVm vm0) hZ w2) (hnf (s.setVm vm0) hZ) (mvT (s := s.setVm vm0) hZ w3) (mvT (s := s.setVm vm0) hZ w4) hy (K (s.setVm vm0) hZ hS.1.alike) q1 q3 (g := mkF m pc Ls (argsL.reverse ++ .ref a :: rest)) rfl hml (Steps.refl _) (argsL := argsL) (rest := rest) hlen rfl (by show 2 * 0 + _ ≤ _; omega) hd (fun _ _ => ⟨rfl, eT, hc, hs⟩)
  exact Go.by (fun _ z => st'.trans z) (g v B.U B.U.heap L (Sd.afterN (A := A) hv hS hk hZ hown O N K0 C0 hF hws X' KK NL l1 l2 l3) q KK)
theorem nfSel {x : MethodName} {C : String} (w3 : (Jvm.Cond.selects C x x).before a0 Z = true) : ∀ s' : State, Z.Warmed39 s'.vm → NotFace s' x := fun s' hZ => notFace_of_selects (args := #[]) (mvT (s := s') hZ w3)
/-! ### a callee that may intern -/
theorem Sd.afterS {A : p.tables.exec = Jvm.exec ∧ meth.locks = false ∧ EW Z a0 EL ∧ s.heap = h0 ∧ Old Z n0 h0 ∧ ∀ x ∈ ws0, n0 ≤ x} (eT : T.heap = h) (hS : s.Since vm0 k0) (hk : k0 ≤ h.size) (hZ : Z.Warmed39 vm0) (hown : vm0.findClass own = some m.cls) (O : Old Z n0 h) (N : Fr n0 locs) (K0 : Keep h0 h ws0) (C0 : CHr Z EL s.vm s.heap vm0 h) (hF : ∀ x ∈ F, Safe Z EL vm0 h x ∧ x < h.size) (hws : Wrs Z n0 h0 ws0 h F ws)
    {B : Pt} (X : Stand p l e R ((s.setVm vm0).setVm B.U.vm) m args below meth c B.U B.locs B.cells B.slots) (h2 : (s.setVm vm0).Since B.U.vm B.U.heap.size) (gr : T.heap.size ≤ B.U.heap.size) {L : List Loc} (K : Keep h B.U.heap ws) (NL : Fr n0 L) (l1 : B.locs = locs ++ L) (l2 : B.cells = cells + rc) (l3 : B.slots = slots + rs) (C1 : CHr Z EL vm0 h B.U.vm B.U.heap) :
    Sd true EL a0 p l e R s m args below meth c Z own n0 h0 ws0 B.U B.U.heap F (locs ++ L) (cells + rc) (slots + rs) := by
  rw [l1, l2, l3] at X
  obtain ⟨X', hS', hZ', hown'⟩ := rebS hS (by rw [eT]; exact hk) X h2 gr hZ hown
  exact ⟨A, B.U.vm, _, nofun, X', rfl, hS', Nat.le_refl _, hZ', hown', O.keep K fun x hx => (hws x hx).1.le (own_ole A.2.2.2.2.1) A.2.2.2.2.2, Fr.app N NL, K0.trans K fun x hx => (hws x hx).1, C0.trans C1, fun x hx => ⟨C1.safe (hF x hx).2 (hF x hx).1, Nat.lt_of_lt_of_le (hF x hx).2 K.1⟩⟩
theorem Sd.scallS (S : Sd true EL a0 p l e R s m args below meth c Z own n0 h0 ws0 T h F locs cells slots) {index : Nat} (pc' : Nat) (hd : decode c.code pc = .ok (.invokestatic index, 3)) (hml : Ls.size = c.maxLocals) (w1 : (Jvm.Cond.methodLink own index y).before a0 Z = true) (w2 : (Jvm.Cond.static y).before a0 Z = true) (w3 : (Jvm.Cond.initialized y.cls).before a0 Z = true) (w4 : (Jvm.Cond.code y bytes maxL ret).before a0 Z = true) (hy : y.cls ≠ "java/lang/invoke/MethodHandle" ∧ y.cls ≠ "java/lang/invoke/VarHandle")
    (argsL rest : List Value) (K : PayS EL a0 l R p e below args Z n0 y 3 W argsL.toArray h ws F0 rc rs Q) (hlen : ∀ sig, parseMethodDescriptor y.desc = some sig → argsL.length = sig.parameters.length) (hst : st = argsL.reverse ++ rest) (hW : (rest.map fun v => v.category).sum ≤ W) (hc : cells + rc ≤ R.cells) (hs : slots + rs ≤ R.slots) (hws : Wrs Z n0 h0 ws0 h F ws) (hF0 : ∀ x ∈ F0, x ∈ F)
    (g : ∀ (v : Option Value) (T' : State) (h' : Heap) (L : List Loc), Sd true EL a0 p l e R s m args below meth c Z own n0 h0 ws0 T' h' F (locs ++ L) (cells + rc) (slots + rs) → Q v h' → Keep h h' ws → Go p e below P T' (mkF m pc' Ls (v.toList ++ rest))) (hp : pc + 3 = pc' := by rfl) : Go p e below P T (mkF m pc Ls st) := by
  subst hp hst
  obtain ⟨A, vm0, k0, hv, X, eT, hS, hk, hZ, hown, O, N, K0, C0, hF⟩ := S
  obtain ⟨v, vm₁, B, -, X', h2, gr, ⟨L, ⟨q, KK, NL⟩, l1, l2, l3, C1⟩, st'⟩ := callSS X A.1 hown (mvT (s := s.setVm vm0) hZ w1) (mvT (s := s.setVm vm0) hZ w2) (mvT (s := s.setVm vm0) hZ w3) (mvT (s := s.setVm vm0) hZ w4) hy (K s vm0 hZ A.2.2.1 C0.1 fun x hx => hF x (hF0 x hx)) (g := mkF m pc Ls (argsL.reverse ++ rest)) rfl hml (argsL := argsL) (rest := rest) hlen rfl (by show 2 * 0 + _ ≤ _; omega) hd (fun _ _ => ⟨rfl, eT, hc, hs⟩)
  exact Go.by (fun _ z => st'.trans z) (g v B.U B.U.heap L (Sd.afterS (A := A) eT hS hk hZ hown O N K0 C0 hF hws X' h2 gr KK NL l1 l2 l3 C1) q KK)
theorem Sd.icallS (S : Sd true EL a0 p l e R s m args below meth c Z own n0 h0 ws0 T h F locs cells slots) {index : Nat} {a : Addr} (pc' : Nat) (hd : decode c.code pc = .ok (.invokespecial index, 3)) (hml : Ls.size = c.maxLocals) (hy1 : y.name = "<init>") (w1 : (Jvm.Cond.methodLink own index y).before a0 Z = true) (w2 : (Jvm.Cond.instanceMethod y).before a0 Z = true) (w4 : (Jvm.Cond.code y bytes maxL none).before a0 Z = true) (hy : y.cls ≠ "java/lang/invoke/MethodHandle" ∧ y.cls ≠ "java/lang/invoke/VarHandle")
    (argsL rest : List Value) (K : PayS EL a0 l R p e below args Z n0 y 3 W (.ref a :: argsL).toArray h ws F0 rc rs Q) (hlen : ∀ sig, parseMethodDescriptor y.desc = some sig → argsL.length = sig.parameters.length) (hst : st = argsL.reverse ++ .ref a :: rest) (hW : (rest.map fun v => v.category).sum ≤ W) (hc : cells + rc ≤ R.cells) (hs : slots + rs ≤ R.slots) (hws : Wrs Z n0 h0 ws0 h F ws) (hF0 : ∀ x ∈ F0, x ∈ F)
    (g : ∀ (v : Option Value) (T' : State) (h' : Heap) (L : List Loc), Sd true EL a0 p l e R s m args below meth c Z own n0 h0 ws0 T' h' F (locs ++ L) (cells + rc) (slots + rs) → Q v h' → Keep h h' ws → Go p e below P T' (mkF m pc' Ls (v.toList ++ rest))) (hp : pc + 3 = pc' := by rfl) : Go p e below P T (mkF m pc Ls st) := by
  subst hp hst
  obtain ⟨A, vm0, k0, hv, X, eT, hS, hk, hZ, hown, O, N, K0, C0, hF⟩ := S
  obtain ⟨v, vm₁, B, -, X', h2, gr, ⟨L, ⟨q, KK, NL⟩, l1, l2, l3, C1⟩, st'⟩ := X.specialBackS A.1 hy1 hown (mvT (s := s.setVm vm0) hZ w1) (mvT (s := s.setVm vm0) hZ w2) (mvT (s := s.setVm vm0) hZ w4) hy (K s vm0 hZ A.2.2.1 C0.1 fun x hx => hF x (hF0 x hx)) (g := mkF m pc Ls (argsL.reverse ++ .ref a :: rest)) rfl hml (Steps.refl _) (a := a) (argsL := argsL) (rest := rest) hlen rfl (by show 2 * 0 + _ ≤ _; omega) hd (fun _ _ => ⟨rfl, eT, hc, hs⟩)
  exact Go.by (fun _ z => st'.trans z) (g v B.U B.U.heap L (Sd.afterS (A := A) eT hS hk hZ hown O N K0 C0 hF hws X' h2 gr KK NL l1 l2 l3 C1) q KK)
theorem Sd.vcallS (S : Sd true EL a0 p l e R s m args below meth c Z own n0 h0 ws0 T h F locs cells slots) {index : Nat} {a : Addr} {x : MethodName} {C : String} (pc' : Nat) (hd : decode c.code pc = .ok (.invokevirtual index, 3)) (hml : Ls.size = c.maxLocals) (w1 : (Jvm.Cond.methodLink own index x).before a0 Z = true) (w2 : (Jvm.Cond.declares x).before a0 Z = true) (w3 : (Jvm.Cond.selects C x y).before a0 Z = true) (w4 : (Jvm.Cond.instanceMethod y).before a0 Z = true) (hnf : ∀ s' : State, Z.Warmed39 s'.vm → NotFace s' x) (hy : x.cls ≠ "java/lang/invoke/MethodHandle" ∧ x.cls ≠ "java/lang/invoke/VarHandle") (E : Exa Z h a C)
    (argsL rest : List Value) (K : PayS EL a0 l R p e below args Z n0 y 3 W (.ref a :: argsL).toArray h ws F0 rc rs Q) (hlen : ∀ sig, parseMethodDescriptor x.desc = some sig → argsL.length = sig.parameters.length) (hst : st = argsL.reverse ++ .ref a :: rest) (hW : (rest.map fun v => v.category).sum ≤ W) (hc : cells + rc ≤ R.cells) (hs : slots + rs ≤ R.slots) (hws : Wrs Z n0 h0 ws0 h F ws) (hF0 : ∀ x ∈ F0, x ∈ F)
    (g : ∀ (v : Option Value) (T' : State) (h' : Heap) (L : List Loc), Sd true EL a0 p l e R s m args below meth c Z own n0 h0 ws0 T' h' F (locs ++ L) (cells + rc) (slots + rs) → Q v h' → Keep h h' ws → Go p e below P T' (mkF m pc' Ls (v.toList ++ rest))) (hp : pc + 3 = pc' := by rfl) : Go p e below P T (mkF m pc Ls st) := by
  subst hp hst
  obtain ⟨A, vm0, k0, hv, X, eT, hS, hk, hZ, hown, O, N, K0, C0, hF⟩ := S
  obtain ⟨cB, kB, q1, -, q3⟩ := isOf (s := s.setVm vm0) hZ eT E
  obtain ⟨v, vm₁, B, -, X', h2, gr, ⟨L, ⟨q, KK, NL⟩, l1, l2, l3, C1⟩, st'⟩ := X.virtualBackS A.1 hown (mvT (s := s.setVm vm0) hZ w1) (mvT (s := s.setVm vm0) hZ w2) (hnf (s.setVm vm0) hZ) (mvT (s := s.setVm vm0) hZ w3) (mvT (s := s.setVm vm0) hZ w4) hy (K s vm0 hZ A.2.2.1 C0.1 fun x hx => hF x (hF0 x hx)) q1 q3 (g := mkF m pc Ls (argsL.reverse ++ .ref a :: rest)) rfl hml (Steps.refl _) (argsL := argsL) (rest := rest) hlen rfl (by show 2 * 0 + _ ≤ _; omega) hd (fun _ _ => ⟨rfl, eT, hc, hs⟩)
  exact Go.by (fun _ z => st'.trans z) (g v B.U B.U.heap L (Sd.afterS (A := A) eT hS hk hZ hown O N K0 C0 hF hws X' h2 gr KK NL l1 l2 l3 C1) q KK)
end OwnKit
end Jvm.Pilot.@@N@@
namespace Jvm.Pilot.@@N@@
open Jvm Jvm.ClassFile Sem Op Lib Jvm.Free Jvm.Stand Jvm.LawKit Jvm.RoadKit Bundle Jvm.Pilot.@@N@@.Jvm.D
section OwnMore
variable {wd : Bool} {EL : List (String × Nat)} {a0 : Array Value} {p : Program} {l : Launch} {e : Env} {R : Room} {s : State} {m : MethodId} {args : Array Value} {below : List Frame} {meth : Method} {c : Code} {Z : State} {own : String} {n0 : Nat} {h0 : Heap} {ws0 : List Addr}
  {T T' : State} {h h' : Heap} {F F' : List Addr} {locs locs' : List Loc} {cells slots cells' slots' : Nat} {P : Outcome → State → Prop} {pc pc' : Nat} {Ls : Array Slot} {st rest : List Value}
theorem Sd.pop2J (S : Sd wd EL a0 p l e R s m args below meth c Z own n0 h0 ws0 T h F locs cells slots) {x : Int64} (pc' : Nat) (hd : decode c.code pc = .ok (.pop2, 1)) (g : Go p e below P T (mkF m pc' Ls st)) (hp : pc + 1 = pc' := by rfl) : Go p e below P T (mkF m pc Ls (.long x :: st)) := by
  subst hp
  refine Go.by (fun t q => ?_) g
  have H := S.at
  have hx := S.hx
  show Steps p.tables e below (T.setTop { method := m, pc := pc, locals := Ls, stack := .long x :: st, locked := none }) t
  jvm_step H [H.top, hx, hd, Value.category]
  exact q
theorem Sd.aaload (S : Sd wd EL a0 p l e R s m args below meth c Z own n0 h0 ws0 T h F locs cells slots) {a : Addr} {cl : Cell} {ty : FieldType} {v : Value} {j : Int32} (pc' : Nat) (hd : decode c.code pc = .ok (.aaload, 1)) (A : Arr Z h a cl ty) (hty : ty.isReference = true) (hin : ¬ (j < 0 ∨ cl.slots.size ≤ j.toNatClampNeg)) (hv' : cl.slots[j.toNatClampNeg]? = some v) (g : Go p e below P T (mkF m pc' Ls (v :: st))) (hp : pc + 1 = pc' := by rfl) : Go p e below P T (mkF m pc Ls (.int j :: .ref a :: st)) := by
  subst hp
  obtain ⟨A', vm0, k0, hv, X, eT, hS, hk, hZ, r⟩ := S
  exact Go.by (fun t z => X.aaload A'.1 (by rw [eT]; exact A.1) (State.isArrayOf_alike hZ.alike A.2.1) hty A.2.2 hin hv' (g := mkF m pc Ls (.int j :: .ref a :: st)) rfl rfl hd t z) g
theorem Sd.bastore (S : Sd wd EL a0 p l e R s m args below meth c Z own n0 h0 ws0 T h F locs cells slots) {a : Addr} {k : ClassId} {N : Int32} {vs : List Value} {dv : Value} {j x : Int32} (pc' i : Nat) (hd : decode c.code pc = .ok (.bastore, 1)) (V : Arv Z h a k .byte N vs dv) (hj : ¬ j < 0 ∧ j < N) (hi : j.toNatClampNeg = i) (hlt : i < vs.length) (wo : Wok n0 h0 ws0 a) (so : a ∈ F)
    (g : ∀ (T' : State) (h' : Heap) (locs' : List Loc), Sd wd EL a0 p l e R s m args below meth c Z own n0 h0 ws0 T' h' F locs' cells slots → Wr h h' a j.toNatClampNeg (.int (nar .byte x)) → Arv Z h' a k .byte N (vs.set i (.int (nar .byte x))) dv → Go p e below P T' (mkF m pc' Ls st)) (hp : pc + 1 = pc' := by rfl) : Go p e below P T (mkF m pc Ls (.int x :: .int j :: .ref a :: st)) := by
  subst hp
  have ge : n0 ≤ a := S.ge wo
  obtain ⟨A, vm0, k0, hv, X, eT, hS, hk, hZ, hown, O0, N0, K0, C0, hF⟩ := S
  obtain ⟨cl, Ar, q, S', M, H, G⟩ := V
  obtain ⟨T', h', X', e', W', st'⟩ := stB X A.1 hZ eT Ar (x := x) (inb_of S' hj) (g := mkF m pc Ls (.int x :: .int j :: .ref a :: st)) rfl rfl hd
  exact Go.by st' (g T' h' _ (Sd.close A hv X' e' hS hk hZ hown O0 (Fr.snoc X' N0 ge) K0 C0 hF (Keep.of_wr W') (fun y hy => by rw [List.mem_singleton.mp hy]; exact ⟨wo, (hF a so).1⟩) fun y hy => Or.inl hy) W' (Arv.set Ar q S' M H G (fits_nar_byte _) W' i hi hlt))
variable {y : MethodName} {as' : Array Value} {Q : Option Value → Heap → Prop} {W rc rs : Nat} {ws : List Addr}
/-- 'invokevirtual' of a method that a superclass of the named class declares -/
theorem Sd.vcallU (S : Sd wd EL a0 p l e R s m args below meth c Z own n0 h0 ws0 T h F locs cells slots) {index : Nat} {a : Addr} {x : MethodName} {C owner : String} (pc' : Nat) (hd : decode c.code pc = .ok (.invokevirtual index, 3)) (hml : Ls.size = c.maxLocals) (w1 : (Jvm.Cond.methodLink own index x).before a0 Z = true) (w2 : (Jvm.Cond.sameMethod x.cls owner x.name x.desc).before a0 Z = true) (w2' : (Jvm.Cond.declares ⟨owner, x.name, x.desc⟩).before a0 Z = true) (hy : owner ≠ "java/lang/invoke/MethodHandle" ∧ owner ≠ "java/lang/invoke/VarHandle") (w3 : (Jvm.Cond.selects C x y).before a0 Z = true) (w4 : (Jvm.Cond.instanceMethod y).before a0 Z = true) (E : Exa Z h a C)
    (argsL rest : List Value) (K : Pay l R p e below args Z s n0 y 3 W (.ref a :: argsL).toArray h ws rc rs Q) (hlen : ∀ sig, parseMethodDescriptor x.desc = some sig → argsL.length = sig.parameters.length) (hst : st = argsL.reverse ++ .ref a :: rest) (hW : (rest.map fun v => v.category).sum ≤ W) (hc : cells + rc ≤ R.cells) (hs : slots + rs ≤ R.slots) (hws : Wrs Z n0 h0 ws0 h F ws)
    (g : ∀ (v : Option Value) (T' : State) (h' : Heap) (L : List Loc), Sd wd EL a0 p l e R s m args below meth c Z own n0 h0 ws0 T' h' F (locs ++ L) (cells + rc) (slots + rs) → Q v h' → Keep h h' ws → Go p e below P T' (mkF m pc' Ls (v.toList ++ rest))) (hp : pc + 3 = pc' := by rfl) : Go p e below P T (mkF m pc Ls st) := by
  subst hp hst
  obtain ⟨A, vm0, k0, hv, X, eT, hS, hk, hZ, hown, O, N, K0, C0, hF⟩ := S
  obtain ⟨cB, kB, q1, -, q3⟩ := isOf (s := s.setVm vm0) hZ eT E
  obtain ⟨v, vm₁, B, -, X', ⟨L, ⟨q, KK, NL⟩, l1, l2, l3⟩, st'⟩ := X.virtualBackUp A.1 hown (mvT (s := s.setVm vm0) hZ w1) (mvT (s := s.setVm vm0) hZ w2) (mvT (s := s.setVm vm0) hZ w2') hy (mvT (s := s.setVm vm0) hZ w3) (mvT (s := s.setVm vm0) hZ w4) (K (s.setVm vm0) hZ hS.1.alike) q1 q3 (g := mkF m pc Ls (argsL.reverse ++ .ref a :: rest)) rfl hml (Steps.refl _) (argsL := argsL) (rest := rest) hlen rfl (by show 2 * 0 + _ ≤ _; omega) hd (fun _ _ => ⟨rfl, eT, hc, hs⟩)
  exact Go.by (fun _ z => st'.trans z) (g v B.U B.U.heap L (Sd.afterN (A := A) hv hS hk hZ hown O N K0 C0 hF hws X' KK NL l1 l2 l3) q KK)
/-- 'invokeinterface' -/
theorem Sd.fcall (S : Sd wd EL a0 p l e R s m args below meth c Z own n0 h0 ws0 T h F locs cells slots) {index count : Nat} {a : Addr} {x : MethodName} {C : String} (pc' : Nat) (hd : decode c.code pc = .ok (.invokeinterface index count, 5)) (hml : Ls.size = c.maxLocals) (w1 : (Jvm.Cond.methodLink own index x).before a0 Z = true) (w2 : (Jvm.Cond.declares x).before a0 Z = true) (w3 : (Jvm.Cond.interfaceMethod x.cls x.cls x.name x.desc).before a0 Z = true) (w4 : (Jvm.Cond.selects C x y).before a0 Z = true) (w5 : (Jvm.Cond.instanceMethod y).before a0 Z = true) (w6 : (Jvm.Cond.publicMethod y).before a0 Z = true) (w7 : (Jvm.Cond.unhidden C x.name x.desc).before a0 Z = true) (w8 : (Jvm.Cond.castable C x.cls).before a0 Z = true) (hy : x.cls ≠ "java/lang/invoke/MethodHandle" ∧ x.cls ≠ "java/lang/invoke/VarHandle") (E : Exa Z h a C)
    (argsL rest : List Value) (K : Pay l R p e below args Z s n0 y 5 W (.ref a :: argsL).toArray h ws rc rs Q) (hlen : ∀ sig, parseMethodDescriptor x.desc = some sig → argsL.length = sig.parameters.length) (hst : st = argsL.reverse ++ .ref a :: rest) (hW : (rest.map fun v => v.category).sum ≤ W) (hc : cells + rc ≤ R.cells) (hs : slots + rs ≤ R.slots) (hws : Wrs Z n0 h0 ws0 h F ws)
    (g : ∀ (v : Option Value) (T' : State) (h' : Heap) (L : List Loc), Sd wd EL a0 p l e R s m args below meth c Z own n0 h0 ws0 T' h' F (locs ++ L) (cells + rc) (slots + rs) → Q v h' → Keep h h' ws → Go p e below P T' (mkF m pc' Ls (v.toList ++ rest))) (hp : pc + 5 = pc' := by rfl) : Go p e below P T (mkF m pc Ls st) := by
  subst hp hst
  obtain ⟨A, vm0, k0, hv, X, eT, hS, hk, hZ, hown, O, N, K0, C0, hF⟩ := S
  obtain ⟨cB, kB, q1, q2, q3⟩ := isOf (s := s.setVm vm0) hZ eT E
  obtain ⟨v, vm₁, B, -, X', ⟨L, ⟨q, KK, NL⟩, l1, l2, l3⟩, st'⟩ := X.interfaceBack A.1 hown (mvT (s := s.setVm vm0) hZ w1) (mvT (s := s.setVm vm0) hZ w2) (mvT (s := s.setVm vm0) hZ w3 (show (x.cls == x.cls && x.cls != "java/lang/invoke/MethodHandle" && x.cls != "java/lang/invoke/VarHandle") = true by simp [hy.1, hy.2])) (mvT (s := s.setVm vm0) hZ w4) (mvT (s := s.setVm vm0) hZ w5) (mvT (s := s.setVm vm0) hZ w6) (mvT (s := s.setVm vm0) hZ w7) (mvT (s := s.setVm vm0) hZ w8) hy (K (s.setVm vm0) hZ hS.1.alike) q1 q2 q3 (g := mkF m pc Ls (argsL.reverse ++ .ref a :: rest)) rfl hml (Steps.refl _) (argsL := argsL) (rest := rest) hlen rfl (by show 2 * 0 + _ ≤ _; omega) hd (fun _ _ => ⟨rfl, eT, hc, hs⟩)
  exact Go.by (fun _ z => st'.trans z) (g v B.U B.U.heap L (Sd.afterN (A := A) hv hS hk hZ hown O N K0 C0 hF hws X' KK NL l1 l2 l3) q KK)
theorem Sd.instNull (S : Sd wd EL a0 p l e R s m args below meth c Z own n0 h0 ws0 T h F locs cells slots) {index : Nat} (pc' : Nat) (hd : decode c.code pc = .ok (.instanceof index, 3)) (g : Go p e below P T (mkF m pc' Ls (.int 0 :: st))) (hp : pc + 3 = pc' := by rfl) : Go p e below P T (mkF m pc Ls (.null :: st)) := by
  subst hp
  obtain ⟨A, vm0, k0, hv, X, r⟩ := S
  exact Go.by (fun t z => X.instanceofNull A.1 (g := mkF m pc Ls (.null :: st)) rfl rfl hd t z) g
/-- where no literal is kept track of, any place is safe -/
theorem Sd.addF (S : Sd wd [] a0 p l e R s m args below meth c Z own n0 h0 ws0 T h F locs cells slots) {x : Addr} (hx : x < h.size) : Sd wd [] a0 p l e R s m args below meth c Z own n0 h0 ws0 T h (x :: F) locs cells slots := by
  obtain ⟨A, vm0, k0, hv, X, eT, hS, hk, hZ, hown, O, N, K0, C0, hF⟩ := S
  exact ⟨A, vm0, k0, hv, X, eT, hS, hk, hZ, hown, O, N, K0, C0, fun y hy => by
    rcases List.mem_cons.mp hy with rfl | q
    · exact ⟨safe0, hx⟩
    · exact hF y q⟩
theorem Pay.weak {len : Nat} {Q' : Option Value → Heap → Prop} (P : Pay l R p e below args Z s n0 y len W as' h ws rc rs Q) (q : ∀ v h', Q v h' → Q' v h') : Pay l R p e below args Z s n0 y len W as' h ws rc rs Q' :=
  fun s' hZ hal => Back.mono (P s' hZ hal) (fun _ _ z => z) fun _ _ _ _ _ ⟨L, ⟨q1, q2⟩, r⟩ => ⟨L, ⟨q _ _ q1, q2⟩, r⟩
theorem Pay.mono {len rc' rs' : Nat} (P : Pay l R p e below args Z s n0 y len W as' h ws rc rs Q) (h1 : rc ≤ rc') (h2 : rs ≤ rs') : Pay l R p e below args Z s n0 y len W as' h ws rc' rs' Q := by
  intro s' hZ hal m meth c A g ig mk a X hg hsize hd hW hn hp
  obtain ⟨v, B, X', ⟨L, q, l1, l2, l3⟩, st⟩ := P s' hZ hal m meth c A g ig mk a X hg hsize hd hW hn ⟨hp.1, hp.2.1, Nat.le_trans (Nat.add_le_add_left h1 _) hp.2.2.1, Nat.le_trans (Nat.add_le_add_left h2 _) hp.2.2.2⟩
  refine ⟨v, ⟨B.U, B.locs, A.cells + rc', A.slots + rs'⟩, ?_, ⟨L, q, l1, rfl, rfl⟩, st⟩
  rw [l2, l3] at X'
  exact { X' with same := X'.same.mono (Nat.add_le_add_left h1 _) (Nat.add_le_add_left h2 _) }
theorem eqJ {t : Term} {z : Int64} (q : (Jvm.Cond.eq t (.long z)).value args Z none Z [] = some true) : t.eval args Z none [] Z = some (.long z) := by
  obtain ⟨x, y, e1, e2, k1, k2⟩ := cmp_v (Or.inl q)
  rw [long_at] at e2
  cases e2
  obtain ⟨w, rfl⟩ : ∃ w, x = .long w := k2
  have := gotT (eq_L e1 (long_at z)) q
  rw [e1, this]
theorem eqI {t : Term} {z : Int32} (q : (Jvm.Cond.eq t (.int z)).value args Z none Z [] = some true) : t.eval args Z none [] Z = some (.int z) := by
  obtain ⟨x, y, e1, e2, k1, k2⟩ := cmp_v (Or.inl q)
  rw [Term.int_eval] at e2
  cases e2
  obtain ⟨w, rfl⟩ : ∃ w, x = .int w := k2
  have := gotT (Cond.eq_ints e1 (Term.int_eval z)) q
  rw [e1, this]
/-- the object that a word names, and one field of it -/
theorem fldAt {t : Term} {C n d : String} {a : Addr} {v : Value} (ht : t.eval args Z none [] Z = some (.ref a)) (q : (Term.field t C n d).eval args Z none [] Z = some v) : Fld Z Z.heap a C n d v := Fld.start (by rw [← fld_at (C := C) (n := n) (dd := d) ht]; exact q)
theorem lenAt {t : Term} {a : Addr} {cl : Cell} {z : Int32} (ht : t.eval args Z none [] Z = some (.ref a)) (hc : Z.heap[a]? = some cl) (q : (Term.length t).eval args Z none [] Z = some (.int z)) : cl.slots.size < 2 ^ 31 ∧ cl.slots.size.toInt32 = z := by
  cases hA : Z.arrayAt? a with
  | none => simp [Term.eval, ht, hA] at q
  | some c2 =>
    have hc2 : c2 = cl := Option.some.inj ((State.arrayAt?_spec hA).1.symm.trans hc)
    subst hc2
    by_cases hl : c2.slots.size < 2 ^ 31
    · refine ⟨hl, ?_⟩
      simpa [Term.eval, ht, hA, hl] using q
    · simp [Term.eval, ht, hA, hl] at q
end OwnMore
end Jvm.Pilot.@@N@@
namespace Jvm.Pilot.@@N@@
open Jvm Jvm.ClassFile Sem Op Lib Jvm.Free Jvm.Stand Jvm.LawKit Jvm.RoadKit Bundle Jvm.Free.Exc Jvm.Pilot.@@N@@.Jvm.D
section OwnExc
variable {wd : Bool} {EL : List (String × Nat)} {a0 : Array Value} {p : Program} {l : Launch} {e : Env} {R : Room} {s : State} {m : MethodId} {args : Array Value} {below : List Frame} {meth : Method} {c : Code} {Z : State} {own : String} {n0 : Nat} {h0 : Heap} {ws0 : List Addr}
  {T T' : State} {h h' : Heap} {F F' : List Addr} {locs locs' : List Loc} {cells slots cells' slots' : Nat} {P : Outcome → State → Prop} {pc pc' : Nat} {Ls : Array Slot} {st rest : List Value} {ws : List Addr}
/-- the tables' methods and the frames beneath are known -/
def Knw (s : State) (below : List Frame) : Prop := s.vm.MethodsKnown ∧ s.vm.FramesKnown below
/-- a body that interns nothing, and under which a stack trace may be filled in -/
def ConK (l : Launch) (Z : State) (n0 : Nat) (y : MethodName) (bytes : ByteArray) (maxL : Nat) (ret : Option FieldType) (cs : List Jvm.Cond) (rm : Room) (as' : Array Value) (h : Heap) (ws : List Addr) (Q : Option Value → Heap → Prop) : Prop :=
  MetFree l y (head1 (Jvm.Cond.code y bytes maxL ret :: cs) rm) (fun a U => a = as' ∧ Z.Warmed39 U.vm ∧ U.heap = h) (fun _ _ bl s _ => Knw s bl) (fun _ U o U' => ∃ v L, o = .returned v ∧ (Q v U'.heap ∧ Keep h U'.heap ws ∧ Fr n0 L) ∧ FrameEnd U o U' L rm.cells rm.slots)
def ConSK (EL : List (String × Nat)) (l : Launch) (Z : State) (n0 : Nat) (y : MethodName) (bytes : ByteArray) (maxL : Nat) (ret : Option FieldType) (cs : List Jvm.Cond) (rm : Room) (as' : Array Value) (h : Heap) (ws F0 : List Addr) (Q : Option Value → Heap → Prop) : Prop :=
  MetFree l y (head1 (Jvm.Cond.code y bytes maxL ret :: cs) rm) (fun a U => a = as' ∧ Z.Warmed39 U.vm ∧ U.heap = h ∧ CHv Z EL U.vm h ∧ ∀ x ∈ F0, Safe Z EL U.vm h x ∧ x < h.size) (fun _ _ bl s _ => Knw s bl) (fun _ U o U' => ∃ v L, o = .returned v ∧ (Q v U'.heap ∧ Keep h U'.heap ws ∧ Fr n0 L) ∧ CHr Z EL U.vm U.heap U'.vm U'.heap ∧ ReturnedEndW U o U' L rm.cells rm.slots)
variable {y : MethodName} {bytes : ByteArray} {maxL : Nat} {ret : Option FieldType} {cs : List Jvm.Cond} {rm : Room} {as' : Array Value} {Q : Option Value → Heap → Prop} {len W rc rs : Nat} {F0 : List Addr} {argsL : List Value}
theorem ConK.of (a0 : Array Value) (hn : plainFor y = true) (hO : Old Z n0 h) (hws : ∀ x ∈ ws, n0 ≤ x) (F0 : List Addr) (hF0 : ∀ x ∈ F0, x < h.size)
    (body : ∀ (p : Program) (e : Env) (s : State) (m : MethodId) (below : List Frame) (meth : Method) (c : Code) (T : State), Knw s below → Sd false [] a0 p l e rm s m as' below meth c Z y.cls n0 h ws T h F0 [] 0 0 → c.code = bytes → c.maxLocals = maxL → meth.sig.returnType = ret → meth.name = y.name → Go p e below (Done false [] Z s n0 h ws rm.cells rm.slots Q) T (entryFrame m as' maxL)) :
    ConK l Z n0 y bytes maxL ret cs rm as' h ws Q := by
  refine MetFree.of_bodySF hn hisR ?_
  intro p e s m args below meth c s₁ Bd hml0 hP hK
  obtain ⟨rfl, hZ, rfl⟩ := hP
  have e0 : s₁.heap = s.heap := by rw [Bd.state]; rfl
  obtain ⟨s₂, o, h1, h2, h3, h4⟩ := body p e s m below meth c s₁ hK ⟨⟨Bd.exec, Bd.notSynchronized, EW.nil, rfl, hO, hws⟩, s.vm, 0, fun _ => rfl, (Stand.of_body Bd : Stand p l e rm s m args below meth c s₁ [] 0 0), e0, State.WarmedH.since (State.WarmedH.refl s) 0, Nat.zero_le _, hZ, findClass_of_methodNamed Bd.named, hO, Fr.nil n0, Keep.refl _ _, CHr.refl chv0, fun x hx => ⟨safe0, hF0 x hx⟩⟩ Bd.bytes hml0 Bd.returns (name_of_methodNamed Bd.named Bd.method).1
  exact ⟨s₂, o, h1, h2, h3, h4⟩
theorem ConSK.of (hn : plainFor y = true) (hO : Old Z n0 h) (hEL : EW Z a0 EL) (hws : ∀ x ∈ ws, n0 ≤ x)
    (body : ∀ (p : Program) (e : Env) (s : State) (m : MethodId) (below : List Frame) (meth : Method) (c : Code) (T : State), Knw s below → Sd true EL a0 p l e rm s m as' below meth c Z y.cls n0 h ws T h F0 [] 0 0 → c.code = bytes → c.maxLocals = maxL → meth.sig.returnType = ret → meth.name = y.name → Go p e below (Done true EL Z s n0 h ws rm.cells rm.slots Q) T (entryFrame m as' maxL)) :
    ConSK EL l Z n0 y bytes maxL ret cs rm as' h ws F0 Q := by
  refine MetFree.of_bodySF hn hisR ?_
  intro p e s m args below meth c s₁ Bd hml0 hP hK
  obtain ⟨rfl, hZ, rfl, hC, hF⟩ := hP
  have e0 : s₁.heap = s.heap := by rw [Bd.state]; rfl
  obtain ⟨s₂, o, h1, h2, h3, h4⟩ := body p e s m below meth c s₁ hK ⟨⟨Bd.exec, Bd.notSynchronized, hEL, rfl, hO, hws⟩, s.vm, 0, fun _ => rfl, (Stand.of_body Bd : Stand p l e rm s m args below meth c s₁ [] 0 0), e0, State.WarmedH.since (State.WarmedH.refl s) 0, Nat.zero_le _, hZ, findClass_of_methodNamed Bd.named, hO, Fr.nil n0, Keep.refl _ _, CHr.refl hC, hF⟩ Bd.bytes hml0 Bd.returns (name_of_methodNamed Bd.named Bd.method).1
  exact ⟨s₂, o, h1, h2, h3, h4⟩
theorem ConK.pay (kn : Knw s below) (M : ConK l Z n0 y bytes maxL ret [] rm as' h ws Q) (wc : (Jvm.Cond.code y bytes maxL ret).before a0 Z = true) (wz : (Jvm.Cond.initialized y.cls).before a0 Z = true) (hf : rm.frames + 1 ≤ R.frames) (hl : W + (maxL + 11) + rm.locals ≤ R.locals) : Pay l R p e below args Z s n0 y len W as' h ws rm.cells rm.slots Q :=
  fun _ hZ hal => backOfKL (Q := fun v h' L => Q v h' ∧ Keep h h' ws ∧ Fr n0 L) M hZ wc wz hf hl (kn.1.alikeC hal) (kn.2.alikeC hal)
def chainAtoms (k : Nat) (rc : String) : List Link → List Jvm.Cond
  | [] => .code (ctor k tN) (topCode k) (k + 1) none :: .fieldLink tN 31 tN "detailMessage" msgD :: excAtoms rc
  | x :: r => [.code (ctor k x.1) x.2.2 (k + 1) none, .initialized x.1, .methodLink x.1 x.2.1 (ctor k (headName r)), .instanceMethod (ctor k (headName r))] ++ chainAtoms k rc r
theorem chainOf {k : Nat} {rc : String} : ∀ links : List Link, (∀ d ∈ chainAtoms k rc links, d.before a0 Z = true) → (chainTab k rc links).before a0 Z = true
  | [], q => RoadKit.conj_of q
  | x :: r, q => RoadKit.conj_of fun d hd => by
    have ih := chainOf r fun d hd => q d (List.mem_append_right _ hd)
    have q' := fun d (hd : d ∈ [Jvm.Cond.code (ctor k x.1) x.2.2 (k + 1) none, .initialized x.1, .methodLink x.1 x.2.1 (ctor k (headName r)), .instanceMethod (ctor k (headName r))]) => q d (List.mem_append_left _ hd)
    simp only [List.mem_cons, List.not_mem_nil, or_false] at hd
    rcases hd with rfl | rfl | rfl | rfl | rfl
    · exact q' _ (by simp)
    · exact q' _ (by simp)
    · exact q' _ (by simp)
    · exact q' _ (by simp)
    · exact ih
theorem Sd.exc1 (S : Sd wd EL a0 p l e R s m args below meth c Z own n0 h0 ws0 T h F locs cells slots) (kn : Knw s below) (hl : l.stackTraces = true) {rc : String} {links : List Link} {ic n : Nat} {a : Addr} {msg : Value} (pc' : Nat) (hd : decode c.code pc = .ok (.invokespecial ic, 3)) (hml : Ls.size = c.maxLocals) (hok : linksOk 1 links = true)
    (w1 : (Jvm.Cond.methodLink own ic (ctor 1 (headName links))).before a0 Z = true) (w2 : (Jvm.Cond.instanceMethod (ctor 1 (headName links))).before a0 Z = true) (wT : (chainTab 1 rc links).before a0 Z = true) (wi : (Jvm.Cond.instantiable rc n).before a0 Z = true) (r : ∀ d ∈ twoRefs, d.before a0 Z = true)
    (E : Exa Z h a rc) (U : Unt h a) (B : Fld Z h a tN "backtrace" obD .null) (B2 : Fld Z h a tN "detailMessage" msgD .null) (hmsg : msg.isRef = true) (hf : 4 + links.length ≤ R.frames) (hW : (st.map fun v => v.category).sum ≤ W) (hlo : W + (56 + 14 * links.length) ≤ R.locals) (hc : cells + 1 ≤ R.cells) (hsl : slots + 2752 ≤ R.slots) (wo : Wok n0 h0 ws0 a) (so : Sok F a rc)
    (g : ∀ (T' : State) (h' : Heap) (locs' : List Loc), Sd wd EL a0 p l e R s m args below meth c Z own n0 h0 ws0 T' h' F locs' (cells + 1) (slots + 2752) → Keep h h' [a] → Kp Z h h' a → Exa Z h' a rc → Unt h' a → Fld Z h' a tN "detailMessage" msgD msg → Go p e below P T' (mkF m pc' Ls st)) (hp : pc + 3 = pc' := by rfl) : Go p e below P T (mkF m pc Ls (msg :: .ref a :: st)) := by
  subst hp
  have ge : n0 ≤ a := S.ge wo
  obtain ⟨A, vm0, k0, hv, X, eT, hS, hk, hZ, hown, O0, N0, K0, C0, hF⟩ := S
  have O00 := A.2.2.2.2.1
  obtain ⟨T', h', X', e', kp, E', U', D', -, -, st'⟩ := excL1 X A.1 hl hZ hown hok w1 w2 wT wi r (show ThS Z s.heap by rw [A.2.2.2.1]; exact ThS.start.ext O00.2) (ThS.start.ext O0.2) (kn.1.alikeC hS.1.alike) (kn.2.alikeC hS.1.alike) eT E U B B2 hmsg (g := mkF m pc Ls (msg :: .ref a :: st)) rfl hml rfl hd hf (by show 2 * 0 + _ + _ ≤ _; omega) hc hsl
  have sf : Safe Z EL vm0 h a := by
    rcases so with q | q
    · exact Safe.exa hZ.alike E q.1 q.2
    · exact (hF a q).1
  have K := keep_of_kp kp
  exact Go.by st' (g T' h' _ (Sd.close A hv X' e' hS hk hZ hown O0 (N0.six ge) K0 C0 hF K (fun x hx => by rw [List.mem_singleton.mp hx]; exact ⟨wo, sf⟩) fun x hx => Or.inl hx) K kp E' U' D')
theorem Sd.exc2 (S : Sd wd EL a0 p l e R s m args below meth c Z own n0 h0 ws0 T h F locs cells slots) (kn : Knw s below) (hl : l.stackTraces = true) {rc : String} {links : List Link} {ic n : Nat} {a : Addr} {msg cz : Value} (pc' : Nat) (hd : decode c.code pc = .ok (.invokespecial ic, 3)) (hml : Ls.size = c.maxLocals) (hok : linksOk 2 links = true)
    (w1 : (Jvm.Cond.methodLink own ic (ctor 2 (headName links))).before a0 Z = true) (w2 : (Jvm.Cond.instanceMethod (ctor 2 (headName links))).before a0 Z = true) (wT : (chainTab 2 rc links).before a0 Z = true) (wi : (Jvm.Cond.instantiable rc n).before a0 Z = true) (r : ∀ d ∈ twoRefs, d.before a0 Z = true)
    (E : Exa Z h a rc) (U : Unt h a) (B : Fld Z h a tN "backtrace" obD .null) (B2 : Fld Z h a tN "detailMessage" msgD .null) (hmsg : msg.isRef = true) (hcz : cz.isRef = true) (hf : 4 + links.length ≤ R.frames) (hW : (st.map fun v => v.category).sum ≤ W) (hlo : W + (56 + 14 * links.length) ≤ R.locals) (hc : cells + 1 ≤ R.cells) (hsl : slots + 2752 ≤ R.slots) (wo : Wok n0 h0 ws0 a) (so : Sok F a rc)
    (g : ∀ (T' : State) (h' : Heap) (locs' : List Loc), Sd wd EL a0 p l e R s m args below meth c Z own n0 h0 ws0 T' h' F locs' (cells + 1) (slots + 2752) → Keep h h' [a] → Kp Z h h' a → Exa Z h' a rc → Unt h' a → Fld Z h' a tN "detailMessage" msgD msg → Go p e below P T' (mkF m pc' Ls st)) (hp : pc + 3 = pc' := by rfl) : Go p e below P T (mkF m pc Ls (cz :: msg :: .ref a :: st)) := by
  subst hp
  have ge : n0 ≤ a := S.ge wo
  obtain ⟨A, vm0, k0, hv, X, eT, hS, hk, hZ, hown, O0, N0, K0, C0, hF⟩ := S
  have O00 := A.2.2.2.2.1
  obtain ⟨T', h', X', e', kp, E', U', D', -, -, st'⟩ := excL2 X A.1 hl hZ hown hok w1 w2 wT wi r (show ThS Z s.heap by rw [A.2.2.2.1]; exact ThS.start.ext O00.2) (ThS.start.ext O0.2) (kn.1.alikeC hS.1.alike) (kn.2.alikeC hS.1.alike) eT E U B B2 hmsg hcz (g := mkF m pc Ls (cz :: msg :: .ref a :: st)) rfl hml rfl hd hf (by show 2 * 0 + _ + _ ≤ _; omega) hc hsl
  have sf : Safe Z EL vm0 h a := by
    rcases so with q | q
    · exact Safe.exa hZ.alike E q.1 q.2
    · exact (hF a q).1
  have K := keep_of_kp kp
  exact Go.by st' (g T' h' _ (Sd.close A hv X' e' hS hk hZ hown O0 (N0.six ge) K0 C0 hF K (fun x hx => by rw [List.mem_singleton.mp hx]; exact ⟨wo, sf⟩) fun x hx => Or.inl hx) K kp E' U' D')
theorem nsRoot {O K : String} {n : Nat} (w : (Jvm.Cond.noSuperclass O).before a0 Z = true) (wk : (Jvm.Cond.instantiable K n).before a0 Z = true) (hn : O ≠ K) : NS Z O K := by
  obtain ⟨c, k, h1, h2, h3, -, -⟩ := Cond.noSuperclass_spec w
  obtain ⟨t, kt, g1, -⟩ := Cond.instantiable_spec wk
  have ne := ids_ne h1 g1 hn
  refine ⟨c, t, h1, g1, fun fuel => ?_⟩
  cases fuel with
  | zero => rfl
  | succ f => simp [Vm.isSubclassAux, ne, h2, h3]
theorem nsNo {C S K : String} {n : Nat} (w : (Jvm.Cond.superclass C S).before a0 Z = true) (wk : (Jvm.Cond.instantiable K n).before a0 Z = true) (ns : NS Z C K) (hn : C ≠ K) : ∃ c t, Z.vm.findClass C = some c ∧ Z.vm.findClass K = some t ∧ Z.vm.assignable c t = false := by
  obtain ⟨c, t, h0, g0, n3⟩ := ns
  obtain ⟨p, k, kp, h1, h2, h3, h4, h5, -, h7⟩ := Cond.superclass_spec h0 w
  obtain ⟨t', kt, g1, g2, g5, g6, -⟩ := Cond.instantiable_spec wk
  have g7 := (Bool.or_eq_false_iff.mp g6).1
  cases g0.symm.trans g1
  have ne := ids_ne h0 g0 hn
  refine ⟨c, t, h0, g0, ?_⟩
  show Z.vm.assignableAux (255 + 1) c t = false
  simp [Vm.assignableAux, ne, h2, g2, h5, g5, g7, Vm.isSubclass, n3]
/-- an array of references, made -/
theorem Sd.newref (S : Sd wd EL a0 p l e R s m args below meth c Z own n0 h0 ws0 T h F locs cells slots) {C : String} {index : Nat} {n : Int32} (pc' : Nat) (cap : Nat) (hd : decode c.code pc = .ok (.anewarray index, 3)) (w1 : (Jvm.Cond.classLink own index C).before a0 Z = true) (w2 : (Jvm.Cond.arrayOver (.object C)).before a0 Z = true) (hn : ¬ n < 0) (hcap : n.toNatClampNeg ≤ cap) (hb : cap * 8 ≤ 536870912) (hc : cells + 1 ≤ R.cells) (hl : slots + cap ≤ R.slots)
    (g : ∀ (T' : State) (h' : Heap) (a : Addr) (k : ClassId), Sd wd EL a0 p l e R s m args below meth c Z own n0 h0 ws0 T' h' (a :: F) locs (cells + 1) (slots + cap) → Ext h h' → a = h.size → Wok n0 h0 ws0 a → Arv Z h' a k (.object C) n [] .null → Ovr Z k C → Go p e below P T' (mkF m pc' Ls (.ref a :: st))) (hp : pc + 3 = pc' := by rfl) :
    Go p e below P T (mkF m pc Ls (.int n :: st)) := by
  subst hp
  obtain ⟨A, vm0, k0, hv, X, eT, hS, hk, hZ, hown, O, N, K0, C0, hF⟩ := S
  obtain ⟨T', h', cA, X', e', E', A', V', st'⟩ := newR X A.1 hZ hown w1 w2 eT (g := mkF m pc Ls (.int n :: st)) rfl hd rfl hn hcap hb hc hl
  exact Go.by st' (g T' h' h.size cA (Sd.close A hv X' e' hS hk hZ hown O N K0 C0 hF (Ext.kp E') noWs fun x hx => by
    rcases List.mem_cons.mp hx with rfl | q
    · exact Or.inr ⟨Nat.le_refl _, A'.lt⟩
    · exact Or.inl q) E' rfl (Or.inr K0.1) (Arv.new A' hn) V')
theorem Sd.aastore (S : Sd wd EL a0 p l e R s m args below meth c Z own n0 h0 ws0 T h F locs cells slots) {a y : Addr} {k : ClassId} {C : String} {N : Int32} {vs : List Value} {dv : Value} {j : Int32} (pc' i : Nat) (hd : decode c.code pc = .ok (.aastore, 1)) (V : Arv Z h a k (.object C) N vs dv) (O : Ovr Z k C) (I : Ins Z h y C true) (hj : ¬ j < 0 ∧ j < N) (hi : j.toNatClampNeg = i) (hlt : i < vs.length) (wo : Wok n0 h0 ws0 a)
    (g : ∀ (T' : State) (h' : Heap) (locs' : List Loc), Sd wd EL a0 p l e R s m args below meth c Z own n0 h0 ws0 T' h' F locs' cells slots → Wr h h' a j.toNatClampNeg (.ref y) → Arv Z h' a k (.object C) N (vs.set i (.ref y)) dv → Go p e below P T' (mkF m pc' Ls st)) (hp : pc + 1 = pc' := by rfl) : Go p e below P T (mkF m pc Ls (.ref y :: .int j :: .ref a :: st)) := by
  subst hp
  have ge : n0 ≤ a := S.ge wo
  obtain ⟨A, vm0, k0, hv, X, eT, hS, hk, hZ, hown, O0, N0, K0, C0, hF⟩ := S
  obtain ⟨cl, Ar, q, S', M, H, G⟩ := V
  obtain ⟨T', h', X', e', W', st'⟩ := stR X A.1 hZ eT Ar (inb_of S' hj) rfl (Sto.ofV Ar q O I) (g := mkF m pc Ls (.ref y :: .int j :: .ref a :: st)) rfl rfl hd
  exact Go.by st' (g T' h' _ (Sd.close A hv X' e' hS hk hZ hown O0 (Fr.snoc X' N0 ge) K0 C0 hF (Keep.of_wr W') (fun y hy => by rw [List.mem_singleton.mp hy]; exact ⟨wo, Safe.arr hZ.alike Ar (by simp)⟩) fun y hy => Or.inl hy) W' (Arv.set Ar q S' M H G rfl W' i hi hlt))
end OwnExc
end Jvm.Pilot.@@N@@
namespace Jvm.Pilot.@@N@@
open Jvm Jvm.ClassFile Sem Op Lib Jvm.Free Jvm.Stand Jvm.LawKit Jvm.RoadKit Bundle Jvm.Free.Exc Jvm.Pilot.@@N@@.Jvm.D
section OwnThr
variable {wd : Bool} {EL : List (String × Nat)} {a0 : Array Value} {p : Program} {l : Launch} {e : Env} {R : Room} {s : State} {m : MethodId} {args : Array Value} {below : List Frame} {meth : Method} {c : Code} {Z : State} {n0 : Nat} {h0 : Heap} {ws0 : List Addr}
  {T T' : State} {h h' : Heap} {F F' : List Addr} {locs locs' : List Loc} {cells slots cells' slots' : Nat} {P : Outcome → State → Prop} {pc pc' : Nat} {Ls : Array Slot} {st rest : List Value} {ws : List Addr}
/-- the words under which a stack trace is filled in: Throwable's own layout of 'suppressedExceptions' is not among them -/
def thrW (rc : String) : List Jvm.Cond :=
  [.native tFill0, .initialized tN, .superclass tN "java/lang/Object", .instanceMethod tFill0, .instanceMethod tFill, .codeSync tFill LibCode.Throwable.Fill.code 1 (some (.object tN)), .instanceMethod tInit0, .code tInit0 LibCode.Throwable.Init0.code 1 none,
   .instanceMethod oInit, .code oInit ⟨#[0xb1]⟩ 1 none, .methodLink tN 1 oInit, .methodLink tN 27 tFill, .methodLink tN 202 tFill0, .declares tFill, .selects rc tFill tFill, .selects rc tFill0 tFill0,
   .fieldLink tN 7 tN "cause" thD, .fieldLink tN 17 tN "stackTrace" steD, .fieldLink tN 24 tN "suppressedExceptions" listD, .fieldLink tN 198 tN "backtrace" obD,
   .lays rc tN "cause" thD, .lays rc tN "stackTrace" steD, .lays rc tN "suppressedExceptions" listD, .lays rc tN "detailMessage" msgD, .lays rc tN "backtrace" obD, .lays rc tN "depth" "I",
   .fieldLink tN 13 tN "UNASSIGNED_STACK" steD, .laysStatic tN "UNASSIGNED_STACK" steD, .fieldLink tN 20 tN "SUPPRESSED_SENTINEL" listD, .laysStatic tN "SUPPRESSED_SENTINEL" listD,
   .arrayOver (.object "java/lang/Object"), .soleField tN "backtrace", .soleField tN "depth"]
/-- Throwable's two statics -/
def Thu (Z : State) : Prop := ∃ ub us : Addr, Sta Z Z.heap tN "UNASSIGNED_STACK" steD (.ref ub) ∧ Sta Z Z.heap tN "SUPPRESSED_SENTINEL" listD (.ref us)
theorem thr_ok {rc : String} : (thrW rc).all xOk = true := rfl
theorem own_slot {C n d : String} {cf i : Nat} {k : Class} {f : Field} (q : Z.fieldFound? C n d = some (cf, k, i, f)) : Jvm.RoadKit.slotOf Z C n d = f.slot := by
  show ((Z.fieldFound? C n d).map (·.2.2.2.slot)).getD 0 = _
  rw [q]; rfl
theorem own_slotS {C n d : String} {cf i : Nat} {k : Class} {f : Field} (hal : s.vm.Alike Z.vm) (q : s.fieldFound? C n d = some (cf, k, i, f)) : Jvm.RoadKit.slotOf Z C n d = f.slot := by
  obtain ⟨c', k', i', q'⟩ := Jvm.Free.BdW.found_ride (U := s) (U' := Z) hal ⟨cf, k, i, q⟩
  exact own_slot q'
theorem own_wr {a : Addr} {sl sl' : Nat} {v : Value} (q : sl' = sl) (W : Wr h h' a sl v) : Wr h h' a sl' v := by rw [q]; exact W
/-- Throwable's parts, by the receiver's own layout -/
theorem own_links {pl : Platform} {rc : String} (howns : pl.frameOwnsMonitors = true) (hfin : pl.finalization = false) (hpl : pl.magicAccessors = ({} : Platform).magicAccessors) (w : ∀ d ∈ thrW rc, d.before args s = true) :
    ∃ T : ThrowableC, T.Links pl s ∧ s.vm.findClass tN = some T.cT ∧ s.methodNamed? tFill = some T.fill ∧ s.methodNamed? tFill0 = some T.fill0 ∧ s.fieldFound? tN "stackTrace" steD = some (T.cT, T.kT, T.i17, T.fStack) ∧ T.fStack.type = .array (.object "java/lang/StackTraceElement") ∧
      s.fieldFound? tN "UNASSIGNED_STACK" steD = some (T.cT, T.kT, T.i13, T.fUnassigned) := by
  have W : ∀ d, d ∈ thrW rc → d.holds args s none s [] = true := fun d q => w d q
  -- the class
  obtain ⟨⟨ct, j0⟩, n0m, na1, na2, na3, na4, na5, na6⟩ := Cond.native_spec (W (.native tFill0) (by simp [thrW]))
  have fc : s.vm.findClass tN = some ct := findClass_of_methodNamed na1
  obtain ⟨kt, ck, cn⟩ := Vm.findClass_spec fc
  obtain ⟨_, kt', _, _, sk, _, _, -, _, notI⟩ := Cond.superclass_spec fc (W (.superclass tN "java/lang/Object") (by simp [thrW]))
  cases Option.some.inj (ck.symm.trans sk)
  -- its methods
  obtain ⟨j0', n0m', nb1, nb2, nb3, nb4, nb5, nb6, nb7⟩ := Cond.ownMethod (x := tFill0) fc ck (W (.instanceMethod tFill0) (by simp [thrW]))
  cases Option.some.inj (na1.symm.trans nb1)
  cases Option.some.inj (na2.symm.trans nb2)
  obtain ⟨jF, nF, fi1, fi2, fi3, fi4, fi5, -, -⟩ := Cond.ownMethod (x := tFill) fc ck (W (.instanceMethod tFill) (by simp [thrW]))
  obtain ⟨nF', cdF, fs1, fs2, fs3, fs4, fs5, fs6, -, fs7⟩ := Cond.codeSync_spec fi1 (W (.codeSync tFill LibCode.Throwable.Fill.code 1 (some (.object tN))) (by simp [thrW]))
  cases Option.some.inj (fi2.symm.trans fs1)
  obtain ⟨jI, nI, in1, in2, -⟩ := Cond.ownMethod (x := tInit0) fc ck (W (.instanceMethod tInit0) (by simp [thrW]))
  obtain ⟨nI', cdI, -⟩ := Cond.code_spec in1 (W (.code tInit0 LibCode.Throwable.Init0.code 1 none) (by simp [thrW]))
  obtain ⟨mo, no, ob1, ob2, ob3, ob4⟩ := Cond.instanceMethod_spec (W (.instanceMethod oInit) (by simp [thrW]))
  obtain ⟨no', cdO, oc1, oc2, oc3, -, -, oc4, -, oc5⟩ := Cond.code_spec ob1 (W (.code oInit ⟨#[0xb1]⟩ 1 none) (by simp [thrW]))
  cases Option.some.inj (ob2.symm.trans oc1)
  obtain ⟨ko, ok1, ok2⟩ := Vm.findClass_spec (findClass_of_methodNamed ob1)
  obtain ⟨on1, on2⟩ := name_of_methodNamed ob1 ob2
  -- its links
  obtain ⟨y1, z1, cf, la1, la2, la3, la4⟩ := Cond.linkedMethod fc ck ob1 (W (.methodLink tN 1 oInit) (by simp [thrW])) pl hpl
  obtain ⟨y27, z27, cf2, lb1, lb2, lb3, lb4⟩ := Cond.linkedMethod fc ck fi1 (W (.methodLink tN 27 tFill) (by simp [thrW])) pl hpl
  cases Option.some.inj (la3.symm.trans lb3)
  obtain ⟨y202, z202, cf3, lc1, lc2, lc3, lc4⟩ := Cond.linkedMethod fc ck na1 (W (.methodLink tN 202 tFill0) (by simp [thrW])) pl hpl
  cases Option.some.inj (la3.symm.trans lc3)
  -- its fields, by the receiver's layout
  obtain ⟨y7, i7, f7, p7, r7, a7, s7, t7, -, -, -⟩ := Cond.ownField (t := .object tN) fc ck (by decide +kernel) (W (.fieldLink tN 7 tN "cause" thD) (by simp [thrW])) (W (.lays rc tN "cause" thD) (by simp [thrW])) pl hpl
  obtain ⟨y17, i17, f17, p17, r17, a17, s17, t17, nm17, ty17, ff17⟩ := Cond.ownField (t := .array (.object "java/lang/StackTraceElement")) fc ck (by decide +kernel) (W (.fieldLink tN 17 tN "stackTrace" steD) (by simp [thrW])) (W (.lays rc tN "stackTrace" steD) (by simp [thrW])) pl hpl
  obtain ⟨y24, i24, f24, p24, r24, a24, s24, t24, nm24, -, ff24⟩ := Cond.ownField (t := .object "java/util/List") fc ck (by decide +kernel) (W (.fieldLink tN 24 tN "suppressedExceptions" listD) (by simp [thrW])) (W (.lays rc tN "suppressedExceptions" listD) (by simp [thrW])) pl hpl
  obtain ⟨y13, i13, f13, aS, _, p13, r13, a13, s13, -, -, sta, -, -, -, -, ff13⟩ := Cond.ownStatic (t := .array (.object "java/lang/StackTraceElement")) fc ck (by decide +kernel) (W (.fieldLink tN 13 tN "UNASSIGNED_STACK" steD) (by simp [thrW])) (W (.laysStatic tN "UNASSIGNED_STACK" steD) (by simp [thrW])) pl hpl
  obtain ⟨y20, i20, f20, _, _, p20, r20, a20, s20, -⟩ := Cond.ownStatic (t := .object "java/util/List") fc ck (by decide +kernel) (W (.fieldLink tN 20 tN "SUPPRESSED_SENTINEL" listD) (by simp [thrW])) (W (.laysStatic tN "SUPPRESSED_SENTINEL" listD) (by simp [thrW])) pl hpl
  obtain ⟨_, _, _, _, _, fM, _, _, _, sM, tM, _⟩ := Cond.lays_spec (W (.lays rc tN "detailMessage" msgD) (by simp [thrW]))
  have apart : f17.slot ≠ f24.slot := Cond.lays_apart (W (.lays rc tN "stackTrace" steD) (by simp [thrW])) (W (.lays rc tN "suppressedExceptions" listD) (by simp [thrW])) ff17 ff24 (by rw [nm17, nm24]; decide)
  have pars : ∀ {x : MethodName} {q : MethodDescriptor} {L : List FieldType}, parseMethodDescriptor x.desc = some q → (parseMethodDescriptor x.desc).map (·.parameters) = some L → q.parameters = L := fun q1 q2 => by rw [q1] at q2; exact Option.some.inj q2
  refine ⟨{ cT := ct, kT := kt, cO := ct, aS := aS, fillIdx := jF, fill0Idx := j0, initSIdx := jI, obj := mo, kObj := ko, methFill := nF, methFill0 := n0m, methInitS := nI, methObj := no, codeFill := cdF, codeInitS := cdI, codeObj := cdO, fBack := f7, fDepth := f7, fStack := f17, fCause := f7, fSupp := f24, fMsg := fM, fUnassigned := f13, fSentinel := f20, cfT := cf, ci1 := y1, n1 := z1, ci27 := y27, n27 := z27, ci202 := y202, n202 := z202, ci7 := y7, i7 := i7, ci13 := y13, i13 := i13, ci17 := y17, i17 := i17, ci20 := y20, i20 := i20, ci24 := y24, i24 := i24 }, ?_, fc, fi1, na1, ff17, ty17, ff13⟩
  constructor
  case owns => exact howns
  case noFinalization => exact hfin
  case cls => exact ck
  case name => exact cn
  case boot => exact Vm.findClass_boot fc ck
  case notInterface => exact notI
  case initialized => exact Cond.initialized_spec fc ck (W (.initialized tN) (by simp [thrW]))
  case statics => exact sta
  case fillAt => exact fi3
  case fillCode => exact fs2
  case fillBytes => exact fs3
  case fillLocals => exact fs4
  case fillLocks => exact fs6
  case fillStatic => exact fi4
  case fillAbstract => exact fi5
  case fillReturns => exact fs5
  case fillParams => exact pars fs7 (by decide +kernel)
  case fill0At => exact nb3
  case fill0Name => exact nb6
  case fill0Desc => exact nb7
  case fill0Params => exact pars na6 (by decide +kernel)
  case fill0Static => exact nb4
  case fill0Native => exact na3
  case fill0Code => exact na4
  case fill0Locks => exact na5
  case fill0Abstract => exact nb5
  case stackInstance => exact s17
  case stackNotFinal => exact t17
  case unassignedStatic => exact s13
  case objClass => exact ok1
  case objClassName => exact ok2
  case objMethod => exact ob2
  case objName => exact on1
  case objStatic => exact ob3
  case objAbstract => exact ob4
  case objFound => rw [on2]; exact lookupSpecial_of_named ob1 ob2 ob3
  case objParams => rw [pars oc5 (by decide +kernel : (parseMethodDescriptor oInit.desc).map (·.parameters) = some [])]; rfl
  case objCode => exact oc2
  case objBytes => exact oc3
  case objLocks => exact oc4
  case causeInstance => exact s7
  case causeNotFinal => exact t7
  case sentinelStatic => exact s20
  case suppInstance => exact s24
  case suppNotFinal => exact t24
  case msgInstance => exact sM
  case msgNotFinal => exact tM
  case stackApartSupp => exact apart
  case file => exact la3
  case mlink1 => exact la1
  case mright1 => exact la2
  case pool1 => exact la4
  case mlink27 => exact lb1
  case mright27 => exact lb2
  case pool27 => exact lb4
  case mlink202 => exact lc1
  case mright202 => exact lc2
  case pool202 => exact lc4
  case link7 => exact p7
  case right7 => exact r7
  case at7 => exact a7
  case link13 => exact p13
  case right13 => exact r13
  case at13 => exact a13
  case link17 => exact p17
  case right17 => exact r17
  case at17 => exact a17
  case link20 => exact p20
  case right20 => exact r20
  case at20 => exact a20
  case link24 => exact p24
  case right24 => exact r24
  case at24 => exact a24
set_option maxHeartbeats 4000000 in
/-- 'fillInStackTrace()' of an object in the making, in a constructor of Throwable -/
theorem Sd.fill (S : Sd wd EL a0 p l e R s m args below meth c Z tN n0 h0 ws0 T h F locs cells slots) (kn : Knw s below) (hl : l.stackTraces = true) {rc : String} {n W : Nat} {a b : Addr} (pc' : Nat) (hd : decode c.code pc = .ok (.invokevirtual 27, 3)) (hml : Ls.size = c.maxLocals) (w : ∀ d ∈ thrW rc, d.before a0 Z = true) (wi : (Jvm.Cond.instantiable rc n).before a0 Z = true)
    (E : Exa Z h a rc) (U : Unt h a) (B : Fld Z h a tN "backtrace" obD .null) (Fs : Fld Z h a tN "stackTrace" steD (.ref b)) (St : Sta Z Z.heap tN "UNASSIGNED_STACK" steD (.ref b)) (hf : 3 ≤ R.frames) (hW : (st.map fun v => v.category).sum ≤ W) (hlo : W + 42 ≤ R.locals) (hc : cells + 1 ≤ R.cells) (hsl : slots + 2752 ≤ R.slots) (wo : Wok n0 h0 ws0 a) (so : Sok F a rc)
    (g : ∀ (T' : State) (h1 h2 h3 h' : Heap) (v1 v2 v3 : Value) (locs' : List Loc), Sd wd EL a0 p l e R s m args below meth c Z tN n0 h0 ws0 T' h' F locs' (cells + 1) (slots + 2752) → Ext h h1 → Wr h1 h2 a (Jvm.RoadKit.slotOf Z tN "backtrace" obD) v1 → Wr h2 h3 a (Jvm.RoadKit.slotOf Z tN "depth" "I") v2 → Wr h3 h' a (Jvm.RoadKit.slotOf Z tN "stackTrace" steD) v3 → Go p e below P T' (mkF m pc' Ls (.ref a :: st))) (hp : pc + 3 = pc' := by rfl) : Go p e below P T (mkF m pc Ls (.ref a :: st)) := by
  subst hp
  have ge : n0 ≤ a := S.ge wo
  obtain ⟨A, vm0, k0, hv, X, eT, hS, hk, hZ, hown, O0, N0, K0, C0, hF⟩ := S
  have sf : Safe Z EL vm0 h a := by
    rcases so with q | q
    · exact Safe.exa hZ.alike E q.1 q.2
    · exact (hF a q).1
  have hT0 : ThS Z (s.setVm vm0).heap := by show ThS Z s.heap; rw [A.2.2.2.1]; exact ThS.start.ext A.2.2.2.2.1.2
  have ws : ∀ d ∈ thrW rc, d.before args (s.setVm vm0) = true := fun d q => mvX hT0 hZ (List.all_eq_true.mp thr_ok d q) (w d q)
  have htr : e.platform.stackTraces = true := by rw [X.admits.platform]; exact hl
  have howns : e.platform.frameOwnsMonitors = true := by rw [X.admits.platform]
  have hfin : e.platform.finalization = false := by rw [X.admits.platform]
  have hpl : e.platform.magicAccessors = ({} : Platform).magicAccessors := by rw [X.admits.platform]
  obtain ⟨T0, L, hfT, hnF, hn0, hfS, htyS, hfU⟩ := own_links howns hfin hpl ws
  have hal : Z.vm.Alike (s.setVm vm0).vm := hZ.alike
  -- the receiver
  obtain ⟨cell, kc, e1, e2, e3, -, e5⟩ := E
  obtain ⟨c2, u1, u2, u3⟩ := U
  cases e1.symm.trans u1
  obtain ⟨c3, cfB, kfB, iB, fB, b1, b2, -, -, -, -, b7⟩ := B
  cases e1.symm.trans b1
  obtain ⟨c4, cfS, kfS, iS, fS, s1, s2, -, -, -, -, s7⟩ := Fs
  cases e1.symm.trans s1
  obtain ⟨c5, k2, i1, i2, i3, -⟩ := Cond.instantiable_spec wi
  cases e2.symm.trans i1
  cases e3.symm.trans i2
  obtain ⟨k', q1, q2⟩ := hal.2.2 _ _ e3
  have hfound : (s.setVm vm0).vm.findClass rc = some cell.cls := by rw [hal.findClass]; exact e2
  have hord : k'.kind = .ordinary := by rw [q2]; exact i3
  have hsz : cell.slots.size = k'.instanceTypes.size := by rw [q2]; exact e5 i3
  -- the static
  obtain ⟨cfU, iU, kU, fU, aU, cellU, g1, g2, g3, g4, g5, g6, g7⟩ := St.ext O0.2
  obtain ⟨k3, hU', hek⟩ := State.fieldFound?_setVm (s := Z) hal g1
  cases (show (s.setVm vm0).fieldFound? tN "UNASSIGNED_STACK" steD = _ from hU').symm.trans hfU
  have hs2 : T0.kT.statics = some aU := by rw [hek]; exact g4
  obtain rfl : aU = T0.aS := Option.some.inj (hs2.symm.trans L.statics)
  have hneS : T0.aS ≠ a := fun z => by
    rw [z] at g5
    cases e1.symm.trans g5
    rw [u2] at g6; cases g6
  have hknS : cellU.vm ≠ .unknown := fun z => by rw [z] at g6; cases g6
  -- the fields
  obtain ⟨k4, hS', -⟩ := State.fieldFound?_setVm (s := Z) hal s2
  cases (show (s.setVm vm0).fieldFound? tN "stackTrace" steD = _ from hS').symm.trans hfS
  obtain ⟨ci198, i198, fB', hk198, hg198, ha198, hsB, -, hnB, htB, hffB⟩ := Cond.ownField (t := .object "java/lang/Object") hfT L.cls (by decide +kernel) (ws (.fieldLink tN 198 tN "backtrace" obD) (by simp [thrW])) (ws (.lays rc tN "backtrace" obD) (by simp [thrW])) e.platform hpl
  obtain ⟨k6, hB', -⟩ := State.fieldFound?_setVm (s := Z) hal b2
  cases (show (s.setVm vm0).fieldFound? tN "backtrace" obD = _ from hB').symm.trans hffB
  obtain ⟨_, _, cD, kD, iD, fD, -, -, hffD, hstD, -, -, -, -⟩ := Cond.lays_spec (ws (.lays rc tN "depth" "I") (by simp [thrW]))
  cases Option.some.inj ((Cond.lays_declared (ws (.lays rc tN "depth" "I") (by simp [thrW])) hffD).symm.trans hfT)
  obtain ⟨hkD, hatD⟩ := State.fieldFound?_spec hffD
  cases Option.some.inj (hkD.symm.trans L.cls)
  obtain ⟨hnD, htD⟩ := State.fieldFound?_type hffD (t := .int) (by decide +kernel)
  have hfb := Cond.soleField_find hfT L.cls (ws (.soleField tN "backtrace") (by simp [thrW])) ha198 hnB hsB
  have hfd := Cond.soleField_find hfT L.cls (ws (.soleField tN "depth") (by simp [thrW])) hatD hnD hstD
  obtain ⟨comp, cO, kO, -, -, hkO, hkindO, hO⟩ := Cond.arrayOver_spec (ws (.arrayOver (.object "java/lang/Object")) (by simp [thrW]))
  have tyS := (Cond.laysAt hfound q1 hfS (ws (.lays rc tN "stackTrace" steD) (by simp [thrW]))).1
  have tyB := (Cond.laysAt hfound q1 hffB (ws (.lays rc tN "backtrace" obD) (by simp [thrW]))).1
  have tyD := (Cond.laysAt hfound q1 hffD (ws (.lays rc tN "depth" "I") (by simp [thrW]))).1
  have tk : ∀ {f : Field} {v : Value}, k'.instanceTypes[f.slot]? = some f.type → fits f.type v = true → Jvm.Takes (s.setVm vm0) cell f v := fun {f v} r1 r2 => by
    obtain ⟨z1, z2⟩ := Takes.of_laid (s := s.setVm vm0) (v := v) q1 hord r1 r2
    exact ⟨by rw [hsz]; simpa using z1, by rw [u2]; exact z2⟩
  have hSE := ws (.selects rc tFill tFill) (by simp [thrW])
  have hsel0 : selectMethod e.platform (s.setVm vm0).vm cell.cls T0.fill0 = .method T0.fill0 := by
    obtain ⟨x1, x2, x3, y1, y2, y3, y4, -⟩ := Cond.selects_spec (ws (.selects rc tFill0 tFill0) (by simp [thrW]))
    cases Option.some.inj (y1.symm.trans hfound)
    cases Option.some.inj (y2.symm.trans (State.methodFound?_of_named hn0 (by decide)))
    cases Option.some.inj (y3.symm.trans hn0)
    rw [Launch.admits_selectMethod X.admits]; exact y4
  have tB : ∀ x : Addr, Jvm.Takes (s.setVm vm0) cell fB (.ref x) := fun x => tk tyB (by rw [htB]; rfl)
  have tD : ∀ x : Int32, Jvm.Takes (s.setVm vm0) cell fD (.int x) := fun x => tk tyD (by rw [htD]; rfl)
  have tS : Jvm.Takes (s.setVm vm0) cell T0.fStack (.ref b) := tk tyS (by rw [htyS]; rfl)
  obtain ⟨v, vm₁, Bp, -, X', ⟨hv', vm', lines, hln, hW', hU, hL', hc', hn'⟩, st'⟩ := X.virtualBack A.1 (own := tN) (C := rc) (index := 27) (y := tFill) (z := tFill) hown (ws (.methodLink tN 27 tFill) (by simp [thrW])) (ws (.declares tFill) (by simp [thrW])) (notFace_of_selects hSE) hSE (ws (.instanceMethod tFill) (by simp [thrW])) (by decide)
    (Jvm.Free.Str.fillPays (l := l) (W := W) A.1 htr T0 L hnF (u0 := ⟨.ref b, rfl⟩) (by simp) (self := a) (cell := cell) (cellS := cellU) (fun _ => by rw [u2]; simp) (by rw [u2]; simp) (by rw [u3]) (by rw [u3]) s7 hsel0 hneS hknS g7 tS
      ⟨{ ci198 := ci198, i198 := _, fBack := fB }, ⟨hk198, hg198, ha198, hsB⟩, b7⟩ (kn.1.alikeC hS.1.alike) (kn.2.alikeC hS.1.alike) hfT hO hkO hkindO hfb hfd tB tD (by omega) (by omega))
    (b := a) (cB := cell.cls) hfound ⟨cell, by rw [eT]; exact e1, rfl, by rw [u2]; rfl⟩ (g := mkF m pc Ls (.ref a :: st)) rfl hml (Steps.refl _) (argsL := []) (rest := st)
    (fun sig q => by rw [show parseMethodDescriptor tFill.desc = some ⟨[], some (.object tN)⟩ from by decide +kernel] at q; rw [← Option.some.inj q]; rfl) rfl (by show 2 * 0 + _ ≤ _; omega) hd
    (fun vmx hWx => ⟨rfl, hc, hsl, by show T.heap[a]? = _; rw [eT]; exact e1, by show T.heap[T0.aS]? = _; rw [eT]; exact g5⟩)
  subst hv'
  rw [hL', hc', hn'] at X'
  -- the heap
  have hlt : a < h.size := (Array.getElem?_eq_some_iff.mp e1).1
  generalize hhd : traceHolder cO lines = hold at hU
  have E1 : Ext h (h.push hold) := ⟨by simp, fun y cy q => by
    have q' := (Array.getElem?_eq_some_iff.mp q).1
    rw [Array.getElem?_push_lt q']; exact (Array.getElem?_eq_some_iff.mp q).2 ▸ rfl⟩
  have z1 := E1.2 _ _ e1
  have nst : cell.vm.isStatics = false := by rw [u2]; rfl
  have W1 : Wr (h.push hold) ((h.push hold).setIfInBounds a (cell.setSlot fB.slot (.ref T.heap.size))) a fB.slot (.ref T.heap.size) := ⟨cell, z1, nst, (tB 0).1, rfl⟩
  have lt1 : a < (h.push hold).size := (Array.getElem?_eq_some_iff.mp z1).1
  have z2 : ((h.push hold).setIfInBounds a (cell.setSlot fB.slot (.ref T.heap.size)))[a]? = some (cell.setSlot fB.slot (.ref T.heap.size)) := by simp [Array.getElem?_setIfInBounds]; exact Nat.lt_succ_of_lt hlt
  have W2 : Wr _ (((h.push hold).setIfInBounds a (cell.setSlot fB.slot (.ref T.heap.size))).setIfInBounds a ((cell.setSlot fB.slot (.ref T.heap.size)).setSlot fD.slot (.int lines.length.toInt32))) a fD.slot (.int lines.length.toInt32) := ⟨_, z2, nst, by simpa [Cell.setSlot] using (tD 0).1, rfl⟩
  have z3 : (((h.push hold).setIfInBounds a (cell.setSlot fB.slot (.ref T.heap.size))).setIfInBounds a ((cell.setSlot fB.slot (.ref T.heap.size)).setSlot fD.slot (.int lines.length.toInt32)))[a]? = some ((cell.setSlot fB.slot (.ref T.heap.size)).setSlot fD.slot (.int lines.length.toInt32)) := by
    rw [Array.setIfInBounds_setIfInBounds]; simp [Array.getElem?_setIfInBounds]; exact Nat.lt_succ_of_lt hlt
  have W3 : Wr _ ((((h.push hold).setIfInBounds a (cell.setSlot fB.slot (.ref T.heap.size))).setIfInBounds a ((cell.setSlot fB.slot (.ref T.heap.size)).setSlot fD.slot (.int lines.length.toInt32))).setIfInBounds a (((cell.setSlot fB.slot (.ref T.heap.size)).setSlot fD.slot (.int lines.length.toInt32)).setSlot T0.fStack.slot (.ref b))) a T0.fStack.slot (.ref b) := ⟨_, z3, nst, by simpa [Cell.setSlot] using tS.1, rfl⟩
  have eH : Bp.U.heap = ((((h.push hold).setIfInBounds a (cell.setSlot fB.slot (.ref T.heap.size))).setIfInBounds a ((cell.setSlot fB.slot (.ref T.heap.size)).setSlot fD.slot (.int lines.length.toInt32))).setIfInBounds a (((cell.setSlot fB.slot (.ref T.heap.size)).setSlot fD.slot (.int lines.length.toInt32)).setSlot T0.fStack.slot (.ref b))) := by
    rw [Array.setIfInBounds_setIfInBounds, Array.setIfInBounds_setIfInBounds, hU, ← eT]; rfl
  have KK : Keep h Bp.U.heap [a] := by
    rw [eH]; exact ((((Keep.refl h [a]).ext E1).wr W1 (Or.inl (by simp))).wr W2 (Or.inl (by simp))).wr W3 (Or.inl (by simp))
  rw [← eH] at W3
  refine Go.by (fun _ z => st'.trans z) (g Bp.U _ _ _ Bp.U.heap _ _ _ _ (Sd.close A hv (X'.more (Nat.le_refl _) (Nat.add_le_add_left (traceHolder_size_le cO hln) _)) rfl hS hk hZ hown O0 (Fr.app N0 fun y hy => ?_) K0 C0 hF KK (fun x hx => by rw [List.mem_singleton.mp hx]; exact ⟨wo, sf⟩) fun x hx => Or.inl hx) E1 (own_wr (own_slotS hal.symm hffB) W1) (own_wr (own_slotS hal.symm hffD) W2) (own_wr (own_slotS hal.symm hfS) W3))
  simp only [List.mem_cons, List.not_mem_nil, or_false] at hy
  rcases hy with rfl | rfl | rfl <;> exact ge
end OwnThr
end Jvm.Pilot.@@N@@
namespace Jvm.Pilot.@@N@@
open Jvm Jvm.ClassFile Sem Op Lib Jvm.Free Jvm.Stand Jvm.LawKit Jvm.RoadKit Bundle Jvm.Pilot.@@N@@.Jvm.D
section OwnStr
variable {a0 : Array Value} {p : Program} {l : Launch} {e : Env} {R : Room} {args : Array Value} {below : List Frame} {Z s : State} {n0 : Nat} {h h' : Heap} {ws : List Addr} {x t a y t' : Addr} {cs ds : List Int32} {sl W : Nat} {v : Value}
/-- the object x is a String of these chars, all below 256; t: its byte[] -/
def Str (Z : State) (h : Heap) (x t : Addr) (cs : List Int32) : Prop :=
  (∃ kb, Exa Z h x "java/lang/String" ∧ Fld Z h x "java/lang/String" "value" "[B" (.ref t) ∧ Fld Z h x "java/lang/String" "coder" "B" (.int 0) ∧ Arv Z h t kb .byte (Int32.ofNat cs.length) ((cs.map fun c => c.toInt8.toInt32).map Value.int) (.int 0)) ∧ (∀ c ∈ cs, ¬ c < 0 ∧ ¬ (255 : Int32) < c) ∧ cs.length ≤ 4000
theorem Str.exa (F : Str Z h x t cs) : Exa Z h x "java/lang/String" := by obtain ⟨⟨kb, E, -⟩, -⟩ := F; exact E
theorem Str.lt (F : Str Z h x t cs) : x < h.size := F.exa.lt
theorem Str.lt' (F : Str Z h x t cs) : t < h.size := by obtain ⟨⟨kb, -, -, -, A⟩, -⟩ := F; exact A.lt
theorem Str.ext (F : Str Z h x t cs) (E : Ext h h') : Str Z h' x t cs := by obtain ⟨⟨kb, a, b, c, d⟩, r⟩ := F; exact ⟨⟨kb, a.ext E, b.ext E, c.ext E, d.ext E⟩, r⟩
theorem Str.keep (F : Str Z h x t cs) (K : Keep h h' ws) (q : x ∉ ws) (r : t ∉ ws) : Str Z h' x t cs := by obtain ⟨⟨kb, a, b, c, d⟩, z⟩ := F; exact ⟨⟨kb, a.keep K, b.keep K q, c.keep K q, d.keep K r⟩, z⟩
theorem Str.wr (F : Str Z h x t cs) (W : Wr h h' a sl v) (q : x ≠ a) (r : t ≠ a) : Str Z h' x t cs := by obtain ⟨⟨kb, a, b, c, d⟩, z⟩ := F; exact ⟨⟨kb, a.wr W, b.other W (Or.inl q), c.other W (Or.inl q), d.other W r⟩, z⟩
/-- COMPACT_STRINGS is set -/
def Com (Z : State) : Prop := ∃ z : Int32, Sta Z Z.heap "java/lang/String" "COMPACT_STRINGS" "Z" (.int z) ∧ ¬ z = 0
def Sfo (Z : State) : Prop := ∃ v : Value, Sta Z Z.heap "jdk/internal/util/Preconditions" "SIOOBE_FORMATTER" "Ljava/util/function/BiFunction;" v ∧ v.isRef = true
theorem up16 (h : ∀ c ∈ cs, ¬ c < 0 ∧ ¬ (255 : Int32) < c) : ∀ c ∈ cs, ¬ c < 0 ∧ ¬ (65535 : Int32) < c := fun c hc => ⟨(h c hc).1, fun q => (h c hc).2 (by rw [Int32.lt_iff_toInt_lt] at q ⊢; have e1 : (65535 : Int32).toInt = 65535 := rfl; have e2 : (255 : Int32).toInt = 255 := rfl; omega)⟩
theorem payNew (hw : ∀ d ∈ tables_1, d.before a0 Z = true) (wi : (Jvm.Cond.instantiable "java/lang/String" 4).before a0 Z = true) (cm : Com Z) (O : Old Z n0 h) {k : ClassId} {b : Addr} {d v0 c0 : Value} {N : Int32} {n : Nat} (hx0 : n0 ≤ x) (E : Exa Z h x "java/lang/String") (V : Fld Z h x "java/lang/String" "value" "[B" v0) (C : Fld Z h x "java/lang/String" "coder" "B" c0) (K : Arv Z h b k .char N (cs.map Value.int) d)
    (hn : cs.length = n) (hN : N = Int32.ofNat n) (l0 : 0 < n) (l2 : n ≤ 4000) (hp : ∀ c ∈ cs, ¬ c < 0 ∧ ¬ (255 : Int32) < c) (hfr : 4 ≤ R.frames) (hlo : W + 65 ≤ R.locals) :
    Pay l R p e below args Z s n0 ⟨"java/lang/String", "<init>", "([C)V"⟩ 3 W #[.ref x, .ref b] h [x] 1 n (fun v h' => v = none ∧ ∃ t, h.size ≤ t ∧ Str Z h' x t cs) := fun s' hZ _ => by
  obtain ⟨z, St, hz⟩ := cm
  refine Back.mono (StrChars.Road.backV hZ (fun d hd => hw d ((by decide +kernel : ∀ d ∈ StrChars.Road.words, d ∈ tables_1) d hd)) wi (n0 := n0) hx0 (by rw [← O.1]; exact O.2.1) E V C K (St.ext O.2) hz hn hN l0 l2 hp rfl hfr hlo) (fun P a q => q) (fun P a v B hp' hq => ?_)
  obtain ⟨L, ⟨q1, q2, q3, q4, q5, t, kb, q6, q7, q8, q9, q10⟩, hl, hc, hs⟩ := hq
  exact ⟨L, ⟨⟨q1, t, q7, ⟨⟨kb, q4, q9, q5, by rw [hn, ← hN]; exact q10⟩, hp, by omega⟩⟩, q3, q2⟩, hl, hc, hs⟩
theorem Str.of {kb : ClassId} {z : Int32} {vs : List Value} (E : Exa Z h x "java/lang/String") (C : Fld Z h x "java/lang/String" "coder" "B" (.int 0)) (V : Fld Z h x "java/lang/String" "value" "[B" (.ref t)) (A : Arv Z h t kb .byte z vs (.int 0)) (cs : List Int32) (hz : z = Int32.ofNat cs.length) (hvs : vs = (cs.map fun c => c.toInt8.toInt32).map Value.int) (hp : ∀ c ∈ cs, ¬ c < 0 ∧ ¬ (255 : Int32) < c) (hl : cs.length ≤ 4000) : Str Z h x t cs := by
  subst hz hvs
  exact ⟨⟨kb, E, V, C, A⟩, hp, hl⟩
end OwnStr
end Jvm.Pilot.@@N@@
namespace Jvm.Pilot.@@N@@
open Jvm Jvm.ClassFile Sem Op Lib Jvm.Free Jvm.Stand Jvm.LawKit Jvm.RoadKit Bundle Jvm.Pilot.@@N@@.Jvm.D
theorem Tw {a0 : Array Value} {Z : State} (hw : ∀ d ∈ tables_1, d.before a0 Z = true) (i : Nat) {d : Jvm.Cond} (h : tables_1[i]? = some d) : d.before a0 Z = true := hw d (List.mem_of_getElem? h)
theorem Nle {a b : Nat} (h : Nat.ble a b = true) : a ≤ b := Nat.le_of_ble_eq_true h
theorem own_ef_1 (m : MethodId) (x0 : Addr) (x1 : Value) (hr1 : x1.category = 1) : entryFrame m #[(.ref x0), x1] 2 = mkF m 0 #[.val (.ref x0), .val x1] [] := by first | rfl | (cases x1 <;> first | rfl | (simp [Value.category] at hr1; done))
theorem own_d_jdk_78_method_2_code_0 : decode jdk_78_method_2_code 0 = .ok (.aload_n 0, 1) := by decide +kernel
theorem own_d_jdk_78_method_2_code_1 : decode jdk_78_method_2_code 1 = .ok (.invokespecial 1, 3) := by decide +kernel
theorem own_d_jdk_78_method_2_code_4 : decode jdk_78_method_2_code 4 = .ok (.aload_n 0, 1) := by decide +kernel
theorem own_d_jdk_78_method_2_code_5 : decode jdk_78_method_2_code 5 = .ok (.aload_n 0, 1) := by decide +kernel
theorem own_d_jdk_78_method_2_code_6 : decode jdk_78_method_2_code 6 = .ok (.putfield 7, 3) := by decide +kernel
theorem own_d_jdk_78_method_2_code_9 : decode jdk_78_method_2_code 9 = .ok (.aload_n 0, 1) := by decide +kernel
theorem own_d_jdk_78_method_2_code_10 : decode jdk_78_method_2_code 10 = .ok (.getstatic 13, 3) := by decide +kernel
theorem own_d_jdk_78_method_2_code_13 : decode jdk_78_method_2_code 13 = .ok (.putfield 17, 3) := by decide +kernel
theorem own_d_jdk_78_method_2_code_16 : decode jdk_78_method_2_code 16 = .ok (.aload_n 0, 1) := by decide +kernel
theorem own_d_jdk_78_method_2_code_17 : decode jdk_78_method_2_code 17 = .ok (.getstatic 20, 3) := by decide +kernel
theorem own_d_jdk_78_method_2_code_20 : decode jdk_78_method_2_code 20 = .ok (.putfield 24, 3) := by decide +kernel
theorem own_d_jdk_78_method_2_code_23 : decode jdk_78_method_2_code 23 = .ok (.aload_n 0, 1) := by decide +kernel
theorem own_d_jdk_78_method_2_code_24 : decode jdk_78_method_2_code 24 = .ok (.invokevirtual 27, 3) := by decide +kernel
theorem own_d_jdk_78_method_2_code_27 : decode jdk_78_method_2_code 27 = .ok (.pop, 1) := by decide +kernel
theorem own_d_jdk_78_method_2_code_28 : decode jdk_78_method_2_code 28 = .ok (.aload_n 0, 1) := by decide +kernel
theorem own_d_jdk_78_method_2_code_29 : decode jdk_78_method_2_code 29 = .ok (.aload_n 1, 1) := by decide +kernel
theorem own_d_jdk_78_method_2_code_30 : decode jdk_78_method_2_code 30 = .ok (.putfield 31, 3) := by decide +kernel
theorem own_d_jdk_78_method_2_code_33 : decode jdk_78_method_2_code 33 = .ok (.return_, 1) := by decide +kernel
theorem own_pn_2 : plainName "java/lang/Throwable" = true := by first | (simp [plainName, overriddenIn]; done) | decide +kernel
set_option maxRecDepth 65536 in
set_option maxHeartbeats 4000000 in
theorem own_thr_b (l : Launch) (Z : State) (a0 : Array Value) (hw : ∀ d ∈ tables_1, d.before a0 Z = true) (hl : l.stackTraces = true) (tu : Thu Z) (h0 : Heap) (n0 : Nat) (O : Old Z n0 h0) (a : Addr) (mv : Value) (hmv : mv.isRef = true) (ge_a : n0 ≤ a) (E : Exa Z h0 a "com/example/featurewright/featurewright/io/BadInputException") (U : Unt h0 a) (sx0 : Fld Z h0 a "java/lang/Throwable" "cause" "Ljava/lang/Throwable;" .null) (sx1 : Fld Z h0 a "java/lang/Throwable" "stackTrace" "[Ljava/lang/StackTraceElement;" .null) (sx2 : Fld Z h0 a "java/lang/Throwable" "suppressedExceptions" "Ljava/util/List;" .null) (sx3 : Fld Z h0 a "java/lang/Throwable" "backtrace" "Ljava/lang/Object;" .null) (sx4 : Fld Z h0 a "java/lang/Throwable" "depth" "I" (.int (0 : Int32))) (sx5 : Fld Z h0 a "java/lang/Throwable" "detailMessage" "Ljava/lang/String;" .null) (gx0 : Fld Z h0 a "com/example/featurewright/featurewright/io/FeaturewrightException" "lines" "[Ljava/lang/String;" .null) :
    ConK l Z n0 (⟨"java/lang/Throwable", "<init>", "(Ljava/lang/String;)V"⟩ : MethodName) jdk_78_method_2_code 2 none [] ({ frames := 3, cells := 1, slots := 2752, locals := 42 } : Room) #[(.ref a), mv] h0 [a] (fun v h' => v = none ∧ Exa Z h' a "com/example/featurewright/featurewright/io/BadInputException" ∧ Unt h' a ∧ Fld Z h' a "java/lang/Throwable" "detailMessage" "Ljava/lang/String;" mv ∧ Fld Z h' a "com/example/featurewright/featurewright/io/FeaturewrightException" "lines" "[Ljava/lang/String;" .null) := by
  refine ConK.of a0 (plainFor_of_name own_pn_2) O (by simp [ge_a]) [] (fun _ q => nomatch q) ?_
  intro p e s m below meth cdX T kn S hby hml hret hnm
  refine Go.cast (own_ef_1 m a mv (cat1 hmv)) ?_
  obtain ⟨ub, us, su, ss⟩ := tu
  refine S.aloadN 1 (hb hby own_d_jdk_78_method_2_code_0) rfl rfl ?_
  refine S.initO (W := 0) 4 (hb hby own_d_jdk_78_method_2_code_1) (by rw [hml]; rfl) (Tw hw 53 rfl) (Tw hw 13 rfl) (Tw hw 14 rfl) (by decide) (Nle rfl) (by decide) ?_
  intro T1 S2
  refine S2.aloadN 5 (hb hby own_d_jdk_78_method_2_code_4) rfl rfl ?_
  refine S2.aloadN 6 (hb hby own_d_jdk_78_method_2_code_5) rfl rfl ?_
  refine S2.putf (host := "") (ty := (.object "java/lang/Throwable")) 9 (hb hby own_d_jdk_78_method_2_code_6) (Or.inl (Tw hw 54 rfl)) Via.refl sx0 E (Or.inl (Tw hw 55 rfl)) (Tw hw 32 rfl) (by decide) rfl rfl (Or.inl (by simp)) (Or.inl (by decide)) ?_
  intro T3 h4 L5 S6 W7
  have f8 := sx0.same W7
  refine S6.aloadN 10 (hb hby own_d_jdk_78_method_2_code_9) rfl rfl ?_
  refine S6.gets (host := "") 13 (hb hby own_d_jdk_78_method_2_code_10) (Or.inl (Tw hw 56 rfl)) Via.refl (su.ext S6.old.2) ?_
  intro T9 S10
  have f11 := (sx1.other W7 (Or.inr (slot_ne (t := (.array (.object "java/lang/StackTraceElement"))) (t' := (.object "java/lang/Throwable")) (Or.inl (Tw hw 58 rfl)) (Or.inl (Tw hw 55 rfl)) (by decide) (by decide) (by decide))))
  have f12 := (E.wr W7)
  refine S10.putf (host := "") (ty := (.array (.object "java/lang/StackTraceElement"))) 16 (hb hby own_d_jdk_78_method_2_code_13) (Or.inl (Tw hw 57 rfl)) Via.refl f11 f12 (Or.inl (Tw hw 58 rfl)) (Tw hw 32 rfl) (by decide) rfl rfl (Or.inl (by simp)) (Or.inl (by decide)) ?_
  intro T13 h14 L15 S16 W17
  have f18 := f11.same W17
  refine S16.aloadN 17 (hb hby own_d_jdk_78_method_2_code_16) rfl rfl ?_
  refine S16.gets (host := "") 20 (hb hby own_d_jdk_78_method_2_code_17) (Or.inl (Tw hw 59 rfl)) Via.refl (ss.ext S16.old.2) ?_
  intro T19 S20
  have f21 := ((sx2.other W7 (Or.inr (slot_ne (t := (.object "java/util/List")) (t' := (.object "java/lang/Throwable")) (Or.inl (Tw hw 61 rfl)) (Or.inl (Tw hw 55 rfl)) (by decide) (by decide) (by decide)))).other W17 (Or.inr (slot_ne (t := (.object "java/util/List")) (t' := (.array (.object "java/lang/StackTraceElement"))) (Or.inl (Tw hw 61 rfl)) (Or.inl (Tw hw 58 rfl)) (by decide) (by decide) (by decide))))
  have f22 := (f12.wr W17)
  refine S20.putf (host := "") (ty := (.object "java/util/List")) 23 (hb hby own_d_jdk_78_method_2_code_20) (Or.inl (Tw hw 60 rfl)) Via.refl f21 f22 (Or.inl (Tw hw 61 rfl)) (Tw hw 32 rfl) (by decide) rfl rfl (Or.inl (by simp)) (Or.inl (by decide)) ?_
  intro T23 h24 L25 S26 W27
  have f28 := f21.same W27
  refine S26.aloadN 24 (hb hby own_d_jdk_78_method_2_code_23) rfl rfl ?_
  have f43 := (f22.wr W27)
  have f44 := (((U.wr W7).wr W17).wr W27)
  have f45 := (((sx3.other W7 (Or.inr (slot_ne (t := (.object "java/lang/Object")) (t' := (.object "java/lang/Throwable")) (Or.inl (Tw hw 86 rfl)) (Or.inl (Tw hw 55 rfl)) (by decide) (by decide) (by decide)))).other W17 (Or.inr (slot_ne (t := (.object "java/lang/Object")) (t' := (.array (.object "java/lang/StackTraceElement"))) (Or.inl (Tw hw 86 rfl)) (Or.inl (Tw hw 58 rfl)) (by decide) (by decide) (by decide)))).other W27 (Or.inr (slot_ne (t := (.object "java/lang/Object")) (t' := (.object "java/util/List")) (Or.inl (Tw hw 86 rfl)) (Or.inl (Tw hw 61 rfl)) (by decide) (by decide) (by decide))))
  have f46 := (f18.other W27 (Or.inr (slot_ne (t := (.array (.object "java/lang/StackTraceElement"))) (t' := (.object "java/util/List")) (Or.inl (Tw hw 58 rfl)) (Or.inl (Tw hw 61 rfl)) (by decide) (by decide) (by decide))))
  refine S26.fill (rc := "com/example/featurewright/featurewright/io/BadInputException") (W := 0) kn hl 27 (hb hby own_d_jdk_78_method_2_code_24) (by rw [hml]; rfl) (fun d hd => hw d ((by decide +kernel : ∀ d ∈ thrW "com/example/featurewright/featurewright/io/BadInputException", d ∈ tables_1) d hd)) (Tw hw 32 rfl) f43 f44 f45 f46 su (by decide) (Nle rfl) (by decide) (by decide) (by decide) (Or.inl (by simp)) (Or.inl (by decide)) ?_
  intro T29 h30 h31 h32 h33 v34 v35 v36 L37 S38 E39 W40 W41 W42
  refine S38.pop 28 (hb hby own_d_jdk_78_method_2_code_27) rfl ?_
  refine S38.aloadN 29 (hb hby own_d_jdk_78_method_2_code_28) rfl rfl ?_
  refine S38.aloadN 30 (hb hby own_d_jdk_78_method_2_code_29) rfl hmv ?_
  have f47 := (((((((sx5.other W7 (Or.inr (slot_ne (t := (.object "java/lang/String")) (t' := (.object "java/lang/Throwable")) (Or.inl (Tw hw 85 rfl)) (Or.inl (Tw hw 55 rfl)) (by decide) (by decide) (by decide)))).other W17 (Or.inr (slot_ne (t := (.object "java/lang/String")) (t' := (.array (.object "java/lang/StackTraceElement"))) (Or.inl (Tw hw 85 rfl)) (Or.inl (Tw hw 58 rfl)) (by decide) (by decide) (by decide)))).other W27 (Or.inr (slot_ne (t := (.object "java/lang/String")) (t' := (.object "java/util/List")) (Or.inl (Tw hw 85 rfl)) (Or.inl (Tw hw 61 rfl)) (by decide) (by decide) (by decide)))).ext E39).other W40 (Or.inr (slot_ne (t := (.object "java/lang/String")) (t' := (.object "java/lang/Object")) (Or.inl (Tw hw 85 rfl)) (Or.inl (Tw hw 86 rfl)) (by decide) (by decide) (by decide)))).other W41 (Or.inr (slot_ne (t := (.object "java/lang/String")) (t' := .int) (Or.inl (Tw hw 85 rfl)) (Or.inl (Tw hw 87 rfl)) (by decide) (by decide) (by decide)))).other W42 (Or.inr (slot_ne (t := (.object "java/lang/String")) (t' := (.array (.object "java/lang/StackTraceElement"))) (Or.inl (Tw hw 85 rfl)) (Or.inl (Tw hw 58 rfl)) (by decide) (by decide) (by decide))))
  have f48 := ((((f43.ext E39).wr W40).wr W41).wr W42)
  refine S38.putf (host := "") (ty := (.object "java/lang/String")) 33 (hb hby own_d_jdk_78_method_2_code_30) (Or.inl (Tw hw 89 rfl)) Via.refl f47 f48 (Or.inl (Tw hw 85 rfl)) (Tw hw 32 rfl) (by decide) (nrR hmv) (ftR hmv) (Or.inl (by simp)) (Or.inl (by decide)) ?_
  intro T49 h50 L51 S52 W53
  have f54 := f47.same W53
  have f55 := (f48.wr W53)
  have f56 := (((((f44.ext E39).wr W40).wr W41).wr W42).wr W53)
  have f57 := ((((((((gx0.other W7 (Or.inr (slot_ne (t := (.array (.object "java/lang/String"))) (t' := (.object "java/lang/Throwable")) (Or.inr (Tw hw 93 rfl)) (Or.inl (Tw hw 55 rfl)) (by decide) (by decide) (by decide)))).other W17 (Or.inr (slot_ne (t := (.array (.object "java/lang/String"))) (t' := (.array (.object "java/lang/StackTraceElement"))) (Or.inr (Tw hw 93 rfl)) (Or.inl (Tw hw 58 rfl)) (by decide) (by decide) (by decide)))).other W27 (Or.inr (slot_ne (t := (.array (.object "java/lang/String"))) (t' := (.object "java/util/List")) (Or.inr (Tw hw 93 rfl)) (Or.inl (Tw hw 61 rfl)) (by decide) (by decide) (by decide)))).ext E39).other W40 (Or.inr (slot_ne (t := (.array (.object "java/lang/String"))) (t' := (.object "java/lang/Object")) (Or.inr (Tw hw 93 rfl)) (Or.inl (Tw hw 86 rfl)) (by decide) (by decide) (by decide)))).other W41 (Or.inr (slot_ne (t := (.array (.object "java/lang/String"))) (t' := .int) (Or.inr (Tw hw 93 rfl)) (Or.inl (Tw hw 87 rfl)) (by decide) (by decide) (by decide)))).other W42 (Or.inr (slot_ne (t := (.array (.object "java/lang/String"))) (t' := (.array (.object "java/lang/StackTraceElement"))) (Or.inr (Tw hw 93 rfl)) (Or.inl (Tw hw 58 rfl)) (by decide) (by decide) (by decide)))).other W53 (Or.inr (slot_ne (t := (.array (.object "java/lang/String"))) (t' := (.object "java/lang/String")) (Or.inr (Tw hw 93 rfl)) (Or.inl (Tw hw 85 rfl)) (by decide) (by decide) (by decide))))
  exact S52.ret0 (hb hby own_d_jdk_78_method_2_code_33) hret (by decide) (by decide) ⟨rfl, f55, f56, f54, f57⟩

theorem own_d_jdk_59_method_2_code_0 : decode jdk_59_method_2_code 0 = .ok (.aload_n 0, 1) := by decide +kernel
theorem own_d_jdk_59_method_2_code_1 : decode jdk_59_method_2_code 1 = .ok (.aload_n 1, 1) := by decide +kernel
theorem own_d_jdk_59_method_2_code_2 : decode jdk_59_method_2_code 2 = .ok (.invokespecial 7, 3) := by decide +kernel
theorem own_pd_3 : parseMethodDescriptor "(Ljava/lang/String;)V" = some ⟨[(.object "java/lang/String")], none⟩ := by decide +kernel
theorem own_d_jdk_59_method_2_code_5 : decode jdk_59_method_2_code 5 = .ok (.return_, 1) := by decide +kernel
theorem own_pn_4 : plainName "java/lang/Exception" = true := by first | (simp [plainName, overriddenIn]; done) | decide +kernel
set_option maxRecDepth 65536 in
set_option maxHeartbeats 4000000 in
theorem own_exc_b_Exception (l : Launch) (Z : State) (a0 : Array Value) (hw : ∀ d ∈ tables_1, d.before a0 Z = true) (hl : l.stackTraces = true) (tu : Thu Z) (h0 : Heap) (n0 : Nat) (O : Old Z n0 h0) (a : Addr) (mv : Value) (hmv : mv.isRef = true) (ge_a : n0 ≤ a) (E : Exa Z h0 a "com/example/featurewright/featurewright/io/BadInputException") (U : Unt h0 a) (sx0 : Fld Z h0 a "java/lang/Throwable" "cause" "Ljava/lang/Throwable;" .null) (sx1 : Fld Z h0 a "java/lang/Throwable" "stackTrace" "[Ljava/lang/StackTraceElement;" .null) (sx2 : Fld Z h0 a "java/lang/Throwable" "suppressedExceptions" "Ljava/util/List;" .null) (sx3 : Fld Z h0 a "java/lang/Throwable" "backtrace" "Ljava/lang/Object;" .null) (sx4 : Fld Z h0 a "java/lang/Throwable" "depth" "I" (.int (0 : Int32))) (sx5 : Fld Z h0 a "java/lang/Throwable" "detailMessage" "Ljava/lang/String;" .null) (gx0 : Fld Z h0 a "com/example/featurewright/featurewright/io/FeaturewrightException" "lines" "[Ljava/lang/String;" .null) :
    ConK l Z n0 (⟨"java/lang/Exception", "<init>", "(Ljava/lang/String;)V"⟩ : MethodName) jdk_59_method_2_code 2 none [] ({ frames := 4, cells := 1, slots := 2752, locals := 55 } : Room) #[(.ref a), mv] h0 [a] (fun v h' => v = none ∧ Exa Z h' a "com/example/featurewright/featurewright/io/BadInputException" ∧ Unt h' a ∧ Fld Z h' a "java/lang/Throwable" "detailMessage" "Ljava/lang/String;" mv ∧ Fld Z h' a "com/example/featurewright/featurewright/io/FeaturewrightException" "lines" "[Ljava/lang/String;" .null) := by
  refine ConK.of a0 (plainFor_of_name own_pn_4) O (by simp [ge_a]) [] (fun _ q => nomatch q) ?_
  intro p e s m below meth cdX T kn S hby hml hret hnm
  refine Go.cast (own_ef_1 m a mv (cat1 hmv)) ?_
  refine S.aloadN 1 (hb hby own_d_jdk_59_method_2_code_0) rfl rfl ?_
  refine S.aloadN 2 (hb hby own_d_jdk_59_method_2_code_1) rfl hmv ?_
  refine S.icall 5 (hb hby own_d_jdk_59_method_2_code_2) (by rw [hml]; rfl) rfl (Tw hw 47 rfl) (Tw hw 48 rfl) (Tw hw 52 rfl) (by decide) [mv] [] (ConK.pay (W := 0) kn (own_thr_b l Z a0 hw hl tu h0 n0 S.old a mv hmv (S.ge (Or.inl (by simp))) E U sx0 sx1 sx2 sx3 sx4 sx5 gx0) (Tw hw 52 rfl) (Tw hw 51 rfl) (by decide) (by decide)) (lenOf own_pd_3 rfl) rfl (Nle rfl) (by decide) (by decide) (Wrs.one (Or.inl (by simp)) (Or.inr ⟨_, E, by decide, by decide⟩)) ?_
  intro v58 T59 h60 L61 S62 q63 K64
  obtain ⟨rfl, f65, f66, f67, f68⟩ := q63
  show Go p e below _ T59 (mkF m 5 #[.val (.ref a), .val mv] [])
  exact S62.ret0 (hb hby own_d_jdk_59_method_2_code_5) hret (by decide) (by decide) ⟨rfl, f65, f66, f67, f68⟩


set_option maxRecDepth 65536 in
set_option maxHeartbeats 4000000 in
theorem own_thr_f (l : Launch) (Z : State) (a0 : Array Value) (hw : ∀ d ∈ tables_1, d.before a0 Z = true) (hl : l.stackTraces = true) (tu : Thu Z) (h0 : Heap) (n0 : Nat) (O : Old Z n0 h0) (a : Addr) (mv : Value) (hmv : mv.isRef = true) (ge_a : n0 ≤ a) (E : Exa Z h0 a "com/example/featurewright/featurewright/io/RefusedException") (U : Unt h0 a) (sx0 : Fld Z h0 a "java/lang/Throwable" "cause" "Ljava/lang/Throwable;" .null) (sx1 : Fld Z h0 a "java/lang/Throwable" "stackTrace" "[Ljava/lang/StackTraceElement;" .null) (sx2 : Fld Z h0 a "java/lang/Throwable" "suppressedExceptions" "Ljava/util/List;" .null) (sx3 : Fld Z h0 a "java/lang/Throwable" "backtrace" "Ljava/lang/Object;" .null) (sx4 : Fld Z h0 a "java/lang/Throwable" "depth" "I" (.int (0 : Int32))) (sx5 : Fld Z h0 a "java/lang/Throwable" "detailMessage" "Ljava/lang/String;" .null) (gx0 : Fld Z h0 a "com/example/featurewright/featurewright/io/FeaturewrightException" "lines" "[Ljava/lang/String;" .null) :
    ConK l Z n0 (⟨"java/lang/Throwable", "<init>", "(Ljava/lang/String;)V"⟩ : MethodName) jdk_78_method_2_code 2 none [] ({ frames := 3, cells := 1, slots := 2752, locals := 42 } : Room) #[(.ref a), mv] h0 [a] (fun v h' => v = none ∧ Exa Z h' a "com/example/featurewright/featurewright/io/RefusedException" ∧ Unt h' a ∧ Fld Z h' a "java/lang/Throwable" "detailMessage" "Ljava/lang/String;" mv ∧ Fld Z h' a "com/example/featurewright/featurewright/io/FeaturewrightException" "lines" "[Ljava/lang/String;" .null) := by
  refine ConK.of a0 (plainFor_of_name own_pn_2) O (by simp [ge_a]) [] (fun _ q => nomatch q) ?_
  intro p e s m below meth cdX T kn S hby hml hret hnm
  refine Go.cast (own_ef_1 m a mv (cat1 hmv)) ?_
  obtain ⟨ub, us, su, ss⟩ := tu
  refine S.aloadN 1 (hb hby own_d_jdk_78_method_2_code_0) rfl rfl ?_
  refine S.initO (W := 0) 4 (hb hby own_d_jdk_78_method_2_code_1) (by rw [hml]; rfl) (Tw hw 53 rfl) (Tw hw 13 rfl) (Tw hw 14 rfl) (by decide) (Nle rfl) (by decide) ?_
  intro T69 S70
  refine S70.aloadN 5 (hb hby own_d_jdk_78_method_2_code_4) rfl rfl ?_
  refine S70.aloadN 6 (hb hby own_d_jdk_78_method_2_code_5) rfl rfl ?_
  refine S70.putf (host := "") (ty := (.object "java/lang/Throwable")) 9 (hb hby own_d_jdk_78_method_2_code_6) (Or.inl (Tw hw 54 rfl)) Via.refl sx0 E (Or.inl (Tw hw 107 rfl)) (Tw hw 100 rfl) (by decide) rfl rfl (Or.inl (by simp)) (Or.inl (by decide)) ?_
  intro T71 h72 L73 S74 W75
  have f76 := sx0.same W75
  refine S74.aloadN 10 (hb hby own_d_jdk_78_method_2_code_9) rfl rfl ?_
  refine S74.gets (host := "") 13 (hb hby own_d_jdk_78_method_2_code_10) (Or.inl (Tw hw 56 rfl)) Via.refl (su.ext S74.old.2) ?_
  intro T77 S78
  have f79 := (sx1.other W75 (Or.inr (slot_ne (t := (.array (.object "java/lang/StackTraceElement"))) (t' := (.object "java/lang/Throwable")) (Or.inl (Tw hw 108 rfl)) (Or.inl (Tw hw 107 rfl)) (by decide) (by decide) (by decide))))
  have f80 := (E.wr W75)
  refine S78.putf (host := "") (ty := (.array (.object "java/lang/StackTraceElement"))) 16 (hb hby own_d_jdk_78_method_2_code_13) (Or.inl (Tw hw 57 rfl)) Via.refl f79 f80 (Or.inl (Tw hw 108 rfl)) (Tw hw 100 rfl) (by decide) rfl rfl (Or.inl (by simp)) (Or.inl (by decide)) ?_
  intro T81 h82 L83 S84 W85
  have f86 := f79.same W85
  refine S84.aloadN 17 (hb hby own_d_jdk_78_method_2_code_16) rfl rfl ?_
  refine S84.gets (host := "") 20 (hb hby own_d_jdk_78_method_2_code_17) (Or.inl (Tw hw 59 rfl)) Via.refl (ss.ext S84.old.2) ?_
  intro T87 S88
  have f89 := ((sx2.other W75 (Or.inr (slot_ne (t := (.object "java/util/List")) (t' := (.object "java/lang/Throwable")) (Or.inl (Tw hw 109 rfl)) (Or.inl (Tw hw 107 rfl)) (by decide) (by decide) (by decide)))).other W85 (Or.inr (slot_ne (t := (.object "java/util/List")) (t' := (.array (.object "java/lang/StackTraceElement"))) (Or.inl (Tw hw 109 rfl)) (Or.inl (Tw hw 108 rfl)) (by decide) (by decide) (by decide))))
  have f90 := (f80.wr W85)
  refine S88.putf (host := "") (ty := (.object "java/util/List")) 23 (hb hby own_d_jdk_78_method_2_code_20) (Or.inl (Tw hw 60 rfl)) Via.refl f89 f90 (Or.inl (Tw hw 109 rfl)) (Tw hw 100 rfl) (by decide) rfl rfl (Or.inl (by simp)) (Or.inl (by decide)) ?_
  intro T91 h92 L93 S94 W95
  have f96 := f89.same W95
  refine S94.aloadN 24 (hb hby own_d_jdk_78_method_2_code_23) rfl rfl ?_
  have f111 := (f90.wr W95)
  have f112 := (((U.wr W75).wr W85).wr W95)
  have f113 := (((sx3.other W75 (Or.inr (slot_ne (t := (.object "java/lang/Object")) (t' := (.object "java/lang/Throwable")) (Or.inl (Tw hw 113 rfl)) (Or.inl (Tw hw 107 rfl)) (by decide) (by decide) (by decide)))).other W85 (Or.inr (slot_ne (t := (.object "java/lang/Object")) (t' := (.array (.object "java/lang/StackTraceElement"))) (Or.inl (Tw hw 113 rfl)) (Or.inl (Tw hw 108 rfl)) (by decide) (by decide) (by decide)))).other W95 (Or.inr (slot_ne (t := (.object "java/lang/Object")) (t' := (.object "java/util/List")) (Or.inl (Tw hw 113 rfl)) (Or.inl (Tw hw 109 rfl)) (by decide) (by decide) (by decide))))
  have f114 := (f86.other W95 (Or.inr (slot_ne (t := (.array (.object "java/lang/StackTraceElement"))) (t' := (.object "java/util/List")) (Or.inl (Tw hw 108 rfl)) (Or.inl (Tw hw 109 rfl)) (by decide) (by decide) (by decide))))
  refine S94.fill (rc := "com/example/featurewright/featurewright/io/RefusedException") (W := 0) kn hl 27 (hb hby own_d_jdk_78_method_2_code_24) (by rw [hml]; rfl) (fun d hd => hw d ((by decide +kernel : ∀ d ∈ thrW "com/example/featurewright/featurewright/io/RefusedException", d ∈ tables_1) d hd)) (Tw hw 100 rfl) f111 f112 f113 f114 su (by decide) (Nle rfl) (by decide) (by decide) (by decide) (Or.inl (by simp)) (Or.inl (by decide)) ?_
  intro T97 h98 h99 h100 h101 v102 v103 v104 L105 S106 E107 W108 W109 W110
  refine S106.pop 28 (hb hby own_d_jdk_78_method_2_code_27) rfl ?_
  refine S106.aloadN 29 (hb hby own_d_jdk_78_method_2_code_28) rfl rfl ?_
  refine S106.aloadN 30 (hb hby own_d_jdk_78_method_2_code_29) rfl hmv ?_
  have f115 := (((((((sx5.other W75 (Or.inr (slot_ne (t := (.object "java/lang/String")) (t' := (.object "java/lang/Throwable")) (Or.inl (Tw hw 112 rfl)) (Or.inl (Tw hw 107 rfl)) (by decide) (by decide) (by decide)))).other W85 (Or.inr (slot_ne (t := (.object "java/lang/String")) (t' := (.array (.object "java/lang/StackTraceElement"))) (Or.inl (Tw hw 112 rfl)) (Or.inl (Tw hw 108 rfl)) (by decide) (by decide) (by decide)))).other W95 (Or.inr (slot_ne (t := (.object "java/lang/String")) (t' := (.object "java/util/List")) (Or.inl (Tw hw 112 rfl)) (Or.inl (Tw hw 109 rfl)) (by decide) (by decide) (by decide)))).ext E107).other W108 (Or.inr (slot_ne (t := (.object "java/lang/String")) (t' := (.object "java/lang/Object")) (Or.inl (Tw hw 112 rfl)) (Or.inl (Tw hw 113 rfl)) (by decide) (by decide) (by decide)))).other W109 (Or.inr (slot_ne (t := (.object "java/lang/String")) (t' := .int) (Or.inl (Tw hw 112 rfl)) (Or.inl (Tw hw 114 rfl)) (by decide) (by decide) (by decide)))).other W110 (Or.inr (slot_ne (t := (.object "java/lang/String")) (t' := (.array (.object "java/lang/StackTraceElement"))) (Or.inl (Tw hw 112 rfl)) (Or.inl (Tw hw 108 rfl)) (by decide) (by decide) (by decide))))
  have f116 := ((((f111.ext E107).wr W108).wr W109).wr W110)
  refine S106.putf (host := "") (ty := (.object "java/lang/String")) 33 (hb hby own_d_jdk_78_method_2_code_30) (Or.inl (Tw hw 89 rfl)) Via.refl f115 f116 (Or.inl (Tw hw 112 rfl)) (Tw hw 100 rfl) (by decide) (nrR hmv) (ftR hmv) (Or.inl (by simp)) (Or.inl (by decide)) ?_
  intro T117 h118 L119 S120 W121
  have f122 := f115.same W121
  have f123 := (f116.wr W121)
  have f124 := (((((f112.ext E107).wr W108).wr W109).wr W110).wr W121)
  have f125 := ((((((((gx0.other W75 (Or.inr (slot_ne (t := (.array (.object "java/lang/String"))) (t' := (.object "java/lang/Throwable")) (Or.inr (Tw hw 116 rfl)) (Or.inl (Tw hw 107 rfl)) (by decide) (by decide) (by decide)))).other W85 (Or.inr (slot_ne (t := (.array (.object "java/lang/String"))) (t' := (.array (.object "java/lang/StackTraceElement"))) (Or.inr (Tw hw 116 rfl)) (Or.inl (Tw hw 108 rfl)) (by decide) (by decide) (by decide)))).other W95 (Or.inr (slot_ne (t := (.array (.object "java/lang/String"))) (t' := (.object "java/util/List")) (Or.inr (Tw hw 116 rfl)) (Or.inl (Tw hw 109 rfl)) (by decide) (by decide) (by decide)))).ext E107).other W108 (Or.inr (slot_ne (t := (.array (.object "java/lang/String"))) (t' := (.object "java/lang/Object")) (Or.inr (Tw hw 116 rfl)) (Or.inl (Tw hw 113 rfl)) (by decide) (by decide) (by decide)))).other W109 (Or.inr (slot_ne (t := (.array (.object "java/lang/String"))) (t' := .int) (Or.inr (Tw hw 116 rfl)) (Or.inl (Tw hw 114 rfl)) (by decide) (by decide) (by decide)))).other W110 (Or.inr (slot_ne (t := (.array (.object "java/lang/String"))) (t' := (.array (.object "java/lang/StackTraceElement"))) (Or.inr (Tw hw 116 rfl)) (Or.inl (Tw hw 108 rfl)) (by decide) (by decide) (by decide)))).other W121 (Or.inr (slot_ne (t := (.array (.object "java/lang/String"))) (t' := (.object "java/lang/String")) (Or.inr (Tw hw 116 rfl)) (Or.inl (Tw hw 112 rfl)) (by decide) (by decide) (by decide))))
  exact S120.ret0 (hb hby own_d_jdk_78_method_2_code_33) hret (by decide) (by decide) ⟨rfl, f123, f124, f122, f125⟩


set_option maxRecDepth 65536 in
set_option maxHeartbeats 4000000 in
theorem own_exc_f_Exception (l : Launch) (Z : State) (a0 : Array Value) (hw : ∀ d ∈ tables_1, d.before a0 Z = true) (hl : l.stackTraces = true) (tu : Thu Z) (h0 : Heap) (n0 : Nat) (O : Old Z n0 h0) (a : Addr) (mv : Value) (hmv : mv.isRef = true) (ge_a : n0 ≤ a) (E : Exa Z h0 a "com/example/featurewright/featurewright/io/RefusedException") (U : Unt h0 a) (sx0 : Fld Z h0 a "java/lang/Throwable" "cause" "Ljava/lang/Throwable;" .null) (sx1 : Fld Z h0 a "java/lang/Throwable" "stackTrace" "[Ljava/lang/StackTraceElement;" .null) (sx2 : Fld Z h0 a "java/lang/Throwable" "suppressedExceptions" "Ljava/util/List;" .null) (sx3 : Fld Z h0 a "java/lang/Throwable" "backtrace" "Ljava/lang/Object;" .null) (sx4 : Fld Z h0 a "java/lang/Throwable" "depth" "I" (.int (0 : Int32))) (sx5 : Fld Z h0 a "java/lang/Throwable" "detailMessage" "Ljava/lang/String;" .null) (gx0 : Fld Z h0 a "com/example/featurewright/featurewright/io/FeaturewrightException" "lines" "[Ljava/lang/String;" .null) :
    ConK l Z n0 (⟨"java/lang/Exception", "<init>", "(Ljava/lang/String;)V"⟩ : MethodName) jdk_59_method_2_code 2 none [] ({ frames := 4, cells := 1, slots := 2752, locals := 55 } : Room) #[(.ref a), mv] h0 [a] (fun v h' => v = none ∧ Exa Z h' a "com/example/featurewright/featurewright/io/RefusedException" ∧ Unt h' a ∧ Fld Z h' a "java/lang/Throwable" "detailMessage" "Ljava/lang/String;" mv ∧ Fld Z h' a "com/example/featurewright/featurewright/io/FeaturewrightException" "lines" "[Ljava/lang/String;" .null) := by
  refine ConK.of a0 (plainFor_of_name own_pn_4) O (by simp [ge_a]) [] (fun _ q => nomatch q) ?_
  intro p e s m below meth cdX T kn S hby hml hret hnm
  refine Go.cast (own_ef_1 m a mv (cat1 hmv)) ?_
  refine S.aloadN 1 (hb hby own_d_jdk_59_method_2_code_0) rfl rfl ?_
  refine S.aloadN 2 (hb hby own_d_jdk_59_method_2_code_1) rfl hmv ?_
  refine S.icall 5 (hb hby own_d_jdk_59_method_2_code_2) (by rw [hml]; rfl) rfl (Tw hw 47 rfl) (Tw hw 48 rfl) (Tw hw 52 rfl) (by decide) [mv] [] (ConK.pay (W := 0) kn (own_thr_f l Z a0 hw hl tu h0 n0 S.old a mv hmv (S.ge (Or.inl (by simp))) E U sx0 sx1 sx2 sx3 sx4 sx5 gx0) (Tw hw 52 rfl) (Tw hw 51 rfl) (by decide) (by decide)) (lenOf own_pd_3 rfl) rfl (Nle rfl) (by decide) (by decide) (Wrs.one (Or.inl (by simp)) (Or.inr ⟨_, E, by decide, by decide⟩)) ?_
  intro v126 T127 h128 L129 S130 q131 K132
  obtain ⟨rfl, f133, f134, f135, f136⟩ := q131
  show Go p e below _ T127 (mkF m 5 #[.val (.ref a), .val mv] [])
  exact S130.ret0 (hb hby own_d_jdk_59_method_2_code_5) hret (by decide) (by decide) ⟨rfl, f133, f134, f135, f136⟩

set_option maxHeartbeats 4000000 in
theorem own_ef_5 (m : MethodId) (x0 : Addr) (x1 : Value) (x2 : Value) (hr1 : x1.category = 1) (hr2 : x2.category = 1) : entryFrame m #[(.ref x0), x1, x2] 3 = mkF m 0 #[.val (.ref x0), .val x1, .val x2] [] := by first | rfl | (cases x1 <;> first | rfl | (simp [Value.category] at hr1; done) | (cases x2 <;> first | rfl | (simp [Value.category] at hr2; done)))
theorem own_d_jdk_78_method_3_code_0 : decode jdk_78_method_3_code 0 = .ok (.aload_n 0, 1) := by decide +kernel
theorem own_d_jdk_78_method_3_code_1 : decode jdk_78_method_3_code 1 = .ok (.invokespecial 1, 3) := by decide +kernel
theorem own_d_jdk_78_method_3_code_4 : decode jdk_78_method_3_code 4 = .ok (.aload_n 0, 1) := by decide +kernel
theorem own_d_jdk_78_method_3_code_5 : decode jdk_78_method_3_code 5 = .ok (.aload_n 0, 1) := by decide +kernel
theorem own_d_jdk_78_method_3_code_6 : decode jdk_78_method_3_code 6 = .ok (.putfield 7, 3) := by decide +kernel
theorem own_d_jdk_78_method_3_code_9 : decode jdk_78_method_3_code 9 = .ok (.aload_n 0, 1) := by decide +kernel
theorem own_d_jdk_78_method_3_code_10 : decode jdk_78_method_3_code 10 = .ok (.getstatic 13, 3) := by decide +kernel
theorem own_d_jdk_78_method_3_code_13 : decode jdk_78_method_3_code 13 = .ok (.putfield 17, 3) := by decide +kernel
theorem own_d_jdk_78_method_3_code_16 : decode jdk_78_method_3_code 16 = .ok (.aload_n 0, 1) := by decide +kernel
theorem own_d_jdk_78_method_3_code_17 : decode jdk_78_method_3_code 17 = .ok (.getstatic 20, 3) := by decide +kernel
theorem own_d_jdk_78_method_3_code_20 : decode jdk_78_method_3_code 20 = .ok (.putfield 24, 3) := by decide +kernel
theorem own_d_jdk_78_method_3_code_23 : decode jdk_78_method_3_code 23 = .ok (.aload_n 0, 1) := by decide +kernel
theorem own_d_jdk_78_method_3_code_24 : decode jdk_78_method_3_code 24 = .ok (.invokevirtual 27, 3) := by decide +kernel
theorem own_d_jdk_78_method_3_code_27 : decode jdk_78_method_3_code 27 = .ok (.pop, 1) := by decide +kernel
theorem own_d_jdk_78_method_3_code_28 : decode jdk_78_method_3_code 28 = .ok (.aload_n 0, 1) := by decide +kernel
theorem own_d_jdk_78_method_3_code_29 : decode jdk_78_method_3_code 29 = .ok (.aload_n 1, 1) := by decide +kernel
theorem own_d_jdk_78_method_3_code_30 : decode jdk_78_method_3_code 30 = .ok (.putfield 31, 3) := by decide +kernel
theorem own_d_jdk_78_method_3_code_33 : decode jdk_78_method_3_code 33 = .ok (.aload_n 0, 1) := by decide +kernel
theorem own_d_jdk_78_method_3_code_34 : decode jdk_78_method_3_code 34 = .ok (.aload_n 2, 1) := by decide +kernel
theorem own_d_jdk_78_method_3_code_35 : decode jdk_78_method_3_code 35 = .ok (.putfield 7, 3) := by decide +kernel
theorem own_d_jdk_78_method_3_code_38 : decode jdk_78_method_3_code 38 = .ok (.return_, 1) := by decide +kernel
set_option maxRecDepth 65536 in
set_option maxHeartbeats 4000000 in
theorem own_thr_w (l : Launch) (Z : State) (a0 : Array Value) (hw : ∀ d ∈ tables_1, d.before a0 Z = true) (hl : l.stackTraces = true) (tu : Thu Z) (h0 : Heap) (n0 : Nat) (O : Old Z n0 h0) (a : Addr) (mv : Value) (hmv : mv.isRef = true) (cz : Value) (hcz : cz.isRef = true) (ge_a : n0 ≤ a) (E : Exa Z h0 a "com/example/featurewright/featurewright/io/WriteFailedException") (U : Unt h0 a) (sx0 : Fld Z h0 a "java/lang/Throwable" "cause" "Ljava/lang/Throwable;" .null) (sx1 : Fld Z h0 a "java/lang/Throwable" "stackTrace" "[Ljava/lang/StackTraceElement;" .null) (sx2 : Fld Z h0 a "java/lang/Throwable" "suppressedExceptions" "Ljava/util/List;" .null) (sx3 : Fld Z h0 a "java/lang/Throwable" "backtrace" "Ljava/lang/Object;" .null) (sx4 : Fld Z h0 a "java/lang/Throwable" "depth" "I" (.int (0 : Int32))) (sx5 : Fld Z h0 a "java/lang/Throwable" "detailMessage" "Ljava/lang/String;" .null) (gx0 : Fld Z h0 a "com/example/featurewright/featurewright/io/FeaturewrightException" "lines" "[Ljava/lang/String;" .null) :
    ConK l Z n0 (⟨"java/lang/Throwable", "<init>", "(Ljava/lang/String;Ljava/lang/Throwable;)V"⟩ : MethodName) jdk_78_method_3_code 3 none [] ({ frames := 3, cells := 1, slots := 2752, locals := 42 } : Room) #[(.ref a), mv, cz] h0 [a] (fun v h' => v = none ∧ Exa Z h' a "com/example/featurewright/featurewright/io/WriteFailedException" ∧ Unt h' a ∧ Fld Z h' a "java/lang/Throwable" "detailMessage" "Ljava/lang/String;" mv ∧ Fld Z h' a "com/example/featurewright/featurewright/io/FeaturewrightException" "lines" "[Ljava/lang/String;" .null) := by
  refine ConK.of a0 (plainFor_of_name own_pn_2) O (by simp [ge_a]) [] (fun _ q => nomatch q) ?_
  intro p e s m below meth cdX T kn S hby hml hret hnm
  refine Go.cast (own_ef_5 m a mv cz (cat1 hmv) (cat1 hcz)) ?_
  obtain ⟨ub, us, su, ss⟩ := tu
  refine S.aloadN 1 (hb hby own_d_jdk_78_method_3_code_0) rfl rfl ?_
  refine S.initO (W := 0) 4 (hb hby own_d_jdk_78_method_3_code_1) (by rw [hml]; rfl) (Tw hw 53 rfl) (Tw hw 13 rfl) (Tw hw 14 rfl) (by decide) (Nle rfl) (by decide) ?_
  intro T137 S138
  refine S138.aloadN 5 (hb hby own_d_jdk_78_method_3_code_4) rfl rfl ?_
  refine S138.aloadN 6 (hb hby own_d_jdk_78_method_3_code_5) rfl rfl ?_
  refine S138.putf (host := "") (ty := (.object "java/lang/Throwable")) 9 (hb hby own_d_jdk_78_method_3_code_6) (Or.inl (Tw hw 54 rfl)) Via.refl sx0 E (Or.inl (Tw hw 141 rfl)) (Tw hw 123 rfl) (by decide) rfl rfl (Or.inl (by simp)) (Or.inl (by decide)) ?_
  intro T139 h140 L141 S142 W143
  have f144 := sx0.same W143
  refine S142.aloadN 10 (hb hby own_d_jdk_78_method_3_code_9) rfl rfl ?_
  refine S142.gets (host := "") 13 (hb hby own_d_jdk_78_method_3_code_10) (Or.inl (Tw hw 56 rfl)) Via.refl (su.ext S142.old.2) ?_
  intro T145 S146
  have f147 := (sx1.other W143 (Or.inr (slot_ne (t := (.array (.object "java/lang/StackTraceElement"))) (t' := (.object "java/lang/Throwable")) (Or.inl (Tw hw 142 rfl)) (Or.inl (Tw hw 141 rfl)) (by decide) (by decide) (by decide))))
  have f148 := (E.wr W143)
  refine S146.putf (host := "") (ty := (.array (.object "java/lang/StackTraceElement"))) 16 (hb hby own_d_jdk_78_method_3_code_13) (Or.inl (Tw hw 57 rfl)) Via.refl f147 f148 (Or.inl (Tw hw 142 rfl)) (Tw hw 123 rfl) (by decide) rfl rfl (Or.inl (by simp)) (Or.inl (by decide)) ?_
  intro T149 h150 L151 S152 W153
  have f154 := f147.same W153
  refine S152.aloadN 17 (hb hby own_d_jdk_78_method_3_code_16) rfl rfl ?_
  refine S152.gets (host := "") 20 (hb hby own_d_jdk_78_method_3_code_17) (Or.inl (Tw hw 59 rfl)) Via.refl (ss.ext S152.old.2) ?_
  intro T155 S156
  have f157 := ((sx2.other W143 (Or.inr (slot_ne (t := (.object "java/util/List")) (t' := (.object "java/lang/Throwable")) (Or.inl (Tw hw 143 rfl)) (Or.inl (Tw hw 141 rfl)) (by decide) (by decide) (by decide)))).other W153 (Or.inr (slot_ne (t := (.object "java/util/List")) (t' := (.array (.object "java/lang/StackTraceElement"))) (Or.inl (Tw hw 143 rfl)) (Or.inl (Tw hw 142 rfl)) (by decide) (by decide) (by decide))))
  have f158 := (f148.wr W153)
  refine S156.putf (host := "") (ty := (.object "java/util/List")) 23 (hb hby own_d_jdk_78_method_3_code_20) (Or.inl (Tw hw 60 rfl)) Via.refl f157 f158 (Or.inl (Tw hw 143 rfl)) (Tw hw 123 rfl) (by decide) rfl rfl (Or.inl (by simp)) (Or.inl (by decide)) ?_
  intro T159 h160 L161 S162 W163
  have f164 := f157.same W163
  refine S162.aloadN 24 (hb hby own_d_jdk_78_method_3_code_23) rfl rfl ?_
  have f179 := (f158.wr W163)
  have f180 := (((U.wr W143).wr W153).wr W163)
  have f181 := (((sx3.other W143 (Or.inr (slot_ne (t := (.object "java/lang/Object")) (t' := (.object "java/lang/Throwable")) (Or.inl (Tw hw 147 rfl)) (Or.inl (Tw hw 141 rfl)) (by decide) (by decide) (by decide)))).other W153 (Or.inr (slot_ne (t := (.object "java/lang/Object")) (t' := (.array (.object "java/lang/StackTraceElement"))) (Or.inl (Tw hw 147 rfl)) (Or.inl (Tw hw 142 rfl)) (by decide) (by decide) (by decide)))).other W163 (Or.inr (slot_ne (t := (.object "java/lang/Object")) (t' := (.object "java/util/List")) (Or.inl (Tw hw 147 rfl)) (Or.inl (Tw hw 143 rfl)) (by decide) (by decide) (by decide))))
  have f182 := (f154.other W163 (Or.inr (slot_ne (t := (.array (.object "java/lang/StackTraceElement"))) (t' := (.object "java/util/List")) (Or.inl (Tw hw 142 rfl)) (Or.inl (Tw hw 143 rfl)) (by decide) (by decide) (by decide))))
  refine S162.fill (rc := "com/example/featurewright/featurewright/io/WriteFailedException") (W := 0) kn hl 27 (hb hby own_d_jdk_78_method_3_code_24) (by rw [hml]; rfl) (fun d hd => hw d ((by decide +kernel : ∀ d ∈ thrW "com/example/featurewright/featurewright/io/WriteFailedException", d ∈ tables_1) d hd)) (Tw hw 123 rfl) f179 f180 f181 f182 su (by decide) (Nle rfl) (by decide) (by decide) (by decide) (Or.inl (by simp)) (Or.inl (by decide)) ?_
  intro T165 h166 h167 h168 h169 v170 v171 v172 L173 S174 E175 W176 W177 W178
  refine S174.pop 28 (hb hby own_d_jdk_78_method_3_code_27) rfl ?_
  refine S174.aloadN 29 (hb hby own_d_jdk_78_method_3_code_28) rfl rfl ?_
  refine S174.aloadN 30 (hb hby own_d_jdk_78_method_3_code_29) rfl hmv ?_
  have f183 := (((((((sx5.other W143 (Or.inr (slot_ne (t := (.object "java/lang/String")) (t' := (.object "java/lang/Throwable")) (Or.inl (Tw hw 146 rfl)) (Or.inl (Tw hw 141 rfl)) (by decide) (by decide) (by decide)))).other W153 (Or.inr (slot_ne (t := (.object "java/lang/String")) (t' := (.array (.object "java/lang/StackTraceElement"))) (Or.inl (Tw hw 146 rfl)) (Or.inl (Tw hw 142 rfl)) (by decide) (by decide) (by decide)))).other W163 (Or.inr (slot_ne (t := (.object "java/lang/String")) (t' := (.object "java/util/List")) (Or.inl (Tw hw 146 rfl)) (Or.inl (Tw hw 143 rfl)) (by decide) (by decide) (by decide)))).ext E175).other W176 (Or.inr (slot_ne (t := (.object "java/lang/String")) (t' := (.object "java/lang/Object")) (Or.inl (Tw hw 146 rfl)) (Or.inl (Tw hw 147 rfl)) (by decide) (by decide) (by decide)))).other W177 (Or.inr (slot_ne (t := (.object "java/lang/String")) (t' := .int) (Or.inl (Tw hw 146 rfl)) (Or.inl (Tw hw 148 rfl)) (by decide) (by decide) (by decide)))).other W178 (Or.inr (slot_ne (t := (.object "java/lang/String")) (t' := (.array (.object "java/lang/StackTraceElement"))) (Or.inl (Tw hw 146 rfl)) (Or.inl (Tw hw 142 rfl)) (by decide) (by decide) (by decide))))
  have f184 := ((((f179.ext E175).wr W176).wr W177).wr W178)
  refine S174.putf (host := "") (ty := (.object "java/lang/String")) 33 (hb hby own_d_jdk_78_method_3_code_30) (Or.inl (Tw hw 89 rfl)) Via.refl f183 f184 (Or.inl (Tw hw 146 rfl)) (Tw hw 123 rfl) (by decide) (nrR hmv) (ftR hmv) (Or.inl (by simp)) (Or.inl (by decide)) ?_
  intro T185 h186 L187 S188 W189
  have f190 := f183.same W189
  refine S188.aloadN 34 (hb hby own_d_jdk_78_method_3_code_33) rfl rfl ?_
  refine S188.aloadN 35 (hb hby own_d_jdk_78_method_3_code_34) rfl hcz ?_
  have f191 := (((((((f144.other W153 (Or.inr (slot_ne (t := (.object "java/lang/Throwable")) (t' := (.array (.object "java/lang/StackTraceElement"))) (Or.inl (Tw hw 141 rfl)) (Or.inl (Tw hw 142 rfl)) (by decide) (by decide) (by decide)))).other W163 (Or.inr (slot_ne (t := (.object "java/lang/Throwable")) (t' := (.object "java/util/List")) (Or.inl (Tw hw 141 rfl)) (Or.inl (Tw hw 143 rfl)) (by decide) (by decide) (by decide)))).ext E175).other W176 (Or.inr (slot_ne (t := (.object "java/lang/Throwable")) (t' := (.object "java/lang/Object")) (Or.inl (Tw hw 141 rfl)) (Or.inl (Tw hw 147 rfl)) (by decide) (by decide) (by decide)))).other W177 (Or.inr (slot_ne (t := (.object "java/lang/Throwable")) (t' := .int) (Or.inl (Tw hw 141 rfl)) (Or.inl (Tw hw 148 rfl)) (by decide) (by decide) (by decide)))).other W178 (Or.inr (slot_ne (t := (.object "java/lang/Throwable")) (t' := (.array (.object "java/lang/StackTraceElement"))) (Or.inl (Tw hw 141 rfl)) (Or.inl (Tw hw 142 rfl)) (by decide) (by decide) (by decide)))).other W189 (Or.inr (slot_ne (t := (.object "java/lang/Throwable")) (t' := (.object "java/lang/String")) (Or.inl (Tw hw 141 rfl)) (Or.inl (Tw hw 146 rfl)) (by decide) (by decide) (by decide))))
  have f192 := (f184.wr W189)
  refine S188.putf (host := "") (ty := (.object "java/lang/Throwable")) 38 (hb hby own_d_jdk_78_method_3_code_35) (Or.inl (Tw hw 54 rfl)) Via.refl f191 f192 (Or.inl (Tw hw 141 rfl)) (Tw hw 123 rfl) (by decide) (nrR hcz) (ftR hcz) (Or.inl (by simp)) (Or.inl (by decide)) ?_
  intro T193 h194 L195 S196 W197
  have f198 := f191.same W197
  have f199 := (f192.wr W197)
  have f200 := ((((((f180.ext E175).wr W176).wr W177).wr W178).wr W189).wr W197)
  have f201 := (f190.other W197 (Or.inr (slot_ne (t := (.object "java/lang/String")) (t' := (.object "java/lang/Throwable")) (Or.inl (Tw hw 146 rfl)) (Or.inl (Tw hw 141 rfl)) (by decide) (by decide) (by decide))))
  have f202 := (((((((((gx0.other W143 (Or.inr (slot_ne (t := (.array (.object "java/lang/String"))) (t' := (.object "java/lang/Throwable")) (Or.inr (Tw hw 150 rfl)) (Or.inl (Tw hw 141 rfl)) (by decide) (by decide) (by decide)))).other W153 (Or.inr (slot_ne (t := (.array (.object "java/lang/String"))) (t' := (.array (.object "java/lang/StackTraceElement"))) (Or.inr (Tw hw 150 rfl)) (Or.inl (Tw hw 142 rfl)) (by decide) (by decide) (by decide)))).other W163 (Or.inr (slot_ne (t := (.array (.object "java/lang/String"))) (t' := (.object "java/util/List")) (Or.inr (Tw hw 150 rfl)) (Or.inl (Tw hw 143 rfl)) (by decide) (by decide) (by decide)))).ext E175).other W176 (Or.inr (slot_ne (t := (.array (.object "java/lang/String"))) (t' := (.object "java/lang/Object")) (Or.inr (Tw hw 150 rfl)) (Or.inl (Tw hw 147 rfl)) (by decide) (by decide) (by decide)))).other W177 (Or.inr (slot_ne (t := (.array (.object "java/lang/String"))) (t' := .int) (Or.inr (Tw hw 150 rfl)) (Or.inl (Tw hw 148 rfl)) (by decide) (by decide) (by decide)))).other W178 (Or.inr (slot_ne (t := (.array (.object "java/lang/String"))) (t' := (.array (.object "java/lang/StackTraceElement"))) (Or.inr (Tw hw 150 rfl)) (Or.inl (Tw hw 142 rfl)) (by decide) (by decide) (by decide)))).other W189 (Or.inr (slot_ne (t := (.array (.object "java/lang/String"))) (t' := (.object "java/lang/String")) (Or.inr (Tw hw 150 rfl)) (Or.inl (Tw hw 146 rfl)) (by decide) (by decide) (by decide)))).other W197 (Or.inr (slot_ne (t := (.array (.object "java/lang/String"))) (t' := (.object "java/lang/Throwable")) (Or.inr (Tw hw 150 rfl)) (Or.inl (Tw hw 141 rfl)) (by decide) (by decide) (by decide))))
  exact S196.ret0 (hb hby own_d_jdk_78_method_3_code_38) hret (by decide) (by decide) ⟨rfl, f199, f200, f201, f202⟩

theorem own_d_jdk_59_method_3_code_0 : decode jdk_59_method_3_code 0 = .ok (.aload_n 0, 1) := by decide +kernel
theorem own_d_jdk_59_method_3_code_1 : decode jdk_59_method_3_code 1 = .ok (.aload_n 1, 1) := by decide +kernel
theorem own_d_jdk_59_method_3_code_2 : decode jdk_59_method_3_code 2 = .ok (.aload_n 2, 1) := by decide +kernel
theorem own_d_jdk_59_method_3_code_3 : decode jdk_59_method_3_code 3 = .ok (.invokespecial 10, 3) := by decide +kernel
theorem own_pd_6 : parseMethodDescriptor "(Ljava/lang/String;Ljava/lang/Throwable;)V" = some ⟨[(.object "java/lang/String"), (.object "java/lang/Throwable")], none⟩ := by decide +kernel
theorem own_d_jdk_59_method_3_code_6 : decode jdk_59_method_3_code 6 = .ok (.return_, 1) := by decide +kernel
set_option maxRecDepth 65536 in
set_option maxHeartbeats 4000000 in
theorem own_exc_w_Exception (l : Launch) (Z : State) (a0 : Array Value) (hw : ∀ d ∈ tables_1, d.before a0 Z = true) (hl : l.stackTraces = true) (tu : Thu Z) (h0 : Heap) (n0 : Nat) (O : Old Z n0 h0) (a : Addr) (mv : Value) (hmv : mv.isRef = true) (cz : Value) (hcz : cz.isRef = true) (ge_a : n0 ≤ a) (E : Exa Z h0 a "com/example/featurewright/featurewright/io/WriteFailedException") (U : Unt h0 a) (sx0 : Fld Z h0 a "java/lang/Throwable" "cause" "Ljava/lang/Throwable;" .null) (sx1 : Fld Z h0 a "java/lang/Throwable" "stackTrace" "[Ljava/lang/StackTraceElement;" .null) (sx2 : Fld Z h0 a "java/lang/Throwable" "suppressedExceptions" "Ljava/util/List;" .null) (sx3 : Fld Z h0 a "java/lang/Throwable" "backtrace" "Ljava/lang/Object;" .null) (sx4 : Fld Z h0 a "java/lang/Throwable" "depth" "I" (.int (0 : Int32))) (sx5 : Fld Z h0 a "java/lang/Throwable" "detailMessage" "Ljava/lang/String;" .null) (gx0 : Fld Z h0 a "com/example/featurewright/featurewright/io/FeaturewrightException" "lines" "[Ljava/lang/String;" .null) :
    ConK l Z n0 (⟨"java/lang/Exception", "<init>", "(Ljava/lang/String;Ljava/lang/Throwable;)V"⟩ : MethodName) jdk_59_method_3_code 3 none [] ({ frames := 4, cells := 1, slots := 2752, locals := 56 } : Room) #[(.ref a), mv, cz] h0 [a] (fun v h' => v = none ∧ Exa Z h' a "com/example/featurewright/featurewright/io/WriteFailedException" ∧ Unt h' a ∧ Fld Z h' a "java/lang/Throwable" "detailMessage" "Ljava/lang/String;" mv ∧ Fld Z h' a "com/example/featurewright/featurewright/io/FeaturewrightException" "lines" "[Ljava/lang/String;" .null) := by
  refine ConK.of a0 (plainFor_of_name own_pn_4) O (by simp [ge_a]) [] (fun _ q => nomatch q) ?_
  intro p e s m below meth cdX T kn S hby hml hret hnm
  refine Go.cast (own_ef_5 m a mv cz (cat1 hmv) (cat1 hcz)) ?_
  refine S.aloadN 1 (hb hby own_d_jdk_59_method_3_code_0) rfl rfl ?_
  refine S.aloadN 2 (hb hby own_d_jdk_59_method_3_code_1) rfl hmv ?_
  refine S.aloadN 3 (hb hby own_d_jdk_59_method_3_code_2) rfl hcz ?_
  refine S.icall 6 (hb hby own_d_jdk_59_method_3_code_3) (by rw [hml]; rfl) rfl (Tw hw 136 rfl) (Tw hw 137 rfl) (Tw hw 140 rfl) (by decide) [mv, cz] [] (ConK.pay (W := 0) kn (own_thr_w l Z a0 hw hl tu h0 n0 S.old a mv hmv cz hcz (S.ge (Or.inl (by simp))) E U sx0 sx1 sx2 sx3 sx4 sx5 gx0) (Tw hw 140 rfl) (Tw hw 51 rfl) (by decide) (by decide)) (lenOf own_pd_6 rfl) rfl (Nle rfl) (by decide) (by decide) (Wrs.one (Or.inl (by simp)) (Or.inr ⟨_, E, by decide, by decide⟩)) ?_
  intro v203 T204 h205 L206 S207 q208 K209
  obtain ⟨rfl, f210, f211, f212, f213⟩ := q208
  show Go p e below _ T204 (mkF m 6 #[.val (.ref a), .val mv, .val cz] [])
  exact S207.ret0 (hb hby own_d_jdk_59_method_3_code_6) hret (by decide) (by decide) ⟨rfl, f210, f211, f212, f213⟩

theorem own_ef_7 (m : MethodId) (x0 : Addr) (x1 : Addr) : entryFrame m #[(.ref x0), (.ref x1)] 2 = mkF m 0 #[.val (.ref x0), .val (.ref x1)] [] := by rfl
theorem own_d_prog_27_method_1_code_0 : decode prog_27_method_1_code 0 = .ok (.aload_n 0, 1) := by decide +kernel
theorem own_d_prog_27_method_1_code_1 : decode prog_27_method_1_code 1 = .ok (.aload_n 1, 1) := by decide +kernel
theorem own_d_prog_27_method_1_code_2 : decode prog_27_method_1_code 2 = .ok (.invokespecial 1, 3) := by decide +kernel
theorem own_d_prog_27_method_1_code_5 : decode prog_27_method_1_code 5 = .ok (.aload_n 0, 1) := by decide +kernel
theorem own_d_prog_27_method_1_code_6 : decode prog_27_method_1_code 6 = .ok (.iconst 1, 1) := by decide +kernel
theorem own_d_prog_27_method_1_code_7 : decode prog_27_method_1_code 7 = .ok (.anewarray 7, 3) := by decide +kernel
theorem own_d_prog_27_method_1_code_10 : decode prog_27_method_1_code 10 = .ok (.dup, 1) := by decide +kernel
theorem own_d_prog_27_method_1_code_11 : decode prog_27_method_1_code 11 = .ok (.iconst 0, 1) := by decide +kernel
theorem own_d_prog_27_method_1_code_12 : decode prog_27_method_1_code 12 = .ok (.aload_n 1, 1) := by decide +kernel
theorem own_d_prog_27_method_1_code_13 : decode prog_27_method_1_code 13 = .ok (.aastore, 1) := by decide +kernel
theorem own_d_prog_27_method_1_code_14 : decode prog_27_method_1_code 14 = .ok (.putfield 9, 3) := by decide +kernel
theorem own_d_prog_27_method_1_code_17 : decode prog_27_method_1_code 17 = .ok (.return_, 1) := by decide +kernel
theorem own_pn_8 : plainName "com/example/featurewright/featurewright/io/FeaturewrightException" = true := by first | (simp [plainName, overriddenIn]; done) | decide +kernel
set_option maxRecDepth 65536 in
set_option maxHeartbeats 4000000 in
theorem own_fwB (l : Launch) (Z : State) (a0 : Array Value) (hw : ∀ d ∈ tables_1, d.before a0 Z = true) (hl : l.stackTraces = true) (tu : Thu Z) (h0 : Heap) (n0 : Nat) (O : Old Z n0 h0) (a : Addr) (q : Addr) (ge_a : n0 ≤ a) (E : Exa Z h0 a "com/example/featurewright/featurewright/io/BadInputException") (U : Unt h0 a) (sx0 : Fld Z h0 a "java/lang/Throwable" "cause" "Ljava/lang/Throwable;" .null) (sx1 : Fld Z h0 a "java/lang/Throwable" "stackTrace" "[Ljava/lang/StackTraceElement;" .null) (sx2 : Fld Z h0 a "java/lang/Throwable" "suppressedExceptions" "Ljava/util/List;" .null) (sx3 : Fld Z h0 a "java/lang/Throwable" "backtrace" "Ljava/lang/Object;" .null) (sx4 : Fld Z h0 a "java/lang/Throwable" "depth" "I" (.int (0 : Int32))) (sx5 : Fld Z h0 a "java/lang/Throwable" "detailMessage" "Ljava/lang/String;" .null) (gx0 : Fld Z h0 a "com/example/featurewright/featurewright/io/FeaturewrightException" "lines" "[Ljava/lang/String;" .null) (Es : Exa Z h0 q "java/lang/String") (na : q ≠ a) :
    ConK l Z n0 (⟨"com/example/featurewright/featurewright/io/FeaturewrightException", "<init>", "(Ljava/lang/String;)V"⟩ : MethodName) prog_27_method_1_code 2 none [] ({ frames := 5, cells := 2, slots := 2753, locals := 70 } : Room) #[(.ref a), (.ref q)] h0 [a] (fun v h' => v = none ∧ Exa Z h' a "com/example/featurewright/featurewright/io/BadInputException") := by
  refine ConK.of a0 (plainFor_of_name own_pn_8) O (by simp [ge_a]) [] (fun _ q => nomatch q) ?_
  intro p e s m below meth cdX T kn S hby hml hret hnm
  refine Go.cast (own_ef_7 m a q) ?_
  refine S.aloadN 1 (hb hby own_d_prog_27_method_1_code_0) rfl rfl ?_
  refine S.aloadN 2 (hb hby own_d_prog_27_method_1_code_1) rfl rfl ?_
  refine S.icall 5 (hb hby own_d_prog_27_method_1_code_2) (by rw [hml]; rfl) rfl (Tw hw 42 rfl) (Tw hw 43 rfl) (Tw hw 46 rfl) (by decide) [(.ref q)] [] (ConK.pay (W := 0) kn (own_exc_b_Exception l Z a0 hw hl tu h0 n0 S.old a (.ref q) rfl (S.ge (Or.inl (by simp))) E U sx0 sx1 sx2 sx3 sx4 sx5 gx0) (Tw hw 46 rfl) (Tw hw 45 rfl) (by decide) (by decide)) (lenOf own_pd_3 rfl) rfl (Nle rfl) (by decide) (by decide) (Wrs.one (Or.inl (by simp)) (Or.inr ⟨_, E, by decide, by decide⟩)) ?_
  intro v214 T215 h216 L217 S218 q219 K220
  obtain ⟨rfl, f221, f222, f223, f224⟩ := q219
  show Go p e below _ T215 (mkF m 5 #[.val (.ref a), .val (.ref q)] [])
  refine S218.aloadN 6 (hb hby own_d_prog_27_method_1_code_5) rfl rfl ?_
  refine S218.iconst 7 (1 : Int32) (hb hby own_d_prog_27_method_1_code_6) ?_
  refine S218.newref 10 1 (hb hby own_d_prog_27_method_1_code_7) (Tw hw 90 rfl) (Tw hw 91 rfl) (by decide) (by decide) (by decide) (by decide) (by decide) ?_
  intro T225 h226 b227 k228 S229 E230 g231 wo232 A233 O234
  have f235 := (Es.keep K220)
  have l236 : q < b227 := (by rw [g231]; exact f235.lt)
  have l237 : a < b227 := (by rw [g231]; exact f221.lt)
  have f238 : Arv Z h226 b227 k228 (.object "java/lang/String") (1 : Int32) [.null] .null := A233.pad (pad_rep [] .null 1)
  refine S229.dup 11 (hb hby own_d_prog_27_method_1_code_10) rfl ?_
  refine S229.iconst 12 (0 : Int32) (hb hby own_d_prog_27_method_1_code_11) ?_
  refine S229.aloadN 13 (hb hby own_d_prog_27_method_1_code_12) rfl rfl ?_
  have f245 := (f235.ext E230)
  refine S229.aastore 14 0 (hb hby own_d_prog_27_method_1_code_13) f238 O234 (Ins.self f245) ⟨by decide, by decide⟩ rfl (Nle rfl) wo232 ?_
  intro T239 h240 L241 S242 W243 A244
  have f246 := ((f224.ext E230).other W243 (Or.inl (Nat.ne_of_lt l237)))
  have f247 := ((f221.ext E230).wr W243)
  refine S242.putf (host := "") (ty := (.array (.object "java/lang/String"))) 17 (hb hby own_d_prog_27_method_1_code_14) (Or.inl (Tw hw 92 rfl)) Via.refl f246 f247 (Or.inr ⟨(Tw hw 93 rfl), rfl, hnm⟩) (Tw hw 32 rfl) (by decide) rfl rfl (Or.inl (by simp)) (Or.inl (by decide)) ?_
  intro T248 h249 L250 S251 W252
  have f253 := f246.same W252
  have f254 := (f247.wr W252)
  exact S251.ret0 (hb hby own_d_prog_27_method_1_code_17) hret (by decide) (by decide) ⟨rfl, f254⟩


set_option maxRecDepth 65536 in
set_option maxHeartbeats 4000000 in
theorem own_fwR (l : Launch) (Z : State) (a0 : Array Value) (hw : ∀ d ∈ tables_1, d.before a0 Z = true) (hl : l.stackTraces = true) (tu : Thu Z) (h0 : Heap) (n0 : Nat) (O : Old Z n0 h0) (a : Addr) (q : Addr) (ge_a : n0 ≤ a) (E : Exa Z h0 a "com/example/featurewright/featurewright/io/RefusedException") (U : Unt h0 a) (sx0 : Fld Z h0 a "java/lang/Throwable" "cause" "Ljava/lang/Throwable;" .null) (sx1 : Fld Z h0 a "java/lang/Throwable" "stackTrace" "[Ljava/lang/StackTraceElement;" .null) (sx2 : Fld Z h0 a "java/lang/Throwable" "suppressedExceptions" "Ljava/util/List;" .null) (sx3 : Fld Z h0 a "java/lang/Throwable" "backtrace" "Ljava/lang/Object;" .null) (sx4 : Fld Z h0 a "java/lang/Throwable" "depth" "I" (.int (0 : Int32))) (sx5 : Fld Z h0 a "java/lang/Throwable" "detailMessage" "Ljava/lang/String;" .null) (gx0 : Fld Z h0 a "com/example/featurewright/featurewright/io/FeaturewrightException" "lines" "[Ljava/lang/String;" .null) (Es : Exa Z h0 q "java/lang/String") (na : q ≠ a) :
    ConK l Z n0 (⟨"com/example/featurewright/featurewright/io/FeaturewrightException", "<init>", "(Ljava/lang/String;)V"⟩ : MethodName) prog_27_method_1_code 2 none [] ({ frames := 5, cells := 2, slots := 2753, locals := 70 } : Room) #[(.ref a), (.ref q)] h0 [a] (fun v h' => v = none ∧ Exa Z h' a "com/example/featurewright/featurewright/io/RefusedException") := by
  refine ConK.of a0 (plainFor_of_name own_pn_8) O (by simp [ge_a]) [] (fun _ q => nomatch q) ?_
  intro p e s m below meth cdX T kn S hby hml hret hnm
  refine Go.cast (own_ef_7 m a q) ?_
  refine S.aloadN 1 (hb hby own_d_prog_27_method_1_code_0) rfl rfl ?_
  refine S.aloadN 2 (hb hby own_d_prog_27_method_1_code_1) rfl rfl ?_
  refine S.icall 5 (hb hby own_d_prog_27_method_1_code_2) (by rw [hml]; rfl) rfl (Tw hw 42 rfl) (Tw hw 43 rfl) (Tw hw 46 rfl) (by decide) [(.ref q)] [] (ConK.pay (W := 0) kn (own_exc_f_Exception l Z a0 hw hl tu h0 n0 S.old a (.ref q) rfl (S.ge (Or.inl (by simp))) E U sx0 sx1 sx2 sx3 sx4 sx5 gx0) (Tw hw 46 rfl) (Tw hw 45 rfl) (by decide) (by decide)) (lenOf own_pd_3 rfl) rfl (Nle rfl) (by decide) (by decide) (Wrs.one (Or.inl (by simp)) (Or.inr ⟨_, E, by decide, by decide⟩)) ?_
  intro v255 T256 h257 L258 S259 q260 K261
  obtain ⟨rfl, f262, f263, f264, f265⟩ := q260
  show Go p e below _ T256 (mkF m 5 #[.val (.ref a), .val (.ref q)] [])
  refine S259.aloadN 6 (hb hby own_d_prog_27_method_1_code_5) rfl rfl ?_
  refine S259.iconst 7 (1 : Int32) (hb hby own_d_prog_27_method_1_code_6) ?_
  refine S259.newref 10 1 (hb hby own_d_prog_27_method_1_code_7) (Tw hw 90 rfl) (Tw hw 91 rfl) (by decide) (by decide) (by decide) (by decide) (by decide) ?_
  intro T266 h267 b268 k269 S270 E271 g272 wo273 A274 O275
  have f276 := (Es.keep K261)
  have l277 : q < b268 := (by rw [g272]; exact f276.lt)
  have l278 : a < b268 := (by rw [g272]; exact f262.lt)
  have f279 : Arv Z h267 b268 k269 (.object "java/lang/String") (1 : Int32) [.null] .null := A274.pad (pad_rep [] .null 1)
  refine S270.dup 11 (hb hby own_d_prog_27_method_1_code_10) rfl ?_
  refine S270.iconst 12 (0 : Int32) (hb hby own_d_prog_27_method_1_code_11) ?_
  refine S270.aloadN 13 (hb hby own_d_prog_27_method_1_code_12) rfl rfl ?_
  have f286 := (f276.ext E271)
  refine S270.aastore 14 0 (hb hby own_d_prog_27_method_1_code_13) f279 O275 (Ins.self f286) ⟨by decide, by decide⟩ rfl (Nle rfl) wo273 ?_
  intro T280 h281 L282 S283 W284 A285
  have f287 := ((f265.ext E271).other W284 (Or.inl (Nat.ne_of_lt l278)))
  have f288 := ((f262.ext E271).wr W284)
  refine S283.putf (host := "") (ty := (.array (.object "java/lang/String"))) 17 (hb hby own_d_prog_27_method_1_code_14) (Or.inl (Tw hw 92 rfl)) Via.refl f287 f288 (Or.inr ⟨(Tw hw 116 rfl), rfl, hnm⟩) (Tw hw 100 rfl) (by decide) rfl rfl (Or.inl (by simp)) (Or.inl (by decide)) ?_
  intro T289 h290 L291 S292 W293
  have f294 := f287.same W293
  have f295 := (f288.wr W293)
  exact S292.ret0 (hb hby own_d_prog_27_method_1_code_17) hret (by decide) (by decide) ⟨rfl, f295⟩

theorem own_ef_9 (m : MethodId) (x0 : Addr) (x1 : Addr) : entryFrame m #[(.ref x0), (.ref x1), .null] 3 = mkF m 0 #[.val (.ref x0), .val (.ref x1), .val .null] [] := by rfl
theorem own_d_prog_27_method_2_code_0 : decode prog_27_method_2_code 0 = .ok (.aload_n 0, 1) := by decide +kernel
theorem own_d_prog_27_method_2_code_1 : decode prog_27_method_2_code 1 = .ok (.aload_n 1, 1) := by decide +kernel
theorem own_d_prog_27_method_2_code_2 : decode prog_27_method_2_code 2 = .ok (.aload_n 2, 1) := by decide +kernel
theorem own_d_prog_27_method_2_code_3 : decode prog_27_method_2_code 3 = .ok (.invokespecial 15, 3) := by decide +kernel
theorem own_d_prog_27_method_2_code_6 : decode prog_27_method_2_code 6 = .ok (.aload_n 0, 1) := by decide +kernel
theorem own_d_prog_27_method_2_code_7 : decode prog_27_method_2_code 7 = .ok (.iconst 1, 1) := by decide +kernel
theorem own_d_prog_27_method_2_code_8 : decode prog_27_method_2_code 8 = .ok (.anewarray 7, 3) := by decide +kernel
theorem own_d_prog_27_method_2_code_11 : decode prog_27_method_2_code 11 = .ok (.dup, 1) := by decide +kernel
theorem own_d_prog_27_method_2_code_12 : decode prog_27_method_2_code 12 = .ok (.iconst 0, 1) := by decide +kernel
theorem own_d_prog_27_method_2_code_13 : decode prog_27_method_2_code 13 = .ok (.aload_n 1, 1) := by decide +kernel
theorem own_d_prog_27_method_2_code_14 : decode prog_27_method_2_code 14 = .ok (.aastore, 1) := by decide +kernel
theorem own_d_prog_27_method_2_code_15 : decode prog_27_method_2_code 15 = .ok (.putfield 9, 3) := by decide +kernel
theorem own_d_prog_27_method_2_code_18 : decode prog_27_method_2_code 18 = .ok (.return_, 1) := by decide +kernel
set_option maxRecDepth 65536 in
set_option maxHeartbeats 4000000 in
theorem own_fwW (l : Launch) (Z : State) (a0 : Array Value) (hw : ∀ d ∈ tables_1, d.before a0 Z = true) (hl : l.stackTraces = true) (tu : Thu Z) (h0 : Heap) (n0 : Nat) (O : Old Z n0 h0) (a : Addr) (q : Addr) (ge_a : n0 ≤ a) (E : Exa Z h0 a "com/example/featurewright/featurewright/io/WriteFailedException") (U : Unt h0 a) (sx0 : Fld Z h0 a "java/lang/Throwable" "cause" "Ljava/lang/Throwable;" .null) (sx1 : Fld Z h0 a "java/lang/Throwable" "stackTrace" "[Ljava/lang/StackTraceElement;" .null) (sx2 : Fld Z h0 a "java/lang/Throwable" "suppressedExceptions" "Ljava/util/List;" .null) (sx3 : Fld Z h0 a "java/lang/Throwable" "backtrace" "Ljava/lang/Object;" .null) (sx4 : Fld Z h0 a "java/lang/Throwable" "depth" "I" (.int (0 : Int32))) (sx5 : Fld Z h0 a "java/lang/Throwable" "detailMessage" "Ljava/lang/String;" .null) (gx0 : Fld Z h0 a "com/example/featurewright/featurewright/io/FeaturewrightException" "lines" "[Ljava/lang/String;" .null) (Es : Exa Z h0 q "java/lang/String") (na : q ≠ a) :
    ConK l Z n0 (⟨"com/example/featurewright/featurewright/io/FeaturewrightException", "<init>", "(Ljava/lang/String;Ljava/lang/Throwable;)V"⟩ : MethodName) prog_27_method_2_code 3 none [] ({ frames := 5, cells := 2, slots := 2753, locals := 70 } : Room) #[(.ref a), (.ref q), .null] h0 [a] (fun v h' => v = none ∧ Exa Z h' a "com/example/featurewright/featurewright/io/WriteFailedException") := by
  refine ConK.of a0 (plainFor_of_name own_pn_8) O (by simp [ge_a]) [] (fun _ q => nomatch q) ?_
  intro p e s m below meth cdX T kn S hby hml hret hnm
  refine Go.cast (own_ef_9 m a q) ?_
  refine S.aloadN 1 (hb hby own_d_prog_27_method_2_code_0) rfl rfl ?_
  refine S.aloadN 2 (hb hby own_d_prog_27_method_2_code_1) rfl rfl ?_
  refine S.aloadN 3 (hb hby own_d_prog_27_method_2_code_2) rfl rfl ?_
  refine S.icall 6 (hb hby own_d_prog_27_method_2_code_3) (by rw [hml]; rfl) rfl (Tw hw 132 rfl) (Tw hw 133 rfl) (Tw hw 135 rfl) (by decide) [(.ref q), .null] [] (ConK.pay (W := 0) kn (own_exc_w_Exception l Z a0 hw hl tu h0 n0 S.old a (.ref q) rfl .null rfl (S.ge (Or.inl (by simp))) E U sx0 sx1 sx2 sx3 sx4 sx5 gx0) (Tw hw 135 rfl) (Tw hw 45 rfl) (by decide) (by decide)) (lenOf own_pd_6 rfl) rfl (Nle rfl) (by decide) (by decide) (Wrs.one (Or.inl (by simp)) (Or.inr ⟨_, E, by decide, by decide⟩)) ?_
  intro v296 T297 h298 L299 S300 q301 K302
  obtain ⟨rfl, f303, f304, f305, f306⟩ := q301
  show Go p e below _ T297 (mkF m 6 #[.val (.ref a), .val (.ref q), .val .null] [])
  refine S300.aloadN 7 (hb hby own_d_prog_27_method_2_code_6) rfl rfl ?_
  refine S300.iconst 8 (1 : Int32) (hb hby own_d_prog_27_method_2_code_7) ?_
  refine S300.newref 11 1 (hb hby own_d_prog_27_method_2_code_8) (Tw hw 90 rfl) (Tw hw 91 rfl) (by decide) (by decide) (by decide) (by decide) (by decide) ?_
  intro T307 h308 b309 k310 S311 E312 g313 wo314 A315 O316
  have f317 := (Es.keep K302)
  have l318 : q < b309 := (by rw [g313]; exact f317.lt)
  have l319 : a < b309 := (by rw [g313]; exact f303.lt)
  have f320 : Arv Z h308 b309 k310 (.object "java/lang/String") (1 : Int32) [.null] .null := A315.pad (pad_rep [] .null 1)
  refine S311.dup 12 (hb hby own_d_prog_27_method_2_code_11) rfl ?_
  refine S311.iconst 13 (0 : Int32) (hb hby own_d_prog_27_method_2_code_12) ?_
  refine S311.aloadN 14 (hb hby own_d_prog_27_method_2_code_13) rfl rfl ?_
  have f327 := (f317.ext E312)
  refine S311.aastore 15 0 (hb hby own_d_prog_27_method_2_code_14) f320 O316 (Ins.self f327) ⟨by decide, by decide⟩ rfl (Nle rfl) wo314 ?_
  intro T321 h322 L323 S324 W325 A326
  have f328 := ((f306.ext E312).other W325 (Or.inl (Nat.ne_of_lt l319)))
  have f329 := ((f303.ext E312).wr W325)
  refine S324.putf (host := "") (ty := (.array (.object "java/lang/String"))) 18 (hb hby own_d_prog_27_method_2_code_15) (Or.inl (Tw hw 92 rfl)) Via.refl f328 f329 (Or.inr ⟨(Tw hw 150 rfl), rfl, hnm⟩) (Tw hw 123 rfl) (by decide) rfl rfl (Or.inl (by simp)) (Or.inl (by decide)) ?_
  intro T330 h331 L332 S333 W334
  have f335 := f328.same W334
  have f336 := (f329.wr W334)
  exact S333.ret0 (hb hby own_d_prog_27_method_2_code_18) hret (by decide) (by decide) ⟨rfl, f336⟩

theorem own_d_prog_17_method_1_code_0 : decode prog_17_method_1_code 0 = .ok (.aload_n 0, 1) := by decide +kernel
theorem own_d_prog_17_method_1_code_1 : decode prog_17_method_1_code 1 = .ok (.aload_n 1, 1) := by decide +kernel
theorem own_d_prog_17_method_1_code_2 : decode prog_17_method_1_code 2 = .ok (.invokespecial 1, 3) := by decide +kernel
theorem own_d_prog_17_method_1_code_5 : decode prog_17_method_1_code 5 = .ok (.return_, 1) := by decide +kernel
theorem own_pn_10 : plainName "com/example/featurewright/featurewright/io/BadInputException" = true := by first | (simp [plainName, overriddenIn]; done) | decide +kernel
set_option maxRecDepth 65536 in
set_option maxHeartbeats 4000000 in
theorem own_bad (l : Launch) (Z : State) (a0 : Array Value) (hw : ∀ d ∈ tables_1, d.before a0 Z = true) (hl : l.stackTraces = true) (tu : Thu Z) (h0 : Heap) (n0 : Nat) (O : Old Z n0 h0) (a : Addr) (q : Addr) (ge_a : n0 ≤ a) (E : Exa Z h0 a "com/example/featurewright/featurewright/io/BadInputException") (U : Unt h0 a) (sx0 : Fld Z h0 a "java/lang/Throwable" "cause" "Ljava/lang/Throwable;" .null) (sx1 : Fld Z h0 a "java/lang/Throwable" "stackTrace" "[Ljava/lang/StackTraceElement;" .null) (sx2 : Fld Z h0 a "java/lang/Throwable" "suppressedExceptions" "Ljava/util/List;" .null) (sx3 : Fld Z h0 a "java/lang/Throwable" "backtrace" "Ljava/lang/Object;" .null) (sx4 : Fld Z h0 a "java/lang/Throwable" "depth" "I" (.int (0 : Int32))) (sx5 : Fld Z h0 a "java/lang/Throwable" "detailMessage" "Ljava/lang/String;" .null) (gx0 : Fld Z h0 a "com/example/featurewright/featurewright/io/FeaturewrightException" "lines" "[Ljava/lang/String;" .null) (Es : Exa Z h0 q "java/lang/String") (na : q ≠ a) :
    ConK l Z n0 (⟨"com/example/featurewright/featurewright/io/BadInputException", "<init>", "(Ljava/lang/String;)V"⟩ : MethodName) prog_17_method_1_code 2 none [] ({ frames := 6, cells := 2, slots := 2753, locals := 90 } : Room) #[(.ref a), (.ref q)] h0 [a] (fun v h' => v = none ∧ Exa Z h' a "com/example/featurewright/featurewright/io/BadInputException") := by
  refine ConK.of a0 (plainFor_of_name own_pn_10) O (by simp [ge_a]) [] (fun _ q => nomatch q) ?_
  intro p e s m below meth cdX T kn S hby hml hret hnm
  refine Go.cast (own_ef_7 m a q) ?_
  refine S.aloadN 1 (hb hby own_d_prog_17_method_1_code_0) rfl rfl ?_
  refine S.aloadN 2 (hb hby own_d_prog_17_method_1_code_1) rfl rfl ?_
  refine S.icall 5 (hb hby own_d_prog_17_method_1_code_2) (by rw [hml]; rfl) rfl (Tw hw 37 rfl) (Tw hw 38 rfl) (Tw hw 41 rfl) (by decide) [(.ref q)] [] (ConK.pay (W := 0) kn (own_fwB l Z a0 hw hl tu h0 n0 S.old a q ge_a E U sx0 sx1 sx2 sx3 sx4 sx5 gx0 Es na) (Tw hw 41 rfl) (Tw hw 40 rfl) (by decide) (by decide)) (lenOf own_pd_3 rfl) rfl (Nle rfl) (by decide) (by decide) (Wrs.one (Or.inl (by simp)) (Or.inr ⟨_, E, by decide, by decide⟩)) ?_
  intro v337 T338 h339 L340 S341 q342 K343
  obtain ⟨rfl, gg⟩ := q342
  show Go p e below _ T338 (mkF m 5 #[.val (.ref a), .val (.ref q)] [])
  exact S341.ret0 (hb hby own_d_prog_17_method_1_code_5) hret (by decide) (by decide) ⟨rfl, gg⟩

theorem own_d_prog_39_method_1_code_0 : decode prog_39_method_1_code 0 = .ok (.aload_n 0, 1) := by decide +kernel
theorem own_d_prog_39_method_1_code_1 : decode prog_39_method_1_code 1 = .ok (.aload_n 1, 1) := by decide +kernel
theorem own_d_prog_39_method_1_code_2 : decode prog_39_method_1_code 2 = .ok (.invokespecial 1, 3) := by decide +kernel
theorem own_d_prog_39_method_1_code_5 : decode prog_39_method_1_code 5 = .ok (.return_, 1) := by decide +kernel
theorem own_pn_11 : plainName "com/example/featurewright/featurewright/io/RefusedException" = true := by first | (simp [plainName, overriddenIn]; done) | decide +kernel
set_option maxRecDepth 65536 in
set_option maxHeartbeats 4000000 in
theorem own_ref (l : Launch) (Z : State) (a0 : Array Value) (hw : ∀ d ∈ tables_1, d.before a0 Z = true) (hl : l.stackTraces = true) (tu : Thu Z) (h0 : Heap) (n0 : Nat) (O : Old Z n0 h0) (a : Addr) (q : Addr) (ge_a : n0 ≤ a) (E : Exa Z h0 a "com/example/featurewright/featurewright/io/RefusedException") (U : Unt h0 a) (sx0 : Fld Z h0 a "java/lang/Throwable" "cause" "Ljava/lang/Throwable;" .null) (sx1 : Fld Z h0 a "java/lang/Throwable" "stackTrace" "[Ljava/lang/StackTraceElement;" .null) (sx2 : Fld Z h0 a "java/lang/Throwable" "suppressedExceptions" "Ljava/util/List;" .null) (sx3 : Fld Z h0 a "java/lang/Throwable" "backtrace" "Ljava/lang/Object;" .null) (sx4 : Fld Z h0 a "java/lang/Throwable" "depth" "I" (.int (0 : Int32))) (sx5 : Fld Z h0 a "java/lang/Throwable" "detailMessage" "Ljava/lang/String;" .null) (gx0 : Fld Z h0 a "com/example/featurewright/featurewright/io/FeaturewrightException" "lines" "[Ljava/lang/String;" .null) (Es : Exa Z h0 q "java/lang/String") (na : q ≠ a) :
    ConK l Z n0 (⟨"com/example/featurewright/featurewright/io/RefusedException", "<init>", "(Ljava/lang/String;)V"⟩ : MethodName) prog_39_method_1_code 2 none [] ({ frames := 6, cells := 2, slots := 2753, locals := 90 } : Room) #[(.ref a), (.ref q)] h0 [a] (fun v h' => v = none ∧ Exa Z h' a "com/example/featurewright/featurewright/io/RefusedException") := by
  refine ConK.of a0 (plainFor_of_name own_pn_11) O (by simp [ge_a]) [] (fun _ q => nomatch q) ?_
  intro p e s m below meth cdX T kn S hby hml hret hnm
  refine Go.cast (own_ef_7 m a q) ?_
  refine S.aloadN 1 (hb hby own_d_prog_39_method_1_code_0) rfl rfl ?_
  refine S.aloadN 2 (hb hby own_d_prog_39_method_1_code_1) rfl rfl ?_
  refine S.icall 5 (hb hby own_d_prog_39_method_1_code_2) (by rw [hml]; rfl) rfl (Tw hw 105 rfl) (Tw hw 38 rfl) (Tw hw 41 rfl) (by decide) [(.ref q)] [] (ConK.pay (W := 0) kn (own_fwR l Z a0 hw hl tu h0 n0 S.old a q ge_a E U sx0 sx1 sx2 sx3 sx4 sx5 gx0 Es na) (Tw hw 41 rfl) (Tw hw 40 rfl) (by decide) (by decide)) (lenOf own_pd_3 rfl) rfl (Nle rfl) (by decide) (by decide) (Wrs.one (Or.inl (by simp)) (Or.inr ⟨_, E, by decide, by decide⟩)) ?_
  intro v344 T345 h346 L347 S348 q349 K350
  obtain ⟨rfl, gg⟩ := q349
  show Go p e below _ T345 (mkF m 5 #[.val (.ref a), .val (.ref q)] [])
  exact S348.ret0 (hb hby own_d_prog_39_method_1_code_5) hret (by decide) (by decide) ⟨rfl, gg⟩

theorem own_d_prog_65_method_1_code_0 : decode prog_65_method_1_code 0 = .ok (.aload_n 0, 1) := by decide +kernel
theorem own_d_prog_65_method_1_code_1 : decode prog_65_method_1_code 1 = .ok (.aload_n 1, 1) := by decide +kernel
theorem own_d_prog_65_method_1_code_2 : decode prog_65_method_1_code 2 = .ok (.aload_n 2, 1) := by decide +kernel
theorem own_d_prog_65_method_1_code_3 : decode prog_65_method_1_code 3 = .ok (.invokespecial 1, 3) := by decide +kernel
theorem own_d_prog_65_method_1_code_6 : decode prog_65_method_1_code 6 = .ok (.return_, 1) := by decide +kernel
theorem own_pn_12 : plainName "com/example/featurewright/featurewright/io/WriteFailedException" = true := by first | (simp [plainName, overriddenIn]; done) | decide +kernel
set_option maxRecDepth 65536 in
set_option maxHeartbeats 4000000 in
theorem own_wrf (l : Launch) (Z : State) (a0 : Array Value) (hw : ∀ d ∈ tables_1, d.before a0 Z = true) (hl : l.stackTraces = true) (tu : Thu Z) (h0 : Heap) (n0 : Nat) (O : Old Z n0 h0) (a : Addr) (q : Addr) (ge_a : n0 ≤ a) (E : Exa Z h0 a "com/example/featurewright/featurewright/io/WriteFailedException") (U : Unt h0 a) (sx0 : Fld Z h0 a "java/lang/Throwable" "cause" "Ljava/lang/Throwable;" .null) (sx1 : Fld Z h0 a "java/lang/Throwable" "stackTrace" "[Ljava/lang/StackTraceElement;" .null) (sx2 : Fld Z h0 a "java/lang/Throwable" "suppressedExceptions" "Ljava/util/List;" .null) (sx3 : Fld Z h0 a "java/lang/Throwable" "backtrace" "Ljava/lang/Object;" .null) (sx4 : Fld Z h0 a "java/lang/Throwable" "depth" "I" (.int (0 : Int32))) (sx5 : Fld Z h0 a "java/lang/Throwable" "detailMessage" "Ljava/lang/String;" .null) (gx0 : Fld Z h0 a "com/example/featurewright/featurewright/io/FeaturewrightException" "lines" "[Ljava/lang/String;" .null) (Es : Exa Z h0 q "java/lang/String") (na : q ≠ a) :
    ConK l Z n0 (⟨"com/example/featurewright/featurewright/io/WriteFailedException", "<init>", "(Ljava/lang/String;Ljava/lang/Throwable;)V"⟩ : MethodName) prog_65_method_1_code 3 none [] ({ frames := 6, cells := 2, slots := 2753, locals := 90 } : Room) #[(.ref a), (.ref q), .null] h0 [a] (fun v h' => v = none ∧ Exa Z h' a "com/example/featurewright/featurewright/io/WriteFailedException") := by
  refine ConK.of a0 (plainFor_of_name own_pn_12) O (by simp [ge_a]) [] (fun _ q => nomatch q) ?_
  intro p e s m below meth cdX T kn S hby hml hret hnm
  refine Go.cast (own_ef_9 m a q) ?_
  refine S.aloadN 1 (hb hby own_d_prog_65_method_1_code_0) rfl rfl ?_
  refine S.aloadN 2 (hb hby own_d_prog_65_method_1_code_1) rfl rfl ?_
  refine S.aloadN 3 (hb hby own_d_prog_65_method_1_code_2) rfl rfl ?_
  refine S.icall 6 (hb hby own_d_prog_65_method_1_code_3) (by rw [hml]; rfl) rfl (Tw hw 128 rfl) (Tw hw 129 rfl) (Tw hw 131 rfl) (by decide) [(.ref q), .null] [] (ConK.pay (W := 0) kn (own_fwW l Z a0 hw hl tu h0 n0 S.old a q ge_a E U sx0 sx1 sx2 sx3 sx4 sx5 gx0 Es na) (Tw hw 131 rfl) (Tw hw 40 rfl) (by decide) (by decide)) (lenOf own_pd_6 rfl) rfl (Nle rfl) (by decide) (by decide) (Wrs.one (Or.inl (by simp)) (Or.inr ⟨_, E, by decide, by decide⟩)) ?_
  intro v351 T352 h353 L354 S355 q356 K357
  obtain ⟨rfl, gg⟩ := q356
  show Go p e below _ T352 (mkF m 6 #[.val (.ref a), .val (.ref q), .val .null] [])
  exact S355.ret0 (hb hby own_d_prog_65_method_1_code_6) hret (by decide) (by decide) ⟨rfl, gg⟩

theorem own_ef_13 (m : MethodId) (x0 : Addr) : entryFrame m #[(.ref x0)] 2 = mkF m 0 #[.val (.ref x0), .unset] [] := by rfl
theorem own_d_prog_5_method_2_code_0 : decode prog_5_method_2_code 0 = .ok (.aload_n 0, 1) := by decide +kernel
theorem own_d_prog_5_method_2_code_1 : decode prog_5_method_2_code 1 = .ok (.instanceof 7, 3) := by decide +kernel
theorem own_d_prog_5_method_2_code_4 : decode prog_5_method_2_code 4 = .ok (.ifCond .eq 8, 3) := by decide +kernel
theorem own_d_prog_5_method_2_code_7 : decode prog_5_method_2_code 7 = .ok (.iconst 2, 1) := by decide +kernel
theorem own_d_prog_5_method_2_code_8 : decode prog_5_method_2_code 8 = .ok (.istore_n 1, 1) := by decide +kernel
theorem own_d_prog_5_method_2_code_9 : decode prog_5_method_2_code 9 = .ok (.goto 17, 3) := by decide +kernel
theorem own_d_prog_5_method_2_code_26 : decode prog_5_method_2_code 26 = .ok (.iload_n 1, 1) := by decide +kernel
theorem own_d_prog_5_method_2_code_27 : decode prog_5_method_2_code 27 = .ok (.ireturn, 1) := by decide +kernel
theorem own_pn_14 : plainName "com/example/featurewright/featurewright/cli/ExitCode" = true := by first | (simp [plainName, overriddenIn]; done) | decide +kernel
set_option maxRecDepth 65536 in
set_option maxHeartbeats 4000000 in
theorem own_ofB (l : Launch) (Z : State) (a0 : Array Value) (hw : ∀ d ∈ tables_1, d.before a0 Z = true) (h0 : Heap) (n0 : Nat) (O : Old Z n0 h0) (a : Addr) (E : Exa Z h0 a "com/example/featurewright/featurewright/io/BadInputException") :
    Con l Z n0 (⟨"com/example/featurewright/featurewright/cli/ExitCode", "of", "(Lcom/example/featurewright/featurewright/io/FeaturewrightException;)I"⟩ : MethodName) prog_5_method_2_code 2 (some .int) [] ({ frames := 0, cells := 0, slots := 0, locals := 0 } : Room) #[(.ref a)] h0 [] (fun v h' => v = some (.int 2) ∧ h' = h0) := by
  refine Con.of a0 (plainFor_of_name own_pn_14) O (fun _ q => nomatch q) [] (fun _ q => nomatch q) ?_
  intro p e s m below meth cdX T S hby hml hret hnm
  refine Go.cast (own_ef_13 m a) ?_
  refine S.aloadN 1 (hb hby own_d_prog_5_method_2_code_0) rfl rfl ?_
  refine S.instY 4 (hb hby own_d_prog_5_method_2_code_1) (Tw hw 98 rfl) (Ins.self E) ?_
  intro T358 S359
  refine S359.ifN 7 (hb hby own_d_prog_5_method_2_code_4) (zEqF (by decide)) ?_
  refine S359.iconst 8 (2 : Int32) (hb hby own_d_prog_5_method_2_code_7) ?_
  refine S359.istoreN 9 #[.val (.ref a), .val (.int (2 : Int32))] (hb hby own_d_prog_5_method_2_code_8) rfl ?_
  refine S359.goto 26 (hb hby own_d_prog_5_method_2_code_9) ?_
  refine S359.iloadN 27 (hb hby own_d_prog_5_method_2_code_26) rfl ?_
  exact S359.retI (hb hby own_d_prog_5_method_2_code_27) hret (by decide) (by decide) ⟨rfl, rfl⟩

theorem own_d_prog_5_method_2_code_12 : decode prog_5_method_2_code 12 = .ok (.aload_n 0, 1) := by decide +kernel
theorem own_d_prog_5_method_2_code_13 : decode prog_5_method_2_code 13 = .ok (.instanceof 11, 3) := by decide +kernel
theorem own_d_prog_5_method_2_code_16 : decode prog_5_method_2_code 16 = .ok (.ifCond .eq 8, 3) := by decide +kernel
theorem own_d_prog_5_method_2_code_19 : decode prog_5_method_2_code 19 = .ok (.iconst 3, 1) := by decide +kernel
theorem own_d_prog_5_method_2_code_20 : decode prog_5_method_2_code 20 = .ok (.istore_n 1, 1) := by decide +kernel
theorem own_d_prog_5_method_2_code_21 : decode prog_5_method_2_code 21 = .ok (.goto 5, 3) := by decide +kernel
set_option maxRecDepth 65536 in
set_option maxHeartbeats 4000000 in
theorem own_ofR (l : Launch) (Z : State) (a0 : Array Value) (hw : ∀ d ∈ tables_1, d.before a0 Z = true) (h0 : Heap) (n0 : Nat) (O : Old Z n0 h0) (a : Addr) (E : Exa Z h0 a "com/example/featurewright/featurewright/io/RefusedException") :
    Con l Z n0 (⟨"com/example/featurewright/featurewright/cli/ExitCode", "of", "(Lcom/example/featurewright/featurewright/io/FeaturewrightException;)I"⟩ : MethodName) prog_5_method_2_code 2 (some .int) [] ({ frames := 0, cells := 0, slots := 0, locals := 0 } : Room) #[(.ref a)] h0 [] (fun v h' => v = some (.int 3) ∧ h' = h0) := by
  refine Con.of a0 (plainFor_of_name own_pn_14) O (fun _ q => nomatch q) [] (fun _ q => nomatch q) ?_
  intro p e s m below meth cdX T S hby hml hret hnm
  refine Go.cast (own_ef_13 m a) ?_
  refine S.aloadN 1 (hb hby own_d_prog_5_method_2_code_0) rfl rfl ?_
  refine S.instNo 4 (hb hby own_d_prog_5_method_2_code_1) (Tw hw 98 rfl) E (nsNo (Tw hw 117 rfl) (Tw hw 32 rfl) (NS.step (Tw hw 117 rfl) (NS.step (Tw hw 118 rfl) (NS.step (Tw hw 119 rfl) (NS.step (Tw hw 69 rfl) (nsRoot (Tw hw 120 rfl) (Tw hw 32 rfl) (by decide)) (by decide)) (by decide)) (by decide)) (by decide)) (by decide)) ?_
  intro T360 S361
  refine S361.ifY 12 (hb hby own_d_prog_5_method_2_code_4) (zEqT (by decide)) ?_
  refine S361.aloadN 13 (hb hby own_d_prog_5_method_2_code_12) rfl rfl ?_
  refine S361.instY 16 (hb hby own_d_prog_5_method_2_code_13) (Tw hw 121 rfl) (Ins.self E) ?_
  intro T362 S363
  refine S363.ifN 19 (hb hby own_d_prog_5_method_2_code_16) (zEqF (by decide)) ?_
  refine S363.iconst 20 (3 : Int32) (hb hby own_d_prog_5_method_2_code_19) ?_
  refine S363.istoreN 21 #[.val (.ref a), .val (.int (3 : Int32))] (hb hby own_d_prog_5_method_2_code_20) rfl ?_
  refine S363.goto 26 (hb hby own_d_prog_5_method_2_code_21) ?_
  refine S363.iloadN 27 (hb hby own_d_prog_5_method_2_code_26) rfl ?_
  exact S363.retI (hb hby own_d_prog_5_method_2_code_27) hret (by decide) (by decide) ⟨rfl, rfl⟩

theorem own_d_prog_5_method_2_code_24 : decode prog_5_method_2_code 24 = .ok (.iconst 4, 1) := by decide +kernel
theorem own_d_prog_5_method_2_code_25 : decode prog_5_method_2_code 25 = .ok (.istore_n 1, 1) := by decide +kernel
set_option maxRecDepth 65536 in
set_option maxHeartbeats 4000000 in
theorem own_ofW (l : Launch) (Z : State) (a0 : Array Value) (hw : ∀ d ∈ tables_1, d.before a0 Z = true) (h0 : Heap) (n0 : Nat) (O : Old Z n0 h0) (a : Addr) (E : Exa Z h0 a "com/example/featurewright/featurewright/io/WriteFailedException") :
    Con l Z n0 (⟨"com/example/featurewright/featurewright/cli/ExitCode", "of", "(Lcom/example/featurewright/featurewright/io/FeaturewrightException;)I"⟩ : MethodName) prog_5_method_2_code 2 (some .int) [] ({ frames := 0, cells := 0, slots := 0, locals := 0 } : Room) #[(.ref a)] h0 [] (fun v h' => v = some (.int 4) ∧ h' = h0) := by
  refine Con.of a0 (plainFor_of_name own_pn_14) O (fun _ q => nomatch q) [] (fun _ q => nomatch q) ?_
  intro p e s m below meth cdX T S hby hml hret hnm
  refine Go.cast (own_ef_13 m a) ?_
  refine S.aloadN 1 (hb hby own_d_prog_5_method_2_code_0) rfl rfl ?_
  refine S.instNo 4 (hb hby own_d_prog_5_method_2_code_1) (Tw hw 98 rfl) E (nsNo (Tw hw 151 rfl) (Tw hw 32 rfl) (NS.step (Tw hw 151 rfl) (NS.step (Tw hw 118 rfl) (NS.step (Tw hw 119 rfl) (NS.step (Tw hw 69 rfl) (nsRoot (Tw hw 120 rfl) (Tw hw 32 rfl) (by decide)) (by decide)) (by decide)) (by decide)) (by decide)) (by decide)) ?_
  intro T364 S365
  refine S365.ifY 12 (hb hby own_d_prog_5_method_2_code_4) (zEqT (by decide)) ?_
  refine S365.aloadN 13 (hb hby own_d_prog_5_method_2_code_12) rfl rfl ?_
  refine S365.instNo 16 (hb hby own_d_prog_5_method_2_code_13) (Tw hw 121 rfl) E (NS.no (Tw hw 151 rfl) (Tw hw 117 rfl) (NS.step (Tw hw 151 rfl) (NS.step (Tw hw 118 rfl) (NS.step (Tw hw 119 rfl) (NS.step (Tw hw 69 rfl) (NS.root (Tw hw 120 rfl) (Tw hw 117 rfl) (by decide)) (by decide)) (by decide)) (by decide)) (by decide)) (by decide)) ?_
  intro T366 S367
  refine S367.ifY 24 (hb hby own_d_prog_5_method_2_code_16) (zEqT (by decide)) ?_
  refine S367.iconst 25 (4 : Int32) (hb hby own_d_prog_5_method_2_code_24) ?_
  refine S367.istoreN 26 #[.val (.ref a), .val (.int (4 : Int32))] (hb hby own_d_prog_5_method_2_code_25) rfl ?_
  refine S367.iloadN 27 (hb hby own_d_prog_5_method_2_code_26) rfl ?_
  exact S367.retI (hb hby own_d_prog_5_method_2_code_27) hret (by decide) (by decide) ⟨rfl, rfl⟩

set_option maxHeartbeats 4000000 in
theorem own_ef_15 (m : MethodId) (x0 : Int32) (x1 : Int32) (x2 : Int32) : entryFrame m #[(.int x0), (.int x1), (.int x2)] maxLocals = mkF m 0 #[.val (.int x0), .val (.int x1), .val (.int x2), .unset, .unset, .unset] [] := by simp [entryFrame, mkF, argsToLocals, Value.category, maxLocals]
theorem own_pd_16 : parseMethodDescriptor "([C)V" = some ⟨[(.array .char)], none⟩ := by decide +kernel
theorem own_pd_17 : parseMethodDescriptor "(Lcom/example/featurewright/featurewright/io/FeaturewrightException;)I" = some ⟨[(.object "com/example/featurewright/featurewright/io/FeaturewrightException")], some .int⟩ := by decide +kernel
theorem own_pn_18 : plainName "com/example/featurewright/featurewright/cli/ExitCodeOfPinLaw" = true := by first | (simp [plainName, overriddenIn]; done) | decide +kernel
set_option maxRecDepth 65536 in
set_option maxHeartbeats 4000000 in
theorem own_law (l : Launch) (Z : State) (a0 : Array Value) (hw : ∀ d ∈ tables_1, d.before a0 Z = true) (hl : l.stackTraces = true) (tu : Thu Z) (cm : Com Z) (h0 : Heap) (n0 : Nat) (O : Old Z n0 h0) (p1 : Int32) (p2 : Int32) (p3 : Int32) :
    ConK l Z n0 x code maxLocals ret tables_1 room_1 #[(.int p1), (.int p2), (.int p3)] h0 [] (fun v h' => v = some (.int 1)) := by
  refine ConK.of a0 (plainFor_of_name own_pn_18) O (fun _ q => nomatch q) [] (fun _ q => nomatch q) ?_
  intro p e s m below meth cdX T kn S hby hml hret hnm
  refine Go.cast (own_ef_15 m p1 p2 p3) ?_
  refine S.iloadN 1 (hb hby at_0) rfl ?_
  refine S.ldcI 3 (hb hby at_1) (Tw hw 0 rfl) ?_
  refine S.iand 4 (hb hby at_3) ?_
  show Go p e below _ T (mkF m 4 #[.val (.int p1), .val (.int p2), .val (.int p3), .unset, .unset, .unset] [(.int (p1 &&& (2147483647 : Int32)))])
  refine S.iconst 5 (3 : Int32) (hb hby at_4) ?_
  refine S.irem 6 (hb hby at_5) (by decide) ?_
  show Go p e below _ T (mkF m 6 #[.val (.int p1), .val (.int p2), .val (.int p3), .unset, .unset, .unset] [(.int ((p1 &&& (2147483647 : Int32)) % (3 : Int32)))])
  generalize e_k_368 : ((p1 &&& (2147483647 : Int32)) % (3 : Int32)) = k_368
  refine S.istoreN 7 #[.val (.int p1), .val (.int p2), .val (.int p3), .val (.int k_368), .unset, .unset] (hb hby at_6) rfl ?_
  refine S.iconst 8 (2 : Int32) (hb hby at_7) ?_
  refine S.newarr 10 2 (hb hby at_8) (Tw hw 1 rfl) (by decide) (by decide) (by decide) (by decide) (by decide) ?_
  intro T369 h370 b371 k372 S373 E374 g375 wo376 A377
  have f378 : Arv Z h370 b371 k372 .char (2 : Int32) [(.int (0 : Int32)), (.int (0 : Int32))] (.int (0 : Int32)) := A377.pad (pad_rep [] (.int (0 : Int32)) 2)
  refine S373.astore 12 #[.val (.int p1), .val (.int p2), .val (.int p3), .val (.int k_368), .val (.ref b371), .unset] (hb hby at_10) rfl rfl ?_
  refine S373.aload 14 (hb hby at_12) rfl rfl ?_
  refine S373.iconst 15 (0 : Int32) (hb hby at_14) ?_
  refine S373.iloadN 16 (hb hby at_15) rfl ?_
  refine S373.sipush 19 (255 : Int32) (hb hby at_16) ?_
  refine S373.iand 20 (hb hby at_19) ?_
  show Go p e below _ T369 (mkF m 20 #[.val (.int p1), .val (.int p2), .val (.int p3), .val (.int k_368), .val (.ref b371), .unset] [(.int (p2 &&& (255 : Int32))), (.int (0 : Int32)), (.ref b371)])
  refine S373.i2c 21 (hb hby at_20) ?_
  have chr_c_379 := chr255 p2
  generalize e_c_379 : ((p2 &&& (255 : Int32)).toUInt32.toUInt16.toUInt32.toInt32) = c_379 at chr_c_379 ⊢
  refine S373.castore 22 0 (hb hby at_21) f378 ⟨by decide, by decide⟩ rfl (Nle rfl) wo376 ?_
  intro T380 h381 L382 S383 W384 A385
  rw [Chr.nar chr_c_379] at A385
  have f386 : Arv Z h381 b371 k372 .char (2 : Int32) [(.int c_379), (.int (0 : Int32))] (.int (0 : Int32)) := A385
  refine S383.aload 24 (hb hby at_22) rfl rfl ?_
  refine S383.iconst 25 (1 : Int32) (hb hby at_24) ?_
  refine S383.iloadN 26 (hb hby at_25) rfl ?_
  refine S383.sipush 29 (255 : Int32) (hb hby at_26) ?_
  refine S383.iand 30 (hb hby at_29) ?_
  show Go p e below _ T380 (mkF m 30 #[.val (.int p1), .val (.int p2), .val (.int p3), .val (.int k_368), .val (.ref b371), .unset] [(.int (p3 &&& (255 : Int32))), (.int (1 : Int32)), (.ref b371)])
  refine S383.i2c 31 (hb hby at_30) ?_
  have chr_c_387 := chr255 p3
  generalize e_c_387 : ((p3 &&& (255 : Int32)).toUInt32.toUInt16.toUInt32.toInt32) = c_387 at chr_c_387 ⊢
  refine S383.castore 32 1 (hb hby at_31) f386 ⟨by decide, by decide⟩ rfl (Nle rfl) wo376 ?_
  intro T388 h389 L390 S391 W392 A393
  rw [Chr.nar chr_c_387] at A393
  have f394 : Arv Z h389 b371 k372 .char (2 : Int32) [(.int c_379), (.int c_387)] (.int (0 : Int32)) := A393
  refine S391.new 35 (hb hby at_32) (Tw hw 2 rfl) (Tw hw 3 rfl) (Tw hw 4 rfl) (by decide) (by decide) ?_
  intro T395 h396 b397 S398 E399 g400 wo401 A402 D403 U404
  have l405 : b371 < b397 := (by rw [g400]; exact f394.lt)
  have f406 : Fld Z h396 b397 "java/lang/String" "coder" "B" (.int (0 : Int32)) := D403 (Or.inr (Tw hw 28 rfl)) (ty := .byte) (by decide)
  have f407 : Fld Z h396 b397 "java/lang/String" "value" "[B" .null := D403 (Or.inr (Tw hw 30 rfl)) (ty := (.array .byte)) (by decide)
  refine S398.dup 36 (hb hby at_35) rfl ?_
  refine S398.aload 38 (hb hby at_36) rfl rfl ?_
  have f408 := (f394.ext E399)
  have hp409 : ∀ c ∈ ([c_379, c_387] : List Int32), ¬ c < 0 ∧ ¬ (255 : Int32) < c := by
    intro c hc
    simp only [List.mem_cons, List.not_mem_nil, or_false] at hc
    rcases hc with rfl | rfl
    · exact chr_c_379
    · exact chr_c_387
  refine S398.icall 41 (hb hby at_38) (by rw [hml]; rfl) rfl (Tw hw 5 rfl) (Tw hw 6 rfl) (Tw hw 7 rfl) (by decide) [(.ref b371)] [(.ref b397)] (payNew (W := 1) (n := 2) (cs := ([c_379, c_387] : List Int32)) hw (Tw hw 3 rfl) cm S398.old (S398.ge wo401) A402 f407 f406 f408 rfl rfl (by decide) (by decide) hp409 (by decide) (by decide)) (lenOf own_pd_16 rfl) rfl (Nle rfl) (by decide) (by decide) (Wrs.one wo401 (Or.inl (by simp))) ?_
  intro v410 T411 h412 L413 S414 q415 K416
  obtain ⟨rfl, t417, g418, Z419⟩ := q415
  have l420 : b371 < t417 := Nat.lt_of_lt_of_le f408.lt g418
  have l421 : b397 < t417 := Nat.lt_of_lt_of_le A402.lt g418
  have f422 := Z419.exa
  show Go p e below _ T411 (mkF m 41 #[.val (.int p1), .val (.int p2), .val (.int p3), .val (.int k_368), .val (.ref b371), .unset] [(.ref b397)])
  refine S414.astore 43 #[.val (.int p1), .val (.int p2), .val (.int p3), .val (.int k_368), .val (.ref b371), .val (.ref b397)] (hb hby at_41) rfl rfl ?_
  refine S414.iloadN 44 (hb hby at_43) rfl ?_
  by_cases hb423 : k_368 = (0 : Int32)
  · skip
    refine S414.ifN 47 (hb hby at_44) (zNeF hb423) ?_
    refine S414.new 50 (hb hby at_47) (Tw hw 31 rfl) (Tw hw 32 rfl) (Tw hw 33 rfl) (by decide) (by decide) ?_
    intro T424 h425 b426 S427 E428 g429 wo430 A431 D432 U433
    have f434 := (f408.keep K416 (ninS (Nat.ne_of_lt l405) nin0))
    have l435 : b371 < b426 := (by rw [g429]; exact f434.lt)
    have l436 : b397 < b426 := (by rw [g429]; exact f422.lt)
    have l437 : t417 < b426 := (by rw [g429]; exact Z419.lt')
    have f438 : Fld Z h425 b426 "java/lang/Throwable" "cause" "Ljava/lang/Throwable;" .null := D432 (Or.inl (Tw hw 55 rfl)) (ty := (.object "java/lang/Throwable")) (by decide)
    have f439 : Fld Z h425 b426 "java/lang/Throwable" "stackTrace" "[Ljava/lang/StackTraceElement;" .null := D432 (Or.inl (Tw hw 58 rfl)) (ty := (.array (.object "java/lang/StackTraceElement"))) (by decide)
    have f440 : Fld Z h425 b426 "java/lang/Throwable" "suppressedExceptions" "Ljava/util/List;" .null := D432 (Or.inl (Tw hw 61 rfl)) (ty := (.object "java/util/List")) (by decide)
    have f441 : Fld Z h425 b426 "java/lang/Throwable" "detailMessage" "Ljava/lang/String;" .null := D432 (Or.inl (Tw hw 85 rfl)) (ty := (.object "java/lang/String")) (by decide)
    have f442 : Fld Z h425 b426 "java/lang/Throwable" "backtrace" "Ljava/lang/Object;" .null := D432 (Or.inl (Tw hw 86 rfl)) (ty := (.object "java/lang/Object")) (by decide)
    have f443 : Fld Z h425 b426 "java/lang/Throwable" "depth" "I" (.int (0 : Int32)) := D432 (Or.inl (Tw hw 87 rfl)) (ty := .int) (by decide)
    have f444 : Fld Z h425 b426 "com/example/featurewright/featurewright/io/FeaturewrightException" "lines" "[Ljava/lang/String;" .null := D432 (Or.inr (Tw hw 93 rfl)) (ty := (.array (.object "java/lang/String"))) (by decide)
    refine S427.dup 51 (hb hby at_50) rfl ?_
    refine S427.aload 53 (hb hby at_51) rfl rfl ?_
    have f445 := (f422.ext E428)
    refine S427.icall 56 (hb hby at_53) (by rw [hml]; rfl) rfl (Tw hw 34 rfl) (Tw hw 35 rfl) (Tw hw 36 rfl) (by decide) [(.ref b397)] [(.ref b426)] (ConK.pay (W := 1) kn (own_bad l Z a0 hw hl tu h425 n0 S427.old b426 b397 (S427.ge wo430) A431 U433 f438 f439 f440 f442 f443 f441 f444 f445 (Nat.ne_of_lt l436)) (Tw hw 36 rfl) (Tw hw 33 rfl) (by decide) (by decide)) (lenOf own_pd_3 rfl) rfl (Nle rfl) (by decide) (by decide) (Wrs.one wo430 (Or.inr ⟨_, A431, by decide, by decide⟩)) ?_
    intro v446 T447 h448 L449 S450 q451 K452
    obtain ⟨rfl, f453⟩ := q451
    show Go p e below _ T447 (mkF m 56 #[.val (.int p1), .val (.int p2), .val (.int p3), .val (.int k_368), .val (.ref b371), .val (.ref b397)] [(.ref b426)])
    refine S450.scall 59 (hb hby at_56) (by rw [hml]; rfl) (Tw hw 94 rfl) (Tw hw 95 rfl) (Tw hw 96 rfl) (Tw hw 97 rfl) (by decide) [(.ref b426)] [] (Con.pay (W := 0) (own_ofB l Z a0 hw h448 n0 S450.old b426 f453) (Tw hw 97 rfl) (Tw hw 96 rfl) (by decide) (by decide)) (lenOf own_pd_17 rfl) rfl (Nle rfl) (by decide) (by decide) Wrs.nil ?_
    intro v454 T455 h456 L457 S458 q459 K460
    obtain ⟨rfl, e_q459⟩ := q459
    obtain rfl := e_q459.symm
    show Go p e below _ T455 (mkF m 59 #[.val (.int p1), .val (.int p2), .val (.int p3), .val (.int k_368), .val (.ref b371), .val (.ref b397)] [(.int (2 : Int32))])
    refine S458.iconst 60 (2 : Int32) (hb hby at_59) ?_
    refine S458.icmpN 63 (hb hby at_60) (qNeF (by decide)) ?_
    refine S458.iconst 64 (1 : Int32) (hb hby at_63) ?_
    refine S458.goto 68 (hb hby at_64) ?_
    exact S458.retN (t := .boolean) (hb hby at_68) hret (by decide) (by decide) (by decide) rfl
  · skip
    refine S414.ifY 69 (hb hby at_44) (zNeT hb423) ?_
    refine S414.iloadN 70 (hb hby at_69) rfl ?_
    refine S414.iconst 71 (1 : Int32) (hb hby at_70) ?_
    by_cases hb461 : k_368 = (1 : Int32)
    · skip
      refine S414.icmpN 74 (hb hby at_71) (qNeF hb461) ?_
      refine S414.new 77 (hb hby at_74) (Tw hw 99 rfl) (Tw hw 100 rfl) (Tw hw 101 rfl) (by decide) (by decide) ?_
      intro T462 h463 b464 S465 E466 g467 wo468 A469 D470 U471
      have f472 := (f408.keep K416 (ninS (Nat.ne_of_lt l405) nin0))
      have l473 : b371 < b464 := (by rw [g467]; exact f472.lt)
      have l474 : b397 < b464 := (by rw [g467]; exact f422.lt)
      have l475 : t417 < b464 := (by rw [g467]; exact Z419.lt')
      have f476 : Fld Z h463 b464 "java/lang/Throwable" "cause" "Ljava/lang/Throwable;" .null := D470 (Or.inl (Tw hw 107 rfl)) (ty := (.object "java/lang/Throwable")) (by decide)
      have f477 : Fld Z h463 b464 "java/lang/Throwable" "stackTrace" "[Ljava/lang/StackTraceElement;" .null := D470 (Or.inl (Tw hw 108 rfl)) (ty := (.array (.object "java/lang/StackTraceElement"))) (by decide)
      have f478 : Fld Z h463 b464 "java/lang/Throwable" "suppressedExceptions" "Ljava/util/List;" .null := D470 (Or.inl (Tw hw 109 rfl)) (ty := (.object "java/util/List")) (by decide)
      have f479 : Fld Z h463 b464 "java/lang/Throwable" "detailMessage" "Ljava/lang/String;" .null := D470 (Or.inl (Tw hw 112 rfl)) (ty := (.object "java/lang/String")) (by decide)
      have f480 : Fld Z h463 b464 "java/lang/Throwable" "backtrace" "Ljava/lang/Object;" .null := D470 (Or.inl (Tw hw 113 rfl)) (ty := (.object "java/lang/Object")) (by decide)
      have f481 : Fld Z h463 b464 "java/lang/Throwable" "depth" "I" (.int (0 : Int32)) := D470 (Or.inl (Tw hw 114 rfl)) (ty := .int) (by decide)
      have f482 : Fld Z h463 b464 "com/example/featurewright/featurewright/io/FeaturewrightException" "lines" "[Ljava/lang/String;" .null := D470 (Or.inr (Tw hw 116 rfl)) (ty := (.array (.object "java/lang/String"))) (by decide)
      refine S465.dup 78 (hb hby at_77) rfl ?_
      refine S465.aload 80 (hb hby at_78) rfl rfl ?_
      have f483 := (f422.ext E466)
      refine S465.icall 83 (hb hby at_80) (by rw [hml]; rfl) rfl (Tw hw 102 rfl) (Tw hw 103 rfl) (Tw hw 104 rfl) (by decide) [(.ref b397)] [(.ref b464)] (ConK.pay (W := 1) kn (own_ref l Z a0 hw hl tu h463 n0 S465.old b464 b397 (S465.ge wo468) A469 U471 f476 f477 f478 f480 f481 f479 f482 f483 (Nat.ne_of_lt l474)) (Tw hw 104 rfl) (Tw hw 101 rfl) (by decide) (by decide)) (lenOf own_pd_3 rfl) rfl (Nle rfl) (by decide) (by decide) (Wrs.one wo468 (Or.inr ⟨_, A469, by decide, by decide⟩)) ?_
      intro v484 T485 h486 L487 S488 q489 K490
      obtain ⟨rfl, f491⟩ := q489
      show Go p e below _ T485 (mkF m 83 #[.val (.int p1), .val (.int p2), .val (.int p3), .val (.int k_368), .val (.ref b371), .val (.ref b397)] [(.ref b464)])
      refine S488.scall 86 (hb hby at_83) (by rw [hml]; rfl) (Tw hw 94 rfl) (Tw hw 95 rfl) (Tw hw 96 rfl) (Tw hw 97 rfl) (by decide) [(.ref b464)] [] (Con.pay (W := 0) (own_ofR l Z a0 hw h486 n0 S488.old b464 f491) (Tw hw 97 rfl) (Tw hw 96 rfl) (by decide) (by decide)) (lenOf own_pd_17 rfl) rfl (Nle rfl) (by decide) (by decide) Wrs.nil ?_
      intro v492 T493 h494 L495 S496 q497 K498
      obtain ⟨rfl, e_q497⟩ := q497
      obtain rfl := e_q497.symm
      show Go p e below _ T493 (mkF m 86 #[.val (.int p1), .val (.int p2), .val (.int p3), .val (.int k_368), .val (.ref b371), .val (.ref b397)] [(.int (3 : Int32))])
      refine S496.iconst 87 (3 : Int32) (hb hby at_86) ?_
      refine S496.icmpN 90 (hb hby at_87) (qNeF (by decide)) ?_
      refine S496.iconst 91 (1 : Int32) (hb hby at_90) ?_
      refine S496.goto 95 (hb hby at_91) ?_
      exact S496.retN (t := .boolean) (hb hby at_95) hret (by decide) (by decide) (by decide) rfl
    · skip
      refine S414.icmpY 96 (hb hby at_71) (qNeT hb461) ?_
      refine S414.new 99 (hb hby at_96) (Tw hw 122 rfl) (Tw hw 123 rfl) (Tw hw 124 rfl) (by decide) (by decide) ?_
      intro T499 h500 b501 S502 E503 g504 wo505 A506 D507 U508
      have f509 := (f408.keep K416 (ninS (Nat.ne_of_lt l405) nin0))
      have l510 : b371 < b501 := (by rw [g504]; exact f509.lt)
      have l511 : b397 < b501 := (by rw [g504]; exact f422.lt)
      have l512 : t417 < b501 := (by rw [g504]; exact Z419.lt')
      have f513 : Fld Z h500 b501 "java/lang/Throwable" "cause" "Ljava/lang/Throwable;" .null := D507 (Or.inl (Tw hw 141 rfl)) (ty := (.object "java/lang/Throwable")) (by decide)
      have f514 : Fld Z h500 b501 "java/lang/Throwable" "stackTrace" "[Ljava/lang/StackTraceElement;" .null := D507 (Or.inl (Tw hw 142 rfl)) (ty := (.array (.object "java/lang/StackTraceElement"))) (by decide)
      have f515 : Fld Z h500 b501 "java/lang/Throwable" "suppressedExceptions" "Ljava/util/List;" .null := D507 (Or.inl (Tw hw 143 rfl)) (ty := (.object "java/util/List")) (by decide)
      have f516 : Fld Z h500 b501 "java/lang/Throwable" "detailMessage" "Ljava/lang/String;" .null := D507 (Or.inl (Tw hw 146 rfl)) (ty := (.object "java/lang/String")) (by decide)
      have f517 : Fld Z h500 b501 "java/lang/Throwable" "backtrace" "Ljava/lang/Object;" .null := D507 (Or.inl (Tw hw 147 rfl)) (ty := (.object "java/lang/Object")) (by decide)
      have f518 : Fld Z h500 b501 "java/lang/Throwable" "depth" "I" (.int (0 : Int32)) := D507 (Or.inl (Tw hw 148 rfl)) (ty := .int) (by decide)
      have f519 : Fld Z h500 b501 "com/example/featurewright/featurewright/io/FeaturewrightException" "lines" "[Ljava/lang/String;" .null := D507 (Or.inr (Tw hw 150 rfl)) (ty := (.array (.object "java/lang/String"))) (by decide)
      refine S502.dup 100 (hb hby at_99) rfl ?_
      refine S502.aload 102 (hb hby at_100) rfl rfl ?_
      refine S502.anull 103 (hb hby at_102) ?_
      have f520 := (f422.ext E503)
      refine S502.icall 106 (hb hby at_103) (by rw [hml]; rfl) rfl (Tw hw 125 rfl) (Tw hw 126 rfl) (Tw hw 127 rfl) (by decide) [(.ref b397), .null] [(.ref b501)] (ConK.pay (W := 1) kn (own_wrf l Z a0 hw hl tu h500 n0 S502.old b501 b397 (S502.ge wo505) A506 U508 f513 f514 f515 f517 f518 f516 f519 f520 (Nat.ne_of_lt l511)) (Tw hw 127 rfl) (Tw hw 124 rfl) (by decide) (by decide)) (lenOf own_pd_6 rfl) rfl (Nle rfl) (by decide) (by decide) (Wrs.one wo505 (Or.inr ⟨_, A506, by decide, by decide⟩)) ?_
      intro v521 T522 h523 L524 S525 q526 K527
      obtain ⟨rfl, f528⟩ := q526
      show Go p e below _ T522 (mkF m 106 #[.val (.int p1), .val (.int p2), .val (.int p3), .val (.int k_368), .val (.ref b371), .val (.ref b397)] [(.ref b501)])
      refine S525.scall 109 (hb hby at_106) (by rw [hml]; rfl) (Tw hw 94 rfl) (Tw hw 95 rfl) (Tw hw 96 rfl) (Tw hw 97 rfl) (by decide) [(.ref b501)] [] (Con.pay (W := 0) (own_ofW l Z a0 hw h523 n0 S525.old b501 f528) (Tw hw 97 rfl) (Tw hw 96 rfl) (by decide) (by decide)) (lenOf own_pd_17 rfl) rfl (Nle rfl) (by decide) (by decide) Wrs.nil ?_
      intro v529 T530 h531 L532 S533 q534 K535
      obtain ⟨rfl, e_q534⟩ := q534
      obtain rfl := e_q534.symm
      show Go p e below _ T530 (mkF m 109 #[.val (.int p1), .val (.int p2), .val (.int p3), .val (.int k_368), .val (.ref b371), .val (.ref b397)] [(.int (4 : Int32))])
      refine S533.iconst 110 (4 : Int32) (hb hby at_109) ?_
      refine S533.icmpN 113 (hb hby at_110) (qNeF (by decide)) ?_
      refine S533.iconst 114 (1 : Int32) (hb hby at_113) ?_
      refine S533.goto 118 (hb hby at_114) ?_
      exact S533.retN (t := .boolean) (hb hby at_118) hret (by decide) (by decide) (by decide) rfl

set_option maxRecDepth 65536 in
set_option maxHeartbeats 40000000 in
theorem own_comes {Post : Tables → Env → Array Value → State → Outcome → State → Prop} (hpost : ∀ tb e args s v u, (limb_1_1.after args s (.returned v) u = true ∧ limb_1_2.after args s (.returned v) u = true ∧ True) → FrameEnd s (.returned v) u (Jvm.fieldLocs frame_1_writes args s ++ Jvm.arrayLocs frame_1_arrays args s ++ Jvm.staticLocs frame_1_statics s) 24 5632 → Post tb e args s (.returned v) u) :
    ArmFor flags0 classFile x code maxLocals ret World_1 tables_1 room_1 Calls_1 rest_1 Pre_1 Post := by
  intro l hfl _ _ p e ha hc hk s m args below hf hA hF happ hP
  obtain ⟨hcalls, hrest, hpre⟩ := hP
  obtain ⟨-, -, -, hnamed, -, -, -, hat⟩ := (Spec.applies_iff hf).mp happ
  obtain ⟨hg, hn⟩ := and_e (Cond.before_iff.mp (show (Jvm.Cond.and given_1 narrow_1).before args s = true from hpre))
  obtain ⟨g0, q0⟩ := and_e hg
  obtain ⟨g1, q1⟩ := and_e q0
  obtain ⟨g2, q2⟩ := and_e q1
  obtain ⟨w0, w1, w2, rfl⟩ : ∃ w0 w1 w2 : Value, args = #[w0, w1, w2] := by
    have hs : args.size = 3 := by simpa [Cond.value, given_1] using g0
    obtain ⟨L⟩ := args
    match L, hs with
    | [w0, w1, w2], _ => exact ⟨w0, w1, w2, rfl⟩
  have hw := fun d (hd : d ∈ tables_1) => atoms_spec (ws := Jvm.Cond.code x code maxLocals ret :: tables_1) hat d (List.mem_cons_of_mem _ hd)
  obtain ⟨hsets, hown0⟩ := atoms_of _ (rest_1_c_eq ▸ (show rest_1_c.before _ s = true from hrest))
  have hr0 := Cond.before_iff.mp hown0
  have hfit : Fit s := fun {y c} hc i hi => by
    obtain ⟨ha, rfl⟩ := Array.getElem?_eq_some_iff.mp hc
    have q := List.all_eq_true.mp ((Array.all_eq_true_iff_forall_mem.mp hF) _ (Array.getElem_mem ha)) i (List.mem_range.mpr hi)
    simpa [Array.getElem?_eq_getElem hi] using q
  obtain ⟨i0, e0⟩ := is_v g1
  obtain rfl : w0 = (.int i0) := Option.some.inj e0
  obtain ⟨i1, e1⟩ := is_v g2
  obtain rfl : w1 = (.int i1) := Option.some.inj e1
  obtain ⟨i2, e2⟩ := is_v q2
  obtain rfl : w2 = (.int i2) := Option.some.inj e2
  obtain ⟨cz, cze⟩ := is_v (Cond.before_iff.mp (hsets _ (List.mem_of_getElem? (i := 1) rfl)))
  have cm : Com s := ⟨cz, Sta.start cze (Or.inl (hsets _ (List.mem_of_getElem? (i := 0) rfl))), gotF (Cond.eq_ints cze (Term.int_eval (0))) (not_v (Cond.before_iff.mp (hsets _ (List.mem_of_getElem? (i := 2) rfl))))⟩
  have hl : l.stackTraces = true := by rw [Launch.stackTraces, hfl]; decide
  obtain ⟨ub, ube⟩ := arr_v (Cond.before_iff.mp (hsets _ (List.mem_of_getElem? (i := 17) rfl)))
  obtain ⟨us, use⟩ := exa_v (Cond.before_iff.mp (hsets _ (List.mem_of_getElem? (i := 22) rfl)))
  have tu : Thu s := ⟨ub, us, Sta.start ube (Or.inl (hsets _ (List.mem_of_getElem? (i := 15) rfl))), Sta.start use (Or.inl (hsets _ (List.mem_of_getElem? (i := 20) rfl)))⟩
  obtain ⟨n, o, h1, h2, h3, _, L, rfl, ⟨rfl, KK, N⟩, hq⟩ := own_law l s _ hw hl tu cm s.heap s.heap.size (Old.start s) i0 i1 i2 p e ha hc hk s m _ below hf ((Spec.applies_iff_loose hf).mp happ).1 ⟨rfl, State.Warmed39.refl s, rfl⟩ ⟨MethodsKnown_of_tablesKnown hcalls.2.1, FramesKnown_of_framesKnown hcalls.1 hf⟩
  refine ⟨n, _, h1, h2, h3, hpost _ _ _ _ _ _ ⟨Cond.after_iff.mpr rfl, Cond.after_iff.mpr (eq_i res_at (Term.int_eval (1)) rfl), trivial⟩ ⟨hq.1, hq.2.1, (hq.2.2.sift fun y hy => Or.inr (N y hy)).mono (by decide) (by decide)⟩⟩
theorem main_1_1 : Claimed_1_1 := own_comes fun _ _ _ _ _ _ h hF => ⟨h.1, hF⟩
theorem main_1_2 : Claimed_1_2 := own_comes fun _ _ _ _ _ _ h hF => ⟨h.2.1, hF⟩
end Jvm.Pilot.@@N@@
namespace Jvm.Pilot.@@N@@
open Jvm Jvm.ClassFile Sem Op Lib Jvm.Free Jvm.Stand Jvm.Pilot.@@N@@.Jvm.D
/-! MADE BY PROGRAM (witnessworld.py) out of the Statement's table words and the real class files: 40 classes; the members and pool entries that the words name. The judged class is class 1, her method 1. -/
namespace start1
open Jvm.ClassFile
def u (s : String) : CpInfo := .utf8 (stringToUtf16 s)
/-- a pool by its gaps: so many unusable entries, then the entry; so many at the end -/
def gap : Nat → List CpInfo → List CpInfo
  | 0, r => r
  | n + 1, r => .unusable :: gap n r
def poolList (es : List (Nat × CpInfo)) (last : Nat) : List CpInfo := es.foldr (fun e r => gap e.1 (e.2 :: r)) (gap last [])
def pool (es : List (Nat × CpInfo)) (last : Nat) : Array CpInfo := ⟨poolList es last⟩
def fileOf (pool : Array CpInfo) (this : Nat) (attrs : Array Attribute := #[]) (ms : Array MethodInfo := #[]) (fl : Nat := 33) (sup : Nat := 0) (ifs : Array Nat := #[]) (fds : Array FieldInfo := #[]) : ClassFile where
  minorVersion := 0
  majorVersion := 65
  constantPool := pool
  accessFlags := fl
  thisClass := this
  superClass := sup
  interfaces := ifs
  fields := fds
  methods := ms
  attributes := attrs
def plain (name : String) (sup : Option ClassId) : Class where
  name := name
  kind := .ordinary
  loader := none
  accessFlags := 33
  super := sup
  interfaces := #[]
  cf := none
  fields := #[]
  methods := #[]
  instanceTypes := #[]
  staticTypes := #[]
  resolved := #[]
  callSites := []
  init := .initialized
  statics := none
  mirror := none

def pool0 : Array CpInfo := pool [(5, u "<init>"), (0, u "()V"), (1, .class_ 10), (1, u "java/lang/Object")] 113

def k0c0 : Code := { maxStack := 0, maxLocals := 1, code := object_method_1_code, exceptionTable := #[], attributes := #[] }
def k0m0 : Method := { name := "<init>", desc := "()V", sig := { parameters := [], returnType := none }, accessFlags := 1, code := some k0c0 }
/-- java/lang/Object -/
def k0 : Class := { plain "java/lang/Object" none with
  accessFlags := 33
  interfaces := #[]
  cf := some (fileOf pool0 8 #[] #[{ accessFlags := 1, nameIndex := 5, descriptorIndex := 6, attributes := #[] }] 33 0 #[] #[])
  fields := #[]
  methods := #[k0m0]
  instanceTypes := #[]
  staticTypes := #[]
  resolved := Array.replicate 124 none
  statics := none }

def pool1 : Array CpInfo := pool [(2, .class_ 4), (1, u "java/lang/Object"), (0, u "<init>"), (0, u "()V"), (0, .integer 2147483647), (0, .class_ 9), (0, u "java/lang/String"), (0, .methodref 8 11), (0, .nameAndType 5 12), (0, u "([C)V"), (0, .class_ 14), (0, u "com/example/featurewright/featurewright/io/BadInputException"), (0, .methodref 13 16), (0, .nameAndType 5 17), (0, u "(Ljava/lang/String;)V"), (0, .methodref 19 20), (0, .class_ 21), (0, .nameAndType 22 23), (0, u "com/example/featurewright/featurewright/cli/ExitCode"), (0, u "of"), (0, u "(Lcom/example/featurewright/featurewright/io/FeaturewrightException;)I"), (0, .class_ 25), (0, u "com/example/featurewright/featurewright/io/RefusedException"), (0, .methodref 24 16), (0, .class_ 28), (0, u "com/example/featurewright/featurewright/io/WriteFailedException"), (0, .methodref 27 30), (0, .nameAndType 5 31), (0, u "(Ljava/lang/String;Ljava/lang/Throwable;)V"), (0, .class_ 33), (0, u "com/example/featurewright/featurewright/cli/ExitCodeOfPinLaw"), (2, u "law"), (0, u "(III)Z")] 5

def k1m0 : Method := { name := "<init>", desc := "()V", sig := { parameters := [], returnType := none }, accessFlags := 2, code := none }
def k1c1 : Code := { maxStack := 4, maxLocals := 6, code := code, exceptionTable := #[], attributes := #[] }
def k1m1 : Method := { name := "law", desc := "(III)Z", sig := { parameters := [.int, .int, .int], returnType := some .boolean }, accessFlags := 9, code := some k1c1 }
/-- com/example/featurewright/featurewright/cli/ExitCodeOfPinLaw -/
def k1 : Class := { plain "com/example/featurewright/featurewright/cli/ExitCodeOfPinLaw" (some 0) with
  accessFlags := 49
  interfaces := #[]
  cf := some (fileOf pool1 32 #[] #[{ accessFlags := 2, nameIndex := 5, descriptorIndex := 6, attributes := #[] }, { accessFlags := 9, nameIndex := 36, descriptorIndex := 37, attributes := #[] }] 49 2 #[] #[])
  fields := #[]
  methods := #[k1m0, k1m1]
  instanceTypes := #[]
  staticTypes := #[]
  resolved := Array.replicate 43 none
  statics := none }

def pool2 : Array CpInfo := pool [(1, .class_ 2), (0, u "java/io/Serializable"), (0, .class_ 4), (0, u "java/lang/Object")] 2

/-- java/io/Serializable -/
def k2 : Class := { plain "java/io/Serializable" (some 0) with
  accessFlags := 1537
  interfaces := #[]
  cf := some (fileOf pool2 1 #[] #[] 1537 3 #[] #[])
  fields := #[]
  methods := #[]
  instanceTypes := #[]
  staticTypes := #[]
  resolved := Array.replicate 7 none
  statics := none }

def pool3 : Array CpInfo := pool [(1, .class_ 2), (0, u "java/lang/Comparable"), (0, .class_ 4), (0, u "java/lang/Object")] 7

/-- java/lang/Comparable -/
def k3 : Class := { plain "java/lang/Comparable" (some 0) with
  accessFlags := 1537
  interfaces := #[]
  cf := some (fileOf pool3 1 #[] #[] 1537 3 #[] #[])
  fields := #[]
  methods := #[]
  instanceTypes := #[]
  staticTypes := #[]
  resolved := Array.replicate 12 none
  statics := none }

def pool4 : Array CpInfo := pool [(2, .class_ 4), (1, u "java/lang/CharSequence"), (42, .class_ 48), (0, u "java/lang/CharSequence$1CodePointIterator"), (10, .class_ 60), (0, u "java/lang/CharSequence$1CharIterator"), (5, .class_ 67), (0, u "java/lang/Object")] 63

/-- java/lang/CharSequence -/
def k4 : Class := { plain "java/lang/CharSequence" (some 0) with
  accessFlags := 1537
  interfaces := #[]
  cf := some (fileOf pool4 2 #[.nestMembers #[47, 59]] #[] 1537 66 #[] #[])
  fields := #[]
  methods := #[]
  instanceTypes := #[]
  staticTypes := #[]
  resolved := Array.replicate 131 none
  statics := none }

def pool5 : Array CpInfo := pool [(1, .class_ 2), (0, u "java/lang/constant/Constable"), (0, .class_ 4), (0, u "java/lang/Object")] 6

/-- java/lang/constant/Constable -/
def k5 : Class := { plain "java/lang/constant/Constable" (some 0) with
  accessFlags := 1537
  interfaces := #[]
  cf := some (fileOf pool5 1 #[] #[] 1537 3 #[] #[])
  fields := #[]
  methods := #[]
  instanceTypes := #[]
  staticTypes := #[]
  resolved := Array.replicate 11 none
  statics := none }

def pool6 : Array CpInfo := pool [(1, .class_ 2), (0, u "java/lang/constant/ConstantDesc"), (0, .class_ 4), (0, u "java/lang/Object")] 32

/-- java/lang/constant/ConstantDesc -/
def k6 : Class := { plain "java/lang/constant/ConstantDesc" (some 0) with
  accessFlags := 1537
  interfaces := #[]
  cf := some (fileOf pool6 1 #[] #[] 1537 3 #[] #[])
  fields := #[]
  methods := #[]
  instanceTypes := #[]
  staticTypes := #[]
  resolved := Array.replicate 37 none
  statics := none }

def pool7 : Array CpInfo := pool [(1, .methodref 2 3), (0, .class_ 4), (0, .nameAndType 5 6), (0, u "java/lang/Object"), (0, u "<init>"), (0, u "()V"), (2, .fieldref 10 11), (0, .class_ 12), (0, .nameAndType 13 14), (0, u "java/lang/String"), (0, u "value"), (0, u "[B"), (0, .fieldref 10 16), (0, .nameAndType 17 18), (0, u "coder"), (0, u "B"), (2, u "hash"), (0, u "I"), (2, u "hashIsZero"), (0, u "Z"), (0, .methodref 10 28), (0, .nameAndType 5 29), (0, u "([CIILjava/lang/Void;)V"), (8, .fieldref 10 39), (0, .nameAndType 40 26), (0, u "COMPACT_STRINGS"), (1, .class_ 44), (1, u "java/lang/StringUTF16"), (0, u "compress"), (1, .methodref 42 48), (0, .nameAndType 49 50), (0, u "coderFromArrayLen"), (0, u "([BI)B"), (126, .methodref 42 178), (0, .nameAndType 45 179), (0, u "([CII)[B"), (395, .class_ 576), (0, u "java/lang/CharSequence"), (22, u "CASE_INSENSITIVE_ORDER"), (0, u "Ljava/util/Comparator;"), (409, u "([C)V"), (90, u "serialPersistentFields"), (0, u "[Ljava/io/ObjectStreamField;"), (0, .class_ 1104), (0, u "java/lang/String$CaseInsensitiveComparator"), (1, .class_ 1107), (0, u "java/io/Serializable"), (0, .class_ 1109), (0, u "java/lang/Comparable"), (0, .class_ 1111), (0, u "java/lang/constant/Constable"), (0, .class_ 1113), (0, u "java/lang/constant/ConstantDesc"), (2, u "serialVersionUID"), (0, u "J"), (3, u "REPL"), (0, u "C"), (2, u "LATIN1"), (1, u "UTF16")] 323

def k7m0 : Method := { name := "<init>", desc := "()V", sig := { parameters := [], returnType := none }, accessFlags := 1, code := none }
def k7c1 : Code := { maxStack := 5, maxLocals := 2, code := jdk_42_method_3_code, exceptionTable := #[], attributes := #[] }
def k7m1 : Method := { name := "<init>", desc := "([C)V", sig := { parameters := [(.array .char)], returnType := none }, accessFlags := 1, code := some k7c1 }
def k7c2 : Code := { maxStack := 4, maxLocals := 6, code := jdk_42_method_149_code, exceptionTable := #[], attributes := #[] }
def k7m2 : Method := { name := "<init>", desc := "([CIILjava/lang/Void;)V", sig := { parameters := [(.array .char), .int, .int, (.object "java/lang/Void")], returnType := none }, accessFlags := 2, code := some k7c2 }
/-- java/lang/String -/
def k7 : Class := { plain "java/lang/String" (some 0) with
  accessFlags := 49
  interfaces := #[2, 3, 4, 5, 6]
  cf := some (fileOf pool7 10 #[.nestMembers #[1103]] #[{ accessFlags := 1, nameIndex := 5, descriptorIndex := 6, attributes := #[] }, { accessFlags := 1, nameIndex := 5, descriptorIndex := 1010, attributes := #[] }, { accessFlags := 2, nameIndex := 5, descriptorIndex := 29, attributes := #[] }] 49 2 #[1106, 1108, 575, 1110, 1112] #[{ accessFlags := 18, nameIndex := 13, descriptorIndex := 14, attributes := #[] }, { accessFlags := 18, nameIndex := 17, descriptorIndex := 18, attributes := #[] }, { accessFlags := 2, nameIndex := 21, descriptorIndex := 22, attributes := #[] }, { accessFlags := 2, nameIndex := 25, descriptorIndex := 26, attributes := #[] }, { accessFlags := 26, nameIndex := 1116, descriptorIndex := 1117, attributes := #[] }, { accessFlags := 24, nameIndex := 40, descriptorIndex := 26, attributes := #[] }, { accessFlags := 26, nameIndex := 1101, descriptorIndex := 1102, attributes := #[] }, { accessFlags := 26, nameIndex := 1121, descriptorIndex := 1122, attributes := #[] }, { accessFlags := 25, nameIndex := 599, descriptorIndex := 600, attributes := #[] }, { accessFlags := 24, nameIndex := 1125, descriptorIndex := 18, attributes := #[] }, { accessFlags := 24, nameIndex := 1127, descriptorIndex := 18, attributes := #[] }])
  fields := #[{ name := "value", type := (.array .byte), accessFlags := 18, slot := 0, constantValue := 0 }, { name := "coder", type := .byte, accessFlags := 18, slot := 1, constantValue := 0 }, { name := "hash", type := .int, accessFlags := 2, slot := 2, constantValue := 0 }, { name := "hashIsZero", type := .boolean, accessFlags := 2, slot := 3, constantValue := 0 }, { name := "serialVersionUID", type := .long, accessFlags := 26, slot := 0, constantValue := 0 }, { name := "COMPACT_STRINGS", type := .boolean, accessFlags := 24, slot := 1, constantValue := 0 }, { name := "serialPersistentFields", type := (.array (.object "java/io/ObjectStreamField")), accessFlags := 26, slot := 2, constantValue := 0 }, { name := "REPL", type := .char, accessFlags := 26, slot := 3, constantValue := 0 }, { name := "CASE_INSENSITIVE_ORDER", type := (.object "java/util/Comparator"), accessFlags := 25, slot := 4, constantValue := 0 }, { name := "LATIN1", type := .byte, accessFlags := 24, slot := 5, constantValue := 0 }, { name := "UTF16", type := .byte, accessFlags := 24, slot := 6, constantValue := 0 }]
  methods := #[k7m0, k7m1, k7m2]
  instanceTypes := #[(.array .byte), .byte, .int, .boolean]
  staticTypes := #[.long, .boolean, (.array (.object "java/io/ObjectStreamField")), .char, (.object "java/util/Comparator"), .byte, .byte]
  resolved := Array.replicate 1451 none
  statics := some 0 }

def pool8 : Array CpInfo := pool [(6, .class_ 8), (1, u "java/lang/Object"), (0, u "<init>"), (0, u "()V"), (1, .class_ 14), (1, u "java/lang/StringUTF16"), (31, u "$assertionsDisabled"), (0, u "Z"), (13, u "HI_BYTE_SHIFT"), (0, u "I"), (2, u "LO_BYTE_SHIFT"), (49, .methodref 12 116), (0, .nameAndType 117 118), (0, u "compress"), (0, u "([CI[BII)I"), (3, u "([CII)[B"), (138, u "coderFromArrayLen"), (0, u "([BI)B"), (106, .class_ 371), (1, u "java/lang/StringUTF16$LinesSpliterator"), (58, u "MAX_LENGTH"), (196, .class_ 628), (0, u "java/lang/StringUTF16$CodePointsSpliterator"), (0, .class_ 630), (0, u "java/lang/StringUTF16$CharsSpliterator")] 4

def k8m0 : Method := { name := "<init>", desc := "()V", sig := { parameters := [], returnType := none }, accessFlags := 0, code := none }
def k8c1 : Code := { maxStack := 2, maxLocals := 2, code := jdk_52_method_15_code, exceptionTable := #[], attributes := #[] }
def k8m1 : Method := { name := "coderFromArrayLen", desc := "([BI)B", sig := { parameters := [(.array .byte), .int], returnType := some .byte }, accessFlags := 8, code := some k8c1 }
def k8c2 : Code := { maxStack := 5, maxLocals := 6, code := jdk_52_method_16_code, exceptionTable := #[], attributes := #[] }
def k8m2 : Method := { name := "compress", desc := "([CII)[B", sig := { parameters := [(.array .char), .int, .int], returnType := some (.array .byte) }, accessFlags := 9, code := some k8c2 }
def k8c3 : Code := { maxStack := 3, maxLocals := 7, code := jdk_52_method_21_code, exceptionTable := #[], attributes := #[] }
def k8m3 : Method := { name := "compress", desc := "([CI[BII)I", sig := { parameters := [(.array .char), .int, (.array .byte), .int, .int], returnType := some .int }, accessFlags := 9, code := some k8c3 }
/-- java/lang/StringUTF16 -/
def k8 : Class := { plain "java/lang/StringUTF16" (some 0) with
  accessFlags := 48
  interfaces := #[]
  cf := some (fileOf pool8 12 #[.nestMembers #[627, 629, 369]] #[{ accessFlags := 0, nameIndex := 9, descriptorIndex := 10, attributes := #[] }, { accessFlags := 8, nameIndex := 261, descriptorIndex := 262, attributes := #[] }, { accessFlags := 9, nameIndex := 117, descriptorIndex := 122, attributes := #[] }, { accessFlags := 9, nameIndex := 117, descriptorIndex := 118, attributes := #[] }] 48 6 #[] #[{ accessFlags := 26, nameIndex := 61, descriptorIndex := 62, attributes := #[] }, { accessFlags := 26, nameIndex := 65, descriptorIndex := 62, attributes := #[] }, { accessFlags := 24, nameIndex := 430, descriptorIndex := 62, attributes := #[] }, { accessFlags := 4120, nameIndex := 46, descriptorIndex := 47, attributes := #[] }])
  fields := #[{ name := "HI_BYTE_SHIFT", type := .int, accessFlags := 26, slot := 0, constantValue := 0 }, { name := "LO_BYTE_SHIFT", type := .int, accessFlags := 26, slot := 1, constantValue := 0 }, { name := "MAX_LENGTH", type := .int, accessFlags := 24, slot := 2, constantValue := 0 }, { name := "$assertionsDisabled", type := .boolean, accessFlags := 4120, slot := 3, constantValue := 0 }]
  methods := #[k8m0, k8m1, k8m2, k8m3]
  instanceTypes := #[]
  staticTypes := #[.int, .int, .int, .boolean]
  resolved := Array.replicate 635 none
  statics := none }

def pool9 : Array CpInfo := pool [(1, .methodref 2 3), (0, .class_ 4), (0, .nameAndType 5 6), (0, u "java/lang/Object"), (0, u "<init>"), (0, u "()V"), (0, .fieldref 8 9), (0, .class_ 10), (0, .nameAndType 11 12), (0, u "java/lang/Throwable"), (0, u "cause"), (0, u "Ljava/lang/Throwable;"), (0, .fieldref 8 14), (0, .nameAndType 15 16), (0, u "UNASSIGNED_STACK"), (0, u "[Ljava/lang/StackTraceElement;"), (0, .fieldref 8 18), (0, .nameAndType 19 16), (0, u "stackTrace"), (0, .fieldref 8 21), (0, .nameAndType 22 23), (0, u "SUPPRESSED_SENTINEL"), (0, u "Ljava/util/List;"), (0, .fieldref 8 25), (0, .nameAndType 26 23), (0, u "suppressedExceptions"), (0, .methodref 8 28), (0, .nameAndType 29 30), (0, u "fillInStackTrace"), (0, u "()Ljava/lang/Throwable;"), (0, .fieldref 8 32), (0, .nameAndType 33 34), (0, u "detailMessage"), (0, u "Ljava/lang/String;"), (28, u "(Ljava/lang/String;Ljava/lang/Throwable;)V"), (29, .class_ 94), (0, u "java/lang/Throwable$WrappedPrintStream"), (6, .class_ 103), (1, u "java/lang/Throwable$PrintStreamOrWriter"), (61, u "$assertionsDisabled"), (0, u "Z"), (26, .class_ 194), (0, u "java/lang/Throwable$WrappedPrintWriter"), (3, .fieldref 8 199), (0, .nameAndType 200 201), (0, u "backtrace"), (0, u "Ljava/lang/Object;"), (0, .methodref 8 203), (0, .nameAndType 29 204), (0, u "(I)Ljava/lang/Throwable;"), (6, u "depth"), (0, u "I"), (10, u "(Ljava/lang/String;)V"), (45, .class_ 271), (1, u "java/lang/Throwable$SentinelHolder"), (32, u "EMPTY_THROWABLE_ARRAY"), (0, u "[Ljava/lang/Throwable;"), (12, .class_ 319), (0, u "java/io/Serializable"), (0, u "serialVersionUID"), (0, u "J"), (5, u "NULL_CAUSE_MESSAGE"), (0, u "SELF_SUPPRESSION_MESSAGE"), (0, u "CAUSE_CAPTION"), (0, u "SUPPRESSED_CAPTION")] 73

def k9c0 : Code := { maxStack := 2, maxLocals := 1, code := jdk_78_method_1_code, exceptionTable := #[], attributes := #[] }
def k9m0 : Method := { name := "<init>", desc := "()V", sig := { parameters := [], returnType := none }, accessFlags := 1, code := some k9c0 }
def k9c1 : Code := { maxStack := 2, maxLocals := 2, code := jdk_78_method_2_code, exceptionTable := #[], attributes := #[] }
def k9m1 : Method := { name := "<init>", desc := "(Ljava/lang/String;)V", sig := { parameters := [(.object "java/lang/String")], returnType := none }, accessFlags := 1, code := some k9c1 }
def k9c2 : Code := { maxStack := 2, maxLocals := 3, code := jdk_78_method_3_code, exceptionTable := #[], attributes := #[] }
def k9m2 : Method := { name := "<init>", desc := "(Ljava/lang/String;Ljava/lang/Throwable;)V", sig := { parameters := [(.object "java/lang/String"), (.object "java/lang/Throwable")], returnType := none }, accessFlags := 1, code := some k9c2 }
def k9c3 : Code := { maxStack := 2, maxLocals := 1, code := ⟨#[0x2a, 0xb4, 0x00, 0x11, 0xc7, 0x00, 0x0a, 0x2a, 0xb4, 0x00, 0xc6, 0xc6, 0x00, 0x10, 0x2a, 0x03, 0xb6, 0x00, 0xca, 0x57, 0x2a, 0xb2, 0x00, 0x0d, 0xb5, 0x00, 0x11, 0x2a, 0xb0]⟩, exceptionTable := #[], attributes := #[] }
def k9m3 : Method := { name := "fillInStackTrace", desc := "()Ljava/lang/Throwable;", sig := { parameters := [], returnType := some (.object "java/lang/Throwable") }, accessFlags := 33, code := some k9c3 }
def k9m4 : Method := { name := "fillInStackTrace", desc := "(I)Ljava/lang/Throwable;", sig := { parameters := [.int], returnType := some (.object "java/lang/Throwable") }, accessFlags := 258, code := none }
/-- java/lang/Throwable -/
def k9 : Class := { plain "java/lang/Throwable" (some 0) with
  accessFlags := 33
  interfaces := #[2]
  cf := some (fileOf pool9 8 #[.nestMembers #[193, 93, 101, 269]] #[{ accessFlags := 1, nameIndex := 5, descriptorIndex := 6, attributes := #[] }, { accessFlags := 1, nameIndex := 5, descriptorIndex := 223, attributes := #[] }, { accessFlags := 1, nameIndex := 5, descriptorIndex := 63, attributes := #[] }, { accessFlags := 33, nameIndex := 29, descriptorIndex := 30, attributes := #[] }, { accessFlags := 258, nameIndex := 29, descriptorIndex := 204, attributes := #[] }] 33 2 #[318] #[{ accessFlags := 26, nameIndex := 320, descriptorIndex := 321, attributes := #[] }, { accessFlags := 130, nameIndex := 200, descriptorIndex := 201, attributes := #[] }, { accessFlags := 2, nameIndex := 33, descriptorIndex := 34, attributes := #[] }, { accessFlags := 26, nameIndex := 15, descriptorIndex := 16, attributes := #[] }, { accessFlags := 2, nameIndex := 11, descriptorIndex := 12, attributes := #[] }, { accessFlags := 2, nameIndex := 19, descriptorIndex := 16, attributes := #[] }, { accessFlags := 130, nameIndex := 211, descriptorIndex := 212, attributes := #[] }, { accessFlags := 26, nameIndex := 22, descriptorIndex := 23, attributes := #[] }, { accessFlags := 2, nameIndex := 26, descriptorIndex := 23, attributes := #[] }, { accessFlags := 26, nameIndex := 327, descriptorIndex := 34, attributes := #[] }, { accessFlags := 26, nameIndex := 328, descriptorIndex := 34, attributes := #[] }, { accessFlags := 26, nameIndex := 329, descriptorIndex := 34, attributes := #[] }, { accessFlags := 26, nameIndex := 330, descriptorIndex := 34, attributes := #[] }, { accessFlags := 26, nameIndex := 304, descriptorIndex := 305, attributes := #[] }, { accessFlags := 4120, nameIndex := 165, descriptorIndex := 166, attributes := #[] }])
  fields := #[{ name := "serialVersionUID", type := .long, accessFlags := 26, slot := 0, constantValue := 0 }, { name := "backtrace", type := (.object "java/lang/Object"), accessFlags := 130, slot := 0, constantValue := 0 }, { name := "detailMessage", type := (.object "java/lang/String"), accessFlags := 2, slot := 1, constantValue := 0 }, { name := "UNASSIGNED_STACK", type := (.array (.object "java/lang/StackTraceElement")), accessFlags := 26, slot := 1, constantValue := 0 }, { name := "cause", type := (.object "java/lang/Throwable"), accessFlags := 2, slot := 2, constantValue := 0 }, { name := "stackTrace", type := (.array (.object "java/lang/StackTraceElement")), accessFlags := 2, slot := 3, constantValue := 0 }, { name := "depth", type := .int, accessFlags := 130, slot := 4, constantValue := 0 }, { name := "SUPPRESSED_SENTINEL", type := (.object "java/util/List"), accessFlags := 26, slot := 2, constantValue := 0 }, { name := "suppressedExceptions", type := (.object "java/util/List"), accessFlags := 2, slot := 5, constantValue := 0 }, { name := "NULL_CAUSE_MESSAGE", type := (.object "java/lang/String"), accessFlags := 26, slot := 3, constantValue := 0 }, { name := "SELF_SUPPRESSION_MESSAGE", type := (.object "java/lang/String"), accessFlags := 26, slot := 4, constantValue := 0 }, { name := "CAUSE_CAPTION", type := (.object "java/lang/String"), accessFlags := 26, slot := 5, constantValue := 0 }, { name := "SUPPRESSED_CAPTION", type := (.object "java/lang/String"), accessFlags := 26, slot := 6, constantValue := 0 }, { name := "EMPTY_THROWABLE_ARRAY", type := (.array (.object "java/lang/Throwable")), accessFlags := 26, slot := 7, constantValue := 0 }, { name := "$assertionsDisabled", type := .boolean, accessFlags := 4120, slot := 8, constantValue := 0 }]
  methods := #[k9m0, k9m1, k9m2, k9m3, k9m4]
  instanceTypes := #[(.object "java/lang/Object"), (.object "java/lang/String"), (.object "java/lang/Throwable"), (.array (.object "java/lang/StackTraceElement")), .int, (.object "java/util/List")]
  staticTypes := #[.long, (.array (.object "java/lang/StackTraceElement")), (.object "java/util/List"), (.object "java/lang/String"), (.object "java/lang/String"), (.object "java/lang/String"), (.object "java/lang/String"), (.array (.object "java/lang/Throwable")), .boolean]
  resolved := Array.replicate 404 none
  statics := some 1 }

def pool10 : Array CpInfo := pool [(2, .class_ 4), (1, u "java/lang/Throwable"), (0, u "<init>"), (0, u "()V"), (0, .methodref 2 8), (0, .nameAndType 5 9), (0, u "(Ljava/lang/String;)V"), (0, .methodref 2 11), (0, .nameAndType 5 12), (0, u "(Ljava/lang/String;Ljava/lang/Throwable;)V"), (6, .class_ 20), (0, u "java/lang/Exception"), (0, u "serialVersionUID"), (0, u "J")] 17

def k10m0 : Method := { name := "<init>", desc := "()V", sig := { parameters := [], returnType := none }, accessFlags := 1, code := none }
def k10c1 : Code := { maxStack := 2, maxLocals := 2, code := jdk_59_method_2_code, exceptionTable := #[], attributes := #[] }
def k10m1 : Method := { name := "<init>", desc := "(Ljava/lang/String;)V", sig := { parameters := [(.object "java/lang/String")], returnType := none }, accessFlags := 1, code := some k10c1 }
def k10c2 : Code := { maxStack := 3, maxLocals := 3, code := jdk_59_method_3_code, exceptionTable := #[], attributes := #[] }
def k10m2 : Method := { name := "<init>", desc := "(Ljava/lang/String;Ljava/lang/Throwable;)V", sig := { parameters := [(.object "java/lang/String"), (.object "java/lang/Throwable")], returnType := none }, accessFlags := 1, code := some k10c2 }
/-- java/lang/Exception -/
def k10 : Class := { plain "java/lang/Exception" (some 9) with
  accessFlags := 33
  interfaces := #[]
  cf := some (fileOf pool10 19 #[] #[{ accessFlags := 1, nameIndex := 5, descriptorIndex := 6, attributes := #[] }, { accessFlags := 1, nameIndex := 5, descriptorIndex := 9, attributes := #[] }, { accessFlags := 1, nameIndex := 5, descriptorIndex := 12, attributes := #[] }] 33 2 #[] #[{ accessFlags := 24, nameIndex := 21, descriptorIndex := 22, attributes := #[] }])
  fields := #[{ name := "serialVersionUID", type := .long, accessFlags := 24, slot := 0, constantValue := 0 }]
  methods := #[k10m0, k10m1, k10m2]
  instanceTypes := #[(.object "java/lang/Object"), (.object "java/lang/String"), (.object "java/lang/Throwable"), (.array (.object "java/lang/StackTraceElement")), .int, (.object "java/util/List")]
  staticTypes := #[.long]
  resolved := Array.replicate 40 none
  statics := none }

def pool11 : Array CpInfo := pool [(1, .methodref 2 3), (0, .class_ 4), (0, .nameAndType 5 6), (0, u "java/lang/Exception"), (0, u "<init>"), (0, u "(Ljava/lang/String;)V"), (0, .class_ 8), (0, u "java/lang/String"), (0, .fieldref 10 11), (0, .class_ 12), (0, .nameAndType 13 14), (0, u "com/example/featurewright/featurewright/io/FeaturewrightException"), (0, u "lines"), (0, u "[Ljava/lang/String;"), (0, .methodref 2 16), (0, .nameAndType 5 17), (0, u "(Ljava/lang/String;Ljava/lang/Throwable;)V"), (26, u "serialVersionUID"), (0, u "J")] 20

def k11c0 : Code := { maxStack := 5, maxLocals := 2, code := prog_27_method_1_code, exceptionTable := #[], attributes := #[] }
def k11m0 : Method := { name := "<init>", desc := "(Ljava/lang/String;)V", sig := { parameters := [(.object "java/lang/String")], returnType := none }, accessFlags := 0, code := some k11c0 }
def k11c1 : Code := { maxStack := 5, maxLocals := 3, code := prog_27_method_2_code, exceptionTable := #[], attributes := #[] }
def k11m1 : Method := { name := "<init>", desc := "(Ljava/lang/String;Ljava/lang/Throwable;)V", sig := { parameters := [(.object "java/lang/String"), (.object "java/lang/Throwable")], returnType := none }, accessFlags := 0, code := some k11c1 }
/-- com/example/featurewright/featurewright/io/FeaturewrightException -/
def k11 : Class := { plain "com/example/featurewright/featurewright/io/FeaturewrightException" (some 10) with
  accessFlags := 1057
  interfaces := #[]
  cf := some (fileOf pool11 10 #[] #[{ accessFlags := 0, nameIndex := 5, descriptorIndex := 6, attributes := #[] }, { accessFlags := 0, nameIndex := 5, descriptorIndex := 17, attributes := #[] }] 1057 2 #[] #[{ accessFlags := 26, nameIndex := 44, descriptorIndex := 45, attributes := #[] }, { accessFlags := 18, nameIndex := 13, descriptorIndex := 14, attributes := #[] }])
  fields := #[{ name := "serialVersionUID", type := .long, accessFlags := 26, slot := 0, constantValue := 0 }, { name := "lines", type := (.array (.object "java/lang/String")), accessFlags := 18, slot := 6, constantValue := 0 }]
  methods := #[k11m0, k11m1]
  instanceTypes := #[(.object "java/lang/Object"), (.object "java/lang/String"), (.object "java/lang/Throwable"), (.array (.object "java/lang/StackTraceElement")), .int, (.object "java/util/List"), (.array (.object "java/lang/String"))]
  staticTypes := #[.long]
  resolved := Array.replicate 66 none
  statics := none }

def pool12 : Array CpInfo := pool [(1, .methodref 2 3), (0, .class_ 4), (0, .nameAndType 5 6), (0, u "com/example/featurewright/featurewright/io/FeaturewrightException"), (0, u "<init>"), (0, u "(Ljava/lang/String;)V"), (3, .class_ 11), (0, u "com/example/featurewright/featurewright/io/BadInputException"), (0, u "serialVersionUID"), (0, u "J")] 7

def k12c0 : Code := { maxStack := 2, maxLocals := 2, code := prog_17_method_1_code, exceptionTable := #[], attributes := #[] }
def k12m0 : Method := { name := "<init>", desc := "(Ljava/lang/String;)V", sig := { parameters := [(.object "java/lang/String")], returnType := none }, accessFlags := 1, code := some k12c0 }
/-- com/example/featurewright/featurewright/io/BadInputException -/
def k12 : Class := { plain "com/example/featurewright/featurewright/io/BadInputException" (some 11) with
  accessFlags := 49
  interfaces := #[]
  cf := some (fileOf pool12 10 #[] #[{ accessFlags := 1, nameIndex := 5, descriptorIndex := 6, attributes := #[] }] 49 2 #[] #[{ accessFlags := 26, nameIndex := 12, descriptorIndex := 13, attributes := #[] }])
  fields := #[{ name := "serialVersionUID", type := .long, accessFlags := 26, slot := 0, constantValue := 0 }]
  methods := #[k12m0]
  instanceTypes := #[(.object "java/lang/Object"), (.object "java/lang/String"), (.object "java/lang/Throwable"), (.array (.object "java/lang/StackTraceElement")), .int, (.object "java/util/List"), (.array (.object "java/lang/String"))]
  staticTypes := #[.long]
  resolved := Array.replicate 21 none
  statics := none }

def pool13 : Array CpInfo := pool [(2, .class_ 4), (1, u "java/lang/Object"), (0, u "<init>"), (0, u "()V"), (0, .class_ 8), (0, u "com/example/featurewright/featurewright/io/BadInputException"), (0, .class_ 10), (0, u "com/example/featurewright/featurewright/cli/ExitCode"), (0, .class_ 12), (0, u "com/example/featurewright/featurewright/io/RefusedException"), (32, u "of"), (0, u "(Lcom/example/featurewright/featurewright/io/FeaturewrightException;)I"), (0, u "DONE"), (0, u "I"), (2, u "USAGE"), (1, u "BAD_INPUT"), (1, u "REFUSED"), (1, u "WRITE_FAILED")] 8

def k13m0 : Method := { name := "<init>", desc := "()V", sig := { parameters := [], returnType := none }, accessFlags := 2, code := none }
def k13c1 : Code := { maxStack := 1, maxLocals := 2, code := prog_5_method_2_code, exceptionTable := #[], attributes := #[] }
def k13m1 : Method := { name := "of", desc := "(Lcom/example/featurewright/featurewright/io/FeaturewrightException;)I", sig := { parameters := [(.object "com/example/featurewright/featurewright/io/FeaturewrightException")], returnType := some .int }, accessFlags := 9, code := some k13c1 }
/-- com/example/featurewright/featurewright/cli/ExitCode -/
def k13 : Class := { plain "com/example/featurewright/featurewright/cli/ExitCode" (some 0) with
  accessFlags := 49
  interfaces := #[]
  cf := some (fileOf pool13 9 #[] #[{ accessFlags := 2, nameIndex := 5, descriptorIndex := 6, attributes := #[] }, { accessFlags := 9, nameIndex := 45, descriptorIndex := 46, attributes := #[] }] 49 2 #[] #[{ accessFlags := 25, nameIndex := 47, descriptorIndex := 48, attributes := #[] }, { accessFlags := 25, nameIndex := 51, descriptorIndex := 48, attributes := #[] }, { accessFlags := 25, nameIndex := 53, descriptorIndex := 48, attributes := #[] }, { accessFlags := 25, nameIndex := 55, descriptorIndex := 48, attributes := #[] }, { accessFlags := 25, nameIndex := 57, descriptorIndex := 48, attributes := #[] }])
  fields := #[{ name := "DONE", type := .int, accessFlags := 25, slot := 0, constantValue := 0 }, { name := "USAGE", type := .int, accessFlags := 25, slot := 1, constantValue := 0 }, { name := "BAD_INPUT", type := .int, accessFlags := 25, slot := 2, constantValue := 0 }, { name := "REFUSED", type := .int, accessFlags := 25, slot := 3, constantValue := 0 }, { name := "WRITE_FAILED", type := .int, accessFlags := 25, slot := 4, constantValue := 0 }]
  methods := #[k13m0, k13m1]
  instanceTypes := #[]
  staticTypes := #[.int, .int, .int, .int, .int]
  resolved := Array.replicate 66 none
  statics := none }

def pool14 : Array CpInfo := pool [(1, .methodref 2 3), (0, .class_ 4), (0, .nameAndType 5 6), (0, u "com/example/featurewright/featurewright/io/FeaturewrightException"), (0, u "<init>"), (0, u "(Ljava/lang/String;)V"), (3, .class_ 11), (0, u "com/example/featurewright/featurewright/io/RefusedException"), (0, u "serialVersionUID"), (0, u "J")] 9

def k14c0 : Code := { maxStack := 2, maxLocals := 2, code := prog_39_method_1_code, exceptionTable := #[], attributes := #[] }
def k14m0 : Method := { name := "<init>", desc := "(Ljava/lang/String;)V", sig := { parameters := [(.object "java/lang/String")], returnType := none }, accessFlags := 1, code := some k14c0 }
/-- com/example/featurewright/featurewright/io/RefusedException -/
def k14 : Class := { plain "com/example/featurewright/featurewright/io/RefusedException" (some 11) with
  accessFlags := 49
  interfaces := #[]
  cf := some (fileOf pool14 10 #[] #[{ accessFlags := 1, nameIndex := 5, descriptorIndex := 6, attributes := #[] }] 49 2 #[] #[{ accessFlags := 26, nameIndex := 12, descriptorIndex := 13, attributes := #[] }])
  fields := #[{ name := "serialVersionUID", type := .long, accessFlags := 26, slot := 0, constantValue := 0 }]
  methods := #[k14m0]
  instanceTypes := #[(.object "java/lang/Object"), (.object "java/lang/String"), (.object "java/lang/Throwable"), (.array (.object "java/lang/StackTraceElement")), .int, (.object "java/util/List"), (.array (.object "java/lang/String"))]
  staticTypes := #[.long]
  resolved := Array.replicate 23 none
  statics := none }

def pool15 : Array CpInfo := pool [(1, .methodref 2 3), (0, .class_ 4), (0, .nameAndType 5 6), (0, u "com/example/featurewright/featurewright/io/FeaturewrightException"), (0, u "<init>"), (0, u "(Ljava/lang/String;Ljava/lang/Throwable;)V"), (0, .class_ 8), (0, u "com/example/featurewright/featurewright/io/WriteFailedException"), (0, u "serialVersionUID"), (0, u "J")] 7

def k15c0 : Code := { maxStack := 3, maxLocals := 3, code := prog_65_method_1_code, exceptionTable := #[], attributes := #[] }
def k15m0 : Method := { name := "<init>", desc := "(Ljava/lang/String;Ljava/lang/Throwable;)V", sig := { parameters := [(.object "java/lang/String"), (.object "java/lang/Throwable")], returnType := none }, accessFlags := 1, code := some k15c0 }
/-- com/example/featurewright/featurewright/io/WriteFailedException -/
def k15 : Class := { plain "com/example/featurewright/featurewright/io/WriteFailedException" (some 11) with
  accessFlags := 49
  interfaces := #[]
  cf := some (fileOf pool15 7 #[] #[{ accessFlags := 1, nameIndex := 5, descriptorIndex := 6, attributes := #[] }] 49 2 #[] #[{ accessFlags := 26, nameIndex := 9, descriptorIndex := 10, attributes := #[] }])
  fields := #[{ name := "serialVersionUID", type := .long, accessFlags := 26, slot := 0, constantValue := 0 }]
  methods := #[k15m0]
  instanceTypes := #[(.object "java/lang/Object"), (.object "java/lang/String"), (.object "java/lang/Throwable"), (.array (.object "java/lang/StackTraceElement")), .int, (.object "java/util/List"), (.array (.object "java/lang/String"))]
  staticTypes := #[.long]
  resolved := Array.replicate 18 none
  statics := none }

def pool16 : Array CpInfo := pool [(4, .class_ 6), (1, u "java/lang/Object"), (0, u "<init>"), (0, u "()V"), (5, .class_ 16), (1, u "java/lang/StringLatin1"), (104, u "$assertionsDisabled"), (0, u "Z"), (98, .class_ 223), (1, u "java/lang/StringLatin1$LinesSpliterator"), (166, .class_ 391), (0, u "java/lang/StringLatin1$CharsSpliterator")] 3

def k16m0 : Method := { name := "<init>", desc := "()V", sig := { parameters := [], returnType := none }, accessFlags := 0, code := none }
/-- java/lang/StringLatin1 -/
def k16 : Class := { plain "java/lang/StringLatin1" (some 0) with
  accessFlags := 48
  interfaces := #[]
  cf := some (fileOf pool16 14 #[.nestMembers #[390, 221]] #[{ accessFlags := 0, nameIndex := 7, descriptorIndex := 8, attributes := #[] }] 48 4 #[] #[{ accessFlags := 4120, nameIndex := 121, descriptorIndex := 122, attributes := #[] }])
  fields := #[{ name := "$assertionsDisabled", type := .boolean, accessFlags := 4120, slot := 0, constantValue := 0 }]
  methods := #[k16m0]
  instanceTypes := #[]
  staticTypes := #[.boolean]
  resolved := Array.replicate 395 none
  statics := none }

def pool17 : Array CpInfo := pool [(2, .class_ 4), (1, u "java/lang/Object"), (0, u "<init>"), (0, u "()V"), (17, .class_ 26), (1, u "jdk/internal/util/Preconditions"), (28, .class_ 56), (0, u "jdk/internal/util/Preconditions$4"), (57, .class_ 115), (0, u "jdk/internal/util/Preconditions$1"), (7, u "SIOOBE_FORMATTER"), (0, u "Ljava/util/function/BiFunction;"), (0, .class_ 126), (0, u "jdk/internal/util/Preconditions$2"), (3, u "AIOOBE_FORMATTER"), (0, .class_ 132), (0, u "jdk/internal/util/Preconditions$3"), (3, u "IOOBE_FORMATTER")] 57

def k17m0 : Method := { name := "<init>", desc := "()V", sig := { parameters := [], returnType := none }, accessFlags := 1, code := none }
/-- jdk/internal/util/Preconditions -/
def k17 : Class := { plain "jdk/internal/util/Preconditions" (some 0) with
  accessFlags := 33
  interfaces := #[]
  cf := some (fileOf pool17 24 #[.nestMembers #[55, 131, 125, 114]] #[{ accessFlags := 1, nameIndex := 5, descriptorIndex := 6, attributes := #[] }] 33 2 #[] #[{ accessFlags := 25, nameIndex := 123, descriptorIndex := 124, attributes := #[] }, { accessFlags := 25, nameIndex := 130, descriptorIndex := 124, attributes := #[] }, { accessFlags := 25, nameIndex := 136, descriptorIndex := 124, attributes := #[] }])
  fields := #[{ name := "SIOOBE_FORMATTER", type := (.object "java/util/function/BiFunction"), accessFlags := 25, slot := 0, constantValue := 0 }, { name := "AIOOBE_FORMATTER", type := (.object "java/util/function/BiFunction"), accessFlags := 25, slot := 1, constantValue := 0 }, { name := "IOOBE_FORMATTER", type := (.object "java/util/function/BiFunction"), accessFlags := 25, slot := 2, constantValue := 0 }]
  methods := #[k17m0]
  instanceTypes := #[]
  staticTypes := #[(.object "java/util/function/BiFunction"), (.object "java/util/function/BiFunction"), (.object "java/util/function/BiFunction")]
  resolved := Array.replicate 194 none
  statics := some 2 }

def pool18 : Array CpInfo := pool [(9, u "<init>"), (6, .class_ 18), (1, u "java/lang/Object"), (0, u "()V"), (1, .class_ 23), (1, u "jdk/internal/util/ArraysSupport"), (0, u "LOG2_ARRAY_LONG_INDEX_SCALE"), (0, u "I"), (2, u "U"), (0, u "Ljdk/internal/misc/Unsafe;"), (8, u "BIG_ENDIAN"), (0, u "Z"), (8, u "LOG2_BYTE_BIT_SIZE"), (4, u "LOG2_ARRAY_INT_INDEX_SCALE"), (54, u "JLA"), (0, u "Ljdk/internal/access/JavaLangAccess;"), (11, u "LOG2_ARRAY_BOOLEAN_INDEX_SCALE"), (9, u "LOG2_ARRAY_BYTE_INDEX_SCALE"), (5, u "LOG2_ARRAY_CHAR_INDEX_SCALE"), (5, u "LOG2_ARRAY_SHORT_INDEX_SCALE"), (18, u "LOG2_ARRAY_FLOAT_INDEX_SCALE"), (24, u "LOG2_ARRAY_DOUBLE_INDEX_SCALE"), (89, u "T_BOOLEAN"), (2, u "T_CHAR"), (1, u "T_FLOAT"), (1, u "T_DOUBLE"), (1, u "T_BYTE"), (1, u "T_SHORT"), (1, u "T_INT"), (1, u "T_LONG"), (1, u "SOFT_MAX_ARRAY_LENGTH")] 83

def k18m0 : Method := { name := "<init>", desc := "()V", sig := { parameters := [], returnType := none }, accessFlags := 2, code := none }
/-- jdk/internal/util/ArraysSupport -/
def k18 : Class := { plain "jdk/internal/util/ArraysSupport" (some 0) with
  accessFlags := 33
  interfaces := #[]
  cf := some (fileOf pool18 21 #[] #[{ accessFlags := 2, nameIndex := 9, descriptorIndex := 19, attributes := #[] }] 33 16 #[] #[{ accessFlags := 24, nameIndex := 28, descriptorIndex := 29, attributes := #[] }, { accessFlags := 26, nameIndex := 38, descriptorIndex := 39, attributes := #[] }, { accessFlags := 25, nameIndex := 121, descriptorIndex := 25, attributes := #[] }, { accessFlags := 25, nameIndex := 131, descriptorIndex := 25, attributes := #[] }, { accessFlags := 25, nameIndex := 137, descriptorIndex := 25, attributes := #[] }, { accessFlags := 25, nameIndex := 143, descriptorIndex := 25, attributes := #[] }, { accessFlags := 25, nameIndex := 53, descriptorIndex := 25, attributes := #[] }, { accessFlags := 25, nameIndex := 24, descriptorIndex := 25, attributes := #[] }, { accessFlags := 25, nameIndex := 162, descriptorIndex := 25, attributes := #[] }, { accessFlags := 25, nameIndex := 187, descriptorIndex := 25, attributes := #[] }, { accessFlags := 26, nameIndex := 48, descriptorIndex := 25, attributes := #[] }, { accessFlags := 25, nameIndex := 277, descriptorIndex := 25, attributes := #[] }, { accessFlags := 25, nameIndex := 280, descriptorIndex := 25, attributes := #[] }, { accessFlags := 25, nameIndex := 282, descriptorIndex := 25, attributes := #[] }, { accessFlags := 25, nameIndex := 284, descriptorIndex := 25, attributes := #[] }, { accessFlags := 25, nameIndex := 286, descriptorIndex := 25, attributes := #[] }, { accessFlags := 25, nameIndex := 288, descriptorIndex := 25, attributes := #[] }, { accessFlags := 25, nameIndex := 290, descriptorIndex := 25, attributes := #[] }, { accessFlags := 25, nameIndex := 292, descriptorIndex := 25, attributes := #[] }, { accessFlags := 26, nameIndex := 108, descriptorIndex := 109, attributes := #[] }, { accessFlags := 25, nameIndex := 294, descriptorIndex := 25, attributes := #[] }])
  fields := #[{ name := "U", type := (.object "jdk/internal/misc/Unsafe"), accessFlags := 24, slot := 0, constantValue := 0 }, { name := "BIG_ENDIAN", type := .boolean, accessFlags := 26, slot := 1, constantValue := 0 }, { name := "LOG2_ARRAY_BOOLEAN_INDEX_SCALE", type := .int, accessFlags := 25, slot := 2, constantValue := 0 }, { name := "LOG2_ARRAY_BYTE_INDEX_SCALE", type := .int, accessFlags := 25, slot := 3, constantValue := 0 }, { name := "LOG2_ARRAY_CHAR_INDEX_SCALE", type := .int, accessFlags := 25, slot := 4, constantValue := 0 }, { name := "LOG2_ARRAY_SHORT_INDEX_SCALE", type := .int, accessFlags := 25, slot := 5, constantValue := 0 }, { name := "LOG2_ARRAY_INT_INDEX_SCALE", type := .int, accessFlags := 25, slot := 6, constantValue := 0 }, { name := "LOG2_ARRAY_LONG_INDEX_SCALE", type := .int, accessFlags := 25, slot := 7, constantValue := 0 }, { name := "LOG2_ARRAY_FLOAT_INDEX_SCALE", type := .int, accessFlags := 25, slot := 8, constantValue := 0 }, { name := "LOG2_ARRAY_DOUBLE_INDEX_SCALE", type := .int, accessFlags := 25, slot := 9, constantValue := 0 }, { name := "LOG2_BYTE_BIT_SIZE", type := .int, accessFlags := 26, slot := 10, constantValue := 0 }, { name := "T_BOOLEAN", type := .int, accessFlags := 25, slot := 11, constantValue := 0 }, { name := "T_CHAR", type := .int, accessFlags := 25, slot := 12, constantValue := 0 }, { name := "T_FLOAT", type := .int, accessFlags := 25, slot := 13, constantValue := 0 }, { name := "T_DOUBLE", type := .int, accessFlags := 25, slot := 14, constantValue := 0 }, { name := "T_BYTE", type := .int, accessFlags := 25, slot := 15, constantValue := 0 }, { name := "T_SHORT", type := .int, accessFlags := 25, slot := 16, constantValue := 0 }, { name := "T_INT", type := .int, accessFlags := 25, slot := 17, constantValue := 0 }, { name := "T_LONG", type := .int, accessFlags := 25, slot := 18, constantValue := 0 }, { name := "JLA", type := (.object "jdk/internal/access/JavaLangAccess"), accessFlags := 26, slot := 19, constantValue := 0 }, { name := "SOFT_MAX_ARRAY_LENGTH", type := .int, accessFlags := 25, slot := 20, constantValue := 0 }]
  methods := #[k18m0]
  instanceTypes := #[]
  staticTypes := #[(.object "jdk/internal/misc/Unsafe"), .boolean, .int, .int, .int, .int, .int, .int, .int, .int, .int, .int, .int, .int, .int, .int, .int, .int, .int, (.object "jdk/internal/access/JavaLangAccess"), .int]
  resolved := Array.replicate 378 none
  statics := none }

def pool19 : Array CpInfo := pool [(2, .class_ 4), (1, u "java/lang/Object"), (0, u "<init>"), (0, u "()V"), (12, .class_ 20), (0, u "java/util/Collections"), (63, u "r"), (0, u "Ljava/util/Random;"), (80, .class_ 167), (0, u "java/util/Collections$UnmodifiableCollection"), (6, .class_ 175), (0, u "java/util/Collections$UnmodifiableSequencedCollection"), (6, .class_ 183), (0, u "java/util/Collections$UnmodifiableSet"), (6, .class_ 191), (0, u "java/util/Collections$UnmodifiableSequencedSet"), (6, .class_ 199), (0, u "java/util/Collections$UnmodifiableSortedSet"), (6, .class_ 207), (0, u "java/util/Collections$UnmodifiableNavigableSet"), (4, .class_ 213), (0, u "java/util/Collections$UnmodifiableList"), (1, .class_ 216), (0, u "java/util/Collections$UnmodifiableRandomAccessList"), (6, .class_ 224), (0, u "java/util/Collections$UnmodifiableMap"), (6, .class_ 232), (0, u "java/util/Collections$UnmodifiableSequencedMap"), (4, .class_ 238), (0, u "java/util/Collections$UnmodifiableSortedMap"), (6, .class_ 246), (0, u "java/util/Collections$UnmodifiableNavigableMap"), (3, .class_ 251), (0, u "java/util/Collections$SynchronizedCollection"), (4, .class_ 257), (0, u "java/util/Collections$SynchronizedSet"), (4, .class_ 263), (0, u "java/util/Collections$SynchronizedSortedSet"), (1, .class_ 266), (0, u "java/util/Collections$SynchronizedNavigableSet"), (1, .class_ 269), (0, u "java/util/Collections$SynchronizedRandomAccessList"), (1, .class_ 272), (0, u "java/util/Collections$SynchronizedList"), (5, .class_ 279), (0, u "java/util/Collections$SynchronizedMap"), (1, .class_ 282), (0, u "java/util/Collections$SynchronizedSortedMap"), (1, .class_ 285), (0, u "java/util/Collections$SynchronizedNavigableMap"), (1, .class_ 288), (0, u "java/util/Collections$CheckedCollection"), (11, .class_ 301), (0, u "java/util/Collections$CheckedQueue"), (3, .class_ 306), (0, u "java/util/Collections$CheckedSet"), (3, .class_ 311), (0, u "java/util/Collections$CheckedSortedSet"), (3, .class_ 316), (0, u "java/util/Collections$CheckedNavigableSet"), (3, .class_ 321), (0, u "java/util/Collections$CheckedRandomAccessList"), (3, .class_ 326), (0, u "java/util/Collections$CheckedList"), (1, .class_ 329), (0, u "java/util/Collections$CheckedMap"), (3, .class_ 334), (0, u "java/util/Collections$CheckedSortedMap"), (3, .class_ 339), (0, u "java/util/Collections$CheckedNavigableMap"), (4, .class_ 346), (1, u "java/util/Collections$EmptyIterator"), (3, .class_ 352), (1, u "java/util/Collections$EmptyListIterator"), (2, .class_ 357), (1, u "java/util/Collections$EmptyEnumeration"), (4, u "EMPTY_SET"), (0, u "Ljava/util/Set;"), (6, u "EMPTY_LIST"), (0, u "Ljava/util/List;"), (2, u "EMPTY_MAP"), (0, u "Ljava/util/Map;"), (4, .class_ 381), (0, u "java/util/Collections$SingletonSet"), (2, .class_ 385), (0, u "java/util/Collections$1"), (1, .class_ 388), (0, u "java/util/Collections$2"), (1, .class_ 391), (0, u "java/util/Collections$SingletonList"), (1, .class_ 394), (0, u "java/util/Collections$SingletonMap"), (22, .class_ 418), (0, u "java/util/Collections$CopiesList"), (4, .class_ 425), (1, u "java/util/Collections$ReverseComparator"), (8, .class_ 435), (0, u "java/util/Collections$ReverseComparator2"), (6, .class_ 443), (0, u "java/util/Collections$3"), (25, .class_ 470), (0, u "java/util/Collections$SetFromMap"), (2, .class_ 474), (0, u "java/util/Collections$SequencedSetFromMap"), (3, .class_ 479), (0, u "java/util/Collections$AsLIFOQueue"), (11, .class_ 492), (0, u "java/util/Collections$EmptySet"), (1, .class_ 495), (0, u "java/util/Collections$EmptyList"), (1, .class_ 498), (0, u "java/util/Collections$EmptyMap"), (1, u "BINARYSEARCH_THRESHOLD"), (0, u "I"), (2, u "REVERSE_THRESHOLD"), (1, u "SHUFFLE_THRESHOLD"), (1, u "FILL_THRESHOLD"), (1, u "ROTATE_THRESHOLD"), (1, u "COPY_THRESHOLD"), (1, u "REPLACEALL_THRESHOLD"), (1, u "INDEXOFSUBLIST_THRESHOLD"), (333, .class_ 851), (0, u "java/util/Collections$CheckedMap$CheckedEntrySet"), (0, .class_ 853), (0, u "java/util/Collections$CheckedMap$CheckedEntrySet$CheckedEntry"), (0, .class_ 855), (0, u "java/util/Collections$CheckedMap$CheckedEntrySet$1"), (0, .class_ 857), (0, u "java/util/Collections$CheckedList$1"), (0, .class_ 859), (0, u "java/util/Collections$CheckedCollection$1"), (0, .class_ 861), (0, u "java/util/Collections$UnmodifiableNavigableMap$EmptyNavigableMap"), (0, .class_ 863), (0, u "java/util/Collections$UnmodifiableMap$UnmodifiableEntrySet"), (0, .class_ 865), (0, u "java/util/Collections$UnmodifiableMap$UnmodifiableEntrySet$UnmodifiableEntry"), (0, .class_ 867), (0, u "java/util/Collections$UnmodifiableMap$UnmodifiableEntrySet$UnmodifiableEntrySetSpliterator"), (0, .class_ 869), (0, u "java/util/Collections$UnmodifiableMap$UnmodifiableEntrySet$1"), (0, .class_ 871), (0, u "java/util/Collections$UnmodifiableList$1"), (0, .class_ 873), (0, u "java/util/Collections$UnmodifiableNavigableSet$EmptyNavigableSet"), (0, .class_ 875), (0, u "java/util/Collections$UnmodifiableCollection$1")] 57

def k19m0 : Method := { name := "<init>", desc := "()V", sig := { parameters := [], returnType := none }, accessFlags := 2, code := none }
/-- java/util/Collections -/
def k19 : Class := { plain "java/util/Collections" (some 0) with
  accessFlags := 33
  interfaces := #[]
  cf := some (fileOf pool19 19 #[.nestMembers #[478, 473, 469, 434, 423, 417, 393, 390, 380, 497, 494, 491, 355, 350, 344, 338, 333, 328, 850, 852, 854, 320, 325, 856, 315, 310, 305, 300, 287, 858, 284, 281, 278, 268, 271, 265, 262, 256, 250, 245, 860, 237, 231, 223, 862, 864, 866, 868, 215, 212, 870, 206, 872, 198, 190, 182, 174, 166, 874, 442, 387, 384]] #[{ accessFlags := 2, nameIndex := 5, descriptorIndex := 6, attributes := #[] }] 33 2 #[] #[{ accessFlags := 26, nameIndex := 500, descriptorIndex := 501, attributes := #[] }, { accessFlags := 26, nameIndex := 504, descriptorIndex := 501, attributes := #[] }, { accessFlags := 26, nameIndex := 506, descriptorIndex := 501, attributes := #[] }, { accessFlags := 26, nameIndex := 508, descriptorIndex := 501, attributes := #[] }, { accessFlags := 26, nameIndex := 510, descriptorIndex := 501, attributes := #[] }, { accessFlags := 26, nameIndex := 512, descriptorIndex := 501, attributes := #[] }, { accessFlags := 26, nameIndex := 514, descriptorIndex := 501, attributes := #[] }, { accessFlags := 26, nameIndex := 516, descriptorIndex := 501, attributes := #[] }, { accessFlags := 10, nameIndex := 84, descriptorIndex := 85, attributes := #[] }, { accessFlags := 25, nameIndex := 362, descriptorIndex := 363, attributes := #[] }, { accessFlags := 25, nameIndex := 370, descriptorIndex := 371, attributes := #[] }, { accessFlags := 25, nameIndex := 374, descriptorIndex := 375, attributes := #[] }])
  fields := #[{ name := "BINARYSEARCH_THRESHOLD", type := .int, accessFlags := 26, slot := 0, constantValue := 0 }, { name := "REVERSE_THRESHOLD", type := .int, accessFlags := 26, slot := 1, constantValue := 0 }, { name := "SHUFFLE_THRESHOLD", type := .int, accessFlags := 26, slot := 2, constantValue := 0 }, { name := "FILL_THRESHOLD", type := .int, accessFlags := 26, slot := 3, constantValue := 0 }, { name := "ROTATE_THRESHOLD", type := .int, accessFlags := 26, slot := 4, constantValue := 0 }, { name := "COPY_THRESHOLD", type := .int, accessFlags := 26, slot := 5, constantValue := 0 }, { name := "REPLACEALL_THRESHOLD", type := .int, accessFlags := 26, slot := 6, constantValue := 0 }, { name := "INDEXOFSUBLIST_THRESHOLD", type := .int, accessFlags := 26, slot := 7, constantValue := 0 }, { name := "r", type := (.object "java/util/Random"), accessFlags := 10, slot := 8, constantValue := 0 }, { name := "EMPTY_SET", type := (.object "java/util/Set"), accessFlags := 25, slot := 9, constantValue := 0 }, { name := "EMPTY_LIST", type := (.object "java/util/List"), accessFlags := 25, slot := 10, constantValue := 0 }, { name := "EMPTY_MAP", type := (.object "java/util/Map"), accessFlags := 25, slot := 11, constantValue := 0 }]
  methods := #[k19m0]
  instanceTypes := #[]
  staticTypes := #[.int, .int, .int, .int, .int, .int, .int, .int, (.object "java/util/Random"), (.object "java/util/Set"), (.object "java/util/List"), (.object "java/util/Map")]
  resolved := Array.replicate 933 none
  statics := some 3 }

def pool20 : Array CpInfo := pool [(8, .class_ 10), (1, u "java/lang/Iterable"), (24, .class_ 36), (0, u "java/lang/Object")] 25

/-- java/lang/Iterable -/
def k20 : Class := { plain "java/lang/Iterable" (some 0) with
  accessFlags := 1537
  interfaces := #[]
  cf := some (fileOf pool20 8 #[] #[] 1537 35 #[] #[])
  fields := #[]
  methods := #[]
  instanceTypes := #[]
  staticTypes := #[]
  resolved := Array.replicate 62 none
  statics := none }

def pool21 : Array CpInfo := pool [(10, .class_ 12), (1, u "java/util/Collection"), (47, .class_ 61), (0, u "java/lang/Object"), (0, .class_ 63), (0, u "java/lang/Iterable")] 51

/-- java/util/Collection -/
def k21 : Class := { plain "java/util/Collection" (some 0) with
  accessFlags := 1537
  interfaces := #[20]
  cf := some (fileOf pool21 10 #[] #[] 1537 60 #[62] #[])
  fields := #[]
  methods := #[]
  instanceTypes := #[]
  staticTypes := #[]
  resolved := Array.replicate 115 none
  statics := none }

def pool22 : Array CpInfo := pool [(2, .class_ 4), (1, u "java/lang/Object"), (0, u "<init>"), (0, u "()V"), (1, .class_ 10), (1, u "java/util/AbstractCollection"), (66, .class_ 78), (0, u "java/util/Collection")] 81

def k22m0 : Method := { name := "<init>", desc := "()V", sig := { parameters := [], returnType := none }, accessFlags := 4, code := none }
/-- java/util/AbstractCollection -/
def k22 : Class := { plain "java/util/AbstractCollection" (some 0) with
  accessFlags := 1057
  interfaces := #[21]
  cf := some (fileOf pool22 8 #[] #[{ accessFlags := 4, nameIndex := 5, descriptorIndex := 6, attributes := #[] }] 1057 2 #[77] #[])
  fields := #[]
  methods := #[k22m0]
  instanceTypes := #[]
  staticTypes := #[]
  resolved := Array.replicate 160 none
  statics := none }

def pool23 : Array CpInfo := pool [(8, .class_ 10), (1, u "java/util/SequencedCollection"), (15, .class_ 27), (0, u "java/lang/Object"), (0, .class_ 29), (0, u "java/util/Collection")] 27

/-- java/util/SequencedCollection -/
def k23 : Class := { plain "java/util/SequencedCollection" (some 0) with
  accessFlags := 1537
  interfaces := #[21]
  cf := some (fileOf pool23 8 #[] #[] 1537 26 #[28] #[])
  fields := #[]
  methods := #[]
  instanceTypes := #[]
  staticTypes := #[]
  resolved := Array.replicate 57 none
  statics := none }

def pool24 : Array CpInfo := pool [(8, .class_ 10), (1, u "java/util/List"), (92, .class_ 104), (0, u "java/lang/Object"), (15, .class_ 121), (0, u "java/util/SequencedCollection")] 129

/-- java/util/List -/
def k24 : Class := { plain "java/util/List" (some 0) with
  accessFlags := 1537
  interfaces := #[23]
  cf := some (fileOf pool24 8 #[] #[] 1537 103 #[120] #[])
  fields := #[]
  methods := #[]
  instanceTypes := #[]
  staticTypes := #[]
  resolved := Array.replicate 251 none
  statics := none }

def pool25 : Array CpInfo := pool [(2, .class_ 4), (1, u "java/util/AbstractCollection"), (0, u "<init>"), (0, u "()V"), (1, .class_ 10), (1, u "java/util/AbstractList"), (0, u "modCount"), (0, u "I"), (64, .class_ 78), (0, u "java/util/AbstractList$Itr"), (3, .class_ 83), (0, u "java/util/AbstractList$ListItr"), (9, .class_ 94), (0, u "java/util/AbstractList$RandomAccessSubList"), (3, .class_ 99), (0, u "java/util/AbstractList$SubList"), (33, .class_ 134), (0, u "java/util/List"), (73, .class_ 209), (0, u "java/util/AbstractList$SubList$1"), (0, .class_ 211), (0, u "java/util/AbstractList$RandomAccessSpliterator")] 6

def k25m0 : Method := { name := "<init>", desc := "()V", sig := { parameters := [], returnType := none }, accessFlags := 4, code := none }
/-- java/util/AbstractList -/
def k25 : Class := { plain "java/util/AbstractList" (some 22) with
  accessFlags := 1057
  interfaces := #[24]
  cf := some (fileOf pool25 8 #[.nestMembers #[93, 98, 208, 210, 82, 77]] #[{ accessFlags := 4, nameIndex := 5, descriptorIndex := 6, attributes := #[] }] 1057 2 #[133] #[{ accessFlags := 132, nameIndex := 11, descriptorIndex := 12, attributes := #[] }])
  fields := #[{ name := "modCount", type := .int, accessFlags := 132, slot := 0, constantValue := 0 }]
  methods := #[k25m0]
  instanceTypes := #[.int]
  staticTypes := #[]
  resolved := Array.replicate 218 none
  statics := none }

def pool26 : Array CpInfo := pool [(1, .class_ 2), (0, u "java/util/RandomAccess"), (0, .class_ 4), (0, u "java/lang/Object")] 2

/-- java/util/RandomAccess -/
def k26 : Class := { plain "java/util/RandomAccess" (some 0) with
  accessFlags := 1537
  interfaces := #[]
  cf := some (fileOf pool26 1 #[] #[] 1537 3 #[] #[])
  fields := #[]
  methods := #[]
  instanceTypes := #[]
  staticTypes := #[]
  resolved := Array.replicate 7 none
  statics := none }

def pool27 : Array CpInfo := pool [(2, .class_ 4), (1, u "java/util/AbstractList"), (0, u "<init>"), (0, u "()V"), (1, .class_ 10), (1, u "java/util/Collections"), (54, .class_ 66), (0, u "java/util/Collections$EmptyList"), (0, .class_ 68), (0, u "java/util/RandomAccess"), (0, .class_ 70), (0, u "java/io/Serializable"), (0, u "serialVersionUID"), (0, u "J")] 77

def k27m0 : Method := { name := "<init>", desc := "()V", sig := { parameters := [], returnType := none }, accessFlags := 2, code := none }
/-- java/util/Collections$EmptyList -/
def k27 : Class := { plain "java/util/Collections$EmptyList" (some 25) with
  accessFlags := 32
  interfaces := #[26, 2]
  cf := some (fileOf pool27 65 #[.nestHost 8] #[{ accessFlags := 2, nameIndex := 5, descriptorIndex := 6, attributes := #[] }] 32 2 #[67, 69] #[{ accessFlags := 26, nameIndex := 71, descriptorIndex := 72, attributes := #[] }])
  fields := #[{ name := "serialVersionUID", type := .long, accessFlags := 26, slot := 0, constantValue := 0 }]
  methods := #[k27m0]
  instanceTypes := #[.int]
  staticTypes := #[.long]
  resolved := Array.replicate 150 none
  statics := none }

def pool28 : Array CpInfo := pool [(2, .class_ 4), (1, u "java/lang/StackTraceElement"), (0, u "<init>"), (2, .class_ 10), (1, u "java/lang/Object"), (0, u "()V"), (2, u "format"), (0, u "B"), (2, u "classLoaderName"), (0, u "Ljava/lang/String;"), (2, u "moduleName"), (2, u "moduleVersion"), (12, u "declaringClass"), (4, u "methodName"), (2, u "fileName"), (2, u "lineNumber"), (0, u "I"), (65, u "declaringClassObject"), (0, u "Ljava/lang/Class;"), (33, .class_ 153), (1, u "java/lang/StackTraceElement$HashedModules"), (17, .class_ 172), (0, u "java/io/Serializable"), (0, u "NATIVE_METHOD"), (1, u "UNKNOWN_SOURCE"), (2, u "BUILTIN_CLASS_LOADER"), (1, u "JDK_NON_UPGRADEABLE_MODULE"), (1, u "serialVersionUID"), (0, u "J")] 51

def k28m0 : Method := { name := "<init>", desc := "()V", sig := { parameters := [], returnType := none }, accessFlags := 2, code := none }
/-- java/lang/StackTraceElement -/
def k28 : Class := { plain "java/lang/StackTraceElement" (some 0) with
  accessFlags := 49
  interfaces := #[2]
  cf := some (fileOf pool28 2 #[.nestMembers #[151]] #[{ accessFlags := 2, nameIndex := 5, descriptorIndex := 11, attributes := #[] }] 49 8 #[171] #[{ accessFlags := 26, nameIndex := 173, descriptorIndex := 19, attributes := #[] }, { accessFlags := 26, nameIndex := 175, descriptorIndex := 19, attributes := #[] }, { accessFlags := 130, nameIndex := 116, descriptorIndex := 117, attributes := #[] }, { accessFlags := 2, nameIndex := 18, descriptorIndex := 19, attributes := #[] }, { accessFlags := 2, nameIndex := 22, descriptorIndex := 19, attributes := #[] }, { accessFlags := 2, nameIndex := 25, descriptorIndex := 19, attributes := #[] }, { accessFlags := 2, nameIndex := 38, descriptorIndex := 19, attributes := #[] }, { accessFlags := 2, nameIndex := 43, descriptorIndex := 19, attributes := #[] }, { accessFlags := 2, nameIndex := 46, descriptorIndex := 19, attributes := #[] }, { accessFlags := 2, nameIndex := 49, descriptorIndex := 50, attributes := #[] }, { accessFlags := 2, nameIndex := 14, descriptorIndex := 15, attributes := #[] }, { accessFlags := 26, nameIndex := 178, descriptorIndex := 15, attributes := #[] }, { accessFlags := 26, nameIndex := 180, descriptorIndex := 15, attributes := #[] }, { accessFlags := 26, nameIndex := 182, descriptorIndex := 183, attributes := #[] }])
  fields := #[{ name := "NATIVE_METHOD", type := (.object "java/lang/String"), accessFlags := 26, slot := 0, constantValue := 0 }, { name := "UNKNOWN_SOURCE", type := (.object "java/lang/String"), accessFlags := 26, slot := 1, constantValue := 0 }, { name := "declaringClassObject", type := (.object "java/lang/Class"), accessFlags := 130, slot := 0, constantValue := 0 }, { name := "classLoaderName", type := (.object "java/lang/String"), accessFlags := 2, slot := 1, constantValue := 0 }, { name := "moduleName", type := (.object "java/lang/String"), accessFlags := 2, slot := 2, constantValue := 0 }, { name := "moduleVersion", type := (.object "java/lang/String"), accessFlags := 2, slot := 3, constantValue := 0 }, { name := "declaringClass", type := (.object "java/lang/String"), accessFlags := 2, slot := 4, constantValue := 0 }, { name := "methodName", type := (.object "java/lang/String"), accessFlags := 2, slot := 5, constantValue := 0 }, { name := "fileName", type := (.object "java/lang/String"), accessFlags := 2, slot := 6, constantValue := 0 }, { name := "lineNumber", type := .int, accessFlags := 2, slot := 7, constantValue := 0 }, { name := "format", type := .byte, accessFlags := 2, slot := 8, constantValue := 0 }, { name := "BUILTIN_CLASS_LOADER", type := .byte, accessFlags := 26, slot := 2, constantValue := 0 }, { name := "JDK_NON_UPGRADEABLE_MODULE", type := .byte, accessFlags := 26, slot := 3, constantValue := 0 }, { name := "serialVersionUID", type := .long, accessFlags := 26, slot := 4, constantValue := 0 }]
  methods := #[k28m0]
  instanceTypes := #[(.object "java/lang/Class"), (.object "java/lang/String"), (.object "java/lang/String"), (.object "java/lang/String"), (.object "java/lang/String"), (.object "java/lang/String"), (.object "java/lang/String"), .int, .byte]
  staticTypes := #[(.object "java/lang/String"), (.object "java/lang/String"), .byte, .byte, .long]
  resolved := Array.replicate 235 none
  statics := none }

def pool29 : Array CpInfo := pool [(1, u "java/lang/Cloneable"), (0, .class_ 1), (0, u "java/lang/Object"), (0, .class_ 3)] 3

/-- java/lang/Cloneable -/
def k29 : Class := { plain "java/lang/Cloneable" (some 0) with
  accessFlags := 1537
  interfaces := #[]
  cf := some (fileOf pool29 2 #[] #[] 1537 4 #[] #[])
  fields := #[]
  methods := #[]
  instanceTypes := #[]
  staticTypes := #[]
  resolved := Array.replicate 8 none
  statics := none }

/-- the primitive byte -/
def k30 : Class := { plain "byte" none with kind := .primitive 'B', accessFlags := 0x411 }
/-- [B -/
def k31 : Class := { plain "[B" (some 0) with kind := .array 30 .byte, interfaces := #[29, 2], accessFlags := 1041 }

/-- the primitive char -/
def k32 : Class := { plain "char" none with kind := .primitive 'C', accessFlags := 0x411 }
/-- [C -/
def k33 : Class := { plain "[C" (some 0) with kind := .array 32 .char, interfaces := #[29, 2], accessFlags := 1041 }

/-- the primitive int -/
def k34 : Class := { plain "int" none with kind := .primitive 'I', accessFlags := 0x411 }
/-- [I -/
def k35 : Class := { plain "[I" (some 0) with kind := .array 34 .int, interfaces := #[29, 2], accessFlags := 1041 }

/-- [Ljava/lang/Object; -/
def k36 : Class := { plain "[Ljava/lang/Object;" (some 0) with kind := .array 0 (.object "java/lang/Object"), interfaces := #[29, 2], accessFlags := 1041 }

/-- [Ljava/lang/StackTraceElement; -/
def k37 : Class := { plain "[Ljava/lang/StackTraceElement;" (some 0) with kind := .array 28 (.object "java/lang/StackTraceElement"), interfaces := #[29, 2], accessFlags := 1041 }

/-- [Ljava/lang/String; -/
def k38 : Class := { plain "[Ljava/lang/String;" (some 0) with kind := .array 7 (.object "java/lang/String"), interfaces := #[29, 2], accessFlags := 1041 }

/-- [Ljava/lang/Throwable; -/
def k39 : Class := { plain "[Ljava/lang/Throwable;" (some 0) with kind := .array 9 (.object "java/lang/Throwable"), interfaces := #[29, 2], accessFlags := 1041 }

def heap : Heap := #[{ cls := 7, slots := #[.long 0, .int 1, .null, .int 0, .null, .int 0, .int 0], vm := .statics 7 },
  { cls := 9, slots := #[.long 0, .ref 4, .ref 5, .null, .null, .null, .null, .ref 6, .int 1], vm := .statics 9 },
  { cls := 17, slots := #[.null, .null, .null], vm := .statics 17 },
  { cls := 19, slots := #[.int 0, .int 0, .int 0, .int 0, .int 0, .int 0, .int 0, .int 0, .null, .null, .ref 5, .null], vm := .statics 19 },
  { cls := 37, slots := #[], vm := .none },
  { cls := 27, slots := #[.int 0], vm := .none },
  { cls := 39, slots := #[], vm := .none }]
def classes : Array Class := #[k0, k1, k2, k3, k4, k5, k6, k7, k8, k9, k10, k11, k12, k13, k14, k15, k16, k17, k18, k19, k20, k21, k22, k23, k24, k25, k26, k27, k28, k29, k30, k31, k32, k33, k34, k35, k36, k37, k38, k39]
def interned : List (Array UInt16 × Addr) := []
def slotsUsed : Nat := 32
def theMethod : MethodId := ⟨1, 1⟩
def args0 : Array Value := #[.int 0, .int 65, .int 66]
def aboutOver (below : List Frame) : State where
  vm := { classes := classes, interned := interned.toArray }
  heap := heap
  slotsUsed := slotsUsed
  threads := #[{ frames := .invoking theMethod args0 :: below }]
def below0 : List Frame := [.native { method := ⟨0, 0⟩, args := #[] }]
def about1 : State := aboutOver below0
def p0 : Program := .bare "" "" ""
def e0 : Env := launch0.env 0 0 0
theorem w_frames : about1.frames = Frame.invoking theMethod args0 :: below0 := rfl
set_option maxRecDepth 65536 in
theorem w_args : argsFit about1.vm theMethod args0 = true := by decide +kernel
set_option maxRecDepth 65536 in
theorem w_heap : heapFits about1 = true := by decide +kernel
set_option maxRecDepth 65536 in
theorem w_runnable : about1.curStatus? = some .runnable := by decide +kernel
set_option maxRecDepth 65536 in
theorem w_alone : about1.alone = true := by decide +kernel
set_option maxRecDepth 65536 in
theorem w_named : about1.methodNamed? x = some theMethod := by decide +kernel
set_option maxRecDepth 65536 in
theorem w_hears : about1.hears theMethod below0 = true := by decide +kernel
set_option maxRecDepth 65536 in
theorem w_ripe : about1.ripe theMethod args0 below0 = true := by decide +kernel
theorem w_running : about1.status = .running := rfl
set_option maxRecDepth 65536 in
theorem w_room : about1.hasRoom e0.platform room_1 = true :=
  launch0.hasRoom_least _ room_1 (by decide +kernel) (by decide +kernel) (by decide +kernel) (by decide +kernel) (by decide +kernel) (by decide +kernel)
theorem allAtoms_all (ts : List Jvm.Cond) (a : Array Jvm.Value) (st : Jvm.State) : (allAtoms ts).before a st = ts.all (fun c => c.before a st) := by
  induction ts with
  | nil => rfl
  | cons c t ih =>
    show (Jvm.Cond.and c (allAtoms t)).before a st = _
    rw [Jvm.Cond.before_and, ih, List.all_cons]
def words1 : List Jvm.Cond := Jvm.Cond.code x code maxLocals ret :: tables_1
/-- a 'code' word, met by the world's own term for the bytes: nothing is compared byte by byte -/
theorem code_word {y : MethodName} {bytes : ByteArray} {mx : Nat} {rt : Option FieldType} {a : Array Value} {s : State} {m : MethodId} {meth : Method} {c : Code} (h1 : s.methodNamed? y = some m) (h2 : s.vm.method? m = some meth) (h3 : meth.code = some c) (h4 : c.code = bytes)
    (h5 : (c.maxLocals == mx && c.exceptionTable.isEmpty && decide (c.maxStack ≤ mostOperands) && decide (meth.sig.returnType = rt) && !meth.locks && decide (parseMethodDescriptor y.desc = some meth.sig)) = true) : (Jvm.Cond.code y bytes mx rt).before a s = true := by
  simp only [Bool.and_eq_true, beq_iff_eq, Bool.not_eq_true', decide_eq_true_eq] at h5
  obtain ⟨⟨⟨⟨⟨g1, g2⟩, g3⟩, g4⟩, g5⟩, g6⟩ := h5
  simp [Cond.before, Cond.holds, Cond.value, h1, h2, h3, h4, g1, g2, g3, g4, g5, g6]
def isCode : Jvm.Cond → Bool
  | .code _ _ _ _ => true
  | _ => false
theorem all_split {L : List Jvm.Cond} {P : Jvm.Cond → Bool} (h1 : L.all (fun c => isCode c || P c) = true) (h2 : ∀ c ∈ L.filter isCode, P c = true) : L.all P = true := by
  refine List.all_eq_true.mpr fun c hc => ?_
  have h := List.all_eq_true.mp h1 c hc
  rcases Bool.eq_false_or_eq_true (isCode c) with hi | hi
  · exact h2 c (List.mem_filter.mpr ⟨hc, hi⟩)
  · simpa [hi] using h
set_option maxRecDepth 65536 in
theorem w_c0 : (Jvm.Cond.code x code maxLocals ret).before args0 about1 = true := code_word (m := ⟨1, 1⟩) (meth := k1m1) (c := k1c1) (by decide +kernel) rfl rfl rfl (by decide +kernel)
set_option maxRecDepth 65536 in
theorem w_c1 : (Jvm.Cond.code ({ cls := "java/lang/String", name := "<init>", desc := "([C)V" } : Jvm.MethodName) jdk_42_method_3_code (2 : Nat) (Option.none : Option Jvm.ClassFile.FieldType)).before args0 about1 = true := code_word (m := ⟨7, 1⟩) (meth := k7m1) (c := k7c1) (by decide +kernel) rfl rfl rfl (by decide +kernel)
set_option maxRecDepth 65536 in
theorem w_c2 : (Jvm.Cond.code ({ cls := "java/lang/String", name := "<init>", desc := "([CIILjava/lang/Void;)V" } : Jvm.MethodName) jdk_42_method_149_code (6 : Nat) (Option.none : Option Jvm.ClassFile.FieldType)).before args0 about1 = true := code_word (m := ⟨7, 2⟩) (meth := k7m2) (c := k7c2) (by decide +kernel) rfl rfl rfl (by decide +kernel)
set_option maxRecDepth 65536 in
theorem w_c3 : (Jvm.Cond.code ({ cls := "java/lang/Object", name := "<init>", desc := "()V" } : Jvm.MethodName) object_method_1_code (1 : Nat) (Option.none : Option Jvm.ClassFile.FieldType)).before args0 about1 = true := code_word (m := ⟨0, 0⟩) (meth := k0m0) (c := k0c0) (by decide +kernel) rfl rfl rfl (by decide +kernel)
set_option maxRecDepth 65536 in
theorem w_c4 : (Jvm.Cond.code ({ cls := "java/lang/StringUTF16", name := "compress", desc := "([CII)[B" } : Jvm.MethodName) jdk_52_method_16_code (6 : Nat) (Option.some (Jvm.ClassFile.FieldType.array Jvm.ClassFile.FieldType.byte))).before args0 about1 = true := code_word (m := ⟨8, 2⟩) (meth := k8m2) (c := k8c2) (by decide +kernel) rfl rfl rfl (by decide +kernel)
set_option maxRecDepth 65536 in
theorem w_c5 : (Jvm.Cond.code ({ cls := "java/lang/StringUTF16", name := "compress", desc := "([CI[BII)I" } : Jvm.MethodName) jdk_52_method_21_code (7 : Nat) (Option.some Jvm.ClassFile.FieldType.int)).before args0 about1 = true := code_word (m := ⟨8, 3⟩) (meth := k8m3) (c := k8c3) (by decide +kernel) rfl rfl rfl (by decide +kernel)
set_option maxRecDepth 65536 in
theorem w_c6 : (Jvm.Cond.code ({ cls := "java/lang/StringUTF16", name := "coderFromArrayLen", desc := "([BI)B" } : Jvm.MethodName) jdk_52_method_15_code (2 : Nat) (Option.some Jvm.ClassFile.FieldType.byte)).before args0 about1 = true := code_word (m := ⟨8, 1⟩) (meth := k8m1) (c := k8c1) (by decide +kernel) rfl rfl rfl (by decide +kernel)
set_option maxRecDepth 65536 in
theorem w_c7 : (Jvm.Cond.code ({ cls := "com/example/featurewright/featurewright/io/BadInputException", name := "<init>", desc := "(Ljava/lang/String;)V" } : Jvm.MethodName) prog_17_method_1_code (2 : Nat) (Option.none : Option Jvm.ClassFile.FieldType)).before args0 about1 = true := code_word (m := ⟨12, 0⟩) (meth := k12m0) (c := k12c0) (by decide +kernel) rfl rfl rfl (by decide +kernel)
set_option maxRecDepth 65536 in
theorem w_c8 : (Jvm.Cond.code ({ cls := "com/example/featurewright/featurewright/io/FeaturewrightException", name := "<init>", desc := "(Ljava/lang/String;)V" } : Jvm.MethodName) prog_27_method_1_code (2 : Nat) (Option.none : Option Jvm.ClassFile.FieldType)).before args0 about1 = true := code_word (m := ⟨11, 0⟩) (meth := k11m0) (c := k11c0) (by decide +kernel) rfl rfl rfl (by decide +kernel)
set_option maxRecDepth 65536 in
theorem w_c9 : (Jvm.Cond.code ({ cls := "java/lang/Exception", name := "<init>", desc := "(Ljava/lang/String;)V" } : Jvm.MethodName) jdk_59_method_2_code (2 : Nat) (Option.none : Option Jvm.ClassFile.FieldType)).before args0 about1 = true := code_word (m := ⟨10, 1⟩) (meth := k10m1) (c := k10c1) (by decide +kernel) rfl rfl rfl (by decide +kernel)
set_option maxRecDepth 65536 in
theorem w_c10 : (Jvm.Cond.code ({ cls := "java/lang/Throwable", name := "<init>", desc := "(Ljava/lang/String;)V" } : Jvm.MethodName) jdk_78_method_2_code (2 : Nat) (Option.none : Option Jvm.ClassFile.FieldType)).before args0 about1 = true := code_word (m := ⟨9, 1⟩) (meth := k9m1) (c := k9c1) (by decide +kernel) rfl rfl rfl (by decide +kernel)
set_option maxRecDepth 65536 in
theorem w_c11 : (Jvm.Cond.code ({ cls := "java/lang/Throwable", name := "<init>", desc := "()V" } : Jvm.MethodName) jdk_78_method_1_code (1 : Nat) (Option.none : Option Jvm.ClassFile.FieldType)).before args0 about1 = true := code_word (m := ⟨9, 0⟩) (meth := k9m0) (c := k9c0) (by decide +kernel) rfl rfl rfl (by decide +kernel)
set_option maxRecDepth 65536 in
theorem w_c12 : (Jvm.Cond.code ({ cls := "com/example/featurewright/featurewright/cli/ExitCode", name := "of", desc := "(Lcom/example/featurewright/featurewright/io/FeaturewrightException;)I" } : Jvm.MethodName) prog_5_method_2_code (2 : Nat) (Option.some Jvm.ClassFile.FieldType.int)).before args0 about1 = true := code_word (m := ⟨13, 1⟩) (meth := k13m1) (c := k13c1) (by decide +kernel) rfl rfl rfl (by decide +kernel)
set_option maxRecDepth 65536 in
theorem w_c13 : (Jvm.Cond.code ({ cls := "com/example/featurewright/featurewright/io/RefusedException", name := "<init>", desc := "(Ljava/lang/String;)V" } : Jvm.MethodName) prog_39_method_1_code (2 : Nat) (Option.none : Option Jvm.ClassFile.FieldType)).before args0 about1 = true := code_word (m := ⟨14, 0⟩) (meth := k14m0) (c := k14c0) (by decide +kernel) rfl rfl rfl (by decide +kernel)
set_option maxRecDepth 65536 in
theorem w_c14 : (Jvm.Cond.code ({ cls := "com/example/featurewright/featurewright/io/WriteFailedException", name := "<init>", desc := "(Ljava/lang/String;Ljava/lang/Throwable;)V" } : Jvm.MethodName) prog_65_method_1_code (3 : Nat) (Option.none : Option Jvm.ClassFile.FieldType)).before args0 about1 = true := code_word (m := ⟨15, 0⟩) (meth := k15m0) (c := k15c0) (by decide +kernel) rfl rfl rfl (by decide +kernel)
set_option maxRecDepth 65536 in
theorem w_c15 : (Jvm.Cond.code ({ cls := "com/example/featurewright/featurewright/io/FeaturewrightException", name := "<init>", desc := "(Ljava/lang/String;Ljava/lang/Throwable;)V" } : Jvm.MethodName) prog_27_method_2_code (3 : Nat) (Option.none : Option Jvm.ClassFile.FieldType)).before args0 about1 = true := code_word (m := ⟨11, 1⟩) (meth := k11m1) (c := k11c1) (by decide +kernel) rfl rfl rfl (by decide +kernel)
set_option maxRecDepth 65536 in
theorem w_c16 : (Jvm.Cond.code ({ cls := "java/lang/Exception", name := "<init>", desc := "(Ljava/lang/String;Ljava/lang/Throwable;)V" } : Jvm.MethodName) jdk_59_method_3_code (3 : Nat) (Option.none : Option Jvm.ClassFile.FieldType)).before args0 about1 = true := code_word (m := ⟨10, 2⟩) (meth := k10m2) (c := k10c2) (by decide +kernel) rfl rfl rfl (by decide +kernel)
set_option maxRecDepth 65536 in
theorem w_c17 : (Jvm.Cond.code ({ cls := "java/lang/Throwable", name := "<init>", desc := "(Ljava/lang/String;Ljava/lang/Throwable;)V" } : Jvm.MethodName) jdk_78_method_3_code (3 : Nat) (Option.none : Option Jvm.ClassFile.FieldType)).before args0 about1 = true := code_word (m := ⟨9, 2⟩) (meth := k9m2) (c := k9c2) (by decide +kernel) rfl rfl rfl (by decide +kernel)
def codes1 : List Jvm.Cond := [Jvm.Cond.code x code maxLocals ret, Jvm.Cond.code ({ cls := "java/lang/String", name := "<init>", desc := "([C)V" } : Jvm.MethodName) jdk_42_method_3_code (2 : Nat) (Option.none : Option Jvm.ClassFile.FieldType), Jvm.Cond.code ({ cls := "java/lang/String", name := "<init>", desc := "([CIILjava/lang/Void;)V" } : Jvm.MethodName) jdk_42_method_149_code (6 : Nat) (Option.none : Option Jvm.ClassFile.FieldType), Jvm.Cond.code ({ cls := "java/lang/Object", name := "<init>", desc := "()V" } : Jvm.MethodName) object_method_1_code (1 : Nat) (Option.none : Option Jvm.ClassFile.FieldType), Jvm.Cond.code ({ cls := "java/lang/StringUTF16", name := "compress", desc := "([CII)[B" } : Jvm.MethodName) jdk_52_method_16_code (6 : Nat) (Option.some (Jvm.ClassFile.FieldType.array Jvm.ClassFile.FieldType.byte)), Jvm.Cond.code ({ cls := "java/lang/StringUTF16", name := "compress", desc := "([CI[BII)I" } : Jvm.MethodName) jdk_52_method_21_code (7 : Nat) (Option.some Jvm.ClassFile.FieldType.int), Jvm.Cond.code ({ cls := "java/lang/StringUTF16", name := "coderFromArrayLen", desc := "([BI)B" } : Jvm.MethodName) jdk_52_method_15_code (2 : Nat) (Option.some Jvm.ClassFile.FieldType.byte), Jvm.Cond.code ({ cls := "com/example/featurewright/featurewright/io/BadInputException", name := "<init>", desc := "(Ljava/lang/String;)V" } : Jvm.MethodName) prog_17_method_1_code (2 : Nat) (Option.none : Option Jvm.ClassFile.FieldType), Jvm.Cond.code ({ cls := "com/example/featurewright/featurewright/io/FeaturewrightException", name := "<init>", desc := "(Ljava/lang/String;)V" } : Jvm.MethodName) prog_27_method_1_code (2 : Nat) (Option.none : Option Jvm.ClassFile.FieldType), Jvm.Cond.code ({ cls := "java/lang/Exception", name := "<init>", desc := "(Ljava/lang/String;)V" } : Jvm.MethodName) jdk_59_method_2_code (2 : Nat) (Option.none : Option Jvm.ClassFile.FieldType), Jvm.Cond.code ({ cls := "java/lang/Throwable", name := "<init>", desc := "(Ljava/lang/String;)V" } : Jvm.MethodName) jdk_78_method_2_code (2 : Nat) (Option.none : Option Jvm.ClassFile.FieldType), Jvm.Cond.code ({ cls := "java/lang/Throwable", name := "<init>", desc := "()V" } : Jvm.MethodName) jdk_78_method_1_code (1 : Nat) (Option.none : Option Jvm.ClassFile.FieldType), Jvm.Cond.code ({ cls := "com/example/featurewright/featurewright/cli/ExitCode", name := "of", desc := "(Lcom/example/featurewright/featurewright/io/FeaturewrightException;)I" } : Jvm.MethodName) prog_5_method_2_code (2 : Nat) (Option.some Jvm.ClassFile.FieldType.int), Jvm.Cond.code ({ cls := "com/example/featurewright/featurewright/io/RefusedException", name := "<init>", desc := "(Ljava/lang/String;)V" } : Jvm.MethodName) prog_39_method_1_code (2 : Nat) (Option.none : Option Jvm.ClassFile.FieldType), Jvm.Cond.code ({ cls := "com/example/featurewright/featurewright/io/WriteFailedException", name := "<init>", desc := "(Ljava/lang/String;Ljava/lang/Throwable;)V" } : Jvm.MethodName) prog_65_method_1_code (3 : Nat) (Option.none : Option Jvm.ClassFile.FieldType), Jvm.Cond.code ({ cls := "com/example/featurewright/featurewright/io/FeaturewrightException", name := "<init>", desc := "(Ljava/lang/String;Ljava/lang/Throwable;)V" } : Jvm.MethodName) prog_27_method_2_code (3 : Nat) (Option.none : Option Jvm.ClassFile.FieldType), Jvm.Cond.code ({ cls := "java/lang/Exception", name := "<init>", desc := "(Ljava/lang/String;Ljava/lang/Throwable;)V" } : Jvm.MethodName) jdk_59_method_3_code (3 : Nat) (Option.none : Option Jvm.ClassFile.FieldType), Jvm.Cond.code ({ cls := "java/lang/Throwable", name := "<init>", desc := "(Ljava/lang/String;Ljava/lang/Throwable;)V" } : Jvm.MethodName) jdk_78_method_3_code (3 : Nat) (Option.none : Option Jvm.ClassFile.FieldType)]
set_option maxRecDepth 65536 in
theorem codes_eq : words1.filter isCode = codes1 := rfl
theorem w_codes : ∀ c ∈ words1.filter isCode, c.before args0 about1 = true := by
  rw [codes_eq]
  intro c hc
  simp only [codes1, List.mem_cons, List.not_mem_nil, or_false] at hc
  rcases hc with rfl | rfl | rfl | rfl | rfl | rfl | rfl | rfl | rfl | rfl | rfl | rfl | rfl | rfl | rfl | rfl | rfl | rfl
  · exact w_c0
  · exact w_c1
  · exact w_c2
  · exact w_c3
  · exact w_c4
  · exact w_c5
  · exact w_c6
  · exact w_c7
  · exact w_c8
  · exact w_c9
  · exact w_c10
  · exact w_c11
  · exact w_c12
  · exact w_c13
  · exact w_c14
  · exact w_c15
  · exact w_c16
  · exact w_c17
set_option maxRecDepth 65536 in
theorem w_t1 : (words1.take 24).all (fun c => isCode c || c.before args0 about1) = true := by decide +kernel
set_option maxRecDepth 65536 in
theorem w_t2 : ((words1.drop 24).take 24).all (fun c => isCode c || c.before args0 about1) = true := by decide +kernel
set_option maxRecDepth 65536 in
theorem w_t3 : (((words1.drop 24).drop 24).take 24).all (fun c => isCode c || c.before args0 about1) = true := by decide +kernel
set_option maxRecDepth 65536 in
theorem w_t4 : ((((words1.drop 24).drop 24).drop 24).take 24).all (fun c => isCode c || c.before args0 about1) = true := by decide +kernel
set_option maxRecDepth 65536 in
theorem w_t5 : (((((words1.drop 24).drop 24).drop 24).drop 24).take 24).all (fun c => isCode c || c.before args0 about1) = true := by decide +kernel
set_option maxRecDepth 65536 in
theorem w_t6 : ((((((words1.drop 24).drop 24).drop 24).drop 24).drop 24).take 24).all (fun c => isCode c || c.before args0 about1) = true := by decide +kernel
set_option maxRecDepth 65536 in
theorem w_t7 : ((((((words1.drop 24).drop 24).drop 24).drop 24).drop 24).drop 24).all (fun c => isCode c || c.before args0 about1) = true := by decide +kernel
theorem w_tables : (allAtoms (Jvm.Cond.code x code maxLocals ret :: tables_1)).before args0 about1 = true := by
  rw [allAtoms_all]
  show words1.all (fun c => c.before args0 about1) = true
  refine all_split ?_ w_codes
  rw [← List.take_append_drop 24 words1, List.all_append, w_t1, ← List.take_append_drop 24 (words1.drop 24), List.all_append, w_t2, ← List.take_append_drop 24 ((words1.drop 24).drop 24), List.all_append, w_t3, ← List.take_append_drop 24 (((words1.drop 24).drop 24).drop 24), List.all_append, w_t4, ← List.take_append_drop 24 ((((words1.drop 24).drop 24).drop 24).drop 24), List.all_append, w_t5, ← List.take_append_drop 24 (((((words1.drop 24).drop 24).drop 24).drop 24).drop 24), List.all_append, w_t6, w_t7]
  rfl
set_option maxRecDepth 65536 in
theorem w_rest : rest_1_c.before args0 about1 = true := by decide +kernel
set_option maxRecDepth 65536 in
theorem w_case : (Jvm.Cond.and given_1 narrow_1).before args0 about1 = true := by decide +kernel
theorem w_applies : (headSpec (Jvm.Cond.code x code maxLocals ret :: tables_1) room_1).applies x e0.platform about1 = true :=
  (Spec.applies_iff w_frames).mpr ⟨w_running, w_runnable, w_alone, w_named, w_hears, w_ripe, w_room, w_tables⟩
theorem atStart : AtStart classFile x code maxLocals ret World_1 tables_1 room_1 Calls_1 rest_1 Pre_1 launch0 p0 e0 about1 theMethod args0 below0 :=
  ⟨lists_1, trivial, launch0.admits_env _ _ _, launch0.least_env, fairChoices_fair.cas, fairChoices_fair.clock, w_frames, w_args, w_heap, w_applies, ⟨(by decide +kernel : framesKnown about1 = true), ⟨(by decide +kernel : tablesKnown about1 = true), trivial⟩⟩, w_rest, w_case⟩
end start1
theorem witness_1 : WitnessClaimed_1 := ⟨start1.p0, start1.e0, start1.about1, start1.theMethod, start1.args0, start1.below0, start1.atStart⟩
end Jvm.Pilot.@@N@@
