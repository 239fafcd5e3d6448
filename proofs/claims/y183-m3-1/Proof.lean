import JvmDerived
import JvmDerived.Pilot.@@N@@Statement
import JvmDerived.Pilot.@@N@@Code
set_option linter.unusedVariables false
set_option linter.unusedSimpArgs false
/- laws to paste: Road.backV (cut by pick.py; bodies as the Statement names them) -/
namespace Jvm.Pilot.@@N@@
namespace StrChars
open Jvm Sem ClassFile Op Lib Jvm.Stand Jvm.Free.XT Jvm.Free.ALB Jvm.Free.JM Jvm.Free
open Jvm.Lib.Cold (StaticIs)
/-- a char array whose places are chars -/
def Ch (a : Addr) (A : Cell) (U : State) : Prop := Arr .char a A U ∧ Typed .char A
theorem Ch.mv {a : Addr} {A : Cell} {U U' : State} (h : Ch a A U) (hal : U.vm.Alike U'.vm) (hh : U'.heap = U.heap) : Ch a A U' := ⟨h.1.mv hal hh, h.2⟩
theorem Ch.keep {a : Addr} {A : Cell} {U U' : State} (h : Ch a A U) (hal : U.vm.Alike U'.vm) (hk : U'.heap[a]? = some A) : Ch a A U' := ⟨h.1.keep hal hk, h.2⟩
/-- what place i of a char[]'s cell holds -/
def cv (A : Cell) (i : Nat) : Int32 := match A.slots[i]? with | some (.int x) => x | _ => 0
theorem Ch.get {a : Addr} {A : Cell} {U : State} (h : Ch a A U) {i : Nat} (hi : i < A.slots.size) : A.slots[i]? = some (.int (cv A i)) := by
  have e := Array.getElem?_eq_getElem hi
  have f := h.2 i _ e
  unfold cv; rw [e]
  generalize A.slots[i] = v at f
  cases v <;> simp [fits] at f ⊢
/-- the byte that i2b leaves of a char -/
def lo8 (x : Int32) : Int32 := x.toInt8.toInt32
theorem fits_lo8 (y : Int32) : fits .byte (.int (lo8 y)) = true := by
  have h1 := y.toInt8.le_toInt
  have h2 := y.toInt8.toInt_lt
  simp only [lo8, fits, Bool.and_eq_true, decide_eq_true_eq, Int32.le_iff_toInt_le, Int8.toInt_toInt32, show (-128 : Int32).toInt = -128 from by decide, show (127 : Int32).toInt = 127 from by decide]
  omega
/-- A' is A but that each place j of lo .. hi - 1 holds f j -/
def Laid (A A' : Cell) (lo hi : Nat) (f : Nat → Value) : Prop := A'.cls = A.cls ∧ A'.vm = A.vm ∧ A'.slots.size = A.slots.size ∧ ∀ i, A'.slots[i]? = if lo ≤ i ∧ i < hi then some (f i) else A.slots[i]?
theorem Laid.zero (A : Cell) (lo : Nat) (f : Nat → Value) : Laid A A lo (lo + 0) f := ⟨rfl, rfl, rfl, fun i => by rw [if_neg (by omega)]⟩
theorem Laid.step {A Ak : Cell} {lo k : Nat} {f : Nat → Value} {v : Value} (h : Laid A Ak lo k f) (hlo : lo ≤ k) (hk : k < Ak.slots.size) (hv : v = f k) : Laid A (Ak.setSlot k v) lo (k + 1) f := by
  refine ⟨h.1, h.2.1, by simpa [Cell.setSlot] using h.2.2.1, fun i => ?_⟩
  by_cases e : k = i
  · subst e; rw [Cell.slots_setSlot_self v hk, if_pos (by omega), hv]
  · rw [Cell.slots_setSlot_ne v e, h.2.2.2 i]
    by_cases q : lo ≤ i ∧ i < k
    · rw [if_pos q, if_pos (by omega)]
    · rw [if_neg q, if_neg (by omega)]
def U16 : String := "java/lang/StringUTF16"
namespace Cmp5
def yN : MethodName := ⟨"java/lang/StringUTF16", "compress", "([CI[BII)I"⟩
abbrev yB : ByteArray := jdk_52_method_21_code
theorem d0 : decode yB 0 = .ok (.iconst 0, 1) := by decide +kernel
theorem d1 : decode yB 1 = .ok (.istore 5, 2) := by decide +kernel
theorem d3 : decode yB 3 = .ok (.iload 5, 2) := by decide +kernel
theorem d5 : decode yB 5 = .ok (.iload 4, 2) := by decide +kernel
theorem d7 : decode yB 7 = .ok (.if_icmp (.ge) 37, 3) := by decide +kernel
theorem d10 : decode yB 10 = .ok (.aload_n 0, 1) := by decide +kernel
theorem d11 : decode yB 11 = .ok (.iload_n 1, 1) := by decide +kernel
theorem d12 : decode yB 12 = .ok (.caload, 1) := by decide +kernel
theorem d13 : decode yB 13 = .ok (.istore 6, 2) := by decide +kernel
theorem d15 : decode yB 15 = .ok (.iload 6, 2) := by decide +kernel
theorem d17 : decode yB 17 = .ok (.sipush 255, 3) := by decide +kernel
theorem d20 : decode yB 20 = .ok (.if_icmp (.le) 6, 3) := by decide +kernel
theorem d26 : decode yB 26 = .ok (.aload_n 2, 1) := by decide +kernel
theorem d27 : decode yB 27 = .ok (.iload_n 3, 1) := by decide +kernel
theorem d28 : decode yB 28 = .ok (.iload 6, 2) := by decide +kernel
theorem d30 : decode yB 30 = .ok (.i2b, 1) := by decide +kernel
theorem d31 : decode yB 31 = .ok (.bastore, 1) := by decide +kernel
theorem d32 : decode yB 32 = .ok (.iinc 1 1, 3) := by decide +kernel
theorem d35 : decode yB 35 = .ok (.iinc 3 1, 3) := by decide +kernel
theorem d38 : decode yB 38 = .ok (.iinc 5 1, 3) := by decide +kernel
theorem d41 : decode yB 41 = .ok (.goto (-38), 3) := by decide +kernel
theorem d44 : decode yB 44 = .ok (.iload 4, 2) := by decide +kernel
theorem d46 : decode yB 46 = .ok (.ireturn, 1) := by decide +kernel
def site : List Cond := []
def tab : Cond := tabOf yN yB 7 (some .int) site
def P (b : Addr) (A : Cell) (d : Addr) (B : Cell) (o q len : Nat) (args : Array Value) (s : State) : Prop := args = #[.ref b, .int (Int32.ofNat o), .ref d, .int (Int32.ofNat q), .int (Int32.ofNat len)] ∧ Ch b A s ∧ Arr .byte d B s ∧ b ≠ d ∧ o + len ≤ A.slots.size ∧ q + len ≤ B.slots.size ∧ ∀ i, i < len → ¬ 255 < cv A (o + i)
def E (b : Addr) (A : Cell) (d : Addr) (B : Cell) (o q len : Nat) (r : Option Value) (s u : State) : Prop := r = some (.int (Int32.ofNat len)) ∧ ∃ B', Put d B' s u ∧ Laid B B' q (q + len) (fun j => Value.int (lo8 (cv A (o + (j - q)))))
/-- no char of the range above 255: len; the places written hold each char's low byte -/
theorem law (l : Launch) (b : Addr) (A : Cell) (d : Addr) (B : Cell) (o q len : Nat) : Law l yN 5 5 0 0 yB 7 (some .int) site (P b A d B o q len) (E b A d B o q len) (copyLocs d q len) 0 0 := by
  refine Law.of_walk (plainFor_of_name (by decide +kernel)) (by decide +kernel) (by decide +kernel) (by decide) (fun _ _ h => by rw [h.1]; rfl) (fun _ U U' hal hh h => ⟨h.1, h.2.1.mv hal hh, h.2.2.1.mv hal hh, h.2.2.2⟩) (fun r U U' V V' h1 hal h2 h => ⟨h.1, h.2.elim fun B' q => ⟨B', q.1.mv h1 h2, q.2⟩⟩) ?_
  intro p e s m args below meth c s₁ X0 hexec hbytes hml hret hlk hnm hown hh0 W hP
  obtain ⟨rfl, hA, hB, hne, l1, l2, hp⟩ := hP
  have c1 : Steps p.tables e below (s₁.setTop (entryFrame m #[.ref b, .int (Int32.ofNat o), .ref d, .int (Int32.ofNat q), .int (Int32.ofNat len)] 7)) (s₁.setTop (mkF m 0 #[.val (.ref b), .val (.int (Int32.ofNat o)), .val (.ref d), .val (.int (Int32.ofNat q)), .val (.int (Int32.ofNat len)), .unset, .unset] [])) := entry rfl
  have hA0 := hA.1.mv X0.warmed.alike hh0
  have hB0 := hB.mv X0.warmed.alike hh0
  have a31 := hA.1.2.2.2
  have c2 : Steps p.tables e below (s₁.setTop (entryFrame m #[.ref b, .int (Int32.ofNat o), .ref d, .int (Int32.ofNat q), .int (Int32.ofNat len)] 7)) (s₁.setTop (mkF m 3 #[.val (.ref b), .val (.int (Int32.ofNat o)), .val (.ref d), .val (.int (Int32.ofNat q)), .val (.int (Int32.ofNat len)), .val (.int 0), .unset] [])) := c1.trans (by
    refine iconstV X0.here hexec rfl 0 (hb hbytes d0) (by decide) ?_
    refine XS.istore X0.here hexec rfl (hb hbytes d1) rfl rfl ?_
    exact Steps.refl _)
  have loop : ∀ (r i : Nat), i + r = len → ∀ (z : Slot), (z = .unset ∨ ∃ w, z = .val w ∧ w.category = 1) → ∀ (Tl : State) (Bk : Cell), Stand p l e { frames := 0, locals := 0, cells := 0, slots := 0 } s m #[.ref b, .int (Int32.ofNat o), .ref d, .int (Int32.ofNat q), .int (Int32.ofNat len)] below meth c Tl ([] ++ copyLocs d q i) 0 0 → Put d Bk s₁ Tl → Laid B Bk q (q + i) (fun j => Value.int (lo8 (cv A (o + (j - q))))) →
      Steps p.tables e below (s₁.setTop (entryFrame m #[.ref b, .int (Int32.ofNat o), .ref d, .int (Int32.ofNat q), .int (Int32.ofNat len)] 7)) (Tl.setTop (mkF m 3 #[.val (.ref b), .val (.int (Int32.ofNat (o + i))), .val (.ref d), .val (.int (Int32.ofNat (q + i))), .val (.int (Int32.ofNat len)), .val (.int (Int32.ofNat i)), z] [])) → ∃ (T' : State) (B' : Cell) (z' : Slot), Stand p l e { frames := 0, locals := 0, cells := 0, slots := 0 } s m #[.ref b, .int (Int32.ofNat o), .ref d, .int (Int32.ofNat q), .int (Int32.ofNat len)] below meth c T' ([] ++ copyLocs d q len) 0 0 ∧ Put d B' s₁ T' ∧ Laid B B' q (q + len) (fun j => Value.int (lo8 (cv A (o + (j - q))))) ∧
      Steps p.tables e below (s₁.setTop (entryFrame m #[.ref b, .int (Int32.ofNat o), .ref d, .int (Int32.ofNat q), .int (Int32.ofNat len)] 7)) (T'.setTop (mkF m 3 #[.val (.ref b), .val (.int (Int32.ofNat (o + len))), .val (.ref d), .val (.int (Int32.ofNat (q + len))), .val (.int (Int32.ofNat len)), .val (.int (Int32.ofNat len)), z'] [])) := by
    intro r
    induction r with
    | zero =>
      intro i hi z hz Tl Bk Xl pl fl cl
      have hil : i = len := by omega
      rw [hil] at Xl fl cl
      exact ⟨Tl, Bk, z, Xl, pl, fl, cl⟩
    | succ r ih =>
      intro i hi z hz Tl Bk Xl pl fl cl
      have all := X0.warmed.alike.symm.trans Xl.warmed.alike
      have hAl := hA0.keep all (pl.other hne hA0.1)
      have hBk := hB0.like all pl.1 fl.1 fl.2.1 fl.2.2.1
      have hlt : q + i < Bk.slots.size := by rw [fl.2.2.1]; omega
      have c3 : Steps p.tables e below (s₁.setTop (entryFrame m #[.ref b, .int (Int32.ofNat o), .ref d, .int (Int32.ofNat q), .int (Int32.ofNat len)] 7)) (Tl.setTop (mkF m 12 #[.val (.ref b), .val (.int (Int32.ofNat (o + i))), .val (.ref d), .val (.int (Int32.ofNat (q + i))), .val (.int (Int32.ofNat len)), .val (.int (Int32.ofNat i)), z] [.int (Int32.ofNat (o + i)), .ref b])) := cl.trans (by
        refine XS.iload Xl.here hexec rfl (hb hbytes d3) rfl ?_
        refine XS.iload Xl.here hexec rfl (hb hbytes d5) rfl ?_
        refine XS.icmpNo Xl.here hexec rfl (hb hbytes d7) rfl (ii_ge_f (lt32 (by omega) (by omega))) ?_
        refine XS.aloadN Xl.here hexec rfl (hb hbytes d10) rfl rfl ?_
        refine XS.iloadN Xl.here hexec rfl (hb hbytes d11) rfl ?_
        exact Steps.refl _)
      have c4 : Steps p.tables e below (s₁.setTop (entryFrame m #[.ref b, .int (Int32.ofNat o), .ref d, .int (Int32.ofNat q), .int (Int32.ofNat len)] 7)) (Tl.setTop (mkF m 13 #[.val (.ref b), .val (.int (Int32.ofNat (o + i))), .val (.ref d), .val (.int (Int32.ofNat (q + i))), .val (.int (Int32.ofNat len)), .val (.int (Int32.ofNat i)), z] [.int (cv A (o + i))])) := c3.trans (by
        refine Xl.aget hexec hAl rfl (hA.get (i := o + i) (by omega)) rfl rfl (hb hbytes d12) ?_
        exact Steps.refl _)
      have c5 : Steps p.tables e below (s₁.setTop (entryFrame m #[.ref b, .int (Int32.ofNat o), .ref d, .int (Int32.ofNat q), .int (Int32.ofNat len)] 7)) (Tl.setTop (mkF m 15 #[.val (.ref b), .val (.int (Int32.ofNat (o + i))), .val (.ref d), .val (.int (Int32.ofNat (q + i))), .val (.int (Int32.ofNat len)), .val (.int (Int32.ofNat i)), .val (.int (cv A (o + i)))] [])) := c4.trans (by
        refine XS.istoreS Xl.here hexec rfl (hb hbytes d13) rfl rfl hz ?_
        exact Steps.refl _)
      have c6 : Steps p.tables e below (s₁.setTop (entryFrame m #[.ref b, .int (Int32.ofNat o), .ref d, .int (Int32.ofNat q), .int (Int32.ofNat len)] 7)) (Tl.setTop (mkF m 31 #[.val (.ref b), .val (.int (Int32.ofNat (o + i))), .val (.ref d), .val (.int (Int32.ofNat (q + i))), .val (.int (Int32.ofNat len)), .val (.int (Int32.ofNat i)), .val (.int (cv A (o + i)))] [.int (lo8 (cv A (o + i))), .int (Int32.ofNat (q + i)), .ref d])) := c5.trans (by
        refine XS.iload Xl.here hexec rfl (hb hbytes d15) rfl ?_
        refine sipushV Xl.here hexec rfl 255 (hb hbytes d17) (by decide) ?_
        refine XS.icmpYes Xl.here hexec rfl (pc0 := 20) rfl (hb hbytes d20) rfl (ii_le_t (hp i (by omega))) (by decide) rfl ?_
        refine XS.aloadN Xl.here hexec rfl (hb hbytes d26) rfl rfl ?_
        refine XS.iloadN Xl.here hexec rfl (hb hbytes d27) rfl ?_
        refine XS.iload Xl.here hexec rfl (hb hbytes d28) rfl ?_
        refine i2b Xl.here hexec rfl (hb hbytes d30) rfl ?_
        exact Steps.refl _)
      obtain ⟨T7, X7, p7, st7⟩ := Xl.aput hexec hBk rfl hlt rfl (fits_lo8 (cv A (o + i))) (g := (mkF m 31 #[.val (.ref b), .val (.int (Int32.ofNat (o + i))), .val (.ref d), .val (.int (Int32.ofNat (q + i))), .val (.int (Int32.ofNat len)), .val (.int (Int32.ofNat i)), .val (.int (cv A (o + i)))] [.int (lo8 (cv A (o + i))), .int (Int32.ofNat (q + i)), .ref d])) rfl (rest := []) rfl (hb hbytes d31)
      have c8 : Steps p.tables e below (s₁.setTop (entryFrame m #[.ref b, .int (Int32.ofNat o), .ref d, .int (Int32.ofNat q), .int (Int32.ofNat len)] 7)) (T7.setTop (mkF m 32 #[.val (.ref b), .val (.int (Int32.ofNat (o + i))), .val (.ref d), .val (.int (Int32.ofNat (q + i))), .val (.int (Int32.ofNat len)), .val (.int (Int32.ofNat i)), .val (.int (cv A (o + i)))] [])) := c6.trans (st7 _ (Steps.refl _))
      have c9 : Steps p.tables e below (s₁.setTop (entryFrame m #[.ref b, .int (Int32.ofNat o), .ref d, .int (Int32.ofNat q), .int (Int32.ofNat len)] 7)) (T7.setTop (mkF m 3 #[.val (.ref b), .val (.int (Int32.ofNat (o + i) + 1)), .val (.ref d), .val (.int (Int32.ofNat (q + i) + 1)), .val (.int (Int32.ofNat len)), .val (.int (Int32.ofNat i + 1)), .val (.int (cv A (o + i)))] [])) := c8.trans (by
        refine iincV X7.here hexec rfl 1 (hb hbytes d32) (by decide) rfl rfl ?_
        refine iincV X7.here hexec rfl 1 (hb hbytes d35) (by decide) rfl rfl ?_
        refine iincV X7.here hexec rfl 1 (hb hbytes d38) (by decide) rfl rfl ?_
        refine XS.goto X7.here hexec rfl (pc0 := 41) rfl (hb hbytes d41) (by decide) rfl ?_
        exact Steps.refl _)
      have c10 : Steps p.tables e below (s₁.setTop (entryFrame m #[.ref b, .int (Int32.ofNat o), .ref d, .int (Int32.ofNat q), .int (Int32.ofNat len)] 7)) (T7.setTop (mkF m 3 #[.val (.ref b), .val (.int (Int32.ofNat (o + (i + 1)))), .val (.ref d), .val (.int (Int32.ofNat (q + (i + 1)))), .val (.int (Int32.ofNat len)), .val (.int (Int32.ofNat (i + 1))), .val (.int (cv A (o + i)))] [])) := by
        have := c9
        rw [succ32, succ32, succ32] at this
        exact this
      exact ih (i + 1) (by omega) _ (Or.inr ⟨_, rfl, rfl⟩) T7 _ (by rw [copyLocs_step, ← List.append_assoc]; exact X7) (pl.trans p7) (fl.step (by omega) hlt (by simp)) c10
  obtain ⟨T9, B9, z9, X9, p9, f9, g9⟩ := loop len 0 (by omega) .unset (Or.inl rfl) s₁ B (by simpa [copyLocs] using X0) ⟨hB0.1, fun _ _ => rfl, rfl⟩ (Laid.zero _ _ _) c2
  have c11 : Steps p.tables e below (s₁.setTop (entryFrame m #[.ref b, .int (Int32.ofNat o), .ref d, .int (Int32.ofNat q), .int (Int32.ofNat len)] 7)) (T9.setTop (mkF m 46 #[.val (.ref b), .val (.int (Int32.ofNat (o + len))), .val (.ref d), .val (.int (Int32.ofNat (q + len))), .val (.int (Int32.ofNat len)), .val (.int (Int32.ofNat len)), z9] [.int (Int32.ofNat len)])) := g9.trans (by
    refine XS.iload X9.here hexec rfl (hb hbytes d3) rfl ?_
    refine XS.iload X9.here hexec rfl (hb hbytes d5) rfl ?_
    refine XS.icmpYes X9.here hexec rfl (pc0 := 7) rfl (hb hbytes d7) rfl (ii_ge_t (nlt32 (by omega) (Nat.le_refl _))) (by decide) rfl ?_
    refine XS.iload X9.here hexec rfl (hb hbytes d44) rfl ?_
    exact Steps.refl _)
  exact ⟨T9, some (.int (Int32.ofNat len)), _, _, _, X9, by simp, rfl, rfl, (fun h => by cases h), ⟨rfl, B9, p9.from hh0, f9⟩, fun fs hl => c11.trans (X9.ireturnOut hexec hret rfl (Or.inl rfl) (hb hbytes d46) hl)⟩
end Cmp5
namespace Cmp3
def yN : MethodName := ⟨"java/lang/StringUTF16", "compress", "([CII)[B"⟩
abbrev yB : ByteArray := jdk_52_method_16_code
theorem d0 : decode yB 0 = .ok (.iload_n 2, 1) := by decide +kernel
theorem d1 : decode yB 1 = .ok (.newarray .byte, 2) := by decide +kernel
theorem d3 : decode yB 3 = .ok (.astore_n 3, 1) := by decide +kernel
theorem d4 : decode yB 4 = .ok (.aload_n 0, 1) := by decide +kernel
theorem d5 : decode yB 5 = .ok (.iload_n 1, 1) := by decide +kernel
theorem d6 : decode yB 6 = .ok (.aload_n 3, 1) := by decide +kernel
theorem d7 : decode yB 7 = .ok (.iconst 0, 1) := by decide +kernel
theorem d8 : decode yB 8 = .ok (.iload_n 2, 1) := by decide +kernel
theorem d9 : decode yB 9 = .ok (.invokestatic 115, 3) := by decide +kernel
theorem d12 : decode yB 12 = .ok (.istore 4, 2) := by decide +kernel
theorem d14 : decode yB 14 = .ok (.iload 4, 2) := by decide +kernel
theorem d16 : decode yB 16 = .ok (.iload_n 2, 1) := by decide +kernel
theorem d17 : decode yB 17 = .ok (.if_icmp (.eq) 40, 3) := by decide +kernel
theorem d57 : decode yB 57 = .ok (.aload_n 3, 1) := by decide +kernel
theorem d58 : decode yB 58 = .ok (.areturn, 1) := by decide +kernel
def site : List Cond := [.arrayClass .byte, Cmp5.tab] ++ staticW U16 115 Cmp5.yN
def tab : Cond := tabOf yN yB 6 (some (.array .byte)) site
def P (b : Addr) (A : Cell) (o len : Nat) (args : Array Value) (s : State) : Prop := args = #[.ref b, .int (Int32.ofNat o), .int (Int32.ofNat len)] ∧ Ch b A s ∧ o + len ≤ A.slots.size ∧ len ≤ 536870912 ∧ ∀ i, i < len → ¬ 255 < cv A (o + i)
def E (b : Addr) (A : Cell) (o len : Nat) (r : Option Value) (s u : State) : Prop := NewArr .byte "[B" len (fun j => .int (lo8 (cv A (o + j)))) r s u ∧ u.heap.size = s.heap.size + 1
/-- no char of the range above 255: a new byte[] of their low bytes -/
theorem law (l : Launch) (b : Addr) (A : Cell) (o len : Nat) : Law l yN 3 3 1 18 yB 6 (some (.array .byte)) site (P b A o len) (E b A o len) [] 1 len := by
  refine Law.of_walk (plainFor_of_name (by decide +kernel)) (by decide +kernel) (by decide +kernel) (by decide) (fun _ _ h => by rw [h.1]; rfl) (fun _ U U' hal hh h => ⟨h.1, h.2.1.mv hal hh, h.2.2⟩) (fun r U U' V V' h1 hal h2 h => ⟨NewArr.mv r U U' V V' h1 hal h2 h.1, by rw [h1, h2]; exact h.2⟩) ?_
  intro p e s m args below meth c s₁ X0 hexec hbytes hml hret hlk hnm hown hh0 W hP
  obtain ⟨rfl, hA, l1, l2, hp⟩ := hP
  have a31 := hA.1.2.2.2
  have c1 : Steps p.tables e below (s₁.setTop (entryFrame m #[.ref b, .int (Int32.ofNat o), .int (Int32.ofNat len)] 6)) (s₁.setTop (mkF m 0 #[.val (.ref b), .val (.int (Int32.ofNat o)), .val (.int (Int32.ofNat len)), .unset, .unset, .unset] [])) := entry rfl
  have c2 : Steps p.tables e below (s₁.setTop (entryFrame m #[.ref b, .int (Int32.ofNat o), .int (Int32.ofNat len)] 6)) (s₁.setTop (mkF m 1 #[.val (.ref b), .val (.int (Int32.ofNat o)), .val (.int (Int32.ofNat len)), .unset, .unset, .unset] [.int (Int32.ofNat len)])) := c1.trans (by
    refine XS.iloadN X0.here hexec rfl (hb hbytes d0) rfl ?_
    exact Steps.refl _)
  obtain ⟨T3, B3, X3, ba3, bs3, bv3, bh3, bf3, st3⟩ := X0.anew hexec (atype := .byte) (wk W (.arrayClass .byte)) rfl (by show len * 1 ≤ _; omega) (by omega) (g := (mkF m 1 #[.val (.ref b), .val (.int (Int32.ofNat o)), .val (.int (Int32.ofNat len)), .unset, .unset, .unset] [.int (Int32.ofNat len)])) rfl (hb hbytes d1) (rest := []) rfl (Nat.le_refl _) (by show 0 + len ≤ len; omega)
  rw [hh0] at ba3 st3
  have kp3 : XT.Kept s T3 := (XT.Kept.of_eq hh0).push bh3
  have hA3 := hA.keep X3.warmed.alike (kp3 _ _ hA.1.1)
  have hne : b ≠ s.heap.size := hA.1.ne
  have c4 : Steps p.tables e below (s₁.setTop (entryFrame m #[.ref b, .int (Int32.ofNat o), .int (Int32.ofNat len)] 6)) (T3.setTop (mkF m 3 #[.val (.ref b), .val (.int (Int32.ofNat o)), .val (.int (Int32.ofNat len)), .unset, .unset, .unset] [.ref s.heap.size])) := c2.trans (st3 _ (Steps.refl _))
  have c5 : Steps p.tables e below (s₁.setTop (entryFrame m #[.ref b, .int (Int32.ofNat o), .int (Int32.ofNat len)] 6)) (T3.setTop (mkF m 9 #[.val (.ref b), .val (.int (Int32.ofNat o)), .val (.int (Int32.ofNat len)), .val (.ref s.heap.size), .unset, .unset] [.int (Int32.ofNat len), .int 0, .ref s.heap.size, .int (Int32.ofNat o), .ref b])) := c4.trans (by
    refine XS.astoreN X3.here hexec rfl (hb hbytes d3) rfl rfl rfl ?_
    refine XS.aloadN X3.here hexec rfl (hb hbytes d4) rfl rfl ?_
    refine XS.iloadN X3.here hexec rfl (hb hbytes d5) rfl ?_
    refine XS.aloadN X3.here hexec rfl (hb hbytes d6) rfl rfl ?_
    refine iconstV X3.here hexec rfl 0 (hb hbytes d7) (by decide) ?_
    refine XS.iloadN X3.here hexec rfl (hb hbytes d8) rfl ?_
    exact Steps.refl _)
  obtain ⟨v6, T6, X6, E6, g6⟩ := X3.callS hexec (Cmp5.law l b A s.heap.size B3 o 0 len) hown (wks W (staticW U16 115 Cmp5.yN)) (wk W Cmp5.tab) (W := 0) (Nat.le_of_ble_eq_true rfl) (Nat.le_of_ble_eq_true rfl) (Nat.le_refl _) (by show 0 + len + 0 ≤ len; omega) (g := (mkF m 9 #[.val (.ref b), .val (.int (Int32.ofNat o)), .val (.int (Int32.ofNat len)), .val (.ref s.heap.size), .unset, .unset] [.int (Int32.ofNat len), .int (Int32.ofNat 0), .ref s.heap.size, .int (Int32.ofNat o), .ref b])) rfl (by rw [hml]; rfl) c5 (argsL := [.ref b, .int (Int32.ofNat o), .ref s.heap.size, .int (Int32.ofNat 0), .int (Int32.ofNat len)]) (rest := []) rfl rfl (by show 2 * 0 + 0 ≤ _; decide) (hb hbytes d9) (⟨rfl, hA3, ba3, hne, l1, by rw [bs3]; simp, hp⟩)
  obtain ⟨rfl, B6, p6, f6⟩ := E6
  have c7 : Steps p.tables e below (s₁.setTop (entryFrame m #[.ref b, .int (Int32.ofNat o), .int (Int32.ofNat len)] 6)) (T6.setTop (mkF m 12 #[.val (.ref b), .val (.int (Int32.ofNat o)), .val (.int (Int32.ofNat len)), .val (.ref s.heap.size), .unset, .unset] [.int (Int32.ofNat len)])) := g6
  have c8 : Steps p.tables e below (s₁.setTop (entryFrame m #[.ref b, .int (Int32.ofNat o), .int (Int32.ofNat len)] 6)) (T6.setTop (mkF m 58 #[.val (.ref b), .val (.int (Int32.ofNat o)), .val (.int (Int32.ofNat len)), .val (.ref s.heap.size), .val (.int (Int32.ofNat len)), .unset] [.ref s.heap.size])) := c7.trans (by
    refine XS.istore X6.here hexec rfl (hb hbytes d12) rfl rfl ?_
    refine XS.iload X6.here hexec rfl (hb hbytes d14) rfl ?_
    refine XS.iloadN X6.here hexec rfl (hb hbytes d16) rfl ?_
    refine XS.icmpYes X6.here hexec rfl (pc0 := 17) rfl (hb hbytes d17) rfl (ii_eq_t rfl) (by decide) rfl ?_
    refine XS.aloadN X6.here hexec rfl (hb hbytes d57) rfl rfl ?_
    exact Steps.refl _)
  have X8 := X6.wide (L' := []) (cells' := 1) (slots' := len) (fun x hx hlt => by
    simp only [List.nil_append, copyLocs, List.mem_map, List.mem_range] at hx
    obtain ⟨i, -, rfl⟩ := hx
    exact absurd hlt (Nat.lt_irrefl _)) (Nat.le_refl _) (by omega)
  exact ⟨T6, some (.ref s.heap.size), _, _, _, X8, rfl, rfl, rfl, (fun h => by cases h), ⟨⟨rfl, B6, ba3.like (X3.warmed.alike.symm.trans X6.warmed.alike) p6.1 f6.1 f6.2.1 f6.2.2.1, f6.2.1.trans bv3, by rw [X6.warmed.alike.findClass, f6.1]; exact bf3, by rw [f6.2.2.1, bs3]; simp, fun j hj => by rw [f6.2.2.2 j, if_pos (by omega)]; rfl, kp3.put p6 (Nat.le_refl _)⟩, by rw [p6.2.2, bh3, hh0]; simp⟩, fun fs hl => c8.trans (X8.areturnOut hexec rfl hret rfl (hb hbytes d58) hl)⟩
end Cmp3
namespace CodL
def yN : MethodName := ⟨"java/lang/StringUTF16", "coderFromArrayLen", "([BI)B"⟩
abbrev yB : ByteArray := jdk_52_method_15_code
theorem d0 : decode yB 0 = .ok (.iload_n 1, 1) := by decide +kernel
theorem d1 : decode yB 1 = .ok (.aload_n 0, 1) := by decide +kernel
theorem d2 : decode yB 2 = .ok (.arraylength, 1) := by decide +kernel
theorem d3 : decode yB 3 = .ok (.isub, 1) := by decide +kernel
theorem d4 : decode yB 4 = .ok (.bipush 31, 2) := by decide +kernel
theorem d6 : decode yB 6 = .ok (.iushr, 1) := by decide +kernel
theorem d7 : decode yB 7 = .ok (.i2b, 1) := by decide +kernel
theorem d8 : decode yB 8 = .ok (.ireturn, 1) := by decide +kernel
def site : List Cond := []
def tab : Cond := tabOf yN yB 2 (some .byte) site
def P (d : Addr) (B : Cell) (args : Array Value) (s : State) : Prop := args = #[.ref d, .int (Int32.ofNat B.slots.size)] ∧ Arr .byte d B s
def E (r : Option Value) (s u : State) : Prop := XT.PureE (some (.int 0)) r s u
/-- an array as long as the number of chars: LATIN1 -/
theorem law (l : Launch) (d : Addr) (B : Cell) : Law l yN 2 2 0 0 yB 2 (some .byte) site (P d B) E [] 0 0 := by
  refine Law.of_walk (plainFor_of_name (by decide +kernel)) (by decide +kernel) (by decide +kernel) (by decide) (fun _ _ h => by rw [h.1]; rfl) (fun _ U U' hal hh h => ⟨h.1, h.2.mv hal hh⟩) (fun r U U' V V' h1 hal h2 h => XT.PureE.mv r U U' V V' h1 hal h2 h) ?_
  intro p e s m args below meth c s₁ X0 hexec hbytes hml hret hlk hnm hown hh0 W hP
  obtain ⟨rfl, hB⟩ := hP
  have hB0 := hB.mv X0.warmed.alike hh0
  have c1 : Steps p.tables e below (s₁.setTop (entryFrame m #[.ref d, .int (Int32.ofNat B.slots.size)] 2)) (s₁.setTop (mkF m 0 #[.val (.ref d), .val (.int (Int32.ofNat B.slots.size))] [])) := entry rfl
  have c2 : Steps p.tables e below (s₁.setTop (entryFrame m #[.ref d, .int (Int32.ofNat B.slots.size)] 2)) (s₁.setTop (mkF m 2 #[.val (.ref d), .val (.int (Int32.ofNat B.slots.size))] [.ref d, .int (Int32.ofNat B.slots.size)])) := c1.trans (by
    refine XS.iloadN X0.here hexec rfl (hb hbytes d0) rfl ?_
    refine XS.aloadN X0.here hexec rfl (hb hbytes d1) rfl rfl ?_
    exact Steps.refl _)
  have c3 : Steps p.tables e below (s₁.setTop (entryFrame m #[.ref d, .int (Int32.ofNat B.slots.size)] 2)) (s₁.setTop (mkF m 8 #[.val (.ref d), .val (.int (Int32.ofNat B.slots.size))] [.int (lo8 (ushr (Int32.ofNat B.slots.size - Int32.ofNat B.slots.size) 31))])) := c2.trans (by
    refine X0.alen hexec hB0 rfl rfl (hb hbytes d2) ?_
    refine XS.isub X0.here hexec rfl (hb hbytes d3) rfl ?_
    refine bipushV X0.here hexec rfl 31 (hb hbytes d4) (by decide) ?_
    refine iushr X0.here hexec rfl (hb hbytes d6) rfl ?_
    refine i2b X0.here hexec rfl (hb hbytes d7) rfl ?_
    exact Steps.refl _)
  have e0 : lo8 (ushr (Int32.ofNat B.slots.size - Int32.ofNat B.slots.size) 31) = 0 := by rw [Int32.sub_self]; decide
  rw [e0] at c3
  exact ⟨s₁, some (.int 0), _, _, _, X0, rfl, rfl, rfl, (fun h => by cases h), ⟨rfl, hh0⟩, fun fs hl => c3.trans (X0.ireturnOut hexec hret rfl (Or.inr (Or.inr (Or.inl rfl))) (hb hbytes d8) hl)⟩
end CodL
/-- the String at a is Latin-1 over a new byte[] (the heap's one new cell): the low bytes of the len chars of A from o on; every cell but a is kept -/
def Got (a : Addr) (D : Cell) (fV fC : Field) (A : Cell) (o len : Nat) (r : Option Value) (s u : State) : Prop := r = none ∧ ∃ D' V : Cell, Blank "java/lang/String" a D' u ∧ Same D D' [fV.slot, fC.slot] ∧ D'.slots[fV.slot]? = some (.ref s.heap.size) ∧ D'.slots[fC.slot]? = some (.int 0) ∧ Arr .byte s.heap.size V u ∧ V.vm = .none ∧ u.vm.findClass "[B" = some V.cls ∧ V.slots.size = len ∧ (∀ j, j < len → V.slots[j]? = some (.int (lo8 (cv A (o + j))))) ∧ (∀ (y : Addr) (c : Cell), y ≠ a → s.heap[y]? = some c → u.heap[y]? = some c) ∧ u.heap.size = s.heap.size + 1
theorem Got.mv {a : Addr} {D A : Cell} {fV fC : Field} {o len : Nat} : ∀ r (U U' V V' : State), U'.heap = U.heap → V.vm.Alike V'.vm → V'.heap = V.heap → Got a D fV fC A o len r U V → Got a D fV fC A o len r U' V' :=
  fun r U U' V V' h1 hal h2 ⟨e0, D', X, a1, a2, a3, a4, a5, a6, a7, a8, a9, a10, a11⟩ => ⟨e0, D', X, a1.mv hal h2, a2, by rw [h1]; exact a3, a4, by rw [h1]; exact a5.mv hal h2, a6, by rw [hal.findClass]; exact a7, a8, a9, by rw [h1, h2]; exact a10, by rw [h1, h2]; exact a11⟩
namespace New4
def yN : MethodName := ⟨"java/lang/String", "<init>", "([CIILjava/lang/Void;)V"⟩
abbrev yB : ByteArray := jdk_42_method_149_code
theorem d0 : decode yB 0 = .ok (.aload_n 0, 1) := by decide +kernel
theorem d1 : decode yB 1 = .ok (.invokespecial 1, 3) := by decide +kernel
theorem d4 : decode yB 4 = .ok (.iload_n 3, 1) := by decide +kernel
theorem d5 : decode yB 5 = .ok (.ifCond (.ne) 22, 3) := by decide +kernel
theorem d27 : decode yB 27 = .ok (.getstatic 38, 3) := by decide +kernel
theorem d30 : decode yB 30 = .ok (.ifCond (.eq) 28, 3) := by decide +kernel
theorem d33 : decode yB 33 = .ok (.aload_n 1, 1) := by decide +kernel
theorem d34 : decode yB 34 = .ok (.iload_n 2, 1) := by decide +kernel
theorem d35 : decode yB 35 = .ok (.iload_n 3, 1) := by decide +kernel
theorem d36 : decode yB 36 = .ok (.invokestatic 177, 3) := by decide +kernel
theorem d39 : decode yB 39 = .ok (.astore 5, 2) := by decide +kernel
theorem d41 : decode yB 41 = .ok (.aload_n 0, 1) := by decide +kernel
theorem d42 : decode yB 42 = .ok (.aload 5, 2) := by decide +kernel
theorem d44 : decode yB 44 = .ok (.iload_n 3, 1) := by decide +kernel
theorem d45 : decode yB 45 = .ok (.invokestatic 47, 3) := by decide +kernel
theorem d48 : decode yB 48 = .ok (.putfield 15, 3) := by decide +kernel
theorem d51 : decode yB 51 = .ok (.aload_n 0, 1) := by decide +kernel
theorem d52 : decode yB 52 = .ok (.aload 5, 2) := by decide +kernel
theorem d54 : decode yB 54 = .ok (.putfield 9, 3) := by decide +kernel
theorem d57 : decode yB 57 = .ok (.return_, 1) := by decide +kernel
def site : List Cond := [.fieldLink "java/lang/String" 38 "java/lang/String" "COMPACT_STRINGS" "Z", Cmp3.tab, CodL.tab, .laysFinal "java/lang/String" "java/lang/String" "value" "[B", .fieldLink "java/lang/String" 9 "java/lang/String" "value" "[B", .laysFinal "java/lang/String" "java/lang/String" "coder" "B", .fieldLink "java/lang/String" 15 "java/lang/String" "coder" "B"] ++ objW "java/lang/String" 1 ++ staticW "java/lang/String" 177 Cmp3.yN ++ staticW "java/lang/String" 47 CodL.yN
def tab : Cond := tabOf yN yB 6 none site
def P (a : Addr) (D : Cell) (fV fC : Field) (b : Addr) (A : Cell) (z : Int32) (o len : Nat) (args : Array Value) (s : State) : Prop := args = #[.ref a, .ref b, .int (Int32.ofNat o), .int (Int32.ofNat len), .null] ∧ Blank "java/lang/String" a D s ∧ Found "java/lang/String" "value" "[B" fV s ∧ Found "java/lang/String" "coder" "B" fC s ∧ Ch b A s ∧ StaticIs s "java/lang/String" "COMPACT_STRINGS" "Z" (.int z) ∧ ¬ z = 0 ∧ 0 < len ∧ o + len ≤ A.slots.size ∧ len ≤ 536870912 ∧ ∀ i, i < len → ¬ 255 < cv A (o + i)
def E (a : Addr) (D : Cell) (fV fC : Field) (A : Cell) (o len : Nat) (r : Option Value) (s u : State) : Prop := Got a D fV fC A o len r s u
/-- len > 0, no char of the range above 255: a Latin-1 String of their low bytes -/
theorem law (l : Launch) (a : Addr) (D : Cell) (fV fC : Field) (b : Addr) (A : Cell) (z : Int32) (o len : Nat) : Law l yN 5 4 2 35 yB 6 none site (P a D fV fC b A z o len) (E a D fV fC A o len) [⟨a, fC.slot⟩, ⟨a, fV.slot⟩] 1 len := by
  refine Law.of_walk (plainFor_of_name (by decide +kernel)) (by decide +kernel) (by decide +kernel) (by decide) (fun _ _ h => by rw [h.1]; rfl) (fun _ U U' hal hh h => ⟨h.1, h.2.1.mv hal hh, h.2.2.1.al hal, h.2.2.2.1.al hal, h.2.2.2.2.1.mv hal hh, h.2.2.2.2.2.1.there hal hh, h.2.2.2.2.2.2⟩) (fun r U U' V V' h1 hal h2 h => Got.mv r U U' V V' h1 hal h2 h) ?_
  intro p e s m args below meth c s₁ X0 hexec hbytes hml hret hlk hnm hown hh0 W hP
  obtain ⟨rfl, hB, f1, f2, hA, s1, hz, l0, l1, l2, hp⟩ := hP
  have a31 := hA.1.2.2.2
  have c1 : Steps p.tables e below (s₁.setTop (entryFrame m #[.ref a, .ref b, .int (Int32.ofNat o), .int (Int32.ofNat len), .null] 6)) (s₁.setTop (mkF m 0 #[.val (.ref a), .val (.ref b), .val (.int (Int32.ofNat o)), .val (.int (Int32.ofNat len)), .val .null, .unset] [])) := entry rfl
  have c2 : Steps p.tables e below (s₁.setTop (entryFrame m #[.ref a, .ref b, .int (Int32.ofNat o), .int (Int32.ofNat len), .null] 6)) (s₁.setTop (mkF m 1 #[.val (.ref a), .val (.ref b), .val (.int (Int32.ofNat o)), .val (.int (Int32.ofNat len)), .val .null, .unset] [.ref a])) := c1.trans (by
    refine XS.aloadN X0.here hexec rfl (hb hbytes d0) rfl rfl ?_
    exact Steps.refl _)
  obtain ⟨T3, X3, q3, st3⟩ := X0.oinit hexec hown (wks W (objW "java/lang/String" 1)) (g := (mkF m 1 #[.val (.ref a), .val (.ref b), .val (.int (Int32.ofNat o)), .val (.int (Int32.ofNat len)), .val .null, .unset] [.ref a])) rfl (by rw [hml]; rfl) (rest := []) rfl (hb hbytes d1) (W := 0) (by show 2 * 0 + 0 ≤ _; decide) (Nat.le_of_ble_eq_true rfl) (Nat.le_of_ble_eq_true rfl)
  have hh3 := q3.trans hh0
  have c4 : Steps p.tables e below (s₁.setTop (entryFrame m #[.ref a, .ref b, .int (Int32.ofNat o), .int (Int32.ofNat len), .null] 6)) (T3.setTop (mkF m 27 #[.val (.ref a), .val (.ref b), .val (.int (Int32.ofNat o)), .val (.int (Int32.ofNat len)), .val .null, .unset] [])) := (c2.trans (st3 _ (Steps.refl _))).trans (by
    refine XS.iloadN X3.here hexec rfl (hb hbytes d4) rfl ?_
    refine XS.ifYes X3.here hexec rfl (pc0 := 5) rfl (hb hbytes d5) rfl (i0_ne_t (nz32 (by omega) l0)) (by decide) rfl ?_
    exact Steps.refl _)
  obtain ⟨T5, X5, q5, st5⟩ := X3.sget hexec hown (wk W (.fieldLink "java/lang/String" 38 "java/lang/String" "COMPACT_STRINGS" "Z")) s1 (fun _ _ h => by rw [hh3]; exact h) (g := (mkF m 27 #[.val (.ref a), .val (.ref b), .val (.int (Int32.ofNat o)), .val (.int (Int32.ofNat len)), .val .null, .unset] [])) rfl (hb hbytes d27)
  have hh5 := q5.trans hh3
  have c6 : Steps p.tables e below (s₁.setTop (entryFrame m #[.ref a, .ref b, .int (Int32.ofNat o), .int (Int32.ofNat len), .null] 6)) (T5.setTop (mkF m 30 #[.val (.ref a), .val (.ref b), .val (.int (Int32.ofNat o)), .val (.int (Int32.ofNat len)), .val .null, .unset] [.int z])) := c4.trans (st5 _ (Steps.refl _))
  have c7 : Steps p.tables e below (s₁.setTop (entryFrame m #[.ref a, .ref b, .int (Int32.ofNat o), .int (Int32.ofNat len), .null] 6)) (T5.setTop (mkF m 36 #[.val (.ref a), .val (.ref b), .val (.int (Int32.ofNat o)), .val (.int (Int32.ofNat len)), .val .null, .unset] [.int (Int32.ofNat len), .int (Int32.ofNat o), .ref b])) := c6.trans (by
    refine XS.ifNo X5.here hexec rfl (hb hbytes d30) rfl (i0_eq_f hz) ?_
    refine XS.aloadN X5.here hexec rfl (hb hbytes d33) rfl rfl ?_
    refine XS.iloadN X5.here hexec rfl (hb hbytes d34) rfl ?_
    refine XS.iloadN X5.here hexec rfl (hb hbytes d35) rfl ?_
    exact Steps.refl _)
  obtain ⟨v8, T8, X8, E8, g8⟩ := X5.callS hexec (Cmp3.law l b A o len) hown (wks W (staticW "java/lang/String" 177 Cmp3.yN)) (wk W Cmp3.tab) (W := 0) (Nat.le_of_ble_eq_true rfl) (Nat.le_of_ble_eq_true rfl) (Nat.le_refl _) (by show 0 + len ≤ len; omega) (g := (mkF m 36 #[.val (.ref a), .val (.ref b), .val (.int (Int32.ofNat o)), .val (.int (Int32.ofNat len)), .val .null, .unset] [.int (Int32.ofNat len), .int (Int32.ofNat o), .ref b])) rfl (by rw [hml]; rfl) c7 (argsL := [.ref b, .int (Int32.ofNat o), .int (Int32.ofNat len)]) (rest := []) rfl rfl (by show 2 * 0 + 0 ≤ _; decide) (hb hbytes d36) (⟨rfl, hA.mv X5.warmed.alike hh5, l1, l2, hp⟩)
  obtain ⟨e8, z8⟩ := E8
  obtain ⟨rfl, N, n1, n2, n3, n4, n5, n6⟩ := NewArr.mv _ T5 s _ _ hh5.symm (Vm.Alike.refl _) rfl e8
  rw [hh5] at z8
  have hB1 := hB.keep X8.warmed.alike (n6 _ _ hB.1)
  have hne : s.heap.size ≠ a := (Nat.ne_of_lt (Array.getElem?_eq_some_iff.mp hB.1).1).symm
  have c9 : Steps p.tables e below (s₁.setTop (entryFrame m #[.ref a, .ref b, .int (Int32.ofNat o), .int (Int32.ofNat len), .null] 6)) (T8.setTop (mkF m 39 #[.val (.ref a), .val (.ref b), .val (.int (Int32.ofNat o)), .val (.int (Int32.ofNat len)), .val .null, .unset] [.ref s.heap.size])) := g8
  have c10 : Steps p.tables e below (s₁.setTop (entryFrame m #[.ref a, .ref b, .int (Int32.ofNat o), .int (Int32.ofNat len), .null] 6)) (T8.setTop (mkF m 45 #[.val (.ref a), .val (.ref b), .val (.int (Int32.ofNat o)), .val (.int (Int32.ofNat len)), .val .null, .val (.ref s.heap.size)] [.int (Int32.ofNat N.slots.size), .ref s.heap.size, .ref a])) := by
    have hc : Steps p.tables e below (s₁.setTop (entryFrame m #[.ref a, .ref b, .int (Int32.ofNat o), .int (Int32.ofNat len), .null] 6)) (T8.setTop (mkF m 45 #[.val (.ref a), .val (.ref b), .val (.int (Int32.ofNat o)), .val (.int (Int32.ofNat len)), .val .null, .val (.ref s.heap.size)] [.int (Int32.ofNat len), .ref s.heap.size, .ref a])) := c9.trans (by
      refine XS.astore X8.here hexec rfl (hb hbytes d39) rfl rfl rfl ?_
      refine XS.aloadN X8.here hexec rfl (hb hbytes d41) rfl rfl ?_
      refine XS.aload X8.here hexec rfl (hb hbytes d42) rfl rfl ?_
      refine XS.iloadN X8.here hexec rfl (hb hbytes d44) rfl ?_
      exact Steps.refl _)
    rw [n4]; exact hc
  obtain ⟨v11, T11, X11, E11, g11⟩ := X8.callS hexec (CodL.law l s.heap.size N) hown (wks W (staticW "java/lang/String" 47 CodL.yN)) (wk W CodL.tab) (W := 1) (Nat.le_of_ble_eq_true rfl) (Nat.le_of_ble_eq_true rfl) (Nat.le_refl _) (by show 0 + len + 0 ≤ len; omega) (g := (mkF m 45 #[.val (.ref a), .val (.ref b), .val (.int (Int32.ofNat o)), .val (.int (Int32.ofNat len)), .val .null, .val (.ref s.heap.size)] [.int (Int32.ofNat N.slots.size), .ref s.heap.size, .ref a])) rfl (by rw [hml]; rfl) c10 (argsL := [.ref s.heap.size, .int (Int32.ofNat N.slots.size)]) (rest := [.ref a]) rfl rfl (by show 2 * 0 + (1 + 0) ≤ _; decide) (hb hbytes d45) (⟨rfl, n1⟩)
  obtain ⟨rfl, q11⟩ := E11
  have hB11 := hB1.mv (X8.warmed.alike.symm.trans X11.warmed.alike) q11
  have c12 : Steps p.tables e below (s₁.setTop (entryFrame m #[.ref a, .ref b, .int (Int32.ofNat o), .int (Int32.ofNat len), .null] 6)) (T11.setTop (mkF m 48 #[.val (.ref a), .val (.ref b), .val (.int (Int32.ofNat o)), .val (.int (Int32.ofNat len)), .val .null, .val (.ref s.heap.size)] [.int 0, .ref a])) := g11
  obtain ⟨T13, X13, p13, bl13, sl13, st13⟩ := X11.finit hexec hown (wk W (.fieldLink "java/lang/String" 15 "java/lang/String" "coder" "B")) (Or.inr ⟨_, (wk W (.laysFinal "java/lang/String" "java/lang/String" "coder" "B"))⟩) (Or.inl ⟨rfl, hnm⟩) f2 (Or.inl rfl) hB11 (t := .byte) (by decide +kernel) rfl (g := (mkF m 48 #[.val (.ref a), .val (.ref b), .val (.int (Int32.ofNat o)), .val (.int (Int32.ofNat len)), .val .null, .val (.ref s.heap.size)] [.int 0, .ref a])) rfl (rest := []) rfl (hb hbytes d48)
  have c14 : Steps p.tables e below (s₁.setTop (entryFrame m #[.ref a, .ref b, .int (Int32.ofNat o), .int (Int32.ofNat len), .null] 6)) (T13.setTop (mkF m 54 #[.val (.ref a), .val (.ref b), .val (.int (Int32.ofNat o)), .val (.int (Int32.ofNat len)), .val .null, .val (.ref s.heap.size)] [.ref s.heap.size, .ref a])) := (c12.trans (st13 _ (Steps.refl _))).trans (by
    refine XS.aloadN X13.here hexec rfl (hb hbytes d51) rfl rfl ?_
    refine XS.aload X13.here hexec rfl (hb hbytes d52) rfl rfl ?_
    exact Steps.refl _)
  obtain ⟨T15, X15, p15, bl15, sl15, st15⟩ := X13.finit hexec hown (wk W (.fieldLink "java/lang/String" 9 "java/lang/String" "value" "[B")) (Or.inr ⟨_, (wk W (.laysFinal "java/lang/String" "java/lang/String" "value" "[B"))⟩) (Or.inl ⟨rfl, hnm⟩) f1 (Or.inl rfl) bl13 (t := (.array .byte)) (by decide +kernel) rfl (g := (mkF m 54 #[.val (.ref a), .val (.ref b), .val (.int (Int32.ofNat o)), .val (.int (Int32.ofNat len)), .val .null, .val (.ref s.heap.size)] [.ref s.heap.size, .ref a])) rfl (rest := []) rfl (hb hbytes d54)
  have c16 : Steps p.tables e below (s₁.setTop (entryFrame m #[.ref a, .ref b, .int (Int32.ofNat o), .int (Int32.ofNat len), .null] 6)) (T15.setTop (mkF m 57 #[.val (.ref a), .val (.ref b), .val (.int (Int32.ofNat o)), .val (.int (Int32.ofNat len)), .val .null, .val (.ref s.heap.size)] [])) := c14.trans (st15 _ (Steps.refl _))
  have ap := apart (Or.inr ⟨_, (wk W (.laysFinal "java/lang/String" "java/lang/String" "value" "[B"))⟩) (Or.inr ⟨_, (wk W (.laysFinal "java/lang/String" "java/lang/String" "coder" "B"))⟩) f1 f2 (t₁ := .array .byte) (t₂ := .byte) (by decide +kernel) (by decide +kernel) (by decide)
  have al := X8.warmed.alike.symm.trans X15.warmed.alike
  have n7 : T11.heap[s.heap.size]? = some N := by rw [q11]; exact n1.1
  exact ⟨T15, none, _, _, _, X15, by simp, rfl, by omega, (fun _ => rfl), ⟨rfl, _, N, bl15, ((Same.refl D _).set _ (by simp)).set _ (by simp), sl15, (Cell.slots_setSlot_ne _ ap).trans sl13, n1.keep al (p15.other hne (p13.other hne n7)), n2, by rw [al.findClass]; exact n3, n4, n5, fun y c h1 h2 => p15.other h1 (p13.other h1 (by rw [q11]; exact n6 y c h2)), by rw [p15.2.2, p13.2.2, q11]; exact z8⟩, fun fs hl => c16.trans (X15.returnOut hexec hret (hb hbytes d57) hl)⟩
end New4
namespace New1
def yN : MethodName := ⟨"java/lang/String", "<init>", "([C)V"⟩
abbrev yB : ByteArray := jdk_42_method_3_code
theorem d0 : decode yB 0 = .ok (.aload_n 0, 1) := by decide +kernel
theorem d1 : decode yB 1 = .ok (.aload_n 1, 1) := by decide +kernel
theorem d2 : decode yB 2 = .ok (.iconst 0, 1) := by decide +kernel
theorem d3 : decode yB 3 = .ok (.aload_n 1, 1) := by decide +kernel
theorem d4 : decode yB 4 = .ok (.arraylength, 1) := by decide +kernel
theorem d5 : decode yB 5 = .ok (.aconst_null, 1) := by decide +kernel
theorem d6 : decode yB 6 = .ok (.invokespecial 27, 3) := by decide +kernel
theorem d9 : decode yB 9 = .ok (.return_, 1) := by decide +kernel
def site : List Cond := [New4.tab] ++ initW "java/lang/String" 27 New4.yN
def tab : Cond := tabOf yN yB 2 none site
def P (a : Addr) (D : Cell) (fV fC : Field) (b : Addr) (A : Cell) (z : Int32) (args : Array Value) (s : State) : Prop := args = #[.ref a, .ref b] ∧ Blank "java/lang/String" a D s ∧ Found "java/lang/String" "value" "[B" fV s ∧ Found "java/lang/String" "coder" "B" fC s ∧ Ch b A s ∧ StaticIs s "java/lang/String" "COMPACT_STRINGS" "Z" (.int z) ∧ ¬ z = 0 ∧ 0 < A.slots.size ∧ A.slots.size ≤ 536870912 ∧ ∀ i, i < A.slots.size → ¬ 255 < cv A i
def E (a : Addr) (D : Cell) (fV fC : Field) (A : Cell) (r : Option Value) (s u : State) : Prop := Got a D fV fC A 0 A.slots.size r s u
/-- new String(chars), not empty, no char above 255: a Latin-1 String of their low bytes -/
theorem law (l : Launch) (a : Addr) (D : Cell) (fV fC : Field) (b : Addr) (A : Cell) (z : Int32) : Law l yN 2 1 3 52 yB 2 none site (P a D fV fC b A z) (E a D fV fC A) [⟨a, fC.slot⟩, ⟨a, fV.slot⟩] 1 A.slots.size := by
  refine Law.of_walk (plainFor_of_name (by decide +kernel)) (by decide +kernel) (by decide +kernel) (by decide) (fun _ _ h => by rw [h.1]; rfl) (fun _ U U' hal hh h => ⟨h.1, h.2.1.mv hal hh, h.2.2.1.al hal, h.2.2.2.1.al hal, h.2.2.2.2.1.mv hal hh, h.2.2.2.2.2.1.there hal hh, h.2.2.2.2.2.2⟩) (fun r U U' V V' h1 hal h2 h => Got.mv r U U' V V' h1 hal h2 h) ?_
  intro p e s m args below meth c s₁ X0 hexec hbytes hml hret hlk hnm hown hh0 W hP
  obtain ⟨rfl, hB, f1, f2, hA, s1, hz, l0, l2, hp⟩ := hP
  have c1 : Steps p.tables e below (s₁.setTop (entryFrame m #[.ref a, .ref b] 2)) (s₁.setTop (mkF m 0 #[.val (.ref a), .val (.ref b)] [])) := entry rfl
  have c2 : Steps p.tables e below (s₁.setTop (entryFrame m #[.ref a, .ref b] 2)) (s₁.setTop (mkF m 6 #[.val (.ref a), .val (.ref b)] [.null, .int (Int32.ofNat A.slots.size), .int 0, .ref b, .ref a])) := c1.trans (by
    refine XS.aloadN X0.here hexec rfl (hb hbytes d0) rfl rfl ?_
    refine XS.aloadN X0.here hexec rfl (hb hbytes d1) rfl rfl ?_
    refine iconstV X0.here hexec rfl 0 (hb hbytes d2) (by decide) ?_
    refine XS.aloadN X0.here hexec rfl (hb hbytes d3) rfl rfl ?_
    refine X0.alen hexec (hA.1.mv X0.warmed.alike hh0) rfl rfl (hb hbytes d4) ?_
    refine XS.aconstNull X0.here hexec rfl (hb hbytes d5) ?_
    exact Steps.refl _)
  obtain ⟨v3, T3, X3, E3, g3⟩ := X0.callN hexec (New4.law l a D fV fC b A z 0 A.slots.size) rfl hown (wks W (initW "java/lang/String" 27 New4.yN)) (W New4.tab (by simp only [site, List.mem_cons, List.mem_append, true_or, or_true])) (W := 0) (Nat.le_of_ble_eq_true rfl) (Nat.le_of_ble_eq_true rfl) (Nat.le_refl _) (by show 0 + A.slots.size ≤ A.slots.size; omega) (g := (mkF m 6 #[.val (.ref a), .val (.ref b)] [.null, .int (Int32.ofNat A.slots.size), .int (Int32.ofNat 0), .ref b, .ref a])) rfl (by rw [hml]; rfl) c2 (argsL := [.ref b, .int (Int32.ofNat 0), .int (Int32.ofNat A.slots.size), .null]) (rest := []) rfl rfl (by show 2 * 0 + 0 ≤ _; decide) (hb hbytes d6) (⟨rfl, hB.mv X0.warmed.alike hh0, f1.al X0.warmed.alike, f2.al X0.warmed.alike, hA.mv X0.warmed.alike hh0, s1.there X0.warmed.alike hh0, hz, l0, by omega, l2, fun i hi => by rw [Nat.zero_add]; exact hp i hi⟩)
  have e0 := Got.mv _ s₁ s _ _ hh0.symm (Vm.Alike.refl _) rfl E3
  obtain rfl := e0.1
  have c4 : Steps p.tables e below (s₁.setTop (entryFrame m #[.ref a, .ref b] 2)) (T3.setTop (mkF m 9 #[.val (.ref a), .val (.ref b)] [])) := g3
  exact ⟨T3, none, _, _, _, X3, by simp, rfl, by omega, (fun _ => rfl), e0, fun fs hl => c4.trans (X3.returnOut hexec hret (hb hbytes d9) hl)⟩
theorem pays {l : Launch} {R : Room} {p : Program} {e : Env} {below : List Frame} {s : State} {sargs : Array Value} {len W : Nat} (a : Addr) (D : Cell) (fV fC : Field) (b : Addr) (A : Cell) (z : Int32) (htab : tab.before sargs s = true) (hfr : 4 ≤ R.frames) (hlo : W + 65 ≤ R.locals) :
    Back l R p e below s sargs yN len W (fun A₁ a₁ => A₁.cells + 1 ≤ R.cells ∧ A₁.slots + A.slots.size ≤ R.slots ∧ P a D fV fC b A z a₁ A₁.U) (fun A₁ _ v₁ B₁ => E a D fV fC A v₁ A₁.U B₁.U ∧ B₁.locs = A₁.locs ++ [⟨a, fC.slot⟩, ⟨a, fV.slot⟩] ∧ B₁.cells = A₁.cells + 1 ∧ B₁.slots = A₁.slots + A.slots.size) :=
  (law l a D fV fC b A z).pays htab hfr (by omega)
end New1
end StrChars
namespace StrChars.Road
open Jvm Sem ClassFile Op Lib Jvm.Stand Jvm.Free Jvm.Free.XT
open Jvm.Lib.Cold (StaticIs)
abbrev ST : String := "java/lang/String"
/-- every table word that New1's law asks, flat -/
abbrev words : List Jvm.Cond := [.code New1.yN New1.yB 2 none, .initialized ST, .methodLink ST 27 New4.yN, .instanceMethod New4.yN,
  .code New4.yN New4.yB 6 none, .fieldLink ST 38 ST "COMPACT_STRINGS" "Z", .laysFinal ST ST "value" "[B", .fieldLink ST 9 ST "value" "[B", .laysFinal ST ST "coder" "B", .fieldLink ST 15 ST "coder" "B",
  .methodLink ST 1 Lib.objectInit, .instanceMethod Lib.objectInit, .code Lib.objectInit ⟨#[0xb1]⟩ 1 none, .methodLink ST 177 Cmp3.yN, .static Cmp3.yN, .methodLink ST 47 CodL.yN, .static CodL.yN,
  .code Cmp3.yN Cmp3.yB 6 (some (.array .byte)), .initialized U16, .arrayClass .byte, .methodLink U16 115 Cmp5.yN, .static Cmp5.yN, .code Cmp5.yN Cmp5.yB 7 (some .int), .code CodL.yN CodL.yB 2 (some .byte)]
theorem tab_of {a : Array Value} {s : State} (h : ∀ w ∈ words, w.before a s = true) : New1.tab.before a s = true := by
  have h5 : Cmp5.tab.before a s = true := unparts (wk h (.code Cmp5.yN Cmp5.yB 7 (some .int))) (wks h (.initialized Cmp5.yN.cls :: Cmp5.site))
  have hc : CodL.tab.before a s = true := unparts (wk h (.code CodL.yN CodL.yB 2 (some .byte))) (wks h (.initialized CodL.yN.cls :: CodL.site))
  have q5 : ∀ w ∈ Cmp5.tab :: words, w.before a s = true := fun w hw => (List.mem_cons.mp hw).elim (fun e => e ▸ h5) (h w)
  have h3 : Cmp3.tab.before a s = true := unparts (wk q5 (.code Cmp3.yN Cmp3.yB 6 (some (.array .byte)))) (wks q5 (.initialized Cmp3.yN.cls :: Cmp3.site))
  have q3 : ∀ w ∈ Cmp3.tab :: CodL.tab :: words, w.before a s = true := fun w hw => (List.mem_cons.mp hw).elim (fun e => e ▸ h3) fun hw => (List.mem_cons.mp hw).elim (fun e => e ▸ hc) (h w)
  have h4 : New4.tab.before a s = true := unparts (wk q3 (.code New4.yN New4.yB 6 none)) (wks q3 (.initialized New4.yN.cls :: New4.site))
  have q4 : ∀ w ∈ New4.tab :: words, w.before a s = true := fun w hw => (List.mem_cons.mp hw).elim (fun e => e ▸ h4) (h w)
  exact unparts (wk q4 (.code New1.yN New1.yB 2 none)) (wks q4 (.initialized New1.yN.cls :: New1.site))
/-- the words ride from the start Z to the walk's own state -/
theorem moved {Z s : State} {a0 args : Array Value} (hZ : Z.Warmed39 s.vm) (hw : ∀ d ∈ words, d.before a0 Z = true) : ∀ d ∈ words, d.before args s = true := fun d hd => by
  have q := hw d hd
  have t : ∀ d ∈ words, d = .arrayClass .byte ∨ (d.onTables && d.keepsFace) = true := by decide +kernel
  rcases t d hd with rfl | t
  · exact RoadKit.mvA hZ q
  · exact RoadKit.mv hZ q t
/-- WHAT COMES BACK, over the tables of the start Z: h the heap at the call, h' behind it -/
def Q (Z : State) (x : Addr) (A : Cell) (h : Heap) (v : Option Value) (h' : Heap) (L : List Loc) : Prop := v = none ∧ (∀ y ∈ L, y.base = x) ∧ RoadKit.Keep h h' [x] ∧ h'.size = h.size + 1 ∧ RoadKit.Exa Z h' x ST ∧ RoadKit.Fld Z h' x ST "value" "[B" (.ref h.size) ∧ RoadKit.Fld Z h' x ST "coder" "B" (.int 0) ∧
  (∃ V : Cell, RoadKit.Arr Z h' h.size V .byte ∧ V.vm = .none ∧ Z.vm.findClass "[B" = some V.cls ∧ V.slots.size = A.slots.size ∧ ∀ j, j < A.slots.size → V.slots[j]? = some (.int (lo8 (cv A j)))) ∧
  ∀ (O n d : String) (w : Value), RoadKit.Fld Z h x O n d w → RoadKit.slotOf Z O n d ≠ RoadKit.slotOf Z ST "value" "[B" → RoadKit.slotOf Z O n d ≠ RoadKit.slotOf Z ST "coder" "B" → RoadKit.Fld Z h' x O n d w
/-- **new String(chars) AT A CALL, IN THE ROAD'S FORM**: for specialBack behind newO: x the fresh String, b the char[] with the cell A -/
theorem back {p : Program} {l : Launch} {e : Env} {R : Room} {s : State} {args : Array Value} {below : List Frame} {len W : Nat} {Z : State} {a0 : Array Value} {h : Heap} (hZ : Z.Warmed39 s.vm) (hw : ∀ d ∈ words, d.before a0 Z = true) {kI : Nat} (wi : (Jvm.Cond.instantiable ST kI).before a0 Z = true)
    {x b : Addr} {A : Cell} {z : Int32} {v0 c0 : Value} (E : RoadKit.Exa Z h x ST) (V : RoadKit.Fld Z h x ST "value" "[B" v0) (C : RoadKit.Fld Z h x ST "coder" "B" c0) (K : RoadKit.Arr Z h b A .char) (hty : Typed .char A) (S : RoadKit.Sta Z h ST "COMPACT_STRINGS" "Z" (.int z)) (hz : ¬ z = 0)
    (l0 : 0 < A.slots.size) (l2 : A.slots.size ≤ 536870912) (hp : ∀ i, i < A.slots.size → ¬ 255 < cv A i) (hfr : 4 ≤ R.frames) (hlo : W + 65 ≤ R.locals) :
    Back l R p e below s args New1.yN len W (fun P a => a = #[.ref x, .ref b] ∧ P.U.heap = h ∧ P.cells + 1 ≤ R.cells ∧ P.slots + A.slots.size ≤ R.slots)
      (fun P _ v B => ∃ L, Q Z x A h v B.U.heap L ∧ B.locs = P.locs ++ L ∧ B.cells = P.cells + 1 ∧ B.slots = P.slots + A.slots.size) := by
  intro m meth c P g ig mk a X hg hsize hdg hW hn hp'
  obtain ⟨rfl, rfl, r1, r2⟩ := hp'
  have al : Z.vm.Alike P.U.vm := hZ.alike.trans X.warmed.alike
  obtain ⟨D, cfV, kV, iV, fV, hD, gV, stV, knV, obV, asV, slV⟩ := id V
  obtain ⟨D', cfC, kC, iC, fC, hD', gC, stC, -, -, asC, slC⟩ := id C
  cases hD.symm.trans hD'
  obtain ⟨D2, kD, e1, e2, e3, e4, e5⟩ := id E
  cases hD.symm.trans e1
  obtain ⟨c2, k2, i1, i2, i3, -⟩ := Cond.instantiable_spec wi
  cases e2.symm.trans i1
  cases e3.symm.trans i2
  obtain ⟨kU, u1, u2⟩ := al.2.2 _ _ e3
  have hB : Blank ST x D P.U := ⟨hD, ⟨knV, fun q hq => by rw [hq] at obV; cases obV⟩, by rw [al.findClass]; exact e2, kU, u1, by rw [u2]; exact i3, by rw [u2]; exact e5 i3⟩
  have F1 : Found ST "value" "[B" fV P.U := ⟨SBG.found_only al ⟨cfV, kV, iV, gV⟩, stV⟩
  have F2 : Found ST "coder" "B" fC P.U := ⟨SBG.found_only al ⟨cfC, kC, iC, gC⟩, stC⟩
  have hA : Ch b A P.U := ⟨⟨K.1, State.isArrayOf_alike al K.2.1, K.2.2, by omega⟩, hty⟩
  have hS : StaticIs P.U ST "COMPACT_STRINGS" "Z" (.int z) := by
    obtain ⟨cfS, iS, kS, fS, st, cS, t1, t2, t3, t4, t5, t6, t7⟩ := S
    exact StaticIs.there (s := { Z with heap := P.U.heap }) ⟨cfS, iS, kS, fS, st, cS, t1, t2, t3, t4, t5, (fun q => by rw [q] at t6; cases t6), t7⟩ al rfl
  obtain ⟨v, B, X', ⟨⟨hv, E', V', q1, q2, q3, q4, q5, q6, q7, q8, q9, q10, q11⟩, hl, hc, hs⟩, st⟩ := New1.pays x D fV fC b A z (tab_of (moved hZ hw)) hfr hlo m meth c P g ig mk _ X hg hsize hdg hW hn ⟨r1, r2, rfl, hB, F1, F2, hA, hS, hz, l0, l2, hp⟩
  have al' : Z.vm.Alike B.U.vm := hZ.alike.trans X'.warmed.alike
  have hsz : E'.slots.size = D.slots.size := by
    obtain ⟨-, -, -, kB, w1, w2, w3⟩ := q1
    obtain ⟨kB', y1, y2⟩ := al'.2.2 _ _ e3
    rw [q2.2.1] at w1
    cases w1.symm.trans y1
    rw [w3, e5 i3, y2]
  refine ⟨v, B, X', ⟨_, ⟨hv, ?_, ⟨by omega, fun y cy hy hn' => q10 y cy (by simpa using hn') hy, fun y cy hy => ?_⟩, q11, ⟨E', _, q1.1, by rw [q2.2.1]; exact e2, by rw [q2.2.1]; exact e3, by rw [q2.1]; exact obV, fun _ => by rw [hsz]; exact e5 i3⟩,
    ⟨E', cfV, kV, iV, fV, q1.1, gV, stV, by rw [q2.1]; exact knV, by rw [q2.1]; exact obV, by rw [q2.2.1]; exact asV, q3⟩, ⟨E', cfC, kC, iC, fC, q1.1, gC, stC, by rw [q2.1]; exact knV, by rw [q2.1]; exact obV, by rw [q2.2.1]; exact asC, q4⟩,
    ⟨V', ⟨q5.1, State.isArrayOf_alike al'.symm q5.2.1, q5.2.2.1⟩, q6, by rw [← al'.findClass]; exact q7, q8, fun j hj => by have := q9 j hj; rwa [Nat.zero_add] at this⟩, fun O n d w F n1 n2 => ?_⟩, hl, hc, hs⟩, st⟩
  · intro y hy
    simp only [List.mem_cons, List.not_mem_nil, or_false] at hy
    rcases hy with rfl | rfl <;> rfl
  · by_cases q : y = x
    · subst q
      cases hD.symm.trans hy
      exact ⟨E', q1.1, q2.2.1, q2.1, hsz⟩
    · exact ⟨cy, q10 y cy q hy, rfl, rfl, rfl⟩
  · obtain ⟨D3, cf, k, i, f, g1, g2, g3, g4, g5, g6, g7⟩ := F
    cases hD.symm.trans g1
    simp only [RoadKit.slotOf, g2, gV, gC, Option.map_some, Option.getD_some] at n1 n2
    exact ⟨E', cf, k, i, f, q1.1, g2, g3, by rw [q2.1]; exact g4, by rw [q2.1]; exact g5, by rw [q2.2.1]; exact g6, by rw [q2.2.2 f.slot (by simp [n1, n2])]; exact g7⟩
end StrChars.Road
namespace StrChars.Road
open Jvm Sem ClassFile Op Lib Jvm.Stand Jvm.Free Jvm.Free.XT
/-- WHAT COMES BACK, the byte[] as a list of values -/
def QA (Z : State) (x : Addr) (zn : Int32) (cs : List Int32) (h : Heap) (v : Option Value) (h' : Heap) (L : List Loc) : Prop := v = none ∧ (∀ y ∈ L, y.base = x) ∧ RoadKit.Keep h h' [x] ∧ h'.size = h.size + 1 ∧ RoadKit.Exa Z h' x ST ∧ RoadKit.Fld Z h' x ST "value" "[B" (.ref h.size) ∧ RoadKit.Fld Z h' x ST "coder" "B" (.int 0) ∧
  (∃ kb, Z.vm.findClass "[B" = some kb ∧ RoadKit.Arv Z h' h.size kb .byte zn (cs.map fun c => .int (lo8 c)) (.int 0)) ∧
  ∀ (O n d : String) (w : Value), RoadKit.Fld Z h x O n d w → RoadKit.slotOf Z O n d ≠ RoadKit.slotOf Z ST "value" "[B" → RoadKit.slotOf Z O n d ≠ RoadKit.slotOf Z ST "coder" "B" → RoadKit.Fld Z h' x O n d w
/-- **new String(chars) AT A CALL, THE ARRAYS AS LISTS**: the char[] at b holds cs, not empty, no char above 255 -/
theorem backArv {p : Program} {l : Launch} {e : Env} {R : Room} {s : State} {args : Array Value} {below : List Frame} {len W : Nat} {Z : State} {a0 : Array Value} {h : Heap} (hZ : Z.Warmed39 s.vm) (hw : ∀ d ∈ words, d.before a0 Z = true) {kI : Nat} (wi : (Jvm.Cond.instantiable ST kI).before a0 Z = true)
    {x b : Addr} {k : ClassId} {zn z : Int32} {cs : List Int32} {dv v0 c0 : Value} (E : RoadKit.Exa Z h x ST) (V : RoadKit.Fld Z h x ST "value" "[B" v0) (C : RoadKit.Fld Z h x ST "coder" "B" c0) (K : RoadKit.Arv Z h b k .char zn (cs.map Value.int) dv) (S : RoadKit.Sta Z h ST "COMPACT_STRINGS" "Z" (.int z)) (hz : ¬ z = 0)
    (hlen : zn.toNatClampNeg = cs.length) (h0 : 0 < cs.length) (hbig : cs.length ≤ 536870912) (hall : ∀ c ∈ cs, ¬ 255 < c) (hfr : 4 ≤ R.frames) (hlo : W + 65 ≤ R.locals) :
    Back l R p e below s args New1.yN len W (fun P a => a = #[.ref x, .ref b] ∧ P.U.heap = h ∧ P.cells + 1 ≤ R.cells ∧ P.slots + cs.length ≤ R.slots)
      (fun P _ v B => ∃ L, QA Z x zn cs h v B.U.heap L ∧ B.locs = P.locs ++ L ∧ B.cells = P.cells + 1 ∧ B.slots = P.slots + cs.length) := by
  obtain ⟨A, K1, K2, K3, K4, K5, K6⟩ := K
  have e : A.slots.size = cs.length := K3.trans hlen
  have hat : ∀ (i : Nat) (hi : i < cs.length), A.slots[i]? = some (.int cs[i]) := fun i hi => by rw [K5 i (by omega)]; simp [List.getD_eq_getElem?_getD, hi]
  have hcv : ∀ (i : Nat) (hi : i < cs.length), cv A i = cs[i] := fun i hi => by unfold cv; rw [hat i hi]
  have hty : Typed .char A := fun i v hv => by
    have hi : i < A.slots.size := (Array.getElem?_eq_some_iff.mp hv).1
    have q := K5 i hi
    rw [hv] at q
    rw [Option.some.inj q]
    exact K6 i hi
  refine Back.mono (back hZ hw wi E V C K1 hty S hz (by omega) (by omega) (fun i hi => by rw [hcv i (by omega)]; exact hall _ (List.getElem_mem _)) hfr hlo) (fun P a hp => ⟨hp.1, hp.2.1, hp.2.2.1, by rw [e]; exact hp.2.2.2⟩) (fun P a v B hp hq => ?_)
  obtain ⟨L, ⟨q1, q2, q3, q4, q5, q6, q7, ⟨V', v1, v2, v3, v4, v5⟩, q9⟩, hl, hc, hs⟩ := hq
  refine ⟨L, ⟨q1, q2, q3, q4, q5, q6, q7, ⟨V'.cls, v3, V', v1, rfl, by rw [v4, e, hlen], K4, fun i hi => ?_, fun i hi => ?_⟩, q9⟩, hl, hc, by rw [hs, e]⟩
  · have hi' : i < cs.length := by omega
    rw [v5 i (by omega), hcv i hi']; simp [List.getD_eq_getElem?_getD, hi']
  · have hi' : i < cs.length := by omega
    simp only [List.getD_eq_getElem?_getD, List.getElem?_map, List.getElem?_eq_getElem hi', Option.map_some, Option.getD_some]
    exact fits_lo8 _
end StrChars.Road
namespace StrChars.Road
open Jvm Sem ClassFile Op Lib Jvm.Stand Jvm.Free Jvm.Free.XT
/-- WHAT COMES BACK, in the writer's own shape -/
def QV (Z : State) (x : Addr) (N : Int32) (bs : List Int32) (h : Heap) (n0 : Nat) (v : Option Value) (h' : Heap) (L : List Loc) : Prop := v = none ∧ RoadKit.Fr n0 L ∧ RoadKit.Keep h h' [x] ∧ RoadKit.Exa Z h' x ST ∧ RoadKit.Fld Z h' x ST "coder" "B" (.int 0) ∧
  ∃ (t : Addr) (kb : ClassId), n0 ≤ t ∧ h.size ≤ t ∧ ¬ t = x ∧ RoadKit.Fld Z h' x ST "value" "[B" (.ref t) ∧ RoadKit.Arv Z h' t kb .byte N (bs.map Value.int) (.int 0)
/-- **new String(chars) AT A CALL, FOR THE WRITER**: a char[] of n known ints, each 0 to 255 -/
theorem backV {p : Program} {l : Launch} {e : Env} {R : Room} {s : State} {args : Array Value} {below : List Frame} {len W : Nat} {Z : State} {a0 : Array Value} {h : Heap} (hZ : Z.Warmed39 s.vm) (hw : ∀ d ∈ words, d.before a0 Z = true) {kI : Nat} (wi : (Jvm.Cond.instantiable ST kI).before a0 Z = true)
    {x b : Addr} {kC : ClassId} {cs bs : List Int32} {d v0 c0 : Value} {z N : Int32} {n n0 : Nat} (hx0 : n0 ≤ x) (hh0 : n0 ≤ h.size) (E : RoadKit.Exa Z h x ST) (V : RoadKit.Fld Z h x ST "value" "[B" v0) (C : RoadKit.Fld Z h x ST "coder" "B" c0) (K : RoadKit.Arv Z h b kC .char N (cs.map Value.int) d) (S : RoadKit.Sta Z h ST "COMPACT_STRINGS" "Z" (.int z)) (hz : ¬ z = 0)
    (hn : cs.length = n) (hN : N = Int32.ofNat n) (l0 : 0 < n) (l2 : n ≤ 4000) (hp : ∀ c ∈ cs, ¬ c < 0 ∧ ¬ (255 : Int32) < c) (hb : bs = cs.map (fun c => c.toInt8.toInt32)) (hfr : 4 ≤ R.frames) (hlo : W + 65 ≤ R.locals) :
    Back l R p e below s args (⟨"java/lang/String", "<init>", "([C)V"⟩ : MethodName) len W (fun P a => a = #[.ref x, .ref b] ∧ P.U.heap = h ∧ P.cells + 1 ≤ R.cells ∧ P.slots + n ≤ R.slots)
      (fun P _ v B => ∃ L, QV Z x N bs h n0 v B.U.heap L ∧ B.locs = P.locs ++ L ∧ B.cells = P.cells + 1 ∧ B.slots = P.slots + n) := by
  subst hn hN hb
  refine Back.mono (backArv hZ hw wi E V C K S hz (n32 (by omega)) l0 (by omega) (fun c hc => (hp c hc).2) hfr hlo) (fun P a hp => hp) (fun P a v B hp hq => ?_)
  obtain ⟨L, ⟨q1, q2, q3, q4, q5, q6, q7, ⟨kb, v1, v2⟩, q9⟩, hl, hc, hs⟩ := hq
  exact ⟨L, ⟨q1, fun y hy => by rw [q2 y hy]; exact hx0, q3, q5, q7, h.size, kb, hh0, Nat.le_refl _, Nat.ne_of_gt E.lt, q6, by rw [List.map_map]; exact v2⟩, hl, hc, hs⟩
end StrChars.Road
end Jvm.Pilot.@@N@@
namespace Jvm.Pilot.@@N@@
open Jvm Jvm.ClassFile Sem Op Lib Jvm.Free Jvm.Stand Jvm.LawKit Jvm.RoadKit Bundle Jvm.Pilot.@@N@@.Jvm.D
section OwnSmall
variable {x y : Int32} {v : Value}
theorem qEqT (h : x = y) : if_icmp.holds .eq x y = true := (teq h).1
theorem qEqF (h : ¬ x = y) : if_icmp.holds .eq x y = false := (feq h).1
theorem qNeT (h : ¬ x = y) : if_icmp.holds .ne x y = true := (feq h).2
theorem qNeF (h : x = y) : if_icmp.holds .ne x y = false := (teq h).2
theorem qLtT (h : x < y) : if_icmp.holds .lt x y = true := (tlt h).1
theorem qGeF (h : x < y) : if_icmp.holds .ge x y = false := (tlt h).2.1
theorem qGtT (h : y < x) : if_icmp.holds .gt x y = true := (tlt h).2.2.1
theorem qLeF (h : y < x) : if_icmp.holds .le x y = false := (tlt h).2.2.2
theorem qLtF (h : ¬ x < y) : if_icmp.holds .lt x y = false := by simp [if_icmp.holds, h]
theorem qGeT (h : ¬ x < y) : if_icmp.holds .ge x y = true := by
  have h' : y ≤ x := by rw [Int32.le_iff_toInt_le]; rw [Int32.lt_iff_toInt_lt] at h; omega
  simp [if_icmp.holds, h']
theorem qGtF (h : ¬ y < x) : if_icmp.holds .gt x y = false := by simp [if_icmp.holds, h]
theorem qLeT (h : ¬ y < x) : if_icmp.holds .le x y = true := by
  have h' : x ≤ y := by rw [Int32.le_iff_toInt_le]; rw [Int32.lt_iff_toInt_lt] at h; omega
  simp [if_icmp.holds, h']
theorem zEqT (h : x = 0) : ifCond.holds .eq x = true := by rw [if0]; exact qEqT h
theorem zEqF (h : ¬ x = 0) : ifCond.holds .eq x = false := by rw [if0]; exact qEqF h
theorem zNeT (h : ¬ x = 0) : ifCond.holds .ne x = true := by rw [if0]; exact qNeT h
theorem zNeF (h : x = 0) : ifCond.holds .ne x = false := by rw [if0]; exact qNeF h
theorem zLtT (h : x < 0) : ifCond.holds .lt x = true := by rw [if0]; exact qLtT h
theorem zLtF (h : ¬ x < 0) : ifCond.holds .lt x = false := by rw [if0]; exact qLtF h
theorem zGeT (h : ¬ x < 0) : ifCond.holds .ge x = true := by rw [if0]; exact qGeT h
theorem zGeF (h : x < 0) : ifCond.holds .ge x = false := by rw [if0]; exact qGeF h
theorem zGtT (h : 0 < x) : ifCond.holds .gt x = true := by rw [if0]; exact qGtT h
theorem zGtF (h : ¬ 0 < x) : ifCond.holds .gt x = false := by rw [if0]; exact qGtF h
theorem zLeT (h : ¬ 0 < x) : ifCond.holds .le x = true := by rw [if0]; exact qLeT h
theorem zLeF (h : 0 < x) : ifCond.holds .le x = false := by rw [if0]; exact qLeF h
theorem cat1 (h : v.isRef = true) : v.category = 1 := by cases v <;> first | rfl | cases h
theorem nrR {c : String} (h : v.isRef = true) : narrow (.object c) v = v := by cases v <;> first | rfl | cases h
theorem ftR {c : String} (h : v.isRef = true) : fits (.object c) v = true := by cases v <;> first | rfl | cases h
/-- a char below 256 -/
def Chr (c : Int32) : Prop := ¬ c < 0 ∧ ¬ (255 : Int32) < c
theorem Chr.nar {c : Int32} (h : Chr c) : nar .char c = c := by
  have q := c_i2c c
  show c.toUInt32.toUInt16.toUInt32.toInt32 = c
  apply Int32.toInt_inj.mp
  have h1 := h.1
  have h2 := h.2
  rw [Int32.lt_iff_toInt_lt] at h1 h2
  have e1 : (0 : Int32).toInt = 0 := rfl
  have e2 : (255 : Int32).toInt = 255 := rfl
  omega
theorem chr255 (z : Int32) : Chr ((z &&& (255 : Int32)).toUInt32.toUInt16.toUInt32.toInt32) := by
  rw [i2c_mask]
  have q := c_and z 255 (by decide)
  have e1 : (0 : Int32).toInt = 0 := rfl
  have e2 : (255 : Int32).toInt = 255 := rfl
  refine ⟨fun h => ?_, fun h => ?_⟩ <;> rw [Int32.lt_iff_toInt_lt] at h <;> omega
end OwnSmall
end Jvm.Pilot.@@N@@
namespace Jvm.Pilot.@@N@@
open Jvm Jvm.ClassFile Sem Op Lib Jvm.Free Jvm.Stand Jvm.LawKit Jvm.RoadKit Bundle Jvm.Pilot.@@N@@.Jvm.D
section OwnKit
/-- from (T, f) the run comes to an end of which P speaks -/
def Go (p : Program) (e : Env) (below : List Frame) (P : Outcome → State → Prop) (T : State) (f : JFrame) : Prop :=
  ∃ s₂ o, Steps p.tables e below (T.setTop f) s₂ ∧ s₂.status = .running ∧ Ended s₂ below o ∧ P o s₂
/-- the end of a body: narrow (nothing interned) or wide -/
def EndB (wd : Bool) (EL : List (String × Nat)) (Z s : State) (o : Outcome) (t : State) (L : List Loc) (k n : Nat) : Prop :=
  match wd with
  | true => CHr Z EL s.vm s.heap t.vm t.heap ∧ ReturnedEndW s o t L k n
  | false => FrameEnd s o t L k n
def Done (wd : Bool) (EL : List (String × Nat)) (Z s : State) (n0 : Nat) (h0 : Heap) (ws : List Addr) (rc rs : Nat) (Q : Option Value → Heap → Prop) (o : Outcome) (U : State) : Prop :=
  ∃ v L, o = .returned v ∧ (Q v U.heap ∧ Keep h0 U.heap ws ∧ Fr n0 L) ∧ EndB wd EL Z s o U L rc rs
/-- where a walk stands: its state T, its heap h; F: places that no booked literal lies in; ws0: what may be written of what stood at the body's start -/
def Sd (wd : Bool) (EL : List (String × Nat)) (a0 : Array Value) (p : Program) (l : Launch) (e : Env) (R : Room) (s : State) (m : MethodId) (args : Array Value) (below : List Frame) (meth : Method) (c : Code) (Z : State) (own : String) (n0 : Nat) (h0 : Heap) (ws0 : List Addr)
    (T : State) (h : Heap) (F : List Addr) (locs : List Loc) (cells slots : Nat) : Prop :=
  (p.tables.exec = Jvm.exec ∧ meth.locks = false ∧ EW Z a0 EL ∧ s.heap = h0 ∧ Old Z n0 h0 ∧ ∀ x ∈ ws0, n0 ≤ x) ∧
  ∃ vm0 k0, (wd = false → vm0 = s.vm) ∧ Stand p l e R (s.setVm vm0) m args below meth c T locs cells slots ∧ T.heap = h ∧ s.Since vm0 k0 ∧ k0 ≤ h.size ∧ Z.Warmed39 vm0 ∧ vm0.findClass own = some m.cls ∧ Old Z n0 h ∧ Fr n0 locs ∧ Keep h0 h ws0 ∧
    CHr Z EL s.vm s.heap vm0 h ∧ ∀ x ∈ F, Safe Z EL vm0 h x ∧ x < h.size
variable {wd : Bool} {EL : List (String × Nat)} {a0 : Array Value} {p : Program} {l : Launch} {e : Env} {R : Room} {s : State} {m : MethodId} {args : Array Value} {below : List Frame} {meth : Method} {c : Code} {Z : State} {own : String} {n0 : Nat} {h0 : Heap} {ws0 : List Addr}
  {T T' : State} {h h' : Heap} {F F' : List Addr} {locs locs' : List Loc} {cells slots cells' slots' : Nat} {P : Outcome → State → Prop} {pc pc' : Nat} {Ls : Array Slot} {st rest : List Value} {f f' : JFrame} {vm0 : Vm} {k0 : Nat} {ws : List Addr}
theorem Go.by (k : ∀ t, Steps p.tables e below (T'.setTop f') t → Steps p.tables e below (T.setTop f) t) (g : Go p e below P T' f') : Go p e below P T f := by
  obtain ⟨s₂, o, h1, h2⟩ := g
  exact ⟨s₂, o, k _ h1, h2⟩
theorem Go.cast (q : f = f') (g : Go p e below P T f') : Go p e below P T f := q ▸ g
theorem own_ole (O : Old Z n0 h) : n0 ≤ h.size := by rw [← O.1]; exact O.2.1
/-- what may be written -/
def Wok (n0 : Nat) (h0 : Heap) (ws0 : List Addr) (a : Addr) : Prop := a ∈ ws0 ∨ h0.size ≤ a
theorem Wok.le {a : Addr} (w : Wok n0 h0 ws0 a) (h1 : n0 ≤ h0.size) (h2 : ∀ x ∈ ws0, n0 ≤ x) : n0 ≤ a := by
  rcases w with w | w
  · exact h2 _ w
  · exact Nat.le_trans h1 w
theorem Sd.hx (S : Sd wd EL a0 p l e R s m args below meth c Z own n0 h0 ws0 T h F locs cells slots) : p.tables.exec = Jvm.exec := S.1.1
theorem Sd.at (S : Sd wd EL a0 p l e R s m args below meth c Z own n0 h0 ws0 T h F locs cells slots) : At T m c below := by
  obtain ⟨-, vm0, k0, -, X, -⟩ := S
  exact X.here
theorem Sd.old (S : Sd wd EL a0 p l e R s m args below meth c Z own n0 h0 ws0 T h F locs cells slots) : Old Z n0 h := by
  obtain ⟨-, vm0, k0, -, -, -, -, -, -, -, O, -⟩ := S
  exact O
theorem Sd.kept (S : Sd wd EL a0 p l e R s m args below meth c Z own n0 h0 ws0 T h F locs cells slots) : Keep h0 h ws0 := by
  obtain ⟨-, vm0, k0, -, -, -, -, -, -, -, -, -, K, -⟩ := S
  exact K
theorem Sd.sz (S : Sd wd EL a0 p l e R s m args below meth c Z own n0 h0 ws0 T h F locs cells slots) : n0 ≤ h.size := Nat.le_trans (own_ole S.1.2.2.2.2.1) S.kept.1
theorem Sd.ge (S : Sd wd EL a0 p l e R s m args below meth c Z own n0 h0 ws0 T h F locs cells slots) {a : Addr} (w : Wok n0 h0 ws0 a) : n0 ≤ a := w.le (own_ole S.1.2.2.2.2.1) S.1.2.2.2.2.2
/-- the walk goes on over the same tables: the heap moved by a Keep -/
theorem Sd.close (A : p.tables.exec = Jvm.exec ∧ meth.locks = false ∧ EW Z a0 EL ∧ s.heap = h0 ∧ Old Z n0 h0 ∧ ∀ x ∈ ws0, n0 ≤ x) (hv : wd = false → vm0 = s.vm) (X : Stand p l e R (s.setVm vm0) m args below meth c T' locs' cells' slots') (eT : T'.heap = h') (hS : s.Since vm0 k0) (hk : k0 ≤ h.size) (hZ : Z.Warmed39 vm0) (hown : vm0.findClass own = some m.cls) (O : Old Z n0 h) (N : Fr n0 locs') (K0 : Keep h0 h ws0)
    (C : CHr Z EL s.vm s.heap vm0 h) (hF : ∀ x ∈ F, Safe Z EL vm0 h x ∧ x < h.size) (K : Keep h h' ws) (hws : ∀ x ∈ ws, Wok n0 h0 ws0 x ∧ Safe Z EL vm0 h x) (hF' : ∀ x ∈ F', x ∈ F ∨ (h.size ≤ x ∧ x < h'.size)) : Sd wd EL a0 p l e R s m args below meth c Z own n0 h0 ws0 T' h' F' locs' cells' slots' := by
  have hsf : ∀ x ∈ ws, Safe Z EL vm0 h x := fun x hx => (hws x hx).2
  refine ⟨A, vm0, k0, hv, X, eT, hS, Nat.le_trans hk K.1, hZ, hown, O.keep K fun x hx => (hws x hx).1.le (own_ole A.2.2.2.2.1) A.2.2.2.2.2, N, K0.trans K fun x hx => (hws x hx).1, C.trans (CHr.keep K hsf C.1), fun x hx => ?_⟩
  rcases hF' x hx with q | ⟨q1, q2⟩
  · exact ⟨Safe.keep K hsf C.1 (hF x q).1, Nat.lt_of_lt_of_le (hF x q).2 K.1⟩
  · exact ⟨Safe.keep K hsf C.1 (Safe.new q1), q2⟩
theorem Ext.kp (E : Ext h h') : Keep h h' [] := (Keep.refl h []).ext E
theorem noWs : ∀ x ∈ ([] : List Addr), Wok n0 h0 ws0 x ∧ Safe Z EL vm0 h x := fun _ q => nomatch q
/-! ### plain steps -/
theorem Sd.aloadN (S : Sd wd EL a0 p l e R s m args below meth c Z own n0 h0 ws0 T h F locs cells slots) {k : Fin 4} {v : Value} (pc' : Nat) (hd : decode c.code pc = .ok (.aload_n k, 1)) (hl : Ls[k.val]? = some (.val v)) (hv : v.isRef = true) (g : Go p e below P T (mkF m pc' Ls (v :: st))) (hp : pc + 1 = pc' := by rfl) : Go p e below P T (mkF m pc Ls st) := by
  subst hp; exact Go.by (fun _ q => XS.aloadN S.at S.hx rfl hd hl hv q) g
theorem Sd.aload (S : Sd wd EL a0 p l e R s m args below meth c Z own n0 h0 ws0 T h F locs cells slots) {k : Nat} {v : Value} (pc' : Nat) (hd : decode c.code pc = .ok (.aload k, 2)) (hl : Ls[k]? = some (.val v)) (hv : v.isRef = true) (g : Go p e below P T (mkF m pc' Ls (v :: st))) (hp : pc + 2 = pc' := by rfl) : Go p e below P T (mkF m pc Ls st) := by
  subst hp; exact Go.by (fun _ q => XS.aload S.at S.hx rfl hd hl hv q) g
theorem Sd.iloadN (S : Sd wd EL a0 p l e R s m args below meth c Z own n0 h0 ws0 T h F locs cells slots) {k : Fin 4} {v : Int32} (pc' : Nat) (hd : decode c.code pc = .ok (.iload_n k, 1)) (hl : Ls[k.val]? = some (.val (.int v))) (g : Go p e below P T (mkF m pc' Ls (.int v :: st))) (hp : pc + 1 = pc' := by rfl) : Go p e below P T (mkF m pc Ls st) := by
  subst hp; exact Go.by (fun _ q => XS.iloadN S.at S.hx rfl hd hl q) g
theorem Sd.iload (S : Sd wd EL a0 p l e R s m args below meth c Z own n0 h0 ws0 T h F locs cells slots) {k : Nat} {v : Int32} (pc' : Nat) (hd : decode c.code pc = .ok (.iload k, 2)) (hl : Ls[k]? = some (.val (.int v))) (g : Go p e below P T (mkF m pc' Ls (.int v :: st))) (hp : pc + 2 = pc' := by rfl) : Go p e below P T (mkF m pc Ls st) := by
  subst hp; exact Go.by (fun _ q => XS.iload S.at S.hx rfl hd hl q) g
theorem Sd.lloadN (S : Sd wd EL a0 p l e R s m args below meth c Z own n0 h0 ws0 T h F locs cells slots) {k : Fin 4} {v : Int64} (pc' : Nat) (hd : decode c.code pc = .ok (.lload_n k, 1)) (hl : Ls[k.val]? = some (.val (.long v))) (g : Go p e below P T (mkF m pc' Ls (.long v :: st))) (hp : pc + 1 = pc' := by rfl) : Go p e below P T (mkF m pc Ls st) := by
  subst hp; exact Go.by (fun _ q => XS.lloadN S.at S.hx rfl hd hl q) g
theorem Sd.lload (S : Sd wd EL a0 p l e R s m args below meth c Z own n0 h0 ws0 T h F locs cells slots) {k : Nat} {v : Int64} (pc' : Nat) (hd : decode c.code pc = .ok (.lload k, 2)) (hl : Ls[k]? = some (.val (.long v))) (g : Go p e below P T (mkF m pc' Ls (.long v :: st))) (hp : pc + 2 = pc' := by rfl) : Go p e below P T (mkF m pc Ls st) := by
  subst hp; exact Go.by (fun _ q => XS.lload S.at S.hx rfl hd hl q) g
theorem Sd.iconst (S : Sd wd EL a0 p l e R s m args below meth c Z own n0 h0 ws0 T h F locs cells slots) {i : Int} (pc' : Nat) (z : Int32) (hd : decode c.code pc = .ok (.iconst i, 1)) (g : Go p e below P T (mkF m pc' Ls (.int z :: st))) (hp : pc + 1 = pc' := by rfl) (hz : Int32.ofInt i = z := by rfl) : Go p e below P T (mkF m pc Ls st) := by
  subst hp hz; exact Go.by (fun _ q => XS.iconst S.at S.hx rfl hd q) g
theorem Sd.bipush (S : Sd wd EL a0 p l e R s m args below meth c Z own n0 h0 ws0 T h F locs cells slots) {i : Int} (pc' : Nat) (z : Int32) (hd : decode c.code pc = .ok (.bipush i, 2)) (g : Go p e below P T (mkF m pc' Ls (.int z :: st))) (hp : pc + 2 = pc' := by rfl) (hz : (Int8.ofInt i).toInt32 = z := by rfl) : Go p e below P T (mkF m pc Ls st) := by
  subst hp hz; exact Go.by (fun _ q => XS.bipush S.at S.hx rfl hd q) g
theorem Sd.sipush (S : Sd wd EL a0 p l e R s m args below meth c Z own n0 h0 ws0 T h F locs cells slots) {i : Int} (pc' : Nat) (z : Int32) (hd : decode c.code pc = .ok (.sipush i, 3)) (g : Go p e below P T (mkF m pc' Ls (.int z :: st))) (hp : pc + 3 = pc' := by rfl) (hz : (Int16.ofInt i).toInt32 = z := by rfl) : Go p e below P T (mkF m pc Ls st) := by
  subst hp hz; exact Go.by (fun _ q => XS.sipush S.at S.hx rfl hd q) g
theorem Sd.lconst (S : Sd wd EL a0 p l e R s m args below meth c Z own n0 h0 ws0 T h F locs cells slots) {i : Fin 2} (pc' : Nat) (z : Int64) (hd : decode c.code pc = .ok (.lconst i, 1)) (g : Go p e below P T (mkF m pc' Ls (.long z :: st))) (hp : pc + 1 = pc' := by rfl) (hz : Int64.ofNat i = z := by rfl) : Go p e below P T (mkF m pc Ls st) := by
  subst hp hz; exact Go.by (fun _ q => XS.lconst S.at S.hx rfl hd q) g
theorem Sd.anull (S : Sd wd EL a0 p l e R s m args below meth c Z own n0 h0 ws0 T h F locs cells slots) (pc' : Nat) (hd : decode c.code pc = .ok (.aconst_null, 1)) (g : Go p e below P T (mkF m pc' Ls (.null :: st))) (hp : pc + 1 = pc' := by rfl) : Go p e below P T (mkF m pc Ls st) := by
  subst hp; exact Go.by (fun _ q => XS.aconstNull S.at S.hx rfl hd q) g
theorem Sd.istoreN (S : Sd wd EL a0 p l e R s m args below meth c Z own n0 h0 ws0 T h F locs cells slots) {k : Fin 4} {x : Int32} (pc' : Nat) (l' : Array Slot) (hd : decode c.code pc = .ok (.istore_n k, 1)) (hl : storeLocals Ls k.val (.int x) = some l') (g : Go p e below P T (mkF m pc' l' st)) (hp : pc + 1 = pc' := by rfl) : Go p e below P T (mkF m pc Ls (.int x :: st)) := by
  subst hp; exact Go.by (fun _ q => XS.istoreN S.at S.hx rfl hd rfl hl q) g
theorem Sd.istore (S : Sd wd EL a0 p l e R s m args below meth c Z own n0 h0 ws0 T h F locs cells slots) {k : Nat} {x : Int32} (pc' : Nat) (l' : Array Slot) (hd : decode c.code pc = .ok (.istore k, 2)) (hl : storeLocals Ls k (.int x) = some l') (g : Go p e below P T (mkF m pc' l' st)) (hp : pc + 2 = pc' := by rfl) : Go p e below P T (mkF m pc Ls (.int x :: st)) := by
  subst hp; exact Go.by (fun _ q => XS.istore S.at S.hx rfl hd rfl hl q) g
theorem Sd.lstoreN (S : Sd wd EL a0 p l e R s m args below meth c Z own n0 h0 ws0 T h F locs cells slots) {k : Fin 4} {x : Int64} (pc' : Nat) (l' : Array Slot) (hd : decode c.code pc = .ok (.lstore_n k, 1)) (hl : storeLocals Ls k.val (.long x) = some l') (g : Go p e below P T (mkF m pc' l' st)) (hp : pc + 1 = pc' := by rfl) : Go p e below P T (mkF m pc Ls (.long x :: st)) := by
  subst hp; exact Go.by (fun _ q => XS.lstoreN S.at S.hx rfl hd rfl hl q) g
theorem Sd.lstore (S : Sd wd EL a0 p l e R s m args below meth c Z own n0 h0 ws0 T h F locs cells slots) {k : Nat} {x : Int64} (pc' : Nat) (l' : Array Slot) (hd : decode c.code pc = .ok (.lstore k, 2)) (hl : storeLocals Ls k (.long x) = some l') (g : Go p e below P T (mkF m pc' l' st)) (hp : pc + 2 = pc' := by rfl) : Go p e below P T (mkF m pc Ls (.long x :: st)) := by
  subst hp; exact Go.by (fun _ q => XS.lstore S.at S.hx rfl hd rfl hl q) g
theorem Sd.astoreN (S : Sd wd EL a0 p l e R s m args below meth c Z own n0 h0 ws0 T h F locs cells slots) {k : Fin 4} {x : Value} (pc' : Nat) (l' : Array Slot) (hd : decode c.code pc = .ok (.astore_n k, 1)) (hv : x.isRef = true) (hl : storeLocals Ls k.val x = some l') (g : Go p e below P T (mkF m pc' l' st)) (hp : pc + 1 = pc' := by rfl) : Go p e below P T (mkF m pc Ls (x :: st)) := by
  subst hp; exact Go.by (fun _ q => XS.astoreN S.at S.hx rfl hd rfl hv hl q) g
theorem Sd.astore (S : Sd wd EL a0 p l e R s m args below meth c Z own n0 h0 ws0 T h F locs cells slots) {k : Nat} {x : Value} (pc' : Nat) (l' : Array Slot) (hd : decode c.code pc = .ok (.astore k, 2)) (hv : x.isRef = true) (hl : storeLocals Ls k x = some l') (g : Go p e below P T (mkF m pc' l' st)) (hp : pc + 2 = pc' := by rfl) : Go p e below P T (mkF m pc Ls (x :: st)) := by
  subst hp; exact Go.by (fun _ q => XS.astore S.at S.hx rfl hd rfl hv hl q) g
theorem Sd.iinc (S : Sd wd EL a0 p l e R s m args below meth c Z own n0 h0 ws0 T h F locs cells slots) {k : Nat} {cst : Int} {x : Int32} (pc' : Nat) (l' : Array Slot) (hd : decode c.code pc = .ok (.iinc k cst, 3)) (hl : Ls[k]? = some (.val (.int x))) (hl' : storeLocals Ls k (.int (x + Int32.ofInt cst)) = some l') (g : Go p e below P T (mkF m pc' l' st)) (hp : pc + 3 = pc' := by rfl) : Go p e below P T (mkF m pc Ls st) := by
  subst hp; exact Go.by (fun _ q => XS.iinc S.at S.hx rfl hd hl hl' q) g
theorem Sd.goto (S : Sd wd EL a0 p l e R s m args below meth c Z own n0 h0 ws0 T h F locs cells slots) {o : Int} (pc' : Nat) (hd : decode c.code pc = .ok (.goto o, 3)) (g : Go p e below P T (mkF m pc' Ls st)) (ho : 0 ≤ (pc : Int) + o := by decide) (hp : ((pc : Int) + o).toNat = pc' := by decide) : Go p e below P T (mkF m pc Ls st) :=
  Go.by (fun _ q => XS.goto S.at S.hx rfl rfl hd ho hp q) g
theorem Sd.ifY (S : Sd wd EL a0 p l e R s m args below meth c Z own n0 h0 ws0 T h F locs cells slots) {cd : ClassFile.Cond} {x : Int32} {o : Int} (pc' : Nat) (hd : decode c.code pc = .ok (.ifCond cd o, 3)) (hc : ifCond.holds cd x = true) (g : Go p e below P T (mkF m pc' Ls st)) (ho : 0 ≤ (pc : Int) + o := by decide) (hp : ((pc : Int) + o).toNat = pc' := by decide) : Go p e below P T (mkF m pc Ls (.int x :: st)) :=
  Go.by (fun _ q => XS.ifYes S.at S.hx rfl rfl hd rfl hc ho hp q) g
theorem Sd.ifN (S : Sd wd EL a0 p l e R s m args below meth c Z own n0 h0 ws0 T h F locs cells slots) {cd : ClassFile.Cond} {x : Int32} {o : Int} (pc' : Nat) (hd : decode c.code pc = .ok (.ifCond cd o, 3)) (hc : ifCond.holds cd x = false) (g : Go p e below P T (mkF m pc' Ls st)) (hp : pc + 3 = pc' := by rfl) : Go p e below P T (mkF m pc Ls (.int x :: st)) := by
  subst hp; exact Go.by (fun _ q => XS.ifNo S.at S.hx rfl hd rfl hc q) g
theorem Sd.icmpY (S : Sd wd EL a0 p l e R s m args below meth c Z own n0 h0 ws0 T h F locs cells slots) {cd : ClassFile.Cond} {x y : Int32} {o : Int} (pc' : Nat) (hd : decode c.code pc = .ok (.if_icmp cd o, 3)) (hc : if_icmp.holds cd x y = true) (g : Go p e below P T (mkF m pc' Ls st)) (ho : 0 ≤ (pc : Int) + o := by decide) (hp : ((pc : Int) + o).toNat = pc' := by decide) : Go p e below P T (mkF m pc Ls (.int y :: .int x :: st)) :=
  Go.by (fun _ q => XS.icmpYes S.at S.hx rfl rfl hd rfl hc ho hp q) g
theorem Sd.icmpN (S : Sd wd EL a0 p l e R s m args below meth c Z own n0 h0 ws0 T h F locs cells slots) {cd : ClassFile.Cond} {x y : Int32} {o : Int} (pc' : Nat) (hd : decode c.code pc = .ok (.if_icmp cd o, 3)) (hc : if_icmp.holds cd x y = false) (g : Go p e below P T (mkF m pc' Ls st)) (hp : pc + 3 = pc' := by rfl) : Go p e below P T (mkF m pc Ls (.int y :: .int x :: st)) := by
  subst hp; exact Go.by (fun _ q => XS.icmpNo S.at S.hx rfl hd rfl hc q) g
theorem Sd.nullY (S : Sd wd EL a0 p l e R s m args below meth c Z own n0 h0 ws0 T h F locs cells slots) {o : Int} (pc' : Nat) (hd : decode c.code pc = .ok (.ifnull o, 3)) (g : Go p e below P T (mkF m pc' Ls st)) (ho : 0 ≤ (pc : Int) + o := by decide) (hp : ((pc : Int) + o).toNat = pc' := by decide) : Go p e below P T (mkF m pc Ls (.null :: st)) :=
  Go.by (fun _ q => XS.ifnullYes S.at S.hx rfl rfl hd rfl ho hp q) g
theorem Sd.nullN (S : Sd wd EL a0 p l e R s m args below meth c Z own n0 h0 ws0 T h F locs cells slots) {o : Int} {b : Addr} (pc' : Nat) (hd : decode c.code pc = .ok (.ifnull o, 3)) (g : Go p e below P T (mkF m pc' Ls st)) (hp : pc + 3 = pc' := by rfl) : Go p e below P T (mkF m pc Ls (.ref b :: st)) := by
  subst hp; exact Go.by (fun _ q => XS.ifnullNo S.at S.hx rfl hd rfl q) g
theorem Sd.nonnullY (S : Sd wd EL a0 p l e R s m args below meth c Z own n0 h0 ws0 T h F locs cells slots) {o : Int} {b : Addr} (pc' : Nat) (hd : decode c.code pc = .ok (.ifnonnull o, 3)) (g : Go p e below P T (mkF m pc' Ls st)) (ho : 0 ≤ (pc : Int) + o := by decide) (hp : ((pc : Int) + o).toNat = pc' := by decide) : Go p e below P T (mkF m pc Ls (.ref b :: st)) :=
  Go.by (fun _ q => XT.ifnonnullYes S.at S.hx rfl rfl hd rfl ho hp q) g
theorem Sd.nonnullN (S : Sd wd EL a0 p l e R s m args below meth c Z own n0 h0 ws0 T h F locs cells slots) {o : Int} (pc' : Nat) (hd : decode c.code pc = .ok (.ifnonnull o, 3)) (g : Go p e below P T (mkF m pc' Ls st)) (hp : pc + 3 = pc' := by rfl) : Go p e below P T (mkF m pc Ls (.null :: st)) := by
  subst hp; exact Go.by (fun _ q => XT.ifnonnullNo S.at S.hx rfl hd rfl q) g
theorem Sd.acmpY (S : Sd wd EL a0 p l e R s m args below meth c Z own n0 h0 ws0 T h F locs cells slots) {cd : ClassFile.ACond} {x y : Value} {o : Int} (pc' : Nat) (hd : decode c.code pc = .ok (.if_acmp cd o, 3)) (hx : x.isRef = true) (hy : y.isRef = true) (hc : XT.acmp cd x y = true) (g : Go p e below P T (mkF m pc' Ls st)) (ho : 0 ≤ (pc : Int) + o := by decide) (hp : ((pc : Int) + o).toNat = pc' := by decide) : Go p e below P T (mkF m pc Ls (y :: x :: st)) :=
  Go.by (fun _ q => XT.acmpYes S.at S.hx rfl rfl hd rfl hx hy hc ho hp q) g
theorem Sd.acmpN (S : Sd wd EL a0 p l e R s m args below meth c Z own n0 h0 ws0 T h F locs cells slots) {cd : ClassFile.ACond} {x y : Value} {o : Int} (pc' : Nat) (hd : decode c.code pc = .ok (.if_acmp cd o, 3)) (hx : x.isRef = true) (hy : y.isRef = true) (hc : XT.acmp cd x y = false) (g : Go p e below P T (mkF m pc' Ls st)) (hp : pc + 3 = pc' := by rfl) : Go p e below P T (mkF m pc Ls (y :: x :: st)) := by
  subst hp; exact Go.by (fun _ q => XT.acmpNo S.at S.hx rfl hd rfl hx hy hc q) g
theorem Sd.dup (S : Sd wd EL a0 p l e R s m args below meth c Z own n0 h0 ws0 T h F locs cells slots) {x : Value} (pc' : Nat) (hd : decode c.code pc = .ok (.dup, 1)) (hc : x.category = 1) (g : Go p e below P T (mkF m pc' Ls (x :: x :: st))) (hp : pc + 1 = pc' := by rfl) : Go p e below P T (mkF m pc Ls (x :: st)) := by
  subst hp; exact Go.by (fun _ q => XS.dup S.at S.hx rfl hd rfl hc q) g
theorem Sd.dupX1 (S : Sd wd EL a0 p l e R s m args below meth c Z own n0 h0 ws0 T h F locs cells slots) {x y : Value} (pc' : Nat) (hd : decode c.code pc = .ok (.dup_x1, 1)) (hc : x.category = 1) (hc' : y.category = 1) (g : Go p e below P T (mkF m pc' Ls (x :: y :: x :: st))) (hp : pc + 1 = pc' := by rfl) : Go p e below P T (mkF m pc Ls (x :: y :: st)) := by
  subst hp; exact Go.by (fun _ q => XT.dupX1 S.at S.hx rfl hd rfl hc hc' q) g
theorem Sd.dup2 (S : Sd wd EL a0 p l e R s m args below meth c Z own n0 h0 ws0 T h F locs cells slots) {x y : Value} (pc' : Nat) (hd : decode c.code pc = .ok (.dup2, 1)) (hc : x.category = 1) (hc' : y.category = 1) (g : Go p e below P T (mkF m pc' Ls (x :: y :: x :: y :: st))) (hp : pc + 1 = pc' := by rfl) : Go p e below P T (mkF m pc Ls (x :: y :: st)) := by
  subst hp; exact Go.by (fun _ q => XT.dup2 S.at S.hx rfl hd rfl hc hc' q) g
theorem Sd.pop (S : Sd wd EL a0 p l e R s m args below meth c Z own n0 h0 ws0 T h F locs cells slots) {x : Value} (pc' : Nat) (hd : decode c.code pc = .ok (.pop, 1)) (hc : x.category = 1) (g : Go p e below P T (mkF m pc' Ls st)) (hp : pc + 1 = pc' := by rfl) : Go p e below P T (mkF m pc Ls (x :: st)) := by
  subst hp; exact Go.by (fun _ q => XT.pop S.at S.hx rfl hd rfl hc q) g
theorem Sd.iadd (S : Sd wd EL a0 p l e R s m args below meth c Z own n0 h0 ws0 T h F locs cells slots) {x : Int32} {y : Int32} (pc' : Nat) (hd : decode c.code pc = .ok (.iadd, 1)) (g : Go p e below P T (mkF m pc' Ls (.int (x + y) :: st))) (hp : pc + 1 = pc' := by rfl) : Go p e below P T (mkF m pc Ls (.int y :: .int x :: st)) := by
  subst hp; exact Go.by (fun _ q => XS.iadd S.at S.hx rfl hd rfl q) g
theorem Sd.isub (S : Sd wd EL a0 p l e R s m args below meth c Z own n0 h0 ws0 T h F locs cells slots) {x : Int32} {y : Int32} (pc' : Nat) (hd : decode c.code pc = .ok (.isub, 1)) (g : Go p e below P T (mkF m pc' Ls (.int (x - y) :: st))) (hp : pc + 1 = pc' := by rfl) : Go p e below P T (mkF m pc Ls (.int y :: .int x :: st)) := by
  subst hp; exact Go.by (fun _ q => XS.isub S.at S.hx rfl hd rfl q) g
theorem Sd.iand (S : Sd wd EL a0 p l e R s m args below meth c Z own n0 h0 ws0 T h F locs cells slots) {x : Int32} {y : Int32} (pc' : Nat) (hd : decode c.code pc = .ok (.iand, 1)) (g : Go p e below P T (mkF m pc' Ls (.int (x &&& y) :: st))) (hp : pc + 1 = pc' := by rfl) : Go p e below P T (mkF m pc Ls (.int y :: .int x :: st)) := by
  subst hp; exact Go.by (fun _ q => XS.iand S.at S.hx rfl hd rfl q) g
theorem Sd.imul (S : Sd wd EL a0 p l e R s m args below meth c Z own n0 h0 ws0 T h F locs cells slots) {x : Int32} {y : Int32} (pc' : Nat) (hd : decode c.code pc = .ok (.imul, 1)) (g : Go p e below P T (mkF m pc' Ls (.int (x * y) :: st))) (hp : pc + 1 = pc' := by rfl) : Go p e below P T (mkF m pc Ls (.int y :: .int x :: st)) := by
  subst hp; exact Go.by (fun _ q => XS.imul S.at S.hx rfl hd rfl q) g
theorem Sd.ior (S : Sd wd EL a0 p l e R s m args below meth c Z own n0 h0 ws0 T h F locs cells slots) {x : Int32} {y : Int32} (pc' : Nat) (hd : decode c.code pc = .ok (.ior, 1)) (g : Go p e below P T (mkF m pc' Ls (.int (x ||| y) :: st))) (hp : pc + 1 = pc' := by rfl) : Go p e below P T (mkF m pc Ls (.int y :: .int x :: st)) := by
  subst hp; exact Go.by (fun _ q => XS.ior S.at S.hx rfl hd rfl q) g
theorem Sd.ixor (S : Sd wd EL a0 p l e R s m args below meth c Z own n0 h0 ws0 T h F locs cells slots) {x : Int32} {y : Int32} (pc' : Nat) (hd : decode c.code pc = .ok (.ixor, 1)) (g : Go p e below P T (mkF m pc' Ls (.int (x ^^^ y) :: st))) (hp : pc + 1 = pc' := by rfl) : Go p e below P T (mkF m pc Ls (.int y :: .int x :: st)) := by
  subst hp; exact Go.by (fun _ q => XS.ixor S.at S.hx rfl hd rfl q) g
theorem Sd.ishl (S : Sd wd EL a0 p l e R s m args below meth c Z own n0 h0 ws0 T h F locs cells slots) {x : Int32} {y : Int32} (pc' : Nat) (hd : decode c.code pc = .ok (.ishl, 1)) (g : Go p e below P T (mkF m pc' Ls (.int (x <<< (y &&& 31)) :: st))) (hp : pc + 1 = pc' := by rfl) : Go p e below P T (mkF m pc Ls (.int y :: .int x :: st)) := by
  subst hp; exact Go.by (fun _ q => XS.ishl S.at S.hx rfl hd rfl q) g
theorem Sd.ishr (S : Sd wd EL a0 p l e R s m args below meth c Z own n0 h0 ws0 T h F locs cells slots) {x : Int32} {y : Int32} (pc' : Nat) (hd : decode c.code pc = .ok (.ishr, 1)) (g : Go p e below P T (mkF m pc' Ls (.int (x >>> (y &&& 31)) :: st))) (hp : pc + 1 = pc' := by rfl) : Go p e below P T (mkF m pc Ls (.int y :: .int x :: st)) := by
  subst hp; exact Go.by (fun _ q => XS.ishr S.at S.hx rfl hd rfl q) g
theorem Sd.iushr (S : Sd wd EL a0 p l e R s m args below meth c Z own n0 h0 ws0 T h F locs cells slots) {x : Int32} {y : Int32} (pc' : Nat) (hd : decode c.code pc = .ok (.iushr, 1)) (g : Go p e below P T (mkF m pc' Ls (.int ((x.toUInt32 >>> (y &&& 31).toUInt32).toInt32) :: st))) (hp : pc + 1 = pc' := by rfl) : Go p e below P T (mkF m pc Ls (.int y :: .int x :: st)) := by
  subst hp; exact Go.by (fun _ q => XS.iushr S.at S.hx rfl hd rfl q) g
theorem Sd.idiv (S : Sd wd EL a0 p l e R s m args below meth c Z own n0 h0 ws0 T h F locs cells slots) {x : Int32} {y : Int32} (pc' : Nat) (hd : decode c.code pc = .ok (.idiv, 1)) (hy : y ≠ 0) (g : Go p e below P T (mkF m pc' Ls (.int (x / y) :: st))) (hp : pc + 1 = pc' := by rfl) : Go p e below P T (mkF m pc Ls (.int y :: .int x :: st)) := by
  subst hp; exact Go.by (fun _ q => XS.idiv S.at S.hx rfl hd rfl hy q) g
theorem Sd.ladd (S : Sd wd EL a0 p l e R s m args below meth c Z own n0 h0 ws0 T h F locs cells slots) {x : Int64} {y : Int64} (pc' : Nat) (hd : decode c.code pc = .ok (.ladd, 1)) (g : Go p e below P T (mkF m pc' Ls (.long (x + y) :: st))) (hp : pc + 1 = pc' := by rfl) : Go p e below P T (mkF m pc Ls (.long y :: .long x :: st)) := by
  subst hp; exact Go.by (fun _ q => XS.ladd S.at S.hx rfl hd rfl q) g
theorem Sd.lsub (S : Sd wd EL a0 p l e R s m args below meth c Z own n0 h0 ws0 T h F locs cells slots) {x : Int64} {y : Int64} (pc' : Nat) (hd : decode c.code pc = .ok (.lsub, 1)) (g : Go p e below P T (mkF m pc' Ls (.long (x - y) :: st))) (hp : pc + 1 = pc' := by rfl) : Go p e below P T (mkF m pc Ls (.long y :: .long x :: st)) := by
  subst hp; exact Go.by (fun _ q => XS.lsub S.at S.hx rfl hd rfl q) g
theorem Sd.lmul (S : Sd wd EL a0 p l e R s m args below meth c Z own n0 h0 ws0 T h F locs cells slots) {x : Int64} {y : Int64} (pc' : Nat) (hd : decode c.code pc = .ok (.lmul, 1)) (g : Go p e below P T (mkF m pc' Ls (.long (x * y) :: st))) (hp : pc + 1 = pc' := by rfl) : Go p e below P T (mkF m pc Ls (.long y :: .long x :: st)) := by
  subst hp; exact Go.by (fun _ q => XS.lmul S.at S.hx rfl hd rfl q) g
theorem Sd.land (S : Sd wd EL a0 p l e R s m args below meth c Z own n0 h0 ws0 T h F locs cells slots) {x : Int64} {y : Int64} (pc' : Nat) (hd : decode c.code pc = .ok (.land, 1)) (g : Go p e below P T (mkF m pc' Ls (.long (x &&& y) :: st))) (hp : pc + 1 = pc' := by rfl) : Go p e below P T (mkF m pc Ls (.long y :: .long x :: st)) := by
  subst hp; exact Go.by (fun _ q => XS.land S.at S.hx rfl hd rfl q) g
theorem Sd.lor (S : Sd wd EL a0 p l e R s m args below meth c Z own n0 h0 ws0 T h F locs cells slots) {x : Int64} {y : Int64} (pc' : Nat) (hd : decode c.code pc = .ok (.lor, 1)) (g : Go p e below P T (mkF m pc' Ls (.long (x ||| y) :: st))) (hp : pc + 1 = pc' := by rfl) : Go p e below P T (mkF m pc Ls (.long y :: .long x :: st)) := by
  subst hp; exact Go.by (fun _ q => XS.lor S.at S.hx rfl hd rfl q) g
theorem Sd.lxor (S : Sd wd EL a0 p l e R s m args below meth c Z own n0 h0 ws0 T h F locs cells slots) {x : Int64} {y : Int64} (pc' : Nat) (hd : decode c.code pc = .ok (.lxor, 1)) (g : Go p e below P T (mkF m pc' Ls (.long (x ^^^ y) :: st))) (hp : pc + 1 = pc' := by rfl) : Go p e below P T (mkF m pc Ls (.long y :: .long x :: st)) := by
  subst hp; exact Go.by (fun _ q => XS.lxor S.at S.hx rfl hd rfl q) g
theorem Sd.lshl (S : Sd wd EL a0 p l e R s m args below meth c Z own n0 h0 ws0 T h F locs cells slots) {x : Int64} {y : Int32} (pc' : Nat) (hd : decode c.code pc = .ok (.lshl, 1)) (g : Go p e below P T (mkF m pc' Ls (.long (x <<< (y &&& 0x3f).toInt64) :: st))) (hp : pc + 1 = pc' := by rfl) : Go p e below P T (mkF m pc Ls (.int y :: .long x :: st)) := by
  subst hp; exact Go.by (fun _ q => XS.lshl S.at S.hx rfl hd rfl q) g
theorem Sd.lshr (S : Sd wd EL a0 p l e R s m args below meth c Z own n0 h0 ws0 T h F locs cells slots) {x : Int64} {y : Int32} (pc' : Nat) (hd : decode c.code pc = .ok (.lshr, 1)) (g : Go p e below P T (mkF m pc' Ls (.long (x >>> (y &&& 0x3f).toInt64) :: st))) (hp : pc + 1 = pc' := by rfl) : Go p e below P T (mkF m pc Ls (.int y :: .long x :: st)) := by
  subst hp; exact Go.by (fun _ q => XS.lshr S.at S.hx rfl hd rfl q) g
theorem Sd.lushr (S : Sd wd EL a0 p l e R s m args below meth c Z own n0 h0 ws0 T h F locs cells slots) {x : Int64} {y : Int32} (pc' : Nat) (hd : decode c.code pc = .ok (.lushr, 1)) (g : Go p e below P T (mkF m pc' Ls (.long ((x.toUInt64 >>> (y &&& 0x3f).toInt64.toUInt64).toInt64) :: st))) (hp : pc + 1 = pc' := by rfl) : Go p e below P T (mkF m pc Ls (.int y :: .long x :: st)) := by
  subst hp; exact Go.by (fun _ q => XS.lushr S.at S.hx rfl hd rfl q) g
theorem Sd.ldiv (S : Sd wd EL a0 p l e R s m args below meth c Z own n0 h0 ws0 T h F locs cells slots) {x : Int64} {y : Int64} (pc' : Nat) (hd : decode c.code pc = .ok (.ldiv, 1)) (hy : y ≠ 0) (g : Go p e below P T (mkF m pc' Ls (.long (x / y) :: st))) (hp : pc + 1 = pc' := by rfl) : Go p e below P T (mkF m pc Ls (.long y :: .long x :: st)) := by
  subst hp; exact Go.by (fun _ q => XS.ldiv S.at S.hx rfl hd rfl hy q) g
theorem Sd.lrem (S : Sd wd EL a0 p l e R s m args below meth c Z own n0 h0 ws0 T h F locs cells slots) {x : Int64} {y : Int64} (pc' : Nat) (hd : decode c.code pc = .ok (.lrem, 1)) (hy : y ≠ 0) (g : Go p e below P T (mkF m pc' Ls (.long (x - (x / y) * y) :: st))) (hp : pc + 1 = pc' := by rfl) : Go p e below P T (mkF m pc Ls (.long y :: .long x :: st)) := by
  subst hp; exact Go.by (fun _ q => XS.lrem S.at S.hx rfl hd rfl hy q) g
theorem Sd.lcmp (S : Sd wd EL a0 p l e R s m args below meth c Z own n0 h0 ws0 T h F locs cells slots) {x : Int64} {y : Int64} (pc' : Nat) (hd : decode c.code pc = .ok (.lcmp, 1)) (g : Go p e below P T (mkF m pc' Ls (.int (if x > y then 1 else if x = y then 0 else -1) :: st))) (hp : pc + 1 = pc' := by rfl) : Go p e below P T (mkF m pc Ls (.long y :: .long x :: st)) := by
  subst hp; exact Go.by (fun _ q => XS.lcmp S.at S.hx rfl hd rfl q) g
theorem Sd.ineg (S : Sd wd EL a0 p l e R s m args below meth c Z own n0 h0 ws0 T h F locs cells slots) {x : Int32} (pc' : Nat) (hd : decode c.code pc = .ok (.ineg, 1)) (g : Go p e below P T (mkF m pc' Ls (.int (-x) :: st))) (hp : pc + 1 = pc' := by rfl) : Go p e below P T (mkF m pc Ls (.int x :: st)) := by
  subst hp; exact Go.by (fun _ q => XS.ineg S.at S.hx rfl hd rfl q) g
theorem Sd.i2b (S : Sd wd EL a0 p l e R s m args below meth c Z own n0 h0 ws0 T h F locs cells slots) {x : Int32} (pc' : Nat) (hd : decode c.code pc = .ok (.i2b, 1)) (g : Go p e below P T (mkF m pc' Ls (.int (x.toInt8.toInt32) :: st))) (hp : pc + 1 = pc' := by rfl) : Go p e below P T (mkF m pc Ls (.int x :: st)) := by
  subst hp; exact Go.by (fun _ q => XS.i2b S.at S.hx rfl hd rfl q) g
theorem Sd.i2c (S : Sd wd EL a0 p l e R s m args below meth c Z own n0 h0 ws0 T h F locs cells slots) {x : Int32} (pc' : Nat) (hd : decode c.code pc = .ok (.i2c, 1)) (g : Go p e below P T (mkF m pc' Ls (.int (x.toUInt32.toUInt16.toUInt32.toInt32) :: st))) (hp : pc + 1 = pc' := by rfl) : Go p e below P T (mkF m pc Ls (.int x :: st)) := by
  subst hp; exact Go.by (fun _ q => XS.i2c S.at S.hx rfl hd rfl q) g
theorem Sd.i2s (S : Sd wd EL a0 p l e R s m args below meth c Z own n0 h0 ws0 T h F locs cells slots) {x : Int32} (pc' : Nat) (hd : decode c.code pc = .ok (.i2s, 1)) (g : Go p e below P T (mkF m pc' Ls (.int (x.toInt16.toInt32) :: st))) (hp : pc + 1 = pc' := by rfl) : Go p e below P T (mkF m pc Ls (.int x :: st)) := by
  subst hp; exact Go.by (fun _ q => XS.i2s S.at S.hx rfl hd rfl q) g
theorem Sd.i2l (S : Sd wd EL a0 p l e R s m args below meth c Z own n0 h0 ws0 T h F locs cells slots) {x : Int32} (pc' : Nat) (hd : decode c.code pc = .ok (.i2l, 1)) (g : Go p e below P T (mkF m pc' Ls (.long (x.toInt64) :: st))) (hp : pc + 1 = pc' := by rfl) : Go p e below P T (mkF m pc Ls (.int x :: st)) := by
  subst hp; exact Go.by (fun _ q => XS.i2l S.at S.hx rfl hd rfl q) g
theorem Sd.l2i (S : Sd wd EL a0 p l e R s m args below meth c Z own n0 h0 ws0 T h F locs cells slots) {x : Int64} (pc' : Nat) (hd : decode c.code pc = .ok (.l2i, 1)) (g : Go p e below P T (mkF m pc' Ls (.int (x.toInt32) :: st))) (hp : pc + 1 = pc' := by rfl) : Go p e below P T (mkF m pc Ls (.long x :: st)) := by
  subst hp; exact Go.by (fun _ q => XS.l2i S.at S.hx rfl hd rfl q) g
theorem Sd.lneg (S : Sd wd EL a0 p l e R s m args below meth c Z own n0 h0 ws0 T h F locs cells slots) {x : Int64} (pc' : Nat) (hd : decode c.code pc = .ok (.lneg, 1)) (g : Go p e below P T (mkF m pc' Ls (.long (-x) :: st))) (hp : pc + 1 = pc' := by rfl) : Go p e below P T (mkF m pc Ls (.long x :: st)) := by
  subst hp; exact Go.by (fun _ q => XS.lneg S.at S.hx rfl hd rfl q) g
theorem Sd.irem (S : Sd wd EL a0 p l e R s m args below meth c Z own n0 h0 ws0 T h F locs cells slots) {x y : Int32} (pc' : Nat) (hd : decode c.code pc = .ok (.irem, 1)) (hy : y ≠ 0) (g : Go p e below P T (mkF m pc' Ls (.int (x % y) :: st))) (hp : pc + 1 = pc' := by rfl) : Go p e below P T (mkF m pc Ls (.int y :: .int x :: st)) := by
  subst hp
  obtain ⟨A, vm0, k0, hv, X, r⟩ := S
  exact Go.by (fun _ q => iremM X A.1 rfl hd rfl hy q) g
/-! ### steps on the heap -/
theorem Sd.new (S : Sd wd EL a0 p l e R s m args below meth c Z own n0 h0 ws0 T h F locs cells slots) {C : String} {index n : Nat} (pc' : Nat) (hd : decode c.code pc = .ok (.new index, 3)) (w : (Jvm.Cond.classLink own index C).before a0 Z = true) (wi : (Jvm.Cond.instantiable C n).before a0 Z = true) (wz : (Jvm.Cond.initialized C).before a0 Z = true) (hc : cells + 1 ≤ R.cells) (hl : slots + n ≤ R.slots)
    (g : ∀ (T' : State) (h' : Heap) (a : Addr), Sd wd EL a0 p l e R s m args below meth c Z own n0 h0 ws0 T' h' (a :: F) locs (cells + 1) (slots + n) → Ext h h' → a = h.size → Wok n0 h0 ws0 a → Exa Z h' a C → (∀ {O nm d : String} {ty : FieldType}, Laid Z a0 C O nm d → parseFieldDescriptor d = some ty → Fld Z h' a O nm d (defaultValue ty)) → Unt h' a → Go p e below P T' (mkF m pc' Ls (.ref a :: st))) (hp : pc + 3 = pc' := by rfl) :
    Go p e below P T (mkF m pc Ls st) := by
  subst hp
  obtain ⟨A, vm0, k0, hv, X, eT, hS, hk, hZ, hown, O, N, K0, C0, hF⟩ := S
  obtain ⟨T', h', X', e', E', A', D', U', st'⟩ := newO X A.1 hZ hown w wi wz eT (g := mkF m pc Ls st) rfl hd hc hl
  exact Go.by st' (g T' h' h.size (Sd.close A hv X' e' hS hk hZ hown O N K0 C0 hF (Ext.kp E') noWs fun x hx => by
    rcases List.mem_cons.mp hx with rfl | q
    · exact Or.inr ⟨Nat.le_refl _, A'.lt⟩
    · exact Or.inl q) E' rfl (Or.inr K0.1) A' D' U')
theorem Sd.getf (S : Sd wd EL a0 p l e R s m args below meth c Z own n0 h0 ws0 T h F locs cells slots) {R0 O n d host : String} {index : Nat} {a : Addr} {v : Value} (pc' : Nat) (hd : decode c.code pc = .ok (.getfield index, 3)) (w : (Jvm.Cond.fieldLink own index R0 n d).before a0 Z = true ∨ (Jvm.Cond.fieldLinkNest own index R0 n d host).before a0 Z = true) (via : Via Z R0 O n d) (V : Fld Z h a O n d v)
    (g : ∀ (T' : State), Sd wd EL a0 p l e R s m args below meth c Z own n0 h0 ws0 T' h F locs cells slots → Go p e below P T' (mkF m pc' Ls (v :: st))) (hp : pc + 3 = pc' := by rfl) : Go p e below P T (mkF m pc Ls (.ref a :: st)) := by
  subst hp
  obtain ⟨A, vm0, k0, hv, X, eT, r⟩ := S
  obtain ⟨hS, hk, hZ, hown, r'⟩ := id r
  obtain ⟨T', X', e', st'⟩ := getF X A.1 hZ hown w via eT V (g := mkF m pc Ls (.ref a :: st)) rfl rfl hd
  exact Go.by st' (g T' ⟨A, vm0, k0, hv, X', e', r⟩)
theorem Sd.gets (S : Sd wd EL a0 p l e R s m args below meth c Z own n0 h0 ws0 T h F locs cells slots) {R0 O n d host : String} {index : Nat} {v : Value} (pc' : Nat) (hd : decode c.code pc = .ok (.getstatic index, 3)) (w : (Jvm.Cond.fieldLink own index R0 n d).before a0 Z = true ∨ (Jvm.Cond.fieldLinkNest own index R0 n d host).before a0 Z = true) (via : Via Z R0 O n d) (V : Sta Z h O n d v)
    (g : ∀ (T' : State), Sd wd EL a0 p l e R s m args below meth c Z own n0 h0 ws0 T' h F locs cells slots → Go p e below P T' (mkF m pc' Ls (v :: st))) (hp : pc + 3 = pc' := by rfl) : Go p e below P T (mkF m pc Ls st) := by
  subst hp
  obtain ⟨A, vm0, k0, hv, X, eT, r⟩ := S
  obtain ⟨hS, hk, hZ, hown, r'⟩ := id r
  obtain ⟨T', X', e', st'⟩ := getS2 X A.1 hZ hown w via eT V (g := mkF m pc Ls st) rfl hd
  exact Go.by st' (g T' ⟨A, vm0, k0, hv, X', e', r⟩)
/-- no booked literal lies in an object of another class than String and byte[] -/
def Sok (F : List Addr) (a : Addr) (C : String) : Prop := (C ≠ "java/lang/String" ∧ C ≠ "[B") ∨ a ∈ F
theorem Sd.putf (S : Sd wd EL a0 p l e R s m args below meth c Z own n0 h0 ws0 T h F locs cells slots) {R0 O n d host C : String} {index kk : Nat} {a : Addr} {v old : Value} {ty : FieldType} (pc' : Nat) (hd : decode c.code pc = .ok (.putfield index, 3)) (w : (Jvm.Cond.fieldLink own index R0 n d).before a0 Z = true ∨ (Jvm.Cond.fieldLinkNest own index R0 n d host).before a0 Z = true) (via : Via Z R0 O n d)
    (V : Fld Z h a O n d old) (E : Exa Z h a C) (L : (Jvm.Cond.lays C O n d).before a0 Z = true ∨ ((Jvm.Cond.laysFinal C O n d).before a0 Z = true ∧ own = O ∧ meth.name = "<init>")) (wi : (Jvm.Cond.instantiable C kk).before a0 Z = true) (hty : parseFieldDescriptor d = some ty) (hn : narrow ty v = v) (hf : fits ty v = true) (wo : Wok n0 h0 ws0 a) (so : Sok F a C)
    (g : ∀ (T' : State) (h' : Heap) (locs' : List Loc), Sd wd EL a0 p l e R s m args below meth c Z own n0 h0 ws0 T' h' F locs' cells slots → Wr h h' a (Jvm.RoadKit.slotOf Z O n d) v → Go p e below P T' (mkF m pc' Ls st)) (hp : pc + 3 = pc' := by rfl) : Go p e below P T (mkF m pc Ls (v :: .ref a :: st)) := by
  subst hp
  have ge : n0 ≤ a := S.ge wo
  obtain ⟨A, vm0, k0, hv, X, eT, hS, hk, hZ, hown, O0, N, K0, C0, hF⟩ := S
  obtain ⟨T', h', X', e', W', st'⟩ := putF X A.1 hZ hown w via eT V E L wi hty hn hf (g := mkF m pc Ls (v :: .ref a :: st)) rfl rfl hd
  have sf : Safe Z EL vm0 h a := by
    rcases so with q | q
    · exact Safe.exa hZ.alike E q.1 q.2
    · exact (hF a q).1
  exact Go.by st' (g T' h' _ (Sd.close A hv X' e' hS hk hZ hown O0 (Fr.snoc X' N ge) K0 C0 hF (Keep.of_wr W') (fun x hx => by rw [List.mem_singleton.mp hx]; exact ⟨wo, sf⟩) fun x hx => Or.inl hx) W')
theorem Sd.newarr (S : Sd wd EL a0 p l e R s m args below meth c Z own n0 h0 ws0 T h F locs cells slots) {aty : ArrayType} {n : Int32} (pc' : Nat) (cap : Nat) (hd : decode c.code pc = .ok (.newarray aty, 2)) (w : (Jvm.Cond.arrayClass (newarray.typeOf aty)).before a0 Z = true) (hn : ¬ n < 0) (hcap : n.toNatClampNeg ≤ cap) (hb : cap * 8 ≤ 536870912) (hc : cells + 1 ≤ R.cells) (hl : slots + cap ≤ R.slots)
    (g : ∀ (T' : State) (h' : Heap) (a : Addr) (k : ClassId), Sd wd EL a0 p l e R s m args below meth c Z own n0 h0 ws0 T' h' (a :: F) locs (cells + 1) (slots + cap) → Ext h h' → a = h.size → Wok n0 h0 ws0 a → Arv Z h' a k (newarray.typeOf aty) n [] (defaultValue (newarray.typeOf aty)) → Go p e below P T' (mkF m pc' Ls (.ref a :: st))) (hp : pc + 2 = pc' := by rfl) :
    Go p e below P T (mkF m pc Ls (.int n :: st)) := by
  subst hp
  obtain ⟨A, vm0, k0, hv, X, eT, hS, hk, hZ, hown, O, N, K0, C0, hF⟩ := S
  obtain ⟨T', h', cA, X', e', E', A', st'⟩ := newP X A.1 hZ w eT (g := mkF m pc Ls (.int n :: st)) rfl hd rfl hn hcap hb hc hl
  exact Go.by st' (g T' h' h.size cA (Sd.close A hv X' e' hS hk hZ hown O N K0 C0 hF (Ext.kp E') noWs fun x hx => by
    rcases List.mem_cons.mp hx with rfl | q
    · exact Or.inr ⟨Nat.le_refl _, A'.lt⟩
    · exact Or.inl q) E' rfl (Or.inr K0.1) (Arv.new A' hn))
theorem Sd.castore (S : Sd wd EL a0 p l e R s m args below meth c Z own n0 h0 ws0 T h F locs cells slots) {a : Addr} {k : ClassId} {N : Int32} {vs : List Value} {dv : Value} {j x : Int32} (pc' i : Nat) (hd : decode c.code pc = .ok (.castore, 1)) (V : Arv Z h a k .char N vs dv) (hj : ¬ j < 0 ∧ j < N) (hi : j.toNatClampNeg = i) (hlt : i < vs.length) (wo : Wok n0 h0 ws0 a)
    (g : ∀ (T' : State) (h' : Heap) (locs' : List Loc), Sd wd EL a0 p l e R s m args below meth c Z own n0 h0 ws0 T' h' F locs' cells slots → Wr h h' a j.toNatClampNeg (.int (nar .char x)) → Arv Z h' a k .char N (vs.set i (.int (nar .char x))) dv → Go p e below P T' (mkF m pc' Ls st)) (hp : pc + 1 = pc' := by rfl) : Go p e below P T (mkF m pc Ls (.int x :: .int j :: .ref a :: st)) := by
  subst hp
  have ge : n0 ≤ a := S.ge wo
  obtain ⟨A, vm0, k0, hv, X, eT, hS, hk, hZ, hown, O0, N0, K0, C0, hF⟩ := S
  obtain ⟨cl, Ar, q, S', M, H, G⟩ := V
  obtain ⟨T', h', X', e', W', st'⟩ := stC X A.1 hZ eT Ar (x := x) (inb_of S' hj) (g := mkF m pc Ls (.int x :: .int j :: .ref a :: st)) rfl rfl hd
  exact Go.by st' (g T' h' _ (Sd.close A hv X' e' hS hk hZ hown O0 (Fr.snoc X' N0 ge) K0 C0 hF (Keep.of_wr W') (fun y hy => by rw [List.mem_singleton.mp hy]; exact ⟨wo, Safe.arr hZ.alike Ar (by decide)⟩) fun y hy => Or.inl hy) W' (Arv.set Ar q S' M H G (fits_nar_char _) W' i hi hlt))
theorem Sd.alen (S : Sd wd EL a0 p l e R s m args below meth c Z own n0 h0 ws0 T h F locs cells slots) {a : Addr} {k : ClassId} {ty : FieldType} {N : Int32} {vs : List Value} {dv : Value} (pc' : Nat) (hd : decode c.code pc = .ok (.arraylength, 1)) (V : Arv Z h a k ty N vs dv) (g : Go p e below P T (mkF m pc' Ls (.int N :: st))) (hp : pc + 1 = pc' := by rfl) : Go p e below P T (mkF m pc Ls (.ref a :: st)) := by
  subst hp
  obtain ⟨A, vm0, k0, hv, X, eT, hS, hk, hZ, r⟩ := S
  obtain ⟨cl, Ar, q, S', M, H, G⟩ := V
  rw [← len_of S' M] at g
  exact Go.by (fun t z => X.arraylength A.1 (by rw [eT]; exact Ar.1) (State.isArrayOf_alike hZ.alike Ar.2.1) (g := mkF m pc Ls (.ref a :: st)) rfl rfl hd t z) g
theorem Sd.caload (S : Sd wd EL a0 p l e R s m args below meth c Z own n0 h0 ws0 T h F locs cells slots) {a : Addr} {k : ClassId} {N : Int32} {vs : List Value} {dv v : Value} {j : Int32} (pc' : Nat) (hd : decode c.code pc = .ok (.caload, 1)) (V : Arv Z h a k .char N vs dv) (hj : ¬ j < 0 ∧ j < N) (hv' : vs.getD j.toNatClampNeg dv = v) (g : Go p e below P T (mkF m pc' Ls (v :: st))) (hp : pc + 1 = pc' := by rfl) : Go p e below P T (mkF m pc Ls (.int j :: .ref a :: st)) := by
  subst hp
  obtain ⟨A, vm0, k0, hv, X, eT, hS, hk, hZ, r⟩ := S
  obtain ⟨cl, Ar, q, S', M, H, G⟩ := V
  exact Go.by (fun t z => X.caload A.1 (by rw [eT]; exact Ar.1) (State.isArrayOf_alike hZ.alike Ar.2.1) Ar.2.2 (inb_of S' hj) (H.at (inb_of S' hj) hv') (g := mkF m pc Ls (.int j :: .ref a :: st)) rfl rfl hd t z) g
theorem Sd.baload (S : Sd wd EL a0 p l e R s m args below meth c Z own n0 h0 ws0 T h F locs cells slots) {a : Addr} {k : ClassId} {N : Int32} {vs : List Value} {dv v : Value} {j : Int32} (pc' : Nat) (hd : decode c.code pc = .ok (.baload, 1)) (V : Arv Z h a k .byte N vs dv) (hj : ¬ j < 0 ∧ j < N) (hv' : vs.getD j.toNatClampNeg dv = v) (g : Go p e below P T (mkF m pc' Ls (v :: st))) (hp : pc + 1 = pc' := by rfl) : Go p e below P T (mkF m pc Ls (.int j :: .ref a :: st)) := by
  subst hp
  obtain ⟨A, vm0, k0, hv, X, eT, hS, hk, hZ, r⟩ := S
  obtain ⟨cl, Ar, q, S', M, H, G⟩ := V
  exact Go.by (fun t z => X.baloadBytes A.1 (by rw [eT]; exact Ar.1) (State.isArrayOf_alike hZ.alike Ar.2.1) Ar.2.2 (inb_of S' hj) (H.at (inb_of S' hj) hv') (g := mkF m pc Ls (.int j :: .ref a :: st)) rfl rfl hd t z) g
theorem Sd.iaload (S : Sd wd EL a0 p l e R s m args below meth c Z own n0 h0 ws0 T h F locs cells slots) {a : Addr} {k : ClassId} {N : Int32} {vs : List Value} {dv v : Value} {j : Int32} (pc' : Nat) (hd : decode c.code pc = .ok (.iaload, 1)) (V : Arv Z h a k .int N vs dv) (hj : ¬ j < 0 ∧ j < N) (hv' : vs.getD j.toNatClampNeg dv = v) (g : Go p e below P T (mkF m pc' Ls (v :: st))) (hp : pc + 1 = pc' := by rfl) : Go p e below P T (mkF m pc Ls (.int j :: .ref a :: st)) := by
  subst hp
  obtain ⟨A, vm0, k0, hv, X, eT, hS, hk, hZ, r⟩ := S
  obtain ⟨cl, Ar, q, S', M, H, G⟩ := V
  exact Go.by (fun t z => X.iaload A.1 (by rw [eT]; exact Ar.1) (State.isArrayOf_alike hZ.alike Ar.2.1) Ar.2.2 (inb_of S' hj) (H.at (inb_of S' hj) hv') (g := mkF m pc Ls (.int j :: .ref a :: st)) rfl rfl hd t z) g
theorem Sd.ldcI (S : Sd wd EL a0 p l e R s m args below meth c Z own n0 h0 ws0 T h F locs cells slots) {index : Nat} {v : Int32} (pc' : Nat) (hd : decode c.code pc = .ok (.ldc index, 2)) (w : (Jvm.Cond.constant own index v).before a0 Z = true) (g : Go p e below P T (mkF m pc' Ls (.int v :: st))) (hp : pc + 2 = pc' := by rfl) : Go p e below P T (mkF m pc Ls st) := by
  subst hp
  obtain ⟨A, vm0, k0, hv, X, eT, hS, hk, hZ, hown, r⟩ := S
  exact Go.by (fun t z => X.ldcInt A.1 hown (mvT (s := s.setVm vm0) hZ w) (g := mkF m pc Ls st) rfl hd t z) g
theorem Sd.ldc2J (S : Sd wd EL a0 p l e R s m args below meth c Z own n0 h0 ws0 T h F locs cells slots) {index : Nat} {v : Int64} (pc' : Nat) (hd : decode c.code pc = .ok (.ldc2_w index, 3)) (w : (Jvm.Cond.constantLong own index v).before a0 Z = true) (g : Go p e below P T (mkF m pc' Ls (.long v :: st))) (hp : pc + 3 = pc' := by rfl) : Go p e below P T (mkF m pc Ls st) := by
  subst hp
  obtain ⟨A, vm0, k0, hv, X, eT, hS, hk, hZ, hown, r⟩ := S
  exact Go.by (fun t z => X.ldc2Long A.1 hown (mvT (s := s.setVm vm0) hZ w) (g := mkF m pc Ls st) rfl hd t z) g
theorem Sd.cast (S : Sd wd EL a0 p l e R s m args below meth c Z own n0 h0 ws0 T h F locs cells slots) {K : String} {index : Nat} {a : Addr} (pc' : Nat) (hd : decode c.code pc = .ok (.checkcast index, 3)) (w : (Jvm.Cond.classLink own index K).before a0 Z = true) (I : Ins Z h a K true)
    (g : ∀ (T' : State), Sd wd EL a0 p l e R s m args below meth c Z own n0 h0 ws0 T' h F locs cells slots → Go p e below P T' (mkF m pc' Ls (.ref a :: st))) (hp : pc + 3 = pc' := by rfl) : Go p e below P T (mkF m pc Ls (.ref a :: st)) := by
  subst hp
  obtain ⟨A, vm0, k0, hv, X, eT, r⟩ := S
  obtain ⟨hS, hk, hZ, hown, r'⟩ := id r
  obtain ⟨T', X', e', st'⟩ := castY X A.1 hZ hown w eT I (g := mkF m pc Ls (.ref a :: st)) rfl rfl hd
  exact Go.by st' (g T' ⟨A, vm0, k0, hv, X', e', r⟩)
theorem Sd.castNull (S : Sd wd EL a0 p l e R s m args below meth c Z own n0 h0 ws0 T h F locs cells slots) {index : Nat} (pc' : Nat) (hd : decode c.code pc = .ok (.checkcast index, 3)) (g : Go p e below P T (mkF m pc' Ls (.null :: st))) (hp : pc + 3 = pc' := by rfl) : Go p e below P T (mkF m pc Ls (.null :: st)) := by
  subst hp
  obtain ⟨A, vm0, k0, hv, X, r⟩ := S
  exact Go.by (fun t z => X.checkcastNull A.1 (g := mkF m pc Ls (.null :: st)) rfl rfl hd t z) g
theorem Sd.instY (S : Sd wd EL a0 p l e R s m args below meth c Z own n0 h0 ws0 T h F locs cells slots) {K : String} {index : Nat} {a : Addr} (pc' : Nat) (hd : decode c.code pc = .ok (.instanceof index, 3)) (w : (Jvm.Cond.classLink own index K).before a0 Z = true) (I : Ins Z h a K true)
    (g : ∀ (T' : State), Sd wd EL a0 p l e R s m args below meth c Z own n0 h0 ws0 T' h F locs cells slots → Go p e below P T' (mkF m pc' Ls (.int 1 :: st))) (hp : pc + 3 = pc' := by rfl) : Go p e below P T (mkF m pc Ls (.ref a :: st)) := by
  subst hp
  obtain ⟨A, vm0, k0, hv, X, eT, r⟩ := S
  obtain ⟨hS, hk, hZ, hown, r'⟩ := id r
  obtain ⟨T', X', e', st'⟩ := RoadKit.instY X A.1 hZ hown w eT I (g := mkF m pc Ls (.ref a :: st)) rfl rfl hd
  exact Go.by st' (g T' ⟨A, vm0, k0, hv, X', e', r⟩)
theorem Sd.instNo (S : Sd wd EL a0 p l e R s m args below meth c Z own n0 h0 ws0 T h F locs cells slots) {K C : String} {index : Nat} {a : Addr} (pc' : Nat) (hd : decode c.code pc = .ok (.instanceof index, 3)) (w : (Jvm.Cond.classLink own index K).before a0 Z = true) (E : Exa Z h a C) (I : ∃ c t, Z.vm.findClass C = some c ∧ Z.vm.findClass K = some t ∧ Z.vm.assignable c t = false)
    (g : ∀ (T' : State), Sd wd EL a0 p l e R s m args below meth c Z own n0 h0 ws0 T' h F locs cells slots → Go p e below P T' (mkF m pc' Ls (.int 0 :: st))) (hp : pc + 3 = pc' := by rfl) : Go p e below P T (mkF m pc Ls (.ref a :: st)) := by
  subst hp
  obtain ⟨A, vm0, k0, hv, X, eT, r⟩ := S
  obtain ⟨hS, hk, hZ, hown, r'⟩ := id r
  obtain ⟨T', X', e', st'⟩ := RoadKit.instNo X A.1 hZ hown w eT E I (g := mkF m pc Ls (.ref a :: st)) rfl rfl hd
  exact Go.by st' (g T' ⟨A, vm0, k0, hv, X', e', r⟩)
theorem Sd.initO (S : Sd wd EL a0 p l e R s m args below meth c Z own n0 h0 ws0 T h F locs cells slots) {idx W : Nat} {a : Addr} (pc' : Nat) (hd : decode c.code pc = .ok (.invokespecial idx, 3)) (hml : Ls.size = c.maxLocals) (w1 : (Jvm.Cond.methodLink own idx Lib.objectInit).before a0 Z = true) (w2 : (Jvm.Cond.instanceMethod Lib.objectInit).before a0 Z = true) (w3 : (Jvm.Cond.code Lib.objectInit ⟨#[0xb1]⟩ 1 none).before a0 Z = true)
    (hf : 1 ≤ R.frames) (hW : (st.map fun v => v.category).sum ≤ W) (hl : W + 12 ≤ R.locals)
    (g : ∀ (T' : State), Sd wd EL a0 p l e R s m args below meth c Z own n0 h0 ws0 T' h F locs cells slots → Go p e below P T' (mkF m pc' Ls st)) (hp : pc + 3 = pc' := by rfl) : Go p e below P T (mkF m pc Ls (.ref a :: st)) := by
  subst hp
  obtain ⟨A, vm0, k0, hv, X, eT, r⟩ := S
  obtain ⟨hS, hk, hZ, hown, r'⟩ := id r
  obtain ⟨T', X', e', st'⟩ := RoadKit.initO X A.1 hZ hown w1 w2 w3 eT (g := mkF m pc Ls (.ref a :: st)) rfl hml rfl hd hf (W := W) (by show 2 * 0 + _ ≤ _; omega) hl
  exact Go.by st' (g T' ⟨A, vm0, k0, hv, X', e', r⟩)
/-- 'ldc' of a String constant, opaque (a wide body) -/
theorem Sd.ldcO (S : Sd true EL a0 p l e R s m args below meth c Z own n0 h0 ws0 T h F locs cells slots) {index n : Nat} {text : String} (pc' : Nat) (hd : decode c.code pc = .ok (.ldc index, 2)) (w : (Jvm.Cond.stringLink own index text).before a0 Z = true) (wS : ∀ a ∈ Bundle.stringAtoms, a.before a0 Z = true) (hn : 4 * text.toList.length ≤ n) (hbig : n ≤ 536870912) (hc : cells + 2 ≤ R.cells) (hl : slots + (n + 4) ≤ R.slots)
    (g : ∀ (T' : State) (h' : Heap) (a : Addr), Sd true EL a0 p l e R s m args below meth c Z own n0 h0 ws0 T' h' F locs (cells + 2) (slots + (n + 4)) → Ext h h' → Go p e below P T' (mkF m pc' Ls (.ref a :: st))) (hp : pc + 2 = pc' := by rfl) : Go p e below P T (mkF m pc Ls st) := by
  subst hp
  obtain ⟨A, vm0, k0, hv, X, eT, hS, hk, hZ, hown, O, N, K0, C0, hF⟩ := S
  obtain ⟨a, T', h', k1, X', e', E, hS', hk', hZ', hown', C', -, st'⟩ := ldcOH X A.1 hZ hown w wS eT hS hk A.2.2.1 C0.1 (g := mkF m pc Ls st) rfl hd hn hbig hc hl
  exact Go.by st' (g T' h' a ⟨A, T'.vm, k1, nofun, X', e', hS', hk', hZ', hown', O.ext E, N, K0.ext E, C0.trans C', fun x hx => ⟨C'.safe (hF x hx).2 (hF x hx).1, Nat.lt_of_lt_of_le (hF x hx).2 E.1⟩⟩ E)
/-- 'ldc' of a String constant of EL, read (a wide body) -/
theorem Sd.ldcR (S : Sd true EL a0 p l e R s m args below meth c Z own n0 h0 ws0 T h F locs cells slots) {index n : Nat} {text : String} {vs : List Value} {z : Int32} (pc' : Nat) (hd : decode c.code pc = .ok (.ldc index, 2)) (w : (Jvm.Cond.stringLink own index text).before a0 Z = true) (wS : ∀ a ∈ Bundle.stringAtoms, a.before a0 Z = true) (hmem : (own, index) ∈ EL) (ht : (∀ c ∈ text.toList, c.toNat < 256) ∧ text.toList.map (fun c => Value.int (Jvm.Lit.byteI c.toNat.toUInt16)) = vs) (hz : ¬ z < 0) (hlen : z.toNatClampNeg = vs.length)
    (hn : 4 * text.toList.length ≤ n) (hbig : n ≤ 536870912) (hc : cells + 2 ≤ R.cells) (hl : slots + (n + 4) ≤ R.slots)
    (g : ∀ (T' : State) (h' : Heap) (a b : Addr) (k : ClassId), Sd true EL a0 p l e R s m args below meth c Z own n0 h0 ws0 T' h' F locs (cells + 2) (slots + (n + 4)) → Ext h h' → Exa Z h' a "java/lang/String" → Fld Z h' a "java/lang/String" "coder" "B" (.int 0) → Fld Z h' a "java/lang/String" "value" "[B" (.ref b) → Arv Z h' b k .byte z vs (.int 0) → (∀ x ∈ F, x ≠ a ∧ x ≠ b) → Go p e below P T' (mkF m pc' Ls (.ref a :: st))) (hp : pc + 2 = pc' := by rfl) : Go p e below P T (mkF m pc Ls st) := by
  subst hp
  obtain ⟨A, vm0, k0, hv, X, eT, hS, hk, hZ, hown, O, N, K0, C0, hF⟩ := S
  obtain ⟨a, T', h', k1, b, k, X', e', E, hS', hk', hZ', hown', g1, g2, g3, g4, -, -, C', -, hne, st'⟩ := ldcCH X A.1 hZ hown w wS eT hS hk A.2.2.1 hmem C0.1 ht hz hlen (g := mkF m pc Ls st) rfl hd hn hbig hc hl
  have sf : ∀ x ∈ F, Safe Z EL T'.vm h' x ∧ x < h'.size := fun x hx => ⟨C'.safe (hF x hx).2 (hF x hx).1, Nat.lt_of_lt_of_le (hF x hx).2 E.1⟩
  exact Go.by st' (g T' h' a b k ⟨A, T'.vm, k1, nofun, X', e', hS', hk', hZ', hown', O.ext E, N, K0.ext E, C0.trans C', sf⟩ E g1 g2 g3 g4 fun x hx => hne x (sf x hx).1)
/-! ### the end of a body -/
theorem Sd.endB (S : Sd wd EL a0 p l e R s m args below meth c Z own n0 h0 ws0 T h F locs cells slots) {v : Option Value} (hv : meth.sig.returnType = none → v = none) {rc rs : Nat} (hc : cells ≤ rc) (hs : slots ≤ rs) {Q : Option Value → Heap → Prop} (q : Q v h) :
    ∃ fs, (∀ (f : JFrame) (acts : List Action), f.method = m → f.locked = none → f.entered = [] → (doReturn e (T.setTop f) acts v).1 = T.setFrames fs) ∧ (T.setFrames fs).status = .running ∧ Ended (T.setFrames fs) below (.returned v) ∧ Done wd EL Z s n0 h0 ws0 rc rs Q (.returned v) (T.setFrames fs) := by
  obtain ⟨A, vm0, k0, hw, X, eT, hS, hk, hZ, hown, O, N, K0, C0, hF⟩ := S
  have hh : ∀ fs, (T.setFrames fs).heap = h := fun fs => eT
  cases wd with
  | false =>
    obtain rfl := hw rfl
    have X : Stand p l e R s m args below meth c T locs cells slots := X
    obtain ⟨fs, h1, h2, h3, hW, hsame⟩ := X.leave hv A.2.1
    exact ⟨fs, h1, h2, h3, v, locs, rfl, ⟨by rw [hh]; exact q, by rw [hh]; exact K0, N⟩, ⟨_, rfl⟩, hW, hsame.mono hc hs⟩
  | true =>
    obtain ⟨fs, h1, h2, h3, e1, e2, e3, e4⟩ := X.leaveW hS (by rw [eT]; exact hk) hv A.2.1
    refine ⟨fs, h1, h2, h3, v, locs, rfl, ⟨by rw [hh]; exact q, by rw [hh]; exact K0, N⟩, ?_, e1, e2, e3, e4.mono hc hs⟩
    have C1 := C0.trans (CHv.at X hZ A.2.2.1 C0.1)
    show CHr Z EL s.vm s.heap T.vm (T.setFrames fs).heap
    rw [hh]; exact C1
theorem Sd.ret0 (S : Sd wd EL a0 p l e R s m args below meth c Z own n0 h0 ws0 T h F locs cells slots) {rc rs : Nat} {Q : Option Value → Heap → Prop} (hd : decode c.code pc = .ok (.return_, 1)) (hret : meth.sig.returnType = none) (hc : cells ≤ rc) (hs : slots ≤ rs) (q : Q none h) : Go p e below (Done wd EL Z s n0 h0 ws0 rc rs Q) T (mkF m pc Ls []) := by
  obtain ⟨fs, h1, h2, h3, h4⟩ := S.endB (v := none) (fun _ => rfl) hc hs q
  obtain ⟨A, vm0, k0, hw, X, r⟩ := S
  exact ⟨_, _, X.returnOut A.1 hret hd h1, h2, h3, h4⟩
theorem Sd.retV (S : Sd wd EL a0 p l e R s m args below meth c Z own n0 h0 ws0 T h F locs cells slots) {rc rs : Nat} {Q : Option Value → Heap → Prop} {w : Value} {t : FieldType} {i : Instr} (hd : decode c.code pc = .ok (i, 1)) (hret : meth.sig.returnType = some t) (hn : narrow t w = w)
    (hi : (i = .ireturn ∧ (t = .int ∨ t = .boolean ∨ t = .byte ∨ t = .char ∨ t = .short) ∧ ∃ z, w = .int z) ∨ (i = .lreturn ∧ t = .long ∧ ∃ z, w = .long z) ∨ (i = .dreturn ∧ t = .double ∧ ∃ z, w = .double z) ∨ (i = .freturn ∧ t = .float ∧ ∃ z, w = .float z) ∨ (i = .areturn ∧ t.isReference = true ∧ w.isRef = true))
    (hc : cells ≤ rc) (hs : slots ≤ rs) (q : Q (some w) h) : Go p e below (Done wd EL Z s n0 h0 ws0 rc rs Q) T (mkF m pc Ls (w :: st)) := by
  obtain ⟨fs, h1, h2, h3, h4⟩ := S.endB (v := some w) (fun z => by rw [hret] at z; cases z) hc hs q
  obtain ⟨A, vm0, k0, hw, X, r⟩ := S
  exact ⟨_, _, retOut X A.1 hret hn hi hd h1, h2, h3, h4⟩
theorem Sd.retI (S : Sd wd EL a0 p l e R s m args below meth c Z own n0 h0 ws0 T h F locs cells slots) {rc rs : Nat} {Q : Option Value → Heap → Prop} {z : Int32} (hd : decode c.code pc = .ok (.ireturn, 1)) (hret : meth.sig.returnType = some .int) (hc : cells ≤ rc) (hs : slots ≤ rs) (q : Q (some (.int z)) h) : Go p e below (Done wd EL Z s n0 h0 ws0 rc rs Q) T (mkF m pc Ls (.int z :: st)) :=
  S.retV hd hret rfl (Or.inl ⟨rfl, Or.inl rfl, z, rfl⟩) hc hs q
/-- the return of a boolean, byte, char or short: what the frame holds is narrowed -/
theorem Sd.retN (S : Sd wd EL a0 p l e R s m args below meth c Z own n0 h0 ws0 T h F locs cells slots) {rc rs : Nat} {Q : Option Value → Heap → Prop} {z : Int32} {t : FieldType} (hd : decode c.code pc = .ok (.ireturn, 1)) (hret : meth.sig.returnType = some t) (ht : t = .boolean ∨ t = .byte ∨ t = .char ∨ t = .short) (hc : cells ≤ rc) (hs : slots ≤ rs) (q : Q (some (.int (nar t z))) h) : Go p e below (Done wd EL Z s n0 h0 ws0 rc rs Q) T (mkF m pc Ls (.int z :: st)) := by
  obtain ⟨fs, h1, h2, h3, h4⟩ := S.endB (v := some (.int (nar t z))) (fun y => by rw [hret] at y; cases y) hc hs q
  obtain ⟨A, vm0, k0, hw, X, r⟩ := S
  exact ⟨_, _, RoadKit.retN X A.1 hret ht hd h1, h2, h3, h4⟩
theorem Sd.retJ (S : Sd wd EL a0 p l e R s m args below meth c Z own n0 h0 ws0 T h F locs cells slots) {rc rs : Nat} {Q : Option Value → Heap → Prop} {z : Int64} (hd : decode c.code pc = .ok (.lreturn, 1)) (hret : meth.sig.returnType = some .long) (hc : cells ≤ rc) (hs : slots ≤ rs) (q : Q (some (.long z)) h) : Go p e below (Done wd EL Z s n0 h0 ws0 rc rs Q) T (mkF m pc Ls (.long z :: st)) :=
  S.retV hd hret rfl (Or.inr (Or.inl ⟨rfl, rfl, z, rfl⟩)) hc hs q
theorem Sd.retA (S : Sd wd EL a0 p l e R s m args below meth c Z own n0 h0 ws0 T h F locs cells slots) {rc rs : Nat} {Q : Option Value → Heap → Prop} {w : Value} {t : FieldType} (hd : decode c.code pc = .ok (.areturn, 1)) (hret : meth.sig.returnType = some t) (ht : t.isReference = true) (hw : w.isRef = true) (hc : cells ≤ rc) (hs : slots ≤ rs) (q : Q (some w) h) : Go p e below (Done wd EL Z s n0 h0 ws0 rc rs Q) T (mkF m pc Ls (w :: st)) :=
  S.retV hd hret (Jvm.narrow_isRef _ hw) (Or.inr (Or.inr (Or.inr (Or.inr ⟨rfl, ht, hw⟩)))) hc hs q
/-! ### contracts -/
/-- a body that interns nothing -/
def Con (l : Launch) (Z : State) (n0 : Nat) (y : MethodName) (bytes : ByteArray) (maxL : Nat) (ret : Option FieldType) (cs : List Jvm.Cond) (rm : Room) (as' : Array Value) (h : Heap) (ws : List Addr) (Q : Option Value → Heap → Prop) : Prop :=
  MetFree l y (head1 (Jvm.Cond.code y bytes maxL ret :: cs) rm) (fun a U => a = as' ∧ Z.Warmed39 U.vm ∧ U.heap = h) (fun _ _ _ _ _ => True) (fun _ U o U' => ∃ v L, o = .returned v ∧ (Q v U'.heap ∧ Keep h U'.heap ws ∧ Fr n0 L) ∧ FrameEnd U o U' L rm.cells rm.slots)
/-- a body that may intern: F0: what must hold no booked literal -/
def ConS (EL : List (String × Nat)) (l : Launch) (Z : State) (n0 : Nat) (y : MethodName) (bytes : ByteArray) (maxL : Nat) (ret : Option FieldType) (cs : List Jvm.Cond) (rm : Room) (as' : Array Value) (h : Heap) (ws F0 : List Addr) (Q : Option Value → Heap → Prop) : Prop :=
  MetFree l y (head1 (Jvm.Cond.code y bytes maxL ret :: cs) rm) (fun a U => a = as' ∧ Z.Warmed39 U.vm ∧ U.heap = h ∧ CHv Z EL U.vm h ∧ ∀ x ∈ F0, Safe Z EL U.vm h x ∧ x < h.size) (fun _ _ _ _ _ => True) (fun _ U o U' => ∃ v L, o = .returned v ∧ (Q v U'.heap ∧ Keep h U'.heap ws ∧ Fr n0 L) ∧ CHr Z EL U.vm U.heap U'.vm U'.heap ∧ ReturnedEndW U o U' L rm.cells rm.slots)
theorem chv0 {vm : Vm} : CHv Z [] vm h := fun _ q => nomatch q
theorem safe0 {vm : Vm} {x : Addr} : Safe Z [] vm h x := fun ⟨_, q, _⟩ => nomatch q
theorem Con.of {y : MethodName} {bytes : ByteArray} {maxL : Nat} {ret : Option FieldType} {cs : List Jvm.Cond} {rm : Room} {as' : Array Value} {Q : Option Value → Heap → Prop} (a0 : Array Value) (hn : plainFor y = true) (hO : Old Z n0 h) (hws : ∀ x ∈ ws, n0 ≤ x) (F0 : List Addr) (hF0 : ∀ x ∈ F0, x < h.size)
    (body : ∀ (p : Program) (e : Env) (s : State) (m : MethodId) (below : List Frame) (meth : Method) (c : Code) (T : State), Sd false [] a0 p l e rm s m as' below meth c Z y.cls n0 h ws T h F0 [] 0 0 → c.code = bytes → c.maxLocals = maxL → meth.sig.returnType = ret → meth.name = y.name → Go p e below (Done false [] Z s n0 h ws rm.cells rm.slots Q) T (entryFrame m as' maxL)) :
    Con l Z n0 y bytes maxL ret cs rm as' h ws Q := by
  refine MetFree.of_bodySF hn hisR ?_
  intro p e s m args below meth c s₁ Bd hml0 hP hK
  obtain ⟨rfl, hZ, rfl⟩ := hP
  have e0 : s₁.heap = s.heap := by rw [Bd.state]; rfl
  obtain ⟨s₂, o, h1, h2, h3, h4⟩ := body p e s m below meth c s₁ ⟨⟨Bd.exec, Bd.notSynchronized, EW.nil, rfl, hO, hws⟩, s.vm, 0, fun _ => rfl, (Stand.of_body Bd : Stand p l e rm s m args below meth c s₁ [] 0 0), e0, State.WarmedH.since (State.WarmedH.refl s) 0, Nat.zero_le _, hZ, findClass_of_methodNamed Bd.named, hO, Fr.nil n0, Keep.refl _ _, CHr.refl chv0, fun x hx => ⟨safe0, hF0 x hx⟩⟩ Bd.bytes hml0 Bd.returns (name_of_methodNamed Bd.named Bd.method).1
  exact ⟨s₂, o, h1, h2, h3, h4⟩
theorem ConS.of {y : MethodName} {bytes : ByteArray} {maxL : Nat} {ret : Option FieldType} {cs : List Jvm.Cond} {rm : Room} {as' : Array Value} {F0 : List Addr} {Q : Option Value → Heap → Prop} (hn : plainFor y = true) (hO : Old Z n0 h) (hEL : EW Z a0 EL) (hws : ∀ x ∈ ws, n0 ≤ x)
    (body : ∀ (p : Program) (e : Env) (s : State) (m : MethodId) (below : List Frame) (meth : Method) (c : Code) (T : State), Sd true EL a0 p l e rm s m as' below meth c Z y.cls n0 h ws T h F0 [] 0 0 → c.code = bytes → c.maxLocals = maxL → meth.sig.returnType = ret → meth.name = y.name → Go p e below (Done true EL Z s n0 h ws rm.cells rm.slots Q) T (entryFrame m as' maxL)) :
    ConS EL l Z n0 y bytes maxL ret cs rm as' h ws F0 Q := by
  refine MetFree.of_bodySF hn hisR ?_
  intro p e s m args below meth c s₁ Bd hml0 hP hK
  obtain ⟨rfl, hZ, rfl, hC, hF⟩ := hP
  have e0 : s₁.heap = s.heap := by rw [Bd.state]; rfl
  obtain ⟨s₂, o, h1, h2, h3, h4⟩ := body p e s m below meth c s₁ ⟨⟨Bd.exec, Bd.notSynchronized, hEL, rfl, hO, hws⟩, s.vm, 0, fun _ => rfl, (Stand.of_body Bd : Stand p l e rm s m args below meth c s₁ [] 0 0), e0, State.WarmedH.since (State.WarmedH.refl s) 0, Nat.zero_le _, hZ, findClass_of_methodNamed Bd.named, hO, Fr.nil n0, Keep.refl _ _, CHr.refl hC, hF⟩ Bd.bytes hml0 Bd.returns (name_of_methodNamed Bd.named Bd.method).1
  exact ⟨s₂, o, h1, h2, h3, h4⟩
/-! ### who pays a call -/
def Pay (l : Launch) (R : Room) (p : Program) (e : Env) (below : List Frame) (args : Array Value) (Z s : State) (n0 : Nat) (y : MethodName) (len W : Nat) (as' : Array Value) (h : Heap) (ws : List Addr) (rc rs : Nat) (Q : Option Value → Heap → Prop) : Prop :=
  ∀ s' : State, Z.Warmed39 s'.vm → s.vm.Alike s'.vm → Back l R p e below s' args y len W (fun A a => a = as' ∧ A.U.heap = h ∧ A.cells + rc ≤ R.cells ∧ A.slots + rs ≤ R.slots) (fun A _ v B => ∃ L, (Q v B.U.heap ∧ Keep h B.U.heap ws ∧ Fr n0 L) ∧ B.locs = A.locs ++ L ∧ B.cells = A.cells + rc ∧ B.slots = A.slots + rs)
def PayS (EL : List (String × Nat)) (a0 : Array Value) (l : Launch) (R : Room) (p : Program) (e : Env) (below : List Frame) (args : Array Value) (Z : State) (n0 : Nat) (y : MethodName) (len W : Nat) (as' : Array Value) (h : Heap) (ws F0 : List Addr) (rc rs : Nat) (Q : Option Value → Heap → Prop) : Prop :=
  ∀ (s : State) (vm0 : Vm), Z.Warmed39 vm0 → EW Z a0 EL → CHv Z EL vm0 h → (∀ x ∈ F0, Safe Z EL vm0 h x ∧ x < h.size) → BackS l R p e below (s.setVm vm0) args y len W (fun A a => a = as' ∧ A.U.heap = h ∧ A.cells + rc ≤ R.cells ∧ A.slots + rs ≤ R.slots)
    (fun A _ v B => ∃ L, (Q v B.U.heap ∧ Keep h B.U.heap ws ∧ Fr n0 L) ∧ B.locs = A.locs ++ L ∧ B.cells = A.cells + rc ∧ B.slots = A.slots + rs ∧ CHr Z EL vm0 h B.U.vm B.U.heap)
variable {y : MethodName} {bytes : ByteArray} {maxL : Nat} {ret : Option FieldType} {cs : List Jvm.Cond} {rm : Room} {as' : Array Value} {Q : Option Value → Heap → Prop} {len W rc rs : Nat} {F0 : List Addr} {argsL : List Value}
theorem Con.pay (M : Con l Z n0 y bytes maxL ret [] rm as' h ws Q) (wc : (Jvm.Cond.code y bytes maxL ret).before a0 Z = true) (wz : (Jvm.Cond.initialized y.cls).before a0 Z = true) (hf : rm.frames + 1 ≤ R.frames) (hl : W + (maxL + 11) + rm.locals ≤ R.locals) : Pay l R p e below args Z s n0 y len W as' h ws rm.cells rm.slots Q :=
  fun _ hZ _ => backOf (Q := fun v h' L => Q v h' ∧ Keep h h' ws ∧ Fr n0 L) M hZ wc wz hf hl
theorem ConS.pay (M : ConS EL l Z n0 y bytes maxL ret [] rm as' h ws F0 Q) (wc : (Jvm.Cond.code y bytes maxL ret).before a0 Z = true) (wz : (Jvm.Cond.initialized y.cls).before a0 Z = true) (hf : rm.frames + 1 ≤ R.frames) (hl : W + (maxL + 11) + rm.locals ≤ R.locals) : PayS EL a0 l R p e below args Z n0 y len W as' h ws F0 rm.cells rm.slots Q := by
  intro s vm0 hZ hEL H hF
  exact BackS.of_freeW (bytes := bytes) (maxL := maxL) (ret := ret) (E := fun _ first o t L k n => k = rm.cells ∧ n = rm.slots ∧ (∃ v, o = .returned v ∧ (Q v t.heap ∧ Keep h t.heap ws ∧ Fr n0 L)) ∧ CHr Z EL first.vm first.heap t.vm t.heap) M hf hl
    (fun m meth c A a Y hp => have hU : Z.Warmed39 A.U.vm := wtrans (s := s.setVm vm0) hZ Y.warmed
      ⟨by show (Cond.and _ .tt).before a A.U = true; rw [Cond.before_and, mv hU wc]; rfl, mv hU wc, mv hU wz, hp.2.2.1, hp.2.2.2⟩)
    (fun m meth c A a g mk Y hp => ⟨hp.1, wtrans (s := s.setVm vm0) hZ Y.warmed, hp.2.1, (CHv.at Y hZ hEL H).1, fun x hx => ⟨(CHv.at Y hZ hEL H).safe (hF x hx).2 (hF x hx).1, (hF x hx).2⟩⟩) (fun _ _ _ _ _ _ _ _ _ => trivial)
    (fun _ _ _ _ ⟨v, L, h1, h2, h3, h4⟩ => ⟨L, _, _, h4, rfl, rfl, ⟨v, h1, h2⟩, h3⟩)
    (fun m meth c A a g mk v t L k n Y hp _ _ ⟨e1, e2, ⟨v', e3, e4⟩, e5⟩ => by
      cases e3; subst e1 e2
      refine ⟨L, e4, rfl, rfl, rfl, (CHv.at Y hZ hEL H).trans ?_⟩
      rw [← hp.2.1]; exact e5)
/-- what a caller must know of what its callee writes -/
def Wrs (Z : State) (n0 : Nat) (h0 : Heap) (ws0 : List Addr) (h : Heap) (F ws : List Addr) : Prop := ∀ x ∈ ws, Wok n0 h0 ws0 x ∧ (x ∈ F ∨ ∃ C, Exa Z h x C ∧ C ≠ "java/lang/String" ∧ C ≠ "[B")
theorem Wrs.nil : Wrs Z n0 h0 ws0 h F [] := fun _ q => nomatch q
theorem Wrs.one {x : Addr} (w : Wok n0 h0 ws0 x) (q : x ∈ F ∨ ∃ C, Exa Z h x C ∧ C ≠ "java/lang/String" ∧ C ≠ "[B") : Wrs Z n0 h0 ws0 h F [x] := fun y hy => by rw [List.mem_singleton.mp hy]; exact ⟨w, q⟩
theorem Wrs.safe (w : Wrs Z n0 h0 ws0 h F ws) (hal : Z.vm.Alike vm0) (hF : ∀ x ∈ F, Safe Z EL vm0 h x ∧ x < h.size) : ∀ x ∈ ws, Wok n0 h0 ws0 x ∧ Safe Z EL vm0 h x := fun x hx => by
  obtain ⟨w1, w2⟩ := w x hx
  refine ⟨w1, ?_⟩
  rcases w2 with q | ⟨C, E, q1, q2⟩
  · exact (hF x q).1
  · exact Safe.exa hal E q1 q2
theorem Sd.afterN {A : p.tables.exec = Jvm.exec ∧ meth.locks = false ∧ EW Z a0 EL ∧ s.heap = h0 ∧ Old Z n0 h0 ∧ ∀ x ∈ ws0, n0 ≤ x} (hv : wd = false → vm0 = s.vm) (hS : s.Since vm0 k0) (hk : k0 ≤ h.size) (hZ : Z.Warmed39 vm0) (hown : vm0.findClass own = some m.cls) (O : Old Z n0 h) (N : Fr n0 locs) (K0 : Keep h0 h ws0) (C0 : CHr Z EL s.vm s.heap vm0 h) (hF : ∀ x ∈ F, Safe Z EL vm0 h x ∧ x < h.size) (hws : Wrs Z n0 h0 ws0 h F ws)
    {B : Pt} (X : Stand p l e R (s.setVm vm0) m args below meth c B.U B.locs B.cells B.slots) {L : List Loc} (K : Keep h B.U.heap ws) (NL : Fr n0 L) (l1 : B.locs = locs ++ L) (l2 : B.cells = cells + rc) (l3 : B.slots = slots + rs) : Sd wd EL a0 p l e R s m args below meth c Z own n0 h0 ws0 B.U B.U.heap F (locs ++ L) (cells + rc) (slots + rs) := by
  rw [l1, l2, l3] at X
  exact Sd.close A hv X rfl hS hk hZ hown O (Fr.app N NL) K0 C0 hF K (hws.safe hZ.alike hF) fun x hx => Or.inl hx
theorem Sd.scall (S : Sd wd EL a0 p l e R s m args below meth c Z own n0 h0 ws0 T h F locs cells slots) {index : Nat} (pc' : Nat) (hd : decode c.code pc = .ok (.invokestatic index, 3)) (hml : Ls.size = c.maxLocals) (w1 : (Jvm.Cond.methodLink own index y).before a0 Z = true) (w2 : (Jvm.Cond.static y).before a0 Z = true) (w3 : (Jvm.Cond.initialized y.cls).before a0 Z = true) (w4 : (Jvm.Cond.code y bytes maxL ret).before a0 Z = true) (hy : y.cls ≠ "java/lang/invoke/MethodHandle" ∧ y.cls ≠ "java/lang/invoke/VarHandle")
    (argsL rest : List Value) (K : Pay l R p e below args Z s n0 y 3 W argsL.toArray h ws rc rs Q) (hlen : ∀ sig, parseMethodDescriptor y.desc = some sig → argsL.length = sig.parameters.length) (hst : st = argsL.reverse ++ rest) (hW : (rest.map fun v => v.category).sum ≤ W) (hc : cells + rc ≤ R.cells) (hs : slots + rs ≤ R.slots) (hws : Wrs Z n0 h0 ws0 h F ws)
    (g : ∀ (v : Option Value) (T' : State) (h' : Heap) (L : List Loc), Sd wd EL a0 p l e R s m args below meth c Z own n0 h0 ws0 T' h' F (locs ++ L) (cells + rc) (slots + rs) → Q v h' → Keep h h' ws → Go p e below P T' (mkF m pc' Ls (v.toList ++ rest))) (hp : pc + 3 = pc' := by rfl) : Go p e below P T (mkF m pc Ls st) := by
  subst hp hst
  obtain ⟨A, vm0, k0, hv, X, eT, hS, hk, hZ, hown, O, N, K0, C0, hF⟩ := S
  obtain ⟨v, vm₁, B, -, X', ⟨L, ⟨q, KK, NL⟩, l1, l2, l3⟩, st'⟩ := Jvm.LawKit.callS X A.1 hown (mvT (s := s.setVm vm0) hZ w1) (mvT (s := s.setVm vm0) hZ w2) (mvT (s := s.setVm vm0) hZ w3) (mvT (s := s.setVm vm0) hZ w4) hy (K (s.setVm vm0) hZ hS.1.alike) (g := mkF m pc Ls (argsL.reverse ++ rest)) rfl hml (argsL := argsL) (rest := rest) hlen rfl (by show 2 * 0 + _ ≤ _; omega) hd (fun _ _ => ⟨rfl, eT, hc, hs⟩)
  exact Go.by st' (g v B.U B.U.heap L (Sd.afterN (A := A) hv hS hk hZ hown O N K0 C0 hF hws X' KK NL l1 l2 l3) q KK)
theorem Sd.icall (S : Sd wd EL a0 p l e R s m args below meth c Z own n0 h0 ws0 T h F locs cells slots) {index : Nat} {a : Addr} (pc' : Nat) (hd : decode c.code pc = .ok (.invokespecial index, 3)) (hml : Ls.size = c.maxLocals) (hy1 : y.name = "<init>") (w1 : (Jvm.Cond.methodLink own index y).before a0 Z = true) (w2 : (Jvm.Cond.instanceMethod y).before a0 Z = true) (w4 : (Jvm.Cond.code y bytes maxL none).before a0 Z = true) (hy : y.cls ≠ "java/lang/invoke/MethodHandle" ∧ y.cls ≠ "java/lang/invoke/VarHandle")
    (argsL rest : List Value) (K : Pay l R p e below args Z s n0 y 3 W (.ref a :: argsL).toArray h ws rc rs Q) (hlen : ∀ sig, parseMethodDescriptor y.desc = some sig → argsL.length = sig.parameters.length) (hst : st = argsL.reverse ++ .ref a :: rest) (hW : (rest.map fun v => v.category).sum ≤ W) (hc : cells + rc ≤ R.cells) (hs : slots + rs ≤ R.slots) (hws : Wrs Z n0 h0 ws0 h F ws)
    (g : ∀ (v : Option Value) (T' : State) (h' : Heap) (L : List Loc), Sd wd EL a0 p l e R s m args below meth c Z own n0 h0 ws0 T' h' F (locs ++ L) (cells + rc) (slots + rs) → Q v h' → Keep h h' ws → Go p e below P T' (mkF m pc' Ls (v.toList ++ rest))) (hp : pc + 3 = pc' := by rfl) : Go p e below P T (mkF m pc Ls st) := by
  subst hp hst
  obtain ⟨A, vm0, k0, hv, X, eT, hS, hk, hZ, hown, O, N, K0, C0, hF⟩ := S
  obtain ⟨v, vm₁, B, -, X', ⟨L, ⟨q, KK, NL⟩, l1, l2, l3⟩, st'⟩ := X.specialBack A.1 hy1 hown (mvT (s := s.setVm vm0) hZ w1) (mvT (s := s.setVm vm0) hZ w2) (mvT (s := s.setVm vm0) hZ w4) hy (K (s.setVm vm0) hZ hS.1.alike) (g := mkF m pc Ls (argsL.reverse ++ .ref a :: rest)) rfl hml (Steps.refl _) (a := a) (argsL := argsL) (rest := rest) hlen rfl (by show 2 * 0 + _ ≤ _; omega) hd (fun _ _ => ⟨rfl, eT, hc, hs⟩)
  exact Go.by (fun _ z => st'.trans z) (g v B.U B.U.heap L (Sd.afterN (A := A) hv hS hk hZ hown O N K0 C0 hF hws X' KK NL l1 l2 l3) q KK)
theorem Sd.vcall (S : Sd wd EL a0 p l e R s m args below meth c Z own n0 h0 ws0 T h F locs cells slots) {index : Nat} {a : Addr} {x : MethodName} {C : String} (pc' : Nat) (hd : decode c.code pc = .ok (.invokevirtual index, 3)) (hml : Ls.size = c.maxLocals) (w1 : (Jvm.Cond.methodLink own index x).before a0 Z = true) (w2 : (Jvm.Cond.declares x).before a0 Z = true) (w3 : (Jvm.Cond.selects C x y).before a0 Z = true) (w4 : (Jvm.Cond.instanceMethod y).before a0 Z = true) (hnf : ∀ s' : State, Z.Warmed39 s'.vm → NotFace s' x) (hy : x.cls ≠ "java/lang/invoke/MethodHandle" ∧ x.cls ≠ "java/lang/invoke/VarHandle") (E : Exa Z h a C)
    (argsL rest : List Value) (K : Pay l R p e below args Z s n0 y 3 W (.ref a :: argsL).toArray h ws rc rs Q) (hlen : ∀ sig, parseMethodDescriptor x.desc = some sig → argsL.length = sig.parameters.length) (hst : st = argsL.reverse ++ .ref a :: rest) (hW : (rest.map fun v => v.category).sum ≤ W) (hc : cells + rc ≤ R.cells) (hs : slots + rs ≤ R.slots) (hws : Wrs Z n0 h0 ws0 h F ws)
    (g : ∀ (v : Option Value) (T' : State) (h' : Heap) (L : List Loc), Sd wd EL a0 p l e R s m args below meth c Z own n0 h0 ws0 T' h' F (locs ++ L) (cells + rc) (slots + rs) → Q v h' → Keep h h' ws → Go p e below P T' (mkF m pc' Ls (v.toList ++ rest))) (hp : pc + 3 = pc' := by rfl) : Go p e below P T (mkF m pc Ls st) := by
  subst hp hst
  obtain ⟨A, vm0, k0, hv, X, eT, hS, hk, hZ, hown, O, N, K0, C0, hF⟩ := S
  obtain ⟨cB, kB, q1, -, q3⟩ := isOf (s := s.setVm vm0) hZ eT E
  obtain ⟨v, vm₁, B, -, X', ⟨L, ⟨q, KK, NL⟩, l1, l2, l3⟩, st'⟩ := X.virtualBack A.1 hown (mvT (s := s.setVm vm0) hZ w1) (mvT (s := s.setVm vm0) hZ w2) (hnf (s.setVm vm0) hZ) (mvT (s := s.setVm vm0) hZ w3) (mvT (s := s.setVm vm0) hZ w4) hy (K (s.setVm vm0) hZ hS.1.alike) q1 q3 (g := mkF m pc Ls (argsL.reverse ++ .ref a :: rest)) rfl hml (Steps.refl _) (argsL := argsL) (rest := rest) hlen rfl (by show 2 * 0 + _ ≤ _; omega) hd (fun _ _ => ⟨rfl, eT, hc, hs⟩)
  exact Go.by (fun _ z => st'.trans z) (g v B.U B.U.heap L (Sd.afterN (A := A) hv hS hk hZ hown O N K0 C0 hF hws X' KK NL l1 l2 l3) q KK)
theorem nfSel {x : MethodName} {C : String} (w3 : (Jvm.Cond.selects C x x).before a0 Z = true) : ∀ s' : State, Z.Warmed39 s'.vm → NotFace s' x := fun s' hZ => notFace_of_selects (args := #[]) (mvT (s := s') hZ w3)
/-! ### a callee that may intern -/
theorem Sd.afterS {A : p.tables.exec = Jvm.exec ∧ meth.locks = false ∧ EW Z a0 EL ∧ s.heap = h0 ∧ Old Z n0 h0 ∧ ∀ x ∈ ws0, n0 ≤ x} (eT : T.heap = h) (hS : s.Since vm0 k0) (hk : k0 ≤ h.size) (hZ : Z.Warmed39 vm0) (hown : vm0.findClass own = some m.cls) (O : Old Z n0 h) (N : Fr n0 locs) (K0 : Keep h0 h ws0) (C0 : CHr Z EL s.vm s.heap vm0 h) (hF : ∀ x ∈ F, Safe Z EL vm0 h x ∧ x < h.size) (hws : Wrs Z n0 h0 ws0 h F ws)
    {B : Pt} (X : Stand p l e R ((s.setVm vm0).setVm B.U.vm) m args below meth c B.U B.locs B.cells B.slots) (h2 : (s.setVm vm0).Since B.U.vm B.U.heap.size) (gr : T.heap.size ≤ B.U.heap.size) {L : List Loc} (K : Keep h B.U.heap ws) (NL : Fr n0 L) (l1 : B.locs = locs ++ L) (l2 : B.cells = cells + rc) (l3 : B.slots = slots + rs) (C1 : CHr Z EL vm0 h B.U.vm B.U.heap) :
    Sd true EL a0 p l e R s m args below meth c Z own n0 h0 ws0 B.U B.U.heap F (locs ++ L) (cells + rc) (slots + rs) := by
  rw [l1, l2, l3] at X
  obtain ⟨X', hS', hZ', hown'⟩ := rebS hS (by rw [eT]; exact hk) X h2 gr hZ hown
  exact ⟨A, B.U.vm, _, nofun, X', rfl, hS', Nat.le_refl _, hZ', hown', O.keep K fun x hx => (hws x hx).1.le (own_ole A.2.2.2.2.1) A.2.2.2.2.2, Fr.app N NL, K0.trans K fun x hx => (hws x hx).1, C0.trans C1, fun x hx => ⟨C1.safe (hF x hx).2 (hF x hx).1, Nat.lt_of_lt_of_le (hF x hx).2 K.1⟩⟩
theorem Sd.scallS (S : Sd true EL a0 p l e R s m args below meth c Z own n0 h0 ws0 T h F locs cells slots) {index : Nat} (pc' : Nat) (hd : decode c.code pc = .ok (.invokestatic index, 3)) (hml : Ls.size = c.maxLocals) (w1 : (Jvm.Cond.methodLink own index y).before a0 Z = true) (w2 : (Jvm.Cond.static y).before a0 Z = true) (w3 : (Jvm.Cond.initialized y.cls).before a0 Z = true) (w4 : (Jvm.Cond.code y bytes maxL ret).before a0 Z = true) (hy : y.cls ≠ "java/lang/invoke/MethodHandle" ∧ y.cls ≠ "java/lang/invoke/VarHandle")
    (argsL rest : List Value) (K : PayS EL a0 l R p e below args Z n0 y 3 W argsL.toArray h ws F0 rc rs Q) (hlen : ∀ sig, parseMethodDescriptor y.desc = some sig → argsL.length = sig.parameters.length) (hst : st = argsL.reverse ++ rest) (hW : (rest.map fun v => v.category).sum ≤ W) (hc : cells + rc ≤ R.cells) (hs : slots + rs ≤ R.slots) (hws : Wrs Z n0 h0 ws0 h F ws) (hF0 : ∀ x ∈ F0, x ∈ F)
    (g : ∀ (v : Option Value) (T' : State) (h' : Heap) (L : List Loc), Sd true EL a0 p l e R s m args below meth c Z own n0 h0 ws0 T' h' F (locs ++ L) (cells + rc) (slots + rs) → Q v h' → Keep h h' ws → Go p e below P T' (mkF m pc' Ls (v.toList ++ rest))) (hp : pc + 3 = pc' := by rfl) : Go p e below P T (mkF m pc Ls st) := by
  subst hp hst
  obtain ⟨A, vm0, k0, hv, X, eT, hS, hk, hZ, hown, O, N, K0, C0, hF⟩ := S
  obtain ⟨v, vm₁, B, -, X', h2, gr, ⟨L, ⟨q, KK, NL⟩, l1, l2, l3, C1⟩, st'⟩ := callSS X A.1 hown (mvT (s := s.setVm vm0) hZ w1) (mvT (s := s.setVm vm0) hZ w2) (mvT (s := s.setVm vm0) hZ w3) (mvT (s := s.setVm vm0) hZ w4) hy (K s vm0 hZ A.2.2.1 C0.1 fun x hx => hF x (hF0 x hx)) (g := mkF m pc Ls (argsL.reverse ++ rest)) rfl hml (argsL := argsL) (rest := rest) hlen rfl (by show 2 * 0 + _ ≤ _; omega) hd (fun _ _ => ⟨rfl, eT, hc, hs⟩)
  exact Go.by (fun _ z => st'.trans z) (g v B.U B.U.heap L (Sd.afterS (A := A) eT hS hk hZ hown O N K0 C0 hF hws X' h2 gr KK NL l1 l2 l3 C1) q KK)
theorem Sd.icallS (S : Sd true EL a0 p l e R s m args below meth c Z own n0 h0 ws0 T h F locs cells slots) {index : Nat} {a : Addr} (pc' : Nat) (hd : decode c.code pc = .ok (.invokespecial index, 3)) (hml : Ls.size = c.maxLocals) (hy1 : y.name = "<init>") (w1 : (Jvm.Cond.methodLink own index y).before a0 Z = true) (w2 : (Jvm.Cond.instanceMethod y).before a0 Z = true) (w4 : (Jvm.Cond.code y bytes maxL none).before a0 Z = true) (hy : y.cls ≠ "java/lang/invoke/MethodHandle" ∧ y.cls ≠ "java/lang/invoke/VarHandle")
    (argsL rest : List Value) (K : PayS EL a0 l R p e below args Z n0 y 3 W (.ref a :: argsL).toArray h ws F0 rc rs Q) (hlen : ∀ sig, parseMethodDescriptor y.desc = some sig → argsL.length = sig.parameters.length) (hst : st = argsL.reverse ++ .ref a :: rest) (hW : (rest.map fun v => v.category).sum ≤ W) (hc : cells + rc ≤ R.cells) (hs : slots + rs ≤ R.slots) (hws : Wrs Z n0 h0 ws0 h F ws) (hF0 : ∀ x ∈ F0, x ∈ F)
    (g : ∀ (v : Option Value) (T' : State) (h' : Heap) (L : List Loc), Sd true EL a0 p l e R s m args below meth c Z own n0 h0 ws0 T' h' F (locs ++ L) (cells + rc) (slots + rs) → Q v h' → Keep h h' ws → Go p e below P T' (mkF m pc' Ls (v.toList ++ rest))) (hp : pc + 3 = pc' := by rfl) : Go p e below P T (mkF m pc Ls st) := by
  subst hp hst
  obtain ⟨A, vm0, k0, hv, X, eT, hS, hk, hZ, hown, O, N, K0, C0, hF⟩ := S
  obtain ⟨v, vm₁, B, -, X', h2, gr, ⟨L, ⟨q, KK, NL⟩, l1, l2, l3, C1⟩, st'⟩ := X.specialBackS A.1 hy1 hown (mvT (s := s.setVm vm0) hZ w1) (mvT (s := s.setVm vm0) hZ w2) (mvT (s := s.setVm vm0) hZ w4) hy (K s vm0 hZ A.2.2.1 C0.1 fun x hx => hF x (hF0 x hx)) (g := mkF m pc Ls (argsL.reverse ++ .ref a :: rest)) rfl hml (Steps.refl _) (a := a) (argsL := argsL) (rest := rest) hlen rfl (by show 2 * 0 + _ ≤ _; omega) hd (fun _ _ => ⟨rfl, eT, hc, hs⟩)
  exact Go.by (fun _ z => st'.trans z) (g v B.U B.U.heap L (Sd.afterS (A := A) eT hS hk hZ hown O N K0 C0 hF hws X' h2 gr KK NL l1 l2 l3 C1) q KK)
theorem Sd.vcallS (S : Sd true EL a0 p l e R s m args below meth c Z own n0 h0 ws0 T h F locs cells slots) {index : Nat} {a : Addr} {x : MethodName} {C : String} (pc' : Nat) (hd : decode c.code pc = .ok (.invokevirtual index, 3)) (hml : Ls.size = c.maxLocals) (w1 : (Jvm.Cond.methodLink own index x).before a0 Z = true) (w2 : (Jvm.Cond.declares x).before a0 Z = true) (w3 : (Jvm.Cond.selects C x y).before a0 Z = true) (w4 : (Jvm.Cond.instanceMethod y).before a0 Z = true) (hnf : ∀ s' : State, Z.Warmed39 s'.vm → NotFace s' x) (hy : x.cls ≠ "java/lang/invoke/MethodHandle" ∧ x.cls ≠ "java/lang/invoke/VarHandle") (E : Exa Z h a C)
    (argsL rest : List Value) (K : PayS EL a0 l R p e below args Z n0 y 3 W (.ref a :: argsL).toArray h ws F0 rc rs Q) (hlen : ∀ sig, parseMethodDescriptor x.desc = some sig → argsL.length = sig.parameters.length) (hst : st = argsL.reverse ++ .ref a :: rest) (hW : (rest.map fun v => v.category).sum ≤ W) (hc : cells + rc ≤ R.cells) (hs : slots + rs ≤ R.slots) (hws : Wrs Z n0 h0 ws0 h F ws) (hF0 : ∀ x ∈ F0, x ∈ F)
    (g : ∀ (v : Option Value) (T' : State) (h' : Heap) (L : List Loc), Sd true EL a0 p l e R s m args below meth c Z own n0 h0 ws0 T' h' F (locs ++ L) (cells + rc) (slots + rs) → Q v h' → Keep h h' ws → Go p e below P T' (mkF m pc' Ls (v.toList ++ rest))) (hp : pc + 3 = pc' := by rfl) : Go p e below P T (mkF m pc Ls st) := by
  subst hp hst
  obtain ⟨A, vm0, k0, hv, X, eT, hS, hk, hZ, hown, O, N, K0, C0, hF⟩ := S
  obtain ⟨cB, kB, q1, -, q3⟩ := isOf (s := s.setVm vm0) hZ eT E
  obtain ⟨v, vm₁, B, -, X', h2, gr, ⟨L, ⟨q, KK, NL⟩, l1, l2, l3, C1⟩, st'⟩ := X.virtualBackS A.1 hown (mvT (s := s.setVm vm0) hZ w1) (mvT (s := s.setVm vm0) hZ w2) (hnf (s.setVm vm0) hZ) (mvT (s := s.setVm vm0) hZ w3) (mvT (s := s.setVm vm0) hZ w4) hy (K s vm0 hZ A.2.2.1 C0.1 fun x hx => hF x (hF0 x hx)) q1 q3 (g := mkF m pc Ls (argsL.reverse ++ .ref a :: rest)) rfl hml (Steps.refl _) (argsL := argsL) (rest := rest) hlen rfl (by show 2 * 0 + _ ≤ _; omega) hd (fun _ _ => ⟨rfl, eT, hc, hs⟩)
  exact Go.by (fun _ z => st'.trans z) (g v B.U B.U.heap L (Sd.afterS (A := A) eT hS hk hZ hown O N K0 C0 hF hws X' h2 gr KK NL l1 l2 l3 C1) q KK)
end OwnKit
end Jvm.Pilot.@@N@@
namespace Jvm.Pilot.@@N@@
open Jvm Jvm.ClassFile Sem Op Lib Jvm.Free Jvm.Stand Jvm.LawKit Jvm.RoadKit Bundle Jvm.Pilot.@@N@@.Jvm.D
section OwnMore
variable {wd : Bool} {EL : List (String × Nat)} {a0 : Array Value} {p : Program} {l : Launch} {e : Env} {R : Room} {s : State} {m : MethodId} {args : Array Value} {below : List Frame} {meth : Method} {c : Code} {Z : State} {own : String} {n0 : Nat} {h0 : Heap} {ws0 : List Addr}
  {T T' : State} {h h' : Heap} {F F' : List Addr} {locs locs' : List Loc} {cells slots cells' slots' : Nat} {P : Outcome → State → Prop} {pc pc' : Nat} {Ls : Array Slot} {st rest : List Value}
theorem Sd.pop2J (S : Sd wd EL a0 p l e R s m args below meth c Z own n0 h0 ws0 T h F locs cells slots) {x : Int64} (pc' : Nat) (hd : decode c.code pc = .ok (.pop2, 1)) (g : Go p e below P T (mkF m pc' Ls st)) (hp : pc + 1 = pc' := by rfl) : Go p e below P T (mkF m pc Ls (.long x :: st)) := by
  subst hp
  refine Go.by (fun t q => ?_) g
  have H := S.at
  have hx := S.hx
  show Steps p.tables e below (T.setTop { method := m, pc := pc, locals := Ls, stack := .long x :: st, locked := none }) t
  jvm_step H [H.top, hx, hd, Value.category]
  exact q
theorem Sd.aaload (S : Sd wd EL a0 p l e R s m args below meth c Z own n0 h0 ws0 T h F locs cells slots) {a : Addr} {cl : Cell} {ty : FieldType} {v : Value} {j : Int32} (pc' : Nat) (hd : decode c.code pc = .ok (.aaload, 1)) (A : Arr Z h a cl ty) (hty : ty.isReference = true) (hin : ¬ (j < 0 ∨ cl.slots.size ≤ j.toNatClampNeg)) (hv' : cl.slots[j.toNatClampNeg]? = some v) (g : Go p e below P T (mkF m pc' Ls (v :: st))) (hp : pc + 1 = pc' := by rfl) : Go p e below P T (mkF m pc Ls (.int j :: .ref a :: st)) := by
  subst hp
  obtain ⟨A', vm0, k0, hv, X, eT, hS, hk, hZ, r⟩ := S
  exact Go.by (fun t z => X.aaload A'.1 (by rw [eT]; exact A.1) (State.isArrayOf_alike hZ.alike A.2.1) hty A.2.2 hin hv' (g := mkF m pc Ls (.int j :: .ref a :: st)) rfl rfl hd t z) g
theorem Sd.bastore (S : Sd wd EL a0 p l e R s m args below meth c Z own n0 h0 ws0 T h F locs cells slots) {a : Addr} {k : ClassId} {N : Int32} {vs : List Value} {dv : Value} {j x : Int32} (pc' i : Nat) (hd : decode c.code pc = .ok (.bastore, 1)) (V : Arv Z h a k .byte N vs dv) (hj : ¬ j < 0 ∧ j < N) (hi : j.toNatClampNeg = i) (hlt : i < vs.length) (wo : Wok n0 h0 ws0 a) (so : a ∈ F)
    (g : ∀ (T' : State) (h' : Heap) (locs' : List Loc), Sd wd EL a0 p l e R s m args below meth c Z own n0 h0 ws0 T' h' F locs' cells slots → Wr h h' a j.toNatClampNeg (.int (nar .byte x)) → Arv Z h' a k .byte N (vs.set i (.int (nar .byte x))) dv → Go p e below P T' (mkF m pc' Ls st)) (hp : pc + 1 = pc' := by rfl) : Go p e below P T (mkF m pc Ls (.int x :: .int j :: .ref a :: st)) := by
  subst hp
  have ge : n0 ≤ a := S.ge wo
  obtain ⟨A, vm0, k0, hv, X, eT, hS, hk, hZ, hown, O0, N0, K0, C0, hF⟩ := S
  obtain ⟨cl, Ar, q, S', M, H, G⟩ := V
  obtain ⟨T', h', X', e', W', st'⟩ := stB X A.1 hZ eT Ar (x := x) (inb_of S' hj) (g := mkF m pc Ls (.int x :: .int j :: .ref a :: st)) rfl rfl hd
  exact Go.by st' (g T' h' _ (Sd.close A hv X' e' hS hk hZ hown O0 (Fr.snoc X' N0 ge) K0 C0 hF (Keep.of_wr W') (fun y hy => by rw [List.mem_singleton.mp hy]; exact ⟨wo, (hF a so).1⟩) fun y hy => Or.inl hy) W' (Arv.set Ar q S' M H G (fits_nar_byte _) W' i hi hlt))
variable {y : MethodName} {as' : Array Value} {Q : Option Value → Heap → Prop} {W rc rs : Nat} {ws : List Addr}
/-- 'invokevirtual' of a method that a superclass of the named class declares -/
theorem Sd.vcallU (S : Sd wd EL a0 p l e R s m args below meth c Z own n0 h0 ws0 T h F locs cells slots) {index : Nat} {a : Addr} {x : MethodName} {C owner : String} (pc' : Nat) (hd : decode c.code pc = .ok (.invokevirtual index, 3)) (hml : Ls.size = c.maxLocals) (w1 : (Jvm.Cond.methodLink own index x).before a0 Z = true) (w2 : (Jvm.Cond.sameMethod x.cls owner x.name x.desc).before a0 Z = true) (w2' : (Jvm.Cond.declares ⟨owner, x.name, x.desc⟩).before a0 Z = true) (hy : owner ≠ "java/lang/invoke/MethodHandle" ∧ owner ≠ "java/lang/invoke/VarHandle") (w3 : (Jvm.Cond.selects C x y).before a0 Z = true) (w4 : (Jvm.Cond.instanceMethod y).before a0 Z = true) (E : Exa Z h a C)
    (argsL rest : List Value) (K : Pay l R p e below args Z s n0 y 3 W (.ref a :: argsL).toArray h ws rc rs Q) (hlen : ∀ sig, parseMethodDescriptor x.desc = some sig → argsL.length = sig.parameters.length) (hst : st = argsL.reverse ++ .ref a :: rest) (hW : (rest.map fun v => v.category).sum ≤ W) (hc : cells + rc ≤ R.cells) (hs : slots + rs ≤ R.slots) (hws : Wrs Z n0 h0 ws0 h F ws)
    (g : ∀ (v : Option Value) (T' : State) (h' : Heap) (L : List Loc), Sd wd EL a0 p l e R s m args below meth c Z own n0 h0 ws0 T' h' F (locs ++ L) (cells + rc) (slots + rs) → Q v h' → Keep h h' ws → Go p e below P T' (mkF m pc' Ls (v.toList ++ rest))) (hp : pc + 3 = pc' := by rfl) : Go p e below P T (mkF m pc Ls st) := by
  subst hp hst
  obtain ⟨A, vm0, k0, hv, X, eT, hS, hk, hZ, hown, O, N, K0, C0, hF⟩ := S
  obtain ⟨cB, kB, q1, -, q3⟩ := isOf (s := s.setVm vm0) hZ eT E
  obtain ⟨v, vm₁, B, -, X', ⟨L, ⟨q, KK, NL⟩, l1, l2, l3⟩, st'⟩ := X.virtualBackUp A.1 hown (mvT (s := s.setVm vm0) hZ w1) (mvT (s := s.setVm vm0) hZ w2) (mvT (s := s.setVm vm0) hZ w2') hy (mvT (s := s.setVm vm0) hZ w3) (mvT (s := s.setVm vm0) hZ w4) (K (s.setVm vm0) hZ hS.1.alike) q1 q3 (g := mkF m pc Ls (argsL.reverse ++ .ref a :: rest)) rfl hml (Steps.refl _) (argsL := argsL) (rest := rest) hlen rfl (by show 2 * 0 + _ ≤ _; omega) hd (fun _ _ => ⟨rfl, eT, hc, hs⟩)
  exact Go.by (fun _ z => st'.trans z) (g v B.U B.U.heap L (Sd.afterN (A := A) hv hS hk hZ hown O N K0 C0 hF hws X' KK NL l1 l2 l3) q KK)
/-- 'invokeinterface' -/
theorem Sd.fcall (S : Sd wd EL a0 p l e R s m args below meth c Z own n0 h0 ws0 T h F locs cells slots) {index count : Nat} {a : Addr} {x : MethodName} {C : String} (pc' : Nat) (hd : decode c.code pc = .ok (.invokeinterface index count, 5)) (hml : Ls.size = c.maxLocals) (w1 : (Jvm.Cond.methodLink own index x).before a0 Z = true) (w2 : (Jvm.Cond.declares x).before a0 Z = true) (w3 : (Jvm.Cond.interfaceMethod x.cls x.cls x.name x.desc).before a0 Z = true) (w4 : (Jvm.Cond.selects C x y).before a0 Z = true) (w5 : (Jvm.Cond.instanceMethod y).before a0 Z = true) (w6 : (Jvm.Cond.publicMethod y).before a0 Z = true) (w7 : (Jvm.Cond.unhidden C x.name x.desc).before a0 Z = true) (w8 : (Jvm.Cond.castable C x.cls).before a0 Z = true) (hy : x.cls ≠ "java/lang/invoke/MethodHandle" ∧ x.cls ≠ "java/lang/invoke/VarHandle") (E : Exa Z h a C)
    (argsL rest : List Value) (K : Pay l R p e below args Z s n0 y 5 W (.ref a :: argsL).toArray h ws rc rs Q) (hlen : ∀ sig, parseMethodDescriptor x.desc = some sig → argsL.length = sig.parameters.length) (hst : st = argsL.reverse ++ .ref a :: rest) (hW : (rest.map fun v => v.category).sum ≤ W) (hc : cells + rc ≤ R.cells) (hs : slots + rs ≤ R.slots) (hws : Wrs Z n0 h0 ws0 h F ws)
    (g : ∀ (v : Option Value) (T' : State) (h' : Heap) (L : List Loc), Sd wd EL a0 p l e R s m args below meth c Z own n0 h0 ws0 T' h' F (locs ++ L) (cells + rc) (slots + rs) → Q v h' → Keep h h' ws → Go p e below P T' (mkF m pc' Ls (v.toList ++ rest))) (hp : pc + 5 = pc' := by rfl) : Go p e below P T (mkF m pc Ls st) := by
  subst hp hst
  obtain ⟨A, vm0, k0, hv, X, eT, hS, hk, hZ, hown, O, N, K0, C0, hF⟩ := S
  obtain ⟨cB, kB, q1, q2, q3⟩ := isOf (s := s.setVm vm0) hZ eT E
  obtain ⟨v, vm₁, B, -, X', ⟨L, ⟨q, KK, NL⟩, l1, l2, l3⟩, st'⟩ := X.interfaceBack A.1 hown (mvT (s := s.setVm vm0) hZ w1) (mvT (s := s.setVm vm0) hZ w2) (mvT (s := s.setVm vm0) hZ w3 (show (x.cls == x.cls && x.cls != "java/lang/invoke/MethodHandle" && x.cls != "java/lang/invoke/VarHandle") = true by simp [hy.1, hy.2])) (mvT (s := s.setVm vm0) hZ w4) (mvT (s := s.setVm vm0) hZ w5) (mvT (s := s.setVm vm0) hZ w6) (mvT (s := s.setVm vm0) hZ w7) (mvT (s := s.setVm vm0) hZ w8) hy (K (s.setVm vm0) hZ hS.1.alike) q1 q2 q3 (g := mkF m pc Ls (argsL.reverse ++ .ref a :: rest)) rfl hml (Steps.refl _) (argsL := argsL) (rest := rest) hlen rfl (by show 2 * 0 + _ ≤ _; omega) hd (fun _ _ => ⟨rfl, eT, hc, hs⟩)
  exact Go.by (fun _ z => st'.trans z) (g v B.U B.U.heap L (Sd.afterN (A := A) hv hS hk hZ hown O N K0 C0 hF hws X' KK NL l1 l2 l3) q KK)
theorem Sd.instNull (S : Sd wd EL a0 p l e R s m args below meth c Z own n0 h0 ws0 T h F locs cells slots) {index : Nat} (pc' : Nat) (hd : decode c.code pc = .ok (.instanceof index, 3)) (g : Go p e below P T (mkF m pc' Ls (.int 0 :: st))) (hp : pc + 3 = pc' := by rfl) : Go p e below P T (mkF m pc Ls (.null :: st)) := by
  subst hp
  obtain ⟨A, vm0, k0, hv, X, r⟩ := S
  exact Go.by (fun t z => X.instanceofNull A.1 (g := mkF m pc Ls (.null :: st)) rfl rfl hd t z) g
/-- where no literal is kept track of, any place is safe -/
theorem Sd.addF (S : Sd wd [] a0 p l e R s m args below meth c Z own n0 h0 ws0 T h F locs cells slots) {x : Addr} (hx : x < h.size) : Sd wd [] a0 p l e R s m args below meth c Z own n0 h0 ws0 T h (x :: F) locs cells slots := by
  obtain ⟨A, vm0, k0, hv, X, eT, hS, hk, hZ, hown, O, N, K0, C0, hF⟩ := S
  exact ⟨A, vm0, k0, hv, X, eT, hS, hk, hZ, hown, O, N, K0, C0, fun y hy => by
    rcases List.mem_cons.mp hy with rfl | q
    · exact ⟨safe0, hx⟩
    · exact hF y q⟩
theorem Pay.weak {len : Nat} {Q' : Option Value → Heap → Prop} (P : Pay l R p e below args Z s n0 y len W as' h ws rc rs Q) (q : ∀ v h', Q v h' → Q' v h') : Pay l R p e below args Z s n0 y len W as' h ws rc rs Q' :=
  fun s' hZ hal => Back.mono (P s' hZ hal) (fun _ _ z => z) fun _ _ _ _ _ ⟨L, ⟨q1, q2⟩, r⟩ => ⟨L, ⟨q _ _ q1, q2⟩, r⟩
theorem Pay.mono {len rc' rs' : Nat} (P : Pay l R p e below args Z s n0 y len W as' h ws rc rs Q) (h1 : rc ≤ rc') (h2 : rs ≤ rs') : Pay l R p e below args Z s n0 y len W as' h ws rc' rs' Q := by
  intro s' hZ hal m meth c A g ig mk a X hg hsize hd hW hn hp
  obtain ⟨v, B, X', ⟨L, q, l1, l2, l3⟩, st⟩ := P s' hZ hal m meth c A g ig mk a X hg hsize hd hW hn ⟨hp.1, hp.2.1, Nat.le_trans (Nat.add_le_add_left h1 _) hp.2.2.1, Nat.le_trans (Nat.add_le_add_left h2 _) hp.2.2.2⟩
  refine ⟨v, ⟨B.U, B.locs, A.cells + rc', A.slots + rs'⟩, ?_, ⟨L, q, l1, rfl, rfl⟩, st⟩
  rw [l2, l3] at X'
  exact { X' with same := X'.same.mono (Nat.add_le_add_left h1 _) (Nat.add_le_add_left h2 _) }
theorem eqJ {t : Term} {z : Int64} (q : (Jvm.Cond.eq t (.long z)).value args Z none Z [] = some true) : t.eval args Z none [] Z = some (.long z) := by
  obtain ⟨x, y, e1, e2, k1, k2⟩ := cmp_v (Or.inl q)
  rw [long_at] at e2
  cases e2
  obtain ⟨w, rfl⟩ : ∃ w, x = .long w := k2
  have := gotT (eq_L e1 (long_at z)) q
  rw [e1, this]
theorem eqI {t : Term} {z : Int32} (q : (Jvm.Cond.eq t (.int z)).value args Z none Z [] = some true) : t.eval args Z none [] Z = some (.int z) := by
  obtain ⟨x, y, e1, e2, k1, k2⟩ := cmp_v (Or.inl q)
  rw [Term.int_eval] at e2
  cases e2
  obtain ⟨w, rfl⟩ : ∃ w, x = .int w := k2
  have := gotT (Cond.eq_ints e1 (Term.int_eval z)) q
  rw [e1, this]
/-- the object that a word names, and one field of it -/
theorem fldAt {t : Term} {C n d : String} {a : Addr} {v : Value} (ht : t.eval args Z none [] Z = some (.ref a)) (q : (Term.field t C n d).eval args Z none [] Z = some v) : Fld Z Z.heap a C n d v := Fld.start (by rw [← fld_at (C := C) (n := n) (dd := d) ht]; exact q)
theorem lenAt {t : Term} {a : Addr} {cl : Cell} {z : Int32} (ht : t.eval args Z none [] Z = some (.ref a)) (hc : Z.heap[a]? = some cl) (q : (Term.length t).eval args Z none [] Z = some (.int z)) : cl.slots.size < 2 ^ 31 ∧ cl.slots.size.toInt32 = z := by
  cases hA : Z.arrayAt? a with
  | none => simp [Term.eval, ht, hA] at q
  | some c2 =>
    have hc2 : c2 = cl := Option.some.inj ((State.arrayAt?_spec hA).1.symm.trans hc)
    subst hc2
    by_cases hl : c2.slots.size < 2 ^ 31
    · refine ⟨hl, ?_⟩
      simpa [Term.eval, ht, hA, hl] using q
    · simp [Term.eval, ht, hA, hl] at q
end OwnMore
end Jvm.Pilot.@@N@@
namespace Jvm.Pilot.@@N@@
open Jvm Jvm.ClassFile Sem Op Lib Jvm.Free Jvm.Stand Jvm.LawKit Jvm.RoadKit Bundle Jvm.Pilot.@@N@@.Jvm.D
section OwnIas
variable {wd : Bool} {EL : List (String × Nat)} {a0 : Array Value} {p : Program} {l : Launch} {e : Env} {R : Room} {s : State} {m : MethodId} {args : Array Value} {below : List Frame} {meth : Method} {c : Code} {Z : State} {own : String} {n0 : Nat} {h0 : Heap} {ws0 : List Addr}
  {T T' : State} {h h' : Heap} {F F' : List Addr} {locs locs' : List Loc} {cells slots cells' slots' : Nat} {P : Outcome → State → Prop} {pc pc' : Nat} {Ls : Array Slot} {st rest : List Value} {ws : List Addr}
theorem Sd.iastore (S : Sd wd EL a0 p l e R s m args below meth c Z own n0 h0 ws0 T h F locs cells slots) {a : Addr} {k : ClassId} {N : Int32} {vs : List Value} {dv : Value} {j x : Int32} (pc' i : Nat) (hd : decode c.code pc = .ok (.iastore, 1)) (V : Arv Z h a k .int N vs dv) (hj : ¬ j < 0 ∧ j < N) (hi : j.toNatClampNeg = i) (hlt : i < vs.length) (wo : Wok n0 h0 ws0 a)
    (g : ∀ (T' : State) (h' : Heap) (locs' : List Loc), Sd wd EL a0 p l e R s m args below meth c Z own n0 h0 ws0 T' h' F locs' cells slots → Wr h h' a j.toNatClampNeg (.int x) → Arv Z h' a k .int N (vs.set i (.int x)) dv → Go p e below P T' (mkF m pc' Ls st)) (hp : pc + 1 = pc' := by rfl) : Go p e below P T (mkF m pc Ls (.int x :: .int j :: .ref a :: st)) := by
  subst hp
  have ge : n0 ≤ a := S.ge wo
  obtain ⟨A, vm0, k0, hv, X, eT, hS, hk, hZ, hown, O0, N0, K0, C0, hF⟩ := S
  obtain ⟨cl, Ar, q, S', M, H, G⟩ := V
  obtain ⟨T', h', X', e', W', st'⟩ := stI X A.1 hZ eT Ar (x := x) (inb_of S' hj) (g := mkF m pc Ls (.int x :: .int j :: .ref a :: st)) rfl rfl hd
  exact Go.by st' (g T' h' _ (Sd.close A hv X' e' hS hk hZ hown O0 (Fr.snoc X' N0 ge) K0 C0 hF (Keep.of_wr W') (fun y hy => by rw [List.mem_singleton.mp hy]; exact ⟨wo, Safe.arr hZ.alike Ar (by decide)⟩) fun y hy => Or.inl hy) W' (Arv.set Ar q S' M H G rfl W' i hi hlt))
variable {y x : MethodName} {Q : Option Value → Heap → Prop} {W rc rs : Nat} {bytes : ByteArray} {maxL : Nat} {ret : Option FieldType}
/-- 'invokevirtual' of a private method; the word on another method of its class says that the class is no interface -/
theorem Sd.pcall (S : Sd wd EL a0 p l e R s m args below meth c Z own n0 h0 ws0 T h F locs cells slots) {index : Nat} {a : Addr} {C C' : String} (pc' : Nat) (hd : decode c.code pc = .ok (.invokevirtual index, 3)) (hml : Ls.size = c.maxLocals) (w1 : (Jvm.Cond.methodLink own index x).before a0 Z = true) (w2 : (Jvm.Cond.instanceMethod x).before a0 Z = true) (w3 : (Jvm.Cond.privateMethod x).before a0 Z = true) (wc : (Jvm.Cond.code x bytes maxL ret).before a0 Z = true) (w4 : (Jvm.Cond.selects C' y y).before a0 Z = true) (hcl : y.cls = x.cls) (hy : x.cls ≠ "java/lang/invoke/MethodHandle" ∧ x.cls ≠ "java/lang/invoke/VarHandle") (E : Exa Z h a C)
    (argsL rest : List Value) (K : Pay l R p e below args Z s n0 x 3 W (.ref a :: argsL).toArray h ws rc rs Q) (hlen : ∀ sig, parseMethodDescriptor x.desc = some sig → argsL.length = sig.parameters.length) (hst : st = argsL.reverse ++ .ref a :: rest) (hW : (rest.map fun v => v.category).sum ≤ W) (hc : cells + rc ≤ R.cells) (hs : slots + rs ≤ R.slots) (hws : Wrs Z n0 h0 ws0 h F ws)
    (g : ∀ (v : Option Value) (T' : State) (h' : Heap) (L : List Loc), Sd wd EL a0 p l e R s m args below meth c Z own n0 h0 ws0 T' h' F (locs ++ L) (cells + rc) (slots + rs) → Q v h' → Keep h h' ws → Go p e below P T' (mkF m pc' Ls (v.toList ++ rest))) (hp : pc + 3 = pc' := by rfl) : Go p e below P T (mkF m pc Ls st) := by
  subst hp hst
  obtain ⟨A, vm0, k0, hv, X, eT, hS, hk, hZ, hown, O, N, K0, C0, hF⟩ := S
  obtain ⟨_, _, m2, -, -, q3, -, kP, hkP, hni⟩ := Cond.selects_spec (mvT (s := s.setVm vm0) (args := args) hZ w4)
  have hP : (s.setVm vm0).PrivateAt x := Cond.privateMethod_at (mvP (s := s.setVm vm0) (args := args) hZ w3)
  have hsf := Jvm.Stand.selects_self_of_private (args := args) (by rw [← hcl]; exact findClass_of_methodNamed q3) hkP hni hP (mvT (s := s.setVm vm0) hZ w2) hy
  obtain ⟨cell, hc1, hc2⟩ := E.cell
  obtain ⟨v, vm₁, B, -, X', ⟨L, ⟨q, KK, NL⟩, l1, l2, l3⟩, st'⟩ := X.privateBack A.1 hown (mvT (s := s.setVm vm0) hZ w1) (mvT (s := s.setVm vm0) hZ w2) hsf hP (mvT (s := s.setVm vm0) hZ wc) hy (K (s.setVm vm0) hZ hS.1.alike) (g := mkF m pc Ls (argsL.reverse ++ .ref a :: rest)) rfl hml (Steps.refl _) (by rw [eT]; exact hc1) hc2 (argsL := argsL) (rest := rest) hlen rfl (by show 2 * 0 + _ ≤ _; omega) hd (fun _ _ => ⟨rfl, eT, hc, hs⟩)
  exact Go.by (fun _ z => st'.trans z) (g v B.U B.U.heap L (Sd.afterN (A := A) hv hS hk hZ hown O N K0 C0 hF hws X' KK NL l1 l2 l3) q KK)
end OwnIas
end Jvm.Pilot.@@N@@
namespace Jvm.Pilot.@@N@@
open Jvm Jvm.ClassFile Sem Op Lib Jvm.Free Jvm.Stand Jvm.LawKit Jvm.RoadKit Bundle Jvm.Pilot.@@N@@.Jvm.D
section OwnStr
variable {a0 : Array Value} {p : Program} {l : Launch} {e : Env} {R : Room} {args : Array Value} {below : List Frame} {Z s : State} {n0 : Nat} {h h' : Heap} {ws : List Addr} {x t a y t' : Addr} {cs ds : List Int32} {sl W : Nat} {v : Value}
/-- the object x is a String of these chars, all below 256; t: its byte[] -/
def Str (Z : State) (h : Heap) (x t : Addr) (cs : List Int32) : Prop :=
  (∃ kb, Exa Z h x "java/lang/String" ∧ Fld Z h x "java/lang/String" "value" "[B" (.ref t) ∧ Fld Z h x "java/lang/String" "coder" "B" (.int 0) ∧ Arv Z h t kb .byte (Int32.ofNat cs.length) ((cs.map fun c => c.toInt8.toInt32).map Value.int) (.int 0)) ∧ (∀ c ∈ cs, ¬ c < 0 ∧ ¬ (255 : Int32) < c) ∧ cs.length ≤ 4000
theorem Str.exa (F : Str Z h x t cs) : Exa Z h x "java/lang/String" := by obtain ⟨⟨kb, E, -⟩, -⟩ := F; exact E
theorem Str.lt (F : Str Z h x t cs) : x < h.size := F.exa.lt
theorem Str.lt' (F : Str Z h x t cs) : t < h.size := by obtain ⟨⟨kb, -, -, -, A⟩, -⟩ := F; exact A.lt
theorem Str.ext (F : Str Z h x t cs) (E : Ext h h') : Str Z h' x t cs := by obtain ⟨⟨kb, a, b, c, d⟩, r⟩ := F; exact ⟨⟨kb, a.ext E, b.ext E, c.ext E, d.ext E⟩, r⟩
theorem Str.keep (F : Str Z h x t cs) (K : Keep h h' ws) (q : x ∉ ws) (r : t ∉ ws) : Str Z h' x t cs := by obtain ⟨⟨kb, a, b, c, d⟩, z⟩ := F; exact ⟨⟨kb, a.keep K, b.keep K q, c.keep K q, d.keep K r⟩, z⟩
theorem Str.wr (F : Str Z h x t cs) (W : Wr h h' a sl v) (q : x ≠ a) (r : t ≠ a) : Str Z h' x t cs := by obtain ⟨⟨kb, a, b, c, d⟩, z⟩ := F; exact ⟨⟨kb, a.wr W, b.other W (Or.inl q), c.other W (Or.inl q), d.other W r⟩, z⟩
/-- COMPACT_STRINGS is set -/
def Com (Z : State) : Prop := ∃ z : Int32, Sta Z Z.heap "java/lang/String" "COMPACT_STRINGS" "Z" (.int z) ∧ ¬ z = 0
def Sfo (Z : State) : Prop := ∃ v : Value, Sta Z Z.heap "jdk/internal/util/Preconditions" "SIOOBE_FORMATTER" "Ljava/util/function/BiFunction;" v ∧ v.isRef = true
theorem up16 (h : ∀ c ∈ cs, ¬ c < 0 ∧ ¬ (255 : Int32) < c) : ∀ c ∈ cs, ¬ c < 0 ∧ ¬ (65535 : Int32) < c := fun c hc => ⟨(h c hc).1, fun q => (h c hc).2 (by rw [Int32.lt_iff_toInt_lt] at q ⊢; have e1 : (65535 : Int32).toInt = 65535 := rfl; have e2 : (255 : Int32).toInt = 255 := rfl; omega)⟩
theorem payNew (hw : ∀ d ∈ tables_1, d.before a0 Z = true) (wi : (Jvm.Cond.instantiable "java/lang/String" 4).before a0 Z = true) (cm : Com Z) (O : Old Z n0 h) {k : ClassId} {b : Addr} {d v0 c0 : Value} {N : Int32} {n : Nat} (hx0 : n0 ≤ x) (E : Exa Z h x "java/lang/String") (V : Fld Z h x "java/lang/String" "value" "[B" v0) (C : Fld Z h x "java/lang/String" "coder" "B" c0) (K : Arv Z h b k .char N (cs.map Value.int) d)
    (hn : cs.length = n) (hN : N = Int32.ofNat n) (l0 : 0 < n) (l2 : n ≤ 4000) (hp : ∀ c ∈ cs, ¬ c < 0 ∧ ¬ (255 : Int32) < c) (hfr : 4 ≤ R.frames) (hlo : W + 65 ≤ R.locals) :
    Pay l R p e below args Z s n0 ⟨"java/lang/String", "<init>", "([C)V"⟩ 3 W #[.ref x, .ref b] h [x] 1 n (fun v h' => v = none ∧ ∃ t, h.size ≤ t ∧ Str Z h' x t cs) := fun s' hZ _ => by
  obtain ⟨z, St, hz⟩ := cm
  refine Back.mono (StrChars.Road.backV hZ (fun d hd => hw d ((by decide +kernel : ∀ d ∈ StrChars.Road.words, d ∈ tables_1) d hd)) wi (n0 := n0) hx0 (by rw [← O.1]; exact O.2.1) E V C K (St.ext O.2) hz hn hN l0 l2 hp rfl hfr hlo) (fun P a q => q) (fun P a v B hp' hq => ?_)
  obtain ⟨L, ⟨q1, q2, q3, q4, q5, t, kb, q6, q7, q8, q9, q10⟩, hl, hc, hs⟩ := hq
  exact ⟨L, ⟨⟨q1, t, q7, ⟨⟨kb, q4, q9, q5, by rw [hn, ← hN]; exact q10⟩, hp, by omega⟩⟩, q3, q2⟩, hl, hc, hs⟩
theorem Str.of {kb : ClassId} {z : Int32} {vs : List Value} (E : Exa Z h x "java/lang/String") (C : Fld Z h x "java/lang/String" "coder" "B" (.int 0)) (V : Fld Z h x "java/lang/String" "value" "[B" (.ref t)) (A : Arv Z h t kb .byte z vs (.int 0)) (cs : List Int32) (hz : z = Int32.ofNat cs.length) (hvs : vs = (cs.map fun c => c.toInt8.toInt32).map Value.int) (hp : ∀ c ∈ cs, ¬ c < 0 ∧ ¬ (255 : Int32) < c) (hl : cs.length ≤ 4000) : Str Z h x t cs := by
  subst hz hvs
  exact ⟨⟨kb, E, V, C, A⟩, hp, hl⟩
end OwnStr
end Jvm.Pilot.@@N@@
namespace Jvm.Pilot.@@N@@
open Jvm Jvm.ClassFile Sem Op Lib Jvm.Free Jvm.Stand Jvm.LawKit Jvm.RoadKit Bundle Jvm.Pilot.@@N@@.Jvm.D
theorem Tw {a0 : Array Value} {Z : State} (hw : ∀ d ∈ tables_1, d.before a0 Z = true) (i : Nat) {d : Jvm.Cond} (h : tables_1[i]? = some d) : d.before a0 Z = true := hw d (List.mem_of_getElem? h)
theorem Nle {a b : Nat} (h : Nat.ble a b = true) : a ≤ b := Nat.le_of_ble_eq_true h
abbrev vi (x : Int32) : Slot := .val (.int x)
abbrev vr (a : Addr) : Slot := .val (.ref a)
abbrev uN : Slot := .unset
abbrev Cm : Type := Int32
theorem own_fit {z : Int32} {w : Int} (h : (z.toInt - w) % 4294967296 = 0) (a : -2147483648 ≤ w) (b : w < 2147483648) : z.toInt = w := by
  have := rng32 z; omega
theorem own_chr {cc : Int32} (a : 0 ≤ cc.toInt) (b : cc.toInt ≤ 255) : Chr cc := by
  have e0 : (0 : Int32).toInt = 0 := rfl
  have e1 : (255 : Int32).toInt = 255 := rfl
  refine ⟨fun q => ?_, fun q => ?_⟩
  · rw [Int32.lt_iff_toInt_lt, e0] at q; omega
  · rw [Int32.lt_iff_toInt_lt, e1] at q; omega
theorem Chr.int {cc : Int32} (h : Chr cc) : 0 ≤ cc.toInt ∧ cc.toInt ≤ 255 := by
  have e0 : (0 : Int32).toInt = 0 := rfl
  have e1 : (255 : Int32).toInt = 255 := rfl
  have h1 := h.1; have h2 := h.2
  rw [Int32.lt_iff_toInt_lt, e0] at h1
  rw [Int32.lt_iff_toInt_lt, e1] at h2
  omega
theorem own_ch2 (y : Int64) : Chr (nar .char ((y &&& (255 : Int64)).toInt32.toUInt32.toUInt16.toUInt32.toInt32)) := by
  rw [Int64.toInt32_and, show (255 : Int64).toInt32 = (255 : Int32) from by decide, Chr.nar (chr255 y.toInt32)]
  exact chr255 y.toInt32
theorem own_ch1 (y : Int64) : Chr (nar .char (((97 : Int32) + (y &&& (1 : Int64)).toInt32).toUInt32.toUInt16.toUInt32.toInt32)) := by
  rw [Int64.toInt32_and, show (1 : Int64).toInt32 = (1 : Int32) from by decide]
  have q := c_and y.toInt32 1 (by decide)
  have e1 : (1 : Int32).toInt = 1 := rfl
  have e97 : (97 : Int32).toInt = 97 := rfl
  rw [e1] at q
  have s := c_iadd 97 (y.toInt32 &&& 1)
  rw [e97] at s
  have s' := own_fit s (by omega) (by omega)
  have t := c_i2c (97 + (y.toInt32 &&& 1))
  rw [s'] at t
  have k : Chr ((97 + (y.toInt32 &&& 1)).toUInt32.toUInt16.toUInt32.toInt32) := own_chr (by omega) (by omega)
  rw [Chr.nar k]; exact k
theorem own_bin {x y : Int32} (hx : Chr x) (hy : Chr y) : decide (x.toInt8.toInt32 = y.toInt8.toInt32) = decide (x = y) := by
  by_cases q : x = y
  · rw [q, decide_eq_true rfl, decide_eq_true rfl]
  · have n : ¬ x.toInt8.toInt32 = y.toInt8.toInt32 := fun z => q (Int32.toInt_inj.mp (by
      have a := (c_i2b x).1
      have b := (c_i2b y).1
      rw [z] at a
      have := hx.int; have := hy.int
      omega))
    rw [decide_eq_false q, decide_eq_false n]
def own_fl : Bool → Int32
  | true => 1
  | false => 0
def own_nx : List (Bool × Int32) → Int32
  | [] => -1
  | (true, i) :: _ => i
  | (false, _) :: r => own_nx r
def own_scan1 : List (Bool × Int32 × Int32) → List (Int32 × Int32)
  | [] => []
  | (true, i) :: r => i :: own_scan1 r
  | (false, _) :: r => own_scan1 r
def own_scan2 : List (Bool × Int32 × Int32) → List (Int32 × Int32)
  | [] => []
  | [(true, i)] => [i]
  | [(false, _)] => []
  | (true, i) :: _ :: r => i :: own_scan2 r
  | (false, _) :: x :: r => own_scan2 (x :: r)
def own_fi : List (Int32 × Int32) → Int32 → Int32 → Int32
  | [], n, _ => n
  | (s, i) :: r, n, pos => if s < pos then own_fi r n pos else i
def own_end : List (Int32 × Int32) → Int32 → Int32
  | [], _ => -1
  | (s, e) :: r, pos => if s < pos then own_end r pos else e
def own_ex : List (Bool × Int32 × Int32) → Int32 → Int32
  | [], _ => -1
  | (true, i, e) :: r, pos => if i < pos then own_ex r pos else e
  | (false, _, _) :: r, pos => own_ex r pos
theorem own_fi_b {L : List (Int32 × Int32)} {n pos : Int32} (hn : 0 ≤ n.toInt ∧ n.toInt ≤ 8) (hL : ∀ q ∈ L, 0 ≤ q.2.toInt ∧ q.2.toInt ≤ 8) : 0 ≤ (own_fi L n pos).toInt ∧ (own_fi L n pos).toInt ≤ 8 := by
  induction L with
  | nil => exact hn
  | cons x r ih =>
    obtain ⟨s, i⟩ := x
    show 0 ≤ (if s < pos then own_fi r n pos else i).toInt ∧ (if s < pos then own_fi r n pos else i).toInt ≤ 8
    split
    · exact ih fun q hq => hL q (List.mem_cons_of_mem _ hq)
    · exact hL (s, i) (List.mem_cons_self ..)
theorem own_nn {f : Int32} (h : 0 ≤ f.toInt ∧ f.toInt ≤ 8) : ¬ f < 0 := fun q => by
  have e0 : (0 : Int32).toInt = 0 := rfl
  rw [Int32.lt_iff_toInt_lt, e0] at q; omega
theorem own_ng {f : Int32} (h : 0 ≤ f.toInt ∧ f.toInt ≤ 8) : -(f + 1) < 0 := by
  have e0 : (0 : Int32).toInt = 0 := rfl
  have e1 : (1 : Int32).toInt = 1 := rfl
  have s := c_iadd f 1
  rw [e1] at s
  have s' := own_fit s (by omega) (by omega)
  have t := c_ineg (f + 1)
  rw [s'] at t
  have t' := own_fit t (by omega) (by omega)
  rw [Int32.lt_iff_toInt_lt, e0, t']; omega
theorem own_bk {f : Int32} : -(-(f + 1)) - 1 = f := by rw [Int32.neg_neg, Int32.add_sub_cancel]
theorem own_tr {x y z : Int32} (a : x < y) (b : y < z) : x < z := by rw [Int32.lt_iff_toInt_lt] at a b ⊢; omega
theorem own_tr2 {x y z : Int32} (a : x < y) (b : ¬ z < y) : x < z := by rw [Int32.lt_iff_toInt_lt] at a b ⊢; omega
abbrev Mat (Z : State) (h : Heap) (m : Addr) (L : List (Int32 × Int32)) : Prop := ∃ (sa ea : Addr) (ks ke : ClassId), Exa Z h m "com/example/oref/oref/wikipedia/Matches" ∧ Fld Z h m "com/example/oref/oref/wikipedia/Matches" "count" "I" (.int (Int32.ofNat L.length)) ∧ Fld Z h m "com/example/oref/oref/wikipedia/Matches" "starts" "[I" (.ref sa) ∧ Fld Z h m "com/example/oref/oref/wikipedia/Matches" "ends" "[I" (.ref ea) ∧
  Arv Z h sa ks .int 8 ((L.map fun q => Value.int q.1) ++ List.replicate (8 - L.length) (.int 0)) (.int 0) ∧ Arv Z h ea ke .int 8 ((L.map fun q => Value.int q.2) ++ List.replicate (8 - L.length) (.int 0)) (.int 0)
def SB (Z : State) (h : Heap) (a t : Addr) (k : ClassId) (n : Int32) (vs : List Value) (d : Value) : Prop := Exa Z h a "java/lang/String" ∧ Fld Z h a "java/lang/String" "value" "[B" (.ref t) ∧ Fld Z h a "java/lang/String" "coder" "B" (.int 0) ∧ Arv Z h t k .byte n vs d
section OwnSB
variable {Z : State} {h h' : Heap} {a t : Addr} {k : ClassId} {n : Int32} {vs : List Value} {d : Value} {ws : List Addr}
theorem SB.keep (F : SB Z h a t k n vs d) (K : Keep h h' ws) (q : a ∉ ws) (r : t ∉ ws) : SB Z h' a t k n vs d := ⟨F.1.keep K, F.2.1.keep K q, F.2.2.1.keep K q, F.2.2.2.keep K r⟩
theorem SB.ext (F : SB Z h a t k n vs d) (E : Ext h h') : SB Z h' a t k n vs d := ⟨F.1.ext E, F.2.1.ext E, F.2.2.1.ext E, F.2.2.2.ext E⟩
theorem SB.wr {b : Addr} {sl : Nat} {v : Value} (F : SB Z h a t k n vs d) (W : Wr h h' b sl v) (q : a ≠ b) (r : t ≠ b) : SB Z h' a t k n vs d := ⟨F.1.wr W, F.2.1.other W (Or.inl q), F.2.2.1.other W (Or.inl q), F.2.2.2.other W r⟩
theorem SB.lt (F : SB Z h a t k n vs d) : a < h.size := F.1.lt
theorem SB.lt' (F : SB Z h a t k n vs d) : t < h.size := F.2.2.2.lt
end OwnSB
theorem Wrs.three {Z : State} {n0 : Nat} {h0 h : Heap} {ws0 F : List Addr} {x y z : Addr} (a : Wok n0 h0 ws0 x ∧ (x ∈ F ∨ ∃ C, Exa Z h x C ∧ C ≠ "java/lang/String" ∧ C ≠ "[B")) (b : Wok n0 h0 ws0 y ∧ (y ∈ F ∨ ∃ C, Exa Z h y C ∧ C ≠ "java/lang/String" ∧ C ≠ "[B")) (d : Wok n0 h0 ws0 z ∧ (z ∈ F ∨ ∃ C, Exa Z h z C ∧ C ≠ "java/lang/String" ∧ C ≠ "[B")) : Wrs Z n0 h0 ws0 h F [x, y, z] := fun w hw => by
  simp only [List.mem_cons, List.not_mem_nil, or_false] at hw
  rcases hw with rfl | rfl | rfl
  · exact a
  · exact b
  · exact d
theorem own_ef_1 (m : MethodId) (x0 : Int64) (x1 : Int32) (x2 : Int32) : entryFrame m #[(.long x0), (.int x1), (.int x2)] 4 = mkF m 0 #[.val (.long x0), .second, vi x1, vi x2] [] := by rfl
theorem do__0 : decode method_2_code 0 = .ok (.iload_n 3, 1) := by decide +kernel
theorem do__1 : decode method_2_code 1 = .ok (.ifCond .eq 14, 3) := by decide +kernel
theorem do__15 : decode method_2_code 15 = .ok (.lload_n 0, 1) := by decide +kernel
theorem do__16 : decode method_2_code 16 = .ok (.bipush 8, 2) := by decide +kernel
theorem do__18 : decode method_2_code 18 = .ok (.iload_n 2, 1) := by decide +kernel
theorem do__19 : decode method_2_code 19 = .ok (.imul, 1) := by decide +kernel
theorem do__20 : decode method_2_code 20 = .ok (.lushr, 1) := by decide +kernel
theorem do__21 : decode method_2_code 21 = .ok (.ldc2_w 7, 3) := by decide +kernel
theorem do__24 : decode method_2_code 24 = .ok (.land, 1) := by decide +kernel
theorem do__25 : decode method_2_code 25 = .ok (.l2i, 1) := by decide +kernel
theorem do__26 : decode method_2_code 26 = .ok (.i2c, 1) := by decide +kernel
theorem do__27 : decode method_2_code 27 = .ok (.ireturn, 1) := by decide +kernel
theorem do__4 : decode method_2_code 4 = .ok (.bipush 97, 2) := by decide +kernel
theorem do__6 : decode method_2_code 6 = .ok (.lload_n 0, 1) := by decide +kernel
theorem do__7 : decode method_2_code 7 = .ok (.iload_n 2, 1) := by decide +kernel
theorem do__8 : decode method_2_code 8 = .ok (.lushr, 1) := by decide +kernel
theorem do__9 : decode method_2_code 9 = .ok (.lconst 1, 1) := by decide +kernel
theorem do__10 : decode method_2_code 10 = .ok (.land, 1) := by decide +kernel
theorem do__11 : decode method_2_code 11 = .ok (.l2i, 1) := by decide +kernel
theorem do__12 : decode method_2_code 12 = .ok (.iadd, 1) := by decide +kernel
theorem do__13 : decode method_2_code 13 = .ok (.i2c, 1) := by decide +kernel
theorem do__14 : decode method_2_code 14 = .ok (.ireturn, 1) := by decide +kernel
theorem own_pn_2 : plainName "com/example/oref/oref/wikipedia/MatchesEndFromPinLaw" = true := by first | (simp [plainName, overriddenIn]; done) | decide +kernel
set_option maxRecDepth 65536 in
set_option maxHeartbeats 4000000 in
theorem own_ch (l : Launch) (Z : State) (a0 : Array Value) (hw : ∀ d ∈ tables_1, d.before a0 Z = true) (h0 : Heap) (n0 : Nat) (O : Old Z n0 h0) (x : Int64) (i : Int32) (z : Int32) :
   Con l Z n0 (⟨"com/example/oref/oref/wikipedia/MatchesEndFromPinLaw", "ch", "(JIZ)C"⟩ : MethodName) method_2_code 4 (some .char) [] ({ frames := 0, cells := 0, slots := 0, locals := 0 } : Room) #[(.long x), (.int i), (.int z)] h0 [] (fun v h' => (∃ cc, v = some (.int cc) ∧ Chr cc) ∧ h' = h0) := by
  refine Con.of a0 (plainFor_of_name own_pn_2) O (fun _ q => nomatch q) [] (fun _ q => nomatch q) ?_
  intro p e s m below meth cdX T S hby hml hret hnm
  have H := fun {k r} q => @hb _ _ hby k r q
  have W := @Tw a0 Z hw
  refine Go.cast (own_ef_1 m x i z) ?_
  refine S.iloadN 1 (H do__0) rfl ?_
  by_cases hz : z = (0 : Int32)
  ·skip
   refine S.ifY 15 (H do__1) (zEqT hz) (S.lloadN 16 (H do__15) rfl (S.bipush 18 (8 : Int32) (H do__16) (S.iloadN 19 (H do__18) rfl (S.imul 20 (H do__19) ?_))))
   refine S.lushr 21 (H do__20) ?_
   refine S.ldc2J 24 (H do__21) (W 5 rfl) ?_
   refine S.land 25 (H do__24) ?_
   refine S.l2i 26 (H do__25) ?_
   refine S.i2c 27 (H do__26) ?_
   exact S.retN (t := .char) (H do__27) hret (by decide) (by decide) (by decide) ⟨⟨_, rfl, own_ch2 _⟩, rfl⟩
  ·skip
   refine S.ifN 4 (H do__1) (zEqF hz) (S.bipush 6 (97 : Int32) (H do__4) (S.lloadN 7 (H do__6) rfl (S.iloadN 8 (H do__7) rfl (S.lushr 9 (H do__8) ?_))))
   refine S.lconst 10 (1 : Int64) (H do__9) ?_
   refine S.land 11 (H do__10) ?_
   refine S.l2i 12 (H do__11) ?_
   refine S.iadd 13 (H do__12) (S.i2c 14 (H do__13) ?_)
   exact S.retN (t := .char) (H do__14) hret (by decide) (by decide) (by decide) ⟨⟨_, rfl, own_ch1 _⟩, rfl⟩

theorem own_ef_3 (m : MethodId) (x0 : Addr) (x1 : Addr) (x2 : Int32) : entryFrame m #[(.ref x0), (.ref x1), (.int x2)] 3 = mkF m 0 #[vr x0, vr x1, vi x2] [] := by rfl
theorem dp__0 : decode method_3_code 0 = .ok (.iload_n 2, 1) := by decide +kernel
theorem dp__1 : decode method_3_code 1 = .ok (.aload_n 1, 1) := by decide +kernel
theorem dp__2 : decode method_3_code 2 = .ok (.arraylength, 1) := by decide +kernel
theorem dp__3 : decode method_3_code 3 = .ok (.iadd, 1) := by decide +kernel
theorem dp__4 : decode method_3_code 4 = .ok (.aload_n 0, 1) := by decide +kernel
theorem dp__5 : decode method_3_code 5 = .ok (.arraylength, 1) := by decide +kernel
theorem dp__6 : decode method_3_code 6 = .ok (.if_icmp .le 5, 3) := by decide +kernel
theorem dp__11 : decode method_3_code 11 = .ok (.aload_n 0, 1) := by decide +kernel
theorem dp__12 : decode method_3_code 12 = .ok (.iload_n 2, 1) := by decide +kernel
theorem dp__13 : decode method_3_code 13 = .ok (.caload, 1) := by decide +kernel
theorem dp__14 : decode method_3_code 14 = .ok (.aload_n 1, 1) := by decide +kernel
theorem dp__15 : decode method_3_code 15 = .ok (.iconst 0, 1) := by decide +kernel
theorem dp__16 : decode method_3_code 16 = .ok (.caload, 1) := by decide +kernel
theorem dp__17 : decode method_3_code 17 = .ok (.if_icmp .eq 5, 3) := by decide +kernel
theorem dp__22 : decode method_3_code 22 = .ok (.aload_n 1, 1) := by decide +kernel
theorem dp__23 : decode method_3_code 23 = .ok (.arraylength, 1) := by decide +kernel
theorem dp__24 : decode method_3_code 24 = .ok (.iconst 2, 1) := by decide +kernel
theorem dp__25 : decode method_3_code 25 = .ok (.if_icmp .ne 16, 3) := by decide +kernel
theorem dp__41 : decode method_3_code 41 = .ok (.iconst 1, 1) := by decide +kernel
theorem dp__42 : decode method_3_code 42 = .ok (.ireturn, 1) := by decide +kernel
theorem dp__20 : decode method_3_code 20 = .ok (.iconst 0, 1) := by decide +kernel
theorem dp__21 : decode method_3_code 21 = .ok (.ireturn, 1) := by decide +kernel
set_option maxRecDepth 65536 in
set_option maxHeartbeats 4000000 in
theorem own_occ_1_0 (l : Launch) (Z : State) (a0 : Array Value) (hw : ∀ d ∈ tables_1, d.before a0 Z = true) (h0 : Heap) (n0 : Nat) (O : Old Z n0 h0) (a : Addr) (b : Addr) (ka : ClassId) (kb : ClassId) (da : Value) (db : Value) (t0 : Int32) (t1 : Int32) (t2 : Int32) (t3 : Int32) (t4 : Int32) (q0 : Int32) (b0 : Bool) (A : Arv Z h0 a ka .char (5 : Int32) [(.int t0), (.int t1), (.int t2), (.int t3), (.int t4)] da) (B : Arv Z h0 b kb .char (1 : Int32) [(.int q0)] db) (e0 : b0 = decide (t0 = q0)) :
   Con l Z n0 (⟨"com/example/oref/oref/wikipedia/MatchesEndFromPinLaw", "occ", "([C[CI)Z"⟩ : MethodName) method_3_code 3 (some .boolean) [] ({ frames := 0, cells := 0, slots := 0, locals := 0 } : Room) #[(.ref a), (.ref b), (.int 0)] h0 [] (fun v h' => v = some (.int (own_fl b0)) ∧ h' = h0) := by
  refine Con.of a0 (plainFor_of_name own_pn_2) O (fun _ q => nomatch q) [] (fun _ q => nomatch q) ?_
  intro p e s m below meth cdX T S hby hml hret hnm
  have H := fun {k r} q => @hb _ _ hby k r q
  have W := @Tw a0 Z hw
  refine Go.cast (own_ef_3 m a b (0 : Int32)) ?_
  refine S.iloadN 1 (H dp__0) rfl (S.aloadN 2 (H dp__1) rfl rfl (S.alen 3 (H dp__2) B ?_))
  refine S.iadd 4 (H dp__3) ?_
  rw [show (0 + 1 : Int32) = 1 from by decide]
  refine S.aloadN 5 (H dp__4) rfl rfl (S.alen 6 (H dp__5) A ?_)
  refine S.icmpY 11 (H dp__6) (qLeT (by decide)) (S.aloadN 12 (H dp__11) rfl rfl (S.iloadN 13 (H dp__12) rfl (S.caload (v := .int t0) 14 (H dp__13) A ⟨by decide, by decide⟩ rfl ?_)))
  refine S.aloadN 15 (H dp__14) rfl rfl (S.iconst 16 (0 : Int32) (H dp__15) (S.caload (v := .int q0) 17 (H dp__16) B ⟨by decide, by decide⟩ rfl ?_))
  by_cases hb1 : t0 = q0
  ·skip
   refine S.icmpY 22 (H dp__17) (qEqT hb1) (S.aloadN 23 (H dp__22) rfl rfl (S.alen 24 (H dp__23) B ?_))
   refine S.iconst 25 (2 : Int32) (H dp__24) (S.icmpY 41 (H dp__25) (qNeT (by decide)) (S.iconst 42 (1 : Int32) (H dp__41) ?_))
   have k2 : b0 = true := by rw [e0, decide_eq_true hb1]
   exact S.retN (t := .boolean) (H dp__42) hret (by decide) (by decide) (by decide) ⟨by rw [k2] <;> rfl, rfl⟩
  ·skip
   refine S.icmpN 20 (H dp__17) (qEqF hb1) (S.iconst 21 (0 : Int32) (H dp__20) ?_)
   have k3 : b0 = false := by rw [e0, decide_eq_false hb1] <;> rfl
   exact S.retN (t := .boolean) (H dp__21) hret (by decide) (by decide) (by decide) ⟨by rw [k3] <;> rfl, rfl⟩


set_option maxRecDepth 65536 in
set_option maxHeartbeats 4000000 in
theorem own_occ_1_1 (l : Launch) (Z : State) (a0 : Array Value) (hw : ∀ d ∈ tables_1, d.before a0 Z = true) (h0 : Heap) (n0 : Nat) (O : Old Z n0 h0) (a : Addr) (b : Addr) (ka : ClassId) (kb : ClassId) (da : Value) (db : Value) (t0 : Int32) (t1 : Int32) (t2 : Int32) (t3 : Int32) (t4 : Int32) (q0 : Int32) (b1 : Bool) (A : Arv Z h0 a ka .char (5 : Int32) [(.int t0), (.int t1), (.int t2), (.int t3), (.int t4)] da) (B : Arv Z h0 b kb .char (1 : Int32) [(.int q0)] db) (e1 : b1 = decide (t1 = q0)) :
   Con l Z n0 (⟨"com/example/oref/oref/wikipedia/MatchesEndFromPinLaw", "occ", "([C[CI)Z"⟩ : MethodName) method_3_code 3 (some .boolean) [] ({ frames := 0, cells := 0, slots := 0, locals := 0 } : Room) #[(.ref a), (.ref b), (.int 1)] h0 [] (fun v h' => v = some (.int (own_fl b1)) ∧ h' = h0) := by
  refine Con.of a0 (plainFor_of_name own_pn_2) O (fun _ q => nomatch q) [] (fun _ q => nomatch q) ?_
  intro p e s m below meth cdX T S hby hml hret hnm
  have H := fun {k r} q => @hb _ _ hby k r q
  have W := @Tw a0 Z hw
  refine Go.cast (own_ef_3 m a b (1 : Int32)) ?_
  refine S.iloadN 1 (H dp__0) rfl (S.aloadN 2 (H dp__1) rfl rfl (S.alen 3 (H dp__2) B ?_))
  refine S.iadd 4 (H dp__3) ?_
  rw [show (1 + 1 : Int32) = 2 from by decide]
  refine S.aloadN 5 (H dp__4) rfl rfl (S.alen 6 (H dp__5) A ?_)
  refine S.icmpY 11 (H dp__6) (qLeT (by decide)) (S.aloadN 12 (H dp__11) rfl rfl (S.iloadN 13 (H dp__12) rfl (S.caload (v := .int t1) 14 (H dp__13) A ⟨by decide, by decide⟩ rfl ?_)))
  refine S.aloadN 15 (H dp__14) rfl rfl (S.iconst 16 (0 : Int32) (H dp__15) (S.caload (v := .int q0) 17 (H dp__16) B ⟨by decide, by decide⟩ rfl ?_))
  by_cases hb4 : t1 = q0
  ·skip
   refine S.icmpY 22 (H dp__17) (qEqT hb4) (S.aloadN 23 (H dp__22) rfl rfl (S.alen 24 (H dp__23) B ?_))
   refine S.iconst 25 (2 : Int32) (H dp__24) (S.icmpY 41 (H dp__25) (qNeT (by decide)) (S.iconst 42 (1 : Int32) (H dp__41) ?_))
   have k5 : b1 = true := by rw [e1, decide_eq_true hb4]
   exact S.retN (t := .boolean) (H dp__42) hret (by decide) (by decide) (by decide) ⟨by rw [k5] <;> rfl, rfl⟩
  ·skip
   refine S.icmpN 20 (H dp__17) (qEqF hb4) (S.iconst 21 (0 : Int32) (H dp__20) ?_)
   have k6 : b1 = false := by rw [e1, decide_eq_false hb4] <;> rfl
   exact S.retN (t := .boolean) (H dp__21) hret (by decide) (by decide) (by decide) ⟨by rw [k6] <;> rfl, rfl⟩


set_option maxRecDepth 65536 in
set_option maxHeartbeats 4000000 in
theorem own_occ_1_2 (l : Launch) (Z : State) (a0 : Array Value) (hw : ∀ d ∈ tables_1, d.before a0 Z = true) (h0 : Heap) (n0 : Nat) (O : Old Z n0 h0) (a : Addr) (b : Addr) (ka : ClassId) (kb : ClassId) (da : Value) (db : Value) (t0 : Int32) (t1 : Int32) (t2 : Int32) (t3 : Int32) (t4 : Int32) (q0 : Int32) (b2 : Bool) (A : Arv Z h0 a ka .char (5 : Int32) [(.int t0), (.int t1), (.int t2), (.int t3), (.int t4)] da) (B : Arv Z h0 b kb .char (1 : Int32) [(.int q0)] db) (e2 : b2 = decide (t2 = q0)) :
   Con l Z n0 (⟨"com/example/oref/oref/wikipedia/MatchesEndFromPinLaw", "occ", "([C[CI)Z"⟩ : MethodName) method_3_code 3 (some .boolean) [] ({ frames := 0, cells := 0, slots := 0, locals := 0 } : Room) #[(.ref a), (.ref b), (.int 2)] h0 [] (fun v h' => v = some (.int (own_fl b2)) ∧ h' = h0) := by
  refine Con.of a0 (plainFor_of_name own_pn_2) O (fun _ q => nomatch q) [] (fun _ q => nomatch q) ?_
  intro p e s m below meth cdX T S hby hml hret hnm
  have H := fun {k r} q => @hb _ _ hby k r q
  have W := @Tw a0 Z hw
  refine Go.cast (own_ef_3 m a b (2 : Int32)) ?_
  refine S.iloadN 1 (H dp__0) rfl (S.aloadN 2 (H dp__1) rfl rfl (S.alen 3 (H dp__2) B ?_))
  refine S.iadd 4 (H dp__3) ?_
  rw [show (2 + 1 : Int32) = 3 from by decide]
  refine S.aloadN 5 (H dp__4) rfl rfl (S.alen 6 (H dp__5) A ?_)
  refine S.icmpY 11 (H dp__6) (qLeT (by decide)) (S.aloadN 12 (H dp__11) rfl rfl (S.iloadN 13 (H dp__12) rfl (S.caload (v := .int t2) 14 (H dp__13) A ⟨by decide, by decide⟩ rfl ?_)))
  refine S.aloadN 15 (H dp__14) rfl rfl (S.iconst 16 (0 : Int32) (H dp__15) (S.caload (v := .int q0) 17 (H dp__16) B ⟨by decide, by decide⟩ rfl ?_))
  by_cases hb7 : t2 = q0
  ·skip
   refine S.icmpY 22 (H dp__17) (qEqT hb7) (S.aloadN 23 (H dp__22) rfl rfl (S.alen 24 (H dp__23) B ?_))
   refine S.iconst 25 (2 : Int32) (H dp__24) (S.icmpY 41 (H dp__25) (qNeT (by decide)) (S.iconst 42 (1 : Int32) (H dp__41) ?_))
   have k8 : b2 = true := by rw [e2, decide_eq_true hb7]
   exact S.retN (t := .boolean) (H dp__42) hret (by decide) (by decide) (by decide) ⟨by rw [k8] <;> rfl, rfl⟩
  ·skip
   refine S.icmpN 20 (H dp__17) (qEqF hb7) (S.iconst 21 (0 : Int32) (H dp__20) ?_)
   have k9 : b2 = false := by rw [e2, decide_eq_false hb7] <;> rfl
   exact S.retN (t := .boolean) (H dp__21) hret (by decide) (by decide) (by decide) ⟨by rw [k9] <;> rfl, rfl⟩


set_option maxRecDepth 65536 in
set_option maxHeartbeats 4000000 in
theorem own_occ_1_3 (l : Launch) (Z : State) (a0 : Array Value) (hw : ∀ d ∈ tables_1, d.before a0 Z = true) (h0 : Heap) (n0 : Nat) (O : Old Z n0 h0) (a : Addr) (b : Addr) (ka : ClassId) (kb : ClassId) (da : Value) (db : Value) (t0 : Int32) (t1 : Int32) (t2 : Int32) (t3 : Int32) (t4 : Int32) (q0 : Int32) (b3 : Bool) (A : Arv Z h0 a ka .char (5 : Int32) [(.int t0), (.int t1), (.int t2), (.int t3), (.int t4)] da) (B : Arv Z h0 b kb .char (1 : Int32) [(.int q0)] db) (e3 : b3 = decide (t3 = q0)) :
   Con l Z n0 (⟨"com/example/oref/oref/wikipedia/MatchesEndFromPinLaw", "occ", "([C[CI)Z"⟩ : MethodName) method_3_code 3 (some .boolean) [] ({ frames := 0, cells := 0, slots := 0, locals := 0 } : Room) #[(.ref a), (.ref b), (.int 3)] h0 [] (fun v h' => v = some (.int (own_fl b3)) ∧ h' = h0) := by
  refine Con.of a0 (plainFor_of_name own_pn_2) O (fun _ q => nomatch q) [] (fun _ q => nomatch q) ?_
  intro p e s m below meth cdX T S hby hml hret hnm
  have H := fun {k r} q => @hb _ _ hby k r q
  have W := @Tw a0 Z hw
  refine Go.cast (own_ef_3 m a b (3 : Int32)) ?_
  refine S.iloadN 1 (H dp__0) rfl (S.aloadN 2 (H dp__1) rfl rfl (S.alen 3 (H dp__2) B ?_))
  refine S.iadd 4 (H dp__3) ?_
  rw [show (3 + 1 : Int32) = 4 from by decide]
  refine S.aloadN 5 (H dp__4) rfl rfl (S.alen 6 (H dp__5) A ?_)
  refine S.icmpY 11 (H dp__6) (qLeT (by decide)) (S.aloadN 12 (H dp__11) rfl rfl (S.iloadN 13 (H dp__12) rfl (S.caload (v := .int t3) 14 (H dp__13) A ⟨by decide, by decide⟩ rfl ?_)))
  refine S.aloadN 15 (H dp__14) rfl rfl (S.iconst 16 (0 : Int32) (H dp__15) (S.caload (v := .int q0) 17 (H dp__16) B ⟨by decide, by decide⟩ rfl ?_))
  by_cases hb10 : t3 = q0
  ·skip
   refine S.icmpY 22 (H dp__17) (qEqT hb10) (S.aloadN 23 (H dp__22) rfl rfl (S.alen 24 (H dp__23) B ?_))
   refine S.iconst 25 (2 : Int32) (H dp__24) (S.icmpY 41 (H dp__25) (qNeT (by decide)) (S.iconst 42 (1 : Int32) (H dp__41) ?_))
   have k11 : b3 = true := by rw [e3, decide_eq_true hb10]
   exact S.retN (t := .boolean) (H dp__42) hret (by decide) (by decide) (by decide) ⟨by rw [k11] <;> rfl, rfl⟩
  ·skip
   refine S.icmpN 20 (H dp__17) (qEqF hb10) (S.iconst 21 (0 : Int32) (H dp__20) ?_)
   have k12 : b3 = false := by rw [e3, decide_eq_false hb10] <;> rfl
   exact S.retN (t := .boolean) (H dp__21) hret (by decide) (by decide) (by decide) ⟨by rw [k12] <;> rfl, rfl⟩


set_option maxRecDepth 65536 in
set_option maxHeartbeats 4000000 in
theorem own_occ_1_4 (l : Launch) (Z : State) (a0 : Array Value) (hw : ∀ d ∈ tables_1, d.before a0 Z = true) (h0 : Heap) (n0 : Nat) (O : Old Z n0 h0) (a : Addr) (b : Addr) (ka : ClassId) (kb : ClassId) (da : Value) (db : Value) (t0 : Int32) (t1 : Int32) (t2 : Int32) (t3 : Int32) (t4 : Int32) (q0 : Int32) (b4 : Bool) (A : Arv Z h0 a ka .char (5 : Int32) [(.int t0), (.int t1), (.int t2), (.int t3), (.int t4)] da) (B : Arv Z h0 b kb .char (1 : Int32) [(.int q0)] db) (e4 : b4 = decide (t4 = q0)) :
   Con l Z n0 (⟨"com/example/oref/oref/wikipedia/MatchesEndFromPinLaw", "occ", "([C[CI)Z"⟩ : MethodName) method_3_code 3 (some .boolean) [] ({ frames := 0, cells := 0, slots := 0, locals := 0 } : Room) #[(.ref a), (.ref b), (.int 4)] h0 [] (fun v h' => v = some (.int (own_fl b4)) ∧ h' = h0) := by
  refine Con.of a0 (plainFor_of_name own_pn_2) O (fun _ q => nomatch q) [] (fun _ q => nomatch q) ?_
  intro p e s m below meth cdX T S hby hml hret hnm
  have H := fun {k r} q => @hb _ _ hby k r q
  have W := @Tw a0 Z hw
  refine Go.cast (own_ef_3 m a b (4 : Int32)) ?_
  refine S.iloadN 1 (H dp__0) rfl (S.aloadN 2 (H dp__1) rfl rfl (S.alen 3 (H dp__2) B ?_))
  refine S.iadd 4 (H dp__3) ?_
  rw [show (4 + 1 : Int32) = 5 from by decide]
  refine S.aloadN 5 (H dp__4) rfl rfl (S.alen 6 (H dp__5) A ?_)
  refine S.icmpY 11 (H dp__6) (qLeT (by decide)) (S.aloadN 12 (H dp__11) rfl rfl (S.iloadN 13 (H dp__12) rfl (S.caload (v := .int t4) 14 (H dp__13) A ⟨by decide, by decide⟩ rfl ?_)))
  refine S.aloadN 15 (H dp__14) rfl rfl (S.iconst 16 (0 : Int32) (H dp__15) (S.caload (v := .int q0) 17 (H dp__16) B ⟨by decide, by decide⟩ rfl ?_))
  by_cases hb13 : t4 = q0
  ·skip
   refine S.icmpY 22 (H dp__17) (qEqT hb13) (S.aloadN 23 (H dp__22) rfl rfl (S.alen 24 (H dp__23) B ?_))
   refine S.iconst 25 (2 : Int32) (H dp__24) (S.icmpY 41 (H dp__25) (qNeT (by decide)) (S.iconst 42 (1 : Int32) (H dp__41) ?_))
   have k14 : b4 = true := by rw [e4, decide_eq_true hb13]
   exact S.retN (t := .boolean) (H dp__42) hret (by decide) (by decide) (by decide) ⟨by rw [k14] <;> rfl, rfl⟩
  ·skip
   refine S.icmpN 20 (H dp__17) (qEqF hb13) (S.iconst 21 (0 : Int32) (H dp__20) ?_)
   have k15 : b4 = false := by rw [e4, decide_eq_false hb13] <;> rfl
   exact S.retN (t := .boolean) (H dp__21) hret (by decide) (by decide) (by decide) ⟨by rw [k15] <;> rfl, rfl⟩

theorem dp__28 : decode method_3_code 28 = .ok (.aload_n 0, 1) := by decide +kernel
theorem dp__29 : decode method_3_code 29 = .ok (.iload_n 2, 1) := by decide +kernel
theorem dp__30 : decode method_3_code 30 = .ok (.iconst 1, 1) := by decide +kernel
theorem dp__31 : decode method_3_code 31 = .ok (.iadd, 1) := by decide +kernel
theorem dp__32 : decode method_3_code 32 = .ok (.caload, 1) := by decide +kernel
theorem dp__33 : decode method_3_code 33 = .ok (.aload_n 1, 1) := by decide +kernel
theorem dp__34 : decode method_3_code 34 = .ok (.iconst 1, 1) := by decide +kernel
theorem dp__35 : decode method_3_code 35 = .ok (.caload, 1) := by decide +kernel
theorem dp__36 : decode method_3_code 36 = .ok (.if_icmp .eq 5, 3) := by decide +kernel
theorem dp__39 : decode method_3_code 39 = .ok (.iconst 0, 1) := by decide +kernel
theorem dp__40 : decode method_3_code 40 = .ok (.ireturn, 1) := by decide +kernel
set_option maxRecDepth 65536 in
set_option maxHeartbeats 4000000 in
theorem own_occ_2_0 (l : Launch) (Z : State) (a0 : Array Value) (hw : ∀ d ∈ tables_1, d.before a0 Z = true) (h0 : Heap) (n0 : Nat) (O : Old Z n0 h0) (a : Addr) (b : Addr) (ka : ClassId) (kb : ClassId) (da : Value) (db : Value) (t0 : Int32) (t1 : Int32) (t2 : Int32) (t3 : Int32) (t4 : Int32) (q0 : Int32) (q1 : Int32) (b0 : Bool) (A : Arv Z h0 a ka .char (5 : Int32) [(.int t0), (.int t1), (.int t2), (.int t3), (.int t4)] da) (B : Arv Z h0 b kb .char (2 : Int32) [(.int q0), (.int q1)] db) (e0 : b0 = (decide (t0 = q0) && decide (t1 = q1))) :
   Con l Z n0 (⟨"com/example/oref/oref/wikipedia/MatchesEndFromPinLaw", "occ", "([C[CI)Z"⟩ : MethodName) method_3_code 3 (some .boolean) [] ({ frames := 0, cells := 0, slots := 0, locals := 0 } : Room) #[(.ref a), (.ref b), (.int 0)] h0 [] (fun v h' => v = some (.int (own_fl b0)) ∧ h' = h0) := by
  refine Con.of a0 (plainFor_of_name own_pn_2) O (fun _ q => nomatch q) [] (fun _ q => nomatch q) ?_
  intro p e s m below meth cdX T S hby hml hret hnm
  have H := fun {k r} q => @hb _ _ hby k r q
  have W := @Tw a0 Z hw
  refine Go.cast (own_ef_3 m a b (0 : Int32)) ?_
  refine S.iloadN 1 (H dp__0) rfl (S.aloadN 2 (H dp__1) rfl rfl (S.alen 3 (H dp__2) B ?_))
  refine S.iadd 4 (H dp__3) ?_
  rw [show (0 + 2 : Int32) = 2 from by decide]
  refine S.aloadN 5 (H dp__4) rfl rfl (S.alen 6 (H dp__5) A ?_)
  refine S.icmpY 11 (H dp__6) (qLeT (by decide)) (S.aloadN 12 (H dp__11) rfl rfl (S.iloadN 13 (H dp__12) rfl (S.caload (v := .int t0) 14 (H dp__13) A ⟨by decide, by decide⟩ rfl ?_)))
  refine S.aloadN 15 (H dp__14) rfl rfl (S.iconst 16 (0 : Int32) (H dp__15) (S.caload (v := .int q0) 17 (H dp__16) B ⟨by decide, by decide⟩ rfl ?_))
  by_cases hb16 : t0 = q0
  ·skip
   refine S.icmpY 22 (H dp__17) (qEqT hb16) (S.aloadN 23 (H dp__22) rfl rfl (S.alen 24 (H dp__23) B ?_))
   refine S.iconst 25 (2 : Int32) (H dp__24) (S.icmpN 28 (H dp__25) (qNeF (by decide)) (S.aloadN 29 (H dp__28) rfl rfl (S.iloadN 30 (H dp__29) rfl (S.iconst 31 (1 : Int32) (H dp__30) (S.iadd 32 (H dp__31) ?_)))))
   rw [show (0 + 1 : Int32) = 1 from by decide]
   refine S.caload (v := .int t1) 33 (H dp__32) A ⟨by decide, by decide⟩ rfl ?_
   refine S.aloadN 34 (H dp__33) rfl rfl (S.iconst 35 (1 : Int32) (H dp__34) (S.caload (v := .int q1) 36 (H dp__35) B ⟨by decide, by decide⟩ rfl ?_))
   by_cases hb17 : t1 = q1
   ·skip
    refine S.icmpY 41 (H dp__36) (qEqT hb17) (S.iconst 42 (1 : Int32) (H dp__41) ?_)
    have k18 : b0 = true := by rw [e0, decide_eq_true hb16, decide_eq_true hb17] <;> rfl
    exact S.retN (t := .boolean) (H dp__42) hret (by decide) (by decide) (by decide) ⟨by rw [k18] <;> rfl, rfl⟩
   ·skip
    refine S.icmpN 39 (H dp__36) (qEqF hb17) (S.iconst 40 (0 : Int32) (H dp__39) ?_)
    have k19 : b0 = false := by rw [e0, decide_eq_false hb17, Bool.and_false]
    exact S.retN (t := .boolean) (H dp__40) hret (by decide) (by decide) (by decide) ⟨by rw [k19] <;> rfl, rfl⟩
  ·skip
   refine S.icmpN 20 (H dp__17) (qEqF hb16) (S.iconst 21 (0 : Int32) (H dp__20) ?_)
   have k20 : b0 = false := by rw [e0, decide_eq_false hb16] <;> rfl
   exact S.retN (t := .boolean) (H dp__21) hret (by decide) (by decide) (by decide) ⟨by rw [k20] <;> rfl, rfl⟩


set_option maxRecDepth 65536 in
set_option maxHeartbeats 4000000 in
theorem own_occ_2_1 (l : Launch) (Z : State) (a0 : Array Value) (hw : ∀ d ∈ tables_1, d.before a0 Z = true) (h0 : Heap) (n0 : Nat) (O : Old Z n0 h0) (a : Addr) (b : Addr) (ka : ClassId) (kb : ClassId) (da : Value) (db : Value) (t0 : Int32) (t1 : Int32) (t2 : Int32) (t3 : Int32) (t4 : Int32) (q0 : Int32) (q1 : Int32) (b1 : Bool) (A : Arv Z h0 a ka .char (5 : Int32) [(.int t0), (.int t1), (.int t2), (.int t3), (.int t4)] da) (B : Arv Z h0 b kb .char (2 : Int32) [(.int q0), (.int q1)] db) (e1 : b1 = (decide (t1 = q0) && decide (t2 = q1))) :
   Con l Z n0 (⟨"com/example/oref/oref/wikipedia/MatchesEndFromPinLaw", "occ", "([C[CI)Z"⟩ : MethodName) method_3_code 3 (some .boolean) [] ({ frames := 0, cells := 0, slots := 0, locals := 0 } : Room) #[(.ref a), (.ref b), (.int 1)] h0 [] (fun v h' => v = some (.int (own_fl b1)) ∧ h' = h0) := by
  refine Con.of a0 (plainFor_of_name own_pn_2) O (fun _ q => nomatch q) [] (fun _ q => nomatch q) ?_
  intro p e s m below meth cdX T S hby hml hret hnm
  have H := fun {k r} q => @hb _ _ hby k r q
  have W := @Tw a0 Z hw
  refine Go.cast (own_ef_3 m a b (1 : Int32)) ?_
  refine S.iloadN 1 (H dp__0) rfl (S.aloadN 2 (H dp__1) rfl rfl (S.alen 3 (H dp__2) B ?_))
  refine S.iadd 4 (H dp__3) ?_
  rw [show (1 + 2 : Int32) = 3 from by decide]
  refine S.aloadN 5 (H dp__4) rfl rfl (S.alen 6 (H dp__5) A ?_)
  refine S.icmpY 11 (H dp__6) (qLeT (by decide)) (S.aloadN 12 (H dp__11) rfl rfl (S.iloadN 13 (H dp__12) rfl (S.caload (v := .int t1) 14 (H dp__13) A ⟨by decide, by decide⟩ rfl ?_)))
  refine S.aloadN 15 (H dp__14) rfl rfl (S.iconst 16 (0 : Int32) (H dp__15) (S.caload (v := .int q0) 17 (H dp__16) B ⟨by decide, by decide⟩ rfl ?_))
  by_cases hb21 : t1 = q0
  ·skip
   refine S.icmpY 22 (H dp__17) (qEqT hb21) (S.aloadN 23 (H dp__22) rfl rfl (S.alen 24 (H dp__23) B ?_))
   refine S.iconst 25 (2 : Int32) (H dp__24) (S.icmpN 28 (H dp__25) (qNeF (by decide)) (S.aloadN 29 (H dp__28) rfl rfl (S.iloadN 30 (H dp__29) rfl (S.iconst 31 (1 : Int32) (H dp__30) (S.iadd 32 (H dp__31) ?_)))))
   rw [show (1 + 1 : Int32) = 2 from by decide]
   refine S.caload (v := .int t2) 33 (H dp__32) A ⟨by decide, by decide⟩ rfl ?_
   refine S.aloadN 34 (H dp__33) rfl rfl (S.iconst 35 (1 : Int32) (H dp__34) (S.caload (v := .int q1) 36 (H dp__35) B ⟨by decide, by decide⟩ rfl ?_))
   by_cases hb22 : t2 = q1
   ·skip
    refine S.icmpY 41 (H dp__36) (qEqT hb22) (S.iconst 42 (1 : Int32) (H dp__41) ?_)
    have k23 : b1 = true := by rw [e1, decide_eq_true hb21, decide_eq_true hb22] <;> rfl
    exact S.retN (t := .boolean) (H dp__42) hret (by decide) (by decide) (by decide) ⟨by rw [k23] <;> rfl, rfl⟩
   ·skip
    refine S.icmpN 39 (H dp__36) (qEqF hb22) (S.iconst 40 (0 : Int32) (H dp__39) ?_)
    have k24 : b1 = false := by rw [e1, decide_eq_false hb22, Bool.and_false]
    exact S.retN (t := .boolean) (H dp__40) hret (by decide) (by decide) (by decide) ⟨by rw [k24] <;> rfl, rfl⟩
  ·skip
   refine S.icmpN 20 (H dp__17) (qEqF hb21) (S.iconst 21 (0 : Int32) (H dp__20) ?_)
   have k25 : b1 = false := by rw [e1, decide_eq_false hb21] <;> rfl
   exact S.retN (t := .boolean) (H dp__21) hret (by decide) (by decide) (by decide) ⟨by rw [k25] <;> rfl, rfl⟩


set_option maxRecDepth 65536 in
set_option maxHeartbeats 4000000 in
theorem own_occ_2_2 (l : Launch) (Z : State) (a0 : Array Value) (hw : ∀ d ∈ tables_1, d.before a0 Z = true) (h0 : Heap) (n0 : Nat) (O : Old Z n0 h0) (a : Addr) (b : Addr) (ka : ClassId) (kb : ClassId) (da : Value) (db : Value) (t0 : Int32) (t1 : Int32) (t2 : Int32) (t3 : Int32) (t4 : Int32) (q0 : Int32) (q1 : Int32) (b2 : Bool) (A : Arv Z h0 a ka .char (5 : Int32) [(.int t0), (.int t1), (.int t2), (.int t3), (.int t4)] da) (B : Arv Z h0 b kb .char (2 : Int32) [(.int q0), (.int q1)] db) (e2 : b2 = (decide (t2 = q0) && decide (t3 = q1))) :
   Con l Z n0 (⟨"com/example/oref/oref/wikipedia/MatchesEndFromPinLaw", "occ", "([C[CI)Z"⟩ : MethodName) method_3_code 3 (some .boolean) [] ({ frames := 0, cells := 0, slots := 0, locals := 0 } : Room) #[(.ref a), (.ref b), (.int 2)] h0 [] (fun v h' => v = some (.int (own_fl b2)) ∧ h' = h0) := by
  refine Con.of a0 (plainFor_of_name own_pn_2) O (fun _ q => nomatch q) [] (fun _ q => nomatch q) ?_
  intro p e s m below meth cdX T S hby hml hret hnm
  have H := fun {k r} q => @hb _ _ hby k r q
  have W := @Tw a0 Z hw
  refine Go.cast (own_ef_3 m a b (2 : Int32)) ?_
  refine S.iloadN 1 (H dp__0) rfl (S.aloadN 2 (H dp__1) rfl rfl (S.alen 3 (H dp__2) B ?_))
  refine S.iadd 4 (H dp__3) ?_
  rw [show (2 + 2 : Int32) = 4 from by decide]
  refine S.aloadN 5 (H dp__4) rfl rfl (S.alen 6 (H dp__5) A ?_)
  refine S.icmpY 11 (H dp__6) (qLeT (by decide)) (S.aloadN 12 (H dp__11) rfl rfl (S.iloadN 13 (H dp__12) rfl (S.caload (v := .int t2) 14 (H dp__13) A ⟨by decide, by decide⟩ rfl ?_)))
  refine S.aloadN 15 (H dp__14) rfl rfl (S.iconst 16 (0 : Int32) (H dp__15) (S.caload (v := .int q0) 17 (H dp__16) B ⟨by decide, by decide⟩ rfl ?_))
  by_cases hb26 : t2 = q0
  ·skip
   refine S.icmpY 22 (H dp__17) (qEqT hb26) (S.aloadN 23 (H dp__22) rfl rfl (S.alen 24 (H dp__23) B ?_))
   refine S.iconst 25 (2 : Int32) (H dp__24) (S.icmpN 28 (H dp__25) (qNeF (by decide)) (S.aloadN 29 (H dp__28) rfl rfl (S.iloadN 30 (H dp__29) rfl (S.iconst 31 (1 : Int32) (H dp__30) (S.iadd 32 (H dp__31) ?_)))))
   rw [show (2 + 1 : Int32) = 3 from by decide]
   refine S.caload (v := .int t3) 33 (H dp__32) A ⟨by decide, by decide⟩ rfl ?_
   refine S.aloadN 34 (H dp__33) rfl rfl (S.iconst 35 (1 : Int32) (H dp__34) (S.caload (v := .int q1) 36 (H dp__35) B ⟨by decide, by decide⟩ rfl ?_))
   by_cases hb27 : t3 = q1
   ·skip
    refine S.icmpY 41 (H dp__36) (qEqT hb27) (S.iconst 42 (1 : Int32) (H dp__41) ?_)
    have k28 : b2 = true := by rw [e2, decide_eq_true hb26, decide_eq_true hb27] <;> rfl
    exact S.retN (t := .boolean) (H dp__42) hret (by decide) (by decide) (by decide) ⟨by rw [k28] <;> rfl, rfl⟩
   ·skip
    refine S.icmpN 39 (H dp__36) (qEqF hb27) (S.iconst 40 (0 : Int32) (H dp__39) ?_)
    have k29 : b2 = false := by rw [e2, decide_eq_false hb27, Bool.and_false]
    exact S.retN (t := .boolean) (H dp__40) hret (by decide) (by decide) (by decide) ⟨by rw [k29] <;> rfl, rfl⟩
  ·skip
   refine S.icmpN 20 (H dp__17) (qEqF hb26) (S.iconst 21 (0 : Int32) (H dp__20) ?_)
   have k30 : b2 = false := by rw [e2, decide_eq_false hb26] <;> rfl
   exact S.retN (t := .boolean) (H dp__21) hret (by decide) (by decide) (by decide) ⟨by rw [k30] <;> rfl, rfl⟩


set_option maxRecDepth 65536 in
set_option maxHeartbeats 4000000 in
theorem own_occ_2_3 (l : Launch) (Z : State) (a0 : Array Value) (hw : ∀ d ∈ tables_1, d.before a0 Z = true) (h0 : Heap) (n0 : Nat) (O : Old Z n0 h0) (a : Addr) (b : Addr) (ka : ClassId) (kb : ClassId) (da : Value) (db : Value) (t0 : Int32) (t1 : Int32) (t2 : Int32) (t3 : Int32) (t4 : Int32) (q0 : Int32) (q1 : Int32) (b3 : Bool) (A : Arv Z h0 a ka .char (5 : Int32) [(.int t0), (.int t1), (.int t2), (.int t3), (.int t4)] da) (B : Arv Z h0 b kb .char (2 : Int32) [(.int q0), (.int q1)] db) (e3 : b3 = (decide (t3 = q0) && decide (t4 = q1))) :
   Con l Z n0 (⟨"com/example/oref/oref/wikipedia/MatchesEndFromPinLaw", "occ", "([C[CI)Z"⟩ : MethodName) method_3_code 3 (some .boolean) [] ({ frames := 0, cells := 0, slots := 0, locals := 0 } : Room) #[(.ref a), (.ref b), (.int 3)] h0 [] (fun v h' => v = some (.int (own_fl b3)) ∧ h' = h0) := by
  refine Con.of a0 (plainFor_of_name own_pn_2) O (fun _ q => nomatch q) [] (fun _ q => nomatch q) ?_
  intro p e s m below meth cdX T S hby hml hret hnm
  have H := fun {k r} q => @hb _ _ hby k r q
  have W := @Tw a0 Z hw
  refine Go.cast (own_ef_3 m a b (3 : Int32)) ?_
  refine S.iloadN 1 (H dp__0) rfl (S.aloadN 2 (H dp__1) rfl rfl (S.alen 3 (H dp__2) B ?_))
  refine S.iadd 4 (H dp__3) ?_
  rw [show (3 + 2 : Int32) = 5 from by decide]
  refine S.aloadN 5 (H dp__4) rfl rfl (S.alen 6 (H dp__5) A ?_)
  refine S.icmpY 11 (H dp__6) (qLeT (by decide)) (S.aloadN 12 (H dp__11) rfl rfl (S.iloadN 13 (H dp__12) rfl (S.caload (v := .int t3) 14 (H dp__13) A ⟨by decide, by decide⟩ rfl ?_)))
  refine S.aloadN 15 (H dp__14) rfl rfl (S.iconst 16 (0 : Int32) (H dp__15) (S.caload (v := .int q0) 17 (H dp__16) B ⟨by decide, by decide⟩ rfl ?_))
  by_cases hb31 : t3 = q0
  ·skip
   refine S.icmpY 22 (H dp__17) (qEqT hb31) (S.aloadN 23 (H dp__22) rfl rfl (S.alen 24 (H dp__23) B ?_))
   refine S.iconst 25 (2 : Int32) (H dp__24) (S.icmpN 28 (H dp__25) (qNeF (by decide)) (S.aloadN 29 (H dp__28) rfl rfl (S.iloadN 30 (H dp__29) rfl (S.iconst 31 (1 : Int32) (H dp__30) (S.iadd 32 (H dp__31) ?_)))))
   rw [show (3 + 1 : Int32) = 4 from by decide]
   refine S.caload (v := .int t4) 33 (H dp__32) A ⟨by decide, by decide⟩ rfl ?_
   refine S.aloadN 34 (H dp__33) rfl rfl (S.iconst 35 (1 : Int32) (H dp__34) (S.caload (v := .int q1) 36 (H dp__35) B ⟨by decide, by decide⟩ rfl ?_))
   by_cases hb32 : t4 = q1
   ·skip
    refine S.icmpY 41 (H dp__36) (qEqT hb32) (S.iconst 42 (1 : Int32) (H dp__41) ?_)
    have k33 : b3 = true := by rw [e3, decide_eq_true hb31, decide_eq_true hb32] <;> rfl
    exact S.retN (t := .boolean) (H dp__42) hret (by decide) (by decide) (by decide) ⟨by rw [k33] <;> rfl, rfl⟩
   ·skip
    refine S.icmpN 39 (H dp__36) (qEqF hb32) (S.iconst 40 (0 : Int32) (H dp__39) ?_)
    have k34 : b3 = false := by rw [e3, decide_eq_false hb32, Bool.and_false]
    exact S.retN (t := .boolean) (H dp__40) hret (by decide) (by decide) (by decide) ⟨by rw [k34] <;> rfl, rfl⟩
  ·skip
   refine S.icmpN 20 (H dp__17) (qEqF hb31) (S.iconst 21 (0 : Int32) (H dp__20) ?_)
   have k35 : b3 = false := by rw [e3, decide_eq_false hb31] <;> rfl
   exact S.retN (t := .boolean) (H dp__21) hret (by decide) (by decide) (by decide) ⟨by rw [k35] <;> rfl, rfl⟩

theorem dp__9 : decode method_3_code 9 = .ok (.iconst 0, 1) := by decide +kernel
theorem dp__10 : decode method_3_code 10 = .ok (.ireturn, 1) := by decide +kernel
set_option maxRecDepth 65536 in
set_option maxHeartbeats 4000000 in
theorem own_occ_2_4 (l : Launch) (Z : State) (a0 : Array Value) (hw : ∀ d ∈ tables_1, d.before a0 Z = true) (h0 : Heap) (n0 : Nat) (O : Old Z n0 h0) (a : Addr) (b : Addr) (ka : ClassId) (kb : ClassId) (da : Value) (db : Value) (t0 : Int32) (t1 : Int32) (t2 : Int32) (t3 : Int32) (t4 : Int32) (q0 : Int32) (q1 : Int32) (A : Arv Z h0 a ka .char (5 : Int32) [(.int t0), (.int t1), (.int t2), (.int t3), (.int t4)] da) (B : Arv Z h0 b kb .char (2 : Int32) [(.int q0), (.int q1)] db) :
   Con l Z n0 (⟨"com/example/oref/oref/wikipedia/MatchesEndFromPinLaw", "occ", "([C[CI)Z"⟩ : MethodName) method_3_code 3 (some .boolean) [] ({ frames := 0, cells := 0, slots := 0, locals := 0 } : Room) #[(.ref a), (.ref b), (.int 4)] h0 [] (fun v h' => v = some (.int 0) ∧ h' = h0) := by
  refine Con.of a0 (plainFor_of_name own_pn_2) O (fun _ q => nomatch q) [] (fun _ q => nomatch q) ?_
  intro p e s m below meth cdX T S hby hml hret hnm
  have H := fun {k r} q => @hb _ _ hby k r q
  have W := @Tw a0 Z hw
  refine Go.cast (own_ef_3 m a b (4 : Int32)) ?_
  refine S.iloadN 1 (H dp__0) rfl (S.aloadN 2 (H dp__1) rfl rfl (S.alen 3 (H dp__2) B ?_))
  refine S.iadd 4 (H dp__3) ?_
  rw [show (4 + 2 : Int32) = 6 from by decide]
  refine S.aloadN 5 (H dp__4) rfl rfl (S.alen 6 (H dp__5) A ?_)
  refine S.icmpN 9 (H dp__6) (qLeF (by decide)) (S.iconst 10 (0 : Int32) (H dp__9) ?_)
  exact S.retN (t := .boolean) (H dp__10) hret (by decide) (by decide) (by decide) ⟨rfl, rfl⟩

theorem own_ef_4 (m : MethodId) (x0 : Addr) (x1 : Int32) (x2 : Addr) (x3 : Int32) (x4 : Int32) : entryFrame m #[(.ref x0), (.int x1), (.ref x2), (.int x3), (.int x4)] 11 = mkF m 0 #[vr x0, vi x1, vr x2, vi x3, vi x4, uN, uN, uN, uN, uN, uN] [] := by rfl
theorem dk__0 : decode jdk_43_method_25_code 0 = .ok (.aload_n 2, 1) := by decide +kernel
theorem dk__1 : decode jdk_43_method_25_code 1 = .ok (.iconst 0, 1) := by decide +kernel
theorem dk__2 : decode jdk_43_method_25_code 2 = .ok (.baload, 1) := by decide +kernel
theorem dk__3 : decode jdk_43_method_25_code 3 = .ok (.istore 5, 2) := by decide +kernel
theorem dk__5 : decode jdk_43_method_25_code 5 = .ok (.iload_n 1, 1) := by decide +kernel
theorem dk__6 : decode jdk_43_method_25_code 6 = .ok (.iload_n 3, 1) := by decide +kernel
theorem dk__7 : decode jdk_43_method_25_code 7 = .ok (.isub, 1) := by decide +kernel
theorem dk__8 : decode jdk_43_method_25_code 8 = .ok (.istore 6, 2) := by decide +kernel
theorem dk__10 : decode jdk_43_method_25_code 10 = .ok (.iload 4, 2) := by decide +kernel
theorem dk__12 : decode jdk_43_method_25_code 12 = .ok (.istore 7, 2) := by decide +kernel
theorem dk__14 : decode jdk_43_method_25_code 14 = .ok (.iload 7, 2) := by decide +kernel
theorem dk__16 : decode jdk_43_method_25_code 16 = .ok (.iload 6, 2) := by decide +kernel
theorem dk__18 : decode jdk_43_method_25_code 18 = .ok (.if_icmp .gt 101, 3) := by decide +kernel
theorem dk__21 : decode jdk_43_method_25_code 21 = .ok (.aload_n 0, 1) := by decide +kernel
theorem dk__22 : decode jdk_43_method_25_code 22 = .ok (.iload 7, 2) := by decide +kernel
theorem dk__24 : decode jdk_43_method_25_code 24 = .ok (.baload, 1) := by decide +kernel
theorem dk__25 : decode jdk_43_method_25_code 25 = .ok (.iload 5, 2) := by decide +kernel
theorem dk__27 : decode jdk_43_method_25_code 27 = .ok (.if_icmp .eq 25, 3) := by decide +kernel
theorem dk__52 : decode jdk_43_method_25_code 52 = .ok (.iload 7, 2) := by decide +kernel
theorem dk__54 : decode jdk_43_method_25_code 54 = .ok (.iload 6, 2) := by decide +kernel
theorem dk__56 : decode jdk_43_method_25_code 56 = .ok (.if_icmp .gt 57, 3) := by decide +kernel
theorem dk__59 : decode jdk_43_method_25_code 59 = .ok (.iload 7, 2) := by decide +kernel
theorem dk__61 : decode jdk_43_method_25_code 61 = .ok (.iconst 1, 1) := by decide +kernel
theorem dk__62 : decode jdk_43_method_25_code 62 = .ok (.iadd, 1) := by decide +kernel
theorem dk__63 : decode jdk_43_method_25_code 63 = .ok (.istore 8, 2) := by decide +kernel
theorem dk__65 : decode jdk_43_method_25_code 65 = .ok (.iload 8, 2) := by decide +kernel
theorem dk__67 : decode jdk_43_method_25_code 67 = .ok (.iload_n 3, 1) := by decide +kernel
theorem dk__68 : decode jdk_43_method_25_code 68 = .ok (.iadd, 1) := by decide +kernel
theorem dk__69 : decode jdk_43_method_25_code 69 = .ok (.iconst 1, 1) := by decide +kernel
theorem dk__70 : decode jdk_43_method_25_code 70 = .ok (.isub, 1) := by decide +kernel
theorem dk__71 : decode jdk_43_method_25_code 71 = .ok (.istore 9, 2) := by decide +kernel
theorem dk__73 : decode jdk_43_method_25_code 73 = .ok (.iconst 1, 1) := by decide +kernel
theorem dk__74 : decode jdk_43_method_25_code 74 = .ok (.istore 10, 2) := by decide +kernel
theorem dk__76 : decode jdk_43_method_25_code 76 = .ok (.iload 8, 2) := by decide +kernel
theorem dk__78 : decode jdk_43_method_25_code 78 = .ok (.iload 9, 2) := by decide +kernel
theorem dk__80 : decode jdk_43_method_25_code 80 = .ok (.if_icmp .ge 23, 3) := by decide +kernel
theorem dk__103 : decode jdk_43_method_25_code 103 = .ok (.iload 8, 2) := by decide +kernel
theorem dk__105 : decode jdk_43_method_25_code 105 = .ok (.iload 9, 2) := by decide +kernel
theorem dk__107 : decode jdk_43_method_25_code 107 = .ok (.if_icmp .ne 6, 3) := by decide +kernel
theorem dk__110 : decode jdk_43_method_25_code 110 = .ok (.iload 7, 2) := by decide +kernel
theorem dk__112 : decode jdk_43_method_25_code 112 = .ok (.ireturn, 1) := by decide +kernel
theorem dk__30 : decode jdk_43_method_25_code 30 = .ok (.iinc 7 1, 3) := by decide +kernel
theorem dk__33 : decode jdk_43_method_25_code 33 = .ok (.iload 7, 2) := by decide +kernel
theorem dk__35 : decode jdk_43_method_25_code 35 = .ok (.iload 6, 2) := by decide +kernel
theorem dk__37 : decode jdk_43_method_25_code 37 = .ok (.if_icmp .gt 15, 3) := by decide +kernel
theorem dk__40 : decode jdk_43_method_25_code 40 = .ok (.aload_n 0, 1) := by decide +kernel
theorem dk__41 : decode jdk_43_method_25_code 41 = .ok (.iload 7, 2) := by decide +kernel
theorem dk__43 : decode jdk_43_method_25_code 43 = .ok (.baload, 1) := by decide +kernel
theorem dk__44 : decode jdk_43_method_25_code 44 = .ok (.iload 5, 2) := by decide +kernel
theorem dk__46 : decode jdk_43_method_25_code 46 = .ok (.if_icmp .eq 6, 3) := by decide +kernel
theorem dk__49 : decode jdk_43_method_25_code 49 = .ok (.goto (-19), 3) := by decide +kernel
theorem dk__113 : decode jdk_43_method_25_code 113 = .ok (.iinc 7 1, 3) := by decide +kernel
theorem dk__116 : decode jdk_43_method_25_code 116 = .ok (.goto (-102), 3) := by decide +kernel
theorem dk__119 : decode jdk_43_method_25_code 119 = .ok (.iconst (-1), 1) := by decide +kernel
theorem dk__120 : decode jdk_43_method_25_code 120 = .ok (.ireturn, 1) := by decide +kernel
theorem own_pn_5 : plainName "java/lang/StringLatin1" = true := by first | (simp [plainName, overriddenIn]; done) | decide +kernel
set_option maxRecDepth 65536 in
set_option maxHeartbeats 4000000 in
theorem own_io_1_0 (l : Launch) (Z : State) (a0 : Array Value) (hw : ∀ d ∈ tables_1, d.before a0 Z = true) (h0 : Heap) (n0 : Nat) (O : Old Z n0 h0) (ta : Addr) (ka : ClassId) (da : Value) (x0 : Int32) (x1 : Int32) (x2 : Int32) (x3 : Int32) (x4 : Int32) (tb : Addr) (kb : ClassId) (db : Value) (y0 : Int32) (b0 : Bool) (b1 : Bool) (b2 : Bool) (b3 : Bool) (b4 : Bool) (AA : Arv Z h0 ta ka .byte (5 : Int32) [(.int x0), (.int x1), (.int x2), (.int x3), (.int x4)] da) (AB : Arv Z h0 tb kb .byte (1 : Int32) [(.int y0)] db) (e0 : b0 = decide (x0 = y0)) (e1 : b1 = decide (x1 = y0)) (e2 : b2 = decide (x2 = y0)) (e3 : b3 = decide (x3 = y0)) (e4 : b4 = decide (x4 = y0)) :
   Con l Z n0 (⟨"java/lang/StringLatin1", "indexOf", "([BI[BII)I"⟩ : MethodName) jdk_43_method_25_code 11 (some .int) [] ({ frames := 0, cells := 0, slots := 0, locals := 0 } : Room) #[(.ref ta), (.int 5), (.ref tb), (.int 1), (.int 0)] h0 [] (fun v h' => v = some (.int (own_nx [(b0, 0), (b1, 1), (b2, 2), (b3, 3), (b4, 4)])) ∧ h' = h0) := by
  refine Con.of a0 (plainFor_of_name own_pn_5) O (fun _ q => nomatch q) [] (fun _ q => nomatch q) ?_
  intro p e s m below meth cdX T S hby hml hret hnm
  have H := fun {k r} q => @hb _ _ hby k r q
  have W := @Tw a0 Z hw
  refine Go.cast (own_ef_4 m ta (5 : Int32) tb (1 : Int32) (0 : Int32)) ?_
  refine S.aloadN 1 (H dk__0) rfl rfl (S.iconst 2 (0 : Int32) (H dk__1) (S.baload (v := .int y0) 3 (H dk__2) AB ⟨by decide, by decide⟩ rfl ?_))
  refine S.istore 5 #[vr ta, vi 5, vr tb, vi 1, vi 0, vi y0, uN, uN, uN, uN, uN] (H dk__3) rfl (S.iloadN 6 (H dk__5) rfl (S.iloadN 7 (H dk__6) rfl (S.isub 8 (H dk__7) ?_)))
  rw [show (5 - 1 : Int32) = 4 from by decide]
  refine S.istore 10 #[vr ta, vi 5, vr tb, vi 1, vi 0, vi y0, vi 4, uN, uN, uN, uN] (H dk__8) rfl (S.iload 12 (H dk__10) rfl (S.istore 14 #[vr ta, vi 5, vr tb, vi 1, vi 0, vi y0, vi 4, vi 0, uN, uN, uN] (H dk__12) rfl (S.iload 16 (H dk__14) rfl (S.iload 18 (H dk__16) rfl (S.icmpN 21 (H dk__18) (qGtF (by decide)) (S.aloadN 22 (H dk__21) rfl rfl ?_))))))
  refine S.iload 24 (H dk__22) rfl (S.baload (v := .int x0) 25 (H dk__24) AA ⟨by decide, by decide⟩ rfl ?_)
  refine S.iload 27 (H dk__25) rfl ?_
  by_cases hb36 : x0 = y0
  ·skip
   refine S.icmpY 52 (H dk__27) (qEqT hb36) (S.iload 54 (H dk__52) rfl (S.iload 56 (H dk__54) rfl (S.icmpN 59 (H dk__56) (qGtF (by decide)) (S.iload 61 (H dk__59) rfl (S.iconst 62 (1 : Int32) (H dk__61) (S.iadd 63 (H dk__62) ?_))))))
   rw [show (0 + 1 : Int32) = 1 from by decide]
   refine S.istore 65 #[vr ta, vi 5, vr tb, vi 1, vi 0, vi y0, vi 4, vi 0, vi 1, uN, uN] (H dk__63) rfl (S.iload 67 (H dk__65) rfl (S.iloadN 68 (H dk__67) rfl (S.iadd 69 (H dk__68) ?_)))
   rw [show (1 + 1 : Int32) = 2 from by decide]
   refine S.iconst 70 (1 : Int32) (H dk__69) (S.isub 71 (H dk__70) ?_)
   rw [show (2 - 1 : Int32) = 1 from by decide]
   refine S.istore 73 #[vr ta, vi 5, vr tb, vi 1, vi 0, vi y0, vi 4, vi 0, vi 1, vi 1, uN] (H dk__71) rfl (S.iconst 74 (1 : Int32) (H dk__73) (S.istore 76 #[vr ta, vi 5, vr tb, vi 1, vi 0, vi y0, vi 4, vi 0, vi 1, vi 1, vi 1] (H dk__74) rfl (S.iload 78 (H dk__76) rfl (S.iload 80 (H dk__78) rfl (S.icmpY 103 (H dk__80) (qGeT (by decide)) (S.iload 105 (H dk__103) rfl ?_))))))
   refine S.iload 107 (H dk__105) rfl (S.icmpN 110 (H dk__107) (qNeF (by decide)) (S.iload 112 (H dk__110) rfl ?_))
   have k37 : b0 = true := by rw [e0, decide_eq_true hb36]
   exact S.retI (H dk__112) hret (by decide) (by decide) ⟨by rw [k37] <;> rfl, rfl⟩
  ·skip
   refine S.icmpN 30 (H dk__27) (qEqF hb36) (S.iinc 33 #[vr ta, vi 5, vr tb, vi 1, vi 0, vi y0, vi 4, vi ((0 : Int32) + (1 : Int32)), uN, uN, uN] (H dk__30) rfl rfl ?_)
   rw [show (0 + 1 : Int32) = 1 from by decide]
   refine S.iload 35 (H dk__33) rfl (S.iload 37 (H dk__35) rfl (S.icmpN 40 (H dk__37) (qGtF (by decide)) (S.aloadN 41 (H dk__40) rfl rfl (S.iload 43 (H dk__41) rfl (S.baload (v := .int x1) 44 (H dk__43) AA ⟨by decide, by decide⟩ rfl ?_)))))
   refine S.iload 46 (H dk__44) rfl ?_
   by_cases hb38 : x1 = y0
   ·skip
    refine S.icmpY 52 (H dk__46) (qEqT hb38) (S.iload 54 (H dk__52) rfl (S.iload 56 (H dk__54) rfl (S.icmpN 59 (H dk__56) (qGtF (by decide)) (S.iload 61 (H dk__59) rfl (S.iconst 62 (1 : Int32) (H dk__61) (S.iadd 63 (H dk__62) ?_))))))
    rw [show (1 + 1 : Int32) = 2 from by decide]
    refine S.istore 65 #[vr ta, vi 5, vr tb, vi 1, vi 0, vi y0, vi 4, vi 1, vi 2, uN, uN] (H dk__63) rfl (S.iload 67 (H dk__65) rfl (S.iloadN 68 (H dk__67) rfl (S.iadd 69 (H dk__68) ?_)))
    rw [show (2 + 1 : Int32) = 3 from by decide]
    refine S.iconst 70 (1 : Int32) (H dk__69) (S.isub 71 (H dk__70) ?_)
    rw [show (3 - 1 : Int32) = 2 from by decide]
    refine S.istore 73 #[vr ta, vi 5, vr tb, vi 1, vi 0, vi y0, vi 4, vi 1, vi 2, vi 2, uN] (H dk__71) rfl (S.iconst 74 (1 : Int32) (H dk__73) (S.istore 76 #[vr ta, vi 5, vr tb, vi 1, vi 0, vi y0, vi 4, vi 1, vi 2, vi 2, vi 1] (H dk__74) rfl (S.iload 78 (H dk__76) rfl (S.iload 80 (H dk__78) rfl (S.icmpY 103 (H dk__80) (qGeT (by decide)) (S.iload 105 (H dk__103) rfl ?_))))))
    refine S.iload 107 (H dk__105) rfl (S.icmpN 110 (H dk__107) (qNeF (by decide)) (S.iload 112 (H dk__110) rfl ?_))
    have k39 : b0 = false := by rw [e0, decide_eq_false hb36] <;> rfl
    have k40 : b1 = true := by rw [e1, decide_eq_true hb38]
    exact S.retI (H dk__112) hret (by decide) (by decide) ⟨by rw [k39, k40] <;> rfl, rfl⟩
   ·skip
    refine S.icmpN 49 (H dk__46) (qEqF hb38) (S.goto 30 (H dk__49) (S.iinc 33 #[vr ta, vi 5, vr tb, vi 1, vi 0, vi y0, vi 4, vi ((1 : Int32) + (1 : Int32)), uN, uN, uN] (H dk__30) rfl rfl ?_))
    rw [show (1 + 1 : Int32) = 2 from by decide]
    refine S.iload 35 (H dk__33) rfl (S.iload 37 (H dk__35) rfl (S.icmpN 40 (H dk__37) (qGtF (by decide)) (S.aloadN 41 (H dk__40) rfl rfl (S.iload 43 (H dk__41) rfl (S.baload (v := .int x2) 44 (H dk__43) AA ⟨by decide, by decide⟩ rfl ?_)))))
    refine S.iload 46 (H dk__44) rfl ?_
    by_cases hb41 : x2 = y0
    ·skip
     refine S.icmpY 52 (H dk__46) (qEqT hb41) (S.iload 54 (H dk__52) rfl (S.iload 56 (H dk__54) rfl (S.icmpN 59 (H dk__56) (qGtF (by decide)) (S.iload 61 (H dk__59) rfl (S.iconst 62 (1 : Int32) (H dk__61) (S.iadd 63 (H dk__62) ?_))))))
     rw [show (2 + 1 : Int32) = 3 from by decide]
     refine S.istore 65 #[vr ta, vi 5, vr tb, vi 1, vi 0, vi y0, vi 4, vi 2, vi 3, uN, uN] (H dk__63) rfl (S.iload 67 (H dk__65) rfl (S.iloadN 68 (H dk__67) rfl (S.iadd 69 (H dk__68) ?_)))
     rw [show (3 + 1 : Int32) = 4 from by decide]
     refine S.iconst 70 (1 : Int32) (H dk__69) (S.isub 71 (H dk__70) ?_)
     rw [show (4 - 1 : Int32) = 3 from by decide]
     refine S.istore 73 #[vr ta, vi 5, vr tb, vi 1, vi 0, vi y0, vi 4, vi 2, vi 3, vi 3, uN] (H dk__71) rfl (S.iconst 74 (1 : Int32) (H dk__73) (S.istore 76 #[vr ta, vi 5, vr tb, vi 1, vi 0, vi y0, vi 4, vi 2, vi 3, vi 3, vi 1] (H dk__74) rfl (S.iload 78 (H dk__76) rfl (S.iload 80 (H dk__78) rfl (S.icmpY 103 (H dk__80) (qGeT (by decide)) (S.iload 105 (H dk__103) rfl ?_))))))
     refine S.iload 107 (H dk__105) rfl (S.icmpN 110 (H dk__107) (qNeF (by decide)) (S.iload 112 (H dk__110) rfl ?_))
     have k42 : b0 = false := by rw [e0, decide_eq_false hb36] <;> rfl
     have k43 : b1 = false := by rw [e1, decide_eq_false hb38] <;> rfl
     have k44 : b2 = true := by rw [e2, decide_eq_true hb41]
     exact S.retI (H dk__112) hret (by decide) (by decide) ⟨by rw [k42, k43, k44] <;> rfl, rfl⟩
    ·skip
     refine S.icmpN 49 (H dk__46) (qEqF hb41) (S.goto 30 (H dk__49) (S.iinc 33 #[vr ta, vi 5, vr tb, vi 1, vi 0, vi y0, vi 4, vi ((2 : Int32) + (1 : Int32)), uN, uN, uN] (H dk__30) rfl rfl ?_))
     rw [show (2 + 1 : Int32) = 3 from by decide]
     refine S.iload 35 (H dk__33) rfl (S.iload 37 (H dk__35) rfl (S.icmpN 40 (H dk__37) (qGtF (by decide)) (S.aloadN 41 (H dk__40) rfl rfl (S.iload 43 (H dk__41) rfl (S.baload (v := .int x3) 44 (H dk__43) AA ⟨by decide, by decide⟩ rfl ?_)))))
     refine S.iload 46 (H dk__44) rfl ?_
     by_cases hb45 : x3 = y0
     ·skip
      refine S.icmpY 52 (H dk__46) (qEqT hb45) (S.iload 54 (H dk__52) rfl (S.iload 56 (H dk__54) rfl (S.icmpN 59 (H dk__56) (qGtF (by decide)) (S.iload 61 (H dk__59) rfl (S.iconst 62 (1 : Int32) (H dk__61) (S.iadd 63 (H dk__62) ?_))))))
      rw [show (3 + 1 : Int32) = 4 from by decide]
      refine S.istore 65 #[vr ta, vi 5, vr tb, vi 1, vi 0, vi y0, vi 4, vi 3, vi 4, uN, uN] (H dk__63) rfl (S.iload 67 (H dk__65) rfl (S.iloadN 68 (H dk__67) rfl (S.iadd 69 (H dk__68) ?_)))
      rw [show (4 + 1 : Int32) = 5 from by decide]
      refine S.iconst 70 (1 : Int32) (H dk__69) (S.isub 71 (H dk__70) ?_)
      rw [show (5 - 1 : Int32) = 4 from by decide]
      refine S.istore 73 #[vr ta, vi 5, vr tb, vi 1, vi 0, vi y0, vi 4, vi 3, vi 4, vi 4, uN] (H dk__71) rfl (S.iconst 74 (1 : Int32) (H dk__73) (S.istore 76 #[vr ta, vi 5, vr tb, vi 1, vi 0, vi y0, vi 4, vi 3, vi 4, vi 4, vi 1] (H dk__74) rfl (S.iload 78 (H dk__76) rfl (S.iload 80 (H dk__78) rfl (S.icmpY 103 (H dk__80) (qGeT (by decide)) (S.iload 105 (H dk__103) rfl ?_))))))
      refine S.iload 107 (H dk__105) rfl (S.icmpN 110 (H dk__107) (qNeF (by decide)) (S.iload 112 (H dk__110) rfl ?_))
      have k46 : b0 = false := by rw [e0, decide_eq_false hb36] <;> rfl
      have k47 : b1 = false := by rw [e1, decide_eq_false hb38] <;> rfl
      have k48 : b2 = false := by rw [e2, decide_eq_false hb41] <;> rfl
      have k49 : b3 = true := by rw [e3, decide_eq_true hb45]
      exact S.retI (H dk__112) hret (by decide) (by decide) ⟨by rw [k46, k47, k48, k49] <;> rfl, rfl⟩
     ·skip
      refine S.icmpN 49 (H dk__46) (qEqF hb45) (S.goto 30 (H dk__49) (S.iinc 33 #[vr ta, vi 5, vr tb, vi 1, vi 0, vi y0, vi 4, vi ((3 : Int32) + (1 : Int32)), uN, uN, uN] (H dk__30) rfl rfl ?_))
      rw [show (3 + 1 : Int32) = 4 from by decide]
      refine S.iload 35 (H dk__33) rfl (S.iload 37 (H dk__35) rfl (S.icmpN 40 (H dk__37) (qGtF (by decide)) (S.aloadN 41 (H dk__40) rfl rfl (S.iload 43 (H dk__41) rfl (S.baload (v := .int x4) 44 (H dk__43) AA ⟨by decide, by decide⟩ rfl ?_)))))
      refine S.iload 46 (H dk__44) rfl ?_
      by_cases hb50 : x4 = y0
      ·skip
       refine S.icmpY 52 (H dk__46) (qEqT hb50) (S.iload 54 (H dk__52) rfl (S.iload 56 (H dk__54) rfl (S.icmpN 59 (H dk__56) (qGtF (by decide)) (S.iload 61 (H dk__59) rfl (S.iconst 62 (1 : Int32) (H dk__61) (S.iadd 63 (H dk__62) ?_))))))
       rw [show (4 + 1 : Int32) = 5 from by decide]
       refine S.istore 65 #[vr ta, vi 5, vr tb, vi 1, vi 0, vi y0, vi 4, vi 4, vi 5, uN, uN] (H dk__63) rfl (S.iload 67 (H dk__65) rfl (S.iloadN 68 (H dk__67) rfl (S.iadd 69 (H dk__68) ?_)))
       rw [show (5 + 1 : Int32) = 6 from by decide]
       refine S.iconst 70 (1 : Int32) (H dk__69) (S.isub 71 (H dk__70) ?_)
       rw [show (6 - 1 : Int32) = 5 from by decide]
       refine S.istore 73 #[vr ta, vi 5, vr tb, vi 1, vi 0, vi y0, vi 4, vi 4, vi 5, vi 5, uN] (H dk__71) rfl (S.iconst 74 (1 : Int32) (H dk__73) (S.istore 76 #[vr ta, vi 5, vr tb, vi 1, vi 0, vi y0, vi 4, vi 4, vi 5, vi 5, vi 1] (H dk__74) rfl (S.iload 78 (H dk__76) rfl (S.iload 80 (H dk__78) rfl (S.icmpY 103 (H dk__80) (qGeT (by decide)) (S.iload 105 (H dk__103) rfl ?_))))))
       refine S.iload 107 (H dk__105) rfl (S.icmpN 110 (H dk__107) (qNeF (by decide)) (S.iload 112 (H dk__110) rfl ?_))
       have k51 : b0 = false := by rw [e0, decide_eq_false hb36] <;> rfl
       have k52 : b1 = false := by rw [e1, decide_eq_false hb38] <;> rfl
       have k53 : b2 = false := by rw [e2, decide_eq_false hb41] <;> rfl
       have k54 : b3 = false := by rw [e3, decide_eq_false hb45] <;> rfl
       have k55 : b4 = true := by rw [e4, decide_eq_true hb50]
       exact S.retI (H dk__112) hret (by decide) (by decide) ⟨by rw [k51, k52, k53, k54, k55] <;> rfl, rfl⟩
      ·skip
       refine S.icmpN 49 (H dk__46) (qEqF hb50) (S.goto 30 (H dk__49) (S.iinc 33 #[vr ta, vi 5, vr tb, vi 1, vi 0, vi y0, vi 4, vi ((4 : Int32) + (1 : Int32)), uN, uN, uN] (H dk__30) rfl rfl ?_))
       rw [show (4 + 1 : Int32) = 5 from by decide]
       refine S.iload 35 (H dk__33) rfl (S.iload 37 (H dk__35) rfl (S.icmpY 52 (H dk__37) (qGtT (by decide)) (S.iload 54 (H dk__52) rfl (S.iload 56 (H dk__54) rfl (S.icmpY 113 (H dk__56) (qGtT (by decide)) (S.iinc 116 #[vr ta, vi 5, vr tb, vi 1, vi 0, vi y0, vi 4, vi ((5 : Int32) + (1 : Int32)), uN, uN, uN] (H dk__113) rfl rfl ?_))))))
       rw [show (5 + 1 : Int32) = 6 from by decide]
       refine S.goto 14 (H dk__116) (S.iload 16 (H dk__14) rfl (S.iload 18 (H dk__16) rfl (S.icmpY 119 (H dk__18) (qGtT (by decide)) (S.iconst 120 (-1 : Int32) (H dk__119) ?_))))
       have k56 : b0 = false := by rw [e0, decide_eq_false hb36] <;> rfl
       have k57 : b1 = false := by rw [e1, decide_eq_false hb38] <;> rfl
       have k58 : b2 = false := by rw [e2, decide_eq_false hb41] <;> rfl
       have k59 : b3 = false := by rw [e3, decide_eq_false hb45] <;> rfl
       have k60 : b4 = false := by rw [e4, decide_eq_false hb50] <;> rfl
       exact S.retI (H dk__120) hret (by decide) (by decide) ⟨by rw [k56, k57, k58, k59, k60] <;> rfl, rfl⟩


set_option maxRecDepth 65536 in
set_option maxHeartbeats 4000000 in
theorem own_io_1_1 (l : Launch) (Z : State) (a0 : Array Value) (hw : ∀ d ∈ tables_1, d.before a0 Z = true) (h0 : Heap) (n0 : Nat) (O : Old Z n0 h0) (ta : Addr) (ka : ClassId) (da : Value) (x0 : Int32) (x1 : Int32) (x2 : Int32) (x3 : Int32) (x4 : Int32) (tb : Addr) (kb : ClassId) (db : Value) (y0 : Int32) (b1 : Bool) (b2 : Bool) (b3 : Bool) (b4 : Bool) (AA : Arv Z h0 ta ka .byte (5 : Int32) [(.int x0), (.int x1), (.int x2), (.int x3), (.int x4)] da) (AB : Arv Z h0 tb kb .byte (1 : Int32) [(.int y0)] db) (e1 : b1 = decide (x1 = y0)) (e2 : b2 = decide (x2 = y0)) (e3 : b3 = decide (x3 = y0)) (e4 : b4 = decide (x4 = y0)) :
   Con l Z n0 (⟨"java/lang/StringLatin1", "indexOf", "([BI[BII)I"⟩ : MethodName) jdk_43_method_25_code 11 (some .int) [] ({ frames := 0, cells := 0, slots := 0, locals := 0 } : Room) #[(.ref ta), (.int 5), (.ref tb), (.int 1), (.int 1)] h0 [] (fun v h' => v = some (.int (own_nx [(b1, 1), (b2, 2), (b3, 3), (b4, 4)])) ∧ h' = h0) := by
  refine Con.of a0 (plainFor_of_name own_pn_5) O (fun _ q => nomatch q) [] (fun _ q => nomatch q) ?_
  intro p e s m below meth cdX T S hby hml hret hnm
  have H := fun {k r} q => @hb _ _ hby k r q
  have W := @Tw a0 Z hw
  refine Go.cast (own_ef_4 m ta (5 : Int32) tb (1 : Int32) (1 : Int32)) ?_
  refine S.aloadN 1 (H dk__0) rfl rfl (S.iconst 2 (0 : Int32) (H dk__1) (S.baload (v := .int y0) 3 (H dk__2) AB ⟨by decide, by decide⟩ rfl ?_))
  refine S.istore 5 #[vr ta, vi 5, vr tb, vi 1, vi 1, vi y0, uN, uN, uN, uN, uN] (H dk__3) rfl (S.iloadN 6 (H dk__5) rfl (S.iloadN 7 (H dk__6) rfl (S.isub 8 (H dk__7) ?_)))
  rw [show (5 - 1 : Int32) = 4 from by decide]
  refine S.istore 10 #[vr ta, vi 5, vr tb, vi 1, vi 1, vi y0, vi 4, uN, uN, uN, uN] (H dk__8) rfl (S.iload 12 (H dk__10) rfl (S.istore 14 #[vr ta, vi 5, vr tb, vi 1, vi 1, vi y0, vi 4, vi 1, uN, uN, uN] (H dk__12) rfl (S.iload 16 (H dk__14) rfl (S.iload 18 (H dk__16) rfl (S.icmpN 21 (H dk__18) (qGtF (by decide)) (S.aloadN 22 (H dk__21) rfl rfl ?_))))))
  refine S.iload 24 (H dk__22) rfl (S.baload (v := .int x1) 25 (H dk__24) AA ⟨by decide, by decide⟩ rfl ?_)
  refine S.iload 27 (H dk__25) rfl ?_
  by_cases hb61 : x1 = y0
  ·skip
   refine S.icmpY 52 (H dk__27) (qEqT hb61) (S.iload 54 (H dk__52) rfl (S.iload 56 (H dk__54) rfl (S.icmpN 59 (H dk__56) (qGtF (by decide)) (S.iload 61 (H dk__59) rfl (S.iconst 62 (1 : Int32) (H dk__61) (S.iadd 63 (H dk__62) ?_))))))
   rw [show (1 + 1 : Int32) = 2 from by decide]
   refine S.istore 65 #[vr ta, vi 5, vr tb, vi 1, vi 1, vi y0, vi 4, vi 1, vi 2, uN, uN] (H dk__63) rfl (S.iload 67 (H dk__65) rfl (S.iloadN 68 (H dk__67) rfl (S.iadd 69 (H dk__68) ?_)))
   rw [show (2 + 1 : Int32) = 3 from by decide]
   refine S.iconst 70 (1 : Int32) (H dk__69) (S.isub 71 (H dk__70) ?_)
   rw [show (3 - 1 : Int32) = 2 from by decide]
   refine S.istore 73 #[vr ta, vi 5, vr tb, vi 1, vi 1, vi y0, vi 4, vi 1, vi 2, vi 2, uN] (H dk__71) rfl (S.iconst 74 (1 : Int32) (H dk__73) (S.istore 76 #[vr ta, vi 5, vr tb, vi 1, vi 1, vi y0, vi 4, vi 1, vi 2, vi 2, vi 1] (H dk__74) rfl (S.iload 78 (H dk__76) rfl (S.iload 80 (H dk__78) rfl (S.icmpY 103 (H dk__80) (qGeT (by decide)) (S.iload 105 (H dk__103) rfl ?_))))))
   refine S.iload 107 (H dk__105) rfl (S.icmpN 110 (H dk__107) (qNeF (by decide)) (S.iload 112 (H dk__110) rfl ?_))
   have k62 : b1 = true := by rw [e1, decide_eq_true hb61]
   exact S.retI (H dk__112) hret (by decide) (by decide) ⟨by rw [k62] <;> rfl, rfl⟩
  ·skip
   refine S.icmpN 30 (H dk__27) (qEqF hb61) (S.iinc 33 #[vr ta, vi 5, vr tb, vi 1, vi 1, vi y0, vi 4, vi ((1 : Int32) + (1 : Int32)), uN, uN, uN] (H dk__30) rfl rfl ?_)
   rw [show (1 + 1 : Int32) = 2 from by decide]
   refine S.iload 35 (H dk__33) rfl (S.iload 37 (H dk__35) rfl (S.icmpN 40 (H dk__37) (qGtF (by decide)) (S.aloadN 41 (H dk__40) rfl rfl (S.iload 43 (H dk__41) rfl (S.baload (v := .int x2) 44 (H dk__43) AA ⟨by decide, by decide⟩ rfl ?_)))))
   refine S.iload 46 (H dk__44) rfl ?_
   by_cases hb63 : x2 = y0
   ·skip
    refine S.icmpY 52 (H dk__46) (qEqT hb63) (S.iload 54 (H dk__52) rfl (S.iload 56 (H dk__54) rfl (S.icmpN 59 (H dk__56) (qGtF (by decide)) (S.iload 61 (H dk__59) rfl (S.iconst 62 (1 : Int32) (H dk__61) (S.iadd 63 (H dk__62) ?_))))))
    rw [show (2 + 1 : Int32) = 3 from by decide]
    refine S.istore 65 #[vr ta, vi 5, vr tb, vi 1, vi 1, vi y0, vi 4, vi 2, vi 3, uN, uN] (H dk__63) rfl (S.iload 67 (H dk__65) rfl (S.iloadN 68 (H dk__67) rfl (S.iadd 69 (H dk__68) ?_)))
    rw [show (3 + 1 : Int32) = 4 from by decide]
    refine S.iconst 70 (1 : Int32) (H dk__69) (S.isub 71 (H dk__70) ?_)
    rw [show (4 - 1 : Int32) = 3 from by decide]
    refine S.istore 73 #[vr ta, vi 5, vr tb, vi 1, vi 1, vi y0, vi 4, vi 2, vi 3, vi 3, uN] (H dk__71) rfl (S.iconst 74 (1 : Int32) (H dk__73) (S.istore 76 #[vr ta, vi 5, vr tb, vi 1, vi 1, vi y0, vi 4, vi 2, vi 3, vi 3, vi 1] (H dk__74) rfl (S.iload 78 (H dk__76) rfl (S.iload 80 (H dk__78) rfl (S.icmpY 103 (H dk__80) (qGeT (by decide)) (S.iload 105 (H dk__103) rfl ?_))))))
    refine S.iload 107 (H dk__105) rfl (S.icmpN 110 (H dk__107) (qNeF (by decide)) (S.iload 112 (H dk__110) rfl ?_))
    have k64 : b1 = false := by rw [e1, decide_eq_false hb61] <;> rfl
    have k65 : b2 = true := by rw [e2, decide_eq_true hb63]
    exact S.retI (H dk__112) hret (by decide) (by decide) ⟨by rw [k64, k65] <;> rfl, rfl⟩
   ·skip
    refine S.icmpN 49 (H dk__46) (qEqF hb63) (S.goto 30 (H dk__49) (S.iinc 33 #[vr ta, vi 5, vr tb, vi 1, vi 1, vi y0, vi 4, vi ((2 : Int32) + (1 : Int32)), uN, uN, uN] (H dk__30) rfl rfl ?_))
    rw [show (2 + 1 : Int32) = 3 from by decide]
    refine S.iload 35 (H dk__33) rfl (S.iload 37 (H dk__35) rfl (S.icmpN 40 (H dk__37) (qGtF (by decide)) (S.aloadN 41 (H dk__40) rfl rfl (S.iload 43 (H dk__41) rfl (S.baload (v := .int x3) 44 (H dk__43) AA ⟨by decide, by decide⟩ rfl ?_)))))
    refine S.iload 46 (H dk__44) rfl ?_
    by_cases hb66 : x3 = y0
    ·skip
     refine S.icmpY 52 (H dk__46) (qEqT hb66) (S.iload 54 (H dk__52) rfl (S.iload 56 (H dk__54) rfl (S.icmpN 59 (H dk__56) (qGtF (by decide)) (S.iload 61 (H dk__59) rfl (S.iconst 62 (1 : Int32) (H dk__61) (S.iadd 63 (H dk__62) ?_))))))
     rw [show (3 + 1 : Int32) = 4 from by decide]
     refine S.istore 65 #[vr ta, vi 5, vr tb, vi 1, vi 1, vi y0, vi 4, vi 3, vi 4, uN, uN] (H dk__63) rfl (S.iload 67 (H dk__65) rfl (S.iloadN 68 (H dk__67) rfl (S.iadd 69 (H dk__68) ?_)))
     rw [show (4 + 1 : Int32) = 5 from by decide]
     refine S.iconst 70 (1 : Int32) (H dk__69) (S.isub 71 (H dk__70) ?_)
     rw [show (5 - 1 : Int32) = 4 from by decide]
     refine S.istore 73 #[vr ta, vi 5, vr tb, vi 1, vi 1, vi y0, vi 4, vi 3, vi 4, vi 4, uN] (H dk__71) rfl (S.iconst 74 (1 : Int32) (H dk__73) (S.istore 76 #[vr ta, vi 5, vr tb, vi 1, vi 1, vi y0, vi 4, vi 3, vi 4, vi 4, vi 1] (H dk__74) rfl (S.iload 78 (H dk__76) rfl (S.iload 80 (H dk__78) rfl (S.icmpY 103 (H dk__80) (qGeT (by decide)) (S.iload 105 (H dk__103) rfl ?_))))))
     refine S.iload 107 (H dk__105) rfl (S.icmpN 110 (H dk__107) (qNeF (by decide)) (S.iload 112 (H dk__110) rfl ?_))
     have k67 : b1 = false := by rw [e1, decide_eq_false hb61] <;> rfl
     have k68 : b2 = false := by rw [e2, decide_eq_false hb63] <;> rfl
     have k69 : b3 = true := by rw [e3, decide_eq_true hb66]
     exact S.retI (H dk__112) hret (by decide) (by decide) ⟨by rw [k67, k68, k69] <;> rfl, rfl⟩
    ·skip
     refine S.icmpN 49 (H dk__46) (qEqF hb66) (S.goto 30 (H dk__49) (S.iinc 33 #[vr ta, vi 5, vr tb, vi 1, vi 1, vi y0, vi 4, vi ((3 : Int32) + (1 : Int32)), uN, uN, uN] (H dk__30) rfl rfl ?_))
     rw [show (3 + 1 : Int32) = 4 from by decide]
     refine S.iload 35 (H dk__33) rfl (S.iload 37 (H dk__35) rfl (S.icmpN 40 (H dk__37) (qGtF (by decide)) (S.aloadN 41 (H dk__40) rfl rfl (S.iload 43 (H dk__41) rfl (S.baload (v := .int x4) 44 (H dk__43) AA ⟨by decide, by decide⟩ rfl ?_)))))
     refine S.iload 46 (H dk__44) rfl ?_
     by_cases hb70 : x4 = y0
     ·skip
      refine S.icmpY 52 (H dk__46) (qEqT hb70) (S.iload 54 (H dk__52) rfl (S.iload 56 (H dk__54) rfl (S.icmpN 59 (H dk__56) (qGtF (by decide)) (S.iload 61 (H dk__59) rfl (S.iconst 62 (1 : Int32) (H dk__61) (S.iadd 63 (H dk__62) ?_))))))
      rw [show (4 + 1 : Int32) = 5 from by decide]
      refine S.istore 65 #[vr ta, vi 5, vr tb, vi 1, vi 1, vi y0, vi 4, vi 4, vi 5, uN, uN] (H dk__63) rfl (S.iload 67 (H dk__65) rfl (S.iloadN 68 (H dk__67) rfl (S.iadd 69 (H dk__68) ?_)))
      rw [show (5 + 1 : Int32) = 6 from by decide]
      refine S.iconst 70 (1 : Int32) (H dk__69) (S.isub 71 (H dk__70) ?_)
      rw [show (6 - 1 : Int32) = 5 from by decide]
      refine S.istore 73 #[vr ta, vi 5, vr tb, vi 1, vi 1, vi y0, vi 4, vi 4, vi 5, vi 5, uN] (H dk__71) rfl (S.iconst 74 (1 : Int32) (H dk__73) (S.istore 76 #[vr ta, vi 5, vr tb, vi 1, vi 1, vi y0, vi 4, vi 4, vi 5, vi 5, vi 1] (H dk__74) rfl (S.iload 78 (H dk__76) rfl (S.iload 80 (H dk__78) rfl (S.icmpY 103 (H dk__80) (qGeT (by decide)) (S.iload 105 (H dk__103) rfl ?_))))))
      refine S.iload 107 (H dk__105) rfl (S.icmpN 110 (H dk__107) (qNeF (by decide)) (S.iload 112 (H dk__110) rfl ?_))
      have k71 : b1 = false := by rw [e1, decide_eq_false hb61] <;> rfl
      have k72 : b2 = false := by rw [e2, decide_eq_false hb63] <;> rfl
      have k73 : b3 = false := by rw [e3, decide_eq_false hb66] <;> rfl
      have k74 : b4 = true := by rw [e4, decide_eq_true hb70]
      exact S.retI (H dk__112) hret (by decide) (by decide) ⟨by rw [k71, k72, k73, k74] <;> rfl, rfl⟩
     ·skip
      refine S.icmpN 49 (H dk__46) (qEqF hb70) (S.goto 30 (H dk__49) (S.iinc 33 #[vr ta, vi 5, vr tb, vi 1, vi 1, vi y0, vi 4, vi ((4 : Int32) + (1 : Int32)), uN, uN, uN] (H dk__30) rfl rfl ?_))
      rw [show (4 + 1 : Int32) = 5 from by decide]
      refine S.iload 35 (H dk__33) rfl (S.iload 37 (H dk__35) rfl (S.icmpY 52 (H dk__37) (qGtT (by decide)) (S.iload 54 (H dk__52) rfl (S.iload 56 (H dk__54) rfl (S.icmpY 113 (H dk__56) (qGtT (by decide)) (S.iinc 116 #[vr ta, vi 5, vr tb, vi 1, vi 1, vi y0, vi 4, vi ((5 : Int32) + (1 : Int32)), uN, uN, uN] (H dk__113) rfl rfl ?_))))))
      rw [show (5 + 1 : Int32) = 6 from by decide]
      refine S.goto 14 (H dk__116) (S.iload 16 (H dk__14) rfl (S.iload 18 (H dk__16) rfl (S.icmpY 119 (H dk__18) (qGtT (by decide)) (S.iconst 120 (-1 : Int32) (H dk__119) ?_))))
      have k75 : b1 = false := by rw [e1, decide_eq_false hb61] <;> rfl
      have k76 : b2 = false := by rw [e2, decide_eq_false hb63] <;> rfl
      have k77 : b3 = false := by rw [e3, decide_eq_false hb66] <;> rfl
      have k78 : b4 = false := by rw [e4, decide_eq_false hb70] <;> rfl
      exact S.retI (H dk__120) hret (by decide) (by decide) ⟨by rw [k75, k76, k77, k78] <;> rfl, rfl⟩


set_option maxRecDepth 65536 in
set_option maxHeartbeats 4000000 in
theorem own_io_1_2 (l : Launch) (Z : State) (a0 : Array Value) (hw : ∀ d ∈ tables_1, d.before a0 Z = true) (h0 : Heap) (n0 : Nat) (O : Old Z n0 h0) (ta : Addr) (ka : ClassId) (da : Value) (x0 : Int32) (x1 : Int32) (x2 : Int32) (x3 : Int32) (x4 : Int32) (tb : Addr) (kb : ClassId) (db : Value) (y0 : Int32) (b2 : Bool) (b3 : Bool) (b4 : Bool) (AA : Arv Z h0 ta ka .byte (5 : Int32) [(.int x0), (.int x1), (.int x2), (.int x3), (.int x4)] da) (AB : Arv Z h0 tb kb .byte (1 : Int32) [(.int y0)] db) (e2 : b2 = decide (x2 = y0)) (e3 : b3 = decide (x3 = y0)) (e4 : b4 = decide (x4 = y0)) :
   Con l Z n0 (⟨"java/lang/StringLatin1", "indexOf", "([BI[BII)I"⟩ : MethodName) jdk_43_method_25_code 11 (some .int) [] ({ frames := 0, cells := 0, slots := 0, locals := 0 } : Room) #[(.ref ta), (.int 5), (.ref tb), (.int 1), (.int 2)] h0 [] (fun v h' => v = some (.int (own_nx [(b2, 2), (b3, 3), (b4, 4)])) ∧ h' = h0) := by
  refine Con.of a0 (plainFor_of_name own_pn_5) O (fun _ q => nomatch q) [] (fun _ q => nomatch q) ?_
  intro p e s m below meth cdX T S hby hml hret hnm
  have H := fun {k r} q => @hb _ _ hby k r q
  have W := @Tw a0 Z hw
  refine Go.cast (own_ef_4 m ta (5 : Int32) tb (1 : Int32) (2 : Int32)) ?_
  refine S.aloadN 1 (H dk__0) rfl rfl (S.iconst 2 (0 : Int32) (H dk__1) (S.baload (v := .int y0) 3 (H dk__2) AB ⟨by decide, by decide⟩ rfl ?_))
  refine S.istore 5 #[vr ta, vi 5, vr tb, vi 1, vi 2, vi y0, uN, uN, uN, uN, uN] (H dk__3) rfl (S.iloadN 6 (H dk__5) rfl (S.iloadN 7 (H dk__6) rfl (S.isub 8 (H dk__7) ?_)))
  rw [show (5 - 1 : Int32) = 4 from by decide]
  refine S.istore 10 #[vr ta, vi 5, vr tb, vi 1, vi 2, vi y0, vi 4, uN, uN, uN, uN] (H dk__8) rfl (S.iload 12 (H dk__10) rfl (S.istore 14 #[vr ta, vi 5, vr tb, vi 1, vi 2, vi y0, vi 4, vi 2, uN, uN, uN] (H dk__12) rfl (S.iload 16 (H dk__14) rfl (S.iload 18 (H dk__16) rfl (S.icmpN 21 (H dk__18) (qGtF (by decide)) (S.aloadN 22 (H dk__21) rfl rfl ?_))))))
  refine S.iload 24 (H dk__22) rfl (S.baload (v := .int x2) 25 (H dk__24) AA ⟨by decide, by decide⟩ rfl ?_)
  refine S.iload 27 (H dk__25) rfl ?_
  by_cases hb79 : x2 = y0
  ·skip
   refine S.icmpY 52 (H dk__27) (qEqT hb79) (S.iload 54 (H dk__52) rfl (S.iload 56 (H dk__54) rfl (S.icmpN 59 (H dk__56) (qGtF (by decide)) (S.iload 61 (H dk__59) rfl (S.iconst 62 (1 : Int32) (H dk__61) (S.iadd 63 (H dk__62) ?_))))))
   rw [show (2 + 1 : Int32) = 3 from by decide]
   refine S.istore 65 #[vr ta, vi 5, vr tb, vi 1, vi 2, vi y0, vi 4, vi 2, vi 3, uN, uN] (H dk__63) rfl (S.iload 67 (H dk__65) rfl (S.iloadN 68 (H dk__67) rfl (S.iadd 69 (H dk__68) ?_)))
   rw [show (3 + 1 : Int32) = 4 from by decide]
   refine S.iconst 70 (1 : Int32) (H dk__69) (S.isub 71 (H dk__70) ?_)
   rw [show (4 - 1 : Int32) = 3 from by decide]
   refine S.istore 73 #[vr ta, vi 5, vr tb, vi 1, vi 2, vi y0, vi 4, vi 2, vi 3, vi 3, uN] (H dk__71) rfl (S.iconst 74 (1 : Int32) (H dk__73) (S.istore 76 #[vr ta, vi 5, vr tb, vi 1, vi 2, vi y0, vi 4, vi 2, vi 3, vi 3, vi 1] (H dk__74) rfl (S.iload 78 (H dk__76) rfl (S.iload 80 (H dk__78) rfl (S.icmpY 103 (H dk__80) (qGeT (by decide)) (S.iload 105 (H dk__103) rfl ?_))))))
   refine S.iload 107 (H dk__105) rfl (S.icmpN 110 (H dk__107) (qNeF (by decide)) (S.iload 112 (H dk__110) rfl ?_))
   have k80 : b2 = true := by rw [e2, decide_eq_true hb79]
   exact S.retI (H dk__112) hret (by decide) (by decide) ⟨by rw [k80] <;> rfl, rfl⟩
  ·skip
   refine S.icmpN 30 (H dk__27) (qEqF hb79) (S.iinc 33 #[vr ta, vi 5, vr tb, vi 1, vi 2, vi y0, vi 4, vi ((2 : Int32) + (1 : Int32)), uN, uN, uN] (H dk__30) rfl rfl ?_)
   rw [show (2 + 1 : Int32) = 3 from by decide]
   refine S.iload 35 (H dk__33) rfl (S.iload 37 (H dk__35) rfl (S.icmpN 40 (H dk__37) (qGtF (by decide)) (S.aloadN 41 (H dk__40) rfl rfl (S.iload 43 (H dk__41) rfl (S.baload (v := .int x3) 44 (H dk__43) AA ⟨by decide, by decide⟩ rfl ?_)))))
   refine S.iload 46 (H dk__44) rfl ?_
   by_cases hb81 : x3 = y0
   ·skip
    refine S.icmpY 52 (H dk__46) (qEqT hb81) (S.iload 54 (H dk__52) rfl (S.iload 56 (H dk__54) rfl (S.icmpN 59 (H dk__56) (qGtF (by decide)) (S.iload 61 (H dk__59) rfl (S.iconst 62 (1 : Int32) (H dk__61) (S.iadd 63 (H dk__62) ?_))))))
    rw [show (3 + 1 : Int32) = 4 from by decide]
    refine S.istore 65 #[vr ta, vi 5, vr tb, vi 1, vi 2, vi y0, vi 4, vi 3, vi 4, uN, uN] (H dk__63) rfl (S.iload 67 (H dk__65) rfl (S.iloadN 68 (H dk__67) rfl (S.iadd 69 (H dk__68) ?_)))
    rw [show (4 + 1 : Int32) = 5 from by decide]
    refine S.iconst 70 (1 : Int32) (H dk__69) (S.isub 71 (H dk__70) ?_)
    rw [show (5 - 1 : Int32) = 4 from by decide]
    refine S.istore 73 #[vr ta, vi 5, vr tb, vi 1, vi 2, vi y0, vi 4, vi 3, vi 4, vi 4, uN] (H dk__71) rfl (S.iconst 74 (1 : Int32) (H dk__73) (S.istore 76 #[vr ta, vi 5, vr tb, vi 1, vi 2, vi y0, vi 4, vi 3, vi 4, vi 4, vi 1] (H dk__74) rfl (S.iload 78 (H dk__76) rfl (S.iload 80 (H dk__78) rfl (S.icmpY 103 (H dk__80) (qGeT (by decide)) (S.iload 105 (H dk__103) rfl ?_))))))
    refine S.iload 107 (H dk__105) rfl (S.icmpN 110 (H dk__107) (qNeF (by decide)) (S.iload 112 (H dk__110) rfl ?_))
    have k82 : b2 = false := by rw [e2, decide_eq_false hb79] <;> rfl
    have k83 : b3 = true := by rw [e3, decide_eq_true hb81]
    exact S.retI (H dk__112) hret (by decide) (by decide) ⟨by rw [k82, k83] <;> rfl, rfl⟩
   ·skip
    refine S.icmpN 49 (H dk__46) (qEqF hb81) (S.goto 30 (H dk__49) (S.iinc 33 #[vr ta, vi 5, vr tb, vi 1, vi 2, vi y0, vi 4, vi ((3 : Int32) + (1 : Int32)), uN, uN, uN] (H dk__30) rfl rfl ?_))
    rw [show (3 + 1 : Int32) = 4 from by decide]
    refine S.iload 35 (H dk__33) rfl (S.iload 37 (H dk__35) rfl (S.icmpN 40 (H dk__37) (qGtF (by decide)) (S.aloadN 41 (H dk__40) rfl rfl (S.iload 43 (H dk__41) rfl (S.baload (v := .int x4) 44 (H dk__43) AA ⟨by decide, by decide⟩ rfl ?_)))))
    refine S.iload 46 (H dk__44) rfl ?_
    by_cases hb84 : x4 = y0
    ·skip
     refine S.icmpY 52 (H dk__46) (qEqT hb84) (S.iload 54 (H dk__52) rfl (S.iload 56 (H dk__54) rfl (S.icmpN 59 (H dk__56) (qGtF (by decide)) (S.iload 61 (H dk__59) rfl (S.iconst 62 (1 : Int32) (H dk__61) (S.iadd 63 (H dk__62) ?_))))))
     rw [show (4 + 1 : Int32) = 5 from by decide]
     refine S.istore 65 #[vr ta, vi 5, vr tb, vi 1, vi 2, vi y0, vi 4, vi 4, vi 5, uN, uN] (H dk__63) rfl (S.iload 67 (H dk__65) rfl (S.iloadN 68 (H dk__67) rfl (S.iadd 69 (H dk__68) ?_)))
     rw [show (5 + 1 : Int32) = 6 from by decide]
     refine S.iconst 70 (1 : Int32) (H dk__69) (S.isub 71 (H dk__70) ?_)
     rw [show (6 - 1 : Int32) = 5 from by decide]
     refine S.istore 73 #[vr ta, vi 5, vr tb, vi 1, vi 2, vi y0, vi 4, vi 4, vi 5, vi 5, uN] (H dk__71) rfl (S.iconst 74 (1 : Int32) (H dk__73) (S.istore 76 #[vr ta, vi 5, vr tb, vi 1, vi 2, vi y0, vi 4, vi 4, vi 5, vi 5, vi 1] (H dk__74) rfl (S.iload 78 (H dk__76) rfl (S.iload 80 (H dk__78) rfl (S.icmpY 103 (H dk__80) (qGeT (by decide)) (S.iload 105 (H dk__103) rfl ?_))))))
     refine S.iload 107 (H dk__105) rfl (S.icmpN 110 (H dk__107) (qNeF (by decide)) (S.iload 112 (H dk__110) rfl ?_))
     have k85 : b2 = false := by rw [e2, decide_eq_false hb79] <;> rfl
     have k86 : b3 = false := by rw [e3, decide_eq_false hb81] <;> rfl
     have k87 : b4 = true := by rw [e4, decide_eq_true hb84]
     exact S.retI (H dk__112) hret (by decide) (by decide) ⟨by rw [k85, k86, k87] <;> rfl, rfl⟩
    ·skip
     refine S.icmpN 49 (H dk__46) (qEqF hb84) (S.goto 30 (H dk__49) (S.iinc 33 #[vr ta, vi 5, vr tb, vi 1, vi 2, vi y0, vi 4, vi ((4 : Int32) + (1 : Int32)), uN, uN, uN] (H dk__30) rfl rfl ?_))
     rw [show (4 + 1 : Int32) = 5 from by decide]
     refine S.iload 35 (H dk__33) rfl (S.iload 37 (H dk__35) rfl (S.icmpY 52 (H dk__37) (qGtT (by decide)) (S.iload 54 (H dk__52) rfl (S.iload 56 (H dk__54) rfl (S.icmpY 113 (H dk__56) (qGtT (by decide)) (S.iinc 116 #[vr ta, vi 5, vr tb, vi 1, vi 2, vi y0, vi 4, vi ((5 : Int32) + (1 : Int32)), uN, uN, uN] (H dk__113) rfl rfl ?_))))))
     rw [show (5 + 1 : Int32) = 6 from by decide]
     refine S.goto 14 (H dk__116) (S.iload 16 (H dk__14) rfl (S.iload 18 (H dk__16) rfl (S.icmpY 119 (H dk__18) (qGtT (by decide)) (S.iconst 120 (-1 : Int32) (H dk__119) ?_))))
     have k88 : b2 = false := by rw [e2, decide_eq_false hb79] <;> rfl
     have k89 : b3 = false := by rw [e3, decide_eq_false hb81] <;> rfl
     have k90 : b4 = false := by rw [e4, decide_eq_false hb84] <;> rfl
     exact S.retI (H dk__120) hret (by decide) (by decide) ⟨by rw [k88, k89, k90] <;> rfl, rfl⟩


set_option maxRecDepth 65536 in
set_option maxHeartbeats 4000000 in
theorem own_io_1_3 (l : Launch) (Z : State) (a0 : Array Value) (hw : ∀ d ∈ tables_1, d.before a0 Z = true) (h0 : Heap) (n0 : Nat) (O : Old Z n0 h0) (ta : Addr) (ka : ClassId) (da : Value) (x0 : Int32) (x1 : Int32) (x2 : Int32) (x3 : Int32) (x4 : Int32) (tb : Addr) (kb : ClassId) (db : Value) (y0 : Int32) (b3 : Bool) (b4 : Bool) (AA : Arv Z h0 ta ka .byte (5 : Int32) [(.int x0), (.int x1), (.int x2), (.int x3), (.int x4)] da) (AB : Arv Z h0 tb kb .byte (1 : Int32) [(.int y0)] db) (e3 : b3 = decide (x3 = y0)) (e4 : b4 = decide (x4 = y0)) :
   Con l Z n0 (⟨"java/lang/StringLatin1", "indexOf", "([BI[BII)I"⟩ : MethodName) jdk_43_method_25_code 11 (some .int) [] ({ frames := 0, cells := 0, slots := 0, locals := 0 } : Room) #[(.ref ta), (.int 5), (.ref tb), (.int 1), (.int 3)] h0 [] (fun v h' => v = some (.int (own_nx [(b3, 3), (b4, 4)])) ∧ h' = h0) := by
  refine Con.of a0 (plainFor_of_name own_pn_5) O (fun _ q => nomatch q) [] (fun _ q => nomatch q) ?_
  intro p e s m below meth cdX T S hby hml hret hnm
  have H := fun {k r} q => @hb _ _ hby k r q
  have W := @Tw a0 Z hw
  refine Go.cast (own_ef_4 m ta (5 : Int32) tb (1 : Int32) (3 : Int32)) ?_
  refine S.aloadN 1 (H dk__0) rfl rfl (S.iconst 2 (0 : Int32) (H dk__1) (S.baload (v := .int y0) 3 (H dk__2) AB ⟨by decide, by decide⟩ rfl ?_))
  refine S.istore 5 #[vr ta, vi 5, vr tb, vi 1, vi 3, vi y0, uN, uN, uN, uN, uN] (H dk__3) rfl (S.iloadN 6 (H dk__5) rfl (S.iloadN 7 (H dk__6) rfl (S.isub 8 (H dk__7) ?_)))
  rw [show (5 - 1 : Int32) = 4 from by decide]
  refine S.istore 10 #[vr ta, vi 5, vr tb, vi 1, vi 3, vi y0, vi 4, uN, uN, uN, uN] (H dk__8) rfl (S.iload 12 (H dk__10) rfl (S.istore 14 #[vr ta, vi 5, vr tb, vi 1, vi 3, vi y0, vi 4, vi 3, uN, uN, uN] (H dk__12) rfl (S.iload 16 (H dk__14) rfl (S.iload 18 (H dk__16) rfl (S.icmpN 21 (H dk__18) (qGtF (by decide)) (S.aloadN 22 (H dk__21) rfl rfl ?_))))))
  refine S.iload 24 (H dk__22) rfl (S.baload (v := .int x3) 25 (H dk__24) AA ⟨by decide, by decide⟩ rfl ?_)
  refine S.iload 27 (H dk__25) rfl ?_
  by_cases hb91 : x3 = y0
  ·skip
   refine S.icmpY 52 (H dk__27) (qEqT hb91) (S.iload 54 (H dk__52) rfl (S.iload 56 (H dk__54) rfl (S.icmpN 59 (H dk__56) (qGtF (by decide)) (S.iload 61 (H dk__59) rfl (S.iconst 62 (1 : Int32) (H dk__61) (S.iadd 63 (H dk__62) ?_))))))
   rw [show (3 + 1 : Int32) = 4 from by decide]
   refine S.istore 65 #[vr ta, vi 5, vr tb, vi 1, vi 3, vi y0, vi 4, vi 3, vi 4, uN, uN] (H dk__63) rfl (S.iload 67 (H dk__65) rfl (S.iloadN 68 (H dk__67) rfl (S.iadd 69 (H dk__68) ?_)))
   rw [show (4 + 1 : Int32) = 5 from by decide]
   refine S.iconst 70 (1 : Int32) (H dk__69) (S.isub 71 (H dk__70) ?_)
   rw [show (5 - 1 : Int32) = 4 from by decide]
   refine S.istore 73 #[vr ta, vi 5, vr tb, vi 1, vi 3, vi y0, vi 4, vi 3, vi 4, vi 4, uN] (H dk__71) rfl (S.iconst 74 (1 : Int32) (H dk__73) (S.istore 76 #[vr ta, vi 5, vr tb, vi 1, vi 3, vi y0, vi 4, vi 3, vi 4, vi 4, vi 1] (H dk__74) rfl (S.iload 78 (H dk__76) rfl (S.iload 80 (H dk__78) rfl (S.icmpY 103 (H dk__80) (qGeT (by decide)) (S.iload 105 (H dk__103) rfl ?_))))))
   refine S.iload 107 (H dk__105) rfl (S.icmpN 110 (H dk__107) (qNeF (by decide)) (S.iload 112 (H dk__110) rfl ?_))
   have k92 : b3 = true := by rw [e3, decide_eq_true hb91]
   exact S.retI (H dk__112) hret (by decide) (by decide) ⟨by rw [k92] <;> rfl, rfl⟩
  ·skip
   refine S.icmpN 30 (H dk__27) (qEqF hb91) (S.iinc 33 #[vr ta, vi 5, vr tb, vi 1, vi 3, vi y0, vi 4, vi ((3 : Int32) + (1 : Int32)), uN, uN, uN] (H dk__30) rfl rfl ?_)
   rw [show (3 + 1 : Int32) = 4 from by decide]
   refine S.iload 35 (H dk__33) rfl (S.iload 37 (H dk__35) rfl (S.icmpN 40 (H dk__37) (qGtF (by decide)) (S.aloadN 41 (H dk__40) rfl rfl (S.iload 43 (H dk__41) rfl (S.baload (v := .int x4) 44 (H dk__43) AA ⟨by decide, by decide⟩ rfl ?_)))))
   refine S.iload 46 (H dk__44) rfl ?_
   by_cases hb93 : x4 = y0
   ·skip
    refine S.icmpY 52 (H dk__46) (qEqT hb93) (S.iload 54 (H dk__52) rfl (S.iload 56 (H dk__54) rfl (S.icmpN 59 (H dk__56) (qGtF (by decide)) (S.iload 61 (H dk__59) rfl (S.iconst 62 (1 : Int32) (H dk__61) (S.iadd 63 (H dk__62) ?_))))))
    rw [show (4 + 1 : Int32) = 5 from by decide]
    refine S.istore 65 #[vr ta, vi 5, vr tb, vi 1, vi 3, vi y0, vi 4, vi 4, vi 5, uN, uN] (H dk__63) rfl (S.iload 67 (H dk__65) rfl (S.iloadN 68 (H dk__67) rfl (S.iadd 69 (H dk__68) ?_)))
    rw [show (5 + 1 : Int32) = 6 from by decide]
    refine S.iconst 70 (1 : Int32) (H dk__69) (S.isub 71 (H dk__70) ?_)
    rw [show (6 - 1 : Int32) = 5 from by decide]
    refine S.istore 73 #[vr ta, vi 5, vr tb, vi 1, vi 3, vi y0, vi 4, vi 4, vi 5, vi 5, uN] (H dk__71) rfl (S.iconst 74 (1 : Int32) (H dk__73) (S.istore 76 #[vr ta, vi 5, vr tb, vi 1, vi 3, vi y0, vi 4, vi 4, vi 5, vi 5, vi 1] (H dk__74) rfl (S.iload 78 (H dk__76) rfl (S.iload 80 (H dk__78) rfl (S.icmpY 103 (H dk__80) (qGeT (by decide)) (S.iload 105 (H dk__103) rfl ?_))))))
    refine S.iload 107 (H dk__105) rfl (S.icmpN 110 (H dk__107) (qNeF (by decide)) (S.iload 112 (H dk__110) rfl ?_))
    have k94 : b3 = false := by rw [e3, decide_eq_false hb91] <;> rfl
    have k95 : b4 = true := by rw [e4, decide_eq_true hb93]
    exact S.retI (H dk__112) hret (by decide) (by decide) ⟨by rw [k94, k95] <;> rfl, rfl⟩
   ·skip
    refine S.icmpN 49 (H dk__46) (qEqF hb93) (S.goto 30 (H dk__49) (S.iinc 33 #[vr ta, vi 5, vr tb, vi 1, vi 3, vi y0, vi 4, vi ((4 : Int32) + (1 : Int32)), uN, uN, uN] (H dk__30) rfl rfl ?_))
    rw [show (4 + 1 : Int32) = 5 from by decide]
    refine S.iload 35 (H dk__33) rfl (S.iload 37 (H dk__35) rfl (S.icmpY 52 (H dk__37) (qGtT (by decide)) (S.iload 54 (H dk__52) rfl (S.iload 56 (H dk__54) rfl (S.icmpY 113 (H dk__56) (qGtT (by decide)) (S.iinc 116 #[vr ta, vi 5, vr tb, vi 1, vi 3, vi y0, vi 4, vi ((5 : Int32) + (1 : Int32)), uN, uN, uN] (H dk__113) rfl rfl ?_))))))
    rw [show (5 + 1 : Int32) = 6 from by decide]
    refine S.goto 14 (H dk__116) (S.iload 16 (H dk__14) rfl (S.iload 18 (H dk__16) rfl (S.icmpY 119 (H dk__18) (qGtT (by decide)) (S.iconst 120 (-1 : Int32) (H dk__119) ?_))))
    have k96 : b3 = false := by rw [e3, decide_eq_false hb91] <;> rfl
    have k97 : b4 = false := by rw [e4, decide_eq_false hb93] <;> rfl
    exact S.retI (H dk__120) hret (by decide) (by decide) ⟨by rw [k96, k97] <;> rfl, rfl⟩


set_option maxRecDepth 65536 in
set_option maxHeartbeats 4000000 in
theorem own_io_1_4 (l : Launch) (Z : State) (a0 : Array Value) (hw : ∀ d ∈ tables_1, d.before a0 Z = true) (h0 : Heap) (n0 : Nat) (O : Old Z n0 h0) (ta : Addr) (ka : ClassId) (da : Value) (x0 : Int32) (x1 : Int32) (x2 : Int32) (x3 : Int32) (x4 : Int32) (tb : Addr) (kb : ClassId) (db : Value) (y0 : Int32) (b4 : Bool) (AA : Arv Z h0 ta ka .byte (5 : Int32) [(.int x0), (.int x1), (.int x2), (.int x3), (.int x4)] da) (AB : Arv Z h0 tb kb .byte (1 : Int32) [(.int y0)] db) (e4 : b4 = decide (x4 = y0)) :
   Con l Z n0 (⟨"java/lang/StringLatin1", "indexOf", "([BI[BII)I"⟩ : MethodName) jdk_43_method_25_code 11 (some .int) [] ({ frames := 0, cells := 0, slots := 0, locals := 0 } : Room) #[(.ref ta), (.int 5), (.ref tb), (.int 1), (.int 4)] h0 [] (fun v h' => v = some (.int (own_nx [(b4, 4)])) ∧ h' = h0) := by
  refine Con.of a0 (plainFor_of_name own_pn_5) O (fun _ q => nomatch q) [] (fun _ q => nomatch q) ?_
  intro p e s m below meth cdX T S hby hml hret hnm
  have H := fun {k r} q => @hb _ _ hby k r q
  have W := @Tw a0 Z hw
  refine Go.cast (own_ef_4 m ta (5 : Int32) tb (1 : Int32) (4 : Int32)) ?_
  refine S.aloadN 1 (H dk__0) rfl rfl (S.iconst 2 (0 : Int32) (H dk__1) (S.baload (v := .int y0) 3 (H dk__2) AB ⟨by decide, by decide⟩ rfl ?_))
  refine S.istore 5 #[vr ta, vi 5, vr tb, vi 1, vi 4, vi y0, uN, uN, uN, uN, uN] (H dk__3) rfl (S.iloadN 6 (H dk__5) rfl (S.iloadN 7 (H dk__6) rfl (S.isub 8 (H dk__7) ?_)))
  rw [show (5 - 1 : Int32) = 4 from by decide]
  refine S.istore 10 #[vr ta, vi 5, vr tb, vi 1, vi 4, vi y0, vi 4, uN, uN, uN, uN] (H dk__8) rfl (S.iload 12 (H dk__10) rfl (S.istore 14 #[vr ta, vi 5, vr tb, vi 1, vi 4, vi y0, vi 4, vi 4, uN, uN, uN] (H dk__12) rfl (S.iload 16 (H dk__14) rfl (S.iload 18 (H dk__16) rfl (S.icmpN 21 (H dk__18) (qGtF (by decide)) (S.aloadN 22 (H dk__21) rfl rfl ?_))))))
  refine S.iload 24 (H dk__22) rfl (S.baload (v := .int x4) 25 (H dk__24) AA ⟨by decide, by decide⟩ rfl ?_)
  refine S.iload 27 (H dk__25) rfl ?_
  by_cases hb98 : x4 = y0
  ·skip
   refine S.icmpY 52 (H dk__27) (qEqT hb98) (S.iload 54 (H dk__52) rfl (S.iload 56 (H dk__54) rfl (S.icmpN 59 (H dk__56) (qGtF (by decide)) (S.iload 61 (H dk__59) rfl (S.iconst 62 (1 : Int32) (H dk__61) (S.iadd 63 (H dk__62) ?_))))))
   rw [show (4 + 1 : Int32) = 5 from by decide]
   refine S.istore 65 #[vr ta, vi 5, vr tb, vi 1, vi 4, vi y0, vi 4, vi 4, vi 5, uN, uN] (H dk__63) rfl (S.iload 67 (H dk__65) rfl (S.iloadN 68 (H dk__67) rfl (S.iadd 69 (H dk__68) ?_)))
   rw [show (5 + 1 : Int32) = 6 from by decide]
   refine S.iconst 70 (1 : Int32) (H dk__69) (S.isub 71 (H dk__70) ?_)
   rw [show (6 - 1 : Int32) = 5 from by decide]
   refine S.istore 73 #[vr ta, vi 5, vr tb, vi 1, vi 4, vi y0, vi 4, vi 4, vi 5, vi 5, uN] (H dk__71) rfl (S.iconst 74 (1 : Int32) (H dk__73) (S.istore 76 #[vr ta, vi 5, vr tb, vi 1, vi 4, vi y0, vi 4, vi 4, vi 5, vi 5, vi 1] (H dk__74) rfl (S.iload 78 (H dk__76) rfl (S.iload 80 (H dk__78) rfl (S.icmpY 103 (H dk__80) (qGeT (by decide)) (S.iload 105 (H dk__103) rfl ?_))))))
   refine S.iload 107 (H dk__105) rfl (S.icmpN 110 (H dk__107) (qNeF (by decide)) (S.iload 112 (H dk__110) rfl ?_))
   have k99 : b4 = true := by rw [e4, decide_eq_true hb98]
   exact S.retI (H dk__112) hret (by decide) (by decide) ⟨by rw [k99] <;> rfl, rfl⟩
  ·skip
   refine S.icmpN 30 (H dk__27) (qEqF hb98) (S.iinc 33 #[vr ta, vi 5, vr tb, vi 1, vi 4, vi y0, vi 4, vi ((4 : Int32) + (1 : Int32)), uN, uN, uN] (H dk__30) rfl rfl ?_)
   rw [show (4 + 1 : Int32) = 5 from by decide]
   refine S.iload 35 (H dk__33) rfl (S.iload 37 (H dk__35) rfl (S.icmpY 52 (H dk__37) (qGtT (by decide)) (S.iload 54 (H dk__52) rfl (S.iload 56 (H dk__54) rfl (S.icmpY 113 (H dk__56) (qGtT (by decide)) (S.iinc 116 #[vr ta, vi 5, vr tb, vi 1, vi 4, vi y0, vi 4, vi ((5 : Int32) + (1 : Int32)), uN, uN, uN] (H dk__113) rfl rfl ?_))))))
   rw [show (5 + 1 : Int32) = 6 from by decide]
   refine S.goto 14 (H dk__116) (S.iload 16 (H dk__14) rfl (S.iload 18 (H dk__16) rfl (S.icmpY 119 (H dk__18) (qGtT (by decide)) (S.iconst 120 (-1 : Int32) (H dk__119) ?_))))
   have k100 : b4 = false := by rw [e4, decide_eq_false hb98] <;> rfl
   exact S.retI (H dk__120) hret (by decide) (by decide) ⟨by rw [k100] <;> rfl, rfl⟩

theorem dk__83 : decode jdk_43_method_25_code 83 = .ok (.aload_n 0, 1) := by decide +kernel
theorem dk__84 : decode jdk_43_method_25_code 84 = .ok (.iload 8, 2) := by decide +kernel
theorem dk__86 : decode jdk_43_method_25_code 86 = .ok (.baload, 1) := by decide +kernel
theorem dk__87 : decode jdk_43_method_25_code 87 = .ok (.aload_n 2, 1) := by decide +kernel
theorem dk__88 : decode jdk_43_method_25_code 88 = .ok (.iload 10, 2) := by decide +kernel
theorem dk__90 : decode jdk_43_method_25_code 90 = .ok (.baload, 1) := by decide +kernel
theorem dk__91 : decode jdk_43_method_25_code 91 = .ok (.if_icmp .ne 12, 3) := by decide +kernel
theorem dk__94 : decode jdk_43_method_25_code 94 = .ok (.iinc 8 1, 3) := by decide +kernel
theorem dk__97 : decode jdk_43_method_25_code 97 = .ok (.iinc 10 1, 3) := by decide +kernel
theorem dk__100 : decode jdk_43_method_25_code 100 = .ok (.goto (-24), 3) := by decide +kernel
set_option maxRecDepth 65536 in
set_option maxHeartbeats 4000000 in
theorem own_io_2_0 (l : Launch) (Z : State) (a0 : Array Value) (hw : ∀ d ∈ tables_1, d.before a0 Z = true) (h0 : Heap) (n0 : Nat) (O : Old Z n0 h0) (ta : Addr) (ka : ClassId) (da : Value) (x0 : Int32) (x1 : Int32) (x2 : Int32) (x3 : Int32) (x4 : Int32) (tb : Addr) (kb : ClassId) (db : Value) (y0 : Int32) (y1 : Int32) (b0 : Bool) (b1 : Bool) (b2 : Bool) (b3 : Bool) (AA : Arv Z h0 ta ka .byte (5 : Int32) [(.int x0), (.int x1), (.int x2), (.int x3), (.int x4)] da) (AB : Arv Z h0 tb kb .byte (2 : Int32) [(.int y0), (.int y1)] db) (e0 : b0 = (decide (x0 = y0) && decide (x1 = y1))) (e1 : b1 = (decide (x1 = y0) && decide (x2 = y1))) (e2 : b2 = (decide (x2 = y0) && decide (x3 = y1))) (e3 : b3 = (decide (x3 = y0) && decide (x4 = y1))) :
   Con l Z n0 (⟨"java/lang/StringLatin1", "indexOf", "([BI[BII)I"⟩ : MethodName) jdk_43_method_25_code 11 (some .int) [] ({ frames := 0, cells := 0, slots := 0, locals := 0 } : Room) #[(.ref ta), (.int 5), (.ref tb), (.int 2), (.int 0)] h0 [] (fun v h' => v = some (.int (own_nx [(b0, 0), (b1, 1), (b2, 2), (b3, 3)])) ∧ h' = h0) := by
  refine Con.of a0 (plainFor_of_name own_pn_5) O (fun _ q => nomatch q) [] (fun _ q => nomatch q) ?_
  intro p e s m below meth cdX T S hby hml hret hnm
  have H := fun {k r} q => @hb _ _ hby k r q
  have W := @Tw a0 Z hw
  refine Go.cast (own_ef_4 m ta (5 : Int32) tb (2 : Int32) (0 : Int32)) ?_
  refine S.aloadN 1 (H dk__0) rfl rfl (S.iconst 2 (0 : Int32) (H dk__1) (S.baload (v := .int y0) 3 (H dk__2) AB ⟨by decide, by decide⟩ rfl ?_))
  refine S.istore 5 #[vr ta, vi 5, vr tb, vi 2, vi 0, vi y0, uN, uN, uN, uN, uN] (H dk__3) rfl (S.iloadN 6 (H dk__5) rfl (S.iloadN 7 (H dk__6) rfl (S.isub 8 (H dk__7) ?_)))
  rw [show (5 - 2 : Int32) = 3 from by decide]
  refine S.istore 10 #[vr ta, vi 5, vr tb, vi 2, vi 0, vi y0, vi 3, uN, uN, uN, uN] (H dk__8) rfl (S.iload 12 (H dk__10) rfl (S.istore 14 #[vr ta, vi 5, vr tb, vi 2, vi 0, vi y0, vi 3, vi 0, uN, uN, uN] (H dk__12) rfl ?_))
  have tail104 : ∀ z101 z102 z103 : Int32, (own_nx [(b0, 0), (b1, 1), (b2, 2), (b3, 3)]) = (own_nx [(b3, 3)]) → Go p e below (Done false [] Z s n0 h0 [] ({ frames := 0, cells := 0, slots := 0, locals := 0 } : Room).cells ({ frames := 0, cells := 0, slots := 0, locals := 0 } : Room).slots (fun v h' => v = some (.int (own_nx [(b0, 0), (b1, 1), (b2, 2), (b3, 3)])) ∧ h' = h0)) T (mkF m 14 #[vr ta, vi 5, vr tb, vi 2, vi 0, vi y0, vi 3, vi 3, vi z101, vi z102, vi z103] []) := by
   intro z101 z102 z103 hx105
   refine S.iload 16 (H dk__14) rfl (S.iload 18 (H dk__16) rfl (S.icmpN 21 (H dk__18) (qGtF (by decide)) (S.aloadN 22 (H dk__21) rfl rfl (S.iload 24 (H dk__22) rfl (S.baload (v := .int x3) 25 (H dk__24) AA ⟨by decide, by decide⟩ rfl ?_)))))
   refine S.iload 27 (H dk__25) rfl ?_
   by_cases hb106 : x3 = y0
   ·skip
    refine S.icmpY 52 (H dk__27) (qEqT hb106) (S.iload 54 (H dk__52) rfl (S.iload 56 (H dk__54) rfl (S.icmpN 59 (H dk__56) (qGtF (by decide)) (S.iload 61 (H dk__59) rfl (S.iconst 62 (1 : Int32) (H dk__61) (S.iadd 63 (H dk__62) ?_))))))
    rw [show (3 + 1 : Int32) = 4 from by decide]
    refine S.istore 65 #[vr ta, vi 5, vr tb, vi 2, vi 0, vi y0, vi 3, vi 3, vi 4, vi z102, vi z103] (H dk__63) rfl (S.iload 67 (H dk__65) rfl (S.iloadN 68 (H dk__67) rfl (S.iadd 69 (H dk__68) ?_)))
    rw [show (4 + 2 : Int32) = 6 from by decide]
    refine S.iconst 70 (1 : Int32) (H dk__69) (S.isub 71 (H dk__70) ?_)
    rw [show (6 - 1 : Int32) = 5 from by decide]
    refine S.istore 73 #[vr ta, vi 5, vr tb, vi 2, vi 0, vi y0, vi 3, vi 3, vi 4, vi 5, vi z103] (H dk__71) rfl (S.iconst 74 (1 : Int32) (H dk__73) (S.istore 76 #[vr ta, vi 5, vr tb, vi 2, vi 0, vi y0, vi 3, vi 3, vi 4, vi 5, vi 1] (H dk__74) rfl (S.iload 78 (H dk__76) rfl (S.iload 80 (H dk__78) rfl (S.icmpN 83 (H dk__80) (qGeF (by decide)) (S.aloadN 84 (H dk__83) rfl rfl ?_))))))
    refine S.iload 86 (H dk__84) rfl (S.baload (v := .int x4) 87 (H dk__86) AA ⟨by decide, by decide⟩ rfl ?_)
    refine S.aloadN 88 (H dk__87) rfl rfl (S.iload 90 (H dk__88) rfl (S.baload (v := .int y1) 91 (H dk__90) AB ⟨by decide, by decide⟩ rfl ?_))
    by_cases hb107 : x4 = y1
    ·skip
     refine S.icmpN 94 (H dk__91) (qNeF hb107) (S.iinc 97 #[vr ta, vi 5, vr tb, vi 2, vi 0, vi y0, vi 3, vi 3, vi ((4 : Int32) + (1 : Int32)), vi 5, vi 1] (H dk__94) rfl rfl ?_)
     rw [show (4 + 1 : Int32) = 5 from by decide]
     refine S.iinc 100 #[vr ta, vi 5, vr tb, vi 2, vi 0, vi y0, vi 3, vi 3, vi 5, vi 5, vi ((1 : Int32) + (1 : Int32))] (H dk__97) rfl rfl ?_
     rw [show (1 + 1 : Int32) = 2 from by decide]
     refine S.goto 76 (H dk__100) (S.iload 78 (H dk__76) rfl (S.iload 80 (H dk__78) rfl (S.icmpY 103 (H dk__80) (qGeT (by decide)) (S.iload 105 (H dk__103) rfl (S.iload 107 (H dk__105) rfl (S.icmpN 110 (H dk__107) (qNeF (by decide)) ?_))))))
     refine S.iload 112 (H dk__110) rfl ?_
     have k108 : b3 = true := by rw [e3, decide_eq_true hb106, decide_eq_true hb107] <;> rfl
     exact S.retI (H dk__112) hret (by decide) (by decide) ⟨by rw [hx105, k108] <;> rfl, rfl⟩
    ·skip
     refine S.icmpY 103 (H dk__91) (qNeT hb107) (S.iload 105 (H dk__103) rfl (S.iload 107 (H dk__105) rfl (S.icmpY 113 (H dk__107) (qNeT (by decide)) (S.iinc 116 #[vr ta, vi 5, vr tb, vi 2, vi 0, vi y0, vi 3, vi ((3 : Int32) + (1 : Int32)), vi 4, vi 5, vi 1] (H dk__113) rfl rfl ?_))))
     rw [show (3 + 1 : Int32) = 4 from by decide]
     refine S.goto 14 (H dk__116) (S.iload 16 (H dk__14) rfl (S.iload 18 (H dk__16) rfl (S.icmpY 119 (H dk__18) (qGtT (by decide)) (S.iconst 120 (-1 : Int32) (H dk__119) ?_))))
     have k109 : b3 = false := by rw [e3, decide_eq_false hb107, Bool.and_false]
     exact S.retI (H dk__120) hret (by decide) (by decide) ⟨by rw [hx105, k109] <;> rfl, rfl⟩
   ·skip
    refine S.icmpN 30 (H dk__27) (qEqF hb106) (S.iinc 33 #[vr ta, vi 5, vr tb, vi 2, vi 0, vi y0, vi 3, vi ((3 : Int32) + (1 : Int32)), vi z101, vi z102, vi z103] (H dk__30) rfl rfl ?_)
    rw [show (3 + 1 : Int32) = 4 from by decide]
    refine S.iload 35 (H dk__33) rfl (S.iload 37 (H dk__35) rfl (S.icmpY 52 (H dk__37) (qGtT (by decide)) (S.iload 54 (H dk__52) rfl (S.iload 56 (H dk__54) rfl (S.icmpY 113 (H dk__56) (qGtT (by decide)) (S.iinc 116 #[vr ta, vi 5, vr tb, vi 2, vi 0, vi y0, vi 3, vi ((4 : Int32) + (1 : Int32)), vi z101, vi z102, vi z103] (H dk__113) rfl rfl ?_))))))
    rw [show (4 + 1 : Int32) = 5 from by decide]
    refine S.goto 14 (H dk__116) (S.iload 16 (H dk__14) rfl (S.iload 18 (H dk__16) rfl (S.icmpY 119 (H dk__18) (qGtT (by decide)) (S.iconst 120 (-1 : Int32) (H dk__119) ?_))))
    have k110 : b3 = false := by rw [e3, decide_eq_false hb106] <;> rfl
    exact S.retI (H dk__120) hret (by decide) (by decide) ⟨by rw [hx105, k110] <;> rfl, rfl⟩
  have tail114 : ∀ z111 z112 z113 : Int32, (own_nx [(b0, 0), (b1, 1), (b2, 2), (b3, 3)]) = (own_nx [(b2, 2), (b3, 3)]) → Go p e below (Done false [] Z s n0 h0 [] ({ frames := 0, cells := 0, slots := 0, locals := 0 } : Room).cells ({ frames := 0, cells := 0, slots := 0, locals := 0 } : Room).slots (fun v h' => v = some (.int (own_nx [(b0, 0), (b1, 1), (b2, 2), (b3, 3)])) ∧ h' = h0)) T (mkF m 14 #[vr ta, vi 5, vr tb, vi 2, vi 0, vi y0, vi 3, vi 2, vi z111, vi z112, vi z113] []) := by
   intro z111 z112 z113 hx115
   refine S.iload 16 (H dk__14) rfl (S.iload 18 (H dk__16) rfl (S.icmpN 21 (H dk__18) (qGtF (by decide)) (S.aloadN 22 (H dk__21) rfl rfl (S.iload 24 (H dk__22) rfl (S.baload (v := .int x2) 25 (H dk__24) AA ⟨by decide, by decide⟩ rfl ?_)))))
   refine S.iload 27 (H dk__25) rfl ?_
   by_cases hb116 : x2 = y0
   ·skip
    refine S.icmpY 52 (H dk__27) (qEqT hb116) (S.iload 54 (H dk__52) rfl (S.iload 56 (H dk__54) rfl (S.icmpN 59 (H dk__56) (qGtF (by decide)) (S.iload 61 (H dk__59) rfl (S.iconst 62 (1 : Int32) (H dk__61) (S.iadd 63 (H dk__62) ?_))))))
    rw [show (2 + 1 : Int32) = 3 from by decide]
    refine S.istore 65 #[vr ta, vi 5, vr tb, vi 2, vi 0, vi y0, vi 3, vi 2, vi 3, vi z112, vi z113] (H dk__63) rfl (S.iload 67 (H dk__65) rfl (S.iloadN 68 (H dk__67) rfl (S.iadd 69 (H dk__68) ?_)))
    rw [show (3 + 2 : Int32) = 5 from by decide]
    refine S.iconst 70 (1 : Int32) (H dk__69) (S.isub 71 (H dk__70) ?_)
    rw [show (5 - 1 : Int32) = 4 from by decide]
    refine S.istore 73 #[vr ta, vi 5, vr tb, vi 2, vi 0, vi y0, vi 3, vi 2, vi 3, vi 4, vi z113] (H dk__71) rfl (S.iconst 74 (1 : Int32) (H dk__73) (S.istore 76 #[vr ta, vi 5, vr tb, vi 2, vi 0, vi y0, vi 3, vi 2, vi 3, vi 4, vi 1] (H dk__74) rfl (S.iload 78 (H dk__76) rfl (S.iload 80 (H dk__78) rfl (S.icmpN 83 (H dk__80) (qGeF (by decide)) (S.aloadN 84 (H dk__83) rfl rfl ?_))))))
    refine S.iload 86 (H dk__84) rfl (S.baload (v := .int x3) 87 (H dk__86) AA ⟨by decide, by decide⟩ rfl ?_)
    refine S.aloadN 88 (H dk__87) rfl rfl (S.iload 90 (H dk__88) rfl (S.baload (v := .int y1) 91 (H dk__90) AB ⟨by decide, by decide⟩ rfl ?_))
    by_cases hb117 : x3 = y1
    ·skip
     refine S.icmpN 94 (H dk__91) (qNeF hb117) (S.iinc 97 #[vr ta, vi 5, vr tb, vi 2, vi 0, vi y0, vi 3, vi 2, vi ((3 : Int32) + (1 : Int32)), vi 4, vi 1] (H dk__94) rfl rfl ?_)
     rw [show (3 + 1 : Int32) = 4 from by decide]
     refine S.iinc 100 #[vr ta, vi 5, vr tb, vi 2, vi 0, vi y0, vi 3, vi 2, vi 4, vi 4, vi ((1 : Int32) + (1 : Int32))] (H dk__97) rfl rfl ?_
     rw [show (1 + 1 : Int32) = 2 from by decide]
     refine S.goto 76 (H dk__100) (S.iload 78 (H dk__76) rfl (S.iload 80 (H dk__78) rfl (S.icmpY 103 (H dk__80) (qGeT (by decide)) (S.iload 105 (H dk__103) rfl (S.iload 107 (H dk__105) rfl (S.icmpN 110 (H dk__107) (qNeF (by decide)) ?_))))))
     refine S.iload 112 (H dk__110) rfl ?_
     have k118 : b2 = true := by rw [e2, decide_eq_true hb116, decide_eq_true hb117] <;> rfl
     exact S.retI (H dk__112) hret (by decide) (by decide) ⟨by rw [hx115, k118] <;> rfl, rfl⟩
    ·skip
     refine S.icmpY 103 (H dk__91) (qNeT hb117) (S.iload 105 (H dk__103) rfl (S.iload 107 (H dk__105) rfl (S.icmpY 113 (H dk__107) (qNeT (by decide)) (S.iinc 116 #[vr ta, vi 5, vr tb, vi 2, vi 0, vi y0, vi 3, vi ((2 : Int32) + (1 : Int32)), vi 3, vi 4, vi 1] (H dk__113) rfl rfl ?_))))
     rw [show (2 + 1 : Int32) = 3 from by decide]
     refine S.goto 14 (H dk__116) ?_
     have k119 : b2 = false := by rw [e2, decide_eq_false hb117, Bool.and_false]
     exact tail104 _ _ _ (by rw [hx115, k119] <;> rfl)
   ·skip
    refine S.icmpN 30 (H dk__27) (qEqF hb116) (S.iinc 33 #[vr ta, vi 5, vr tb, vi 2, vi 0, vi y0, vi 3, vi ((2 : Int32) + (1 : Int32)), vi z111, vi z112, vi z113] (H dk__30) rfl rfl ?_)
    rw [show (2 + 1 : Int32) = 3 from by decide]
    refine S.iload 35 (H dk__33) rfl (S.iload 37 (H dk__35) rfl (S.icmpN 40 (H dk__37) (qGtF (by decide)) (S.aloadN 41 (H dk__40) rfl rfl (S.iload 43 (H dk__41) rfl (S.baload (v := .int x3) 44 (H dk__43) AA ⟨by decide, by decide⟩ rfl ?_)))))
    refine S.iload 46 (H dk__44) rfl ?_
    by_cases hb120 : x3 = y0
    ·skip
     refine S.icmpY 52 (H dk__46) (qEqT hb120) (S.iload 54 (H dk__52) rfl (S.iload 56 (H dk__54) rfl (S.icmpN 59 (H dk__56) (qGtF (by decide)) (S.iload 61 (H dk__59) rfl (S.iconst 62 (1 : Int32) (H dk__61) (S.iadd 63 (H dk__62) ?_))))))
     rw [show (3 + 1 : Int32) = 4 from by decide]
     refine S.istore 65 #[vr ta, vi 5, vr tb, vi 2, vi 0, vi y0, vi 3, vi 3, vi 4, vi z112, vi z113] (H dk__63) rfl (S.iload 67 (H dk__65) rfl (S.iloadN 68 (H dk__67) rfl (S.iadd 69 (H dk__68) ?_)))
     rw [show (4 + 2 : Int32) = 6 from by decide]
     refine S.iconst 70 (1 : Int32) (H dk__69) (S.isub 71 (H dk__70) ?_)
     rw [show (6 - 1 : Int32) = 5 from by decide]
     refine S.istore 73 #[vr ta, vi 5, vr tb, vi 2, vi 0, vi y0, vi 3, vi 3, vi 4, vi 5, vi z113] (H dk__71) rfl (S.iconst 74 (1 : Int32) (H dk__73) (S.istore 76 #[vr ta, vi 5, vr tb, vi 2, vi 0, vi y0, vi 3, vi 3, vi 4, vi 5, vi 1] (H dk__74) rfl (S.iload 78 (H dk__76) rfl (S.iload 80 (H dk__78) rfl (S.icmpN 83 (H dk__80) (qGeF (by decide)) (S.aloadN 84 (H dk__83) rfl rfl ?_))))))
     refine S.iload 86 (H dk__84) rfl (S.baload (v := .int x4) 87 (H dk__86) AA ⟨by decide, by decide⟩ rfl ?_)
     refine S.aloadN 88 (H dk__87) rfl rfl (S.iload 90 (H dk__88) rfl (S.baload (v := .int y1) 91 (H dk__90) AB ⟨by decide, by decide⟩ rfl ?_))
     by_cases hb121 : x4 = y1
     ·skip
      refine S.icmpN 94 (H dk__91) (qNeF hb121) (S.iinc 97 #[vr ta, vi 5, vr tb, vi 2, vi 0, vi y0, vi 3, vi 3, vi ((4 : Int32) + (1 : Int32)), vi 5, vi 1] (H dk__94) rfl rfl ?_)
      rw [show (4 + 1 : Int32) = 5 from by decide]
      refine S.iinc 100 #[vr ta, vi 5, vr tb, vi 2, vi 0, vi y0, vi 3, vi 3, vi 5, vi 5, vi ((1 : Int32) + (1 : Int32))] (H dk__97) rfl rfl ?_
      rw [show (1 + 1 : Int32) = 2 from by decide]
      refine S.goto 76 (H dk__100) (S.iload 78 (H dk__76) rfl (S.iload 80 (H dk__78) rfl (S.icmpY 103 (H dk__80) (qGeT (by decide)) (S.iload 105 (H dk__103) rfl (S.iload 107 (H dk__105) rfl (S.icmpN 110 (H dk__107) (qNeF (by decide)) ?_))))))
      refine S.iload 112 (H dk__110) rfl ?_
      have k122 : b2 = false := by rw [e2, decide_eq_false hb116] <;> rfl
      have k123 : b3 = true := by rw [e3, decide_eq_true hb120, decide_eq_true hb121] <;> rfl
      exact S.retI (H dk__112) hret (by decide) (by decide) ⟨by rw [hx115, k122, k123] <;> rfl, rfl⟩
     ·skip
      refine S.icmpY 103 (H dk__91) (qNeT hb121) (S.iload 105 (H dk__103) rfl (S.iload 107 (H dk__105) rfl (S.icmpY 113 (H dk__107) (qNeT (by decide)) (S.iinc 116 #[vr ta, vi 5, vr tb, vi 2, vi 0, vi y0, vi 3, vi ((3 : Int32) + (1 : Int32)), vi 4, vi 5, vi 1] (H dk__113) rfl rfl ?_))))
      rw [show (3 + 1 : Int32) = 4 from by decide]
      refine S.goto 14 (H dk__116) (S.iload 16 (H dk__14) rfl (S.iload 18 (H dk__16) rfl (S.icmpY 119 (H dk__18) (qGtT (by decide)) (S.iconst 120 (-1 : Int32) (H dk__119) ?_))))
      have k124 : b2 = false := by rw [e2, decide_eq_false hb116] <;> rfl
      have k125 : b3 = false := by rw [e3, decide_eq_false hb121, Bool.and_false]
      exact S.retI (H dk__120) hret (by decide) (by decide) ⟨by rw [hx115, k124, k125] <;> rfl, rfl⟩
    ·skip
     refine S.icmpN 49 (H dk__46) (qEqF hb120) (S.goto 30 (H dk__49) (S.iinc 33 #[vr ta, vi 5, vr tb, vi 2, vi 0, vi y0, vi 3, vi ((3 : Int32) + (1 : Int32)), vi z111, vi z112, vi z113] (H dk__30) rfl rfl ?_))
     rw [show (3 + 1 : Int32) = 4 from by decide]
     refine S.iload 35 (H dk__33) rfl (S.iload 37 (H dk__35) rfl (S.icmpY 52 (H dk__37) (qGtT (by decide)) (S.iload 54 (H dk__52) rfl (S.iload 56 (H dk__54) rfl (S.icmpY 113 (H dk__56) (qGtT (by decide)) (S.iinc 116 #[vr ta, vi 5, vr tb, vi 2, vi 0, vi y0, vi 3, vi ((4 : Int32) + (1 : Int32)), vi z111, vi z112, vi z113] (H dk__113) rfl rfl ?_))))))
     rw [show (4 + 1 : Int32) = 5 from by decide]
     refine S.goto 14 (H dk__116) (S.iload 16 (H dk__14) rfl (S.iload 18 (H dk__16) rfl (S.icmpY 119 (H dk__18) (qGtT (by decide)) (S.iconst 120 (-1 : Int32) (H dk__119) ?_))))
     have k126 : b2 = false := by rw [e2, decide_eq_false hb116] <;> rfl
     have k127 : b3 = false := by rw [e3, decide_eq_false hb120] <;> rfl
     exact S.retI (H dk__120) hret (by decide) (by decide) ⟨by rw [hx115, k126, k127] <;> rfl, rfl⟩
  have tail131 : ∀ z128 z129 z130 : Int32, (own_nx [(b0, 0), (b1, 1), (b2, 2), (b3, 3)]) = (own_nx [(b1, 1), (b2, 2), (b3, 3)]) → Go p e below (Done false [] Z s n0 h0 [] ({ frames := 0, cells := 0, slots := 0, locals := 0 } : Room).cells ({ frames := 0, cells := 0, slots := 0, locals := 0 } : Room).slots (fun v h' => v = some (.int (own_nx [(b0, 0), (b1, 1), (b2, 2), (b3, 3)])) ∧ h' = h0)) T (mkF m 14 #[vr ta, vi 5, vr tb, vi 2, vi 0, vi y0, vi 3, vi 1, vi z128, vi z129, vi z130] []) := by
   intro z128 z129 z130 hx132
   refine S.iload 16 (H dk__14) rfl (S.iload 18 (H dk__16) rfl (S.icmpN 21 (H dk__18) (qGtF (by decide)) (S.aloadN 22 (H dk__21) rfl rfl (S.iload 24 (H dk__22) rfl (S.baload (v := .int x1) 25 (H dk__24) AA ⟨by decide, by decide⟩ rfl ?_)))))
   refine S.iload 27 (H dk__25) rfl ?_
   by_cases hb133 : x1 = y0
   ·skip
    refine S.icmpY 52 (H dk__27) (qEqT hb133) (S.iload 54 (H dk__52) rfl (S.iload 56 (H dk__54) rfl (S.icmpN 59 (H dk__56) (qGtF (by decide)) (S.iload 61 (H dk__59) rfl (S.iconst 62 (1 : Int32) (H dk__61) (S.iadd 63 (H dk__62) ?_))))))
    rw [show (1 + 1 : Int32) = 2 from by decide]
    refine S.istore 65 #[vr ta, vi 5, vr tb, vi 2, vi 0, vi y0, vi 3, vi 1, vi 2, vi z129, vi z130] (H dk__63) rfl (S.iload 67 (H dk__65) rfl (S.iloadN 68 (H dk__67) rfl (S.iadd 69 (H dk__68) ?_)))
    rw [show (2 + 2 : Int32) = 4 from by decide]
    refine S.iconst 70 (1 : Int32) (H dk__69) (S.isub 71 (H dk__70) ?_)
    rw [show (4 - 1 : Int32) = 3 from by decide]
    refine S.istore 73 #[vr ta, vi 5, vr tb, vi 2, vi 0, vi y0, vi 3, vi 1, vi 2, vi 3, vi z130] (H dk__71) rfl (S.iconst 74 (1 : Int32) (H dk__73) (S.istore 76 #[vr ta, vi 5, vr tb, vi 2, vi 0, vi y0, vi 3, vi 1, vi 2, vi 3, vi 1] (H dk__74) rfl (S.iload 78 (H dk__76) rfl (S.iload 80 (H dk__78) rfl (S.icmpN 83 (H dk__80) (qGeF (by decide)) (S.aloadN 84 (H dk__83) rfl rfl ?_))))))
    refine S.iload 86 (H dk__84) rfl (S.baload (v := .int x2) 87 (H dk__86) AA ⟨by decide, by decide⟩ rfl ?_)
    refine S.aloadN 88 (H dk__87) rfl rfl (S.iload 90 (H dk__88) rfl (S.baload (v := .int y1) 91 (H dk__90) AB ⟨by decide, by decide⟩ rfl ?_))
    by_cases hb134 : x2 = y1
    ·skip
     refine S.icmpN 94 (H dk__91) (qNeF hb134) (S.iinc 97 #[vr ta, vi 5, vr tb, vi 2, vi 0, vi y0, vi 3, vi 1, vi ((2 : Int32) + (1 : Int32)), vi 3, vi 1] (H dk__94) rfl rfl ?_)
     rw [show (2 + 1 : Int32) = 3 from by decide]
     refine S.iinc 100 #[vr ta, vi 5, vr tb, vi 2, vi 0, vi y0, vi 3, vi 1, vi 3, vi 3, vi ((1 : Int32) + (1 : Int32))] (H dk__97) rfl rfl ?_
     rw [show (1 + 1 : Int32) = 2 from by decide]
     refine S.goto 76 (H dk__100) (S.iload 78 (H dk__76) rfl (S.iload 80 (H dk__78) rfl (S.icmpY 103 (H dk__80) (qGeT (by decide)) (S.iload 105 (H dk__103) rfl (S.iload 107 (H dk__105) rfl (S.icmpN 110 (H dk__107) (qNeF (by decide)) ?_))))))
     refine S.iload 112 (H dk__110) rfl ?_
     have k135 : b1 = true := by rw [e1, decide_eq_true hb133, decide_eq_true hb134] <;> rfl
     exact S.retI (H dk__112) hret (by decide) (by decide) ⟨by rw [hx132, k135] <;> rfl, rfl⟩
    ·skip
     refine S.icmpY 103 (H dk__91) (qNeT hb134) (S.iload 105 (H dk__103) rfl (S.iload 107 (H dk__105) rfl (S.icmpY 113 (H dk__107) (qNeT (by decide)) (S.iinc 116 #[vr ta, vi 5, vr tb, vi 2, vi 0, vi y0, vi 3, vi ((1 : Int32) + (1 : Int32)), vi 2, vi 3, vi 1] (H dk__113) rfl rfl ?_))))
     rw [show (1 + 1 : Int32) = 2 from by decide]
     refine S.goto 14 (H dk__116) ?_
     have k136 : b1 = false := by rw [e1, decide_eq_false hb134, Bool.and_false]
     exact tail114 _ _ _ (by rw [hx132, k136] <;> rfl)
   ·skip
    refine S.icmpN 30 (H dk__27) (qEqF hb133) (S.iinc 33 #[vr ta, vi 5, vr tb, vi 2, vi 0, vi y0, vi 3, vi ((1 : Int32) + (1 : Int32)), vi z128, vi z129, vi z130] (H dk__30) rfl rfl ?_)
    rw [show (1 + 1 : Int32) = 2 from by decide]
    refine S.iload 35 (H dk__33) rfl (S.iload 37 (H dk__35) rfl (S.icmpN 40 (H dk__37) (qGtF (by decide)) (S.aloadN 41 (H dk__40) rfl rfl (S.iload 43 (H dk__41) rfl (S.baload (v := .int x2) 44 (H dk__43) AA ⟨by decide, by decide⟩ rfl ?_)))))
    refine S.iload 46 (H dk__44) rfl ?_
    by_cases hb137 : x2 = y0
    ·skip
     refine S.icmpY 52 (H dk__46) (qEqT hb137) (S.iload 54 (H dk__52) rfl (S.iload 56 (H dk__54) rfl (S.icmpN 59 (H dk__56) (qGtF (by decide)) (S.iload 61 (H dk__59) rfl (S.iconst 62 (1 : Int32) (H dk__61) (S.iadd 63 (H dk__62) ?_))))))
     rw [show (2 + 1 : Int32) = 3 from by decide]
     refine S.istore 65 #[vr ta, vi 5, vr tb, vi 2, vi 0, vi y0, vi 3, vi 2, vi 3, vi z129, vi z130] (H dk__63) rfl (S.iload 67 (H dk__65) rfl (S.iloadN 68 (H dk__67) rfl (S.iadd 69 (H dk__68) ?_)))
     rw [show (3 + 2 : Int32) = 5 from by decide]
     refine S.iconst 70 (1 : Int32) (H dk__69) (S.isub 71 (H dk__70) ?_)
     rw [show (5 - 1 : Int32) = 4 from by decide]
     refine S.istore 73 #[vr ta, vi 5, vr tb, vi 2, vi 0, vi y0, vi 3, vi 2, vi 3, vi 4, vi z130] (H dk__71) rfl (S.iconst 74 (1 : Int32) (H dk__73) (S.istore 76 #[vr ta, vi 5, vr tb, vi 2, vi 0, vi y0, vi 3, vi 2, vi 3, vi 4, vi 1] (H dk__74) rfl (S.iload 78 (H dk__76) rfl (S.iload 80 (H dk__78) rfl (S.icmpN 83 (H dk__80) (qGeF (by decide)) (S.aloadN 84 (H dk__83) rfl rfl ?_))))))
     refine S.iload 86 (H dk__84) rfl (S.baload (v := .int x3) 87 (H dk__86) AA ⟨by decide, by decide⟩ rfl ?_)
     refine S.aloadN 88 (H dk__87) rfl rfl (S.iload 90 (H dk__88) rfl (S.baload (v := .int y1) 91 (H dk__90) AB ⟨by decide, by decide⟩ rfl ?_))
     by_cases hb138 : x3 = y1
     ·skip
      refine S.icmpN 94 (H dk__91) (qNeF hb138) (S.iinc 97 #[vr ta, vi 5, vr tb, vi 2, vi 0, vi y0, vi 3, vi 2, vi ((3 : Int32) + (1 : Int32)), vi 4, vi 1] (H dk__94) rfl rfl ?_)
      rw [show (3 + 1 : Int32) = 4 from by decide]
      refine S.iinc 100 #[vr ta, vi 5, vr tb, vi 2, vi 0, vi y0, vi 3, vi 2, vi 4, vi 4, vi ((1 : Int32) + (1 : Int32))] (H dk__97) rfl rfl ?_
      rw [show (1 + 1 : Int32) = 2 from by decide]
      refine S.goto 76 (H dk__100) (S.iload 78 (H dk__76) rfl (S.iload 80 (H dk__78) rfl (S.icmpY 103 (H dk__80) (qGeT (by decide)) (S.iload 105 (H dk__103) rfl (S.iload 107 (H dk__105) rfl (S.icmpN 110 (H dk__107) (qNeF (by decide)) ?_))))))
      refine S.iload 112 (H dk__110) rfl ?_
      have k139 : b1 = false := by rw [e1, decide_eq_false hb133] <;> rfl
      have k140 : b2 = true := by rw [e2, decide_eq_true hb137, decide_eq_true hb138] <;> rfl
      exact S.retI (H dk__112) hret (by decide) (by decide) ⟨by rw [hx132, k139, k140] <;> rfl, rfl⟩
     ·skip
      refine S.icmpY 103 (H dk__91) (qNeT hb138) (S.iload 105 (H dk__103) rfl (S.iload 107 (H dk__105) rfl (S.icmpY 113 (H dk__107) (qNeT (by decide)) (S.iinc 116 #[vr ta, vi 5, vr tb, vi 2, vi 0, vi y0, vi 3, vi ((2 : Int32) + (1 : Int32)), vi 3, vi 4, vi 1] (H dk__113) rfl rfl ?_))))
      rw [show (2 + 1 : Int32) = 3 from by decide]
      refine S.goto 14 (H dk__116) ?_
      have k141 : b1 = false := by rw [e1, decide_eq_false hb133] <;> rfl
      have k142 : b2 = false := by rw [e2, decide_eq_false hb138, Bool.and_false]
      exact tail104 _ _ _ (by rw [hx132, k141, k142] <;> rfl)
    ·skip
     refine S.icmpN 49 (H dk__46) (qEqF hb137) (S.goto 30 (H dk__49) (S.iinc 33 #[vr ta, vi 5, vr tb, vi 2, vi 0, vi y0, vi 3, vi ((2 : Int32) + (1 : Int32)), vi z128, vi z129, vi z130] (H dk__30) rfl rfl ?_))
     rw [show (2 + 1 : Int32) = 3 from by decide]
     refine S.iload 35 (H dk__33) rfl (S.iload 37 (H dk__35) rfl (S.icmpN 40 (H dk__37) (qGtF (by decide)) (S.aloadN 41 (H dk__40) rfl rfl (S.iload 43 (H dk__41) rfl (S.baload (v := .int x3) 44 (H dk__43) AA ⟨by decide, by decide⟩ rfl ?_)))))
     refine S.iload 46 (H dk__44) rfl ?_
     by_cases hb143 : x3 = y0
     ·skip
      refine S.icmpY 52 (H dk__46) (qEqT hb143) (S.iload 54 (H dk__52) rfl (S.iload 56 (H dk__54) rfl (S.icmpN 59 (H dk__56) (qGtF (by decide)) (S.iload 61 (H dk__59) rfl (S.iconst 62 (1 : Int32) (H dk__61) (S.iadd 63 (H dk__62) ?_))))))
      rw [show (3 + 1 : Int32) = 4 from by decide]
      refine S.istore 65 #[vr ta, vi 5, vr tb, vi 2, vi 0, vi y0, vi 3, vi 3, vi 4, vi z129, vi z130] (H dk__63) rfl (S.iload 67 (H dk__65) rfl (S.iloadN 68 (H dk__67) rfl (S.iadd 69 (H dk__68) ?_)))
      rw [show (4 + 2 : Int32) = 6 from by decide]
      refine S.iconst 70 (1 : Int32) (H dk__69) (S.isub 71 (H dk__70) ?_)
      rw [show (6 - 1 : Int32) = 5 from by decide]
      refine S.istore 73 #[vr ta, vi 5, vr tb, vi 2, vi 0, vi y0, vi 3, vi 3, vi 4, vi 5, vi z130] (H dk__71) rfl (S.iconst 74 (1 : Int32) (H dk__73) (S.istore 76 #[vr ta, vi 5, vr tb, vi 2, vi 0, vi y0, vi 3, vi 3, vi 4, vi 5, vi 1] (H dk__74) rfl (S.iload 78 (H dk__76) rfl (S.iload 80 (H dk__78) rfl (S.icmpN 83 (H dk__80) (qGeF (by decide)) (S.aloadN 84 (H dk__83) rfl rfl ?_))))))
      refine S.iload 86 (H dk__84) rfl (S.baload (v := .int x4) 87 (H dk__86) AA ⟨by decide, by decide⟩ rfl ?_)
      refine S.aloadN 88 (H dk__87) rfl rfl (S.iload 90 (H dk__88) rfl (S.baload (v := .int y1) 91 (H dk__90) AB ⟨by decide, by decide⟩ rfl ?_))
      by_cases hb144 : x4 = y1
      ·skip
       refine S.icmpN 94 (H dk__91) (qNeF hb144) (S.iinc 97 #[vr ta, vi 5, vr tb, vi 2, vi 0, vi y0, vi 3, vi 3, vi ((4 : Int32) + (1 : Int32)), vi 5, vi 1] (H dk__94) rfl rfl ?_)
       rw [show (4 + 1 : Int32) = 5 from by decide]
       refine S.iinc 100 #[vr ta, vi 5, vr tb, vi 2, vi 0, vi y0, vi 3, vi 3, vi 5, vi 5, vi ((1 : Int32) + (1 : Int32))] (H dk__97) rfl rfl ?_
       rw [show (1 + 1 : Int32) = 2 from by decide]
       refine S.goto 76 (H dk__100) (S.iload 78 (H dk__76) rfl (S.iload 80 (H dk__78) rfl (S.icmpY 103 (H dk__80) (qGeT (by decide)) (S.iload 105 (H dk__103) rfl (S.iload 107 (H dk__105) rfl (S.icmpN 110 (H dk__107) (qNeF (by decide)) ?_))))))
       refine S.iload 112 (H dk__110) rfl ?_
       have k145 : b1 = false := by rw [e1, decide_eq_false hb133] <;> rfl
       have k146 : b2 = false := by rw [e2, decide_eq_false hb137] <;> rfl
       have k147 : b3 = true := by rw [e3, decide_eq_true hb143, decide_eq_true hb144] <;> rfl
       exact S.retI (H dk__112) hret (by decide) (by decide) ⟨by rw [hx132, k145, k146, k147] <;> rfl, rfl⟩
      ·skip
       refine S.icmpY 103 (H dk__91) (qNeT hb144) (S.iload 105 (H dk__103) rfl (S.iload 107 (H dk__105) rfl (S.icmpY 113 (H dk__107) (qNeT (by decide)) (S.iinc 116 #[vr ta, vi 5, vr tb, vi 2, vi 0, vi y0, vi 3, vi ((3 : Int32) + (1 : Int32)), vi 4, vi 5, vi 1] (H dk__113) rfl rfl ?_))))
       rw [show (3 + 1 : Int32) = 4 from by decide]
       refine S.goto 14 (H dk__116) (S.iload 16 (H dk__14) rfl (S.iload 18 (H dk__16) rfl (S.icmpY 119 (H dk__18) (qGtT (by decide)) (S.iconst 120 (-1 : Int32) (H dk__119) ?_))))
       have k148 : b1 = false := by rw [e1, decide_eq_false hb133] <;> rfl
       have k149 : b2 = false := by rw [e2, decide_eq_false hb137] <;> rfl
       have k150 : b3 = false := by rw [e3, decide_eq_false hb144, Bool.and_false]
       exact S.retI (H dk__120) hret (by decide) (by decide) ⟨by rw [hx132, k148, k149, k150] <;> rfl, rfl⟩
     ·skip
      refine S.icmpN 49 (H dk__46) (qEqF hb143) (S.goto 30 (H dk__49) (S.iinc 33 #[vr ta, vi 5, vr tb, vi 2, vi 0, vi y0, vi 3, vi ((3 : Int32) + (1 : Int32)), vi z128, vi z129, vi z130] (H dk__30) rfl rfl ?_))
      rw [show (3 + 1 : Int32) = 4 from by decide]
      refine S.iload 35 (H dk__33) rfl (S.iload 37 (H dk__35) rfl (S.icmpY 52 (H dk__37) (qGtT (by decide)) (S.iload 54 (H dk__52) rfl (S.iload 56 (H dk__54) rfl (S.icmpY 113 (H dk__56) (qGtT (by decide)) (S.iinc 116 #[vr ta, vi 5, vr tb, vi 2, vi 0, vi y0, vi 3, vi ((4 : Int32) + (1 : Int32)), vi z128, vi z129, vi z130] (H dk__113) rfl rfl ?_))))))
      rw [show (4 + 1 : Int32) = 5 from by decide]
      refine S.goto 14 (H dk__116) (S.iload 16 (H dk__14) rfl (S.iload 18 (H dk__16) rfl (S.icmpY 119 (H dk__18) (qGtT (by decide)) (S.iconst 120 (-1 : Int32) (H dk__119) ?_))))
      have k151 : b1 = false := by rw [e1, decide_eq_false hb133] <;> rfl
      have k152 : b2 = false := by rw [e2, decide_eq_false hb137] <;> rfl
      have k153 : b3 = false := by rw [e3, decide_eq_false hb143] <;> rfl
      exact S.retI (H dk__120) hret (by decide) (by decide) ⟨by rw [hx132, k151, k152, k153] <;> rfl, rfl⟩
  refine S.iload 16 (H dk__14) rfl (S.iload 18 (H dk__16) rfl (S.icmpN 21 (H dk__18) (qGtF (by decide)) (S.aloadN 22 (H dk__21) rfl rfl (S.iload 24 (H dk__22) rfl (S.baload (v := .int x0) 25 (H dk__24) AA ⟨by decide, by decide⟩ rfl ?_)))))
  refine S.iload 27 (H dk__25) rfl ?_
  by_cases hb154 : x0 = y0
  ·skip
   refine S.icmpY 52 (H dk__27) (qEqT hb154) (S.iload 54 (H dk__52) rfl (S.iload 56 (H dk__54) rfl (S.icmpN 59 (H dk__56) (qGtF (by decide)) (S.iload 61 (H dk__59) rfl (S.iconst 62 (1 : Int32) (H dk__61) (S.iadd 63 (H dk__62) ?_))))))
   rw [show (0 + 1 : Int32) = 1 from by decide]
   refine S.istore 65 #[vr ta, vi 5, vr tb, vi 2, vi 0, vi y0, vi 3, vi 0, vi 1, uN, uN] (H dk__63) rfl (S.iload 67 (H dk__65) rfl (S.iloadN 68 (H dk__67) rfl (S.iadd 69 (H dk__68) ?_)))
   rw [show (1 + 2 : Int32) = 3 from by decide]
   refine S.iconst 70 (1 : Int32) (H dk__69) (S.isub 71 (H dk__70) ?_)
   rw [show (3 - 1 : Int32) = 2 from by decide]
   refine S.istore 73 #[vr ta, vi 5, vr tb, vi 2, vi 0, vi y0, vi 3, vi 0, vi 1, vi 2, uN] (H dk__71) rfl (S.iconst 74 (1 : Int32) (H dk__73) (S.istore 76 #[vr ta, vi 5, vr tb, vi 2, vi 0, vi y0, vi 3, vi 0, vi 1, vi 2, vi 1] (H dk__74) rfl (S.iload 78 (H dk__76) rfl (S.iload 80 (H dk__78) rfl (S.icmpN 83 (H dk__80) (qGeF (by decide)) (S.aloadN 84 (H dk__83) rfl rfl ?_))))))
   refine S.iload 86 (H dk__84) rfl (S.baload (v := .int x1) 87 (H dk__86) AA ⟨by decide, by decide⟩ rfl ?_)
   refine S.aloadN 88 (H dk__87) rfl rfl (S.iload 90 (H dk__88) rfl (S.baload (v := .int y1) 91 (H dk__90) AB ⟨by decide, by decide⟩ rfl ?_))
   by_cases hb155 : x1 = y1
   ·skip
    refine S.icmpN 94 (H dk__91) (qNeF hb155) (S.iinc 97 #[vr ta, vi 5, vr tb, vi 2, vi 0, vi y0, vi 3, vi 0, vi ((1 : Int32) + (1 : Int32)), vi 2, vi 1] (H dk__94) rfl rfl ?_)
    rw [show (1 + 1 : Int32) = 2 from by decide]
    refine S.iinc 100 #[vr ta, vi 5, vr tb, vi 2, vi 0, vi y0, vi 3, vi 0, vi 2, vi 2, vi ((1 : Int32) + (1 : Int32))] (H dk__97) rfl rfl ?_
    rw [show (1 + 1 : Int32) = 2 from by decide]
    refine S.goto 76 (H dk__100) (S.iload 78 (H dk__76) rfl (S.iload 80 (H dk__78) rfl (S.icmpY 103 (H dk__80) (qGeT (by decide)) (S.iload 105 (H dk__103) rfl (S.iload 107 (H dk__105) rfl (S.icmpN 110 (H dk__107) (qNeF (by decide)) ?_))))))
    refine S.iload 112 (H dk__110) rfl ?_
    have k156 : b0 = true := by rw [e0, decide_eq_true hb154, decide_eq_true hb155] <;> rfl
    exact S.retI (H dk__112) hret (by decide) (by decide) ⟨by rw [k156] <;> rfl, rfl⟩
   ·skip
    refine S.icmpY 103 (H dk__91) (qNeT hb155) (S.iload 105 (H dk__103) rfl (S.iload 107 (H dk__105) rfl (S.icmpY 113 (H dk__107) (qNeT (by decide)) (S.iinc 116 #[vr ta, vi 5, vr tb, vi 2, vi 0, vi y0, vi 3, vi ((0 : Int32) + (1 : Int32)), vi 1, vi 2, vi 1] (H dk__113) rfl rfl ?_))))
    rw [show (0 + 1 : Int32) = 1 from by decide]
    refine S.goto 14 (H dk__116) ?_
    have k157 : b0 = false := by rw [e0, decide_eq_false hb155, Bool.and_false]
    exact tail131 _ _ _ (by rw [k157] <;> rfl)
  ·skip
   refine S.icmpN 30 (H dk__27) (qEqF hb154) (S.iinc 33 #[vr ta, vi 5, vr tb, vi 2, vi 0, vi y0, vi 3, vi ((0 : Int32) + (1 : Int32)), uN, uN, uN] (H dk__30) rfl rfl ?_)
   rw [show (0 + 1 : Int32) = 1 from by decide]
   refine S.iload 35 (H dk__33) rfl (S.iload 37 (H dk__35) rfl (S.icmpN 40 (H dk__37) (qGtF (by decide)) (S.aloadN 41 (H dk__40) rfl rfl (S.iload 43 (H dk__41) rfl (S.baload (v := .int x1) 44 (H dk__43) AA ⟨by decide, by decide⟩ rfl ?_)))))
   refine S.iload 46 (H dk__44) rfl ?_
   by_cases hb158 : x1 = y0
   ·skip
    refine S.icmpY 52 (H dk__46) (qEqT hb158) (S.iload 54 (H dk__52) rfl (S.iload 56 (H dk__54) rfl (S.icmpN 59 (H dk__56) (qGtF (by decide)) (S.iload 61 (H dk__59) rfl (S.iconst 62 (1 : Int32) (H dk__61) (S.iadd 63 (H dk__62) ?_))))))
    rw [show (1 + 1 : Int32) = 2 from by decide]
    refine S.istore 65 #[vr ta, vi 5, vr tb, vi 2, vi 0, vi y0, vi 3, vi 1, vi 2, uN, uN] (H dk__63) rfl (S.iload 67 (H dk__65) rfl (S.iloadN 68 (H dk__67) rfl (S.iadd 69 (H dk__68) ?_)))
    rw [show (2 + 2 : Int32) = 4 from by decide]
    refine S.iconst 70 (1 : Int32) (H dk__69) (S.isub 71 (H dk__70) ?_)
    rw [show (4 - 1 : Int32) = 3 from by decide]
    refine S.istore 73 #[vr ta, vi 5, vr tb, vi 2, vi 0, vi y0, vi 3, vi 1, vi 2, vi 3, uN] (H dk__71) rfl (S.iconst 74 (1 : Int32) (H dk__73) (S.istore 76 #[vr ta, vi 5, vr tb, vi 2, vi 0, vi y0, vi 3, vi 1, vi 2, vi 3, vi 1] (H dk__74) rfl (S.iload 78 (H dk__76) rfl (S.iload 80 (H dk__78) rfl (S.icmpN 83 (H dk__80) (qGeF (by decide)) (S.aloadN 84 (H dk__83) rfl rfl ?_))))))
    refine S.iload 86 (H dk__84) rfl (S.baload (v := .int x2) 87 (H dk__86) AA ⟨by decide, by decide⟩ rfl ?_)
    refine S.aloadN 88 (H dk__87) rfl rfl (S.iload 90 (H dk__88) rfl (S.baload (v := .int y1) 91 (H dk__90) AB ⟨by decide, by decide⟩ rfl ?_))
    by_cases hb159 : x2 = y1
    ·skip
     refine S.icmpN 94 (H dk__91) (qNeF hb159) (S.iinc 97 #[vr ta, vi 5, vr tb, vi 2, vi 0, vi y0, vi 3, vi 1, vi ((2 : Int32) + (1 : Int32)), vi 3, vi 1] (H dk__94) rfl rfl ?_)
     rw [show (2 + 1 : Int32) = 3 from by decide]
     refine S.iinc 100 #[vr ta, vi 5, vr tb, vi 2, vi 0, vi y0, vi 3, vi 1, vi 3, vi 3, vi ((1 : Int32) + (1 : Int32))] (H dk__97) rfl rfl ?_
     rw [show (1 + 1 : Int32) = 2 from by decide]
     refine S.goto 76 (H dk__100) (S.iload 78 (H dk__76) rfl (S.iload 80 (H dk__78) rfl (S.icmpY 103 (H dk__80) (qGeT (by decide)) (S.iload 105 (H dk__103) rfl (S.iload 107 (H dk__105) rfl (S.icmpN 110 (H dk__107) (qNeF (by decide)) ?_))))))
     refine S.iload 112 (H dk__110) rfl ?_
     have k160 : b0 = false := by rw [e0, decide_eq_false hb154] <;> rfl
     have k161 : b1 = true := by rw [e1, decide_eq_true hb158, decide_eq_true hb159] <;> rfl
     exact S.retI (H dk__112) hret (by decide) (by decide) ⟨by rw [k160, k161] <;> rfl, rfl⟩
    ·skip
     refine S.icmpY 103 (H dk__91) (qNeT hb159) (S.iload 105 (H dk__103) rfl (S.iload 107 (H dk__105) rfl (S.icmpY 113 (H dk__107) (qNeT (by decide)) (S.iinc 116 #[vr ta, vi 5, vr tb, vi 2, vi 0, vi y0, vi 3, vi ((1 : Int32) + (1 : Int32)), vi 2, vi 3, vi 1] (H dk__113) rfl rfl ?_))))
     rw [show (1 + 1 : Int32) = 2 from by decide]
     refine S.goto 14 (H dk__116) ?_
     have k162 : b0 = false := by rw [e0, decide_eq_false hb154] <;> rfl
     have k163 : b1 = false := by rw [e1, decide_eq_false hb159, Bool.and_false]
     exact tail114 _ _ _ (by rw [k162, k163] <;> rfl)
   ·skip
    refine S.icmpN 49 (H dk__46) (qEqF hb158) (S.goto 30 (H dk__49) (S.iinc 33 #[vr ta, vi 5, vr tb, vi 2, vi 0, vi y0, vi 3, vi ((1 : Int32) + (1 : Int32)), uN, uN, uN] (H dk__30) rfl rfl ?_))
    rw [show (1 + 1 : Int32) = 2 from by decide]
    refine S.iload 35 (H dk__33) rfl (S.iload 37 (H dk__35) rfl (S.icmpN 40 (H dk__37) (qGtF (by decide)) (S.aloadN 41 (H dk__40) rfl rfl (S.iload 43 (H dk__41) rfl (S.baload (v := .int x2) 44 (H dk__43) AA ⟨by decide, by decide⟩ rfl ?_)))))
    refine S.iload 46 (H dk__44) rfl ?_
    by_cases hb164 : x2 = y0
    ·skip
     refine S.icmpY 52 (H dk__46) (qEqT hb164) (S.iload 54 (H dk__52) rfl (S.iload 56 (H dk__54) rfl (S.icmpN 59 (H dk__56) (qGtF (by decide)) (S.iload 61 (H dk__59) rfl (S.iconst 62 (1 : Int32) (H dk__61) (S.iadd 63 (H dk__62) ?_))))))
     rw [show (2 + 1 : Int32) = 3 from by decide]
     refine S.istore 65 #[vr ta, vi 5, vr tb, vi 2, vi 0, vi y0, vi 3, vi 2, vi 3, uN, uN] (H dk__63) rfl (S.iload 67 (H dk__65) rfl (S.iloadN 68 (H dk__67) rfl (S.iadd 69 (H dk__68) ?_)))
     rw [show (3 + 2 : Int32) = 5 from by decide]
     refine S.iconst 70 (1 : Int32) (H dk__69) (S.isub 71 (H dk__70) ?_)
     rw [show (5 - 1 : Int32) = 4 from by decide]
     refine S.istore 73 #[vr ta, vi 5, vr tb, vi 2, vi 0, vi y0, vi 3, vi 2, vi 3, vi 4, uN] (H dk__71) rfl (S.iconst 74 (1 : Int32) (H dk__73) (S.istore 76 #[vr ta, vi 5, vr tb, vi 2, vi 0, vi y0, vi 3, vi 2, vi 3, vi 4, vi 1] (H dk__74) rfl (S.iload 78 (H dk__76) rfl (S.iload 80 (H dk__78) rfl (S.icmpN 83 (H dk__80) (qGeF (by decide)) (S.aloadN 84 (H dk__83) rfl rfl ?_))))))
     refine S.iload 86 (H dk__84) rfl (S.baload (v := .int x3) 87 (H dk__86) AA ⟨by decide, by decide⟩ rfl ?_)
     refine S.aloadN 88 (H dk__87) rfl rfl (S.iload 90 (H dk__88) rfl (S.baload (v := .int y1) 91 (H dk__90) AB ⟨by decide, by decide⟩ rfl ?_))
     by_cases hb165 : x3 = y1
     ·skip
      refine S.icmpN 94 (H dk__91) (qNeF hb165) (S.iinc 97 #[vr ta, vi 5, vr tb, vi 2, vi 0, vi y0, vi 3, vi 2, vi ((3 : Int32) + (1 : Int32)), vi 4, vi 1] (H dk__94) rfl rfl ?_)
      rw [show (3 + 1 : Int32) = 4 from by decide]
      refine S.iinc 100 #[vr ta, vi 5, vr tb, vi 2, vi 0, vi y0, vi 3, vi 2, vi 4, vi 4, vi ((1 : Int32) + (1 : Int32))] (H dk__97) rfl rfl ?_
      rw [show (1 + 1 : Int32) = 2 from by decide]
      refine S.goto 76 (H dk__100) (S.iload 78 (H dk__76) rfl (S.iload 80 (H dk__78) rfl (S.icmpY 103 (H dk__80) (qGeT (by decide)) (S.iload 105 (H dk__103) rfl (S.iload 107 (H dk__105) rfl (S.icmpN 110 (H dk__107) (qNeF (by decide)) ?_))))))
      refine S.iload 112 (H dk__110) rfl ?_
      have k166 : b0 = false := by rw [e0, decide_eq_false hb154] <;> rfl
      have k167 : b1 = false := by rw [e1, decide_eq_false hb158] <;> rfl
      have k168 : b2 = true := by rw [e2, decide_eq_true hb164, decide_eq_true hb165] <;> rfl
      exact S.retI (H dk__112) hret (by decide) (by decide) ⟨by rw [k166, k167, k168] <;> rfl, rfl⟩
     ·skip
      refine S.icmpY 103 (H dk__91) (qNeT hb165) (S.iload 105 (H dk__103) rfl (S.iload 107 (H dk__105) rfl (S.icmpY 113 (H dk__107) (qNeT (by decide)) (S.iinc 116 #[vr ta, vi 5, vr tb, vi 2, vi 0, vi y0, vi 3, vi ((2 : Int32) + (1 : Int32)), vi 3, vi 4, vi 1] (H dk__113) rfl rfl ?_))))
      rw [show (2 + 1 : Int32) = 3 from by decide]
      refine S.goto 14 (H dk__116) ?_
      have k169 : b0 = false := by rw [e0, decide_eq_false hb154] <;> rfl
      have k170 : b1 = false := by rw [e1, decide_eq_false hb158] <;> rfl
      have k171 : b2 = false := by rw [e2, decide_eq_false hb165, Bool.and_false]
      exact tail104 _ _ _ (by rw [k169, k170, k171] <;> rfl)
    ·skip
     refine S.icmpN 49 (H dk__46) (qEqF hb164) (S.goto 30 (H dk__49) (S.iinc 33 #[vr ta, vi 5, vr tb, vi 2, vi 0, vi y0, vi 3, vi ((2 : Int32) + (1 : Int32)), uN, uN, uN] (H dk__30) rfl rfl ?_))
     rw [show (2 + 1 : Int32) = 3 from by decide]
     refine S.iload 35 (H dk__33) rfl (S.iload 37 (H dk__35) rfl (S.icmpN 40 (H dk__37) (qGtF (by decide)) (S.aloadN 41 (H dk__40) rfl rfl (S.iload 43 (H dk__41) rfl (S.baload (v := .int x3) 44 (H dk__43) AA ⟨by decide, by decide⟩ rfl ?_)))))
     refine S.iload 46 (H dk__44) rfl ?_
     by_cases hb172 : x3 = y0
     ·skip
      refine S.icmpY 52 (H dk__46) (qEqT hb172) (S.iload 54 (H dk__52) rfl (S.iload 56 (H dk__54) rfl (S.icmpN 59 (H dk__56) (qGtF (by decide)) (S.iload 61 (H dk__59) rfl (S.iconst 62 (1 : Int32) (H dk__61) (S.iadd 63 (H dk__62) ?_))))))
      rw [show (3 + 1 : Int32) = 4 from by decide]
      refine S.istore 65 #[vr ta, vi 5, vr tb, vi 2, vi 0, vi y0, vi 3, vi 3, vi 4, uN, uN] (H dk__63) rfl (S.iload 67 (H dk__65) rfl (S.iloadN 68 (H dk__67) rfl (S.iadd 69 (H dk__68) ?_)))
      rw [show (4 + 2 : Int32) = 6 from by decide]
      refine S.iconst 70 (1 : Int32) (H dk__69) (S.isub 71 (H dk__70) ?_)
      rw [show (6 - 1 : Int32) = 5 from by decide]
      refine S.istore 73 #[vr ta, vi 5, vr tb, vi 2, vi 0, vi y0, vi 3, vi 3, vi 4, vi 5, uN] (H dk__71) rfl (S.iconst 74 (1 : Int32) (H dk__73) (S.istore 76 #[vr ta, vi 5, vr tb, vi 2, vi 0, vi y0, vi 3, vi 3, vi 4, vi 5, vi 1] (H dk__74) rfl (S.iload 78 (H dk__76) rfl (S.iload 80 (H dk__78) rfl (S.icmpN 83 (H dk__80) (qGeF (by decide)) (S.aloadN 84 (H dk__83) rfl rfl ?_))))))
      refine S.iload 86 (H dk__84) rfl (S.baload (v := .int x4) 87 (H dk__86) AA ⟨by decide, by decide⟩ rfl ?_)
      refine S.aloadN 88 (H dk__87) rfl rfl (S.iload 90 (H dk__88) rfl (S.baload (v := .int y1) 91 (H dk__90) AB ⟨by decide, by decide⟩ rfl ?_))
      by_cases hb173 : x4 = y1
      ·skip
       refine S.icmpN 94 (H dk__91) (qNeF hb173) (S.iinc 97 #[vr ta, vi 5, vr tb, vi 2, vi 0, vi y0, vi 3, vi 3, vi ((4 : Int32) + (1 : Int32)), vi 5, vi 1] (H dk__94) rfl rfl ?_)
       rw [show (4 + 1 : Int32) = 5 from by decide]
       refine S.iinc 100 #[vr ta, vi 5, vr tb, vi 2, vi 0, vi y0, vi 3, vi 3, vi 5, vi 5, vi ((1 : Int32) + (1 : Int32))] (H dk__97) rfl rfl ?_
       rw [show (1 + 1 : Int32) = 2 from by decide]
       refine S.goto 76 (H dk__100) (S.iload 78 (H dk__76) rfl (S.iload 80 (H dk__78) rfl (S.icmpY 103 (H dk__80) (qGeT (by decide)) (S.iload 105 (H dk__103) rfl (S.iload 107 (H dk__105) rfl (S.icmpN 110 (H dk__107) (qNeF (by decide)) ?_))))))
       refine S.iload 112 (H dk__110) rfl ?_
       have k174 : b0 = false := by rw [e0, decide_eq_false hb154] <;> rfl
       have k175 : b1 = false := by rw [e1, decide_eq_false hb158] <;> rfl
       have k176 : b2 = false := by rw [e2, decide_eq_false hb164] <;> rfl
       have k177 : b3 = true := by rw [e3, decide_eq_true hb172, decide_eq_true hb173] <;> rfl
       exact S.retI (H dk__112) hret (by decide) (by decide) ⟨by rw [k174, k175, k176, k177] <;> rfl, rfl⟩
      ·skip
       refine S.icmpY 103 (H dk__91) (qNeT hb173) (S.iload 105 (H dk__103) rfl (S.iload 107 (H dk__105) rfl (S.icmpY 113 (H dk__107) (qNeT (by decide)) (S.iinc 116 #[vr ta, vi 5, vr tb, vi 2, vi 0, vi y0, vi 3, vi ((3 : Int32) + (1 : Int32)), vi 4, vi 5, vi 1] (H dk__113) rfl rfl ?_))))
       rw [show (3 + 1 : Int32) = 4 from by decide]
       refine S.goto 14 (H dk__116) (S.iload 16 (H dk__14) rfl (S.iload 18 (H dk__16) rfl (S.icmpY 119 (H dk__18) (qGtT (by decide)) (S.iconst 120 (-1 : Int32) (H dk__119) ?_))))
       have k178 : b0 = false := by rw [e0, decide_eq_false hb154] <;> rfl
       have k179 : b1 = false := by rw [e1, decide_eq_false hb158] <;> rfl
       have k180 : b2 = false := by rw [e2, decide_eq_false hb164] <;> rfl
       have k181 : b3 = false := by rw [e3, decide_eq_false hb173, Bool.and_false]
       exact S.retI (H dk__120) hret (by decide) (by decide) ⟨by rw [k178, k179, k180, k181] <;> rfl, rfl⟩
     ·skip
      refine S.icmpN 49 (H dk__46) (qEqF hb172) (S.goto 30 (H dk__49) (S.iinc 33 #[vr ta, vi 5, vr tb, vi 2, vi 0, vi y0, vi 3, vi ((3 : Int32) + (1 : Int32)), uN, uN, uN] (H dk__30) rfl rfl ?_))
      rw [show (3 + 1 : Int32) = 4 from by decide]
      refine S.iload 35 (H dk__33) rfl (S.iload 37 (H dk__35) rfl (S.icmpY 52 (H dk__37) (qGtT (by decide)) (S.iload 54 (H dk__52) rfl (S.iload 56 (H dk__54) rfl (S.icmpY 113 (H dk__56) (qGtT (by decide)) (S.iinc 116 #[vr ta, vi 5, vr tb, vi 2, vi 0, vi y0, vi 3, vi ((4 : Int32) + (1 : Int32)), uN, uN, uN] (H dk__113) rfl rfl ?_))))))
      rw [show (4 + 1 : Int32) = 5 from by decide]
      refine S.goto 14 (H dk__116) (S.iload 16 (H dk__14) rfl (S.iload 18 (H dk__16) rfl (S.icmpY 119 (H dk__18) (qGtT (by decide)) (S.iconst 120 (-1 : Int32) (H dk__119) ?_))))
      have k182 : b0 = false := by rw [e0, decide_eq_false hb154] <;> rfl
      have k183 : b1 = false := by rw [e1, decide_eq_false hb158] <;> rfl
      have k184 : b2 = false := by rw [e2, decide_eq_false hb164] <;> rfl
      have k185 : b3 = false := by rw [e3, decide_eq_false hb172] <;> rfl
      exact S.retI (H dk__120) hret (by decide) (by decide) ⟨by rw [k182, k183, k184, k185] <;> rfl, rfl⟩


set_option maxRecDepth 65536 in
set_option maxHeartbeats 4000000 in
theorem own_io_2_2 (l : Launch) (Z : State) (a0 : Array Value) (hw : ∀ d ∈ tables_1, d.before a0 Z = true) (h0 : Heap) (n0 : Nat) (O : Old Z n0 h0) (ta : Addr) (ka : ClassId) (da : Value) (x0 : Int32) (x1 : Int32) (x2 : Int32) (x3 : Int32) (x4 : Int32) (tb : Addr) (kb : ClassId) (db : Value) (y0 : Int32) (y1 : Int32) (b2 : Bool) (b3 : Bool) (AA : Arv Z h0 ta ka .byte (5 : Int32) [(.int x0), (.int x1), (.int x2), (.int x3), (.int x4)] da) (AB : Arv Z h0 tb kb .byte (2 : Int32) [(.int y0), (.int y1)] db) (e2 : b2 = (decide (x2 = y0) && decide (x3 = y1))) (e3 : b3 = (decide (x3 = y0) && decide (x4 = y1))) :
   Con l Z n0 (⟨"java/lang/StringLatin1", "indexOf", "([BI[BII)I"⟩ : MethodName) jdk_43_method_25_code 11 (some .int) [] ({ frames := 0, cells := 0, slots := 0, locals := 0 } : Room) #[(.ref ta), (.int 5), (.ref tb), (.int 2), (.int 2)] h0 [] (fun v h' => v = some (.int (own_nx [(b2, 2), (b3, 3)])) ∧ h' = h0) := by
  refine Con.of a0 (plainFor_of_name own_pn_5) O (fun _ q => nomatch q) [] (fun _ q => nomatch q) ?_
  intro p e s m below meth cdX T S hby hml hret hnm
  have H := fun {k r} q => @hb _ _ hby k r q
  have W := @Tw a0 Z hw
  refine Go.cast (own_ef_4 m ta (5 : Int32) tb (2 : Int32) (2 : Int32)) ?_
  refine S.aloadN 1 (H dk__0) rfl rfl (S.iconst 2 (0 : Int32) (H dk__1) (S.baload (v := .int y0) 3 (H dk__2) AB ⟨by decide, by decide⟩ rfl ?_))
  refine S.istore 5 #[vr ta, vi 5, vr tb, vi 2, vi 2, vi y0, uN, uN, uN, uN, uN] (H dk__3) rfl (S.iloadN 6 (H dk__5) rfl (S.iloadN 7 (H dk__6) rfl (S.isub 8 (H dk__7) ?_)))
  rw [show (5 - 2 : Int32) = 3 from by decide]
  refine S.istore 10 #[vr ta, vi 5, vr tb, vi 2, vi 2, vi y0, vi 3, uN, uN, uN, uN] (H dk__8) rfl (S.iload 12 (H dk__10) rfl (S.istore 14 #[vr ta, vi 5, vr tb, vi 2, vi 2, vi y0, vi 3, vi 2, uN, uN, uN] (H dk__12) rfl ?_))
  have tail189 : ∀ z186 z187 z188 : Int32, (own_nx [(b2, 2), (b3, 3)]) = (own_nx [(b3, 3)]) → Go p e below (Done false [] Z s n0 h0 [] ({ frames := 0, cells := 0, slots := 0, locals := 0 } : Room).cells ({ frames := 0, cells := 0, slots := 0, locals := 0 } : Room).slots (fun v h' => v = some (.int (own_nx [(b2, 2), (b3, 3)])) ∧ h' = h0)) T (mkF m 14 #[vr ta, vi 5, vr tb, vi 2, vi 2, vi y0, vi 3, vi 3, vi z186, vi z187, vi z188] []) := by
   intro z186 z187 z188 hx190
   refine S.iload 16 (H dk__14) rfl (S.iload 18 (H dk__16) rfl (S.icmpN 21 (H dk__18) (qGtF (by decide)) (S.aloadN 22 (H dk__21) rfl rfl (S.iload 24 (H dk__22) rfl (S.baload (v := .int x3) 25 (H dk__24) AA ⟨by decide, by decide⟩ rfl ?_)))))
   refine S.iload 27 (H dk__25) rfl ?_
   by_cases hb191 : x3 = y0
   ·skip
    refine S.icmpY 52 (H dk__27) (qEqT hb191) (S.iload 54 (H dk__52) rfl (S.iload 56 (H dk__54) rfl (S.icmpN 59 (H dk__56) (qGtF (by decide)) (S.iload 61 (H dk__59) rfl (S.iconst 62 (1 : Int32) (H dk__61) (S.iadd 63 (H dk__62) ?_))))))
    rw [show (3 + 1 : Int32) = 4 from by decide]
    refine S.istore 65 #[vr ta, vi 5, vr tb, vi 2, vi 2, vi y0, vi 3, vi 3, vi 4, vi z187, vi z188] (H dk__63) rfl (S.iload 67 (H dk__65) rfl (S.iloadN 68 (H dk__67) rfl (S.iadd 69 (H dk__68) ?_)))
    rw [show (4 + 2 : Int32) = 6 from by decide]
    refine S.iconst 70 (1 : Int32) (H dk__69) (S.isub 71 (H dk__70) ?_)
    rw [show (6 - 1 : Int32) = 5 from by decide]
    refine S.istore 73 #[vr ta, vi 5, vr tb, vi 2, vi 2, vi y0, vi 3, vi 3, vi 4, vi 5, vi z188] (H dk__71) rfl (S.iconst 74 (1 : Int32) (H dk__73) (S.istore 76 #[vr ta, vi 5, vr tb, vi 2, vi 2, vi y0, vi 3, vi 3, vi 4, vi 5, vi 1] (H dk__74) rfl (S.iload 78 (H dk__76) rfl (S.iload 80 (H dk__78) rfl (S.icmpN 83 (H dk__80) (qGeF (by decide)) (S.aloadN 84 (H dk__83) rfl rfl ?_))))))
    refine S.iload 86 (H dk__84) rfl (S.baload (v := .int x4) 87 (H dk__86) AA ⟨by decide, by decide⟩ rfl ?_)
    refine S.aloadN 88 (H dk__87) rfl rfl (S.iload 90 (H dk__88) rfl (S.baload (v := .int y1) 91 (H dk__90) AB ⟨by decide, by decide⟩ rfl ?_))
    by_cases hb192 : x4 = y1
    ·skip
     refine S.icmpN 94 (H dk__91) (qNeF hb192) (S.iinc 97 #[vr ta, vi 5, vr tb, vi 2, vi 2, vi y0, vi 3, vi 3, vi ((4 : Int32) + (1 : Int32)), vi 5, vi 1] (H dk__94) rfl rfl ?_)
     rw [show (4 + 1 : Int32) = 5 from by decide]
     refine S.iinc 100 #[vr ta, vi 5, vr tb, vi 2, vi 2, vi y0, vi 3, vi 3, vi 5, vi 5, vi ((1 : Int32) + (1 : Int32))] (H dk__97) rfl rfl ?_
     rw [show (1 + 1 : Int32) = 2 from by decide]
     refine S.goto 76 (H dk__100) (S.iload 78 (H dk__76) rfl (S.iload 80 (H dk__78) rfl (S.icmpY 103 (H dk__80) (qGeT (by decide)) (S.iload 105 (H dk__103) rfl (S.iload 107 (H dk__105) rfl (S.icmpN 110 (H dk__107) (qNeF (by decide)) ?_))))))
     refine S.iload 112 (H dk__110) rfl ?_
     have k193 : b3 = true := by rw [e3, decide_eq_true hb191, decide_eq_true hb192] <;> rfl
     exact S.retI (H dk__112) hret (by decide) (by decide) ⟨by rw [hx190, k193] <;> rfl, rfl⟩
    ·skip
     refine S.icmpY 103 (H dk__91) (qNeT hb192) (S.iload 105 (H dk__103) rfl (S.iload 107 (H dk__105) rfl (S.icmpY 113 (H dk__107) (qNeT (by decide)) (S.iinc 116 #[vr ta, vi 5, vr tb, vi 2, vi 2, vi y0, vi 3, vi ((3 : Int32) + (1 : Int32)), vi 4, vi 5, vi 1] (H dk__113) rfl rfl ?_))))
     rw [show (3 + 1 : Int32) = 4 from by decide]
     refine S.goto 14 (H dk__116) (S.iload 16 (H dk__14) rfl (S.iload 18 (H dk__16) rfl (S.icmpY 119 (H dk__18) (qGtT (by decide)) (S.iconst 120 (-1 : Int32) (H dk__119) ?_))))
     have k194 : b3 = false := by rw [e3, decide_eq_false hb192, Bool.and_false]
     exact S.retI (H dk__120) hret (by decide) (by decide) ⟨by rw [hx190, k194] <;> rfl, rfl⟩
   ·skip
    refine S.icmpN 30 (H dk__27) (qEqF hb191) (S.iinc 33 #[vr ta, vi 5, vr tb, vi 2, vi 2, vi y0, vi 3, vi ((3 : Int32) + (1 : Int32)), vi z186, vi z187, vi z188] (H dk__30) rfl rfl ?_)
    rw [show (3 + 1 : Int32) = 4 from by decide]
    refine S.iload 35 (H dk__33) rfl (S.iload 37 (H dk__35) rfl (S.icmpY 52 (H dk__37) (qGtT (by decide)) (S.iload 54 (H dk__52) rfl (S.iload 56 (H dk__54) rfl (S.icmpY 113 (H dk__56) (qGtT (by decide)) (S.iinc 116 #[vr ta, vi 5, vr tb, vi 2, vi 2, vi y0, vi 3, vi ((4 : Int32) + (1 : Int32)), vi z186, vi z187, vi z188] (H dk__113) rfl rfl ?_))))))
    rw [show (4 + 1 : Int32) = 5 from by decide]
    refine S.goto 14 (H dk__116) (S.iload 16 (H dk__14) rfl (S.iload 18 (H dk__16) rfl (S.icmpY 119 (H dk__18) (qGtT (by decide)) (S.iconst 120 (-1 : Int32) (H dk__119) ?_))))
    have k195 : b3 = false := by rw [e3, decide_eq_false hb191] <;> rfl
    exact S.retI (H dk__120) hret (by decide) (by decide) ⟨by rw [hx190, k195] <;> rfl, rfl⟩
  refine S.iload 16 (H dk__14) rfl (S.iload 18 (H dk__16) rfl (S.icmpN 21 (H dk__18) (qGtF (by decide)) (S.aloadN 22 (H dk__21) rfl rfl (S.iload 24 (H dk__22) rfl (S.baload (v := .int x2) 25 (H dk__24) AA ⟨by decide, by decide⟩ rfl ?_)))))
  refine S.iload 27 (H dk__25) rfl ?_
  by_cases hb196 : x2 = y0
  ·skip
   refine S.icmpY 52 (H dk__27) (qEqT hb196) (S.iload 54 (H dk__52) rfl (S.iload 56 (H dk__54) rfl (S.icmpN 59 (H dk__56) (qGtF (by decide)) (S.iload 61 (H dk__59) rfl (S.iconst 62 (1 : Int32) (H dk__61) (S.iadd 63 (H dk__62) ?_))))))
   rw [show (2 + 1 : Int32) = 3 from by decide]
   refine S.istore 65 #[vr ta, vi 5, vr tb, vi 2, vi 2, vi y0, vi 3, vi 2, vi 3, uN, uN] (H dk__63) rfl (S.iload 67 (H dk__65) rfl (S.iloadN 68 (H dk__67) rfl (S.iadd 69 (H dk__68) ?_)))
   rw [show (3 + 2 : Int32) = 5 from by decide]
   refine S.iconst 70 (1 : Int32) (H dk__69) (S.isub 71 (H dk__70) ?_)
   rw [show (5 - 1 : Int32) = 4 from by decide]
   refine S.istore 73 #[vr ta, vi 5, vr tb, vi 2, vi 2, vi y0, vi 3, vi 2, vi 3, vi 4, uN] (H dk__71) rfl (S.iconst 74 (1 : Int32) (H dk__73) (S.istore 76 #[vr ta, vi 5, vr tb, vi 2, vi 2, vi y0, vi 3, vi 2, vi 3, vi 4, vi 1] (H dk__74) rfl (S.iload 78 (H dk__76) rfl (S.iload 80 (H dk__78) rfl (S.icmpN 83 (H dk__80) (qGeF (by decide)) (S.aloadN 84 (H dk__83) rfl rfl ?_))))))
   refine S.iload 86 (H dk__84) rfl (S.baload (v := .int x3) 87 (H dk__86) AA ⟨by decide, by decide⟩ rfl ?_)
   refine S.aloadN 88 (H dk__87) rfl rfl (S.iload 90 (H dk__88) rfl (S.baload (v := .int y1) 91 (H dk__90) AB ⟨by decide, by decide⟩ rfl ?_))
   by_cases hb197 : x3 = y1
   ·skip
    refine S.icmpN 94 (H dk__91) (qNeF hb197) (S.iinc 97 #[vr ta, vi 5, vr tb, vi 2, vi 2, vi y0, vi 3, vi 2, vi ((3 : Int32) + (1 : Int32)), vi 4, vi 1] (H dk__94) rfl rfl ?_)
    rw [show (3 + 1 : Int32) = 4 from by decide]
    refine S.iinc 100 #[vr ta, vi 5, vr tb, vi 2, vi 2, vi y0, vi 3, vi 2, vi 4, vi 4, vi ((1 : Int32) + (1 : Int32))] (H dk__97) rfl rfl ?_
    rw [show (1 + 1 : Int32) = 2 from by decide]
    refine S.goto 76 (H dk__100) (S.iload 78 (H dk__76) rfl (S.iload 80 (H dk__78) rfl (S.icmpY 103 (H dk__80) (qGeT (by decide)) (S.iload 105 (H dk__103) rfl (S.iload 107 (H dk__105) rfl (S.icmpN 110 (H dk__107) (qNeF (by decide)) ?_))))))
    refine S.iload 112 (H dk__110) rfl ?_
    have k198 : b2 = true := by rw [e2, decide_eq_true hb196, decide_eq_true hb197] <;> rfl
    exact S.retI (H dk__112) hret (by decide) (by decide) ⟨by rw [k198] <;> rfl, rfl⟩
   ·skip
    refine S.icmpY 103 (H dk__91) (qNeT hb197) (S.iload 105 (H dk__103) rfl (S.iload 107 (H dk__105) rfl (S.icmpY 113 (H dk__107) (qNeT (by decide)) (S.iinc 116 #[vr ta, vi 5, vr tb, vi 2, vi 2, vi y0, vi 3, vi ((2 : Int32) + (1 : Int32)), vi 3, vi 4, vi 1] (H dk__113) rfl rfl ?_))))
    rw [show (2 + 1 : Int32) = 3 from by decide]
    refine S.goto 14 (H dk__116) ?_
    have k199 : b2 = false := by rw [e2, decide_eq_false hb197, Bool.and_false]
    exact tail189 _ _ _ (by rw [k199] <;> rfl)
  ·skip
   refine S.icmpN 30 (H dk__27) (qEqF hb196) (S.iinc 33 #[vr ta, vi 5, vr tb, vi 2, vi 2, vi y0, vi 3, vi ((2 : Int32) + (1 : Int32)), uN, uN, uN] (H dk__30) rfl rfl ?_)
   rw [show (2 + 1 : Int32) = 3 from by decide]
   refine S.iload 35 (H dk__33) rfl (S.iload 37 (H dk__35) rfl (S.icmpN 40 (H dk__37) (qGtF (by decide)) (S.aloadN 41 (H dk__40) rfl rfl (S.iload 43 (H dk__41) rfl (S.baload (v := .int x3) 44 (H dk__43) AA ⟨by decide, by decide⟩ rfl ?_)))))
   refine S.iload 46 (H dk__44) rfl ?_
   by_cases hb200 : x3 = y0
   ·skip
    refine S.icmpY 52 (H dk__46) (qEqT hb200) (S.iload 54 (H dk__52) rfl (S.iload 56 (H dk__54) rfl (S.icmpN 59 (H dk__56) (qGtF (by decide)) (S.iload 61 (H dk__59) rfl (S.iconst 62 (1 : Int32) (H dk__61) (S.iadd 63 (H dk__62) ?_))))))
    rw [show (3 + 1 : Int32) = 4 from by decide]
    refine S.istore 65 #[vr ta, vi 5, vr tb, vi 2, vi 2, vi y0, vi 3, vi 3, vi 4, uN, uN] (H dk__63) rfl (S.iload 67 (H dk__65) rfl (S.iloadN 68 (H dk__67) rfl (S.iadd 69 (H dk__68) ?_)))
    rw [show (4 + 2 : Int32) = 6 from by decide]
    refine S.iconst 70 (1 : Int32) (H dk__69) (S.isub 71 (H dk__70) ?_)
    rw [show (6 - 1 : Int32) = 5 from by decide]
    refine S.istore 73 #[vr ta, vi 5, vr tb, vi 2, vi 2, vi y0, vi 3, vi 3, vi 4, vi 5, uN] (H dk__71) rfl (S.iconst 74 (1 : Int32) (H dk__73) (S.istore 76 #[vr ta, vi 5, vr tb, vi 2, vi 2, vi y0, vi 3, vi 3, vi 4, vi 5, vi 1] (H dk__74) rfl (S.iload 78 (H dk__76) rfl (S.iload 80 (H dk__78) rfl (S.icmpN 83 (H dk__80) (qGeF (by decide)) (S.aloadN 84 (H dk__83) rfl rfl ?_))))))
    refine S.iload 86 (H dk__84) rfl (S.baload (v := .int x4) 87 (H dk__86) AA ⟨by decide, by decide⟩ rfl ?_)
    refine S.aloadN 88 (H dk__87) rfl rfl (S.iload 90 (H dk__88) rfl (S.baload (v := .int y1) 91 (H dk__90) AB ⟨by decide, by decide⟩ rfl ?_))
    by_cases hb201 : x4 = y1
    ·skip
     refine S.icmpN 94 (H dk__91) (qNeF hb201) (S.iinc 97 #[vr ta, vi 5, vr tb, vi 2, vi 2, vi y0, vi 3, vi 3, vi ((4 : Int32) + (1 : Int32)), vi 5, vi 1] (H dk__94) rfl rfl ?_)
     rw [show (4 + 1 : Int32) = 5 from by decide]
     refine S.iinc 100 #[vr ta, vi 5, vr tb, vi 2, vi 2, vi y0, vi 3, vi 3, vi 5, vi 5, vi ((1 : Int32) + (1 : Int32))] (H dk__97) rfl rfl ?_
     rw [show (1 + 1 : Int32) = 2 from by decide]
     refine S.goto 76 (H dk__100) (S.iload 78 (H dk__76) rfl (S.iload 80 (H dk__78) rfl (S.icmpY 103 (H dk__80) (qGeT (by decide)) (S.iload 105 (H dk__103) rfl (S.iload 107 (H dk__105) rfl (S.icmpN 110 (H dk__107) (qNeF (by decide)) ?_))))))
     refine S.iload 112 (H dk__110) rfl ?_
     have k202 : b2 = false := by rw [e2, decide_eq_false hb196] <;> rfl
     have k203 : b3 = true := by rw [e3, decide_eq_true hb200, decide_eq_true hb201] <;> rfl
     exact S.retI (H dk__112) hret (by decide) (by decide) ⟨by rw [k202, k203] <;> rfl, rfl⟩
    ·skip
     refine S.icmpY 103 (H dk__91) (qNeT hb201) (S.iload 105 (H dk__103) rfl (S.iload 107 (H dk__105) rfl (S.icmpY 113 (H dk__107) (qNeT (by decide)) (S.iinc 116 #[vr ta, vi 5, vr tb, vi 2, vi 2, vi y0, vi 3, vi ((3 : Int32) + (1 : Int32)), vi 4, vi 5, vi 1] (H dk__113) rfl rfl ?_))))
     rw [show (3 + 1 : Int32) = 4 from by decide]
     refine S.goto 14 (H dk__116) (S.iload 16 (H dk__14) rfl (S.iload 18 (H dk__16) rfl (S.icmpY 119 (H dk__18) (qGtT (by decide)) (S.iconst 120 (-1 : Int32) (H dk__119) ?_))))
     have k204 : b2 = false := by rw [e2, decide_eq_false hb196] <;> rfl
     have k205 : b3 = false := by rw [e3, decide_eq_false hb201, Bool.and_false]
     exact S.retI (H dk__120) hret (by decide) (by decide) ⟨by rw [k204, k205] <;> rfl, rfl⟩
   ·skip
    refine S.icmpN 49 (H dk__46) (qEqF hb200) (S.goto 30 (H dk__49) (S.iinc 33 #[vr ta, vi 5, vr tb, vi 2, vi 2, vi y0, vi 3, vi ((3 : Int32) + (1 : Int32)), uN, uN, uN] (H dk__30) rfl rfl ?_))
    rw [show (3 + 1 : Int32) = 4 from by decide]
    refine S.iload 35 (H dk__33) rfl (S.iload 37 (H dk__35) rfl (S.icmpY 52 (H dk__37) (qGtT (by decide)) (S.iload 54 (H dk__52) rfl (S.iload 56 (H dk__54) rfl (S.icmpY 113 (H dk__56) (qGtT (by decide)) (S.iinc 116 #[vr ta, vi 5, vr tb, vi 2, vi 2, vi y0, vi 3, vi ((4 : Int32) + (1 : Int32)), uN, uN, uN] (H dk__113) rfl rfl ?_))))))
    rw [show (4 + 1 : Int32) = 5 from by decide]
    refine S.goto 14 (H dk__116) (S.iload 16 (H dk__14) rfl (S.iload 18 (H dk__16) rfl (S.icmpY 119 (H dk__18) (qGtT (by decide)) (S.iconst 120 (-1 : Int32) (H dk__119) ?_))))
    have k206 : b2 = false := by rw [e2, decide_eq_false hb196] <;> rfl
    have k207 : b3 = false := by rw [e3, decide_eq_false hb200] <;> rfl
    exact S.retI (H dk__120) hret (by decide) (by decide) ⟨by rw [k206, k207] <;> rfl, rfl⟩


set_option maxRecDepth 65536 in
set_option maxHeartbeats 4000000 in
theorem own_io_2_3 (l : Launch) (Z : State) (a0 : Array Value) (hw : ∀ d ∈ tables_1, d.before a0 Z = true) (h0 : Heap) (n0 : Nat) (O : Old Z n0 h0) (ta : Addr) (ka : ClassId) (da : Value) (x0 : Int32) (x1 : Int32) (x2 : Int32) (x3 : Int32) (x4 : Int32) (tb : Addr) (kb : ClassId) (db : Value) (y0 : Int32) (y1 : Int32) (b3 : Bool) (AA : Arv Z h0 ta ka .byte (5 : Int32) [(.int x0), (.int x1), (.int x2), (.int x3), (.int x4)] da) (AB : Arv Z h0 tb kb .byte (2 : Int32) [(.int y0), (.int y1)] db) (e3 : b3 = (decide (x3 = y0) && decide (x4 = y1))) :
   Con l Z n0 (⟨"java/lang/StringLatin1", "indexOf", "([BI[BII)I"⟩ : MethodName) jdk_43_method_25_code 11 (some .int) [] ({ frames := 0, cells := 0, slots := 0, locals := 0 } : Room) #[(.ref ta), (.int 5), (.ref tb), (.int 2), (.int 3)] h0 [] (fun v h' => v = some (.int (own_nx [(b3, 3)])) ∧ h' = h0) := by
  refine Con.of a0 (plainFor_of_name own_pn_5) O (fun _ q => nomatch q) [] (fun _ q => nomatch q) ?_
  intro p e s m below meth cdX T S hby hml hret hnm
  have H := fun {k r} q => @hb _ _ hby k r q
  have W := @Tw a0 Z hw
  refine Go.cast (own_ef_4 m ta (5 : Int32) tb (2 : Int32) (3 : Int32)) ?_
  refine S.aloadN 1 (H dk__0) rfl rfl (S.iconst 2 (0 : Int32) (H dk__1) (S.baload (v := .int y0) 3 (H dk__2) AB ⟨by decide, by decide⟩ rfl ?_))
  refine S.istore 5 #[vr ta, vi 5, vr tb, vi 2, vi 3, vi y0, uN, uN, uN, uN, uN] (H dk__3) rfl (S.iloadN 6 (H dk__5) rfl (S.iloadN 7 (H dk__6) rfl (S.isub 8 (H dk__7) ?_)))
  rw [show (5 - 2 : Int32) = 3 from by decide]
  refine S.istore 10 #[vr ta, vi 5, vr tb, vi 2, vi 3, vi y0, vi 3, uN, uN, uN, uN] (H dk__8) rfl (S.iload 12 (H dk__10) rfl (S.istore 14 #[vr ta, vi 5, vr tb, vi 2, vi 3, vi y0, vi 3, vi 3, uN, uN, uN] (H dk__12) rfl (S.iload 16 (H dk__14) rfl (S.iload 18 (H dk__16) rfl (S.icmpN 21 (H dk__18) (qGtF (by decide)) (S.aloadN 22 (H dk__21) rfl rfl ?_))))))
  refine S.iload 24 (H dk__22) rfl (S.baload (v := .int x3) 25 (H dk__24) AA ⟨by decide, by decide⟩ rfl ?_)
  refine S.iload 27 (H dk__25) rfl ?_
  by_cases hb208 : x3 = y0
  ·skip
   refine S.icmpY 52 (H dk__27) (qEqT hb208) (S.iload 54 (H dk__52) rfl (S.iload 56 (H dk__54) rfl (S.icmpN 59 (H dk__56) (qGtF (by decide)) (S.iload 61 (H dk__59) rfl (S.iconst 62 (1 : Int32) (H dk__61) (S.iadd 63 (H dk__62) ?_))))))
   rw [show (3 + 1 : Int32) = 4 from by decide]
   refine S.istore 65 #[vr ta, vi 5, vr tb, vi 2, vi 3, vi y0, vi 3, vi 3, vi 4, uN, uN] (H dk__63) rfl (S.iload 67 (H dk__65) rfl (S.iloadN 68 (H dk__67) rfl (S.iadd 69 (H dk__68) ?_)))
   rw [show (4 + 2 : Int32) = 6 from by decide]
   refine S.iconst 70 (1 : Int32) (H dk__69) (S.isub 71 (H dk__70) ?_)
   rw [show (6 - 1 : Int32) = 5 from by decide]
   refine S.istore 73 #[vr ta, vi 5, vr tb, vi 2, vi 3, vi y0, vi 3, vi 3, vi 4, vi 5, uN] (H dk__71) rfl (S.iconst 74 (1 : Int32) (H dk__73) (S.istore 76 #[vr ta, vi 5, vr tb, vi 2, vi 3, vi y0, vi 3, vi 3, vi 4, vi 5, vi 1] (H dk__74) rfl (S.iload 78 (H dk__76) rfl (S.iload 80 (H dk__78) rfl (S.icmpN 83 (H dk__80) (qGeF (by decide)) (S.aloadN 84 (H dk__83) rfl rfl ?_))))))
   refine S.iload 86 (H dk__84) rfl (S.baload (v := .int x4) 87 (H dk__86) AA ⟨by decide, by decide⟩ rfl ?_)
   refine S.aloadN 88 (H dk__87) rfl rfl (S.iload 90 (H dk__88) rfl (S.baload (v := .int y1) 91 (H dk__90) AB ⟨by decide, by decide⟩ rfl ?_))
   by_cases hb209 : x4 = y1
   ·skip
    refine S.icmpN 94 (H dk__91) (qNeF hb209) (S.iinc 97 #[vr ta, vi 5, vr tb, vi 2, vi 3, vi y0, vi 3, vi 3, vi ((4 : Int32) + (1 : Int32)), vi 5, vi 1] (H dk__94) rfl rfl ?_)
    rw [show (4 + 1 : Int32) = 5 from by decide]
    refine S.iinc 100 #[vr ta, vi 5, vr tb, vi 2, vi 3, vi y0, vi 3, vi 3, vi 5, vi 5, vi ((1 : Int32) + (1 : Int32))] (H dk__97) rfl rfl ?_
    rw [show (1 + 1 : Int32) = 2 from by decide]
    refine S.goto 76 (H dk__100) (S.iload 78 (H dk__76) rfl (S.iload 80 (H dk__78) rfl (S.icmpY 103 (H dk__80) (qGeT (by decide)) (S.iload 105 (H dk__103) rfl (S.iload 107 (H dk__105) rfl (S.icmpN 110 (H dk__107) (qNeF (by decide)) ?_))))))
    refine S.iload 112 (H dk__110) rfl ?_
    have k210 : b3 = true := by rw [e3, decide_eq_true hb208, decide_eq_true hb209] <;> rfl
    exact S.retI (H dk__112) hret (by decide) (by decide) ⟨by rw [k210] <;> rfl, rfl⟩
   ·skip
    refine S.icmpY 103 (H dk__91) (qNeT hb209) (S.iload 105 (H dk__103) rfl (S.iload 107 (H dk__105) rfl (S.icmpY 113 (H dk__107) (qNeT (by decide)) (S.iinc 116 #[vr ta, vi 5, vr tb, vi 2, vi 3, vi y0, vi 3, vi ((3 : Int32) + (1 : Int32)), vi 4, vi 5, vi 1] (H dk__113) rfl rfl ?_))))
    rw [show (3 + 1 : Int32) = 4 from by decide]
    refine S.goto 14 (H dk__116) (S.iload 16 (H dk__14) rfl (S.iload 18 (H dk__16) rfl (S.icmpY 119 (H dk__18) (qGtT (by decide)) (S.iconst 120 (-1 : Int32) (H dk__119) ?_))))
    have k211 : b3 = false := by rw [e3, decide_eq_false hb209, Bool.and_false]
    exact S.retI (H dk__120) hret (by decide) (by decide) ⟨by rw [k211] <;> rfl, rfl⟩
  ·skip
   refine S.icmpN 30 (H dk__27) (qEqF hb208) (S.iinc 33 #[vr ta, vi 5, vr tb, vi 2, vi 3, vi y0, vi 3, vi ((3 : Int32) + (1 : Int32)), uN, uN, uN] (H dk__30) rfl rfl ?_)
   rw [show (3 + 1 : Int32) = 4 from by decide]
   refine S.iload 35 (H dk__33) rfl (S.iload 37 (H dk__35) rfl (S.icmpY 52 (H dk__37) (qGtT (by decide)) (S.iload 54 (H dk__52) rfl (S.iload 56 (H dk__54) rfl (S.icmpY 113 (H dk__56) (qGtT (by decide)) (S.iinc 116 #[vr ta, vi 5, vr tb, vi 2, vi 3, vi y0, vi 3, vi ((4 : Int32) + (1 : Int32)), uN, uN, uN] (H dk__113) rfl rfl ?_))))))
   rw [show (4 + 1 : Int32) = 5 from by decide]
   refine S.goto 14 (H dk__116) (S.iload 16 (H dk__14) rfl (S.iload 18 (H dk__16) rfl (S.icmpY 119 (H dk__18) (qGtT (by decide)) (S.iconst 120 (-1 : Int32) (H dk__119) ?_))))
   have k212 : b3 = false := by rw [e3, decide_eq_false hb208] <;> rfl
   exact S.retI (H dk__120) hret (by decide) (by decide) ⟨by rw [k212] <;> rfl, rfl⟩

theorem own_ef_6 (m : MethodId) (x0 : Addr) : entryFrame m #[(.ref x0)] 1 = mkF m 0 #[vr x0] [] := by rfl
theorem dd__0 : decode jdk_42_method_152_code 0 = .ok (.getstatic 38, 3) := by decide +kernel
theorem dd__3 : decode jdk_42_method_152_code 3 = .ok (.ifCond .eq 10, 3) := by decide +kernel
theorem dd__6 : decode jdk_42_method_152_code 6 = .ok (.aload_n 0, 1) := by decide +kernel
theorem dd__7 : decode jdk_42_method_152_code 7 = .ok (.getfield 15, 3) := by decide +kernel
theorem dd__10 : decode jdk_42_method_152_code 10 = .ok (.goto 4, 3) := by decide +kernel
theorem dd__14 : decode jdk_42_method_152_code 14 = .ok (.ireturn, 1) := by decide +kernel
theorem own_pn_7 : plainName "java/lang/String" = true := by first | (simp [plainName, overriddenIn]; done) | decide +kernel
set_option maxRecDepth 65536 in
set_option maxHeartbeats 4000000 in
theorem own_coder (l : Launch) (Z : State) (a0 : Array Value) (hw : ∀ d ∈ tables_1, d.before a0 Z = true) (cm : Com Z) (h0 : Heap) (n0 : Nat) (O : Old Z n0 h0) (a : Addr) (F : Fld Z h0 a "java/lang/String" "coder" "B" (.int 0)) :
   Con l Z n0 (⟨"java/lang/String", "coder", "()B"⟩ : MethodName) jdk_42_method_152_code 1 (some .byte) [] ({ frames := 0, cells := 0, slots := 0, locals := 0 } : Room) #[(.ref a)] h0 [] (fun v h' => v = some (.int 0) ∧ h' = h0) := by
  refine Con.of a0 (plainFor_of_name own_pn_7) O (fun _ q => nomatch q) [] (fun _ q => nomatch q) ?_
  intro p e s m below meth cdX T S hby hml hret hnm
  have H := fun {k r} q => @hb _ _ hby k r q
  have W := @Tw a0 Z hw
  refine Go.cast (own_ef_6 m a) ?_
  obtain ⟨z213, s214, nc215⟩ := cm
  refine S.gets (host := "") 3 (H dd__0) (Or.inl (W 19 rfl)) Via.refl (s214.ext S.old.2) ?_
  intro T216 S217
  refine S217.ifN 6 (H dd__3) (zEqF nc215) (S217.aloadN 7 (H dd__6) rfl rfl (S217.getf (host := "") 10 (H dd__7) (Or.inl (W 31 rfl)) Via.refl F ?_))
  intro T218 S219
  refine S219.goto 14 (H dd__10) ?_
  exact S219.retN (t := .byte) (H dd__14) hret (by decide) (by decide) (by decide) ⟨rfl, rfl⟩

theorem de__0 : decode jdk_42_method_154_code 0 = .ok (.getstatic 38, 3) := by decide +kernel
theorem de__3 : decode jdk_42_method_154_code 3 = .ok (.ifCond .eq 14, 3) := by decide +kernel
theorem de__6 : decode jdk_42_method_154_code 6 = .ok (.aload_n 0, 1) := by decide +kernel
theorem de__7 : decode jdk_42_method_154_code 7 = .ok (.getfield 15, 3) := by decide +kernel
theorem de__10 : decode jdk_42_method_154_code 10 = .ok (.ifCond .ne 7, 3) := by decide +kernel
theorem de__13 : decode jdk_42_method_154_code 13 = .ok (.iconst 1, 1) := by decide +kernel
theorem de__14 : decode jdk_42_method_154_code 14 = .ok (.goto 4, 3) := by decide +kernel
theorem de__18 : decode jdk_42_method_154_code 18 = .ok (.ireturn, 1) := by decide +kernel
set_option maxRecDepth 65536 in
set_option maxHeartbeats 4000000 in
theorem own_lat (l : Launch) (Z : State) (a0 : Array Value) (hw : ∀ d ∈ tables_1, d.before a0 Z = true) (cm : Com Z) (h0 : Heap) (n0 : Nat) (O : Old Z n0 h0) (a : Addr) (F : Fld Z h0 a "java/lang/String" "coder" "B" (.int 0)) :
   Con l Z n0 (⟨"java/lang/String", "isLatin1", "()Z"⟩ : MethodName) jdk_42_method_154_code 1 (some .boolean) [] ({ frames := 0, cells := 0, slots := 0, locals := 0 } : Room) #[(.ref a)] h0 [] (fun v h' => v = some (.int 1) ∧ h' = h0) := by
  refine Con.of a0 (plainFor_of_name own_pn_7) O (fun _ q => nomatch q) [] (fun _ q => nomatch q) ?_
  intro p e s m below meth cdX T S hby hml hret hnm
  have H := fun {k r} q => @hb _ _ hby k r q
  have W := @Tw a0 Z hw
  refine Go.cast (own_ef_6 m a) ?_
  obtain ⟨z220, s221, nc222⟩ := cm
  refine S.gets (host := "") 3 (H de__0) (Or.inl (W 19 rfl)) Via.refl (s221.ext S.old.2) ?_
  intro T223 S224
  refine S224.ifN 6 (H de__3) (zEqF nc222) (S224.aloadN 7 (H de__6) rfl rfl (S224.getf (host := "") 10 (H de__7) (Or.inl (W 31 rfl)) Via.refl F ?_))
  intro T225 S226
  refine S226.ifN 13 (H de__10) (zNeF (by decide)) (S226.iconst 14 (1 : Int32) (H de__13) (S226.goto 18 (H de__14) ?_))
  exact S226.retN (t := .boolean) (H de__18) hret (by decide) (by decide) (by decide) ⟨rfl, rfl⟩

theorem df__0 : decode jdk_42_method_54_code 0 = .ok (.aload_n 0, 1) := by decide +kernel
theorem df__1 : decode jdk_42_method_54_code 1 = .ok (.getfield 9, 3) := by decide +kernel
theorem df__4 : decode jdk_42_method_54_code 4 = .ok (.arraylength, 1) := by decide +kernel
theorem df__5 : decode jdk_42_method_54_code 5 = .ok (.aload_n 0, 1) := by decide +kernel
theorem df__6 : decode jdk_42_method_54_code 6 = .ok (.invokevirtual 335, 3) := by decide +kernel
theorem own_pd_8 : parseMethodDescriptor "()B" = some ⟨[], some .byte⟩ := by decide +kernel
theorem df__9 : decode jdk_42_method_54_code 9 = .ok (.ishr, 1) := by decide +kernel
theorem df__10 : decode jdk_42_method_54_code 10 = .ok (.ireturn, 1) := by decide +kernel
set_option maxRecDepth 65536 in
set_option maxHeartbeats 4000000 in
theorem own_len_5 (l : Launch) (Z : State) (a0 : Array Value) (hw : ∀ d ∈ tables_1, d.before a0 Z = true) (cm : Com Z) (h0 : Heap) (n0 : Nat) (O : Old Z n0 h0) (a : Addr) (t : Addr) (k : ClassId) (vs : List Value) (d : Value) (E : Exa Z h0 a "java/lang/String") (FV : Fld Z h0 a "java/lang/String" "value" "[B" (.ref t)) (FC : Fld Z h0 a "java/lang/String" "coder" "B" (.int 0)) (A : Arv Z h0 t k .byte (5 : Int32) vs d) :
   Con l Z n0 (⟨"java/lang/String", "length", "()I"⟩ : MethodName) jdk_42_method_54_code 1 (some .int) [] ({ frames := 1, cells := 0, slots := 0, locals := 20 } : Room) #[(.ref a)] h0 [] (fun v h' => v = some (.int 5) ∧ h' = h0) := by
  refine Con.of a0 (plainFor_of_name own_pn_7) O (fun _ q => nomatch q) [] (fun _ q => nomatch q) ?_
  intro p e s m below meth cdX T S hby hml hret hnm
  have H := fun {k r} q => @hb _ _ hby k r q
  have W := @Tw a0 Z hw
  refine Go.cast (own_ef_6 m a) ?_
  refine S.aloadN 1 (H df__0) rfl rfl (S.getf (host := "") 4 (H df__1) (Or.inl (W 33 rfl)) Via.refl FV ?_)
  intro T227 S228
  refine S228.alen 5 (H df__4) A ?_
  refine S228.aloadN 6 (H df__5) rfl rfl (S228.vcall 9 (H df__6) hml.symm (W 52 rfl) (W 53 rfl) (W 55 rfl) (W 54 rfl) (nfSel (W 55 rfl)) (by decide) E [] [(.int 5)] (Con.pay (W := 1) (own_coder l Z a0 hw cm h0 n0 S228.old a FC) (W 56 rfl) (W 8 rfl) (by decide) (by decide)) (lenOf own_pd_8 rfl) rfl (Nle rfl) (by decide) (by decide) Wrs.nil ?_)
  intro v229 T230 h231 L232 S233 q234 K235
  obtain ⟨rfl, e_q234⟩ := q234
  obtain rfl := e_q234.symm
  show Go p e below _ T230 (mkF m 9 #[vr a] [(.int 0), (.int 5)])
  refine S233.ishr 10 (H df__9) ?_
  rw [show ((5 : Int32) >>> ((0 : Int32) &&& 31)) = (5 : Int32) from by decide]
  exact S233.retI (H df__10) hret (by decide) (by decide) ⟨rfl, rfl⟩


set_option maxRecDepth 65536 in
set_option maxHeartbeats 4000000 in
theorem own_len_1 (l : Launch) (Z : State) (a0 : Array Value) (hw : ∀ d ∈ tables_1, d.before a0 Z = true) (cm : Com Z) (h0 : Heap) (n0 : Nat) (O : Old Z n0 h0) (a : Addr) (t : Addr) (k : ClassId) (vs : List Value) (d : Value) (E : Exa Z h0 a "java/lang/String") (FV : Fld Z h0 a "java/lang/String" "value" "[B" (.ref t)) (FC : Fld Z h0 a "java/lang/String" "coder" "B" (.int 0)) (A : Arv Z h0 t k .byte (1 : Int32) vs d) :
   Con l Z n0 (⟨"java/lang/String", "length", "()I"⟩ : MethodName) jdk_42_method_54_code 1 (some .int) [] ({ frames := 1, cells := 0, slots := 0, locals := 20 } : Room) #[(.ref a)] h0 [] (fun v h' => v = some (.int 1) ∧ h' = h0) := by
  refine Con.of a0 (plainFor_of_name own_pn_7) O (fun _ q => nomatch q) [] (fun _ q => nomatch q) ?_
  intro p e s m below meth cdX T S hby hml hret hnm
  have H := fun {k r} q => @hb _ _ hby k r q
  have W := @Tw a0 Z hw
  refine Go.cast (own_ef_6 m a) ?_
  refine S.aloadN 1 (H df__0) rfl rfl (S.getf (host := "") 4 (H df__1) (Or.inl (W 33 rfl)) Via.refl FV ?_)
  intro T236 S237
  refine S237.alen 5 (H df__4) A ?_
  refine S237.aloadN 6 (H df__5) rfl rfl (S237.vcall 9 (H df__6) hml.symm (W 52 rfl) (W 53 rfl) (W 55 rfl) (W 54 rfl) (nfSel (W 55 rfl)) (by decide) E [] [(.int 1)] (Con.pay (W := 1) (own_coder l Z a0 hw cm h0 n0 S237.old a FC) (W 56 rfl) (W 8 rfl) (by decide) (by decide)) (lenOf own_pd_8 rfl) rfl (Nle rfl) (by decide) (by decide) Wrs.nil ?_)
  intro v238 T239 h240 L241 S242 q243 K244
  obtain ⟨rfl, e_q243⟩ := q243
  obtain rfl := e_q243.symm
  show Go p e below _ T239 (mkF m 9 #[vr a] [(.int 0), (.int 1)])
  refine S242.ishr 10 (H df__9) ?_
  rw [show ((1 : Int32) >>> ((0 : Int32) &&& 31)) = (1 : Int32) from by decide]
  exact S242.retI (H df__10) hret (by decide) (by decide) ⟨rfl, rfl⟩


set_option maxRecDepth 65536 in
set_option maxHeartbeats 4000000 in
theorem own_len_2 (l : Launch) (Z : State) (a0 : Array Value) (hw : ∀ d ∈ tables_1, d.before a0 Z = true) (cm : Com Z) (h0 : Heap) (n0 : Nat) (O : Old Z n0 h0) (a : Addr) (t : Addr) (k : ClassId) (vs : List Value) (d : Value) (E : Exa Z h0 a "java/lang/String") (FV : Fld Z h0 a "java/lang/String" "value" "[B" (.ref t)) (FC : Fld Z h0 a "java/lang/String" "coder" "B" (.int 0)) (A : Arv Z h0 t k .byte (2 : Int32) vs d) :
   Con l Z n0 (⟨"java/lang/String", "length", "()I"⟩ : MethodName) jdk_42_method_54_code 1 (some .int) [] ({ frames := 1, cells := 0, slots := 0, locals := 20 } : Room) #[(.ref a)] h0 [] (fun v h' => v = some (.int 2) ∧ h' = h0) := by
  refine Con.of a0 (plainFor_of_name own_pn_7) O (fun _ q => nomatch q) [] (fun _ q => nomatch q) ?_
  intro p e s m below meth cdX T S hby hml hret hnm
  have H := fun {k r} q => @hb _ _ hby k r q
  have W := @Tw a0 Z hw
  refine Go.cast (own_ef_6 m a) ?_
  refine S.aloadN 1 (H df__0) rfl rfl (S.getf (host := "") 4 (H df__1) (Or.inl (W 33 rfl)) Via.refl FV ?_)
  intro T245 S246
  refine S246.alen 5 (H df__4) A ?_
  refine S246.aloadN 6 (H df__5) rfl rfl (S246.vcall 9 (H df__6) hml.symm (W 52 rfl) (W 53 rfl) (W 55 rfl) (W 54 rfl) (nfSel (W 55 rfl)) (by decide) E [] [(.int 2)] (Con.pay (W := 1) (own_coder l Z a0 hw cm h0 n0 S246.old a FC) (W 56 rfl) (W 8 rfl) (by decide) (by decide)) (lenOf own_pd_8 rfl) rfl (Nle rfl) (by decide) (by decide) Wrs.nil ?_)
  intro v247 T248 h249 L250 S251 q252 K253
  obtain ⟨rfl, e_q252⟩ := q252
  obtain rfl := e_q252.symm
  show Go p e below _ T248 (mkF m 9 #[vr a] [(.int 0), (.int 2)])
  refine S251.ishr 10 (H df__9) ?_
  rw [show ((2 : Int32) >>> ((0 : Int32) &&& 31)) = (2 : Int32) from by decide]
  exact S251.retI (H df__10) hret (by decide) (by decide) ⟨rfl, rfl⟩

theorem own_ef_9 (m : MethodId) (x0 : Addr) (x1 : Addr) : entryFrame m #[(.ref x0), (.ref x1)] 2 = mkF m 0 #[vr x0, vr x1] [] := by rfl
theorem dj__0 : decode jdk_43_method_24_code 0 = .ok (.aload_n 1, 1) := by decide +kernel
theorem dj__1 : decode jdk_43_method_24_code 1 = .ok (.arraylength, 1) := by decide +kernel
theorem dj__2 : decode jdk_43_method_24_code 2 = .ok (.ifCond .ne 5, 3) := by decide +kernel
theorem dj__7 : decode jdk_43_method_24_code 7 = .ok (.aload_n 0, 1) := by decide +kernel
theorem dj__8 : decode jdk_43_method_24_code 8 = .ok (.arraylength, 1) := by decide +kernel
theorem dj__9 : decode jdk_43_method_24_code 9 = .ok (.ifCond .ne 5, 3) := by decide +kernel
theorem dj__14 : decode jdk_43_method_24_code 14 = .ok (.aload_n 0, 1) := by decide +kernel
theorem dj__15 : decode jdk_43_method_24_code 15 = .ok (.aload_n 0, 1) := by decide +kernel
theorem dj__16 : decode jdk_43_method_24_code 16 = .ok (.arraylength, 1) := by decide +kernel
theorem dj__17 : decode jdk_43_method_24_code 17 = .ok (.aload_n 1, 1) := by decide +kernel
theorem dj__18 : decode jdk_43_method_24_code 18 = .ok (.aload_n 1, 1) := by decide +kernel
theorem dj__19 : decode jdk_43_method_24_code 19 = .ok (.arraylength, 1) := by decide +kernel
theorem dj__20 : decode jdk_43_method_24_code 20 = .ok (.iconst 0, 1) := by decide +kernel
theorem dj__21 : decode jdk_43_method_24_code 21 = .ok (.invokestatic 99, 3) := by decide +kernel
theorem own_pd_10 : parseMethodDescriptor "([BI[BII)I" = some ⟨[(.array .byte), .int, (.array .byte), .int, .int], some .int⟩ := by decide +kernel
theorem dj__24 : decode jdk_43_method_24_code 24 = .ok (.ireturn, 1) := by decide +kernel
set_option maxRecDepth 65536 in
set_option maxHeartbeats 4000000 in
theorem own_ib_1 (l : Launch) (Z : State) (a0 : Array Value) (hw : ∀ d ∈ tables_1, d.before a0 Z = true) (h0 : Heap) (n0 : Nat) (O : Old Z n0 h0) (ta : Addr) (ka : ClassId) (da : Value) (x0 : Int32) (x1 : Int32) (x2 : Int32) (x3 : Int32) (x4 : Int32) (tb : Addr) (kb : ClassId) (db : Value) (y0 : Int32) (b0 : Bool) (b1 : Bool) (b2 : Bool) (b3 : Bool) (b4 : Bool) (AA : Arv Z h0 ta ka .byte (5 : Int32) [(.int x0), (.int x1), (.int x2), (.int x3), (.int x4)] da) (AB : Arv Z h0 tb kb .byte (1 : Int32) [(.int y0)] db) (e0 : b0 = decide (x0 = y0)) (e1 : b1 = decide (x1 = y0)) (e2 : b2 = decide (x2 = y0)) (e3 : b3 = decide (x3 = y0)) (e4 : b4 = decide (x4 = y0)) :
   Con l Z n0 (⟨"java/lang/StringLatin1", "indexOf", "([B[B)I"⟩ : MethodName) jdk_43_method_24_code 2 (some .int) [] ({ frames := 1, cells := 0, slots := 0, locals := 30 } : Room) #[(.ref ta), (.ref tb)] h0 [] (fun v h' => v = some (.int (own_nx [(b0, 0), (b1, 1), (b2, 2), (b3, 3), (b4, 4)])) ∧ h' = h0) := by
  refine Con.of a0 (plainFor_of_name own_pn_5) O (fun _ q => nomatch q) [] (fun _ q => nomatch q) ?_
  intro p e s m below meth cdX T S hby hml hret hnm
  have H := fun {k r} q => @hb _ _ hby k r q
  have W := @Tw a0 Z hw
  refine Go.cast (own_ef_9 m ta tb) ?_
  refine S.aloadN 1 (H dj__0) rfl rfl (S.alen 2 (H dj__1) AB ?_)
  refine S.ifY 7 (H dj__2) (zNeT (by decide)) (S.aloadN 8 (H dj__7) rfl rfl (S.alen 9 (H dj__8) AA ?_))
  refine S.ifY 14 (H dj__9) (zNeT (by decide)) (S.aloadN 15 (H dj__14) rfl rfl (S.aloadN 16 (H dj__15) rfl rfl (S.alen 17 (H dj__16) AA ?_)))
  refine S.aloadN 18 (H dj__17) rfl rfl (S.aloadN 19 (H dj__18) rfl rfl (S.alen 20 (H dj__19) AB ?_))
  refine S.iconst 21 (0 : Int32) (H dj__20) (S.scall 24 (H dj__21) hml.symm (W 66 rfl) (W 67 rfl) (W 64 rfl) (W 68 rfl) (by decide) [(.ref ta), (.int 5), (.ref tb), (.int 1), (.int 0)] [] (Con.pay (W := 0) (own_io_1_0 l Z a0 hw h0 n0 S.old ta ka da x0 x1 x2 x3 x4 tb kb db y0 b0 b1 b2 b3 b4 AA AB e0 e1 e2 e3 e4) (W 68 rfl) (W 64 rfl) (by decide) (by decide)) (lenOf own_pd_10 rfl) rfl (Nle rfl) (by decide) (by decide) Wrs.nil ?_)
  intro v254 T255 h256 L257 S258 q259 K260
  obtain ⟨rfl, e_q259⟩ := q259
  obtain rfl := e_q259.symm
  show Go p e below _ T255 (mkF m 24 #[vr ta, vr tb] [(.int (own_nx [(b0, 0), (b1, 1), (b2, 2), (b3, 3), (b4, 4)]))])
  exact S258.retI (H dj__24) hret (by decide) (by decide) ⟨rfl, rfl⟩

theorem own_ef_11 (m : MethodId) (x0 : Addr) (x1 : Addr) : entryFrame m #[(.ref x0), (.ref x1)] 3 = mkF m 0 #[vr x0, vr x1, uN] [] := by rfl
theorem dg__0 : decode jdk_42_method_84_code 0 = .ok (.aload_n 0, 1) := by decide +kernel
theorem dg__1 : decode jdk_42_method_84_code 1 = .ok (.invokevirtual 335, 3) := by decide +kernel
theorem dg__4 : decode jdk_42_method_84_code 4 = .ok (.istore_n 2, 1) := by decide +kernel
theorem dg__5 : decode jdk_42_method_84_code 5 = .ok (.iload_n 2, 1) := by decide +kernel
theorem dg__6 : decode jdk_42_method_84_code 6 = .ok (.aload_n 1, 1) := by decide +kernel
theorem dg__7 : decode jdk_42_method_84_code 7 = .ok (.invokevirtual 335, 3) := by decide +kernel
theorem dg__10 : decode jdk_42_method_84_code 10 = .ok (.if_icmp .ne 36, 3) := by decide +kernel
theorem dg__13 : decode jdk_42_method_84_code 13 = .ok (.aload_n 0, 1) := by decide +kernel
theorem dg__14 : decode jdk_42_method_84_code 14 = .ok (.invokevirtual 492, 3) := by decide +kernel
theorem own_pd_12 : parseMethodDescriptor "()Z" = some ⟨[], some .boolean⟩ := by decide +kernel
theorem dg__17 : decode jdk_42_method_84_code 17 = .ok (.ifCond .eq 17, 3) := by decide +kernel
theorem dg__20 : decode jdk_42_method_84_code 20 = .ok (.aload_n 0, 1) := by decide +kernel
theorem dg__21 : decode jdk_42_method_84_code 21 = .ok (.getfield 9, 3) := by decide +kernel
theorem dg__24 : decode jdk_42_method_84_code 24 = .ok (.aload_n 1, 1) := by decide +kernel
theorem dg__25 : decode jdk_42_method_84_code 25 = .ok (.getfield 9, 3) := by decide +kernel
theorem dg__28 : decode jdk_42_method_84_code 28 = .ok (.invokestatic 647, 3) := by decide +kernel
theorem own_pd_13 : parseMethodDescriptor "([B[B)I" = some ⟨[(.array .byte), (.array .byte)], some .int⟩ := by decide +kernel
theorem dg__31 : decode jdk_42_method_84_code 31 = .ok (.goto 14, 3) := by decide +kernel
theorem dg__45 : decode jdk_42_method_84_code 45 = .ok (.ireturn, 1) := by decide +kernel
set_option maxRecDepth 65536 in
set_option maxHeartbeats 4000000 in
theorem own_i1_1 (l : Launch) (Z : State) (a0 : Array Value) (hw : ∀ d ∈ tables_1, d.before a0 Z = true) (cm : Com Z) (h0 : Heap) (n0 : Nat) (O : Old Z n0 h0) (a : Addr) (b : Addr) (ta : Addr) (ka : ClassId) (da : Value) (x0 : Int32) (x1 : Int32) (x2 : Int32) (x3 : Int32) (x4 : Int32) (tb : Addr) (kb : ClassId) (db : Value) (y0 : Int32) (b0 : Bool) (b1 : Bool) (b2 : Bool) (b3 : Bool) (b4 : Bool) (EA : Exa Z h0 a "java/lang/String") (FAV : Fld Z h0 a "java/lang/String" "value" "[B" (.ref ta)) (FAC : Fld Z h0 a "java/lang/String" "coder" "B" (.int 0)) (EB : Exa Z h0 b "java/lang/String") (FBV : Fld Z h0 b "java/lang/String" "value" "[B" (.ref tb)) (FBC : Fld Z h0 b "java/lang/String" "coder" "B" (.int 0)) (AA : Arv Z h0 ta ka .byte (5 : Int32) [(.int x0), (.int x1), (.int x2), (.int x3), (.int x4)] da) (AB : Arv Z h0 tb kb .byte (1 : Int32) [(.int y0)] db) (e0 : b0 = decide (x0 = y0)) (e1 : b1 = decide (x1 = y0)) (e2 : b2 = decide (x2 = y0)) (e3 : b3 = decide (x3 = y0)) (e4 : b4 = decide (x4 = y0)) :
   Con l Z n0 (⟨"java/lang/String", "indexOf", "(Ljava/lang/String;)I"⟩ : MethodName) jdk_42_method_84_code 3 (some .int) [] ({ frames := 2, cells := 0, slots := 0, locals := 50 } : Room) #[(.ref a), (.ref b)] h0 [] (fun v h' => v = some (.int (own_nx [(b0, 0), (b1, 1), (b2, 2), (b3, 3), (b4, 4)])) ∧ h' = h0) := by
  refine Con.of a0 (plainFor_of_name own_pn_7) O (fun _ q => nomatch q) [] (fun _ q => nomatch q) ?_
  intro p e s m below meth cdX T S hby hml hret hnm
  have H := fun {k r} q => @hb _ _ hby k r q
  have W := @Tw a0 Z hw
  refine Go.cast (own_ef_11 m a b) ?_
  refine S.aloadN 1 (H dg__0) rfl rfl (S.vcall 4 (H dg__1) hml.symm (W 52 rfl) (W 53 rfl) (W 55 rfl) (W 54 rfl) (nfSel (W 55 rfl)) (by decide) EA [] [] (Con.pay (W := 0) (own_coder l Z a0 hw cm h0 n0 S.old a FAC) (W 56 rfl) (W 8 rfl) (by decide) (by decide)) (lenOf own_pd_8 rfl) rfl (Nle rfl) (by decide) (by decide) Wrs.nil ?_)
  intro v261 T262 h263 L264 S265 q266 K267
  obtain ⟨rfl, e_q266⟩ := q266
  obtain rfl := e_q266.symm
  show Go p e below _ T262 (mkF m 4 #[vr a, vr b, uN] [(.int 0)])
  refine S265.istoreN 5 #[vr a, vr b, vi 0] (H dg__4) rfl (S265.iloadN 6 (H dg__5) rfl (S265.aloadN 7 (H dg__6) rfl rfl (S265.vcall 10 (H dg__7) hml.symm (W 52 rfl) (W 53 rfl) (W 55 rfl) (W 54 rfl) (nfSel (W 55 rfl)) (by decide) EB [] [(.int 0)] (Con.pay (W := 1) (own_coder l Z a0 hw cm h0 n0 S265.old b FBC) (W 56 rfl) (W 8 rfl) (by decide) (by decide)) (lenOf own_pd_8 rfl) rfl (Nle rfl) (by decide) (by decide) Wrs.nil ?_)))
  intro v268 T269 h270 L271 S272 q273 K274
  obtain ⟨rfl, e_q273⟩ := q273
  obtain rfl := e_q273.symm
  show Go p e below _ T269 (mkF m 10 #[vr a, vr b, vi 0] [(.int 0), (.int 0)])
  refine S272.icmpN 13 (H dg__10) (qNeF (by decide)) (S272.aloadN 14 (H dg__13) rfl rfl (S272.vcall 17 (H dg__14) hml.symm (W 57 rfl) (W 58 rfl) (W 60 rfl) (W 59 rfl) (nfSel (W 60 rfl)) (by decide) EA [] [] (Con.pay (W := 0) (own_lat l Z a0 hw cm h0 n0 S272.old a FAC) (W 61 rfl) (W 8 rfl) (by decide) (by decide)) (lenOf own_pd_12 rfl) rfl (Nle rfl) (by decide) (by decide) Wrs.nil ?_))
  intro v275 T276 h277 L278 S279 q280 K281
  obtain ⟨rfl, e_q280⟩ := q280
  obtain rfl := e_q280.symm
  show Go p e below _ T276 (mkF m 17 #[vr a, vr b, vi 0] [(.int 1)])
  refine S279.ifN 20 (H dg__17) (zEqF (by decide)) (S279.aloadN 21 (H dg__20) rfl rfl (S279.getf (host := "") 24 (H dg__21) (Or.inl (W 33 rfl)) Via.refl FAV ?_))
  intro T282 S283
  refine S283.aloadN 25 (H dg__24) rfl rfl (S283.getf (host := "") 28 (H dg__25) (Or.inl (W 33 rfl)) Via.refl FBV ?_)
  intro T284 S285
  refine S285.scall 31 (H dg__28) hml.symm (W 62 rfl) (W 63 rfl) (W 64 rfl) (W 65 rfl) (by decide) [(.ref ta), (.ref tb)] [] (Con.pay (W := 0) (own_ib_1 l Z a0 hw h0 n0 S285.old ta ka da x0 x1 x2 x3 x4 tb kb db y0 b0 b1 b2 b3 b4 AA AB e0 e1 e2 e3 e4) (W 65 rfl) (W 64 rfl) (by decide) (by decide)) (lenOf own_pd_13 rfl) rfl (Nle rfl) (by decide) (by decide) Wrs.nil ?_
  intro v286 T287 h288 L289 S290 q291 K292
  obtain ⟨rfl, e_q291⟩ := q291
  obtain rfl := e_q291.symm
  show Go p e below _ T287 (mkF m 31 #[vr a, vr b, vi 0] [(.int (own_nx [(b0, 0), (b1, 1), (b2, 2), (b3, 3), (b4, 4)]))])
  refine S290.goto 45 (H dg__31) ?_
  exact S290.retI (H dg__45) hret (by decide) (by decide) ⟨rfl, rfl⟩


set_option maxRecDepth 65536 in
set_option maxHeartbeats 4000000 in
theorem own_ib_2 (l : Launch) (Z : State) (a0 : Array Value) (hw : ∀ d ∈ tables_1, d.before a0 Z = true) (h0 : Heap) (n0 : Nat) (O : Old Z n0 h0) (ta : Addr) (ka : ClassId) (da : Value) (x0 : Int32) (x1 : Int32) (x2 : Int32) (x3 : Int32) (x4 : Int32) (tb : Addr) (kb : ClassId) (db : Value) (y0 : Int32) (y1 : Int32) (b0 : Bool) (b1 : Bool) (b2 : Bool) (b3 : Bool) (AA : Arv Z h0 ta ka .byte (5 : Int32) [(.int x0), (.int x1), (.int x2), (.int x3), (.int x4)] da) (AB : Arv Z h0 tb kb .byte (2 : Int32) [(.int y0), (.int y1)] db) (e0 : b0 = (decide (x0 = y0) && decide (x1 = y1))) (e1 : b1 = (decide (x1 = y0) && decide (x2 = y1))) (e2 : b2 = (decide (x2 = y0) && decide (x3 = y1))) (e3 : b3 = (decide (x3 = y0) && decide (x4 = y1))) :
   Con l Z n0 (⟨"java/lang/StringLatin1", "indexOf", "([B[B)I"⟩ : MethodName) jdk_43_method_24_code 2 (some .int) [] ({ frames := 1, cells := 0, slots := 0, locals := 30 } : Room) #[(.ref ta), (.ref tb)] h0 [] (fun v h' => v = some (.int (own_nx [(b0, 0), (b1, 1), (b2, 2), (b3, 3)])) ∧ h' = h0) := by
  refine Con.of a0 (plainFor_of_name own_pn_5) O (fun _ q => nomatch q) [] (fun _ q => nomatch q) ?_
  intro p e s m below meth cdX T S hby hml hret hnm
  have H := fun {k r} q => @hb _ _ hby k r q
  have W := @Tw a0 Z hw
  refine Go.cast (own_ef_9 m ta tb) ?_
  refine S.aloadN 1 (H dj__0) rfl rfl (S.alen 2 (H dj__1) AB ?_)
  refine S.ifY 7 (H dj__2) (zNeT (by decide)) (S.aloadN 8 (H dj__7) rfl rfl (S.alen 9 (H dj__8) AA ?_))
  refine S.ifY 14 (H dj__9) (zNeT (by decide)) (S.aloadN 15 (H dj__14) rfl rfl (S.aloadN 16 (H dj__15) rfl rfl (S.alen 17 (H dj__16) AA ?_)))
  refine S.aloadN 18 (H dj__17) rfl rfl (S.aloadN 19 (H dj__18) rfl rfl (S.alen 20 (H dj__19) AB ?_))
  refine S.iconst 21 (0 : Int32) (H dj__20) (S.scall 24 (H dj__21) hml.symm (W 66 rfl) (W 67 rfl) (W 64 rfl) (W 68 rfl) (by decide) [(.ref ta), (.int 5), (.ref tb), (.int 2), (.int 0)] [] (Con.pay (W := 0) (own_io_2_0 l Z a0 hw h0 n0 S.old ta ka da x0 x1 x2 x3 x4 tb kb db y0 y1 b0 b1 b2 b3 AA AB e0 e1 e2 e3) (W 68 rfl) (W 64 rfl) (by decide) (by decide)) (lenOf own_pd_10 rfl) rfl (Nle rfl) (by decide) (by decide) Wrs.nil ?_)
  intro v293 T294 h295 L296 S297 q298 K299
  obtain ⟨rfl, e_q298⟩ := q298
  obtain rfl := e_q298.symm
  show Go p e below _ T294 (mkF m 24 #[vr ta, vr tb] [(.int (own_nx [(b0, 0), (b1, 1), (b2, 2), (b3, 3)]))])
  exact S297.retI (H dj__24) hret (by decide) (by decide) ⟨rfl, rfl⟩


set_option maxRecDepth 65536 in
set_option maxHeartbeats 4000000 in
theorem own_i1_2 (l : Launch) (Z : State) (a0 : Array Value) (hw : ∀ d ∈ tables_1, d.before a0 Z = true) (cm : Com Z) (h0 : Heap) (n0 : Nat) (O : Old Z n0 h0) (a : Addr) (b : Addr) (ta : Addr) (ka : ClassId) (da : Value) (x0 : Int32) (x1 : Int32) (x2 : Int32) (x3 : Int32) (x4 : Int32) (tb : Addr) (kb : ClassId) (db : Value) (y0 : Int32) (y1 : Int32) (b0 : Bool) (b1 : Bool) (b2 : Bool) (b3 : Bool) (EA : Exa Z h0 a "java/lang/String") (FAV : Fld Z h0 a "java/lang/String" "value" "[B" (.ref ta)) (FAC : Fld Z h0 a "java/lang/String" "coder" "B" (.int 0)) (EB : Exa Z h0 b "java/lang/String") (FBV : Fld Z h0 b "java/lang/String" "value" "[B" (.ref tb)) (FBC : Fld Z h0 b "java/lang/String" "coder" "B" (.int 0)) (AA : Arv Z h0 ta ka .byte (5 : Int32) [(.int x0), (.int x1), (.int x2), (.int x3), (.int x4)] da) (AB : Arv Z h0 tb kb .byte (2 : Int32) [(.int y0), (.int y1)] db) (e0 : b0 = (decide (x0 = y0) && decide (x1 = y1))) (e1 : b1 = (decide (x1 = y0) && decide (x2 = y1))) (e2 : b2 = (decide (x2 = y0) && decide (x3 = y1))) (e3 : b3 = (decide (x3 = y0) && decide (x4 = y1))) :
   Con l Z n0 (⟨"java/lang/String", "indexOf", "(Ljava/lang/String;)I"⟩ : MethodName) jdk_42_method_84_code 3 (some .int) [] ({ frames := 2, cells := 0, slots := 0, locals := 50 } : Room) #[(.ref a), (.ref b)] h0 [] (fun v h' => v = some (.int (own_nx [(b0, 0), (b1, 1), (b2, 2), (b3, 3)])) ∧ h' = h0) := by
  refine Con.of a0 (plainFor_of_name own_pn_7) O (fun _ q => nomatch q) [] (fun _ q => nomatch q) ?_
  intro p e s m below meth cdX T S hby hml hret hnm
  have H := fun {k r} q => @hb _ _ hby k r q
  have W := @Tw a0 Z hw
  refine Go.cast (own_ef_11 m a b) ?_
  refine S.aloadN 1 (H dg__0) rfl rfl (S.vcall 4 (H dg__1) hml.symm (W 52 rfl) (W 53 rfl) (W 55 rfl) (W 54 rfl) (nfSel (W 55 rfl)) (by decide) EA [] [] (Con.pay (W := 0) (own_coder l Z a0 hw cm h0 n0 S.old a FAC) (W 56 rfl) (W 8 rfl) (by decide) (by decide)) (lenOf own_pd_8 rfl) rfl (Nle rfl) (by decide) (by decide) Wrs.nil ?_)
  intro v300 T301 h302 L303 S304 q305 K306
  obtain ⟨rfl, e_q305⟩ := q305
  obtain rfl := e_q305.symm
  show Go p e below _ T301 (mkF m 4 #[vr a, vr b, uN] [(.int 0)])
  refine S304.istoreN 5 #[vr a, vr b, vi 0] (H dg__4) rfl (S304.iloadN 6 (H dg__5) rfl (S304.aloadN 7 (H dg__6) rfl rfl (S304.vcall 10 (H dg__7) hml.symm (W 52 rfl) (W 53 rfl) (W 55 rfl) (W 54 rfl) (nfSel (W 55 rfl)) (by decide) EB [] [(.int 0)] (Con.pay (W := 1) (own_coder l Z a0 hw cm h0 n0 S304.old b FBC) (W 56 rfl) (W 8 rfl) (by decide) (by decide)) (lenOf own_pd_8 rfl) rfl (Nle rfl) (by decide) (by decide) Wrs.nil ?_)))
  intro v307 T308 h309 L310 S311 q312 K313
  obtain ⟨rfl, e_q312⟩ := q312
  obtain rfl := e_q312.symm
  show Go p e below _ T308 (mkF m 10 #[vr a, vr b, vi 0] [(.int 0), (.int 0)])
  refine S311.icmpN 13 (H dg__10) (qNeF (by decide)) (S311.aloadN 14 (H dg__13) rfl rfl (S311.vcall 17 (H dg__14) hml.symm (W 57 rfl) (W 58 rfl) (W 60 rfl) (W 59 rfl) (nfSel (W 60 rfl)) (by decide) EA [] [] (Con.pay (W := 0) (own_lat l Z a0 hw cm h0 n0 S311.old a FAC) (W 61 rfl) (W 8 rfl) (by decide) (by decide)) (lenOf own_pd_12 rfl) rfl (Nle rfl) (by decide) (by decide) Wrs.nil ?_))
  intro v314 T315 h316 L317 S318 q319 K320
  obtain ⟨rfl, e_q319⟩ := q319
  obtain rfl := e_q319.symm
  show Go p e below _ T315 (mkF m 17 #[vr a, vr b, vi 0] [(.int 1)])
  refine S318.ifN 20 (H dg__17) (zEqF (by decide)) (S318.aloadN 21 (H dg__20) rfl rfl (S318.getf (host := "") 24 (H dg__21) (Or.inl (W 33 rfl)) Via.refl FAV ?_))
  intro T321 S322
  refine S322.aloadN 25 (H dg__24) rfl rfl (S322.getf (host := "") 28 (H dg__25) (Or.inl (W 33 rfl)) Via.refl FBV ?_)
  intro T323 S324
  refine S324.scall 31 (H dg__28) hml.symm (W 62 rfl) (W 63 rfl) (W 64 rfl) (W 65 rfl) (by decide) [(.ref ta), (.ref tb)] [] (Con.pay (W := 0) (own_ib_2 l Z a0 hw h0 n0 S324.old ta ka da x0 x1 x2 x3 x4 tb kb db y0 y1 b0 b1 b2 b3 AA AB e0 e1 e2 e3) (W 65 rfl) (W 64 rfl) (by decide) (by decide)) (lenOf own_pd_13 rfl) rfl (Nle rfl) (by decide) (by decide) Wrs.nil ?_
  intro v325 T326 h327 L328 S329 q330 K331
  obtain ⟨rfl, e_q330⟩ := q330
  obtain rfl := e_q330.symm
  show Go p e below _ T326 (mkF m 31 #[vr a, vr b, vi 0] [(.int (own_nx [(b0, 0), (b1, 1), (b2, 2), (b3, 3)]))])
  refine S329.goto 45 (H dg__31) ?_
  exact S329.retI (H dg__45) hret (by decide) (by decide) ⟨rfl, rfl⟩

theorem own_ef_14 (m : MethodId) (x0 : Int64) (x1 : Int64) : entryFrame m #[(.long x0), (.long x1)] 4 = mkF m 0 #[.val (.long x0), .second, .val (.long x1), .second] [] := by rfl
theorem da__0 : decode jdk_29_method_66_code 0 = .ok (.lload_n 0, 1) := by decide +kernel
theorem da__1 : decode jdk_29_method_66_code 1 = .ok (.lload_n 2, 1) := by decide +kernel
theorem da__2 : decode jdk_29_method_66_code 2 = .ok (.lcmp, 1) := by decide +kernel
theorem da__3 : decode jdk_29_method_66_code 3 = .ok (.ifCond .lt 7, 3) := by decide +kernel
theorem da__6 : decode jdk_29_method_66_code 6 = .ok (.lload_n 0, 1) := by decide +kernel
theorem da__7 : decode jdk_29_method_66_code 7 = .ok (.goto 4, 3) := by decide +kernel
theorem da__11 : decode jdk_29_method_66_code 11 = .ok (.lreturn, 1) := by decide +kernel
theorem own_pf_15 : plainFor (⟨"java/lang/Math", "max", "(JJ)J"⟩ : MethodName) = true := by decide +kernel
set_option maxRecDepth 65536 in
set_option maxHeartbeats 4000000 in
theorem own_mx_1 (l : Launch) (Z : State) (a0 : Array Value) (hw : ∀ d ∈ tables_1, d.before a0 Z = true) (h0 : Heap) (n0 : Nat) (O : Old Z n0 h0) :
   Con l Z n0 (⟨"java/lang/Math", "max", "(JJ)J"⟩ : MethodName) jdk_29_method_66_code 4 (some .long) [] ({ frames := 0, cells := 0, slots := 0, locals := 0 } : Room) #[(.long (1 : Int64)), (.long (0 : Int64))] h0 [] (fun v h' => v = some (.long 1) ∧ h' = h0) := by
  refine Con.of a0 own_pf_15 O (fun _ q => nomatch q) [] (fun _ q => nomatch q) ?_
  intro p e s m below meth cdX T S hby hml hret hnm
  have H := fun {k r} q => @hb _ _ hby k r q
  have W := @Tw a0 Z hw
  refine Go.cast (own_ef_14 m (1 : Int64) (0 : Int64)) ?_
  refine S.lloadN 1 (H da__0) rfl (S.lloadN 2 (H da__1) rfl (S.lcmp 3 (H da__2) ?_))
  refine S.ifN 6 (H da__3) (zLtF (by decide)) (S.lloadN 7 (H da__6) rfl (S.goto 11 (H da__7) ?_))
  exact S.retJ (H da__11) hret (by decide) (by decide) ⟨rfl, rfl⟩

theorem db__0 : decode jdk_29_method_70_code 0 = .ok (.lload_n 0, 1) := by decide +kernel
theorem db__1 : decode jdk_29_method_70_code 1 = .ok (.lload_n 2, 1) := by decide +kernel
theorem db__2 : decode jdk_29_method_70_code 2 = .ok (.lcmp, 1) := by decide +kernel
theorem db__3 : decode jdk_29_method_70_code 3 = .ok (.ifCond .gt 7, 3) := by decide +kernel
theorem db__10 : decode jdk_29_method_70_code 10 = .ok (.lload_n 2, 1) := by decide +kernel
theorem db__11 : decode jdk_29_method_70_code 11 = .ok (.lreturn, 1) := by decide +kernel
theorem own_pf_16 : plainFor (⟨"java/lang/Math", "min", "(JJ)J"⟩ : MethodName) = true := by decide +kernel
set_option maxRecDepth 65536 in
set_option maxHeartbeats 4000000 in
theorem own_mn_1 (l : Launch) (Z : State) (a0 : Array Value) (hw : ∀ d ∈ tables_1, d.before a0 Z = true) (h0 : Heap) (n0 : Nat) (O : Old Z n0 h0) :
   Con l Z n0 (⟨"java/lang/Math", "min", "(JJ)J"⟩ : MethodName) jdk_29_method_70_code 4 (some .long) [] ({ frames := 0, cells := 0, slots := 0, locals := 0 } : Room) #[(.long (5 : Int64)), (.long (1 : Int64))] h0 [] (fun v h' => v = some (.long 1) ∧ h' = h0) := by
  refine Con.of a0 own_pf_16 O (fun _ q => nomatch q) [] (fun _ q => nomatch q) ?_
  intro p e s m below meth cdX T S hby hml hret hnm
  have H := fun {k r} q => @hb _ _ hby k r q
  have W := @Tw a0 Z hw
  refine Go.cast (own_ef_14 m (5 : Int64) (1 : Int64)) ?_
  refine S.lloadN 1 (H db__0) rfl (S.lloadN 2 (H db__1) rfl (S.lcmp 3 (H db__2) ?_))
  refine S.ifY 10 (H db__3) (zGtT (by decide)) (S.lloadN 11 (H db__10) rfl ?_)
  exact S.retJ (H db__11) hret (by decide) (by decide) ⟨rfl, rfl⟩

theorem dc__0 : decode jdk_29_method_73_code 0 = .ok (.iload_n 2, 1) := by decide +kernel
theorem dc__1 : decode jdk_29_method_73_code 1 = .ok (.iload_n 3, 1) := by decide +kernel
theorem dc__2 : decode jdk_29_method_73_code 2 = .ok (.if_icmp .le 34, 3) := by decide +kernel
theorem dc__36 : decode jdk_29_method_73_code 36 = .ok (.iload_n 3, 1) := by decide +kernel
theorem dc__37 : decode jdk_29_method_73_code 37 = .ok (.i2l, 1) := by decide +kernel
theorem dc__38 : decode jdk_29_method_73_code 38 = .ok (.lload_n 0, 1) := by decide +kernel
theorem dc__39 : decode jdk_29_method_73_code 39 = .ok (.iload_n 2, 1) := by decide +kernel
theorem dc__40 : decode jdk_29_method_73_code 40 = .ok (.i2l, 1) := by decide +kernel
theorem dc__41 : decode jdk_29_method_73_code 41 = .ok (.invokestatic 196, 3) := by decide +kernel
theorem own_pd_17 : parseMethodDescriptor "(JJ)J" = some ⟨[.long, .long], some .long⟩ := by decide +kernel
theorem dc__44 : decode jdk_29_method_73_code 44 = .ok (.invokestatic 199, 3) := by decide +kernel
theorem dc__47 : decode jdk_29_method_73_code 47 = .ok (.l2i, 1) := by decide +kernel
theorem dc__48 : decode jdk_29_method_73_code 48 = .ok (.ireturn, 1) := by decide +kernel
theorem own_pf_18 : plainFor (⟨"java/lang/Math", "clamp", "(JII)I"⟩ : MethodName) = true := by decide +kernel
set_option maxRecDepth 65536 in
set_option maxHeartbeats 4000000 in
theorem own_cl_1 (l : Launch) (Z : State) (a0 : Array Value) (hw : ∀ d ∈ tables_1, d.before a0 Z = true) (h0 : Heap) (n0 : Nat) (O : Old Z n0 h0) :
   Con l Z n0 (⟨"java/lang/Math", "clamp", "(JII)I"⟩ : MethodName) jdk_29_method_73_code 4 (some .int) [] ({ frames := 1, cells := 0, slots := 0, locals := 30 } : Room) #[(.long (1 : Int64)), (.int 0), (.int 5)] h0 [] (fun v h' => v = some (.int 1) ∧ h' = h0) := by
  refine Con.of a0 own_pf_18 O (fun _ q => nomatch q) [] (fun _ q => nomatch q) ?_
  intro p e s m below meth cdX T S hby hml hret hnm
  have H := fun {k r} q => @hb _ _ hby k r q
  have W := @Tw a0 Z hw
  refine Go.cast (own_ef_1 m (1 : Int64) (0 : Int32) (5 : Int32)) ?_
  refine S.iloadN 1 (H dc__0) rfl (S.iloadN 2 (H dc__1) rfl (S.icmpY 36 (H dc__2) (qLeT (by decide)) (S.iloadN 37 (H dc__36) rfl (S.i2l 38 (H dc__37) ?_))))
  show Go p e below _ T (mkF m 38 #[.val (.long (1 : Int64)), .second, vi 0, vi 5] [(.long ((5 : Int32).toInt64))])
  rw [show ((5 : Int32).toInt64) = (5 : Int64) from by decide]
  refine S.lloadN 39 (H dc__38) rfl (S.iloadN 40 (H dc__39) rfl (S.i2l 41 (H dc__40) ?_))
  show Go p e below _ T (mkF m 41 #[.val (.long (1 : Int64)), .second, vi 0, vi 5] [(.long ((0 : Int32).toInt64)), (.long (1 : Int64)), (.long (5 : Int64))])
  rw [show ((0 : Int32).toInt64) = (0 : Int64) from by decide]
  refine S.scall 44 (H dc__41) hml.symm (W 115 rfl) (W 116 rfl) (W 113 rfl) (W 117 rfl) (by decide) [(.long (1 : Int64)), (.long (0 : Int64))] [(.long (5 : Int64))] (Con.pay (W := 2) (own_mx_1 l Z a0 hw h0 n0 S.old) (W 117 rfl) (W 113 rfl) (by decide) (by decide)) (lenOf own_pd_17 rfl) rfl (Nle rfl) (by decide) (by decide) Wrs.nil ?_
  intro v332 T333 h334 L335 S336 q337 K338
  obtain ⟨rfl, e_q337⟩ := q337
  obtain rfl := e_q337.symm
  show Go p e below _ T333 (mkF m 44 #[.val (.long (1 : Int64)), .second, vi 0, vi 5] [(.long (1 : Int64)), (.long (5 : Int64))])
  refine S336.scall 47 (H dc__44) hml.symm (W 118 rfl) (W 119 rfl) (W 113 rfl) (W 120 rfl) (by decide) [(.long (5 : Int64)), (.long (1 : Int64))] [] (Con.pay (W := 0) (own_mn_1 l Z a0 hw h0 n0 S336.old) (W 120 rfl) (W 113 rfl) (by decide) (by decide)) (lenOf own_pd_17 rfl) rfl (Nle rfl) (by decide) (by decide) Wrs.nil ?_
  intro v339 T340 h341 L342 S343 q344 K345
  obtain ⟨rfl, e_q344⟩ := q344
  obtain rfl := e_q344.symm
  show Go p e below _ T340 (mkF m 47 #[.val (.long (1 : Int64)), .second, vi 0, vi 5] [(.long (1 : Int64))])
  refine S343.l2i 48 (H dc__47) ?_
  show Go p e below _ T340 (mkF m 48 #[.val (.long (1 : Int64)), .second, vi 0, vi 5] [(.int ((1 : Int64).toInt32))])
  rw [show ((1 : Int64).toInt32) = (1 : Int32) from by decide]
  exact S343.retI (H dc__48) hret (by decide) (by decide) ⟨rfl, rfl⟩


set_option maxRecDepth 65536 in
set_option maxHeartbeats 4000000 in
theorem own_mx_2 (l : Launch) (Z : State) (a0 : Array Value) (hw : ∀ d ∈ tables_1, d.before a0 Z = true) (h0 : Heap) (n0 : Nat) (O : Old Z n0 h0) :
   Con l Z n0 (⟨"java/lang/Math", "max", "(JJ)J"⟩ : MethodName) jdk_29_method_66_code 4 (some .long) [] ({ frames := 0, cells := 0, slots := 0, locals := 0 } : Room) #[(.long (2 : Int64)), (.long (0 : Int64))] h0 [] (fun v h' => v = some (.long 2) ∧ h' = h0) := by
  refine Con.of a0 own_pf_15 O (fun _ q => nomatch q) [] (fun _ q => nomatch q) ?_
  intro p e s m below meth cdX T S hby hml hret hnm
  have H := fun {k r} q => @hb _ _ hby k r q
  have W := @Tw a0 Z hw
  refine Go.cast (own_ef_14 m (2 : Int64) (0 : Int64)) ?_
  refine S.lloadN 1 (H da__0) rfl (S.lloadN 2 (H da__1) rfl (S.lcmp 3 (H da__2) ?_))
  refine S.ifN 6 (H da__3) (zLtF (by decide)) (S.lloadN 7 (H da__6) rfl (S.goto 11 (H da__7) ?_))
  exact S.retJ (H da__11) hret (by decide) (by decide) ⟨rfl, rfl⟩


set_option maxRecDepth 65536 in
set_option maxHeartbeats 4000000 in
theorem own_mn_2 (l : Launch) (Z : State) (a0 : Array Value) (hw : ∀ d ∈ tables_1, d.before a0 Z = true) (h0 : Heap) (n0 : Nat) (O : Old Z n0 h0) :
   Con l Z n0 (⟨"java/lang/Math", "min", "(JJ)J"⟩ : MethodName) jdk_29_method_70_code 4 (some .long) [] ({ frames := 0, cells := 0, slots := 0, locals := 0 } : Room) #[(.long (5 : Int64)), (.long (2 : Int64))] h0 [] (fun v h' => v = some (.long 2) ∧ h' = h0) := by
  refine Con.of a0 own_pf_16 O (fun _ q => nomatch q) [] (fun _ q => nomatch q) ?_
  intro p e s m below meth cdX T S hby hml hret hnm
  have H := fun {k r} q => @hb _ _ hby k r q
  have W := @Tw a0 Z hw
  refine Go.cast (own_ef_14 m (5 : Int64) (2 : Int64)) ?_
  refine S.lloadN 1 (H db__0) rfl (S.lloadN 2 (H db__1) rfl (S.lcmp 3 (H db__2) ?_))
  refine S.ifY 10 (H db__3) (zGtT (by decide)) (S.lloadN 11 (H db__10) rfl ?_)
  exact S.retJ (H db__11) hret (by decide) (by decide) ⟨rfl, rfl⟩


set_option maxRecDepth 65536 in
set_option maxHeartbeats 4000000 in
theorem own_cl_2 (l : Launch) (Z : State) (a0 : Array Value) (hw : ∀ d ∈ tables_1, d.before a0 Z = true) (h0 : Heap) (n0 : Nat) (O : Old Z n0 h0) :
   Con l Z n0 (⟨"java/lang/Math", "clamp", "(JII)I"⟩ : MethodName) jdk_29_method_73_code 4 (some .int) [] ({ frames := 1, cells := 0, slots := 0, locals := 30 } : Room) #[(.long (2 : Int64)), (.int 0), (.int 5)] h0 [] (fun v h' => v = some (.int 2) ∧ h' = h0) := by
  refine Con.of a0 own_pf_18 O (fun _ q => nomatch q) [] (fun _ q => nomatch q) ?_
  intro p e s m below meth cdX T S hby hml hret hnm
  have H := fun {k r} q => @hb _ _ hby k r q
  have W := @Tw a0 Z hw
  refine Go.cast (own_ef_1 m (2 : Int64) (0 : Int32) (5 : Int32)) ?_
  refine S.iloadN 1 (H dc__0) rfl (S.iloadN 2 (H dc__1) rfl (S.icmpY 36 (H dc__2) (qLeT (by decide)) (S.iloadN 37 (H dc__36) rfl (S.i2l 38 (H dc__37) ?_))))
  show Go p e below _ T (mkF m 38 #[.val (.long (2 : Int64)), .second, vi 0, vi 5] [(.long ((5 : Int32).toInt64))])
  rw [show ((5 : Int32).toInt64) = (5 : Int64) from by decide]
  refine S.lloadN 39 (H dc__38) rfl (S.iloadN 40 (H dc__39) rfl (S.i2l 41 (H dc__40) ?_))
  show Go p e below _ T (mkF m 41 #[.val (.long (2 : Int64)), .second, vi 0, vi 5] [(.long ((0 : Int32).toInt64)), (.long (2 : Int64)), (.long (5 : Int64))])
  rw [show ((0 : Int32).toInt64) = (0 : Int64) from by decide]
  refine S.scall 44 (H dc__41) hml.symm (W 115 rfl) (W 116 rfl) (W 113 rfl) (W 117 rfl) (by decide) [(.long (2 : Int64)), (.long (0 : Int64))] [(.long (5 : Int64))] (Con.pay (W := 2) (own_mx_2 l Z a0 hw h0 n0 S.old) (W 117 rfl) (W 113 rfl) (by decide) (by decide)) (lenOf own_pd_17 rfl) rfl (Nle rfl) (by decide) (by decide) Wrs.nil ?_
  intro v346 T347 h348 L349 S350 q351 K352
  obtain ⟨rfl, e_q351⟩ := q351
  obtain rfl := e_q351.symm
  show Go p e below _ T347 (mkF m 44 #[.val (.long (2 : Int64)), .second, vi 0, vi 5] [(.long (2 : Int64)), (.long (5 : Int64))])
  refine S350.scall 47 (H dc__44) hml.symm (W 118 rfl) (W 119 rfl) (W 113 rfl) (W 120 rfl) (by decide) [(.long (5 : Int64)), (.long (2 : Int64))] [] (Con.pay (W := 0) (own_mn_2 l Z a0 hw h0 n0 S350.old) (W 120 rfl) (W 113 rfl) (by decide) (by decide)) (lenOf own_pd_17 rfl) rfl (Nle rfl) (by decide) (by decide) Wrs.nil ?_
  intro v353 T354 h355 L356 S357 q358 K359
  obtain ⟨rfl, e_q358⟩ := q358
  obtain rfl := e_q358.symm
  show Go p e below _ T354 (mkF m 47 #[.val (.long (2 : Int64)), .second, vi 0, vi 5] [(.long (2 : Int64))])
  refine S357.l2i 48 (H dc__47) ?_
  show Go p e below _ T354 (mkF m 48 #[.val (.long (2 : Int64)), .second, vi 0, vi 5] [(.int ((2 : Int64).toInt32))])
  rw [show ((2 : Int64).toInt32) = (2 : Int32) from by decide]
  exact S357.retI (H dc__48) hret (by decide) (by decide) ⟨rfl, rfl⟩


set_option maxRecDepth 65536 in
set_option maxHeartbeats 4000000 in
theorem own_mx_3 (l : Launch) (Z : State) (a0 : Array Value) (hw : ∀ d ∈ tables_1, d.before a0 Z = true) (h0 : Heap) (n0 : Nat) (O : Old Z n0 h0) :
   Con l Z n0 (⟨"java/lang/Math", "max", "(JJ)J"⟩ : MethodName) jdk_29_method_66_code 4 (some .long) [] ({ frames := 0, cells := 0, slots := 0, locals := 0 } : Room) #[(.long (3 : Int64)), (.long (0 : Int64))] h0 [] (fun v h' => v = some (.long 3) ∧ h' = h0) := by
  refine Con.of a0 own_pf_15 O (fun _ q => nomatch q) [] (fun _ q => nomatch q) ?_
  intro p e s m below meth cdX T S hby hml hret hnm
  have H := fun {k r} q => @hb _ _ hby k r q
  have W := @Tw a0 Z hw
  refine Go.cast (own_ef_14 m (3 : Int64) (0 : Int64)) ?_
  refine S.lloadN 1 (H da__0) rfl (S.lloadN 2 (H da__1) rfl (S.lcmp 3 (H da__2) ?_))
  refine S.ifN 6 (H da__3) (zLtF (by decide)) (S.lloadN 7 (H da__6) rfl (S.goto 11 (H da__7) ?_))
  exact S.retJ (H da__11) hret (by decide) (by decide) ⟨rfl, rfl⟩


set_option maxRecDepth 65536 in
set_option maxHeartbeats 4000000 in
theorem own_mn_3 (l : Launch) (Z : State) (a0 : Array Value) (hw : ∀ d ∈ tables_1, d.before a0 Z = true) (h0 : Heap) (n0 : Nat) (O : Old Z n0 h0) :
   Con l Z n0 (⟨"java/lang/Math", "min", "(JJ)J"⟩ : MethodName) jdk_29_method_70_code 4 (some .long) [] ({ frames := 0, cells := 0, slots := 0, locals := 0 } : Room) #[(.long (5 : Int64)), (.long (3 : Int64))] h0 [] (fun v h' => v = some (.long 3) ∧ h' = h0) := by
  refine Con.of a0 own_pf_16 O (fun _ q => nomatch q) [] (fun _ q => nomatch q) ?_
  intro p e s m below meth cdX T S hby hml hret hnm
  have H := fun {k r} q => @hb _ _ hby k r q
  have W := @Tw a0 Z hw
  refine Go.cast (own_ef_14 m (5 : Int64) (3 : Int64)) ?_
  refine S.lloadN 1 (H db__0) rfl (S.lloadN 2 (H db__1) rfl (S.lcmp 3 (H db__2) ?_))
  refine S.ifY 10 (H db__3) (zGtT (by decide)) (S.lloadN 11 (H db__10) rfl ?_)
  exact S.retJ (H db__11) hret (by decide) (by decide) ⟨rfl, rfl⟩


set_option maxRecDepth 65536 in
set_option maxHeartbeats 4000000 in
theorem own_cl_3 (l : Launch) (Z : State) (a0 : Array Value) (hw : ∀ d ∈ tables_1, d.before a0 Z = true) (h0 : Heap) (n0 : Nat) (O : Old Z n0 h0) :
   Con l Z n0 (⟨"java/lang/Math", "clamp", "(JII)I"⟩ : MethodName) jdk_29_method_73_code 4 (some .int) [] ({ frames := 1, cells := 0, slots := 0, locals := 30 } : Room) #[(.long (3 : Int64)), (.int 0), (.int 5)] h0 [] (fun v h' => v = some (.int 3) ∧ h' = h0) := by
  refine Con.of a0 own_pf_18 O (fun _ q => nomatch q) [] (fun _ q => nomatch q) ?_
  intro p e s m below meth cdX T S hby hml hret hnm
  have H := fun {k r} q => @hb _ _ hby k r q
  have W := @Tw a0 Z hw
  refine Go.cast (own_ef_1 m (3 : Int64) (0 : Int32) (5 : Int32)) ?_
  refine S.iloadN 1 (H dc__0) rfl (S.iloadN 2 (H dc__1) rfl (S.icmpY 36 (H dc__2) (qLeT (by decide)) (S.iloadN 37 (H dc__36) rfl (S.i2l 38 (H dc__37) ?_))))
  show Go p e below _ T (mkF m 38 #[.val (.long (3 : Int64)), .second, vi 0, vi 5] [(.long ((5 : Int32).toInt64))])
  rw [show ((5 : Int32).toInt64) = (5 : Int64) from by decide]
  refine S.lloadN 39 (H dc__38) rfl (S.iloadN 40 (H dc__39) rfl (S.i2l 41 (H dc__40) ?_))
  show Go p e below _ T (mkF m 41 #[.val (.long (3 : Int64)), .second, vi 0, vi 5] [(.long ((0 : Int32).toInt64)), (.long (3 : Int64)), (.long (5 : Int64))])
  rw [show ((0 : Int32).toInt64) = (0 : Int64) from by decide]
  refine S.scall 44 (H dc__41) hml.symm (W 115 rfl) (W 116 rfl) (W 113 rfl) (W 117 rfl) (by decide) [(.long (3 : Int64)), (.long (0 : Int64))] [(.long (5 : Int64))] (Con.pay (W := 2) (own_mx_3 l Z a0 hw h0 n0 S.old) (W 117 rfl) (W 113 rfl) (by decide) (by decide)) (lenOf own_pd_17 rfl) rfl (Nle rfl) (by decide) (by decide) Wrs.nil ?_
  intro v360 T361 h362 L363 S364 q365 K366
  obtain ⟨rfl, e_q365⟩ := q365
  obtain rfl := e_q365.symm
  show Go p e below _ T361 (mkF m 44 #[.val (.long (3 : Int64)), .second, vi 0, vi 5] [(.long (3 : Int64)), (.long (5 : Int64))])
  refine S364.scall 47 (H dc__44) hml.symm (W 118 rfl) (W 119 rfl) (W 113 rfl) (W 120 rfl) (by decide) [(.long (5 : Int64)), (.long (3 : Int64))] [] (Con.pay (W := 0) (own_mn_3 l Z a0 hw h0 n0 S364.old) (W 120 rfl) (W 113 rfl) (by decide) (by decide)) (lenOf own_pd_17 rfl) rfl (Nle rfl) (by decide) (by decide) Wrs.nil ?_
  intro v367 T368 h369 L370 S371 q372 K373
  obtain ⟨rfl, e_q372⟩ := q372
  obtain rfl := e_q372.symm
  show Go p e below _ T368 (mkF m 47 #[.val (.long (3 : Int64)), .second, vi 0, vi 5] [(.long (3 : Int64))])
  refine S371.l2i 48 (H dc__47) ?_
  show Go p e below _ T368 (mkF m 48 #[.val (.long (3 : Int64)), .second, vi 0, vi 5] [(.int ((3 : Int64).toInt32))])
  rw [show ((3 : Int64).toInt32) = (3 : Int32) from by decide]
  exact S371.retI (H dc__48) hret (by decide) (by decide) ⟨rfl, rfl⟩


set_option maxRecDepth 65536 in
set_option maxHeartbeats 4000000 in
theorem own_mx_4 (l : Launch) (Z : State) (a0 : Array Value) (hw : ∀ d ∈ tables_1, d.before a0 Z = true) (h0 : Heap) (n0 : Nat) (O : Old Z n0 h0) :
   Con l Z n0 (⟨"java/lang/Math", "max", "(JJ)J"⟩ : MethodName) jdk_29_method_66_code 4 (some .long) [] ({ frames := 0, cells := 0, slots := 0, locals := 0 } : Room) #[(.long (4 : Int64)), (.long (0 : Int64))] h0 [] (fun v h' => v = some (.long 4) ∧ h' = h0) := by
  refine Con.of a0 own_pf_15 O (fun _ q => nomatch q) [] (fun _ q => nomatch q) ?_
  intro p e s m below meth cdX T S hby hml hret hnm
  have H := fun {k r} q => @hb _ _ hby k r q
  have W := @Tw a0 Z hw
  refine Go.cast (own_ef_14 m (4 : Int64) (0 : Int64)) ?_
  refine S.lloadN 1 (H da__0) rfl (S.lloadN 2 (H da__1) rfl (S.lcmp 3 (H da__2) ?_))
  refine S.ifN 6 (H da__3) (zLtF (by decide)) (S.lloadN 7 (H da__6) rfl (S.goto 11 (H da__7) ?_))
  exact S.retJ (H da__11) hret (by decide) (by decide) ⟨rfl, rfl⟩


set_option maxRecDepth 65536 in
set_option maxHeartbeats 4000000 in
theorem own_mn_4 (l : Launch) (Z : State) (a0 : Array Value) (hw : ∀ d ∈ tables_1, d.before a0 Z = true) (h0 : Heap) (n0 : Nat) (O : Old Z n0 h0) :
   Con l Z n0 (⟨"java/lang/Math", "min", "(JJ)J"⟩ : MethodName) jdk_29_method_70_code 4 (some .long) [] ({ frames := 0, cells := 0, slots := 0, locals := 0 } : Room) #[(.long (5 : Int64)), (.long (4 : Int64))] h0 [] (fun v h' => v = some (.long 4) ∧ h' = h0) := by
  refine Con.of a0 own_pf_16 O (fun _ q => nomatch q) [] (fun _ q => nomatch q) ?_
  intro p e s m below meth cdX T S hby hml hret hnm
  have H := fun {k r} q => @hb _ _ hby k r q
  have W := @Tw a0 Z hw
  refine Go.cast (own_ef_14 m (5 : Int64) (4 : Int64)) ?_
  refine S.lloadN 1 (H db__0) rfl (S.lloadN 2 (H db__1) rfl (S.lcmp 3 (H db__2) ?_))
  refine S.ifY 10 (H db__3) (zGtT (by decide)) (S.lloadN 11 (H db__10) rfl ?_)
  exact S.retJ (H db__11) hret (by decide) (by decide) ⟨rfl, rfl⟩


set_option maxRecDepth 65536 in
set_option maxHeartbeats 4000000 in
theorem own_cl_4 (l : Launch) (Z : State) (a0 : Array Value) (hw : ∀ d ∈ tables_1, d.before a0 Z = true) (h0 : Heap) (n0 : Nat) (O : Old Z n0 h0) :
   Con l Z n0 (⟨"java/lang/Math", "clamp", "(JII)I"⟩ : MethodName) jdk_29_method_73_code 4 (some .int) [] ({ frames := 1, cells := 0, slots := 0, locals := 30 } : Room) #[(.long (4 : Int64)), (.int 0), (.int 5)] h0 [] (fun v h' => v = some (.int 4) ∧ h' = h0) := by
  refine Con.of a0 own_pf_18 O (fun _ q => nomatch q) [] (fun _ q => nomatch q) ?_
  intro p e s m below meth cdX T S hby hml hret hnm
  have H := fun {k r} q => @hb _ _ hby k r q
  have W := @Tw a0 Z hw
  refine Go.cast (own_ef_1 m (4 : Int64) (0 : Int32) (5 : Int32)) ?_
  refine S.iloadN 1 (H dc__0) rfl (S.iloadN 2 (H dc__1) rfl (S.icmpY 36 (H dc__2) (qLeT (by decide)) (S.iloadN 37 (H dc__36) rfl (S.i2l 38 (H dc__37) ?_))))
  show Go p e below _ T (mkF m 38 #[.val (.long (4 : Int64)), .second, vi 0, vi 5] [(.long ((5 : Int32).toInt64))])
  rw [show ((5 : Int32).toInt64) = (5 : Int64) from by decide]
  refine S.lloadN 39 (H dc__38) rfl (S.iloadN 40 (H dc__39) rfl (S.i2l 41 (H dc__40) ?_))
  show Go p e below _ T (mkF m 41 #[.val (.long (4 : Int64)), .second, vi 0, vi 5] [(.long ((0 : Int32).toInt64)), (.long (4 : Int64)), (.long (5 : Int64))])
  rw [show ((0 : Int32).toInt64) = (0 : Int64) from by decide]
  refine S.scall 44 (H dc__41) hml.symm (W 115 rfl) (W 116 rfl) (W 113 rfl) (W 117 rfl) (by decide) [(.long (4 : Int64)), (.long (0 : Int64))] [(.long (5 : Int64))] (Con.pay (W := 2) (own_mx_4 l Z a0 hw h0 n0 S.old) (W 117 rfl) (W 113 rfl) (by decide) (by decide)) (lenOf own_pd_17 rfl) rfl (Nle rfl) (by decide) (by decide) Wrs.nil ?_
  intro v374 T375 h376 L377 S378 q379 K380
  obtain ⟨rfl, e_q379⟩ := q379
  obtain rfl := e_q379.symm
  show Go p e below _ T375 (mkF m 44 #[.val (.long (4 : Int64)), .second, vi 0, vi 5] [(.long (4 : Int64)), (.long (5 : Int64))])
  refine S378.scall 47 (H dc__44) hml.symm (W 118 rfl) (W 119 rfl) (W 113 rfl) (W 120 rfl) (by decide) [(.long (5 : Int64)), (.long (4 : Int64))] [] (Con.pay (W := 0) (own_mn_4 l Z a0 hw h0 n0 S378.old) (W 120 rfl) (W 113 rfl) (by decide) (by decide)) (lenOf own_pd_17 rfl) rfl (Nle rfl) (by decide) (by decide) Wrs.nil ?_
  intro v381 T382 h383 L384 S385 q386 K387
  obtain ⟨rfl, e_q386⟩ := q386
  obtain rfl := e_q386.symm
  show Go p e below _ T382 (mkF m 47 #[.val (.long (4 : Int64)), .second, vi 0, vi 5] [(.long (4 : Int64))])
  refine S385.l2i 48 (H dc__47) ?_
  show Go p e below _ T382 (mkF m 48 #[.val (.long (4 : Int64)), .second, vi 0, vi 5] [(.int ((4 : Int64).toInt32))])
  rw [show ((4 : Int64).toInt32) = (4 : Int32) from by decide]
  exact S385.retI (H dc__48) hret (by decide) (by decide) ⟨rfl, rfl⟩


set_option maxRecDepth 65536 in
set_option maxHeartbeats 4000000 in
theorem own_mx_5 (l : Launch) (Z : State) (a0 : Array Value) (hw : ∀ d ∈ tables_1, d.before a0 Z = true) (h0 : Heap) (n0 : Nat) (O : Old Z n0 h0) :
   Con l Z n0 (⟨"java/lang/Math", "max", "(JJ)J"⟩ : MethodName) jdk_29_method_66_code 4 (some .long) [] ({ frames := 0, cells := 0, slots := 0, locals := 0 } : Room) #[(.long (5 : Int64)), (.long (0 : Int64))] h0 [] (fun v h' => v = some (.long 5) ∧ h' = h0) := by
  refine Con.of a0 own_pf_15 O (fun _ q => nomatch q) [] (fun _ q => nomatch q) ?_
  intro p e s m below meth cdX T S hby hml hret hnm
  have H := fun {k r} q => @hb _ _ hby k r q
  have W := @Tw a0 Z hw
  refine Go.cast (own_ef_14 m (5 : Int64) (0 : Int64)) ?_
  refine S.lloadN 1 (H da__0) rfl (S.lloadN 2 (H da__1) rfl (S.lcmp 3 (H da__2) ?_))
  refine S.ifN 6 (H da__3) (zLtF (by decide)) (S.lloadN 7 (H da__6) rfl (S.goto 11 (H da__7) ?_))
  exact S.retJ (H da__11) hret (by decide) (by decide) ⟨rfl, rfl⟩

theorem db__6 : decode jdk_29_method_70_code 6 = .ok (.lload_n 0, 1) := by decide +kernel
theorem db__7 : decode jdk_29_method_70_code 7 = .ok (.goto 4, 3) := by decide +kernel
set_option maxRecDepth 65536 in
set_option maxHeartbeats 4000000 in
theorem own_mn_5 (l : Launch) (Z : State) (a0 : Array Value) (hw : ∀ d ∈ tables_1, d.before a0 Z = true) (h0 : Heap) (n0 : Nat) (O : Old Z n0 h0) :
   Con l Z n0 (⟨"java/lang/Math", "min", "(JJ)J"⟩ : MethodName) jdk_29_method_70_code 4 (some .long) [] ({ frames := 0, cells := 0, slots := 0, locals := 0 } : Room) #[(.long (5 : Int64)), (.long (5 : Int64))] h0 [] (fun v h' => v = some (.long 5) ∧ h' = h0) := by
  refine Con.of a0 own_pf_16 O (fun _ q => nomatch q) [] (fun _ q => nomatch q) ?_
  intro p e s m below meth cdX T S hby hml hret hnm
  have H := fun {k r} q => @hb _ _ hby k r q
  have W := @Tw a0 Z hw
  refine Go.cast (own_ef_14 m (5 : Int64) (5 : Int64)) ?_
  refine S.lloadN 1 (H db__0) rfl (S.lloadN 2 (H db__1) rfl (S.lcmp 3 (H db__2) ?_))
  refine S.ifN 6 (H db__3) (zGtF (by decide)) (S.lloadN 7 (H db__6) rfl (S.goto 11 (H db__7) ?_))
  exact S.retJ (H db__11) hret (by decide) (by decide) ⟨rfl, rfl⟩


set_option maxRecDepth 65536 in
set_option maxHeartbeats 4000000 in
theorem own_cl_5 (l : Launch) (Z : State) (a0 : Array Value) (hw : ∀ d ∈ tables_1, d.before a0 Z = true) (h0 : Heap) (n0 : Nat) (O : Old Z n0 h0) :
   Con l Z n0 (⟨"java/lang/Math", "clamp", "(JII)I"⟩ : MethodName) jdk_29_method_73_code 4 (some .int) [] ({ frames := 1, cells := 0, slots := 0, locals := 30 } : Room) #[(.long (5 : Int64)), (.int 0), (.int 5)] h0 [] (fun v h' => v = some (.int 5) ∧ h' = h0) := by
  refine Con.of a0 own_pf_18 O (fun _ q => nomatch q) [] (fun _ q => nomatch q) ?_
  intro p e s m below meth cdX T S hby hml hret hnm
  have H := fun {k r} q => @hb _ _ hby k r q
  have W := @Tw a0 Z hw
  refine Go.cast (own_ef_1 m (5 : Int64) (0 : Int32) (5 : Int32)) ?_
  refine S.iloadN 1 (H dc__0) rfl (S.iloadN 2 (H dc__1) rfl (S.icmpY 36 (H dc__2) (qLeT (by decide)) (S.iloadN 37 (H dc__36) rfl (S.i2l 38 (H dc__37) ?_))))
  show Go p e below _ T (mkF m 38 #[.val (.long (5 : Int64)), .second, vi 0, vi 5] [(.long ((5 : Int32).toInt64))])
  rw [show ((5 : Int32).toInt64) = (5 : Int64) from by decide]
  refine S.lloadN 39 (H dc__38) rfl (S.iloadN 40 (H dc__39) rfl (S.i2l 41 (H dc__40) ?_))
  show Go p e below _ T (mkF m 41 #[.val (.long (5 : Int64)), .second, vi 0, vi 5] [(.long ((0 : Int32).toInt64)), (.long (5 : Int64)), (.long (5 : Int64))])
  rw [show ((0 : Int32).toInt64) = (0 : Int64) from by decide]
  refine S.scall 44 (H dc__41) hml.symm (W 115 rfl) (W 116 rfl) (W 113 rfl) (W 117 rfl) (by decide) [(.long (5 : Int64)), (.long (0 : Int64))] [(.long (5 : Int64))] (Con.pay (W := 2) (own_mx_5 l Z a0 hw h0 n0 S.old) (W 117 rfl) (W 113 rfl) (by decide) (by decide)) (lenOf own_pd_17 rfl) rfl (Nle rfl) (by decide) (by decide) Wrs.nil ?_
  intro v388 T389 h390 L391 S392 q393 K394
  obtain ⟨rfl, e_q393⟩ := q393
  obtain rfl := e_q393.symm
  show Go p e below _ T389 (mkF m 44 #[.val (.long (5 : Int64)), .second, vi 0, vi 5] [(.long (5 : Int64)), (.long (5 : Int64))])
  refine S392.scall 47 (H dc__44) hml.symm (W 118 rfl) (W 119 rfl) (W 113 rfl) (W 120 rfl) (by decide) [(.long (5 : Int64)), (.long (5 : Int64))] [] (Con.pay (W := 0) (own_mn_5 l Z a0 hw h0 n0 S392.old) (W 120 rfl) (W 113 rfl) (by decide) (by decide)) (lenOf own_pd_17 rfl) rfl (Nle rfl) (by decide) (by decide) Wrs.nil ?_
  intro v395 T396 h397 L398 S399 q400 K401
  obtain ⟨rfl, e_q400⟩ := q400
  obtain rfl := e_q400.symm
  show Go p e below _ T396 (mkF m 47 #[.val (.long (5 : Int64)), .second, vi 0, vi 5] [(.long (5 : Int64))])
  refine S399.l2i 48 (H dc__47) ?_
  show Go p e below _ T396 (mkF m 48 #[.val (.long (5 : Int64)), .second, vi 0, vi 5] [(.int ((5 : Int64).toInt32))])
  rw [show ((5 : Int64).toInt32) = (5 : Int32) from by decide]
  exact S399.retI (H dc__48) hret (by decide) (by decide) ⟨rfl, rfl⟩

theorem own_ef_19 (m : MethodId) (x0 : Addr) (x1 : Int32) (x2 : Int32) (x3 : Addr) (x4 : Int32) : entryFrame m #[(.ref x0), (.int x1), (.int x2), (.ref x3), (.int x4)] 8 = mkF m 0 #[vr x0, vi x1, vi x2, vr x3, vi x4, uN, uN, uN] [] := by rfl
theorem di__0 : decode jdk_42_method_87_code 0 = .ok (.iload 4, 2) := by decide +kernel
theorem di__2 : decode jdk_42_method_87_code 2 = .ok (.i2l, 1) := by decide +kernel
theorem di__3 : decode jdk_42_method_87_code 3 = .ok (.iconst 0, 1) := by decide +kernel
theorem di__4 : decode jdk_42_method_87_code 4 = .ok (.iload_n 2, 1) := by decide +kernel
theorem di__5 : decode jdk_42_method_87_code 5 = .ok (.invokestatic 659, 3) := by decide +kernel
theorem own_pd_20 : parseMethodDescriptor "(JII)I" = some ⟨[.long, .int, .int], some .int⟩ := by decide +kernel
theorem di__8 : decode jdk_42_method_87_code 8 = .ok (.istore 4, 2) := by decide +kernel
theorem di__10 : decode jdk_42_method_87_code 10 = .ok (.aload_n 3, 1) := by decide +kernel
theorem di__11 : decode jdk_42_method_87_code 11 = .ok (.invokevirtual 505, 3) := by decide +kernel
theorem own_pd_21 : parseMethodDescriptor "()I" = some ⟨[], some .int⟩ := by decide +kernel
theorem di__14 : decode jdk_42_method_87_code 14 = .ok (.istore 5, 2) := by decide +kernel
theorem di__16 : decode jdk_42_method_87_code 16 = .ok (.iload 5, 2) := by decide +kernel
theorem di__18 : decode jdk_42_method_87_code 18 = .ok (.iload_n 2, 1) := by decide +kernel
theorem di__19 : decode jdk_42_method_87_code 19 = .ok (.iload 4, 2) := by decide +kernel
theorem di__21 : decode jdk_42_method_87_code 21 = .ok (.isub, 1) := by decide +kernel
theorem di__22 : decode jdk_42_method_87_code 22 = .ok (.if_icmp .le 5, 3) := by decide +kernel
theorem di__27 : decode jdk_42_method_87_code 27 = .ok (.iload 5, 2) := by decide +kernel
theorem di__29 : decode jdk_42_method_87_code 29 = .ok (.ifCond .ne 6, 3) := by decide +kernel
theorem di__35 : decode jdk_42_method_87_code 35 = .ok (.aload_n 3, 1) := by decide +kernel
theorem di__36 : decode jdk_42_method_87_code 36 = .ok (.getfield 9, 3) := by decide +kernel
theorem di__39 : decode jdk_42_method_87_code 39 = .ok (.astore 6, 2) := by decide +kernel
theorem di__41 : decode jdk_42_method_87_code 41 = .ok (.aload_n 3, 1) := by decide +kernel
theorem di__42 : decode jdk_42_method_87_code 42 = .ok (.invokevirtual 335, 3) := by decide +kernel
theorem di__45 : decode jdk_42_method_87_code 45 = .ok (.istore 7, 2) := by decide +kernel
theorem di__47 : decode jdk_42_method_87_code 47 = .ok (.iload_n 1, 1) := by decide +kernel
theorem di__48 : decode jdk_42_method_87_code 48 = .ok (.iload 7, 2) := by decide +kernel
theorem di__50 : decode jdk_42_method_87_code 50 = .ok (.if_icmp .ne 33, 3) := by decide +kernel
theorem di__53 : decode jdk_42_method_87_code 53 = .ok (.iload_n 1, 1) := by decide +kernel
theorem di__54 : decode jdk_42_method_87_code 54 = .ok (.ifCond .ne 17, 3) := by decide +kernel
theorem di__57 : decode jdk_42_method_87_code 57 = .ok (.aload_n 0, 1) := by decide +kernel
theorem di__58 : decode jdk_42_method_87_code 58 = .ok (.iload_n 2, 1) := by decide +kernel
theorem di__59 : decode jdk_42_method_87_code 59 = .ok (.aload 6, 2) := by decide +kernel
theorem di__61 : decode jdk_42_method_87_code 61 = .ok (.iload 5, 2) := by decide +kernel
theorem di__63 : decode jdk_42_method_87_code 63 = .ok (.iload 4, 2) := by decide +kernel
theorem di__65 : decode jdk_42_method_87_code 65 = .ok (.invokestatic 665, 3) := by decide +kernel
theorem di__68 : decode jdk_42_method_87_code 68 = .ok (.goto 14, 3) := by decide +kernel
theorem di__82 : decode jdk_42_method_87_code 82 = .ok (.ireturn, 1) := by decide +kernel
set_option maxRecDepth 65536 in
set_option maxHeartbeats 4000000 in
theorem own_i2s_1_1 (l : Launch) (Z : State) (a0 : Array Value) (hw : ∀ d ∈ tables_1, d.before a0 Z = true) (cm : Com Z) (h0 : Heap) (n0 : Nat) (O : Old Z n0 h0) (b : Addr) (ta : Addr) (ka : ClassId) (da : Value) (x0 : Int32) (x1 : Int32) (x2 : Int32) (x3 : Int32) (x4 : Int32) (tb : Addr) (kb : ClassId) (db : Value) (y0 : Int32) (b1 : Bool) (b2 : Bool) (b3 : Bool) (b4 : Bool) (EB : Exa Z h0 b "java/lang/String") (FBV : Fld Z h0 b "java/lang/String" "value" "[B" (.ref tb)) (FBC : Fld Z h0 b "java/lang/String" "coder" "B" (.int 0)) (AA : Arv Z h0 ta ka .byte (5 : Int32) [(.int x0), (.int x1), (.int x2), (.int x3), (.int x4)] da) (AB : Arv Z h0 tb kb .byte (1 : Int32) [(.int y0)] db) (e1 : b1 = decide (x1 = y0)) (e2 : b2 = decide (x2 = y0)) (e3 : b3 = decide (x3 = y0)) (e4 : b4 = decide (x4 = y0)) :
   Con l Z n0 (⟨"java/lang/String", "indexOf", "([BBILjava/lang/String;I)I"⟩ : MethodName) jdk_42_method_87_code 8 (some .int) [] ({ frames := 2, cells := 0, slots := 0, locals := 60 } : Room) #[(.ref ta), (.int 0), (.int 5), (.ref b), (.int 1)] h0 [] (fun v h' => v = some (.int (own_nx [(b1, 1), (b2, 2), (b3, 3), (b4, 4)])) ∧ h' = h0) := by
  refine Con.of a0 (plainFor_of_name own_pn_7) O (fun _ q => nomatch q) [] (fun _ q => nomatch q) ?_
  intro p e s m below meth cdX T S hby hml hret hnm
  have H := fun {k r} q => @hb _ _ hby k r q
  have W := @Tw a0 Z hw
  refine Go.cast (own_ef_19 m ta (0 : Int32) (5 : Int32) b (1 : Int32)) ?_
  refine S.iload 2 (H di__0) rfl (S.i2l 3 (H di__2) ?_)
  show Go p e below _ T (mkF m 3 #[vr ta, vi 0, vi 5, vr b, vi 1, uN, uN, uN] [(.long ((1 : Int32).toInt64))])
  rw [show ((1 : Int32).toInt64) = (1 : Int64) from by decide]
  refine S.iconst 4 (0 : Int32) (H di__3) (S.iloadN 5 (H di__4) rfl (S.scall 8 (H di__5) hml.symm (W 111 rfl) (W 112 rfl) (W 113 rfl) (W 114 rfl) (by decide) [(.long (1 : Int64)), (.int 0), (.int 5)] [] (Con.pay (W := 0) (own_cl_1 l Z a0 hw h0 n0 S.old) (W 114 rfl) (W 113 rfl) (by decide) (by decide)) (lenOf own_pd_20 rfl) rfl (Nle rfl) (by decide) (by decide) Wrs.nil ?_))
  intro v402 T403 h404 L405 S406 q407 K408
  obtain ⟨rfl, e_q407⟩ := q407
  obtain rfl := e_q407.symm
  show Go p e below _ T403 (mkF m 8 #[vr ta, vi 0, vi 5, vr b, vi 1, uN, uN, uN] [(.int 1)])
  refine S406.istore 10 #[vr ta, vi 0, vi 5, vr b, vi 1, uN, uN, uN] (H di__8) rfl (S406.aloadN 11 (H di__10) rfl rfl (S406.vcall 14 (H di__11) hml.symm (W 107 rfl) (W 94 rfl) (W 96 rfl) (W 95 rfl) (nfSel (W 96 rfl)) (by decide) EB [] [] (Con.pay (W := 0) (own_len_1 l Z a0 hw cm h0 n0 S406.old b tb kb [(.int y0)] db EB FBV FBC AB) (W 97 rfl) (W 8 rfl) (by decide) (by decide)) (lenOf own_pd_21 rfl) rfl (Nle rfl) (by decide) (by decide) Wrs.nil ?_))
  intro v409 T410 h411 L412 S413 q414 K415
  obtain ⟨rfl, e_q414⟩ := q414
  obtain rfl := e_q414.symm
  show Go p e below _ T410 (mkF m 14 #[vr ta, vi 0, vi 5, vr b, vi 1, uN, uN, uN] [(.int 1)])
  refine S413.istore 16 #[vr ta, vi 0, vi 5, vr b, vi 1, vi 1, uN, uN] (H di__14) rfl (S413.iload 18 (H di__16) rfl (S413.iloadN 19 (H di__18) rfl (S413.iload 21 (H di__19) rfl (S413.isub 22 (H di__21) ?_))))
  rw [show (5 - 1 : Int32) = 4 from by decide]
  refine S413.icmpY 27 (H di__22) (qLeT (by decide)) (S413.iload 29 (H di__27) rfl (S413.ifY 35 (H di__29) (zNeT (by decide)) (S413.aloadN 36 (H di__35) rfl rfl (S413.getf (host := "") 39 (H di__36) (Or.inl (W 33 rfl)) Via.refl FBV ?_))))
  intro T416 S417
  refine S417.astore 41 #[vr ta, vi 0, vi 5, vr b, vi 1, vi 1, vr tb, uN] (H di__39) rfl rfl ?_
  refine S417.aloadN 42 (H di__41) rfl rfl (S417.vcall 45 (H di__42) hml.symm (W 52 rfl) (W 53 rfl) (W 55 rfl) (W 54 rfl) (nfSel (W 55 rfl)) (by decide) EB [] [] (Con.pay (W := 0) (own_coder l Z a0 hw cm h0 n0 S417.old b FBC) (W 56 rfl) (W 8 rfl) (by decide) (by decide)) (lenOf own_pd_8 rfl) rfl (Nle rfl) (by decide) (by decide) Wrs.nil ?_)
  intro v418 T419 h420 L421 S422 q423 K424
  obtain ⟨rfl, e_q423⟩ := q423
  obtain rfl := e_q423.symm
  show Go p e below _ T419 (mkF m 45 #[vr ta, vi 0, vi 5, vr b, vi 1, vi 1, vr tb, uN] [(.int 0)])
  refine S422.istore 47 #[vr ta, vi 0, vi 5, vr b, vi 1, vi 1, vr tb, vi 0] (H di__45) rfl (S422.iloadN 48 (H di__47) rfl (S422.iload 50 (H di__48) rfl (S422.icmpN 53 (H di__50) (qNeF (by decide)) (S422.iloadN 54 (H di__53) rfl (S422.ifN 57 (H di__54) (zNeF (by decide)) (S422.aloadN 58 (H di__57) rfl rfl ?_))))))
  refine S422.iloadN 59 (H di__58) rfl (S422.aload 61 (H di__59) rfl rfl (S422.iload 63 (H di__61) rfl (S422.iload 65 (H di__63) rfl (S422.scall 68 (H di__65) hml.symm (W 121 rfl) (W 67 rfl) (W 64 rfl) (W 68 rfl) (by decide) [(.ref ta), (.int 5), (.ref tb), (.int 1), (.int 1)] [] (Con.pay (W := 0) (own_io_1_1 l Z a0 hw h0 n0 S422.old ta ka da x0 x1 x2 x3 x4 tb kb db y0 b1 b2 b3 b4 AA AB e1 e2 e3 e4) (W 68 rfl) (W 64 rfl) (by decide) (by decide)) (lenOf own_pd_10 rfl) rfl (Nle rfl) (by decide) (by decide) Wrs.nil ?_))))
  intro v425 T426 h427 L428 S429 q430 K431
  obtain ⟨rfl, e_q430⟩ := q430
  obtain rfl := e_q430.symm
  show Go p e below _ T426 (mkF m 68 #[vr ta, vi 0, vi 5, vr b, vi 1, vi 1, vr tb, vi 0] [(.int (own_nx [(b1, 1), (b2, 2), (b3, 3), (b4, 4)]))])
  refine S429.goto 82 (H di__68) ?_
  exact S429.retI (H di__82) hret (by decide) (by decide) ⟨rfl, rfl⟩

theorem dh__0 : decode jdk_42_method_85_code 0 = .ok (.aload_n 0, 1) := by decide +kernel
theorem dh__1 : decode jdk_42_method_85_code 1 = .ok (.getfield 9, 3) := by decide +kernel
theorem dh__4 : decode jdk_42_method_85_code 4 = .ok (.aload_n 0, 1) := by decide +kernel
theorem dh__5 : decode jdk_42_method_85_code 5 = .ok (.invokevirtual 335, 3) := by decide +kernel
theorem dh__8 : decode jdk_42_method_85_code 8 = .ok (.aload_n 0, 1) := by decide +kernel
theorem dh__9 : decode jdk_42_method_85_code 9 = .ok (.invokevirtual 505, 3) := by decide +kernel
theorem dh__12 : decode jdk_42_method_85_code 12 = .ok (.aload_n 1, 1) := by decide +kernel
theorem dh__13 : decode jdk_42_method_85_code 13 = .ok (.iload_n 2, 1) := by decide +kernel
theorem dh__14 : decode jdk_42_method_85_code 14 = .ok (.invokestatic 653, 3) := by decide +kernel
theorem own_pd_22 : parseMethodDescriptor "([BBILjava/lang/String;I)I" = some ⟨[(.array .byte), .byte, .int, (.object "java/lang/String"), .int], some .int⟩ := by decide +kernel
theorem dh__17 : decode jdk_42_method_85_code 17 = .ok (.ireturn, 1) := by decide +kernel
set_option maxRecDepth 65536 in
set_option maxHeartbeats 4000000 in
theorem own_i2_1_1 (l : Launch) (Z : State) (a0 : Array Value) (hw : ∀ d ∈ tables_1, d.before a0 Z = true) (cm : Com Z) (h0 : Heap) (n0 : Nat) (O : Old Z n0 h0) (a : Addr) (b : Addr) (ta : Addr) (ka : ClassId) (da : Value) (x0 : Int32) (x1 : Int32) (x2 : Int32) (x3 : Int32) (x4 : Int32) (tb : Addr) (kb : ClassId) (db : Value) (y0 : Int32) (b1 : Bool) (b2 : Bool) (b3 : Bool) (b4 : Bool) (EA : Exa Z h0 a "java/lang/String") (FAV : Fld Z h0 a "java/lang/String" "value" "[B" (.ref ta)) (FAC : Fld Z h0 a "java/lang/String" "coder" "B" (.int 0)) (EB : Exa Z h0 b "java/lang/String") (FBV : Fld Z h0 b "java/lang/String" "value" "[B" (.ref tb)) (FBC : Fld Z h0 b "java/lang/String" "coder" "B" (.int 0)) (AA : Arv Z h0 ta ka .byte (5 : Int32) [(.int x0), (.int x1), (.int x2), (.int x3), (.int x4)] da) (AB : Arv Z h0 tb kb .byte (1 : Int32) [(.int y0)] db) (e1 : b1 = decide (x1 = y0)) (e2 : b2 = decide (x2 = y0)) (e3 : b3 = decide (x3 = y0)) (e4 : b4 = decide (x4 = y0)) :
   Con l Z n0 (⟨"java/lang/String", "indexOf", "(Ljava/lang/String;I)I"⟩ : MethodName) jdk_42_method_85_code 3 (some .int) [] ({ frames := 3, cells := 0, slots := 0, locals := 90 } : Room) #[(.ref a), (.ref b), (.int 1)] h0 [] (fun v h' => v = some (.int (own_nx [(b1, 1), (b2, 2), (b3, 3), (b4, 4)])) ∧ h' = h0) := by
  refine Con.of a0 (plainFor_of_name own_pn_7) O (fun _ q => nomatch q) [] (fun _ q => nomatch q) ?_
  intro p e s m below meth cdX T S hby hml hret hnm
  have H := fun {k r} q => @hb _ _ hby k r q
  have W := @Tw a0 Z hw
  refine Go.cast (own_ef_3 m a b (1 : Int32)) ?_
  refine S.aloadN 1 (H dh__0) rfl rfl (S.getf (host := "") 4 (H dh__1) (Or.inl (W 33 rfl)) Via.refl FAV ?_)
  intro T432 S433
  refine S433.aloadN 5 (H dh__4) rfl rfl (S433.vcall 8 (H dh__5) hml.symm (W 52 rfl) (W 53 rfl) (W 55 rfl) (W 54 rfl) (nfSel (W 55 rfl)) (by decide) EA [] [(.ref ta)] (Con.pay (W := 1) (own_coder l Z a0 hw cm h0 n0 S433.old a FAC) (W 56 rfl) (W 8 rfl) (by decide) (by decide)) (lenOf own_pd_8 rfl) rfl (Nle rfl) (by decide) (by decide) Wrs.nil ?_)
  intro v434 T435 h436 L437 S438 q439 K440
  obtain ⟨rfl, e_q439⟩ := q439
  obtain rfl := e_q439.symm
  show Go p e below _ T435 (mkF m 8 #[vr a, vr b, vi 1] [(.int 0), (.ref ta)])
  refine S438.aloadN 9 (H dh__8) rfl rfl (S438.vcall 12 (H dh__9) hml.symm (W 107 rfl) (W 94 rfl) (W 96 rfl) (W 95 rfl) (nfSel (W 96 rfl)) (by decide) EA [] [(.int 0), (.ref ta)] (Con.pay (W := 2) (own_len_5 l Z a0 hw cm h0 n0 S438.old a ta ka [(.int x0), (.int x1), (.int x2), (.int x3), (.int x4)] da EA FAV FAC AA) (W 97 rfl) (W 8 rfl) (by decide) (by decide)) (lenOf own_pd_21 rfl) rfl (Nle rfl) (by decide) (by decide) Wrs.nil ?_)
  intro v441 T442 h443 L444 S445 q446 K447
  obtain ⟨rfl, e_q446⟩ := q446
  obtain rfl := e_q446.symm
  show Go p e below _ T442 (mkF m 12 #[vr a, vr b, vi 1] [(.int 5), (.int 0), (.ref ta)])
  refine S445.aloadN 13 (H dh__12) rfl rfl (S445.iloadN 14 (H dh__13) rfl (S445.scall 17 (H dh__14) hml.symm (W 108 rfl) (W 109 rfl) (W 8 rfl) (W 110 rfl) (by decide) [(.ref ta), (.int 0), (.int 5), (.ref b), (.int 1)] [] (Con.pay (W := 0) (own_i2s_1_1 l Z a0 hw cm h0 n0 S445.old b ta ka da x0 x1 x2 x3 x4 tb kb db y0 b1 b2 b3 b4 EB FBV FBC AA AB e1 e2 e3 e4) (W 110 rfl) (W 8 rfl) (by decide) (by decide)) (lenOf own_pd_22 rfl) rfl (Nle rfl) (by decide) (by decide) Wrs.nil ?_))
  intro v448 T449 h450 L451 S452 q453 K454
  obtain ⟨rfl, e_q453⟩ := q453
  obtain rfl := e_q453.symm
  show Go p e below _ T449 (mkF m 17 #[vr a, vr b, vi 1] [(.int (own_nx [(b1, 1), (b2, 2), (b3, 3), (b4, 4)]))])
  exact S452.retI (H dh__17) hret (by decide) (by decide) ⟨rfl, rfl⟩


set_option maxRecDepth 65536 in
set_option maxHeartbeats 4000000 in
theorem own_i2s_1_2 (l : Launch) (Z : State) (a0 : Array Value) (hw : ∀ d ∈ tables_1, d.before a0 Z = true) (cm : Com Z) (h0 : Heap) (n0 : Nat) (O : Old Z n0 h0) (b : Addr) (ta : Addr) (ka : ClassId) (da : Value) (x0 : Int32) (x1 : Int32) (x2 : Int32) (x3 : Int32) (x4 : Int32) (tb : Addr) (kb : ClassId) (db : Value) (y0 : Int32) (b2 : Bool) (b3 : Bool) (b4 : Bool) (EB : Exa Z h0 b "java/lang/String") (FBV : Fld Z h0 b "java/lang/String" "value" "[B" (.ref tb)) (FBC : Fld Z h0 b "java/lang/String" "coder" "B" (.int 0)) (AA : Arv Z h0 ta ka .byte (5 : Int32) [(.int x0), (.int x1), (.int x2), (.int x3), (.int x4)] da) (AB : Arv Z h0 tb kb .byte (1 : Int32) [(.int y0)] db) (e2 : b2 = decide (x2 = y0)) (e3 : b3 = decide (x3 = y0)) (e4 : b4 = decide (x4 = y0)) :
   Con l Z n0 (⟨"java/lang/String", "indexOf", "([BBILjava/lang/String;I)I"⟩ : MethodName) jdk_42_method_87_code 8 (some .int) [] ({ frames := 2, cells := 0, slots := 0, locals := 60 } : Room) #[(.ref ta), (.int 0), (.int 5), (.ref b), (.int 2)] h0 [] (fun v h' => v = some (.int (own_nx [(b2, 2), (b3, 3), (b4, 4)])) ∧ h' = h0) := by
  refine Con.of a0 (plainFor_of_name own_pn_7) O (fun _ q => nomatch q) [] (fun _ q => nomatch q) ?_
  intro p e s m below meth cdX T S hby hml hret hnm
  have H := fun {k r} q => @hb _ _ hby k r q
  have W := @Tw a0 Z hw
  refine Go.cast (own_ef_19 m ta (0 : Int32) (5 : Int32) b (2 : Int32)) ?_
  refine S.iload 2 (H di__0) rfl (S.i2l 3 (H di__2) ?_)
  show Go p e below _ T (mkF m 3 #[vr ta, vi 0, vi 5, vr b, vi 2, uN, uN, uN] [(.long ((2 : Int32).toInt64))])
  rw [show ((2 : Int32).toInt64) = (2 : Int64) from by decide]
  refine S.iconst 4 (0 : Int32) (H di__3) (S.iloadN 5 (H di__4) rfl (S.scall 8 (H di__5) hml.symm (W 111 rfl) (W 112 rfl) (W 113 rfl) (W 114 rfl) (by decide) [(.long (2 : Int64)), (.int 0), (.int 5)] [] (Con.pay (W := 0) (own_cl_2 l Z a0 hw h0 n0 S.old) (W 114 rfl) (W 113 rfl) (by decide) (by decide)) (lenOf own_pd_20 rfl) rfl (Nle rfl) (by decide) (by decide) Wrs.nil ?_))
  intro v455 T456 h457 L458 S459 q460 K461
  obtain ⟨rfl, e_q460⟩ := q460
  obtain rfl := e_q460.symm
  show Go p e below _ T456 (mkF m 8 #[vr ta, vi 0, vi 5, vr b, vi 2, uN, uN, uN] [(.int 2)])
  refine S459.istore 10 #[vr ta, vi 0, vi 5, vr b, vi 2, uN, uN, uN] (H di__8) rfl (S459.aloadN 11 (H di__10) rfl rfl (S459.vcall 14 (H di__11) hml.symm (W 107 rfl) (W 94 rfl) (W 96 rfl) (W 95 rfl) (nfSel (W 96 rfl)) (by decide) EB [] [] (Con.pay (W := 0) (own_len_1 l Z a0 hw cm h0 n0 S459.old b tb kb [(.int y0)] db EB FBV FBC AB) (W 97 rfl) (W 8 rfl) (by decide) (by decide)) (lenOf own_pd_21 rfl) rfl (Nle rfl) (by decide) (by decide) Wrs.nil ?_))
  intro v462 T463 h464 L465 S466 q467 K468
  obtain ⟨rfl, e_q467⟩ := q467
  obtain rfl := e_q467.symm
  show Go p e below _ T463 (mkF m 14 #[vr ta, vi 0, vi 5, vr b, vi 2, uN, uN, uN] [(.int 1)])
  refine S466.istore 16 #[vr ta, vi 0, vi 5, vr b, vi 2, vi 1, uN, uN] (H di__14) rfl (S466.iload 18 (H di__16) rfl (S466.iloadN 19 (H di__18) rfl (S466.iload 21 (H di__19) rfl (S466.isub 22 (H di__21) ?_))))
  rw [show (5 - 2 : Int32) = 3 from by decide]
  refine S466.icmpY 27 (H di__22) (qLeT (by decide)) (S466.iload 29 (H di__27) rfl (S466.ifY 35 (H di__29) (zNeT (by decide)) (S466.aloadN 36 (H di__35) rfl rfl (S466.getf (host := "") 39 (H di__36) (Or.inl (W 33 rfl)) Via.refl FBV ?_))))
  intro T469 S470
  refine S470.astore 41 #[vr ta, vi 0, vi 5, vr b, vi 2, vi 1, vr tb, uN] (H di__39) rfl rfl ?_
  refine S470.aloadN 42 (H di__41) rfl rfl (S470.vcall 45 (H di__42) hml.symm (W 52 rfl) (W 53 rfl) (W 55 rfl) (W 54 rfl) (nfSel (W 55 rfl)) (by decide) EB [] [] (Con.pay (W := 0) (own_coder l Z a0 hw cm h0 n0 S470.old b FBC) (W 56 rfl) (W 8 rfl) (by decide) (by decide)) (lenOf own_pd_8 rfl) rfl (Nle rfl) (by decide) (by decide) Wrs.nil ?_)
  intro v471 T472 h473 L474 S475 q476 K477
  obtain ⟨rfl, e_q476⟩ := q476
  obtain rfl := e_q476.symm
  show Go p e below _ T472 (mkF m 45 #[vr ta, vi 0, vi 5, vr b, vi 2, vi 1, vr tb, uN] [(.int 0)])
  refine S475.istore 47 #[vr ta, vi 0, vi 5, vr b, vi 2, vi 1, vr tb, vi 0] (H di__45) rfl (S475.iloadN 48 (H di__47) rfl (S475.iload 50 (H di__48) rfl (S475.icmpN 53 (H di__50) (qNeF (by decide)) (S475.iloadN 54 (H di__53) rfl (S475.ifN 57 (H di__54) (zNeF (by decide)) (S475.aloadN 58 (H di__57) rfl rfl ?_))))))
  refine S475.iloadN 59 (H di__58) rfl (S475.aload 61 (H di__59) rfl rfl (S475.iload 63 (H di__61) rfl (S475.iload 65 (H di__63) rfl (S475.scall 68 (H di__65) hml.symm (W 121 rfl) (W 67 rfl) (W 64 rfl) (W 68 rfl) (by decide) [(.ref ta), (.int 5), (.ref tb), (.int 1), (.int 2)] [] (Con.pay (W := 0) (own_io_1_2 l Z a0 hw h0 n0 S475.old ta ka da x0 x1 x2 x3 x4 tb kb db y0 b2 b3 b4 AA AB e2 e3 e4) (W 68 rfl) (W 64 rfl) (by decide) (by decide)) (lenOf own_pd_10 rfl) rfl (Nle rfl) (by decide) (by decide) Wrs.nil ?_))))
  intro v478 T479 h480 L481 S482 q483 K484
  obtain ⟨rfl, e_q483⟩ := q483
  obtain rfl := e_q483.symm
  show Go p e below _ T479 (mkF m 68 #[vr ta, vi 0, vi 5, vr b, vi 2, vi 1, vr tb, vi 0] [(.int (own_nx [(b2, 2), (b3, 3), (b4, 4)]))])
  refine S482.goto 82 (H di__68) ?_
  exact S482.retI (H di__82) hret (by decide) (by decide) ⟨rfl, rfl⟩


set_option maxRecDepth 65536 in
set_option maxHeartbeats 4000000 in
theorem own_i2_1_2 (l : Launch) (Z : State) (a0 : Array Value) (hw : ∀ d ∈ tables_1, d.before a0 Z = true) (cm : Com Z) (h0 : Heap) (n0 : Nat) (O : Old Z n0 h0) (a : Addr) (b : Addr) (ta : Addr) (ka : ClassId) (da : Value) (x0 : Int32) (x1 : Int32) (x2 : Int32) (x3 : Int32) (x4 : Int32) (tb : Addr) (kb : ClassId) (db : Value) (y0 : Int32) (b2 : Bool) (b3 : Bool) (b4 : Bool) (EA : Exa Z h0 a "java/lang/String") (FAV : Fld Z h0 a "java/lang/String" "value" "[B" (.ref ta)) (FAC : Fld Z h0 a "java/lang/String" "coder" "B" (.int 0)) (EB : Exa Z h0 b "java/lang/String") (FBV : Fld Z h0 b "java/lang/String" "value" "[B" (.ref tb)) (FBC : Fld Z h0 b "java/lang/String" "coder" "B" (.int 0)) (AA : Arv Z h0 ta ka .byte (5 : Int32) [(.int x0), (.int x1), (.int x2), (.int x3), (.int x4)] da) (AB : Arv Z h0 tb kb .byte (1 : Int32) [(.int y0)] db) (e2 : b2 = decide (x2 = y0)) (e3 : b3 = decide (x3 = y0)) (e4 : b4 = decide (x4 = y0)) :
   Con l Z n0 (⟨"java/lang/String", "indexOf", "(Ljava/lang/String;I)I"⟩ : MethodName) jdk_42_method_85_code 3 (some .int) [] ({ frames := 3, cells := 0, slots := 0, locals := 90 } : Room) #[(.ref a), (.ref b), (.int 2)] h0 [] (fun v h' => v = some (.int (own_nx [(b2, 2), (b3, 3), (b4, 4)])) ∧ h' = h0) := by
  refine Con.of a0 (plainFor_of_name own_pn_7) O (fun _ q => nomatch q) [] (fun _ q => nomatch q) ?_
  intro p e s m below meth cdX T S hby hml hret hnm
  have H := fun {k r} q => @hb _ _ hby k r q
  have W := @Tw a0 Z hw
  refine Go.cast (own_ef_3 m a b (2 : Int32)) ?_
  refine S.aloadN 1 (H dh__0) rfl rfl (S.getf (host := "") 4 (H dh__1) (Or.inl (W 33 rfl)) Via.refl FAV ?_)
  intro T485 S486
  refine S486.aloadN 5 (H dh__4) rfl rfl (S486.vcall 8 (H dh__5) hml.symm (W 52 rfl) (W 53 rfl) (W 55 rfl) (W 54 rfl) (nfSel (W 55 rfl)) (by decide) EA [] [(.ref ta)] (Con.pay (W := 1) (own_coder l Z a0 hw cm h0 n0 S486.old a FAC) (W 56 rfl) (W 8 rfl) (by decide) (by decide)) (lenOf own_pd_8 rfl) rfl (Nle rfl) (by decide) (by decide) Wrs.nil ?_)
  intro v487 T488 h489 L490 S491 q492 K493
  obtain ⟨rfl, e_q492⟩ := q492
  obtain rfl := e_q492.symm
  show Go p e below _ T488 (mkF m 8 #[vr a, vr b, vi 2] [(.int 0), (.ref ta)])
  refine S491.aloadN 9 (H dh__8) rfl rfl (S491.vcall 12 (H dh__9) hml.symm (W 107 rfl) (W 94 rfl) (W 96 rfl) (W 95 rfl) (nfSel (W 96 rfl)) (by decide) EA [] [(.int 0), (.ref ta)] (Con.pay (W := 2) (own_len_5 l Z a0 hw cm h0 n0 S491.old a ta ka [(.int x0), (.int x1), (.int x2), (.int x3), (.int x4)] da EA FAV FAC AA) (W 97 rfl) (W 8 rfl) (by decide) (by decide)) (lenOf own_pd_21 rfl) rfl (Nle rfl) (by decide) (by decide) Wrs.nil ?_)
  intro v494 T495 h496 L497 S498 q499 K500
  obtain ⟨rfl, e_q499⟩ := q499
  obtain rfl := e_q499.symm
  show Go p e below _ T495 (mkF m 12 #[vr a, vr b, vi 2] [(.int 5), (.int 0), (.ref ta)])
  refine S498.aloadN 13 (H dh__12) rfl rfl (S498.iloadN 14 (H dh__13) rfl (S498.scall 17 (H dh__14) hml.symm (W 108 rfl) (W 109 rfl) (W 8 rfl) (W 110 rfl) (by decide) [(.ref ta), (.int 0), (.int 5), (.ref b), (.int 2)] [] (Con.pay (W := 0) (own_i2s_1_2 l Z a0 hw cm h0 n0 S498.old b ta ka da x0 x1 x2 x3 x4 tb kb db y0 b2 b3 b4 EB FBV FBC AA AB e2 e3 e4) (W 110 rfl) (W 8 rfl) (by decide) (by decide)) (lenOf own_pd_22 rfl) rfl (Nle rfl) (by decide) (by decide) Wrs.nil ?_))
  intro v501 T502 h503 L504 S505 q506 K507
  obtain ⟨rfl, e_q506⟩ := q506
  obtain rfl := e_q506.symm
  show Go p e below _ T502 (mkF m 17 #[vr a, vr b, vi 2] [(.int (own_nx [(b2, 2), (b3, 3), (b4, 4)]))])
  exact S505.retI (H dh__17) hret (by decide) (by decide) ⟨rfl, rfl⟩


set_option maxRecDepth 65536 in
set_option maxHeartbeats 4000000 in
theorem own_i2s_1_3 (l : Launch) (Z : State) (a0 : Array Value) (hw : ∀ d ∈ tables_1, d.before a0 Z = true) (cm : Com Z) (h0 : Heap) (n0 : Nat) (O : Old Z n0 h0) (b : Addr) (ta : Addr) (ka : ClassId) (da : Value) (x0 : Int32) (x1 : Int32) (x2 : Int32) (x3 : Int32) (x4 : Int32) (tb : Addr) (kb : ClassId) (db : Value) (y0 : Int32) (b3 : Bool) (b4 : Bool) (EB : Exa Z h0 b "java/lang/String") (FBV : Fld Z h0 b "java/lang/String" "value" "[B" (.ref tb)) (FBC : Fld Z h0 b "java/lang/String" "coder" "B" (.int 0)) (AA : Arv Z h0 ta ka .byte (5 : Int32) [(.int x0), (.int x1), (.int x2), (.int x3), (.int x4)] da) (AB : Arv Z h0 tb kb .byte (1 : Int32) [(.int y0)] db) (e3 : b3 = decide (x3 = y0)) (e4 : b4 = decide (x4 = y0)) :
   Con l Z n0 (⟨"java/lang/String", "indexOf", "([BBILjava/lang/String;I)I"⟩ : MethodName) jdk_42_method_87_code 8 (some .int) [] ({ frames := 2, cells := 0, slots := 0, locals := 60 } : Room) #[(.ref ta), (.int 0), (.int 5), (.ref b), (.int 3)] h0 [] (fun v h' => v = some (.int (own_nx [(b3, 3), (b4, 4)])) ∧ h' = h0) := by
  refine Con.of a0 (plainFor_of_name own_pn_7) O (fun _ q => nomatch q) [] (fun _ q => nomatch q) ?_
  intro p e s m below meth cdX T S hby hml hret hnm
  have H := fun {k r} q => @hb _ _ hby k r q
  have W := @Tw a0 Z hw
  refine Go.cast (own_ef_19 m ta (0 : Int32) (5 : Int32) b (3 : Int32)) ?_
  refine S.iload 2 (H di__0) rfl (S.i2l 3 (H di__2) ?_)
  show Go p e below _ T (mkF m 3 #[vr ta, vi 0, vi 5, vr b, vi 3, uN, uN, uN] [(.long ((3 : Int32).toInt64))])
  rw [show ((3 : Int32).toInt64) = (3 : Int64) from by decide]
  refine S.iconst 4 (0 : Int32) (H di__3) (S.iloadN 5 (H di__4) rfl (S.scall 8 (H di__5) hml.symm (W 111 rfl) (W 112 rfl) (W 113 rfl) (W 114 rfl) (by decide) [(.long (3 : Int64)), (.int 0), (.int 5)] [] (Con.pay (W := 0) (own_cl_3 l Z a0 hw h0 n0 S.old) (W 114 rfl) (W 113 rfl) (by decide) (by decide)) (lenOf own_pd_20 rfl) rfl (Nle rfl) (by decide) (by decide) Wrs.nil ?_))
  intro v508 T509 h510 L511 S512 q513 K514
  obtain ⟨rfl, e_q513⟩ := q513
  obtain rfl := e_q513.symm
  show Go p e below _ T509 (mkF m 8 #[vr ta, vi 0, vi 5, vr b, vi 3, uN, uN, uN] [(.int 3)])
  refine S512.istore 10 #[vr ta, vi 0, vi 5, vr b, vi 3, uN, uN, uN] (H di__8) rfl (S512.aloadN 11 (H di__10) rfl rfl (S512.vcall 14 (H di__11) hml.symm (W 107 rfl) (W 94 rfl) (W 96 rfl) (W 95 rfl) (nfSel (W 96 rfl)) (by decide) EB [] [] (Con.pay (W := 0) (own_len_1 l Z a0 hw cm h0 n0 S512.old b tb kb [(.int y0)] db EB FBV FBC AB) (W 97 rfl) (W 8 rfl) (by decide) (by decide)) (lenOf own_pd_21 rfl) rfl (Nle rfl) (by decide) (by decide) Wrs.nil ?_))
  intro v515 T516 h517 L518 S519 q520 K521
  obtain ⟨rfl, e_q520⟩ := q520
  obtain rfl := e_q520.symm
  show Go p e below _ T516 (mkF m 14 #[vr ta, vi 0, vi 5, vr b, vi 3, uN, uN, uN] [(.int 1)])
  refine S519.istore 16 #[vr ta, vi 0, vi 5, vr b, vi 3, vi 1, uN, uN] (H di__14) rfl (S519.iload 18 (H di__16) rfl (S519.iloadN 19 (H di__18) rfl (S519.iload 21 (H di__19) rfl (S519.isub 22 (H di__21) ?_))))
  rw [show (5 - 3 : Int32) = 2 from by decide]
  refine S519.icmpY 27 (H di__22) (qLeT (by decide)) (S519.iload 29 (H di__27) rfl (S519.ifY 35 (H di__29) (zNeT (by decide)) (S519.aloadN 36 (H di__35) rfl rfl (S519.getf (host := "") 39 (H di__36) (Or.inl (W 33 rfl)) Via.refl FBV ?_))))
  intro T522 S523
  refine S523.astore 41 #[vr ta, vi 0, vi 5, vr b, vi 3, vi 1, vr tb, uN] (H di__39) rfl rfl ?_
  refine S523.aloadN 42 (H di__41) rfl rfl (S523.vcall 45 (H di__42) hml.symm (W 52 rfl) (W 53 rfl) (W 55 rfl) (W 54 rfl) (nfSel (W 55 rfl)) (by decide) EB [] [] (Con.pay (W := 0) (own_coder l Z a0 hw cm h0 n0 S523.old b FBC) (W 56 rfl) (W 8 rfl) (by decide) (by decide)) (lenOf own_pd_8 rfl) rfl (Nle rfl) (by decide) (by decide) Wrs.nil ?_)
  intro v524 T525 h526 L527 S528 q529 K530
  obtain ⟨rfl, e_q529⟩ := q529
  obtain rfl := e_q529.symm
  show Go p e below _ T525 (mkF m 45 #[vr ta, vi 0, vi 5, vr b, vi 3, vi 1, vr tb, uN] [(.int 0)])
  refine S528.istore 47 #[vr ta, vi 0, vi 5, vr b, vi 3, vi 1, vr tb, vi 0] (H di__45) rfl (S528.iloadN 48 (H di__47) rfl (S528.iload 50 (H di__48) rfl (S528.icmpN 53 (H di__50) (qNeF (by decide)) (S528.iloadN 54 (H di__53) rfl (S528.ifN 57 (H di__54) (zNeF (by decide)) (S528.aloadN 58 (H di__57) rfl rfl ?_))))))
  refine S528.iloadN 59 (H di__58) rfl (S528.aload 61 (H di__59) rfl rfl (S528.iload 63 (H di__61) rfl (S528.iload 65 (H di__63) rfl (S528.scall 68 (H di__65) hml.symm (W 121 rfl) (W 67 rfl) (W 64 rfl) (W 68 rfl) (by decide) [(.ref ta), (.int 5), (.ref tb), (.int 1), (.int 3)] [] (Con.pay (W := 0) (own_io_1_3 l Z a0 hw h0 n0 S528.old ta ka da x0 x1 x2 x3 x4 tb kb db y0 b3 b4 AA AB e3 e4) (W 68 rfl) (W 64 rfl) (by decide) (by decide)) (lenOf own_pd_10 rfl) rfl (Nle rfl) (by decide) (by decide) Wrs.nil ?_))))
  intro v531 T532 h533 L534 S535 q536 K537
  obtain ⟨rfl, e_q536⟩ := q536
  obtain rfl := e_q536.symm
  show Go p e below _ T532 (mkF m 68 #[vr ta, vi 0, vi 5, vr b, vi 3, vi 1, vr tb, vi 0] [(.int (own_nx [(b3, 3), (b4, 4)]))])
  refine S535.goto 82 (H di__68) ?_
  exact S535.retI (H di__82) hret (by decide) (by decide) ⟨rfl, rfl⟩


set_option maxRecDepth 65536 in
set_option maxHeartbeats 4000000 in
theorem own_i2_1_3 (l : Launch) (Z : State) (a0 : Array Value) (hw : ∀ d ∈ tables_1, d.before a0 Z = true) (cm : Com Z) (h0 : Heap) (n0 : Nat) (O : Old Z n0 h0) (a : Addr) (b : Addr) (ta : Addr) (ka : ClassId) (da : Value) (x0 : Int32) (x1 : Int32) (x2 : Int32) (x3 : Int32) (x4 : Int32) (tb : Addr) (kb : ClassId) (db : Value) (y0 : Int32) (b3 : Bool) (b4 : Bool) (EA : Exa Z h0 a "java/lang/String") (FAV : Fld Z h0 a "java/lang/String" "value" "[B" (.ref ta)) (FAC : Fld Z h0 a "java/lang/String" "coder" "B" (.int 0)) (EB : Exa Z h0 b "java/lang/String") (FBV : Fld Z h0 b "java/lang/String" "value" "[B" (.ref tb)) (FBC : Fld Z h0 b "java/lang/String" "coder" "B" (.int 0)) (AA : Arv Z h0 ta ka .byte (5 : Int32) [(.int x0), (.int x1), (.int x2), (.int x3), (.int x4)] da) (AB : Arv Z h0 tb kb .byte (1 : Int32) [(.int y0)] db) (e3 : b3 = decide (x3 = y0)) (e4 : b4 = decide (x4 = y0)) :
   Con l Z n0 (⟨"java/lang/String", "indexOf", "(Ljava/lang/String;I)I"⟩ : MethodName) jdk_42_method_85_code 3 (some .int) [] ({ frames := 3, cells := 0, slots := 0, locals := 90 } : Room) #[(.ref a), (.ref b), (.int 3)] h0 [] (fun v h' => v = some (.int (own_nx [(b3, 3), (b4, 4)])) ∧ h' = h0) := by
  refine Con.of a0 (plainFor_of_name own_pn_7) O (fun _ q => nomatch q) [] (fun _ q => nomatch q) ?_
  intro p e s m below meth cdX T S hby hml hret hnm
  have H := fun {k r} q => @hb _ _ hby k r q
  have W := @Tw a0 Z hw
  refine Go.cast (own_ef_3 m a b (3 : Int32)) ?_
  refine S.aloadN 1 (H dh__0) rfl rfl (S.getf (host := "") 4 (H dh__1) (Or.inl (W 33 rfl)) Via.refl FAV ?_)
  intro T538 S539
  refine S539.aloadN 5 (H dh__4) rfl rfl (S539.vcall 8 (H dh__5) hml.symm (W 52 rfl) (W 53 rfl) (W 55 rfl) (W 54 rfl) (nfSel (W 55 rfl)) (by decide) EA [] [(.ref ta)] (Con.pay (W := 1) (own_coder l Z a0 hw cm h0 n0 S539.old a FAC) (W 56 rfl) (W 8 rfl) (by decide) (by decide)) (lenOf own_pd_8 rfl) rfl (Nle rfl) (by decide) (by decide) Wrs.nil ?_)
  intro v540 T541 h542 L543 S544 q545 K546
  obtain ⟨rfl, e_q545⟩ := q545
  obtain rfl := e_q545.symm
  show Go p e below _ T541 (mkF m 8 #[vr a, vr b, vi 3] [(.int 0), (.ref ta)])
  refine S544.aloadN 9 (H dh__8) rfl rfl (S544.vcall 12 (H dh__9) hml.symm (W 107 rfl) (W 94 rfl) (W 96 rfl) (W 95 rfl) (nfSel (W 96 rfl)) (by decide) EA [] [(.int 0), (.ref ta)] (Con.pay (W := 2) (own_len_5 l Z a0 hw cm h0 n0 S544.old a ta ka [(.int x0), (.int x1), (.int x2), (.int x3), (.int x4)] da EA FAV FAC AA) (W 97 rfl) (W 8 rfl) (by decide) (by decide)) (lenOf own_pd_21 rfl) rfl (Nle rfl) (by decide) (by decide) Wrs.nil ?_)
  intro v547 T548 h549 L550 S551 q552 K553
  obtain ⟨rfl, e_q552⟩ := q552
  obtain rfl := e_q552.symm
  show Go p e below _ T548 (mkF m 12 #[vr a, vr b, vi 3] [(.int 5), (.int 0), (.ref ta)])
  refine S551.aloadN 13 (H dh__12) rfl rfl (S551.iloadN 14 (H dh__13) rfl (S551.scall 17 (H dh__14) hml.symm (W 108 rfl) (W 109 rfl) (W 8 rfl) (W 110 rfl) (by decide) [(.ref ta), (.int 0), (.int 5), (.ref b), (.int 3)] [] (Con.pay (W := 0) (own_i2s_1_3 l Z a0 hw cm h0 n0 S551.old b ta ka da x0 x1 x2 x3 x4 tb kb db y0 b3 b4 EB FBV FBC AA AB e3 e4) (W 110 rfl) (W 8 rfl) (by decide) (by decide)) (lenOf own_pd_22 rfl) rfl (Nle rfl) (by decide) (by decide) Wrs.nil ?_))
  intro v554 T555 h556 L557 S558 q559 K560
  obtain ⟨rfl, e_q559⟩ := q559
  obtain rfl := e_q559.symm
  show Go p e below _ T555 (mkF m 17 #[vr a, vr b, vi 3] [(.int (own_nx [(b3, 3), (b4, 4)]))])
  exact S558.retI (H dh__17) hret (by decide) (by decide) ⟨rfl, rfl⟩


set_option maxRecDepth 65536 in
set_option maxHeartbeats 4000000 in
theorem own_i2s_1_4 (l : Launch) (Z : State) (a0 : Array Value) (hw : ∀ d ∈ tables_1, d.before a0 Z = true) (cm : Com Z) (h0 : Heap) (n0 : Nat) (O : Old Z n0 h0) (b : Addr) (ta : Addr) (ka : ClassId) (da : Value) (x0 : Int32) (x1 : Int32) (x2 : Int32) (x3 : Int32) (x4 : Int32) (tb : Addr) (kb : ClassId) (db : Value) (y0 : Int32) (b4 : Bool) (EB : Exa Z h0 b "java/lang/String") (FBV : Fld Z h0 b "java/lang/String" "value" "[B" (.ref tb)) (FBC : Fld Z h0 b "java/lang/String" "coder" "B" (.int 0)) (AA : Arv Z h0 ta ka .byte (5 : Int32) [(.int x0), (.int x1), (.int x2), (.int x3), (.int x4)] da) (AB : Arv Z h0 tb kb .byte (1 : Int32) [(.int y0)] db) (e4 : b4 = decide (x4 = y0)) :
   Con l Z n0 (⟨"java/lang/String", "indexOf", "([BBILjava/lang/String;I)I"⟩ : MethodName) jdk_42_method_87_code 8 (some .int) [] ({ frames := 2, cells := 0, slots := 0, locals := 60 } : Room) #[(.ref ta), (.int 0), (.int 5), (.ref b), (.int 4)] h0 [] (fun v h' => v = some (.int (own_nx [(b4, 4)])) ∧ h' = h0) := by
  refine Con.of a0 (plainFor_of_name own_pn_7) O (fun _ q => nomatch q) [] (fun _ q => nomatch q) ?_
  intro p e s m below meth cdX T S hby hml hret hnm
  have H := fun {k r} q => @hb _ _ hby k r q
  have W := @Tw a0 Z hw
  refine Go.cast (own_ef_19 m ta (0 : Int32) (5 : Int32) b (4 : Int32)) ?_
  refine S.iload 2 (H di__0) rfl (S.i2l 3 (H di__2) ?_)
  show Go p e below _ T (mkF m 3 #[vr ta, vi 0, vi 5, vr b, vi 4, uN, uN, uN] [(.long ((4 : Int32).toInt64))])
  rw [show ((4 : Int32).toInt64) = (4 : Int64) from by decide]
  refine S.iconst 4 (0 : Int32) (H di__3) (S.iloadN 5 (H di__4) rfl (S.scall 8 (H di__5) hml.symm (W 111 rfl) (W 112 rfl) (W 113 rfl) (W 114 rfl) (by decide) [(.long (4 : Int64)), (.int 0), (.int 5)] [] (Con.pay (W := 0) (own_cl_4 l Z a0 hw h0 n0 S.old) (W 114 rfl) (W 113 rfl) (by decide) (by decide)) (lenOf own_pd_20 rfl) rfl (Nle rfl) (by decide) (by decide) Wrs.nil ?_))
  intro v561 T562 h563 L564 S565 q566 K567
  obtain ⟨rfl, e_q566⟩ := q566
  obtain rfl := e_q566.symm
  show Go p e below _ T562 (mkF m 8 #[vr ta, vi 0, vi 5, vr b, vi 4, uN, uN, uN] [(.int 4)])
  refine S565.istore 10 #[vr ta, vi 0, vi 5, vr b, vi 4, uN, uN, uN] (H di__8) rfl (S565.aloadN 11 (H di__10) rfl rfl (S565.vcall 14 (H di__11) hml.symm (W 107 rfl) (W 94 rfl) (W 96 rfl) (W 95 rfl) (nfSel (W 96 rfl)) (by decide) EB [] [] (Con.pay (W := 0) (own_len_1 l Z a0 hw cm h0 n0 S565.old b tb kb [(.int y0)] db EB FBV FBC AB) (W 97 rfl) (W 8 rfl) (by decide) (by decide)) (lenOf own_pd_21 rfl) rfl (Nle rfl) (by decide) (by decide) Wrs.nil ?_))
  intro v568 T569 h570 L571 S572 q573 K574
  obtain ⟨rfl, e_q573⟩ := q573
  obtain rfl := e_q573.symm
  show Go p e below _ T569 (mkF m 14 #[vr ta, vi 0, vi 5, vr b, vi 4, uN, uN, uN] [(.int 1)])
  refine S572.istore 16 #[vr ta, vi 0, vi 5, vr b, vi 4, vi 1, uN, uN] (H di__14) rfl (S572.iload 18 (H di__16) rfl (S572.iloadN 19 (H di__18) rfl (S572.iload 21 (H di__19) rfl (S572.isub 22 (H di__21) ?_))))
  rw [show (5 - 4 : Int32) = 1 from by decide]
  refine S572.icmpY 27 (H di__22) (qLeT (by decide)) (S572.iload 29 (H di__27) rfl (S572.ifY 35 (H di__29) (zNeT (by decide)) (S572.aloadN 36 (H di__35) rfl rfl (S572.getf (host := "") 39 (H di__36) (Or.inl (W 33 rfl)) Via.refl FBV ?_))))
  intro T575 S576
  refine S576.astore 41 #[vr ta, vi 0, vi 5, vr b, vi 4, vi 1, vr tb, uN] (H di__39) rfl rfl ?_
  refine S576.aloadN 42 (H di__41) rfl rfl (S576.vcall 45 (H di__42) hml.symm (W 52 rfl) (W 53 rfl) (W 55 rfl) (W 54 rfl) (nfSel (W 55 rfl)) (by decide) EB [] [] (Con.pay (W := 0) (own_coder l Z a0 hw cm h0 n0 S576.old b FBC) (W 56 rfl) (W 8 rfl) (by decide) (by decide)) (lenOf own_pd_8 rfl) rfl (Nle rfl) (by decide) (by decide) Wrs.nil ?_)
  intro v577 T578 h579 L580 S581 q582 K583
  obtain ⟨rfl, e_q582⟩ := q582
  obtain rfl := e_q582.symm
  show Go p e below _ T578 (mkF m 45 #[vr ta, vi 0, vi 5, vr b, vi 4, vi 1, vr tb, uN] [(.int 0)])
  refine S581.istore 47 #[vr ta, vi 0, vi 5, vr b, vi 4, vi 1, vr tb, vi 0] (H di__45) rfl (S581.iloadN 48 (H di__47) rfl (S581.iload 50 (H di__48) rfl (S581.icmpN 53 (H di__50) (qNeF (by decide)) (S581.iloadN 54 (H di__53) rfl (S581.ifN 57 (H di__54) (zNeF (by decide)) (S581.aloadN 58 (H di__57) rfl rfl ?_))))))
  refine S581.iloadN 59 (H di__58) rfl (S581.aload 61 (H di__59) rfl rfl (S581.iload 63 (H di__61) rfl (S581.iload 65 (H di__63) rfl (S581.scall 68 (H di__65) hml.symm (W 121 rfl) (W 67 rfl) (W 64 rfl) (W 68 rfl) (by decide) [(.ref ta), (.int 5), (.ref tb), (.int 1), (.int 4)] [] (Con.pay (W := 0) (own_io_1_4 l Z a0 hw h0 n0 S581.old ta ka da x0 x1 x2 x3 x4 tb kb db y0 b4 AA AB e4) (W 68 rfl) (W 64 rfl) (by decide) (by decide)) (lenOf own_pd_10 rfl) rfl (Nle rfl) (by decide) (by decide) Wrs.nil ?_))))
  intro v584 T585 h586 L587 S588 q589 K590
  obtain ⟨rfl, e_q589⟩ := q589
  obtain rfl := e_q589.symm
  show Go p e below _ T585 (mkF m 68 #[vr ta, vi 0, vi 5, vr b, vi 4, vi 1, vr tb, vi 0] [(.int (own_nx [(b4, 4)]))])
  refine S588.goto 82 (H di__68) ?_
  exact S588.retI (H di__82) hret (by decide) (by decide) ⟨rfl, rfl⟩


set_option maxRecDepth 65536 in
set_option maxHeartbeats 4000000 in
theorem own_i2_1_4 (l : Launch) (Z : State) (a0 : Array Value) (hw : ∀ d ∈ tables_1, d.before a0 Z = true) (cm : Com Z) (h0 : Heap) (n0 : Nat) (O : Old Z n0 h0) (a : Addr) (b : Addr) (ta : Addr) (ka : ClassId) (da : Value) (x0 : Int32) (x1 : Int32) (x2 : Int32) (x3 : Int32) (x4 : Int32) (tb : Addr) (kb : ClassId) (db : Value) (y0 : Int32) (b4 : Bool) (EA : Exa Z h0 a "java/lang/String") (FAV : Fld Z h0 a "java/lang/String" "value" "[B" (.ref ta)) (FAC : Fld Z h0 a "java/lang/String" "coder" "B" (.int 0)) (EB : Exa Z h0 b "java/lang/String") (FBV : Fld Z h0 b "java/lang/String" "value" "[B" (.ref tb)) (FBC : Fld Z h0 b "java/lang/String" "coder" "B" (.int 0)) (AA : Arv Z h0 ta ka .byte (5 : Int32) [(.int x0), (.int x1), (.int x2), (.int x3), (.int x4)] da) (AB : Arv Z h0 tb kb .byte (1 : Int32) [(.int y0)] db) (e4 : b4 = decide (x4 = y0)) :
   Con l Z n0 (⟨"java/lang/String", "indexOf", "(Ljava/lang/String;I)I"⟩ : MethodName) jdk_42_method_85_code 3 (some .int) [] ({ frames := 3, cells := 0, slots := 0, locals := 90 } : Room) #[(.ref a), (.ref b), (.int 4)] h0 [] (fun v h' => v = some (.int (own_nx [(b4, 4)])) ∧ h' = h0) := by
  refine Con.of a0 (plainFor_of_name own_pn_7) O (fun _ q => nomatch q) [] (fun _ q => nomatch q) ?_
  intro p e s m below meth cdX T S hby hml hret hnm
  have H := fun {k r} q => @hb _ _ hby k r q
  have W := @Tw a0 Z hw
  refine Go.cast (own_ef_3 m a b (4 : Int32)) ?_
  refine S.aloadN 1 (H dh__0) rfl rfl (S.getf (host := "") 4 (H dh__1) (Or.inl (W 33 rfl)) Via.refl FAV ?_)
  intro T591 S592
  refine S592.aloadN 5 (H dh__4) rfl rfl (S592.vcall 8 (H dh__5) hml.symm (W 52 rfl) (W 53 rfl) (W 55 rfl) (W 54 rfl) (nfSel (W 55 rfl)) (by decide) EA [] [(.ref ta)] (Con.pay (W := 1) (own_coder l Z a0 hw cm h0 n0 S592.old a FAC) (W 56 rfl) (W 8 rfl) (by decide) (by decide)) (lenOf own_pd_8 rfl) rfl (Nle rfl) (by decide) (by decide) Wrs.nil ?_)
  intro v593 T594 h595 L596 S597 q598 K599
  obtain ⟨rfl, e_q598⟩ := q598
  obtain rfl := e_q598.symm
  show Go p e below _ T594 (mkF m 8 #[vr a, vr b, vi 4] [(.int 0), (.ref ta)])
  refine S597.aloadN 9 (H dh__8) rfl rfl (S597.vcall 12 (H dh__9) hml.symm (W 107 rfl) (W 94 rfl) (W 96 rfl) (W 95 rfl) (nfSel (W 96 rfl)) (by decide) EA [] [(.int 0), (.ref ta)] (Con.pay (W := 2) (own_len_5 l Z a0 hw cm h0 n0 S597.old a ta ka [(.int x0), (.int x1), (.int x2), (.int x3), (.int x4)] da EA FAV FAC AA) (W 97 rfl) (W 8 rfl) (by decide) (by decide)) (lenOf own_pd_21 rfl) rfl (Nle rfl) (by decide) (by decide) Wrs.nil ?_)
  intro v600 T601 h602 L603 S604 q605 K606
  obtain ⟨rfl, e_q605⟩ := q605
  obtain rfl := e_q605.symm
  show Go p e below _ T601 (mkF m 12 #[vr a, vr b, vi 4] [(.int 5), (.int 0), (.ref ta)])
  refine S604.aloadN 13 (H dh__12) rfl rfl (S604.iloadN 14 (H dh__13) rfl (S604.scall 17 (H dh__14) hml.symm (W 108 rfl) (W 109 rfl) (W 8 rfl) (W 110 rfl) (by decide) [(.ref ta), (.int 0), (.int 5), (.ref b), (.int 4)] [] (Con.pay (W := 0) (own_i2s_1_4 l Z a0 hw cm h0 n0 S604.old b ta ka da x0 x1 x2 x3 x4 tb kb db y0 b4 EB FBV FBC AA AB e4) (W 110 rfl) (W 8 rfl) (by decide) (by decide)) (lenOf own_pd_22 rfl) rfl (Nle rfl) (by decide) (by decide) Wrs.nil ?_))
  intro v607 T608 h609 L610 S611 q612 K613
  obtain ⟨rfl, e_q612⟩ := q612
  obtain rfl := e_q612.symm
  show Go p e below _ T608 (mkF m 17 #[vr a, vr b, vi 4] [(.int (own_nx [(b4, 4)]))])
  exact S611.retI (H dh__17) hret (by decide) (by decide) ⟨rfl, rfl⟩

theorem di__25 : decode jdk_42_method_87_code 25 = .ok (.iconst (-1), 1) := by decide +kernel
theorem di__26 : decode jdk_42_method_87_code 26 = .ok (.ireturn, 1) := by decide +kernel
set_option maxRecDepth 65536 in
set_option maxHeartbeats 4000000 in
theorem own_i2s_1_5 (l : Launch) (Z : State) (a0 : Array Value) (hw : ∀ d ∈ tables_1, d.before a0 Z = true) (cm : Com Z) (h0 : Heap) (n0 : Nat) (O : Old Z n0 h0) (b : Addr) (ta : Addr) (ka : ClassId) (da : Value) (x0 : Int32) (x1 : Int32) (x2 : Int32) (x3 : Int32) (x4 : Int32) (tb : Addr) (kb : ClassId) (db : Value) (y0 : Int32) (EB : Exa Z h0 b "java/lang/String") (FBV : Fld Z h0 b "java/lang/String" "value" "[B" (.ref tb)) (FBC : Fld Z h0 b "java/lang/String" "coder" "B" (.int 0)) (AA : Arv Z h0 ta ka .byte (5 : Int32) [(.int x0), (.int x1), (.int x2), (.int x3), (.int x4)] da) (AB : Arv Z h0 tb kb .byte (1 : Int32) [(.int y0)] db) :
   Con l Z n0 (⟨"java/lang/String", "indexOf", "([BBILjava/lang/String;I)I"⟩ : MethodName) jdk_42_method_87_code 8 (some .int) [] ({ frames := 2, cells := 0, slots := 0, locals := 60 } : Room) #[(.ref ta), (.int 0), (.int 5), (.ref b), (.int 5)] h0 [] (fun v h' => v = some (.int (own_nx [])) ∧ h' = h0) := by
  refine Con.of a0 (plainFor_of_name own_pn_7) O (fun _ q => nomatch q) [] (fun _ q => nomatch q) ?_
  intro p e s m below meth cdX T S hby hml hret hnm
  have H := fun {k r} q => @hb _ _ hby k r q
  have W := @Tw a0 Z hw
  refine Go.cast (own_ef_19 m ta (0 : Int32) (5 : Int32) b (5 : Int32)) ?_
  refine S.iload 2 (H di__0) rfl (S.i2l 3 (H di__2) ?_)
  show Go p e below _ T (mkF m 3 #[vr ta, vi 0, vi 5, vr b, vi 5, uN, uN, uN] [(.long ((5 : Int32).toInt64))])
  rw [show ((5 : Int32).toInt64) = (5 : Int64) from by decide]
  refine S.iconst 4 (0 : Int32) (H di__3) (S.iloadN 5 (H di__4) rfl (S.scall 8 (H di__5) hml.symm (W 111 rfl) (W 112 rfl) (W 113 rfl) (W 114 rfl) (by decide) [(.long (5 : Int64)), (.int 0), (.int 5)] [] (Con.pay (W := 0) (own_cl_5 l Z a0 hw h0 n0 S.old) (W 114 rfl) (W 113 rfl) (by decide) (by decide)) (lenOf own_pd_20 rfl) rfl (Nle rfl) (by decide) (by decide) Wrs.nil ?_))
  intro v614 T615 h616 L617 S618 q619 K620
  obtain ⟨rfl, e_q619⟩ := q619
  obtain rfl := e_q619.symm
  show Go p e below _ T615 (mkF m 8 #[vr ta, vi 0, vi 5, vr b, vi 5, uN, uN, uN] [(.int 5)])
  refine S618.istore 10 #[vr ta, vi 0, vi 5, vr b, vi 5, uN, uN, uN] (H di__8) rfl (S618.aloadN 11 (H di__10) rfl rfl (S618.vcall 14 (H di__11) hml.symm (W 107 rfl) (W 94 rfl) (W 96 rfl) (W 95 rfl) (nfSel (W 96 rfl)) (by decide) EB [] [] (Con.pay (W := 0) (own_len_1 l Z a0 hw cm h0 n0 S618.old b tb kb [(.int y0)] db EB FBV FBC AB) (W 97 rfl) (W 8 rfl) (by decide) (by decide)) (lenOf own_pd_21 rfl) rfl (Nle rfl) (by decide) (by decide) Wrs.nil ?_))
  intro v621 T622 h623 L624 S625 q626 K627
  obtain ⟨rfl, e_q626⟩ := q626
  obtain rfl := e_q626.symm
  show Go p e below _ T622 (mkF m 14 #[vr ta, vi 0, vi 5, vr b, vi 5, uN, uN, uN] [(.int 1)])
  refine S625.istore 16 #[vr ta, vi 0, vi 5, vr b, vi 5, vi 1, uN, uN] (H di__14) rfl (S625.iload 18 (H di__16) rfl (S625.iloadN 19 (H di__18) rfl (S625.iload 21 (H di__19) rfl (S625.isub 22 (H di__21) ?_))))
  rw [show (5 - 5 : Int32) = 0 from by decide]
  refine S625.icmpN 25 (H di__22) (qLeF (by decide)) (S625.iconst 26 (-1 : Int32) (H di__25) ?_)
  exact S625.retI (H di__26) hret (by decide) (by decide) ⟨rfl, rfl⟩


set_option maxRecDepth 65536 in
set_option maxHeartbeats 4000000 in
theorem own_i2_1_5 (l : Launch) (Z : State) (a0 : Array Value) (hw : ∀ d ∈ tables_1, d.before a0 Z = true) (cm : Com Z) (h0 : Heap) (n0 : Nat) (O : Old Z n0 h0) (a : Addr) (b : Addr) (ta : Addr) (ka : ClassId) (da : Value) (x0 : Int32) (x1 : Int32) (x2 : Int32) (x3 : Int32) (x4 : Int32) (tb : Addr) (kb : ClassId) (db : Value) (y0 : Int32) (EA : Exa Z h0 a "java/lang/String") (FAV : Fld Z h0 a "java/lang/String" "value" "[B" (.ref ta)) (FAC : Fld Z h0 a "java/lang/String" "coder" "B" (.int 0)) (EB : Exa Z h0 b "java/lang/String") (FBV : Fld Z h0 b "java/lang/String" "value" "[B" (.ref tb)) (FBC : Fld Z h0 b "java/lang/String" "coder" "B" (.int 0)) (AA : Arv Z h0 ta ka .byte (5 : Int32) [(.int x0), (.int x1), (.int x2), (.int x3), (.int x4)] da) (AB : Arv Z h0 tb kb .byte (1 : Int32) [(.int y0)] db) :
   Con l Z n0 (⟨"java/lang/String", "indexOf", "(Ljava/lang/String;I)I"⟩ : MethodName) jdk_42_method_85_code 3 (some .int) [] ({ frames := 3, cells := 0, slots := 0, locals := 90 } : Room) #[(.ref a), (.ref b), (.int 5)] h0 [] (fun v h' => v = some (.int (own_nx [])) ∧ h' = h0) := by
  refine Con.of a0 (plainFor_of_name own_pn_7) O (fun _ q => nomatch q) [] (fun _ q => nomatch q) ?_
  intro p e s m below meth cdX T S hby hml hret hnm
  have H := fun {k r} q => @hb _ _ hby k r q
  have W := @Tw a0 Z hw
  refine Go.cast (own_ef_3 m a b (5 : Int32)) ?_
  refine S.aloadN 1 (H dh__0) rfl rfl (S.getf (host := "") 4 (H dh__1) (Or.inl (W 33 rfl)) Via.refl FAV ?_)
  intro T628 S629
  refine S629.aloadN 5 (H dh__4) rfl rfl (S629.vcall 8 (H dh__5) hml.symm (W 52 rfl) (W 53 rfl) (W 55 rfl) (W 54 rfl) (nfSel (W 55 rfl)) (by decide) EA [] [(.ref ta)] (Con.pay (W := 1) (own_coder l Z a0 hw cm h0 n0 S629.old a FAC) (W 56 rfl) (W 8 rfl) (by decide) (by decide)) (lenOf own_pd_8 rfl) rfl (Nle rfl) (by decide) (by decide) Wrs.nil ?_)
  intro v630 T631 h632 L633 S634 q635 K636
  obtain ⟨rfl, e_q635⟩ := q635
  obtain rfl := e_q635.symm
  show Go p e below _ T631 (mkF m 8 #[vr a, vr b, vi 5] [(.int 0), (.ref ta)])
  refine S634.aloadN 9 (H dh__8) rfl rfl (S634.vcall 12 (H dh__9) hml.symm (W 107 rfl) (W 94 rfl) (W 96 rfl) (W 95 rfl) (nfSel (W 96 rfl)) (by decide) EA [] [(.int 0), (.ref ta)] (Con.pay (W := 2) (own_len_5 l Z a0 hw cm h0 n0 S634.old a ta ka [(.int x0), (.int x1), (.int x2), (.int x3), (.int x4)] da EA FAV FAC AA) (W 97 rfl) (W 8 rfl) (by decide) (by decide)) (lenOf own_pd_21 rfl) rfl (Nle rfl) (by decide) (by decide) Wrs.nil ?_)
  intro v637 T638 h639 L640 S641 q642 K643
  obtain ⟨rfl, e_q642⟩ := q642
  obtain rfl := e_q642.symm
  show Go p e below _ T638 (mkF m 12 #[vr a, vr b, vi 5] [(.int 5), (.int 0), (.ref ta)])
  refine S641.aloadN 13 (H dh__12) rfl rfl (S641.iloadN 14 (H dh__13) rfl (S641.scall 17 (H dh__14) hml.symm (W 108 rfl) (W 109 rfl) (W 8 rfl) (W 110 rfl) (by decide) [(.ref ta), (.int 0), (.int 5), (.ref b), (.int 5)] [] (Con.pay (W := 0) (own_i2s_1_5 l Z a0 hw cm h0 n0 S641.old b ta ka da x0 x1 x2 x3 x4 tb kb db y0 EB FBV FBC AA AB) (W 110 rfl) (W 8 rfl) (by decide) (by decide)) (lenOf own_pd_22 rfl) rfl (Nle rfl) (by decide) (by decide) Wrs.nil ?_))
  intro v644 T645 h646 L647 S648 q649 K650
  obtain ⟨rfl, e_q649⟩ := q649
  obtain rfl := e_q649.symm
  show Go p e below _ T645 (mkF m 17 #[vr a, vr b, vi 5] [(.int (own_nx []))])
  exact S648.retI (H dh__17) hret (by decide) (by decide) ⟨rfl, rfl⟩


set_option maxRecDepth 65536 in
set_option maxHeartbeats 4000000 in
theorem own_i2s_2_2 (l : Launch) (Z : State) (a0 : Array Value) (hw : ∀ d ∈ tables_1, d.before a0 Z = true) (cm : Com Z) (h0 : Heap) (n0 : Nat) (O : Old Z n0 h0) (b : Addr) (ta : Addr) (ka : ClassId) (da : Value) (x0 : Int32) (x1 : Int32) (x2 : Int32) (x3 : Int32) (x4 : Int32) (tb : Addr) (kb : ClassId) (db : Value) (y0 : Int32) (y1 : Int32) (b2 : Bool) (b3 : Bool) (EB : Exa Z h0 b "java/lang/String") (FBV : Fld Z h0 b "java/lang/String" "value" "[B" (.ref tb)) (FBC : Fld Z h0 b "java/lang/String" "coder" "B" (.int 0)) (AA : Arv Z h0 ta ka .byte (5 : Int32) [(.int x0), (.int x1), (.int x2), (.int x3), (.int x4)] da) (AB : Arv Z h0 tb kb .byte (2 : Int32) [(.int y0), (.int y1)] db) (e2 : b2 = (decide (x2 = y0) && decide (x3 = y1))) (e3 : b3 = (decide (x3 = y0) && decide (x4 = y1))) :
   Con l Z n0 (⟨"java/lang/String", "indexOf", "([BBILjava/lang/String;I)I"⟩ : MethodName) jdk_42_method_87_code 8 (some .int) [] ({ frames := 2, cells := 0, slots := 0, locals := 60 } : Room) #[(.ref ta), (.int 0), (.int 5), (.ref b), (.int 2)] h0 [] (fun v h' => v = some (.int (own_nx [(b2, 2), (b3, 3)])) ∧ h' = h0) := by
  refine Con.of a0 (plainFor_of_name own_pn_7) O (fun _ q => nomatch q) [] (fun _ q => nomatch q) ?_
  intro p e s m below meth cdX T S hby hml hret hnm
  have H := fun {k r} q => @hb _ _ hby k r q
  have W := @Tw a0 Z hw
  refine Go.cast (own_ef_19 m ta (0 : Int32) (5 : Int32) b (2 : Int32)) ?_
  refine S.iload 2 (H di__0) rfl (S.i2l 3 (H di__2) ?_)
  show Go p e below _ T (mkF m 3 #[vr ta, vi 0, vi 5, vr b, vi 2, uN, uN, uN] [(.long ((2 : Int32).toInt64))])
  rw [show ((2 : Int32).toInt64) = (2 : Int64) from by decide]
  refine S.iconst 4 (0 : Int32) (H di__3) (S.iloadN 5 (H di__4) rfl (S.scall 8 (H di__5) hml.symm (W 111 rfl) (W 112 rfl) (W 113 rfl) (W 114 rfl) (by decide) [(.long (2 : Int64)), (.int 0), (.int 5)] [] (Con.pay (W := 0) (own_cl_2 l Z a0 hw h0 n0 S.old) (W 114 rfl) (W 113 rfl) (by decide) (by decide)) (lenOf own_pd_20 rfl) rfl (Nle rfl) (by decide) (by decide) Wrs.nil ?_))
  intro v651 T652 h653 L654 S655 q656 K657
  obtain ⟨rfl, e_q656⟩ := q656
  obtain rfl := e_q656.symm
  show Go p e below _ T652 (mkF m 8 #[vr ta, vi 0, vi 5, vr b, vi 2, uN, uN, uN] [(.int 2)])
  refine S655.istore 10 #[vr ta, vi 0, vi 5, vr b, vi 2, uN, uN, uN] (H di__8) rfl (S655.aloadN 11 (H di__10) rfl rfl (S655.vcall 14 (H di__11) hml.symm (W 107 rfl) (W 94 rfl) (W 96 rfl) (W 95 rfl) (nfSel (W 96 rfl)) (by decide) EB [] [] (Con.pay (W := 0) (own_len_2 l Z a0 hw cm h0 n0 S655.old b tb kb [(.int y0), (.int y1)] db EB FBV FBC AB) (W 97 rfl) (W 8 rfl) (by decide) (by decide)) (lenOf own_pd_21 rfl) rfl (Nle rfl) (by decide) (by decide) Wrs.nil ?_))
  intro v658 T659 h660 L661 S662 q663 K664
  obtain ⟨rfl, e_q663⟩ := q663
  obtain rfl := e_q663.symm
  show Go p e below _ T659 (mkF m 14 #[vr ta, vi 0, vi 5, vr b, vi 2, uN, uN, uN] [(.int 2)])
  refine S662.istore 16 #[vr ta, vi 0, vi 5, vr b, vi 2, vi 2, uN, uN] (H di__14) rfl (S662.iload 18 (H di__16) rfl (S662.iloadN 19 (H di__18) rfl (S662.iload 21 (H di__19) rfl (S662.isub 22 (H di__21) ?_))))
  rw [show (5 - 2 : Int32) = 3 from by decide]
  refine S662.icmpY 27 (H di__22) (qLeT (by decide)) (S662.iload 29 (H di__27) rfl (S662.ifY 35 (H di__29) (zNeT (by decide)) (S662.aloadN 36 (H di__35) rfl rfl (S662.getf (host := "") 39 (H di__36) (Or.inl (W 33 rfl)) Via.refl FBV ?_))))
  intro T665 S666
  refine S666.astore 41 #[vr ta, vi 0, vi 5, vr b, vi 2, vi 2, vr tb, uN] (H di__39) rfl rfl ?_
  refine S666.aloadN 42 (H di__41) rfl rfl (S666.vcall 45 (H di__42) hml.symm (W 52 rfl) (W 53 rfl) (W 55 rfl) (W 54 rfl) (nfSel (W 55 rfl)) (by decide) EB [] [] (Con.pay (W := 0) (own_coder l Z a0 hw cm h0 n0 S666.old b FBC) (W 56 rfl) (W 8 rfl) (by decide) (by decide)) (lenOf own_pd_8 rfl) rfl (Nle rfl) (by decide) (by decide) Wrs.nil ?_)
  intro v667 T668 h669 L670 S671 q672 K673
  obtain ⟨rfl, e_q672⟩ := q672
  obtain rfl := e_q672.symm
  show Go p e below _ T668 (mkF m 45 #[vr ta, vi 0, vi 5, vr b, vi 2, vi 2, vr tb, uN] [(.int 0)])
  refine S671.istore 47 #[vr ta, vi 0, vi 5, vr b, vi 2, vi 2, vr tb, vi 0] (H di__45) rfl (S671.iloadN 48 (H di__47) rfl (S671.iload 50 (H di__48) rfl (S671.icmpN 53 (H di__50) (qNeF (by decide)) (S671.iloadN 54 (H di__53) rfl (S671.ifN 57 (H di__54) (zNeF (by decide)) (S671.aloadN 58 (H di__57) rfl rfl ?_))))))
  refine S671.iloadN 59 (H di__58) rfl (S671.aload 61 (H di__59) rfl rfl (S671.iload 63 (H di__61) rfl (S671.iload 65 (H di__63) rfl (S671.scall 68 (H di__65) hml.symm (W 121 rfl) (W 67 rfl) (W 64 rfl) (W 68 rfl) (by decide) [(.ref ta), (.int 5), (.ref tb), (.int 2), (.int 2)] [] (Con.pay (W := 0) (own_io_2_2 l Z a0 hw h0 n0 S671.old ta ka da x0 x1 x2 x3 x4 tb kb db y0 y1 b2 b3 AA AB e2 e3) (W 68 rfl) (W 64 rfl) (by decide) (by decide)) (lenOf own_pd_10 rfl) rfl (Nle rfl) (by decide) (by decide) Wrs.nil ?_))))
  intro v674 T675 h676 L677 S678 q679 K680
  obtain ⟨rfl, e_q679⟩ := q679
  obtain rfl := e_q679.symm
  show Go p e below _ T675 (mkF m 68 #[vr ta, vi 0, vi 5, vr b, vi 2, vi 2, vr tb, vi 0] [(.int (own_nx [(b2, 2), (b3, 3)]))])
  refine S678.goto 82 (H di__68) ?_
  exact S678.retI (H di__82) hret (by decide) (by decide) ⟨rfl, rfl⟩


set_option maxRecDepth 65536 in
set_option maxHeartbeats 4000000 in
theorem own_i2_2_2 (l : Launch) (Z : State) (a0 : Array Value) (hw : ∀ d ∈ tables_1, d.before a0 Z = true) (cm : Com Z) (h0 : Heap) (n0 : Nat) (O : Old Z n0 h0) (a : Addr) (b : Addr) (ta : Addr) (ka : ClassId) (da : Value) (x0 : Int32) (x1 : Int32) (x2 : Int32) (x3 : Int32) (x4 : Int32) (tb : Addr) (kb : ClassId) (db : Value) (y0 : Int32) (y1 : Int32) (b2 : Bool) (b3 : Bool) (EA : Exa Z h0 a "java/lang/String") (FAV : Fld Z h0 a "java/lang/String" "value" "[B" (.ref ta)) (FAC : Fld Z h0 a "java/lang/String" "coder" "B" (.int 0)) (EB : Exa Z h0 b "java/lang/String") (FBV : Fld Z h0 b "java/lang/String" "value" "[B" (.ref tb)) (FBC : Fld Z h0 b "java/lang/String" "coder" "B" (.int 0)) (AA : Arv Z h0 ta ka .byte (5 : Int32) [(.int x0), (.int x1), (.int x2), (.int x3), (.int x4)] da) (AB : Arv Z h0 tb kb .byte (2 : Int32) [(.int y0), (.int y1)] db) (e2 : b2 = (decide (x2 = y0) && decide (x3 = y1))) (e3 : b3 = (decide (x3 = y0) && decide (x4 = y1))) :
   Con l Z n0 (⟨"java/lang/String", "indexOf", "(Ljava/lang/String;I)I"⟩ : MethodName) jdk_42_method_85_code 3 (some .int) [] ({ frames := 3, cells := 0, slots := 0, locals := 90 } : Room) #[(.ref a), (.ref b), (.int 2)] h0 [] (fun v h' => v = some (.int (own_nx [(b2, 2), (b3, 3)])) ∧ h' = h0) := by
  refine Con.of a0 (plainFor_of_name own_pn_7) O (fun _ q => nomatch q) [] (fun _ q => nomatch q) ?_
  intro p e s m below meth cdX T S hby hml hret hnm
  have H := fun {k r} q => @hb _ _ hby k r q
  have W := @Tw a0 Z hw
  refine Go.cast (own_ef_3 m a b (2 : Int32)) ?_
  refine S.aloadN 1 (H dh__0) rfl rfl (S.getf (host := "") 4 (H dh__1) (Or.inl (W 33 rfl)) Via.refl FAV ?_)
  intro T681 S682
  refine S682.aloadN 5 (H dh__4) rfl rfl (S682.vcall 8 (H dh__5) hml.symm (W 52 rfl) (W 53 rfl) (W 55 rfl) (W 54 rfl) (nfSel (W 55 rfl)) (by decide) EA [] [(.ref ta)] (Con.pay (W := 1) (own_coder l Z a0 hw cm h0 n0 S682.old a FAC) (W 56 rfl) (W 8 rfl) (by decide) (by decide)) (lenOf own_pd_8 rfl) rfl (Nle rfl) (by decide) (by decide) Wrs.nil ?_)
  intro v683 T684 h685 L686 S687 q688 K689
  obtain ⟨rfl, e_q688⟩ := q688
  obtain rfl := e_q688.symm
  show Go p e below _ T684 (mkF m 8 #[vr a, vr b, vi 2] [(.int 0), (.ref ta)])
  refine S687.aloadN 9 (H dh__8) rfl rfl (S687.vcall 12 (H dh__9) hml.symm (W 107 rfl) (W 94 rfl) (W 96 rfl) (W 95 rfl) (nfSel (W 96 rfl)) (by decide) EA [] [(.int 0), (.ref ta)] (Con.pay (W := 2) (own_len_5 l Z a0 hw cm h0 n0 S687.old a ta ka [(.int x0), (.int x1), (.int x2), (.int x3), (.int x4)] da EA FAV FAC AA) (W 97 rfl) (W 8 rfl) (by decide) (by decide)) (lenOf own_pd_21 rfl) rfl (Nle rfl) (by decide) (by decide) Wrs.nil ?_)
  intro v690 T691 h692 L693 S694 q695 K696
  obtain ⟨rfl, e_q695⟩ := q695
  obtain rfl := e_q695.symm
  show Go p e below _ T691 (mkF m 12 #[vr a, vr b, vi 2] [(.int 5), (.int 0), (.ref ta)])
  refine S694.aloadN 13 (H dh__12) rfl rfl (S694.iloadN 14 (H dh__13) rfl (S694.scall 17 (H dh__14) hml.symm (W 108 rfl) (W 109 rfl) (W 8 rfl) (W 110 rfl) (by decide) [(.ref ta), (.int 0), (.int 5), (.ref b), (.int 2)] [] (Con.pay (W := 0) (own_i2s_2_2 l Z a0 hw cm h0 n0 S694.old b ta ka da x0 x1 x2 x3 x4 tb kb db y0 y1 b2 b3 EB FBV FBC AA AB e2 e3) (W 110 rfl) (W 8 rfl) (by decide) (by decide)) (lenOf own_pd_22 rfl) rfl (Nle rfl) (by decide) (by decide) Wrs.nil ?_))
  intro v697 T698 h699 L700 S701 q702 K703
  obtain ⟨rfl, e_q702⟩ := q702
  obtain rfl := e_q702.symm
  show Go p e below _ T698 (mkF m 17 #[vr a, vr b, vi 2] [(.int (own_nx [(b2, 2), (b3, 3)]))])
  exact S701.retI (H dh__17) hret (by decide) (by decide) ⟨rfl, rfl⟩


set_option maxRecDepth 65536 in
set_option maxHeartbeats 4000000 in
theorem own_i2s_2_3 (l : Launch) (Z : State) (a0 : Array Value) (hw : ∀ d ∈ tables_1, d.before a0 Z = true) (cm : Com Z) (h0 : Heap) (n0 : Nat) (O : Old Z n0 h0) (b : Addr) (ta : Addr) (ka : ClassId) (da : Value) (x0 : Int32) (x1 : Int32) (x2 : Int32) (x3 : Int32) (x4 : Int32) (tb : Addr) (kb : ClassId) (db : Value) (y0 : Int32) (y1 : Int32) (b3 : Bool) (EB : Exa Z h0 b "java/lang/String") (FBV : Fld Z h0 b "java/lang/String" "value" "[B" (.ref tb)) (FBC : Fld Z h0 b "java/lang/String" "coder" "B" (.int 0)) (AA : Arv Z h0 ta ka .byte (5 : Int32) [(.int x0), (.int x1), (.int x2), (.int x3), (.int x4)] da) (AB : Arv Z h0 tb kb .byte (2 : Int32) [(.int y0), (.int y1)] db) (e3 : b3 = (decide (x3 = y0) && decide (x4 = y1))) :
   Con l Z n0 (⟨"java/lang/String", "indexOf", "([BBILjava/lang/String;I)I"⟩ : MethodName) jdk_42_method_87_code 8 (some .int) [] ({ frames := 2, cells := 0, slots := 0, locals := 60 } : Room) #[(.ref ta), (.int 0), (.int 5), (.ref b), (.int 3)] h0 [] (fun v h' => v = some (.int (own_nx [(b3, 3)])) ∧ h' = h0) := by
  refine Con.of a0 (plainFor_of_name own_pn_7) O (fun _ q => nomatch q) [] (fun _ q => nomatch q) ?_
  intro p e s m below meth cdX T S hby hml hret hnm
  have H := fun {k r} q => @hb _ _ hby k r q
  have W := @Tw a0 Z hw
  refine Go.cast (own_ef_19 m ta (0 : Int32) (5 : Int32) b (3 : Int32)) ?_
  refine S.iload 2 (H di__0) rfl (S.i2l 3 (H di__2) ?_)
  show Go p e below _ T (mkF m 3 #[vr ta, vi 0, vi 5, vr b, vi 3, uN, uN, uN] [(.long ((3 : Int32).toInt64))])
  rw [show ((3 : Int32).toInt64) = (3 : Int64) from by decide]
  refine S.iconst 4 (0 : Int32) (H di__3) (S.iloadN 5 (H di__4) rfl (S.scall 8 (H di__5) hml.symm (W 111 rfl) (W 112 rfl) (W 113 rfl) (W 114 rfl) (by decide) [(.long (3 : Int64)), (.int 0), (.int 5)] [] (Con.pay (W := 0) (own_cl_3 l Z a0 hw h0 n0 S.old) (W 114 rfl) (W 113 rfl) (by decide) (by decide)) (lenOf own_pd_20 rfl) rfl (Nle rfl) (by decide) (by decide) Wrs.nil ?_))
  intro v704 T705 h706 L707 S708 q709 K710
  obtain ⟨rfl, e_q709⟩ := q709
  obtain rfl := e_q709.symm
  show Go p e below _ T705 (mkF m 8 #[vr ta, vi 0, vi 5, vr b, vi 3, uN, uN, uN] [(.int 3)])
  refine S708.istore 10 #[vr ta, vi 0, vi 5, vr b, vi 3, uN, uN, uN] (H di__8) rfl (S708.aloadN 11 (H di__10) rfl rfl (S708.vcall 14 (H di__11) hml.symm (W 107 rfl) (W 94 rfl) (W 96 rfl) (W 95 rfl) (nfSel (W 96 rfl)) (by decide) EB [] [] (Con.pay (W := 0) (own_len_2 l Z a0 hw cm h0 n0 S708.old b tb kb [(.int y0), (.int y1)] db EB FBV FBC AB) (W 97 rfl) (W 8 rfl) (by decide) (by decide)) (lenOf own_pd_21 rfl) rfl (Nle rfl) (by decide) (by decide) Wrs.nil ?_))
  intro v711 T712 h713 L714 S715 q716 K717
  obtain ⟨rfl, e_q716⟩ := q716
  obtain rfl := e_q716.symm
  show Go p e below _ T712 (mkF m 14 #[vr ta, vi 0, vi 5, vr b, vi 3, uN, uN, uN] [(.int 2)])
  refine S715.istore 16 #[vr ta, vi 0, vi 5, vr b, vi 3, vi 2, uN, uN] (H di__14) rfl (S715.iload 18 (H di__16) rfl (S715.iloadN 19 (H di__18) rfl (S715.iload 21 (H di__19) rfl (S715.isub 22 (H di__21) ?_))))
  rw [show (5 - 3 : Int32) = 2 from by decide]
  refine S715.icmpY 27 (H di__22) (qLeT (by decide)) (S715.iload 29 (H di__27) rfl (S715.ifY 35 (H di__29) (zNeT (by decide)) (S715.aloadN 36 (H di__35) rfl rfl (S715.getf (host := "") 39 (H di__36) (Or.inl (W 33 rfl)) Via.refl FBV ?_))))
  intro T718 S719
  refine S719.astore 41 #[vr ta, vi 0, vi 5, vr b, vi 3, vi 2, vr tb, uN] (H di__39) rfl rfl ?_
  refine S719.aloadN 42 (H di__41) rfl rfl (S719.vcall 45 (H di__42) hml.symm (W 52 rfl) (W 53 rfl) (W 55 rfl) (W 54 rfl) (nfSel (W 55 rfl)) (by decide) EB [] [] (Con.pay (W := 0) (own_coder l Z a0 hw cm h0 n0 S719.old b FBC) (W 56 rfl) (W 8 rfl) (by decide) (by decide)) (lenOf own_pd_8 rfl) rfl (Nle rfl) (by decide) (by decide) Wrs.nil ?_)
  intro v720 T721 h722 L723 S724 q725 K726
  obtain ⟨rfl, e_q725⟩ := q725
  obtain rfl := e_q725.symm
  show Go p e below _ T721 (mkF m 45 #[vr ta, vi 0, vi 5, vr b, vi 3, vi 2, vr tb, uN] [(.int 0)])
  refine S724.istore 47 #[vr ta, vi 0, vi 5, vr b, vi 3, vi 2, vr tb, vi 0] (H di__45) rfl (S724.iloadN 48 (H di__47) rfl (S724.iload 50 (H di__48) rfl (S724.icmpN 53 (H di__50) (qNeF (by decide)) (S724.iloadN 54 (H di__53) rfl (S724.ifN 57 (H di__54) (zNeF (by decide)) (S724.aloadN 58 (H di__57) rfl rfl ?_))))))
  refine S724.iloadN 59 (H di__58) rfl (S724.aload 61 (H di__59) rfl rfl (S724.iload 63 (H di__61) rfl (S724.iload 65 (H di__63) rfl (S724.scall 68 (H di__65) hml.symm (W 121 rfl) (W 67 rfl) (W 64 rfl) (W 68 rfl) (by decide) [(.ref ta), (.int 5), (.ref tb), (.int 2), (.int 3)] [] (Con.pay (W := 0) (own_io_2_3 l Z a0 hw h0 n0 S724.old ta ka da x0 x1 x2 x3 x4 tb kb db y0 y1 b3 AA AB e3) (W 68 rfl) (W 64 rfl) (by decide) (by decide)) (lenOf own_pd_10 rfl) rfl (Nle rfl) (by decide) (by decide) Wrs.nil ?_))))
  intro v727 T728 h729 L730 S731 q732 K733
  obtain ⟨rfl, e_q732⟩ := q732
  obtain rfl := e_q732.symm
  show Go p e below _ T728 (mkF m 68 #[vr ta, vi 0, vi 5, vr b, vi 3, vi 2, vr tb, vi 0] [(.int (own_nx [(b3, 3)]))])
  refine S731.goto 82 (H di__68) ?_
  exact S731.retI (H di__82) hret (by decide) (by decide) ⟨rfl, rfl⟩


set_option maxRecDepth 65536 in
set_option maxHeartbeats 4000000 in
theorem own_i2_2_3 (l : Launch) (Z : State) (a0 : Array Value) (hw : ∀ d ∈ tables_1, d.before a0 Z = true) (cm : Com Z) (h0 : Heap) (n0 : Nat) (O : Old Z n0 h0) (a : Addr) (b : Addr) (ta : Addr) (ka : ClassId) (da : Value) (x0 : Int32) (x1 : Int32) (x2 : Int32) (x3 : Int32) (x4 : Int32) (tb : Addr) (kb : ClassId) (db : Value) (y0 : Int32) (y1 : Int32) (b3 : Bool) (EA : Exa Z h0 a "java/lang/String") (FAV : Fld Z h0 a "java/lang/String" "value" "[B" (.ref ta)) (FAC : Fld Z h0 a "java/lang/String" "coder" "B" (.int 0)) (EB : Exa Z h0 b "java/lang/String") (FBV : Fld Z h0 b "java/lang/String" "value" "[B" (.ref tb)) (FBC : Fld Z h0 b "java/lang/String" "coder" "B" (.int 0)) (AA : Arv Z h0 ta ka .byte (5 : Int32) [(.int x0), (.int x1), (.int x2), (.int x3), (.int x4)] da) (AB : Arv Z h0 tb kb .byte (2 : Int32) [(.int y0), (.int y1)] db) (e3 : b3 = (decide (x3 = y0) && decide (x4 = y1))) :
   Con l Z n0 (⟨"java/lang/String", "indexOf", "(Ljava/lang/String;I)I"⟩ : MethodName) jdk_42_method_85_code 3 (some .int) [] ({ frames := 3, cells := 0, slots := 0, locals := 90 } : Room) #[(.ref a), (.ref b), (.int 3)] h0 [] (fun v h' => v = some (.int (own_nx [(b3, 3)])) ∧ h' = h0) := by
  refine Con.of a0 (plainFor_of_name own_pn_7) O (fun _ q => nomatch q) [] (fun _ q => nomatch q) ?_
  intro p e s m below meth cdX T S hby hml hret hnm
  have H := fun {k r} q => @hb _ _ hby k r q
  have W := @Tw a0 Z hw
  refine Go.cast (own_ef_3 m a b (3 : Int32)) ?_
  refine S.aloadN 1 (H dh__0) rfl rfl (S.getf (host := "") 4 (H dh__1) (Or.inl (W 33 rfl)) Via.refl FAV ?_)
  intro T734 S735
  refine S735.aloadN 5 (H dh__4) rfl rfl (S735.vcall 8 (H dh__5) hml.symm (W 52 rfl) (W 53 rfl) (W 55 rfl) (W 54 rfl) (nfSel (W 55 rfl)) (by decide) EA [] [(.ref ta)] (Con.pay (W := 1) (own_coder l Z a0 hw cm h0 n0 S735.old a FAC) (W 56 rfl) (W 8 rfl) (by decide) (by decide)) (lenOf own_pd_8 rfl) rfl (Nle rfl) (by decide) (by decide) Wrs.nil ?_)
  intro v736 T737 h738 L739 S740 q741 K742
  obtain ⟨rfl, e_q741⟩ := q741
  obtain rfl := e_q741.symm
  show Go p e below _ T737 (mkF m 8 #[vr a, vr b, vi 3] [(.int 0), (.ref ta)])
  refine S740.aloadN 9 (H dh__8) rfl rfl (S740.vcall 12 (H dh__9) hml.symm (W 107 rfl) (W 94 rfl) (W 96 rfl) (W 95 rfl) (nfSel (W 96 rfl)) (by decide) EA [] [(.int 0), (.ref ta)] (Con.pay (W := 2) (own_len_5 l Z a0 hw cm h0 n0 S740.old a ta ka [(.int x0), (.int x1), (.int x2), (.int x3), (.int x4)] da EA FAV FAC AA) (W 97 rfl) (W 8 rfl) (by decide) (by decide)) (lenOf own_pd_21 rfl) rfl (Nle rfl) (by decide) (by decide) Wrs.nil ?_)
  intro v743 T744 h745 L746 S747 q748 K749
  obtain ⟨rfl, e_q748⟩ := q748
  obtain rfl := e_q748.symm
  show Go p e below _ T744 (mkF m 12 #[vr a, vr b, vi 3] [(.int 5), (.int 0), (.ref ta)])
  refine S747.aloadN 13 (H dh__12) rfl rfl (S747.iloadN 14 (H dh__13) rfl (S747.scall 17 (H dh__14) hml.symm (W 108 rfl) (W 109 rfl) (W 8 rfl) (W 110 rfl) (by decide) [(.ref ta), (.int 0), (.int 5), (.ref b), (.int 3)] [] (Con.pay (W := 0) (own_i2s_2_3 l Z a0 hw cm h0 n0 S747.old b ta ka da x0 x1 x2 x3 x4 tb kb db y0 y1 b3 EB FBV FBC AA AB e3) (W 110 rfl) (W 8 rfl) (by decide) (by decide)) (lenOf own_pd_22 rfl) rfl (Nle rfl) (by decide) (by decide) Wrs.nil ?_))
  intro v750 T751 h752 L753 S754 q755 K756
  obtain ⟨rfl, e_q755⟩ := q755
  obtain rfl := e_q755.symm
  show Go p e below _ T751 (mkF m 17 #[vr a, vr b, vi 3] [(.int (own_nx [(b3, 3)]))])
  exact S754.retI (H dh__17) hret (by decide) (by decide) ⟨rfl, rfl⟩


set_option maxRecDepth 65536 in
set_option maxHeartbeats 4000000 in
theorem own_i2s_2_4 (l : Launch) (Z : State) (a0 : Array Value) (hw : ∀ d ∈ tables_1, d.before a0 Z = true) (cm : Com Z) (h0 : Heap) (n0 : Nat) (O : Old Z n0 h0) (b : Addr) (ta : Addr) (ka : ClassId) (da : Value) (x0 : Int32) (x1 : Int32) (x2 : Int32) (x3 : Int32) (x4 : Int32) (tb : Addr) (kb : ClassId) (db : Value) (y0 : Int32) (y1 : Int32) (EB : Exa Z h0 b "java/lang/String") (FBV : Fld Z h0 b "java/lang/String" "value" "[B" (.ref tb)) (FBC : Fld Z h0 b "java/lang/String" "coder" "B" (.int 0)) (AA : Arv Z h0 ta ka .byte (5 : Int32) [(.int x0), (.int x1), (.int x2), (.int x3), (.int x4)] da) (AB : Arv Z h0 tb kb .byte (2 : Int32) [(.int y0), (.int y1)] db) :
   Con l Z n0 (⟨"java/lang/String", "indexOf", "([BBILjava/lang/String;I)I"⟩ : MethodName) jdk_42_method_87_code 8 (some .int) [] ({ frames := 2, cells := 0, slots := 0, locals := 60 } : Room) #[(.ref ta), (.int 0), (.int 5), (.ref b), (.int 4)] h0 [] (fun v h' => v = some (.int (own_nx [])) ∧ h' = h0) := by
  refine Con.of a0 (plainFor_of_name own_pn_7) O (fun _ q => nomatch q) [] (fun _ q => nomatch q) ?_
  intro p e s m below meth cdX T S hby hml hret hnm
  have H := fun {k r} q => @hb _ _ hby k r q
  have W := @Tw a0 Z hw
  refine Go.cast (own_ef_19 m ta (0 : Int32) (5 : Int32) b (4 : Int32)) ?_
  refine S.iload 2 (H di__0) rfl (S.i2l 3 (H di__2) ?_)
  show Go p e below _ T (mkF m 3 #[vr ta, vi 0, vi 5, vr b, vi 4, uN, uN, uN] [(.long ((4 : Int32).toInt64))])
  rw [show ((4 : Int32).toInt64) = (4 : Int64) from by decide]
  refine S.iconst 4 (0 : Int32) (H di__3) (S.iloadN 5 (H di__4) rfl (S.scall 8 (H di__5) hml.symm (W 111 rfl) (W 112 rfl) (W 113 rfl) (W 114 rfl) (by decide) [(.long (4 : Int64)), (.int 0), (.int 5)] [] (Con.pay (W := 0) (own_cl_4 l Z a0 hw h0 n0 S.old) (W 114 rfl) (W 113 rfl) (by decide) (by decide)) (lenOf own_pd_20 rfl) rfl (Nle rfl) (by decide) (by decide) Wrs.nil ?_))
  intro v757 T758 h759 L760 S761 q762 K763
  obtain ⟨rfl, e_q762⟩ := q762
  obtain rfl := e_q762.symm
  show Go p e below _ T758 (mkF m 8 #[vr ta, vi 0, vi 5, vr b, vi 4, uN, uN, uN] [(.int 4)])
  refine S761.istore 10 #[vr ta, vi 0, vi 5, vr b, vi 4, uN, uN, uN] (H di__8) rfl (S761.aloadN 11 (H di__10) rfl rfl (S761.vcall 14 (H di__11) hml.symm (W 107 rfl) (W 94 rfl) (W 96 rfl) (W 95 rfl) (nfSel (W 96 rfl)) (by decide) EB [] [] (Con.pay (W := 0) (own_len_2 l Z a0 hw cm h0 n0 S761.old b tb kb [(.int y0), (.int y1)] db EB FBV FBC AB) (W 97 rfl) (W 8 rfl) (by decide) (by decide)) (lenOf own_pd_21 rfl) rfl (Nle rfl) (by decide) (by decide) Wrs.nil ?_))
  intro v764 T765 h766 L767 S768 q769 K770
  obtain ⟨rfl, e_q769⟩ := q769
  obtain rfl := e_q769.symm
  show Go p e below _ T765 (mkF m 14 #[vr ta, vi 0, vi 5, vr b, vi 4, uN, uN, uN] [(.int 2)])
  refine S768.istore 16 #[vr ta, vi 0, vi 5, vr b, vi 4, vi 2, uN, uN] (H di__14) rfl (S768.iload 18 (H di__16) rfl (S768.iloadN 19 (H di__18) rfl (S768.iload 21 (H di__19) rfl (S768.isub 22 (H di__21) ?_))))
  rw [show (5 - 4 : Int32) = 1 from by decide]
  refine S768.icmpN 25 (H di__22) (qLeF (by decide)) (S768.iconst 26 (-1 : Int32) (H di__25) ?_)
  exact S768.retI (H di__26) hret (by decide) (by decide) ⟨rfl, rfl⟩


set_option maxRecDepth 65536 in
set_option maxHeartbeats 4000000 in
theorem own_i2_2_4 (l : Launch) (Z : State) (a0 : Array Value) (hw : ∀ d ∈ tables_1, d.before a0 Z = true) (cm : Com Z) (h0 : Heap) (n0 : Nat) (O : Old Z n0 h0) (a : Addr) (b : Addr) (ta : Addr) (ka : ClassId) (da : Value) (x0 : Int32) (x1 : Int32) (x2 : Int32) (x3 : Int32) (x4 : Int32) (tb : Addr) (kb : ClassId) (db : Value) (y0 : Int32) (y1 : Int32) (EA : Exa Z h0 a "java/lang/String") (FAV : Fld Z h0 a "java/lang/String" "value" "[B" (.ref ta)) (FAC : Fld Z h0 a "java/lang/String" "coder" "B" (.int 0)) (EB : Exa Z h0 b "java/lang/String") (FBV : Fld Z h0 b "java/lang/String" "value" "[B" (.ref tb)) (FBC : Fld Z h0 b "java/lang/String" "coder" "B" (.int 0)) (AA : Arv Z h0 ta ka .byte (5 : Int32) [(.int x0), (.int x1), (.int x2), (.int x3), (.int x4)] da) (AB : Arv Z h0 tb kb .byte (2 : Int32) [(.int y0), (.int y1)] db) :
   Con l Z n0 (⟨"java/lang/String", "indexOf", "(Ljava/lang/String;I)I"⟩ : MethodName) jdk_42_method_85_code 3 (some .int) [] ({ frames := 3, cells := 0, slots := 0, locals := 90 } : Room) #[(.ref a), (.ref b), (.int 4)] h0 [] (fun v h' => v = some (.int (own_nx [])) ∧ h' = h0) := by
  refine Con.of a0 (plainFor_of_name own_pn_7) O (fun _ q => nomatch q) [] (fun _ q => nomatch q) ?_
  intro p e s m below meth cdX T S hby hml hret hnm
  have H := fun {k r} q => @hb _ _ hby k r q
  have W := @Tw a0 Z hw
  refine Go.cast (own_ef_3 m a b (4 : Int32)) ?_
  refine S.aloadN 1 (H dh__0) rfl rfl (S.getf (host := "") 4 (H dh__1) (Or.inl (W 33 rfl)) Via.refl FAV ?_)
  intro T771 S772
  refine S772.aloadN 5 (H dh__4) rfl rfl (S772.vcall 8 (H dh__5) hml.symm (W 52 rfl) (W 53 rfl) (W 55 rfl) (W 54 rfl) (nfSel (W 55 rfl)) (by decide) EA [] [(.ref ta)] (Con.pay (W := 1) (own_coder l Z a0 hw cm h0 n0 S772.old a FAC) (W 56 rfl) (W 8 rfl) (by decide) (by decide)) (lenOf own_pd_8 rfl) rfl (Nle rfl) (by decide) (by decide) Wrs.nil ?_)
  intro v773 T774 h775 L776 S777 q778 K779
  obtain ⟨rfl, e_q778⟩ := q778
  obtain rfl := e_q778.symm
  show Go p e below _ T774 (mkF m 8 #[vr a, vr b, vi 4] [(.int 0), (.ref ta)])
  refine S777.aloadN 9 (H dh__8) rfl rfl (S777.vcall 12 (H dh__9) hml.symm (W 107 rfl) (W 94 rfl) (W 96 rfl) (W 95 rfl) (nfSel (W 96 rfl)) (by decide) EA [] [(.int 0), (.ref ta)] (Con.pay (W := 2) (own_len_5 l Z a0 hw cm h0 n0 S777.old a ta ka [(.int x0), (.int x1), (.int x2), (.int x3), (.int x4)] da EA FAV FAC AA) (W 97 rfl) (W 8 rfl) (by decide) (by decide)) (lenOf own_pd_21 rfl) rfl (Nle rfl) (by decide) (by decide) Wrs.nil ?_)
  intro v780 T781 h782 L783 S784 q785 K786
  obtain ⟨rfl, e_q785⟩ := q785
  obtain rfl := e_q785.symm
  show Go p e below _ T781 (mkF m 12 #[vr a, vr b, vi 4] [(.int 5), (.int 0), (.ref ta)])
  refine S784.aloadN 13 (H dh__12) rfl rfl (S784.iloadN 14 (H dh__13) rfl (S784.scall 17 (H dh__14) hml.symm (W 108 rfl) (W 109 rfl) (W 8 rfl) (W 110 rfl) (by decide) [(.ref ta), (.int 0), (.int 5), (.ref b), (.int 4)] [] (Con.pay (W := 0) (own_i2s_2_4 l Z a0 hw cm h0 n0 S784.old b ta ka da x0 x1 x2 x3 x4 tb kb db y0 y1 EB FBV FBC AA AB) (W 110 rfl) (W 8 rfl) (by decide) (by decide)) (lenOf own_pd_22 rfl) rfl (Nle rfl) (by decide) (by decide) Wrs.nil ?_))
  intro v787 T788 h789 L790 S791 q792 K793
  obtain ⟨rfl, e_q792⟩ := q792
  obtain rfl := e_q792.symm
  show Go p e below _ T788 (mkF m 17 #[vr a, vr b, vi 4] [(.int (own_nx []))])
  exact S791.retI (H dh__17) hret (by decide) (by decide) ⟨rfl, rfl⟩


set_option maxRecDepth 65536 in
set_option maxHeartbeats 4000000 in
theorem own_i2s_2_5 (l : Launch) (Z : State) (a0 : Array Value) (hw : ∀ d ∈ tables_1, d.before a0 Z = true) (cm : Com Z) (h0 : Heap) (n0 : Nat) (O : Old Z n0 h0) (b : Addr) (ta : Addr) (ka : ClassId) (da : Value) (x0 : Int32) (x1 : Int32) (x2 : Int32) (x3 : Int32) (x4 : Int32) (tb : Addr) (kb : ClassId) (db : Value) (y0 : Int32) (y1 : Int32) (EB : Exa Z h0 b "java/lang/String") (FBV : Fld Z h0 b "java/lang/String" "value" "[B" (.ref tb)) (FBC : Fld Z h0 b "java/lang/String" "coder" "B" (.int 0)) (AA : Arv Z h0 ta ka .byte (5 : Int32) [(.int x0), (.int x1), (.int x2), (.int x3), (.int x4)] da) (AB : Arv Z h0 tb kb .byte (2 : Int32) [(.int y0), (.int y1)] db) :
   Con l Z n0 (⟨"java/lang/String", "indexOf", "([BBILjava/lang/String;I)I"⟩ : MethodName) jdk_42_method_87_code 8 (some .int) [] ({ frames := 2, cells := 0, slots := 0, locals := 60 } : Room) #[(.ref ta), (.int 0), (.int 5), (.ref b), (.int 5)] h0 [] (fun v h' => v = some (.int (own_nx [])) ∧ h' = h0) := by
  refine Con.of a0 (plainFor_of_name own_pn_7) O (fun _ q => nomatch q) [] (fun _ q => nomatch q) ?_
  intro p e s m below meth cdX T S hby hml hret hnm
  have H := fun {k r} q => @hb _ _ hby k r q
  have W := @Tw a0 Z hw
  refine Go.cast (own_ef_19 m ta (0 : Int32) (5 : Int32) b (5 : Int32)) ?_
  refine S.iload 2 (H di__0) rfl (S.i2l 3 (H di__2) ?_)
  show Go p e below _ T (mkF m 3 #[vr ta, vi 0, vi 5, vr b, vi 5, uN, uN, uN] [(.long ((5 : Int32).toInt64))])
  rw [show ((5 : Int32).toInt64) = (5 : Int64) from by decide]
  refine S.iconst 4 (0 : Int32) (H di__3) (S.iloadN 5 (H di__4) rfl (S.scall 8 (H di__5) hml.symm (W 111 rfl) (W 112 rfl) (W 113 rfl) (W 114 rfl) (by decide) [(.long (5 : Int64)), (.int 0), (.int 5)] [] (Con.pay (W := 0) (own_cl_5 l Z a0 hw h0 n0 S.old) (W 114 rfl) (W 113 rfl) (by decide) (by decide)) (lenOf own_pd_20 rfl) rfl (Nle rfl) (by decide) (by decide) Wrs.nil ?_))
  intro v794 T795 h796 L797 S798 q799 K800
  obtain ⟨rfl, e_q799⟩ := q799
  obtain rfl := e_q799.symm
  show Go p e below _ T795 (mkF m 8 #[vr ta, vi 0, vi 5, vr b, vi 5, uN, uN, uN] [(.int 5)])
  refine S798.istore 10 #[vr ta, vi 0, vi 5, vr b, vi 5, uN, uN, uN] (H di__8) rfl (S798.aloadN 11 (H di__10) rfl rfl (S798.vcall 14 (H di__11) hml.symm (W 107 rfl) (W 94 rfl) (W 96 rfl) (W 95 rfl) (nfSel (W 96 rfl)) (by decide) EB [] [] (Con.pay (W := 0) (own_len_2 l Z a0 hw cm h0 n0 S798.old b tb kb [(.int y0), (.int y1)] db EB FBV FBC AB) (W 97 rfl) (W 8 rfl) (by decide) (by decide)) (lenOf own_pd_21 rfl) rfl (Nle rfl) (by decide) (by decide) Wrs.nil ?_))
  intro v801 T802 h803 L804 S805 q806 K807
  obtain ⟨rfl, e_q806⟩ := q806
  obtain rfl := e_q806.symm
  show Go p e below _ T802 (mkF m 14 #[vr ta, vi 0, vi 5, vr b, vi 5, uN, uN, uN] [(.int 2)])
  refine S805.istore 16 #[vr ta, vi 0, vi 5, vr b, vi 5, vi 2, uN, uN] (H di__14) rfl (S805.iload 18 (H di__16) rfl (S805.iloadN 19 (H di__18) rfl (S805.iload 21 (H di__19) rfl (S805.isub 22 (H di__21) ?_))))
  rw [show (5 - 5 : Int32) = 0 from by decide]
  refine S805.icmpN 25 (H di__22) (qLeF (by decide)) (S805.iconst 26 (-1 : Int32) (H di__25) ?_)
  exact S805.retI (H di__26) hret (by decide) (by decide) ⟨rfl, rfl⟩


set_option maxRecDepth 65536 in
set_option maxHeartbeats 4000000 in
theorem own_i2_2_5 (l : Launch) (Z : State) (a0 : Array Value) (hw : ∀ d ∈ tables_1, d.before a0 Z = true) (cm : Com Z) (h0 : Heap) (n0 : Nat) (O : Old Z n0 h0) (a : Addr) (b : Addr) (ta : Addr) (ka : ClassId) (da : Value) (x0 : Int32) (x1 : Int32) (x2 : Int32) (x3 : Int32) (x4 : Int32) (tb : Addr) (kb : ClassId) (db : Value) (y0 : Int32) (y1 : Int32) (EA : Exa Z h0 a "java/lang/String") (FAV : Fld Z h0 a "java/lang/String" "value" "[B" (.ref ta)) (FAC : Fld Z h0 a "java/lang/String" "coder" "B" (.int 0)) (EB : Exa Z h0 b "java/lang/String") (FBV : Fld Z h0 b "java/lang/String" "value" "[B" (.ref tb)) (FBC : Fld Z h0 b "java/lang/String" "coder" "B" (.int 0)) (AA : Arv Z h0 ta ka .byte (5 : Int32) [(.int x0), (.int x1), (.int x2), (.int x3), (.int x4)] da) (AB : Arv Z h0 tb kb .byte (2 : Int32) [(.int y0), (.int y1)] db) :
   Con l Z n0 (⟨"java/lang/String", "indexOf", "(Ljava/lang/String;I)I"⟩ : MethodName) jdk_42_method_85_code 3 (some .int) [] ({ frames := 3, cells := 0, slots := 0, locals := 90 } : Room) #[(.ref a), (.ref b), (.int 5)] h0 [] (fun v h' => v = some (.int (own_nx [])) ∧ h' = h0) := by
  refine Con.of a0 (plainFor_of_name own_pn_7) O (fun _ q => nomatch q) [] (fun _ q => nomatch q) ?_
  intro p e s m below meth cdX T S hby hml hret hnm
  have H := fun {k r} q => @hb _ _ hby k r q
  have W := @Tw a0 Z hw
  refine Go.cast (own_ef_3 m a b (5 : Int32)) ?_
  refine S.aloadN 1 (H dh__0) rfl rfl (S.getf (host := "") 4 (H dh__1) (Or.inl (W 33 rfl)) Via.refl FAV ?_)
  intro T808 S809
  refine S809.aloadN 5 (H dh__4) rfl rfl (S809.vcall 8 (H dh__5) hml.symm (W 52 rfl) (W 53 rfl) (W 55 rfl) (W 54 rfl) (nfSel (W 55 rfl)) (by decide) EA [] [(.ref ta)] (Con.pay (W := 1) (own_coder l Z a0 hw cm h0 n0 S809.old a FAC) (W 56 rfl) (W 8 rfl) (by decide) (by decide)) (lenOf own_pd_8 rfl) rfl (Nle rfl) (by decide) (by decide) Wrs.nil ?_)
  intro v810 T811 h812 L813 S814 q815 K816
  obtain ⟨rfl, e_q815⟩ := q815
  obtain rfl := e_q815.symm
  show Go p e below _ T811 (mkF m 8 #[vr a, vr b, vi 5] [(.int 0), (.ref ta)])
  refine S814.aloadN 9 (H dh__8) rfl rfl (S814.vcall 12 (H dh__9) hml.symm (W 107 rfl) (W 94 rfl) (W 96 rfl) (W 95 rfl) (nfSel (W 96 rfl)) (by decide) EA [] [(.int 0), (.ref ta)] (Con.pay (W := 2) (own_len_5 l Z a0 hw cm h0 n0 S814.old a ta ka [(.int x0), (.int x1), (.int x2), (.int x3), (.int x4)] da EA FAV FAC AA) (W 97 rfl) (W 8 rfl) (by decide) (by decide)) (lenOf own_pd_21 rfl) rfl (Nle rfl) (by decide) (by decide) Wrs.nil ?_)
  intro v817 T818 h819 L820 S821 q822 K823
  obtain ⟨rfl, e_q822⟩ := q822
  obtain rfl := e_q822.symm
  show Go p e below _ T818 (mkF m 12 #[vr a, vr b, vi 5] [(.int 5), (.int 0), (.ref ta)])
  refine S821.aloadN 13 (H dh__12) rfl rfl (S821.iloadN 14 (H dh__13) rfl (S821.scall 17 (H dh__14) hml.symm (W 108 rfl) (W 109 rfl) (W 8 rfl) (W 110 rfl) (by decide) [(.ref ta), (.int 0), (.int 5), (.ref b), (.int 5)] [] (Con.pay (W := 0) (own_i2s_2_5 l Z a0 hw cm h0 n0 S821.old b ta ka da x0 x1 x2 x3 x4 tb kb db y0 y1 EB FBV FBC AA AB) (W 110 rfl) (W 8 rfl) (by decide) (by decide)) (lenOf own_pd_22 rfl) rfl (Nle rfl) (by decide) (by decide) Wrs.nil ?_))
  intro v824 T825 h826 L827 S828 q829 K830
  obtain ⟨rfl, e_q829⟩ := q829
  obtain rfl := e_q829.symm
  show Go p e below _ T825 (mkF m 17 #[vr a, vr b, vi 5] [(.int (own_nx []))])
  exact S828.retI (H dh__17) hret (by decide) (by decide) ⟨rfl, rfl⟩

theorem own_ef_23 (m : MethodId) (x0 : Addr) (x1 : Int32) (x2 : Int32) : entryFrame m #[(.ref x0), (.int x1), (.int x2)] 3 = mkF m 0 #[vr x0, vi x1, vi x2] [] := by rfl
theorem dr__0 : decode prog_29_method_3_code 0 = .ok (.aload_n 0, 1) := by decide +kernel
theorem dr__1 : decode prog_29_method_3_code 1 = .ok (.getfield 52, 3) := by decide +kernel
theorem dr__4 : decode prog_29_method_3_code 4 = .ok (.aload_n 0, 1) := by decide +kernel
theorem dr__5 : decode prog_29_method_3_code 5 = .ok (.getfield 7, 3) := by decide +kernel
theorem dr__8 : decode prog_29_method_3_code 8 = .ok (.arraylength, 1) := by decide +kernel
theorem dr__9 : decode prog_29_method_3_code 9 = .ok (.if_icmp .ne 37, 3) := by decide +kernel
theorem dr__46 : decode prog_29_method_3_code 46 = .ok (.aload_n 0, 1) := by decide +kernel
theorem dr__47 : decode prog_29_method_3_code 47 = .ok (.getfield 7, 3) := by decide +kernel
theorem dr__50 : decode prog_29_method_3_code 50 = .ok (.aload_n 0, 1) := by decide +kernel
theorem dr__51 : decode prog_29_method_3_code 51 = .ok (.getfield 52, 3) := by decide +kernel
theorem dr__54 : decode prog_29_method_3_code 54 = .ok (.iload_n 1, 1) := by decide +kernel
theorem dr__55 : decode prog_29_method_3_code 55 = .ok (.iastore, 1) := by decide +kernel
theorem dr__56 : decode prog_29_method_3_code 56 = .ok (.aload_n 0, 1) := by decide +kernel
theorem dr__57 : decode prog_29_method_3_code 57 = .ok (.getfield 13, 3) := by decide +kernel
theorem dr__60 : decode prog_29_method_3_code 60 = .ok (.aload_n 0, 1) := by decide +kernel
theorem dr__61 : decode prog_29_method_3_code 61 = .ok (.getfield 52, 3) := by decide +kernel
theorem dr__64 : decode prog_29_method_3_code 64 = .ok (.iload_n 2, 1) := by decide +kernel
theorem dr__65 : decode prog_29_method_3_code 65 = .ok (.iastore, 1) := by decide +kernel
theorem dr__66 : decode prog_29_method_3_code 66 = .ok (.aload_n 0, 1) := by decide +kernel
theorem dr__67 : decode prog_29_method_3_code 67 = .ok (.dup, 1) := by decide +kernel
theorem dr__68 : decode prog_29_method_3_code 68 = .ok (.getfield 52, 3) := by decide +kernel
theorem dr__71 : decode prog_29_method_3_code 71 = .ok (.iconst 1, 1) := by decide +kernel
theorem dr__72 : decode prog_29_method_3_code 72 = .ok (.iadd, 1) := by decide +kernel
theorem dr__73 : decode prog_29_method_3_code 73 = .ok (.putfield 52, 3) := by decide +kernel
theorem dr__76 : decode prog_29_method_3_code 76 = .ok (.return_, 1) := by decide +kernel
theorem own_pn_24 : plainName "com/example/oref/oref/wikipedia/Matches" = true := by first | (simp [plainName, overriddenIn]; done) | decide +kernel
set_option maxRecDepth 65536 in
set_option maxHeartbeats 4000000 in
theorem own_add_0 (l : Launch) (Z : State) (a0 : Array Value) (hw : ∀ d ∈ tables_1, d.before a0 Z = true) (h0 : Heap) (n0 : Nat) (O : Old Z n0 h0) (o : Addr) (sa : Addr) (ea : Addr) (ks : ClassId) (ke : ClassId) (i : Int32) (j : Int32) (ge_o : n0 ≤ o) (ge_sa : n0 ≤ sa) (ge_ea : n0 ≤ ea) (E : Exa Z h0 o "com/example/oref/oref/wikipedia/Matches") (FC : Fld Z h0 o "com/example/oref/oref/wikipedia/Matches" "count" "I" (.int 0)) (FS : Fld Z h0 o "com/example/oref/oref/wikipedia/Matches" "starts" "[I" (.ref sa)) (FE : Fld Z h0 o "com/example/oref/oref/wikipedia/Matches" "ends" "[I" (.ref ea)) (AS : Arv Z h0 sa ks .int (8 : Int32) [(.int 0), (.int 0), (.int 0), (.int 0), (.int 0), (.int 0), (.int 0), (.int 0)] (.int 0)) (AE : Arv Z h0 ea ke .int (8 : Int32) [(.int 0), (.int 0), (.int 0), (.int 0), (.int 0), (.int 0), (.int 0), (.int 0)] (.int 0)) (n1 : sa ≠ ea) (n2 : o ≠ sa) (n3 : o ≠ ea) :
   Con l Z n0 (⟨"com/example/oref/oref/wikipedia/Matches", "add", "(II)V"⟩ : MethodName) prog_29_method_3_code 3 none [] ({ frames := 0, cells := 0, slots := 0, locals := 0 } : Room) #[(.ref o), (.int i), (.int j)] h0 [o, sa, ea] (fun v h' => v = none ∧ Exa Z h' o "com/example/oref/oref/wikipedia/Matches" ∧ Fld Z h' o "com/example/oref/oref/wikipedia/Matches" "count" "I" (.int 1) ∧ Fld Z h' o "com/example/oref/oref/wikipedia/Matches" "starts" "[I" (.ref sa) ∧ Fld Z h' o "com/example/oref/oref/wikipedia/Matches" "ends" "[I" (.ref ea) ∧ Arv Z h' sa ks .int (8 : Int32) [(.int i), (.int 0), (.int 0), (.int 0), (.int 0), (.int 0), (.int 0), (.int 0)] (.int 0) ∧ Arv Z h' ea ke .int (8 : Int32) [(.int j), (.int 0), (.int 0), (.int 0), (.int 0), (.int 0), (.int 0), (.int 0)] (.int 0)) := by
  refine Con.of a0 (plainFor_of_name own_pn_24) O (by simp [ge_o, ge_sa, ge_ea]) [] (fun _ q => nomatch q) ?_
  intro p e s m below meth cdX T S hby hml hret hnm
  have H := fun {k r} q => @hb _ _ hby k r q
  have W := @Tw a0 Z hw
  refine Go.cast (own_ef_23 m o i j) ?_
  refine S.aloadN 1 (H dr__0) rfl rfl (S.getf (host := "") 4 (H dr__1) (Or.inl (W 81 rfl)) Via.refl FC ?_)
  intro T831 S832
  refine S832.aloadN 5 (H dr__4) rfl rfl (S832.getf (host := "") 8 (H dr__5) (Or.inl (W 43 rfl)) Via.refl FS ?_)
  intro T833 S834
  refine S834.alen 9 (H dr__8) AS ?_
  refine S834.icmpY 46 (H dr__9) (qNeT (by decide)) (S834.aloadN 47 (H dr__46) rfl rfl (S834.getf (host := "") 50 (H dr__47) (Or.inl (W 43 rfl)) Via.refl FS ?_))
  intro T835 S836
  refine S836.aloadN 51 (H dr__50) rfl rfl (S836.getf (host := "") 54 (H dr__51) (Or.inl (W 81 rfl)) Via.refl FC ?_)
  intro T837 S838
  refine S838.iloadN 55 (H dr__54) rfl (S838.iastore 56 0 (H dr__55) AS ⟨by decide, by decide⟩ rfl (Nle rfl) (Or.inl (by simp)) ?_)
  intro T839 h840 L841 S842 W843 A844
  have f845 : Arv Z h840 sa ks .int (8 : Int32) [(.int i), (.int 0), (.int 0), (.int 0), (.int 0), (.int 0), (.int 0), (.int 0)] (.int 0) := A844
  refine S842.aloadN 57 (H dr__56) rfl rfl ?_
  have f846 := (FE.other W843 (Or.inl n2))
  refine S842.getf (host := "") 60 (H dr__57) (Or.inl (W 45 rfl)) Via.refl f846 ?_
  intro T847 S848
  refine S848.aloadN 61 (H dr__60) rfl rfl ?_
  have f849 := (FC.other W843 (Or.inl n2))
  refine S848.getf (host := "") 64 (H dr__61) (Or.inl (W 81 rfl)) Via.refl f849 ?_
  intro T850 S851
  refine S851.iloadN 65 (H dr__64) rfl ?_
  have f852 := (AE.other W843 (Ne.symm n1))
  refine S851.iastore 66 0 (H dr__65) f852 ⟨by decide, by decide⟩ rfl (Nle rfl) (Or.inl (by simp)) ?_
  intro T853 h854 L855 S856 W857 A858
  have f859 : Arv Z h854 ea ke .int (8 : Int32) [(.int j), (.int 0), (.int 0), (.int 0), (.int 0), (.int 0), (.int 0), (.int 0)] (.int 0) := A858
  refine S856.aloadN 67 (H dr__66) rfl rfl (S856.dup 68 (H dr__67) rfl ?_)
  have f860 := (f849.other W857 (Or.inl n3))
  refine S856.getf (host := "") 71 (H dr__68) (Or.inl (W 81 rfl)) Via.refl f860 ?_
  intro T861 S862
  refine S862.iconst 72 (1 : Int32) (H dr__71) (S862.iadd 73 (H dr__72) ?_)
  rw [show (0 + 1 : Int32) = 1 from by decide]
  have f863 := ((E.wr W843).wr W857)
  refine S862.putf (host := "") (ty := .int) 76 (H dr__73) (Or.inl (W 81 rfl)) Via.refl f860 f863 (Or.inl (W 82 rfl)) (W 36 rfl) (by decide) rfl rfl (Or.inl (by simp)) (Or.inl (by decide)) ?_
  intro T864 h865 L866 S867 W868
  have f869 := f860.same W868
  have f870 := (f863.wr W868)
  have f871 := (((FS.other W843 (Or.inl n2)).other W857 (Or.inl n3)).other W868 (Or.inr (slot_ne (t := (.array .int)) (t' := .int) (Or.inl (W 44 rfl)) (Or.inl (W 82 rfl)) (by decide) (by decide) (by decide))))
  have f872 := ((f846.other W857 (Or.inl n3)).other W868 (Or.inr (slot_ne (t := (.array .int)) (t' := .int) (Or.inl (W 46 rfl)) (Or.inl (W 82 rfl)) (by decide) (by decide) (by decide))))
  have f873 := ((f845.other W857 n1).other W868 (Ne.symm n2))
  have f874 := (f859.other W868 (Ne.symm n3))
  exact S867.ret0 (H dr__76) hret (by decide) (by decide) ⟨rfl, f870, f869, f871, f872, f873, f874⟩


set_option maxRecDepth 65536 in
set_option maxHeartbeats 4000000 in
theorem own_add_1 (l : Launch) (Z : State) (a0 : Array Value) (hw : ∀ d ∈ tables_1, d.before a0 Z = true) (h0 : Heap) (n0 : Nat) (O : Old Z n0 h0) (o : Addr) (sa : Addr) (ea : Addr) (ks : ClassId) (ke : ClassId) (s0 : Int32) (u0 : Int32) (i : Int32) (j : Int32) (ge_o : n0 ≤ o) (ge_sa : n0 ≤ sa) (ge_ea : n0 ≤ ea) (E : Exa Z h0 o "com/example/oref/oref/wikipedia/Matches") (FC : Fld Z h0 o "com/example/oref/oref/wikipedia/Matches" "count" "I" (.int 1)) (FS : Fld Z h0 o "com/example/oref/oref/wikipedia/Matches" "starts" "[I" (.ref sa)) (FE : Fld Z h0 o "com/example/oref/oref/wikipedia/Matches" "ends" "[I" (.ref ea)) (AS : Arv Z h0 sa ks .int (8 : Int32) [(.int s0), (.int 0), (.int 0), (.int 0), (.int 0), (.int 0), (.int 0), (.int 0)] (.int 0)) (AE : Arv Z h0 ea ke .int (8 : Int32) [(.int u0), (.int 0), (.int 0), (.int 0), (.int 0), (.int 0), (.int 0), (.int 0)] (.int 0)) (n1 : sa ≠ ea) (n2 : o ≠ sa) (n3 : o ≠ ea) :
   Con l Z n0 (⟨"com/example/oref/oref/wikipedia/Matches", "add", "(II)V"⟩ : MethodName) prog_29_method_3_code 3 none [] ({ frames := 0, cells := 0, slots := 0, locals := 0 } : Room) #[(.ref o), (.int i), (.int j)] h0 [o, sa, ea] (fun v h' => v = none ∧ Exa Z h' o "com/example/oref/oref/wikipedia/Matches" ∧ Fld Z h' o "com/example/oref/oref/wikipedia/Matches" "count" "I" (.int 2) ∧ Fld Z h' o "com/example/oref/oref/wikipedia/Matches" "starts" "[I" (.ref sa) ∧ Fld Z h' o "com/example/oref/oref/wikipedia/Matches" "ends" "[I" (.ref ea) ∧ Arv Z h' sa ks .int (8 : Int32) [(.int s0), (.int i), (.int 0), (.int 0), (.int 0), (.int 0), (.int 0), (.int 0)] (.int 0) ∧ Arv Z h' ea ke .int (8 : Int32) [(.int u0), (.int j), (.int 0), (.int 0), (.int 0), (.int 0), (.int 0), (.int 0)] (.int 0)) := by
  refine Con.of a0 (plainFor_of_name own_pn_24) O (by simp [ge_o, ge_sa, ge_ea]) [] (fun _ q => nomatch q) ?_
  intro p e s m below meth cdX T S hby hml hret hnm
  have H := fun {k r} q => @hb _ _ hby k r q
  have W := @Tw a0 Z hw
  refine Go.cast (own_ef_23 m o i j) ?_
  refine S.aloadN 1 (H dr__0) rfl rfl (S.getf (host := "") 4 (H dr__1) (Or.inl (W 81 rfl)) Via.refl FC ?_)
  intro T875 S876
  refine S876.aloadN 5 (H dr__4) rfl rfl (S876.getf (host := "") 8 (H dr__5) (Or.inl (W 43 rfl)) Via.refl FS ?_)
  intro T877 S878
  refine S878.alen 9 (H dr__8) AS ?_
  refine S878.icmpY 46 (H dr__9) (qNeT (by decide)) (S878.aloadN 47 (H dr__46) rfl rfl (S878.getf (host := "") 50 (H dr__47) (Or.inl (W 43 rfl)) Via.refl FS ?_))
  intro T879 S880
  refine S880.aloadN 51 (H dr__50) rfl rfl (S880.getf (host := "") 54 (H dr__51) (Or.inl (W 81 rfl)) Via.refl FC ?_)
  intro T881 S882
  refine S882.iloadN 55 (H dr__54) rfl (S882.iastore 56 1 (H dr__55) AS ⟨by decide, by decide⟩ rfl (Nle rfl) (Or.inl (by simp)) ?_)
  intro T883 h884 L885 S886 W887 A888
  have f889 : Arv Z h884 sa ks .int (8 : Int32) [(.int s0), (.int i), (.int 0), (.int 0), (.int 0), (.int 0), (.int 0), (.int 0)] (.int 0) := A888
  refine S886.aloadN 57 (H dr__56) rfl rfl ?_
  have f890 := (FE.other W887 (Or.inl n2))
  refine S886.getf (host := "") 60 (H dr__57) (Or.inl (W 45 rfl)) Via.refl f890 ?_
  intro T891 S892
  refine S892.aloadN 61 (H dr__60) rfl rfl ?_
  have f893 := (FC.other W887 (Or.inl n2))
  refine S892.getf (host := "") 64 (H dr__61) (Or.inl (W 81 rfl)) Via.refl f893 ?_
  intro T894 S895
  refine S895.iloadN 65 (H dr__64) rfl ?_
  have f896 := (AE.other W887 (Ne.symm n1))
  refine S895.iastore 66 1 (H dr__65) f896 ⟨by decide, by decide⟩ rfl (Nle rfl) (Or.inl (by simp)) ?_
  intro T897 h898 L899 S900 W901 A902
  have f903 : Arv Z h898 ea ke .int (8 : Int32) [(.int u0), (.int j), (.int 0), (.int 0), (.int 0), (.int 0), (.int 0), (.int 0)] (.int 0) := A902
  refine S900.aloadN 67 (H dr__66) rfl rfl (S900.dup 68 (H dr__67) rfl ?_)
  have f904 := (f893.other W901 (Or.inl n3))
  refine S900.getf (host := "") 71 (H dr__68) (Or.inl (W 81 rfl)) Via.refl f904 ?_
  intro T905 S906
  refine S906.iconst 72 (1 : Int32) (H dr__71) (S906.iadd 73 (H dr__72) ?_)
  rw [show (1 + 1 : Int32) = 2 from by decide]
  have f907 := ((E.wr W887).wr W901)
  refine S906.putf (host := "") (ty := .int) 76 (H dr__73) (Or.inl (W 81 rfl)) Via.refl f904 f907 (Or.inl (W 82 rfl)) (W 36 rfl) (by decide) rfl rfl (Or.inl (by simp)) (Or.inl (by decide)) ?_
  intro T908 h909 L910 S911 W912
  have f913 := f904.same W912
  have f914 := (f907.wr W912)
  have f915 := (((FS.other W887 (Or.inl n2)).other W901 (Or.inl n3)).other W912 (Or.inr (slot_ne (t := (.array .int)) (t' := .int) (Or.inl (W 44 rfl)) (Or.inl (W 82 rfl)) (by decide) (by decide) (by decide))))
  have f916 := ((f890.other W901 (Or.inl n3)).other W912 (Or.inr (slot_ne (t := (.array .int)) (t' := .int) (Or.inl (W 46 rfl)) (Or.inl (W 82 rfl)) (by decide) (by decide) (by decide))))
  have f917 := ((f889.other W901 n1).other W912 (Ne.symm n2))
  have f918 := (f903.other W912 (Ne.symm n3))
  exact S911.ret0 (H dr__76) hret (by decide) (by decide) ⟨rfl, f914, f913, f915, f916, f917, f918⟩


set_option maxRecDepth 65536 in
set_option maxHeartbeats 4000000 in
theorem own_add_2 (l : Launch) (Z : State) (a0 : Array Value) (hw : ∀ d ∈ tables_1, d.before a0 Z = true) (h0 : Heap) (n0 : Nat) (O : Old Z n0 h0) (o : Addr) (sa : Addr) (ea : Addr) (ks : ClassId) (ke : ClassId) (s0 : Int32) (s1 : Int32) (u0 : Int32) (u1 : Int32) (i : Int32) (j : Int32) (ge_o : n0 ≤ o) (ge_sa : n0 ≤ sa) (ge_ea : n0 ≤ ea) (E : Exa Z h0 o "com/example/oref/oref/wikipedia/Matches") (FC : Fld Z h0 o "com/example/oref/oref/wikipedia/Matches" "count" "I" (.int 2)) (FS : Fld Z h0 o "com/example/oref/oref/wikipedia/Matches" "starts" "[I" (.ref sa)) (FE : Fld Z h0 o "com/example/oref/oref/wikipedia/Matches" "ends" "[I" (.ref ea)) (AS : Arv Z h0 sa ks .int (8 : Int32) [(.int s0), (.int s1), (.int 0), (.int 0), (.int 0), (.int 0), (.int 0), (.int 0)] (.int 0)) (AE : Arv Z h0 ea ke .int (8 : Int32) [(.int u0), (.int u1), (.int 0), (.int 0), (.int 0), (.int 0), (.int 0), (.int 0)] (.int 0)) (n1 : sa ≠ ea) (n2 : o ≠ sa) (n3 : o ≠ ea) :
   Con l Z n0 (⟨"com/example/oref/oref/wikipedia/Matches", "add", "(II)V"⟩ : MethodName) prog_29_method_3_code 3 none [] ({ frames := 0, cells := 0, slots := 0, locals := 0 } : Room) #[(.ref o), (.int i), (.int j)] h0 [o, sa, ea] (fun v h' => v = none ∧ Exa Z h' o "com/example/oref/oref/wikipedia/Matches" ∧ Fld Z h' o "com/example/oref/oref/wikipedia/Matches" "count" "I" (.int 3) ∧ Fld Z h' o "com/example/oref/oref/wikipedia/Matches" "starts" "[I" (.ref sa) ∧ Fld Z h' o "com/example/oref/oref/wikipedia/Matches" "ends" "[I" (.ref ea) ∧ Arv Z h' sa ks .int (8 : Int32) [(.int s0), (.int s1), (.int i), (.int 0), (.int 0), (.int 0), (.int 0), (.int 0)] (.int 0) ∧ Arv Z h' ea ke .int (8 : Int32) [(.int u0), (.int u1), (.int j), (.int 0), (.int 0), (.int 0), (.int 0), (.int 0)] (.int 0)) := by
  refine Con.of a0 (plainFor_of_name own_pn_24) O (by simp [ge_o, ge_sa, ge_ea]) [] (fun _ q => nomatch q) ?_
  intro p e s m below meth cdX T S hby hml hret hnm
  have H := fun {k r} q => @hb _ _ hby k r q
  have W := @Tw a0 Z hw
  refine Go.cast (own_ef_23 m o i j) ?_
  refine S.aloadN 1 (H dr__0) rfl rfl (S.getf (host := "") 4 (H dr__1) (Or.inl (W 81 rfl)) Via.refl FC ?_)
  intro T919 S920
  refine S920.aloadN 5 (H dr__4) rfl rfl (S920.getf (host := "") 8 (H dr__5) (Or.inl (W 43 rfl)) Via.refl FS ?_)
  intro T921 S922
  refine S922.alen 9 (H dr__8) AS ?_
  refine S922.icmpY 46 (H dr__9) (qNeT (by decide)) (S922.aloadN 47 (H dr__46) rfl rfl (S922.getf (host := "") 50 (H dr__47) (Or.inl (W 43 rfl)) Via.refl FS ?_))
  intro T923 S924
  refine S924.aloadN 51 (H dr__50) rfl rfl (S924.getf (host := "") 54 (H dr__51) (Or.inl (W 81 rfl)) Via.refl FC ?_)
  intro T925 S926
  refine S926.iloadN 55 (H dr__54) rfl (S926.iastore 56 2 (H dr__55) AS ⟨by decide, by decide⟩ rfl (Nle rfl) (Or.inl (by simp)) ?_)
  intro T927 h928 L929 S930 W931 A932
  have f933 : Arv Z h928 sa ks .int (8 : Int32) [(.int s0), (.int s1), (.int i), (.int 0), (.int 0), (.int 0), (.int 0), (.int 0)] (.int 0) := A932
  refine S930.aloadN 57 (H dr__56) rfl rfl ?_
  have f934 := (FE.other W931 (Or.inl n2))
  refine S930.getf (host := "") 60 (H dr__57) (Or.inl (W 45 rfl)) Via.refl f934 ?_
  intro T935 S936
  refine S936.aloadN 61 (H dr__60) rfl rfl ?_
  have f937 := (FC.other W931 (Or.inl n2))
  refine S936.getf (host := "") 64 (H dr__61) (Or.inl (W 81 rfl)) Via.refl f937 ?_
  intro T938 S939
  refine S939.iloadN 65 (H dr__64) rfl ?_
  have f940 := (AE.other W931 (Ne.symm n1))
  refine S939.iastore 66 2 (H dr__65) f940 ⟨by decide, by decide⟩ rfl (Nle rfl) (Or.inl (by simp)) ?_
  intro T941 h942 L943 S944 W945 A946
  have f947 : Arv Z h942 ea ke .int (8 : Int32) [(.int u0), (.int u1), (.int j), (.int 0), (.int 0), (.int 0), (.int 0), (.int 0)] (.int 0) := A946
  refine S944.aloadN 67 (H dr__66) rfl rfl (S944.dup 68 (H dr__67) rfl ?_)
  have f948 := (f937.other W945 (Or.inl n3))
  refine S944.getf (host := "") 71 (H dr__68) (Or.inl (W 81 rfl)) Via.refl f948 ?_
  intro T949 S950
  refine S950.iconst 72 (1 : Int32) (H dr__71) (S950.iadd 73 (H dr__72) ?_)
  rw [show (2 + 1 : Int32) = 3 from by decide]
  have f951 := ((E.wr W931).wr W945)
  refine S950.putf (host := "") (ty := .int) 76 (H dr__73) (Or.inl (W 81 rfl)) Via.refl f948 f951 (Or.inl (W 82 rfl)) (W 36 rfl) (by decide) rfl rfl (Or.inl (by simp)) (Or.inl (by decide)) ?_
  intro T952 h953 L954 S955 W956
  have f957 := f948.same W956
  have f958 := (f951.wr W956)
  have f959 := (((FS.other W931 (Or.inl n2)).other W945 (Or.inl n3)).other W956 (Or.inr (slot_ne (t := (.array .int)) (t' := .int) (Or.inl (W 44 rfl)) (Or.inl (W 82 rfl)) (by decide) (by decide) (by decide))))
  have f960 := ((f934.other W945 (Or.inl n3)).other W956 (Or.inr (slot_ne (t := (.array .int)) (t' := .int) (Or.inl (W 46 rfl)) (Or.inl (W 82 rfl)) (by decide) (by decide) (by decide))))
  have f961 := ((f933.other W945 n1).other W956 (Ne.symm n2))
  have f962 := (f947.other W956 (Ne.symm n3))
  exact S955.ret0 (H dr__76) hret (by decide) (by decide) ⟨rfl, f958, f957, f959, f960, f961, f962⟩


set_option maxRecDepth 65536 in
set_option maxHeartbeats 4000000 in
theorem own_add_3 (l : Launch) (Z : State) (a0 : Array Value) (hw : ∀ d ∈ tables_1, d.before a0 Z = true) (h0 : Heap) (n0 : Nat) (O : Old Z n0 h0) (o : Addr) (sa : Addr) (ea : Addr) (ks : ClassId) (ke : ClassId) (s0 : Int32) (s1 : Int32) (s2 : Int32) (u0 : Int32) (u1 : Int32) (u2 : Int32) (i : Int32) (j : Int32) (ge_o : n0 ≤ o) (ge_sa : n0 ≤ sa) (ge_ea : n0 ≤ ea) (E : Exa Z h0 o "com/example/oref/oref/wikipedia/Matches") (FC : Fld Z h0 o "com/example/oref/oref/wikipedia/Matches" "count" "I" (.int 3)) (FS : Fld Z h0 o "com/example/oref/oref/wikipedia/Matches" "starts" "[I" (.ref sa)) (FE : Fld Z h0 o "com/example/oref/oref/wikipedia/Matches" "ends" "[I" (.ref ea)) (AS : Arv Z h0 sa ks .int (8 : Int32) [(.int s0), (.int s1), (.int s2), (.int 0), (.int 0), (.int 0), (.int 0), (.int 0)] (.int 0)) (AE : Arv Z h0 ea ke .int (8 : Int32) [(.int u0), (.int u1), (.int u2), (.int 0), (.int 0), (.int 0), (.int 0), (.int 0)] (.int 0)) (n1 : sa ≠ ea) (n2 : o ≠ sa) (n3 : o ≠ ea) :
   Con l Z n0 (⟨"com/example/oref/oref/wikipedia/Matches", "add", "(II)V"⟩ : MethodName) prog_29_method_3_code 3 none [] ({ frames := 0, cells := 0, slots := 0, locals := 0 } : Room) #[(.ref o), (.int i), (.int j)] h0 [o, sa, ea] (fun v h' => v = none ∧ Exa Z h' o "com/example/oref/oref/wikipedia/Matches" ∧ Fld Z h' o "com/example/oref/oref/wikipedia/Matches" "count" "I" (.int 4) ∧ Fld Z h' o "com/example/oref/oref/wikipedia/Matches" "starts" "[I" (.ref sa) ∧ Fld Z h' o "com/example/oref/oref/wikipedia/Matches" "ends" "[I" (.ref ea) ∧ Arv Z h' sa ks .int (8 : Int32) [(.int s0), (.int s1), (.int s2), (.int i), (.int 0), (.int 0), (.int 0), (.int 0)] (.int 0) ∧ Arv Z h' ea ke .int (8 : Int32) [(.int u0), (.int u1), (.int u2), (.int j), (.int 0), (.int 0), (.int 0), (.int 0)] (.int 0)) := by
  refine Con.of a0 (plainFor_of_name own_pn_24) O (by simp [ge_o, ge_sa, ge_ea]) [] (fun _ q => nomatch q) ?_
  intro p e s m below meth cdX T S hby hml hret hnm
  have H := fun {k r} q => @hb _ _ hby k r q
  have W := @Tw a0 Z hw
  refine Go.cast (own_ef_23 m o i j) ?_
  refine S.aloadN 1 (H dr__0) rfl rfl (S.getf (host := "") 4 (H dr__1) (Or.inl (W 81 rfl)) Via.refl FC ?_)
  intro T963 S964
  refine S964.aloadN 5 (H dr__4) rfl rfl (S964.getf (host := "") 8 (H dr__5) (Or.inl (W 43 rfl)) Via.refl FS ?_)
  intro T965 S966
  refine S966.alen 9 (H dr__8) AS ?_
  refine S966.icmpY 46 (H dr__9) (qNeT (by decide)) (S966.aloadN 47 (H dr__46) rfl rfl (S966.getf (host := "") 50 (H dr__47) (Or.inl (W 43 rfl)) Via.refl FS ?_))
  intro T967 S968
  refine S968.aloadN 51 (H dr__50) rfl rfl (S968.getf (host := "") 54 (H dr__51) (Or.inl (W 81 rfl)) Via.refl FC ?_)
  intro T969 S970
  refine S970.iloadN 55 (H dr__54) rfl (S970.iastore 56 3 (H dr__55) AS ⟨by decide, by decide⟩ rfl (Nle rfl) (Or.inl (by simp)) ?_)
  intro T971 h972 L973 S974 W975 A976
  have f977 : Arv Z h972 sa ks .int (8 : Int32) [(.int s0), (.int s1), (.int s2), (.int i), (.int 0), (.int 0), (.int 0), (.int 0)] (.int 0) := A976
  refine S974.aloadN 57 (H dr__56) rfl rfl ?_
  have f978 := (FE.other W975 (Or.inl n2))
  refine S974.getf (host := "") 60 (H dr__57) (Or.inl (W 45 rfl)) Via.refl f978 ?_
  intro T979 S980
  refine S980.aloadN 61 (H dr__60) rfl rfl ?_
  have f981 := (FC.other W975 (Or.inl n2))
  refine S980.getf (host := "") 64 (H dr__61) (Or.inl (W 81 rfl)) Via.refl f981 ?_
  intro T982 S983
  refine S983.iloadN 65 (H dr__64) rfl ?_
  have f984 := (AE.other W975 (Ne.symm n1))
  refine S983.iastore 66 3 (H dr__65) f984 ⟨by decide, by decide⟩ rfl (Nle rfl) (Or.inl (by simp)) ?_
  intro T985 h986 L987 S988 W989 A990
  have f991 : Arv Z h986 ea ke .int (8 : Int32) [(.int u0), (.int u1), (.int u2), (.int j), (.int 0), (.int 0), (.int 0), (.int 0)] (.int 0) := A990
  refine S988.aloadN 67 (H dr__66) rfl rfl (S988.dup 68 (H dr__67) rfl ?_)
  have f992 := (f981.other W989 (Or.inl n3))
  refine S988.getf (host := "") 71 (H dr__68) (Or.inl (W 81 rfl)) Via.refl f992 ?_
  intro T993 S994
  refine S994.iconst 72 (1 : Int32) (H dr__71) (S994.iadd 73 (H dr__72) ?_)
  rw [show (3 + 1 : Int32) = 4 from by decide]
  have f995 := ((E.wr W975).wr W989)
  refine S994.putf (host := "") (ty := .int) 76 (H dr__73) (Or.inl (W 81 rfl)) Via.refl f992 f995 (Or.inl (W 82 rfl)) (W 36 rfl) (by decide) rfl rfl (Or.inl (by simp)) (Or.inl (by decide)) ?_
  intro T996 h997 L998 S999 W1000
  have f1001 := f992.same W1000
  have f1002 := (f995.wr W1000)
  have f1003 := (((FS.other W975 (Or.inl n2)).other W989 (Or.inl n3)).other W1000 (Or.inr (slot_ne (t := (.array .int)) (t' := .int) (Or.inl (W 44 rfl)) (Or.inl (W 82 rfl)) (by decide) (by decide) (by decide))))
  have f1004 := ((f978.other W989 (Or.inl n3)).other W1000 (Or.inr (slot_ne (t := (.array .int)) (t' := .int) (Or.inl (W 46 rfl)) (Or.inl (W 82 rfl)) (by decide) (by decide) (by decide))))
  have f1005 := ((f977.other W989 n1).other W1000 (Ne.symm n2))
  have f1006 := (f991.other W1000 (Ne.symm n3))
  exact S999.ret0 (H dr__76) hret (by decide) (by decide) ⟨rfl, f1002, f1001, f1003, f1004, f1005, f1006⟩


set_option maxRecDepth 65536 in
set_option maxHeartbeats 4000000 in
theorem own_add_4 (l : Launch) (Z : State) (a0 : Array Value) (hw : ∀ d ∈ tables_1, d.before a0 Z = true) (h0 : Heap) (n0 : Nat) (O : Old Z n0 h0) (o : Addr) (sa : Addr) (ea : Addr) (ks : ClassId) (ke : ClassId) (s0 : Int32) (s1 : Int32) (s2 : Int32) (s3 : Int32) (u0 : Int32) (u1 : Int32) (u2 : Int32) (u3 : Int32) (i : Int32) (j : Int32) (ge_o : n0 ≤ o) (ge_sa : n0 ≤ sa) (ge_ea : n0 ≤ ea) (E : Exa Z h0 o "com/example/oref/oref/wikipedia/Matches") (FC : Fld Z h0 o "com/example/oref/oref/wikipedia/Matches" "count" "I" (.int 4)) (FS : Fld Z h0 o "com/example/oref/oref/wikipedia/Matches" "starts" "[I" (.ref sa)) (FE : Fld Z h0 o "com/example/oref/oref/wikipedia/Matches" "ends" "[I" (.ref ea)) (AS : Arv Z h0 sa ks .int (8 : Int32) [(.int s0), (.int s1), (.int s2), (.int s3), (.int 0), (.int 0), (.int 0), (.int 0)] (.int 0)) (AE : Arv Z h0 ea ke .int (8 : Int32) [(.int u0), (.int u1), (.int u2), (.int u3), (.int 0), (.int 0), (.int 0), (.int 0)] (.int 0)) (n1 : sa ≠ ea) (n2 : o ≠ sa) (n3 : o ≠ ea) :
   Con l Z n0 (⟨"com/example/oref/oref/wikipedia/Matches", "add", "(II)V"⟩ : MethodName) prog_29_method_3_code 3 none [] ({ frames := 0, cells := 0, slots := 0, locals := 0 } : Room) #[(.ref o), (.int i), (.int j)] h0 [o, sa, ea] (fun v h' => v = none ∧ Exa Z h' o "com/example/oref/oref/wikipedia/Matches" ∧ Fld Z h' o "com/example/oref/oref/wikipedia/Matches" "count" "I" (.int 5) ∧ Fld Z h' o "com/example/oref/oref/wikipedia/Matches" "starts" "[I" (.ref sa) ∧ Fld Z h' o "com/example/oref/oref/wikipedia/Matches" "ends" "[I" (.ref ea) ∧ Arv Z h' sa ks .int (8 : Int32) [(.int s0), (.int s1), (.int s2), (.int s3), (.int i), (.int 0), (.int 0), (.int 0)] (.int 0) ∧ Arv Z h' ea ke .int (8 : Int32) [(.int u0), (.int u1), (.int u2), (.int u3), (.int j), (.int 0), (.int 0), (.int 0)] (.int 0)) := by
  refine Con.of a0 (plainFor_of_name own_pn_24) O (by simp [ge_o, ge_sa, ge_ea]) [] (fun _ q => nomatch q) ?_
  intro p e s m below meth cdX T S hby hml hret hnm
  have H := fun {k r} q => @hb _ _ hby k r q
  have W := @Tw a0 Z hw
  refine Go.cast (own_ef_23 m o i j) ?_
  refine S.aloadN 1 (H dr__0) rfl rfl (S.getf (host := "") 4 (H dr__1) (Or.inl (W 81 rfl)) Via.refl FC ?_)
  intro T1007 S1008
  refine S1008.aloadN 5 (H dr__4) rfl rfl (S1008.getf (host := "") 8 (H dr__5) (Or.inl (W 43 rfl)) Via.refl FS ?_)
  intro T1009 S1010
  refine S1010.alen 9 (H dr__8) AS ?_
  refine S1010.icmpY 46 (H dr__9) (qNeT (by decide)) (S1010.aloadN 47 (H dr__46) rfl rfl (S1010.getf (host := "") 50 (H dr__47) (Or.inl (W 43 rfl)) Via.refl FS ?_))
  intro T1011 S1012
  refine S1012.aloadN 51 (H dr__50) rfl rfl (S1012.getf (host := "") 54 (H dr__51) (Or.inl (W 81 rfl)) Via.refl FC ?_)
  intro T1013 S1014
  refine S1014.iloadN 55 (H dr__54) rfl (S1014.iastore 56 4 (H dr__55) AS ⟨by decide, by decide⟩ rfl (Nle rfl) (Or.inl (by simp)) ?_)
  intro T1015 h1016 L1017 S1018 W1019 A1020
  have f1021 : Arv Z h1016 sa ks .int (8 : Int32) [(.int s0), (.int s1), (.int s2), (.int s3), (.int i), (.int 0), (.int 0), (.int 0)] (.int 0) := A1020
  refine S1018.aloadN 57 (H dr__56) rfl rfl ?_
  have f1022 := (FE.other W1019 (Or.inl n2))
  refine S1018.getf (host := "") 60 (H dr__57) (Or.inl (W 45 rfl)) Via.refl f1022 ?_
  intro T1023 S1024
  refine S1024.aloadN 61 (H dr__60) rfl rfl ?_
  have f1025 := (FC.other W1019 (Or.inl n2))
  refine S1024.getf (host := "") 64 (H dr__61) (Or.inl (W 81 rfl)) Via.refl f1025 ?_
  intro T1026 S1027
  refine S1027.iloadN 65 (H dr__64) rfl ?_
  have f1028 := (AE.other W1019 (Ne.symm n1))
  refine S1027.iastore 66 4 (H dr__65) f1028 ⟨by decide, by decide⟩ rfl (Nle rfl) (Or.inl (by simp)) ?_
  intro T1029 h1030 L1031 S1032 W1033 A1034
  have f1035 : Arv Z h1030 ea ke .int (8 : Int32) [(.int u0), (.int u1), (.int u2), (.int u3), (.int j), (.int 0), (.int 0), (.int 0)] (.int 0) := A1034
  refine S1032.aloadN 67 (H dr__66) rfl rfl (S1032.dup 68 (H dr__67) rfl ?_)
  have f1036 := (f1025.other W1033 (Or.inl n3))
  refine S1032.getf (host := "") 71 (H dr__68) (Or.inl (W 81 rfl)) Via.refl f1036 ?_
  intro T1037 S1038
  refine S1038.iconst 72 (1 : Int32) (H dr__71) (S1038.iadd 73 (H dr__72) ?_)
  rw [show (4 + 1 : Int32) = 5 from by decide]
  have f1039 := ((E.wr W1019).wr W1033)
  refine S1038.putf (host := "") (ty := .int) 76 (H dr__73) (Or.inl (W 81 rfl)) Via.refl f1036 f1039 (Or.inl (W 82 rfl)) (W 36 rfl) (by decide) rfl rfl (Or.inl (by simp)) (Or.inl (by decide)) ?_
  intro T1040 h1041 L1042 S1043 W1044
  have f1045 := f1036.same W1044
  have f1046 := (f1039.wr W1044)
  have f1047 := (((FS.other W1019 (Or.inl n2)).other W1033 (Or.inl n3)).other W1044 (Or.inr (slot_ne (t := (.array .int)) (t' := .int) (Or.inl (W 44 rfl)) (Or.inl (W 82 rfl)) (by decide) (by decide) (by decide))))
  have f1048 := ((f1022.other W1033 (Or.inl n3)).other W1044 (Or.inr (slot_ne (t := (.array .int)) (t' := .int) (Or.inl (W 46 rfl)) (Or.inl (W 82 rfl)) (by decide) (by decide) (by decide))))
  have f1049 := ((f1021.other W1033 n1).other W1044 (Ne.symm n2))
  have f1050 := (f1035.other W1044 (Ne.symm n3))
  exact S1043.ret0 (H dr__76) hret (by decide) (by decide) ⟨rfl, f1046, f1045, f1047, f1048, f1049, f1050⟩

theorem own_ef_25 (m : MethodId) (x0 : Addr) (x1 : Addr) (x2 : Addr) : entryFrame m #[(.ref x0), (.ref x1), (.ref x2)] 4 = mkF m 0 #[vr x0, vr x1, vr x2, uN] [] := by rfl
theorem dq__0 : decode prog_29_method_2_code 0 = .ok (.aload_n 0, 1) := by decide +kernel
theorem dq__1 : decode prog_29_method_2_code 1 = .ok (.invokespecial 1, 3) := by decide +kernel
theorem dq__4 : decode prog_29_method_2_code 4 = .ok (.aload_n 0, 1) := by decide +kernel
theorem dq__5 : decode prog_29_method_2_code 5 = .ok (.bipush 8, 2) := by decide +kernel
theorem dq__7 : decode prog_29_method_2_code 7 = .ok (.newarray .int, 2) := by decide +kernel
theorem dq__9 : decode prog_29_method_2_code 9 = .ok (.putfield 7, 3) := by decide +kernel
theorem dq__12 : decode prog_29_method_2_code 12 = .ok (.aload_n 0, 1) := by decide +kernel
theorem dq__13 : decode prog_29_method_2_code 13 = .ok (.bipush 8, 2) := by decide +kernel
theorem dq__15 : decode prog_29_method_2_code 15 = .ok (.newarray .int, 2) := by decide +kernel
theorem dq__17 : decode prog_29_method_2_code 17 = .ok (.putfield 13, 3) := by decide +kernel
theorem dq__20 : decode prog_29_method_2_code 20 = .ok (.aload_n 1, 1) := by decide +kernel
theorem dq__21 : decode prog_29_method_2_code 21 = .ok (.aload_n 2, 1) := by decide +kernel
theorem dq__22 : decode prog_29_method_2_code 22 = .ok (.invokevirtual 22, 3) := by decide +kernel
theorem own_pd_26 : parseMethodDescriptor "(Ljava/lang/String;)I" = some ⟨[(.object "java/lang/String")], some .int⟩ := by decide +kernel
theorem dq__25 : decode prog_29_method_2_code 25 = .ok (.istore_n 3, 1) := by decide +kernel
theorem dq__26 : decode prog_29_method_2_code 26 = .ok (.iload_n 3, 1) := by decide +kernel
theorem dq__27 : decode prog_29_method_2_code 27 = .ok (.ifCond .lt 29, 3) := by decide +kernel
theorem dq__56 : decode prog_29_method_2_code 56 = .ok (.return_, 1) := by decide +kernel
theorem dq__30 : decode prog_29_method_2_code 30 = .ok (.aload_n 0, 1) := by decide +kernel
theorem dq__31 : decode prog_29_method_2_code 31 = .ok (.iload_n 3, 1) := by decide +kernel
theorem dq__32 : decode prog_29_method_2_code 32 = .ok (.iload_n 3, 1) := by decide +kernel
theorem dq__33 : decode prog_29_method_2_code 33 = .ok (.aload_n 2, 1) := by decide +kernel
theorem dq__34 : decode prog_29_method_2_code 34 = .ok (.invokevirtual 28, 3) := by decide +kernel
theorem dq__37 : decode prog_29_method_2_code 37 = .ok (.iadd, 1) := by decide +kernel
theorem dq__38 : decode prog_29_method_2_code 38 = .ok (.invokevirtual 45, 3) := by decide +kernel
theorem own_pd_27 : parseMethodDescriptor "(II)V" = some ⟨[.int, .int], none⟩ := by decide +kernel
theorem dq__41 : decode prog_29_method_2_code 41 = .ok (.aload_n 1, 1) := by decide +kernel
theorem dq__42 : decode prog_29_method_2_code 42 = .ok (.aload_n 2, 1) := by decide +kernel
theorem dq__43 : decode prog_29_method_2_code 43 = .ok (.iload_n 3, 1) := by decide +kernel
theorem dq__44 : decode prog_29_method_2_code 44 = .ok (.aload_n 2, 1) := by decide +kernel
theorem dq__45 : decode prog_29_method_2_code 45 = .ok (.invokevirtual 28, 3) := by decide +kernel
theorem dq__48 : decode prog_29_method_2_code 48 = .ok (.iadd, 1) := by decide +kernel
theorem dq__49 : decode prog_29_method_2_code 49 = .ok (.invokevirtual 49, 3) := by decide +kernel
theorem own_pd_28 : parseMethodDescriptor "(Ljava/lang/String;I)I" = some ⟨[(.object "java/lang/String"), .int], some .int⟩ := by decide +kernel
theorem dq__52 : decode prog_29_method_2_code 52 = .ok (.istore_n 3, 1) := by decide +kernel
theorem dq__53 : decode prog_29_method_2_code 53 = .ok (.goto (-27), 3) := by decide +kernel
set_option maxRecDepth 65536 in
set_option maxHeartbeats 4000000 in
theorem own_mi_1 (l : Launch) (Z : State) (a0 : Array Value) (hw : ∀ d ∈ tables_1, d.before a0 Z = true) (cm : Com Z) (h0 : Heap) (n0 : Nat) (O : Old Z n0 h0) (o : Addr) (a : Addr) (b : Addr) (ta : Addr) (ka : ClassId) (da : Value) (x0 : Int32) (x1 : Int32) (x2 : Int32) (x3 : Int32) (x4 : Int32) (tb : Addr) (kb : ClassId) (db : Value) (y0 : Int32) (b0 : Bool) (b1 : Bool) (b2 : Bool) (b3 : Bool) (b4 : Bool) (ge_o : n0 ≤ o) (EM : Exa Z h0 o "com/example/oref/oref/wikipedia/Matches") (MC : Fld Z h0 o "com/example/oref/oref/wikipedia/Matches" "count" "I" (.int 0)) (MS : Fld Z h0 o "com/example/oref/oref/wikipedia/Matches" "starts" "[I" .null) (ME : Fld Z h0 o "com/example/oref/oref/wikipedia/Matches" "ends" "[I" .null) (EA : Exa Z h0 a "java/lang/String") (FAV : Fld Z h0 a "java/lang/String" "value" "[B" (.ref ta)) (FAC : Fld Z h0 a "java/lang/String" "coder" "B" (.int 0)) (EB : Exa Z h0 b "java/lang/String") (FBV : Fld Z h0 b "java/lang/String" "value" "[B" (.ref tb)) (FBC : Fld Z h0 b "java/lang/String" "coder" "B" (.int 0)) (AA : Arv Z h0 ta ka .byte (5 : Int32) [(.int x0), (.int x1), (.int x2), (.int x3), (.int x4)] da) (AB : Arv Z h0 tb kb .byte (1 : Int32) [(.int y0)] db) (e0 : b0 = decide (x0 = y0)) (e1 : b1 = decide (x1 = y0)) (e2 : b2 = decide (x2 = y0)) (e3 : b3 = decide (x3 = y0)) (e4 : b4 = decide (x4 = y0)) (nta : ta ≠ o) (ntb : tb ≠ o) :
   Con l Z n0 (⟨"com/example/oref/oref/wikipedia/Matches", "<init>", "(Ljava/lang/String;Ljava/lang/String;)V"⟩ : MethodName) prog_29_method_2_code 4 none [] ({ frames := 4, cells := 2, slots := 16, locals := 110 } : Room) #[(.ref o), (.ref a), (.ref b)] h0 [o] (fun v h' => v = none ∧ Mat Z h' o (own_scan1 [(b0, 0, 1), (b1, 1, 2), (b2, 2, 3), (b3, 3, 4), (b4, 4, 5)])) := by
  refine Con.of a0 (plainFor_of_name own_pn_24) O (by simp [ge_o]) [] (fun _ q => nomatch q) ?_
  intro p e s m below meth cdX T S hby hml hret hnm
  have H := fun {k r} q => @hb _ _ hby k r q
  have W := @Tw a0 Z hw
  refine Go.cast (own_ef_25 m o a b) ?_
  have FA : SB Z h0 a ta ka 5 [(.int x0), (.int x1), (.int x2), (.int x3), (.int x4)] da := ⟨EA, FAV, FAC, AA⟩
  have FB : SB Z h0 b tb kb 1 [(.int y0)] db := ⟨EB, FBV, FBC, AB⟩
  have nao : a ≠ o := Exa.ne EA EM (by decide)
  have nbo : b ≠ o := Exa.ne EB EM (by decide)
  refine S.aloadN 1 (H dq__0) rfl rfl (S.initO (W := 0) 4 (H dq__1) hml.symm (W 41 rfl) (W 17 rfl) (W 18 rfl) (by decide) (Nle rfl) (by decide) ?_)
  intro T1051 S1052
  refine S1052.aloadN 5 (H dq__4) rfl rfl (S1052.bipush 7 (8 : Int32) (H dq__5) (S1052.newarr 9 8 (H dq__7) (W 42 rfl) (by decide) (by decide) (by decide) (by decide) (by decide) ?_))
  intro T1053 h1054 b1055 k1056 S1057 E1058 g1059 wo1060 A1061
  have l1062 : a < b1055 := (by rw [g1059]; exact FA.lt)
  have l1063 : ta < b1055 := (by rw [g1059]; exact FA.lt')
  have l1064 : b < b1055 := (by rw [g1059]; exact FB.lt)
  have l1065 : tb < b1055 := (by rw [g1059]; exact FB.lt')
  have l1066 : o < b1055 := (by rw [g1059]; exact EM.lt)
  have f1067 : Arv Z h1054 b1055 k1056 .int (8 : Int32) [(.int 0), (.int 0), (.int 0), (.int 0), (.int 0), (.int 0), (.int 0), (.int 0)] (.int 0) := A1061.pad (pad_rep [] (.int 0) 8)
  have f1068 := (MS.ext E1058)
  have f1069 := (EM.ext E1058)
  refine S1057.putf (host := "") (ty := (.array .int)) 12 (H dq__9) (Or.inl (W 43 rfl)) Via.refl f1068 f1069 (Or.inl (W 44 rfl)) (W 36 rfl) (by decide) rfl rfl (Or.inl (by simp)) (Or.inl (by decide)) ?_
  intro T1070 h1071 L1072 S1073 W1074
  have f1075 := f1068.same W1074
  refine S1073.aloadN 13 (H dq__12) rfl rfl (S1073.bipush 15 (8 : Int32) (H dq__13) (S1073.newarr 17 8 (H dq__15) (W 42 rfl) (by decide) (by decide) (by decide) (by decide) (by decide) ?_))
  intro T1076 h1077 b1078 k1079 S1080 E1081 g1082 wo1083 A1084
  have f1085 := ((FA.ext E1058).wr W1074 nao nta)
  have l1086 : a < b1078 := (by rw [g1082]; exact f1085.lt)
  have f1087 := ((FA.ext E1058).wr W1074 nao nta)
  have l1088 : ta < b1078 := (by rw [g1082]; exact f1087.lt')
  have f1089 := ((FB.ext E1058).wr W1074 nbo ntb)
  have l1090 : b < b1078 := (by rw [g1082]; exact f1089.lt)
  have f1091 := ((FB.ext E1058).wr W1074 nbo ntb)
  have l1092 : tb < b1078 := (by rw [g1082]; exact f1091.lt')
  have f1093 := (f1069.wr W1074)
  have l1094 : o < b1078 := (by rw [g1082]; exact f1093.lt)
  have f1095 := (f1067.other W1074 (Nat.ne_of_gt l1066))
  have l1096 : b1055 < b1078 := (by rw [g1082]; exact f1095.lt)
  have f1097 : Arv Z h1077 b1078 k1079 .int (8 : Int32) [(.int 0), (.int 0), (.int 0), (.int 0), (.int 0), (.int 0), (.int 0), (.int 0)] (.int 0) := A1084.pad (pad_rep [] (.int 0) 8)
  have f1098 := (((ME.ext E1058).other W1074 (Or.inr (slot_ne (t := (.array .int)) (t' := (.array .int)) (Or.inl (W 46 rfl)) (Or.inl (W 44 rfl)) (by decide) (by decide) (by decide)))).ext E1081)
  have f1099 := (f1093.ext E1081)
  refine S1080.putf (host := "") (ty := (.array .int)) 20 (H dq__17) (Or.inl (W 45 rfl)) Via.refl f1098 f1099 (Or.inl (W 46 rfl)) (W 36 rfl) (by decide) rfl rfl (Or.inl (by simp)) (Or.inl (by decide)) ?_
  intro T1100 h1101 L1102 S1103 W1104
  have f1105 := f1098.same W1104
  refine S1103.aloadN 21 (H dq__20) rfl rfl (S1103.aloadN 22 (H dq__21) rfl rfl ?_)
  have f1106 := ((f1087.ext E1081).wr W1104 nao nta)
  have f1107 := ((f1091.ext E1081).wr W1104 nbo ntb)
  refine S1103.vcall 25 (H dq__22) hml.symm (W 47 rfl) (W 48 rfl) (W 50 rfl) (W 49 rfl) (nfSel (W 50 rfl)) (by decide) f1106.1 [(.ref b)] [] (Con.pay (W := 0) (own_i1_1 l Z a0 hw cm h1101 n0 S1103.old a b ta ka da x0 x1 x2 x3 x4 tb kb db y0 b0 b1 b2 b3 b4 f1106.1 f1106.2.1 f1106.2.2.1 f1107.1 f1107.2.1 f1107.2.2.1 f1106.2.2.2 f1107.2.2.2 e0 e1 e2 e3 e4) (W 51 rfl) (W 8 rfl) (by decide) (by decide)) (lenOf own_pd_26 rfl) rfl (Nle rfl) (by decide) (by decide) Wrs.nil ?_
  intro v1108 T1109 h1110 L1111 S1112 q1113 K1114
  obtain ⟨rfl, e_q1113⟩ := q1113
  obtain rfl := e_q1113.symm
  have f1115 := (f1099.wr W1104)
  have f1116 := ((((MC.ext E1058).other W1074 (Or.inr (slot_ne (t := .int) (t' := (.array .int)) (Or.inl (W 82 rfl)) (Or.inl (W 44 rfl)) (by decide) (by decide) (by decide)))).ext E1081).other W1104 (Or.inr (slot_ne (t := .int) (t' := (.array .int)) (Or.inl (W 82 rfl)) (Or.inl (W 46 rfl)) (by decide) (by decide) (by decide))))
  have f1117 := ((f1075.ext E1081).other W1104 (Or.inr (slot_ne (t := (.array .int)) (t' := (.array .int)) (Or.inl (W 44 rfl)) (Or.inl (W 46 rfl)) (by decide) (by decide) (by decide))))
  have f1118 := ((f1095.ext E1081).other W1104 (Nat.ne_of_gt l1066))
  have f1119 := (f1097.other W1104 (Nat.ne_of_gt l1094))
  show Go p e below _ T1109 (mkF m 25 #[vr o, vr a, vr b, uN] [(.int (own_nx [(b0, 0), (b1, 1), (b2, 2), (b3, 3), (b4, 4)]))])
  rcases b0 with _ | _
  ·skip
   show Go p e below _ T1109 (mkF m 25 #[vr o, vr a, vr b, uN] [(.int (own_nx [(b1, 1), (b2, 2), (b3, 3), (b4, 4)]))])
   rcases b1 with _ | _
   ·skip
    show Go p e below _ T1109 (mkF m 25 #[vr o, vr a, vr b, uN] [(.int (own_nx [(b2, 2), (b3, 3), (b4, 4)]))])
    rcases b2 with _ | _
    ·skip
     show Go p e below _ T1109 (mkF m 25 #[vr o, vr a, vr b, uN] [(.int (own_nx [(b3, 3), (b4, 4)]))])
     rcases b3 with _ | _
     ·skip
      show Go p e below _ T1109 (mkF m 25 #[vr o, vr a, vr b, uN] [(.int (own_nx [(b4, 4)]))])
      rcases b4 with _ | _
      ·skip
       show Go p e below _ T1109 (mkF m 25 #[vr o, vr a, vr b, uN] [(.int (-1))])
       refine S1112.istoreN 26 #[vr o, vr a, vr b, vi (-1)] (H dq__25) rfl (S1112.iloadN 27 (H dq__26) rfl (S1112.ifY 56 (H dq__27) (zLtT (by decide)) ?_))
       exact S1112.ret0 (H dq__56) hret (by decide) (by decide) ⟨rfl, _, _, _, _, f1115, f1116, f1117, f1105, f1118, f1119⟩
      ·skip
       show Go p e below _ T1109 (mkF m 25 #[vr o, vr a, vr b, uN] [(.int 4)])
       refine S1112.istoreN 26 #[vr o, vr a, vr b, vi 4] (H dq__25) rfl (S1112.iloadN 27 (H dq__26) rfl (S1112.ifN 30 (H dq__27) (zLtF (by decide)) (S1112.aloadN 31 (H dq__30) rfl rfl (S1112.iloadN 32 (H dq__31) rfl (S1112.iloadN 33 (H dq__32) rfl (S1112.aloadN 34 (H dq__33) rfl rfl ?_))))))
       refine S1112.vcall 37 (H dq__34) hml.symm (W 93 rfl) (W 94 rfl) (W 96 rfl) (W 95 rfl) (nfSel (W 96 rfl)) (by decide) f1107.1 [] [(.int 4), (.int 4), (.ref o)] (Con.pay (W := 3) (own_len_1 l Z a0 hw cm h1101 n0 S1112.old b tb kb [(.int y0)] db f1107.1 f1107.2.1 f1107.2.2.1 f1107.2.2.2) (W 97 rfl) (W 8 rfl) (by decide) (by decide)) (lenOf own_pd_21 rfl) rfl (Nle rfl) (by decide) (by decide) Wrs.nil ?_
       intro v1120 T1121 h1122 L1123 S1124 q1125 K1126
       obtain ⟨rfl, e_q1125⟩ := q1125
       obtain rfl := e_q1125.symm
       show Go p e below _ T1121 (mkF m 37 #[vr o, vr a, vr b, vi 4] [(.int 1), (.int 4), (.int 4), (.ref o)])
       refine S1124.iadd 38 (H dq__37) ?_
       rw [show (4 + 1 : Int32) = 5 from by decide]
       refine S1124.pcall 41 (H dq__38) hml.symm (W 98 rfl) (W 99 rfl) (W 100 rfl) (W 101 rfl) (W 75 rfl) rfl (by decide) f1115 [(.int 4), (.int 5)] [] (Con.pay (W := 0) (own_add_0 l Z a0 hw h1101 n0 S1124.old o b1055 b1078 k1056 k1079 (4 : Int32) (5 : Int32) (S1124.ge (Or.inl (by simp))) (S1124.ge wo1060) (S1124.ge wo1083) f1115 f1116 f1117 f1105 f1118 f1119 (Nat.ne_of_lt l1096) (Nat.ne_of_lt l1066) (Nat.ne_of_lt l1094)) (W 101 rfl) (W 37 rfl) (by decide) (by decide)) (lenOf own_pd_27 rfl) rfl (Nle rfl) (by decide) (by decide) (Wrs.three ⟨(Or.inl (by simp)), Or.inr ⟨_, f1115, by decide, by decide⟩⟩ ⟨wo1060, Or.inl (by simp)⟩ ⟨wo1083, Or.inl (by simp)⟩) ?_
       intro v1127 T1128 h1129 L1130 S1131 q1132 K1133
       obtain ⟨rfl, f1134, f1135, f1136, f1137, f1138, f1139⟩ := q1132
       show Go p e below _ T1128 (mkF m 41 #[vr o, vr a, vr b, vi 4] [])
       refine S1131.aloadN 42 (H dq__41) rfl rfl (S1131.aloadN 43 (H dq__42) rfl rfl (S1131.iloadN 44 (H dq__43) rfl (S1131.aloadN 45 (H dq__44) rfl rfl ?_)))
       have f1140 := (f1107.keep K1133 (ninS nbo (ninS (Nat.ne_of_lt l1064) (ninS (Nat.ne_of_lt l1090) nin0))) (ninS ntb (ninS (Nat.ne_of_lt l1065) (ninS (Nat.ne_of_lt l1092) nin0))))
       refine S1131.vcall 48 (H dq__45) hml.symm (W 93 rfl) (W 94 rfl) (W 96 rfl) (W 95 rfl) (nfSel (W 96 rfl)) (by decide) f1140.1 [] [(.int 4), (.ref b), (.ref a)] (Con.pay (W := 3) (own_len_1 l Z a0 hw cm h1129 n0 S1131.old b tb kb [(.int y0)] db f1140.1 f1140.2.1 f1140.2.2.1 f1140.2.2.2) (W 97 rfl) (W 8 rfl) (by decide) (by decide)) (lenOf own_pd_21 rfl) rfl (Nle rfl) (by decide) (by decide) Wrs.nil ?_
       intro v1141 T1142 h1143 L1144 S1145 q1146 K1147
       obtain ⟨rfl, e_q1146⟩ := q1146
       obtain rfl := e_q1146.symm
       show Go p e below _ T1142 (mkF m 48 #[vr o, vr a, vr b, vi 4] [(.int 1), (.int 4), (.ref b), (.ref a)])
       refine S1145.iadd 49 (H dq__48) ?_
       rw [show (4 + 1 : Int32) = 5 from by decide]
       have f1148 := (f1106.keep K1133 (ninS nao (ninS (Nat.ne_of_lt l1062) (ninS (Nat.ne_of_lt l1086) nin0))) (ninS nta (ninS (Nat.ne_of_lt l1063) (ninS (Nat.ne_of_lt l1088) nin0))))
       refine S1145.vcall 52 (H dq__49) hml.symm (W 102 rfl) (W 103 rfl) (W 105 rfl) (W 104 rfl) (nfSel (W 105 rfl)) (by decide) f1148.1 [(.ref b), (.int 5)] [] (Con.pay (W := 0) (own_i2_1_5 l Z a0 hw cm h1129 n0 S1145.old a b ta ka da x0 x1 x2 x3 x4 tb kb db y0 f1148.1 f1148.2.1 f1148.2.2.1 f1140.1 f1140.2.1 f1140.2.2.1 f1148.2.2.2 f1140.2.2.2) (W 106 rfl) (W 8 rfl) (by decide) (by decide)) (lenOf own_pd_28 rfl) rfl (Nle rfl) (by decide) (by decide) Wrs.nil ?_
       intro v1149 T1150 h1151 L1152 S1153 q1154 K1155
       obtain ⟨rfl, e_q1154⟩ := q1154
       obtain rfl := e_q1154.symm
       show Go p e below _ T1150 (mkF m 52 #[vr o, vr a, vr b, vi 4] [(.int (own_nx []))])
       show Go p e below _ T1150 (mkF m 52 #[vr o, vr a, vr b, vi 4] [(.int (-1))])
       refine S1153.istoreN 53 #[vr o, vr a, vr b, vi (-1)] (H dq__52) rfl (S1153.goto 26 (H dq__53) (S1153.iloadN 27 (H dq__26) rfl (S1153.ifY 56 (H dq__27) (zLtT (by decide)) ?_)))
       exact S1153.ret0 (H dq__56) hret (by decide) (by decide) ⟨rfl, _, _, _, _, f1134, f1135, f1136, f1137, f1138, f1139⟩
     ·skip
      show Go p e below _ T1109 (mkF m 25 #[vr o, vr a, vr b, uN] [(.int 3)])
      refine S1112.istoreN 26 #[vr o, vr a, vr b, vi 3] (H dq__25) rfl (S1112.iloadN 27 (H dq__26) rfl (S1112.ifN 30 (H dq__27) (zLtF (by decide)) (S1112.aloadN 31 (H dq__30) rfl rfl (S1112.iloadN 32 (H dq__31) rfl (S1112.iloadN 33 (H dq__32) rfl (S1112.aloadN 34 (H dq__33) rfl rfl ?_))))))
      refine S1112.vcall 37 (H dq__34) hml.symm (W 93 rfl) (W 94 rfl) (W 96 rfl) (W 95 rfl) (nfSel (W 96 rfl)) (by decide) f1107.1 [] [(.int 3), (.int 3), (.ref o)] (Con.pay (W := 3) (own_len_1 l Z a0 hw cm h1101 n0 S1112.old b tb kb [(.int y0)] db f1107.1 f1107.2.1 f1107.2.2.1 f1107.2.2.2) (W 97 rfl) (W 8 rfl) (by decide) (by decide)) (lenOf own_pd_21 rfl) rfl (Nle rfl) (by decide) (by decide) Wrs.nil ?_
      intro v1156 T1157 h1158 L1159 S1160 q1161 K1162
      obtain ⟨rfl, e_q1161⟩ := q1161
      obtain rfl := e_q1161.symm
      show Go p e below _ T1157 (mkF m 37 #[vr o, vr a, vr b, vi 3] [(.int 1), (.int 3), (.int 3), (.ref o)])
      refine S1160.iadd 38 (H dq__37) ?_
      rw [show (3 + 1 : Int32) = 4 from by decide]
      refine S1160.pcall 41 (H dq__38) hml.symm (W 98 rfl) (W 99 rfl) (W 100 rfl) (W 101 rfl) (W 75 rfl) rfl (by decide) f1115 [(.int 3), (.int 4)] [] (Con.pay (W := 0) (own_add_0 l Z a0 hw h1101 n0 S1160.old o b1055 b1078 k1056 k1079 (3 : Int32) (4 : Int32) (S1160.ge (Or.inl (by simp))) (S1160.ge wo1060) (S1160.ge wo1083) f1115 f1116 f1117 f1105 f1118 f1119 (Nat.ne_of_lt l1096) (Nat.ne_of_lt l1066) (Nat.ne_of_lt l1094)) (W 101 rfl) (W 37 rfl) (by decide) (by decide)) (lenOf own_pd_27 rfl) rfl (Nle rfl) (by decide) (by decide) (Wrs.three ⟨(Or.inl (by simp)), Or.inr ⟨_, f1115, by decide, by decide⟩⟩ ⟨wo1060, Or.inl (by simp)⟩ ⟨wo1083, Or.inl (by simp)⟩) ?_
      intro v1163 T1164 h1165 L1166 S1167 q1168 K1169
      obtain ⟨rfl, f1170, f1171, f1172, f1173, f1174, f1175⟩ := q1168
      show Go p e below _ T1164 (mkF m 41 #[vr o, vr a, vr b, vi 3] [])
      refine S1167.aloadN 42 (H dq__41) rfl rfl (S1167.aloadN 43 (H dq__42) rfl rfl (S1167.iloadN 44 (H dq__43) rfl (S1167.aloadN 45 (H dq__44) rfl rfl ?_)))
      have f1176 := (f1107.keep K1169 (ninS nbo (ninS (Nat.ne_of_lt l1064) (ninS (Nat.ne_of_lt l1090) nin0))) (ninS ntb (ninS (Nat.ne_of_lt l1065) (ninS (Nat.ne_of_lt l1092) nin0))))
      refine S1167.vcall 48 (H dq__45) hml.symm (W 93 rfl) (W 94 rfl) (W 96 rfl) (W 95 rfl) (nfSel (W 96 rfl)) (by decide) f1176.1 [] [(.int 3), (.ref b), (.ref a)] (Con.pay (W := 3) (own_len_1 l Z a0 hw cm h1165 n0 S1167.old b tb kb [(.int y0)] db f1176.1 f1176.2.1 f1176.2.2.1 f1176.2.2.2) (W 97 rfl) (W 8 rfl) (by decide) (by decide)) (lenOf own_pd_21 rfl) rfl (Nle rfl) (by decide) (by decide) Wrs.nil ?_
      intro v1177 T1178 h1179 L1180 S1181 q1182 K1183
      obtain ⟨rfl, e_q1182⟩ := q1182
      obtain rfl := e_q1182.symm
      show Go p e below _ T1178 (mkF m 48 #[vr o, vr a, vr b, vi 3] [(.int 1), (.int 3), (.ref b), (.ref a)])
      refine S1181.iadd 49 (H dq__48) ?_
      rw [show (3 + 1 : Int32) = 4 from by decide]
      have f1184 := (f1106.keep K1169 (ninS nao (ninS (Nat.ne_of_lt l1062) (ninS (Nat.ne_of_lt l1086) nin0))) (ninS nta (ninS (Nat.ne_of_lt l1063) (ninS (Nat.ne_of_lt l1088) nin0))))
      refine S1181.vcall 52 (H dq__49) hml.symm (W 102 rfl) (W 103 rfl) (W 105 rfl) (W 104 rfl) (nfSel (W 105 rfl)) (by decide) f1184.1 [(.ref b), (.int 4)] [] (Con.pay (W := 0) (own_i2_1_4 l Z a0 hw cm h1165 n0 S1181.old a b ta ka da x0 x1 x2 x3 x4 tb kb db y0 b4 f1184.1 f1184.2.1 f1184.2.2.1 f1176.1 f1176.2.1 f1176.2.2.1 f1184.2.2.2 f1176.2.2.2 e4) (W 106 rfl) (W 8 rfl) (by decide) (by decide)) (lenOf own_pd_28 rfl) rfl (Nle rfl) (by decide) (by decide) Wrs.nil ?_
      intro v1185 T1186 h1187 L1188 S1189 q1190 K1191
      obtain ⟨rfl, e_q1190⟩ := q1190
      obtain rfl := e_q1190.symm
      show Go p e below _ T1186 (mkF m 52 #[vr o, vr a, vr b, vi 3] [(.int (own_nx [(b4, 4)]))])
      rcases b4 with _ | _
      ·skip
       show Go p e below _ T1186 (mkF m 52 #[vr o, vr a, vr b, vi 3] [(.int (-1))])
       refine S1189.istoreN 53 #[vr o, vr a, vr b, vi (-1)] (H dq__52) rfl (S1189.goto 26 (H dq__53) (S1189.iloadN 27 (H dq__26) rfl (S1189.ifY 56 (H dq__27) (zLtT (by decide)) ?_)))
       exact S1189.ret0 (H dq__56) hret (by decide) (by decide) ⟨rfl, _, _, _, _, f1170, f1171, f1172, f1173, f1174, f1175⟩
      ·skip
       show Go p e below _ T1186 (mkF m 52 #[vr o, vr a, vr b, vi 3] [(.int 4)])
       refine S1189.istoreN 53 #[vr o, vr a, vr b, vi 4] (H dq__52) rfl (S1189.goto 26 (H dq__53) (S1189.iloadN 27 (H dq__26) rfl (S1189.ifN 30 (H dq__27) (zLtF (by decide)) (S1189.aloadN 31 (H dq__30) rfl rfl (S1189.iloadN 32 (H dq__31) rfl (S1189.iloadN 33 (H dq__32) rfl ?_))))))
       refine S1189.aloadN 34 (H dq__33) rfl rfl (S1189.vcall 37 (H dq__34) hml.symm (W 93 rfl) (W 94 rfl) (W 96 rfl) (W 95 rfl) (nfSel (W 96 rfl)) (by decide) f1176.1 [] [(.int 4), (.int 4), (.ref o)] (Con.pay (W := 3) (own_len_1 l Z a0 hw cm h1165 n0 S1189.old b tb kb [(.int y0)] db f1176.1 f1176.2.1 f1176.2.2.1 f1176.2.2.2) (W 97 rfl) (W 8 rfl) (by decide) (by decide)) (lenOf own_pd_21 rfl) rfl (Nle rfl) (by decide) (by decide) Wrs.nil ?_)
       intro v1192 T1193 h1194 L1195 S1196 q1197 K1198
       obtain ⟨rfl, e_q1197⟩ := q1197
       obtain rfl := e_q1197.symm
       show Go p e below _ T1193 (mkF m 37 #[vr o, vr a, vr b, vi 4] [(.int 1), (.int 4), (.int 4), (.ref o)])
       refine S1196.iadd 38 (H dq__37) ?_
       rw [show (4 + 1 : Int32) = 5 from by decide]
       refine S1196.pcall 41 (H dq__38) hml.symm (W 98 rfl) (W 99 rfl) (W 100 rfl) (W 101 rfl) (W 75 rfl) rfl (by decide) f1170 [(.int 4), (.int 5)] [] (Con.pay (W := 0) (own_add_1 l Z a0 hw h1165 n0 S1196.old o b1055 b1078 k1056 k1079 (3 : Int32) (4 : Int32) (4 : Int32) (5 : Int32) (S1196.ge (Or.inl (by simp))) (S1196.ge wo1060) (S1196.ge wo1083) f1170 f1171 f1172 f1173 f1174 f1175 (Nat.ne_of_lt l1096) (Nat.ne_of_lt l1066) (Nat.ne_of_lt l1094)) (W 101 rfl) (W 37 rfl) (by decide) (by decide)) (lenOf own_pd_27 rfl) rfl (Nle rfl) (by decide) (by decide) (Wrs.three ⟨(Or.inl (by simp)), Or.inr ⟨_, f1170, by decide, by decide⟩⟩ ⟨wo1060, Or.inl (by simp)⟩ ⟨wo1083, Or.inl (by simp)⟩) ?_
       intro v1199 T1200 h1201 L1202 S1203 q1204 K1205
       obtain ⟨rfl, f1206, f1207, f1208, f1209, f1210, f1211⟩ := q1204
       show Go p e below _ T1200 (mkF m 41 #[vr o, vr a, vr b, vi 4] [])
       refine S1203.aloadN 42 (H dq__41) rfl rfl (S1203.aloadN 43 (H dq__42) rfl rfl (S1203.iloadN 44 (H dq__43) rfl (S1203.aloadN 45 (H dq__44) rfl rfl ?_)))
       have f1212 := (f1176.keep K1205 (ninS nbo (ninS (Nat.ne_of_lt l1064) (ninS (Nat.ne_of_lt l1090) nin0))) (ninS ntb (ninS (Nat.ne_of_lt l1065) (ninS (Nat.ne_of_lt l1092) nin0))))
       refine S1203.vcall 48 (H dq__45) hml.symm (W 93 rfl) (W 94 rfl) (W 96 rfl) (W 95 rfl) (nfSel (W 96 rfl)) (by decide) f1212.1 [] [(.int 4), (.ref b), (.ref a)] (Con.pay (W := 3) (own_len_1 l Z a0 hw cm h1201 n0 S1203.old b tb kb [(.int y0)] db f1212.1 f1212.2.1 f1212.2.2.1 f1212.2.2.2) (W 97 rfl) (W 8 rfl) (by decide) (by decide)) (lenOf own_pd_21 rfl) rfl (Nle rfl) (by decide) (by decide) Wrs.nil ?_
       intro v1213 T1214 h1215 L1216 S1217 q1218 K1219
       obtain ⟨rfl, e_q1218⟩ := q1218
       obtain rfl := e_q1218.symm
       show Go p e below _ T1214 (mkF m 48 #[vr o, vr a, vr b, vi 4] [(.int 1), (.int 4), (.ref b), (.ref a)])
       refine S1217.iadd 49 (H dq__48) ?_
       rw [show (4 + 1 : Int32) = 5 from by decide]
       have f1220 := (f1184.keep K1205 (ninS nao (ninS (Nat.ne_of_lt l1062) (ninS (Nat.ne_of_lt l1086) nin0))) (ninS nta (ninS (Nat.ne_of_lt l1063) (ninS (Nat.ne_of_lt l1088) nin0))))
       refine S1217.vcall 52 (H dq__49) hml.symm (W 102 rfl) (W 103 rfl) (W 105 rfl) (W 104 rfl) (nfSel (W 105 rfl)) (by decide) f1220.1 [(.ref b), (.int 5)] [] (Con.pay (W := 0) (own_i2_1_5 l Z a0 hw cm h1201 n0 S1217.old a b ta ka da x0 x1 x2 x3 x4 tb kb db y0 f1220.1 f1220.2.1 f1220.2.2.1 f1212.1 f1212.2.1 f1212.2.2.1 f1220.2.2.2 f1212.2.2.2) (W 106 rfl) (W 8 rfl) (by decide) (by decide)) (lenOf own_pd_28 rfl) rfl (Nle rfl) (by decide) (by decide) Wrs.nil ?_
       intro v1221 T1222 h1223 L1224 S1225 q1226 K1227
       obtain ⟨rfl, e_q1226⟩ := q1226
       obtain rfl := e_q1226.symm
       show Go p e below _ T1222 (mkF m 52 #[vr o, vr a, vr b, vi 4] [(.int (own_nx []))])
       show Go p e below _ T1222 (mkF m 52 #[vr o, vr a, vr b, vi 4] [(.int (-1))])
       refine S1225.istoreN 53 #[vr o, vr a, vr b, vi (-1)] (H dq__52) rfl (S1225.goto 26 (H dq__53) (S1225.iloadN 27 (H dq__26) rfl (S1225.ifY 56 (H dq__27) (zLtT (by decide)) ?_)))
       exact S1225.ret0 (H dq__56) hret (by decide) (by decide) ⟨rfl, _, _, _, _, f1206, f1207, f1208, f1209, f1210, f1211⟩
    ·skip
     show Go p e below _ T1109 (mkF m 25 #[vr o, vr a, vr b, uN] [(.int 2)])
     refine S1112.istoreN 26 #[vr o, vr a, vr b, vi 2] (H dq__25) rfl (S1112.iloadN 27 (H dq__26) rfl (S1112.ifN 30 (H dq__27) (zLtF (by decide)) (S1112.aloadN 31 (H dq__30) rfl rfl (S1112.iloadN 32 (H dq__31) rfl (S1112.iloadN 33 (H dq__32) rfl (S1112.aloadN 34 (H dq__33) rfl rfl ?_))))))
     refine S1112.vcall 37 (H dq__34) hml.symm (W 93 rfl) (W 94 rfl) (W 96 rfl) (W 95 rfl) (nfSel (W 96 rfl)) (by decide) f1107.1 [] [(.int 2), (.int 2), (.ref o)] (Con.pay (W := 3) (own_len_1 l Z a0 hw cm h1101 n0 S1112.old b tb kb [(.int y0)] db f1107.1 f1107.2.1 f1107.2.2.1 f1107.2.2.2) (W 97 rfl) (W 8 rfl) (by decide) (by decide)) (lenOf own_pd_21 rfl) rfl (Nle rfl) (by decide) (by decide) Wrs.nil ?_
     intro v1228 T1229 h1230 L1231 S1232 q1233 K1234
     obtain ⟨rfl, e_q1233⟩ := q1233
     obtain rfl := e_q1233.symm
     show Go p e below _ T1229 (mkF m 37 #[vr o, vr a, vr b, vi 2] [(.int 1), (.int 2), (.int 2), (.ref o)])
     refine S1232.iadd 38 (H dq__37) ?_
     rw [show (2 + 1 : Int32) = 3 from by decide]
     refine S1232.pcall 41 (H dq__38) hml.symm (W 98 rfl) (W 99 rfl) (W 100 rfl) (W 101 rfl) (W 75 rfl) rfl (by decide) f1115 [(.int 2), (.int 3)] [] (Con.pay (W := 0) (own_add_0 l Z a0 hw h1101 n0 S1232.old o b1055 b1078 k1056 k1079 (2 : Int32) (3 : Int32) (S1232.ge (Or.inl (by simp))) (S1232.ge wo1060) (S1232.ge wo1083) f1115 f1116 f1117 f1105 f1118 f1119 (Nat.ne_of_lt l1096) (Nat.ne_of_lt l1066) (Nat.ne_of_lt l1094)) (W 101 rfl) (W 37 rfl) (by decide) (by decide)) (lenOf own_pd_27 rfl) rfl (Nle rfl) (by decide) (by decide) (Wrs.three ⟨(Or.inl (by simp)), Or.inr ⟨_, f1115, by decide, by decide⟩⟩ ⟨wo1060, Or.inl (by simp)⟩ ⟨wo1083, Or.inl (by simp)⟩) ?_
     intro v1235 T1236 h1237 L1238 S1239 q1240 K1241
     obtain ⟨rfl, f1242, f1243, f1244, f1245, f1246, f1247⟩ := q1240
     show Go p e below _ T1236 (mkF m 41 #[vr o, vr a, vr b, vi 2] [])
     refine S1239.aloadN 42 (H dq__41) rfl rfl (S1239.aloadN 43 (H dq__42) rfl rfl (S1239.iloadN 44 (H dq__43) rfl (S1239.aloadN 45 (H dq__44) rfl rfl ?_)))
     have f1248 := (f1107.keep K1241 (ninS nbo (ninS (Nat.ne_of_lt l1064) (ninS (Nat.ne_of_lt l1090) nin0))) (ninS ntb (ninS (Nat.ne_of_lt l1065) (ninS (Nat.ne_of_lt l1092) nin0))))
     refine S1239.vcall 48 (H dq__45) hml.symm (W 93 rfl) (W 94 rfl) (W 96 rfl) (W 95 rfl) (nfSel (W 96 rfl)) (by decide) f1248.1 [] [(.int 2), (.ref b), (.ref a)] (Con.pay (W := 3) (own_len_1 l Z a0 hw cm h1237 n0 S1239.old b tb kb [(.int y0)] db f1248.1 f1248.2.1 f1248.2.2.1 f1248.2.2.2) (W 97 rfl) (W 8 rfl) (by decide) (by decide)) (lenOf own_pd_21 rfl) rfl (Nle rfl) (by decide) (by decide) Wrs.nil ?_
     intro v1249 T1250 h1251 L1252 S1253 q1254 K1255
     obtain ⟨rfl, e_q1254⟩ := q1254
     obtain rfl := e_q1254.symm
     show Go p e below _ T1250 (mkF m 48 #[vr o, vr a, vr b, vi 2] [(.int 1), (.int 2), (.ref b), (.ref a)])
     refine S1253.iadd 49 (H dq__48) ?_
     rw [show (2 + 1 : Int32) = 3 from by decide]
     have f1256 := (f1106.keep K1241 (ninS nao (ninS (Nat.ne_of_lt l1062) (ninS (Nat.ne_of_lt l1086) nin0))) (ninS nta (ninS (Nat.ne_of_lt l1063) (ninS (Nat.ne_of_lt l1088) nin0))))
     refine S1253.vcall 52 (H dq__49) hml.symm (W 102 rfl) (W 103 rfl) (W 105 rfl) (W 104 rfl) (nfSel (W 105 rfl)) (by decide) f1256.1 [(.ref b), (.int 3)] [] (Con.pay (W := 0) (own_i2_1_3 l Z a0 hw cm h1237 n0 S1253.old a b ta ka da x0 x1 x2 x3 x4 tb kb db y0 b3 b4 f1256.1 f1256.2.1 f1256.2.2.1 f1248.1 f1248.2.1 f1248.2.2.1 f1256.2.2.2 f1248.2.2.2 e3 e4) (W 106 rfl) (W 8 rfl) (by decide) (by decide)) (lenOf own_pd_28 rfl) rfl (Nle rfl) (by decide) (by decide) Wrs.nil ?_
     intro v1257 T1258 h1259 L1260 S1261 q1262 K1263
     obtain ⟨rfl, e_q1262⟩ := q1262
     obtain rfl := e_q1262.symm
     show Go p e below _ T1258 (mkF m 52 #[vr o, vr a, vr b, vi 2] [(.int (own_nx [(b3, 3), (b4, 4)]))])
     rcases b3 with _ | _
     ·skip
      show Go p e below _ T1258 (mkF m 52 #[vr o, vr a, vr b, vi 2] [(.int (own_nx [(b4, 4)]))])
      rcases b4 with _ | _
      ·skip
       show Go p e below _ T1258 (mkF m 52 #[vr o, vr a, vr b, vi 2] [(.int (-1))])
       refine S1261.istoreN 53 #[vr o, vr a, vr b, vi (-1)] (H dq__52) rfl (S1261.goto 26 (H dq__53) (S1261.iloadN 27 (H dq__26) rfl (S1261.ifY 56 (H dq__27) (zLtT (by decide)) ?_)))
       exact S1261.ret0 (H dq__56) hret (by decide) (by decide) ⟨rfl, _, _, _, _, f1242, f1243, f1244, f1245, f1246, f1247⟩
      ·skip
       show Go p e below _ T1258 (mkF m 52 #[vr o, vr a, vr b, vi 2] [(.int 4)])
       refine S1261.istoreN 53 #[vr o, vr a, vr b, vi 4] (H dq__52) rfl (S1261.goto 26 (H dq__53) (S1261.iloadN 27 (H dq__26) rfl (S1261.ifN 30 (H dq__27) (zLtF (by decide)) (S1261.aloadN 31 (H dq__30) rfl rfl (S1261.iloadN 32 (H dq__31) rfl (S1261.iloadN 33 (H dq__32) rfl ?_))))))
       refine S1261.aloadN 34 (H dq__33) rfl rfl (S1261.vcall 37 (H dq__34) hml.symm (W 93 rfl) (W 94 rfl) (W 96 rfl) (W 95 rfl) (nfSel (W 96 rfl)) (by decide) f1248.1 [] [(.int 4), (.int 4), (.ref o)] (Con.pay (W := 3) (own_len_1 l Z a0 hw cm h1237 n0 S1261.old b tb kb [(.int y0)] db f1248.1 f1248.2.1 f1248.2.2.1 f1248.2.2.2) (W 97 rfl) (W 8 rfl) (by decide) (by decide)) (lenOf own_pd_21 rfl) rfl (Nle rfl) (by decide) (by decide) Wrs.nil ?_)
       intro v1264 T1265 h1266 L1267 S1268 q1269 K1270
       obtain ⟨rfl, e_q1269⟩ := q1269
       obtain rfl := e_q1269.symm
       show Go p e below _ T1265 (mkF m 37 #[vr o, vr a, vr b, vi 4] [(.int 1), (.int 4), (.int 4), (.ref o)])
       refine S1268.iadd 38 (H dq__37) ?_
       rw [show (4 + 1 : Int32) = 5 from by decide]
       refine S1268.pcall 41 (H dq__38) hml.symm (W 98 rfl) (W 99 rfl) (W 100 rfl) (W 101 rfl) (W 75 rfl) rfl (by decide) f1242 [(.int 4), (.int 5)] [] (Con.pay (W := 0) (own_add_1 l Z a0 hw h1237 n0 S1268.old o b1055 b1078 k1056 k1079 (2 : Int32) (3 : Int32) (4 : Int32) (5 : Int32) (S1268.ge (Or.inl (by simp))) (S1268.ge wo1060) (S1268.ge wo1083) f1242 f1243 f1244 f1245 f1246 f1247 (Nat.ne_of_lt l1096) (Nat.ne_of_lt l1066) (Nat.ne_of_lt l1094)) (W 101 rfl) (W 37 rfl) (by decide) (by decide)) (lenOf own_pd_27 rfl) rfl (Nle rfl) (by decide) (by decide) (Wrs.three ⟨(Or.inl (by simp)), Or.inr ⟨_, f1242, by decide, by decide⟩⟩ ⟨wo1060, Or.inl (by simp)⟩ ⟨wo1083, Or.inl (by simp)⟩) ?_
       intro v1271 T1272 h1273 L1274 S1275 q1276 K1277
       obtain ⟨rfl, f1278, f1279, f1280, f1281, f1282, f1283⟩ := q1276
       show Go p e below _ T1272 (mkF m 41 #[vr o, vr a, vr b, vi 4] [])
       refine S1275.aloadN 42 (H dq__41) rfl rfl (S1275.aloadN 43 (H dq__42) rfl rfl (S1275.iloadN 44 (H dq__43) rfl (S1275.aloadN 45 (H dq__44) rfl rfl ?_)))
       have f1284 := (f1248.keep K1277 (ninS nbo (ninS (Nat.ne_of_lt l1064) (ninS (Nat.ne_of_lt l1090) nin0))) (ninS ntb (ninS (Nat.ne_of_lt l1065) (ninS (Nat.ne_of_lt l1092) nin0))))
       refine S1275.vcall 48 (H dq__45) hml.symm (W 93 rfl) (W 94 rfl) (W 96 rfl) (W 95 rfl) (nfSel (W 96 rfl)) (by decide) f1284.1 [] [(.int 4), (.ref b), (.ref a)] (Con.pay (W := 3) (own_len_1 l Z a0 hw cm h1273 n0 S1275.old b tb kb [(.int y0)] db f1284.1 f1284.2.1 f1284.2.2.1 f1284.2.2.2) (W 97 rfl) (W 8 rfl) (by decide) (by decide)) (lenOf own_pd_21 rfl) rfl (Nle rfl) (by decide) (by decide) Wrs.nil ?_
       intro v1285 T1286 h1287 L1288 S1289 q1290 K1291
       obtain ⟨rfl, e_q1290⟩ := q1290
       obtain rfl := e_q1290.symm
       show Go p e below _ T1286 (mkF m 48 #[vr o, vr a, vr b, vi 4] [(.int 1), (.int 4), (.ref b), (.ref a)])
       refine S1289.iadd 49 (H dq__48) ?_
       rw [show (4 + 1 : Int32) = 5 from by decide]
       have f1292 := (f1256.keep K1277 (ninS nao (ninS (Nat.ne_of_lt l1062) (ninS (Nat.ne_of_lt l1086) nin0))) (ninS nta (ninS (Nat.ne_of_lt l1063) (ninS (Nat.ne_of_lt l1088) nin0))))
       refine S1289.vcall 52 (H dq__49) hml.symm (W 102 rfl) (W 103 rfl) (W 105 rfl) (W 104 rfl) (nfSel (W 105 rfl)) (by decide) f1292.1 [(.ref b), (.int 5)] [] (Con.pay (W := 0) (own_i2_1_5 l Z a0 hw cm h1273 n0 S1289.old a b ta ka da x0 x1 x2 x3 x4 tb kb db y0 f1292.1 f1292.2.1 f1292.2.2.1 f1284.1 f1284.2.1 f1284.2.2.1 f1292.2.2.2 f1284.2.2.2) (W 106 rfl) (W 8 rfl) (by decide) (by decide)) (lenOf own_pd_28 rfl) rfl (Nle rfl) (by decide) (by decide) Wrs.nil ?_
       intro v1293 T1294 h1295 L1296 S1297 q1298 K1299
       obtain ⟨rfl, e_q1298⟩ := q1298
       obtain rfl := e_q1298.symm
       show Go p e below _ T1294 (mkF m 52 #[vr o, vr a, vr b, vi 4] [(.int (own_nx []))])
       show Go p e below _ T1294 (mkF m 52 #[vr o, vr a, vr b, vi 4] [(.int (-1))])
       refine S1297.istoreN 53 #[vr o, vr a, vr b, vi (-1)] (H dq__52) rfl (S1297.goto 26 (H dq__53) (S1297.iloadN 27 (H dq__26) rfl (S1297.ifY 56 (H dq__27) (zLtT (by decide)) ?_)))
       exact S1297.ret0 (H dq__56) hret (by decide) (by decide) ⟨rfl, _, _, _, _, f1278, f1279, f1280, f1281, f1282, f1283⟩
     ·skip
      show Go p e below _ T1258 (mkF m 52 #[vr o, vr a, vr b, vi 2] [(.int 3)])
      refine S1261.istoreN 53 #[vr o, vr a, vr b, vi 3] (H dq__52) rfl (S1261.goto 26 (H dq__53) (S1261.iloadN 27 (H dq__26) rfl (S1261.ifN 30 (H dq__27) (zLtF (by decide)) (S1261.aloadN 31 (H dq__30) rfl rfl (S1261.iloadN 32 (H dq__31) rfl (S1261.iloadN 33 (H dq__32) rfl ?_))))))
      refine S1261.aloadN 34 (H dq__33) rfl rfl (S1261.vcall 37 (H dq__34) hml.symm (W 93 rfl) (W 94 rfl) (W 96 rfl) (W 95 rfl) (nfSel (W 96 rfl)) (by decide) f1248.1 [] [(.int 3), (.int 3), (.ref o)] (Con.pay (W := 3) (own_len_1 l Z a0 hw cm h1237 n0 S1261.old b tb kb [(.int y0)] db f1248.1 f1248.2.1 f1248.2.2.1 f1248.2.2.2) (W 97 rfl) (W 8 rfl) (by decide) (by decide)) (lenOf own_pd_21 rfl) rfl (Nle rfl) (by decide) (by decide) Wrs.nil ?_)
      intro v1300 T1301 h1302 L1303 S1304 q1305 K1306
      obtain ⟨rfl, e_q1305⟩ := q1305
      obtain rfl := e_q1305.symm
      show Go p e below _ T1301 (mkF m 37 #[vr o, vr a, vr b, vi 3] [(.int 1), (.int 3), (.int 3), (.ref o)])
      refine S1304.iadd 38 (H dq__37) ?_
      rw [show (3 + 1 : Int32) = 4 from by decide]
      refine S1304.pcall 41 (H dq__38) hml.symm (W 98 rfl) (W 99 rfl) (W 100 rfl) (W 101 rfl) (W 75 rfl) rfl (by decide) f1242 [(.int 3), (.int 4)] [] (Con.pay (W := 0) (own_add_1 l Z a0 hw h1237 n0 S1304.old o b1055 b1078 k1056 k1079 (2 : Int32) (3 : Int32) (3 : Int32) (4 : Int32) (S1304.ge (Or.inl (by simp))) (S1304.ge wo1060) (S1304.ge wo1083) f1242 f1243 f1244 f1245 f1246 f1247 (Nat.ne_of_lt l1096) (Nat.ne_of_lt l1066) (Nat.ne_of_lt l1094)) (W 101 rfl) (W 37 rfl) (by decide) (by decide)) (lenOf own_pd_27 rfl) rfl (Nle rfl) (by decide) (by decide) (Wrs.three ⟨(Or.inl (by simp)), Or.inr ⟨_, f1242, by decide, by decide⟩⟩ ⟨wo1060, Or.inl (by simp)⟩ ⟨wo1083, Or.inl (by simp)⟩) ?_
      intro v1307 T1308 h1309 L1310 S1311 q1312 K1313
      obtain ⟨rfl, f1314, f1315, f1316, f1317, f1318, f1319⟩ := q1312
      show Go p e below _ T1308 (mkF m 41 #[vr o, vr a, vr b, vi 3] [])
      refine S1311.aloadN 42 (H dq__41) rfl rfl (S1311.aloadN 43 (H dq__42) rfl rfl (S1311.iloadN 44 (H dq__43) rfl (S1311.aloadN 45 (H dq__44) rfl rfl ?_)))
      have f1320 := (f1248.keep K1313 (ninS nbo (ninS (Nat.ne_of_lt l1064) (ninS (Nat.ne_of_lt l1090) nin0))) (ninS ntb (ninS (Nat.ne_of_lt l1065) (ninS (Nat.ne_of_lt l1092) nin0))))
      refine S1311.vcall 48 (H dq__45) hml.symm (W 93 rfl) (W 94 rfl) (W 96 rfl) (W 95 rfl) (nfSel (W 96 rfl)) (by decide) f1320.1 [] [(.int 3), (.ref b), (.ref a)] (Con.pay (W := 3) (own_len_1 l Z a0 hw cm h1309 n0 S1311.old b tb kb [(.int y0)] db f1320.1 f1320.2.1 f1320.2.2.1 f1320.2.2.2) (W 97 rfl) (W 8 rfl) (by decide) (by decide)) (lenOf own_pd_21 rfl) rfl (Nle rfl) (by decide) (by decide) Wrs.nil ?_
      intro v1321 T1322 h1323 L1324 S1325 q1326 K1327
      obtain ⟨rfl, e_q1326⟩ := q1326
      obtain rfl := e_q1326.symm
      show Go p e below _ T1322 (mkF m 48 #[vr o, vr a, vr b, vi 3] [(.int 1), (.int 3), (.ref b), (.ref a)])
      refine S1325.iadd 49 (H dq__48) ?_
      rw [show (3 + 1 : Int32) = 4 from by decide]
      have f1328 := (f1256.keep K1313 (ninS nao (ninS (Nat.ne_of_lt l1062) (ninS (Nat.ne_of_lt l1086) nin0))) (ninS nta (ninS (Nat.ne_of_lt l1063) (ninS (Nat.ne_of_lt l1088) nin0))))
      refine S1325.vcall 52 (H dq__49) hml.symm (W 102 rfl) (W 103 rfl) (W 105 rfl) (W 104 rfl) (nfSel (W 105 rfl)) (by decide) f1328.1 [(.ref b), (.int 4)] [] (Con.pay (W := 0) (own_i2_1_4 l Z a0 hw cm h1309 n0 S1325.old a b ta ka da x0 x1 x2 x3 x4 tb kb db y0 b4 f1328.1 f1328.2.1 f1328.2.2.1 f1320.1 f1320.2.1 f1320.2.2.1 f1328.2.2.2 f1320.2.2.2 e4) (W 106 rfl) (W 8 rfl) (by decide) (by decide)) (lenOf own_pd_28 rfl) rfl (Nle rfl) (by decide) (by decide) Wrs.nil ?_
      intro v1329 T1330 h1331 L1332 S1333 q1334 K1335
      obtain ⟨rfl, e_q1334⟩ := q1334
      obtain rfl := e_q1334.symm
      show Go p e below _ T1330 (mkF m 52 #[vr o, vr a, vr b, vi 3] [(.int (own_nx [(b4, 4)]))])
      rcases b4 with _ | _
      ·skip
       show Go p e below _ T1330 (mkF m 52 #[vr o, vr a, vr b, vi 3] [(.int (-1))])
       refine S1333.istoreN 53 #[vr o, vr a, vr b, vi (-1)] (H dq__52) rfl (S1333.goto 26 (H dq__53) (S1333.iloadN 27 (H dq__26) rfl (S1333.ifY 56 (H dq__27) (zLtT (by decide)) ?_)))
       exact S1333.ret0 (H dq__56) hret (by decide) (by decide) ⟨rfl, _, _, _, _, f1314, f1315, f1316, f1317, f1318, f1319⟩
      ·skip
       show Go p e below _ T1330 (mkF m 52 #[vr o, vr a, vr b, vi 3] [(.int 4)])
       refine S1333.istoreN 53 #[vr o, vr a, vr b, vi 4] (H dq__52) rfl (S1333.goto 26 (H dq__53) (S1333.iloadN 27 (H dq__26) rfl (S1333.ifN 30 (H dq__27) (zLtF (by decide)) (S1333.aloadN 31 (H dq__30) rfl rfl (S1333.iloadN 32 (H dq__31) rfl (S1333.iloadN 33 (H dq__32) rfl ?_))))))
       refine S1333.aloadN 34 (H dq__33) rfl rfl (S1333.vcall 37 (H dq__34) hml.symm (W 93 rfl) (W 94 rfl) (W 96 rfl) (W 95 rfl) (nfSel (W 96 rfl)) (by decide) f1320.1 [] [(.int 4), (.int 4), (.ref o)] (Con.pay (W := 3) (own_len_1 l Z a0 hw cm h1309 n0 S1333.old b tb kb [(.int y0)] db f1320.1 f1320.2.1 f1320.2.2.1 f1320.2.2.2) (W 97 rfl) (W 8 rfl) (by decide) (by decide)) (lenOf own_pd_21 rfl) rfl (Nle rfl) (by decide) (by decide) Wrs.nil ?_)
       intro v1336 T1337 h1338 L1339 S1340 q1341 K1342
       obtain ⟨rfl, e_q1341⟩ := q1341
       obtain rfl := e_q1341.symm
       show Go p e below _ T1337 (mkF m 37 #[vr o, vr a, vr b, vi 4] [(.int 1), (.int 4), (.int 4), (.ref o)])
       refine S1340.iadd 38 (H dq__37) ?_
       rw [show (4 + 1 : Int32) = 5 from by decide]
       refine S1340.pcall 41 (H dq__38) hml.symm (W 98 rfl) (W 99 rfl) (W 100 rfl) (W 101 rfl) (W 75 rfl) rfl (by decide) f1314 [(.int 4), (.int 5)] [] (Con.pay (W := 0) (own_add_2 l Z a0 hw h1309 n0 S1340.old o b1055 b1078 k1056 k1079 (2 : Int32) (3 : Int32) (3 : Int32) (4 : Int32) (4 : Int32) (5 : Int32) (S1340.ge (Or.inl (by simp))) (S1340.ge wo1060) (S1340.ge wo1083) f1314 f1315 f1316 f1317 f1318 f1319 (Nat.ne_of_lt l1096) (Nat.ne_of_lt l1066) (Nat.ne_of_lt l1094)) (W 101 rfl) (W 37 rfl) (by decide) (by decide)) (lenOf own_pd_27 rfl) rfl (Nle rfl) (by decide) (by decide) (Wrs.three ⟨(Or.inl (by simp)), Or.inr ⟨_, f1314, by decide, by decide⟩⟩ ⟨wo1060, Or.inl (by simp)⟩ ⟨wo1083, Or.inl (by simp)⟩) ?_
       intro v1343 T1344 h1345 L1346 S1347 q1348 K1349
       obtain ⟨rfl, f1350, f1351, f1352, f1353, f1354, f1355⟩ := q1348
       show Go p e below _ T1344 (mkF m 41 #[vr o, vr a, vr b, vi 4] [])
       refine S1347.aloadN 42 (H dq__41) rfl rfl (S1347.aloadN 43 (H dq__42) rfl rfl (S1347.iloadN 44 (H dq__43) rfl (S1347.aloadN 45 (H dq__44) rfl rfl ?_)))
       have f1356 := (f1320.keep K1349 (ninS nbo (ninS (Nat.ne_of_lt l1064) (ninS (Nat.ne_of_lt l1090) nin0))) (ninS ntb (ninS (Nat.ne_of_lt l1065) (ninS (Nat.ne_of_lt l1092) nin0))))
       refine S1347.vcall 48 (H dq__45) hml.symm (W 93 rfl) (W 94 rfl) (W 96 rfl) (W 95 rfl) (nfSel (W 96 rfl)) (by decide) f1356.1 [] [(.int 4), (.ref b), (.ref a)] (Con.pay (W := 3) (own_len_1 l Z a0 hw cm h1345 n0 S1347.old b tb kb [(.int y0)] db f1356.1 f1356.2.1 f1356.2.2.1 f1356.2.2.2) (W 97 rfl) (W 8 rfl) (by decide) (by decide)) (lenOf own_pd_21 rfl) rfl (Nle rfl) (by decide) (by decide) Wrs.nil ?_
       intro v1357 T1358 h1359 L1360 S1361 q1362 K1363
       obtain ⟨rfl, e_q1362⟩ := q1362
       obtain rfl := e_q1362.symm
       show Go p e below _ T1358 (mkF m 48 #[vr o, vr a, vr b, vi 4] [(.int 1), (.int 4), (.ref b), (.ref a)])
       refine S1361.iadd 49 (H dq__48) ?_
       rw [show (4 + 1 : Int32) = 5 from by decide]
       have f1364 := (f1328.keep K1349 (ninS nao (ninS (Nat.ne_of_lt l1062) (ninS (Nat.ne_of_lt l1086) nin0))) (ninS nta (ninS (Nat.ne_of_lt l1063) (ninS (Nat.ne_of_lt l1088) nin0))))
       refine S1361.vcall 52 (H dq__49) hml.symm (W 102 rfl) (W 103 rfl) (W 105 rfl) (W 104 rfl) (nfSel (W 105 rfl)) (by decide) f1364.1 [(.ref b), (.int 5)] [] (Con.pay (W := 0) (own_i2_1_5 l Z a0 hw cm h1345 n0 S1361.old a b ta ka da x0 x1 x2 x3 x4 tb kb db y0 f1364.1 f1364.2.1 f1364.2.2.1 f1356.1 f1356.2.1 f1356.2.2.1 f1364.2.2.2 f1356.2.2.2) (W 106 rfl) (W 8 rfl) (by decide) (by decide)) (lenOf own_pd_28 rfl) rfl (Nle rfl) (by decide) (by decide) Wrs.nil ?_
       intro v1365 T1366 h1367 L1368 S1369 q1370 K1371
       obtain ⟨rfl, e_q1370⟩ := q1370
       obtain rfl := e_q1370.symm
       show Go p e below _ T1366 (mkF m 52 #[vr o, vr a, vr b, vi 4] [(.int (own_nx []))])
       show Go p e below _ T1366 (mkF m 52 #[vr o, vr a, vr b, vi 4] [(.int (-1))])
       refine S1369.istoreN 53 #[vr o, vr a, vr b, vi (-1)] (H dq__52) rfl (S1369.goto 26 (H dq__53) (S1369.iloadN 27 (H dq__26) rfl (S1369.ifY 56 (H dq__27) (zLtT (by decide)) ?_)))
       exact S1369.ret0 (H dq__56) hret (by decide) (by decide) ⟨rfl, _, _, _, _, f1350, f1351, f1352, f1353, f1354, f1355⟩
   ·skip
    show Go p e below _ T1109 (mkF m 25 #[vr o, vr a, vr b, uN] [(.int 1)])
    refine S1112.istoreN 26 #[vr o, vr a, vr b, vi 1] (H dq__25) rfl (S1112.iloadN 27 (H dq__26) rfl (S1112.ifN 30 (H dq__27) (zLtF (by decide)) (S1112.aloadN 31 (H dq__30) rfl rfl (S1112.iloadN 32 (H dq__31) rfl (S1112.iloadN 33 (H dq__32) rfl (S1112.aloadN 34 (H dq__33) rfl rfl ?_))))))
    refine S1112.vcall 37 (H dq__34) hml.symm (W 93 rfl) (W 94 rfl) (W 96 rfl) (W 95 rfl) (nfSel (W 96 rfl)) (by decide) f1107.1 [] [(.int 1), (.int 1), (.ref o)] (Con.pay (W := 3) (own_len_1 l Z a0 hw cm h1101 n0 S1112.old b tb kb [(.int y0)] db f1107.1 f1107.2.1 f1107.2.2.1 f1107.2.2.2) (W 97 rfl) (W 8 rfl) (by decide) (by decide)) (lenOf own_pd_21 rfl) rfl (Nle rfl) (by decide) (by decide) Wrs.nil ?_
    intro v1372 T1373 h1374 L1375 S1376 q1377 K1378
    obtain ⟨rfl, e_q1377⟩ := q1377
    obtain rfl := e_q1377.symm
    show Go p e below _ T1373 (mkF m 37 #[vr o, vr a, vr b, vi 1] [(.int 1), (.int 1), (.int 1), (.ref o)])
    refine S1376.iadd 38 (H dq__37) ?_
    rw [show (1 + 1 : Int32) = 2 from by decide]
    refine S1376.pcall 41 (H dq__38) hml.symm (W 98 rfl) (W 99 rfl) (W 100 rfl) (W 101 rfl) (W 75 rfl) rfl (by decide) f1115 [(.int 1), (.int 2)] [] (Con.pay (W := 0) (own_add_0 l Z a0 hw h1101 n0 S1376.old o b1055 b1078 k1056 k1079 (1 : Int32) (2 : Int32) (S1376.ge (Or.inl (by simp))) (S1376.ge wo1060) (S1376.ge wo1083) f1115 f1116 f1117 f1105 f1118 f1119 (Nat.ne_of_lt l1096) (Nat.ne_of_lt l1066) (Nat.ne_of_lt l1094)) (W 101 rfl) (W 37 rfl) (by decide) (by decide)) (lenOf own_pd_27 rfl) rfl (Nle rfl) (by decide) (by decide) (Wrs.three ⟨(Or.inl (by simp)), Or.inr ⟨_, f1115, by decide, by decide⟩⟩ ⟨wo1060, Or.inl (by simp)⟩ ⟨wo1083, Or.inl (by simp)⟩) ?_
    intro v1379 T1380 h1381 L1382 S1383 q1384 K1385
    obtain ⟨rfl, f1386, f1387, f1388, f1389, f1390, f1391⟩ := q1384
    show Go p e below _ T1380 (mkF m 41 #[vr o, vr a, vr b, vi 1] [])
    refine S1383.aloadN 42 (H dq__41) rfl rfl (S1383.aloadN 43 (H dq__42) rfl rfl (S1383.iloadN 44 (H dq__43) rfl (S1383.aloadN 45 (H dq__44) rfl rfl ?_)))
    have f1392 := (f1107.keep K1385 (ninS nbo (ninS (Nat.ne_of_lt l1064) (ninS (Nat.ne_of_lt l1090) nin0))) (ninS ntb (ninS (Nat.ne_of_lt l1065) (ninS (Nat.ne_of_lt l1092) nin0))))
    refine S1383.vcall 48 (H dq__45) hml.symm (W 93 rfl) (W 94 rfl) (W 96 rfl) (W 95 rfl) (nfSel (W 96 rfl)) (by decide) f1392.1 [] [(.int 1), (.ref b), (.ref a)] (Con.pay (W := 3) (own_len_1 l Z a0 hw cm h1381 n0 S1383.old b tb kb [(.int y0)] db f1392.1 f1392.2.1 f1392.2.2.1 f1392.2.2.2) (W 97 rfl) (W 8 rfl) (by decide) (by decide)) (lenOf own_pd_21 rfl) rfl (Nle rfl) (by decide) (by decide) Wrs.nil ?_
    intro v1393 T1394 h1395 L1396 S1397 q1398 K1399
    obtain ⟨rfl, e_q1398⟩ := q1398
    obtain rfl := e_q1398.symm
    show Go p e below _ T1394 (mkF m 48 #[vr o, vr a, vr b, vi 1] [(.int 1), (.int 1), (.ref b), (.ref a)])
    refine S1397.iadd 49 (H dq__48) ?_
    rw [show (1 + 1 : Int32) = 2 from by decide]
    have f1400 := (f1106.keep K1385 (ninS nao (ninS (Nat.ne_of_lt l1062) (ninS (Nat.ne_of_lt l1086) nin0))) (ninS nta (ninS (Nat.ne_of_lt l1063) (ninS (Nat.ne_of_lt l1088) nin0))))
    refine S1397.vcall 52 (H dq__49) hml.symm (W 102 rfl) (W 103 rfl) (W 105 rfl) (W 104 rfl) (nfSel (W 105 rfl)) (by decide) f1400.1 [(.ref b), (.int 2)] [] (Con.pay (W := 0) (own_i2_1_2 l Z a0 hw cm h1381 n0 S1397.old a b ta ka da x0 x1 x2 x3 x4 tb kb db y0 b2 b3 b4 f1400.1 f1400.2.1 f1400.2.2.1 f1392.1 f1392.2.1 f1392.2.2.1 f1400.2.2.2 f1392.2.2.2 e2 e3 e4) (W 106 rfl) (W 8 rfl) (by decide) (by decide)) (lenOf own_pd_28 rfl) rfl (Nle rfl) (by decide) (by decide) Wrs.nil ?_
    intro v1401 T1402 h1403 L1404 S1405 q1406 K1407
    obtain ⟨rfl, e_q1406⟩ := q1406
    obtain rfl := e_q1406.symm
    show Go p e below _ T1402 (mkF m 52 #[vr o, vr a, vr b, vi 1] [(.int (own_nx [(b2, 2), (b3, 3), (b4, 4)]))])
    rcases b2 with _ | _
    ·skip
     show Go p e below _ T1402 (mkF m 52 #[vr o, vr a, vr b, vi 1] [(.int (own_nx [(b3, 3), (b4, 4)]))])
     rcases b3 with _ | _
     ·skip
      show Go p e below _ T1402 (mkF m 52 #[vr o, vr a, vr b, vi 1] [(.int (own_nx [(b4, 4)]))])
      rcases b4 with _ | _
      ·skip
       show Go p e below _ T1402 (mkF m 52 #[vr o, vr a, vr b, vi 1] [(.int (-1))])
       refine S1405.istoreN 53 #[vr o, vr a, vr b, vi (-1)] (H dq__52) rfl (S1405.goto 26 (H dq__53) (S1405.iloadN 27 (H dq__26) rfl (S1405.ifY 56 (H dq__27) (zLtT (by decide)) ?_)))
       exact S1405.ret0 (H dq__56) hret (by decide) (by decide) ⟨rfl, _, _, _, _, f1386, f1387, f1388, f1389, f1390, f1391⟩
      ·skip
       show Go p e below _ T1402 (mkF m 52 #[vr o, vr a, vr b, vi 1] [(.int 4)])
       refine S1405.istoreN 53 #[vr o, vr a, vr b, vi 4] (H dq__52) rfl (S1405.goto 26 (H dq__53) (S1405.iloadN 27 (H dq__26) rfl (S1405.ifN 30 (H dq__27) (zLtF (by decide)) (S1405.aloadN 31 (H dq__30) rfl rfl (S1405.iloadN 32 (H dq__31) rfl (S1405.iloadN 33 (H dq__32) rfl ?_))))))
       refine S1405.aloadN 34 (H dq__33) rfl rfl (S1405.vcall 37 (H dq__34) hml.symm (W 93 rfl) (W 94 rfl) (W 96 rfl) (W 95 rfl) (nfSel (W 96 rfl)) (by decide) f1392.1 [] [(.int 4), (.int 4), (.ref o)] (Con.pay (W := 3) (own_len_1 l Z a0 hw cm h1381 n0 S1405.old b tb kb [(.int y0)] db f1392.1 f1392.2.1 f1392.2.2.1 f1392.2.2.2) (W 97 rfl) (W 8 rfl) (by decide) (by decide)) (lenOf own_pd_21 rfl) rfl (Nle rfl) (by decide) (by decide) Wrs.nil ?_)
       intro v1408 T1409 h1410 L1411 S1412 q1413 K1414
       obtain ⟨rfl, e_q1413⟩ := q1413
       obtain rfl := e_q1413.symm
       show Go p e below _ T1409 (mkF m 37 #[vr o, vr a, vr b, vi 4] [(.int 1), (.int 4), (.int 4), (.ref o)])
       refine S1412.iadd 38 (H dq__37) ?_
       rw [show (4 + 1 : Int32) = 5 from by decide]
       refine S1412.pcall 41 (H dq__38) hml.symm (W 98 rfl) (W 99 rfl) (W 100 rfl) (W 101 rfl) (W 75 rfl) rfl (by decide) f1386 [(.int 4), (.int 5)] [] (Con.pay (W := 0) (own_add_1 l Z a0 hw h1381 n0 S1412.old o b1055 b1078 k1056 k1079 (1 : Int32) (2 : Int32) (4 : Int32) (5 : Int32) (S1412.ge (Or.inl (by simp))) (S1412.ge wo1060) (S1412.ge wo1083) f1386 f1387 f1388 f1389 f1390 f1391 (Nat.ne_of_lt l1096) (Nat.ne_of_lt l1066) (Nat.ne_of_lt l1094)) (W 101 rfl) (W 37 rfl) (by decide) (by decide)) (lenOf own_pd_27 rfl) rfl (Nle rfl) (by decide) (by decide) (Wrs.three ⟨(Or.inl (by simp)), Or.inr ⟨_, f1386, by decide, by decide⟩⟩ ⟨wo1060, Or.inl (by simp)⟩ ⟨wo1083, Or.inl (by simp)⟩) ?_
       intro v1415 T1416 h1417 L1418 S1419 q1420 K1421
       obtain ⟨rfl, f1422, f1423, f1424, f1425, f1426, f1427⟩ := q1420
       show Go p e below _ T1416 (mkF m 41 #[vr o, vr a, vr b, vi 4] [])
       refine S1419.aloadN 42 (H dq__41) rfl rfl (S1419.aloadN 43 (H dq__42) rfl rfl (S1419.iloadN 44 (H dq__43) rfl (S1419.aloadN 45 (H dq__44) rfl rfl ?_)))
       have f1428 := (f1392.keep K1421 (ninS nbo (ninS (Nat.ne_of_lt l1064) (ninS (Nat.ne_of_lt l1090) nin0))) (ninS ntb (ninS (Nat.ne_of_lt l1065) (ninS (Nat.ne_of_lt l1092) nin0))))
       refine S1419.vcall 48 (H dq__45) hml.symm (W 93 rfl) (W 94 rfl) (W 96 rfl) (W 95 rfl) (nfSel (W 96 rfl)) (by decide) f1428.1 [] [(.int 4), (.ref b), (.ref a)] (Con.pay (W := 3) (own_len_1 l Z a0 hw cm h1417 n0 S1419.old b tb kb [(.int y0)] db f1428.1 f1428.2.1 f1428.2.2.1 f1428.2.2.2) (W 97 rfl) (W 8 rfl) (by decide) (by decide)) (lenOf own_pd_21 rfl) rfl (Nle rfl) (by decide) (by decide) Wrs.nil ?_
       intro v1429 T1430 h1431 L1432 S1433 q1434 K1435
       obtain ⟨rfl, e_q1434⟩ := q1434
       obtain rfl := e_q1434.symm
       show Go p e below _ T1430 (mkF m 48 #[vr o, vr a, vr b, vi 4] [(.int 1), (.int 4), (.ref b), (.ref a)])
       refine S1433.iadd 49 (H dq__48) ?_
       rw [show (4 + 1 : Int32) = 5 from by decide]
       have f1436 := (f1400.keep K1421 (ninS nao (ninS (Nat.ne_of_lt l1062) (ninS (Nat.ne_of_lt l1086) nin0))) (ninS nta (ninS (Nat.ne_of_lt l1063) (ninS (Nat.ne_of_lt l1088) nin0))))
       refine S1433.vcall 52 (H dq__49) hml.symm (W 102 rfl) (W 103 rfl) (W 105 rfl) (W 104 rfl) (nfSel (W 105 rfl)) (by decide) f1436.1 [(.ref b), (.int 5)] [] (Con.pay (W := 0) (own_i2_1_5 l Z a0 hw cm h1417 n0 S1433.old a b ta ka da x0 x1 x2 x3 x4 tb kb db y0 f1436.1 f1436.2.1 f1436.2.2.1 f1428.1 f1428.2.1 f1428.2.2.1 f1436.2.2.2 f1428.2.2.2) (W 106 rfl) (W 8 rfl) (by decide) (by decide)) (lenOf own_pd_28 rfl) rfl (Nle rfl) (by decide) (by decide) Wrs.nil ?_
       intro v1437 T1438 h1439 L1440 S1441 q1442 K1443
       obtain ⟨rfl, e_q1442⟩ := q1442
       obtain rfl := e_q1442.symm
       show Go p e below _ T1438 (mkF m 52 #[vr o, vr a, vr b, vi 4] [(.int (own_nx []))])
       show Go p e below _ T1438 (mkF m 52 #[vr o, vr a, vr b, vi 4] [(.int (-1))])
       refine S1441.istoreN 53 #[vr o, vr a, vr b, vi (-1)] (H dq__52) rfl (S1441.goto 26 (H dq__53) (S1441.iloadN 27 (H dq__26) rfl (S1441.ifY 56 (H dq__27) (zLtT (by decide)) ?_)))
       exact S1441.ret0 (H dq__56) hret (by decide) (by decide) ⟨rfl, _, _, _, _, f1422, f1423, f1424, f1425, f1426, f1427⟩
     ·skip
      show Go p e below _ T1402 (mkF m 52 #[vr o, vr a, vr b, vi 1] [(.int 3)])
      refine S1405.istoreN 53 #[vr o, vr a, vr b, vi 3] (H dq__52) rfl (S1405.goto 26 (H dq__53) (S1405.iloadN 27 (H dq__26) rfl (S1405.ifN 30 (H dq__27) (zLtF (by decide)) (S1405.aloadN 31 (H dq__30) rfl rfl (S1405.iloadN 32 (H dq__31) rfl (S1405.iloadN 33 (H dq__32) rfl ?_))))))
      refine S1405.aloadN 34 (H dq__33) rfl rfl (S1405.vcall 37 (H dq__34) hml.symm (W 93 rfl) (W 94 rfl) (W 96 rfl) (W 95 rfl) (nfSel (W 96 rfl)) (by decide) f1392.1 [] [(.int 3), (.int 3), (.ref o)] (Con.pay (W := 3) (own_len_1 l Z a0 hw cm h1381 n0 S1405.old b tb kb [(.int y0)] db f1392.1 f1392.2.1 f1392.2.2.1 f1392.2.2.2) (W 97 rfl) (W 8 rfl) (by decide) (by decide)) (lenOf own_pd_21 rfl) rfl (Nle rfl) (by decide) (by decide) Wrs.nil ?_)
      intro v1444 T1445 h1446 L1447 S1448 q1449 K1450
      obtain ⟨rfl, e_q1449⟩ := q1449
      obtain rfl := e_q1449.symm
      show Go p e below _ T1445 (mkF m 37 #[vr o, vr a, vr b, vi 3] [(.int 1), (.int 3), (.int 3), (.ref o)])
      refine S1448.iadd 38 (H dq__37) ?_
      rw [show (3 + 1 : Int32) = 4 from by decide]
      refine S1448.pcall 41 (H dq__38) hml.symm (W 98 rfl) (W 99 rfl) (W 100 rfl) (W 101 rfl) (W 75 rfl) rfl (by decide) f1386 [(.int 3), (.int 4)] [] (Con.pay (W := 0) (own_add_1 l Z a0 hw h1381 n0 S1448.old o b1055 b1078 k1056 k1079 (1 : Int32) (2 : Int32) (3 : Int32) (4 : Int32) (S1448.ge (Or.inl (by simp))) (S1448.ge wo1060) (S1448.ge wo1083) f1386 f1387 f1388 f1389 f1390 f1391 (Nat.ne_of_lt l1096) (Nat.ne_of_lt l1066) (Nat.ne_of_lt l1094)) (W 101 rfl) (W 37 rfl) (by decide) (by decide)) (lenOf own_pd_27 rfl) rfl (Nle rfl) (by decide) (by decide) (Wrs.three ⟨(Or.inl (by simp)), Or.inr ⟨_, f1386, by decide, by decide⟩⟩ ⟨wo1060, Or.inl (by simp)⟩ ⟨wo1083, Or.inl (by simp)⟩) ?_
      intro v1451 T1452 h1453 L1454 S1455 q1456 K1457
      obtain ⟨rfl, f1458, f1459, f1460, f1461, f1462, f1463⟩ := q1456
      show Go p e below _ T1452 (mkF m 41 #[vr o, vr a, vr b, vi 3] [])
      refine S1455.aloadN 42 (H dq__41) rfl rfl (S1455.aloadN 43 (H dq__42) rfl rfl (S1455.iloadN 44 (H dq__43) rfl (S1455.aloadN 45 (H dq__44) rfl rfl ?_)))
      have f1464 := (f1392.keep K1457 (ninS nbo (ninS (Nat.ne_of_lt l1064) (ninS (Nat.ne_of_lt l1090) nin0))) (ninS ntb (ninS (Nat.ne_of_lt l1065) (ninS (Nat.ne_of_lt l1092) nin0))))
      refine S1455.vcall 48 (H dq__45) hml.symm (W 93 rfl) (W 94 rfl) (W 96 rfl) (W 95 rfl) (nfSel (W 96 rfl)) (by decide) f1464.1 [] [(.int 3), (.ref b), (.ref a)] (Con.pay (W := 3) (own_len_1 l Z a0 hw cm h1453 n0 S1455.old b tb kb [(.int y0)] db f1464.1 f1464.2.1 f1464.2.2.1 f1464.2.2.2) (W 97 rfl) (W 8 rfl) (by decide) (by decide)) (lenOf own_pd_21 rfl) rfl (Nle rfl) (by decide) (by decide) Wrs.nil ?_
      intro v1465 T1466 h1467 L1468 S1469 q1470 K1471
      obtain ⟨rfl, e_q1470⟩ := q1470
      obtain rfl := e_q1470.symm
      show Go p e below _ T1466 (mkF m 48 #[vr o, vr a, vr b, vi 3] [(.int 1), (.int 3), (.ref b), (.ref a)])
      refine S1469.iadd 49 (H dq__48) ?_
      rw [show (3 + 1 : Int32) = 4 from by decide]
      have f1472 := (f1400.keep K1457 (ninS nao (ninS (Nat.ne_of_lt l1062) (ninS (Nat.ne_of_lt l1086) nin0))) (ninS nta (ninS (Nat.ne_of_lt l1063) (ninS (Nat.ne_of_lt l1088) nin0))))
      refine S1469.vcall 52 (H dq__49) hml.symm (W 102 rfl) (W 103 rfl) (W 105 rfl) (W 104 rfl) (nfSel (W 105 rfl)) (by decide) f1472.1 [(.ref b), (.int 4)] [] (Con.pay (W := 0) (own_i2_1_4 l Z a0 hw cm h1453 n0 S1469.old a b ta ka da x0 x1 x2 x3 x4 tb kb db y0 b4 f1472.1 f1472.2.1 f1472.2.2.1 f1464.1 f1464.2.1 f1464.2.2.1 f1472.2.2.2 f1464.2.2.2 e4) (W 106 rfl) (W 8 rfl) (by decide) (by decide)) (lenOf own_pd_28 rfl) rfl (Nle rfl) (by decide) (by decide) Wrs.nil ?_
      intro v1473 T1474 h1475 L1476 S1477 q1478 K1479
      obtain ⟨rfl, e_q1478⟩ := q1478
      obtain rfl := e_q1478.symm
      show Go p e below _ T1474 (mkF m 52 #[vr o, vr a, vr b, vi 3] [(.int (own_nx [(b4, 4)]))])
      rcases b4 with _ | _
      ·skip
       show Go p e below _ T1474 (mkF m 52 #[vr o, vr a, vr b, vi 3] [(.int (-1))])
       refine S1477.istoreN 53 #[vr o, vr a, vr b, vi (-1)] (H dq__52) rfl (S1477.goto 26 (H dq__53) (S1477.iloadN 27 (H dq__26) rfl (S1477.ifY 56 (H dq__27) (zLtT (by decide)) ?_)))
       exact S1477.ret0 (H dq__56) hret (by decide) (by decide) ⟨rfl, _, _, _, _, f1458, f1459, f1460, f1461, f1462, f1463⟩
      ·skip
       show Go p e below _ T1474 (mkF m 52 #[vr o, vr a, vr b, vi 3] [(.int 4)])
       refine S1477.istoreN 53 #[vr o, vr a, vr b, vi 4] (H dq__52) rfl (S1477.goto 26 (H dq__53) (S1477.iloadN 27 (H dq__26) rfl (S1477.ifN 30 (H dq__27) (zLtF (by decide)) (S1477.aloadN 31 (H dq__30) rfl rfl (S1477.iloadN 32 (H dq__31) rfl (S1477.iloadN 33 (H dq__32) rfl ?_))))))
       refine S1477.aloadN 34 (H dq__33) rfl rfl (S1477.vcall 37 (H dq__34) hml.symm (W 93 rfl) (W 94 rfl) (W 96 rfl) (W 95 rfl) (nfSel (W 96 rfl)) (by decide) f1464.1 [] [(.int 4), (.int 4), (.ref o)] (Con.pay (W := 3) (own_len_1 l Z a0 hw cm h1453 n0 S1477.old b tb kb [(.int y0)] db f1464.1 f1464.2.1 f1464.2.2.1 f1464.2.2.2) (W 97 rfl) (W 8 rfl) (by decide) (by decide)) (lenOf own_pd_21 rfl) rfl (Nle rfl) (by decide) (by decide) Wrs.nil ?_)
       intro v1480 T1481 h1482 L1483 S1484 q1485 K1486
       obtain ⟨rfl, e_q1485⟩ := q1485
       obtain rfl := e_q1485.symm
       show Go p e below _ T1481 (mkF m 37 #[vr o, vr a, vr b, vi 4] [(.int 1), (.int 4), (.int 4), (.ref o)])
       refine S1484.iadd 38 (H dq__37) ?_
       rw [show (4 + 1 : Int32) = 5 from by decide]
       refine S1484.pcall 41 (H dq__38) hml.symm (W 98 rfl) (W 99 rfl) (W 100 rfl) (W 101 rfl) (W 75 rfl) rfl (by decide) f1458 [(.int 4), (.int 5)] [] (Con.pay (W := 0) (own_add_2 l Z a0 hw h1453 n0 S1484.old o b1055 b1078 k1056 k1079 (1 : Int32) (3 : Int32) (2 : Int32) (4 : Int32) (4 : Int32) (5 : Int32) (S1484.ge (Or.inl (by simp))) (S1484.ge wo1060) (S1484.ge wo1083) f1458 f1459 f1460 f1461 f1462 f1463 (Nat.ne_of_lt l1096) (Nat.ne_of_lt l1066) (Nat.ne_of_lt l1094)) (W 101 rfl) (W 37 rfl) (by decide) (by decide)) (lenOf own_pd_27 rfl) rfl (Nle rfl) (by decide) (by decide) (Wrs.three ⟨(Or.inl (by simp)), Or.inr ⟨_, f1458, by decide, by decide⟩⟩ ⟨wo1060, Or.inl (by simp)⟩ ⟨wo1083, Or.inl (by simp)⟩) ?_
       intro v1487 T1488 h1489 L1490 S1491 q1492 K1493
       obtain ⟨rfl, f1494, f1495, f1496, f1497, f1498, f1499⟩ := q1492
       show Go p e below _ T1488 (mkF m 41 #[vr o, vr a, vr b, vi 4] [])
       refine S1491.aloadN 42 (H dq__41) rfl rfl (S1491.aloadN 43 (H dq__42) rfl rfl (S1491.iloadN 44 (H dq__43) rfl (S1491.aloadN 45 (H dq__44) rfl rfl ?_)))
       have f1500 := (f1464.keep K1493 (ninS nbo (ninS (Nat.ne_of_lt l1064) (ninS (Nat.ne_of_lt l1090) nin0))) (ninS ntb (ninS (Nat.ne_of_lt l1065) (ninS (Nat.ne_of_lt l1092) nin0))))
       refine S1491.vcall 48 (H dq__45) hml.symm (W 93 rfl) (W 94 rfl) (W 96 rfl) (W 95 rfl) (nfSel (W 96 rfl)) (by decide) f1500.1 [] [(.int 4), (.ref b), (.ref a)] (Con.pay (W := 3) (own_len_1 l Z a0 hw cm h1489 n0 S1491.old b tb kb [(.int y0)] db f1500.1 f1500.2.1 f1500.2.2.1 f1500.2.2.2) (W 97 rfl) (W 8 rfl) (by decide) (by decide)) (lenOf own_pd_21 rfl) rfl (Nle rfl) (by decide) (by decide) Wrs.nil ?_
       intro v1501 T1502 h1503 L1504 S1505 q1506 K1507
       obtain ⟨rfl, e_q1506⟩ := q1506
       obtain rfl := e_q1506.symm
       show Go p e below _ T1502 (mkF m 48 #[vr o, vr a, vr b, vi 4] [(.int 1), (.int 4), (.ref b), (.ref a)])
       refine S1505.iadd 49 (H dq__48) ?_
       rw [show (4 + 1 : Int32) = 5 from by decide]
       have f1508 := (f1472.keep K1493 (ninS nao (ninS (Nat.ne_of_lt l1062) (ninS (Nat.ne_of_lt l1086) nin0))) (ninS nta (ninS (Nat.ne_of_lt l1063) (ninS (Nat.ne_of_lt l1088) nin0))))
       refine S1505.vcall 52 (H dq__49) hml.symm (W 102 rfl) (W 103 rfl) (W 105 rfl) (W 104 rfl) (nfSel (W 105 rfl)) (by decide) f1508.1 [(.ref b), (.int 5)] [] (Con.pay (W := 0) (own_i2_1_5 l Z a0 hw cm h1489 n0 S1505.old a b ta ka da x0 x1 x2 x3 x4 tb kb db y0 f1508.1 f1508.2.1 f1508.2.2.1 f1500.1 f1500.2.1 f1500.2.2.1 f1508.2.2.2 f1500.2.2.2) (W 106 rfl) (W 8 rfl) (by decide) (by decide)) (lenOf own_pd_28 rfl) rfl (Nle rfl) (by decide) (by decide) Wrs.nil ?_
       intro v1509 T1510 h1511 L1512 S1513 q1514 K1515
       obtain ⟨rfl, e_q1514⟩ := q1514
       obtain rfl := e_q1514.symm
       show Go p e below _ T1510 (mkF m 52 #[vr o, vr a, vr b, vi 4] [(.int (own_nx []))])
       show Go p e below _ T1510 (mkF m 52 #[vr o, vr a, vr b, vi 4] [(.int (-1))])
       refine S1513.istoreN 53 #[vr o, vr a, vr b, vi (-1)] (H dq__52) rfl (S1513.goto 26 (H dq__53) (S1513.iloadN 27 (H dq__26) rfl (S1513.ifY 56 (H dq__27) (zLtT (by decide)) ?_)))
       exact S1513.ret0 (H dq__56) hret (by decide) (by decide) ⟨rfl, _, _, _, _, f1494, f1495, f1496, f1497, f1498, f1499⟩
    ·skip
     show Go p e below _ T1402 (mkF m 52 #[vr o, vr a, vr b, vi 1] [(.int 2)])
     refine S1405.istoreN 53 #[vr o, vr a, vr b, vi 2] (H dq__52) rfl (S1405.goto 26 (H dq__53) (S1405.iloadN 27 (H dq__26) rfl (S1405.ifN 30 (H dq__27) (zLtF (by decide)) (S1405.aloadN 31 (H dq__30) rfl rfl (S1405.iloadN 32 (H dq__31) rfl (S1405.iloadN 33 (H dq__32) rfl ?_))))))
     refine S1405.aloadN 34 (H dq__33) rfl rfl (S1405.vcall 37 (H dq__34) hml.symm (W 93 rfl) (W 94 rfl) (W 96 rfl) (W 95 rfl) (nfSel (W 96 rfl)) (by decide) f1392.1 [] [(.int 2), (.int 2), (.ref o)] (Con.pay (W := 3) (own_len_1 l Z a0 hw cm h1381 n0 S1405.old b tb kb [(.int y0)] db f1392.1 f1392.2.1 f1392.2.2.1 f1392.2.2.2) (W 97 rfl) (W 8 rfl) (by decide) (by decide)) (lenOf own_pd_21 rfl) rfl (Nle rfl) (by decide) (by decide) Wrs.nil ?_)
     intro v1516 T1517 h1518 L1519 S1520 q1521 K1522
     obtain ⟨rfl, e_q1521⟩ := q1521
     obtain rfl := e_q1521.symm
     show Go p e below _ T1517 (mkF m 37 #[vr o, vr a, vr b, vi 2] [(.int 1), (.int 2), (.int 2), (.ref o)])
     refine S1520.iadd 38 (H dq__37) ?_
     rw [show (2 + 1 : Int32) = 3 from by decide]
     refine S1520.pcall 41 (H dq__38) hml.symm (W 98 rfl) (W 99 rfl) (W 100 rfl) (W 101 rfl) (W 75 rfl) rfl (by decide) f1386 [(.int 2), (.int 3)] [] (Con.pay (W := 0) (own_add_1 l Z a0 hw h1381 n0 S1520.old o b1055 b1078 k1056 k1079 (1 : Int32) (2 : Int32) (2 : Int32) (3 : Int32) (S1520.ge (Or.inl (by simp))) (S1520.ge wo1060) (S1520.ge wo1083) f1386 f1387 f1388 f1389 f1390 f1391 (Nat.ne_of_lt l1096) (Nat.ne_of_lt l1066) (Nat.ne_of_lt l1094)) (W 101 rfl) (W 37 rfl) (by decide) (by decide)) (lenOf own_pd_27 rfl) rfl (Nle rfl) (by decide) (by decide) (Wrs.three ⟨(Or.inl (by simp)), Or.inr ⟨_, f1386, by decide, by decide⟩⟩ ⟨wo1060, Or.inl (by simp)⟩ ⟨wo1083, Or.inl (by simp)⟩) ?_
     intro v1523 T1524 h1525 L1526 S1527 q1528 K1529
     obtain ⟨rfl, f1530, f1531, f1532, f1533, f1534, f1535⟩ := q1528
     show Go p e below _ T1524 (mkF m 41 #[vr o, vr a, vr b, vi 2] [])
     refine S1527.aloadN 42 (H dq__41) rfl rfl (S1527.aloadN 43 (H dq__42) rfl rfl (S1527.iloadN 44 (H dq__43) rfl (S1527.aloadN 45 (H dq__44) rfl rfl ?_)))
     have f1536 := (f1392.keep K1529 (ninS nbo (ninS (Nat.ne_of_lt l1064) (ninS (Nat.ne_of_lt l1090) nin0))) (ninS ntb (ninS (Nat.ne_of_lt l1065) (ninS (Nat.ne_of_lt l1092) nin0))))
     refine S1527.vcall 48 (H dq__45) hml.symm (W 93 rfl) (W 94 rfl) (W 96 rfl) (W 95 rfl) (nfSel (W 96 rfl)) (by decide) f1536.1 [] [(.int 2), (.ref b), (.ref a)] (Con.pay (W := 3) (own_len_1 l Z a0 hw cm h1525 n0 S1527.old b tb kb [(.int y0)] db f1536.1 f1536.2.1 f1536.2.2.1 f1536.2.2.2) (W 97 rfl) (W 8 rfl) (by decide) (by decide)) (lenOf own_pd_21 rfl) rfl (Nle rfl) (by decide) (by decide) Wrs.nil ?_
     intro v1537 T1538 h1539 L1540 S1541 q1542 K1543
     obtain ⟨rfl, e_q1542⟩ := q1542
     obtain rfl := e_q1542.symm
     show Go p e below _ T1538 (mkF m 48 #[vr o, vr a, vr b, vi 2] [(.int 1), (.int 2), (.ref b), (.ref a)])
     refine S1541.iadd 49 (H dq__48) ?_
     rw [show (2 + 1 : Int32) = 3 from by decide]
     have f1544 := (f1400.keep K1529 (ninS nao (ninS (Nat.ne_of_lt l1062) (ninS (Nat.ne_of_lt l1086) nin0))) (ninS nta (ninS (Nat.ne_of_lt l1063) (ninS (Nat.ne_of_lt l1088) nin0))))
     refine S1541.vcall 52 (H dq__49) hml.symm (W 102 rfl) (W 103 rfl) (W 105 rfl) (W 104 rfl) (nfSel (W 105 rfl)) (by decide) f1544.1 [(.ref b), (.int 3)] [] (Con.pay (W := 0) (own_i2_1_3 l Z a0 hw cm h1525 n0 S1541.old a b ta ka da x0 x1 x2 x3 x4 tb kb db y0 b3 b4 f1544.1 f1544.2.1 f1544.2.2.1 f1536.1 f1536.2.1 f1536.2.2.1 f1544.2.2.2 f1536.2.2.2 e3 e4) (W 106 rfl) (W 8 rfl) (by decide) (by decide)) (lenOf own_pd_28 rfl) rfl (Nle rfl) (by decide) (by decide) Wrs.nil ?_
     intro v1545 T1546 h1547 L1548 S1549 q1550 K1551
     obtain ⟨rfl, e_q1550⟩ := q1550
     obtain rfl := e_q1550.symm
     show Go p e below _ T1546 (mkF m 52 #[vr o, vr a, vr b, vi 2] [(.int (own_nx [(b3, 3), (b4, 4)]))])
     rcases b3 with _ | _
     ·skip
      show Go p e below _ T1546 (mkF m 52 #[vr o, vr a, vr b, vi 2] [(.int (own_nx [(b4, 4)]))])
      rcases b4 with _ | _
      ·skip
       show Go p e below _ T1546 (mkF m 52 #[vr o, vr a, vr b, vi 2] [(.int (-1))])
       refine S1549.istoreN 53 #[vr o, vr a, vr b, vi (-1)] (H dq__52) rfl (S1549.goto 26 (H dq__53) (S1549.iloadN 27 (H dq__26) rfl (S1549.ifY 56 (H dq__27) (zLtT (by decide)) ?_)))
       exact S1549.ret0 (H dq__56) hret (by decide) (by decide) ⟨rfl, _, _, _, _, f1530, f1531, f1532, f1533, f1534, f1535⟩
      ·skip
       show Go p e below _ T1546 (mkF m 52 #[vr o, vr a, vr b, vi 2] [(.int 4)])
       refine S1549.istoreN 53 #[vr o, vr a, vr b, vi 4] (H dq__52) rfl (S1549.goto 26 (H dq__53) (S1549.iloadN 27 (H dq__26) rfl (S1549.ifN 30 (H dq__27) (zLtF (by decide)) (S1549.aloadN 31 (H dq__30) rfl rfl (S1549.iloadN 32 (H dq__31) rfl (S1549.iloadN 33 (H dq__32) rfl ?_))))))
       refine S1549.aloadN 34 (H dq__33) rfl rfl (S1549.vcall 37 (H dq__34) hml.symm (W 93 rfl) (W 94 rfl) (W 96 rfl) (W 95 rfl) (nfSel (W 96 rfl)) (by decide) f1536.1 [] [(.int 4), (.int 4), (.ref o)] (Con.pay (W := 3) (own_len_1 l Z a0 hw cm h1525 n0 S1549.old b tb kb [(.int y0)] db f1536.1 f1536.2.1 f1536.2.2.1 f1536.2.2.2) (W 97 rfl) (W 8 rfl) (by decide) (by decide)) (lenOf own_pd_21 rfl) rfl (Nle rfl) (by decide) (by decide) Wrs.nil ?_)
       intro v1552 T1553 h1554 L1555 S1556 q1557 K1558
       obtain ⟨rfl, e_q1557⟩ := q1557
       obtain rfl := e_q1557.symm
       show Go p e below _ T1553 (mkF m 37 #[vr o, vr a, vr b, vi 4] [(.int 1), (.int 4), (.int 4), (.ref o)])
       refine S1556.iadd 38 (H dq__37) ?_
       rw [show (4 + 1 : Int32) = 5 from by decide]
       refine S1556.pcall 41 (H dq__38) hml.symm (W 98 rfl) (W 99 rfl) (W 100 rfl) (W 101 rfl) (W 75 rfl) rfl (by decide) f1530 [(.int 4), (.int 5)] [] (Con.pay (W := 0) (own_add_2 l Z a0 hw h1525 n0 S1556.old o b1055 b1078 k1056 k1079 (1 : Int32) (2 : Int32) (2 : Int32) (3 : Int32) (4 : Int32) (5 : Int32) (S1556.ge (Or.inl (by simp))) (S1556.ge wo1060) (S1556.ge wo1083) f1530 f1531 f1532 f1533 f1534 f1535 (Nat.ne_of_lt l1096) (Nat.ne_of_lt l1066) (Nat.ne_of_lt l1094)) (W 101 rfl) (W 37 rfl) (by decide) (by decide)) (lenOf own_pd_27 rfl) rfl (Nle rfl) (by decide) (by decide) (Wrs.three ⟨(Or.inl (by simp)), Or.inr ⟨_, f1530, by decide, by decide⟩⟩ ⟨wo1060, Or.inl (by simp)⟩ ⟨wo1083, Or.inl (by simp)⟩) ?_
       intro v1559 T1560 h1561 L1562 S1563 q1564 K1565
       obtain ⟨rfl, f1566, f1567, f1568, f1569, f1570, f1571⟩ := q1564
       show Go p e below _ T1560 (mkF m 41 #[vr o, vr a, vr b, vi 4] [])
       refine S1563.aloadN 42 (H dq__41) rfl rfl (S1563.aloadN 43 (H dq__42) rfl rfl (S1563.iloadN 44 (H dq__43) rfl (S1563.aloadN 45 (H dq__44) rfl rfl ?_)))
       have f1572 := (f1536.keep K1565 (ninS nbo (ninS (Nat.ne_of_lt l1064) (ninS (Nat.ne_of_lt l1090) nin0))) (ninS ntb (ninS (Nat.ne_of_lt l1065) (ninS (Nat.ne_of_lt l1092) nin0))))
       refine S1563.vcall 48 (H dq__45) hml.symm (W 93 rfl) (W 94 rfl) (W 96 rfl) (W 95 rfl) (nfSel (W 96 rfl)) (by decide) f1572.1 [] [(.int 4), (.ref b), (.ref a)] (Con.pay (W := 3) (own_len_1 l Z a0 hw cm h1561 n0 S1563.old b tb kb [(.int y0)] db f1572.1 f1572.2.1 f1572.2.2.1 f1572.2.2.2) (W 97 rfl) (W 8 rfl) (by decide) (by decide)) (lenOf own_pd_21 rfl) rfl (Nle rfl) (by decide) (by decide) Wrs.nil ?_
       intro v1573 T1574 h1575 L1576 S1577 q1578 K1579
       obtain ⟨rfl, e_q1578⟩ := q1578
       obtain rfl := e_q1578.symm
       show Go p e below _ T1574 (mkF m 48 #[vr o, vr a, vr b, vi 4] [(.int 1), (.int 4), (.ref b), (.ref a)])
       refine S1577.iadd 49 (H dq__48) ?_
       rw [show (4 + 1 : Int32) = 5 from by decide]
       have f1580 := (f1544.keep K1565 (ninS nao (ninS (Nat.ne_of_lt l1062) (ninS (Nat.ne_of_lt l1086) nin0))) (ninS nta (ninS (Nat.ne_of_lt l1063) (ninS (Nat.ne_of_lt l1088) nin0))))
       refine S1577.vcall 52 (H dq__49) hml.symm (W 102 rfl) (W 103 rfl) (W 105 rfl) (W 104 rfl) (nfSel (W 105 rfl)) (by decide) f1580.1 [(.ref b), (.int 5)] [] (Con.pay (W := 0) (own_i2_1_5 l Z a0 hw cm h1561 n0 S1577.old a b ta ka da x0 x1 x2 x3 x4 tb kb db y0 f1580.1 f1580.2.1 f1580.2.2.1 f1572.1 f1572.2.1 f1572.2.2.1 f1580.2.2.2 f1572.2.2.2) (W 106 rfl) (W 8 rfl) (by decide) (by decide)) (lenOf own_pd_28 rfl) rfl (Nle rfl) (by decide) (by decide) Wrs.nil ?_
       intro v1581 T1582 h1583 L1584 S1585 q1586 K1587
       obtain ⟨rfl, e_q1586⟩ := q1586
       obtain rfl := e_q1586.symm
       show Go p e below _ T1582 (mkF m 52 #[vr o, vr a, vr b, vi 4] [(.int (own_nx []))])
       show Go p e below _ T1582 (mkF m 52 #[vr o, vr a, vr b, vi 4] [(.int (-1))])
       refine S1585.istoreN 53 #[vr o, vr a, vr b, vi (-1)] (H dq__52) rfl (S1585.goto 26 (H dq__53) (S1585.iloadN 27 (H dq__26) rfl (S1585.ifY 56 (H dq__27) (zLtT (by decide)) ?_)))
       exact S1585.ret0 (H dq__56) hret (by decide) (by decide) ⟨rfl, _, _, _, _, f1566, f1567, f1568, f1569, f1570, f1571⟩
     ·skip
      show Go p e below _ T1546 (mkF m 52 #[vr o, vr a, vr b, vi 2] [(.int 3)])
      refine S1549.istoreN 53 #[vr o, vr a, vr b, vi 3] (H dq__52) rfl (S1549.goto 26 (H dq__53) (S1549.iloadN 27 (H dq__26) rfl (S1549.ifN 30 (H dq__27) (zLtF (by decide)) (S1549.aloadN 31 (H dq__30) rfl rfl (S1549.iloadN 32 (H dq__31) rfl (S1549.iloadN 33 (H dq__32) rfl ?_))))))
      refine S1549.aloadN 34 (H dq__33) rfl rfl (S1549.vcall 37 (H dq__34) hml.symm (W 93 rfl) (W 94 rfl) (W 96 rfl) (W 95 rfl) (nfSel (W 96 rfl)) (by decide) f1536.1 [] [(.int 3), (.int 3), (.ref o)] (Con.pay (W := 3) (own_len_1 l Z a0 hw cm h1525 n0 S1549.old b tb kb [(.int y0)] db f1536.1 f1536.2.1 f1536.2.2.1 f1536.2.2.2) (W 97 rfl) (W 8 rfl) (by decide) (by decide)) (lenOf own_pd_21 rfl) rfl (Nle rfl) (by decide) (by decide) Wrs.nil ?_)
      intro v1588 T1589 h1590 L1591 S1592 q1593 K1594
      obtain ⟨rfl, e_q1593⟩ := q1593
      obtain rfl := e_q1593.symm
      show Go p e below _ T1589 (mkF m 37 #[vr o, vr a, vr b, vi 3] [(.int 1), (.int 3), (.int 3), (.ref o)])
      refine S1592.iadd 38 (H dq__37) ?_
      rw [show (3 + 1 : Int32) = 4 from by decide]
      refine S1592.pcall 41 (H dq__38) hml.symm (W 98 rfl) (W 99 rfl) (W 100 rfl) (W 101 rfl) (W 75 rfl) rfl (by decide) f1530 [(.int 3), (.int 4)] [] (Con.pay (W := 0) (own_add_2 l Z a0 hw h1525 n0 S1592.old o b1055 b1078 k1056 k1079 (1 : Int32) (2 : Int32) (2 : Int32) (3 : Int32) (3 : Int32) (4 : Int32) (S1592.ge (Or.inl (by simp))) (S1592.ge wo1060) (S1592.ge wo1083) f1530 f1531 f1532 f1533 f1534 f1535 (Nat.ne_of_lt l1096) (Nat.ne_of_lt l1066) (Nat.ne_of_lt l1094)) (W 101 rfl) (W 37 rfl) (by decide) (by decide)) (lenOf own_pd_27 rfl) rfl (Nle rfl) (by decide) (by decide) (Wrs.three ⟨(Or.inl (by simp)), Or.inr ⟨_, f1530, by decide, by decide⟩⟩ ⟨wo1060, Or.inl (by simp)⟩ ⟨wo1083, Or.inl (by simp)⟩) ?_
      intro v1595 T1596 h1597 L1598 S1599 q1600 K1601
      obtain ⟨rfl, f1602, f1603, f1604, f1605, f1606, f1607⟩ := q1600
      show Go p e below _ T1596 (mkF m 41 #[vr o, vr a, vr b, vi 3] [])
      refine S1599.aloadN 42 (H dq__41) rfl rfl (S1599.aloadN 43 (H dq__42) rfl rfl (S1599.iloadN 44 (H dq__43) rfl (S1599.aloadN 45 (H dq__44) rfl rfl ?_)))
      have f1608 := (f1536.keep K1601 (ninS nbo (ninS (Nat.ne_of_lt l1064) (ninS (Nat.ne_of_lt l1090) nin0))) (ninS ntb (ninS (Nat.ne_of_lt l1065) (ninS (Nat.ne_of_lt l1092) nin0))))
      refine S1599.vcall 48 (H dq__45) hml.symm (W 93 rfl) (W 94 rfl) (W 96 rfl) (W 95 rfl) (nfSel (W 96 rfl)) (by decide) f1608.1 [] [(.int 3), (.ref b), (.ref a)] (Con.pay (W := 3) (own_len_1 l Z a0 hw cm h1597 n0 S1599.old b tb kb [(.int y0)] db f1608.1 f1608.2.1 f1608.2.2.1 f1608.2.2.2) (W 97 rfl) (W 8 rfl) (by decide) (by decide)) (lenOf own_pd_21 rfl) rfl (Nle rfl) (by decide) (by decide) Wrs.nil ?_
      intro v1609 T1610 h1611 L1612 S1613 q1614 K1615
      obtain ⟨rfl, e_q1614⟩ := q1614
      obtain rfl := e_q1614.symm
      show Go p e below _ T1610 (mkF m 48 #[vr o, vr a, vr b, vi 3] [(.int 1), (.int 3), (.ref b), (.ref a)])
      refine S1613.iadd 49 (H dq__48) ?_
      rw [show (3 + 1 : Int32) = 4 from by decide]
      have f1616 := (f1544.keep K1601 (ninS nao (ninS (Nat.ne_of_lt l1062) (ninS (Nat.ne_of_lt l1086) nin0))) (ninS nta (ninS (Nat.ne_of_lt l1063) (ninS (Nat.ne_of_lt l1088) nin0))))
      refine S1613.vcall 52 (H dq__49) hml.symm (W 102 rfl) (W 103 rfl) (W 105 rfl) (W 104 rfl) (nfSel (W 105 rfl)) (by decide) f1616.1 [(.ref b), (.int 4)] [] (Con.pay (W := 0) (own_i2_1_4 l Z a0 hw cm h1597 n0 S1613.old a b ta ka da x0 x1 x2 x3 x4 tb kb db y0 b4 f1616.1 f1616.2.1 f1616.2.2.1 f1608.1 f1608.2.1 f1608.2.2.1 f1616.2.2.2 f1608.2.2.2 e4) (W 106 rfl) (W 8 rfl) (by decide) (by decide)) (lenOf own_pd_28 rfl) rfl (Nle rfl) (by decide) (by decide) Wrs.nil ?_
      intro v1617 T1618 h1619 L1620 S1621 q1622 K1623
      obtain ⟨rfl, e_q1622⟩ := q1622
      obtain rfl := e_q1622.symm
      show Go p e below _ T1618 (mkF m 52 #[vr o, vr a, vr b, vi 3] [(.int (own_nx [(b4, 4)]))])
      rcases b4 with _ | _
      ·skip
       show Go p e below _ T1618 (mkF m 52 #[vr o, vr a, vr b, vi 3] [(.int (-1))])
       refine S1621.istoreN 53 #[vr o, vr a, vr b, vi (-1)] (H dq__52) rfl (S1621.goto 26 (H dq__53) (S1621.iloadN 27 (H dq__26) rfl (S1621.ifY 56 (H dq__27) (zLtT (by decide)) ?_)))
       exact S1621.ret0 (H dq__56) hret (by decide) (by decide) ⟨rfl, _, _, _, _, f1602, f1603, f1604, f1605, f1606, f1607⟩
      ·skip
       show Go p e below _ T1618 (mkF m 52 #[vr o, vr a, vr b, vi 3] [(.int 4)])
       refine S1621.istoreN 53 #[vr o, vr a, vr b, vi 4] (H dq__52) rfl (S1621.goto 26 (H dq__53) (S1621.iloadN 27 (H dq__26) rfl (S1621.ifN 30 (H dq__27) (zLtF (by decide)) (S1621.aloadN 31 (H dq__30) rfl rfl (S1621.iloadN 32 (H dq__31) rfl (S1621.iloadN 33 (H dq__32) rfl ?_))))))
       refine S1621.aloadN 34 (H dq__33) rfl rfl (S1621.vcall 37 (H dq__34) hml.symm (W 93 rfl) (W 94 rfl) (W 96 rfl) (W 95 rfl) (nfSel (W 96 rfl)) (by decide) f1608.1 [] [(.int 4), (.int 4), (.ref o)] (Con.pay (W := 3) (own_len_1 l Z a0 hw cm h1597 n0 S1621.old b tb kb [(.int y0)] db f1608.1 f1608.2.1 f1608.2.2.1 f1608.2.2.2) (W 97 rfl) (W 8 rfl) (by decide) (by decide)) (lenOf own_pd_21 rfl) rfl (Nle rfl) (by decide) (by decide) Wrs.nil ?_)
       intro v1624 T1625 h1626 L1627 S1628 q1629 K1630
       obtain ⟨rfl, e_q1629⟩ := q1629
       obtain rfl := e_q1629.symm
       show Go p e below _ T1625 (mkF m 37 #[vr o, vr a, vr b, vi 4] [(.int 1), (.int 4), (.int 4), (.ref o)])
       refine S1628.iadd 38 (H dq__37) ?_
       rw [show (4 + 1 : Int32) = 5 from by decide]
       refine S1628.pcall 41 (H dq__38) hml.symm (W 98 rfl) (W 99 rfl) (W 100 rfl) (W 101 rfl) (W 75 rfl) rfl (by decide) f1602 [(.int 4), (.int 5)] [] (Con.pay (W := 0) (own_add_3 l Z a0 hw h1597 n0 S1628.old o b1055 b1078 k1056 k1079 (1 : Int32) (2 : Int32) (3 : Int32) (2 : Int32) (3 : Int32) (4 : Int32) (4 : Int32) (5 : Int32) (S1628.ge (Or.inl (by simp))) (S1628.ge wo1060) (S1628.ge wo1083) f1602 f1603 f1604 f1605 f1606 f1607 (Nat.ne_of_lt l1096) (Nat.ne_of_lt l1066) (Nat.ne_of_lt l1094)) (W 101 rfl) (W 37 rfl) (by decide) (by decide)) (lenOf own_pd_27 rfl) rfl (Nle rfl) (by decide) (by decide) (Wrs.three ⟨(Or.inl (by simp)), Or.inr ⟨_, f1602, by decide, by decide⟩⟩ ⟨wo1060, Or.inl (by simp)⟩ ⟨wo1083, Or.inl (by simp)⟩) ?_
       intro v1631 T1632 h1633 L1634 S1635 q1636 K1637
       obtain ⟨rfl, f1638, f1639, f1640, f1641, f1642, f1643⟩ := q1636
       show Go p e below _ T1632 (mkF m 41 #[vr o, vr a, vr b, vi 4] [])
       refine S1635.aloadN 42 (H dq__41) rfl rfl (S1635.aloadN 43 (H dq__42) rfl rfl (S1635.iloadN 44 (H dq__43) rfl (S1635.aloadN 45 (H dq__44) rfl rfl ?_)))
       have f1644 := (f1608.keep K1637 (ninS nbo (ninS (Nat.ne_of_lt l1064) (ninS (Nat.ne_of_lt l1090) nin0))) (ninS ntb (ninS (Nat.ne_of_lt l1065) (ninS (Nat.ne_of_lt l1092) nin0))))
       refine S1635.vcall 48 (H dq__45) hml.symm (W 93 rfl) (W 94 rfl) (W 96 rfl) (W 95 rfl) (nfSel (W 96 rfl)) (by decide) f1644.1 [] [(.int 4), (.ref b), (.ref a)] (Con.pay (W := 3) (own_len_1 l Z a0 hw cm h1633 n0 S1635.old b tb kb [(.int y0)] db f1644.1 f1644.2.1 f1644.2.2.1 f1644.2.2.2) (W 97 rfl) (W 8 rfl) (by decide) (by decide)) (lenOf own_pd_21 rfl) rfl (Nle rfl) (by decide) (by decide) Wrs.nil ?_
       intro v1645 T1646 h1647 L1648 S1649 q1650 K1651
       obtain ⟨rfl, e_q1650⟩ := q1650
       obtain rfl := e_q1650.symm
       show Go p e below _ T1646 (mkF m 48 #[vr o, vr a, vr b, vi 4] [(.int 1), (.int 4), (.ref b), (.ref a)])
       refine S1649.iadd 49 (H dq__48) ?_
       rw [show (4 + 1 : Int32) = 5 from by decide]
       have f1652 := (f1616.keep K1637 (ninS nao (ninS (Nat.ne_of_lt l1062) (ninS (Nat.ne_of_lt l1086) nin0))) (ninS nta (ninS (Nat.ne_of_lt l1063) (ninS (Nat.ne_of_lt l1088) nin0))))
       refine S1649.vcall 52 (H dq__49) hml.symm (W 102 rfl) (W 103 rfl) (W 105 rfl) (W 104 rfl) (nfSel (W 105 rfl)) (by decide) f1652.1 [(.ref b), (.int 5)] [] (Con.pay (W := 0) (own_i2_1_5 l Z a0 hw cm h1633 n0 S1649.old a b ta ka da x0 x1 x2 x3 x4 tb kb db y0 f1652.1 f1652.2.1 f1652.2.2.1 f1644.1 f1644.2.1 f1644.2.2.1 f1652.2.2.2 f1644.2.2.2) (W 106 rfl) (W 8 rfl) (by decide) (by decide)) (lenOf own_pd_28 rfl) rfl (Nle rfl) (by decide) (by decide) Wrs.nil ?_
       intro v1653 T1654 h1655 L1656 S1657 q1658 K1659
       obtain ⟨rfl, e_q1658⟩ := q1658
       obtain rfl := e_q1658.symm
       show Go p e below _ T1654 (mkF m 52 #[vr o, vr a, vr b, vi 4] [(.int (own_nx []))])
       show Go p e below _ T1654 (mkF m 52 #[vr o, vr a, vr b, vi 4] [(.int (-1))])
       refine S1657.istoreN 53 #[vr o, vr a, vr b, vi (-1)] (H dq__52) rfl (S1657.goto 26 (H dq__53) (S1657.iloadN 27 (H dq__26) rfl (S1657.ifY 56 (H dq__27) (zLtT (by decide)) ?_)))
       exact S1657.ret0 (H dq__56) hret (by decide) (by decide) ⟨rfl, _, _, _, _, f1638, f1639, f1640, f1641, f1642, f1643⟩
  ·skip
   show Go p e below _ T1109 (mkF m 25 #[vr o, vr a, vr b, uN] [(.int 0)])
   refine S1112.istoreN 26 #[vr o, vr a, vr b, vi 0] (H dq__25) rfl (S1112.iloadN 27 (H dq__26) rfl (S1112.ifN 30 (H dq__27) (zLtF (by decide)) (S1112.aloadN 31 (H dq__30) rfl rfl (S1112.iloadN 32 (H dq__31) rfl (S1112.iloadN 33 (H dq__32) rfl (S1112.aloadN 34 (H dq__33) rfl rfl ?_))))))
   refine S1112.vcall 37 (H dq__34) hml.symm (W 93 rfl) (W 94 rfl) (W 96 rfl) (W 95 rfl) (nfSel (W 96 rfl)) (by decide) f1107.1 [] [(.int 0), (.int 0), (.ref o)] (Con.pay (W := 3) (own_len_1 l Z a0 hw cm h1101 n0 S1112.old b tb kb [(.int y0)] db f1107.1 f1107.2.1 f1107.2.2.1 f1107.2.2.2) (W 97 rfl) (W 8 rfl) (by decide) (by decide)) (lenOf own_pd_21 rfl) rfl (Nle rfl) (by decide) (by decide) Wrs.nil ?_
   intro v1660 T1661 h1662 L1663 S1664 q1665 K1666
   obtain ⟨rfl, e_q1665⟩ := q1665
   obtain rfl := e_q1665.symm
   show Go p e below _ T1661 (mkF m 37 #[vr o, vr a, vr b, vi 0] [(.int 1), (.int 0), (.int 0), (.ref o)])
   refine S1664.iadd 38 (H dq__37) ?_
   rw [show (0 + 1 : Int32) = 1 from by decide]
   refine S1664.pcall 41 (H dq__38) hml.symm (W 98 rfl) (W 99 rfl) (W 100 rfl) (W 101 rfl) (W 75 rfl) rfl (by decide) f1115 [(.int 0), (.int 1)] [] (Con.pay (W := 0) (own_add_0 l Z a0 hw h1101 n0 S1664.old o b1055 b1078 k1056 k1079 (0 : Int32) (1 : Int32) (S1664.ge (Or.inl (by simp))) (S1664.ge wo1060) (S1664.ge wo1083) f1115 f1116 f1117 f1105 f1118 f1119 (Nat.ne_of_lt l1096) (Nat.ne_of_lt l1066) (Nat.ne_of_lt l1094)) (W 101 rfl) (W 37 rfl) (by decide) (by decide)) (lenOf own_pd_27 rfl) rfl (Nle rfl) (by decide) (by decide) (Wrs.three ⟨(Or.inl (by simp)), Or.inr ⟨_, f1115, by decide, by decide⟩⟩ ⟨wo1060, Or.inl (by simp)⟩ ⟨wo1083, Or.inl (by simp)⟩) ?_
   intro v1667 T1668 h1669 L1670 S1671 q1672 K1673
   obtain ⟨rfl, f1674, f1675, f1676, f1677, f1678, f1679⟩ := q1672
   show Go p e below _ T1668 (mkF m 41 #[vr o, vr a, vr b, vi 0] [])
   refine S1671.aloadN 42 (H dq__41) rfl rfl (S1671.aloadN 43 (H dq__42) rfl rfl (S1671.iloadN 44 (H dq__43) rfl (S1671.aloadN 45 (H dq__44) rfl rfl ?_)))
   have f1680 := (f1107.keep K1673 (ninS nbo (ninS (Nat.ne_of_lt l1064) (ninS (Nat.ne_of_lt l1090) nin0))) (ninS ntb (ninS (Nat.ne_of_lt l1065) (ninS (Nat.ne_of_lt l1092) nin0))))
   refine S1671.vcall 48 (H dq__45) hml.symm (W 93 rfl) (W 94 rfl) (W 96 rfl) (W 95 rfl) (nfSel (W 96 rfl)) (by decide) f1680.1 [] [(.int 0), (.ref b), (.ref a)] (Con.pay (W := 3) (own_len_1 l Z a0 hw cm h1669 n0 S1671.old b tb kb [(.int y0)] db f1680.1 f1680.2.1 f1680.2.2.1 f1680.2.2.2) (W 97 rfl) (W 8 rfl) (by decide) (by decide)) (lenOf own_pd_21 rfl) rfl (Nle rfl) (by decide) (by decide) Wrs.nil ?_
   intro v1681 T1682 h1683 L1684 S1685 q1686 K1687
   obtain ⟨rfl, e_q1686⟩ := q1686
   obtain rfl := e_q1686.symm
   show Go p e below _ T1682 (mkF m 48 #[vr o, vr a, vr b, vi 0] [(.int 1), (.int 0), (.ref b), (.ref a)])
   refine S1685.iadd 49 (H dq__48) ?_
   rw [show (0 + 1 : Int32) = 1 from by decide]
   have f1688 := (f1106.keep K1673 (ninS nao (ninS (Nat.ne_of_lt l1062) (ninS (Nat.ne_of_lt l1086) nin0))) (ninS nta (ninS (Nat.ne_of_lt l1063) (ninS (Nat.ne_of_lt l1088) nin0))))
   refine S1685.vcall 52 (H dq__49) hml.symm (W 102 rfl) (W 103 rfl) (W 105 rfl) (W 104 rfl) (nfSel (W 105 rfl)) (by decide) f1688.1 [(.ref b), (.int 1)] [] (Con.pay (W := 0) (own_i2_1_1 l Z a0 hw cm h1669 n0 S1685.old a b ta ka da x0 x1 x2 x3 x4 tb kb db y0 b1 b2 b3 b4 f1688.1 f1688.2.1 f1688.2.2.1 f1680.1 f1680.2.1 f1680.2.2.1 f1688.2.2.2 f1680.2.2.2 e1 e2 e3 e4) (W 106 rfl) (W 8 rfl) (by decide) (by decide)) (lenOf own_pd_28 rfl) rfl (Nle rfl) (by decide) (by decide) Wrs.nil ?_
   intro v1689 T1690 h1691 L1692 S1693 q1694 K1695
   obtain ⟨rfl, e_q1694⟩ := q1694
   obtain rfl := e_q1694.symm
   show Go p e below _ T1690 (mkF m 52 #[vr o, vr a, vr b, vi 0] [(.int (own_nx [(b1, 1), (b2, 2), (b3, 3), (b4, 4)]))])
   rcases b1 with _ | _
   ·skip
    show Go p e below _ T1690 (mkF m 52 #[vr o, vr a, vr b, vi 0] [(.int (own_nx [(b2, 2), (b3, 3), (b4, 4)]))])
    rcases b2 with _ | _
    ·skip
     show Go p e below _ T1690 (mkF m 52 #[vr o, vr a, vr b, vi 0] [(.int (own_nx [(b3, 3), (b4, 4)]))])
     rcases b3 with _ | _
     ·skip
      show Go p e below _ T1690 (mkF m 52 #[vr o, vr a, vr b, vi 0] [(.int (own_nx [(b4, 4)]))])
      rcases b4 with _ | _
      ·skip
       show Go p e below _ T1690 (mkF m 52 #[vr o, vr a, vr b, vi 0] [(.int (-1))])
       refine S1693.istoreN 53 #[vr o, vr a, vr b, vi (-1)] (H dq__52) rfl (S1693.goto 26 (H dq__53) (S1693.iloadN 27 (H dq__26) rfl (S1693.ifY 56 (H dq__27) (zLtT (by decide)) ?_)))
       exact S1693.ret0 (H dq__56) hret (by decide) (by decide) ⟨rfl, _, _, _, _, f1674, f1675, f1676, f1677, f1678, f1679⟩
      ·skip
       show Go p e below _ T1690 (mkF m 52 #[vr o, vr a, vr b, vi 0] [(.int 4)])
       refine S1693.istoreN 53 #[vr o, vr a, vr b, vi 4] (H dq__52) rfl (S1693.goto 26 (H dq__53) (S1693.iloadN 27 (H dq__26) rfl (S1693.ifN 30 (H dq__27) (zLtF (by decide)) (S1693.aloadN 31 (H dq__30) rfl rfl (S1693.iloadN 32 (H dq__31) rfl (S1693.iloadN 33 (H dq__32) rfl ?_))))))
       refine S1693.aloadN 34 (H dq__33) rfl rfl (S1693.vcall 37 (H dq__34) hml.symm (W 93 rfl) (W 94 rfl) (W 96 rfl) (W 95 rfl) (nfSel (W 96 rfl)) (by decide) f1680.1 [] [(.int 4), (.int 4), (.ref o)] (Con.pay (W := 3) (own_len_1 l Z a0 hw cm h1669 n0 S1693.old b tb kb [(.int y0)] db f1680.1 f1680.2.1 f1680.2.2.1 f1680.2.2.2) (W 97 rfl) (W 8 rfl) (by decide) (by decide)) (lenOf own_pd_21 rfl) rfl (Nle rfl) (by decide) (by decide) Wrs.nil ?_)
       intro v1696 T1697 h1698 L1699 S1700 q1701 K1702
       obtain ⟨rfl, e_q1701⟩ := q1701
       obtain rfl := e_q1701.symm
       show Go p e below _ T1697 (mkF m 37 #[vr o, vr a, vr b, vi 4] [(.int 1), (.int 4), (.int 4), (.ref o)])
       refine S1700.iadd 38 (H dq__37) ?_
       rw [show (4 + 1 : Int32) = 5 from by decide]
       refine S1700.pcall 41 (H dq__38) hml.symm (W 98 rfl) (W 99 rfl) (W 100 rfl) (W 101 rfl) (W 75 rfl) rfl (by decide) f1674 [(.int 4), (.int 5)] [] (Con.pay (W := 0) (own_add_1 l Z a0 hw h1669 n0 S1700.old o b1055 b1078 k1056 k1079 (0 : Int32) (1 : Int32) (4 : Int32) (5 : Int32) (S1700.ge (Or.inl (by simp))) (S1700.ge wo1060) (S1700.ge wo1083) f1674 f1675 f1676 f1677 f1678 f1679 (Nat.ne_of_lt l1096) (Nat.ne_of_lt l1066) (Nat.ne_of_lt l1094)) (W 101 rfl) (W 37 rfl) (by decide) (by decide)) (lenOf own_pd_27 rfl) rfl (Nle rfl) (by decide) (by decide) (Wrs.three ⟨(Or.inl (by simp)), Or.inr ⟨_, f1674, by decide, by decide⟩⟩ ⟨wo1060, Or.inl (by simp)⟩ ⟨wo1083, Or.inl (by simp)⟩) ?_
       intro v1703 T1704 h1705 L1706 S1707 q1708 K1709
       obtain ⟨rfl, f1710, f1711, f1712, f1713, f1714, f1715⟩ := q1708
       show Go p e below _ T1704 (mkF m 41 #[vr o, vr a, vr b, vi 4] [])
       refine S1707.aloadN 42 (H dq__41) rfl rfl (S1707.aloadN 43 (H dq__42) rfl rfl (S1707.iloadN 44 (H dq__43) rfl (S1707.aloadN 45 (H dq__44) rfl rfl ?_)))
       have f1716 := (f1680.keep K1709 (ninS nbo (ninS (Nat.ne_of_lt l1064) (ninS (Nat.ne_of_lt l1090) nin0))) (ninS ntb (ninS (Nat.ne_of_lt l1065) (ninS (Nat.ne_of_lt l1092) nin0))))
       refine S1707.vcall 48 (H dq__45) hml.symm (W 93 rfl) (W 94 rfl) (W 96 rfl) (W 95 rfl) (nfSel (W 96 rfl)) (by decide) f1716.1 [] [(.int 4), (.ref b), (.ref a)] (Con.pay (W := 3) (own_len_1 l Z a0 hw cm h1705 n0 S1707.old b tb kb [(.int y0)] db f1716.1 f1716.2.1 f1716.2.2.1 f1716.2.2.2) (W 97 rfl) (W 8 rfl) (by decide) (by decide)) (lenOf own_pd_21 rfl) rfl (Nle rfl) (by decide) (by decide) Wrs.nil ?_
       intro v1717 T1718 h1719 L1720 S1721 q1722 K1723
       obtain ⟨rfl, e_q1722⟩ := q1722
       obtain rfl := e_q1722.symm
       show Go p e below _ T1718 (mkF m 48 #[vr o, vr a, vr b, vi 4] [(.int 1), (.int 4), (.ref b), (.ref a)])
       refine S1721.iadd 49 (H dq__48) ?_
       rw [show (4 + 1 : Int32) = 5 from by decide]
       have f1724 := (f1688.keep K1709 (ninS nao (ninS (Nat.ne_of_lt l1062) (ninS (Nat.ne_of_lt l1086) nin0))) (ninS nta (ninS (Nat.ne_of_lt l1063) (ninS (Nat.ne_of_lt l1088) nin0))))
       refine S1721.vcall 52 (H dq__49) hml.symm (W 102 rfl) (W 103 rfl) (W 105 rfl) (W 104 rfl) (nfSel (W 105 rfl)) (by decide) f1724.1 [(.ref b), (.int 5)] [] (Con.pay (W := 0) (own_i2_1_5 l Z a0 hw cm h1705 n0 S1721.old a b ta ka da x0 x1 x2 x3 x4 tb kb db y0 f1724.1 f1724.2.1 f1724.2.2.1 f1716.1 f1716.2.1 f1716.2.2.1 f1724.2.2.2 f1716.2.2.2) (W 106 rfl) (W 8 rfl) (by decide) (by decide)) (lenOf own_pd_28 rfl) rfl (Nle rfl) (by decide) (by decide) Wrs.nil ?_
       intro v1725 T1726 h1727 L1728 S1729 q1730 K1731
       obtain ⟨rfl, e_q1730⟩ := q1730
       obtain rfl := e_q1730.symm
       show Go p e below _ T1726 (mkF m 52 #[vr o, vr a, vr b, vi 4] [(.int (own_nx []))])
       show Go p e below _ T1726 (mkF m 52 #[vr o, vr a, vr b, vi 4] [(.int (-1))])
       refine S1729.istoreN 53 #[vr o, vr a, vr b, vi (-1)] (H dq__52) rfl (S1729.goto 26 (H dq__53) (S1729.iloadN 27 (H dq__26) rfl (S1729.ifY 56 (H dq__27) (zLtT (by decide)) ?_)))
       exact S1729.ret0 (H dq__56) hret (by decide) (by decide) ⟨rfl, _, _, _, _, f1710, f1711, f1712, f1713, f1714, f1715⟩
     ·skip
      show Go p e below _ T1690 (mkF m 52 #[vr o, vr a, vr b, vi 0] [(.int 3)])
      refine S1693.istoreN 53 #[vr o, vr a, vr b, vi 3] (H dq__52) rfl (S1693.goto 26 (H dq__53) (S1693.iloadN 27 (H dq__26) rfl (S1693.ifN 30 (H dq__27) (zLtF (by decide)) (S1693.aloadN 31 (H dq__30) rfl rfl (S1693.iloadN 32 (H dq__31) rfl (S1693.iloadN 33 (H dq__32) rfl ?_))))))
      refine S1693.aloadN 34 (H dq__33) rfl rfl (S1693.vcall 37 (H dq__34) hml.symm (W 93 rfl) (W 94 rfl) (W 96 rfl) (W 95 rfl) (nfSel (W 96 rfl)) (by decide) f1680.1 [] [(.int 3), (.int 3), (.ref o)] (Con.pay (W := 3) (own_len_1 l Z a0 hw cm h1669 n0 S1693.old b tb kb [(.int y0)] db f1680.1 f1680.2.1 f1680.2.2.1 f1680.2.2.2) (W 97 rfl) (W 8 rfl) (by decide) (by decide)) (lenOf own_pd_21 rfl) rfl (Nle rfl) (by decide) (by decide) Wrs.nil ?_)
      intro v1732 T1733 h1734 L1735 S1736 q1737 K1738
      obtain ⟨rfl, e_q1737⟩ := q1737
      obtain rfl := e_q1737.symm
      show Go p e below _ T1733 (mkF m 37 #[vr o, vr a, vr b, vi 3] [(.int 1), (.int 3), (.int 3), (.ref o)])
      refine S1736.iadd 38 (H dq__37) ?_
      rw [show (3 + 1 : Int32) = 4 from by decide]
      refine S1736.pcall 41 (H dq__38) hml.symm (W 98 rfl) (W 99 rfl) (W 100 rfl) (W 101 rfl) (W 75 rfl) rfl (by decide) f1674 [(.int 3), (.int 4)] [] (Con.pay (W := 0) (own_add_1 l Z a0 hw h1669 n0 S1736.old o b1055 b1078 k1056 k1079 (0 : Int32) (1 : Int32) (3 : Int32) (4 : Int32) (S1736.ge (Or.inl (by simp))) (S1736.ge wo1060) (S1736.ge wo1083) f1674 f1675 f1676 f1677 f1678 f1679 (Nat.ne_of_lt l1096) (Nat.ne_of_lt l1066) (Nat.ne_of_lt l1094)) (W 101 rfl) (W 37 rfl) (by decide) (by decide)) (lenOf own_pd_27 rfl) rfl (Nle rfl) (by decide) (by decide) (Wrs.three ⟨(Or.inl (by simp)), Or.inr ⟨_, f1674, by decide, by decide⟩⟩ ⟨wo1060, Or.inl (by simp)⟩ ⟨wo1083, Or.inl (by simp)⟩) ?_
      intro v1739 T1740 h1741 L1742 S1743 q1744 K1745
      obtain ⟨rfl, f1746, f1747, f1748, f1749, f1750, f1751⟩ := q1744
      show Go p e below _ T1740 (mkF m 41 #[vr o, vr a, vr b, vi 3] [])
      refine S1743.aloadN 42 (H dq__41) rfl rfl (S1743.aloadN 43 (H dq__42) rfl rfl (S1743.iloadN 44 (H dq__43) rfl (S1743.aloadN 45 (H dq__44) rfl rfl ?_)))
      have f1752 := (f1680.keep K1745 (ninS nbo (ninS (Nat.ne_of_lt l1064) (ninS (Nat.ne_of_lt l1090) nin0))) (ninS ntb (ninS (Nat.ne_of_lt l1065) (ninS (Nat.ne_of_lt l1092) nin0))))
      refine S1743.vcall 48 (H dq__45) hml.symm (W 93 rfl) (W 94 rfl) (W 96 rfl) (W 95 rfl) (nfSel (W 96 rfl)) (by decide) f1752.1 [] [(.int 3), (.ref b), (.ref a)] (Con.pay (W := 3) (own_len_1 l Z a0 hw cm h1741 n0 S1743.old b tb kb [(.int y0)] db f1752.1 f1752.2.1 f1752.2.2.1 f1752.2.2.2) (W 97 rfl) (W 8 rfl) (by decide) (by decide)) (lenOf own_pd_21 rfl) rfl (Nle rfl) (by decide) (by decide) Wrs.nil ?_
      intro v1753 T1754 h1755 L1756 S1757 q1758 K1759
      obtain ⟨rfl, e_q1758⟩ := q1758
      obtain rfl := e_q1758.symm
      show Go p e below _ T1754 (mkF m 48 #[vr o, vr a, vr b, vi 3] [(.int 1), (.int 3), (.ref b), (.ref a)])
      refine S1757.iadd 49 (H dq__48) ?_
      rw [show (3 + 1 : Int32) = 4 from by decide]
      have f1760 := (f1688.keep K1745 (ninS nao (ninS (Nat.ne_of_lt l1062) (ninS (Nat.ne_of_lt l1086) nin0))) (ninS nta (ninS (Nat.ne_of_lt l1063) (ninS (Nat.ne_of_lt l1088) nin0))))
      refine S1757.vcall 52 (H dq__49) hml.symm (W 102 rfl) (W 103 rfl) (W 105 rfl) (W 104 rfl) (nfSel (W 105 rfl)) (by decide) f1760.1 [(.ref b), (.int 4)] [] (Con.pay (W := 0) (own_i2_1_4 l Z a0 hw cm h1741 n0 S1757.old a b ta ka da x0 x1 x2 x3 x4 tb kb db y0 b4 f1760.1 f1760.2.1 f1760.2.2.1 f1752.1 f1752.2.1 f1752.2.2.1 f1760.2.2.2 f1752.2.2.2 e4) (W 106 rfl) (W 8 rfl) (by decide) (by decide)) (lenOf own_pd_28 rfl) rfl (Nle rfl) (by decide) (by decide) Wrs.nil ?_
      intro v1761 T1762 h1763 L1764 S1765 q1766 K1767
      obtain ⟨rfl, e_q1766⟩ := q1766
      obtain rfl := e_q1766.symm
      show Go p e below _ T1762 (mkF m 52 #[vr o, vr a, vr b, vi 3] [(.int (own_nx [(b4, 4)]))])
      rcases b4 with _ | _
      ·skip
       show Go p e below _ T1762 (mkF m 52 #[vr o, vr a, vr b, vi 3] [(.int (-1))])
       refine S1765.istoreN 53 #[vr o, vr a, vr b, vi (-1)] (H dq__52) rfl (S1765.goto 26 (H dq__53) (S1765.iloadN 27 (H dq__26) rfl (S1765.ifY 56 (H dq__27) (zLtT (by decide)) ?_)))
       exact S1765.ret0 (H dq__56) hret (by decide) (by decide) ⟨rfl, _, _, _, _, f1746, f1747, f1748, f1749, f1750, f1751⟩
      ·skip
       show Go p e below _ T1762 (mkF m 52 #[vr o, vr a, vr b, vi 3] [(.int 4)])
       refine S1765.istoreN 53 #[vr o, vr a, vr b, vi 4] (H dq__52) rfl (S1765.goto 26 (H dq__53) (S1765.iloadN 27 (H dq__26) rfl (S1765.ifN 30 (H dq__27) (zLtF (by decide)) (S1765.aloadN 31 (H dq__30) rfl rfl (S1765.iloadN 32 (H dq__31) rfl (S1765.iloadN 33 (H dq__32) rfl ?_))))))
       refine S1765.aloadN 34 (H dq__33) rfl rfl (S1765.vcall 37 (H dq__34) hml.symm (W 93 rfl) (W 94 rfl) (W 96 rfl) (W 95 rfl) (nfSel (W 96 rfl)) (by decide) f1752.1 [] [(.int 4), (.int 4), (.ref o)] (Con.pay (W := 3) (own_len_1 l Z a0 hw cm h1741 n0 S1765.old b tb kb [(.int y0)] db f1752.1 f1752.2.1 f1752.2.2.1 f1752.2.2.2) (W 97 rfl) (W 8 rfl) (by decide) (by decide)) (lenOf own_pd_21 rfl) rfl (Nle rfl) (by decide) (by decide) Wrs.nil ?_)
       intro v1768 T1769 h1770 L1771 S1772 q1773 K1774
       obtain ⟨rfl, e_q1773⟩ := q1773
       obtain rfl := e_q1773.symm
       show Go p e below _ T1769 (mkF m 37 #[vr o, vr a, vr b, vi 4] [(.int 1), (.int 4), (.int 4), (.ref o)])
       refine S1772.iadd 38 (H dq__37) ?_
       rw [show (4 + 1 : Int32) = 5 from by decide]
       refine S1772.pcall 41 (H dq__38) hml.symm (W 98 rfl) (W 99 rfl) (W 100 rfl) (W 101 rfl) (W 75 rfl) rfl (by decide) f1746 [(.int 4), (.int 5)] [] (Con.pay (W := 0) (own_add_2 l Z a0 hw h1741 n0 S1772.old o b1055 b1078 k1056 k1079 (0 : Int32) (3 : Int32) (1 : Int32) (4 : Int32) (4 : Int32) (5 : Int32) (S1772.ge (Or.inl (by simp))) (S1772.ge wo1060) (S1772.ge wo1083) f1746 f1747 f1748 f1749 f1750 f1751 (Nat.ne_of_lt l1096) (Nat.ne_of_lt l1066) (Nat.ne_of_lt l1094)) (W 101 rfl) (W 37 rfl) (by decide) (by decide)) (lenOf own_pd_27 rfl) rfl (Nle rfl) (by decide) (by decide) (Wrs.three ⟨(Or.inl (by simp)), Or.inr ⟨_, f1746, by decide, by decide⟩⟩ ⟨wo1060, Or.inl (by simp)⟩ ⟨wo1083, Or.inl (by simp)⟩) ?_
       intro v1775 T1776 h1777 L1778 S1779 q1780 K1781
       obtain ⟨rfl, f1782, f1783, f1784, f1785, f1786, f1787⟩ := q1780
       show Go p e below _ T1776 (mkF m 41 #[vr o, vr a, vr b, vi 4] [])
       refine S1779.aloadN 42 (H dq__41) rfl rfl (S1779.aloadN 43 (H dq__42) rfl rfl (S1779.iloadN 44 (H dq__43) rfl (S1779.aloadN 45 (H dq__44) rfl rfl ?_)))
       have f1788 := (f1752.keep K1781 (ninS nbo (ninS (Nat.ne_of_lt l1064) (ninS (Nat.ne_of_lt l1090) nin0))) (ninS ntb (ninS (Nat.ne_of_lt l1065) (ninS (Nat.ne_of_lt l1092) nin0))))
       refine S1779.vcall 48 (H dq__45) hml.symm (W 93 rfl) (W 94 rfl) (W 96 rfl) (W 95 rfl) (nfSel (W 96 rfl)) (by decide) f1788.1 [] [(.int 4), (.ref b), (.ref a)] (Con.pay (W := 3) (own_len_1 l Z a0 hw cm h1777 n0 S1779.old b tb kb [(.int y0)] db f1788.1 f1788.2.1 f1788.2.2.1 f1788.2.2.2) (W 97 rfl) (W 8 rfl) (by decide) (by decide)) (lenOf own_pd_21 rfl) rfl (Nle rfl) (by decide) (by decide) Wrs.nil ?_
       intro v1789 T1790 h1791 L1792 S1793 q1794 K1795
       obtain ⟨rfl, e_q1794⟩ := q1794
       obtain rfl := e_q1794.symm
       show Go p e below _ T1790 (mkF m 48 #[vr o, vr a, vr b, vi 4] [(.int 1), (.int 4), (.ref b), (.ref a)])
       refine S1793.iadd 49 (H dq__48) ?_
       rw [show (4 + 1 : Int32) = 5 from by decide]
       have f1796 := (f1760.keep K1781 (ninS nao (ninS (Nat.ne_of_lt l1062) (ninS (Nat.ne_of_lt l1086) nin0))) (ninS nta (ninS (Nat.ne_of_lt l1063) (ninS (Nat.ne_of_lt l1088) nin0))))
       refine S1793.vcall 52 (H dq__49) hml.symm (W 102 rfl) (W 103 rfl) (W 105 rfl) (W 104 rfl) (nfSel (W 105 rfl)) (by decide) f1796.1 [(.ref b), (.int 5)] [] (Con.pay (W := 0) (own_i2_1_5 l Z a0 hw cm h1777 n0 S1793.old a b ta ka da x0 x1 x2 x3 x4 tb kb db y0 f1796.1 f1796.2.1 f1796.2.2.1 f1788.1 f1788.2.1 f1788.2.2.1 f1796.2.2.2 f1788.2.2.2) (W 106 rfl) (W 8 rfl) (by decide) (by decide)) (lenOf own_pd_28 rfl) rfl (Nle rfl) (by decide) (by decide) Wrs.nil ?_
       intro v1797 T1798 h1799 L1800 S1801 q1802 K1803
       obtain ⟨rfl, e_q1802⟩ := q1802
       obtain rfl := e_q1802.symm
       show Go p e below _ T1798 (mkF m 52 #[vr o, vr a, vr b, vi 4] [(.int (own_nx []))])
       show Go p e below _ T1798 (mkF m 52 #[vr o, vr a, vr b, vi 4] [(.int (-1))])
       refine S1801.istoreN 53 #[vr o, vr a, vr b, vi (-1)] (H dq__52) rfl (S1801.goto 26 (H dq__53) (S1801.iloadN 27 (H dq__26) rfl (S1801.ifY 56 (H dq__27) (zLtT (by decide)) ?_)))
       exact S1801.ret0 (H dq__56) hret (by decide) (by decide) ⟨rfl, _, _, _, _, f1782, f1783, f1784, f1785, f1786, f1787⟩
    ·skip
     show Go p e below _ T1690 (mkF m 52 #[vr o, vr a, vr b, vi 0] [(.int 2)])
     refine S1693.istoreN 53 #[vr o, vr a, vr b, vi 2] (H dq__52) rfl (S1693.goto 26 (H dq__53) (S1693.iloadN 27 (H dq__26) rfl (S1693.ifN 30 (H dq__27) (zLtF (by decide)) (S1693.aloadN 31 (H dq__30) rfl rfl (S1693.iloadN 32 (H dq__31) rfl (S1693.iloadN 33 (H dq__32) rfl ?_))))))
     refine S1693.aloadN 34 (H dq__33) rfl rfl (S1693.vcall 37 (H dq__34) hml.symm (W 93 rfl) (W 94 rfl) (W 96 rfl) (W 95 rfl) (nfSel (W 96 rfl)) (by decide) f1680.1 [] [(.int 2), (.int 2), (.ref o)] (Con.pay (W := 3) (own_len_1 l Z a0 hw cm h1669 n0 S1693.old b tb kb [(.int y0)] db f1680.1 f1680.2.1 f1680.2.2.1 f1680.2.2.2) (W 97 rfl) (W 8 rfl) (by decide) (by decide)) (lenOf own_pd_21 rfl) rfl (Nle rfl) (by decide) (by decide) Wrs.nil ?_)
     intro v1804 T1805 h1806 L1807 S1808 q1809 K1810
     obtain ⟨rfl, e_q1809⟩ := q1809
     obtain rfl := e_q1809.symm
     show Go p e below _ T1805 (mkF m 37 #[vr o, vr a, vr b, vi 2] [(.int 1), (.int 2), (.int 2), (.ref o)])
     refine S1808.iadd 38 (H dq__37) ?_
     rw [show (2 + 1 : Int32) = 3 from by decide]
     refine S1808.pcall 41 (H dq__38) hml.symm (W 98 rfl) (W 99 rfl) (W 100 rfl) (W 101 rfl) (W 75 rfl) rfl (by decide) f1674 [(.int 2), (.int 3)] [] (Con.pay (W := 0) (own_add_1 l Z a0 hw h1669 n0 S1808.old o b1055 b1078 k1056 k1079 (0 : Int32) (1 : Int32) (2 : Int32) (3 : Int32) (S1808.ge (Or.inl (by simp))) (S1808.ge wo1060) (S1808.ge wo1083) f1674 f1675 f1676 f1677 f1678 f1679 (Nat.ne_of_lt l1096) (Nat.ne_of_lt l1066) (Nat.ne_of_lt l1094)) (W 101 rfl) (W 37 rfl) (by decide) (by decide)) (lenOf own_pd_27 rfl) rfl (Nle rfl) (by decide) (by decide) (Wrs.three ⟨(Or.inl (by simp)), Or.inr ⟨_, f1674, by decide, by decide⟩⟩ ⟨wo1060, Or.inl (by simp)⟩ ⟨wo1083, Or.inl (by simp)⟩) ?_
     intro v1811 T1812 h1813 L1814 S1815 q1816 K1817
     obtain ⟨rfl, f1818, f1819, f1820, f1821, f1822, f1823⟩ := q1816
     show Go p e below _ T1812 (mkF m 41 #[vr o, vr a, vr b, vi 2] [])
     refine S1815.aloadN 42 (H dq__41) rfl rfl (S1815.aloadN 43 (H dq__42) rfl rfl (S1815.iloadN 44 (H dq__43) rfl (S1815.aloadN 45 (H dq__44) rfl rfl ?_)))
     have f1824 := (f1680.keep K1817 (ninS nbo (ninS (Nat.ne_of_lt l1064) (ninS (Nat.ne_of_lt l1090) nin0))) (ninS ntb (ninS (Nat.ne_of_lt l1065) (ninS (Nat.ne_of_lt l1092) nin0))))
     refine S1815.vcall 48 (H dq__45) hml.symm (W 93 rfl) (W 94 rfl) (W 96 rfl) (W 95 rfl) (nfSel (W 96 rfl)) (by decide) f1824.1 [] [(.int 2), (.ref b), (.ref a)] (Con.pay (W := 3) (own_len_1 l Z a0 hw cm h1813 n0 S1815.old b tb kb [(.int y0)] db f1824.1 f1824.2.1 f1824.2.2.1 f1824.2.2.2) (W 97 rfl) (W 8 rfl) (by decide) (by decide)) (lenOf own_pd_21 rfl) rfl (Nle rfl) (by decide) (by decide) Wrs.nil ?_
     intro v1825 T1826 h1827 L1828 S1829 q1830 K1831
     obtain ⟨rfl, e_q1830⟩ := q1830
     obtain rfl := e_q1830.symm
     show Go p e below _ T1826 (mkF m 48 #[vr o, vr a, vr b, vi 2] [(.int 1), (.int 2), (.ref b), (.ref a)])
     refine S1829.iadd 49 (H dq__48) ?_
     rw [show (2 + 1 : Int32) = 3 from by decide]
     have f1832 := (f1688.keep K1817 (ninS nao (ninS (Nat.ne_of_lt l1062) (ninS (Nat.ne_of_lt l1086) nin0))) (ninS nta (ninS (Nat.ne_of_lt l1063) (ninS (Nat.ne_of_lt l1088) nin0))))
     refine S1829.vcall 52 (H dq__49) hml.symm (W 102 rfl) (W 103 rfl) (W 105 rfl) (W 104 rfl) (nfSel (W 105 rfl)) (by decide) f1832.1 [(.ref b), (.int 3)] [] (Con.pay (W := 0) (own_i2_1_3 l Z a0 hw cm h1813 n0 S1829.old a b ta ka da x0 x1 x2 x3 x4 tb kb db y0 b3 b4 f1832.1 f1832.2.1 f1832.2.2.1 f1824.1 f1824.2.1 f1824.2.2.1 f1832.2.2.2 f1824.2.2.2 e3 e4) (W 106 rfl) (W 8 rfl) (by decide) (by decide)) (lenOf own_pd_28 rfl) rfl (Nle rfl) (by decide) (by decide) Wrs.nil ?_
     intro v1833 T1834 h1835 L1836 S1837 q1838 K1839
     obtain ⟨rfl, e_q1838⟩ := q1838
     obtain rfl := e_q1838.symm
     show Go p e below _ T1834 (mkF m 52 #[vr o, vr a, vr b, vi 2] [(.int (own_nx [(b3, 3), (b4, 4)]))])
     rcases b3 with _ | _
     ·skip
      show Go p e below _ T1834 (mkF m 52 #[vr o, vr a, vr b, vi 2] [(.int (own_nx [(b4, 4)]))])
      rcases b4 with _ | _
      ·skip
       show Go p e below _ T1834 (mkF m 52 #[vr o, vr a, vr b, vi 2] [(.int (-1))])
       refine S1837.istoreN 53 #[vr o, vr a, vr b, vi (-1)] (H dq__52) rfl (S1837.goto 26 (H dq__53) (S1837.iloadN 27 (H dq__26) rfl (S1837.ifY 56 (H dq__27) (zLtT (by decide)) ?_)))
       exact S1837.ret0 (H dq__56) hret (by decide) (by decide) ⟨rfl, _, _, _, _, f1818, f1819, f1820, f1821, f1822, f1823⟩
      ·skip
       show Go p e below _ T1834 (mkF m 52 #[vr o, vr a, vr b, vi 2] [(.int 4)])
       refine S1837.istoreN 53 #[vr o, vr a, vr b, vi 4] (H dq__52) rfl (S1837.goto 26 (H dq__53) (S1837.iloadN 27 (H dq__26) rfl (S1837.ifN 30 (H dq__27) (zLtF (by decide)) (S1837.aloadN 31 (H dq__30) rfl rfl (S1837.iloadN 32 (H dq__31) rfl (S1837.iloadN 33 (H dq__32) rfl ?_))))))
       refine S1837.aloadN 34 (H dq__33) rfl rfl (S1837.vcall 37 (H dq__34) hml.symm (W 93 rfl) (W 94 rfl) (W 96 rfl) (W 95 rfl) (nfSel (W 96 rfl)) (by decide) f1824.1 [] [(.int 4), (.int 4), (.ref o)] (Con.pay (W := 3) (own_len_1 l Z a0 hw cm h1813 n0 S1837.old b tb kb [(.int y0)] db f1824.1 f1824.2.1 f1824.2.2.1 f1824.2.2.2) (W 97 rfl) (W 8 rfl) (by decide) (by decide)) (lenOf own_pd_21 rfl) rfl (Nle rfl) (by decide) (by decide) Wrs.nil ?_)
       intro v1840 T1841 h1842 L1843 S1844 q1845 K1846
       obtain ⟨rfl, e_q1845⟩ := q1845
       obtain rfl := e_q1845.symm
       show Go p e below _ T1841 (mkF m 37 #[vr o, vr a, vr b, vi 4] [(.int 1), (.int 4), (.int 4), (.ref o)])
       refine S1844.iadd 38 (H dq__37) ?_
       rw [show (4 + 1 : Int32) = 5 from by decide]
       refine S1844.pcall 41 (H dq__38) hml.symm (W 98 rfl) (W 99 rfl) (W 100 rfl) (W 101 rfl) (W 75 rfl) rfl (by decide) f1818 [(.int 4), (.int 5)] [] (Con.pay (W := 0) (own_add_2 l Z a0 hw h1813 n0 S1844.old o b1055 b1078 k1056 k1079 (0 : Int32) (2 : Int32) (1 : Int32) (3 : Int32) (4 : Int32) (5 : Int32) (S1844.ge (Or.inl (by simp))) (S1844.ge wo1060) (S1844.ge wo1083) f1818 f1819 f1820 f1821 f1822 f1823 (Nat.ne_of_lt l1096) (Nat.ne_of_lt l1066) (Nat.ne_of_lt l1094)) (W 101 rfl) (W 37 rfl) (by decide) (by decide)) (lenOf own_pd_27 rfl) rfl (Nle rfl) (by decide) (by decide) (Wrs.three ⟨(Or.inl (by simp)), Or.inr ⟨_, f1818, by decide, by decide⟩⟩ ⟨wo1060, Or.inl (by simp)⟩ ⟨wo1083, Or.inl (by simp)⟩) ?_
       intro v1847 T1848 h1849 L1850 S1851 q1852 K1853
       obtain ⟨rfl, f1854, f1855, f1856, f1857, f1858, f1859⟩ := q1852
       show Go p e below _ T1848 (mkF m 41 #[vr o, vr a, vr b, vi 4] [])
       refine S1851.aloadN 42 (H dq__41) rfl rfl (S1851.aloadN 43 (H dq__42) rfl rfl (S1851.iloadN 44 (H dq__43) rfl (S1851.aloadN 45 (H dq__44) rfl rfl ?_)))
       have f1860 := (f1824.keep K1853 (ninS nbo (ninS (Nat.ne_of_lt l1064) (ninS (Nat.ne_of_lt l1090) nin0))) (ninS ntb (ninS (Nat.ne_of_lt l1065) (ninS (Nat.ne_of_lt l1092) nin0))))
       refine S1851.vcall 48 (H dq__45) hml.symm (W 93 rfl) (W 94 rfl) (W 96 rfl) (W 95 rfl) (nfSel (W 96 rfl)) (by decide) f1860.1 [] [(.int 4), (.ref b), (.ref a)] (Con.pay (W := 3) (own_len_1 l Z a0 hw cm h1849 n0 S1851.old b tb kb [(.int y0)] db f1860.1 f1860.2.1 f1860.2.2.1 f1860.2.2.2) (W 97 rfl) (W 8 rfl) (by decide) (by decide)) (lenOf own_pd_21 rfl) rfl (Nle rfl) (by decide) (by decide) Wrs.nil ?_
       intro v1861 T1862 h1863 L1864 S1865 q1866 K1867
       obtain ⟨rfl, e_q1866⟩ := q1866
       obtain rfl := e_q1866.symm
       show Go p e below _ T1862 (mkF m 48 #[vr o, vr a, vr b, vi 4] [(.int 1), (.int 4), (.ref b), (.ref a)])
       refine S1865.iadd 49 (H dq__48) ?_
       rw [show (4 + 1 : Int32) = 5 from by decide]
       have f1868 := (f1832.keep K1853 (ninS nao (ninS (Nat.ne_of_lt l1062) (ninS (Nat.ne_of_lt l1086) nin0))) (ninS nta (ninS (Nat.ne_of_lt l1063) (ninS (Nat.ne_of_lt l1088) nin0))))
       refine S1865.vcall 52 (H dq__49) hml.symm (W 102 rfl) (W 103 rfl) (W 105 rfl) (W 104 rfl) (nfSel (W 105 rfl)) (by decide) f1868.1 [(.ref b), (.int 5)] [] (Con.pay (W := 0) (own_i2_1_5 l Z a0 hw cm h1849 n0 S1865.old a b ta ka da x0 x1 x2 x3 x4 tb kb db y0 f1868.1 f1868.2.1 f1868.2.2.1 f1860.1 f1860.2.1 f1860.2.2.1 f1868.2.2.2 f1860.2.2.2) (W 106 rfl) (W 8 rfl) (by decide) (by decide)) (lenOf own_pd_28 rfl) rfl (Nle rfl) (by decide) (by decide) Wrs.nil ?_
       intro v1869 T1870 h1871 L1872 S1873 q1874 K1875
       obtain ⟨rfl, e_q1874⟩ := q1874
       obtain rfl := e_q1874.symm
       show Go p e below _ T1870 (mkF m 52 #[vr o, vr a, vr b, vi 4] [(.int (own_nx []))])
       show Go p e below _ T1870 (mkF m 52 #[vr o, vr a, vr b, vi 4] [(.int (-1))])
       refine S1873.istoreN 53 #[vr o, vr a, vr b, vi (-1)] (H dq__52) rfl (S1873.goto 26 (H dq__53) (S1873.iloadN 27 (H dq__26) rfl (S1873.ifY 56 (H dq__27) (zLtT (by decide)) ?_)))
       exact S1873.ret0 (H dq__56) hret (by decide) (by decide) ⟨rfl, _, _, _, _, f1854, f1855, f1856, f1857, f1858, f1859⟩
     ·skip
      show Go p e below _ T1834 (mkF m 52 #[vr o, vr a, vr b, vi 2] [(.int 3)])
      refine S1837.istoreN 53 #[vr o, vr a, vr b, vi 3] (H dq__52) rfl (S1837.goto 26 (H dq__53) (S1837.iloadN 27 (H dq__26) rfl (S1837.ifN 30 (H dq__27) (zLtF (by decide)) (S1837.aloadN 31 (H dq__30) rfl rfl (S1837.iloadN 32 (H dq__31) rfl (S1837.iloadN 33 (H dq__32) rfl ?_))))))
      refine S1837.aloadN 34 (H dq__33) rfl rfl (S1837.vcall 37 (H dq__34) hml.symm (W 93 rfl) (W 94 rfl) (W 96 rfl) (W 95 rfl) (nfSel (W 96 rfl)) (by decide) f1824.1 [] [(.int 3), (.int 3), (.ref o)] (Con.pay (W := 3) (own_len_1 l Z a0 hw cm h1813 n0 S1837.old b tb kb [(.int y0)] db f1824.1 f1824.2.1 f1824.2.2.1 f1824.2.2.2) (W 97 rfl) (W 8 rfl) (by decide) (by decide)) (lenOf own_pd_21 rfl) rfl (Nle rfl) (by decide) (by decide) Wrs.nil ?_)
      intro v1876 T1877 h1878 L1879 S1880 q1881 K1882
      obtain ⟨rfl, e_q1881⟩ := q1881
      obtain rfl := e_q1881.symm
      show Go p e below _ T1877 (mkF m 37 #[vr o, vr a, vr b, vi 3] [(.int 1), (.int 3), (.int 3), (.ref o)])
      refine S1880.iadd 38 (H dq__37) ?_
      rw [show (3 + 1 : Int32) = 4 from by decide]
      refine S1880.pcall 41 (H dq__38) hml.symm (W 98 rfl) (W 99 rfl) (W 100 rfl) (W 101 rfl) (W 75 rfl) rfl (by decide) f1818 [(.int 3), (.int 4)] [] (Con.pay (W := 0) (own_add_2 l Z a0 hw h1813 n0 S1880.old o b1055 b1078 k1056 k1079 (0 : Int32) (2 : Int32) (1 : Int32) (3 : Int32) (3 : Int32) (4 : Int32) (S1880.ge (Or.inl (by simp))) (S1880.ge wo1060) (S1880.ge wo1083) f1818 f1819 f1820 f1821 f1822 f1823 (Nat.ne_of_lt l1096) (Nat.ne_of_lt l1066) (Nat.ne_of_lt l1094)) (W 101 rfl) (W 37 rfl) (by decide) (by decide)) (lenOf own_pd_27 rfl) rfl (Nle rfl) (by decide) (by decide) (Wrs.three ⟨(Or.inl (by simp)), Or.inr ⟨_, f1818, by decide, by decide⟩⟩ ⟨wo1060, Or.inl (by simp)⟩ ⟨wo1083, Or.inl (by simp)⟩) ?_
      intro v1883 T1884 h1885 L1886 S1887 q1888 K1889
      obtain ⟨rfl, f1890, f1891, f1892, f1893, f1894, f1895⟩ := q1888
      show Go p e below _ T1884 (mkF m 41 #[vr o, vr a, vr b, vi 3] [])
      refine S1887.aloadN 42 (H dq__41) rfl rfl (S1887.aloadN 43 (H dq__42) rfl rfl (S1887.iloadN 44 (H dq__43) rfl (S1887.aloadN 45 (H dq__44) rfl rfl ?_)))
      have f1896 := (f1824.keep K1889 (ninS nbo (ninS (Nat.ne_of_lt l1064) (ninS (Nat.ne_of_lt l1090) nin0))) (ninS ntb (ninS (Nat.ne_of_lt l1065) (ninS (Nat.ne_of_lt l1092) nin0))))
      refine S1887.vcall 48 (H dq__45) hml.symm (W 93 rfl) (W 94 rfl) (W 96 rfl) (W 95 rfl) (nfSel (W 96 rfl)) (by decide) f1896.1 [] [(.int 3), (.ref b), (.ref a)] (Con.pay (W := 3) (own_len_1 l Z a0 hw cm h1885 n0 S1887.old b tb kb [(.int y0)] db f1896.1 f1896.2.1 f1896.2.2.1 f1896.2.2.2) (W 97 rfl) (W 8 rfl) (by decide) (by decide)) (lenOf own_pd_21 rfl) rfl (Nle rfl) (by decide) (by decide) Wrs.nil ?_
      intro v1897 T1898 h1899 L1900 S1901 q1902 K1903
      obtain ⟨rfl, e_q1902⟩ := q1902
      obtain rfl := e_q1902.symm
      show Go p e below _ T1898 (mkF m 48 #[vr o, vr a, vr b, vi 3] [(.int 1), (.int 3), (.ref b), (.ref a)])
      refine S1901.iadd 49 (H dq__48) ?_
      rw [show (3 + 1 : Int32) = 4 from by decide]
      have f1904 := (f1832.keep K1889 (ninS nao (ninS (Nat.ne_of_lt l1062) (ninS (Nat.ne_of_lt l1086) nin0))) (ninS nta (ninS (Nat.ne_of_lt l1063) (ninS (Nat.ne_of_lt l1088) nin0))))
      refine S1901.vcall 52 (H dq__49) hml.symm (W 102 rfl) (W 103 rfl) (W 105 rfl) (W 104 rfl) (nfSel (W 105 rfl)) (by decide) f1904.1 [(.ref b), (.int 4)] [] (Con.pay (W := 0) (own_i2_1_4 l Z a0 hw cm h1885 n0 S1901.old a b ta ka da x0 x1 x2 x3 x4 tb kb db y0 b4 f1904.1 f1904.2.1 f1904.2.2.1 f1896.1 f1896.2.1 f1896.2.2.1 f1904.2.2.2 f1896.2.2.2 e4) (W 106 rfl) (W 8 rfl) (by decide) (by decide)) (lenOf own_pd_28 rfl) rfl (Nle rfl) (by decide) (by decide) Wrs.nil ?_
      intro v1905 T1906 h1907 L1908 S1909 q1910 K1911
      obtain ⟨rfl, e_q1910⟩ := q1910
      obtain rfl := e_q1910.symm
      show Go p e below _ T1906 (mkF m 52 #[vr o, vr a, vr b, vi 3] [(.int (own_nx [(b4, 4)]))])
      rcases b4 with _ | _
      ·skip
       show Go p e below _ T1906 (mkF m 52 #[vr o, vr a, vr b, vi 3] [(.int (-1))])
       refine S1909.istoreN 53 #[vr o, vr a, vr b, vi (-1)] (H dq__52) rfl (S1909.goto 26 (H dq__53) (S1909.iloadN 27 (H dq__26) rfl (S1909.ifY 56 (H dq__27) (zLtT (by decide)) ?_)))
       exact S1909.ret0 (H dq__56) hret (by decide) (by decide) ⟨rfl, _, _, _, _, f1890, f1891, f1892, f1893, f1894, f1895⟩
      ·skip
       show Go p e below _ T1906 (mkF m 52 #[vr o, vr a, vr b, vi 3] [(.int 4)])
       refine S1909.istoreN 53 #[vr o, vr a, vr b, vi 4] (H dq__52) rfl (S1909.goto 26 (H dq__53) (S1909.iloadN 27 (H dq__26) rfl (S1909.ifN 30 (H dq__27) (zLtF (by decide)) (S1909.aloadN 31 (H dq__30) rfl rfl (S1909.iloadN 32 (H dq__31) rfl (S1909.iloadN 33 (H dq__32) rfl ?_))))))
       refine S1909.aloadN 34 (H dq__33) rfl rfl (S1909.vcall 37 (H dq__34) hml.symm (W 93 rfl) (W 94 rfl) (W 96 rfl) (W 95 rfl) (nfSel (W 96 rfl)) (by decide) f1896.1 [] [(.int 4), (.int 4), (.ref o)] (Con.pay (W := 3) (own_len_1 l Z a0 hw cm h1885 n0 S1909.old b tb kb [(.int y0)] db f1896.1 f1896.2.1 f1896.2.2.1 f1896.2.2.2) (W 97 rfl) (W 8 rfl) (by decide) (by decide)) (lenOf own_pd_21 rfl) rfl (Nle rfl) (by decide) (by decide) Wrs.nil ?_)
       intro v1912 T1913 h1914 L1915 S1916 q1917 K1918
       obtain ⟨rfl, e_q1917⟩ := q1917
       obtain rfl := e_q1917.symm
       show Go p e below _ T1913 (mkF m 37 #[vr o, vr a, vr b, vi 4] [(.int 1), (.int 4), (.int 4), (.ref o)])
       refine S1916.iadd 38 (H dq__37) ?_
       rw [show (4 + 1 : Int32) = 5 from by decide]
       refine S1916.pcall 41 (H dq__38) hml.symm (W 98 rfl) (W 99 rfl) (W 100 rfl) (W 101 rfl) (W 75 rfl) rfl (by decide) f1890 [(.int 4), (.int 5)] [] (Con.pay (W := 0) (own_add_3 l Z a0 hw h1885 n0 S1916.old o b1055 b1078 k1056 k1079 (0 : Int32) (2 : Int32) (3 : Int32) (1 : Int32) (3 : Int32) (4 : Int32) (4 : Int32) (5 : Int32) (S1916.ge (Or.inl (by simp))) (S1916.ge wo1060) (S1916.ge wo1083) f1890 f1891 f1892 f1893 f1894 f1895 (Nat.ne_of_lt l1096) (Nat.ne_of_lt l1066) (Nat.ne_of_lt l1094)) (W 101 rfl) (W 37 rfl) (by decide) (by decide)) (lenOf own_pd_27 rfl) rfl (Nle rfl) (by decide) (by decide) (Wrs.three ⟨(Or.inl (by simp)), Or.inr ⟨_, f1890, by decide, by decide⟩⟩ ⟨wo1060, Or.inl (by simp)⟩ ⟨wo1083, Or.inl (by simp)⟩) ?_
       intro v1919 T1920 h1921 L1922 S1923 q1924 K1925
       obtain ⟨rfl, f1926, f1927, f1928, f1929, f1930, f1931⟩ := q1924
       show Go p e below _ T1920 (mkF m 41 #[vr o, vr a, vr b, vi 4] [])
       refine S1923.aloadN 42 (H dq__41) rfl rfl (S1923.aloadN 43 (H dq__42) rfl rfl (S1923.iloadN 44 (H dq__43) rfl (S1923.aloadN 45 (H dq__44) rfl rfl ?_)))
       have f1932 := (f1896.keep K1925 (ninS nbo (ninS (Nat.ne_of_lt l1064) (ninS (Nat.ne_of_lt l1090) nin0))) (ninS ntb (ninS (Nat.ne_of_lt l1065) (ninS (Nat.ne_of_lt l1092) nin0))))
       refine S1923.vcall 48 (H dq__45) hml.symm (W 93 rfl) (W 94 rfl) (W 96 rfl) (W 95 rfl) (nfSel (W 96 rfl)) (by decide) f1932.1 [] [(.int 4), (.ref b), (.ref a)] (Con.pay (W := 3) (own_len_1 l Z a0 hw cm h1921 n0 S1923.old b tb kb [(.int y0)] db f1932.1 f1932.2.1 f1932.2.2.1 f1932.2.2.2) (W 97 rfl) (W 8 rfl) (by decide) (by decide)) (lenOf own_pd_21 rfl) rfl (Nle rfl) (by decide) (by decide) Wrs.nil ?_
       intro v1933 T1934 h1935 L1936 S1937 q1938 K1939
       obtain ⟨rfl, e_q1938⟩ := q1938
       obtain rfl := e_q1938.symm
       show Go p e below _ T1934 (mkF m 48 #[vr o, vr a, vr b, vi 4] [(.int 1), (.int 4), (.ref b), (.ref a)])
       refine S1937.iadd 49 (H dq__48) ?_
       rw [show (4 + 1 : Int32) = 5 from by decide]
       have f1940 := (f1904.keep K1925 (ninS nao (ninS (Nat.ne_of_lt l1062) (ninS (Nat.ne_of_lt l1086) nin0))) (ninS nta (ninS (Nat.ne_of_lt l1063) (ninS (Nat.ne_of_lt l1088) nin0))))
       refine S1937.vcall 52 (H dq__49) hml.symm (W 102 rfl) (W 103 rfl) (W 105 rfl) (W 104 rfl) (nfSel (W 105 rfl)) (by decide) f1940.1 [(.ref b), (.int 5)] [] (Con.pay (W := 0) (own_i2_1_5 l Z a0 hw cm h1921 n0 S1937.old a b ta ka da x0 x1 x2 x3 x4 tb kb db y0 f1940.1 f1940.2.1 f1940.2.2.1 f1932.1 f1932.2.1 f1932.2.2.1 f1940.2.2.2 f1932.2.2.2) (W 106 rfl) (W 8 rfl) (by decide) (by decide)) (lenOf own_pd_28 rfl) rfl (Nle rfl) (by decide) (by decide) Wrs.nil ?_
       intro v1941 T1942 h1943 L1944 S1945 q1946 K1947
       obtain ⟨rfl, e_q1946⟩ := q1946
       obtain rfl := e_q1946.symm
       show Go p e below _ T1942 (mkF m 52 #[vr o, vr a, vr b, vi 4] [(.int (own_nx []))])
       show Go p e below _ T1942 (mkF m 52 #[vr o, vr a, vr b, vi 4] [(.int (-1))])
       refine S1945.istoreN 53 #[vr o, vr a, vr b, vi (-1)] (H dq__52) rfl (S1945.goto 26 (H dq__53) (S1945.iloadN 27 (H dq__26) rfl (S1945.ifY 56 (H dq__27) (zLtT (by decide)) ?_)))
       exact S1945.ret0 (H dq__56) hret (by decide) (by decide) ⟨rfl, _, _, _, _, f1926, f1927, f1928, f1929, f1930, f1931⟩
   ·skip
    show Go p e below _ T1690 (mkF m 52 #[vr o, vr a, vr b, vi 0] [(.int 1)])
    refine S1693.istoreN 53 #[vr o, vr a, vr b, vi 1] (H dq__52) rfl (S1693.goto 26 (H dq__53) (S1693.iloadN 27 (H dq__26) rfl (S1693.ifN 30 (H dq__27) (zLtF (by decide)) (S1693.aloadN 31 (H dq__30) rfl rfl (S1693.iloadN 32 (H dq__31) rfl (S1693.iloadN 33 (H dq__32) rfl ?_))))))
    refine S1693.aloadN 34 (H dq__33) rfl rfl (S1693.vcall 37 (H dq__34) hml.symm (W 93 rfl) (W 94 rfl) (W 96 rfl) (W 95 rfl) (nfSel (W 96 rfl)) (by decide) f1680.1 [] [(.int 1), (.int 1), (.ref o)] (Con.pay (W := 3) (own_len_1 l Z a0 hw cm h1669 n0 S1693.old b tb kb [(.int y0)] db f1680.1 f1680.2.1 f1680.2.2.1 f1680.2.2.2) (W 97 rfl) (W 8 rfl) (by decide) (by decide)) (lenOf own_pd_21 rfl) rfl (Nle rfl) (by decide) (by decide) Wrs.nil ?_)
    intro v1948 T1949 h1950 L1951 S1952 q1953 K1954
    obtain ⟨rfl, e_q1953⟩ := q1953
    obtain rfl := e_q1953.symm
    show Go p e below _ T1949 (mkF m 37 #[vr o, vr a, vr b, vi 1] [(.int 1), (.int 1), (.int 1), (.ref o)])
    refine S1952.iadd 38 (H dq__37) ?_
    rw [show (1 + 1 : Int32) = 2 from by decide]
    refine S1952.pcall 41 (H dq__38) hml.symm (W 98 rfl) (W 99 rfl) (W 100 rfl) (W 101 rfl) (W 75 rfl) rfl (by decide) f1674 [(.int 1), (.int 2)] [] (Con.pay (W := 0) (own_add_1 l Z a0 hw h1669 n0 S1952.old o b1055 b1078 k1056 k1079 (0 : Int32) (1 : Int32) (1 : Int32) (2 : Int32) (S1952.ge (Or.inl (by simp))) (S1952.ge wo1060) (S1952.ge wo1083) f1674 f1675 f1676 f1677 f1678 f1679 (Nat.ne_of_lt l1096) (Nat.ne_of_lt l1066) (Nat.ne_of_lt l1094)) (W 101 rfl) (W 37 rfl) (by decide) (by decide)) (lenOf own_pd_27 rfl) rfl (Nle rfl) (by decide) (by decide) (Wrs.three ⟨(Or.inl (by simp)), Or.inr ⟨_, f1674, by decide, by decide⟩⟩ ⟨wo1060, Or.inl (by simp)⟩ ⟨wo1083, Or.inl (by simp)⟩) ?_
    intro v1955 T1956 h1957 L1958 S1959 q1960 K1961
    obtain ⟨rfl, f1962, f1963, f1964, f1965, f1966, f1967⟩ := q1960
    show Go p e below _ T1956 (mkF m 41 #[vr o, vr a, vr b, vi 1] [])
    refine S1959.aloadN 42 (H dq__41) rfl rfl (S1959.aloadN 43 (H dq__42) rfl rfl (S1959.iloadN 44 (H dq__43) rfl (S1959.aloadN 45 (H dq__44) rfl rfl ?_)))
    have f1968 := (f1680.keep K1961 (ninS nbo (ninS (Nat.ne_of_lt l1064) (ninS (Nat.ne_of_lt l1090) nin0))) (ninS ntb (ninS (Nat.ne_of_lt l1065) (ninS (Nat.ne_of_lt l1092) nin0))))
    refine S1959.vcall 48 (H dq__45) hml.symm (W 93 rfl) (W 94 rfl) (W 96 rfl) (W 95 rfl) (nfSel (W 96 rfl)) (by decide) f1968.1 [] [(.int 1), (.ref b), (.ref a)] (Con.pay (W := 3) (own_len_1 l Z a0 hw cm h1957 n0 S1959.old b tb kb [(.int y0)] db f1968.1 f1968.2.1 f1968.2.2.1 f1968.2.2.2) (W 97 rfl) (W 8 rfl) (by decide) (by decide)) (lenOf own_pd_21 rfl) rfl (Nle rfl) (by decide) (by decide) Wrs.nil ?_
    intro v1969 T1970 h1971 L1972 S1973 q1974 K1975
    obtain ⟨rfl, e_q1974⟩ := q1974
    obtain rfl := e_q1974.symm
    show Go p e below _ T1970 (mkF m 48 #[vr o, vr a, vr b, vi 1] [(.int 1), (.int 1), (.ref b), (.ref a)])
    refine S1973.iadd 49 (H dq__48) ?_
    rw [show (1 + 1 : Int32) = 2 from by decide]
    have f1976 := (f1688.keep K1961 (ninS nao (ninS (Nat.ne_of_lt l1062) (ninS (Nat.ne_of_lt l1086) nin0))) (ninS nta (ninS (Nat.ne_of_lt l1063) (ninS (Nat.ne_of_lt l1088) nin0))))
    refine S1973.vcall 52 (H dq__49) hml.symm (W 102 rfl) (W 103 rfl) (W 105 rfl) (W 104 rfl) (nfSel (W 105 rfl)) (by decide) f1976.1 [(.ref b), (.int 2)] [] (Con.pay (W := 0) (own_i2_1_2 l Z a0 hw cm h1957 n0 S1973.old a b ta ka da x0 x1 x2 x3 x4 tb kb db y0 b2 b3 b4 f1976.1 f1976.2.1 f1976.2.2.1 f1968.1 f1968.2.1 f1968.2.2.1 f1976.2.2.2 f1968.2.2.2 e2 e3 e4) (W 106 rfl) (W 8 rfl) (by decide) (by decide)) (lenOf own_pd_28 rfl) rfl (Nle rfl) (by decide) (by decide) Wrs.nil ?_
    intro v1977 T1978 h1979 L1980 S1981 q1982 K1983
    obtain ⟨rfl, e_q1982⟩ := q1982
    obtain rfl := e_q1982.symm
    show Go p e below _ T1978 (mkF m 52 #[vr o, vr a, vr b, vi 1] [(.int (own_nx [(b2, 2), (b3, 3), (b4, 4)]))])
    rcases b2 with _ | _
    ·skip
     show Go p e below _ T1978 (mkF m 52 #[vr o, vr a, vr b, vi 1] [(.int (own_nx [(b3, 3), (b4, 4)]))])
     rcases b3 with _ | _
     ·skip
      show Go p e below _ T1978 (mkF m 52 #[vr o, vr a, vr b, vi 1] [(.int (own_nx [(b4, 4)]))])
      rcases b4 with _ | _
      ·skip
       show Go p e below _ T1978 (mkF m 52 #[vr o, vr a, vr b, vi 1] [(.int (-1))])
       refine S1981.istoreN 53 #[vr o, vr a, vr b, vi (-1)] (H dq__52) rfl (S1981.goto 26 (H dq__53) (S1981.iloadN 27 (H dq__26) rfl (S1981.ifY 56 (H dq__27) (zLtT (by decide)) ?_)))
       exact S1981.ret0 (H dq__56) hret (by decide) (by decide) ⟨rfl, _, _, _, _, f1962, f1963, f1964, f1965, f1966, f1967⟩
      ·skip
       show Go p e below _ T1978 (mkF m 52 #[vr o, vr a, vr b, vi 1] [(.int 4)])
       refine S1981.istoreN 53 #[vr o, vr a, vr b, vi 4] (H dq__52) rfl (S1981.goto 26 (H dq__53) (S1981.iloadN 27 (H dq__26) rfl (S1981.ifN 30 (H dq__27) (zLtF (by decide)) (S1981.aloadN 31 (H dq__30) rfl rfl (S1981.iloadN 32 (H dq__31) rfl (S1981.iloadN 33 (H dq__32) rfl ?_))))))
       refine S1981.aloadN 34 (H dq__33) rfl rfl (S1981.vcall 37 (H dq__34) hml.symm (W 93 rfl) (W 94 rfl) (W 96 rfl) (W 95 rfl) (nfSel (W 96 rfl)) (by decide) f1968.1 [] [(.int 4), (.int 4), (.ref o)] (Con.pay (W := 3) (own_len_1 l Z a0 hw cm h1957 n0 S1981.old b tb kb [(.int y0)] db f1968.1 f1968.2.1 f1968.2.2.1 f1968.2.2.2) (W 97 rfl) (W 8 rfl) (by decide) (by decide)) (lenOf own_pd_21 rfl) rfl (Nle rfl) (by decide) (by decide) Wrs.nil ?_)
       intro v1984 T1985 h1986 L1987 S1988 q1989 K1990
       obtain ⟨rfl, e_q1989⟩ := q1989
       obtain rfl := e_q1989.symm
       show Go p e below _ T1985 (mkF m 37 #[vr o, vr a, vr b, vi 4] [(.int 1), (.int 4), (.int 4), (.ref o)])
       refine S1988.iadd 38 (H dq__37) ?_
       rw [show (4 + 1 : Int32) = 5 from by decide]
       refine S1988.pcall 41 (H dq__38) hml.symm (W 98 rfl) (W 99 rfl) (W 100 rfl) (W 101 rfl) (W 75 rfl) rfl (by decide) f1962 [(.int 4), (.int 5)] [] (Con.pay (W := 0) (own_add_2 l Z a0 hw h1957 n0 S1988.old o b1055 b1078 k1056 k1079 (0 : Int32) (1 : Int32) (1 : Int32) (2 : Int32) (4 : Int32) (5 : Int32) (S1988.ge (Or.inl (by simp))) (S1988.ge wo1060) (S1988.ge wo1083) f1962 f1963 f1964 f1965 f1966 f1967 (Nat.ne_of_lt l1096) (Nat.ne_of_lt l1066) (Nat.ne_of_lt l1094)) (W 101 rfl) (W 37 rfl) (by decide) (by decide)) (lenOf own_pd_27 rfl) rfl (Nle rfl) (by decide) (by decide) (Wrs.three ⟨(Or.inl (by simp)), Or.inr ⟨_, f1962, by decide, by decide⟩⟩ ⟨wo1060, Or.inl (by simp)⟩ ⟨wo1083, Or.inl (by simp)⟩) ?_
       intro v1991 T1992 h1993 L1994 S1995 q1996 K1997
       obtain ⟨rfl, f1998, f1999, f2000, f2001, f2002, f2003⟩ := q1996
       show Go p e below _ T1992 (mkF m 41 #[vr o, vr a, vr b, vi 4] [])
       refine S1995.aloadN 42 (H dq__41) rfl rfl (S1995.aloadN 43 (H dq__42) rfl rfl (S1995.iloadN 44 (H dq__43) rfl (S1995.aloadN 45 (H dq__44) rfl rfl ?_)))
       have f2004 := (f1968.keep K1997 (ninS nbo (ninS (Nat.ne_of_lt l1064) (ninS (Nat.ne_of_lt l1090) nin0))) (ninS ntb (ninS (Nat.ne_of_lt l1065) (ninS (Nat.ne_of_lt l1092) nin0))))
       refine S1995.vcall 48 (H dq__45) hml.symm (W 93 rfl) (W 94 rfl) (W 96 rfl) (W 95 rfl) (nfSel (W 96 rfl)) (by decide) f2004.1 [] [(.int 4), (.ref b), (.ref a)] (Con.pay (W := 3) (own_len_1 l Z a0 hw cm h1993 n0 S1995.old b tb kb [(.int y0)] db f2004.1 f2004.2.1 f2004.2.2.1 f2004.2.2.2) (W 97 rfl) (W 8 rfl) (by decide) (by decide)) (lenOf own_pd_21 rfl) rfl (Nle rfl) (by decide) (by decide) Wrs.nil ?_
       intro v2005 T2006 h2007 L2008 S2009 q2010 K2011
       obtain ⟨rfl, e_q2010⟩ := q2010
       obtain rfl := e_q2010.symm
       show Go p e below _ T2006 (mkF m 48 #[vr o, vr a, vr b, vi 4] [(.int 1), (.int 4), (.ref b), (.ref a)])
       refine S2009.iadd 49 (H dq__48) ?_
       rw [show (4 + 1 : Int32) = 5 from by decide]
       have f2012 := (f1976.keep K1997 (ninS nao (ninS (Nat.ne_of_lt l1062) (ninS (Nat.ne_of_lt l1086) nin0))) (ninS nta (ninS (Nat.ne_of_lt l1063) (ninS (Nat.ne_of_lt l1088) nin0))))
       refine S2009.vcall 52 (H dq__49) hml.symm (W 102 rfl) (W 103 rfl) (W 105 rfl) (W 104 rfl) (nfSel (W 105 rfl)) (by decide) f2012.1 [(.ref b), (.int 5)] [] (Con.pay (W := 0) (own_i2_1_5 l Z a0 hw cm h1993 n0 S2009.old a b ta ka da x0 x1 x2 x3 x4 tb kb db y0 f2012.1 f2012.2.1 f2012.2.2.1 f2004.1 f2004.2.1 f2004.2.2.1 f2012.2.2.2 f2004.2.2.2) (W 106 rfl) (W 8 rfl) (by decide) (by decide)) (lenOf own_pd_28 rfl) rfl (Nle rfl) (by decide) (by decide) Wrs.nil ?_
       intro v2013 T2014 h2015 L2016 S2017 q2018 K2019
       obtain ⟨rfl, e_q2018⟩ := q2018
       obtain rfl := e_q2018.symm
       show Go p e below _ T2014 (mkF m 52 #[vr o, vr a, vr b, vi 4] [(.int (own_nx []))])
       show Go p e below _ T2014 (mkF m 52 #[vr o, vr a, vr b, vi 4] [(.int (-1))])
       refine S2017.istoreN 53 #[vr o, vr a, vr b, vi (-1)] (H dq__52) rfl (S2017.goto 26 (H dq__53) (S2017.iloadN 27 (H dq__26) rfl (S2017.ifY 56 (H dq__27) (zLtT (by decide)) ?_)))
       exact S2017.ret0 (H dq__56) hret (by decide) (by decide) ⟨rfl, _, _, _, _, f1998, f1999, f2000, f2001, f2002, f2003⟩
     ·skip
      show Go p e below _ T1978 (mkF m 52 #[vr o, vr a, vr b, vi 1] [(.int 3)])
      refine S1981.istoreN 53 #[vr o, vr a, vr b, vi 3] (H dq__52) rfl (S1981.goto 26 (H dq__53) (S1981.iloadN 27 (H dq__26) rfl (S1981.ifN 30 (H dq__27) (zLtF (by decide)) (S1981.aloadN 31 (H dq__30) rfl rfl (S1981.iloadN 32 (H dq__31) rfl (S1981.iloadN 33 (H dq__32) rfl ?_))))))
      refine S1981.aloadN 34 (H dq__33) rfl rfl (S1981.vcall 37 (H dq__34) hml.symm (W 93 rfl) (W 94 rfl) (W 96 rfl) (W 95 rfl) (nfSel (W 96 rfl)) (by decide) f1968.1 [] [(.int 3), (.int 3), (.ref o)] (Con.pay (W := 3) (own_len_1 l Z a0 hw cm h1957 n0 S1981.old b tb kb [(.int y0)] db f1968.1 f1968.2.1 f1968.2.2.1 f1968.2.2.2) (W 97 rfl) (W 8 rfl) (by decide) (by decide)) (lenOf own_pd_21 rfl) rfl (Nle rfl) (by decide) (by decide) Wrs.nil ?_)
      intro v2020 T2021 h2022 L2023 S2024 q2025 K2026
      obtain ⟨rfl, e_q2025⟩ := q2025
      obtain rfl := e_q2025.symm
      show Go p e below _ T2021 (mkF m 37 #[vr o, vr a, vr b, vi 3] [(.int 1), (.int 3), (.int 3), (.ref o)])
      refine S2024.iadd 38 (H dq__37) ?_
      rw [show (3 + 1 : Int32) = 4 from by decide]
      refine S2024.pcall 41 (H dq__38) hml.symm (W 98 rfl) (W 99 rfl) (W 100 rfl) (W 101 rfl) (W 75 rfl) rfl (by decide) f1962 [(.int 3), (.int 4)] [] (Con.pay (W := 0) (own_add_2 l Z a0 hw h1957 n0 S2024.old o b1055 b1078 k1056 k1079 (0 : Int32) (1 : Int32) (1 : Int32) (2 : Int32) (3 : Int32) (4 : Int32) (S2024.ge (Or.inl (by simp))) (S2024.ge wo1060) (S2024.ge wo1083) f1962 f1963 f1964 f1965 f1966 f1967 (Nat.ne_of_lt l1096) (Nat.ne_of_lt l1066) (Nat.ne_of_lt l1094)) (W 101 rfl) (W 37 rfl) (by decide) (by decide)) (lenOf own_pd_27 rfl) rfl (Nle rfl) (by decide) (by decide) (Wrs.three ⟨(Or.inl (by simp)), Or.inr ⟨_, f1962, by decide, by decide⟩⟩ ⟨wo1060, Or.inl (by simp)⟩ ⟨wo1083, Or.inl (by simp)⟩) ?_
      intro v2027 T2028 h2029 L2030 S2031 q2032 K2033
      obtain ⟨rfl, f2034, f2035, f2036, f2037, f2038, f2039⟩ := q2032
      show Go p e below _ T2028 (mkF m 41 #[vr o, vr a, vr b, vi 3] [])
      refine S2031.aloadN 42 (H dq__41) rfl rfl (S2031.aloadN 43 (H dq__42) rfl rfl (S2031.iloadN 44 (H dq__43) rfl (S2031.aloadN 45 (H dq__44) rfl rfl ?_)))
      have f2040 := (f1968.keep K2033 (ninS nbo (ninS (Nat.ne_of_lt l1064) (ninS (Nat.ne_of_lt l1090) nin0))) (ninS ntb (ninS (Nat.ne_of_lt l1065) (ninS (Nat.ne_of_lt l1092) nin0))))
      refine S2031.vcall 48 (H dq__45) hml.symm (W 93 rfl) (W 94 rfl) (W 96 rfl) (W 95 rfl) (nfSel (W 96 rfl)) (by decide) f2040.1 [] [(.int 3), (.ref b), (.ref a)] (Con.pay (W := 3) (own_len_1 l Z a0 hw cm h2029 n0 S2031.old b tb kb [(.int y0)] db f2040.1 f2040.2.1 f2040.2.2.1 f2040.2.2.2) (W 97 rfl) (W 8 rfl) (by decide) (by decide)) (lenOf own_pd_21 rfl) rfl (Nle rfl) (by decide) (by decide) Wrs.nil ?_
      intro v2041 T2042 h2043 L2044 S2045 q2046 K2047
      obtain ⟨rfl, e_q2046⟩ := q2046
      obtain rfl := e_q2046.symm
      show Go p e below _ T2042 (mkF m 48 #[vr o, vr a, vr b, vi 3] [(.int 1), (.int 3), (.ref b), (.ref a)])
      refine S2045.iadd 49 (H dq__48) ?_
      rw [show (3 + 1 : Int32) = 4 from by decide]
      have f2048 := (f1976.keep K2033 (ninS nao (ninS (Nat.ne_of_lt l1062) (ninS (Nat.ne_of_lt l1086) nin0))) (ninS nta (ninS (Nat.ne_of_lt l1063) (ninS (Nat.ne_of_lt l1088) nin0))))
      refine S2045.vcall 52 (H dq__49) hml.symm (W 102 rfl) (W 103 rfl) (W 105 rfl) (W 104 rfl) (nfSel (W 105 rfl)) (by decide) f2048.1 [(.ref b), (.int 4)] [] (Con.pay (W := 0) (own_i2_1_4 l Z a0 hw cm h2029 n0 S2045.old a b ta ka da x0 x1 x2 x3 x4 tb kb db y0 b4 f2048.1 f2048.2.1 f2048.2.2.1 f2040.1 f2040.2.1 f2040.2.2.1 f2048.2.2.2 f2040.2.2.2 e4) (W 106 rfl) (W 8 rfl) (by decide) (by decide)) (lenOf own_pd_28 rfl) rfl (Nle rfl) (by decide) (by decide) Wrs.nil ?_
      intro v2049 T2050 h2051 L2052 S2053 q2054 K2055
      obtain ⟨rfl, e_q2054⟩ := q2054
      obtain rfl := e_q2054.symm
      show Go p e below _ T2050 (mkF m 52 #[vr o, vr a, vr b, vi 3] [(.int (own_nx [(b4, 4)]))])
      rcases b4 with _ | _
      ·skip
       show Go p e below _ T2050 (mkF m 52 #[vr o, vr a, vr b, vi 3] [(.int (-1))])
       refine S2053.istoreN 53 #[vr o, vr a, vr b, vi (-1)] (H dq__52) rfl (S2053.goto 26 (H dq__53) (S2053.iloadN 27 (H dq__26) rfl (S2053.ifY 56 (H dq__27) (zLtT (by decide)) ?_)))
       exact S2053.ret0 (H dq__56) hret (by decide) (by decide) ⟨rfl, _, _, _, _, f2034, f2035, f2036, f2037, f2038, f2039⟩
      ·skip
       show Go p e below _ T2050 (mkF m 52 #[vr o, vr a, vr b, vi 3] [(.int 4)])
       refine S2053.istoreN 53 #[vr o, vr a, vr b, vi 4] (H dq__52) rfl (S2053.goto 26 (H dq__53) (S2053.iloadN 27 (H dq__26) rfl (S2053.ifN 30 (H dq__27) (zLtF (by decide)) (S2053.aloadN 31 (H dq__30) rfl rfl (S2053.iloadN 32 (H dq__31) rfl (S2053.iloadN 33 (H dq__32) rfl ?_))))))
       refine S2053.aloadN 34 (H dq__33) rfl rfl (S2053.vcall 37 (H dq__34) hml.symm (W 93 rfl) (W 94 rfl) (W 96 rfl) (W 95 rfl) (nfSel (W 96 rfl)) (by decide) f2040.1 [] [(.int 4), (.int 4), (.ref o)] (Con.pay (W := 3) (own_len_1 l Z a0 hw cm h2029 n0 S2053.old b tb kb [(.int y0)] db f2040.1 f2040.2.1 f2040.2.2.1 f2040.2.2.2) (W 97 rfl) (W 8 rfl) (by decide) (by decide)) (lenOf own_pd_21 rfl) rfl (Nle rfl) (by decide) (by decide) Wrs.nil ?_)
       intro v2056 T2057 h2058 L2059 S2060 q2061 K2062
       obtain ⟨rfl, e_q2061⟩ := q2061
       obtain rfl := e_q2061.symm
       show Go p e below _ T2057 (mkF m 37 #[vr o, vr a, vr b, vi 4] [(.int 1), (.int 4), (.int 4), (.ref o)])
       refine S2060.iadd 38 (H dq__37) ?_
       rw [show (4 + 1 : Int32) = 5 from by decide]
       refine S2060.pcall 41 (H dq__38) hml.symm (W 98 rfl) (W 99 rfl) (W 100 rfl) (W 101 rfl) (W 75 rfl) rfl (by decide) f2034 [(.int 4), (.int 5)] [] (Con.pay (W := 0) (own_add_3 l Z a0 hw h2029 n0 S2060.old o b1055 b1078 k1056 k1079 (0 : Int32) (1 : Int32) (3 : Int32) (1 : Int32) (2 : Int32) (4 : Int32) (4 : Int32) (5 : Int32) (S2060.ge (Or.inl (by simp))) (S2060.ge wo1060) (S2060.ge wo1083) f2034 f2035 f2036 f2037 f2038 f2039 (Nat.ne_of_lt l1096) (Nat.ne_of_lt l1066) (Nat.ne_of_lt l1094)) (W 101 rfl) (W 37 rfl) (by decide) (by decide)) (lenOf own_pd_27 rfl) rfl (Nle rfl) (by decide) (by decide) (Wrs.three ⟨(Or.inl (by simp)), Or.inr ⟨_, f2034, by decide, by decide⟩⟩ ⟨wo1060, Or.inl (by simp)⟩ ⟨wo1083, Or.inl (by simp)⟩) ?_
       intro v2063 T2064 h2065 L2066 S2067 q2068 K2069
       obtain ⟨rfl, f2070, f2071, f2072, f2073, f2074, f2075⟩ := q2068
       show Go p e below _ T2064 (mkF m 41 #[vr o, vr a, vr b, vi 4] [])
       refine S2067.aloadN 42 (H dq__41) rfl rfl (S2067.aloadN 43 (H dq__42) rfl rfl (S2067.iloadN 44 (H dq__43) rfl (S2067.aloadN 45 (H dq__44) rfl rfl ?_)))
       have f2076 := (f2040.keep K2069 (ninS nbo (ninS (Nat.ne_of_lt l1064) (ninS (Nat.ne_of_lt l1090) nin0))) (ninS ntb (ninS (Nat.ne_of_lt l1065) (ninS (Nat.ne_of_lt l1092) nin0))))
       refine S2067.vcall 48 (H dq__45) hml.symm (W 93 rfl) (W 94 rfl) (W 96 rfl) (W 95 rfl) (nfSel (W 96 rfl)) (by decide) f2076.1 [] [(.int 4), (.ref b), (.ref a)] (Con.pay (W := 3) (own_len_1 l Z a0 hw cm h2065 n0 S2067.old b tb kb [(.int y0)] db f2076.1 f2076.2.1 f2076.2.2.1 f2076.2.2.2) (W 97 rfl) (W 8 rfl) (by decide) (by decide)) (lenOf own_pd_21 rfl) rfl (Nle rfl) (by decide) (by decide) Wrs.nil ?_
       intro v2077 T2078 h2079 L2080 S2081 q2082 K2083
       obtain ⟨rfl, e_q2082⟩ := q2082
       obtain rfl := e_q2082.symm
       show Go p e below _ T2078 (mkF m 48 #[vr o, vr a, vr b, vi 4] [(.int 1), (.int 4), (.ref b), (.ref a)])
       refine S2081.iadd 49 (H dq__48) ?_
       rw [show (4 + 1 : Int32) = 5 from by decide]
       have f2084 := (f2048.keep K2069 (ninS nao (ninS (Nat.ne_of_lt l1062) (ninS (Nat.ne_of_lt l1086) nin0))) (ninS nta (ninS (Nat.ne_of_lt l1063) (ninS (Nat.ne_of_lt l1088) nin0))))
       refine S2081.vcall 52 (H dq__49) hml.symm (W 102 rfl) (W 103 rfl) (W 105 rfl) (W 104 rfl) (nfSel (W 105 rfl)) (by decide) f2084.1 [(.ref b), (.int 5)] [] (Con.pay (W := 0) (own_i2_1_5 l Z a0 hw cm h2065 n0 S2081.old a b ta ka da x0 x1 x2 x3 x4 tb kb db y0 f2084.1 f2084.2.1 f2084.2.2.1 f2076.1 f2076.2.1 f2076.2.2.1 f2084.2.2.2 f2076.2.2.2) (W 106 rfl) (W 8 rfl) (by decide) (by decide)) (lenOf own_pd_28 rfl) rfl (Nle rfl) (by decide) (by decide) Wrs.nil ?_
       intro v2085 T2086 h2087 L2088 S2089 q2090 K2091
       obtain ⟨rfl, e_q2090⟩ := q2090
       obtain rfl := e_q2090.symm
       show Go p e below _ T2086 (mkF m 52 #[vr o, vr a, vr b, vi 4] [(.int (own_nx []))])
       show Go p e below _ T2086 (mkF m 52 #[vr o, vr a, vr b, vi 4] [(.int (-1))])
       refine S2089.istoreN 53 #[vr o, vr a, vr b, vi (-1)] (H dq__52) rfl (S2089.goto 26 (H dq__53) (S2089.iloadN 27 (H dq__26) rfl (S2089.ifY 56 (H dq__27) (zLtT (by decide)) ?_)))
       exact S2089.ret0 (H dq__56) hret (by decide) (by decide) ⟨rfl, _, _, _, _, f2070, f2071, f2072, f2073, f2074, f2075⟩
    ·skip
     show Go p e below _ T1978 (mkF m 52 #[vr o, vr a, vr b, vi 1] [(.int 2)])
     refine S1981.istoreN 53 #[vr o, vr a, vr b, vi 2] (H dq__52) rfl (S1981.goto 26 (H dq__53) (S1981.iloadN 27 (H dq__26) rfl (S1981.ifN 30 (H dq__27) (zLtF (by decide)) (S1981.aloadN 31 (H dq__30) rfl rfl (S1981.iloadN 32 (H dq__31) rfl (S1981.iloadN 33 (H dq__32) rfl ?_))))))
     refine S1981.aloadN 34 (H dq__33) rfl rfl (S1981.vcall 37 (H dq__34) hml.symm (W 93 rfl) (W 94 rfl) (W 96 rfl) (W 95 rfl) (nfSel (W 96 rfl)) (by decide) f1968.1 [] [(.int 2), (.int 2), (.ref o)] (Con.pay (W := 3) (own_len_1 l Z a0 hw cm h1957 n0 S1981.old b tb kb [(.int y0)] db f1968.1 f1968.2.1 f1968.2.2.1 f1968.2.2.2) (W 97 rfl) (W 8 rfl) (by decide) (by decide)) (lenOf own_pd_21 rfl) rfl (Nle rfl) (by decide) (by decide) Wrs.nil ?_)
     intro v2092 T2093 h2094 L2095 S2096 q2097 K2098
     obtain ⟨rfl, e_q2097⟩ := q2097
     obtain rfl := e_q2097.symm
     show Go p e below _ T2093 (mkF m 37 #[vr o, vr a, vr b, vi 2] [(.int 1), (.int 2), (.int 2), (.ref o)])
     refine S2096.iadd 38 (H dq__37) ?_
     rw [show (2 + 1 : Int32) = 3 from by decide]
     refine S2096.pcall 41 (H dq__38) hml.symm (W 98 rfl) (W 99 rfl) (W 100 rfl) (W 101 rfl) (W 75 rfl) rfl (by decide) f1962 [(.int 2), (.int 3)] [] (Con.pay (W := 0) (own_add_2 l Z a0 hw h1957 n0 S2096.old o b1055 b1078 k1056 k1079 (0 : Int32) (1 : Int32) (1 : Int32) (2 : Int32) (2 : Int32) (3 : Int32) (S2096.ge (Or.inl (by simp))) (S2096.ge wo1060) (S2096.ge wo1083) f1962 f1963 f1964 f1965 f1966 f1967 (Nat.ne_of_lt l1096) (Nat.ne_of_lt l1066) (Nat.ne_of_lt l1094)) (W 101 rfl) (W 37 rfl) (by decide) (by decide)) (lenOf own_pd_27 rfl) rfl (Nle rfl) (by decide) (by decide) (Wrs.three ⟨(Or.inl (by simp)), Or.inr ⟨_, f1962, by decide, by decide⟩⟩ ⟨wo1060, Or.inl (by simp)⟩ ⟨wo1083, Or.inl (by simp)⟩) ?_
     intro v2099 T2100 h2101 L2102 S2103 q2104 K2105
     obtain ⟨rfl, f2106, f2107, f2108, f2109, f2110, f2111⟩ := q2104
     show Go p e below _ T2100 (mkF m 41 #[vr o, vr a, vr b, vi 2] [])
     refine S2103.aloadN 42 (H dq__41) rfl rfl (S2103.aloadN 43 (H dq__42) rfl rfl (S2103.iloadN 44 (H dq__43) rfl (S2103.aloadN 45 (H dq__44) rfl rfl ?_)))
     have f2112 := (f1968.keep K2105 (ninS nbo (ninS (Nat.ne_of_lt l1064) (ninS (Nat.ne_of_lt l1090) nin0))) (ninS ntb (ninS (Nat.ne_of_lt l1065) (ninS (Nat.ne_of_lt l1092) nin0))))
     refine S2103.vcall 48 (H dq__45) hml.symm (W 93 rfl) (W 94 rfl) (W 96 rfl) (W 95 rfl) (nfSel (W 96 rfl)) (by decide) f2112.1 [] [(.int 2), (.ref b), (.ref a)] (Con.pay (W := 3) (own_len_1 l Z a0 hw cm h2101 n0 S2103.old b tb kb [(.int y0)] db f2112.1 f2112.2.1 f2112.2.2.1 f2112.2.2.2) (W 97 rfl) (W 8 rfl) (by decide) (by decide)) (lenOf own_pd_21 rfl) rfl (Nle rfl) (by decide) (by decide) Wrs.nil ?_
     intro v2113 T2114 h2115 L2116 S2117 q2118 K2119
     obtain ⟨rfl, e_q2118⟩ := q2118
     obtain rfl := e_q2118.symm
     show Go p e below _ T2114 (mkF m 48 #[vr o, vr a, vr b, vi 2] [(.int 1), (.int 2), (.ref b), (.ref a)])
     refine S2117.iadd 49 (H dq__48) ?_
     rw [show (2 + 1 : Int32) = 3 from by decide]
     have f2120 := (f1976.keep K2105 (ninS nao (ninS (Nat.ne_of_lt l1062) (ninS (Nat.ne_of_lt l1086) nin0))) (ninS nta (ninS (Nat.ne_of_lt l1063) (ninS (Nat.ne_of_lt l1088) nin0))))
     refine S2117.vcall 52 (H dq__49) hml.symm (W 102 rfl) (W 103 rfl) (W 105 rfl) (W 104 rfl) (nfSel (W 105 rfl)) (by decide) f2120.1 [(.ref b), (.int 3)] [] (Con.pay (W := 0) (own_i2_1_3 l Z a0 hw cm h2101 n0 S2117.old a b ta ka da x0 x1 x2 x3 x4 tb kb db y0 b3 b4 f2120.1 f2120.2.1 f2120.2.2.1 f2112.1 f2112.2.1 f2112.2.2.1 f2120.2.2.2 f2112.2.2.2 e3 e4) (W 106 rfl) (W 8 rfl) (by decide) (by decide)) (lenOf own_pd_28 rfl) rfl (Nle rfl) (by decide) (by decide) Wrs.nil ?_
     intro v2121 T2122 h2123 L2124 S2125 q2126 K2127
     obtain ⟨rfl, e_q2126⟩ := q2126
     obtain rfl := e_q2126.symm
     show Go p e below _ T2122 (mkF m 52 #[vr o, vr a, vr b, vi 2] [(.int (own_nx [(b3, 3), (b4, 4)]))])
     rcases b3 with _ | _
     ·skip
      show Go p e below _ T2122 (mkF m 52 #[vr o, vr a, vr b, vi 2] [(.int (own_nx [(b4, 4)]))])
      rcases b4 with _ | _
      ·skip
       show Go p e below _ T2122 (mkF m 52 #[vr o, vr a, vr b, vi 2] [(.int (-1))])
       refine S2125.istoreN 53 #[vr o, vr a, vr b, vi (-1)] (H dq__52) rfl (S2125.goto 26 (H dq__53) (S2125.iloadN 27 (H dq__26) rfl (S2125.ifY 56 (H dq__27) (zLtT (by decide)) ?_)))
       exact S2125.ret0 (H dq__56) hret (by decide) (by decide) ⟨rfl, _, _, _, _, f2106, f2107, f2108, f2109, f2110, f2111⟩
      ·skip
       show Go p e below _ T2122 (mkF m 52 #[vr o, vr a, vr b, vi 2] [(.int 4)])
       refine S2125.istoreN 53 #[vr o, vr a, vr b, vi 4] (H dq__52) rfl (S2125.goto 26 (H dq__53) (S2125.iloadN 27 (H dq__26) rfl (S2125.ifN 30 (H dq__27) (zLtF (by decide)) (S2125.aloadN 31 (H dq__30) rfl rfl (S2125.iloadN 32 (H dq__31) rfl (S2125.iloadN 33 (H dq__32) rfl ?_))))))
       refine S2125.aloadN 34 (H dq__33) rfl rfl (S2125.vcall 37 (H dq__34) hml.symm (W 93 rfl) (W 94 rfl) (W 96 rfl) (W 95 rfl) (nfSel (W 96 rfl)) (by decide) f2112.1 [] [(.int 4), (.int 4), (.ref o)] (Con.pay (W := 3) (own_len_1 l Z a0 hw cm h2101 n0 S2125.old b tb kb [(.int y0)] db f2112.1 f2112.2.1 f2112.2.2.1 f2112.2.2.2) (W 97 rfl) (W 8 rfl) (by decide) (by decide)) (lenOf own_pd_21 rfl) rfl (Nle rfl) (by decide) (by decide) Wrs.nil ?_)
       intro v2128 T2129 h2130 L2131 S2132 q2133 K2134
       obtain ⟨rfl, e_q2133⟩ := q2133
       obtain rfl := e_q2133.symm
       show Go p e below _ T2129 (mkF m 37 #[vr o, vr a, vr b, vi 4] [(.int 1), (.int 4), (.int 4), (.ref o)])
       refine S2132.iadd 38 (H dq__37) ?_
       rw [show (4 + 1 : Int32) = 5 from by decide]
       refine S2132.pcall 41 (H dq__38) hml.symm (W 98 rfl) (W 99 rfl) (W 100 rfl) (W 101 rfl) (W 75 rfl) rfl (by decide) f2106 [(.int 4), (.int 5)] [] (Con.pay (W := 0) (own_add_3 l Z a0 hw h2101 n0 S2132.old o b1055 b1078 k1056 k1079 (0 : Int32) (1 : Int32) (2 : Int32) (1 : Int32) (2 : Int32) (3 : Int32) (4 : Int32) (5 : Int32) (S2132.ge (Or.inl (by simp))) (S2132.ge wo1060) (S2132.ge wo1083) f2106 f2107 f2108 f2109 f2110 f2111 (Nat.ne_of_lt l1096) (Nat.ne_of_lt l1066) (Nat.ne_of_lt l1094)) (W 101 rfl) (W 37 rfl) (by decide) (by decide)) (lenOf own_pd_27 rfl) rfl (Nle rfl) (by decide) (by decide) (Wrs.three ⟨(Or.inl (by simp)), Or.inr ⟨_, f2106, by decide, by decide⟩⟩ ⟨wo1060, Or.inl (by simp)⟩ ⟨wo1083, Or.inl (by simp)⟩) ?_
       intro v2135 T2136 h2137 L2138 S2139 q2140 K2141
       obtain ⟨rfl, f2142, f2143, f2144, f2145, f2146, f2147⟩ := q2140
       show Go p e below _ T2136 (mkF m 41 #[vr o, vr a, vr b, vi 4] [])
       refine S2139.aloadN 42 (H dq__41) rfl rfl (S2139.aloadN 43 (H dq__42) rfl rfl (S2139.iloadN 44 (H dq__43) rfl (S2139.aloadN 45 (H dq__44) rfl rfl ?_)))
       have f2148 := (f2112.keep K2141 (ninS nbo (ninS (Nat.ne_of_lt l1064) (ninS (Nat.ne_of_lt l1090) nin0))) (ninS ntb (ninS (Nat.ne_of_lt l1065) (ninS (Nat.ne_of_lt l1092) nin0))))
       refine S2139.vcall 48 (H dq__45) hml.symm (W 93 rfl) (W 94 rfl) (W 96 rfl) (W 95 rfl) (nfSel (W 96 rfl)) (by decide) f2148.1 [] [(.int 4), (.ref b), (.ref a)] (Con.pay (W := 3) (own_len_1 l Z a0 hw cm h2137 n0 S2139.old b tb kb [(.int y0)] db f2148.1 f2148.2.1 f2148.2.2.1 f2148.2.2.2) (W 97 rfl) (W 8 rfl) (by decide) (by decide)) (lenOf own_pd_21 rfl) rfl (Nle rfl) (by decide) (by decide) Wrs.nil ?_
       intro v2149 T2150 h2151 L2152 S2153 q2154 K2155
       obtain ⟨rfl, e_q2154⟩ := q2154
       obtain rfl := e_q2154.symm
       show Go p e below _ T2150 (mkF m 48 #[vr o, vr a, vr b, vi 4] [(.int 1), (.int 4), (.ref b), (.ref a)])
       refine S2153.iadd 49 (H dq__48) ?_
       rw [show (4 + 1 : Int32) = 5 from by decide]
       have f2156 := (f2120.keep K2141 (ninS nao (ninS (Nat.ne_of_lt l1062) (ninS (Nat.ne_of_lt l1086) nin0))) (ninS nta (ninS (Nat.ne_of_lt l1063) (ninS (Nat.ne_of_lt l1088) nin0))))
       refine S2153.vcall 52 (H dq__49) hml.symm (W 102 rfl) (W 103 rfl) (W 105 rfl) (W 104 rfl) (nfSel (W 105 rfl)) (by decide) f2156.1 [(.ref b), (.int 5)] [] (Con.pay (W := 0) (own_i2_1_5 l Z a0 hw cm h2137 n0 S2153.old a b ta ka da x0 x1 x2 x3 x4 tb kb db y0 f2156.1 f2156.2.1 f2156.2.2.1 f2148.1 f2148.2.1 f2148.2.2.1 f2156.2.2.2 f2148.2.2.2) (W 106 rfl) (W 8 rfl) (by decide) (by decide)) (lenOf own_pd_28 rfl) rfl (Nle rfl) (by decide) (by decide) Wrs.nil ?_
       intro v2157 T2158 h2159 L2160 S2161 q2162 K2163
       obtain ⟨rfl, e_q2162⟩ := q2162
       obtain rfl := e_q2162.symm
       show Go p e below _ T2158 (mkF m 52 #[vr o, vr a, vr b, vi 4] [(.int (own_nx []))])
       show Go p e below _ T2158 (mkF m 52 #[vr o, vr a, vr b, vi 4] [(.int (-1))])
       refine S2161.istoreN 53 #[vr o, vr a, vr b, vi (-1)] (H dq__52) rfl (S2161.goto 26 (H dq__53) (S2161.iloadN 27 (H dq__26) rfl (S2161.ifY 56 (H dq__27) (zLtT (by decide)) ?_)))
       exact S2161.ret0 (H dq__56) hret (by decide) (by decide) ⟨rfl, _, _, _, _, f2142, f2143, f2144, f2145, f2146, f2147⟩
     ·skip
      show Go p e below _ T2122 (mkF m 52 #[vr o, vr a, vr b, vi 2] [(.int 3)])
      refine S2125.istoreN 53 #[vr o, vr a, vr b, vi 3] (H dq__52) rfl (S2125.goto 26 (H dq__53) (S2125.iloadN 27 (H dq__26) rfl (S2125.ifN 30 (H dq__27) (zLtF (by decide)) (S2125.aloadN 31 (H dq__30) rfl rfl (S2125.iloadN 32 (H dq__31) rfl (S2125.iloadN 33 (H dq__32) rfl ?_))))))
      refine S2125.aloadN 34 (H dq__33) rfl rfl (S2125.vcall 37 (H dq__34) hml.symm (W 93 rfl) (W 94 rfl) (W 96 rfl) (W 95 rfl) (nfSel (W 96 rfl)) (by decide) f2112.1 [] [(.int 3), (.int 3), (.ref o)] (Con.pay (W := 3) (own_len_1 l Z a0 hw cm h2101 n0 S2125.old b tb kb [(.int y0)] db f2112.1 f2112.2.1 f2112.2.2.1 f2112.2.2.2) (W 97 rfl) (W 8 rfl) (by decide) (by decide)) (lenOf own_pd_21 rfl) rfl (Nle rfl) (by decide) (by decide) Wrs.nil ?_)
      intro v2164 T2165 h2166 L2167 S2168 q2169 K2170
      obtain ⟨rfl, e_q2169⟩ := q2169
      obtain rfl := e_q2169.symm
      show Go p e below _ T2165 (mkF m 37 #[vr o, vr a, vr b, vi 3] [(.int 1), (.int 3), (.int 3), (.ref o)])
      refine S2168.iadd 38 (H dq__37) ?_
      rw [show (3 + 1 : Int32) = 4 from by decide]
      refine S2168.pcall 41 (H dq__38) hml.symm (W 98 rfl) (W 99 rfl) (W 100 rfl) (W 101 rfl) (W 75 rfl) rfl (by decide) f2106 [(.int 3), (.int 4)] [] (Con.pay (W := 0) (own_add_3 l Z a0 hw h2101 n0 S2168.old o b1055 b1078 k1056 k1079 (0 : Int32) (1 : Int32) (2 : Int32) (1 : Int32) (2 : Int32) (3 : Int32) (3 : Int32) (4 : Int32) (S2168.ge (Or.inl (by simp))) (S2168.ge wo1060) (S2168.ge wo1083) f2106 f2107 f2108 f2109 f2110 f2111 (Nat.ne_of_lt l1096) (Nat.ne_of_lt l1066) (Nat.ne_of_lt l1094)) (W 101 rfl) (W 37 rfl) (by decide) (by decide)) (lenOf own_pd_27 rfl) rfl (Nle rfl) (by decide) (by decide) (Wrs.three ⟨(Or.inl (by simp)), Or.inr ⟨_, f2106, by decide, by decide⟩⟩ ⟨wo1060, Or.inl (by simp)⟩ ⟨wo1083, Or.inl (by simp)⟩) ?_
      intro v2171 T2172 h2173 L2174 S2175 q2176 K2177
      obtain ⟨rfl, f2178, f2179, f2180, f2181, f2182, f2183⟩ := q2176
      show Go p e below _ T2172 (mkF m 41 #[vr o, vr a, vr b, vi 3] [])
      refine S2175.aloadN 42 (H dq__41) rfl rfl (S2175.aloadN 43 (H dq__42) rfl rfl (S2175.iloadN 44 (H dq__43) rfl (S2175.aloadN 45 (H dq__44) rfl rfl ?_)))
      have f2184 := (f2112.keep K2177 (ninS nbo (ninS (Nat.ne_of_lt l1064) (ninS (Nat.ne_of_lt l1090) nin0))) (ninS ntb (ninS (Nat.ne_of_lt l1065) (ninS (Nat.ne_of_lt l1092) nin0))))
      refine S2175.vcall 48 (H dq__45) hml.symm (W 93 rfl) (W 94 rfl) (W 96 rfl) (W 95 rfl) (nfSel (W 96 rfl)) (by decide) f2184.1 [] [(.int 3), (.ref b), (.ref a)] (Con.pay (W := 3) (own_len_1 l Z a0 hw cm h2173 n0 S2175.old b tb kb [(.int y0)] db f2184.1 f2184.2.1 f2184.2.2.1 f2184.2.2.2) (W 97 rfl) (W 8 rfl) (by decide) (by decide)) (lenOf own_pd_21 rfl) rfl (Nle rfl) (by decide) (by decide) Wrs.nil ?_
      intro v2185 T2186 h2187 L2188 S2189 q2190 K2191
      obtain ⟨rfl, e_q2190⟩ := q2190
      obtain rfl := e_q2190.symm
      show Go p e below _ T2186 (mkF m 48 #[vr o, vr a, vr b, vi 3] [(.int 1), (.int 3), (.ref b), (.ref a)])
      refine S2189.iadd 49 (H dq__48) ?_
      rw [show (3 + 1 : Int32) = 4 from by decide]
      have f2192 := (f2120.keep K2177 (ninS nao (ninS (Nat.ne_of_lt l1062) (ninS (Nat.ne_of_lt l1086) nin0))) (ninS nta (ninS (Nat.ne_of_lt l1063) (ninS (Nat.ne_of_lt l1088) nin0))))
      refine S2189.vcall 52 (H dq__49) hml.symm (W 102 rfl) (W 103 rfl) (W 105 rfl) (W 104 rfl) (nfSel (W 105 rfl)) (by decide) f2192.1 [(.ref b), (.int 4)] [] (Con.pay (W := 0) (own_i2_1_4 l Z a0 hw cm h2173 n0 S2189.old a b ta ka da x0 x1 x2 x3 x4 tb kb db y0 b4 f2192.1 f2192.2.1 f2192.2.2.1 f2184.1 f2184.2.1 f2184.2.2.1 f2192.2.2.2 f2184.2.2.2 e4) (W 106 rfl) (W 8 rfl) (by decide) (by decide)) (lenOf own_pd_28 rfl) rfl (Nle rfl) (by decide) (by decide) Wrs.nil ?_
      intro v2193 T2194 h2195 L2196 S2197 q2198 K2199
      obtain ⟨rfl, e_q2198⟩ := q2198
      obtain rfl := e_q2198.symm
      show Go p e below _ T2194 (mkF m 52 #[vr o, vr a, vr b, vi 3] [(.int (own_nx [(b4, 4)]))])
      rcases b4 with _ | _
      ·skip
       show Go p e below _ T2194 (mkF m 52 #[vr o, vr a, vr b, vi 3] [(.int (-1))])
       refine S2197.istoreN 53 #[vr o, vr a, vr b, vi (-1)] (H dq__52) rfl (S2197.goto 26 (H dq__53) (S2197.iloadN 27 (H dq__26) rfl (S2197.ifY 56 (H dq__27) (zLtT (by decide)) ?_)))
       exact S2197.ret0 (H dq__56) hret (by decide) (by decide) ⟨rfl, _, _, _, _, f2178, f2179, f2180, f2181, f2182, f2183⟩
      ·skip
       show Go p e below _ T2194 (mkF m 52 #[vr o, vr a, vr b, vi 3] [(.int 4)])
       refine S2197.istoreN 53 #[vr o, vr a, vr b, vi 4] (H dq__52) rfl (S2197.goto 26 (H dq__53) (S2197.iloadN 27 (H dq__26) rfl (S2197.ifN 30 (H dq__27) (zLtF (by decide)) (S2197.aloadN 31 (H dq__30) rfl rfl (S2197.iloadN 32 (H dq__31) rfl (S2197.iloadN 33 (H dq__32) rfl ?_))))))
       refine S2197.aloadN 34 (H dq__33) rfl rfl (S2197.vcall 37 (H dq__34) hml.symm (W 93 rfl) (W 94 rfl) (W 96 rfl) (W 95 rfl) (nfSel (W 96 rfl)) (by decide) f2184.1 [] [(.int 4), (.int 4), (.ref o)] (Con.pay (W := 3) (own_len_1 l Z a0 hw cm h2173 n0 S2197.old b tb kb [(.int y0)] db f2184.1 f2184.2.1 f2184.2.2.1 f2184.2.2.2) (W 97 rfl) (W 8 rfl) (by decide) (by decide)) (lenOf own_pd_21 rfl) rfl (Nle rfl) (by decide) (by decide) Wrs.nil ?_)
       intro v2200 T2201 h2202 L2203 S2204 q2205 K2206
       obtain ⟨rfl, e_q2205⟩ := q2205
       obtain rfl := e_q2205.symm
       show Go p e below _ T2201 (mkF m 37 #[vr o, vr a, vr b, vi 4] [(.int 1), (.int 4), (.int 4), (.ref o)])
       refine S2204.iadd 38 (H dq__37) ?_
       rw [show (4 + 1 : Int32) = 5 from by decide]
       refine S2204.pcall 41 (H dq__38) hml.symm (W 98 rfl) (W 99 rfl) (W 100 rfl) (W 101 rfl) (W 75 rfl) rfl (by decide) f2178 [(.int 4), (.int 5)] [] (Con.pay (W := 0) (own_add_4 l Z a0 hw h2173 n0 S2204.old o b1055 b1078 k1056 k1079 (0 : Int32) (1 : Int32) (2 : Int32) (3 : Int32) (1 : Int32) (2 : Int32) (3 : Int32) (4 : Int32) (4 : Int32) (5 : Int32) (S2204.ge (Or.inl (by simp))) (S2204.ge wo1060) (S2204.ge wo1083) f2178 f2179 f2180 f2181 f2182 f2183 (Nat.ne_of_lt l1096) (Nat.ne_of_lt l1066) (Nat.ne_of_lt l1094)) (W 101 rfl) (W 37 rfl) (by decide) (by decide)) (lenOf own_pd_27 rfl) rfl (Nle rfl) (by decide) (by decide) (Wrs.three ⟨(Or.inl (by simp)), Or.inr ⟨_, f2178, by decide, by decide⟩⟩ ⟨wo1060, Or.inl (by simp)⟩ ⟨wo1083, Or.inl (by simp)⟩) ?_
       intro v2207 T2208 h2209 L2210 S2211 q2212 K2213
       obtain ⟨rfl, f2214, f2215, f2216, f2217, f2218, f2219⟩ := q2212
       show Go p e below _ T2208 (mkF m 41 #[vr o, vr a, vr b, vi 4] [])
       refine S2211.aloadN 42 (H dq__41) rfl rfl (S2211.aloadN 43 (H dq__42) rfl rfl (S2211.iloadN 44 (H dq__43) rfl (S2211.aloadN 45 (H dq__44) rfl rfl ?_)))
       have f2220 := (f2184.keep K2213 (ninS nbo (ninS (Nat.ne_of_lt l1064) (ninS (Nat.ne_of_lt l1090) nin0))) (ninS ntb (ninS (Nat.ne_of_lt l1065) (ninS (Nat.ne_of_lt l1092) nin0))))
       refine S2211.vcall 48 (H dq__45) hml.symm (W 93 rfl) (W 94 rfl) (W 96 rfl) (W 95 rfl) (nfSel (W 96 rfl)) (by decide) f2220.1 [] [(.int 4), (.ref b), (.ref a)] (Con.pay (W := 3) (own_len_1 l Z a0 hw cm h2209 n0 S2211.old b tb kb [(.int y0)] db f2220.1 f2220.2.1 f2220.2.2.1 f2220.2.2.2) (W 97 rfl) (W 8 rfl) (by decide) (by decide)) (lenOf own_pd_21 rfl) rfl (Nle rfl) (by decide) (by decide) Wrs.nil ?_
       intro v2221 T2222 h2223 L2224 S2225 q2226 K2227
       obtain ⟨rfl, e_q2226⟩ := q2226
       obtain rfl := e_q2226.symm
       show Go p e below _ T2222 (mkF m 48 #[vr o, vr a, vr b, vi 4] [(.int 1), (.int 4), (.ref b), (.ref a)])
       refine S2225.iadd 49 (H dq__48) ?_
       rw [show (4 + 1 : Int32) = 5 from by decide]
       have f2228 := (f2192.keep K2213 (ninS nao (ninS (Nat.ne_of_lt l1062) (ninS (Nat.ne_of_lt l1086) nin0))) (ninS nta (ninS (Nat.ne_of_lt l1063) (ninS (Nat.ne_of_lt l1088) nin0))))
       refine S2225.vcall 52 (H dq__49) hml.symm (W 102 rfl) (W 103 rfl) (W 105 rfl) (W 104 rfl) (nfSel (W 105 rfl)) (by decide) f2228.1 [(.ref b), (.int 5)] [] (Con.pay (W := 0) (own_i2_1_5 l Z a0 hw cm h2209 n0 S2225.old a b ta ka da x0 x1 x2 x3 x4 tb kb db y0 f2228.1 f2228.2.1 f2228.2.2.1 f2220.1 f2220.2.1 f2220.2.2.1 f2228.2.2.2 f2220.2.2.2) (W 106 rfl) (W 8 rfl) (by decide) (by decide)) (lenOf own_pd_28 rfl) rfl (Nle rfl) (by decide) (by decide) Wrs.nil ?_
       intro v2229 T2230 h2231 L2232 S2233 q2234 K2235
       obtain ⟨rfl, e_q2234⟩ := q2234
       obtain rfl := e_q2234.symm
       show Go p e below _ T2230 (mkF m 52 #[vr o, vr a, vr b, vi 4] [(.int (own_nx []))])
       show Go p e below _ T2230 (mkF m 52 #[vr o, vr a, vr b, vi 4] [(.int (-1))])
       refine S2233.istoreN 53 #[vr o, vr a, vr b, vi (-1)] (H dq__52) rfl (S2233.goto 26 (H dq__53) (S2233.iloadN 27 (H dq__26) rfl (S2233.ifY 56 (H dq__27) (zLtT (by decide)) ?_)))
       exact S2233.ret0 (H dq__56) hret (by decide) (by decide) ⟨rfl, _, _, _, _, f2214, f2215, f2216, f2217, f2218, f2219⟩


set_option maxRecDepth 65536 in
set_option maxHeartbeats 4000000 in
theorem own_mi_2 (l : Launch) (Z : State) (a0 : Array Value) (hw : ∀ d ∈ tables_1, d.before a0 Z = true) (cm : Com Z) (h0 : Heap) (n0 : Nat) (O : Old Z n0 h0) (o : Addr) (a : Addr) (b : Addr) (ta : Addr) (ka : ClassId) (da : Value) (x0 : Int32) (x1 : Int32) (x2 : Int32) (x3 : Int32) (x4 : Int32) (tb : Addr) (kb : ClassId) (db : Value) (y0 : Int32) (y1 : Int32) (b0 : Bool) (b1 : Bool) (b2 : Bool) (b3 : Bool) (ge_o : n0 ≤ o) (EM : Exa Z h0 o "com/example/oref/oref/wikipedia/Matches") (MC : Fld Z h0 o "com/example/oref/oref/wikipedia/Matches" "count" "I" (.int 0)) (MS : Fld Z h0 o "com/example/oref/oref/wikipedia/Matches" "starts" "[I" .null) (ME : Fld Z h0 o "com/example/oref/oref/wikipedia/Matches" "ends" "[I" .null) (EA : Exa Z h0 a "java/lang/String") (FAV : Fld Z h0 a "java/lang/String" "value" "[B" (.ref ta)) (FAC : Fld Z h0 a "java/lang/String" "coder" "B" (.int 0)) (EB : Exa Z h0 b "java/lang/String") (FBV : Fld Z h0 b "java/lang/String" "value" "[B" (.ref tb)) (FBC : Fld Z h0 b "java/lang/String" "coder" "B" (.int 0)) (AA : Arv Z h0 ta ka .byte (5 : Int32) [(.int x0), (.int x1), (.int x2), (.int x3), (.int x4)] da) (AB : Arv Z h0 tb kb .byte (2 : Int32) [(.int y0), (.int y1)] db) (e0 : b0 = (decide (x0 = y0) && decide (x1 = y1))) (e1 : b1 = (decide (x1 = y0) && decide (x2 = y1))) (e2 : b2 = (decide (x2 = y0) && decide (x3 = y1))) (e3 : b3 = (decide (x3 = y0) && decide (x4 = y1))) (nta : ta ≠ o) (ntb : tb ≠ o) :
   Con l Z n0 (⟨"com/example/oref/oref/wikipedia/Matches", "<init>", "(Ljava/lang/String;Ljava/lang/String;)V"⟩ : MethodName) prog_29_method_2_code 4 none [] ({ frames := 4, cells := 2, slots := 16, locals := 110 } : Room) #[(.ref o), (.ref a), (.ref b)] h0 [o] (fun v h' => v = none ∧ Mat Z h' o (own_scan2 [(b0, 0, 2), (b1, 1, 3), (b2, 2, 4), (b3, 3, 5)])) := by
  refine Con.of a0 (plainFor_of_name own_pn_24) O (by simp [ge_o]) [] (fun _ q => nomatch q) ?_
  intro p e s m below meth cdX T S hby hml hret hnm
  have H := fun {k r} q => @hb _ _ hby k r q
  have W := @Tw a0 Z hw
  refine Go.cast (own_ef_25 m o a b) ?_
  have FA : SB Z h0 a ta ka 5 [(.int x0), (.int x1), (.int x2), (.int x3), (.int x4)] da := ⟨EA, FAV, FAC, AA⟩
  have FB : SB Z h0 b tb kb 2 [(.int y0), (.int y1)] db := ⟨EB, FBV, FBC, AB⟩
  have nao : a ≠ o := Exa.ne EA EM (by decide)
  have nbo : b ≠ o := Exa.ne EB EM (by decide)
  refine S.aloadN 1 (H dq__0) rfl rfl (S.initO (W := 0) 4 (H dq__1) hml.symm (W 41 rfl) (W 17 rfl) (W 18 rfl) (by decide) (Nle rfl) (by decide) ?_)
  intro T2236 S2237
  refine S2237.aloadN 5 (H dq__4) rfl rfl (S2237.bipush 7 (8 : Int32) (H dq__5) (S2237.newarr 9 8 (H dq__7) (W 42 rfl) (by decide) (by decide) (by decide) (by decide) (by decide) ?_))
  intro T2238 h2239 b2240 k2241 S2242 E2243 g2244 wo2245 A2246
  have l2247 : a < b2240 := (by rw [g2244]; exact FA.lt)
  have l2248 : ta < b2240 := (by rw [g2244]; exact FA.lt')
  have l2249 : b < b2240 := (by rw [g2244]; exact FB.lt)
  have l2250 : tb < b2240 := (by rw [g2244]; exact FB.lt')
  have l2251 : o < b2240 := (by rw [g2244]; exact EM.lt)
  have f2252 : Arv Z h2239 b2240 k2241 .int (8 : Int32) [(.int 0), (.int 0), (.int 0), (.int 0), (.int 0), (.int 0), (.int 0), (.int 0)] (.int 0) := A2246.pad (pad_rep [] (.int 0) 8)
  have f2253 := (MS.ext E2243)
  have f2254 := (EM.ext E2243)
  refine S2242.putf (host := "") (ty := (.array .int)) 12 (H dq__9) (Or.inl (W 43 rfl)) Via.refl f2253 f2254 (Or.inl (W 44 rfl)) (W 36 rfl) (by decide) rfl rfl (Or.inl (by simp)) (Or.inl (by decide)) ?_
  intro T2255 h2256 L2257 S2258 W2259
  have f2260 := f2253.same W2259
  refine S2258.aloadN 13 (H dq__12) rfl rfl (S2258.bipush 15 (8 : Int32) (H dq__13) (S2258.newarr 17 8 (H dq__15) (W 42 rfl) (by decide) (by decide) (by decide) (by decide) (by decide) ?_))
  intro T2261 h2262 b2263 k2264 S2265 E2266 g2267 wo2268 A2269
  have f2270 := ((FA.ext E2243).wr W2259 nao nta)
  have l2271 : a < b2263 := (by rw [g2267]; exact f2270.lt)
  have f2272 := ((FA.ext E2243).wr W2259 nao nta)
  have l2273 : ta < b2263 := (by rw [g2267]; exact f2272.lt')
  have f2274 := ((FB.ext E2243).wr W2259 nbo ntb)
  have l2275 : b < b2263 := (by rw [g2267]; exact f2274.lt)
  have f2276 := ((FB.ext E2243).wr W2259 nbo ntb)
  have l2277 : tb < b2263 := (by rw [g2267]; exact f2276.lt')
  have f2278 := (f2254.wr W2259)
  have l2279 : o < b2263 := (by rw [g2267]; exact f2278.lt)
  have f2280 := (f2252.other W2259 (Nat.ne_of_gt l2251))
  have l2281 : b2240 < b2263 := (by rw [g2267]; exact f2280.lt)
  have f2282 : Arv Z h2262 b2263 k2264 .int (8 : Int32) [(.int 0), (.int 0), (.int 0), (.int 0), (.int 0), (.int 0), (.int 0), (.int 0)] (.int 0) := A2269.pad (pad_rep [] (.int 0) 8)
  have f2283 := (((ME.ext E2243).other W2259 (Or.inr (slot_ne (t := (.array .int)) (t' := (.array .int)) (Or.inl (W 46 rfl)) (Or.inl (W 44 rfl)) (by decide) (by decide) (by decide)))).ext E2266)
  have f2284 := (f2278.ext E2266)
  refine S2265.putf (host := "") (ty := (.array .int)) 20 (H dq__17) (Or.inl (W 45 rfl)) Via.refl f2283 f2284 (Or.inl (W 46 rfl)) (W 36 rfl) (by decide) rfl rfl (Or.inl (by simp)) (Or.inl (by decide)) ?_
  intro T2285 h2286 L2287 S2288 W2289
  have f2290 := f2283.same W2289
  refine S2288.aloadN 21 (H dq__20) rfl rfl (S2288.aloadN 22 (H dq__21) rfl rfl ?_)
  have f2291 := ((f2272.ext E2266).wr W2289 nao nta)
  have f2292 := ((f2276.ext E2266).wr W2289 nbo ntb)
  refine S2288.vcall 25 (H dq__22) hml.symm (W 47 rfl) (W 48 rfl) (W 50 rfl) (W 49 rfl) (nfSel (W 50 rfl)) (by decide) f2291.1 [(.ref b)] [] (Con.pay (W := 0) (own_i1_2 l Z a0 hw cm h2286 n0 S2288.old a b ta ka da x0 x1 x2 x3 x4 tb kb db y0 y1 b0 b1 b2 b3 f2291.1 f2291.2.1 f2291.2.2.1 f2292.1 f2292.2.1 f2292.2.2.1 f2291.2.2.2 f2292.2.2.2 e0 e1 e2 e3) (W 51 rfl) (W 8 rfl) (by decide) (by decide)) (lenOf own_pd_26 rfl) rfl (Nle rfl) (by decide) (by decide) Wrs.nil ?_
  intro v2293 T2294 h2295 L2296 S2297 q2298 K2299
  obtain ⟨rfl, e_q2298⟩ := q2298
  obtain rfl := e_q2298.symm
  have f2300 := (f2284.wr W2289)
  have f2301 := ((((MC.ext E2243).other W2259 (Or.inr (slot_ne (t := .int) (t' := (.array .int)) (Or.inl (W 82 rfl)) (Or.inl (W 44 rfl)) (by decide) (by decide) (by decide)))).ext E2266).other W2289 (Or.inr (slot_ne (t := .int) (t' := (.array .int)) (Or.inl (W 82 rfl)) (Or.inl (W 46 rfl)) (by decide) (by decide) (by decide))))
  have f2302 := ((f2260.ext E2266).other W2289 (Or.inr (slot_ne (t := (.array .int)) (t' := (.array .int)) (Or.inl (W 44 rfl)) (Or.inl (W 46 rfl)) (by decide) (by decide) (by decide))))
  have f2303 := ((f2280.ext E2266).other W2289 (Nat.ne_of_gt l2251))
  have f2304 := (f2282.other W2289 (Nat.ne_of_gt l2279))
  show Go p e below _ T2294 (mkF m 25 #[vr o, vr a, vr b, uN] [(.int (own_nx [(b0, 0), (b1, 1), (b2, 2), (b3, 3)]))])
  rcases b0 with _ | _
  ·skip
   show Go p e below _ T2294 (mkF m 25 #[vr o, vr a, vr b, uN] [(.int (own_nx [(b1, 1), (b2, 2), (b3, 3)]))])
   rcases b1 with _ | _
   ·skip
    show Go p e below _ T2294 (mkF m 25 #[vr o, vr a, vr b, uN] [(.int (own_nx [(b2, 2), (b3, 3)]))])
    rcases b2 with _ | _
    ·skip
     show Go p e below _ T2294 (mkF m 25 #[vr o, vr a, vr b, uN] [(.int (own_nx [(b3, 3)]))])
     rcases b3 with _ | _
     ·skip
      show Go p e below _ T2294 (mkF m 25 #[vr o, vr a, vr b, uN] [(.int (-1))])
      refine S2297.istoreN 26 #[vr o, vr a, vr b, vi (-1)] (H dq__25) rfl (S2297.iloadN 27 (H dq__26) rfl (S2297.ifY 56 (H dq__27) (zLtT (by decide)) ?_))
      exact S2297.ret0 (H dq__56) hret (by decide) (by decide) ⟨rfl, _, _, _, _, f2300, f2301, f2302, f2290, f2303, f2304⟩
     ·skip
      show Go p e below _ T2294 (mkF m 25 #[vr o, vr a, vr b, uN] [(.int 3)])
      refine S2297.istoreN 26 #[vr o, vr a, vr b, vi 3] (H dq__25) rfl (S2297.iloadN 27 (H dq__26) rfl (S2297.ifN 30 (H dq__27) (zLtF (by decide)) (S2297.aloadN 31 (H dq__30) rfl rfl (S2297.iloadN 32 (H dq__31) rfl (S2297.iloadN 33 (H dq__32) rfl (S2297.aloadN 34 (H dq__33) rfl rfl ?_))))))
      refine S2297.vcall 37 (H dq__34) hml.symm (W 93 rfl) (W 94 rfl) (W 96 rfl) (W 95 rfl) (nfSel (W 96 rfl)) (by decide) f2292.1 [] [(.int 3), (.int 3), (.ref o)] (Con.pay (W := 3) (own_len_2 l Z a0 hw cm h2286 n0 S2297.old b tb kb [(.int y0), (.int y1)] db f2292.1 f2292.2.1 f2292.2.2.1 f2292.2.2.2) (W 97 rfl) (W 8 rfl) (by decide) (by decide)) (lenOf own_pd_21 rfl) rfl (Nle rfl) (by decide) (by decide) Wrs.nil ?_
      intro v2305 T2306 h2307 L2308 S2309 q2310 K2311
      obtain ⟨rfl, e_q2310⟩ := q2310
      obtain rfl := e_q2310.symm
      show Go p e below _ T2306 (mkF m 37 #[vr o, vr a, vr b, vi 3] [(.int 2), (.int 3), (.int 3), (.ref o)])
      refine S2309.iadd 38 (H dq__37) ?_
      rw [show (3 + 2 : Int32) = 5 from by decide]
      refine S2309.pcall 41 (H dq__38) hml.symm (W 98 rfl) (W 99 rfl) (W 100 rfl) (W 101 rfl) (W 75 rfl) rfl (by decide) f2300 [(.int 3), (.int 5)] [] (Con.pay (W := 0) (own_add_0 l Z a0 hw h2286 n0 S2309.old o b2240 b2263 k2241 k2264 (3 : Int32) (5 : Int32) (S2309.ge (Or.inl (by simp))) (S2309.ge wo2245) (S2309.ge wo2268) f2300 f2301 f2302 f2290 f2303 f2304 (Nat.ne_of_lt l2281) (Nat.ne_of_lt l2251) (Nat.ne_of_lt l2279)) (W 101 rfl) (W 37 rfl) (by decide) (by decide)) (lenOf own_pd_27 rfl) rfl (Nle rfl) (by decide) (by decide) (Wrs.three ⟨(Or.inl (by simp)), Or.inr ⟨_, f2300, by decide, by decide⟩⟩ ⟨wo2245, Or.inl (by simp)⟩ ⟨wo2268, Or.inl (by simp)⟩) ?_
      intro v2312 T2313 h2314 L2315 S2316 q2317 K2318
      obtain ⟨rfl, f2319, f2320, f2321, f2322, f2323, f2324⟩ := q2317
      show Go p e below _ T2313 (mkF m 41 #[vr o, vr a, vr b, vi 3] [])
      refine S2316.aloadN 42 (H dq__41) rfl rfl (S2316.aloadN 43 (H dq__42) rfl rfl (S2316.iloadN 44 (H dq__43) rfl (S2316.aloadN 45 (H dq__44) rfl rfl ?_)))
      have f2325 := (f2292.keep K2318 (ninS nbo (ninS (Nat.ne_of_lt l2249) (ninS (Nat.ne_of_lt l2275) nin0))) (ninS ntb (ninS (Nat.ne_of_lt l2250) (ninS (Nat.ne_of_lt l2277) nin0))))
      refine S2316.vcall 48 (H dq__45) hml.symm (W 93 rfl) (W 94 rfl) (W 96 rfl) (W 95 rfl) (nfSel (W 96 rfl)) (by decide) f2325.1 [] [(.int 3), (.ref b), (.ref a)] (Con.pay (W := 3) (own_len_2 l Z a0 hw cm h2314 n0 S2316.old b tb kb [(.int y0), (.int y1)] db f2325.1 f2325.2.1 f2325.2.2.1 f2325.2.2.2) (W 97 rfl) (W 8 rfl) (by decide) (by decide)) (lenOf own_pd_21 rfl) rfl (Nle rfl) (by decide) (by decide) Wrs.nil ?_
      intro v2326 T2327 h2328 L2329 S2330 q2331 K2332
      obtain ⟨rfl, e_q2331⟩ := q2331
      obtain rfl := e_q2331.symm
      show Go p e below _ T2327 (mkF m 48 #[vr o, vr a, vr b, vi 3] [(.int 2), (.int 3), (.ref b), (.ref a)])
      refine S2330.iadd 49 (H dq__48) ?_
      rw [show (3 + 2 : Int32) = 5 from by decide]
      have f2333 := (f2291.keep K2318 (ninS nao (ninS (Nat.ne_of_lt l2247) (ninS (Nat.ne_of_lt l2271) nin0))) (ninS nta (ninS (Nat.ne_of_lt l2248) (ninS (Nat.ne_of_lt l2273) nin0))))
      refine S2330.vcall 52 (H dq__49) hml.symm (W 102 rfl) (W 103 rfl) (W 105 rfl) (W 104 rfl) (nfSel (W 105 rfl)) (by decide) f2333.1 [(.ref b), (.int 5)] [] (Con.pay (W := 0) (own_i2_2_5 l Z a0 hw cm h2314 n0 S2330.old a b ta ka da x0 x1 x2 x3 x4 tb kb db y0 y1 f2333.1 f2333.2.1 f2333.2.2.1 f2325.1 f2325.2.1 f2325.2.2.1 f2333.2.2.2 f2325.2.2.2) (W 106 rfl) (W 8 rfl) (by decide) (by decide)) (lenOf own_pd_28 rfl) rfl (Nle rfl) (by decide) (by decide) Wrs.nil ?_
      intro v2334 T2335 h2336 L2337 S2338 q2339 K2340
      obtain ⟨rfl, e_q2339⟩ := q2339
      obtain rfl := e_q2339.symm
      show Go p e below _ T2335 (mkF m 52 #[vr o, vr a, vr b, vi 3] [(.int (own_nx []))])
      show Go p e below _ T2335 (mkF m 52 #[vr o, vr a, vr b, vi 3] [(.int (-1))])
      refine S2338.istoreN 53 #[vr o, vr a, vr b, vi (-1)] (H dq__52) rfl (S2338.goto 26 (H dq__53) (S2338.iloadN 27 (H dq__26) rfl (S2338.ifY 56 (H dq__27) (zLtT (by decide)) ?_)))
      exact S2338.ret0 (H dq__56) hret (by decide) (by decide) ⟨rfl, _, _, _, _, f2319, f2320, f2321, f2322, f2323, f2324⟩
    ·skip
     show Go p e below _ T2294 (mkF m 25 #[vr o, vr a, vr b, uN] [(.int 2)])
     refine S2297.istoreN 26 #[vr o, vr a, vr b, vi 2] (H dq__25) rfl (S2297.iloadN 27 (H dq__26) rfl (S2297.ifN 30 (H dq__27) (zLtF (by decide)) (S2297.aloadN 31 (H dq__30) rfl rfl (S2297.iloadN 32 (H dq__31) rfl (S2297.iloadN 33 (H dq__32) rfl (S2297.aloadN 34 (H dq__33) rfl rfl ?_))))))
     refine S2297.vcall 37 (H dq__34) hml.symm (W 93 rfl) (W 94 rfl) (W 96 rfl) (W 95 rfl) (nfSel (W 96 rfl)) (by decide) f2292.1 [] [(.int 2), (.int 2), (.ref o)] (Con.pay (W := 3) (own_len_2 l Z a0 hw cm h2286 n0 S2297.old b tb kb [(.int y0), (.int y1)] db f2292.1 f2292.2.1 f2292.2.2.1 f2292.2.2.2) (W 97 rfl) (W 8 rfl) (by decide) (by decide)) (lenOf own_pd_21 rfl) rfl (Nle rfl) (by decide) (by decide) Wrs.nil ?_
     intro v2341 T2342 h2343 L2344 S2345 q2346 K2347
     obtain ⟨rfl, e_q2346⟩ := q2346
     obtain rfl := e_q2346.symm
     show Go p e below _ T2342 (mkF m 37 #[vr o, vr a, vr b, vi 2] [(.int 2), (.int 2), (.int 2), (.ref o)])
     refine S2345.iadd 38 (H dq__37) ?_
     rw [show (2 + 2 : Int32) = 4 from by decide]
     refine S2345.pcall 41 (H dq__38) hml.symm (W 98 rfl) (W 99 rfl) (W 100 rfl) (W 101 rfl) (W 75 rfl) rfl (by decide) f2300 [(.int 2), (.int 4)] [] (Con.pay (W := 0) (own_add_0 l Z a0 hw h2286 n0 S2345.old o b2240 b2263 k2241 k2264 (2 : Int32) (4 : Int32) (S2345.ge (Or.inl (by simp))) (S2345.ge wo2245) (S2345.ge wo2268) f2300 f2301 f2302 f2290 f2303 f2304 (Nat.ne_of_lt l2281) (Nat.ne_of_lt l2251) (Nat.ne_of_lt l2279)) (W 101 rfl) (W 37 rfl) (by decide) (by decide)) (lenOf own_pd_27 rfl) rfl (Nle rfl) (by decide) (by decide) (Wrs.three ⟨(Or.inl (by simp)), Or.inr ⟨_, f2300, by decide, by decide⟩⟩ ⟨wo2245, Or.inl (by simp)⟩ ⟨wo2268, Or.inl (by simp)⟩) ?_
     intro v2348 T2349 h2350 L2351 S2352 q2353 K2354
     obtain ⟨rfl, f2355, f2356, f2357, f2358, f2359, f2360⟩ := q2353
     show Go p e below _ T2349 (mkF m 41 #[vr o, vr a, vr b, vi 2] [])
     refine S2352.aloadN 42 (H dq__41) rfl rfl (S2352.aloadN 43 (H dq__42) rfl rfl (S2352.iloadN 44 (H dq__43) rfl (S2352.aloadN 45 (H dq__44) rfl rfl ?_)))
     have f2361 := (f2292.keep K2354 (ninS nbo (ninS (Nat.ne_of_lt l2249) (ninS (Nat.ne_of_lt l2275) nin0))) (ninS ntb (ninS (Nat.ne_of_lt l2250) (ninS (Nat.ne_of_lt l2277) nin0))))
     refine S2352.vcall 48 (H dq__45) hml.symm (W 93 rfl) (W 94 rfl) (W 96 rfl) (W 95 rfl) (nfSel (W 96 rfl)) (by decide) f2361.1 [] [(.int 2), (.ref b), (.ref a)] (Con.pay (W := 3) (own_len_2 l Z a0 hw cm h2350 n0 S2352.old b tb kb [(.int y0), (.int y1)] db f2361.1 f2361.2.1 f2361.2.2.1 f2361.2.2.2) (W 97 rfl) (W 8 rfl) (by decide) (by decide)) (lenOf own_pd_21 rfl) rfl (Nle rfl) (by decide) (by decide) Wrs.nil ?_
     intro v2362 T2363 h2364 L2365 S2366 q2367 K2368
     obtain ⟨rfl, e_q2367⟩ := q2367
     obtain rfl := e_q2367.symm
     show Go p e below _ T2363 (mkF m 48 #[vr o, vr a, vr b, vi 2] [(.int 2), (.int 2), (.ref b), (.ref a)])
     refine S2366.iadd 49 (H dq__48) ?_
     rw [show (2 + 2 : Int32) = 4 from by decide]
     have f2369 := (f2291.keep K2354 (ninS nao (ninS (Nat.ne_of_lt l2247) (ninS (Nat.ne_of_lt l2271) nin0))) (ninS nta (ninS (Nat.ne_of_lt l2248) (ninS (Nat.ne_of_lt l2273) nin0))))
     refine S2366.vcall 52 (H dq__49) hml.symm (W 102 rfl) (W 103 rfl) (W 105 rfl) (W 104 rfl) (nfSel (W 105 rfl)) (by decide) f2369.1 [(.ref b), (.int 4)] [] (Con.pay (W := 0) (own_i2_2_4 l Z a0 hw cm h2350 n0 S2366.old a b ta ka da x0 x1 x2 x3 x4 tb kb db y0 y1 f2369.1 f2369.2.1 f2369.2.2.1 f2361.1 f2361.2.1 f2361.2.2.1 f2369.2.2.2 f2361.2.2.2) (W 106 rfl) (W 8 rfl) (by decide) (by decide)) (lenOf own_pd_28 rfl) rfl (Nle rfl) (by decide) (by decide) Wrs.nil ?_
     intro v2370 T2371 h2372 L2373 S2374 q2375 K2376
     obtain ⟨rfl, e_q2375⟩ := q2375
     obtain rfl := e_q2375.symm
     show Go p e below _ T2371 (mkF m 52 #[vr o, vr a, vr b, vi 2] [(.int (own_nx []))])
     show Go p e below _ T2371 (mkF m 52 #[vr o, vr a, vr b, vi 2] [(.int (-1))])
     refine S2374.istoreN 53 #[vr o, vr a, vr b, vi (-1)] (H dq__52) rfl (S2374.goto 26 (H dq__53) (S2374.iloadN 27 (H dq__26) rfl (S2374.ifY 56 (H dq__27) (zLtT (by decide)) ?_)))
     exact S2374.ret0 (H dq__56) hret (by decide) (by decide) ⟨rfl, _, _, _, _, f2355, f2356, f2357, f2358, f2359, f2360⟩
   ·skip
    show Go p e below _ T2294 (mkF m 25 #[vr o, vr a, vr b, uN] [(.int 1)])
    refine S2297.istoreN 26 #[vr o, vr a, vr b, vi 1] (H dq__25) rfl (S2297.iloadN 27 (H dq__26) rfl (S2297.ifN 30 (H dq__27) (zLtF (by decide)) (S2297.aloadN 31 (H dq__30) rfl rfl (S2297.iloadN 32 (H dq__31) rfl (S2297.iloadN 33 (H dq__32) rfl (S2297.aloadN 34 (H dq__33) rfl rfl ?_))))))
    refine S2297.vcall 37 (H dq__34) hml.symm (W 93 rfl) (W 94 rfl) (W 96 rfl) (W 95 rfl) (nfSel (W 96 rfl)) (by decide) f2292.1 [] [(.int 1), (.int 1), (.ref o)] (Con.pay (W := 3) (own_len_2 l Z a0 hw cm h2286 n0 S2297.old b tb kb [(.int y0), (.int y1)] db f2292.1 f2292.2.1 f2292.2.2.1 f2292.2.2.2) (W 97 rfl) (W 8 rfl) (by decide) (by decide)) (lenOf own_pd_21 rfl) rfl (Nle rfl) (by decide) (by decide) Wrs.nil ?_
    intro v2377 T2378 h2379 L2380 S2381 q2382 K2383
    obtain ⟨rfl, e_q2382⟩ := q2382
    obtain rfl := e_q2382.symm
    show Go p e below _ T2378 (mkF m 37 #[vr o, vr a, vr b, vi 1] [(.int 2), (.int 1), (.int 1), (.ref o)])
    refine S2381.iadd 38 (H dq__37) ?_
    rw [show (1 + 2 : Int32) = 3 from by decide]
    refine S2381.pcall 41 (H dq__38) hml.symm (W 98 rfl) (W 99 rfl) (W 100 rfl) (W 101 rfl) (W 75 rfl) rfl (by decide) f2300 [(.int 1), (.int 3)] [] (Con.pay (W := 0) (own_add_0 l Z a0 hw h2286 n0 S2381.old o b2240 b2263 k2241 k2264 (1 : Int32) (3 : Int32) (S2381.ge (Or.inl (by simp))) (S2381.ge wo2245) (S2381.ge wo2268) f2300 f2301 f2302 f2290 f2303 f2304 (Nat.ne_of_lt l2281) (Nat.ne_of_lt l2251) (Nat.ne_of_lt l2279)) (W 101 rfl) (W 37 rfl) (by decide) (by decide)) (lenOf own_pd_27 rfl) rfl (Nle rfl) (by decide) (by decide) (Wrs.three ⟨(Or.inl (by simp)), Or.inr ⟨_, f2300, by decide, by decide⟩⟩ ⟨wo2245, Or.inl (by simp)⟩ ⟨wo2268, Or.inl (by simp)⟩) ?_
    intro v2384 T2385 h2386 L2387 S2388 q2389 K2390
    obtain ⟨rfl, f2391, f2392, f2393, f2394, f2395, f2396⟩ := q2389
    show Go p e below _ T2385 (mkF m 41 #[vr o, vr a, vr b, vi 1] [])
    refine S2388.aloadN 42 (H dq__41) rfl rfl (S2388.aloadN 43 (H dq__42) rfl rfl (S2388.iloadN 44 (H dq__43) rfl (S2388.aloadN 45 (H dq__44) rfl rfl ?_)))
    have f2397 := (f2292.keep K2390 (ninS nbo (ninS (Nat.ne_of_lt l2249) (ninS (Nat.ne_of_lt l2275) nin0))) (ninS ntb (ninS (Nat.ne_of_lt l2250) (ninS (Nat.ne_of_lt l2277) nin0))))
    refine S2388.vcall 48 (H dq__45) hml.symm (W 93 rfl) (W 94 rfl) (W 96 rfl) (W 95 rfl) (nfSel (W 96 rfl)) (by decide) f2397.1 [] [(.int 1), (.ref b), (.ref a)] (Con.pay (W := 3) (own_len_2 l Z a0 hw cm h2386 n0 S2388.old b tb kb [(.int y0), (.int y1)] db f2397.1 f2397.2.1 f2397.2.2.1 f2397.2.2.2) (W 97 rfl) (W 8 rfl) (by decide) (by decide)) (lenOf own_pd_21 rfl) rfl (Nle rfl) (by decide) (by decide) Wrs.nil ?_
    intro v2398 T2399 h2400 L2401 S2402 q2403 K2404
    obtain ⟨rfl, e_q2403⟩ := q2403
    obtain rfl := e_q2403.symm
    show Go p e below _ T2399 (mkF m 48 #[vr o, vr a, vr b, vi 1] [(.int 2), (.int 1), (.ref b), (.ref a)])
    refine S2402.iadd 49 (H dq__48) ?_
    rw [show (1 + 2 : Int32) = 3 from by decide]
    have f2405 := (f2291.keep K2390 (ninS nao (ninS (Nat.ne_of_lt l2247) (ninS (Nat.ne_of_lt l2271) nin0))) (ninS nta (ninS (Nat.ne_of_lt l2248) (ninS (Nat.ne_of_lt l2273) nin0))))
    refine S2402.vcall 52 (H dq__49) hml.symm (W 102 rfl) (W 103 rfl) (W 105 rfl) (W 104 rfl) (nfSel (W 105 rfl)) (by decide) f2405.1 [(.ref b), (.int 3)] [] (Con.pay (W := 0) (own_i2_2_3 l Z a0 hw cm h2386 n0 S2402.old a b ta ka da x0 x1 x2 x3 x4 tb kb db y0 y1 b3 f2405.1 f2405.2.1 f2405.2.2.1 f2397.1 f2397.2.1 f2397.2.2.1 f2405.2.2.2 f2397.2.2.2 e3) (W 106 rfl) (W 8 rfl) (by decide) (by decide)) (lenOf own_pd_28 rfl) rfl (Nle rfl) (by decide) (by decide) Wrs.nil ?_
    intro v2406 T2407 h2408 L2409 S2410 q2411 K2412
    obtain ⟨rfl, e_q2411⟩ := q2411
    obtain rfl := e_q2411.symm
    show Go p e below _ T2407 (mkF m 52 #[vr o, vr a, vr b, vi 1] [(.int (own_nx [(b3, 3)]))])
    rcases b3 with _ | _
    ·skip
     show Go p e below _ T2407 (mkF m 52 #[vr o, vr a, vr b, vi 1] [(.int (-1))])
     refine S2410.istoreN 53 #[vr o, vr a, vr b, vi (-1)] (H dq__52) rfl (S2410.goto 26 (H dq__53) (S2410.iloadN 27 (H dq__26) rfl (S2410.ifY 56 (H dq__27) (zLtT (by decide)) ?_)))
     exact S2410.ret0 (H dq__56) hret (by decide) (by decide) ⟨rfl, _, _, _, _, f2391, f2392, f2393, f2394, f2395, f2396⟩
    ·skip
     show Go p e below _ T2407 (mkF m 52 #[vr o, vr a, vr b, vi 1] [(.int 3)])
     refine S2410.istoreN 53 #[vr o, vr a, vr b, vi 3] (H dq__52) rfl (S2410.goto 26 (H dq__53) (S2410.iloadN 27 (H dq__26) rfl (S2410.ifN 30 (H dq__27) (zLtF (by decide)) (S2410.aloadN 31 (H dq__30) rfl rfl (S2410.iloadN 32 (H dq__31) rfl (S2410.iloadN 33 (H dq__32) rfl ?_))))))
     refine S2410.aloadN 34 (H dq__33) rfl rfl (S2410.vcall 37 (H dq__34) hml.symm (W 93 rfl) (W 94 rfl) (W 96 rfl) (W 95 rfl) (nfSel (W 96 rfl)) (by decide) f2397.1 [] [(.int 3), (.int 3), (.ref o)] (Con.pay (W := 3) (own_len_2 l Z a0 hw cm h2386 n0 S2410.old b tb kb [(.int y0), (.int y1)] db f2397.1 f2397.2.1 f2397.2.2.1 f2397.2.2.2) (W 97 rfl) (W 8 rfl) (by decide) (by decide)) (lenOf own_pd_21 rfl) rfl (Nle rfl) (by decide) (by decide) Wrs.nil ?_)
     intro v2413 T2414 h2415 L2416 S2417 q2418 K2419
     obtain ⟨rfl, e_q2418⟩ := q2418
     obtain rfl := e_q2418.symm
     show Go p e below _ T2414 (mkF m 37 #[vr o, vr a, vr b, vi 3] [(.int 2), (.int 3), (.int 3), (.ref o)])
     refine S2417.iadd 38 (H dq__37) ?_
     rw [show (3 + 2 : Int32) = 5 from by decide]
     refine S2417.pcall 41 (H dq__38) hml.symm (W 98 rfl) (W 99 rfl) (W 100 rfl) (W 101 rfl) (W 75 rfl) rfl (by decide) f2391 [(.int 3), (.int 5)] [] (Con.pay (W := 0) (own_add_1 l Z a0 hw h2386 n0 S2417.old o b2240 b2263 k2241 k2264 (1 : Int32) (3 : Int32) (3 : Int32) (5 : Int32) (S2417.ge (Or.inl (by simp))) (S2417.ge wo2245) (S2417.ge wo2268) f2391 f2392 f2393 f2394 f2395 f2396 (Nat.ne_of_lt l2281) (Nat.ne_of_lt l2251) (Nat.ne_of_lt l2279)) (W 101 rfl) (W 37 rfl) (by decide) (by decide)) (lenOf own_pd_27 rfl) rfl (Nle rfl) (by decide) (by decide) (Wrs.three ⟨(Or.inl (by simp)), Or.inr ⟨_, f2391, by decide, by decide⟩⟩ ⟨wo2245, Or.inl (by simp)⟩ ⟨wo2268, Or.inl (by simp)⟩) ?_
     intro v2420 T2421 h2422 L2423 S2424 q2425 K2426
     obtain ⟨rfl, f2427, f2428, f2429, f2430, f2431, f2432⟩ := q2425
     show Go p e below _ T2421 (mkF m 41 #[vr o, vr a, vr b, vi 3] [])
     refine S2424.aloadN 42 (H dq__41) rfl rfl (S2424.aloadN 43 (H dq__42) rfl rfl (S2424.iloadN 44 (H dq__43) rfl (S2424.aloadN 45 (H dq__44) rfl rfl ?_)))
     have f2433 := (f2397.keep K2426 (ninS nbo (ninS (Nat.ne_of_lt l2249) (ninS (Nat.ne_of_lt l2275) nin0))) (ninS ntb (ninS (Nat.ne_of_lt l2250) (ninS (Nat.ne_of_lt l2277) nin0))))
     refine S2424.vcall 48 (H dq__45) hml.symm (W 93 rfl) (W 94 rfl) (W 96 rfl) (W 95 rfl) (nfSel (W 96 rfl)) (by decide) f2433.1 [] [(.int 3), (.ref b), (.ref a)] (Con.pay (W := 3) (own_len_2 l Z a0 hw cm h2422 n0 S2424.old b tb kb [(.int y0), (.int y1)] db f2433.1 f2433.2.1 f2433.2.2.1 f2433.2.2.2) (W 97 rfl) (W 8 rfl) (by decide) (by decide)) (lenOf own_pd_21 rfl) rfl (Nle rfl) (by decide) (by decide) Wrs.nil ?_
     intro v2434 T2435 h2436 L2437 S2438 q2439 K2440
     obtain ⟨rfl, e_q2439⟩ := q2439
     obtain rfl := e_q2439.symm
     show Go p e below _ T2435 (mkF m 48 #[vr o, vr a, vr b, vi 3] [(.int 2), (.int 3), (.ref b), (.ref a)])
     refine S2438.iadd 49 (H dq__48) ?_
     rw [show (3 + 2 : Int32) = 5 from by decide]
     have f2441 := (f2405.keep K2426 (ninS nao (ninS (Nat.ne_of_lt l2247) (ninS (Nat.ne_of_lt l2271) nin0))) (ninS nta (ninS (Nat.ne_of_lt l2248) (ninS (Nat.ne_of_lt l2273) nin0))))
     refine S2438.vcall 52 (H dq__49) hml.symm (W 102 rfl) (W 103 rfl) (W 105 rfl) (W 104 rfl) (nfSel (W 105 rfl)) (by decide) f2441.1 [(.ref b), (.int 5)] [] (Con.pay (W := 0) (own_i2_2_5 l Z a0 hw cm h2422 n0 S2438.old a b ta ka da x0 x1 x2 x3 x4 tb kb db y0 y1 f2441.1 f2441.2.1 f2441.2.2.1 f2433.1 f2433.2.1 f2433.2.2.1 f2441.2.2.2 f2433.2.2.2) (W 106 rfl) (W 8 rfl) (by decide) (by decide)) (lenOf own_pd_28 rfl) rfl (Nle rfl) (by decide) (by decide) Wrs.nil ?_
     intro v2442 T2443 h2444 L2445 S2446 q2447 K2448
     obtain ⟨rfl, e_q2447⟩ := q2447
     obtain rfl := e_q2447.symm
     show Go p e below _ T2443 (mkF m 52 #[vr o, vr a, vr b, vi 3] [(.int (own_nx []))])
     show Go p e below _ T2443 (mkF m 52 #[vr o, vr a, vr b, vi 3] [(.int (-1))])
     refine S2446.istoreN 53 #[vr o, vr a, vr b, vi (-1)] (H dq__52) rfl (S2446.goto 26 (H dq__53) (S2446.iloadN 27 (H dq__26) rfl (S2446.ifY 56 (H dq__27) (zLtT (by decide)) ?_)))
     exact S2446.ret0 (H dq__56) hret (by decide) (by decide) ⟨rfl, _, _, _, _, f2427, f2428, f2429, f2430, f2431, f2432⟩
  ·skip
   show Go p e below _ T2294 (mkF m 25 #[vr o, vr a, vr b, uN] [(.int 0)])
   refine S2297.istoreN 26 #[vr o, vr a, vr b, vi 0] (H dq__25) rfl (S2297.iloadN 27 (H dq__26) rfl (S2297.ifN 30 (H dq__27) (zLtF (by decide)) (S2297.aloadN 31 (H dq__30) rfl rfl (S2297.iloadN 32 (H dq__31) rfl (S2297.iloadN 33 (H dq__32) rfl (S2297.aloadN 34 (H dq__33) rfl rfl ?_))))))
   refine S2297.vcall 37 (H dq__34) hml.symm (W 93 rfl) (W 94 rfl) (W 96 rfl) (W 95 rfl) (nfSel (W 96 rfl)) (by decide) f2292.1 [] [(.int 0), (.int 0), (.ref o)] (Con.pay (W := 3) (own_len_2 l Z a0 hw cm h2286 n0 S2297.old b tb kb [(.int y0), (.int y1)] db f2292.1 f2292.2.1 f2292.2.2.1 f2292.2.2.2) (W 97 rfl) (W 8 rfl) (by decide) (by decide)) (lenOf own_pd_21 rfl) rfl (Nle rfl) (by decide) (by decide) Wrs.nil ?_
   intro v2449 T2450 h2451 L2452 S2453 q2454 K2455
   obtain ⟨rfl, e_q2454⟩ := q2454
   obtain rfl := e_q2454.symm
   show Go p e below _ T2450 (mkF m 37 #[vr o, vr a, vr b, vi 0] [(.int 2), (.int 0), (.int 0), (.ref o)])
   refine S2453.iadd 38 (H dq__37) ?_
   rw [show (0 + 2 : Int32) = 2 from by decide]
   refine S2453.pcall 41 (H dq__38) hml.symm (W 98 rfl) (W 99 rfl) (W 100 rfl) (W 101 rfl) (W 75 rfl) rfl (by decide) f2300 [(.int 0), (.int 2)] [] (Con.pay (W := 0) (own_add_0 l Z a0 hw h2286 n0 S2453.old o b2240 b2263 k2241 k2264 (0 : Int32) (2 : Int32) (S2453.ge (Or.inl (by simp))) (S2453.ge wo2245) (S2453.ge wo2268) f2300 f2301 f2302 f2290 f2303 f2304 (Nat.ne_of_lt l2281) (Nat.ne_of_lt l2251) (Nat.ne_of_lt l2279)) (W 101 rfl) (W 37 rfl) (by decide) (by decide)) (lenOf own_pd_27 rfl) rfl (Nle rfl) (by decide) (by decide) (Wrs.three ⟨(Or.inl (by simp)), Or.inr ⟨_, f2300, by decide, by decide⟩⟩ ⟨wo2245, Or.inl (by simp)⟩ ⟨wo2268, Or.inl (by simp)⟩) ?_
   intro v2456 T2457 h2458 L2459 S2460 q2461 K2462
   obtain ⟨rfl, f2463, f2464, f2465, f2466, f2467, f2468⟩ := q2461
   show Go p e below _ T2457 (mkF m 41 #[vr o, vr a, vr b, vi 0] [])
   refine S2460.aloadN 42 (H dq__41) rfl rfl (S2460.aloadN 43 (H dq__42) rfl rfl (S2460.iloadN 44 (H dq__43) rfl (S2460.aloadN 45 (H dq__44) rfl rfl ?_)))
   have f2469 := (f2292.keep K2462 (ninS nbo (ninS (Nat.ne_of_lt l2249) (ninS (Nat.ne_of_lt l2275) nin0))) (ninS ntb (ninS (Nat.ne_of_lt l2250) (ninS (Nat.ne_of_lt l2277) nin0))))
   refine S2460.vcall 48 (H dq__45) hml.symm (W 93 rfl) (W 94 rfl) (W 96 rfl) (W 95 rfl) (nfSel (W 96 rfl)) (by decide) f2469.1 [] [(.int 0), (.ref b), (.ref a)] (Con.pay (W := 3) (own_len_2 l Z a0 hw cm h2458 n0 S2460.old b tb kb [(.int y0), (.int y1)] db f2469.1 f2469.2.1 f2469.2.2.1 f2469.2.2.2) (W 97 rfl) (W 8 rfl) (by decide) (by decide)) (lenOf own_pd_21 rfl) rfl (Nle rfl) (by decide) (by decide) Wrs.nil ?_
   intro v2470 T2471 h2472 L2473 S2474 q2475 K2476
   obtain ⟨rfl, e_q2475⟩ := q2475
   obtain rfl := e_q2475.symm
   show Go p e below _ T2471 (mkF m 48 #[vr o, vr a, vr b, vi 0] [(.int 2), (.int 0), (.ref b), (.ref a)])
   refine S2474.iadd 49 (H dq__48) ?_
   rw [show (0 + 2 : Int32) = 2 from by decide]
   have f2477 := (f2291.keep K2462 (ninS nao (ninS (Nat.ne_of_lt l2247) (ninS (Nat.ne_of_lt l2271) nin0))) (ninS nta (ninS (Nat.ne_of_lt l2248) (ninS (Nat.ne_of_lt l2273) nin0))))
   refine S2474.vcall 52 (H dq__49) hml.symm (W 102 rfl) (W 103 rfl) (W 105 rfl) (W 104 rfl) (nfSel (W 105 rfl)) (by decide) f2477.1 [(.ref b), (.int 2)] [] (Con.pay (W := 0) (own_i2_2_2 l Z a0 hw cm h2458 n0 S2474.old a b ta ka da x0 x1 x2 x3 x4 tb kb db y0 y1 b2 b3 f2477.1 f2477.2.1 f2477.2.2.1 f2469.1 f2469.2.1 f2469.2.2.1 f2477.2.2.2 f2469.2.2.2 e2 e3) (W 106 rfl) (W 8 rfl) (by decide) (by decide)) (lenOf own_pd_28 rfl) rfl (Nle rfl) (by decide) (by decide) Wrs.nil ?_
   intro v2478 T2479 h2480 L2481 S2482 q2483 K2484
   obtain ⟨rfl, e_q2483⟩ := q2483
   obtain rfl := e_q2483.symm
   show Go p e below _ T2479 (mkF m 52 #[vr o, vr a, vr b, vi 0] [(.int (own_nx [(b2, 2), (b3, 3)]))])
   rcases b2 with _ | _
   ·skip
    show Go p e below _ T2479 (mkF m 52 #[vr o, vr a, vr b, vi 0] [(.int (own_nx [(b3, 3)]))])
    rcases b3 with _ | _
    ·skip
     show Go p e below _ T2479 (mkF m 52 #[vr o, vr a, vr b, vi 0] [(.int (-1))])
     refine S2482.istoreN 53 #[vr o, vr a, vr b, vi (-1)] (H dq__52) rfl (S2482.goto 26 (H dq__53) (S2482.iloadN 27 (H dq__26) rfl (S2482.ifY 56 (H dq__27) (zLtT (by decide)) ?_)))
     exact S2482.ret0 (H dq__56) hret (by decide) (by decide) ⟨rfl, _, _, _, _, f2463, f2464, f2465, f2466, f2467, f2468⟩
    ·skip
     show Go p e below _ T2479 (mkF m 52 #[vr o, vr a, vr b, vi 0] [(.int 3)])
     refine S2482.istoreN 53 #[vr o, vr a, vr b, vi 3] (H dq__52) rfl (S2482.goto 26 (H dq__53) (S2482.iloadN 27 (H dq__26) rfl (S2482.ifN 30 (H dq__27) (zLtF (by decide)) (S2482.aloadN 31 (H dq__30) rfl rfl (S2482.iloadN 32 (H dq__31) rfl (S2482.iloadN 33 (H dq__32) rfl ?_))))))
     refine S2482.aloadN 34 (H dq__33) rfl rfl (S2482.vcall 37 (H dq__34) hml.symm (W 93 rfl) (W 94 rfl) (W 96 rfl) (W 95 rfl) (nfSel (W 96 rfl)) (by decide) f2469.1 [] [(.int 3), (.int 3), (.ref o)] (Con.pay (W := 3) (own_len_2 l Z a0 hw cm h2458 n0 S2482.old b tb kb [(.int y0), (.int y1)] db f2469.1 f2469.2.1 f2469.2.2.1 f2469.2.2.2) (W 97 rfl) (W 8 rfl) (by decide) (by decide)) (lenOf own_pd_21 rfl) rfl (Nle rfl) (by decide) (by decide) Wrs.nil ?_)
     intro v2485 T2486 h2487 L2488 S2489 q2490 K2491
     obtain ⟨rfl, e_q2490⟩ := q2490
     obtain rfl := e_q2490.symm
     show Go p e below _ T2486 (mkF m 37 #[vr o, vr a, vr b, vi 3] [(.int 2), (.int 3), (.int 3), (.ref o)])
     refine S2489.iadd 38 (H dq__37) ?_
     rw [show (3 + 2 : Int32) = 5 from by decide]
     refine S2489.pcall 41 (H dq__38) hml.symm (W 98 rfl) (W 99 rfl) (W 100 rfl) (W 101 rfl) (W 75 rfl) rfl (by decide) f2463 [(.int 3), (.int 5)] [] (Con.pay (W := 0) (own_add_1 l Z a0 hw h2458 n0 S2489.old o b2240 b2263 k2241 k2264 (0 : Int32) (2 : Int32) (3 : Int32) (5 : Int32) (S2489.ge (Or.inl (by simp))) (S2489.ge wo2245) (S2489.ge wo2268) f2463 f2464 f2465 f2466 f2467 f2468 (Nat.ne_of_lt l2281) (Nat.ne_of_lt l2251) (Nat.ne_of_lt l2279)) (W 101 rfl) (W 37 rfl) (by decide) (by decide)) (lenOf own_pd_27 rfl) rfl (Nle rfl) (by decide) (by decide) (Wrs.three ⟨(Or.inl (by simp)), Or.inr ⟨_, f2463, by decide, by decide⟩⟩ ⟨wo2245, Or.inl (by simp)⟩ ⟨wo2268, Or.inl (by simp)⟩) ?_
     intro v2492 T2493 h2494 L2495 S2496 q2497 K2498
     obtain ⟨rfl, f2499, f2500, f2501, f2502, f2503, f2504⟩ := q2497
     show Go p e below _ T2493 (mkF m 41 #[vr o, vr a, vr b, vi 3] [])
     refine S2496.aloadN 42 (H dq__41) rfl rfl (S2496.aloadN 43 (H dq__42) rfl rfl (S2496.iloadN 44 (H dq__43) rfl (S2496.aloadN 45 (H dq__44) rfl rfl ?_)))
     have f2505 := (f2469.keep K2498 (ninS nbo (ninS (Nat.ne_of_lt l2249) (ninS (Nat.ne_of_lt l2275) nin0))) (ninS ntb (ninS (Nat.ne_of_lt l2250) (ninS (Nat.ne_of_lt l2277) nin0))))
     refine S2496.vcall 48 (H dq__45) hml.symm (W 93 rfl) (W 94 rfl) (W 96 rfl) (W 95 rfl) (nfSel (W 96 rfl)) (by decide) f2505.1 [] [(.int 3), (.ref b), (.ref a)] (Con.pay (W := 3) (own_len_2 l Z a0 hw cm h2494 n0 S2496.old b tb kb [(.int y0), (.int y1)] db f2505.1 f2505.2.1 f2505.2.2.1 f2505.2.2.2) (W 97 rfl) (W 8 rfl) (by decide) (by decide)) (lenOf own_pd_21 rfl) rfl (Nle rfl) (by decide) (by decide) Wrs.nil ?_
     intro v2506 T2507 h2508 L2509 S2510 q2511 K2512
     obtain ⟨rfl, e_q2511⟩ := q2511
     obtain rfl := e_q2511.symm
     show Go p e below _ T2507 (mkF m 48 #[vr o, vr a, vr b, vi 3] [(.int 2), (.int 3), (.ref b), (.ref a)])
     refine S2510.iadd 49 (H dq__48) ?_
     rw [show (3 + 2 : Int32) = 5 from by decide]
     have f2513 := (f2477.keep K2498 (ninS nao (ninS (Nat.ne_of_lt l2247) (ninS (Nat.ne_of_lt l2271) nin0))) (ninS nta (ninS (Nat.ne_of_lt l2248) (ninS (Nat.ne_of_lt l2273) nin0))))
     refine S2510.vcall 52 (H dq__49) hml.symm (W 102 rfl) (W 103 rfl) (W 105 rfl) (W 104 rfl) (nfSel (W 105 rfl)) (by decide) f2513.1 [(.ref b), (.int 5)] [] (Con.pay (W := 0) (own_i2_2_5 l Z a0 hw cm h2494 n0 S2510.old a b ta ka da x0 x1 x2 x3 x4 tb kb db y0 y1 f2513.1 f2513.2.1 f2513.2.2.1 f2505.1 f2505.2.1 f2505.2.2.1 f2513.2.2.2 f2505.2.2.2) (W 106 rfl) (W 8 rfl) (by decide) (by decide)) (lenOf own_pd_28 rfl) rfl (Nle rfl) (by decide) (by decide) Wrs.nil ?_
     intro v2514 T2515 h2516 L2517 S2518 q2519 K2520
     obtain ⟨rfl, e_q2519⟩ := q2519
     obtain rfl := e_q2519.symm
     show Go p e below _ T2515 (mkF m 52 #[vr o, vr a, vr b, vi 3] [(.int (own_nx []))])
     show Go p e below _ T2515 (mkF m 52 #[vr o, vr a, vr b, vi 3] [(.int (-1))])
     refine S2518.istoreN 53 #[vr o, vr a, vr b, vi (-1)] (H dq__52) rfl (S2518.goto 26 (H dq__53) (S2518.iloadN 27 (H dq__26) rfl (S2518.ifY 56 (H dq__27) (zLtT (by decide)) ?_)))
     exact S2518.ret0 (H dq__56) hret (by decide) (by decide) ⟨rfl, _, _, _, _, f2499, f2500, f2501, f2502, f2503, f2504⟩
   ·skip
    show Go p e below _ T2479 (mkF m 52 #[vr o, vr a, vr b, vi 0] [(.int 2)])
    refine S2482.istoreN 53 #[vr o, vr a, vr b, vi 2] (H dq__52) rfl (S2482.goto 26 (H dq__53) (S2482.iloadN 27 (H dq__26) rfl (S2482.ifN 30 (H dq__27) (zLtF (by decide)) (S2482.aloadN 31 (H dq__30) rfl rfl (S2482.iloadN 32 (H dq__31) rfl (S2482.iloadN 33 (H dq__32) rfl ?_))))))
    refine S2482.aloadN 34 (H dq__33) rfl rfl (S2482.vcall 37 (H dq__34) hml.symm (W 93 rfl) (W 94 rfl) (W 96 rfl) (W 95 rfl) (nfSel (W 96 rfl)) (by decide) f2469.1 [] [(.int 2), (.int 2), (.ref o)] (Con.pay (W := 3) (own_len_2 l Z a0 hw cm h2458 n0 S2482.old b tb kb [(.int y0), (.int y1)] db f2469.1 f2469.2.1 f2469.2.2.1 f2469.2.2.2) (W 97 rfl) (W 8 rfl) (by decide) (by decide)) (lenOf own_pd_21 rfl) rfl (Nle rfl) (by decide) (by decide) Wrs.nil ?_)
    intro v2521 T2522 h2523 L2524 S2525 q2526 K2527
    obtain ⟨rfl, e_q2526⟩ := q2526
    obtain rfl := e_q2526.symm
    show Go p e below _ T2522 (mkF m 37 #[vr o, vr a, vr b, vi 2] [(.int 2), (.int 2), (.int 2), (.ref o)])
    refine S2525.iadd 38 (H dq__37) ?_
    rw [show (2 + 2 : Int32) = 4 from by decide]
    refine S2525.pcall 41 (H dq__38) hml.symm (W 98 rfl) (W 99 rfl) (W 100 rfl) (W 101 rfl) (W 75 rfl) rfl (by decide) f2463 [(.int 2), (.int 4)] [] (Con.pay (W := 0) (own_add_1 l Z a0 hw h2458 n0 S2525.old o b2240 b2263 k2241 k2264 (0 : Int32) (2 : Int32) (2 : Int32) (4 : Int32) (S2525.ge (Or.inl (by simp))) (S2525.ge wo2245) (S2525.ge wo2268) f2463 f2464 f2465 f2466 f2467 f2468 (Nat.ne_of_lt l2281) (Nat.ne_of_lt l2251) (Nat.ne_of_lt l2279)) (W 101 rfl) (W 37 rfl) (by decide) (by decide)) (lenOf own_pd_27 rfl) rfl (Nle rfl) (by decide) (by decide) (Wrs.three ⟨(Or.inl (by simp)), Or.inr ⟨_, f2463, by decide, by decide⟩⟩ ⟨wo2245, Or.inl (by simp)⟩ ⟨wo2268, Or.inl (by simp)⟩) ?_
    intro v2528 T2529 h2530 L2531 S2532 q2533 K2534
    obtain ⟨rfl, f2535, f2536, f2537, f2538, f2539, f2540⟩ := q2533
    show Go p e below _ T2529 (mkF m 41 #[vr o, vr a, vr b, vi 2] [])
    refine S2532.aloadN 42 (H dq__41) rfl rfl (S2532.aloadN 43 (H dq__42) rfl rfl (S2532.iloadN 44 (H dq__43) rfl (S2532.aloadN 45 (H dq__44) rfl rfl ?_)))
    have f2541 := (f2469.keep K2534 (ninS nbo (ninS (Nat.ne_of_lt l2249) (ninS (Nat.ne_of_lt l2275) nin0))) (ninS ntb (ninS (Nat.ne_of_lt l2250) (ninS (Nat.ne_of_lt l2277) nin0))))
    refine S2532.vcall 48 (H dq__45) hml.symm (W 93 rfl) (W 94 rfl) (W 96 rfl) (W 95 rfl) (nfSel (W 96 rfl)) (by decide) f2541.1 [] [(.int 2), (.ref b), (.ref a)] (Con.pay (W := 3) (own_len_2 l Z a0 hw cm h2530 n0 S2532.old b tb kb [(.int y0), (.int y1)] db f2541.1 f2541.2.1 f2541.2.2.1 f2541.2.2.2) (W 97 rfl) (W 8 rfl) (by decide) (by decide)) (lenOf own_pd_21 rfl) rfl (Nle rfl) (by decide) (by decide) Wrs.nil ?_
    intro v2542 T2543 h2544 L2545 S2546 q2547 K2548
    obtain ⟨rfl, e_q2547⟩ := q2547
    obtain rfl := e_q2547.symm
    show Go p e below _ T2543 (mkF m 48 #[vr o, vr a, vr b, vi 2] [(.int 2), (.int 2), (.ref b), (.ref a)])
    refine S2546.iadd 49 (H dq__48) ?_
    rw [show (2 + 2 : Int32) = 4 from by decide]
    have f2549 := (f2477.keep K2534 (ninS nao (ninS (Nat.ne_of_lt l2247) (ninS (Nat.ne_of_lt l2271) nin0))) (ninS nta (ninS (Nat.ne_of_lt l2248) (ninS (Nat.ne_of_lt l2273) nin0))))
    refine S2546.vcall 52 (H dq__49) hml.symm (W 102 rfl) (W 103 rfl) (W 105 rfl) (W 104 rfl) (nfSel (W 105 rfl)) (by decide) f2549.1 [(.ref b), (.int 4)] [] (Con.pay (W := 0) (own_i2_2_4 l Z a0 hw cm h2530 n0 S2546.old a b ta ka da x0 x1 x2 x3 x4 tb kb db y0 y1 f2549.1 f2549.2.1 f2549.2.2.1 f2541.1 f2541.2.1 f2541.2.2.1 f2549.2.2.2 f2541.2.2.2) (W 106 rfl) (W 8 rfl) (by decide) (by decide)) (lenOf own_pd_28 rfl) rfl (Nle rfl) (by decide) (by decide) Wrs.nil ?_
    intro v2550 T2551 h2552 L2553 S2554 q2555 K2556
    obtain ⟨rfl, e_q2555⟩ := q2555
    obtain rfl := e_q2555.symm
    show Go p e below _ T2551 (mkF m 52 #[vr o, vr a, vr b, vi 2] [(.int (own_nx []))])
    show Go p e below _ T2551 (mkF m 52 #[vr o, vr a, vr b, vi 2] [(.int (-1))])
    refine S2554.istoreN 53 #[vr o, vr a, vr b, vi (-1)] (H dq__52) rfl (S2554.goto 26 (H dq__53) (S2554.iloadN 27 (H dq__26) rfl (S2554.ifY 56 (H dq__27) (zLtT (by decide)) ?_)))
    exact S2554.ret0 (H dq__56) hret (by decide) (by decide) ⟨rfl, _, _, _, _, f2535, f2536, f2537, f2538, f2539, f2540⟩

theorem own_ef_29 (m : MethodId) (x0 : Addr) (x1 : Int32) (x2 : Int32) (x3 : Int32) : entryFrame m #[(.ref x0), (.int x1), (.int x2), (.int x3)] 8 = mkF m 0 #[vr x0, vi x1, vi x2, vi x3, uN, uN, uN, uN] [] := by rfl
theorem dn__0 : decode jdk_65_method_59_code 0 = .ok (.iload_n 1, 1) := by decide +kernel
theorem dn__1 : decode jdk_65_method_59_code 1 = .ok (.istore 4, 2) := by decide +kernel
theorem dn__3 : decode jdk_65_method_59_code 3 = .ok (.iload_n 2, 1) := by decide +kernel
theorem dn__4 : decode jdk_65_method_59_code 4 = .ok (.iconst 1, 1) := by decide +kernel
theorem dn__5 : decode jdk_65_method_59_code 5 = .ok (.isub, 1) := by decide +kernel
theorem dn__6 : decode jdk_65_method_59_code 6 = .ok (.istore 5, 2) := by decide +kernel
theorem dn__8 : decode jdk_65_method_59_code 8 = .ok (.iload 4, 2) := by decide +kernel
theorem dn__10 : decode jdk_65_method_59_code 10 = .ok (.iload 5, 2) := by decide +kernel
theorem dn__12 : decode jdk_65_method_59_code 12 = .ok (.if_icmp .gt 54, 3) := by decide +kernel
theorem dn__66 : decode jdk_65_method_59_code 66 = .ok (.iload 4, 2) := by decide +kernel
theorem dn__68 : decode jdk_65_method_59_code 68 = .ok (.iconst 1, 1) := by decide +kernel
theorem dn__69 : decode jdk_65_method_59_code 69 = .ok (.iadd, 1) := by decide +kernel
theorem dn__70 : decode jdk_65_method_59_code 70 = .ok (.ineg, 1) := by decide +kernel
theorem dn__71 : decode jdk_65_method_59_code 71 = .ok (.ireturn, 1) := by decide +kernel
theorem own_pn_30 : plainName "java/util/Arrays" = true := by first | (simp [plainName, overriddenIn]; done) | decide +kernel
set_option maxRecDepth 65536 in
set_option maxHeartbeats 4000000 in
theorem own_b0_0 (l : Launch) (Z : State) (a0 : Array Value) (hw : ∀ d ∈ tables_1, d.before a0 Z = true) (h0 : Heap) (n0 : Nat) (O : Old Z n0 h0) (sa : Addr) (ks : ClassId) (pos : Int32) (AS : Arv Z h0 sa ks .int (8 : Int32) [(.int 0), (.int 0), (.int 0), (.int 0), (.int 0), (.int 0), (.int 0), (.int 0)] (.int 0)) :
   Con l Z n0 (⟨"java/util/Arrays", "binarySearch0", "([IIII)I"⟩ : MethodName) jdk_65_method_59_code 8 (some .int) [] ({ frames := 0, cells := 0, slots := 0, locals := 0 } : Room) #[(.ref sa), (.int 0), (.int 0), (.int pos)] h0 [] (fun v h' => (v = some (.int (own_fi [] (0 : Int32) pos)) ∨ v = some (.int (-((own_fi [] (0 : Int32) pos) + 1)))) ∧ h' = h0) := by
  refine Con.of a0 (plainFor_of_name own_pn_30) O (fun _ q => nomatch q) [] (fun _ q => nomatch q) ?_
  intro p e s m below meth cdX T S hby hml hret hnm
  have H := fun {k r} q => @hb _ _ hby k r q
  have W := @Tw a0 Z hw
  refine Go.cast (own_ef_29 m sa (0 : Int32) (0 : Int32) pos) ?_
  refine S.iloadN 1 (H dn__0) rfl (S.istore 3 #[vr sa, vi 0, vi 0, vi pos, vi 0, uN, uN, uN] (H dn__1) rfl (S.iloadN 4 (H dn__3) rfl (S.iconst 5 (1 : Int32) (H dn__4) (S.isub 6 (H dn__5) ?_))))
  rw [show (0 - 1 : Int32) = -1 from by decide]
  refine S.istore 8 #[vr sa, vi 0, vi 0, vi pos, vi 0, vi (-1), uN, uN] (H dn__6) rfl (S.iload 10 (H dn__8) rfl (S.iload 12 (H dn__10) rfl (S.icmpY 66 (H dn__12) (qGtT (by decide)) (S.iload 68 (H dn__66) rfl (S.iconst 69 (1 : Int32) (H dn__68) (S.iadd 70 (H dn__69) ?_))))))
  rw [show (0 + 1 : Int32) = 1 from by decide]
  refine S.ineg 71 (H dn__70) ?_
  have hR2557 : (own_fi [] (0 : Int32) pos) = (0 : Int32) := by rfl
  exact S.retI (H dn__71) hret (by decide) (by decide) ⟨Or.inr (by rw [hR2557] <;> rfl), rfl⟩

theorem own_ef_31 (m : MethodId) (x0 : Int32) (x1 : Int32) (x2 : Int32) : entryFrame m #[(.int x0), (.int x1), (.int x2)] 3 = mkF m 0 #[vi x0, vi x1, vi x2] [] := by rfl
theorem dl__0 : decode jdk_65_method_30_code 0 = .ok (.iload_n 1, 1) := by decide +kernel
theorem dl__1 : decode jdk_65_method_30_code 1 = .ok (.iload_n 2, 1) := by decide +kernel
theorem dl__2 : decode jdk_65_method_30_code 2 = .ok (.if_icmp .le 44, 3) := by decide +kernel
theorem dl__46 : decode jdk_65_method_30_code 46 = .ok (.iload_n 1, 1) := by decide +kernel
theorem dl__47 : decode jdk_65_method_30_code 47 = .ok (.ifCond .ge 12, 3) := by decide +kernel
theorem dl__59 : decode jdk_65_method_30_code 59 = .ok (.iload_n 2, 1) := by decide +kernel
theorem dl__60 : decode jdk_65_method_30_code 60 = .ok (.iload_n 0, 1) := by decide +kernel
theorem dl__61 : decode jdk_65_method_30_code 61 = .ok (.if_icmp .le 12, 3) := by decide +kernel
theorem dl__73 : decode jdk_65_method_30_code 73 = .ok (.return_, 1) := by decide +kernel
set_option maxRecDepth 65536 in
set_option maxHeartbeats 4000000 in
theorem own_rck_0 (l : Launch) (Z : State) (a0 : Array Value) (hw : ∀ d ∈ tables_1, d.before a0 Z = true) (h0 : Heap) (n0 : Nat) (O : Old Z n0 h0) :
   Con l Z n0 (⟨"java/util/Arrays", "rangeCheck", "(III)V"⟩ : MethodName) jdk_65_method_30_code 3 none [] ({ frames := 0, cells := 0, slots := 0, locals := 0 } : Room) #[(.int 8), (.int 0), (.int 0)] h0 [] (fun v h' => v = none ∧ h' = h0) := by
  refine Con.of a0 (plainFor_of_name own_pn_30) O (fun _ q => nomatch q) [] (fun _ q => nomatch q) ?_
  intro p e s m below meth cdX T S hby hml hret hnm
  have H := fun {k r} q => @hb _ _ hby k r q
  have W := @Tw a0 Z hw
  refine Go.cast (own_ef_31 m (8 : Int32) (0 : Int32) (0 : Int32)) ?_
  refine S.iloadN 1 (H dl__0) rfl (S.iloadN 2 (H dl__1) rfl (S.icmpY 46 (H dl__2) (qLeT (by decide)) (S.iloadN 47 (H dl__46) rfl (S.ifY 59 (H dl__47) (zGeT (by decide)) (S.iloadN 60 (H dl__59) rfl (S.iloadN 61 (H dl__60) rfl ?_))))))
  refine S.icmpY 73 (H dl__61) (qLeT (by decide)) ?_
  exact S.ret0 (H dl__73) hret (by decide) (by decide) ⟨rfl, rfl⟩

theorem own_ef_32 (m : MethodId) (x0 : Addr) (x1 : Int32) (x2 : Int32) (x3 : Int32) : entryFrame m #[(.ref x0), (.int x1), (.int x2), (.int x3)] 4 = mkF m 0 #[vr x0, vi x1, vi x2, vi x3] [] := by rfl
theorem dm__0 : decode jdk_65_method_58_code 0 = .ok (.aload_n 0, 1) := by decide +kernel
theorem dm__1 : decode jdk_65_method_58_code 1 = .ok (.arraylength, 1) := by decide +kernel
theorem dm__2 : decode jdk_65_method_58_code 2 = .ok (.iload_n 1, 1) := by decide +kernel
theorem dm__3 : decode jdk_65_method_58_code 3 = .ok (.iload_n 2, 1) := by decide +kernel
theorem dm__4 : decode jdk_65_method_58_code 4 = .ok (.invokestatic 13, 3) := by decide +kernel
theorem own_pd_33 : parseMethodDescriptor "(III)V" = some ⟨[.int, .int, .int], none⟩ := by decide +kernel
theorem dm__7 : decode jdk_65_method_58_code 7 = .ok (.aload_n 0, 1) := by decide +kernel
theorem dm__8 : decode jdk_65_method_58_code 8 = .ok (.iload_n 1, 1) := by decide +kernel
theorem dm__9 : decode jdk_65_method_58_code 9 = .ok (.iload_n 2, 1) := by decide +kernel
theorem dm__10 : decode jdk_65_method_58_code 10 = .ok (.iload_n 3, 1) := by decide +kernel
theorem dm__11 : decode jdk_65_method_58_code 11 = .ok (.invokestatic 209, 3) := by decide +kernel
theorem own_pd_34 : parseMethodDescriptor "([IIII)I" = some ⟨[(.array .int), .int, .int, .int], some .int⟩ := by decide +kernel
theorem dm__14 : decode jdk_65_method_58_code 14 = .ok (.ireturn, 1) := by decide +kernel
set_option maxRecDepth 65536 in
set_option maxHeartbeats 4000000 in
theorem own_bs_0 (l : Launch) (Z : State) (a0 : Array Value) (hw : ∀ d ∈ tables_1, d.before a0 Z = true) (h0 : Heap) (n0 : Nat) (O : Old Z n0 h0) (sa : Addr) (ks : ClassId) (pos : Int32) (AS : Arv Z h0 sa ks .int (8 : Int32) [(.int 0), (.int 0), (.int 0), (.int 0), (.int 0), (.int 0), (.int 0), (.int 0)] (.int 0)) :
   Con l Z n0 (⟨"java/util/Arrays", "binarySearch", "([IIII)I"⟩ : MethodName) jdk_65_method_58_code 4 (some .int) [] ({ frames := 1, cells := 0, slots := 0, locals := 20 } : Room) #[(.ref sa), (.int 0), (.int 0), (.int pos)] h0 [] (fun v h' => (v = some (.int (own_fi [] (0 : Int32) pos)) ∨ v = some (.int (-((own_fi [] (0 : Int32) pos) + 1)))) ∧ h' = h0) := by
  refine Con.of a0 (plainFor_of_name own_pn_30) O (fun _ q => nomatch q) [] (fun _ q => nomatch q) ?_
  intro p e s m below meth cdX T S hby hml hret hnm
  have H := fun {k r} q => @hb _ _ hby k r q
  have W := @Tw a0 Z hw
  refine Go.cast (own_ef_32 m sa (0 : Int32) (0 : Int32) pos) ?_
  refine S.aloadN 1 (H dm__0) rfl rfl (S.alen 2 (H dm__1) AS ?_)
  refine S.iloadN 3 (H dm__2) rfl (S.iloadN 4 (H dm__3) rfl (S.scall 7 (H dm__4) hml.symm (W 87 rfl) (W 88 rfl) (W 85 rfl) (W 89 rfl) (by decide) [(.int 8), (.int 0), (.int 0)] [] (Con.pay (W := 0) (own_rck_0 l Z a0 hw h0 n0 S.old) (W 89 rfl) (W 85 rfl) (by decide) (by decide)) (lenOf own_pd_33 rfl) rfl (Nle rfl) (by decide) (by decide) Wrs.nil ?_))
  intro v2558 T2559 h2560 L2561 S2562 q2563 K2564
  obtain ⟨rfl, e_q2563⟩ := q2563
  obtain rfl := e_q2563.symm
  show Go p e below _ T2559 (mkF m 7 #[vr sa, vi 0, vi 0, vi pos] [])
  refine S2562.aloadN 8 (H dm__7) rfl rfl (S2562.iloadN 9 (H dm__8) rfl (S2562.iloadN 10 (H dm__9) rfl (S2562.iloadN 11 (H dm__10) rfl (S2562.scall 14 (H dm__11) hml.symm (W 90 rfl) (W 91 rfl) (W 85 rfl) (W 92 rfl) (by decide) [(.ref sa), (.int 0), (.int 0), (.int pos)] [] (Con.pay (W := 0) (own_b0_0 l Z a0 hw h0 n0 S2562.old sa ks pos AS) (W 92 rfl) (W 85 rfl) (by decide) (by decide)) (lenOf own_pd_34 rfl) rfl (Nle rfl) (by decide) (by decide) Wrs.nil ?_))))
  intro v2565 T2566 h2567 L2568 S2569 q2570 K2571
  obtain ⟨hq_q2570, e_q2570⟩ := q2570
  obtain rfl := e_q2570.symm
  rcases hq_q2570 with rfl | rfl
  ·skip
   show Go p e below _ T2566 (mkF m 14 #[vr sa, vi 0, vi 0, vi pos] [(.int (own_fi [] (0 : Int32) pos))])
   exact S2569.retI (H dm__14) hret (by decide) (by decide) ⟨Or.inl rfl, rfl⟩
  ·skip
   show Go p e below _ T2566 (mkF m 14 #[vr sa, vi 0, vi 0, vi pos] [(.int (-((own_fi [] (0 : Int32) pos) + 1)))])
   exact S2569.retI (H dm__14) hret (by decide) (by decide) ⟨Or.inr rfl, rfl⟩

theorem own_ef_35 (m : MethodId) (x0 : Addr) (x1 : Int32) : entryFrame m #[(.ref x0), (.int x1)] 3 = mkF m 0 #[vr x0, vi x1, uN] [] := by rfl
theorem dt__0 : decode prog_29_method_6_code 0 = .ok (.aload_n 0, 1) := by decide +kernel
theorem dt__1 : decode prog_29_method_6_code 1 = .ok (.getfield 7, 3) := by decide +kernel
theorem dt__4 : decode prog_29_method_6_code 4 = .ok (.iconst 0, 1) := by decide +kernel
theorem dt__5 : decode prog_29_method_6_code 5 = .ok (.aload_n 0, 1) := by decide +kernel
theorem dt__6 : decode prog_29_method_6_code 6 = .ok (.getfield 52, 3) := by decide +kernel
theorem dt__9 : decode prog_29_method_6_code 9 = .ok (.iload_n 1, 1) := by decide +kernel
theorem dt__10 : decode prog_29_method_6_code 10 = .ok (.invokestatic 66, 3) := by decide +kernel
theorem dt__13 : decode prog_29_method_6_code 13 = .ok (.istore_n 2, 1) := by decide +kernel
theorem dt__14 : decode prog_29_method_6_code 14 = .ok (.iload_n 2, 1) := by decide +kernel
theorem dt__15 : decode prog_29_method_6_code 15 = .ok (.ifCond .lt 7, 3) := by decide +kernel
theorem dt__18 : decode prog_29_method_6_code 18 = .ok (.iload_n 2, 1) := by decide +kernel
theorem dt__19 : decode prog_29_method_6_code 19 = .ok (.goto 7, 3) := by decide +kernel
theorem dt__26 : decode prog_29_method_6_code 26 = .ok (.ireturn, 1) := by decide +kernel
theorem dt__22 : decode prog_29_method_6_code 22 = .ok (.iload_n 2, 1) := by decide +kernel
theorem dt__23 : decode prog_29_method_6_code 23 = .ok (.ineg, 1) := by decide +kernel
theorem dt__24 : decode prog_29_method_6_code 24 = .ok (.iconst 1, 1) := by decide +kernel
theorem dt__25 : decode prog_29_method_6_code 25 = .ok (.isub, 1) := by decide +kernel
set_option maxRecDepth 65536 in
set_option maxHeartbeats 4000000 in
theorem own_ff_0 (l : Launch) (Z : State) (a0 : Array Value) (hw : ∀ d ∈ tables_1, d.before a0 Z = true) (h0 : Heap) (n0 : Nat) (O : Old Z n0 h0) (o : Addr) (sa : Addr) (ea : Addr) (ks : ClassId) (ke : ClassId) (pos : Int32) (E : Exa Z h0 o "com/example/oref/oref/wikipedia/Matches") (FC : Fld Z h0 o "com/example/oref/oref/wikipedia/Matches" "count" "I" (.int 0)) (FS : Fld Z h0 o "com/example/oref/oref/wikipedia/Matches" "starts" "[I" (.ref sa)) (FE : Fld Z h0 o "com/example/oref/oref/wikipedia/Matches" "ends" "[I" (.ref ea)) (AS : Arv Z h0 sa ks .int (8 : Int32) [(.int 0), (.int 0), (.int 0), (.int 0), (.int 0), (.int 0), (.int 0), (.int 0)] (.int 0)) (AE : Arv Z h0 ea ke .int (8 : Int32) [(.int 0), (.int 0), (.int 0), (.int 0), (.int 0), (.int 0), (.int 0), (.int 0)] (.int 0)) :
   Con l Z n0 (⟨"com/example/oref/oref/wikipedia/Matches", "firstFrom", "(I)I"⟩ : MethodName) prog_29_method_6_code 3 (some .int) [] ({ frames := 2, cells := 0, slots := 0, locals := 40 } : Room) #[(.ref o), (.int pos)] h0 [] (fun v h' => v = some (.int (own_fi [] (0 : Int32) pos)) ∧ h' = h0) := by
  refine Con.of a0 (plainFor_of_name own_pn_24) O (fun _ q => nomatch q) [] (fun _ q => nomatch q) ?_
  intro p e s m below meth cdX T S hby hml hret hnm
  have H := fun {k r} q => @hb _ _ hby k r q
  have W := @Tw a0 Z hw
  refine Go.cast (own_ef_35 m o pos) ?_
  have hB : 0 ≤ (own_fi [] (0 : Int32) pos).toInt ∧ (own_fi [] (0 : Int32) pos).toInt ≤ 8 := own_fi_b ⟨by decide, by decide⟩ (by
    intro q hq
    exact nomatch hq)
  refine S.aloadN 1 (H dt__0) rfl rfl (S.getf (host := "") 4 (H dt__1) (Or.inl (W 43 rfl)) Via.refl FS ?_)
  intro T2572 S2573
  refine S2573.iconst 5 (0 : Int32) (H dt__4) (S2573.aloadN 6 (H dt__5) rfl rfl (S2573.getf (host := "") 9 (H dt__6) (Or.inl (W 81 rfl)) Via.refl FC ?_))
  intro T2574 S2575
  refine S2575.iloadN 10 (H dt__9) rfl (S2575.scall 13 (H dt__10) hml.symm (W 83 rfl) (W 84 rfl) (W 85 rfl) (W 86 rfl) (by decide) [(.ref sa), (.int 0), (.int 0), (.int pos)] [] (Con.pay (W := 0) (own_bs_0 l Z a0 hw h0 n0 S2575.old sa ks pos AS) (W 86 rfl) (W 85 rfl) (by decide) (by decide)) (lenOf own_pd_34 rfl) rfl (Nle rfl) (by decide) (by decide) Wrs.nil ?_)
  intro v2576 T2577 h2578 L2579 S2580 q2581 K2582
  obtain ⟨hq_q2581, e_q2581⟩ := q2581
  obtain rfl := e_q2581.symm
  rcases hq_q2581 with rfl | rfl
  ·skip
   show Go p e below _ T2577 (mkF m 13 #[vr o, vi pos, uN] [(.int (own_fi [] (0 : Int32) pos))])
   refine S2580.istoreN 14 #[vr o, vi pos, vi (own_fi [] (0 : Int32) pos)] (H dt__13) rfl (S2580.iloadN 15 (H dt__14) rfl (S2580.ifN 18 (H dt__15) (zLtF (own_nn hB)) (S2580.iloadN 19 (H dt__18) rfl (S2580.goto 26 (H dt__19) ?_))))
   exact S2580.retI (H dt__26) hret (by decide) (by decide) ⟨rfl, rfl⟩
  ·skip
   show Go p e below _ T2577 (mkF m 13 #[vr o, vi pos, uN] [(.int (-((own_fi [] (0 : Int32) pos) + 1)))])
   refine S2580.istoreN 14 #[vr o, vi pos, .val (.int (-((own_fi [] (0 : Int32) pos) + 1)))] (H dt__13) rfl (S2580.iloadN 15 (H dt__14) rfl (S2580.ifY 22 (H dt__15) (zLtT (own_ng hB)) (S2580.iloadN 23 (H dt__22) rfl (S2580.ineg 24 (H dt__23) ?_))))
   refine S2580.iconst 25 (1 : Int32) (H dt__24) (S2580.isub 26 (H dt__25) ?_)
   show Go p e below _ T2577 (mkF m 26 #[vr o, vi pos, .val (.int (-((own_fi [] (0 : Int32) pos) + 1)))] [(.int ((-(-((own_fi [] (0 : Int32) pos) + 1))) - (1 : Int32)))])
   rw [own_bk]
   exact S2580.retI (H dt__26) hret (by decide) (by decide) ⟨rfl, rfl⟩

theorem ds__0 : decode prog_29_method_5_code 0 = .ok (.aload_n 0, 1) := by decide +kernel
theorem ds__1 : decode prog_29_method_5_code 1 = .ok (.iload_n 1, 1) := by decide +kernel
theorem ds__2 : decode prog_29_method_5_code 2 = .ok (.invokevirtual 62, 3) := by decide +kernel
theorem own_pd_36 : parseMethodDescriptor "(I)I" = some ⟨[.int], some .int⟩ := by decide +kernel
theorem ds__5 : decode prog_29_method_5_code 5 = .ok (.istore_n 2, 1) := by decide +kernel
theorem ds__6 : decode prog_29_method_5_code 6 = .ok (.iload_n 2, 1) := by decide +kernel
theorem ds__7 : decode prog_29_method_5_code 7 = .ok (.aload_n 0, 1) := by decide +kernel
theorem ds__8 : decode prog_29_method_5_code 8 = .ok (.getfield 52, 3) := by decide +kernel
theorem ds__11 : decode prog_29_method_5_code 11 = .ok (.if_icmp .ge 12, 3) := by decide +kernel
theorem ds__23 : decode prog_29_method_5_code 23 = .ok (.iconst (-1), 1) := by decide +kernel
theorem ds__24 : decode prog_29_method_5_code 24 = .ok (.ireturn, 1) := by decide +kernel
set_option maxRecDepth 65536 in
set_option maxHeartbeats 4000000 in
theorem own_eff_0 (l : Launch) (Z : State) (a0 : Array Value) (hw : ∀ d ∈ tables_1, d.before a0 Z = true) (h0 : Heap) (n0 : Nat) (O : Old Z n0 h0) (o : Addr) (sa : Addr) (ea : Addr) (ks : ClassId) (ke : ClassId) (pos : Int32) (E : Exa Z h0 o "com/example/oref/oref/wikipedia/Matches") (FC : Fld Z h0 o "com/example/oref/oref/wikipedia/Matches" "count" "I" (.int 0)) (FS : Fld Z h0 o "com/example/oref/oref/wikipedia/Matches" "starts" "[I" (.ref sa)) (FE : Fld Z h0 o "com/example/oref/oref/wikipedia/Matches" "ends" "[I" (.ref ea)) (AS : Arv Z h0 sa ks .int (8 : Int32) [(.int 0), (.int 0), (.int 0), (.int 0), (.int 0), (.int 0), (.int 0), (.int 0)] (.int 0)) (AE : Arv Z h0 ea ke .int (8 : Int32) [(.int 0), (.int 0), (.int 0), (.int 0), (.int 0), (.int 0), (.int 0), (.int 0)] (.int 0)) :
   Con l Z n0 (⟨"com/example/oref/oref/wikipedia/Matches", "endFrom", "(I)I"⟩ : MethodName) prog_29_method_5_code 3 (some .int) [] ({ frames := 3, cells := 0, slots := 0, locals := 60 } : Room) #[(.ref o), (.int pos)] h0 [] (fun v h' => v = some (.int (own_end [] pos)) ∧ h' = h0) := by
  refine Con.of a0 (plainFor_of_name own_pn_24) O (fun _ q => nomatch q) [] (fun _ q => nomatch q) ?_
  intro p e s m below meth cdX T S hby hml hret hnm
  have H := fun {k r} q => @hb _ _ hby k r q
  have W := @Tw a0 Z hw
  refine Go.cast (own_ef_35 m o pos) ?_
  refine S.aloadN 1 (H ds__0) rfl rfl (S.iloadN 2 (H ds__1) rfl (S.pcall 5 (H ds__2) hml.symm (W 77 rfl) (W 78 rfl) (W 79 rfl) (W 80 rfl) (W 75 rfl) rfl (by decide) E [(.int pos)] [] (Con.pay (W := 0) (own_ff_0 l Z a0 hw h0 n0 S.old o sa ea ks ke pos E FC FS FE AS AE) (W 80 rfl) (W 37 rfl) (by decide) (by decide)) (lenOf own_pd_36 rfl) rfl (Nle rfl) (by decide) (by decide) Wrs.nil ?_))
  intro v2583 T2584 h2585 L2586 S2587 q2588 K2589
  obtain ⟨rfl, e_q2588⟩ := q2588
  obtain rfl := e_q2588.symm
  show Go p e below _ T2584 (mkF m 5 #[vr o, vi pos, uN] [(.int (own_fi [] (0 : Int32) pos))])
  have hR2590 : (own_fi [] (0 : Int32) pos) = (0 : Int32) := by rfl
  rw [hR2590]
  show Go p e below _ T2584 (mkF m 5 #[vr o, vi pos, uN] [(.int 0)])
  refine S2587.istoreN 6 #[vr o, vi pos, vi 0] (H ds__5) rfl (S2587.iloadN 7 (H ds__6) rfl (S2587.aloadN 8 (H ds__7) rfl rfl (S2587.getf (host := "") 11 (H ds__8) (Or.inl (W 81 rfl)) Via.refl FC ?_)))
  intro T2591 S2592
  refine S2592.icmpY 23 (H ds__11) (qGeT (by decide)) (S2592.iconst 24 (-1 : Int32) (H ds__23) ?_)
  exact S2592.retI (H ds__24) hret (by decide) (by decide) ⟨rfl, rfl⟩

theorem dn__15 : decode jdk_65_method_59_code 15 = .ok (.iload 4, 2) := by decide +kernel
theorem dn__17 : decode jdk_65_method_59_code 17 = .ok (.iload 5, 2) := by decide +kernel
theorem dn__19 : decode jdk_65_method_59_code 19 = .ok (.iadd, 1) := by decide +kernel
theorem dn__20 : decode jdk_65_method_59_code 20 = .ok (.iconst 1, 1) := by decide +kernel
theorem dn__21 : decode jdk_65_method_59_code 21 = .ok (.iushr, 1) := by decide +kernel
theorem dn__22 : decode jdk_65_method_59_code 22 = .ok (.istore 6, 2) := by decide +kernel
theorem dn__24 : decode jdk_65_method_59_code 24 = .ok (.aload_n 0, 1) := by decide +kernel
theorem dn__25 : decode jdk_65_method_59_code 25 = .ok (.iload 6, 2) := by decide +kernel
theorem dn__27 : decode jdk_65_method_59_code 27 = .ok (.iaload, 1) := by decide +kernel
theorem dn__28 : decode jdk_65_method_59_code 28 = .ok (.istore 7, 2) := by decide +kernel
theorem dn__30 : decode jdk_65_method_59_code 30 = .ok (.iload 7, 2) := by decide +kernel
theorem dn__32 : decode jdk_65_method_59_code 32 = .ok (.iload_n 3, 1) := by decide +kernel
theorem dn__33 : decode jdk_65_method_59_code 33 = .ok (.if_icmp .ge 12, 3) := by decide +kernel
theorem dn__36 : decode jdk_65_method_59_code 36 = .ok (.iload 6, 2) := by decide +kernel
theorem dn__38 : decode jdk_65_method_59_code 38 = .ok (.iconst 1, 1) := by decide +kernel
theorem dn__39 : decode jdk_65_method_59_code 39 = .ok (.iadd, 1) := by decide +kernel
theorem dn__40 : decode jdk_65_method_59_code 40 = .ok (.istore 4, 2) := by decide +kernel
theorem dn__42 : decode jdk_65_method_59_code 42 = .ok (.goto 21, 3) := by decide +kernel
theorem dn__63 : decode jdk_65_method_59_code 63 = .ok (.goto (-55), 3) := by decide +kernel
theorem dn__45 : decode jdk_65_method_59_code 45 = .ok (.iload 7, 2) := by decide +kernel
theorem dn__47 : decode jdk_65_method_59_code 47 = .ok (.iload_n 3, 1) := by decide +kernel
theorem dn__48 : decode jdk_65_method_59_code 48 = .ok (.if_icmp .le 12, 3) := by decide +kernel
theorem dn__51 : decode jdk_65_method_59_code 51 = .ok (.iload 6, 2) := by decide +kernel
theorem dn__53 : decode jdk_65_method_59_code 53 = .ok (.iconst 1, 1) := by decide +kernel
theorem dn__54 : decode jdk_65_method_59_code 54 = .ok (.isub, 1) := by decide +kernel
theorem dn__55 : decode jdk_65_method_59_code 55 = .ok (.istore 5, 2) := by decide +kernel
theorem dn__57 : decode jdk_65_method_59_code 57 = .ok (.goto 6, 3) := by decide +kernel
theorem dn__60 : decode jdk_65_method_59_code 60 = .ok (.iload 6, 2) := by decide +kernel
theorem dn__62 : decode jdk_65_method_59_code 62 = .ok (.ireturn, 1) := by decide +kernel
set_option maxRecDepth 65536 in
set_option maxHeartbeats 4000000 in
theorem own_b0_1 (l : Launch) (Z : State) (a0 : Array Value) (hw : ∀ d ∈ tables_1, d.before a0 Z = true) (h0 : Heap) (n0 : Nat) (O : Old Z n0 h0) (sa : Addr) (ks : ClassId) (s0 : Int32) (pos : Int32) (AS : Arv Z h0 sa ks .int (8 : Int32) [(.int s0), (.int 0), (.int 0), (.int 0), (.int 0), (.int 0), (.int 0), (.int 0)] (.int 0)) :
   Con l Z n0 (⟨"java/util/Arrays", "binarySearch0", "([IIII)I"⟩ : MethodName) jdk_65_method_59_code 8 (some .int) [] ({ frames := 0, cells := 0, slots := 0, locals := 0 } : Room) #[(.ref sa), (.int 0), (.int 1), (.int pos)] h0 [] (fun v h' => (v = some (.int (own_fi [(s0, 0)] (1 : Int32) pos)) ∨ v = some (.int (-((own_fi [(s0, 0)] (1 : Int32) pos) + 1)))) ∧ h' = h0) := by
  refine Con.of a0 (plainFor_of_name own_pn_30) O (fun _ q => nomatch q) [] (fun _ q => nomatch q) ?_
  intro p e s m below meth cdX T S hby hml hret hnm
  have H := fun {k r} q => @hb _ _ hby k r q
  have W := @Tw a0 Z hw
  refine Go.cast (own_ef_29 m sa (0 : Int32) (1 : Int32) pos) ?_
  refine S.iloadN 1 (H dn__0) rfl (S.istore 3 #[vr sa, vi 0, vi 1, vi pos, vi 0, uN, uN, uN] (H dn__1) rfl (S.iloadN 4 (H dn__3) rfl (S.iconst 5 (1 : Int32) (H dn__4) (S.isub 6 (H dn__5) ?_))))
  rw [show (1 - 1 : Int32) = 0 from by decide]
  refine S.istore 8 #[vr sa, vi 0, vi 1, vi pos, vi 0, vi 0, uN, uN] (H dn__6) rfl (S.iload 10 (H dn__8) rfl (S.iload 12 (H dn__10) rfl (S.icmpN 15 (H dn__12) (qGtF (by decide)) (S.iload 17 (H dn__15) rfl (S.iload 19 (H dn__17) rfl (S.iadd 20 (H dn__19) ?_))))))
  rw [show (0 + 0 : Int32) = 0 from by decide]
  refine S.iconst 21 (1 : Int32) (H dn__20) (S.iushr 22 (H dn__21) ?_)
  rw [show (((0 : Int32).toUInt32 >>> ((1 : Int32) &&& 31).toUInt32).toInt32) = (0 : Int32) from by decide]
  refine S.istore 24 #[vr sa, vi 0, vi 1, vi pos, vi 0, vi 0, vi 0, uN] (H dn__22) rfl (S.aloadN 25 (H dn__24) rfl rfl (S.iload 27 (H dn__25) rfl (S.iaload (v := .int s0) 28 (H dn__27) AS ⟨by decide, by decide⟩ rfl ?_)))
  refine S.istore 30 #[vr sa, vi 0, vi 1, vi pos, vi 0, vi 0, vi 0, vi s0] (H dn__28) rfl (S.iload 32 (H dn__30) rfl (S.iloadN 33 (H dn__32) rfl ?_))
  by_cases hb2593 : s0 < pos
  ·skip
   refine S.icmpN 36 (H dn__33) (qGeF hb2593) (S.iload 38 (H dn__36) rfl (S.iconst 39 (1 : Int32) (H dn__38) (S.iadd 40 (H dn__39) ?_)))
   rw [show (0 + 1 : Int32) = 1 from by decide]
   refine S.istore 42 #[vr sa, vi 0, vi 1, vi pos, vi 1, vi 0, vi 0, vi s0] (H dn__40) rfl (S.goto 63 (H dn__42) (S.goto 8 (H dn__63) (S.iload 10 (H dn__8) rfl (S.iload 12 (H dn__10) rfl (S.icmpY 66 (H dn__12) (qGtT (by decide)) (S.iload 68 (H dn__66) rfl ?_))))))
   refine S.iconst 69 (1 : Int32) (H dn__68) (S.iadd 70 (H dn__69) ?_)
   rw [show (1 + 1 : Int32) = 2 from by decide]
   refine S.ineg 71 (H dn__70) ?_
   have hR2594 : (own_fi [(s0, 0)] (1 : Int32) pos) = (1 : Int32) := by simp only [own_fi]; rw [if_pos hb2593]
   exact S.retI (H dn__71) hret (by decide) (by decide) ⟨Or.inr (by rw [hR2594] <;> rfl), rfl⟩
  ·skip
   refine S.icmpY 45 (H dn__33) (qGeT hb2593) (S.iload 47 (H dn__45) rfl (S.iloadN 48 (H dn__47) rfl ?_))
   by_cases hb2595 : pos < s0
   ·skip
    refine S.icmpN 51 (H dn__48) (qLeF hb2595) (S.iload 53 (H dn__51) rfl (S.iconst 54 (1 : Int32) (H dn__53) (S.isub 55 (H dn__54) ?_)))
    rw [show (0 - 1 : Int32) = -1 from by decide]
    refine S.istore 57 #[vr sa, vi 0, vi 1, vi pos, vi 0, vi (-1), vi 0, vi s0] (H dn__55) rfl (S.goto 63 (H dn__57) (S.goto 8 (H dn__63) (S.iload 10 (H dn__8) rfl (S.iload 12 (H dn__10) rfl (S.icmpY 66 (H dn__12) (qGtT (by decide)) (S.iload 68 (H dn__66) rfl ?_))))))
    refine S.iconst 69 (1 : Int32) (H dn__68) (S.iadd 70 (H dn__69) ?_)
    rw [show (0 + 1 : Int32) = 1 from by decide]
    refine S.ineg 71 (H dn__70) ?_
    have hR2596 : (own_fi [(s0, 0)] (1 : Int32) pos) = (0 : Int32) := by simp only [own_fi]; rw [if_neg hb2593]
    exact S.retI (H dn__71) hret (by decide) (by decide) ⟨Or.inr (by rw [hR2596] <;> rfl), rfl⟩
   ·skip
    refine S.icmpY 60 (H dn__48) (qLeT hb2595) (S.iload 62 (H dn__60) rfl ?_)
    have hR2597 : (own_fi [(s0, 0)] (1 : Int32) pos) = (0 : Int32) := by simp only [own_fi]; rw [if_neg hb2593]
    exact S.retI (H dn__62) hret (by decide) (by decide) ⟨Or.inl (by rw [hR2597] <;> rfl), rfl⟩


set_option maxRecDepth 65536 in
set_option maxHeartbeats 4000000 in
theorem own_rck_1 (l : Launch) (Z : State) (a0 : Array Value) (hw : ∀ d ∈ tables_1, d.before a0 Z = true) (h0 : Heap) (n0 : Nat) (O : Old Z n0 h0) :
   Con l Z n0 (⟨"java/util/Arrays", "rangeCheck", "(III)V"⟩ : MethodName) jdk_65_method_30_code 3 none [] ({ frames := 0, cells := 0, slots := 0, locals := 0 } : Room) #[(.int 8), (.int 0), (.int 1)] h0 [] (fun v h' => v = none ∧ h' = h0) := by
  refine Con.of a0 (plainFor_of_name own_pn_30) O (fun _ q => nomatch q) [] (fun _ q => nomatch q) ?_
  intro p e s m below meth cdX T S hby hml hret hnm
  have H := fun {k r} q => @hb _ _ hby k r q
  have W := @Tw a0 Z hw
  refine Go.cast (own_ef_31 m (8 : Int32) (0 : Int32) (1 : Int32)) ?_
  refine S.iloadN 1 (H dl__0) rfl (S.iloadN 2 (H dl__1) rfl (S.icmpY 46 (H dl__2) (qLeT (by decide)) (S.iloadN 47 (H dl__46) rfl (S.ifY 59 (H dl__47) (zGeT (by decide)) (S.iloadN 60 (H dl__59) rfl (S.iloadN 61 (H dl__60) rfl ?_))))))
  refine S.icmpY 73 (H dl__61) (qLeT (by decide)) ?_
  exact S.ret0 (H dl__73) hret (by decide) (by decide) ⟨rfl, rfl⟩


set_option maxRecDepth 65536 in
set_option maxHeartbeats 4000000 in
theorem own_bs_1 (l : Launch) (Z : State) (a0 : Array Value) (hw : ∀ d ∈ tables_1, d.before a0 Z = true) (h0 : Heap) (n0 : Nat) (O : Old Z n0 h0) (sa : Addr) (ks : ClassId) (s0 : Int32) (pos : Int32) (AS : Arv Z h0 sa ks .int (8 : Int32) [(.int s0), (.int 0), (.int 0), (.int 0), (.int 0), (.int 0), (.int 0), (.int 0)] (.int 0)) :
   Con l Z n0 (⟨"java/util/Arrays", "binarySearch", "([IIII)I"⟩ : MethodName) jdk_65_method_58_code 4 (some .int) [] ({ frames := 1, cells := 0, slots := 0, locals := 20 } : Room) #[(.ref sa), (.int 0), (.int 1), (.int pos)] h0 [] (fun v h' => (v = some (.int (own_fi [(s0, 0)] (1 : Int32) pos)) ∨ v = some (.int (-((own_fi [(s0, 0)] (1 : Int32) pos) + 1)))) ∧ h' = h0) := by
  refine Con.of a0 (plainFor_of_name own_pn_30) O (fun _ q => nomatch q) [] (fun _ q => nomatch q) ?_
  intro p e s m below meth cdX T S hby hml hret hnm
  have H := fun {k r} q => @hb _ _ hby k r q
  have W := @Tw a0 Z hw
  refine Go.cast (own_ef_32 m sa (0 : Int32) (1 : Int32) pos) ?_
  refine S.aloadN 1 (H dm__0) rfl rfl (S.alen 2 (H dm__1) AS ?_)
  refine S.iloadN 3 (H dm__2) rfl (S.iloadN 4 (H dm__3) rfl (S.scall 7 (H dm__4) hml.symm (W 87 rfl) (W 88 rfl) (W 85 rfl) (W 89 rfl) (by decide) [(.int 8), (.int 0), (.int 1)] [] (Con.pay (W := 0) (own_rck_1 l Z a0 hw h0 n0 S.old) (W 89 rfl) (W 85 rfl) (by decide) (by decide)) (lenOf own_pd_33 rfl) rfl (Nle rfl) (by decide) (by decide) Wrs.nil ?_))
  intro v2598 T2599 h2600 L2601 S2602 q2603 K2604
  obtain ⟨rfl, e_q2603⟩ := q2603
  obtain rfl := e_q2603.symm
  show Go p e below _ T2599 (mkF m 7 #[vr sa, vi 0, vi 1, vi pos] [])
  refine S2602.aloadN 8 (H dm__7) rfl rfl (S2602.iloadN 9 (H dm__8) rfl (S2602.iloadN 10 (H dm__9) rfl (S2602.iloadN 11 (H dm__10) rfl (S2602.scall 14 (H dm__11) hml.symm (W 90 rfl) (W 91 rfl) (W 85 rfl) (W 92 rfl) (by decide) [(.ref sa), (.int 0), (.int 1), (.int pos)] [] (Con.pay (W := 0) (own_b0_1 l Z a0 hw h0 n0 S2602.old sa ks s0 pos AS) (W 92 rfl) (W 85 rfl) (by decide) (by decide)) (lenOf own_pd_34 rfl) rfl (Nle rfl) (by decide) (by decide) Wrs.nil ?_))))
  intro v2605 T2606 h2607 L2608 S2609 q2610 K2611
  obtain ⟨hq_q2610, e_q2610⟩ := q2610
  obtain rfl := e_q2610.symm
  rcases hq_q2610 with rfl | rfl
  ·skip
   show Go p e below _ T2606 (mkF m 14 #[vr sa, vi 0, vi 1, vi pos] [(.int (own_fi [(s0, 0)] (1 : Int32) pos))])
   exact S2609.retI (H dm__14) hret (by decide) (by decide) ⟨Or.inl rfl, rfl⟩
  ·skip
   show Go p e below _ T2606 (mkF m 14 #[vr sa, vi 0, vi 1, vi pos] [(.int (-((own_fi [(s0, 0)] (1 : Int32) pos) + 1)))])
   exact S2609.retI (H dm__14) hret (by decide) (by decide) ⟨Or.inr rfl, rfl⟩


set_option maxRecDepth 65536 in
set_option maxHeartbeats 4000000 in
theorem own_ff_1 (l : Launch) (Z : State) (a0 : Array Value) (hw : ∀ d ∈ tables_1, d.before a0 Z = true) (h0 : Heap) (n0 : Nat) (O : Old Z n0 h0) (o : Addr) (sa : Addr) (ea : Addr) (ks : ClassId) (ke : ClassId) (s0 : Int32) (u0 : Int32) (pos : Int32) (E : Exa Z h0 o "com/example/oref/oref/wikipedia/Matches") (FC : Fld Z h0 o "com/example/oref/oref/wikipedia/Matches" "count" "I" (.int 1)) (FS : Fld Z h0 o "com/example/oref/oref/wikipedia/Matches" "starts" "[I" (.ref sa)) (FE : Fld Z h0 o "com/example/oref/oref/wikipedia/Matches" "ends" "[I" (.ref ea)) (AS : Arv Z h0 sa ks .int (8 : Int32) [(.int s0), (.int 0), (.int 0), (.int 0), (.int 0), (.int 0), (.int 0), (.int 0)] (.int 0)) (AE : Arv Z h0 ea ke .int (8 : Int32) [(.int u0), (.int 0), (.int 0), (.int 0), (.int 0), (.int 0), (.int 0), (.int 0)] (.int 0)) :
   Con l Z n0 (⟨"com/example/oref/oref/wikipedia/Matches", "firstFrom", "(I)I"⟩ : MethodName) prog_29_method_6_code 3 (some .int) [] ({ frames := 2, cells := 0, slots := 0, locals := 40 } : Room) #[(.ref o), (.int pos)] h0 [] (fun v h' => v = some (.int (own_fi [(s0, 0)] (1 : Int32) pos)) ∧ h' = h0) := by
  refine Con.of a0 (plainFor_of_name own_pn_24) O (fun _ q => nomatch q) [] (fun _ q => nomatch q) ?_
  intro p e s m below meth cdX T S hby hml hret hnm
  have H := fun {k r} q => @hb _ _ hby k r q
  have W := @Tw a0 Z hw
  refine Go.cast (own_ef_35 m o pos) ?_
  have hB : 0 ≤ (own_fi [(s0, 0)] (1 : Int32) pos).toInt ∧ (own_fi [(s0, 0)] (1 : Int32) pos).toInt ≤ 8 := own_fi_b ⟨by decide, by decide⟩ (by
    intro q hq
    simp only [List.mem_cons, List.not_mem_nil, or_false] at hq
    rcases hq with rfl <;> exact ⟨by dsimp only; decide, by dsimp only; decide⟩)
  refine S.aloadN 1 (H dt__0) rfl rfl (S.getf (host := "") 4 (H dt__1) (Or.inl (W 43 rfl)) Via.refl FS ?_)
  intro T2612 S2613
  refine S2613.iconst 5 (0 : Int32) (H dt__4) (S2613.aloadN 6 (H dt__5) rfl rfl (S2613.getf (host := "") 9 (H dt__6) (Or.inl (W 81 rfl)) Via.refl FC ?_))
  intro T2614 S2615
  refine S2615.iloadN 10 (H dt__9) rfl (S2615.scall 13 (H dt__10) hml.symm (W 83 rfl) (W 84 rfl) (W 85 rfl) (W 86 rfl) (by decide) [(.ref sa), (.int 0), (.int 1), (.int pos)] [] (Con.pay (W := 0) (own_bs_1 l Z a0 hw h0 n0 S2615.old sa ks s0 pos AS) (W 86 rfl) (W 85 rfl) (by decide) (by decide)) (lenOf own_pd_34 rfl) rfl (Nle rfl) (by decide) (by decide) Wrs.nil ?_)
  intro v2616 T2617 h2618 L2619 S2620 q2621 K2622
  obtain ⟨hq_q2621, e_q2621⟩ := q2621
  obtain rfl := e_q2621.symm
  rcases hq_q2621 with rfl | rfl
  ·skip
   show Go p e below _ T2617 (mkF m 13 #[vr o, vi pos, uN] [(.int (own_fi [(s0, 0)] (1 : Int32) pos))])
   refine S2620.istoreN 14 #[vr o, vi pos, vi (own_fi [(s0, 0)] (1 : Int32) pos)] (H dt__13) rfl (S2620.iloadN 15 (H dt__14) rfl (S2620.ifN 18 (H dt__15) (zLtF (own_nn hB)) (S2620.iloadN 19 (H dt__18) rfl (S2620.goto 26 (H dt__19) ?_))))
   exact S2620.retI (H dt__26) hret (by decide) (by decide) ⟨rfl, rfl⟩
  ·skip
   show Go p e below _ T2617 (mkF m 13 #[vr o, vi pos, uN] [(.int (-((own_fi [(s0, 0)] (1 : Int32) pos) + 1)))])
   refine S2620.istoreN 14 #[vr o, vi pos, .val (.int (-((own_fi [(s0, 0)] (1 : Int32) pos) + 1)))] (H dt__13) rfl (S2620.iloadN 15 (H dt__14) rfl (S2620.ifY 22 (H dt__15) (zLtT (own_ng hB)) (S2620.iloadN 23 (H dt__22) rfl (S2620.ineg 24 (H dt__23) ?_))))
   refine S2620.iconst 25 (1 : Int32) (H dt__24) (S2620.isub 26 (H dt__25) ?_)
   show Go p e below _ T2617 (mkF m 26 #[vr o, vi pos, .val (.int (-((own_fi [(s0, 0)] (1 : Int32) pos) + 1)))] [(.int ((-(-((own_fi [(s0, 0)] (1 : Int32) pos) + 1))) - (1 : Int32)))])
   rw [own_bk]
   exact S2620.retI (H dt__26) hret (by decide) (by decide) ⟨rfl, rfl⟩

theorem ds__14 : decode prog_29_method_5_code 14 = .ok (.aload_n 0, 1) := by decide +kernel
theorem ds__15 : decode prog_29_method_5_code 15 = .ok (.getfield 13, 3) := by decide +kernel
theorem ds__18 : decode prog_29_method_5_code 18 = .ok (.iload_n 2, 1) := by decide +kernel
theorem ds__19 : decode prog_29_method_5_code 19 = .ok (.iaload, 1) := by decide +kernel
theorem ds__20 : decode prog_29_method_5_code 20 = .ok (.goto 4, 3) := by decide +kernel
set_option maxRecDepth 65536 in
set_option maxHeartbeats 4000000 in
theorem own_eff_1 (l : Launch) (Z : State) (a0 : Array Value) (hw : ∀ d ∈ tables_1, d.before a0 Z = true) (h0 : Heap) (n0 : Nat) (O : Old Z n0 h0) (o : Addr) (sa : Addr) (ea : Addr) (ks : ClassId) (ke : ClassId) (s0 : Int32) (u0 : Int32) (pos : Int32) (E : Exa Z h0 o "com/example/oref/oref/wikipedia/Matches") (FC : Fld Z h0 o "com/example/oref/oref/wikipedia/Matches" "count" "I" (.int 1)) (FS : Fld Z h0 o "com/example/oref/oref/wikipedia/Matches" "starts" "[I" (.ref sa)) (FE : Fld Z h0 o "com/example/oref/oref/wikipedia/Matches" "ends" "[I" (.ref ea)) (AS : Arv Z h0 sa ks .int (8 : Int32) [(.int s0), (.int 0), (.int 0), (.int 0), (.int 0), (.int 0), (.int 0), (.int 0)] (.int 0)) (AE : Arv Z h0 ea ke .int (8 : Int32) [(.int u0), (.int 0), (.int 0), (.int 0), (.int 0), (.int 0), (.int 0), (.int 0)] (.int 0)) :
   Con l Z n0 (⟨"com/example/oref/oref/wikipedia/Matches", "endFrom", "(I)I"⟩ : MethodName) prog_29_method_5_code 3 (some .int) [] ({ frames := 3, cells := 0, slots := 0, locals := 60 } : Room) #[(.ref o), (.int pos)] h0 [] (fun v h' => v = some (.int (own_end [(s0, u0)] pos)) ∧ h' = h0) := by
  refine Con.of a0 (plainFor_of_name own_pn_24) O (fun _ q => nomatch q) [] (fun _ q => nomatch q) ?_
  intro p e s m below meth cdX T S hby hml hret hnm
  have H := fun {k r} q => @hb _ _ hby k r q
  have W := @Tw a0 Z hw
  refine Go.cast (own_ef_35 m o pos) ?_
  refine S.aloadN 1 (H ds__0) rfl rfl (S.iloadN 2 (H ds__1) rfl (S.pcall 5 (H ds__2) hml.symm (W 77 rfl) (W 78 rfl) (W 79 rfl) (W 80 rfl) (W 75 rfl) rfl (by decide) E [(.int pos)] [] (Con.pay (W := 0) (own_ff_1 l Z a0 hw h0 n0 S.old o sa ea ks ke s0 u0 pos E FC FS FE AS AE) (W 80 rfl) (W 37 rfl) (by decide) (by decide)) (lenOf own_pd_36 rfl) rfl (Nle rfl) (by decide) (by decide) Wrs.nil ?_))
  intro v2623 T2624 h2625 L2626 S2627 q2628 K2629
  obtain ⟨rfl, e_q2628⟩ := q2628
  obtain rfl := e_q2628.symm
  show Go p e below _ T2624 (mkF m 5 #[vr o, vi pos, uN] [(.int (own_fi [(s0, 0)] (1 : Int32) pos))])
  by_cases fz2630 : s0 < pos
  ·skip
   have hR2631 : (own_fi [(s0, 0)] (1 : Int32) pos) = (1 : Int32) := by simp only [own_fi]; rw [if_pos fz2630]
   rw [hR2631]
   show Go p e below _ T2624 (mkF m 5 #[vr o, vi pos, uN] [(.int 1)])
   refine S2627.istoreN 6 #[vr o, vi pos, vi 1] (H ds__5) rfl (S2627.iloadN 7 (H ds__6) rfl (S2627.aloadN 8 (H ds__7) rfl rfl (S2627.getf (host := "") 11 (H ds__8) (Or.inl (W 81 rfl)) Via.refl FC ?_)))
   intro T2632 S2633
   refine S2633.icmpY 23 (H ds__11) (qGeT (by decide)) (S2633.iconst 24 (-1 : Int32) (H ds__23) ?_)
   exact S2633.retI (H ds__24) hret (by decide) (by decide) ⟨by simp only [own_end]; rw [if_pos fz2630], rfl⟩
  ·skip
   have hR2634 : (own_fi [(s0, 0)] (1 : Int32) pos) = (0 : Int32) := by simp only [own_fi]; rw [if_neg fz2630]
   rw [hR2634]
   show Go p e below _ T2624 (mkF m 5 #[vr o, vi pos, uN] [(.int 0)])
   refine S2627.istoreN 6 #[vr o, vi pos, vi 0] (H ds__5) rfl (S2627.iloadN 7 (H ds__6) rfl (S2627.aloadN 8 (H ds__7) rfl rfl (S2627.getf (host := "") 11 (H ds__8) (Or.inl (W 81 rfl)) Via.refl FC ?_)))
   intro T2635 S2636
   refine S2636.icmpN 14 (H ds__11) (qGeF (by decide)) (S2636.aloadN 15 (H ds__14) rfl rfl (S2636.getf (host := "") 18 (H ds__15) (Or.inl (W 45 rfl)) Via.refl FE ?_))
   intro T2637 S2638
   refine S2638.iloadN 19 (H ds__18) rfl (S2638.iaload (v := .int u0) 20 (H ds__19) AE ⟨by decide, by decide⟩ rfl ?_)
   refine S2638.goto 24 (H ds__20) ?_
   exact S2638.retI (H ds__24) hret (by decide) (by decide) ⟨by simp only [own_end]; rw [if_neg fz2630], rfl⟩


set_option maxRecDepth 65536 in
set_option maxHeartbeats 4000000 in
theorem own_b0_2 (l : Launch) (Z : State) (a0 : Array Value) (hw : ∀ d ∈ tables_1, d.before a0 Z = true) (h0 : Heap) (n0 : Nat) (O : Old Z n0 h0) (sa : Addr) (ks : ClassId) (s0 : Int32) (s1 : Int32) (pos : Int32) (AS : Arv Z h0 sa ks .int (8 : Int32) [(.int s0), (.int s1), (.int 0), (.int 0), (.int 0), (.int 0), (.int 0), (.int 0)] (.int 0)) (l0 : s0 < s1) :
   Con l Z n0 (⟨"java/util/Arrays", "binarySearch0", "([IIII)I"⟩ : MethodName) jdk_65_method_59_code 8 (some .int) [] ({ frames := 0, cells := 0, slots := 0, locals := 0 } : Room) #[(.ref sa), (.int 0), (.int 2), (.int pos)] h0 [] (fun v h' => (v = some (.int (own_fi [(s0, 0), (s1, 1)] (2 : Int32) pos)) ∨ v = some (.int (-((own_fi [(s0, 0), (s1, 1)] (2 : Int32) pos) + 1)))) ∧ h' = h0) := by
  refine Con.of a0 (plainFor_of_name own_pn_30) O (fun _ q => nomatch q) [] (fun _ q => nomatch q) ?_
  intro p e s m below meth cdX T S hby hml hret hnm
  have H := fun {k r} q => @hb _ _ hby k r q
  have W := @Tw a0 Z hw
  refine Go.cast (own_ef_29 m sa (0 : Int32) (2 : Int32) pos) ?_
  refine S.iloadN 1 (H dn__0) rfl (S.istore 3 #[vr sa, vi 0, vi 2, vi pos, vi 0, uN, uN, uN] (H dn__1) rfl (S.iloadN 4 (H dn__3) rfl (S.iconst 5 (1 : Int32) (H dn__4) (S.isub 6 (H dn__5) ?_))))
  rw [show (2 - 1 : Int32) = 1 from by decide]
  refine S.istore 8 #[vr sa, vi 0, vi 2, vi pos, vi 0, vi 1, uN, uN] (H dn__6) rfl (S.iload 10 (H dn__8) rfl (S.iload 12 (H dn__10) rfl (S.icmpN 15 (H dn__12) (qGtF (by decide)) (S.iload 17 (H dn__15) rfl (S.iload 19 (H dn__17) rfl (S.iadd 20 (H dn__19) ?_))))))
  rw [show (0 + 1 : Int32) = 1 from by decide]
  refine S.iconst 21 (1 : Int32) (H dn__20) (S.iushr 22 (H dn__21) ?_)
  rw [show (((1 : Int32).toUInt32 >>> ((1 : Int32) &&& 31).toUInt32).toInt32) = (0 : Int32) from by decide]
  refine S.istore 24 #[vr sa, vi 0, vi 2, vi pos, vi 0, vi 1, vi 0, uN] (H dn__22) rfl (S.aloadN 25 (H dn__24) rfl rfl (S.iload 27 (H dn__25) rfl (S.iaload (v := .int s0) 28 (H dn__27) AS ⟨by decide, by decide⟩ rfl ?_)))
  refine S.istore 30 #[vr sa, vi 0, vi 2, vi pos, vi 0, vi 1, vi 0, vi s0] (H dn__28) rfl (S.iload 32 (H dn__30) rfl (S.iloadN 33 (H dn__32) rfl ?_))
  by_cases hb2639 : s0 < pos
  ·skip
   refine S.icmpN 36 (H dn__33) (qGeF hb2639) (S.iload 38 (H dn__36) rfl (S.iconst 39 (1 : Int32) (H dn__38) (S.iadd 40 (H dn__39) ?_)))
   rw [show (0 + 1 : Int32) = 1 from by decide]
   refine S.istore 42 #[vr sa, vi 0, vi 2, vi pos, vi 1, vi 1, vi 0, vi s0] (H dn__40) rfl (S.goto 63 (H dn__42) (S.goto 8 (H dn__63) (S.iload 10 (H dn__8) rfl (S.iload 12 (H dn__10) rfl (S.icmpN 15 (H dn__12) (qGtF (by decide)) (S.iload 17 (H dn__15) rfl ?_))))))
   refine S.iload 19 (H dn__17) rfl (S.iadd 20 (H dn__19) ?_)
   rw [show (1 + 1 : Int32) = 2 from by decide]
   refine S.iconst 21 (1 : Int32) (H dn__20) (S.iushr 22 (H dn__21) ?_)
   rw [show (((2 : Int32).toUInt32 >>> ((1 : Int32) &&& 31).toUInt32).toInt32) = (1 : Int32) from by decide]
   refine S.istore 24 #[vr sa, vi 0, vi 2, vi pos, vi 1, vi 1, vi 1, vi s0] (H dn__22) rfl (S.aloadN 25 (H dn__24) rfl rfl (S.iload 27 (H dn__25) rfl (S.iaload (v := .int s1) 28 (H dn__27) AS ⟨by decide, by decide⟩ rfl ?_)))
   refine S.istore 30 #[vr sa, vi 0, vi 2, vi pos, vi 1, vi 1, vi 1, vi s1] (H dn__28) rfl (S.iload 32 (H dn__30) rfl (S.iloadN 33 (H dn__32) rfl ?_))
   by_cases hb2640 : s1 < pos
   ·skip
    refine S.icmpN 36 (H dn__33) (qGeF hb2640) (S.iload 38 (H dn__36) rfl (S.iconst 39 (1 : Int32) (H dn__38) (S.iadd 40 (H dn__39) ?_)))
    rw [show (1 + 1 : Int32) = 2 from by decide]
    refine S.istore 42 #[vr sa, vi 0, vi 2, vi pos, vi 2, vi 1, vi 1, vi s1] (H dn__40) rfl (S.goto 63 (H dn__42) (S.goto 8 (H dn__63) (S.iload 10 (H dn__8) rfl (S.iload 12 (H dn__10) rfl (S.icmpY 66 (H dn__12) (qGtT (by decide)) (S.iload 68 (H dn__66) rfl ?_))))))
    refine S.iconst 69 (1 : Int32) (H dn__68) (S.iadd 70 (H dn__69) ?_)
    rw [show (2 + 1 : Int32) = 3 from by decide]
    refine S.ineg 71 (H dn__70) ?_
    have hR2641 : (own_fi [(s0, 0), (s1, 1)] (2 : Int32) pos) = (2 : Int32) := by simp only [own_fi]; rw [if_pos hb2639, if_pos hb2640]
    exact S.retI (H dn__71) hret (by decide) (by decide) ⟨Or.inr (by rw [hR2641] <;> rfl), rfl⟩
   ·skip
    refine S.icmpY 45 (H dn__33) (qGeT hb2640) (S.iload 47 (H dn__45) rfl (S.iloadN 48 (H dn__47) rfl ?_))
    by_cases hb2642 : pos < s1
    ·skip
     refine S.icmpN 51 (H dn__48) (qLeF hb2642) (S.iload 53 (H dn__51) rfl (S.iconst 54 (1 : Int32) (H dn__53) (S.isub 55 (H dn__54) ?_)))
     rw [show (1 - 1 : Int32) = 0 from by decide]
     refine S.istore 57 #[vr sa, vi 0, vi 2, vi pos, vi 1, vi 0, vi 1, vi s1] (H dn__55) rfl (S.goto 63 (H dn__57) (S.goto 8 (H dn__63) (S.iload 10 (H dn__8) rfl (S.iload 12 (H dn__10) rfl (S.icmpY 66 (H dn__12) (qGtT (by decide)) (S.iload 68 (H dn__66) rfl ?_))))))
     refine S.iconst 69 (1 : Int32) (H dn__68) (S.iadd 70 (H dn__69) ?_)
     rw [show (1 + 1 : Int32) = 2 from by decide]
     refine S.ineg 71 (H dn__70) ?_
     have hR2643 : (own_fi [(s0, 0), (s1, 1)] (2 : Int32) pos) = (1 : Int32) := by simp only [own_fi]; rw [if_pos hb2639, if_neg hb2640]
     exact S.retI (H dn__71) hret (by decide) (by decide) ⟨Or.inr (by rw [hR2643] <;> rfl), rfl⟩
    ·skip
     refine S.icmpY 60 (H dn__48) (qLeT hb2642) (S.iload 62 (H dn__60) rfl ?_)
     have hR2644 : (own_fi [(s0, 0), (s1, 1)] (2 : Int32) pos) = (1 : Int32) := by simp only [own_fi]; rw [if_pos hb2639, if_neg hb2640]
     exact S.retI (H dn__62) hret (by decide) (by decide) ⟨Or.inl (by rw [hR2644] <;> rfl), rfl⟩
  ·skip
   refine S.icmpY 45 (H dn__33) (qGeT hb2639) (S.iload 47 (H dn__45) rfl (S.iloadN 48 (H dn__47) rfl ?_))
   by_cases hb2645 : pos < s0
   ·skip
    refine S.icmpN 51 (H dn__48) (qLeF hb2645) (S.iload 53 (H dn__51) rfl (S.iconst 54 (1 : Int32) (H dn__53) (S.isub 55 (H dn__54) ?_)))
    rw [show (0 - 1 : Int32) = -1 from by decide]
    refine S.istore 57 #[vr sa, vi 0, vi 2, vi pos, vi 0, vi (-1), vi 0, vi s0] (H dn__55) rfl (S.goto 63 (H dn__57) (S.goto 8 (H dn__63) (S.iload 10 (H dn__8) rfl (S.iload 12 (H dn__10) rfl (S.icmpY 66 (H dn__12) (qGtT (by decide)) (S.iload 68 (H dn__66) rfl ?_))))))
    refine S.iconst 69 (1 : Int32) (H dn__68) (S.iadd 70 (H dn__69) ?_)
    rw [show (0 + 1 : Int32) = 1 from by decide]
    refine S.ineg 71 (H dn__70) ?_
    have hR2646 : (own_fi [(s0, 0), (s1, 1)] (2 : Int32) pos) = (0 : Int32) := by simp only [own_fi]; rw [if_neg hb2639]
    exact S.retI (H dn__71) hret (by decide) (by decide) ⟨Or.inr (by rw [hR2646] <;> rfl), rfl⟩
   ·skip
    refine S.icmpY 60 (H dn__48) (qLeT hb2645) (S.iload 62 (H dn__60) rfl ?_)
    have hR2647 : (own_fi [(s0, 0), (s1, 1)] (2 : Int32) pos) = (0 : Int32) := by simp only [own_fi]; rw [if_neg hb2639]
    exact S.retI (H dn__62) hret (by decide) (by decide) ⟨Or.inl (by rw [hR2647] <;> rfl), rfl⟩


set_option maxRecDepth 65536 in
set_option maxHeartbeats 4000000 in
theorem own_rck_2 (l : Launch) (Z : State) (a0 : Array Value) (hw : ∀ d ∈ tables_1, d.before a0 Z = true) (h0 : Heap) (n0 : Nat) (O : Old Z n0 h0) :
   Con l Z n0 (⟨"java/util/Arrays", "rangeCheck", "(III)V"⟩ : MethodName) jdk_65_method_30_code 3 none [] ({ frames := 0, cells := 0, slots := 0, locals := 0 } : Room) #[(.int 8), (.int 0), (.int 2)] h0 [] (fun v h' => v = none ∧ h' = h0) := by
  refine Con.of a0 (plainFor_of_name own_pn_30) O (fun _ q => nomatch q) [] (fun _ q => nomatch q) ?_
  intro p e s m below meth cdX T S hby hml hret hnm
  have H := fun {k r} q => @hb _ _ hby k r q
  have W := @Tw a0 Z hw
  refine Go.cast (own_ef_31 m (8 : Int32) (0 : Int32) (2 : Int32)) ?_
  refine S.iloadN 1 (H dl__0) rfl (S.iloadN 2 (H dl__1) rfl (S.icmpY 46 (H dl__2) (qLeT (by decide)) (S.iloadN 47 (H dl__46) rfl (S.ifY 59 (H dl__47) (zGeT (by decide)) (S.iloadN 60 (H dl__59) rfl (S.iloadN 61 (H dl__60) rfl ?_))))))
  refine S.icmpY 73 (H dl__61) (qLeT (by decide)) ?_
  exact S.ret0 (H dl__73) hret (by decide) (by decide) ⟨rfl, rfl⟩


set_option maxRecDepth 65536 in
set_option maxHeartbeats 4000000 in
theorem own_bs_2 (l : Launch) (Z : State) (a0 : Array Value) (hw : ∀ d ∈ tables_1, d.before a0 Z = true) (h0 : Heap) (n0 : Nat) (O : Old Z n0 h0) (sa : Addr) (ks : ClassId) (s0 : Int32) (s1 : Int32) (pos : Int32) (AS : Arv Z h0 sa ks .int (8 : Int32) [(.int s0), (.int s1), (.int 0), (.int 0), (.int 0), (.int 0), (.int 0), (.int 0)] (.int 0)) (l0 : s0 < s1) :
   Con l Z n0 (⟨"java/util/Arrays", "binarySearch", "([IIII)I"⟩ : MethodName) jdk_65_method_58_code 4 (some .int) [] ({ frames := 1, cells := 0, slots := 0, locals := 20 } : Room) #[(.ref sa), (.int 0), (.int 2), (.int pos)] h0 [] (fun v h' => (v = some (.int (own_fi [(s0, 0), (s1, 1)] (2 : Int32) pos)) ∨ v = some (.int (-((own_fi [(s0, 0), (s1, 1)] (2 : Int32) pos) + 1)))) ∧ h' = h0) := by
  refine Con.of a0 (plainFor_of_name own_pn_30) O (fun _ q => nomatch q) [] (fun _ q => nomatch q) ?_
  intro p e s m below meth cdX T S hby hml hret hnm
  have H := fun {k r} q => @hb _ _ hby k r q
  have W := @Tw a0 Z hw
  refine Go.cast (own_ef_32 m sa (0 : Int32) (2 : Int32) pos) ?_
  refine S.aloadN 1 (H dm__0) rfl rfl (S.alen 2 (H dm__1) AS ?_)
  refine S.iloadN 3 (H dm__2) rfl (S.iloadN 4 (H dm__3) rfl (S.scall 7 (H dm__4) hml.symm (W 87 rfl) (W 88 rfl) (W 85 rfl) (W 89 rfl) (by decide) [(.int 8), (.int 0), (.int 2)] [] (Con.pay (W := 0) (own_rck_2 l Z a0 hw h0 n0 S.old) (W 89 rfl) (W 85 rfl) (by decide) (by decide)) (lenOf own_pd_33 rfl) rfl (Nle rfl) (by decide) (by decide) Wrs.nil ?_))
  intro v2648 T2649 h2650 L2651 S2652 q2653 K2654
  obtain ⟨rfl, e_q2653⟩ := q2653
  obtain rfl := e_q2653.symm
  show Go p e below _ T2649 (mkF m 7 #[vr sa, vi 0, vi 2, vi pos] [])
  refine S2652.aloadN 8 (H dm__7) rfl rfl (S2652.iloadN 9 (H dm__8) rfl (S2652.iloadN 10 (H dm__9) rfl (S2652.iloadN 11 (H dm__10) rfl (S2652.scall 14 (H dm__11) hml.symm (W 90 rfl) (W 91 rfl) (W 85 rfl) (W 92 rfl) (by decide) [(.ref sa), (.int 0), (.int 2), (.int pos)] [] (Con.pay (W := 0) (own_b0_2 l Z a0 hw h0 n0 S2652.old sa ks s0 s1 pos AS l0) (W 92 rfl) (W 85 rfl) (by decide) (by decide)) (lenOf own_pd_34 rfl) rfl (Nle rfl) (by decide) (by decide) Wrs.nil ?_))))
  intro v2655 T2656 h2657 L2658 S2659 q2660 K2661
  obtain ⟨hq_q2660, e_q2660⟩ := q2660
  obtain rfl := e_q2660.symm
  rcases hq_q2660 with rfl | rfl
  ·skip
   show Go p e below _ T2656 (mkF m 14 #[vr sa, vi 0, vi 2, vi pos] [(.int (own_fi [(s0, 0), (s1, 1)] (2 : Int32) pos))])
   exact S2659.retI (H dm__14) hret (by decide) (by decide) ⟨Or.inl rfl, rfl⟩
  ·skip
   show Go p e below _ T2656 (mkF m 14 #[vr sa, vi 0, vi 2, vi pos] [(.int (-((own_fi [(s0, 0), (s1, 1)] (2 : Int32) pos) + 1)))])
   exact S2659.retI (H dm__14) hret (by decide) (by decide) ⟨Or.inr rfl, rfl⟩


set_option maxRecDepth 65536 in
set_option maxHeartbeats 4000000 in
theorem own_ff_2 (l : Launch) (Z : State) (a0 : Array Value) (hw : ∀ d ∈ tables_1, d.before a0 Z = true) (h0 : Heap) (n0 : Nat) (O : Old Z n0 h0) (o : Addr) (sa : Addr) (ea : Addr) (ks : ClassId) (ke : ClassId) (s0 : Int32) (s1 : Int32) (u0 : Int32) (u1 : Int32) (pos : Int32) (E : Exa Z h0 o "com/example/oref/oref/wikipedia/Matches") (FC : Fld Z h0 o "com/example/oref/oref/wikipedia/Matches" "count" "I" (.int 2)) (FS : Fld Z h0 o "com/example/oref/oref/wikipedia/Matches" "starts" "[I" (.ref sa)) (FE : Fld Z h0 o "com/example/oref/oref/wikipedia/Matches" "ends" "[I" (.ref ea)) (AS : Arv Z h0 sa ks .int (8 : Int32) [(.int s0), (.int s1), (.int 0), (.int 0), (.int 0), (.int 0), (.int 0), (.int 0)] (.int 0)) (AE : Arv Z h0 ea ke .int (8 : Int32) [(.int u0), (.int u1), (.int 0), (.int 0), (.int 0), (.int 0), (.int 0), (.int 0)] (.int 0)) (l0 : s0 < s1) :
   Con l Z n0 (⟨"com/example/oref/oref/wikipedia/Matches", "firstFrom", "(I)I"⟩ : MethodName) prog_29_method_6_code 3 (some .int) [] ({ frames := 2, cells := 0, slots := 0, locals := 40 } : Room) #[(.ref o), (.int pos)] h0 [] (fun v h' => v = some (.int (own_fi [(s0, 0), (s1, 1)] (2 : Int32) pos)) ∧ h' = h0) := by
  refine Con.of a0 (plainFor_of_name own_pn_24) O (fun _ q => nomatch q) [] (fun _ q => nomatch q) ?_
  intro p e s m below meth cdX T S hby hml hret hnm
  have H := fun {k r} q => @hb _ _ hby k r q
  have W := @Tw a0 Z hw
  refine Go.cast (own_ef_35 m o pos) ?_
  have hB : 0 ≤ (own_fi [(s0, 0), (s1, 1)] (2 : Int32) pos).toInt ∧ (own_fi [(s0, 0), (s1, 1)] (2 : Int32) pos).toInt ≤ 8 := own_fi_b ⟨by decide, by decide⟩ (by
    intro q hq
    simp only [List.mem_cons, List.not_mem_nil, or_false] at hq
    rcases hq with rfl | rfl <;> exact ⟨by dsimp only; decide, by dsimp only; decide⟩)
  refine S.aloadN 1 (H dt__0) rfl rfl (S.getf (host := "") 4 (H dt__1) (Or.inl (W 43 rfl)) Via.refl FS ?_)
  intro T2662 S2663
  refine S2663.iconst 5 (0 : Int32) (H dt__4) (S2663.aloadN 6 (H dt__5) rfl rfl (S2663.getf (host := "") 9 (H dt__6) (Or.inl (W 81 rfl)) Via.refl FC ?_))
  intro T2664 S2665
  refine S2665.iloadN 10 (H dt__9) rfl (S2665.scall 13 (H dt__10) hml.symm (W 83 rfl) (W 84 rfl) (W 85 rfl) (W 86 rfl) (by decide) [(.ref sa), (.int 0), (.int 2), (.int pos)] [] (Con.pay (W := 0) (own_bs_2 l Z a0 hw h0 n0 S2665.old sa ks s0 s1 pos AS l0) (W 86 rfl) (W 85 rfl) (by decide) (by decide)) (lenOf own_pd_34 rfl) rfl (Nle rfl) (by decide) (by decide) Wrs.nil ?_)
  intro v2666 T2667 h2668 L2669 S2670 q2671 K2672
  obtain ⟨hq_q2671, e_q2671⟩ := q2671
  obtain rfl := e_q2671.symm
  rcases hq_q2671 with rfl | rfl
  ·skip
   show Go p e below _ T2667 (mkF m 13 #[vr o, vi pos, uN] [(.int (own_fi [(s0, 0), (s1, 1)] (2 : Int32) pos))])
   refine S2670.istoreN 14 #[vr o, vi pos, vi (own_fi [(s0, 0), (s1, 1)] (2 : Int32) pos)] (H dt__13) rfl (S2670.iloadN 15 (H dt__14) rfl (S2670.ifN 18 (H dt__15) (zLtF (own_nn hB)) (S2670.iloadN 19 (H dt__18) rfl (S2670.goto 26 (H dt__19) ?_))))
   exact S2670.retI (H dt__26) hret (by decide) (by decide) ⟨rfl, rfl⟩
  ·skip
   show Go p e below _ T2667 (mkF m 13 #[vr o, vi pos, uN] [(.int (-((own_fi [(s0, 0), (s1, 1)] (2 : Int32) pos) + 1)))])
   refine S2670.istoreN 14 #[vr o, vi pos, .val (.int (-((own_fi [(s0, 0), (s1, 1)] (2 : Int32) pos) + 1)))] (H dt__13) rfl (S2670.iloadN 15 (H dt__14) rfl (S2670.ifY 22 (H dt__15) (zLtT (own_ng hB)) (S2670.iloadN 23 (H dt__22) rfl (S2670.ineg 24 (H dt__23) ?_))))
   refine S2670.iconst 25 (1 : Int32) (H dt__24) (S2670.isub 26 (H dt__25) ?_)
   show Go p e below _ T2667 (mkF m 26 #[vr o, vi pos, .val (.int (-((own_fi [(s0, 0), (s1, 1)] (2 : Int32) pos) + 1)))] [(.int ((-(-((own_fi [(s0, 0), (s1, 1)] (2 : Int32) pos) + 1))) - (1 : Int32)))])
   rw [own_bk]
   exact S2670.retI (H dt__26) hret (by decide) (by decide) ⟨rfl, rfl⟩


set_option maxRecDepth 65536 in
set_option maxHeartbeats 4000000 in
theorem own_eff_2 (l : Launch) (Z : State) (a0 : Array Value) (hw : ∀ d ∈ tables_1, d.before a0 Z = true) (h0 : Heap) (n0 : Nat) (O : Old Z n0 h0) (o : Addr) (sa : Addr) (ea : Addr) (ks : ClassId) (ke : ClassId) (s0 : Int32) (s1 : Int32) (u0 : Int32) (u1 : Int32) (pos : Int32) (E : Exa Z h0 o "com/example/oref/oref/wikipedia/Matches") (FC : Fld Z h0 o "com/example/oref/oref/wikipedia/Matches" "count" "I" (.int 2)) (FS : Fld Z h0 o "com/example/oref/oref/wikipedia/Matches" "starts" "[I" (.ref sa)) (FE : Fld Z h0 o "com/example/oref/oref/wikipedia/Matches" "ends" "[I" (.ref ea)) (AS : Arv Z h0 sa ks .int (8 : Int32) [(.int s0), (.int s1), (.int 0), (.int 0), (.int 0), (.int 0), (.int 0), (.int 0)] (.int 0)) (AE : Arv Z h0 ea ke .int (8 : Int32) [(.int u0), (.int u1), (.int 0), (.int 0), (.int 0), (.int 0), (.int 0), (.int 0)] (.int 0)) (l0 : s0 < s1) :
   Con l Z n0 (⟨"com/example/oref/oref/wikipedia/Matches", "endFrom", "(I)I"⟩ : MethodName) prog_29_method_5_code 3 (some .int) [] ({ frames := 3, cells := 0, slots := 0, locals := 60 } : Room) #[(.ref o), (.int pos)] h0 [] (fun v h' => v = some (.int (own_end [(s0, u0), (s1, u1)] pos)) ∧ h' = h0) := by
  refine Con.of a0 (plainFor_of_name own_pn_24) O (fun _ q => nomatch q) [] (fun _ q => nomatch q) ?_
  intro p e s m below meth cdX T S hby hml hret hnm
  have H := fun {k r} q => @hb _ _ hby k r q
  have W := @Tw a0 Z hw
  refine Go.cast (own_ef_35 m o pos) ?_
  refine S.aloadN 1 (H ds__0) rfl rfl (S.iloadN 2 (H ds__1) rfl (S.pcall 5 (H ds__2) hml.symm (W 77 rfl) (W 78 rfl) (W 79 rfl) (W 80 rfl) (W 75 rfl) rfl (by decide) E [(.int pos)] [] (Con.pay (W := 0) (own_ff_2 l Z a0 hw h0 n0 S.old o sa ea ks ke s0 s1 u0 u1 pos E FC FS FE AS AE l0) (W 80 rfl) (W 37 rfl) (by decide) (by decide)) (lenOf own_pd_36 rfl) rfl (Nle rfl) (by decide) (by decide) Wrs.nil ?_))
  intro v2673 T2674 h2675 L2676 S2677 q2678 K2679
  obtain ⟨rfl, e_q2678⟩ := q2678
  obtain rfl := e_q2678.symm
  show Go p e below _ T2674 (mkF m 5 #[vr o, vi pos, uN] [(.int (own_fi [(s0, 0), (s1, 1)] (2 : Int32) pos))])
  by_cases fz2680 : s0 < pos
  ·skip
   by_cases fz2681 : s1 < pos
   ·skip
    have hR2682 : (own_fi [(s0, 0), (s1, 1)] (2 : Int32) pos) = (2 : Int32) := by simp only [own_fi]; rw [if_pos fz2680, if_pos fz2681]
    rw [hR2682]
    show Go p e below _ T2674 (mkF m 5 #[vr o, vi pos, uN] [(.int 2)])
    refine S2677.istoreN 6 #[vr o, vi pos, vi 2] (H ds__5) rfl (S2677.iloadN 7 (H ds__6) rfl (S2677.aloadN 8 (H ds__7) rfl rfl (S2677.getf (host := "") 11 (H ds__8) (Or.inl (W 81 rfl)) Via.refl FC ?_)))
    intro T2683 S2684
    refine S2684.icmpY 23 (H ds__11) (qGeT (by decide)) (S2684.iconst 24 (-1 : Int32) (H ds__23) ?_)
    exact S2684.retI (H ds__24) hret (by decide) (by decide) ⟨by simp only [own_end]; rw [if_pos fz2680, if_pos fz2681], rfl⟩
   ·skip
    have hR2685 : (own_fi [(s0, 0), (s1, 1)] (2 : Int32) pos) = (1 : Int32) := by simp only [own_fi]; rw [if_pos fz2680, if_neg fz2681]
    rw [hR2685]
    show Go p e below _ T2674 (mkF m 5 #[vr o, vi pos, uN] [(.int 1)])
    refine S2677.istoreN 6 #[vr o, vi pos, vi 1] (H ds__5) rfl (S2677.iloadN 7 (H ds__6) rfl (S2677.aloadN 8 (H ds__7) rfl rfl (S2677.getf (host := "") 11 (H ds__8) (Or.inl (W 81 rfl)) Via.refl FC ?_)))
    intro T2686 S2687
    refine S2687.icmpN 14 (H ds__11) (qGeF (by decide)) (S2687.aloadN 15 (H ds__14) rfl rfl (S2687.getf (host := "") 18 (H ds__15) (Or.inl (W 45 rfl)) Via.refl FE ?_))
    intro T2688 S2689
    refine S2689.iloadN 19 (H ds__18) rfl (S2689.iaload (v := .int u1) 20 (H ds__19) AE ⟨by decide, by decide⟩ rfl ?_)
    refine S2689.goto 24 (H ds__20) ?_
    exact S2689.retI (H ds__24) hret (by decide) (by decide) ⟨by simp only [own_end]; rw [if_pos fz2680, if_neg fz2681], rfl⟩
  ·skip
   have hR2690 : (own_fi [(s0, 0), (s1, 1)] (2 : Int32) pos) = (0 : Int32) := by simp only [own_fi]; rw [if_neg fz2680]
   rw [hR2690]
   show Go p e below _ T2674 (mkF m 5 #[vr o, vi pos, uN] [(.int 0)])
   refine S2677.istoreN 6 #[vr o, vi pos, vi 0] (H ds__5) rfl (S2677.iloadN 7 (H ds__6) rfl (S2677.aloadN 8 (H ds__7) rfl rfl (S2677.getf (host := "") 11 (H ds__8) (Or.inl (W 81 rfl)) Via.refl FC ?_)))
   intro T2691 S2692
   refine S2692.icmpN 14 (H ds__11) (qGeF (by decide)) (S2692.aloadN 15 (H ds__14) rfl rfl (S2692.getf (host := "") 18 (H ds__15) (Or.inl (W 45 rfl)) Via.refl FE ?_))
   intro T2693 S2694
   refine S2694.iloadN 19 (H ds__18) rfl (S2694.iaload (v := .int u0) 20 (H ds__19) AE ⟨by decide, by decide⟩ rfl ?_)
   refine S2694.goto 24 (H ds__20) ?_
   exact S2694.retI (H ds__24) hret (by decide) (by decide) ⟨by simp only [own_end]; rw [if_neg fz2680], rfl⟩


set_option maxRecDepth 65536 in
set_option maxHeartbeats 4000000 in
theorem own_b0_3 (l : Launch) (Z : State) (a0 : Array Value) (hw : ∀ d ∈ tables_1, d.before a0 Z = true) (h0 : Heap) (n0 : Nat) (O : Old Z n0 h0) (sa : Addr) (ks : ClassId) (s0 : Int32) (s1 : Int32) (s2 : Int32) (pos : Int32) (AS : Arv Z h0 sa ks .int (8 : Int32) [(.int s0), (.int s1), (.int s2), (.int 0), (.int 0), (.int 0), (.int 0), (.int 0)] (.int 0)) (l0 : s0 < s1) (l1 : s1 < s2) :
   Con l Z n0 (⟨"java/util/Arrays", "binarySearch0", "([IIII)I"⟩ : MethodName) jdk_65_method_59_code 8 (some .int) [] ({ frames := 0, cells := 0, slots := 0, locals := 0 } : Room) #[(.ref sa), (.int 0), (.int 3), (.int pos)] h0 [] (fun v h' => (v = some (.int (own_fi [(s0, 0), (s1, 1), (s2, 2)] (3 : Int32) pos)) ∨ v = some (.int (-((own_fi [(s0, 0), (s1, 1), (s2, 2)] (3 : Int32) pos) + 1)))) ∧ h' = h0) := by
  refine Con.of a0 (plainFor_of_name own_pn_30) O (fun _ q => nomatch q) [] (fun _ q => nomatch q) ?_
  intro p e s m below meth cdX T S hby hml hret hnm
  have H := fun {k r} q => @hb _ _ hby k r q
  have W := @Tw a0 Z hw
  refine Go.cast (own_ef_29 m sa (0 : Int32) (3 : Int32) pos) ?_
  refine S.iloadN 1 (H dn__0) rfl (S.istore 3 #[vr sa, vi 0, vi 3, vi pos, vi 0, uN, uN, uN] (H dn__1) rfl (S.iloadN 4 (H dn__3) rfl (S.iconst 5 (1 : Int32) (H dn__4) (S.isub 6 (H dn__5) ?_))))
  rw [show (3 - 1 : Int32) = 2 from by decide]
  refine S.istore 8 #[vr sa, vi 0, vi 3, vi pos, vi 0, vi 2, uN, uN] (H dn__6) rfl (S.iload 10 (H dn__8) rfl (S.iload 12 (H dn__10) rfl (S.icmpN 15 (H dn__12) (qGtF (by decide)) (S.iload 17 (H dn__15) rfl (S.iload 19 (H dn__17) rfl (S.iadd 20 (H dn__19) ?_))))))
  rw [show (0 + 2 : Int32) = 2 from by decide]
  refine S.iconst 21 (1 : Int32) (H dn__20) (S.iushr 22 (H dn__21) ?_)
  rw [show (((2 : Int32).toUInt32 >>> ((1 : Int32) &&& 31).toUInt32).toInt32) = (1 : Int32) from by decide]
  refine S.istore 24 #[vr sa, vi 0, vi 3, vi pos, vi 0, vi 2, vi 1, uN] (H dn__22) rfl (S.aloadN 25 (H dn__24) rfl rfl (S.iload 27 (H dn__25) rfl (S.iaload (v := .int s1) 28 (H dn__27) AS ⟨by decide, by decide⟩ rfl ?_)))
  refine S.istore 30 #[vr sa, vi 0, vi 3, vi pos, vi 0, vi 2, vi 1, vi s1] (H dn__28) rfl (S.iload 32 (H dn__30) rfl (S.iloadN 33 (H dn__32) rfl ?_))
  by_cases hb2695 : s1 < pos
  ·skip
   refine S.icmpN 36 (H dn__33) (qGeF hb2695) (S.iload 38 (H dn__36) rfl (S.iconst 39 (1 : Int32) (H dn__38) (S.iadd 40 (H dn__39) ?_)))
   rw [show (1 + 1 : Int32) = 2 from by decide]
   refine S.istore 42 #[vr sa, vi 0, vi 3, vi pos, vi 2, vi 2, vi 1, vi s1] (H dn__40) rfl (S.goto 63 (H dn__42) (S.goto 8 (H dn__63) (S.iload 10 (H dn__8) rfl (S.iload 12 (H dn__10) rfl (S.icmpN 15 (H dn__12) (qGtF (by decide)) (S.iload 17 (H dn__15) rfl ?_))))))
   refine S.iload 19 (H dn__17) rfl (S.iadd 20 (H dn__19) ?_)
   rw [show (2 + 2 : Int32) = 4 from by decide]
   refine S.iconst 21 (1 : Int32) (H dn__20) (S.iushr 22 (H dn__21) ?_)
   rw [show (((4 : Int32).toUInt32 >>> ((1 : Int32) &&& 31).toUInt32).toInt32) = (2 : Int32) from by decide]
   refine S.istore 24 #[vr sa, vi 0, vi 3, vi pos, vi 2, vi 2, vi 2, vi s1] (H dn__22) rfl (S.aloadN 25 (H dn__24) rfl rfl (S.iload 27 (H dn__25) rfl (S.iaload (v := .int s2) 28 (H dn__27) AS ⟨by decide, by decide⟩ rfl ?_)))
   refine S.istore 30 #[vr sa, vi 0, vi 3, vi pos, vi 2, vi 2, vi 2, vi s2] (H dn__28) rfl (S.iload 32 (H dn__30) rfl (S.iloadN 33 (H dn__32) rfl ?_))
   by_cases hb2696 : s2 < pos
   ·skip
    refine S.icmpN 36 (H dn__33) (qGeF hb2696) (S.iload 38 (H dn__36) rfl (S.iconst 39 (1 : Int32) (H dn__38) (S.iadd 40 (H dn__39) ?_)))
    rw [show (2 + 1 : Int32) = 3 from by decide]
    refine S.istore 42 #[vr sa, vi 0, vi 3, vi pos, vi 3, vi 2, vi 2, vi s2] (H dn__40) rfl (S.goto 63 (H dn__42) (S.goto 8 (H dn__63) (S.iload 10 (H dn__8) rfl (S.iload 12 (H dn__10) rfl (S.icmpY 66 (H dn__12) (qGtT (by decide)) (S.iload 68 (H dn__66) rfl ?_))))))
    refine S.iconst 69 (1 : Int32) (H dn__68) (S.iadd 70 (H dn__69) ?_)
    rw [show (3 + 1 : Int32) = 4 from by decide]
    refine S.ineg 71 (H dn__70) ?_
    have hR2697 : (own_fi [(s0, 0), (s1, 1), (s2, 2)] (3 : Int32) pos) = (3 : Int32) := by simp only [own_fi]; rw [if_pos (own_tr l0 hb2695), if_pos hb2695, if_pos hb2696]
    exact S.retI (H dn__71) hret (by decide) (by decide) ⟨Or.inr (by rw [hR2697] <;> rfl), rfl⟩
   ·skip
    refine S.icmpY 45 (H dn__33) (qGeT hb2696) (S.iload 47 (H dn__45) rfl (S.iloadN 48 (H dn__47) rfl ?_))
    by_cases hb2698 : pos < s2
    ·skip
     refine S.icmpN 51 (H dn__48) (qLeF hb2698) (S.iload 53 (H dn__51) rfl (S.iconst 54 (1 : Int32) (H dn__53) (S.isub 55 (H dn__54) ?_)))
     rw [show (2 - 1 : Int32) = 1 from by decide]
     refine S.istore 57 #[vr sa, vi 0, vi 3, vi pos, vi 2, vi 1, vi 2, vi s2] (H dn__55) rfl (S.goto 63 (H dn__57) (S.goto 8 (H dn__63) (S.iload 10 (H dn__8) rfl (S.iload 12 (H dn__10) rfl (S.icmpY 66 (H dn__12) (qGtT (by decide)) (S.iload 68 (H dn__66) rfl ?_))))))
     refine S.iconst 69 (1 : Int32) (H dn__68) (S.iadd 70 (H dn__69) ?_)
     rw [show (2 + 1 : Int32) = 3 from by decide]
     refine S.ineg 71 (H dn__70) ?_
     have hR2699 : (own_fi [(s0, 0), (s1, 1), (s2, 2)] (3 : Int32) pos) = (2 : Int32) := by simp only [own_fi]; rw [if_pos (own_tr l0 hb2695), if_pos hb2695, if_neg hb2696]
     exact S.retI (H dn__71) hret (by decide) (by decide) ⟨Or.inr (by rw [hR2699] <;> rfl), rfl⟩
    ·skip
     refine S.icmpY 60 (H dn__48) (qLeT hb2698) (S.iload 62 (H dn__60) rfl ?_)
     have hR2700 : (own_fi [(s0, 0), (s1, 1), (s2, 2)] (3 : Int32) pos) = (2 : Int32) := by simp only [own_fi]; rw [if_pos (own_tr l0 hb2695), if_pos hb2695, if_neg hb2696]
     exact S.retI (H dn__62) hret (by decide) (by decide) ⟨Or.inl (by rw [hR2700] <;> rfl), rfl⟩
  ·skip
   refine S.icmpY 45 (H dn__33) (qGeT hb2695) (S.iload 47 (H dn__45) rfl (S.iloadN 48 (H dn__47) rfl ?_))
   by_cases hb2701 : pos < s1
   ·skip
    refine S.icmpN 51 (H dn__48) (qLeF hb2701) (S.iload 53 (H dn__51) rfl (S.iconst 54 (1 : Int32) (H dn__53) (S.isub 55 (H dn__54) ?_)))
    rw [show (1 - 1 : Int32) = 0 from by decide]
    refine S.istore 57 #[vr sa, vi 0, vi 3, vi pos, vi 0, vi 0, vi 1, vi s1] (H dn__55) rfl (S.goto 63 (H dn__57) (S.goto 8 (H dn__63) (S.iload 10 (H dn__8) rfl (S.iload 12 (H dn__10) rfl (S.icmpN 15 (H dn__12) (qGtF (by decide)) (S.iload 17 (H dn__15) rfl ?_))))))
    refine S.iload 19 (H dn__17) rfl (S.iadd 20 (H dn__19) ?_)
    rw [show (0 + 0 : Int32) = 0 from by decide]
    refine S.iconst 21 (1 : Int32) (H dn__20) (S.iushr 22 (H dn__21) ?_)
    rw [show (((0 : Int32).toUInt32 >>> ((1 : Int32) &&& 31).toUInt32).toInt32) = (0 : Int32) from by decide]
    refine S.istore 24 #[vr sa, vi 0, vi 3, vi pos, vi 0, vi 0, vi 0, vi s1] (H dn__22) rfl (S.aloadN 25 (H dn__24) rfl rfl (S.iload 27 (H dn__25) rfl (S.iaload (v := .int s0) 28 (H dn__27) AS ⟨by decide, by decide⟩ rfl ?_)))
    refine S.istore 30 #[vr sa, vi 0, vi 3, vi pos, vi 0, vi 0, vi 0, vi s0] (H dn__28) rfl (S.iload 32 (H dn__30) rfl (S.iloadN 33 (H dn__32) rfl ?_))
    by_cases hb2702 : s0 < pos
    ·skip
     refine S.icmpN 36 (H dn__33) (qGeF hb2702) (S.iload 38 (H dn__36) rfl (S.iconst 39 (1 : Int32) (H dn__38) (S.iadd 40 (H dn__39) ?_)))
     rw [show (0 + 1 : Int32) = 1 from by decide]
     refine S.istore 42 #[vr sa, vi 0, vi 3, vi pos, vi 1, vi 0, vi 0, vi s0] (H dn__40) rfl (S.goto 63 (H dn__42) (S.goto 8 (H dn__63) (S.iload 10 (H dn__8) rfl (S.iload 12 (H dn__10) rfl (S.icmpY 66 (H dn__12) (qGtT (by decide)) (S.iload 68 (H dn__66) rfl ?_))))))
     refine S.iconst 69 (1 : Int32) (H dn__68) (S.iadd 70 (H dn__69) ?_)
     rw [show (1 + 1 : Int32) = 2 from by decide]
     refine S.ineg 71 (H dn__70) ?_
     have hR2703 : (own_fi [(s0, 0), (s1, 1), (s2, 2)] (3 : Int32) pos) = (1 : Int32) := by simp only [own_fi]; rw [if_pos hb2702, if_neg hb2695]
     exact S.retI (H dn__71) hret (by decide) (by decide) ⟨Or.inr (by rw [hR2703] <;> rfl), rfl⟩
    ·skip
     refine S.icmpY 45 (H dn__33) (qGeT hb2702) (S.iload 47 (H dn__45) rfl (S.iloadN 48 (H dn__47) rfl ?_))
     by_cases hb2704 : pos < s0
     ·skip
      refine S.icmpN 51 (H dn__48) (qLeF hb2704) (S.iload 53 (H dn__51) rfl (S.iconst 54 (1 : Int32) (H dn__53) (S.isub 55 (H dn__54) ?_)))
      rw [show (0 - 1 : Int32) = -1 from by decide]
      refine S.istore 57 #[vr sa, vi 0, vi 3, vi pos, vi 0, vi (-1), vi 0, vi s0] (H dn__55) rfl (S.goto 63 (H dn__57) (S.goto 8 (H dn__63) (S.iload 10 (H dn__8) rfl (S.iload 12 (H dn__10) rfl (S.icmpY 66 (H dn__12) (qGtT (by decide)) (S.iload 68 (H dn__66) rfl ?_))))))
      refine S.iconst 69 (1 : Int32) (H dn__68) (S.iadd 70 (H dn__69) ?_)
      rw [show (0 + 1 : Int32) = 1 from by decide]
      refine S.ineg 71 (H dn__70) ?_
      have hR2705 : (own_fi [(s0, 0), (s1, 1), (s2, 2)] (3 : Int32) pos) = (0 : Int32) := by simp only [own_fi]; rw [if_neg hb2702]
      exact S.retI (H dn__71) hret (by decide) (by decide) ⟨Or.inr (by rw [hR2705] <;> rfl), rfl⟩
     ·skip
      refine S.icmpY 60 (H dn__48) (qLeT hb2704) (S.iload 62 (H dn__60) rfl ?_)
      have hR2706 : (own_fi [(s0, 0), (s1, 1), (s2, 2)] (3 : Int32) pos) = (0 : Int32) := by simp only [own_fi]; rw [if_neg hb2702]
      exact S.retI (H dn__62) hret (by decide) (by decide) ⟨Or.inl (by rw [hR2706] <;> rfl), rfl⟩
   ·skip
    refine S.icmpY 60 (H dn__48) (qLeT hb2701) (S.iload 62 (H dn__60) rfl ?_)
    have hR2707 : (own_fi [(s0, 0), (s1, 1), (s2, 2)] (3 : Int32) pos) = (1 : Int32) := by simp only [own_fi]; rw [if_pos (own_tr2 l0 hb2701), if_neg hb2695]
    exact S.retI (H dn__62) hret (by decide) (by decide) ⟨Or.inl (by rw [hR2707] <;> rfl), rfl⟩


set_option maxRecDepth 65536 in
set_option maxHeartbeats 4000000 in
theorem own_rck_3 (l : Launch) (Z : State) (a0 : Array Value) (hw : ∀ d ∈ tables_1, d.before a0 Z = true) (h0 : Heap) (n0 : Nat) (O : Old Z n0 h0) :
   Con l Z n0 (⟨"java/util/Arrays", "rangeCheck", "(III)V"⟩ : MethodName) jdk_65_method_30_code 3 none [] ({ frames := 0, cells := 0, slots := 0, locals := 0 } : Room) #[(.int 8), (.int 0), (.int 3)] h0 [] (fun v h' => v = none ∧ h' = h0) := by
  refine Con.of a0 (plainFor_of_name own_pn_30) O (fun _ q => nomatch q) [] (fun _ q => nomatch q) ?_
  intro p e s m below meth cdX T S hby hml hret hnm
  have H := fun {k r} q => @hb _ _ hby k r q
  have W := @Tw a0 Z hw
  refine Go.cast (own_ef_31 m (8 : Int32) (0 : Int32) (3 : Int32)) ?_
  refine S.iloadN 1 (H dl__0) rfl (S.iloadN 2 (H dl__1) rfl (S.icmpY 46 (H dl__2) (qLeT (by decide)) (S.iloadN 47 (H dl__46) rfl (S.ifY 59 (H dl__47) (zGeT (by decide)) (S.iloadN 60 (H dl__59) rfl (S.iloadN 61 (H dl__60) rfl ?_))))))
  refine S.icmpY 73 (H dl__61) (qLeT (by decide)) ?_
  exact S.ret0 (H dl__73) hret (by decide) (by decide) ⟨rfl, rfl⟩


set_option maxRecDepth 65536 in
set_option maxHeartbeats 4000000 in
theorem own_bs_3 (l : Launch) (Z : State) (a0 : Array Value) (hw : ∀ d ∈ tables_1, d.before a0 Z = true) (h0 : Heap) (n0 : Nat) (O : Old Z n0 h0) (sa : Addr) (ks : ClassId) (s0 : Int32) (s1 : Int32) (s2 : Int32) (pos : Int32) (AS : Arv Z h0 sa ks .int (8 : Int32) [(.int s0), (.int s1), (.int s2), (.int 0), (.int 0), (.int 0), (.int 0), (.int 0)] (.int 0)) (l0 : s0 < s1) (l1 : s1 < s2) :
   Con l Z n0 (⟨"java/util/Arrays", "binarySearch", "([IIII)I"⟩ : MethodName) jdk_65_method_58_code 4 (some .int) [] ({ frames := 1, cells := 0, slots := 0, locals := 20 } : Room) #[(.ref sa), (.int 0), (.int 3), (.int pos)] h0 [] (fun v h' => (v = some (.int (own_fi [(s0, 0), (s1, 1), (s2, 2)] (3 : Int32) pos)) ∨ v = some (.int (-((own_fi [(s0, 0), (s1, 1), (s2, 2)] (3 : Int32) pos) + 1)))) ∧ h' = h0) := by
  refine Con.of a0 (plainFor_of_name own_pn_30) O (fun _ q => nomatch q) [] (fun _ q => nomatch q) ?_
  intro p e s m below meth cdX T S hby hml hret hnm
  have H := fun {k r} q => @hb _ _ hby k r q
  have W := @Tw a0 Z hw
  refine Go.cast (own_ef_32 m sa (0 : Int32) (3 : Int32) pos) ?_
  refine S.aloadN 1 (H dm__0) rfl rfl (S.alen 2 (H dm__1) AS ?_)
  refine S.iloadN 3 (H dm__2) rfl (S.iloadN 4 (H dm__3) rfl (S.scall 7 (H dm__4) hml.symm (W 87 rfl) (W 88 rfl) (W 85 rfl) (W 89 rfl) (by decide) [(.int 8), (.int 0), (.int 3)] [] (Con.pay (W := 0) (own_rck_3 l Z a0 hw h0 n0 S.old) (W 89 rfl) (W 85 rfl) (by decide) (by decide)) (lenOf own_pd_33 rfl) rfl (Nle rfl) (by decide) (by decide) Wrs.nil ?_))
  intro v2708 T2709 h2710 L2711 S2712 q2713 K2714
  obtain ⟨rfl, e_q2713⟩ := q2713
  obtain rfl := e_q2713.symm
  show Go p e below _ T2709 (mkF m 7 #[vr sa, vi 0, vi 3, vi pos] [])
  refine S2712.aloadN 8 (H dm__7) rfl rfl (S2712.iloadN 9 (H dm__8) rfl (S2712.iloadN 10 (H dm__9) rfl (S2712.iloadN 11 (H dm__10) rfl (S2712.scall 14 (H dm__11) hml.symm (W 90 rfl) (W 91 rfl) (W 85 rfl) (W 92 rfl) (by decide) [(.ref sa), (.int 0), (.int 3), (.int pos)] [] (Con.pay (W := 0) (own_b0_3 l Z a0 hw h0 n0 S2712.old sa ks s0 s1 s2 pos AS l0 l1) (W 92 rfl) (W 85 rfl) (by decide) (by decide)) (lenOf own_pd_34 rfl) rfl (Nle rfl) (by decide) (by decide) Wrs.nil ?_))))
  intro v2715 T2716 h2717 L2718 S2719 q2720 K2721
  obtain ⟨hq_q2720, e_q2720⟩ := q2720
  obtain rfl := e_q2720.symm
  rcases hq_q2720 with rfl | rfl
  ·skip
   show Go p e below _ T2716 (mkF m 14 #[vr sa, vi 0, vi 3, vi pos] [(.int (own_fi [(s0, 0), (s1, 1), (s2, 2)] (3 : Int32) pos))])
   exact S2719.retI (H dm__14) hret (by decide) (by decide) ⟨Or.inl rfl, rfl⟩
  ·skip
   show Go p e below _ T2716 (mkF m 14 #[vr sa, vi 0, vi 3, vi pos] [(.int (-((own_fi [(s0, 0), (s1, 1), (s2, 2)] (3 : Int32) pos) + 1)))])
   exact S2719.retI (H dm__14) hret (by decide) (by decide) ⟨Or.inr rfl, rfl⟩


set_option maxRecDepth 65536 in
set_option maxHeartbeats 4000000 in
theorem own_ff_3 (l : Launch) (Z : State) (a0 : Array Value) (hw : ∀ d ∈ tables_1, d.before a0 Z = true) (h0 : Heap) (n0 : Nat) (O : Old Z n0 h0) (o : Addr) (sa : Addr) (ea : Addr) (ks : ClassId) (ke : ClassId) (s0 : Int32) (s1 : Int32) (s2 : Int32) (u0 : Int32) (u1 : Int32) (u2 : Int32) (pos : Int32) (E : Exa Z h0 o "com/example/oref/oref/wikipedia/Matches") (FC : Fld Z h0 o "com/example/oref/oref/wikipedia/Matches" "count" "I" (.int 3)) (FS : Fld Z h0 o "com/example/oref/oref/wikipedia/Matches" "starts" "[I" (.ref sa)) (FE : Fld Z h0 o "com/example/oref/oref/wikipedia/Matches" "ends" "[I" (.ref ea)) (AS : Arv Z h0 sa ks .int (8 : Int32) [(.int s0), (.int s1), (.int s2), (.int 0), (.int 0), (.int 0), (.int 0), (.int 0)] (.int 0)) (AE : Arv Z h0 ea ke .int (8 : Int32) [(.int u0), (.int u1), (.int u2), (.int 0), (.int 0), (.int 0), (.int 0), (.int 0)] (.int 0)) (l0 : s0 < s1) (l1 : s1 < s2) :
   Con l Z n0 (⟨"com/example/oref/oref/wikipedia/Matches", "firstFrom", "(I)I"⟩ : MethodName) prog_29_method_6_code 3 (some .int) [] ({ frames := 2, cells := 0, slots := 0, locals := 40 } : Room) #[(.ref o), (.int pos)] h0 [] (fun v h' => v = some (.int (own_fi [(s0, 0), (s1, 1), (s2, 2)] (3 : Int32) pos)) ∧ h' = h0) := by
  refine Con.of a0 (plainFor_of_name own_pn_24) O (fun _ q => nomatch q) [] (fun _ q => nomatch q) ?_
  intro p e s m below meth cdX T S hby hml hret hnm
  have H := fun {k r} q => @hb _ _ hby k r q
  have W := @Tw a0 Z hw
  refine Go.cast (own_ef_35 m o pos) ?_
  have hB : 0 ≤ (own_fi [(s0, 0), (s1, 1), (s2, 2)] (3 : Int32) pos).toInt ∧ (own_fi [(s0, 0), (s1, 1), (s2, 2)] (3 : Int32) pos).toInt ≤ 8 := own_fi_b ⟨by decide, by decide⟩ (by
    intro q hq
    simp only [List.mem_cons, List.not_mem_nil, or_false] at hq
    rcases hq with rfl | rfl | rfl <;> exact ⟨by dsimp only; decide, by dsimp only; decide⟩)
  refine S.aloadN 1 (H dt__0) rfl rfl (S.getf (host := "") 4 (H dt__1) (Or.inl (W 43 rfl)) Via.refl FS ?_)
  intro T2722 S2723
  refine S2723.iconst 5 (0 : Int32) (H dt__4) (S2723.aloadN 6 (H dt__5) rfl rfl (S2723.getf (host := "") 9 (H dt__6) (Or.inl (W 81 rfl)) Via.refl FC ?_))
  intro T2724 S2725
  refine S2725.iloadN 10 (H dt__9) rfl (S2725.scall 13 (H dt__10) hml.symm (W 83 rfl) (W 84 rfl) (W 85 rfl) (W 86 rfl) (by decide) [(.ref sa), (.int 0), (.int 3), (.int pos)] [] (Con.pay (W := 0) (own_bs_3 l Z a0 hw h0 n0 S2725.old sa ks s0 s1 s2 pos AS l0 l1) (W 86 rfl) (W 85 rfl) (by decide) (by decide)) (lenOf own_pd_34 rfl) rfl (Nle rfl) (by decide) (by decide) Wrs.nil ?_)
  intro v2726 T2727 h2728 L2729 S2730 q2731 K2732
  obtain ⟨hq_q2731, e_q2731⟩ := q2731
  obtain rfl := e_q2731.symm
  rcases hq_q2731 with rfl | rfl
  ·skip
   show Go p e below _ T2727 (mkF m 13 #[vr o, vi pos, uN] [(.int (own_fi [(s0, 0), (s1, 1), (s2, 2)] (3 : Int32) pos))])
   refine S2730.istoreN 14 #[vr o, vi pos, vi (own_fi [(s0, 0), (s1, 1), (s2, 2)] (3 : Int32) pos)] (H dt__13) rfl (S2730.iloadN 15 (H dt__14) rfl (S2730.ifN 18 (H dt__15) (zLtF (own_nn hB)) (S2730.iloadN 19 (H dt__18) rfl (S2730.goto 26 (H dt__19) ?_))))
   exact S2730.retI (H dt__26) hret (by decide) (by decide) ⟨rfl, rfl⟩
  ·skip
   show Go p e below _ T2727 (mkF m 13 #[vr o, vi pos, uN] [(.int (-((own_fi [(s0, 0), (s1, 1), (s2, 2)] (3 : Int32) pos) + 1)))])
   refine S2730.istoreN 14 #[vr o, vi pos, .val (.int (-((own_fi [(s0, 0), (s1, 1), (s2, 2)] (3 : Int32) pos) + 1)))] (H dt__13) rfl (S2730.iloadN 15 (H dt__14) rfl (S2730.ifY 22 (H dt__15) (zLtT (own_ng hB)) (S2730.iloadN 23 (H dt__22) rfl (S2730.ineg 24 (H dt__23) ?_))))
   refine S2730.iconst 25 (1 : Int32) (H dt__24) (S2730.isub 26 (H dt__25) ?_)
   show Go p e below _ T2727 (mkF m 26 #[vr o, vi pos, .val (.int (-((own_fi [(s0, 0), (s1, 1), (s2, 2)] (3 : Int32) pos) + 1)))] [(.int ((-(-((own_fi [(s0, 0), (s1, 1), (s2, 2)] (3 : Int32) pos) + 1))) - (1 : Int32)))])
   rw [own_bk]
   exact S2730.retI (H dt__26) hret (by decide) (by decide) ⟨rfl, rfl⟩


set_option maxRecDepth 65536 in
set_option maxHeartbeats 4000000 in
theorem own_eff_3 (l : Launch) (Z : State) (a0 : Array Value) (hw : ∀ d ∈ tables_1, d.before a0 Z = true) (h0 : Heap) (n0 : Nat) (O : Old Z n0 h0) (o : Addr) (sa : Addr) (ea : Addr) (ks : ClassId) (ke : ClassId) (s0 : Int32) (s1 : Int32) (s2 : Int32) (u0 : Int32) (u1 : Int32) (u2 : Int32) (pos : Int32) (E : Exa Z h0 o "com/example/oref/oref/wikipedia/Matches") (FC : Fld Z h0 o "com/example/oref/oref/wikipedia/Matches" "count" "I" (.int 3)) (FS : Fld Z h0 o "com/example/oref/oref/wikipedia/Matches" "starts" "[I" (.ref sa)) (FE : Fld Z h0 o "com/example/oref/oref/wikipedia/Matches" "ends" "[I" (.ref ea)) (AS : Arv Z h0 sa ks .int (8 : Int32) [(.int s0), (.int s1), (.int s2), (.int 0), (.int 0), (.int 0), (.int 0), (.int 0)] (.int 0)) (AE : Arv Z h0 ea ke .int (8 : Int32) [(.int u0), (.int u1), (.int u2), (.int 0), (.int 0), (.int 0), (.int 0), (.int 0)] (.int 0)) (l0 : s0 < s1) (l1 : s1 < s2) :
   Con l Z n0 (⟨"com/example/oref/oref/wikipedia/Matches", "endFrom", "(I)I"⟩ : MethodName) prog_29_method_5_code 3 (some .int) [] ({ frames := 3, cells := 0, slots := 0, locals := 60 } : Room) #[(.ref o), (.int pos)] h0 [] (fun v h' => v = some (.int (own_end [(s0, u0), (s1, u1), (s2, u2)] pos)) ∧ h' = h0) := by
  refine Con.of a0 (plainFor_of_name own_pn_24) O (fun _ q => nomatch q) [] (fun _ q => nomatch q) ?_
  intro p e s m below meth cdX T S hby hml hret hnm
  have H := fun {k r} q => @hb _ _ hby k r q
  have W := @Tw a0 Z hw
  refine Go.cast (own_ef_35 m o pos) ?_
  refine S.aloadN 1 (H ds__0) rfl rfl (S.iloadN 2 (H ds__1) rfl (S.pcall 5 (H ds__2) hml.symm (W 77 rfl) (W 78 rfl) (W 79 rfl) (W 80 rfl) (W 75 rfl) rfl (by decide) E [(.int pos)] [] (Con.pay (W := 0) (own_ff_3 l Z a0 hw h0 n0 S.old o sa ea ks ke s0 s1 s2 u0 u1 u2 pos E FC FS FE AS AE l0 l1) (W 80 rfl) (W 37 rfl) (by decide) (by decide)) (lenOf own_pd_36 rfl) rfl (Nle rfl) (by decide) (by decide) Wrs.nil ?_))
  intro v2733 T2734 h2735 L2736 S2737 q2738 K2739
  obtain ⟨rfl, e_q2738⟩ := q2738
  obtain rfl := e_q2738.symm
  show Go p e below _ T2734 (mkF m 5 #[vr o, vi pos, uN] [(.int (own_fi [(s0, 0), (s1, 1), (s2, 2)] (3 : Int32) pos))])
  by_cases fz2740 : s0 < pos
  ·skip
   by_cases fz2741 : s1 < pos
   ·skip
    by_cases fz2742 : s2 < pos
    ·skip
     have hR2743 : (own_fi [(s0, 0), (s1, 1), (s2, 2)] (3 : Int32) pos) = (3 : Int32) := by simp only [own_fi]; rw [if_pos fz2740, if_pos fz2741, if_pos fz2742]
     rw [hR2743]
     show Go p e below _ T2734 (mkF m 5 #[vr o, vi pos, uN] [(.int 3)])
     refine S2737.istoreN 6 #[vr o, vi pos, vi 3] (H ds__5) rfl (S2737.iloadN 7 (H ds__6) rfl (S2737.aloadN 8 (H ds__7) rfl rfl (S2737.getf (host := "") 11 (H ds__8) (Or.inl (W 81 rfl)) Via.refl FC ?_)))
     intro T2744 S2745
     refine S2745.icmpY 23 (H ds__11) (qGeT (by decide)) (S2745.iconst 24 (-1 : Int32) (H ds__23) ?_)
     exact S2745.retI (H ds__24) hret (by decide) (by decide) ⟨by simp only [own_end]; rw [if_pos fz2740, if_pos fz2741, if_pos fz2742], rfl⟩
    ·skip
     have hR2746 : (own_fi [(s0, 0), (s1, 1), (s2, 2)] (3 : Int32) pos) = (2 : Int32) := by simp only [own_fi]; rw [if_pos fz2740, if_pos fz2741, if_neg fz2742]
     rw [hR2746]
     show Go p e below _ T2734 (mkF m 5 #[vr o, vi pos, uN] [(.int 2)])
     refine S2737.istoreN 6 #[vr o, vi pos, vi 2] (H ds__5) rfl (S2737.iloadN 7 (H ds__6) rfl (S2737.aloadN 8 (H ds__7) rfl rfl (S2737.getf (host := "") 11 (H ds__8) (Or.inl (W 81 rfl)) Via.refl FC ?_)))
     intro T2747 S2748
     refine S2748.icmpN 14 (H ds__11) (qGeF (by decide)) (S2748.aloadN 15 (H ds__14) rfl rfl (S2748.getf (host := "") 18 (H ds__15) (Or.inl (W 45 rfl)) Via.refl FE ?_))
     intro T2749 S2750
     refine S2750.iloadN 19 (H ds__18) rfl (S2750.iaload (v := .int u2) 20 (H ds__19) AE ⟨by decide, by decide⟩ rfl ?_)
     refine S2750.goto 24 (H ds__20) ?_
     exact S2750.retI (H ds__24) hret (by decide) (by decide) ⟨by simp only [own_end]; rw [if_pos fz2740, if_pos fz2741, if_neg fz2742], rfl⟩
   ·skip
    have hR2751 : (own_fi [(s0, 0), (s1, 1), (s2, 2)] (3 : Int32) pos) = (1 : Int32) := by simp only [own_fi]; rw [if_pos fz2740, if_neg fz2741]
    rw [hR2751]
    show Go p e below _ T2734 (mkF m 5 #[vr o, vi pos, uN] [(.int 1)])
    refine S2737.istoreN 6 #[vr o, vi pos, vi 1] (H ds__5) rfl (S2737.iloadN 7 (H ds__6) rfl (S2737.aloadN 8 (H ds__7) rfl rfl (S2737.getf (host := "") 11 (H ds__8) (Or.inl (W 81 rfl)) Via.refl FC ?_)))
    intro T2752 S2753
    refine S2753.icmpN 14 (H ds__11) (qGeF (by decide)) (S2753.aloadN 15 (H ds__14) rfl rfl (S2753.getf (host := "") 18 (H ds__15) (Or.inl (W 45 rfl)) Via.refl FE ?_))
    intro T2754 S2755
    refine S2755.iloadN 19 (H ds__18) rfl (S2755.iaload (v := .int u1) 20 (H ds__19) AE ⟨by decide, by decide⟩ rfl ?_)
    refine S2755.goto 24 (H ds__20) ?_
    exact S2755.retI (H ds__24) hret (by decide) (by decide) ⟨by simp only [own_end]; rw [if_pos fz2740, if_neg fz2741], rfl⟩
  ·skip
   have hR2756 : (own_fi [(s0, 0), (s1, 1), (s2, 2)] (3 : Int32) pos) = (0 : Int32) := by simp only [own_fi]; rw [if_neg fz2740]
   rw [hR2756]
   show Go p e below _ T2734 (mkF m 5 #[vr o, vi pos, uN] [(.int 0)])
   refine S2737.istoreN 6 #[vr o, vi pos, vi 0] (H ds__5) rfl (S2737.iloadN 7 (H ds__6) rfl (S2737.aloadN 8 (H ds__7) rfl rfl (S2737.getf (host := "") 11 (H ds__8) (Or.inl (W 81 rfl)) Via.refl FC ?_)))
   intro T2757 S2758
   refine S2758.icmpN 14 (H ds__11) (qGeF (by decide)) (S2758.aloadN 15 (H ds__14) rfl rfl (S2758.getf (host := "") 18 (H ds__15) (Or.inl (W 45 rfl)) Via.refl FE ?_))
   intro T2759 S2760
   refine S2760.iloadN 19 (H ds__18) rfl (S2760.iaload (v := .int u0) 20 (H ds__19) AE ⟨by decide, by decide⟩ rfl ?_)
   refine S2760.goto 24 (H ds__20) ?_
   exact S2760.retI (H ds__24) hret (by decide) (by decide) ⟨by simp only [own_end]; rw [if_neg fz2740], rfl⟩


set_option maxRecDepth 65536 in
set_option maxHeartbeats 4000000 in
theorem own_b0_4 (l : Launch) (Z : State) (a0 : Array Value) (hw : ∀ d ∈ tables_1, d.before a0 Z = true) (h0 : Heap) (n0 : Nat) (O : Old Z n0 h0) (sa : Addr) (ks : ClassId) (s0 : Int32) (s1 : Int32) (s2 : Int32) (s3 : Int32) (pos : Int32) (AS : Arv Z h0 sa ks .int (8 : Int32) [(.int s0), (.int s1), (.int s2), (.int s3), (.int 0), (.int 0), (.int 0), (.int 0)] (.int 0)) (l0 : s0 < s1) (l1 : s1 < s2) (l2 : s2 < s3) :
   Con l Z n0 (⟨"java/util/Arrays", "binarySearch0", "([IIII)I"⟩ : MethodName) jdk_65_method_59_code 8 (some .int) [] ({ frames := 0, cells := 0, slots := 0, locals := 0 } : Room) #[(.ref sa), (.int 0), (.int 4), (.int pos)] h0 [] (fun v h' => (v = some (.int (own_fi [(s0, 0), (s1, 1), (s2, 2), (s3, 3)] (4 : Int32) pos)) ∨ v = some (.int (-((own_fi [(s0, 0), (s1, 1), (s2, 2), (s3, 3)] (4 : Int32) pos) + 1)))) ∧ h' = h0) := by
  refine Con.of a0 (plainFor_of_name own_pn_30) O (fun _ q => nomatch q) [] (fun _ q => nomatch q) ?_
  intro p e s m below meth cdX T S hby hml hret hnm
  have H := fun {k r} q => @hb _ _ hby k r q
  have W := @Tw a0 Z hw
  refine Go.cast (own_ef_29 m sa (0 : Int32) (4 : Int32) pos) ?_
  refine S.iloadN 1 (H dn__0) rfl (S.istore 3 #[vr sa, vi 0, vi 4, vi pos, vi 0, uN, uN, uN] (H dn__1) rfl (S.iloadN 4 (H dn__3) rfl (S.iconst 5 (1 : Int32) (H dn__4) (S.isub 6 (H dn__5) ?_))))
  rw [show (4 - 1 : Int32) = 3 from by decide]
  refine S.istore 8 #[vr sa, vi 0, vi 4, vi pos, vi 0, vi 3, uN, uN] (H dn__6) rfl (S.iload 10 (H dn__8) rfl (S.iload 12 (H dn__10) rfl (S.icmpN 15 (H dn__12) (qGtF (by decide)) (S.iload 17 (H dn__15) rfl (S.iload 19 (H dn__17) rfl (S.iadd 20 (H dn__19) ?_))))))
  rw [show (0 + 3 : Int32) = 3 from by decide]
  refine S.iconst 21 (1 : Int32) (H dn__20) (S.iushr 22 (H dn__21) ?_)
  rw [show (((3 : Int32).toUInt32 >>> ((1 : Int32) &&& 31).toUInt32).toInt32) = (1 : Int32) from by decide]
  refine S.istore 24 #[vr sa, vi 0, vi 4, vi pos, vi 0, vi 3, vi 1, uN] (H dn__22) rfl (S.aloadN 25 (H dn__24) rfl rfl (S.iload 27 (H dn__25) rfl (S.iaload (v := .int s1) 28 (H dn__27) AS ⟨by decide, by decide⟩ rfl ?_)))
  refine S.istore 30 #[vr sa, vi 0, vi 4, vi pos, vi 0, vi 3, vi 1, vi s1] (H dn__28) rfl (S.iload 32 (H dn__30) rfl (S.iloadN 33 (H dn__32) rfl ?_))
  by_cases hb2761 : s1 < pos
  ·skip
   refine S.icmpN 36 (H dn__33) (qGeF hb2761) (S.iload 38 (H dn__36) rfl (S.iconst 39 (1 : Int32) (H dn__38) (S.iadd 40 (H dn__39) ?_)))
   rw [show (1 + 1 : Int32) = 2 from by decide]
   refine S.istore 42 #[vr sa, vi 0, vi 4, vi pos, vi 2, vi 3, vi 1, vi s1] (H dn__40) rfl (S.goto 63 (H dn__42) (S.goto 8 (H dn__63) (S.iload 10 (H dn__8) rfl (S.iload 12 (H dn__10) rfl (S.icmpN 15 (H dn__12) (qGtF (by decide)) (S.iload 17 (H dn__15) rfl ?_))))))
   refine S.iload 19 (H dn__17) rfl (S.iadd 20 (H dn__19) ?_)
   rw [show (2 + 3 : Int32) = 5 from by decide]
   refine S.iconst 21 (1 : Int32) (H dn__20) (S.iushr 22 (H dn__21) ?_)
   rw [show (((5 : Int32).toUInt32 >>> ((1 : Int32) &&& 31).toUInt32).toInt32) = (2 : Int32) from by decide]
   refine S.istore 24 #[vr sa, vi 0, vi 4, vi pos, vi 2, vi 3, vi 2, vi s1] (H dn__22) rfl (S.aloadN 25 (H dn__24) rfl rfl (S.iload 27 (H dn__25) rfl (S.iaload (v := .int s2) 28 (H dn__27) AS ⟨by decide, by decide⟩ rfl ?_)))
   refine S.istore 30 #[vr sa, vi 0, vi 4, vi pos, vi 2, vi 3, vi 2, vi s2] (H dn__28) rfl (S.iload 32 (H dn__30) rfl (S.iloadN 33 (H dn__32) rfl ?_))
   by_cases hb2762 : s2 < pos
   ·skip
    refine S.icmpN 36 (H dn__33) (qGeF hb2762) (S.iload 38 (H dn__36) rfl (S.iconst 39 (1 : Int32) (H dn__38) (S.iadd 40 (H dn__39) ?_)))
    rw [show (2 + 1 : Int32) = 3 from by decide]
    refine S.istore 42 #[vr sa, vi 0, vi 4, vi pos, vi 3, vi 3, vi 2, vi s2] (H dn__40) rfl (S.goto 63 (H dn__42) (S.goto 8 (H dn__63) (S.iload 10 (H dn__8) rfl (S.iload 12 (H dn__10) rfl (S.icmpN 15 (H dn__12) (qGtF (by decide)) (S.iload 17 (H dn__15) rfl ?_))))))
    refine S.iload 19 (H dn__17) rfl (S.iadd 20 (H dn__19) ?_)
    rw [show (3 + 3 : Int32) = 6 from by decide]
    refine S.iconst 21 (1 : Int32) (H dn__20) (S.iushr 22 (H dn__21) ?_)
    rw [show (((6 : Int32).toUInt32 >>> ((1 : Int32) &&& 31).toUInt32).toInt32) = (3 : Int32) from by decide]
    refine S.istore 24 #[vr sa, vi 0, vi 4, vi pos, vi 3, vi 3, vi 3, vi s2] (H dn__22) rfl (S.aloadN 25 (H dn__24) rfl rfl (S.iload 27 (H dn__25) rfl (S.iaload (v := .int s3) 28 (H dn__27) AS ⟨by decide, by decide⟩ rfl ?_)))
    refine S.istore 30 #[vr sa, vi 0, vi 4, vi pos, vi 3, vi 3, vi 3, vi s3] (H dn__28) rfl (S.iload 32 (H dn__30) rfl (S.iloadN 33 (H dn__32) rfl ?_))
    by_cases hb2763 : s3 < pos
    ·skip
     refine S.icmpN 36 (H dn__33) (qGeF hb2763) (S.iload 38 (H dn__36) rfl (S.iconst 39 (1 : Int32) (H dn__38) (S.iadd 40 (H dn__39) ?_)))
     rw [show (3 + 1 : Int32) = 4 from by decide]
     refine S.istore 42 #[vr sa, vi 0, vi 4, vi pos, vi 4, vi 3, vi 3, vi s3] (H dn__40) rfl (S.goto 63 (H dn__42) (S.goto 8 (H dn__63) (S.iload 10 (H dn__8) rfl (S.iload 12 (H dn__10) rfl (S.icmpY 66 (H dn__12) (qGtT (by decide)) (S.iload 68 (H dn__66) rfl ?_))))))
     refine S.iconst 69 (1 : Int32) (H dn__68) (S.iadd 70 (H dn__69) ?_)
     rw [show (4 + 1 : Int32) = 5 from by decide]
     refine S.ineg 71 (H dn__70) ?_
     have hR2764 : (own_fi [(s0, 0), (s1, 1), (s2, 2), (s3, 3)] (4 : Int32) pos) = (4 : Int32) := by simp only [own_fi]; rw [if_pos (own_tr l0 hb2761), if_pos hb2761, if_pos hb2762, if_pos hb2763]
     exact S.retI (H dn__71) hret (by decide) (by decide) ⟨Or.inr (by rw [hR2764] <;> rfl), rfl⟩
    ·skip
     refine S.icmpY 45 (H dn__33) (qGeT hb2763) (S.iload 47 (H dn__45) rfl (S.iloadN 48 (H dn__47) rfl ?_))
     by_cases hb2765 : pos < s3
     ·skip
      refine S.icmpN 51 (H dn__48) (qLeF hb2765) (S.iload 53 (H dn__51) rfl (S.iconst 54 (1 : Int32) (H dn__53) (S.isub 55 (H dn__54) ?_)))
      rw [show (3 - 1 : Int32) = 2 from by decide]
      refine S.istore 57 #[vr sa, vi 0, vi 4, vi pos, vi 3, vi 2, vi 3, vi s3] (H dn__55) rfl (S.goto 63 (H dn__57) (S.goto 8 (H dn__63) (S.iload 10 (H dn__8) rfl (S.iload 12 (H dn__10) rfl (S.icmpY 66 (H dn__12) (qGtT (by decide)) (S.iload 68 (H dn__66) rfl ?_))))))
      refine S.iconst 69 (1 : Int32) (H dn__68) (S.iadd 70 (H dn__69) ?_)
      rw [show (3 + 1 : Int32) = 4 from by decide]
      refine S.ineg 71 (H dn__70) ?_
      have hR2766 : (own_fi [(s0, 0), (s1, 1), (s2, 2), (s3, 3)] (4 : Int32) pos) = (3 : Int32) := by simp only [own_fi]; rw [if_pos (own_tr l0 hb2761), if_pos hb2761, if_pos hb2762, if_neg hb2763]
      exact S.retI (H dn__71) hret (by decide) (by decide) ⟨Or.inr (by rw [hR2766] <;> rfl), rfl⟩
     ·skip
      refine S.icmpY 60 (H dn__48) (qLeT hb2765) (S.iload 62 (H dn__60) rfl ?_)
      have hR2767 : (own_fi [(s0, 0), (s1, 1), (s2, 2), (s3, 3)] (4 : Int32) pos) = (3 : Int32) := by simp only [own_fi]; rw [if_pos (own_tr l0 hb2761), if_pos hb2761, if_pos hb2762, if_neg hb2763]
      exact S.retI (H dn__62) hret (by decide) (by decide) ⟨Or.inl (by rw [hR2767] <;> rfl), rfl⟩
   ·skip
    refine S.icmpY 45 (H dn__33) (qGeT hb2762) (S.iload 47 (H dn__45) rfl (S.iloadN 48 (H dn__47) rfl ?_))
    by_cases hb2768 : pos < s2
    ·skip
     refine S.icmpN 51 (H dn__48) (qLeF hb2768) (S.iload 53 (H dn__51) rfl (S.iconst 54 (1 : Int32) (H dn__53) (S.isub 55 (H dn__54) ?_)))
     rw [show (2 - 1 : Int32) = 1 from by decide]
     refine S.istore 57 #[vr sa, vi 0, vi 4, vi pos, vi 2, vi 1, vi 2, vi s2] (H dn__55) rfl (S.goto 63 (H dn__57) (S.goto 8 (H dn__63) (S.iload 10 (H dn__8) rfl (S.iload 12 (H dn__10) rfl (S.icmpY 66 (H dn__12) (qGtT (by decide)) (S.iload 68 (H dn__66) rfl ?_))))))
     refine S.iconst 69 (1 : Int32) (H dn__68) (S.iadd 70 (H dn__69) ?_)
     rw [show (2 + 1 : Int32) = 3 from by decide]
     refine S.ineg 71 (H dn__70) ?_
     have hR2769 : (own_fi [(s0, 0), (s1, 1), (s2, 2), (s3, 3)] (4 : Int32) pos) = (2 : Int32) := by simp only [own_fi]; rw [if_pos (own_tr l0 hb2761), if_pos hb2761, if_neg hb2762]
     exact S.retI (H dn__71) hret (by decide) (by decide) ⟨Or.inr (by rw [hR2769] <;> rfl), rfl⟩
    ·skip
     refine S.icmpY 60 (H dn__48) (qLeT hb2768) (S.iload 62 (H dn__60) rfl ?_)
     have hR2770 : (own_fi [(s0, 0), (s1, 1), (s2, 2), (s3, 3)] (4 : Int32) pos) = (2 : Int32) := by simp only [own_fi]; rw [if_pos (own_tr l0 hb2761), if_pos hb2761, if_neg hb2762]
     exact S.retI (H dn__62) hret (by decide) (by decide) ⟨Or.inl (by rw [hR2770] <;> rfl), rfl⟩
  ·skip
   refine S.icmpY 45 (H dn__33) (qGeT hb2761) (S.iload 47 (H dn__45) rfl (S.iloadN 48 (H dn__47) rfl ?_))
   by_cases hb2771 : pos < s1
   ·skip
    refine S.icmpN 51 (H dn__48) (qLeF hb2771) (S.iload 53 (H dn__51) rfl (S.iconst 54 (1 : Int32) (H dn__53) (S.isub 55 (H dn__54) ?_)))
    rw [show (1 - 1 : Int32) = 0 from by decide]
    refine S.istore 57 #[vr sa, vi 0, vi 4, vi pos, vi 0, vi 0, vi 1, vi s1] (H dn__55) rfl (S.goto 63 (H dn__57) (S.goto 8 (H dn__63) (S.iload 10 (H dn__8) rfl (S.iload 12 (H dn__10) rfl (S.icmpN 15 (H dn__12) (qGtF (by decide)) (S.iload 17 (H dn__15) rfl ?_))))))
    refine S.iload 19 (H dn__17) rfl (S.iadd 20 (H dn__19) ?_)
    rw [show (0 + 0 : Int32) = 0 from by decide]
    refine S.iconst 21 (1 : Int32) (H dn__20) (S.iushr 22 (H dn__21) ?_)
    rw [show (((0 : Int32).toUInt32 >>> ((1 : Int32) &&& 31).toUInt32).toInt32) = (0 : Int32) from by decide]
    refine S.istore 24 #[vr sa, vi 0, vi 4, vi pos, vi 0, vi 0, vi 0, vi s1] (H dn__22) rfl (S.aloadN 25 (H dn__24) rfl rfl (S.iload 27 (H dn__25) rfl (S.iaload (v := .int s0) 28 (H dn__27) AS ⟨by decide, by decide⟩ rfl ?_)))
    refine S.istore 30 #[vr sa, vi 0, vi 4, vi pos, vi 0, vi 0, vi 0, vi s0] (H dn__28) rfl (S.iload 32 (H dn__30) rfl (S.iloadN 33 (H dn__32) rfl ?_))
    by_cases hb2772 : s0 < pos
    ·skip
     refine S.icmpN 36 (H dn__33) (qGeF hb2772) (S.iload 38 (H dn__36) rfl (S.iconst 39 (1 : Int32) (H dn__38) (S.iadd 40 (H dn__39) ?_)))
     rw [show (0 + 1 : Int32) = 1 from by decide]
     refine S.istore 42 #[vr sa, vi 0, vi 4, vi pos, vi 1, vi 0, vi 0, vi s0] (H dn__40) rfl (S.goto 63 (H dn__42) (S.goto 8 (H dn__63) (S.iload 10 (H dn__8) rfl (S.iload 12 (H dn__10) rfl (S.icmpY 66 (H dn__12) (qGtT (by decide)) (S.iload 68 (H dn__66) rfl ?_))))))
     refine S.iconst 69 (1 : Int32) (H dn__68) (S.iadd 70 (H dn__69) ?_)
     rw [show (1 + 1 : Int32) = 2 from by decide]
     refine S.ineg 71 (H dn__70) ?_
     have hR2773 : (own_fi [(s0, 0), (s1, 1), (s2, 2), (s3, 3)] (4 : Int32) pos) = (1 : Int32) := by simp only [own_fi]; rw [if_pos hb2772, if_neg hb2761]
     exact S.retI (H dn__71) hret (by decide) (by decide) ⟨Or.inr (by rw [hR2773] <;> rfl), rfl⟩
    ·skip
     refine S.icmpY 45 (H dn__33) (qGeT hb2772) (S.iload 47 (H dn__45) rfl (S.iloadN 48 (H dn__47) rfl ?_))
     by_cases hb2774 : pos < s0
     ·skip
      refine S.icmpN 51 (H dn__48) (qLeF hb2774) (S.iload 53 (H dn__51) rfl (S.iconst 54 (1 : Int32) (H dn__53) (S.isub 55 (H dn__54) ?_)))
      rw [show (0 - 1 : Int32) = -1 from by decide]
      refine S.istore 57 #[vr sa, vi 0, vi 4, vi pos, vi 0, vi (-1), vi 0, vi s0] (H dn__55) rfl (S.goto 63 (H dn__57) (S.goto 8 (H dn__63) (S.iload 10 (H dn__8) rfl (S.iload 12 (H dn__10) rfl (S.icmpY 66 (H dn__12) (qGtT (by decide)) (S.iload 68 (H dn__66) rfl ?_))))))
      refine S.iconst 69 (1 : Int32) (H dn__68) (S.iadd 70 (H dn__69) ?_)
      rw [show (0 + 1 : Int32) = 1 from by decide]
      refine S.ineg 71 (H dn__70) ?_
      have hR2775 : (own_fi [(s0, 0), (s1, 1), (s2, 2), (s3, 3)] (4 : Int32) pos) = (0 : Int32) := by simp only [own_fi]; rw [if_neg hb2772]
      exact S.retI (H dn__71) hret (by decide) (by decide) ⟨Or.inr (by rw [hR2775] <;> rfl), rfl⟩
     ·skip
      refine S.icmpY 60 (H dn__48) (qLeT hb2774) (S.iload 62 (H dn__60) rfl ?_)
      have hR2776 : (own_fi [(s0, 0), (s1, 1), (s2, 2), (s3, 3)] (4 : Int32) pos) = (0 : Int32) := by simp only [own_fi]; rw [if_neg hb2772]
      exact S.retI (H dn__62) hret (by decide) (by decide) ⟨Or.inl (by rw [hR2776] <;> rfl), rfl⟩
   ·skip
    refine S.icmpY 60 (H dn__48) (qLeT hb2771) (S.iload 62 (H dn__60) rfl ?_)
    have hR2777 : (own_fi [(s0, 0), (s1, 1), (s2, 2), (s3, 3)] (4 : Int32) pos) = (1 : Int32) := by simp only [own_fi]; rw [if_pos (own_tr2 l0 hb2771), if_neg hb2761]
    exact S.retI (H dn__62) hret (by decide) (by decide) ⟨Or.inl (by rw [hR2777] <;> rfl), rfl⟩


set_option maxRecDepth 65536 in
set_option maxHeartbeats 4000000 in
theorem own_rck_4 (l : Launch) (Z : State) (a0 : Array Value) (hw : ∀ d ∈ tables_1, d.before a0 Z = true) (h0 : Heap) (n0 : Nat) (O : Old Z n0 h0) :
   Con l Z n0 (⟨"java/util/Arrays", "rangeCheck", "(III)V"⟩ : MethodName) jdk_65_method_30_code 3 none [] ({ frames := 0, cells := 0, slots := 0, locals := 0 } : Room) #[(.int 8), (.int 0), (.int 4)] h0 [] (fun v h' => v = none ∧ h' = h0) := by
  refine Con.of a0 (plainFor_of_name own_pn_30) O (fun _ q => nomatch q) [] (fun _ q => nomatch q) ?_
  intro p e s m below meth cdX T S hby hml hret hnm
  have H := fun {k r} q => @hb _ _ hby k r q
  have W := @Tw a0 Z hw
  refine Go.cast (own_ef_31 m (8 : Int32) (0 : Int32) (4 : Int32)) ?_
  refine S.iloadN 1 (H dl__0) rfl (S.iloadN 2 (H dl__1) rfl (S.icmpY 46 (H dl__2) (qLeT (by decide)) (S.iloadN 47 (H dl__46) rfl (S.ifY 59 (H dl__47) (zGeT (by decide)) (S.iloadN 60 (H dl__59) rfl (S.iloadN 61 (H dl__60) rfl ?_))))))
  refine S.icmpY 73 (H dl__61) (qLeT (by decide)) ?_
  exact S.ret0 (H dl__73) hret (by decide) (by decide) ⟨rfl, rfl⟩


set_option maxRecDepth 65536 in
set_option maxHeartbeats 4000000 in
theorem own_bs_4 (l : Launch) (Z : State) (a0 : Array Value) (hw : ∀ d ∈ tables_1, d.before a0 Z = true) (h0 : Heap) (n0 : Nat) (O : Old Z n0 h0) (sa : Addr) (ks : ClassId) (s0 : Int32) (s1 : Int32) (s2 : Int32) (s3 : Int32) (pos : Int32) (AS : Arv Z h0 sa ks .int (8 : Int32) [(.int s0), (.int s1), (.int s2), (.int s3), (.int 0), (.int 0), (.int 0), (.int 0)] (.int 0)) (l0 : s0 < s1) (l1 : s1 < s2) (l2 : s2 < s3) :
   Con l Z n0 (⟨"java/util/Arrays", "binarySearch", "([IIII)I"⟩ : MethodName) jdk_65_method_58_code 4 (some .int) [] ({ frames := 1, cells := 0, slots := 0, locals := 20 } : Room) #[(.ref sa), (.int 0), (.int 4), (.int pos)] h0 [] (fun v h' => (v = some (.int (own_fi [(s0, 0), (s1, 1), (s2, 2), (s3, 3)] (4 : Int32) pos)) ∨ v = some (.int (-((own_fi [(s0, 0), (s1, 1), (s2, 2), (s3, 3)] (4 : Int32) pos) + 1)))) ∧ h' = h0) := by
  refine Con.of a0 (plainFor_of_name own_pn_30) O (fun _ q => nomatch q) [] (fun _ q => nomatch q) ?_
  intro p e s m below meth cdX T S hby hml hret hnm
  have H := fun {k r} q => @hb _ _ hby k r q
  have W := @Tw a0 Z hw
  refine Go.cast (own_ef_32 m sa (0 : Int32) (4 : Int32) pos) ?_
  refine S.aloadN 1 (H dm__0) rfl rfl (S.alen 2 (H dm__1) AS ?_)
  refine S.iloadN 3 (H dm__2) rfl (S.iloadN 4 (H dm__3) rfl (S.scall 7 (H dm__4) hml.symm (W 87 rfl) (W 88 rfl) (W 85 rfl) (W 89 rfl) (by decide) [(.int 8), (.int 0), (.int 4)] [] (Con.pay (W := 0) (own_rck_4 l Z a0 hw h0 n0 S.old) (W 89 rfl) (W 85 rfl) (by decide) (by decide)) (lenOf own_pd_33 rfl) rfl (Nle rfl) (by decide) (by decide) Wrs.nil ?_))
  intro v2778 T2779 h2780 L2781 S2782 q2783 K2784
  obtain ⟨rfl, e_q2783⟩ := q2783
  obtain rfl := e_q2783.symm
  show Go p e below _ T2779 (mkF m 7 #[vr sa, vi 0, vi 4, vi pos] [])
  refine S2782.aloadN 8 (H dm__7) rfl rfl (S2782.iloadN 9 (H dm__8) rfl (S2782.iloadN 10 (H dm__9) rfl (S2782.iloadN 11 (H dm__10) rfl (S2782.scall 14 (H dm__11) hml.symm (W 90 rfl) (W 91 rfl) (W 85 rfl) (W 92 rfl) (by decide) [(.ref sa), (.int 0), (.int 4), (.int pos)] [] (Con.pay (W := 0) (own_b0_4 l Z a0 hw h0 n0 S2782.old sa ks s0 s1 s2 s3 pos AS l0 l1 l2) (W 92 rfl) (W 85 rfl) (by decide) (by decide)) (lenOf own_pd_34 rfl) rfl (Nle rfl) (by decide) (by decide) Wrs.nil ?_))))
  intro v2785 T2786 h2787 L2788 S2789 q2790 K2791
  obtain ⟨hq_q2790, e_q2790⟩ := q2790
  obtain rfl := e_q2790.symm
  rcases hq_q2790 with rfl | rfl
  ·skip
   show Go p e below _ T2786 (mkF m 14 #[vr sa, vi 0, vi 4, vi pos] [(.int (own_fi [(s0, 0), (s1, 1), (s2, 2), (s3, 3)] (4 : Int32) pos))])
   exact S2789.retI (H dm__14) hret (by decide) (by decide) ⟨Or.inl rfl, rfl⟩
  ·skip
   show Go p e below _ T2786 (mkF m 14 #[vr sa, vi 0, vi 4, vi pos] [(.int (-((own_fi [(s0, 0), (s1, 1), (s2, 2), (s3, 3)] (4 : Int32) pos) + 1)))])
   exact S2789.retI (H dm__14) hret (by decide) (by decide) ⟨Or.inr rfl, rfl⟩


set_option maxRecDepth 65536 in
set_option maxHeartbeats 4000000 in
theorem own_ff_4 (l : Launch) (Z : State) (a0 : Array Value) (hw : ∀ d ∈ tables_1, d.before a0 Z = true) (h0 : Heap) (n0 : Nat) (O : Old Z n0 h0) (o : Addr) (sa : Addr) (ea : Addr) (ks : ClassId) (ke : ClassId) (s0 : Int32) (s1 : Int32) (s2 : Int32) (s3 : Int32) (u0 : Int32) (u1 : Int32) (u2 : Int32) (u3 : Int32) (pos : Int32) (E : Exa Z h0 o "com/example/oref/oref/wikipedia/Matches") (FC : Fld Z h0 o "com/example/oref/oref/wikipedia/Matches" "count" "I" (.int 4)) (FS : Fld Z h0 o "com/example/oref/oref/wikipedia/Matches" "starts" "[I" (.ref sa)) (FE : Fld Z h0 o "com/example/oref/oref/wikipedia/Matches" "ends" "[I" (.ref ea)) (AS : Arv Z h0 sa ks .int (8 : Int32) [(.int s0), (.int s1), (.int s2), (.int s3), (.int 0), (.int 0), (.int 0), (.int 0)] (.int 0)) (AE : Arv Z h0 ea ke .int (8 : Int32) [(.int u0), (.int u1), (.int u2), (.int u3), (.int 0), (.int 0), (.int 0), (.int 0)] (.int 0)) (l0 : s0 < s1) (l1 : s1 < s2) (l2 : s2 < s3) :
   Con l Z n0 (⟨"com/example/oref/oref/wikipedia/Matches", "firstFrom", "(I)I"⟩ : MethodName) prog_29_method_6_code 3 (some .int) [] ({ frames := 2, cells := 0, slots := 0, locals := 40 } : Room) #[(.ref o), (.int pos)] h0 [] (fun v h' => v = some (.int (own_fi [(s0, 0), (s1, 1), (s2, 2), (s3, 3)] (4 : Int32) pos)) ∧ h' = h0) := by
  refine Con.of a0 (plainFor_of_name own_pn_24) O (fun _ q => nomatch q) [] (fun _ q => nomatch q) ?_
  intro p e s m below meth cdX T S hby hml hret hnm
  have H := fun {k r} q => @hb _ _ hby k r q
  have W := @Tw a0 Z hw
  refine Go.cast (own_ef_35 m o pos) ?_
  have hB : 0 ≤ (own_fi [(s0, 0), (s1, 1), (s2, 2), (s3, 3)] (4 : Int32) pos).toInt ∧ (own_fi [(s0, 0), (s1, 1), (s2, 2), (s3, 3)] (4 : Int32) pos).toInt ≤ 8 := own_fi_b ⟨by decide, by decide⟩ (by
    intro q hq
    simp only [List.mem_cons, List.not_mem_nil, or_false] at hq
    rcases hq with rfl | rfl | rfl | rfl <;> exact ⟨by dsimp only; decide, by dsimp only; decide⟩)
  refine S.aloadN 1 (H dt__0) rfl rfl (S.getf (host := "") 4 (H dt__1) (Or.inl (W 43 rfl)) Via.refl FS ?_)
  intro T2792 S2793
  refine S2793.iconst 5 (0 : Int32) (H dt__4) (S2793.aloadN 6 (H dt__5) rfl rfl (S2793.getf (host := "") 9 (H dt__6) (Or.inl (W 81 rfl)) Via.refl FC ?_))
  intro T2794 S2795
  refine S2795.iloadN 10 (H dt__9) rfl (S2795.scall 13 (H dt__10) hml.symm (W 83 rfl) (W 84 rfl) (W 85 rfl) (W 86 rfl) (by decide) [(.ref sa), (.int 0), (.int 4), (.int pos)] [] (Con.pay (W := 0) (own_bs_4 l Z a0 hw h0 n0 S2795.old sa ks s0 s1 s2 s3 pos AS l0 l1 l2) (W 86 rfl) (W 85 rfl) (by decide) (by decide)) (lenOf own_pd_34 rfl) rfl (Nle rfl) (by decide) (by decide) Wrs.nil ?_)
  intro v2796 T2797 h2798 L2799 S2800 q2801 K2802
  obtain ⟨hq_q2801, e_q2801⟩ := q2801
  obtain rfl := e_q2801.symm
  rcases hq_q2801 with rfl | rfl
  ·skip
   show Go p e below _ T2797 (mkF m 13 #[vr o, vi pos, uN] [(.int (own_fi [(s0, 0), (s1, 1), (s2, 2), (s3, 3)] (4 : Int32) pos))])
   refine S2800.istoreN 14 #[vr o, vi pos, vi (own_fi [(s0, 0), (s1, 1), (s2, 2), (s3, 3)] (4 : Int32) pos)] (H dt__13) rfl (S2800.iloadN 15 (H dt__14) rfl (S2800.ifN 18 (H dt__15) (zLtF (own_nn hB)) (S2800.iloadN 19 (H dt__18) rfl (S2800.goto 26 (H dt__19) ?_))))
   exact S2800.retI (H dt__26) hret (by decide) (by decide) ⟨rfl, rfl⟩
  ·skip
   show Go p e below _ T2797 (mkF m 13 #[vr o, vi pos, uN] [(.int (-((own_fi [(s0, 0), (s1, 1), (s2, 2), (s3, 3)] (4 : Int32) pos) + 1)))])
   refine S2800.istoreN 14 #[vr o, vi pos, .val (.int (-((own_fi [(s0, 0), (s1, 1), (s2, 2), (s3, 3)] (4 : Int32) pos) + 1)))] (H dt__13) rfl (S2800.iloadN 15 (H dt__14) rfl (S2800.ifY 22 (H dt__15) (zLtT (own_ng hB)) (S2800.iloadN 23 (H dt__22) rfl (S2800.ineg 24 (H dt__23) ?_))))
   refine S2800.iconst 25 (1 : Int32) (H dt__24) (S2800.isub 26 (H dt__25) ?_)
   show Go p e below _ T2797 (mkF m 26 #[vr o, vi pos, .val (.int (-((own_fi [(s0, 0), (s1, 1), (s2, 2), (s3, 3)] (4 : Int32) pos) + 1)))] [(.int ((-(-((own_fi [(s0, 0), (s1, 1), (s2, 2), (s3, 3)] (4 : Int32) pos) + 1))) - (1 : Int32)))])
   rw [own_bk]
   exact S2800.retI (H dt__26) hret (by decide) (by decide) ⟨rfl, rfl⟩


set_option maxRecDepth 65536 in
set_option maxHeartbeats 4000000 in
theorem own_eff_4 (l : Launch) (Z : State) (a0 : Array Value) (hw : ∀ d ∈ tables_1, d.before a0 Z = true) (h0 : Heap) (n0 : Nat) (O : Old Z n0 h0) (o : Addr) (sa : Addr) (ea : Addr) (ks : ClassId) (ke : ClassId) (s0 : Int32) (s1 : Int32) (s2 : Int32) (s3 : Int32) (u0 : Int32) (u1 : Int32) (u2 : Int32) (u3 : Int32) (pos : Int32) (E : Exa Z h0 o "com/example/oref/oref/wikipedia/Matches") (FC : Fld Z h0 o "com/example/oref/oref/wikipedia/Matches" "count" "I" (.int 4)) (FS : Fld Z h0 o "com/example/oref/oref/wikipedia/Matches" "starts" "[I" (.ref sa)) (FE : Fld Z h0 o "com/example/oref/oref/wikipedia/Matches" "ends" "[I" (.ref ea)) (AS : Arv Z h0 sa ks .int (8 : Int32) [(.int s0), (.int s1), (.int s2), (.int s3), (.int 0), (.int 0), (.int 0), (.int 0)] (.int 0)) (AE : Arv Z h0 ea ke .int (8 : Int32) [(.int u0), (.int u1), (.int u2), (.int u3), (.int 0), (.int 0), (.int 0), (.int 0)] (.int 0)) (l0 : s0 < s1) (l1 : s1 < s2) (l2 : s2 < s3) :
   Con l Z n0 (⟨"com/example/oref/oref/wikipedia/Matches", "endFrom", "(I)I"⟩ : MethodName) prog_29_method_5_code 3 (some .int) [] ({ frames := 3, cells := 0, slots := 0, locals := 60 } : Room) #[(.ref o), (.int pos)] h0 [] (fun v h' => v = some (.int (own_end [(s0, u0), (s1, u1), (s2, u2), (s3, u3)] pos)) ∧ h' = h0) := by
  refine Con.of a0 (plainFor_of_name own_pn_24) O (fun _ q => nomatch q) [] (fun _ q => nomatch q) ?_
  intro p e s m below meth cdX T S hby hml hret hnm
  have H := fun {k r} q => @hb _ _ hby k r q
  have W := @Tw a0 Z hw
  refine Go.cast (own_ef_35 m o pos) ?_
  refine S.aloadN 1 (H ds__0) rfl rfl (S.iloadN 2 (H ds__1) rfl (S.pcall 5 (H ds__2) hml.symm (W 77 rfl) (W 78 rfl) (W 79 rfl) (W 80 rfl) (W 75 rfl) rfl (by decide) E [(.int pos)] [] (Con.pay (W := 0) (own_ff_4 l Z a0 hw h0 n0 S.old o sa ea ks ke s0 s1 s2 s3 u0 u1 u2 u3 pos E FC FS FE AS AE l0 l1 l2) (W 80 rfl) (W 37 rfl) (by decide) (by decide)) (lenOf own_pd_36 rfl) rfl (Nle rfl) (by decide) (by decide) Wrs.nil ?_))
  intro v2803 T2804 h2805 L2806 S2807 q2808 K2809
  obtain ⟨rfl, e_q2808⟩ := q2808
  obtain rfl := e_q2808.symm
  show Go p e below _ T2804 (mkF m 5 #[vr o, vi pos, uN] [(.int (own_fi [(s0, 0), (s1, 1), (s2, 2), (s3, 3)] (4 : Int32) pos))])
  by_cases fz2810 : s0 < pos
  ·skip
   by_cases fz2811 : s1 < pos
   ·skip
    by_cases fz2812 : s2 < pos
    ·skip
     by_cases fz2813 : s3 < pos
     ·skip
      have hR2814 : (own_fi [(s0, 0), (s1, 1), (s2, 2), (s3, 3)] (4 : Int32) pos) = (4 : Int32) := by simp only [own_fi]; rw [if_pos fz2810, if_pos fz2811, if_pos fz2812, if_pos fz2813]
      rw [hR2814]
      show Go p e below _ T2804 (mkF m 5 #[vr o, vi pos, uN] [(.int 4)])
      refine S2807.istoreN 6 #[vr o, vi pos, vi 4] (H ds__5) rfl (S2807.iloadN 7 (H ds__6) rfl (S2807.aloadN 8 (H ds__7) rfl rfl (S2807.getf (host := "") 11 (H ds__8) (Or.inl (W 81 rfl)) Via.refl FC ?_)))
      intro T2815 S2816
      refine S2816.icmpY 23 (H ds__11) (qGeT (by decide)) (S2816.iconst 24 (-1 : Int32) (H ds__23) ?_)
      exact S2816.retI (H ds__24) hret (by decide) (by decide) ⟨by simp only [own_end]; rw [if_pos fz2810, if_pos fz2811, if_pos fz2812, if_pos fz2813], rfl⟩
     ·skip
      have hR2817 : (own_fi [(s0, 0), (s1, 1), (s2, 2), (s3, 3)] (4 : Int32) pos) = (3 : Int32) := by simp only [own_fi]; rw [if_pos fz2810, if_pos fz2811, if_pos fz2812, if_neg fz2813]
      rw [hR2817]
      show Go p e below _ T2804 (mkF m 5 #[vr o, vi pos, uN] [(.int 3)])
      refine S2807.istoreN 6 #[vr o, vi pos, vi 3] (H ds__5) rfl (S2807.iloadN 7 (H ds__6) rfl (S2807.aloadN 8 (H ds__7) rfl rfl (S2807.getf (host := "") 11 (H ds__8) (Or.inl (W 81 rfl)) Via.refl FC ?_)))
      intro T2818 S2819
      refine S2819.icmpN 14 (H ds__11) (qGeF (by decide)) (S2819.aloadN 15 (H ds__14) rfl rfl (S2819.getf (host := "") 18 (H ds__15) (Or.inl (W 45 rfl)) Via.refl FE ?_))
      intro T2820 S2821
      refine S2821.iloadN 19 (H ds__18) rfl (S2821.iaload (v := .int u3) 20 (H ds__19) AE ⟨by decide, by decide⟩ rfl ?_)
      refine S2821.goto 24 (H ds__20) ?_
      exact S2821.retI (H ds__24) hret (by decide) (by decide) ⟨by simp only [own_end]; rw [if_pos fz2810, if_pos fz2811, if_pos fz2812, if_neg fz2813], rfl⟩
    ·skip
     have hR2822 : (own_fi [(s0, 0), (s1, 1), (s2, 2), (s3, 3)] (4 : Int32) pos) = (2 : Int32) := by simp only [own_fi]; rw [if_pos fz2810, if_pos fz2811, if_neg fz2812]
     rw [hR2822]
     show Go p e below _ T2804 (mkF m 5 #[vr o, vi pos, uN] [(.int 2)])
     refine S2807.istoreN 6 #[vr o, vi pos, vi 2] (H ds__5) rfl (S2807.iloadN 7 (H ds__6) rfl (S2807.aloadN 8 (H ds__7) rfl rfl (S2807.getf (host := "") 11 (H ds__8) (Or.inl (W 81 rfl)) Via.refl FC ?_)))
     intro T2823 S2824
     refine S2824.icmpN 14 (H ds__11) (qGeF (by decide)) (S2824.aloadN 15 (H ds__14) rfl rfl (S2824.getf (host := "") 18 (H ds__15) (Or.inl (W 45 rfl)) Via.refl FE ?_))
     intro T2825 S2826
     refine S2826.iloadN 19 (H ds__18) rfl (S2826.iaload (v := .int u2) 20 (H ds__19) AE ⟨by decide, by decide⟩ rfl ?_)
     refine S2826.goto 24 (H ds__20) ?_
     exact S2826.retI (H ds__24) hret (by decide) (by decide) ⟨by simp only [own_end]; rw [if_pos fz2810, if_pos fz2811, if_neg fz2812], rfl⟩
   ·skip
    have hR2827 : (own_fi [(s0, 0), (s1, 1), (s2, 2), (s3, 3)] (4 : Int32) pos) = (1 : Int32) := by simp only [own_fi]; rw [if_pos fz2810, if_neg fz2811]
    rw [hR2827]
    show Go p e below _ T2804 (mkF m 5 #[vr o, vi pos, uN] [(.int 1)])
    refine S2807.istoreN 6 #[vr o, vi pos, vi 1] (H ds__5) rfl (S2807.iloadN 7 (H ds__6) rfl (S2807.aloadN 8 (H ds__7) rfl rfl (S2807.getf (host := "") 11 (H ds__8) (Or.inl (W 81 rfl)) Via.refl FC ?_)))
    intro T2828 S2829
    refine S2829.icmpN 14 (H ds__11) (qGeF (by decide)) (S2829.aloadN 15 (H ds__14) rfl rfl (S2829.getf (host := "") 18 (H ds__15) (Or.inl (W 45 rfl)) Via.refl FE ?_))
    intro T2830 S2831
    refine S2831.iloadN 19 (H ds__18) rfl (S2831.iaload (v := .int u1) 20 (H ds__19) AE ⟨by decide, by decide⟩ rfl ?_)
    refine S2831.goto 24 (H ds__20) ?_
    exact S2831.retI (H ds__24) hret (by decide) (by decide) ⟨by simp only [own_end]; rw [if_pos fz2810, if_neg fz2811], rfl⟩
  ·skip
   have hR2832 : (own_fi [(s0, 0), (s1, 1), (s2, 2), (s3, 3)] (4 : Int32) pos) = (0 : Int32) := by simp only [own_fi]; rw [if_neg fz2810]
   rw [hR2832]
   show Go p e below _ T2804 (mkF m 5 #[vr o, vi pos, uN] [(.int 0)])
   refine S2807.istoreN 6 #[vr o, vi pos, vi 0] (H ds__5) rfl (S2807.iloadN 7 (H ds__6) rfl (S2807.aloadN 8 (H ds__7) rfl rfl (S2807.getf (host := "") 11 (H ds__8) (Or.inl (W 81 rfl)) Via.refl FC ?_)))
   intro T2833 S2834
   refine S2834.icmpN 14 (H ds__11) (qGeF (by decide)) (S2834.aloadN 15 (H ds__14) rfl rfl (S2834.getf (host := "") 18 (H ds__15) (Or.inl (W 45 rfl)) Via.refl FE ?_))
   intro T2835 S2836
   refine S2836.iloadN 19 (H ds__18) rfl (S2836.iaload (v := .int u0) 20 (H ds__19) AE ⟨by decide, by decide⟩ rfl ?_)
   refine S2836.goto 24 (H ds__20) ?_
   exact S2836.retI (H ds__24) hret (by decide) (by decide) ⟨by simp only [own_end]; rw [if_neg fz2810], rfl⟩


set_option maxRecDepth 65536 in
set_option maxHeartbeats 4000000 in
theorem own_b0_5 (l : Launch) (Z : State) (a0 : Array Value) (hw : ∀ d ∈ tables_1, d.before a0 Z = true) (h0 : Heap) (n0 : Nat) (O : Old Z n0 h0) (sa : Addr) (ks : ClassId) (s0 : Int32) (s1 : Int32) (s2 : Int32) (s3 : Int32) (s4 : Int32) (pos : Int32) (AS : Arv Z h0 sa ks .int (8 : Int32) [(.int s0), (.int s1), (.int s2), (.int s3), (.int s4), (.int 0), (.int 0), (.int 0)] (.int 0)) (l0 : s0 < s1) (l1 : s1 < s2) (l2 : s2 < s3) (l3 : s3 < s4) :
   Con l Z n0 (⟨"java/util/Arrays", "binarySearch0", "([IIII)I"⟩ : MethodName) jdk_65_method_59_code 8 (some .int) [] ({ frames := 0, cells := 0, slots := 0, locals := 0 } : Room) #[(.ref sa), (.int 0), (.int 5), (.int pos)] h0 [] (fun v h' => (v = some (.int (own_fi [(s0, 0), (s1, 1), (s2, 2), (s3, 3), (s4, 4)] (5 : Int32) pos)) ∨ v = some (.int (-((own_fi [(s0, 0), (s1, 1), (s2, 2), (s3, 3), (s4, 4)] (5 : Int32) pos) + 1)))) ∧ h' = h0) := by
  refine Con.of a0 (plainFor_of_name own_pn_30) O (fun _ q => nomatch q) [] (fun _ q => nomatch q) ?_
  intro p e s m below meth cdX T S hby hml hret hnm
  have H := fun {k r} q => @hb _ _ hby k r q
  have W := @Tw a0 Z hw
  refine Go.cast (own_ef_29 m sa (0 : Int32) (5 : Int32) pos) ?_
  refine S.iloadN 1 (H dn__0) rfl (S.istore 3 #[vr sa, vi 0, vi 5, vi pos, vi 0, uN, uN, uN] (H dn__1) rfl (S.iloadN 4 (H dn__3) rfl (S.iconst 5 (1 : Int32) (H dn__4) (S.isub 6 (H dn__5) ?_))))
  rw [show (5 - 1 : Int32) = 4 from by decide]
  refine S.istore 8 #[vr sa, vi 0, vi 5, vi pos, vi 0, vi 4, uN, uN] (H dn__6) rfl (S.iload 10 (H dn__8) rfl (S.iload 12 (H dn__10) rfl (S.icmpN 15 (H dn__12) (qGtF (by decide)) (S.iload 17 (H dn__15) rfl (S.iload 19 (H dn__17) rfl (S.iadd 20 (H dn__19) ?_))))))
  rw [show (0 + 4 : Int32) = 4 from by decide]
  refine S.iconst 21 (1 : Int32) (H dn__20) (S.iushr 22 (H dn__21) ?_)
  rw [show (((4 : Int32).toUInt32 >>> ((1 : Int32) &&& 31).toUInt32).toInt32) = (2 : Int32) from by decide]
  refine S.istore 24 #[vr sa, vi 0, vi 5, vi pos, vi 0, vi 4, vi 2, uN] (H dn__22) rfl (S.aloadN 25 (H dn__24) rfl rfl (S.iload 27 (H dn__25) rfl (S.iaload (v := .int s2) 28 (H dn__27) AS ⟨by decide, by decide⟩ rfl ?_)))
  refine S.istore 30 #[vr sa, vi 0, vi 5, vi pos, vi 0, vi 4, vi 2, vi s2] (H dn__28) rfl (S.iload 32 (H dn__30) rfl (S.iloadN 33 (H dn__32) rfl ?_))
  by_cases hb2837 : s2 < pos
  ·skip
   refine S.icmpN 36 (H dn__33) (qGeF hb2837) (S.iload 38 (H dn__36) rfl (S.iconst 39 (1 : Int32) (H dn__38) (S.iadd 40 (H dn__39) ?_)))
   rw [show (2 + 1 : Int32) = 3 from by decide]
   refine S.istore 42 #[vr sa, vi 0, vi 5, vi pos, vi 3, vi 4, vi 2, vi s2] (H dn__40) rfl (S.goto 63 (H dn__42) (S.goto 8 (H dn__63) (S.iload 10 (H dn__8) rfl (S.iload 12 (H dn__10) rfl (S.icmpN 15 (H dn__12) (qGtF (by decide)) (S.iload 17 (H dn__15) rfl ?_))))))
   refine S.iload 19 (H dn__17) rfl (S.iadd 20 (H dn__19) ?_)
   rw [show (3 + 4 : Int32) = 7 from by decide]
   refine S.iconst 21 (1 : Int32) (H dn__20) (S.iushr 22 (H dn__21) ?_)
   rw [show (((7 : Int32).toUInt32 >>> ((1 : Int32) &&& 31).toUInt32).toInt32) = (3 : Int32) from by decide]
   refine S.istore 24 #[vr sa, vi 0, vi 5, vi pos, vi 3, vi 4, vi 3, vi s2] (H dn__22) rfl (S.aloadN 25 (H dn__24) rfl rfl (S.iload 27 (H dn__25) rfl (S.iaload (v := .int s3) 28 (H dn__27) AS ⟨by decide, by decide⟩ rfl ?_)))
   refine S.istore 30 #[vr sa, vi 0, vi 5, vi pos, vi 3, vi 4, vi 3, vi s3] (H dn__28) rfl (S.iload 32 (H dn__30) rfl (S.iloadN 33 (H dn__32) rfl ?_))
   by_cases hb2838 : s3 < pos
   ·skip
    refine S.icmpN 36 (H dn__33) (qGeF hb2838) (S.iload 38 (H dn__36) rfl (S.iconst 39 (1 : Int32) (H dn__38) (S.iadd 40 (H dn__39) ?_)))
    rw [show (3 + 1 : Int32) = 4 from by decide]
    refine S.istore 42 #[vr sa, vi 0, vi 5, vi pos, vi 4, vi 4, vi 3, vi s3] (H dn__40) rfl (S.goto 63 (H dn__42) (S.goto 8 (H dn__63) (S.iload 10 (H dn__8) rfl (S.iload 12 (H dn__10) rfl (S.icmpN 15 (H dn__12) (qGtF (by decide)) (S.iload 17 (H dn__15) rfl ?_))))))
    refine S.iload 19 (H dn__17) rfl (S.iadd 20 (H dn__19) ?_)
    rw [show (4 + 4 : Int32) = 8 from by decide]
    refine S.iconst 21 (1 : Int32) (H dn__20) (S.iushr 22 (H dn__21) ?_)
    rw [show (((8 : Int32).toUInt32 >>> ((1 : Int32) &&& 31).toUInt32).toInt32) = (4 : Int32) from by decide]
    refine S.istore 24 #[vr sa, vi 0, vi 5, vi pos, vi 4, vi 4, vi 4, vi s3] (H dn__22) rfl (S.aloadN 25 (H dn__24) rfl rfl (S.iload 27 (H dn__25) rfl (S.iaload (v := .int s4) 28 (H dn__27) AS ⟨by decide, by decide⟩ rfl ?_)))
    refine S.istore 30 #[vr sa, vi 0, vi 5, vi pos, vi 4, vi 4, vi 4, vi s4] (H dn__28) rfl (S.iload 32 (H dn__30) rfl (S.iloadN 33 (H dn__32) rfl ?_))
    by_cases hb2839 : s4 < pos
    ·skip
     refine S.icmpN 36 (H dn__33) (qGeF hb2839) (S.iload 38 (H dn__36) rfl (S.iconst 39 (1 : Int32) (H dn__38) (S.iadd 40 (H dn__39) ?_)))
     rw [show (4 + 1 : Int32) = 5 from by decide]
     refine S.istore 42 #[vr sa, vi 0, vi 5, vi pos, vi 5, vi 4, vi 4, vi s4] (H dn__40) rfl (S.goto 63 (H dn__42) (S.goto 8 (H dn__63) (S.iload 10 (H dn__8) rfl (S.iload 12 (H dn__10) rfl (S.icmpY 66 (H dn__12) (qGtT (by decide)) (S.iload 68 (H dn__66) rfl ?_))))))
     refine S.iconst 69 (1 : Int32) (H dn__68) (S.iadd 70 (H dn__69) ?_)
     rw [show (5 + 1 : Int32) = 6 from by decide]
     refine S.ineg 71 (H dn__70) ?_
     have hR2840 : (own_fi [(s0, 0), (s1, 1), (s2, 2), (s3, 3), (s4, 4)] (5 : Int32) pos) = (5 : Int32) := by simp only [own_fi]; rw [if_pos (own_tr l0 (own_tr l1 hb2837)), if_pos (own_tr l1 hb2837), if_pos hb2837, if_pos hb2838, if_pos hb2839]
     exact S.retI (H dn__71) hret (by decide) (by decide) ⟨Or.inr (by rw [hR2840] <;> rfl), rfl⟩
    ·skip
     refine S.icmpY 45 (H dn__33) (qGeT hb2839) (S.iload 47 (H dn__45) rfl (S.iloadN 48 (H dn__47) rfl ?_))
     by_cases hb2841 : pos < s4
     ·skip
      refine S.icmpN 51 (H dn__48) (qLeF hb2841) (S.iload 53 (H dn__51) rfl (S.iconst 54 (1 : Int32) (H dn__53) (S.isub 55 (H dn__54) ?_)))
      rw [show (4 - 1 : Int32) = 3 from by decide]
      refine S.istore 57 #[vr sa, vi 0, vi 5, vi pos, vi 4, vi 3, vi 4, vi s4] (H dn__55) rfl (S.goto 63 (H dn__57) (S.goto 8 (H dn__63) (S.iload 10 (H dn__8) rfl (S.iload 12 (H dn__10) rfl (S.icmpY 66 (H dn__12) (qGtT (by decide)) (S.iload 68 (H dn__66) rfl ?_))))))
      refine S.iconst 69 (1 : Int32) (H dn__68) (S.iadd 70 (H dn__69) ?_)
      rw [show (4 + 1 : Int32) = 5 from by decide]
      refine S.ineg 71 (H dn__70) ?_
      have hR2842 : (own_fi [(s0, 0), (s1, 1), (s2, 2), (s3, 3), (s4, 4)] (5 : Int32) pos) = (4 : Int32) := by simp only [own_fi]; rw [if_pos (own_tr l0 (own_tr l1 hb2837)), if_pos (own_tr l1 hb2837), if_pos hb2837, if_pos hb2838, if_neg hb2839]
      exact S.retI (H dn__71) hret (by decide) (by decide) ⟨Or.inr (by rw [hR2842] <;> rfl), rfl⟩
     ·skip
      refine S.icmpY 60 (H dn__48) (qLeT hb2841) (S.iload 62 (H dn__60) rfl ?_)
      have hR2843 : (own_fi [(s0, 0), (s1, 1), (s2, 2), (s3, 3), (s4, 4)] (5 : Int32) pos) = (4 : Int32) := by simp only [own_fi]; rw [if_pos (own_tr l0 (own_tr l1 hb2837)), if_pos (own_tr l1 hb2837), if_pos hb2837, if_pos hb2838, if_neg hb2839]
      exact S.retI (H dn__62) hret (by decide) (by decide) ⟨Or.inl (by rw [hR2843] <;> rfl), rfl⟩
   ·skip
    refine S.icmpY 45 (H dn__33) (qGeT hb2838) (S.iload 47 (H dn__45) rfl (S.iloadN 48 (H dn__47) rfl ?_))
    by_cases hb2844 : pos < s3
    ·skip
     refine S.icmpN 51 (H dn__48) (qLeF hb2844) (S.iload 53 (H dn__51) rfl (S.iconst 54 (1 : Int32) (H dn__53) (S.isub 55 (H dn__54) ?_)))
     rw [show (3 - 1 : Int32) = 2 from by decide]
     refine S.istore 57 #[vr sa, vi 0, vi 5, vi pos, vi 3, vi 2, vi 3, vi s3] (H dn__55) rfl (S.goto 63 (H dn__57) (S.goto 8 (H dn__63) (S.iload 10 (H dn__8) rfl (S.iload 12 (H dn__10) rfl (S.icmpY 66 (H dn__12) (qGtT (by decide)) (S.iload 68 (H dn__66) rfl ?_))))))
     refine S.iconst 69 (1 : Int32) (H dn__68) (S.iadd 70 (H dn__69) ?_)
     rw [show (3 + 1 : Int32) = 4 from by decide]
     refine S.ineg 71 (H dn__70) ?_
     have hR2845 : (own_fi [(s0, 0), (s1, 1), (s2, 2), (s3, 3), (s4, 4)] (5 : Int32) pos) = (3 : Int32) := by simp only [own_fi]; rw [if_pos (own_tr l0 (own_tr l1 hb2837)), if_pos (own_tr l1 hb2837), if_pos hb2837, if_neg hb2838]
     exact S.retI (H dn__71) hret (by decide) (by decide) ⟨Or.inr (by rw [hR2845] <;> rfl), rfl⟩
    ·skip
     refine S.icmpY 60 (H dn__48) (qLeT hb2844) (S.iload 62 (H dn__60) rfl ?_)
     have hR2846 : (own_fi [(s0, 0), (s1, 1), (s2, 2), (s3, 3), (s4, 4)] (5 : Int32) pos) = (3 : Int32) := by simp only [own_fi]; rw [if_pos (own_tr l0 (own_tr l1 hb2837)), if_pos (own_tr l1 hb2837), if_pos hb2837, if_neg hb2838]
     exact S.retI (H dn__62) hret (by decide) (by decide) ⟨Or.inl (by rw [hR2846] <;> rfl), rfl⟩
  ·skip
   refine S.icmpY 45 (H dn__33) (qGeT hb2837) (S.iload 47 (H dn__45) rfl (S.iloadN 48 (H dn__47) rfl ?_))
   by_cases hb2847 : pos < s2
   ·skip
    refine S.icmpN 51 (H dn__48) (qLeF hb2847) (S.iload 53 (H dn__51) rfl (S.iconst 54 (1 : Int32) (H dn__53) (S.isub 55 (H dn__54) ?_)))
    rw [show (2 - 1 : Int32) = 1 from by decide]
    refine S.istore 57 #[vr sa, vi 0, vi 5, vi pos, vi 0, vi 1, vi 2, vi s2] (H dn__55) rfl (S.goto 63 (H dn__57) (S.goto 8 (H dn__63) (S.iload 10 (H dn__8) rfl (S.iload 12 (H dn__10) rfl (S.icmpN 15 (H dn__12) (qGtF (by decide)) (S.iload 17 (H dn__15) rfl ?_))))))
    refine S.iload 19 (H dn__17) rfl (S.iadd 20 (H dn__19) ?_)
    rw [show (0 + 1 : Int32) = 1 from by decide]
    refine S.iconst 21 (1 : Int32) (H dn__20) (S.iushr 22 (H dn__21) ?_)
    rw [show (((1 : Int32).toUInt32 >>> ((1 : Int32) &&& 31).toUInt32).toInt32) = (0 : Int32) from by decide]
    refine S.istore 24 #[vr sa, vi 0, vi 5, vi pos, vi 0, vi 1, vi 0, vi s2] (H dn__22) rfl (S.aloadN 25 (H dn__24) rfl rfl (S.iload 27 (H dn__25) rfl (S.iaload (v := .int s0) 28 (H dn__27) AS ⟨by decide, by decide⟩ rfl ?_)))
    refine S.istore 30 #[vr sa, vi 0, vi 5, vi pos, vi 0, vi 1, vi 0, vi s0] (H dn__28) rfl (S.iload 32 (H dn__30) rfl (S.iloadN 33 (H dn__32) rfl ?_))
    by_cases hb2848 : s0 < pos
    ·skip
     refine S.icmpN 36 (H dn__33) (qGeF hb2848) (S.iload 38 (H dn__36) rfl (S.iconst 39 (1 : Int32) (H dn__38) (S.iadd 40 (H dn__39) ?_)))
     rw [show (0 + 1 : Int32) = 1 from by decide]
     refine S.istore 42 #[vr sa, vi 0, vi 5, vi pos, vi 1, vi 1, vi 0, vi s0] (H dn__40) rfl (S.goto 63 (H dn__42) (S.goto 8 (H dn__63) (S.iload 10 (H dn__8) rfl (S.iload 12 (H dn__10) rfl (S.icmpN 15 (H dn__12) (qGtF (by decide)) (S.iload 17 (H dn__15) rfl ?_))))))
     refine S.iload 19 (H dn__17) rfl (S.iadd 20 (H dn__19) ?_)
     rw [show (1 + 1 : Int32) = 2 from by decide]
     refine S.iconst 21 (1 : Int32) (H dn__20) (S.iushr 22 (H dn__21) ?_)
     rw [show (((2 : Int32).toUInt32 >>> ((1 : Int32) &&& 31).toUInt32).toInt32) = (1 : Int32) from by decide]
     refine S.istore 24 #[vr sa, vi 0, vi 5, vi pos, vi 1, vi 1, vi 1, vi s0] (H dn__22) rfl (S.aloadN 25 (H dn__24) rfl rfl (S.iload 27 (H dn__25) rfl (S.iaload (v := .int s1) 28 (H dn__27) AS ⟨by decide, by decide⟩ rfl ?_)))
     refine S.istore 30 #[vr sa, vi 0, vi 5, vi pos, vi 1, vi 1, vi 1, vi s1] (H dn__28) rfl (S.iload 32 (H dn__30) rfl (S.iloadN 33 (H dn__32) rfl ?_))
     by_cases hb2849 : s1 < pos
     ·skip
      refine S.icmpN 36 (H dn__33) (qGeF hb2849) (S.iload 38 (H dn__36) rfl (S.iconst 39 (1 : Int32) (H dn__38) (S.iadd 40 (H dn__39) ?_)))
      rw [show (1 + 1 : Int32) = 2 from by decide]
      refine S.istore 42 #[vr sa, vi 0, vi 5, vi pos, vi 2, vi 1, vi 1, vi s1] (H dn__40) rfl (S.goto 63 (H dn__42) (S.goto 8 (H dn__63) (S.iload 10 (H dn__8) rfl (S.iload 12 (H dn__10) rfl (S.icmpY 66 (H dn__12) (qGtT (by decide)) (S.iload 68 (H dn__66) rfl ?_))))))
      refine S.iconst 69 (1 : Int32) (H dn__68) (S.iadd 70 (H dn__69) ?_)
      rw [show (2 + 1 : Int32) = 3 from by decide]
      refine S.ineg 71 (H dn__70) ?_
      have hR2850 : (own_fi [(s0, 0), (s1, 1), (s2, 2), (s3, 3), (s4, 4)] (5 : Int32) pos) = (2 : Int32) := by simp only [own_fi]; rw [if_pos hb2848, if_pos hb2849, if_neg hb2837]
      exact S.retI (H dn__71) hret (by decide) (by decide) ⟨Or.inr (by rw [hR2850] <;> rfl), rfl⟩
     ·skip
      refine S.icmpY 45 (H dn__33) (qGeT hb2849) (S.iload 47 (H dn__45) rfl (S.iloadN 48 (H dn__47) rfl ?_))
      by_cases hb2851 : pos < s1
      ·skip
       refine S.icmpN 51 (H dn__48) (qLeF hb2851) (S.iload 53 (H dn__51) rfl (S.iconst 54 (1 : Int32) (H dn__53) (S.isub 55 (H dn__54) ?_)))
       rw [show (1 - 1 : Int32) = 0 from by decide]
       refine S.istore 57 #[vr sa, vi 0, vi 5, vi pos, vi 1, vi 0, vi 1, vi s1] (H dn__55) rfl (S.goto 63 (H dn__57) (S.goto 8 (H dn__63) (S.iload 10 (H dn__8) rfl (S.iload 12 (H dn__10) rfl (S.icmpY 66 (H dn__12) (qGtT (by decide)) (S.iload 68 (H dn__66) rfl ?_))))))
       refine S.iconst 69 (1 : Int32) (H dn__68) (S.iadd 70 (H dn__69) ?_)
       rw [show (1 + 1 : Int32) = 2 from by decide]
       refine S.ineg 71 (H dn__70) ?_
       have hR2852 : (own_fi [(s0, 0), (s1, 1), (s2, 2), (s3, 3), (s4, 4)] (5 : Int32) pos) = (1 : Int32) := by simp only [own_fi]; rw [if_pos hb2848, if_neg hb2849]
       exact S.retI (H dn__71) hret (by decide) (by decide) ⟨Or.inr (by rw [hR2852] <;> rfl), rfl⟩
      ·skip
       refine S.icmpY 60 (H dn__48) (qLeT hb2851) (S.iload 62 (H dn__60) rfl ?_)
       have hR2853 : (own_fi [(s0, 0), (s1, 1), (s2, 2), (s3, 3), (s4, 4)] (5 : Int32) pos) = (1 : Int32) := by simp only [own_fi]; rw [if_pos hb2848, if_neg hb2849]
       exact S.retI (H dn__62) hret (by decide) (by decide) ⟨Or.inl (by rw [hR2853] <;> rfl), rfl⟩
    ·skip
     refine S.icmpY 45 (H dn__33) (qGeT hb2848) (S.iload 47 (H dn__45) rfl (S.iloadN 48 (H dn__47) rfl ?_))
     by_cases hb2854 : pos < s0
     ·skip
      refine S.icmpN 51 (H dn__48) (qLeF hb2854) (S.iload 53 (H dn__51) rfl (S.iconst 54 (1 : Int32) (H dn__53) (S.isub 55 (H dn__54) ?_)))
      rw [show (0 - 1 : Int32) = -1 from by decide]
      refine S.istore 57 #[vr sa, vi 0, vi 5, vi pos, vi 0, vi (-1), vi 0, vi s0] (H dn__55) rfl (S.goto 63 (H dn__57) (S.goto 8 (H dn__63) (S.iload 10 (H dn__8) rfl (S.iload 12 (H dn__10) rfl (S.icmpY 66 (H dn__12) (qGtT (by decide)) (S.iload 68 (H dn__66) rfl ?_))))))
      refine S.iconst 69 (1 : Int32) (H dn__68) (S.iadd 70 (H dn__69) ?_)
      rw [show (0 + 1 : Int32) = 1 from by decide]
      refine S.ineg 71 (H dn__70) ?_
      have hR2855 : (own_fi [(s0, 0), (s1, 1), (s2, 2), (s3, 3), (s4, 4)] (5 : Int32) pos) = (0 : Int32) := by simp only [own_fi]; rw [if_neg hb2848]
      exact S.retI (H dn__71) hret (by decide) (by decide) ⟨Or.inr (by rw [hR2855] <;> rfl), rfl⟩
     ·skip
      refine S.icmpY 60 (H dn__48) (qLeT hb2854) (S.iload 62 (H dn__60) rfl ?_)
      have hR2856 : (own_fi [(s0, 0), (s1, 1), (s2, 2), (s3, 3), (s4, 4)] (5 : Int32) pos) = (0 : Int32) := by simp only [own_fi]; rw [if_neg hb2848]
      exact S.retI (H dn__62) hret (by decide) (by decide) ⟨Or.inl (by rw [hR2856] <;> rfl), rfl⟩
   ·skip
    refine S.icmpY 60 (H dn__48) (qLeT hb2847) (S.iload 62 (H dn__60) rfl ?_)
    have hR2857 : (own_fi [(s0, 0), (s1, 1), (s2, 2), (s3, 3), (s4, 4)] (5 : Int32) pos) = (2 : Int32) := by simp only [own_fi]; rw [if_pos (own_tr l0 (own_tr2 l1 hb2847)), if_pos (own_tr2 l1 hb2847), if_neg hb2837]
    exact S.retI (H dn__62) hret (by decide) (by decide) ⟨Or.inl (by rw [hR2857] <;> rfl), rfl⟩


set_option maxRecDepth 65536 in
set_option maxHeartbeats 4000000 in
theorem own_rck_5 (l : Launch) (Z : State) (a0 : Array Value) (hw : ∀ d ∈ tables_1, d.before a0 Z = true) (h0 : Heap) (n0 : Nat) (O : Old Z n0 h0) :
   Con l Z n0 (⟨"java/util/Arrays", "rangeCheck", "(III)V"⟩ : MethodName) jdk_65_method_30_code 3 none [] ({ frames := 0, cells := 0, slots := 0, locals := 0 } : Room) #[(.int 8), (.int 0), (.int 5)] h0 [] (fun v h' => v = none ∧ h' = h0) := by
  refine Con.of a0 (plainFor_of_name own_pn_30) O (fun _ q => nomatch q) [] (fun _ q => nomatch q) ?_
  intro p e s m below meth cdX T S hby hml hret hnm
  have H := fun {k r} q => @hb _ _ hby k r q
  have W := @Tw a0 Z hw
  refine Go.cast (own_ef_31 m (8 : Int32) (0 : Int32) (5 : Int32)) ?_
  refine S.iloadN 1 (H dl__0) rfl (S.iloadN 2 (H dl__1) rfl (S.icmpY 46 (H dl__2) (qLeT (by decide)) (S.iloadN 47 (H dl__46) rfl (S.ifY 59 (H dl__47) (zGeT (by decide)) (S.iloadN 60 (H dl__59) rfl (S.iloadN 61 (H dl__60) rfl ?_))))))
  refine S.icmpY 73 (H dl__61) (qLeT (by decide)) ?_
  exact S.ret0 (H dl__73) hret (by decide) (by decide) ⟨rfl, rfl⟩


set_option maxRecDepth 65536 in
set_option maxHeartbeats 4000000 in
theorem own_bs_5 (l : Launch) (Z : State) (a0 : Array Value) (hw : ∀ d ∈ tables_1, d.before a0 Z = true) (h0 : Heap) (n0 : Nat) (O : Old Z n0 h0) (sa : Addr) (ks : ClassId) (s0 : Int32) (s1 : Int32) (s2 : Int32) (s3 : Int32) (s4 : Int32) (pos : Int32) (AS : Arv Z h0 sa ks .int (8 : Int32) [(.int s0), (.int s1), (.int s2), (.int s3), (.int s4), (.int 0), (.int 0), (.int 0)] (.int 0)) (l0 : s0 < s1) (l1 : s1 < s2) (l2 : s2 < s3) (l3 : s3 < s4) :
   Con l Z n0 (⟨"java/util/Arrays", "binarySearch", "([IIII)I"⟩ : MethodName) jdk_65_method_58_code 4 (some .int) [] ({ frames := 1, cells := 0, slots := 0, locals := 20 } : Room) #[(.ref sa), (.int 0), (.int 5), (.int pos)] h0 [] (fun v h' => (v = some (.int (own_fi [(s0, 0), (s1, 1), (s2, 2), (s3, 3), (s4, 4)] (5 : Int32) pos)) ∨ v = some (.int (-((own_fi [(s0, 0), (s1, 1), (s2, 2), (s3, 3), (s4, 4)] (5 : Int32) pos) + 1)))) ∧ h' = h0) := by
  refine Con.of a0 (plainFor_of_name own_pn_30) O (fun _ q => nomatch q) [] (fun _ q => nomatch q) ?_
  intro p e s m below meth cdX T S hby hml hret hnm
  have H := fun {k r} q => @hb _ _ hby k r q
  have W := @Tw a0 Z hw
  refine Go.cast (own_ef_32 m sa (0 : Int32) (5 : Int32) pos) ?_
  refine S.aloadN 1 (H dm__0) rfl rfl (S.alen 2 (H dm__1) AS ?_)
  refine S.iloadN 3 (H dm__2) rfl (S.iloadN 4 (H dm__3) rfl (S.scall 7 (H dm__4) hml.symm (W 87 rfl) (W 88 rfl) (W 85 rfl) (W 89 rfl) (by decide) [(.int 8), (.int 0), (.int 5)] [] (Con.pay (W := 0) (own_rck_5 l Z a0 hw h0 n0 S.old) (W 89 rfl) (W 85 rfl) (by decide) (by decide)) (lenOf own_pd_33 rfl) rfl (Nle rfl) (by decide) (by decide) Wrs.nil ?_))
  intro v2858 T2859 h2860 L2861 S2862 q2863 K2864
  obtain ⟨rfl, e_q2863⟩ := q2863
  obtain rfl := e_q2863.symm
  show Go p e below _ T2859 (mkF m 7 #[vr sa, vi 0, vi 5, vi pos] [])
  refine S2862.aloadN 8 (H dm__7) rfl rfl (S2862.iloadN 9 (H dm__8) rfl (S2862.iloadN 10 (H dm__9) rfl (S2862.iloadN 11 (H dm__10) rfl (S2862.scall 14 (H dm__11) hml.symm (W 90 rfl) (W 91 rfl) (W 85 rfl) (W 92 rfl) (by decide) [(.ref sa), (.int 0), (.int 5), (.int pos)] [] (Con.pay (W := 0) (own_b0_5 l Z a0 hw h0 n0 S2862.old sa ks s0 s1 s2 s3 s4 pos AS l0 l1 l2 l3) (W 92 rfl) (W 85 rfl) (by decide) (by decide)) (lenOf own_pd_34 rfl) rfl (Nle rfl) (by decide) (by decide) Wrs.nil ?_))))
  intro v2865 T2866 h2867 L2868 S2869 q2870 K2871
  obtain ⟨hq_q2870, e_q2870⟩ := q2870
  obtain rfl := e_q2870.symm
  rcases hq_q2870 with rfl | rfl
  ·skip
   show Go p e below _ T2866 (mkF m 14 #[vr sa, vi 0, vi 5, vi pos] [(.int (own_fi [(s0, 0), (s1, 1), (s2, 2), (s3, 3), (s4, 4)] (5 : Int32) pos))])
   exact S2869.retI (H dm__14) hret (by decide) (by decide) ⟨Or.inl rfl, rfl⟩
  ·skip
   show Go p e below _ T2866 (mkF m 14 #[vr sa, vi 0, vi 5, vi pos] [(.int (-((own_fi [(s0, 0), (s1, 1), (s2, 2), (s3, 3), (s4, 4)] (5 : Int32) pos) + 1)))])
   exact S2869.retI (H dm__14) hret (by decide) (by decide) ⟨Or.inr rfl, rfl⟩


set_option maxRecDepth 65536 in
set_option maxHeartbeats 4000000 in
theorem own_ff_5 (l : Launch) (Z : State) (a0 : Array Value) (hw : ∀ d ∈ tables_1, d.before a0 Z = true) (h0 : Heap) (n0 : Nat) (O : Old Z n0 h0) (o : Addr) (sa : Addr) (ea : Addr) (ks : ClassId) (ke : ClassId) (s0 : Int32) (s1 : Int32) (s2 : Int32) (s3 : Int32) (s4 : Int32) (u0 : Int32) (u1 : Int32) (u2 : Int32) (u3 : Int32) (u4 : Int32) (pos : Int32) (E : Exa Z h0 o "com/example/oref/oref/wikipedia/Matches") (FC : Fld Z h0 o "com/example/oref/oref/wikipedia/Matches" "count" "I" (.int 5)) (FS : Fld Z h0 o "com/example/oref/oref/wikipedia/Matches" "starts" "[I" (.ref sa)) (FE : Fld Z h0 o "com/example/oref/oref/wikipedia/Matches" "ends" "[I" (.ref ea)) (AS : Arv Z h0 sa ks .int (8 : Int32) [(.int s0), (.int s1), (.int s2), (.int s3), (.int s4), (.int 0), (.int 0), (.int 0)] (.int 0)) (AE : Arv Z h0 ea ke .int (8 : Int32) [(.int u0), (.int u1), (.int u2), (.int u3), (.int u4), (.int 0), (.int 0), (.int 0)] (.int 0)) (l0 : s0 < s1) (l1 : s1 < s2) (l2 : s2 < s3) (l3 : s3 < s4) :
   Con l Z n0 (⟨"com/example/oref/oref/wikipedia/Matches", "firstFrom", "(I)I"⟩ : MethodName) prog_29_method_6_code 3 (some .int) [] ({ frames := 2, cells := 0, slots := 0, locals := 40 } : Room) #[(.ref o), (.int pos)] h0 [] (fun v h' => v = some (.int (own_fi [(s0, 0), (s1, 1), (s2, 2), (s3, 3), (s4, 4)] (5 : Int32) pos)) ∧ h' = h0) := by
  refine Con.of a0 (plainFor_of_name own_pn_24) O (fun _ q => nomatch q) [] (fun _ q => nomatch q) ?_
  intro p e s m below meth cdX T S hby hml hret hnm
  have H := fun {k r} q => @hb _ _ hby k r q
  have W := @Tw a0 Z hw
  refine Go.cast (own_ef_35 m o pos) ?_
  have hB : 0 ≤ (own_fi [(s0, 0), (s1, 1), (s2, 2), (s3, 3), (s4, 4)] (5 : Int32) pos).toInt ∧ (own_fi [(s0, 0), (s1, 1), (s2, 2), (s3, 3), (s4, 4)] (5 : Int32) pos).toInt ≤ 8 := own_fi_b ⟨by decide, by decide⟩ (by
    intro q hq
    simp only [List.mem_cons, List.not_mem_nil, or_false] at hq
    rcases hq with rfl | rfl | rfl | rfl | rfl <;> exact ⟨by dsimp only; decide, by dsimp only; decide⟩)
  refine S.aloadN 1 (H dt__0) rfl rfl (S.getf (host := "") 4 (H dt__1) (Or.inl (W 43 rfl)) Via.refl FS ?_)
  intro T2872 S2873
  refine S2873.iconst 5 (0 : Int32) (H dt__4) (S2873.aloadN 6 (H dt__5) rfl rfl (S2873.getf (host := "") 9 (H dt__6) (Or.inl (W 81 rfl)) Via.refl FC ?_))
  intro T2874 S2875
  refine S2875.iloadN 10 (H dt__9) rfl (S2875.scall 13 (H dt__10) hml.symm (W 83 rfl) (W 84 rfl) (W 85 rfl) (W 86 rfl) (by decide) [(.ref sa), (.int 0), (.int 5), (.int pos)] [] (Con.pay (W := 0) (own_bs_5 l Z a0 hw h0 n0 S2875.old sa ks s0 s1 s2 s3 s4 pos AS l0 l1 l2 l3) (W 86 rfl) (W 85 rfl) (by decide) (by decide)) (lenOf own_pd_34 rfl) rfl (Nle rfl) (by decide) (by decide) Wrs.nil ?_)
  intro v2876 T2877 h2878 L2879 S2880 q2881 K2882
  obtain ⟨hq_q2881, e_q2881⟩ := q2881
  obtain rfl := e_q2881.symm
  rcases hq_q2881 with rfl | rfl
  ·skip
   show Go p e below _ T2877 (mkF m 13 #[vr o, vi pos, uN] [(.int (own_fi [(s0, 0), (s1, 1), (s2, 2), (s3, 3), (s4, 4)] (5 : Int32) pos))])
   refine S2880.istoreN 14 #[vr o, vi pos, vi (own_fi [(s0, 0), (s1, 1), (s2, 2), (s3, 3), (s4, 4)] (5 : Int32) pos)] (H dt__13) rfl (S2880.iloadN 15 (H dt__14) rfl (S2880.ifN 18 (H dt__15) (zLtF (own_nn hB)) (S2880.iloadN 19 (H dt__18) rfl (S2880.goto 26 (H dt__19) ?_))))
   exact S2880.retI (H dt__26) hret (by decide) (by decide) ⟨rfl, rfl⟩
  ·skip
   show Go p e below _ T2877 (mkF m 13 #[vr o, vi pos, uN] [(.int (-((own_fi [(s0, 0), (s1, 1), (s2, 2), (s3, 3), (s4, 4)] (5 : Int32) pos) + 1)))])
   refine S2880.istoreN 14 #[vr o, vi pos, .val (.int (-((own_fi [(s0, 0), (s1, 1), (s2, 2), (s3, 3), (s4, 4)] (5 : Int32) pos) + 1)))] (H dt__13) rfl (S2880.iloadN 15 (H dt__14) rfl (S2880.ifY 22 (H dt__15) (zLtT (own_ng hB)) (S2880.iloadN 23 (H dt__22) rfl (S2880.ineg 24 (H dt__23) ?_))))
   refine S2880.iconst 25 (1 : Int32) (H dt__24) (S2880.isub 26 (H dt__25) ?_)
   show Go p e below _ T2877 (mkF m 26 #[vr o, vi pos, .val (.int (-((own_fi [(s0, 0), (s1, 1), (s2, 2), (s3, 3), (s4, 4)] (5 : Int32) pos) + 1)))] [(.int ((-(-((own_fi [(s0, 0), (s1, 1), (s2, 2), (s3, 3), (s4, 4)] (5 : Int32) pos) + 1))) - (1 : Int32)))])
   rw [own_bk]
   exact S2880.retI (H dt__26) hret (by decide) (by decide) ⟨rfl, rfl⟩


set_option maxRecDepth 65536 in
set_option maxHeartbeats 4000000 in
theorem own_eff_5 (l : Launch) (Z : State) (a0 : Array Value) (hw : ∀ d ∈ tables_1, d.before a0 Z = true) (h0 : Heap) (n0 : Nat) (O : Old Z n0 h0) (o : Addr) (sa : Addr) (ea : Addr) (ks : ClassId) (ke : ClassId) (s0 : Int32) (s1 : Int32) (s2 : Int32) (s3 : Int32) (s4 : Int32) (u0 : Int32) (u1 : Int32) (u2 : Int32) (u3 : Int32) (u4 : Int32) (pos : Int32) (E : Exa Z h0 o "com/example/oref/oref/wikipedia/Matches") (FC : Fld Z h0 o "com/example/oref/oref/wikipedia/Matches" "count" "I" (.int 5)) (FS : Fld Z h0 o "com/example/oref/oref/wikipedia/Matches" "starts" "[I" (.ref sa)) (FE : Fld Z h0 o "com/example/oref/oref/wikipedia/Matches" "ends" "[I" (.ref ea)) (AS : Arv Z h0 sa ks .int (8 : Int32) [(.int s0), (.int s1), (.int s2), (.int s3), (.int s4), (.int 0), (.int 0), (.int 0)] (.int 0)) (AE : Arv Z h0 ea ke .int (8 : Int32) [(.int u0), (.int u1), (.int u2), (.int u3), (.int u4), (.int 0), (.int 0), (.int 0)] (.int 0)) (l0 : s0 < s1) (l1 : s1 < s2) (l2 : s2 < s3) (l3 : s3 < s4) :
   Con l Z n0 (⟨"com/example/oref/oref/wikipedia/Matches", "endFrom", "(I)I"⟩ : MethodName) prog_29_method_5_code 3 (some .int) [] ({ frames := 3, cells := 0, slots := 0, locals := 60 } : Room) #[(.ref o), (.int pos)] h0 [] (fun v h' => v = some (.int (own_end [(s0, u0), (s1, u1), (s2, u2), (s3, u3), (s4, u4)] pos)) ∧ h' = h0) := by
  refine Con.of a0 (plainFor_of_name own_pn_24) O (fun _ q => nomatch q) [] (fun _ q => nomatch q) ?_
  intro p e s m below meth cdX T S hby hml hret hnm
  have H := fun {k r} q => @hb _ _ hby k r q
  have W := @Tw a0 Z hw
  refine Go.cast (own_ef_35 m o pos) ?_
  refine S.aloadN 1 (H ds__0) rfl rfl (S.iloadN 2 (H ds__1) rfl (S.pcall 5 (H ds__2) hml.symm (W 77 rfl) (W 78 rfl) (W 79 rfl) (W 80 rfl) (W 75 rfl) rfl (by decide) E [(.int pos)] [] (Con.pay (W := 0) (own_ff_5 l Z a0 hw h0 n0 S.old o sa ea ks ke s0 s1 s2 s3 s4 u0 u1 u2 u3 u4 pos E FC FS FE AS AE l0 l1 l2 l3) (W 80 rfl) (W 37 rfl) (by decide) (by decide)) (lenOf own_pd_36 rfl) rfl (Nle rfl) (by decide) (by decide) Wrs.nil ?_))
  intro v2883 T2884 h2885 L2886 S2887 q2888 K2889
  obtain ⟨rfl, e_q2888⟩ := q2888
  obtain rfl := e_q2888.symm
  show Go p e below _ T2884 (mkF m 5 #[vr o, vi pos, uN] [(.int (own_fi [(s0, 0), (s1, 1), (s2, 2), (s3, 3), (s4, 4)] (5 : Int32) pos))])
  by_cases fz2890 : s0 < pos
  ·skip
   by_cases fz2891 : s1 < pos
   ·skip
    by_cases fz2892 : s2 < pos
    ·skip
     by_cases fz2893 : s3 < pos
     ·skip
      by_cases fz2894 : s4 < pos
      ·skip
       have hR2895 : (own_fi [(s0, 0), (s1, 1), (s2, 2), (s3, 3), (s4, 4)] (5 : Int32) pos) = (5 : Int32) := by simp only [own_fi]; rw [if_pos fz2890, if_pos fz2891, if_pos fz2892, if_pos fz2893, if_pos fz2894]
       rw [hR2895]
       show Go p e below _ T2884 (mkF m 5 #[vr o, vi pos, uN] [(.int 5)])
       refine S2887.istoreN 6 #[vr o, vi pos, vi 5] (H ds__5) rfl (S2887.iloadN 7 (H ds__6) rfl (S2887.aloadN 8 (H ds__7) rfl rfl (S2887.getf (host := "") 11 (H ds__8) (Or.inl (W 81 rfl)) Via.refl FC ?_)))
       intro T2896 S2897
       refine S2897.icmpY 23 (H ds__11) (qGeT (by decide)) (S2897.iconst 24 (-1 : Int32) (H ds__23) ?_)
       exact S2897.retI (H ds__24) hret (by decide) (by decide) ⟨by simp only [own_end]; rw [if_pos fz2890, if_pos fz2891, if_pos fz2892, if_pos fz2893, if_pos fz2894], rfl⟩
      ·skip
       have hR2898 : (own_fi [(s0, 0), (s1, 1), (s2, 2), (s3, 3), (s4, 4)] (5 : Int32) pos) = (4 : Int32) := by simp only [own_fi]; rw [if_pos fz2890, if_pos fz2891, if_pos fz2892, if_pos fz2893, if_neg fz2894]
       rw [hR2898]
       show Go p e below _ T2884 (mkF m 5 #[vr o, vi pos, uN] [(.int 4)])
       refine S2887.istoreN 6 #[vr o, vi pos, vi 4] (H ds__5) rfl (S2887.iloadN 7 (H ds__6) rfl (S2887.aloadN 8 (H ds__7) rfl rfl (S2887.getf (host := "") 11 (H ds__8) (Or.inl (W 81 rfl)) Via.refl FC ?_)))
       intro T2899 S2900
       refine S2900.icmpN 14 (H ds__11) (qGeF (by decide)) (S2900.aloadN 15 (H ds__14) rfl rfl (S2900.getf (host := "") 18 (H ds__15) (Or.inl (W 45 rfl)) Via.refl FE ?_))
       intro T2901 S2902
       refine S2902.iloadN 19 (H ds__18) rfl (S2902.iaload (v := .int u4) 20 (H ds__19) AE ⟨by decide, by decide⟩ rfl ?_)
       refine S2902.goto 24 (H ds__20) ?_
       exact S2902.retI (H ds__24) hret (by decide) (by decide) ⟨by simp only [own_end]; rw [if_pos fz2890, if_pos fz2891, if_pos fz2892, if_pos fz2893, if_neg fz2894], rfl⟩
     ·skip
      have hR2903 : (own_fi [(s0, 0), (s1, 1), (s2, 2), (s3, 3), (s4, 4)] (5 : Int32) pos) = (3 : Int32) := by simp only [own_fi]; rw [if_pos fz2890, if_pos fz2891, if_pos fz2892, if_neg fz2893]
      rw [hR2903]
      show Go p e below _ T2884 (mkF m 5 #[vr o, vi pos, uN] [(.int 3)])
      refine S2887.istoreN 6 #[vr o, vi pos, vi 3] (H ds__5) rfl (S2887.iloadN 7 (H ds__6) rfl (S2887.aloadN 8 (H ds__7) rfl rfl (S2887.getf (host := "") 11 (H ds__8) (Or.inl (W 81 rfl)) Via.refl FC ?_)))
      intro T2904 S2905
      refine S2905.icmpN 14 (H ds__11) (qGeF (by decide)) (S2905.aloadN 15 (H ds__14) rfl rfl (S2905.getf (host := "") 18 (H ds__15) (Or.inl (W 45 rfl)) Via.refl FE ?_))
      intro T2906 S2907
      refine S2907.iloadN 19 (H ds__18) rfl (S2907.iaload (v := .int u3) 20 (H ds__19) AE ⟨by decide, by decide⟩ rfl ?_)
      refine S2907.goto 24 (H ds__20) ?_
      exact S2907.retI (H ds__24) hret (by decide) (by decide) ⟨by simp only [own_end]; rw [if_pos fz2890, if_pos fz2891, if_pos fz2892, if_neg fz2893], rfl⟩
    ·skip
     have hR2908 : (own_fi [(s0, 0), (s1, 1), (s2, 2), (s3, 3), (s4, 4)] (5 : Int32) pos) = (2 : Int32) := by simp only [own_fi]; rw [if_pos fz2890, if_pos fz2891, if_neg fz2892]
     rw [hR2908]
     show Go p e below _ T2884 (mkF m 5 #[vr o, vi pos, uN] [(.int 2)])
     refine S2887.istoreN 6 #[vr o, vi pos, vi 2] (H ds__5) rfl (S2887.iloadN 7 (H ds__6) rfl (S2887.aloadN 8 (H ds__7) rfl rfl (S2887.getf (host := "") 11 (H ds__8) (Or.inl (W 81 rfl)) Via.refl FC ?_)))
     intro T2909 S2910
     refine S2910.icmpN 14 (H ds__11) (qGeF (by decide)) (S2910.aloadN 15 (H ds__14) rfl rfl (S2910.getf (host := "") 18 (H ds__15) (Or.inl (W 45 rfl)) Via.refl FE ?_))
     intro T2911 S2912
     refine S2912.iloadN 19 (H ds__18) rfl (S2912.iaload (v := .int u2) 20 (H ds__19) AE ⟨by decide, by decide⟩ rfl ?_)
     refine S2912.goto 24 (H ds__20) ?_
     exact S2912.retI (H ds__24) hret (by decide) (by decide) ⟨by simp only [own_end]; rw [if_pos fz2890, if_pos fz2891, if_neg fz2892], rfl⟩
   ·skip
    have hR2913 : (own_fi [(s0, 0), (s1, 1), (s2, 2), (s3, 3), (s4, 4)] (5 : Int32) pos) = (1 : Int32) := by simp only [own_fi]; rw [if_pos fz2890, if_neg fz2891]
    rw [hR2913]
    show Go p e below _ T2884 (mkF m 5 #[vr o, vi pos, uN] [(.int 1)])
    refine S2887.istoreN 6 #[vr o, vi pos, vi 1] (H ds__5) rfl (S2887.iloadN 7 (H ds__6) rfl (S2887.aloadN 8 (H ds__7) rfl rfl (S2887.getf (host := "") 11 (H ds__8) (Or.inl (W 81 rfl)) Via.refl FC ?_)))
    intro T2914 S2915
    refine S2915.icmpN 14 (H ds__11) (qGeF (by decide)) (S2915.aloadN 15 (H ds__14) rfl rfl (S2915.getf (host := "") 18 (H ds__15) (Or.inl (W 45 rfl)) Via.refl FE ?_))
    intro T2916 S2917
    refine S2917.iloadN 19 (H ds__18) rfl (S2917.iaload (v := .int u1) 20 (H ds__19) AE ⟨by decide, by decide⟩ rfl ?_)
    refine S2917.goto 24 (H ds__20) ?_
    exact S2917.retI (H ds__24) hret (by decide) (by decide) ⟨by simp only [own_end]; rw [if_pos fz2890, if_neg fz2891], rfl⟩
  ·skip
   have hR2918 : (own_fi [(s0, 0), (s1, 1), (s2, 2), (s3, 3), (s4, 4)] (5 : Int32) pos) = (0 : Int32) := by simp only [own_fi]; rw [if_neg fz2890]
   rw [hR2918]
   show Go p e below _ T2884 (mkF m 5 #[vr o, vi pos, uN] [(.int 0)])
   refine S2887.istoreN 6 #[vr o, vi pos, vi 0] (H ds__5) rfl (S2887.iloadN 7 (H ds__6) rfl (S2887.aloadN 8 (H ds__7) rfl rfl (S2887.getf (host := "") 11 (H ds__8) (Or.inl (W 81 rfl)) Via.refl FC ?_)))
   intro T2919 S2920
   refine S2920.icmpN 14 (H ds__11) (qGeF (by decide)) (S2920.aloadN 15 (H ds__14) rfl rfl (S2920.getf (host := "") 18 (H ds__15) (Or.inl (W 45 rfl)) Via.refl FE ?_))
   intro T2921 S2922
   refine S2922.iloadN 19 (H ds__18) rfl (S2922.iaload (v := .int u0) 20 (H ds__19) AE ⟨by decide, by decide⟩ rfl ?_)
   refine S2922.goto 24 (H ds__20) ?_
   exact S2922.retI (H ds__24) hret (by decide) (by decide) ⟨by simp only [own_end]; rw [if_neg fz2890], rfl⟩

set_option maxRecDepth 65536 in
set_option maxHeartbeats 4000000 in
theorem own_en_1 (l : Launch) (Z : State) (a0 : Array Value) (hw : ∀ d ∈ tables_1, d.before a0 Z = true) (h0 : Heap) (n0 : Nat) (O : Old Z n0 h0) (o : Addr) (b0 : Bool) (b1 : Bool) (b2 : Bool) (b3 : Bool) (b4 : Bool) (pos : Int32) (M : Mat Z h0 o (own_scan1 [(b0, 0, 1), (b1, 1, 2), (b2, 2, 3), (b3, 3, 4), (b4, 4, 5)])) :
   Con l Z n0 (⟨"com/example/oref/oref/wikipedia/Matches", "endFrom", "(I)I"⟩ : MethodName) prog_29_method_5_code 3 (some .int) [] ({ frames := 3, cells := 0, slots := 0, locals := 60 } : Room) #[(.ref o), (.int pos)] h0 [] (fun v h' => v = some (.int (own_end (own_scan1 [(b0, 0, 1), (b1, 1, 2), (b2, 2, 3), (b3, 3, 4), (b4, 4, 5)]) pos)) ∧ h' = h0) := by
  obtain ⟨sa, ea, ks, ke, E, FC, FS, FE, AS, AE⟩ := M
  rcases b0 with _ | _
  ·skip
   rcases b1 with _ | _
   ·skip
    rcases b2 with _ | _
    ·skip
     rcases b3 with _ | _
     ·skip
      rcases b4 with _ | _
      ·skip
       exact own_eff_0 l Z a0 hw h0 n0 O o sa ea ks ke  pos E FC FS FE AS AE
      ·skip
       exact own_eff_1 l Z a0 hw h0 n0 O o sa ea ks ke 4 5 pos E FC FS FE AS AE
     ·skip
      rcases b4 with _ | _
      ·skip
       exact own_eff_1 l Z a0 hw h0 n0 O o sa ea ks ke 3 4 pos E FC FS FE AS AE
      ·skip
       exact own_eff_2 l Z a0 hw h0 n0 O o sa ea ks ke 3 4 4 5 pos E FC FS FE AS AE (by decide)
    ·skip
     rcases b3 with _ | _
     ·skip
      rcases b4 with _ | _
      ·skip
       exact own_eff_1 l Z a0 hw h0 n0 O o sa ea ks ke 2 3 pos E FC FS FE AS AE
      ·skip
       exact own_eff_2 l Z a0 hw h0 n0 O o sa ea ks ke 2 4 3 5 pos E FC FS FE AS AE (by decide)
     ·skip
      rcases b4 with _ | _
      ·skip
       exact own_eff_2 l Z a0 hw h0 n0 O o sa ea ks ke 2 3 3 4 pos E FC FS FE AS AE (by decide)
      ·skip
       exact own_eff_3 l Z a0 hw h0 n0 O o sa ea ks ke 2 3 4 3 4 5 pos E FC FS FE AS AE (by decide) (by decide)
   ·skip
    rcases b2 with _ | _
    ·skip
     rcases b3 with _ | _
     ·skip
      rcases b4 with _ | _
      ·skip
       exact own_eff_1 l Z a0 hw h0 n0 O o sa ea ks ke 1 2 pos E FC FS FE AS AE
      ·skip
       exact own_eff_2 l Z a0 hw h0 n0 O o sa ea ks ke 1 4 2 5 pos E FC FS FE AS AE (by decide)
     ·skip
      rcases b4 with _ | _
      ·skip
       exact own_eff_2 l Z a0 hw h0 n0 O o sa ea ks ke 1 3 2 4 pos E FC FS FE AS AE (by decide)
      ·skip
       exact own_eff_3 l Z a0 hw h0 n0 O o sa ea ks ke 1 3 4 2 4 5 pos E FC FS FE AS AE (by decide) (by decide)
    ·skip
     rcases b3 with _ | _
     ·skip
      rcases b4 with _ | _
      ·skip
       exact own_eff_2 l Z a0 hw h0 n0 O o sa ea ks ke 1 2 2 3 pos E FC FS FE AS AE (by decide)
      ·skip
       exact own_eff_3 l Z a0 hw h0 n0 O o sa ea ks ke 1 2 4 2 3 5 pos E FC FS FE AS AE (by decide) (by decide)
     ·skip
      rcases b4 with _ | _
      ·skip
       exact own_eff_3 l Z a0 hw h0 n0 O o sa ea ks ke 1 2 3 2 3 4 pos E FC FS FE AS AE (by decide) (by decide)
      ·skip
       exact own_eff_4 l Z a0 hw h0 n0 O o sa ea ks ke 1 2 3 4 2 3 4 5 pos E FC FS FE AS AE (by decide) (by decide) (by decide)
  ·skip
   rcases b1 with _ | _
   ·skip
    rcases b2 with _ | _
    ·skip
     rcases b3 with _ | _
     ·skip
      rcases b4 with _ | _
      ·skip
       exact own_eff_1 l Z a0 hw h0 n0 O o sa ea ks ke 0 1 pos E FC FS FE AS AE
      ·skip
       exact own_eff_2 l Z a0 hw h0 n0 O o sa ea ks ke 0 4 1 5 pos E FC FS FE AS AE (by decide)
     ·skip
      rcases b4 with _ | _
      ·skip
       exact own_eff_2 l Z a0 hw h0 n0 O o sa ea ks ke 0 3 1 4 pos E FC FS FE AS AE (by decide)
      ·skip
       exact own_eff_3 l Z a0 hw h0 n0 O o sa ea ks ke 0 3 4 1 4 5 pos E FC FS FE AS AE (by decide) (by decide)
    ·skip
     rcases b3 with _ | _
     ·skip
      rcases b4 with _ | _
      ·skip
       exact own_eff_2 l Z a0 hw h0 n0 O o sa ea ks ke 0 2 1 3 pos E FC FS FE AS AE (by decide)
      ·skip
       exact own_eff_3 l Z a0 hw h0 n0 O o sa ea ks ke 0 2 4 1 3 5 pos E FC FS FE AS AE (by decide) (by decide)
     ·skip
      rcases b4 with _ | _
      ·skip
       exact own_eff_3 l Z a0 hw h0 n0 O o sa ea ks ke 0 2 3 1 3 4 pos E FC FS FE AS AE (by decide) (by decide)
      ·skip
       exact own_eff_4 l Z a0 hw h0 n0 O o sa ea ks ke 0 2 3 4 1 3 4 5 pos E FC FS FE AS AE (by decide) (by decide) (by decide)
   ·skip
    rcases b2 with _ | _
    ·skip
     rcases b3 with _ | _
     ·skip
      rcases b4 with _ | _
      ·skip
       exact own_eff_2 l Z a0 hw h0 n0 O o sa ea ks ke 0 1 1 2 pos E FC FS FE AS AE (by decide)
      ·skip
       exact own_eff_3 l Z a0 hw h0 n0 O o sa ea ks ke 0 1 4 1 2 5 pos E FC FS FE AS AE (by decide) (by decide)
     ·skip
      rcases b4 with _ | _
      ·skip
       exact own_eff_3 l Z a0 hw h0 n0 O o sa ea ks ke 0 1 3 1 2 4 pos E FC FS FE AS AE (by decide) (by decide)
      ·skip
       exact own_eff_4 l Z a0 hw h0 n0 O o sa ea ks ke 0 1 3 4 1 2 4 5 pos E FC FS FE AS AE (by decide) (by decide) (by decide)
    ·skip
     rcases b3 with _ | _
     ·skip
      rcases b4 with _ | _
      ·skip
       exact own_eff_3 l Z a0 hw h0 n0 O o sa ea ks ke 0 1 2 1 2 3 pos E FC FS FE AS AE (by decide) (by decide)
      ·skip
       exact own_eff_4 l Z a0 hw h0 n0 O o sa ea ks ke 0 1 2 4 1 2 3 5 pos E FC FS FE AS AE (by decide) (by decide) (by decide)
     ·skip
      rcases b4 with _ | _
      ·skip
       exact own_eff_4 l Z a0 hw h0 n0 O o sa ea ks ke 0 1 2 3 1 2 3 4 pos E FC FS FE AS AE (by decide) (by decide) (by decide)
      ·skip
       exact own_eff_5 l Z a0 hw h0 n0 O o sa ea ks ke 0 1 2 3 4 1 2 3 4 5 pos E FC FS FE AS AE (by decide) (by decide) (by decide) (by decide)
set_option maxRecDepth 65536 in
set_option maxHeartbeats 4000000 in
theorem own_en_2 (l : Launch) (Z : State) (a0 : Array Value) (hw : ∀ d ∈ tables_1, d.before a0 Z = true) (h0 : Heap) (n0 : Nat) (O : Old Z n0 h0) (o : Addr) (b0 : Bool) (b1 : Bool) (b2 : Bool) (b3 : Bool) (pos : Int32) (M : Mat Z h0 o (own_scan2 [(b0, 0, 2), (b1, 1, 3), (b2, 2, 4), (b3, 3, 5)])) :
   Con l Z n0 (⟨"com/example/oref/oref/wikipedia/Matches", "endFrom", "(I)I"⟩ : MethodName) prog_29_method_5_code 3 (some .int) [] ({ frames := 3, cells := 0, slots := 0, locals := 60 } : Room) #[(.ref o), (.int pos)] h0 [] (fun v h' => v = some (.int (own_end (own_scan2 [(b0, 0, 2), (b1, 1, 3), (b2, 2, 4), (b3, 3, 5)]) pos)) ∧ h' = h0) := by
  obtain ⟨sa, ea, ks, ke, E, FC, FS, FE, AS, AE⟩ := M
  rcases b0 with _ | _
  ·skip
   rcases b1 with _ | _
   ·skip
    rcases b2 with _ | _
    ·skip
     rcases b3 with _ | _
     ·skip
      exact own_eff_0 l Z a0 hw h0 n0 O o sa ea ks ke  pos E FC FS FE AS AE
     ·skip
      exact own_eff_1 l Z a0 hw h0 n0 O o sa ea ks ke 3 5 pos E FC FS FE AS AE
    ·skip
     rcases b3 with _ | _
     ·skip
      exact own_eff_1 l Z a0 hw h0 n0 O o sa ea ks ke 2 4 pos E FC FS FE AS AE
     ·skip
      exact own_eff_1 l Z a0 hw h0 n0 O o sa ea ks ke 2 4 pos E FC FS FE AS AE
   ·skip
    rcases b2 with _ | _
    ·skip
     rcases b3 with _ | _
     ·skip
      exact own_eff_1 l Z a0 hw h0 n0 O o sa ea ks ke 1 3 pos E FC FS FE AS AE
     ·skip
      exact own_eff_2 l Z a0 hw h0 n0 O o sa ea ks ke 1 3 3 5 pos E FC FS FE AS AE (by decide)
    ·skip
     rcases b3 with _ | _
     ·skip
      exact own_eff_1 l Z a0 hw h0 n0 O o sa ea ks ke 1 3 pos E FC FS FE AS AE
     ·skip
      exact own_eff_2 l Z a0 hw h0 n0 O o sa ea ks ke 1 3 3 5 pos E FC FS FE AS AE (by decide)
  ·skip
   rcases b1 with _ | _
   ·skip
    rcases b2 with _ | _
    ·skip
     rcases b3 with _ | _
     ·skip
      exact own_eff_1 l Z a0 hw h0 n0 O o sa ea ks ke 0 2 pos E FC FS FE AS AE
     ·skip
      exact own_eff_2 l Z a0 hw h0 n0 O o sa ea ks ke 0 3 2 5 pos E FC FS FE AS AE (by decide)
    ·skip
     rcases b3 with _ | _
     ·skip
      exact own_eff_2 l Z a0 hw h0 n0 O o sa ea ks ke 0 2 2 4 pos E FC FS FE AS AE (by decide)
     ·skip
      exact own_eff_2 l Z a0 hw h0 n0 O o sa ea ks ke 0 2 2 4 pos E FC FS FE AS AE (by decide)
   ·skip
    rcases b2 with _ | _
    ·skip
     rcases b3 with _ | _
     ·skip
      exact own_eff_1 l Z a0 hw h0 n0 O o sa ea ks ke 0 2 pos E FC FS FE AS AE
     ·skip
      exact own_eff_2 l Z a0 hw h0 n0 O o sa ea ks ke 0 3 2 5 pos E FC FS FE AS AE (by decide)
    ·skip
     rcases b3 with _ | _
     ·skip
      exact own_eff_2 l Z a0 hw h0 n0 O o sa ea ks ke 0 2 2 4 pos E FC FS FE AS AE (by decide)
     ·skip
      exact own_eff_2 l Z a0 hw h0 n0 O o sa ea ks ke 0 2 2 4 pos E FC FS FE AS AE (by decide)
theorem own_ex_skip {cc : Bool} {i e pos : Int32} {r : List (Bool × Int32 × Int32)} (q : i < pos) : own_ex ((cc, i, e) :: r) pos = own_ex r pos := by
  cases cc
  · rfl
  · show (if i < pos then own_ex r pos else e) = _
    rw [if_pos q]
theorem own_ex_no {i e pos : Int32} {r : List (Bool × Int32 × Int32)} : own_ex ((false, i, e) :: r) pos = own_ex r pos := rfl
theorem own_ex_yes {i e pos : Int32} {r : List (Bool × Int32 × Int32)} (q : ¬ i < pos) : own_ex ((true, i, e) :: r) pos = e := by
  show (if i < pos then own_ex r pos else e) = _
  rw [if_neg q]
theorem own_fin1 (b0 b1 b2 b3 b4 : Bool) (pos : Int32) : own_end (own_scan1 [(b0, 0, 1), (b1, 1, 2), (b2, 2, 3), (b3, 3, 4), (b4, 4, 5)]) pos = own_ex [(b0, 0, 1), (b1, 1, 2), (b2, 2, 3), (b3, 3, 4), (b4, 4, 5)] pos := by
  cases b0 <;> cases b1 <;> cases b2 <;> cases b3 <;> cases b4 <;> rfl
theorem own_fin2 (b0 b1 b2 b3 : Bool) {c1 c2 c3 c4 : Bool} (h1 : c1 = (b1 && !b0)) (h2 : c2 = (b2 && !c1)) (h3 : c3 = (b3 && !c2)) (h4 : c4 = (false && !c3)) (pos : Int32) : own_end (own_scan2 [(b0, 0, 2), (b1, 1, 3), (b2, 2, 4), (b3, 3, 5)]) pos = own_ex [(b0, 0, 2), (c1, 1, 3), (c2, 2, 4), (c3, 3, 5), (c4, 4, 6)] pos := by
  subst h4 h3 h2 h1
  cases b0 <;> cases b1 <;> cases b2 <;> cases b3 <;> rfl
set_option maxHeartbeats 4000000 in
theorem own_ef_37 (m : MethodId) (x0 : Int64) (x1 : Int32) (x2 : Int32) (x3 : Int32) : entryFrame m #[(.long x0), (.int x1), (.int x2), (.int x3)] maxLocals = mkF m 0 #[.val (.long x0), .second, vi x1, vi x2, vi x3, uN, uN, uN, uN, uN, uN, uN, uN, uN, uN, uN, uN, uN, uN, uN, uN, uN, uN, uN, uN, uN] [] := by simp [entryFrame, mkF, argsToLocals, Value.category, maxLocals]
theorem own_pd_38 : parseMethodDescriptor "(JIZ)C" = some ⟨[.long, .int, .boolean], some .char⟩ := by decide +kernel
theorem own_pd_39 : parseMethodDescriptor "([C)V" = some ⟨[(.array .char)], none⟩ := by decide +kernel
theorem own_pd_40 : parseMethodDescriptor "(Ljava/lang/String;Ljava/lang/String;)V" = some ⟨[(.object "java/lang/String"), (.object "java/lang/String")], none⟩ := by decide +kernel
theorem own_pd_41 : parseMethodDescriptor "([C[CI)Z" = some ⟨[(.array .char), (.array .char), .int], some .boolean⟩ := by decide +kernel
set_option maxRecDepth 65536 in
set_option maxHeartbeats 4000000 in
theorem own_law (l : Launch) (Z : State) (a0 : Array Value) (hw : ∀ d ∈ tables_1, d.before a0 Z = true) (cm : Com Z) (h0 : Heap) (n0 : Nat) (O : Old Z n0 h0) (p1 : Int64) (p2 : Int32) (p3 : Int32) (p4 : Int32) :
   Con l Z n0 x code maxLocals ret tables_1 room_1 #[(.long p1), (.int p2), (.int p3), (.int p4)] h0 [] (fun v h' => v = some (.int 1)) := by
  refine Con.of a0 (plainFor_of_name own_pn_2) O (fun _ q => nomatch q) [] (fun _ q => nomatch q) ?_
  intro p e s m below meth cdX T S hby hml hret hnm
  have H := fun {k r} q => @hb _ _ hby k r q
  have W := @Tw a0 Z hw
  refine Go.cast (own_ef_37 m p1 p2 p3 p4) ?_
  have tail2924 : ∀ z2923 : Int32, (z2923 = 0 ∨ z2923 = 1) → Go p e below (Done false [] Z s n0 h0 [] room_1.cells room_1.slots (fun v h' => v = some (.int 1))) T (mkF m 14 #[.val (.long p1), .second, vi p2, vi p3, vi p4, vi z2923, uN, uN, uN, uN, uN, uN, uN, uN, uN, uN, uN, uN, uN, uN, uN, uN, uN, uN, uN, uN] []) := by
   intro z2923 hz2925
   have tail2927 : ∀ z2926 : Int32, Go p e below (Done false [] Z s n0 h0 [] room_1.cells room_1.slots (fun v h' => v = some (.int 1))) T (mkF m 28 #[.val (.long p1), .second, vi p2, vi p3, vi p4, vi z2923, vi z2926, uN, uN, uN, uN, uN, uN, uN, uN, uN, uN, uN, uN, uN, uN, uN, uN, uN, uN, uN] []) := by
    intro z2926
    have tail2929 : ∀ z2928 : Int32, Go p e below (Done false [] Z s n0 h0 [] room_1.cells room_1.slots (fun v h' => v = some (.int 1))) T (mkF m 42 #[.val (.long p1), .second, vi p2, vi p3, vi p4, vi z2923, vi z2926, vi z2928, uN, uN, uN, uN, uN, uN, uN, uN, uN, uN, uN, uN, uN, uN, uN, uN, uN, uN] []) := by
     intro z2928
     rcases hz2925 with rfl | rfl
     ·skip
      refine S.iconst 43 (5 : Int32) (H at_42) (S.newarr 45 5 (H at_43) (W 0 rfl) (by decide) (by decide) (by decide) (by decide) (by decide) ?_)
      intro T2930 h2931 b2932 k2933 S2934 E2935 g2936 wo2937 A2938
      have f2939 : Arv Z h2931 b2932 k2933 .char (5 : Int32) [(.int 0), (.int 0), (.int 0), (.int 0), (.int 0)] (.int 0) := A2938.pad (pad_rep [] (.int 0) 5)
      refine S2934.astore 47 #[.val (.long p1), .second, vi p2, vi p3, vi p4, vi 0, vi z2926, vi z2928, vr b2932, uN, uN, uN, uN, uN, uN, uN, uN, uN, uN, uN, uN, uN, uN, uN, uN, uN] (H at_45) rfl rfl ?_
      refine S2934.aload 49 (H at_47) rfl rfl (S2934.iconst 50 (0 : Int32) (H at_49) (S2934.lloadN 51 (H at_50) rfl (S2934.iconst 52 (0 : Int32) (H at_51) (S2934.iload 54 (H at_52) rfl (S2934.scall 57 (H at_54) hml.symm (W 1 rfl) (W 2 rfl) (W 3 rfl) (W 4 rfl) (by decide) [(.long p1), (.int 0), (.int z2928)] [(.int 0), (.ref b2932)] (Con.pay (W := 2) (own_ch l Z a0 hw h2931 n0 S2934.old p1 (0 : Int32) z2928) (W 4 rfl) (W 3 rfl) (by decide) (by decide)) (lenOf own_pd_38 rfl) rfl (Nle rfl) (by decide) (by decide) Wrs.nil ?_)))))
      intro v2940 T2941 h2942 L2943 S2944 q2945 K2946
      obtain ⟨⟨c2947, rfl, hc_c2947⟩, e_q2945⟩ := q2945
      obtain rfl := e_q2945.symm
      show Go p e below _ T2941 (mkF m 57 #[.val (.long p1), .second, vi p2, vi p3, vi p4, vi 0, vi z2926, vi z2928, vr b2932, uN, uN, uN, uN, uN, uN, uN, uN, uN, uN, uN, uN, uN, uN, uN, uN, uN] [(.int c2947), (.int 0), (.ref b2932)])
      refine S2944.castore 58 0 (H at_57) f2939 ⟨by decide, by decide⟩ rfl (Nle rfl) wo2937 ?_
      intro T2948 h2949 L2950 S2951 W2952 A2953
      rw [Chr.nar hc_c2947] at A2953
      have f2954 : Arv Z h2949 b2932 k2933 .char (5 : Int32) [(.int c2947), (.int 0), (.int 0), (.int 0), (.int 0)] (.int 0) := A2953
      refine S2951.aload 60 (H at_58) rfl rfl (S2951.iconst 61 (1 : Int32) (H at_60) (S2951.lloadN 62 (H at_61) rfl (S2951.iconst 63 (1 : Int32) (H at_62) (S2951.iload 65 (H at_63) rfl (S2951.scall 68 (H at_65) hml.symm (W 1 rfl) (W 2 rfl) (W 3 rfl) (W 4 rfl) (by decide) [(.long p1), (.int 1), (.int z2928)] [(.int 1), (.ref b2932)] (Con.pay (W := 2) (own_ch l Z a0 hw h2949 n0 S2951.old p1 (1 : Int32) z2928) (W 4 rfl) (W 3 rfl) (by decide) (by decide)) (lenOf own_pd_38 rfl) rfl (Nle rfl) (by decide) (by decide) Wrs.nil ?_)))))
      intro v2955 T2956 h2957 L2958 S2959 q2960 K2961
      obtain ⟨⟨c2962, rfl, hc_c2962⟩, e_q2960⟩ := q2960
      obtain rfl := e_q2960.symm
      show Go p e below _ T2956 (mkF m 68 #[.val (.long p1), .second, vi p2, vi p3, vi p4, vi 0, vi z2926, vi z2928, vr b2932, uN, uN, uN, uN, uN, uN, uN, uN, uN, uN, uN, uN, uN, uN, uN, uN, uN] [(.int c2962), (.int 1), (.ref b2932)])
      refine S2959.castore 69 1 (H at_68) f2954 ⟨by decide, by decide⟩ rfl (Nle rfl) wo2937 ?_
      intro T2963 h2964 L2965 S2966 W2967 A2968
      rw [Chr.nar hc_c2962] at A2968
      have f2969 : Arv Z h2964 b2932 k2933 .char (5 : Int32) [(.int c2947), (.int c2962), (.int 0), (.int 0), (.int 0)] (.int 0) := A2968
      refine S2966.aload 71 (H at_69) rfl rfl (S2966.iconst 72 (2 : Int32) (H at_71) (S2966.lloadN 73 (H at_72) rfl (S2966.iconst 74 (2 : Int32) (H at_73) (S2966.iload 76 (H at_74) rfl (S2966.scall 79 (H at_76) hml.symm (W 1 rfl) (W 2 rfl) (W 3 rfl) (W 4 rfl) (by decide) [(.long p1), (.int 2), (.int z2928)] [(.int 2), (.ref b2932)] (Con.pay (W := 2) (own_ch l Z a0 hw h2964 n0 S2966.old p1 (2 : Int32) z2928) (W 4 rfl) (W 3 rfl) (by decide) (by decide)) (lenOf own_pd_38 rfl) rfl (Nle rfl) (by decide) (by decide) Wrs.nil ?_)))))
      intro v2970 T2971 h2972 L2973 S2974 q2975 K2976
      obtain ⟨⟨c2977, rfl, hc_c2977⟩, e_q2975⟩ := q2975
      obtain rfl := e_q2975.symm
      show Go p e below _ T2971 (mkF m 79 #[.val (.long p1), .second, vi p2, vi p3, vi p4, vi 0, vi z2926, vi z2928, vr b2932, uN, uN, uN, uN, uN, uN, uN, uN, uN, uN, uN, uN, uN, uN, uN, uN, uN] [(.int c2977), (.int 2), (.ref b2932)])
      refine S2974.castore 80 2 (H at_79) f2969 ⟨by decide, by decide⟩ rfl (Nle rfl) wo2937 ?_
      intro T2978 h2979 L2980 S2981 W2982 A2983
      rw [Chr.nar hc_c2977] at A2983
      have f2984 : Arv Z h2979 b2932 k2933 .char (5 : Int32) [(.int c2947), (.int c2962), (.int c2977), (.int 0), (.int 0)] (.int 0) := A2983
      refine S2981.aload 82 (H at_80) rfl rfl (S2981.iconst 83 (3 : Int32) (H at_82) (S2981.lloadN 84 (H at_83) rfl (S2981.iconst 85 (3 : Int32) (H at_84) (S2981.iload 87 (H at_85) rfl (S2981.scall 90 (H at_87) hml.symm (W 1 rfl) (W 2 rfl) (W 3 rfl) (W 4 rfl) (by decide) [(.long p1), (.int 3), (.int z2928)] [(.int 3), (.ref b2932)] (Con.pay (W := 2) (own_ch l Z a0 hw h2979 n0 S2981.old p1 (3 : Int32) z2928) (W 4 rfl) (W 3 rfl) (by decide) (by decide)) (lenOf own_pd_38 rfl) rfl (Nle rfl) (by decide) (by decide) Wrs.nil ?_)))))
      intro v2985 T2986 h2987 L2988 S2989 q2990 K2991
      obtain ⟨⟨c2992, rfl, hc_c2992⟩, e_q2990⟩ := q2990
      obtain rfl := e_q2990.symm
      show Go p e below _ T2986 (mkF m 90 #[.val (.long p1), .second, vi p2, vi p3, vi p4, vi 0, vi z2926, vi z2928, vr b2932, uN, uN, uN, uN, uN, uN, uN, uN, uN, uN, uN, uN, uN, uN, uN, uN, uN] [(.int c2992), (.int 3), (.ref b2932)])
      refine S2989.castore 91 3 (H at_90) f2984 ⟨by decide, by decide⟩ rfl (Nle rfl) wo2937 ?_
      intro T2993 h2994 L2995 S2996 W2997 A2998
      rw [Chr.nar hc_c2992] at A2998
      have f2999 : Arv Z h2994 b2932 k2933 .char (5 : Int32) [(.int c2947), (.int c2962), (.int c2977), (.int c2992), (.int 0)] (.int 0) := A2998
      refine S2996.aload 93 (H at_91) rfl rfl (S2996.iconst 94 (4 : Int32) (H at_93) (S2996.lloadN 95 (H at_94) rfl (S2996.iconst 96 (4 : Int32) (H at_95) (S2996.iload 98 (H at_96) rfl (S2996.scall 101 (H at_98) hml.symm (W 1 rfl) (W 2 rfl) (W 3 rfl) (W 4 rfl) (by decide) [(.long p1), (.int 4), (.int z2928)] [(.int 4), (.ref b2932)] (Con.pay (W := 2) (own_ch l Z a0 hw h2994 n0 S2996.old p1 (4 : Int32) z2928) (W 4 rfl) (W 3 rfl) (by decide) (by decide)) (lenOf own_pd_38 rfl) rfl (Nle rfl) (by decide) (by decide) Wrs.nil ?_)))))
      intro v3000 T3001 h3002 L3003 S3004 q3005 K3006
      obtain ⟨⟨c3007, rfl, hc_c3007⟩, e_q3005⟩ := q3005
      obtain rfl := e_q3005.symm
      show Go p e below _ T3001 (mkF m 101 #[.val (.long p1), .second, vi p2, vi p3, vi p4, vi 0, vi z2926, vi z2928, vr b2932, uN, uN, uN, uN, uN, uN, uN, uN, uN, uN, uN, uN, uN, uN, uN, uN, uN] [(.int c3007), (.int 4), (.ref b2932)])
      refine S3004.castore 102 4 (H at_101) f2999 ⟨by decide, by decide⟩ rfl (Nle rfl) wo2937 ?_
      intro T3008 h3009 L3010 S3011 W3012 A3013
      rw [Chr.nar hc_c3007] at A3013
      have f3014 : Arv Z h3009 b2932 k2933 .char (5 : Int32) [(.int c2947), (.int c2962), (.int c2977), (.int c2992), (.int c3007)] (.int 0) := A3013
      refine S3011.iload 104 (H at_102) rfl (S3011.ifY 111 (H at_104) (zEqT (by decide)) (S3011.iconst 112 (1 : Int32) (H at_111) (S3011.istore 114 #[.val (.long p1), .second, vi p2, vi p3, vi p4, vi 0, vi z2926, vi z2928, vr b2932, vi 1, uN, uN, uN, uN, uN, uN, uN, uN, uN, uN, uN, uN, uN, uN, uN, uN] (H at_112) rfl (S3011.iload 116 (H at_114) rfl (S3011.newarr 118 1 (H at_116) (W 0 rfl) (by decide) (by decide) (by decide) (by decide) (by decide) ?_)))))
      intro T3015 h3016 b3017 k3018 S3019 E3020 g3021 wo3022 A3023
      have l3024 : b2932 < b3017 := (by rw [g3021]; exact f3014.lt)
      have f3025 : Arv Z h3016 b3017 k3018 .char (1 : Int32) [(.int 0)] (.int 0) := A3023.pad (pad_rep [] (.int 0) 1)
      refine S3019.astore 120 #[.val (.long p1), .second, vi p2, vi p3, vi p4, vi 0, vi z2926, vi z2928, vr b2932, vi 1, vr b3017, uN, uN, uN, uN, uN, uN, uN, uN, uN, uN, uN, uN, uN, uN, uN] (H at_118) rfl rfl ?_
      refine S3019.aload 122 (H at_120) rfl rfl (S3019.iconst 123 (0 : Int32) (H at_122) (S3019.iloadN 124 (H at_123) rfl (S3019.i2l 125 (H at_124) (S3019.iconst 126 (0 : Int32) (H at_125) (S3019.iload 128 (H at_126) rfl (S3019.scall 131 (H at_128) hml.symm (W 1 rfl) (W 2 rfl) (W 3 rfl) (W 4 rfl) (by decide) [(.long (p2.toInt64)), (.int 0), (.int z2928)] [(.int 0), (.ref b3017)] (Con.pay (W := 2) (own_ch l Z a0 hw h3016 n0 S3019.old (p2.toInt64) (0 : Int32) z2928) (W 4 rfl) (W 3 rfl) (by decide) (by decide)) (lenOf own_pd_38 rfl) rfl (Nle rfl) (by decide) (by decide) Wrs.nil ?_))))))
      intro v3026 T3027 h3028 L3029 S3030 q3031 K3032
      obtain ⟨⟨c3033, rfl, hc_c3033⟩, e_q3031⟩ := q3031
      obtain rfl := e_q3031.symm
      show Go p e below _ T3027 (mkF m 131 #[.val (.long p1), .second, vi p2, vi p3, vi p4, vi 0, vi z2926, vi z2928, vr b2932, vi 1, vr b3017, uN, uN, uN, uN, uN, uN, uN, uN, uN, uN, uN, uN, uN, uN, uN] [(.int c3033), (.int 0), (.ref b3017)])
      refine S3030.castore 132 0 (H at_131) f3025 ⟨by decide, by decide⟩ rfl (Nle rfl) wo3022 ?_
      intro T3034 h3035 L3036 S3037 W3038 A3039
      rw [Chr.nar hc_c3033] at A3039
      have f3040 : Arv Z h3035 b3017 k3018 .char (1 : Int32) [(.int c3033)] (.int 0) := A3039
      refine S3037.iload 134 (H at_132) rfl (S3037.ifY 149 (H at_134) (zEqT (by decide)) (S3037.new 152 (H at_149) (W 6 rfl) (W 7 rfl) (W 8 rfl) (by decide) (by decide) ?_))
      intro T3041 h3042 b3043 S3044 E3045 g3046 wo3047 A3048 D3049 U3050
      have f3051 := ((f3014.ext E3020).other W3038 (Nat.ne_of_lt l3024))
      have l3052 : b2932 < b3043 := (by rw [g3046]; exact f3051.lt)
      have l3053 : b3017 < b3043 := (by rw [g3046]; exact f3040.lt)
      have f3054 : Fld Z h3042 b3043 "java/lang/String" "coder" "B" (.int 0) := D3049 (Or.inr (W 32 rfl)) (ty := .byte) (by decide)
      have f3055 : Fld Z h3042 b3043 "java/lang/String" "value" "[B" .null := D3049 (Or.inr (W 34 rfl)) (ty := (.array .byte)) (by decide)
      refine S3044.dup 153 (H at_152) rfl (S3044.aload 155 (H at_153) rfl rfl ?_)
      have f3056 := (f3051.ext E3045)
      have hp3057 : ∀ c ∈ ([c2947, c2962, c2977, c2992, c3007] : List Int32), ¬ c < 0 ∧ ¬ (255 : Int32) < c := by
       intro c hc
       simp only [List.mem_cons, List.not_mem_nil, or_false] at hc
       rcases hc with rfl | rfl | rfl | rfl | rfl
       · exact hc_c2947
       · exact hc_c2962
       · exact hc_c2977
       · exact hc_c2992
       · exact hc_c3007
      refine S3044.icall 158 (H at_155) hml.symm rfl (W 9 rfl) (W 10 rfl) (W 11 rfl) (by decide) [(.ref b2932)] [(.ref b3043)] (payNew (W := 1) (n := 5) (cs := ([c2947, c2962, c2977, c2992, c3007] : List Int32)) hw (W 7 rfl) cm S3044.old (S3044.ge wo3047) A3048 f3055 f3054 f3056 rfl rfl (by decide) (by decide) hp3057 (by decide) (by decide)) (lenOf own_pd_39 rfl) rfl (Nle rfl) (by decide) (by decide) (Wrs.one wo3047 (Or.inl (by simp))) ?_
      intro v3058 T3059 h3060 L3061 S3062 q3063 K3064
      obtain ⟨rfl, t3065, g3066, Z3067⟩ := q3063
      have l3068 : b2932 < t3065 := Nat.lt_of_lt_of_le f3056.lt g3066
      have f3070 := (f3040.ext E3045)
      have l3069 : b3017 < t3065 := Nat.lt_of_lt_of_le f3070.lt g3066
      have l3071 : b3043 < t3065 := Nat.lt_of_lt_of_le A3048.lt g3066
      have f3072 := Z3067.exa
      show Go p e below _ T3059 (mkF m 158 #[.val (.long p1), .second, vi p2, vi p3, vi p4, vi 0, vi z2926, vi z2928, vr b2932, vi 1, vr b3017, uN, uN, uN, uN, uN, uN, uN, uN, uN, uN, uN, uN, uN, uN, uN] [(.ref b3043)])
      refine S3062.astore 160 #[.val (.long p1), .second, vi p2, vi p3, vi p4, vi 0, vi z2926, vi z2928, vr b2932, vi 1, vr b3017, vr b3043, uN, uN, uN, uN, uN, uN, uN, uN, uN, uN, uN, uN, uN, uN] (H at_158) rfl rfl ?_
      refine S3062.new 163 (H at_160) (W 6 rfl) (W 7 rfl) (W 8 rfl) (by decide) (by decide) ?_
      intro T3073 h3074 b3075 S3076 E3077 g3078 wo3079 A3080 D3081 U3082
      have f3083 := (f3056.keep K3064 (ninS (Nat.ne_of_lt l3052) nin0))
      have l3084 : b2932 < b3075 := (by rw [g3078]; exact f3083.lt)
      have f3085 := (f3070.keep K3064 (ninS (Nat.ne_of_lt l3053) nin0))
      have l3086 : b3017 < b3075 := (by rw [g3078]; exact f3085.lt)
      have l3087 : b3043 < b3075 := (by rw [g3078]; exact f3072.lt)
      have l3088 : t3065 < b3075 := (by rw [g3078]; exact Z3067.lt')
      have f3089 : Fld Z h3074 b3075 "java/lang/String" "coder" "B" (.int 0) := D3081 (Or.inr (W 32 rfl)) (ty := .byte) (by decide)
      have f3090 : Fld Z h3074 b3075 "java/lang/String" "value" "[B" .null := D3081 (Or.inr (W 34 rfl)) (ty := (.array .byte)) (by decide)
      refine S3076.dup 164 (H at_163) rfl (S3076.aload 166 (H at_164) rfl rfl ?_)
      have f3091 := (f3085.ext E3077)
      have hp3092 : ∀ c ∈ ([c3033] : List Int32), ¬ c < 0 ∧ ¬ (255 : Int32) < c := by
       intro c hc
       simp only [List.mem_cons, List.not_mem_nil, or_false] at hc
       rcases hc with rfl
       · exact hc_c3033
      refine S3076.icall 169 (H at_166) hml.symm rfl (W 9 rfl) (W 10 rfl) (W 11 rfl) (by decide) [(.ref b3017)] [(.ref b3075)] (payNew (W := 1) (n := 1) (cs := ([c3033] : List Int32)) hw (W 7 rfl) cm S3076.old (S3076.ge wo3079) A3080 f3090 f3089 f3091 rfl rfl (by decide) (by decide) hp3092 (by decide) (by decide)) (lenOf own_pd_39 rfl) rfl (Nle rfl) (by decide) (by decide) (Wrs.one wo3079 (Or.inl (by simp))) ?_
      intro v3093 T3094 h3095 L3096 S3097 q3098 K3099
      obtain ⟨rfl, t3100, g3101, Z3102⟩ := q3098
      have f3104 := (f3083.ext E3077)
      have l3103 : b2932 < t3100 := Nat.lt_of_lt_of_le f3104.lt g3101
      have l3105 : b3017 < t3100 := Nat.lt_of_lt_of_le f3091.lt g3101
      have f3107 := (f3072.ext E3077)
      have l3106 : b3043 < t3100 := Nat.lt_of_lt_of_le f3107.lt g3101
      have f3109 := (Z3067.ext E3077)
      have l3108 : t3065 < t3100 := Nat.lt_of_lt_of_le f3109.lt' g3101
      have l3110 : b3075 < t3100 := Nat.lt_of_lt_of_le A3080.lt g3101
      have f3111 := Z3102.exa
      show Go p e below _ T3094 (mkF m 169 #[.val (.long p1), .second, vi p2, vi p3, vi p4, vi 0, vi z2926, vi z2928, vr b2932, vi 1, vr b3017, vr b3043, uN, uN, uN, uN, uN, uN, uN, uN, uN, uN, uN, uN, uN, uN] [(.ref b3075)])
      refine S3097.astore 171 #[.val (.long p1), .second, vi p2, vi p3, vi p4, vi 0, vi z2926, vi z2928, vr b2932, vi 1, vr b3017, vr b3043, vr b3075, uN, uN, uN, uN, uN, uN, uN, uN, uN, uN, uN, uN, uN] (H at_169) rfl rfl ?_
      have tail3113 : ∀ z3112 : Int32, True → Go p e below (Done false [] Z s n0 h0 [] room_1.cells room_1.slots (fun v h' => v = some (.int 1))) T3094 (mkF m 188 #[.val (.long p1), .second, vi p2, vi p3, vi p4, vi 0, vi z2926, vi z2928, vr b2932, vi 1, vr b3017, vr b3043, vr b3075, vi z3112, uN, uN, uN, uN, uN, uN, uN, uN, uN, uN, uN, uN] []) := by
       intro z3112 hj3114
       refine S3097.new 191 (H at_188) (W 35 rfl) (W 36 rfl) (W 37 rfl) (by decide) (by decide) ?_
       intro T3115 h3116 b3117 S3118 E3119 g3120 wo3121 A3122 D3123 U3124
       have f3125 := (f3104.keep K3099 (ninS (Nat.ne_of_lt l3084) nin0))
       have l3126 : b2932 < b3117 := (by rw [g3120]; exact f3125.lt)
       have f3127 := (f3091.keep K3099 (ninS (Nat.ne_of_lt l3086) nin0))
       have l3128 : b3017 < b3117 := (by rw [g3120]; exact f3127.lt)
       have f3129 := (f3107.keep K3099)
       have l3130 : b3043 < b3117 := (by rw [g3120]; exact f3129.lt)
       have f3131 := (f3109.keep K3099 (ninS (Nat.ne_of_lt l3087) nin0) (ninS (Nat.ne_of_lt l3088) nin0))
       have l3132 : t3065 < b3117 := (by rw [g3120]; exact f3131.lt')
       have l3133 : b3075 < b3117 := (by rw [g3120]; exact f3111.lt)
       have l3134 : t3100 < b3117 := (by rw [g3120]; exact Z3102.lt')
       have f3135 : Fld Z h3116 b3117 "com/example/oref/oref/wikipedia/Matches" "starts" "[I" .null := D3123 (Or.inl (W 44 rfl)) (ty := (.array .int)) (by decide)
       have f3136 : Fld Z h3116 b3117 "com/example/oref/oref/wikipedia/Matches" "ends" "[I" .null := D3123 (Or.inl (W 46 rfl)) (ty := (.array .int)) (by decide)
       have f3137 : Fld Z h3116 b3117 "com/example/oref/oref/wikipedia/Matches" "count" "I" (.int 0) := D3123 (Or.inl (W 82 rfl)) (ty := .int) (by decide)
       refine S3118.dup 192 (H at_191) rfl (S3118.aload 194 (H at_192) rfl rfl (S3118.aload 196 (H at_194) rfl rfl ?_))
       have f3138 := (f3131.ext E3119)
       obtain ⟨⟨k3139, E3140, V3141, C3142, A3143⟩, -, -⟩ := f3138
       have A3144 : Arv Z h3116 t3065 k3139 .byte (5 : Int32) [(.int (c2947.toInt8.toInt32)), (.int (c2962.toInt8.toInt32)), (.int (c2977.toInt8.toInt32)), (.int (c2992.toInt8.toInt32)), (.int (c3007.toInt8.toInt32))] (.int 0) := A3143
       have f3145 := (Z3102.ext E3119)
       obtain ⟨⟨k3146, E3147, V3148, C3149, A3150⟩, -, -⟩ := f3145
       have A3151 : Arv Z h3116 t3100 k3146 .byte (1 : Int32) [(.int (c3033.toInt8.toInt32))] (.int 0) := A3150
       obtain ⟨b3152, e3153⟩ : ∃ bb : Bool, bb = decide ((c2947.toInt8.toInt32) = (c3033.toInt8.toInt32)) := ⟨_, rfl⟩
       have e3154 : b3152 = decide (c2947 = c3033) := by rw [e3153, own_bin hc_c2947 hc_c3033]
       obtain ⟨b3155, e3156⟩ : ∃ bb : Bool, bb = decide ((c2962.toInt8.toInt32) = (c3033.toInt8.toInt32)) := ⟨_, rfl⟩
       have e3157 : b3155 = decide (c2962 = c3033) := by rw [e3156, own_bin hc_c2962 hc_c3033]
       obtain ⟨b3158, e3159⟩ : ∃ bb : Bool, bb = decide ((c2977.toInt8.toInt32) = (c3033.toInt8.toInt32)) := ⟨_, rfl⟩
       have e3160 : b3158 = decide (c2977 = c3033) := by rw [e3159, own_bin hc_c2977 hc_c3033]
       obtain ⟨b3161, e3162⟩ : ∃ bb : Bool, bb = decide ((c2992.toInt8.toInt32) = (c3033.toInt8.toInt32)) := ⟨_, rfl⟩
       have e3163 : b3161 = decide (c2992 = c3033) := by rw [e3162, own_bin hc_c2992 hc_c3033]
       obtain ⟨b3164, e3165⟩ : ∃ bb : Bool, bb = decide ((c3007.toInt8.toInt32) = (c3033.toInt8.toInt32)) := ⟨_, rfl⟩
       have e3166 : b3164 = decide (c3007 = c3033) := by rw [e3165, own_bin hc_c3007 hc_c3033]
       refine S3118.icall 199 (H at_196) hml.symm rfl (W 38 rfl) (W 39 rfl) (W 40 rfl) (by decide) [(.ref b3043), (.ref b3075)] [(.ref b3117)] (Con.pay (W := 1) (own_mi_1 l Z a0 hw cm h3116 n0 S3118.old b3117 b3043 b3075 t3065 k3139 (.int 0) (c2947.toInt8.toInt32) (c2962.toInt8.toInt32) (c2977.toInt8.toInt32) (c2992.toInt8.toInt32) (c3007.toInt8.toInt32) t3100 k3146 (.int 0) (c3033.toInt8.toInt32) b3152 b3155 b3158 b3161 b3164 (S3118.ge wo3121) A3122 f3137 f3135 f3136 E3140 V3141 C3142 E3147 V3148 C3149 A3144 A3151 e3153 e3156 e3159 e3162 e3165 (Nat.ne_of_lt l3132) (Nat.ne_of_lt l3134)) (W 40 rfl) (W 37 rfl) (by decide) (by decide)) (lenOf own_pd_40 rfl) rfl (Nle rfl) (by decide) (by decide) (Wrs.one wo3121 (Or.inr ⟨_, A3122, by decide, by decide⟩)) ?_
       intro v3167 T3168 h3169 L3170 S3171 q3172 K3173
       obtain ⟨rfl, f3174⟩ := q3172
       have f3175 : Exa Z h3169 b3117 "com/example/oref/oref/wikipedia/Matches" := (by obtain ⟨_, _, _, _, z, _⟩ := f3174; exact z)
       show Go p e below _ T3168 (mkF m 199 #[.val (.long p1), .second, vi p2, vi p3, vi p4, vi 0, vi z2926, vi z2928, vr b2932, vi 1, vr b3017, vr b3043, vr b3075, vi z3112, uN, uN, uN, uN, uN, uN, uN, uN, uN, uN, uN, uN] [(.ref b3117)])
       refine S3171.astore 201 #[.val (.long p1), .second, vi p2, vi p3, vi p4, vi 0, vi z2926, vi z2928, vr b2932, vi 1, vr b3017, vr b3043, vr b3075, vi z3112, vr b3117, uN, uN, uN, uN, uN, uN, uN, uN, uN, uN, uN] (H at_199) rfl rfl ?_
       refine S3171.aload 203 (H at_201) rfl rfl (S3171.aload 205 (H at_203) rfl rfl (S3171.iconst 206 (0 : Int32) (H at_205) ?_))
       have f3176 := ((f3125.ext E3119).keep K3173 (ninS (Nat.ne_of_lt l3126) nin0))
       have f3177 := ((f3127.ext E3119).keep K3173 (ninS (Nat.ne_of_lt l3128) nin0))
       refine S3171.scall 209 (H at_206) hml.symm (W 69 rfl) (W 70 rfl) (W 3 rfl) (W 71 rfl) (by decide) [(.ref b2932), (.ref b3017), (.int 0)] [] (Con.pay (W := 0) (own_occ_1_0 l Z a0 hw h3169 n0 S3171.old b2932 b3017 k2933 k3018 (.int 0) (.int 0) c2947 c2962 c2977 c2992 c3007 c3033 b3152 f3176 f3177 e3154) (W 71 rfl) (W 3 rfl) (by decide) (by decide)) (lenOf own_pd_41 rfl) rfl (Nle rfl) (by decide) (by decide) Wrs.nil ?_
       intro v3178 T3179 h3180 L3181 S3182 q3183 K3184
       obtain ⟨rfl, e_q3183⟩ := q3183
       obtain rfl := e_q3183.symm
       show Go p e below _ T3179 (mkF m 209 #[.val (.long p1), .second, vi p2, vi p3, vi p4, vi 0, vi z2926, vi z2928, vr b2932, vi 1, vr b3017, vr b3043, vr b3075, vi z3112, vr b3117, uN, uN, uN, uN, uN, uN, uN, uN, uN, uN, uN] [(.int (own_fl b3152))])
       refine S3182.istore 211 #[.val (.long p1), .second, vi p2, vi p3, vi p4, vi 0, vi z2926, vi z2928, vr b2932, vi 1, vr b3017, vr b3043, vr b3075, vi z3112, vr b3117, vi (own_fl b3152), uN, uN, uN, uN, uN, uN, uN, uN, uN, uN] (H at_209) rfl (S3182.aload 213 (H at_211) rfl rfl (S3182.aload 215 (H at_213) rfl rfl (S3182.iconst 216 (1 : Int32) (H at_215) (S3182.scall 219 (H at_216) hml.symm (W 69 rfl) (W 70 rfl) (W 3 rfl) (W 71 rfl) (by decide) [(.ref b2932), (.ref b3017), (.int 1)] [] (Con.pay (W := 0) (own_occ_1_1 l Z a0 hw h3169 n0 S3182.old b2932 b3017 k2933 k3018 (.int 0) (.int 0) c2947 c2962 c2977 c2992 c3007 c3033 b3155 f3176 f3177 e3157) (W 71 rfl) (W 3 rfl) (by decide) (by decide)) (lenOf own_pd_41 rfl) rfl (Nle rfl) (by decide) (by decide) Wrs.nil ?_))))
       intro v3185 T3186 h3187 L3188 S3189 q3190 K3191
       obtain ⟨rfl, e_q3190⟩ := q3190
       obtain rfl := e_q3190.symm
       show Go p e below _ T3186 (mkF m 219 #[.val (.long p1), .second, vi p2, vi p3, vi p4, vi 0, vi z2926, vi z2928, vr b2932, vi 1, vr b3017, vr b3043, vr b3075, vi z3112, vr b3117, vi (own_fl b3152), uN, uN, uN, uN, uN, uN, uN, uN, uN, uN] [(.int (own_fl b3155))])
       refine S3189.istore 221 #[.val (.long p1), .second, vi p2, vi p3, vi p4, vi 0, vi z2926, vi z2928, vr b2932, vi 1, vr b3017, vr b3043, vr b3075, vi z3112, vr b3117, vi (own_fl b3152), vi (own_fl b3155), uN, uN, uN, uN, uN, uN, uN, uN, uN] (H at_219) rfl (S3189.aload 223 (H at_221) rfl rfl (S3189.aload 225 (H at_223) rfl rfl (S3189.iconst 226 (2 : Int32) (H at_225) (S3189.scall 229 (H at_226) hml.symm (W 69 rfl) (W 70 rfl) (W 3 rfl) (W 71 rfl) (by decide) [(.ref b2932), (.ref b3017), (.int 2)] [] (Con.pay (W := 0) (own_occ_1_2 l Z a0 hw h3169 n0 S3189.old b2932 b3017 k2933 k3018 (.int 0) (.int 0) c2947 c2962 c2977 c2992 c3007 c3033 b3158 f3176 f3177 e3160) (W 71 rfl) (W 3 rfl) (by decide) (by decide)) (lenOf own_pd_41 rfl) rfl (Nle rfl) (by decide) (by decide) Wrs.nil ?_))))
       intro v3192 T3193 h3194 L3195 S3196 q3197 K3198
       obtain ⟨rfl, e_q3197⟩ := q3197
       obtain rfl := e_q3197.symm
       show Go p e below _ T3193 (mkF m 229 #[.val (.long p1), .second, vi p2, vi p3, vi p4, vi 0, vi z2926, vi z2928, vr b2932, vi 1, vr b3017, vr b3043, vr b3075, vi z3112, vr b3117, vi (own_fl b3152), vi (own_fl b3155), uN, uN, uN, uN, uN, uN, uN, uN, uN] [(.int (own_fl b3158))])
       refine S3196.istore 231 #[.val (.long p1), .second, vi p2, vi p3, vi p4, vi 0, vi z2926, vi z2928, vr b2932, vi 1, vr b3017, vr b3043, vr b3075, vi z3112, vr b3117, vi (own_fl b3152), vi (own_fl b3155), vi (own_fl b3158), uN, uN, uN, uN, uN, uN, uN, uN] (H at_229) rfl (S3196.aload 233 (H at_231) rfl rfl (S3196.aload 235 (H at_233) rfl rfl (S3196.iconst 236 (3 : Int32) (H at_235) (S3196.scall 239 (H at_236) hml.symm (W 69 rfl) (W 70 rfl) (W 3 rfl) (W 71 rfl) (by decide) [(.ref b2932), (.ref b3017), (.int 3)] [] (Con.pay (W := 0) (own_occ_1_3 l Z a0 hw h3169 n0 S3196.old b2932 b3017 k2933 k3018 (.int 0) (.int 0) c2947 c2962 c2977 c2992 c3007 c3033 b3161 f3176 f3177 e3163) (W 71 rfl) (W 3 rfl) (by decide) (by decide)) (lenOf own_pd_41 rfl) rfl (Nle rfl) (by decide) (by decide) Wrs.nil ?_))))
       intro v3199 T3200 h3201 L3202 S3203 q3204 K3205
       obtain ⟨rfl, e_q3204⟩ := q3204
       obtain rfl := e_q3204.symm
       show Go p e below _ T3200 (mkF m 239 #[.val (.long p1), .second, vi p2, vi p3, vi p4, vi 0, vi z2926, vi z2928, vr b2932, vi 1, vr b3017, vr b3043, vr b3075, vi z3112, vr b3117, vi (own_fl b3152), vi (own_fl b3155), vi (own_fl b3158), uN, uN, uN, uN, uN, uN, uN, uN] [(.int (own_fl b3161))])
       refine S3203.istore 241 #[.val (.long p1), .second, vi p2, vi p3, vi p4, vi 0, vi z2926, vi z2928, vr b2932, vi 1, vr b3017, vr b3043, vr b3075, vi z3112, vr b3117, vi (own_fl b3152), vi (own_fl b3155), vi (own_fl b3158), vi (own_fl b3161), uN, uN, uN, uN, uN, uN, uN] (H at_239) rfl (S3203.aload 243 (H at_241) rfl rfl (S3203.aload 245 (H at_243) rfl rfl (S3203.iconst 246 (4 : Int32) (H at_245) (S3203.scall 249 (H at_246) hml.symm (W 69 rfl) (W 70 rfl) (W 3 rfl) (W 71 rfl) (by decide) [(.ref b2932), (.ref b3017), (.int 4)] [] (Con.pay (W := 0) (own_occ_1_4 l Z a0 hw h3169 n0 S3203.old b2932 b3017 k2933 k3018 (.int 0) (.int 0) c2947 c2962 c2977 c2992 c3007 c3033 b3164 f3176 f3177 e3166) (W 71 rfl) (W 3 rfl) (by decide) (by decide)) (lenOf own_pd_41 rfl) rfl (Nle rfl) (by decide) (by decide) Wrs.nil ?_))))
       intro v3206 T3207 h3208 L3209 S3210 q3211 K3212
       obtain ⟨rfl, e_q3211⟩ := q3211
       obtain rfl := e_q3211.symm
       show Go p e below _ T3207 (mkF m 249 #[.val (.long p1), .second, vi p2, vi p3, vi p4, vi 0, vi z2926, vi z2928, vr b2932, vi 1, vr b3017, vr b3043, vr b3075, vi z3112, vr b3117, vi (own_fl b3152), vi (own_fl b3155), vi (own_fl b3158), vi (own_fl b3161), uN, uN, uN, uN, uN, uN, uN] [(.int (own_fl b3164))])
       refine S3210.istore 251 #[.val (.long p1), .second, vi p2, vi p3, vi p4, vi 0, vi z2926, vi z2928, vr b2932, vi 1, vr b3017, vr b3043, vr b3075, vi z3112, vr b3117, vi (own_fl b3152), vi (own_fl b3155), vi (own_fl b3158), vi (own_fl b3161), vi (own_fl b3164), uN, uN, uN, uN, uN, uN] (H at_249) rfl (S3210.iload 253 (H at_251) rfl (S3210.istore 255 #[.val (.long p1), .second, vi p2, vi p3, vi p4, vi 0, vi z2926, vi z2928, vr b2932, vi 1, vr b3017, vr b3043, vr b3075, vi z3112, vr b3117, vi (own_fl b3152), vi (own_fl b3155), vi (own_fl b3158), vi (own_fl b3161), vi (own_fl b3164), vi (own_fl b3152), uN, uN, uN, uN, uN] (H at_253) rfl ?_))
       have tail3214 : ∀ z3213 : Int32, z3213 = own_fl b3155 → Go p e below (Done false [] Z s n0 h0 [] room_1.cells room_1.slots (fun v h' => v = some (.int 1))) T3207 (mkF m 277 #[.val (.long p1), .second, vi p2, vi p3, vi p4, vi 0, vi z2926, vi z2928, vr b2932, vi 1, vr b3017, vr b3043, vr b3075, vi z3112, vr b3117, vi (own_fl b3152), vi (own_fl b3155), vi (own_fl b3158), vi (own_fl b3161), vi (own_fl b3164), vi (own_fl b3152), vi z3213, uN, uN, uN, uN] []) := by
        intro z3213 hj3215
        subst hj3215
        have tail3217 : ∀ z3216 : Int32, z3216 = own_fl b3158 → Go p e below (Done false [] Z s n0 h0 [] room_1.cells room_1.slots (fun v h' => v = some (.int 1))) T3207 (mkF m 299 #[.val (.long p1), .second, vi p2, vi p3, vi p4, vi 0, vi z2926, vi z2928, vr b2932, vi 1, vr b3017, vr b3043, vr b3075, vi z3112, vr b3117, vi (own_fl b3152), vi (own_fl b3155), vi (own_fl b3158), vi (own_fl b3161), vi (own_fl b3164), vi (own_fl b3152), vi (own_fl b3155), vi z3216, uN, uN, uN] []) := by
         intro z3216 hj3218
         subst hj3218
         have tail3220 : ∀ z3219 : Int32, z3219 = own_fl b3161 → Go p e below (Done false [] Z s n0 h0 [] room_1.cells room_1.slots (fun v h' => v = some (.int 1))) T3207 (mkF m 321 #[.val (.long p1), .second, vi p2, vi p3, vi p4, vi 0, vi z2926, vi z2928, vr b2932, vi 1, vr b3017, vr b3043, vr b3075, vi z3112, vr b3117, vi (own_fl b3152), vi (own_fl b3155), vi (own_fl b3158), vi (own_fl b3161), vi (own_fl b3164), vi (own_fl b3152), vi (own_fl b3155), vi (own_fl b3158), vi z3219, uN, uN] []) := by
          intro z3219 hj3221
          subst hj3221
          have tail3223 : ∀ z3222 : Int32, z3222 = own_fl b3164 → Go p e below (Done false [] Z s n0 h0 [] room_1.cells room_1.slots (fun v h' => v = some (.int 1))) T3207 (mkF m 343 #[.val (.long p1), .second, vi p2, vi p3, vi p4, vi 0, vi z2926, vi z2928, vr b2932, vi 1, vr b3017, vr b3043, vr b3075, vi z3112, vr b3117, vi (own_fl b3152), vi (own_fl b3155), vi (own_fl b3158), vi (own_fl b3161), vi (own_fl b3164), vi (own_fl b3152), vi (own_fl b3155), vi (own_fl b3158), vi (own_fl b3161), vi z3222, uN] []) := by
           intro z3222 hj3224
           subst hj3224
           have tail3226 : ∀ z3225 : Int32, z3225 = (own_ex [(b3152, 0, 1), (b3155, 1, 2), (b3158, 2, 3), (b3161, 3, 4), (b3164, 4, 5)] z3112) → Go p e below (Done false [] Z s n0 h0 [] room_1.cells room_1.slots (fun v h' => v = some (.int 1))) T3207 (mkF m 442 #[.val (.long p1), .second, vi p2, vi p3, vi p4, vi 0, vi z2926, vi z2928, vr b2932, vi 1, vr b3017, vr b3043, vr b3075, vi z3112, vr b3117, vi (own_fl b3152), vi (own_fl b3155), vi (own_fl b3158), vi (own_fl b3161), vi (own_fl b3164), vi (own_fl b3152), vi (own_fl b3155), vi (own_fl b3158), vi (own_fl b3161), vi (own_fl b3164), vi z3225] []) := by
            intro z3225 hj3227
            subst hj3227
            refine S3210.aload 444 (H at_442) rfl rfl (S3210.iload 446 (H at_444) rfl (S3210.vcall 449 (H at_446) hml.symm (W 72 rfl) (W 73 rfl) (W 75 rfl) (W 74 rfl) (nfSel (W 75 rfl)) (by decide) f3175 [(.int z3112)] [] (Con.pay (W := 0) (own_en_1 l Z a0 hw h3169 n0 S3210.old b3117 b3152 b3155 b3158 b3161 b3164 z3112 f3174) (W 76 rfl) (W 37 rfl) (by decide) (by decide)) (lenOf own_pd_36 rfl) rfl (Nle rfl) (by decide) (by decide) Wrs.nil ?_))
            intro v3228 T3229 h3230 L3231 S3232 q3233 K3234
            obtain ⟨rfl, e_q3233⟩ := q3233
            obtain rfl := e_q3233.symm
            show Go p e below _ T3229 (mkF m 449 #[.val (.long p1), .second, vi p2, vi p3, vi p4, vi 0, vi z2926, vi z2928, vr b2932, vi 1, vr b3017, vr b3043, vr b3075, vi z3112, vr b3117, vi (own_fl b3152), vi (own_fl b3155), vi (own_fl b3158), vi (own_fl b3161), vi (own_fl b3164), vi (own_fl b3152), vi (own_fl b3155), vi (own_fl b3158), vi (own_fl b3161), vi (own_fl b3164), vi (own_ex [(b3152, 0, 1), (b3155, 1, 2), (b3158, 2, 3), (b3161, 3, 4), (b3164, 4, 5)] z3112)] [(.int (own_end (own_scan1 [(b3152, 0, 1), (b3155, 1, 2), (b3158, 2, 3), (b3161, 3, 4), (b3164, 4, 5)]) z3112))])
            refine S3232.iload 451 (H at_449) rfl (S3232.icmpN 454 (H at_451) (qNeF (own_fin1 b3152 b3155 b3158 b3161 b3164 _)) (S3232.iconst 455 (1 : Int32) (H at_454) (S3232.goto 459 (H at_455) ?_)))
            exact S3232.retN (t := .boolean) (H at_459) hret (by decide) (by decide) (by decide) rfl
           refine S3210.iconst 344 (-1 : Int32) (H at_343) (S3210.istore 346 #[.val (.long p1), .second, vi p2, vi p3, vi p4, vi 0, vi z2926, vi z2928, vr b2932, vi 1, vr b3017, vr b3043, vr b3075, vi z3112, vr b3117, vi (own_fl b3152), vi (own_fl b3155), vi (own_fl b3158), vi (own_fl b3161), vi (own_fl b3164), vi (own_fl b3152), vi (own_fl b3155), vi (own_fl b3158), vi (own_fl b3161), vi (own_fl b3164), vi (-1)] (H at_344) rfl ?_)
           have tail3236 : ∀ z3235 : Int32, (z3235 = -1 ∧ (own_ex [(b3152, 0, 1), (b3155, 1, 2), (b3158, 2, 3), (b3161, 3, 4), (b3164, 4, 5)] z3112) = (own_ex [(b3155, 1, 2), (b3158, 2, 3), (b3161, 3, 4), (b3164, 4, 5)] z3112)) → Go p e below (Done false [] Z s n0 h0 [] room_1.cells room_1.slots (fun v h' => v = some (.int 1))) T3207 (mkF m 365 #[.val (.long p1), .second, vi p2, vi p3, vi p4, vi 0, vi z2926, vi z2928, vr b2932, vi 1, vr b3017, vr b3043, vr b3075, vi z3112, vr b3117, vi (own_fl b3152), vi (own_fl b3155), vi (own_fl b3158), vi (own_fl b3161), vi (own_fl b3164), vi (own_fl b3152), vi (own_fl b3155), vi (own_fl b3158), vi (own_fl b3161), vi (own_fl b3164), vi z3235] []) := by
            intro z3235 hj3237
            obtain ⟨rfl, hx3238⟩ := hj3237
            have tail3240 : ∀ z3239 : Int32, (z3239 = -1 ∧ (own_ex [(b3152, 0, 1), (b3155, 1, 2), (b3158, 2, 3), (b3161, 3, 4), (b3164, 4, 5)] z3112) = (own_ex [(b3158, 2, 3), (b3161, 3, 4), (b3164, 4, 5)] z3112)) → Go p e below (Done false [] Z s n0 h0 [] room_1.cells room_1.slots (fun v h' => v = some (.int 1))) T3207 (mkF m 385 #[.val (.long p1), .second, vi p2, vi p3, vi p4, vi 0, vi z2926, vi z2928, vr b2932, vi 1, vr b3017, vr b3043, vr b3075, vi z3112, vr b3117, vi (own_fl b3152), vi (own_fl b3155), vi (own_fl b3158), vi (own_fl b3161), vi (own_fl b3164), vi (own_fl b3152), vi (own_fl b3155), vi (own_fl b3158), vi (own_fl b3161), vi (own_fl b3164), vi z3239] []) := by
             intro z3239 hj3241
             obtain ⟨rfl, hx3242⟩ := hj3241
             have tail3244 : ∀ z3243 : Int32, (z3243 = -1 ∧ (own_ex [(b3152, 0, 1), (b3155, 1, 2), (b3158, 2, 3), (b3161, 3, 4), (b3164, 4, 5)] z3112) = (own_ex [(b3161, 3, 4), (b3164, 4, 5)] z3112)) → Go p e below (Done false [] Z s n0 h0 [] room_1.cells room_1.slots (fun v h' => v = some (.int 1))) T3207 (mkF m 405 #[.val (.long p1), .second, vi p2, vi p3, vi p4, vi 0, vi z2926, vi z2928, vr b2932, vi 1, vr b3017, vr b3043, vr b3075, vi z3112, vr b3117, vi (own_fl b3152), vi (own_fl b3155), vi (own_fl b3158), vi (own_fl b3161), vi (own_fl b3164), vi (own_fl b3152), vi (own_fl b3155), vi (own_fl b3158), vi (own_fl b3161), vi (own_fl b3164), vi z3243] []) := by
              intro z3243 hj3245
              obtain ⟨rfl, hx3246⟩ := hj3245
              have tail3248 : ∀ z3247 : Int32, (z3247 = -1 ∧ (own_ex [(b3152, 0, 1), (b3155, 1, 2), (b3158, 2, 3), (b3161, 3, 4), (b3164, 4, 5)] z3112) = (own_ex [(b3164, 4, 5)] z3112)) → Go p e below (Done false [] Z s n0 h0 [] room_1.cells room_1.slots (fun v h' => v = some (.int 1))) T3207 (mkF m 425 #[.val (.long p1), .second, vi p2, vi p3, vi p4, vi 0, vi z2926, vi z2928, vr b2932, vi 1, vr b3017, vr b3043, vr b3075, vi z3112, vr b3117, vi (own_fl b3152), vi (own_fl b3155), vi (own_fl b3158), vi (own_fl b3161), vi (own_fl b3164), vi (own_fl b3152), vi (own_fl b3155), vi (own_fl b3158), vi (own_fl b3161), vi (own_fl b3164), vi z3247] []) := by
               intro z3247 hj3249
               obtain ⟨rfl, hx3250⟩ := hj3249
               refine S3210.iload 427 (H at_425) rfl (S3210.iconst 428 (4 : Int32) (H at_427) ?_)
               by_cases hb3251 : (4 : Int32) < z3112
               ·skip
                refine S3210.icmpY 442 (H at_428) (qGtT hb3251) ?_
                exact tail3226 _ (hx3250.trans (own_ex_skip hb3251)).symm
               ·skip
                refine S3210.icmpN 431 (H at_428) (qGtF hb3251) (S3210.iload 433 (H at_431) rfl ?_)
                rcases b3164 with _ | _
                ·skip
                 show Go p e below _ T3207 (mkF m 433 #[.val (.long p1), .second, vi p2, vi p3, vi p4, vi 0, vi z2926, vi z2928, vr b2932, vi 1, vr b3017, vr b3043, vr b3075, vi z3112, vr b3117, vi (own_fl b3152), vi (own_fl b3155), vi (own_fl b3158), vi (own_fl b3161), vi (own_fl false), vi (own_fl b3152), vi (own_fl b3155), vi (own_fl b3158), vi (own_fl b3161), vi (own_fl false), vi (-1)] [(.int 0)])
                 refine S3210.ifY 442 (H at_433) (zEqT (by decide)) ?_
                 exact tail3226 _ (hx3250.trans own_ex_no).symm
                ·skip
                 show Go p e below _ T3207 (mkF m 433 #[.val (.long p1), .second, vi p2, vi p3, vi p4, vi 0, vi z2926, vi z2928, vr b2932, vi 1, vr b3017, vr b3043, vr b3075, vi z3112, vr b3117, vi (own_fl b3152), vi (own_fl b3155), vi (own_fl b3158), vi (own_fl b3161), vi (own_fl true), vi (own_fl b3152), vi (own_fl b3155), vi (own_fl b3158), vi (own_fl b3161), vi (own_fl true), vi (-1)] [(.int 1)])
                 refine S3210.ifN 436 (H at_433) (zEqF (by decide)) (S3210.iconst 437 (4 : Int32) (H at_436) (S3210.iload 439 (H at_437) rfl (S3210.iadd 440 (H at_439) ?_)))
                 rw [show (4 + 1 : Int32) = 5 from by decide]
                 refine S3210.istore 442 #[.val (.long p1), .second, vi p2, vi p3, vi p4, vi 0, vi z2926, vi z2928, vr b2932, vi 1, vr b3017, vr b3043, vr b3075, vi z3112, vr b3117, vi (own_fl b3152), vi (own_fl b3155), vi (own_fl b3158), vi (own_fl b3161), vi (own_fl true), vi (own_fl b3152), vi (own_fl b3155), vi (own_fl b3158), vi (own_fl b3161), vi (own_fl true), vi 5] (H at_440) rfl ?_
                 exact tail3226 _ (hx3250.trans (own_ex_yes hb3251)).symm
              refine S3210.iload 407 (H at_405) rfl (S3210.iconst 408 (3 : Int32) (H at_407) ?_)
              by_cases hb3252 : (3 : Int32) < z3112
              ·skip
               refine S3210.icmpY 425 (H at_408) (qGtT hb3252) ?_
               exact tail3248 _ ⟨rfl, (hx3246.trans (own_ex_skip hb3252))⟩
              ·skip
               refine S3210.icmpN 411 (H at_408) (qGtF hb3252) (S3210.iload 413 (H at_411) rfl ?_)
               rcases b3161 with _ | _
               ·skip
                show Go p e below _ T3207 (mkF m 413 #[.val (.long p1), .second, vi p2, vi p3, vi p4, vi 0, vi z2926, vi z2928, vr b2932, vi 1, vr b3017, vr b3043, vr b3075, vi z3112, vr b3117, vi (own_fl b3152), vi (own_fl b3155), vi (own_fl b3158), vi (own_fl false), vi (own_fl b3164), vi (own_fl b3152), vi (own_fl b3155), vi (own_fl b3158), vi (own_fl false), vi (own_fl b3164), vi (-1)] [(.int 0)])
                refine S3210.ifY 425 (H at_413) (zEqT (by decide)) ?_
                exact tail3248 _ ⟨rfl, (hx3246.trans own_ex_no)⟩
               ·skip
                show Go p e below _ T3207 (mkF m 413 #[.val (.long p1), .second, vi p2, vi p3, vi p4, vi 0, vi z2926, vi z2928, vr b2932, vi 1, vr b3017, vr b3043, vr b3075, vi z3112, vr b3117, vi (own_fl b3152), vi (own_fl b3155), vi (own_fl b3158), vi (own_fl true), vi (own_fl b3164), vi (own_fl b3152), vi (own_fl b3155), vi (own_fl b3158), vi (own_fl true), vi (own_fl b3164), vi (-1)] [(.int 1)])
                refine S3210.ifN 416 (H at_413) (zEqF (by decide)) (S3210.iconst 417 (3 : Int32) (H at_416) (S3210.iload 419 (H at_417) rfl (S3210.iadd 420 (H at_419) ?_)))
                rw [show (3 + 1 : Int32) = 4 from by decide]
                refine S3210.istore 422 #[.val (.long p1), .second, vi p2, vi p3, vi p4, vi 0, vi z2926, vi z2928, vr b2932, vi 1, vr b3017, vr b3043, vr b3075, vi z3112, vr b3117, vi (own_fl b3152), vi (own_fl b3155), vi (own_fl b3158), vi (own_fl true), vi (own_fl b3164), vi (own_fl b3152), vi (own_fl b3155), vi (own_fl b3158), vi (own_fl true), vi (own_fl b3164), vi 4] (H at_420) rfl (S3210.goto 442 (H at_422) ?_)
                exact tail3226 _ (hx3246.trans (own_ex_yes hb3252)).symm
             refine S3210.iload 387 (H at_385) rfl (S3210.iconst 388 (2 : Int32) (H at_387) ?_)
             by_cases hb3253 : (2 : Int32) < z3112
             ·skip
              refine S3210.icmpY 405 (H at_388) (qGtT hb3253) ?_
              exact tail3244 _ ⟨rfl, (hx3242.trans (own_ex_skip hb3253))⟩
             ·skip
              refine S3210.icmpN 391 (H at_388) (qGtF hb3253) (S3210.iload 393 (H at_391) rfl ?_)
              rcases b3158 with _ | _
              ·skip
               show Go p e below _ T3207 (mkF m 393 #[.val (.long p1), .second, vi p2, vi p3, vi p4, vi 0, vi z2926, vi z2928, vr b2932, vi 1, vr b3017, vr b3043, vr b3075, vi z3112, vr b3117, vi (own_fl b3152), vi (own_fl b3155), vi (own_fl false), vi (own_fl b3161), vi (own_fl b3164), vi (own_fl b3152), vi (own_fl b3155), vi (own_fl false), vi (own_fl b3161), vi (own_fl b3164), vi (-1)] [(.int 0)])
               refine S3210.ifY 405 (H at_393) (zEqT (by decide)) ?_
               exact tail3244 _ ⟨rfl, (hx3242.trans own_ex_no)⟩
              ·skip
               show Go p e below _ T3207 (mkF m 393 #[.val (.long p1), .second, vi p2, vi p3, vi p4, vi 0, vi z2926, vi z2928, vr b2932, vi 1, vr b3017, vr b3043, vr b3075, vi z3112, vr b3117, vi (own_fl b3152), vi (own_fl b3155), vi (own_fl true), vi (own_fl b3161), vi (own_fl b3164), vi (own_fl b3152), vi (own_fl b3155), vi (own_fl true), vi (own_fl b3161), vi (own_fl b3164), vi (-1)] [(.int 1)])
               refine S3210.ifN 396 (H at_393) (zEqF (by decide)) (S3210.iconst 397 (2 : Int32) (H at_396) (S3210.iload 399 (H at_397) rfl (S3210.iadd 400 (H at_399) ?_)))
               rw [show (2 + 1 : Int32) = 3 from by decide]
               refine S3210.istore 402 #[.val (.long p1), .second, vi p2, vi p3, vi p4, vi 0, vi z2926, vi z2928, vr b2932, vi 1, vr b3017, vr b3043, vr b3075, vi z3112, vr b3117, vi (own_fl b3152), vi (own_fl b3155), vi (own_fl true), vi (own_fl b3161), vi (own_fl b3164), vi (own_fl b3152), vi (own_fl b3155), vi (own_fl true), vi (own_fl b3161), vi (own_fl b3164), vi 3] (H at_400) rfl (S3210.goto 442 (H at_402) ?_)
               exact tail3226 _ (hx3242.trans (own_ex_yes hb3253)).symm
            refine S3210.iload 367 (H at_365) rfl (S3210.iconst 368 (1 : Int32) (H at_367) ?_)
            by_cases hb3254 : (1 : Int32) < z3112
            ·skip
             refine S3210.icmpY 385 (H at_368) (qGtT hb3254) ?_
             exact tail3240 _ ⟨rfl, (hx3238.trans (own_ex_skip hb3254))⟩
            ·skip
             refine S3210.icmpN 371 (H at_368) (qGtF hb3254) (S3210.iload 373 (H at_371) rfl ?_)
             rcases b3155 with _ | _
             ·skip
              show Go p e below _ T3207 (mkF m 373 #[.val (.long p1), .second, vi p2, vi p3, vi p4, vi 0, vi z2926, vi z2928, vr b2932, vi 1, vr b3017, vr b3043, vr b3075, vi z3112, vr b3117, vi (own_fl b3152), vi (own_fl false), vi (own_fl b3158), vi (own_fl b3161), vi (own_fl b3164), vi (own_fl b3152), vi (own_fl false), vi (own_fl b3158), vi (own_fl b3161), vi (own_fl b3164), vi (-1)] [(.int 0)])
              refine S3210.ifY 385 (H at_373) (zEqT (by decide)) ?_
              exact tail3240 _ ⟨rfl, (hx3238.trans own_ex_no)⟩
             ·skip
              show Go p e below _ T3207 (mkF m 373 #[.val (.long p1), .second, vi p2, vi p3, vi p4, vi 0, vi z2926, vi z2928, vr b2932, vi 1, vr b3017, vr b3043, vr b3075, vi z3112, vr b3117, vi (own_fl b3152), vi (own_fl true), vi (own_fl b3158), vi (own_fl b3161), vi (own_fl b3164), vi (own_fl b3152), vi (own_fl true), vi (own_fl b3158), vi (own_fl b3161), vi (own_fl b3164), vi (-1)] [(.int 1)])
              refine S3210.ifN 376 (H at_373) (zEqF (by decide)) (S3210.iconst 377 (1 : Int32) (H at_376) (S3210.iload 379 (H at_377) rfl (S3210.iadd 380 (H at_379) ?_)))
              rw [show (1 + 1 : Int32) = 2 from by decide]
              refine S3210.istore 382 #[.val (.long p1), .second, vi p2, vi p3, vi p4, vi 0, vi z2926, vi z2928, vr b2932, vi 1, vr b3017, vr b3043, vr b3075, vi z3112, vr b3117, vi (own_fl b3152), vi (own_fl true), vi (own_fl b3158), vi (own_fl b3161), vi (own_fl b3164), vi (own_fl b3152), vi (own_fl true), vi (own_fl b3158), vi (own_fl b3161), vi (own_fl b3164), vi 2] (H at_380) rfl (S3210.goto 442 (H at_382) ?_)
              exact tail3226 _ (hx3238.trans (own_ex_yes hb3254)).symm
           refine S3210.iload 348 (H at_346) rfl ?_
           by_cases hb3255 : (0 : Int32) < z3112
           ·skip
            refine S3210.ifY 365 (H at_348) (zGtT hb3255) ?_
            exact tail3236 _ ⟨rfl, (own_ex_skip hb3255)⟩
           ·skip
            refine S3210.ifN 351 (H at_348) (zGtF hb3255) (S3210.iload 353 (H at_351) rfl ?_)
            rcases b3152 with _ | _
            ·skip
             show Go p e below _ T3207 (mkF m 353 #[.val (.long p1), .second, vi p2, vi p3, vi p4, vi 0, vi z2926, vi z2928, vr b2932, vi 1, vr b3017, vr b3043, vr b3075, vi z3112, vr b3117, vi (own_fl false), vi (own_fl b3155), vi (own_fl b3158), vi (own_fl b3161), vi (own_fl b3164), vi (own_fl false), vi (own_fl b3155), vi (own_fl b3158), vi (own_fl b3161), vi (own_fl b3164), vi (-1)] [(.int 0)])
             refine S3210.ifY 365 (H at_353) (zEqT (by decide)) ?_
             exact tail3236 _ ⟨rfl, own_ex_no⟩
            ·skip
             show Go p e below _ T3207 (mkF m 353 #[.val (.long p1), .second, vi p2, vi p3, vi p4, vi 0, vi z2926, vi z2928, vr b2932, vi 1, vr b3017, vr b3043, vr b3075, vi z3112, vr b3117, vi (own_fl true), vi (own_fl b3155), vi (own_fl b3158), vi (own_fl b3161), vi (own_fl b3164), vi (own_fl true), vi (own_fl b3155), vi (own_fl b3158), vi (own_fl b3161), vi (own_fl b3164), vi (-1)] [(.int 1)])
             refine S3210.ifN 356 (H at_353) (zEqF (by decide)) (S3210.iconst 357 (0 : Int32) (H at_356) (S3210.iload 359 (H at_357) rfl (S3210.iadd 360 (H at_359) ?_)))
             rw [show (0 + 1 : Int32) = 1 from by decide]
             refine S3210.istore 362 #[.val (.long p1), .second, vi p2, vi p3, vi p4, vi 0, vi z2926, vi z2928, vr b2932, vi 1, vr b3017, vr b3043, vr b3075, vi z3112, vr b3117, vi (own_fl true), vi (own_fl b3155), vi (own_fl b3158), vi (own_fl b3161), vi (own_fl b3164), vi (own_fl true), vi (own_fl b3155), vi (own_fl b3158), vi (own_fl b3161), vi (own_fl b3164), vi 1] (H at_360) rfl (S3210.goto 442 (H at_362) ?_)
             exact tail3226 _ (own_ex_yes hb3255).symm
          refine S3210.iload 323 (H at_321) rfl ?_
          rcases b3164 with _ | _
          ·skip
           show Go p e below _ T3207 (mkF m 323 #[.val (.long p1), .second, vi p2, vi p3, vi p4, vi 0, vi z2926, vi z2928, vr b2932, vi 1, vr b3017, vr b3043, vr b3075, vi z3112, vr b3117, vi (own_fl b3152), vi (own_fl b3155), vi (own_fl b3158), vi (own_fl b3161), vi (own_fl false), vi (own_fl b3152), vi (own_fl b3155), vi (own_fl b3158), vi (own_fl b3161), uN, uN] [(.int 0)])
           refine S3210.ifY 340 (H at_323) (zEqT (by decide)) (S3210.iconst 341 (0 : Int32) (H at_340) (S3210.istore 343 #[.val (.long p1), .second, vi p2, vi p3, vi p4, vi 0, vi z2926, vi z2928, vr b2932, vi 1, vr b3017, vr b3043, vr b3075, vi z3112, vr b3117, vi (own_fl b3152), vi (own_fl b3155), vi (own_fl b3158), vi (own_fl b3161), vi (own_fl false), vi (own_fl b3152), vi (own_fl b3155), vi (own_fl b3158), vi (own_fl b3161), vi 0, uN] (H at_341) rfl ?_))
           exact tail3223 _ rfl
          ·skip
           show Go p e below _ T3207 (mkF m 323 #[.val (.long p1), .second, vi p2, vi p3, vi p4, vi 0, vi z2926, vi z2928, vr b2932, vi 1, vr b3017, vr b3043, vr b3075, vi z3112, vr b3117, vi (own_fl b3152), vi (own_fl b3155), vi (own_fl b3158), vi (own_fl b3161), vi (own_fl true), vi (own_fl b3152), vi (own_fl b3155), vi (own_fl b3158), vi (own_fl b3161), uN, uN] [(.int 1)])
           refine S3210.ifN 326 (H at_323) (zEqF (by decide)) (S3210.iload 328 (H at_326) rfl (S3210.ifY 336 (H at_328) (zEqT (by decide)) (S3210.iconst 337 (1 : Int32) (H at_336) (S3210.goto 341 (H at_337) (S3210.istore 343 #[.val (.long p1), .second, vi p2, vi p3, vi p4, vi 0, vi z2926, vi z2928, vr b2932, vi 1, vr b3017, vr b3043, vr b3075, vi z3112, vr b3117, vi (own_fl b3152), vi (own_fl b3155), vi (own_fl b3158), vi (own_fl b3161), vi (own_fl true), vi (own_fl b3152), vi (own_fl b3155), vi (own_fl b3158), vi (own_fl b3161), vi 1, uN] (H at_341) rfl ?_)))))
           exact tail3223 _ rfl
         refine S3210.iload 301 (H at_299) rfl ?_
         rcases b3161 with _ | _
         ·skip
          show Go p e below _ T3207 (mkF m 301 #[.val (.long p1), .second, vi p2, vi p3, vi p4, vi 0, vi z2926, vi z2928, vr b2932, vi 1, vr b3017, vr b3043, vr b3075, vi z3112, vr b3117, vi (own_fl b3152), vi (own_fl b3155), vi (own_fl b3158), vi (own_fl false), vi (own_fl b3164), vi (own_fl b3152), vi (own_fl b3155), vi (own_fl b3158), uN, uN, uN] [(.int 0)])
          refine S3210.ifY 318 (H at_301) (zEqT (by decide)) (S3210.iconst 319 (0 : Int32) (H at_318) (S3210.istore 321 #[.val (.long p1), .second, vi p2, vi p3, vi p4, vi 0, vi z2926, vi z2928, vr b2932, vi 1, vr b3017, vr b3043, vr b3075, vi z3112, vr b3117, vi (own_fl b3152), vi (own_fl b3155), vi (own_fl b3158), vi (own_fl false), vi (own_fl b3164), vi (own_fl b3152), vi (own_fl b3155), vi (own_fl b3158), vi 0, uN, uN] (H at_319) rfl ?_))
          exact tail3220 _ rfl
         ·skip
          show Go p e below _ T3207 (mkF m 301 #[.val (.long p1), .second, vi p2, vi p3, vi p4, vi 0, vi z2926, vi z2928, vr b2932, vi 1, vr b3017, vr b3043, vr b3075, vi z3112, vr b3117, vi (own_fl b3152), vi (own_fl b3155), vi (own_fl b3158), vi (own_fl true), vi (own_fl b3164), vi (own_fl b3152), vi (own_fl b3155), vi (own_fl b3158), uN, uN, uN] [(.int 1)])
          refine S3210.ifN 304 (H at_301) (zEqF (by decide)) (S3210.iload 306 (H at_304) rfl (S3210.ifY 314 (H at_306) (zEqT (by decide)) (S3210.iconst 315 (1 : Int32) (H at_314) (S3210.goto 319 (H at_315) (S3210.istore 321 #[.val (.long p1), .second, vi p2, vi p3, vi p4, vi 0, vi z2926, vi z2928, vr b2932, vi 1, vr b3017, vr b3043, vr b3075, vi z3112, vr b3117, vi (own_fl b3152), vi (own_fl b3155), vi (own_fl b3158), vi (own_fl true), vi (own_fl b3164), vi (own_fl b3152), vi (own_fl b3155), vi (own_fl b3158), vi 1, uN, uN] (H at_319) rfl ?_)))))
          exact tail3220 _ rfl
        refine S3210.iload 279 (H at_277) rfl ?_
        rcases b3158 with _ | _
        ·skip
         show Go p e below _ T3207 (mkF m 279 #[.val (.long p1), .second, vi p2, vi p3, vi p4, vi 0, vi z2926, vi z2928, vr b2932, vi 1, vr b3017, vr b3043, vr b3075, vi z3112, vr b3117, vi (own_fl b3152), vi (own_fl b3155), vi (own_fl false), vi (own_fl b3161), vi (own_fl b3164), vi (own_fl b3152), vi (own_fl b3155), uN, uN, uN, uN] [(.int 0)])
         refine S3210.ifY 296 (H at_279) (zEqT (by decide)) (S3210.iconst 297 (0 : Int32) (H at_296) (S3210.istore 299 #[.val (.long p1), .second, vi p2, vi p3, vi p4, vi 0, vi z2926, vi z2928, vr b2932, vi 1, vr b3017, vr b3043, vr b3075, vi z3112, vr b3117, vi (own_fl b3152), vi (own_fl b3155), vi (own_fl false), vi (own_fl b3161), vi (own_fl b3164), vi (own_fl b3152), vi (own_fl b3155), vi 0, uN, uN, uN] (H at_297) rfl ?_))
         exact tail3217 _ rfl
        ·skip
         show Go p e below _ T3207 (mkF m 279 #[.val (.long p1), .second, vi p2, vi p3, vi p4, vi 0, vi z2926, vi z2928, vr b2932, vi 1, vr b3017, vr b3043, vr b3075, vi z3112, vr b3117, vi (own_fl b3152), vi (own_fl b3155), vi (own_fl true), vi (own_fl b3161), vi (own_fl b3164), vi (own_fl b3152), vi (own_fl b3155), uN, uN, uN, uN] [(.int 1)])
         refine S3210.ifN 282 (H at_279) (zEqF (by decide)) (S3210.iload 284 (H at_282) rfl (S3210.ifY 292 (H at_284) (zEqT (by decide)) (S3210.iconst 293 (1 : Int32) (H at_292) (S3210.goto 297 (H at_293) (S3210.istore 299 #[.val (.long p1), .second, vi p2, vi p3, vi p4, vi 0, vi z2926, vi z2928, vr b2932, vi 1, vr b3017, vr b3043, vr b3075, vi z3112, vr b3117, vi (own_fl b3152), vi (own_fl b3155), vi (own_fl true), vi (own_fl b3161), vi (own_fl b3164), vi (own_fl b3152), vi (own_fl b3155), vi 1, uN, uN, uN] (H at_297) rfl ?_)))))
         exact tail3217 _ rfl
       refine S3210.iload 257 (H at_255) rfl ?_
       rcases b3155 with _ | _
       ·skip
        show Go p e below _ T3207 (mkF m 257 #[.val (.long p1), .second, vi p2, vi p3, vi p4, vi 0, vi z2926, vi z2928, vr b2932, vi 1, vr b3017, vr b3043, vr b3075, vi z3112, vr b3117, vi (own_fl b3152), vi (own_fl false), vi (own_fl b3158), vi (own_fl b3161), vi (own_fl b3164), vi (own_fl b3152), uN, uN, uN, uN, uN] [(.int 0)])
        refine S3210.ifY 274 (H at_257) (zEqT (by decide)) (S3210.iconst 275 (0 : Int32) (H at_274) (S3210.istore 277 #[.val (.long p1), .second, vi p2, vi p3, vi p4, vi 0, vi z2926, vi z2928, vr b2932, vi 1, vr b3017, vr b3043, vr b3075, vi z3112, vr b3117, vi (own_fl b3152), vi (own_fl false), vi (own_fl b3158), vi (own_fl b3161), vi (own_fl b3164), vi (own_fl b3152), vi 0, uN, uN, uN, uN] (H at_275) rfl ?_))
        exact tail3214 _ rfl
       ·skip
        show Go p e below _ T3207 (mkF m 257 #[.val (.long p1), .second, vi p2, vi p3, vi p4, vi 0, vi z2926, vi z2928, vr b2932, vi 1, vr b3017, vr b3043, vr b3075, vi z3112, vr b3117, vi (own_fl b3152), vi (own_fl true), vi (own_fl b3158), vi (own_fl b3161), vi (own_fl b3164), vi (own_fl b3152), uN, uN, uN, uN, uN] [(.int 1)])
        refine S3210.ifN 260 (H at_257) (zEqF (by decide)) (S3210.iload 262 (H at_260) rfl (S3210.ifY 270 (H at_262) (zEqT (by decide)) (S3210.iconst 271 (1 : Int32) (H at_270) (S3210.goto 275 (H at_271) (S3210.istore 277 #[.val (.long p1), .second, vi p2, vi p3, vi p4, vi 0, vi z2926, vi z2928, vr b2932, vi 1, vr b3017, vr b3043, vr b3075, vi z3112, vr b3117, vi (own_fl b3152), vi (own_fl true), vi (own_fl b3158), vi (own_fl b3161), vi (own_fl b3164), vi (own_fl b3152), vi 1, uN, uN, uN, uN] (H at_275) rfl ?_)))))
        exact tail3214 _ rfl
      refine S3097.iload 173 (H at_171) rfl ?_
      by_cases hb3256 : z2926 = (0 : Int32)
      ·skip
       refine S3097.ifY 180 (H at_173) (zEqT hb3256) (S3097.iloadN 181 (H at_180) rfl (S3097.bipush 183 (7 : Int32) (H at_181) (S3097.iand 184 (H at_183) ?_)))
       refine S3097.iconst 185 (1 : Int32) (H at_184) (S3097.isub 186 (H at_185) (S3097.istore 188 #[.val (.long p1), .second, vi p2, vi p3, vi p4, vi 0, vi z2926, vi z2928, vr b2932, vi 1, vr b3017, vr b3043, vr b3075, vi ((p3 &&& (7 : Int32)) - (1 : Int32)), uN, uN, uN, uN, uN, uN, uN, uN, uN, uN, uN, uN] (H at_186) rfl ?_))
       exact tail3113 _ trivial
      ·skip
       refine S3097.ifN 176 (H at_173) (zEqF hb3256) (S3097.iloadN 177 (H at_176) rfl (S3097.goto 186 (H at_177) (S3097.istore 188 #[.val (.long p1), .second, vi p2, vi p3, vi p4, vi 0, vi z2926, vi z2928, vr b2932, vi 1, vr b3017, vr b3043, vr b3075, vi p3, uN, uN, uN, uN, uN, uN, uN, uN, uN, uN, uN, uN] (H at_186) rfl ?_)))
       exact tail3113 _ trivial
     ·skip
      refine S.iconst 43 (5 : Int32) (H at_42) (S.newarr 45 5 (H at_43) (W 0 rfl) (by decide) (by decide) (by decide) (by decide) (by decide) ?_)
      intro T3257 h3258 b3259 k3260 S3261 E3262 g3263 wo3264 A3265
      have f3266 : Arv Z h3258 b3259 k3260 .char (5 : Int32) [(.int 0), (.int 0), (.int 0), (.int 0), (.int 0)] (.int 0) := A3265.pad (pad_rep [] (.int 0) 5)
      refine S3261.astore 47 #[.val (.long p1), .second, vi p2, vi p3, vi p4, vi 1, vi z2926, vi z2928, vr b3259, uN, uN, uN, uN, uN, uN, uN, uN, uN, uN, uN, uN, uN, uN, uN, uN, uN] (H at_45) rfl rfl ?_
      refine S3261.aload 49 (H at_47) rfl rfl (S3261.iconst 50 (0 : Int32) (H at_49) (S3261.lloadN 51 (H at_50) rfl (S3261.iconst 52 (0 : Int32) (H at_51) (S3261.iload 54 (H at_52) rfl (S3261.scall 57 (H at_54) hml.symm (W 1 rfl) (W 2 rfl) (W 3 rfl) (W 4 rfl) (by decide) [(.long p1), (.int 0), (.int z2928)] [(.int 0), (.ref b3259)] (Con.pay (W := 2) (own_ch l Z a0 hw h3258 n0 S3261.old p1 (0 : Int32) z2928) (W 4 rfl) (W 3 rfl) (by decide) (by decide)) (lenOf own_pd_38 rfl) rfl (Nle rfl) (by decide) (by decide) Wrs.nil ?_)))))
      intro v3267 T3268 h3269 L3270 S3271 q3272 K3273
      obtain ⟨⟨c3274, rfl, hc_c3274⟩, e_q3272⟩ := q3272
      obtain rfl := e_q3272.symm
      show Go p e below _ T3268 (mkF m 57 #[.val (.long p1), .second, vi p2, vi p3, vi p4, vi 1, vi z2926, vi z2928, vr b3259, uN, uN, uN, uN, uN, uN, uN, uN, uN, uN, uN, uN, uN, uN, uN, uN, uN] [(.int c3274), (.int 0), (.ref b3259)])
      refine S3271.castore 58 0 (H at_57) f3266 ⟨by decide, by decide⟩ rfl (Nle rfl) wo3264 ?_
      intro T3275 h3276 L3277 S3278 W3279 A3280
      rw [Chr.nar hc_c3274] at A3280
      have f3281 : Arv Z h3276 b3259 k3260 .char (5 : Int32) [(.int c3274), (.int 0), (.int 0), (.int 0), (.int 0)] (.int 0) := A3280
      refine S3278.aload 60 (H at_58) rfl rfl (S3278.iconst 61 (1 : Int32) (H at_60) (S3278.lloadN 62 (H at_61) rfl (S3278.iconst 63 (1 : Int32) (H at_62) (S3278.iload 65 (H at_63) rfl (S3278.scall 68 (H at_65) hml.symm (W 1 rfl) (W 2 rfl) (W 3 rfl) (W 4 rfl) (by decide) [(.long p1), (.int 1), (.int z2928)] [(.int 1), (.ref b3259)] (Con.pay (W := 2) (own_ch l Z a0 hw h3276 n0 S3278.old p1 (1 : Int32) z2928) (W 4 rfl) (W 3 rfl) (by decide) (by decide)) (lenOf own_pd_38 rfl) rfl (Nle rfl) (by decide) (by decide) Wrs.nil ?_)))))
      intro v3282 T3283 h3284 L3285 S3286 q3287 K3288
      obtain ⟨⟨c3289, rfl, hc_c3289⟩, e_q3287⟩ := q3287
      obtain rfl := e_q3287.symm
      show Go p e below _ T3283 (mkF m 68 #[.val (.long p1), .second, vi p2, vi p3, vi p4, vi 1, vi z2926, vi z2928, vr b3259, uN, uN, uN, uN, uN, uN, uN, uN, uN, uN, uN, uN, uN, uN, uN, uN, uN] [(.int c3289), (.int 1), (.ref b3259)])
      refine S3286.castore 69 1 (H at_68) f3281 ⟨by decide, by decide⟩ rfl (Nle rfl) wo3264 ?_
      intro T3290 h3291 L3292 S3293 W3294 A3295
      rw [Chr.nar hc_c3289] at A3295
      have f3296 : Arv Z h3291 b3259 k3260 .char (5 : Int32) [(.int c3274), (.int c3289), (.int 0), (.int 0), (.int 0)] (.int 0) := A3295
      refine S3293.aload 71 (H at_69) rfl rfl (S3293.iconst 72 (2 : Int32) (H at_71) (S3293.lloadN 73 (H at_72) rfl (S3293.iconst 74 (2 : Int32) (H at_73) (S3293.iload 76 (H at_74) rfl (S3293.scall 79 (H at_76) hml.symm (W 1 rfl) (W 2 rfl) (W 3 rfl) (W 4 rfl) (by decide) [(.long p1), (.int 2), (.int z2928)] [(.int 2), (.ref b3259)] (Con.pay (W := 2) (own_ch l Z a0 hw h3291 n0 S3293.old p1 (2 : Int32) z2928) (W 4 rfl) (W 3 rfl) (by decide) (by decide)) (lenOf own_pd_38 rfl) rfl (Nle rfl) (by decide) (by decide) Wrs.nil ?_)))))
      intro v3297 T3298 h3299 L3300 S3301 q3302 K3303
      obtain ⟨⟨c3304, rfl, hc_c3304⟩, e_q3302⟩ := q3302
      obtain rfl := e_q3302.symm
      show Go p e below _ T3298 (mkF m 79 #[.val (.long p1), .second, vi p2, vi p3, vi p4, vi 1, vi z2926, vi z2928, vr b3259, uN, uN, uN, uN, uN, uN, uN, uN, uN, uN, uN, uN, uN, uN, uN, uN, uN] [(.int c3304), (.int 2), (.ref b3259)])
      refine S3301.castore 80 2 (H at_79) f3296 ⟨by decide, by decide⟩ rfl (Nle rfl) wo3264 ?_
      intro T3305 h3306 L3307 S3308 W3309 A3310
      rw [Chr.nar hc_c3304] at A3310
      have f3311 : Arv Z h3306 b3259 k3260 .char (5 : Int32) [(.int c3274), (.int c3289), (.int c3304), (.int 0), (.int 0)] (.int 0) := A3310
      refine S3308.aload 82 (H at_80) rfl rfl (S3308.iconst 83 (3 : Int32) (H at_82) (S3308.lloadN 84 (H at_83) rfl (S3308.iconst 85 (3 : Int32) (H at_84) (S3308.iload 87 (H at_85) rfl (S3308.scall 90 (H at_87) hml.symm (W 1 rfl) (W 2 rfl) (W 3 rfl) (W 4 rfl) (by decide) [(.long p1), (.int 3), (.int z2928)] [(.int 3), (.ref b3259)] (Con.pay (W := 2) (own_ch l Z a0 hw h3306 n0 S3308.old p1 (3 : Int32) z2928) (W 4 rfl) (W 3 rfl) (by decide) (by decide)) (lenOf own_pd_38 rfl) rfl (Nle rfl) (by decide) (by decide) Wrs.nil ?_)))))
      intro v3312 T3313 h3314 L3315 S3316 q3317 K3318
      obtain ⟨⟨c3319, rfl, hc_c3319⟩, e_q3317⟩ := q3317
      obtain rfl := e_q3317.symm
      show Go p e below _ T3313 (mkF m 90 #[.val (.long p1), .second, vi p2, vi p3, vi p4, vi 1, vi z2926, vi z2928, vr b3259, uN, uN, uN, uN, uN, uN, uN, uN, uN, uN, uN, uN, uN, uN, uN, uN, uN] [(.int c3319), (.int 3), (.ref b3259)])
      refine S3316.castore 91 3 (H at_90) f3311 ⟨by decide, by decide⟩ rfl (Nle rfl) wo3264 ?_
      intro T3320 h3321 L3322 S3323 W3324 A3325
      rw [Chr.nar hc_c3319] at A3325
      have f3326 : Arv Z h3321 b3259 k3260 .char (5 : Int32) [(.int c3274), (.int c3289), (.int c3304), (.int c3319), (.int 0)] (.int 0) := A3325
      refine S3323.aload 93 (H at_91) rfl rfl (S3323.iconst 94 (4 : Int32) (H at_93) (S3323.lloadN 95 (H at_94) rfl (S3323.iconst 96 (4 : Int32) (H at_95) (S3323.iload 98 (H at_96) rfl (S3323.scall 101 (H at_98) hml.symm (W 1 rfl) (W 2 rfl) (W 3 rfl) (W 4 rfl) (by decide) [(.long p1), (.int 4), (.int z2928)] [(.int 4), (.ref b3259)] (Con.pay (W := 2) (own_ch l Z a0 hw h3321 n0 S3323.old p1 (4 : Int32) z2928) (W 4 rfl) (W 3 rfl) (by decide) (by decide)) (lenOf own_pd_38 rfl) rfl (Nle rfl) (by decide) (by decide) Wrs.nil ?_)))))
      intro v3327 T3328 h3329 L3330 S3331 q3332 K3333
      obtain ⟨⟨c3334, rfl, hc_c3334⟩, e_q3332⟩ := q3332
      obtain rfl := e_q3332.symm
      show Go p e below _ T3328 (mkF m 101 #[.val (.long p1), .second, vi p2, vi p3, vi p4, vi 1, vi z2926, vi z2928, vr b3259, uN, uN, uN, uN, uN, uN, uN, uN, uN, uN, uN, uN, uN, uN, uN, uN, uN] [(.int c3334), (.int 4), (.ref b3259)])
      refine S3331.castore 102 4 (H at_101) f3326 ⟨by decide, by decide⟩ rfl (Nle rfl) wo3264 ?_
      intro T3335 h3336 L3337 S3338 W3339 A3340
      rw [Chr.nar hc_c3334] at A3340
      have f3341 : Arv Z h3336 b3259 k3260 .char (5 : Int32) [(.int c3274), (.int c3289), (.int c3304), (.int c3319), (.int c3334)] (.int 0) := A3340
      refine S3338.iload 104 (H at_102) rfl (S3338.ifN 107 (H at_104) (zEqF (by decide)) (S3338.iconst 108 (2 : Int32) (H at_107) (S3338.goto 112 (H at_108) (S3338.istore 114 #[.val (.long p1), .second, vi p2, vi p3, vi p4, vi 1, vi z2926, vi z2928, vr b3259, vi 2, uN, uN, uN, uN, uN, uN, uN, uN, uN, uN, uN, uN, uN, uN, uN, uN] (H at_112) rfl (S3338.iload 116 (H at_114) rfl (S3338.newarr 118 2 (H at_116) (W 0 rfl) (by decide) (by decide) (by decide) (by decide) (by decide) ?_))))))
      intro T3342 h3343 b3344 k3345 S3346 E3347 g3348 wo3349 A3350
      have l3351 : b3259 < b3344 := (by rw [g3348]; exact f3341.lt)
      have f3352 : Arv Z h3343 b3344 k3345 .char (2 : Int32) [(.int 0), (.int 0)] (.int 0) := A3350.pad (pad_rep [] (.int 0) 2)
      refine S3346.astore 120 #[.val (.long p1), .second, vi p2, vi p3, vi p4, vi 1, vi z2926, vi z2928, vr b3259, vi 2, vr b3344, uN, uN, uN, uN, uN, uN, uN, uN, uN, uN, uN, uN, uN, uN, uN] (H at_118) rfl rfl ?_
      refine S3346.aload 122 (H at_120) rfl rfl (S3346.iconst 123 (0 : Int32) (H at_122) (S3346.iloadN 124 (H at_123) rfl (S3346.i2l 125 (H at_124) (S3346.iconst 126 (0 : Int32) (H at_125) (S3346.iload 128 (H at_126) rfl (S3346.scall 131 (H at_128) hml.symm (W 1 rfl) (W 2 rfl) (W 3 rfl) (W 4 rfl) (by decide) [(.long (p2.toInt64)), (.int 0), (.int z2928)] [(.int 0), (.ref b3344)] (Con.pay (W := 2) (own_ch l Z a0 hw h3343 n0 S3346.old (p2.toInt64) (0 : Int32) z2928) (W 4 rfl) (W 3 rfl) (by decide) (by decide)) (lenOf own_pd_38 rfl) rfl (Nle rfl) (by decide) (by decide) Wrs.nil ?_))))))
      intro v3353 T3354 h3355 L3356 S3357 q3358 K3359
      obtain ⟨⟨c3360, rfl, hc_c3360⟩, e_q3358⟩ := q3358
      obtain rfl := e_q3358.symm
      show Go p e below _ T3354 (mkF m 131 #[.val (.long p1), .second, vi p2, vi p3, vi p4, vi 1, vi z2926, vi z2928, vr b3259, vi 2, vr b3344, uN, uN, uN, uN, uN, uN, uN, uN, uN, uN, uN, uN, uN, uN, uN] [(.int c3360), (.int 0), (.ref b3344)])
      refine S3357.castore 132 0 (H at_131) f3352 ⟨by decide, by decide⟩ rfl (Nle rfl) wo3349 ?_
      intro T3361 h3362 L3363 S3364 W3365 A3366
      rw [Chr.nar hc_c3360] at A3366
      have f3367 : Arv Z h3362 b3344 k3345 .char (2 : Int32) [(.int c3360), (.int 0)] (.int 0) := A3366
      refine S3364.iload 134 (H at_132) rfl (S3364.ifN 137 (H at_134) (zEqF (by decide)) (S3364.aload 139 (H at_137) rfl rfl (S3364.iconst 140 (1 : Int32) (H at_139) (S3364.iloadN 141 (H at_140) rfl (S3364.i2l 142 (H at_141) (S3364.iconst 143 (1 : Int32) (H at_142) ?_))))))
      refine S3364.iload 145 (H at_143) rfl (S3364.scall 148 (H at_145) hml.symm (W 1 rfl) (W 2 rfl) (W 3 rfl) (W 4 rfl) (by decide) [(.long (p2.toInt64)), (.int 1), (.int z2928)] [(.int 1), (.ref b3344)] (Con.pay (W := 2) (own_ch l Z a0 hw h3362 n0 S3364.old (p2.toInt64) (1 : Int32) z2928) (W 4 rfl) (W 3 rfl) (by decide) (by decide)) (lenOf own_pd_38 rfl) rfl (Nle rfl) (by decide) (by decide) Wrs.nil ?_)
      intro v3368 T3369 h3370 L3371 S3372 q3373 K3374
      obtain ⟨⟨c3375, rfl, hc_c3375⟩, e_q3373⟩ := q3373
      obtain rfl := e_q3373.symm
      show Go p e below _ T3369 (mkF m 148 #[.val (.long p1), .second, vi p2, vi p3, vi p4, vi 1, vi z2926, vi z2928, vr b3259, vi 2, vr b3344, uN, uN, uN, uN, uN, uN, uN, uN, uN, uN, uN, uN, uN, uN, uN] [(.int c3375), (.int 1), (.ref b3344)])
      refine S3372.castore 149 1 (H at_148) f3367 ⟨by decide, by decide⟩ rfl (Nle rfl) wo3349 ?_
      intro T3376 h3377 L3378 S3379 W3380 A3381
      rw [Chr.nar hc_c3375] at A3381
      have f3382 : Arv Z h3377 b3344 k3345 .char (2 : Int32) [(.int c3360), (.int c3375)] (.int 0) := A3381
      refine S3379.new 152 (H at_149) (W 6 rfl) (W 7 rfl) (W 8 rfl) (by decide) (by decide) ?_
      intro T3383 h3384 b3385 S3386 E3387 g3388 wo3389 A3390 D3391 U3392
      have f3393 := (((f3341.ext E3347).other W3365 (Nat.ne_of_lt l3351)).other W3380 (Nat.ne_of_lt l3351))
      have l3394 : b3259 < b3385 := (by rw [g3388]; exact f3393.lt)
      have l3395 : b3344 < b3385 := (by rw [g3388]; exact f3382.lt)
      have f3396 : Fld Z h3384 b3385 "java/lang/String" "coder" "B" (.int 0) := D3391 (Or.inr (W 32 rfl)) (ty := .byte) (by decide)
      have f3397 : Fld Z h3384 b3385 "java/lang/String" "value" "[B" .null := D3391 (Or.inr (W 34 rfl)) (ty := (.array .byte)) (by decide)
      refine S3386.dup 153 (H at_152) rfl (S3386.aload 155 (H at_153) rfl rfl ?_)
      have f3398 := (f3393.ext E3387)
      have hp3399 : ∀ c ∈ ([c3274, c3289, c3304, c3319, c3334] : List Int32), ¬ c < 0 ∧ ¬ (255 : Int32) < c := by
       intro c hc
       simp only [List.mem_cons, List.not_mem_nil, or_false] at hc
       rcases hc with rfl | rfl | rfl | rfl | rfl
       · exact hc_c3274
       · exact hc_c3289
       · exact hc_c3304
       · exact hc_c3319
       · exact hc_c3334
      refine S3386.icall 158 (H at_155) hml.symm rfl (W 9 rfl) (W 10 rfl) (W 11 rfl) (by decide) [(.ref b3259)] [(.ref b3385)] (payNew (W := 1) (n := 5) (cs := ([c3274, c3289, c3304, c3319, c3334] : List Int32)) hw (W 7 rfl) cm S3386.old (S3386.ge wo3389) A3390 f3397 f3396 f3398 rfl rfl (by decide) (by decide) hp3399 (by decide) (by decide)) (lenOf own_pd_39 rfl) rfl (Nle rfl) (by decide) (by decide) (Wrs.one wo3389 (Or.inl (by simp))) ?_
      intro v3400 T3401 h3402 L3403 S3404 q3405 K3406
      obtain ⟨rfl, t3407, g3408, Z3409⟩ := q3405
      have l3410 : b3259 < t3407 := Nat.lt_of_lt_of_le f3398.lt g3408
      have f3412 := (f3382.ext E3387)
      have l3411 : b3344 < t3407 := Nat.lt_of_lt_of_le f3412.lt g3408
      have l3413 : b3385 < t3407 := Nat.lt_of_lt_of_le A3390.lt g3408
      have f3414 := Z3409.exa
      show Go p e below _ T3401 (mkF m 158 #[.val (.long p1), .second, vi p2, vi p3, vi p4, vi 1, vi z2926, vi z2928, vr b3259, vi 2, vr b3344, uN, uN, uN, uN, uN, uN, uN, uN, uN, uN, uN, uN, uN, uN, uN] [(.ref b3385)])
      refine S3404.astore 160 #[.val (.long p1), .second, vi p2, vi p3, vi p4, vi 1, vi z2926, vi z2928, vr b3259, vi 2, vr b3344, vr b3385, uN, uN, uN, uN, uN, uN, uN, uN, uN, uN, uN, uN, uN, uN] (H at_158) rfl rfl ?_
      refine S3404.new 163 (H at_160) (W 6 rfl) (W 7 rfl) (W 8 rfl) (by decide) (by decide) ?_
      intro T3415 h3416 b3417 S3418 E3419 g3420 wo3421 A3422 D3423 U3424
      have f3425 := (f3398.keep K3406 (ninS (Nat.ne_of_lt l3394) nin0))
      have l3426 : b3259 < b3417 := (by rw [g3420]; exact f3425.lt)
      have f3427 := (f3412.keep K3406 (ninS (Nat.ne_of_lt l3395) nin0))
      have l3428 : b3344 < b3417 := (by rw [g3420]; exact f3427.lt)
      have l3429 : b3385 < b3417 := (by rw [g3420]; exact f3414.lt)
      have l3430 : t3407 < b3417 := (by rw [g3420]; exact Z3409.lt')
      have f3431 : Fld Z h3416 b3417 "java/lang/String" "coder" "B" (.int 0) := D3423 (Or.inr (W 32 rfl)) (ty := .byte) (by decide)
      have f3432 : Fld Z h3416 b3417 "java/lang/String" "value" "[B" .null := D3423 (Or.inr (W 34 rfl)) (ty := (.array .byte)) (by decide)
      refine S3418.dup 164 (H at_163) rfl (S3418.aload 166 (H at_164) rfl rfl ?_)
      have f3433 := (f3427.ext E3419)
      have hp3434 : ∀ c ∈ ([c3360, c3375] : List Int32), ¬ c < 0 ∧ ¬ (255 : Int32) < c := by
       intro c hc
       simp only [List.mem_cons, List.not_mem_nil, or_false] at hc
       rcases hc with rfl | rfl
       · exact hc_c3360
       · exact hc_c3375
      refine S3418.icall 169 (H at_166) hml.symm rfl (W 9 rfl) (W 10 rfl) (W 11 rfl) (by decide) [(.ref b3344)] [(.ref b3417)] (payNew (W := 1) (n := 2) (cs := ([c3360, c3375] : List Int32)) hw (W 7 rfl) cm S3418.old (S3418.ge wo3421) A3422 f3432 f3431 f3433 rfl rfl (by decide) (by decide) hp3434 (by decide) (by decide)) (lenOf own_pd_39 rfl) rfl (Nle rfl) (by decide) (by decide) (Wrs.one wo3421 (Or.inl (by simp))) ?_
      intro v3435 T3436 h3437 L3438 S3439 q3440 K3441
      obtain ⟨rfl, t3442, g3443, Z3444⟩ := q3440
      have f3446 := (f3425.ext E3419)
      have l3445 : b3259 < t3442 := Nat.lt_of_lt_of_le f3446.lt g3443
      have l3447 : b3344 < t3442 := Nat.lt_of_lt_of_le f3433.lt g3443
      have f3449 := (f3414.ext E3419)
      have l3448 : b3385 < t3442 := Nat.lt_of_lt_of_le f3449.lt g3443
      have f3451 := (Z3409.ext E3419)
      have l3450 : t3407 < t3442 := Nat.lt_of_lt_of_le f3451.lt' g3443
      have l3452 : b3417 < t3442 := Nat.lt_of_lt_of_le A3422.lt g3443
      have f3453 := Z3444.exa
      show Go p e below _ T3436 (mkF m 169 #[.val (.long p1), .second, vi p2, vi p3, vi p4, vi 1, vi z2926, vi z2928, vr b3259, vi 2, vr b3344, vr b3385, uN, uN, uN, uN, uN, uN, uN, uN, uN, uN, uN, uN, uN, uN] [(.ref b3417)])
      refine S3439.astore 171 #[.val (.long p1), .second, vi p2, vi p3, vi p4, vi 1, vi z2926, vi z2928, vr b3259, vi 2, vr b3344, vr b3385, vr b3417, uN, uN, uN, uN, uN, uN, uN, uN, uN, uN, uN, uN, uN] (H at_169) rfl rfl ?_
      have tail3455 : ∀ z3454 : Int32, True → Go p e below (Done false [] Z s n0 h0 [] room_1.cells room_1.slots (fun v h' => v = some (.int 1))) T3436 (mkF m 188 #[.val (.long p1), .second, vi p2, vi p3, vi p4, vi 1, vi z2926, vi z2928, vr b3259, vi 2, vr b3344, vr b3385, vr b3417, vi z3454, uN, uN, uN, uN, uN, uN, uN, uN, uN, uN, uN, uN] []) := by
       intro z3454 hj3456
       refine S3439.new 191 (H at_188) (W 35 rfl) (W 36 rfl) (W 37 rfl) (by decide) (by decide) ?_
       intro T3457 h3458 b3459 S3460 E3461 g3462 wo3463 A3464 D3465 U3466
       have f3467 := (f3446.keep K3441 (ninS (Nat.ne_of_lt l3426) nin0))
       have l3468 : b3259 < b3459 := (by rw [g3462]; exact f3467.lt)
       have f3469 := (f3433.keep K3441 (ninS (Nat.ne_of_lt l3428) nin0))
       have l3470 : b3344 < b3459 := (by rw [g3462]; exact f3469.lt)
       have f3471 := (f3449.keep K3441)
       have l3472 : b3385 < b3459 := (by rw [g3462]; exact f3471.lt)
       have f3473 := (f3451.keep K3441 (ninS (Nat.ne_of_lt l3429) nin0) (ninS (Nat.ne_of_lt l3430) nin0))
       have l3474 : t3407 < b3459 := (by rw [g3462]; exact f3473.lt')
       have l3475 : b3417 < b3459 := (by rw [g3462]; exact f3453.lt)
       have l3476 : t3442 < b3459 := (by rw [g3462]; exact Z3444.lt')
       have f3477 : Fld Z h3458 b3459 "com/example/oref/oref/wikipedia/Matches" "starts" "[I" .null := D3465 (Or.inl (W 44 rfl)) (ty := (.array .int)) (by decide)
       have f3478 : Fld Z h3458 b3459 "com/example/oref/oref/wikipedia/Matches" "ends" "[I" .null := D3465 (Or.inl (W 46 rfl)) (ty := (.array .int)) (by decide)
       have f3479 : Fld Z h3458 b3459 "com/example/oref/oref/wikipedia/Matches" "count" "I" (.int 0) := D3465 (Or.inl (W 82 rfl)) (ty := .int) (by decide)
       refine S3460.dup 192 (H at_191) rfl (S3460.aload 194 (H at_192) rfl rfl (S3460.aload 196 (H at_194) rfl rfl ?_))
       have f3480 := (f3473.ext E3461)
       obtain ⟨⟨k3481, E3482, V3483, C3484, A3485⟩, -, -⟩ := f3480
       have A3486 : Arv Z h3458 t3407 k3481 .byte (5 : Int32) [(.int (c3274.toInt8.toInt32)), (.int (c3289.toInt8.toInt32)), (.int (c3304.toInt8.toInt32)), (.int (c3319.toInt8.toInt32)), (.int (c3334.toInt8.toInt32))] (.int 0) := A3485
       have f3487 := (Z3444.ext E3461)
       obtain ⟨⟨k3488, E3489, V3490, C3491, A3492⟩, -, -⟩ := f3487
       have A3493 : Arv Z h3458 t3442 k3488 .byte (2 : Int32) [(.int (c3360.toInt8.toInt32)), (.int (c3375.toInt8.toInt32))] (.int 0) := A3492
       obtain ⟨b3494, e3495⟩ : ∃ bb : Bool, bb = (decide ((c3274.toInt8.toInt32) = (c3360.toInt8.toInt32)) && decide ((c3289.toInt8.toInt32) = (c3375.toInt8.toInt32))) := ⟨_, rfl⟩
       have e3496 : b3494 = (decide (c3274 = c3360) && decide (c3289 = c3375)) := by rw [e3495, own_bin hc_c3274 hc_c3360, own_bin hc_c3289 hc_c3375]
       obtain ⟨b3497, e3498⟩ : ∃ bb : Bool, bb = (decide ((c3289.toInt8.toInt32) = (c3360.toInt8.toInt32)) && decide ((c3304.toInt8.toInt32) = (c3375.toInt8.toInt32))) := ⟨_, rfl⟩
       have e3499 : b3497 = (decide (c3289 = c3360) && decide (c3304 = c3375)) := by rw [e3498, own_bin hc_c3289 hc_c3360, own_bin hc_c3304 hc_c3375]
       obtain ⟨b3500, e3501⟩ : ∃ bb : Bool, bb = (decide ((c3304.toInt8.toInt32) = (c3360.toInt8.toInt32)) && decide ((c3319.toInt8.toInt32) = (c3375.toInt8.toInt32))) := ⟨_, rfl⟩
       have e3502 : b3500 = (decide (c3304 = c3360) && decide (c3319 = c3375)) := by rw [e3501, own_bin hc_c3304 hc_c3360, own_bin hc_c3319 hc_c3375]
       obtain ⟨b3503, e3504⟩ : ∃ bb : Bool, bb = (decide ((c3319.toInt8.toInt32) = (c3360.toInt8.toInt32)) && decide ((c3334.toInt8.toInt32) = (c3375.toInt8.toInt32))) := ⟨_, rfl⟩
       have e3505 : b3503 = (decide (c3319 = c3360) && decide (c3334 = c3375)) := by rw [e3504, own_bin hc_c3319 hc_c3360, own_bin hc_c3334 hc_c3375]
       refine S3460.icall 199 (H at_196) hml.symm rfl (W 38 rfl) (W 39 rfl) (W 40 rfl) (by decide) [(.ref b3385), (.ref b3417)] [(.ref b3459)] (Con.pay (W := 1) (own_mi_2 l Z a0 hw cm h3458 n0 S3460.old b3459 b3385 b3417 t3407 k3481 (.int 0) (c3274.toInt8.toInt32) (c3289.toInt8.toInt32) (c3304.toInt8.toInt32) (c3319.toInt8.toInt32) (c3334.toInt8.toInt32) t3442 k3488 (.int 0) (c3360.toInt8.toInt32) (c3375.toInt8.toInt32) b3494 b3497 b3500 b3503 (S3460.ge wo3463) A3464 f3479 f3477 f3478 E3482 V3483 C3484 E3489 V3490 C3491 A3486 A3493 e3495 e3498 e3501 e3504 (Nat.ne_of_lt l3474) (Nat.ne_of_lt l3476)) (W 40 rfl) (W 37 rfl) (by decide) (by decide)) (lenOf own_pd_40 rfl) rfl (Nle rfl) (by decide) (by decide) (Wrs.one wo3463 (Or.inr ⟨_, A3464, by decide, by decide⟩)) ?_
       intro v3506 T3507 h3508 L3509 S3510 q3511 K3512
       obtain ⟨rfl, f3513⟩ := q3511
       have f3514 : Exa Z h3508 b3459 "com/example/oref/oref/wikipedia/Matches" := (by obtain ⟨_, _, _, _, z, _⟩ := f3513; exact z)
       show Go p e below _ T3507 (mkF m 199 #[.val (.long p1), .second, vi p2, vi p3, vi p4, vi 1, vi z2926, vi z2928, vr b3259, vi 2, vr b3344, vr b3385, vr b3417, vi z3454, uN, uN, uN, uN, uN, uN, uN, uN, uN, uN, uN, uN] [(.ref b3459)])
       refine S3510.astore 201 #[.val (.long p1), .second, vi p2, vi p3, vi p4, vi 1, vi z2926, vi z2928, vr b3259, vi 2, vr b3344, vr b3385, vr b3417, vi z3454, vr b3459, uN, uN, uN, uN, uN, uN, uN, uN, uN, uN, uN] (H at_199) rfl rfl ?_
       refine S3510.aload 203 (H at_201) rfl rfl (S3510.aload 205 (H at_203) rfl rfl (S3510.iconst 206 (0 : Int32) (H at_205) ?_))
       have f3515 := ((f3467.ext E3461).keep K3512 (ninS (Nat.ne_of_lt l3468) nin0))
       have f3516 := ((f3469.ext E3461).keep K3512 (ninS (Nat.ne_of_lt l3470) nin0))
       refine S3510.scall 209 (H at_206) hml.symm (W 69 rfl) (W 70 rfl) (W 3 rfl) (W 71 rfl) (by decide) [(.ref b3259), (.ref b3344), (.int 0)] [] (Con.pay (W := 0) (own_occ_2_0 l Z a0 hw h3508 n0 S3510.old b3259 b3344 k3260 k3345 (.int 0) (.int 0) c3274 c3289 c3304 c3319 c3334 c3360 c3375 b3494 f3515 f3516 e3496) (W 71 rfl) (W 3 rfl) (by decide) (by decide)) (lenOf own_pd_41 rfl) rfl (Nle rfl) (by decide) (by decide) Wrs.nil ?_
       intro v3517 T3518 h3519 L3520 S3521 q3522 K3523
       obtain ⟨rfl, e_q3522⟩ := q3522
       obtain rfl := e_q3522.symm
       show Go p e below _ T3518 (mkF m 209 #[.val (.long p1), .second, vi p2, vi p3, vi p4, vi 1, vi z2926, vi z2928, vr b3259, vi 2, vr b3344, vr b3385, vr b3417, vi z3454, vr b3459, uN, uN, uN, uN, uN, uN, uN, uN, uN, uN, uN] [(.int (own_fl b3494))])
       refine S3521.istore 211 #[.val (.long p1), .second, vi p2, vi p3, vi p4, vi 1, vi z2926, vi z2928, vr b3259, vi 2, vr b3344, vr b3385, vr b3417, vi z3454, vr b3459, vi (own_fl b3494), uN, uN, uN, uN, uN, uN, uN, uN, uN, uN] (H at_209) rfl (S3521.aload 213 (H at_211) rfl rfl (S3521.aload 215 (H at_213) rfl rfl (S3521.iconst 216 (1 : Int32) (H at_215) (S3521.scall 219 (H at_216) hml.symm (W 69 rfl) (W 70 rfl) (W 3 rfl) (W 71 rfl) (by decide) [(.ref b3259), (.ref b3344), (.int 1)] [] (Con.pay (W := 0) (own_occ_2_1 l Z a0 hw h3508 n0 S3521.old b3259 b3344 k3260 k3345 (.int 0) (.int 0) c3274 c3289 c3304 c3319 c3334 c3360 c3375 b3497 f3515 f3516 e3499) (W 71 rfl) (W 3 rfl) (by decide) (by decide)) (lenOf own_pd_41 rfl) rfl (Nle rfl) (by decide) (by decide) Wrs.nil ?_))))
       intro v3524 T3525 h3526 L3527 S3528 q3529 K3530
       obtain ⟨rfl, e_q3529⟩ := q3529
       obtain rfl := e_q3529.symm
       show Go p e below _ T3525 (mkF m 219 #[.val (.long p1), .second, vi p2, vi p3, vi p4, vi 1, vi z2926, vi z2928, vr b3259, vi 2, vr b3344, vr b3385, vr b3417, vi z3454, vr b3459, vi (own_fl b3494), uN, uN, uN, uN, uN, uN, uN, uN, uN, uN] [(.int (own_fl b3497))])
       refine S3528.istore 221 #[.val (.long p1), .second, vi p2, vi p3, vi p4, vi 1, vi z2926, vi z2928, vr b3259, vi 2, vr b3344, vr b3385, vr b3417, vi z3454, vr b3459, vi (own_fl b3494), vi (own_fl b3497), uN, uN, uN, uN, uN, uN, uN, uN, uN] (H at_219) rfl (S3528.aload 223 (H at_221) rfl rfl (S3528.aload 225 (H at_223) rfl rfl (S3528.iconst 226 (2 : Int32) (H at_225) (S3528.scall 229 (H at_226) hml.symm (W 69 rfl) (W 70 rfl) (W 3 rfl) (W 71 rfl) (by decide) [(.ref b3259), (.ref b3344), (.int 2)] [] (Con.pay (W := 0) (own_occ_2_2 l Z a0 hw h3508 n0 S3528.old b3259 b3344 k3260 k3345 (.int 0) (.int 0) c3274 c3289 c3304 c3319 c3334 c3360 c3375 b3500 f3515 f3516 e3502) (W 71 rfl) (W 3 rfl) (by decide) (by decide)) (lenOf own_pd_41 rfl) rfl (Nle rfl) (by decide) (by decide) Wrs.nil ?_))))
       intro v3531 T3532 h3533 L3534 S3535 q3536 K3537
       obtain ⟨rfl, e_q3536⟩ := q3536
       obtain rfl := e_q3536.symm
       show Go p e below _ T3532 (mkF m 229 #[.val (.long p1), .second, vi p2, vi p3, vi p4, vi 1, vi z2926, vi z2928, vr b3259, vi 2, vr b3344, vr b3385, vr b3417, vi z3454, vr b3459, vi (own_fl b3494), vi (own_fl b3497), uN, uN, uN, uN, uN, uN, uN, uN, uN] [(.int (own_fl b3500))])
       refine S3535.istore 231 #[.val (.long p1), .second, vi p2, vi p3, vi p4, vi 1, vi z2926, vi z2928, vr b3259, vi 2, vr b3344, vr b3385, vr b3417, vi z3454, vr b3459, vi (own_fl b3494), vi (own_fl b3497), vi (own_fl b3500), uN, uN, uN, uN, uN, uN, uN, uN] (H at_229) rfl (S3535.aload 233 (H at_231) rfl rfl (S3535.aload 235 (H at_233) rfl rfl (S3535.iconst 236 (3 : Int32) (H at_235) (S3535.scall 239 (H at_236) hml.symm (W 69 rfl) (W 70 rfl) (W 3 rfl) (W 71 rfl) (by decide) [(.ref b3259), (.ref b3344), (.int 3)] [] (Con.pay (W := 0) (own_occ_2_3 l Z a0 hw h3508 n0 S3535.old b3259 b3344 k3260 k3345 (.int 0) (.int 0) c3274 c3289 c3304 c3319 c3334 c3360 c3375 b3503 f3515 f3516 e3505) (W 71 rfl) (W 3 rfl) (by decide) (by decide)) (lenOf own_pd_41 rfl) rfl (Nle rfl) (by decide) (by decide) Wrs.nil ?_))))
       intro v3538 T3539 h3540 L3541 S3542 q3543 K3544
       obtain ⟨rfl, e_q3543⟩ := q3543
       obtain rfl := e_q3543.symm
       show Go p e below _ T3539 (mkF m 239 #[.val (.long p1), .second, vi p2, vi p3, vi p4, vi 1, vi z2926, vi z2928, vr b3259, vi 2, vr b3344, vr b3385, vr b3417, vi z3454, vr b3459, vi (own_fl b3494), vi (own_fl b3497), vi (own_fl b3500), uN, uN, uN, uN, uN, uN, uN, uN] [(.int (own_fl b3503))])
       refine S3542.istore 241 #[.val (.long p1), .second, vi p2, vi p3, vi p4, vi 1, vi z2926, vi z2928, vr b3259, vi 2, vr b3344, vr b3385, vr b3417, vi z3454, vr b3459, vi (own_fl b3494), vi (own_fl b3497), vi (own_fl b3500), vi (own_fl b3503), uN, uN, uN, uN, uN, uN, uN] (H at_239) rfl (S3542.aload 243 (H at_241) rfl rfl (S3542.aload 245 (H at_243) rfl rfl (S3542.iconst 246 (4 : Int32) (H at_245) (S3542.scall 249 (H at_246) hml.symm (W 69 rfl) (W 70 rfl) (W 3 rfl) (W 71 rfl) (by decide) [(.ref b3259), (.ref b3344), (.int 4)] [] (Con.pay (W := 0) (own_occ_2_4 l Z a0 hw h3508 n0 S3542.old b3259 b3344 k3260 k3345 (.int 0) (.int 0) c3274 c3289 c3304 c3319 c3334 c3360 c3375 f3515 f3516) (W 71 rfl) (W 3 rfl) (by decide) (by decide)) (lenOf own_pd_41 rfl) rfl (Nle rfl) (by decide) (by decide) Wrs.nil ?_))))
       intro v3545 T3546 h3547 L3548 S3549 q3550 K3551
       obtain ⟨rfl, e_q3550⟩ := q3550
       obtain rfl := e_q3550.symm
       show Go p e below _ T3546 (mkF m 249 #[.val (.long p1), .second, vi p2, vi p3, vi p4, vi 1, vi z2926, vi z2928, vr b3259, vi 2, vr b3344, vr b3385, vr b3417, vi z3454, vr b3459, vi (own_fl b3494), vi (own_fl b3497), vi (own_fl b3500), vi (own_fl b3503), uN, uN, uN, uN, uN, uN, uN] [(.int 0)])
       refine S3549.istore 251 #[.val (.long p1), .second, vi p2, vi p3, vi p4, vi 1, vi z2926, vi z2928, vr b3259, vi 2, vr b3344, vr b3385, vr b3417, vi z3454, vr b3459, vi (own_fl b3494), vi (own_fl b3497), vi (own_fl b3500), vi (own_fl b3503), vi 0, uN, uN, uN, uN, uN, uN] (H at_249) rfl (S3549.iload 253 (H at_251) rfl (S3549.istore 255 #[.val (.long p1), .second, vi p2, vi p3, vi p4, vi 1, vi z2926, vi z2928, vr b3259, vi 2, vr b3344, vr b3385, vr b3417, vi z3454, vr b3459, vi (own_fl b3494), vi (own_fl b3497), vi (own_fl b3500), vi (own_fl b3503), vi 0, vi (own_fl b3494), uN, uN, uN, uN, uN] (H at_253) rfl ?_))
       have tail3553 : ∀ z3552 : Int32, z3552 = own_fl (b3497 && !b3494) → Go p e below (Done false [] Z s n0 h0 [] room_1.cells room_1.slots (fun v h' => v = some (.int 1))) T3546 (mkF m 277 #[.val (.long p1), .second, vi p2, vi p3, vi p4, vi 1, vi z2926, vi z2928, vr b3259, vi 2, vr b3344, vr b3385, vr b3417, vi z3454, vr b3459, vi (own_fl b3494), vi (own_fl b3497), vi (own_fl b3500), vi (own_fl b3503), vi 0, vi (own_fl b3494), vi z3552, uN, uN, uN, uN] []) := by
        intro z3552 hj3554
        obtain ⟨c3555, hc3555⟩ : ∃ cc : Bool, cc = (b3497 && !b3494) := ⟨_, rfl⟩
        rw [← hc3555] at hj3554
        subst hj3554
        have tail3557 : ∀ z3556 : Int32, z3556 = own_fl (b3500 && !c3555) → Go p e below (Done false [] Z s n0 h0 [] room_1.cells room_1.slots (fun v h' => v = some (.int 1))) T3546 (mkF m 299 #[.val (.long p1), .second, vi p2, vi p3, vi p4, vi 1, vi z2926, vi z2928, vr b3259, vi 2, vr b3344, vr b3385, vr b3417, vi z3454, vr b3459, vi (own_fl b3494), vi (own_fl b3497), vi (own_fl b3500), vi (own_fl b3503), vi 0, vi (own_fl b3494), vi (own_fl c3555), vi z3556, uN, uN, uN] []) := by
         intro z3556 hj3558
         obtain ⟨c3559, hc3559⟩ : ∃ cc : Bool, cc = (b3500 && !c3555) := ⟨_, rfl⟩
         rw [← hc3559] at hj3558
         subst hj3558
         have tail3561 : ∀ z3560 : Int32, z3560 = own_fl (b3503 && !c3559) → Go p e below (Done false [] Z s n0 h0 [] room_1.cells room_1.slots (fun v h' => v = some (.int 1))) T3546 (mkF m 321 #[.val (.long p1), .second, vi p2, vi p3, vi p4, vi 1, vi z2926, vi z2928, vr b3259, vi 2, vr b3344, vr b3385, vr b3417, vi z3454, vr b3459, vi (own_fl b3494), vi (own_fl b3497), vi (own_fl b3500), vi (own_fl b3503), vi 0, vi (own_fl b3494), vi (own_fl c3555), vi (own_fl c3559), vi z3560, uN, uN] []) := by
          intro z3560 hj3562
          obtain ⟨c3563, hc3563⟩ : ∃ cc : Bool, cc = (b3503 && !c3559) := ⟨_, rfl⟩
          rw [← hc3563] at hj3562
          subst hj3562
          have tail3565 : ∀ z3564 : Int32, z3564 = own_fl (false && !c3563) → Go p e below (Done false [] Z s n0 h0 [] room_1.cells room_1.slots (fun v h' => v = some (.int 1))) T3546 (mkF m 343 #[.val (.long p1), .second, vi p2, vi p3, vi p4, vi 1, vi z2926, vi z2928, vr b3259, vi 2, vr b3344, vr b3385, vr b3417, vi z3454, vr b3459, vi (own_fl b3494), vi (own_fl b3497), vi (own_fl b3500), vi (own_fl b3503), vi 0, vi (own_fl b3494), vi (own_fl c3555), vi (own_fl c3559), vi (own_fl c3563), vi z3564, uN] []) := by
           intro z3564 hj3566
           obtain ⟨c3567, hc3567⟩ : ∃ cc : Bool, cc = (false && !c3563) := ⟨_, rfl⟩
           rw [← hc3567] at hj3566
           subst hj3566
           have tail3569 : ∀ z3568 : Int32, z3568 = (own_ex [(b3494, 0, 2), (c3555, 1, 3), (c3559, 2, 4), (c3563, 3, 5), (c3567, 4, 6)] z3454) → Go p e below (Done false [] Z s n0 h0 [] room_1.cells room_1.slots (fun v h' => v = some (.int 1))) T3546 (mkF m 442 #[.val (.long p1), .second, vi p2, vi p3, vi p4, vi 1, vi z2926, vi z2928, vr b3259, vi 2, vr b3344, vr b3385, vr b3417, vi z3454, vr b3459, vi (own_fl b3494), vi (own_fl b3497), vi (own_fl b3500), vi (own_fl b3503), vi 0, vi (own_fl b3494), vi (own_fl c3555), vi (own_fl c3559), vi (own_fl c3563), vi (own_fl c3567), vi z3568] []) := by
            intro z3568 hj3570
            subst hj3570
            refine S3549.aload 444 (H at_442) rfl rfl (S3549.iload 446 (H at_444) rfl (S3549.vcall 449 (H at_446) hml.symm (W 72 rfl) (W 73 rfl) (W 75 rfl) (W 74 rfl) (nfSel (W 75 rfl)) (by decide) f3514 [(.int z3454)] [] (Con.pay (W := 0) (own_en_2 l Z a0 hw h3508 n0 S3549.old b3459 b3494 b3497 b3500 b3503 z3454 f3513) (W 76 rfl) (W 37 rfl) (by decide) (by decide)) (lenOf own_pd_36 rfl) rfl (Nle rfl) (by decide) (by decide) Wrs.nil ?_))
            intro v3571 T3572 h3573 L3574 S3575 q3576 K3577
            obtain ⟨rfl, e_q3576⟩ := q3576
            obtain rfl := e_q3576.symm
            show Go p e below _ T3572 (mkF m 449 #[.val (.long p1), .second, vi p2, vi p3, vi p4, vi 1, vi z2926, vi z2928, vr b3259, vi 2, vr b3344, vr b3385, vr b3417, vi z3454, vr b3459, vi (own_fl b3494), vi (own_fl b3497), vi (own_fl b3500), vi (own_fl b3503), vi 0, vi (own_fl b3494), vi (own_fl c3555), vi (own_fl c3559), vi (own_fl c3563), vi (own_fl c3567), vi (own_ex [(b3494, 0, 2), (c3555, 1, 3), (c3559, 2, 4), (c3563, 3, 5), (c3567, 4, 6)] z3454)] [(.int (own_end (own_scan2 [(b3494, 0, 2), (b3497, 1, 3), (b3500, 2, 4), (b3503, 3, 5)]) z3454))])
            refine S3575.iload 451 (H at_449) rfl (S3575.icmpN 454 (H at_451) (qNeF (own_fin2 b3494 b3497 b3500 b3503 hc3555 hc3559 hc3563 hc3567 _)) (S3575.iconst 455 (1 : Int32) (H at_454) (S3575.goto 459 (H at_455) ?_)))
            exact S3575.retN (t := .boolean) (H at_459) hret (by decide) (by decide) (by decide) rfl
           refine S3549.iconst 344 (-1 : Int32) (H at_343) (S3549.istore 346 #[.val (.long p1), .second, vi p2, vi p3, vi p4, vi 1, vi z2926, vi z2928, vr b3259, vi 2, vr b3344, vr b3385, vr b3417, vi z3454, vr b3459, vi (own_fl b3494), vi (own_fl b3497), vi (own_fl b3500), vi (own_fl b3503), vi 0, vi (own_fl b3494), vi (own_fl c3555), vi (own_fl c3559), vi (own_fl c3563), vi (own_fl c3567), vi (-1)] (H at_344) rfl ?_)
           have tail3579 : ∀ z3578 : Int32, (z3578 = -1 ∧ (own_ex [(b3494, 0, 2), (c3555, 1, 3), (c3559, 2, 4), (c3563, 3, 5), (c3567, 4, 6)] z3454) = (own_ex [(c3555, 1, 3), (c3559, 2, 4), (c3563, 3, 5), (c3567, 4, 6)] z3454)) → Go p e below (Done false [] Z s n0 h0 [] room_1.cells room_1.slots (fun v h' => v = some (.int 1))) T3546 (mkF m 365 #[.val (.long p1), .second, vi p2, vi p3, vi p4, vi 1, vi z2926, vi z2928, vr b3259, vi 2, vr b3344, vr b3385, vr b3417, vi z3454, vr b3459, vi (own_fl b3494), vi (own_fl b3497), vi (own_fl b3500), vi (own_fl b3503), vi 0, vi (own_fl b3494), vi (own_fl c3555), vi (own_fl c3559), vi (own_fl c3563), vi (own_fl c3567), vi z3578] []) := by
            intro z3578 hj3580
            obtain ⟨rfl, hx3581⟩ := hj3580
            have tail3583 : ∀ z3582 : Int32, (z3582 = -1 ∧ (own_ex [(b3494, 0, 2), (c3555, 1, 3), (c3559, 2, 4), (c3563, 3, 5), (c3567, 4, 6)] z3454) = (own_ex [(c3559, 2, 4), (c3563, 3, 5), (c3567, 4, 6)] z3454)) → Go p e below (Done false [] Z s n0 h0 [] room_1.cells room_1.slots (fun v h' => v = some (.int 1))) T3546 (mkF m 385 #[.val (.long p1), .second, vi p2, vi p3, vi p4, vi 1, vi z2926, vi z2928, vr b3259, vi 2, vr b3344, vr b3385, vr b3417, vi z3454, vr b3459, vi (own_fl b3494), vi (own_fl b3497), vi (own_fl b3500), vi (own_fl b3503), vi 0, vi (own_fl b3494), vi (own_fl c3555), vi (own_fl c3559), vi (own_fl c3563), vi (own_fl c3567), vi z3582] []) := by
             intro z3582 hj3584
             obtain ⟨rfl, hx3585⟩ := hj3584
             have tail3587 : ∀ z3586 : Int32, (z3586 = -1 ∧ (own_ex [(b3494, 0, 2), (c3555, 1, 3), (c3559, 2, 4), (c3563, 3, 5), (c3567, 4, 6)] z3454) = (own_ex [(c3563, 3, 5), (c3567, 4, 6)] z3454)) → Go p e below (Done false [] Z s n0 h0 [] room_1.cells room_1.slots (fun v h' => v = some (.int 1))) T3546 (mkF m 405 #[.val (.long p1), .second, vi p2, vi p3, vi p4, vi 1, vi z2926, vi z2928, vr b3259, vi 2, vr b3344, vr b3385, vr b3417, vi z3454, vr b3459, vi (own_fl b3494), vi (own_fl b3497), vi (own_fl b3500), vi (own_fl b3503), vi 0, vi (own_fl b3494), vi (own_fl c3555), vi (own_fl c3559), vi (own_fl c3563), vi (own_fl c3567), vi z3586] []) := by
              intro z3586 hj3588
              obtain ⟨rfl, hx3589⟩ := hj3588
              have tail3591 : ∀ z3590 : Int32, (z3590 = -1 ∧ (own_ex [(b3494, 0, 2), (c3555, 1, 3), (c3559, 2, 4), (c3563, 3, 5), (c3567, 4, 6)] z3454) = (own_ex [(c3567, 4, 6)] z3454)) → Go p e below (Done false [] Z s n0 h0 [] room_1.cells room_1.slots (fun v h' => v = some (.int 1))) T3546 (mkF m 425 #[.val (.long p1), .second, vi p2, vi p3, vi p4, vi 1, vi z2926, vi z2928, vr b3259, vi 2, vr b3344, vr b3385, vr b3417, vi z3454, vr b3459, vi (own_fl b3494), vi (own_fl b3497), vi (own_fl b3500), vi (own_fl b3503), vi 0, vi (own_fl b3494), vi (own_fl c3555), vi (own_fl c3559), vi (own_fl c3563), vi (own_fl c3567), vi z3590] []) := by
               intro z3590 hj3592
               obtain ⟨rfl, hx3593⟩ := hj3592
               refine S3549.iload 427 (H at_425) rfl (S3549.iconst 428 (4 : Int32) (H at_427) ?_)
               by_cases hb3594 : (4 : Int32) < z3454
               ·skip
                refine S3549.icmpY 442 (H at_428) (qGtT hb3594) ?_
                exact tail3569 _ (hx3593.trans (own_ex_skip hb3594)).symm
               ·skip
                refine S3549.icmpN 431 (H at_428) (qGtF hb3594) (S3549.iload 433 (H at_431) rfl ?_)
                rcases c3567 with _ | _
                ·skip
                 show Go p e below _ T3546 (mkF m 433 #[.val (.long p1), .second, vi p2, vi p3, vi p4, vi 1, vi z2926, vi z2928, vr b3259, vi 2, vr b3344, vr b3385, vr b3417, vi z3454, vr b3459, vi (own_fl b3494), vi (own_fl b3497), vi (own_fl b3500), vi (own_fl b3503), vi 0, vi (own_fl b3494), vi (own_fl c3555), vi (own_fl c3559), vi (own_fl c3563), vi (own_fl false), vi (-1)] [(.int 0)])
                 refine S3549.ifY 442 (H at_433) (zEqT (by decide)) ?_
                 exact tail3569 _ (hx3593.trans own_ex_no).symm
                ·skip
                 show Go p e below _ T3546 (mkF m 433 #[.val (.long p1), .second, vi p2, vi p3, vi p4, vi 1, vi z2926, vi z2928, vr b3259, vi 2, vr b3344, vr b3385, vr b3417, vi z3454, vr b3459, vi (own_fl b3494), vi (own_fl b3497), vi (own_fl b3500), vi (own_fl b3503), vi 0, vi (own_fl b3494), vi (own_fl c3555), vi (own_fl c3559), vi (own_fl c3563), vi (own_fl true), vi (-1)] [(.int 1)])
                 refine S3549.ifN 436 (H at_433) (zEqF (by decide)) (S3549.iconst 437 (4 : Int32) (H at_436) (S3549.iload 439 (H at_437) rfl (S3549.iadd 440 (H at_439) ?_)))
                 rw [show (4 + 2 : Int32) = 6 from by decide]
                 refine S3549.istore 442 #[.val (.long p1), .second, vi p2, vi p3, vi p4, vi 1, vi z2926, vi z2928, vr b3259, vi 2, vr b3344, vr b3385, vr b3417, vi z3454, vr b3459, vi (own_fl b3494), vi (own_fl b3497), vi (own_fl b3500), vi (own_fl b3503), vi 0, vi (own_fl b3494), vi (own_fl c3555), vi (own_fl c3559), vi (own_fl c3563), vi (own_fl true), vi 6] (H at_440) rfl ?_
                 exact tail3569 _ (hx3593.trans (own_ex_yes hb3594)).symm
              refine S3549.iload 407 (H at_405) rfl (S3549.iconst 408 (3 : Int32) (H at_407) ?_)
              by_cases hb3595 : (3 : Int32) < z3454
              ·skip
               refine S3549.icmpY 425 (H at_408) (qGtT hb3595) ?_
               exact tail3591 _ ⟨rfl, (hx3589.trans (own_ex_skip hb3595))⟩
              ·skip
               refine S3549.icmpN 411 (H at_408) (qGtF hb3595) (S3549.iload 413 (H at_411) rfl ?_)
               rcases c3563 with _ | _
               ·skip
                show Go p e below _ T3546 (mkF m 413 #[.val (.long p1), .second, vi p2, vi p3, vi p4, vi 1, vi z2926, vi z2928, vr b3259, vi 2, vr b3344, vr b3385, vr b3417, vi z3454, vr b3459, vi (own_fl b3494), vi (own_fl b3497), vi (own_fl b3500), vi (own_fl b3503), vi 0, vi (own_fl b3494), vi (own_fl c3555), vi (own_fl c3559), vi (own_fl false), vi (own_fl c3567), vi (-1)] [(.int 0)])
                refine S3549.ifY 425 (H at_413) (zEqT (by decide)) ?_
                exact tail3591 _ ⟨rfl, (hx3589.trans own_ex_no)⟩
               ·skip
                show Go p e below _ T3546 (mkF m 413 #[.val (.long p1), .second, vi p2, vi p3, vi p4, vi 1, vi z2926, vi z2928, vr b3259, vi 2, vr b3344, vr b3385, vr b3417, vi z3454, vr b3459, vi (own_fl b3494), vi (own_fl b3497), vi (own_fl b3500), vi (own_fl b3503), vi 0, vi (own_fl b3494), vi (own_fl c3555), vi (own_fl c3559), vi (own_fl true), vi (own_fl c3567), vi (-1)] [(.int 1)])
                refine S3549.ifN 416 (H at_413) (zEqF (by decide)) (S3549.iconst 417 (3 : Int32) (H at_416) (S3549.iload 419 (H at_417) rfl (S3549.iadd 420 (H at_419) ?_)))
                rw [show (3 + 2 : Int32) = 5 from by decide]
                refine S3549.istore 422 #[.val (.long p1), .second, vi p2, vi p3, vi p4, vi 1, vi z2926, vi z2928, vr b3259, vi 2, vr b3344, vr b3385, vr b3417, vi z3454, vr b3459, vi (own_fl b3494), vi (own_fl b3497), vi (own_fl b3500), vi (own_fl b3503), vi 0, vi (own_fl b3494), vi (own_fl c3555), vi (own_fl c3559), vi (own_fl true), vi (own_fl c3567), vi 5] (H at_420) rfl (S3549.goto 442 (H at_422) ?_)
                exact tail3569 _ (hx3589.trans (own_ex_yes hb3595)).symm
             refine S3549.iload 387 (H at_385) rfl (S3549.iconst 388 (2 : Int32) (H at_387) ?_)
             by_cases hb3596 : (2 : Int32) < z3454
             ·skip
              refine S3549.icmpY 405 (H at_388) (qGtT hb3596) ?_
              exact tail3587 _ ⟨rfl, (hx3585.trans (own_ex_skip hb3596))⟩
             ·skip
              refine S3549.icmpN 391 (H at_388) (qGtF hb3596) (S3549.iload 393 (H at_391) rfl ?_)
              rcases c3559 with _ | _
              ·skip
               show Go p e below _ T3546 (mkF m 393 #[.val (.long p1), .second, vi p2, vi p3, vi p4, vi 1, vi z2926, vi z2928, vr b3259, vi 2, vr b3344, vr b3385, vr b3417, vi z3454, vr b3459, vi (own_fl b3494), vi (own_fl b3497), vi (own_fl b3500), vi (own_fl b3503), vi 0, vi (own_fl b3494), vi (own_fl c3555), vi (own_fl false), vi (own_fl c3563), vi (own_fl c3567), vi (-1)] [(.int 0)])
               refine S3549.ifY 405 (H at_393) (zEqT (by decide)) ?_
               exact tail3587 _ ⟨rfl, (hx3585.trans own_ex_no)⟩
              ·skip
               show Go p e below _ T3546 (mkF m 393 #[.val (.long p1), .second, vi p2, vi p3, vi p4, vi 1, vi z2926, vi z2928, vr b3259, vi 2, vr b3344, vr b3385, vr b3417, vi z3454, vr b3459, vi (own_fl b3494), vi (own_fl b3497), vi (own_fl b3500), vi (own_fl b3503), vi 0, vi (own_fl b3494), vi (own_fl c3555), vi (own_fl true), vi (own_fl c3563), vi (own_fl c3567), vi (-1)] [(.int 1)])
               refine S3549.ifN 396 (H at_393) (zEqF (by decide)) (S3549.iconst 397 (2 : Int32) (H at_396) (S3549.iload 399 (H at_397) rfl (S3549.iadd 400 (H at_399) ?_)))
               rw [show (2 + 2 : Int32) = 4 from by decide]
               refine S3549.istore 402 #[.val (.long p1), .second, vi p2, vi p3, vi p4, vi 1, vi z2926, vi z2928, vr b3259, vi 2, vr b3344, vr b3385, vr b3417, vi z3454, vr b3459, vi (own_fl b3494), vi (own_fl b3497), vi (own_fl b3500), vi (own_fl b3503), vi 0, vi (own_fl b3494), vi (own_fl c3555), vi (own_fl true), vi (own_fl c3563), vi (own_fl c3567), vi 4] (H at_400) rfl (S3549.goto 442 (H at_402) ?_)
               exact tail3569 _ (hx3585.trans (own_ex_yes hb3596)).symm
            refine S3549.iload 367 (H at_365) rfl (S3549.iconst 368 (1 : Int32) (H at_367) ?_)
            by_cases hb3597 : (1 : Int32) < z3454
            ·skip
             refine S3549.icmpY 385 (H at_368) (qGtT hb3597) ?_
             exact tail3583 _ ⟨rfl, (hx3581.trans (own_ex_skip hb3597))⟩
            ·skip
             refine S3549.icmpN 371 (H at_368) (qGtF hb3597) (S3549.iload 373 (H at_371) rfl ?_)
             rcases c3555 with _ | _
             ·skip
              show Go p e below _ T3546 (mkF m 373 #[.val (.long p1), .second, vi p2, vi p3, vi p4, vi 1, vi z2926, vi z2928, vr b3259, vi 2, vr b3344, vr b3385, vr b3417, vi z3454, vr b3459, vi (own_fl b3494), vi (own_fl b3497), vi (own_fl b3500), vi (own_fl b3503), vi 0, vi (own_fl b3494), vi (own_fl false), vi (own_fl c3559), vi (own_fl c3563), vi (own_fl c3567), vi (-1)] [(.int 0)])
              refine S3549.ifY 385 (H at_373) (zEqT (by decide)) ?_
              exact tail3583 _ ⟨rfl, (hx3581.trans own_ex_no)⟩
             ·skip
              show Go p e below _ T3546 (mkF m 373 #[.val (.long p1), .second, vi p2, vi p3, vi p4, vi 1, vi z2926, vi z2928, vr b3259, vi 2, vr b3344, vr b3385, vr b3417, vi z3454, vr b3459, vi (own_fl b3494), vi (own_fl b3497), vi (own_fl b3500), vi (own_fl b3503), vi 0, vi (own_fl b3494), vi (own_fl true), vi (own_fl c3559), vi (own_fl c3563), vi (own_fl c3567), vi (-1)] [(.int 1)])
              refine S3549.ifN 376 (H at_373) (zEqF (by decide)) (S3549.iconst 377 (1 : Int32) (H at_376) (S3549.iload 379 (H at_377) rfl (S3549.iadd 380 (H at_379) ?_)))
              rw [show (1 + 2 : Int32) = 3 from by decide]
              refine S3549.istore 382 #[.val (.long p1), .second, vi p2, vi p3, vi p4, vi 1, vi z2926, vi z2928, vr b3259, vi 2, vr b3344, vr b3385, vr b3417, vi z3454, vr b3459, vi (own_fl b3494), vi (own_fl b3497), vi (own_fl b3500), vi (own_fl b3503), vi 0, vi (own_fl b3494), vi (own_fl true), vi (own_fl c3559), vi (own_fl c3563), vi (own_fl c3567), vi 3] (H at_380) rfl (S3549.goto 442 (H at_382) ?_)
              exact tail3569 _ (hx3581.trans (own_ex_yes hb3597)).symm
           refine S3549.iload 348 (H at_346) rfl ?_
           by_cases hb3598 : (0 : Int32) < z3454
           ·skip
            refine S3549.ifY 365 (H at_348) (zGtT hb3598) ?_
            exact tail3579 _ ⟨rfl, (own_ex_skip hb3598)⟩
           ·skip
            refine S3549.ifN 351 (H at_348) (zGtF hb3598) (S3549.iload 353 (H at_351) rfl ?_)
            rcases b3494 with _ | _
            ·skip
             show Go p e below _ T3546 (mkF m 353 #[.val (.long p1), .second, vi p2, vi p3, vi p4, vi 1, vi z2926, vi z2928, vr b3259, vi 2, vr b3344, vr b3385, vr b3417, vi z3454, vr b3459, vi (own_fl false), vi (own_fl b3497), vi (own_fl b3500), vi (own_fl b3503), vi 0, vi (own_fl false), vi (own_fl c3555), vi (own_fl c3559), vi (own_fl c3563), vi (own_fl c3567), vi (-1)] [(.int 0)])
             refine S3549.ifY 365 (H at_353) (zEqT (by decide)) ?_
             exact tail3579 _ ⟨rfl, own_ex_no⟩
            ·skip
             show Go p e below _ T3546 (mkF m 353 #[.val (.long p1), .second, vi p2, vi p3, vi p4, vi 1, vi z2926, vi z2928, vr b3259, vi 2, vr b3344, vr b3385, vr b3417, vi z3454, vr b3459, vi (own_fl true), vi (own_fl b3497), vi (own_fl b3500), vi (own_fl b3503), vi 0, vi (own_fl true), vi (own_fl c3555), vi (own_fl c3559), vi (own_fl c3563), vi (own_fl c3567), vi (-1)] [(.int 1)])
             refine S3549.ifN 356 (H at_353) (zEqF (by decide)) (S3549.iconst 357 (0 : Int32) (H at_356) (S3549.iload 359 (H at_357) rfl (S3549.iadd 360 (H at_359) ?_)))
             rw [show (0 + 2 : Int32) = 2 from by decide]
             refine S3549.istore 362 #[.val (.long p1), .second, vi p2, vi p3, vi p4, vi 1, vi z2926, vi z2928, vr b3259, vi 2, vr b3344, vr b3385, vr b3417, vi z3454, vr b3459, vi (own_fl true), vi (own_fl b3497), vi (own_fl b3500), vi (own_fl b3503), vi 0, vi (own_fl true), vi (own_fl c3555), vi (own_fl c3559), vi (own_fl c3563), vi (own_fl c3567), vi 2] (H at_360) rfl (S3549.goto 442 (H at_362) ?_)
             exact tail3569 _ (own_ex_yes hb3598).symm
          refine S3549.iload 323 (H at_321) rfl (S3549.ifY 340 (H at_323) (zEqT (by decide)) (S3549.iconst 341 (0 : Int32) (H at_340) (S3549.istore 343 #[.val (.long p1), .second, vi p2, vi p3, vi p4, vi 1, vi z2926, vi z2928, vr b3259, vi 2, vr b3344, vr b3385, vr b3417, vi z3454, vr b3459, vi (own_fl b3494), vi (own_fl b3497), vi (own_fl b3500), vi (own_fl b3503), vi 0, vi (own_fl b3494), vi (own_fl c3555), vi (own_fl c3559), vi (own_fl c3563), vi 0, uN] (H at_341) rfl ?_)))
          exact tail3565 _ rfl
         refine S3549.iload 301 (H at_299) rfl ?_
         rcases b3503 with _ | _
         ·skip
          show Go p e below _ T3546 (mkF m 301 #[.val (.long p1), .second, vi p2, vi p3, vi p4, vi 1, vi z2926, vi z2928, vr b3259, vi 2, vr b3344, vr b3385, vr b3417, vi z3454, vr b3459, vi (own_fl b3494), vi (own_fl b3497), vi (own_fl b3500), vi (own_fl false), vi 0, vi (own_fl b3494), vi (own_fl c3555), vi (own_fl c3559), uN, uN, uN] [(.int 0)])
          refine S3549.ifY 318 (H at_301) (zEqT (by decide)) (S3549.iconst 319 (0 : Int32) (H at_318) (S3549.istore 321 #[.val (.long p1), .second, vi p2, vi p3, vi p4, vi 1, vi z2926, vi z2928, vr b3259, vi 2, vr b3344, vr b3385, vr b3417, vi z3454, vr b3459, vi (own_fl b3494), vi (own_fl b3497), vi (own_fl b3500), vi (own_fl false), vi 0, vi (own_fl b3494), vi (own_fl c3555), vi (own_fl c3559), vi 0, uN, uN] (H at_319) rfl ?_))
          exact tail3561 _ rfl
         ·skip
          show Go p e below _ T3546 (mkF m 301 #[.val (.long p1), .second, vi p2, vi p3, vi p4, vi 1, vi z2926, vi z2928, vr b3259, vi 2, vr b3344, vr b3385, vr b3417, vi z3454, vr b3459, vi (own_fl b3494), vi (own_fl b3497), vi (own_fl b3500), vi (own_fl true), vi 0, vi (own_fl b3494), vi (own_fl c3555), vi (own_fl c3559), uN, uN, uN] [(.int 1)])
          refine S3549.ifN 304 (H at_301) (zEqF (by decide)) (S3549.iload 306 (H at_304) rfl (S3549.ifN 309 (H at_306) (zEqF (by decide)) (S3549.iload 311 (H at_309) rfl ?_)))
          rcases c3559 with _ | _
          ·skip
           show Go p e below _ T3546 (mkF m 311 #[.val (.long p1), .second, vi p2, vi p3, vi p4, vi 1, vi z2926, vi z2928, vr b3259, vi 2, vr b3344, vr b3385, vr b3417, vi z3454, vr b3459, vi (own_fl b3494), vi (own_fl b3497), vi (own_fl b3500), vi (own_fl true), vi 0, vi (own_fl b3494), vi (own_fl c3555), vi (own_fl false), uN, uN, uN] [(.int 0)])
           refine S3549.ifN 314 (H at_311) (zNeF (by decide)) (S3549.iconst 315 (1 : Int32) (H at_314) (S3549.goto 319 (H at_315) (S3549.istore 321 #[.val (.long p1), .second, vi p2, vi p3, vi p4, vi 1, vi z2926, vi z2928, vr b3259, vi 2, vr b3344, vr b3385, vr b3417, vi z3454, vr b3459, vi (own_fl b3494), vi (own_fl b3497), vi (own_fl b3500), vi (own_fl true), vi 0, vi (own_fl b3494), vi (own_fl c3555), vi (own_fl false), vi 1, uN, uN] (H at_319) rfl ?_)))
           exact tail3561 _ rfl
          ·skip
           show Go p e below _ T3546 (mkF m 311 #[.val (.long p1), .second, vi p2, vi p3, vi p4, vi 1, vi z2926, vi z2928, vr b3259, vi 2, vr b3344, vr b3385, vr b3417, vi z3454, vr b3459, vi (own_fl b3494), vi (own_fl b3497), vi (own_fl b3500), vi (own_fl true), vi 0, vi (own_fl b3494), vi (own_fl c3555), vi (own_fl true), uN, uN, uN] [(.int 1)])
           refine S3549.ifY 318 (H at_311) (zNeT (by decide)) (S3549.iconst 319 (0 : Int32) (H at_318) (S3549.istore 321 #[.val (.long p1), .second, vi p2, vi p3, vi p4, vi 1, vi z2926, vi z2928, vr b3259, vi 2, vr b3344, vr b3385, vr b3417, vi z3454, vr b3459, vi (own_fl b3494), vi (own_fl b3497), vi (own_fl b3500), vi (own_fl true), vi 0, vi (own_fl b3494), vi (own_fl c3555), vi (own_fl true), vi 0, uN, uN] (H at_319) rfl ?_))
           exact tail3561 _ rfl
        refine S3549.iload 279 (H at_277) rfl ?_
        rcases b3500 with _ | _
        ·skip
         show Go p e below _ T3546 (mkF m 279 #[.val (.long p1), .second, vi p2, vi p3, vi p4, vi 1, vi z2926, vi z2928, vr b3259, vi 2, vr b3344, vr b3385, vr b3417, vi z3454, vr b3459, vi (own_fl b3494), vi (own_fl b3497), vi (own_fl false), vi (own_fl b3503), vi 0, vi (own_fl b3494), vi (own_fl c3555), uN, uN, uN, uN] [(.int 0)])
         refine S3549.ifY 296 (H at_279) (zEqT (by decide)) (S3549.iconst 297 (0 : Int32) (H at_296) (S3549.istore 299 #[.val (.long p1), .second, vi p2, vi p3, vi p4, vi 1, vi z2926, vi z2928, vr b3259, vi 2, vr b3344, vr b3385, vr b3417, vi z3454, vr b3459, vi (own_fl b3494), vi (own_fl b3497), vi (own_fl false), vi (own_fl b3503), vi 0, vi (own_fl b3494), vi (own_fl c3555), vi 0, uN, uN, uN] (H at_297) rfl ?_))
         exact tail3557 _ rfl
        ·skip
         show Go p e below _ T3546 (mkF m 279 #[.val (.long p1), .second, vi p2, vi p3, vi p4, vi 1, vi z2926, vi z2928, vr b3259, vi 2, vr b3344, vr b3385, vr b3417, vi z3454, vr b3459, vi (own_fl b3494), vi (own_fl b3497), vi (own_fl true), vi (own_fl b3503), vi 0, vi (own_fl b3494), vi (own_fl c3555), uN, uN, uN, uN] [(.int 1)])
         refine S3549.ifN 282 (H at_279) (zEqF (by decide)) (S3549.iload 284 (H at_282) rfl (S3549.ifN 287 (H at_284) (zEqF (by decide)) (S3549.iload 289 (H at_287) rfl ?_)))
         rcases c3555 with _ | _
         ·skip
          show Go p e below _ T3546 (mkF m 289 #[.val (.long p1), .second, vi p2, vi p3, vi p4, vi 1, vi z2926, vi z2928, vr b3259, vi 2, vr b3344, vr b3385, vr b3417, vi z3454, vr b3459, vi (own_fl b3494), vi (own_fl b3497), vi (own_fl true), vi (own_fl b3503), vi 0, vi (own_fl b3494), vi (own_fl false), uN, uN, uN, uN] [(.int 0)])
          refine S3549.ifN 292 (H at_289) (zNeF (by decide)) (S3549.iconst 293 (1 : Int32) (H at_292) (S3549.goto 297 (H at_293) (S3549.istore 299 #[.val (.long p1), .second, vi p2, vi p3, vi p4, vi 1, vi z2926, vi z2928, vr b3259, vi 2, vr b3344, vr b3385, vr b3417, vi z3454, vr b3459, vi (own_fl b3494), vi (own_fl b3497), vi (own_fl true), vi (own_fl b3503), vi 0, vi (own_fl b3494), vi (own_fl false), vi 1, uN, uN, uN] (H at_297) rfl ?_)))
          exact tail3557 _ rfl
         ·skip
          show Go p e below _ T3546 (mkF m 289 #[.val (.long p1), .second, vi p2, vi p3, vi p4, vi 1, vi z2926, vi z2928, vr b3259, vi 2, vr b3344, vr b3385, vr b3417, vi z3454, vr b3459, vi (own_fl b3494), vi (own_fl b3497), vi (own_fl true), vi (own_fl b3503), vi 0, vi (own_fl b3494), vi (own_fl true), uN, uN, uN, uN] [(.int 1)])
          refine S3549.ifY 296 (H at_289) (zNeT (by decide)) (S3549.iconst 297 (0 : Int32) (H at_296) (S3549.istore 299 #[.val (.long p1), .second, vi p2, vi p3, vi p4, vi 1, vi z2926, vi z2928, vr b3259, vi 2, vr b3344, vr b3385, vr b3417, vi z3454, vr b3459, vi (own_fl b3494), vi (own_fl b3497), vi (own_fl true), vi (own_fl b3503), vi 0, vi (own_fl b3494), vi (own_fl true), vi 0, uN, uN, uN] (H at_297) rfl ?_))
          exact tail3557 _ rfl
       refine S3549.iload 257 (H at_255) rfl ?_
       rcases b3497 with _ | _
       ·skip
        show Go p e below _ T3546 (mkF m 257 #[.val (.long p1), .second, vi p2, vi p3, vi p4, vi 1, vi z2926, vi z2928, vr b3259, vi 2, vr b3344, vr b3385, vr b3417, vi z3454, vr b3459, vi (own_fl b3494), vi (own_fl false), vi (own_fl b3500), vi (own_fl b3503), vi 0, vi (own_fl b3494), uN, uN, uN, uN, uN] [(.int 0)])
        refine S3549.ifY 274 (H at_257) (zEqT (by decide)) (S3549.iconst 275 (0 : Int32) (H at_274) (S3549.istore 277 #[.val (.long p1), .second, vi p2, vi p3, vi p4, vi 1, vi z2926, vi z2928, vr b3259, vi 2, vr b3344, vr b3385, vr b3417, vi z3454, vr b3459, vi (own_fl b3494), vi (own_fl false), vi (own_fl b3500), vi (own_fl b3503), vi 0, vi (own_fl b3494), vi 0, uN, uN, uN, uN] (H at_275) rfl ?_))
        exact tail3553 _ rfl
       ·skip
        show Go p e below _ T3546 (mkF m 257 #[.val (.long p1), .second, vi p2, vi p3, vi p4, vi 1, vi z2926, vi z2928, vr b3259, vi 2, vr b3344, vr b3385, vr b3417, vi z3454, vr b3459, vi (own_fl b3494), vi (own_fl true), vi (own_fl b3500), vi (own_fl b3503), vi 0, vi (own_fl b3494), uN, uN, uN, uN, uN] [(.int 1)])
        refine S3549.ifN 260 (H at_257) (zEqF (by decide)) (S3549.iload 262 (H at_260) rfl (S3549.ifN 265 (H at_262) (zEqF (by decide)) (S3549.iload 267 (H at_265) rfl ?_)))
        rcases b3494 with _ | _
        ·skip
         show Go p e below _ T3546 (mkF m 267 #[.val (.long p1), .second, vi p2, vi p3, vi p4, vi 1, vi z2926, vi z2928, vr b3259, vi 2, vr b3344, vr b3385, vr b3417, vi z3454, vr b3459, vi (own_fl false), vi (own_fl true), vi (own_fl b3500), vi (own_fl b3503), vi 0, vi (own_fl false), uN, uN, uN, uN, uN] [(.int 0)])
         refine S3549.ifN 270 (H at_267) (zNeF (by decide)) (S3549.iconst 271 (1 : Int32) (H at_270) (S3549.goto 275 (H at_271) (S3549.istore 277 #[.val (.long p1), .second, vi p2, vi p3, vi p4, vi 1, vi z2926, vi z2928, vr b3259, vi 2, vr b3344, vr b3385, vr b3417, vi z3454, vr b3459, vi (own_fl false), vi (own_fl true), vi (own_fl b3500), vi (own_fl b3503), vi 0, vi (own_fl false), vi 1, uN, uN, uN, uN] (H at_275) rfl ?_)))
         exact tail3553 _ rfl
        ·skip
         show Go p e below _ T3546 (mkF m 267 #[.val (.long p1), .second, vi p2, vi p3, vi p4, vi 1, vi z2926, vi z2928, vr b3259, vi 2, vr b3344, vr b3385, vr b3417, vi z3454, vr b3459, vi (own_fl true), vi (own_fl true), vi (own_fl b3500), vi (own_fl b3503), vi 0, vi (own_fl true), uN, uN, uN, uN, uN] [(.int 1)])
         refine S3549.ifY 274 (H at_267) (zNeT (by decide)) (S3549.iconst 275 (0 : Int32) (H at_274) (S3549.istore 277 #[.val (.long p1), .second, vi p2, vi p3, vi p4, vi 1, vi z2926, vi z2928, vr b3259, vi 2, vr b3344, vr b3385, vr b3417, vi z3454, vr b3459, vi (own_fl true), vi (own_fl true), vi (own_fl b3500), vi (own_fl b3503), vi 0, vi (own_fl true), vi 0, uN, uN, uN, uN] (H at_275) rfl ?_))
         exact tail3553 _ rfl
      refine S3439.iload 173 (H at_171) rfl ?_
      by_cases hb3599 : z2926 = (0 : Int32)
      ·skip
       refine S3439.ifY 180 (H at_173) (zEqT hb3599) (S3439.iloadN 181 (H at_180) rfl (S3439.bipush 183 (7 : Int32) (H at_181) (S3439.iand 184 (H at_183) ?_)))
       refine S3439.iconst 185 (1 : Int32) (H at_184) (S3439.isub 186 (H at_185) (S3439.istore 188 #[.val (.long p1), .second, vi p2, vi p3, vi p4, vi 1, vi z2926, vi z2928, vr b3259, vi 2, vr b3344, vr b3385, vr b3417, vi ((p3 &&& (7 : Int32)) - (1 : Int32)), uN, uN, uN, uN, uN, uN, uN, uN, uN, uN, uN, uN] (H at_186) rfl ?_))
       exact tail3455 _ trivial
      ·skip
       refine S3439.ifN 176 (H at_173) (zEqF hb3599) (S3439.iloadN 177 (H at_176) rfl (S3439.goto 186 (H at_177) (S3439.istore 188 #[.val (.long p1), .second, vi p2, vi p3, vi p4, vi 1, vi z2926, vi z2928, vr b3259, vi 2, vr b3344, vr b3385, vr b3417, vi p3, uN, uN, uN, uN, uN, uN, uN, uN, uN, uN, uN, uN] (H at_186) rfl ?_)))
       exact tail3455 _ trivial
    refine S.iload 30 (H at_28) rfl (S.iconst 31 (4 : Int32) (H at_30) (S.iand 32 (H at_31) ?_))
    by_cases hb3600 : (p4 &&& (4 : Int32)) = (0 : Int32)
    ·skip
     refine S.ifY 39 (H at_32) (zEqT hb3600) (S.iconst 40 (0 : Int32) (H at_39) (S.istore 42 #[.val (.long p1), .second, vi p2, vi p3, vi p4, vi z2923, vi z2926, vi 0, uN, uN, uN, uN, uN, uN, uN, uN, uN, uN, uN, uN, uN, uN, uN, uN, uN, uN] (H at_40) rfl ?_))
     exact tail2929 _
    ·skip
     refine S.ifN 35 (H at_32) (zEqF hb3600) (S.iconst 36 (1 : Int32) (H at_35) (S.goto 40 (H at_36) (S.istore 42 #[.val (.long p1), .second, vi p2, vi p3, vi p4, vi z2923, vi z2926, vi 1, uN, uN, uN, uN, uN, uN, uN, uN, uN, uN, uN, uN, uN, uN, uN, uN, uN, uN] (H at_40) rfl ?_)))
     exact tail2929 _
   refine S.iload 16 (H at_14) rfl (S.iconst 17 (2 : Int32) (H at_16) (S.iand 18 (H at_17) ?_))
   by_cases hb3601 : (p4 &&& (2 : Int32)) = (0 : Int32)
   ·skip
    refine S.ifY 25 (H at_18) (zEqT hb3601) (S.iconst 26 (0 : Int32) (H at_25) (S.istore 28 #[.val (.long p1), .second, vi p2, vi p3, vi p4, vi z2923, vi 0, uN, uN, uN, uN, uN, uN, uN, uN, uN, uN, uN, uN, uN, uN, uN, uN, uN, uN, uN] (H at_26) rfl ?_))
    exact tail2927 _
   ·skip
    refine S.ifN 21 (H at_18) (zEqF hb3601) (S.iconst 22 (1 : Int32) (H at_21) (S.goto 26 (H at_22) (S.istore 28 #[.val (.long p1), .second, vi p2, vi p3, vi p4, vi z2923, vi 1, uN, uN, uN, uN, uN, uN, uN, uN, uN, uN, uN, uN, uN, uN, uN, uN, uN, uN, uN] (H at_26) rfl ?_)))
    exact tail2927 _
  refine S.iload 2 (H at_0) rfl (S.iconst 3 (1 : Int32) (H at_2) (S.iand 4 (H at_3) ?_))
  by_cases hb3602 : (p4 &&& (1 : Int32)) = (0 : Int32)
  ·skip
   refine S.ifY 11 (H at_4) (zEqT hb3602) (S.iconst 12 (0 : Int32) (H at_11) (S.istore 14 #[.val (.long p1), .second, vi p2, vi p3, vi p4, vi 0, uN, uN, uN, uN, uN, uN, uN, uN, uN, uN, uN, uN, uN, uN, uN, uN, uN, uN, uN, uN] (H at_12) rfl ?_))
   exact tail2924 _ (Or.inl rfl)
  ·skip
   refine S.ifN 7 (H at_4) (zEqF hb3602) (S.iconst 8 (1 : Int32) (H at_7) (S.goto 12 (H at_8) (S.istore 14 #[.val (.long p1), .second, vi p2, vi p3, vi p4, vi 1, uN, uN, uN, uN, uN, uN, uN, uN, uN, uN, uN, uN, uN, uN, uN, uN, uN, uN, uN, uN] (H at_12) rfl ?_)))
   exact tail2924 _ (Or.inr rfl)

set_option maxRecDepth 65536 in
set_option maxHeartbeats 40000000 in
theorem own_comes {Post : Tables → Env → Array Value → State → Outcome → State → Prop} (hpost : ∀ tb e args s v u, (limb_1_1.after args s (.returned v) u = true ∧ limb_1_2.after args s (.returned v) u = true ∧ True) → FrameEnd s (.returned v) u (Jvm.fieldLocs frame_1_writes args s ++ Jvm.arrayLocs frame_1_arrays args s ++ Jvm.staticLocs frame_1_statics s) 32 192 → Post tb e args s (.returned v) u) :
    ArmFor flags0 classFile x code maxLocals ret World_1 tables_1 room_1 Calls_1 rest_1 Pre_1 Post := by
  intro l hfl _ _ p e ha hc hk s m args below hf hA hF happ hP
  obtain ⟨hcalls, hrest, hpre⟩ := hP
  obtain ⟨-, -, -, hnamed, -, -, -, hat⟩ := (Spec.applies_iff hf).mp happ
  obtain ⟨hg, hn⟩ := and_e (Cond.before_iff.mp (show (Jvm.Cond.and given_1 narrow_1).before args s = true from hpre))
  obtain ⟨g0, q0⟩ := and_e hg
  obtain ⟨g1, q1⟩ := and_e q0
  obtain ⟨g2, q2⟩ := and_e q1
  obtain ⟨g3, q3⟩ := and_e q2
  obtain ⟨w0, w1, w2, w3, rfl⟩ : ∃ w0 w1 w2 w3 : Value, args = #[w0, w1, w2, w3] := by
    have hs : args.size = 4 := by simpa [Cond.value, given_1] using g0
    obtain ⟨L⟩ := args
    match L, hs with
    | [w0, w1, w2, w3], _ => exact ⟨w0, w1, w2, w3, rfl⟩
  have hw := fun d (hd : d ∈ tables_1) => atoms_spec (ws := Jvm.Cond.code x code maxLocals ret :: tables_1) hat d (List.mem_cons_of_mem _ hd)
  obtain ⟨hsets, hown0⟩ := atoms_of _ (rest_1_c_eq ▸ (show rest_1_c.before _ s = true from hrest))
  have hr0 := Cond.before_iff.mp hown0
  have hfit : Fit s := fun {y c} hc i hi => by
    obtain ⟨ha, rfl⟩ := Array.getElem?_eq_some_iff.mp hc
    have q := List.all_eq_true.mp ((Array.all_eq_true_iff_forall_mem.mp hF) _ (Array.getElem_mem ha)) i (List.mem_range.mpr hi)
    simpa [Array.getElem?_eq_getElem hi] using q
  obtain ⟨i0, e0⟩ := isL_v g1
  obtain rfl : w0 = (.long i0) := Option.some.inj e0
  obtain ⟨i1, e1⟩ := is_v g2
  obtain rfl : w1 = (.int i1) := Option.some.inj e1
  obtain ⟨i2, e2⟩ := is_v g3
  obtain rfl : w2 = (.int i2) := Option.some.inj e2
  obtain ⟨i3, e3⟩ := is_v q3
  obtain rfl : w3 = (.int i3) := Option.some.inj e3
  obtain ⟨cz, cze⟩ := is_v (Cond.before_iff.mp (hsets _ (List.mem_of_getElem? (i := 1) rfl)))
  have cm : Com s := ⟨cz, Sta.start cze (Or.inl (hsets _ (List.mem_of_getElem? (i := 0) rfl))), gotF (Cond.eq_ints cze (Term.int_eval (0))) (not_v (Cond.before_iff.mp (hsets _ (List.mem_of_getElem? (i := 2) rfl))))⟩
  obtain ⟨n, o, h1, h2, h3, _, L, rfl, ⟨rfl, KK, N⟩, hq⟩ := own_law l s _ hw cm s.heap s.heap.size (Old.start s) i0 i1 i2 i3 p e ha hc hk s m _ below hf ((Spec.applies_iff_loose hf).mp happ).1 ⟨rfl, State.Warmed39.refl s, rfl⟩ trivial
  refine ⟨n, _, h1, h2, h3, hpost _ _ _ _ _ _ ⟨Cond.after_iff.mpr rfl, Cond.after_iff.mpr (eq_i res_at (Term.int_eval (1)) rfl), trivial⟩ ⟨hq.1, hq.2.1, (hq.2.2.sift fun y hy => Or.inr (N y hy)).mono (by decide) (by decide)⟩⟩
theorem main_1_1 : Claimed_1_1 := own_comes fun _ _ _ _ _ _ h hF => ⟨h.1, hF⟩
theorem main_1_2 : Claimed_1_2 := own_comes fun _ _ _ _ _ _ h hF => ⟨h.2.1, hF⟩
end Jvm.Pilot.@@N@@
namespace Jvm.Pilot.@@N@@
open Jvm Jvm.ClassFile Sem Op Lib Jvm.Free Jvm.Stand Jvm.Pilot.@@N@@.Jvm.D
/-! MADE BY PROGRAM (witnessworld.py) out of the Statement's table words and the real class files: 22 classes; the members and pool entries that the words name. The judged class is class 1, her method 3. -/
namespace start1
open Jvm.ClassFile
def u (s : String) : CpInfo := .utf8 (stringToUtf16 s)
/-- a pool by its gaps: so many unusable entries, then the entry; so many at the end -/
def gap : Nat → List CpInfo → List CpInfo
  | 0, r => r
  | n + 1, r => .unusable :: gap n r
def poolList (es : List (Nat × CpInfo)) (last : Nat) : List CpInfo := es.foldr (fun e r => gap e.1 (e.2 :: r)) (gap last [])
def pool (es : List (Nat × CpInfo)) (last : Nat) : Array CpInfo := ⟨poolList es last⟩
def fileOf (pool : Array CpInfo) (this : Nat) (attrs : Array Attribute := #[]) (ms : Array MethodInfo := #[]) (fl : Nat := 33) (sup : Nat := 0) (ifs : Array Nat := #[]) (fds : Array FieldInfo := #[]) : ClassFile where
  minorVersion := 0
  majorVersion := 65
  constantPool := pool
  accessFlags := fl
  thisClass := this
  superClass := sup
  interfaces := ifs
  fields := fds
  methods := ms
  attributes := attrs
def plain (name : String) (sup : Option ClassId) : Class where
  name := name
  kind := .ordinary
  loader := none
  accessFlags := 33
  super := sup
  interfaces := #[]
  cf := none
  fields := #[]
  methods := #[]
  instanceTypes := #[]
  staticTypes := #[]
  resolved := #[]
  callSites := []
  init := .initialized
  statics := none
  mirror := none

def pool0 : Array CpInfo := pool [(5, u "<init>"), (0, u "()V"), (1, .class_ 10), (1, u "java/lang/Object")] 113

def k0c0 : Code := { maxStack := 0, maxLocals := 1, code := object_method_1_code, exceptionTable := #[], attributes := #[] }
def k0m0 : Method := { name := "<init>", desc := "()V", sig := { parameters := [], returnType := none }, accessFlags := 1, code := some k0c0 }
/-- java/lang/Object -/
def k0 : Class := { plain "java/lang/Object" none with
  accessFlags := 33
  interfaces := #[]
  cf := some (fileOf pool0 8 #[] #[{ accessFlags := 1, nameIndex := 5, descriptorIndex := 6, attributes := #[] }] 33 0 #[] #[])
  fields := #[]
  methods := #[k0m0]
  instanceTypes := #[]
  staticTypes := #[]
  resolved := Array.replicate 124 none
  statics := none }

def pool1 : Array CpInfo := pool [(2, .class_ 4), (1, u "java/lang/Object"), (0, u "<init>"), (0, u "()V"), (0, .long 255), (1, .methodref 10 11), (0, .class_ 12), (0, .nameAndType 13 14), (0, u "com/example/oref/oref/wikipedia/MatchesEndFromPinLaw"), (0, u "ch"), (0, u "(JIZ)C"), (0, .class_ 16), (0, u "java/lang/String"), (0, .methodref 15 18), (0, .nameAndType 5 19), (0, u "([C)V"), (0, .class_ 21), (0, u "com/example/oref/oref/wikipedia/Matches"), (0, .methodref 20 23), (0, .nameAndType 5 24), (0, u "(Ljava/lang/String;Ljava/lang/String;)V"), (0, .methodref 10 26), (0, .nameAndType 27 28), (0, u "occ"), (0, u "([C[CI)Z"), (0, .methodref 20 30), (0, .nameAndType 31 32), (0, u "endFrom"), (0, u "(I)I"), (3, u "law"), (0, u "(JIII)Z")] 4

def k1m0 : Method := { name := "<init>", desc := "()V", sig := { parameters := [], returnType := none }, accessFlags := 1, code := none }
def k1c1 : Code := { maxStack := 5, maxLocals := 4, code := method_2_code, exceptionTable := #[], attributes := #[] }
def k1m1 : Method := { name := "ch", desc := "(JIZ)C", sig := { parameters := [.long, .int, .boolean], returnType := some .char }, accessFlags := 10, code := some k1c1 }
def k1c2 : Code := { maxStack := 3, maxLocals := 3, code := method_3_code, exceptionTable := #[], attributes := #[] }
def k1m2 : Method := { name := "occ", desc := "([C[CI)Z", sig := { parameters := [(.array .char), (.array .char), .int], returnType := some .boolean }, accessFlags := 10, code := some k1c2 }
def k1c3 : Code := { maxStack := 6, maxLocals := 26, code := code, exceptionTable := #[], attributes := #[] }
def k1m3 : Method := { name := "law", desc := "(JIII)Z", sig := { parameters := [.long, .int, .int, .int], returnType := some .boolean }, accessFlags := 9, code := some k1c3 }
/-- com/example/oref/oref/wikipedia/MatchesEndFromPinLaw -/
def k1 : Class := { plain "com/example/oref/oref/wikipedia/MatchesEndFromPinLaw" (some 0) with
  accessFlags := 49
  interfaces := #[]
  cf := some (fileOf pool1 10 #[] #[{ accessFlags := 1, nameIndex := 5, descriptorIndex := 6, attributes := #[] }, { accessFlags := 10, nameIndex := 13, descriptorIndex := 14, attributes := #[] }, { accessFlags := 10, nameIndex := 27, descriptorIndex := 28, attributes := #[] }, { accessFlags := 9, nameIndex := 36, descriptorIndex := 37, attributes := #[] }] 49 2 #[] #[])
  fields := #[]
  methods := #[k1m0, k1m1, k1m2, k1m3]
  instanceTypes := #[]
  staticTypes := #[]
  resolved := Array.replicate 42 none
  statics := none }

def pool2 : Array CpInfo := pool [(1, .class_ 2), (0, u "java/io/Serializable"), (0, .class_ 4), (0, u "java/lang/Object")] 2

/-- java/io/Serializable -/
def k2 : Class := { plain "java/io/Serializable" (some 0) with
  accessFlags := 1537
  interfaces := #[]
  cf := some (fileOf pool2 1 #[] #[] 1537 3 #[] #[])
  fields := #[]
  methods := #[]
  instanceTypes := #[]
  staticTypes := #[]
  resolved := Array.replicate 7 none
  statics := none }

def pool3 : Array CpInfo := pool [(1, .class_ 2), (0, u "java/lang/Comparable"), (0, .class_ 4), (0, u "java/lang/Object")] 7

/-- java/lang/Comparable -/
def k3 : Class := { plain "java/lang/Comparable" (some 0) with
  accessFlags := 1537
  interfaces := #[]
  cf := some (fileOf pool3 1 #[] #[] 1537 3 #[] #[])
  fields := #[]
  methods := #[]
  instanceTypes := #[]
  staticTypes := #[]
  resolved := Array.replicate 12 none
  statics := none }

def pool4 : Array CpInfo := pool [(2, .class_ 4), (1, u "java/lang/CharSequence"), (42, .class_ 48), (0, u "java/lang/CharSequence$1CodePointIterator"), (10, .class_ 60), (0, u "java/lang/CharSequence$1CharIterator"), (5, .class_ 67), (0, u "java/lang/Object")] 63

/-- java/lang/CharSequence -/
def k4 : Class := { plain "java/lang/CharSequence" (some 0) with
  accessFlags := 1537
  interfaces := #[]
  cf := some (fileOf pool4 2 #[.nestMembers #[47, 59]] #[] 1537 66 #[] #[])
  fields := #[]
  methods := #[]
  instanceTypes := #[]
  staticTypes := #[]
  resolved := Array.replicate 131 none
  statics := none }

def pool5 : Array CpInfo := pool [(1, .class_ 2), (0, u "java/lang/constant/Constable"), (0, .class_ 4), (0, u "java/lang/Object")] 6

/-- java/lang/constant/Constable -/
def k5 : Class := { plain "java/lang/constant/Constable" (some 0) with
  accessFlags := 1537
  interfaces := #[]
  cf := some (fileOf pool5 1 #[] #[] 1537 3 #[] #[])
  fields := #[]
  methods := #[]
  instanceTypes := #[]
  staticTypes := #[]
  resolved := Array.replicate 11 none
  statics := none }

def pool6 : Array CpInfo := pool [(1, .class_ 2), (0, u "java/lang/constant/ConstantDesc"), (0, .class_ 4), (0, u "java/lang/Object")] 32

/-- java/lang/constant/ConstantDesc -/
def k6 : Class := { plain "java/lang/constant/ConstantDesc" (some 0) with
  accessFlags := 1537
  interfaces := #[]
  cf := some (fileOf pool6 1 #[] #[] 1537 3 #[] #[])
  fields := #[]
  methods := #[]
  instanceTypes := #[]
  staticTypes := #[]
  resolved := Array.replicate 37 none
  statics := none }

def pool7 : Array CpInfo := pool [(1, .methodref 2 3), (0, .class_ 4), (0, .nameAndType 5 6), (0, u "java/lang/Object"), (0, u "<init>"), (0, u "()V"), (2, .fieldref 10 11), (0, .class_ 12), (0, .nameAndType 13 14), (0, u "java/lang/String"), (0, u "value"), (0, u "[B"), (0, .fieldref 10 16), (0, .nameAndType 17 18), (0, u "coder"), (0, u "B"), (2, u "hash"), (0, u "I"), (2, u "hashIsZero"), (0, u "Z"), (0, .methodref 10 28), (0, .nameAndType 5 29), (0, u "([CIILjava/lang/Void;)V"), (8, .fieldref 10 39), (0, .nameAndType 40 26), (0, u "COMPACT_STRINGS"), (1, .class_ 44), (1, u "java/lang/StringUTF16"), (0, u "compress"), (1, .methodref 42 48), (0, .nameAndType 49 50), (0, u "coderFromArrayLen"), (0, u "([BI)B"), (56, .class_ 109), (1, u "java/lang/StringLatin1"), (32, u "()Z"), (34, .methodref 42 178), (0, .nameAndType 45 179), (0, u "([CII)[B"), (154, u "()I"), (0, .methodref 10 336), (0, .nameAndType 17 337), (0, u "()B"), (38, u "([BI[BII)I"), (115, .methodref 10 493), (0, .nameAndType 494 142), (0, u "isLatin1"), (10, .methodref 10 506), (0, .nameAndType 507 334), (0, u "length"), (67, .class_ 576), (0, u "java/lang/CharSequence"), (12, u "([B[B)I"), (9, u "CASE_INSENSITIVE_ORDER"), (0, u "Ljava/util/Comparator;"), (34, u "indexOf"), (11, .methodref 107 648), (0, .nameAndType 635 589), (4, .methodref 10 654), (0, .nameAndType 635 655), (0, u "([BBILjava/lang/String;I)I"), (3, .methodref 660 661), (0, .class_ 662), (0, .nameAndType 663 664), (0, u "java/lang/Math"), (0, u "clamp"), (0, u "(JII)I"), (0, .methodref 107 666), (0, .nameAndType 635 376), (5, u "(Ljava/lang/String;I)I"), (40, u "(Ljava/lang/String;)I"), (296, u "([C)V"), (90, u "serialPersistentFields"), (0, u "[Ljava/io/ObjectStreamField;"), (0, .class_ 1104), (0, u "java/lang/String$CaseInsensitiveComparator"), (1, .class_ 1107), (0, u "java/io/Serializable"), (0, .class_ 1109), (0, u "java/lang/Comparable"), (0, .class_ 1111), (0, u "java/lang/constant/Constable"), (0, .class_ 1113), (0, u "java/lang/constant/ConstantDesc"), (2, u "serialVersionUID"), (0, u "J"), (3, u "REPL"), (0, u "C"), (2, u "LATIN1"), (1, u "UTF16")] 323

def k7m0 : Method := { name := "<init>", desc := "()V", sig := { parameters := [], returnType := none }, accessFlags := 1, code := none }
def k7c1 : Code := { maxStack := 5, maxLocals := 2, code := jdk_42_method_3_code, exceptionTable := #[], attributes := #[] }
def k7m1 : Method := { name := "<init>", desc := "([C)V", sig := { parameters := [(.array .char)], returnType := none }, accessFlags := 1, code := some k7c1 }
def k7c2 : Code := { maxStack := 2, maxLocals := 1, code := jdk_42_method_54_code, exceptionTable := #[], attributes := #[] }
def k7m2 : Method := { name := "length", desc := "()I", sig := { parameters := [], returnType := some .int }, accessFlags := 1, code := some k7c2 }
def k7c3 : Code := { maxStack := 2, maxLocals := 3, code := jdk_42_method_84_code, exceptionTable := #[], attributes := #[] }
def k7m3 : Method := { name := "indexOf", desc := "(Ljava/lang/String;)I", sig := { parameters := [(.object "java/lang/String")], returnType := some .int }, accessFlags := 1, code := some k7c3 }
def k7c4 : Code := { maxStack := 5, maxLocals := 3, code := jdk_42_method_85_code, exceptionTable := #[], attributes := #[] }
def k7m4 : Method := { name := "indexOf", desc := "(Ljava/lang/String;I)I", sig := { parameters := [(.object "java/lang/String"), .int], returnType := some .int }, accessFlags := 1, code := some k7c4 }
def k7c5 : Code := { maxStack := 5, maxLocals := 8, code := jdk_42_method_87_code, exceptionTable := #[], attributes := #[] }
def k7m5 : Method := { name := "indexOf", desc := "([BBILjava/lang/String;I)I", sig := { parameters := [(.array .byte), .byte, .int, (.object "java/lang/String"), .int], returnType := some .int }, accessFlags := 8, code := some k7c5 }
def k7c6 : Code := { maxStack := 4, maxLocals := 6, code := jdk_42_method_149_code, exceptionTable := #[], attributes := #[] }
def k7m6 : Method := { name := "<init>", desc := "([CIILjava/lang/Void;)V", sig := { parameters := [(.array .char), .int, .int, (.object "java/lang/Void")], returnType := none }, accessFlags := 2, code := some k7c6 }
def k7c7 : Code := { maxStack := 1, maxLocals := 1, code := jdk_42_method_152_code, exceptionTable := #[], attributes := #[] }
def k7m7 : Method := { name := "coder", desc := "()B", sig := { parameters := [], returnType := some .byte }, accessFlags := 0, code := some k7c7 }
def k7c8 : Code := { maxStack := 1, maxLocals := 1, code := jdk_42_method_154_code, exceptionTable := #[], attributes := #[] }
def k7m8 : Method := { name := "isLatin1", desc := "()Z", sig := { parameters := [], returnType := some .boolean }, accessFlags := 0, code := some k7c8 }
/-- java/lang/String -/
def k7 : Class := { plain "java/lang/String" (some 0) with
  accessFlags := 49
  interfaces := #[2, 3, 4, 5, 6]
  cf := some (fileOf pool7 10 #[.nestMembers #[1103]] #[{ accessFlags := 1, nameIndex := 5, descriptorIndex := 6, attributes := #[] }, { accessFlags := 1, nameIndex := 5, descriptorIndex := 1010, attributes := #[] }, { accessFlags := 1, nameIndex := 507, descriptorIndex := 334, attributes := #[] }, { accessFlags := 1, nameIndex := 635, descriptorIndex := 713, attributes := #[] }, { accessFlags := 1, nameIndex := 635, descriptorIndex := 672, attributes := #[] }, { accessFlags := 8, nameIndex := 635, descriptorIndex := 655, attributes := #[] }, { accessFlags := 2, nameIndex := 5, descriptorIndex := 29, attributes := #[] }, { accessFlags := 0, nameIndex := 17, descriptorIndex := 337, attributes := #[] }, { accessFlags := 0, nameIndex := 494, descriptorIndex := 142, attributes := #[] }] 49 2 #[1106, 1108, 575, 1110, 1112] #[{ accessFlags := 18, nameIndex := 13, descriptorIndex := 14, attributes := #[] }, { accessFlags := 18, nameIndex := 17, descriptorIndex := 18, attributes := #[] }, { accessFlags := 2, nameIndex := 21, descriptorIndex := 22, attributes := #[] }, { accessFlags := 2, nameIndex := 25, descriptorIndex := 26, attributes := #[] }, { accessFlags := 26, nameIndex := 1116, descriptorIndex := 1117, attributes := #[] }, { accessFlags := 24, nameIndex := 40, descriptorIndex := 26, attributes := #[] }, { accessFlags := 26, nameIndex := 1101, descriptorIndex := 1102, attributes := #[] }, { accessFlags := 26, nameIndex := 1121, descriptorIndex := 1122, attributes := #[] }, { accessFlags := 25, nameIndex := 599, descriptorIndex := 600, attributes := #[] }, { accessFlags := 24, nameIndex := 1125, descriptorIndex := 18, attributes := #[] }, { accessFlags := 24, nameIndex := 1127, descriptorIndex := 18, attributes := #[] }])
  fields := #[{ name := "value", type := (.array .byte), accessFlags := 18, slot := 0, constantValue := 0 }, { name := "coder", type := .byte, accessFlags := 18, slot := 1, constantValue := 0 }, { name := "hash", type := .int, accessFlags := 2, slot := 2, constantValue := 0 }, { name := "hashIsZero", type := .boolean, accessFlags := 2, slot := 3, constantValue := 0 }, { name := "serialVersionUID", type := .long, accessFlags := 26, slot := 0, constantValue := 0 }, { name := "COMPACT_STRINGS", type := .boolean, accessFlags := 24, slot := 1, constantValue := 0 }, { name := "serialPersistentFields", type := (.array (.object "java/io/ObjectStreamField")), accessFlags := 26, slot := 2, constantValue := 0 }, { name := "REPL", type := .char, accessFlags := 26, slot := 3, constantValue := 0 }, { name := "CASE_INSENSITIVE_ORDER", type := (.object "java/util/Comparator"), accessFlags := 25, slot := 4, constantValue := 0 }, { name := "LATIN1", type := .byte, accessFlags := 24, slot := 5, constantValue := 0 }, { name := "UTF16", type := .byte, accessFlags := 24, slot := 6, constantValue := 0 }]
  methods := #[k7m0, k7m1, k7m2, k7m3, k7m4, k7m5, k7m6, k7m7, k7m8]
  instanceTypes := #[(.array .byte), .byte, .int, .boolean]
  staticTypes := #[.long, .boolean, (.array (.object "java/io/ObjectStreamField")), .char, (.object "java/util/Comparator"), .byte, .byte]
  resolved := Array.replicate 1451 none
  statics := some 0 }

def pool8 : Array CpInfo := pool [(6, .class_ 8), (1, u "java/lang/Object"), (0, u "<init>"), (0, u "()V"), (1, .class_ 14), (1, u "java/lang/StringUTF16"), (31, u "$assertionsDisabled"), (0, u "Z"), (13, u "HI_BYTE_SHIFT"), (0, u "I"), (2, u "LO_BYTE_SHIFT"), (49, .methodref 12 116), (0, .nameAndType 117 118), (0, u "compress"), (0, u "([CI[BII)I"), (3, u "([CII)[B"), (138, u "coderFromArrayLen"), (0, u "([BI)B"), (106, .class_ 371), (1, u "java/lang/StringUTF16$LinesSpliterator"), (58, u "MAX_LENGTH"), (196, .class_ 628), (0, u "java/lang/StringUTF16$CodePointsSpliterator"), (0, .class_ 630), (0, u "java/lang/StringUTF16$CharsSpliterator")] 4

def k8m0 : Method := { name := "<init>", desc := "()V", sig := { parameters := [], returnType := none }, accessFlags := 0, code := none }
def k8c1 : Code := { maxStack := 2, maxLocals := 2, code := jdk_52_method_15_code, exceptionTable := #[], attributes := #[] }
def k8m1 : Method := { name := "coderFromArrayLen", desc := "([BI)B", sig := { parameters := [(.array .byte), .int], returnType := some .byte }, accessFlags := 8, code := some k8c1 }
def k8c2 : Code := { maxStack := 5, maxLocals := 6, code := jdk_52_method_16_code, exceptionTable := #[], attributes := #[] }
def k8m2 : Method := { name := "compress", desc := "([CII)[B", sig := { parameters := [(.array .char), .int, .int], returnType := some (.array .byte) }, accessFlags := 9, code := some k8c2 }
def k8c3 : Code := { maxStack := 3, maxLocals := 7, code := jdk_52_method_21_code, exceptionTable := #[], attributes := #[] }
def k8m3 : Method := { name := "compress", desc := "([CI[BII)I", sig := { parameters := [(.array .char), .int, (.array .byte), .int, .int], returnType := some .int }, accessFlags := 9, code := some k8c3 }
/-- java/lang/StringUTF16 -/
def k8 : Class := { plain "java/lang/StringUTF16" (some 0) with
  accessFlags := 48
  interfaces := #[]
  cf := some (fileOf pool8 12 #[.nestMembers #[627, 629, 369]] #[{ accessFlags := 0, nameIndex := 9, descriptorIndex := 10, attributes := #[] }, { accessFlags := 8, nameIndex := 261, descriptorIndex := 262, attributes := #[] }, { accessFlags := 9, nameIndex := 117, descriptorIndex := 122, attributes := #[] }, { accessFlags := 9, nameIndex := 117, descriptorIndex := 118, attributes := #[] }] 48 6 #[] #[{ accessFlags := 26, nameIndex := 61, descriptorIndex := 62, attributes := #[] }, { accessFlags := 26, nameIndex := 65, descriptorIndex := 62, attributes := #[] }, { accessFlags := 24, nameIndex := 430, descriptorIndex := 62, attributes := #[] }, { accessFlags := 4120, nameIndex := 46, descriptorIndex := 47, attributes := #[] }])
  fields := #[{ name := "HI_BYTE_SHIFT", type := .int, accessFlags := 26, slot := 0, constantValue := 0 }, { name := "LO_BYTE_SHIFT", type := .int, accessFlags := 26, slot := 1, constantValue := 0 }, { name := "MAX_LENGTH", type := .int, accessFlags := 24, slot := 2, constantValue := 0 }, { name := "$assertionsDisabled", type := .boolean, accessFlags := 4120, slot := 3, constantValue := 0 }]
  methods := #[k8m0, k8m1, k8m2, k8m3]
  instanceTypes := #[]
  staticTypes := #[.int, .int, .int, .boolean]
  resolved := Array.replicate 635 none
  statics := none }

def pool9 : Array CpInfo := pool [(1, .methodref 2 3), (0, .class_ 4), (0, .nameAndType 5 6), (0, u "java/lang/Object"), (0, u "<init>"), (0, u "()V"), (0, .fieldref 8 9), (0, .class_ 10), (0, .nameAndType 11 12), (0, u "com/example/oref/oref/wikipedia/Matches"), (0, u "starts"), (0, u "[I"), (0, .fieldref 8 14), (0, .nameAndType 15 12), (0, u "ends"), (6, .methodref 23 24), (0, .class_ 25), (0, .nameAndType 26 27), (0, u "java/lang/String"), (0, u "indexOf"), (0, u "(Ljava/lang/String;)I"), (0, .methodref 23 29), (0, .nameAndType 30 31), (0, u "length"), (0, u "()I"), (13, .methodref 8 46), (0, .nameAndType 47 48), (0, u "add"), (0, u "(II)V"), (0, .methodref 23 50), (0, .nameAndType 26 51), (0, u "(Ljava/lang/String;I)I"), (0, .fieldref 8 53), (0, .nameAndType 54 55), (0, u "count"), (0, u "I"), (1, .class_ 59), (1, u "java/util/Arrays"), (2, .methodref 8 63), (0, .nameAndType 64 65), (0, u "firstFrom"), (0, u "(I)I"), (0, .methodref 57 67), (0, .nameAndType 68 69), (0, u "binarySearch"), (0, u "([IIII)I"), (4, u "(Ljava/lang/String;Ljava/lang/String;)V"), (1, u "endFrom")] 2

def k9c0 : Code := { maxStack := 4, maxLocals := 4, code := prog_29_method_2_code, exceptionTable := #[], attributes := #[] }
def k9m0 : Method := { name := "<init>", desc := "(Ljava/lang/String;Ljava/lang/String;)V", sig := { parameters := [(.object "java/lang/String"), (.object "java/lang/String")], returnType := none }, accessFlags := 0, code := some k9c0 }
def k9c1 : Code := { maxStack := 4, maxLocals := 3, code := prog_29_method_3_code, exceptionTable := #[], attributes := #[] }
def k9m1 : Method := { name := "add", desc := "(II)V", sig := { parameters := [.int, .int], returnType := none }, accessFlags := 2, code := some k9c1 }
def k9c2 : Code := { maxStack := 2, maxLocals := 3, code := prog_29_method_5_code, exceptionTable := #[], attributes := #[] }
def k9m2 : Method := { name := "endFrom", desc := "(I)I", sig := { parameters := [.int], returnType := some .int }, accessFlags := 0, code := some k9c2 }
def k9c3 : Code := { maxStack := 4, maxLocals := 3, code := prog_29_method_6_code, exceptionTable := #[], attributes := #[] }
def k9m3 : Method := { name := "firstFrom", desc := "(I)I", sig := { parameters := [.int], returnType := some .int }, accessFlags := 2, code := some k9c3 }
/-- com/example/oref/oref/wikipedia/Matches -/
def k9 : Class := { plain "com/example/oref/oref/wikipedia/Matches" (some 0) with
  accessFlags := 48
  interfaces := #[]
  cf := some (fileOf pool9 8 #[] #[{ accessFlags := 0, nameIndex := 5, descriptorIndex := 74, attributes := #[] }, { accessFlags := 2, nameIndex := 47, descriptorIndex := 48, attributes := #[] }, { accessFlags := 0, nameIndex := 76, descriptorIndex := 65, attributes := #[] }, { accessFlags := 2, nameIndex := 64, descriptorIndex := 65, attributes := #[] }] 48 2 #[] #[{ accessFlags := 2, nameIndex := 11, descriptorIndex := 12, attributes := #[] }, { accessFlags := 2, nameIndex := 15, descriptorIndex := 12, attributes := #[] }, { accessFlags := 2, nameIndex := 54, descriptorIndex := 55, attributes := #[] }])
  fields := #[{ name := "starts", type := (.array .int), accessFlags := 2, slot := 0, constantValue := 0 }, { name := "ends", type := (.array .int), accessFlags := 2, slot := 1, constantValue := 0 }, { name := "count", type := .int, accessFlags := 2, slot := 2, constantValue := 0 }]
  methods := #[k9m0, k9m1, k9m2, k9m3]
  instanceTypes := #[(.array .int), (.array .int), .int]
  staticTypes := #[]
  resolved := Array.replicate 79 none
  statics := none }

def pool10 : Array CpInfo := pool [(4, .class_ 6), (1, u "java/lang/Object"), (0, u "<init>"), (0, u "()V"), (5, .class_ 16), (1, u "java/lang/StringLatin1"), (82, .methodref 14 100), (0, .nameAndType 101 102), (0, u "indexOf"), (0, u "([BI[BII)I"), (18, u "$assertionsDisabled"), (0, u "Z"), (98, .class_ 223), (1, u "java/lang/StringLatin1$LinesSpliterator"), (63, u "([B[B)I"), (102, .class_ 391), (0, u "java/lang/StringLatin1$CharsSpliterator")] 3

def k10m0 : Method := { name := "<init>", desc := "()V", sig := { parameters := [], returnType := none }, accessFlags := 0, code := none }
def k10c1 : Code := { maxStack := 5, maxLocals := 2, code := jdk_43_method_24_code, exceptionTable := #[], attributes := #[] }
def k10m1 : Method := { name := "indexOf", desc := "([B[B)I", sig := { parameters := [(.array .byte), (.array .byte)], returnType := some .int }, accessFlags := 9, code := some k10c1 }
def k10c2 : Code := { maxStack := 3, maxLocals := 11, code := jdk_43_method_25_code, exceptionTable := #[], attributes := #[] }
def k10m2 : Method := { name := "indexOf", desc := "([BI[BII)I", sig := { parameters := [(.array .byte), .int, (.array .byte), .int, .int], returnType := some .int }, accessFlags := 9, code := some k10c2 }
/-- java/lang/StringLatin1 -/
def k10 : Class := { plain "java/lang/StringLatin1" (some 0) with
  accessFlags := 48
  interfaces := #[]
  cf := some (fileOf pool10 14 #[.nestMembers #[390, 221]] #[{ accessFlags := 0, nameIndex := 7, descriptorIndex := 8, attributes := #[] }, { accessFlags := 9, nameIndex := 101, descriptorIndex := 287, attributes := #[] }, { accessFlags := 9, nameIndex := 101, descriptorIndex := 102, attributes := #[] }] 48 4 #[] #[{ accessFlags := 4120, nameIndex := 121, descriptorIndex := 122, attributes := #[] }])
  fields := #[{ name := "$assertionsDisabled", type := .boolean, accessFlags := 4120, slot := 0, constantValue := 0 }]
  methods := #[k10m0, k10m1, k10m2]
  instanceTypes := #[]
  staticTypes := #[.boolean]
  resolved := Array.replicate 395 none
  statics := none }

def pool11 : Array CpInfo := pool [(2, .class_ 4), (1, u "java/lang/Object"), (0, u "<init>"), (0, u "()V"), (6, .methodref 14 15), (0, .class_ 16), (0, .nameAndType 17 18), (0, u "java/util/Arrays"), (0, u "rangeCheck"), (0, u "(III)V"), (55, .class_ 76), (1, u "java/util/Arrays$NaturalOrder"), (36, .class_ 115), (1, u "java/util/Arrays$LegacyMergeSort"), (1, u "Z"), (89, u "binarySearch0"), (1, .methodref 14 210), (0, .nameAndType 207 211), (0, u "([IIII)I"), (163, .class_ 376), (0, u "java/util/Arrays$ArrayList"), (68, u "$assertionsDisabled"), (269, u "MIN_ARRAY_SORT_GRAN"), (0, u "I"), (2, u "INSERTIONSORT_THRESHOLD"), (74, u "binarySearch"), (180, .class_ 976), (0, u "java/util/Arrays$ArrayItr")] 52

def k11m0 : Method := { name := "<init>", desc := "()V", sig := { parameters := [], returnType := none }, accessFlags := 2, code := none }
def k11c1 : Code := { maxStack := 4, maxLocals := 3, code := jdk_65_method_30_code, exceptionTable := #[], attributes := #[] }
def k11m1 : Method := { name := "rangeCheck", desc := "(III)V", sig := { parameters := [.int, .int, .int], returnType := none }, accessFlags := 8, code := some k11c1 }
def k11c2 : Code := { maxStack := 4, maxLocals := 4, code := jdk_65_method_58_code, exceptionTable := #[], attributes := #[] }
def k11m2 : Method := { name := "binarySearch", desc := "([IIII)I", sig := { parameters := [(.array .int), .int, .int, .int], returnType := some .int }, accessFlags := 9, code := some k11c2 }
def k11c3 : Code := { maxStack := 2, maxLocals := 8, code := jdk_65_method_59_code, exceptionTable := #[], attributes := #[] }
def k11m3 : Method := { name := "binarySearch0", desc := "([IIII)I", sig := { parameters := [(.array .int), .int, .int, .int], returnType := some .int }, accessFlags := 10, code := some k11c3 }
/-- java/util/Arrays -/
def k11 : Class := { plain "java/util/Arrays" (some 0) with
  accessFlags := 49
  interfaces := #[]
  cf := some (fileOf pool11 14 #[.nestMembers #[975, 375, 113, 74]] #[{ accessFlags := 2, nameIndex := 5, descriptorIndex := 6, attributes := #[] }, { accessFlags := 8, nameIndex := 17, descriptorIndex := 18, attributes := #[] }, { accessFlags := 9, nameIndex := 794, descriptorIndex := 211, attributes := #[] }, { accessFlags := 10, nameIndex := 207, descriptorIndex := 211, attributes := #[] }] 49 2 #[] #[{ accessFlags := 26, nameIndex := 715, descriptorIndex := 716, attributes := #[] }, { accessFlags := 26, nameIndex := 719, descriptorIndex := 716, attributes := #[] }, { accessFlags := 4120, nameIndex := 445, descriptorIndex := 117, attributes := #[] }])
  fields := #[{ name := "MIN_ARRAY_SORT_GRAN", type := .int, accessFlags := 26, slot := 0, constantValue := 0 }, { name := "INSERTIONSORT_THRESHOLD", type := .int, accessFlags := 26, slot := 1, constantValue := 0 }, { name := "$assertionsDisabled", type := .boolean, accessFlags := 4120, slot := 2, constantValue := 0 }]
  methods := #[k11m0, k11m1, k11m2, k11m3]
  instanceTypes := #[]
  staticTypes := #[.int, .int, .boolean]
  resolved := Array.replicate 1029 none
  statics := none }

def pool12 : Array CpInfo := pool [(1, .class_ 2), (0, u "java/lang/Math"), (1, .class_ 6), (1, u "java/lang/Object"), (0, u "<init>"), (0, u "()V"), (89, .class_ 100), (1, u "java/lang/Math$RandomNumberGeneratorHolder"), (20, u "(JJ)J"), (50, u "negativeZeroFloatBits"), (0, u "J"), (2, u "negativeZeroDoubleBits"), (19, .methodref 1 197), (0, .nameAndType 198 121), (0, u "max"), (0, .methodref 1 200), (0, .nameAndType 201 121), (0, u "min"), (43, u "$assertionsDisabled"), (0, u "Z"), (91, u "twoToTheDoubleScaleDown"), (0, u "D"), (4, u "twoToTheDoubleScaleUp"), (9, u "E"), (3, u "PI"), (2, u "TAU"), (2, u "DEGREES_TO_RADIANS"), (0, u "RADIANS_TO_DEGREES"), (56, u "clamp"), (0, u "(JII)I")] 36

def k12m0 : Method := { name := "<init>", desc := "()V", sig := { parameters := [], returnType := none }, accessFlags := 2, code := none }
def k12c1 : Code := { maxStack := 4, maxLocals := 4, code := jdk_29_method_66_code, exceptionTable := #[], attributes := #[] }
def k12m1 : Method := { name := "max", desc := "(JJ)J", sig := { parameters := [.long, .long], returnType := some .long }, accessFlags := 9, code := some k12c1 }
def k12c2 : Code := { maxStack := 4, maxLocals := 4, code := jdk_29_method_70_code, exceptionTable := #[], attributes := #[] }
def k12m2 : Method := { name := "min", desc := "(JJ)J", sig := { parameters := [.long, .long], returnType := some .long }, accessFlags := 9, code := some k12c2 }
def k12c3 : Code := { maxStack := 6, maxLocals := 4, code := jdk_29_method_73_code, exceptionTable := #[], attributes := #[] }
def k12m3 : Method := { name := "clamp", desc := "(JII)I", sig := { parameters := [.long, .int, .int], returnType := some .int }, accessFlags := 9, code := some k12c3 }
/-- java/lang/Math -/
def k12 : Class := { plain "java/lang/Math" (some 0) with
  accessFlags := 49
  interfaces := #[]
  cf := some (fileOf pool12 1 #[.nestMembers #[98]] #[{ accessFlags := 2, nameIndex := 7, descriptorIndex := 8, attributes := #[] }, { accessFlags := 9, nameIndex := 198, descriptorIndex := 121, attributes := #[] }, { accessFlags := 9, nameIndex := 201, descriptorIndex := 121, attributes := #[] }, { accessFlags := 9, nameIndex := 422, descriptorIndex := 423, attributes := #[] }] 49 4 #[] #[{ accessFlags := 25, nameIndex := 354, descriptorIndex := 339, attributes := #[] }, { accessFlags := 25, nameIndex := 358, descriptorIndex := 339, attributes := #[] }, { accessFlags := 25, nameIndex := 361, descriptorIndex := 339, attributes := #[] }, { accessFlags := 26, nameIndex := 364, descriptorIndex := 339, attributes := #[] }, { accessFlags := 26, nameIndex := 365, descriptorIndex := 339, attributes := #[] }, { accessFlags := 26, nameIndex := 172, descriptorIndex := 173, attributes := #[] }, { accessFlags := 26, nameIndex := 176, descriptorIndex := 173, attributes := #[] }, { accessFlags := 8, nameIndex := 344, descriptorIndex := 339, attributes := #[] }, { accessFlags := 8, nameIndex := 338, descriptorIndex := 339, attributes := #[] }, { accessFlags := 4120, nameIndex := 245, descriptorIndex := 246, attributes := #[] }])
  fields := #[{ name := "E", type := .double, accessFlags := 25, slot := 0, constantValue := 0 }, { name := "PI", type := .double, accessFlags := 25, slot := 1, constantValue := 0 }, { name := "TAU", type := .double, accessFlags := 25, slot := 2, constantValue := 0 }, { name := "DEGREES_TO_RADIANS", type := .double, accessFlags := 26, slot := 3, constantValue := 0 }, { name := "RADIANS_TO_DEGREES", type := .double, accessFlags := 26, slot := 4, constantValue := 0 }, { name := "negativeZeroFloatBits", type := .long, accessFlags := 26, slot := 5, constantValue := 0 }, { name := "negativeZeroDoubleBits", type := .long, accessFlags := 26, slot := 6, constantValue := 0 }, { name := "twoToTheDoubleScaleUp", type := .double, accessFlags := 8, slot := 7, constantValue := 0 }, { name := "twoToTheDoubleScaleDown", type := .double, accessFlags := 8, slot := 8, constantValue := 0 }, { name := "$assertionsDisabled", type := .boolean, accessFlags := 4120, slot := 9, constantValue := 0 }]
  methods := #[k12m0, k12m1, k12m2, k12m3]
  instanceTypes := #[]
  staticTypes := #[.double, .double, .double, .double, .double, .long, .long, .double, .double, .boolean]
  resolved := Array.replicate 460 none
  statics := none }

def pool13 : Array CpInfo := pool [(2, .class_ 4), (1, u "java/lang/Object"), (0, u "<init>"), (0, u "()V"), (17, .class_ 26), (1, u "jdk/internal/util/Preconditions"), (28, .class_ 56), (0, u "jdk/internal/util/Preconditions$4"), (57, .class_ 115), (0, u "jdk/internal/util/Preconditions$1"), (7, u "SIOOBE_FORMATTER"), (0, u "Ljava/util/function/BiFunction;"), (0, .class_ 126), (0, u "jdk/internal/util/Preconditions$2"), (3, u "AIOOBE_FORMATTER"), (0, .class_ 132), (0, u "jdk/internal/util/Preconditions$3"), (3, u "IOOBE_FORMATTER")] 57

def k13m0 : Method := { name := "<init>", desc := "()V", sig := { parameters := [], returnType := none }, accessFlags := 1, code := none }
/-- jdk/internal/util/Preconditions -/
def k13 : Class := { plain "jdk/internal/util/Preconditions" (some 0) with
  accessFlags := 33
  interfaces := #[]
  cf := some (fileOf pool13 24 #[.nestMembers #[55, 131, 125, 114]] #[{ accessFlags := 1, nameIndex := 5, descriptorIndex := 6, attributes := #[] }] 33 2 #[] #[{ accessFlags := 25, nameIndex := 123, descriptorIndex := 124, attributes := #[] }, { accessFlags := 25, nameIndex := 130, descriptorIndex := 124, attributes := #[] }, { accessFlags := 25, nameIndex := 136, descriptorIndex := 124, attributes := #[] }])
  fields := #[{ name := "SIOOBE_FORMATTER", type := (.object "java/util/function/BiFunction"), accessFlags := 25, slot := 0, constantValue := 0 }, { name := "AIOOBE_FORMATTER", type := (.object "java/util/function/BiFunction"), accessFlags := 25, slot := 1, constantValue := 0 }, { name := "IOOBE_FORMATTER", type := (.object "java/util/function/BiFunction"), accessFlags := 25, slot := 2, constantValue := 0 }]
  methods := #[k13m0]
  instanceTypes := #[]
  staticTypes := #[(.object "java/util/function/BiFunction"), (.object "java/util/function/BiFunction"), (.object "java/util/function/BiFunction")]
  resolved := Array.replicate 194 none
  statics := some 1 }

def pool14 : Array CpInfo := pool [(9, u "<init>"), (6, .class_ 18), (1, u "java/lang/Object"), (0, u "()V"), (1, .class_ 23), (1, u "jdk/internal/util/ArraysSupport"), (0, u "LOG2_ARRAY_LONG_INDEX_SCALE"), (0, u "I"), (2, u "U"), (0, u "Ljdk/internal/misc/Unsafe;"), (8, u "BIG_ENDIAN"), (0, u "Z"), (8, u "LOG2_BYTE_BIT_SIZE"), (4, u "LOG2_ARRAY_INT_INDEX_SCALE"), (54, u "JLA"), (0, u "Ljdk/internal/access/JavaLangAccess;"), (11, u "LOG2_ARRAY_BOOLEAN_INDEX_SCALE"), (9, u "LOG2_ARRAY_BYTE_INDEX_SCALE"), (5, u "LOG2_ARRAY_CHAR_INDEX_SCALE"), (5, u "LOG2_ARRAY_SHORT_INDEX_SCALE"), (18, u "LOG2_ARRAY_FLOAT_INDEX_SCALE"), (24, u "LOG2_ARRAY_DOUBLE_INDEX_SCALE"), (89, u "T_BOOLEAN"), (2, u "T_CHAR"), (1, u "T_FLOAT"), (1, u "T_DOUBLE"), (1, u "T_BYTE"), (1, u "T_SHORT"), (1, u "T_INT"), (1, u "T_LONG"), (1, u "SOFT_MAX_ARRAY_LENGTH")] 83

def k14m0 : Method := { name := "<init>", desc := "()V", sig := { parameters := [], returnType := none }, accessFlags := 2, code := none }
/-- jdk/internal/util/ArraysSupport -/
def k14 : Class := { plain "jdk/internal/util/ArraysSupport" (some 0) with
  accessFlags := 33
  interfaces := #[]
  cf := some (fileOf pool14 21 #[] #[{ accessFlags := 2, nameIndex := 9, descriptorIndex := 19, attributes := #[] }] 33 16 #[] #[{ accessFlags := 24, nameIndex := 28, descriptorIndex := 29, attributes := #[] }, { accessFlags := 26, nameIndex := 38, descriptorIndex := 39, attributes := #[] }, { accessFlags := 25, nameIndex := 121, descriptorIndex := 25, attributes := #[] }, { accessFlags := 25, nameIndex := 131, descriptorIndex := 25, attributes := #[] }, { accessFlags := 25, nameIndex := 137, descriptorIndex := 25, attributes := #[] }, { accessFlags := 25, nameIndex := 143, descriptorIndex := 25, attributes := #[] }, { accessFlags := 25, nameIndex := 53, descriptorIndex := 25, attributes := #[] }, { accessFlags := 25, nameIndex := 24, descriptorIndex := 25, attributes := #[] }, { accessFlags := 25, nameIndex := 162, descriptorIndex := 25, attributes := #[] }, { accessFlags := 25, nameIndex := 187, descriptorIndex := 25, attributes := #[] }, { accessFlags := 26, nameIndex := 48, descriptorIndex := 25, attributes := #[] }, { accessFlags := 25, nameIndex := 277, descriptorIndex := 25, attributes := #[] }, { accessFlags := 25, nameIndex := 280, descriptorIndex := 25, attributes := #[] }, { accessFlags := 25, nameIndex := 282, descriptorIndex := 25, attributes := #[] }, { accessFlags := 25, nameIndex := 284, descriptorIndex := 25, attributes := #[] }, { accessFlags := 25, nameIndex := 286, descriptorIndex := 25, attributes := #[] }, { accessFlags := 25, nameIndex := 288, descriptorIndex := 25, attributes := #[] }, { accessFlags := 25, nameIndex := 290, descriptorIndex := 25, attributes := #[] }, { accessFlags := 25, nameIndex := 292, descriptorIndex := 25, attributes := #[] }, { accessFlags := 26, nameIndex := 108, descriptorIndex := 109, attributes := #[] }, { accessFlags := 25, nameIndex := 294, descriptorIndex := 25, attributes := #[] }])
  fields := #[{ name := "U", type := (.object "jdk/internal/misc/Unsafe"), accessFlags := 24, slot := 0, constantValue := 0 }, { name := "BIG_ENDIAN", type := .boolean, accessFlags := 26, slot := 1, constantValue := 0 }, { name := "LOG2_ARRAY_BOOLEAN_INDEX_SCALE", type := .int, accessFlags := 25, slot := 2, constantValue := 0 }, { name := "LOG2_ARRAY_BYTE_INDEX_SCALE", type := .int, accessFlags := 25, slot := 3, constantValue := 0 }, { name := "LOG2_ARRAY_CHAR_INDEX_SCALE", type := .int, accessFlags := 25, slot := 4, constantValue := 0 }, { name := "LOG2_ARRAY_SHORT_INDEX_SCALE", type := .int, accessFlags := 25, slot := 5, constantValue := 0 }, { name := "LOG2_ARRAY_INT_INDEX_SCALE", type := .int, accessFlags := 25, slot := 6, constantValue := 0 }, { name := "LOG2_ARRAY_LONG_INDEX_SCALE", type := .int, accessFlags := 25, slot := 7, constantValue := 0 }, { name := "LOG2_ARRAY_FLOAT_INDEX_SCALE", type := .int, accessFlags := 25, slot := 8, constantValue := 0 }, { name := "LOG2_ARRAY_DOUBLE_INDEX_SCALE", type := .int, accessFlags := 25, slot := 9, constantValue := 0 }, { name := "LOG2_BYTE_BIT_SIZE", type := .int, accessFlags := 26, slot := 10, constantValue := 0 }, { name := "T_BOOLEAN", type := .int, accessFlags := 25, slot := 11, constantValue := 0 }, { name := "T_CHAR", type := .int, accessFlags := 25, slot := 12, constantValue := 0 }, { name := "T_FLOAT", type := .int, accessFlags := 25, slot := 13, constantValue := 0 }, { name := "T_DOUBLE", type := .int, accessFlags := 25, slot := 14, constantValue := 0 }, { name := "T_BYTE", type := .int, accessFlags := 25, slot := 15, constantValue := 0 }, { name := "T_SHORT", type := .int, accessFlags := 25, slot := 16, constantValue := 0 }, { name := "T_INT", type := .int, accessFlags := 25, slot := 17, constantValue := 0 }, { name := "T_LONG", type := .int, accessFlags := 25, slot := 18, constantValue := 0 }, { name := "JLA", type := (.object "jdk/internal/access/JavaLangAccess"), accessFlags := 26, slot := 19, constantValue := 0 }, { name := "SOFT_MAX_ARRAY_LENGTH", type := .int, accessFlags := 25, slot := 20, constantValue := 0 }]
  methods := #[k14m0]
  instanceTypes := #[]
  staticTypes := #[(.object "jdk/internal/misc/Unsafe"), .boolean, .int, .int, .int, .int, .int, .int, .int, .int, .int, .int, .int, .int, .int, .int, .int, .int, .int, (.object "jdk/internal/access/JavaLangAccess"), .int]
  resolved := Array.replicate 378 none
  statics := none }

def pool15 : Array CpInfo := pool [(1, u "java/lang/Cloneable"), (0, .class_ 1), (0, u "java/lang/Object"), (0, .class_ 3)] 3

/-- java/lang/Cloneable -/
def k15 : Class := { plain "java/lang/Cloneable" (some 0) with
  accessFlags := 1537
  interfaces := #[]
  cf := some (fileOf pool15 2 #[] #[] 1537 4 #[] #[])
  fields := #[]
  methods := #[]
  instanceTypes := #[]
  staticTypes := #[]
  resolved := Array.replicate 8 none
  statics := none }

/-- the primitive byte -/
def k16 : Class := { plain "byte" none with kind := .primitive 'B', accessFlags := 0x411 }
/-- [B -/
def k17 : Class := { plain "[B" (some 0) with kind := .array 16 .byte, interfaces := #[15, 2], accessFlags := 1041 }

/-- the primitive char -/
def k18 : Class := { plain "char" none with kind := .primitive 'C', accessFlags := 0x411 }
/-- [C -/
def k19 : Class := { plain "[C" (some 0) with kind := .array 18 .char, interfaces := #[15, 2], accessFlags := 1041 }

/-- the primitive int -/
def k20 : Class := { plain "int" none with kind := .primitive 'I', accessFlags := 0x411 }
/-- [I -/
def k21 : Class := { plain "[I" (some 0) with kind := .array 20 .int, interfaces := #[15, 2], accessFlags := 1041 }

def heap : Heap := #[{ cls := 7, slots := #[.long 0, .int 1, .null, .int 0, .null, .int 0, .int 0], vm := .statics 7 },
  { cls := 13, slots := #[.null, .null, .null], vm := .statics 13 }]
def classes : Array Class := #[k0, k1, k2, k3, k4, k5, k6, k7, k8, k9, k10, k11, k12, k13, k14, k15, k16, k17, k18, k19, k20, k21]
def interned : List (Array UInt16 × Addr) := []
def slotsUsed : Nat := 10
def theMethod : MethodId := ⟨1, 3⟩
def args0 : Array Value := #[.long 0, .int 65, .int 3, .int 1]
def aboutOver (below : List Frame) : State where
  vm := { classes := classes, interned := interned.toArray }
  heap := heap
  slotsUsed := slotsUsed
  threads := #[{ frames := .invoking theMethod args0 :: below }]
def below0 : List Frame := [.native { method := ⟨0, 0⟩, args := #[] }]
def about1 : State := aboutOver below0
def p0 : Program := .bare "" "" ""
def e0 : Env := launch0.env 0 0 0
theorem w_frames : about1.frames = Frame.invoking theMethod args0 :: below0 := rfl
set_option maxRecDepth 65536 in
theorem w_args : argsFit about1.vm theMethod args0 = true := by decide +kernel
set_option maxRecDepth 65536 in
theorem w_heap : heapFits about1 = true := by decide +kernel
set_option maxRecDepth 65536 in
theorem w_runnable : about1.curStatus? = some .runnable := by decide +kernel
set_option maxRecDepth 65536 in
theorem w_alone : about1.alone = true := by decide +kernel
set_option maxRecDepth 65536 in
theorem w_named : about1.methodNamed? x = some theMethod := by decide +kernel
set_option maxRecDepth 65536 in
theorem w_hears : about1.hears theMethod below0 = true := by decide +kernel
set_option maxRecDepth 65536 in
theorem w_ripe : about1.ripe theMethod args0 below0 = true := by decide +kernel
theorem w_running : about1.status = .running := rfl
set_option maxRecDepth 65536 in
theorem w_room : about1.hasRoom e0.platform room_1 = true :=
  launch0.hasRoom_least _ room_1 (by decide +kernel) (by decide +kernel) (by decide +kernel) (by decide +kernel) (by decide +kernel) (by decide +kernel)
theorem allAtoms_all (ts : List Jvm.Cond) (a : Array Jvm.Value) (st : Jvm.State) : (allAtoms ts).before a st = ts.all (fun c => c.before a st) := by
  induction ts with
  | nil => rfl
  | cons c t ih =>
    show (Jvm.Cond.and c (allAtoms t)).before a st = _
    rw [Jvm.Cond.before_and, ih, List.all_cons]
def words1 : List Jvm.Cond := Jvm.Cond.code x code maxLocals ret :: tables_1
/-- a 'code' word, met by the world's own term for the bytes: nothing is compared byte by byte -/
theorem code_word {y : MethodName} {bytes : ByteArray} {mx : Nat} {rt : Option FieldType} {a : Array Value} {s : State} {m : MethodId} {meth : Method} {c : Code} (h1 : s.methodNamed? y = some m) (h2 : s.vm.method? m = some meth) (h3 : meth.code = some c) (h4 : c.code = bytes)
    (h5 : (c.maxLocals == mx && c.exceptionTable.isEmpty && decide (c.maxStack ≤ mostOperands) && decide (meth.sig.returnType = rt) && !meth.locks && decide (parseMethodDescriptor y.desc = some meth.sig)) = true) : (Jvm.Cond.code y bytes mx rt).before a s = true := by
  simp only [Bool.and_eq_true, beq_iff_eq, Bool.not_eq_true', decide_eq_true_eq] at h5
  obtain ⟨⟨⟨⟨⟨g1, g2⟩, g3⟩, g4⟩, g5⟩, g6⟩ := h5
  simp [Cond.before, Cond.holds, Cond.value, h1, h2, h3, h4, g1, g2, g3, g4, g5, g6]
def isCode : Jvm.Cond → Bool
  | .code _ _ _ _ => true
  | _ => false
theorem all_split {L : List Jvm.Cond} {P : Jvm.Cond → Bool} (h1 : L.all (fun c => isCode c || P c) = true) (h2 : ∀ c ∈ L.filter isCode, P c = true) : L.all P = true := by
  refine List.all_eq_true.mpr fun c hc => ?_
  have h := List.all_eq_true.mp h1 c hc
  rcases Bool.eq_false_or_eq_true (isCode c) with hi | hi
  · exact h2 c (List.mem_filter.mpr ⟨hc, hi⟩)
  · simpa [hi] using h
set_option maxRecDepth 65536 in
theorem w_c0 : (Jvm.Cond.code x code maxLocals ret).before args0 about1 = true := code_word (m := ⟨1, 3⟩) (meth := k1m3) (c := k1c3) (by decide +kernel) rfl rfl rfl (by decide +kernel)
set_option maxRecDepth 65536 in
theorem w_c1 : (Jvm.Cond.code ({ cls := "com/example/oref/oref/wikipedia/MatchesEndFromPinLaw", name := "ch", desc := "(JIZ)C" } : Jvm.MethodName) method_2_code (4 : Nat) (Option.some Jvm.ClassFile.FieldType.char)).before args0 about1 = true := code_word (m := ⟨1, 1⟩) (meth := k1m1) (c := k1c1) (by decide +kernel) rfl rfl rfl (by decide +kernel)
set_option maxRecDepth 65536 in
theorem w_c2 : (Jvm.Cond.code ({ cls := "java/lang/String", name := "<init>", desc := "([C)V" } : Jvm.MethodName) jdk_42_method_3_code (2 : Nat) (Option.none : Option Jvm.ClassFile.FieldType)).before args0 about1 = true := code_word (m := ⟨7, 1⟩) (meth := k7m1) (c := k7c1) (by decide +kernel) rfl rfl rfl (by decide +kernel)
set_option maxRecDepth 65536 in
theorem w_c3 : (Jvm.Cond.code ({ cls := "java/lang/String", name := "<init>", desc := "([CIILjava/lang/Void;)V" } : Jvm.MethodName) jdk_42_method_149_code (6 : Nat) (Option.none : Option Jvm.ClassFile.FieldType)).before args0 about1 = true := code_word (m := ⟨7, 6⟩) (meth := k7m6) (c := k7c6) (by decide +kernel) rfl rfl rfl (by decide +kernel)
set_option maxRecDepth 65536 in
theorem w_c4 : (Jvm.Cond.code ({ cls := "java/lang/Object", name := "<init>", desc := "()V" } : Jvm.MethodName) object_method_1_code (1 : Nat) (Option.none : Option Jvm.ClassFile.FieldType)).before args0 about1 = true := code_word (m := ⟨0, 0⟩) (meth := k0m0) (c := k0c0) (by decide +kernel) rfl rfl rfl (by decide +kernel)
set_option maxRecDepth 65536 in
theorem w_c5 : (Jvm.Cond.code ({ cls := "java/lang/StringUTF16", name := "compress", desc := "([CII)[B" } : Jvm.MethodName) jdk_52_method_16_code (6 : Nat) (Option.some (Jvm.ClassFile.FieldType.array Jvm.ClassFile.FieldType.byte))).before args0 about1 = true := code_word (m := ⟨8, 2⟩) (meth := k8m2) (c := k8c2) (by decide +kernel) rfl rfl rfl (by decide +kernel)
set_option maxRecDepth 65536 in
theorem w_c6 : (Jvm.Cond.code ({ cls := "java/lang/StringUTF16", name := "compress", desc := "([CI[BII)I" } : Jvm.MethodName) jdk_52_method_21_code (7 : Nat) (Option.some Jvm.ClassFile.FieldType.int)).before args0 about1 = true := code_word (m := ⟨8, 3⟩) (meth := k8m3) (c := k8c3) (by decide +kernel) rfl rfl rfl (by decide +kernel)
set_option maxRecDepth 65536 in
theorem w_c7 : (Jvm.Cond.code ({ cls := "java/lang/StringUTF16", name := "coderFromArrayLen", desc := "([BI)B" } : Jvm.MethodName) jdk_52_method_15_code (2 : Nat) (Option.some Jvm.ClassFile.FieldType.byte)).before args0 about1 = true := code_word (m := ⟨8, 1⟩) (meth := k8m1) (c := k8c1) (by decide +kernel) rfl rfl rfl (by decide +kernel)
set_option maxRecDepth 65536 in
theorem w_c8 : (Jvm.Cond.code ({ cls := "com/example/oref/oref/wikipedia/Matches", name := "<init>", desc := "(Ljava/lang/String;Ljava/lang/String;)V" } : Jvm.MethodName) prog_29_method_2_code (4 : Nat) (Option.none : Option Jvm.ClassFile.FieldType)).before args0 about1 = true := code_word (m := ⟨9, 0⟩) (meth := k9m0) (c := k9c0) (by decide +kernel) rfl rfl rfl (by decide +kernel)
set_option maxRecDepth 65536 in
theorem w_c9 : (Jvm.Cond.code ({ cls := "java/lang/String", name := "indexOf", desc := "(Ljava/lang/String;)I" } : Jvm.MethodName) jdk_42_method_84_code (3 : Nat) (Option.some Jvm.ClassFile.FieldType.int)).before args0 about1 = true := code_word (m := ⟨7, 3⟩) (meth := k7m3) (c := k7c3) (by decide +kernel) rfl rfl rfl (by decide +kernel)
set_option maxRecDepth 65536 in
theorem w_c10 : (Jvm.Cond.code ({ cls := "java/lang/String", name := "coder", desc := "()B" } : Jvm.MethodName) jdk_42_method_152_code (1 : Nat) (Option.some Jvm.ClassFile.FieldType.byte)).before args0 about1 = true := code_word (m := ⟨7, 7⟩) (meth := k7m7) (c := k7c7) (by decide +kernel) rfl rfl rfl (by decide +kernel)
set_option maxRecDepth 65536 in
theorem w_c11 : (Jvm.Cond.code ({ cls := "java/lang/String", name := "isLatin1", desc := "()Z" } : Jvm.MethodName) jdk_42_method_154_code (1 : Nat) (Option.some Jvm.ClassFile.FieldType.boolean)).before args0 about1 = true := code_word (m := ⟨7, 8⟩) (meth := k7m8) (c := k7c8) (by decide +kernel) rfl rfl rfl (by decide +kernel)
set_option maxRecDepth 65536 in
theorem w_c12 : (Jvm.Cond.code ({ cls := "java/lang/StringLatin1", name := "indexOf", desc := "([B[B)I" } : Jvm.MethodName) jdk_43_method_24_code (2 : Nat) (Option.some Jvm.ClassFile.FieldType.int)).before args0 about1 = true := code_word (m := ⟨10, 1⟩) (meth := k10m1) (c := k10c1) (by decide +kernel) rfl rfl rfl (by decide +kernel)
set_option maxRecDepth 65536 in
theorem w_c13 : (Jvm.Cond.code ({ cls := "java/lang/StringLatin1", name := "indexOf", desc := "([BI[BII)I" } : Jvm.MethodName) jdk_43_method_25_code (11 : Nat) (Option.some Jvm.ClassFile.FieldType.int)).before args0 about1 = true := code_word (m := ⟨10, 2⟩) (meth := k10m2) (c := k10c2) (by decide +kernel) rfl rfl rfl (by decide +kernel)
set_option maxRecDepth 65536 in
theorem w_c14 : (Jvm.Cond.code ({ cls := "com/example/oref/oref/wikipedia/MatchesEndFromPinLaw", name := "occ", desc := "([C[CI)Z" } : Jvm.MethodName) method_3_code (3 : Nat) (Option.some Jvm.ClassFile.FieldType.boolean)).before args0 about1 = true := code_word (m := ⟨1, 2⟩) (meth := k1m2) (c := k1c2) (by decide +kernel) rfl rfl rfl (by decide +kernel)
set_option maxRecDepth 65536 in
theorem w_c15 : (Jvm.Cond.code ({ cls := "com/example/oref/oref/wikipedia/Matches", name := "endFrom", desc := "(I)I" } : Jvm.MethodName) prog_29_method_5_code (3 : Nat) (Option.some Jvm.ClassFile.FieldType.int)).before args0 about1 = true := code_word (m := ⟨9, 2⟩) (meth := k9m2) (c := k9c2) (by decide +kernel) rfl rfl rfl (by decide +kernel)
set_option maxRecDepth 65536 in
theorem w_c16 : (Jvm.Cond.code ({ cls := "com/example/oref/oref/wikipedia/Matches", name := "firstFrom", desc := "(I)I" } : Jvm.MethodName) prog_29_method_6_code (3 : Nat) (Option.some Jvm.ClassFile.FieldType.int)).before args0 about1 = true := code_word (m := ⟨9, 3⟩) (meth := k9m3) (c := k9c3) (by decide +kernel) rfl rfl rfl (by decide +kernel)
set_option maxRecDepth 65536 in
theorem w_c17 : (Jvm.Cond.code ({ cls := "java/util/Arrays", name := "binarySearch", desc := "([IIII)I" } : Jvm.MethodName) jdk_65_method_58_code (4 : Nat) (Option.some Jvm.ClassFile.FieldType.int)).before args0 about1 = true := code_word (m := ⟨11, 2⟩) (meth := k11m2) (c := k11c2) (by decide +kernel) rfl rfl rfl (by decide +kernel)
set_option maxRecDepth 65536 in
theorem w_c18 : (Jvm.Cond.code ({ cls := "java/util/Arrays", name := "rangeCheck", desc := "(III)V" } : Jvm.MethodName) jdk_65_method_30_code (3 : Nat) (Option.none : Option Jvm.ClassFile.FieldType)).before args0 about1 = true := code_word (m := ⟨11, 1⟩) (meth := k11m1) (c := k11c1) (by decide +kernel) rfl rfl rfl (by decide +kernel)
set_option maxRecDepth 65536 in
theorem w_c19 : (Jvm.Cond.code ({ cls := "java/util/Arrays", name := "binarySearch0", desc := "([IIII)I" } : Jvm.MethodName) jdk_65_method_59_code (8 : Nat) (Option.some Jvm.ClassFile.FieldType.int)).before args0 about1 = true := code_word (m := ⟨11, 3⟩) (meth := k11m3) (c := k11c3) (by decide +kernel) rfl rfl rfl (by decide +kernel)
set_option maxRecDepth 65536 in
theorem w_c20 : (Jvm.Cond.code ({ cls := "java/lang/String", name := "length", desc := "()I" } : Jvm.MethodName) jdk_42_method_54_code (1 : Nat) (Option.some Jvm.ClassFile.FieldType.int)).before args0 about1 = true := code_word (m := ⟨7, 2⟩) (meth := k7m2) (c := k7c2) (by decide +kernel) rfl rfl rfl (by decide +kernel)
set_option maxRecDepth 65536 in
theorem w_c21 : (Jvm.Cond.code ({ cls := "com/example/oref/oref/wikipedia/Matches", name := "add", desc := "(II)V" } : Jvm.MethodName) prog_29_method_3_code (3 : Nat) (Option.none : Option Jvm.ClassFile.FieldType)).before args0 about1 = true := code_word (m := ⟨9, 1⟩) (meth := k9m1) (c := k9c1) (by decide +kernel) rfl rfl rfl (by decide +kernel)
set_option maxRecDepth 65536 in
theorem w_c22 : (Jvm.Cond.code ({ cls := "java/lang/String", name := "indexOf", desc := "(Ljava/lang/String;I)I" } : Jvm.MethodName) jdk_42_method_85_code (3 : Nat) (Option.some Jvm.ClassFile.FieldType.int)).before args0 about1 = true := code_word (m := ⟨7, 4⟩) (meth := k7m4) (c := k7c4) (by decide +kernel) rfl rfl rfl (by decide +kernel)
set_option maxRecDepth 65536 in
theorem w_c23 : (Jvm.Cond.code ({ cls := "java/lang/String", name := "indexOf", desc := "([BBILjava/lang/String;I)I" } : Jvm.MethodName) jdk_42_method_87_code (8 : Nat) (Option.some Jvm.ClassFile.FieldType.int)).before args0 about1 = true := code_word (m := ⟨7, 5⟩) (meth := k7m5) (c := k7c5) (by decide +kernel) rfl rfl rfl (by decide +kernel)
set_option maxRecDepth 65536 in
theorem w_c24 : (Jvm.Cond.code ({ cls := "java/lang/Math", name := "clamp", desc := "(JII)I" } : Jvm.MethodName) jdk_29_method_73_code (4 : Nat) (Option.some Jvm.ClassFile.FieldType.int)).before args0 about1 = true := code_word (m := ⟨12, 3⟩) (meth := k12m3) (c := k12c3) (by decide +kernel) rfl rfl rfl (by decide +kernel)
set_option maxRecDepth 65536 in
theorem w_c25 : (Jvm.Cond.code ({ cls := "java/lang/Math", name := "max", desc := "(JJ)J" } : Jvm.MethodName) jdk_29_method_66_code (4 : Nat) (Option.some Jvm.ClassFile.FieldType.long)).before args0 about1 = true := code_word (m := ⟨12, 1⟩) (meth := k12m1) (c := k12c1) (by decide +kernel) rfl rfl rfl (by decide +kernel)
set_option maxRecDepth 65536 in
theorem w_c26 : (Jvm.Cond.code ({ cls := "java/lang/Math", name := "min", desc := "(JJ)J" } : Jvm.MethodName) jdk_29_method_70_code (4 : Nat) (Option.some Jvm.ClassFile.FieldType.long)).before args0 about1 = true := code_word (m := ⟨12, 2⟩) (meth := k12m2) (c := k12c2) (by decide +kernel) rfl rfl rfl (by decide +kernel)
def codes1 : List Jvm.Cond := [Jvm.Cond.code x code maxLocals ret, Jvm.Cond.code ({ cls := "com/example/oref/oref/wikipedia/MatchesEndFromPinLaw", name := "ch", desc := "(JIZ)C" } : Jvm.MethodName) method_2_code (4 : Nat) (Option.some Jvm.ClassFile.FieldType.char), Jvm.Cond.code ({ cls := "java/lang/String", name := "<init>", desc := "([C)V" } : Jvm.MethodName) jdk_42_method_3_code (2 : Nat) (Option.none : Option Jvm.ClassFile.FieldType), Jvm.Cond.code ({ cls := "java/lang/String", name := "<init>", desc := "([CIILjava/lang/Void;)V" } : Jvm.MethodName) jdk_42_method_149_code (6 : Nat) (Option.none : Option Jvm.ClassFile.FieldType), Jvm.Cond.code ({ cls := "java/lang/Object", name := "<init>", desc := "()V" } : Jvm.MethodName) object_method_1_code (1 : Nat) (Option.none : Option Jvm.ClassFile.FieldType), Jvm.Cond.code ({ cls := "java/lang/StringUTF16", name := "compress", desc := "([CII)[B" } : Jvm.MethodName) jdk_52_method_16_code (6 : Nat) (Option.some (Jvm.ClassFile.FieldType.array Jvm.ClassFile.FieldType.byte)), Jvm.Cond.code ({ cls := "java/lang/StringUTF16", name := "compress", desc := "([CI[BII)I" } : Jvm.MethodName) jdk_52_method_21_code (7 : Nat) (Option.some Jvm.ClassFile.FieldType.int), Jvm.Cond.code ({ cls := "java/lang/StringUTF16", name := "coderFromArrayLen", desc := "([BI)B" } : Jvm.MethodName) jdk_52_method_15_code (2 : Nat) (Option.some Jvm.ClassFile.FieldType.byte), Jvm.Cond.code ({ cls := "com/example/oref/oref/wikipedia/Matches", name := "<init>", desc := "(Ljava/lang/String;Ljava/lang/String;)V" } : Jvm.MethodName) prog_29_method_2_code (4 : Nat) (Option.none : Option Jvm.ClassFile.FieldType), Jvm.Cond.code ({ cls := "java/lang/String", name := "indexOf", desc := "(Ljava/lang/String;)I" } : Jvm.MethodName) jdk_42_method_84_code (3 : Nat) (Option.some Jvm.ClassFile.FieldType.int), Jvm.Cond.code ({ cls := "java/lang/String", name := "coder", desc := "()B" } : Jvm.MethodName) jdk_42_method_152_code (1 : Nat) (Option.some Jvm.ClassFile.FieldType.byte), Jvm.Cond.code ({ cls := "java/lang/String", name := "isLatin1", desc := "()Z" } : Jvm.MethodName) jdk_42_method_154_code (1 : Nat) (Option.some Jvm.ClassFile.FieldType.boolean), Jvm.Cond.code ({ cls := "java/lang/StringLatin1", name := "indexOf", desc := "([B[B)I" } : Jvm.MethodName) jdk_43_method_24_code (2 : Nat) (Option.some Jvm.ClassFile.FieldType.int), Jvm.Cond.code ({ cls := "java/lang/StringLatin1", name := "indexOf", desc := "([BI[BII)I" } : Jvm.MethodName) jdk_43_method_25_code (11 : Nat) (Option.some Jvm.ClassFile.FieldType.int), Jvm.Cond.code ({ cls := "com/example/oref/oref/wikipedia/MatchesEndFromPinLaw", name := "occ", desc := "([C[CI)Z" } : Jvm.MethodName) method_3_code (3 : Nat) (Option.some Jvm.ClassFile.FieldType.boolean), Jvm.Cond.code ({ cls := "com/example/oref/oref/wikipedia/Matches", name := "endFrom", desc := "(I)I" } : Jvm.MethodName) prog_29_method_5_code (3 : Nat) (Option.some Jvm.ClassFile.FieldType.int), Jvm.Cond.code ({ cls := "com/example/oref/oref/wikipedia/Matches", name := "firstFrom", desc := "(I)I" } : Jvm.MethodName) prog_29_method_6_code (3 : Nat) (Option.some Jvm.ClassFile.FieldType.int), Jvm.Cond.code ({ cls := "java/util/Arrays", name := "binarySearch", desc := "([IIII)I" } : Jvm.MethodName) jdk_65_method_58_code (4 : Nat) (Option.some Jvm.ClassFile.FieldType.int), Jvm.Cond.code ({ cls := "java/util/Arrays", name := "rangeCheck", desc := "(III)V" } : Jvm.MethodName) jdk_65_method_30_code (3 : Nat) (Option.none : Option Jvm.ClassFile.FieldType), Jvm.Cond.code ({ cls := "java/util/Arrays", name := "binarySearch0", desc := "([IIII)I" } : Jvm.MethodName) jdk_65_method_59_code (8 : Nat) (Option.some Jvm.ClassFile.FieldType.int), Jvm.Cond.code ({ cls := "java/lang/String", name := "length", desc := "()I" } : Jvm.MethodName) jdk_42_method_54_code (1 : Nat) (Option.some Jvm.ClassFile.FieldType.int), Jvm.Cond.code ({ cls := "com/example/oref/oref/wikipedia/Matches", name := "add", desc := "(II)V" } : Jvm.MethodName) prog_29_method_3_code (3 : Nat) (Option.none : Option Jvm.ClassFile.FieldType), Jvm.Cond.code ({ cls := "java/lang/String", name := "indexOf", desc := "(Ljava/lang/String;I)I" } : Jvm.MethodName) jdk_42_method_85_code (3 : Nat) (Option.some Jvm.ClassFile.FieldType.int), Jvm.Cond.code ({ cls := "java/lang/String", name := "indexOf", desc := "([BBILjava/lang/String;I)I" } : Jvm.MethodName) jdk_42_method_87_code (8 : Nat) (Option.some Jvm.ClassFile.FieldType.int), Jvm.Cond.code ({ cls := "java/lang/Math", name := "clamp", desc := "(JII)I" } : Jvm.MethodName) jdk_29_method_73_code (4 : Nat) (Option.some Jvm.ClassFile.FieldType.int), Jvm.Cond.code ({ cls := "java/lang/Math", name := "max", desc := "(JJ)J" } : Jvm.MethodName) jdk_29_method_66_code (4 : Nat) (Option.some Jvm.ClassFile.FieldType.long), Jvm.Cond.code ({ cls := "java/lang/Math", name := "min", desc := "(JJ)J" } : Jvm.MethodName) jdk_29_method_70_code (4 : Nat) (Option.some Jvm.ClassFile.FieldType.long)]
set_option maxRecDepth 65536 in
theorem codes_eq : words1.filter isCode = codes1 := rfl
theorem w_codes : ∀ c ∈ words1.filter isCode, c.before args0 about1 = true := by
  rw [codes_eq]
  intro c hc
  simp only [codes1, List.mem_cons, List.not_mem_nil, or_false] at hc
  rcases hc with rfl | rfl | rfl | rfl | rfl | rfl | rfl | rfl | rfl | rfl | rfl | rfl | rfl | rfl | rfl | rfl | rfl | rfl | rfl | rfl | rfl | rfl | rfl | rfl | rfl | rfl | rfl
  · exact w_c0
  · exact w_c1
  · exact w_c2
  · exact w_c3
  · exact w_c4
  · exact w_c5
  · exact w_c6
  · exact w_c7
  · exact w_c8
  · exact w_c9
  · exact w_c10
  · exact w_c11
  · exact w_c12
  · exact w_c13
  · exact w_c14
  · exact w_c15
  · exact w_c16
  · exact w_c17
  · exact w_c18
  · exact w_c19
  · exact w_c20
  · exact w_c21
  · exact w_c22
  · exact w_c23
  · exact w_c24
  · exact w_c25
  · exact w_c26
set_option maxRecDepth 65536 in
theorem w_t1 : (words1.take 24).all (fun c => isCode c || c.before args0 about1) = true := by decide +kernel
set_option maxRecDepth 65536 in
theorem w_t2 : ((words1.drop 24).take 24).all (fun c => isCode c || c.before args0 about1) = true := by decide +kernel
set_option maxRecDepth 65536 in
theorem w_t3 : (((words1.drop 24).drop 24).take 24).all (fun c => isCode c || c.before args0 about1) = true := by decide +kernel
set_option maxRecDepth 65536 in
theorem w_t4 : ((((words1.drop 24).drop 24).drop 24).take 24).all (fun c => isCode c || c.before args0 about1) = true := by decide +kernel
set_option maxRecDepth 65536 in
theorem w_t5 : (((((words1.drop 24).drop 24).drop 24).drop 24).take 24).all (fun c => isCode c || c.before args0 about1) = true := by decide +kernel
set_option maxRecDepth 65536 in
theorem w_t6 : (((((words1.drop 24).drop 24).drop 24).drop 24).drop 24).all (fun c => isCode c || c.before args0 about1) = true := by decide +kernel
theorem w_tables : (allAtoms (Jvm.Cond.code x code maxLocals ret :: tables_1)).before args0 about1 = true := by
  rw [allAtoms_all]
  show words1.all (fun c => c.before args0 about1) = true
  refine all_split ?_ w_codes
  rw [← List.take_append_drop 24 words1, List.all_append, w_t1, ← List.take_append_drop 24 (words1.drop 24), List.all_append, w_t2, ← List.take_append_drop 24 ((words1.drop 24).drop 24), List.all_append, w_t3, ← List.take_append_drop 24 (((words1.drop 24).drop 24).drop 24), List.all_append, w_t4, ← List.take_append_drop 24 ((((words1.drop 24).drop 24).drop 24).drop 24), List.all_append, w_t5, w_t6]
  rfl
set_option maxRecDepth 65536 in
theorem w_rest : rest_1_c.before args0 about1 = true := by decide +kernel
set_option maxRecDepth 65536 in
theorem w_case : (Jvm.Cond.and given_1 narrow_1).before args0 about1 = true := by decide +kernel
theorem w_applies : (headSpec (Jvm.Cond.code x code maxLocals ret :: tables_1) room_1).applies x e0.platform about1 = true :=
  (Spec.applies_iff w_frames).mpr ⟨w_running, w_runnable, w_alone, w_named, w_hears, w_ripe, w_room, w_tables⟩
theorem atStart : AtStart classFile x code maxLocals ret World_1 tables_1 room_1 Calls_1 rest_1 Pre_1 launch0 p0 e0 about1 theMethod args0 below0 :=
  ⟨lists_1, trivial, launch0.admits_env _ _ _, launch0.least_env, fairChoices_fair.cas, fairChoices_fair.clock, w_frames, w_args, w_heap, w_applies, trivial, w_rest, w_case⟩
end start1
theorem witness_1 : WitnessClaimed_1 := ⟨start1.p0, start1.e0, start1.about1, start1.theMethod, start1.args0, start1.below0, start1.atStart⟩
end Jvm.Pilot.@@N@@
