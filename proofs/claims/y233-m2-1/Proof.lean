import JvmDerived
import JvmDerived.Pilot.@@N@@Statement
import JvmDerived.Pilot.@@N@@Code
set_option linter.unusedVariables false
set_option linter.unusedSimpArgs false
/- laws to paste: Road.backV, Road.lenW, Road.chN, Road.codOf, pair_says, shr0, shr1 (cut by pick.py; bodies as the Statement names them) -/
namespace Jvm.Pilot.@@N@@
namespace StrChars
open Jvm Sem ClassFile Op Lib Jvm.Stand Jvm.Free.XT Jvm.Free.ALB Jvm.Free.JM Jvm.Free
open Jvm.Lib.Cold (StaticIs)
/-- a char array whose places are chars -/
def Ch (a : Addr) (A : Cell) (U : State) : Prop := Arr .char a A U ∧ Typed .char A
theorem Ch.mv {a : Addr} {A : Cell} {U U' : State} (h : Ch a A U) (hal : U.vm.Alike U'.vm) (hh : U'.heap = U.heap) : Ch a A U' := ⟨h.1.mv hal hh, h.2⟩
theorem Ch.keep {a : Addr} {A : Cell} {U U' : State} (h : Ch a A U) (hal : U.vm.Alike U'.vm) (hk : U'.heap[a]? = some A) : Ch a A U' := ⟨h.1.keep hal hk, h.2⟩
/-- what place i of a char[]'s cell holds -/
def cv (A : Cell) (i : Nat) : Int32 := match A.slots[i]? with | some (.int x) => x | _ => 0
theorem Ch.get {a : Addr} {A : Cell} {U : State} (h : Ch a A U) {i : Nat} (hi : i < A.slots.size) : A.slots[i]? = some (.int (cv A i)) := by
  have e := Array.getElem?_eq_getElem hi
  have f := h.2 i _ e
  unfold cv; rw [e]
  generalize A.slots[i] = v at f
  cases v <;> simp [fits] at f ⊢
/-- the byte that i2b leaves of a char -/
def lo8 (x : Int32) : Int32 := x.toInt8.toInt32
theorem fits_lo8 (y : Int32) : fits .byte (.int (lo8 y)) = true := by
  have h1 := y.toInt8.le_toInt
  have h2 := y.toInt8.toInt_lt
  simp only [lo8, fits, Bool.and_eq_true, decide_eq_true_eq, Int32.le_iff_toInt_le, Int8.toInt_toInt32, show (-128 : Int32).toInt = -128 from by decide, show (127 : Int32).toInt = 127 from by decide]
  omega
/-- A' is A but that each place j of lo .. hi - 1 holds f j -/
def Laid (A A' : Cell) (lo hi : Nat) (f : Nat → Value) : Prop := A'.cls = A.cls ∧ A'.vm = A.vm ∧ A'.slots.size = A.slots.size ∧ ∀ i, A'.slots[i]? = if lo ≤ i ∧ i < hi then some (f i) else A.slots[i]?
theorem Laid.zero (A : Cell) (lo : Nat) (f : Nat → Value) : Laid A A lo (lo + 0) f := ⟨rfl, rfl, rfl, fun i => by rw [if_neg (by omega)]⟩
theorem Laid.step {A Ak : Cell} {lo k : Nat} {f : Nat → Value} {v : Value} (h : Laid A Ak lo k f) (hlo : lo ≤ k) (hk : k < Ak.slots.size) (hv : v = f k) : Laid A (Ak.setSlot k v) lo (k + 1) f := by
  refine ⟨h.1, h.2.1, by simpa [Cell.setSlot] using h.2.2.1, fun i => ?_⟩
  by_cases e : k = i
  · subst e; rw [Cell.slots_setSlot_self v hk, if_pos (by omega), hv]
  · rw [Cell.slots_setSlot_ne v e, h.2.2.2 i]
    by_cases q : lo ≤ i ∧ i < k
    · rw [if_pos q, if_pos (by omega)]
    · rw [if_neg q, if_neg (by omega)]
def U16 : String := "java/lang/StringUTF16"
namespace Cmp5
def yN : MethodName := ⟨"java/lang/StringUTF16", "compress", "([CI[BII)I"⟩
abbrev yB : ByteArray := jdk_52_method_21_code
theorem d0 : decode yB 0 = .ok (.iconst 0, 1) := by decide +kernel
theorem d1 : decode yB 1 = .ok (.istore 5, 2) := by decide +kernel
theorem d3 : decode yB 3 = .ok (.iload 5, 2) := by decide +kernel
theorem d5 : decode yB 5 = .ok (.iload 4, 2) := by decide +kernel
theorem d7 : decode yB 7 = .ok (.if_icmp (.ge) 37, 3) := by decide +kernel
theorem d10 : decode yB 10 = .ok (.aload_n 0, 1) := by decide +kernel
theorem d11 : decode yB 11 = .ok (.iload_n 1, 1) := by decide +kernel
theorem d12 : decode yB 12 = .ok (.caload, 1) := by decide +kernel
theorem d13 : decode yB 13 = .ok (.istore 6, 2) := by decide +kernel
theorem d15 : decode yB 15 = .ok (.iload 6, 2) := by decide +kernel
theorem d17 : decode yB 17 = .ok (.sipush 255, 3) := by decide +kernel
theorem d20 : decode yB 20 = .ok (.if_icmp (.le) 6, 3) := by decide +kernel
theorem d26 : decode yB 26 = .ok (.aload_n 2, 1) := by decide +kernel
theorem d27 : decode yB 27 = .ok (.iload_n 3, 1) := by decide +kernel
theorem d28 : decode yB 28 = .ok (.iload 6, 2) := by decide +kernel
theorem d30 : decode yB 30 = .ok (.i2b, 1) := by decide +kernel
theorem d31 : decode yB 31 = .ok (.bastore, 1) := by decide +kernel
theorem d32 : decode yB 32 = .ok (.iinc 1 1, 3) := by decide +kernel
theorem d35 : decode yB 35 = .ok (.iinc 3 1, 3) := by decide +kernel
theorem d38 : decode yB 38 = .ok (.iinc 5 1, 3) := by decide +kernel
theorem d41 : decode yB 41 = .ok (.goto (-38), 3) := by decide +kernel
theorem d44 : decode yB 44 = .ok (.iload 4, 2) := by decide +kernel
theorem d46 : decode yB 46 = .ok (.ireturn, 1) := by decide +kernel
def site : List Cond := []
def tab : Cond := tabOf yN yB 7 (some .int) site
def P (b : Addr) (A : Cell) (d : Addr) (B : Cell) (o q len : Nat) (args : Array Value) (s : State) : Prop := args = #[.ref b, .int (Int32.ofNat o), .ref d, .int (Int32.ofNat q), .int (Int32.ofNat len)] ∧ Ch b A s ∧ Arr .byte d B s ∧ b ≠ d ∧ o + len ≤ A.slots.size ∧ q + len ≤ B.slots.size ∧ ∀ i, i < len → ¬ 255 < cv A (o + i)
def E (b : Addr) (A : Cell) (d : Addr) (B : Cell) (o q len : Nat) (r : Option Value) (s u : State) : Prop := r = some (.int (Int32.ofNat len)) ∧ ∃ B', Put d B' s u ∧ Laid B B' q (q + len) (fun j => Value.int (lo8 (cv A (o + (j - q)))))
/-- no char of the range above 255: len; the places written hold each char's low byte -/
theorem law (l : Launch) (b : Addr) (A : Cell) (d : Addr) (B : Cell) (o q len : Nat) : Law l yN 5 5 0 0 yB 7 (some .int) site (P b A d B o q len) (E b A d B o q len) (copyLocs d q len) 0 0 := by
  refine Law.of_walk (plainFor_of_name (by decide +kernel)) (by decide +kernel) (by decide +kernel) (by decide) (fun _ _ h => by rw [h.1]; rfl) (fun _ U U' hal hh h => ⟨h.1, h.2.1.mv hal hh, h.2.2.1.mv hal hh, h.2.2.2⟩) (fun r U U' V V' h1 hal h2 h => ⟨h.1, h.2.elim fun B' q => ⟨B', q.1.mv h1 h2, q.2⟩⟩) ?_
  intro p e s m args below meth c s₁ X0 hexec hbytes hml hret hlk hnm hown hh0 W hP
  obtain ⟨rfl, hA, hB, hne, l1, l2, hp⟩ := hP
  have c1 : Steps p.tables e below (s₁.setTop (entryFrame m #[.ref b, .int (Int32.ofNat o), .ref d, .int (Int32.ofNat q), .int (Int32.ofNat len)] 7)) (s₁.setTop (mkF m 0 #[.val (.ref b), .val (.int (Int32.ofNat o)), .val (.ref d), .val (.int (Int32.ofNat q)), .val (.int (Int32.ofNat len)), .unset, .unset] [])) := entry rfl
  have hA0 := hA.1.mv X0.warmed.alike hh0
  have hB0 := hB.mv X0.warmed.alike hh0
  have a31 := hA.1.2.2.2
  have c2 : Steps p.tables e below (s₁.setTop (entryFrame m #[.ref b, .int (Int32.ofNat o), .ref d, .int (Int32.ofNat q), .int (Int32.ofNat len)] 7)) (s₁.setTop (mkF m 3 #[.val (.ref b), .val (.int (Int32.ofNat o)), .val (.ref d), .val (.int (Int32.ofNat q)), .val (.int (Int32.ofNat len)), .val (.int 0), .unset] [])) := c1.trans (by
    refine iconstV X0.here hexec rfl 0 (hb hbytes d0) (by decide) ?_
    refine XS.istore X0.here hexec rfl (hb hbytes d1) rfl rfl ?_
    exact Steps.refl _)
  have loop : ∀ (r i : Nat), i + r = len → ∀ (z : Slot), (z = .unset ∨ ∃ w, z = .val w ∧ w.category = 1) → ∀ (Tl : State) (Bk : Cell), Stand p l e { frames := 0, locals := 0, cells := 0, slots := 0 } s m #[.ref b, .int (Int32.ofNat o), .ref d, .int (Int32.ofNat q), .int (Int32.ofNat len)] below meth c Tl ([] ++ copyLocs d q i) 0 0 → Put d Bk s₁ Tl → Laid B Bk q (q + i) (fun j => Value.int (lo8 (cv A (o + (j - q))))) →
      Steps p.tables e below (s₁.setTop (entryFrame m #[.ref b, .int (Int32.ofNat o), .ref d, .int (Int32.ofNat q), .int (Int32.ofNat len)] 7)) (Tl.setTop (mkF m 3 #[.val (.ref b), .val (.int (Int32.ofNat (o + i))), .val (.ref d), .val (.int (Int32.ofNat (q + i))), .val (.int (Int32.ofNat len)), .val (.int (Int32.ofNat i)), z] [])) → ∃ (T' : State) (B' : Cell) (z' : Slot), Stand p l e { frames := 0, locals := 0, cells := 0, slots := 0 } s m #[.ref b, .int (Int32.ofNat o), .ref d, .int (Int32.ofNat q), .int (Int32.ofNat len)] below meth c T' ([] ++ copyLocs d q len) 0 0 ∧ Put d B' s₁ T' ∧ Laid B B' q (q + len) (fun j => Value.int (lo8 (cv A (o + (j - q))))) ∧
      Steps p.tables e below (s₁.setTop (entryFrame m #[.ref b, .int (Int32.ofNat o), .ref d, .int (Int32.ofNat q), .int (Int32.ofNat len)] 7)) (T'.setTop (mkF m 3 #[.val (.ref b), .val (.int (Int32.ofNat (o + len))), .val (.ref d), .val (.int (Int32.ofNat (q + len))), .val (.int (Int32.ofNat len)), .val (.int (Int32.ofNat len)), z'] [])) := by
    intro r
    induction r with
    | zero =>
      intro i hi z hz Tl Bk Xl pl fl cl
      have hil : i = len := by omega
      rw [hil] at Xl fl cl
      exact ⟨Tl, Bk, z, Xl, pl, fl, cl⟩
    | succ r ih =>
      intro i hi z hz Tl Bk Xl pl fl cl
      have all := X0.warmed.alike.symm.trans Xl.warmed.alike
      have hAl := hA0.keep all (pl.other hne hA0.1)
      have hBk := hB0.like all pl.1 fl.1 fl.2.1 fl.2.2.1
      have hlt : q + i < Bk.slots.size := by rw [fl.2.2.1]; omega
      have c3 : Steps p.tables e below (s₁.setTop (entryFrame m #[.ref b, .int (Int32.ofNat o), .ref d, .int (Int32.ofNat q), .int (Int32.ofNat len)] 7)) (Tl.setTop (mkF m 12 #[.val (.ref b), .val (.int (Int32.ofNat (o + i))), .val (.ref d), .val (.int (Int32.ofNat (q + i))), .val (.int (Int32.ofNat len)), .val (.int (Int32.ofNat i)), z] [.int (Int32.ofNat (o + i)), .ref b])) := cl.trans (by
        refine XS.iload Xl.here hexec rfl (hb hbytes d3) rfl ?_
        refine XS.iload Xl.here hexec rfl (hb hbytes d5) rfl ?_
        refine XS.icmpNo Xl.here hexec rfl (hb hbytes d7) rfl (ii_ge_f (lt32 (by omega) (by omega))) ?_
        refine XS.aloadN Xl.here hexec rfl (hb hbytes d10) rfl rfl ?_
        refine XS.iloadN Xl.here hexec rfl (hb hbytes d11) rfl ?_
        exact Steps.refl _)
      have c4 : Steps p.tables e below (s₁.setTop (entryFrame m #[.ref b, .int (Int32.ofNat o), .ref d, .int (Int32.ofNat q), .int (Int32.ofNat len)] 7)) (Tl.setTop (mkF m 13 #[.val (.ref b), .val (.int (Int32.ofNat (o + i))), .val (.ref d), .val (.int (Int32.ofNat (q + i))), .val (.int (Int32.ofNat len)), .val (.int (Int32.ofNat i)), z] [.int (cv A (o + i))])) := c3.trans (by
        refine Xl.aget hexec hAl rfl (hA.get (i := o + i) (by omega)) rfl rfl (hb hbytes d12) ?_
        exact Steps.refl _)
      have c5 : Steps p.tables e below (s₁.setTop (entryFrame m #[.ref b, .int (Int32.ofNat o), .ref d, .int (Int32.ofNat q), .int (Int32.ofNat len)] 7)) (Tl.setTop (mkF m 15 #[.val (.ref b), .val (.int (Int32.ofNat (o + i))), .val (.ref d), .val (.int (Int32.ofNat (q + i))), .val (.int (Int32.ofNat len)), .val (.int (Int32.ofNat i)), .val (.int (cv A (o + i)))] [])) := c4.trans (by
        refine XS.istoreS Xl.here hexec rfl (hb hbytes d13) rfl rfl hz ?_
        exact Steps.refl _)
      have c6 : Steps p.tables e below (s₁.setTop (entryFrame m #[.ref b, .int (Int32.ofNat o), .ref d, .int (Int32.ofNat q), .int (Int32.ofNat len)] 7)) (Tl.setTop (mkF m 31 #[.val (.ref b), .val (.int (Int32.ofNat (o + i))), .val (.ref d), .val (.int (Int32.ofNat (q + i))), .val (.int (Int32.ofNat len)), .val (.int (Int32.ofNat i)), .val (.int (cv A (o + i)))] [.int (lo8 (cv A (o + i))), .int (Int32.ofNat (q + i)), .ref d])) := c5.trans (by
        refine XS.iload Xl.here hexec rfl (hb hbytes d15) rfl ?_
        refine sipushV Xl.here hexec rfl 255 (hb hbytes d17) (by decide) ?_
        refine XS.icmpYes Xl.here hexec rfl (pc0 := 20) rfl (hb hbytes d20) rfl (ii_le_t (hp i (by omega))) (by decide) rfl ?_
        refine XS.aloadN Xl.here hexec rfl (hb hbytes d26) rfl rfl ?_
        refine XS.iloadN Xl.here hexec rfl (hb hbytes d27) rfl ?_
        refine XS.iload Xl.here hexec rfl (hb hbytes d28) rfl ?_
        refine i2b Xl.here hexec rfl (hb hbytes d30) rfl ?_
        exact Steps.refl _)
      obtain ⟨T7, X7, p7, st7⟩ := Xl.aput hexec hBk rfl hlt rfl (fits_lo8 (cv A (o + i))) (g := (mkF m 31 #[.val (.ref b), .val (.int (Int32.ofNat (o + i))), .val (.ref d), .val (.int (Int32.ofNat (q + i))), .val (.int (Int32.ofNat len)), .val (.int (Int32.ofNat i)), .val (.int (cv A (o + i)))] [.int (lo8 (cv A (o + i))), .int (Int32.ofNat (q + i)), .ref d])) rfl (rest := []) rfl (hb hbytes d31)
      have c8 : Steps p.tables e below (s₁.setTop (entryFrame m #[.ref b, .int (Int32.ofNat o), .ref d, .int (Int32.ofNat q), .int (Int32.ofNat len)] 7)) (T7.setTop (mkF m 32 #[.val (.ref b), .val (.int (Int32.ofNat (o + i))), .val (.ref d), .val (.int (Int32.ofNat (q + i))), .val (.int (Int32.ofNat len)), .val (.int (Int32.ofNat i)), .val (.int (cv A (o + i)))] [])) := c6.trans (st7 _ (Steps.refl _))
      have c9 : Steps p.tables e below (s₁.setTop (entryFrame m #[.ref b, .int (Int32.ofNat o), .ref d, .int (Int32.ofNat q), .int (Int32.ofNat len)] 7)) (T7.setTop (mkF m 3 #[.val (.ref b), .val (.int (Int32.ofNat (o + i) + 1)), .val (.ref d), .val (.int (Int32.ofNat (q + i) + 1)), .val (.int (Int32.ofNat len)), .val (.int (Int32.ofNat i + 1)), .val (.int (cv A (o + i)))] [])) := c8.trans (by
        refine iincV X7.here hexec rfl 1 (hb hbytes d32) (by decide) rfl rfl ?_
        refine iincV X7.here hexec rfl 1 (hb hbytes d35) (by decide) rfl rfl ?_
        refine iincV X7.here hexec rfl 1 (hb hbytes d38) (by decide) rfl rfl ?_
        refine XS.goto X7.here hexec rfl (pc0 := 41) rfl (hb hbytes d41) (by decide) rfl ?_
        exact Steps.refl _)
      have c10 : Steps p.tables e below (s₁.setTop (entryFrame m #[.ref b, .int (Int32.ofNat o), .ref d, .int (Int32.ofNat q), .int (Int32.ofNat len)] 7)) (T7.setTop (mkF m 3 #[.val (.ref b), .val (.int (Int32.ofNat (o + (i + 1)))), .val (.ref d), .val (.int (Int32.ofNat (q + (i + 1)))), .val (.int (Int32.ofNat len)), .val (.int (Int32.ofNat (i + 1))), .val (.int (cv A (o + i)))] [])) := by
        have := c9
        rw [succ32, succ32, succ32] at this
        exact this
      exact ih (i + 1) (by omega) _ (Or.inr ⟨_, rfl, rfl⟩) T7 _ (by rw [copyLocs_step, ← List.append_assoc]; exact X7) (pl.trans p7) (fl.step (by omega) hlt (by simp)) c10
  obtain ⟨T9, B9, z9, X9, p9, f9, g9⟩ := loop len 0 (by omega) .unset (Or.inl rfl) s₁ B (by simpa [copyLocs] using X0) ⟨hB0.1, fun _ _ => rfl, rfl⟩ (Laid.zero _ _ _) c2
  have c11 : Steps p.tables e below (s₁.setTop (entryFrame m #[.ref b, .int (Int32.ofNat o), .ref d, .int (Int32.ofNat q), .int (Int32.ofNat len)] 7)) (T9.setTop (mkF m 46 #[.val (.ref b), .val (.int (Int32.ofNat (o + len))), .val (.ref d), .val (.int (Int32.ofNat (q + len))), .val (.int (Int32.ofNat len)), .val (.int (Int32.ofNat len)), z9] [.int (Int32.ofNat len)])) := g9.trans (by
    refine XS.iload X9.here hexec rfl (hb hbytes d3) rfl ?_
    refine XS.iload X9.here hexec rfl (hb hbytes d5) rfl ?_
    refine XS.icmpYes X9.here hexec rfl (pc0 := 7) rfl (hb hbytes d7) rfl (ii_ge_t (nlt32 (by omega) (Nat.le_refl _))) (by decide) rfl ?_
    refine XS.iload X9.here hexec rfl (hb hbytes d44) rfl ?_
    exact Steps.refl _)
  exact ⟨T9, some (.int (Int32.ofNat len)), _, _, _, X9, by simp, rfl, rfl, (fun h => by cases h), ⟨rfl, B9, p9.from hh0, f9⟩, fun fs hl => c11.trans (X9.ireturnOut hexec hret rfl (Or.inl rfl) (hb hbytes d46) hl)⟩
end Cmp5
namespace Cmp3
def yN : MethodName := ⟨"java/lang/StringUTF16", "compress", "([CII)[B"⟩
abbrev yB : ByteArray := jdk_52_method_16_code
theorem d0 : decode yB 0 = .ok (.iload_n 2, 1) := by decide +kernel
theorem d1 : decode yB 1 = .ok (.newarray .byte, 2) := by decide +kernel
theorem d3 : decode yB 3 = .ok (.astore_n 3, 1) := by decide +kernel
theorem d4 : decode yB 4 = .ok (.aload_n 0, 1) := by decide +kernel
theorem d5 : decode yB 5 = .ok (.iload_n 1, 1) := by decide +kernel
theorem d6 : decode yB 6 = .ok (.aload_n 3, 1) := by decide +kernel
theorem d7 : decode yB 7 = .ok (.iconst 0, 1) := by decide +kernel
theorem d8 : decode yB 8 = .ok (.iload_n 2, 1) := by decide +kernel
theorem d9 : decode yB 9 = .ok (.invokestatic 115, 3) := by decide +kernel
theorem d12 : decode yB 12 = .ok (.istore 4, 2) := by decide +kernel
theorem d14 : decode yB 14 = .ok (.iload 4, 2) := by decide +kernel
theorem d16 : decode yB 16 = .ok (.iload_n 2, 1) := by decide +kernel
theorem d17 : decode yB 17 = .ok (.if_icmp (.eq) 40, 3) := by decide +kernel
theorem d57 : decode yB 57 = .ok (.aload_n 3, 1) := by decide +kernel
theorem d58 : decode yB 58 = .ok (.areturn, 1) := by decide +kernel
def site : List Cond := [.arrayClass .byte, Cmp5.tab] ++ staticW U16 115 Cmp5.yN
def tab : Cond := tabOf yN yB 6 (some (.array .byte)) site
def P (b : Addr) (A : Cell) (o len : Nat) (args : Array Value) (s : State) : Prop := args = #[.ref b, .int (Int32.ofNat o), .int (Int32.ofNat len)] ∧ Ch b A s ∧ o + len ≤ A.slots.size ∧ len ≤ 536870912 ∧ ∀ i, i < len → ¬ 255 < cv A (o + i)
def E (b : Addr) (A : Cell) (o len : Nat) (r : Option Value) (s u : State) : Prop := NewArr .byte "[B" len (fun j => .int (lo8 (cv A (o + j)))) r s u ∧ u.heap.size = s.heap.size + 1
/-- no char of the range above 255: a new byte[] of their low bytes -/
theorem law (l : Launch) (b : Addr) (A : Cell) (o len : Nat) : Law l yN 3 3 1 18 yB 6 (some (.array .byte)) site (P b A o len) (E b A o len) [] 1 len := by
  refine Law.of_walk (plainFor_of_name (by decide +kernel)) (by decide +kernel) (by decide +kernel) (by decide) (fun _ _ h => by rw [h.1]; rfl) (fun _ U U' hal hh h => ⟨h.1, h.2.1.mv hal hh, h.2.2⟩) (fun r U U' V V' h1 hal h2 h => ⟨NewArr.mv r U U' V V' h1 hal h2 h.1, by rw [h1, h2]; exact h.2⟩) ?_
  intro p e s m args below meth c s₁ X0 hexec hbytes hml hret hlk hnm hown hh0 W hP
  obtain ⟨rfl, hA, l1, l2, hp⟩ := hP
  have a31 := hA.1.2.2.2
  have c1 : Steps p.tables e below (s₁.setTop (entryFrame m #[.ref b, .int (Int32.ofNat o), .int (Int32.ofNat len)] 6)) (s₁.setTop (mkF m 0 #[.val (.ref b), .val (.int (Int32.ofNat o)), .val (.int (Int32.ofNat len)), .unset, .unset, .unset] [])) := entry rfl
  have c2 : Steps p.tables e below (s₁.setTop (entryFrame m #[.ref b, .int (Int32.ofNat o), .int (Int32.ofNat len)] 6)) (s₁.setTop (mkF m 1 #[.val (.ref b), .val (.int (Int32.ofNat o)), .val (.int (Int32.ofNat len)), .unset, .unset, .unset] [.int (Int32.ofNat len)])) := c1.trans (by
    refine XS.iloadN X0.here hexec rfl (hb hbytes d0) rfl ?_
    exact Steps.refl _)
  obtain ⟨T3, B3, X3, ba3, bs3, bv3, bh3, bf3, st3⟩ := X0.anew hexec (atype := .byte) (wk W (.arrayClass .byte)) rfl (by show len * 1 ≤ _; omega) (by omega) (g := (mkF m 1 #[.val (.ref b), .val (.int (Int32.ofNat o)), .val (.int (Int32.ofNat len)), .unset, .unset, .unset] [.int (Int32.ofNat len)])) rfl (hb hbytes d1) (rest := []) rfl (Nat.le_refl _) (by show 0 + len ≤ len; omega)
  rw [hh0] at ba3 st3
  have kp3 : XT.Kept s T3 := (XT.Kept.of_eq hh0).push bh3
  have hA3 := hA.keep X3.warmed.alike (kp3 _ _ hA.1.1)
  have hne : b ≠ s.heap.size := hA.1.ne
  have c4 : Steps p.tables e below (s₁.setTop (entryFrame m #[.ref b, .int (Int32.ofNat o), .int (Int32.ofNat len)] 6)) (T3.setTop (mkF m 3 #[.val (.ref b), .val (.int (Int32.ofNat o)), .val (.int (Int32.ofNat len)), .unset, .unset, .unset] [.ref s.heap.size])) := c2.trans (st3 _ (Steps.refl _))
  have c5 : Steps p.tables e below (s₁.setTop (entryFrame m #[.ref b, .int (Int32.ofNat o), .int (Int32.ofNat len)] 6)) (T3.setTop (mkF m 9 #[.val (.ref b), .val (.int (Int32.ofNat o)), .val (.int (Int32.ofNat len)), .val (.ref s.heap.size), .unset, .unset] [.int (Int32.ofNat len), .int 0, .ref s.heap.size, .int (Int32.ofNat o), .ref b])) := c4.trans (by
    refine XS.astoreN X3.here hexec rfl (hb hbytes d3) rfl rfl rfl ?_
    refine XS.aloadN X3.here hexec rfl (hb hbytes d4) rfl rfl ?_
    refine XS.iloadN X3.here hexec rfl (hb hbytes d5) rfl ?_
    refine XS.aloadN X3.here hexec rfl (hb hbytes d6) rfl rfl ?_
    refine iconstV X3.here hexec rfl 0 (hb hbytes d7) (by decide) ?_
    refine XS.iloadN X3.here hexec rfl (hb hbytes d8) rfl ?_
    exact Steps.refl _)
  obtain ⟨v6, T6, X6, E6, g6⟩ := X3.callS hexec (Cmp5.law l b A s.heap.size B3 o 0 len) hown (wks W (staticW U16 115 Cmp5.yN)) (wk W Cmp5.tab) (W := 0) (Nat.le_of_ble_eq_true rfl) (Nat.le_of_ble_eq_true rfl) (Nat.le_refl _) (by show 0 + len + 0 ≤ len; omega) (g := (mkF m 9 #[.val (.ref b), .val (.int (Int32.ofNat o)), .val (.int (Int32.ofNat len)), .val (.ref s.heap.size), .unset, .unset] [.int (Int32.ofNat len), .int (Int32.ofNat 0), .ref s.heap.size, .int (Int32.ofNat o), .ref b])) rfl (by rw [hml]; rfl) c5 (argsL := [.ref b, .int (Int32.ofNat o), .ref s.heap.size, .int (Int32.ofNat 0), .int (Int32.ofNat len)]) (rest := []) rfl rfl (by show 2 * 0 + 0 ≤ _; decide) (hb hbytes d9) (⟨rfl, hA3, ba3, hne, l1, by rw [bs3]; simp, hp⟩)
  obtain ⟨rfl, B6, p6, f6⟩ := E6
  have c7 : Steps p.tables e below (s₁.setTop (entryFrame m #[.ref b, .int (Int32.ofNat o), .int (Int32.ofNat len)] 6)) (T6.setTop (mkF m 12 #[.val (.ref b), .val (.int (Int32.ofNat o)), .val (.int (Int32.ofNat len)), .val (.ref s.heap.size), .unset, .unset] [.int (Int32.ofNat len)])) := g6
  have c8 : Steps p.tables e below (s₁.setTop (entryFrame m #[.ref b, .int (Int32.ofNat o), .int (Int32.ofNat len)] 6)) (T6.setTop (mkF m 58 #[.val (.ref b), .val (.int (Int32.ofNat o)), .val (.int (Int32.ofNat len)), .val (.ref s.heap.size), .val (.int (Int32.ofNat len)), .unset] [.ref s.heap.size])) := c7.trans (by
    refine XS.istore X6.here hexec rfl (hb hbytes d12) rfl rfl ?_
    refine XS.iload X6.here hexec rfl (hb hbytes d14) rfl ?_
    refine XS.iloadN X6.here hexec rfl (hb hbytes d16) rfl ?_
    refine XS.icmpYes X6.here hexec rfl (pc0 := 17) rfl (hb hbytes d17) rfl (ii_eq_t rfl) (by decide) rfl ?_
    refine XS.aloadN X6.here hexec rfl (hb hbytes d57) rfl rfl ?_
    exact Steps.refl _)
  have X8 := X6.wide (L' := []) (cells' := 1) (slots' := len) (fun x hx hlt => by
    simp only [List.nil_append, copyLocs, List.mem_map, List.mem_range] at hx
    obtain ⟨i, -, rfl⟩ := hx
    exact absurd hlt (Nat.lt_irrefl _)) (Nat.le_refl _) (by omega)
  exact ⟨T6, some (.ref s.heap.size), _, _, _, X8, rfl, rfl, rfl, (fun h => by cases h), ⟨⟨rfl, B6, ba3.like (X3.warmed.alike.symm.trans X6.warmed.alike) p6.1 f6.1 f6.2.1 f6.2.2.1, f6.2.1.trans bv3, by rw [X6.warmed.alike.findClass, f6.1]; exact bf3, by rw [f6.2.2.1, bs3]; simp, fun j hj => by rw [f6.2.2.2 j, if_pos (by omega)]; rfl, kp3.put p6 (Nat.le_refl _)⟩, by rw [p6.2.2, bh3, hh0]; simp⟩, fun fs hl => c8.trans (X8.areturnOut hexec rfl hret rfl (hb hbytes d58) hl)⟩
end Cmp3
namespace CodL
def yN : MethodName := ⟨"java/lang/StringUTF16", "coderFromArrayLen", "([BI)B"⟩
abbrev yB : ByteArray := jdk_52_method_15_code
theorem d0 : decode yB 0 = .ok (.iload_n 1, 1) := by decide +kernel
theorem d1 : decode yB 1 = .ok (.aload_n 0, 1) := by decide +kernel
theorem d2 : decode yB 2 = .ok (.arraylength, 1) := by decide +kernel
theorem d3 : decode yB 3 = .ok (.isub, 1) := by decide +kernel
theorem d4 : decode yB 4 = .ok (.bipush 31, 2) := by decide +kernel
theorem d6 : decode yB 6 = .ok (.iushr, 1) := by decide +kernel
theorem d7 : decode yB 7 = .ok (.i2b, 1) := by decide +kernel
theorem d8 : decode yB 8 = .ok (.ireturn, 1) := by decide +kernel
def site : List Cond := []
def tab : Cond := tabOf yN yB 2 (some .byte) site
def P (d : Addr) (B : Cell) (args : Array Value) (s : State) : Prop := args = #[.ref d, .int (Int32.ofNat B.slots.size)] ∧ Arr .byte d B s
def E (r : Option Value) (s u : State) : Prop := XT.PureE (some (.int 0)) r s u
/-- an array as long as the number of chars: LATIN1 -/
theorem law (l : Launch) (d : Addr) (B : Cell) : Law l yN 2 2 0 0 yB 2 (some .byte) site (P d B) E [] 0 0 := by
  refine Law.of_walk (plainFor_of_name (by decide +kernel)) (by decide +kernel) (by decide +kernel) (by decide) (fun _ _ h => by rw [h.1]; rfl) (fun _ U U' hal hh h => ⟨h.1, h.2.mv hal hh⟩) (fun r U U' V V' h1 hal h2 h => XT.PureE.mv r U U' V V' h1 hal h2 h) ?_
  intro p e s m args below meth c s₁ X0 hexec hbytes hml hret hlk hnm hown hh0 W hP
  obtain ⟨rfl, hB⟩ := hP
  have hB0 := hB.mv X0.warmed.alike hh0
  have c1 : Steps p.tables e below (s₁.setTop (entryFrame m #[.ref d, .int (Int32.ofNat B.slots.size)] 2)) (s₁.setTop (mkF m 0 #[.val (.ref d), .val (.int (Int32.ofNat B.slots.size))] [])) := entry rfl
  have c2 : Steps p.tables e below (s₁.setTop (entryFrame m #[.ref d, .int (Int32.ofNat B.slots.size)] 2)) (s₁.setTop (mkF m 2 #[.val (.ref d), .val (.int (Int32.ofNat B.slots.size))] [.ref d, .int (Int32.ofNat B.slots.size)])) := c1.trans (by
    refine XS.iloadN X0.here hexec rfl (hb hbytes d0) rfl ?_
    refine XS.aloadN X0.here hexec rfl (hb hbytes d1) rfl rfl ?_
    exact Steps.refl _)
  have c3 : Steps p.tables e below (s₁.setTop (entryFrame m #[.ref d, .int (Int32.ofNat B.slots.size)] 2)) (s₁.setTop (mkF m 8 #[.val (.ref d), .val (.int (Int32.ofNat B.slots.size))] [.int (lo8 (ushr (Int32.ofNat B.slots.size - Int32.ofNat B.slots.size) 31))])) := c2.trans (by
    refine X0.alen hexec hB0 rfl rfl (hb hbytes d2) ?_
    refine XS.isub X0.here hexec rfl (hb hbytes d3) rfl ?_
    refine bipushV X0.here hexec rfl 31 (hb hbytes d4) (by decide) ?_
    refine iushr X0.here hexec rfl (hb hbytes d6) rfl ?_
    refine i2b X0.here hexec rfl (hb hbytes d7) rfl ?_
    exact Steps.refl _)
  have e0 : lo8 (ushr (Int32.ofNat B.slots.size - Int32.ofNat B.slots.size) 31) = 0 := by rw [Int32.sub_self]; decide
  rw [e0] at c3
  exact ⟨s₁, some (.int 0), _, _, _, X0, rfl, rfl, rfl, (fun h => by cases h), ⟨rfl, hh0⟩, fun fs hl => c3.trans (X0.ireturnOut hexec hret rfl (Or.inr (Or.inr (Or.inl rfl))) (hb hbytes d8) hl)⟩
end CodL
/-- the String at a is Latin-1 over a new byte[] (the heap's one new cell): the low bytes of the len chars of A from o on; every cell but a is kept -/
def Got (a : Addr) (D : Cell) (fV fC : Field) (A : Cell) (o len : Nat) (r : Option Value) (s u : State) : Prop := r = none ∧ ∃ D' V : Cell, Blank "java/lang/String" a D' u ∧ Same D D' [fV.slot, fC.slot] ∧ D'.slots[fV.slot]? = some (.ref s.heap.size) ∧ D'.slots[fC.slot]? = some (.int 0) ∧ Arr .byte s.heap.size V u ∧ V.vm = .none ∧ u.vm.findClass "[B" = some V.cls ∧ V.slots.size = len ∧ (∀ j, j < len → V.slots[j]? = some (.int (lo8 (cv A (o + j))))) ∧ (∀ (y : Addr) (c : Cell), y ≠ a → s.heap[y]? = some c → u.heap[y]? = some c) ∧ u.heap.size = s.heap.size + 1
theorem Got.mv {a : Addr} {D A : Cell} {fV fC : Field} {o len : Nat} : ∀ r (U U' V V' : State), U'.heap = U.heap → V.vm.Alike V'.vm → V'.heap = V.heap → Got a D fV fC A o len r U V → Got a D fV fC A o len r U' V' :=
  fun r U U' V V' h1 hal h2 ⟨e0, D', X, a1, a2, a3, a4, a5, a6, a7, a8, a9, a10, a11⟩ => ⟨e0, D', X, a1.mv hal h2, a2, by rw [h1]; exact a3, a4, by rw [h1]; exact a5.mv hal h2, a6, by rw [hal.findClass]; exact a7, a8, a9, by rw [h1, h2]; exact a10, by rw [h1, h2]; exact a11⟩
namespace New4
def yN : MethodName := ⟨"java/lang/String", "<init>", "([CIILjava/lang/Void;)V"⟩
abbrev yB : ByteArray := jdk_42_method_149_code
theorem d0 : decode yB 0 = .ok (.aload_n 0, 1) := by decide +kernel
theorem d1 : decode yB 1 = .ok (.invokespecial 1, 3) := by decide +kernel
theorem d4 : decode yB 4 = .ok (.iload_n 3, 1) := by decide +kernel
theorem d5 : decode yB 5 = .ok (.ifCond (.ne) 22, 3) := by decide +kernel
theorem d27 : decode yB 27 = .ok (.getstatic 38, 3) := by decide +kernel
theorem d30 : decode yB 30 = .ok (.ifCond (.eq) 28, 3) := by decide +kernel
theorem d33 : decode yB 33 = .ok (.aload_n 1, 1) := by decide +kernel
theorem d34 : decode yB 34 = .ok (.iload_n 2, 1) := by decide +kernel
theorem d35 : decode yB 35 = .ok (.iload_n 3, 1) := by decide +kernel
theorem d36 : decode yB 36 = .ok (.invokestatic 177, 3) := by decide +kernel
theorem d39 : decode yB 39 = .ok (.astore 5, 2) := by decide +kernel
theorem d41 : decode yB 41 = .ok (.aload_n 0, 1) := by decide +kernel
theorem d42 : decode yB 42 = .ok (.aload 5, 2) := by decide +kernel
theorem d44 : decode yB 44 = .ok (.iload_n 3, 1) := by decide +kernel
theorem d45 : decode yB 45 = .ok (.invokestatic 47, 3) := by decide +kernel
theorem d48 : decode yB 48 = .ok (.putfield 15, 3) := by decide +kernel
theorem d51 : decode yB 51 = .ok (.aload_n 0, 1) := by decide +kernel
theorem d52 : decode yB 52 = .ok (.aload 5, 2) := by decide +kernel
theorem d54 : decode yB 54 = .ok (.putfield 9, 3) := by decide +kernel
theorem d57 : decode yB 57 = .ok (.return_, 1) := by decide +kernel
def site : List Cond := [.fieldLink "java/lang/String" 38 "java/lang/String" "COMPACT_STRINGS" "Z", Cmp3.tab, CodL.tab, .laysFinal "java/lang/String" "java/lang/String" "value" "[B", .fieldLink "java/lang/String" 9 "java/lang/String" "value" "[B", .laysFinal "java/lang/String" "java/lang/String" "coder" "B", .fieldLink "java/lang/String" 15 "java/lang/String" "coder" "B"] ++ objW "java/lang/String" 1 ++ staticW "java/lang/String" 177 Cmp3.yN ++ staticW "java/lang/String" 47 CodL.yN
def tab : Cond := tabOf yN yB 6 none site
def P (a : Addr) (D : Cell) (fV fC : Field) (b : Addr) (A : Cell) (z : Int32) (o len : Nat) (args : Array Value) (s : State) : Prop := args = #[.ref a, .ref b, .int (Int32.ofNat o), .int (Int32.ofNat len), .null] ∧ Blank "java/lang/String" a D s ∧ Found "java/lang/String" "value" "[B" fV s ∧ Found "java/lang/String" "coder" "B" fC s ∧ Ch b A s ∧ StaticIs s "java/lang/String" "COMPACT_STRINGS" "Z" (.int z) ∧ ¬ z = 0 ∧ 0 < len ∧ o + len ≤ A.slots.size ∧ len ≤ 536870912 ∧ ∀ i, i < len → ¬ 255 < cv A (o + i)
def E (a : Addr) (D : Cell) (fV fC : Field) (A : Cell) (o len : Nat) (r : Option Value) (s u : State) : Prop := Got a D fV fC A o len r s u
/-- len > 0, no char of the range above 255: a Latin-1 String of their low bytes -/
theorem law (l : Launch) (a : Addr) (D : Cell) (fV fC : Field) (b : Addr) (A : Cell) (z : Int32) (o len : Nat) : Law l yN 5 4 2 35 yB 6 none site (P a D fV fC b A z o len) (E a D fV fC A o len) [⟨a, fC.slot⟩, ⟨a, fV.slot⟩] 1 len := by
  refine Law.of_walk (plainFor_of_name (by decide +kernel)) (by decide +kernel) (by decide +kernel) (by decide) (fun _ _ h => by rw [h.1]; rfl) (fun _ U U' hal hh h => ⟨h.1, h.2.1.mv hal hh, h.2.2.1.al hal, h.2.2.2.1.al hal, h.2.2.2.2.1.mv hal hh, h.2.2.2.2.2.1.there hal hh, h.2.2.2.2.2.2⟩) (fun r U U' V V' h1 hal h2 h => Got.mv r U U' V V' h1 hal h2 h) ?_
  intro p e s m args below meth c s₁ X0 hexec hbytes hml hret hlk hnm hown hh0 W hP
  obtain ⟨rfl, hB, f1, f2, hA, s1, hz, l0, l1, l2, hp⟩ := hP
  have a31 := hA.1.2.2.2
  have c1 : Steps p.tables e below (s₁.setTop (entryFrame m #[.ref a, .ref b, .int (Int32.ofNat o), .int (Int32.ofNat len), .null] 6)) (s₁.setTop (mkF m 0 #[.val (.ref a), .val (.ref b), .val (.int (Int32.ofNat o)), .val (.int (Int32.ofNat len)), .val .null, .unset] [])) := entry rfl
  have c2 : Steps p.tables e below (s₁.setTop (entryFrame m #[.ref a, .ref b, .int (Int32.ofNat o), .int (Int32.ofNat len), .null] 6)) (s₁.setTop (mkF m 1 #[.val (.ref a), .val (.ref b), .val (.int (Int32.ofNat o)), .val (.int (Int32.ofNat len)), .val .null, .unset] [.ref a])) := c1.trans (by
    refine XS.aloadN X0.here hexec rfl (hb hbytes d0) rfl rfl ?_
    exact Steps.refl _)
  obtain ⟨T3, X3, q3, st3⟩ := X0.oinit hexec hown (wks W (objW "java/lang/String" 1)) (g := (mkF m 1 #[.val (.ref a), .val (.ref b), .val (.int (Int32.ofNat o)), .val (.int (Int32.ofNat len)), .val .null, .unset] [.ref a])) rfl (by rw [hml]; rfl) (rest := []) rfl (hb hbytes d1) (W := 0) (by show 2 * 0 + 0 ≤ _; decide) (Nat.le_of_ble_eq_true rfl) (Nat.le_of_ble_eq_true rfl)
  have hh3 := q3.trans hh0
  have c4 : Steps p.tables e below (s₁.setTop (entryFrame m #[.ref a, .ref b, .int (Int32.ofNat o), .int (Int32.ofNat len), .null] 6)) (T3.setTop (mkF m 27 #[.val (.ref a), .val (.ref b), .val (.int (Int32.ofNat o)), .val (.int (Int32.ofNat len)), .val .null, .unset] [])) := (c2.trans (st3 _ (Steps.refl _))).trans (by
    refine XS.iloadN X3.here hexec rfl (hb hbytes d4) rfl ?_
    refine XS.ifYes X3.here hexec rfl (pc0 := 5) rfl (hb hbytes d5) rfl (i0_ne_t (nz32 (by omega) l0)) (by decide) rfl ?_
    exact Steps.refl _)
  obtain ⟨T5, X5, q5, st5⟩ := X3.sget hexec hown (wk W (.fieldLink "java/lang/String" 38 "java/lang/String" "COMPACT_STRINGS" "Z")) s1 (fun _ _ h => by rw [hh3]; exact h) (g := (mkF m 27 #[.val (.ref a), .val (.ref b), .val (.int (Int32.ofNat o)), .val (.int (Int32.ofNat len)), .val .null, .unset] [])) rfl (hb hbytes d27)
  have hh5 := q5.trans hh3
  have c6 : Steps p.tables e below (s₁.setTop (entryFrame m #[.ref a, .ref b, .int (Int32.ofNat o), .int (Int32.ofNat len), .null] 6)) (T5.setTop (mkF m 30 #[.val (.ref a), .val (.ref b), .val (.int (Int32.ofNat o)), .val (.int (Int32.ofNat len)), .val .null, .unset] [.int z])) := c4.trans (st5 _ (Steps.refl _))
  have c7 : Steps p.tables e below (s₁.setTop (entryFrame m #[.ref a, .ref b, .int (Int32.ofNat o), .int (Int32.ofNat len), .null] 6)) (T5.setTop (mkF m 36 #[.val (.ref a), .val (.ref b), .val (.int (Int32.ofNat o)), .val (.int (Int32.ofNat len)), .val .null, .unset] [.int (Int32.ofNat len), .int (Int32.ofNat o), .ref b])) := c6.trans (by
    refine XS.ifNo X5.here hexec rfl (hb hbytes d30) rfl (i0_eq_f hz) ?_
    refine XS.aloadN X5.here hexec rfl (hb hbytes d33) rfl rfl ?_
    refine XS.iloadN X5.here hexec rfl (hb hbytes d34) rfl ?_
    refine XS.iloadN X5.here hexec rfl (hb hbytes d35) rfl ?_
    exact Steps.refl _)
  obtain ⟨v8, T8, X8, E8, g8⟩ := X5.callS hexec (Cmp3.law l b A o len) hown (wks W (staticW "java/lang/String" 177 Cmp3.yN)) (wk W Cmp3.tab) (W := 0) (Nat.le_of_ble_eq_true rfl) (Nat.le_of_ble_eq_true rfl) (Nat.le_refl _) (by show 0 + len ≤ len; omega) (g := (mkF m 36 #[.val (.ref a), .val (.ref b), .val (.int (Int32.ofNat o)), .val (.int (Int32.ofNat len)), .val .null, .unset] [.int (Int32.ofNat len), .int (Int32.ofNat o), .ref b])) rfl (by rw [hml]; rfl) c7 (argsL := [.ref b, .int (Int32.ofNat o), .int (Int32.ofNat len)]) (rest := []) rfl rfl (by show 2 * 0 + 0 ≤ _; decide) (hb hbytes d36) (⟨rfl, hA.mv X5.warmed.alike hh5, l1, l2, hp⟩)
  obtain ⟨e8, z8⟩ := E8
  obtain ⟨rfl, N, n1, n2, n3, n4, n5, n6⟩ := NewArr.mv _ T5 s _ _ hh5.symm (Vm.Alike.refl _) rfl e8
  rw [hh5] at z8
  have hB1 := hB.keep X8.warmed.alike (n6 _ _ hB.1)
  have hne : s.heap.size ≠ a := (Nat.ne_of_lt (Array.getElem?_eq_some_iff.mp hB.1).1).symm
  have c9 : Steps p.tables e below (s₁.setTop (entryFrame m #[.ref a, .ref b, .int (Int32.ofNat o), .int (Int32.ofNat len), .null] 6)) (T8.setTop (mkF m 39 #[.val (.ref a), .val (.ref b), .val (.int (Int32.ofNat o)), .val (.int (Int32.ofNat len)), .val .null, .unset] [.ref s.heap.size])) := g8
  have c10 : Steps p.tables e below (s₁.setTop (entryFrame m #[.ref a, .ref b, .int (Int32.ofNat o), .int (Int32.ofNat len), .null] 6)) (T8.setTop (mkF m 45 #[.val (.ref a), .val (.ref b), .val (.int (Int32.ofNat o)), .val (.int (Int32.ofNat len)), .val .null, .val (.ref s.heap.size)] [.int (Int32.ofNat N.slots.size), .ref s.heap.size, .ref a])) := by
    have hc : Steps p.tables e below (s₁.setTop (entryFrame m #[.ref a, .ref b, .int (Int32.ofNat o), .int (Int32.ofNat len), .null] 6)) (T8.setTop (mkF m 45 #[.val (.ref a), .val (.ref b), .val (.int (Int32.ofNat o)), .val (.int (Int32.ofNat len)), .val .null, .val (.ref s.heap.size)] [.int (Int32.ofNat len), .ref s.heap.size, .ref a])) := c9.trans (by
      refine XS.astore X8.here hexec rfl (hb hbytes d39) rfl rfl rfl ?_
      refine XS.aloadN X8.here hexec rfl (hb hbytes d41) rfl rfl ?_
      refine XS.aload X8.here hexec rfl (hb hbytes d42) rfl rfl ?_
      refine XS.iloadN X8.here hexec rfl (hb hbytes d44) rfl ?_
      exact Steps.refl _)
    rw [n4]; exact hc
  obtain ⟨v11, T11, X11, E11, g11⟩ := X8.callS hexec (CodL.law l s.heap.size N) hown (wks W (staticW "java/lang/String" 47 CodL.yN)) (wk W CodL.tab) (W := 1) (Nat.le_of_ble_eq_true rfl) (Nat.le_of_ble_eq_true rfl) (Nat.le_refl _) (by show 0 + len + 0 ≤ len; omega) (g := (mkF m 45 #[.val (.ref a), .val (.ref b), .val (.int (Int32.ofNat o)), .val (.int (Int32.ofNat len)), .val .null, .val (.ref s.heap.size)] [.int (Int32.ofNat N.slots.size), .ref s.heap.size, .ref a])) rfl (by rw [hml]; rfl) c10 (argsL := [.ref s.heap.size, .int (Int32.ofNat N.slots.size)]) (rest := [.ref a]) rfl rfl (by show 2 * 0 + (1 + 0) ≤ _; decide) (hb hbytes d45) (⟨rfl, n1⟩)
  obtain ⟨rfl, q11⟩ := E11
  have hB11 := hB1.mv (X8.warmed.alike.symm.trans X11.warmed.alike) q11
  have c12 : Steps p.tables e below (s₁.setTop (entryFrame m #[.ref a, .ref b, .int (Int32.ofNat o), .int (Int32.ofNat len), .null] 6)) (T11.setTop (mkF m 48 #[.val (.ref a), .val (.ref b), .val (.int (Int32.ofNat o)), .val (.int (Int32.ofNat len)), .val .null, .val (.ref s.heap.size)] [.int 0, .ref a])) := g11
  obtain ⟨T13, X13, p13, bl13, sl13, st13⟩ := X11.finit hexec hown (wk W (.fieldLink "java/lang/String" 15 "java/lang/String" "coder" "B")) (Or.inr ⟨_, (wk W (.laysFinal "java/lang/String" "java/lang/String" "coder" "B"))⟩) (Or.inl ⟨rfl, hnm⟩) f2 (Or.inl rfl) hB11 (t := .byte) (by decide +kernel) rfl (g := (mkF m 48 #[.val (.ref a), .val (.ref b), .val (.int (Int32.ofNat o)), .val (.int (Int32.ofNat len)), .val .null, .val (.ref s.heap.size)] [.int 0, .ref a])) rfl (rest := []) rfl (hb hbytes d48)
  have c14 : Steps p.tables e below (s₁.setTop (entryFrame m #[.ref a, .ref b, .int (Int32.ofNat o), .int (Int32.ofNat len), .null] 6)) (T13.setTop (mkF m 54 #[.val (.ref a), .val (.ref b), .val (.int (Int32.ofNat o)), .val (.int (Int32.ofNat len)), .val .null, .val (.ref s.heap.size)] [.ref s.heap.size, .ref a])) := (c12.trans (st13 _ (Steps.refl _))).trans (by
    refine XS.aloadN X13.here hexec rfl (hb hbytes d51) rfl rfl ?_
    refine XS.aload X13.here hexec rfl (hb hbytes d52) rfl rfl ?_
    exact Steps.refl _)
  obtain ⟨T15, X15, p15, bl15, sl15, st15⟩ := X13.finit hexec hown (wk W (.fieldLink "java/lang/String" 9 "java/lang/String" "value" "[B")) (Or.inr ⟨_, (wk W (.laysFinal "java/lang/String" "java/lang/String" "value" "[B"))⟩) (Or.inl ⟨rfl, hnm⟩) f1 (Or.inl rfl) bl13 (t := (.array .byte)) (by decide +kernel) rfl (g := (mkF m 54 #[.val (.ref a), .val (.ref b), .val (.int (Int32.ofNat o)), .val (.int (Int32.ofNat len)), .val .null, .val (.ref s.heap.size)] [.ref s.heap.size, .ref a])) rfl (rest := []) rfl (hb hbytes d54)
  have c16 : Steps p.tables e below (s₁.setTop (entryFrame m #[.ref a, .ref b, .int (Int32.ofNat o), .int (Int32.ofNat len), .null] 6)) (T15.setTop (mkF m 57 #[.val (.ref a), .val (.ref b), .val (.int (Int32.ofNat o)), .val (.int (Int32.ofNat len)), .val .null, .val (.ref s.heap.size)] [])) := c14.trans (st15 _ (Steps.refl _))
  have ap := apart (Or.inr ⟨_, (wk W (.laysFinal "java/lang/String" "java/lang/String" "value" "[B"))⟩) (Or.inr ⟨_, (wk W (.laysFinal "java/lang/String" "java/lang/String" "coder" "B"))⟩) f1 f2 (t₁ := .array .byte) (t₂ := .byte) (by decide +kernel) (by decide +kernel) (by decide)
  have al := X8.warmed.alike.symm.trans X15.warmed.alike
  have n7 : T11.heap[s.heap.size]? = some N := by rw [q11]; exact n1.1
  exact ⟨T15, none, _, _, _, X15, by simp, rfl, by omega, (fun _ => rfl), ⟨rfl, _, N, bl15, ((Same.refl D _).set _ (by simp)).set _ (by simp), sl15, (Cell.slots_setSlot_ne _ ap).trans sl13, n1.keep al (p15.other hne (p13.other hne n7)), n2, by rw [al.findClass]; exact n3, n4, n5, fun y c h1 h2 => p15.other h1 (p13.other h1 (by rw [q11]; exact n6 y c h2)), by rw [p15.2.2, p13.2.2, q11]; exact z8⟩, fun fs hl => c16.trans (X15.returnOut hexec hret (hb hbytes d57) hl)⟩
end New4
namespace New1
def yN : MethodName := ⟨"java/lang/String", "<init>", "([C)V"⟩
abbrev yB : ByteArray := jdk_42_method_3_code
theorem d0 : decode yB 0 = .ok (.aload_n 0, 1) := by decide +kernel
theorem d1 : decode yB 1 = .ok (.aload_n 1, 1) := by decide +kernel
theorem d2 : decode yB 2 = .ok (.iconst 0, 1) := by decide +kernel
theorem d3 : decode yB 3 = .ok (.aload_n 1, 1) := by decide +kernel
theorem d4 : decode yB 4 = .ok (.arraylength, 1) := by decide +kernel
theorem d5 : decode yB 5 = .ok (.aconst_null, 1) := by decide +kernel
theorem d6 : decode yB 6 = .ok (.invokespecial 27, 3) := by decide +kernel
theorem d9 : decode yB 9 = .ok (.return_, 1) := by decide +kernel
def site : List Cond := [New4.tab] ++ initW "java/lang/String" 27 New4.yN
def tab : Cond := tabOf yN yB 2 none site
def P (a : Addr) (D : Cell) (fV fC : Field) (b : Addr) (A : Cell) (z : Int32) (args : Array Value) (s : State) : Prop := args = #[.ref a, .ref b] ∧ Blank "java/lang/String" a D s ∧ Found "java/lang/String" "value" "[B" fV s ∧ Found "java/lang/String" "coder" "B" fC s ∧ Ch b A s ∧ StaticIs s "java/lang/String" "COMPACT_STRINGS" "Z" (.int z) ∧ ¬ z = 0 ∧ 0 < A.slots.size ∧ A.slots.size ≤ 536870912 ∧ ∀ i, i < A.slots.size → ¬ 255 < cv A i
def E (a : Addr) (D : Cell) (fV fC : Field) (A : Cell) (r : Option Value) (s u : State) : Prop := Got a D fV fC A 0 A.slots.size r s u
/-- new String(chars), not empty, no char above 255: a Latin-1 String of their low bytes -/
theorem law (l : Launch) (a : Addr) (D : Cell) (fV fC : Field) (b : Addr) (A : Cell) (z : Int32) : Law l yN 2 1 3 52 yB 2 none site (P a D fV fC b A z) (E a D fV fC A) [⟨a, fC.slot⟩, ⟨a, fV.slot⟩] 1 A.slots.size := by
  refine Law.of_walk (plainFor_of_name (by decide +kernel)) (by decide +kernel) (by decide +kernel) (by decide) (fun _ _ h => by rw [h.1]; rfl) (fun _ U U' hal hh h => ⟨h.1, h.2.1.mv hal hh, h.2.2.1.al hal, h.2.2.2.1.al hal, h.2.2.2.2.1.mv hal hh, h.2.2.2.2.2.1.there hal hh, h.2.2.2.2.2.2⟩) (fun r U U' V V' h1 hal h2 h => Got.mv r U U' V V' h1 hal h2 h) ?_
  intro p e s m args below meth c s₁ X0 hexec hbytes hml hret hlk hnm hown hh0 W hP
  obtain ⟨rfl, hB, f1, f2, hA, s1, hz, l0, l2, hp⟩ := hP
  have c1 : Steps p.tables e below (s₁.setTop (entryFrame m #[.ref a, .ref b] 2)) (s₁.setTop (mkF m 0 #[.val (.ref a), .val (.ref b)] [])) := entry rfl
  have c2 : Steps p.tables e below (s₁.setTop (entryFrame m #[.ref a, .ref b] 2)) (s₁.setTop (mkF m 6 #[.val (.ref a), .val (.ref b)] [.null, .int (Int32.ofNat A.slots.size), .int 0, .ref b, .ref a])) := c1.trans (by
    refine XS.aloadN X0.here hexec rfl (hb hbytes d0) rfl rfl ?_
    refine XS.aloadN X0.here hexec rfl (hb hbytes d1) rfl rfl ?_
    refine iconstV X0.here hexec rfl 0 (hb hbytes d2) (by decide) ?_
    refine XS.aloadN X0.here hexec rfl (hb hbytes d3) rfl rfl ?_
    refine X0.alen hexec (hA.1.mv X0.warmed.alike hh0) rfl rfl (hb hbytes d4) ?_
    refine XS.aconstNull X0.here hexec rfl (hb hbytes d5) ?_
    exact Steps.refl _)
  obtain ⟨v3, T3, X3, E3, g3⟩ := X0.callN hexec (New4.law l a D fV fC b A z 0 A.slots.size) rfl hown (wks W (initW "java/lang/String" 27 New4.yN)) (W New4.tab (by simp only [site, List.mem_cons, List.mem_append, true_or, or_true])) (W := 0) (Nat.le_of_ble_eq_true rfl) (Nat.le_of_ble_eq_true rfl) (Nat.le_refl _) (by show 0 + A.slots.size ≤ A.slots.size; omega) (g := (mkF m 6 #[.val (.ref a), .val (.ref b)] [.null, .int (Int32.ofNat A.slots.size), .int (Int32.ofNat 0), .ref b, .ref a])) rfl (by rw [hml]; rfl) c2 (argsL := [.ref b, .int (Int32.ofNat 0), .int (Int32.ofNat A.slots.size), .null]) (rest := []) rfl rfl (by show 2 * 0 + 0 ≤ _; decide) (hb hbytes d6) (⟨rfl, hB.mv X0.warmed.alike hh0, f1.al X0.warmed.alike, f2.al X0.warmed.alike, hA.mv X0.warmed.alike hh0, s1.there X0.warmed.alike hh0, hz, l0, by omega, l2, fun i hi => by rw [Nat.zero_add]; exact hp i hi⟩)
  have e0 := Got.mv _ s₁ s _ _ hh0.symm (Vm.Alike.refl _) rfl E3
  obtain rfl := e0.1
  have c4 : Steps p.tables e below (s₁.setTop (entryFrame m #[.ref a, .ref b] 2)) (T3.setTop (mkF m 9 #[.val (.ref a), .val (.ref b)] [])) := g3
  exact ⟨T3, none, _, _, _, X3, by simp, rfl, by omega, (fun _ => rfl), e0, fun fs hl => c4.trans (X3.returnOut hexec hret (hb hbytes d9) hl)⟩
theorem pays {l : Launch} {R : Room} {p : Program} {e : Env} {below : List Frame} {s : State} {sargs : Array Value} {len W : Nat} (a : Addr) (D : Cell) (fV fC : Field) (b : Addr) (A : Cell) (z : Int32) (htab : tab.before sargs s = true) (hfr : 4 ≤ R.frames) (hlo : W + 65 ≤ R.locals) :
    Back l R p e below s sargs yN len W (fun A₁ a₁ => A₁.cells + 1 ≤ R.cells ∧ A₁.slots + A.slots.size ≤ R.slots ∧ P a D fV fC b A z a₁ A₁.U) (fun A₁ _ v₁ B₁ => E a D fV fC A v₁ A₁.U B₁.U ∧ B₁.locs = A₁.locs ++ [⟨a, fC.slot⟩, ⟨a, fV.slot⟩] ∧ B₁.cells = A₁.cells + 1 ∧ B₁.slots = A₁.slots + A.slots.size) :=
  (law l a D fV fC b A z).pays htab hfr (by omega)
end New1
/-- the byte, read back as charAt reads it, is the char -/
theorem lo8_mask {x : Int32} (h0 : ¬ x < 0) (h1 : ¬ 255 < x) : lo8 x &&& 255 = x := by
  have t : ∀ k : Fin 256, lo8 (Int32.ofNat k.val) &&& 255 = Int32.ofNat k.val := by decide +kernel
  rw [Int32.lt_iff_toInt_lt] at h0 h1
  have e0 : (0 : Int32).toInt = 0 := rfl
  have e1 : (255 : Int32).toInt = 255 := rfl
  obtain ⟨k, hk⟩ : ∃ k : Nat, x.toInt = k := ⟨x.toInt.toNat, by omega⟩
  have hx : x = Int32.ofNat k := Int32.toInt_inj.mp (by rw [hk, Int32.toInt_ofNat_small (by omega)])
  rw [hx]
  exact t ⟨k, by omega⟩
end StrChars
namespace StrChars.Road
open Jvm Sem ClassFile Op Lib Jvm.Stand Jvm.Free Jvm.Free.XT
open Jvm.Lib.Cold (StaticIs)
abbrev ST : String := "java/lang/String"
/-- every table word that New1's law asks, flat -/
abbrev words : List Jvm.Cond := [.code New1.yN New1.yB 2 none, .initialized ST, .methodLink ST 27 New4.yN, .instanceMethod New4.yN,
  .code New4.yN New4.yB 6 none, .fieldLink ST 38 ST "COMPACT_STRINGS" "Z", .laysFinal ST ST "value" "[B", .fieldLink ST 9 ST "value" "[B", .laysFinal ST ST "coder" "B", .fieldLink ST 15 ST "coder" "B",
  .methodLink ST 1 Lib.objectInit, .instanceMethod Lib.objectInit, .code Lib.objectInit ⟨#[0xb1]⟩ 1 none, .methodLink ST 177 Cmp3.yN, .static Cmp3.yN, .methodLink ST 47 CodL.yN, .static CodL.yN,
  .code Cmp3.yN Cmp3.yB 6 (some (.array .byte)), .initialized U16, .arrayClass .byte, .methodLink U16 115 Cmp5.yN, .static Cmp5.yN, .code Cmp5.yN Cmp5.yB 7 (some .int), .code CodL.yN CodL.yB 2 (some .byte)]
theorem tab_of {a : Array Value} {s : State} (h : ∀ w ∈ words, w.before a s = true) : New1.tab.before a s = true := by
  have h5 : Cmp5.tab.before a s = true := unparts (wk h (.code Cmp5.yN Cmp5.yB 7 (some .int))) (wks h (.initialized Cmp5.yN.cls :: Cmp5.site))
  have hc : CodL.tab.before a s = true := unparts (wk h (.code CodL.yN CodL.yB 2 (some .byte))) (wks h (.initialized CodL.yN.cls :: CodL.site))
  have q5 : ∀ w ∈ Cmp5.tab :: words, w.before a s = true := fun w hw => (List.mem_cons.mp hw).elim (fun e => e ▸ h5) (h w)
  have h3 : Cmp3.tab.before a s = true := unparts (wk q5 (.code Cmp3.yN Cmp3.yB 6 (some (.array .byte)))) (wks q5 (.initialized Cmp3.yN.cls :: Cmp3.site))
  have q3 : ∀ w ∈ Cmp3.tab :: CodL.tab :: words, w.before a s = true := fun w hw => (List.mem_cons.mp hw).elim (fun e => e ▸ h3) fun hw => (List.mem_cons.mp hw).elim (fun e => e ▸ hc) (h w)
  have h4 : New4.tab.before a s = true := unparts (wk q3 (.code New4.yN New4.yB 6 none)) (wks q3 (.initialized New4.yN.cls :: New4.site))
  have q4 : ∀ w ∈ New4.tab :: words, w.before a s = true := fun w hw => (List.mem_cons.mp hw).elim (fun e => e ▸ h4) (h w)
  exact unparts (wk q4 (.code New1.yN New1.yB 2 none)) (wks q4 (.initialized New1.yN.cls :: New1.site))
/-- the words ride from the start Z to the walk's own state -/
theorem moved {Z s : State} {a0 args : Array Value} (hZ : Z.Warmed39 s.vm) (hw : ∀ d ∈ words, d.before a0 Z = true) : ∀ d ∈ words, d.before args s = true := fun d hd => by
  have q := hw d hd
  have t : ∀ d ∈ words, d = .arrayClass .byte ∨ (d.onTables && d.keepsFace) = true := by decide +kernel
  rcases t d hd with rfl | t
  · exact RoadKit.mvA hZ q
  · exact RoadKit.mv hZ q t
/-- WHAT COMES BACK, over the tables of the start Z: h the heap at the call, h' behind it -/
def Q (Z : State) (x : Addr) (A : Cell) (h : Heap) (v : Option Value) (h' : Heap) (L : List Loc) : Prop := v = none ∧ (∀ y ∈ L, y.base = x) ∧ RoadKit.Keep h h' [x] ∧ h'.size = h.size + 1 ∧ RoadKit.Exa Z h' x ST ∧ RoadKit.Fld Z h' x ST "value" "[B" (.ref h.size) ∧ RoadKit.Fld Z h' x ST "coder" "B" (.int 0) ∧
  (∃ V : Cell, RoadKit.Arr Z h' h.size V .byte ∧ V.vm = .none ∧ Z.vm.findClass "[B" = some V.cls ∧ V.slots.size = A.slots.size ∧ ∀ j, j < A.slots.size → V.slots[j]? = some (.int (lo8 (cv A j)))) ∧
  ∀ (O n d : String) (w : Value), RoadKit.Fld Z h x O n d w → RoadKit.slotOf Z O n d ≠ RoadKit.slotOf Z ST "value" "[B" → RoadKit.slotOf Z O n d ≠ RoadKit.slotOf Z ST "coder" "B" → RoadKit.Fld Z h' x O n d w
/-- **new String(chars) AT A CALL, IN THE ROAD'S FORM**: for specialBack behind newO: x the fresh String, b the char[] with the cell A -/
theorem back {p : Program} {l : Launch} {e : Env} {R : Room} {s : State} {args : Array Value} {below : List Frame} {len W : Nat} {Z : State} {a0 : Array Value} {h : Heap} (hZ : Z.Warmed39 s.vm) (hw : ∀ d ∈ words, d.before a0 Z = true) {kI : Nat} (wi : (Jvm.Cond.instantiable ST kI).before a0 Z = true)
    {x b : Addr} {A : Cell} {z : Int32} {v0 c0 : Value} (E : RoadKit.Exa Z h x ST) (V : RoadKit.Fld Z h x ST "value" "[B" v0) (C : RoadKit.Fld Z h x ST "coder" "B" c0) (K : RoadKit.Arr Z h b A .char) (hty : Typed .char A) (S : RoadKit.Sta Z h ST "COMPACT_STRINGS" "Z" (.int z)) (hz : ¬ z = 0)
    (l0 : 0 < A.slots.size) (l2 : A.slots.size ≤ 536870912) (hp : ∀ i, i < A.slots.size → ¬ 255 < cv A i) (hfr : 4 ≤ R.frames) (hlo : W + 65 ≤ R.locals) :
    Back l R p e below s args New1.yN len W (fun P a => a = #[.ref x, .ref b] ∧ P.U.heap = h ∧ P.cells + 1 ≤ R.cells ∧ P.slots + A.slots.size ≤ R.slots)
      (fun P _ v B => ∃ L, Q Z x A h v B.U.heap L ∧ B.locs = P.locs ++ L ∧ B.cells = P.cells + 1 ∧ B.slots = P.slots + A.slots.size) := by
  intro m meth c P g ig mk a X hg hsize hdg hW hn hp'
  obtain ⟨rfl, rfl, r1, r2⟩ := hp'
  have al : Z.vm.Alike P.U.vm := hZ.alike.trans X.warmed.alike
  obtain ⟨D, cfV, kV, iV, fV, hD, gV, stV, knV, obV, asV, slV⟩ := id V
  obtain ⟨D', cfC, kC, iC, fC, hD', gC, stC, -, -, asC, slC⟩ := id C
  cases hD.symm.trans hD'
  obtain ⟨D2, kD, e1, e2, e3, e4, e5⟩ := id E
  cases hD.symm.trans e1
  obtain ⟨c2, k2, i1, i2, i3, -⟩ := Cond.instantiable_spec wi
  cases e2.symm.trans i1
  cases e3.symm.trans i2
  obtain ⟨kU, u1, u2⟩ := al.2.2 _ _ e3
  have hB : Blank ST x D P.U := ⟨hD, ⟨knV, fun q hq => by rw [hq] at obV; cases obV⟩, by rw [al.findClass]; exact e2, kU, u1, by rw [u2]; exact i3, by rw [u2]; exact e5 i3⟩
  have F1 : Found ST "value" "[B" fV P.U := ⟨SBG.found_only al ⟨cfV, kV, iV, gV⟩, stV⟩
  have F2 : Found ST "coder" "B" fC P.U := ⟨SBG.found_only al ⟨cfC, kC, iC, gC⟩, stC⟩
  have hA : Ch b A P.U := ⟨⟨K.1, State.isArrayOf_alike al K.2.1, K.2.2, by omega⟩, hty⟩
  have hS : StaticIs P.U ST "COMPACT_STRINGS" "Z" (.int z) := by
    obtain ⟨cfS, iS, kS, fS, st, cS, t1, t2, t3, t4, t5, t6, t7⟩ := S
    exact StaticIs.there (s := { Z with heap := P.U.heap }) ⟨cfS, iS, kS, fS, st, cS, t1, t2, t3, t4, t5, (fun q => by rw [q] at t6; cases t6), t7⟩ al rfl
  obtain ⟨v, B, X', ⟨⟨hv, E', V', q1, q2, q3, q4, q5, q6, q7, q8, q9, q10, q11⟩, hl, hc, hs⟩, st⟩ := New1.pays x D fV fC b A z (tab_of (moved hZ hw)) hfr hlo m meth c P g ig mk _ X hg hsize hdg hW hn ⟨r1, r2, rfl, hB, F1, F2, hA, hS, hz, l0, l2, hp⟩
  have al' : Z.vm.Alike B.U.vm := hZ.alike.trans X'.warmed.alike
  have hsz : E'.slots.size = D.slots.size := by
    obtain ⟨-, -, -, kB, w1, w2, w3⟩ := q1
    obtain ⟨kB', y1, y2⟩ := al'.2.2 _ _ e3
    rw [q2.2.1] at w1
    cases w1.symm.trans y1
    rw [w3, e5 i3, y2]
  refine ⟨v, B, X', ⟨_, ⟨hv, ?_, ⟨by omega, fun y cy hy hn' => q10 y cy (by simpa using hn') hy, fun y cy hy => ?_⟩, q11, ⟨E', _, q1.1, by rw [q2.2.1]; exact e2, by rw [q2.2.1]; exact e3, by rw [q2.1]; exact obV, fun _ => by rw [hsz]; exact e5 i3⟩,
    ⟨E', cfV, kV, iV, fV, q1.1, gV, stV, by rw [q2.1]; exact knV, by rw [q2.1]; exact obV, by rw [q2.2.1]; exact asV, q3⟩, ⟨E', cfC, kC, iC, fC, q1.1, gC, stC, by rw [q2.1]; exact knV, by rw [q2.1]; exact obV, by rw [q2.2.1]; exact asC, q4⟩,
    ⟨V', ⟨q5.1, State.isArrayOf_alike al'.symm q5.2.1, q5.2.2.1⟩, q6, by rw [← al'.findClass]; exact q7, q8, fun j hj => by have := q9 j hj; rwa [Nat.zero_add] at this⟩, fun O n d w F n1 n2 => ?_⟩, hl, hc, hs⟩, st⟩
  · intro y hy
    simp only [List.mem_cons, List.not_mem_nil, or_false] at hy
    rcases hy with rfl | rfl <;> rfl
  · by_cases q : y = x
    · subst q
      cases hD.symm.trans hy
      exact ⟨E', q1.1, q2.2.1, q2.1, hsz⟩
    · exact ⟨cy, q10 y cy q hy, rfl, rfl, rfl⟩
  · obtain ⟨D3, cf, k, i, f, g1, g2, g3, g4, g5, g6, g7⟩ := F
    cases hD.symm.trans g1
    simp only [RoadKit.slotOf, g2, gV, gC, Option.map_some, Option.getD_some] at n1 n2
    exact ⟨E', cf, k, i, f, q1.1, g2, g3, by rw [q2.1]; exact g4, by rw [q2.1]; exact g5, by rw [q2.2.1]; exact g6, by rw [q2.2.2 f.slot (by simp [n1, n2])]; exact g7⟩
end StrChars.Road
namespace StrChars.Road
open Jvm Sem ClassFile Op Lib Jvm.Stand Jvm.Free Jvm.Free.XT
/-- WHAT COMES BACK, the byte[] as a list of values -/
def QA (Z : State) (x : Addr) (zn : Int32) (cs : List Int32) (h : Heap) (v : Option Value) (h' : Heap) (L : List Loc) : Prop := v = none ∧ (∀ y ∈ L, y.base = x) ∧ RoadKit.Keep h h' [x] ∧ h'.size = h.size + 1 ∧ RoadKit.Exa Z h' x ST ∧ RoadKit.Fld Z h' x ST "value" "[B" (.ref h.size) ∧ RoadKit.Fld Z h' x ST "coder" "B" (.int 0) ∧
  (∃ kb, Z.vm.findClass "[B" = some kb ∧ RoadKit.Arv Z h' h.size kb .byte zn (cs.map fun c => .int (lo8 c)) (.int 0)) ∧
  ∀ (O n d : String) (w : Value), RoadKit.Fld Z h x O n d w → RoadKit.slotOf Z O n d ≠ RoadKit.slotOf Z ST "value" "[B" → RoadKit.slotOf Z O n d ≠ RoadKit.slotOf Z ST "coder" "B" → RoadKit.Fld Z h' x O n d w
/-- **new String(chars) AT A CALL, THE ARRAYS AS LISTS**: the char[] at b holds cs, not empty, no char above 255 -/
theorem backArv {p : Program} {l : Launch} {e : Env} {R : Room} {s : State} {args : Array Value} {below : List Frame} {len W : Nat} {Z : State} {a0 : Array Value} {h : Heap} (hZ : Z.Warmed39 s.vm) (hw : ∀ d ∈ words, d.before a0 Z = true) {kI : Nat} (wi : (Jvm.Cond.instantiable ST kI).before a0 Z = true)
    {x b : Addr} {k : ClassId} {zn z : Int32} {cs : List Int32} {dv v0 c0 : Value} (E : RoadKit.Exa Z h x ST) (V : RoadKit.Fld Z h x ST "value" "[B" v0) (C : RoadKit.Fld Z h x ST "coder" "B" c0) (K : RoadKit.Arv Z h b k .char zn (cs.map Value.int) dv) (S : RoadKit.Sta Z h ST "COMPACT_STRINGS" "Z" (.int z)) (hz : ¬ z = 0)
    (hlen : zn.toNatClampNeg = cs.length) (h0 : 0 < cs.length) (hbig : cs.length ≤ 536870912) (hall : ∀ c ∈ cs, ¬ 255 < c) (hfr : 4 ≤ R.frames) (hlo : W + 65 ≤ R.locals) :
    Back l R p e below s args New1.yN len W (fun P a => a = #[.ref x, .ref b] ∧ P.U.heap = h ∧ P.cells + 1 ≤ R.cells ∧ P.slots + cs.length ≤ R.slots)
      (fun P _ v B => ∃ L, QA Z x zn cs h v B.U.heap L ∧ B.locs = P.locs ++ L ∧ B.cells = P.cells + 1 ∧ B.slots = P.slots + cs.length) := by
  obtain ⟨A, K1, K2, K3, K4, K5, K6⟩ := K
  have e : A.slots.size = cs.length := K3.trans hlen
  have hat : ∀ (i : Nat) (hi : i < cs.length), A.slots[i]? = some (.int cs[i]) := fun i hi => by rw [K5 i (by omega)]; simp [List.getD_eq_getElem?_getD, hi]
  have hcv : ∀ (i : Nat) (hi : i < cs.length), cv A i = cs[i] := fun i hi => by unfold cv; rw [hat i hi]
  have hty : Typed .char A := fun i v hv => by
    have hi : i < A.slots.size := (Array.getElem?_eq_some_iff.mp hv).1
    have q := K5 i hi
    rw [hv] at q
    rw [Option.some.inj q]
    exact K6 i hi
  refine Back.mono (back hZ hw wi E V C K1 hty S hz (by omega) (by omega) (fun i hi => by rw [hcv i (by omega)]; exact hall _ (List.getElem_mem _)) hfr hlo) (fun P a hp => ⟨hp.1, hp.2.1, hp.2.2.1, by rw [e]; exact hp.2.2.2⟩) (fun P a v B hp hq => ?_)
  obtain ⟨L, ⟨q1, q2, q3, q4, q5, q6, q7, ⟨V', v1, v2, v3, v4, v5⟩, q9⟩, hl, hc, hs⟩ := hq
  refine ⟨L, ⟨q1, q2, q3, q4, q5, q6, q7, ⟨V'.cls, v3, V', v1, rfl, by rw [v4, e, hlen], K4, fun i hi => ?_, fun i hi => ?_⟩, q9⟩, hl, hc, by rw [hs, e]⟩
  · have hi' : i < cs.length := by omega
    rw [v5 i (by omega), hcv i hi']; simp [List.getD_eq_getElem?_getD, hi']
  · have hi' : i < cs.length := by omega
    simp only [List.getD_eq_getElem?_getD, List.getElem?_map, List.getElem?_eq_getElem hi', Option.map_some, Option.getD_some]
    exact fits_lo8 _
end StrChars.Road
namespace StrChars.Road
open Jvm Sem ClassFile Op Lib Jvm.Stand Jvm.Free Jvm.Free.XT
/-- WHAT COMES BACK, in the writer's own shape -/
def QV (Z : State) (x : Addr) (N : Int32) (bs : List Int32) (h : Heap) (n0 : Nat) (v : Option Value) (h' : Heap) (L : List Loc) : Prop := v = none ∧ RoadKit.Fr n0 L ∧ RoadKit.Keep h h' [x] ∧ RoadKit.Exa Z h' x ST ∧ RoadKit.Fld Z h' x ST "coder" "B" (.int 0) ∧
  ∃ (t : Addr) (kb : ClassId), n0 ≤ t ∧ h.size ≤ t ∧ ¬ t = x ∧ RoadKit.Fld Z h' x ST "value" "[B" (.ref t) ∧ RoadKit.Arv Z h' t kb .byte N (bs.map Value.int) (.int 0)
/-- **new String(chars) AT A CALL, FOR THE WRITER**: a char[] of n known ints, each 0 to 255 -/
theorem backV {p : Program} {l : Launch} {e : Env} {R : Room} {s : State} {args : Array Value} {below : List Frame} {len W : Nat} {Z : State} {a0 : Array Value} {h : Heap} (hZ : Z.Warmed39 s.vm) (hw : ∀ d ∈ words, d.before a0 Z = true) {kI : Nat} (wi : (Jvm.Cond.instantiable ST kI).before a0 Z = true)
    {x b : Addr} {kC : ClassId} {cs bs : List Int32} {d v0 c0 : Value} {z N : Int32} {n n0 : Nat} (hx0 : n0 ≤ x) (hh0 : n0 ≤ h.size) (E : RoadKit.Exa Z h x ST) (V : RoadKit.Fld Z h x ST "value" "[B" v0) (C : RoadKit.Fld Z h x ST "coder" "B" c0) (K : RoadKit.Arv Z h b kC .char N (cs.map Value.int) d) (S : RoadKit.Sta Z h ST "COMPACT_STRINGS" "Z" (.int z)) (hz : ¬ z = 0)
    (hn : cs.length = n) (hN : N = Int32.ofNat n) (l0 : 0 < n) (l2 : n ≤ 4000) (hp : ∀ c ∈ cs, ¬ c < 0 ∧ ¬ (255 : Int32) < c) (hb : bs = cs.map (fun c => c.toInt8.toInt32)) (hfr : 4 ≤ R.frames) (hlo : W + 65 ≤ R.locals) :
    Back l R p e below s args (⟨"java/lang/String", "<init>", "([C)V"⟩ : MethodName) len W (fun P a => a = #[.ref x, .ref b] ∧ P.U.heap = h ∧ P.cells + 1 ≤ R.cells ∧ P.slots + n ≤ R.slots)
      (fun P _ v B => ∃ L, QV Z x N bs h n0 v B.U.heap L ∧ B.locs = P.locs ++ L ∧ B.cells = P.cells + 1 ∧ B.slots = P.slots + n) := by
  subst hn hN hb
  refine Back.mono (backArv hZ hw wi E V C K S hz (n32 (by omega)) l0 (by omega) (fun c hc => (hp c hc).2) hfr hlo) (fun P a hp => hp) (fun P a v B hp hq => ?_)
  obtain ⟨L, ⟨q1, q2, q3, q4, q5, q6, q7, ⟨kb, v1, v2⟩, q9⟩, hl, hc, hs⟩ := hq
  exact ⟨L, ⟨q1, fun y hy => by rw [q2 y hy]; exact hx0, q3, q5, q7, h.size, kb, hh0, Nat.le_refl _, Nat.ne_of_gt E.lt, q6, by rw [List.map_map]; exact v2⟩, hl, hc, hs⟩
end StrChars.Road
namespace StrChars
open Jvm Sem ClassFile Op Lib Jvm.Stand Jvm.Free.XT Jvm.Free.ALB Jvm.Free.JM Jvm.Free
open Jvm.Lib.Cold (StaticIs)
def hi8 (x : Int32) : Int32 := lo8 (x >>> ((8 : Int32) &&& 31))
/-- what StringUTF16.getChar makes of two bytes -/
def pairCh (u v : Int32) : Int32 := (((u &&& 255) <<< ((0 : Int32) &&& 31)) ||| ((v &&& 255) <<< ((8 : Int32) &&& 31))).toUInt32.toUInt16.toUInt32.toInt32
theorem shr0 (c : Int32) : c >>> ((0 : Int32) &&& 31) = c := by
  have e : ((0 : Int32) &&& 31) = 0 := by decide
  rw [e]
  apply Int32.toBitVec_inj.mp
  rw [Int32.toBitVec_shiftRight]
  have e1 : ((0 : Int32).toBitVec.smod 32) = 0#32 := by decide
  rw [e1, BitVec.sshiftRight_eq']
  exact BitVec.sshiftRight_zero
theorem lo8_and (x : Int32) : (lo8 x &&& 255).toBitVec.toNat = x.toBitVec.toNat % 256 := by
  have h : (lo8 x).toBitVec = (x.toBitVec.signExtend 8).signExtend 32 := by rw [lo8, Int8.toBitVec_toInt32, Int32.toBitVec_toInt8]
  rw [Int32.toBitVec_and, BitVec.toNat_and, h]
  have e : ((x.toBitVec.signExtend 8).signExtend 32).toNat % 256 = x.toBitVec.toNat % 256 := by
    rw [BitVec.toNat_signExtend]
    have hlt := x.toBitVec.isLt
    simp only [BitVec.toNat_setWidth, BitVec.toNat_signExtend]
    split <;> split <;> omega
  rw [← e]
  exact Nat.and_two_pow_sub_one_eq_mod _ 8
theorem pair_says {c : Int32} (h0 : ¬ c < 0) (h1 : ¬ 65535 < c) : pairCh (lo8 c) (hi8 c) = c := by
  rw [Int32.lt_iff_toInt_lt] at h0 h1
  have e0 : (0 : Int32).toInt = 0 := rfl
  have e1 : (65535 : Int32).toInt = 65535 := rfl
  have hc : c.toInt = c.toBitVec.toNat := by
    have := c.toBitVec.isLt
    have e : c.toInt = c.toBitVec.toInt := rfl
    rw [e] at h0 h1
    rw [e]
    rw [BitVec.toInt_eq_toNat_cond] at h0 h1 ⊢
    split at h0 <;> split <;> omega
  have hn : c.toBitVec.toNat < 65536 := by omega
  have a1 := lo8_and c
  have a2 : (hi8 c &&& 255).toBitVec.toNat = c.toBitVec.toNat / 256 := by
    rw [hi8, lo8_and]
    have e : ((8 : Int32) &&& 31) = 8 := by decide
    rw [e, Int32.toBitVec_shiftRight]
    have e2 : ((8 : Int32).toBitVec.smod 32) = 8#32 := by decide
    rw [e2, BitVec.sshiftRight_eq', BitVec.toNat_sshiftRight_of_msb_false (by rw [BitVec.msb_eq_false_iff_two_mul_lt]; omega)]
    show c.toBitVec.toNat >>> 8 % 256 = _
    rw [Nat.shiftRight_eq_div_pow]
    omega
  unfold pairCh
  apply Int32.toBitVec_inj.mp
  apply BitVec.eq_of_toNat_eq
  have f0 : ((0 : Int32) &&& 31) = 0 := by decide
  have f8 : ((8 : Int32) &&& 31) = 8 := by decide
  rw [f0, f8]
  have g : (((lo8 c &&& 255) <<< (0 : Int32)) ||| ((hi8 c &&& 255) <<< (8 : Int32))).toBitVec.toNat = c.toBitVec.toNat := by
    rw [Int32.toBitVec_or, Int32.toBitVec_shiftLeft, Int32.toBitVec_shiftLeft]
    have s0 : ((0 : Int32).toBitVec.smod 32) = 0#32 := by decide
    have s8 : ((8 : Int32).toBitVec.smod 32) = 8#32 := by decide
    rw [s0, s8, BitVec.toNat_or]
    simp only [BitVec.shiftLeft_eq', BitVec.toNat_shiftLeft, a1, a2]
    show (c.toBitVec.toNat % 256) <<< 0 % 2 ^ 32 ||| (c.toBitVec.toNat / 256) <<< 8 % 2 ^ 32 = _
    rw [Nat.shiftLeft_zero, Nat.mod_eq_of_lt (show c.toBitVec.toNat % 256 < 2 ^ 32 by omega), Nat.mod_eq_of_lt (show (c.toBitVec.toNat / 256) <<< 8 < 2 ^ 32 by rw [Nat.shiftLeft_eq]; omega), Nat.or_comm, ← Nat.shiftLeft_add_eq_or_of_lt (by omega), Nat.shiftLeft_eq]
    omega
  show BitVec.toNat (((((lo8 c &&& 255) <<< (0 : Int32)) ||| ((hi8 c &&& 255) <<< (8 : Int32))).toBitVec.setWidth 16).setWidth 32) = _
  rw [BitVec.toNat_setWidth, BitVec.toNat_setWidth, g]
  omega
end StrChars
namespace StrChars
open Jvm Sem ClassFile Op Lib Jvm.Stand Jvm.Free.XT Jvm.Free.ALB Jvm.Free.JM Jvm.Free
open Jvm.Lib.Cold (StaticIs)
theorem shr1 {n : Nat} (h : 2 * n < 2 ^ 31) : Int32.ofNat (2 * n) >>> ((1 : Int32) &&& 31) = Int32.ofNat n := by
  have e : ((1 : Int32) &&& 31) = 1 := by decide
  rw [e]
  apply Int32.toBitVec_inj.mp
  rw [Int32.toBitVec_shiftRight]
  have e1 : ((1 : Int32).toBitVec.smod 32) = 1#32 := by decide
  have hm : (BitVec.ofNat 32 (2 * n)).toNat = 2 * n := by rw [BitVec.toNat_ofNat, Nat.mod_eq_of_lt (by omega)]
  rw [e1, BitVec.sshiftRight_eq']
  apply BitVec.eq_of_toNat_eq
  show ((BitVec.ofNat 32 (2 * n)).sshiftRight 1).toNat = (BitVec.ofNat 32 n).toNat
  rw [BitVec.toNat_sshiftRight_of_msb_false (by rw [BitVec.msb_eq_false_iff_two_mul_lt, hm]; omega), hm, BitVec.toNat_ofNat, Nat.shiftRight_eq_div_pow]
  omega
/-- charAt's cast of a byte read back -/
def chr8 (u : Int32) : Int32 := (u &&& 255).toUInt32.toUInt16.toUInt32.toInt32
theorem chr8_lo8 {c : Int32} (h0 : ¬ c < 0) (h1 : ¬ 255 < c) : chr8 (lo8 c) = c := by
  have t : ∀ k : Fin 256, (Int32.ofNat k.val).toUInt32.toUInt16.toUInt32.toInt32 = Int32.ofNat k.val := by decide +kernel
  unfold chr8
  rw [lo8_mask h0 h1]
  rw [Int32.lt_iff_toInt_lt] at h0 h1
  have e0 : (0 : Int32).toInt = 0 := rfl
  have e1 : (255 : Int32).toInt = 255 := rfl
  obtain ⟨k, hk⟩ : ∃ k : Nat, c.toInt = k := ⟨c.toInt.toNat, by omega⟩
  have hx : c = Int32.ofNat k := Int32.toInt_inj.mp (by rw [hk, Int32.toInt_ofNat_small (by omega)])
  rw [hx]
  exact t ⟨k, by omega⟩
theorem narrow_ch {c : Int32} (h0 : ¬ c < 0) (h1 : ¬ 65535 < c) : narrow .char (.int c) = .int c := by
  have q : narrow .char (.int (pairCh (lo8 c) (hi8 c))) = .int (pairCh (lo8 c) (hi8 c)) := narrow_c _
  rwa [pair_says h0 h1] at q
/-- the array's cell V codes the n chars f 0 .. f (n - 1) by the coder cd, as the JDK does: coder 1 just where some char is above 255 -/
def Cod (cd : Int32) (n : Nat) (f : Nat → Int32) (V : Cell) : Prop := (cd = 0 ∧ V.slots.size = n ∧ ∀ j, j < n → V.slots[j]? = some (.int (lo8 (f j))) ∧ ¬ 255 < f j) ∨ (cd = 1 ∧ V.slots.size = 2 * n ∧ (∀ j, j < n → V.slots[2 * j]? = some (.int (lo8 (f j))) ∧ V.slots[2 * j + 1]? = some (.int (hi8 (f j)))) ∧ ∃ j, j < n ∧ 255 < f j)
theorem Cod.cd {cd : Int32} {n : Nat} {f : Nat → Int32} {V : Cell} (h : Cod cd n f V) : cd = 0 ∨ cd = 1 := h.imp (fun q => q.1) fun q => q.1
theorem Cod.len {cd : Int32} {n : Nat} {f : Nat → Int32} {V : Cell} (h : Cod cd n f V) (hs : V.slots.size < 2 ^ 31) : Int32.ofNat V.slots.size >>> (cd &&& 31) = Int32.ofNat n := by
  rcases h with ⟨rfl, h, -⟩ | ⟨rfl, h, -⟩
  · rw [shr0, h]
  · rw [h, shr1 (by omega)]
/-- **x is a String of the n chars f 0 .. f (n - 1)**, Latin-1 or UTF-16; its array at t has the cell V -/
def Txt (x t : Addr) (V : Cell) (cd : Int32) (n : Nat) (f : Nat → Int32) (U : State) : Prop := Exact "java/lang/String" x U ∧ Has x "java/lang/String" "value" "[B" (.ref t) U ∧ Has x "java/lang/String" "coder" "B" (.int cd) U ∧ XT.Arr .byte t V U ∧ Cod cd n f V ∧ ∀ j, j < n → ¬ f j < 0 ∧ ¬ 65535 < f j
theorem Txt.mv {x t : Addr} {V : Cell} {cd : Int32} {n : Nat} {f : Nat → Int32} {U U' : State} (h : Txt x t V cd n f U) (hal : U.vm.Alike U'.vm) (hh : U'.heap = U.heap) : Txt x t V cd n f U' := ⟨h.1.mv hal hh, h.2.1.mv hal hh, h.2.2.1.mv hal hh, h.2.2.2.1.mv hal hh, h.2.2.2.2⟩
namespace Cdr
def yN : MethodName := ⟨"java/lang/String", "coder", "()B"⟩
abbrev yB : ByteArray := jdk_42_method_152_code
theorem d0 : decode yB 0 = .ok (.getstatic 38, 3) := by decide +kernel
theorem d3 : decode yB 3 = .ok (.ifCond (.eq) 10, 3) := by decide +kernel
theorem d6 : decode yB 6 = .ok (.aload_n 0, 1) := by decide +kernel
theorem d7 : decode yB 7 = .ok (.getfield 15, 3) := by decide +kernel
theorem d10 : decode yB 10 = .ok (.goto 4, 3) := by decide +kernel
theorem d14 : decode yB 14 = .ok (.ireturn, 1) := by decide +kernel
def site : List Cond := [.fieldLink "java/lang/String" 38 "java/lang/String" "COMPACT_STRINGS" "Z", .fieldLink "java/lang/String" 15 "java/lang/String" "coder" "B"]
def tab : Cond := tabOf yN yB 1 (some .byte) site
def P (x : Addr) (cd z : Int32) (args : Array Value) (s : State) : Prop := args = #[.ref x] ∧ Has x "java/lang/String" "coder" "B" (.int cd) s ∧ (cd = 0 ∨ cd = 1) ∧ StaticIs s "java/lang/String" "COMPACT_STRINGS" "Z" (.int z) ∧ ¬ z = 0
def E (cd : Int32) (r : Option Value) (s u : State) : Prop := XT.PureE (some (.int cd)) r s u
theorem law (l : Launch) (x : Addr) (cd z : Int32) : Law l yN 1 0 0 0 yB 1 (some .byte) site (P x cd z) (E cd) [] 0 0 := by
  refine Law.of_walk (plainFor_of_name (by decide +kernel)) (by decide +kernel) (by decide +kernel) (by decide) (fun _ _ h => by rw [h.1]; rfl) (fun _ U U' hal hh h => ⟨h.1, h.2.1.mv hal hh, h.2.2.1, h.2.2.2.1.there hal hh, h.2.2.2.2⟩) (fun r U U' V V' h1 hal h2 h => XT.PureE.mv r U U' V V' h1 hal h2 h) ?_
  intro p e s m args below meth c s₁ X0 hexec hbytes hml hret hlk hnm hown hh0 W hP
  obtain ⟨rfl, hx, hc, s1, hz⟩ := hP
  have c1 : Steps p.tables e below (s₁.setTop (entryFrame m #[.ref x] 1)) (s₁.setTop (mkF m 0 #[.val (.ref x)] [])) := entry rfl
  obtain ⟨T2, X2, q2, st2⟩ := X0.sget hexec hown (wk W (.fieldLink "java/lang/String" 38 "java/lang/String" "COMPACT_STRINGS" "Z")) s1 (fun _ _ h => by rw [hh0]; exact h) (g := (mkF m 0 #[.val (.ref x)] [])) rfl (hb hbytes d0)
  have hh2 := q2.trans hh0
  have c3 : Steps p.tables e below (s₁.setTop (entryFrame m #[.ref x] 1)) (T2.setTop (mkF m 7 #[.val (.ref x)] [.ref x])) := (c1.trans (st2 _ (Steps.refl _))).trans (by
    refine XS.ifNo X2.here hexec rfl (hb hbytes d3) rfl (i0_eq_f hz) ?_
    refine XS.aloadN X2.here hexec rfl (hb hbytes d6) rfl rfl ?_
    exact Steps.refl _)
  obtain ⟨T4, X4, q4, st4⟩ := X2.hget hexec hown (wk W (.fieldLink "java/lang/String" 15 "java/lang/String" "coder" "B")) (hx.mv X2.warmed.alike hh2) (g := (mkF m 7 #[.val (.ref x)] [.ref x])) rfl (rest := []) rfl (hb hbytes d7)
  have c5 : Steps p.tables e below (s₁.setTop (entryFrame m #[.ref x] 1)) (T4.setTop (mkF m 14 #[.val (.ref x)] [.int cd])) := (c3.trans (st4 _ (Steps.refl _))).trans (by
    refine XS.goto X4.here hexec rfl (pc0 := 10) rfl (hb hbytes d10) (by decide) rfl ?_
    exact Steps.refl _)
  exact ⟨T4, some (.int cd), _, _, _, X4, rfl, rfl, rfl, (fun h => by cases h), ⟨rfl, q4.trans hh2⟩, fun fs hl => c5.trans (X4.ireturnOut hexec hret (by rcases hc with rfl | rfl <;> rfl) (Or.inr (Or.inr (Or.inl rfl))) (hb hbytes d14) hl)⟩
end Cdr
namespace Len
def yN : MethodName := ⟨"java/lang/String", "length", "()I"⟩
abbrev yB : ByteArray := jdk_42_method_54_code
theorem d0 : decode yB 0 = .ok (.aload_n 0, 1) := by decide +kernel
theorem d1 : decode yB 1 = .ok (.getfield 9, 3) := by decide +kernel
theorem d4 : decode yB 4 = .ok (.arraylength, 1) := by decide +kernel
theorem d5 : decode yB 5 = .ok (.aload_n 0, 1) := by decide +kernel
theorem d6 : decode yB 6 = .ok (.invokevirtual 335, 3) := by decide +kernel
theorem d9 : decode yB 9 = .ok (.ishr, 1) := by decide +kernel
theorem d10 : decode yB 10 = .ok (.ireturn, 1) := by decide +kernel
def site : List Cond := [.fieldLink "java/lang/String" 9 "java/lang/String" "value" "[B", Cdr.tab] ++ virtW "java/lang/String" 335 "java/lang/String" Cdr.yN Cdr.yN
def tab : Cond := tabOf yN yB 1 (some .int) site
def P (x t : Addr) (V : Cell) (cd : Int32) (n : Nat) (f : Nat → Int32) (z : Int32) (args : Array Value) (s : State) : Prop := args = #[.ref x] ∧ Txt x t V cd n f s ∧ StaticIs s "java/lang/String" "COMPACT_STRINGS" "Z" (.int z) ∧ ¬ z = 0
def E (n : Nat) (r : Option Value) (s u : State) : Prop := XT.PureE (some (.int (Int32.ofNat n))) r s u
/-- length() of a String of n chars, in either coding -/
theorem law (l : Launch) (x t : Addr) (V : Cell) (cd : Int32) (n : Nat) (f : Nat → Int32) (z : Int32) : Law l yN 1 0 1 13 yB 1 (some .int) site (P x t V cd n f z) (E n) [] 0 0 := by
  refine Law.of_walk (plainFor_of_name (by decide +kernel)) (by decide +kernel) (by decide +kernel) (by decide) (fun _ _ h => by rw [h.1]; rfl) (fun _ U U' hal hh h => ⟨h.1, h.2.1.mv hal hh, h.2.2.1.there hal hh, h.2.2.2⟩) (fun r U U' V V' h1 hal h2 h => XT.PureE.mv r U U' V V' h1 hal h2 h) ?_
  intro p e s m args below meth c s₁ X0 hexec hbytes hml hret hlk hnm hown hh0 W hP
  obtain ⟨rfl, hx, s1, hz⟩ := hP
  have v31 := hx.2.2.2.1.2.2.2
  have c1 : Steps p.tables e below (s₁.setTop (entryFrame m #[.ref x] 1)) (s₁.setTop (mkF m 1 #[.val (.ref x)] [.ref x])) := Steps.trans (entry rfl) (by
    show Steps p.tables e below (s₁.setTop (mkF m 0 #[.val (.ref x)] [])) _
    refine XS.aloadN X0.here hexec rfl (hb hbytes d0) rfl rfl ?_
    exact Steps.refl _)
  obtain ⟨T2, X2, q2, st2⟩ := X0.hget hexec hown (wk W (.fieldLink "java/lang/String" 9 "java/lang/String" "value" "[B")) (hx.mv X0.warmed.alike hh0).2.1 (g := (mkF m 1 #[.val (.ref x)] [.ref x])) rfl (rest := []) rfl (hb hbytes d1)
  have hh2 := q2.trans hh0
  have hx2 := hx.mv X2.warmed.alike hh2
  have c3 : Steps p.tables e below (s₁.setTop (entryFrame m #[.ref x] 1)) (T2.setTop (mkF m 6 #[.val (.ref x)] [.ref x, .int (Int32.ofNat V.slots.size)])) := (c1.trans (st2 _ (Steps.refl _))).trans (by
    refine X2.alen hexec hx2.2.2.2.1 rfl rfl (hb hbytes d4) ?_
    refine XS.aloadN X2.here hexec rfl (hb hbytes d5) rfl rfl ?_
    exact Steps.refl _)
  obtain ⟨v4, T4, X4, E4, g4⟩ := X2.callV hexec (Cdr.law l x cd z) hown (wks W (virtW "java/lang/String" 335 "java/lang/String" Cdr.yN Cdr.yN)) rfl (by decide) (wk W Cdr.tab) (W := 1) (Nat.le_of_ble_eq_true rfl) (Nat.le_of_ble_eq_true rfl) (Nat.le_refl _) (Nat.le_refl _) (hx2.1.fc X2.warmed.alike) hx2.1.is (g := (mkF m 6 #[.val (.ref x)] [.ref x, .int (Int32.ofNat V.slots.size)])) rfl (by rw [hml]; rfl) c3 (argsL := []) (rest := [.int (Int32.ofNat V.slots.size)]) rfl rfl (by show 2 * 0 + (1 + 0) ≤ _; decide) (hb hbytes d6) (⟨rfl, hx2.2.2.1, hx.2.2.2.2.1.cd, s1.there X2.warmed.alike hh2, hz⟩)
  obtain ⟨rfl, q4⟩ := E4
  have c5 : Steps p.tables e below (s₁.setTop (entryFrame m #[.ref x] 1)) (T4.setTop (mkF m 10 #[.val (.ref x)] [.int (Int32.ofNat V.slots.size >>> (cd &&& 31))])) := Steps.trans g4 (by
    refine ishr X4.here hexec rfl (hb hbytes d9) rfl ?_
    exact Steps.refl _)
  rw [hx.2.2.2.2.1.len v31] at c5
  exact ⟨T4, some (.int (Int32.ofNat n)), _, _, _, X4, rfl, rfl, rfl, (fun h => by cases h), ⟨rfl, q4.trans hh2⟩, fun fs hl => c5.trans (X4.ireturnOut hexec hret rfl (Or.inl rfl) (hb hbytes d10) hl)⟩
theorem pays {l : Launch} {R : Room} {p : Program} {e : Env} {below : List Frame} {s : State} {sargs : Array Value} {len W : Nat} (x t : Addr) (V : Cell) (cd : Int32) (n : Nat) (f : Nat → Int32) (z : Int32) (htab : tab.before sargs s = true) (hfr : 2 ≤ R.frames) (hlo : W + 25 ≤ R.locals) :
    Back l R p e below s sargs yN len W (fun A₁ a₁ => A₁.cells + 0 ≤ R.cells ∧ A₁.slots + 0 ≤ R.slots ∧ P x t V cd n f z a₁ A₁.U) (fun A₁ _ v₁ B₁ => E n v₁ A₁.U B₁.U ∧ B₁.locs = A₁.locs ++ [] ∧ B₁.cells = A₁.cells + 0 ∧ B₁.slots = A₁.slots + 0) :=
  (law l x t V cd n f z).pays htab hfr (by omega)
end Len
namespace IsL
def yN : MethodName := ⟨"java/lang/String", "isLatin1", "()Z"⟩
abbrev yB : ByteArray := jdk_42_method_154_code
theorem d0 : decode yB 0 = .ok (.getstatic 38, 3) := by decide +kernel
theorem d3 : decode yB 3 = .ok (.ifCond (.eq) 14, 3) := by decide +kernel
theorem d6 : decode yB 6 = .ok (.aload_n 0, 1) := by decide +kernel
theorem d7 : decode yB 7 = .ok (.getfield 15, 3) := by decide +kernel
theorem d10 : decode yB 10 = .ok (.ifCond (.ne) 7, 3) := by decide +kernel
theorem d13 : decode yB 13 = .ok (.iconst 1, 1) := by decide +kernel
theorem d14 : decode yB 14 = .ok (.goto 4, 3) := by decide +kernel
theorem d17 : decode yB 17 = .ok (.iconst 0, 1) := by decide +kernel
theorem d18 : decode yB 18 = .ok (.ireturn, 1) := by decide +kernel
def site : List Cond := [.fieldLink "java/lang/String" 38 "java/lang/String" "COMPACT_STRINGS" "Z", .fieldLink "java/lang/String" 15 "java/lang/String" "coder" "B"]
def tab : Cond := tabOf yN yB 1 (some .boolean) site
def P (x : Addr) (cd z : Int32) (args : Array Value) (s : State) : Prop := args = #[.ref x] ∧ Has x "java/lang/String" "coder" "B" (.int cd) s ∧ (cd = 0 ∨ cd = 1) ∧ StaticIs s "java/lang/String" "COMPACT_STRINGS" "Z" (.int z) ∧ ¬ z = 0
def E (cd : Int32) (r : Option Value) (s u : State) : Prop := XT.PureE (some (.int (1 - cd))) r s u
theorem law (l : Launch) (x : Addr) (cd z : Int32) : Law l yN 1 0 0 0 yB 1 (some .boolean) site (P x cd z) (E cd) [] 0 0 := by
  refine Law.of_walk (plainFor_of_name (by decide +kernel)) (by decide +kernel) (by decide +kernel) (by decide) (fun _ _ h => by rw [h.1]; rfl) (fun _ U U' hal hh h => ⟨h.1, h.2.1.mv hal hh, h.2.2.1, h.2.2.2.1.there hal hh, h.2.2.2.2⟩) (fun r U U' V V' h1 hal h2 h => XT.PureE.mv r U U' V V' h1 hal h2 h) ?_
  intro p e s m args below meth c s₁ X0 hexec hbytes hml hret hlk hnm hown hh0 W hP
  obtain ⟨rfl, hx, hc, s1, hz⟩ := hP
  have c1 : Steps p.tables e below (s₁.setTop (entryFrame m #[.ref x] 1)) (s₁.setTop (mkF m 0 #[.val (.ref x)] [])) := entry rfl
  obtain ⟨T2, X2, q2, st2⟩ := X0.sget hexec hown (wk W (.fieldLink "java/lang/String" 38 "java/lang/String" "COMPACT_STRINGS" "Z")) s1 (fun _ _ h => by rw [hh0]; exact h) (g := (mkF m 0 #[.val (.ref x)] [])) rfl (hb hbytes d0)
  have hh2 := q2.trans hh0
  have c3 : Steps p.tables e below (s₁.setTop (entryFrame m #[.ref x] 1)) (T2.setTop (mkF m 7 #[.val (.ref x)] [.ref x])) := (c1.trans (st2 _ (Steps.refl _))).trans (by
    refine XS.ifNo X2.here hexec rfl (hb hbytes d3) rfl (i0_eq_f hz) ?_
    refine XS.aloadN X2.here hexec rfl (hb hbytes d6) rfl rfl ?_
    exact Steps.refl _)
  obtain ⟨T4, X4, q4, st4⟩ := X2.hget hexec hown (wk W (.fieldLink "java/lang/String" 15 "java/lang/String" "coder" "B")) (hx.mv X2.warmed.alike hh2) (g := (mkF m 7 #[.val (.ref x)] [.ref x])) rfl (rest := []) rfl (hb hbytes d7)
  have c5 : Steps p.tables e below (s₁.setTop (entryFrame m #[.ref x] 1)) (T4.setTop (mkF m 10 #[.val (.ref x)] [.int cd])) := c3.trans (st4 _ (Steps.refl _))
  have c6 : Steps p.tables e below (s₁.setTop (entryFrame m #[.ref x] 1)) (T4.setTop (mkF m 18 #[.val (.ref x)] [.int (1 - cd)])) := by
    rcases hc with rfl | rfl
    · exact c5.trans (by
        refine XS.ifNo X4.here hexec rfl (hb hbytes d10) rfl (i0_ne_f rfl) ?_
        refine iconstV X4.here hexec rfl 1 (hb hbytes d13) (by decide) ?_
        refine XS.goto X4.here hexec rfl (pc0 := 14) rfl (hb hbytes d14) (by decide) rfl ?_
        exact Steps.refl _)
    · exact c5.trans (by
        refine XS.ifYes X4.here hexec rfl (pc0 := 10) rfl (hb hbytes d10) rfl (i0_ne_t (by decide)) (by decide) rfl ?_
        refine iconstV X4.here hexec rfl 0 (hb hbytes d17) (by decide) ?_
        exact Steps.refl _)
  exact ⟨T4, some (.int (1 - cd)), _, _, _, X4, rfl, rfl, rfl, (fun h => by cases h), ⟨rfl, q4.trans hh2⟩, fun fs hl => c6.trans (X4.ireturnOut hexec hret (by rcases hc with rfl | rfl <;> rfl) (Or.inr (Or.inl rfl)) (hb hbytes d18) hl)⟩
end IsL
namespace LChA
def yN : MethodName := ⟨"java/lang/StringLatin1", "charAt", "([BI)C"⟩
abbrev yB : ByteArray := jdk_43_method_2_code
theorem d0 : decode yB 0 = .ok (.iload_n 1, 1) := by decide +kernel
theorem d1 : decode yB 1 = .ok (.aload_n 0, 1) := by decide +kernel
theorem d2 : decode yB 2 = .ok (.arraylength, 1) := by decide +kernel
theorem d3 : decode yB 3 = .ok (.invokestatic 9, 3) := by decide +kernel
theorem d6 : decode yB 6 = .ok (.aload_n 0, 1) := by decide +kernel
theorem d7 : decode yB 7 = .ok (.iload_n 1, 1) := by decide +kernel
theorem d8 : decode yB 8 = .ok (.baload, 1) := by decide +kernel
theorem d9 : decode yB 9 = .ok (.sipush 255, 3) := by decide +kernel
theorem d12 : decode yB 12 = .ok (.iand, 1) := by decide +kernel
theorem d13 : decode yB 13 = .ok (.i2c, 1) := by decide +kernel
theorem d14 : decode yB 14 = .ok (.ireturn, 1) := by decide +kernel
def site : List Cond := [JO.Str_checkIndex.tab] ++ staticW "java/lang/StringLatin1" 9 JO.Str_checkIndex.yN
def tab : Cond := tabOf yN yB 2 (some .char) site
def P (t : Addr) (V : Cell) (i : Nat) (u : Int32) (fm : Value) (args : Array Value) (s : State) : Prop := args = #[.ref t, .int (Int32.ofNat i)] ∧ XT.Arr .byte t V s ∧ V.slots[i]? = some (.int u) ∧ (StaticIs s "jdk/internal/util/Preconditions" "SIOOBE_FORMATTER" "Ljava/util/function/BiFunction;" fm ∧ fm.isRef = true)
def E (u : Int32) (r : Option Value) (s w : State) : Prop := XT.PureE (some (.int (chr8 u))) r s w
theorem law (l : Launch) (t : Addr) (V : Cell) (i : Nat) (u : Int32) (fm : Value) : Law l yN 2 2 2 27 yB 2 (some .char) site (P t V i u fm) (E u) [] 0 0 := by
  refine Law.of_walk (plainFor_of_name (by decide +kernel)) (by decide +kernel) (by decide +kernel) (by decide) (fun _ _ h => by rw [h.1]; rfl) (fun _ U U' hal hh h => ⟨h.1, h.2.1.mv hal hh, h.2.2.1, h.2.2.2.1.there hal hh, h.2.2.2.2⟩) (fun r U U' V V' h1 hal h2 h => XT.PureE.mv r U U' V V' h1 hal h2 h) ?_
  intro p e s m args below meth c s₁ X0 hexec hbytes hml hret hlk hnm hown hh0 W hP
  obtain ⟨rfl, hV, hu, s1, rf⟩ := hP
  have v31 := hV.2.2.2
  have hi : i < V.slots.size := (Array.getElem?_eq_some_iff.mp hu).1
  have c1 : Steps p.tables e below (s₁.setTop (entryFrame m #[.ref t, .int (Int32.ofNat i)] 2)) (s₁.setTop (mkF m 0 #[.val (.ref t), .val (.int (Int32.ofNat i))] [])) := entry rfl
  have c2 : Steps p.tables e below (s₁.setTop (entryFrame m #[.ref t, .int (Int32.ofNat i)] 2)) (s₁.setTop (mkF m 3 #[.val (.ref t), .val (.int (Int32.ofNat i))] [.int (Int32.ofNat V.slots.size), .int (Int32.ofNat i)])) := c1.trans (by
    refine XS.iloadN X0.here hexec rfl (hb hbytes d0) rfl ?_
    refine XS.aloadN X0.here hexec rfl (hb hbytes d1) rfl rfl ?_
    refine X0.alen hexec (hV.mv X0.warmed.alike hh0) rfl rfl (hb hbytes d2) ?_
    exact Steps.refl _)
  obtain ⟨v3, T3, X3, E3, g3⟩ := X0.callS hexec (JO.Str_checkIndex.law l (Int32.ofNat i) (Int32.ofNat V.slots.size) fm) hown (wks W (staticW "java/lang/StringLatin1" 9 JO.Str_checkIndex.yN)) (wk W JO.Str_checkIndex.tab) (W := 0) (Nat.le_of_ble_eq_true rfl) (Nat.le_of_ble_eq_true rfl) (Nat.le_refl _) (Nat.le_refl _) (g := (mkF m 3 #[.val (.ref t), .val (.int (Int32.ofNat i))] [.int (Int32.ofNat V.slots.size), .int (Int32.ofNat i)])) rfl (by rw [hml]; rfl) c2 (argsL := [.int (Int32.ofNat i), .int (Int32.ofNat V.slots.size)]) (rest := []) rfl rfl (by show 2 * 0 + 0 ≤ _; decide) (hb hbytes d3) (⟨rfl, rf, s1.there X0.warmed.alike hh0, Int32.ofNat_not_neg (by omega), lt32 v31 hi⟩)
  obtain ⟨rfl, q3⟩ := E3
  have hh3 := q3.trans hh0
  have c4 : Steps p.tables e below (s₁.setTop (entryFrame m #[.ref t, .int (Int32.ofNat i)] 2)) (T3.setTop (mkF m 14 #[.val (.ref t), .val (.int (Int32.ofNat i))] [.int (chr8 u)])) := Steps.trans g3 (by
    refine XS.aloadN X3.here hexec rfl (hb hbytes d6) rfl rfl ?_
    refine XS.iloadN X3.here hexec rfl (hb hbytes d7) rfl ?_
    refine X3.aget hexec (hV.mv X3.warmed.alike hh3) rfl hu rfl rfl (hb hbytes d8) ?_
    refine sipushV X3.here hexec rfl 255 (hb hbytes d9) (by decide) ?_
    refine XS.iand X3.here hexec rfl (hb hbytes d12) rfl ?_
    refine i2c X3.here hexec rfl (hb hbytes d13) rfl ?_
    exact Steps.refl _)
  exact ⟨T3, some (.int (chr8 u)), _, _, _, X3, rfl, rfl, rfl, (fun h => by cases h), ⟨rfl, hh3⟩, fun fs hl => c4.trans (X3.ireturnOut hexec hret (narrow_c _) (Or.inr (Or.inr (Or.inr (Or.inl rfl)))) (hb hbytes d14) hl)⟩
end LChA
end StrChars
namespace StrChars.Road
open Jvm Sem ClassFile Op Lib Jvm.Stand Jvm.Free Jvm.Free.XT
open Jvm.Lib.Cold (StaticIs)
theorem consq {a : Array Value} {s : State} {c : Jvm.Cond} {L : List Jvm.Cond} (h0 : c.before a s = true) (h : ∀ w ∈ L, w.before a s = true) : ∀ w ∈ c :: L, w.before a s = true := fun w hw => (List.mem_cons.mp hw).elim (fun e => e ▸ h0) (h w)
/-- the words of String.length(), either coding -/
abbrev wordsLen : List Jvm.Cond := [.code Len.yN Len.yB 1 (some .int), .initialized ST, .fieldLink ST 9 ST "value" "[B", .fieldLink ST 38 ST "COMPACT_STRINGS" "Z", .fieldLink ST 15 ST "coder" "B", .code Cdr.yN Cdr.yB 1 (some .byte), .methodLink ST 335 Cdr.yN, .declares Cdr.yN, .selects ST Cdr.yN Cdr.yN, .instanceMethod Cdr.yN]
theorem tabLen_of {a : Array Value} {s : State} (h : ∀ w ∈ wordsLen, w.before a s = true) : Len.tab.before a s = true := by
  have hc : Cdr.tab.before a s = true := unparts (wk h (.code Cdr.yN Cdr.yB 1 (some .byte))) (wks h (.initialized Cdr.yN.cls :: Cdr.site))
  have q := consq hc h
  exact unparts (wk q (.code Len.yN Len.yB 1 (some .int))) (wks q (.initialized Len.yN.cls :: Len.site))
theorem movedLen {Z s : State} {a0 args : Array Value} (hZ : Z.Warmed39 s.vm) (hw : ∀ d ∈ wordsLen, d.before a0 Z = true) : ∀ d ∈ wordsLen, d.before args s = true := fun d hd => by
  have q := hw d hd
  have t : ∀ d ∈ wordsLen, d = .arrayClass .byte ∨ (d.onTables && d.keepsFace) = true := by decide +kernel
  rcases t d hd with rfl | t
  · exact RoadKit.mvA hZ q
  · exact RoadKit.mv hZ q t
/-- the bytes of the chars cs, low before high -/
def wideBytes : List Int32 → List Value
  | [] => []
  | c :: cs => .int (lo8 c) :: .int (hi8 c) :: wideBytes cs
theorem wide_lo (d : Value) : ∀ (cs : List Int32) (j : Nat), j < cs.length → (wideBytes cs).getD (2 * j) d = .int (lo8 (cs.getD j 0))
  | [], j, h => absurd h (Nat.not_lt_zero j)
  | c :: cs, 0, _ => rfl
  | c :: cs, j + 1, h => by
    have q := wide_lo d cs j (by simpa using h)
    rw [show 2 * (j + 1) = 2 * j + 1 + 1 from by omega]
    simpa [wideBytes] using q
theorem wide_hi (d : Value) : ∀ (cs : List Int32) (j : Nat), j < cs.length → (wideBytes cs).getD (2 * j + 1) d = .int (hi8 (cs.getD j 0))
  | [], j, h => absurd h (Nat.not_lt_zero j)
  | c :: cs, 0, _ => rfl
  | c :: cs, j + 1, h => by
    have q := wide_hi d cs j (by simpa using h)
    rw [show 2 * (j + 1) + 1 = 2 * j + 1 + 1 + 1 from by omega]
    simpa [wideBytes] using q
theorem low_at (d : Value) (cs : List Int32) (j : Nat) (h : j < cs.length) : (cs.map fun c => Value.int (lo8 c)).getD j d = .int (lo8 (cs.getD j 0)) := by
  simp [List.getD_eq_getElem?_getD, h]
/-- an array of N2 bytes vs codes the chars cs by the coder cd -/
def CodA (cs : List Int32) (cd N2 : Int32) (vs : List Value) : Prop := (cd = 0 ∧ N2 = Int32.ofNat cs.length ∧ vs = (cs.map fun c => Value.int (lo8 c)) ∧ ∀ c ∈ cs, ¬ 255 < c) ∨ (cd = 1 ∧ N2 = Int32.ofNat (2 * cs.length) ∧ vs = wideBytes cs ∧ ∃ c ∈ cs, 255 < c)
theorem CodA.cod {cs : List Int32} {cd N2 : Int32} {vs : List Value} {V : Cell} (h : CodA cs cd N2 vs) (hn : 2 * cs.length < 2 ^ 31) (hs : V.slots.size = N2.toNatClampNeg) (hv : RoadKit.Has V vs (.int 0)) : Cod cd cs.length (fun j => cs.getD j 0) V := by
  rcases h with ⟨rfl, rfl, rfl, h⟩ | ⟨rfl, rfl, rfl, c, hc, hw⟩
  · rw [n32 (by omega)] at hs
    exact Or.inl ⟨rfl, hs, fun j hj => ⟨by rw [hv j (by omega), low_at _ _ _ hj], by
      have e : cs.getD j 0 = cs[j] := by simp [List.getD_eq_getElem?_getD, hj]
      show ¬ 255 < cs.getD j 0
      rw [e]; exact h _ (List.getElem_mem _)⟩⟩
  · rw [n32 (by omega)] at hs
    obtain ⟨j, hj, rfl⟩ := List.getElem_of_mem hc
    exact Or.inr ⟨rfl, hs, fun j hj => ⟨by rw [hv _ (by omega), wide_lo _ _ _ hj], by rw [hv _ (by omega), wide_hi _ _ _ hj]⟩, j, hj, by
      have e : cs.getD j 0 = cs[j] := by simp [List.getD_eq_getElem?_getD, hj]
      show 255 < cs.getD j 0
      rw [e]; exact hw⟩
/-- an object of exactly java/lang/String, its two fields found: as the laws ask it -/
theorem strObj {Z U : State} {a0 : Array Value} {kI : Nat} (wi : (Jvm.Cond.instantiable ST kI).before a0 Z = true) (al : Z.vm.Alike U.vm) {x : Addr} {v0 c0 : Value} (E : RoadKit.Exa Z U.heap x ST) (V : RoadKit.Fld Z U.heap x ST "value" "[B" v0) (C : RoadKit.Fld Z U.heap x ST "coder" "B" c0) :
    ∃ (D : Cell) (fV fC : Field), Blank ST x D U ∧ Found ST "value" "[B" fV U ∧ Found ST "coder" "B" fC U ∧ D.slots[fV.slot]? = some v0 ∧ D.slots[fC.slot]? = some c0 ∧ RoadKit.slotOf Z ST "value" "[B" = fV.slot ∧ RoadKit.slotOf Z ST "coder" "B" = fC.slot := by
  obtain ⟨D, cfV, kV, iV, fV, hD, gV, stV, knV, obV, asV, slV⟩ := V
  obtain ⟨D', cfC, kC, iC, fC, hD', gC, stC, -, -, asC, slC⟩ := C
  cases hD.symm.trans hD'
  obtain ⟨D2, kD, e1, e2, e3, e4, e5⟩ := E
  cases hD.symm.trans e1
  obtain ⟨c2, k2, i1, i2, i3, -⟩ := Cond.instantiable_spec wi
  cases e2.symm.trans i1
  cases e3.symm.trans i2
  obtain ⟨kU, u1, u2⟩ := al.2.2 _ _ e3
  exact ⟨D, fV, fC, ⟨hD, ⟨knV, fun q hq => by rw [hq] at obV; cases obV⟩, by rw [al.findClass]; exact e2, kU, u1, by rw [u2]; exact i3, by rw [u2]; exact e5 i3⟩, ⟨SBG.found_only al ⟨cfV, kV, iV, gV⟩, stV⟩, ⟨SBG.found_only al ⟨cfC, kC, iC, gC⟩, stC⟩, slV, slC, by simp [RoadKit.slotOf, gV], by simp [RoadKit.slotOf, gC]⟩
theorem sta_is {Z U : State} (al : Z.vm.Alike U.vm) {C n d : String} {v : Value} (S : RoadKit.Sta Z U.heap C n d v) : StaticIs U C n d v := by
  obtain ⟨cfS, iS, kS, fS, st, cS, t1, t2, t3, t4, t5, t6, t7⟩ := S
  exact StaticIs.there (s := { Z with heap := U.heap }) ⟨cfS, iS, kS, fS, st, cS, t1, t2, t3, t4, t5, (fun q => by rw [q] at t6; cases t6), t7⟩ al rfl
/-- **length() OF SUCH A STRING** -/
theorem lenW {p : Program} {l : Launch} {e : Env} {R : Room} {s : State} {args : Array Value} {below : List Frame} {len W : Nat} {Z : State} {a0 : Array Value} {h : Heap} (hZ : Z.Warmed39 s.vm) (hw : ∀ d ∈ wordsLen, d.before a0 Z = true) {kI : Nat} (wi : (Jvm.Cond.instantiable ST kI).before a0 Z = true)
    {x t : Addr} {kb : ClassId} {cs : List Int32} {cd N2 z : Int32} {vs : List Value} (E : RoadKit.Exa Z h x ST) (V : RoadKit.Fld Z h x ST "value" "[B" (.ref t)) (C : RoadKit.Fld Z h x ST "coder" "B" (.int cd)) (K : RoadKit.Arv Z h t kb .byte N2 vs (.int 0)) (hc : CodA cs cd N2 vs) (hb : ∀ c ∈ cs, ¬ c < 0 ∧ ¬ (65535 : Int32) < c)
    (S : RoadKit.Sta Z h ST "COMPACT_STRINGS" "Z" (.int z)) (hz : ¬ z = 0) (l2 : cs.length ≤ 4000) (hfr : 2 ≤ R.frames) (hlo : W + 25 ≤ R.locals) :
    Back l R p e below s args (⟨"java/lang/String", "length", "()I"⟩ : MethodName) len W (fun P a => a = #[.ref x] ∧ P.U.heap = h ∧ P.cells + 0 ≤ R.cells ∧ P.slots + 0 ≤ R.slots)
      (fun P _ v B => ∃ L, (v = some (.int (Int32.ofNat cs.length)) ∧ L = [] ∧ B.U.heap = h) ∧ B.locs = P.locs ++ L ∧ B.cells = P.cells + 0 ∧ B.slots = P.slots + 0) := by
  obtain ⟨A, K1, K2, K3, K4, K5, K6⟩ := K
  have hcod := hc.cod (by omega) K3 K5
  intro m meth c P g ig mk a X hg hsize hdg hW hn hp'
  obtain ⟨rfl, rfl, r1, r2⟩ := hp'
  have al : Z.vm.Alike P.U.vm := hZ.alike.trans X.warmed.alike
  obtain ⟨D, fV, fC, hB, F1, F2, g1, g2, -, -⟩ := strObj wi al E V C
  have hx : Txt x t A cd cs.length (fun j => cs.getD j 0) P.U := ⟨⟨_, hB.2.2.1, D, hB.1, rfl, by cases q : D.vm <;> first | rfl | exact absurd q (hB.2.1.2 _)⟩, Has.of hB F1 g1, Has.of hB F2 g2, ⟨K1.1, State.isArrayOf_alike al K1.2.1, K1.2.2, by rcases hcod with ⟨-, q, -⟩ | ⟨-, q, -⟩ <;> omega⟩, hcod, fun j hj => by
    have e : cs.getD j 0 = cs[j] := by simp [List.getD_eq_getElem?_getD, hj]
    show ¬ cs.getD j 0 < 0 ∧ ¬ 65535 < cs.getD j 0
    rw [e]; exact hb _ (List.getElem_mem _)⟩
  obtain ⟨v, B, X', ⟨⟨hv, hh⟩, hl, hk, hs⟩, st⟩ := Len.pays x t A cd cs.length (fun j => cs.getD j 0) z (tabLen_of (movedLen hZ hw)) hfr hlo m meth c P g ig mk _ X hg hsize hdg hW hn ⟨r1, r2, rfl, hx, sta_is al S, hz⟩
  exact ⟨v, B, X', ⟨[], ⟨hv, rfl, hh⟩, hl, hk, hs⟩, st⟩
end StrChars.Road
namespace StrChars.Road
open Jvm Sem ClassFile Op Lib Jvm.Stand Jvm.Free Jvm.Free.XT
open Jvm.Lib.Cold (StaticIs)
/-- the road's facts of a String, as the laws ask it -/
theorem txt_of {Z U : State} {a0 : Array Value} {kI : Nat} (wi : (Jvm.Cond.instantiable ST kI).before a0 Z = true) (al : Z.vm.Alike U.vm) {x t : Addr} {kb : ClassId} {cs : List Int32} {cd N2 : Int32} {vs : List Value} (E : RoadKit.Exa Z U.heap x ST) (V : RoadKit.Fld Z U.heap x ST "value" "[B" (.ref t)) (C : RoadKit.Fld Z U.heap x ST "coder" "B" (.int cd)) (K : RoadKit.Arv Z U.heap t kb .byte N2 vs (.int 0)) (hc : CodA cs cd N2 vs) (hb : ∀ c ∈ cs, ¬ c < 0 ∧ ¬ (65535 : Int32) < c) (l2 : cs.length ≤ 4000) :
    ∃ A, Txt x t A cd cs.length (fun j => cs.getD j 0) U := by
  obtain ⟨A, K1, K2, K3, K4, K5, K6⟩ := K
  have hcod := hc.cod (by omega) K3 K5
  obtain ⟨D, fV, fC, hB, F1, F2, g1, g2, -, -⟩ := strObj wi al E V C
  exact ⟨A, ⟨_, hB.2.2.1, D, hB.1, rfl, by cases q : D.vm <;> first | rfl | exact absurd q (hB.2.1.2 _)⟩, Has.of hB F1 g1, Has.of hB F2 g2, ⟨K1.1, State.isArrayOf_alike al K1.2.1, K1.2.2, by rcases hcod with ⟨-, q, -⟩ | ⟨-, q, -⟩ <;> omega⟩, hcod, fun j hj => by
    have e : cs.getD j 0 = cs[j] := by simp [List.getD_eq_getElem?_getD, hj]
    show ¬ cs.getD j 0 < 0 ∧ ¬ 65535 < cs.getD j 0
    rw [e]; exact hb _ (List.getElem_mem _)⟩
end StrChars.Road
namespace StrChars
open Jvm Sem ClassFile Op Lib Jvm.Stand Jvm.Free.XT Jvm.Free.ALB Jvm.Free.JM Jvm.Free
open Jvm.Lib.Cold (StaticIs)
namespace ChN
def yN : MethodName := ⟨"java/lang/String", "charAt", "(I)C"⟩
abbrev yB : ByteArray := jdk_42_method_56_code
theorem d0 : decode yB 0 = .ok (.aload_n 0, 1) := by decide +kernel
theorem d1 : decode yB 1 = .ok (.invokevirtual 492, 3) := by decide +kernel
theorem d4 : decode yB 4 = .ok (.ifCond (.eq) 12, 3) := by decide +kernel
theorem d7 : decode yB 7 = .ok (.aload_n 0, 1) := by decide +kernel
theorem d8 : decode yB 8 = .ok (.getfield 9, 3) := by decide +kernel
theorem d11 : decode yB 11 = .ok (.iload_n 1, 1) := by decide +kernel
theorem d12 : decode yB 12 = .ok (.invokestatic 495, 3) := by decide +kernel
theorem d15 : decode yB 15 = .ok (.ireturn, 1) := by decide +kernel
def site : List Cond := [.fieldLink "java/lang/String" 9 "java/lang/String" "value" "[B", IsL.tab, LChA.tab] ++ virtW "java/lang/String" 492 "java/lang/String" IsL.yN IsL.yN ++ staticW "java/lang/String" 495 LChA.yN
def tab : Cond := tabOf yN yB 2 (some .char) site
def P (x t : Addr) (V : Cell) (n : Nat) (f : Nat → Int32) (z : Int32) (fm : Value) (i : Nat) (args : Array Value) (s : State) : Prop := args = #[.ref x, .int (Int32.ofNat i)] ∧ Txt x t V 0 n f s ∧ i < n ∧ StaticIs s "java/lang/String" "COMPACT_STRINGS" "Z" (.int z) ∧ ¬ z = 0 ∧ StaticIs s "jdk/internal/util/Preconditions" "SIOOBE_FORMATTER" "Ljava/util/function/BiFunction;" fm ∧ fm.isRef = true
def E (f : Nat → Int32) (i : Nat) (r : Option Value) (s u : State) : Prop := XT.PureE (some (.int (f i))) r s u
/-- charAt(i) of a Latin-1 String of n chars, i < n: f i -/
theorem law (l : Launch) (x t : Addr) (V : Cell) (n : Nat) (f : Nat → Int32) (z : Int32) (fm : Value) (i : Nat) : Law l yN 2 1 3 40 yB 2 (some .char) site (P x t V n f z fm i) (E f i) [] 0 0 := by
  refine Law.of_walk (plainFor_of_name (by decide +kernel)) (by decide +kernel) (by decide +kernel) (by decide) (fun _ _ h => by rw [h.1]; rfl) (fun _ U U' hal hh h => ⟨h.1, h.2.1.mv hal hh, h.2.2.1, h.2.2.2.1.there hal hh, h.2.2.2.2.1, h.2.2.2.2.2.1.there hal hh, h.2.2.2.2.2.2⟩) (fun r U U' V V' h1 hal h2 h => XT.PureE.mv r U U' V V' h1 hal h2 h) ?_
  intro p e s m args below meth c s₁ X0 hexec hbytes hml hret hlk hnm hown hh0 W hP
  obtain ⟨rfl, hx, hi, s1, hz, s3, rf⟩ := hP
  have v31 := hx.2.2.2.1.2.2.2
  have hr := hx.2.2.2.2.2 i hi
  have hx0 := hx.mv X0.warmed.alike hh0
  have c1 : Steps p.tables e below (s₁.setTop (entryFrame m #[.ref x, .int (Int32.ofNat i)] 2)) (s₁.setTop (mkF m 1 #[.val (.ref x), .val (.int (Int32.ofNat i))] [.ref x])) := Steps.trans (entry rfl) (by
    show Steps p.tables e below (s₁.setTop (mkF m 0 #[.val (.ref x), .val (.int (Int32.ofNat i))] [])) _
    refine XS.aloadN X0.here hexec rfl (hb hbytes d0) rfl rfl ?_
    exact Steps.refl _)
  obtain ⟨v2, T2, X2, E2, g2⟩ := X0.callV hexec (IsL.law l x 0 z) hown (wks W (virtW "java/lang/String" 492 "java/lang/String" IsL.yN IsL.yN)) rfl (by decide) (wk W IsL.tab) (W := 0) (Nat.le_of_ble_eq_true rfl) (Nat.le_of_ble_eq_true rfl) (Nat.le_refl _) (Nat.le_refl _) (hx0.1.fc X0.warmed.alike) hx0.1.is (g := (mkF m 1 #[.val (.ref x), .val (.int (Int32.ofNat i))] [.ref x])) rfl (by rw [hml]; rfl) c1 (argsL := []) (rest := []) rfl rfl (by show 2 * 0 + 0 ≤ _; decide) (hb hbytes d1) (⟨rfl, hx0.2.2.1, hx.2.2.2.2.1.cd, s1.there X0.warmed.alike hh0, hz⟩)
  obtain ⟨rfl, q2⟩ := E2
  have hh2 := q2.trans hh0
  have hx2 := hx.mv X2.warmed.alike hh2
  obtain ⟨-, k1, k2⟩ | ⟨k0, -⟩ := hx.2.2.2.2.1
  · have c3 : Steps p.tables e below (s₁.setTop (entryFrame m #[.ref x, .int (Int32.ofNat i)] 2)) (T2.setTop (mkF m 8 #[.val (.ref x), .val (.int (Int32.ofNat i))] [.ref x])) := Steps.trans g2 (by
      refine XS.ifNo X2.here hexec rfl (hb hbytes d4) rfl (i0_eq_f (by decide)) ?_
      refine XS.aloadN X2.here hexec rfl (hb hbytes d7) rfl rfl ?_
      exact Steps.refl _)
    obtain ⟨T4, X4, q4, st4⟩ := X2.hget hexec hown (wk W (.fieldLink "java/lang/String" 9 "java/lang/String" "value" "[B")) hx2.2.1 (g := (mkF m 8 #[.val (.ref x), .val (.int (Int32.ofNat i))] [.ref x])) rfl (rest := []) rfl (hb hbytes d8)
    have hh4 := q4.trans hh2
    have c5 : Steps p.tables e below (s₁.setTop (entryFrame m #[.ref x, .int (Int32.ofNat i)] 2)) (T4.setTop (mkF m 12 #[.val (.ref x), .val (.int (Int32.ofNat i))] [.int (Int32.ofNat i), .ref t])) := (c3.trans (st4 _ (Steps.refl _))).trans (by
      refine XS.iloadN X4.here hexec rfl (hb hbytes d11) rfl ?_
      exact Steps.refl _)
    obtain ⟨v6, T6, X6, E6, g6⟩ := X4.callS hexec (LChA.law l t V i (lo8 (f i)) fm) hown (wks W (staticW "java/lang/String" 495 LChA.yN)) (wk W LChA.tab) (W := 0) (Nat.le_of_ble_eq_true rfl) (Nat.le_of_ble_eq_true rfl) (Nat.le_refl _) (Nat.le_refl _) (g := (mkF m 12 #[.val (.ref x), .val (.int (Int32.ofNat i))] [.int (Int32.ofNat i), .ref t])) rfl (by rw [hml]; rfl) c5 (argsL := [.ref t, .int (Int32.ofNat i)]) (rest := []) rfl rfl (by show 2 * 0 + 0 ≤ _; decide) (hb hbytes d12) (⟨rfl, hx.2.2.2.1.mv X4.warmed.alike hh4, (k2 i hi).1, s3.there X4.warmed.alike hh4, rf⟩)
    obtain ⟨rfl, q6⟩ := E6
    rw [chr8_lo8 hr.1 (k2 i hi).2] at g6
    exact ⟨T6, some (.int (f i)), _, _, _, X6, rfl, rfl, rfl, (fun h => by cases h), ⟨rfl, q6.trans hh4⟩, fun fs hl => Steps.trans g6 (X6.ireturnOut hexec hret (narrow_ch hr.1 hr.2) (Or.inr (Or.inr (Or.inr (Or.inl rfl)))) (hb hbytes d15) hl)⟩
  · exact absurd k0 (by decide)
theorem pays {l : Launch} {R : Room} {p : Program} {e : Env} {below : List Frame} {s : State} {sargs : Array Value} {len W : Nat} (x t : Addr) (V : Cell) (n : Nat) (f : Nat → Int32) (z : Int32) (fm : Value) (i : Nat) (htab : tab.before sargs s = true) (hfr : 4 ≤ R.frames) (hlo : W + 53 ≤ R.locals) :
    Back l R p e below s sargs yN len W (fun A₁ a₁ => A₁.cells + 0 ≤ R.cells ∧ A₁.slots + 0 ≤ R.slots ∧ P x t V n f z fm i a₁ A₁.U) (fun A₁ _ v₁ B₁ => E f i v₁ A₁.U B₁.U ∧ B₁.locs = A₁.locs ++ [] ∧ B₁.cells = A₁.cells + 0 ∧ B₁.slots = A₁.slots + 0) :=
  (law l x t V n f z fm i).pays htab hfr (by omega)
end ChN
end StrChars
namespace StrChars.Road
open Jvm Sem ClassFile Op Lib Jvm.Stand Jvm.Free Jvm.Free.XT
open Jvm.Lib.Cold (StaticIs)
/-- the words of String.charAt(int), the Latin-1 road alone -/
abbrev wordsChN : List Jvm.Cond := [.code ChN.yN ChN.yB 2 (some .char), .initialized ST, .fieldLink ST 9 ST "value" "[B", .fieldLink ST 38 ST "COMPACT_STRINGS" "Z", .fieldLink ST 15 ST "coder" "B", .code IsL.yN IsL.yB 1 (some .boolean), .methodLink ST 492 IsL.yN, .declares IsL.yN, .selects ST IsL.yN IsL.yN, .instanceMethod IsL.yN,
  .methodLink ST 495 LChA.yN, .static LChA.yN, .code LChA.yN LChA.yB 2 (some .char), .initialized "java/lang/StringLatin1", .methodLink "java/lang/StringLatin1" 9 JO.Str_checkIndex.yN, .static JO.Str_checkIndex.yN, .code JO.Str_checkIndex.yN JO.Str_checkIndex.yB 2 none,
  .fieldLink ST 1053 "jdk/internal/util/Preconditions" "SIOOBE_FORMATTER" "Ljava/util/function/BiFunction;", .methodLink ST 1059 JC.PreCheck.yN, .static JC.PreCheck.yN, .code JC.PreCheck.yN JC.PreCheck.yB 3 (some .int), .initialized "jdk/internal/util/Preconditions"]
theorem tabChN_of {a : Array Value} {s : State} (h : ∀ w ∈ wordsChN, w.before a s = true) : ChN.tab.before a s = true := by
  have hp : JC.PreCheck.tab.before a s = true := unparts (wk h (.code JC.PreCheck.yN JC.PreCheck.yB 3 (some .int))) (wks h (.initialized JC.PreCheck.yN.cls :: JC.PreCheck.site))
  have qk := consq hp h
  have hk : JO.Str_checkIndex.tab.before a s = true := unparts (wk qk (.code JO.Str_checkIndex.yN JO.Str_checkIndex.yB 2 none)) (wks qk (.initialized JO.Str_checkIndex.yN.cls :: JO.Str_checkIndex.site))
  have ql := consq hk h
  have hl : LChA.tab.before a s = true := unparts (wk ql (.code LChA.yN LChA.yB 2 (some .char))) (wks ql (.initialized LChA.yN.cls :: LChA.site))
  have hi : IsL.tab.before a s = true := unparts (wk h (.code IsL.yN IsL.yB 1 (some .boolean))) (wks h (.initialized IsL.yN.cls :: IsL.site))
  have q := consq hi (consq hl h)
  exact unparts (wk q (.code ChN.yN ChN.yB 2 (some .char))) (wks q (.initialized ChN.yN.cls :: ChN.site))
theorem movedChN {Z s : State} {a0 args : Array Value} (hZ : Z.Warmed39 s.vm) (hw : ∀ d ∈ wordsChN, d.before a0 Z = true) : ∀ d ∈ wordsChN, d.before args s = true := fun d hd => by
  have t : ∀ d ∈ wordsChN, (d.onTables && d.keepsFace) = true := by decide +kernel
  exact RoadKit.mv hZ (hw d hd) (t d hd)
/-- **charAt(i) OF A LATIN-1 STRING**, i < n: the char -/
theorem chN {p : Program} {l : Launch} {e : Env} {R : Room} {s : State} {args : Array Value} {below : List Frame} {len W : Nat} {Z : State} {a0 : Array Value} {h : Heap} (hZ : Z.Warmed39 s.vm) (hw : ∀ d ∈ wordsChN, d.before a0 Z = true) {kI : Nat} (wi : (Jvm.Cond.instantiable ST kI).before a0 Z = true)
    {x t : Addr} {kb : ClassId} {cs : List Int32} {N2 z : Int32} {vs : List Value} {fm : Value} {i : Nat} {j : Int32} (E : RoadKit.Exa Z h x ST) (V : RoadKit.Fld Z h x ST "value" "[B" (.ref t)) (C : RoadKit.Fld Z h x ST "coder" "B" (.int 0)) (K : RoadKit.Arv Z h t kb .byte N2 vs (.int 0)) (hc : CodA cs 0 N2 vs) (hb : ∀ c ∈ cs, ¬ c < 0 ∧ ¬ (65535 : Int32) < c)
    (S : RoadKit.Sta Z h ST "COMPACT_STRINGS" "Z" (.int z)) (hz : ¬ z = 0) (F : RoadKit.Sta Z h "jdk/internal/util/Preconditions" "SIOOBE_FORMATTER" "Ljava/util/function/BiFunction;" fm) (rf : fm.isRef = true) (l2 : cs.length ≤ 4000) (hi : i < cs.length) (hj : j = Int32.ofNat i) (hfr : 4 ≤ R.frames) (hlo : W + 53 ≤ R.locals) :
    Back l R p e below s args (⟨"java/lang/String", "charAt", "(I)C"⟩ : MethodName) len W (fun P a => a = #[.ref x, .int j] ∧ P.U.heap = h ∧ P.cells + 0 ≤ R.cells ∧ P.slots + 0 ≤ R.slots)
      (fun P _ v B => ∃ L, (v = some (.int (cs.getD i 0)) ∧ L = [] ∧ B.U.heap = h) ∧ B.locs = P.locs ++ L ∧ B.cells = P.cells + 0 ∧ B.slots = P.slots + 0) := by
  subst hj
  intro m meth c P g ig mk a X hg hsize hdg hW hn hp'
  obtain ⟨rfl, rfl, r1, r2⟩ := hp'
  have al : Z.vm.Alike P.U.vm := hZ.alike.trans X.warmed.alike
  obtain ⟨A, hx⟩ := txt_of wi al E V C K hc hb l2
  obtain ⟨v, B, X', ⟨⟨hv, hh⟩, hl, hk, hs⟩, st⟩ := ChN.pays x t A cs.length (fun j => cs.getD j 0) z fm i (tabChN_of (movedChN hZ hw)) hfr hlo m meth c P g ig mk _ X hg hsize hdg hW hn ⟨r1, r2, rfl, hx, hi, sta_is al S, hz, sta_is al F, rf⟩
  exact ⟨v, B, X', ⟨[], ⟨hv, rfl, hh⟩, hl, hk, hs⟩, st⟩
/-- what backV says of its String, as the contracts of this text ask it: cs's low bytes, coder 0 -/
theorem codOf {cs : List Int32} {n : Nat} (hn : cs.length = n) (hb : ∀ c ∈ cs, ¬ 255 < c) : CodA cs 0 (Int32.ofNat n) ((cs.map lo8).map Value.int) := Or.inl ⟨rfl, by rw [hn], by simp [List.map_map, Function.comp_def], hb⟩
end StrChars.Road
end Jvm.Pilot.@@N@@
namespace Jvm.Pilot.@@N@@
open Jvm Jvm.ClassFile Sem Op Lib Jvm.Free Jvm.Stand Jvm.LawKit Jvm.RoadKit Bundle Jvm.Pilot.@@N@@.Jvm.D
section OwnSmall
variable {x y : Int32} {v : Value}
theorem qEqT (h : x = y) : if_icmp.holds .eq x y = true := (teq h).1
theorem qEqF (h : ¬ x = y) : if_icmp.holds .eq x y = false := (feq h).1
theorem qNeT (h : ¬ x = y) : if_icmp.holds .ne x y = true := (feq h).2
theorem qNeF (h : x = y) : if_icmp.holds .ne x y = false := (teq h).2
theorem qLtT (h : x < y) : if_icmp.holds .lt x y = true := (tlt h).1
theorem qGeF (h : x < y) : if_icmp.holds .ge x y = false := (tlt h).2.1
theorem qGtT (h : y < x) : if_icmp.holds .gt x y = true := (tlt h).2.2.1
theorem qLeF (h : y < x) : if_icmp.holds .le x y = false := (tlt h).2.2.2
theorem qLtF (h : ¬ x < y) : if_icmp.holds .lt x y = false := by simp [if_icmp.holds, h]
theorem qGeT (h : ¬ x < y) : if_icmp.holds .ge x y = true := by
  have h' : y ≤ x := by rw [Int32.le_iff_toInt_le]; rw [Int32.lt_iff_toInt_lt] at h; omega
  simp [if_icmp.holds, h']
theorem qGtF (h : ¬ y < x) : if_icmp.holds .gt x y = false := by simp [if_icmp.holds, h]
theorem qLeT (h : ¬ y < x) : if_icmp.holds .le x y = true := by
  have h' : x ≤ y := by rw [Int32.le_iff_toInt_le]; rw [Int32.lt_iff_toInt_lt] at h; omega
  simp [if_icmp.holds, h']
theorem zEqT (h : x = 0) : ifCond.holds .eq x = true := by rw [if0]; exact qEqT h
theorem zEqF (h : ¬ x = 0) : ifCond.holds .eq x = false := by rw [if0]; exact qEqF h
theorem zNeT (h : ¬ x = 0) : ifCond.holds .ne x = true := by rw [if0]; exact qNeT h
theorem zNeF (h : x = 0) : ifCond.holds .ne x = false := by rw [if0]; exact qNeF h
theorem zLtT (h : x < 0) : ifCond.holds .lt x = true := by rw [if0]; exact qLtT h
theorem zLtF (h : ¬ x < 0) : ifCond.holds .lt x = false := by rw [if0]; exact qLtF h
theorem zGeT (h : ¬ x < 0) : ifCond.holds .ge x = true := by rw [if0]; exact qGeT h
theorem zGeF (h : x < 0) : ifCond.holds .ge x = false := by rw [if0]; exact qGeF h
theorem zGtT (h : 0 < x) : ifCond.holds .gt x = true := by rw [if0]; exact qGtT h
theorem zGtF (h : ¬ 0 < x) : ifCond.holds .gt x = false := by rw [if0]; exact qGtF h
theorem zLeT (h : ¬ 0 < x) : ifCond.holds .le x = true := by rw [if0]; exact qLeT h
theorem zLeF (h : 0 < x) : ifCond.holds .le x = false := by rw [if0]; exact qLeF h
theorem cat1 (h : v.isRef = true) : v.category = 1 := by cases v <;> first | rfl | cases h
theorem nrR {c : String} (h : v.isRef = true) : narrow (.object c) v = v := by cases v <;> first | rfl | cases h
theorem ftR {c : String} (h : v.isRef = true) : fits (.object c) v = true := by cases v <;> first | rfl | cases h
/-- a char below 256 -/
def Chr (c : Int32) : Prop := ¬ c < 0 ∧ ¬ (255 : Int32) < c
theorem Chr.nar {c : Int32} (h : Chr c) : nar .char c = c := by
  have q := c_i2c c
  show c.toUInt32.toUInt16.toUInt32.toInt32 = c
  apply Int32.toInt_inj.mp
  have h1 := h.1
  have h2 := h.2
  rw [Int32.lt_iff_toInt_lt] at h1 h2
  have e1 : (0 : Int32).toInt = 0 := rfl
  have e2 : (255 : Int32).toInt = 255 := rfl
  omega
theorem chr255 (z : Int32) : Chr ((z &&& (255 : Int32)).toUInt32.toUInt16.toUInt32.toInt32) := by
  rw [i2c_mask]
  have q := c_and z 255 (by decide)
  have e1 : (0 : Int32).toInt = 0 := rfl
  have e2 : (255 : Int32).toInt = 255 := rfl
  refine ⟨fun h => ?_, fun h => ?_⟩ <;> rw [Int32.lt_iff_toInt_lt] at h <;> omega
end OwnSmall
end Jvm.Pilot.@@N@@
namespace Jvm.Pilot.@@N@@
open Jvm Jvm.ClassFile Sem Op Lib Jvm.Free Jvm.Stand Jvm.LawKit Jvm.RoadKit Bundle Jvm.Pilot.@@N@@.Jvm.D
section OwnKit
/-- from (T, f) the run comes to an end of which P speaks -/
def Go (p : Program) (e : Env) (below : List Frame) (P : Outcome → State → Prop) (T : State) (f : JFrame) : Prop :=
  ∃ s₂ o, Steps p.tables e below (T.setTop f) s₂ ∧ s₂.status = .running ∧ Ended s₂ below o ∧ P o s₂
/-- the end of a body: narrow (nothing interned) or wide -/
def EndB (wd : Bool) (EL : List (String × Nat)) (Z s : State) (o : Outcome) (t : State) (L : List Loc) (k n : Nat) : Prop :=
  match wd with
  | true => CHr Z EL s.vm s.heap t.vm t.heap ∧ ReturnedEndW s o t L k n
  | false => FrameEnd s o t L k n
def Done (wd : Bool) (EL : List (String × Nat)) (Z s : State) (n0 : Nat) (h0 : Heap) (ws : List Addr) (rc rs : Nat) (Q : Option Value → Heap → Prop) (o : Outcome) (U : State) : Prop :=
  ∃ v L, o = .returned v ∧ (Q v U.heap ∧ Keep h0 U.heap ws ∧ Fr n0 L) ∧ EndB wd EL Z s o U L rc rs
/-- where a walk stands: its state T, its heap h; F: places that no booked literal lies in; ws0: what may be written of what stood at the body's start -/
def Sd (wd : Bool) (EL : List (String × Nat)) (a0 : Array Value) (p : Program) (l : Launch) (e : Env) (R : Room) (s : State) (m : MethodId) (args : Array Value) (below : List Frame) (meth : Method) (c : Code) (Z : State) (own : String) (n0 : Nat) (h0 : Heap) (ws0 : List Addr)
    (T : State) (h : Heap) (F : List Addr) (locs : List Loc) (cells slots : Nat) : Prop :=
  (p.tables.exec = Jvm.exec ∧ meth.locks = false ∧ EW Z a0 EL ∧ s.heap = h0 ∧ Old Z n0 h0 ∧ ∀ x ∈ ws0, n0 ≤ x) ∧
  ∃ vm0 k0, (wd = false → vm0 = s.vm) ∧ Stand p l e R (s.setVm vm0) m args below meth c T locs cells slots ∧ T.heap = h ∧ s.Since vm0 k0 ∧ k0 ≤ h.size ∧ Z.Warmed39 vm0 ∧ vm0.findClass own = some m.cls ∧ Old Z n0 h ∧ Fr n0 locs ∧ Keep h0 h ws0 ∧
    CHr Z EL s.vm s.heap vm0 h ∧ ∀ x ∈ F, Safe Z EL vm0 h x ∧ x < h.size
variable {wd : Bool} {EL : List (String × Nat)} {a0 : Array Value} {p : Program} {l : Launch} {e : Env} {R : Room} {s : State} {m : MethodId} {args : Array Value} {below : List Frame} {meth : Method} {c : Code} {Z : State} {own : String} {n0 : Nat} {h0 : Heap} {ws0 : List Addr}
  {T T' : State} {h h' : Heap} {F F' : List Addr} {locs locs' : List Loc} {cells slots cells' slots' : Nat} {P : Outcome → State → Prop} {pc pc' : Nat} {Ls : Array Slot} {st rest : List Value} {f f' : JFrame} {vm0 : Vm} {k0 : Nat} {ws : List Addr}
theorem Go.by (k : ∀ t, Steps p.tables e below (T'.setTop f') t → Steps p.tables e below (T.setTop f) t) (g : Go p e below P T' f') : Go p e below P T f := by
  obtain ⟨s₂, o, h1, h2⟩ := g
  exact ⟨s₂, o, k _ h1, h2⟩
theorem Go.cast (q : f = f') (g : Go p e below P T f') : Go p e below P T f := q ▸ g
theorem own_ole (O : Old Z n0 h) : n0 ≤ h.size := by rw [← O.1]; exact O.2.1
/-- what may be written -/
def Wok (n0 : Nat) (h0 : Heap) (ws0 : List Addr) (a : Addr) : Prop := a ∈ ws0 ∨ h0.size ≤ a
theorem Wok.le {a : Addr} (w : Wok n0 h0 ws0 a) (h1 : n0 ≤ h0.size) (h2 : ∀ x ∈ ws0, n0 ≤ x) : n0 ≤ a := by
  rcases w with w | w
  · exact h2 _ w
  · exact Nat.le_trans h1 w
theorem Sd.hx (S : Sd wd EL a0 p l e R s m args below meth c Z own n0 h0 ws0 T h F locs cells slots) : p.tables.exec = Jvm.exec := S.1.1
theorem Sd.at (S : Sd wd EL a0 p l e R s m args below meth c Z own n0 h0 ws0 T h F locs cells slots) : At T m c below := by
  obtain ⟨-, vm0, k0, -, X, -⟩ := S
  exact X.here
theorem Sd.old (S : Sd wd EL a0 p l e R s m args below meth c Z own n0 h0 ws0 T h F locs cells slots) : Old Z n0 h := by
  obtain ⟨-, vm0, k0, -, -, -, -, -, -, -, O, -⟩ := S
  exact O
theorem Sd.kept (S : Sd wd EL a0 p l e R s m args below meth c Z own n0 h0 ws0 T h F locs cells slots) : Keep h0 h ws0 := by
  obtain ⟨-, vm0, k0, -, -, -, -, -, -, -, -, -, K, -⟩ := S
  exact K
theorem Sd.sz (S : Sd wd EL a0 p l e R s m args below meth c Z own n0 h0 ws0 T h F locs cells slots) : n0 ≤ h.size := Nat.le_trans (own_ole S.1.2.2.2.2.1) S.kept.1
theorem Sd.ge (S : Sd wd EL a0 p l e R s m args below meth c Z own n0 h0 ws0 T h F locs cells slots) {a : Addr} (w : Wok n0 h0 ws0 a) : n0 ≤ a := w.le (own_ole S.1.2.2.2.2.1) S.1.2.2.2.2.2
/-- the walk goes on over the same tables: the heap moved by a Keep -/
theorem Sd.close (A : p.tables.exec = Jvm.exec ∧ meth.locks = false ∧ EW Z a0 EL ∧ s.heap = h0 ∧ Old Z n0 h0 ∧ ∀ x ∈ ws0, n0 ≤ x) (hv : wd = false → vm0 = s.vm) (X : Stand p l e R (s.setVm vm0) m args below meth c T' locs' cells' slots') (eT : T'.heap = h') (hS : s.Since vm0 k0) (hk : k0 ≤ h.size) (hZ : Z.Warmed39 vm0) (hown : vm0.findClass own = some m.cls) (O : Old Z n0 h) (N : Fr n0 locs') (K0 : Keep h0 h ws0)
    (C : CHr Z EL s.vm s.heap vm0 h) (hF : ∀ x ∈ F, Safe Z EL vm0 h x ∧ x < h.size) (K : Keep h h' ws) (hws : ∀ x ∈ ws, Wok n0 h0 ws0 x ∧ Safe Z EL vm0 h x) (hF' : ∀ x ∈ F', x ∈ F ∨ (h.size ≤ x ∧ x < h'.size)) : Sd wd EL a0 p l e R s m args below meth c Z own n0 h0 ws0 T' h' F' locs' cells' slots' := by
  have hsf : ∀ x ∈ ws, Safe Z EL vm0 h x := fun x hx => (hws x hx).2
  refine ⟨A, vm0, k0, hv, X, eT, hS, Nat.le_trans hk K.1, hZ, hown, O.keep K fun x hx => (hws x hx).1.le (own_ole A.2.2.2.2.1) A.2.2.2.2.2, N, K0.trans K fun x hx => (hws x hx).1, C.trans (CHr.keep K hsf C.1), fun x hx => ?_⟩
  rcases hF' x hx with q | ⟨q1, q2⟩
  · exact ⟨Safe.keep K hsf C.1 (hF x q).1, Nat.lt_of_lt_of_le (hF x q).2 K.1⟩
  · exact ⟨Safe.keep K hsf C.1 (Safe.new q1), q2⟩
theorem Ext.kp (E : Ext h h') : Keep h h' [] := (Keep.refl h []).ext E
theorem noWs : ∀ x ∈ ([] : List Addr), Wok n0 h0 ws0 x ∧ Safe Z EL vm0 h x := fun _ q => nomatch q
/-! ### plain steps -/
theorem Sd.aloadN (S : Sd wd EL a0 p l e R s m args below meth c Z own n0 h0 ws0 T h F locs cells slots) {k : Fin 4} {v : Value} (pc' : Nat) (hd : decode c.code pc = .ok (.aload_n k, 1)) (hl : Ls[k.val]? = some (.val v)) (hv : v.isRef = true) (g : Go p e below P T (mkF m pc' Ls (v :: st))) (hp : pc + 1 = pc' := by rfl) : Go p e below P T (mkF m pc Ls st) := by
  subst hp; exact Go.by (fun _ q => XS.aloadN S.at S.hx rfl hd hl hv q) g
theorem Sd.aload (S : Sd wd EL a0 p l e R s m args below meth c Z own n0 h0 ws0 T h F locs cells slots) {k : Nat} {v : Value} (pc' : Nat) (hd : decode c.code pc = .ok (.aload k, 2)) (hl : Ls[k]? = some (.val v)) (hv : v.isRef = true) (g : Go p e below P T (mkF m pc' Ls (v :: st))) (hp : pc + 2 = pc' := by rfl) : Go p e below P T (mkF m pc Ls st) := by
  subst hp; exact Go.by (fun _ q => XS.aload S.at S.hx rfl hd hl hv q) g
theorem Sd.iloadN (S : Sd wd EL a0 p l e R s m args below meth c Z own n0 h0 ws0 T h F locs cells slots) {k : Fin 4} {v : Int32} (pc' : Nat) (hd : decode c.code pc = .ok (.iload_n k, 1)) (hl : Ls[k.val]? = some (.val (.int v))) (g : Go p e below P T (mkF m pc' Ls (.int v :: st))) (hp : pc + 1 = pc' := by rfl) : Go p e below P T (mkF m pc Ls st) := by
  subst hp; exact Go.by (fun _ q => XS.iloadN S.at S.hx rfl hd hl q) g
theorem Sd.iload (S : Sd wd EL a0 p l e R s m args below meth c Z own n0 h0 ws0 T h F locs cells slots) {k : Nat} {v : Int32} (pc' : Nat) (hd : decode c.code pc = .ok (.iload k, 2)) (hl : Ls[k]? = some (.val (.int v))) (g : Go p e below P T (mkF m pc' Ls (.int v :: st))) (hp : pc + 2 = pc' := by rfl) : Go p e below P T (mkF m pc Ls st) := by
  subst hp; exact Go.by (fun _ q => XS.iload S.at S.hx rfl hd hl q) g
theorem Sd.lloadN (S : Sd wd EL a0 p l e R s m args below meth c Z own n0 h0 ws0 T h F locs cells slots) {k : Fin 4} {v : Int64} (pc' : Nat) (hd : decode c.code pc = .ok (.lload_n k, 1)) (hl : Ls[k.val]? = some (.val (.long v))) (g : Go p e below P T (mkF m pc' Ls (.long v :: st))) (hp : pc + 1 = pc' := by rfl) : Go p e below P T (mkF m pc Ls st) := by
  subst hp; exact Go.by (fun _ q => XS.lloadN S.at S.hx rfl hd hl q) g
theorem Sd.lload (S : Sd wd EL a0 p l e R s m args below meth c Z own n0 h0 ws0 T h F locs cells slots) {k : Nat} {v : Int64} (pc' : Nat) (hd : decode c.code pc = .ok (.lload k, 2)) (hl : Ls[k]? = some (.val (.long v))) (g : Go p e below P T (mkF m pc' Ls (.long v :: st))) (hp : pc + 2 = pc' := by rfl) : Go p e below P T (mkF m pc Ls st) := by
  subst hp; exact Go.by (fun _ q => XS.lload S.at S.hx rfl hd hl q) g
theorem Sd.iconst (S : Sd wd EL a0 p l e R s m args below meth c Z own n0 h0 ws0 T h F locs cells slots) {i : Int} (pc' : Nat) (z : Int32) (hd : decode c.code pc = .ok (.iconst i, 1)) (g : Go p e below P T (mkF m pc' Ls (.int z :: st))) (hp : pc + 1 = pc' := by rfl) (hz : Int32.ofInt i = z := by rfl) : Go p e below P T (mkF m pc Ls st) := by
  subst hp hz; exact Go.by (fun _ q => XS.iconst S.at S.hx rfl hd q) g
theorem Sd.bipush (S : Sd wd EL a0 p l e R s m args below meth c Z own n0 h0 ws0 T h F locs cells slots) {i : Int} (pc' : Nat) (z : Int32) (hd : decode c.code pc = .ok (.bipush i, 2)) (g : Go p e below P T (mkF m pc' Ls (.int z :: st))) (hp : pc + 2 = pc' := by rfl) (hz : (Int8.ofInt i).toInt32 = z := by rfl) : Go p e below P T (mkF m pc Ls st) := by
  subst hp hz; exact Go.by (fun _ q => XS.bipush S.at S.hx rfl hd q) g
theorem Sd.sipush (S : Sd wd EL a0 p l e R s m args below meth c Z own n0 h0 ws0 T h F locs cells slots) {i : Int} (pc' : Nat) (z : Int32) (hd : decode c.code pc = .ok (.sipush i, 3)) (g : Go p e below P T (mkF m pc' Ls (.int z :: st))) (hp : pc + 3 = pc' := by rfl) (hz : (Int16.ofInt i).toInt32 = z := by rfl) : Go p e below P T (mkF m pc Ls st) := by
  subst hp hz; exact Go.by (fun _ q => XS.sipush S.at S.hx rfl hd q) g
theorem Sd.lconst (S : Sd wd EL a0 p l e R s m args below meth c Z own n0 h0 ws0 T h F locs cells slots) {i : Fin 2} (pc' : Nat) (z : Int64) (hd : decode c.code pc = .ok (.lconst i, 1)) (g : Go p e below P T (mkF m pc' Ls (.long z :: st))) (hp : pc + 1 = pc' := by rfl) (hz : Int64.ofNat i = z := by rfl) : Go p e below P T (mkF m pc Ls st) := by
  subst hp hz; exact Go.by (fun _ q => XS.lconst S.at S.hx rfl hd q) g
theorem Sd.anull (S : Sd wd EL a0 p l e R s m args below meth c Z own n0 h0 ws0 T h F locs cells slots) (pc' : Nat) (hd : decode c.code pc = .ok (.aconst_null, 1)) (g : Go p e below P T (mkF m pc' Ls (.null :: st))) (hp : pc + 1 = pc' := by rfl) : Go p e below P T (mkF m pc Ls st) := by
  subst hp; exact Go.by (fun _ q => XS.aconstNull S.at S.hx rfl hd q) g
theorem Sd.istoreN (S : Sd wd EL a0 p l e R s m args below meth c Z own n0 h0 ws0 T h F locs cells slots) {k : Fin 4} {x : Int32} (pc' : Nat) (l' : Array Slot) (hd : decode c.code pc = .ok (.istore_n k, 1)) (hl : storeLocals Ls k.val (.int x) = some l') (g : Go p e below P T (mkF m pc' l' st)) (hp : pc + 1 = pc' := by rfl) : Go p e below P T (mkF m pc Ls (.int x :: st)) := by
  subst hp; exact Go.by (fun _ q => XS.istoreN S.at S.hx rfl hd rfl hl q) g
theorem Sd.istore (S : Sd wd EL a0 p l e R s m args below meth c Z own n0 h0 ws0 T h F locs cells slots) {k : Nat} {x : Int32} (pc' : Nat) (l' : Array Slot) (hd : decode c.code pc = .ok (.istore k, 2)) (hl : storeLocals Ls k (.int x) = some l') (g : Go p e below P T (mkF m pc' l' st)) (hp : pc + 2 = pc' := by rfl) : Go p e below P T (mkF m pc Ls (.int x :: st)) := by
  subst hp; exact Go.by (fun _ q => XS.istore S.at S.hx rfl hd rfl hl q) g
theorem Sd.lstoreN (S : Sd wd EL a0 p l e R s m args below meth c Z own n0 h0 ws0 T h F locs cells slots) {k : Fin 4} {x : Int64} (pc' : Nat) (l' : Array Slot) (hd : decode c.code pc = .ok (.lstore_n k, 1)) (hl : storeLocals Ls k.val (.long x) = some l') (g : Go p e below P T (mkF m pc' l' st)) (hp : pc + 1 = pc' := by rfl) : Go p e below P T (mkF m pc Ls (.long x :: st)) := by
  subst hp; exact Go.by (fun _ q => XS.lstoreN S.at S.hx rfl hd rfl hl q) g
theorem Sd.lstore (S : Sd wd EL a0 p l e R s m args below meth c Z own n0 h0 ws0 T h F locs cells slots) {k : Nat} {x : Int64} (pc' : Nat) (l' : Array Slot) (hd : decode c.code pc = .ok (.lstore k, 2)) (hl : storeLocals Ls k (.long x) = some l') (g : Go p e below P T (mkF m pc' l' st)) (hp : pc + 2 = pc' := by rfl) : Go p e below P T (mkF m pc Ls (.long x :: st)) := by
  subst hp; exact Go.by (fun _ q => XS.lstore S.at S.hx rfl hd rfl hl q) g
theorem Sd.astoreN (S : Sd wd EL a0 p l e R s m args below meth c Z own n0 h0 ws0 T h F locs cells slots) {k : Fin 4} {x : Value} (pc' : Nat) (l' : Array Slot) (hd : decode c.code pc = .ok (.astore_n k, 1)) (hv : x.isRef = true) (hl : storeLocals Ls k.val x = some l') (g : Go p e below P T (mkF m pc' l' st)) (hp : pc + 1 = pc' := by rfl) : Go p e below P T (mkF m pc Ls (x :: st)) := by
  subst hp; exact Go.by (fun _ q => XS.astoreN S.at S.hx rfl hd rfl hv hl q) g
theorem Sd.astore (S : Sd wd EL a0 p l e R s m args below meth c Z own n0 h0 ws0 T h F locs cells slots) {k : Nat} {x : Value} (pc' : Nat) (l' : Array Slot) (hd : decode c.code pc = .ok (.astore k, 2)) (hv : x.isRef = true) (hl : storeLocals Ls k x = some l') (g : Go p e below P T (mkF m pc' l' st)) (hp : pc + 2 = pc' := by rfl) : Go p e below P T (mkF m pc Ls (x :: st)) := by
  subst hp; exact Go.by (fun _ q => XS.astore S.at S.hx rfl hd rfl hv hl q) g
theorem Sd.iinc (S : Sd wd EL a0 p l e R s m args below meth c Z own n0 h0 ws0 T h F locs cells slots) {k : Nat} {cst : Int} {x : Int32} (pc' : Nat) (l' : Array Slot) (hd : decode c.code pc = .ok (.iinc k cst, 3)) (hl : Ls[k]? = some (.val (.int x))) (hl' : storeLocals Ls k (.int (x + Int32.ofInt cst)) = some l') (g : Go p e below P T (mkF m pc' l' st)) (hp : pc + 3 = pc' := by rfl) : Go p e below P T (mkF m pc Ls st) := by
  subst hp; exact Go.by (fun _ q => XS.iinc S.at S.hx rfl hd hl hl' q) g
theorem Sd.goto (S : Sd wd EL a0 p l e R s m args below meth c Z own n0 h0 ws0 T h F locs cells slots) {o : Int} (pc' : Nat) (hd : decode c.code pc = .ok (.goto o, 3)) (g : Go p e below P T (mkF m pc' Ls st)) (ho : 0 ≤ (pc : Int) + o := by decide) (hp : ((pc : Int) + o).toNat = pc' := by decide) : Go p e below P T (mkF m pc Ls st) :=
  Go.by (fun _ q => XS.goto S.at S.hx rfl rfl hd ho hp q) g
theorem Sd.ifY (S : Sd wd EL a0 p l e R s m args below meth c Z own n0 h0 ws0 T h F locs cells slots) {cd : ClassFile.Cond} {x : Int32} {o : Int} (pc' : Nat) (hd : decode c.code pc = .ok (.ifCond cd o, 3)) (hc : ifCond.holds cd x = true) (g : Go p e below P T (mkF m pc' Ls st)) (ho : 0 ≤ (pc : Int) + o := by decide) (hp : ((pc : Int) + o).toNat = pc' := by decide) : Go p e below P T (mkF m pc Ls (.int x :: st)) :=
  Go.by (fun _ q => XS.ifYes S.at S.hx rfl rfl hd rfl hc ho hp q) g
theorem Sd.ifN (S : Sd wd EL a0 p l e R s m args below meth c Z own n0 h0 ws0 T h F locs cells slots) {cd : ClassFile.Cond} {x : Int32} {o : Int} (pc' : Nat) (hd : decode c.code pc = .ok (.ifCond cd o, 3)) (hc : ifCond.holds cd x = false) (g : Go p e below P T (mkF m pc' Ls st)) (hp : pc + 3 = pc' := by rfl) : Go p e below P T (mkF m pc Ls (.int x :: st)) := by
  subst hp; exact Go.by (fun _ q => XS.ifNo S.at S.hx rfl hd rfl hc q) g
theorem Sd.icmpY (S : Sd wd EL a0 p l e R s m args below meth c Z own n0 h0 ws0 T h F locs cells slots) {cd : ClassFile.Cond} {x y : Int32} {o : Int} (pc' : Nat) (hd : decode c.code pc = .ok (.if_icmp cd o, 3)) (hc : if_icmp.holds cd x y = true) (g : Go p e below P T (mkF m pc' Ls st)) (ho : 0 ≤ (pc : Int) + o := by decide) (hp : ((pc : Int) + o).toNat = pc' := by decide) : Go p e below P T (mkF m pc Ls (.int y :: .int x :: st)) :=
  Go.by (fun _ q => XS.icmpYes S.at S.hx rfl rfl hd rfl hc ho hp q) g
theorem Sd.icmpN (S : Sd wd EL a0 p l e R s m args below meth c Z own n0 h0 ws0 T h F locs cells slots) {cd : ClassFile.Cond} {x y : Int32} {o : Int} (pc' : Nat) (hd : decode c.code pc = .ok (.if_icmp cd o, 3)) (hc : if_icmp.holds cd x y = false) (g : Go p e below P T (mkF m pc' Ls st)) (hp : pc + 3 = pc' := by rfl) : Go p e below P T (mkF m pc Ls (.int y :: .int x :: st)) := by
  subst hp; exact Go.by (fun _ q => XS.icmpNo S.at S.hx rfl hd rfl hc q) g
theorem Sd.nullY (S : Sd wd EL a0 p l e R s m args below meth c Z own n0 h0 ws0 T h F locs cells slots) {o : Int} (pc' : Nat) (hd : decode c.code pc = .ok (.ifnull o, 3)) (g : Go p e below P T (mkF m pc' Ls st)) (ho : 0 ≤ (pc : Int) + o := by decide) (hp : ((pc : Int) + o).toNat = pc' := by decide) : Go p e below P T (mkF m pc Ls (.null :: st)) :=
  Go.by (fun _ q => XS.ifnullYes S.at S.hx rfl rfl hd rfl ho hp q) g
theorem Sd.nullN (S : Sd wd EL a0 p l e R s m args below meth c Z own n0 h0 ws0 T h F locs cells slots) {o : Int} {b : Addr} (pc' : Nat) (hd : decode c.code pc = .ok (.ifnull o, 3)) (g : Go p e below P T (mkF m pc' Ls st)) (hp : pc + 3 = pc' := by rfl) : Go p e below P T (mkF m pc Ls (.ref b :: st)) := by
  subst hp; exact Go.by (fun _ q => XS.ifnullNo S.at S.hx rfl hd rfl q) g
theorem Sd.nonnullY (S : Sd wd EL a0 p l e R s m args below meth c Z own n0 h0 ws0 T h F locs cells slots) {o : Int} {b : Addr} (pc' : Nat) (hd : decode c.code pc = .ok (.ifnonnull o, 3)) (g : Go p e below P T (mkF m pc' Ls st)) (ho : 0 ≤ (pc : Int) + o := by decide) (hp : ((pc : Int) + o).toNat = pc' := by decide) : Go p e below P T (mkF m pc Ls (.ref b :: st)) :=
  Go.by (fun _ q => XT.ifnonnullYes S.at S.hx rfl rfl hd rfl ho hp q) g
theorem Sd.nonnullN (S : Sd wd EL a0 p l e R s m args below meth c Z own n0 h0 ws0 T h F locs cells slots) {o : Int} (pc' : Nat) (hd : decode c.code pc = .ok (.ifnonnull o, 3)) (g : Go p e below P T (mkF m pc' Ls st)) (hp : pc + 3 = pc' := by rfl) : Go p e below P T (mkF m pc Ls (.null :: st)) := by
  subst hp; exact Go.by (fun _ q => XT.ifnonnullNo S.at S.hx rfl hd rfl q) g
theorem Sd.acmpY (S : Sd wd EL a0 p l e R s m args below meth c Z own n0 h0 ws0 T h F locs cells slots) {cd : ClassFile.ACond} {x y : Value} {o : Int} (pc' : Nat) (hd : decode c.code pc = .ok (.if_acmp cd o, 3)) (hx : x.isRef = true) (hy : y.isRef = true) (hc : XT.acmp cd x y = true) (g : Go p e below P T (mkF m pc' Ls st)) (ho : 0 ≤ (pc : Int) + o := by decide) (hp : ((pc : Int) + o).toNat = pc' := by decide) : Go p e below P T (mkF m pc Ls (y :: x :: st)) :=
  Go.by (fun _ q => XT.acmpYes S.at S.hx rfl rfl hd rfl hx hy hc ho hp q) g
theorem Sd.acmpN (S : Sd wd EL a0 p l e R s m args below meth c Z own n0 h0 ws0 T h F locs cells slots) {cd : ClassFile.ACond} {x y : Value} {o : Int} (pc' : Nat) (hd : decode c.code pc = .ok (.if_acmp cd o, 3)) (hx : x.isRef = true) (hy : y.isRef = true) (hc : XT.acmp cd x y = false) (g : Go p e below P T (mkF m pc' Ls st)) (hp : pc + 3 = pc' := by rfl) : Go p e below P T (mkF m pc Ls (y :: x :: st)) := by
  subst hp; exact Go.by (fun _ q => XT.acmpNo S.at S.hx rfl hd rfl hx hy hc q) g
theorem Sd.dup (S : Sd wd EL a0 p l e R s m args below meth c Z own n0 h0 ws0 T h F locs cells slots) {x : Value} (pc' : Nat) (hd : decode c.code pc = .ok (.dup, 1)) (hc : x.category = 1) (g : Go p e below P T (mkF m pc' Ls (x :: x :: st))) (hp : pc + 1 = pc' := by rfl) : Go p e below P T (mkF m pc Ls (x :: st)) := by
  subst hp; exact Go.by (fun _ q => XS.dup S.at S.hx rfl hd rfl hc q) g
theorem Sd.dupX1 (S : Sd wd EL a0 p l e R s m args below meth c Z own n0 h0 ws0 T h F locs cells slots) {x y : Value} (pc' : Nat) (hd : decode c.code pc = .ok (.dup_x1, 1)) (hc : x.category = 1) (hc' : y.category = 1) (g : Go p e below P T (mkF m pc' Ls (x :: y :: x :: st))) (hp : pc + 1 = pc' := by rfl) : Go p e below P T (mkF m pc Ls (x :: y :: st)) := by
  subst hp; exact Go.by (fun _ q => XT.dupX1 S.at S.hx rfl hd rfl hc hc' q) g
theorem Sd.dup2 (S : Sd wd EL a0 p l e R s m args below meth c Z own n0 h0 ws0 T h F locs cells slots) {x y : Value} (pc' : Nat) (hd : decode c.code pc = .ok (.dup2, 1)) (hc : x.category = 1) (hc' : y.category = 1) (g : Go p e below P T (mkF m pc' Ls (x :: y :: x :: y :: st))) (hp : pc + 1 = pc' := by rfl) : Go p e below P T (mkF m pc Ls (x :: y :: st)) := by
  subst hp; exact Go.by (fun _ q => XT.dup2 S.at S.hx rfl hd rfl hc hc' q) g
theorem Sd.pop (S : Sd wd EL a0 p l e R s m args below meth c Z own n0 h0 ws0 T h F locs cells slots) {x : Value} (pc' : Nat) (hd : decode c.code pc = .ok (.pop, 1)) (hc : x.category = 1) (g : Go p e below P T (mkF m pc' Ls st)) (hp : pc + 1 = pc' := by rfl) : Go p e below P T (mkF m pc Ls (x :: st)) := by
  subst hp; exact Go.by (fun _ q => XT.pop S.at S.hx rfl hd rfl hc q) g
theorem Sd.iadd (S : Sd wd EL a0 p l e R s m args below meth c Z own n0 h0 ws0 T h F locs cells slots) {x : Int32} {y : Int32} (pc' : Nat) (hd : decode c.code pc = .ok (.iadd, 1)) (g : Go p e below P T (mkF m pc' Ls (.int (x + y) :: st))) (hp : pc + 1 = pc' := by rfl) : Go p e below P T (mkF m pc Ls (.int y :: .int x :: st)) := by
  subst hp; exact Go.by (fun _ q => XS.iadd S.at S.hx rfl hd rfl q) g
theorem Sd.isub (S : Sd wd EL a0 p l e R s m args below meth c Z own n0 h0 ws0 T h F locs cells slots) {x : Int32} {y : Int32} (pc' : Nat) (hd : decode c.code pc = .ok (.isub, 1)) (g : Go p e below P T (mkF m pc' Ls (.int (x - y) :: st))) (hp : pc + 1 = pc' := by rfl) : Go p e below P T (mkF m pc Ls (.int y :: .int x :: st)) := by
  subst hp; exact Go.by (fun _ q => XS.isub S.at S.hx rfl hd rfl q) g
theorem Sd.iand (S : Sd wd EL a0 p l e R s m args below meth c Z own n0 h0 ws0 T h F locs cells slots) {x : Int32} {y : Int32} (pc' : Nat) (hd : decode c.code pc = .ok (.iand, 1)) (g : Go p e below P T (mkF m pc' Ls (.int (x &&& y) :: st))) (hp : pc + 1 = pc' := by rfl) : Go p e below P T (mkF m pc Ls (.int y :: .int x :: st)) := by
  subst hp; exact Go.by (fun _ q => XS.iand S.at S.hx rfl hd rfl q) g
theorem Sd.imul (S : Sd wd EL a0 p l e R s m args below meth c Z own n0 h0 ws0 T h F locs cells slots) {x : Int32} {y : Int32} (pc' : Nat) (hd : decode c.code pc = .ok (.imul, 1)) (g : Go p e below P T (mkF m pc' Ls (.int (x * y) :: st))) (hp : pc + 1 = pc' := by rfl) : Go p e below P T (mkF m pc Ls (.int y :: .int x :: st)) := by
  subst hp; exact Go.by (fun _ q => XS.imul S.at S.hx rfl hd rfl q) g
theorem Sd.ior (S : Sd wd EL a0 p l e R s m args below meth c Z own n0 h0 ws0 T h F locs cells slots) {x : Int32} {y : Int32} (pc' : Nat) (hd : decode c.code pc = .ok (.ior, 1)) (g : Go p e below P T (mkF m pc' Ls (.int (x ||| y) :: st))) (hp : pc + 1 = pc' := by rfl) : Go p e below P T (mkF m pc Ls (.int y :: .int x :: st)) := by
  subst hp; exact Go.by (fun _ q => XS.ior S.at S.hx rfl hd rfl q) g
theorem Sd.ixor (S : Sd wd EL a0 p l e R s m args below meth c Z own n0 h0 ws0 T h F locs cells slots) {x : Int32} {y : Int32} (pc' : Nat) (hd : decode c.code pc = .ok (.ixor, 1)) (g : Go p e below P T (mkF m pc' Ls (.int (x ^^^ y) :: st))) (hp : pc + 1 = pc' := by rfl) : Go p e below P T (mkF m pc Ls (.int y :: .int x :: st)) := by
  subst hp; exact Go.by (fun _ q => XS.ixor S.at S.hx rfl hd rfl q) g
theorem Sd.ishl (S : Sd wd EL a0 p l e R s m args below meth c Z own n0 h0 ws0 T h F locs cells slots) {x : Int32} {y : Int32} (pc' : Nat) (hd : decode c.code pc = .ok (.ishl, 1)) (g : Go p e below P T (mkF m pc' Ls (.int (x <<< (y &&& 31)) :: st))) (hp : pc + 1 = pc' := by rfl) : Go p e below P T (mkF m pc Ls (.int y :: .int x :: st)) := by
  subst hp; exact Go.by (fun _ q => XS.ishl S.at S.hx rfl hd rfl q) g
theorem Sd.ishr (S : Sd wd EL a0 p l e R s m args below meth c Z own n0 h0 ws0 T h F locs cells slots) {x : Int32} {y : Int32} (pc' : Nat) (hd : decode c.code pc = .ok (.ishr, 1)) (g : Go p e below P T (mkF m pc' Ls (.int (x >>> (y &&& 31)) :: st))) (hp : pc + 1 = pc' := by rfl) : Go p e below P T (mkF m pc Ls (.int y :: .int x :: st)) := by
  subst hp; exact Go.by (fun _ q => XS.ishr S.at S.hx rfl hd rfl q) g
theorem Sd.iushr (S : Sd wd EL a0 p l e R s m args below meth c Z own n0 h0 ws0 T h F locs cells slots) {x : Int32} {y : Int32} (pc' : Nat) (hd : decode c.code pc = .ok (.iushr, 1)) (g : Go p e below P T (mkF m pc' Ls (.int ((x.toUInt32 >>> (y &&& 31).toUInt32).toInt32) :: st))) (hp : pc + 1 = pc' := by rfl) : Go p e below P T (mkF m pc Ls (.int y :: .int x :: st)) := by
  subst hp; exact Go.by (fun _ q => XS.iushr S.at S.hx rfl hd rfl q) g
theorem Sd.idiv (S : Sd wd EL a0 p l e R s m args below meth c Z own n0 h0 ws0 T h F locs cells slots) {x : Int32} {y : Int32} (pc' : Nat) (hd : decode c.code pc = .ok (.idiv, 1)) (hy : y ≠ 0) (g : Go p e below P T (mkF m pc' Ls (.int (x / y) :: st))) (hp : pc + 1 = pc' := by rfl) : Go p e below P T (mkF m pc Ls (.int y :: .int x :: st)) := by
  subst hp; exact Go.by (fun _ q => XS.idiv S.at S.hx rfl hd rfl hy q) g
theorem Sd.ladd (S : Sd wd EL a0 p l e R s m args below meth c Z own n0 h0 ws0 T h F locs cells slots) {x : Int64} {y : Int64} (pc' : Nat) (hd : decode c.code pc = .ok (.ladd, 1)) (g : Go p e below P T (mkF m pc' Ls (.long (x + y) :: st))) (hp : pc + 1 = pc' := by rfl) : Go p e below P T (mkF m pc Ls (.long y :: .long x :: st)) := by
  subst hp; exact Go.by (fun _ q => XS.ladd S.at S.hx rfl hd rfl q) g
theorem Sd.lsub (S : Sd wd EL a0 p l e R s m args below meth c Z own n0 h0 ws0 T h F locs cells slots) {x : Int64} {y : Int64} (pc' : Nat) (hd : decode c.code pc = .ok (.lsub, 1)) (g : Go p e below P T (mkF m pc' Ls (.long (x - y) :: st))) (hp : pc + 1 = pc' := by rfl) : Go p e below P T (mkF m pc Ls (.long y :: .long x :: st)) := by
  subst hp; exact Go.by (fun _ q => XS.lsub S.at S.hx rfl hd rfl q) g
theorem Sd.lmul (S : Sd wd EL a0 p l e R s m args below meth c Z own n0 h0 ws0 T h F locs cells slots) {x : Int64} {y : Int64} (pc' : Nat) (hd : decode c.code pc = .ok (.lmul, 1)) (g : Go p e below P T (mkF m pc' Ls (.long (x * y) :: st))) (hp : pc + 1 = pc' := by rfl) : Go p e below P T (mkF m pc Ls (.long y :: .long x :: st)) := by
  subst hp; exact Go.by (fun _ q => XS.lmul S.at S.hx rfl hd rfl q) g
theorem Sd.land (S : Sd wd EL a0 p l e R s m args below meth c Z own n0 h0 ws0 T h F locs cells slots) {x : Int64} {y : Int64} (pc' : Nat) (hd : decode c.code pc = .ok (.land, 1)) (g : Go p e below P T (mkF m pc' Ls (.long (x &&& y) :: st))) (hp : pc + 1 = pc' := by rfl) : Go p e below P T (mkF m pc Ls (.long y :: .long x :: st)) := by
  subst hp; exact Go.by (fun _ q => XS.land S.at S.hx rfl hd rfl q) g
theorem Sd.lor (S : Sd wd EL a0 p l e R s m args below meth c Z own n0 h0 ws0 T h F locs cells slots) {x : Int64} {y : Int64} (pc' : Nat) (hd : decode c.code pc = .ok (.lor, 1)) (g : Go p e below P T (mkF m pc' Ls (.long (x ||| y) :: st))) (hp : pc + 1 = pc' := by rfl) : Go p e below P T (mkF m pc Ls (.long y :: .long x :: st)) := by
  subst hp; exact Go.by (fun _ q => XS.lor S.at S.hx rfl hd rfl q) g
theorem Sd.lxor (S : Sd wd EL a0 p l e R s m args below meth c Z own n0 h0 ws0 T h F locs cells slots) {x : Int64} {y : Int64} (pc' : Nat) (hd : decode c.code pc = .ok (.lxor, 1)) (g : Go p e below P T (mkF m pc' Ls (.long (x ^^^ y) :: st))) (hp : pc + 1 = pc' := by rfl) : Go p e below P T (mkF m pc Ls (.long y :: .long x :: st)) := by
  subst hp; exact Go.by (fun _ q => XS.lxor S.at S.hx rfl hd rfl q) g
theorem Sd.lshl (S : Sd wd EL a0 p l e R s m args below meth c Z own n0 h0 ws0 T h F locs cells slots) {x : Int64} {y : Int32} (pc' : Nat) (hd : decode c.code pc = .ok (.lshl, 1)) (g : Go p e below P T (mkF m pc' Ls (.long (x <<< (y &&& 0x3f).toInt64) :: st))) (hp : pc + 1 = pc' := by rfl) : Go p e below P T (mkF m pc Ls (.int y :: .long x :: st)) := by
  subst hp; exact Go.by (fun _ q => XS.lshl S.at S.hx rfl hd rfl q) g
theorem Sd.lshr (S : Sd wd EL a0 p l e R s m args below meth c Z own n0 h0 ws0 T h F locs cells slots) {x : Int64} {y : Int32} (pc' : Nat) (hd : decode c.code pc = .ok (.lshr, 1)) (g : Go p e below P T (mkF m pc' Ls (.long (x >>> (y &&& 0x3f).toInt64) :: st))) (hp : pc + 1 = pc' := by rfl) : Go p e below P T (mkF m pc Ls (.int y :: .long x :: st)) := by
  subst hp; exact Go.by (fun _ q => XS.lshr S.at S.hx rfl hd rfl q) g
theorem Sd.lushr (S : Sd wd EL a0 p l e R s m args below meth c Z own n0 h0 ws0 T h F locs cells slots) {x : Int64} {y : Int32} (pc' : Nat) (hd : decode c.code pc = .ok (.lushr, 1)) (g : Go p e below P T (mkF m pc' Ls (.long ((x.toUInt64 >>> (y &&& 0x3f).toInt64.toUInt64).toInt64) :: st))) (hp : pc + 1 = pc' := by rfl) : Go p e below P T (mkF m pc Ls (.int y :: .long x :: st)) := by
  subst hp; exact Go.by (fun _ q => XS.lushr S.at S.hx rfl hd rfl q) g
theorem Sd.ldiv (S : Sd wd EL a0 p l e R s m args below meth c Z own n0 h0 ws0 T h F locs cells slots) {x : Int64} {y : Int64} (pc' : Nat) (hd : decode c.code pc = .ok (.ldiv, 1)) (hy : y ≠ 0) (g : Go p e below P T (mkF m pc' Ls (.long (x / y) :: st))) (hp : pc + 1 = pc' := by rfl) : Go p e below P T (mkF m pc Ls (.long y :: .long x :: st)) := by
  subst hp; exact Go.by (fun _ q => XS.ldiv S.at S.hx rfl hd rfl hy q) g
theorem Sd.lrem (S : Sd wd EL a0 p l e R s m args below meth c Z own n0 h0 ws0 T h F locs cells slots) {x : Int64} {y : Int64} (pc' : Nat) (hd : decode c.code pc = .ok (.lrem, 1)) (hy : y ≠ 0) (g : Go p e below P T (mkF m pc' Ls (.long (x - (x / y) * y) :: st))) (hp : pc + 1 = pc' := by rfl) : Go p e below P T (mkF m pc Ls (.long y :: .long x :: st)) := by
  subst hp; exact Go.by (fun _ q => XS.lrem S.at S.hx rfl hd rfl hy q) g
theorem Sd.lcmp (S : Sd wd EL a0 p l e R s m args below meth c Z own n0 h0 ws0 T h F locs cells slots) {x : Int64} {y : Int64} (pc' : Nat) (hd : decode c.code pc = .ok (.lcmp, 1)) (g : Go p e below P T (mkF m pc' Ls (.int (if x > y then 1 else if x = y then 0 else -1) :: st))) (hp : pc + 1 = pc' := by rfl) : Go p e below P T (mkF m pc Ls (.long y :: .long x :: st)) := by
  subst hp; exact Go.by (fun _ q => XS.lcmp S.at S.hx rfl hd rfl q) g
theorem Sd.ineg (S : Sd wd EL a0 p l e R s m args below meth c Z own n0 h0 ws0 T h F locs cells slots) {x : Int32} (pc' : Nat) (hd : decode c.code pc = .ok (.ineg, 1)) (g : Go p e below P T (mkF m pc' Ls (.int (-x) :: st))) (hp : pc + 1 = pc' := by rfl) : Go p e below P T (mkF m pc Ls (.int x :: st)) := by
  subst hp; exact Go.by (fun _ q => XS.ineg S.at S.hx rfl hd rfl q) g
theorem Sd.i2b (S : Sd wd EL a0 p l e R s m args below meth c Z own n0 h0 ws0 T h F locs cells slots) {x : Int32} (pc' : Nat) (hd : decode c.code pc = .ok (.i2b, 1)) (g : Go p e below P T (mkF m pc' Ls (.int (x.toInt8.toInt32) :: st))) (hp : pc + 1 = pc' := by rfl) : Go p e below P T (mkF m pc Ls (.int x :: st)) := by
  subst hp; exact Go.by (fun _ q => XS.i2b S.at S.hx rfl hd rfl q) g
theorem Sd.i2c (S : Sd wd EL a0 p l e R s m args below meth c Z own n0 h0 ws0 T h F locs cells slots) {x : Int32} (pc' : Nat) (hd : decode c.code pc = .ok (.i2c, 1)) (g : Go p e below P T (mkF m pc' Ls (.int (x.toUInt32.toUInt16.toUInt32.toInt32) :: st))) (hp : pc + 1 = pc' := by rfl) : Go p e below P T (mkF m pc Ls (.int x :: st)) := by
  subst hp; exact Go.by (fun _ q => XS.i2c S.at S.hx rfl hd rfl q) g
theorem Sd.i2s (S : Sd wd EL a0 p l e R s m args below meth c Z own n0 h0 ws0 T h F locs cells slots) {x : Int32} (pc' : Nat) (hd : decode c.code pc = .ok (.i2s, 1)) (g : Go p e below P T (mkF m pc' Ls (.int (x.toInt16.toInt32) :: st))) (hp : pc + 1 = pc' := by rfl) : Go p e below P T (mkF m pc Ls (.int x :: st)) := by
  subst hp; exact Go.by (fun _ q => XS.i2s S.at S.hx rfl hd rfl q) g
theorem Sd.i2l (S : Sd wd EL a0 p l e R s m args below meth c Z own n0 h0 ws0 T h F locs cells slots) {x : Int32} (pc' : Nat) (hd : decode c.code pc = .ok (.i2l, 1)) (g : Go p e below P T (mkF m pc' Ls (.long (x.toInt64) :: st))) (hp : pc + 1 = pc' := by rfl) : Go p e below P T (mkF m pc Ls (.int x :: st)) := by
  subst hp; exact Go.by (fun _ q => XS.i2l S.at S.hx rfl hd rfl q) g
theorem Sd.l2i (S : Sd wd EL a0 p l e R s m args below meth c Z own n0 h0 ws0 T h F locs cells slots) {x : Int64} (pc' : Nat) (hd : decode c.code pc = .ok (.l2i, 1)) (g : Go p e below P T (mkF m pc' Ls (.int (x.toInt32) :: st))) (hp : pc + 1 = pc' := by rfl) : Go p e below P T (mkF m pc Ls (.long x :: st)) := by
  subst hp; exact Go.by (fun _ q => XS.l2i S.at S.hx rfl hd rfl q) g
theorem Sd.lneg (S : Sd wd EL a0 p l e R s m args below meth c Z own n0 h0 ws0 T h F locs cells slots) {x : Int64} (pc' : Nat) (hd : decode c.code pc = .ok (.lneg, 1)) (g : Go p e below P T (mkF m pc' Ls (.long (-x) :: st))) (hp : pc + 1 = pc' := by rfl) : Go p e below P T (mkF m pc Ls (.long x :: st)) := by
  subst hp; exact Go.by (fun _ q => XS.lneg S.at S.hx rfl hd rfl q) g
theorem Sd.irem (S : Sd wd EL a0 p l e R s m args below meth c Z own n0 h0 ws0 T h F locs cells slots) {x y : Int32} (pc' : Nat) (hd : decode c.code pc = .ok (.irem, 1)) (hy : y ≠ 0) (g : Go p e below P T (mkF m pc' Ls (.int (x % y) :: st))) (hp : pc + 1 = pc' := by rfl) : Go p e below P T (mkF m pc Ls (.int y :: .int x :: st)) := by
  subst hp
  obtain ⟨A, vm0, k0, hv, X, r⟩ := S
  exact Go.by (fun _ q => iremM X A.1 rfl hd rfl hy q) g
/-! ### steps on the heap -/
theorem Sd.new (S : Sd wd EL a0 p l e R s m args below meth c Z own n0 h0 ws0 T h F locs cells slots) {C : String} {index n : Nat} (pc' : Nat) (hd : decode c.code pc = .ok (.new index, 3)) (w : (Jvm.Cond.classLink own index C).before a0 Z = true) (wi : (Jvm.Cond.instantiable C n).before a0 Z = true) (wz : (Jvm.Cond.initialized C).before a0 Z = true) (hc : cells + 1 ≤ R.cells) (hl : slots + n ≤ R.slots)
    (g : ∀ (T' : State) (h' : Heap) (a : Addr), Sd wd EL a0 p l e R s m args below meth c Z own n0 h0 ws0 T' h' (a :: F) locs (cells + 1) (slots + n) → Ext h h' → a = h.size → Wok n0 h0 ws0 a → Exa Z h' a C → (∀ {O nm d : String} {ty : FieldType}, Laid Z a0 C O nm d → parseFieldDescriptor d = some ty → Fld Z h' a O nm d (defaultValue ty)) → Unt h' a → Go p e below P T' (mkF m pc' Ls (.ref a :: st))) (hp : pc + 3 = pc' := by rfl) :
    Go p e below P T (mkF m pc Ls st) := by
  subst hp
  obtain ⟨A, vm0, k0, hv, X, eT, hS, hk, hZ, hown, O, N, K0, C0, hF⟩ := S
  obtain ⟨T', h', X', e', E', A', D', U', st'⟩ := newO X A.1 hZ hown w wi wz eT (g := mkF m pc Ls st) rfl hd hc hl
  exact Go.by st' (g T' h' h.size (Sd.close A hv X' e' hS hk hZ hown O N K0 C0 hF (Ext.kp E') noWs fun x hx => by
    rcases List.mem_cons.mp hx with rfl | q
    · exact Or.inr ⟨Nat.le_refl _, A'.lt⟩
    · exact Or.inl q) E' rfl (Or.inr K0.1) A' D' U')
theorem Sd.getf (S : Sd wd EL a0 p l e R s m args below meth c Z own n0 h0 ws0 T h F locs cells slots) {R0 O n d host : String} {index : Nat} {a : Addr} {v : Value} (pc' : Nat) (hd : decode c.code pc = .ok (.getfield index, 3)) (w : (Jvm.Cond.fieldLink own index R0 n d).before a0 Z = true ∨ (Jvm.Cond.fieldLinkNest own index R0 n d host).before a0 Z = true) (via : Via Z R0 O n d) (V : Fld Z h a O n d v)
    (g : ∀ (T' : State), Sd wd EL a0 p l e R s m args below meth c Z own n0 h0 ws0 T' h F locs cells slots → Go p e below P T' (mkF m pc' Ls (v :: st))) (hp : pc + 3 = pc' := by rfl) : Go p e below P T (mkF m pc Ls (.ref a :: st)) := by
  subst hp
  obtain ⟨A, vm0, k0, hv, X, eT, r⟩ := S
  obtain ⟨hS, hk, hZ, hown, r'⟩ := id r
  obtain ⟨T', X', e', st'⟩ := getF X A.1 hZ hown w via eT V (g := mkF m pc Ls (.ref a :: st)) rfl rfl hd
  exact Go.by st' (g T' ⟨A, vm0, k0, hv, X', e', r⟩)
theorem Sd.gets (S : Sd wd EL a0 p l e R s m args below meth c Z own n0 h0 ws0 T h F locs cells slots) {R0 O n d host : String} {index : Nat} {v : Value} (pc' : Nat) (hd : decode c.code pc = .ok (.getstatic index, 3)) (w : (Jvm.Cond.fieldLink own index R0 n d).before a0 Z = true ∨ (Jvm.Cond.fieldLinkNest own index R0 n d host).before a0 Z = true) (via : Via Z R0 O n d) (V : Sta Z h O n d v)
    (g : ∀ (T' : State), Sd wd EL a0 p l e R s m args below meth c Z own n0 h0 ws0 T' h F locs cells slots → Go p e below P T' (mkF m pc' Ls (v :: st))) (hp : pc + 3 = pc' := by rfl) : Go p e below P T (mkF m pc Ls st) := by
  subst hp
  obtain ⟨A, vm0, k0, hv, X, eT, r⟩ := S
  obtain ⟨hS, hk, hZ, hown, r'⟩ := id r
  obtain ⟨T', X', e', st'⟩ := getS2 X A.1 hZ hown w via eT V (g := mkF m pc Ls st) rfl hd
  exact Go.by st' (g T' ⟨A, vm0, k0, hv, X', e', r⟩)
/-- no booked literal lies in an object of another class than String and byte[] -/
def Sok (F : List Addr) (a : Addr) (C : String) : Prop := (C ≠ "java/lang/String" ∧ C ≠ "[B") ∨ a ∈ F
theorem Sd.putf (S : Sd wd EL a0 p l e R s m args below meth c Z own n0 h0 ws0 T h F locs cells slots) {R0 O n d host C : String} {index kk : Nat} {a : Addr} {v old : Value} {ty : FieldType} (pc' : Nat) (hd : decode c.code pc = .ok (.putfield index, 3)) (w : (Jvm.Cond.fieldLink own index R0 n d).before a0 Z = true ∨ (Jvm.Cond.fieldLinkNest own index R0 n d host).before a0 Z = true) (via : Via Z R0 O n d)
    (V : Fld Z h a O n d old) (E : Exa Z h a C) (L : (Jvm.Cond.lays C O n d).before a0 Z = true ∨ ((Jvm.Cond.laysFinal C O n d).before a0 Z = true ∧ own = O ∧ meth.name = "<init>")) (wi : (Jvm.Cond.instantiable C kk).before a0 Z = true) (hty : parseFieldDescriptor d = some ty) (hn : narrow ty v = v) (hf : fits ty v = true) (wo : Wok n0 h0 ws0 a) (so : Sok F a C)
    (g : ∀ (T' : State) (h' : Heap) (locs' : List Loc), Sd wd EL a0 p l e R s m args below meth c Z own n0 h0 ws0 T' h' F locs' cells slots → Wr h h' a (Jvm.RoadKit.slotOf Z O n d) v → Go p e below P T' (mkF m pc' Ls st)) (hp : pc + 3 = pc' := by rfl) : Go p e below P T (mkF m pc Ls (v :: .ref a :: st)) := by
  subst hp
  have ge : n0 ≤ a := S.ge wo
  obtain ⟨A, vm0, k0, hv, X, eT, hS, hk, hZ, hown, O0, N, K0, C0, hF⟩ := S
  obtain ⟨T', h', X', e', W', st'⟩ := putF X A.1 hZ hown w via eT V E L wi hty hn hf (g := mkF m pc Ls (v :: .ref a :: st)) rfl rfl hd
  have sf : Safe Z EL vm0 h a := by
    rcases so with q | q
    · exact Safe.exa hZ.alike E q.1 q.2
    · exact (hF a q).1
  exact Go.by st' (g T' h' _ (Sd.close A hv X' e' hS hk hZ hown O0 (Fr.snoc X' N ge) K0 C0 hF (Keep.of_wr W') (fun x hx => by rw [List.mem_singleton.mp hx]; exact ⟨wo, sf⟩) fun x hx => Or.inl hx) W')
theorem Sd.newarr (S : Sd wd EL a0 p l e R s m args below meth c Z own n0 h0 ws0 T h F locs cells slots) {aty : ArrayType} {n : Int32} (pc' : Nat) (cap : Nat) (hd : decode c.code pc = .ok (.newarray aty, 2)) (w : (Jvm.Cond.arrayClass (newarray.typeOf aty)).before a0 Z = true) (hn : ¬ n < 0) (hcap : n.toNatClampNeg ≤ cap) (hb : cap * 8 ≤ 536870912) (hc : cells + 1 ≤ R.cells) (hl : slots + cap ≤ R.slots)
    (g : ∀ (T' : State) (h' : Heap) (a : Addr) (k : ClassId), Sd wd EL a0 p l e R s m args below meth c Z own n0 h0 ws0 T' h' (a :: F) locs (cells + 1) (slots + cap) → Ext h h' → a = h.size → Wok n0 h0 ws0 a → Arv Z h' a k (newarray.typeOf aty) n [] (defaultValue (newarray.typeOf aty)) → Go p e below P T' (mkF m pc' Ls (.ref a :: st))) (hp : pc + 2 = pc' := by rfl) :
    Go p e below P T (mkF m pc Ls (.int n :: st)) := by
  subst hp
  obtain ⟨A, vm0, k0, hv, X, eT, hS, hk, hZ, hown, O, N, K0, C0, hF⟩ := S
  obtain ⟨T', h', cA, X', e', E', A', st'⟩ := newP X A.1 hZ w eT (g := mkF m pc Ls (.int n :: st)) rfl hd rfl hn hcap hb hc hl
  exact Go.by st' (g T' h' h.size cA (Sd.close A hv X' e' hS hk hZ hown O N K0 C0 hF (Ext.kp E') noWs fun x hx => by
    rcases List.mem_cons.mp hx with rfl | q
    · exact Or.inr ⟨Nat.le_refl _, A'.lt⟩
    · exact Or.inl q) E' rfl (Or.inr K0.1) (Arv.new A' hn))
theorem Sd.castore (S : Sd wd EL a0 p l e R s m args below meth c Z own n0 h0 ws0 T h F locs cells slots) {a : Addr} {k : ClassId} {N : Int32} {vs : List Value} {dv : Value} {j x : Int32} (pc' i : Nat) (hd : decode c.code pc = .ok (.castore, 1)) (V : Arv Z h a k .char N vs dv) (hj : ¬ j < 0 ∧ j < N) (hi : j.toNatClampNeg = i) (hlt : i < vs.length) (wo : Wok n0 h0 ws0 a)
    (g : ∀ (T' : State) (h' : Heap) (locs' : List Loc), Sd wd EL a0 p l e R s m args below meth c Z own n0 h0 ws0 T' h' F locs' cells slots → Wr h h' a j.toNatClampNeg (.int (nar .char x)) → Arv Z h' a k .char N (vs.set i (.int (nar .char x))) dv → Go p e below P T' (mkF m pc' Ls st)) (hp : pc + 1 = pc' := by rfl) : Go p e below P T (mkF m pc Ls (.int x :: .int j :: .ref a :: st)) := by
  subst hp
  have ge : n0 ≤ a := S.ge wo
  obtain ⟨A, vm0, k0, hv, X, eT, hS, hk, hZ, hown, O0, N0, K0, C0, hF⟩ := S
  obtain ⟨cl, Ar, q, S', M, H, G⟩ := V
  obtain ⟨T', h', X', e', W', st'⟩ := stC X A.1 hZ eT Ar (x := x) (inb_of S' hj) (g := mkF m pc Ls (.int x :: .int j :: .ref a :: st)) rfl rfl hd
  exact Go.by st' (g T' h' _ (Sd.close A hv X' e' hS hk hZ hown O0 (Fr.snoc X' N0 ge) K0 C0 hF (Keep.of_wr W') (fun y hy => by rw [List.mem_singleton.mp hy]; exact ⟨wo, Safe.arr hZ.alike Ar (by decide)⟩) fun y hy => Or.inl hy) W' (Arv.set Ar q S' M H G (fits_nar_char _) W' i hi hlt))
theorem Sd.alen (S : Sd wd EL a0 p l e R s m args below meth c Z own n0 h0 ws0 T h F locs cells slots) {a : Addr} {k : ClassId} {ty : FieldType} {N : Int32} {vs : List Value} {dv : Value} (pc' : Nat) (hd : decode c.code pc = .ok (.arraylength, 1)) (V : Arv Z h a k ty N vs dv) (g : Go p e below P T (mkF m pc' Ls (.int N :: st))) (hp : pc + 1 = pc' := by rfl) : Go p e below P T (mkF m pc Ls (.ref a :: st)) := by
  subst hp
  obtain ⟨A, vm0, k0, hv, X, eT, hS, hk, hZ, r⟩ := S
  obtain ⟨cl, Ar, q, S', M, H, G⟩ := V
  rw [← len_of S' M] at g
  exact Go.by (fun t z => X.arraylength A.1 (by rw [eT]; exact Ar.1) (State.isArrayOf_alike hZ.alike Ar.2.1) (g := mkF m pc Ls (.ref a :: st)) rfl rfl hd t z) g
theorem Sd.caload (S : Sd wd EL a0 p l e R s m args below meth c Z own n0 h0 ws0 T h F locs cells slots) {a : Addr} {k : ClassId} {N : Int32} {vs : List Value} {dv v : Value} {j : Int32} (pc' : Nat) (hd : decode c.code pc = .ok (.caload, 1)) (V : Arv Z h a k .char N vs dv) (hj : ¬ j < 0 ∧ j < N) (hv' : vs.getD j.toNatClampNeg dv = v) (g : Go p e below P T (mkF m pc' Ls (v :: st))) (hp : pc + 1 = pc' := by rfl) : Go p e below P T (mkF m pc Ls (.int j :: .ref a :: st)) := by
  subst hp
  obtain ⟨A, vm0, k0, hv, X, eT, hS, hk, hZ, r⟩ := S
  obtain ⟨cl, Ar, q, S', M, H, G⟩ := V
  exact Go.by (fun t z => X.caload A.1 (by rw [eT]; exact Ar.1) (State.isArrayOf_alike hZ.alike Ar.2.1) Ar.2.2 (inb_of S' hj) (H.at (inb_of S' hj) hv') (g := mkF m pc Ls (.int j :: .ref a :: st)) rfl rfl hd t z) g
theorem Sd.baload (S : Sd wd EL a0 p l e R s m args below meth c Z own n0 h0 ws0 T h F locs cells slots) {a : Addr} {k : ClassId} {N : Int32} {vs : List Value} {dv v : Value} {j : Int32} (pc' : Nat) (hd : decode c.code pc = .ok (.baload, 1)) (V : Arv Z h a k .byte N vs dv) (hj : ¬ j < 0 ∧ j < N) (hv' : vs.getD j.toNatClampNeg dv = v) (g : Go p e below P T (mkF m pc' Ls (v :: st))) (hp : pc + 1 = pc' := by rfl) : Go p e below P T (mkF m pc Ls (.int j :: .ref a :: st)) := by
  subst hp
  obtain ⟨A, vm0, k0, hv, X, eT, hS, hk, hZ, r⟩ := S
  obtain ⟨cl, Ar, q, S', M, H, G⟩ := V
  exact Go.by (fun t z => X.baloadBytes A.1 (by rw [eT]; exact Ar.1) (State.isArrayOf_alike hZ.alike Ar.2.1) Ar.2.2 (inb_of S' hj) (H.at (inb_of S' hj) hv') (g := mkF m pc Ls (.int j :: .ref a :: st)) rfl rfl hd t z) g
theorem Sd.iaload (S : Sd wd EL a0 p l e R s m args below meth c Z own n0 h0 ws0 T h F locs cells slots) {a : Addr} {k : ClassId} {N : Int32} {vs : List Value} {dv v : Value} {j : Int32} (pc' : Nat) (hd : decode c.code pc = .ok (.iaload, 1)) (V : Arv Z h a k .int N vs dv) (hj : ¬ j < 0 ∧ j < N) (hv' : vs.getD j.toNatClampNeg dv = v) (g : Go p e below P T (mkF m pc' Ls (v :: st))) (hp : pc + 1 = pc' := by rfl) : Go p e below P T (mkF m pc Ls (.int j :: .ref a :: st)) := by
  subst hp
  obtain ⟨A, vm0, k0, hv, X, eT, hS, hk, hZ, r⟩ := S
  obtain ⟨cl, Ar, q, S', M, H, G⟩ := V
  exact Go.by (fun t z => X.iaload A.1 (by rw [eT]; exact Ar.1) (State.isArrayOf_alike hZ.alike Ar.2.1) Ar.2.2 (inb_of S' hj) (H.at (inb_of S' hj) hv') (g := mkF m pc Ls (.int j :: .ref a :: st)) rfl rfl hd t z) g
theorem Sd.ldcI (S : Sd wd EL a0 p l e R s m args below meth c Z own n0 h0 ws0 T h F locs cells slots) {index : Nat} {v : Int32} (pc' : Nat) (hd : decode c.code pc = .ok (.ldc index, 2)) (w : (Jvm.Cond.constant own index v).before a0 Z = true) (g : Go p e below P T (mkF m pc' Ls (.int v :: st))) (hp : pc + 2 = pc' := by rfl) : Go p e below P T (mkF m pc Ls st) := by
  subst hp
  obtain ⟨A, vm0, k0, hv, X, eT, hS, hk, hZ, hown, r⟩ := S
  exact Go.by (fun t z => X.ldcInt A.1 hown (mvT (s := s.setVm vm0) hZ w) (g := mkF m pc Ls st) rfl hd t z) g
theorem Sd.ldc2J (S : Sd wd EL a0 p l e R s m args below meth c Z own n0 h0 ws0 T h F locs cells slots) {index : Nat} {v : Int64} (pc' : Nat) (hd : decode c.code pc = .ok (.ldc2_w index, 3)) (w : (Jvm.Cond.constantLong own index v).before a0 Z = true) (g : Go p e below P T (mkF m pc' Ls (.long v :: st))) (hp : pc + 3 = pc' := by rfl) : Go p e below P T (mkF m pc Ls st) := by
  subst hp
  obtain ⟨A, vm0, k0, hv, X, eT, hS, hk, hZ, hown, r⟩ := S
  exact Go.by (fun t z => X.ldc2Long A.1 hown (mvT (s := s.setVm vm0) hZ w) (g := mkF m pc Ls st) rfl hd t z) g
theorem Sd.cast (S : Sd wd EL a0 p l e R s m args below meth c Z own n0 h0 ws0 T h F locs cells slots) {K : String} {index : Nat} {a : Addr} (pc' : Nat) (hd : decode c.code pc = .ok (.checkcast index, 3)) (w : (Jvm.Cond.classLink own index K).before a0 Z = true) (I : Ins Z h a K true)
    (g : ∀ (T' : State), Sd wd EL a0 p l e R s m args below meth c Z own n0 h0 ws0 T' h F locs cells slots → Go p e below P T' (mkF m pc' Ls (.ref a :: st))) (hp : pc + 3 = pc' := by rfl) : Go p e below P T (mkF m pc Ls (.ref a :: st)) := by
  subst hp
  obtain ⟨A, vm0, k0, hv, X, eT, r⟩ := S
  obtain ⟨hS, hk, hZ, hown, r'⟩ := id r
  obtain ⟨T', X', e', st'⟩ := castY X A.1 hZ hown w eT I (g := mkF m pc Ls (.ref a :: st)) rfl rfl hd
  exact Go.by st' (g T' ⟨A, vm0, k0, hv, X', e', r⟩)
theorem Sd.castNull (S : Sd wd EL a0 p l e R s m args below meth c Z own n0 h0 ws0 T h F locs cells slots) {index : Nat} (pc' : Nat) (hd : decode c.code pc = .ok (.checkcast index, 3)) (g : Go p e below P T (mkF m pc' Ls (.null :: st))) (hp : pc + 3 = pc' := by rfl) : Go p e below P T (mkF m pc Ls (.null :: st)) := by
  subst hp
  obtain ⟨A, vm0, k0, hv, X, r⟩ := S
  exact Go.by (fun t z => X.checkcastNull A.1 (g := mkF m pc Ls (.null :: st)) rfl rfl hd t z) g
theorem Sd.instY (S : Sd wd EL a0 p l e R s m args below meth c Z own n0 h0 ws0 T h F locs cells slots) {K : String} {index : Nat} {a : Addr} (pc' : Nat) (hd : decode c.code pc = .ok (.instanceof index, 3)) (w : (Jvm.Cond.classLink own index K).before a0 Z = true) (I : Ins Z h a K true)
    (g : ∀ (T' : State), Sd wd EL a0 p l e R s m args below meth c Z own n0 h0 ws0 T' h F locs cells slots → Go p e below P T' (mkF m pc' Ls (.int 1 :: st))) (hp : pc + 3 = pc' := by rfl) : Go p e below P T (mkF m pc Ls (.ref a :: st)) := by
  subst hp
  obtain ⟨A, vm0, k0, hv, X, eT, r⟩ := S
  obtain ⟨hS, hk, hZ, hown, r'⟩ := id r
  obtain ⟨T', X', e', st'⟩ := RoadKit.instY X A.1 hZ hown w eT I (g := mkF m pc Ls (.ref a :: st)) rfl rfl hd
  exact Go.by st' (g T' ⟨A, vm0, k0, hv, X', e', r⟩)
theorem Sd.instNo (S : Sd wd EL a0 p l e R s m args below meth c Z own n0 h0 ws0 T h F locs cells slots) {K C : String} {index : Nat} {a : Addr} (pc' : Nat) (hd : decode c.code pc = .ok (.instanceof index, 3)) (w : (Jvm.Cond.classLink own index K).before a0 Z = true) (E : Exa Z h a C) (I : ∃ c t, Z.vm.findClass C = some c ∧ Z.vm.findClass K = some t ∧ Z.vm.assignable c t = false)
    (g : ∀ (T' : State), Sd wd EL a0 p l e R s m args below meth c Z own n0 h0 ws0 T' h F locs cells slots → Go p e below P T' (mkF m pc' Ls (.int 0 :: st))) (hp : pc + 3 = pc' := by rfl) : Go p e below P T (mkF m pc Ls (.ref a :: st)) := by
  subst hp
  obtain ⟨A, vm0, k0, hv, X, eT, r⟩ := S
  obtain ⟨hS, hk, hZ, hown, r'⟩ := id r
  obtain ⟨T', X', e', st'⟩ := RoadKit.instNo X A.1 hZ hown w eT E I (g := mkF m pc Ls (.ref a :: st)) rfl rfl hd
  exact Go.by st' (g T' ⟨A, vm0, k0, hv, X', e', r⟩)
theorem Sd.initO (S : Sd wd EL a0 p l e R s m args below meth c Z own n0 h0 ws0 T h F locs cells slots) {idx W : Nat} {a : Addr} (pc' : Nat) (hd : decode c.code pc = .ok (.invokespecial idx, 3)) (hml : Ls.size = c.maxLocals) (w1 : (Jvm.Cond.methodLink own idx Lib.objectInit).before a0 Z = true) (w2 : (Jvm.Cond.instanceMethod Lib.objectInit).before a0 Z = true) (w3 : (Jvm.Cond.code Lib.objectInit ⟨#[0xb1]⟩ 1 none).before a0 Z = true)
    (hf : 1 ≤ R.frames) (hW : (st.map fun v => v.category).sum ≤ W) (hl : W + 12 ≤ R.locals)
    (g : ∀ (T' : State), Sd wd EL a0 p l e R s m args below meth c Z own n0 h0 ws0 T' h F locs cells slots → Go p e below P T' (mkF m pc' Ls st)) (hp : pc + 3 = pc' := by rfl) : Go p e below P T (mkF m pc Ls (.ref a :: st)) := by
  subst hp
  obtain ⟨A, vm0, k0, hv, X, eT, r⟩ := S
  obtain ⟨hS, hk, hZ, hown, r'⟩ := id r
  obtain ⟨T', X', e', st'⟩ := RoadKit.initO X A.1 hZ hown w1 w2 w3 eT (g := mkF m pc Ls (.ref a :: st)) rfl hml rfl hd hf (W := W) (by show 2 * 0 + _ ≤ _; omega) hl
  exact Go.by st' (g T' ⟨A, vm0, k0, hv, X', e', r⟩)
/-- 'ldc' of a String constant, opaque (a wide body) -/
theorem Sd.ldcO (S : Sd true EL a0 p l e R s m args below meth c Z own n0 h0 ws0 T h F locs cells slots) {index n : Nat} {text : String} (pc' : Nat) (hd : decode c.code pc = .ok (.ldc index, 2)) (w : (Jvm.Cond.stringLink own index text).before a0 Z = true) (wS : ∀ a ∈ Bundle.stringAtoms, a.before a0 Z = true) (hn : 4 * text.toList.length ≤ n) (hbig : n ≤ 536870912) (hc : cells + 2 ≤ R.cells) (hl : slots + (n + 4) ≤ R.slots)
    (g : ∀ (T' : State) (h' : Heap) (a : Addr), Sd true EL a0 p l e R s m args below meth c Z own n0 h0 ws0 T' h' F locs (cells + 2) (slots + (n + 4)) → Ext h h' → Go p e below P T' (mkF m pc' Ls (.ref a :: st))) (hp : pc + 2 = pc' := by rfl) : Go p e below P T (mkF m pc Ls st) := by
  subst hp
  obtain ⟨A, vm0, k0, hv, X, eT, hS, hk, hZ, hown, O, N, K0, C0, hF⟩ := S
  obtain ⟨a, T', h', k1, X', e', E, hS', hk', hZ', hown', C', -, st'⟩ := ldcOH X A.1 hZ hown w wS eT hS hk A.2.2.1 C0.1 (g := mkF m pc Ls st) rfl hd hn hbig hc hl
  exact Go.by st' (g T' h' a ⟨A, T'.vm, k1, nofun, X', e', hS', hk', hZ', hown', O.ext E, N, K0.ext E, C0.trans C', fun x hx => ⟨C'.safe (hF x hx).2 (hF x hx).1, Nat.lt_of_lt_of_le (hF x hx).2 E.1⟩⟩ E)
/-- 'ldc' of a String constant of EL, read (a wide body) -/
theorem Sd.ldcR (S : Sd true EL a0 p l e R s m args below meth c Z own n0 h0 ws0 T h F locs cells slots) {index n : Nat} {text : String} {vs : List Value} {z : Int32} (pc' : Nat) (hd : decode c.code pc = .ok (.ldc index, 2)) (w : (Jvm.Cond.stringLink own index text).before a0 Z = true) (wS : ∀ a ∈ Bundle.stringAtoms, a.before a0 Z = true) (hmem : (own, index) ∈ EL) (ht : (∀ c ∈ text.toList, c.toNat < 256) ∧ text.toList.map (fun c => Value.int (Jvm.Lit.byteI c.toNat.toUInt16)) = vs) (hz : ¬ z < 0) (hlen : z.toNatClampNeg = vs.length)
    (hn : 4 * text.toList.length ≤ n) (hbig : n ≤ 536870912) (hc : cells + 2 ≤ R.cells) (hl : slots + (n + 4) ≤ R.slots)
    (g : ∀ (T' : State) (h' : Heap) (a b : Addr) (k : ClassId), Sd true EL a0 p l e R s m args below meth c Z own n0 h0 ws0 T' h' F locs (cells + 2) (slots + (n + 4)) → Ext h h' → Exa Z h' a "java/lang/String" → Fld Z h' a "java/lang/String" "coder" "B" (.int 0) → Fld Z h' a "java/lang/String" "value" "[B" (.ref b) → Arv Z h' b k .byte z vs (.int 0) → (∀ x ∈ F, x ≠ a ∧ x ≠ b) → Go p e below P T' (mkF m pc' Ls (.ref a :: st))) (hp : pc + 2 = pc' := by rfl) : Go p e below P T (mkF m pc Ls st) := by
  subst hp
  obtain ⟨A, vm0, k0, hv, X, eT, hS, hk, hZ, hown, O, N, K0, C0, hF⟩ := S
  obtain ⟨a, T', h', k1, b, k, X', e', E, hS', hk', hZ', hown', g1, g2, g3, g4, -, -, C', -, hne, st'⟩ := ldcCH X A.1 hZ hown w wS eT hS hk A.2.2.1 hmem C0.1 ht hz hlen (g := mkF m pc Ls st) rfl hd hn hbig hc hl
  have sf : ∀ x ∈ F, Safe Z EL T'.vm h' x ∧ x < h'.size := fun x hx => ⟨C'.safe (hF x hx).2 (hF x hx).1, Nat.lt_of_lt_of_le (hF x hx).2 E.1⟩
  exact Go.by st' (g T' h' a b k ⟨A, T'.vm, k1, nofun, X', e', hS', hk', hZ', hown', O.ext E, N, K0.ext E, C0.trans C', sf⟩ E g1 g2 g3 g4 fun x hx => hne x (sf x hx).1)
/-! ### the end of a body -/
theorem Sd.endB (S : Sd wd EL a0 p l e R s m args below meth c Z own n0 h0 ws0 T h F locs cells slots) {v : Option Value} (hv : meth.sig.returnType = none → v = none) {rc rs : Nat} (hc : cells ≤ rc) (hs : slots ≤ rs) {Q : Option Value → Heap → Prop} (q : Q v h) :
    ∃ fs, (∀ (f : JFrame) (acts : List Action), f.method = m → f.locked = none → f.entered = [] → (doReturn e (T.setTop f) acts v).1 = T.setFrames fs) ∧ (T.setFrames fs).status = .running ∧ Ended (T.setFrames fs) below (.returned v) ∧ Done wd EL Z s n0 h0 ws0 rc rs Q (.returned v) (T.setFrames fs) := by
  obtain ⟨A, vm0, k0, hw, X, eT, hS, hk, hZ, hown, O, N, K0, C0, hF⟩ := S
  have hh : ∀ fs, (T.setFrames fs).heap = h := fun fs => eT
  cases wd with
  | false =>
    obtain rfl := hw rfl
    have X : Stand p l e R s m args below meth c T locs cells slots := X
    obtain ⟨fs, h1, h2, h3, hW, hsame⟩ := X.leave hv A.2.1
    exact ⟨fs, h1, h2, h3, v, locs, rfl, ⟨by rw [hh]; exact q, by rw [hh]; exact K0, N⟩, ⟨_, rfl⟩, hW, hsame.mono hc hs⟩
  | true =>
    obtain ⟨fs, h1, h2, h3, e1, e2, e3, e4⟩ := X.leaveW hS (by rw [eT]; exact hk) hv A.2.1
    refine ⟨fs, h1, h2, h3, v, locs, rfl, ⟨by rw [hh]; exact q, by rw [hh]; exact K0, N⟩, ?_, e1, e2, e3, e4.mono hc hs⟩
    have C1 := C0.trans (CHv.at X hZ A.2.2.1 C0.1)
    show CHr Z EL s.vm s.heap T.vm (T.setFrames fs).heap
    rw [hh]; exact C1
theorem Sd.ret0 (S : Sd wd EL a0 p l e R s m args below meth c Z own n0 h0 ws0 T h F locs cells slots) {rc rs : Nat} {Q : Option Value → Heap → Prop} (hd : decode c.code pc = .ok (.return_, 1)) (hret : meth.sig.returnType = none) (hc : cells ≤ rc) (hs : slots ≤ rs) (q : Q none h) : Go p e below (Done wd EL Z s n0 h0 ws0 rc rs Q) T (mkF m pc Ls []) := by
  obtain ⟨fs, h1, h2, h3, h4⟩ := S.endB (v := none) (fun _ => rfl) hc hs q
  obtain ⟨A, vm0, k0, hw, X, r⟩ := S
  exact ⟨_, _, X.returnOut A.1 hret hd h1, h2, h3, h4⟩
theorem Sd.retV (S : Sd wd EL a0 p l e R s m args below meth c Z own n0 h0 ws0 T h F locs cells slots) {rc rs : Nat} {Q : Option Value → Heap → Prop} {w : Value} {t : FieldType} {i : Instr} (hd : decode c.code pc = .ok (i, 1)) (hret : meth.sig.returnType = some t) (hn : narrow t w = w)
    (hi : (i = .ireturn ∧ (t = .int ∨ t = .boolean ∨ t = .byte ∨ t = .char ∨ t = .short) ∧ ∃ z, w = .int z) ∨ (i = .lreturn ∧ t = .long ∧ ∃ z, w = .long z) ∨ (i = .dreturn ∧ t = .double ∧ ∃ z, w = .double z) ∨ (i = .freturn ∧ t = .float ∧ ∃ z, w = .float z) ∨ (i = .areturn ∧ t.isReference = true ∧ w.isRef = true))
    (hc : cells ≤ rc) (hs : slots ≤ rs) (q : Q (some w) h) : Go p e below (Done wd EL Z s n0 h0 ws0 rc rs Q) T (mkF m pc Ls (w :: st)) := by
  obtain ⟨fs, h1, h2, h3, h4⟩ := S.endB (v := some w) (fun z => by rw [hret] at z; cases z) hc hs q
  obtain ⟨A, vm0, k0, hw, X, r⟩ := S
  exact ⟨_, _, retOut X A.1 hret hn hi hd h1, h2, h3, h4⟩
theorem Sd.retI (S : Sd wd EL a0 p l e R s m args below meth c Z own n0 h0 ws0 T h F locs cells slots) {rc rs : Nat} {Q : Option Value → Heap → Prop} {z : Int32} (hd : decode c.code pc = .ok (.ireturn, 1)) (hret : meth.sig.returnType = some .int) (hc : cells ≤ rc) (hs : slots ≤ rs) (q : Q (some (.int z)) h) : Go p e below (Done wd EL Z s n0 h0 ws0 rc rs Q) T (mkF m pc Ls (.int z :: st)) :=
  S.retV hd hret rfl (Or.inl ⟨rfl, Or.inl rfl, z, rfl⟩) hc hs q
/-- the return of a boolean, byte, char or short: what the frame holds is narrowed -/
theorem Sd.retN (S : Sd wd EL a0 p l e R s m args below meth c Z own n0 h0 ws0 T h F locs cells slots) {rc rs : Nat} {Q : Option Value → Heap → Prop} {z : Int32} {t : FieldType} (hd : decode c.code pc = .ok (.ireturn, 1)) (hret : meth.sig.returnType = some t) (ht : t = .boolean ∨ t = .byte ∨ t = .char ∨ t = .short) (hc : cells ≤ rc) (hs : slots ≤ rs) (q : Q (some (.int (nar t z))) h) : Go p e below (Done wd EL Z s n0 h0 ws0 rc rs Q) T (mkF m pc Ls (.int z :: st)) := by
  obtain ⟨fs, h1, h2, h3, h4⟩ := S.endB (v := some (.int (nar t z))) (fun y => by rw [hret] at y; cases y) hc hs q
  obtain ⟨A, vm0, k0, hw, X, r⟩ := S
  exact ⟨_, _, RoadKit.retN X A.1 hret ht hd h1, h2, h3, h4⟩
theorem Sd.retJ (S : Sd wd EL a0 p l e R s m args below meth c Z own n0 h0 ws0 T h F locs cells slots) {rc rs : Nat} {Q : Option Value → Heap → Prop} {z : Int64} (hd : decode c.code pc = .ok (.lreturn, 1)) (hret : meth.sig.returnType = some .long) (hc : cells ≤ rc) (hs : slots ≤ rs) (q : Q (some (.long z)) h) : Go p e below (Done wd EL Z s n0 h0 ws0 rc rs Q) T (mkF m pc Ls (.long z :: st)) :=
  S.retV hd hret rfl (Or.inr (Or.inl ⟨rfl, rfl, z, rfl⟩)) hc hs q
theorem Sd.retA (S : Sd wd EL a0 p l e R s m args below meth c Z own n0 h0 ws0 T h F locs cells slots) {rc rs : Nat} {Q : Option Value → Heap → Prop} {w : Value} {t : FieldType} (hd : decode c.code pc = .ok (.areturn, 1)) (hret : meth.sig.returnType = some t) (ht : t.isReference = true) (hw : w.isRef = true) (hc : cells ≤ rc) (hs : slots ≤ rs) (q : Q (some w) h) : Go p e below (Done wd EL Z s n0 h0 ws0 rc rs Q) T (mkF m pc Ls (w :: st)) :=
  S.retV hd hret (Jvm.narrow_isRef _ hw) (Or.inr (Or.inr (Or.inr (Or.inr ⟨rfl, ht, hw⟩)))) hc hs q
/-! ### contracts -/
/-- a body that interns nothing -/
def Con (l : Launch) (Z : State) (n0 : Nat) (y : MethodName) (bytes : ByteArray) (maxL : Nat) (ret : Option FieldType) (cs : List Jvm.Cond) (rm : Room) (as' : Array Value) (h : Heap) (ws : List Addr) (Q : Option Value → Heap → Prop) : Prop :=
  MetFree l y (head1 (Jvm.Cond.code y bytes maxL ret :: cs) rm) (fun a U => a = as' ∧ Z.Warmed39 U.vm ∧ U.heap = h) (fun _ _ _ _ _ => True) (fun _ U o U' => ∃ v L, o = .returned v ∧ (Q v U'.heap ∧ Keep h U'.heap ws ∧ Fr n0 L) ∧ FrameEnd U o U' L rm.cells rm.slots)
/-- a body that may intern: F0: what must hold no booked literal -/
def ConS (EL : List (String × Nat)) (l : Launch) (Z : State) (n0 : Nat) (y : MethodName) (bytes : ByteArray) (maxL : Nat) (ret : Option FieldType) (cs : List Jvm.Cond) (rm : Room) (as' : Array Value) (h : Heap) (ws F0 : List Addr) (Q : Option Value → Heap → Prop) : Prop :=
  MetFree l y (head1 (Jvm.Cond.code y bytes maxL ret :: cs) rm) (fun a U => a = as' ∧ Z.Warmed39 U.vm ∧ U.heap = h ∧ CHv Z EL U.vm h ∧ ∀ x ∈ F0, Safe Z EL U.vm h x ∧ x < h.size) (fun _ _ _ _ _ => True) (fun _ U o U' => ∃ v L, o = .returned v ∧ (Q v U'.heap ∧ Keep h U'.heap ws ∧ Fr n0 L) ∧ CHr Z EL U.vm U.heap U'.vm U'.heap ∧ ReturnedEndW U o U' L rm.cells rm.slots)
theorem chv0 {vm : Vm} : CHv Z [] vm h := fun _ q => nomatch q
theorem safe0 {vm : Vm} {x : Addr} : Safe Z [] vm h x := fun ⟨_, q, _⟩ => nomatch q
theorem Con.of {y : MethodName} {bytes : ByteArray} {maxL : Nat} {ret : Option FieldType} {cs : List Jvm.Cond} {rm : Room} {as' : Array Value} {Q : Option Value → Heap → Prop} (a0 : Array Value) (hn : plainFor y = true) (hO : Old Z n0 h) (hws : ∀ x ∈ ws, n0 ≤ x) (F0 : List Addr) (hF0 : ∀ x ∈ F0, x < h.size)
    (body : ∀ (p : Program) (e : Env) (s : State) (m : MethodId) (below : List Frame) (meth : Method) (c : Code) (T : State), Sd false [] a0 p l e rm s m as' below meth c Z y.cls n0 h ws T h F0 [] 0 0 → c.code = bytes → c.maxLocals = maxL → meth.sig.returnType = ret → meth.name = y.name → Go p e below (Done false [] Z s n0 h ws rm.cells rm.slots Q) T (entryFrame m as' maxL)) :
    Con l Z n0 y bytes maxL ret cs rm as' h ws Q := by
  refine MetFree.of_bodySF hn hisR ?_
  intro p e s m args below meth c s₁ Bd hml0 hP hK
  obtain ⟨rfl, hZ, rfl⟩ := hP
  have e0 : s₁.heap = s.heap := by rw [Bd.state]; rfl
  obtain ⟨s₂, o, h1, h2, h3, h4⟩ := body p e s m below meth c s₁ ⟨⟨Bd.exec, Bd.notSynchronized, EW.nil, rfl, hO, hws⟩, s.vm, 0, fun _ => rfl, (Stand.of_body Bd : Stand p l e rm s m args below meth c s₁ [] 0 0), e0, State.WarmedH.since (State.WarmedH.refl s) 0, Nat.zero_le _, hZ, findClass_of_methodNamed Bd.named, hO, Fr.nil n0, Keep.refl _ _, CHr.refl chv0, fun x hx => ⟨safe0, hF0 x hx⟩⟩ Bd.bytes hml0 Bd.returns (name_of_methodNamed Bd.named Bd.method).1
  exact ⟨s₂, o, h1, h2, h3, h4⟩
theorem ConS.of {y : MethodName} {bytes : ByteArray} {maxL : Nat} {ret : Option FieldType} {cs : List Jvm.Cond} {rm : Room} {as' : Array Value} {F0 : List Addr} {Q : Option Value → Heap → Prop} (hn : plainFor y = true) (hO : Old Z n0 h) (hEL : EW Z a0 EL) (hws : ∀ x ∈ ws, n0 ≤ x)
    (body : ∀ (p : Program) (e : Env) (s : State) (m : MethodId) (below : List Frame) (meth : Method) (c : Code) (T : State), Sd true EL a0 p l e rm s m as' below meth c Z y.cls n0 h ws T h F0 [] 0 0 → c.code = bytes → c.maxLocals = maxL → meth.sig.returnType = ret → meth.name = y.name → Go p e below (Done true EL Z s n0 h ws rm.cells rm.slots Q) T (entryFrame m as' maxL)) :
    ConS EL l Z n0 y bytes maxL ret cs rm as' h ws F0 Q := by
  refine MetFree.of_bodySF hn hisR ?_
  intro p e s m args below meth c s₁ Bd hml0 hP hK
  obtain ⟨rfl, hZ, rfl, hC, hF⟩ := hP
  have e0 : s₁.heap = s.heap := by rw [Bd.state]; rfl
  obtain ⟨s₂, o, h1, h2, h3, h4⟩ := body p e s m below meth c s₁ ⟨⟨Bd.exec, Bd.notSynchronized, hEL, rfl, hO, hws⟩, s.vm, 0, fun _ => rfl, (Stand.of_body Bd : Stand p l e rm s m args below meth c s₁ [] 0 0), e0, State.WarmedH.since (State.WarmedH.refl s) 0, Nat.zero_le _, hZ, findClass_of_methodNamed Bd.named, hO, Fr.nil n0, Keep.refl _ _, CHr.refl hC, hF⟩ Bd.bytes hml0 Bd.returns (name_of_methodNamed Bd.named Bd.method).1
  exact ⟨s₂, o, h1, h2, h3, h4⟩
/-! ### who pays a call -/
def Pay (l : Launch) (R : Room) (p : Program) (e : Env) (below : List Frame) (args : Array Value) (Z s : State) (n0 : Nat) (y : MethodName) (len W : Nat) (as' : Array Value) (h : Heap) (ws : List Addr) (rc rs : Nat) (Q : Option Value → Heap → Prop) : Prop :=
  ∀ s' : State, Z.Warmed39 s'.vm → s.vm.Alike s'.vm → Back l R p e below s' args y len W (fun A a => a = as' ∧ A.U.heap = h ∧ A.cells + rc ≤ R.cells ∧ A.slots + rs ≤ R.slots) (fun A _ v B => ∃ L, (Q v B.U.heap ∧ Keep h B.U.heap ws ∧ Fr n0 L) ∧ B.locs = A.locs ++ L ∧ B.cells = A.cells + rc ∧ B.slots = A.slots + rs)
def PayS (EL : List (String × Nat)) (a0 : Array Value) (l : Launch) (R : Room) (p : Program) (e : Env) (below : List Frame) (args : Array Value) (Z : State) (n0 : Nat) (y : MethodName) (len W : Nat) (as' : Array Value) (h : Heap) (ws F0 : List Addr) (rc rs : Nat) (Q : Option Value → Heap → Prop) : Prop :=
  ∀ (s : State) (vm0 : Vm), Z.Warmed39 vm0 → EW Z a0 EL → CHv Z EL vm0 h → (∀ x ∈ F0, Safe Z EL vm0 h x ∧ x < h.size) → BackS l R p e below (s.setVm vm0) args y len W (fun A a => a = as' ∧ A.U.heap = h ∧ A.cells + rc ≤ R.cells ∧ A.slots + rs ≤ R.slots)
    (fun A _ v B => ∃ L, (Q v B.U.heap ∧ Keep h B.U.heap ws ∧ Fr n0 L) ∧ B.locs = A.locs ++ L ∧ B.cells = A.cells + rc ∧ B.slots = A.slots + rs ∧ CHr Z EL vm0 h B.U.vm B.U.heap)
variable {y : MethodName} {bytes : ByteArray} {maxL : Nat} {ret : Option FieldType} {cs : List Jvm.Cond} {rm : Room} {as' : Array Value} {Q : Option Value → Heap → Prop} {len W rc rs : Nat} {F0 : List Addr} {argsL : List Value}
theorem Con.pay (M : Con l Z n0 y bytes maxL ret [] rm as' h ws Q) (wc : (Jvm.Cond.code y bytes maxL ret).before a0 Z = true) (wz : (Jvm.Cond.initialized y.cls).before a0 Z = true) (hf : rm.frames + 1 ≤ R.frames) (hl : W + (maxL + 11) + rm.locals ≤ R.locals) : Pay l R p e below args Z s n0 y len W as' h ws rm.cells rm.slots Q :=
  fun _ hZ _ => backOf (Q := fun v h' L => Q v h' ∧ Keep h h' ws ∧ Fr n0 L) M hZ wc wz hf hl
theorem ConS.pay (M : ConS EL l Z n0 y bytes maxL ret [] rm as' h ws F0 Q) (wc : (Jvm.Cond.code y bytes maxL ret).before a0 Z = true) (wz : (Jvm.Cond.initialized y.cls).before a0 Z = true) (hf : rm.frames + 1 ≤ R.frames) (hl : W + (maxL + 11) + rm.locals ≤ R.locals) : PayS EL a0 l R p e below args Z n0 y len W as' h ws F0 rm.cells rm.slots Q := by
  intro s vm0 hZ hEL H hF
  exact BackS.of_freeW (bytes := bytes) (maxL := maxL) (ret := ret) (E := fun _ first o t L k n => k = rm.cells ∧ n = rm.slots ∧ (∃ v, o = .returned v ∧ (Q v t.heap ∧ Keep h t.heap ws ∧ Fr n0 L)) ∧ CHr Z EL first.vm first.heap t.vm t.heap) M hf hl
    (fun m meth c A a Y hp => have hU : Z.Warmed39 A.U.vm := wtrans (s := s.setVm vm0) hZ Y.warmed
      ⟨by show (Cond.and _ .tt).before a A.U = true; rw [Cond.before_and, mv hU wc]; rfl, mv hU wc, mv hU wz, hp.2.2.1, hp.2.2.2⟩)
    (fun m meth c A a g mk Y hp => ⟨hp.1, wtrans (s := s.setVm vm0) hZ Y.warmed, hp.2.1, (CHv.at Y hZ hEL H).1, fun x hx => ⟨(CHv.at Y hZ hEL H).safe (hF x hx).2 (hF x hx).1, (hF x hx).2⟩⟩) (fun _ _ _ _ _ _ _ _ _ => trivial)
    (fun _ _ _ _ ⟨v, L, h1, h2, h3, h4⟩ => ⟨L, _, _, h4, rfl, rfl, ⟨v, h1, h2⟩, h3⟩)
    (fun m meth c A a g mk v t L k n Y hp _ _ ⟨e1, e2, ⟨v', e3, e4⟩, e5⟩ => by
      cases e3; subst e1 e2
      refine ⟨L, e4, rfl, rfl, rfl, (CHv.at Y hZ hEL H).trans ?_⟩
      rw [← hp.2.1]; exact e5)
/-- what a caller must know of what its callee writes -/
def Wrs (Z : State) (n0 : Nat) (h0 : Heap) (ws0 : List Addr) (h : Heap) (F ws : List Addr) : Prop := ∀ x ∈ ws, Wok n0 h0 ws0 x ∧ (x ∈ F ∨ ∃ C, Exa Z h x C ∧ C ≠ "java/lang/String" ∧ C ≠ "[B")
theorem Wrs.nil : Wrs Z n0 h0 ws0 h F [] := fun _ q => nomatch q
theorem Wrs.one {x : Addr} (w : Wok n0 h0 ws0 x) (q : x ∈ F ∨ ∃ C, Exa Z h x C ∧ C ≠ "java/lang/String" ∧ C ≠ "[B") : Wrs Z n0 h0 ws0 h F [x] := fun y hy => by rw [List.mem_singleton.mp hy]; exact ⟨w, q⟩
theorem Wrs.safe (w : Wrs Z n0 h0 ws0 h F ws) (hal : Z.vm.Alike vm0) (hF : ∀ x ∈ F, Safe Z EL vm0 h x ∧ x < h.size) : ∀ x ∈ ws, Wok n0 h0 ws0 x ∧ Safe Z EL vm0 h x := fun x hx => by
  obtain ⟨w1, w2⟩ := w x hx
  refine ⟨w1, ?_⟩
  rcases w2 with q | ⟨C, E, q1, q2⟩
  · exact (hF x q).1
  · exact Safe.exa hal E q1 q2
theorem Sd.afterN {A : p.tables.exec = Jvm.exec ∧ meth.locks = false ∧ EW Z a0 EL ∧ s.heap = h0 ∧ Old Z n0 h0 ∧ ∀ x ∈ ws0, n0 ≤ x} (hv : wd = false → vm0 = s.vm) (hS : s.Since vm0 k0) (hk : k0 ≤ h.size) (hZ : Z.Warmed39 vm0) (hown : vm0.findClass own = some m.cls) (O : Old Z n0 h) (N : Fr n0 locs) (K0 : Keep h0 h ws0) (C0 : CHr Z EL s.vm s.heap vm0 h) (hF : ∀ x ∈ F, Safe Z EL vm0 h x ∧ x < h.size) (hws : Wrs Z n0 h0 ws0 h F ws)
    {B : Pt} (X : Stand p l e R (s.setVm vm0) m args below meth c B.U B.locs B.cells B.slots) {L : List Loc} (K : Keep h B.U.heap ws) (NL : Fr n0 L) (l1 : B.locs = locs ++ L) (l2 : B.cells = cells + rc) (l3 : B.slots = slots + rs) : Sd wd EL a0 p l e R s m args below meth c Z own n0 h0 ws0 B.U B.U.heap F (locs ++ L) (cells + rc) (slots + rs) := by
  rw [l1, l2, l3] at X
  exact Sd.close A hv X rfl hS hk hZ hown O (Fr.app N NL) K0 C0 hF K (hws.safe hZ.alike hF) fun x hx => Or.inl hx
theorem Sd.scall (S : Sd wd EL a0 p l e R s m args below meth c Z own n0 h0 ws0 T h F locs cells slots) {index : Nat} (pc' : Nat) (hd : decode c.code pc = .ok (.invokestatic index, 3)) (hml : Ls.size = c.maxLocals) (w1 : (Jvm.Cond.methodLink own index y).before a0 Z = true) (w2 : (Jvm.Cond.static y).before a0 Z = true) (w3 : (Jvm.Cond.initialized y.cls).before a0 Z = true) (w4 : (Jvm.Cond.code y bytes maxL ret).before a0 Z = true) (hy : y.cls ≠ "java/lang/invoke/MethodHandle" ∧ y.cls ≠ "java/lang/invoke/VarHandle")
    (argsL rest : List Value) (K : Pay l R p e below args Z s n0 y 3 W argsL.toArray h ws rc rs Q) (hlen : ∀ sig, parseMethodDescriptor y.desc = some sig → argsL.length = sig.parameters.length) (hst : st = argsL.reverse ++ rest) (hW : (rest.map fun v => v.category).sum ≤ W) (hc : cells + rc ≤ R.cells) (hs : slots + rs ≤ R.slots) (hws : Wrs Z n0 h0 ws0 h F ws)
    (g : ∀ (v : Option Value) (T' : State) (h' : Heap) (L : List Loc), Sd wd EL a0 p l e R s m args below meth c Z own n0 h0 ws0 T' h' F (locs ++ L) (cells + rc) (slots + rs) → Q v h' → Keep h h' ws → Go p e below P T' (mkF m pc' Ls (v.toList ++ rest))) (hp : pc + 3 = pc' := by rfl) : Go p e below P T (mkF m pc Ls st) := by
  subst hp hst
  obtain ⟨A, vm0, k0, hv, X, eT, hS, hk, hZ, hown, O, N, K0, C0, hF⟩ := S
  obtain ⟨v, vm₁, B, -, X', ⟨L, ⟨q, KK, NL⟩, l1, l2, l3⟩, st'⟩ := Jvm.LawKit.callS X A.1 hown (mvT (s := s.setVm vm0) hZ w1) (mvT (s := s.setVm vm0) hZ w2) (mvT (s := s.setVm vm0) hZ w3) (mvT (s := s.setVm vm0) hZ w4) hy (K (s.setVm vm0) hZ hS.1.alike) (g := mkF m pc Ls (argsL.reverse ++ rest)) rfl hml (argsL := argsL) (rest := rest) hlen rfl (by show 2 * 0 + _ ≤ _; omega) hd (fun _ _ => ⟨rfl, eT, hc, hs⟩)
  exact Go.by st' (g v B.U B.U.heap L (Sd.afterN (A := A) hv hS hk hZ hown O N K0 C0 hF hws X' KK NL l1 l2 l3) q KK)
theorem Sd.icall (S : Sd wd EL a0 p l e R s m args below meth c Z own n0 h0 ws0 T h F locs cells slots) {index : Nat} {a : Addr} (pc' : Nat) (hd : decode c.code pc = .ok (.invokespecial index, 3)) (hml : Ls.size = c.maxLocals) (hy1 : y.name = "<init>") (w1 : (Jvm.Cond.methodLink own index y).before a0 Z = true) (w2 : (Jvm.Cond.instanceMethod y).before a0 Z = true) (w4 : (Jvm.Cond.code y bytes maxL none).before a0 Z = true) (hy : y.cls ≠ "java/lang/invoke/MethodHandle" ∧ y.cls ≠ "java/lang/invoke/VarHandle")
    (argsL rest : List Value) (K : Pay l R p e below args Z s n0 y 3 W (.ref a :: argsL).toArray h ws rc rs Q) (hlen : ∀ sig, parseMethodDescriptor y.desc = some sig → argsL.length = sig.parameters.length) (hst : st = argsL.reverse ++ .ref a :: rest) (hW : (rest.map fun v => v.category).sum ≤ W) (hc : cells + rc ≤ R.cells) (hs : slots + rs ≤ R.slots) (hws : Wrs Z n0 h0 ws0 h F ws)
    (g : ∀ (v : Option Value) (T' : State) (h' : Heap) (L : List Loc), Sd wd EL a0 p l e R s m args below meth c Z own n0 h0 ws0 T' h' F (locs ++ L) (cells + rc) (slots + rs) → Q v h' → Keep h h' ws → Go p e below P T' (mkF m pc' Ls (v.toList ++ rest))) (hp : pc + 3 = pc' := by rfl) : Go p e below P T (mkF m pc Ls st) := by
  subst hp hst
  obtain ⟨A, vm0, k0, hv, X, eT, hS, hk, hZ, hown, O, N, K0, C0, hF⟩ := S
  obtain ⟨v, vm₁, B, -, X', ⟨L, ⟨q, KK, NL⟩, l1, l2, l3⟩, st'⟩ := X.specialBack A.1 hy1 hown (mvT (s := s.setVm vm0) hZ w1) (mvT (s := s.setVm vm0) hZ w2) (mvT (s := s.setVm vm0) hZ w4) hy (K (s.setVm vm0) hZ hS.1.alike) (g := mkF m pc Ls (argsL.reverse ++ .ref a :: rest)) rfl hml (Steps.refl _) (a := a) (argsL := argsL) (rest := rest) hlen rfl (by show 2 * 0 + _ ≤ _; omega) hd (fun _ _ => ⟨rfl, eT, hc, hs⟩)
  exact Go.by (fun _ z => st'.trans z) (g v B.U B.U.heap L (Sd.afterN (A := A) hv hS hk hZ hown O N K0 C0 hF hws X' KK NL l1 l2 l3) q KK)
theorem Sd.vcall (S : Sd wd EL a0 p l e R s m args below meth c Z own n0 h0 ws0 T h F locs cells slots) {index : Nat} {a : Addr} {x : MethodName} {C : String} (pc' : Nat) (hd : decode c.code pc = .ok (.invokevirtual index, 3)) (hml : Ls.size = c.maxLocals) (w1 : (Jvm.Cond.methodLink own index x).before a0 Z = true) (w2 : (Jvm.Cond.declares x).before a0 Z = true) (w3 : (Jvm.Cond.selects C x y).before a0 Z = true) (w4 : (Jvm.Cond.instanceMethod y).before a0 Z = true) (hnf : ∀ s' : State, Z.Warmed39 s'.vm → NotFace s' x) (hy : x.cls ≠ "java/lang/invoke/MethodHandle" ∧ x.cls ≠ "java/lang/invoke/VarHandle") (E : Exa Z h a C)
    (argsL rest : List Value) (K : Pay l R p e below args Z s n0 y 3 W (.ref a :: argsL).toArray h ws rc rs Q) (hlen : ∀ sig, parseMethodDescriptor x.desc = some sig → argsL.length = sig.parameters.length) (hst : st = argsL.reverse ++ .ref a :: rest) (hW : (rest.map fun v => v.category).sum ≤ W) (hc : cells + rc ≤ R.cells) (hs : slots + rs ≤ R.slots) (hws : Wrs Z n0 h0 ws0 h F ws)
    (g : ∀ (v : Option Value) (T' : State) (h' : Heap) (L : List Loc), Sd wd EL a0 p l e R s m args below meth c Z own n0 h0 ws0 T' h' F (locs ++ L) (cells + rc) (slots + rs) → Q v h' → Keep h h' ws → Go p e below P T' (mkF m pc' Ls (v.toList ++ rest))) (hp : pc + 3 = pc' := by rfl) : Go p e below P T (mkF m pc Ls st) := by
  subst hp hst
  obtain ⟨A, vm0, k0, hv, X, eT, hS, hk, hZ, hown, O, N, K0, C0, hF⟩ := S
  obtain ⟨cB, kB, q1, -, q3⟩ := isOf (s := s.setVm vm0) hZ eT E
  obtain ⟨v, vm₁, B, -, X', ⟨L, ⟨q, KK, NL⟩, l1, l2, l3⟩, st'⟩ := X.virtualBack A.1 hown (mvT (s := s.setVm vm0) hZ w1) (mvT (s := s.setVm vm0) hZ w2) (hnf (s.setVm vm0) hZ) (mvT (s := s.setVm vm0) hZ w3) (mvT (s := s.setVm vm0) hZ w4) hy (K (s.setVm vm0) hZ hS.1.alike) q1 q3 (g := mkF m pc Ls (argsL.reverse ++ .ref a :: rest)) rfl hml (Steps.refl _) (argsL := argsL) (rest := rest) hlen rfl (by show 2 * 0 + _ ≤ _; omega) hd (fun _ _ => ⟨rfl, eT, hc, hs⟩)
  exact Go.by (fun _ z => st'.trans z) (g v B.U B.U.heap L (Sd.afterN (A := A) hv hS hk hZ hown O N K0 C0 hF hws X' KK NL l1 l2 l3) q KK)
theorem nfSel {x : MethodName} {C : String} (w3 : (Jvm.Cond.selects C x x).before a0 Z = true) : ∀ s' : State, Z.Warmed39 s'.vm → NotFace s' x := fun s' hZ => notFace_of_selects (args := #[]) (mvT (s := s') hZ w3)
/-! ### a callee that may intern -/
theorem Sd.afterS {A : p.tables.exec = Jvm.exec ∧ meth.locks = false ∧ EW Z a0 EL ∧ s.heap = h0 ∧ Old Z n0 h0 ∧ ∀ x ∈ ws0, n0 ≤ x} (eT : T.heap = h) (hS : s.Since vm0 k0) (hk : k0 ≤ h.size) (hZ : Z.Warmed39 vm0) (hown : vm0.findClass own = some m.cls) (O : Old Z n0 h) (N : Fr n0 locs) (K0 : Keep h0 h ws0) (C0 : CHr Z EL s.vm s.heap vm0 h) (hF : ∀ x ∈ F, Safe Z EL vm0 h x ∧ x < h.size) (hws : Wrs Z n0 h0 ws0 h F ws)
    {B : Pt} (X : Stand p l e R ((s.setVm vm0).setVm B.U.vm) m args below meth c B.U B.locs B.cells B.slots) (h2 : (s.setVm vm0).Since B.U.vm B.U.heap.size) (gr : T.heap.size ≤ B.U.heap.size) {L : List Loc} (K : Keep h B.U.heap ws) (NL : Fr n0 L) (l1 : B.locs = locs ++ L) (l2 : B.cells = cells + rc) (l3 : B.slots = slots + rs) (C1 : CHr Z EL vm0 h B.U.vm B.U.heap) :
    Sd true EL a0 p l e R s m args below meth c Z own n0 h0 ws0 B.U B.U.heap F (locs ++ L) (cells + rc) (slots + rs) := by
  rw [l1, l2, l3] at X
  obtain ⟨X', hS', hZ', hown'⟩ := rebS hS (by rw [eT]; exact hk) X h2 gr hZ hown
  exact ⟨A, B.U.vm, _, nofun, X', rfl, hS', Nat.le_refl _, hZ', hown', O.keep K fun x hx => (hws x hx).1.le (own_ole A.2.2.2.2.1) A.2.2.2.2.2, Fr.app N NL, K0.trans K fun x hx => (hws x hx).1, C0.trans C1, fun x hx => ⟨C1.safe (hF x hx).2 (hF x hx).1, Nat.lt_of_lt_of_le (hF x hx).2 K.1⟩⟩
theorem Sd.scallS (S : Sd true EL a0 p l e R s m args below meth c Z own n0 h0 ws0 T h F locs cells slots) {index : Nat} (pc' : Nat) (hd : decode c.code pc = .ok (.invokestatic index, 3)) (hml : Ls.size = c.maxLocals) (w1 : (Jvm.Cond.methodLink own index y).before a0 Z = true) (w2 : (Jvm.Cond.static y).before a0 Z = true) (w3 : (Jvm.Cond.initialized y.cls).before a0 Z = true) (w4 : (Jvm.Cond.code y bytes maxL ret).before a0 Z = true) (hy : y.cls ≠ "java/lang/invoke/MethodHandle" ∧ y.cls ≠ "java/lang/invoke/VarHandle")
    (argsL rest : List Value) (K : PayS EL a0 l R p e below args Z n0 y 3 W argsL.toArray h ws F0 rc rs Q) (hlen : ∀ sig, parseMethodDescriptor y.desc = some sig → argsL.length = sig.parameters.length) (hst : st = argsL.reverse ++ rest) (hW : (rest.map fun v => v.category).sum ≤ W) (hc : cells + rc ≤ R.cells) (hs : slots + rs ≤ R.slots) (hws : Wrs Z n0 h0 ws0 h F ws) (hF0 : ∀ x ∈ F0, x ∈ F)
    (g : ∀ (v : Option Value) (T' : State) (h' : Heap) (L : List Loc), Sd true EL a0 p l e R s m args below meth c Z own n0 h0 ws0 T' h' F (locs ++ L) (cells + rc) (slots + rs) → Q v h' → Keep h h' ws → Go p e below P T' (mkF m pc' Ls (v.toList ++ rest))) (hp : pc + 3 = pc' := by rfl) : Go p e below P T (mkF m pc Ls st) := by
  subst hp hst
  obtain ⟨A, vm0, k0, hv, X, eT, hS, hk, hZ, hown, O, N, K0, C0, hF⟩ := S
  obtain ⟨v, vm₁, B, -, X', h2, gr, ⟨L, ⟨q, KK, NL⟩, l1, l2, l3, C1⟩, st'⟩ := callSS X A.1 hown (mvT (s := s.setVm vm0) hZ w1) (mvT (s := s.setVm vm0) hZ w2) (mvT (s := s.setVm vm0) hZ w3) (mvT (s := s.setVm vm0) hZ w4) hy (K s vm0 hZ A.2.2.1 C0.1 fun x hx => hF x (hF0 x hx)) (g := mkF m pc Ls (argsL.reverse ++ rest)) rfl hml (argsL := argsL) (rest := rest) hlen rfl (by show 2 * 0 + _ ≤ _; omega) hd (fun _ _ => ⟨rfl, eT, hc, hs⟩)
  exact Go.by (fun _ z => st'.trans z) (g v B.U B.U.heap L (Sd.afterS (A := A) eT hS hk hZ hown O N K0 C0 hF hws X' h2 gr KK NL l1 l2 l3 C1) q KK)
theorem Sd.icallS (S : Sd true EL a0 p l e R s m args below meth c Z own n0 h0 ws0 T h F locs cells slots) {index : Nat} {a : Addr} (pc' : Nat) (hd : decode c.code pc = .ok (.invokespecial index, 3)) (hml : Ls.size = c.maxLocals) (hy1 : y.name = "<init>") (w1 : (Jvm.Cond.methodLink own index y).before a0 Z = true) (w2 : (Jvm.Cond.instanceMethod y).before a0 Z = true) (w4 : (Jvm.Cond.code y bytes maxL none).before a0 Z = true) (hy : y.cls ≠ "java/lang/invoke/MethodHandle" ∧ y.cls ≠ "java/lang/invoke/VarHandle")
    (argsL rest : List Value) (K : PayS EL a0 l R p e below args Z n0 y 3 W (.ref a :: argsL).toArray h ws F0 rc rs Q) (hlen : ∀ sig, parseMethodDescriptor y.desc = some sig → argsL.length = sig.parameters.length) (hst : st = argsL.reverse ++ .ref a :: rest) (hW : (rest.map fun v => v.category).sum ≤ W) (hc : cells + rc ≤ R.cells) (hs : slots + rs ≤ R.slots) (hws : Wrs Z n0 h0 ws0 h F ws) (hF0 : ∀ x ∈ F0, x ∈ F)
    (g : ∀ (v : Option Value) (T' : State) (h' : Heap) (L : List Loc), Sd true EL a0 p l e R s m args below meth c Z own n0 h0 ws0 T' h' F (locs ++ L) (cells + rc) (slots + rs) → Q v h' → Keep h h' ws → Go p e below P T' (mkF m pc' Ls (v.toList ++ rest))) (hp : pc + 3 = pc' := by rfl) : Go p e below P T (mkF m pc Ls st) := by
  subst hp hst
  obtain ⟨A, vm0, k0, hv, X, eT, hS, hk, hZ, hown, O, N, K0, C0, hF⟩ := S
  obtain ⟨v, vm₁, B, -, X', h2, gr, ⟨L, ⟨q, KK, NL⟩, l1, l2, l3, C1⟩, st'⟩ := X.specialBackS A.1 hy1 hown (mvT (s := s.setVm vm0) hZ w1) (mvT (s := s.setVm vm0) hZ w2) (mvT (s := s.setVm vm0) hZ w4) hy (K s vm0 hZ A.2.2.1 C0.1 fun x hx => hF x (hF0 x hx)) (g := mkF m pc Ls (argsL.reverse ++ .ref a :: rest)) rfl hml (Steps.refl _) (a := a) (argsL := argsL) (rest := rest) hlen rfl (by show 2 * 0 + _ ≤ _; omega) hd (fun _ _ => ⟨rfl, eT, hc, hs⟩)
  exact Go.by (fun _ z => st'.trans z) (g v B.U B.U.heap L (Sd.afterS (A := A) eT hS hk hZ hown O N K0 C0 hF hws X' h2 gr KK NL l1 l2 l3 C1) q KK)
theorem Sd.vcallS (S : Sd true EL a0 p l e R s m args below meth c Z own n0 h0 ws0 T h F locs cells slots) {index : Nat} {a : Addr} {x : MethodName} {C : String} (pc' : Nat) (hd : decode c.code pc = .ok (.invokevirtual index, 3)) (hml : Ls.size = c.maxLocals) (w1 : (Jvm.Cond.methodLink own index x).before a0 Z = true) (w2 : (Jvm.Cond.declares x).before a0 Z = true) (w3 : (Jvm.Cond.selects C x y).before a0 Z = true) (w4 : (Jvm.Cond.instanceMethod y).before a0 Z = true) (hnf : ∀ s' : State, Z.Warmed39 s'.vm → NotFace s' x) (hy : x.cls ≠ "java/lang/invoke/MethodHandle" ∧ x.cls ≠ "java/lang/invoke/VarHandle") (E : Exa Z h a C)
    (argsL rest : List Value) (K : PayS EL a0 l R p e below args Z n0 y 3 W (.ref a :: argsL).toArray h ws F0 rc rs Q) (hlen : ∀ sig, parseMethodDescriptor x.desc = some sig → argsL.length = sig.parameters.length) (hst : st = argsL.reverse ++ .ref a :: rest) (hW : (rest.map fun v => v.category).sum ≤ W) (hc : cells + rc ≤ R.cells) (hs : slots + rs ≤ R.slots) (hws : Wrs Z n0 h0 ws0 h F ws) (hF0 : ∀ x ∈ F0, x ∈ F)
    (g : ∀ (v : Option Value) (T' : State) (h' : Heap) (L : List Loc), Sd true EL a0 p l e R s m args below meth c Z own n0 h0 ws0 T' h' F (locs ++ L) (cells + rc) (slots + rs) → Q v h' → Keep h h' ws → Go p e below P T' (mkF m pc' Ls (v.toList ++ rest))) (hp : pc + 3 = pc' := by rfl) : Go p e below P T (mkF m pc Ls st) := by
  subst hp hst
  obtain ⟨A, vm0, k0, hv, X, eT, hS, hk, hZ, hown, O, N, K0, C0, hF⟩ := S
  obtain ⟨cB, kB, q1, -, q3⟩ := isOf (s := s.setVm vm0) hZ eT E
  obtain ⟨v, vm₁, B, -, X', h2, gr, ⟨L, ⟨q, KK, NL⟩, l1, l2, l3, C1⟩, st'⟩ := X.virtualBackS A.1 hown (mvT (s := s.setVm vm0) hZ w1) (mvT (s := s.setVm vm0) hZ w2) (hnf (s.setVm vm0) hZ) (mvT (s := s.setVm vm0) hZ w3) (mvT (s := s.setVm vm0) hZ w4) hy (K s vm0 hZ A.2.2.1 C0.1 fun x hx => hF x (hF0 x hx)) q1 q3 (g := mkF m pc Ls (argsL.reverse ++ .ref a :: rest)) rfl hml (Steps.refl _) (argsL := argsL) (rest := rest) hlen rfl (by show 2 * 0 + _ ≤ _; omega) hd (fun _ _ => ⟨rfl, eT, hc, hs⟩)
  exact Go.by (fun _ z => st'.trans z) (g v B.U B.U.heap L (Sd.afterS (A := A) eT hS hk hZ hown O N K0 C0 hF hws X' h2 gr KK NL l1 l2 l3 C1) q KK)
end OwnKit
end Jvm.Pilot.@@N@@
namespace Jvm.Pilot.@@N@@
open Jvm Jvm.ClassFile Sem Op Lib Jvm.Free Jvm.Stand Jvm.LawKit Jvm.RoadKit Bundle Jvm.Pilot.@@N@@.Jvm.D
section OwnMore
variable {wd : Bool} {EL : List (String × Nat)} {a0 : Array Value} {p : Program} {l : Launch} {e : Env} {R : Room} {s : State} {m : MethodId} {args : Array Value} {below : List Frame} {meth : Method} {c : Code} {Z : State} {own : String} {n0 : Nat} {h0 : Heap} {ws0 : List Addr}
  {T T' : State} {h h' : Heap} {F F' : List Addr} {locs locs' : List Loc} {cells slots cells' slots' : Nat} {P : Outcome → State → Prop} {pc pc' : Nat} {Ls : Array Slot} {st rest : List Value}
theorem Sd.pop2J (S : Sd wd EL a0 p l e R s m args below meth c Z own n0 h0 ws0 T h F locs cells slots) {x : Int64} (pc' : Nat) (hd : decode c.code pc = .ok (.pop2, 1)) (g : Go p e below P T (mkF m pc' Ls st)) (hp : pc + 1 = pc' := by rfl) : Go p e below P T (mkF m pc Ls (.long x :: st)) := by
  subst hp
  refine Go.by (fun t q => ?_) g
  have H := S.at
  have hx := S.hx
  show Steps p.tables e below (T.setTop { method := m, pc := pc, locals := Ls, stack := .long x :: st, locked := none }) t
  jvm_step H [H.top, hx, hd, Value.category]
  exact q
theorem Sd.aaload (S : Sd wd EL a0 p l e R s m args below meth c Z own n0 h0 ws0 T h F locs cells slots) {a : Addr} {cl : Cell} {ty : FieldType} {v : Value} {j : Int32} (pc' : Nat) (hd : decode c.code pc = .ok (.aaload, 1)) (A : Arr Z h a cl ty) (hty : ty.isReference = true) (hin : ¬ (j < 0 ∨ cl.slots.size ≤ j.toNatClampNeg)) (hv' : cl.slots[j.toNatClampNeg]? = some v) (g : Go p e below P T (mkF m pc' Ls (v :: st))) (hp : pc + 1 = pc' := by rfl) : Go p e below P T (mkF m pc Ls (.int j :: .ref a :: st)) := by
  subst hp
  obtain ⟨A', vm0, k0, hv, X, eT, hS, hk, hZ, r⟩ := S
  exact Go.by (fun t z => X.aaload A'.1 (by rw [eT]; exact A.1) (State.isArrayOf_alike hZ.alike A.2.1) hty A.2.2 hin hv' (g := mkF m pc Ls (.int j :: .ref a :: st)) rfl rfl hd t z) g
theorem Sd.bastore (S : Sd wd EL a0 p l e R s m args below meth c Z own n0 h0 ws0 T h F locs cells slots) {a : Addr} {k : ClassId} {N : Int32} {vs : List Value} {dv : Value} {j x : Int32} (pc' i : Nat) (hd : decode c.code pc = .ok (.bastore, 1)) (V : Arv Z h a k .byte N vs dv) (hj : ¬ j < 0 ∧ j < N) (hi : j.toNatClampNeg = i) (hlt : i < vs.length) (wo : Wok n0 h0 ws0 a) (so : a ∈ F)
    (g : ∀ (T' : State) (h' : Heap) (locs' : List Loc), Sd wd EL a0 p l e R s m args below meth c Z own n0 h0 ws0 T' h' F locs' cells slots → Wr h h' a j.toNatClampNeg (.int (nar .byte x)) → Arv Z h' a k .byte N (vs.set i (.int (nar .byte x))) dv → Go p e below P T' (mkF m pc' Ls st)) (hp : pc + 1 = pc' := by rfl) : Go p e below P T (mkF m pc Ls (.int x :: .int j :: .ref a :: st)) := by
  subst hp
  have ge : n0 ≤ a := S.ge wo
  obtain ⟨A, vm0, k0, hv, X, eT, hS, hk, hZ, hown, O0, N0, K0, C0, hF⟩ := S
  obtain ⟨cl, Ar, q, S', M, H, G⟩ := V
  obtain ⟨T', h', X', e', W', st'⟩ := stB X A.1 hZ eT Ar (x := x) (inb_of S' hj) (g := mkF m pc Ls (.int x :: .int j :: .ref a :: st)) rfl rfl hd
  exact Go.by st' (g T' h' _ (Sd.close A hv X' e' hS hk hZ hown O0 (Fr.snoc X' N0 ge) K0 C0 hF (Keep.of_wr W') (fun y hy => by rw [List.mem_singleton.mp hy]; exact ⟨wo, (hF a so).1⟩) fun y hy => Or.inl hy) W' (Arv.set Ar q S' M H G (fits_nar_byte _) W' i hi hlt))
variable {y : MethodName} {as' : Array Value} {Q : Option Value → Heap → Prop} {W rc rs : Nat} {ws : List Addr}
/-- 'invokevirtual' of a method that a superclass of the named class declares -/
theorem Sd.vcallU (S : Sd wd EL a0 p l e R s m args below meth c Z own n0 h0 ws0 T h F locs cells slots) {index : Nat} {a : Addr} {x : MethodName} {C owner : String} (pc' : Nat) (hd : decode c.code pc = .ok (.invokevirtual index, 3)) (hml : Ls.size = c.maxLocals) (w1 : (Jvm.Cond.methodLink own index x).before a0 Z = true) (w2 : (Jvm.Cond.sameMethod x.cls owner x.name x.desc).before a0 Z = true) (w2' : (Jvm.Cond.declares ⟨owner, x.name, x.desc⟩).before a0 Z = true) (hy : owner ≠ "java/lang/invoke/MethodHandle" ∧ owner ≠ "java/lang/invoke/VarHandle") (w3 : (Jvm.Cond.selects C x y).before a0 Z = true) (w4 : (Jvm.Cond.instanceMethod y).before a0 Z = true) (E : Exa Z h a C)
    (argsL rest : List Value) (K : Pay l R p e below args Z s n0 y 3 W (.ref a :: argsL).toArray h ws rc rs Q) (hlen : ∀ sig, parseMethodDescriptor x.desc = some sig → argsL.length = sig.parameters.length) (hst : st = argsL.reverse ++ .ref a :: rest) (hW : (rest.map fun v => v.category).sum ≤ W) (hc : cells + rc ≤ R.cells) (hs : slots + rs ≤ R.slots) (hws : Wrs Z n0 h0 ws0 h F ws)
    (g : ∀ (v : Option Value) (T' : State) (h' : Heap) (L : List Loc), Sd wd EL a0 p l e R s m args below meth c Z own n0 h0 ws0 T' h' F (locs ++ L) (cells + rc) (slots + rs) → Q v h' → Keep h h' ws → Go p e below P T' (mkF m pc' Ls (v.toList ++ rest))) (hp : pc + 3 = pc' := by rfl) : Go p e below P T (mkF m pc Ls st) := by
  subst hp hst
  obtain ⟨A, vm0, k0, hv, X, eT, hS, hk, hZ, hown, O, N, K0, C0, hF⟩ := S
  obtain ⟨cB, kB, q1, -, q3⟩ := isOf (s := s.setVm vm0) hZ eT E
  obtain ⟨v, vm₁, B, -, X', ⟨L, ⟨q, KK, NL⟩, l1, l2, l3⟩, st'⟩ := X.virtualBackUp A.1 hown (mvT (s := s.setVm vm0) hZ w1) (mvT (s := s.setVm vm0) hZ w2) (mvT (s := s.setVm vm0) hZ w2') hy (mvT (s := s.setVm vm0) hZ w3) (mvT (s := s.setVm vm0) hZ w4) (K (s.setVm vm0) hZ hS.1.alike) q1 q3 (g := mkF m pc Ls (argsL.reverse ++ .ref a :: rest)) rfl hml (Steps.refl _) (argsL := argsL) (rest := rest) hlen rfl (by show 2 * 0 + _ ≤ _; omega) hd (fun _ _ => ⟨rfl, eT, hc, hs⟩)
  exact Go.by (fun _ z => st'.trans z) (g v B.U B.U.heap L (Sd.afterN (A := A) hv hS hk hZ hown O N K0 C0 hF hws X' KK NL l1 l2 l3) q KK)
/-- 'invokeinterface' -/
theorem Sd.fcall (S : Sd wd EL a0 p l e R s m args below meth c Z own n0 h0 ws0 T h F locs cells slots) {index count : Nat} {a : Addr} {x : MethodName} {C : String} (pc' : Nat) (hd : decode c.code pc = .ok (.invokeinterface index count, 5)) (hml : Ls.size = c.maxLocals) (w1 : (Jvm.Cond.methodLink own index x).before a0 Z = true) (w2 : (Jvm.Cond.declares x).before a0 Z = true) (w3 : (Jvm.Cond.interfaceMethod x.cls x.cls x.name x.desc).before a0 Z = true) (w4 : (Jvm.Cond.selects C x y).before a0 Z = true) (w5 : (Jvm.Cond.instanceMethod y).before a0 Z = true) (w6 : (Jvm.Cond.publicMethod y).before a0 Z = true) (w7 : (Jvm.Cond.unhidden C x.name x.desc).before a0 Z = true) (w8 : (Jvm.Cond.castable C x.cls).before a0 Z = true) (hy : x.cls ≠ "java/lang/invoke/MethodHandle" ∧ x.cls ≠ "java/lang/invoke/VarHandle") (E : Exa Z h a C)
    (argsL rest : List Value) (K : Pay l R p e below args Z s n0 y 5 W (.ref a :: argsL).toArray h ws rc rs Q) (hlen : ∀ sig, parseMethodDescriptor x.desc = some sig → argsL.length = sig.parameters.length) (hst : st = argsL.reverse ++ .ref a :: rest) (hW : (rest.map fun v => v.category).sum ≤ W) (hc : cells + rc ≤ R.cells) (hs : slots + rs ≤ R.slots) (hws : Wrs Z n0 h0 ws0 h F ws)
    (g : ∀ (v : Option Value) (T' : State) (h' : Heap) (L : List Loc), Sd wd EL a0 p l e R s m args below meth c Z own n0 h0 ws0 T' h' F (locs ++ L) (cells + rc) (slots + rs) → Q v h' → Keep h h' ws → Go p e below P T' (mkF m pc' Ls (v.toList ++ rest))) (hp : pc + 5 = pc' := by rfl) : Go p e below P T (mkF m pc Ls st) := by
  subst hp hst
  obtain ⟨A, vm0, k0, hv, X, eT, hS, hk, hZ, hown, O, N, K0, C0, hF⟩ := S
  obtain ⟨cB, kB, q1, q2, q3⟩ := isOf (s := s.setVm vm0) hZ eT E
  obtain ⟨v, vm₁, B, -, X', ⟨L, ⟨q, KK, NL⟩, l1, l2, l3⟩, st'⟩ := X.interfaceBack A.1 hown (mvT (s := s.setVm vm0) hZ w1) (mvT (s := s.setVm vm0) hZ w2) (mvT (s := s.setVm vm0) hZ w3 (show (x.cls == x.cls && x.cls != "java/lang/invoke/MethodHandle" && x.cls != "java/lang/invoke/VarHandle") = true by simp [hy.1, hy.2])) (mvT (s := s.setVm vm0) hZ w4) (mvT (s := s.setVm vm0) hZ w5) (mvT (s := s.setVm vm0) hZ w6) (mvT (s := s.setVm vm0) hZ w7) (mvT (s := s.setVm vm0) hZ w8) hy (K (s.setVm vm0) hZ hS.1.alike) q1 q2 q3 (g := mkF m pc Ls (argsL.reverse ++ .ref a :: rest)) rfl hml (Steps.refl _) (argsL := argsL) (rest := rest) hlen rfl (by show 2 * 0 + _ ≤ _; omega) hd (fun _ _ => ⟨rfl, eT, hc, hs⟩)
  exact Go.by (fun _ z => st'.trans z) (g v B.U B.U.heap L (Sd.afterN (A := A) hv hS hk hZ hown O N K0 C0 hF hws X' KK NL l1 l2 l3) q KK)
theorem Sd.instNull (S : Sd wd EL a0 p l e R s m args below meth c Z own n0 h0 ws0 T h F locs cells slots) {index : Nat} (pc' : Nat) (hd : decode c.code pc = .ok (.instanceof index, 3)) (g : Go p e below P T (mkF m pc' Ls (.int 0 :: st))) (hp : pc + 3 = pc' := by rfl) : Go p e below P T (mkF m pc Ls (.null :: st)) := by
  subst hp
  obtain ⟨A, vm0, k0, hv, X, r⟩ := S
  exact Go.by (fun t z => X.instanceofNull A.1 (g := mkF m pc Ls (.null :: st)) rfl rfl hd t z) g
/-- where no literal is kept track of, any place is safe -/
theorem Sd.addF (S : Sd wd [] a0 p l e R s m args below meth c Z own n0 h0 ws0 T h F locs cells slots) {x : Addr} (hx : x < h.size) : Sd wd [] a0 p l e R s m args below meth c Z own n0 h0 ws0 T h (x :: F) locs cells slots := by
  obtain ⟨A, vm0, k0, hv, X, eT, hS, hk, hZ, hown, O, N, K0, C0, hF⟩ := S
  exact ⟨A, vm0, k0, hv, X, eT, hS, hk, hZ, hown, O, N, K0, C0, fun y hy => by
    rcases List.mem_cons.mp hy with rfl | q
    · exact ⟨safe0, hx⟩
    · exact hF y q⟩
theorem Pay.weak {len : Nat} {Q' : Option Value → Heap → Prop} (P : Pay l R p e below args Z s n0 y len W as' h ws rc rs Q) (q : ∀ v h', Q v h' → Q' v h') : Pay l R p e below args Z s n0 y len W as' h ws rc rs Q' :=
  fun s' hZ hal => Back.mono (P s' hZ hal) (fun _ _ z => z) fun _ _ _ _ _ ⟨L, ⟨q1, q2⟩, r⟩ => ⟨L, ⟨q _ _ q1, q2⟩, r⟩
theorem Pay.mono {len rc' rs' : Nat} (P : Pay l R p e below args Z s n0 y len W as' h ws rc rs Q) (h1 : rc ≤ rc') (h2 : rs ≤ rs') : Pay l R p e below args Z s n0 y len W as' h ws rc' rs' Q := by
  intro s' hZ hal m meth c A g ig mk a X hg hsize hd hW hn hp
  obtain ⟨v, B, X', ⟨L, q, l1, l2, l3⟩, st⟩ := P s' hZ hal m meth c A g ig mk a X hg hsize hd hW hn ⟨hp.1, hp.2.1, Nat.le_trans (Nat.add_le_add_left h1 _) hp.2.2.1, Nat.le_trans (Nat.add_le_add_left h2 _) hp.2.2.2⟩
  refine ⟨v, ⟨B.U, B.locs, A.cells + rc', A.slots + rs'⟩, ?_, ⟨L, q, l1, rfl, rfl⟩, st⟩
  rw [l2, l3] at X'
  exact { X' with same := X'.same.mono (Nat.add_le_add_left h1 _) (Nat.add_le_add_left h2 _) }
theorem eqJ {t : Term} {z : Int64} (q : (Jvm.Cond.eq t (.long z)).value args Z none Z [] = some true) : t.eval args Z none [] Z = some (.long z) := by
  obtain ⟨x, y, e1, e2, k1, k2⟩ := cmp_v (Or.inl q)
  rw [long_at] at e2
  cases e2
  obtain ⟨w, rfl⟩ : ∃ w, x = .long w := k2
  have := gotT (eq_L e1 (long_at z)) q
  rw [e1, this]
theorem eqI {t : Term} {z : Int32} (q : (Jvm.Cond.eq t (.int z)).value args Z none Z [] = some true) : t.eval args Z none [] Z = some (.int z) := by
  obtain ⟨x, y, e1, e2, k1, k2⟩ := cmp_v (Or.inl q)
  rw [Term.int_eval] at e2
  cases e2
  obtain ⟨w, rfl⟩ : ∃ w, x = .int w := k2
  have := gotT (Cond.eq_ints e1 (Term.int_eval z)) q
  rw [e1, this]
/-- the object that a word names, and one field of it -/
theorem fldAt {t : Term} {C n d : String} {a : Addr} {v : Value} (ht : t.eval args Z none [] Z = some (.ref a)) (q : (Term.field t C n d).eval args Z none [] Z = some v) : Fld Z Z.heap a C n d v := Fld.start (by rw [← fld_at (C := C) (n := n) (dd := d) ht]; exact q)
theorem lenAt {t : Term} {a : Addr} {cl : Cell} {z : Int32} (ht : t.eval args Z none [] Z = some (.ref a)) (hc : Z.heap[a]? = some cl) (q : (Term.length t).eval args Z none [] Z = some (.int z)) : cl.slots.size < 2 ^ 31 ∧ cl.slots.size.toInt32 = z := by
  cases hA : Z.arrayAt? a with
  | none => simp [Term.eval, ht, hA] at q
  | some c2 =>
    have hc2 : c2 = cl := Option.some.inj ((State.arrayAt?_spec hA).1.symm.trans hc)
    subst hc2
    by_cases hl : c2.slots.size < 2 ^ 31
    · refine ⟨hl, ?_⟩
      simpa [Term.eval, ht, hA, hl] using q
    · simp [Term.eval, ht, hA, hl] at q
end OwnMore
end Jvm.Pilot.@@N@@
namespace Jvm.Pilot.@@N@@
open Jvm Jvm.ClassFile Sem Op Lib Jvm.Free Jvm.Stand Jvm.LawKit Jvm.RoadKit Bundle Jvm.Pilot.@@N@@.Jvm.D
section OwnStr
variable {a0 : Array Value} {p : Program} {l : Launch} {e : Env} {R : Room} {args : Array Value} {below : List Frame} {Z s : State} {n0 : Nat} {h h' : Heap} {ws : List Addr} {x t a y t' : Addr} {cs ds : List Int32} {sl W : Nat} {v : Value}
/-- the object x is a String of these chars, all below 256; t: its byte[] -/
def Str (Z : State) (h : Heap) (x t : Addr) (cs : List Int32) : Prop :=
  (∃ kb, Exa Z h x "java/lang/String" ∧ Fld Z h x "java/lang/String" "value" "[B" (.ref t) ∧ Fld Z h x "java/lang/String" "coder" "B" (.int 0) ∧ Arv Z h t kb .byte (Int32.ofNat cs.length) ((cs.map fun c => c.toInt8.toInt32).map Value.int) (.int 0)) ∧ (∀ c ∈ cs, ¬ c < 0 ∧ ¬ (255 : Int32) < c) ∧ cs.length ≤ 4000
theorem Str.exa (F : Str Z h x t cs) : Exa Z h x "java/lang/String" := by obtain ⟨⟨kb, E, -⟩, -⟩ := F; exact E
theorem Str.lt (F : Str Z h x t cs) : x < h.size := F.exa.lt
theorem Str.lt' (F : Str Z h x t cs) : t < h.size := by obtain ⟨⟨kb, -, -, -, A⟩, -⟩ := F; exact A.lt
theorem Str.ext (F : Str Z h x t cs) (E : Ext h h') : Str Z h' x t cs := by obtain ⟨⟨kb, a, b, c, d⟩, r⟩ := F; exact ⟨⟨kb, a.ext E, b.ext E, c.ext E, d.ext E⟩, r⟩
theorem Str.keep (F : Str Z h x t cs) (K : Keep h h' ws) (q : x ∉ ws) (r : t ∉ ws) : Str Z h' x t cs := by obtain ⟨⟨kb, a, b, c, d⟩, z⟩ := F; exact ⟨⟨kb, a.keep K, b.keep K q, c.keep K q, d.keep K r⟩, z⟩
theorem Str.wr (F : Str Z h x t cs) (W : Wr h h' a sl v) (q : x ≠ a) (r : t ≠ a) : Str Z h' x t cs := by obtain ⟨⟨kb, a, b, c, d⟩, z⟩ := F; exact ⟨⟨kb, a.wr W, b.other W (Or.inl q), c.other W (Or.inl q), d.other W r⟩, z⟩
/-- COMPACT_STRINGS is set -/
def Com (Z : State) : Prop := ∃ z : Int32, Sta Z Z.heap "java/lang/String" "COMPACT_STRINGS" "Z" (.int z) ∧ ¬ z = 0
def Sfo (Z : State) : Prop := ∃ v : Value, Sta Z Z.heap "jdk/internal/util/Preconditions" "SIOOBE_FORMATTER" "Ljava/util/function/BiFunction;" v ∧ v.isRef = true
theorem up16 (h : ∀ c ∈ cs, ¬ c < 0 ∧ ¬ (255 : Int32) < c) : ∀ c ∈ cs, ¬ c < 0 ∧ ¬ (65535 : Int32) < c := fun c hc => ⟨(h c hc).1, fun q => (h c hc).2 (by rw [Int32.lt_iff_toInt_lt] at q ⊢; have e1 : (65535 : Int32).toInt = 65535 := rfl; have e2 : (255 : Int32).toInt = 255 := rfl; omega)⟩
theorem payNew (hw : ∀ d ∈ tables_1, d.before a0 Z = true) (wi : (Jvm.Cond.instantiable "java/lang/String" 4).before a0 Z = true) (cm : Com Z) (O : Old Z n0 h) {k : ClassId} {b : Addr} {d v0 c0 : Value} {N : Int32} {n : Nat} (hx0 : n0 ≤ x) (E : Exa Z h x "java/lang/String") (V : Fld Z h x "java/lang/String" "value" "[B" v0) (C : Fld Z h x "java/lang/String" "coder" "B" c0) (K : Arv Z h b k .char N (cs.map Value.int) d)
    (hn : cs.length = n) (hN : N = Int32.ofNat n) (l0 : 0 < n) (l2 : n ≤ 4000) (hp : ∀ c ∈ cs, ¬ c < 0 ∧ ¬ (255 : Int32) < c) (hfr : 4 ≤ R.frames) (hlo : W + 65 ≤ R.locals) :
    Pay l R p e below args Z s n0 ⟨"java/lang/String", "<init>", "([C)V"⟩ 3 W #[.ref x, .ref b] h [x] 1 n (fun v h' => v = none ∧ ∃ t, h.size ≤ t ∧ Str Z h' x t cs) := fun s' hZ _ => by
  obtain ⟨z, St, hz⟩ := cm
  refine Back.mono (StrChars.Road.backV hZ (fun d hd => hw d ((by decide +kernel : ∀ d ∈ StrChars.Road.words, d ∈ tables_1) d hd)) wi (n0 := n0) hx0 (by rw [← O.1]; exact O.2.1) E V C K (St.ext O.2) hz hn hN l0 l2 hp rfl hfr hlo) (fun P a q => q) (fun P a v B hp' hq => ?_)
  obtain ⟨L, ⟨q1, q2, q3, q4, q5, t, kb, q6, q7, q8, q9, q10⟩, hl, hc, hs⟩ := hq
  exact ⟨L, ⟨⟨q1, t, q7, ⟨⟨kb, q4, q9, q5, by rw [hn, ← hN]; exact q10⟩, hp, by omega⟩⟩, q3, q2⟩, hl, hc, hs⟩
theorem Str.of {kb : ClassId} {z : Int32} {vs : List Value} (E : Exa Z h x "java/lang/String") (C : Fld Z h x "java/lang/String" "coder" "B" (.int 0)) (V : Fld Z h x "java/lang/String" "value" "[B" (.ref t)) (A : Arv Z h t kb .byte z vs (.int 0)) (cs : List Int32) (hz : z = Int32.ofNat cs.length) (hvs : vs = (cs.map fun c => c.toInt8.toInt32).map Value.int) (hp : ∀ c ∈ cs, ¬ c < 0 ∧ ¬ (255 : Int32) < c) (hl : cs.length ≤ 4000) : Str Z h x t cs := by
  subst hz hvs
  exact ⟨⟨kb, E, V, C, A⟩, hp, hl⟩
theorem payLen (hw : ∀ d ∈ tables_1, d.before a0 Z = true) (wi : (Jvm.Cond.instantiable "java/lang/String" 4).before a0 Z = true) (cm : Com Z) (O : Old Z n0 h) (F : Str Z h x t cs) (hfr : 2 ≤ R.frames) (hlo : W + 25 ≤ R.locals) :
    Pay l R p e below args Z s n0 ⟨"java/lang/String", "length", "()I"⟩ 3 W #[.ref x] h [] 0 0 (fun v h' => v = some (.int (Int32.ofNat cs.length)) ∧ h' = h) := fun s' hZ _ => by
  obtain ⟨z, St, hz⟩ := cm
  obtain ⟨⟨kb, f1, f2, f3, f4⟩, f5, f6⟩ := F
  refine Back.mono (StrChars.Road.lenW hZ (fun d hd => hw d ((by decide +kernel : ∀ d ∈ StrChars.Road.wordsLen, d ∈ tables_1) d hd)) wi f1 f2 f3 f4 (StrChars.Road.codOf rfl fun c hc => (f5 c hc).2) (up16 f5) (St.ext O.2) hz f6 hfr hlo) (fun P a q => q) (fun P a v B hp' hq => ?_)
  obtain ⟨L, ⟨q1, rfl, q3⟩, hl, hc, hs⟩ := hq
  exact ⟨[], ⟨⟨q1, q3⟩, by rw [q3]; exact Keep.refl _ _, Fr.nil _⟩, hl, hc, hs⟩
theorem payCh (hw : ∀ d ∈ tables_1, d.before a0 Z = true) (wi : (Jvm.Cond.instantiable "java/lang/String" 4).before a0 Z = true) (cm : Com Z) (sf : Sfo Z) (O : Old Z n0 h) (F : Str Z h x t cs) {i : Nat} {j : Int32} (hi : i < cs.length) (hj : j = Int32.ofNat i) (hfr : 4 ≤ R.frames) (hlo : W + 53 ≤ R.locals) :
    Pay l R p e below args Z s n0 ⟨"java/lang/String", "charAt", "(I)C"⟩ 3 W #[.ref x, .int j] h [] 0 0 (fun v h' => v = some (.int (cs.getD i 0)) ∧ h' = h) := fun s' hZ _ => by
  obtain ⟨z, St, hz⟩ := cm
  obtain ⟨fv, Sf, rf⟩ := sf
  obtain ⟨⟨kb, f1, f2, f3, f4⟩, f5, f6⟩ := F
  refine Back.mono (StrChars.Road.chN hZ (fun d hd => hw d ((by decide +kernel : ∀ d ∈ StrChars.Road.wordsChN, d ∈ tables_1) d hd)) wi f1 f2 f3 f4 (StrChars.Road.codOf rfl fun c hc => (f5 c hc).2) (up16 f5) (St.ext O.2) hz (Sf.ext O.2) rf f6 hi hj hfr hlo) (fun P a q => q) (fun P a v B hp' hq => ?_)
  obtain ⟨L, ⟨q1, rfl, q3⟩, hl, hc, hs⟩ := hq
  exact ⟨[], ⟨⟨q1, q3⟩, by rw [q3]; exact Keep.refl _ _, Fr.nil _⟩, hl, hc, hs⟩
end OwnStr
end Jvm.Pilot.@@N@@
namespace Jvm.Pilot.@@N@@
open Jvm Jvm.ClassFile Sem Op Lib Jvm.Free Jvm.Stand Jvm.LawKit Jvm.RoadKit Bundle Jvm.Pilot.@@N@@.Jvm.D
section OwnU16
variable {a0 : Array Value} {p : Program} {l : Launch} {e : Env} {R : Room} {args : Array Value} {below : List Frame} {Z s : State} {n0 : Nat} {h h' : Heap} {ws : List Addr} {x t a : Addr} {cs : List Int32} {sl W : Nat} {v : Value}
/-- a char -/
def U16 (c : Int32) : Prop := ¬ c < 0 ∧ ¬ (65535 : Int32) < c
theorem U16.nar {c : Int32} (h : U16 c) : nar .char c = c := by
  have q := c_i2c c
  show c.toUInt32.toUInt16.toUInt32.toInt32 = c
  apply Int32.toInt_inj.mp
  have h1 := h.1
  have h2 := h.2
  rw [Int32.lt_iff_toInt_lt] at h1 h2
  have e1 : (0 : Int32).toInt = 0 := rfl
  have e2 : (65535 : Int32).toInt = 65535 := rfl
  omega
theorem u16_nar (c : Int32) : U16 (nar .char c) := by
  have q := c_i2c c
  have e1 : (0 : Int32).toInt = 0 := rfl
  have e2 : (65535 : Int32).toInt = 65535 := rfl
  refine ⟨fun h => ?_, fun h => ?_⟩
  · rw [Int32.lt_iff_toInt_lt] at h
    have h : c.toUInt32.toUInt16.toUInt32.toInt32.toInt < 0 := h
    omega
  · rw [Int32.lt_iff_toInt_lt] at h
    have h : (65535 : Int) < c.toUInt32.toUInt16.toUInt32.toInt32.toInt := h
    omega
theorem u16_i2c (c : Int32) : U16 (c.toUInt32.toUInt16.toUInt32.toInt32) := u16_nar c
theorem own_nat {k : Nat} (h : k < 2 ^ 31) : (Int32.ofNat k).toInt = k := Int32.toInt_ofNat_small h
theorem own_clamp {j : Int32} {k : Nat} (h : j.toInt = k) : j.toNatClampNeg = k ∧ ¬ j < 0 := by
  have e1 : (0 : Int32).toInt = 0 := rfl
  have q : ¬ j < 0 := fun q => by rw [Int32.lt_iff_toInt_lt] at q; omega
  have := nat_of q
  exact ⟨by omega, q⟩
theorem own_shl1 {k : Nat} (h : 2 * k < 2 ^ 31) : (Int32.ofNat k <<< ((1 : Int32) &&& 31)) = Int32.ofNat (2 * k) := by
  apply Int32.toInt_inj.mp
  have q := c_ishl (Int32.ofNat k) 1 1 (by decide)
  rw [own_nat (by omega)] at q
  rw [own_nat h]
  have r := rng32 (Int32.ofNat k <<< ((1 : Int32) &&& 31))
  omega
theorem own_inc {k : Nat} (h : k + 1 < 2 ^ 31) : (Int32.ofNat k + (1 : Int32)) = Int32.ofNat (k + 1) := by
  apply Int32.toInt_inj.mp
  have q := c_iadd (Int32.ofNat k) 1
  rw [own_nat (by omega)] at q
  rw [own_nat h]
  have e1 : (1 : Int32).toInt = 1 := rfl
  have r := rng32 (Int32.ofNat k + 1)
  omega
theorem own_ltN {k n : Nat} (h : k < n) (hn : n < 2 ^ 31) : Int32.ofNat k < Int32.ofNat n := by
  rw [Int32.lt_iff_toInt_lt, own_nat hn, own_nat (by omega)]
  omega
/-- the place k of an array of n places -/
theorem own_in {k n : Nat} (h : k < n) (hn : n < 2 ^ 31) : ¬ Int32.ofNat k < 0 ∧ Int32.ofNat k < Int32.ofNat n := ⟨(own_clamp (own_nat (by omega))).2, own_ltN h hn⟩
theorem own_getD {k : Nat} {vs : List Value} {d w : Value} (hk : k < 2 ^ 31) (q : vs.getD k d = w) : vs.getD (Int32.ofNat k).toNatClampNeg d = w := by rw [(own_clamp (own_nat hk)).1]; exact q
/-- the object x is a String of these chars; t: its byte[] -/
def StrA (Z : State) (h : Heap) (x t : Addr) (cs : List Int32) : Prop :=
  (∃ kb cd N vs, Exa Z h x "java/lang/String" ∧ Fld Z h x "java/lang/String" "value" "[B" (.ref t) ∧ Fld Z h x "java/lang/String" "coder" "B" (.int cd) ∧ Arv Z h t kb .byte N vs (.int 0) ∧ StrChars.Road.CodA cs cd N vs) ∧ (∀ c ∈ cs, U16 c) ∧ cs.length ≤ 4000
theorem StrA.exa (F : StrA Z h x t cs) : Exa Z h x "java/lang/String" := by obtain ⟨⟨kb, cd, N, vs, E, -⟩, -⟩ := F; exact E
theorem StrA.lt (F : StrA Z h x t cs) : x < h.size := F.exa.lt
theorem StrA.lt' (F : StrA Z h x t cs) : t < h.size := by obtain ⟨⟨kb, cd, N, vs, -, -, -, A, -⟩, -⟩ := F; exact A.lt
theorem StrA.ext (F : StrA Z h x t cs) (E : Ext h h') : StrA Z h' x t cs := by obtain ⟨⟨kb, cd, N, vs, a, b, c, d, q⟩, r⟩ := F; exact ⟨⟨kb, cd, N, vs, a.ext E, b.ext E, c.ext E, d.ext E, q⟩, r⟩
theorem StrA.keep (F : StrA Z h x t cs) (K : Keep h h' ws) (q : x ∉ ws) (r : t ∉ ws) : StrA Z h' x t cs := by obtain ⟨⟨kb, cd, N, vs, a, b, c, d, q'⟩, z⟩ := F; exact ⟨⟨kb, cd, N, vs, a.keep K, b.keep K q, c.keep K q, d.keep K r, q'⟩, z⟩
theorem StrA.wr (F : StrA Z h x t cs) (W : Wr h h' a sl v) (q : x ≠ a) (r : t ≠ a) : StrA Z h' x t cs := by obtain ⟨⟨kb, cd, N, vs, a, b, c, d, q'⟩, z⟩ := F; exact ⟨⟨kb, cd, N, vs, a.wr W, b.other W (Or.inl q), c.other W (Or.inl q), d.other W r, q'⟩, z⟩
theorem StrA.of (F : Str Z h x t cs) : StrA Z h x t cs := by
  obtain ⟨⟨kb, a, b, c, d⟩, hp, hl⟩ := F
  exact ⟨⟨kb, 0, _, _, a, b, c, d, StrChars.Road.codOf rfl fun c hc => (hp c hc).2⟩, up16 hp, hl⟩
theorem payLenA (hw : ∀ d ∈ tables_1, d.before a0 Z = true) (wi : (Jvm.Cond.instantiable "java/lang/String" 4).before a0 Z = true) (cm : Com Z) (O : Old Z n0 h) (F : StrA Z h x t cs) (hfr : 2 ≤ R.frames) (hlo : W + 25 ≤ R.locals) :
    Pay l R p e below args Z s n0 ⟨"java/lang/String", "length", "()I"⟩ 3 W #[.ref x] h [] 0 0 (fun v h' => v = some (.int (Int32.ofNat cs.length)) ∧ h' = h) := fun s' hZ _ => by
  obtain ⟨z, St, hz⟩ := cm
  obtain ⟨⟨kb, cd, N, vs, f1, f2, f3, f4, f7⟩, f5, f6⟩ := F
  refine Back.mono (StrChars.Road.lenW hZ (fun d hd => hw d ((by decide +kernel : ∀ d ∈ StrChars.Road.wordsLen, d ∈ tables_1) d hd)) wi f1 f2 f3 f4 f7 f5 (St.ext O.2) hz f6 hfr hlo) (fun P a q => q) (fun P a v B hp' hq => ?_)
  obtain ⟨L, ⟨q1, rfl, q3⟩, hl, hc, hs⟩ := hq
  exact ⟨[], ⟨⟨q1, q3⟩, by rw [q3]; exact Keep.refl _ _, Fr.nil _⟩, hl, hc, hs⟩
/-- StringUTF16's statics -/
def U16s (Z : State) : Prop := Sta Z Z.heap "java/lang/StringUTF16" "$assertionsDisabled" "Z" (.int 1) ∧ Sta Z Z.heap "java/lang/StringUTF16" "HI_BYTE_SHIFT" "I" (.int 0) ∧ Sta Z Z.heap "java/lang/StringUTF16" "LO_BYTE_SHIFT" "I" (.int 8)
end OwnU16
end Jvm.Pilot.@@N@@
namespace Jvm.Pilot.@@N@@
open Jvm Jvm.ClassFile Sem Op Lib Jvm.Free Jvm.Stand Jvm.LawKit Jvm.RoadKit Bundle Jvm.Pilot.@@N@@.Jvm.D
theorem Tw {a0 : Array Value} {Z : State} (hw : ∀ d ∈ tables_1, d.before a0 Z = true) (i : Nat) {d : Jvm.Cond} (h : tables_1[i]? = some d) : d.before a0 Z = true := hw d (List.mem_of_getElem? h)
theorem Nle {a b : Nat} (h : Nat.ble a b = true) : a ≤ b := Nat.le_of_ble_eq_true h
theorem own_wS {a0 : Array Value} {Z : State} (hw : ∀ d ∈ tables_1, d.before a0 Z = true) : ∀ a ∈ Bundle.stringAtoms, a.before a0 Z = true := fun a ha => hw a ((by decide +kernel : ∀ a ∈ Bundle.stringAtoms, a ∈ tables_1) a ha)
theorem own_EW {a0 : Array Value} {Z : State} (hw : ∀ d ∈ tables_1, d.before a0 Z = true) : EW Z a0 consts_1 := (EW.cons (Tw hw 98 rfl) (by decide) EW.nil)
theorem own_ef_1 (m : MethodId) (x0 : Addr) (x1 : Addr) (x2 : Int32) (x3 : Int32) : entryFrame m #[(.ref x0), (.ref x1), (.int x2), (.int x3), .null] 6 = mkF m 0 #[.val (.ref x0), .val (.ref x1), .val (.int x2), .val (.int x3), .val .null, .unset] [] := by rfl
theorem own_d_jdk_42_method_149_code_0 : decode jdk_42_method_149_code 0 = .ok (.aload_n 0, 1) := by decide +kernel
theorem own_d_jdk_42_method_149_code_1 : decode jdk_42_method_149_code 1 = .ok (.invokespecial 1, 3) := by decide +kernel
theorem own_d_jdk_42_method_149_code_4 : decode jdk_42_method_149_code 4 = .ok (.iload_n 3, 1) := by decide +kernel
theorem own_d_jdk_42_method_149_code_5 : decode jdk_42_method_149_code 5 = .ok (.ifCond .ne 22, 3) := by decide +kernel
theorem own_d_jdk_42_method_149_code_8 : decode jdk_42_method_149_code 8 = .ok (.aload_n 0, 1) := by decide +kernel
theorem own_d_jdk_42_method_149_code_9 : decode jdk_42_method_149_code 9 = .ok (.ldc 7, 2) := by decide +kernel
theorem own_d_jdk_42_method_149_code_11 : decode jdk_42_method_149_code 11 = .ok (.getfield 9, 3) := by decide +kernel
theorem own_d_jdk_42_method_149_code_14 : decode jdk_42_method_149_code 14 = .ok (.putfield 9, 3) := by decide +kernel
theorem own_d_jdk_42_method_149_code_17 : decode jdk_42_method_149_code 17 = .ok (.aload_n 0, 1) := by decide +kernel
theorem own_d_jdk_42_method_149_code_18 : decode jdk_42_method_149_code 18 = .ok (.ldc 7, 2) := by decide +kernel
theorem own_d_jdk_42_method_149_code_20 : decode jdk_42_method_149_code 20 = .ok (.getfield 15, 3) := by decide +kernel
theorem own_d_jdk_42_method_149_code_23 : decode jdk_42_method_149_code 23 = .ok (.putfield 15, 3) := by decide +kernel
theorem own_d_jdk_42_method_149_code_26 : decode jdk_42_method_149_code 26 = .ok (.return_, 1) := by decide +kernel
theorem own_pn_2 : plainName "java/lang/String" = true := by first | (simp [plainName, overriddenIn]; done) | decide +kernel
set_option maxRecDepth 65536 in
set_option maxHeartbeats 4000000 in
theorem own_sE4 (l : Launch) (Z : State) (a0 : Array Value) (hw : ∀ d ∈ tables_1, d.before a0 Z = true) (h0 : Heap) (n0 : Nat) (O : Old Z n0 h0) (x : Addr) (b : Addr) (ge_x : n0 ≤ x) (E : Exa Z h0 x "java/lang/String") (FV : Fld Z h0 x "java/lang/String" "value" "[B" .null) (FC : Fld Z h0 x "java/lang/String" "coder" "B" (.int 0)) :
    ConS consts_1 l Z n0 (⟨"java/lang/String", "<init>", "([CIILjava/lang/Void;)V"⟩ : MethodName) jdk_42_method_149_code 6 none [] ({ frames := 1, cells := 4, slots := 8, locals := 14 } : Room) #[(.ref x), (.ref b), (.int (0 : Int32)), (.int (0 : Int32)), .null] h0 [x] [x] (fun v h' => v = none ∧ ∃ t, Str Z h' x t []) := by
  refine ConS.of (a0 := a0) (plainFor_of_name own_pn_2) O (own_EW hw) (by simp [ge_x]) ?_
  intro p e s m below meth cdX T S hby hml hret hnm
  refine Go.cast (own_ef_1 m x b (0 : Int32) (0 : Int32)) ?_
  refine S.aloadN 1 (hb hby own_d_jdk_42_method_149_code_0) rfl rfl ?_
  refine S.initO (W := 0) 4 (hb hby own_d_jdk_42_method_149_code_1) (by rw [hml]; rfl) (Tw hw 14 rfl) (Tw hw 15 rfl) (Tw hw 16 rfl) (by decide) (Nle rfl) (by decide) ?_
  intro T1 S2
  refine S2.iloadN 5 (hb hby own_d_jdk_42_method_149_code_4) rfl ?_
  refine S2.ifN 8 (hb hby own_d_jdk_42_method_149_code_5) (zNeF (by decide)) ?_
  refine S2.aloadN 9 (hb hby own_d_jdk_42_method_149_code_8) rfl rfl ?_
  refine S2.ldcR (n := 0) (vs := ([] : List Value)) (z := (0 : Int32)) 11 (hb hby own_d_jdk_42_method_149_code_9) (Tw hw 98 rfl) (own_wS hw) (by decide) ⟨by decide, by decide⟩ (by decide) (by decide) (by decide) (by decide) (by decide) (by decide) ?_
  intro T3 h4 b5 t6 k7 S8 E9 f10 f11 f12 f13 hne14
  refine S8.getf (host := "") 14 (hb hby own_d_jdk_42_method_149_code_11) (Or.inl (Tw hw 31 rfl)) Via.refl f12 ?_
  intro T15 S16
  have f17 := (FV.ext E9)
  have f18 := (E.ext E9)
  refine S16.putf (host := "") (ty := (.array .byte)) 17 (hb hby own_d_jdk_42_method_149_code_14) (Or.inl (Tw hw 31 rfl)) Via.refl f17 f18 (Or.inr ⟨(Tw hw 32 rfl), rfl, hnm⟩) (Tw hw 5 rfl) (by decide) rfl rfl (Or.inl (by simp)) (Or.inr (by simp)) ?_
  intro T19 h20 L21 S22 W23
  have f24 := f17.same W23
  refine S22.aloadN 18 (hb hby own_d_jdk_42_method_149_code_17) rfl rfl ?_
  refine S22.ldcR (n := 0) (vs := ([] : List Value)) (z := (0 : Int32)) 20 (hb hby own_d_jdk_42_method_149_code_18) (Tw hw 98 rfl) (own_wS hw) (by decide) ⟨by decide, by decide⟩ (by decide) (by decide) (by decide) (by decide) (by decide) (by decide) ?_
  intro T25 h26 b27 t28 k29 S30 E31 f32 f33 f34 f35 hne36
  refine S30.getf (host := "") 23 (hb hby own_d_jdk_42_method_149_code_20) (Or.inl (Tw hw 29 rfl)) Via.refl f33 ?_
  intro T37 S38
  have f39 := (((FC.ext E9).other W23 (Or.inr (slot_ne (t := .byte) (t' := (.array .byte)) (Or.inr (Tw hw 30 rfl)) (Or.inr (Tw hw 32 rfl)) (by decide) (by decide) (by decide)))).ext E31)
  have f40 := ((f18.wr W23).ext E31)
  refine S38.putf (host := "") (ty := .byte) 26 (hb hby own_d_jdk_42_method_149_code_23) (Or.inl (Tw hw 29 rfl)) Via.refl f39 f40 (Or.inr ⟨(Tw hw 30 rfl), rfl, hnm⟩) (Tw hw 5 rfl) (by decide) rfl rfl (Or.inl (by simp)) (Or.inr (by simp)) ?_
  intro T41 h42 L43 S44 W45
  have f46 := f39.same W45
  have f47 := (f40.wr W45)
  have f48 := ((f24.ext E31).other W45 (Or.inr (slot_ne (t := (.array .byte)) (t' := .byte) (Or.inr (Tw hw 32 rfl)) (Or.inr (Tw hw 30 rfl)) (by decide) (by decide) (by decide))))
  have f49 := (((f13.other W23 (Ne.symm (hne14 x (by simp)).2)).ext E31).other W45 (Ne.symm (hne14 x (by simp)).2))
  exact S44.ret0 (hb hby own_d_jdk_42_method_149_code_26) hret (by decide) (by decide) ⟨rfl, _, Str.of f47 f46 f48 f49 [] rfl rfl (by decide) (by decide)⟩

theorem own_ef_3 (m : MethodId) (x0 : Addr) (x1 : Addr) : entryFrame m #[(.ref x0), (.ref x1)] 2 = mkF m 0 #[.val (.ref x0), .val (.ref x1)] [] := by rfl
theorem own_d_jdk_42_method_3_code_0 : decode jdk_42_method_3_code 0 = .ok (.aload_n 0, 1) := by decide +kernel
theorem own_d_jdk_42_method_3_code_1 : decode jdk_42_method_3_code 1 = .ok (.aload_n 1, 1) := by decide +kernel
theorem own_d_jdk_42_method_3_code_2 : decode jdk_42_method_3_code 2 = .ok (.iconst 0, 1) := by decide +kernel
theorem own_d_jdk_42_method_3_code_3 : decode jdk_42_method_3_code 3 = .ok (.aload_n 1, 1) := by decide +kernel
theorem own_d_jdk_42_method_3_code_4 : decode jdk_42_method_3_code 4 = .ok (.arraylength, 1) := by decide +kernel
theorem own_d_jdk_42_method_3_code_5 : decode jdk_42_method_3_code 5 = .ok (.aconst_null, 1) := by decide +kernel
theorem own_d_jdk_42_method_3_code_6 : decode jdk_42_method_3_code 6 = .ok (.invokespecial 27, 3) := by decide +kernel
theorem own_pd_4 : parseMethodDescriptor "([CIILjava/lang/Void;)V" = some ⟨[(.array .char), .int, .int, (.object "java/lang/Void")], none⟩ := by decide +kernel
theorem own_d_jdk_42_method_3_code_9 : decode jdk_42_method_3_code 9 = .ok (.return_, 1) := by decide +kernel
set_option maxRecDepth 65536 in
set_option maxHeartbeats 4000000 in
theorem own_sE1 (l : Launch) (Z : State) (a0 : Array Value) (hw : ∀ d ∈ tables_1, d.before a0 Z = true) (h0 : Heap) (n0 : Nat) (O : Old Z n0 h0) (x : Addr) (b : Addr) (k : ClassId) (d : Value) (ge_x : n0 ≤ x) (E : Exa Z h0 x "java/lang/String") (FV : Fld Z h0 x "java/lang/String" "value" "[B" .null) (FC : Fld Z h0 x "java/lang/String" "coder" "B" (.int 0)) (A : Arv Z h0 b k .char (0 : Int32) [] d) :
    ConS consts_1 l Z n0 (⟨"java/lang/String", "<init>", "([C)V"⟩ : MethodName) jdk_42_method_3_code 2 none [] ({ frames := 2, cells := 4, slots := 8, locals := 40 } : Room) #[(.ref x), (.ref b)] h0 [x] [x] (fun v h' => v = none ∧ ∃ t, Str Z h' x t []) := by
  refine ConS.of (a0 := a0) (plainFor_of_name own_pn_2) O (own_EW hw) (by simp [ge_x]) ?_
  intro p e s m below meth cdX T S hby hml hret hnm
  refine Go.cast (own_ef_3 m x b) ?_
  refine S.aloadN 1 (hb hby own_d_jdk_42_method_3_code_0) rfl rfl ?_
  refine S.aloadN 2 (hb hby own_d_jdk_42_method_3_code_1) rfl rfl ?_
  refine S.iconst 3 (0 : Int32) (hb hby own_d_jdk_42_method_3_code_2) ?_
  refine S.aloadN 4 (hb hby own_d_jdk_42_method_3_code_3) rfl rfl ?_
  refine S.alen 5 (hb hby own_d_jdk_42_method_3_code_4) A ?_
  refine S.anull 6 (hb hby own_d_jdk_42_method_3_code_5) ?_
  refine S.icallS 9 (hb hby own_d_jdk_42_method_3_code_6) (by rw [hml]; rfl) rfl (Tw hw 10 rfl) (Tw hw 11 rfl) (Tw hw 13 rfl) (by decide) [(.ref b), (.int (0 : Int32)), (.int (0 : Int32)), .null] [] (ConS.pay (W := 0) (own_sE4 l Z a0 hw h0 n0 S.old x b ge_x E FV FC) (Tw hw 13 rfl) (Tw hw 6 rfl) (by decide) (by decide)) (lenOf own_pd_4 rfl) rfl (Nle rfl) (by decide) (by decide) (Wrs.one (Or.inl (by simp)) (Or.inl (by simp))) (by simp) ?_
  intro v50 T51 h52 L53 S54 q55 K56
  obtain ⟨rfl, te, q55_2⟩ := q55
  show Go p e below _ T51 (mkF m 9 #[.val (.ref x), .val (.ref b)] [])
  exact S54.ret0 (hb hby own_d_jdk_42_method_3_code_9) hret (by decide) (by decide) ⟨rfl, te, q55_2⟩

theorem own_ef_5 (m : MethodId) (x0 : Addr) : entryFrame m #[(.ref x0)] 1 = mkF m 0 #[.val (.ref x0)] [] := by rfl
theorem own_d_jdk_42_method_154_code_0 : decode jdk_42_method_154_code 0 = .ok (.getstatic 38, 3) := by decide +kernel
theorem own_d_jdk_42_method_154_code_3 : decode jdk_42_method_154_code 3 = .ok (.ifCond .eq 14, 3) := by decide +kernel
theorem own_d_jdk_42_method_154_code_6 : decode jdk_42_method_154_code 6 = .ok (.aload_n 0, 1) := by decide +kernel
theorem own_d_jdk_42_method_154_code_7 : decode jdk_42_method_154_code 7 = .ok (.getfield 15, 3) := by decide +kernel
theorem own_d_jdk_42_method_154_code_10 : decode jdk_42_method_154_code 10 = .ok (.ifCond .ne 7, 3) := by decide +kernel
theorem own_d_jdk_42_method_154_code_17 : decode jdk_42_method_154_code 17 = .ok (.iconst 0, 1) := by decide +kernel
theorem own_d_jdk_42_method_154_code_18 : decode jdk_42_method_154_code 18 = .ok (.ireturn, 1) := by decide +kernel
set_option maxRecDepth 65536 in
set_option maxHeartbeats 4000000 in
theorem own_isL1 (l : Launch) (Z : State) (a0 : Array Value) (hw : ∀ d ∈ tables_1, d.before a0 Z = true) (cm : Com Z) (h0 : Heap) (n0 : Nat) (O : Old Z n0 h0) (x : Addr) (F : Fld Z h0 x "java/lang/String" "coder" "B" (.int 1)) :
    Con l Z n0 (⟨"java/lang/String", "isLatin1", "()Z"⟩ : MethodName) jdk_42_method_154_code 1 (some .boolean) [] ({ frames := 0, cells := 0, slots := 0, locals := 0 } : Room) #[(.ref x)] h0 [] (fun v h' => v = some (.int 0) ∧ h' = h0) := by
  refine Con.of a0 (plainFor_of_name own_pn_2) O (fun _ q => nomatch q) [] (fun _ q => nomatch q) ?_
  intro p e s m below meth cdX T S hby hml hret hnm
  refine Go.cast (own_ef_5 m x) ?_
  obtain ⟨zc, sc, nc⟩ := cm
  refine S.gets (host := "") 3 (hb hby own_d_jdk_42_method_154_code_0) (Or.inl (Tw hw 17 rfl)) Via.refl (sc.ext S.old.2) ?_
  intro T57 S58
  refine S58.ifN 6 (hb hby own_d_jdk_42_method_154_code_3) (zEqF nc) ?_
  refine S58.aloadN 7 (hb hby own_d_jdk_42_method_154_code_6) rfl rfl ?_
  refine S58.getf (host := "") 10 (hb hby own_d_jdk_42_method_154_code_7) (Or.inl (Tw hw 29 rfl)) Via.refl F ?_
  intro T59 S60
  refine S60.ifY 17 (hb hby own_d_jdk_42_method_154_code_10) (zNeT (by decide)) ?_
  refine S60.iconst 18 (0 : Int32) (hb hby own_d_jdk_42_method_154_code_17) ?_
  exact S60.retN (t := .boolean) (hb hby own_d_jdk_42_method_154_code_18) hret (by decide) (by decide) (by decide) ⟨rfl, rfl⟩

theorem own_d_jdk_52_method_6_code_0 : decode jdk_52_method_6_code 0 = .ok (.aload_n 0, 1) := by decide +kernel
theorem own_d_jdk_52_method_6_code_1 : decode jdk_52_method_6_code 1 = .ok (.arraylength, 1) := by decide +kernel
theorem own_d_jdk_52_method_6_code_2 : decode jdk_52_method_6_code 2 = .ok (.iconst 1, 1) := by decide +kernel
theorem own_d_jdk_52_method_6_code_3 : decode jdk_52_method_6_code 3 = .ok (.ishr, 1) := by decide +kernel
theorem own_d_jdk_52_method_6_code_4 : decode jdk_52_method_6_code 4 = .ok (.ireturn, 1) := by decide +kernel
theorem own_pn_6 : plainName "java/lang/StringUTF16" = true := by first | (simp [plainName, overriddenIn]; done) | decide +kernel
set_option maxRecDepth 65536 in
set_option maxHeartbeats 4000000 in
theorem own_ulen (l : Launch) (Z : State) (a0 : Array Value) (hw : ∀ d ∈ tables_1, d.before a0 Z = true) (h0 : Heap) (n0 : Nat) (O : Old Z n0 h0) (t : Addr) (k : ClassId) (n : Nat) (vs : List Value) (d : Value) (hn : n ≤ 4000) (A : Arv Z h0 t k .byte (Int32.ofNat (2 * n)) vs d) :
    Con l Z n0 (⟨"java/lang/StringUTF16", "length", "([B)I"⟩ : MethodName) jdk_52_method_6_code 1 (some .int) [] ({ frames := 0, cells := 0, slots := 0, locals := 0 } : Room) #[(.ref t)] h0 [] (fun v h' => v = some (.int (Int32.ofNat n)) ∧ h' = h0) := by
  refine Con.of a0 (plainFor_of_name own_pn_6) O (fun _ q => nomatch q) [] (fun _ q => nomatch q) ?_
  intro p e s m below meth cdX T S hby hml hret hnm
  refine Go.cast (own_ef_5 m t) ?_
  refine S.aloadN 1 (hb hby own_d_jdk_52_method_6_code_0) rfl rfl ?_
  refine S.alen 2 (hb hby own_d_jdk_52_method_6_code_1) A ?_
  refine S.iconst 3 (1 : Int32) (hb hby own_d_jdk_52_method_6_code_2) ?_
  refine S.ishr 4 (hb hby own_d_jdk_52_method_6_code_3) ?_
  show Go p e below _ T (mkF m 4 #[.val (.ref t)] [(.int ((Int32.ofNat (2 * n)) >>> ((1 : Int32) &&& 31)))])
  rw [StrChars.shr1 (by omega)]
  exact S.retI (hb hby own_d_jdk_52_method_6_code_4) hret (by decide) (by decide) ⟨rfl, rfl⟩

theorem own_ef_7 (m : MethodId) (x0 : Int32) (x1 : Int32) (x2 : Value) (hr2 : x2.category = 1) : entryFrame m #[(.int x0), (.int x1), x2] 3 = mkF m 0 #[.val (.int x0), .val (.int x1), .val x2] [] := by first | rfl | (cases x2 <;> first | rfl | (simp [Value.category] at hr2; done))
theorem own_d_jdk_41_method_11_code_0 : decode jdk_41_method_11_code 0 = .ok (.iload_n 0, 1) := by decide +kernel
theorem own_d_jdk_41_method_11_code_1 : decode jdk_41_method_11_code 1 = .ok (.ifCond .lt 8, 3) := by decide +kernel
theorem own_d_jdk_41_method_11_code_4 : decode jdk_41_method_11_code 4 = .ok (.iload_n 0, 1) := by decide +kernel
theorem own_d_jdk_41_method_11_code_5 : decode jdk_41_method_11_code 5 = .ok (.iload_n 1, 1) := by decide +kernel
theorem own_d_jdk_41_method_11_code_6 : decode jdk_41_method_11_code 6 = .ok (.if_icmp .lt 10, 3) := by decide +kernel
theorem own_d_jdk_41_method_11_code_16 : decode jdk_41_method_11_code 16 = .ok (.iload_n 0, 1) := by decide +kernel
theorem own_d_jdk_41_method_11_code_17 : decode jdk_41_method_11_code 17 = .ok (.ireturn, 1) := by decide +kernel
theorem own_pn_8 : plainName "jdk/internal/util/Preconditions" = true := by first | (simp [plainName, overriddenIn]; done) | decide +kernel
set_option maxRecDepth 65536 in
set_option maxHeartbeats 4000000 in
theorem own_chkP (l : Launch) (Z : State) (a0 : Array Value) (hw : ∀ d ∈ tables_1, d.before a0 Z = true) (h0 : Heap) (n0 : Nat) (O : Old Z n0 h0) (i : Int32) (j : Int32) (f : Value) (hf : f.isRef = true) (h1 : ¬ i < 0) (h2 : i < j) :
    Con l Z n0 (⟨"jdk/internal/util/Preconditions", "checkIndex", "(IILjava/util/function/BiFunction;)I"⟩ : MethodName) jdk_41_method_11_code 3 (some .int) [] ({ frames := 0, cells := 0, slots := 0, locals := 0 } : Room) #[(.int i), (.int j), f] h0 [] (fun v h' => v = some (.int i) ∧ h' = h0) := by
  refine Con.of a0 (plainFor_of_name own_pn_8) O (fun _ q => nomatch q) [] (fun _ q => nomatch q) ?_
  intro p e s m below meth cdX T S hby hml hret hnm
  refine Go.cast (own_ef_7 m i j f (cat1 hf)) ?_
  refine S.iloadN 1 (hb hby own_d_jdk_41_method_11_code_0) rfl ?_
  refine S.ifN 4 (hb hby own_d_jdk_41_method_11_code_1) (zLtF h1) ?_
  refine S.iloadN 5 (hb hby own_d_jdk_41_method_11_code_4) rfl ?_
  refine S.iloadN 6 (hb hby own_d_jdk_41_method_11_code_5) rfl ?_
  refine S.icmpY 16 (hb hby own_d_jdk_41_method_11_code_6) (qLtT h2) ?_
  refine S.iloadN 17 (hb hby own_d_jdk_41_method_11_code_16) rfl ?_
  exact S.retI (hb hby own_d_jdk_41_method_11_code_17) hret (by decide) (by decide) ⟨rfl, rfl⟩

theorem own_ef_9 (m : MethodId) (x0 : Int32) (x1 : Int32) : entryFrame m #[(.int x0), (.int x1)] 2 = mkF m 0 #[.val (.int x0), .val (.int x1)] [] := by rfl
theorem own_d_jdk_42_method_155_code_0 : decode jdk_42_method_155_code 0 = .ok (.iload_n 0, 1) := by decide +kernel
theorem own_d_jdk_42_method_155_code_1 : decode jdk_42_method_155_code 1 = .ok (.iload_n 1, 1) := by decide +kernel
theorem own_d_jdk_42_method_155_code_2 : decode jdk_42_method_155_code 2 = .ok (.getstatic 1053, 3) := by decide +kernel
theorem own_d_jdk_42_method_155_code_5 : decode jdk_42_method_155_code 5 = .ok (.invokestatic 1059, 3) := by decide +kernel
theorem own_pd_10 : parseMethodDescriptor "(IILjava/util/function/BiFunction;)I" = some ⟨[.int, .int, (.object "java/util/function/BiFunction")], some .int⟩ := by decide +kernel
theorem own_d_jdk_42_method_155_code_8 : decode jdk_42_method_155_code 8 = .ok (.pop, 1) := by decide +kernel
theorem own_d_jdk_42_method_155_code_9 : decode jdk_42_method_155_code 9 = .ok (.return_, 1) := by decide +kernel
set_option maxRecDepth 65536 in
set_option maxHeartbeats 4000000 in
theorem own_chkS (l : Launch) (Z : State) (a0 : Array Value) (hw : ∀ d ∈ tables_1, d.before a0 Z = true) (sf : Sfo Z) (h0 : Heap) (n0 : Nat) (O : Old Z n0 h0) (i : Int32) (j : Int32) (h1 : ¬ i < 0) (h2 : i < j) :
    Con l Z n0 (⟨"java/lang/String", "checkIndex", "(II)V"⟩ : MethodName) jdk_42_method_155_code 2 none [] ({ frames := 1, cells := 0, slots := 0, locals := 20 } : Room) #[(.int i), (.int j)] h0 [] (fun v h' => v = none ∧ h' = h0) := by
  refine Con.of a0 (plainFor_of_name own_pn_2) O (fun _ q => nomatch q) [] (fun _ q => nomatch q) ?_
  intro p e s m below meth cdX T S hby hml hret hnm
  refine Go.cast (own_ef_9 m i j) ?_
  refine S.iloadN 1 (hb hby own_d_jdk_42_method_155_code_0) rfl ?_
  refine S.iloadN 2 (hb hby own_d_jdk_42_method_155_code_1) rfl ?_
  obtain ⟨fv, fs, fr⟩ := sf
  refine S.gets (host := "") 5 (hb hby own_d_jdk_42_method_155_code_2) (Or.inl (Tw hw 64 rfl)) Via.refl (fs.ext S.old.2) ?_
  intro T61 S62
  refine S62.scall 8 (hb hby own_d_jdk_42_method_155_code_5) (by rw [hml]; rfl) (Tw hw 66 rfl) (Tw hw 67 rfl) (Tw hw 65 rfl) (Tw hw 68 rfl) (by decide) [(.int i), (.int j), fv] [] (Con.pay (W := 0) (own_chkP l Z a0 hw h0 n0 S62.old i j fv fr h1 h2) (Tw hw 68 rfl) (Tw hw 65 rfl) (by decide) (by decide)) (lenOf own_pd_10 rfl) rfl (Nle rfl) (by decide) (by decide) Wrs.nil ?_
  intro v63 T64 h65 L66 S67 q68 K69
  obtain ⟨rfl, e_q68⟩ := q68
  obtain rfl := e_q68.symm
  show Go p e below _ T64 (mkF m 8 #[.val (.int i), .val (.int j)] [(.int i)])
  refine S67.pop 9 (hb hby own_d_jdk_42_method_155_code_8) rfl ?_
  exact S67.ret0 (hb hby own_d_jdk_42_method_155_code_9) hret (by decide) (by decide) ⟨rfl, rfl⟩

theorem own_ef_11 (m : MethodId) (x0 : Int32) (x1 : Addr) : entryFrame m #[(.int x0), (.ref x1)] 2 = mkF m 0 #[.val (.int x0), .val (.ref x1)] [] := by rfl
theorem own_d_jdk_52_method_91_code_0 : decode jdk_52_method_91_code 0 = .ok (.iload_n 0, 1) := by decide +kernel
theorem own_d_jdk_52_method_91_code_1 : decode jdk_52_method_91_code 1 = .ok (.aload_n 1, 1) := by decide +kernel
theorem own_d_jdk_52_method_91_code_2 : decode jdk_52_method_91_code 2 = .ok (.invokestatic 48, 3) := by decide +kernel
theorem own_pd_12 : parseMethodDescriptor "([B)I" = some ⟨[(.array .byte)], some .int⟩ := by decide +kernel
theorem own_d_jdk_52_method_91_code_5 : decode jdk_52_method_91_code 5 = .ok (.invokestatic 414, 3) := by decide +kernel
theorem own_pd_13 : parseMethodDescriptor "(II)V" = some ⟨[.int, .int], none⟩ := by decide +kernel
theorem own_d_jdk_52_method_91_code_8 : decode jdk_52_method_91_code 8 = .ok (.return_, 1) := by decide +kernel
set_option maxRecDepth 65536 in
set_option maxHeartbeats 4000000 in
theorem own_chkU (l : Launch) (Z : State) (a0 : Array Value) (hw : ∀ d ∈ tables_1, d.before a0 Z = true) (sf : Sfo Z) (h0 : Heap) (n0 : Nat) (O : Old Z n0 h0) (t : Addr) (k : ClassId) (n : Nat) (vs : List Value) (d : Value) (i : Nat) (hn : n ≤ 4000) (A : Arv Z h0 t k .byte (Int32.ofNat (2 * n)) vs d) (hi : i < n) :
    Con l Z n0 (⟨"java/lang/StringUTF16", "checkIndex", "(I[B)V"⟩ : MethodName) jdk_52_method_91_code 2 none [] ({ frames := 2, cells := 0, slots := 0, locals := 40 } : Room) #[(.int (Int32.ofNat i)), (.ref t)] h0 [] (fun v h' => v = none ∧ h' = h0) := by
  refine Con.of a0 (plainFor_of_name own_pn_6) O (fun _ q => nomatch q) [] (fun _ q => nomatch q) ?_
  intro p e s m below meth cdX T S hby hml hret hnm
  refine Go.cast (own_ef_11 m (Int32.ofNat i) t) ?_
  refine S.iloadN 1 (hb hby own_d_jdk_52_method_91_code_0) rfl ?_
  refine S.aloadN 2 (hb hby own_d_jdk_52_method_91_code_1) rfl rfl ?_
  refine S.scall 5 (hb hby own_d_jdk_52_method_91_code_2) (by rw [hml]; rfl) (Tw hw 107 rfl) (Tw hw 108 rfl) (Tw hw 20 rfl) (Tw hw 109 rfl) (by decide) [(.ref t)] [(.int (Int32.ofNat i))] (Con.pay (W := 1) (own_ulen l Z a0 hw h0 n0 S.old t k n vs d hn A) (Tw hw 109 rfl) (Tw hw 20 rfl) (by decide) (by decide)) (lenOf own_pd_12 rfl) rfl (Nle rfl) (by decide) (by decide) Wrs.nil ?_
  intro v70 T71 h72 L73 S74 q75 K76
  obtain ⟨rfl, e_q75⟩ := q75
  obtain rfl := e_q75.symm
  show Go p e below _ T71 (mkF m 5 #[.val (.int (Int32.ofNat i)), .val (.ref t)] [(.int (Int32.ofNat n)), (.int (Int32.ofNat i))])
  refine S74.scall 8 (hb hby own_d_jdk_52_method_91_code_5) (by rw [hml]; rfl) (Tw hw 110 rfl) (Tw hw 62 rfl) (Tw hw 6 rfl) (Tw hw 63 rfl) (by decide) [(.int (Int32.ofNat i)), (.int (Int32.ofNat n))] [] (Con.pay (W := 0) (own_chkS l Z a0 hw sf h0 n0 S74.old (Int32.ofNat i) (Int32.ofNat n) (own_in hi (by omega)).1 (own_in hi (by omega)).2) (Tw hw 63 rfl) (Tw hw 6 rfl) (by decide) (by decide)) (lenOf own_pd_13 rfl) rfl (Nle rfl) (by decide) (by decide) Wrs.nil ?_
  intro v77 T78 h79 L80 S81 q82 K83
  obtain ⟨rfl, e_q82⟩ := q82
  obtain rfl := e_q82.symm
  show Go p e below _ T78 (mkF m 8 #[.val (.int (Int32.ofNat i)), .val (.ref t)] [])
  exact S81.ret0 (hb hby own_d_jdk_52_method_91_code_8) hret (by decide) (by decide) ⟨rfl, rfl⟩

theorem own_ef_14 (m : MethodId) (x0 : Addr) (x1 : Int32) : entryFrame m #[(.ref x0), (.int x1)] 2 = mkF m 0 #[.val (.ref x0), .val (.int x1)] [] := by rfl
theorem own_d_jdk_52_method_5_code_0 : decode jdk_52_method_5_code 0 = .ok (.getstatic 44, 3) := by decide +kernel
theorem own_d_jdk_52_method_5_code_3 : decode jdk_52_method_5_code 3 = .ok (.ifCond .ne 25, 3) := by decide +kernel
theorem own_d_jdk_52_method_5_code_28 : decode jdk_52_method_5_code 28 = .ok (.iload_n 1, 1) := by decide +kernel
theorem own_d_jdk_52_method_5_code_29 : decode jdk_52_method_5_code 29 = .ok (.iconst 1, 1) := by decide +kernel
theorem own_d_jdk_52_method_5_code_30 : decode jdk_52_method_5_code 30 = .ok (.ishl, 1) := by decide +kernel
theorem own_d_jdk_52_method_5_code_31 : decode jdk_52_method_5_code 31 = .ok (.istore_n 1, 1) := by decide +kernel
theorem own_d_jdk_52_method_5_code_32 : decode jdk_52_method_5_code 32 = .ok (.aload_n 0, 1) := by decide +kernel
theorem own_d_jdk_52_method_5_code_33 : decode jdk_52_method_5_code 33 = .ok (.iload_n 1, 1) := by decide +kernel
theorem own_d_jdk_52_method_5_code_34 : decode jdk_52_method_5_code 34 = .ok (.iinc 1 1, 3) := by decide +kernel
theorem own_d_jdk_52_method_5_code_37 : decode jdk_52_method_5_code 37 = .ok (.baload, 1) := by decide +kernel
theorem own_d_jdk_52_method_5_code_38 : decode jdk_52_method_5_code 38 = .ok (.sipush 255, 3) := by decide +kernel
theorem own_d_jdk_52_method_5_code_41 : decode jdk_52_method_5_code 41 = .ok (.iand, 1) := by decide +kernel
theorem own_d_jdk_52_method_5_code_42 : decode jdk_52_method_5_code 42 = .ok (.getstatic 59, 3) := by decide +kernel
theorem own_d_jdk_52_method_5_code_45 : decode jdk_52_method_5_code 45 = .ok (.ishl, 1) := by decide +kernel
theorem own_d_jdk_52_method_5_code_46 : decode jdk_52_method_5_code 46 = .ok (.aload_n 0, 1) := by decide +kernel
theorem own_d_jdk_52_method_5_code_47 : decode jdk_52_method_5_code 47 = .ok (.iload_n 1, 1) := by decide +kernel
theorem own_d_jdk_52_method_5_code_48 : decode jdk_52_method_5_code 48 = .ok (.baload, 1) := by decide +kernel
theorem own_d_jdk_52_method_5_code_49 : decode jdk_52_method_5_code 49 = .ok (.sipush 255, 3) := by decide +kernel
theorem own_d_jdk_52_method_5_code_52 : decode jdk_52_method_5_code 52 = .ok (.iand, 1) := by decide +kernel
theorem own_d_jdk_52_method_5_code_53 : decode jdk_52_method_5_code 53 = .ok (.getstatic 63, 3) := by decide +kernel
theorem own_d_jdk_52_method_5_code_56 : decode jdk_52_method_5_code 56 = .ok (.ishl, 1) := by decide +kernel
theorem own_d_jdk_52_method_5_code_57 : decode jdk_52_method_5_code 57 = .ok (.ior, 1) := by decide +kernel
theorem own_d_jdk_52_method_5_code_58 : decode jdk_52_method_5_code 58 = .ok (.i2c, 1) := by decide +kernel
theorem own_d_jdk_52_method_5_code_59 : decode jdk_52_method_5_code 59 = .ok (.ireturn, 1) := by decide +kernel
set_option maxRecDepth 65536 in
set_option maxHeartbeats 4000000 in
theorem own_getC (l : Launch) (Z : State) (a0 : Array Value) (hw : ∀ d ∈ tables_1, d.before a0 Z = true) (us : U16s Z) (h0 : Heap) (n0 : Nat) (O : Old Z n0 h0) (t : Addr) (k : ClassId) (n : Nat) (vs : List Value) (d : Value) (i : Nat) (u : Int32) (u2 : Int32) (hn : n ≤ 4000) (A : Arv Z h0 t k .byte (Int32.ofNat (2 * n)) vs d) (hi : i < n) (hu : vs.getD (2 * i) d = .int u) (hu2 : vs.getD (2 * i + 1) d = .int u2) :
    Con l Z n0 (⟨"java/lang/StringUTF16", "getChar", "([BI)C"⟩ : MethodName) jdk_52_method_5_code 2 (some .char) [] ({ frames := 0, cells := 0, slots := 0, locals := 0 } : Room) #[(.ref t), (.int (Int32.ofNat i))] h0 [] (fun v h' => v = some (.int (nar .char (StrChars.pairCh u u2))) ∧ h' = h0) := by
  refine Con.of a0 (plainFor_of_name own_pn_6) O (fun _ q => nomatch q) [] (fun _ q => nomatch q) ?_
  intro p e s m below meth cdX T S hby hml hret hnm
  refine Go.cast (own_ef_14 m t (Int32.ofNat i)) ?_
  refine S.gets (host := "") 3 (hb hby own_d_jdk_52_method_5_code_0) (Or.inl (Tw hw 92 rfl)) Via.refl (us.1.ext S.old.2) ?_
  intro T84 S85
  refine S85.ifY 28 (hb hby own_d_jdk_52_method_5_code_3) (zNeT (by decide)) ?_
  refine S85.iloadN 29 (hb hby own_d_jdk_52_method_5_code_28) rfl ?_
  refine S85.iconst 30 (1 : Int32) (hb hby own_d_jdk_52_method_5_code_29) ?_
  refine S85.ishl 31 (hb hby own_d_jdk_52_method_5_code_30) ?_
  show Go p e below _ T84 (mkF m 31 #[.val (.ref t), .val (.int (Int32.ofNat i))] [(.int ((Int32.ofNat i) <<< ((1 : Int32) &&& 31)))])
  rw [own_shl1 (by omega)]
  refine S85.istoreN 32 #[.val (.ref t), .val (.int (Int32.ofNat (2 * i)))] (hb hby own_d_jdk_52_method_5_code_31) rfl ?_
  refine S85.aloadN 33 (hb hby own_d_jdk_52_method_5_code_32) rfl rfl ?_
  refine S85.iloadN 34 (hb hby own_d_jdk_52_method_5_code_33) rfl ?_
  refine S85.iinc 37 #[.val (.ref t), .val (.int ((Int32.ofNat (2 * i)) + (1 : Int32)))] (hb hby own_d_jdk_52_method_5_code_34) rfl rfl ?_
  rw [own_inc (by omega)]
  refine S85.baload (v := .int u) 38 (hb hby own_d_jdk_52_method_5_code_37) A (own_in (by omega) (by omega)) (own_getD (by omega) hu) ?_
  refine S85.sipush 41 (255 : Int32) (hb hby own_d_jdk_52_method_5_code_38) ?_
  refine S85.iand 42 (hb hby own_d_jdk_52_method_5_code_41) ?_
  show Go p e below _ T84 (mkF m 42 #[.val (.ref t), .val (.int (Int32.ofNat (2 * i + 1)))] [(.int (u &&& (255 : Int32)))])
  refine S85.gets (host := "") 45 (hb hby own_d_jdk_52_method_5_code_42) (Or.inl (Tw hw 93 rfl)) Via.refl (us.2.1.ext S85.old.2) ?_
  intro T86 S87
  refine S87.ishl 46 (hb hby own_d_jdk_52_method_5_code_45) ?_
  show Go p e below _ T86 (mkF m 46 #[.val (.ref t), .val (.int (Int32.ofNat (2 * i + 1)))] [(.int ((u &&& (255 : Int32)) <<< ((0 : Int32) &&& 31)))])
  refine S87.aloadN 47 (hb hby own_d_jdk_52_method_5_code_46) rfl rfl ?_
  refine S87.iloadN 48 (hb hby own_d_jdk_52_method_5_code_47) rfl ?_
  refine S87.baload (v := .int u2) 49 (hb hby own_d_jdk_52_method_5_code_48) A (own_in (by omega) (by omega)) (own_getD (by omega) hu2) ?_
  refine S87.sipush 52 (255 : Int32) (hb hby own_d_jdk_52_method_5_code_49) ?_
  refine S87.iand 53 (hb hby own_d_jdk_52_method_5_code_52) ?_
  show Go p e below _ T86 (mkF m 53 #[.val (.ref t), .val (.int (Int32.ofNat (2 * i + 1)))] [(.int (u2 &&& (255 : Int32))), (.int ((u &&& (255 : Int32)) <<< ((0 : Int32) &&& 31)))])
  refine S87.gets (host := "") 56 (hb hby own_d_jdk_52_method_5_code_53) (Or.inl (Tw hw 94 rfl)) Via.refl (us.2.2.ext S87.old.2) ?_
  intro T88 S89
  refine S89.ishl 57 (hb hby own_d_jdk_52_method_5_code_56) ?_
  show Go p e below _ T88 (mkF m 57 #[.val (.ref t), .val (.int (Int32.ofNat (2 * i + 1)))] [(.int ((u2 &&& (255 : Int32)) <<< ((8 : Int32) &&& 31))), (.int ((u &&& (255 : Int32)) <<< ((0 : Int32) &&& 31)))])
  refine S89.ior 58 (hb hby own_d_jdk_52_method_5_code_57) ?_
  show Go p e below _ T88 (mkF m 58 #[.val (.ref t), .val (.int (Int32.ofNat (2 * i + 1)))] [(.int (((u &&& (255 : Int32)) <<< ((0 : Int32) &&& 31)) ||| ((u2 &&& (255 : Int32)) <<< ((8 : Int32) &&& 31))))])
  refine S89.i2c 59 (hb hby own_d_jdk_52_method_5_code_58) ?_
  exact S89.retN (t := .char) (hb hby own_d_jdk_52_method_5_code_59) hret (by decide) (by decide) (by decide) ⟨rfl, rfl⟩

theorem own_d_jdk_52_method_83_code_0 : decode jdk_52_method_83_code 0 = .ok (.iload_n 1, 1) := by decide +kernel
theorem own_d_jdk_52_method_83_code_1 : decode jdk_52_method_83_code 1 = .ok (.aload_n 0, 1) := by decide +kernel
theorem own_d_jdk_52_method_83_code_2 : decode jdk_52_method_83_code 2 = .ok (.invokestatic 67, 3) := by decide +kernel
theorem own_pd_15 : parseMethodDescriptor "(I[B)V" = some ⟨[.int, (.array .byte)], none⟩ := by decide +kernel
theorem own_d_jdk_52_method_83_code_5 : decode jdk_52_method_83_code 5 = .ok (.aload_n 0, 1) := by decide +kernel
theorem own_d_jdk_52_method_83_code_6 : decode jdk_52_method_83_code 6 = .ok (.iload_n 1, 1) := by decide +kernel
theorem own_d_jdk_52_method_83_code_7 : decode jdk_52_method_83_code 7 = .ok (.invokestatic 71, 3) := by decide +kernel
theorem own_pd_16 : parseMethodDescriptor "([BI)C" = some ⟨[(.array .byte), .int], some .char⟩ := by decide +kernel
theorem own_d_jdk_52_method_83_code_10 : decode jdk_52_method_83_code 10 = .ok (.ireturn, 1) := by decide +kernel
set_option maxRecDepth 65536 in
set_option maxHeartbeats 4000000 in
theorem own_u16At (l : Launch) (Z : State) (a0 : Array Value) (hw : ∀ d ∈ tables_1, d.before a0 Z = true) (us : U16s Z) (sf : Sfo Z) (h0 : Heap) (n0 : Nat) (O : Old Z n0 h0) (t : Addr) (k : ClassId) (n : Nat) (vs : List Value) (d : Value) (i : Nat) (c0 : Int32) (hn : n ≤ 4000) (A : Arv Z h0 t k .byte (Int32.ofNat (2 * n)) vs d) (hi : i < n) (hc : U16 c0) (hu : vs.getD (2 * i) d = .int (StrChars.lo8 c0)) (hu2 : vs.getD (2 * i + 1) d = .int (StrChars.hi8 c0)) :
    Con l Z n0 (⟨"java/lang/StringUTF16", "charAt", "([BI)C"⟩ : MethodName) jdk_52_method_83_code 2 (some .char) [] ({ frames := 3, cells := 0, slots := 0, locals := 60 } : Room) #[(.ref t), (.int (Int32.ofNat i))] h0 [] (fun v h' => v = some (.int c0) ∧ h' = h0) := by
  refine Con.of a0 (plainFor_of_name own_pn_6) O (fun _ q => nomatch q) [] (fun _ q => nomatch q) ?_
  intro p e s m below meth cdX T S hby hml hret hnm
  refine Go.cast (own_ef_14 m t (Int32.ofNat i)) ?_
  refine S.iloadN 1 (hb hby own_d_jdk_52_method_83_code_0) rfl ?_
  refine S.aloadN 2 (hb hby own_d_jdk_52_method_83_code_1) rfl rfl ?_
  refine S.scall 5 (hb hby own_d_jdk_52_method_83_code_2) (by rw [hml]; rfl) (Tw hw 104 rfl) (Tw hw 105 rfl) (Tw hw 20 rfl) (Tw hw 106 rfl) (by decide) [(.int (Int32.ofNat i)), (.ref t)] [] (Con.pay (W := 0) (own_chkU l Z a0 hw sf h0 n0 S.old t k n vs d i hn A hi) (Tw hw 106 rfl) (Tw hw 20 rfl) (by decide) (by decide)) (lenOf own_pd_15 rfl) rfl (Nle rfl) (by decide) (by decide) Wrs.nil ?_
  intro v90 T91 h92 L93 S94 q95 K96
  obtain ⟨rfl, e_q95⟩ := q95
  obtain rfl := e_q95.symm
  show Go p e below _ T91 (mkF m 5 #[.val (.ref t), .val (.int (Int32.ofNat i))] [])
  refine S94.aloadN 6 (hb hby own_d_jdk_52_method_83_code_5) rfl rfl ?_
  refine S94.iloadN 7 (hb hby own_d_jdk_52_method_83_code_6) rfl ?_
  refine S94.scall 10 (hb hby own_d_jdk_52_method_83_code_7) (by rw [hml]; rfl) (Tw hw 95 rfl) (Tw hw 96 rfl) (Tw hw 20 rfl) (Tw hw 97 rfl) (by decide) [(.ref t), (.int (Int32.ofNat i))] [] (Con.pay (W := 0) (own_getC l Z a0 hw us h0 n0 S94.old t k n vs d i _ _ hn A hi hu hu2) (Tw hw 97 rfl) (Tw hw 20 rfl) (by decide) (by decide)) (lenOf own_pd_16 rfl) rfl (Nle rfl) (by decide) (by decide) Wrs.nil ?_
  intro v97 T98 h99 L100 S101 q102 K103
  rw [StrChars.pair_says hc.1 hc.2, U16.nar hc] at q102
  obtain ⟨rfl, e_q102⟩ := q102
  obtain rfl := e_q102.symm
  show Go p e below _ T98 (mkF m 10 #[.val (.ref t), .val (.int (Int32.ofNat i))] [(.int c0)])
  exact S101.retN (t := .char) (hb hby own_d_jdk_52_method_83_code_10) hret (by decide) (by decide) (by decide) ⟨by rw [U16.nar hc], rfl⟩

theorem own_d_jdk_42_method_56_code_0 : decode jdk_42_method_56_code 0 = .ok (.aload_n 0, 1) := by decide +kernel
theorem own_d_jdk_42_method_56_code_1 : decode jdk_42_method_56_code 1 = .ok (.invokevirtual 492, 3) := by decide +kernel
theorem own_pd_17 : parseMethodDescriptor "()Z" = some ⟨[], some .boolean⟩ := by decide +kernel
theorem own_d_jdk_42_method_56_code_4 : decode jdk_42_method_56_code 4 = .ok (.ifCond .eq 12, 3) := by decide +kernel
theorem own_d_jdk_42_method_56_code_16 : decode jdk_42_method_56_code 16 = .ok (.aload_n 0, 1) := by decide +kernel
theorem own_d_jdk_42_method_56_code_17 : decode jdk_42_method_56_code 17 = .ok (.getfield 9, 3) := by decide +kernel
theorem own_d_jdk_42_method_56_code_20 : decode jdk_42_method_56_code 20 = .ok (.iload_n 1, 1) := by decide +kernel
theorem own_d_jdk_42_method_56_code_21 : decode jdk_42_method_56_code 21 = .ok (.invokestatic 498, 3) := by decide +kernel
theorem own_d_jdk_42_method_56_code_24 : decode jdk_42_method_56_code 24 = .ok (.ireturn, 1) := by decide +kernel
set_option maxRecDepth 65536 in
set_option maxHeartbeats 4000000 in
theorem own_ch16 (l : Launch) (Z : State) (a0 : Array Value) (hw : ∀ d ∈ tables_1, d.before a0 Z = true) (cm : Com Z) (us : U16s Z) (sf : Sfo Z) (h0 : Heap) (n0 : Nat) (O : Old Z n0 h0) (x : Addr) (t : Addr) (k : ClassId) (n : Nat) (vs : List Value) (d : Value) (i : Nat) (c0 : Int32) (E : Exa Z h0 x "java/lang/String") (FV : Fld Z h0 x "java/lang/String" "value" "[B" (.ref t)) (FC : Fld Z h0 x "java/lang/String" "coder" "B" (.int 1)) (hn : n ≤ 4000) (A : Arv Z h0 t k .byte (Int32.ofNat (2 * n)) vs d) (hi : i < n) (hc : U16 c0) (hu : vs.getD (2 * i) d = .int (StrChars.lo8 c0)) (hu2 : vs.getD (2 * i + 1) d = .int (StrChars.hi8 c0)) :
    Con l Z n0 (⟨"java/lang/String", "charAt", "(I)C"⟩ : MethodName) jdk_42_method_56_code 2 (some .char) [] ({ frames := 4, cells := 0, slots := 0, locals := 80 } : Room) #[(.ref x), (.int (Int32.ofNat i))] h0 [] (fun v h' => v = some (.int c0) ∧ h' = h0) := by
  refine Con.of a0 (plainFor_of_name own_pn_2) O (fun _ q => nomatch q) [] (fun _ q => nomatch q) ?_
  intro p e s m below meth cdX T S hby hml hret hnm
  refine Go.cast (own_ef_14 m x (Int32.ofNat i)) ?_
  refine S.aloadN 1 (hb hby own_d_jdk_42_method_56_code_0) rfl rfl ?_
  refine S.vcall 4 (hb hby own_d_jdk_42_method_56_code_1) (by rw [hml]; rfl) (Tw hw 52 rfl) (Tw hw 53 rfl) (Tw hw 55 rfl) (Tw hw 54 rfl) (nfSel (Tw hw 55 rfl)) (by decide) E [] [] (Con.pay (W := 0) (own_isL1 l Z a0 hw cm h0 n0 S.old x FC) (Tw hw 56 rfl) (Tw hw 6 rfl) (by decide) (by decide)) (lenOf own_pd_17 rfl) rfl (Nle rfl) (by decide) (by decide) Wrs.nil ?_
  intro v104 T105 h106 L107 S108 q109 K110
  obtain ⟨rfl, e_q109⟩ := q109
  obtain rfl := e_q109.symm
  show Go p e below _ T105 (mkF m 4 #[.val (.ref x), .val (.int (Int32.ofNat i))] [(.int (0 : Int32))])
  refine S108.ifY 16 (hb hby own_d_jdk_42_method_56_code_4) (zEqT (by decide)) ?_
  refine S108.aloadN 17 (hb hby own_d_jdk_42_method_56_code_16) rfl rfl ?_
  refine S108.getf (host := "") 20 (hb hby own_d_jdk_42_method_56_code_17) (Or.inl (Tw hw 31 rfl)) Via.refl FV ?_
  intro T111 S112
  refine S112.iloadN 21 (hb hby own_d_jdk_42_method_56_code_20) rfl ?_
  refine S112.scall 24 (hb hby own_d_jdk_42_method_56_code_21) (by rw [hml]; rfl) (Tw hw 101 rfl) (Tw hw 102 rfl) (Tw hw 20 rfl) (Tw hw 103 rfl) (by decide) [(.ref t), (.int (Int32.ofNat i))] [] (Con.pay (W := 0) (own_u16At l Z a0 hw us sf h0 n0 S112.old t k n vs d i c0 hn A hi hc hu hu2) (Tw hw 103 rfl) (Tw hw 20 rfl) (by decide) (by decide)) (lenOf own_pd_16 rfl) rfl (Nle rfl) (by decide) (by decide) Wrs.nil ?_
  intro v113 T114 h115 L116 S117 q118 K119
  obtain ⟨rfl, e_q118⟩ := q118
  obtain rfl := e_q118.symm
  show Go p e below _ T114 (mkF m 24 #[.val (.ref x), .val (.int (Int32.ofNat i))] [(.int c0)])
  exact S117.retN (t := .char) (hb hby own_d_jdk_42_method_56_code_24) hret (by decide) (by decide) (by decide) ⟨by rw [U16.nar hc], rfl⟩

theorem payChA {a0 : Array Value} {p : Program} {l : Launch} {e : Env} {R : Room} {args : Array Value} {below : List Frame} {Z s : State} {n0 : Nat} {h : Heap} {x t : Addr} {cs : List Int32} {W : Nat} (hw : ∀ d ∈ tables_1, d.before a0 Z = true) (cm : Com Z) (us : U16s Z) (sf : Sfo Z) (O : Old Z n0 h) (F : StrA Z h x t cs) {i : Nat} {j : Int32} (hi : i < cs.length) (hj : j = Int32.ofNat i) (hfr : 5 ≤ R.frames) (hlo : W + 93 ≤ R.locals) :
    Pay l R p e below args Z s n0 ⟨"java/lang/String", "charAt", "(I)C"⟩ 3 W #[.ref x, .int j] h [] 0 0 (fun v h' => v = some (.int (cs.getD i 0)) ∧ h' = h) := by
  obtain ⟨⟨kb, cd, N, vs, f1, f2, f3, f4, f7⟩, f5, f6⟩ := F
  rcases f7 with ⟨rfl, rfl, rfl, f8⟩ | ⟨rfl, rfl, rfl, f8⟩
  · have hp : ∀ c ∈ cs, ¬ c < 0 ∧ ¬ (255 : Int32) < c := fun c hc => ⟨(f5 c hc).1, f8 c hc⟩
    have S : Str Z h x t cs := ⟨⟨kb, f1, f2, f3, by rw [List.map_map]; exact f4⟩, hp, f6⟩
    exact payCh hw (Tw hw 5 rfl) cm sf O S hi hj (by omega) (by omega)
  · subst hj
    have e : cs.getD i 0 = cs[i] := by simp [List.getD_eq_getElem?_getD, hi]
    exact Con.pay (own_ch16 l Z a0 hw cm us sf h n0 O x t kb cs.length (StrChars.Road.wideBytes cs) (.int 0) i (cs.getD i 0) f1 f2 f3 f6 f4 hi (by rw [e]; exact f5 _ (List.getElem_mem _)) (StrChars.Road.wide_lo _ cs i hi) (StrChars.Road.wide_hi _ cs i hi)) (Tw hw 51 rfl) (Tw hw 6 rfl) (by show 4 + 1 ≤ _; omega) (by show W + (2 + 11) + 80 ≤ _; omega)
theorem own_ef_18 (m : MethodId) (x0 : Int32) : entryFrame m #[(.int x0)] 1 = mkF m 0 #[.val (.int x0)] [] := by rfl
theorem own_d_jdk_52_method_3_code_0 : decode jdk_52_method_3_code 0 = .ok (.iload_n 0, 1) := by decide +kernel
theorem own_d_jdk_52_method_3_code_1 : decode jdk_52_method_3_code 1 = .ok (.ifCond .ge 11, 3) := by decide +kernel
theorem own_d_jdk_52_method_3_code_12 : decode jdk_52_method_3_code 12 = .ok (.iload_n 0, 1) := by decide +kernel
theorem own_d_jdk_52_method_3_code_13 : decode jdk_52_method_3_code 13 = .ok (.ldc 20, 2) := by decide +kernel
theorem own_d_jdk_52_method_3_code_15 : decode jdk_52_method_3_code 15 = .ok (.if_icmp .lt 40, 3) := by decide +kernel
theorem own_d_jdk_52_method_3_code_55 : decode jdk_52_method_3_code 55 = .ok (.iload_n 0, 1) := by decide +kernel
theorem own_d_jdk_52_method_3_code_56 : decode jdk_52_method_3_code 56 = .ok (.iconst 1, 1) := by decide +kernel
theorem own_d_jdk_52_method_3_code_57 : decode jdk_52_method_3_code 57 = .ok (.ishl, 1) := by decide +kernel
theorem own_d_jdk_52_method_3_code_58 : decode jdk_52_method_3_code 58 = .ok (.ireturn, 1) := by decide +kernel
set_option maxRecDepth 65536 in
set_option maxHeartbeats 4000000 in
theorem own_nbl (l : Launch) (Z : State) (a0 : Array Value) (hw : ∀ d ∈ tables_1, d.before a0 Z = true) (h0 : Heap) (n0 : Nat) (O : Old Z n0 h0) (n : Nat) (hn : n ≤ 4000) :
    Con l Z n0 (⟨"java/lang/StringUTF16", "newBytesLength", "(I)I"⟩ : MethodName) jdk_52_method_3_code 1 (some .int) [] ({ frames := 0, cells := 0, slots := 0, locals := 0 } : Room) #[(.int (Int32.ofNat n))] h0 [] (fun v h' => v = some (.int (Int32.ofNat (2 * n))) ∧ h' = h0) := by
  refine Con.of a0 (plainFor_of_name own_pn_6) O (fun _ q => nomatch q) [] (fun _ q => nomatch q) ?_
  intro p e s m below meth cdX T S hby hml hret hnm
  refine Go.cast (own_ef_18 m (Int32.ofNat n)) ?_
  refine S.iloadN 1 (hb hby own_d_jdk_52_method_3_code_0) rfl ?_
  refine S.ifY 12 (hb hby own_d_jdk_52_method_3_code_1) (zGeT (own_clamp (own_nat (by omega))).2) ?_
  refine S.iloadN 13 (hb hby own_d_jdk_52_method_3_code_12) rfl ?_
  refine S.ldcI 15 (hb hby own_d_jdk_52_method_3_code_13) (Tw hw 88 rfl) ?_
  refine S.icmpY 55 (hb hby own_d_jdk_52_method_3_code_15) (qLtT (own_ltN (n := 1073741823) (by omega) (by omega))) ?_
  refine S.iloadN 56 (hb hby own_d_jdk_52_method_3_code_55) rfl ?_
  refine S.iconst 57 (1 : Int32) (hb hby own_d_jdk_52_method_3_code_56) ?_
  refine S.ishl 58 (hb hby own_d_jdk_52_method_3_code_57) ?_
  show Go p e below _ T (mkF m 58 #[.val (.int (Int32.ofNat n))] [(.int ((Int32.ofNat n) <<< ((1 : Int32) &&& 31)))])
  rw [own_shl1 (by omega)]
  exact S.retI (hb hby own_d_jdk_52_method_3_code_58) hret (by decide) (by decide) ⟨rfl, rfl⟩

theorem own_nar8b (z : Int32) : nar .byte z.toInt8.toInt32 = z.toInt8.toInt32 := by
  show z.toInt8.toInt32.toInt8.toInt32 = z.toInt8.toInt32
  rw [Int8.toInt8_toInt32]
theorem own_ef_19 (m : MethodId) (x0 : Addr) (x1 : Int32) (x2 : Int32) : entryFrame m #[(.ref x0), (.int x1), (.int x2)] 3 = mkF m 0 #[.val (.ref x0), .val (.int x1), .val (.int x2)] [] := by rfl
theorem own_d_jdk_52_method_4_code_0 : decode jdk_52_method_4_code 0 = .ok (.getstatic 44, 3) := by decide +kernel
theorem own_d_jdk_52_method_4_code_3 : decode jdk_52_method_4_code 3 = .ok (.ifCond .ne 25, 3) := by decide +kernel
theorem own_d_jdk_52_method_4_code_28 : decode jdk_52_method_4_code 28 = .ok (.iload_n 1, 1) := by decide +kernel
theorem own_d_jdk_52_method_4_code_29 : decode jdk_52_method_4_code 29 = .ok (.iconst 1, 1) := by decide +kernel
theorem own_d_jdk_52_method_4_code_30 : decode jdk_52_method_4_code 30 = .ok (.ishl, 1) := by decide +kernel
theorem own_d_jdk_52_method_4_code_31 : decode jdk_52_method_4_code 31 = .ok (.istore_n 1, 1) := by decide +kernel
theorem own_d_jdk_52_method_4_code_32 : decode jdk_52_method_4_code 32 = .ok (.aload_n 0, 1) := by decide +kernel
theorem own_d_jdk_52_method_4_code_33 : decode jdk_52_method_4_code 33 = .ok (.iload_n 1, 1) := by decide +kernel
theorem own_d_jdk_52_method_4_code_34 : decode jdk_52_method_4_code 34 = .ok (.iinc 1 1, 3) := by decide +kernel
theorem own_d_jdk_52_method_4_code_37 : decode jdk_52_method_4_code 37 = .ok (.iload_n 2, 1) := by decide +kernel
theorem own_d_jdk_52_method_4_code_38 : decode jdk_52_method_4_code 38 = .ok (.getstatic 59, 3) := by decide +kernel
theorem own_d_jdk_52_method_4_code_41 : decode jdk_52_method_4_code 41 = .ok (.ishr, 1) := by decide +kernel
theorem own_d_jdk_52_method_4_code_42 : decode jdk_52_method_4_code 42 = .ok (.i2b, 1) := by decide +kernel
theorem own_d_jdk_52_method_4_code_43 : decode jdk_52_method_4_code 43 = .ok (.bastore, 1) := by decide +kernel
theorem own_d_jdk_52_method_4_code_44 : decode jdk_52_method_4_code 44 = .ok (.aload_n 0, 1) := by decide +kernel
theorem own_d_jdk_52_method_4_code_45 : decode jdk_52_method_4_code 45 = .ok (.iload_n 1, 1) := by decide +kernel
theorem own_d_jdk_52_method_4_code_46 : decode jdk_52_method_4_code 46 = .ok (.iload_n 2, 1) := by decide +kernel
theorem own_d_jdk_52_method_4_code_47 : decode jdk_52_method_4_code 47 = .ok (.getstatic 63, 3) := by decide +kernel
theorem own_d_jdk_52_method_4_code_50 : decode jdk_52_method_4_code 50 = .ok (.ishr, 1) := by decide +kernel
theorem own_d_jdk_52_method_4_code_51 : decode jdk_52_method_4_code 51 = .ok (.i2b, 1) := by decide +kernel
theorem own_d_jdk_52_method_4_code_52 : decode jdk_52_method_4_code 52 = .ok (.bastore, 1) := by decide +kernel
theorem own_d_jdk_52_method_4_code_53 : decode jdk_52_method_4_code 53 = .ok (.return_, 1) := by decide +kernel
set_option maxRecDepth 65536 in
set_option maxHeartbeats 4000000 in
theorem own_put (l : Launch) (Z : State) (a0 : Array Value) (hw : ∀ d ∈ tables_1, d.before a0 Z = true) (us : U16s Z) (h0 : Heap) (n0 : Nat) (O : Old Z n0 h0) (t : Addr) (k : ClassId) (n : Nat) (vs : List Value) (d : Value) (i : Nat) (c0 : Int32) (ge_t : n0 ≤ t) (hn : n ≤ 4000) (hi : i < n) (hl : vs.length = 2 * n) (A : Arv Z h0 t k .byte (Int32.ofNat (2 * n)) vs d) :
    Con l Z n0 (⟨"java/lang/StringUTF16", "putChar", "([BII)V"⟩ : MethodName) jdk_52_method_4_code 3 none [] ({ frames := 0, cells := 0, slots := 0, locals := 0 } : Room) #[(.ref t), (.int (Int32.ofNat i)), (.int c0)] h0 [t] (fun v h' => v = none ∧ Arv Z h' t k .byte (Int32.ofNat (2 * n)) ((vs.set (2 * i) (.int (StrChars.lo8 c0))).set (2 * i + 1) (.int (StrChars.hi8 c0))) d) := by
  refine Con.of a0 (plainFor_of_name own_pn_6) O (by simp [ge_t]) [t] (by simp [A.lt]) ?_
  intro p e s m below meth cdX T S hby hml hret hnm
  refine Go.cast (own_ef_19 m t (Int32.ofNat i) c0) ?_
  refine S.gets (host := "") 3 (hb hby own_d_jdk_52_method_4_code_0) (Or.inl (Tw hw 92 rfl)) Via.refl (us.1.ext S.old.2) ?_
  intro T120 S121
  refine S121.ifY 28 (hb hby own_d_jdk_52_method_4_code_3) (zNeT (by decide)) ?_
  refine S121.iloadN 29 (hb hby own_d_jdk_52_method_4_code_28) rfl ?_
  refine S121.iconst 30 (1 : Int32) (hb hby own_d_jdk_52_method_4_code_29) ?_
  refine S121.ishl 31 (hb hby own_d_jdk_52_method_4_code_30) ?_
  show Go p e below _ T120 (mkF m 31 #[.val (.ref t), .val (.int (Int32.ofNat i)), .val (.int c0)] [(.int ((Int32.ofNat i) <<< ((1 : Int32) &&& 31)))])
  rw [own_shl1 (by omega)]
  refine S121.istoreN 32 #[.val (.ref t), .val (.int (Int32.ofNat (2 * i))), .val (.int c0)] (hb hby own_d_jdk_52_method_4_code_31) rfl ?_
  refine S121.aloadN 33 (hb hby own_d_jdk_52_method_4_code_32) rfl rfl ?_
  refine S121.iloadN 34 (hb hby own_d_jdk_52_method_4_code_33) rfl ?_
  refine S121.iinc 37 #[.val (.ref t), .val (.int ((Int32.ofNat (2 * i)) + (1 : Int32))), .val (.int c0)] (hb hby own_d_jdk_52_method_4_code_34) rfl rfl ?_
  rw [own_inc (by omega)]
  refine S121.iloadN 38 (hb hby own_d_jdk_52_method_4_code_37) rfl ?_
  refine S121.gets (host := "") 41 (hb hby own_d_jdk_52_method_4_code_38) (Or.inl (Tw hw 93 rfl)) Via.refl (us.2.1.ext S121.old.2) ?_
  intro T122 S123
  refine S123.ishr 42 (hb hby own_d_jdk_52_method_4_code_41) ?_
  show Go p e below _ T122 (mkF m 42 #[.val (.ref t), .val (.int (Int32.ofNat (2 * i + 1))), .val (.int c0)] [(.int (c0 >>> ((0 : Int32) &&& 31))), (.int (Int32.ofNat (2 * i))), (.ref t)])
  rw [StrChars.shr0]
  refine S123.i2b 43 (hb hby own_d_jdk_52_method_4_code_42) ?_
  refine S123.bastore 44 (2 * i) (hb hby own_d_jdk_52_method_4_code_43) A (own_in (by omega) (by omega)) (own_clamp (own_nat (by omega))).1 (by omega) (Or.inl (by simp)) (by simp) ?_
  intro T124 h125 L126 S127 W128 A129
  have f130 : Arv Z h125 t k .byte (Int32.ofNat (2 * n)) (vs.set (2 * i) (.int (StrChars.lo8 c0))) d := by rw [own_nar8b] at A129; exact A129
  refine S127.aloadN 45 (hb hby own_d_jdk_52_method_4_code_44) rfl rfl ?_
  refine S127.iloadN 46 (hb hby own_d_jdk_52_method_4_code_45) rfl ?_
  refine S127.iloadN 47 (hb hby own_d_jdk_52_method_4_code_46) rfl ?_
  refine S127.gets (host := "") 50 (hb hby own_d_jdk_52_method_4_code_47) (Or.inl (Tw hw 94 rfl)) Via.refl (us.2.2.ext S127.old.2) ?_
  intro T131 S132
  refine S132.ishr 51 (hb hby own_d_jdk_52_method_4_code_50) ?_
  show Go p e below _ T131 (mkF m 51 #[.val (.ref t), .val (.int (Int32.ofNat (2 * i + 1))), .val (.int c0)] [(.int (c0 >>> ((8 : Int32) &&& 31))), (.int (Int32.ofNat (2 * i + 1))), (.ref t)])
  refine S132.i2b 52 (hb hby own_d_jdk_52_method_4_code_51) ?_
  refine S132.bastore 53 (2 * i + 1) (hb hby own_d_jdk_52_method_4_code_52) f130 (own_in (by omega) (by omega)) (own_clamp (own_nat (by omega))).1 (by rw [List.length_set]; omega) (Or.inl (by simp)) (by simp) ?_
  intro T133 h134 L135 S136 W137 A138
  have f139 : Arv Z h134 t k .byte (Int32.ofNat (2 * n)) ((vs.set (2 * i) (.int (StrChars.lo8 c0))).set (2 * i + 1) (.int (StrChars.hi8 c0))) d := by rw [own_nar8b] at A138; exact A138
  exact S136.ret0 (hb hby own_d_jdk_52_method_4_code_53) hret (by decide) (by decide) ⟨rfl, f139⟩

theorem own_ef_20 (m : MethodId) (x0 : Addr) (x1 : Int32) (x2 : Addr) (x3 : Int32) (x4 : Int32) : entryFrame m #[(.ref x0), (.int x1), (.ref x2), (.int x3), (.int x4)] 7 = mkF m 0 #[.val (.ref x0), .val (.int x1), .val (.ref x2), .val (.int x3), .val (.int x4), .unset, .unset] [] := by rfl
theorem own_d_jdk_52_method_21_code_0 : decode jdk_52_method_21_code 0 = .ok (.iconst 0, 1) := by decide +kernel
theorem own_d_jdk_52_method_21_code_1 : decode jdk_52_method_21_code 1 = .ok (.istore 5, 2) := by decide +kernel
theorem own_d_jdk_52_method_21_code_3 : decode jdk_52_method_21_code 3 = .ok (.iload 5, 2) := by decide +kernel
theorem own_d_jdk_52_method_21_code_5 : decode jdk_52_method_21_code 5 = .ok (.iload 4, 2) := by decide +kernel
theorem own_d_jdk_52_method_21_code_7 : decode jdk_52_method_21_code 7 = .ok (.if_icmp .ge 37, 3) := by decide +kernel
theorem own_d_jdk_52_method_21_code_10 : decode jdk_52_method_21_code 10 = .ok (.aload_n 0, 1) := by decide +kernel
theorem own_d_jdk_52_method_21_code_11 : decode jdk_52_method_21_code 11 = .ok (.iload_n 1, 1) := by decide +kernel
theorem own_d_jdk_52_method_21_code_12 : decode jdk_52_method_21_code 12 = .ok (.caload, 1) := by decide +kernel
theorem own_d_jdk_52_method_21_code_13 : decode jdk_52_method_21_code 13 = .ok (.istore 6, 2) := by decide +kernel
theorem own_d_jdk_52_method_21_code_15 : decode jdk_52_method_21_code 15 = .ok (.iload 6, 2) := by decide +kernel
theorem own_d_jdk_52_method_21_code_17 : decode jdk_52_method_21_code 17 = .ok (.sipush 255, 3) := by decide +kernel
theorem own_d_jdk_52_method_21_code_20 : decode jdk_52_method_21_code 20 = .ok (.if_icmp .le 6, 3) := by decide +kernel
theorem own_d_jdk_52_method_21_code_23 : decode jdk_52_method_21_code 23 = .ok (.iload 5, 2) := by decide +kernel
theorem own_d_jdk_52_method_21_code_25 : decode jdk_52_method_21_code 25 = .ok (.ireturn, 1) := by decide +kernel
set_option maxRecDepth 65536 in
set_option maxHeartbeats 4000000 in
theorem own_cmp5_1_0 (l : Launch) (Z : State) (a0 : Array Value) (hw : ∀ d ∈ tables_1, d.before a0 Z = true) (h0 : Heap) (n0 : Nat) (O : Old Z n0 h0) (b : Addr) (kc : ClassId) (dc : Value) (t : Addr) (kt : ClassId) (c0 : Int32) (ge_t : n0 ≤ t) (A : Arv Z h0 b kc .char (1 : Int32) [(.int c0)] dc) (B : Arv Z h0 t kt .byte (1 : Int32) [(.int 0)] (.int 0)) (hne : b ≠ t) (g0 : (255 : Int32) < c0) :
    Con l Z n0 (⟨"java/lang/StringUTF16", "compress", "([CI[BII)I"⟩ : MethodName) jdk_52_method_21_code 7 (some .int) [] ({ frames := 0, cells := 0, slots := 0, locals := 0 } : Room) #[(.ref b), (.int (0 : Int32)), (.ref t), (.int (0 : Int32)), (.int (1 : Int32))] h0 [t] (fun v h' => v = some (.int 0)) := by
  refine Con.of a0 (plainFor_of_name own_pn_6) O (by simp [ge_t]) [t] (by simp [B.lt]) ?_
  intro p e s m below meth cdX T S hby hml hret hnm
  refine Go.cast (own_ef_20 m b (0 : Int32) t (0 : Int32) (1 : Int32)) ?_
  refine S.iconst 1 (0 : Int32) (hb hby own_d_jdk_52_method_21_code_0) ?_
  refine S.istore 3 #[.val (.ref b), .val (.int (0 : Int32)), .val (.ref t), .val (.int (0 : Int32)), .val (.int (1 : Int32)), .val (.int (0 : Int32)), .unset] (hb hby own_d_jdk_52_method_21_code_1) rfl ?_
  refine S.iload 5 (hb hby own_d_jdk_52_method_21_code_3) rfl ?_
  refine S.iload 7 (hb hby own_d_jdk_52_method_21_code_5) rfl ?_
  refine S.icmpN 10 (hb hby own_d_jdk_52_method_21_code_7) (qGeF (by decide)) ?_
  refine S.aloadN 11 (hb hby own_d_jdk_52_method_21_code_10) rfl rfl ?_
  refine S.iloadN 12 (hb hby own_d_jdk_52_method_21_code_11) rfl ?_
  refine S.caload (v := .int c0) 13 (hb hby own_d_jdk_52_method_21_code_12) A ⟨by decide, by decide⟩ rfl ?_
  refine S.istore 15 #[.val (.ref b), .val (.int (0 : Int32)), .val (.ref t), .val (.int (0 : Int32)), .val (.int (1 : Int32)), .val (.int (0 : Int32)), .val (.int c0)] (hb hby own_d_jdk_52_method_21_code_13) rfl ?_
  refine S.iload 17 (hb hby own_d_jdk_52_method_21_code_15) rfl ?_
  refine S.sipush 20 (255 : Int32) (hb hby own_d_jdk_52_method_21_code_17) ?_
  refine S.icmpN 23 (hb hby own_d_jdk_52_method_21_code_20) (qLeF g0) ?_
  refine S.iload 25 (hb hby own_d_jdk_52_method_21_code_23) rfl ?_
  exact S.retI (hb hby own_d_jdk_52_method_21_code_25) hret (by decide) (by decide) rfl

theorem own_d_jdk_52_method_2_code_0 : decode jdk_52_method_2_code 0 = .ok (.iload_n 0, 1) := by decide +kernel
theorem own_d_jdk_52_method_2_code_1 : decode jdk_52_method_2_code 1 = .ok (.invokestatic 11, 3) := by decide +kernel
theorem own_pd_21 : parseMethodDescriptor "(I)I" = some ⟨[.int], some .int⟩ := by decide +kernel
theorem own_d_jdk_52_method_2_code_4 : decode jdk_52_method_2_code 4 = .ok (.newarray .byte, 2) := by decide +kernel
theorem own_d_jdk_52_method_2_code_6 : decode jdk_52_method_2_code 6 = .ok (.areturn, 1) := by decide +kernel
set_option maxRecDepth 65536 in
set_option maxHeartbeats 4000000 in
theorem own_nbf_1 (l : Launch) (Z : State) (a0 : Array Value) (hw : ∀ d ∈ tables_1, d.before a0 Z = true) (h0 : Heap) (n0 : Nat) (O : Old Z n0 h0) :
    Con l Z n0 (⟨"java/lang/StringUTF16", "newBytesFor", "(I)[B"⟩ : MethodName) jdk_52_method_2_code 1 (some (.array .byte)) [] ({ frames := 1, cells := 1, slots := 2, locals := 20 } : Room) #[(.int (1 : Int32))] h0 [] (fun v h' => ∃ t kb, v = some (.ref t) ∧ h0.size ≤ t ∧ Arv Z h' t kb .byte (2 : Int32) [(.int 0), (.int 0)] (.int 0)) := by
  refine Con.of a0 (plainFor_of_name own_pn_6) O (fun _ q => nomatch q) [] (fun _ q => nomatch q) ?_
  intro p e s m below meth cdX T S hby hml hret hnm
  refine Go.cast (own_ef_18 m (1 : Int32)) ?_
  refine S.iloadN 1 (hb hby own_d_jdk_52_method_2_code_0) rfl ?_
  refine S.scall 4 (hb hby own_d_jdk_52_method_2_code_1) (by rw [hml]; rfl) (Tw hw 85 rfl) (Tw hw 86 rfl) (Tw hw 20 rfl) (Tw hw 87 rfl) (by decide) [(.int (1 : Int32))] [] (Con.pay (W := 0) (own_nbl l Z a0 hw h0 n0 S.old 1 (by decide)) (Tw hw 87 rfl) (Tw hw 20 rfl) (by decide) (by decide)) (lenOf own_pd_21 rfl) rfl (Nle rfl) (by decide) (by decide) Wrs.nil ?_
  intro v140 T141 h142 L143 S144 q145 K146
  obtain ⟨rfl, e_q145⟩ := q145
  obtain rfl := e_q145.symm
  show Go p e below _ T141 (mkF m 4 #[.val (.int (1 : Int32))] [(.int (2 : Int32))])
  refine S144.newarr 6 2 (hb hby own_d_jdk_52_method_2_code_4) (Tw hw 22 rfl) (by decide) (by decide) (by decide) (by decide) (by decide) ?_
  intro T147 h148 b149 k150 S151 E152 g153 wo154 A155
  have f156 : Arv Z h148 b149 k150 .byte (2 : Int32) [(.int (0 : Int32)), (.int (0 : Int32))] (.int (0 : Int32)) := A155.pad (pad_rep [] (.int (0 : Int32)) 2)
  exact S151.retA (hb hby own_d_jdk_52_method_2_code_6) hret rfl rfl (by decide) (by decide) ⟨_, _, rfl, (by rcases wo154 with z | z; exact absurd z List.not_mem_nil; exact z), f156⟩

theorem own_ef_22 (m : MethodId) (x0 : Addr) (x1 : Int32) (x2 : Int32) : entryFrame m #[(.ref x0), (.int x1), (.int x2)] 5 = mkF m 0 #[.val (.ref x0), .val (.int x1), .val (.int x2), .unset, .unset] [] := by rfl
theorem own_d_jdk_52_method_14_code_0 : decode jdk_52_method_14_code 0 = .ok (.iload_n 2, 1) := by decide +kernel
theorem own_d_jdk_52_method_14_code_1 : decode jdk_52_method_14_code 1 = .ok (.invokestatic 107, 3) := by decide +kernel
theorem own_pd_23 : parseMethodDescriptor "(I)[B" = some ⟨[.int], some (.array .byte)⟩ := by decide +kernel
theorem own_d_jdk_52_method_14_code_4 : decode jdk_52_method_14_code 4 = .ok (.astore_n 3, 1) := by decide +kernel
theorem own_d_jdk_52_method_14_code_5 : decode jdk_52_method_14_code 5 = .ok (.iconst 0, 1) := by decide +kernel
theorem own_d_jdk_52_method_14_code_6 : decode jdk_52_method_14_code 6 = .ok (.istore 4, 2) := by decide +kernel
theorem own_d_jdk_52_method_14_code_8 : decode jdk_52_method_14_code 8 = .ok (.iload 4, 2) := by decide +kernel
theorem own_d_jdk_52_method_14_code_10 : decode jdk_52_method_14_code 10 = .ok (.iload_n 2, 1) := by decide +kernel
theorem own_d_jdk_52_method_14_code_11 : decode jdk_52_method_14_code 11 = .ok (.if_icmp .ge 21, 3) := by decide +kernel
theorem own_d_jdk_52_method_14_code_14 : decode jdk_52_method_14_code 14 = .ok (.aload_n 3, 1) := by decide +kernel
theorem own_d_jdk_52_method_14_code_15 : decode jdk_52_method_14_code 15 = .ok (.iload 4, 2) := by decide +kernel
theorem own_d_jdk_52_method_14_code_17 : decode jdk_52_method_14_code 17 = .ok (.aload_n 0, 1) := by decide +kernel
theorem own_d_jdk_52_method_14_code_18 : decode jdk_52_method_14_code 18 = .ok (.iload_n 1, 1) := by decide +kernel
theorem own_d_jdk_52_method_14_code_19 : decode jdk_52_method_14_code 19 = .ok (.caload, 1) := by decide +kernel
theorem own_d_jdk_52_method_14_code_20 : decode jdk_52_method_14_code 20 = .ok (.invokestatic 111, 3) := by decide +kernel
theorem own_pd_24 : parseMethodDescriptor "([BII)V" = some ⟨[(.array .byte), .int, .int], none⟩ := by decide +kernel
theorem own_d_jdk_52_method_14_code_23 : decode jdk_52_method_14_code 23 = .ok (.iinc 1 1, 3) := by decide +kernel
theorem own_d_jdk_52_method_14_code_26 : decode jdk_52_method_14_code 26 = .ok (.iinc 4 1, 3) := by decide +kernel
theorem own_d_jdk_52_method_14_code_29 : decode jdk_52_method_14_code 29 = .ok (.goto (-21), 3) := by decide +kernel
theorem own_d_jdk_52_method_14_code_32 : decode jdk_52_method_14_code 32 = .ok (.aload_n 3, 1) := by decide +kernel
theorem own_d_jdk_52_method_14_code_33 : decode jdk_52_method_14_code 33 = .ok (.areturn, 1) := by decide +kernel
set_option maxRecDepth 65536 in
set_option maxHeartbeats 4000000 in
theorem own_toB16_1 (l : Launch) (Z : State) (a0 : Array Value) (hw : ∀ d ∈ tables_1, d.before a0 Z = true) (us : U16s Z) (h0 : Heap) (n0 : Nat) (O : Old Z n0 h0) (b : Addr) (kc : ClassId) (dc : Value) (c0 : Int32) (A : Arv Z h0 b kc .char (1 : Int32) [(.int c0)] dc) (u0 : U16 c0) :
    Con l Z n0 (⟨"java/lang/StringUTF16", "toBytes", "([CII)[B"⟩ : MethodName) jdk_52_method_14_code 5 (some (.array .byte)) [] ({ frames := 2, cells := 1, slots := 2, locals := 40 } : Room) #[(.ref b), (.int (0 : Int32)), (.int (1 : Int32))] h0 [] (fun v h' => ∃ t kb, v = some (.ref t) ∧ h0.size ≤ t ∧ Arv Z h' t kb .byte (2 : Int32) (StrChars.Road.wideBytes ([c0] : List Int32)) (.int 0)) := by
  refine Con.of a0 (plainFor_of_name own_pn_6) O (fun _ q => nomatch q) [] (fun _ q => nomatch q) ?_
  intro p e s m below meth cdX T S hby hml hret hnm
  refine Go.cast (own_ef_22 m b (0 : Int32) (1 : Int32)) ?_
  refine S.iloadN 1 (hb hby own_d_jdk_52_method_14_code_0) rfl ?_
  refine S.scall 4 (hb hby own_d_jdk_52_method_14_code_1) (by rw [hml]; rfl) (Tw hw 82 rfl) (Tw hw 83 rfl) (Tw hw 20 rfl) (Tw hw 84 rfl) (by decide) [(.int (1 : Int32))] [] (Con.pay (W := 0) (own_nbf_1 l Z a0 hw h0 n0 S.old) (Tw hw 84 rfl) (Tw hw 20 rfl) (by decide) (by decide)) (lenOf own_pd_23 rfl) rfl (Nle rfl) (by decide) (by decide) Wrs.nil ?_
  intro v157 T158 h159 L160 S161 q162 K163
  obtain ⟨t164, kb165, rfl, g166, A167⟩ := q162
  have l168 : b < t164 := Nat.lt_of_lt_of_le A.lt g166
  have wo169 : Wok n0 h0 [] t164 := Or.inr g166
  have S170 := S161.addF A167.lt
  show Go p e below _ T158 (mkF m 4 #[.val (.ref b), .val (.int (0 : Int32)), .val (.int (1 : Int32)), .unset, .unset] [(.ref t164)])
  refine S170.astoreN 5 #[.val (.ref b), .val (.int (0 : Int32)), .val (.int (1 : Int32)), .val (.ref t164), .unset] (hb hby own_d_jdk_52_method_14_code_4) rfl rfl ?_
  refine S170.iconst 6 (0 : Int32) (hb hby own_d_jdk_52_method_14_code_5) ?_
  refine S170.istore 8 #[.val (.ref b), .val (.int (0 : Int32)), .val (.int (1 : Int32)), .val (.ref t164), .val (.int (0 : Int32))] (hb hby own_d_jdk_52_method_14_code_6) rfl ?_
  refine S170.iload 10 (hb hby own_d_jdk_52_method_14_code_8) rfl ?_
  refine S170.iloadN 11 (hb hby own_d_jdk_52_method_14_code_10) rfl ?_
  refine S170.icmpN 14 (hb hby own_d_jdk_52_method_14_code_11) (qGeF (by decide)) ?_
  refine S170.aloadN 15 (hb hby own_d_jdk_52_method_14_code_14) rfl rfl ?_
  refine S170.iload 17 (hb hby own_d_jdk_52_method_14_code_15) rfl ?_
  refine S170.aloadN 18 (hb hby own_d_jdk_52_method_14_code_17) rfl rfl ?_
  refine S170.iloadN 19 (hb hby own_d_jdk_52_method_14_code_18) rfl ?_
  have f171 := (A.keep K163 nin0)
  refine S170.caload (v := .int c0) 20 (hb hby own_d_jdk_52_method_14_code_19) f171 ⟨by decide, by decide⟩ rfl ?_
  refine S170.scall 23 (hb hby own_d_jdk_52_method_14_code_20) (by rw [hml]; rfl) (Tw hw 89 rfl) (Tw hw 90 rfl) (Tw hw 20 rfl) (Tw hw 91 rfl) (by decide) [(.ref t164), (.int (0 : Int32)), (.int c0)] [] (Con.pay (W := 0) (own_put l Z a0 hw us h159 n0 S170.old t164 kb165 1 [(.int (0 : Int32)), (.int (0 : Int32))] (.int 0) 0 c0 (S170.ge wo169) (by decide) (by decide) rfl A167) (Tw hw 91 rfl) (Tw hw 20 rfl) (by decide) (by decide)) (lenOf own_pd_24 rfl) rfl (Nle rfl) (by decide) (by decide) (Wrs.one wo169 (Or.inl (by simp))) ?_
  intro v172 T173 h174 L175 S176 q177 K178
  obtain ⟨rfl, A179⟩ := q177
  have f180 : Arv Z h174 t164 kb165 .byte (2 : Int32) [(.int (StrChars.lo8 c0)), (.int (StrChars.hi8 c0))] (.int 0) := A179
  show Go p e below _ T173 (mkF m 23 #[.val (.ref b), .val (.int (0 : Int32)), .val (.int (1 : Int32)), .val (.ref t164), .val (.int (0 : Int32))] [])
  refine S176.iinc 26 #[.val (.ref b), .val (.int ((0 : Int32) + (1 : Int32))), .val (.int (1 : Int32)), .val (.ref t164), .val (.int (0 : Int32))] (hb hby own_d_jdk_52_method_14_code_23) rfl rfl ?_
  rw [show ((0 : Int32) + (1 : Int32)) = (1 : Int32) from by decide]
  refine S176.iinc 29 #[.val (.ref b), .val (.int (1 : Int32)), .val (.int (1 : Int32)), .val (.ref t164), .val (.int ((0 : Int32) + (1 : Int32)))] (hb hby own_d_jdk_52_method_14_code_26) rfl rfl ?_
  rw [show ((0 : Int32) + (1 : Int32)) = (1 : Int32) from by decide]
  refine S176.goto 8 (hb hby own_d_jdk_52_method_14_code_29) ?_
  refine S176.iload 10 (hb hby own_d_jdk_52_method_14_code_8) rfl ?_
  refine S176.iloadN 11 (hb hby own_d_jdk_52_method_14_code_10) rfl ?_
  refine S176.icmpY 32 (hb hby own_d_jdk_52_method_14_code_11) (qGeT (by decide)) ?_
  refine S176.aloadN 33 (hb hby own_d_jdk_52_method_14_code_32) rfl rfl ?_
  exact S176.retA (hb hby own_d_jdk_52_method_14_code_33) hret rfl rfl (by decide) (by decide) ⟨_, _, rfl, g166, f180⟩

theorem own_ef_25 (m : MethodId) (x0 : Addr) (x1 : Int32) (x2 : Int32) : entryFrame m #[(.ref x0), (.int x1), (.int x2)] 6 = mkF m 0 #[.val (.ref x0), .val (.int x1), .val (.int x2), .unset, .unset, .unset] [] := by rfl
theorem own_d_jdk_52_method_16_code_0 : decode jdk_52_method_16_code 0 = .ok (.iload_n 2, 1) := by decide +kernel
theorem own_d_jdk_52_method_16_code_1 : decode jdk_52_method_16_code 1 = .ok (.newarray .byte, 2) := by decide +kernel
theorem own_d_jdk_52_method_16_code_3 : decode jdk_52_method_16_code 3 = .ok (.astore_n 3, 1) := by decide +kernel
theorem own_d_jdk_52_method_16_code_4 : decode jdk_52_method_16_code 4 = .ok (.aload_n 0, 1) := by decide +kernel
theorem own_d_jdk_52_method_16_code_5 : decode jdk_52_method_16_code 5 = .ok (.iload_n 1, 1) := by decide +kernel
theorem own_d_jdk_52_method_16_code_6 : decode jdk_52_method_16_code 6 = .ok (.aload_n 3, 1) := by decide +kernel
theorem own_d_jdk_52_method_16_code_7 : decode jdk_52_method_16_code 7 = .ok (.iconst 0, 1) := by decide +kernel
theorem own_d_jdk_52_method_16_code_8 : decode jdk_52_method_16_code 8 = .ok (.iload_n 2, 1) := by decide +kernel
theorem own_d_jdk_52_method_16_code_9 : decode jdk_52_method_16_code 9 = .ok (.invokestatic 115, 3) := by decide +kernel
theorem own_pd_26 : parseMethodDescriptor "([CI[BII)I" = some ⟨[(.array .char), .int, (.array .byte), .int, .int], some .int⟩ := by decide +kernel
theorem own_d_jdk_52_method_16_code_12 : decode jdk_52_method_16_code 12 = .ok (.istore 4, 2) := by decide +kernel
theorem own_d_jdk_52_method_16_code_14 : decode jdk_52_method_16_code 14 = .ok (.iload 4, 2) := by decide +kernel
theorem own_d_jdk_52_method_16_code_16 : decode jdk_52_method_16_code 16 = .ok (.iload_n 2, 1) := by decide +kernel
theorem own_d_jdk_52_method_16_code_17 : decode jdk_52_method_16_code 17 = .ok (.if_icmp .eq 40, 3) := by decide +kernel
theorem own_d_jdk_52_method_16_code_20 : decode jdk_52_method_16_code 20 = .ok (.aload_n 0, 1) := by decide +kernel
theorem own_d_jdk_52_method_16_code_21 : decode jdk_52_method_16_code 21 = .ok (.iload_n 1, 1) := by decide +kernel
theorem own_d_jdk_52_method_16_code_22 : decode jdk_52_method_16_code 22 = .ok (.iload_n 2, 1) := by decide +kernel
theorem own_d_jdk_52_method_16_code_23 : decode jdk_52_method_16_code 23 = .ok (.invokestatic 119, 3) := by decide +kernel
theorem own_pd_27 : parseMethodDescriptor "([CII)[B" = some ⟨[(.array .char), .int, .int], some (.array .byte)⟩ := by decide +kernel
theorem own_d_jdk_52_method_16_code_26 : decode jdk_52_method_16_code 26 = .ok (.astore 5, 2) := by decide +kernel
theorem own_d_jdk_52_method_16_code_28 : decode jdk_52_method_16_code 28 = .ok (.aload 5, 2) := by decide +kernel
theorem own_d_jdk_52_method_16_code_30 : decode jdk_52_method_16_code 30 = .ok (.iload 4, 2) := by decide +kernel
theorem own_d_jdk_52_method_16_code_32 : decode jdk_52_method_16_code 32 = .ok (.invokestatic 71, 3) := by decide +kernel
theorem own_d_jdk_52_method_16_code_35 : decode jdk_52_method_16_code 35 = .ok (.sipush 255, 3) := by decide +kernel
theorem own_d_jdk_52_method_16_code_38 : decode jdk_52_method_16_code 38 = .ok (.if_icmp .gt 16, 3) := by decide +kernel
theorem own_d_jdk_52_method_16_code_54 : decode jdk_52_method_16_code 54 = .ok (.aload 5, 2) := by decide +kernel
theorem own_d_jdk_52_method_16_code_56 : decode jdk_52_method_16_code 56 = .ok (.areturn, 1) := by decide +kernel
set_option maxRecDepth 65536 in
set_option maxHeartbeats 4000000 in
theorem own_cmp3_1 (l : Launch) (Z : State) (a0 : Array Value) (hw : ∀ d ∈ tables_1, d.before a0 Z = true) (us : U16s Z) (h0 : Heap) (n0 : Nat) (O : Old Z n0 h0) (b : Addr) (kc : ClassId) (dc : Value) (c0 : Int32) (A : Arv Z h0 b kc .char (1 : Int32) [(.int c0)] dc) (u0 : U16 c0) (hx : (255 : Int32) < c0) :
    Con l Z n0 (⟨"java/lang/StringUTF16", "compress", "([CII)[B"⟩ : MethodName) jdk_52_method_16_code 6 (some (.array .byte)) [] ({ frames := 3, cells := 2, slots := 3, locals := 60 } : Room) #[(.ref b), (.int (0 : Int32)), (.int (1 : Int32))] h0 [] (fun v h' => ∃ t kb, v = some (.ref t) ∧ h0.size ≤ t ∧ Arv Z h' t kb .byte (2 : Int32) (StrChars.Road.wideBytes ([c0] : List Int32)) (.int 0)) := by
  refine Con.of a0 (plainFor_of_name own_pn_6) O (fun _ q => nomatch q) [] (fun _ q => nomatch q) ?_
  intro p e s m below meth cdX T S hby hml hret hnm
  refine Go.cast (own_ef_25 m b (0 : Int32) (1 : Int32)) ?_
  refine S.iloadN 1 (hb hby own_d_jdk_52_method_16_code_0) rfl ?_
  refine S.newarr 3 1 (hb hby own_d_jdk_52_method_16_code_1) (Tw hw 22 rfl) (by decide) (by decide) (by decide) (by decide) (by decide) ?_
  intro T181 h182 b183 k184 S185 E186 g187 wo188 A189
  have l190 : b < b183 := (by rw [g187]; exact A.lt)
  have f191 : Arv Z h182 b183 k184 .byte (1 : Int32) [(.int (0 : Int32))] (.int (0 : Int32)) := A189.pad (pad_rep [] (.int (0 : Int32)) 1)
  refine S185.astoreN 4 #[.val (.ref b), .val (.int (0 : Int32)), .val (.int (1 : Int32)), .val (.ref b183), .unset, .unset] (hb hby own_d_jdk_52_method_16_code_3) rfl rfl ?_
  refine S185.aloadN 5 (hb hby own_d_jdk_52_method_16_code_4) rfl rfl ?_
  refine S185.iloadN 6 (hb hby own_d_jdk_52_method_16_code_5) rfl ?_
  refine S185.aloadN 7 (hb hby own_d_jdk_52_method_16_code_6) rfl rfl ?_
  refine S185.iconst 8 (0 : Int32) (hb hby own_d_jdk_52_method_16_code_7) ?_
  refine S185.iloadN 9 (hb hby own_d_jdk_52_method_16_code_8) rfl ?_
  by_cases g0 : (255 : Int32) < c0
  · skip
    have f192 := (A.ext E186)
    refine S185.scall 12 (hb hby own_d_jdk_52_method_16_code_9) (by rw [hml]; rfl) (Tw hw 23 rfl) (Tw hw 24 rfl) (Tw hw 20 rfl) (Tw hw 25 rfl) (by decide) [(.ref b), (.int (0 : Int32)), (.ref b183), (.int (0 : Int32)), (.int (1 : Int32))] [] (Con.pay (W := 0) (own_cmp5_1_0 l Z a0 hw h182 n0 S185.old b kc dc b183 k184 c0 (S185.ge wo188) f192 f191 (Nat.ne_of_lt l190) g0) (Tw hw 25 rfl) (Tw hw 20 rfl) (by decide) (by decide)) (lenOf own_pd_26 rfl) rfl (Nle rfl) (by decide) (by decide) (Wrs.one wo188 (Or.inl (by simp))) ?_
    intro v193 T194 h195 L196 S197 q198 K199
    obtain rfl := q198
    show Go p e below _ T194 (mkF m 12 #[.val (.ref b), .val (.int (0 : Int32)), .val (.int (1 : Int32)), .val (.ref b183), .unset, .unset] [(.int (0 : Int32))])
    refine S197.istore 14 #[.val (.ref b), .val (.int (0 : Int32)), .val (.int (1 : Int32)), .val (.ref b183), .val (.int (0 : Int32)), .unset] (hb hby own_d_jdk_52_method_16_code_12) rfl ?_
    refine S197.iload 16 (hb hby own_d_jdk_52_method_16_code_14) rfl ?_
    refine S197.iloadN 17 (hb hby own_d_jdk_52_method_16_code_16) rfl ?_
    refine S197.icmpN 20 (hb hby own_d_jdk_52_method_16_code_17) (qEqF (by decide)) ?_
    refine S197.aloadN 21 (hb hby own_d_jdk_52_method_16_code_20) rfl rfl ?_
    refine S197.iloadN 22 (hb hby own_d_jdk_52_method_16_code_21) rfl ?_
    refine S197.iloadN 23 (hb hby own_d_jdk_52_method_16_code_22) rfl ?_
    have f200 := (f192.keep K199 (ninS (Nat.ne_of_lt l190) nin0))
    refine S197.scall 26 (hb hby own_d_jdk_52_method_16_code_23) (by rw [hml]; rfl) (Tw hw 79 rfl) (Tw hw 80 rfl) (Tw hw 20 rfl) (Tw hw 81 rfl) (by decide) [(.ref b), (.int (0 : Int32)), (.int (1 : Int32))] [] (Con.pay (W := 0) (own_toB16_1 l Z a0 hw us h195 n0 S197.old b kc dc c0 f200 u0) (Tw hw 81 rfl) (Tw hw 20 rfl) (by decide) (by decide)) (lenOf own_pd_27 rfl) rfl (Nle rfl) (by decide) (by decide) Wrs.nil ?_
    intro v201 T202 h203 L204 S205 q206 K207
    obtain ⟨t208, kb209, rfl, g210, A211⟩ := q206
    show Go p e below _ T202 (mkF m 26 #[.val (.ref b), .val (.int (0 : Int32)), .val (.int (1 : Int32)), .val (.ref b183), .val (.int (0 : Int32)), .unset] [(.ref t208)])
    refine S205.astore 28 #[.val (.ref b), .val (.int (0 : Int32)), .val (.int (1 : Int32)), .val (.ref b183), .val (.int (0 : Int32)), .val (.ref t208)] (hb hby own_d_jdk_52_method_16_code_26) rfl rfl ?_
    refine S205.aload 30 (hb hby own_d_jdk_52_method_16_code_28) rfl rfl ?_
    refine S205.iload 32 (hb hby own_d_jdk_52_method_16_code_30) rfl ?_
    refine S205.scall 35 (hb hby own_d_jdk_52_method_16_code_32) (by rw [hml]; rfl) (Tw hw 95 rfl) (Tw hw 96 rfl) (Tw hw 20 rfl) (Tw hw 97 rfl) (by decide) [(.ref t208), (.int (0 : Int32))] [] (Con.pay (W := 0) (own_getC l Z a0 hw us h203 n0 S205.old t208 kb209 1 (StrChars.Road.wideBytes ([c0] : List Int32)) (.int 0) 0 (StrChars.lo8 c0) (StrChars.hi8 c0) (by decide) A211 (by decide) rfl rfl) (Tw hw 97 rfl) (Tw hw 20 rfl) (by decide) (by decide)) (lenOf own_pd_16 rfl) rfl (Nle rfl) (by decide) (by decide) Wrs.nil ?_
    intro v212 T213 h214 L215 S216 q217 K218
    rw [StrChars.pair_says u0.1 u0.2, U16.nar u0] at q217
    obtain ⟨rfl, e_q217⟩ := q217
    obtain rfl := e_q217.symm
    show Go p e below _ T213 (mkF m 35 #[.val (.ref b), .val (.int (0 : Int32)), .val (.int (1 : Int32)), .val (.ref b183), .val (.int (0 : Int32)), .val (.ref t208)] [(.int c0)])
    refine S216.sipush 38 (255 : Int32) (hb hby own_d_jdk_52_method_16_code_35) ?_
    refine S216.icmpY 54 (hb hby own_d_jdk_52_method_16_code_38) (qGtT g0) ?_
    refine S216.aload 56 (hb hby own_d_jdk_52_method_16_code_54) rfl rfl ?_
    exact S216.retA (hb hby own_d_jdk_52_method_16_code_56) hret rfl rfl (by decide) (by decide) ⟨_, _, rfl, Nat.le_trans S197.kept.1 g210, A211⟩
  exact absurd hx (by simp [g0])

theorem own_d_jdk_52_method_15_code_0 : decode jdk_52_method_15_code 0 = .ok (.iload_n 1, 1) := by decide +kernel
theorem own_d_jdk_52_method_15_code_1 : decode jdk_52_method_15_code 1 = .ok (.aload_n 0, 1) := by decide +kernel
theorem own_d_jdk_52_method_15_code_2 : decode jdk_52_method_15_code 2 = .ok (.arraylength, 1) := by decide +kernel
theorem own_d_jdk_52_method_15_code_3 : decode jdk_52_method_15_code 3 = .ok (.isub, 1) := by decide +kernel
theorem own_d_jdk_52_method_15_code_4 : decode jdk_52_method_15_code 4 = .ok (.bipush 31, 2) := by decide +kernel
theorem own_d_jdk_52_method_15_code_6 : decode jdk_52_method_15_code 6 = .ok (.iushr, 1) := by decide +kernel
theorem own_d_jdk_52_method_15_code_7 : decode jdk_52_method_15_code 7 = .ok (.i2b, 1) := by decide +kernel
theorem own_d_jdk_52_method_15_code_8 : decode jdk_52_method_15_code 8 = .ok (.ireturn, 1) := by decide +kernel
set_option maxRecDepth 65536 in
set_option maxHeartbeats 4000000 in
theorem own_cod_1 (l : Launch) (Z : State) (a0 : Array Value) (hw : ∀ d ∈ tables_1, d.before a0 Z = true) (h0 : Heap) (n0 : Nat) (O : Old Z n0 h0) (t : Addr) (kt : ClassId) (vs : List Value) (d : Value) (A : Arv Z h0 t kt .byte (2 : Int32) vs d) :
    Con l Z n0 (⟨"java/lang/StringUTF16", "coderFromArrayLen", "([BI)B"⟩ : MethodName) jdk_52_method_15_code 2 (some .byte) [] ({ frames := 0, cells := 0, slots := 0, locals := 0 } : Room) #[(.ref t), (.int (1 : Int32))] h0 [] (fun v h' => v = some (.int 1) ∧ h' = h0) := by
  refine Con.of a0 (plainFor_of_name own_pn_6) O (fun _ q => nomatch q) [] (fun _ q => nomatch q) ?_
  intro p e s m below meth cdX T S hby hml hret hnm
  refine Go.cast (own_ef_14 m t (1 : Int32)) ?_
  refine S.iloadN 1 (hb hby own_d_jdk_52_method_15_code_0) rfl ?_
  refine S.aloadN 2 (hb hby own_d_jdk_52_method_15_code_1) rfl rfl ?_
  refine S.alen 3 (hb hby own_d_jdk_52_method_15_code_2) A ?_
  refine S.isub 4 (hb hby own_d_jdk_52_method_15_code_3) ?_
  show Go p e below _ T (mkF m 4 #[.val (.ref t), .val (.int (1 : Int32))] [(.int ((1 : Int32) - (2 : Int32)))])
  rw [show ((1 : Int32) - (2 : Int32)) = (-1 : Int32) from by decide]
  refine S.bipush 6 (31 : Int32) (hb hby own_d_jdk_52_method_15_code_4) ?_
  refine S.iushr 7 (hb hby own_d_jdk_52_method_15_code_6) ?_
  show Go p e below _ T (mkF m 7 #[.val (.ref t), .val (.int (1 : Int32))] [(.int (((-1 : Int32).toUInt32 >>> ((31 : Int32) &&& 31).toUInt32).toInt32))])
  refine S.i2b 8 (hb hby own_d_jdk_52_method_15_code_7) ?_
  exact S.retN (t := .byte) (hb hby own_d_jdk_52_method_15_code_8) hret (by decide) (by decide) (by decide) ⟨by decide, rfl⟩

theorem own_d_jdk_42_method_149_code_27 : decode jdk_42_method_149_code 27 = .ok (.getstatic 38, 3) := by decide +kernel
theorem own_d_jdk_42_method_149_code_30 : decode jdk_42_method_149_code 30 = .ok (.ifCond .eq 28, 3) := by decide +kernel
theorem own_d_jdk_42_method_149_code_33 : decode jdk_42_method_149_code 33 = .ok (.aload_n 1, 1) := by decide +kernel
theorem own_d_jdk_42_method_149_code_34 : decode jdk_42_method_149_code 34 = .ok (.iload_n 2, 1) := by decide +kernel
theorem own_d_jdk_42_method_149_code_35 : decode jdk_42_method_149_code 35 = .ok (.iload_n 3, 1) := by decide +kernel
theorem own_d_jdk_42_method_149_code_36 : decode jdk_42_method_149_code 36 = .ok (.invokestatic 177, 3) := by decide +kernel
theorem own_d_jdk_42_method_149_code_39 : decode jdk_42_method_149_code 39 = .ok (.astore 5, 2) := by decide +kernel
theorem own_d_jdk_42_method_149_code_41 : decode jdk_42_method_149_code 41 = .ok (.aload_n 0, 1) := by decide +kernel
theorem own_d_jdk_42_method_149_code_42 : decode jdk_42_method_149_code 42 = .ok (.aload 5, 2) := by decide +kernel
theorem own_d_jdk_42_method_149_code_44 : decode jdk_42_method_149_code 44 = .ok (.iload_n 3, 1) := by decide +kernel
theorem own_d_jdk_42_method_149_code_45 : decode jdk_42_method_149_code 45 = .ok (.invokestatic 47, 3) := by decide +kernel
theorem own_pd_28 : parseMethodDescriptor "([BI)B" = some ⟨[(.array .byte), .int], some .byte⟩ := by decide +kernel
theorem own_d_jdk_42_method_149_code_48 : decode jdk_42_method_149_code 48 = .ok (.putfield 15, 3) := by decide +kernel
theorem own_d_jdk_42_method_149_code_51 : decode jdk_42_method_149_code 51 = .ok (.aload_n 0, 1) := by decide +kernel
theorem own_d_jdk_42_method_149_code_52 : decode jdk_42_method_149_code 52 = .ok (.aload 5, 2) := by decide +kernel
theorem own_d_jdk_42_method_149_code_54 : decode jdk_42_method_149_code 54 = .ok (.putfield 9, 3) := by decide +kernel
theorem own_d_jdk_42_method_149_code_57 : decode jdk_42_method_149_code 57 = .ok (.return_, 1) := by decide +kernel
set_option maxRecDepth 65536 in
set_option maxHeartbeats 4000000 in
theorem own_new4_1 (l : Launch) (Z : State) (a0 : Array Value) (hw : ∀ d ∈ tables_1, d.before a0 Z = true) (cm : Com Z) (us : U16s Z) (h0 : Heap) (n0 : Nat) (O : Old Z n0 h0) (x : Addr) (b : Addr) (kc : ClassId) (dc : Value) (c0 : Int32) (ge_x : n0 ≤ x) (E : Exa Z h0 x "java/lang/String") (FV : Fld Z h0 x "java/lang/String" "value" "[B" .null) (FC : Fld Z h0 x "java/lang/String" "coder" "B" (.int 0)) (A : Arv Z h0 b kc .char (1 : Int32) [(.int c0)] dc) (u0 : U16 c0) (hx : (255 : Int32) < c0) :
    Con l Z n0 (⟨"java/lang/String", "<init>", "([CIILjava/lang/Void;)V"⟩ : MethodName) jdk_42_method_149_code 6 none [] ({ frames := 4, cells := 2, slots := 3, locals := 80 } : Room) #[(.ref x), (.ref b), (.int (0 : Int32)), (.int (1 : Int32)), .null] h0 [x] (fun v h' => v = none ∧ ∃ t, h0.size ≤ t ∧ StrA Z h' x t ([c0] : List Int32)) := by
  refine Con.of a0 (plainFor_of_name own_pn_2) O (by simp [ge_x]) [x] (by simp [E.lt]) ?_
  intro p e s m below meth cdX T S hby hml hret hnm
  refine Go.cast (own_ef_1 m x b (0 : Int32) (1 : Int32)) ?_
  refine S.aloadN 1 (hb hby own_d_jdk_42_method_149_code_0) rfl rfl ?_
  refine S.initO (W := 0) 4 (hb hby own_d_jdk_42_method_149_code_1) (by rw [hml]; rfl) (Tw hw 14 rfl) (Tw hw 15 rfl) (Tw hw 16 rfl) (by decide) (Nle rfl) (by decide) ?_
  intro T219 S220
  refine S220.iloadN 5 (hb hby own_d_jdk_42_method_149_code_4) rfl ?_
  refine S220.ifY 27 (hb hby own_d_jdk_42_method_149_code_5) (zNeT (by decide)) ?_
  obtain ⟨zc, sc, nc⟩ := id cm
  refine S220.gets (host := "") 30 (hb hby own_d_jdk_42_method_149_code_27) (Or.inl (Tw hw 17 rfl)) Via.refl (sc.ext S220.old.2) ?_
  intro T221 S222
  refine S222.ifN 33 (hb hby own_d_jdk_42_method_149_code_30) (zEqF nc) ?_
  refine S222.aloadN 34 (hb hby own_d_jdk_42_method_149_code_33) rfl rfl ?_
  refine S222.iloadN 35 (hb hby own_d_jdk_42_method_149_code_34) rfl ?_
  refine S222.iloadN 36 (hb hby own_d_jdk_42_method_149_code_35) rfl ?_
  refine S222.scall 39 (hb hby own_d_jdk_42_method_149_code_36) (by rw [hml]; rfl) (Tw hw 18 rfl) (Tw hw 19 rfl) (Tw hw 20 rfl) (Tw hw 21 rfl) (by decide) [(.ref b), (.int (0 : Int32)), (.int (1 : Int32))] [] (Con.pay (W := 0) (own_cmp3_1 l Z a0 hw us h0 n0 S222.old b kc dc c0 A u0 hx) (Tw hw 21 rfl) (Tw hw 20 rfl) (by decide) (by decide)) (lenOf own_pd_27 rfl) rfl (Nle rfl) (by decide) (by decide) Wrs.nil ?_
  intro v223 T224 h225 L226 S227 q228 K229
  obtain ⟨t230, kb231, rfl, g232, A233⟩ := q228
  have l234 : b < t230 := Nat.lt_of_lt_of_le A.lt g232
  have l235 : x < t230 := Nat.lt_of_lt_of_le E.lt g232
  show Go p e below _ T224 (mkF m 39 #[.val (.ref x), .val (.ref b), .val (.int (0 : Int32)), .val (.int (1 : Int32)), .val .null, .unset] [(.ref t230)])
  refine S227.astore 41 #[.val (.ref x), .val (.ref b), .val (.int (0 : Int32)), .val (.int (1 : Int32)), .val .null, .val (.ref t230)] (hb hby own_d_jdk_42_method_149_code_39) rfl rfl ?_
  refine S227.aloadN 42 (hb hby own_d_jdk_42_method_149_code_41) rfl rfl ?_
  refine S227.aload 44 (hb hby own_d_jdk_42_method_149_code_42) rfl rfl ?_
  refine S227.iloadN 45 (hb hby own_d_jdk_42_method_149_code_44) rfl ?_
  refine S227.scall 48 (hb hby own_d_jdk_42_method_149_code_45) (by rw [hml]; rfl) (Tw hw 26 rfl) (Tw hw 27 rfl) (Tw hw 20 rfl) (Tw hw 28 rfl) (by decide) [(.ref t230), (.int (1 : Int32))] [(.ref x)] (Con.pay (W := 1) (own_cod_1 l Z a0 hw h225 n0 S227.old t230 kb231 (StrChars.Road.wideBytes ([c0] : List Int32)) (.int 0) A233) (Tw hw 28 rfl) (Tw hw 20 rfl) (by decide) (by decide)) (lenOf own_pd_28 rfl) rfl (Nle rfl) (by decide) (by decide) Wrs.nil ?_
  intro v236 T237 h238 L239 S240 q241 K242
  obtain ⟨rfl, e_q241⟩ := q241
  obtain rfl := e_q241.symm
  show Go p e below _ T237 (mkF m 48 #[.val (.ref x), .val (.ref b), .val (.int (0 : Int32)), .val (.int (1 : Int32)), .val .null, .val (.ref t230)] [(.int (1 : Int32)), (.ref x)])
  have f243 := (FC.keep K229 nin0)
  have f244 := (E.keep K229)
  refine S240.putf (host := "") (ty := .byte) 51 (hb hby own_d_jdk_42_method_149_code_48) (Or.inl (Tw hw 29 rfl)) Via.refl f243 f244 (Or.inr ⟨(Tw hw 30 rfl), rfl, hnm⟩) (Tw hw 5 rfl) (by decide) rfl rfl (Or.inl (by simp)) (Or.inr (by simp)) ?_
  intro T245 h246 L247 S248 W249
  have f250 := f243.same W249
  refine S248.aloadN 52 (hb hby own_d_jdk_42_method_149_code_51) rfl rfl ?_
  refine S248.aload 54 (hb hby own_d_jdk_42_method_149_code_52) rfl rfl ?_
  have f251 := ((FV.keep K229 nin0).other W249 (Or.inr (slot_ne (t := (.array .byte)) (t' := .byte) (Or.inr (Tw hw 32 rfl)) (Or.inr (Tw hw 30 rfl)) (by decide) (by decide) (by decide))))
  have f252 := (f244.wr W249)
  refine S248.putf (host := "") (ty := (.array .byte)) 57 (hb hby own_d_jdk_42_method_149_code_54) (Or.inl (Tw hw 31 rfl)) Via.refl f251 f252 (Or.inr ⟨(Tw hw 32 rfl), rfl, hnm⟩) (Tw hw 5 rfl) (by decide) rfl rfl (Or.inl (by simp)) (Or.inr (by simp)) ?_
  intro T253 h254 L255 S256 W257
  have f258 := f251.same W257
  have f259 := (f252.wr W257)
  have f260 := (f250.other W257 (Or.inr (slot_ne (t := .byte) (t' := (.array .byte)) (Or.inr (Tw hw 30 rfl)) (Or.inr (Tw hw 32 rfl)) (by decide) (by decide) (by decide))))
  have f261 := ((A233.other W249 (Nat.ne_of_gt l235)).other W257 (Nat.ne_of_gt l235))
  exact S256.ret0 (hb hby own_d_jdk_42_method_149_code_57) hret (by decide) (by decide) ⟨rfl, t230, Nat.le_trans S222.kept.1 g232, ⟨⟨_, 1, _, _, f259, f258, f260, f261, Or.inr ⟨rfl, rfl, rfl, by simpa using hx⟩⟩, by simp [u0], Nle rfl⟩⟩


set_option maxRecDepth 65536 in
set_option maxHeartbeats 4000000 in
theorem own_new1_1 (l : Launch) (Z : State) (a0 : Array Value) (hw : ∀ d ∈ tables_1, d.before a0 Z = true) (cm : Com Z) (us : U16s Z) (h0 : Heap) (n0 : Nat) (O : Old Z n0 h0) (x : Addr) (b : Addr) (kc : ClassId) (dc : Value) (c0 : Int32) (ge_x : n0 ≤ x) (E : Exa Z h0 x "java/lang/String") (FV : Fld Z h0 x "java/lang/String" "value" "[B" .null) (FC : Fld Z h0 x "java/lang/String" "coder" "B" (.int 0)) (A : Arv Z h0 b kc .char (1 : Int32) [(.int c0)] dc) (u0 : U16 c0) (hx : (255 : Int32) < c0) :
    Con l Z n0 (⟨"java/lang/String", "<init>", "([C)V"⟩ : MethodName) jdk_42_method_3_code 2 none [] ({ frames := 5, cells := 2, slots := 3, locals := 105 } : Room) #[(.ref x), (.ref b)] h0 [x] (fun v h' => v = none ∧ ∃ t, h0.size ≤ t ∧ StrA Z h' x t ([c0] : List Int32)) := by
  refine Con.of a0 (plainFor_of_name own_pn_2) O (by simp [ge_x]) [x] (by simp [E.lt]) ?_
  intro p e s m below meth cdX T S hby hml hret hnm
  refine Go.cast (own_ef_3 m x b) ?_
  refine S.aloadN 1 (hb hby own_d_jdk_42_method_3_code_0) rfl rfl ?_
  refine S.aloadN 2 (hb hby own_d_jdk_42_method_3_code_1) rfl rfl ?_
  refine S.iconst 3 (0 : Int32) (hb hby own_d_jdk_42_method_3_code_2) ?_
  refine S.aloadN 4 (hb hby own_d_jdk_42_method_3_code_3) rfl rfl ?_
  refine S.alen 5 (hb hby own_d_jdk_42_method_3_code_4) A ?_
  refine S.anull 6 (hb hby own_d_jdk_42_method_3_code_5) ?_
  refine S.icall 9 (hb hby own_d_jdk_42_method_3_code_6) (by rw [hml]; rfl) rfl (Tw hw 10 rfl) (Tw hw 11 rfl) (Tw hw 13 rfl) (by decide) [(.ref b), (.int (0 : Int32)), (.int (1 : Int32)), .null] [] (Con.pay (W := 0) (own_new4_1 l Z a0 hw cm us h0 n0 S.old x b kc dc c0 ge_x E FV FC A u0 hx) (Tw hw 13 rfl) (Tw hw 6 rfl) (by decide) (by decide)) (lenOf own_pd_4 rfl) rfl (Nle rfl) (by decide) (by decide) (Wrs.one (Or.inl (by simp)) (Or.inl (by simp))) ?_
  intro v262 T263 h264 L265 S266 q267 K268
  obtain ⟨rfl, te, ge, fe⟩ := q267
  show Go p e below _ T263 (mkF m 9 #[.val (.ref x), .val (.ref b)] [])
  exact S266.ret0 (hb hby own_d_jdk_42_method_3_code_9) hret (by decide) (by decide) ⟨rfl, te, ge, fe⟩

theorem payNewA_1 {a0 : Array Value} {p : Program} {l : Launch} {e : Env} {R : Room} {args : Array Value} {below : List Frame} {Z s : State} {n0 : Nat} {h : Heap} {x b : Addr} {kc : ClassId} {dc : Value} {W : Nat} (c0 : Int32)  (hw : ∀ d ∈ tables_1, d.before a0 Z = true) (cm : Com Z) (us : U16s Z) (O : Old Z n0 h) (hx0 : n0 ≤ x) (E : Exa Z h x "java/lang/String") (V : Fld Z h x "java/lang/String" "value" "[B" .null) (C : Fld Z h x "java/lang/String" "coder" "B" (.int 0)) (A : Arv Z h b kc .char (1 : Int32) [(.int c0)] dc) (u0 : U16 c0) (hfr : 6 ≤ R.frames) (hlo : W + 118 ≤ R.locals) :
    Pay l R p e below args Z s n0 ⟨"java/lang/String", "<init>", "([C)V"⟩ 3 W #[.ref x, .ref b] h [x] 2 3 (fun v h' => v = none ∧ ∃ t, h.size ≤ t ∧ StrA Z h' x t ([c0] : List Int32)) := by
  by_cases hx : (255 : Int32) < c0
  · exact Con.pay (own_new1_1 l Z a0 hw cm us h n0 O x b kc dc c0 hx0 E V C A u0 hx) (Tw hw 9 rfl) (Tw hw 6 rfl) (by show 5 + 1 ≤ _; omega) (by show W + (2 + 11) + 105 ≤ _; omega)
  · have hp : ∀ c ∈ ([c0] : List Int32), ¬ c < 0 ∧ ¬ (255 : Int32) < c := by
      intro c hc
      simp only [List.mem_cons, List.not_mem_nil, or_false] at hc
      try simp only [not_or] at hx
      rcases hc with rfl
      · exact ⟨u0.1, hx⟩
    refine Pay.mono (Pay.weak (payNew (n := 1) (cs := ([c0] : List Int32)) hw (Tw hw 5 rfl) cm O hx0 E V C A rfl rfl (by decide) (by decide) hp (by omega) (by omega)) ?_) (by decide) (by decide)
    rintro v h' ⟨rfl, t, g, F⟩
    exact ⟨rfl, t, g, StrA.of F⟩

set_option maxRecDepth 65536 in
set_option maxHeartbeats 4000000 in
theorem own_cmp5_2_0 (l : Launch) (Z : State) (a0 : Array Value) (hw : ∀ d ∈ tables_1, d.before a0 Z = true) (h0 : Heap) (n0 : Nat) (O : Old Z n0 h0) (b : Addr) (kc : ClassId) (dc : Value) (t : Addr) (kt : ClassId) (c0 : Int32) (c1 : Int32) (ge_t : n0 ≤ t) (A : Arv Z h0 b kc .char (2 : Int32) [(.int c0), (.int c1)] dc) (B : Arv Z h0 t kt .byte (2 : Int32) [(.int 0), (.int 0)] (.int 0)) (hne : b ≠ t) (g0 : (255 : Int32) < c0) :
    Con l Z n0 (⟨"java/lang/StringUTF16", "compress", "([CI[BII)I"⟩ : MethodName) jdk_52_method_21_code 7 (some .int) [] ({ frames := 0, cells := 0, slots := 0, locals := 0 } : Room) #[(.ref b), (.int (0 : Int32)), (.ref t), (.int (0 : Int32)), (.int (2 : Int32))] h0 [t] (fun v h' => v = some (.int 0)) := by
  refine Con.of a0 (plainFor_of_name own_pn_6) O (by simp [ge_t]) [t] (by simp [B.lt]) ?_
  intro p e s m below meth cdX T S hby hml hret hnm
  refine Go.cast (own_ef_20 m b (0 : Int32) t (0 : Int32) (2 : Int32)) ?_
  refine S.iconst 1 (0 : Int32) (hb hby own_d_jdk_52_method_21_code_0) ?_
  refine S.istore 3 #[.val (.ref b), .val (.int (0 : Int32)), .val (.ref t), .val (.int (0 : Int32)), .val (.int (2 : Int32)), .val (.int (0 : Int32)), .unset] (hb hby own_d_jdk_52_method_21_code_1) rfl ?_
  refine S.iload 5 (hb hby own_d_jdk_52_method_21_code_3) rfl ?_
  refine S.iload 7 (hb hby own_d_jdk_52_method_21_code_5) rfl ?_
  refine S.icmpN 10 (hb hby own_d_jdk_52_method_21_code_7) (qGeF (by decide)) ?_
  refine S.aloadN 11 (hb hby own_d_jdk_52_method_21_code_10) rfl rfl ?_
  refine S.iloadN 12 (hb hby own_d_jdk_52_method_21_code_11) rfl ?_
  refine S.caload (v := .int c0) 13 (hb hby own_d_jdk_52_method_21_code_12) A ⟨by decide, by decide⟩ rfl ?_
  refine S.istore 15 #[.val (.ref b), .val (.int (0 : Int32)), .val (.ref t), .val (.int (0 : Int32)), .val (.int (2 : Int32)), .val (.int (0 : Int32)), .val (.int c0)] (hb hby own_d_jdk_52_method_21_code_13) rfl ?_
  refine S.iload 17 (hb hby own_d_jdk_52_method_21_code_15) rfl ?_
  refine S.sipush 20 (255 : Int32) (hb hby own_d_jdk_52_method_21_code_17) ?_
  refine S.icmpN 23 (hb hby own_d_jdk_52_method_21_code_20) (qLeF g0) ?_
  refine S.iload 25 (hb hby own_d_jdk_52_method_21_code_23) rfl ?_
  exact S.retI (hb hby own_d_jdk_52_method_21_code_25) hret (by decide) (by decide) rfl

theorem own_d_jdk_52_method_21_code_26 : decode jdk_52_method_21_code 26 = .ok (.aload_n 2, 1) := by decide +kernel
theorem own_d_jdk_52_method_21_code_27 : decode jdk_52_method_21_code 27 = .ok (.iload_n 3, 1) := by decide +kernel
theorem own_d_jdk_52_method_21_code_28 : decode jdk_52_method_21_code 28 = .ok (.iload 6, 2) := by decide +kernel
theorem own_d_jdk_52_method_21_code_30 : decode jdk_52_method_21_code 30 = .ok (.i2b, 1) := by decide +kernel
theorem own_d_jdk_52_method_21_code_31 : decode jdk_52_method_21_code 31 = .ok (.bastore, 1) := by decide +kernel
theorem own_d_jdk_52_method_21_code_32 : decode jdk_52_method_21_code 32 = .ok (.iinc 1 1, 3) := by decide +kernel
theorem own_d_jdk_52_method_21_code_35 : decode jdk_52_method_21_code 35 = .ok (.iinc 3 1, 3) := by decide +kernel
theorem own_d_jdk_52_method_21_code_38 : decode jdk_52_method_21_code 38 = .ok (.iinc 5 1, 3) := by decide +kernel
theorem own_d_jdk_52_method_21_code_41 : decode jdk_52_method_21_code 41 = .ok (.goto (-38), 3) := by decide +kernel
set_option maxRecDepth 65536 in
set_option maxHeartbeats 4000000 in
theorem own_cmp5_2_1 (l : Launch) (Z : State) (a0 : Array Value) (hw : ∀ d ∈ tables_1, d.before a0 Z = true) (h0 : Heap) (n0 : Nat) (O : Old Z n0 h0) (b : Addr) (kc : ClassId) (dc : Value) (t : Addr) (kt : ClassId) (c0 : Int32) (c1 : Int32) (ge_t : n0 ≤ t) (A : Arv Z h0 b kc .char (2 : Int32) [(.int c0), (.int c1)] dc) (B : Arv Z h0 t kt .byte (2 : Int32) [(.int 0), (.int 0)] (.int 0)) (hne : b ≠ t) (g0 : ¬ (255 : Int32) < c0) (g1 : (255 : Int32) < c1) :
    Con l Z n0 (⟨"java/lang/StringUTF16", "compress", "([CI[BII)I"⟩ : MethodName) jdk_52_method_21_code 7 (some .int) [] ({ frames := 0, cells := 0, slots := 0, locals := 0 } : Room) #[(.ref b), (.int (0 : Int32)), (.ref t), (.int (0 : Int32)), (.int (2 : Int32))] h0 [t] (fun v h' => v = some (.int 1)) := by
  refine Con.of a0 (plainFor_of_name own_pn_6) O (by simp [ge_t]) [t] (by simp [B.lt]) ?_
  intro p e s m below meth cdX T S hby hml hret hnm
  refine Go.cast (own_ef_20 m b (0 : Int32) t (0 : Int32) (2 : Int32)) ?_
  refine S.iconst 1 (0 : Int32) (hb hby own_d_jdk_52_method_21_code_0) ?_
  refine S.istore 3 #[.val (.ref b), .val (.int (0 : Int32)), .val (.ref t), .val (.int (0 : Int32)), .val (.int (2 : Int32)), .val (.int (0 : Int32)), .unset] (hb hby own_d_jdk_52_method_21_code_1) rfl ?_
  refine S.iload 5 (hb hby own_d_jdk_52_method_21_code_3) rfl ?_
  refine S.iload 7 (hb hby own_d_jdk_52_method_21_code_5) rfl ?_
  refine S.icmpN 10 (hb hby own_d_jdk_52_method_21_code_7) (qGeF (by decide)) ?_
  refine S.aloadN 11 (hb hby own_d_jdk_52_method_21_code_10) rfl rfl ?_
  refine S.iloadN 12 (hb hby own_d_jdk_52_method_21_code_11) rfl ?_
  refine S.caload (v := .int c0) 13 (hb hby own_d_jdk_52_method_21_code_12) A ⟨by decide, by decide⟩ rfl ?_
  refine S.istore 15 #[.val (.ref b), .val (.int (0 : Int32)), .val (.ref t), .val (.int (0 : Int32)), .val (.int (2 : Int32)), .val (.int (0 : Int32)), .val (.int c0)] (hb hby own_d_jdk_52_method_21_code_13) rfl ?_
  refine S.iload 17 (hb hby own_d_jdk_52_method_21_code_15) rfl ?_
  refine S.sipush 20 (255 : Int32) (hb hby own_d_jdk_52_method_21_code_17) ?_
  refine S.icmpY 26 (hb hby own_d_jdk_52_method_21_code_20) (qLeT g0) ?_
  refine S.aloadN 27 (hb hby own_d_jdk_52_method_21_code_26) rfl rfl ?_
  refine S.iloadN 28 (hb hby own_d_jdk_52_method_21_code_27) rfl ?_
  refine S.iload 30 (hb hby own_d_jdk_52_method_21_code_28) rfl ?_
  refine S.i2b 31 (hb hby own_d_jdk_52_method_21_code_30) ?_
  refine S.bastore 32 0 (hb hby own_d_jdk_52_method_21_code_31) B ⟨by decide, by decide⟩ rfl (Nle rfl) (Or.inl (by simp)) (by simp) ?_
  intro T269 h270 L271 S272 W273 A274
  have f275 : Arv Z h270 t kt .byte (2 : Int32) [(.int (nar .byte (c0.toInt8.toInt32))), (.int (0 : Int32))] (.int 0) := A274
  refine S272.iinc 35 #[.val (.ref b), .val (.int ((0 : Int32) + (1 : Int32))), .val (.ref t), .val (.int (0 : Int32)), .val (.int (2 : Int32)), .val (.int (0 : Int32)), .val (.int c0)] (hb hby own_d_jdk_52_method_21_code_32) rfl rfl ?_
  rw [show ((0 : Int32) + (1 : Int32)) = (1 : Int32) from by decide]
  refine S272.iinc 38 #[.val (.ref b), .val (.int (1 : Int32)), .val (.ref t), .val (.int ((0 : Int32) + (1 : Int32))), .val (.int (2 : Int32)), .val (.int (0 : Int32)), .val (.int c0)] (hb hby own_d_jdk_52_method_21_code_35) rfl rfl ?_
  rw [show ((0 : Int32) + (1 : Int32)) = (1 : Int32) from by decide]
  refine S272.iinc 41 #[.val (.ref b), .val (.int (1 : Int32)), .val (.ref t), .val (.int (1 : Int32)), .val (.int (2 : Int32)), .val (.int ((0 : Int32) + (1 : Int32))), .val (.int c0)] (hb hby own_d_jdk_52_method_21_code_38) rfl rfl ?_
  rw [show ((0 : Int32) + (1 : Int32)) = (1 : Int32) from by decide]
  refine S272.goto 3 (hb hby own_d_jdk_52_method_21_code_41) ?_
  refine S272.iload 5 (hb hby own_d_jdk_52_method_21_code_3) rfl ?_
  refine S272.iload 7 (hb hby own_d_jdk_52_method_21_code_5) rfl ?_
  refine S272.icmpN 10 (hb hby own_d_jdk_52_method_21_code_7) (qGeF (by decide)) ?_
  refine S272.aloadN 11 (hb hby own_d_jdk_52_method_21_code_10) rfl rfl ?_
  refine S272.iloadN 12 (hb hby own_d_jdk_52_method_21_code_11) rfl ?_
  have f276 := (A.other W273 hne)
  refine S272.caload (v := .int c1) 13 (hb hby own_d_jdk_52_method_21_code_12) f276 ⟨by decide, by decide⟩ rfl ?_
  refine S272.istore 15 #[.val (.ref b), .val (.int (1 : Int32)), .val (.ref t), .val (.int (1 : Int32)), .val (.int (2 : Int32)), .val (.int (1 : Int32)), .val (.int c1)] (hb hby own_d_jdk_52_method_21_code_13) rfl ?_
  refine S272.iload 17 (hb hby own_d_jdk_52_method_21_code_15) rfl ?_
  refine S272.sipush 20 (255 : Int32) (hb hby own_d_jdk_52_method_21_code_17) ?_
  refine S272.icmpN 23 (hb hby own_d_jdk_52_method_21_code_20) (qLeF g1) ?_
  refine S272.iload 25 (hb hby own_d_jdk_52_method_21_code_23) rfl ?_
  exact S272.retI (hb hby own_d_jdk_52_method_21_code_25) hret (by decide) (by decide) rfl


set_option maxRecDepth 65536 in
set_option maxHeartbeats 4000000 in
theorem own_nbf_2 (l : Launch) (Z : State) (a0 : Array Value) (hw : ∀ d ∈ tables_1, d.before a0 Z = true) (h0 : Heap) (n0 : Nat) (O : Old Z n0 h0) :
    Con l Z n0 (⟨"java/lang/StringUTF16", "newBytesFor", "(I)[B"⟩ : MethodName) jdk_52_method_2_code 1 (some (.array .byte)) [] ({ frames := 1, cells := 1, slots := 4, locals := 20 } : Room) #[(.int (2 : Int32))] h0 [] (fun v h' => ∃ t kb, v = some (.ref t) ∧ h0.size ≤ t ∧ Arv Z h' t kb .byte (4 : Int32) [(.int 0), (.int 0), (.int 0), (.int 0)] (.int 0)) := by
  refine Con.of a0 (plainFor_of_name own_pn_6) O (fun _ q => nomatch q) [] (fun _ q => nomatch q) ?_
  intro p e s m below meth cdX T S hby hml hret hnm
  refine Go.cast (own_ef_18 m (2 : Int32)) ?_
  refine S.iloadN 1 (hb hby own_d_jdk_52_method_2_code_0) rfl ?_
  refine S.scall 4 (hb hby own_d_jdk_52_method_2_code_1) (by rw [hml]; rfl) (Tw hw 85 rfl) (Tw hw 86 rfl) (Tw hw 20 rfl) (Tw hw 87 rfl) (by decide) [(.int (2 : Int32))] [] (Con.pay (W := 0) (own_nbl l Z a0 hw h0 n0 S.old 2 (by decide)) (Tw hw 87 rfl) (Tw hw 20 rfl) (by decide) (by decide)) (lenOf own_pd_21 rfl) rfl (Nle rfl) (by decide) (by decide) Wrs.nil ?_
  intro v277 T278 h279 L280 S281 q282 K283
  obtain ⟨rfl, e_q282⟩ := q282
  obtain rfl := e_q282.symm
  show Go p e below _ T278 (mkF m 4 #[.val (.int (2 : Int32))] [(.int (4 : Int32))])
  refine S281.newarr 6 4 (hb hby own_d_jdk_52_method_2_code_4) (Tw hw 22 rfl) (by decide) (by decide) (by decide) (by decide) (by decide) ?_
  intro T284 h285 b286 k287 S288 E289 g290 wo291 A292
  have f293 : Arv Z h285 b286 k287 .byte (4 : Int32) [(.int (0 : Int32)), (.int (0 : Int32)), (.int (0 : Int32)), (.int (0 : Int32))] (.int (0 : Int32)) := A292.pad (pad_rep [] (.int (0 : Int32)) 4)
  exact S288.retA (hb hby own_d_jdk_52_method_2_code_6) hret rfl rfl (by decide) (by decide) ⟨_, _, rfl, (by rcases wo291 with z | z; exact absurd z List.not_mem_nil; exact z), f293⟩


set_option maxRecDepth 65536 in
set_option maxHeartbeats 4000000 in
theorem own_toB16_2 (l : Launch) (Z : State) (a0 : Array Value) (hw : ∀ d ∈ tables_1, d.before a0 Z = true) (us : U16s Z) (h0 : Heap) (n0 : Nat) (O : Old Z n0 h0) (b : Addr) (kc : ClassId) (dc : Value) (c0 : Int32) (c1 : Int32) (A : Arv Z h0 b kc .char (2 : Int32) [(.int c0), (.int c1)] dc) (u0 : U16 c0) (u1 : U16 c1) :
    Con l Z n0 (⟨"java/lang/StringUTF16", "toBytes", "([CII)[B"⟩ : MethodName) jdk_52_method_14_code 5 (some (.array .byte)) [] ({ frames := 2, cells := 1, slots := 4, locals := 40 } : Room) #[(.ref b), (.int (0 : Int32)), (.int (2 : Int32))] h0 [] (fun v h' => ∃ t kb, v = some (.ref t) ∧ h0.size ≤ t ∧ Arv Z h' t kb .byte (4 : Int32) (StrChars.Road.wideBytes ([c0, c1] : List Int32)) (.int 0)) := by
  refine Con.of a0 (plainFor_of_name own_pn_6) O (fun _ q => nomatch q) [] (fun _ q => nomatch q) ?_
  intro p e s m below meth cdX T S hby hml hret hnm
  refine Go.cast (own_ef_22 m b (0 : Int32) (2 : Int32)) ?_
  refine S.iloadN 1 (hb hby own_d_jdk_52_method_14_code_0) rfl ?_
  refine S.scall 4 (hb hby own_d_jdk_52_method_14_code_1) (by rw [hml]; rfl) (Tw hw 82 rfl) (Tw hw 83 rfl) (Tw hw 20 rfl) (Tw hw 84 rfl) (by decide) [(.int (2 : Int32))] [] (Con.pay (W := 0) (own_nbf_2 l Z a0 hw h0 n0 S.old) (Tw hw 84 rfl) (Tw hw 20 rfl) (by decide) (by decide)) (lenOf own_pd_23 rfl) rfl (Nle rfl) (by decide) (by decide) Wrs.nil ?_
  intro v294 T295 h296 L297 S298 q299 K300
  obtain ⟨t301, kb302, rfl, g303, A304⟩ := q299
  have l305 : b < t301 := Nat.lt_of_lt_of_le A.lt g303
  have wo306 : Wok n0 h0 [] t301 := Or.inr g303
  have S307 := S298.addF A304.lt
  show Go p e below _ T295 (mkF m 4 #[.val (.ref b), .val (.int (0 : Int32)), .val (.int (2 : Int32)), .unset, .unset] [(.ref t301)])
  refine S307.astoreN 5 #[.val (.ref b), .val (.int (0 : Int32)), .val (.int (2 : Int32)), .val (.ref t301), .unset] (hb hby own_d_jdk_52_method_14_code_4) rfl rfl ?_
  refine S307.iconst 6 (0 : Int32) (hb hby own_d_jdk_52_method_14_code_5) ?_
  refine S307.istore 8 #[.val (.ref b), .val (.int (0 : Int32)), .val (.int (2 : Int32)), .val (.ref t301), .val (.int (0 : Int32))] (hb hby own_d_jdk_52_method_14_code_6) rfl ?_
  refine S307.iload 10 (hb hby own_d_jdk_52_method_14_code_8) rfl ?_
  refine S307.iloadN 11 (hb hby own_d_jdk_52_method_14_code_10) rfl ?_
  refine S307.icmpN 14 (hb hby own_d_jdk_52_method_14_code_11) (qGeF (by decide)) ?_
  refine S307.aloadN 15 (hb hby own_d_jdk_52_method_14_code_14) rfl rfl ?_
  refine S307.iload 17 (hb hby own_d_jdk_52_method_14_code_15) rfl ?_
  refine S307.aloadN 18 (hb hby own_d_jdk_52_method_14_code_17) rfl rfl ?_
  refine S307.iloadN 19 (hb hby own_d_jdk_52_method_14_code_18) rfl ?_
  have f308 := (A.keep K300 nin0)
  refine S307.caload (v := .int c0) 20 (hb hby own_d_jdk_52_method_14_code_19) f308 ⟨by decide, by decide⟩ rfl ?_
  refine S307.scall 23 (hb hby own_d_jdk_52_method_14_code_20) (by rw [hml]; rfl) (Tw hw 89 rfl) (Tw hw 90 rfl) (Tw hw 20 rfl) (Tw hw 91 rfl) (by decide) [(.ref t301), (.int (0 : Int32)), (.int c0)] [] (Con.pay (W := 0) (own_put l Z a0 hw us h296 n0 S307.old t301 kb302 2 [(.int (0 : Int32)), (.int (0 : Int32)), (.int (0 : Int32)), (.int (0 : Int32))] (.int 0) 0 c0 (S307.ge wo306) (by decide) (by decide) rfl A304) (Tw hw 91 rfl) (Tw hw 20 rfl) (by decide) (by decide)) (lenOf own_pd_24 rfl) rfl (Nle rfl) (by decide) (by decide) (Wrs.one wo306 (Or.inl (by simp))) ?_
  intro v309 T310 h311 L312 S313 q314 K315
  obtain ⟨rfl, A316⟩ := q314
  have f317 : Arv Z h311 t301 kb302 .byte (4 : Int32) [(.int (StrChars.lo8 c0)), (.int (StrChars.hi8 c0)), (.int (0 : Int32)), (.int (0 : Int32))] (.int 0) := A316
  show Go p e below _ T310 (mkF m 23 #[.val (.ref b), .val (.int (0 : Int32)), .val (.int (2 : Int32)), .val (.ref t301), .val (.int (0 : Int32))] [])
  refine S313.iinc 26 #[.val (.ref b), .val (.int ((0 : Int32) + (1 : Int32))), .val (.int (2 : Int32)), .val (.ref t301), .val (.int (0 : Int32))] (hb hby own_d_jdk_52_method_14_code_23) rfl rfl ?_
  rw [show ((0 : Int32) + (1 : Int32)) = (1 : Int32) from by decide]
  refine S313.iinc 29 #[.val (.ref b), .val (.int (1 : Int32)), .val (.int (2 : Int32)), .val (.ref t301), .val (.int ((0 : Int32) + (1 : Int32)))] (hb hby own_d_jdk_52_method_14_code_26) rfl rfl ?_
  rw [show ((0 : Int32) + (1 : Int32)) = (1 : Int32) from by decide]
  refine S313.goto 8 (hb hby own_d_jdk_52_method_14_code_29) ?_
  refine S313.iload 10 (hb hby own_d_jdk_52_method_14_code_8) rfl ?_
  refine S313.iloadN 11 (hb hby own_d_jdk_52_method_14_code_10) rfl ?_
  refine S313.icmpN 14 (hb hby own_d_jdk_52_method_14_code_11) (qGeF (by decide)) ?_
  refine S313.aloadN 15 (hb hby own_d_jdk_52_method_14_code_14) rfl rfl ?_
  refine S313.iload 17 (hb hby own_d_jdk_52_method_14_code_15) rfl ?_
  refine S313.aloadN 18 (hb hby own_d_jdk_52_method_14_code_17) rfl rfl ?_
  refine S313.iloadN 19 (hb hby own_d_jdk_52_method_14_code_18) rfl ?_
  have f318 := (f308.keep K315 (ninS (Nat.ne_of_lt l305) nin0))
  refine S313.caload (v := .int c1) 20 (hb hby own_d_jdk_52_method_14_code_19) f318 ⟨by decide, by decide⟩ rfl ?_
  refine S313.scall 23 (hb hby own_d_jdk_52_method_14_code_20) (by rw [hml]; rfl) (Tw hw 89 rfl) (Tw hw 90 rfl) (Tw hw 20 rfl) (Tw hw 91 rfl) (by decide) [(.ref t301), (.int (1 : Int32)), (.int c1)] [] (Con.pay (W := 0) (own_put l Z a0 hw us h311 n0 S313.old t301 kb302 2 [(.int (StrChars.lo8 c0)), (.int (StrChars.hi8 c0)), (.int (0 : Int32)), (.int (0 : Int32))] (.int 0) 1 c1 (S313.ge wo306) (by decide) (by decide) rfl f317) (Tw hw 91 rfl) (Tw hw 20 rfl) (by decide) (by decide)) (lenOf own_pd_24 rfl) rfl (Nle rfl) (by decide) (by decide) (Wrs.one wo306 (Or.inl (by simp))) ?_
  intro v319 T320 h321 L322 S323 q324 K325
  obtain ⟨rfl, A326⟩ := q324
  have f327 : Arv Z h321 t301 kb302 .byte (4 : Int32) [(.int (StrChars.lo8 c0)), (.int (StrChars.hi8 c0)), (.int (StrChars.lo8 c1)), (.int (StrChars.hi8 c1))] (.int 0) := A326
  show Go p e below _ T320 (mkF m 23 #[.val (.ref b), .val (.int (1 : Int32)), .val (.int (2 : Int32)), .val (.ref t301), .val (.int (1 : Int32))] [])
  refine S323.iinc 26 #[.val (.ref b), .val (.int ((1 : Int32) + (1 : Int32))), .val (.int (2 : Int32)), .val (.ref t301), .val (.int (1 : Int32))] (hb hby own_d_jdk_52_method_14_code_23) rfl rfl ?_
  rw [show ((1 : Int32) + (1 : Int32)) = (2 : Int32) from by decide]
  refine S323.iinc 29 #[.val (.ref b), .val (.int (2 : Int32)), .val (.int (2 : Int32)), .val (.ref t301), .val (.int ((1 : Int32) + (1 : Int32)))] (hb hby own_d_jdk_52_method_14_code_26) rfl rfl ?_
  rw [show ((1 : Int32) + (1 : Int32)) = (2 : Int32) from by decide]
  refine S323.goto 8 (hb hby own_d_jdk_52_method_14_code_29) ?_
  refine S323.iload 10 (hb hby own_d_jdk_52_method_14_code_8) rfl ?_
  refine S323.iloadN 11 (hb hby own_d_jdk_52_method_14_code_10) rfl ?_
  refine S323.icmpY 32 (hb hby own_d_jdk_52_method_14_code_11) (qGeT (by decide)) ?_
  refine S323.aloadN 33 (hb hby own_d_jdk_52_method_14_code_32) rfl rfl ?_
  exact S323.retA (hb hby own_d_jdk_52_method_14_code_33) hret rfl rfl (by decide) (by decide) ⟨_, _, rfl, g303, f327⟩


set_option maxRecDepth 65536 in
set_option maxHeartbeats 4000000 in
theorem own_cmp3_2 (l : Launch) (Z : State) (a0 : Array Value) (hw : ∀ d ∈ tables_1, d.before a0 Z = true) (us : U16s Z) (h0 : Heap) (n0 : Nat) (O : Old Z n0 h0) (b : Addr) (kc : ClassId) (dc : Value) (c0 : Int32) (c1 : Int32) (A : Arv Z h0 b kc .char (2 : Int32) [(.int c0), (.int c1)] dc) (u0 : U16 c0) (u1 : U16 c1) (hx : (255 : Int32) < c0 ∨ (255 : Int32) < c1) :
    Con l Z n0 (⟨"java/lang/StringUTF16", "compress", "([CII)[B"⟩ : MethodName) jdk_52_method_16_code 6 (some (.array .byte)) [] ({ frames := 3, cells := 2, slots := 6, locals := 60 } : Room) #[(.ref b), (.int (0 : Int32)), (.int (2 : Int32))] h0 [] (fun v h' => ∃ t kb, v = some (.ref t) ∧ h0.size ≤ t ∧ Arv Z h' t kb .byte (4 : Int32) (StrChars.Road.wideBytes ([c0, c1] : List Int32)) (.int 0)) := by
  refine Con.of a0 (plainFor_of_name own_pn_6) O (fun _ q => nomatch q) [] (fun _ q => nomatch q) ?_
  intro p e s m below meth cdX T S hby hml hret hnm
  refine Go.cast (own_ef_25 m b (0 : Int32) (2 : Int32)) ?_
  refine S.iloadN 1 (hb hby own_d_jdk_52_method_16_code_0) rfl ?_
  refine S.newarr 3 2 (hb hby own_d_jdk_52_method_16_code_1) (Tw hw 22 rfl) (by decide) (by decide) (by decide) (by decide) (by decide) ?_
  intro T328 h329 b330 k331 S332 E333 g334 wo335 A336
  have l337 : b < b330 := (by rw [g334]; exact A.lt)
  have f338 : Arv Z h329 b330 k331 .byte (2 : Int32) [(.int (0 : Int32)), (.int (0 : Int32))] (.int (0 : Int32)) := A336.pad (pad_rep [] (.int (0 : Int32)) 2)
  refine S332.astoreN 4 #[.val (.ref b), .val (.int (0 : Int32)), .val (.int (2 : Int32)), .val (.ref b330), .unset, .unset] (hb hby own_d_jdk_52_method_16_code_3) rfl rfl ?_
  refine S332.aloadN 5 (hb hby own_d_jdk_52_method_16_code_4) rfl rfl ?_
  refine S332.iloadN 6 (hb hby own_d_jdk_52_method_16_code_5) rfl ?_
  refine S332.aloadN 7 (hb hby own_d_jdk_52_method_16_code_6) rfl rfl ?_
  refine S332.iconst 8 (0 : Int32) (hb hby own_d_jdk_52_method_16_code_7) ?_
  refine S332.iloadN 9 (hb hby own_d_jdk_52_method_16_code_8) rfl ?_
  by_cases g0 : (255 : Int32) < c0
  · skip
    have f339 := (A.ext E333)
    refine S332.scall 12 (hb hby own_d_jdk_52_method_16_code_9) (by rw [hml]; rfl) (Tw hw 23 rfl) (Tw hw 24 rfl) (Tw hw 20 rfl) (Tw hw 25 rfl) (by decide) [(.ref b), (.int (0 : Int32)), (.ref b330), (.int (0 : Int32)), (.int (2 : Int32))] [] (Con.pay (W := 0) (own_cmp5_2_0 l Z a0 hw h329 n0 S332.old b kc dc b330 k331 c0 c1 (S332.ge wo335) f339 f338 (Nat.ne_of_lt l337) g0) (Tw hw 25 rfl) (Tw hw 20 rfl) (by decide) (by decide)) (lenOf own_pd_26 rfl) rfl (Nle rfl) (by decide) (by decide) (Wrs.one wo335 (Or.inl (by simp))) ?_
    intro v340 T341 h342 L343 S344 q345 K346
    obtain rfl := q345
    show Go p e below _ T341 (mkF m 12 #[.val (.ref b), .val (.int (0 : Int32)), .val (.int (2 : Int32)), .val (.ref b330), .unset, .unset] [(.int (0 : Int32))])
    refine S344.istore 14 #[.val (.ref b), .val (.int (0 : Int32)), .val (.int (2 : Int32)), .val (.ref b330), .val (.int (0 : Int32)), .unset] (hb hby own_d_jdk_52_method_16_code_12) rfl ?_
    refine S344.iload 16 (hb hby own_d_jdk_52_method_16_code_14) rfl ?_
    refine S344.iloadN 17 (hb hby own_d_jdk_52_method_16_code_16) rfl ?_
    refine S344.icmpN 20 (hb hby own_d_jdk_52_method_16_code_17) (qEqF (by decide)) ?_
    refine S344.aloadN 21 (hb hby own_d_jdk_52_method_16_code_20) rfl rfl ?_
    refine S344.iloadN 22 (hb hby own_d_jdk_52_method_16_code_21) rfl ?_
    refine S344.iloadN 23 (hb hby own_d_jdk_52_method_16_code_22) rfl ?_
    have f347 := (f339.keep K346 (ninS (Nat.ne_of_lt l337) nin0))
    refine S344.scall 26 (hb hby own_d_jdk_52_method_16_code_23) (by rw [hml]; rfl) (Tw hw 79 rfl) (Tw hw 80 rfl) (Tw hw 20 rfl) (Tw hw 81 rfl) (by decide) [(.ref b), (.int (0 : Int32)), (.int (2 : Int32))] [] (Con.pay (W := 0) (own_toB16_2 l Z a0 hw us h342 n0 S344.old b kc dc c0 c1 f347 u0 u1) (Tw hw 81 rfl) (Tw hw 20 rfl) (by decide) (by decide)) (lenOf own_pd_27 rfl) rfl (Nle rfl) (by decide) (by decide) Wrs.nil ?_
    intro v348 T349 h350 L351 S352 q353 K354
    obtain ⟨t355, kb356, rfl, g357, A358⟩ := q353
    show Go p e below _ T349 (mkF m 26 #[.val (.ref b), .val (.int (0 : Int32)), .val (.int (2 : Int32)), .val (.ref b330), .val (.int (0 : Int32)), .unset] [(.ref t355)])
    refine S352.astore 28 #[.val (.ref b), .val (.int (0 : Int32)), .val (.int (2 : Int32)), .val (.ref b330), .val (.int (0 : Int32)), .val (.ref t355)] (hb hby own_d_jdk_52_method_16_code_26) rfl rfl ?_
    refine S352.aload 30 (hb hby own_d_jdk_52_method_16_code_28) rfl rfl ?_
    refine S352.iload 32 (hb hby own_d_jdk_52_method_16_code_30) rfl ?_
    refine S352.scall 35 (hb hby own_d_jdk_52_method_16_code_32) (by rw [hml]; rfl) (Tw hw 95 rfl) (Tw hw 96 rfl) (Tw hw 20 rfl) (Tw hw 97 rfl) (by decide) [(.ref t355), (.int (0 : Int32))] [] (Con.pay (W := 0) (own_getC l Z a0 hw us h350 n0 S352.old t355 kb356 2 (StrChars.Road.wideBytes ([c0, c1] : List Int32)) (.int 0) 0 (StrChars.lo8 c0) (StrChars.hi8 c0) (by decide) A358 (by decide) rfl rfl) (Tw hw 97 rfl) (Tw hw 20 rfl) (by decide) (by decide)) (lenOf own_pd_16 rfl) rfl (Nle rfl) (by decide) (by decide) Wrs.nil ?_
    intro v359 T360 h361 L362 S363 q364 K365
    rw [StrChars.pair_says u0.1 u0.2, U16.nar u0] at q364
    obtain ⟨rfl, e_q364⟩ := q364
    obtain rfl := e_q364.symm
    show Go p e below _ T360 (mkF m 35 #[.val (.ref b), .val (.int (0 : Int32)), .val (.int (2 : Int32)), .val (.ref b330), .val (.int (0 : Int32)), .val (.ref t355)] [(.int c0)])
    refine S363.sipush 38 (255 : Int32) (hb hby own_d_jdk_52_method_16_code_35) ?_
    refine S363.icmpY 54 (hb hby own_d_jdk_52_method_16_code_38) (qGtT g0) ?_
    refine S363.aload 56 (hb hby own_d_jdk_52_method_16_code_54) rfl rfl ?_
    exact S363.retA (hb hby own_d_jdk_52_method_16_code_56) hret rfl rfl (by decide) (by decide) ⟨_, _, rfl, Nat.le_trans S344.kept.1 g357, A358⟩
  by_cases g1 : (255 : Int32) < c1
  · skip
    have f366 := (A.ext E333)
    refine S332.scall 12 (hb hby own_d_jdk_52_method_16_code_9) (by rw [hml]; rfl) (Tw hw 23 rfl) (Tw hw 24 rfl) (Tw hw 20 rfl) (Tw hw 25 rfl) (by decide) [(.ref b), (.int (0 : Int32)), (.ref b330), (.int (0 : Int32)), (.int (2 : Int32))] [] (Con.pay (W := 0) (own_cmp5_2_1 l Z a0 hw h329 n0 S332.old b kc dc b330 k331 c0 c1 (S332.ge wo335) f366 f338 (Nat.ne_of_lt l337) g0 g1) (Tw hw 25 rfl) (Tw hw 20 rfl) (by decide) (by decide)) (lenOf own_pd_26 rfl) rfl (Nle rfl) (by decide) (by decide) (Wrs.one wo335 (Or.inl (by simp))) ?_
    intro v367 T368 h369 L370 S371 q372 K373
    obtain rfl := q372
    show Go p e below _ T368 (mkF m 12 #[.val (.ref b), .val (.int (0 : Int32)), .val (.int (2 : Int32)), .val (.ref b330), .unset, .unset] [(.int (1 : Int32))])
    refine S371.istore 14 #[.val (.ref b), .val (.int (0 : Int32)), .val (.int (2 : Int32)), .val (.ref b330), .val (.int (1 : Int32)), .unset] (hb hby own_d_jdk_52_method_16_code_12) rfl ?_
    refine S371.iload 16 (hb hby own_d_jdk_52_method_16_code_14) rfl ?_
    refine S371.iloadN 17 (hb hby own_d_jdk_52_method_16_code_16) rfl ?_
    refine S371.icmpN 20 (hb hby own_d_jdk_52_method_16_code_17) (qEqF (by decide)) ?_
    refine S371.aloadN 21 (hb hby own_d_jdk_52_method_16_code_20) rfl rfl ?_
    refine S371.iloadN 22 (hb hby own_d_jdk_52_method_16_code_21) rfl ?_
    refine S371.iloadN 23 (hb hby own_d_jdk_52_method_16_code_22) rfl ?_
    have f374 := (f366.keep K373 (ninS (Nat.ne_of_lt l337) nin0))
    refine S371.scall 26 (hb hby own_d_jdk_52_method_16_code_23) (by rw [hml]; rfl) (Tw hw 79 rfl) (Tw hw 80 rfl) (Tw hw 20 rfl) (Tw hw 81 rfl) (by decide) [(.ref b), (.int (0 : Int32)), (.int (2 : Int32))] [] (Con.pay (W := 0) (own_toB16_2 l Z a0 hw us h369 n0 S371.old b kc dc c0 c1 f374 u0 u1) (Tw hw 81 rfl) (Tw hw 20 rfl) (by decide) (by decide)) (lenOf own_pd_27 rfl) rfl (Nle rfl) (by decide) (by decide) Wrs.nil ?_
    intro v375 T376 h377 L378 S379 q380 K381
    obtain ⟨t382, kb383, rfl, g384, A385⟩ := q380
    show Go p e below _ T376 (mkF m 26 #[.val (.ref b), .val (.int (0 : Int32)), .val (.int (2 : Int32)), .val (.ref b330), .val (.int (1 : Int32)), .unset] [(.ref t382)])
    refine S379.astore 28 #[.val (.ref b), .val (.int (0 : Int32)), .val (.int (2 : Int32)), .val (.ref b330), .val (.int (1 : Int32)), .val (.ref t382)] (hb hby own_d_jdk_52_method_16_code_26) rfl rfl ?_
    refine S379.aload 30 (hb hby own_d_jdk_52_method_16_code_28) rfl rfl ?_
    refine S379.iload 32 (hb hby own_d_jdk_52_method_16_code_30) rfl ?_
    refine S379.scall 35 (hb hby own_d_jdk_52_method_16_code_32) (by rw [hml]; rfl) (Tw hw 95 rfl) (Tw hw 96 rfl) (Tw hw 20 rfl) (Tw hw 97 rfl) (by decide) [(.ref t382), (.int (1 : Int32))] [] (Con.pay (W := 0) (own_getC l Z a0 hw us h377 n0 S379.old t382 kb383 2 (StrChars.Road.wideBytes ([c0, c1] : List Int32)) (.int 0) 1 (StrChars.lo8 c1) (StrChars.hi8 c1) (by decide) A385 (by decide) rfl rfl) (Tw hw 97 rfl) (Tw hw 20 rfl) (by decide) (by decide)) (lenOf own_pd_16 rfl) rfl (Nle rfl) (by decide) (by decide) Wrs.nil ?_
    intro v386 T387 h388 L389 S390 q391 K392
    rw [StrChars.pair_says u1.1 u1.2, U16.nar u1] at q391
    obtain ⟨rfl, e_q391⟩ := q391
    obtain rfl := e_q391.symm
    show Go p e below _ T387 (mkF m 35 #[.val (.ref b), .val (.int (0 : Int32)), .val (.int (2 : Int32)), .val (.ref b330), .val (.int (1 : Int32)), .val (.ref t382)] [(.int c1)])
    refine S390.sipush 38 (255 : Int32) (hb hby own_d_jdk_52_method_16_code_35) ?_
    refine S390.icmpY 54 (hb hby own_d_jdk_52_method_16_code_38) (qGtT g1) ?_
    refine S390.aload 56 (hb hby own_d_jdk_52_method_16_code_54) rfl rfl ?_
    exact S390.retA (hb hby own_d_jdk_52_method_16_code_56) hret rfl rfl (by decide) (by decide) ⟨_, _, rfl, Nat.le_trans S371.kept.1 g384, A385⟩
  exact absurd hx (by simp [g0, g1])


set_option maxRecDepth 65536 in
set_option maxHeartbeats 4000000 in
theorem own_cod_2 (l : Launch) (Z : State) (a0 : Array Value) (hw : ∀ d ∈ tables_1, d.before a0 Z = true) (h0 : Heap) (n0 : Nat) (O : Old Z n0 h0) (t : Addr) (kt : ClassId) (vs : List Value) (d : Value) (A : Arv Z h0 t kt .byte (4 : Int32) vs d) :
    Con l Z n0 (⟨"java/lang/StringUTF16", "coderFromArrayLen", "([BI)B"⟩ : MethodName) jdk_52_method_15_code 2 (some .byte) [] ({ frames := 0, cells := 0, slots := 0, locals := 0 } : Room) #[(.ref t), (.int (2 : Int32))] h0 [] (fun v h' => v = some (.int 1) ∧ h' = h0) := by
  refine Con.of a0 (plainFor_of_name own_pn_6) O (fun _ q => nomatch q) [] (fun _ q => nomatch q) ?_
  intro p e s m below meth cdX T S hby hml hret hnm
  refine Go.cast (own_ef_14 m t (2 : Int32)) ?_
  refine S.iloadN 1 (hb hby own_d_jdk_52_method_15_code_0) rfl ?_
  refine S.aloadN 2 (hb hby own_d_jdk_52_method_15_code_1) rfl rfl ?_
  refine S.alen 3 (hb hby own_d_jdk_52_method_15_code_2) A ?_
  refine S.isub 4 (hb hby own_d_jdk_52_method_15_code_3) ?_
  show Go p e below _ T (mkF m 4 #[.val (.ref t), .val (.int (2 : Int32))] [(.int ((2 : Int32) - (4 : Int32)))])
  rw [show ((2 : Int32) - (4 : Int32)) = (-2 : Int32) from by decide]
  refine S.bipush 6 (31 : Int32) (hb hby own_d_jdk_52_method_15_code_4) ?_
  refine S.iushr 7 (hb hby own_d_jdk_52_method_15_code_6) ?_
  show Go p e below _ T (mkF m 7 #[.val (.ref t), .val (.int (2 : Int32))] [(.int (((-2 : Int32).toUInt32 >>> ((31 : Int32) &&& 31).toUInt32).toInt32))])
  refine S.i2b 8 (hb hby own_d_jdk_52_method_15_code_7) ?_
  exact S.retN (t := .byte) (hb hby own_d_jdk_52_method_15_code_8) hret (by decide) (by decide) (by decide) ⟨by decide, rfl⟩


set_option maxRecDepth 65536 in
set_option maxHeartbeats 4000000 in
theorem own_new4_2 (l : Launch) (Z : State) (a0 : Array Value) (hw : ∀ d ∈ tables_1, d.before a0 Z = true) (cm : Com Z) (us : U16s Z) (h0 : Heap) (n0 : Nat) (O : Old Z n0 h0) (x : Addr) (b : Addr) (kc : ClassId) (dc : Value) (c0 : Int32) (c1 : Int32) (ge_x : n0 ≤ x) (E : Exa Z h0 x "java/lang/String") (FV : Fld Z h0 x "java/lang/String" "value" "[B" .null) (FC : Fld Z h0 x "java/lang/String" "coder" "B" (.int 0)) (A : Arv Z h0 b kc .char (2 : Int32) [(.int c0), (.int c1)] dc) (u0 : U16 c0) (u1 : U16 c1) (hx : (255 : Int32) < c0 ∨ (255 : Int32) < c1) :
    Con l Z n0 (⟨"java/lang/String", "<init>", "([CIILjava/lang/Void;)V"⟩ : MethodName) jdk_42_method_149_code 6 none [] ({ frames := 4, cells := 2, slots := 6, locals := 80 } : Room) #[(.ref x), (.ref b), (.int (0 : Int32)), (.int (2 : Int32)), .null] h0 [x] (fun v h' => v = none ∧ ∃ t, h0.size ≤ t ∧ StrA Z h' x t ([c0, c1] : List Int32)) := by
  refine Con.of a0 (plainFor_of_name own_pn_2) O (by simp [ge_x]) [x] (by simp [E.lt]) ?_
  intro p e s m below meth cdX T S hby hml hret hnm
  refine Go.cast (own_ef_1 m x b (0 : Int32) (2 : Int32)) ?_
  refine S.aloadN 1 (hb hby own_d_jdk_42_method_149_code_0) rfl rfl ?_
  refine S.initO (W := 0) 4 (hb hby own_d_jdk_42_method_149_code_1) (by rw [hml]; rfl) (Tw hw 14 rfl) (Tw hw 15 rfl) (Tw hw 16 rfl) (by decide) (Nle rfl) (by decide) ?_
  intro T393 S394
  refine S394.iloadN 5 (hb hby own_d_jdk_42_method_149_code_4) rfl ?_
  refine S394.ifY 27 (hb hby own_d_jdk_42_method_149_code_5) (zNeT (by decide)) ?_
  obtain ⟨zc, sc, nc⟩ := id cm
  refine S394.gets (host := "") 30 (hb hby own_d_jdk_42_method_149_code_27) (Or.inl (Tw hw 17 rfl)) Via.refl (sc.ext S394.old.2) ?_
  intro T395 S396
  refine S396.ifN 33 (hb hby own_d_jdk_42_method_149_code_30) (zEqF nc) ?_
  refine S396.aloadN 34 (hb hby own_d_jdk_42_method_149_code_33) rfl rfl ?_
  refine S396.iloadN 35 (hb hby own_d_jdk_42_method_149_code_34) rfl ?_
  refine S396.iloadN 36 (hb hby own_d_jdk_42_method_149_code_35) rfl ?_
  refine S396.scall 39 (hb hby own_d_jdk_42_method_149_code_36) (by rw [hml]; rfl) (Tw hw 18 rfl) (Tw hw 19 rfl) (Tw hw 20 rfl) (Tw hw 21 rfl) (by decide) [(.ref b), (.int (0 : Int32)), (.int (2 : Int32))] [] (Con.pay (W := 0) (own_cmp3_2 l Z a0 hw us h0 n0 S396.old b kc dc c0 c1 A u0 u1 hx) (Tw hw 21 rfl) (Tw hw 20 rfl) (by decide) (by decide)) (lenOf own_pd_27 rfl) rfl (Nle rfl) (by decide) (by decide) Wrs.nil ?_
  intro v397 T398 h399 L400 S401 q402 K403
  obtain ⟨t404, kb405, rfl, g406, A407⟩ := q402
  have l408 : b < t404 := Nat.lt_of_lt_of_le A.lt g406
  have l409 : x < t404 := Nat.lt_of_lt_of_le E.lt g406
  show Go p e below _ T398 (mkF m 39 #[.val (.ref x), .val (.ref b), .val (.int (0 : Int32)), .val (.int (2 : Int32)), .val .null, .unset] [(.ref t404)])
  refine S401.astore 41 #[.val (.ref x), .val (.ref b), .val (.int (0 : Int32)), .val (.int (2 : Int32)), .val .null, .val (.ref t404)] (hb hby own_d_jdk_42_method_149_code_39) rfl rfl ?_
  refine S401.aloadN 42 (hb hby own_d_jdk_42_method_149_code_41) rfl rfl ?_
  refine S401.aload 44 (hb hby own_d_jdk_42_method_149_code_42) rfl rfl ?_
  refine S401.iloadN 45 (hb hby own_d_jdk_42_method_149_code_44) rfl ?_
  refine S401.scall 48 (hb hby own_d_jdk_42_method_149_code_45) (by rw [hml]; rfl) (Tw hw 26 rfl) (Tw hw 27 rfl) (Tw hw 20 rfl) (Tw hw 28 rfl) (by decide) [(.ref t404), (.int (2 : Int32))] [(.ref x)] (Con.pay (W := 1) (own_cod_2 l Z a0 hw h399 n0 S401.old t404 kb405 (StrChars.Road.wideBytes ([c0, c1] : List Int32)) (.int 0) A407) (Tw hw 28 rfl) (Tw hw 20 rfl) (by decide) (by decide)) (lenOf own_pd_28 rfl) rfl (Nle rfl) (by decide) (by decide) Wrs.nil ?_
  intro v410 T411 h412 L413 S414 q415 K416
  obtain ⟨rfl, e_q415⟩ := q415
  obtain rfl := e_q415.symm
  show Go p e below _ T411 (mkF m 48 #[.val (.ref x), .val (.ref b), .val (.int (0 : Int32)), .val (.int (2 : Int32)), .val .null, .val (.ref t404)] [(.int (1 : Int32)), (.ref x)])
  have f417 := (FC.keep K403 nin0)
  have f418 := (E.keep K403)
  refine S414.putf (host := "") (ty := .byte) 51 (hb hby own_d_jdk_42_method_149_code_48) (Or.inl (Tw hw 29 rfl)) Via.refl f417 f418 (Or.inr ⟨(Tw hw 30 rfl), rfl, hnm⟩) (Tw hw 5 rfl) (by decide) rfl rfl (Or.inl (by simp)) (Or.inr (by simp)) ?_
  intro T419 h420 L421 S422 W423
  have f424 := f417.same W423
  refine S422.aloadN 52 (hb hby own_d_jdk_42_method_149_code_51) rfl rfl ?_
  refine S422.aload 54 (hb hby own_d_jdk_42_method_149_code_52) rfl rfl ?_
  have f425 := ((FV.keep K403 nin0).other W423 (Or.inr (slot_ne (t := (.array .byte)) (t' := .byte) (Or.inr (Tw hw 32 rfl)) (Or.inr (Tw hw 30 rfl)) (by decide) (by decide) (by decide))))
  have f426 := (f418.wr W423)
  refine S422.putf (host := "") (ty := (.array .byte)) 57 (hb hby own_d_jdk_42_method_149_code_54) (Or.inl (Tw hw 31 rfl)) Via.refl f425 f426 (Or.inr ⟨(Tw hw 32 rfl), rfl, hnm⟩) (Tw hw 5 rfl) (by decide) rfl rfl (Or.inl (by simp)) (Or.inr (by simp)) ?_
  intro T427 h428 L429 S430 W431
  have f432 := f425.same W431
  have f433 := (f426.wr W431)
  have f434 := (f424.other W431 (Or.inr (slot_ne (t := .byte) (t' := (.array .byte)) (Or.inr (Tw hw 30 rfl)) (Or.inr (Tw hw 32 rfl)) (by decide) (by decide) (by decide))))
  have f435 := ((A407.other W423 (Nat.ne_of_gt l409)).other W431 (Nat.ne_of_gt l409))
  exact S430.ret0 (hb hby own_d_jdk_42_method_149_code_57) hret (by decide) (by decide) ⟨rfl, t404, Nat.le_trans S396.kept.1 g406, ⟨⟨_, 1, _, _, f433, f432, f434, f435, Or.inr ⟨rfl, rfl, rfl, by simpa using hx⟩⟩, by simp [u0, u1], Nle rfl⟩⟩


set_option maxRecDepth 65536 in
set_option maxHeartbeats 4000000 in
theorem own_new1_2 (l : Launch) (Z : State) (a0 : Array Value) (hw : ∀ d ∈ tables_1, d.before a0 Z = true) (cm : Com Z) (us : U16s Z) (h0 : Heap) (n0 : Nat) (O : Old Z n0 h0) (x : Addr) (b : Addr) (kc : ClassId) (dc : Value) (c0 : Int32) (c1 : Int32) (ge_x : n0 ≤ x) (E : Exa Z h0 x "java/lang/String") (FV : Fld Z h0 x "java/lang/String" "value" "[B" .null) (FC : Fld Z h0 x "java/lang/String" "coder" "B" (.int 0)) (A : Arv Z h0 b kc .char (2 : Int32) [(.int c0), (.int c1)] dc) (u0 : U16 c0) (u1 : U16 c1) (hx : (255 : Int32) < c0 ∨ (255 : Int32) < c1) :
    Con l Z n0 (⟨"java/lang/String", "<init>", "([C)V"⟩ : MethodName) jdk_42_method_3_code 2 none [] ({ frames := 5, cells := 2, slots := 6, locals := 105 } : Room) #[(.ref x), (.ref b)] h0 [x] (fun v h' => v = none ∧ ∃ t, h0.size ≤ t ∧ StrA Z h' x t ([c0, c1] : List Int32)) := by
  refine Con.of a0 (plainFor_of_name own_pn_2) O (by simp [ge_x]) [x] (by simp [E.lt]) ?_
  intro p e s m below meth cdX T S hby hml hret hnm
  refine Go.cast (own_ef_3 m x b) ?_
  refine S.aloadN 1 (hb hby own_d_jdk_42_method_3_code_0) rfl rfl ?_
  refine S.aloadN 2 (hb hby own_d_jdk_42_method_3_code_1) rfl rfl ?_
  refine S.iconst 3 (0 : Int32) (hb hby own_d_jdk_42_method_3_code_2) ?_
  refine S.aloadN 4 (hb hby own_d_jdk_42_method_3_code_3) rfl rfl ?_
  refine S.alen 5 (hb hby own_d_jdk_42_method_3_code_4) A ?_
  refine S.anull 6 (hb hby own_d_jdk_42_method_3_code_5) ?_
  refine S.icall 9 (hb hby own_d_jdk_42_method_3_code_6) (by rw [hml]; rfl) rfl (Tw hw 10 rfl) (Tw hw 11 rfl) (Tw hw 13 rfl) (by decide) [(.ref b), (.int (0 : Int32)), (.int (2 : Int32)), .null] [] (Con.pay (W := 0) (own_new4_2 l Z a0 hw cm us h0 n0 S.old x b kc dc c0 c1 ge_x E FV FC A u0 u1 hx) (Tw hw 13 rfl) (Tw hw 6 rfl) (by decide) (by decide)) (lenOf own_pd_4 rfl) rfl (Nle rfl) (by decide) (by decide) (Wrs.one (Or.inl (by simp)) (Or.inl (by simp))) ?_
  intro v436 T437 h438 L439 S440 q441 K442
  obtain ⟨rfl, te, ge, fe⟩ := q441
  show Go p e below _ T437 (mkF m 9 #[.val (.ref x), .val (.ref b)] [])
  exact S440.ret0 (hb hby own_d_jdk_42_method_3_code_9) hret (by decide) (by decide) ⟨rfl, te, ge, fe⟩

theorem payNewA_2 {a0 : Array Value} {p : Program} {l : Launch} {e : Env} {R : Room} {args : Array Value} {below : List Frame} {Z s : State} {n0 : Nat} {h : Heap} {x b : Addr} {kc : ClassId} {dc : Value} {W : Nat} (c0 : Int32) (c1 : Int32)  (hw : ∀ d ∈ tables_1, d.before a0 Z = true) (cm : Com Z) (us : U16s Z) (O : Old Z n0 h) (hx0 : n0 ≤ x) (E : Exa Z h x "java/lang/String") (V : Fld Z h x "java/lang/String" "value" "[B" .null) (C : Fld Z h x "java/lang/String" "coder" "B" (.int 0)) (A : Arv Z h b kc .char (2 : Int32) [(.int c0), (.int c1)] dc) (u0 : U16 c0) (u1 : U16 c1) (hfr : 6 ≤ R.frames) (hlo : W + 118 ≤ R.locals) :
    Pay l R p e below args Z s n0 ⟨"java/lang/String", "<init>", "([C)V"⟩ 3 W #[.ref x, .ref b] h [x] 2 6 (fun v h' => v = none ∧ ∃ t, h.size ≤ t ∧ StrA Z h' x t ([c0, c1] : List Int32)) := by
  by_cases hx : (255 : Int32) < c0 ∨ (255 : Int32) < c1
  · exact Con.pay (own_new1_2 l Z a0 hw cm us h n0 O x b kc dc c0 c1 hx0 E V C A u0 u1 hx) (Tw hw 9 rfl) (Tw hw 6 rfl) (by show 5 + 1 ≤ _; omega) (by show W + (2 + 11) + 105 ≤ _; omega)
  · have hp : ∀ c ∈ ([c0, c1] : List Int32), ¬ c < 0 ∧ ¬ (255 : Int32) < c := by
      intro c hc
      simp only [List.mem_cons, List.not_mem_nil, or_false] at hc
      try simp only [not_or] at hx
      rcases hc with rfl | rfl
      · exact ⟨u0.1, hx.1⟩
      · exact ⟨u1.1, hx.2⟩
    refine Pay.mono (Pay.weak (payNew (n := 2) (cs := ([c0, c1] : List Int32)) hw (Tw hw 5 rfl) cm O hx0 E V C A rfl rfl (by decide) (by decide) hp (by omega) (by omega)) ?_) (by decide) (by decide)
    rintro v h' ⟨rfl, t, g, F⟩
    exact ⟨rfl, t, g, StrA.of F⟩

set_option maxRecDepth 65536 in
set_option maxHeartbeats 4000000 in
theorem own_cmp5_3_0 (l : Launch) (Z : State) (a0 : Array Value) (hw : ∀ d ∈ tables_1, d.before a0 Z = true) (h0 : Heap) (n0 : Nat) (O : Old Z n0 h0) (b : Addr) (kc : ClassId) (dc : Value) (t : Addr) (kt : ClassId) (c0 : Int32) (c1 : Int32) (c2 : Int32) (ge_t : n0 ≤ t) (A : Arv Z h0 b kc .char (3 : Int32) [(.int c0), (.int c1), (.int c2)] dc) (B : Arv Z h0 t kt .byte (3 : Int32) [(.int 0), (.int 0), (.int 0)] (.int 0)) (hne : b ≠ t) (g0 : (255 : Int32) < c0) :
    Con l Z n0 (⟨"java/lang/StringUTF16", "compress", "([CI[BII)I"⟩ : MethodName) jdk_52_method_21_code 7 (some .int) [] ({ frames := 0, cells := 0, slots := 0, locals := 0 } : Room) #[(.ref b), (.int (0 : Int32)), (.ref t), (.int (0 : Int32)), (.int (3 : Int32))] h0 [t] (fun v h' => v = some (.int 0)) := by
  refine Con.of a0 (plainFor_of_name own_pn_6) O (by simp [ge_t]) [t] (by simp [B.lt]) ?_
  intro p e s m below meth cdX T S hby hml hret hnm
  refine Go.cast (own_ef_20 m b (0 : Int32) t (0 : Int32) (3 : Int32)) ?_
  refine S.iconst 1 (0 : Int32) (hb hby own_d_jdk_52_method_21_code_0) ?_
  refine S.istore 3 #[.val (.ref b), .val (.int (0 : Int32)), .val (.ref t), .val (.int (0 : Int32)), .val (.int (3 : Int32)), .val (.int (0 : Int32)), .unset] (hb hby own_d_jdk_52_method_21_code_1) rfl ?_
  refine S.iload 5 (hb hby own_d_jdk_52_method_21_code_3) rfl ?_
  refine S.iload 7 (hb hby own_d_jdk_52_method_21_code_5) rfl ?_
  refine S.icmpN 10 (hb hby own_d_jdk_52_method_21_code_7) (qGeF (by decide)) ?_
  refine S.aloadN 11 (hb hby own_d_jdk_52_method_21_code_10) rfl rfl ?_
  refine S.iloadN 12 (hb hby own_d_jdk_52_method_21_code_11) rfl ?_
  refine S.caload (v := .int c0) 13 (hb hby own_d_jdk_52_method_21_code_12) A ⟨by decide, by decide⟩ rfl ?_
  refine S.istore 15 #[.val (.ref b), .val (.int (0 : Int32)), .val (.ref t), .val (.int (0 : Int32)), .val (.int (3 : Int32)), .val (.int (0 : Int32)), .val (.int c0)] (hb hby own_d_jdk_52_method_21_code_13) rfl ?_
  refine S.iload 17 (hb hby own_d_jdk_52_method_21_code_15) rfl ?_
  refine S.sipush 20 (255 : Int32) (hb hby own_d_jdk_52_method_21_code_17) ?_
  refine S.icmpN 23 (hb hby own_d_jdk_52_method_21_code_20) (qLeF g0) ?_
  refine S.iload 25 (hb hby own_d_jdk_52_method_21_code_23) rfl ?_
  exact S.retI (hb hby own_d_jdk_52_method_21_code_25) hret (by decide) (by decide) rfl


set_option maxRecDepth 65536 in
set_option maxHeartbeats 4000000 in
theorem own_cmp5_3_1 (l : Launch) (Z : State) (a0 : Array Value) (hw : ∀ d ∈ tables_1, d.before a0 Z = true) (h0 : Heap) (n0 : Nat) (O : Old Z n0 h0) (b : Addr) (kc : ClassId) (dc : Value) (t : Addr) (kt : ClassId) (c0 : Int32) (c1 : Int32) (c2 : Int32) (ge_t : n0 ≤ t) (A : Arv Z h0 b kc .char (3 : Int32) [(.int c0), (.int c1), (.int c2)] dc) (B : Arv Z h0 t kt .byte (3 : Int32) [(.int 0), (.int 0), (.int 0)] (.int 0)) (hne : b ≠ t) (g0 : ¬ (255 : Int32) < c0) (g1 : (255 : Int32) < c1) :
    Con l Z n0 (⟨"java/lang/StringUTF16", "compress", "([CI[BII)I"⟩ : MethodName) jdk_52_method_21_code 7 (some .int) [] ({ frames := 0, cells := 0, slots := 0, locals := 0 } : Room) #[(.ref b), (.int (0 : Int32)), (.ref t), (.int (0 : Int32)), (.int (3 : Int32))] h0 [t] (fun v h' => v = some (.int 1)) := by
  refine Con.of a0 (plainFor_of_name own_pn_6) O (by simp [ge_t]) [t] (by simp [B.lt]) ?_
  intro p e s m below meth cdX T S hby hml hret hnm
  refine Go.cast (own_ef_20 m b (0 : Int32) t (0 : Int32) (3 : Int32)) ?_
  refine S.iconst 1 (0 : Int32) (hb hby own_d_jdk_52_method_21_code_0) ?_
  refine S.istore 3 #[.val (.ref b), .val (.int (0 : Int32)), .val (.ref t), .val (.int (0 : Int32)), .val (.int (3 : Int32)), .val (.int (0 : Int32)), .unset] (hb hby own_d_jdk_52_method_21_code_1) rfl ?_
  refine S.iload 5 (hb hby own_d_jdk_52_method_21_code_3) rfl ?_
  refine S.iload 7 (hb hby own_d_jdk_52_method_21_code_5) rfl ?_
  refine S.icmpN 10 (hb hby own_d_jdk_52_method_21_code_7) (qGeF (by decide)) ?_
  refine S.aloadN 11 (hb hby own_d_jdk_52_method_21_code_10) rfl rfl ?_
  refine S.iloadN 12 (hb hby own_d_jdk_52_method_21_code_11) rfl ?_
  refine S.caload (v := .int c0) 13 (hb hby own_d_jdk_52_method_21_code_12) A ⟨by decide, by decide⟩ rfl ?_
  refine S.istore 15 #[.val (.ref b), .val (.int (0 : Int32)), .val (.ref t), .val (.int (0 : Int32)), .val (.int (3 : Int32)), .val (.int (0 : Int32)), .val (.int c0)] (hb hby own_d_jdk_52_method_21_code_13) rfl ?_
  refine S.iload 17 (hb hby own_d_jdk_52_method_21_code_15) rfl ?_
  refine S.sipush 20 (255 : Int32) (hb hby own_d_jdk_52_method_21_code_17) ?_
  refine S.icmpY 26 (hb hby own_d_jdk_52_method_21_code_20) (qLeT g0) ?_
  refine S.aloadN 27 (hb hby own_d_jdk_52_method_21_code_26) rfl rfl ?_
  refine S.iloadN 28 (hb hby own_d_jdk_52_method_21_code_27) rfl ?_
  refine S.iload 30 (hb hby own_d_jdk_52_method_21_code_28) rfl ?_
  refine S.i2b 31 (hb hby own_d_jdk_52_method_21_code_30) ?_
  refine S.bastore 32 0 (hb hby own_d_jdk_52_method_21_code_31) B ⟨by decide, by decide⟩ rfl (Nle rfl) (Or.inl (by simp)) (by simp) ?_
  intro T443 h444 L445 S446 W447 A448
  have f449 : Arv Z h444 t kt .byte (3 : Int32) [(.int (nar .byte (c0.toInt8.toInt32))), (.int (0 : Int32)), (.int (0 : Int32))] (.int 0) := A448
  refine S446.iinc 35 #[.val (.ref b), .val (.int ((0 : Int32) + (1 : Int32))), .val (.ref t), .val (.int (0 : Int32)), .val (.int (3 : Int32)), .val (.int (0 : Int32)), .val (.int c0)] (hb hby own_d_jdk_52_method_21_code_32) rfl rfl ?_
  rw [show ((0 : Int32) + (1 : Int32)) = (1 : Int32) from by decide]
  refine S446.iinc 38 #[.val (.ref b), .val (.int (1 : Int32)), .val (.ref t), .val (.int ((0 : Int32) + (1 : Int32))), .val (.int (3 : Int32)), .val (.int (0 : Int32)), .val (.int c0)] (hb hby own_d_jdk_52_method_21_code_35) rfl rfl ?_
  rw [show ((0 : Int32) + (1 : Int32)) = (1 : Int32) from by decide]
  refine S446.iinc 41 #[.val (.ref b), .val (.int (1 : Int32)), .val (.ref t), .val (.int (1 : Int32)), .val (.int (3 : Int32)), .val (.int ((0 : Int32) + (1 : Int32))), .val (.int c0)] (hb hby own_d_jdk_52_method_21_code_38) rfl rfl ?_
  rw [show ((0 : Int32) + (1 : Int32)) = (1 : Int32) from by decide]
  refine S446.goto 3 (hb hby own_d_jdk_52_method_21_code_41) ?_
  refine S446.iload 5 (hb hby own_d_jdk_52_method_21_code_3) rfl ?_
  refine S446.iload 7 (hb hby own_d_jdk_52_method_21_code_5) rfl ?_
  refine S446.icmpN 10 (hb hby own_d_jdk_52_method_21_code_7) (qGeF (by decide)) ?_
  refine S446.aloadN 11 (hb hby own_d_jdk_52_method_21_code_10) rfl rfl ?_
  refine S446.iloadN 12 (hb hby own_d_jdk_52_method_21_code_11) rfl ?_
  have f450 := (A.other W447 hne)
  refine S446.caload (v := .int c1) 13 (hb hby own_d_jdk_52_method_21_code_12) f450 ⟨by decide, by decide⟩ rfl ?_
  refine S446.istore 15 #[.val (.ref b), .val (.int (1 : Int32)), .val (.ref t), .val (.int (1 : Int32)), .val (.int (3 : Int32)), .val (.int (1 : Int32)), .val (.int c1)] (hb hby own_d_jdk_52_method_21_code_13) rfl ?_
  refine S446.iload 17 (hb hby own_d_jdk_52_method_21_code_15) rfl ?_
  refine S446.sipush 20 (255 : Int32) (hb hby own_d_jdk_52_method_21_code_17) ?_
  refine S446.icmpN 23 (hb hby own_d_jdk_52_method_21_code_20) (qLeF g1) ?_
  refine S446.iload 25 (hb hby own_d_jdk_52_method_21_code_23) rfl ?_
  exact S446.retI (hb hby own_d_jdk_52_method_21_code_25) hret (by decide) (by decide) rfl


set_option maxRecDepth 65536 in
set_option maxHeartbeats 4000000 in
theorem own_cmp5_3_2 (l : Launch) (Z : State) (a0 : Array Value) (hw : ∀ d ∈ tables_1, d.before a0 Z = true) (h0 : Heap) (n0 : Nat) (O : Old Z n0 h0) (b : Addr) (kc : ClassId) (dc : Value) (t : Addr) (kt : ClassId) (c0 : Int32) (c1 : Int32) (c2 : Int32) (ge_t : n0 ≤ t) (A : Arv Z h0 b kc .char (3 : Int32) [(.int c0), (.int c1), (.int c2)] dc) (B : Arv Z h0 t kt .byte (3 : Int32) [(.int 0), (.int 0), (.int 0)] (.int 0)) (hne : b ≠ t) (g0 : ¬ (255 : Int32) < c0) (g1 : ¬ (255 : Int32) < c1) (g2 : (255 : Int32) < c2) :
    Con l Z n0 (⟨"java/lang/StringUTF16", "compress", "([CI[BII)I"⟩ : MethodName) jdk_52_method_21_code 7 (some .int) [] ({ frames := 0, cells := 0, slots := 0, locals := 0 } : Room) #[(.ref b), (.int (0 : Int32)), (.ref t), (.int (0 : Int32)), (.int (3 : Int32))] h0 [t] (fun v h' => v = some (.int 2)) := by
  refine Con.of a0 (plainFor_of_name own_pn_6) O (by simp [ge_t]) [t] (by simp [B.lt]) ?_
  intro p e s m below meth cdX T S hby hml hret hnm
  refine Go.cast (own_ef_20 m b (0 : Int32) t (0 : Int32) (3 : Int32)) ?_
  refine S.iconst 1 (0 : Int32) (hb hby own_d_jdk_52_method_21_code_0) ?_
  refine S.istore 3 #[.val (.ref b), .val (.int (0 : Int32)), .val (.ref t), .val (.int (0 : Int32)), .val (.int (3 : Int32)), .val (.int (0 : Int32)), .unset] (hb hby own_d_jdk_52_method_21_code_1) rfl ?_
  refine S.iload 5 (hb hby own_d_jdk_52_method_21_code_3) rfl ?_
  refine S.iload 7 (hb hby own_d_jdk_52_method_21_code_5) rfl ?_
  refine S.icmpN 10 (hb hby own_d_jdk_52_method_21_code_7) (qGeF (by decide)) ?_
  refine S.aloadN 11 (hb hby own_d_jdk_52_method_21_code_10) rfl rfl ?_
  refine S.iloadN 12 (hb hby own_d_jdk_52_method_21_code_11) rfl ?_
  refine S.caload (v := .int c0) 13 (hb hby own_d_jdk_52_method_21_code_12) A ⟨by decide, by decide⟩ rfl ?_
  refine S.istore 15 #[.val (.ref b), .val (.int (0 : Int32)), .val (.ref t), .val (.int (0 : Int32)), .val (.int (3 : Int32)), .val (.int (0 : Int32)), .val (.int c0)] (hb hby own_d_jdk_52_method_21_code_13) rfl ?_
  refine S.iload 17 (hb hby own_d_jdk_52_method_21_code_15) rfl ?_
  refine S.sipush 20 (255 : Int32) (hb hby own_d_jdk_52_method_21_code_17) ?_
  refine S.icmpY 26 (hb hby own_d_jdk_52_method_21_code_20) (qLeT g0) ?_
  refine S.aloadN 27 (hb hby own_d_jdk_52_method_21_code_26) rfl rfl ?_
  refine S.iloadN 28 (hb hby own_d_jdk_52_method_21_code_27) rfl ?_
  refine S.iload 30 (hb hby own_d_jdk_52_method_21_code_28) rfl ?_
  refine S.i2b 31 (hb hby own_d_jdk_52_method_21_code_30) ?_
  refine S.bastore 32 0 (hb hby own_d_jdk_52_method_21_code_31) B ⟨by decide, by decide⟩ rfl (Nle rfl) (Or.inl (by simp)) (by simp) ?_
  intro T451 h452 L453 S454 W455 A456
  have f457 : Arv Z h452 t kt .byte (3 : Int32) [(.int (nar .byte (c0.toInt8.toInt32))), (.int (0 : Int32)), (.int (0 : Int32))] (.int 0) := A456
  refine S454.iinc 35 #[.val (.ref b), .val (.int ((0 : Int32) + (1 : Int32))), .val (.ref t), .val (.int (0 : Int32)), .val (.int (3 : Int32)), .val (.int (0 : Int32)), .val (.int c0)] (hb hby own_d_jdk_52_method_21_code_32) rfl rfl ?_
  rw [show ((0 : Int32) + (1 : Int32)) = (1 : Int32) from by decide]
  refine S454.iinc 38 #[.val (.ref b), .val (.int (1 : Int32)), .val (.ref t), .val (.int ((0 : Int32) + (1 : Int32))), .val (.int (3 : Int32)), .val (.int (0 : Int32)), .val (.int c0)] (hb hby own_d_jdk_52_method_21_code_35) rfl rfl ?_
  rw [show ((0 : Int32) + (1 : Int32)) = (1 : Int32) from by decide]
  refine S454.iinc 41 #[.val (.ref b), .val (.int (1 : Int32)), .val (.ref t), .val (.int (1 : Int32)), .val (.int (3 : Int32)), .val (.int ((0 : Int32) + (1 : Int32))), .val (.int c0)] (hb hby own_d_jdk_52_method_21_code_38) rfl rfl ?_
  rw [show ((0 : Int32) + (1 : Int32)) = (1 : Int32) from by decide]
  refine S454.goto 3 (hb hby own_d_jdk_52_method_21_code_41) ?_
  refine S454.iload 5 (hb hby own_d_jdk_52_method_21_code_3) rfl ?_
  refine S454.iload 7 (hb hby own_d_jdk_52_method_21_code_5) rfl ?_
  refine S454.icmpN 10 (hb hby own_d_jdk_52_method_21_code_7) (qGeF (by decide)) ?_
  refine S454.aloadN 11 (hb hby own_d_jdk_52_method_21_code_10) rfl rfl ?_
  refine S454.iloadN 12 (hb hby own_d_jdk_52_method_21_code_11) rfl ?_
  have f458 := (A.other W455 hne)
  refine S454.caload (v := .int c1) 13 (hb hby own_d_jdk_52_method_21_code_12) f458 ⟨by decide, by decide⟩ rfl ?_
  refine S454.istore 15 #[.val (.ref b), .val (.int (1 : Int32)), .val (.ref t), .val (.int (1 : Int32)), .val (.int (3 : Int32)), .val (.int (1 : Int32)), .val (.int c1)] (hb hby own_d_jdk_52_method_21_code_13) rfl ?_
  refine S454.iload 17 (hb hby own_d_jdk_52_method_21_code_15) rfl ?_
  refine S454.sipush 20 (255 : Int32) (hb hby own_d_jdk_52_method_21_code_17) ?_
  refine S454.icmpY 26 (hb hby own_d_jdk_52_method_21_code_20) (qLeT g1) ?_
  refine S454.aloadN 27 (hb hby own_d_jdk_52_method_21_code_26) rfl rfl ?_
  refine S454.iloadN 28 (hb hby own_d_jdk_52_method_21_code_27) rfl ?_
  refine S454.iload 30 (hb hby own_d_jdk_52_method_21_code_28) rfl ?_
  refine S454.i2b 31 (hb hby own_d_jdk_52_method_21_code_30) ?_
  refine S454.bastore 32 1 (hb hby own_d_jdk_52_method_21_code_31) f457 ⟨by decide, by decide⟩ rfl (Nle rfl) (Or.inl (by simp)) (by simp) ?_
  intro T459 h460 L461 S462 W463 A464
  have f465 : Arv Z h460 t kt .byte (3 : Int32) [(.int (nar .byte (c0.toInt8.toInt32))), (.int (nar .byte (c1.toInt8.toInt32))), (.int (0 : Int32))] (.int 0) := A464
  refine S462.iinc 35 #[.val (.ref b), .val (.int ((1 : Int32) + (1 : Int32))), .val (.ref t), .val (.int (1 : Int32)), .val (.int (3 : Int32)), .val (.int (1 : Int32)), .val (.int c1)] (hb hby own_d_jdk_52_method_21_code_32) rfl rfl ?_
  rw [show ((1 : Int32) + (1 : Int32)) = (2 : Int32) from by decide]
  refine S462.iinc 38 #[.val (.ref b), .val (.int (2 : Int32)), .val (.ref t), .val (.int ((1 : Int32) + (1 : Int32))), .val (.int (3 : Int32)), .val (.int (1 : Int32)), .val (.int c1)] (hb hby own_d_jdk_52_method_21_code_35) rfl rfl ?_
  rw [show ((1 : Int32) + (1 : Int32)) = (2 : Int32) from by decide]
  refine S462.iinc 41 #[.val (.ref b), .val (.int (2 : Int32)), .val (.ref t), .val (.int (2 : Int32)), .val (.int (3 : Int32)), .val (.int ((1 : Int32) + (1 : Int32))), .val (.int c1)] (hb hby own_d_jdk_52_method_21_code_38) rfl rfl ?_
  rw [show ((1 : Int32) + (1 : Int32)) = (2 : Int32) from by decide]
  refine S462.goto 3 (hb hby own_d_jdk_52_method_21_code_41) ?_
  refine S462.iload 5 (hb hby own_d_jdk_52_method_21_code_3) rfl ?_
  refine S462.iload 7 (hb hby own_d_jdk_52_method_21_code_5) rfl ?_
  refine S462.icmpN 10 (hb hby own_d_jdk_52_method_21_code_7) (qGeF (by decide)) ?_
  refine S462.aloadN 11 (hb hby own_d_jdk_52_method_21_code_10) rfl rfl ?_
  refine S462.iloadN 12 (hb hby own_d_jdk_52_method_21_code_11) rfl ?_
  have f466 := (f458.other W463 hne)
  refine S462.caload (v := .int c2) 13 (hb hby own_d_jdk_52_method_21_code_12) f466 ⟨by decide, by decide⟩ rfl ?_
  refine S462.istore 15 #[.val (.ref b), .val (.int (2 : Int32)), .val (.ref t), .val (.int (2 : Int32)), .val (.int (3 : Int32)), .val (.int (2 : Int32)), .val (.int c2)] (hb hby own_d_jdk_52_method_21_code_13) rfl ?_
  refine S462.iload 17 (hb hby own_d_jdk_52_method_21_code_15) rfl ?_
  refine S462.sipush 20 (255 : Int32) (hb hby own_d_jdk_52_method_21_code_17) ?_
  refine S462.icmpN 23 (hb hby own_d_jdk_52_method_21_code_20) (qLeF g2) ?_
  refine S462.iload 25 (hb hby own_d_jdk_52_method_21_code_23) rfl ?_
  exact S462.retI (hb hby own_d_jdk_52_method_21_code_25) hret (by decide) (by decide) rfl


set_option maxRecDepth 65536 in
set_option maxHeartbeats 4000000 in
theorem own_nbf_3 (l : Launch) (Z : State) (a0 : Array Value) (hw : ∀ d ∈ tables_1, d.before a0 Z = true) (h0 : Heap) (n0 : Nat) (O : Old Z n0 h0) :
    Con l Z n0 (⟨"java/lang/StringUTF16", "newBytesFor", "(I)[B"⟩ : MethodName) jdk_52_method_2_code 1 (some (.array .byte)) [] ({ frames := 1, cells := 1, slots := 6, locals := 20 } : Room) #[(.int (3 : Int32))] h0 [] (fun v h' => ∃ t kb, v = some (.ref t) ∧ h0.size ≤ t ∧ Arv Z h' t kb .byte (6 : Int32) [(.int 0), (.int 0), (.int 0), (.int 0), (.int 0), (.int 0)] (.int 0)) := by
  refine Con.of a0 (plainFor_of_name own_pn_6) O (fun _ q => nomatch q) [] (fun _ q => nomatch q) ?_
  intro p e s m below meth cdX T S hby hml hret hnm
  refine Go.cast (own_ef_18 m (3 : Int32)) ?_
  refine S.iloadN 1 (hb hby own_d_jdk_52_method_2_code_0) rfl ?_
  refine S.scall 4 (hb hby own_d_jdk_52_method_2_code_1) (by rw [hml]; rfl) (Tw hw 85 rfl) (Tw hw 86 rfl) (Tw hw 20 rfl) (Tw hw 87 rfl) (by decide) [(.int (3 : Int32))] [] (Con.pay (W := 0) (own_nbl l Z a0 hw h0 n0 S.old 3 (by decide)) (Tw hw 87 rfl) (Tw hw 20 rfl) (by decide) (by decide)) (lenOf own_pd_21 rfl) rfl (Nle rfl) (by decide) (by decide) Wrs.nil ?_
  intro v467 T468 h469 L470 S471 q472 K473
  obtain ⟨rfl, e_q472⟩ := q472
  obtain rfl := e_q472.symm
  show Go p e below _ T468 (mkF m 4 #[.val (.int (3 : Int32))] [(.int (6 : Int32))])
  refine S471.newarr 6 6 (hb hby own_d_jdk_52_method_2_code_4) (Tw hw 22 rfl) (by decide) (by decide) (by decide) (by decide) (by decide) ?_
  intro T474 h475 b476 k477 S478 E479 g480 wo481 A482
  have f483 : Arv Z h475 b476 k477 .byte (6 : Int32) [(.int (0 : Int32)), (.int (0 : Int32)), (.int (0 : Int32)), (.int (0 : Int32)), (.int (0 : Int32)), (.int (0 : Int32))] (.int (0 : Int32)) := A482.pad (pad_rep [] (.int (0 : Int32)) 6)
  exact S478.retA (hb hby own_d_jdk_52_method_2_code_6) hret rfl rfl (by decide) (by decide) ⟨_, _, rfl, (by rcases wo481 with z | z; exact absurd z List.not_mem_nil; exact z), f483⟩


set_option maxRecDepth 65536 in
set_option maxHeartbeats 4000000 in
theorem own_toB16_3 (l : Launch) (Z : State) (a0 : Array Value) (hw : ∀ d ∈ tables_1, d.before a0 Z = true) (us : U16s Z) (h0 : Heap) (n0 : Nat) (O : Old Z n0 h0) (b : Addr) (kc : ClassId) (dc : Value) (c0 : Int32) (c1 : Int32) (c2 : Int32) (A : Arv Z h0 b kc .char (3 : Int32) [(.int c0), (.int c1), (.int c2)] dc) (u0 : U16 c0) (u1 : U16 c1) (u2 : U16 c2) :
    Con l Z n0 (⟨"java/lang/StringUTF16", "toBytes", "([CII)[B"⟩ : MethodName) jdk_52_method_14_code 5 (some (.array .byte)) [] ({ frames := 2, cells := 1, slots := 6, locals := 40 } : Room) #[(.ref b), (.int (0 : Int32)), (.int (3 : Int32))] h0 [] (fun v h' => ∃ t kb, v = some (.ref t) ∧ h0.size ≤ t ∧ Arv Z h' t kb .byte (6 : Int32) (StrChars.Road.wideBytes ([c0, c1, c2] : List Int32)) (.int 0)) := by
  refine Con.of a0 (plainFor_of_name own_pn_6) O (fun _ q => nomatch q) [] (fun _ q => nomatch q) ?_
  intro p e s m below meth cdX T S hby hml hret hnm
  refine Go.cast (own_ef_22 m b (0 : Int32) (3 : Int32)) ?_
  refine S.iloadN 1 (hb hby own_d_jdk_52_method_14_code_0) rfl ?_
  refine S.scall 4 (hb hby own_d_jdk_52_method_14_code_1) (by rw [hml]; rfl) (Tw hw 82 rfl) (Tw hw 83 rfl) (Tw hw 20 rfl) (Tw hw 84 rfl) (by decide) [(.int (3 : Int32))] [] (Con.pay (W := 0) (own_nbf_3 l Z a0 hw h0 n0 S.old) (Tw hw 84 rfl) (Tw hw 20 rfl) (by decide) (by decide)) (lenOf own_pd_23 rfl) rfl (Nle rfl) (by decide) (by decide) Wrs.nil ?_
  intro v484 T485 h486 L487 S488 q489 K490
  obtain ⟨t491, kb492, rfl, g493, A494⟩ := q489
  have l495 : b < t491 := Nat.lt_of_lt_of_le A.lt g493
  have wo496 : Wok n0 h0 [] t491 := Or.inr g493
  have S497 := S488.addF A494.lt
  show Go p e below _ T485 (mkF m 4 #[.val (.ref b), .val (.int (0 : Int32)), .val (.int (3 : Int32)), .unset, .unset] [(.ref t491)])
  refine S497.astoreN 5 #[.val (.ref b), .val (.int (0 : Int32)), .val (.int (3 : Int32)), .val (.ref t491), .unset] (hb hby own_d_jdk_52_method_14_code_4) rfl rfl ?_
  refine S497.iconst 6 (0 : Int32) (hb hby own_d_jdk_52_method_14_code_5) ?_
  refine S497.istore 8 #[.val (.ref b), .val (.int (0 : Int32)), .val (.int (3 : Int32)), .val (.ref t491), .val (.int (0 : Int32))] (hb hby own_d_jdk_52_method_14_code_6) rfl ?_
  refine S497.iload 10 (hb hby own_d_jdk_52_method_14_code_8) rfl ?_
  refine S497.iloadN 11 (hb hby own_d_jdk_52_method_14_code_10) rfl ?_
  refine S497.icmpN 14 (hb hby own_d_jdk_52_method_14_code_11) (qGeF (by decide)) ?_
  refine S497.aloadN 15 (hb hby own_d_jdk_52_method_14_code_14) rfl rfl ?_
  refine S497.iload 17 (hb hby own_d_jdk_52_method_14_code_15) rfl ?_
  refine S497.aloadN 18 (hb hby own_d_jdk_52_method_14_code_17) rfl rfl ?_
  refine S497.iloadN 19 (hb hby own_d_jdk_52_method_14_code_18) rfl ?_
  have f498 := (A.keep K490 nin0)
  refine S497.caload (v := .int c0) 20 (hb hby own_d_jdk_52_method_14_code_19) f498 ⟨by decide, by decide⟩ rfl ?_
  refine S497.scall 23 (hb hby own_d_jdk_52_method_14_code_20) (by rw [hml]; rfl) (Tw hw 89 rfl) (Tw hw 90 rfl) (Tw hw 20 rfl) (Tw hw 91 rfl) (by decide) [(.ref t491), (.int (0 : Int32)), (.int c0)] [] (Con.pay (W := 0) (own_put l Z a0 hw us h486 n0 S497.old t491 kb492 3 [(.int (0 : Int32)), (.int (0 : Int32)), (.int (0 : Int32)), (.int (0 : Int32)), (.int (0 : Int32)), (.int (0 : Int32))] (.int 0) 0 c0 (S497.ge wo496) (by decide) (by decide) rfl A494) (Tw hw 91 rfl) (Tw hw 20 rfl) (by decide) (by decide)) (lenOf own_pd_24 rfl) rfl (Nle rfl) (by decide) (by decide) (Wrs.one wo496 (Or.inl (by simp))) ?_
  intro v499 T500 h501 L502 S503 q504 K505
  obtain ⟨rfl, A506⟩ := q504
  have f507 : Arv Z h501 t491 kb492 .byte (6 : Int32) [(.int (StrChars.lo8 c0)), (.int (StrChars.hi8 c0)), (.int (0 : Int32)), (.int (0 : Int32)), (.int (0 : Int32)), (.int (0 : Int32))] (.int 0) := A506
  show Go p e below _ T500 (mkF m 23 #[.val (.ref b), .val (.int (0 : Int32)), .val (.int (3 : Int32)), .val (.ref t491), .val (.int (0 : Int32))] [])
  refine S503.iinc 26 #[.val (.ref b), .val (.int ((0 : Int32) + (1 : Int32))), .val (.int (3 : Int32)), .val (.ref t491), .val (.int (0 : Int32))] (hb hby own_d_jdk_52_method_14_code_23) rfl rfl ?_
  rw [show ((0 : Int32) + (1 : Int32)) = (1 : Int32) from by decide]
  refine S503.iinc 29 #[.val (.ref b), .val (.int (1 : Int32)), .val (.int (3 : Int32)), .val (.ref t491), .val (.int ((0 : Int32) + (1 : Int32)))] (hb hby own_d_jdk_52_method_14_code_26) rfl rfl ?_
  rw [show ((0 : Int32) + (1 : Int32)) = (1 : Int32) from by decide]
  refine S503.goto 8 (hb hby own_d_jdk_52_method_14_code_29) ?_
  refine S503.iload 10 (hb hby own_d_jdk_52_method_14_code_8) rfl ?_
  refine S503.iloadN 11 (hb hby own_d_jdk_52_method_14_code_10) rfl ?_
  refine S503.icmpN 14 (hb hby own_d_jdk_52_method_14_code_11) (qGeF (by decide)) ?_
  refine S503.aloadN 15 (hb hby own_d_jdk_52_method_14_code_14) rfl rfl ?_
  refine S503.iload 17 (hb hby own_d_jdk_52_method_14_code_15) rfl ?_
  refine S503.aloadN 18 (hb hby own_d_jdk_52_method_14_code_17) rfl rfl ?_
  refine S503.iloadN 19 (hb hby own_d_jdk_52_method_14_code_18) rfl ?_
  have f508 := (f498.keep K505 (ninS (Nat.ne_of_lt l495) nin0))
  refine S503.caload (v := .int c1) 20 (hb hby own_d_jdk_52_method_14_code_19) f508 ⟨by decide, by decide⟩ rfl ?_
  refine S503.scall 23 (hb hby own_d_jdk_52_method_14_code_20) (by rw [hml]; rfl) (Tw hw 89 rfl) (Tw hw 90 rfl) (Tw hw 20 rfl) (Tw hw 91 rfl) (by decide) [(.ref t491), (.int (1 : Int32)), (.int c1)] [] (Con.pay (W := 0) (own_put l Z a0 hw us h501 n0 S503.old t491 kb492 3 [(.int (StrChars.lo8 c0)), (.int (StrChars.hi8 c0)), (.int (0 : Int32)), (.int (0 : Int32)), (.int (0 : Int32)), (.int (0 : Int32))] (.int 0) 1 c1 (S503.ge wo496) (by decide) (by decide) rfl f507) (Tw hw 91 rfl) (Tw hw 20 rfl) (by decide) (by decide)) (lenOf own_pd_24 rfl) rfl (Nle rfl) (by decide) (by decide) (Wrs.one wo496 (Or.inl (by simp))) ?_
  intro v509 T510 h511 L512 S513 q514 K515
  obtain ⟨rfl, A516⟩ := q514
  have f517 : Arv Z h511 t491 kb492 .byte (6 : Int32) [(.int (StrChars.lo8 c0)), (.int (StrChars.hi8 c0)), (.int (StrChars.lo8 c1)), (.int (StrChars.hi8 c1)), (.int (0 : Int32)), (.int (0 : Int32))] (.int 0) := A516
  show Go p e below _ T510 (mkF m 23 #[.val (.ref b), .val (.int (1 : Int32)), .val (.int (3 : Int32)), .val (.ref t491), .val (.int (1 : Int32))] [])
  refine S513.iinc 26 #[.val (.ref b), .val (.int ((1 : Int32) + (1 : Int32))), .val (.int (3 : Int32)), .val (.ref t491), .val (.int (1 : Int32))] (hb hby own_d_jdk_52_method_14_code_23) rfl rfl ?_
  rw [show ((1 : Int32) + (1 : Int32)) = (2 : Int32) from by decide]
  refine S513.iinc 29 #[.val (.ref b), .val (.int (2 : Int32)), .val (.int (3 : Int32)), .val (.ref t491), .val (.int ((1 : Int32) + (1 : Int32)))] (hb hby own_d_jdk_52_method_14_code_26) rfl rfl ?_
  rw [show ((1 : Int32) + (1 : Int32)) = (2 : Int32) from by decide]
  refine S513.goto 8 (hb hby own_d_jdk_52_method_14_code_29) ?_
  refine S513.iload 10 (hb hby own_d_jdk_52_method_14_code_8) rfl ?_
  refine S513.iloadN 11 (hb hby own_d_jdk_52_method_14_code_10) rfl ?_
  refine S513.icmpN 14 (hb hby own_d_jdk_52_method_14_code_11) (qGeF (by decide)) ?_
  refine S513.aloadN 15 (hb hby own_d_jdk_52_method_14_code_14) rfl rfl ?_
  refine S513.iload 17 (hb hby own_d_jdk_52_method_14_code_15) rfl ?_
  refine S513.aloadN 18 (hb hby own_d_jdk_52_method_14_code_17) rfl rfl ?_
  refine S513.iloadN 19 (hb hby own_d_jdk_52_method_14_code_18) rfl ?_
  have f518 := (f508.keep K515 (ninS (Nat.ne_of_lt l495) nin0))
  refine S513.caload (v := .int c2) 20 (hb hby own_d_jdk_52_method_14_code_19) f518 ⟨by decide, by decide⟩ rfl ?_
  refine S513.scall 23 (hb hby own_d_jdk_52_method_14_code_20) (by rw [hml]; rfl) (Tw hw 89 rfl) (Tw hw 90 rfl) (Tw hw 20 rfl) (Tw hw 91 rfl) (by decide) [(.ref t491), (.int (2 : Int32)), (.int c2)] [] (Con.pay (W := 0) (own_put l Z a0 hw us h511 n0 S513.old t491 kb492 3 [(.int (StrChars.lo8 c0)), (.int (StrChars.hi8 c0)), (.int (StrChars.lo8 c1)), (.int (StrChars.hi8 c1)), (.int (0 : Int32)), (.int (0 : Int32))] (.int 0) 2 c2 (S513.ge wo496) (by decide) (by decide) rfl f517) (Tw hw 91 rfl) (Tw hw 20 rfl) (by decide) (by decide)) (lenOf own_pd_24 rfl) rfl (Nle rfl) (by decide) (by decide) (Wrs.one wo496 (Or.inl (by simp))) ?_
  intro v519 T520 h521 L522 S523 q524 K525
  obtain ⟨rfl, A526⟩ := q524
  have f527 : Arv Z h521 t491 kb492 .byte (6 : Int32) [(.int (StrChars.lo8 c0)), (.int (StrChars.hi8 c0)), (.int (StrChars.lo8 c1)), (.int (StrChars.hi8 c1)), (.int (StrChars.lo8 c2)), (.int (StrChars.hi8 c2))] (.int 0) := A526
  show Go p e below _ T520 (mkF m 23 #[.val (.ref b), .val (.int (2 : Int32)), .val (.int (3 : Int32)), .val (.ref t491), .val (.int (2 : Int32))] [])
  refine S523.iinc 26 #[.val (.ref b), .val (.int ((2 : Int32) + (1 : Int32))), .val (.int (3 : Int32)), .val (.ref t491), .val (.int (2 : Int32))] (hb hby own_d_jdk_52_method_14_code_23) rfl rfl ?_
  rw [show ((2 : Int32) + (1 : Int32)) = (3 : Int32) from by decide]
  refine S523.iinc 29 #[.val (.ref b), .val (.int (3 : Int32)), .val (.int (3 : Int32)), .val (.ref t491), .val (.int ((2 : Int32) + (1 : Int32)))] (hb hby own_d_jdk_52_method_14_code_26) rfl rfl ?_
  rw [show ((2 : Int32) + (1 : Int32)) = (3 : Int32) from by decide]
  refine S523.goto 8 (hb hby own_d_jdk_52_method_14_code_29) ?_
  refine S523.iload 10 (hb hby own_d_jdk_52_method_14_code_8) rfl ?_
  refine S523.iloadN 11 (hb hby own_d_jdk_52_method_14_code_10) rfl ?_
  refine S523.icmpY 32 (hb hby own_d_jdk_52_method_14_code_11) (qGeT (by decide)) ?_
  refine S523.aloadN 33 (hb hby own_d_jdk_52_method_14_code_32) rfl rfl ?_
  exact S523.retA (hb hby own_d_jdk_52_method_14_code_33) hret rfl rfl (by decide) (by decide) ⟨_, _, rfl, g493, f527⟩


set_option maxRecDepth 65536 in
set_option maxHeartbeats 4000000 in
theorem own_cmp3_3 (l : Launch) (Z : State) (a0 : Array Value) (hw : ∀ d ∈ tables_1, d.before a0 Z = true) (us : U16s Z) (h0 : Heap) (n0 : Nat) (O : Old Z n0 h0) (b : Addr) (kc : ClassId) (dc : Value) (c0 : Int32) (c1 : Int32) (c2 : Int32) (A : Arv Z h0 b kc .char (3 : Int32) [(.int c0), (.int c1), (.int c2)] dc) (u0 : U16 c0) (u1 : U16 c1) (u2 : U16 c2) (hx : (255 : Int32) < c0 ∨ (255 : Int32) < c1 ∨ (255 : Int32) < c2) :
    Con l Z n0 (⟨"java/lang/StringUTF16", "compress", "([CII)[B"⟩ : MethodName) jdk_52_method_16_code 6 (some (.array .byte)) [] ({ frames := 3, cells := 2, slots := 9, locals := 60 } : Room) #[(.ref b), (.int (0 : Int32)), (.int (3 : Int32))] h0 [] (fun v h' => ∃ t kb, v = some (.ref t) ∧ h0.size ≤ t ∧ Arv Z h' t kb .byte (6 : Int32) (StrChars.Road.wideBytes ([c0, c1, c2] : List Int32)) (.int 0)) := by
  refine Con.of a0 (plainFor_of_name own_pn_6) O (fun _ q => nomatch q) [] (fun _ q => nomatch q) ?_
  intro p e s m below meth cdX T S hby hml hret hnm
  refine Go.cast (own_ef_25 m b (0 : Int32) (3 : Int32)) ?_
  refine S.iloadN 1 (hb hby own_d_jdk_52_method_16_code_0) rfl ?_
  refine S.newarr 3 3 (hb hby own_d_jdk_52_method_16_code_1) (Tw hw 22 rfl) (by decide) (by decide) (by decide) (by decide) (by decide) ?_
  intro T528 h529 b530 k531 S532 E533 g534 wo535 A536
  have l537 : b < b530 := (by rw [g534]; exact A.lt)
  have f538 : Arv Z h529 b530 k531 .byte (3 : Int32) [(.int (0 : Int32)), (.int (0 : Int32)), (.int (0 : Int32))] (.int (0 : Int32)) := A536.pad (pad_rep [] (.int (0 : Int32)) 3)
  refine S532.astoreN 4 #[.val (.ref b), .val (.int (0 : Int32)), .val (.int (3 : Int32)), .val (.ref b530), .unset, .unset] (hb hby own_d_jdk_52_method_16_code_3) rfl rfl ?_
  refine S532.aloadN 5 (hb hby own_d_jdk_52_method_16_code_4) rfl rfl ?_
  refine S532.iloadN 6 (hb hby own_d_jdk_52_method_16_code_5) rfl ?_
  refine S532.aloadN 7 (hb hby own_d_jdk_52_method_16_code_6) rfl rfl ?_
  refine S532.iconst 8 (0 : Int32) (hb hby own_d_jdk_52_method_16_code_7) ?_
  refine S532.iloadN 9 (hb hby own_d_jdk_52_method_16_code_8) rfl ?_
  by_cases g0 : (255 : Int32) < c0
  · skip
    have f539 := (A.ext E533)
    refine S532.scall 12 (hb hby own_d_jdk_52_method_16_code_9) (by rw [hml]; rfl) (Tw hw 23 rfl) (Tw hw 24 rfl) (Tw hw 20 rfl) (Tw hw 25 rfl) (by decide) [(.ref b), (.int (0 : Int32)), (.ref b530), (.int (0 : Int32)), (.int (3 : Int32))] [] (Con.pay (W := 0) (own_cmp5_3_0 l Z a0 hw h529 n0 S532.old b kc dc b530 k531 c0 c1 c2 (S532.ge wo535) f539 f538 (Nat.ne_of_lt l537) g0) (Tw hw 25 rfl) (Tw hw 20 rfl) (by decide) (by decide)) (lenOf own_pd_26 rfl) rfl (Nle rfl) (by decide) (by decide) (Wrs.one wo535 (Or.inl (by simp))) ?_
    intro v540 T541 h542 L543 S544 q545 K546
    obtain rfl := q545
    show Go p e below _ T541 (mkF m 12 #[.val (.ref b), .val (.int (0 : Int32)), .val (.int (3 : Int32)), .val (.ref b530), .unset, .unset] [(.int (0 : Int32))])
    refine S544.istore 14 #[.val (.ref b), .val (.int (0 : Int32)), .val (.int (3 : Int32)), .val (.ref b530), .val (.int (0 : Int32)), .unset] (hb hby own_d_jdk_52_method_16_code_12) rfl ?_
    refine S544.iload 16 (hb hby own_d_jdk_52_method_16_code_14) rfl ?_
    refine S544.iloadN 17 (hb hby own_d_jdk_52_method_16_code_16) rfl ?_
    refine S544.icmpN 20 (hb hby own_d_jdk_52_method_16_code_17) (qEqF (by decide)) ?_
    refine S544.aloadN 21 (hb hby own_d_jdk_52_method_16_code_20) rfl rfl ?_
    refine S544.iloadN 22 (hb hby own_d_jdk_52_method_16_code_21) rfl ?_
    refine S544.iloadN 23 (hb hby own_d_jdk_52_method_16_code_22) rfl ?_
    have f547 := (f539.keep K546 (ninS (Nat.ne_of_lt l537) nin0))
    refine S544.scall 26 (hb hby own_d_jdk_52_method_16_code_23) (by rw [hml]; rfl) (Tw hw 79 rfl) (Tw hw 80 rfl) (Tw hw 20 rfl) (Tw hw 81 rfl) (by decide) [(.ref b), (.int (0 : Int32)), (.int (3 : Int32))] [] (Con.pay (W := 0) (own_toB16_3 l Z a0 hw us h542 n0 S544.old b kc dc c0 c1 c2 f547 u0 u1 u2) (Tw hw 81 rfl) (Tw hw 20 rfl) (by decide) (by decide)) (lenOf own_pd_27 rfl) rfl (Nle rfl) (by decide) (by decide) Wrs.nil ?_
    intro v548 T549 h550 L551 S552 q553 K554
    obtain ⟨t555, kb556, rfl, g557, A558⟩ := q553
    show Go p e below _ T549 (mkF m 26 #[.val (.ref b), .val (.int (0 : Int32)), .val (.int (3 : Int32)), .val (.ref b530), .val (.int (0 : Int32)), .unset] [(.ref t555)])
    refine S552.astore 28 #[.val (.ref b), .val (.int (0 : Int32)), .val (.int (3 : Int32)), .val (.ref b530), .val (.int (0 : Int32)), .val (.ref t555)] (hb hby own_d_jdk_52_method_16_code_26) rfl rfl ?_
    refine S552.aload 30 (hb hby own_d_jdk_52_method_16_code_28) rfl rfl ?_
    refine S552.iload 32 (hb hby own_d_jdk_52_method_16_code_30) rfl ?_
    refine S552.scall 35 (hb hby own_d_jdk_52_method_16_code_32) (by rw [hml]; rfl) (Tw hw 95 rfl) (Tw hw 96 rfl) (Tw hw 20 rfl) (Tw hw 97 rfl) (by decide) [(.ref t555), (.int (0 : Int32))] [] (Con.pay (W := 0) (own_getC l Z a0 hw us h550 n0 S552.old t555 kb556 3 (StrChars.Road.wideBytes ([c0, c1, c2] : List Int32)) (.int 0) 0 (StrChars.lo8 c0) (StrChars.hi8 c0) (by decide) A558 (by decide) rfl rfl) (Tw hw 97 rfl) (Tw hw 20 rfl) (by decide) (by decide)) (lenOf own_pd_16 rfl) rfl (Nle rfl) (by decide) (by decide) Wrs.nil ?_
    intro v559 T560 h561 L562 S563 q564 K565
    rw [StrChars.pair_says u0.1 u0.2, U16.nar u0] at q564
    obtain ⟨rfl, e_q564⟩ := q564
    obtain rfl := e_q564.symm
    show Go p e below _ T560 (mkF m 35 #[.val (.ref b), .val (.int (0 : Int32)), .val (.int (3 : Int32)), .val (.ref b530), .val (.int (0 : Int32)), .val (.ref t555)] [(.int c0)])
    refine S563.sipush 38 (255 : Int32) (hb hby own_d_jdk_52_method_16_code_35) ?_
    refine S563.icmpY 54 (hb hby own_d_jdk_52_method_16_code_38) (qGtT g0) ?_
    refine S563.aload 56 (hb hby own_d_jdk_52_method_16_code_54) rfl rfl ?_
    exact S563.retA (hb hby own_d_jdk_52_method_16_code_56) hret rfl rfl (by decide) (by decide) ⟨_, _, rfl, Nat.le_trans S544.kept.1 g557, A558⟩
  by_cases g1 : (255 : Int32) < c1
  · skip
    have f566 := (A.ext E533)
    refine S532.scall 12 (hb hby own_d_jdk_52_method_16_code_9) (by rw [hml]; rfl) (Tw hw 23 rfl) (Tw hw 24 rfl) (Tw hw 20 rfl) (Tw hw 25 rfl) (by decide) [(.ref b), (.int (0 : Int32)), (.ref b530), (.int (0 : Int32)), (.int (3 : Int32))] [] (Con.pay (W := 0) (own_cmp5_3_1 l Z a0 hw h529 n0 S532.old b kc dc b530 k531 c0 c1 c2 (S532.ge wo535) f566 f538 (Nat.ne_of_lt l537) g0 g1) (Tw hw 25 rfl) (Tw hw 20 rfl) (by decide) (by decide)) (lenOf own_pd_26 rfl) rfl (Nle rfl) (by decide) (by decide) (Wrs.one wo535 (Or.inl (by simp))) ?_
    intro v567 T568 h569 L570 S571 q572 K573
    obtain rfl := q572
    show Go p e below _ T568 (mkF m 12 #[.val (.ref b), .val (.int (0 : Int32)), .val (.int (3 : Int32)), .val (.ref b530), .unset, .unset] [(.int (1 : Int32))])
    refine S571.istore 14 #[.val (.ref b), .val (.int (0 : Int32)), .val (.int (3 : Int32)), .val (.ref b530), .val (.int (1 : Int32)), .unset] (hb hby own_d_jdk_52_method_16_code_12) rfl ?_
    refine S571.iload 16 (hb hby own_d_jdk_52_method_16_code_14) rfl ?_
    refine S571.iloadN 17 (hb hby own_d_jdk_52_method_16_code_16) rfl ?_
    refine S571.icmpN 20 (hb hby own_d_jdk_52_method_16_code_17) (qEqF (by decide)) ?_
    refine S571.aloadN 21 (hb hby own_d_jdk_52_method_16_code_20) rfl rfl ?_
    refine S571.iloadN 22 (hb hby own_d_jdk_52_method_16_code_21) rfl ?_
    refine S571.iloadN 23 (hb hby own_d_jdk_52_method_16_code_22) rfl ?_
    have f574 := (f566.keep K573 (ninS (Nat.ne_of_lt l537) nin0))
    refine S571.scall 26 (hb hby own_d_jdk_52_method_16_code_23) (by rw [hml]; rfl) (Tw hw 79 rfl) (Tw hw 80 rfl) (Tw hw 20 rfl) (Tw hw 81 rfl) (by decide) [(.ref b), (.int (0 : Int32)), (.int (3 : Int32))] [] (Con.pay (W := 0) (own_toB16_3 l Z a0 hw us h569 n0 S571.old b kc dc c0 c1 c2 f574 u0 u1 u2) (Tw hw 81 rfl) (Tw hw 20 rfl) (by decide) (by decide)) (lenOf own_pd_27 rfl) rfl (Nle rfl) (by decide) (by decide) Wrs.nil ?_
    intro v575 T576 h577 L578 S579 q580 K581
    obtain ⟨t582, kb583, rfl, g584, A585⟩ := q580
    show Go p e below _ T576 (mkF m 26 #[.val (.ref b), .val (.int (0 : Int32)), .val (.int (3 : Int32)), .val (.ref b530), .val (.int (1 : Int32)), .unset] [(.ref t582)])
    refine S579.astore 28 #[.val (.ref b), .val (.int (0 : Int32)), .val (.int (3 : Int32)), .val (.ref b530), .val (.int (1 : Int32)), .val (.ref t582)] (hb hby own_d_jdk_52_method_16_code_26) rfl rfl ?_
    refine S579.aload 30 (hb hby own_d_jdk_52_method_16_code_28) rfl rfl ?_
    refine S579.iload 32 (hb hby own_d_jdk_52_method_16_code_30) rfl ?_
    refine S579.scall 35 (hb hby own_d_jdk_52_method_16_code_32) (by rw [hml]; rfl) (Tw hw 95 rfl) (Tw hw 96 rfl) (Tw hw 20 rfl) (Tw hw 97 rfl) (by decide) [(.ref t582), (.int (1 : Int32))] [] (Con.pay (W := 0) (own_getC l Z a0 hw us h577 n0 S579.old t582 kb583 3 (StrChars.Road.wideBytes ([c0, c1, c2] : List Int32)) (.int 0) 1 (StrChars.lo8 c1) (StrChars.hi8 c1) (by decide) A585 (by decide) rfl rfl) (Tw hw 97 rfl) (Tw hw 20 rfl) (by decide) (by decide)) (lenOf own_pd_16 rfl) rfl (Nle rfl) (by decide) (by decide) Wrs.nil ?_
    intro v586 T587 h588 L589 S590 q591 K592
    rw [StrChars.pair_says u1.1 u1.2, U16.nar u1] at q591
    obtain ⟨rfl, e_q591⟩ := q591
    obtain rfl := e_q591.symm
    show Go p e below _ T587 (mkF m 35 #[.val (.ref b), .val (.int (0 : Int32)), .val (.int (3 : Int32)), .val (.ref b530), .val (.int (1 : Int32)), .val (.ref t582)] [(.int c1)])
    refine S590.sipush 38 (255 : Int32) (hb hby own_d_jdk_52_method_16_code_35) ?_
    refine S590.icmpY 54 (hb hby own_d_jdk_52_method_16_code_38) (qGtT g1) ?_
    refine S590.aload 56 (hb hby own_d_jdk_52_method_16_code_54) rfl rfl ?_
    exact S590.retA (hb hby own_d_jdk_52_method_16_code_56) hret rfl rfl (by decide) (by decide) ⟨_, _, rfl, Nat.le_trans S571.kept.1 g584, A585⟩
  by_cases g2 : (255 : Int32) < c2
  · skip
    have f593 := (A.ext E533)
    refine S532.scall 12 (hb hby own_d_jdk_52_method_16_code_9) (by rw [hml]; rfl) (Tw hw 23 rfl) (Tw hw 24 rfl) (Tw hw 20 rfl) (Tw hw 25 rfl) (by decide) [(.ref b), (.int (0 : Int32)), (.ref b530), (.int (0 : Int32)), (.int (3 : Int32))] [] (Con.pay (W := 0) (own_cmp5_3_2 l Z a0 hw h529 n0 S532.old b kc dc b530 k531 c0 c1 c2 (S532.ge wo535) f593 f538 (Nat.ne_of_lt l537) g0 g1 g2) (Tw hw 25 rfl) (Tw hw 20 rfl) (by decide) (by decide)) (lenOf own_pd_26 rfl) rfl (Nle rfl) (by decide) (by decide) (Wrs.one wo535 (Or.inl (by simp))) ?_
    intro v594 T595 h596 L597 S598 q599 K600
    obtain rfl := q599
    show Go p e below _ T595 (mkF m 12 #[.val (.ref b), .val (.int (0 : Int32)), .val (.int (3 : Int32)), .val (.ref b530), .unset, .unset] [(.int (2 : Int32))])
    refine S598.istore 14 #[.val (.ref b), .val (.int (0 : Int32)), .val (.int (3 : Int32)), .val (.ref b530), .val (.int (2 : Int32)), .unset] (hb hby own_d_jdk_52_method_16_code_12) rfl ?_
    refine S598.iload 16 (hb hby own_d_jdk_52_method_16_code_14) rfl ?_
    refine S598.iloadN 17 (hb hby own_d_jdk_52_method_16_code_16) rfl ?_
    refine S598.icmpN 20 (hb hby own_d_jdk_52_method_16_code_17) (qEqF (by decide)) ?_
    refine S598.aloadN 21 (hb hby own_d_jdk_52_method_16_code_20) rfl rfl ?_
    refine S598.iloadN 22 (hb hby own_d_jdk_52_method_16_code_21) rfl ?_
    refine S598.iloadN 23 (hb hby own_d_jdk_52_method_16_code_22) rfl ?_
    have f601 := (f593.keep K600 (ninS (Nat.ne_of_lt l537) nin0))
    refine S598.scall 26 (hb hby own_d_jdk_52_method_16_code_23) (by rw [hml]; rfl) (Tw hw 79 rfl) (Tw hw 80 rfl) (Tw hw 20 rfl) (Tw hw 81 rfl) (by decide) [(.ref b), (.int (0 : Int32)), (.int (3 : Int32))] [] (Con.pay (W := 0) (own_toB16_3 l Z a0 hw us h596 n0 S598.old b kc dc c0 c1 c2 f601 u0 u1 u2) (Tw hw 81 rfl) (Tw hw 20 rfl) (by decide) (by decide)) (lenOf own_pd_27 rfl) rfl (Nle rfl) (by decide) (by decide) Wrs.nil ?_
    intro v602 T603 h604 L605 S606 q607 K608
    obtain ⟨t609, kb610, rfl, g611, A612⟩ := q607
    show Go p e below _ T603 (mkF m 26 #[.val (.ref b), .val (.int (0 : Int32)), .val (.int (3 : Int32)), .val (.ref b530), .val (.int (2 : Int32)), .unset] [(.ref t609)])
    refine S606.astore 28 #[.val (.ref b), .val (.int (0 : Int32)), .val (.int (3 : Int32)), .val (.ref b530), .val (.int (2 : Int32)), .val (.ref t609)] (hb hby own_d_jdk_52_method_16_code_26) rfl rfl ?_
    refine S606.aload 30 (hb hby own_d_jdk_52_method_16_code_28) rfl rfl ?_
    refine S606.iload 32 (hb hby own_d_jdk_52_method_16_code_30) rfl ?_
    refine S606.scall 35 (hb hby own_d_jdk_52_method_16_code_32) (by rw [hml]; rfl) (Tw hw 95 rfl) (Tw hw 96 rfl) (Tw hw 20 rfl) (Tw hw 97 rfl) (by decide) [(.ref t609), (.int (2 : Int32))] [] (Con.pay (W := 0) (own_getC l Z a0 hw us h604 n0 S606.old t609 kb610 3 (StrChars.Road.wideBytes ([c0, c1, c2] : List Int32)) (.int 0) 2 (StrChars.lo8 c2) (StrChars.hi8 c2) (by decide) A612 (by decide) rfl rfl) (Tw hw 97 rfl) (Tw hw 20 rfl) (by decide) (by decide)) (lenOf own_pd_16 rfl) rfl (Nle rfl) (by decide) (by decide) Wrs.nil ?_
    intro v613 T614 h615 L616 S617 q618 K619
    rw [StrChars.pair_says u2.1 u2.2, U16.nar u2] at q618
    obtain ⟨rfl, e_q618⟩ := q618
    obtain rfl := e_q618.symm
    show Go p e below _ T614 (mkF m 35 #[.val (.ref b), .val (.int (0 : Int32)), .val (.int (3 : Int32)), .val (.ref b530), .val (.int (2 : Int32)), .val (.ref t609)] [(.int c2)])
    refine S617.sipush 38 (255 : Int32) (hb hby own_d_jdk_52_method_16_code_35) ?_
    refine S617.icmpY 54 (hb hby own_d_jdk_52_method_16_code_38) (qGtT g2) ?_
    refine S617.aload 56 (hb hby own_d_jdk_52_method_16_code_54) rfl rfl ?_
    exact S617.retA (hb hby own_d_jdk_52_method_16_code_56) hret rfl rfl (by decide) (by decide) ⟨_, _, rfl, Nat.le_trans S598.kept.1 g611, A612⟩
  exact absurd hx (by simp [g0, g1, g2])


set_option maxRecDepth 65536 in
set_option maxHeartbeats 4000000 in
theorem own_cod_3 (l : Launch) (Z : State) (a0 : Array Value) (hw : ∀ d ∈ tables_1, d.before a0 Z = true) (h0 : Heap) (n0 : Nat) (O : Old Z n0 h0) (t : Addr) (kt : ClassId) (vs : List Value) (d : Value) (A : Arv Z h0 t kt .byte (6 : Int32) vs d) :
    Con l Z n0 (⟨"java/lang/StringUTF16", "coderFromArrayLen", "([BI)B"⟩ : MethodName) jdk_52_method_15_code 2 (some .byte) [] ({ frames := 0, cells := 0, slots := 0, locals := 0 } : Room) #[(.ref t), (.int (3 : Int32))] h0 [] (fun v h' => v = some (.int 1) ∧ h' = h0) := by
  refine Con.of a0 (plainFor_of_name own_pn_6) O (fun _ q => nomatch q) [] (fun _ q => nomatch q) ?_
  intro p e s m below meth cdX T S hby hml hret hnm
  refine Go.cast (own_ef_14 m t (3 : Int32)) ?_
  refine S.iloadN 1 (hb hby own_d_jdk_52_method_15_code_0) rfl ?_
  refine S.aloadN 2 (hb hby own_d_jdk_52_method_15_code_1) rfl rfl ?_
  refine S.alen 3 (hb hby own_d_jdk_52_method_15_code_2) A ?_
  refine S.isub 4 (hb hby own_d_jdk_52_method_15_code_3) ?_
  show Go p e below _ T (mkF m 4 #[.val (.ref t), .val (.int (3 : Int32))] [(.int ((3 : Int32) - (6 : Int32)))])
  rw [show ((3 : Int32) - (6 : Int32)) = (-3 : Int32) from by decide]
  refine S.bipush 6 (31 : Int32) (hb hby own_d_jdk_52_method_15_code_4) ?_
  refine S.iushr 7 (hb hby own_d_jdk_52_method_15_code_6) ?_
  show Go p e below _ T (mkF m 7 #[.val (.ref t), .val (.int (3 : Int32))] [(.int (((-3 : Int32).toUInt32 >>> ((31 : Int32) &&& 31).toUInt32).toInt32))])
  refine S.i2b 8 (hb hby own_d_jdk_52_method_15_code_7) ?_
  exact S.retN (t := .byte) (hb hby own_d_jdk_52_method_15_code_8) hret (by decide) (by decide) (by decide) ⟨by decide, rfl⟩


set_option maxRecDepth 65536 in
set_option maxHeartbeats 4000000 in
theorem own_new4_3 (l : Launch) (Z : State) (a0 : Array Value) (hw : ∀ d ∈ tables_1, d.before a0 Z = true) (cm : Com Z) (us : U16s Z) (h0 : Heap) (n0 : Nat) (O : Old Z n0 h0) (x : Addr) (b : Addr) (kc : ClassId) (dc : Value) (c0 : Int32) (c1 : Int32) (c2 : Int32) (ge_x : n0 ≤ x) (E : Exa Z h0 x "java/lang/String") (FV : Fld Z h0 x "java/lang/String" "value" "[B" .null) (FC : Fld Z h0 x "java/lang/String" "coder" "B" (.int 0)) (A : Arv Z h0 b kc .char (3 : Int32) [(.int c0), (.int c1), (.int c2)] dc) (u0 : U16 c0) (u1 : U16 c1) (u2 : U16 c2) (hx : (255 : Int32) < c0 ∨ (255 : Int32) < c1 ∨ (255 : Int32) < c2) :
    Con l Z n0 (⟨"java/lang/String", "<init>", "([CIILjava/lang/Void;)V"⟩ : MethodName) jdk_42_method_149_code 6 none [] ({ frames := 4, cells := 2, slots := 9, locals := 80 } : Room) #[(.ref x), (.ref b), (.int (0 : Int32)), (.int (3 : Int32)), .null] h0 [x] (fun v h' => v = none ∧ ∃ t, h0.size ≤ t ∧ StrA Z h' x t ([c0, c1, c2] : List Int32)) := by
  refine Con.of a0 (plainFor_of_name own_pn_2) O (by simp [ge_x]) [x] (by simp [E.lt]) ?_
  intro p e s m below meth cdX T S hby hml hret hnm
  refine Go.cast (own_ef_1 m x b (0 : Int32) (3 : Int32)) ?_
  refine S.aloadN 1 (hb hby own_d_jdk_42_method_149_code_0) rfl rfl ?_
  refine S.initO (W := 0) 4 (hb hby own_d_jdk_42_method_149_code_1) (by rw [hml]; rfl) (Tw hw 14 rfl) (Tw hw 15 rfl) (Tw hw 16 rfl) (by decide) (Nle rfl) (by decide) ?_
  intro T620 S621
  refine S621.iloadN 5 (hb hby own_d_jdk_42_method_149_code_4) rfl ?_
  refine S621.ifY 27 (hb hby own_d_jdk_42_method_149_code_5) (zNeT (by decide)) ?_
  obtain ⟨zc, sc, nc⟩ := id cm
  refine S621.gets (host := "") 30 (hb hby own_d_jdk_42_method_149_code_27) (Or.inl (Tw hw 17 rfl)) Via.refl (sc.ext S621.old.2) ?_
  intro T622 S623
  refine S623.ifN 33 (hb hby own_d_jdk_42_method_149_code_30) (zEqF nc) ?_
  refine S623.aloadN 34 (hb hby own_d_jdk_42_method_149_code_33) rfl rfl ?_
  refine S623.iloadN 35 (hb hby own_d_jdk_42_method_149_code_34) rfl ?_
  refine S623.iloadN 36 (hb hby own_d_jdk_42_method_149_code_35) rfl ?_
  refine S623.scall 39 (hb hby own_d_jdk_42_method_149_code_36) (by rw [hml]; rfl) (Tw hw 18 rfl) (Tw hw 19 rfl) (Tw hw 20 rfl) (Tw hw 21 rfl) (by decide) [(.ref b), (.int (0 : Int32)), (.int (3 : Int32))] [] (Con.pay (W := 0) (own_cmp3_3 l Z a0 hw us h0 n0 S623.old b kc dc c0 c1 c2 A u0 u1 u2 hx) (Tw hw 21 rfl) (Tw hw 20 rfl) (by decide) (by decide)) (lenOf own_pd_27 rfl) rfl (Nle rfl) (by decide) (by decide) Wrs.nil ?_
  intro v624 T625 h626 L627 S628 q629 K630
  obtain ⟨t631, kb632, rfl, g633, A634⟩ := q629
  have l635 : b < t631 := Nat.lt_of_lt_of_le A.lt g633
  have l636 : x < t631 := Nat.lt_of_lt_of_le E.lt g633
  show Go p e below _ T625 (mkF m 39 #[.val (.ref x), .val (.ref b), .val (.int (0 : Int32)), .val (.int (3 : Int32)), .val .null, .unset] [(.ref t631)])
  refine S628.astore 41 #[.val (.ref x), .val (.ref b), .val (.int (0 : Int32)), .val (.int (3 : Int32)), .val .null, .val (.ref t631)] (hb hby own_d_jdk_42_method_149_code_39) rfl rfl ?_
  refine S628.aloadN 42 (hb hby own_d_jdk_42_method_149_code_41) rfl rfl ?_
  refine S628.aload 44 (hb hby own_d_jdk_42_method_149_code_42) rfl rfl ?_
  refine S628.iloadN 45 (hb hby own_d_jdk_42_method_149_code_44) rfl ?_
  refine S628.scall 48 (hb hby own_d_jdk_42_method_149_code_45) (by rw [hml]; rfl) (Tw hw 26 rfl) (Tw hw 27 rfl) (Tw hw 20 rfl) (Tw hw 28 rfl) (by decide) [(.ref t631), (.int (3 : Int32))] [(.ref x)] (Con.pay (W := 1) (own_cod_3 l Z a0 hw h626 n0 S628.old t631 kb632 (StrChars.Road.wideBytes ([c0, c1, c2] : List Int32)) (.int 0) A634) (Tw hw 28 rfl) (Tw hw 20 rfl) (by decide) (by decide)) (lenOf own_pd_28 rfl) rfl (Nle rfl) (by decide) (by decide) Wrs.nil ?_
  intro v637 T638 h639 L640 S641 q642 K643
  obtain ⟨rfl, e_q642⟩ := q642
  obtain rfl := e_q642.symm
  show Go p e below _ T638 (mkF m 48 #[.val (.ref x), .val (.ref b), .val (.int (0 : Int32)), .val (.int (3 : Int32)), .val .null, .val (.ref t631)] [(.int (1 : Int32)), (.ref x)])
  have f644 := (FC.keep K630 nin0)
  have f645 := (E.keep K630)
  refine S641.putf (host := "") (ty := .byte) 51 (hb hby own_d_jdk_42_method_149_code_48) (Or.inl (Tw hw 29 rfl)) Via.refl f644 f645 (Or.inr ⟨(Tw hw 30 rfl), rfl, hnm⟩) (Tw hw 5 rfl) (by decide) rfl rfl (Or.inl (by simp)) (Or.inr (by simp)) ?_
  intro T646 h647 L648 S649 W650
  have f651 := f644.same W650
  refine S649.aloadN 52 (hb hby own_d_jdk_42_method_149_code_51) rfl rfl ?_
  refine S649.aload 54 (hb hby own_d_jdk_42_method_149_code_52) rfl rfl ?_
  have f652 := ((FV.keep K630 nin0).other W650 (Or.inr (slot_ne (t := (.array .byte)) (t' := .byte) (Or.inr (Tw hw 32 rfl)) (Or.inr (Tw hw 30 rfl)) (by decide) (by decide) (by decide))))
  have f653 := (f645.wr W650)
  refine S649.putf (host := "") (ty := (.array .byte)) 57 (hb hby own_d_jdk_42_method_149_code_54) (Or.inl (Tw hw 31 rfl)) Via.refl f652 f653 (Or.inr ⟨(Tw hw 32 rfl), rfl, hnm⟩) (Tw hw 5 rfl) (by decide) rfl rfl (Or.inl (by simp)) (Or.inr (by simp)) ?_
  intro T654 h655 L656 S657 W658
  have f659 := f652.same W658
  have f660 := (f653.wr W658)
  have f661 := (f651.other W658 (Or.inr (slot_ne (t := .byte) (t' := (.array .byte)) (Or.inr (Tw hw 30 rfl)) (Or.inr (Tw hw 32 rfl)) (by decide) (by decide) (by decide))))
  have f662 := ((A634.other W650 (Nat.ne_of_gt l636)).other W658 (Nat.ne_of_gt l636))
  exact S657.ret0 (hb hby own_d_jdk_42_method_149_code_57) hret (by decide) (by decide) ⟨rfl, t631, Nat.le_trans S623.kept.1 g633, ⟨⟨_, 1, _, _, f660, f659, f661, f662, Or.inr ⟨rfl, rfl, rfl, by simpa using hx⟩⟩, by simp [u0, u1, u2], Nle rfl⟩⟩


set_option maxRecDepth 65536 in
set_option maxHeartbeats 4000000 in
theorem own_new1_3 (l : Launch) (Z : State) (a0 : Array Value) (hw : ∀ d ∈ tables_1, d.before a0 Z = true) (cm : Com Z) (us : U16s Z) (h0 : Heap) (n0 : Nat) (O : Old Z n0 h0) (x : Addr) (b : Addr) (kc : ClassId) (dc : Value) (c0 : Int32) (c1 : Int32) (c2 : Int32) (ge_x : n0 ≤ x) (E : Exa Z h0 x "java/lang/String") (FV : Fld Z h0 x "java/lang/String" "value" "[B" .null) (FC : Fld Z h0 x "java/lang/String" "coder" "B" (.int 0)) (A : Arv Z h0 b kc .char (3 : Int32) [(.int c0), (.int c1), (.int c2)] dc) (u0 : U16 c0) (u1 : U16 c1) (u2 : U16 c2) (hx : (255 : Int32) < c0 ∨ (255 : Int32) < c1 ∨ (255 : Int32) < c2) :
    Con l Z n0 (⟨"java/lang/String", "<init>", "([C)V"⟩ : MethodName) jdk_42_method_3_code 2 none [] ({ frames := 5, cells := 2, slots := 9, locals := 105 } : Room) #[(.ref x), (.ref b)] h0 [x] (fun v h' => v = none ∧ ∃ t, h0.size ≤ t ∧ StrA Z h' x t ([c0, c1, c2] : List Int32)) := by
  refine Con.of a0 (plainFor_of_name own_pn_2) O (by simp [ge_x]) [x] (by simp [E.lt]) ?_
  intro p e s m below meth cdX T S hby hml hret hnm
  refine Go.cast (own_ef_3 m x b) ?_
  refine S.aloadN 1 (hb hby own_d_jdk_42_method_3_code_0) rfl rfl ?_
  refine S.aloadN 2 (hb hby own_d_jdk_42_method_3_code_1) rfl rfl ?_
  refine S.iconst 3 (0 : Int32) (hb hby own_d_jdk_42_method_3_code_2) ?_
  refine S.aloadN 4 (hb hby own_d_jdk_42_method_3_code_3) rfl rfl ?_
  refine S.alen 5 (hb hby own_d_jdk_42_method_3_code_4) A ?_
  refine S.anull 6 (hb hby own_d_jdk_42_method_3_code_5) ?_
  refine S.icall 9 (hb hby own_d_jdk_42_method_3_code_6) (by rw [hml]; rfl) rfl (Tw hw 10 rfl) (Tw hw 11 rfl) (Tw hw 13 rfl) (by decide) [(.ref b), (.int (0 : Int32)), (.int (3 : Int32)), .null] [] (Con.pay (W := 0) (own_new4_3 l Z a0 hw cm us h0 n0 S.old x b kc dc c0 c1 c2 ge_x E FV FC A u0 u1 u2 hx) (Tw hw 13 rfl) (Tw hw 6 rfl) (by decide) (by decide)) (lenOf own_pd_4 rfl) rfl (Nle rfl) (by decide) (by decide) (Wrs.one (Or.inl (by simp)) (Or.inl (by simp))) ?_
  intro v663 T664 h665 L666 S667 q668 K669
  obtain ⟨rfl, te, ge, fe⟩ := q668
  show Go p e below _ T664 (mkF m 9 #[.val (.ref x), .val (.ref b)] [])
  exact S667.ret0 (hb hby own_d_jdk_42_method_3_code_9) hret (by decide) (by decide) ⟨rfl, te, ge, fe⟩

theorem payNewA_3 {a0 : Array Value} {p : Program} {l : Launch} {e : Env} {R : Room} {args : Array Value} {below : List Frame} {Z s : State} {n0 : Nat} {h : Heap} {x b : Addr} {kc : ClassId} {dc : Value} {W : Nat} (c0 : Int32) (c1 : Int32) (c2 : Int32)  (hw : ∀ d ∈ tables_1, d.before a0 Z = true) (cm : Com Z) (us : U16s Z) (O : Old Z n0 h) (hx0 : n0 ≤ x) (E : Exa Z h x "java/lang/String") (V : Fld Z h x "java/lang/String" "value" "[B" .null) (C : Fld Z h x "java/lang/String" "coder" "B" (.int 0)) (A : Arv Z h b kc .char (3 : Int32) [(.int c0), (.int c1), (.int c2)] dc) (u0 : U16 c0) (u1 : U16 c1) (u2 : U16 c2) (hfr : 6 ≤ R.frames) (hlo : W + 118 ≤ R.locals) :
    Pay l R p e below args Z s n0 ⟨"java/lang/String", "<init>", "([C)V"⟩ 3 W #[.ref x, .ref b] h [x] 2 9 (fun v h' => v = none ∧ ∃ t, h.size ≤ t ∧ StrA Z h' x t ([c0, c1, c2] : List Int32)) := by
  by_cases hx : (255 : Int32) < c0 ∨ (255 : Int32) < c1 ∨ (255 : Int32) < c2
  · exact Con.pay (own_new1_3 l Z a0 hw cm us h n0 O x b kc dc c0 c1 c2 hx0 E V C A u0 u1 u2 hx) (Tw hw 9 rfl) (Tw hw 6 rfl) (by show 5 + 1 ≤ _; omega) (by show W + (2 + 11) + 105 ≤ _; omega)
  · have hp : ∀ c ∈ ([c0, c1, c2] : List Int32), ¬ c < 0 ∧ ¬ (255 : Int32) < c := by
      intro c hc
      simp only [List.mem_cons, List.not_mem_nil, or_false] at hc
      try simp only [not_or] at hx
      rcases hc with rfl | rfl | rfl
      · exact ⟨u0.1, hx.1⟩
      · exact ⟨u1.1, hx.2.1⟩
      · exact ⟨u2.1, hx.2.2⟩
    refine Pay.mono (Pay.weak (payNew (n := 3) (cs := ([c0, c1, c2] : List Int32)) hw (Tw hw 5 rfl) cm O hx0 E V C A rfl rfl (by decide) (by decide) hp (by omega) (by omega)) ?_) (by decide) (by decide)
    rintro v h' ⟨rfl, t, g, F⟩
    exact ⟨rfl, t, g, StrA.of F⟩

set_option maxRecDepth 65536 in
set_option maxHeartbeats 4000000 in
theorem own_cmp5_4_0 (l : Launch) (Z : State) (a0 : Array Value) (hw : ∀ d ∈ tables_1, d.before a0 Z = true) (h0 : Heap) (n0 : Nat) (O : Old Z n0 h0) (b : Addr) (kc : ClassId) (dc : Value) (t : Addr) (kt : ClassId) (c0 : Int32) (c1 : Int32) (c2 : Int32) (c3 : Int32) (ge_t : n0 ≤ t) (A : Arv Z h0 b kc .char (4 : Int32) [(.int c0), (.int c1), (.int c2), (.int c3)] dc) (B : Arv Z h0 t kt .byte (4 : Int32) [(.int 0), (.int 0), (.int 0), (.int 0)] (.int 0)) (hne : b ≠ t) (g0 : (255 : Int32) < c0) :
    Con l Z n0 (⟨"java/lang/StringUTF16", "compress", "([CI[BII)I"⟩ : MethodName) jdk_52_method_21_code 7 (some .int) [] ({ frames := 0, cells := 0, slots := 0, locals := 0 } : Room) #[(.ref b), (.int (0 : Int32)), (.ref t), (.int (0 : Int32)), (.int (4 : Int32))] h0 [t] (fun v h' => v = some (.int 0)) := by
  refine Con.of a0 (plainFor_of_name own_pn_6) O (by simp [ge_t]) [t] (by simp [B.lt]) ?_
  intro p e s m below meth cdX T S hby hml hret hnm
  refine Go.cast (own_ef_20 m b (0 : Int32) t (0 : Int32) (4 : Int32)) ?_
  refine S.iconst 1 (0 : Int32) (hb hby own_d_jdk_52_method_21_code_0) ?_
  refine S.istore 3 #[.val (.ref b), .val (.int (0 : Int32)), .val (.ref t), .val (.int (0 : Int32)), .val (.int (4 : Int32)), .val (.int (0 : Int32)), .unset] (hb hby own_d_jdk_52_method_21_code_1) rfl ?_
  refine S.iload 5 (hb hby own_d_jdk_52_method_21_code_3) rfl ?_
  refine S.iload 7 (hb hby own_d_jdk_52_method_21_code_5) rfl ?_
  refine S.icmpN 10 (hb hby own_d_jdk_52_method_21_code_7) (qGeF (by decide)) ?_
  refine S.aloadN 11 (hb hby own_d_jdk_52_method_21_code_10) rfl rfl ?_
  refine S.iloadN 12 (hb hby own_d_jdk_52_method_21_code_11) rfl ?_
  refine S.caload (v := .int c0) 13 (hb hby own_d_jdk_52_method_21_code_12) A ⟨by decide, by decide⟩ rfl ?_
  refine S.istore 15 #[.val (.ref b), .val (.int (0 : Int32)), .val (.ref t), .val (.int (0 : Int32)), .val (.int (4 : Int32)), .val (.int (0 : Int32)), .val (.int c0)] (hb hby own_d_jdk_52_method_21_code_13) rfl ?_
  refine S.iload 17 (hb hby own_d_jdk_52_method_21_code_15) rfl ?_
  refine S.sipush 20 (255 : Int32) (hb hby own_d_jdk_52_method_21_code_17) ?_
  refine S.icmpN 23 (hb hby own_d_jdk_52_method_21_code_20) (qLeF g0) ?_
  refine S.iload 25 (hb hby own_d_jdk_52_method_21_code_23) rfl ?_
  exact S.retI (hb hby own_d_jdk_52_method_21_code_25) hret (by decide) (by decide) rfl


set_option maxRecDepth 65536 in
set_option maxHeartbeats 4000000 in
theorem own_cmp5_4_1 (l : Launch) (Z : State) (a0 : Array Value) (hw : ∀ d ∈ tables_1, d.before a0 Z = true) (h0 : Heap) (n0 : Nat) (O : Old Z n0 h0) (b : Addr) (kc : ClassId) (dc : Value) (t : Addr) (kt : ClassId) (c0 : Int32) (c1 : Int32) (c2 : Int32) (c3 : Int32) (ge_t : n0 ≤ t) (A : Arv Z h0 b kc .char (4 : Int32) [(.int c0), (.int c1), (.int c2), (.int c3)] dc) (B : Arv Z h0 t kt .byte (4 : Int32) [(.int 0), (.int 0), (.int 0), (.int 0)] (.int 0)) (hne : b ≠ t) (g0 : ¬ (255 : Int32) < c0) (g1 : (255 : Int32) < c1) :
    Con l Z n0 (⟨"java/lang/StringUTF16", "compress", "([CI[BII)I"⟩ : MethodName) jdk_52_method_21_code 7 (some .int) [] ({ frames := 0, cells := 0, slots := 0, locals := 0 } : Room) #[(.ref b), (.int (0 : Int32)), (.ref t), (.int (0 : Int32)), (.int (4 : Int32))] h0 [t] (fun v h' => v = some (.int 1)) := by
  refine Con.of a0 (plainFor_of_name own_pn_6) O (by simp [ge_t]) [t] (by simp [B.lt]) ?_
  intro p e s m below meth cdX T S hby hml hret hnm
  refine Go.cast (own_ef_20 m b (0 : Int32) t (0 : Int32) (4 : Int32)) ?_
  refine S.iconst 1 (0 : Int32) (hb hby own_d_jdk_52_method_21_code_0) ?_
  refine S.istore 3 #[.val (.ref b), .val (.int (0 : Int32)), .val (.ref t), .val (.int (0 : Int32)), .val (.int (4 : Int32)), .val (.int (0 : Int32)), .unset] (hb hby own_d_jdk_52_method_21_code_1) rfl ?_
  refine S.iload 5 (hb hby own_d_jdk_52_method_21_code_3) rfl ?_
  refine S.iload 7 (hb hby own_d_jdk_52_method_21_code_5) rfl ?_
  refine S.icmpN 10 (hb hby own_d_jdk_52_method_21_code_7) (qGeF (by decide)) ?_
  refine S.aloadN 11 (hb hby own_d_jdk_52_method_21_code_10) rfl rfl ?_
  refine S.iloadN 12 (hb hby own_d_jdk_52_method_21_code_11) rfl ?_
  refine S.caload (v := .int c0) 13 (hb hby own_d_jdk_52_method_21_code_12) A ⟨by decide, by decide⟩ rfl ?_
  refine S.istore 15 #[.val (.ref b), .val (.int (0 : Int32)), .val (.ref t), .val (.int (0 : Int32)), .val (.int (4 : Int32)), .val (.int (0 : Int32)), .val (.int c0)] (hb hby own_d_jdk_52_method_21_code_13) rfl ?_
  refine S.iload 17 (hb hby own_d_jdk_52_method_21_code_15) rfl ?_
  refine S.sipush 20 (255 : Int32) (hb hby own_d_jdk_52_method_21_code_17) ?_
  refine S.icmpY 26 (hb hby own_d_jdk_52_method_21_code_20) (qLeT g0) ?_
  refine S.aloadN 27 (hb hby own_d_jdk_52_method_21_code_26) rfl rfl ?_
  refine S.iloadN 28 (hb hby own_d_jdk_52_method_21_code_27) rfl ?_
  refine S.iload 30 (hb hby own_d_jdk_52_method_21_code_28) rfl ?_
  refine S.i2b 31 (hb hby own_d_jdk_52_method_21_code_30) ?_
  refine S.bastore 32 0 (hb hby own_d_jdk_52_method_21_code_31) B ⟨by decide, by decide⟩ rfl (Nle rfl) (Or.inl (by simp)) (by simp) ?_
  intro T670 h671 L672 S673 W674 A675
  have f676 : Arv Z h671 t kt .byte (4 : Int32) [(.int (nar .byte (c0.toInt8.toInt32))), (.int (0 : Int32)), (.int (0 : Int32)), (.int (0 : Int32))] (.int 0) := A675
  refine S673.iinc 35 #[.val (.ref b), .val (.int ((0 : Int32) + (1 : Int32))), .val (.ref t), .val (.int (0 : Int32)), .val (.int (4 : Int32)), .val (.int (0 : Int32)), .val (.int c0)] (hb hby own_d_jdk_52_method_21_code_32) rfl rfl ?_
  rw [show ((0 : Int32) + (1 : Int32)) = (1 : Int32) from by decide]
  refine S673.iinc 38 #[.val (.ref b), .val (.int (1 : Int32)), .val (.ref t), .val (.int ((0 : Int32) + (1 : Int32))), .val (.int (4 : Int32)), .val (.int (0 : Int32)), .val (.int c0)] (hb hby own_d_jdk_52_method_21_code_35) rfl rfl ?_
  rw [show ((0 : Int32) + (1 : Int32)) = (1 : Int32) from by decide]
  refine S673.iinc 41 #[.val (.ref b), .val (.int (1 : Int32)), .val (.ref t), .val (.int (1 : Int32)), .val (.int (4 : Int32)), .val (.int ((0 : Int32) + (1 : Int32))), .val (.int c0)] (hb hby own_d_jdk_52_method_21_code_38) rfl rfl ?_
  rw [show ((0 : Int32) + (1 : Int32)) = (1 : Int32) from by decide]
  refine S673.goto 3 (hb hby own_d_jdk_52_method_21_code_41) ?_
  refine S673.iload 5 (hb hby own_d_jdk_52_method_21_code_3) rfl ?_
  refine S673.iload 7 (hb hby own_d_jdk_52_method_21_code_5) rfl ?_
  refine S673.icmpN 10 (hb hby own_d_jdk_52_method_21_code_7) (qGeF (by decide)) ?_
  refine S673.aloadN 11 (hb hby own_d_jdk_52_method_21_code_10) rfl rfl ?_
  refine S673.iloadN 12 (hb hby own_d_jdk_52_method_21_code_11) rfl ?_
  have f677 := (A.other W674 hne)
  refine S673.caload (v := .int c1) 13 (hb hby own_d_jdk_52_method_21_code_12) f677 ⟨by decide, by decide⟩ rfl ?_
  refine S673.istore 15 #[.val (.ref b), .val (.int (1 : Int32)), .val (.ref t), .val (.int (1 : Int32)), .val (.int (4 : Int32)), .val (.int (1 : Int32)), .val (.int c1)] (hb hby own_d_jdk_52_method_21_code_13) rfl ?_
  refine S673.iload 17 (hb hby own_d_jdk_52_method_21_code_15) rfl ?_
  refine S673.sipush 20 (255 : Int32) (hb hby own_d_jdk_52_method_21_code_17) ?_
  refine S673.icmpN 23 (hb hby own_d_jdk_52_method_21_code_20) (qLeF g1) ?_
  refine S673.iload 25 (hb hby own_d_jdk_52_method_21_code_23) rfl ?_
  exact S673.retI (hb hby own_d_jdk_52_method_21_code_25) hret (by decide) (by decide) rfl


set_option maxRecDepth 65536 in
set_option maxHeartbeats 4000000 in
theorem own_cmp5_4_2 (l : Launch) (Z : State) (a0 : Array Value) (hw : ∀ d ∈ tables_1, d.before a0 Z = true) (h0 : Heap) (n0 : Nat) (O : Old Z n0 h0) (b : Addr) (kc : ClassId) (dc : Value) (t : Addr) (kt : ClassId) (c0 : Int32) (c1 : Int32) (c2 : Int32) (c3 : Int32) (ge_t : n0 ≤ t) (A : Arv Z h0 b kc .char (4 : Int32) [(.int c0), (.int c1), (.int c2), (.int c3)] dc) (B : Arv Z h0 t kt .byte (4 : Int32) [(.int 0), (.int 0), (.int 0), (.int 0)] (.int 0)) (hne : b ≠ t) (g0 : ¬ (255 : Int32) < c0) (g1 : ¬ (255 : Int32) < c1) (g2 : (255 : Int32) < c2) :
    Con l Z n0 (⟨"java/lang/StringUTF16", "compress", "([CI[BII)I"⟩ : MethodName) jdk_52_method_21_code 7 (some .int) [] ({ frames := 0, cells := 0, slots := 0, locals := 0 } : Room) #[(.ref b), (.int (0 : Int32)), (.ref t), (.int (0 : Int32)), (.int (4 : Int32))] h0 [t] (fun v h' => v = some (.int 2)) := by
  refine Con.of a0 (plainFor_of_name own_pn_6) O (by simp [ge_t]) [t] (by simp [B.lt]) ?_
  intro p e s m below meth cdX T S hby hml hret hnm
  refine Go.cast (own_ef_20 m b (0 : Int32) t (0 : Int32) (4 : Int32)) ?_
  refine S.iconst 1 (0 : Int32) (hb hby own_d_jdk_52_method_21_code_0) ?_
  refine S.istore 3 #[.val (.ref b), .val (.int (0 : Int32)), .val (.ref t), .val (.int (0 : Int32)), .val (.int (4 : Int32)), .val (.int (0 : Int32)), .unset] (hb hby own_d_jdk_52_method_21_code_1) rfl ?_
  refine S.iload 5 (hb hby own_d_jdk_52_method_21_code_3) rfl ?_
  refine S.iload 7 (hb hby own_d_jdk_52_method_21_code_5) rfl ?_
  refine S.icmpN 10 (hb hby own_d_jdk_52_method_21_code_7) (qGeF (by decide)) ?_
  refine S.aloadN 11 (hb hby own_d_jdk_52_method_21_code_10) rfl rfl ?_
  refine S.iloadN 12 (hb hby own_d_jdk_52_method_21_code_11) rfl ?_
  refine S.caload (v := .int c0) 13 (hb hby own_d_jdk_52_method_21_code_12) A ⟨by decide, by decide⟩ rfl ?_
  refine S.istore 15 #[.val (.ref b), .val (.int (0 : Int32)), .val (.ref t), .val (.int (0 : Int32)), .val (.int (4 : Int32)), .val (.int (0 : Int32)), .val (.int c0)] (hb hby own_d_jdk_52_method_21_code_13) rfl ?_
  refine S.iload 17 (hb hby own_d_jdk_52_method_21_code_15) rfl ?_
  refine S.sipush 20 (255 : Int32) (hb hby own_d_jdk_52_method_21_code_17) ?_
  refine S.icmpY 26 (hb hby own_d_jdk_52_method_21_code_20) (qLeT g0) ?_
  refine S.aloadN 27 (hb hby own_d_jdk_52_method_21_code_26) rfl rfl ?_
  refine S.iloadN 28 (hb hby own_d_jdk_52_method_21_code_27) rfl ?_
  refine S.iload 30 (hb hby own_d_jdk_52_method_21_code_28) rfl ?_
  refine S.i2b 31 (hb hby own_d_jdk_52_method_21_code_30) ?_
  refine S.bastore 32 0 (hb hby own_d_jdk_52_method_21_code_31) B ⟨by decide, by decide⟩ rfl (Nle rfl) (Or.inl (by simp)) (by simp) ?_
  intro T678 h679 L680 S681 W682 A683
  have f684 : Arv Z h679 t kt .byte (4 : Int32) [(.int (nar .byte (c0.toInt8.toInt32))), (.int (0 : Int32)), (.int (0 : Int32)), (.int (0 : Int32))] (.int 0) := A683
  refine S681.iinc 35 #[.val (.ref b), .val (.int ((0 : Int32) + (1 : Int32))), .val (.ref t), .val (.int (0 : Int32)), .val (.int (4 : Int32)), .val (.int (0 : Int32)), .val (.int c0)] (hb hby own_d_jdk_52_method_21_code_32) rfl rfl ?_
  rw [show ((0 : Int32) + (1 : Int32)) = (1 : Int32) from by decide]
  refine S681.iinc 38 #[.val (.ref b), .val (.int (1 : Int32)), .val (.ref t), .val (.int ((0 : Int32) + (1 : Int32))), .val (.int (4 : Int32)), .val (.int (0 : Int32)), .val (.int c0)] (hb hby own_d_jdk_52_method_21_code_35) rfl rfl ?_
  rw [show ((0 : Int32) + (1 : Int32)) = (1 : Int32) from by decide]
  refine S681.iinc 41 #[.val (.ref b), .val (.int (1 : Int32)), .val (.ref t), .val (.int (1 : Int32)), .val (.int (4 : Int32)), .val (.int ((0 : Int32) + (1 : Int32))), .val (.int c0)] (hb hby own_d_jdk_52_method_21_code_38) rfl rfl ?_
  rw [show ((0 : Int32) + (1 : Int32)) = (1 : Int32) from by decide]
  refine S681.goto 3 (hb hby own_d_jdk_52_method_21_code_41) ?_
  refine S681.iload 5 (hb hby own_d_jdk_52_method_21_code_3) rfl ?_
  refine S681.iload 7 (hb hby own_d_jdk_52_method_21_code_5) rfl ?_
  refine S681.icmpN 10 (hb hby own_d_jdk_52_method_21_code_7) (qGeF (by decide)) ?_
  refine S681.aloadN 11 (hb hby own_d_jdk_52_method_21_code_10) rfl rfl ?_
  refine S681.iloadN 12 (hb hby own_d_jdk_52_method_21_code_11) rfl ?_
  have f685 := (A.other W682 hne)
  refine S681.caload (v := .int c1) 13 (hb hby own_d_jdk_52_method_21_code_12) f685 ⟨by decide, by decide⟩ rfl ?_
  refine S681.istore 15 #[.val (.ref b), .val (.int (1 : Int32)), .val (.ref t), .val (.int (1 : Int32)), .val (.int (4 : Int32)), .val (.int (1 : Int32)), .val (.int c1)] (hb hby own_d_jdk_52_method_21_code_13) rfl ?_
  refine S681.iload 17 (hb hby own_d_jdk_52_method_21_code_15) rfl ?_
  refine S681.sipush 20 (255 : Int32) (hb hby own_d_jdk_52_method_21_code_17) ?_
  refine S681.icmpY 26 (hb hby own_d_jdk_52_method_21_code_20) (qLeT g1) ?_
  refine S681.aloadN 27 (hb hby own_d_jdk_52_method_21_code_26) rfl rfl ?_
  refine S681.iloadN 28 (hb hby own_d_jdk_52_method_21_code_27) rfl ?_
  refine S681.iload 30 (hb hby own_d_jdk_52_method_21_code_28) rfl ?_
  refine S681.i2b 31 (hb hby own_d_jdk_52_method_21_code_30) ?_
  refine S681.bastore 32 1 (hb hby own_d_jdk_52_method_21_code_31) f684 ⟨by decide, by decide⟩ rfl (Nle rfl) (Or.inl (by simp)) (by simp) ?_
  intro T686 h687 L688 S689 W690 A691
  have f692 : Arv Z h687 t kt .byte (4 : Int32) [(.int (nar .byte (c0.toInt8.toInt32))), (.int (nar .byte (c1.toInt8.toInt32))), (.int (0 : Int32)), (.int (0 : Int32))] (.int 0) := A691
  refine S689.iinc 35 #[.val (.ref b), .val (.int ((1 : Int32) + (1 : Int32))), .val (.ref t), .val (.int (1 : Int32)), .val (.int (4 : Int32)), .val (.int (1 : Int32)), .val (.int c1)] (hb hby own_d_jdk_52_method_21_code_32) rfl rfl ?_
  rw [show ((1 : Int32) + (1 : Int32)) = (2 : Int32) from by decide]
  refine S689.iinc 38 #[.val (.ref b), .val (.int (2 : Int32)), .val (.ref t), .val (.int ((1 : Int32) + (1 : Int32))), .val (.int (4 : Int32)), .val (.int (1 : Int32)), .val (.int c1)] (hb hby own_d_jdk_52_method_21_code_35) rfl rfl ?_
  rw [show ((1 : Int32) + (1 : Int32)) = (2 : Int32) from by decide]
  refine S689.iinc 41 #[.val (.ref b), .val (.int (2 : Int32)), .val (.ref t), .val (.int (2 : Int32)), .val (.int (4 : Int32)), .val (.int ((1 : Int32) + (1 : Int32))), .val (.int c1)] (hb hby own_d_jdk_52_method_21_code_38) rfl rfl ?_
  rw [show ((1 : Int32) + (1 : Int32)) = (2 : Int32) from by decide]
  refine S689.goto 3 (hb hby own_d_jdk_52_method_21_code_41) ?_
  refine S689.iload 5 (hb hby own_d_jdk_52_method_21_code_3) rfl ?_
  refine S689.iload 7 (hb hby own_d_jdk_52_method_21_code_5) rfl ?_
  refine S689.icmpN 10 (hb hby own_d_jdk_52_method_21_code_7) (qGeF (by decide)) ?_
  refine S689.aloadN 11 (hb hby own_d_jdk_52_method_21_code_10) rfl rfl ?_
  refine S689.iloadN 12 (hb hby own_d_jdk_52_method_21_code_11) rfl ?_
  have f693 := (f685.other W690 hne)
  refine S689.caload (v := .int c2) 13 (hb hby own_d_jdk_52_method_21_code_12) f693 ⟨by decide, by decide⟩ rfl ?_
  refine S689.istore 15 #[.val (.ref b), .val (.int (2 : Int32)), .val (.ref t), .val (.int (2 : Int32)), .val (.int (4 : Int32)), .val (.int (2 : Int32)), .val (.int c2)] (hb hby own_d_jdk_52_method_21_code_13) rfl ?_
  refine S689.iload 17 (hb hby own_d_jdk_52_method_21_code_15) rfl ?_
  refine S689.sipush 20 (255 : Int32) (hb hby own_d_jdk_52_method_21_code_17) ?_
  refine S689.icmpN 23 (hb hby own_d_jdk_52_method_21_code_20) (qLeF g2) ?_
  refine S689.iload 25 (hb hby own_d_jdk_52_method_21_code_23) rfl ?_
  exact S689.retI (hb hby own_d_jdk_52_method_21_code_25) hret (by decide) (by decide) rfl


set_option maxRecDepth 65536 in
set_option maxHeartbeats 4000000 in
theorem own_cmp5_4_3 (l : Launch) (Z : State) (a0 : Array Value) (hw : ∀ d ∈ tables_1, d.before a0 Z = true) (h0 : Heap) (n0 : Nat) (O : Old Z n0 h0) (b : Addr) (kc : ClassId) (dc : Value) (t : Addr) (kt : ClassId) (c0 : Int32) (c1 : Int32) (c2 : Int32) (c3 : Int32) (ge_t : n0 ≤ t) (A : Arv Z h0 b kc .char (4 : Int32) [(.int c0), (.int c1), (.int c2), (.int c3)] dc) (B : Arv Z h0 t kt .byte (4 : Int32) [(.int 0), (.int 0), (.int 0), (.int 0)] (.int 0)) (hne : b ≠ t) (g0 : ¬ (255 : Int32) < c0) (g1 : ¬ (255 : Int32) < c1) (g2 : ¬ (255 : Int32) < c2) (g3 : (255 : Int32) < c3) :
    Con l Z n0 (⟨"java/lang/StringUTF16", "compress", "([CI[BII)I"⟩ : MethodName) jdk_52_method_21_code 7 (some .int) [] ({ frames := 0, cells := 0, slots := 0, locals := 0 } : Room) #[(.ref b), (.int (0 : Int32)), (.ref t), (.int (0 : Int32)), (.int (4 : Int32))] h0 [t] (fun v h' => v = some (.int 3)) := by
  refine Con.of a0 (plainFor_of_name own_pn_6) O (by simp [ge_t]) [t] (by simp [B.lt]) ?_
  intro p e s m below meth cdX T S hby hml hret hnm
  refine Go.cast (own_ef_20 m b (0 : Int32) t (0 : Int32) (4 : Int32)) ?_
  refine S.iconst 1 (0 : Int32) (hb hby own_d_jdk_52_method_21_code_0) ?_
  refine S.istore 3 #[.val (.ref b), .val (.int (0 : Int32)), .val (.ref t), .val (.int (0 : Int32)), .val (.int (4 : Int32)), .val (.int (0 : Int32)), .unset] (hb hby own_d_jdk_52_method_21_code_1) rfl ?_
  refine S.iload 5 (hb hby own_d_jdk_52_method_21_code_3) rfl ?_
  refine S.iload 7 (hb hby own_d_jdk_52_method_21_code_5) rfl ?_
  refine S.icmpN 10 (hb hby own_d_jdk_52_method_21_code_7) (qGeF (by decide)) ?_
  refine S.aloadN 11 (hb hby own_d_jdk_52_method_21_code_10) rfl rfl ?_
  refine S.iloadN 12 (hb hby own_d_jdk_52_method_21_code_11) rfl ?_
  refine S.caload (v := .int c0) 13 (hb hby own_d_jdk_52_method_21_code_12) A ⟨by decide, by decide⟩ rfl ?_
  refine S.istore 15 #[.val (.ref b), .val (.int (0 : Int32)), .val (.ref t), .val (.int (0 : Int32)), .val (.int (4 : Int32)), .val (.int (0 : Int32)), .val (.int c0)] (hb hby own_d_jdk_52_method_21_code_13) rfl ?_
  refine S.iload 17 (hb hby own_d_jdk_52_method_21_code_15) rfl ?_
  refine S.sipush 20 (255 : Int32) (hb hby own_d_jdk_52_method_21_code_17) ?_
  refine S.icmpY 26 (hb hby own_d_jdk_52_method_21_code_20) (qLeT g0) ?_
  refine S.aloadN 27 (hb hby own_d_jdk_52_method_21_code_26) rfl rfl ?_
  refine S.iloadN 28 (hb hby own_d_jdk_52_method_21_code_27) rfl ?_
  refine S.iload 30 (hb hby own_d_jdk_52_method_21_code_28) rfl ?_
  refine S.i2b 31 (hb hby own_d_jdk_52_method_21_code_30) ?_
  refine S.bastore 32 0 (hb hby own_d_jdk_52_method_21_code_31) B ⟨by decide, by decide⟩ rfl (Nle rfl) (Or.inl (by simp)) (by simp) ?_
  intro T694 h695 L696 S697 W698 A699
  have f700 : Arv Z h695 t kt .byte (4 : Int32) [(.int (nar .byte (c0.toInt8.toInt32))), (.int (0 : Int32)), (.int (0 : Int32)), (.int (0 : Int32))] (.int 0) := A699
  refine S697.iinc 35 #[.val (.ref b), .val (.int ((0 : Int32) + (1 : Int32))), .val (.ref t), .val (.int (0 : Int32)), .val (.int (4 : Int32)), .val (.int (0 : Int32)), .val (.int c0)] (hb hby own_d_jdk_52_method_21_code_32) rfl rfl ?_
  rw [show ((0 : Int32) + (1 : Int32)) = (1 : Int32) from by decide]
  refine S697.iinc 38 #[.val (.ref b), .val (.int (1 : Int32)), .val (.ref t), .val (.int ((0 : Int32) + (1 : Int32))), .val (.int (4 : Int32)), .val (.int (0 : Int32)), .val (.int c0)] (hb hby own_d_jdk_52_method_21_code_35) rfl rfl ?_
  rw [show ((0 : Int32) + (1 : Int32)) = (1 : Int32) from by decide]
  refine S697.iinc 41 #[.val (.ref b), .val (.int (1 : Int32)), .val (.ref t), .val (.int (1 : Int32)), .val (.int (4 : Int32)), .val (.int ((0 : Int32) + (1 : Int32))), .val (.int c0)] (hb hby own_d_jdk_52_method_21_code_38) rfl rfl ?_
  rw [show ((0 : Int32) + (1 : Int32)) = (1 : Int32) from by decide]
  refine S697.goto 3 (hb hby own_d_jdk_52_method_21_code_41) ?_
  refine S697.iload 5 (hb hby own_d_jdk_52_method_21_code_3) rfl ?_
  refine S697.iload 7 (hb hby own_d_jdk_52_method_21_code_5) rfl ?_
  refine S697.icmpN 10 (hb hby own_d_jdk_52_method_21_code_7) (qGeF (by decide)) ?_
  refine S697.aloadN 11 (hb hby own_d_jdk_52_method_21_code_10) rfl rfl ?_
  refine S697.iloadN 12 (hb hby own_d_jdk_52_method_21_code_11) rfl ?_
  have f701 := (A.other W698 hne)
  refine S697.caload (v := .int c1) 13 (hb hby own_d_jdk_52_method_21_code_12) f701 ⟨by decide, by decide⟩ rfl ?_
  refine S697.istore 15 #[.val (.ref b), .val (.int (1 : Int32)), .val (.ref t), .val (.int (1 : Int32)), .val (.int (4 : Int32)), .val (.int (1 : Int32)), .val (.int c1)] (hb hby own_d_jdk_52_method_21_code_13) rfl ?_
  refine S697.iload 17 (hb hby own_d_jdk_52_method_21_code_15) rfl ?_
  refine S697.sipush 20 (255 : Int32) (hb hby own_d_jdk_52_method_21_code_17) ?_
  refine S697.icmpY 26 (hb hby own_d_jdk_52_method_21_code_20) (qLeT g1) ?_
  refine S697.aloadN 27 (hb hby own_d_jdk_52_method_21_code_26) rfl rfl ?_
  refine S697.iloadN 28 (hb hby own_d_jdk_52_method_21_code_27) rfl ?_
  refine S697.iload 30 (hb hby own_d_jdk_52_method_21_code_28) rfl ?_
  refine S697.i2b 31 (hb hby own_d_jdk_52_method_21_code_30) ?_
  refine S697.bastore 32 1 (hb hby own_d_jdk_52_method_21_code_31) f700 ⟨by decide, by decide⟩ rfl (Nle rfl) (Or.inl (by simp)) (by simp) ?_
  intro T702 h703 L704 S705 W706 A707
  have f708 : Arv Z h703 t kt .byte (4 : Int32) [(.int (nar .byte (c0.toInt8.toInt32))), (.int (nar .byte (c1.toInt8.toInt32))), (.int (0 : Int32)), (.int (0 : Int32))] (.int 0) := A707
  refine S705.iinc 35 #[.val (.ref b), .val (.int ((1 : Int32) + (1 : Int32))), .val (.ref t), .val (.int (1 : Int32)), .val (.int (4 : Int32)), .val (.int (1 : Int32)), .val (.int c1)] (hb hby own_d_jdk_52_method_21_code_32) rfl rfl ?_
  rw [show ((1 : Int32) + (1 : Int32)) = (2 : Int32) from by decide]
  refine S705.iinc 38 #[.val (.ref b), .val (.int (2 : Int32)), .val (.ref t), .val (.int ((1 : Int32) + (1 : Int32))), .val (.int (4 : Int32)), .val (.int (1 : Int32)), .val (.int c1)] (hb hby own_d_jdk_52_method_21_code_35) rfl rfl ?_
  rw [show ((1 : Int32) + (1 : Int32)) = (2 : Int32) from by decide]
  refine S705.iinc 41 #[.val (.ref b), .val (.int (2 : Int32)), .val (.ref t), .val (.int (2 : Int32)), .val (.int (4 : Int32)), .val (.int ((1 : Int32) + (1 : Int32))), .val (.int c1)] (hb hby own_d_jdk_52_method_21_code_38) rfl rfl ?_
  rw [show ((1 : Int32) + (1 : Int32)) = (2 : Int32) from by decide]
  refine S705.goto 3 (hb hby own_d_jdk_52_method_21_code_41) ?_
  refine S705.iload 5 (hb hby own_d_jdk_52_method_21_code_3) rfl ?_
  refine S705.iload 7 (hb hby own_d_jdk_52_method_21_code_5) rfl ?_
  refine S705.icmpN 10 (hb hby own_d_jdk_52_method_21_code_7) (qGeF (by decide)) ?_
  refine S705.aloadN 11 (hb hby own_d_jdk_52_method_21_code_10) rfl rfl ?_
  refine S705.iloadN 12 (hb hby own_d_jdk_52_method_21_code_11) rfl ?_
  have f709 := (f701.other W706 hne)
  refine S705.caload (v := .int c2) 13 (hb hby own_d_jdk_52_method_21_code_12) f709 ⟨by decide, by decide⟩ rfl ?_
  refine S705.istore 15 #[.val (.ref b), .val (.int (2 : Int32)), .val (.ref t), .val (.int (2 : Int32)), .val (.int (4 : Int32)), .val (.int (2 : Int32)), .val (.int c2)] (hb hby own_d_jdk_52_method_21_code_13) rfl ?_
  refine S705.iload 17 (hb hby own_d_jdk_52_method_21_code_15) rfl ?_
  refine S705.sipush 20 (255 : Int32) (hb hby own_d_jdk_52_method_21_code_17) ?_
  refine S705.icmpY 26 (hb hby own_d_jdk_52_method_21_code_20) (qLeT g2) ?_
  refine S705.aloadN 27 (hb hby own_d_jdk_52_method_21_code_26) rfl rfl ?_
  refine S705.iloadN 28 (hb hby own_d_jdk_52_method_21_code_27) rfl ?_
  refine S705.iload 30 (hb hby own_d_jdk_52_method_21_code_28) rfl ?_
  refine S705.i2b 31 (hb hby own_d_jdk_52_method_21_code_30) ?_
  refine S705.bastore 32 2 (hb hby own_d_jdk_52_method_21_code_31) f708 ⟨by decide, by decide⟩ rfl (Nle rfl) (Or.inl (by simp)) (by simp) ?_
  intro T710 h711 L712 S713 W714 A715
  have f716 : Arv Z h711 t kt .byte (4 : Int32) [(.int (nar .byte (c0.toInt8.toInt32))), (.int (nar .byte (c1.toInt8.toInt32))), (.int (nar .byte (c2.toInt8.toInt32))), (.int (0 : Int32))] (.int 0) := A715
  refine S713.iinc 35 #[.val (.ref b), .val (.int ((2 : Int32) + (1 : Int32))), .val (.ref t), .val (.int (2 : Int32)), .val (.int (4 : Int32)), .val (.int (2 : Int32)), .val (.int c2)] (hb hby own_d_jdk_52_method_21_code_32) rfl rfl ?_
  rw [show ((2 : Int32) + (1 : Int32)) = (3 : Int32) from by decide]
  refine S713.iinc 38 #[.val (.ref b), .val (.int (3 : Int32)), .val (.ref t), .val (.int ((2 : Int32) + (1 : Int32))), .val (.int (4 : Int32)), .val (.int (2 : Int32)), .val (.int c2)] (hb hby own_d_jdk_52_method_21_code_35) rfl rfl ?_
  rw [show ((2 : Int32) + (1 : Int32)) = (3 : Int32) from by decide]
  refine S713.iinc 41 #[.val (.ref b), .val (.int (3 : Int32)), .val (.ref t), .val (.int (3 : Int32)), .val (.int (4 : Int32)), .val (.int ((2 : Int32) + (1 : Int32))), .val (.int c2)] (hb hby own_d_jdk_52_method_21_code_38) rfl rfl ?_
  rw [show ((2 : Int32) + (1 : Int32)) = (3 : Int32) from by decide]
  refine S713.goto 3 (hb hby own_d_jdk_52_method_21_code_41) ?_
  refine S713.iload 5 (hb hby own_d_jdk_52_method_21_code_3) rfl ?_
  refine S713.iload 7 (hb hby own_d_jdk_52_method_21_code_5) rfl ?_
  refine S713.icmpN 10 (hb hby own_d_jdk_52_method_21_code_7) (qGeF (by decide)) ?_
  refine S713.aloadN 11 (hb hby own_d_jdk_52_method_21_code_10) rfl rfl ?_
  refine S713.iloadN 12 (hb hby own_d_jdk_52_method_21_code_11) rfl ?_
  have f717 := (f709.other W714 hne)
  refine S713.caload (v := .int c3) 13 (hb hby own_d_jdk_52_method_21_code_12) f717 ⟨by decide, by decide⟩ rfl ?_
  refine S713.istore 15 #[.val (.ref b), .val (.int (3 : Int32)), .val (.ref t), .val (.int (3 : Int32)), .val (.int (4 : Int32)), .val (.int (3 : Int32)), .val (.int c3)] (hb hby own_d_jdk_52_method_21_code_13) rfl ?_
  refine S713.iload 17 (hb hby own_d_jdk_52_method_21_code_15) rfl ?_
  refine S713.sipush 20 (255 : Int32) (hb hby own_d_jdk_52_method_21_code_17) ?_
  refine S713.icmpN 23 (hb hby own_d_jdk_52_method_21_code_20) (qLeF g3) ?_
  refine S713.iload 25 (hb hby own_d_jdk_52_method_21_code_23) rfl ?_
  exact S713.retI (hb hby own_d_jdk_52_method_21_code_25) hret (by decide) (by decide) rfl


set_option maxRecDepth 65536 in
set_option maxHeartbeats 4000000 in
theorem own_nbf_4 (l : Launch) (Z : State) (a0 : Array Value) (hw : ∀ d ∈ tables_1, d.before a0 Z = true) (h0 : Heap) (n0 : Nat) (O : Old Z n0 h0) :
    Con l Z n0 (⟨"java/lang/StringUTF16", "newBytesFor", "(I)[B"⟩ : MethodName) jdk_52_method_2_code 1 (some (.array .byte)) [] ({ frames := 1, cells := 1, slots := 8, locals := 20 } : Room) #[(.int (4 : Int32))] h0 [] (fun v h' => ∃ t kb, v = some (.ref t) ∧ h0.size ≤ t ∧ Arv Z h' t kb .byte (8 : Int32) [(.int 0), (.int 0), (.int 0), (.int 0), (.int 0), (.int 0), (.int 0), (.int 0)] (.int 0)) := by
  refine Con.of a0 (plainFor_of_name own_pn_6) O (fun _ q => nomatch q) [] (fun _ q => nomatch q) ?_
  intro p e s m below meth cdX T S hby hml hret hnm
  refine Go.cast (own_ef_18 m (4 : Int32)) ?_
  refine S.iloadN 1 (hb hby own_d_jdk_52_method_2_code_0) rfl ?_
  refine S.scall 4 (hb hby own_d_jdk_52_method_2_code_1) (by rw [hml]; rfl) (Tw hw 85 rfl) (Tw hw 86 rfl) (Tw hw 20 rfl) (Tw hw 87 rfl) (by decide) [(.int (4 : Int32))] [] (Con.pay (W := 0) (own_nbl l Z a0 hw h0 n0 S.old 4 (by decide)) (Tw hw 87 rfl) (Tw hw 20 rfl) (by decide) (by decide)) (lenOf own_pd_21 rfl) rfl (Nle rfl) (by decide) (by decide) Wrs.nil ?_
  intro v718 T719 h720 L721 S722 q723 K724
  obtain ⟨rfl, e_q723⟩ := q723
  obtain rfl := e_q723.symm
  show Go p e below _ T719 (mkF m 4 #[.val (.int (4 : Int32))] [(.int (8 : Int32))])
  refine S722.newarr 6 8 (hb hby own_d_jdk_52_method_2_code_4) (Tw hw 22 rfl) (by decide) (by decide) (by decide) (by decide) (by decide) ?_
  intro T725 h726 b727 k728 S729 E730 g731 wo732 A733
  have f734 : Arv Z h726 b727 k728 .byte (8 : Int32) [(.int (0 : Int32)), (.int (0 : Int32)), (.int (0 : Int32)), (.int (0 : Int32)), (.int (0 : Int32)), (.int (0 : Int32)), (.int (0 : Int32)), (.int (0 : Int32))] (.int (0 : Int32)) := A733.pad (pad_rep [] (.int (0 : Int32)) 8)
  exact S729.retA (hb hby own_d_jdk_52_method_2_code_6) hret rfl rfl (by decide) (by decide) ⟨_, _, rfl, (by rcases wo732 with z | z; exact absurd z List.not_mem_nil; exact z), f734⟩


set_option maxRecDepth 65536 in
set_option maxHeartbeats 4000000 in
theorem own_toB16_4 (l : Launch) (Z : State) (a0 : Array Value) (hw : ∀ d ∈ tables_1, d.before a0 Z = true) (us : U16s Z) (h0 : Heap) (n0 : Nat) (O : Old Z n0 h0) (b : Addr) (kc : ClassId) (dc : Value) (c0 : Int32) (c1 : Int32) (c2 : Int32) (c3 : Int32) (A : Arv Z h0 b kc .char (4 : Int32) [(.int c0), (.int c1), (.int c2), (.int c3)] dc) (u0 : U16 c0) (u1 : U16 c1) (u2 : U16 c2) (u3 : U16 c3) :
    Con l Z n0 (⟨"java/lang/StringUTF16", "toBytes", "([CII)[B"⟩ : MethodName) jdk_52_method_14_code 5 (some (.array .byte)) [] ({ frames := 2, cells := 1, slots := 8, locals := 40 } : Room) #[(.ref b), (.int (0 : Int32)), (.int (4 : Int32))] h0 [] (fun v h' => ∃ t kb, v = some (.ref t) ∧ h0.size ≤ t ∧ Arv Z h' t kb .byte (8 : Int32) (StrChars.Road.wideBytes ([c0, c1, c2, c3] : List Int32)) (.int 0)) := by
  refine Con.of a0 (plainFor_of_name own_pn_6) O (fun _ q => nomatch q) [] (fun _ q => nomatch q) ?_
  intro p e s m below meth cdX T S hby hml hret hnm
  refine Go.cast (own_ef_22 m b (0 : Int32) (4 : Int32)) ?_
  refine S.iloadN 1 (hb hby own_d_jdk_52_method_14_code_0) rfl ?_
  refine S.scall 4 (hb hby own_d_jdk_52_method_14_code_1) (by rw [hml]; rfl) (Tw hw 82 rfl) (Tw hw 83 rfl) (Tw hw 20 rfl) (Tw hw 84 rfl) (by decide) [(.int (4 : Int32))] [] (Con.pay (W := 0) (own_nbf_4 l Z a0 hw h0 n0 S.old) (Tw hw 84 rfl) (Tw hw 20 rfl) (by decide) (by decide)) (lenOf own_pd_23 rfl) rfl (Nle rfl) (by decide) (by decide) Wrs.nil ?_
  intro v735 T736 h737 L738 S739 q740 K741
  obtain ⟨t742, kb743, rfl, g744, A745⟩ := q740
  have l746 : b < t742 := Nat.lt_of_lt_of_le A.lt g744
  have wo747 : Wok n0 h0 [] t742 := Or.inr g744
  have S748 := S739.addF A745.lt
  show Go p e below _ T736 (mkF m 4 #[.val (.ref b), .val (.int (0 : Int32)), .val (.int (4 : Int32)), .unset, .unset] [(.ref t742)])
  refine S748.astoreN 5 #[.val (.ref b), .val (.int (0 : Int32)), .val (.int (4 : Int32)), .val (.ref t742), .unset] (hb hby own_d_jdk_52_method_14_code_4) rfl rfl ?_
  refine S748.iconst 6 (0 : Int32) (hb hby own_d_jdk_52_method_14_code_5) ?_
  refine S748.istore 8 #[.val (.ref b), .val (.int (0 : Int32)), .val (.int (4 : Int32)), .val (.ref t742), .val (.int (0 : Int32))] (hb hby own_d_jdk_52_method_14_code_6) rfl ?_
  refine S748.iload 10 (hb hby own_d_jdk_52_method_14_code_8) rfl ?_
  refine S748.iloadN 11 (hb hby own_d_jdk_52_method_14_code_10) rfl ?_
  refine S748.icmpN 14 (hb hby own_d_jdk_52_method_14_code_11) (qGeF (by decide)) ?_
  refine S748.aloadN 15 (hb hby own_d_jdk_52_method_14_code_14) rfl rfl ?_
  refine S748.iload 17 (hb hby own_d_jdk_52_method_14_code_15) rfl ?_
  refine S748.aloadN 18 (hb hby own_d_jdk_52_method_14_code_17) rfl rfl ?_
  refine S748.iloadN 19 (hb hby own_d_jdk_52_method_14_code_18) rfl ?_
  have f749 := (A.keep K741 nin0)
  refine S748.caload (v := .int c0) 20 (hb hby own_d_jdk_52_method_14_code_19) f749 ⟨by decide, by decide⟩ rfl ?_
  refine S748.scall 23 (hb hby own_d_jdk_52_method_14_code_20) (by rw [hml]; rfl) (Tw hw 89 rfl) (Tw hw 90 rfl) (Tw hw 20 rfl) (Tw hw 91 rfl) (by decide) [(.ref t742), (.int (0 : Int32)), (.int c0)] [] (Con.pay (W := 0) (own_put l Z a0 hw us h737 n0 S748.old t742 kb743 4 [(.int (0 : Int32)), (.int (0 : Int32)), (.int (0 : Int32)), (.int (0 : Int32)), (.int (0 : Int32)), (.int (0 : Int32)), (.int (0 : Int32)), (.int (0 : Int32))] (.int 0) 0 c0 (S748.ge wo747) (by decide) (by decide) rfl A745) (Tw hw 91 rfl) (Tw hw 20 rfl) (by decide) (by decide)) (lenOf own_pd_24 rfl) rfl (Nle rfl) (by decide) (by decide) (Wrs.one wo747 (Or.inl (by simp))) ?_
  intro v750 T751 h752 L753 S754 q755 K756
  obtain ⟨rfl, A757⟩ := q755
  have f758 : Arv Z h752 t742 kb743 .byte (8 : Int32) [(.int (StrChars.lo8 c0)), (.int (StrChars.hi8 c0)), (.int (0 : Int32)), (.int (0 : Int32)), (.int (0 : Int32)), (.int (0 : Int32)), (.int (0 : Int32)), (.int (0 : Int32))] (.int 0) := A757
  show Go p e below _ T751 (mkF m 23 #[.val (.ref b), .val (.int (0 : Int32)), .val (.int (4 : Int32)), .val (.ref t742), .val (.int (0 : Int32))] [])
  refine S754.iinc 26 #[.val (.ref b), .val (.int ((0 : Int32) + (1 : Int32))), .val (.int (4 : Int32)), .val (.ref t742), .val (.int (0 : Int32))] (hb hby own_d_jdk_52_method_14_code_23) rfl rfl ?_
  rw [show ((0 : Int32) + (1 : Int32)) = (1 : Int32) from by decide]
  refine S754.iinc 29 #[.val (.ref b), .val (.int (1 : Int32)), .val (.int (4 : Int32)), .val (.ref t742), .val (.int ((0 : Int32) + (1 : Int32)))] (hb hby own_d_jdk_52_method_14_code_26) rfl rfl ?_
  rw [show ((0 : Int32) + (1 : Int32)) = (1 : Int32) from by decide]
  refine S754.goto 8 (hb hby own_d_jdk_52_method_14_code_29) ?_
  refine S754.iload 10 (hb hby own_d_jdk_52_method_14_code_8) rfl ?_
  refine S754.iloadN 11 (hb hby own_d_jdk_52_method_14_code_10) rfl ?_
  refine S754.icmpN 14 (hb hby own_d_jdk_52_method_14_code_11) (qGeF (by decide)) ?_
  refine S754.aloadN 15 (hb hby own_d_jdk_52_method_14_code_14) rfl rfl ?_
  refine S754.iload 17 (hb hby own_d_jdk_52_method_14_code_15) rfl ?_
  refine S754.aloadN 18 (hb hby own_d_jdk_52_method_14_code_17) rfl rfl ?_
  refine S754.iloadN 19 (hb hby own_d_jdk_52_method_14_code_18) rfl ?_
  have f759 := (f749.keep K756 (ninS (Nat.ne_of_lt l746) nin0))
  refine S754.caload (v := .int c1) 20 (hb hby own_d_jdk_52_method_14_code_19) f759 ⟨by decide, by decide⟩ rfl ?_
  refine S754.scall 23 (hb hby own_d_jdk_52_method_14_code_20) (by rw [hml]; rfl) (Tw hw 89 rfl) (Tw hw 90 rfl) (Tw hw 20 rfl) (Tw hw 91 rfl) (by decide) [(.ref t742), (.int (1 : Int32)), (.int c1)] [] (Con.pay (W := 0) (own_put l Z a0 hw us h752 n0 S754.old t742 kb743 4 [(.int (StrChars.lo8 c0)), (.int (StrChars.hi8 c0)), (.int (0 : Int32)), (.int (0 : Int32)), (.int (0 : Int32)), (.int (0 : Int32)), (.int (0 : Int32)), (.int (0 : Int32))] (.int 0) 1 c1 (S754.ge wo747) (by decide) (by decide) rfl f758) (Tw hw 91 rfl) (Tw hw 20 rfl) (by decide) (by decide)) (lenOf own_pd_24 rfl) rfl (Nle rfl) (by decide) (by decide) (Wrs.one wo747 (Or.inl (by simp))) ?_
  intro v760 T761 h762 L763 S764 q765 K766
  obtain ⟨rfl, A767⟩ := q765
  have f768 : Arv Z h762 t742 kb743 .byte (8 : Int32) [(.int (StrChars.lo8 c0)), (.int (StrChars.hi8 c0)), (.int (StrChars.lo8 c1)), (.int (StrChars.hi8 c1)), (.int (0 : Int32)), (.int (0 : Int32)), (.int (0 : Int32)), (.int (0 : Int32))] (.int 0) := A767
  show Go p e below _ T761 (mkF m 23 #[.val (.ref b), .val (.int (1 : Int32)), .val (.int (4 : Int32)), .val (.ref t742), .val (.int (1 : Int32))] [])
  refine S764.iinc 26 #[.val (.ref b), .val (.int ((1 : Int32) + (1 : Int32))), .val (.int (4 : Int32)), .val (.ref t742), .val (.int (1 : Int32))] (hb hby own_d_jdk_52_method_14_code_23) rfl rfl ?_
  rw [show ((1 : Int32) + (1 : Int32)) = (2 : Int32) from by decide]
  refine S764.iinc 29 #[.val (.ref b), .val (.int (2 : Int32)), .val (.int (4 : Int32)), .val (.ref t742), .val (.int ((1 : Int32) + (1 : Int32)))] (hb hby own_d_jdk_52_method_14_code_26) rfl rfl ?_
  rw [show ((1 : Int32) + (1 : Int32)) = (2 : Int32) from by decide]
  refine S764.goto 8 (hb hby own_d_jdk_52_method_14_code_29) ?_
  refine S764.iload 10 (hb hby own_d_jdk_52_method_14_code_8) rfl ?_
  refine S764.iloadN 11 (hb hby own_d_jdk_52_method_14_code_10) rfl ?_
  refine S764.icmpN 14 (hb hby own_d_jdk_52_method_14_code_11) (qGeF (by decide)) ?_
  refine S764.aloadN 15 (hb hby own_d_jdk_52_method_14_code_14) rfl rfl ?_
  refine S764.iload 17 (hb hby own_d_jdk_52_method_14_code_15) rfl ?_
  refine S764.aloadN 18 (hb hby own_d_jdk_52_method_14_code_17) rfl rfl ?_
  refine S764.iloadN 19 (hb hby own_d_jdk_52_method_14_code_18) rfl ?_
  have f769 := (f759.keep K766 (ninS (Nat.ne_of_lt l746) nin0))
  refine S764.caload (v := .int c2) 20 (hb hby own_d_jdk_52_method_14_code_19) f769 ⟨by decide, by decide⟩ rfl ?_
  refine S764.scall 23 (hb hby own_d_jdk_52_method_14_code_20) (by rw [hml]; rfl) (Tw hw 89 rfl) (Tw hw 90 rfl) (Tw hw 20 rfl) (Tw hw 91 rfl) (by decide) [(.ref t742), (.int (2 : Int32)), (.int c2)] [] (Con.pay (W := 0) (own_put l Z a0 hw us h762 n0 S764.old t742 kb743 4 [(.int (StrChars.lo8 c0)), (.int (StrChars.hi8 c0)), (.int (StrChars.lo8 c1)), (.int (StrChars.hi8 c1)), (.int (0 : Int32)), (.int (0 : Int32)), (.int (0 : Int32)), (.int (0 : Int32))] (.int 0) 2 c2 (S764.ge wo747) (by decide) (by decide) rfl f768) (Tw hw 91 rfl) (Tw hw 20 rfl) (by decide) (by decide)) (lenOf own_pd_24 rfl) rfl (Nle rfl) (by decide) (by decide) (Wrs.one wo747 (Or.inl (by simp))) ?_
  intro v770 T771 h772 L773 S774 q775 K776
  obtain ⟨rfl, A777⟩ := q775
  have f778 : Arv Z h772 t742 kb743 .byte (8 : Int32) [(.int (StrChars.lo8 c0)), (.int (StrChars.hi8 c0)), (.int (StrChars.lo8 c1)), (.int (StrChars.hi8 c1)), (.int (StrChars.lo8 c2)), (.int (StrChars.hi8 c2)), (.int (0 : Int32)), (.int (0 : Int32))] (.int 0) := A777
  show Go p e below _ T771 (mkF m 23 #[.val (.ref b), .val (.int (2 : Int32)), .val (.int (4 : Int32)), .val (.ref t742), .val (.int (2 : Int32))] [])
  refine S774.iinc 26 #[.val (.ref b), .val (.int ((2 : Int32) + (1 : Int32))), .val (.int (4 : Int32)), .val (.ref t742), .val (.int (2 : Int32))] (hb hby own_d_jdk_52_method_14_code_23) rfl rfl ?_
  rw [show ((2 : Int32) + (1 : Int32)) = (3 : Int32) from by decide]
  refine S774.iinc 29 #[.val (.ref b), .val (.int (3 : Int32)), .val (.int (4 : Int32)), .val (.ref t742), .val (.int ((2 : Int32) + (1 : Int32)))] (hb hby own_d_jdk_52_method_14_code_26) rfl rfl ?_
  rw [show ((2 : Int32) + (1 : Int32)) = (3 : Int32) from by decide]
  refine S774.goto 8 (hb hby own_d_jdk_52_method_14_code_29) ?_
  refine S774.iload 10 (hb hby own_d_jdk_52_method_14_code_8) rfl ?_
  refine S774.iloadN 11 (hb hby own_d_jdk_52_method_14_code_10) rfl ?_
  refine S774.icmpN 14 (hb hby own_d_jdk_52_method_14_code_11) (qGeF (by decide)) ?_
  refine S774.aloadN 15 (hb hby own_d_jdk_52_method_14_code_14) rfl rfl ?_
  refine S774.iload 17 (hb hby own_d_jdk_52_method_14_code_15) rfl ?_
  refine S774.aloadN 18 (hb hby own_d_jdk_52_method_14_code_17) rfl rfl ?_
  refine S774.iloadN 19 (hb hby own_d_jdk_52_method_14_code_18) rfl ?_
  have f779 := (f769.keep K776 (ninS (Nat.ne_of_lt l746) nin0))
  refine S774.caload (v := .int c3) 20 (hb hby own_d_jdk_52_method_14_code_19) f779 ⟨by decide, by decide⟩ rfl ?_
  refine S774.scall 23 (hb hby own_d_jdk_52_method_14_code_20) (by rw [hml]; rfl) (Tw hw 89 rfl) (Tw hw 90 rfl) (Tw hw 20 rfl) (Tw hw 91 rfl) (by decide) [(.ref t742), (.int (3 : Int32)), (.int c3)] [] (Con.pay (W := 0) (own_put l Z a0 hw us h772 n0 S774.old t742 kb743 4 [(.int (StrChars.lo8 c0)), (.int (StrChars.hi8 c0)), (.int (StrChars.lo8 c1)), (.int (StrChars.hi8 c1)), (.int (StrChars.lo8 c2)), (.int (StrChars.hi8 c2)), (.int (0 : Int32)), (.int (0 : Int32))] (.int 0) 3 c3 (S774.ge wo747) (by decide) (by decide) rfl f778) (Tw hw 91 rfl) (Tw hw 20 rfl) (by decide) (by decide)) (lenOf own_pd_24 rfl) rfl (Nle rfl) (by decide) (by decide) (Wrs.one wo747 (Or.inl (by simp))) ?_
  intro v780 T781 h782 L783 S784 q785 K786
  obtain ⟨rfl, A787⟩ := q785
  have f788 : Arv Z h782 t742 kb743 .byte (8 : Int32) [(.int (StrChars.lo8 c0)), (.int (StrChars.hi8 c0)), (.int (StrChars.lo8 c1)), (.int (StrChars.hi8 c1)), (.int (StrChars.lo8 c2)), (.int (StrChars.hi8 c2)), (.int (StrChars.lo8 c3)), (.int (StrChars.hi8 c3))] (.int 0) := A787
  show Go p e below _ T781 (mkF m 23 #[.val (.ref b), .val (.int (3 : Int32)), .val (.int (4 : Int32)), .val (.ref t742), .val (.int (3 : Int32))] [])
  refine S784.iinc 26 #[.val (.ref b), .val (.int ((3 : Int32) + (1 : Int32))), .val (.int (4 : Int32)), .val (.ref t742), .val (.int (3 : Int32))] (hb hby own_d_jdk_52_method_14_code_23) rfl rfl ?_
  rw [show ((3 : Int32) + (1 : Int32)) = (4 : Int32) from by decide]
  refine S784.iinc 29 #[.val (.ref b), .val (.int (4 : Int32)), .val (.int (4 : Int32)), .val (.ref t742), .val (.int ((3 : Int32) + (1 : Int32)))] (hb hby own_d_jdk_52_method_14_code_26) rfl rfl ?_
  rw [show ((3 : Int32) + (1 : Int32)) = (4 : Int32) from by decide]
  refine S784.goto 8 (hb hby own_d_jdk_52_method_14_code_29) ?_
  refine S784.iload 10 (hb hby own_d_jdk_52_method_14_code_8) rfl ?_
  refine S784.iloadN 11 (hb hby own_d_jdk_52_method_14_code_10) rfl ?_
  refine S784.icmpY 32 (hb hby own_d_jdk_52_method_14_code_11) (qGeT (by decide)) ?_
  refine S784.aloadN 33 (hb hby own_d_jdk_52_method_14_code_32) rfl rfl ?_
  exact S784.retA (hb hby own_d_jdk_52_method_14_code_33) hret rfl rfl (by decide) (by decide) ⟨_, _, rfl, g744, f788⟩


set_option maxRecDepth 65536 in
set_option maxHeartbeats 4000000 in
theorem own_cmp3_4 (l : Launch) (Z : State) (a0 : Array Value) (hw : ∀ d ∈ tables_1, d.before a0 Z = true) (us : U16s Z) (h0 : Heap) (n0 : Nat) (O : Old Z n0 h0) (b : Addr) (kc : ClassId) (dc : Value) (c0 : Int32) (c1 : Int32) (c2 : Int32) (c3 : Int32) (A : Arv Z h0 b kc .char (4 : Int32) [(.int c0), (.int c1), (.int c2), (.int c3)] dc) (u0 : U16 c0) (u1 : U16 c1) (u2 : U16 c2) (u3 : U16 c3) (hx : (255 : Int32) < c0 ∨ (255 : Int32) < c1 ∨ (255 : Int32) < c2 ∨ (255 : Int32) < c3) :
    Con l Z n0 (⟨"java/lang/StringUTF16", "compress", "([CII)[B"⟩ : MethodName) jdk_52_method_16_code 6 (some (.array .byte)) [] ({ frames := 3, cells := 2, slots := 12, locals := 60 } : Room) #[(.ref b), (.int (0 : Int32)), (.int (4 : Int32))] h0 [] (fun v h' => ∃ t kb, v = some (.ref t) ∧ h0.size ≤ t ∧ Arv Z h' t kb .byte (8 : Int32) (StrChars.Road.wideBytes ([c0, c1, c2, c3] : List Int32)) (.int 0)) := by
  refine Con.of a0 (plainFor_of_name own_pn_6) O (fun _ q => nomatch q) [] (fun _ q => nomatch q) ?_
  intro p e s m below meth cdX T S hby hml hret hnm
  refine Go.cast (own_ef_25 m b (0 : Int32) (4 : Int32)) ?_
  refine S.iloadN 1 (hb hby own_d_jdk_52_method_16_code_0) rfl ?_
  refine S.newarr 3 4 (hb hby own_d_jdk_52_method_16_code_1) (Tw hw 22 rfl) (by decide) (by decide) (by decide) (by decide) (by decide) ?_
  intro T789 h790 b791 k792 S793 E794 g795 wo796 A797
  have l798 : b < b791 := (by rw [g795]; exact A.lt)
  have f799 : Arv Z h790 b791 k792 .byte (4 : Int32) [(.int (0 : Int32)), (.int (0 : Int32)), (.int (0 : Int32)), (.int (0 : Int32))] (.int (0 : Int32)) := A797.pad (pad_rep [] (.int (0 : Int32)) 4)
  refine S793.astoreN 4 #[.val (.ref b), .val (.int (0 : Int32)), .val (.int (4 : Int32)), .val (.ref b791), .unset, .unset] (hb hby own_d_jdk_52_method_16_code_3) rfl rfl ?_
  refine S793.aloadN 5 (hb hby own_d_jdk_52_method_16_code_4) rfl rfl ?_
  refine S793.iloadN 6 (hb hby own_d_jdk_52_method_16_code_5) rfl ?_
  refine S793.aloadN 7 (hb hby own_d_jdk_52_method_16_code_6) rfl rfl ?_
  refine S793.iconst 8 (0 : Int32) (hb hby own_d_jdk_52_method_16_code_7) ?_
  refine S793.iloadN 9 (hb hby own_d_jdk_52_method_16_code_8) rfl ?_
  by_cases g0 : (255 : Int32) < c0
  · skip
    have f800 := (A.ext E794)
    refine S793.scall 12 (hb hby own_d_jdk_52_method_16_code_9) (by rw [hml]; rfl) (Tw hw 23 rfl) (Tw hw 24 rfl) (Tw hw 20 rfl) (Tw hw 25 rfl) (by decide) [(.ref b), (.int (0 : Int32)), (.ref b791), (.int (0 : Int32)), (.int (4 : Int32))] [] (Con.pay (W := 0) (own_cmp5_4_0 l Z a0 hw h790 n0 S793.old b kc dc b791 k792 c0 c1 c2 c3 (S793.ge wo796) f800 f799 (Nat.ne_of_lt l798) g0) (Tw hw 25 rfl) (Tw hw 20 rfl) (by decide) (by decide)) (lenOf own_pd_26 rfl) rfl (Nle rfl) (by decide) (by decide) (Wrs.one wo796 (Or.inl (by simp))) ?_
    intro v801 T802 h803 L804 S805 q806 K807
    obtain rfl := q806
    show Go p e below _ T802 (mkF m 12 #[.val (.ref b), .val (.int (0 : Int32)), .val (.int (4 : Int32)), .val (.ref b791), .unset, .unset] [(.int (0 : Int32))])
    refine S805.istore 14 #[.val (.ref b), .val (.int (0 : Int32)), .val (.int (4 : Int32)), .val (.ref b791), .val (.int (0 : Int32)), .unset] (hb hby own_d_jdk_52_method_16_code_12) rfl ?_
    refine S805.iload 16 (hb hby own_d_jdk_52_method_16_code_14) rfl ?_
    refine S805.iloadN 17 (hb hby own_d_jdk_52_method_16_code_16) rfl ?_
    refine S805.icmpN 20 (hb hby own_d_jdk_52_method_16_code_17) (qEqF (by decide)) ?_
    refine S805.aloadN 21 (hb hby own_d_jdk_52_method_16_code_20) rfl rfl ?_
    refine S805.iloadN 22 (hb hby own_d_jdk_52_method_16_code_21) rfl ?_
    refine S805.iloadN 23 (hb hby own_d_jdk_52_method_16_code_22) rfl ?_
    have f808 := (f800.keep K807 (ninS (Nat.ne_of_lt l798) nin0))
    refine S805.scall 26 (hb hby own_d_jdk_52_method_16_code_23) (by rw [hml]; rfl) (Tw hw 79 rfl) (Tw hw 80 rfl) (Tw hw 20 rfl) (Tw hw 81 rfl) (by decide) [(.ref b), (.int (0 : Int32)), (.int (4 : Int32))] [] (Con.pay (W := 0) (own_toB16_4 l Z a0 hw us h803 n0 S805.old b kc dc c0 c1 c2 c3 f808 u0 u1 u2 u3) (Tw hw 81 rfl) (Tw hw 20 rfl) (by decide) (by decide)) (lenOf own_pd_27 rfl) rfl (Nle rfl) (by decide) (by decide) Wrs.nil ?_
    intro v809 T810 h811 L812 S813 q814 K815
    obtain ⟨t816, kb817, rfl, g818, A819⟩ := q814
    show Go p e below _ T810 (mkF m 26 #[.val (.ref b), .val (.int (0 : Int32)), .val (.int (4 : Int32)), .val (.ref b791), .val (.int (0 : Int32)), .unset] [(.ref t816)])
    refine S813.astore 28 #[.val (.ref b), .val (.int (0 : Int32)), .val (.int (4 : Int32)), .val (.ref b791), .val (.int (0 : Int32)), .val (.ref t816)] (hb hby own_d_jdk_52_method_16_code_26) rfl rfl ?_
    refine S813.aload 30 (hb hby own_d_jdk_52_method_16_code_28) rfl rfl ?_
    refine S813.iload 32 (hb hby own_d_jdk_52_method_16_code_30) rfl ?_
    refine S813.scall 35 (hb hby own_d_jdk_52_method_16_code_32) (by rw [hml]; rfl) (Tw hw 95 rfl) (Tw hw 96 rfl) (Tw hw 20 rfl) (Tw hw 97 rfl) (by decide) [(.ref t816), (.int (0 : Int32))] [] (Con.pay (W := 0) (own_getC l Z a0 hw us h811 n0 S813.old t816 kb817 4 (StrChars.Road.wideBytes ([c0, c1, c2, c3] : List Int32)) (.int 0) 0 (StrChars.lo8 c0) (StrChars.hi8 c0) (by decide) A819 (by decide) rfl rfl) (Tw hw 97 rfl) (Tw hw 20 rfl) (by decide) (by decide)) (lenOf own_pd_16 rfl) rfl (Nle rfl) (by decide) (by decide) Wrs.nil ?_
    intro v820 T821 h822 L823 S824 q825 K826
    rw [StrChars.pair_says u0.1 u0.2, U16.nar u0] at q825
    obtain ⟨rfl, e_q825⟩ := q825
    obtain rfl := e_q825.symm
    show Go p e below _ T821 (mkF m 35 #[.val (.ref b), .val (.int (0 : Int32)), .val (.int (4 : Int32)), .val (.ref b791), .val (.int (0 : Int32)), .val (.ref t816)] [(.int c0)])
    refine S824.sipush 38 (255 : Int32) (hb hby own_d_jdk_52_method_16_code_35) ?_
    refine S824.icmpY 54 (hb hby own_d_jdk_52_method_16_code_38) (qGtT g0) ?_
    refine S824.aload 56 (hb hby own_d_jdk_52_method_16_code_54) rfl rfl ?_
    exact S824.retA (hb hby own_d_jdk_52_method_16_code_56) hret rfl rfl (by decide) (by decide) ⟨_, _, rfl, Nat.le_trans S805.kept.1 g818, A819⟩
  by_cases g1 : (255 : Int32) < c1
  · skip
    have f827 := (A.ext E794)
    refine S793.scall 12 (hb hby own_d_jdk_52_method_16_code_9) (by rw [hml]; rfl) (Tw hw 23 rfl) (Tw hw 24 rfl) (Tw hw 20 rfl) (Tw hw 25 rfl) (by decide) [(.ref b), (.int (0 : Int32)), (.ref b791), (.int (0 : Int32)), (.int (4 : Int32))] [] (Con.pay (W := 0) (own_cmp5_4_1 l Z a0 hw h790 n0 S793.old b kc dc b791 k792 c0 c1 c2 c3 (S793.ge wo796) f827 f799 (Nat.ne_of_lt l798) g0 g1) (Tw hw 25 rfl) (Tw hw 20 rfl) (by decide) (by decide)) (lenOf own_pd_26 rfl) rfl (Nle rfl) (by decide) (by decide) (Wrs.one wo796 (Or.inl (by simp))) ?_
    intro v828 T829 h830 L831 S832 q833 K834
    obtain rfl := q833
    show Go p e below _ T829 (mkF m 12 #[.val (.ref b), .val (.int (0 : Int32)), .val (.int (4 : Int32)), .val (.ref b791), .unset, .unset] [(.int (1 : Int32))])
    refine S832.istore 14 #[.val (.ref b), .val (.int (0 : Int32)), .val (.int (4 : Int32)), .val (.ref b791), .val (.int (1 : Int32)), .unset] (hb hby own_d_jdk_52_method_16_code_12) rfl ?_
    refine S832.iload 16 (hb hby own_d_jdk_52_method_16_code_14) rfl ?_
    refine S832.iloadN 17 (hb hby own_d_jdk_52_method_16_code_16) rfl ?_
    refine S832.icmpN 20 (hb hby own_d_jdk_52_method_16_code_17) (qEqF (by decide)) ?_
    refine S832.aloadN 21 (hb hby own_d_jdk_52_method_16_code_20) rfl rfl ?_
    refine S832.iloadN 22 (hb hby own_d_jdk_52_method_16_code_21) rfl ?_
    refine S832.iloadN 23 (hb hby own_d_jdk_52_method_16_code_22) rfl ?_
    have f835 := (f827.keep K834 (ninS (Nat.ne_of_lt l798) nin0))
    refine S832.scall 26 (hb hby own_d_jdk_52_method_16_code_23) (by rw [hml]; rfl) (Tw hw 79 rfl) (Tw hw 80 rfl) (Tw hw 20 rfl) (Tw hw 81 rfl) (by decide) [(.ref b), (.int (0 : Int32)), (.int (4 : Int32))] [] (Con.pay (W := 0) (own_toB16_4 l Z a0 hw us h830 n0 S832.old b kc dc c0 c1 c2 c3 f835 u0 u1 u2 u3) (Tw hw 81 rfl) (Tw hw 20 rfl) (by decide) (by decide)) (lenOf own_pd_27 rfl) rfl (Nle rfl) (by decide) (by decide) Wrs.nil ?_
    intro v836 T837 h838 L839 S840 q841 K842
    obtain ⟨t843, kb844, rfl, g845, A846⟩ := q841
    show Go p e below _ T837 (mkF m 26 #[.val (.ref b), .val (.int (0 : Int32)), .val (.int (4 : Int32)), .val (.ref b791), .val (.int (1 : Int32)), .unset] [(.ref t843)])
    refine S840.astore 28 #[.val (.ref b), .val (.int (0 : Int32)), .val (.int (4 : Int32)), .val (.ref b791), .val (.int (1 : Int32)), .val (.ref t843)] (hb hby own_d_jdk_52_method_16_code_26) rfl rfl ?_
    refine S840.aload 30 (hb hby own_d_jdk_52_method_16_code_28) rfl rfl ?_
    refine S840.iload 32 (hb hby own_d_jdk_52_method_16_code_30) rfl ?_
    refine S840.scall 35 (hb hby own_d_jdk_52_method_16_code_32) (by rw [hml]; rfl) (Tw hw 95 rfl) (Tw hw 96 rfl) (Tw hw 20 rfl) (Tw hw 97 rfl) (by decide) [(.ref t843), (.int (1 : Int32))] [] (Con.pay (W := 0) (own_getC l Z a0 hw us h838 n0 S840.old t843 kb844 4 (StrChars.Road.wideBytes ([c0, c1, c2, c3] : List Int32)) (.int 0) 1 (StrChars.lo8 c1) (StrChars.hi8 c1) (by decide) A846 (by decide) rfl rfl) (Tw hw 97 rfl) (Tw hw 20 rfl) (by decide) (by decide)) (lenOf own_pd_16 rfl) rfl (Nle rfl) (by decide) (by decide) Wrs.nil ?_
    intro v847 T848 h849 L850 S851 q852 K853
    rw [StrChars.pair_says u1.1 u1.2, U16.nar u1] at q852
    obtain ⟨rfl, e_q852⟩ := q852
    obtain rfl := e_q852.symm
    show Go p e below _ T848 (mkF m 35 #[.val (.ref b), .val (.int (0 : Int32)), .val (.int (4 : Int32)), .val (.ref b791), .val (.int (1 : Int32)), .val (.ref t843)] [(.int c1)])
    refine S851.sipush 38 (255 : Int32) (hb hby own_d_jdk_52_method_16_code_35) ?_
    refine S851.icmpY 54 (hb hby own_d_jdk_52_method_16_code_38) (qGtT g1) ?_
    refine S851.aload 56 (hb hby own_d_jdk_52_method_16_code_54) rfl rfl ?_
    exact S851.retA (hb hby own_d_jdk_52_method_16_code_56) hret rfl rfl (by decide) (by decide) ⟨_, _, rfl, Nat.le_trans S832.kept.1 g845, A846⟩
  by_cases g2 : (255 : Int32) < c2
  · skip
    have f854 := (A.ext E794)
    refine S793.scall 12 (hb hby own_d_jdk_52_method_16_code_9) (by rw [hml]; rfl) (Tw hw 23 rfl) (Tw hw 24 rfl) (Tw hw 20 rfl) (Tw hw 25 rfl) (by decide) [(.ref b), (.int (0 : Int32)), (.ref b791), (.int (0 : Int32)), (.int (4 : Int32))] [] (Con.pay (W := 0) (own_cmp5_4_2 l Z a0 hw h790 n0 S793.old b kc dc b791 k792 c0 c1 c2 c3 (S793.ge wo796) f854 f799 (Nat.ne_of_lt l798) g0 g1 g2) (Tw hw 25 rfl) (Tw hw 20 rfl) (by decide) (by decide)) (lenOf own_pd_26 rfl) rfl (Nle rfl) (by decide) (by decide) (Wrs.one wo796 (Or.inl (by simp))) ?_
    intro v855 T856 h857 L858 S859 q860 K861
    obtain rfl := q860
    show Go p e below _ T856 (mkF m 12 #[.val (.ref b), .val (.int (0 : Int32)), .val (.int (4 : Int32)), .val (.ref b791), .unset, .unset] [(.int (2 : Int32))])
    refine S859.istore 14 #[.val (.ref b), .val (.int (0 : Int32)), .val (.int (4 : Int32)), .val (.ref b791), .val (.int (2 : Int32)), .unset] (hb hby own_d_jdk_52_method_16_code_12) rfl ?_
    refine S859.iload 16 (hb hby own_d_jdk_52_method_16_code_14) rfl ?_
    refine S859.iloadN 17 (hb hby own_d_jdk_52_method_16_code_16) rfl ?_
    refine S859.icmpN 20 (hb hby own_d_jdk_52_method_16_code_17) (qEqF (by decide)) ?_
    refine S859.aloadN 21 (hb hby own_d_jdk_52_method_16_code_20) rfl rfl ?_
    refine S859.iloadN 22 (hb hby own_d_jdk_52_method_16_code_21) rfl ?_
    refine S859.iloadN 23 (hb hby own_d_jdk_52_method_16_code_22) rfl ?_
    have f862 := (f854.keep K861 (ninS (Nat.ne_of_lt l798) nin0))
    refine S859.scall 26 (hb hby own_d_jdk_52_method_16_code_23) (by rw [hml]; rfl) (Tw hw 79 rfl) (Tw hw 80 rfl) (Tw hw 20 rfl) (Tw hw 81 rfl) (by decide) [(.ref b), (.int (0 : Int32)), (.int (4 : Int32))] [] (Con.pay (W := 0) (own_toB16_4 l Z a0 hw us h857 n0 S859.old b kc dc c0 c1 c2 c3 f862 u0 u1 u2 u3) (Tw hw 81 rfl) (Tw hw 20 rfl) (by decide) (by decide)) (lenOf own_pd_27 rfl) rfl (Nle rfl) (by decide) (by decide) Wrs.nil ?_
    intro v863 T864 h865 L866 S867 q868 K869
    obtain ⟨t870, kb871, rfl, g872, A873⟩ := q868
    show Go p e below _ T864 (mkF m 26 #[.val (.ref b), .val (.int (0 : Int32)), .val (.int (4 : Int32)), .val (.ref b791), .val (.int (2 : Int32)), .unset] [(.ref t870)])
    refine S867.astore 28 #[.val (.ref b), .val (.int (0 : Int32)), .val (.int (4 : Int32)), .val (.ref b791), .val (.int (2 : Int32)), .val (.ref t870)] (hb hby own_d_jdk_52_method_16_code_26) rfl rfl ?_
    refine S867.aload 30 (hb hby own_d_jdk_52_method_16_code_28) rfl rfl ?_
    refine S867.iload 32 (hb hby own_d_jdk_52_method_16_code_30) rfl ?_
    refine S867.scall 35 (hb hby own_d_jdk_52_method_16_code_32) (by rw [hml]; rfl) (Tw hw 95 rfl) (Tw hw 96 rfl) (Tw hw 20 rfl) (Tw hw 97 rfl) (by decide) [(.ref t870), (.int (2 : Int32))] [] (Con.pay (W := 0) (own_getC l Z a0 hw us h865 n0 S867.old t870 kb871 4 (StrChars.Road.wideBytes ([c0, c1, c2, c3] : List Int32)) (.int 0) 2 (StrChars.lo8 c2) (StrChars.hi8 c2) (by decide) A873 (by decide) rfl rfl) (Tw hw 97 rfl) (Tw hw 20 rfl) (by decide) (by decide)) (lenOf own_pd_16 rfl) rfl (Nle rfl) (by decide) (by decide) Wrs.nil ?_
    intro v874 T875 h876 L877 S878 q879 K880
    rw [StrChars.pair_says u2.1 u2.2, U16.nar u2] at q879
    obtain ⟨rfl, e_q879⟩ := q879
    obtain rfl := e_q879.symm
    show Go p e below _ T875 (mkF m 35 #[.val (.ref b), .val (.int (0 : Int32)), .val (.int (4 : Int32)), .val (.ref b791), .val (.int (2 : Int32)), .val (.ref t870)] [(.int c2)])
    refine S878.sipush 38 (255 : Int32) (hb hby own_d_jdk_52_method_16_code_35) ?_
    refine S878.icmpY 54 (hb hby own_d_jdk_52_method_16_code_38) (qGtT g2) ?_
    refine S878.aload 56 (hb hby own_d_jdk_52_method_16_code_54) rfl rfl ?_
    exact S878.retA (hb hby own_d_jdk_52_method_16_code_56) hret rfl rfl (by decide) (by decide) ⟨_, _, rfl, Nat.le_trans S859.kept.1 g872, A873⟩
  by_cases g3 : (255 : Int32) < c3
  · skip
    have f881 := (A.ext E794)
    refine S793.scall 12 (hb hby own_d_jdk_52_method_16_code_9) (by rw [hml]; rfl) (Tw hw 23 rfl) (Tw hw 24 rfl) (Tw hw 20 rfl) (Tw hw 25 rfl) (by decide) [(.ref b), (.int (0 : Int32)), (.ref b791), (.int (0 : Int32)), (.int (4 : Int32))] [] (Con.pay (W := 0) (own_cmp5_4_3 l Z a0 hw h790 n0 S793.old b kc dc b791 k792 c0 c1 c2 c3 (S793.ge wo796) f881 f799 (Nat.ne_of_lt l798) g0 g1 g2 g3) (Tw hw 25 rfl) (Tw hw 20 rfl) (by decide) (by decide)) (lenOf own_pd_26 rfl) rfl (Nle rfl) (by decide) (by decide) (Wrs.one wo796 (Or.inl (by simp))) ?_
    intro v882 T883 h884 L885 S886 q887 K888
    obtain rfl := q887
    show Go p e below _ T883 (mkF m 12 #[.val (.ref b), .val (.int (0 : Int32)), .val (.int (4 : Int32)), .val (.ref b791), .unset, .unset] [(.int (3 : Int32))])
    refine S886.istore 14 #[.val (.ref b), .val (.int (0 : Int32)), .val (.int (4 : Int32)), .val (.ref b791), .val (.int (3 : Int32)), .unset] (hb hby own_d_jdk_52_method_16_code_12) rfl ?_
    refine S886.iload 16 (hb hby own_d_jdk_52_method_16_code_14) rfl ?_
    refine S886.iloadN 17 (hb hby own_d_jdk_52_method_16_code_16) rfl ?_
    refine S886.icmpN 20 (hb hby own_d_jdk_52_method_16_code_17) (qEqF (by decide)) ?_
    refine S886.aloadN 21 (hb hby own_d_jdk_52_method_16_code_20) rfl rfl ?_
    refine S886.iloadN 22 (hb hby own_d_jdk_52_method_16_code_21) rfl ?_
    refine S886.iloadN 23 (hb hby own_d_jdk_52_method_16_code_22) rfl ?_
    have f889 := (f881.keep K888 (ninS (Nat.ne_of_lt l798) nin0))
    refine S886.scall 26 (hb hby own_d_jdk_52_method_16_code_23) (by rw [hml]; rfl) (Tw hw 79 rfl) (Tw hw 80 rfl) (Tw hw 20 rfl) (Tw hw 81 rfl) (by decide) [(.ref b), (.int (0 : Int32)), (.int (4 : Int32))] [] (Con.pay (W := 0) (own_toB16_4 l Z a0 hw us h884 n0 S886.old b kc dc c0 c1 c2 c3 f889 u0 u1 u2 u3) (Tw hw 81 rfl) (Tw hw 20 rfl) (by decide) (by decide)) (lenOf own_pd_27 rfl) rfl (Nle rfl) (by decide) (by decide) Wrs.nil ?_
    intro v890 T891 h892 L893 S894 q895 K896
    obtain ⟨t897, kb898, rfl, g899, A900⟩ := q895
    show Go p e below _ T891 (mkF m 26 #[.val (.ref b), .val (.int (0 : Int32)), .val (.int (4 : Int32)), .val (.ref b791), .val (.int (3 : Int32)), .unset] [(.ref t897)])
    refine S894.astore 28 #[.val (.ref b), .val (.int (0 : Int32)), .val (.int (4 : Int32)), .val (.ref b791), .val (.int (3 : Int32)), .val (.ref t897)] (hb hby own_d_jdk_52_method_16_code_26) rfl rfl ?_
    refine S894.aload 30 (hb hby own_d_jdk_52_method_16_code_28) rfl rfl ?_
    refine S894.iload 32 (hb hby own_d_jdk_52_method_16_code_30) rfl ?_
    refine S894.scall 35 (hb hby own_d_jdk_52_method_16_code_32) (by rw [hml]; rfl) (Tw hw 95 rfl) (Tw hw 96 rfl) (Tw hw 20 rfl) (Tw hw 97 rfl) (by decide) [(.ref t897), (.int (3 : Int32))] [] (Con.pay (W := 0) (own_getC l Z a0 hw us h892 n0 S894.old t897 kb898 4 (StrChars.Road.wideBytes ([c0, c1, c2, c3] : List Int32)) (.int 0) 3 (StrChars.lo8 c3) (StrChars.hi8 c3) (by decide) A900 (by decide) rfl rfl) (Tw hw 97 rfl) (Tw hw 20 rfl) (by decide) (by decide)) (lenOf own_pd_16 rfl) rfl (Nle rfl) (by decide) (by decide) Wrs.nil ?_
    intro v901 T902 h903 L904 S905 q906 K907
    rw [StrChars.pair_says u3.1 u3.2, U16.nar u3] at q906
    obtain ⟨rfl, e_q906⟩ := q906
    obtain rfl := e_q906.symm
    show Go p e below _ T902 (mkF m 35 #[.val (.ref b), .val (.int (0 : Int32)), .val (.int (4 : Int32)), .val (.ref b791), .val (.int (3 : Int32)), .val (.ref t897)] [(.int c3)])
    refine S905.sipush 38 (255 : Int32) (hb hby own_d_jdk_52_method_16_code_35) ?_
    refine S905.icmpY 54 (hb hby own_d_jdk_52_method_16_code_38) (qGtT g3) ?_
    refine S905.aload 56 (hb hby own_d_jdk_52_method_16_code_54) rfl rfl ?_
    exact S905.retA (hb hby own_d_jdk_52_method_16_code_56) hret rfl rfl (by decide) (by decide) ⟨_, _, rfl, Nat.le_trans S886.kept.1 g899, A900⟩
  exact absurd hx (by simp [g0, g1, g2, g3])


set_option maxRecDepth 65536 in
set_option maxHeartbeats 4000000 in
theorem own_cod_4 (l : Launch) (Z : State) (a0 : Array Value) (hw : ∀ d ∈ tables_1, d.before a0 Z = true) (h0 : Heap) (n0 : Nat) (O : Old Z n0 h0) (t : Addr) (kt : ClassId) (vs : List Value) (d : Value) (A : Arv Z h0 t kt .byte (8 : Int32) vs d) :
    Con l Z n0 (⟨"java/lang/StringUTF16", "coderFromArrayLen", "([BI)B"⟩ : MethodName) jdk_52_method_15_code 2 (some .byte) [] ({ frames := 0, cells := 0, slots := 0, locals := 0 } : Room) #[(.ref t), (.int (4 : Int32))] h0 [] (fun v h' => v = some (.int 1) ∧ h' = h0) := by
  refine Con.of a0 (plainFor_of_name own_pn_6) O (fun _ q => nomatch q) [] (fun _ q => nomatch q) ?_
  intro p e s m below meth cdX T S hby hml hret hnm
  refine Go.cast (own_ef_14 m t (4 : Int32)) ?_
  refine S.iloadN 1 (hb hby own_d_jdk_52_method_15_code_0) rfl ?_
  refine S.aloadN 2 (hb hby own_d_jdk_52_method_15_code_1) rfl rfl ?_
  refine S.alen 3 (hb hby own_d_jdk_52_method_15_code_2) A ?_
  refine S.isub 4 (hb hby own_d_jdk_52_method_15_code_3) ?_
  show Go p e below _ T (mkF m 4 #[.val (.ref t), .val (.int (4 : Int32))] [(.int ((4 : Int32) - (8 : Int32)))])
  rw [show ((4 : Int32) - (8 : Int32)) = (-4 : Int32) from by decide]
  refine S.bipush 6 (31 : Int32) (hb hby own_d_jdk_52_method_15_code_4) ?_
  refine S.iushr 7 (hb hby own_d_jdk_52_method_15_code_6) ?_
  show Go p e below _ T (mkF m 7 #[.val (.ref t), .val (.int (4 : Int32))] [(.int (((-4 : Int32).toUInt32 >>> ((31 : Int32) &&& 31).toUInt32).toInt32))])
  refine S.i2b 8 (hb hby own_d_jdk_52_method_15_code_7) ?_
  exact S.retN (t := .byte) (hb hby own_d_jdk_52_method_15_code_8) hret (by decide) (by decide) (by decide) ⟨by decide, rfl⟩


set_option maxRecDepth 65536 in
set_option maxHeartbeats 4000000 in
theorem own_new4_4 (l : Launch) (Z : State) (a0 : Array Value) (hw : ∀ d ∈ tables_1, d.before a0 Z = true) (cm : Com Z) (us : U16s Z) (h0 : Heap) (n0 : Nat) (O : Old Z n0 h0) (x : Addr) (b : Addr) (kc : ClassId) (dc : Value) (c0 : Int32) (c1 : Int32) (c2 : Int32) (c3 : Int32) (ge_x : n0 ≤ x) (E : Exa Z h0 x "java/lang/String") (FV : Fld Z h0 x "java/lang/String" "value" "[B" .null) (FC : Fld Z h0 x "java/lang/String" "coder" "B" (.int 0)) (A : Arv Z h0 b kc .char (4 : Int32) [(.int c0), (.int c1), (.int c2), (.int c3)] dc) (u0 : U16 c0) (u1 : U16 c1) (u2 : U16 c2) (u3 : U16 c3) (hx : (255 : Int32) < c0 ∨ (255 : Int32) < c1 ∨ (255 : Int32) < c2 ∨ (255 : Int32) < c3) :
    Con l Z n0 (⟨"java/lang/String", "<init>", "([CIILjava/lang/Void;)V"⟩ : MethodName) jdk_42_method_149_code 6 none [] ({ frames := 4, cells := 2, slots := 12, locals := 80 } : Room) #[(.ref x), (.ref b), (.int (0 : Int32)), (.int (4 : Int32)), .null] h0 [x] (fun v h' => v = none ∧ ∃ t, h0.size ≤ t ∧ StrA Z h' x t ([c0, c1, c2, c3] : List Int32)) := by
  refine Con.of a0 (plainFor_of_name own_pn_2) O (by simp [ge_x]) [x] (by simp [E.lt]) ?_
  intro p e s m below meth cdX T S hby hml hret hnm
  refine Go.cast (own_ef_1 m x b (0 : Int32) (4 : Int32)) ?_
  refine S.aloadN 1 (hb hby own_d_jdk_42_method_149_code_0) rfl rfl ?_
  refine S.initO (W := 0) 4 (hb hby own_d_jdk_42_method_149_code_1) (by rw [hml]; rfl) (Tw hw 14 rfl) (Tw hw 15 rfl) (Tw hw 16 rfl) (by decide) (Nle rfl) (by decide) ?_
  intro T908 S909
  refine S909.iloadN 5 (hb hby own_d_jdk_42_method_149_code_4) rfl ?_
  refine S909.ifY 27 (hb hby own_d_jdk_42_method_149_code_5) (zNeT (by decide)) ?_
  obtain ⟨zc, sc, nc⟩ := id cm
  refine S909.gets (host := "") 30 (hb hby own_d_jdk_42_method_149_code_27) (Or.inl (Tw hw 17 rfl)) Via.refl (sc.ext S909.old.2) ?_
  intro T910 S911
  refine S911.ifN 33 (hb hby own_d_jdk_42_method_149_code_30) (zEqF nc) ?_
  refine S911.aloadN 34 (hb hby own_d_jdk_42_method_149_code_33) rfl rfl ?_
  refine S911.iloadN 35 (hb hby own_d_jdk_42_method_149_code_34) rfl ?_
  refine S911.iloadN 36 (hb hby own_d_jdk_42_method_149_code_35) rfl ?_
  refine S911.scall 39 (hb hby own_d_jdk_42_method_149_code_36) (by rw [hml]; rfl) (Tw hw 18 rfl) (Tw hw 19 rfl) (Tw hw 20 rfl) (Tw hw 21 rfl) (by decide) [(.ref b), (.int (0 : Int32)), (.int (4 : Int32))] [] (Con.pay (W := 0) (own_cmp3_4 l Z a0 hw us h0 n0 S911.old b kc dc c0 c1 c2 c3 A u0 u1 u2 u3 hx) (Tw hw 21 rfl) (Tw hw 20 rfl) (by decide) (by decide)) (lenOf own_pd_27 rfl) rfl (Nle rfl) (by decide) (by decide) Wrs.nil ?_
  intro v912 T913 h914 L915 S916 q917 K918
  obtain ⟨t919, kb920, rfl, g921, A922⟩ := q917
  have l923 : b < t919 := Nat.lt_of_lt_of_le A.lt g921
  have l924 : x < t919 := Nat.lt_of_lt_of_le E.lt g921
  show Go p e below _ T913 (mkF m 39 #[.val (.ref x), .val (.ref b), .val (.int (0 : Int32)), .val (.int (4 : Int32)), .val .null, .unset] [(.ref t919)])
  refine S916.astore 41 #[.val (.ref x), .val (.ref b), .val (.int (0 : Int32)), .val (.int (4 : Int32)), .val .null, .val (.ref t919)] (hb hby own_d_jdk_42_method_149_code_39) rfl rfl ?_
  refine S916.aloadN 42 (hb hby own_d_jdk_42_method_149_code_41) rfl rfl ?_
  refine S916.aload 44 (hb hby own_d_jdk_42_method_149_code_42) rfl rfl ?_
  refine S916.iloadN 45 (hb hby own_d_jdk_42_method_149_code_44) rfl ?_
  refine S916.scall 48 (hb hby own_d_jdk_42_method_149_code_45) (by rw [hml]; rfl) (Tw hw 26 rfl) (Tw hw 27 rfl) (Tw hw 20 rfl) (Tw hw 28 rfl) (by decide) [(.ref t919), (.int (4 : Int32))] [(.ref x)] (Con.pay (W := 1) (own_cod_4 l Z a0 hw h914 n0 S916.old t919 kb920 (StrChars.Road.wideBytes ([c0, c1, c2, c3] : List Int32)) (.int 0) A922) (Tw hw 28 rfl) (Tw hw 20 rfl) (by decide) (by decide)) (lenOf own_pd_28 rfl) rfl (Nle rfl) (by decide) (by decide) Wrs.nil ?_
  intro v925 T926 h927 L928 S929 q930 K931
  obtain ⟨rfl, e_q930⟩ := q930
  obtain rfl := e_q930.symm
  show Go p e below _ T926 (mkF m 48 #[.val (.ref x), .val (.ref b), .val (.int (0 : Int32)), .val (.int (4 : Int32)), .val .null, .val (.ref t919)] [(.int (1 : Int32)), (.ref x)])
  have f932 := (FC.keep K918 nin0)
  have f933 := (E.keep K918)
  refine S929.putf (host := "") (ty := .byte) 51 (hb hby own_d_jdk_42_method_149_code_48) (Or.inl (Tw hw 29 rfl)) Via.refl f932 f933 (Or.inr ⟨(Tw hw 30 rfl), rfl, hnm⟩) (Tw hw 5 rfl) (by decide) rfl rfl (Or.inl (by simp)) (Or.inr (by simp)) ?_
  intro T934 h935 L936 S937 W938
  have f939 := f932.same W938
  refine S937.aloadN 52 (hb hby own_d_jdk_42_method_149_code_51) rfl rfl ?_
  refine S937.aload 54 (hb hby own_d_jdk_42_method_149_code_52) rfl rfl ?_
  have f940 := ((FV.keep K918 nin0).other W938 (Or.inr (slot_ne (t := (.array .byte)) (t' := .byte) (Or.inr (Tw hw 32 rfl)) (Or.inr (Tw hw 30 rfl)) (by decide) (by decide) (by decide))))
  have f941 := (f933.wr W938)
  refine S937.putf (host := "") (ty := (.array .byte)) 57 (hb hby own_d_jdk_42_method_149_code_54) (Or.inl (Tw hw 31 rfl)) Via.refl f940 f941 (Or.inr ⟨(Tw hw 32 rfl), rfl, hnm⟩) (Tw hw 5 rfl) (by decide) rfl rfl (Or.inl (by simp)) (Or.inr (by simp)) ?_
  intro T942 h943 L944 S945 W946
  have f947 := f940.same W946
  have f948 := (f941.wr W946)
  have f949 := (f939.other W946 (Or.inr (slot_ne (t := .byte) (t' := (.array .byte)) (Or.inr (Tw hw 30 rfl)) (Or.inr (Tw hw 32 rfl)) (by decide) (by decide) (by decide))))
  have f950 := ((A922.other W938 (Nat.ne_of_gt l924)).other W946 (Nat.ne_of_gt l924))
  exact S945.ret0 (hb hby own_d_jdk_42_method_149_code_57) hret (by decide) (by decide) ⟨rfl, t919, Nat.le_trans S911.kept.1 g921, ⟨⟨_, 1, _, _, f948, f947, f949, f950, Or.inr ⟨rfl, rfl, rfl, by simpa using hx⟩⟩, by simp [u0, u1, u2, u3], Nle rfl⟩⟩


set_option maxRecDepth 65536 in
set_option maxHeartbeats 4000000 in
theorem own_new1_4 (l : Launch) (Z : State) (a0 : Array Value) (hw : ∀ d ∈ tables_1, d.before a0 Z = true) (cm : Com Z) (us : U16s Z) (h0 : Heap) (n0 : Nat) (O : Old Z n0 h0) (x : Addr) (b : Addr) (kc : ClassId) (dc : Value) (c0 : Int32) (c1 : Int32) (c2 : Int32) (c3 : Int32) (ge_x : n0 ≤ x) (E : Exa Z h0 x "java/lang/String") (FV : Fld Z h0 x "java/lang/String" "value" "[B" .null) (FC : Fld Z h0 x "java/lang/String" "coder" "B" (.int 0)) (A : Arv Z h0 b kc .char (4 : Int32) [(.int c0), (.int c1), (.int c2), (.int c3)] dc) (u0 : U16 c0) (u1 : U16 c1) (u2 : U16 c2) (u3 : U16 c3) (hx : (255 : Int32) < c0 ∨ (255 : Int32) < c1 ∨ (255 : Int32) < c2 ∨ (255 : Int32) < c3) :
    Con l Z n0 (⟨"java/lang/String", "<init>", "([C)V"⟩ : MethodName) jdk_42_method_3_code 2 none [] ({ frames := 5, cells := 2, slots := 12, locals := 105 } : Room) #[(.ref x), (.ref b)] h0 [x] (fun v h' => v = none ∧ ∃ t, h0.size ≤ t ∧ StrA Z h' x t ([c0, c1, c2, c3] : List Int32)) := by
  refine Con.of a0 (plainFor_of_name own_pn_2) O (by simp [ge_x]) [x] (by simp [E.lt]) ?_
  intro p e s m below meth cdX T S hby hml hret hnm
  refine Go.cast (own_ef_3 m x b) ?_
  refine S.aloadN 1 (hb hby own_d_jdk_42_method_3_code_0) rfl rfl ?_
  refine S.aloadN 2 (hb hby own_d_jdk_42_method_3_code_1) rfl rfl ?_
  refine S.iconst 3 (0 : Int32) (hb hby own_d_jdk_42_method_3_code_2) ?_
  refine S.aloadN 4 (hb hby own_d_jdk_42_method_3_code_3) rfl rfl ?_
  refine S.alen 5 (hb hby own_d_jdk_42_method_3_code_4) A ?_
  refine S.anull 6 (hb hby own_d_jdk_42_method_3_code_5) ?_
  refine S.icall 9 (hb hby own_d_jdk_42_method_3_code_6) (by rw [hml]; rfl) rfl (Tw hw 10 rfl) (Tw hw 11 rfl) (Tw hw 13 rfl) (by decide) [(.ref b), (.int (0 : Int32)), (.int (4 : Int32)), .null] [] (Con.pay (W := 0) (own_new4_4 l Z a0 hw cm us h0 n0 S.old x b kc dc c0 c1 c2 c3 ge_x E FV FC A u0 u1 u2 u3 hx) (Tw hw 13 rfl) (Tw hw 6 rfl) (by decide) (by decide)) (lenOf own_pd_4 rfl) rfl (Nle rfl) (by decide) (by decide) (Wrs.one (Or.inl (by simp)) (Or.inl (by simp))) ?_
  intro v951 T952 h953 L954 S955 q956 K957
  obtain ⟨rfl, te, ge, fe⟩ := q956
  show Go p e below _ T952 (mkF m 9 #[.val (.ref x), .val (.ref b)] [])
  exact S955.ret0 (hb hby own_d_jdk_42_method_3_code_9) hret (by decide) (by decide) ⟨rfl, te, ge, fe⟩

theorem payNewA_4 {a0 : Array Value} {p : Program} {l : Launch} {e : Env} {R : Room} {args : Array Value} {below : List Frame} {Z s : State} {n0 : Nat} {h : Heap} {x b : Addr} {kc : ClassId} {dc : Value} {W : Nat} (c0 : Int32) (c1 : Int32) (c2 : Int32) (c3 : Int32)  (hw : ∀ d ∈ tables_1, d.before a0 Z = true) (cm : Com Z) (us : U16s Z) (O : Old Z n0 h) (hx0 : n0 ≤ x) (E : Exa Z h x "java/lang/String") (V : Fld Z h x "java/lang/String" "value" "[B" .null) (C : Fld Z h x "java/lang/String" "coder" "B" (.int 0)) (A : Arv Z h b kc .char (4 : Int32) [(.int c0), (.int c1), (.int c2), (.int c3)] dc) (u0 : U16 c0) (u1 : U16 c1) (u2 : U16 c2) (u3 : U16 c3) (hfr : 6 ≤ R.frames) (hlo : W + 118 ≤ R.locals) :
    Pay l R p e below args Z s n0 ⟨"java/lang/String", "<init>", "([C)V"⟩ 3 W #[.ref x, .ref b] h [x] 2 12 (fun v h' => v = none ∧ ∃ t, h.size ≤ t ∧ StrA Z h' x t ([c0, c1, c2, c3] : List Int32)) := by
  by_cases hx : (255 : Int32) < c0 ∨ (255 : Int32) < c1 ∨ (255 : Int32) < c2 ∨ (255 : Int32) < c3
  · exact Con.pay (own_new1_4 l Z a0 hw cm us h n0 O x b kc dc c0 c1 c2 c3 hx0 E V C A u0 u1 u2 u3 hx) (Tw hw 9 rfl) (Tw hw 6 rfl) (by show 5 + 1 ≤ _; omega) (by show W + (2 + 11) + 105 ≤ _; omega)
  · have hp : ∀ c ∈ ([c0, c1, c2, c3] : List Int32), ¬ c < 0 ∧ ¬ (255 : Int32) < c := by
      intro c hc
      simp only [List.mem_cons, List.not_mem_nil, or_false] at hc
      try simp only [not_or] at hx
      rcases hc with rfl | rfl | rfl | rfl
      · exact ⟨u0.1, hx.1⟩
      · exact ⟨u1.1, hx.2.1⟩
      · exact ⟨u2.1, hx.2.2.1⟩
      · exact ⟨u3.1, hx.2.2.2⟩
    refine Pay.mono (Pay.weak (payNew (n := 4) (cs := ([c0, c1, c2, c3] : List Int32)) hw (Tw hw 5 rfl) cm O hx0 E V C A rfl rfl (by decide) (by decide) hp (by omega) (by omega)) ?_) (by decide) (by decide)
    rintro v h' ⟨rfl, t, g, F⟩
    exact ⟨rfl, t, g, StrA.of F⟩
def Dg (c : Int32) : Prop := ¬ c < 48 ∧ ¬ 57 < c
theorem own_len5 (x : Int32) : ((x &&& (2147483647 : Int32)) % (5 : Int32)) = 0 ∨ ((x &&& (2147483647 : Int32)) % (5 : Int32)) = 1 ∨ ((x &&& (2147483647 : Int32)) % (5 : Int32)) = 2 ∨ ((x &&& (2147483647 : Int32)) % (5 : Int32)) = 3 ∨ ((x &&& (2147483647 : Int32)) % (5 : Int32)) = 4 := by
  have q := (c_and x 2147483647 (by decide)).1
  have r := (c_iremV (x &&& (2147483647 : Int32)) 5).1 q (by decide)
  have e5 : (5 : Int32).toInt = 5 := rfl
  rw [e5] at r
  simp only [← Int32.toInt_inj]
  have e0 : (0 : Int32).toInt = 0 := rfl
  have e1 : (1 : Int32).toInt = 1 := rfl
  have e2 : (2 : Int32).toInt = 2 := rfl
  have e3 : (3 : Int32).toInt = 3 := rfl
  have e4 : (4 : Int32).toInt = 4 := rfl
  rw [e0, e1, e2, e3, e4]
  omega
theorem own_pos (x : Int32) : ¬ (x &&& (2147483647 : Int32)) < 0 := fun h => by
  have q := (c_and x 2147483647 (by decide)).1
  rw [Int32.lt_iff_toInt_lt] at h
  have e0 : (0 : Int32).toInt = 0 := rfl
  omega
theorem own_pos7 (x : Int32) : ¬ ((x &&& (2147483647 : Int32)) % (7 : Int32)) < 0 := fun h => by
  have q := (c_and x 2147483647 (by decide)).1
  have r := ((c_iremV (x &&& (2147483647 : Int32)) 7).1 q (by decide)).1
  rw [Int32.lt_iff_toInt_lt] at h
  have e0 : (0 : Int32).toInt = 0 := rfl
  omega
theorem own_lt1 {z : Int32} (h : ¬ z < 0) (g : z < (1 : Int32)) : z = 0 := by
  rw [Int32.lt_iff_toInt_lt] at h g
  simp only [← Int32.toInt_inj]
  have e0 : (0 : Int32).toInt = 0 := rfl
  have e1 : (1 : Int32).toInt = 1 := rfl
  omega
theorem own_lt2 {z : Int32} (h : ¬ z < 0) (g : z < (2 : Int32)) : z = 0 ∨ z = 1 := by
  rw [Int32.lt_iff_toInt_lt] at h g
  simp only [← Int32.toInt_inj]
  have e0 : (0 : Int32).toInt = 0 := rfl
  have e1 : (1 : Int32).toInt = 1 := rfl
  have e2 : (2 : Int32).toInt = 2 := rfl
  omega
theorem own_lt3 {z : Int32} (h : ¬ z < 0) (g : z < (3 : Int32)) : z = 0 ∨ z = 1 ∨ z = 2 := by
  rw [Int32.lt_iff_toInt_lt] at h g
  simp only [← Int32.toInt_inj]
  have e0 : (0 : Int32).toInt = 0 := rfl
  have e1 : (1 : Int32).toInt = 1 := rfl
  have e2 : (2 : Int32).toInt = 2 := rfl
  have e3 : (3 : Int32).toInt = 3 := rfl
  omega
theorem own_lt4 {z : Int32} (h : ¬ z < 0) (g : z < (4 : Int32)) : z = 0 ∨ z = 1 ∨ z = 2 ∨ z = 3 := by
  rw [Int32.lt_iff_toInt_lt] at h g
  simp only [← Int32.toInt_inj]
  have e0 : (0 : Int32).toInt = 0 := rfl
  have e1 : (1 : Int32).toInt = 1 := rfl
  have e2 : (2 : Int32).toInt = 2 := rfl
  have e3 : (3 : Int32).toInt = 3 := rfl
  have e4 : (4 : Int32).toInt = 4 := rfl
  omega
theorem own_d_method_2_code_0 : decode method_2_code 0 = .ok (.iload_n 0, 1) := by decide +kernel
theorem own_d_method_2_code_1 : decode method_2_code 1 = .ok (.bipush 48, 2) := by decide +kernel
theorem own_d_method_2_code_3 : decode method_2_code 3 = .ok (.if_icmp .lt 13, 3) := by decide +kernel
theorem own_d_method_2_code_6 : decode method_2_code 6 = .ok (.iload_n 0, 1) := by decide +kernel
theorem own_d_method_2_code_7 : decode method_2_code 7 = .ok (.bipush 57, 2) := by decide +kernel
theorem own_d_method_2_code_9 : decode method_2_code 9 = .ok (.if_icmp .gt 7, 3) := by decide +kernel
theorem own_d_method_2_code_12 : decode method_2_code 12 = .ok (.iconst 1, 1) := by decide +kernel
theorem own_d_method_2_code_13 : decode method_2_code 13 = .ok (.goto 4, 3) := by decide +kernel
theorem own_d_method_2_code_17 : decode method_2_code 17 = .ok (.ireturn, 1) := by decide +kernel
theorem own_pn_29 : plainName "com/example/floatbook/floatbook/core/PlainDecimalDigitsEndPinLaw" = true := by first | (simp [plainName, overriddenIn]; done) | decide +kernel
set_option maxRecDepth 65536 in
set_option maxHeartbeats 4000000 in
theorem own_dig1 (l : Launch) (Z : State) (a0 : Array Value) (hw : ∀ d ∈ tables_1, d.before a0 Z = true) (h0 : Heap) (n0 : Nat) (O : Old Z n0 h0) (c : Int32) (d : Dg c) :
    Con l Z n0 (⟨"com/example/floatbook/floatbook/core/PlainDecimalDigitsEndPinLaw", "dig", "(C)Z"⟩ : MethodName) method_2_code 1 (some .boolean) [] ({ frames := 0, cells := 0, slots := 0, locals := 0 } : Room) #[(.int c)] h0 [] (fun v h' => v = some (.int 1) ∧ h' = h0) := by
  refine Con.of a0 (plainFor_of_name own_pn_29) O (fun _ q => nomatch q) [] (fun _ q => nomatch q) ?_
  intro p e s m below meth cdX T S hby hml hret hnm
  refine Go.cast (own_ef_18 m c) ?_
  refine S.iloadN 1 (hb hby own_d_method_2_code_0) rfl ?_
  refine S.bipush 3 (48 : Int32) (hb hby own_d_method_2_code_1) ?_
  refine S.icmpN 6 (hb hby own_d_method_2_code_3) (qLtF d.1) ?_
  refine S.iloadN 7 (hb hby own_d_method_2_code_6) rfl ?_
  refine S.bipush 9 (57 : Int32) (hb hby own_d_method_2_code_7) ?_
  refine S.icmpN 12 (hb hby own_d_method_2_code_9) (qGtF d.2) ?_
  refine S.iconst 13 (1 : Int32) (hb hby own_d_method_2_code_12) ?_
  refine S.goto 17 (hb hby own_d_method_2_code_13) ?_
  exact S.retN (t := .boolean) (hb hby own_d_method_2_code_17) hret (by decide) (by decide) (by decide) ⟨rfl, rfl⟩

theorem own_d_method_2_code_16 : decode method_2_code 16 = .ok (.iconst 0, 1) := by decide +kernel
set_option maxRecDepth 65536 in
set_option maxHeartbeats 4000000 in
theorem own_dig0 (l : Launch) (Z : State) (a0 : Array Value) (hw : ∀ d ∈ tables_1, d.before a0 Z = true) (h0 : Heap) (n0 : Nat) (O : Old Z n0 h0) (c : Int32) (d : ¬ Dg c) :
    Con l Z n0 (⟨"com/example/floatbook/floatbook/core/PlainDecimalDigitsEndPinLaw", "dig", "(C)Z"⟩ : MethodName) method_2_code 1 (some .boolean) [] ({ frames := 0, cells := 0, slots := 0, locals := 0 } : Room) #[(.int c)] h0 [] (fun v h' => v = some (.int 0) ∧ h' = h0) := by
  refine Con.of a0 (plainFor_of_name own_pn_29) O (fun _ q => nomatch q) [] (fun _ q => nomatch q) ?_
  intro p e s m below meth cdX T S hby hml hret hnm
  refine Go.cast (own_ef_18 m c) ?_
  refine S.iloadN 1 (hb hby own_d_method_2_code_0) rfl ?_
  refine S.bipush 3 (48 : Int32) (hb hby own_d_method_2_code_1) ?_
  by_cases g1 : c < (48 : Int32)
  · skip
    refine S.icmpY 16 (hb hby own_d_method_2_code_3) (qLtT g1) ?_
    refine S.iconst 17 (0 : Int32) (hb hby own_d_method_2_code_16) ?_
    exact S.retN (t := .boolean) (hb hby own_d_method_2_code_17) hret (by decide) (by decide) (by decide) ⟨rfl, rfl⟩
  · skip
    refine S.icmpN 6 (hb hby own_d_method_2_code_3) (qLtF g1) ?_
    refine S.iloadN 7 (hb hby own_d_method_2_code_6) rfl ?_
    refine S.bipush 9 (57 : Int32) (hb hby own_d_method_2_code_7) ?_
    by_cases g2 : (57 : Int32) < c
    · skip
      refine S.icmpY 16 (hb hby own_d_method_2_code_9) (qGtT g2) ?_
      refine S.iconst 17 (0 : Int32) (hb hby own_d_method_2_code_16) ?_
      exact S.retN (t := .boolean) (hb hby own_d_method_2_code_17) hret (by decide) (by decide) (by decide) ⟨rfl, rfl⟩
    · skip
      exact absurd ⟨g1, g2⟩ d

theorem own_ef_30 (m : MethodId) (x0 : Int32) (x1 : Int32) (x2 : Int32) (x3 : Int32) (x4 : Int32) : entryFrame m #[(.int x0), (.int x1), (.int x2), (.int x3), (.int x4)] 5 = mkF m 0 #[.val (.int x0), .val (.int x1), .val (.int x2), .val (.int x3), .val (.int x4)] [] := by rfl
theorem own_d_method_3_code_0 : decode method_3_code 0 = .ok (.iload_n 0, 1) := by decide +kernel
theorem own_d_method_3_code_1 : decode method_3_code 1 = .ok (.iload 4, 2) := by decide +kernel
theorem own_d_method_3_code_3 : decode method_3_code 3 = .ok (.if_icmp .ge 18, 3) := by decide +kernel
theorem own_d_method_3_code_6 : decode method_3_code 6 = .ok (.iload_n 2, 1) := by decide +kernel
theorem own_d_method_3_code_7 : decode method_3_code 7 = .ok (.iload_n 0, 1) := by decide +kernel
theorem own_d_method_3_code_8 : decode method_3_code 8 = .ok (.if_icmp .gt 13, 3) := by decide +kernel
theorem own_d_method_3_code_21 : decode method_3_code 21 = .ok (.iconst 1, 1) := by decide +kernel
theorem own_d_method_3_code_22 : decode method_3_code 22 = .ok (.ireturn, 1) := by decide +kernel
theorem own_d_method_3_code_11 : decode method_3_code 11 = .ok (.iload_n 0, 1) := by decide +kernel
theorem own_d_method_3_code_12 : decode method_3_code 12 = .ok (.iload_n 3, 1) := by decide +kernel
theorem own_d_method_3_code_13 : decode method_3_code 13 = .ok (.if_icmp .ge 8, 3) := by decide +kernel
theorem own_d_method_3_code_16 : decode method_3_code 16 = .ok (.iload_n 1, 1) := by decide +kernel
theorem own_d_method_3_code_17 : decode method_3_code 17 = .ok (.invokestatic 7, 3) := by decide +kernel
theorem own_pd_31 : parseMethodDescriptor "(C)Z" = some ⟨[.char], some .boolean⟩ := by decide +kernel
theorem own_d_method_3_code_20 : decode method_3_code 20 = .ok (.ireturn, 1) := by decide +kernel
set_option maxRecDepth 65536 in
set_option maxHeartbeats 4000000 in
theorem own_ok (l : Launch) (Z : State) (a0 : Array Value) (hw : ∀ d ∈ tables_1, d.before a0 Z = true) (h0 : Heap) (n0 : Nat) (O : Old Z n0 h0) (i : Int32) (c : Int32) (fr : Int32) (r : Int32) (n : Int32) (hd : i < n → ¬ i < fr → i < r → Dg c) :
    Con l Z n0 (⟨"com/example/floatbook/floatbook/core/PlainDecimalDigitsEndPinLaw", "ok", "(ICIII)Z"⟩ : MethodName) method_3_code 5 (some .boolean) [] ({ frames := 1, cells := 0, slots := 0, locals := 20 } : Room) #[(.int i), (.int c), (.int fr), (.int r), (.int n)] h0 [] (fun v h' => v = some (.int 1) ∧ h' = h0) := by
  refine Con.of a0 (plainFor_of_name own_pn_29) O (fun _ q => nomatch q) [] (fun _ q => nomatch q) ?_
  intro p e s m below meth cdX T S hby hml hret hnm
  refine Go.cast (own_ef_30 m i c fr r n) ?_
  refine S.iloadN 1 (hb hby own_d_method_3_code_0) rfl ?_
  refine S.iload 3 (hb hby own_d_method_3_code_1) rfl ?_
  by_cases g1 : i < n
  · skip
    refine S.icmpN 6 (hb hby own_d_method_3_code_3) (qGeF g1) ?_
    refine S.iloadN 7 (hb hby own_d_method_3_code_6) rfl ?_
    refine S.iloadN 8 (hb hby own_d_method_3_code_7) rfl ?_
    by_cases g2 : i < fr
    · skip
      refine S.icmpY 21 (hb hby own_d_method_3_code_8) (qGtT g2) ?_
      refine S.iconst 22 (1 : Int32) (hb hby own_d_method_3_code_21) ?_
      exact S.retN (t := .boolean) (hb hby own_d_method_3_code_22) hret (by decide) (by decide) (by decide) ⟨rfl, rfl⟩
    · skip
      refine S.icmpN 11 (hb hby own_d_method_3_code_8) (qGtF g2) ?_
      refine S.iloadN 12 (hb hby own_d_method_3_code_11) rfl ?_
      refine S.iloadN 13 (hb hby own_d_method_3_code_12) rfl ?_
      by_cases g3 : i < r
      · skip
        refine S.icmpN 16 (hb hby own_d_method_3_code_13) (qGeF g3) ?_
        refine S.iloadN 17 (hb hby own_d_method_3_code_16) rfl ?_
        refine S.scall 20 (hb hby own_d_method_3_code_17) (by rw [hml]; rfl) (Tw hw 76 rfl) (Tw hw 77 rfl) (Tw hw 71 rfl) (Tw hw 78 rfl) (by decide) [(.int c)] [] (Con.pay (W := 0) (own_dig1 l Z a0 hw h0 n0 S.old c (hd g1 g2 g3)) (Tw hw 78 rfl) (Tw hw 71 rfl) (by decide) (by decide)) (lenOf own_pd_31 rfl) rfl (Nle rfl) (by decide) (by decide) Wrs.nil ?_
        intro v958 T959 h960 L961 S962 q963 K964
        obtain ⟨rfl, e_q963⟩ := q963
        obtain rfl := e_q963.symm
        show Go p e below _ T959 (mkF m 20 #[.val (.int i), .val (.int c), .val (.int fr), .val (.int r), .val (.int n)] [(.int (1 : Int32))])
        exact S962.retN (t := .boolean) (hb hby own_d_method_3_code_20) hret (by decide) (by decide) (by decide) ⟨rfl, rfl⟩
      · skip
        refine S.icmpY 21 (hb hby own_d_method_3_code_13) (qGeT g3) ?_
        refine S.iconst 22 (1 : Int32) (hb hby own_d_method_3_code_21) ?_
        exact S.retN (t := .boolean) (hb hby own_d_method_3_code_22) hret (by decide) (by decide) (by decide) ⟨rfl, rfl⟩
  · skip
    refine S.icmpY 21 (hb hby own_d_method_3_code_3) (qGeT g1) ?_
    refine S.iconst 22 (1 : Int32) (hb hby own_d_method_3_code_21) ?_
    exact S.retN (t := .boolean) (hb hby own_d_method_3_code_22) hret (by decide) (by decide) (by decide) ⟨rfl, rfl⟩

theorem own_d_method_4_code_0 : decode method_4_code 0 = .ok (.iload 4, 2) := by decide +kernel
theorem own_d_method_4_code_2 : decode method_4_code 2 = .ok (.ifCond .ne 5, 3) := by decide +kernel
theorem own_d_method_4_code_5 : decode method_4_code 5 = .ok (.iload_n 0, 1) := by decide +kernel
theorem own_d_method_4_code_6 : decode method_4_code 6 = .ok (.ireturn, 1) := by decide +kernel
set_option maxRecDepth 65536 in
set_option maxHeartbeats 4000000 in
theorem own_at0 (l : Launch) (Z : State) (a0 : Array Value) (hw : ∀ d ∈ tables_1, d.before a0 Z = true) (h0 : Heap) (n0 : Nat) (O : Old Z n0 h0) (c0 : Int32) (c1 : Int32) (c2 : Int32) (c3 : Int32) (u : U16 c0) :
    Con l Z n0 (⟨"com/example/floatbook/floatbook/core/PlainDecimalDigitsEndPinLaw", "at", "(CCCCI)C"⟩ : MethodName) method_4_code 5 (some .char) [] ({ frames := 0, cells := 0, slots := 0, locals := 0 } : Room) #[(.int c0), (.int c1), (.int c2), (.int c3), (.int (0 : Int32))] h0 [] (fun v h' => v = some (.int c0) ∧ h' = h0) := by
  refine Con.of a0 (plainFor_of_name own_pn_29) O (fun _ q => nomatch q) [] (fun _ q => nomatch q) ?_
  intro p e s m below meth cdX T S hby hml hret hnm
  refine Go.cast (own_ef_30 m c0 c1 c2 c3 (0 : Int32)) ?_
  refine S.iload 2 (hb hby own_d_method_4_code_0) rfl ?_
  refine S.ifN 5 (hb hby own_d_method_4_code_2) (zNeF (by decide)) ?_
  refine S.iloadN 6 (hb hby own_d_method_4_code_5) rfl ?_
  exact S.retN (t := .char) (hb hby own_d_method_4_code_6) hret (by decide) (by decide) (by decide) ⟨by rw [U16.nar u], rfl⟩

theorem own_d_method_4_code_7 : decode method_4_code 7 = .ok (.iload 4, 2) := by decide +kernel
theorem own_d_method_4_code_9 : decode method_4_code 9 = .ok (.iconst 1, 1) := by decide +kernel
theorem own_d_method_4_code_10 : decode method_4_code 10 = .ok (.if_icmp .ne 5, 3) := by decide +kernel
theorem own_d_method_4_code_13 : decode method_4_code 13 = .ok (.iload_n 1, 1) := by decide +kernel
theorem own_d_method_4_code_14 : decode method_4_code 14 = .ok (.ireturn, 1) := by decide +kernel
set_option maxRecDepth 65536 in
set_option maxHeartbeats 4000000 in
theorem own_at1 (l : Launch) (Z : State) (a0 : Array Value) (hw : ∀ d ∈ tables_1, d.before a0 Z = true) (h0 : Heap) (n0 : Nat) (O : Old Z n0 h0) (c0 : Int32) (c1 : Int32) (c2 : Int32) (c3 : Int32) (u : U16 c1) :
    Con l Z n0 (⟨"com/example/floatbook/floatbook/core/PlainDecimalDigitsEndPinLaw", "at", "(CCCCI)C"⟩ : MethodName) method_4_code 5 (some .char) [] ({ frames := 0, cells := 0, slots := 0, locals := 0 } : Room) #[(.int c0), (.int c1), (.int c2), (.int c3), (.int (1 : Int32))] h0 [] (fun v h' => v = some (.int c1) ∧ h' = h0) := by
  refine Con.of a0 (plainFor_of_name own_pn_29) O (fun _ q => nomatch q) [] (fun _ q => nomatch q) ?_
  intro p e s m below meth cdX T S hby hml hret hnm
  refine Go.cast (own_ef_30 m c0 c1 c2 c3 (1 : Int32)) ?_
  refine S.iload 2 (hb hby own_d_method_4_code_0) rfl ?_
  refine S.ifY 7 (hb hby own_d_method_4_code_2) (zNeT (by decide)) ?_
  refine S.iload 9 (hb hby own_d_method_4_code_7) rfl ?_
  refine S.iconst 10 (1 : Int32) (hb hby own_d_method_4_code_9) ?_
  refine S.icmpN 13 (hb hby own_d_method_4_code_10) (qNeF (by decide)) ?_
  refine S.iloadN 14 (hb hby own_d_method_4_code_13) rfl ?_
  exact S.retN (t := .char) (hb hby own_d_method_4_code_14) hret (by decide) (by decide) (by decide) ⟨by rw [U16.nar u], rfl⟩

theorem own_d_method_4_code_15 : decode method_4_code 15 = .ok (.iload 4, 2) := by decide +kernel
theorem own_d_method_4_code_17 : decode method_4_code 17 = .ok (.iconst 2, 1) := by decide +kernel
theorem own_d_method_4_code_18 : decode method_4_code 18 = .ok (.if_icmp .ne 5, 3) := by decide +kernel
theorem own_d_method_4_code_21 : decode method_4_code 21 = .ok (.iload_n 2, 1) := by decide +kernel
theorem own_d_method_4_code_22 : decode method_4_code 22 = .ok (.ireturn, 1) := by decide +kernel
set_option maxRecDepth 65536 in
set_option maxHeartbeats 4000000 in
theorem own_at2 (l : Launch) (Z : State) (a0 : Array Value) (hw : ∀ d ∈ tables_1, d.before a0 Z = true) (h0 : Heap) (n0 : Nat) (O : Old Z n0 h0) (c0 : Int32) (c1 : Int32) (c2 : Int32) (c3 : Int32) (u : U16 c2) :
    Con l Z n0 (⟨"com/example/floatbook/floatbook/core/PlainDecimalDigitsEndPinLaw", "at", "(CCCCI)C"⟩ : MethodName) method_4_code 5 (some .char) [] ({ frames := 0, cells := 0, slots := 0, locals := 0 } : Room) #[(.int c0), (.int c1), (.int c2), (.int c3), (.int (2 : Int32))] h0 [] (fun v h' => v = some (.int c2) ∧ h' = h0) := by
  refine Con.of a0 (plainFor_of_name own_pn_29) O (fun _ q => nomatch q) [] (fun _ q => nomatch q) ?_
  intro p e s m below meth cdX T S hby hml hret hnm
  refine Go.cast (own_ef_30 m c0 c1 c2 c3 (2 : Int32)) ?_
  refine S.iload 2 (hb hby own_d_method_4_code_0) rfl ?_
  refine S.ifY 7 (hb hby own_d_method_4_code_2) (zNeT (by decide)) ?_
  refine S.iload 9 (hb hby own_d_method_4_code_7) rfl ?_
  refine S.iconst 10 (1 : Int32) (hb hby own_d_method_4_code_9) ?_
  refine S.icmpY 15 (hb hby own_d_method_4_code_10) (qNeT (by decide)) ?_
  refine S.iload 17 (hb hby own_d_method_4_code_15) rfl ?_
  refine S.iconst 18 (2 : Int32) (hb hby own_d_method_4_code_17) ?_
  refine S.icmpN 21 (hb hby own_d_method_4_code_18) (qNeF (by decide)) ?_
  refine S.iloadN 22 (hb hby own_d_method_4_code_21) rfl ?_
  exact S.retN (t := .char) (hb hby own_d_method_4_code_22) hret (by decide) (by decide) (by decide) ⟨by rw [U16.nar u], rfl⟩

theorem own_d_method_4_code_23 : decode method_4_code 23 = .ok (.iload_n 3, 1) := by decide +kernel
theorem own_d_method_4_code_24 : decode method_4_code 24 = .ok (.ireturn, 1) := by decide +kernel
set_option maxRecDepth 65536 in
set_option maxHeartbeats 4000000 in
theorem own_at3 (l : Launch) (Z : State) (a0 : Array Value) (hw : ∀ d ∈ tables_1, d.before a0 Z = true) (h0 : Heap) (n0 : Nat) (O : Old Z n0 h0) (c0 : Int32) (c1 : Int32) (c2 : Int32) (c3 : Int32) (u : U16 c3) :
    Con l Z n0 (⟨"com/example/floatbook/floatbook/core/PlainDecimalDigitsEndPinLaw", "at", "(CCCCI)C"⟩ : MethodName) method_4_code 5 (some .char) [] ({ frames := 0, cells := 0, slots := 0, locals := 0 } : Room) #[(.int c0), (.int c1), (.int c2), (.int c3), (.int (3 : Int32))] h0 [] (fun v h' => v = some (.int c3) ∧ h' = h0) := by
  refine Con.of a0 (plainFor_of_name own_pn_29) O (fun _ q => nomatch q) [] (fun _ q => nomatch q) ?_
  intro p e s m below meth cdX T S hby hml hret hnm
  refine Go.cast (own_ef_30 m c0 c1 c2 c3 (3 : Int32)) ?_
  refine S.iload 2 (hb hby own_d_method_4_code_0) rfl ?_
  refine S.ifY 7 (hb hby own_d_method_4_code_2) (zNeT (by decide)) ?_
  refine S.iload 9 (hb hby own_d_method_4_code_7) rfl ?_
  refine S.iconst 10 (1 : Int32) (hb hby own_d_method_4_code_9) ?_
  refine S.icmpY 15 (hb hby own_d_method_4_code_10) (qNeT (by decide)) ?_
  refine S.iload 17 (hb hby own_d_method_4_code_15) rfl ?_
  refine S.iconst 18 (2 : Int32) (hb hby own_d_method_4_code_17) ?_
  refine S.icmpY 23 (hb hby own_d_method_4_code_18) (qNeT (by decide)) ?_
  refine S.iloadN 24 (hb hby own_d_method_4_code_23) rfl ?_
  exact S.retN (t := .char) (hb hby own_d_method_4_code_24) hret (by decide) (by decide) (by decide) ⟨by rw [U16.nar u], rfl⟩

theorem own_ef_32 (m : MethodId) (x0 : Addr) (x1 : Int32) : entryFrame m #[(.ref x0), (.int x1)] 3 = mkF m 0 #[.val (.ref x0), .val (.int x1), .unset] [] := by rfl
theorem own_d_prog_22_method_3_code_0 : decode prog_22_method_3_code 0 = .ok (.iload_n 1, 1) := by decide +kernel
theorem own_d_prog_22_method_3_code_1 : decode prog_22_method_3_code 1 = .ok (.istore_n 2, 1) := by decide +kernel
theorem own_d_prog_22_method_3_code_2 : decode prog_22_method_3_code 2 = .ok (.iload_n 2, 1) := by decide +kernel
theorem own_d_prog_22_method_3_code_3 : decode prog_22_method_3_code 3 = .ok (.aload_n 0, 1) := by decide +kernel
theorem own_d_prog_22_method_3_code_4 : decode prog_22_method_3_code 4 = .ok (.invokevirtual 35, 3) := by decide +kernel
theorem own_pd_33 : parseMethodDescriptor "()I" = some ⟨[], some .int⟩ := by decide +kernel
theorem own_d_prog_22_method_3_code_7 : decode prog_22_method_3_code 7 = .ok (.if_icmp .ge 29, 3) := by decide +kernel
theorem own_d_prog_22_method_3_code_36 : decode prog_22_method_3_code 36 = .ok (.iload_n 2, 1) := by decide +kernel
theorem own_d_prog_22_method_3_code_37 : decode prog_22_method_3_code 37 = .ok (.ireturn, 1) := by decide +kernel
theorem own_pn_34 : plainName "com/example/floatbook/floatbook/core/PlainDecimal" = true := by first | (simp [plainName, overriddenIn]; done) | decide +kernel
set_option maxRecDepth 65536 in
set_option maxHeartbeats 4000000 in
theorem own_deG_0 (l : Launch) (Z : State) (a0 : Array Value) (hw : ∀ d ∈ tables_1, d.before a0 Z = true) (cm : Com Z) (us : U16s Z) (sf : Sfo Z) (h0 : Heap) (n0 : Nat) (O : Old Z n0 h0) (x : Addr) (t : Addr) (fm : Int32) (F : StrA Z h0 x t ([] : List Int32)) (hg : ¬ fm < (0 : Int32)) :
    Con l Z n0 (⟨"com/example/floatbook/floatbook/core/PlainDecimal", "digitsEnd", "(Ljava/lang/String;I)I"⟩ : MethodName) prog_22_method_3_code 3 (some .int) [] ({ frames := 5, cells := 0, slots := 0, locals := 110 } : Room) #[(.ref x), (.int fm)] h0 [] (fun v h' => v = some (.int fm) ∧ h' = h0) := by
  refine Con.of a0 (plainFor_of_name own_pn_34) O (fun _ q => nomatch q) [] (fun _ q => nomatch q) ?_
  intro p e s m below meth cdX T S hby hml hret hnm
  refine Go.cast (own_ef_32 m x fm) ?_
  refine S.iloadN 1 (hb hby own_d_prog_22_method_3_code_0) rfl ?_
  refine S.istoreN 2 #[.val (.ref x), .val (.int fm), .val (.int fm)] (hb hby own_d_prog_22_method_3_code_1) rfl ?_
  refine S.iloadN 3 (hb hby own_d_prog_22_method_3_code_2) rfl ?_
  refine S.aloadN 4 (hb hby own_d_prog_22_method_3_code_3) rfl rfl ?_
  refine S.vcall 7 (hb hby own_d_prog_22_method_3_code_4) (by rw [hml]; rfl) (Tw hw 37 rfl) (Tw hw 38 rfl) (Tw hw 40 rfl) (Tw hw 39 rfl) (nfSel (Tw hw 40 rfl)) (by decide) F.exa [] [(.int fm)] (payLenA (W := 1) hw (Tw hw 5 rfl) cm S.old F (by decide) (by decide)) (lenOf own_pd_33 rfl) rfl (Nle rfl) (by decide) (by decide) Wrs.nil ?_
  intro v965 T966 h967 L968 S969 q970 K971
  obtain ⟨rfl, e_q970⟩ := q970
  obtain rfl := e_q970.symm
  show Go p e below _ T966 (mkF m 7 #[.val (.ref x), .val (.int fm), .val (.int fm)] [(.int (0 : Int32)), (.int fm)])
  refine S969.icmpY 36 (hb hby own_d_prog_22_method_3_code_7) (qGeT hg) ?_
  refine S969.iloadN 37 (hb hby own_d_prog_22_method_3_code_36) rfl ?_
  exact S969.retI (hb hby own_d_prog_22_method_3_code_37) hret (by decide) (by decide) ⟨rfl, rfl⟩


set_option maxRecDepth 65536 in
set_option maxHeartbeats 4000000 in
theorem own_deG_1 (l : Launch) (Z : State) (a0 : Array Value) (hw : ∀ d ∈ tables_1, d.before a0 Z = true) (cm : Com Z) (us : U16s Z) (sf : Sfo Z) (h0 : Heap) (n0 : Nat) (O : Old Z n0 h0) (x : Addr) (t : Addr) (c0 : Int32) (fm : Int32) (F : StrA Z h0 x t ([c0] : List Int32)) (hg : ¬ fm < (1 : Int32)) :
    Con l Z n0 (⟨"com/example/floatbook/floatbook/core/PlainDecimal", "digitsEnd", "(Ljava/lang/String;I)I"⟩ : MethodName) prog_22_method_3_code 3 (some .int) [] ({ frames := 5, cells := 0, slots := 0, locals := 110 } : Room) #[(.ref x), (.int fm)] h0 [] (fun v h' => v = some (.int fm) ∧ h' = h0) := by
  refine Con.of a0 (plainFor_of_name own_pn_34) O (fun _ q => nomatch q) [] (fun _ q => nomatch q) ?_
  intro p e s m below meth cdX T S hby hml hret hnm
  refine Go.cast (own_ef_32 m x fm) ?_
  refine S.iloadN 1 (hb hby own_d_prog_22_method_3_code_0) rfl ?_
  refine S.istoreN 2 #[.val (.ref x), .val (.int fm), .val (.int fm)] (hb hby own_d_prog_22_method_3_code_1) rfl ?_
  refine S.iloadN 3 (hb hby own_d_prog_22_method_3_code_2) rfl ?_
  refine S.aloadN 4 (hb hby own_d_prog_22_method_3_code_3) rfl rfl ?_
  refine S.vcall 7 (hb hby own_d_prog_22_method_3_code_4) (by rw [hml]; rfl) (Tw hw 37 rfl) (Tw hw 38 rfl) (Tw hw 40 rfl) (Tw hw 39 rfl) (nfSel (Tw hw 40 rfl)) (by decide) F.exa [] [(.int fm)] (payLenA (W := 1) hw (Tw hw 5 rfl) cm S.old F (by decide) (by decide)) (lenOf own_pd_33 rfl) rfl (Nle rfl) (by decide) (by decide) Wrs.nil ?_
  intro v972 T973 h974 L975 S976 q977 K978
  obtain ⟨rfl, e_q977⟩ := q977
  obtain rfl := e_q977.symm
  show Go p e below _ T973 (mkF m 7 #[.val (.ref x), .val (.int fm), .val (.int fm)] [(.int (1 : Int32)), (.int fm)])
  refine S976.icmpY 36 (hb hby own_d_prog_22_method_3_code_7) (qGeT hg) ?_
  refine S976.iloadN 37 (hb hby own_d_prog_22_method_3_code_36) rfl ?_
  exact S976.retI (hb hby own_d_prog_22_method_3_code_37) hret (by decide) (by decide) ⟨rfl, rfl⟩

theorem own_d_prog_22_method_3_code_10 : decode prog_22_method_3_code 10 = .ok (.aload_n 0, 1) := by decide +kernel
theorem own_d_prog_22_method_3_code_11 : decode prog_22_method_3_code 11 = .ok (.iload_n 2, 1) := by decide +kernel
theorem own_d_prog_22_method_3_code_12 : decode prog_22_method_3_code 12 = .ok (.invokevirtual 39, 3) := by decide +kernel
theorem own_pd_35 : parseMethodDescriptor "(I)C" = some ⟨[.int], some .char⟩ := by decide +kernel
theorem own_d_prog_22_method_3_code_15 : decode prog_22_method_3_code 15 = .ok (.bipush 48, 2) := by decide +kernel
theorem own_d_prog_22_method_3_code_17 : decode prog_22_method_3_code 17 = .ok (.if_icmp .lt 19, 3) := by decide +kernel
theorem own_d_prog_22_method_3_code_20 : decode prog_22_method_3_code 20 = .ok (.aload_n 0, 1) := by decide +kernel
theorem own_d_prog_22_method_3_code_21 : decode prog_22_method_3_code 21 = .ok (.iload_n 2, 1) := by decide +kernel
theorem own_d_prog_22_method_3_code_22 : decode prog_22_method_3_code 22 = .ok (.invokevirtual 39, 3) := by decide +kernel
theorem own_d_prog_22_method_3_code_25 : decode prog_22_method_3_code 25 = .ok (.bipush 57, 2) := by decide +kernel
theorem own_d_prog_22_method_3_code_27 : decode prog_22_method_3_code 27 = .ok (.if_icmp .gt 9, 3) := by decide +kernel
theorem own_d_prog_22_method_3_code_30 : decode prog_22_method_3_code 30 = .ok (.iinc 2 1, 3) := by decide +kernel
theorem own_d_prog_22_method_3_code_33 : decode prog_22_method_3_code 33 = .ok (.goto (-31), 3) := by decide +kernel
set_option maxRecDepth 65536 in
set_option maxHeartbeats 4000000 in
theorem own_de_1_0 (l : Launch) (Z : State) (a0 : Array Value) (hw : ∀ d ∈ tables_1, d.before a0 Z = true) (cm : Com Z) (us : U16s Z) (sf : Sfo Z) (h0 : Heap) (n0 : Nat) (O : Old Z n0 h0) (x : Addr) (t : Addr) (c0 : Int32) (F : StrA Z h0 x t ([c0] : List Int32)) :
    Con l Z n0 (⟨"com/example/floatbook/floatbook/core/PlainDecimal", "digitsEnd", "(Ljava/lang/String;I)I"⟩ : MethodName) prog_22_method_3_code 3 (some .int) [] ({ frames := 5, cells := 0, slots := 0, locals := 110 } : Room) #[(.ref x), (.int (0 : Int32))] h0 [] (fun v h' => ((v = some (.int 0) ∧ ¬ Dg c0) ∨ (v = some (.int 1) ∧ Dg c0)) ∧ h' = h0) := by
  refine Con.of a0 (plainFor_of_name own_pn_34) O (fun _ q => nomatch q) [] (fun _ q => nomatch q) ?_
  intro p e s m below meth cdX T S hby hml hret hnm
  refine Go.cast (own_ef_32 m x (0 : Int32)) ?_
  refine S.iloadN 1 (hb hby own_d_prog_22_method_3_code_0) rfl ?_
  refine S.istoreN 2 #[.val (.ref x), .val (.int (0 : Int32)), .val (.int (0 : Int32))] (hb hby own_d_prog_22_method_3_code_1) rfl ?_
  refine S.iloadN 3 (hb hby own_d_prog_22_method_3_code_2) rfl ?_
  refine S.aloadN 4 (hb hby own_d_prog_22_method_3_code_3) rfl rfl ?_
  refine S.vcall 7 (hb hby own_d_prog_22_method_3_code_4) (by rw [hml]; rfl) (Tw hw 37 rfl) (Tw hw 38 rfl) (Tw hw 40 rfl) (Tw hw 39 rfl) (nfSel (Tw hw 40 rfl)) (by decide) F.exa [] [(.int (0 : Int32))] (payLenA (W := 1) hw (Tw hw 5 rfl) cm S.old F (by decide) (by decide)) (lenOf own_pd_33 rfl) rfl (Nle rfl) (by decide) (by decide) Wrs.nil ?_
  intro v979 T980 h981 L982 S983 q984 K985
  obtain ⟨rfl, e_q984⟩ := q984
  obtain rfl := e_q984.symm
  show Go p e below _ T980 (mkF m 7 #[.val (.ref x), .val (.int (0 : Int32)), .val (.int (0 : Int32))] [(.int (1 : Int32)), (.int (0 : Int32))])
  refine S983.icmpN 10 (hb hby own_d_prog_22_method_3_code_7) (qGeF (by decide)) ?_
  refine S983.aloadN 11 (hb hby own_d_prog_22_method_3_code_10) rfl rfl ?_
  refine S983.iloadN 12 (hb hby own_d_prog_22_method_3_code_11) rfl ?_
  refine S983.vcall 15 (hb hby own_d_prog_22_method_3_code_12) (by rw [hml]; rfl) (Tw hw 47 rfl) (Tw hw 48 rfl) (Tw hw 50 rfl) (Tw hw 49 rfl) (nfSel (Tw hw 50 rfl)) (by decide) F.exa [(.int (0 : Int32))] [] (payChA (W := 0) hw cm us sf S983.old F (i := 0) (Nle rfl) rfl (by decide) (by decide)) (lenOf own_pd_35 rfl) rfl (Nle rfl) (by decide) (by decide) Wrs.nil ?_
  intro v986 T987 h988 L989 S990 q991 K992
  obtain ⟨rfl, e_q991⟩ := q991
  obtain rfl := e_q991.symm
  show Go p e below _ T987 (mkF m 15 #[.val (.ref x), .val (.int (0 : Int32)), .val (.int (0 : Int32))] [(.int c0)])
  refine S990.bipush 17 (48 : Int32) (hb hby own_d_prog_22_method_3_code_15) ?_
  by_cases hb993 : c0 < (48 : Int32)
  · skip
    refine S990.icmpY 36 (hb hby own_d_prog_22_method_3_code_17) (qLtT hb993) ?_
    refine S990.iloadN 37 (hb hby own_d_prog_22_method_3_code_36) rfl ?_
    exact S990.retI (hb hby own_d_prog_22_method_3_code_37) hret (by decide) (by decide) ⟨Or.inl (⟨rfl, (fun q => q.1 hb993)⟩), rfl⟩
  · skip
    refine S990.icmpN 20 (hb hby own_d_prog_22_method_3_code_17) (qLtF hb993) ?_
    refine S990.aloadN 21 (hb hby own_d_prog_22_method_3_code_20) rfl rfl ?_
    refine S990.iloadN 22 (hb hby own_d_prog_22_method_3_code_21) rfl ?_
    refine S990.vcall 25 (hb hby own_d_prog_22_method_3_code_22) (by rw [hml]; rfl) (Tw hw 47 rfl) (Tw hw 48 rfl) (Tw hw 50 rfl) (Tw hw 49 rfl) (nfSel (Tw hw 50 rfl)) (by decide) F.exa [(.int (0 : Int32))] [] (payChA (W := 0) hw cm us sf S990.old F (i := 0) (Nle rfl) rfl (by decide) (by decide)) (lenOf own_pd_35 rfl) rfl (Nle rfl) (by decide) (by decide) Wrs.nil ?_
    intro v994 T995 h996 L997 S998 q999 K1000
    obtain ⟨rfl, e_q999⟩ := q999
    obtain rfl := e_q999.symm
    show Go p e below _ T995 (mkF m 25 #[.val (.ref x), .val (.int (0 : Int32)), .val (.int (0 : Int32))] [(.int c0)])
    refine S998.bipush 27 (57 : Int32) (hb hby own_d_prog_22_method_3_code_25) ?_
    by_cases hb1001 : (57 : Int32) < c0
    · skip
      refine S998.icmpY 36 (hb hby own_d_prog_22_method_3_code_27) (qGtT hb1001) ?_
      refine S998.iloadN 37 (hb hby own_d_prog_22_method_3_code_36) rfl ?_
      exact S998.retI (hb hby own_d_prog_22_method_3_code_37) hret (by decide) (by decide) ⟨Or.inl (⟨rfl, (fun q => q.2 hb1001)⟩), rfl⟩
    · skip
      refine S998.icmpN 30 (hb hby own_d_prog_22_method_3_code_27) (qGtF hb1001) ?_
      refine S998.iinc 33 #[.val (.ref x), .val (.int (0 : Int32)), .val (.int ((0 : Int32) + (1 : Int32)))] (hb hby own_d_prog_22_method_3_code_30) rfl rfl ?_
      rw [show ((0 : Int32) + (1 : Int32)) = (1 : Int32) from by decide]
      refine S998.goto 2 (hb hby own_d_prog_22_method_3_code_33) ?_
      refine S998.iloadN 3 (hb hby own_d_prog_22_method_3_code_2) rfl ?_
      refine S998.aloadN 4 (hb hby own_d_prog_22_method_3_code_3) rfl rfl ?_
      refine S998.vcall 7 (hb hby own_d_prog_22_method_3_code_4) (by rw [hml]; rfl) (Tw hw 37 rfl) (Tw hw 38 rfl) (Tw hw 40 rfl) (Tw hw 39 rfl) (nfSel (Tw hw 40 rfl)) (by decide) F.exa [] [(.int (1 : Int32))] (payLenA (W := 1) hw (Tw hw 5 rfl) cm S998.old F (by decide) (by decide)) (lenOf own_pd_33 rfl) rfl (Nle rfl) (by decide) (by decide) Wrs.nil ?_
      intro v1002 T1003 h1004 L1005 S1006 q1007 K1008
      obtain ⟨rfl, e_q1007⟩ := q1007
      obtain rfl := e_q1007.symm
      show Go p e below _ T1003 (mkF m 7 #[.val (.ref x), .val (.int (0 : Int32)), .val (.int (1 : Int32))] [(.int (1 : Int32)), (.int (1 : Int32))])
      refine S1006.icmpY 36 (hb hby own_d_prog_22_method_3_code_7) (qGeT (by decide)) ?_
      refine S1006.iloadN 37 (hb hby own_d_prog_22_method_3_code_36) rfl ?_
      exact S1006.retI (hb hby own_d_prog_22_method_3_code_37) hret (by decide) (by decide) ⟨Or.inr (⟨rfl, ⟨hb993, hb1001⟩⟩), rfl⟩


set_option maxRecDepth 65536 in
set_option maxHeartbeats 4000000 in
theorem own_deG_2 (l : Launch) (Z : State) (a0 : Array Value) (hw : ∀ d ∈ tables_1, d.before a0 Z = true) (cm : Com Z) (us : U16s Z) (sf : Sfo Z) (h0 : Heap) (n0 : Nat) (O : Old Z n0 h0) (x : Addr) (t : Addr) (c0 : Int32) (c1 : Int32) (fm : Int32) (F : StrA Z h0 x t ([c0, c1] : List Int32)) (hg : ¬ fm < (2 : Int32)) :
    Con l Z n0 (⟨"com/example/floatbook/floatbook/core/PlainDecimal", "digitsEnd", "(Ljava/lang/String;I)I"⟩ : MethodName) prog_22_method_3_code 3 (some .int) [] ({ frames := 5, cells := 0, slots := 0, locals := 110 } : Room) #[(.ref x), (.int fm)] h0 [] (fun v h' => v = some (.int fm) ∧ h' = h0) := by
  refine Con.of a0 (plainFor_of_name own_pn_34) O (fun _ q => nomatch q) [] (fun _ q => nomatch q) ?_
  intro p e s m below meth cdX T S hby hml hret hnm
  refine Go.cast (own_ef_32 m x fm) ?_
  refine S.iloadN 1 (hb hby own_d_prog_22_method_3_code_0) rfl ?_
  refine S.istoreN 2 #[.val (.ref x), .val (.int fm), .val (.int fm)] (hb hby own_d_prog_22_method_3_code_1) rfl ?_
  refine S.iloadN 3 (hb hby own_d_prog_22_method_3_code_2) rfl ?_
  refine S.aloadN 4 (hb hby own_d_prog_22_method_3_code_3) rfl rfl ?_
  refine S.vcall 7 (hb hby own_d_prog_22_method_3_code_4) (by rw [hml]; rfl) (Tw hw 37 rfl) (Tw hw 38 rfl) (Tw hw 40 rfl) (Tw hw 39 rfl) (nfSel (Tw hw 40 rfl)) (by decide) F.exa [] [(.int fm)] (payLenA (W := 1) hw (Tw hw 5 rfl) cm S.old F (by decide) (by decide)) (lenOf own_pd_33 rfl) rfl (Nle rfl) (by decide) (by decide) Wrs.nil ?_
  intro v1009 T1010 h1011 L1012 S1013 q1014 K1015
  obtain ⟨rfl, e_q1014⟩ := q1014
  obtain rfl := e_q1014.symm
  show Go p e below _ T1010 (mkF m 7 #[.val (.ref x), .val (.int fm), .val (.int fm)] [(.int (2 : Int32)), (.int fm)])
  refine S1013.icmpY 36 (hb hby own_d_prog_22_method_3_code_7) (qGeT hg) ?_
  refine S1013.iloadN 37 (hb hby own_d_prog_22_method_3_code_36) rfl ?_
  exact S1013.retI (hb hby own_d_prog_22_method_3_code_37) hret (by decide) (by decide) ⟨rfl, rfl⟩


set_option maxRecDepth 65536 in
set_option maxHeartbeats 4000000 in
theorem own_de_2_0 (l : Launch) (Z : State) (a0 : Array Value) (hw : ∀ d ∈ tables_1, d.before a0 Z = true) (cm : Com Z) (us : U16s Z) (sf : Sfo Z) (h0 : Heap) (n0 : Nat) (O : Old Z n0 h0) (x : Addr) (t : Addr) (c0 : Int32) (c1 : Int32) (F : StrA Z h0 x t ([c0, c1] : List Int32)) :
    Con l Z n0 (⟨"com/example/floatbook/floatbook/core/PlainDecimal", "digitsEnd", "(Ljava/lang/String;I)I"⟩ : MethodName) prog_22_method_3_code 3 (some .int) [] ({ frames := 5, cells := 0, slots := 0, locals := 110 } : Room) #[(.ref x), (.int (0 : Int32))] h0 [] (fun v h' => ((v = some (.int 0) ∧ ¬ Dg c0) ∨ (v = some (.int 1) ∧ Dg c0 ∧ ¬ Dg c1) ∨ (v = some (.int 2) ∧ Dg c0 ∧ Dg c1)) ∧ h' = h0) := by
  refine Con.of a0 (plainFor_of_name own_pn_34) O (fun _ q => nomatch q) [] (fun _ q => nomatch q) ?_
  intro p e s m below meth cdX T S hby hml hret hnm
  refine Go.cast (own_ef_32 m x (0 : Int32)) ?_
  refine S.iloadN 1 (hb hby own_d_prog_22_method_3_code_0) rfl ?_
  refine S.istoreN 2 #[.val (.ref x), .val (.int (0 : Int32)), .val (.int (0 : Int32))] (hb hby own_d_prog_22_method_3_code_1) rfl ?_
  refine S.iloadN 3 (hb hby own_d_prog_22_method_3_code_2) rfl ?_
  refine S.aloadN 4 (hb hby own_d_prog_22_method_3_code_3) rfl rfl ?_
  refine S.vcall 7 (hb hby own_d_prog_22_method_3_code_4) (by rw [hml]; rfl) (Tw hw 37 rfl) (Tw hw 38 rfl) (Tw hw 40 rfl) (Tw hw 39 rfl) (nfSel (Tw hw 40 rfl)) (by decide) F.exa [] [(.int (0 : Int32))] (payLenA (W := 1) hw (Tw hw 5 rfl) cm S.old F (by decide) (by decide)) (lenOf own_pd_33 rfl) rfl (Nle rfl) (by decide) (by decide) Wrs.nil ?_
  intro v1016 T1017 h1018 L1019 S1020 q1021 K1022
  obtain ⟨rfl, e_q1021⟩ := q1021
  obtain rfl := e_q1021.symm
  show Go p e below _ T1017 (mkF m 7 #[.val (.ref x), .val (.int (0 : Int32)), .val (.int (0 : Int32))] [(.int (2 : Int32)), (.int (0 : Int32))])
  refine S1020.icmpN 10 (hb hby own_d_prog_22_method_3_code_7) (qGeF (by decide)) ?_
  refine S1020.aloadN 11 (hb hby own_d_prog_22_method_3_code_10) rfl rfl ?_
  refine S1020.iloadN 12 (hb hby own_d_prog_22_method_3_code_11) rfl ?_
  refine S1020.vcall 15 (hb hby own_d_prog_22_method_3_code_12) (by rw [hml]; rfl) (Tw hw 47 rfl) (Tw hw 48 rfl) (Tw hw 50 rfl) (Tw hw 49 rfl) (nfSel (Tw hw 50 rfl)) (by decide) F.exa [(.int (0 : Int32))] [] (payChA (W := 0) hw cm us sf S1020.old F (i := 0) (Nle rfl) rfl (by decide) (by decide)) (lenOf own_pd_35 rfl) rfl (Nle rfl) (by decide) (by decide) Wrs.nil ?_
  intro v1023 T1024 h1025 L1026 S1027 q1028 K1029
  obtain ⟨rfl, e_q1028⟩ := q1028
  obtain rfl := e_q1028.symm
  show Go p e below _ T1024 (mkF m 15 #[.val (.ref x), .val (.int (0 : Int32)), .val (.int (0 : Int32))] [(.int c0)])
  refine S1027.bipush 17 (48 : Int32) (hb hby own_d_prog_22_method_3_code_15) ?_
  by_cases hb1030 : c0 < (48 : Int32)
  · skip
    refine S1027.icmpY 36 (hb hby own_d_prog_22_method_3_code_17) (qLtT hb1030) ?_
    refine S1027.iloadN 37 (hb hby own_d_prog_22_method_3_code_36) rfl ?_
    exact S1027.retI (hb hby own_d_prog_22_method_3_code_37) hret (by decide) (by decide) ⟨Or.inl (⟨rfl, (fun q => q.1 hb1030)⟩), rfl⟩
  · skip
    refine S1027.icmpN 20 (hb hby own_d_prog_22_method_3_code_17) (qLtF hb1030) ?_
    refine S1027.aloadN 21 (hb hby own_d_prog_22_method_3_code_20) rfl rfl ?_
    refine S1027.iloadN 22 (hb hby own_d_prog_22_method_3_code_21) rfl ?_
    refine S1027.vcall 25 (hb hby own_d_prog_22_method_3_code_22) (by rw [hml]; rfl) (Tw hw 47 rfl) (Tw hw 48 rfl) (Tw hw 50 rfl) (Tw hw 49 rfl) (nfSel (Tw hw 50 rfl)) (by decide) F.exa [(.int (0 : Int32))] [] (payChA (W := 0) hw cm us sf S1027.old F (i := 0) (Nle rfl) rfl (by decide) (by decide)) (lenOf own_pd_35 rfl) rfl (Nle rfl) (by decide) (by decide) Wrs.nil ?_
    intro v1031 T1032 h1033 L1034 S1035 q1036 K1037
    obtain ⟨rfl, e_q1036⟩ := q1036
    obtain rfl := e_q1036.symm
    show Go p e below _ T1032 (mkF m 25 #[.val (.ref x), .val (.int (0 : Int32)), .val (.int (0 : Int32))] [(.int c0)])
    refine S1035.bipush 27 (57 : Int32) (hb hby own_d_prog_22_method_3_code_25) ?_
    by_cases hb1038 : (57 : Int32) < c0
    · skip
      refine S1035.icmpY 36 (hb hby own_d_prog_22_method_3_code_27) (qGtT hb1038) ?_
      refine S1035.iloadN 37 (hb hby own_d_prog_22_method_3_code_36) rfl ?_
      exact S1035.retI (hb hby own_d_prog_22_method_3_code_37) hret (by decide) (by decide) ⟨Or.inl (⟨rfl, (fun q => q.2 hb1038)⟩), rfl⟩
    · skip
      refine S1035.icmpN 30 (hb hby own_d_prog_22_method_3_code_27) (qGtF hb1038) ?_
      refine S1035.iinc 33 #[.val (.ref x), .val (.int (0 : Int32)), .val (.int ((0 : Int32) + (1 : Int32)))] (hb hby own_d_prog_22_method_3_code_30) rfl rfl ?_
      rw [show ((0 : Int32) + (1 : Int32)) = (1 : Int32) from by decide]
      refine S1035.goto 2 (hb hby own_d_prog_22_method_3_code_33) ?_
      refine S1035.iloadN 3 (hb hby own_d_prog_22_method_3_code_2) rfl ?_
      refine S1035.aloadN 4 (hb hby own_d_prog_22_method_3_code_3) rfl rfl ?_
      refine S1035.vcall 7 (hb hby own_d_prog_22_method_3_code_4) (by rw [hml]; rfl) (Tw hw 37 rfl) (Tw hw 38 rfl) (Tw hw 40 rfl) (Tw hw 39 rfl) (nfSel (Tw hw 40 rfl)) (by decide) F.exa [] [(.int (1 : Int32))] (payLenA (W := 1) hw (Tw hw 5 rfl) cm S1035.old F (by decide) (by decide)) (lenOf own_pd_33 rfl) rfl (Nle rfl) (by decide) (by decide) Wrs.nil ?_
      intro v1039 T1040 h1041 L1042 S1043 q1044 K1045
      obtain ⟨rfl, e_q1044⟩ := q1044
      obtain rfl := e_q1044.symm
      show Go p e below _ T1040 (mkF m 7 #[.val (.ref x), .val (.int (0 : Int32)), .val (.int (1 : Int32))] [(.int (2 : Int32)), (.int (1 : Int32))])
      refine S1043.icmpN 10 (hb hby own_d_prog_22_method_3_code_7) (qGeF (by decide)) ?_
      refine S1043.aloadN 11 (hb hby own_d_prog_22_method_3_code_10) rfl rfl ?_
      refine S1043.iloadN 12 (hb hby own_d_prog_22_method_3_code_11) rfl ?_
      refine S1043.vcall 15 (hb hby own_d_prog_22_method_3_code_12) (by rw [hml]; rfl) (Tw hw 47 rfl) (Tw hw 48 rfl) (Tw hw 50 rfl) (Tw hw 49 rfl) (nfSel (Tw hw 50 rfl)) (by decide) F.exa [(.int (1 : Int32))] [] (payChA (W := 0) hw cm us sf S1043.old F (i := 1) (Nle rfl) rfl (by decide) (by decide)) (lenOf own_pd_35 rfl) rfl (Nle rfl) (by decide) (by decide) Wrs.nil ?_
      intro v1046 T1047 h1048 L1049 S1050 q1051 K1052
      obtain ⟨rfl, e_q1051⟩ := q1051
      obtain rfl := e_q1051.symm
      show Go p e below _ T1047 (mkF m 15 #[.val (.ref x), .val (.int (0 : Int32)), .val (.int (1 : Int32))] [(.int c1)])
      refine S1050.bipush 17 (48 : Int32) (hb hby own_d_prog_22_method_3_code_15) ?_
      by_cases hb1053 : c1 < (48 : Int32)
      · skip
        refine S1050.icmpY 36 (hb hby own_d_prog_22_method_3_code_17) (qLtT hb1053) ?_
        refine S1050.iloadN 37 (hb hby own_d_prog_22_method_3_code_36) rfl ?_
        exact S1050.retI (hb hby own_d_prog_22_method_3_code_37) hret (by decide) (by decide) ⟨Or.inr (Or.inl (⟨rfl, ⟨hb1030, hb1038⟩, (fun q => q.1 hb1053)⟩)), rfl⟩
      · skip
        refine S1050.icmpN 20 (hb hby own_d_prog_22_method_3_code_17) (qLtF hb1053) ?_
        refine S1050.aloadN 21 (hb hby own_d_prog_22_method_3_code_20) rfl rfl ?_
        refine S1050.iloadN 22 (hb hby own_d_prog_22_method_3_code_21) rfl ?_
        refine S1050.vcall 25 (hb hby own_d_prog_22_method_3_code_22) (by rw [hml]; rfl) (Tw hw 47 rfl) (Tw hw 48 rfl) (Tw hw 50 rfl) (Tw hw 49 rfl) (nfSel (Tw hw 50 rfl)) (by decide) F.exa [(.int (1 : Int32))] [] (payChA (W := 0) hw cm us sf S1050.old F (i := 1) (Nle rfl) rfl (by decide) (by decide)) (lenOf own_pd_35 rfl) rfl (Nle rfl) (by decide) (by decide) Wrs.nil ?_
        intro v1054 T1055 h1056 L1057 S1058 q1059 K1060
        obtain ⟨rfl, e_q1059⟩ := q1059
        obtain rfl := e_q1059.symm
        show Go p e below _ T1055 (mkF m 25 #[.val (.ref x), .val (.int (0 : Int32)), .val (.int (1 : Int32))] [(.int c1)])
        refine S1058.bipush 27 (57 : Int32) (hb hby own_d_prog_22_method_3_code_25) ?_
        by_cases hb1061 : (57 : Int32) < c1
        · skip
          refine S1058.icmpY 36 (hb hby own_d_prog_22_method_3_code_27) (qGtT hb1061) ?_
          refine S1058.iloadN 37 (hb hby own_d_prog_22_method_3_code_36) rfl ?_
          exact S1058.retI (hb hby own_d_prog_22_method_3_code_37) hret (by decide) (by decide) ⟨Or.inr (Or.inl (⟨rfl, ⟨hb1030, hb1038⟩, (fun q => q.2 hb1061)⟩)), rfl⟩
        · skip
          refine S1058.icmpN 30 (hb hby own_d_prog_22_method_3_code_27) (qGtF hb1061) ?_
          refine S1058.iinc 33 #[.val (.ref x), .val (.int (0 : Int32)), .val (.int ((1 : Int32) + (1 : Int32)))] (hb hby own_d_prog_22_method_3_code_30) rfl rfl ?_
          rw [show ((1 : Int32) + (1 : Int32)) = (2 : Int32) from by decide]
          refine S1058.goto 2 (hb hby own_d_prog_22_method_3_code_33) ?_
          refine S1058.iloadN 3 (hb hby own_d_prog_22_method_3_code_2) rfl ?_
          refine S1058.aloadN 4 (hb hby own_d_prog_22_method_3_code_3) rfl rfl ?_
          refine S1058.vcall 7 (hb hby own_d_prog_22_method_3_code_4) (by rw [hml]; rfl) (Tw hw 37 rfl) (Tw hw 38 rfl) (Tw hw 40 rfl) (Tw hw 39 rfl) (nfSel (Tw hw 40 rfl)) (by decide) F.exa [] [(.int (2 : Int32))] (payLenA (W := 1) hw (Tw hw 5 rfl) cm S1058.old F (by decide) (by decide)) (lenOf own_pd_33 rfl) rfl (Nle rfl) (by decide) (by decide) Wrs.nil ?_
          intro v1062 T1063 h1064 L1065 S1066 q1067 K1068
          obtain ⟨rfl, e_q1067⟩ := q1067
          obtain rfl := e_q1067.symm
          show Go p e below _ T1063 (mkF m 7 #[.val (.ref x), .val (.int (0 : Int32)), .val (.int (2 : Int32))] [(.int (2 : Int32)), (.int (2 : Int32))])
          refine S1066.icmpY 36 (hb hby own_d_prog_22_method_3_code_7) (qGeT (by decide)) ?_
          refine S1066.iloadN 37 (hb hby own_d_prog_22_method_3_code_36) rfl ?_
          exact S1066.retI (hb hby own_d_prog_22_method_3_code_37) hret (by decide) (by decide) ⟨Or.inr (Or.inr (⟨rfl, ⟨hb1030, hb1038⟩, ⟨hb1053, hb1061⟩⟩)), rfl⟩


set_option maxRecDepth 65536 in
set_option maxHeartbeats 4000000 in
theorem own_de_2_1 (l : Launch) (Z : State) (a0 : Array Value) (hw : ∀ d ∈ tables_1, d.before a0 Z = true) (cm : Com Z) (us : U16s Z) (sf : Sfo Z) (h0 : Heap) (n0 : Nat) (O : Old Z n0 h0) (x : Addr) (t : Addr) (c0 : Int32) (c1 : Int32) (F : StrA Z h0 x t ([c0, c1] : List Int32)) :
    Con l Z n0 (⟨"com/example/floatbook/floatbook/core/PlainDecimal", "digitsEnd", "(Ljava/lang/String;I)I"⟩ : MethodName) prog_22_method_3_code 3 (some .int) [] ({ frames := 5, cells := 0, slots := 0, locals := 110 } : Room) #[(.ref x), (.int (1 : Int32))] h0 [] (fun v h' => ((v = some (.int 1) ∧ ¬ Dg c1) ∨ (v = some (.int 2) ∧ Dg c1)) ∧ h' = h0) := by
  refine Con.of a0 (plainFor_of_name own_pn_34) O (fun _ q => nomatch q) [] (fun _ q => nomatch q) ?_
  intro p e s m below meth cdX T S hby hml hret hnm
  refine Go.cast (own_ef_32 m x (1 : Int32)) ?_
  refine S.iloadN 1 (hb hby own_d_prog_22_method_3_code_0) rfl ?_
  refine S.istoreN 2 #[.val (.ref x), .val (.int (1 : Int32)), .val (.int (1 : Int32))] (hb hby own_d_prog_22_method_3_code_1) rfl ?_
  refine S.iloadN 3 (hb hby own_d_prog_22_method_3_code_2) rfl ?_
  refine S.aloadN 4 (hb hby own_d_prog_22_method_3_code_3) rfl rfl ?_
  refine S.vcall 7 (hb hby own_d_prog_22_method_3_code_4) (by rw [hml]; rfl) (Tw hw 37 rfl) (Tw hw 38 rfl) (Tw hw 40 rfl) (Tw hw 39 rfl) (nfSel (Tw hw 40 rfl)) (by decide) F.exa [] [(.int (1 : Int32))] (payLenA (W := 1) hw (Tw hw 5 rfl) cm S.old F (by decide) (by decide)) (lenOf own_pd_33 rfl) rfl (Nle rfl) (by decide) (by decide) Wrs.nil ?_
  intro v1069 T1070 h1071 L1072 S1073 q1074 K1075
  obtain ⟨rfl, e_q1074⟩ := q1074
  obtain rfl := e_q1074.symm
  show Go p e below _ T1070 (mkF m 7 #[.val (.ref x), .val (.int (1 : Int32)), .val (.int (1 : Int32))] [(.int (2 : Int32)), (.int (1 : Int32))])
  refine S1073.icmpN 10 (hb hby own_d_prog_22_method_3_code_7) (qGeF (by decide)) ?_
  refine S1073.aloadN 11 (hb hby own_d_prog_22_method_3_code_10) rfl rfl ?_
  refine S1073.iloadN 12 (hb hby own_d_prog_22_method_3_code_11) rfl ?_
  refine S1073.vcall 15 (hb hby own_d_prog_22_method_3_code_12) (by rw [hml]; rfl) (Tw hw 47 rfl) (Tw hw 48 rfl) (Tw hw 50 rfl) (Tw hw 49 rfl) (nfSel (Tw hw 50 rfl)) (by decide) F.exa [(.int (1 : Int32))] [] (payChA (W := 0) hw cm us sf S1073.old F (i := 1) (Nle rfl) rfl (by decide) (by decide)) (lenOf own_pd_35 rfl) rfl (Nle rfl) (by decide) (by decide) Wrs.nil ?_
  intro v1076 T1077 h1078 L1079 S1080 q1081 K1082
  obtain ⟨rfl, e_q1081⟩ := q1081
  obtain rfl := e_q1081.symm
  show Go p e below _ T1077 (mkF m 15 #[.val (.ref x), .val (.int (1 : Int32)), .val (.int (1 : Int32))] [(.int c1)])
  refine S1080.bipush 17 (48 : Int32) (hb hby own_d_prog_22_method_3_code_15) ?_
  by_cases hb1083 : c1 < (48 : Int32)
  · skip
    refine S1080.icmpY 36 (hb hby own_d_prog_22_method_3_code_17) (qLtT hb1083) ?_
    refine S1080.iloadN 37 (hb hby own_d_prog_22_method_3_code_36) rfl ?_
    exact S1080.retI (hb hby own_d_prog_22_method_3_code_37) hret (by decide) (by decide) ⟨Or.inl (⟨rfl, (fun q => q.1 hb1083)⟩), rfl⟩
  · skip
    refine S1080.icmpN 20 (hb hby own_d_prog_22_method_3_code_17) (qLtF hb1083) ?_
    refine S1080.aloadN 21 (hb hby own_d_prog_22_method_3_code_20) rfl rfl ?_
    refine S1080.iloadN 22 (hb hby own_d_prog_22_method_3_code_21) rfl ?_
    refine S1080.vcall 25 (hb hby own_d_prog_22_method_3_code_22) (by rw [hml]; rfl) (Tw hw 47 rfl) (Tw hw 48 rfl) (Tw hw 50 rfl) (Tw hw 49 rfl) (nfSel (Tw hw 50 rfl)) (by decide) F.exa [(.int (1 : Int32))] [] (payChA (W := 0) hw cm us sf S1080.old F (i := 1) (Nle rfl) rfl (by decide) (by decide)) (lenOf own_pd_35 rfl) rfl (Nle rfl) (by decide) (by decide) Wrs.nil ?_
    intro v1084 T1085 h1086 L1087 S1088 q1089 K1090
    obtain ⟨rfl, e_q1089⟩ := q1089
    obtain rfl := e_q1089.symm
    show Go p e below _ T1085 (mkF m 25 #[.val (.ref x), .val (.int (1 : Int32)), .val (.int (1 : Int32))] [(.int c1)])
    refine S1088.bipush 27 (57 : Int32) (hb hby own_d_prog_22_method_3_code_25) ?_
    by_cases hb1091 : (57 : Int32) < c1
    · skip
      refine S1088.icmpY 36 (hb hby own_d_prog_22_method_3_code_27) (qGtT hb1091) ?_
      refine S1088.iloadN 37 (hb hby own_d_prog_22_method_3_code_36) rfl ?_
      exact S1088.retI (hb hby own_d_prog_22_method_3_code_37) hret (by decide) (by decide) ⟨Or.inl (⟨rfl, (fun q => q.2 hb1091)⟩), rfl⟩
    · skip
      refine S1088.icmpN 30 (hb hby own_d_prog_22_method_3_code_27) (qGtF hb1091) ?_
      refine S1088.iinc 33 #[.val (.ref x), .val (.int (1 : Int32)), .val (.int ((1 : Int32) + (1 : Int32)))] (hb hby own_d_prog_22_method_3_code_30) rfl rfl ?_
      rw [show ((1 : Int32) + (1 : Int32)) = (2 : Int32) from by decide]
      refine S1088.goto 2 (hb hby own_d_prog_22_method_3_code_33) ?_
      refine S1088.iloadN 3 (hb hby own_d_prog_22_method_3_code_2) rfl ?_
      refine S1088.aloadN 4 (hb hby own_d_prog_22_method_3_code_3) rfl rfl ?_
      refine S1088.vcall 7 (hb hby own_d_prog_22_method_3_code_4) (by rw [hml]; rfl) (Tw hw 37 rfl) (Tw hw 38 rfl) (Tw hw 40 rfl) (Tw hw 39 rfl) (nfSel (Tw hw 40 rfl)) (by decide) F.exa [] [(.int (2 : Int32))] (payLenA (W := 1) hw (Tw hw 5 rfl) cm S1088.old F (by decide) (by decide)) (lenOf own_pd_33 rfl) rfl (Nle rfl) (by decide) (by decide) Wrs.nil ?_
      intro v1092 T1093 h1094 L1095 S1096 q1097 K1098
      obtain ⟨rfl, e_q1097⟩ := q1097
      obtain rfl := e_q1097.symm
      show Go p e below _ T1093 (mkF m 7 #[.val (.ref x), .val (.int (1 : Int32)), .val (.int (2 : Int32))] [(.int (2 : Int32)), (.int (2 : Int32))])
      refine S1096.icmpY 36 (hb hby own_d_prog_22_method_3_code_7) (qGeT (by decide)) ?_
      refine S1096.iloadN 37 (hb hby own_d_prog_22_method_3_code_36) rfl ?_
      exact S1096.retI (hb hby own_d_prog_22_method_3_code_37) hret (by decide) (by decide) ⟨Or.inr (⟨rfl, ⟨hb1083, hb1091⟩⟩), rfl⟩


set_option maxRecDepth 65536 in
set_option maxHeartbeats 4000000 in
theorem own_deG_3 (l : Launch) (Z : State) (a0 : Array Value) (hw : ∀ d ∈ tables_1, d.before a0 Z = true) (cm : Com Z) (us : U16s Z) (sf : Sfo Z) (h0 : Heap) (n0 : Nat) (O : Old Z n0 h0) (x : Addr) (t : Addr) (c0 : Int32) (c1 : Int32) (c2 : Int32) (fm : Int32) (F : StrA Z h0 x t ([c0, c1, c2] : List Int32)) (hg : ¬ fm < (3 : Int32)) :
    Con l Z n0 (⟨"com/example/floatbook/floatbook/core/PlainDecimal", "digitsEnd", "(Ljava/lang/String;I)I"⟩ : MethodName) prog_22_method_3_code 3 (some .int) [] ({ frames := 5, cells := 0, slots := 0, locals := 110 } : Room) #[(.ref x), (.int fm)] h0 [] (fun v h' => v = some (.int fm) ∧ h' = h0) := by
  refine Con.of a0 (plainFor_of_name own_pn_34) O (fun _ q => nomatch q) [] (fun _ q => nomatch q) ?_
  intro p e s m below meth cdX T S hby hml hret hnm
  refine Go.cast (own_ef_32 m x fm) ?_
  refine S.iloadN 1 (hb hby own_d_prog_22_method_3_code_0) rfl ?_
  refine S.istoreN 2 #[.val (.ref x), .val (.int fm), .val (.int fm)] (hb hby own_d_prog_22_method_3_code_1) rfl ?_
  refine S.iloadN 3 (hb hby own_d_prog_22_method_3_code_2) rfl ?_
  refine S.aloadN 4 (hb hby own_d_prog_22_method_3_code_3) rfl rfl ?_
  refine S.vcall 7 (hb hby own_d_prog_22_method_3_code_4) (by rw [hml]; rfl) (Tw hw 37 rfl) (Tw hw 38 rfl) (Tw hw 40 rfl) (Tw hw 39 rfl) (nfSel (Tw hw 40 rfl)) (by decide) F.exa [] [(.int fm)] (payLenA (W := 1) hw (Tw hw 5 rfl) cm S.old F (by decide) (by decide)) (lenOf own_pd_33 rfl) rfl (Nle rfl) (by decide) (by decide) Wrs.nil ?_
  intro v1099 T1100 h1101 L1102 S1103 q1104 K1105
  obtain ⟨rfl, e_q1104⟩ := q1104
  obtain rfl := e_q1104.symm
  show Go p e below _ T1100 (mkF m 7 #[.val (.ref x), .val (.int fm), .val (.int fm)] [(.int (3 : Int32)), (.int fm)])
  refine S1103.icmpY 36 (hb hby own_d_prog_22_method_3_code_7) (qGeT hg) ?_
  refine S1103.iloadN 37 (hb hby own_d_prog_22_method_3_code_36) rfl ?_
  exact S1103.retI (hb hby own_d_prog_22_method_3_code_37) hret (by decide) (by decide) ⟨rfl, rfl⟩


set_option maxRecDepth 65536 in
set_option maxHeartbeats 4000000 in
theorem own_de_3_0 (l : Launch) (Z : State) (a0 : Array Value) (hw : ∀ d ∈ tables_1, d.before a0 Z = true) (cm : Com Z) (us : U16s Z) (sf : Sfo Z) (h0 : Heap) (n0 : Nat) (O : Old Z n0 h0) (x : Addr) (t : Addr) (c0 : Int32) (c1 : Int32) (c2 : Int32) (F : StrA Z h0 x t ([c0, c1, c2] : List Int32)) :
    Con l Z n0 (⟨"com/example/floatbook/floatbook/core/PlainDecimal", "digitsEnd", "(Ljava/lang/String;I)I"⟩ : MethodName) prog_22_method_3_code 3 (some .int) [] ({ frames := 5, cells := 0, slots := 0, locals := 110 } : Room) #[(.ref x), (.int (0 : Int32))] h0 [] (fun v h' => ((v = some (.int 0) ∧ ¬ Dg c0) ∨ (v = some (.int 1) ∧ Dg c0 ∧ ¬ Dg c1) ∨ (v = some (.int 2) ∧ Dg c0 ∧ Dg c1 ∧ ¬ Dg c2) ∨ (v = some (.int 3) ∧ Dg c0 ∧ Dg c1 ∧ Dg c2)) ∧ h' = h0) := by
  refine Con.of a0 (plainFor_of_name own_pn_34) O (fun _ q => nomatch q) [] (fun _ q => nomatch q) ?_
  intro p e s m below meth cdX T S hby hml hret hnm
  refine Go.cast (own_ef_32 m x (0 : Int32)) ?_
  refine S.iloadN 1 (hb hby own_d_prog_22_method_3_code_0) rfl ?_
  refine S.istoreN 2 #[.val (.ref x), .val (.int (0 : Int32)), .val (.int (0 : Int32))] (hb hby own_d_prog_22_method_3_code_1) rfl ?_
  refine S.iloadN 3 (hb hby own_d_prog_22_method_3_code_2) rfl ?_
  refine S.aloadN 4 (hb hby own_d_prog_22_method_3_code_3) rfl rfl ?_
  refine S.vcall 7 (hb hby own_d_prog_22_method_3_code_4) (by rw [hml]; rfl) (Tw hw 37 rfl) (Tw hw 38 rfl) (Tw hw 40 rfl) (Tw hw 39 rfl) (nfSel (Tw hw 40 rfl)) (by decide) F.exa [] [(.int (0 : Int32))] (payLenA (W := 1) hw (Tw hw 5 rfl) cm S.old F (by decide) (by decide)) (lenOf own_pd_33 rfl) rfl (Nle rfl) (by decide) (by decide) Wrs.nil ?_
  intro v1106 T1107 h1108 L1109 S1110 q1111 K1112
  obtain ⟨rfl, e_q1111⟩ := q1111
  obtain rfl := e_q1111.symm
  show Go p e below _ T1107 (mkF m 7 #[.val (.ref x), .val (.int (0 : Int32)), .val (.int (0 : Int32))] [(.int (3 : Int32)), (.int (0 : Int32))])
  refine S1110.icmpN 10 (hb hby own_d_prog_22_method_3_code_7) (qGeF (by decide)) ?_
  refine S1110.aloadN 11 (hb hby own_d_prog_22_method_3_code_10) rfl rfl ?_
  refine S1110.iloadN 12 (hb hby own_d_prog_22_method_3_code_11) rfl ?_
  refine S1110.vcall 15 (hb hby own_d_prog_22_method_3_code_12) (by rw [hml]; rfl) (Tw hw 47 rfl) (Tw hw 48 rfl) (Tw hw 50 rfl) (Tw hw 49 rfl) (nfSel (Tw hw 50 rfl)) (by decide) F.exa [(.int (0 : Int32))] [] (payChA (W := 0) hw cm us sf S1110.old F (i := 0) (Nle rfl) rfl (by decide) (by decide)) (lenOf own_pd_35 rfl) rfl (Nle rfl) (by decide) (by decide) Wrs.nil ?_
  intro v1113 T1114 h1115 L1116 S1117 q1118 K1119
  obtain ⟨rfl, e_q1118⟩ := q1118
  obtain rfl := e_q1118.symm
  show Go p e below _ T1114 (mkF m 15 #[.val (.ref x), .val (.int (0 : Int32)), .val (.int (0 : Int32))] [(.int c0)])
  refine S1117.bipush 17 (48 : Int32) (hb hby own_d_prog_22_method_3_code_15) ?_
  by_cases hb1120 : c0 < (48 : Int32)
  · skip
    refine S1117.icmpY 36 (hb hby own_d_prog_22_method_3_code_17) (qLtT hb1120) ?_
    refine S1117.iloadN 37 (hb hby own_d_prog_22_method_3_code_36) rfl ?_
    exact S1117.retI (hb hby own_d_prog_22_method_3_code_37) hret (by decide) (by decide) ⟨Or.inl (⟨rfl, (fun q => q.1 hb1120)⟩), rfl⟩
  · skip
    refine S1117.icmpN 20 (hb hby own_d_prog_22_method_3_code_17) (qLtF hb1120) ?_
    refine S1117.aloadN 21 (hb hby own_d_prog_22_method_3_code_20) rfl rfl ?_
    refine S1117.iloadN 22 (hb hby own_d_prog_22_method_3_code_21) rfl ?_
    refine S1117.vcall 25 (hb hby own_d_prog_22_method_3_code_22) (by rw [hml]; rfl) (Tw hw 47 rfl) (Tw hw 48 rfl) (Tw hw 50 rfl) (Tw hw 49 rfl) (nfSel (Tw hw 50 rfl)) (by decide) F.exa [(.int (0 : Int32))] [] (payChA (W := 0) hw cm us sf S1117.old F (i := 0) (Nle rfl) rfl (by decide) (by decide)) (lenOf own_pd_35 rfl) rfl (Nle rfl) (by decide) (by decide) Wrs.nil ?_
    intro v1121 T1122 h1123 L1124 S1125 q1126 K1127
    obtain ⟨rfl, e_q1126⟩ := q1126
    obtain rfl := e_q1126.symm
    show Go p e below _ T1122 (mkF m 25 #[.val (.ref x), .val (.int (0 : Int32)), .val (.int (0 : Int32))] [(.int c0)])
    refine S1125.bipush 27 (57 : Int32) (hb hby own_d_prog_22_method_3_code_25) ?_
    by_cases hb1128 : (57 : Int32) < c0
    · skip
      refine S1125.icmpY 36 (hb hby own_d_prog_22_method_3_code_27) (qGtT hb1128) ?_
      refine S1125.iloadN 37 (hb hby own_d_prog_22_method_3_code_36) rfl ?_
      exact S1125.retI (hb hby own_d_prog_22_method_3_code_37) hret (by decide) (by decide) ⟨Or.inl (⟨rfl, (fun q => q.2 hb1128)⟩), rfl⟩
    · skip
      refine S1125.icmpN 30 (hb hby own_d_prog_22_method_3_code_27) (qGtF hb1128) ?_
      refine S1125.iinc 33 #[.val (.ref x), .val (.int (0 : Int32)), .val (.int ((0 : Int32) + (1 : Int32)))] (hb hby own_d_prog_22_method_3_code_30) rfl rfl ?_
      rw [show ((0 : Int32) + (1 : Int32)) = (1 : Int32) from by decide]
      refine S1125.goto 2 (hb hby own_d_prog_22_method_3_code_33) ?_
      refine S1125.iloadN 3 (hb hby own_d_prog_22_method_3_code_2) rfl ?_
      refine S1125.aloadN 4 (hb hby own_d_prog_22_method_3_code_3) rfl rfl ?_
      refine S1125.vcall 7 (hb hby own_d_prog_22_method_3_code_4) (by rw [hml]; rfl) (Tw hw 37 rfl) (Tw hw 38 rfl) (Tw hw 40 rfl) (Tw hw 39 rfl) (nfSel (Tw hw 40 rfl)) (by decide) F.exa [] [(.int (1 : Int32))] (payLenA (W := 1) hw (Tw hw 5 rfl) cm S1125.old F (by decide) (by decide)) (lenOf own_pd_33 rfl) rfl (Nle rfl) (by decide) (by decide) Wrs.nil ?_
      intro v1129 T1130 h1131 L1132 S1133 q1134 K1135
      obtain ⟨rfl, e_q1134⟩ := q1134
      obtain rfl := e_q1134.symm
      show Go p e below _ T1130 (mkF m 7 #[.val (.ref x), .val (.int (0 : Int32)), .val (.int (1 : Int32))] [(.int (3 : Int32)), (.int (1 : Int32))])
      refine S1133.icmpN 10 (hb hby own_d_prog_22_method_3_code_7) (qGeF (by decide)) ?_
      refine S1133.aloadN 11 (hb hby own_d_prog_22_method_3_code_10) rfl rfl ?_
      refine S1133.iloadN 12 (hb hby own_d_prog_22_method_3_code_11) rfl ?_
      refine S1133.vcall 15 (hb hby own_d_prog_22_method_3_code_12) (by rw [hml]; rfl) (Tw hw 47 rfl) (Tw hw 48 rfl) (Tw hw 50 rfl) (Tw hw 49 rfl) (nfSel (Tw hw 50 rfl)) (by decide) F.exa [(.int (1 : Int32))] [] (payChA (W := 0) hw cm us sf S1133.old F (i := 1) (Nle rfl) rfl (by decide) (by decide)) (lenOf own_pd_35 rfl) rfl (Nle rfl) (by decide) (by decide) Wrs.nil ?_
      intro v1136 T1137 h1138 L1139 S1140 q1141 K1142
      obtain ⟨rfl, e_q1141⟩ := q1141
      obtain rfl := e_q1141.symm
      show Go p e below _ T1137 (mkF m 15 #[.val (.ref x), .val (.int (0 : Int32)), .val (.int (1 : Int32))] [(.int c1)])
      refine S1140.bipush 17 (48 : Int32) (hb hby own_d_prog_22_method_3_code_15) ?_
      by_cases hb1143 : c1 < (48 : Int32)
      · skip
        refine S1140.icmpY 36 (hb hby own_d_prog_22_method_3_code_17) (qLtT hb1143) ?_
        refine S1140.iloadN 37 (hb hby own_d_prog_22_method_3_code_36) rfl ?_
        exact S1140.retI (hb hby own_d_prog_22_method_3_code_37) hret (by decide) (by decide) ⟨Or.inr (Or.inl (⟨rfl, ⟨hb1120, hb1128⟩, (fun q => q.1 hb1143)⟩)), rfl⟩
      · skip
        refine S1140.icmpN 20 (hb hby own_d_prog_22_method_3_code_17) (qLtF hb1143) ?_
        refine S1140.aloadN 21 (hb hby own_d_prog_22_method_3_code_20) rfl rfl ?_
        refine S1140.iloadN 22 (hb hby own_d_prog_22_method_3_code_21) rfl ?_
        refine S1140.vcall 25 (hb hby own_d_prog_22_method_3_code_22) (by rw [hml]; rfl) (Tw hw 47 rfl) (Tw hw 48 rfl) (Tw hw 50 rfl) (Tw hw 49 rfl) (nfSel (Tw hw 50 rfl)) (by decide) F.exa [(.int (1 : Int32))] [] (payChA (W := 0) hw cm us sf S1140.old F (i := 1) (Nle rfl) rfl (by decide) (by decide)) (lenOf own_pd_35 rfl) rfl (Nle rfl) (by decide) (by decide) Wrs.nil ?_
        intro v1144 T1145 h1146 L1147 S1148 q1149 K1150
        obtain ⟨rfl, e_q1149⟩ := q1149
        obtain rfl := e_q1149.symm
        show Go p e below _ T1145 (mkF m 25 #[.val (.ref x), .val (.int (0 : Int32)), .val (.int (1 : Int32))] [(.int c1)])
        refine S1148.bipush 27 (57 : Int32) (hb hby own_d_prog_22_method_3_code_25) ?_
        by_cases hb1151 : (57 : Int32) < c1
        · skip
          refine S1148.icmpY 36 (hb hby own_d_prog_22_method_3_code_27) (qGtT hb1151) ?_
          refine S1148.iloadN 37 (hb hby own_d_prog_22_method_3_code_36) rfl ?_
          exact S1148.retI (hb hby own_d_prog_22_method_3_code_37) hret (by decide) (by decide) ⟨Or.inr (Or.inl (⟨rfl, ⟨hb1120, hb1128⟩, (fun q => q.2 hb1151)⟩)), rfl⟩
        · skip
          refine S1148.icmpN 30 (hb hby own_d_prog_22_method_3_code_27) (qGtF hb1151) ?_
          refine S1148.iinc 33 #[.val (.ref x), .val (.int (0 : Int32)), .val (.int ((1 : Int32) + (1 : Int32)))] (hb hby own_d_prog_22_method_3_code_30) rfl rfl ?_
          rw [show ((1 : Int32) + (1 : Int32)) = (2 : Int32) from by decide]
          refine S1148.goto 2 (hb hby own_d_prog_22_method_3_code_33) ?_
          refine S1148.iloadN 3 (hb hby own_d_prog_22_method_3_code_2) rfl ?_
          refine S1148.aloadN 4 (hb hby own_d_prog_22_method_3_code_3) rfl rfl ?_
          refine S1148.vcall 7 (hb hby own_d_prog_22_method_3_code_4) (by rw [hml]; rfl) (Tw hw 37 rfl) (Tw hw 38 rfl) (Tw hw 40 rfl) (Tw hw 39 rfl) (nfSel (Tw hw 40 rfl)) (by decide) F.exa [] [(.int (2 : Int32))] (payLenA (W := 1) hw (Tw hw 5 rfl) cm S1148.old F (by decide) (by decide)) (lenOf own_pd_33 rfl) rfl (Nle rfl) (by decide) (by decide) Wrs.nil ?_
          intro v1152 T1153 h1154 L1155 S1156 q1157 K1158
          obtain ⟨rfl, e_q1157⟩ := q1157
          obtain rfl := e_q1157.symm
          show Go p e below _ T1153 (mkF m 7 #[.val (.ref x), .val (.int (0 : Int32)), .val (.int (2 : Int32))] [(.int (3 : Int32)), (.int (2 : Int32))])
          refine S1156.icmpN 10 (hb hby own_d_prog_22_method_3_code_7) (qGeF (by decide)) ?_
          refine S1156.aloadN 11 (hb hby own_d_prog_22_method_3_code_10) rfl rfl ?_
          refine S1156.iloadN 12 (hb hby own_d_prog_22_method_3_code_11) rfl ?_
          refine S1156.vcall 15 (hb hby own_d_prog_22_method_3_code_12) (by rw [hml]; rfl) (Tw hw 47 rfl) (Tw hw 48 rfl) (Tw hw 50 rfl) (Tw hw 49 rfl) (nfSel (Tw hw 50 rfl)) (by decide) F.exa [(.int (2 : Int32))] [] (payChA (W := 0) hw cm us sf S1156.old F (i := 2) (Nle rfl) rfl (by decide) (by decide)) (lenOf own_pd_35 rfl) rfl (Nle rfl) (by decide) (by decide) Wrs.nil ?_
          intro v1159 T1160 h1161 L1162 S1163 q1164 K1165
          obtain ⟨rfl, e_q1164⟩ := q1164
          obtain rfl := e_q1164.symm
          show Go p e below _ T1160 (mkF m 15 #[.val (.ref x), .val (.int (0 : Int32)), .val (.int (2 : Int32))] [(.int c2)])
          refine S1163.bipush 17 (48 : Int32) (hb hby own_d_prog_22_method_3_code_15) ?_
          by_cases hb1166 : c2 < (48 : Int32)
          · skip
            refine S1163.icmpY 36 (hb hby own_d_prog_22_method_3_code_17) (qLtT hb1166) ?_
            refine S1163.iloadN 37 (hb hby own_d_prog_22_method_3_code_36) rfl ?_
            exact S1163.retI (hb hby own_d_prog_22_method_3_code_37) hret (by decide) (by decide) ⟨Or.inr (Or.inr (Or.inl (⟨rfl, ⟨hb1120, hb1128⟩, ⟨hb1143, hb1151⟩, (fun q => q.1 hb1166)⟩))), rfl⟩
          · skip
            refine S1163.icmpN 20 (hb hby own_d_prog_22_method_3_code_17) (qLtF hb1166) ?_
            refine S1163.aloadN 21 (hb hby own_d_prog_22_method_3_code_20) rfl rfl ?_
            refine S1163.iloadN 22 (hb hby own_d_prog_22_method_3_code_21) rfl ?_
            refine S1163.vcall 25 (hb hby own_d_prog_22_method_3_code_22) (by rw [hml]; rfl) (Tw hw 47 rfl) (Tw hw 48 rfl) (Tw hw 50 rfl) (Tw hw 49 rfl) (nfSel (Tw hw 50 rfl)) (by decide) F.exa [(.int (2 : Int32))] [] (payChA (W := 0) hw cm us sf S1163.old F (i := 2) (Nle rfl) rfl (by decide) (by decide)) (lenOf own_pd_35 rfl) rfl (Nle rfl) (by decide) (by decide) Wrs.nil ?_
            intro v1167 T1168 h1169 L1170 S1171 q1172 K1173
            obtain ⟨rfl, e_q1172⟩ := q1172
            obtain rfl := e_q1172.symm
            show Go p e below _ T1168 (mkF m 25 #[.val (.ref x), .val (.int (0 : Int32)), .val (.int (2 : Int32))] [(.int c2)])
            refine S1171.bipush 27 (57 : Int32) (hb hby own_d_prog_22_method_3_code_25) ?_
            by_cases hb1174 : (57 : Int32) < c2
            · skip
              refine S1171.icmpY 36 (hb hby own_d_prog_22_method_3_code_27) (qGtT hb1174) ?_
              refine S1171.iloadN 37 (hb hby own_d_prog_22_method_3_code_36) rfl ?_
              exact S1171.retI (hb hby own_d_prog_22_method_3_code_37) hret (by decide) (by decide) ⟨Or.inr (Or.inr (Or.inl (⟨rfl, ⟨hb1120, hb1128⟩, ⟨hb1143, hb1151⟩, (fun q => q.2 hb1174)⟩))), rfl⟩
            · skip
              refine S1171.icmpN 30 (hb hby own_d_prog_22_method_3_code_27) (qGtF hb1174) ?_
              refine S1171.iinc 33 #[.val (.ref x), .val (.int (0 : Int32)), .val (.int ((2 : Int32) + (1 : Int32)))] (hb hby own_d_prog_22_method_3_code_30) rfl rfl ?_
              rw [show ((2 : Int32) + (1 : Int32)) = (3 : Int32) from by decide]
              refine S1171.goto 2 (hb hby own_d_prog_22_method_3_code_33) ?_
              refine S1171.iloadN 3 (hb hby own_d_prog_22_method_3_code_2) rfl ?_
              refine S1171.aloadN 4 (hb hby own_d_prog_22_method_3_code_3) rfl rfl ?_
              refine S1171.vcall 7 (hb hby own_d_prog_22_method_3_code_4) (by rw [hml]; rfl) (Tw hw 37 rfl) (Tw hw 38 rfl) (Tw hw 40 rfl) (Tw hw 39 rfl) (nfSel (Tw hw 40 rfl)) (by decide) F.exa [] [(.int (3 : Int32))] (payLenA (W := 1) hw (Tw hw 5 rfl) cm S1171.old F (by decide) (by decide)) (lenOf own_pd_33 rfl) rfl (Nle rfl) (by decide) (by decide) Wrs.nil ?_
              intro v1175 T1176 h1177 L1178 S1179 q1180 K1181
              obtain ⟨rfl, e_q1180⟩ := q1180
              obtain rfl := e_q1180.symm
              show Go p e below _ T1176 (mkF m 7 #[.val (.ref x), .val (.int (0 : Int32)), .val (.int (3 : Int32))] [(.int (3 : Int32)), (.int (3 : Int32))])
              refine S1179.icmpY 36 (hb hby own_d_prog_22_method_3_code_7) (qGeT (by decide)) ?_
              refine S1179.iloadN 37 (hb hby own_d_prog_22_method_3_code_36) rfl ?_
              exact S1179.retI (hb hby own_d_prog_22_method_3_code_37) hret (by decide) (by decide) ⟨Or.inr (Or.inr (Or.inr (⟨rfl, ⟨hb1120, hb1128⟩, ⟨hb1143, hb1151⟩, ⟨hb1166, hb1174⟩⟩))), rfl⟩


set_option maxRecDepth 65536 in
set_option maxHeartbeats 4000000 in
theorem own_de_3_1 (l : Launch) (Z : State) (a0 : Array Value) (hw : ∀ d ∈ tables_1, d.before a0 Z = true) (cm : Com Z) (us : U16s Z) (sf : Sfo Z) (h0 : Heap) (n0 : Nat) (O : Old Z n0 h0) (x : Addr) (t : Addr) (c0 : Int32) (c1 : Int32) (c2 : Int32) (F : StrA Z h0 x t ([c0, c1, c2] : List Int32)) :
    Con l Z n0 (⟨"com/example/floatbook/floatbook/core/PlainDecimal", "digitsEnd", "(Ljava/lang/String;I)I"⟩ : MethodName) prog_22_method_3_code 3 (some .int) [] ({ frames := 5, cells := 0, slots := 0, locals := 110 } : Room) #[(.ref x), (.int (1 : Int32))] h0 [] (fun v h' => ((v = some (.int 1) ∧ ¬ Dg c1) ∨ (v = some (.int 2) ∧ Dg c1 ∧ ¬ Dg c2) ∨ (v = some (.int 3) ∧ Dg c1 ∧ Dg c2)) ∧ h' = h0) := by
  refine Con.of a0 (plainFor_of_name own_pn_34) O (fun _ q => nomatch q) [] (fun _ q => nomatch q) ?_
  intro p e s m below meth cdX T S hby hml hret hnm
  refine Go.cast (own_ef_32 m x (1 : Int32)) ?_
  refine S.iloadN 1 (hb hby own_d_prog_22_method_3_code_0) rfl ?_
  refine S.istoreN 2 #[.val (.ref x), .val (.int (1 : Int32)), .val (.int (1 : Int32))] (hb hby own_d_prog_22_method_3_code_1) rfl ?_
  refine S.iloadN 3 (hb hby own_d_prog_22_method_3_code_2) rfl ?_
  refine S.aloadN 4 (hb hby own_d_prog_22_method_3_code_3) rfl rfl ?_
  refine S.vcall 7 (hb hby own_d_prog_22_method_3_code_4) (by rw [hml]; rfl) (Tw hw 37 rfl) (Tw hw 38 rfl) (Tw hw 40 rfl) (Tw hw 39 rfl) (nfSel (Tw hw 40 rfl)) (by decide) F.exa [] [(.int (1 : Int32))] (payLenA (W := 1) hw (Tw hw 5 rfl) cm S.old F (by decide) (by decide)) (lenOf own_pd_33 rfl) rfl (Nle rfl) (by decide) (by decide) Wrs.nil ?_
  intro v1182 T1183 h1184 L1185 S1186 q1187 K1188
  obtain ⟨rfl, e_q1187⟩ := q1187
  obtain rfl := e_q1187.symm
  show Go p e below _ T1183 (mkF m 7 #[.val (.ref x), .val (.int (1 : Int32)), .val (.int (1 : Int32))] [(.int (3 : Int32)), (.int (1 : Int32))])
  refine S1186.icmpN 10 (hb hby own_d_prog_22_method_3_code_7) (qGeF (by decide)) ?_
  refine S1186.aloadN 11 (hb hby own_d_prog_22_method_3_code_10) rfl rfl ?_
  refine S1186.iloadN 12 (hb hby own_d_prog_22_method_3_code_11) rfl ?_
  refine S1186.vcall 15 (hb hby own_d_prog_22_method_3_code_12) (by rw [hml]; rfl) (Tw hw 47 rfl) (Tw hw 48 rfl) (Tw hw 50 rfl) (Tw hw 49 rfl) (nfSel (Tw hw 50 rfl)) (by decide) F.exa [(.int (1 : Int32))] [] (payChA (W := 0) hw cm us sf S1186.old F (i := 1) (Nle rfl) rfl (by decide) (by decide)) (lenOf own_pd_35 rfl) rfl (Nle rfl) (by decide) (by decide) Wrs.nil ?_
  intro v1189 T1190 h1191 L1192 S1193 q1194 K1195
  obtain ⟨rfl, e_q1194⟩ := q1194
  obtain rfl := e_q1194.symm
  show Go p e below _ T1190 (mkF m 15 #[.val (.ref x), .val (.int (1 : Int32)), .val (.int (1 : Int32))] [(.int c1)])
  refine S1193.bipush 17 (48 : Int32) (hb hby own_d_prog_22_method_3_code_15) ?_
  by_cases hb1196 : c1 < (48 : Int32)
  · skip
    refine S1193.icmpY 36 (hb hby own_d_prog_22_method_3_code_17) (qLtT hb1196) ?_
    refine S1193.iloadN 37 (hb hby own_d_prog_22_method_3_code_36) rfl ?_
    exact S1193.retI (hb hby own_d_prog_22_method_3_code_37) hret (by decide) (by decide) ⟨Or.inl (⟨rfl, (fun q => q.1 hb1196)⟩), rfl⟩
  · skip
    refine S1193.icmpN 20 (hb hby own_d_prog_22_method_3_code_17) (qLtF hb1196) ?_
    refine S1193.aloadN 21 (hb hby own_d_prog_22_method_3_code_20) rfl rfl ?_
    refine S1193.iloadN 22 (hb hby own_d_prog_22_method_3_code_21) rfl ?_
    refine S1193.vcall 25 (hb hby own_d_prog_22_method_3_code_22) (by rw [hml]; rfl) (Tw hw 47 rfl) (Tw hw 48 rfl) (Tw hw 50 rfl) (Tw hw 49 rfl) (nfSel (Tw hw 50 rfl)) (by decide) F.exa [(.int (1 : Int32))] [] (payChA (W := 0) hw cm us sf S1193.old F (i := 1) (Nle rfl) rfl (by decide) (by decide)) (lenOf own_pd_35 rfl) rfl (Nle rfl) (by decide) (by decide) Wrs.nil ?_
    intro v1197 T1198 h1199 L1200 S1201 q1202 K1203
    obtain ⟨rfl, e_q1202⟩ := q1202
    obtain rfl := e_q1202.symm
    show Go p e below _ T1198 (mkF m 25 #[.val (.ref x), .val (.int (1 : Int32)), .val (.int (1 : Int32))] [(.int c1)])
    refine S1201.bipush 27 (57 : Int32) (hb hby own_d_prog_22_method_3_code_25) ?_
    by_cases hb1204 : (57 : Int32) < c1
    · skip
      refine S1201.icmpY 36 (hb hby own_d_prog_22_method_3_code_27) (qGtT hb1204) ?_
      refine S1201.iloadN 37 (hb hby own_d_prog_22_method_3_code_36) rfl ?_
      exact S1201.retI (hb hby own_d_prog_22_method_3_code_37) hret (by decide) (by decide) ⟨Or.inl (⟨rfl, (fun q => q.2 hb1204)⟩), rfl⟩
    · skip
      refine S1201.icmpN 30 (hb hby own_d_prog_22_method_3_code_27) (qGtF hb1204) ?_
      refine S1201.iinc 33 #[.val (.ref x), .val (.int (1 : Int32)), .val (.int ((1 : Int32) + (1 : Int32)))] (hb hby own_d_prog_22_method_3_code_30) rfl rfl ?_
      rw [show ((1 : Int32) + (1 : Int32)) = (2 : Int32) from by decide]
      refine S1201.goto 2 (hb hby own_d_prog_22_method_3_code_33) ?_
      refine S1201.iloadN 3 (hb hby own_d_prog_22_method_3_code_2) rfl ?_
      refine S1201.aloadN 4 (hb hby own_d_prog_22_method_3_code_3) rfl rfl ?_
      refine S1201.vcall 7 (hb hby own_d_prog_22_method_3_code_4) (by rw [hml]; rfl) (Tw hw 37 rfl) (Tw hw 38 rfl) (Tw hw 40 rfl) (Tw hw 39 rfl) (nfSel (Tw hw 40 rfl)) (by decide) F.exa [] [(.int (2 : Int32))] (payLenA (W := 1) hw (Tw hw 5 rfl) cm S1201.old F (by decide) (by decide)) (lenOf own_pd_33 rfl) rfl (Nle rfl) (by decide) (by decide) Wrs.nil ?_
      intro v1205 T1206 h1207 L1208 S1209 q1210 K1211
      obtain ⟨rfl, e_q1210⟩ := q1210
      obtain rfl := e_q1210.symm
      show Go p e below _ T1206 (mkF m 7 #[.val (.ref x), .val (.int (1 : Int32)), .val (.int (2 : Int32))] [(.int (3 : Int32)), (.int (2 : Int32))])
      refine S1209.icmpN 10 (hb hby own_d_prog_22_method_3_code_7) (qGeF (by decide)) ?_
      refine S1209.aloadN 11 (hb hby own_d_prog_22_method_3_code_10) rfl rfl ?_
      refine S1209.iloadN 12 (hb hby own_d_prog_22_method_3_code_11) rfl ?_
      refine S1209.vcall 15 (hb hby own_d_prog_22_method_3_code_12) (by rw [hml]; rfl) (Tw hw 47 rfl) (Tw hw 48 rfl) (Tw hw 50 rfl) (Tw hw 49 rfl) (nfSel (Tw hw 50 rfl)) (by decide) F.exa [(.int (2 : Int32))] [] (payChA (W := 0) hw cm us sf S1209.old F (i := 2) (Nle rfl) rfl (by decide) (by decide)) (lenOf own_pd_35 rfl) rfl (Nle rfl) (by decide) (by decide) Wrs.nil ?_
      intro v1212 T1213 h1214 L1215 S1216 q1217 K1218
      obtain ⟨rfl, e_q1217⟩ := q1217
      obtain rfl := e_q1217.symm
      show Go p e below _ T1213 (mkF m 15 #[.val (.ref x), .val (.int (1 : Int32)), .val (.int (2 : Int32))] [(.int c2)])
      refine S1216.bipush 17 (48 : Int32) (hb hby own_d_prog_22_method_3_code_15) ?_
      by_cases hb1219 : c2 < (48 : Int32)
      · skip
        refine S1216.icmpY 36 (hb hby own_d_prog_22_method_3_code_17) (qLtT hb1219) ?_
        refine S1216.iloadN 37 (hb hby own_d_prog_22_method_3_code_36) rfl ?_
        exact S1216.retI (hb hby own_d_prog_22_method_3_code_37) hret (by decide) (by decide) ⟨Or.inr (Or.inl (⟨rfl, ⟨hb1196, hb1204⟩, (fun q => q.1 hb1219)⟩)), rfl⟩
      · skip
        refine S1216.icmpN 20 (hb hby own_d_prog_22_method_3_code_17) (qLtF hb1219) ?_
        refine S1216.aloadN 21 (hb hby own_d_prog_22_method_3_code_20) rfl rfl ?_
        refine S1216.iloadN 22 (hb hby own_d_prog_22_method_3_code_21) rfl ?_
        refine S1216.vcall 25 (hb hby own_d_prog_22_method_3_code_22) (by rw [hml]; rfl) (Tw hw 47 rfl) (Tw hw 48 rfl) (Tw hw 50 rfl) (Tw hw 49 rfl) (nfSel (Tw hw 50 rfl)) (by decide) F.exa [(.int (2 : Int32))] [] (payChA (W := 0) hw cm us sf S1216.old F (i := 2) (Nle rfl) rfl (by decide) (by decide)) (lenOf own_pd_35 rfl) rfl (Nle rfl) (by decide) (by decide) Wrs.nil ?_
        intro v1220 T1221 h1222 L1223 S1224 q1225 K1226
        obtain ⟨rfl, e_q1225⟩ := q1225
        obtain rfl := e_q1225.symm
        show Go p e below _ T1221 (mkF m 25 #[.val (.ref x), .val (.int (1 : Int32)), .val (.int (2 : Int32))] [(.int c2)])
        refine S1224.bipush 27 (57 : Int32) (hb hby own_d_prog_22_method_3_code_25) ?_
        by_cases hb1227 : (57 : Int32) < c2
        · skip
          refine S1224.icmpY 36 (hb hby own_d_prog_22_method_3_code_27) (qGtT hb1227) ?_
          refine S1224.iloadN 37 (hb hby own_d_prog_22_method_3_code_36) rfl ?_
          exact S1224.retI (hb hby own_d_prog_22_method_3_code_37) hret (by decide) (by decide) ⟨Or.inr (Or.inl (⟨rfl, ⟨hb1196, hb1204⟩, (fun q => q.2 hb1227)⟩)), rfl⟩
        · skip
          refine S1224.icmpN 30 (hb hby own_d_prog_22_method_3_code_27) (qGtF hb1227) ?_
          refine S1224.iinc 33 #[.val (.ref x), .val (.int (1 : Int32)), .val (.int ((2 : Int32) + (1 : Int32)))] (hb hby own_d_prog_22_method_3_code_30) rfl rfl ?_
          rw [show ((2 : Int32) + (1 : Int32)) = (3 : Int32) from by decide]
          refine S1224.goto 2 (hb hby own_d_prog_22_method_3_code_33) ?_
          refine S1224.iloadN 3 (hb hby own_d_prog_22_method_3_code_2) rfl ?_
          refine S1224.aloadN 4 (hb hby own_d_prog_22_method_3_code_3) rfl rfl ?_
          refine S1224.vcall 7 (hb hby own_d_prog_22_method_3_code_4) (by rw [hml]; rfl) (Tw hw 37 rfl) (Tw hw 38 rfl) (Tw hw 40 rfl) (Tw hw 39 rfl) (nfSel (Tw hw 40 rfl)) (by decide) F.exa [] [(.int (3 : Int32))] (payLenA (W := 1) hw (Tw hw 5 rfl) cm S1224.old F (by decide) (by decide)) (lenOf own_pd_33 rfl) rfl (Nle rfl) (by decide) (by decide) Wrs.nil ?_
          intro v1228 T1229 h1230 L1231 S1232 q1233 K1234
          obtain ⟨rfl, e_q1233⟩ := q1233
          obtain rfl := e_q1233.symm
          show Go p e below _ T1229 (mkF m 7 #[.val (.ref x), .val (.int (1 : Int32)), .val (.int (3 : Int32))] [(.int (3 : Int32)), (.int (3 : Int32))])
          refine S1232.icmpY 36 (hb hby own_d_prog_22_method_3_code_7) (qGeT (by decide)) ?_
          refine S1232.iloadN 37 (hb hby own_d_prog_22_method_3_code_36) rfl ?_
          exact S1232.retI (hb hby own_d_prog_22_method_3_code_37) hret (by decide) (by decide) ⟨Or.inr (Or.inr (⟨rfl, ⟨hb1196, hb1204⟩, ⟨hb1219, hb1227⟩⟩)), rfl⟩


set_option maxRecDepth 65536 in
set_option maxHeartbeats 4000000 in
theorem own_de_3_2 (l : Launch) (Z : State) (a0 : Array Value) (hw : ∀ d ∈ tables_1, d.before a0 Z = true) (cm : Com Z) (us : U16s Z) (sf : Sfo Z) (h0 : Heap) (n0 : Nat) (O : Old Z n0 h0) (x : Addr) (t : Addr) (c0 : Int32) (c1 : Int32) (c2 : Int32) (F : StrA Z h0 x t ([c0, c1, c2] : List Int32)) :
    Con l Z n0 (⟨"com/example/floatbook/floatbook/core/PlainDecimal", "digitsEnd", "(Ljava/lang/String;I)I"⟩ : MethodName) prog_22_method_3_code 3 (some .int) [] ({ frames := 5, cells := 0, slots := 0, locals := 110 } : Room) #[(.ref x), (.int (2 : Int32))] h0 [] (fun v h' => ((v = some (.int 2) ∧ ¬ Dg c2) ∨ (v = some (.int 3) ∧ Dg c2)) ∧ h' = h0) := by
  refine Con.of a0 (plainFor_of_name own_pn_34) O (fun _ q => nomatch q) [] (fun _ q => nomatch q) ?_
  intro p e s m below meth cdX T S hby hml hret hnm
  refine Go.cast (own_ef_32 m x (2 : Int32)) ?_
  refine S.iloadN 1 (hb hby own_d_prog_22_method_3_code_0) rfl ?_
  refine S.istoreN 2 #[.val (.ref x), .val (.int (2 : Int32)), .val (.int (2 : Int32))] (hb hby own_d_prog_22_method_3_code_1) rfl ?_
  refine S.iloadN 3 (hb hby own_d_prog_22_method_3_code_2) rfl ?_
  refine S.aloadN 4 (hb hby own_d_prog_22_method_3_code_3) rfl rfl ?_
  refine S.vcall 7 (hb hby own_d_prog_22_method_3_code_4) (by rw [hml]; rfl) (Tw hw 37 rfl) (Tw hw 38 rfl) (Tw hw 40 rfl) (Tw hw 39 rfl) (nfSel (Tw hw 40 rfl)) (by decide) F.exa [] [(.int (2 : Int32))] (payLenA (W := 1) hw (Tw hw 5 rfl) cm S.old F (by decide) (by decide)) (lenOf own_pd_33 rfl) rfl (Nle rfl) (by decide) (by decide) Wrs.nil ?_
  intro v1235 T1236 h1237 L1238 S1239 q1240 K1241
  obtain ⟨rfl, e_q1240⟩ := q1240
  obtain rfl := e_q1240.symm
  show Go p e below _ T1236 (mkF m 7 #[.val (.ref x), .val (.int (2 : Int32)), .val (.int (2 : Int32))] [(.int (3 : Int32)), (.int (2 : Int32))])
  refine S1239.icmpN 10 (hb hby own_d_prog_22_method_3_code_7) (qGeF (by decide)) ?_
  refine S1239.aloadN 11 (hb hby own_d_prog_22_method_3_code_10) rfl rfl ?_
  refine S1239.iloadN 12 (hb hby own_d_prog_22_method_3_code_11) rfl ?_
  refine S1239.vcall 15 (hb hby own_d_prog_22_method_3_code_12) (by rw [hml]; rfl) (Tw hw 47 rfl) (Tw hw 48 rfl) (Tw hw 50 rfl) (Tw hw 49 rfl) (nfSel (Tw hw 50 rfl)) (by decide) F.exa [(.int (2 : Int32))] [] (payChA (W := 0) hw cm us sf S1239.old F (i := 2) (Nle rfl) rfl (by decide) (by decide)) (lenOf own_pd_35 rfl) rfl (Nle rfl) (by decide) (by decide) Wrs.nil ?_
  intro v1242 T1243 h1244 L1245 S1246 q1247 K1248
  obtain ⟨rfl, e_q1247⟩ := q1247
  obtain rfl := e_q1247.symm
  show Go p e below _ T1243 (mkF m 15 #[.val (.ref x), .val (.int (2 : Int32)), .val (.int (2 : Int32))] [(.int c2)])
  refine S1246.bipush 17 (48 : Int32) (hb hby own_d_prog_22_method_3_code_15) ?_
  by_cases hb1249 : c2 < (48 : Int32)
  · skip
    refine S1246.icmpY 36 (hb hby own_d_prog_22_method_3_code_17) (qLtT hb1249) ?_
    refine S1246.iloadN 37 (hb hby own_d_prog_22_method_3_code_36) rfl ?_
    exact S1246.retI (hb hby own_d_prog_22_method_3_code_37) hret (by decide) (by decide) ⟨Or.inl (⟨rfl, (fun q => q.1 hb1249)⟩), rfl⟩
  · skip
    refine S1246.icmpN 20 (hb hby own_d_prog_22_method_3_code_17) (qLtF hb1249) ?_
    refine S1246.aloadN 21 (hb hby own_d_prog_22_method_3_code_20) rfl rfl ?_
    refine S1246.iloadN 22 (hb hby own_d_prog_22_method_3_code_21) rfl ?_
    refine S1246.vcall 25 (hb hby own_d_prog_22_method_3_code_22) (by rw [hml]; rfl) (Tw hw 47 rfl) (Tw hw 48 rfl) (Tw hw 50 rfl) (Tw hw 49 rfl) (nfSel (Tw hw 50 rfl)) (by decide) F.exa [(.int (2 : Int32))] [] (payChA (W := 0) hw cm us sf S1246.old F (i := 2) (Nle rfl) rfl (by decide) (by decide)) (lenOf own_pd_35 rfl) rfl (Nle rfl) (by decide) (by decide) Wrs.nil ?_
    intro v1250 T1251 h1252 L1253 S1254 q1255 K1256
    obtain ⟨rfl, e_q1255⟩ := q1255
    obtain rfl := e_q1255.symm
    show Go p e below _ T1251 (mkF m 25 #[.val (.ref x), .val (.int (2 : Int32)), .val (.int (2 : Int32))] [(.int c2)])
    refine S1254.bipush 27 (57 : Int32) (hb hby own_d_prog_22_method_3_code_25) ?_
    by_cases hb1257 : (57 : Int32) < c2
    · skip
      refine S1254.icmpY 36 (hb hby own_d_prog_22_method_3_code_27) (qGtT hb1257) ?_
      refine S1254.iloadN 37 (hb hby own_d_prog_22_method_3_code_36) rfl ?_
      exact S1254.retI (hb hby own_d_prog_22_method_3_code_37) hret (by decide) (by decide) ⟨Or.inl (⟨rfl, (fun q => q.2 hb1257)⟩), rfl⟩
    · skip
      refine S1254.icmpN 30 (hb hby own_d_prog_22_method_3_code_27) (qGtF hb1257) ?_
      refine S1254.iinc 33 #[.val (.ref x), .val (.int (2 : Int32)), .val (.int ((2 : Int32) + (1 : Int32)))] (hb hby own_d_prog_22_method_3_code_30) rfl rfl ?_
      rw [show ((2 : Int32) + (1 : Int32)) = (3 : Int32) from by decide]
      refine S1254.goto 2 (hb hby own_d_prog_22_method_3_code_33) ?_
      refine S1254.iloadN 3 (hb hby own_d_prog_22_method_3_code_2) rfl ?_
      refine S1254.aloadN 4 (hb hby own_d_prog_22_method_3_code_3) rfl rfl ?_
      refine S1254.vcall 7 (hb hby own_d_prog_22_method_3_code_4) (by rw [hml]; rfl) (Tw hw 37 rfl) (Tw hw 38 rfl) (Tw hw 40 rfl) (Tw hw 39 rfl) (nfSel (Tw hw 40 rfl)) (by decide) F.exa [] [(.int (3 : Int32))] (payLenA (W := 1) hw (Tw hw 5 rfl) cm S1254.old F (by decide) (by decide)) (lenOf own_pd_33 rfl) rfl (Nle rfl) (by decide) (by decide) Wrs.nil ?_
      intro v1258 T1259 h1260 L1261 S1262 q1263 K1264
      obtain ⟨rfl, e_q1263⟩ := q1263
      obtain rfl := e_q1263.symm
      show Go p e below _ T1259 (mkF m 7 #[.val (.ref x), .val (.int (2 : Int32)), .val (.int (3 : Int32))] [(.int (3 : Int32)), (.int (3 : Int32))])
      refine S1262.icmpY 36 (hb hby own_d_prog_22_method_3_code_7) (qGeT (by decide)) ?_
      refine S1262.iloadN 37 (hb hby own_d_prog_22_method_3_code_36) rfl ?_
      exact S1262.retI (hb hby own_d_prog_22_method_3_code_37) hret (by decide) (by decide) ⟨Or.inr (⟨rfl, ⟨hb1249, hb1257⟩⟩), rfl⟩


set_option maxRecDepth 65536 in
set_option maxHeartbeats 4000000 in
theorem own_deG_4 (l : Launch) (Z : State) (a0 : Array Value) (hw : ∀ d ∈ tables_1, d.before a0 Z = true) (cm : Com Z) (us : U16s Z) (sf : Sfo Z) (h0 : Heap) (n0 : Nat) (O : Old Z n0 h0) (x : Addr) (t : Addr) (c0 : Int32) (c1 : Int32) (c2 : Int32) (c3 : Int32) (fm : Int32) (F : StrA Z h0 x t ([c0, c1, c2, c3] : List Int32)) (hg : ¬ fm < (4 : Int32)) :
    Con l Z n0 (⟨"com/example/floatbook/floatbook/core/PlainDecimal", "digitsEnd", "(Ljava/lang/String;I)I"⟩ : MethodName) prog_22_method_3_code 3 (some .int) [] ({ frames := 5, cells := 0, slots := 0, locals := 110 } : Room) #[(.ref x), (.int fm)] h0 [] (fun v h' => v = some (.int fm) ∧ h' = h0) := by
  refine Con.of a0 (plainFor_of_name own_pn_34) O (fun _ q => nomatch q) [] (fun _ q => nomatch q) ?_
  intro p e s m below meth cdX T S hby hml hret hnm
  refine Go.cast (own_ef_32 m x fm) ?_
  refine S.iloadN 1 (hb hby own_d_prog_22_method_3_code_0) rfl ?_
  refine S.istoreN 2 #[.val (.ref x), .val (.int fm), .val (.int fm)] (hb hby own_d_prog_22_method_3_code_1) rfl ?_
  refine S.iloadN 3 (hb hby own_d_prog_22_method_3_code_2) rfl ?_
  refine S.aloadN 4 (hb hby own_d_prog_22_method_3_code_3) rfl rfl ?_
  refine S.vcall 7 (hb hby own_d_prog_22_method_3_code_4) (by rw [hml]; rfl) (Tw hw 37 rfl) (Tw hw 38 rfl) (Tw hw 40 rfl) (Tw hw 39 rfl) (nfSel (Tw hw 40 rfl)) (by decide) F.exa [] [(.int fm)] (payLenA (W := 1) hw (Tw hw 5 rfl) cm S.old F (by decide) (by decide)) (lenOf own_pd_33 rfl) rfl (Nle rfl) (by decide) (by decide) Wrs.nil ?_
  intro v1265 T1266 h1267 L1268 S1269 q1270 K1271
  obtain ⟨rfl, e_q1270⟩ := q1270
  obtain rfl := e_q1270.symm
  show Go p e below _ T1266 (mkF m 7 #[.val (.ref x), .val (.int fm), .val (.int fm)] [(.int (4 : Int32)), (.int fm)])
  refine S1269.icmpY 36 (hb hby own_d_prog_22_method_3_code_7) (qGeT hg) ?_
  refine S1269.iloadN 37 (hb hby own_d_prog_22_method_3_code_36) rfl ?_
  exact S1269.retI (hb hby own_d_prog_22_method_3_code_37) hret (by decide) (by decide) ⟨rfl, rfl⟩


set_option maxRecDepth 65536 in
set_option maxHeartbeats 4000000 in
theorem own_de_4_0 (l : Launch) (Z : State) (a0 : Array Value) (hw : ∀ d ∈ tables_1, d.before a0 Z = true) (cm : Com Z) (us : U16s Z) (sf : Sfo Z) (h0 : Heap) (n0 : Nat) (O : Old Z n0 h0) (x : Addr) (t : Addr) (c0 : Int32) (c1 : Int32) (c2 : Int32) (c3 : Int32) (F : StrA Z h0 x t ([c0, c1, c2, c3] : List Int32)) :
    Con l Z n0 (⟨"com/example/floatbook/floatbook/core/PlainDecimal", "digitsEnd", "(Ljava/lang/String;I)I"⟩ : MethodName) prog_22_method_3_code 3 (some .int) [] ({ frames := 5, cells := 0, slots := 0, locals := 110 } : Room) #[(.ref x), (.int (0 : Int32))] h0 [] (fun v h' => ((v = some (.int 0) ∧ ¬ Dg c0) ∨ (v = some (.int 1) ∧ Dg c0 ∧ ¬ Dg c1) ∨ (v = some (.int 2) ∧ Dg c0 ∧ Dg c1 ∧ ¬ Dg c2) ∨ (v = some (.int 3) ∧ Dg c0 ∧ Dg c1 ∧ Dg c2 ∧ ¬ Dg c3) ∨ (v = some (.int 4) ∧ Dg c0 ∧ Dg c1 ∧ Dg c2 ∧ Dg c3)) ∧ h' = h0) := by
  refine Con.of a0 (plainFor_of_name own_pn_34) O (fun _ q => nomatch q) [] (fun _ q => nomatch q) ?_
  intro p e s m below meth cdX T S hby hml hret hnm
  refine Go.cast (own_ef_32 m x (0 : Int32)) ?_
  refine S.iloadN 1 (hb hby own_d_prog_22_method_3_code_0) rfl ?_
  refine S.istoreN 2 #[.val (.ref x), .val (.int (0 : Int32)), .val (.int (0 : Int32))] (hb hby own_d_prog_22_method_3_code_1) rfl ?_
  refine S.iloadN 3 (hb hby own_d_prog_22_method_3_code_2) rfl ?_
  refine S.aloadN 4 (hb hby own_d_prog_22_method_3_code_3) rfl rfl ?_
  refine S.vcall 7 (hb hby own_d_prog_22_method_3_code_4) (by rw [hml]; rfl) (Tw hw 37 rfl) (Tw hw 38 rfl) (Tw hw 40 rfl) (Tw hw 39 rfl) (nfSel (Tw hw 40 rfl)) (by decide) F.exa [] [(.int (0 : Int32))] (payLenA (W := 1) hw (Tw hw 5 rfl) cm S.old F (by decide) (by decide)) (lenOf own_pd_33 rfl) rfl (Nle rfl) (by decide) (by decide) Wrs.nil ?_
  intro v1272 T1273 h1274 L1275 S1276 q1277 K1278
  obtain ⟨rfl, e_q1277⟩ := q1277
  obtain rfl := e_q1277.symm
  show Go p e below _ T1273 (mkF m 7 #[.val (.ref x), .val (.int (0 : Int32)), .val (.int (0 : Int32))] [(.int (4 : Int32)), (.int (0 : Int32))])
  refine S1276.icmpN 10 (hb hby own_d_prog_22_method_3_code_7) (qGeF (by decide)) ?_
  refine S1276.aloadN 11 (hb hby own_d_prog_22_method_3_code_10) rfl rfl ?_
  refine S1276.iloadN 12 (hb hby own_d_prog_22_method_3_code_11) rfl ?_
  refine S1276.vcall 15 (hb hby own_d_prog_22_method_3_code_12) (by rw [hml]; rfl) (Tw hw 47 rfl) (Tw hw 48 rfl) (Tw hw 50 rfl) (Tw hw 49 rfl) (nfSel (Tw hw 50 rfl)) (by decide) F.exa [(.int (0 : Int32))] [] (payChA (W := 0) hw cm us sf S1276.old F (i := 0) (Nle rfl) rfl (by decide) (by decide)) (lenOf own_pd_35 rfl) rfl (Nle rfl) (by decide) (by decide) Wrs.nil ?_
  intro v1279 T1280 h1281 L1282 S1283 q1284 K1285
  obtain ⟨rfl, e_q1284⟩ := q1284
  obtain rfl := e_q1284.symm
  show Go p e below _ T1280 (mkF m 15 #[.val (.ref x), .val (.int (0 : Int32)), .val (.int (0 : Int32))] [(.int c0)])
  refine S1283.bipush 17 (48 : Int32) (hb hby own_d_prog_22_method_3_code_15) ?_
  by_cases hb1286 : c0 < (48 : Int32)
  · skip
    refine S1283.icmpY 36 (hb hby own_d_prog_22_method_3_code_17) (qLtT hb1286) ?_
    refine S1283.iloadN 37 (hb hby own_d_prog_22_method_3_code_36) rfl ?_
    exact S1283.retI (hb hby own_d_prog_22_method_3_code_37) hret (by decide) (by decide) ⟨Or.inl (⟨rfl, (fun q => q.1 hb1286)⟩), rfl⟩
  · skip
    refine S1283.icmpN 20 (hb hby own_d_prog_22_method_3_code_17) (qLtF hb1286) ?_
    refine S1283.aloadN 21 (hb hby own_d_prog_22_method_3_code_20) rfl rfl ?_
    refine S1283.iloadN 22 (hb hby own_d_prog_22_method_3_code_21) rfl ?_
    refine S1283.vcall 25 (hb hby own_d_prog_22_method_3_code_22) (by rw [hml]; rfl) (Tw hw 47 rfl) (Tw hw 48 rfl) (Tw hw 50 rfl) (Tw hw 49 rfl) (nfSel (Tw hw 50 rfl)) (by decide) F.exa [(.int (0 : Int32))] [] (payChA (W := 0) hw cm us sf S1283.old F (i := 0) (Nle rfl) rfl (by decide) (by decide)) (lenOf own_pd_35 rfl) rfl (Nle rfl) (by decide) (by decide) Wrs.nil ?_
    intro v1287 T1288 h1289 L1290 S1291 q1292 K1293
    obtain ⟨rfl, e_q1292⟩ := q1292
    obtain rfl := e_q1292.symm
    show Go p e below _ T1288 (mkF m 25 #[.val (.ref x), .val (.int (0 : Int32)), .val (.int (0 : Int32))] [(.int c0)])
    refine S1291.bipush 27 (57 : Int32) (hb hby own_d_prog_22_method_3_code_25) ?_
    by_cases hb1294 : (57 : Int32) < c0
    · skip
      refine S1291.icmpY 36 (hb hby own_d_prog_22_method_3_code_27) (qGtT hb1294) ?_
      refine S1291.iloadN 37 (hb hby own_d_prog_22_method_3_code_36) rfl ?_
      exact S1291.retI (hb hby own_d_prog_22_method_3_code_37) hret (by decide) (by decide) ⟨Or.inl (⟨rfl, (fun q => q.2 hb1294)⟩), rfl⟩
    · skip
      refine S1291.icmpN 30 (hb hby own_d_prog_22_method_3_code_27) (qGtF hb1294) ?_
      refine S1291.iinc 33 #[.val (.ref x), .val (.int (0 : Int32)), .val (.int ((0 : Int32) + (1 : Int32)))] (hb hby own_d_prog_22_method_3_code_30) rfl rfl ?_
      rw [show ((0 : Int32) + (1 : Int32)) = (1 : Int32) from by decide]
      refine S1291.goto 2 (hb hby own_d_prog_22_method_3_code_33) ?_
      refine S1291.iloadN 3 (hb hby own_d_prog_22_method_3_code_2) rfl ?_
      refine S1291.aloadN 4 (hb hby own_d_prog_22_method_3_code_3) rfl rfl ?_
      refine S1291.vcall 7 (hb hby own_d_prog_22_method_3_code_4) (by rw [hml]; rfl) (Tw hw 37 rfl) (Tw hw 38 rfl) (Tw hw 40 rfl) (Tw hw 39 rfl) (nfSel (Tw hw 40 rfl)) (by decide) F.exa [] [(.int (1 : Int32))] (payLenA (W := 1) hw (Tw hw 5 rfl) cm S1291.old F (by decide) (by decide)) (lenOf own_pd_33 rfl) rfl (Nle rfl) (by decide) (by decide) Wrs.nil ?_
      intro v1295 T1296 h1297 L1298 S1299 q1300 K1301
      obtain ⟨rfl, e_q1300⟩ := q1300
      obtain rfl := e_q1300.symm
      show Go p e below _ T1296 (mkF m 7 #[.val (.ref x), .val (.int (0 : Int32)), .val (.int (1 : Int32))] [(.int (4 : Int32)), (.int (1 : Int32))])
      refine S1299.icmpN 10 (hb hby own_d_prog_22_method_3_code_7) (qGeF (by decide)) ?_
      refine S1299.aloadN 11 (hb hby own_d_prog_22_method_3_code_10) rfl rfl ?_
      refine S1299.iloadN 12 (hb hby own_d_prog_22_method_3_code_11) rfl ?_
      refine S1299.vcall 15 (hb hby own_d_prog_22_method_3_code_12) (by rw [hml]; rfl) (Tw hw 47 rfl) (Tw hw 48 rfl) (Tw hw 50 rfl) (Tw hw 49 rfl) (nfSel (Tw hw 50 rfl)) (by decide) F.exa [(.int (1 : Int32))] [] (payChA (W := 0) hw cm us sf S1299.old F (i := 1) (Nle rfl) rfl (by decide) (by decide)) (lenOf own_pd_35 rfl) rfl (Nle rfl) (by decide) (by decide) Wrs.nil ?_
      intro v1302 T1303 h1304 L1305 S1306 q1307 K1308
      obtain ⟨rfl, e_q1307⟩ := q1307
      obtain rfl := e_q1307.symm
      show Go p e below _ T1303 (mkF m 15 #[.val (.ref x), .val (.int (0 : Int32)), .val (.int (1 : Int32))] [(.int c1)])
      refine S1306.bipush 17 (48 : Int32) (hb hby own_d_prog_22_method_3_code_15) ?_
      by_cases hb1309 : c1 < (48 : Int32)
      · skip
        refine S1306.icmpY 36 (hb hby own_d_prog_22_method_3_code_17) (qLtT hb1309) ?_
        refine S1306.iloadN 37 (hb hby own_d_prog_22_method_3_code_36) rfl ?_
        exact S1306.retI (hb hby own_d_prog_22_method_3_code_37) hret (by decide) (by decide) ⟨Or.inr (Or.inl (⟨rfl, ⟨hb1286, hb1294⟩, (fun q => q.1 hb1309)⟩)), rfl⟩
      · skip
        refine S1306.icmpN 20 (hb hby own_d_prog_22_method_3_code_17) (qLtF hb1309) ?_
        refine S1306.aloadN 21 (hb hby own_d_prog_22_method_3_code_20) rfl rfl ?_
        refine S1306.iloadN 22 (hb hby own_d_prog_22_method_3_code_21) rfl ?_
        refine S1306.vcall 25 (hb hby own_d_prog_22_method_3_code_22) (by rw [hml]; rfl) (Tw hw 47 rfl) (Tw hw 48 rfl) (Tw hw 50 rfl) (Tw hw 49 rfl) (nfSel (Tw hw 50 rfl)) (by decide) F.exa [(.int (1 : Int32))] [] (payChA (W := 0) hw cm us sf S1306.old F (i := 1) (Nle rfl) rfl (by decide) (by decide)) (lenOf own_pd_35 rfl) rfl (Nle rfl) (by decide) (by decide) Wrs.nil ?_
        intro v1310 T1311 h1312 L1313 S1314 q1315 K1316
        obtain ⟨rfl, e_q1315⟩ := q1315
        obtain rfl := e_q1315.symm
        show Go p e below _ T1311 (mkF m 25 #[.val (.ref x), .val (.int (0 : Int32)), .val (.int (1 : Int32))] [(.int c1)])
        refine S1314.bipush 27 (57 : Int32) (hb hby own_d_prog_22_method_3_code_25) ?_
        by_cases hb1317 : (57 : Int32) < c1
        · skip
          refine S1314.icmpY 36 (hb hby own_d_prog_22_method_3_code_27) (qGtT hb1317) ?_
          refine S1314.iloadN 37 (hb hby own_d_prog_22_method_3_code_36) rfl ?_
          exact S1314.retI (hb hby own_d_prog_22_method_3_code_37) hret (by decide) (by decide) ⟨Or.inr (Or.inl (⟨rfl, ⟨hb1286, hb1294⟩, (fun q => q.2 hb1317)⟩)), rfl⟩
        · skip
          refine S1314.icmpN 30 (hb hby own_d_prog_22_method_3_code_27) (qGtF hb1317) ?_
          refine S1314.iinc 33 #[.val (.ref x), .val (.int (0 : Int32)), .val (.int ((1 : Int32) + (1 : Int32)))] (hb hby own_d_prog_22_method_3_code_30) rfl rfl ?_
          rw [show ((1 : Int32) + (1 : Int32)) = (2 : Int32) from by decide]
          refine S1314.goto 2 (hb hby own_d_prog_22_method_3_code_33) ?_
          refine S1314.iloadN 3 (hb hby own_d_prog_22_method_3_code_2) rfl ?_
          refine S1314.aloadN 4 (hb hby own_d_prog_22_method_3_code_3) rfl rfl ?_
          refine S1314.vcall 7 (hb hby own_d_prog_22_method_3_code_4) (by rw [hml]; rfl) (Tw hw 37 rfl) (Tw hw 38 rfl) (Tw hw 40 rfl) (Tw hw 39 rfl) (nfSel (Tw hw 40 rfl)) (by decide) F.exa [] [(.int (2 : Int32))] (payLenA (W := 1) hw (Tw hw 5 rfl) cm S1314.old F (by decide) (by decide)) (lenOf own_pd_33 rfl) rfl (Nle rfl) (by decide) (by decide) Wrs.nil ?_
          intro v1318 T1319 h1320 L1321 S1322 q1323 K1324
          obtain ⟨rfl, e_q1323⟩ := q1323
          obtain rfl := e_q1323.symm
          show Go p e below _ T1319 (mkF m 7 #[.val (.ref x), .val (.int (0 : Int32)), .val (.int (2 : Int32))] [(.int (4 : Int32)), (.int (2 : Int32))])
          refine S1322.icmpN 10 (hb hby own_d_prog_22_method_3_code_7) (qGeF (by decide)) ?_
          refine S1322.aloadN 11 (hb hby own_d_prog_22_method_3_code_10) rfl rfl ?_
          refine S1322.iloadN 12 (hb hby own_d_prog_22_method_3_code_11) rfl ?_
          refine S1322.vcall 15 (hb hby own_d_prog_22_method_3_code_12) (by rw [hml]; rfl) (Tw hw 47 rfl) (Tw hw 48 rfl) (Tw hw 50 rfl) (Tw hw 49 rfl) (nfSel (Tw hw 50 rfl)) (by decide) F.exa [(.int (2 : Int32))] [] (payChA (W := 0) hw cm us sf S1322.old F (i := 2) (Nle rfl) rfl (by decide) (by decide)) (lenOf own_pd_35 rfl) rfl (Nle rfl) (by decide) (by decide) Wrs.nil ?_
          intro v1325 T1326 h1327 L1328 S1329 q1330 K1331
          obtain ⟨rfl, e_q1330⟩ := q1330
          obtain rfl := e_q1330.symm
          show Go p e below _ T1326 (mkF m 15 #[.val (.ref x), .val (.int (0 : Int32)), .val (.int (2 : Int32))] [(.int c2)])
          refine S1329.bipush 17 (48 : Int32) (hb hby own_d_prog_22_method_3_code_15) ?_
          by_cases hb1332 : c2 < (48 : Int32)
          · skip
            refine S1329.icmpY 36 (hb hby own_d_prog_22_method_3_code_17) (qLtT hb1332) ?_
            refine S1329.iloadN 37 (hb hby own_d_prog_22_method_3_code_36) rfl ?_
            exact S1329.retI (hb hby own_d_prog_22_method_3_code_37) hret (by decide) (by decide) ⟨Or.inr (Or.inr (Or.inl (⟨rfl, ⟨hb1286, hb1294⟩, ⟨hb1309, hb1317⟩, (fun q => q.1 hb1332)⟩))), rfl⟩
          · skip
            refine S1329.icmpN 20 (hb hby own_d_prog_22_method_3_code_17) (qLtF hb1332) ?_
            refine S1329.aloadN 21 (hb hby own_d_prog_22_method_3_code_20) rfl rfl ?_
            refine S1329.iloadN 22 (hb hby own_d_prog_22_method_3_code_21) rfl ?_
            refine S1329.vcall 25 (hb hby own_d_prog_22_method_3_code_22) (by rw [hml]; rfl) (Tw hw 47 rfl) (Tw hw 48 rfl) (Tw hw 50 rfl) (Tw hw 49 rfl) (nfSel (Tw hw 50 rfl)) (by decide) F.exa [(.int (2 : Int32))] [] (payChA (W := 0) hw cm us sf S1329.old F (i := 2) (Nle rfl) rfl (by decide) (by decide)) (lenOf own_pd_35 rfl) rfl (Nle rfl) (by decide) (by decide) Wrs.nil ?_
            intro v1333 T1334 h1335 L1336 S1337 q1338 K1339
            obtain ⟨rfl, e_q1338⟩ := q1338
            obtain rfl := e_q1338.symm
            show Go p e below _ T1334 (mkF m 25 #[.val (.ref x), .val (.int (0 : Int32)), .val (.int (2 : Int32))] [(.int c2)])
            refine S1337.bipush 27 (57 : Int32) (hb hby own_d_prog_22_method_3_code_25) ?_
            by_cases hb1340 : (57 : Int32) < c2
            · skip
              refine S1337.icmpY 36 (hb hby own_d_prog_22_method_3_code_27) (qGtT hb1340) ?_
              refine S1337.iloadN 37 (hb hby own_d_prog_22_method_3_code_36) rfl ?_
              exact S1337.retI (hb hby own_d_prog_22_method_3_code_37) hret (by decide) (by decide) ⟨Or.inr (Or.inr (Or.inl (⟨rfl, ⟨hb1286, hb1294⟩, ⟨hb1309, hb1317⟩, (fun q => q.2 hb1340)⟩))), rfl⟩
            · skip
              refine S1337.icmpN 30 (hb hby own_d_prog_22_method_3_code_27) (qGtF hb1340) ?_
              refine S1337.iinc 33 #[.val (.ref x), .val (.int (0 : Int32)), .val (.int ((2 : Int32) + (1 : Int32)))] (hb hby own_d_prog_22_method_3_code_30) rfl rfl ?_
              rw [show ((2 : Int32) + (1 : Int32)) = (3 : Int32) from by decide]
              refine S1337.goto 2 (hb hby own_d_prog_22_method_3_code_33) ?_
              refine S1337.iloadN 3 (hb hby own_d_prog_22_method_3_code_2) rfl ?_
              refine S1337.aloadN 4 (hb hby own_d_prog_22_method_3_code_3) rfl rfl ?_
              refine S1337.vcall 7 (hb hby own_d_prog_22_method_3_code_4) (by rw [hml]; rfl) (Tw hw 37 rfl) (Tw hw 38 rfl) (Tw hw 40 rfl) (Tw hw 39 rfl) (nfSel (Tw hw 40 rfl)) (by decide) F.exa [] [(.int (3 : Int32))] (payLenA (W := 1) hw (Tw hw 5 rfl) cm S1337.old F (by decide) (by decide)) (lenOf own_pd_33 rfl) rfl (Nle rfl) (by decide) (by decide) Wrs.nil ?_
              intro v1341 T1342 h1343 L1344 S1345 q1346 K1347
              obtain ⟨rfl, e_q1346⟩ := q1346
              obtain rfl := e_q1346.symm
              show Go p e below _ T1342 (mkF m 7 #[.val (.ref x), .val (.int (0 : Int32)), .val (.int (3 : Int32))] [(.int (4 : Int32)), (.int (3 : Int32))])
              refine S1345.icmpN 10 (hb hby own_d_prog_22_method_3_code_7) (qGeF (by decide)) ?_
              refine S1345.aloadN 11 (hb hby own_d_prog_22_method_3_code_10) rfl rfl ?_
              refine S1345.iloadN 12 (hb hby own_d_prog_22_method_3_code_11) rfl ?_
              refine S1345.vcall 15 (hb hby own_d_prog_22_method_3_code_12) (by rw [hml]; rfl) (Tw hw 47 rfl) (Tw hw 48 rfl) (Tw hw 50 rfl) (Tw hw 49 rfl) (nfSel (Tw hw 50 rfl)) (by decide) F.exa [(.int (3 : Int32))] [] (payChA (W := 0) hw cm us sf S1345.old F (i := 3) (Nle rfl) rfl (by decide) (by decide)) (lenOf own_pd_35 rfl) rfl (Nle rfl) (by decide) (by decide) Wrs.nil ?_
              intro v1348 T1349 h1350 L1351 S1352 q1353 K1354
              obtain ⟨rfl, e_q1353⟩ := q1353
              obtain rfl := e_q1353.symm
              show Go p e below _ T1349 (mkF m 15 #[.val (.ref x), .val (.int (0 : Int32)), .val (.int (3 : Int32))] [(.int c3)])
              refine S1352.bipush 17 (48 : Int32) (hb hby own_d_prog_22_method_3_code_15) ?_
              by_cases hb1355 : c3 < (48 : Int32)
              · skip
                refine S1352.icmpY 36 (hb hby own_d_prog_22_method_3_code_17) (qLtT hb1355) ?_
                refine S1352.iloadN 37 (hb hby own_d_prog_22_method_3_code_36) rfl ?_
                exact S1352.retI (hb hby own_d_prog_22_method_3_code_37) hret (by decide) (by decide) ⟨Or.inr (Or.inr (Or.inr (Or.inl (⟨rfl, ⟨hb1286, hb1294⟩, ⟨hb1309, hb1317⟩, ⟨hb1332, hb1340⟩, (fun q => q.1 hb1355)⟩)))), rfl⟩
              · skip
                refine S1352.icmpN 20 (hb hby own_d_prog_22_method_3_code_17) (qLtF hb1355) ?_
                refine S1352.aloadN 21 (hb hby own_d_prog_22_method_3_code_20) rfl rfl ?_
                refine S1352.iloadN 22 (hb hby own_d_prog_22_method_3_code_21) rfl ?_
                refine S1352.vcall 25 (hb hby own_d_prog_22_method_3_code_22) (by rw [hml]; rfl) (Tw hw 47 rfl) (Tw hw 48 rfl) (Tw hw 50 rfl) (Tw hw 49 rfl) (nfSel (Tw hw 50 rfl)) (by decide) F.exa [(.int (3 : Int32))] [] (payChA (W := 0) hw cm us sf S1352.old F (i := 3) (Nle rfl) rfl (by decide) (by decide)) (lenOf own_pd_35 rfl) rfl (Nle rfl) (by decide) (by decide) Wrs.nil ?_
                intro v1356 T1357 h1358 L1359 S1360 q1361 K1362
                obtain ⟨rfl, e_q1361⟩ := q1361
                obtain rfl := e_q1361.symm
                show Go p e below _ T1357 (mkF m 25 #[.val (.ref x), .val (.int (0 : Int32)), .val (.int (3 : Int32))] [(.int c3)])
                refine S1360.bipush 27 (57 : Int32) (hb hby own_d_prog_22_method_3_code_25) ?_
                by_cases hb1363 : (57 : Int32) < c3
                · skip
                  refine S1360.icmpY 36 (hb hby own_d_prog_22_method_3_code_27) (qGtT hb1363) ?_
                  refine S1360.iloadN 37 (hb hby own_d_prog_22_method_3_code_36) rfl ?_
                  exact S1360.retI (hb hby own_d_prog_22_method_3_code_37) hret (by decide) (by decide) ⟨Or.inr (Or.inr (Or.inr (Or.inl (⟨rfl, ⟨hb1286, hb1294⟩, ⟨hb1309, hb1317⟩, ⟨hb1332, hb1340⟩, (fun q => q.2 hb1363)⟩)))), rfl⟩
                · skip
                  refine S1360.icmpN 30 (hb hby own_d_prog_22_method_3_code_27) (qGtF hb1363) ?_
                  refine S1360.iinc 33 #[.val (.ref x), .val (.int (0 : Int32)), .val (.int ((3 : Int32) + (1 : Int32)))] (hb hby own_d_prog_22_method_3_code_30) rfl rfl ?_
                  rw [show ((3 : Int32) + (1 : Int32)) = (4 : Int32) from by decide]
                  refine S1360.goto 2 (hb hby own_d_prog_22_method_3_code_33) ?_
                  refine S1360.iloadN 3 (hb hby own_d_prog_22_method_3_code_2) rfl ?_
                  refine S1360.aloadN 4 (hb hby own_d_prog_22_method_3_code_3) rfl rfl ?_
                  refine S1360.vcall 7 (hb hby own_d_prog_22_method_3_code_4) (by rw [hml]; rfl) (Tw hw 37 rfl) (Tw hw 38 rfl) (Tw hw 40 rfl) (Tw hw 39 rfl) (nfSel (Tw hw 40 rfl)) (by decide) F.exa [] [(.int (4 : Int32))] (payLenA (W := 1) hw (Tw hw 5 rfl) cm S1360.old F (by decide) (by decide)) (lenOf own_pd_33 rfl) rfl (Nle rfl) (by decide) (by decide) Wrs.nil ?_
                  intro v1364 T1365 h1366 L1367 S1368 q1369 K1370
                  obtain ⟨rfl, e_q1369⟩ := q1369
                  obtain rfl := e_q1369.symm
                  show Go p e below _ T1365 (mkF m 7 #[.val (.ref x), .val (.int (0 : Int32)), .val (.int (4 : Int32))] [(.int (4 : Int32)), (.int (4 : Int32))])
                  refine S1368.icmpY 36 (hb hby own_d_prog_22_method_3_code_7) (qGeT (by decide)) ?_
                  refine S1368.iloadN 37 (hb hby own_d_prog_22_method_3_code_36) rfl ?_
                  exact S1368.retI (hb hby own_d_prog_22_method_3_code_37) hret (by decide) (by decide) ⟨Or.inr (Or.inr (Or.inr (Or.inr (⟨rfl, ⟨hb1286, hb1294⟩, ⟨hb1309, hb1317⟩, ⟨hb1332, hb1340⟩, ⟨hb1355, hb1363⟩⟩)))), rfl⟩


set_option maxRecDepth 65536 in
set_option maxHeartbeats 4000000 in
theorem own_de_4_1 (l : Launch) (Z : State) (a0 : Array Value) (hw : ∀ d ∈ tables_1, d.before a0 Z = true) (cm : Com Z) (us : U16s Z) (sf : Sfo Z) (h0 : Heap) (n0 : Nat) (O : Old Z n0 h0) (x : Addr) (t : Addr) (c0 : Int32) (c1 : Int32) (c2 : Int32) (c3 : Int32) (F : StrA Z h0 x t ([c0, c1, c2, c3] : List Int32)) :
    Con l Z n0 (⟨"com/example/floatbook/floatbook/core/PlainDecimal", "digitsEnd", "(Ljava/lang/String;I)I"⟩ : MethodName) prog_22_method_3_code 3 (some .int) [] ({ frames := 5, cells := 0, slots := 0, locals := 110 } : Room) #[(.ref x), (.int (1 : Int32))] h0 [] (fun v h' => ((v = some (.int 1) ∧ ¬ Dg c1) ∨ (v = some (.int 2) ∧ Dg c1 ∧ ¬ Dg c2) ∨ (v = some (.int 3) ∧ Dg c1 ∧ Dg c2 ∧ ¬ Dg c3) ∨ (v = some (.int 4) ∧ Dg c1 ∧ Dg c2 ∧ Dg c3)) ∧ h' = h0) := by
  refine Con.of a0 (plainFor_of_name own_pn_34) O (fun _ q => nomatch q) [] (fun _ q => nomatch q) ?_
  intro p e s m below meth cdX T S hby hml hret hnm
  refine Go.cast (own_ef_32 m x (1 : Int32)) ?_
  refine S.iloadN 1 (hb hby own_d_prog_22_method_3_code_0) rfl ?_
  refine S.istoreN 2 #[.val (.ref x), .val (.int (1 : Int32)), .val (.int (1 : Int32))] (hb hby own_d_prog_22_method_3_code_1) rfl ?_
  refine S.iloadN 3 (hb hby own_d_prog_22_method_3_code_2) rfl ?_
  refine S.aloadN 4 (hb hby own_d_prog_22_method_3_code_3) rfl rfl ?_
  refine S.vcall 7 (hb hby own_d_prog_22_method_3_code_4) (by rw [hml]; rfl) (Tw hw 37 rfl) (Tw hw 38 rfl) (Tw hw 40 rfl) (Tw hw 39 rfl) (nfSel (Tw hw 40 rfl)) (by decide) F.exa [] [(.int (1 : Int32))] (payLenA (W := 1) hw (Tw hw 5 rfl) cm S.old F (by decide) (by decide)) (lenOf own_pd_33 rfl) rfl (Nle rfl) (by decide) (by decide) Wrs.nil ?_
  intro v1371 T1372 h1373 L1374 S1375 q1376 K1377
  obtain ⟨rfl, e_q1376⟩ := q1376
  obtain rfl := e_q1376.symm
  show Go p e below _ T1372 (mkF m 7 #[.val (.ref x), .val (.int (1 : Int32)), .val (.int (1 : Int32))] [(.int (4 : Int32)), (.int (1 : Int32))])
  refine S1375.icmpN 10 (hb hby own_d_prog_22_method_3_code_7) (qGeF (by decide)) ?_
  refine S1375.aloadN 11 (hb hby own_d_prog_22_method_3_code_10) rfl rfl ?_
  refine S1375.iloadN 12 (hb hby own_d_prog_22_method_3_code_11) rfl ?_
  refine S1375.vcall 15 (hb hby own_d_prog_22_method_3_code_12) (by rw [hml]; rfl) (Tw hw 47 rfl) (Tw hw 48 rfl) (Tw hw 50 rfl) (Tw hw 49 rfl) (nfSel (Tw hw 50 rfl)) (by decide) F.exa [(.int (1 : Int32))] [] (payChA (W := 0) hw cm us sf S1375.old F (i := 1) (Nle rfl) rfl (by decide) (by decide)) (lenOf own_pd_35 rfl) rfl (Nle rfl) (by decide) (by decide) Wrs.nil ?_
  intro v1378 T1379 h1380 L1381 S1382 q1383 K1384
  obtain ⟨rfl, e_q1383⟩ := q1383
  obtain rfl := e_q1383.symm
  show Go p e below _ T1379 (mkF m 15 #[.val (.ref x), .val (.int (1 : Int32)), .val (.int (1 : Int32))] [(.int c1)])
  refine S1382.bipush 17 (48 : Int32) (hb hby own_d_prog_22_method_3_code_15) ?_
  by_cases hb1385 : c1 < (48 : Int32)
  · skip
    refine S1382.icmpY 36 (hb hby own_d_prog_22_method_3_code_17) (qLtT hb1385) ?_
    refine S1382.iloadN 37 (hb hby own_d_prog_22_method_3_code_36) rfl ?_
    exact S1382.retI (hb hby own_d_prog_22_method_3_code_37) hret (by decide) (by decide) ⟨Or.inl (⟨rfl, (fun q => q.1 hb1385)⟩), rfl⟩
  · skip
    refine S1382.icmpN 20 (hb hby own_d_prog_22_method_3_code_17) (qLtF hb1385) ?_
    refine S1382.aloadN 21 (hb hby own_d_prog_22_method_3_code_20) rfl rfl ?_
    refine S1382.iloadN 22 (hb hby own_d_prog_22_method_3_code_21) rfl ?_
    refine S1382.vcall 25 (hb hby own_d_prog_22_method_3_code_22) (by rw [hml]; rfl) (Tw hw 47 rfl) (Tw hw 48 rfl) (Tw hw 50 rfl) (Tw hw 49 rfl) (nfSel (Tw hw 50 rfl)) (by decide) F.exa [(.int (1 : Int32))] [] (payChA (W := 0) hw cm us sf S1382.old F (i := 1) (Nle rfl) rfl (by decide) (by decide)) (lenOf own_pd_35 rfl) rfl (Nle rfl) (by decide) (by decide) Wrs.nil ?_
    intro v1386 T1387 h1388 L1389 S1390 q1391 K1392
    obtain ⟨rfl, e_q1391⟩ := q1391
    obtain rfl := e_q1391.symm
    show Go p e below _ T1387 (mkF m 25 #[.val (.ref x), .val (.int (1 : Int32)), .val (.int (1 : Int32))] [(.int c1)])
    refine S1390.bipush 27 (57 : Int32) (hb hby own_d_prog_22_method_3_code_25) ?_
    by_cases hb1393 : (57 : Int32) < c1
    · skip
      refine S1390.icmpY 36 (hb hby own_d_prog_22_method_3_code_27) (qGtT hb1393) ?_
      refine S1390.iloadN 37 (hb hby own_d_prog_22_method_3_code_36) rfl ?_
      exact S1390.retI (hb hby own_d_prog_22_method_3_code_37) hret (by decide) (by decide) ⟨Or.inl (⟨rfl, (fun q => q.2 hb1393)⟩), rfl⟩
    · skip
      refine S1390.icmpN 30 (hb hby own_d_prog_22_method_3_code_27) (qGtF hb1393) ?_
      refine S1390.iinc 33 #[.val (.ref x), .val (.int (1 : Int32)), .val (.int ((1 : Int32) + (1 : Int32)))] (hb hby own_d_prog_22_method_3_code_30) rfl rfl ?_
      rw [show ((1 : Int32) + (1 : Int32)) = (2 : Int32) from by decide]
      refine S1390.goto 2 (hb hby own_d_prog_22_method_3_code_33) ?_
      refine S1390.iloadN 3 (hb hby own_d_prog_22_method_3_code_2) rfl ?_
      refine S1390.aloadN 4 (hb hby own_d_prog_22_method_3_code_3) rfl rfl ?_
      refine S1390.vcall 7 (hb hby own_d_prog_22_method_3_code_4) (by rw [hml]; rfl) (Tw hw 37 rfl) (Tw hw 38 rfl) (Tw hw 40 rfl) (Tw hw 39 rfl) (nfSel (Tw hw 40 rfl)) (by decide) F.exa [] [(.int (2 : Int32))] (payLenA (W := 1) hw (Tw hw 5 rfl) cm S1390.old F (by decide) (by decide)) (lenOf own_pd_33 rfl) rfl (Nle rfl) (by decide) (by decide) Wrs.nil ?_
      intro v1394 T1395 h1396 L1397 S1398 q1399 K1400
      obtain ⟨rfl, e_q1399⟩ := q1399
      obtain rfl := e_q1399.symm
      show Go p e below _ T1395 (mkF m 7 #[.val (.ref x), .val (.int (1 : Int32)), .val (.int (2 : Int32))] [(.int (4 : Int32)), (.int (2 : Int32))])
      refine S1398.icmpN 10 (hb hby own_d_prog_22_method_3_code_7) (qGeF (by decide)) ?_
      refine S1398.aloadN 11 (hb hby own_d_prog_22_method_3_code_10) rfl rfl ?_
      refine S1398.iloadN 12 (hb hby own_d_prog_22_method_3_code_11) rfl ?_
      refine S1398.vcall 15 (hb hby own_d_prog_22_method_3_code_12) (by rw [hml]; rfl) (Tw hw 47 rfl) (Tw hw 48 rfl) (Tw hw 50 rfl) (Tw hw 49 rfl) (nfSel (Tw hw 50 rfl)) (by decide) F.exa [(.int (2 : Int32))] [] (payChA (W := 0) hw cm us sf S1398.old F (i := 2) (Nle rfl) rfl (by decide) (by decide)) (lenOf own_pd_35 rfl) rfl (Nle rfl) (by decide) (by decide) Wrs.nil ?_
      intro v1401 T1402 h1403 L1404 S1405 q1406 K1407
      obtain ⟨rfl, e_q1406⟩ := q1406
      obtain rfl := e_q1406.symm
      show Go p e below _ T1402 (mkF m 15 #[.val (.ref x), .val (.int (1 : Int32)), .val (.int (2 : Int32))] [(.int c2)])
      refine S1405.bipush 17 (48 : Int32) (hb hby own_d_prog_22_method_3_code_15) ?_
      by_cases hb1408 : c2 < (48 : Int32)
      · skip
        refine S1405.icmpY 36 (hb hby own_d_prog_22_method_3_code_17) (qLtT hb1408) ?_
        refine S1405.iloadN 37 (hb hby own_d_prog_22_method_3_code_36) rfl ?_
        exact S1405.retI (hb hby own_d_prog_22_method_3_code_37) hret (by decide) (by decide) ⟨Or.inr (Or.inl (⟨rfl, ⟨hb1385, hb1393⟩, (fun q => q.1 hb1408)⟩)), rfl⟩
      · skip
        refine S1405.icmpN 20 (hb hby own_d_prog_22_method_3_code_17) (qLtF hb1408) ?_
        refine S1405.aloadN 21 (hb hby own_d_prog_22_method_3_code_20) rfl rfl ?_
        refine S1405.iloadN 22 (hb hby own_d_prog_22_method_3_code_21) rfl ?_
        refine S1405.vcall 25 (hb hby own_d_prog_22_method_3_code_22) (by rw [hml]; rfl) (Tw hw 47 rfl) (Tw hw 48 rfl) (Tw hw 50 rfl) (Tw hw 49 rfl) (nfSel (Tw hw 50 rfl)) (by decide) F.exa [(.int (2 : Int32))] [] (payChA (W := 0) hw cm us sf S1405.old F (i := 2) (Nle rfl) rfl (by decide) (by decide)) (lenOf own_pd_35 rfl) rfl (Nle rfl) (by decide) (by decide) Wrs.nil ?_
        intro v1409 T1410 h1411 L1412 S1413 q1414 K1415
        obtain ⟨rfl, e_q1414⟩ := q1414
        obtain rfl := e_q1414.symm
        show Go p e below _ T1410 (mkF m 25 #[.val (.ref x), .val (.int (1 : Int32)), .val (.int (2 : Int32))] [(.int c2)])
        refine S1413.bipush 27 (57 : Int32) (hb hby own_d_prog_22_method_3_code_25) ?_
        by_cases hb1416 : (57 : Int32) < c2
        · skip
          refine S1413.icmpY 36 (hb hby own_d_prog_22_method_3_code_27) (qGtT hb1416) ?_
          refine S1413.iloadN 37 (hb hby own_d_prog_22_method_3_code_36) rfl ?_
          exact S1413.retI (hb hby own_d_prog_22_method_3_code_37) hret (by decide) (by decide) ⟨Or.inr (Or.inl (⟨rfl, ⟨hb1385, hb1393⟩, (fun q => q.2 hb1416)⟩)), rfl⟩
        · skip
          refine S1413.icmpN 30 (hb hby own_d_prog_22_method_3_code_27) (qGtF hb1416) ?_
          refine S1413.iinc 33 #[.val (.ref x), .val (.int (1 : Int32)), .val (.int ((2 : Int32) + (1 : Int32)))] (hb hby own_d_prog_22_method_3_code_30) rfl rfl ?_
          rw [show ((2 : Int32) + (1 : Int32)) = (3 : Int32) from by decide]
          refine S1413.goto 2 (hb hby own_d_prog_22_method_3_code_33) ?_
          refine S1413.iloadN 3 (hb hby own_d_prog_22_method_3_code_2) rfl ?_
          refine S1413.aloadN 4 (hb hby own_d_prog_22_method_3_code_3) rfl rfl ?_
          refine S1413.vcall 7 (hb hby own_d_prog_22_method_3_code_4) (by rw [hml]; rfl) (Tw hw 37 rfl) (Tw hw 38 rfl) (Tw hw 40 rfl) (Tw hw 39 rfl) (nfSel (Tw hw 40 rfl)) (by decide) F.exa [] [(.int (3 : Int32))] (payLenA (W := 1) hw (Tw hw 5 rfl) cm S1413.old F (by decide) (by decide)) (lenOf own_pd_33 rfl) rfl (Nle rfl) (by decide) (by decide) Wrs.nil ?_
          intro v1417 T1418 h1419 L1420 S1421 q1422 K1423
          obtain ⟨rfl, e_q1422⟩ := q1422
          obtain rfl := e_q1422.symm
          show Go p e below _ T1418 (mkF m 7 #[.val (.ref x), .val (.int (1 : Int32)), .val (.int (3 : Int32))] [(.int (4 : Int32)), (.int (3 : Int32))])
          refine S1421.icmpN 10 (hb hby own_d_prog_22_method_3_code_7) (qGeF (by decide)) ?_
          refine S1421.aloadN 11 (hb hby own_d_prog_22_method_3_code_10) rfl rfl ?_
          refine S1421.iloadN 12 (hb hby own_d_prog_22_method_3_code_11) rfl ?_
          refine S1421.vcall 15 (hb hby own_d_prog_22_method_3_code_12) (by rw [hml]; rfl) (Tw hw 47 rfl) (Tw hw 48 rfl) (Tw hw 50 rfl) (Tw hw 49 rfl) (nfSel (Tw hw 50 rfl)) (by decide) F.exa [(.int (3 : Int32))] [] (payChA (W := 0) hw cm us sf S1421.old F (i := 3) (Nle rfl) rfl (by decide) (by decide)) (lenOf own_pd_35 rfl) rfl (Nle rfl) (by decide) (by decide) Wrs.nil ?_
          intro v1424 T1425 h1426 L1427 S1428 q1429 K1430
          obtain ⟨rfl, e_q1429⟩ := q1429
          obtain rfl := e_q1429.symm
          show Go p e below _ T1425 (mkF m 15 #[.val (.ref x), .val (.int (1 : Int32)), .val (.int (3 : Int32))] [(.int c3)])
          refine S1428.bipush 17 (48 : Int32) (hb hby own_d_prog_22_method_3_code_15) ?_
          by_cases hb1431 : c3 < (48 : Int32)
          · skip
            refine S1428.icmpY 36 (hb hby own_d_prog_22_method_3_code_17) (qLtT hb1431) ?_
            refine S1428.iloadN 37 (hb hby own_d_prog_22_method_3_code_36) rfl ?_
            exact S1428.retI (hb hby own_d_prog_22_method_3_code_37) hret (by decide) (by decide) ⟨Or.inr (Or.inr (Or.inl (⟨rfl, ⟨hb1385, hb1393⟩, ⟨hb1408, hb1416⟩, (fun q => q.1 hb1431)⟩))), rfl⟩
          · skip
            refine S1428.icmpN 20 (hb hby own_d_prog_22_method_3_code_17) (qLtF hb1431) ?_
            refine S1428.aloadN 21 (hb hby own_d_prog_22_method_3_code_20) rfl rfl ?_
            refine S1428.iloadN 22 (hb hby own_d_prog_22_method_3_code_21) rfl ?_
            refine S1428.vcall 25 (hb hby own_d_prog_22_method_3_code_22) (by rw [hml]; rfl) (Tw hw 47 rfl) (Tw hw 48 rfl) (Tw hw 50 rfl) (Tw hw 49 rfl) (nfSel (Tw hw 50 rfl)) (by decide) F.exa [(.int (3 : Int32))] [] (payChA (W := 0) hw cm us sf S1428.old F (i := 3) (Nle rfl) rfl (by decide) (by decide)) (lenOf own_pd_35 rfl) rfl (Nle rfl) (by decide) (by decide) Wrs.nil ?_
            intro v1432 T1433 h1434 L1435 S1436 q1437 K1438
            obtain ⟨rfl, e_q1437⟩ := q1437
            obtain rfl := e_q1437.symm
            show Go p e below _ T1433 (mkF m 25 #[.val (.ref x), .val (.int (1 : Int32)), .val (.int (3 : Int32))] [(.int c3)])
            refine S1436.bipush 27 (57 : Int32) (hb hby own_d_prog_22_method_3_code_25) ?_
            by_cases hb1439 : (57 : Int32) < c3
            · skip
              refine S1436.icmpY 36 (hb hby own_d_prog_22_method_3_code_27) (qGtT hb1439) ?_
              refine S1436.iloadN 37 (hb hby own_d_prog_22_method_3_code_36) rfl ?_
              exact S1436.retI (hb hby own_d_prog_22_method_3_code_37) hret (by decide) (by decide) ⟨Or.inr (Or.inr (Or.inl (⟨rfl, ⟨hb1385, hb1393⟩, ⟨hb1408, hb1416⟩, (fun q => q.2 hb1439)⟩))), rfl⟩
            · skip
              refine S1436.icmpN 30 (hb hby own_d_prog_22_method_3_code_27) (qGtF hb1439) ?_
              refine S1436.iinc 33 #[.val (.ref x), .val (.int (1 : Int32)), .val (.int ((3 : Int32) + (1 : Int32)))] (hb hby own_d_prog_22_method_3_code_30) rfl rfl ?_
              rw [show ((3 : Int32) + (1 : Int32)) = (4 : Int32) from by decide]
              refine S1436.goto 2 (hb hby own_d_prog_22_method_3_code_33) ?_
              refine S1436.iloadN 3 (hb hby own_d_prog_22_method_3_code_2) rfl ?_
              refine S1436.aloadN 4 (hb hby own_d_prog_22_method_3_code_3) rfl rfl ?_
              refine S1436.vcall 7 (hb hby own_d_prog_22_method_3_code_4) (by rw [hml]; rfl) (Tw hw 37 rfl) (Tw hw 38 rfl) (Tw hw 40 rfl) (Tw hw 39 rfl) (nfSel (Tw hw 40 rfl)) (by decide) F.exa [] [(.int (4 : Int32))] (payLenA (W := 1) hw (Tw hw 5 rfl) cm S1436.old F (by decide) (by decide)) (lenOf own_pd_33 rfl) rfl (Nle rfl) (by decide) (by decide) Wrs.nil ?_
              intro v1440 T1441 h1442 L1443 S1444 q1445 K1446
              obtain ⟨rfl, e_q1445⟩ := q1445
              obtain rfl := e_q1445.symm
              show Go p e below _ T1441 (mkF m 7 #[.val (.ref x), .val (.int (1 : Int32)), .val (.int (4 : Int32))] [(.int (4 : Int32)), (.int (4 : Int32))])
              refine S1444.icmpY 36 (hb hby own_d_prog_22_method_3_code_7) (qGeT (by decide)) ?_
              refine S1444.iloadN 37 (hb hby own_d_prog_22_method_3_code_36) rfl ?_
              exact S1444.retI (hb hby own_d_prog_22_method_3_code_37) hret (by decide) (by decide) ⟨Or.inr (Or.inr (Or.inr (⟨rfl, ⟨hb1385, hb1393⟩, ⟨hb1408, hb1416⟩, ⟨hb1431, hb1439⟩⟩))), rfl⟩


set_option maxRecDepth 65536 in
set_option maxHeartbeats 4000000 in
theorem own_de_4_2 (l : Launch) (Z : State) (a0 : Array Value) (hw : ∀ d ∈ tables_1, d.before a0 Z = true) (cm : Com Z) (us : U16s Z) (sf : Sfo Z) (h0 : Heap) (n0 : Nat) (O : Old Z n0 h0) (x : Addr) (t : Addr) (c0 : Int32) (c1 : Int32) (c2 : Int32) (c3 : Int32) (F : StrA Z h0 x t ([c0, c1, c2, c3] : List Int32)) :
    Con l Z n0 (⟨"com/example/floatbook/floatbook/core/PlainDecimal", "digitsEnd", "(Ljava/lang/String;I)I"⟩ : MethodName) prog_22_method_3_code 3 (some .int) [] ({ frames := 5, cells := 0, slots := 0, locals := 110 } : Room) #[(.ref x), (.int (2 : Int32))] h0 [] (fun v h' => ((v = some (.int 2) ∧ ¬ Dg c2) ∨ (v = some (.int 3) ∧ Dg c2 ∧ ¬ Dg c3) ∨ (v = some (.int 4) ∧ Dg c2 ∧ Dg c3)) ∧ h' = h0) := by
  refine Con.of a0 (plainFor_of_name own_pn_34) O (fun _ q => nomatch q) [] (fun _ q => nomatch q) ?_
  intro p e s m below meth cdX T S hby hml hret hnm
  refine Go.cast (own_ef_32 m x (2 : Int32)) ?_
  refine S.iloadN 1 (hb hby own_d_prog_22_method_3_code_0) rfl ?_
  refine S.istoreN 2 #[.val (.ref x), .val (.int (2 : Int32)), .val (.int (2 : Int32))] (hb hby own_d_prog_22_method_3_code_1) rfl ?_
  refine S.iloadN 3 (hb hby own_d_prog_22_method_3_code_2) rfl ?_
  refine S.aloadN 4 (hb hby own_d_prog_22_method_3_code_3) rfl rfl ?_
  refine S.vcall 7 (hb hby own_d_prog_22_method_3_code_4) (by rw [hml]; rfl) (Tw hw 37 rfl) (Tw hw 38 rfl) (Tw hw 40 rfl) (Tw hw 39 rfl) (nfSel (Tw hw 40 rfl)) (by decide) F.exa [] [(.int (2 : Int32))] (payLenA (W := 1) hw (Tw hw 5 rfl) cm S.old F (by decide) (by decide)) (lenOf own_pd_33 rfl) rfl (Nle rfl) (by decide) (by decide) Wrs.nil ?_
  intro v1447 T1448 h1449 L1450 S1451 q1452 K1453
  obtain ⟨rfl, e_q1452⟩ := q1452
  obtain rfl := e_q1452.symm
  show Go p e below _ T1448 (mkF m 7 #[.val (.ref x), .val (.int (2 : Int32)), .val (.int (2 : Int32))] [(.int (4 : Int32)), (.int (2 : Int32))])
  refine S1451.icmpN 10 (hb hby own_d_prog_22_method_3_code_7) (qGeF (by decide)) ?_
  refine S1451.aloadN 11 (hb hby own_d_prog_22_method_3_code_10) rfl rfl ?_
  refine S1451.iloadN 12 (hb hby own_d_prog_22_method_3_code_11) rfl ?_
  refine S1451.vcall 15 (hb hby own_d_prog_22_method_3_code_12) (by rw [hml]; rfl) (Tw hw 47 rfl) (Tw hw 48 rfl) (Tw hw 50 rfl) (Tw hw 49 rfl) (nfSel (Tw hw 50 rfl)) (by decide) F.exa [(.int (2 : Int32))] [] (payChA (W := 0) hw cm us sf S1451.old F (i := 2) (Nle rfl) rfl (by decide) (by decide)) (lenOf own_pd_35 rfl) rfl (Nle rfl) (by decide) (by decide) Wrs.nil ?_
  intro v1454 T1455 h1456 L1457 S1458 q1459 K1460
  obtain ⟨rfl, e_q1459⟩ := q1459
  obtain rfl := e_q1459.symm
  show Go p e below _ T1455 (mkF m 15 #[.val (.ref x), .val (.int (2 : Int32)), .val (.int (2 : Int32))] [(.int c2)])
  refine S1458.bipush 17 (48 : Int32) (hb hby own_d_prog_22_method_3_code_15) ?_
  by_cases hb1461 : c2 < (48 : Int32)
  · skip
    refine S1458.icmpY 36 (hb hby own_d_prog_22_method_3_code_17) (qLtT hb1461) ?_
    refine S1458.iloadN 37 (hb hby own_d_prog_22_method_3_code_36) rfl ?_
    exact S1458.retI (hb hby own_d_prog_22_method_3_code_37) hret (by decide) (by decide) ⟨Or.inl (⟨rfl, (fun q => q.1 hb1461)⟩), rfl⟩
  · skip
    refine S1458.icmpN 20 (hb hby own_d_prog_22_method_3_code_17) (qLtF hb1461) ?_
    refine S1458.aloadN 21 (hb hby own_d_prog_22_method_3_code_20) rfl rfl ?_
    refine S1458.iloadN 22 (hb hby own_d_prog_22_method_3_code_21) rfl ?_
    refine S1458.vcall 25 (hb hby own_d_prog_22_method_3_code_22) (by rw [hml]; rfl) (Tw hw 47 rfl) (Tw hw 48 rfl) (Tw hw 50 rfl) (Tw hw 49 rfl) (nfSel (Tw hw 50 rfl)) (by decide) F.exa [(.int (2 : Int32))] [] (payChA (W := 0) hw cm us sf S1458.old F (i := 2) (Nle rfl) rfl (by decide) (by decide)) (lenOf own_pd_35 rfl) rfl (Nle rfl) (by decide) (by decide) Wrs.nil ?_
    intro v1462 T1463 h1464 L1465 S1466 q1467 K1468
    obtain ⟨rfl, e_q1467⟩ := q1467
    obtain rfl := e_q1467.symm
    show Go p e below _ T1463 (mkF m 25 #[.val (.ref x), .val (.int (2 : Int32)), .val (.int (2 : Int32))] [(.int c2)])
    refine S1466.bipush 27 (57 : Int32) (hb hby own_d_prog_22_method_3_code_25) ?_
    by_cases hb1469 : (57 : Int32) < c2
    · skip
      refine S1466.icmpY 36 (hb hby own_d_prog_22_method_3_code_27) (qGtT hb1469) ?_
      refine S1466.iloadN 37 (hb hby own_d_prog_22_method_3_code_36) rfl ?_
      exact S1466.retI (hb hby own_d_prog_22_method_3_code_37) hret (by decide) (by decide) ⟨Or.inl (⟨rfl, (fun q => q.2 hb1469)⟩), rfl⟩
    · skip
      refine S1466.icmpN 30 (hb hby own_d_prog_22_method_3_code_27) (qGtF hb1469) ?_
      refine S1466.iinc 33 #[.val (.ref x), .val (.int (2 : Int32)), .val (.int ((2 : Int32) + (1 : Int32)))] (hb hby own_d_prog_22_method_3_code_30) rfl rfl ?_
      rw [show ((2 : Int32) + (1 : Int32)) = (3 : Int32) from by decide]
      refine S1466.goto 2 (hb hby own_d_prog_22_method_3_code_33) ?_
      refine S1466.iloadN 3 (hb hby own_d_prog_22_method_3_code_2) rfl ?_
      refine S1466.aloadN 4 (hb hby own_d_prog_22_method_3_code_3) rfl rfl ?_
      refine S1466.vcall 7 (hb hby own_d_prog_22_method_3_code_4) (by rw [hml]; rfl) (Tw hw 37 rfl) (Tw hw 38 rfl) (Tw hw 40 rfl) (Tw hw 39 rfl) (nfSel (Tw hw 40 rfl)) (by decide) F.exa [] [(.int (3 : Int32))] (payLenA (W := 1) hw (Tw hw 5 rfl) cm S1466.old F (by decide) (by decide)) (lenOf own_pd_33 rfl) rfl (Nle rfl) (by decide) (by decide) Wrs.nil ?_
      intro v1470 T1471 h1472 L1473 S1474 q1475 K1476
      obtain ⟨rfl, e_q1475⟩ := q1475
      obtain rfl := e_q1475.symm
      show Go p e below _ T1471 (mkF m 7 #[.val (.ref x), .val (.int (2 : Int32)), .val (.int (3 : Int32))] [(.int (4 : Int32)), (.int (3 : Int32))])
      refine S1474.icmpN 10 (hb hby own_d_prog_22_method_3_code_7) (qGeF (by decide)) ?_
      refine S1474.aloadN 11 (hb hby own_d_prog_22_method_3_code_10) rfl rfl ?_
      refine S1474.iloadN 12 (hb hby own_d_prog_22_method_3_code_11) rfl ?_
      refine S1474.vcall 15 (hb hby own_d_prog_22_method_3_code_12) (by rw [hml]; rfl) (Tw hw 47 rfl) (Tw hw 48 rfl) (Tw hw 50 rfl) (Tw hw 49 rfl) (nfSel (Tw hw 50 rfl)) (by decide) F.exa [(.int (3 : Int32))] [] (payChA (W := 0) hw cm us sf S1474.old F (i := 3) (Nle rfl) rfl (by decide) (by decide)) (lenOf own_pd_35 rfl) rfl (Nle rfl) (by decide) (by decide) Wrs.nil ?_
      intro v1477 T1478 h1479 L1480 S1481 q1482 K1483
      obtain ⟨rfl, e_q1482⟩ := q1482
      obtain rfl := e_q1482.symm
      show Go p e below _ T1478 (mkF m 15 #[.val (.ref x), .val (.int (2 : Int32)), .val (.int (3 : Int32))] [(.int c3)])
      refine S1481.bipush 17 (48 : Int32) (hb hby own_d_prog_22_method_3_code_15) ?_
      by_cases hb1484 : c3 < (48 : Int32)
      · skip
        refine S1481.icmpY 36 (hb hby own_d_prog_22_method_3_code_17) (qLtT hb1484) ?_
        refine S1481.iloadN 37 (hb hby own_d_prog_22_method_3_code_36) rfl ?_
        exact S1481.retI (hb hby own_d_prog_22_method_3_code_37) hret (by decide) (by decide) ⟨Or.inr (Or.inl (⟨rfl, ⟨hb1461, hb1469⟩, (fun q => q.1 hb1484)⟩)), rfl⟩
      · skip
        refine S1481.icmpN 20 (hb hby own_d_prog_22_method_3_code_17) (qLtF hb1484) ?_
        refine S1481.aloadN 21 (hb hby own_d_prog_22_method_3_code_20) rfl rfl ?_
        refine S1481.iloadN 22 (hb hby own_d_prog_22_method_3_code_21) rfl ?_
        refine S1481.vcall 25 (hb hby own_d_prog_22_method_3_code_22) (by rw [hml]; rfl) (Tw hw 47 rfl) (Tw hw 48 rfl) (Tw hw 50 rfl) (Tw hw 49 rfl) (nfSel (Tw hw 50 rfl)) (by decide) F.exa [(.int (3 : Int32))] [] (payChA (W := 0) hw cm us sf S1481.old F (i := 3) (Nle rfl) rfl (by decide) (by decide)) (lenOf own_pd_35 rfl) rfl (Nle rfl) (by decide) (by decide) Wrs.nil ?_
        intro v1485 T1486 h1487 L1488 S1489 q1490 K1491
        obtain ⟨rfl, e_q1490⟩ := q1490
        obtain rfl := e_q1490.symm
        show Go p e below _ T1486 (mkF m 25 #[.val (.ref x), .val (.int (2 : Int32)), .val (.int (3 : Int32))] [(.int c3)])
        refine S1489.bipush 27 (57 : Int32) (hb hby own_d_prog_22_method_3_code_25) ?_
        by_cases hb1492 : (57 : Int32) < c3
        · skip
          refine S1489.icmpY 36 (hb hby own_d_prog_22_method_3_code_27) (qGtT hb1492) ?_
          refine S1489.iloadN 37 (hb hby own_d_prog_22_method_3_code_36) rfl ?_
          exact S1489.retI (hb hby own_d_prog_22_method_3_code_37) hret (by decide) (by decide) ⟨Or.inr (Or.inl (⟨rfl, ⟨hb1461, hb1469⟩, (fun q => q.2 hb1492)⟩)), rfl⟩
        · skip
          refine S1489.icmpN 30 (hb hby own_d_prog_22_method_3_code_27) (qGtF hb1492) ?_
          refine S1489.iinc 33 #[.val (.ref x), .val (.int (2 : Int32)), .val (.int ((3 : Int32) + (1 : Int32)))] (hb hby own_d_prog_22_method_3_code_30) rfl rfl ?_
          rw [show ((3 : Int32) + (1 : Int32)) = (4 : Int32) from by decide]
          refine S1489.goto 2 (hb hby own_d_prog_22_method_3_code_33) ?_
          refine S1489.iloadN 3 (hb hby own_d_prog_22_method_3_code_2) rfl ?_
          refine S1489.aloadN 4 (hb hby own_d_prog_22_method_3_code_3) rfl rfl ?_
          refine S1489.vcall 7 (hb hby own_d_prog_22_method_3_code_4) (by rw [hml]; rfl) (Tw hw 37 rfl) (Tw hw 38 rfl) (Tw hw 40 rfl) (Tw hw 39 rfl) (nfSel (Tw hw 40 rfl)) (by decide) F.exa [] [(.int (4 : Int32))] (payLenA (W := 1) hw (Tw hw 5 rfl) cm S1489.old F (by decide) (by decide)) (lenOf own_pd_33 rfl) rfl (Nle rfl) (by decide) (by decide) Wrs.nil ?_
          intro v1493 T1494 h1495 L1496 S1497 q1498 K1499
          obtain ⟨rfl, e_q1498⟩ := q1498
          obtain rfl := e_q1498.symm
          show Go p e below _ T1494 (mkF m 7 #[.val (.ref x), .val (.int (2 : Int32)), .val (.int (4 : Int32))] [(.int (4 : Int32)), (.int (4 : Int32))])
          refine S1497.icmpY 36 (hb hby own_d_prog_22_method_3_code_7) (qGeT (by decide)) ?_
          refine S1497.iloadN 37 (hb hby own_d_prog_22_method_3_code_36) rfl ?_
          exact S1497.retI (hb hby own_d_prog_22_method_3_code_37) hret (by decide) (by decide) ⟨Or.inr (Or.inr (⟨rfl, ⟨hb1461, hb1469⟩, ⟨hb1484, hb1492⟩⟩)), rfl⟩


set_option maxRecDepth 65536 in
set_option maxHeartbeats 4000000 in
theorem own_de_4_3 (l : Launch) (Z : State) (a0 : Array Value) (hw : ∀ d ∈ tables_1, d.before a0 Z = true) (cm : Com Z) (us : U16s Z) (sf : Sfo Z) (h0 : Heap) (n0 : Nat) (O : Old Z n0 h0) (x : Addr) (t : Addr) (c0 : Int32) (c1 : Int32) (c2 : Int32) (c3 : Int32) (F : StrA Z h0 x t ([c0, c1, c2, c3] : List Int32)) :
    Con l Z n0 (⟨"com/example/floatbook/floatbook/core/PlainDecimal", "digitsEnd", "(Ljava/lang/String;I)I"⟩ : MethodName) prog_22_method_3_code 3 (some .int) [] ({ frames := 5, cells := 0, slots := 0, locals := 110 } : Room) #[(.ref x), (.int (3 : Int32))] h0 [] (fun v h' => ((v = some (.int 3) ∧ ¬ Dg c3) ∨ (v = some (.int 4) ∧ Dg c3)) ∧ h' = h0) := by
  refine Con.of a0 (plainFor_of_name own_pn_34) O (fun _ q => nomatch q) [] (fun _ q => nomatch q) ?_
  intro p e s m below meth cdX T S hby hml hret hnm
  refine Go.cast (own_ef_32 m x (3 : Int32)) ?_
  refine S.iloadN 1 (hb hby own_d_prog_22_method_3_code_0) rfl ?_
  refine S.istoreN 2 #[.val (.ref x), .val (.int (3 : Int32)), .val (.int (3 : Int32))] (hb hby own_d_prog_22_method_3_code_1) rfl ?_
  refine S.iloadN 3 (hb hby own_d_prog_22_method_3_code_2) rfl ?_
  refine S.aloadN 4 (hb hby own_d_prog_22_method_3_code_3) rfl rfl ?_
  refine S.vcall 7 (hb hby own_d_prog_22_method_3_code_4) (by rw [hml]; rfl) (Tw hw 37 rfl) (Tw hw 38 rfl) (Tw hw 40 rfl) (Tw hw 39 rfl) (nfSel (Tw hw 40 rfl)) (by decide) F.exa [] [(.int (3 : Int32))] (payLenA (W := 1) hw (Tw hw 5 rfl) cm S.old F (by decide) (by decide)) (lenOf own_pd_33 rfl) rfl (Nle rfl) (by decide) (by decide) Wrs.nil ?_
  intro v1500 T1501 h1502 L1503 S1504 q1505 K1506
  obtain ⟨rfl, e_q1505⟩ := q1505
  obtain rfl := e_q1505.symm
  show Go p e below _ T1501 (mkF m 7 #[.val (.ref x), .val (.int (3 : Int32)), .val (.int (3 : Int32))] [(.int (4 : Int32)), (.int (3 : Int32))])
  refine S1504.icmpN 10 (hb hby own_d_prog_22_method_3_code_7) (qGeF (by decide)) ?_
  refine S1504.aloadN 11 (hb hby own_d_prog_22_method_3_code_10) rfl rfl ?_
  refine S1504.iloadN 12 (hb hby own_d_prog_22_method_3_code_11) rfl ?_
  refine S1504.vcall 15 (hb hby own_d_prog_22_method_3_code_12) (by rw [hml]; rfl) (Tw hw 47 rfl) (Tw hw 48 rfl) (Tw hw 50 rfl) (Tw hw 49 rfl) (nfSel (Tw hw 50 rfl)) (by decide) F.exa [(.int (3 : Int32))] [] (payChA (W := 0) hw cm us sf S1504.old F (i := 3) (Nle rfl) rfl (by decide) (by decide)) (lenOf own_pd_35 rfl) rfl (Nle rfl) (by decide) (by decide) Wrs.nil ?_
  intro v1507 T1508 h1509 L1510 S1511 q1512 K1513
  obtain ⟨rfl, e_q1512⟩ := q1512
  obtain rfl := e_q1512.symm
  show Go p e below _ T1508 (mkF m 15 #[.val (.ref x), .val (.int (3 : Int32)), .val (.int (3 : Int32))] [(.int c3)])
  refine S1511.bipush 17 (48 : Int32) (hb hby own_d_prog_22_method_3_code_15) ?_
  by_cases hb1514 : c3 < (48 : Int32)
  · skip
    refine S1511.icmpY 36 (hb hby own_d_prog_22_method_3_code_17) (qLtT hb1514) ?_
    refine S1511.iloadN 37 (hb hby own_d_prog_22_method_3_code_36) rfl ?_
    exact S1511.retI (hb hby own_d_prog_22_method_3_code_37) hret (by decide) (by decide) ⟨Or.inl (⟨rfl, (fun q => q.1 hb1514)⟩), rfl⟩
  · skip
    refine S1511.icmpN 20 (hb hby own_d_prog_22_method_3_code_17) (qLtF hb1514) ?_
    refine S1511.aloadN 21 (hb hby own_d_prog_22_method_3_code_20) rfl rfl ?_
    refine S1511.iloadN 22 (hb hby own_d_prog_22_method_3_code_21) rfl ?_
    refine S1511.vcall 25 (hb hby own_d_prog_22_method_3_code_22) (by rw [hml]; rfl) (Tw hw 47 rfl) (Tw hw 48 rfl) (Tw hw 50 rfl) (Tw hw 49 rfl) (nfSel (Tw hw 50 rfl)) (by decide) F.exa [(.int (3 : Int32))] [] (payChA (W := 0) hw cm us sf S1511.old F (i := 3) (Nle rfl) rfl (by decide) (by decide)) (lenOf own_pd_35 rfl) rfl (Nle rfl) (by decide) (by decide) Wrs.nil ?_
    intro v1515 T1516 h1517 L1518 S1519 q1520 K1521
    obtain ⟨rfl, e_q1520⟩ := q1520
    obtain rfl := e_q1520.symm
    show Go p e below _ T1516 (mkF m 25 #[.val (.ref x), .val (.int (3 : Int32)), .val (.int (3 : Int32))] [(.int c3)])
    refine S1519.bipush 27 (57 : Int32) (hb hby own_d_prog_22_method_3_code_25) ?_
    by_cases hb1522 : (57 : Int32) < c3
    · skip
      refine S1519.icmpY 36 (hb hby own_d_prog_22_method_3_code_27) (qGtT hb1522) ?_
      refine S1519.iloadN 37 (hb hby own_d_prog_22_method_3_code_36) rfl ?_
      exact S1519.retI (hb hby own_d_prog_22_method_3_code_37) hret (by decide) (by decide) ⟨Or.inl (⟨rfl, (fun q => q.2 hb1522)⟩), rfl⟩
    · skip
      refine S1519.icmpN 30 (hb hby own_d_prog_22_method_3_code_27) (qGtF hb1522) ?_
      refine S1519.iinc 33 #[.val (.ref x), .val (.int (3 : Int32)), .val (.int ((3 : Int32) + (1 : Int32)))] (hb hby own_d_prog_22_method_3_code_30) rfl rfl ?_
      rw [show ((3 : Int32) + (1 : Int32)) = (4 : Int32) from by decide]
      refine S1519.goto 2 (hb hby own_d_prog_22_method_3_code_33) ?_
      refine S1519.iloadN 3 (hb hby own_d_prog_22_method_3_code_2) rfl ?_
      refine S1519.aloadN 4 (hb hby own_d_prog_22_method_3_code_3) rfl rfl ?_
      refine S1519.vcall 7 (hb hby own_d_prog_22_method_3_code_4) (by rw [hml]; rfl) (Tw hw 37 rfl) (Tw hw 38 rfl) (Tw hw 40 rfl) (Tw hw 39 rfl) (nfSel (Tw hw 40 rfl)) (by decide) F.exa [] [(.int (4 : Int32))] (payLenA (W := 1) hw (Tw hw 5 rfl) cm S1519.old F (by decide) (by decide)) (lenOf own_pd_33 rfl) rfl (Nle rfl) (by decide) (by decide) Wrs.nil ?_
      intro v1523 T1524 h1525 L1526 S1527 q1528 K1529
      obtain ⟨rfl, e_q1528⟩ := q1528
      obtain rfl := e_q1528.symm
      show Go p e below _ T1524 (mkF m 7 #[.val (.ref x), .val (.int (3 : Int32)), .val (.int (4 : Int32))] [(.int (4 : Int32)), (.int (4 : Int32))])
      refine S1527.icmpY 36 (hb hby own_d_prog_22_method_3_code_7) (qGeT (by decide)) ?_
      refine S1527.iloadN 37 (hb hby own_d_prog_22_method_3_code_36) rfl ?_
      exact S1527.retI (hb hby own_d_prog_22_method_3_code_37) hret (by decide) (by decide) ⟨Or.inr (⟨rfl, ⟨hb1514, hb1522⟩⟩), rfl⟩

set_option maxHeartbeats 4000000 in
theorem own_ef_36 (m : MethodId) (x0 : Int32) (x1 : Int32) (x2 : Int32) (x3 : Int32) : entryFrame m #[(.int x0), (.int x1), (.int x2), (.int x3)] maxLocals = mkF m 0 #[.val (.int x0), .val (.int x1), .val (.int x2), .val (.int x3), .unset, .unset, .unset, .unset, .unset, .unset, .unset, .unset, .unset, .unset, .unset] [] := by simp [entryFrame, mkF, argsToLocals, Value.category, maxLocals]
theorem own_pd_37 : parseMethodDescriptor "([C)V" = some ⟨[(.array .char)], none⟩ := by decide +kernel
theorem own_pd_38 : parseMethodDescriptor "(Ljava/lang/String;I)I" = some ⟨[(.object "java/lang/String"), .int], some .int⟩ := by decide +kernel
theorem own_pd_39 : parseMethodDescriptor "(ICIII)Z" = some ⟨[.int, .char, .int, .int, .int], some .boolean⟩ := by decide +kernel
theorem own_pd_40 : parseMethodDescriptor "(CCCCI)C" = some ⟨[.char, .char, .char, .char, .int], some .char⟩ := by decide +kernel
set_option maxRecDepth 65536 in
set_option maxHeartbeats 4000000 in
theorem own_law (l : Launch) (Z : State) (a0 : Array Value) (hw : ∀ d ∈ tables_1, d.before a0 Z = true) (cm : Com Z) (us : U16s Z) (sf : Sfo Z) (h0 : Heap) (n0 : Nat) (O : Old Z n0 h0) (p0 : Int32) (p1 : Int32) (p2 : Int32) (p3 : Int32) :
    ConS consts_1 l Z n0 x code maxLocals ret tables_1 room_1 #[(.int p0), (.int p1), (.int p2), (.int p3)] h0 [] [] (fun v h' => v = some (.int 1)) := by
  refine ConS.of (a0 := a0) (plainFor_of_name own_pn_29) O (own_EW hw) (fun _ q => nomatch q) ?_
  intro p e s m below meth cdX T S hby hml hret hnm
  refine Go.cast (own_ef_36 m p0 p1 p2 p3) ?_
  refine S.iloadN 1 (hb hby at_0) rfl ?_
  refine S.ldcI 3 (hb hby at_1) (Tw hw 0 rfl) ?_
  refine S.iand 4 (hb hby at_3) ?_
  show Go p e below _ T (mkF m 4 #[.val (.int p0), .val (.int p1), .val (.int p2), .val (.int p3), .unset, .unset, .unset, .unset, .unset, .unset, .unset, .unset, .unset, .unset, .unset] [(.int (p0 &&& (65535 : Int32)))])
  refine S.i2c 5 (hb hby at_4) ?_
  have u16_c_1530 := u16_i2c (p0 &&& (65535 : Int32))
  generalize e_c_1530 : ((p0 &&& (65535 : Int32)).toUInt32.toUInt16.toUInt32.toInt32) = c_1530 at u16_c_1530 ⊢
  refine S.istore 7 #[.val (.int p0), .val (.int p1), .val (.int p2), .val (.int p3), .val (.int c_1530), .unset, .unset, .unset, .unset, .unset, .unset, .unset, .unset, .unset, .unset] (hb hby at_5) rfl ?_
  refine S.iloadN 8 (hb hby at_7) rfl ?_
  refine S.bipush 10 (16 : Int32) (hb hby at_8) ?_
  refine S.iushr 11 (hb hby at_10) ?_
  show Go p e below _ T (mkF m 11 #[.val (.int p0), .val (.int p1), .val (.int p2), .val (.int p3), .val (.int c_1530), .unset, .unset, .unset, .unset, .unset, .unset, .unset, .unset, .unset, .unset] [(.int ((p0.toUInt32 >>> ((16 : Int32) &&& 31).toUInt32).toInt32))])
  refine S.i2c 12 (hb hby at_11) ?_
  have u16_c_1531 := u16_i2c ((p0.toUInt32 >>> ((16 : Int32) &&& 31).toUInt32).toInt32)
  generalize e_c_1531 : (((p0.toUInt32 >>> ((16 : Int32) &&& 31).toUInt32).toInt32).toUInt32.toUInt16.toUInt32.toInt32) = c_1531 at u16_c_1531 ⊢
  refine S.istore 14 #[.val (.int p0), .val (.int p1), .val (.int p2), .val (.int p3), .val (.int c_1530), .val (.int c_1531), .unset, .unset, .unset, .unset, .unset, .unset, .unset, .unset, .unset] (hb hby at_12) rfl ?_
  refine S.iloadN 15 (hb hby at_14) rfl ?_
  refine S.ldcI 17 (hb hby at_15) (Tw hw 0 rfl) ?_
  refine S.iand 18 (hb hby at_17) ?_
  show Go p e below _ T (mkF m 18 #[.val (.int p0), .val (.int p1), .val (.int p2), .val (.int p3), .val (.int c_1530), .val (.int c_1531), .unset, .unset, .unset, .unset, .unset, .unset, .unset, .unset, .unset] [(.int (p1 &&& (65535 : Int32)))])
  refine S.i2c 19 (hb hby at_18) ?_
  have u16_c_1532 := u16_i2c (p1 &&& (65535 : Int32))
  generalize e_c_1532 : ((p1 &&& (65535 : Int32)).toUInt32.toUInt16.toUInt32.toInt32) = c_1532 at u16_c_1532 ⊢
  refine S.istore 21 #[.val (.int p0), .val (.int p1), .val (.int p2), .val (.int p3), .val (.int c_1530), .val (.int c_1531), .val (.int c_1532), .unset, .unset, .unset, .unset, .unset, .unset, .unset, .unset] (hb hby at_19) rfl ?_
  refine S.iloadN 22 (hb hby at_21) rfl ?_
  refine S.bipush 24 (16 : Int32) (hb hby at_22) ?_
  refine S.iushr 25 (hb hby at_24) ?_
  show Go p e below _ T (mkF m 25 #[.val (.int p0), .val (.int p1), .val (.int p2), .val (.int p3), .val (.int c_1530), .val (.int c_1531), .val (.int c_1532), .unset, .unset, .unset, .unset, .unset, .unset, .unset, .unset] [(.int ((p1.toUInt32 >>> ((16 : Int32) &&& 31).toUInt32).toInt32))])
  refine S.i2c 26 (hb hby at_25) ?_
  have u16_c_1533 := u16_i2c ((p1.toUInt32 >>> ((16 : Int32) &&& 31).toUInt32).toInt32)
  generalize e_c_1533 : (((p1.toUInt32 >>> ((16 : Int32) &&& 31).toUInt32).toInt32).toUInt32.toUInt16.toUInt32.toInt32) = c_1533 at u16_c_1533 ⊢
  refine S.istore 28 #[.val (.int p0), .val (.int p1), .val (.int p2), .val (.int p3), .val (.int c_1530), .val (.int c_1531), .val (.int c_1532), .val (.int c_1533), .unset, .unset, .unset, .unset, .unset, .unset, .unset] (hb hby at_26) rfl ?_
  refine S.iloadN 29 (hb hby at_28) rfl ?_
  refine S.ldcI 31 (hb hby at_29) (Tw hw 1 rfl) ?_
  refine S.iand 32 (hb hby at_31) ?_
  show Go p e below _ T (mkF m 32 #[.val (.int p0), .val (.int p1), .val (.int p2), .val (.int p3), .val (.int c_1530), .val (.int c_1531), .val (.int c_1532), .val (.int c_1533), .unset, .unset, .unset, .unset, .unset, .unset, .unset] [(.int (p2 &&& (2147483647 : Int32)))])
  refine S.iconst 33 (5 : Int32) (hb hby at_32) ?_
  refine S.irem 34 (hb hby at_33) (by decide) ?_
  show Go p e below _ T (mkF m 34 #[.val (.int p0), .val (.int p1), .val (.int p2), .val (.int p3), .val (.int c_1530), .val (.int c_1531), .val (.int c_1532), .val (.int c_1533), .unset, .unset, .unset, .unset, .unset, .unset, .unset] [(.int ((p2 &&& (2147483647 : Int32)) % (5 : Int32)))])
  have hl_ln_1534 := own_len5 p2
  generalize e_ln_1534 : ((p2 &&& (2147483647 : Int32)) % (5 : Int32)) = ln_1534 at hl_ln_1534 ⊢
  refine S.istore 36 #[.val (.int p0), .val (.int p1), .val (.int p2), .val (.int p3), .val (.int c_1530), .val (.int c_1531), .val (.int c_1532), .val (.int c_1533), .val (.int ln_1534), .unset, .unset, .unset, .unset, .unset, .unset] (hb hby at_34) rfl ?_
  have tail1536 : ∀ z1535 : Int32, ¬ z1535 < 0 → Go p e below (Done true consts_1 Z s n0 h0 [] room_1.cells room_1.slots (fun v h' => v = some (.int 1))) T (mkF m 60 #[.val (.int p0), .val (.int p1), .val (.int p2), .val (.int p3), .val (.int c_1530), .val (.int c_1531), .val (.int c_1532), .val (.int c_1533), .val (.int ln_1534), .val (.int z1535), .unset, .unset, .unset, .unset, .unset] []) := by
    intro z1535 hf1537
    refine S.iload 62 (hb hby at_60) rfl ?_
    rcases hl_ln_1534 with rfl | rfl | rfl | rfl | rfl
    · skip
      refine S.ifN 65 (hb hby at_62) (zNeF (by decide)) ?_
      refine S.iconst 66 (0 : Int32) (hb hby at_65) ?_
      refine S.newarr 68 0 (hb hby at_66) (Tw hw 3 rfl) (by decide) (by decide) (by decide) (by decide) (by decide) ?_
      intro T1538 h1539 b1540 k1541 S1542 E1543 g1544 wo1545 A1546
      have f1547 : Arv Z h1539 b1540 k1541 .char (0 : Int32) [] (.int (0 : Int32)) := A1546.pad (pad_rep [] (.int (0 : Int32)) 0)
      refine S1542.astore 70 #[.val (.int p0), .val (.int p1), .val (.int p2), .val (.int p3), .val (.int c_1530), .val (.int c_1531), .val (.int c_1532), .val (.int c_1533), .val (.int (0 : Int32)), .val (.int z1535), .val (.ref b1540), .unset, .unset, .unset, .unset] (hb hby at_68) rfl rfl ?_
      refine S1542.goto 170 (hb hby at_70) ?_
      refine S1542.new 173 (hb hby at_170) (Tw hw 4 rfl) (Tw hw 5 rfl) (Tw hw 6 rfl) (by decide) (by decide) ?_
      intro T1548 h1549 b1550 S1551 E1552 g1553 wo1554 A1555 D1556 U1557
      have l1558 : b1540 < b1550 := (by rw [g1553]; exact f1547.lt)
      have f1559 : Fld Z h1549 b1550 "java/lang/String" "coder" "B" (.int (0 : Int32)) := D1556 (Or.inr (Tw hw 30 rfl)) (ty := .byte) (by decide)
      have f1560 : Fld Z h1549 b1550 "java/lang/String" "value" "[B" .null := D1556 (Or.inr (Tw hw 32 rfl)) (ty := (.array .byte)) (by decide)
      refine S1551.dup 174 (hb hby at_173) rfl ?_
      refine S1551.aload 176 (hb hby at_174) rfl rfl ?_
      have f1561 := (f1547.ext E1552)
      refine S1551.icallS 179 (hb hby at_176) (by rw [hml]; rfl) rfl (Tw hw 7 rfl) (Tw hw 8 rfl) (Tw hw 9 rfl) (by decide) [(.ref b1540)] [(.ref b1550)] (ConS.pay (W := 1) (own_sE1 l Z a0 hw h1549 n0 S1551.old b1550 b1540 k1541 (.int (0 : Int32)) (S1551.ge wo1554) A1555 f1560 f1559 f1561) (Tw hw 9 rfl) (Tw hw 6 rfl) (by decide) (by decide)) (lenOf own_pd_37 rfl) rfl (Nle rfl) (by decide) (by decide) (Wrs.one wo1554 (Or.inl (by simp))) (by simp) ?_
      intro v1562 T1563 h1564 L1565 S1566 q1567 K1568
      obtain ⟨rfl, t1569, Z1570⟩ := q1567
      have f1571 := Z1570.exa
      show Go p e below _ T1563 (mkF m 179 #[.val (.int p0), .val (.int p1), .val (.int p2), .val (.int p3), .val (.int c_1530), .val (.int c_1531), .val (.int c_1532), .val (.int c_1533), .val (.int (0 : Int32)), .val (.int z1535), .val (.ref b1540), .unset, .unset, .unset, .unset] [(.ref b1550)])
      refine S1566.astore 181 #[.val (.int p0), .val (.int p1), .val (.int p2), .val (.int p3), .val (.int c_1530), .val (.int c_1531), .val (.int c_1532), .val (.int c_1533), .val (.int (0 : Int32)), .val (.int z1535), .val (.ref b1540), .val (.ref b1550), .unset, .unset, .unset] (hb hby at_179) rfl rfl ?_
      refine S1566.aload 183 (hb hby at_181) rfl rfl ?_
      refine S1566.iload 185 (hb hby at_183) rfl ?_
      refine S1566.scall 188 (hb hby at_185) (by rw [hml]; rfl) (Tw hw 33 rfl) (Tw hw 34 rfl) (Tw hw 35 rfl) (Tw hw 36 rfl) (by decide) [(.ref b1550), (.int z1535)] [] (Con.pay (W := 0) (own_deG_0 l Z a0 hw cm us sf h1564 n0 S1566.old b1550 t1569 z1535 (StrA.of Z1570) hf1537) (Tw hw 36 rfl) (Tw hw 35 rfl) (by decide) (by decide)) (lenOf own_pd_38 rfl) rfl (Nle rfl) (by decide) (by decide) Wrs.nil ?_
      intro v1572 T1573 h1574 L1575 S1576 q1577 K1578
      obtain ⟨rfl, e_q1577⟩ := q1577
      obtain rfl := e_q1577.symm
      show Go p e below _ T1573 (mkF m 188 #[.val (.int p0), .val (.int p1), .val (.int p2), .val (.int p3), .val (.int c_1530), .val (.int c_1531), .val (.int c_1532), .val (.int c_1533), .val (.int (0 : Int32)), .val (.int z1535), .val (.ref b1540), .val (.ref b1550), .unset, .unset, .unset] [(.int z1535)])
      refine S1576.istore 190 #[.val (.int p0), .val (.int p1), .val (.int p2), .val (.int p3), .val (.int c_1530), .val (.int c_1531), .val (.int c_1532), .val (.int c_1533), .val (.int (0 : Int32)), .val (.int z1535), .val (.ref b1540), .val (.ref b1550), .val (.int z1535), .unset, .unset] (hb hby at_188) rfl ?_
      refine S1576.iload 192 (hb hby at_190) rfl ?_
      refine S1576.iload 194 (hb hby at_192) rfl ?_
      refine S1576.icmpN 197 (hb hby at_194) (qLtF hf1537) ?_
      refine S1576.iload 199 (hb hby at_197) rfl ?_
      refine S1576.iload 201 (hb hby at_199) rfl ?_
      refine S1576.icmpN 204 (hb hby at_201) (qNeF rfl) ?_
      refine S1576.iconst 205 (1 : Int32) (hb hby at_204) ?_
      refine S1576.goto 209 (hb hby at_205) ?_
      exact S1576.retN (t := .boolean) (hb hby at_209) hret (by decide) (by decide) (by decide) rfl
    · skip
      refine S.ifY 73 (hb hby at_62) (zNeT (by decide)) ?_
      refine S.iload 75 (hb hby at_73) rfl ?_
      refine S.iconst 76 (1 : Int32) (hb hby at_75) ?_
      refine S.icmpN 79 (hb hby at_76) (qNeF (by decide)) ?_
      refine S.iconst 80 (1 : Int32) (hb hby at_79) ?_
      refine S.newarr 82 1 (hb hby at_80) (Tw hw 3 rfl) (by decide) (by decide) (by decide) (by decide) (by decide) ?_
      intro T1579 h1580 b1581 k1582 S1583 E1584 g1585 wo1586 A1587
      have f1588 : Arv Z h1580 b1581 k1582 .char (1 : Int32) [(.int (0 : Int32))] (.int (0 : Int32)) := A1587.pad (pad_rep [] (.int (0 : Int32)) 1)
      refine S1583.dup 83 (hb hby at_82) rfl ?_
      refine S1583.iconst 84 (0 : Int32) (hb hby at_83) ?_
      refine S1583.iload 86 (hb hby at_84) rfl ?_
      refine S1583.castore 87 0 (hb hby at_86) f1588 ⟨by decide, by decide⟩ rfl (Nle rfl) wo1586 ?_
      intro T1589 h1590 L1591 S1592 W1593 A1594
      rw [U16.nar u16_c_1530] at A1594
      have f1595 : Arv Z h1590 b1581 k1582 .char (1 : Int32) [(.int c_1530)] (.int (0 : Int32)) := A1594
      refine S1592.astore 89 #[.val (.int p0), .val (.int p1), .val (.int p2), .val (.int p3), .val (.int c_1530), .val (.int c_1531), .val (.int c_1532), .val (.int c_1533), .val (.int (1 : Int32)), .val (.int z1535), .val (.ref b1581), .unset, .unset, .unset, .unset] (hb hby at_87) rfl rfl ?_
      refine S1592.goto 170 (hb hby at_89) ?_
      refine S1592.new 173 (hb hby at_170) (Tw hw 4 rfl) (Tw hw 5 rfl) (Tw hw 6 rfl) (by decide) (by decide) ?_
      intro T1596 h1597 b1598 S1599 E1600 g1601 wo1602 A1603 D1604 U1605
      have l1606 : b1581 < b1598 := (by rw [g1601]; exact f1595.lt)
      have f1607 : Fld Z h1597 b1598 "java/lang/String" "coder" "B" (.int (0 : Int32)) := D1604 (Or.inr (Tw hw 30 rfl)) (ty := .byte) (by decide)
      have f1608 : Fld Z h1597 b1598 "java/lang/String" "value" "[B" .null := D1604 (Or.inr (Tw hw 32 rfl)) (ty := (.array .byte)) (by decide)
      refine S1599.dup 174 (hb hby at_173) rfl ?_
      refine S1599.aload 176 (hb hby at_174) rfl rfl ?_
      have f1609 := (f1595.ext E1600)
      refine S1599.icall 179 (hb hby at_176) (by rw [hml]; rfl) rfl (Tw hw 7 rfl) (Tw hw 8 rfl) (Tw hw 9 rfl) (by decide) [(.ref b1581)] [(.ref b1598)] (payNewA_1 (W := 1) c_1530 hw cm us S1599.old (S1599.ge wo1602) A1603 f1608 f1607 f1609 u16_c_1530 (by decide) (by decide)) (lenOf own_pd_37 rfl) rfl (Nle rfl) (by decide) (by decide) (Wrs.one wo1602 (Or.inl (by simp))) ?_
      intro v1610 T1611 h1612 L1613 S1614 q1615 K1616
      obtain ⟨rfl, t1617, g1618, Z1619⟩ := q1615
      have l1620 : b1581 < t1617 := Nat.lt_of_lt_of_le f1609.lt g1618
      have f1621 := Z1619.exa
      show Go p e below _ T1611 (mkF m 179 #[.val (.int p0), .val (.int p1), .val (.int p2), .val (.int p3), .val (.int c_1530), .val (.int c_1531), .val (.int c_1532), .val (.int c_1533), .val (.int (1 : Int32)), .val (.int z1535), .val (.ref b1581), .unset, .unset, .unset, .unset] [(.ref b1598)])
      refine S1614.astore 181 #[.val (.int p0), .val (.int p1), .val (.int p2), .val (.int p3), .val (.int c_1530), .val (.int c_1531), .val (.int c_1532), .val (.int c_1533), .val (.int (1 : Int32)), .val (.int z1535), .val (.ref b1581), .val (.ref b1598), .unset, .unset, .unset] (hb hby at_179) rfl rfl ?_
      by_cases hg : z1535 < (1 : Int32)
      · rcases own_lt1 hf1537 hg with rfl
        · skip
          refine S1614.aload 183 (hb hby at_181) rfl rfl ?_
          refine S1614.iload 185 (hb hby at_183) rfl ?_
          refine S1614.scall 188 (hb hby at_185) (by rw [hml]; rfl) (Tw hw 33 rfl) (Tw hw 34 rfl) (Tw hw 35 rfl) (Tw hw 36 rfl) (by decide) [(.ref b1598), (.int (0 : Int32))] [] (Con.pay (W := 0) (own_de_1_0 l Z a0 hw cm us sf h1612 n0 S1614.old b1598 t1617 c_1530 Z1619) (Tw hw 36 rfl) (Tw hw 35 rfl) (by decide) (by decide)) (lenOf own_pd_38 rfl) rfl (Nle rfl) (by decide) (by decide) Wrs.nil ?_
          intro v1622 T1623 h1624 L1625 S1626 q1627 K1628
          obtain ⟨hq_q1627, e_q1627⟩ := q1627
          obtain rfl := e_q1627.symm
          rcases hq_q1627 with ⟨rfl, nd0⟩ | ⟨rfl, d1_0⟩
          · skip
            show Go p e below _ T1623 (mkF m 188 #[.val (.int p0), .val (.int p1), .val (.int p2), .val (.int p3), .val (.int c_1530), .val (.int c_1531), .val (.int c_1532), .val (.int c_1533), .val (.int (1 : Int32)), .val (.int (0 : Int32)), .val (.ref b1581), .val (.ref b1598), .unset, .unset, .unset] [(.int (0 : Int32))])
            refine S1626.istore 190 #[.val (.int p0), .val (.int p1), .val (.int p2), .val (.int p3), .val (.int c_1530), .val (.int c_1531), .val (.int c_1532), .val (.int c_1533), .val (.int (1 : Int32)), .val (.int (0 : Int32)), .val (.ref b1581), .val (.ref b1598), .val (.int (0 : Int32)), .unset, .unset] (hb hby at_188) rfl ?_
            refine S1626.iload 192 (hb hby at_190) rfl ?_
            refine S1626.iload 194 (hb hby at_192) rfl ?_
            refine S1626.icmpY 210 (hb hby at_194) (qLtT (by decide)) ?_
            refine S1626.iload 212 (hb hby at_210) rfl ?_
            refine S1626.iload 214 (hb hby at_212) rfl ?_
            refine S1626.icmpN 217 (hb hby at_214) (qLtF (by decide)) ?_
            refine S1626.iload 219 (hb hby at_217) rfl ?_
            refine S1626.iload 221 (hb hby at_219) rfl ?_
            refine S1626.icmpY 226 (hb hby at_221) (qLeT (by decide)) ?_
            refine S1626.iconst 227 (0 : Int32) (hb hby at_226) ?_
            refine S1626.iload 229 (hb hby at_227) rfl ?_
            refine S1626.iload 231 (hb hby at_229) rfl ?_
            refine S1626.iload 233 (hb hby at_231) rfl ?_
            refine S1626.iload 235 (hb hby at_233) rfl ?_
            refine S1626.scall 238 (hb hby at_235) (by rw [hml]; rfl) (Tw hw 69 rfl) (Tw hw 70 rfl) (Tw hw 71 rfl) (Tw hw 72 rfl) (by decide) [(.int (0 : Int32)), (.int c_1530), (.int (0 : Int32)), (.int (0 : Int32)), (.int (1 : Int32))] [] (Con.pay (W := 0) (own_ok l Z a0 hw h1612 n0 S1626.old (0 : Int32) c_1530 (0 : Int32) (0 : Int32) (1 : Int32) (fun _ _ q => absurd q (by decide))) (Tw hw 72 rfl) (Tw hw 71 rfl) (by decide) (by decide)) (lenOf own_pd_39 rfl) rfl (Nle rfl) (by decide) (by decide) Wrs.nil ?_
            intro v1629 T1630 h1631 L1632 S1633 q1634 K1635
            obtain ⟨rfl, e_q1634⟩ := q1634
            obtain rfl := e_q1634.symm
            show Go p e below _ T1630 (mkF m 238 #[.val (.int p0), .val (.int p1), .val (.int p2), .val (.int p3), .val (.int c_1530), .val (.int c_1531), .val (.int c_1532), .val (.int c_1533), .val (.int (1 : Int32)), .val (.int (0 : Int32)), .val (.ref b1581), .val (.ref b1598), .val (.int (0 : Int32)), .unset, .unset] [(.int (1 : Int32))])
            refine S1633.ifN 241 (hb hby at_238) (zEqF (by decide)) ?_
            refine S1633.iconst 242 (1 : Int32) (hb hby at_241) ?_
            refine S1633.iload 244 (hb hby at_242) rfl ?_
            refine S1633.iload 246 (hb hby at_244) rfl ?_
            refine S1633.iload 248 (hb hby at_246) rfl ?_
            refine S1633.iload 250 (hb hby at_248) rfl ?_
            refine S1633.scall 253 (hb hby at_250) (by rw [hml]; rfl) (Tw hw 69 rfl) (Tw hw 70 rfl) (Tw hw 71 rfl) (Tw hw 72 rfl) (by decide) [(.int (1 : Int32)), (.int c_1531), (.int (0 : Int32)), (.int (0 : Int32)), (.int (1 : Int32))] [] (Con.pay (W := 0) (own_ok l Z a0 hw h1612 n0 S1633.old (1 : Int32) c_1531 (0 : Int32) (0 : Int32) (1 : Int32) (fun q _ _ => absurd q (by decide))) (Tw hw 72 rfl) (Tw hw 71 rfl) (by decide) (by decide)) (lenOf own_pd_39 rfl) rfl (Nle rfl) (by decide) (by decide) Wrs.nil ?_
            intro v1636 T1637 h1638 L1639 S1640 q1641 K1642
            obtain ⟨rfl, e_q1641⟩ := q1641
            obtain rfl := e_q1641.symm
            show Go p e below _ T1637 (mkF m 253 #[.val (.int p0), .val (.int p1), .val (.int p2), .val (.int p3), .val (.int c_1530), .val (.int c_1531), .val (.int c_1532), .val (.int c_1533), .val (.int (1 : Int32)), .val (.int (0 : Int32)), .val (.ref b1581), .val (.ref b1598), .val (.int (0 : Int32)), .unset, .unset] [(.int (1 : Int32))])
            refine S1640.ifN 256 (hb hby at_253) (zEqF (by decide)) ?_
            refine S1640.iconst 257 (2 : Int32) (hb hby at_256) ?_
            refine S1640.iload 259 (hb hby at_257) rfl ?_
            refine S1640.iload 261 (hb hby at_259) rfl ?_
            refine S1640.iload 263 (hb hby at_261) rfl ?_
            refine S1640.iload 265 (hb hby at_263) rfl ?_
            refine S1640.scall 268 (hb hby at_265) (by rw [hml]; rfl) (Tw hw 69 rfl) (Tw hw 70 rfl) (Tw hw 71 rfl) (Tw hw 72 rfl) (by decide) [(.int (2 : Int32)), (.int c_1532), (.int (0 : Int32)), (.int (0 : Int32)), (.int (1 : Int32))] [] (Con.pay (W := 0) (own_ok l Z a0 hw h1612 n0 S1640.old (2 : Int32) c_1532 (0 : Int32) (0 : Int32) (1 : Int32) (fun q _ _ => absurd q (by decide))) (Tw hw 72 rfl) (Tw hw 71 rfl) (by decide) (by decide)) (lenOf own_pd_39 rfl) rfl (Nle rfl) (by decide) (by decide) Wrs.nil ?_
            intro v1643 T1644 h1645 L1646 S1647 q1648 K1649
            obtain ⟨rfl, e_q1648⟩ := q1648
            obtain rfl := e_q1648.symm
            show Go p e below _ T1644 (mkF m 268 #[.val (.int p0), .val (.int p1), .val (.int p2), .val (.int p3), .val (.int c_1530), .val (.int c_1531), .val (.int c_1532), .val (.int c_1533), .val (.int (1 : Int32)), .val (.int (0 : Int32)), .val (.ref b1581), .val (.ref b1598), .val (.int (0 : Int32)), .unset, .unset] [(.int (1 : Int32))])
            refine S1647.ifN 271 (hb hby at_268) (zEqF (by decide)) ?_
            refine S1647.iconst 272 (3 : Int32) (hb hby at_271) ?_
            refine S1647.iload 274 (hb hby at_272) rfl ?_
            refine S1647.iload 276 (hb hby at_274) rfl ?_
            refine S1647.iload 278 (hb hby at_276) rfl ?_
            refine S1647.iload 280 (hb hby at_278) rfl ?_
            refine S1647.scall 283 (hb hby at_280) (by rw [hml]; rfl) (Tw hw 69 rfl) (Tw hw 70 rfl) (Tw hw 71 rfl) (Tw hw 72 rfl) (by decide) [(.int (3 : Int32)), (.int c_1533), (.int (0 : Int32)), (.int (0 : Int32)), (.int (1 : Int32))] [] (Con.pay (W := 0) (own_ok l Z a0 hw h1612 n0 S1647.old (3 : Int32) c_1533 (0 : Int32) (0 : Int32) (1 : Int32) (fun q _ _ => absurd q (by decide))) (Tw hw 72 rfl) (Tw hw 71 rfl) (by decide) (by decide)) (lenOf own_pd_39 rfl) rfl (Nle rfl) (by decide) (by decide) Wrs.nil ?_
            intro v1650 T1651 h1652 L1653 S1654 q1655 K1656
            obtain ⟨rfl, e_q1655⟩ := q1655
            obtain rfl := e_q1655.symm
            show Go p e below _ T1651 (mkF m 283 #[.val (.int p0), .val (.int p1), .val (.int p2), .val (.int p3), .val (.int c_1530), .val (.int c_1531), .val (.int c_1532), .val (.int c_1533), .val (.int (1 : Int32)), .val (.int (0 : Int32)), .val (.ref b1581), .val (.ref b1598), .val (.int (0 : Int32)), .unset, .unset] [(.int (1 : Int32))])
            refine S1654.ifN 286 (hb hby at_283) (zEqF (by decide)) ?_
            refine S1654.iconst 287 (1 : Int32) (hb hby at_286) ?_
            refine S1654.goto 291 (hb hby at_287) ?_
            refine S1654.istore 293 #[.val (.int p0), .val (.int p1), .val (.int p2), .val (.int p3), .val (.int c_1530), .val (.int c_1531), .val (.int c_1532), .val (.int c_1533), .val (.int (1 : Int32)), .val (.int (0 : Int32)), .val (.ref b1581), .val (.ref b1598), .val (.int (0 : Int32)), .val (.int (1 : Int32)), .unset] (hb hby at_291) rfl ?_
            refine S1654.iload 295 (hb hby at_293) rfl ?_
            refine S1654.iload 297 (hb hby at_295) rfl ?_
            refine S1654.icmpN 300 (hb hby at_297) (qEqF (by decide)) ?_
            refine S1654.iload 302 (hb hby at_300) rfl ?_
            refine S1654.iload 304 (hb hby at_302) rfl ?_
            refine S1654.iload 306 (hb hby at_304) rfl ?_
            refine S1654.iload 308 (hb hby at_306) rfl ?_
            refine S1654.iload 310 (hb hby at_308) rfl ?_
            refine S1654.scall 313 (hb hby at_310) (by rw [hml]; rfl) (Tw hw 73 rfl) (Tw hw 74 rfl) (Tw hw 71 rfl) (Tw hw 75 rfl) (by decide) [(.int c_1530), (.int c_1531), (.int c_1532), (.int c_1533), (.int (0 : Int32))] [] (Con.pay (W := 0) (own_at0 l Z a0 hw h1612 n0 S1654.old c_1530 c_1531 c_1532 c_1533 u16_c_1530) (Tw hw 75 rfl) (Tw hw 71 rfl) (by decide) (by decide)) (lenOf own_pd_40 rfl) rfl (Nle rfl) (by decide) (by decide) Wrs.nil ?_
            intro v1657 T1658 h1659 L1660 S1661 q1662 K1663
            obtain ⟨rfl, e_q1662⟩ := q1662
            obtain rfl := e_q1662.symm
            show Go p e below _ T1658 (mkF m 313 #[.val (.int p0), .val (.int p1), .val (.int p2), .val (.int p3), .val (.int c_1530), .val (.int c_1531), .val (.int c_1532), .val (.int c_1533), .val (.int (1 : Int32)), .val (.int (0 : Int32)), .val (.ref b1581), .val (.ref b1598), .val (.int (0 : Int32)), .val (.int (1 : Int32)), .unset] [(.int c_1530)])
            refine S1661.scall 316 (hb hby at_313) (by rw [hml]; rfl) (Tw hw 76 rfl) (Tw hw 77 rfl) (Tw hw 71 rfl) (Tw hw 78 rfl) (by decide) [(.int c_1530)] [] (Con.pay (W := 0) (own_dig0 l Z a0 hw h1612 n0 S1661.old c_1530 nd0) (Tw hw 78 rfl) (Tw hw 71 rfl) (by decide) (by decide)) (lenOf own_pd_31 rfl) rfl (Nle rfl) (by decide) (by decide) Wrs.nil ?_
            intro v1664 T1665 h1666 L1667 S1668 q1669 K1670
            obtain ⟨rfl, e_q1669⟩ := q1669
            obtain rfl := e_q1669.symm
            show Go p e below _ T1665 (mkF m 316 #[.val (.int p0), .val (.int p1), .val (.int p2), .val (.int p3), .val (.int c_1530), .val (.int c_1531), .val (.int c_1532), .val (.int c_1533), .val (.int (1 : Int32)), .val (.int (0 : Int32)), .val (.ref b1581), .val (.ref b1598), .val (.int (0 : Int32)), .val (.int (1 : Int32)), .unset] [(.int (0 : Int32))])
            refine S1668.ifN 319 (hb hby at_316) (zNeF (by decide)) ?_
            refine S1668.iconst 320 (1 : Int32) (hb hby at_319) ?_
            refine S1668.goto 324 (hb hby at_320) ?_
            refine S1668.istore 326 #[.val (.int p0), .val (.int p1), .val (.int p2), .val (.int p3), .val (.int c_1530), .val (.int c_1531), .val (.int c_1532), .val (.int c_1533), .val (.int (1 : Int32)), .val (.int (0 : Int32)), .val (.ref b1581), .val (.ref b1598), .val (.int (0 : Int32)), .val (.int (1 : Int32)), .val (.int (1 : Int32))] (hb hby at_324) rfl ?_
            refine S1668.iload 328 (hb hby at_326) rfl ?_
            refine S1668.ifN 331 (hb hby at_328) (zEqF (by decide)) ?_
            refine S1668.iload 333 (hb hby at_331) rfl ?_
            refine S1668.ifN 336 (hb hby at_333) (zEqF (by decide)) ?_
            refine S1668.iconst 337 (1 : Int32) (hb hby at_336) ?_
            refine S1668.goto 341 (hb hby at_337) ?_
            exact S1668.retN (t := .boolean) (hb hby at_341) hret (by decide) (by decide) (by decide) rfl
          · skip
            show Go p e below _ T1623 (mkF m 188 #[.val (.int p0), .val (.int p1), .val (.int p2), .val (.int p3), .val (.int c_1530), .val (.int c_1531), .val (.int c_1532), .val (.int c_1533), .val (.int (1 : Int32)), .val (.int (0 : Int32)), .val (.ref b1581), .val (.ref b1598), .unset, .unset, .unset] [(.int (1 : Int32))])
            refine S1626.istore 190 #[.val (.int p0), .val (.int p1), .val (.int p2), .val (.int p3), .val (.int c_1530), .val (.int c_1531), .val (.int c_1532), .val (.int c_1533), .val (.int (1 : Int32)), .val (.int (0 : Int32)), .val (.ref b1581), .val (.ref b1598), .val (.int (1 : Int32)), .unset, .unset] (hb hby at_188) rfl ?_
            refine S1626.iload 192 (hb hby at_190) rfl ?_
            refine S1626.iload 194 (hb hby at_192) rfl ?_
            refine S1626.icmpY 210 (hb hby at_194) (qLtT (by decide)) ?_
            refine S1626.iload 212 (hb hby at_210) rfl ?_
            refine S1626.iload 214 (hb hby at_212) rfl ?_
            refine S1626.icmpN 217 (hb hby at_214) (qLtF (by decide)) ?_
            refine S1626.iload 219 (hb hby at_217) rfl ?_
            refine S1626.iload 221 (hb hby at_219) rfl ?_
            refine S1626.icmpY 226 (hb hby at_221) (qLeT (by decide)) ?_
            refine S1626.iconst 227 (0 : Int32) (hb hby at_226) ?_
            refine S1626.iload 229 (hb hby at_227) rfl ?_
            refine S1626.iload 231 (hb hby at_229) rfl ?_
            refine S1626.iload 233 (hb hby at_231) rfl ?_
            refine S1626.iload 235 (hb hby at_233) rfl ?_
            refine S1626.scall 238 (hb hby at_235) (by rw [hml]; rfl) (Tw hw 69 rfl) (Tw hw 70 rfl) (Tw hw 71 rfl) (Tw hw 72 rfl) (by decide) [(.int (0 : Int32)), (.int c_1530), (.int (0 : Int32)), (.int (1 : Int32)), (.int (1 : Int32))] [] (Con.pay (W := 0) (own_ok l Z a0 hw h1612 n0 S1626.old (0 : Int32) c_1530 (0 : Int32) (1 : Int32) (1 : Int32) (fun _ _ _ => d1_0)) (Tw hw 72 rfl) (Tw hw 71 rfl) (by decide) (by decide)) (lenOf own_pd_39 rfl) rfl (Nle rfl) (by decide) (by decide) Wrs.nil ?_
            intro v1671 T1672 h1673 L1674 S1675 q1676 K1677
            obtain ⟨rfl, e_q1676⟩ := q1676
            obtain rfl := e_q1676.symm
            show Go p e below _ T1672 (mkF m 238 #[.val (.int p0), .val (.int p1), .val (.int p2), .val (.int p3), .val (.int c_1530), .val (.int c_1531), .val (.int c_1532), .val (.int c_1533), .val (.int (1 : Int32)), .val (.int (0 : Int32)), .val (.ref b1581), .val (.ref b1598), .val (.int (1 : Int32)), .unset, .unset] [(.int (1 : Int32))])
            refine S1675.ifN 241 (hb hby at_238) (zEqF (by decide)) ?_
            refine S1675.iconst 242 (1 : Int32) (hb hby at_241) ?_
            refine S1675.iload 244 (hb hby at_242) rfl ?_
            refine S1675.iload 246 (hb hby at_244) rfl ?_
            refine S1675.iload 248 (hb hby at_246) rfl ?_
            refine S1675.iload 250 (hb hby at_248) rfl ?_
            refine S1675.scall 253 (hb hby at_250) (by rw [hml]; rfl) (Tw hw 69 rfl) (Tw hw 70 rfl) (Tw hw 71 rfl) (Tw hw 72 rfl) (by decide) [(.int (1 : Int32)), (.int c_1531), (.int (0 : Int32)), (.int (1 : Int32)), (.int (1 : Int32))] [] (Con.pay (W := 0) (own_ok l Z a0 hw h1612 n0 S1675.old (1 : Int32) c_1531 (0 : Int32) (1 : Int32) (1 : Int32) (fun q _ _ => absurd q (by decide))) (Tw hw 72 rfl) (Tw hw 71 rfl) (by decide) (by decide)) (lenOf own_pd_39 rfl) rfl (Nle rfl) (by decide) (by decide) Wrs.nil ?_
            intro v1678 T1679 h1680 L1681 S1682 q1683 K1684
            obtain ⟨rfl, e_q1683⟩ := q1683
            obtain rfl := e_q1683.symm
            show Go p e below _ T1679 (mkF m 253 #[.val (.int p0), .val (.int p1), .val (.int p2), .val (.int p3), .val (.int c_1530), .val (.int c_1531), .val (.int c_1532), .val (.int c_1533), .val (.int (1 : Int32)), .val (.int (0 : Int32)), .val (.ref b1581), .val (.ref b1598), .val (.int (1 : Int32)), .unset, .unset] [(.int (1 : Int32))])
            refine S1682.ifN 256 (hb hby at_253) (zEqF (by decide)) ?_
            refine S1682.iconst 257 (2 : Int32) (hb hby at_256) ?_
            refine S1682.iload 259 (hb hby at_257) rfl ?_
            refine S1682.iload 261 (hb hby at_259) rfl ?_
            refine S1682.iload 263 (hb hby at_261) rfl ?_
            refine S1682.iload 265 (hb hby at_263) rfl ?_
            refine S1682.scall 268 (hb hby at_265) (by rw [hml]; rfl) (Tw hw 69 rfl) (Tw hw 70 rfl) (Tw hw 71 rfl) (Tw hw 72 rfl) (by decide) [(.int (2 : Int32)), (.int c_1532), (.int (0 : Int32)), (.int (1 : Int32)), (.int (1 : Int32))] [] (Con.pay (W := 0) (own_ok l Z a0 hw h1612 n0 S1682.old (2 : Int32) c_1532 (0 : Int32) (1 : Int32) (1 : Int32) (fun q _ _ => absurd q (by decide))) (Tw hw 72 rfl) (Tw hw 71 rfl) (by decide) (by decide)) (lenOf own_pd_39 rfl) rfl (Nle rfl) (by decide) (by decide) Wrs.nil ?_
            intro v1685 T1686 h1687 L1688 S1689 q1690 K1691
            obtain ⟨rfl, e_q1690⟩ := q1690
            obtain rfl := e_q1690.symm
            show Go p e below _ T1686 (mkF m 268 #[.val (.int p0), .val (.int p1), .val (.int p2), .val (.int p3), .val (.int c_1530), .val (.int c_1531), .val (.int c_1532), .val (.int c_1533), .val (.int (1 : Int32)), .val (.int (0 : Int32)), .val (.ref b1581), .val (.ref b1598), .val (.int (1 : Int32)), .unset, .unset] [(.int (1 : Int32))])
            refine S1689.ifN 271 (hb hby at_268) (zEqF (by decide)) ?_
            refine S1689.iconst 272 (3 : Int32) (hb hby at_271) ?_
            refine S1689.iload 274 (hb hby at_272) rfl ?_
            refine S1689.iload 276 (hb hby at_274) rfl ?_
            refine S1689.iload 278 (hb hby at_276) rfl ?_
            refine S1689.iload 280 (hb hby at_278) rfl ?_
            refine S1689.scall 283 (hb hby at_280) (by rw [hml]; rfl) (Tw hw 69 rfl) (Tw hw 70 rfl) (Tw hw 71 rfl) (Tw hw 72 rfl) (by decide) [(.int (3 : Int32)), (.int c_1533), (.int (0 : Int32)), (.int (1 : Int32)), (.int (1 : Int32))] [] (Con.pay (W := 0) (own_ok l Z a0 hw h1612 n0 S1689.old (3 : Int32) c_1533 (0 : Int32) (1 : Int32) (1 : Int32) (fun q _ _ => absurd q (by decide))) (Tw hw 72 rfl) (Tw hw 71 rfl) (by decide) (by decide)) (lenOf own_pd_39 rfl) rfl (Nle rfl) (by decide) (by decide) Wrs.nil ?_
            intro v1692 T1693 h1694 L1695 S1696 q1697 K1698
            obtain ⟨rfl, e_q1697⟩ := q1697
            obtain rfl := e_q1697.symm
            show Go p e below _ T1693 (mkF m 283 #[.val (.int p0), .val (.int p1), .val (.int p2), .val (.int p3), .val (.int c_1530), .val (.int c_1531), .val (.int c_1532), .val (.int c_1533), .val (.int (1 : Int32)), .val (.int (0 : Int32)), .val (.ref b1581), .val (.ref b1598), .val (.int (1 : Int32)), .unset, .unset] [(.int (1 : Int32))])
            refine S1696.ifN 286 (hb hby at_283) (zEqF (by decide)) ?_
            refine S1696.iconst 287 (1 : Int32) (hb hby at_286) ?_
            refine S1696.goto 291 (hb hby at_287) ?_
            refine S1696.istore 293 #[.val (.int p0), .val (.int p1), .val (.int p2), .val (.int p3), .val (.int c_1530), .val (.int c_1531), .val (.int c_1532), .val (.int c_1533), .val (.int (1 : Int32)), .val (.int (0 : Int32)), .val (.ref b1581), .val (.ref b1598), .val (.int (1 : Int32)), .val (.int (1 : Int32)), .unset] (hb hby at_291) rfl ?_
            refine S1696.iload 295 (hb hby at_293) rfl ?_
            refine S1696.iload 297 (hb hby at_295) rfl ?_
            refine S1696.icmpY 319 (hb hby at_297) (qEqT (by decide)) ?_
            refine S1696.iconst 320 (1 : Int32) (hb hby at_319) ?_
            refine S1696.goto 324 (hb hby at_320) ?_
            refine S1696.istore 326 #[.val (.int p0), .val (.int p1), .val (.int p2), .val (.int p3), .val (.int c_1530), .val (.int c_1531), .val (.int c_1532), .val (.int c_1533), .val (.int (1 : Int32)), .val (.int (0 : Int32)), .val (.ref b1581), .val (.ref b1598), .val (.int (1 : Int32)), .val (.int (1 : Int32)), .val (.int (1 : Int32))] (hb hby at_324) rfl ?_
            refine S1696.iload 328 (hb hby at_326) rfl ?_
            refine S1696.ifN 331 (hb hby at_328) (zEqF (by decide)) ?_
            refine S1696.iload 333 (hb hby at_331) rfl ?_
            refine S1696.ifN 336 (hb hby at_333) (zEqF (by decide)) ?_
            refine S1696.iconst 337 (1 : Int32) (hb hby at_336) ?_
            refine S1696.goto 341 (hb hby at_337) ?_
            exact S1696.retN (t := .boolean) (hb hby at_341) hret (by decide) (by decide) (by decide) rfl
      · skip
        refine S1614.aload 183 (hb hby at_181) rfl rfl ?_
        refine S1614.iload 185 (hb hby at_183) rfl ?_
        refine S1614.scall 188 (hb hby at_185) (by rw [hml]; rfl) (Tw hw 33 rfl) (Tw hw 34 rfl) (Tw hw 35 rfl) (Tw hw 36 rfl) (by decide) [(.ref b1598), (.int z1535)] [] (Con.pay (W := 0) (own_deG_1 l Z a0 hw cm us sf h1612 n0 S1614.old b1598 t1617 c_1530 z1535 Z1619 hg) (Tw hw 36 rfl) (Tw hw 35 rfl) (by decide) (by decide)) (lenOf own_pd_38 rfl) rfl (Nle rfl) (by decide) (by decide) Wrs.nil ?_
        intro v1699 T1700 h1701 L1702 S1703 q1704 K1705
        obtain ⟨rfl, e_q1704⟩ := q1704
        obtain rfl := e_q1704.symm
        show Go p e below _ T1700 (mkF m 188 #[.val (.int p0), .val (.int p1), .val (.int p2), .val (.int p3), .val (.int c_1530), .val (.int c_1531), .val (.int c_1532), .val (.int c_1533), .val (.int (1 : Int32)), .val (.int z1535), .val (.ref b1581), .val (.ref b1598), .unset, .unset, .unset] [(.int z1535)])
        refine S1703.istore 190 #[.val (.int p0), .val (.int p1), .val (.int p2), .val (.int p3), .val (.int c_1530), .val (.int c_1531), .val (.int c_1532), .val (.int c_1533), .val (.int (1 : Int32)), .val (.int z1535), .val (.ref b1581), .val (.ref b1598), .val (.int z1535), .unset, .unset] (hb hby at_188) rfl ?_
        refine S1703.iload 192 (hb hby at_190) rfl ?_
        refine S1703.iload 194 (hb hby at_192) rfl ?_
        refine S1703.icmpN 197 (hb hby at_194) (qLtF hg) ?_
        refine S1703.iload 199 (hb hby at_197) rfl ?_
        refine S1703.iload 201 (hb hby at_199) rfl ?_
        refine S1703.icmpN 204 (hb hby at_201) (qNeF rfl) ?_
        refine S1703.iconst 205 (1 : Int32) (hb hby at_204) ?_
        refine S1703.goto 209 (hb hby at_205) ?_
        exact S1703.retN (t := .boolean) (hb hby at_209) hret (by decide) (by decide) (by decide) rfl
    · skip
      refine S.ifY 73 (hb hby at_62) (zNeT (by decide)) ?_
      refine S.iload 75 (hb hby at_73) rfl ?_
      refine S.iconst 76 (1 : Int32) (hb hby at_75) ?_
      refine S.icmpY 92 (hb hby at_76) (qNeT (by decide)) ?_
      refine S.iload 94 (hb hby at_92) rfl ?_
      refine S.iconst 95 (2 : Int32) (hb hby at_94) ?_
      refine S.icmpN 98 (hb hby at_95) (qNeF (by decide)) ?_
      refine S.iconst 99 (2 : Int32) (hb hby at_98) ?_
      refine S.newarr 101 2 (hb hby at_99) (Tw hw 3 rfl) (by decide) (by decide) (by decide) (by decide) (by decide) ?_
      intro T1706 h1707 b1708 k1709 S1710 E1711 g1712 wo1713 A1714
      have f1715 : Arv Z h1707 b1708 k1709 .char (2 : Int32) [(.int (0 : Int32)), (.int (0 : Int32))] (.int (0 : Int32)) := A1714.pad (pad_rep [] (.int (0 : Int32)) 2)
      refine S1710.dup 102 (hb hby at_101) rfl ?_
      refine S1710.iconst 103 (0 : Int32) (hb hby at_102) ?_
      refine S1710.iload 105 (hb hby at_103) rfl ?_
      refine S1710.castore 106 0 (hb hby at_105) f1715 ⟨by decide, by decide⟩ rfl (Nle rfl) wo1713 ?_
      intro T1716 h1717 L1718 S1719 W1720 A1721
      rw [U16.nar u16_c_1530] at A1721
      have f1722 : Arv Z h1717 b1708 k1709 .char (2 : Int32) [(.int c_1530), (.int (0 : Int32))] (.int (0 : Int32)) := A1721
      refine S1719.dup 107 (hb hby at_106) rfl ?_
      refine S1719.iconst 108 (1 : Int32) (hb hby at_107) ?_
      refine S1719.iload 110 (hb hby at_108) rfl ?_
      refine S1719.castore 111 1 (hb hby at_110) f1722 ⟨by decide, by decide⟩ rfl (Nle rfl) wo1713 ?_
      intro T1723 h1724 L1725 S1726 W1727 A1728
      rw [U16.nar u16_c_1531] at A1728
      have f1729 : Arv Z h1724 b1708 k1709 .char (2 : Int32) [(.int c_1530), (.int c_1531)] (.int (0 : Int32)) := A1728
      refine S1726.astore 113 #[.val (.int p0), .val (.int p1), .val (.int p2), .val (.int p3), .val (.int c_1530), .val (.int c_1531), .val (.int c_1532), .val (.int c_1533), .val (.int (2 : Int32)), .val (.int z1535), .val (.ref b1708), .unset, .unset, .unset, .unset] (hb hby at_111) rfl rfl ?_
      refine S1726.goto 170 (hb hby at_113) ?_
      refine S1726.new 173 (hb hby at_170) (Tw hw 4 rfl) (Tw hw 5 rfl) (Tw hw 6 rfl) (by decide) (by decide) ?_
      intro T1730 h1731 b1732 S1733 E1734 g1735 wo1736 A1737 D1738 U1739
      have l1740 : b1708 < b1732 := (by rw [g1735]; exact f1729.lt)
      have f1741 : Fld Z h1731 b1732 "java/lang/String" "coder" "B" (.int (0 : Int32)) := D1738 (Or.inr (Tw hw 30 rfl)) (ty := .byte) (by decide)
      have f1742 : Fld Z h1731 b1732 "java/lang/String" "value" "[B" .null := D1738 (Or.inr (Tw hw 32 rfl)) (ty := (.array .byte)) (by decide)
      refine S1733.dup 174 (hb hby at_173) rfl ?_
      refine S1733.aload 176 (hb hby at_174) rfl rfl ?_
      have f1743 := (f1729.ext E1734)
      refine S1733.icall 179 (hb hby at_176) (by rw [hml]; rfl) rfl (Tw hw 7 rfl) (Tw hw 8 rfl) (Tw hw 9 rfl) (by decide) [(.ref b1708)] [(.ref b1732)] (payNewA_2 (W := 1) c_1530 c_1531 hw cm us S1733.old (S1733.ge wo1736) A1737 f1742 f1741 f1743 u16_c_1530 u16_c_1531 (by decide) (by decide)) (lenOf own_pd_37 rfl) rfl (Nle rfl) (by decide) (by decide) (Wrs.one wo1736 (Or.inl (by simp))) ?_
      intro v1744 T1745 h1746 L1747 S1748 q1749 K1750
      obtain ⟨rfl, t1751, g1752, Z1753⟩ := q1749
      have l1754 : b1708 < t1751 := Nat.lt_of_lt_of_le f1743.lt g1752
      have f1755 := Z1753.exa
      show Go p e below _ T1745 (mkF m 179 #[.val (.int p0), .val (.int p1), .val (.int p2), .val (.int p3), .val (.int c_1530), .val (.int c_1531), .val (.int c_1532), .val (.int c_1533), .val (.int (2 : Int32)), .val (.int z1535), .val (.ref b1708), .unset, .unset, .unset, .unset] [(.ref b1732)])
      refine S1748.astore 181 #[.val (.int p0), .val (.int p1), .val (.int p2), .val (.int p3), .val (.int c_1530), .val (.int c_1531), .val (.int c_1532), .val (.int c_1533), .val (.int (2 : Int32)), .val (.int z1535), .val (.ref b1708), .val (.ref b1732), .unset, .unset, .unset] (hb hby at_179) rfl rfl ?_
      by_cases hg : z1535 < (2 : Int32)
      · rcases own_lt2 hf1537 hg with rfl | rfl
        · skip
          refine S1748.aload 183 (hb hby at_181) rfl rfl ?_
          refine S1748.iload 185 (hb hby at_183) rfl ?_
          refine S1748.scall 188 (hb hby at_185) (by rw [hml]; rfl) (Tw hw 33 rfl) (Tw hw 34 rfl) (Tw hw 35 rfl) (Tw hw 36 rfl) (by decide) [(.ref b1732), (.int (0 : Int32))] [] (Con.pay (W := 0) (own_de_2_0 l Z a0 hw cm us sf h1746 n0 S1748.old b1732 t1751 c_1530 c_1531 Z1753) (Tw hw 36 rfl) (Tw hw 35 rfl) (by decide) (by decide)) (lenOf own_pd_38 rfl) rfl (Nle rfl) (by decide) (by decide) Wrs.nil ?_
          intro v1756 T1757 h1758 L1759 S1760 q1761 K1762
          obtain ⟨hq_q1761, e_q1761⟩ := q1761
          obtain rfl := e_q1761.symm
          rcases hq_q1761 with ⟨rfl, nd0⟩ | ⟨rfl, d1_0, nd1⟩ | ⟨rfl, d2_0, d2_1⟩
          · skip
            show Go p e below _ T1757 (mkF m 188 #[.val (.int p0), .val (.int p1), .val (.int p2), .val (.int p3), .val (.int c_1530), .val (.int c_1531), .val (.int c_1532), .val (.int c_1533), .val (.int (2 : Int32)), .val (.int (0 : Int32)), .val (.ref b1708), .val (.ref b1732), .unset, .unset, .unset] [(.int (0 : Int32))])
            refine S1760.istore 190 #[.val (.int p0), .val (.int p1), .val (.int p2), .val (.int p3), .val (.int c_1530), .val (.int c_1531), .val (.int c_1532), .val (.int c_1533), .val (.int (2 : Int32)), .val (.int (0 : Int32)), .val (.ref b1708), .val (.ref b1732), .val (.int (0 : Int32)), .unset, .unset] (hb hby at_188) rfl ?_
            refine S1760.iload 192 (hb hby at_190) rfl ?_
            refine S1760.iload 194 (hb hby at_192) rfl ?_
            refine S1760.icmpY 210 (hb hby at_194) (qLtT (by decide)) ?_
            refine S1760.iload 212 (hb hby at_210) rfl ?_
            refine S1760.iload 214 (hb hby at_212) rfl ?_
            refine S1760.icmpN 217 (hb hby at_214) (qLtF (by decide)) ?_
            refine S1760.iload 219 (hb hby at_217) rfl ?_
            refine S1760.iload 221 (hb hby at_219) rfl ?_
            refine S1760.icmpY 226 (hb hby at_221) (qLeT (by decide)) ?_
            refine S1760.iconst 227 (0 : Int32) (hb hby at_226) ?_
            refine S1760.iload 229 (hb hby at_227) rfl ?_
            refine S1760.iload 231 (hb hby at_229) rfl ?_
            refine S1760.iload 233 (hb hby at_231) rfl ?_
            refine S1760.iload 235 (hb hby at_233) rfl ?_
            refine S1760.scall 238 (hb hby at_235) (by rw [hml]; rfl) (Tw hw 69 rfl) (Tw hw 70 rfl) (Tw hw 71 rfl) (Tw hw 72 rfl) (by decide) [(.int (0 : Int32)), (.int c_1530), (.int (0 : Int32)), (.int (0 : Int32)), (.int (2 : Int32))] [] (Con.pay (W := 0) (own_ok l Z a0 hw h1746 n0 S1760.old (0 : Int32) c_1530 (0 : Int32) (0 : Int32) (2 : Int32) (fun _ _ q => absurd q (by decide))) (Tw hw 72 rfl) (Tw hw 71 rfl) (by decide) (by decide)) (lenOf own_pd_39 rfl) rfl (Nle rfl) (by decide) (by decide) Wrs.nil ?_
            intro v1763 T1764 h1765 L1766 S1767 q1768 K1769
            obtain ⟨rfl, e_q1768⟩ := q1768
            obtain rfl := e_q1768.symm
            show Go p e below _ T1764 (mkF m 238 #[.val (.int p0), .val (.int p1), .val (.int p2), .val (.int p3), .val (.int c_1530), .val (.int c_1531), .val (.int c_1532), .val (.int c_1533), .val (.int (2 : Int32)), .val (.int (0 : Int32)), .val (.ref b1708), .val (.ref b1732), .val (.int (0 : Int32)), .unset, .unset] [(.int (1 : Int32))])
            refine S1767.ifN 241 (hb hby at_238) (zEqF (by decide)) ?_
            refine S1767.iconst 242 (1 : Int32) (hb hby at_241) ?_
            refine S1767.iload 244 (hb hby at_242) rfl ?_
            refine S1767.iload 246 (hb hby at_244) rfl ?_
            refine S1767.iload 248 (hb hby at_246) rfl ?_
            refine S1767.iload 250 (hb hby at_248) rfl ?_
            refine S1767.scall 253 (hb hby at_250) (by rw [hml]; rfl) (Tw hw 69 rfl) (Tw hw 70 rfl) (Tw hw 71 rfl) (Tw hw 72 rfl) (by decide) [(.int (1 : Int32)), (.int c_1531), (.int (0 : Int32)), (.int (0 : Int32)), (.int (2 : Int32))] [] (Con.pay (W := 0) (own_ok l Z a0 hw h1746 n0 S1767.old (1 : Int32) c_1531 (0 : Int32) (0 : Int32) (2 : Int32) (fun _ _ q => absurd q (by decide))) (Tw hw 72 rfl) (Tw hw 71 rfl) (by decide) (by decide)) (lenOf own_pd_39 rfl) rfl (Nle rfl) (by decide) (by decide) Wrs.nil ?_
            intro v1770 T1771 h1772 L1773 S1774 q1775 K1776
            obtain ⟨rfl, e_q1775⟩ := q1775
            obtain rfl := e_q1775.symm
            show Go p e below _ T1771 (mkF m 253 #[.val (.int p0), .val (.int p1), .val (.int p2), .val (.int p3), .val (.int c_1530), .val (.int c_1531), .val (.int c_1532), .val (.int c_1533), .val (.int (2 : Int32)), .val (.int (0 : Int32)), .val (.ref b1708), .val (.ref b1732), .val (.int (0 : Int32)), .unset, .unset] [(.int (1 : Int32))])
            refine S1774.ifN 256 (hb hby at_253) (zEqF (by decide)) ?_
            refine S1774.iconst 257 (2 : Int32) (hb hby at_256) ?_
            refine S1774.iload 259 (hb hby at_257) rfl ?_
            refine S1774.iload 261 (hb hby at_259) rfl ?_
            refine S1774.iload 263 (hb hby at_261) rfl ?_
            refine S1774.iload 265 (hb hby at_263) rfl ?_
            refine S1774.scall 268 (hb hby at_265) (by rw [hml]; rfl) (Tw hw 69 rfl) (Tw hw 70 rfl) (Tw hw 71 rfl) (Tw hw 72 rfl) (by decide) [(.int (2 : Int32)), (.int c_1532), (.int (0 : Int32)), (.int (0 : Int32)), (.int (2 : Int32))] [] (Con.pay (W := 0) (own_ok l Z a0 hw h1746 n0 S1774.old (2 : Int32) c_1532 (0 : Int32) (0 : Int32) (2 : Int32) (fun q _ _ => absurd q (by decide))) (Tw hw 72 rfl) (Tw hw 71 rfl) (by decide) (by decide)) (lenOf own_pd_39 rfl) rfl (Nle rfl) (by decide) (by decide) Wrs.nil ?_
            intro v1777 T1778 h1779 L1780 S1781 q1782 K1783
            obtain ⟨rfl, e_q1782⟩ := q1782
            obtain rfl := e_q1782.symm
            show Go p e below _ T1778 (mkF m 268 #[.val (.int p0), .val (.int p1), .val (.int p2), .val (.int p3), .val (.int c_1530), .val (.int c_1531), .val (.int c_1532), .val (.int c_1533), .val (.int (2 : Int32)), .val (.int (0 : Int32)), .val (.ref b1708), .val (.ref b1732), .val (.int (0 : Int32)), .unset, .unset] [(.int (1 : Int32))])
            refine S1781.ifN 271 (hb hby at_268) (zEqF (by decide)) ?_
            refine S1781.iconst 272 (3 : Int32) (hb hby at_271) ?_
            refine S1781.iload 274 (hb hby at_272) rfl ?_
            refine S1781.iload 276 (hb hby at_274) rfl ?_
            refine S1781.iload 278 (hb hby at_276) rfl ?_
            refine S1781.iload 280 (hb hby at_278) rfl ?_
            refine S1781.scall 283 (hb hby at_280) (by rw [hml]; rfl) (Tw hw 69 rfl) (Tw hw 70 rfl) (Tw hw 71 rfl) (Tw hw 72 rfl) (by decide) [(.int (3 : Int32)), (.int c_1533), (.int (0 : Int32)), (.int (0 : Int32)), (.int (2 : Int32))] [] (Con.pay (W := 0) (own_ok l Z a0 hw h1746 n0 S1781.old (3 : Int32) c_1533 (0 : Int32) (0 : Int32) (2 : Int32) (fun q _ _ => absurd q (by decide))) (Tw hw 72 rfl) (Tw hw 71 rfl) (by decide) (by decide)) (lenOf own_pd_39 rfl) rfl (Nle rfl) (by decide) (by decide) Wrs.nil ?_
            intro v1784 T1785 h1786 L1787 S1788 q1789 K1790
            obtain ⟨rfl, e_q1789⟩ := q1789
            obtain rfl := e_q1789.symm
            show Go p e below _ T1785 (mkF m 283 #[.val (.int p0), .val (.int p1), .val (.int p2), .val (.int p3), .val (.int c_1530), .val (.int c_1531), .val (.int c_1532), .val (.int c_1533), .val (.int (2 : Int32)), .val (.int (0 : Int32)), .val (.ref b1708), .val (.ref b1732), .val (.int (0 : Int32)), .unset, .unset] [(.int (1 : Int32))])
            refine S1788.ifN 286 (hb hby at_283) (zEqF (by decide)) ?_
            refine S1788.iconst 287 (1 : Int32) (hb hby at_286) ?_
            refine S1788.goto 291 (hb hby at_287) ?_
            refine S1788.istore 293 #[.val (.int p0), .val (.int p1), .val (.int p2), .val (.int p3), .val (.int c_1530), .val (.int c_1531), .val (.int c_1532), .val (.int c_1533), .val (.int (2 : Int32)), .val (.int (0 : Int32)), .val (.ref b1708), .val (.ref b1732), .val (.int (0 : Int32)), .val (.int (1 : Int32)), .unset] (hb hby at_291) rfl ?_
            refine S1788.iload 295 (hb hby at_293) rfl ?_
            refine S1788.iload 297 (hb hby at_295) rfl ?_
            refine S1788.icmpN 300 (hb hby at_297) (qEqF (by decide)) ?_
            refine S1788.iload 302 (hb hby at_300) rfl ?_
            refine S1788.iload 304 (hb hby at_302) rfl ?_
            refine S1788.iload 306 (hb hby at_304) rfl ?_
            refine S1788.iload 308 (hb hby at_306) rfl ?_
            refine S1788.iload 310 (hb hby at_308) rfl ?_
            refine S1788.scall 313 (hb hby at_310) (by rw [hml]; rfl) (Tw hw 73 rfl) (Tw hw 74 rfl) (Tw hw 71 rfl) (Tw hw 75 rfl) (by decide) [(.int c_1530), (.int c_1531), (.int c_1532), (.int c_1533), (.int (0 : Int32))] [] (Con.pay (W := 0) (own_at0 l Z a0 hw h1746 n0 S1788.old c_1530 c_1531 c_1532 c_1533 u16_c_1530) (Tw hw 75 rfl) (Tw hw 71 rfl) (by decide) (by decide)) (lenOf own_pd_40 rfl) rfl (Nle rfl) (by decide) (by decide) Wrs.nil ?_
            intro v1791 T1792 h1793 L1794 S1795 q1796 K1797
            obtain ⟨rfl, e_q1796⟩ := q1796
            obtain rfl := e_q1796.symm
            show Go p e below _ T1792 (mkF m 313 #[.val (.int p0), .val (.int p1), .val (.int p2), .val (.int p3), .val (.int c_1530), .val (.int c_1531), .val (.int c_1532), .val (.int c_1533), .val (.int (2 : Int32)), .val (.int (0 : Int32)), .val (.ref b1708), .val (.ref b1732), .val (.int (0 : Int32)), .val (.int (1 : Int32)), .unset] [(.int c_1530)])
            refine S1795.scall 316 (hb hby at_313) (by rw [hml]; rfl) (Tw hw 76 rfl) (Tw hw 77 rfl) (Tw hw 71 rfl) (Tw hw 78 rfl) (by decide) [(.int c_1530)] [] (Con.pay (W := 0) (own_dig0 l Z a0 hw h1746 n0 S1795.old c_1530 nd0) (Tw hw 78 rfl) (Tw hw 71 rfl) (by decide) (by decide)) (lenOf own_pd_31 rfl) rfl (Nle rfl) (by decide) (by decide) Wrs.nil ?_
            intro v1798 T1799 h1800 L1801 S1802 q1803 K1804
            obtain ⟨rfl, e_q1803⟩ := q1803
            obtain rfl := e_q1803.symm
            show Go p e below _ T1799 (mkF m 316 #[.val (.int p0), .val (.int p1), .val (.int p2), .val (.int p3), .val (.int c_1530), .val (.int c_1531), .val (.int c_1532), .val (.int c_1533), .val (.int (2 : Int32)), .val (.int (0 : Int32)), .val (.ref b1708), .val (.ref b1732), .val (.int (0 : Int32)), .val (.int (1 : Int32)), .unset] [(.int (0 : Int32))])
            refine S1802.ifN 319 (hb hby at_316) (zNeF (by decide)) ?_
            refine S1802.iconst 320 (1 : Int32) (hb hby at_319) ?_
            refine S1802.goto 324 (hb hby at_320) ?_
            refine S1802.istore 326 #[.val (.int p0), .val (.int p1), .val (.int p2), .val (.int p3), .val (.int c_1530), .val (.int c_1531), .val (.int c_1532), .val (.int c_1533), .val (.int (2 : Int32)), .val (.int (0 : Int32)), .val (.ref b1708), .val (.ref b1732), .val (.int (0 : Int32)), .val (.int (1 : Int32)), .val (.int (1 : Int32))] (hb hby at_324) rfl ?_
            refine S1802.iload 328 (hb hby at_326) rfl ?_
            refine S1802.ifN 331 (hb hby at_328) (zEqF (by decide)) ?_
            refine S1802.iload 333 (hb hby at_331) rfl ?_
            refine S1802.ifN 336 (hb hby at_333) (zEqF (by decide)) ?_
            refine S1802.iconst 337 (1 : Int32) (hb hby at_336) ?_
            refine S1802.goto 341 (hb hby at_337) ?_
            exact S1802.retN (t := .boolean) (hb hby at_341) hret (by decide) (by decide) (by decide) rfl
          · skip
            show Go p e below _ T1757 (mkF m 188 #[.val (.int p0), .val (.int p1), .val (.int p2), .val (.int p3), .val (.int c_1530), .val (.int c_1531), .val (.int c_1532), .val (.int c_1533), .val (.int (2 : Int32)), .val (.int (0 : Int32)), .val (.ref b1708), .val (.ref b1732), .unset, .unset, .unset] [(.int (1 : Int32))])
            refine S1760.istore 190 #[.val (.int p0), .val (.int p1), .val (.int p2), .val (.int p3), .val (.int c_1530), .val (.int c_1531), .val (.int c_1532), .val (.int c_1533), .val (.int (2 : Int32)), .val (.int (0 : Int32)), .val (.ref b1708), .val (.ref b1732), .val (.int (1 : Int32)), .unset, .unset] (hb hby at_188) rfl ?_
            refine S1760.iload 192 (hb hby at_190) rfl ?_
            refine S1760.iload 194 (hb hby at_192) rfl ?_
            refine S1760.icmpY 210 (hb hby at_194) (qLtT (by decide)) ?_
            refine S1760.iload 212 (hb hby at_210) rfl ?_
            refine S1760.iload 214 (hb hby at_212) rfl ?_
            refine S1760.icmpN 217 (hb hby at_214) (qLtF (by decide)) ?_
            refine S1760.iload 219 (hb hby at_217) rfl ?_
            refine S1760.iload 221 (hb hby at_219) rfl ?_
            refine S1760.icmpY 226 (hb hby at_221) (qLeT (by decide)) ?_
            refine S1760.iconst 227 (0 : Int32) (hb hby at_226) ?_
            refine S1760.iload 229 (hb hby at_227) rfl ?_
            refine S1760.iload 231 (hb hby at_229) rfl ?_
            refine S1760.iload 233 (hb hby at_231) rfl ?_
            refine S1760.iload 235 (hb hby at_233) rfl ?_
            refine S1760.scall 238 (hb hby at_235) (by rw [hml]; rfl) (Tw hw 69 rfl) (Tw hw 70 rfl) (Tw hw 71 rfl) (Tw hw 72 rfl) (by decide) [(.int (0 : Int32)), (.int c_1530), (.int (0 : Int32)), (.int (1 : Int32)), (.int (2 : Int32))] [] (Con.pay (W := 0) (own_ok l Z a0 hw h1746 n0 S1760.old (0 : Int32) c_1530 (0 : Int32) (1 : Int32) (2 : Int32) (fun _ _ _ => d1_0)) (Tw hw 72 rfl) (Tw hw 71 rfl) (by decide) (by decide)) (lenOf own_pd_39 rfl) rfl (Nle rfl) (by decide) (by decide) Wrs.nil ?_
            intro v1805 T1806 h1807 L1808 S1809 q1810 K1811
            obtain ⟨rfl, e_q1810⟩ := q1810
            obtain rfl := e_q1810.symm
            show Go p e below _ T1806 (mkF m 238 #[.val (.int p0), .val (.int p1), .val (.int p2), .val (.int p3), .val (.int c_1530), .val (.int c_1531), .val (.int c_1532), .val (.int c_1533), .val (.int (2 : Int32)), .val (.int (0 : Int32)), .val (.ref b1708), .val (.ref b1732), .val (.int (1 : Int32)), .unset, .unset] [(.int (1 : Int32))])
            refine S1809.ifN 241 (hb hby at_238) (zEqF (by decide)) ?_
            refine S1809.iconst 242 (1 : Int32) (hb hby at_241) ?_
            refine S1809.iload 244 (hb hby at_242) rfl ?_
            refine S1809.iload 246 (hb hby at_244) rfl ?_
            refine S1809.iload 248 (hb hby at_246) rfl ?_
            refine S1809.iload 250 (hb hby at_248) rfl ?_
            refine S1809.scall 253 (hb hby at_250) (by rw [hml]; rfl) (Tw hw 69 rfl) (Tw hw 70 rfl) (Tw hw 71 rfl) (Tw hw 72 rfl) (by decide) [(.int (1 : Int32)), (.int c_1531), (.int (0 : Int32)), (.int (1 : Int32)), (.int (2 : Int32))] [] (Con.pay (W := 0) (own_ok l Z a0 hw h1746 n0 S1809.old (1 : Int32) c_1531 (0 : Int32) (1 : Int32) (2 : Int32) (fun _ _ q => absurd q (by decide))) (Tw hw 72 rfl) (Tw hw 71 rfl) (by decide) (by decide)) (lenOf own_pd_39 rfl) rfl (Nle rfl) (by decide) (by decide) Wrs.nil ?_
            intro v1812 T1813 h1814 L1815 S1816 q1817 K1818
            obtain ⟨rfl, e_q1817⟩ := q1817
            obtain rfl := e_q1817.symm
            show Go p e below _ T1813 (mkF m 253 #[.val (.int p0), .val (.int p1), .val (.int p2), .val (.int p3), .val (.int c_1530), .val (.int c_1531), .val (.int c_1532), .val (.int c_1533), .val (.int (2 : Int32)), .val (.int (0 : Int32)), .val (.ref b1708), .val (.ref b1732), .val (.int (1 : Int32)), .unset, .unset] [(.int (1 : Int32))])
            refine S1816.ifN 256 (hb hby at_253) (zEqF (by decide)) ?_
            refine S1816.iconst 257 (2 : Int32) (hb hby at_256) ?_
            refine S1816.iload 259 (hb hby at_257) rfl ?_
            refine S1816.iload 261 (hb hby at_259) rfl ?_
            refine S1816.iload 263 (hb hby at_261) rfl ?_
            refine S1816.iload 265 (hb hby at_263) rfl ?_
            refine S1816.scall 268 (hb hby at_265) (by rw [hml]; rfl) (Tw hw 69 rfl) (Tw hw 70 rfl) (Tw hw 71 rfl) (Tw hw 72 rfl) (by decide) [(.int (2 : Int32)), (.int c_1532), (.int (0 : Int32)), (.int (1 : Int32)), (.int (2 : Int32))] [] (Con.pay (W := 0) (own_ok l Z a0 hw h1746 n0 S1816.old (2 : Int32) c_1532 (0 : Int32) (1 : Int32) (2 : Int32) (fun q _ _ => absurd q (by decide))) (Tw hw 72 rfl) (Tw hw 71 rfl) (by decide) (by decide)) (lenOf own_pd_39 rfl) rfl (Nle rfl) (by decide) (by decide) Wrs.nil ?_
            intro v1819 T1820 h1821 L1822 S1823 q1824 K1825
            obtain ⟨rfl, e_q1824⟩ := q1824
            obtain rfl := e_q1824.symm
            show Go p e below _ T1820 (mkF m 268 #[.val (.int p0), .val (.int p1), .val (.int p2), .val (.int p3), .val (.int c_1530), .val (.int c_1531), .val (.int c_1532), .val (.int c_1533), .val (.int (2 : Int32)), .val (.int (0 : Int32)), .val (.ref b1708), .val (.ref b1732), .val (.int (1 : Int32)), .unset, .unset] [(.int (1 : Int32))])
            refine S1823.ifN 271 (hb hby at_268) (zEqF (by decide)) ?_
            refine S1823.iconst 272 (3 : Int32) (hb hby at_271) ?_
            refine S1823.iload 274 (hb hby at_272) rfl ?_
            refine S1823.iload 276 (hb hby at_274) rfl ?_
            refine S1823.iload 278 (hb hby at_276) rfl ?_
            refine S1823.iload 280 (hb hby at_278) rfl ?_
            refine S1823.scall 283 (hb hby at_280) (by rw [hml]; rfl) (Tw hw 69 rfl) (Tw hw 70 rfl) (Tw hw 71 rfl) (Tw hw 72 rfl) (by decide) [(.int (3 : Int32)), (.int c_1533), (.int (0 : Int32)), (.int (1 : Int32)), (.int (2 : Int32))] [] (Con.pay (W := 0) (own_ok l Z a0 hw h1746 n0 S1823.old (3 : Int32) c_1533 (0 : Int32) (1 : Int32) (2 : Int32) (fun q _ _ => absurd q (by decide))) (Tw hw 72 rfl) (Tw hw 71 rfl) (by decide) (by decide)) (lenOf own_pd_39 rfl) rfl (Nle rfl) (by decide) (by decide) Wrs.nil ?_
            intro v1826 T1827 h1828 L1829 S1830 q1831 K1832
            obtain ⟨rfl, e_q1831⟩ := q1831
            obtain rfl := e_q1831.symm
            show Go p e below _ T1827 (mkF m 283 #[.val (.int p0), .val (.int p1), .val (.int p2), .val (.int p3), .val (.int c_1530), .val (.int c_1531), .val (.int c_1532), .val (.int c_1533), .val (.int (2 : Int32)), .val (.int (0 : Int32)), .val (.ref b1708), .val (.ref b1732), .val (.int (1 : Int32)), .unset, .unset] [(.int (1 : Int32))])
            refine S1830.ifN 286 (hb hby at_283) (zEqF (by decide)) ?_
            refine S1830.iconst 287 (1 : Int32) (hb hby at_286) ?_
            refine S1830.goto 291 (hb hby at_287) ?_
            refine S1830.istore 293 #[.val (.int p0), .val (.int p1), .val (.int p2), .val (.int p3), .val (.int c_1530), .val (.int c_1531), .val (.int c_1532), .val (.int c_1533), .val (.int (2 : Int32)), .val (.int (0 : Int32)), .val (.ref b1708), .val (.ref b1732), .val (.int (1 : Int32)), .val (.int (1 : Int32)), .unset] (hb hby at_291) rfl ?_
            refine S1830.iload 295 (hb hby at_293) rfl ?_
            refine S1830.iload 297 (hb hby at_295) rfl ?_
            refine S1830.icmpN 300 (hb hby at_297) (qEqF (by decide)) ?_
            refine S1830.iload 302 (hb hby at_300) rfl ?_
            refine S1830.iload 304 (hb hby at_302) rfl ?_
            refine S1830.iload 306 (hb hby at_304) rfl ?_
            refine S1830.iload 308 (hb hby at_306) rfl ?_
            refine S1830.iload 310 (hb hby at_308) rfl ?_
            refine S1830.scall 313 (hb hby at_310) (by rw [hml]; rfl) (Tw hw 73 rfl) (Tw hw 74 rfl) (Tw hw 71 rfl) (Tw hw 75 rfl) (by decide) [(.int c_1530), (.int c_1531), (.int c_1532), (.int c_1533), (.int (1 : Int32))] [] (Con.pay (W := 0) (own_at1 l Z a0 hw h1746 n0 S1830.old c_1530 c_1531 c_1532 c_1533 u16_c_1531) (Tw hw 75 rfl) (Tw hw 71 rfl) (by decide) (by decide)) (lenOf own_pd_40 rfl) rfl (Nle rfl) (by decide) (by decide) Wrs.nil ?_
            intro v1833 T1834 h1835 L1836 S1837 q1838 K1839
            obtain ⟨rfl, e_q1838⟩ := q1838
            obtain rfl := e_q1838.symm
            show Go p e below _ T1834 (mkF m 313 #[.val (.int p0), .val (.int p1), .val (.int p2), .val (.int p3), .val (.int c_1530), .val (.int c_1531), .val (.int c_1532), .val (.int c_1533), .val (.int (2 : Int32)), .val (.int (0 : Int32)), .val (.ref b1708), .val (.ref b1732), .val (.int (1 : Int32)), .val (.int (1 : Int32)), .unset] [(.int c_1531)])
            refine S1837.scall 316 (hb hby at_313) (by rw [hml]; rfl) (Tw hw 76 rfl) (Tw hw 77 rfl) (Tw hw 71 rfl) (Tw hw 78 rfl) (by decide) [(.int c_1531)] [] (Con.pay (W := 0) (own_dig0 l Z a0 hw h1746 n0 S1837.old c_1531 nd1) (Tw hw 78 rfl) (Tw hw 71 rfl) (by decide) (by decide)) (lenOf own_pd_31 rfl) rfl (Nle rfl) (by decide) (by decide) Wrs.nil ?_
            intro v1840 T1841 h1842 L1843 S1844 q1845 K1846
            obtain ⟨rfl, e_q1845⟩ := q1845
            obtain rfl := e_q1845.symm
            show Go p e below _ T1841 (mkF m 316 #[.val (.int p0), .val (.int p1), .val (.int p2), .val (.int p3), .val (.int c_1530), .val (.int c_1531), .val (.int c_1532), .val (.int c_1533), .val (.int (2 : Int32)), .val (.int (0 : Int32)), .val (.ref b1708), .val (.ref b1732), .val (.int (1 : Int32)), .val (.int (1 : Int32)), .unset] [(.int (0 : Int32))])
            refine S1844.ifN 319 (hb hby at_316) (zNeF (by decide)) ?_
            refine S1844.iconst 320 (1 : Int32) (hb hby at_319) ?_
            refine S1844.goto 324 (hb hby at_320) ?_
            refine S1844.istore 326 #[.val (.int p0), .val (.int p1), .val (.int p2), .val (.int p3), .val (.int c_1530), .val (.int c_1531), .val (.int c_1532), .val (.int c_1533), .val (.int (2 : Int32)), .val (.int (0 : Int32)), .val (.ref b1708), .val (.ref b1732), .val (.int (1 : Int32)), .val (.int (1 : Int32)), .val (.int (1 : Int32))] (hb hby at_324) rfl ?_
            refine S1844.iload 328 (hb hby at_326) rfl ?_
            refine S1844.ifN 331 (hb hby at_328) (zEqF (by decide)) ?_
            refine S1844.iload 333 (hb hby at_331) rfl ?_
            refine S1844.ifN 336 (hb hby at_333) (zEqF (by decide)) ?_
            refine S1844.iconst 337 (1 : Int32) (hb hby at_336) ?_
            refine S1844.goto 341 (hb hby at_337) ?_
            exact S1844.retN (t := .boolean) (hb hby at_341) hret (by decide) (by decide) (by decide) rfl
          · skip
            show Go p e below _ T1757 (mkF m 188 #[.val (.int p0), .val (.int p1), .val (.int p2), .val (.int p3), .val (.int c_1530), .val (.int c_1531), .val (.int c_1532), .val (.int c_1533), .val (.int (2 : Int32)), .val (.int (0 : Int32)), .val (.ref b1708), .val (.ref b1732), .unset, .unset, .unset] [(.int (2 : Int32))])
            refine S1760.istore 190 #[.val (.int p0), .val (.int p1), .val (.int p2), .val (.int p3), .val (.int c_1530), .val (.int c_1531), .val (.int c_1532), .val (.int c_1533), .val (.int (2 : Int32)), .val (.int (0 : Int32)), .val (.ref b1708), .val (.ref b1732), .val (.int (2 : Int32)), .unset, .unset] (hb hby at_188) rfl ?_
            refine S1760.iload 192 (hb hby at_190) rfl ?_
            refine S1760.iload 194 (hb hby at_192) rfl ?_
            refine S1760.icmpY 210 (hb hby at_194) (qLtT (by decide)) ?_
            refine S1760.iload 212 (hb hby at_210) rfl ?_
            refine S1760.iload 214 (hb hby at_212) rfl ?_
            refine S1760.icmpN 217 (hb hby at_214) (qLtF (by decide)) ?_
            refine S1760.iload 219 (hb hby at_217) rfl ?_
            refine S1760.iload 221 (hb hby at_219) rfl ?_
            refine S1760.icmpY 226 (hb hby at_221) (qLeT (by decide)) ?_
            refine S1760.iconst 227 (0 : Int32) (hb hby at_226) ?_
            refine S1760.iload 229 (hb hby at_227) rfl ?_
            refine S1760.iload 231 (hb hby at_229) rfl ?_
            refine S1760.iload 233 (hb hby at_231) rfl ?_
            refine S1760.iload 235 (hb hby at_233) rfl ?_
            refine S1760.scall 238 (hb hby at_235) (by rw [hml]; rfl) (Tw hw 69 rfl) (Tw hw 70 rfl) (Tw hw 71 rfl) (Tw hw 72 rfl) (by decide) [(.int (0 : Int32)), (.int c_1530), (.int (0 : Int32)), (.int (2 : Int32)), (.int (2 : Int32))] [] (Con.pay (W := 0) (own_ok l Z a0 hw h1746 n0 S1760.old (0 : Int32) c_1530 (0 : Int32) (2 : Int32) (2 : Int32) (fun _ _ _ => d2_0)) (Tw hw 72 rfl) (Tw hw 71 rfl) (by decide) (by decide)) (lenOf own_pd_39 rfl) rfl (Nle rfl) (by decide) (by decide) Wrs.nil ?_
            intro v1847 T1848 h1849 L1850 S1851 q1852 K1853
            obtain ⟨rfl, e_q1852⟩ := q1852
            obtain rfl := e_q1852.symm
            show Go p e below _ T1848 (mkF m 238 #[.val (.int p0), .val (.int p1), .val (.int p2), .val (.int p3), .val (.int c_1530), .val (.int c_1531), .val (.int c_1532), .val (.int c_1533), .val (.int (2 : Int32)), .val (.int (0 : Int32)), .val (.ref b1708), .val (.ref b1732), .val (.int (2 : Int32)), .unset, .unset] [(.int (1 : Int32))])
            refine S1851.ifN 241 (hb hby at_238) (zEqF (by decide)) ?_
            refine S1851.iconst 242 (1 : Int32) (hb hby at_241) ?_
            refine S1851.iload 244 (hb hby at_242) rfl ?_
            refine S1851.iload 246 (hb hby at_244) rfl ?_
            refine S1851.iload 248 (hb hby at_246) rfl ?_
            refine S1851.iload 250 (hb hby at_248) rfl ?_
            refine S1851.scall 253 (hb hby at_250) (by rw [hml]; rfl) (Tw hw 69 rfl) (Tw hw 70 rfl) (Tw hw 71 rfl) (Tw hw 72 rfl) (by decide) [(.int (1 : Int32)), (.int c_1531), (.int (0 : Int32)), (.int (2 : Int32)), (.int (2 : Int32))] [] (Con.pay (W := 0) (own_ok l Z a0 hw h1746 n0 S1851.old (1 : Int32) c_1531 (0 : Int32) (2 : Int32) (2 : Int32) (fun _ _ _ => d2_1)) (Tw hw 72 rfl) (Tw hw 71 rfl) (by decide) (by decide)) (lenOf own_pd_39 rfl) rfl (Nle rfl) (by decide) (by decide) Wrs.nil ?_
            intro v1854 T1855 h1856 L1857 S1858 q1859 K1860
            obtain ⟨rfl, e_q1859⟩ := q1859
            obtain rfl := e_q1859.symm
            show Go p e below _ T1855 (mkF m 253 #[.val (.int p0), .val (.int p1), .val (.int p2), .val (.int p3), .val (.int c_1530), .val (.int c_1531), .val (.int c_1532), .val (.int c_1533), .val (.int (2 : Int32)), .val (.int (0 : Int32)), .val (.ref b1708), .val (.ref b1732), .val (.int (2 : Int32)), .unset, .unset] [(.int (1 : Int32))])
            refine S1858.ifN 256 (hb hby at_253) (zEqF (by decide)) ?_
            refine S1858.iconst 257 (2 : Int32) (hb hby at_256) ?_
            refine S1858.iload 259 (hb hby at_257) rfl ?_
            refine S1858.iload 261 (hb hby at_259) rfl ?_
            refine S1858.iload 263 (hb hby at_261) rfl ?_
            refine S1858.iload 265 (hb hby at_263) rfl ?_
            refine S1858.scall 268 (hb hby at_265) (by rw [hml]; rfl) (Tw hw 69 rfl) (Tw hw 70 rfl) (Tw hw 71 rfl) (Tw hw 72 rfl) (by decide) [(.int (2 : Int32)), (.int c_1532), (.int (0 : Int32)), (.int (2 : Int32)), (.int (2 : Int32))] [] (Con.pay (W := 0) (own_ok l Z a0 hw h1746 n0 S1858.old (2 : Int32) c_1532 (0 : Int32) (2 : Int32) (2 : Int32) (fun q _ _ => absurd q (by decide))) (Tw hw 72 rfl) (Tw hw 71 rfl) (by decide) (by decide)) (lenOf own_pd_39 rfl) rfl (Nle rfl) (by decide) (by decide) Wrs.nil ?_
            intro v1861 T1862 h1863 L1864 S1865 q1866 K1867
            obtain ⟨rfl, e_q1866⟩ := q1866
            obtain rfl := e_q1866.symm
            show Go p e below _ T1862 (mkF m 268 #[.val (.int p0), .val (.int p1), .val (.int p2), .val (.int p3), .val (.int c_1530), .val (.int c_1531), .val (.int c_1532), .val (.int c_1533), .val (.int (2 : Int32)), .val (.int (0 : Int32)), .val (.ref b1708), .val (.ref b1732), .val (.int (2 : Int32)), .unset, .unset] [(.int (1 : Int32))])
            refine S1865.ifN 271 (hb hby at_268) (zEqF (by decide)) ?_
            refine S1865.iconst 272 (3 : Int32) (hb hby at_271) ?_
            refine S1865.iload 274 (hb hby at_272) rfl ?_
            refine S1865.iload 276 (hb hby at_274) rfl ?_
            refine S1865.iload 278 (hb hby at_276) rfl ?_
            refine S1865.iload 280 (hb hby at_278) rfl ?_
            refine S1865.scall 283 (hb hby at_280) (by rw [hml]; rfl) (Tw hw 69 rfl) (Tw hw 70 rfl) (Tw hw 71 rfl) (Tw hw 72 rfl) (by decide) [(.int (3 : Int32)), (.int c_1533), (.int (0 : Int32)), (.int (2 : Int32)), (.int (2 : Int32))] [] (Con.pay (W := 0) (own_ok l Z a0 hw h1746 n0 S1865.old (3 : Int32) c_1533 (0 : Int32) (2 : Int32) (2 : Int32) (fun q _ _ => absurd q (by decide))) (Tw hw 72 rfl) (Tw hw 71 rfl) (by decide) (by decide)) (lenOf own_pd_39 rfl) rfl (Nle rfl) (by decide) (by decide) Wrs.nil ?_
            intro v1868 T1869 h1870 L1871 S1872 q1873 K1874
            obtain ⟨rfl, e_q1873⟩ := q1873
            obtain rfl := e_q1873.symm
            show Go p e below _ T1869 (mkF m 283 #[.val (.int p0), .val (.int p1), .val (.int p2), .val (.int p3), .val (.int c_1530), .val (.int c_1531), .val (.int c_1532), .val (.int c_1533), .val (.int (2 : Int32)), .val (.int (0 : Int32)), .val (.ref b1708), .val (.ref b1732), .val (.int (2 : Int32)), .unset, .unset] [(.int (1 : Int32))])
            refine S1872.ifN 286 (hb hby at_283) (zEqF (by decide)) ?_
            refine S1872.iconst 287 (1 : Int32) (hb hby at_286) ?_
            refine S1872.goto 291 (hb hby at_287) ?_
            refine S1872.istore 293 #[.val (.int p0), .val (.int p1), .val (.int p2), .val (.int p3), .val (.int c_1530), .val (.int c_1531), .val (.int c_1532), .val (.int c_1533), .val (.int (2 : Int32)), .val (.int (0 : Int32)), .val (.ref b1708), .val (.ref b1732), .val (.int (2 : Int32)), .val (.int (1 : Int32)), .unset] (hb hby at_291) rfl ?_
            refine S1872.iload 295 (hb hby at_293) rfl ?_
            refine S1872.iload 297 (hb hby at_295) rfl ?_
            refine S1872.icmpY 319 (hb hby at_297) (qEqT (by decide)) ?_
            refine S1872.iconst 320 (1 : Int32) (hb hby at_319) ?_
            refine S1872.goto 324 (hb hby at_320) ?_
            refine S1872.istore 326 #[.val (.int p0), .val (.int p1), .val (.int p2), .val (.int p3), .val (.int c_1530), .val (.int c_1531), .val (.int c_1532), .val (.int c_1533), .val (.int (2 : Int32)), .val (.int (0 : Int32)), .val (.ref b1708), .val (.ref b1732), .val (.int (2 : Int32)), .val (.int (1 : Int32)), .val (.int (1 : Int32))] (hb hby at_324) rfl ?_
            refine S1872.iload 328 (hb hby at_326) rfl ?_
            refine S1872.ifN 331 (hb hby at_328) (zEqF (by decide)) ?_
            refine S1872.iload 333 (hb hby at_331) rfl ?_
            refine S1872.ifN 336 (hb hby at_333) (zEqF (by decide)) ?_
            refine S1872.iconst 337 (1 : Int32) (hb hby at_336) ?_
            refine S1872.goto 341 (hb hby at_337) ?_
            exact S1872.retN (t := .boolean) (hb hby at_341) hret (by decide) (by decide) (by decide) rfl
        · skip
          refine S1748.aload 183 (hb hby at_181) rfl rfl ?_
          refine S1748.iload 185 (hb hby at_183) rfl ?_
          refine S1748.scall 188 (hb hby at_185) (by rw [hml]; rfl) (Tw hw 33 rfl) (Tw hw 34 rfl) (Tw hw 35 rfl) (Tw hw 36 rfl) (by decide) [(.ref b1732), (.int (1 : Int32))] [] (Con.pay (W := 0) (own_de_2_1 l Z a0 hw cm us sf h1746 n0 S1748.old b1732 t1751 c_1530 c_1531 Z1753) (Tw hw 36 rfl) (Tw hw 35 rfl) (by decide) (by decide)) (lenOf own_pd_38 rfl) rfl (Nle rfl) (by decide) (by decide) Wrs.nil ?_
          intro v1875 T1876 h1877 L1878 S1879 q1880 K1881
          obtain ⟨hq_q1880, e_q1880⟩ := q1880
          obtain rfl := e_q1880.symm
          rcases hq_q1880 with ⟨rfl, nd1⟩ | ⟨rfl, d2_1⟩
          · skip
            show Go p e below _ T1876 (mkF m 188 #[.val (.int p0), .val (.int p1), .val (.int p2), .val (.int p3), .val (.int c_1530), .val (.int c_1531), .val (.int c_1532), .val (.int c_1533), .val (.int (2 : Int32)), .val (.int (1 : Int32)), .val (.ref b1708), .val (.ref b1732), .unset, .unset, .unset] [(.int (1 : Int32))])
            refine S1879.istore 190 #[.val (.int p0), .val (.int p1), .val (.int p2), .val (.int p3), .val (.int c_1530), .val (.int c_1531), .val (.int c_1532), .val (.int c_1533), .val (.int (2 : Int32)), .val (.int (1 : Int32)), .val (.ref b1708), .val (.ref b1732), .val (.int (1 : Int32)), .unset, .unset] (hb hby at_188) rfl ?_
            refine S1879.iload 192 (hb hby at_190) rfl ?_
            refine S1879.iload 194 (hb hby at_192) rfl ?_
            refine S1879.icmpY 210 (hb hby at_194) (qLtT (by decide)) ?_
            refine S1879.iload 212 (hb hby at_210) rfl ?_
            refine S1879.iload 214 (hb hby at_212) rfl ?_
            refine S1879.icmpN 217 (hb hby at_214) (qLtF (by decide)) ?_
            refine S1879.iload 219 (hb hby at_217) rfl ?_
            refine S1879.iload 221 (hb hby at_219) rfl ?_
            refine S1879.icmpY 226 (hb hby at_221) (qLeT (by decide)) ?_
            refine S1879.iconst 227 (0 : Int32) (hb hby at_226) ?_
            refine S1879.iload 229 (hb hby at_227) rfl ?_
            refine S1879.iload 231 (hb hby at_229) rfl ?_
            refine S1879.iload 233 (hb hby at_231) rfl ?_
            refine S1879.iload 235 (hb hby at_233) rfl ?_
            refine S1879.scall 238 (hb hby at_235) (by rw [hml]; rfl) (Tw hw 69 rfl) (Tw hw 70 rfl) (Tw hw 71 rfl) (Tw hw 72 rfl) (by decide) [(.int (0 : Int32)), (.int c_1530), (.int (1 : Int32)), (.int (1 : Int32)), (.int (2 : Int32))] [] (Con.pay (W := 0) (own_ok l Z a0 hw h1746 n0 S1879.old (0 : Int32) c_1530 (1 : Int32) (1 : Int32) (2 : Int32) (fun _ q _ => absurd (by decide) q)) (Tw hw 72 rfl) (Tw hw 71 rfl) (by decide) (by decide)) (lenOf own_pd_39 rfl) rfl (Nle rfl) (by decide) (by decide) Wrs.nil ?_
            intro v1882 T1883 h1884 L1885 S1886 q1887 K1888
            obtain ⟨rfl, e_q1887⟩ := q1887
            obtain rfl := e_q1887.symm
            show Go p e below _ T1883 (mkF m 238 #[.val (.int p0), .val (.int p1), .val (.int p2), .val (.int p3), .val (.int c_1530), .val (.int c_1531), .val (.int c_1532), .val (.int c_1533), .val (.int (2 : Int32)), .val (.int (1 : Int32)), .val (.ref b1708), .val (.ref b1732), .val (.int (1 : Int32)), .unset, .unset] [(.int (1 : Int32))])
            refine S1886.ifN 241 (hb hby at_238) (zEqF (by decide)) ?_
            refine S1886.iconst 242 (1 : Int32) (hb hby at_241) ?_
            refine S1886.iload 244 (hb hby at_242) rfl ?_
            refine S1886.iload 246 (hb hby at_244) rfl ?_
            refine S1886.iload 248 (hb hby at_246) rfl ?_
            refine S1886.iload 250 (hb hby at_248) rfl ?_
            refine S1886.scall 253 (hb hby at_250) (by rw [hml]; rfl) (Tw hw 69 rfl) (Tw hw 70 rfl) (Tw hw 71 rfl) (Tw hw 72 rfl) (by decide) [(.int (1 : Int32)), (.int c_1531), (.int (1 : Int32)), (.int (1 : Int32)), (.int (2 : Int32))] [] (Con.pay (W := 0) (own_ok l Z a0 hw h1746 n0 S1886.old (1 : Int32) c_1531 (1 : Int32) (1 : Int32) (2 : Int32) (fun _ _ q => absurd q (by decide))) (Tw hw 72 rfl) (Tw hw 71 rfl) (by decide) (by decide)) (lenOf own_pd_39 rfl) rfl (Nle rfl) (by decide) (by decide) Wrs.nil ?_
            intro v1889 T1890 h1891 L1892 S1893 q1894 K1895
            obtain ⟨rfl, e_q1894⟩ := q1894
            obtain rfl := e_q1894.symm
            show Go p e below _ T1890 (mkF m 253 #[.val (.int p0), .val (.int p1), .val (.int p2), .val (.int p3), .val (.int c_1530), .val (.int c_1531), .val (.int c_1532), .val (.int c_1533), .val (.int (2 : Int32)), .val (.int (1 : Int32)), .val (.ref b1708), .val (.ref b1732), .val (.int (1 : Int32)), .unset, .unset] [(.int (1 : Int32))])
            refine S1893.ifN 256 (hb hby at_253) (zEqF (by decide)) ?_
            refine S1893.iconst 257 (2 : Int32) (hb hby at_256) ?_
            refine S1893.iload 259 (hb hby at_257) rfl ?_
            refine S1893.iload 261 (hb hby at_259) rfl ?_
            refine S1893.iload 263 (hb hby at_261) rfl ?_
            refine S1893.iload 265 (hb hby at_263) rfl ?_
            refine S1893.scall 268 (hb hby at_265) (by rw [hml]; rfl) (Tw hw 69 rfl) (Tw hw 70 rfl) (Tw hw 71 rfl) (Tw hw 72 rfl) (by decide) [(.int (2 : Int32)), (.int c_1532), (.int (1 : Int32)), (.int (1 : Int32)), (.int (2 : Int32))] [] (Con.pay (W := 0) (own_ok l Z a0 hw h1746 n0 S1893.old (2 : Int32) c_1532 (1 : Int32) (1 : Int32) (2 : Int32) (fun q _ _ => absurd q (by decide))) (Tw hw 72 rfl) (Tw hw 71 rfl) (by decide) (by decide)) (lenOf own_pd_39 rfl) rfl (Nle rfl) (by decide) (by decide) Wrs.nil ?_
            intro v1896 T1897 h1898 L1899 S1900 q1901 K1902
            obtain ⟨rfl, e_q1901⟩ := q1901
            obtain rfl := e_q1901.symm
            show Go p e below _ T1897 (mkF m 268 #[.val (.int p0), .val (.int p1), .val (.int p2), .val (.int p3), .val (.int c_1530), .val (.int c_1531), .val (.int c_1532), .val (.int c_1533), .val (.int (2 : Int32)), .val (.int (1 : Int32)), .val (.ref b1708), .val (.ref b1732), .val (.int (1 : Int32)), .unset, .unset] [(.int (1 : Int32))])
            refine S1900.ifN 271 (hb hby at_268) (zEqF (by decide)) ?_
            refine S1900.iconst 272 (3 : Int32) (hb hby at_271) ?_
            refine S1900.iload 274 (hb hby at_272) rfl ?_
            refine S1900.iload 276 (hb hby at_274) rfl ?_
            refine S1900.iload 278 (hb hby at_276) rfl ?_
            refine S1900.iload 280 (hb hby at_278) rfl ?_
            refine S1900.scall 283 (hb hby at_280) (by rw [hml]; rfl) (Tw hw 69 rfl) (Tw hw 70 rfl) (Tw hw 71 rfl) (Tw hw 72 rfl) (by decide) [(.int (3 : Int32)), (.int c_1533), (.int (1 : Int32)), (.int (1 : Int32)), (.int (2 : Int32))] [] (Con.pay (W := 0) (own_ok l Z a0 hw h1746 n0 S1900.old (3 : Int32) c_1533 (1 : Int32) (1 : Int32) (2 : Int32) (fun q _ _ => absurd q (by decide))) (Tw hw 72 rfl) (Tw hw 71 rfl) (by decide) (by decide)) (lenOf own_pd_39 rfl) rfl (Nle rfl) (by decide) (by decide) Wrs.nil ?_
            intro v1903 T1904 h1905 L1906 S1907 q1908 K1909
            obtain ⟨rfl, e_q1908⟩ := q1908
            obtain rfl := e_q1908.symm
            show Go p e below _ T1904 (mkF m 283 #[.val (.int p0), .val (.int p1), .val (.int p2), .val (.int p3), .val (.int c_1530), .val (.int c_1531), .val (.int c_1532), .val (.int c_1533), .val (.int (2 : Int32)), .val (.int (1 : Int32)), .val (.ref b1708), .val (.ref b1732), .val (.int (1 : Int32)), .unset, .unset] [(.int (1 : Int32))])
            refine S1907.ifN 286 (hb hby at_283) (zEqF (by decide)) ?_
            refine S1907.iconst 287 (1 : Int32) (hb hby at_286) ?_
            refine S1907.goto 291 (hb hby at_287) ?_
            refine S1907.istore 293 #[.val (.int p0), .val (.int p1), .val (.int p2), .val (.int p3), .val (.int c_1530), .val (.int c_1531), .val (.int c_1532), .val (.int c_1533), .val (.int (2 : Int32)), .val (.int (1 : Int32)), .val (.ref b1708), .val (.ref b1732), .val (.int (1 : Int32)), .val (.int (1 : Int32)), .unset] (hb hby at_291) rfl ?_
            refine S1907.iload 295 (hb hby at_293) rfl ?_
            refine S1907.iload 297 (hb hby at_295) rfl ?_
            refine S1907.icmpN 300 (hb hby at_297) (qEqF (by decide)) ?_
            refine S1907.iload 302 (hb hby at_300) rfl ?_
            refine S1907.iload 304 (hb hby at_302) rfl ?_
            refine S1907.iload 306 (hb hby at_304) rfl ?_
            refine S1907.iload 308 (hb hby at_306) rfl ?_
            refine S1907.iload 310 (hb hby at_308) rfl ?_
            refine S1907.scall 313 (hb hby at_310) (by rw [hml]; rfl) (Tw hw 73 rfl) (Tw hw 74 rfl) (Tw hw 71 rfl) (Tw hw 75 rfl) (by decide) [(.int c_1530), (.int c_1531), (.int c_1532), (.int c_1533), (.int (1 : Int32))] [] (Con.pay (W := 0) (own_at1 l Z a0 hw h1746 n0 S1907.old c_1530 c_1531 c_1532 c_1533 u16_c_1531) (Tw hw 75 rfl) (Tw hw 71 rfl) (by decide) (by decide)) (lenOf own_pd_40 rfl) rfl (Nle rfl) (by decide) (by decide) Wrs.nil ?_
            intro v1910 T1911 h1912 L1913 S1914 q1915 K1916
            obtain ⟨rfl, e_q1915⟩ := q1915
            obtain rfl := e_q1915.symm
            show Go p e below _ T1911 (mkF m 313 #[.val (.int p0), .val (.int p1), .val (.int p2), .val (.int p3), .val (.int c_1530), .val (.int c_1531), .val (.int c_1532), .val (.int c_1533), .val (.int (2 : Int32)), .val (.int (1 : Int32)), .val (.ref b1708), .val (.ref b1732), .val (.int (1 : Int32)), .val (.int (1 : Int32)), .unset] [(.int c_1531)])
            refine S1914.scall 316 (hb hby at_313) (by rw [hml]; rfl) (Tw hw 76 rfl) (Tw hw 77 rfl) (Tw hw 71 rfl) (Tw hw 78 rfl) (by decide) [(.int c_1531)] [] (Con.pay (W := 0) (own_dig0 l Z a0 hw h1746 n0 S1914.old c_1531 nd1) (Tw hw 78 rfl) (Tw hw 71 rfl) (by decide) (by decide)) (lenOf own_pd_31 rfl) rfl (Nle rfl) (by decide) (by decide) Wrs.nil ?_
            intro v1917 T1918 h1919 L1920 S1921 q1922 K1923
            obtain ⟨rfl, e_q1922⟩ := q1922
            obtain rfl := e_q1922.symm
            show Go p e below _ T1918 (mkF m 316 #[.val (.int p0), .val (.int p1), .val (.int p2), .val (.int p3), .val (.int c_1530), .val (.int c_1531), .val (.int c_1532), .val (.int c_1533), .val (.int (2 : Int32)), .val (.int (1 : Int32)), .val (.ref b1708), .val (.ref b1732), .val (.int (1 : Int32)), .val (.int (1 : Int32)), .unset] [(.int (0 : Int32))])
            refine S1921.ifN 319 (hb hby at_316) (zNeF (by decide)) ?_
            refine S1921.iconst 320 (1 : Int32) (hb hby at_319) ?_
            refine S1921.goto 324 (hb hby at_320) ?_
            refine S1921.istore 326 #[.val (.int p0), .val (.int p1), .val (.int p2), .val (.int p3), .val (.int c_1530), .val (.int c_1531), .val (.int c_1532), .val (.int c_1533), .val (.int (2 : Int32)), .val (.int (1 : Int32)), .val (.ref b1708), .val (.ref b1732), .val (.int (1 : Int32)), .val (.int (1 : Int32)), .val (.int (1 : Int32))] (hb hby at_324) rfl ?_
            refine S1921.iload 328 (hb hby at_326) rfl ?_
            refine S1921.ifN 331 (hb hby at_328) (zEqF (by decide)) ?_
            refine S1921.iload 333 (hb hby at_331) rfl ?_
            refine S1921.ifN 336 (hb hby at_333) (zEqF (by decide)) ?_
            refine S1921.iconst 337 (1 : Int32) (hb hby at_336) ?_
            refine S1921.goto 341 (hb hby at_337) ?_
            exact S1921.retN (t := .boolean) (hb hby at_341) hret (by decide) (by decide) (by decide) rfl
          · skip
            show Go p e below _ T1876 (mkF m 188 #[.val (.int p0), .val (.int p1), .val (.int p2), .val (.int p3), .val (.int c_1530), .val (.int c_1531), .val (.int c_1532), .val (.int c_1533), .val (.int (2 : Int32)), .val (.int (1 : Int32)), .val (.ref b1708), .val (.ref b1732), .unset, .unset, .unset] [(.int (2 : Int32))])
            refine S1879.istore 190 #[.val (.int p0), .val (.int p1), .val (.int p2), .val (.int p3), .val (.int c_1530), .val (.int c_1531), .val (.int c_1532), .val (.int c_1533), .val (.int (2 : Int32)), .val (.int (1 : Int32)), .val (.ref b1708), .val (.ref b1732), .val (.int (2 : Int32)), .unset, .unset] (hb hby at_188) rfl ?_
            refine S1879.iload 192 (hb hby at_190) rfl ?_
            refine S1879.iload 194 (hb hby at_192) rfl ?_
            refine S1879.icmpY 210 (hb hby at_194) (qLtT (by decide)) ?_
            refine S1879.iload 212 (hb hby at_210) rfl ?_
            refine S1879.iload 214 (hb hby at_212) rfl ?_
            refine S1879.icmpN 217 (hb hby at_214) (qLtF (by decide)) ?_
            refine S1879.iload 219 (hb hby at_217) rfl ?_
            refine S1879.iload 221 (hb hby at_219) rfl ?_
            refine S1879.icmpY 226 (hb hby at_221) (qLeT (by decide)) ?_
            refine S1879.iconst 227 (0 : Int32) (hb hby at_226) ?_
            refine S1879.iload 229 (hb hby at_227) rfl ?_
            refine S1879.iload 231 (hb hby at_229) rfl ?_
            refine S1879.iload 233 (hb hby at_231) rfl ?_
            refine S1879.iload 235 (hb hby at_233) rfl ?_
            refine S1879.scall 238 (hb hby at_235) (by rw [hml]; rfl) (Tw hw 69 rfl) (Tw hw 70 rfl) (Tw hw 71 rfl) (Tw hw 72 rfl) (by decide) [(.int (0 : Int32)), (.int c_1530), (.int (1 : Int32)), (.int (2 : Int32)), (.int (2 : Int32))] [] (Con.pay (W := 0) (own_ok l Z a0 hw h1746 n0 S1879.old (0 : Int32) c_1530 (1 : Int32) (2 : Int32) (2 : Int32) (fun _ q _ => absurd (by decide) q)) (Tw hw 72 rfl) (Tw hw 71 rfl) (by decide) (by decide)) (lenOf own_pd_39 rfl) rfl (Nle rfl) (by decide) (by decide) Wrs.nil ?_
            intro v1924 T1925 h1926 L1927 S1928 q1929 K1930
            obtain ⟨rfl, e_q1929⟩ := q1929
            obtain rfl := e_q1929.symm
            show Go p e below _ T1925 (mkF m 238 #[.val (.int p0), .val (.int p1), .val (.int p2), .val (.int p3), .val (.int c_1530), .val (.int c_1531), .val (.int c_1532), .val (.int c_1533), .val (.int (2 : Int32)), .val (.int (1 : Int32)), .val (.ref b1708), .val (.ref b1732), .val (.int (2 : Int32)), .unset, .unset] [(.int (1 : Int32))])
            refine S1928.ifN 241 (hb hby at_238) (zEqF (by decide)) ?_
            refine S1928.iconst 242 (1 : Int32) (hb hby at_241) ?_
            refine S1928.iload 244 (hb hby at_242) rfl ?_
            refine S1928.iload 246 (hb hby at_244) rfl ?_
            refine S1928.iload 248 (hb hby at_246) rfl ?_
            refine S1928.iload 250 (hb hby at_248) rfl ?_
            refine S1928.scall 253 (hb hby at_250) (by rw [hml]; rfl) (Tw hw 69 rfl) (Tw hw 70 rfl) (Tw hw 71 rfl) (Tw hw 72 rfl) (by decide) [(.int (1 : Int32)), (.int c_1531), (.int (1 : Int32)), (.int (2 : Int32)), (.int (2 : Int32))] [] (Con.pay (W := 0) (own_ok l Z a0 hw h1746 n0 S1928.old (1 : Int32) c_1531 (1 : Int32) (2 : Int32) (2 : Int32) (fun _ _ _ => d2_1)) (Tw hw 72 rfl) (Tw hw 71 rfl) (by decide) (by decide)) (lenOf own_pd_39 rfl) rfl (Nle rfl) (by decide) (by decide) Wrs.nil ?_
            intro v1931 T1932 h1933 L1934 S1935 q1936 K1937
            obtain ⟨rfl, e_q1936⟩ := q1936
            obtain rfl := e_q1936.symm
            show Go p e below _ T1932 (mkF m 253 #[.val (.int p0), .val (.int p1), .val (.int p2), .val (.int p3), .val (.int c_1530), .val (.int c_1531), .val (.int c_1532), .val (.int c_1533), .val (.int (2 : Int32)), .val (.int (1 : Int32)), .val (.ref b1708), .val (.ref b1732), .val (.int (2 : Int32)), .unset, .unset] [(.int (1 : Int32))])
            refine S1935.ifN 256 (hb hby at_253) (zEqF (by decide)) ?_
            refine S1935.iconst 257 (2 : Int32) (hb hby at_256) ?_
            refine S1935.iload 259 (hb hby at_257) rfl ?_
            refine S1935.iload 261 (hb hby at_259) rfl ?_
            refine S1935.iload 263 (hb hby at_261) rfl ?_
            refine S1935.iload 265 (hb hby at_263) rfl ?_
            refine S1935.scall 268 (hb hby at_265) (by rw [hml]; rfl) (Tw hw 69 rfl) (Tw hw 70 rfl) (Tw hw 71 rfl) (Tw hw 72 rfl) (by decide) [(.int (2 : Int32)), (.int c_1532), (.int (1 : Int32)), (.int (2 : Int32)), (.int (2 : Int32))] [] (Con.pay (W := 0) (own_ok l Z a0 hw h1746 n0 S1935.old (2 : Int32) c_1532 (1 : Int32) (2 : Int32) (2 : Int32) (fun q _ _ => absurd q (by decide))) (Tw hw 72 rfl) (Tw hw 71 rfl) (by decide) (by decide)) (lenOf own_pd_39 rfl) rfl (Nle rfl) (by decide) (by decide) Wrs.nil ?_
            intro v1938 T1939 h1940 L1941 S1942 q1943 K1944
            obtain ⟨rfl, e_q1943⟩ := q1943
            obtain rfl := e_q1943.symm
            show Go p e below _ T1939 (mkF m 268 #[.val (.int p0), .val (.int p1), .val (.int p2), .val (.int p3), .val (.int c_1530), .val (.int c_1531), .val (.int c_1532), .val (.int c_1533), .val (.int (2 : Int32)), .val (.int (1 : Int32)), .val (.ref b1708), .val (.ref b1732), .val (.int (2 : Int32)), .unset, .unset] [(.int (1 : Int32))])
            refine S1942.ifN 271 (hb hby at_268) (zEqF (by decide)) ?_
            refine S1942.iconst 272 (3 : Int32) (hb hby at_271) ?_
            refine S1942.iload 274 (hb hby at_272) rfl ?_
            refine S1942.iload 276 (hb hby at_274) rfl ?_
            refine S1942.iload 278 (hb hby at_276) rfl ?_
            refine S1942.iload 280 (hb hby at_278) rfl ?_
            refine S1942.scall 283 (hb hby at_280) (by rw [hml]; rfl) (Tw hw 69 rfl) (Tw hw 70 rfl) (Tw hw 71 rfl) (Tw hw 72 rfl) (by decide) [(.int (3 : Int32)), (.int c_1533), (.int (1 : Int32)), (.int (2 : Int32)), (.int (2 : Int32))] [] (Con.pay (W := 0) (own_ok l Z a0 hw h1746 n0 S1942.old (3 : Int32) c_1533 (1 : Int32) (2 : Int32) (2 : Int32) (fun q _ _ => absurd q (by decide))) (Tw hw 72 rfl) (Tw hw 71 rfl) (by decide) (by decide)) (lenOf own_pd_39 rfl) rfl (Nle rfl) (by decide) (by decide) Wrs.nil ?_
            intro v1945 T1946 h1947 L1948 S1949 q1950 K1951
            obtain ⟨rfl, e_q1950⟩ := q1950
            obtain rfl := e_q1950.symm
            show Go p e below _ T1946 (mkF m 283 #[.val (.int p0), .val (.int p1), .val (.int p2), .val (.int p3), .val (.int c_1530), .val (.int c_1531), .val (.int c_1532), .val (.int c_1533), .val (.int (2 : Int32)), .val (.int (1 : Int32)), .val (.ref b1708), .val (.ref b1732), .val (.int (2 : Int32)), .unset, .unset] [(.int (1 : Int32))])
            refine S1949.ifN 286 (hb hby at_283) (zEqF (by decide)) ?_
            refine S1949.iconst 287 (1 : Int32) (hb hby at_286) ?_
            refine S1949.goto 291 (hb hby at_287) ?_
            refine S1949.istore 293 #[.val (.int p0), .val (.int p1), .val (.int p2), .val (.int p3), .val (.int c_1530), .val (.int c_1531), .val (.int c_1532), .val (.int c_1533), .val (.int (2 : Int32)), .val (.int (1 : Int32)), .val (.ref b1708), .val (.ref b1732), .val (.int (2 : Int32)), .val (.int (1 : Int32)), .unset] (hb hby at_291) rfl ?_
            refine S1949.iload 295 (hb hby at_293) rfl ?_
            refine S1949.iload 297 (hb hby at_295) rfl ?_
            refine S1949.icmpY 319 (hb hby at_297) (qEqT (by decide)) ?_
            refine S1949.iconst 320 (1 : Int32) (hb hby at_319) ?_
            refine S1949.goto 324 (hb hby at_320) ?_
            refine S1949.istore 326 #[.val (.int p0), .val (.int p1), .val (.int p2), .val (.int p3), .val (.int c_1530), .val (.int c_1531), .val (.int c_1532), .val (.int c_1533), .val (.int (2 : Int32)), .val (.int (1 : Int32)), .val (.ref b1708), .val (.ref b1732), .val (.int (2 : Int32)), .val (.int (1 : Int32)), .val (.int (1 : Int32))] (hb hby at_324) rfl ?_
            refine S1949.iload 328 (hb hby at_326) rfl ?_
            refine S1949.ifN 331 (hb hby at_328) (zEqF (by decide)) ?_
            refine S1949.iload 333 (hb hby at_331) rfl ?_
            refine S1949.ifN 336 (hb hby at_333) (zEqF (by decide)) ?_
            refine S1949.iconst 337 (1 : Int32) (hb hby at_336) ?_
            refine S1949.goto 341 (hb hby at_337) ?_
            exact S1949.retN (t := .boolean) (hb hby at_341) hret (by decide) (by decide) (by decide) rfl
      · skip
        refine S1748.aload 183 (hb hby at_181) rfl rfl ?_
        refine S1748.iload 185 (hb hby at_183) rfl ?_
        refine S1748.scall 188 (hb hby at_185) (by rw [hml]; rfl) (Tw hw 33 rfl) (Tw hw 34 rfl) (Tw hw 35 rfl) (Tw hw 36 rfl) (by decide) [(.ref b1732), (.int z1535)] [] (Con.pay (W := 0) (own_deG_2 l Z a0 hw cm us sf h1746 n0 S1748.old b1732 t1751 c_1530 c_1531 z1535 Z1753 hg) (Tw hw 36 rfl) (Tw hw 35 rfl) (by decide) (by decide)) (lenOf own_pd_38 rfl) rfl (Nle rfl) (by decide) (by decide) Wrs.nil ?_
        intro v1952 T1953 h1954 L1955 S1956 q1957 K1958
        obtain ⟨rfl, e_q1957⟩ := q1957
        obtain rfl := e_q1957.symm
        show Go p e below _ T1953 (mkF m 188 #[.val (.int p0), .val (.int p1), .val (.int p2), .val (.int p3), .val (.int c_1530), .val (.int c_1531), .val (.int c_1532), .val (.int c_1533), .val (.int (2 : Int32)), .val (.int z1535), .val (.ref b1708), .val (.ref b1732), .unset, .unset, .unset] [(.int z1535)])
        refine S1956.istore 190 #[.val (.int p0), .val (.int p1), .val (.int p2), .val (.int p3), .val (.int c_1530), .val (.int c_1531), .val (.int c_1532), .val (.int c_1533), .val (.int (2 : Int32)), .val (.int z1535), .val (.ref b1708), .val (.ref b1732), .val (.int z1535), .unset, .unset] (hb hby at_188) rfl ?_
        refine S1956.iload 192 (hb hby at_190) rfl ?_
        refine S1956.iload 194 (hb hby at_192) rfl ?_
        refine S1956.icmpN 197 (hb hby at_194) (qLtF hg) ?_
        refine S1956.iload 199 (hb hby at_197) rfl ?_
        refine S1956.iload 201 (hb hby at_199) rfl ?_
        refine S1956.icmpN 204 (hb hby at_201) (qNeF rfl) ?_
        refine S1956.iconst 205 (1 : Int32) (hb hby at_204) ?_
        refine S1956.goto 209 (hb hby at_205) ?_
        exact S1956.retN (t := .boolean) (hb hby at_209) hret (by decide) (by decide) (by decide) rfl
    · skip
      refine S.ifY 73 (hb hby at_62) (zNeT (by decide)) ?_
      refine S.iload 75 (hb hby at_73) rfl ?_
      refine S.iconst 76 (1 : Int32) (hb hby at_75) ?_
      refine S.icmpY 92 (hb hby at_76) (qNeT (by decide)) ?_
      refine S.iload 94 (hb hby at_92) rfl ?_
      refine S.iconst 95 (2 : Int32) (hb hby at_94) ?_
      refine S.icmpY 116 (hb hby at_95) (qNeT (by decide)) ?_
      refine S.iload 118 (hb hby at_116) rfl ?_
      refine S.iconst 119 (3 : Int32) (hb hby at_118) ?_
      refine S.icmpN 122 (hb hby at_119) (qNeF (by decide)) ?_
      refine S.iconst 123 (3 : Int32) (hb hby at_122) ?_
      refine S.newarr 125 3 (hb hby at_123) (Tw hw 3 rfl) (by decide) (by decide) (by decide) (by decide) (by decide) ?_
      intro T1959 h1960 b1961 k1962 S1963 E1964 g1965 wo1966 A1967
      have f1968 : Arv Z h1960 b1961 k1962 .char (3 : Int32) [(.int (0 : Int32)), (.int (0 : Int32)), (.int (0 : Int32))] (.int (0 : Int32)) := A1967.pad (pad_rep [] (.int (0 : Int32)) 3)
      refine S1963.dup 126 (hb hby at_125) rfl ?_
      refine S1963.iconst 127 (0 : Int32) (hb hby at_126) ?_
      refine S1963.iload 129 (hb hby at_127) rfl ?_
      refine S1963.castore 130 0 (hb hby at_129) f1968 ⟨by decide, by decide⟩ rfl (Nle rfl) wo1966 ?_
      intro T1969 h1970 L1971 S1972 W1973 A1974
      rw [U16.nar u16_c_1530] at A1974
      have f1975 : Arv Z h1970 b1961 k1962 .char (3 : Int32) [(.int c_1530), (.int (0 : Int32)), (.int (0 : Int32))] (.int (0 : Int32)) := A1974
      refine S1972.dup 131 (hb hby at_130) rfl ?_
      refine S1972.iconst 132 (1 : Int32) (hb hby at_131) ?_
      refine S1972.iload 134 (hb hby at_132) rfl ?_
      refine S1972.castore 135 1 (hb hby at_134) f1975 ⟨by decide, by decide⟩ rfl (Nle rfl) wo1966 ?_
      intro T1976 h1977 L1978 S1979 W1980 A1981
      rw [U16.nar u16_c_1531] at A1981
      have f1982 : Arv Z h1977 b1961 k1962 .char (3 : Int32) [(.int c_1530), (.int c_1531), (.int (0 : Int32))] (.int (0 : Int32)) := A1981
      refine S1979.dup 136 (hb hby at_135) rfl ?_
      refine S1979.iconst 137 (2 : Int32) (hb hby at_136) ?_
      refine S1979.iload 139 (hb hby at_137) rfl ?_
      refine S1979.castore 140 2 (hb hby at_139) f1982 ⟨by decide, by decide⟩ rfl (Nle rfl) wo1966 ?_
      intro T1983 h1984 L1985 S1986 W1987 A1988
      rw [U16.nar u16_c_1532] at A1988
      have f1989 : Arv Z h1984 b1961 k1962 .char (3 : Int32) [(.int c_1530), (.int c_1531), (.int c_1532)] (.int (0 : Int32)) := A1988
      refine S1986.astore 142 #[.val (.int p0), .val (.int p1), .val (.int p2), .val (.int p3), .val (.int c_1530), .val (.int c_1531), .val (.int c_1532), .val (.int c_1533), .val (.int (3 : Int32)), .val (.int z1535), .val (.ref b1961), .unset, .unset, .unset, .unset] (hb hby at_140) rfl rfl ?_
      refine S1986.goto 170 (hb hby at_142) ?_
      refine S1986.new 173 (hb hby at_170) (Tw hw 4 rfl) (Tw hw 5 rfl) (Tw hw 6 rfl) (by decide) (by decide) ?_
      intro T1990 h1991 b1992 S1993 E1994 g1995 wo1996 A1997 D1998 U1999
      have l2000 : b1961 < b1992 := (by rw [g1995]; exact f1989.lt)
      have f2001 : Fld Z h1991 b1992 "java/lang/String" "coder" "B" (.int (0 : Int32)) := D1998 (Or.inr (Tw hw 30 rfl)) (ty := .byte) (by decide)
      have f2002 : Fld Z h1991 b1992 "java/lang/String" "value" "[B" .null := D1998 (Or.inr (Tw hw 32 rfl)) (ty := (.array .byte)) (by decide)
      refine S1993.dup 174 (hb hby at_173) rfl ?_
      refine S1993.aload 176 (hb hby at_174) rfl rfl ?_
      have f2003 := (f1989.ext E1994)
      refine S1993.icall 179 (hb hby at_176) (by rw [hml]; rfl) rfl (Tw hw 7 rfl) (Tw hw 8 rfl) (Tw hw 9 rfl) (by decide) [(.ref b1961)] [(.ref b1992)] (payNewA_3 (W := 1) c_1530 c_1531 c_1532 hw cm us S1993.old (S1993.ge wo1996) A1997 f2002 f2001 f2003 u16_c_1530 u16_c_1531 u16_c_1532 (by decide) (by decide)) (lenOf own_pd_37 rfl) rfl (Nle rfl) (by decide) (by decide) (Wrs.one wo1996 (Or.inl (by simp))) ?_
      intro v2004 T2005 h2006 L2007 S2008 q2009 K2010
      obtain ⟨rfl, t2011, g2012, Z2013⟩ := q2009
      have l2014 : b1961 < t2011 := Nat.lt_of_lt_of_le f2003.lt g2012
      have f2015 := Z2013.exa
      show Go p e below _ T2005 (mkF m 179 #[.val (.int p0), .val (.int p1), .val (.int p2), .val (.int p3), .val (.int c_1530), .val (.int c_1531), .val (.int c_1532), .val (.int c_1533), .val (.int (3 : Int32)), .val (.int z1535), .val (.ref b1961), .unset, .unset, .unset, .unset] [(.ref b1992)])
      refine S2008.astore 181 #[.val (.int p0), .val (.int p1), .val (.int p2), .val (.int p3), .val (.int c_1530), .val (.int c_1531), .val (.int c_1532), .val (.int c_1533), .val (.int (3 : Int32)), .val (.int z1535), .val (.ref b1961), .val (.ref b1992), .unset, .unset, .unset] (hb hby at_179) rfl rfl ?_
      by_cases hg : z1535 < (3 : Int32)
      · rcases own_lt3 hf1537 hg with rfl | rfl | rfl
        · skip
          refine S2008.aload 183 (hb hby at_181) rfl rfl ?_
          refine S2008.iload 185 (hb hby at_183) rfl ?_
          refine S2008.scall 188 (hb hby at_185) (by rw [hml]; rfl) (Tw hw 33 rfl) (Tw hw 34 rfl) (Tw hw 35 rfl) (Tw hw 36 rfl) (by decide) [(.ref b1992), (.int (0 : Int32))] [] (Con.pay (W := 0) (own_de_3_0 l Z a0 hw cm us sf h2006 n0 S2008.old b1992 t2011 c_1530 c_1531 c_1532 Z2013) (Tw hw 36 rfl) (Tw hw 35 rfl) (by decide) (by decide)) (lenOf own_pd_38 rfl) rfl (Nle rfl) (by decide) (by decide) Wrs.nil ?_
          intro v2016 T2017 h2018 L2019 S2020 q2021 K2022
          obtain ⟨hq_q2021, e_q2021⟩ := q2021
          obtain rfl := e_q2021.symm
          rcases hq_q2021 with ⟨rfl, nd0⟩ | ⟨rfl, d1_0, nd1⟩ | ⟨rfl, d2_0, d2_1, nd2⟩ | ⟨rfl, d3_0, d3_1, d3_2⟩
          · skip
            show Go p e below _ T2017 (mkF m 188 #[.val (.int p0), .val (.int p1), .val (.int p2), .val (.int p3), .val (.int c_1530), .val (.int c_1531), .val (.int c_1532), .val (.int c_1533), .val (.int (3 : Int32)), .val (.int (0 : Int32)), .val (.ref b1961), .val (.ref b1992), .unset, .unset, .unset] [(.int (0 : Int32))])
            refine S2020.istore 190 #[.val (.int p0), .val (.int p1), .val (.int p2), .val (.int p3), .val (.int c_1530), .val (.int c_1531), .val (.int c_1532), .val (.int c_1533), .val (.int (3 : Int32)), .val (.int (0 : Int32)), .val (.ref b1961), .val (.ref b1992), .val (.int (0 : Int32)), .unset, .unset] (hb hby at_188) rfl ?_
            refine S2020.iload 192 (hb hby at_190) rfl ?_
            refine S2020.iload 194 (hb hby at_192) rfl ?_
            refine S2020.icmpY 210 (hb hby at_194) (qLtT (by decide)) ?_
            refine S2020.iload 212 (hb hby at_210) rfl ?_
            refine S2020.iload 214 (hb hby at_212) rfl ?_
            refine S2020.icmpN 217 (hb hby at_214) (qLtF (by decide)) ?_
            refine S2020.iload 219 (hb hby at_217) rfl ?_
            refine S2020.iload 221 (hb hby at_219) rfl ?_
            refine S2020.icmpY 226 (hb hby at_221) (qLeT (by decide)) ?_
            refine S2020.iconst 227 (0 : Int32) (hb hby at_226) ?_
            refine S2020.iload 229 (hb hby at_227) rfl ?_
            refine S2020.iload 231 (hb hby at_229) rfl ?_
            refine S2020.iload 233 (hb hby at_231) rfl ?_
            refine S2020.iload 235 (hb hby at_233) rfl ?_
            refine S2020.scall 238 (hb hby at_235) (by rw [hml]; rfl) (Tw hw 69 rfl) (Tw hw 70 rfl) (Tw hw 71 rfl) (Tw hw 72 rfl) (by decide) [(.int (0 : Int32)), (.int c_1530), (.int (0 : Int32)), (.int (0 : Int32)), (.int (3 : Int32))] [] (Con.pay (W := 0) (own_ok l Z a0 hw h2006 n0 S2020.old (0 : Int32) c_1530 (0 : Int32) (0 : Int32) (3 : Int32) (fun _ _ q => absurd q (by decide))) (Tw hw 72 rfl) (Tw hw 71 rfl) (by decide) (by decide)) (lenOf own_pd_39 rfl) rfl (Nle rfl) (by decide) (by decide) Wrs.nil ?_
            intro v2023 T2024 h2025 L2026 S2027 q2028 K2029
            obtain ⟨rfl, e_q2028⟩ := q2028
            obtain rfl := e_q2028.symm
            show Go p e below _ T2024 (mkF m 238 #[.val (.int p0), .val (.int p1), .val (.int p2), .val (.int p3), .val (.int c_1530), .val (.int c_1531), .val (.int c_1532), .val (.int c_1533), .val (.int (3 : Int32)), .val (.int (0 : Int32)), .val (.ref b1961), .val (.ref b1992), .val (.int (0 : Int32)), .unset, .unset] [(.int (1 : Int32))])
            refine S2027.ifN 241 (hb hby at_238) (zEqF (by decide)) ?_
            refine S2027.iconst 242 (1 : Int32) (hb hby at_241) ?_
            refine S2027.iload 244 (hb hby at_242) rfl ?_
            refine S2027.iload 246 (hb hby at_244) rfl ?_
            refine S2027.iload 248 (hb hby at_246) rfl ?_
            refine S2027.iload 250 (hb hby at_248) rfl ?_
            refine S2027.scall 253 (hb hby at_250) (by rw [hml]; rfl) (Tw hw 69 rfl) (Tw hw 70 rfl) (Tw hw 71 rfl) (Tw hw 72 rfl) (by decide) [(.int (1 : Int32)), (.int c_1531), (.int (0 : Int32)), (.int (0 : Int32)), (.int (3 : Int32))] [] (Con.pay (W := 0) (own_ok l Z a0 hw h2006 n0 S2027.old (1 : Int32) c_1531 (0 : Int32) (0 : Int32) (3 : Int32) (fun _ _ q => absurd q (by decide))) (Tw hw 72 rfl) (Tw hw 71 rfl) (by decide) (by decide)) (lenOf own_pd_39 rfl) rfl (Nle rfl) (by decide) (by decide) Wrs.nil ?_
            intro v2030 T2031 h2032 L2033 S2034 q2035 K2036
            obtain ⟨rfl, e_q2035⟩ := q2035
            obtain rfl := e_q2035.symm
            show Go p e below _ T2031 (mkF m 253 #[.val (.int p0), .val (.int p1), .val (.int p2), .val (.int p3), .val (.int c_1530), .val (.int c_1531), .val (.int c_1532), .val (.int c_1533), .val (.int (3 : Int32)), .val (.int (0 : Int32)), .val (.ref b1961), .val (.ref b1992), .val (.int (0 : Int32)), .unset, .unset] [(.int (1 : Int32))])
            refine S2034.ifN 256 (hb hby at_253) (zEqF (by decide)) ?_
            refine S2034.iconst 257 (2 : Int32) (hb hby at_256) ?_
            refine S2034.iload 259 (hb hby at_257) rfl ?_
            refine S2034.iload 261 (hb hby at_259) rfl ?_
            refine S2034.iload 263 (hb hby at_261) rfl ?_
            refine S2034.iload 265 (hb hby at_263) rfl ?_
            refine S2034.scall 268 (hb hby at_265) (by rw [hml]; rfl) (Tw hw 69 rfl) (Tw hw 70 rfl) (Tw hw 71 rfl) (Tw hw 72 rfl) (by decide) [(.int (2 : Int32)), (.int c_1532), (.int (0 : Int32)), (.int (0 : Int32)), (.int (3 : Int32))] [] (Con.pay (W := 0) (own_ok l Z a0 hw h2006 n0 S2034.old (2 : Int32) c_1532 (0 : Int32) (0 : Int32) (3 : Int32) (fun _ _ q => absurd q (by decide))) (Tw hw 72 rfl) (Tw hw 71 rfl) (by decide) (by decide)) (lenOf own_pd_39 rfl) rfl (Nle rfl) (by decide) (by decide) Wrs.nil ?_
            intro v2037 T2038 h2039 L2040 S2041 q2042 K2043
            obtain ⟨rfl, e_q2042⟩ := q2042
            obtain rfl := e_q2042.symm
            show Go p e below _ T2038 (mkF m 268 #[.val (.int p0), .val (.int p1), .val (.int p2), .val (.int p3), .val (.int c_1530), .val (.int c_1531), .val (.int c_1532), .val (.int c_1533), .val (.int (3 : Int32)), .val (.int (0 : Int32)), .val (.ref b1961), .val (.ref b1992), .val (.int (0 : Int32)), .unset, .unset] [(.int (1 : Int32))])
            refine S2041.ifN 271 (hb hby at_268) (zEqF (by decide)) ?_
            refine S2041.iconst 272 (3 : Int32) (hb hby at_271) ?_
            refine S2041.iload 274 (hb hby at_272) rfl ?_
            refine S2041.iload 276 (hb hby at_274) rfl ?_
            refine S2041.iload 278 (hb hby at_276) rfl ?_
            refine S2041.iload 280 (hb hby at_278) rfl ?_
            refine S2041.scall 283 (hb hby at_280) (by rw [hml]; rfl) (Tw hw 69 rfl) (Tw hw 70 rfl) (Tw hw 71 rfl) (Tw hw 72 rfl) (by decide) [(.int (3 : Int32)), (.int c_1533), (.int (0 : Int32)), (.int (0 : Int32)), (.int (3 : Int32))] [] (Con.pay (W := 0) (own_ok l Z a0 hw h2006 n0 S2041.old (3 : Int32) c_1533 (0 : Int32) (0 : Int32) (3 : Int32) (fun q _ _ => absurd q (by decide))) (Tw hw 72 rfl) (Tw hw 71 rfl) (by decide) (by decide)) (lenOf own_pd_39 rfl) rfl (Nle rfl) (by decide) (by decide) Wrs.nil ?_
            intro v2044 T2045 h2046 L2047 S2048 q2049 K2050
            obtain ⟨rfl, e_q2049⟩ := q2049
            obtain rfl := e_q2049.symm
            show Go p e below _ T2045 (mkF m 283 #[.val (.int p0), .val (.int p1), .val (.int p2), .val (.int p3), .val (.int c_1530), .val (.int c_1531), .val (.int c_1532), .val (.int c_1533), .val (.int (3 : Int32)), .val (.int (0 : Int32)), .val (.ref b1961), .val (.ref b1992), .val (.int (0 : Int32)), .unset, .unset] [(.int (1 : Int32))])
            refine S2048.ifN 286 (hb hby at_283) (zEqF (by decide)) ?_
            refine S2048.iconst 287 (1 : Int32) (hb hby at_286) ?_
            refine S2048.goto 291 (hb hby at_287) ?_
            refine S2048.istore 293 #[.val (.int p0), .val (.int p1), .val (.int p2), .val (.int p3), .val (.int c_1530), .val (.int c_1531), .val (.int c_1532), .val (.int c_1533), .val (.int (3 : Int32)), .val (.int (0 : Int32)), .val (.ref b1961), .val (.ref b1992), .val (.int (0 : Int32)), .val (.int (1 : Int32)), .unset] (hb hby at_291) rfl ?_
            refine S2048.iload 295 (hb hby at_293) rfl ?_
            refine S2048.iload 297 (hb hby at_295) rfl ?_
            refine S2048.icmpN 300 (hb hby at_297) (qEqF (by decide)) ?_
            refine S2048.iload 302 (hb hby at_300) rfl ?_
            refine S2048.iload 304 (hb hby at_302) rfl ?_
            refine S2048.iload 306 (hb hby at_304) rfl ?_
            refine S2048.iload 308 (hb hby at_306) rfl ?_
            refine S2048.iload 310 (hb hby at_308) rfl ?_
            refine S2048.scall 313 (hb hby at_310) (by rw [hml]; rfl) (Tw hw 73 rfl) (Tw hw 74 rfl) (Tw hw 71 rfl) (Tw hw 75 rfl) (by decide) [(.int c_1530), (.int c_1531), (.int c_1532), (.int c_1533), (.int (0 : Int32))] [] (Con.pay (W := 0) (own_at0 l Z a0 hw h2006 n0 S2048.old c_1530 c_1531 c_1532 c_1533 u16_c_1530) (Tw hw 75 rfl) (Tw hw 71 rfl) (by decide) (by decide)) (lenOf own_pd_40 rfl) rfl (Nle rfl) (by decide) (by decide) Wrs.nil ?_
            intro v2051 T2052 h2053 L2054 S2055 q2056 K2057
            obtain ⟨rfl, e_q2056⟩ := q2056
            obtain rfl := e_q2056.symm
            show Go p e below _ T2052 (mkF m 313 #[.val (.int p0), .val (.int p1), .val (.int p2), .val (.int p3), .val (.int c_1530), .val (.int c_1531), .val (.int c_1532), .val (.int c_1533), .val (.int (3 : Int32)), .val (.int (0 : Int32)), .val (.ref b1961), .val (.ref b1992), .val (.int (0 : Int32)), .val (.int (1 : Int32)), .unset] [(.int c_1530)])
            refine S2055.scall 316 (hb hby at_313) (by rw [hml]; rfl) (Tw hw 76 rfl) (Tw hw 77 rfl) (Tw hw 71 rfl) (Tw hw 78 rfl) (by decide) [(.int c_1530)] [] (Con.pay (W := 0) (own_dig0 l Z a0 hw h2006 n0 S2055.old c_1530 nd0) (Tw hw 78 rfl) (Tw hw 71 rfl) (by decide) (by decide)) (lenOf own_pd_31 rfl) rfl (Nle rfl) (by decide) (by decide) Wrs.nil ?_
            intro v2058 T2059 h2060 L2061 S2062 q2063 K2064
            obtain ⟨rfl, e_q2063⟩ := q2063
            obtain rfl := e_q2063.symm
            show Go p e below _ T2059 (mkF m 316 #[.val (.int p0), .val (.int p1), .val (.int p2), .val (.int p3), .val (.int c_1530), .val (.int c_1531), .val (.int c_1532), .val (.int c_1533), .val (.int (3 : Int32)), .val (.int (0 : Int32)), .val (.ref b1961), .val (.ref b1992), .val (.int (0 : Int32)), .val (.int (1 : Int32)), .unset] [(.int (0 : Int32))])
            refine S2062.ifN 319 (hb hby at_316) (zNeF (by decide)) ?_
            refine S2062.iconst 320 (1 : Int32) (hb hby at_319) ?_
            refine S2062.goto 324 (hb hby at_320) ?_
            refine S2062.istore 326 #[.val (.int p0), .val (.int p1), .val (.int p2), .val (.int p3), .val (.int c_1530), .val (.int c_1531), .val (.int c_1532), .val (.int c_1533), .val (.int (3 : Int32)), .val (.int (0 : Int32)), .val (.ref b1961), .val (.ref b1992), .val (.int (0 : Int32)), .val (.int (1 : Int32)), .val (.int (1 : Int32))] (hb hby at_324) rfl ?_
            refine S2062.iload 328 (hb hby at_326) rfl ?_
            refine S2062.ifN 331 (hb hby at_328) (zEqF (by decide)) ?_
            refine S2062.iload 333 (hb hby at_331) rfl ?_
            refine S2062.ifN 336 (hb hby at_333) (zEqF (by decide)) ?_
            refine S2062.iconst 337 (1 : Int32) (hb hby at_336) ?_
            refine S2062.goto 341 (hb hby at_337) ?_
            exact S2062.retN (t := .boolean) (hb hby at_341) hret (by decide) (by decide) (by decide) rfl
          · skip
            show Go p e below _ T2017 (mkF m 188 #[.val (.int p0), .val (.int p1), .val (.int p2), .val (.int p3), .val (.int c_1530), .val (.int c_1531), .val (.int c_1532), .val (.int c_1533), .val (.int (3 : Int32)), .val (.int (0 : Int32)), .val (.ref b1961), .val (.ref b1992), .unset, .unset, .unset] [(.int (1 : Int32))])
            refine S2020.istore 190 #[.val (.int p0), .val (.int p1), .val (.int p2), .val (.int p3), .val (.int c_1530), .val (.int c_1531), .val (.int c_1532), .val (.int c_1533), .val (.int (3 : Int32)), .val (.int (0 : Int32)), .val (.ref b1961), .val (.ref b1992), .val (.int (1 : Int32)), .unset, .unset] (hb hby at_188) rfl ?_
            refine S2020.iload 192 (hb hby at_190) rfl ?_
            refine S2020.iload 194 (hb hby at_192) rfl ?_
            refine S2020.icmpY 210 (hb hby at_194) (qLtT (by decide)) ?_
            refine S2020.iload 212 (hb hby at_210) rfl ?_
            refine S2020.iload 214 (hb hby at_212) rfl ?_
            refine S2020.icmpN 217 (hb hby at_214) (qLtF (by decide)) ?_
            refine S2020.iload 219 (hb hby at_217) rfl ?_
            refine S2020.iload 221 (hb hby at_219) rfl ?_
            refine S2020.icmpY 226 (hb hby at_221) (qLeT (by decide)) ?_
            refine S2020.iconst 227 (0 : Int32) (hb hby at_226) ?_
            refine S2020.iload 229 (hb hby at_227) rfl ?_
            refine S2020.iload 231 (hb hby at_229) rfl ?_
            refine S2020.iload 233 (hb hby at_231) rfl ?_
            refine S2020.iload 235 (hb hby at_233) rfl ?_
            refine S2020.scall 238 (hb hby at_235) (by rw [hml]; rfl) (Tw hw 69 rfl) (Tw hw 70 rfl) (Tw hw 71 rfl) (Tw hw 72 rfl) (by decide) [(.int (0 : Int32)), (.int c_1530), (.int (0 : Int32)), (.int (1 : Int32)), (.int (3 : Int32))] [] (Con.pay (W := 0) (own_ok l Z a0 hw h2006 n0 S2020.old (0 : Int32) c_1530 (0 : Int32) (1 : Int32) (3 : Int32) (fun _ _ _ => d1_0)) (Tw hw 72 rfl) (Tw hw 71 rfl) (by decide) (by decide)) (lenOf own_pd_39 rfl) rfl (Nle rfl) (by decide) (by decide) Wrs.nil ?_
            intro v2065 T2066 h2067 L2068 S2069 q2070 K2071
            obtain ⟨rfl, e_q2070⟩ := q2070
            obtain rfl := e_q2070.symm
            show Go p e below _ T2066 (mkF m 238 #[.val (.int p0), .val (.int p1), .val (.int p2), .val (.int p3), .val (.int c_1530), .val (.int c_1531), .val (.int c_1532), .val (.int c_1533), .val (.int (3 : Int32)), .val (.int (0 : Int32)), .val (.ref b1961), .val (.ref b1992), .val (.int (1 : Int32)), .unset, .unset] [(.int (1 : Int32))])
            refine S2069.ifN 241 (hb hby at_238) (zEqF (by decide)) ?_
            refine S2069.iconst 242 (1 : Int32) (hb hby at_241) ?_
            refine S2069.iload 244 (hb hby at_242) rfl ?_
            refine S2069.iload 246 (hb hby at_244) rfl ?_
            refine S2069.iload 248 (hb hby at_246) rfl ?_
            refine S2069.iload 250 (hb hby at_248) rfl ?_
            refine S2069.scall 253 (hb hby at_250) (by rw [hml]; rfl) (Tw hw 69 rfl) (Tw hw 70 rfl) (Tw hw 71 rfl) (Tw hw 72 rfl) (by decide) [(.int (1 : Int32)), (.int c_1531), (.int (0 : Int32)), (.int (1 : Int32)), (.int (3 : Int32))] [] (Con.pay (W := 0) (own_ok l Z a0 hw h2006 n0 S2069.old (1 : Int32) c_1531 (0 : Int32) (1 : Int32) (3 : Int32) (fun _ _ q => absurd q (by decide))) (Tw hw 72 rfl) (Tw hw 71 rfl) (by decide) (by decide)) (lenOf own_pd_39 rfl) rfl (Nle rfl) (by decide) (by decide) Wrs.nil ?_
            intro v2072 T2073 h2074 L2075 S2076 q2077 K2078
            obtain ⟨rfl, e_q2077⟩ := q2077
            obtain rfl := e_q2077.symm
            show Go p e below _ T2073 (mkF m 253 #[.val (.int p0), .val (.int p1), .val (.int p2), .val (.int p3), .val (.int c_1530), .val (.int c_1531), .val (.int c_1532), .val (.int c_1533), .val (.int (3 : Int32)), .val (.int (0 : Int32)), .val (.ref b1961), .val (.ref b1992), .val (.int (1 : Int32)), .unset, .unset] [(.int (1 : Int32))])
            refine S2076.ifN 256 (hb hby at_253) (zEqF (by decide)) ?_
            refine S2076.iconst 257 (2 : Int32) (hb hby at_256) ?_
            refine S2076.iload 259 (hb hby at_257) rfl ?_
            refine S2076.iload 261 (hb hby at_259) rfl ?_
            refine S2076.iload 263 (hb hby at_261) rfl ?_
            refine S2076.iload 265 (hb hby at_263) rfl ?_
            refine S2076.scall 268 (hb hby at_265) (by rw [hml]; rfl) (Tw hw 69 rfl) (Tw hw 70 rfl) (Tw hw 71 rfl) (Tw hw 72 rfl) (by decide) [(.int (2 : Int32)), (.int c_1532), (.int (0 : Int32)), (.int (1 : Int32)), (.int (3 : Int32))] [] (Con.pay (W := 0) (own_ok l Z a0 hw h2006 n0 S2076.old (2 : Int32) c_1532 (0 : Int32) (1 : Int32) (3 : Int32) (fun _ _ q => absurd q (by decide))) (Tw hw 72 rfl) (Tw hw 71 rfl) (by decide) (by decide)) (lenOf own_pd_39 rfl) rfl (Nle rfl) (by decide) (by decide) Wrs.nil ?_
            intro v2079 T2080 h2081 L2082 S2083 q2084 K2085
            obtain ⟨rfl, e_q2084⟩ := q2084
            obtain rfl := e_q2084.symm
            show Go p e below _ T2080 (mkF m 268 #[.val (.int p0), .val (.int p1), .val (.int p2), .val (.int p3), .val (.int c_1530), .val (.int c_1531), .val (.int c_1532), .val (.int c_1533), .val (.int (3 : Int32)), .val (.int (0 : Int32)), .val (.ref b1961), .val (.ref b1992), .val (.int (1 : Int32)), .unset, .unset] [(.int (1 : Int32))])
            refine S2083.ifN 271 (hb hby at_268) (zEqF (by decide)) ?_
            refine S2083.iconst 272 (3 : Int32) (hb hby at_271) ?_
            refine S2083.iload 274 (hb hby at_272) rfl ?_
            refine S2083.iload 276 (hb hby at_274) rfl ?_
            refine S2083.iload 278 (hb hby at_276) rfl ?_
            refine S2083.iload 280 (hb hby at_278) rfl ?_
            refine S2083.scall 283 (hb hby at_280) (by rw [hml]; rfl) (Tw hw 69 rfl) (Tw hw 70 rfl) (Tw hw 71 rfl) (Tw hw 72 rfl) (by decide) [(.int (3 : Int32)), (.int c_1533), (.int (0 : Int32)), (.int (1 : Int32)), (.int (3 : Int32))] [] (Con.pay (W := 0) (own_ok l Z a0 hw h2006 n0 S2083.old (3 : Int32) c_1533 (0 : Int32) (1 : Int32) (3 : Int32) (fun q _ _ => absurd q (by decide))) (Tw hw 72 rfl) (Tw hw 71 rfl) (by decide) (by decide)) (lenOf own_pd_39 rfl) rfl (Nle rfl) (by decide) (by decide) Wrs.nil ?_
            intro v2086 T2087 h2088 L2089 S2090 q2091 K2092
            obtain ⟨rfl, e_q2091⟩ := q2091
            obtain rfl := e_q2091.symm
            show Go p e below _ T2087 (mkF m 283 #[.val (.int p0), .val (.int p1), .val (.int p2), .val (.int p3), .val (.int c_1530), .val (.int c_1531), .val (.int c_1532), .val (.int c_1533), .val (.int (3 : Int32)), .val (.int (0 : Int32)), .val (.ref b1961), .val (.ref b1992), .val (.int (1 : Int32)), .unset, .unset] [(.int (1 : Int32))])
            refine S2090.ifN 286 (hb hby at_283) (zEqF (by decide)) ?_
            refine S2090.iconst 287 (1 : Int32) (hb hby at_286) ?_
            refine S2090.goto 291 (hb hby at_287) ?_
            refine S2090.istore 293 #[.val (.int p0), .val (.int p1), .val (.int p2), .val (.int p3), .val (.int c_1530), .val (.int c_1531), .val (.int c_1532), .val (.int c_1533), .val (.int (3 : Int32)), .val (.int (0 : Int32)), .val (.ref b1961), .val (.ref b1992), .val (.int (1 : Int32)), .val (.int (1 : Int32)), .unset] (hb hby at_291) rfl ?_
            refine S2090.iload 295 (hb hby at_293) rfl ?_
            refine S2090.iload 297 (hb hby at_295) rfl ?_
            refine S2090.icmpN 300 (hb hby at_297) (qEqF (by decide)) ?_
            refine S2090.iload 302 (hb hby at_300) rfl ?_
            refine S2090.iload 304 (hb hby at_302) rfl ?_
            refine S2090.iload 306 (hb hby at_304) rfl ?_
            refine S2090.iload 308 (hb hby at_306) rfl ?_
            refine S2090.iload 310 (hb hby at_308) rfl ?_
            refine S2090.scall 313 (hb hby at_310) (by rw [hml]; rfl) (Tw hw 73 rfl) (Tw hw 74 rfl) (Tw hw 71 rfl) (Tw hw 75 rfl) (by decide) [(.int c_1530), (.int c_1531), (.int c_1532), (.int c_1533), (.int (1 : Int32))] [] (Con.pay (W := 0) (own_at1 l Z a0 hw h2006 n0 S2090.old c_1530 c_1531 c_1532 c_1533 u16_c_1531) (Tw hw 75 rfl) (Tw hw 71 rfl) (by decide) (by decide)) (lenOf own_pd_40 rfl) rfl (Nle rfl) (by decide) (by decide) Wrs.nil ?_
            intro v2093 T2094 h2095 L2096 S2097 q2098 K2099
            obtain ⟨rfl, e_q2098⟩ := q2098
            obtain rfl := e_q2098.symm
            show Go p e below _ T2094 (mkF m 313 #[.val (.int p0), .val (.int p1), .val (.int p2), .val (.int p3), .val (.int c_1530), .val (.int c_1531), .val (.int c_1532), .val (.int c_1533), .val (.int (3 : Int32)), .val (.int (0 : Int32)), .val (.ref b1961), .val (.ref b1992), .val (.int (1 : Int32)), .val (.int (1 : Int32)), .unset] [(.int c_1531)])
            refine S2097.scall 316 (hb hby at_313) (by rw [hml]; rfl) (Tw hw 76 rfl) (Tw hw 77 rfl) (Tw hw 71 rfl) (Tw hw 78 rfl) (by decide) [(.int c_1531)] [] (Con.pay (W := 0) (own_dig0 l Z a0 hw h2006 n0 S2097.old c_1531 nd1) (Tw hw 78 rfl) (Tw hw 71 rfl) (by decide) (by decide)) (lenOf own_pd_31 rfl) rfl (Nle rfl) (by decide) (by decide) Wrs.nil ?_
            intro v2100 T2101 h2102 L2103 S2104 q2105 K2106
            obtain ⟨rfl, e_q2105⟩ := q2105
            obtain rfl := e_q2105.symm
            show Go p e below _ T2101 (mkF m 316 #[.val (.int p0), .val (.int p1), .val (.int p2), .val (.int p3), .val (.int c_1530), .val (.int c_1531), .val (.int c_1532), .val (.int c_1533), .val (.int (3 : Int32)), .val (.int (0 : Int32)), .val (.ref b1961), .val (.ref b1992), .val (.int (1 : Int32)), .val (.int (1 : Int32)), .unset] [(.int (0 : Int32))])
            refine S2104.ifN 319 (hb hby at_316) (zNeF (by decide)) ?_
            refine S2104.iconst 320 (1 : Int32) (hb hby at_319) ?_
            refine S2104.goto 324 (hb hby at_320) ?_
            refine S2104.istore 326 #[.val (.int p0), .val (.int p1), .val (.int p2), .val (.int p3), .val (.int c_1530), .val (.int c_1531), .val (.int c_1532), .val (.int c_1533), .val (.int (3 : Int32)), .val (.int (0 : Int32)), .val (.ref b1961), .val (.ref b1992), .val (.int (1 : Int32)), .val (.int (1 : Int32)), .val (.int (1 : Int32))] (hb hby at_324) rfl ?_
            refine S2104.iload 328 (hb hby at_326) rfl ?_
            refine S2104.ifN 331 (hb hby at_328) (zEqF (by decide)) ?_
            refine S2104.iload 333 (hb hby at_331) rfl ?_
            refine S2104.ifN 336 (hb hby at_333) (zEqF (by decide)) ?_
            refine S2104.iconst 337 (1 : Int32) (hb hby at_336) ?_
            refine S2104.goto 341 (hb hby at_337) ?_
            exact S2104.retN (t := .boolean) (hb hby at_341) hret (by decide) (by decide) (by decide) rfl
          · skip
            show Go p e below _ T2017 (mkF m 188 #[.val (.int p0), .val (.int p1), .val (.int p2), .val (.int p3), .val (.int c_1530), .val (.int c_1531), .val (.int c_1532), .val (.int c_1533), .val (.int (3 : Int32)), .val (.int (0 : Int32)), .val (.ref b1961), .val (.ref b1992), .unset, .unset, .unset] [(.int (2 : Int32))])
            refine S2020.istore 190 #[.val (.int p0), .val (.int p1), .val (.int p2), .val (.int p3), .val (.int c_1530), .val (.int c_1531), .val (.int c_1532), .val (.int c_1533), .val (.int (3 : Int32)), .val (.int (0 : Int32)), .val (.ref b1961), .val (.ref b1992), .val (.int (2 : Int32)), .unset, .unset] (hb hby at_188) rfl ?_
            refine S2020.iload 192 (hb hby at_190) rfl ?_
            refine S2020.iload 194 (hb hby at_192) rfl ?_
            refine S2020.icmpY 210 (hb hby at_194) (qLtT (by decide)) ?_
            refine S2020.iload 212 (hb hby at_210) rfl ?_
            refine S2020.iload 214 (hb hby at_212) rfl ?_
            refine S2020.icmpN 217 (hb hby at_214) (qLtF (by decide)) ?_
            refine S2020.iload 219 (hb hby at_217) rfl ?_
            refine S2020.iload 221 (hb hby at_219) rfl ?_
            refine S2020.icmpY 226 (hb hby at_221) (qLeT (by decide)) ?_
            refine S2020.iconst 227 (0 : Int32) (hb hby at_226) ?_
            refine S2020.iload 229 (hb hby at_227) rfl ?_
            refine S2020.iload 231 (hb hby at_229) rfl ?_
            refine S2020.iload 233 (hb hby at_231) rfl ?_
            refine S2020.iload 235 (hb hby at_233) rfl ?_
            refine S2020.scall 238 (hb hby at_235) (by rw [hml]; rfl) (Tw hw 69 rfl) (Tw hw 70 rfl) (Tw hw 71 rfl) (Tw hw 72 rfl) (by decide) [(.int (0 : Int32)), (.int c_1530), (.int (0 : Int32)), (.int (2 : Int32)), (.int (3 : Int32))] [] (Con.pay (W := 0) (own_ok l Z a0 hw h2006 n0 S2020.old (0 : Int32) c_1530 (0 : Int32) (2 : Int32) (3 : Int32) (fun _ _ _ => d2_0)) (Tw hw 72 rfl) (Tw hw 71 rfl) (by decide) (by decide)) (lenOf own_pd_39 rfl) rfl (Nle rfl) (by decide) (by decide) Wrs.nil ?_
            intro v2107 T2108 h2109 L2110 S2111 q2112 K2113
            obtain ⟨rfl, e_q2112⟩ := q2112
            obtain rfl := e_q2112.symm
            show Go p e below _ T2108 (mkF m 238 #[.val (.int p0), .val (.int p1), .val (.int p2), .val (.int p3), .val (.int c_1530), .val (.int c_1531), .val (.int c_1532), .val (.int c_1533), .val (.int (3 : Int32)), .val (.int (0 : Int32)), .val (.ref b1961), .val (.ref b1992), .val (.int (2 : Int32)), .unset, .unset] [(.int (1 : Int32))])
            refine S2111.ifN 241 (hb hby at_238) (zEqF (by decide)) ?_
            refine S2111.iconst 242 (1 : Int32) (hb hby at_241) ?_
            refine S2111.iload 244 (hb hby at_242) rfl ?_
            refine S2111.iload 246 (hb hby at_244) rfl ?_
            refine S2111.iload 248 (hb hby at_246) rfl ?_
            refine S2111.iload 250 (hb hby at_248) rfl ?_
            refine S2111.scall 253 (hb hby at_250) (by rw [hml]; rfl) (Tw hw 69 rfl) (Tw hw 70 rfl) (Tw hw 71 rfl) (Tw hw 72 rfl) (by decide) [(.int (1 : Int32)), (.int c_1531), (.int (0 : Int32)), (.int (2 : Int32)), (.int (3 : Int32))] [] (Con.pay (W := 0) (own_ok l Z a0 hw h2006 n0 S2111.old (1 : Int32) c_1531 (0 : Int32) (2 : Int32) (3 : Int32) (fun _ _ _ => d2_1)) (Tw hw 72 rfl) (Tw hw 71 rfl) (by decide) (by decide)) (lenOf own_pd_39 rfl) rfl (Nle rfl) (by decide) (by decide) Wrs.nil ?_
            intro v2114 T2115 h2116 L2117 S2118 q2119 K2120
            obtain ⟨rfl, e_q2119⟩ := q2119
            obtain rfl := e_q2119.symm
            show Go p e below _ T2115 (mkF m 253 #[.val (.int p0), .val (.int p1), .val (.int p2), .val (.int p3), .val (.int c_1530), .val (.int c_1531), .val (.int c_1532), .val (.int c_1533), .val (.int (3 : Int32)), .val (.int (0 : Int32)), .val (.ref b1961), .val (.ref b1992), .val (.int (2 : Int32)), .unset, .unset] [(.int (1 : Int32))])
            refine S2118.ifN 256 (hb hby at_253) (zEqF (by decide)) ?_
            refine S2118.iconst 257 (2 : Int32) (hb hby at_256) ?_
            refine S2118.iload 259 (hb hby at_257) rfl ?_
            refine S2118.iload 261 (hb hby at_259) rfl ?_
            refine S2118.iload 263 (hb hby at_261) rfl ?_
            refine S2118.iload 265 (hb hby at_263) rfl ?_
            refine S2118.scall 268 (hb hby at_265) (by rw [hml]; rfl) (Tw hw 69 rfl) (Tw hw 70 rfl) (Tw hw 71 rfl) (Tw hw 72 rfl) (by decide) [(.int (2 : Int32)), (.int c_1532), (.int (0 : Int32)), (.int (2 : Int32)), (.int (3 : Int32))] [] (Con.pay (W := 0) (own_ok l Z a0 hw h2006 n0 S2118.old (2 : Int32) c_1532 (0 : Int32) (2 : Int32) (3 : Int32) (fun _ _ q => absurd q (by decide))) (Tw hw 72 rfl) (Tw hw 71 rfl) (by decide) (by decide)) (lenOf own_pd_39 rfl) rfl (Nle rfl) (by decide) (by decide) Wrs.nil ?_
            intro v2121 T2122 h2123 L2124 S2125 q2126 K2127
            obtain ⟨rfl, e_q2126⟩ := q2126
            obtain rfl := e_q2126.symm
            show Go p e below _ T2122 (mkF m 268 #[.val (.int p0), .val (.int p1), .val (.int p2), .val (.int p3), .val (.int c_1530), .val (.int c_1531), .val (.int c_1532), .val (.int c_1533), .val (.int (3 : Int32)), .val (.int (0 : Int32)), .val (.ref b1961), .val (.ref b1992), .val (.int (2 : Int32)), .unset, .unset] [(.int (1 : Int32))])
            refine S2125.ifN 271 (hb hby at_268) (zEqF (by decide)) ?_
            refine S2125.iconst 272 (3 : Int32) (hb hby at_271) ?_
            refine S2125.iload 274 (hb hby at_272) rfl ?_
            refine S2125.iload 276 (hb hby at_274) rfl ?_
            refine S2125.iload 278 (hb hby at_276) rfl ?_
            refine S2125.iload 280 (hb hby at_278) rfl ?_
            refine S2125.scall 283 (hb hby at_280) (by rw [hml]; rfl) (Tw hw 69 rfl) (Tw hw 70 rfl) (Tw hw 71 rfl) (Tw hw 72 rfl) (by decide) [(.int (3 : Int32)), (.int c_1533), (.int (0 : Int32)), (.int (2 : Int32)), (.int (3 : Int32))] [] (Con.pay (W := 0) (own_ok l Z a0 hw h2006 n0 S2125.old (3 : Int32) c_1533 (0 : Int32) (2 : Int32) (3 : Int32) (fun q _ _ => absurd q (by decide))) (Tw hw 72 rfl) (Tw hw 71 rfl) (by decide) (by decide)) (lenOf own_pd_39 rfl) rfl (Nle rfl) (by decide) (by decide) Wrs.nil ?_
            intro v2128 T2129 h2130 L2131 S2132 q2133 K2134
            obtain ⟨rfl, e_q2133⟩ := q2133
            obtain rfl := e_q2133.symm
            show Go p e below _ T2129 (mkF m 283 #[.val (.int p0), .val (.int p1), .val (.int p2), .val (.int p3), .val (.int c_1530), .val (.int c_1531), .val (.int c_1532), .val (.int c_1533), .val (.int (3 : Int32)), .val (.int (0 : Int32)), .val (.ref b1961), .val (.ref b1992), .val (.int (2 : Int32)), .unset, .unset] [(.int (1 : Int32))])
            refine S2132.ifN 286 (hb hby at_283) (zEqF (by decide)) ?_
            refine S2132.iconst 287 (1 : Int32) (hb hby at_286) ?_
            refine S2132.goto 291 (hb hby at_287) ?_
            refine S2132.istore 293 #[.val (.int p0), .val (.int p1), .val (.int p2), .val (.int p3), .val (.int c_1530), .val (.int c_1531), .val (.int c_1532), .val (.int c_1533), .val (.int (3 : Int32)), .val (.int (0 : Int32)), .val (.ref b1961), .val (.ref b1992), .val (.int (2 : Int32)), .val (.int (1 : Int32)), .unset] (hb hby at_291) rfl ?_
            refine S2132.iload 295 (hb hby at_293) rfl ?_
            refine S2132.iload 297 (hb hby at_295) rfl ?_
            refine S2132.icmpN 300 (hb hby at_297) (qEqF (by decide)) ?_
            refine S2132.iload 302 (hb hby at_300) rfl ?_
            refine S2132.iload 304 (hb hby at_302) rfl ?_
            refine S2132.iload 306 (hb hby at_304) rfl ?_
            refine S2132.iload 308 (hb hby at_306) rfl ?_
            refine S2132.iload 310 (hb hby at_308) rfl ?_
            refine S2132.scall 313 (hb hby at_310) (by rw [hml]; rfl) (Tw hw 73 rfl) (Tw hw 74 rfl) (Tw hw 71 rfl) (Tw hw 75 rfl) (by decide) [(.int c_1530), (.int c_1531), (.int c_1532), (.int c_1533), (.int (2 : Int32))] [] (Con.pay (W := 0) (own_at2 l Z a0 hw h2006 n0 S2132.old c_1530 c_1531 c_1532 c_1533 u16_c_1532) (Tw hw 75 rfl) (Tw hw 71 rfl) (by decide) (by decide)) (lenOf own_pd_40 rfl) rfl (Nle rfl) (by decide) (by decide) Wrs.nil ?_
            intro v2135 T2136 h2137 L2138 S2139 q2140 K2141
            obtain ⟨rfl, e_q2140⟩ := q2140
            obtain rfl := e_q2140.symm
            show Go p e below _ T2136 (mkF m 313 #[.val (.int p0), .val (.int p1), .val (.int p2), .val (.int p3), .val (.int c_1530), .val (.int c_1531), .val (.int c_1532), .val (.int c_1533), .val (.int (3 : Int32)), .val (.int (0 : Int32)), .val (.ref b1961), .val (.ref b1992), .val (.int (2 : Int32)), .val (.int (1 : Int32)), .unset] [(.int c_1532)])
            refine S2139.scall 316 (hb hby at_313) (by rw [hml]; rfl) (Tw hw 76 rfl) (Tw hw 77 rfl) (Tw hw 71 rfl) (Tw hw 78 rfl) (by decide) [(.int c_1532)] [] (Con.pay (W := 0) (own_dig0 l Z a0 hw h2006 n0 S2139.old c_1532 nd2) (Tw hw 78 rfl) (Tw hw 71 rfl) (by decide) (by decide)) (lenOf own_pd_31 rfl) rfl (Nle rfl) (by decide) (by decide) Wrs.nil ?_
            intro v2142 T2143 h2144 L2145 S2146 q2147 K2148
            obtain ⟨rfl, e_q2147⟩ := q2147
            obtain rfl := e_q2147.symm
            show Go p e below _ T2143 (mkF m 316 #[.val (.int p0), .val (.int p1), .val (.int p2), .val (.int p3), .val (.int c_1530), .val (.int c_1531), .val (.int c_1532), .val (.int c_1533), .val (.int (3 : Int32)), .val (.int (0 : Int32)), .val (.ref b1961), .val (.ref b1992), .val (.int (2 : Int32)), .val (.int (1 : Int32)), .unset] [(.int (0 : Int32))])
            refine S2146.ifN 319 (hb hby at_316) (zNeF (by decide)) ?_
            refine S2146.iconst 320 (1 : Int32) (hb hby at_319) ?_
            refine S2146.goto 324 (hb hby at_320) ?_
            refine S2146.istore 326 #[.val (.int p0), .val (.int p1), .val (.int p2), .val (.int p3), .val (.int c_1530), .val (.int c_1531), .val (.int c_1532), .val (.int c_1533), .val (.int (3 : Int32)), .val (.int (0 : Int32)), .val (.ref b1961), .val (.ref b1992), .val (.int (2 : Int32)), .val (.int (1 : Int32)), .val (.int (1 : Int32))] (hb hby at_324) rfl ?_
            refine S2146.iload 328 (hb hby at_326) rfl ?_
            refine S2146.ifN 331 (hb hby at_328) (zEqF (by decide)) ?_
            refine S2146.iload 333 (hb hby at_331) rfl ?_
            refine S2146.ifN 336 (hb hby at_333) (zEqF (by decide)) ?_
            refine S2146.iconst 337 (1 : Int32) (hb hby at_336) ?_
            refine S2146.goto 341 (hb hby at_337) ?_
            exact S2146.retN (t := .boolean) (hb hby at_341) hret (by decide) (by decide) (by decide) rfl
          · skip
            show Go p e below _ T2017 (mkF m 188 #[.val (.int p0), .val (.int p1), .val (.int p2), .val (.int p3), .val (.int c_1530), .val (.int c_1531), .val (.int c_1532), .val (.int c_1533), .val (.int (3 : Int32)), .val (.int (0 : Int32)), .val (.ref b1961), .val (.ref b1992), .unset, .unset, .unset] [(.int (3 : Int32))])
            refine S2020.istore 190 #[.val (.int p0), .val (.int p1), .val (.int p2), .val (.int p3), .val (.int c_1530), .val (.int c_1531), .val (.int c_1532), .val (.int c_1533), .val (.int (3 : Int32)), .val (.int (0 : Int32)), .val (.ref b1961), .val (.ref b1992), .val (.int (3 : Int32)), .unset, .unset] (hb hby at_188) rfl ?_
            refine S2020.iload 192 (hb hby at_190) rfl ?_
            refine S2020.iload 194 (hb hby at_192) rfl ?_
            refine S2020.icmpY 210 (hb hby at_194) (qLtT (by decide)) ?_
            refine S2020.iload 212 (hb hby at_210) rfl ?_
            refine S2020.iload 214 (hb hby at_212) rfl ?_
            refine S2020.icmpN 217 (hb hby at_214) (qLtF (by decide)) ?_
            refine S2020.iload 219 (hb hby at_217) rfl ?_
            refine S2020.iload 221 (hb hby at_219) rfl ?_
            refine S2020.icmpY 226 (hb hby at_221) (qLeT (by decide)) ?_
            refine S2020.iconst 227 (0 : Int32) (hb hby at_226) ?_
            refine S2020.iload 229 (hb hby at_227) rfl ?_
            refine S2020.iload 231 (hb hby at_229) rfl ?_
            refine S2020.iload 233 (hb hby at_231) rfl ?_
            refine S2020.iload 235 (hb hby at_233) rfl ?_
            refine S2020.scall 238 (hb hby at_235) (by rw [hml]; rfl) (Tw hw 69 rfl) (Tw hw 70 rfl) (Tw hw 71 rfl) (Tw hw 72 rfl) (by decide) [(.int (0 : Int32)), (.int c_1530), (.int (0 : Int32)), (.int (3 : Int32)), (.int (3 : Int32))] [] (Con.pay (W := 0) (own_ok l Z a0 hw h2006 n0 S2020.old (0 : Int32) c_1530 (0 : Int32) (3 : Int32) (3 : Int32) (fun _ _ _ => d3_0)) (Tw hw 72 rfl) (Tw hw 71 rfl) (by decide) (by decide)) (lenOf own_pd_39 rfl) rfl (Nle rfl) (by decide) (by decide) Wrs.nil ?_
            intro v2149 T2150 h2151 L2152 S2153 q2154 K2155
            obtain ⟨rfl, e_q2154⟩ := q2154
            obtain rfl := e_q2154.symm
            show Go p e below _ T2150 (mkF m 238 #[.val (.int p0), .val (.int p1), .val (.int p2), .val (.int p3), .val (.int c_1530), .val (.int c_1531), .val (.int c_1532), .val (.int c_1533), .val (.int (3 : Int32)), .val (.int (0 : Int32)), .val (.ref b1961), .val (.ref b1992), .val (.int (3 : Int32)), .unset, .unset] [(.int (1 : Int32))])
            refine S2153.ifN 241 (hb hby at_238) (zEqF (by decide)) ?_
            refine S2153.iconst 242 (1 : Int32) (hb hby at_241) ?_
            refine S2153.iload 244 (hb hby at_242) rfl ?_
            refine S2153.iload 246 (hb hby at_244) rfl ?_
            refine S2153.iload 248 (hb hby at_246) rfl ?_
            refine S2153.iload 250 (hb hby at_248) rfl ?_
            refine S2153.scall 253 (hb hby at_250) (by rw [hml]; rfl) (Tw hw 69 rfl) (Tw hw 70 rfl) (Tw hw 71 rfl) (Tw hw 72 rfl) (by decide) [(.int (1 : Int32)), (.int c_1531), (.int (0 : Int32)), (.int (3 : Int32)), (.int (3 : Int32))] [] (Con.pay (W := 0) (own_ok l Z a0 hw h2006 n0 S2153.old (1 : Int32) c_1531 (0 : Int32) (3 : Int32) (3 : Int32) (fun _ _ _ => d3_1)) (Tw hw 72 rfl) (Tw hw 71 rfl) (by decide) (by decide)) (lenOf own_pd_39 rfl) rfl (Nle rfl) (by decide) (by decide) Wrs.nil ?_
            intro v2156 T2157 h2158 L2159 S2160 q2161 K2162
            obtain ⟨rfl, e_q2161⟩ := q2161
            obtain rfl := e_q2161.symm
            show Go p e below _ T2157 (mkF m 253 #[.val (.int p0), .val (.int p1), .val (.int p2), .val (.int p3), .val (.int c_1530), .val (.int c_1531), .val (.int c_1532), .val (.int c_1533), .val (.int (3 : Int32)), .val (.int (0 : Int32)), .val (.ref b1961), .val (.ref b1992), .val (.int (3 : Int32)), .unset, .unset] [(.int (1 : Int32))])
            refine S2160.ifN 256 (hb hby at_253) (zEqF (by decide)) ?_
            refine S2160.iconst 257 (2 : Int32) (hb hby at_256) ?_
            refine S2160.iload 259 (hb hby at_257) rfl ?_
            refine S2160.iload 261 (hb hby at_259) rfl ?_
            refine S2160.iload 263 (hb hby at_261) rfl ?_
            refine S2160.iload 265 (hb hby at_263) rfl ?_
            refine S2160.scall 268 (hb hby at_265) (by rw [hml]; rfl) (Tw hw 69 rfl) (Tw hw 70 rfl) (Tw hw 71 rfl) (Tw hw 72 rfl) (by decide) [(.int (2 : Int32)), (.int c_1532), (.int (0 : Int32)), (.int (3 : Int32)), (.int (3 : Int32))] [] (Con.pay (W := 0) (own_ok l Z a0 hw h2006 n0 S2160.old (2 : Int32) c_1532 (0 : Int32) (3 : Int32) (3 : Int32) (fun _ _ _ => d3_2)) (Tw hw 72 rfl) (Tw hw 71 rfl) (by decide) (by decide)) (lenOf own_pd_39 rfl) rfl (Nle rfl) (by decide) (by decide) Wrs.nil ?_
            intro v2163 T2164 h2165 L2166 S2167 q2168 K2169
            obtain ⟨rfl, e_q2168⟩ := q2168
            obtain rfl := e_q2168.symm
            show Go p e below _ T2164 (mkF m 268 #[.val (.int p0), .val (.int p1), .val (.int p2), .val (.int p3), .val (.int c_1530), .val (.int c_1531), .val (.int c_1532), .val (.int c_1533), .val (.int (3 : Int32)), .val (.int (0 : Int32)), .val (.ref b1961), .val (.ref b1992), .val (.int (3 : Int32)), .unset, .unset] [(.int (1 : Int32))])
            refine S2167.ifN 271 (hb hby at_268) (zEqF (by decide)) ?_
            refine S2167.iconst 272 (3 : Int32) (hb hby at_271) ?_
            refine S2167.iload 274 (hb hby at_272) rfl ?_
            refine S2167.iload 276 (hb hby at_274) rfl ?_
            refine S2167.iload 278 (hb hby at_276) rfl ?_
            refine S2167.iload 280 (hb hby at_278) rfl ?_
            refine S2167.scall 283 (hb hby at_280) (by rw [hml]; rfl) (Tw hw 69 rfl) (Tw hw 70 rfl) (Tw hw 71 rfl) (Tw hw 72 rfl) (by decide) [(.int (3 : Int32)), (.int c_1533), (.int (0 : Int32)), (.int (3 : Int32)), (.int (3 : Int32))] [] (Con.pay (W := 0) (own_ok l Z a0 hw h2006 n0 S2167.old (3 : Int32) c_1533 (0 : Int32) (3 : Int32) (3 : Int32) (fun q _ _ => absurd q (by decide))) (Tw hw 72 rfl) (Tw hw 71 rfl) (by decide) (by decide)) (lenOf own_pd_39 rfl) rfl (Nle rfl) (by decide) (by decide) Wrs.nil ?_
            intro v2170 T2171 h2172 L2173 S2174 q2175 K2176
            obtain ⟨rfl, e_q2175⟩ := q2175
            obtain rfl := e_q2175.symm
            show Go p e below _ T2171 (mkF m 283 #[.val (.int p0), .val (.int p1), .val (.int p2), .val (.int p3), .val (.int c_1530), .val (.int c_1531), .val (.int c_1532), .val (.int c_1533), .val (.int (3 : Int32)), .val (.int (0 : Int32)), .val (.ref b1961), .val (.ref b1992), .val (.int (3 : Int32)), .unset, .unset] [(.int (1 : Int32))])
            refine S2174.ifN 286 (hb hby at_283) (zEqF (by decide)) ?_
            refine S2174.iconst 287 (1 : Int32) (hb hby at_286) ?_
            refine S2174.goto 291 (hb hby at_287) ?_
            refine S2174.istore 293 #[.val (.int p0), .val (.int p1), .val (.int p2), .val (.int p3), .val (.int c_1530), .val (.int c_1531), .val (.int c_1532), .val (.int c_1533), .val (.int (3 : Int32)), .val (.int (0 : Int32)), .val (.ref b1961), .val (.ref b1992), .val (.int (3 : Int32)), .val (.int (1 : Int32)), .unset] (hb hby at_291) rfl ?_
            refine S2174.iload 295 (hb hby at_293) rfl ?_
            refine S2174.iload 297 (hb hby at_295) rfl ?_
            refine S2174.icmpY 319 (hb hby at_297) (qEqT (by decide)) ?_
            refine S2174.iconst 320 (1 : Int32) (hb hby at_319) ?_
            refine S2174.goto 324 (hb hby at_320) ?_
            refine S2174.istore 326 #[.val (.int p0), .val (.int p1), .val (.int p2), .val (.int p3), .val (.int c_1530), .val (.int c_1531), .val (.int c_1532), .val (.int c_1533), .val (.int (3 : Int32)), .val (.int (0 : Int32)), .val (.ref b1961), .val (.ref b1992), .val (.int (3 : Int32)), .val (.int (1 : Int32)), .val (.int (1 : Int32))] (hb hby at_324) rfl ?_
            refine S2174.iload 328 (hb hby at_326) rfl ?_
            refine S2174.ifN 331 (hb hby at_328) (zEqF (by decide)) ?_
            refine S2174.iload 333 (hb hby at_331) rfl ?_
            refine S2174.ifN 336 (hb hby at_333) (zEqF (by decide)) ?_
            refine S2174.iconst 337 (1 : Int32) (hb hby at_336) ?_
            refine S2174.goto 341 (hb hby at_337) ?_
            exact S2174.retN (t := .boolean) (hb hby at_341) hret (by decide) (by decide) (by decide) rfl
        · skip
          refine S2008.aload 183 (hb hby at_181) rfl rfl ?_
          refine S2008.iload 185 (hb hby at_183) rfl ?_
          refine S2008.scall 188 (hb hby at_185) (by rw [hml]; rfl) (Tw hw 33 rfl) (Tw hw 34 rfl) (Tw hw 35 rfl) (Tw hw 36 rfl) (by decide) [(.ref b1992), (.int (1 : Int32))] [] (Con.pay (W := 0) (own_de_3_1 l Z a0 hw cm us sf h2006 n0 S2008.old b1992 t2011 c_1530 c_1531 c_1532 Z2013) (Tw hw 36 rfl) (Tw hw 35 rfl) (by decide) (by decide)) (lenOf own_pd_38 rfl) rfl (Nle rfl) (by decide) (by decide) Wrs.nil ?_
          intro v2177 T2178 h2179 L2180 S2181 q2182 K2183
          obtain ⟨hq_q2182, e_q2182⟩ := q2182
          obtain rfl := e_q2182.symm
          rcases hq_q2182 with ⟨rfl, nd1⟩ | ⟨rfl, d2_1, nd2⟩ | ⟨rfl, d3_1, d3_2⟩
          · skip
            show Go p e below _ T2178 (mkF m 188 #[.val (.int p0), .val (.int p1), .val (.int p2), .val (.int p3), .val (.int c_1530), .val (.int c_1531), .val (.int c_1532), .val (.int c_1533), .val (.int (3 : Int32)), .val (.int (1 : Int32)), .val (.ref b1961), .val (.ref b1992), .unset, .unset, .unset] [(.int (1 : Int32))])
            refine S2181.istore 190 #[.val (.int p0), .val (.int p1), .val (.int p2), .val (.int p3), .val (.int c_1530), .val (.int c_1531), .val (.int c_1532), .val (.int c_1533), .val (.int (3 : Int32)), .val (.int (1 : Int32)), .val (.ref b1961), .val (.ref b1992), .val (.int (1 : Int32)), .unset, .unset] (hb hby at_188) rfl ?_
            refine S2181.iload 192 (hb hby at_190) rfl ?_
            refine S2181.iload 194 (hb hby at_192) rfl ?_
            refine S2181.icmpY 210 (hb hby at_194) (qLtT (by decide)) ?_
            refine S2181.iload 212 (hb hby at_210) rfl ?_
            refine S2181.iload 214 (hb hby at_212) rfl ?_
            refine S2181.icmpN 217 (hb hby at_214) (qLtF (by decide)) ?_
            refine S2181.iload 219 (hb hby at_217) rfl ?_
            refine S2181.iload 221 (hb hby at_219) rfl ?_
            refine S2181.icmpY 226 (hb hby at_221) (qLeT (by decide)) ?_
            refine S2181.iconst 227 (0 : Int32) (hb hby at_226) ?_
            refine S2181.iload 229 (hb hby at_227) rfl ?_
            refine S2181.iload 231 (hb hby at_229) rfl ?_
            refine S2181.iload 233 (hb hby at_231) rfl ?_
            refine S2181.iload 235 (hb hby at_233) rfl ?_
            refine S2181.scall 238 (hb hby at_235) (by rw [hml]; rfl) (Tw hw 69 rfl) (Tw hw 70 rfl) (Tw hw 71 rfl) (Tw hw 72 rfl) (by decide) [(.int (0 : Int32)), (.int c_1530), (.int (1 : Int32)), (.int (1 : Int32)), (.int (3 : Int32))] [] (Con.pay (W := 0) (own_ok l Z a0 hw h2006 n0 S2181.old (0 : Int32) c_1530 (1 : Int32) (1 : Int32) (3 : Int32) (fun _ q _ => absurd (by decide) q)) (Tw hw 72 rfl) (Tw hw 71 rfl) (by decide) (by decide)) (lenOf own_pd_39 rfl) rfl (Nle rfl) (by decide) (by decide) Wrs.nil ?_
            intro v2184 T2185 h2186 L2187 S2188 q2189 K2190
            obtain ⟨rfl, e_q2189⟩ := q2189
            obtain rfl := e_q2189.symm
            show Go p e below _ T2185 (mkF m 238 #[.val (.int p0), .val (.int p1), .val (.int p2), .val (.int p3), .val (.int c_1530), .val (.int c_1531), .val (.int c_1532), .val (.int c_1533), .val (.int (3 : Int32)), .val (.int (1 : Int32)), .val (.ref b1961), .val (.ref b1992), .val (.int (1 : Int32)), .unset, .unset] [(.int (1 : Int32))])
            refine S2188.ifN 241 (hb hby at_238) (zEqF (by decide)) ?_
            refine S2188.iconst 242 (1 : Int32) (hb hby at_241) ?_
            refine S2188.iload 244 (hb hby at_242) rfl ?_
            refine S2188.iload 246 (hb hby at_244) rfl ?_
            refine S2188.iload 248 (hb hby at_246) rfl ?_
            refine S2188.iload 250 (hb hby at_248) rfl ?_
            refine S2188.scall 253 (hb hby at_250) (by rw [hml]; rfl) (Tw hw 69 rfl) (Tw hw 70 rfl) (Tw hw 71 rfl) (Tw hw 72 rfl) (by decide) [(.int (1 : Int32)), (.int c_1531), (.int (1 : Int32)), (.int (1 : Int32)), (.int (3 : Int32))] [] (Con.pay (W := 0) (own_ok l Z a0 hw h2006 n0 S2188.old (1 : Int32) c_1531 (1 : Int32) (1 : Int32) (3 : Int32) (fun _ _ q => absurd q (by decide))) (Tw hw 72 rfl) (Tw hw 71 rfl) (by decide) (by decide)) (lenOf own_pd_39 rfl) rfl (Nle rfl) (by decide) (by decide) Wrs.nil ?_
            intro v2191 T2192 h2193 L2194 S2195 q2196 K2197
            obtain ⟨rfl, e_q2196⟩ := q2196
            obtain rfl := e_q2196.symm
            show Go p e below _ T2192 (mkF m 253 #[.val (.int p0), .val (.int p1), .val (.int p2), .val (.int p3), .val (.int c_1530), .val (.int c_1531), .val (.int c_1532), .val (.int c_1533), .val (.int (3 : Int32)), .val (.int (1 : Int32)), .val (.ref b1961), .val (.ref b1992), .val (.int (1 : Int32)), .unset, .unset] [(.int (1 : Int32))])
            refine S2195.ifN 256 (hb hby at_253) (zEqF (by decide)) ?_
            refine S2195.iconst 257 (2 : Int32) (hb hby at_256) ?_
            refine S2195.iload 259 (hb hby at_257) rfl ?_
            refine S2195.iload 261 (hb hby at_259) rfl ?_
            refine S2195.iload 263 (hb hby at_261) rfl ?_
            refine S2195.iload 265 (hb hby at_263) rfl ?_
            refine S2195.scall 268 (hb hby at_265) (by rw [hml]; rfl) (Tw hw 69 rfl) (Tw hw 70 rfl) (Tw hw 71 rfl) (Tw hw 72 rfl) (by decide) [(.int (2 : Int32)), (.int c_1532), (.int (1 : Int32)), (.int (1 : Int32)), (.int (3 : Int32))] [] (Con.pay (W := 0) (own_ok l Z a0 hw h2006 n0 S2195.old (2 : Int32) c_1532 (1 : Int32) (1 : Int32) (3 : Int32) (fun _ _ q => absurd q (by decide))) (Tw hw 72 rfl) (Tw hw 71 rfl) (by decide) (by decide)) (lenOf own_pd_39 rfl) rfl (Nle rfl) (by decide) (by decide) Wrs.nil ?_
            intro v2198 T2199 h2200 L2201 S2202 q2203 K2204
            obtain ⟨rfl, e_q2203⟩ := q2203
            obtain rfl := e_q2203.symm
            show Go p e below _ T2199 (mkF m 268 #[.val (.int p0), .val (.int p1), .val (.int p2), .val (.int p3), .val (.int c_1530), .val (.int c_1531), .val (.int c_1532), .val (.int c_1533), .val (.int (3 : Int32)), .val (.int (1 : Int32)), .val (.ref b1961), .val (.ref b1992), .val (.int (1 : Int32)), .unset, .unset] [(.int (1 : Int32))])
            refine S2202.ifN 271 (hb hby at_268) (zEqF (by decide)) ?_
            refine S2202.iconst 272 (3 : Int32) (hb hby at_271) ?_
            refine S2202.iload 274 (hb hby at_272) rfl ?_
            refine S2202.iload 276 (hb hby at_274) rfl ?_
            refine S2202.iload 278 (hb hby at_276) rfl ?_
            refine S2202.iload 280 (hb hby at_278) rfl ?_
            refine S2202.scall 283 (hb hby at_280) (by rw [hml]; rfl) (Tw hw 69 rfl) (Tw hw 70 rfl) (Tw hw 71 rfl) (Tw hw 72 rfl) (by decide) [(.int (3 : Int32)), (.int c_1533), (.int (1 : Int32)), (.int (1 : Int32)), (.int (3 : Int32))] [] (Con.pay (W := 0) (own_ok l Z a0 hw h2006 n0 S2202.old (3 : Int32) c_1533 (1 : Int32) (1 : Int32) (3 : Int32) (fun q _ _ => absurd q (by decide))) (Tw hw 72 rfl) (Tw hw 71 rfl) (by decide) (by decide)) (lenOf own_pd_39 rfl) rfl (Nle rfl) (by decide) (by decide) Wrs.nil ?_
            intro v2205 T2206 h2207 L2208 S2209 q2210 K2211
            obtain ⟨rfl, e_q2210⟩ := q2210
            obtain rfl := e_q2210.symm
            show Go p e below _ T2206 (mkF m 283 #[.val (.int p0), .val (.int p1), .val (.int p2), .val (.int p3), .val (.int c_1530), .val (.int c_1531), .val (.int c_1532), .val (.int c_1533), .val (.int (3 : Int32)), .val (.int (1 : Int32)), .val (.ref b1961), .val (.ref b1992), .val (.int (1 : Int32)), .unset, .unset] [(.int (1 : Int32))])
            refine S2209.ifN 286 (hb hby at_283) (zEqF (by decide)) ?_
            refine S2209.iconst 287 (1 : Int32) (hb hby at_286) ?_
            refine S2209.goto 291 (hb hby at_287) ?_
            refine S2209.istore 293 #[.val (.int p0), .val (.int p1), .val (.int p2), .val (.int p3), .val (.int c_1530), .val (.int c_1531), .val (.int c_1532), .val (.int c_1533), .val (.int (3 : Int32)), .val (.int (1 : Int32)), .val (.ref b1961), .val (.ref b1992), .val (.int (1 : Int32)), .val (.int (1 : Int32)), .unset] (hb hby at_291) rfl ?_
            refine S2209.iload 295 (hb hby at_293) rfl ?_
            refine S2209.iload 297 (hb hby at_295) rfl ?_
            refine S2209.icmpN 300 (hb hby at_297) (qEqF (by decide)) ?_
            refine S2209.iload 302 (hb hby at_300) rfl ?_
            refine S2209.iload 304 (hb hby at_302) rfl ?_
            refine S2209.iload 306 (hb hby at_304) rfl ?_
            refine S2209.iload 308 (hb hby at_306) rfl ?_
            refine S2209.iload 310 (hb hby at_308) rfl ?_
            refine S2209.scall 313 (hb hby at_310) (by rw [hml]; rfl) (Tw hw 73 rfl) (Tw hw 74 rfl) (Tw hw 71 rfl) (Tw hw 75 rfl) (by decide) [(.int c_1530), (.int c_1531), (.int c_1532), (.int c_1533), (.int (1 : Int32))] [] (Con.pay (W := 0) (own_at1 l Z a0 hw h2006 n0 S2209.old c_1530 c_1531 c_1532 c_1533 u16_c_1531) (Tw hw 75 rfl) (Tw hw 71 rfl) (by decide) (by decide)) (lenOf own_pd_40 rfl) rfl (Nle rfl) (by decide) (by decide) Wrs.nil ?_
            intro v2212 T2213 h2214 L2215 S2216 q2217 K2218
            obtain ⟨rfl, e_q2217⟩ := q2217
            obtain rfl := e_q2217.symm
            show Go p e below _ T2213 (mkF m 313 #[.val (.int p0), .val (.int p1), .val (.int p2), .val (.int p3), .val (.int c_1530), .val (.int c_1531), .val (.int c_1532), .val (.int c_1533), .val (.int (3 : Int32)), .val (.int (1 : Int32)), .val (.ref b1961), .val (.ref b1992), .val (.int (1 : Int32)), .val (.int (1 : Int32)), .unset] [(.int c_1531)])
            refine S2216.scall 316 (hb hby at_313) (by rw [hml]; rfl) (Tw hw 76 rfl) (Tw hw 77 rfl) (Tw hw 71 rfl) (Tw hw 78 rfl) (by decide) [(.int c_1531)] [] (Con.pay (W := 0) (own_dig0 l Z a0 hw h2006 n0 S2216.old c_1531 nd1) (Tw hw 78 rfl) (Tw hw 71 rfl) (by decide) (by decide)) (lenOf own_pd_31 rfl) rfl (Nle rfl) (by decide) (by decide) Wrs.nil ?_
            intro v2219 T2220 h2221 L2222 S2223 q2224 K2225
            obtain ⟨rfl, e_q2224⟩ := q2224
            obtain rfl := e_q2224.symm
            show Go p e below _ T2220 (mkF m 316 #[.val (.int p0), .val (.int p1), .val (.int p2), .val (.int p3), .val (.int c_1530), .val (.int c_1531), .val (.int c_1532), .val (.int c_1533), .val (.int (3 : Int32)), .val (.int (1 : Int32)), .val (.ref b1961), .val (.ref b1992), .val (.int (1 : Int32)), .val (.int (1 : Int32)), .unset] [(.int (0 : Int32))])
            refine S2223.ifN 319 (hb hby at_316) (zNeF (by decide)) ?_
            refine S2223.iconst 320 (1 : Int32) (hb hby at_319) ?_
            refine S2223.goto 324 (hb hby at_320) ?_
            refine S2223.istore 326 #[.val (.int p0), .val (.int p1), .val (.int p2), .val (.int p3), .val (.int c_1530), .val (.int c_1531), .val (.int c_1532), .val (.int c_1533), .val (.int (3 : Int32)), .val (.int (1 : Int32)), .val (.ref b1961), .val (.ref b1992), .val (.int (1 : Int32)), .val (.int (1 : Int32)), .val (.int (1 : Int32))] (hb hby at_324) rfl ?_
            refine S2223.iload 328 (hb hby at_326) rfl ?_
            refine S2223.ifN 331 (hb hby at_328) (zEqF (by decide)) ?_
            refine S2223.iload 333 (hb hby at_331) rfl ?_
            refine S2223.ifN 336 (hb hby at_333) (zEqF (by decide)) ?_
            refine S2223.iconst 337 (1 : Int32) (hb hby at_336) ?_
            refine S2223.goto 341 (hb hby at_337) ?_
            exact S2223.retN (t := .boolean) (hb hby at_341) hret (by decide) (by decide) (by decide) rfl
          · skip
            show Go p e below _ T2178 (mkF m 188 #[.val (.int p0), .val (.int p1), .val (.int p2), .val (.int p3), .val (.int c_1530), .val (.int c_1531), .val (.int c_1532), .val (.int c_1533), .val (.int (3 : Int32)), .val (.int (1 : Int32)), .val (.ref b1961), .val (.ref b1992), .unset, .unset, .unset] [(.int (2 : Int32))])
            refine S2181.istore 190 #[.val (.int p0), .val (.int p1), .val (.int p2), .val (.int p3), .val (.int c_1530), .val (.int c_1531), .val (.int c_1532), .val (.int c_1533), .val (.int (3 : Int32)), .val (.int (1 : Int32)), .val (.ref b1961), .val (.ref b1992), .val (.int (2 : Int32)), .unset, .unset] (hb hby at_188) rfl ?_
            refine S2181.iload 192 (hb hby at_190) rfl ?_
            refine S2181.iload 194 (hb hby at_192) rfl ?_
            refine S2181.icmpY 210 (hb hby at_194) (qLtT (by decide)) ?_
            refine S2181.iload 212 (hb hby at_210) rfl ?_
            refine S2181.iload 214 (hb hby at_212) rfl ?_
            refine S2181.icmpN 217 (hb hby at_214) (qLtF (by decide)) ?_
            refine S2181.iload 219 (hb hby at_217) rfl ?_
            refine S2181.iload 221 (hb hby at_219) rfl ?_
            refine S2181.icmpY 226 (hb hby at_221) (qLeT (by decide)) ?_
            refine S2181.iconst 227 (0 : Int32) (hb hby at_226) ?_
            refine S2181.iload 229 (hb hby at_227) rfl ?_
            refine S2181.iload 231 (hb hby at_229) rfl ?_
            refine S2181.iload 233 (hb hby at_231) rfl ?_
            refine S2181.iload 235 (hb hby at_233) rfl ?_
            refine S2181.scall 238 (hb hby at_235) (by rw [hml]; rfl) (Tw hw 69 rfl) (Tw hw 70 rfl) (Tw hw 71 rfl) (Tw hw 72 rfl) (by decide) [(.int (0 : Int32)), (.int c_1530), (.int (1 : Int32)), (.int (2 : Int32)), (.int (3 : Int32))] [] (Con.pay (W := 0) (own_ok l Z a0 hw h2006 n0 S2181.old (0 : Int32) c_1530 (1 : Int32) (2 : Int32) (3 : Int32) (fun _ q _ => absurd (by decide) q)) (Tw hw 72 rfl) (Tw hw 71 rfl) (by decide) (by decide)) (lenOf own_pd_39 rfl) rfl (Nle rfl) (by decide) (by decide) Wrs.nil ?_
            intro v2226 T2227 h2228 L2229 S2230 q2231 K2232
            obtain ⟨rfl, e_q2231⟩ := q2231
            obtain rfl := e_q2231.symm
            show Go p e below _ T2227 (mkF m 238 #[.val (.int p0), .val (.int p1), .val (.int p2), .val (.int p3), .val (.int c_1530), .val (.int c_1531), .val (.int c_1532), .val (.int c_1533), .val (.int (3 : Int32)), .val (.int (1 : Int32)), .val (.ref b1961), .val (.ref b1992), .val (.int (2 : Int32)), .unset, .unset] [(.int (1 : Int32))])
            refine S2230.ifN 241 (hb hby at_238) (zEqF (by decide)) ?_
            refine S2230.iconst 242 (1 : Int32) (hb hby at_241) ?_
            refine S2230.iload 244 (hb hby at_242) rfl ?_
            refine S2230.iload 246 (hb hby at_244) rfl ?_
            refine S2230.iload 248 (hb hby at_246) rfl ?_
            refine S2230.iload 250 (hb hby at_248) rfl ?_
            refine S2230.scall 253 (hb hby at_250) (by rw [hml]; rfl) (Tw hw 69 rfl) (Tw hw 70 rfl) (Tw hw 71 rfl) (Tw hw 72 rfl) (by decide) [(.int (1 : Int32)), (.int c_1531), (.int (1 : Int32)), (.int (2 : Int32)), (.int (3 : Int32))] [] (Con.pay (W := 0) (own_ok l Z a0 hw h2006 n0 S2230.old (1 : Int32) c_1531 (1 : Int32) (2 : Int32) (3 : Int32) (fun _ _ _ => d2_1)) (Tw hw 72 rfl) (Tw hw 71 rfl) (by decide) (by decide)) (lenOf own_pd_39 rfl) rfl (Nle rfl) (by decide) (by decide) Wrs.nil ?_
            intro v2233 T2234 h2235 L2236 S2237 q2238 K2239
            obtain ⟨rfl, e_q2238⟩ := q2238
            obtain rfl := e_q2238.symm
            show Go p e below _ T2234 (mkF m 253 #[.val (.int p0), .val (.int p1), .val (.int p2), .val (.int p3), .val (.int c_1530), .val (.int c_1531), .val (.int c_1532), .val (.int c_1533), .val (.int (3 : Int32)), .val (.int (1 : Int32)), .val (.ref b1961), .val (.ref b1992), .val (.int (2 : Int32)), .unset, .unset] [(.int (1 : Int32))])
            refine S2237.ifN 256 (hb hby at_253) (zEqF (by decide)) ?_
            refine S2237.iconst 257 (2 : Int32) (hb hby at_256) ?_
            refine S2237.iload 259 (hb hby at_257) rfl ?_
            refine S2237.iload 261 (hb hby at_259) rfl ?_
            refine S2237.iload 263 (hb hby at_261) rfl ?_
            refine S2237.iload 265 (hb hby at_263) rfl ?_
            refine S2237.scall 268 (hb hby at_265) (by rw [hml]; rfl) (Tw hw 69 rfl) (Tw hw 70 rfl) (Tw hw 71 rfl) (Tw hw 72 rfl) (by decide) [(.int (2 : Int32)), (.int c_1532), (.int (1 : Int32)), (.int (2 : Int32)), (.int (3 : Int32))] [] (Con.pay (W := 0) (own_ok l Z a0 hw h2006 n0 S2237.old (2 : Int32) c_1532 (1 : Int32) (2 : Int32) (3 : Int32) (fun _ _ q => absurd q (by decide))) (Tw hw 72 rfl) (Tw hw 71 rfl) (by decide) (by decide)) (lenOf own_pd_39 rfl) rfl (Nle rfl) (by decide) (by decide) Wrs.nil ?_
            intro v2240 T2241 h2242 L2243 S2244 q2245 K2246
            obtain ⟨rfl, e_q2245⟩ := q2245
            obtain rfl := e_q2245.symm
            show Go p e below _ T2241 (mkF m 268 #[.val (.int p0), .val (.int p1), .val (.int p2), .val (.int p3), .val (.int c_1530), .val (.int c_1531), .val (.int c_1532), .val (.int c_1533), .val (.int (3 : Int32)), .val (.int (1 : Int32)), .val (.ref b1961), .val (.ref b1992), .val (.int (2 : Int32)), .unset, .unset] [(.int (1 : Int32))])
            refine S2244.ifN 271 (hb hby at_268) (zEqF (by decide)) ?_
            refine S2244.iconst 272 (3 : Int32) (hb hby at_271) ?_
            refine S2244.iload 274 (hb hby at_272) rfl ?_
            refine S2244.iload 276 (hb hby at_274) rfl ?_
            refine S2244.iload 278 (hb hby at_276) rfl ?_
            refine S2244.iload 280 (hb hby at_278) rfl ?_
            refine S2244.scall 283 (hb hby at_280) (by rw [hml]; rfl) (Tw hw 69 rfl) (Tw hw 70 rfl) (Tw hw 71 rfl) (Tw hw 72 rfl) (by decide) [(.int (3 : Int32)), (.int c_1533), (.int (1 : Int32)), (.int (2 : Int32)), (.int (3 : Int32))] [] (Con.pay (W := 0) (own_ok l Z a0 hw h2006 n0 S2244.old (3 : Int32) c_1533 (1 : Int32) (2 : Int32) (3 : Int32) (fun q _ _ => absurd q (by decide))) (Tw hw 72 rfl) (Tw hw 71 rfl) (by decide) (by decide)) (lenOf own_pd_39 rfl) rfl (Nle rfl) (by decide) (by decide) Wrs.nil ?_
            intro v2247 T2248 h2249 L2250 S2251 q2252 K2253
            obtain ⟨rfl, e_q2252⟩ := q2252
            obtain rfl := e_q2252.symm
            show Go p e below _ T2248 (mkF m 283 #[.val (.int p0), .val (.int p1), .val (.int p2), .val (.int p3), .val (.int c_1530), .val (.int c_1531), .val (.int c_1532), .val (.int c_1533), .val (.int (3 : Int32)), .val (.int (1 : Int32)), .val (.ref b1961), .val (.ref b1992), .val (.int (2 : Int32)), .unset, .unset] [(.int (1 : Int32))])
            refine S2251.ifN 286 (hb hby at_283) (zEqF (by decide)) ?_
            refine S2251.iconst 287 (1 : Int32) (hb hby at_286) ?_
            refine S2251.goto 291 (hb hby at_287) ?_
            refine S2251.istore 293 #[.val (.int p0), .val (.int p1), .val (.int p2), .val (.int p3), .val (.int c_1530), .val (.int c_1531), .val (.int c_1532), .val (.int c_1533), .val (.int (3 : Int32)), .val (.int (1 : Int32)), .val (.ref b1961), .val (.ref b1992), .val (.int (2 : Int32)), .val (.int (1 : Int32)), .unset] (hb hby at_291) rfl ?_
            refine S2251.iload 295 (hb hby at_293) rfl ?_
            refine S2251.iload 297 (hb hby at_295) rfl ?_
            refine S2251.icmpN 300 (hb hby at_297) (qEqF (by decide)) ?_
            refine S2251.iload 302 (hb hby at_300) rfl ?_
            refine S2251.iload 304 (hb hby at_302) rfl ?_
            refine S2251.iload 306 (hb hby at_304) rfl ?_
            refine S2251.iload 308 (hb hby at_306) rfl ?_
            refine S2251.iload 310 (hb hby at_308) rfl ?_
            refine S2251.scall 313 (hb hby at_310) (by rw [hml]; rfl) (Tw hw 73 rfl) (Tw hw 74 rfl) (Tw hw 71 rfl) (Tw hw 75 rfl) (by decide) [(.int c_1530), (.int c_1531), (.int c_1532), (.int c_1533), (.int (2 : Int32))] [] (Con.pay (W := 0) (own_at2 l Z a0 hw h2006 n0 S2251.old c_1530 c_1531 c_1532 c_1533 u16_c_1532) (Tw hw 75 rfl) (Tw hw 71 rfl) (by decide) (by decide)) (lenOf own_pd_40 rfl) rfl (Nle rfl) (by decide) (by decide) Wrs.nil ?_
            intro v2254 T2255 h2256 L2257 S2258 q2259 K2260
            obtain ⟨rfl, e_q2259⟩ := q2259
            obtain rfl := e_q2259.symm
            show Go p e below _ T2255 (mkF m 313 #[.val (.int p0), .val (.int p1), .val (.int p2), .val (.int p3), .val (.int c_1530), .val (.int c_1531), .val (.int c_1532), .val (.int c_1533), .val (.int (3 : Int32)), .val (.int (1 : Int32)), .val (.ref b1961), .val (.ref b1992), .val (.int (2 : Int32)), .val (.int (1 : Int32)), .unset] [(.int c_1532)])
            refine S2258.scall 316 (hb hby at_313) (by rw [hml]; rfl) (Tw hw 76 rfl) (Tw hw 77 rfl) (Tw hw 71 rfl) (Tw hw 78 rfl) (by decide) [(.int c_1532)] [] (Con.pay (W := 0) (own_dig0 l Z a0 hw h2006 n0 S2258.old c_1532 nd2) (Tw hw 78 rfl) (Tw hw 71 rfl) (by decide) (by decide)) (lenOf own_pd_31 rfl) rfl (Nle rfl) (by decide) (by decide) Wrs.nil ?_
            intro v2261 T2262 h2263 L2264 S2265 q2266 K2267
            obtain ⟨rfl, e_q2266⟩ := q2266
            obtain rfl := e_q2266.symm
            show Go p e below _ T2262 (mkF m 316 #[.val (.int p0), .val (.int p1), .val (.int p2), .val (.int p3), .val (.int c_1530), .val (.int c_1531), .val (.int c_1532), .val (.int c_1533), .val (.int (3 : Int32)), .val (.int (1 : Int32)), .val (.ref b1961), .val (.ref b1992), .val (.int (2 : Int32)), .val (.int (1 : Int32)), .unset] [(.int (0 : Int32))])
            refine S2265.ifN 319 (hb hby at_316) (zNeF (by decide)) ?_
            refine S2265.iconst 320 (1 : Int32) (hb hby at_319) ?_
            refine S2265.goto 324 (hb hby at_320) ?_
            refine S2265.istore 326 #[.val (.int p0), .val (.int p1), .val (.int p2), .val (.int p3), .val (.int c_1530), .val (.int c_1531), .val (.int c_1532), .val (.int c_1533), .val (.int (3 : Int32)), .val (.int (1 : Int32)), .val (.ref b1961), .val (.ref b1992), .val (.int (2 : Int32)), .val (.int (1 : Int32)), .val (.int (1 : Int32))] (hb hby at_324) rfl ?_
            refine S2265.iload 328 (hb hby at_326) rfl ?_
            refine S2265.ifN 331 (hb hby at_328) (zEqF (by decide)) ?_
            refine S2265.iload 333 (hb hby at_331) rfl ?_
            refine S2265.ifN 336 (hb hby at_333) (zEqF (by decide)) ?_
            refine S2265.iconst 337 (1 : Int32) (hb hby at_336) ?_
            refine S2265.goto 341 (hb hby at_337) ?_
            exact S2265.retN (t := .boolean) (hb hby at_341) hret (by decide) (by decide) (by decide) rfl
          · skip
            show Go p e below _ T2178 (mkF m 188 #[.val (.int p0), .val (.int p1), .val (.int p2), .val (.int p3), .val (.int c_1530), .val (.int c_1531), .val (.int c_1532), .val (.int c_1533), .val (.int (3 : Int32)), .val (.int (1 : Int32)), .val (.ref b1961), .val (.ref b1992), .unset, .unset, .unset] [(.int (3 : Int32))])
            refine S2181.istore 190 #[.val (.int p0), .val (.int p1), .val (.int p2), .val (.int p3), .val (.int c_1530), .val (.int c_1531), .val (.int c_1532), .val (.int c_1533), .val (.int (3 : Int32)), .val (.int (1 : Int32)), .val (.ref b1961), .val (.ref b1992), .val (.int (3 : Int32)), .unset, .unset] (hb hby at_188) rfl ?_
            refine S2181.iload 192 (hb hby at_190) rfl ?_
            refine S2181.iload 194 (hb hby at_192) rfl ?_
            refine S2181.icmpY 210 (hb hby at_194) (qLtT (by decide)) ?_
            refine S2181.iload 212 (hb hby at_210) rfl ?_
            refine S2181.iload 214 (hb hby at_212) rfl ?_
            refine S2181.icmpN 217 (hb hby at_214) (qLtF (by decide)) ?_
            refine S2181.iload 219 (hb hby at_217) rfl ?_
            refine S2181.iload 221 (hb hby at_219) rfl ?_
            refine S2181.icmpY 226 (hb hby at_221) (qLeT (by decide)) ?_
            refine S2181.iconst 227 (0 : Int32) (hb hby at_226) ?_
            refine S2181.iload 229 (hb hby at_227) rfl ?_
            refine S2181.iload 231 (hb hby at_229) rfl ?_
            refine S2181.iload 233 (hb hby at_231) rfl ?_
            refine S2181.iload 235 (hb hby at_233) rfl ?_
            refine S2181.scall 238 (hb hby at_235) (by rw [hml]; rfl) (Tw hw 69 rfl) (Tw hw 70 rfl) (Tw hw 71 rfl) (Tw hw 72 rfl) (by decide) [(.int (0 : Int32)), (.int c_1530), (.int (1 : Int32)), (.int (3 : Int32)), (.int (3 : Int32))] [] (Con.pay (W := 0) (own_ok l Z a0 hw h2006 n0 S2181.old (0 : Int32) c_1530 (1 : Int32) (3 : Int32) (3 : Int32) (fun _ q _ => absurd (by decide) q)) (Tw hw 72 rfl) (Tw hw 71 rfl) (by decide) (by decide)) (lenOf own_pd_39 rfl) rfl (Nle rfl) (by decide) (by decide) Wrs.nil ?_
            intro v2268 T2269 h2270 L2271 S2272 q2273 K2274
            obtain ⟨rfl, e_q2273⟩ := q2273
            obtain rfl := e_q2273.symm
            show Go p e below _ T2269 (mkF m 238 #[.val (.int p0), .val (.int p1), .val (.int p2), .val (.int p3), .val (.int c_1530), .val (.int c_1531), .val (.int c_1532), .val (.int c_1533), .val (.int (3 : Int32)), .val (.int (1 : Int32)), .val (.ref b1961), .val (.ref b1992), .val (.int (3 : Int32)), .unset, .unset] [(.int (1 : Int32))])
            refine S2272.ifN 241 (hb hby at_238) (zEqF (by decide)) ?_
            refine S2272.iconst 242 (1 : Int32) (hb hby at_241) ?_
            refine S2272.iload 244 (hb hby at_242) rfl ?_
            refine S2272.iload 246 (hb hby at_244) rfl ?_
            refine S2272.iload 248 (hb hby at_246) rfl ?_
            refine S2272.iload 250 (hb hby at_248) rfl ?_
            refine S2272.scall 253 (hb hby at_250) (by rw [hml]; rfl) (Tw hw 69 rfl) (Tw hw 70 rfl) (Tw hw 71 rfl) (Tw hw 72 rfl) (by decide) [(.int (1 : Int32)), (.int c_1531), (.int (1 : Int32)), (.int (3 : Int32)), (.int (3 : Int32))] [] (Con.pay (W := 0) (own_ok l Z a0 hw h2006 n0 S2272.old (1 : Int32) c_1531 (1 : Int32) (3 : Int32) (3 : Int32) (fun _ _ _ => d3_1)) (Tw hw 72 rfl) (Tw hw 71 rfl) (by decide) (by decide)) (lenOf own_pd_39 rfl) rfl (Nle rfl) (by decide) (by decide) Wrs.nil ?_
            intro v2275 T2276 h2277 L2278 S2279 q2280 K2281
            obtain ⟨rfl, e_q2280⟩ := q2280
            obtain rfl := e_q2280.symm
            show Go p e below _ T2276 (mkF m 253 #[.val (.int p0), .val (.int p1), .val (.int p2), .val (.int p3), .val (.int c_1530), .val (.int c_1531), .val (.int c_1532), .val (.int c_1533), .val (.int (3 : Int32)), .val (.int (1 : Int32)), .val (.ref b1961), .val (.ref b1992), .val (.int (3 : Int32)), .unset, .unset] [(.int (1 : Int32))])
            refine S2279.ifN 256 (hb hby at_253) (zEqF (by decide)) ?_
            refine S2279.iconst 257 (2 : Int32) (hb hby at_256) ?_
            refine S2279.iload 259 (hb hby at_257) rfl ?_
            refine S2279.iload 261 (hb hby at_259) rfl ?_
            refine S2279.iload 263 (hb hby at_261) rfl ?_
            refine S2279.iload 265 (hb hby at_263) rfl ?_
            refine S2279.scall 268 (hb hby at_265) (by rw [hml]; rfl) (Tw hw 69 rfl) (Tw hw 70 rfl) (Tw hw 71 rfl) (Tw hw 72 rfl) (by decide) [(.int (2 : Int32)), (.int c_1532), (.int (1 : Int32)), (.int (3 : Int32)), (.int (3 : Int32))] [] (Con.pay (W := 0) (own_ok l Z a0 hw h2006 n0 S2279.old (2 : Int32) c_1532 (1 : Int32) (3 : Int32) (3 : Int32) (fun _ _ _ => d3_2)) (Tw hw 72 rfl) (Tw hw 71 rfl) (by decide) (by decide)) (lenOf own_pd_39 rfl) rfl (Nle rfl) (by decide) (by decide) Wrs.nil ?_
            intro v2282 T2283 h2284 L2285 S2286 q2287 K2288
            obtain ⟨rfl, e_q2287⟩ := q2287
            obtain rfl := e_q2287.symm
            show Go p e below _ T2283 (mkF m 268 #[.val (.int p0), .val (.int p1), .val (.int p2), .val (.int p3), .val (.int c_1530), .val (.int c_1531), .val (.int c_1532), .val (.int c_1533), .val (.int (3 : Int32)), .val (.int (1 : Int32)), .val (.ref b1961), .val (.ref b1992), .val (.int (3 : Int32)), .unset, .unset] [(.int (1 : Int32))])
            refine S2286.ifN 271 (hb hby at_268) (zEqF (by decide)) ?_
            refine S2286.iconst 272 (3 : Int32) (hb hby at_271) ?_
            refine S2286.iload 274 (hb hby at_272) rfl ?_
            refine S2286.iload 276 (hb hby at_274) rfl ?_
            refine S2286.iload 278 (hb hby at_276) rfl ?_
            refine S2286.iload 280 (hb hby at_278) rfl ?_
            refine S2286.scall 283 (hb hby at_280) (by rw [hml]; rfl) (Tw hw 69 rfl) (Tw hw 70 rfl) (Tw hw 71 rfl) (Tw hw 72 rfl) (by decide) [(.int (3 : Int32)), (.int c_1533), (.int (1 : Int32)), (.int (3 : Int32)), (.int (3 : Int32))] [] (Con.pay (W := 0) (own_ok l Z a0 hw h2006 n0 S2286.old (3 : Int32) c_1533 (1 : Int32) (3 : Int32) (3 : Int32) (fun q _ _ => absurd q (by decide))) (Tw hw 72 rfl) (Tw hw 71 rfl) (by decide) (by decide)) (lenOf own_pd_39 rfl) rfl (Nle rfl) (by decide) (by decide) Wrs.nil ?_
            intro v2289 T2290 h2291 L2292 S2293 q2294 K2295
            obtain ⟨rfl, e_q2294⟩ := q2294
            obtain rfl := e_q2294.symm
            show Go p e below _ T2290 (mkF m 283 #[.val (.int p0), .val (.int p1), .val (.int p2), .val (.int p3), .val (.int c_1530), .val (.int c_1531), .val (.int c_1532), .val (.int c_1533), .val (.int (3 : Int32)), .val (.int (1 : Int32)), .val (.ref b1961), .val (.ref b1992), .val (.int (3 : Int32)), .unset, .unset] [(.int (1 : Int32))])
            refine S2293.ifN 286 (hb hby at_283) (zEqF (by decide)) ?_
            refine S2293.iconst 287 (1 : Int32) (hb hby at_286) ?_
            refine S2293.goto 291 (hb hby at_287) ?_
            refine S2293.istore 293 #[.val (.int p0), .val (.int p1), .val (.int p2), .val (.int p3), .val (.int c_1530), .val (.int c_1531), .val (.int c_1532), .val (.int c_1533), .val (.int (3 : Int32)), .val (.int (1 : Int32)), .val (.ref b1961), .val (.ref b1992), .val (.int (3 : Int32)), .val (.int (1 : Int32)), .unset] (hb hby at_291) rfl ?_
            refine S2293.iload 295 (hb hby at_293) rfl ?_
            refine S2293.iload 297 (hb hby at_295) rfl ?_
            refine S2293.icmpY 319 (hb hby at_297) (qEqT (by decide)) ?_
            refine S2293.iconst 320 (1 : Int32) (hb hby at_319) ?_
            refine S2293.goto 324 (hb hby at_320) ?_
            refine S2293.istore 326 #[.val (.int p0), .val (.int p1), .val (.int p2), .val (.int p3), .val (.int c_1530), .val (.int c_1531), .val (.int c_1532), .val (.int c_1533), .val (.int (3 : Int32)), .val (.int (1 : Int32)), .val (.ref b1961), .val (.ref b1992), .val (.int (3 : Int32)), .val (.int (1 : Int32)), .val (.int (1 : Int32))] (hb hby at_324) rfl ?_
            refine S2293.iload 328 (hb hby at_326) rfl ?_
            refine S2293.ifN 331 (hb hby at_328) (zEqF (by decide)) ?_
            refine S2293.iload 333 (hb hby at_331) rfl ?_
            refine S2293.ifN 336 (hb hby at_333) (zEqF (by decide)) ?_
            refine S2293.iconst 337 (1 : Int32) (hb hby at_336) ?_
            refine S2293.goto 341 (hb hby at_337) ?_
            exact S2293.retN (t := .boolean) (hb hby at_341) hret (by decide) (by decide) (by decide) rfl
        · skip
          refine S2008.aload 183 (hb hby at_181) rfl rfl ?_
          refine S2008.iload 185 (hb hby at_183) rfl ?_
          refine S2008.scall 188 (hb hby at_185) (by rw [hml]; rfl) (Tw hw 33 rfl) (Tw hw 34 rfl) (Tw hw 35 rfl) (Tw hw 36 rfl) (by decide) [(.ref b1992), (.int (2 : Int32))] [] (Con.pay (W := 0) (own_de_3_2 l Z a0 hw cm us sf h2006 n0 S2008.old b1992 t2011 c_1530 c_1531 c_1532 Z2013) (Tw hw 36 rfl) (Tw hw 35 rfl) (by decide) (by decide)) (lenOf own_pd_38 rfl) rfl (Nle rfl) (by decide) (by decide) Wrs.nil ?_
          intro v2296 T2297 h2298 L2299 S2300 q2301 K2302
          obtain ⟨hq_q2301, e_q2301⟩ := q2301
          obtain rfl := e_q2301.symm
          rcases hq_q2301 with ⟨rfl, nd2⟩ | ⟨rfl, d3_2⟩
          · skip
            show Go p e below _ T2297 (mkF m 188 #[.val (.int p0), .val (.int p1), .val (.int p2), .val (.int p3), .val (.int c_1530), .val (.int c_1531), .val (.int c_1532), .val (.int c_1533), .val (.int (3 : Int32)), .val (.int (2 : Int32)), .val (.ref b1961), .val (.ref b1992), .unset, .unset, .unset] [(.int (2 : Int32))])
            refine S2300.istore 190 #[.val (.int p0), .val (.int p1), .val (.int p2), .val (.int p3), .val (.int c_1530), .val (.int c_1531), .val (.int c_1532), .val (.int c_1533), .val (.int (3 : Int32)), .val (.int (2 : Int32)), .val (.ref b1961), .val (.ref b1992), .val (.int (2 : Int32)), .unset, .unset] (hb hby at_188) rfl ?_
            refine S2300.iload 192 (hb hby at_190) rfl ?_
            refine S2300.iload 194 (hb hby at_192) rfl ?_
            refine S2300.icmpY 210 (hb hby at_194) (qLtT (by decide)) ?_
            refine S2300.iload 212 (hb hby at_210) rfl ?_
            refine S2300.iload 214 (hb hby at_212) rfl ?_
            refine S2300.icmpN 217 (hb hby at_214) (qLtF (by decide)) ?_
            refine S2300.iload 219 (hb hby at_217) rfl ?_
            refine S2300.iload 221 (hb hby at_219) rfl ?_
            refine S2300.icmpY 226 (hb hby at_221) (qLeT (by decide)) ?_
            refine S2300.iconst 227 (0 : Int32) (hb hby at_226) ?_
            refine S2300.iload 229 (hb hby at_227) rfl ?_
            refine S2300.iload 231 (hb hby at_229) rfl ?_
            refine S2300.iload 233 (hb hby at_231) rfl ?_
            refine S2300.iload 235 (hb hby at_233) rfl ?_
            refine S2300.scall 238 (hb hby at_235) (by rw [hml]; rfl) (Tw hw 69 rfl) (Tw hw 70 rfl) (Tw hw 71 rfl) (Tw hw 72 rfl) (by decide) [(.int (0 : Int32)), (.int c_1530), (.int (2 : Int32)), (.int (2 : Int32)), (.int (3 : Int32))] [] (Con.pay (W := 0) (own_ok l Z a0 hw h2006 n0 S2300.old (0 : Int32) c_1530 (2 : Int32) (2 : Int32) (3 : Int32) (fun _ q _ => absurd (by decide) q)) (Tw hw 72 rfl) (Tw hw 71 rfl) (by decide) (by decide)) (lenOf own_pd_39 rfl) rfl (Nle rfl) (by decide) (by decide) Wrs.nil ?_
            intro v2303 T2304 h2305 L2306 S2307 q2308 K2309
            obtain ⟨rfl, e_q2308⟩ := q2308
            obtain rfl := e_q2308.symm
            show Go p e below _ T2304 (mkF m 238 #[.val (.int p0), .val (.int p1), .val (.int p2), .val (.int p3), .val (.int c_1530), .val (.int c_1531), .val (.int c_1532), .val (.int c_1533), .val (.int (3 : Int32)), .val (.int (2 : Int32)), .val (.ref b1961), .val (.ref b1992), .val (.int (2 : Int32)), .unset, .unset] [(.int (1 : Int32))])
            refine S2307.ifN 241 (hb hby at_238) (zEqF (by decide)) ?_
            refine S2307.iconst 242 (1 : Int32) (hb hby at_241) ?_
            refine S2307.iload 244 (hb hby at_242) rfl ?_
            refine S2307.iload 246 (hb hby at_244) rfl ?_
            refine S2307.iload 248 (hb hby at_246) rfl ?_
            refine S2307.iload 250 (hb hby at_248) rfl ?_
            refine S2307.scall 253 (hb hby at_250) (by rw [hml]; rfl) (Tw hw 69 rfl) (Tw hw 70 rfl) (Tw hw 71 rfl) (Tw hw 72 rfl) (by decide) [(.int (1 : Int32)), (.int c_1531), (.int (2 : Int32)), (.int (2 : Int32)), (.int (3 : Int32))] [] (Con.pay (W := 0) (own_ok l Z a0 hw h2006 n0 S2307.old (1 : Int32) c_1531 (2 : Int32) (2 : Int32) (3 : Int32) (fun _ q _ => absurd (by decide) q)) (Tw hw 72 rfl) (Tw hw 71 rfl) (by decide) (by decide)) (lenOf own_pd_39 rfl) rfl (Nle rfl) (by decide) (by decide) Wrs.nil ?_
            intro v2310 T2311 h2312 L2313 S2314 q2315 K2316
            obtain ⟨rfl, e_q2315⟩ := q2315
            obtain rfl := e_q2315.symm
            show Go p e below _ T2311 (mkF m 253 #[.val (.int p0), .val (.int p1), .val (.int p2), .val (.int p3), .val (.int c_1530), .val (.int c_1531), .val (.int c_1532), .val (.int c_1533), .val (.int (3 : Int32)), .val (.int (2 : Int32)), .val (.ref b1961), .val (.ref b1992), .val (.int (2 : Int32)), .unset, .unset] [(.int (1 : Int32))])
            refine S2314.ifN 256 (hb hby at_253) (zEqF (by decide)) ?_
            refine S2314.iconst 257 (2 : Int32) (hb hby at_256) ?_
            refine S2314.iload 259 (hb hby at_257) rfl ?_
            refine S2314.iload 261 (hb hby at_259) rfl ?_
            refine S2314.iload 263 (hb hby at_261) rfl ?_
            refine S2314.iload 265 (hb hby at_263) rfl ?_
            refine S2314.scall 268 (hb hby at_265) (by rw [hml]; rfl) (Tw hw 69 rfl) (Tw hw 70 rfl) (Tw hw 71 rfl) (Tw hw 72 rfl) (by decide) [(.int (2 : Int32)), (.int c_1532), (.int (2 : Int32)), (.int (2 : Int32)), (.int (3 : Int32))] [] (Con.pay (W := 0) (own_ok l Z a0 hw h2006 n0 S2314.old (2 : Int32) c_1532 (2 : Int32) (2 : Int32) (3 : Int32) (fun _ _ q => absurd q (by decide))) (Tw hw 72 rfl) (Tw hw 71 rfl) (by decide) (by decide)) (lenOf own_pd_39 rfl) rfl (Nle rfl) (by decide) (by decide) Wrs.nil ?_
            intro v2317 T2318 h2319 L2320 S2321 q2322 K2323
            obtain ⟨rfl, e_q2322⟩ := q2322
            obtain rfl := e_q2322.symm
            show Go p e below _ T2318 (mkF m 268 #[.val (.int p0), .val (.int p1), .val (.int p2), .val (.int p3), .val (.int c_1530), .val (.int c_1531), .val (.int c_1532), .val (.int c_1533), .val (.int (3 : Int32)), .val (.int (2 : Int32)), .val (.ref b1961), .val (.ref b1992), .val (.int (2 : Int32)), .unset, .unset] [(.int (1 : Int32))])
            refine S2321.ifN 271 (hb hby at_268) (zEqF (by decide)) ?_
            refine S2321.iconst 272 (3 : Int32) (hb hby at_271) ?_
            refine S2321.iload 274 (hb hby at_272) rfl ?_
            refine S2321.iload 276 (hb hby at_274) rfl ?_
            refine S2321.iload 278 (hb hby at_276) rfl ?_
            refine S2321.iload 280 (hb hby at_278) rfl ?_
            refine S2321.scall 283 (hb hby at_280) (by rw [hml]; rfl) (Tw hw 69 rfl) (Tw hw 70 rfl) (Tw hw 71 rfl) (Tw hw 72 rfl) (by decide) [(.int (3 : Int32)), (.int c_1533), (.int (2 : Int32)), (.int (2 : Int32)), (.int (3 : Int32))] [] (Con.pay (W := 0) (own_ok l Z a0 hw h2006 n0 S2321.old (3 : Int32) c_1533 (2 : Int32) (2 : Int32) (3 : Int32) (fun q _ _ => absurd q (by decide))) (Tw hw 72 rfl) (Tw hw 71 rfl) (by decide) (by decide)) (lenOf own_pd_39 rfl) rfl (Nle rfl) (by decide) (by decide) Wrs.nil ?_
            intro v2324 T2325 h2326 L2327 S2328 q2329 K2330
            obtain ⟨rfl, e_q2329⟩ := q2329
            obtain rfl := e_q2329.symm
            show Go p e below _ T2325 (mkF m 283 #[.val (.int p0), .val (.int p1), .val (.int p2), .val (.int p3), .val (.int c_1530), .val (.int c_1531), .val (.int c_1532), .val (.int c_1533), .val (.int (3 : Int32)), .val (.int (2 : Int32)), .val (.ref b1961), .val (.ref b1992), .val (.int (2 : Int32)), .unset, .unset] [(.int (1 : Int32))])
            refine S2328.ifN 286 (hb hby at_283) (zEqF (by decide)) ?_
            refine S2328.iconst 287 (1 : Int32) (hb hby at_286) ?_
            refine S2328.goto 291 (hb hby at_287) ?_
            refine S2328.istore 293 #[.val (.int p0), .val (.int p1), .val (.int p2), .val (.int p3), .val (.int c_1530), .val (.int c_1531), .val (.int c_1532), .val (.int c_1533), .val (.int (3 : Int32)), .val (.int (2 : Int32)), .val (.ref b1961), .val (.ref b1992), .val (.int (2 : Int32)), .val (.int (1 : Int32)), .unset] (hb hby at_291) rfl ?_
            refine S2328.iload 295 (hb hby at_293) rfl ?_
            refine S2328.iload 297 (hb hby at_295) rfl ?_
            refine S2328.icmpN 300 (hb hby at_297) (qEqF (by decide)) ?_
            refine S2328.iload 302 (hb hby at_300) rfl ?_
            refine S2328.iload 304 (hb hby at_302) rfl ?_
            refine S2328.iload 306 (hb hby at_304) rfl ?_
            refine S2328.iload 308 (hb hby at_306) rfl ?_
            refine S2328.iload 310 (hb hby at_308) rfl ?_
            refine S2328.scall 313 (hb hby at_310) (by rw [hml]; rfl) (Tw hw 73 rfl) (Tw hw 74 rfl) (Tw hw 71 rfl) (Tw hw 75 rfl) (by decide) [(.int c_1530), (.int c_1531), (.int c_1532), (.int c_1533), (.int (2 : Int32))] [] (Con.pay (W := 0) (own_at2 l Z a0 hw h2006 n0 S2328.old c_1530 c_1531 c_1532 c_1533 u16_c_1532) (Tw hw 75 rfl) (Tw hw 71 rfl) (by decide) (by decide)) (lenOf own_pd_40 rfl) rfl (Nle rfl) (by decide) (by decide) Wrs.nil ?_
            intro v2331 T2332 h2333 L2334 S2335 q2336 K2337
            obtain ⟨rfl, e_q2336⟩ := q2336
            obtain rfl := e_q2336.symm
            show Go p e below _ T2332 (mkF m 313 #[.val (.int p0), .val (.int p1), .val (.int p2), .val (.int p3), .val (.int c_1530), .val (.int c_1531), .val (.int c_1532), .val (.int c_1533), .val (.int (3 : Int32)), .val (.int (2 : Int32)), .val (.ref b1961), .val (.ref b1992), .val (.int (2 : Int32)), .val (.int (1 : Int32)), .unset] [(.int c_1532)])
            refine S2335.scall 316 (hb hby at_313) (by rw [hml]; rfl) (Tw hw 76 rfl) (Tw hw 77 rfl) (Tw hw 71 rfl) (Tw hw 78 rfl) (by decide) [(.int c_1532)] [] (Con.pay (W := 0) (own_dig0 l Z a0 hw h2006 n0 S2335.old c_1532 nd2) (Tw hw 78 rfl) (Tw hw 71 rfl) (by decide) (by decide)) (lenOf own_pd_31 rfl) rfl (Nle rfl) (by decide) (by decide) Wrs.nil ?_
            intro v2338 T2339 h2340 L2341 S2342 q2343 K2344
            obtain ⟨rfl, e_q2343⟩ := q2343
            obtain rfl := e_q2343.symm
            show Go p e below _ T2339 (mkF m 316 #[.val (.int p0), .val (.int p1), .val (.int p2), .val (.int p3), .val (.int c_1530), .val (.int c_1531), .val (.int c_1532), .val (.int c_1533), .val (.int (3 : Int32)), .val (.int (2 : Int32)), .val (.ref b1961), .val (.ref b1992), .val (.int (2 : Int32)), .val (.int (1 : Int32)), .unset] [(.int (0 : Int32))])
            refine S2342.ifN 319 (hb hby at_316) (zNeF (by decide)) ?_
            refine S2342.iconst 320 (1 : Int32) (hb hby at_319) ?_
            refine S2342.goto 324 (hb hby at_320) ?_
            refine S2342.istore 326 #[.val (.int p0), .val (.int p1), .val (.int p2), .val (.int p3), .val (.int c_1530), .val (.int c_1531), .val (.int c_1532), .val (.int c_1533), .val (.int (3 : Int32)), .val (.int (2 : Int32)), .val (.ref b1961), .val (.ref b1992), .val (.int (2 : Int32)), .val (.int (1 : Int32)), .val (.int (1 : Int32))] (hb hby at_324) rfl ?_
            refine S2342.iload 328 (hb hby at_326) rfl ?_
            refine S2342.ifN 331 (hb hby at_328) (zEqF (by decide)) ?_
            refine S2342.iload 333 (hb hby at_331) rfl ?_
            refine S2342.ifN 336 (hb hby at_333) (zEqF (by decide)) ?_
            refine S2342.iconst 337 (1 : Int32) (hb hby at_336) ?_
            refine S2342.goto 341 (hb hby at_337) ?_
            exact S2342.retN (t := .boolean) (hb hby at_341) hret (by decide) (by decide) (by decide) rfl
          · skip
            show Go p e below _ T2297 (mkF m 188 #[.val (.int p0), .val (.int p1), .val (.int p2), .val (.int p3), .val (.int c_1530), .val (.int c_1531), .val (.int c_1532), .val (.int c_1533), .val (.int (3 : Int32)), .val (.int (2 : Int32)), .val (.ref b1961), .val (.ref b1992), .unset, .unset, .unset] [(.int (3 : Int32))])
            refine S2300.istore 190 #[.val (.int p0), .val (.int p1), .val (.int p2), .val (.int p3), .val (.int c_1530), .val (.int c_1531), .val (.int c_1532), .val (.int c_1533), .val (.int (3 : Int32)), .val (.int (2 : Int32)), .val (.ref b1961), .val (.ref b1992), .val (.int (3 : Int32)), .unset, .unset] (hb hby at_188) rfl ?_
            refine S2300.iload 192 (hb hby at_190) rfl ?_
            refine S2300.iload 194 (hb hby at_192) rfl ?_
            refine S2300.icmpY 210 (hb hby at_194) (qLtT (by decide)) ?_
            refine S2300.iload 212 (hb hby at_210) rfl ?_
            refine S2300.iload 214 (hb hby at_212) rfl ?_
            refine S2300.icmpN 217 (hb hby at_214) (qLtF (by decide)) ?_
            refine S2300.iload 219 (hb hby at_217) rfl ?_
            refine S2300.iload 221 (hb hby at_219) rfl ?_
            refine S2300.icmpY 226 (hb hby at_221) (qLeT (by decide)) ?_
            refine S2300.iconst 227 (0 : Int32) (hb hby at_226) ?_
            refine S2300.iload 229 (hb hby at_227) rfl ?_
            refine S2300.iload 231 (hb hby at_229) rfl ?_
            refine S2300.iload 233 (hb hby at_231) rfl ?_
            refine S2300.iload 235 (hb hby at_233) rfl ?_
            refine S2300.scall 238 (hb hby at_235) (by rw [hml]; rfl) (Tw hw 69 rfl) (Tw hw 70 rfl) (Tw hw 71 rfl) (Tw hw 72 rfl) (by decide) [(.int (0 : Int32)), (.int c_1530), (.int (2 : Int32)), (.int (3 : Int32)), (.int (3 : Int32))] [] (Con.pay (W := 0) (own_ok l Z a0 hw h2006 n0 S2300.old (0 : Int32) c_1530 (2 : Int32) (3 : Int32) (3 : Int32) (fun _ q _ => absurd (by decide) q)) (Tw hw 72 rfl) (Tw hw 71 rfl) (by decide) (by decide)) (lenOf own_pd_39 rfl) rfl (Nle rfl) (by decide) (by decide) Wrs.nil ?_
            intro v2345 T2346 h2347 L2348 S2349 q2350 K2351
            obtain ⟨rfl, e_q2350⟩ := q2350
            obtain rfl := e_q2350.symm
            show Go p e below _ T2346 (mkF m 238 #[.val (.int p0), .val (.int p1), .val (.int p2), .val (.int p3), .val (.int c_1530), .val (.int c_1531), .val (.int c_1532), .val (.int c_1533), .val (.int (3 : Int32)), .val (.int (2 : Int32)), .val (.ref b1961), .val (.ref b1992), .val (.int (3 : Int32)), .unset, .unset] [(.int (1 : Int32))])
            refine S2349.ifN 241 (hb hby at_238) (zEqF (by decide)) ?_
            refine S2349.iconst 242 (1 : Int32) (hb hby at_241) ?_
            refine S2349.iload 244 (hb hby at_242) rfl ?_
            refine S2349.iload 246 (hb hby at_244) rfl ?_
            refine S2349.iload 248 (hb hby at_246) rfl ?_
            refine S2349.iload 250 (hb hby at_248) rfl ?_
            refine S2349.scall 253 (hb hby at_250) (by rw [hml]; rfl) (Tw hw 69 rfl) (Tw hw 70 rfl) (Tw hw 71 rfl) (Tw hw 72 rfl) (by decide) [(.int (1 : Int32)), (.int c_1531), (.int (2 : Int32)), (.int (3 : Int32)), (.int (3 : Int32))] [] (Con.pay (W := 0) (own_ok l Z a0 hw h2006 n0 S2349.old (1 : Int32) c_1531 (2 : Int32) (3 : Int32) (3 : Int32) (fun _ q _ => absurd (by decide) q)) (Tw hw 72 rfl) (Tw hw 71 rfl) (by decide) (by decide)) (lenOf own_pd_39 rfl) rfl (Nle rfl) (by decide) (by decide) Wrs.nil ?_
            intro v2352 T2353 h2354 L2355 S2356 q2357 K2358
            obtain ⟨rfl, e_q2357⟩ := q2357
            obtain rfl := e_q2357.symm
            show Go p e below _ T2353 (mkF m 253 #[.val (.int p0), .val (.int p1), .val (.int p2), .val (.int p3), .val (.int c_1530), .val (.int c_1531), .val (.int c_1532), .val (.int c_1533), .val (.int (3 : Int32)), .val (.int (2 : Int32)), .val (.ref b1961), .val (.ref b1992), .val (.int (3 : Int32)), .unset, .unset] [(.int (1 : Int32))])
            refine S2356.ifN 256 (hb hby at_253) (zEqF (by decide)) ?_
            refine S2356.iconst 257 (2 : Int32) (hb hby at_256) ?_
            refine S2356.iload 259 (hb hby at_257) rfl ?_
            refine S2356.iload 261 (hb hby at_259) rfl ?_
            refine S2356.iload 263 (hb hby at_261) rfl ?_
            refine S2356.iload 265 (hb hby at_263) rfl ?_
            refine S2356.scall 268 (hb hby at_265) (by rw [hml]; rfl) (Tw hw 69 rfl) (Tw hw 70 rfl) (Tw hw 71 rfl) (Tw hw 72 rfl) (by decide) [(.int (2 : Int32)), (.int c_1532), (.int (2 : Int32)), (.int (3 : Int32)), (.int (3 : Int32))] [] (Con.pay (W := 0) (own_ok l Z a0 hw h2006 n0 S2356.old (2 : Int32) c_1532 (2 : Int32) (3 : Int32) (3 : Int32) (fun _ _ _ => d3_2)) (Tw hw 72 rfl) (Tw hw 71 rfl) (by decide) (by decide)) (lenOf own_pd_39 rfl) rfl (Nle rfl) (by decide) (by decide) Wrs.nil ?_
            intro v2359 T2360 h2361 L2362 S2363 q2364 K2365
            obtain ⟨rfl, e_q2364⟩ := q2364
            obtain rfl := e_q2364.symm
            show Go p e below _ T2360 (mkF m 268 #[.val (.int p0), .val (.int p1), .val (.int p2), .val (.int p3), .val (.int c_1530), .val (.int c_1531), .val (.int c_1532), .val (.int c_1533), .val (.int (3 : Int32)), .val (.int (2 : Int32)), .val (.ref b1961), .val (.ref b1992), .val (.int (3 : Int32)), .unset, .unset] [(.int (1 : Int32))])
            refine S2363.ifN 271 (hb hby at_268) (zEqF (by decide)) ?_
            refine S2363.iconst 272 (3 : Int32) (hb hby at_271) ?_
            refine S2363.iload 274 (hb hby at_272) rfl ?_
            refine S2363.iload 276 (hb hby at_274) rfl ?_
            refine S2363.iload 278 (hb hby at_276) rfl ?_
            refine S2363.iload 280 (hb hby at_278) rfl ?_
            refine S2363.scall 283 (hb hby at_280) (by rw [hml]; rfl) (Tw hw 69 rfl) (Tw hw 70 rfl) (Tw hw 71 rfl) (Tw hw 72 rfl) (by decide) [(.int (3 : Int32)), (.int c_1533), (.int (2 : Int32)), (.int (3 : Int32)), (.int (3 : Int32))] [] (Con.pay (W := 0) (own_ok l Z a0 hw h2006 n0 S2363.old (3 : Int32) c_1533 (2 : Int32) (3 : Int32) (3 : Int32) (fun q _ _ => absurd q (by decide))) (Tw hw 72 rfl) (Tw hw 71 rfl) (by decide) (by decide)) (lenOf own_pd_39 rfl) rfl (Nle rfl) (by decide) (by decide) Wrs.nil ?_
            intro v2366 T2367 h2368 L2369 S2370 q2371 K2372
            obtain ⟨rfl, e_q2371⟩ := q2371
            obtain rfl := e_q2371.symm
            show Go p e below _ T2367 (mkF m 283 #[.val (.int p0), .val (.int p1), .val (.int p2), .val (.int p3), .val (.int c_1530), .val (.int c_1531), .val (.int c_1532), .val (.int c_1533), .val (.int (3 : Int32)), .val (.int (2 : Int32)), .val (.ref b1961), .val (.ref b1992), .val (.int (3 : Int32)), .unset, .unset] [(.int (1 : Int32))])
            refine S2370.ifN 286 (hb hby at_283) (zEqF (by decide)) ?_
            refine S2370.iconst 287 (1 : Int32) (hb hby at_286) ?_
            refine S2370.goto 291 (hb hby at_287) ?_
            refine S2370.istore 293 #[.val (.int p0), .val (.int p1), .val (.int p2), .val (.int p3), .val (.int c_1530), .val (.int c_1531), .val (.int c_1532), .val (.int c_1533), .val (.int (3 : Int32)), .val (.int (2 : Int32)), .val (.ref b1961), .val (.ref b1992), .val (.int (3 : Int32)), .val (.int (1 : Int32)), .unset] (hb hby at_291) rfl ?_
            refine S2370.iload 295 (hb hby at_293) rfl ?_
            refine S2370.iload 297 (hb hby at_295) rfl ?_
            refine S2370.icmpY 319 (hb hby at_297) (qEqT (by decide)) ?_
            refine S2370.iconst 320 (1 : Int32) (hb hby at_319) ?_
            refine S2370.goto 324 (hb hby at_320) ?_
            refine S2370.istore 326 #[.val (.int p0), .val (.int p1), .val (.int p2), .val (.int p3), .val (.int c_1530), .val (.int c_1531), .val (.int c_1532), .val (.int c_1533), .val (.int (3 : Int32)), .val (.int (2 : Int32)), .val (.ref b1961), .val (.ref b1992), .val (.int (3 : Int32)), .val (.int (1 : Int32)), .val (.int (1 : Int32))] (hb hby at_324) rfl ?_
            refine S2370.iload 328 (hb hby at_326) rfl ?_
            refine S2370.ifN 331 (hb hby at_328) (zEqF (by decide)) ?_
            refine S2370.iload 333 (hb hby at_331) rfl ?_
            refine S2370.ifN 336 (hb hby at_333) (zEqF (by decide)) ?_
            refine S2370.iconst 337 (1 : Int32) (hb hby at_336) ?_
            refine S2370.goto 341 (hb hby at_337) ?_
            exact S2370.retN (t := .boolean) (hb hby at_341) hret (by decide) (by decide) (by decide) rfl
      · skip
        refine S2008.aload 183 (hb hby at_181) rfl rfl ?_
        refine S2008.iload 185 (hb hby at_183) rfl ?_
        refine S2008.scall 188 (hb hby at_185) (by rw [hml]; rfl) (Tw hw 33 rfl) (Tw hw 34 rfl) (Tw hw 35 rfl) (Tw hw 36 rfl) (by decide) [(.ref b1992), (.int z1535)] [] (Con.pay (W := 0) (own_deG_3 l Z a0 hw cm us sf h2006 n0 S2008.old b1992 t2011 c_1530 c_1531 c_1532 z1535 Z2013 hg) (Tw hw 36 rfl) (Tw hw 35 rfl) (by decide) (by decide)) (lenOf own_pd_38 rfl) rfl (Nle rfl) (by decide) (by decide) Wrs.nil ?_
        intro v2373 T2374 h2375 L2376 S2377 q2378 K2379
        obtain ⟨rfl, e_q2378⟩ := q2378
        obtain rfl := e_q2378.symm
        show Go p e below _ T2374 (mkF m 188 #[.val (.int p0), .val (.int p1), .val (.int p2), .val (.int p3), .val (.int c_1530), .val (.int c_1531), .val (.int c_1532), .val (.int c_1533), .val (.int (3 : Int32)), .val (.int z1535), .val (.ref b1961), .val (.ref b1992), .unset, .unset, .unset] [(.int z1535)])
        refine S2377.istore 190 #[.val (.int p0), .val (.int p1), .val (.int p2), .val (.int p3), .val (.int c_1530), .val (.int c_1531), .val (.int c_1532), .val (.int c_1533), .val (.int (3 : Int32)), .val (.int z1535), .val (.ref b1961), .val (.ref b1992), .val (.int z1535), .unset, .unset] (hb hby at_188) rfl ?_
        refine S2377.iload 192 (hb hby at_190) rfl ?_
        refine S2377.iload 194 (hb hby at_192) rfl ?_
        refine S2377.icmpN 197 (hb hby at_194) (qLtF hg) ?_
        refine S2377.iload 199 (hb hby at_197) rfl ?_
        refine S2377.iload 201 (hb hby at_199) rfl ?_
        refine S2377.icmpN 204 (hb hby at_201) (qNeF rfl) ?_
        refine S2377.iconst 205 (1 : Int32) (hb hby at_204) ?_
        refine S2377.goto 209 (hb hby at_205) ?_
        exact S2377.retN (t := .boolean) (hb hby at_209) hret (by decide) (by decide) (by decide) rfl
    · skip
      refine S.ifY 73 (hb hby at_62) (zNeT (by decide)) ?_
      refine S.iload 75 (hb hby at_73) rfl ?_
      refine S.iconst 76 (1 : Int32) (hb hby at_75) ?_
      refine S.icmpY 92 (hb hby at_76) (qNeT (by decide)) ?_
      refine S.iload 94 (hb hby at_92) rfl ?_
      refine S.iconst 95 (2 : Int32) (hb hby at_94) ?_
      refine S.icmpY 116 (hb hby at_95) (qNeT (by decide)) ?_
      refine S.iload 118 (hb hby at_116) rfl ?_
      refine S.iconst 119 (3 : Int32) (hb hby at_118) ?_
      refine S.icmpY 145 (hb hby at_119) (qNeT (by decide)) ?_
      refine S.iconst 146 (4 : Int32) (hb hby at_145) ?_
      refine S.newarr 148 4 (hb hby at_146) (Tw hw 3 rfl) (by decide) (by decide) (by decide) (by decide) (by decide) ?_
      intro T2380 h2381 b2382 k2383 S2384 E2385 g2386 wo2387 A2388
      have f2389 : Arv Z h2381 b2382 k2383 .char (4 : Int32) [(.int (0 : Int32)), (.int (0 : Int32)), (.int (0 : Int32)), (.int (0 : Int32))] (.int (0 : Int32)) := A2388.pad (pad_rep [] (.int (0 : Int32)) 4)
      refine S2384.dup 149 (hb hby at_148) rfl ?_
      refine S2384.iconst 150 (0 : Int32) (hb hby at_149) ?_
      refine S2384.iload 152 (hb hby at_150) rfl ?_
      refine S2384.castore 153 0 (hb hby at_152) f2389 ⟨by decide, by decide⟩ rfl (Nle rfl) wo2387 ?_
      intro T2390 h2391 L2392 S2393 W2394 A2395
      rw [U16.nar u16_c_1530] at A2395
      have f2396 : Arv Z h2391 b2382 k2383 .char (4 : Int32) [(.int c_1530), (.int (0 : Int32)), (.int (0 : Int32)), (.int (0 : Int32))] (.int (0 : Int32)) := A2395
      refine S2393.dup 154 (hb hby at_153) rfl ?_
      refine S2393.iconst 155 (1 : Int32) (hb hby at_154) ?_
      refine S2393.iload 157 (hb hby at_155) rfl ?_
      refine S2393.castore 158 1 (hb hby at_157) f2396 ⟨by decide, by decide⟩ rfl (Nle rfl) wo2387 ?_
      intro T2397 h2398 L2399 S2400 W2401 A2402
      rw [U16.nar u16_c_1531] at A2402
      have f2403 : Arv Z h2398 b2382 k2383 .char (4 : Int32) [(.int c_1530), (.int c_1531), (.int (0 : Int32)), (.int (0 : Int32))] (.int (0 : Int32)) := A2402
      refine S2400.dup 159 (hb hby at_158) rfl ?_
      refine S2400.iconst 160 (2 : Int32) (hb hby at_159) ?_
      refine S2400.iload 162 (hb hby at_160) rfl ?_
      refine S2400.castore 163 2 (hb hby at_162) f2403 ⟨by decide, by decide⟩ rfl (Nle rfl) wo2387 ?_
      intro T2404 h2405 L2406 S2407 W2408 A2409
      rw [U16.nar u16_c_1532] at A2409
      have f2410 : Arv Z h2405 b2382 k2383 .char (4 : Int32) [(.int c_1530), (.int c_1531), (.int c_1532), (.int (0 : Int32))] (.int (0 : Int32)) := A2409
      refine S2407.dup 164 (hb hby at_163) rfl ?_
      refine S2407.iconst 165 (3 : Int32) (hb hby at_164) ?_
      refine S2407.iload 167 (hb hby at_165) rfl ?_
      refine S2407.castore 168 3 (hb hby at_167) f2410 ⟨by decide, by decide⟩ rfl (Nle rfl) wo2387 ?_
      intro T2411 h2412 L2413 S2414 W2415 A2416
      rw [U16.nar u16_c_1533] at A2416
      have f2417 : Arv Z h2412 b2382 k2383 .char (4 : Int32) [(.int c_1530), (.int c_1531), (.int c_1532), (.int c_1533)] (.int (0 : Int32)) := A2416
      refine S2414.astore 170 #[.val (.int p0), .val (.int p1), .val (.int p2), .val (.int p3), .val (.int c_1530), .val (.int c_1531), .val (.int c_1532), .val (.int c_1533), .val (.int (4 : Int32)), .val (.int z1535), .val (.ref b2382), .unset, .unset, .unset, .unset] (hb hby at_168) rfl rfl ?_
      refine S2414.new 173 (hb hby at_170) (Tw hw 4 rfl) (Tw hw 5 rfl) (Tw hw 6 rfl) (by decide) (by decide) ?_
      intro T2418 h2419 b2420 S2421 E2422 g2423 wo2424 A2425 D2426 U2427
      have l2428 : b2382 < b2420 := (by rw [g2423]; exact f2417.lt)
      have f2429 : Fld Z h2419 b2420 "java/lang/String" "coder" "B" (.int (0 : Int32)) := D2426 (Or.inr (Tw hw 30 rfl)) (ty := .byte) (by decide)
      have f2430 : Fld Z h2419 b2420 "java/lang/String" "value" "[B" .null := D2426 (Or.inr (Tw hw 32 rfl)) (ty := (.array .byte)) (by decide)
      refine S2421.dup 174 (hb hby at_173) rfl ?_
      refine S2421.aload 176 (hb hby at_174) rfl rfl ?_
      have f2431 := (f2417.ext E2422)
      refine S2421.icall 179 (hb hby at_176) (by rw [hml]; rfl) rfl (Tw hw 7 rfl) (Tw hw 8 rfl) (Tw hw 9 rfl) (by decide) [(.ref b2382)] [(.ref b2420)] (payNewA_4 (W := 1) c_1530 c_1531 c_1532 c_1533 hw cm us S2421.old (S2421.ge wo2424) A2425 f2430 f2429 f2431 u16_c_1530 u16_c_1531 u16_c_1532 u16_c_1533 (by decide) (by decide)) (lenOf own_pd_37 rfl) rfl (Nle rfl) (by decide) (by decide) (Wrs.one wo2424 (Or.inl (by simp))) ?_
      intro v2432 T2433 h2434 L2435 S2436 q2437 K2438
      obtain ⟨rfl, t2439, g2440, Z2441⟩ := q2437
      have l2442 : b2382 < t2439 := Nat.lt_of_lt_of_le f2431.lt g2440
      have f2443 := Z2441.exa
      show Go p e below _ T2433 (mkF m 179 #[.val (.int p0), .val (.int p1), .val (.int p2), .val (.int p3), .val (.int c_1530), .val (.int c_1531), .val (.int c_1532), .val (.int c_1533), .val (.int (4 : Int32)), .val (.int z1535), .val (.ref b2382), .unset, .unset, .unset, .unset] [(.ref b2420)])
      refine S2436.astore 181 #[.val (.int p0), .val (.int p1), .val (.int p2), .val (.int p3), .val (.int c_1530), .val (.int c_1531), .val (.int c_1532), .val (.int c_1533), .val (.int (4 : Int32)), .val (.int z1535), .val (.ref b2382), .val (.ref b2420), .unset, .unset, .unset] (hb hby at_179) rfl rfl ?_
      by_cases hg : z1535 < (4 : Int32)
      · rcases own_lt4 hf1537 hg with rfl | rfl | rfl | rfl
        · skip
          refine S2436.aload 183 (hb hby at_181) rfl rfl ?_
          refine S2436.iload 185 (hb hby at_183) rfl ?_
          refine S2436.scall 188 (hb hby at_185) (by rw [hml]; rfl) (Tw hw 33 rfl) (Tw hw 34 rfl) (Tw hw 35 rfl) (Tw hw 36 rfl) (by decide) [(.ref b2420), (.int (0 : Int32))] [] (Con.pay (W := 0) (own_de_4_0 l Z a0 hw cm us sf h2434 n0 S2436.old b2420 t2439 c_1530 c_1531 c_1532 c_1533 Z2441) (Tw hw 36 rfl) (Tw hw 35 rfl) (by decide) (by decide)) (lenOf own_pd_38 rfl) rfl (Nle rfl) (by decide) (by decide) Wrs.nil ?_
          intro v2444 T2445 h2446 L2447 S2448 q2449 K2450
          obtain ⟨hq_q2449, e_q2449⟩ := q2449
          obtain rfl := e_q2449.symm
          rcases hq_q2449 with ⟨rfl, nd0⟩ | ⟨rfl, d1_0, nd1⟩ | ⟨rfl, d2_0, d2_1, nd2⟩ | ⟨rfl, d3_0, d3_1, d3_2, nd3⟩ | ⟨rfl, d4_0, d4_1, d4_2, d4_3⟩
          · skip
            show Go p e below _ T2445 (mkF m 188 #[.val (.int p0), .val (.int p1), .val (.int p2), .val (.int p3), .val (.int c_1530), .val (.int c_1531), .val (.int c_1532), .val (.int c_1533), .val (.int (4 : Int32)), .val (.int (0 : Int32)), .val (.ref b2382), .val (.ref b2420), .unset, .unset, .unset] [(.int (0 : Int32))])
            refine S2448.istore 190 #[.val (.int p0), .val (.int p1), .val (.int p2), .val (.int p3), .val (.int c_1530), .val (.int c_1531), .val (.int c_1532), .val (.int c_1533), .val (.int (4 : Int32)), .val (.int (0 : Int32)), .val (.ref b2382), .val (.ref b2420), .val (.int (0 : Int32)), .unset, .unset] (hb hby at_188) rfl ?_
            refine S2448.iload 192 (hb hby at_190) rfl ?_
            refine S2448.iload 194 (hb hby at_192) rfl ?_
            refine S2448.icmpY 210 (hb hby at_194) (qLtT (by decide)) ?_
            refine S2448.iload 212 (hb hby at_210) rfl ?_
            refine S2448.iload 214 (hb hby at_212) rfl ?_
            refine S2448.icmpN 217 (hb hby at_214) (qLtF (by decide)) ?_
            refine S2448.iload 219 (hb hby at_217) rfl ?_
            refine S2448.iload 221 (hb hby at_219) rfl ?_
            refine S2448.icmpY 226 (hb hby at_221) (qLeT (by decide)) ?_
            refine S2448.iconst 227 (0 : Int32) (hb hby at_226) ?_
            refine S2448.iload 229 (hb hby at_227) rfl ?_
            refine S2448.iload 231 (hb hby at_229) rfl ?_
            refine S2448.iload 233 (hb hby at_231) rfl ?_
            refine S2448.iload 235 (hb hby at_233) rfl ?_
            refine S2448.scall 238 (hb hby at_235) (by rw [hml]; rfl) (Tw hw 69 rfl) (Tw hw 70 rfl) (Tw hw 71 rfl) (Tw hw 72 rfl) (by decide) [(.int (0 : Int32)), (.int c_1530), (.int (0 : Int32)), (.int (0 : Int32)), (.int (4 : Int32))] [] (Con.pay (W := 0) (own_ok l Z a0 hw h2434 n0 S2448.old (0 : Int32) c_1530 (0 : Int32) (0 : Int32) (4 : Int32) (fun _ _ q => absurd q (by decide))) (Tw hw 72 rfl) (Tw hw 71 rfl) (by decide) (by decide)) (lenOf own_pd_39 rfl) rfl (Nle rfl) (by decide) (by decide) Wrs.nil ?_
            intro v2451 T2452 h2453 L2454 S2455 q2456 K2457
            obtain ⟨rfl, e_q2456⟩ := q2456
            obtain rfl := e_q2456.symm
            show Go p e below _ T2452 (mkF m 238 #[.val (.int p0), .val (.int p1), .val (.int p2), .val (.int p3), .val (.int c_1530), .val (.int c_1531), .val (.int c_1532), .val (.int c_1533), .val (.int (4 : Int32)), .val (.int (0 : Int32)), .val (.ref b2382), .val (.ref b2420), .val (.int (0 : Int32)), .unset, .unset] [(.int (1 : Int32))])
            refine S2455.ifN 241 (hb hby at_238) (zEqF (by decide)) ?_
            refine S2455.iconst 242 (1 : Int32) (hb hby at_241) ?_
            refine S2455.iload 244 (hb hby at_242) rfl ?_
            refine S2455.iload 246 (hb hby at_244) rfl ?_
            refine S2455.iload 248 (hb hby at_246) rfl ?_
            refine S2455.iload 250 (hb hby at_248) rfl ?_
            refine S2455.scall 253 (hb hby at_250) (by rw [hml]; rfl) (Tw hw 69 rfl) (Tw hw 70 rfl) (Tw hw 71 rfl) (Tw hw 72 rfl) (by decide) [(.int (1 : Int32)), (.int c_1531), (.int (0 : Int32)), (.int (0 : Int32)), (.int (4 : Int32))] [] (Con.pay (W := 0) (own_ok l Z a0 hw h2434 n0 S2455.old (1 : Int32) c_1531 (0 : Int32) (0 : Int32) (4 : Int32) (fun _ _ q => absurd q (by decide))) (Tw hw 72 rfl) (Tw hw 71 rfl) (by decide) (by decide)) (lenOf own_pd_39 rfl) rfl (Nle rfl) (by decide) (by decide) Wrs.nil ?_
            intro v2458 T2459 h2460 L2461 S2462 q2463 K2464
            obtain ⟨rfl, e_q2463⟩ := q2463
            obtain rfl := e_q2463.symm
            show Go p e below _ T2459 (mkF m 253 #[.val (.int p0), .val (.int p1), .val (.int p2), .val (.int p3), .val (.int c_1530), .val (.int c_1531), .val (.int c_1532), .val (.int c_1533), .val (.int (4 : Int32)), .val (.int (0 : Int32)), .val (.ref b2382), .val (.ref b2420), .val (.int (0 : Int32)), .unset, .unset] [(.int (1 : Int32))])
            refine S2462.ifN 256 (hb hby at_253) (zEqF (by decide)) ?_
            refine S2462.iconst 257 (2 : Int32) (hb hby at_256) ?_
            refine S2462.iload 259 (hb hby at_257) rfl ?_
            refine S2462.iload 261 (hb hby at_259) rfl ?_
            refine S2462.iload 263 (hb hby at_261) rfl ?_
            refine S2462.iload 265 (hb hby at_263) rfl ?_
            refine S2462.scall 268 (hb hby at_265) (by rw [hml]; rfl) (Tw hw 69 rfl) (Tw hw 70 rfl) (Tw hw 71 rfl) (Tw hw 72 rfl) (by decide) [(.int (2 : Int32)), (.int c_1532), (.int (0 : Int32)), (.int (0 : Int32)), (.int (4 : Int32))] [] (Con.pay (W := 0) (own_ok l Z a0 hw h2434 n0 S2462.old (2 : Int32) c_1532 (0 : Int32) (0 : Int32) (4 : Int32) (fun _ _ q => absurd q (by decide))) (Tw hw 72 rfl) (Tw hw 71 rfl) (by decide) (by decide)) (lenOf own_pd_39 rfl) rfl (Nle rfl) (by decide) (by decide) Wrs.nil ?_
            intro v2465 T2466 h2467 L2468 S2469 q2470 K2471
            obtain ⟨rfl, e_q2470⟩ := q2470
            obtain rfl := e_q2470.symm
            show Go p e below _ T2466 (mkF m 268 #[.val (.int p0), .val (.int p1), .val (.int p2), .val (.int p3), .val (.int c_1530), .val (.int c_1531), .val (.int c_1532), .val (.int c_1533), .val (.int (4 : Int32)), .val (.int (0 : Int32)), .val (.ref b2382), .val (.ref b2420), .val (.int (0 : Int32)), .unset, .unset] [(.int (1 : Int32))])
            refine S2469.ifN 271 (hb hby at_268) (zEqF (by decide)) ?_
            refine S2469.iconst 272 (3 : Int32) (hb hby at_271) ?_
            refine S2469.iload 274 (hb hby at_272) rfl ?_
            refine S2469.iload 276 (hb hby at_274) rfl ?_
            refine S2469.iload 278 (hb hby at_276) rfl ?_
            refine S2469.iload 280 (hb hby at_278) rfl ?_
            refine S2469.scall 283 (hb hby at_280) (by rw [hml]; rfl) (Tw hw 69 rfl) (Tw hw 70 rfl) (Tw hw 71 rfl) (Tw hw 72 rfl) (by decide) [(.int (3 : Int32)), (.int c_1533), (.int (0 : Int32)), (.int (0 : Int32)), (.int (4 : Int32))] [] (Con.pay (W := 0) (own_ok l Z a0 hw h2434 n0 S2469.old (3 : Int32) c_1533 (0 : Int32) (0 : Int32) (4 : Int32) (fun _ _ q => absurd q (by decide))) (Tw hw 72 rfl) (Tw hw 71 rfl) (by decide) (by decide)) (lenOf own_pd_39 rfl) rfl (Nle rfl) (by decide) (by decide) Wrs.nil ?_
            intro v2472 T2473 h2474 L2475 S2476 q2477 K2478
            obtain ⟨rfl, e_q2477⟩ := q2477
            obtain rfl := e_q2477.symm
            show Go p e below _ T2473 (mkF m 283 #[.val (.int p0), .val (.int p1), .val (.int p2), .val (.int p3), .val (.int c_1530), .val (.int c_1531), .val (.int c_1532), .val (.int c_1533), .val (.int (4 : Int32)), .val (.int (0 : Int32)), .val (.ref b2382), .val (.ref b2420), .val (.int (0 : Int32)), .unset, .unset] [(.int (1 : Int32))])
            refine S2476.ifN 286 (hb hby at_283) (zEqF (by decide)) ?_
            refine S2476.iconst 287 (1 : Int32) (hb hby at_286) ?_
            refine S2476.goto 291 (hb hby at_287) ?_
            refine S2476.istore 293 #[.val (.int p0), .val (.int p1), .val (.int p2), .val (.int p3), .val (.int c_1530), .val (.int c_1531), .val (.int c_1532), .val (.int c_1533), .val (.int (4 : Int32)), .val (.int (0 : Int32)), .val (.ref b2382), .val (.ref b2420), .val (.int (0 : Int32)), .val (.int (1 : Int32)), .unset] (hb hby at_291) rfl ?_
            refine S2476.iload 295 (hb hby at_293) rfl ?_
            refine S2476.iload 297 (hb hby at_295) rfl ?_
            refine S2476.icmpN 300 (hb hby at_297) (qEqF (by decide)) ?_
            refine S2476.iload 302 (hb hby at_300) rfl ?_
            refine S2476.iload 304 (hb hby at_302) rfl ?_
            refine S2476.iload 306 (hb hby at_304) rfl ?_
            refine S2476.iload 308 (hb hby at_306) rfl ?_
            refine S2476.iload 310 (hb hby at_308) rfl ?_
            refine S2476.scall 313 (hb hby at_310) (by rw [hml]; rfl) (Tw hw 73 rfl) (Tw hw 74 rfl) (Tw hw 71 rfl) (Tw hw 75 rfl) (by decide) [(.int c_1530), (.int c_1531), (.int c_1532), (.int c_1533), (.int (0 : Int32))] [] (Con.pay (W := 0) (own_at0 l Z a0 hw h2434 n0 S2476.old c_1530 c_1531 c_1532 c_1533 u16_c_1530) (Tw hw 75 rfl) (Tw hw 71 rfl) (by decide) (by decide)) (lenOf own_pd_40 rfl) rfl (Nle rfl) (by decide) (by decide) Wrs.nil ?_
            intro v2479 T2480 h2481 L2482 S2483 q2484 K2485
            obtain ⟨rfl, e_q2484⟩ := q2484
            obtain rfl := e_q2484.symm
            show Go p e below _ T2480 (mkF m 313 #[.val (.int p0), .val (.int p1), .val (.int p2), .val (.int p3), .val (.int c_1530), .val (.int c_1531), .val (.int c_1532), .val (.int c_1533), .val (.int (4 : Int32)), .val (.int (0 : Int32)), .val (.ref b2382), .val (.ref b2420), .val (.int (0 : Int32)), .val (.int (1 : Int32)), .unset] [(.int c_1530)])
            refine S2483.scall 316 (hb hby at_313) (by rw [hml]; rfl) (Tw hw 76 rfl) (Tw hw 77 rfl) (Tw hw 71 rfl) (Tw hw 78 rfl) (by decide) [(.int c_1530)] [] (Con.pay (W := 0) (own_dig0 l Z a0 hw h2434 n0 S2483.old c_1530 nd0) (Tw hw 78 rfl) (Tw hw 71 rfl) (by decide) (by decide)) (lenOf own_pd_31 rfl) rfl (Nle rfl) (by decide) (by decide) Wrs.nil ?_
            intro v2486 T2487 h2488 L2489 S2490 q2491 K2492
            obtain ⟨rfl, e_q2491⟩ := q2491
            obtain rfl := e_q2491.symm
            show Go p e below _ T2487 (mkF m 316 #[.val (.int p0), .val (.int p1), .val (.int p2), .val (.int p3), .val (.int c_1530), .val (.int c_1531), .val (.int c_1532), .val (.int c_1533), .val (.int (4 : Int32)), .val (.int (0 : Int32)), .val (.ref b2382), .val (.ref b2420), .val (.int (0 : Int32)), .val (.int (1 : Int32)), .unset] [(.int (0 : Int32))])
            refine S2490.ifN 319 (hb hby at_316) (zNeF (by decide)) ?_
            refine S2490.iconst 320 (1 : Int32) (hb hby at_319) ?_
            refine S2490.goto 324 (hb hby at_320) ?_
            refine S2490.istore 326 #[.val (.int p0), .val (.int p1), .val (.int p2), .val (.int p3), .val (.int c_1530), .val (.int c_1531), .val (.int c_1532), .val (.int c_1533), .val (.int (4 : Int32)), .val (.int (0 : Int32)), .val (.ref b2382), .val (.ref b2420), .val (.int (0 : Int32)), .val (.int (1 : Int32)), .val (.int (1 : Int32))] (hb hby at_324) rfl ?_
            refine S2490.iload 328 (hb hby at_326) rfl ?_
            refine S2490.ifN 331 (hb hby at_328) (zEqF (by decide)) ?_
            refine S2490.iload 333 (hb hby at_331) rfl ?_
            refine S2490.ifN 336 (hb hby at_333) (zEqF (by decide)) ?_
            refine S2490.iconst 337 (1 : Int32) (hb hby at_336) ?_
            refine S2490.goto 341 (hb hby at_337) ?_
            exact S2490.retN (t := .boolean) (hb hby at_341) hret (by decide) (by decide) (by decide) rfl
          · skip
            show Go p e below _ T2445 (mkF m 188 #[.val (.int p0), .val (.int p1), .val (.int p2), .val (.int p3), .val (.int c_1530), .val (.int c_1531), .val (.int c_1532), .val (.int c_1533), .val (.int (4 : Int32)), .val (.int (0 : Int32)), .val (.ref b2382), .val (.ref b2420), .unset, .unset, .unset] [(.int (1 : Int32))])
            refine S2448.istore 190 #[.val (.int p0), .val (.int p1), .val (.int p2), .val (.int p3), .val (.int c_1530), .val (.int c_1531), .val (.int c_1532), .val (.int c_1533), .val (.int (4 : Int32)), .val (.int (0 : Int32)), .val (.ref b2382), .val (.ref b2420), .val (.int (1 : Int32)), .unset, .unset] (hb hby at_188) rfl ?_
            refine S2448.iload 192 (hb hby at_190) rfl ?_
            refine S2448.iload 194 (hb hby at_192) rfl ?_
            refine S2448.icmpY 210 (hb hby at_194) (qLtT (by decide)) ?_
            refine S2448.iload 212 (hb hby at_210) rfl ?_
            refine S2448.iload 214 (hb hby at_212) rfl ?_
            refine S2448.icmpN 217 (hb hby at_214) (qLtF (by decide)) ?_
            refine S2448.iload 219 (hb hby at_217) rfl ?_
            refine S2448.iload 221 (hb hby at_219) rfl ?_
            refine S2448.icmpY 226 (hb hby at_221) (qLeT (by decide)) ?_
            refine S2448.iconst 227 (0 : Int32) (hb hby at_226) ?_
            refine S2448.iload 229 (hb hby at_227) rfl ?_
            refine S2448.iload 231 (hb hby at_229) rfl ?_
            refine S2448.iload 233 (hb hby at_231) rfl ?_
            refine S2448.iload 235 (hb hby at_233) rfl ?_
            refine S2448.scall 238 (hb hby at_235) (by rw [hml]; rfl) (Tw hw 69 rfl) (Tw hw 70 rfl) (Tw hw 71 rfl) (Tw hw 72 rfl) (by decide) [(.int (0 : Int32)), (.int c_1530), (.int (0 : Int32)), (.int (1 : Int32)), (.int (4 : Int32))] [] (Con.pay (W := 0) (own_ok l Z a0 hw h2434 n0 S2448.old (0 : Int32) c_1530 (0 : Int32) (1 : Int32) (4 : Int32) (fun _ _ _ => d1_0)) (Tw hw 72 rfl) (Tw hw 71 rfl) (by decide) (by decide)) (lenOf own_pd_39 rfl) rfl (Nle rfl) (by decide) (by decide) Wrs.nil ?_
            intro v2493 T2494 h2495 L2496 S2497 q2498 K2499
            obtain ⟨rfl, e_q2498⟩ := q2498
            obtain rfl := e_q2498.symm
            show Go p e below _ T2494 (mkF m 238 #[.val (.int p0), .val (.int p1), .val (.int p2), .val (.int p3), .val (.int c_1530), .val (.int c_1531), .val (.int c_1532), .val (.int c_1533), .val (.int (4 : Int32)), .val (.int (0 : Int32)), .val (.ref b2382), .val (.ref b2420), .val (.int (1 : Int32)), .unset, .unset] [(.int (1 : Int32))])
            refine S2497.ifN 241 (hb hby at_238) (zEqF (by decide)) ?_
            refine S2497.iconst 242 (1 : Int32) (hb hby at_241) ?_
            refine S2497.iload 244 (hb hby at_242) rfl ?_
            refine S2497.iload 246 (hb hby at_244) rfl ?_
            refine S2497.iload 248 (hb hby at_246) rfl ?_
            refine S2497.iload 250 (hb hby at_248) rfl ?_
            refine S2497.scall 253 (hb hby at_250) (by rw [hml]; rfl) (Tw hw 69 rfl) (Tw hw 70 rfl) (Tw hw 71 rfl) (Tw hw 72 rfl) (by decide) [(.int (1 : Int32)), (.int c_1531), (.int (0 : Int32)), (.int (1 : Int32)), (.int (4 : Int32))] [] (Con.pay (W := 0) (own_ok l Z a0 hw h2434 n0 S2497.old (1 : Int32) c_1531 (0 : Int32) (1 : Int32) (4 : Int32) (fun _ _ q => absurd q (by decide))) (Tw hw 72 rfl) (Tw hw 71 rfl) (by decide) (by decide)) (lenOf own_pd_39 rfl) rfl (Nle rfl) (by decide) (by decide) Wrs.nil ?_
            intro v2500 T2501 h2502 L2503 S2504 q2505 K2506
            obtain ⟨rfl, e_q2505⟩ := q2505
            obtain rfl := e_q2505.symm
            show Go p e below _ T2501 (mkF m 253 #[.val (.int p0), .val (.int p1), .val (.int p2), .val (.int p3), .val (.int c_1530), .val (.int c_1531), .val (.int c_1532), .val (.int c_1533), .val (.int (4 : Int32)), .val (.int (0 : Int32)), .val (.ref b2382), .val (.ref b2420), .val (.int (1 : Int32)), .unset, .unset] [(.int (1 : Int32))])
            refine S2504.ifN 256 (hb hby at_253) (zEqF (by decide)) ?_
            refine S2504.iconst 257 (2 : Int32) (hb hby at_256) ?_
            refine S2504.iload 259 (hb hby at_257) rfl ?_
            refine S2504.iload 261 (hb hby at_259) rfl ?_
            refine S2504.iload 263 (hb hby at_261) rfl ?_
            refine S2504.iload 265 (hb hby at_263) rfl ?_
            refine S2504.scall 268 (hb hby at_265) (by rw [hml]; rfl) (Tw hw 69 rfl) (Tw hw 70 rfl) (Tw hw 71 rfl) (Tw hw 72 rfl) (by decide) [(.int (2 : Int32)), (.int c_1532), (.int (0 : Int32)), (.int (1 : Int32)), (.int (4 : Int32))] [] (Con.pay (W := 0) (own_ok l Z a0 hw h2434 n0 S2504.old (2 : Int32) c_1532 (0 : Int32) (1 : Int32) (4 : Int32) (fun _ _ q => absurd q (by decide))) (Tw hw 72 rfl) (Tw hw 71 rfl) (by decide) (by decide)) (lenOf own_pd_39 rfl) rfl (Nle rfl) (by decide) (by decide) Wrs.nil ?_
            intro v2507 T2508 h2509 L2510 S2511 q2512 K2513
            obtain ⟨rfl, e_q2512⟩ := q2512
            obtain rfl := e_q2512.symm
            show Go p e below _ T2508 (mkF m 268 #[.val (.int p0), .val (.int p1), .val (.int p2), .val (.int p3), .val (.int c_1530), .val (.int c_1531), .val (.int c_1532), .val (.int c_1533), .val (.int (4 : Int32)), .val (.int (0 : Int32)), .val (.ref b2382), .val (.ref b2420), .val (.int (1 : Int32)), .unset, .unset] [(.int (1 : Int32))])
            refine S2511.ifN 271 (hb hby at_268) (zEqF (by decide)) ?_
            refine S2511.iconst 272 (3 : Int32) (hb hby at_271) ?_
            refine S2511.iload 274 (hb hby at_272) rfl ?_
            refine S2511.iload 276 (hb hby at_274) rfl ?_
            refine S2511.iload 278 (hb hby at_276) rfl ?_
            refine S2511.iload 280 (hb hby at_278) rfl ?_
            refine S2511.scall 283 (hb hby at_280) (by rw [hml]; rfl) (Tw hw 69 rfl) (Tw hw 70 rfl) (Tw hw 71 rfl) (Tw hw 72 rfl) (by decide) [(.int (3 : Int32)), (.int c_1533), (.int (0 : Int32)), (.int (1 : Int32)), (.int (4 : Int32))] [] (Con.pay (W := 0) (own_ok l Z a0 hw h2434 n0 S2511.old (3 : Int32) c_1533 (0 : Int32) (1 : Int32) (4 : Int32) (fun _ _ q => absurd q (by decide))) (Tw hw 72 rfl) (Tw hw 71 rfl) (by decide) (by decide)) (lenOf own_pd_39 rfl) rfl (Nle rfl) (by decide) (by decide) Wrs.nil ?_
            intro v2514 T2515 h2516 L2517 S2518 q2519 K2520
            obtain ⟨rfl, e_q2519⟩ := q2519
            obtain rfl := e_q2519.symm
            show Go p e below _ T2515 (mkF m 283 #[.val (.int p0), .val (.int p1), .val (.int p2), .val (.int p3), .val (.int c_1530), .val (.int c_1531), .val (.int c_1532), .val (.int c_1533), .val (.int (4 : Int32)), .val (.int (0 : Int32)), .val (.ref b2382), .val (.ref b2420), .val (.int (1 : Int32)), .unset, .unset] [(.int (1 : Int32))])
            refine S2518.ifN 286 (hb hby at_283) (zEqF (by decide)) ?_
            refine S2518.iconst 287 (1 : Int32) (hb hby at_286) ?_
            refine S2518.goto 291 (hb hby at_287) ?_
            refine S2518.istore 293 #[.val (.int p0), .val (.int p1), .val (.int p2), .val (.int p3), .val (.int c_1530), .val (.int c_1531), .val (.int c_1532), .val (.int c_1533), .val (.int (4 : Int32)), .val (.int (0 : Int32)), .val (.ref b2382), .val (.ref b2420), .val (.int (1 : Int32)), .val (.int (1 : Int32)), .unset] (hb hby at_291) rfl ?_
            refine S2518.iload 295 (hb hby at_293) rfl ?_
            refine S2518.iload 297 (hb hby at_295) rfl ?_
            refine S2518.icmpN 300 (hb hby at_297) (qEqF (by decide)) ?_
            refine S2518.iload 302 (hb hby at_300) rfl ?_
            refine S2518.iload 304 (hb hby at_302) rfl ?_
            refine S2518.iload 306 (hb hby at_304) rfl ?_
            refine S2518.iload 308 (hb hby at_306) rfl ?_
            refine S2518.iload 310 (hb hby at_308) rfl ?_
            refine S2518.scall 313 (hb hby at_310) (by rw [hml]; rfl) (Tw hw 73 rfl) (Tw hw 74 rfl) (Tw hw 71 rfl) (Tw hw 75 rfl) (by decide) [(.int c_1530), (.int c_1531), (.int c_1532), (.int c_1533), (.int (1 : Int32))] [] (Con.pay (W := 0) (own_at1 l Z a0 hw h2434 n0 S2518.old c_1530 c_1531 c_1532 c_1533 u16_c_1531) (Tw hw 75 rfl) (Tw hw 71 rfl) (by decide) (by decide)) (lenOf own_pd_40 rfl) rfl (Nle rfl) (by decide) (by decide) Wrs.nil ?_
            intro v2521 T2522 h2523 L2524 S2525 q2526 K2527
            obtain ⟨rfl, e_q2526⟩ := q2526
            obtain rfl := e_q2526.symm
            show Go p e below _ T2522 (mkF m 313 #[.val (.int p0), .val (.int p1), .val (.int p2), .val (.int p3), .val (.int c_1530), .val (.int c_1531), .val (.int c_1532), .val (.int c_1533), .val (.int (4 : Int32)), .val (.int (0 : Int32)), .val (.ref b2382), .val (.ref b2420), .val (.int (1 : Int32)), .val (.int (1 : Int32)), .unset] [(.int c_1531)])
            refine S2525.scall 316 (hb hby at_313) (by rw [hml]; rfl) (Tw hw 76 rfl) (Tw hw 77 rfl) (Tw hw 71 rfl) (Tw hw 78 rfl) (by decide) [(.int c_1531)] [] (Con.pay (W := 0) (own_dig0 l Z a0 hw h2434 n0 S2525.old c_1531 nd1) (Tw hw 78 rfl) (Tw hw 71 rfl) (by decide) (by decide)) (lenOf own_pd_31 rfl) rfl (Nle rfl) (by decide) (by decide) Wrs.nil ?_
            intro v2528 T2529 h2530 L2531 S2532 q2533 K2534
            obtain ⟨rfl, e_q2533⟩ := q2533
            obtain rfl := e_q2533.symm
            show Go p e below _ T2529 (mkF m 316 #[.val (.int p0), .val (.int p1), .val (.int p2), .val (.int p3), .val (.int c_1530), .val (.int c_1531), .val (.int c_1532), .val (.int c_1533), .val (.int (4 : Int32)), .val (.int (0 : Int32)), .val (.ref b2382), .val (.ref b2420), .val (.int (1 : Int32)), .val (.int (1 : Int32)), .unset] [(.int (0 : Int32))])
            refine S2532.ifN 319 (hb hby at_316) (zNeF (by decide)) ?_
            refine S2532.iconst 320 (1 : Int32) (hb hby at_319) ?_
            refine S2532.goto 324 (hb hby at_320) ?_
            refine S2532.istore 326 #[.val (.int p0), .val (.int p1), .val (.int p2), .val (.int p3), .val (.int c_1530), .val (.int c_1531), .val (.int c_1532), .val (.int c_1533), .val (.int (4 : Int32)), .val (.int (0 : Int32)), .val (.ref b2382), .val (.ref b2420), .val (.int (1 : Int32)), .val (.int (1 : Int32)), .val (.int (1 : Int32))] (hb hby at_324) rfl ?_
            refine S2532.iload 328 (hb hby at_326) rfl ?_
            refine S2532.ifN 331 (hb hby at_328) (zEqF (by decide)) ?_
            refine S2532.iload 333 (hb hby at_331) rfl ?_
            refine S2532.ifN 336 (hb hby at_333) (zEqF (by decide)) ?_
            refine S2532.iconst 337 (1 : Int32) (hb hby at_336) ?_
            refine S2532.goto 341 (hb hby at_337) ?_
            exact S2532.retN (t := .boolean) (hb hby at_341) hret (by decide) (by decide) (by decide) rfl
          · skip
            show Go p e below _ T2445 (mkF m 188 #[.val (.int p0), .val (.int p1), .val (.int p2), .val (.int p3), .val (.int c_1530), .val (.int c_1531), .val (.int c_1532), .val (.int c_1533), .val (.int (4 : Int32)), .val (.int (0 : Int32)), .val (.ref b2382), .val (.ref b2420), .unset, .unset, .unset] [(.int (2 : Int32))])
            refine S2448.istore 190 #[.val (.int p0), .val (.int p1), .val (.int p2), .val (.int p3), .val (.int c_1530), .val (.int c_1531), .val (.int c_1532), .val (.int c_1533), .val (.int (4 : Int32)), .val (.int (0 : Int32)), .val (.ref b2382), .val (.ref b2420), .val (.int (2 : Int32)), .unset, .unset] (hb hby at_188) rfl ?_
            refine S2448.iload 192 (hb hby at_190) rfl ?_
            refine S2448.iload 194 (hb hby at_192) rfl ?_
            refine S2448.icmpY 210 (hb hby at_194) (qLtT (by decide)) ?_
            refine S2448.iload 212 (hb hby at_210) rfl ?_
            refine S2448.iload 214 (hb hby at_212) rfl ?_
            refine S2448.icmpN 217 (hb hby at_214) (qLtF (by decide)) ?_
            refine S2448.iload 219 (hb hby at_217) rfl ?_
            refine S2448.iload 221 (hb hby at_219) rfl ?_
            refine S2448.icmpY 226 (hb hby at_221) (qLeT (by decide)) ?_
            refine S2448.iconst 227 (0 : Int32) (hb hby at_226) ?_
            refine S2448.iload 229 (hb hby at_227) rfl ?_
            refine S2448.iload 231 (hb hby at_229) rfl ?_
            refine S2448.iload 233 (hb hby at_231) rfl ?_
            refine S2448.iload 235 (hb hby at_233) rfl ?_
            refine S2448.scall 238 (hb hby at_235) (by rw [hml]; rfl) (Tw hw 69 rfl) (Tw hw 70 rfl) (Tw hw 71 rfl) (Tw hw 72 rfl) (by decide) [(.int (0 : Int32)), (.int c_1530), (.int (0 : Int32)), (.int (2 : Int32)), (.int (4 : Int32))] [] (Con.pay (W := 0) (own_ok l Z a0 hw h2434 n0 S2448.old (0 : Int32) c_1530 (0 : Int32) (2 : Int32) (4 : Int32) (fun _ _ _ => d2_0)) (Tw hw 72 rfl) (Tw hw 71 rfl) (by decide) (by decide)) (lenOf own_pd_39 rfl) rfl (Nle rfl) (by decide) (by decide) Wrs.nil ?_
            intro v2535 T2536 h2537 L2538 S2539 q2540 K2541
            obtain ⟨rfl, e_q2540⟩ := q2540
            obtain rfl := e_q2540.symm
            show Go p e below _ T2536 (mkF m 238 #[.val (.int p0), .val (.int p1), .val (.int p2), .val (.int p3), .val (.int c_1530), .val (.int c_1531), .val (.int c_1532), .val (.int c_1533), .val (.int (4 : Int32)), .val (.int (0 : Int32)), .val (.ref b2382), .val (.ref b2420), .val (.int (2 : Int32)), .unset, .unset] [(.int (1 : Int32))])
            refine S2539.ifN 241 (hb hby at_238) (zEqF (by decide)) ?_
            refine S2539.iconst 242 (1 : Int32) (hb hby at_241) ?_
            refine S2539.iload 244 (hb hby at_242) rfl ?_
            refine S2539.iload 246 (hb hby at_244) rfl ?_
            refine S2539.iload 248 (hb hby at_246) rfl ?_
            refine S2539.iload 250 (hb hby at_248) rfl ?_
            refine S2539.scall 253 (hb hby at_250) (by rw [hml]; rfl) (Tw hw 69 rfl) (Tw hw 70 rfl) (Tw hw 71 rfl) (Tw hw 72 rfl) (by decide) [(.int (1 : Int32)), (.int c_1531), (.int (0 : Int32)), (.int (2 : Int32)), (.int (4 : Int32))] [] (Con.pay (W := 0) (own_ok l Z a0 hw h2434 n0 S2539.old (1 : Int32) c_1531 (0 : Int32) (2 : Int32) (4 : Int32) (fun _ _ _ => d2_1)) (Tw hw 72 rfl) (Tw hw 71 rfl) (by decide) (by decide)) (lenOf own_pd_39 rfl) rfl (Nle rfl) (by decide) (by decide) Wrs.nil ?_
            intro v2542 T2543 h2544 L2545 S2546 q2547 K2548
            obtain ⟨rfl, e_q2547⟩ := q2547
            obtain rfl := e_q2547.symm
            show Go p e below _ T2543 (mkF m 253 #[.val (.int p0), .val (.int p1), .val (.int p2), .val (.int p3), .val (.int c_1530), .val (.int c_1531), .val (.int c_1532), .val (.int c_1533), .val (.int (4 : Int32)), .val (.int (0 : Int32)), .val (.ref b2382), .val (.ref b2420), .val (.int (2 : Int32)), .unset, .unset] [(.int (1 : Int32))])
            refine S2546.ifN 256 (hb hby at_253) (zEqF (by decide)) ?_
            refine S2546.iconst 257 (2 : Int32) (hb hby at_256) ?_
            refine S2546.iload 259 (hb hby at_257) rfl ?_
            refine S2546.iload 261 (hb hby at_259) rfl ?_
            refine S2546.iload 263 (hb hby at_261) rfl ?_
            refine S2546.iload 265 (hb hby at_263) rfl ?_
            refine S2546.scall 268 (hb hby at_265) (by rw [hml]; rfl) (Tw hw 69 rfl) (Tw hw 70 rfl) (Tw hw 71 rfl) (Tw hw 72 rfl) (by decide) [(.int (2 : Int32)), (.int c_1532), (.int (0 : Int32)), (.int (2 : Int32)), (.int (4 : Int32))] [] (Con.pay (W := 0) (own_ok l Z a0 hw h2434 n0 S2546.old (2 : Int32) c_1532 (0 : Int32) (2 : Int32) (4 : Int32) (fun _ _ q => absurd q (by decide))) (Tw hw 72 rfl) (Tw hw 71 rfl) (by decide) (by decide)) (lenOf own_pd_39 rfl) rfl (Nle rfl) (by decide) (by decide) Wrs.nil ?_
            intro v2549 T2550 h2551 L2552 S2553 q2554 K2555
            obtain ⟨rfl, e_q2554⟩ := q2554
            obtain rfl := e_q2554.symm
            show Go p e below _ T2550 (mkF m 268 #[.val (.int p0), .val (.int p1), .val (.int p2), .val (.int p3), .val (.int c_1530), .val (.int c_1531), .val (.int c_1532), .val (.int c_1533), .val (.int (4 : Int32)), .val (.int (0 : Int32)), .val (.ref b2382), .val (.ref b2420), .val (.int (2 : Int32)), .unset, .unset] [(.int (1 : Int32))])
            refine S2553.ifN 271 (hb hby at_268) (zEqF (by decide)) ?_
            refine S2553.iconst 272 (3 : Int32) (hb hby at_271) ?_
            refine S2553.iload 274 (hb hby at_272) rfl ?_
            refine S2553.iload 276 (hb hby at_274) rfl ?_
            refine S2553.iload 278 (hb hby at_276) rfl ?_
            refine S2553.iload 280 (hb hby at_278) rfl ?_
            refine S2553.scall 283 (hb hby at_280) (by rw [hml]; rfl) (Tw hw 69 rfl) (Tw hw 70 rfl) (Tw hw 71 rfl) (Tw hw 72 rfl) (by decide) [(.int (3 : Int32)), (.int c_1533), (.int (0 : Int32)), (.int (2 : Int32)), (.int (4 : Int32))] [] (Con.pay (W := 0) (own_ok l Z a0 hw h2434 n0 S2553.old (3 : Int32) c_1533 (0 : Int32) (2 : Int32) (4 : Int32) (fun _ _ q => absurd q (by decide))) (Tw hw 72 rfl) (Tw hw 71 rfl) (by decide) (by decide)) (lenOf own_pd_39 rfl) rfl (Nle rfl) (by decide) (by decide) Wrs.nil ?_
            intro v2556 T2557 h2558 L2559 S2560 q2561 K2562
            obtain ⟨rfl, e_q2561⟩ := q2561
            obtain rfl := e_q2561.symm
            show Go p e below _ T2557 (mkF m 283 #[.val (.int p0), .val (.int p1), .val (.int p2), .val (.int p3), .val (.int c_1530), .val (.int c_1531), .val (.int c_1532), .val (.int c_1533), .val (.int (4 : Int32)), .val (.int (0 : Int32)), .val (.ref b2382), .val (.ref b2420), .val (.int (2 : Int32)), .unset, .unset] [(.int (1 : Int32))])
            refine S2560.ifN 286 (hb hby at_283) (zEqF (by decide)) ?_
            refine S2560.iconst 287 (1 : Int32) (hb hby at_286) ?_
            refine S2560.goto 291 (hb hby at_287) ?_
            refine S2560.istore 293 #[.val (.int p0), .val (.int p1), .val (.int p2), .val (.int p3), .val (.int c_1530), .val (.int c_1531), .val (.int c_1532), .val (.int c_1533), .val (.int (4 : Int32)), .val (.int (0 : Int32)), .val (.ref b2382), .val (.ref b2420), .val (.int (2 : Int32)), .val (.int (1 : Int32)), .unset] (hb hby at_291) rfl ?_
            refine S2560.iload 295 (hb hby at_293) rfl ?_
            refine S2560.iload 297 (hb hby at_295) rfl ?_
            refine S2560.icmpN 300 (hb hby at_297) (qEqF (by decide)) ?_
            refine S2560.iload 302 (hb hby at_300) rfl ?_
            refine S2560.iload 304 (hb hby at_302) rfl ?_
            refine S2560.iload 306 (hb hby at_304) rfl ?_
            refine S2560.iload 308 (hb hby at_306) rfl ?_
            refine S2560.iload 310 (hb hby at_308) rfl ?_
            refine S2560.scall 313 (hb hby at_310) (by rw [hml]; rfl) (Tw hw 73 rfl) (Tw hw 74 rfl) (Tw hw 71 rfl) (Tw hw 75 rfl) (by decide) [(.int c_1530), (.int c_1531), (.int c_1532), (.int c_1533), (.int (2 : Int32))] [] (Con.pay (W := 0) (own_at2 l Z a0 hw h2434 n0 S2560.old c_1530 c_1531 c_1532 c_1533 u16_c_1532) (Tw hw 75 rfl) (Tw hw 71 rfl) (by decide) (by decide)) (lenOf own_pd_40 rfl) rfl (Nle rfl) (by decide) (by decide) Wrs.nil ?_
            intro v2563 T2564 h2565 L2566 S2567 q2568 K2569
            obtain ⟨rfl, e_q2568⟩ := q2568
            obtain rfl := e_q2568.symm
            show Go p e below _ T2564 (mkF m 313 #[.val (.int p0), .val (.int p1), .val (.int p2), .val (.int p3), .val (.int c_1530), .val (.int c_1531), .val (.int c_1532), .val (.int c_1533), .val (.int (4 : Int32)), .val (.int (0 : Int32)), .val (.ref b2382), .val (.ref b2420), .val (.int (2 : Int32)), .val (.int (1 : Int32)), .unset] [(.int c_1532)])
            refine S2567.scall 316 (hb hby at_313) (by rw [hml]; rfl) (Tw hw 76 rfl) (Tw hw 77 rfl) (Tw hw 71 rfl) (Tw hw 78 rfl) (by decide) [(.int c_1532)] [] (Con.pay (W := 0) (own_dig0 l Z a0 hw h2434 n0 S2567.old c_1532 nd2) (Tw hw 78 rfl) (Tw hw 71 rfl) (by decide) (by decide)) (lenOf own_pd_31 rfl) rfl (Nle rfl) (by decide) (by decide) Wrs.nil ?_
            intro v2570 T2571 h2572 L2573 S2574 q2575 K2576
            obtain ⟨rfl, e_q2575⟩ := q2575
            obtain rfl := e_q2575.symm
            show Go p e below _ T2571 (mkF m 316 #[.val (.int p0), .val (.int p1), .val (.int p2), .val (.int p3), .val (.int c_1530), .val (.int c_1531), .val (.int c_1532), .val (.int c_1533), .val (.int (4 : Int32)), .val (.int (0 : Int32)), .val (.ref b2382), .val (.ref b2420), .val (.int (2 : Int32)), .val (.int (1 : Int32)), .unset] [(.int (0 : Int32))])
            refine S2574.ifN 319 (hb hby at_316) (zNeF (by decide)) ?_
            refine S2574.iconst 320 (1 : Int32) (hb hby at_319) ?_
            refine S2574.goto 324 (hb hby at_320) ?_
            refine S2574.istore 326 #[.val (.int p0), .val (.int p1), .val (.int p2), .val (.int p3), .val (.int c_1530), .val (.int c_1531), .val (.int c_1532), .val (.int c_1533), .val (.int (4 : Int32)), .val (.int (0 : Int32)), .val (.ref b2382), .val (.ref b2420), .val (.int (2 : Int32)), .val (.int (1 : Int32)), .val (.int (1 : Int32))] (hb hby at_324) rfl ?_
            refine S2574.iload 328 (hb hby at_326) rfl ?_
            refine S2574.ifN 331 (hb hby at_328) (zEqF (by decide)) ?_
            refine S2574.iload 333 (hb hby at_331) rfl ?_
            refine S2574.ifN 336 (hb hby at_333) (zEqF (by decide)) ?_
            refine S2574.iconst 337 (1 : Int32) (hb hby at_336) ?_
            refine S2574.goto 341 (hb hby at_337) ?_
            exact S2574.retN (t := .boolean) (hb hby at_341) hret (by decide) (by decide) (by decide) rfl
          · skip
            show Go p e below _ T2445 (mkF m 188 #[.val (.int p0), .val (.int p1), .val (.int p2), .val (.int p3), .val (.int c_1530), .val (.int c_1531), .val (.int c_1532), .val (.int c_1533), .val (.int (4 : Int32)), .val (.int (0 : Int32)), .val (.ref b2382), .val (.ref b2420), .unset, .unset, .unset] [(.int (3 : Int32))])
            refine S2448.istore 190 #[.val (.int p0), .val (.int p1), .val (.int p2), .val (.int p3), .val (.int c_1530), .val (.int c_1531), .val (.int c_1532), .val (.int c_1533), .val (.int (4 : Int32)), .val (.int (0 : Int32)), .val (.ref b2382), .val (.ref b2420), .val (.int (3 : Int32)), .unset, .unset] (hb hby at_188) rfl ?_
            refine S2448.iload 192 (hb hby at_190) rfl ?_
            refine S2448.iload 194 (hb hby at_192) rfl ?_
            refine S2448.icmpY 210 (hb hby at_194) (qLtT (by decide)) ?_
            refine S2448.iload 212 (hb hby at_210) rfl ?_
            refine S2448.iload 214 (hb hby at_212) rfl ?_
            refine S2448.icmpN 217 (hb hby at_214) (qLtF (by decide)) ?_
            refine S2448.iload 219 (hb hby at_217) rfl ?_
            refine S2448.iload 221 (hb hby at_219) rfl ?_
            refine S2448.icmpY 226 (hb hby at_221) (qLeT (by decide)) ?_
            refine S2448.iconst 227 (0 : Int32) (hb hby at_226) ?_
            refine S2448.iload 229 (hb hby at_227) rfl ?_
            refine S2448.iload 231 (hb hby at_229) rfl ?_
            refine S2448.iload 233 (hb hby at_231) rfl ?_
            refine S2448.iload 235 (hb hby at_233) rfl ?_
            refine S2448.scall 238 (hb hby at_235) (by rw [hml]; rfl) (Tw hw 69 rfl) (Tw hw 70 rfl) (Tw hw 71 rfl) (Tw hw 72 rfl) (by decide) [(.int (0 : Int32)), (.int c_1530), (.int (0 : Int32)), (.int (3 : Int32)), (.int (4 : Int32))] [] (Con.pay (W := 0) (own_ok l Z a0 hw h2434 n0 S2448.old (0 : Int32) c_1530 (0 : Int32) (3 : Int32) (4 : Int32) (fun _ _ _ => d3_0)) (Tw hw 72 rfl) (Tw hw 71 rfl) (by decide) (by decide)) (lenOf own_pd_39 rfl) rfl (Nle rfl) (by decide) (by decide) Wrs.nil ?_
            intro v2577 T2578 h2579 L2580 S2581 q2582 K2583
            obtain ⟨rfl, e_q2582⟩ := q2582
            obtain rfl := e_q2582.symm
            show Go p e below _ T2578 (mkF m 238 #[.val (.int p0), .val (.int p1), .val (.int p2), .val (.int p3), .val (.int c_1530), .val (.int c_1531), .val (.int c_1532), .val (.int c_1533), .val (.int (4 : Int32)), .val (.int (0 : Int32)), .val (.ref b2382), .val (.ref b2420), .val (.int (3 : Int32)), .unset, .unset] [(.int (1 : Int32))])
            refine S2581.ifN 241 (hb hby at_238) (zEqF (by decide)) ?_
            refine S2581.iconst 242 (1 : Int32) (hb hby at_241) ?_
            refine S2581.iload 244 (hb hby at_242) rfl ?_
            refine S2581.iload 246 (hb hby at_244) rfl ?_
            refine S2581.iload 248 (hb hby at_246) rfl ?_
            refine S2581.iload 250 (hb hby at_248) rfl ?_
            refine S2581.scall 253 (hb hby at_250) (by rw [hml]; rfl) (Tw hw 69 rfl) (Tw hw 70 rfl) (Tw hw 71 rfl) (Tw hw 72 rfl) (by decide) [(.int (1 : Int32)), (.int c_1531), (.int (0 : Int32)), (.int (3 : Int32)), (.int (4 : Int32))] [] (Con.pay (W := 0) (own_ok l Z a0 hw h2434 n0 S2581.old (1 : Int32) c_1531 (0 : Int32) (3 : Int32) (4 : Int32) (fun _ _ _ => d3_1)) (Tw hw 72 rfl) (Tw hw 71 rfl) (by decide) (by decide)) (lenOf own_pd_39 rfl) rfl (Nle rfl) (by decide) (by decide) Wrs.nil ?_
            intro v2584 T2585 h2586 L2587 S2588 q2589 K2590
            obtain ⟨rfl, e_q2589⟩ := q2589
            obtain rfl := e_q2589.symm
            show Go p e below _ T2585 (mkF m 253 #[.val (.int p0), .val (.int p1), .val (.int p2), .val (.int p3), .val (.int c_1530), .val (.int c_1531), .val (.int c_1532), .val (.int c_1533), .val (.int (4 : Int32)), .val (.int (0 : Int32)), .val (.ref b2382), .val (.ref b2420), .val (.int (3 : Int32)), .unset, .unset] [(.int (1 : Int32))])
            refine S2588.ifN 256 (hb hby at_253) (zEqF (by decide)) ?_
            refine S2588.iconst 257 (2 : Int32) (hb hby at_256) ?_
            refine S2588.iload 259 (hb hby at_257) rfl ?_
            refine S2588.iload 261 (hb hby at_259) rfl ?_
            refine S2588.iload 263 (hb hby at_261) rfl ?_
            refine S2588.iload 265 (hb hby at_263) rfl ?_
            refine S2588.scall 268 (hb hby at_265) (by rw [hml]; rfl) (Tw hw 69 rfl) (Tw hw 70 rfl) (Tw hw 71 rfl) (Tw hw 72 rfl) (by decide) [(.int (2 : Int32)), (.int c_1532), (.int (0 : Int32)), (.int (3 : Int32)), (.int (4 : Int32))] [] (Con.pay (W := 0) (own_ok l Z a0 hw h2434 n0 S2588.old (2 : Int32) c_1532 (0 : Int32) (3 : Int32) (4 : Int32) (fun _ _ _ => d3_2)) (Tw hw 72 rfl) (Tw hw 71 rfl) (by decide) (by decide)) (lenOf own_pd_39 rfl) rfl (Nle rfl) (by decide) (by decide) Wrs.nil ?_
            intro v2591 T2592 h2593 L2594 S2595 q2596 K2597
            obtain ⟨rfl, e_q2596⟩ := q2596
            obtain rfl := e_q2596.symm
            show Go p e below _ T2592 (mkF m 268 #[.val (.int p0), .val (.int p1), .val (.int p2), .val (.int p3), .val (.int c_1530), .val (.int c_1531), .val (.int c_1532), .val (.int c_1533), .val (.int (4 : Int32)), .val (.int (0 : Int32)), .val (.ref b2382), .val (.ref b2420), .val (.int (3 : Int32)), .unset, .unset] [(.int (1 : Int32))])
            refine S2595.ifN 271 (hb hby at_268) (zEqF (by decide)) ?_
            refine S2595.iconst 272 (3 : Int32) (hb hby at_271) ?_
            refine S2595.iload 274 (hb hby at_272) rfl ?_
            refine S2595.iload 276 (hb hby at_274) rfl ?_
            refine S2595.iload 278 (hb hby at_276) rfl ?_
            refine S2595.iload 280 (hb hby at_278) rfl ?_
            refine S2595.scall 283 (hb hby at_280) (by rw [hml]; rfl) (Tw hw 69 rfl) (Tw hw 70 rfl) (Tw hw 71 rfl) (Tw hw 72 rfl) (by decide) [(.int (3 : Int32)), (.int c_1533), (.int (0 : Int32)), (.int (3 : Int32)), (.int (4 : Int32))] [] (Con.pay (W := 0) (own_ok l Z a0 hw h2434 n0 S2595.old (3 : Int32) c_1533 (0 : Int32) (3 : Int32) (4 : Int32) (fun _ _ q => absurd q (by decide))) (Tw hw 72 rfl) (Tw hw 71 rfl) (by decide) (by decide)) (lenOf own_pd_39 rfl) rfl (Nle rfl) (by decide) (by decide) Wrs.nil ?_
            intro v2598 T2599 h2600 L2601 S2602 q2603 K2604
            obtain ⟨rfl, e_q2603⟩ := q2603
            obtain rfl := e_q2603.symm
            show Go p e below _ T2599 (mkF m 283 #[.val (.int p0), .val (.int p1), .val (.int p2), .val (.int p3), .val (.int c_1530), .val (.int c_1531), .val (.int c_1532), .val (.int c_1533), .val (.int (4 : Int32)), .val (.int (0 : Int32)), .val (.ref b2382), .val (.ref b2420), .val (.int (3 : Int32)), .unset, .unset] [(.int (1 : Int32))])
            refine S2602.ifN 286 (hb hby at_283) (zEqF (by decide)) ?_
            refine S2602.iconst 287 (1 : Int32) (hb hby at_286) ?_
            refine S2602.goto 291 (hb hby at_287) ?_
            refine S2602.istore 293 #[.val (.int p0), .val (.int p1), .val (.int p2), .val (.int p3), .val (.int c_1530), .val (.int c_1531), .val (.int c_1532), .val (.int c_1533), .val (.int (4 : Int32)), .val (.int (0 : Int32)), .val (.ref b2382), .val (.ref b2420), .val (.int (3 : Int32)), .val (.int (1 : Int32)), .unset] (hb hby at_291) rfl ?_
            refine S2602.iload 295 (hb hby at_293) rfl ?_
            refine S2602.iload 297 (hb hby at_295) rfl ?_
            refine S2602.icmpN 300 (hb hby at_297) (qEqF (by decide)) ?_
            refine S2602.iload 302 (hb hby at_300) rfl ?_
            refine S2602.iload 304 (hb hby at_302) rfl ?_
            refine S2602.iload 306 (hb hby at_304) rfl ?_
            refine S2602.iload 308 (hb hby at_306) rfl ?_
            refine S2602.iload 310 (hb hby at_308) rfl ?_
            refine S2602.scall 313 (hb hby at_310) (by rw [hml]; rfl) (Tw hw 73 rfl) (Tw hw 74 rfl) (Tw hw 71 rfl) (Tw hw 75 rfl) (by decide) [(.int c_1530), (.int c_1531), (.int c_1532), (.int c_1533), (.int (3 : Int32))] [] (Con.pay (W := 0) (own_at3 l Z a0 hw h2434 n0 S2602.old c_1530 c_1531 c_1532 c_1533 u16_c_1533) (Tw hw 75 rfl) (Tw hw 71 rfl) (by decide) (by decide)) (lenOf own_pd_40 rfl) rfl (Nle rfl) (by decide) (by decide) Wrs.nil ?_
            intro v2605 T2606 h2607 L2608 S2609 q2610 K2611
            obtain ⟨rfl, e_q2610⟩ := q2610
            obtain rfl := e_q2610.symm
            show Go p e below _ T2606 (mkF m 313 #[.val (.int p0), .val (.int p1), .val (.int p2), .val (.int p3), .val (.int c_1530), .val (.int c_1531), .val (.int c_1532), .val (.int c_1533), .val (.int (4 : Int32)), .val (.int (0 : Int32)), .val (.ref b2382), .val (.ref b2420), .val (.int (3 : Int32)), .val (.int (1 : Int32)), .unset] [(.int c_1533)])
            refine S2609.scall 316 (hb hby at_313) (by rw [hml]; rfl) (Tw hw 76 rfl) (Tw hw 77 rfl) (Tw hw 71 rfl) (Tw hw 78 rfl) (by decide) [(.int c_1533)] [] (Con.pay (W := 0) (own_dig0 l Z a0 hw h2434 n0 S2609.old c_1533 nd3) (Tw hw 78 rfl) (Tw hw 71 rfl) (by decide) (by decide)) (lenOf own_pd_31 rfl) rfl (Nle rfl) (by decide) (by decide) Wrs.nil ?_
            intro v2612 T2613 h2614 L2615 S2616 q2617 K2618
            obtain ⟨rfl, e_q2617⟩ := q2617
            obtain rfl := e_q2617.symm
            show Go p e below _ T2613 (mkF m 316 #[.val (.int p0), .val (.int p1), .val (.int p2), .val (.int p3), .val (.int c_1530), .val (.int c_1531), .val (.int c_1532), .val (.int c_1533), .val (.int (4 : Int32)), .val (.int (0 : Int32)), .val (.ref b2382), .val (.ref b2420), .val (.int (3 : Int32)), .val (.int (1 : Int32)), .unset] [(.int (0 : Int32))])
            refine S2616.ifN 319 (hb hby at_316) (zNeF (by decide)) ?_
            refine S2616.iconst 320 (1 : Int32) (hb hby at_319) ?_
            refine S2616.goto 324 (hb hby at_320) ?_
            refine S2616.istore 326 #[.val (.int p0), .val (.int p1), .val (.int p2), .val (.int p3), .val (.int c_1530), .val (.int c_1531), .val (.int c_1532), .val (.int c_1533), .val (.int (4 : Int32)), .val (.int (0 : Int32)), .val (.ref b2382), .val (.ref b2420), .val (.int (3 : Int32)), .val (.int (1 : Int32)), .val (.int (1 : Int32))] (hb hby at_324) rfl ?_
            refine S2616.iload 328 (hb hby at_326) rfl ?_
            refine S2616.ifN 331 (hb hby at_328) (zEqF (by decide)) ?_
            refine S2616.iload 333 (hb hby at_331) rfl ?_
            refine S2616.ifN 336 (hb hby at_333) (zEqF (by decide)) ?_
            refine S2616.iconst 337 (1 : Int32) (hb hby at_336) ?_
            refine S2616.goto 341 (hb hby at_337) ?_
            exact S2616.retN (t := .boolean) (hb hby at_341) hret (by decide) (by decide) (by decide) rfl
          · skip
            show Go p e below _ T2445 (mkF m 188 #[.val (.int p0), .val (.int p1), .val (.int p2), .val (.int p3), .val (.int c_1530), .val (.int c_1531), .val (.int c_1532), .val (.int c_1533), .val (.int (4 : Int32)), .val (.int (0 : Int32)), .val (.ref b2382), .val (.ref b2420), .unset, .unset, .unset] [(.int (4 : Int32))])
            refine S2448.istore 190 #[.val (.int p0), .val (.int p1), .val (.int p2), .val (.int p3), .val (.int c_1530), .val (.int c_1531), .val (.int c_1532), .val (.int c_1533), .val (.int (4 : Int32)), .val (.int (0 : Int32)), .val (.ref b2382), .val (.ref b2420), .val (.int (4 : Int32)), .unset, .unset] (hb hby at_188) rfl ?_
            refine S2448.iload 192 (hb hby at_190) rfl ?_
            refine S2448.iload 194 (hb hby at_192) rfl ?_
            refine S2448.icmpY 210 (hb hby at_194) (qLtT (by decide)) ?_
            refine S2448.iload 212 (hb hby at_210) rfl ?_
            refine S2448.iload 214 (hb hby at_212) rfl ?_
            refine S2448.icmpN 217 (hb hby at_214) (qLtF (by decide)) ?_
            refine S2448.iload 219 (hb hby at_217) rfl ?_
            refine S2448.iload 221 (hb hby at_219) rfl ?_
            refine S2448.icmpY 226 (hb hby at_221) (qLeT (by decide)) ?_
            refine S2448.iconst 227 (0 : Int32) (hb hby at_226) ?_
            refine S2448.iload 229 (hb hby at_227) rfl ?_
            refine S2448.iload 231 (hb hby at_229) rfl ?_
            refine S2448.iload 233 (hb hby at_231) rfl ?_
            refine S2448.iload 235 (hb hby at_233) rfl ?_
            refine S2448.scall 238 (hb hby at_235) (by rw [hml]; rfl) (Tw hw 69 rfl) (Tw hw 70 rfl) (Tw hw 71 rfl) (Tw hw 72 rfl) (by decide) [(.int (0 : Int32)), (.int c_1530), (.int (0 : Int32)), (.int (4 : Int32)), (.int (4 : Int32))] [] (Con.pay (W := 0) (own_ok l Z a0 hw h2434 n0 S2448.old (0 : Int32) c_1530 (0 : Int32) (4 : Int32) (4 : Int32) (fun _ _ _ => d4_0)) (Tw hw 72 rfl) (Tw hw 71 rfl) (by decide) (by decide)) (lenOf own_pd_39 rfl) rfl (Nle rfl) (by decide) (by decide) Wrs.nil ?_
            intro v2619 T2620 h2621 L2622 S2623 q2624 K2625
            obtain ⟨rfl, e_q2624⟩ := q2624
            obtain rfl := e_q2624.symm
            show Go p e below _ T2620 (mkF m 238 #[.val (.int p0), .val (.int p1), .val (.int p2), .val (.int p3), .val (.int c_1530), .val (.int c_1531), .val (.int c_1532), .val (.int c_1533), .val (.int (4 : Int32)), .val (.int (0 : Int32)), .val (.ref b2382), .val (.ref b2420), .val (.int (4 : Int32)), .unset, .unset] [(.int (1 : Int32))])
            refine S2623.ifN 241 (hb hby at_238) (zEqF (by decide)) ?_
            refine S2623.iconst 242 (1 : Int32) (hb hby at_241) ?_
            refine S2623.iload 244 (hb hby at_242) rfl ?_
            refine S2623.iload 246 (hb hby at_244) rfl ?_
            refine S2623.iload 248 (hb hby at_246) rfl ?_
            refine S2623.iload 250 (hb hby at_248) rfl ?_
            refine S2623.scall 253 (hb hby at_250) (by rw [hml]; rfl) (Tw hw 69 rfl) (Tw hw 70 rfl) (Tw hw 71 rfl) (Tw hw 72 rfl) (by decide) [(.int (1 : Int32)), (.int c_1531), (.int (0 : Int32)), (.int (4 : Int32)), (.int (4 : Int32))] [] (Con.pay (W := 0) (own_ok l Z a0 hw h2434 n0 S2623.old (1 : Int32) c_1531 (0 : Int32) (4 : Int32) (4 : Int32) (fun _ _ _ => d4_1)) (Tw hw 72 rfl) (Tw hw 71 rfl) (by decide) (by decide)) (lenOf own_pd_39 rfl) rfl (Nle rfl) (by decide) (by decide) Wrs.nil ?_
            intro v2626 T2627 h2628 L2629 S2630 q2631 K2632
            obtain ⟨rfl, e_q2631⟩ := q2631
            obtain rfl := e_q2631.symm
            show Go p e below _ T2627 (mkF m 253 #[.val (.int p0), .val (.int p1), .val (.int p2), .val (.int p3), .val (.int c_1530), .val (.int c_1531), .val (.int c_1532), .val (.int c_1533), .val (.int (4 : Int32)), .val (.int (0 : Int32)), .val (.ref b2382), .val (.ref b2420), .val (.int (4 : Int32)), .unset, .unset] [(.int (1 : Int32))])
            refine S2630.ifN 256 (hb hby at_253) (zEqF (by decide)) ?_
            refine S2630.iconst 257 (2 : Int32) (hb hby at_256) ?_
            refine S2630.iload 259 (hb hby at_257) rfl ?_
            refine S2630.iload 261 (hb hby at_259) rfl ?_
            refine S2630.iload 263 (hb hby at_261) rfl ?_
            refine S2630.iload 265 (hb hby at_263) rfl ?_
            refine S2630.scall 268 (hb hby at_265) (by rw [hml]; rfl) (Tw hw 69 rfl) (Tw hw 70 rfl) (Tw hw 71 rfl) (Tw hw 72 rfl) (by decide) [(.int (2 : Int32)), (.int c_1532), (.int (0 : Int32)), (.int (4 : Int32)), (.int (4 : Int32))] [] (Con.pay (W := 0) (own_ok l Z a0 hw h2434 n0 S2630.old (2 : Int32) c_1532 (0 : Int32) (4 : Int32) (4 : Int32) (fun _ _ _ => d4_2)) (Tw hw 72 rfl) (Tw hw 71 rfl) (by decide) (by decide)) (lenOf own_pd_39 rfl) rfl (Nle rfl) (by decide) (by decide) Wrs.nil ?_
            intro v2633 T2634 h2635 L2636 S2637 q2638 K2639
            obtain ⟨rfl, e_q2638⟩ := q2638
            obtain rfl := e_q2638.symm
            show Go p e below _ T2634 (mkF m 268 #[.val (.int p0), .val (.int p1), .val (.int p2), .val (.int p3), .val (.int c_1530), .val (.int c_1531), .val (.int c_1532), .val (.int c_1533), .val (.int (4 : Int32)), .val (.int (0 : Int32)), .val (.ref b2382), .val (.ref b2420), .val (.int (4 : Int32)), .unset, .unset] [(.int (1 : Int32))])
            refine S2637.ifN 271 (hb hby at_268) (zEqF (by decide)) ?_
            refine S2637.iconst 272 (3 : Int32) (hb hby at_271) ?_
            refine S2637.iload 274 (hb hby at_272) rfl ?_
            refine S2637.iload 276 (hb hby at_274) rfl ?_
            refine S2637.iload 278 (hb hby at_276) rfl ?_
            refine S2637.iload 280 (hb hby at_278) rfl ?_
            refine S2637.scall 283 (hb hby at_280) (by rw [hml]; rfl) (Tw hw 69 rfl) (Tw hw 70 rfl) (Tw hw 71 rfl) (Tw hw 72 rfl) (by decide) [(.int (3 : Int32)), (.int c_1533), (.int (0 : Int32)), (.int (4 : Int32)), (.int (4 : Int32))] [] (Con.pay (W := 0) (own_ok l Z a0 hw h2434 n0 S2637.old (3 : Int32) c_1533 (0 : Int32) (4 : Int32) (4 : Int32) (fun _ _ _ => d4_3)) (Tw hw 72 rfl) (Tw hw 71 rfl) (by decide) (by decide)) (lenOf own_pd_39 rfl) rfl (Nle rfl) (by decide) (by decide) Wrs.nil ?_
            intro v2640 T2641 h2642 L2643 S2644 q2645 K2646
            obtain ⟨rfl, e_q2645⟩ := q2645
            obtain rfl := e_q2645.symm
            show Go p e below _ T2641 (mkF m 283 #[.val (.int p0), .val (.int p1), .val (.int p2), .val (.int p3), .val (.int c_1530), .val (.int c_1531), .val (.int c_1532), .val (.int c_1533), .val (.int (4 : Int32)), .val (.int (0 : Int32)), .val (.ref b2382), .val (.ref b2420), .val (.int (4 : Int32)), .unset, .unset] [(.int (1 : Int32))])
            refine S2644.ifN 286 (hb hby at_283) (zEqF (by decide)) ?_
            refine S2644.iconst 287 (1 : Int32) (hb hby at_286) ?_
            refine S2644.goto 291 (hb hby at_287) ?_
            refine S2644.istore 293 #[.val (.int p0), .val (.int p1), .val (.int p2), .val (.int p3), .val (.int c_1530), .val (.int c_1531), .val (.int c_1532), .val (.int c_1533), .val (.int (4 : Int32)), .val (.int (0 : Int32)), .val (.ref b2382), .val (.ref b2420), .val (.int (4 : Int32)), .val (.int (1 : Int32)), .unset] (hb hby at_291) rfl ?_
            refine S2644.iload 295 (hb hby at_293) rfl ?_
            refine S2644.iload 297 (hb hby at_295) rfl ?_
            refine S2644.icmpY 319 (hb hby at_297) (qEqT (by decide)) ?_
            refine S2644.iconst 320 (1 : Int32) (hb hby at_319) ?_
            refine S2644.goto 324 (hb hby at_320) ?_
            refine S2644.istore 326 #[.val (.int p0), .val (.int p1), .val (.int p2), .val (.int p3), .val (.int c_1530), .val (.int c_1531), .val (.int c_1532), .val (.int c_1533), .val (.int (4 : Int32)), .val (.int (0 : Int32)), .val (.ref b2382), .val (.ref b2420), .val (.int (4 : Int32)), .val (.int (1 : Int32)), .val (.int (1 : Int32))] (hb hby at_324) rfl ?_
            refine S2644.iload 328 (hb hby at_326) rfl ?_
            refine S2644.ifN 331 (hb hby at_328) (zEqF (by decide)) ?_
            refine S2644.iload 333 (hb hby at_331) rfl ?_
            refine S2644.ifN 336 (hb hby at_333) (zEqF (by decide)) ?_
            refine S2644.iconst 337 (1 : Int32) (hb hby at_336) ?_
            refine S2644.goto 341 (hb hby at_337) ?_
            exact S2644.retN (t := .boolean) (hb hby at_341) hret (by decide) (by decide) (by decide) rfl
        · skip
          refine S2436.aload 183 (hb hby at_181) rfl rfl ?_
          refine S2436.iload 185 (hb hby at_183) rfl ?_
          refine S2436.scall 188 (hb hby at_185) (by rw [hml]; rfl) (Tw hw 33 rfl) (Tw hw 34 rfl) (Tw hw 35 rfl) (Tw hw 36 rfl) (by decide) [(.ref b2420), (.int (1 : Int32))] [] (Con.pay (W := 0) (own_de_4_1 l Z a0 hw cm us sf h2434 n0 S2436.old b2420 t2439 c_1530 c_1531 c_1532 c_1533 Z2441) (Tw hw 36 rfl) (Tw hw 35 rfl) (by decide) (by decide)) (lenOf own_pd_38 rfl) rfl (Nle rfl) (by decide) (by decide) Wrs.nil ?_
          intro v2647 T2648 h2649 L2650 S2651 q2652 K2653
          obtain ⟨hq_q2652, e_q2652⟩ := q2652
          obtain rfl := e_q2652.symm
          rcases hq_q2652 with ⟨rfl, nd1⟩ | ⟨rfl, d2_1, nd2⟩ | ⟨rfl, d3_1, d3_2, nd3⟩ | ⟨rfl, d4_1, d4_2, d4_3⟩
          · skip
            show Go p e below _ T2648 (mkF m 188 #[.val (.int p0), .val (.int p1), .val (.int p2), .val (.int p3), .val (.int c_1530), .val (.int c_1531), .val (.int c_1532), .val (.int c_1533), .val (.int (4 : Int32)), .val (.int (1 : Int32)), .val (.ref b2382), .val (.ref b2420), .unset, .unset, .unset] [(.int (1 : Int32))])
            refine S2651.istore 190 #[.val (.int p0), .val (.int p1), .val (.int p2), .val (.int p3), .val (.int c_1530), .val (.int c_1531), .val (.int c_1532), .val (.int c_1533), .val (.int (4 : Int32)), .val (.int (1 : Int32)), .val (.ref b2382), .val (.ref b2420), .val (.int (1 : Int32)), .unset, .unset] (hb hby at_188) rfl ?_
            refine S2651.iload 192 (hb hby at_190) rfl ?_
            refine S2651.iload 194 (hb hby at_192) rfl ?_
            refine S2651.icmpY 210 (hb hby at_194) (qLtT (by decide)) ?_
            refine S2651.iload 212 (hb hby at_210) rfl ?_
            refine S2651.iload 214 (hb hby at_212) rfl ?_
            refine S2651.icmpN 217 (hb hby at_214) (qLtF (by decide)) ?_
            refine S2651.iload 219 (hb hby at_217) rfl ?_
            refine S2651.iload 221 (hb hby at_219) rfl ?_
            refine S2651.icmpY 226 (hb hby at_221) (qLeT (by decide)) ?_
            refine S2651.iconst 227 (0 : Int32) (hb hby at_226) ?_
            refine S2651.iload 229 (hb hby at_227) rfl ?_
            refine S2651.iload 231 (hb hby at_229) rfl ?_
            refine S2651.iload 233 (hb hby at_231) rfl ?_
            refine S2651.iload 235 (hb hby at_233) rfl ?_
            refine S2651.scall 238 (hb hby at_235) (by rw [hml]; rfl) (Tw hw 69 rfl) (Tw hw 70 rfl) (Tw hw 71 rfl) (Tw hw 72 rfl) (by decide) [(.int (0 : Int32)), (.int c_1530), (.int (1 : Int32)), (.int (1 : Int32)), (.int (4 : Int32))] [] (Con.pay (W := 0) (own_ok l Z a0 hw h2434 n0 S2651.old (0 : Int32) c_1530 (1 : Int32) (1 : Int32) (4 : Int32) (fun _ q _ => absurd (by decide) q)) (Tw hw 72 rfl) (Tw hw 71 rfl) (by decide) (by decide)) (lenOf own_pd_39 rfl) rfl (Nle rfl) (by decide) (by decide) Wrs.nil ?_
            intro v2654 T2655 h2656 L2657 S2658 q2659 K2660
            obtain ⟨rfl, e_q2659⟩ := q2659
            obtain rfl := e_q2659.symm
            show Go p e below _ T2655 (mkF m 238 #[.val (.int p0), .val (.int p1), .val (.int p2), .val (.int p3), .val (.int c_1530), .val (.int c_1531), .val (.int c_1532), .val (.int c_1533), .val (.int (4 : Int32)), .val (.int (1 : Int32)), .val (.ref b2382), .val (.ref b2420), .val (.int (1 : Int32)), .unset, .unset] [(.int (1 : Int32))])
            refine S2658.ifN 241 (hb hby at_238) (zEqF (by decide)) ?_
            refine S2658.iconst 242 (1 : Int32) (hb hby at_241) ?_
            refine S2658.iload 244 (hb hby at_242) rfl ?_
            refine S2658.iload 246 (hb hby at_244) rfl ?_
            refine S2658.iload 248 (hb hby at_246) rfl ?_
            refine S2658.iload 250 (hb hby at_248) rfl ?_
            refine S2658.scall 253 (hb hby at_250) (by rw [hml]; rfl) (Tw hw 69 rfl) (Tw hw 70 rfl) (Tw hw 71 rfl) (Tw hw 72 rfl) (by decide) [(.int (1 : Int32)), (.int c_1531), (.int (1 : Int32)), (.int (1 : Int32)), (.int (4 : Int32))] [] (Con.pay (W := 0) (own_ok l Z a0 hw h2434 n0 S2658.old (1 : Int32) c_1531 (1 : Int32) (1 : Int32) (4 : Int32) (fun _ _ q => absurd q (by decide))) (Tw hw 72 rfl) (Tw hw 71 rfl) (by decide) (by decide)) (lenOf own_pd_39 rfl) rfl (Nle rfl) (by decide) (by decide) Wrs.nil ?_
            intro v2661 T2662 h2663 L2664 S2665 q2666 K2667
            obtain ⟨rfl, e_q2666⟩ := q2666
            obtain rfl := e_q2666.symm
            show Go p e below _ T2662 (mkF m 253 #[.val (.int p0), .val (.int p1), .val (.int p2), .val (.int p3), .val (.int c_1530), .val (.int c_1531), .val (.int c_1532), .val (.int c_1533), .val (.int (4 : Int32)), .val (.int (1 : Int32)), .val (.ref b2382), .val (.ref b2420), .val (.int (1 : Int32)), .unset, .unset] [(.int (1 : Int32))])
            refine S2665.ifN 256 (hb hby at_253) (zEqF (by decide)) ?_
            refine S2665.iconst 257 (2 : Int32) (hb hby at_256) ?_
            refine S2665.iload 259 (hb hby at_257) rfl ?_
            refine S2665.iload 261 (hb hby at_259) rfl ?_
            refine S2665.iload 263 (hb hby at_261) rfl ?_
            refine S2665.iload 265 (hb hby at_263) rfl ?_
            refine S2665.scall 268 (hb hby at_265) (by rw [hml]; rfl) (Tw hw 69 rfl) (Tw hw 70 rfl) (Tw hw 71 rfl) (Tw hw 72 rfl) (by decide) [(.int (2 : Int32)), (.int c_1532), (.int (1 : Int32)), (.int (1 : Int32)), (.int (4 : Int32))] [] (Con.pay (W := 0) (own_ok l Z a0 hw h2434 n0 S2665.old (2 : Int32) c_1532 (1 : Int32) (1 : Int32) (4 : Int32) (fun _ _ q => absurd q (by decide))) (Tw hw 72 rfl) (Tw hw 71 rfl) (by decide) (by decide)) (lenOf own_pd_39 rfl) rfl (Nle rfl) (by decide) (by decide) Wrs.nil ?_
            intro v2668 T2669 h2670 L2671 S2672 q2673 K2674
            obtain ⟨rfl, e_q2673⟩ := q2673
            obtain rfl := e_q2673.symm
            show Go p e below _ T2669 (mkF m 268 #[.val (.int p0), .val (.int p1), .val (.int p2), .val (.int p3), .val (.int c_1530), .val (.int c_1531), .val (.int c_1532), .val (.int c_1533), .val (.int (4 : Int32)), .val (.int (1 : Int32)), .val (.ref b2382), .val (.ref b2420), .val (.int (1 : Int32)), .unset, .unset] [(.int (1 : Int32))])
            refine S2672.ifN 271 (hb hby at_268) (zEqF (by decide)) ?_
            refine S2672.iconst 272 (3 : Int32) (hb hby at_271) ?_
            refine S2672.iload 274 (hb hby at_272) rfl ?_
            refine S2672.iload 276 (hb hby at_274) rfl ?_
            refine S2672.iload 278 (hb hby at_276) rfl ?_
            refine S2672.iload 280 (hb hby at_278) rfl ?_
            refine S2672.scall 283 (hb hby at_280) (by rw [hml]; rfl) (Tw hw 69 rfl) (Tw hw 70 rfl) (Tw hw 71 rfl) (Tw hw 72 rfl) (by decide) [(.int (3 : Int32)), (.int c_1533), (.int (1 : Int32)), (.int (1 : Int32)), (.int (4 : Int32))] [] (Con.pay (W := 0) (own_ok l Z a0 hw h2434 n0 S2672.old (3 : Int32) c_1533 (1 : Int32) (1 : Int32) (4 : Int32) (fun _ _ q => absurd q (by decide))) (Tw hw 72 rfl) (Tw hw 71 rfl) (by decide) (by decide)) (lenOf own_pd_39 rfl) rfl (Nle rfl) (by decide) (by decide) Wrs.nil ?_
            intro v2675 T2676 h2677 L2678 S2679 q2680 K2681
            obtain ⟨rfl, e_q2680⟩ := q2680
            obtain rfl := e_q2680.symm
            show Go p e below _ T2676 (mkF m 283 #[.val (.int p0), .val (.int p1), .val (.int p2), .val (.int p3), .val (.int c_1530), .val (.int c_1531), .val (.int c_1532), .val (.int c_1533), .val (.int (4 : Int32)), .val (.int (1 : Int32)), .val (.ref b2382), .val (.ref b2420), .val (.int (1 : Int32)), .unset, .unset] [(.int (1 : Int32))])
            refine S2679.ifN 286 (hb hby at_283) (zEqF (by decide)) ?_
            refine S2679.iconst 287 (1 : Int32) (hb hby at_286) ?_
            refine S2679.goto 291 (hb hby at_287) ?_
            refine S2679.istore 293 #[.val (.int p0), .val (.int p1), .val (.int p2), .val (.int p3), .val (.int c_1530), .val (.int c_1531), .val (.int c_1532), .val (.int c_1533), .val (.int (4 : Int32)), .val (.int (1 : Int32)), .val (.ref b2382), .val (.ref b2420), .val (.int (1 : Int32)), .val (.int (1 : Int32)), .unset] (hb hby at_291) rfl ?_
            refine S2679.iload 295 (hb hby at_293) rfl ?_
            refine S2679.iload 297 (hb hby at_295) rfl ?_
            refine S2679.icmpN 300 (hb hby at_297) (qEqF (by decide)) ?_
            refine S2679.iload 302 (hb hby at_300) rfl ?_
            refine S2679.iload 304 (hb hby at_302) rfl ?_
            refine S2679.iload 306 (hb hby at_304) rfl ?_
            refine S2679.iload 308 (hb hby at_306) rfl ?_
            refine S2679.iload 310 (hb hby at_308) rfl ?_
            refine S2679.scall 313 (hb hby at_310) (by rw [hml]; rfl) (Tw hw 73 rfl) (Tw hw 74 rfl) (Tw hw 71 rfl) (Tw hw 75 rfl) (by decide) [(.int c_1530), (.int c_1531), (.int c_1532), (.int c_1533), (.int (1 : Int32))] [] (Con.pay (W := 0) (own_at1 l Z a0 hw h2434 n0 S2679.old c_1530 c_1531 c_1532 c_1533 u16_c_1531) (Tw hw 75 rfl) (Tw hw 71 rfl) (by decide) (by decide)) (lenOf own_pd_40 rfl) rfl (Nle rfl) (by decide) (by decide) Wrs.nil ?_
            intro v2682 T2683 h2684 L2685 S2686 q2687 K2688
            obtain ⟨rfl, e_q2687⟩ := q2687
            obtain rfl := e_q2687.symm
            show Go p e below _ T2683 (mkF m 313 #[.val (.int p0), .val (.int p1), .val (.int p2), .val (.int p3), .val (.int c_1530), .val (.int c_1531), .val (.int c_1532), .val (.int c_1533), .val (.int (4 : Int32)), .val (.int (1 : Int32)), .val (.ref b2382), .val (.ref b2420), .val (.int (1 : Int32)), .val (.int (1 : Int32)), .unset] [(.int c_1531)])
            refine S2686.scall 316 (hb hby at_313) (by rw [hml]; rfl) (Tw hw 76 rfl) (Tw hw 77 rfl) (Tw hw 71 rfl) (Tw hw 78 rfl) (by decide) [(.int c_1531)] [] (Con.pay (W := 0) (own_dig0 l Z a0 hw h2434 n0 S2686.old c_1531 nd1) (Tw hw 78 rfl) (Tw hw 71 rfl) (by decide) (by decide)) (lenOf own_pd_31 rfl) rfl (Nle rfl) (by decide) (by decide) Wrs.nil ?_
            intro v2689 T2690 h2691 L2692 S2693 q2694 K2695
            obtain ⟨rfl, e_q2694⟩ := q2694
            obtain rfl := e_q2694.symm
            show Go p e below _ T2690 (mkF m 316 #[.val (.int p0), .val (.int p1), .val (.int p2), .val (.int p3), .val (.int c_1530), .val (.int c_1531), .val (.int c_1532), .val (.int c_1533), .val (.int (4 : Int32)), .val (.int (1 : Int32)), .val (.ref b2382), .val (.ref b2420), .val (.int (1 : Int32)), .val (.int (1 : Int32)), .unset] [(.int (0 : Int32))])
            refine S2693.ifN 319 (hb hby at_316) (zNeF (by decide)) ?_
            refine S2693.iconst 320 (1 : Int32) (hb hby at_319) ?_
            refine S2693.goto 324 (hb hby at_320) ?_
            refine S2693.istore 326 #[.val (.int p0), .val (.int p1), .val (.int p2), .val (.int p3), .val (.int c_1530), .val (.int c_1531), .val (.int c_1532), .val (.int c_1533), .val (.int (4 : Int32)), .val (.int (1 : Int32)), .val (.ref b2382), .val (.ref b2420), .val (.int (1 : Int32)), .val (.int (1 : Int32)), .val (.int (1 : Int32))] (hb hby at_324) rfl ?_
            refine S2693.iload 328 (hb hby at_326) rfl ?_
            refine S2693.ifN 331 (hb hby at_328) (zEqF (by decide)) ?_
            refine S2693.iload 333 (hb hby at_331) rfl ?_
            refine S2693.ifN 336 (hb hby at_333) (zEqF (by decide)) ?_
            refine S2693.iconst 337 (1 : Int32) (hb hby at_336) ?_
            refine S2693.goto 341 (hb hby at_337) ?_
            exact S2693.retN (t := .boolean) (hb hby at_341) hret (by decide) (by decide) (by decide) rfl
          · skip
            show Go p e below _ T2648 (mkF m 188 #[.val (.int p0), .val (.int p1), .val (.int p2), .val (.int p3), .val (.int c_1530), .val (.int c_1531), .val (.int c_1532), .val (.int c_1533), .val (.int (4 : Int32)), .val (.int (1 : Int32)), .val (.ref b2382), .val (.ref b2420), .unset, .unset, .unset] [(.int (2 : Int32))])
            refine S2651.istore 190 #[.val (.int p0), .val (.int p1), .val (.int p2), .val (.int p3), .val (.int c_1530), .val (.int c_1531), .val (.int c_1532), .val (.int c_1533), .val (.int (4 : Int32)), .val (.int (1 : Int32)), .val (.ref b2382), .val (.ref b2420), .val (.int (2 : Int32)), .unset, .unset] (hb hby at_188) rfl ?_
            refine S2651.iload 192 (hb hby at_190) rfl ?_
            refine S2651.iload 194 (hb hby at_192) rfl ?_
            refine S2651.icmpY 210 (hb hby at_194) (qLtT (by decide)) ?_
            refine S2651.iload 212 (hb hby at_210) rfl ?_
            refine S2651.iload 214 (hb hby at_212) rfl ?_
            refine S2651.icmpN 217 (hb hby at_214) (qLtF (by decide)) ?_
            refine S2651.iload 219 (hb hby at_217) rfl ?_
            refine S2651.iload 221 (hb hby at_219) rfl ?_
            refine S2651.icmpY 226 (hb hby at_221) (qLeT (by decide)) ?_
            refine S2651.iconst 227 (0 : Int32) (hb hby at_226) ?_
            refine S2651.iload 229 (hb hby at_227) rfl ?_
            refine S2651.iload 231 (hb hby at_229) rfl ?_
            refine S2651.iload 233 (hb hby at_231) rfl ?_
            refine S2651.iload 235 (hb hby at_233) rfl ?_
            refine S2651.scall 238 (hb hby at_235) (by rw [hml]; rfl) (Tw hw 69 rfl) (Tw hw 70 rfl) (Tw hw 71 rfl) (Tw hw 72 rfl) (by decide) [(.int (0 : Int32)), (.int c_1530), (.int (1 : Int32)), (.int (2 : Int32)), (.int (4 : Int32))] [] (Con.pay (W := 0) (own_ok l Z a0 hw h2434 n0 S2651.old (0 : Int32) c_1530 (1 : Int32) (2 : Int32) (4 : Int32) (fun _ q _ => absurd (by decide) q)) (Tw hw 72 rfl) (Tw hw 71 rfl) (by decide) (by decide)) (lenOf own_pd_39 rfl) rfl (Nle rfl) (by decide) (by decide) Wrs.nil ?_
            intro v2696 T2697 h2698 L2699 S2700 q2701 K2702
            obtain ⟨rfl, e_q2701⟩ := q2701
            obtain rfl := e_q2701.symm
            show Go p e below _ T2697 (mkF m 238 #[.val (.int p0), .val (.int p1), .val (.int p2), .val (.int p3), .val (.int c_1530), .val (.int c_1531), .val (.int c_1532), .val (.int c_1533), .val (.int (4 : Int32)), .val (.int (1 : Int32)), .val (.ref b2382), .val (.ref b2420), .val (.int (2 : Int32)), .unset, .unset] [(.int (1 : Int32))])
            refine S2700.ifN 241 (hb hby at_238) (zEqF (by decide)) ?_
            refine S2700.iconst 242 (1 : Int32) (hb hby at_241) ?_
            refine S2700.iload 244 (hb hby at_242) rfl ?_
            refine S2700.iload 246 (hb hby at_244) rfl ?_
            refine S2700.iload 248 (hb hby at_246) rfl ?_
            refine S2700.iload 250 (hb hby at_248) rfl ?_
            refine S2700.scall 253 (hb hby at_250) (by rw [hml]; rfl) (Tw hw 69 rfl) (Tw hw 70 rfl) (Tw hw 71 rfl) (Tw hw 72 rfl) (by decide) [(.int (1 : Int32)), (.int c_1531), (.int (1 : Int32)), (.int (2 : Int32)), (.int (4 : Int32))] [] (Con.pay (W := 0) (own_ok l Z a0 hw h2434 n0 S2700.old (1 : Int32) c_1531 (1 : Int32) (2 : Int32) (4 : Int32) (fun _ _ _ => d2_1)) (Tw hw 72 rfl) (Tw hw 71 rfl) (by decide) (by decide)) (lenOf own_pd_39 rfl) rfl (Nle rfl) (by decide) (by decide) Wrs.nil ?_
            intro v2703 T2704 h2705 L2706 S2707 q2708 K2709
            obtain ⟨rfl, e_q2708⟩ := q2708
            obtain rfl := e_q2708.symm
            show Go p e below _ T2704 (mkF m 253 #[.val (.int p0), .val (.int p1), .val (.int p2), .val (.int p3), .val (.int c_1530), .val (.int c_1531), .val (.int c_1532), .val (.int c_1533), .val (.int (4 : Int32)), .val (.int (1 : Int32)), .val (.ref b2382), .val (.ref b2420), .val (.int (2 : Int32)), .unset, .unset] [(.int (1 : Int32))])
            refine S2707.ifN 256 (hb hby at_253) (zEqF (by decide)) ?_
            refine S2707.iconst 257 (2 : Int32) (hb hby at_256) ?_
            refine S2707.iload 259 (hb hby at_257) rfl ?_
            refine S2707.iload 261 (hb hby at_259) rfl ?_
            refine S2707.iload 263 (hb hby at_261) rfl ?_
            refine S2707.iload 265 (hb hby at_263) rfl ?_
            refine S2707.scall 268 (hb hby at_265) (by rw [hml]; rfl) (Tw hw 69 rfl) (Tw hw 70 rfl) (Tw hw 71 rfl) (Tw hw 72 rfl) (by decide) [(.int (2 : Int32)), (.int c_1532), (.int (1 : Int32)), (.int (2 : Int32)), (.int (4 : Int32))] [] (Con.pay (W := 0) (own_ok l Z a0 hw h2434 n0 S2707.old (2 : Int32) c_1532 (1 : Int32) (2 : Int32) (4 : Int32) (fun _ _ q => absurd q (by decide))) (Tw hw 72 rfl) (Tw hw 71 rfl) (by decide) (by decide)) (lenOf own_pd_39 rfl) rfl (Nle rfl) (by decide) (by decide) Wrs.nil ?_
            intro v2710 T2711 h2712 L2713 S2714 q2715 K2716
            obtain ⟨rfl, e_q2715⟩ := q2715
            obtain rfl := e_q2715.symm
            show Go p e below _ T2711 (mkF m 268 #[.val (.int p0), .val (.int p1), .val (.int p2), .val (.int p3), .val (.int c_1530), .val (.int c_1531), .val (.int c_1532), .val (.int c_1533), .val (.int (4 : Int32)), .val (.int (1 : Int32)), .val (.ref b2382), .val (.ref b2420), .val (.int (2 : Int32)), .unset, .unset] [(.int (1 : Int32))])
            refine S2714.ifN 271 (hb hby at_268) (zEqF (by decide)) ?_
            refine S2714.iconst 272 (3 : Int32) (hb hby at_271) ?_
            refine S2714.iload 274 (hb hby at_272) rfl ?_
            refine S2714.iload 276 (hb hby at_274) rfl ?_
            refine S2714.iload 278 (hb hby at_276) rfl ?_
            refine S2714.iload 280 (hb hby at_278) rfl ?_
            refine S2714.scall 283 (hb hby at_280) (by rw [hml]; rfl) (Tw hw 69 rfl) (Tw hw 70 rfl) (Tw hw 71 rfl) (Tw hw 72 rfl) (by decide) [(.int (3 : Int32)), (.int c_1533), (.int (1 : Int32)), (.int (2 : Int32)), (.int (4 : Int32))] [] (Con.pay (W := 0) (own_ok l Z a0 hw h2434 n0 S2714.old (3 : Int32) c_1533 (1 : Int32) (2 : Int32) (4 : Int32) (fun _ _ q => absurd q (by decide))) (Tw hw 72 rfl) (Tw hw 71 rfl) (by decide) (by decide)) (lenOf own_pd_39 rfl) rfl (Nle rfl) (by decide) (by decide) Wrs.nil ?_
            intro v2717 T2718 h2719 L2720 S2721 q2722 K2723
            obtain ⟨rfl, e_q2722⟩ := q2722
            obtain rfl := e_q2722.symm
            show Go p e below _ T2718 (mkF m 283 #[.val (.int p0), .val (.int p1), .val (.int p2), .val (.int p3), .val (.int c_1530), .val (.int c_1531), .val (.int c_1532), .val (.int c_1533), .val (.int (4 : Int32)), .val (.int (1 : Int32)), .val (.ref b2382), .val (.ref b2420), .val (.int (2 : Int32)), .unset, .unset] [(.int (1 : Int32))])
            refine S2721.ifN 286 (hb hby at_283) (zEqF (by decide)) ?_
            refine S2721.iconst 287 (1 : Int32) (hb hby at_286) ?_
            refine S2721.goto 291 (hb hby at_287) ?_
            refine S2721.istore 293 #[.val (.int p0), .val (.int p1), .val (.int p2), .val (.int p3), .val (.int c_1530), .val (.int c_1531), .val (.int c_1532), .val (.int c_1533), .val (.int (4 : Int32)), .val (.int (1 : Int32)), .val (.ref b2382), .val (.ref b2420), .val (.int (2 : Int32)), .val (.int (1 : Int32)), .unset] (hb hby at_291) rfl ?_
            refine S2721.iload 295 (hb hby at_293) rfl ?_
            refine S2721.iload 297 (hb hby at_295) rfl ?_
            refine S2721.icmpN 300 (hb hby at_297) (qEqF (by decide)) ?_
            refine S2721.iload 302 (hb hby at_300) rfl ?_
            refine S2721.iload 304 (hb hby at_302) rfl ?_
            refine S2721.iload 306 (hb hby at_304) rfl ?_
            refine S2721.iload 308 (hb hby at_306) rfl ?_
            refine S2721.iload 310 (hb hby at_308) rfl ?_
            refine S2721.scall 313 (hb hby at_310) (by rw [hml]; rfl) (Tw hw 73 rfl) (Tw hw 74 rfl) (Tw hw 71 rfl) (Tw hw 75 rfl) (by decide) [(.int c_1530), (.int c_1531), (.int c_1532), (.int c_1533), (.int (2 : Int32))] [] (Con.pay (W := 0) (own_at2 l Z a0 hw h2434 n0 S2721.old c_1530 c_1531 c_1532 c_1533 u16_c_1532) (Tw hw 75 rfl) (Tw hw 71 rfl) (by decide) (by decide)) (lenOf own_pd_40 rfl) rfl (Nle rfl) (by decide) (by decide) Wrs.nil ?_
            intro v2724 T2725 h2726 L2727 S2728 q2729 K2730
            obtain ⟨rfl, e_q2729⟩ := q2729
            obtain rfl := e_q2729.symm
            show Go p e below _ T2725 (mkF m 313 #[.val (.int p0), .val (.int p1), .val (.int p2), .val (.int p3), .val (.int c_1530), .val (.int c_1531), .val (.int c_1532), .val (.int c_1533), .val (.int (4 : Int32)), .val (.int (1 : Int32)), .val (.ref b2382), .val (.ref b2420), .val (.int (2 : Int32)), .val (.int (1 : Int32)), .unset] [(.int c_1532)])
            refine S2728.scall 316 (hb hby at_313) (by rw [hml]; rfl) (Tw hw 76 rfl) (Tw hw 77 rfl) (Tw hw 71 rfl) (Tw hw 78 rfl) (by decide) [(.int c_1532)] [] (Con.pay (W := 0) (own_dig0 l Z a0 hw h2434 n0 S2728.old c_1532 nd2) (Tw hw 78 rfl) (Tw hw 71 rfl) (by decide) (by decide)) (lenOf own_pd_31 rfl) rfl (Nle rfl) (by decide) (by decide) Wrs.nil ?_
            intro v2731 T2732 h2733 L2734 S2735 q2736 K2737
            obtain ⟨rfl, e_q2736⟩ := q2736
            obtain rfl := e_q2736.symm
            show Go p e below _ T2732 (mkF m 316 #[.val (.int p0), .val (.int p1), .val (.int p2), .val (.int p3), .val (.int c_1530), .val (.int c_1531), .val (.int c_1532), .val (.int c_1533), .val (.int (4 : Int32)), .val (.int (1 : Int32)), .val (.ref b2382), .val (.ref b2420), .val (.int (2 : Int32)), .val (.int (1 : Int32)), .unset] [(.int (0 : Int32))])
            refine S2735.ifN 319 (hb hby at_316) (zNeF (by decide)) ?_
            refine S2735.iconst 320 (1 : Int32) (hb hby at_319) ?_
            refine S2735.goto 324 (hb hby at_320) ?_
            refine S2735.istore 326 #[.val (.int p0), .val (.int p1), .val (.int p2), .val (.int p3), .val (.int c_1530), .val (.int c_1531), .val (.int c_1532), .val (.int c_1533), .val (.int (4 : Int32)), .val (.int (1 : Int32)), .val (.ref b2382), .val (.ref b2420), .val (.int (2 : Int32)), .val (.int (1 : Int32)), .val (.int (1 : Int32))] (hb hby at_324) rfl ?_
            refine S2735.iload 328 (hb hby at_326) rfl ?_
            refine S2735.ifN 331 (hb hby at_328) (zEqF (by decide)) ?_
            refine S2735.iload 333 (hb hby at_331) rfl ?_
            refine S2735.ifN 336 (hb hby at_333) (zEqF (by decide)) ?_
            refine S2735.iconst 337 (1 : Int32) (hb hby at_336) ?_
            refine S2735.goto 341 (hb hby at_337) ?_
            exact S2735.retN (t := .boolean) (hb hby at_341) hret (by decide) (by decide) (by decide) rfl
          · skip
            show Go p e below _ T2648 (mkF m 188 #[.val (.int p0), .val (.int p1), .val (.int p2), .val (.int p3), .val (.int c_1530), .val (.int c_1531), .val (.int c_1532), .val (.int c_1533), .val (.int (4 : Int32)), .val (.int (1 : Int32)), .val (.ref b2382), .val (.ref b2420), .unset, .unset, .unset] [(.int (3 : Int32))])
            refine S2651.istore 190 #[.val (.int p0), .val (.int p1), .val (.int p2), .val (.int p3), .val (.int c_1530), .val (.int c_1531), .val (.int c_1532), .val (.int c_1533), .val (.int (4 : Int32)), .val (.int (1 : Int32)), .val (.ref b2382), .val (.ref b2420), .val (.int (3 : Int32)), .unset, .unset] (hb hby at_188) rfl ?_
            refine S2651.iload 192 (hb hby at_190) rfl ?_
            refine S2651.iload 194 (hb hby at_192) rfl ?_
            refine S2651.icmpY 210 (hb hby at_194) (qLtT (by decide)) ?_
            refine S2651.iload 212 (hb hby at_210) rfl ?_
            refine S2651.iload 214 (hb hby at_212) rfl ?_
            refine S2651.icmpN 217 (hb hby at_214) (qLtF (by decide)) ?_
            refine S2651.iload 219 (hb hby at_217) rfl ?_
            refine S2651.iload 221 (hb hby at_219) rfl ?_
            refine S2651.icmpY 226 (hb hby at_221) (qLeT (by decide)) ?_
            refine S2651.iconst 227 (0 : Int32) (hb hby at_226) ?_
            refine S2651.iload 229 (hb hby at_227) rfl ?_
            refine S2651.iload 231 (hb hby at_229) rfl ?_
            refine S2651.iload 233 (hb hby at_231) rfl ?_
            refine S2651.iload 235 (hb hby at_233) rfl ?_
            refine S2651.scall 238 (hb hby at_235) (by rw [hml]; rfl) (Tw hw 69 rfl) (Tw hw 70 rfl) (Tw hw 71 rfl) (Tw hw 72 rfl) (by decide) [(.int (0 : Int32)), (.int c_1530), (.int (1 : Int32)), (.int (3 : Int32)), (.int (4 : Int32))] [] (Con.pay (W := 0) (own_ok l Z a0 hw h2434 n0 S2651.old (0 : Int32) c_1530 (1 : Int32) (3 : Int32) (4 : Int32) (fun _ q _ => absurd (by decide) q)) (Tw hw 72 rfl) (Tw hw 71 rfl) (by decide) (by decide)) (lenOf own_pd_39 rfl) rfl (Nle rfl) (by decide) (by decide) Wrs.nil ?_
            intro v2738 T2739 h2740 L2741 S2742 q2743 K2744
            obtain ⟨rfl, e_q2743⟩ := q2743
            obtain rfl := e_q2743.symm
            show Go p e below _ T2739 (mkF m 238 #[.val (.int p0), .val (.int p1), .val (.int p2), .val (.int p3), .val (.int c_1530), .val (.int c_1531), .val (.int c_1532), .val (.int c_1533), .val (.int (4 : Int32)), .val (.int (1 : Int32)), .val (.ref b2382), .val (.ref b2420), .val (.int (3 : Int32)), .unset, .unset] [(.int (1 : Int32))])
            refine S2742.ifN 241 (hb hby at_238) (zEqF (by decide)) ?_
            refine S2742.iconst 242 (1 : Int32) (hb hby at_241) ?_
            refine S2742.iload 244 (hb hby at_242) rfl ?_
            refine S2742.iload 246 (hb hby at_244) rfl ?_
            refine S2742.iload 248 (hb hby at_246) rfl ?_
            refine S2742.iload 250 (hb hby at_248) rfl ?_
            refine S2742.scall 253 (hb hby at_250) (by rw [hml]; rfl) (Tw hw 69 rfl) (Tw hw 70 rfl) (Tw hw 71 rfl) (Tw hw 72 rfl) (by decide) [(.int (1 : Int32)), (.int c_1531), (.int (1 : Int32)), (.int (3 : Int32)), (.int (4 : Int32))] [] (Con.pay (W := 0) (own_ok l Z a0 hw h2434 n0 S2742.old (1 : Int32) c_1531 (1 : Int32) (3 : Int32) (4 : Int32) (fun _ _ _ => d3_1)) (Tw hw 72 rfl) (Tw hw 71 rfl) (by decide) (by decide)) (lenOf own_pd_39 rfl) rfl (Nle rfl) (by decide) (by decide) Wrs.nil ?_
            intro v2745 T2746 h2747 L2748 S2749 q2750 K2751
            obtain ⟨rfl, e_q2750⟩ := q2750
            obtain rfl := e_q2750.symm
            show Go p e below _ T2746 (mkF m 253 #[.val (.int p0), .val (.int p1), .val (.int p2), .val (.int p3), .val (.int c_1530), .val (.int c_1531), .val (.int c_1532), .val (.int c_1533), .val (.int (4 : Int32)), .val (.int (1 : Int32)), .val (.ref b2382), .val (.ref b2420), .val (.int (3 : Int32)), .unset, .unset] [(.int (1 : Int32))])
            refine S2749.ifN 256 (hb hby at_253) (zEqF (by decide)) ?_
            refine S2749.iconst 257 (2 : Int32) (hb hby at_256) ?_
            refine S2749.iload 259 (hb hby at_257) rfl ?_
            refine S2749.iload 261 (hb hby at_259) rfl ?_
            refine S2749.iload 263 (hb hby at_261) rfl ?_
            refine S2749.iload 265 (hb hby at_263) rfl ?_
            refine S2749.scall 268 (hb hby at_265) (by rw [hml]; rfl) (Tw hw 69 rfl) (Tw hw 70 rfl) (Tw hw 71 rfl) (Tw hw 72 rfl) (by decide) [(.int (2 : Int32)), (.int c_1532), (.int (1 : Int32)), (.int (3 : Int32)), (.int (4 : Int32))] [] (Con.pay (W := 0) (own_ok l Z a0 hw h2434 n0 S2749.old (2 : Int32) c_1532 (1 : Int32) (3 : Int32) (4 : Int32) (fun _ _ _ => d3_2)) (Tw hw 72 rfl) (Tw hw 71 rfl) (by decide) (by decide)) (lenOf own_pd_39 rfl) rfl (Nle rfl) (by decide) (by decide) Wrs.nil ?_
            intro v2752 T2753 h2754 L2755 S2756 q2757 K2758
            obtain ⟨rfl, e_q2757⟩ := q2757
            obtain rfl := e_q2757.symm
            show Go p e below _ T2753 (mkF m 268 #[.val (.int p0), .val (.int p1), .val (.int p2), .val (.int p3), .val (.int c_1530), .val (.int c_1531), .val (.int c_1532), .val (.int c_1533), .val (.int (4 : Int32)), .val (.int (1 : Int32)), .val (.ref b2382), .val (.ref b2420), .val (.int (3 : Int32)), .unset, .unset] [(.int (1 : Int32))])
            refine S2756.ifN 271 (hb hby at_268) (zEqF (by decide)) ?_
            refine S2756.iconst 272 (3 : Int32) (hb hby at_271) ?_
            refine S2756.iload 274 (hb hby at_272) rfl ?_
            refine S2756.iload 276 (hb hby at_274) rfl ?_
            refine S2756.iload 278 (hb hby at_276) rfl ?_
            refine S2756.iload 280 (hb hby at_278) rfl ?_
            refine S2756.scall 283 (hb hby at_280) (by rw [hml]; rfl) (Tw hw 69 rfl) (Tw hw 70 rfl) (Tw hw 71 rfl) (Tw hw 72 rfl) (by decide) [(.int (3 : Int32)), (.int c_1533), (.int (1 : Int32)), (.int (3 : Int32)), (.int (4 : Int32))] [] (Con.pay (W := 0) (own_ok l Z a0 hw h2434 n0 S2756.old (3 : Int32) c_1533 (1 : Int32) (3 : Int32) (4 : Int32) (fun _ _ q => absurd q (by decide))) (Tw hw 72 rfl) (Tw hw 71 rfl) (by decide) (by decide)) (lenOf own_pd_39 rfl) rfl (Nle rfl) (by decide) (by decide) Wrs.nil ?_
            intro v2759 T2760 h2761 L2762 S2763 q2764 K2765
            obtain ⟨rfl, e_q2764⟩ := q2764
            obtain rfl := e_q2764.symm
            show Go p e below _ T2760 (mkF m 283 #[.val (.int p0), .val (.int p1), .val (.int p2), .val (.int p3), .val (.int c_1530), .val (.int c_1531), .val (.int c_1532), .val (.int c_1533), .val (.int (4 : Int32)), .val (.int (1 : Int32)), .val (.ref b2382), .val (.ref b2420), .val (.int (3 : Int32)), .unset, .unset] [(.int (1 : Int32))])
            refine S2763.ifN 286 (hb hby at_283) (zEqF (by decide)) ?_
            refine S2763.iconst 287 (1 : Int32) (hb hby at_286) ?_
            refine S2763.goto 291 (hb hby at_287) ?_
            refine S2763.istore 293 #[.val (.int p0), .val (.int p1), .val (.int p2), .val (.int p3), .val (.int c_1530), .val (.int c_1531), .val (.int c_1532), .val (.int c_1533), .val (.int (4 : Int32)), .val (.int (1 : Int32)), .val (.ref b2382), .val (.ref b2420), .val (.int (3 : Int32)), .val (.int (1 : Int32)), .unset] (hb hby at_291) rfl ?_
            refine S2763.iload 295 (hb hby at_293) rfl ?_
            refine S2763.iload 297 (hb hby at_295) rfl ?_
            refine S2763.icmpN 300 (hb hby at_297) (qEqF (by decide)) ?_
            refine S2763.iload 302 (hb hby at_300) rfl ?_
            refine S2763.iload 304 (hb hby at_302) rfl ?_
            refine S2763.iload 306 (hb hby at_304) rfl ?_
            refine S2763.iload 308 (hb hby at_306) rfl ?_
            refine S2763.iload 310 (hb hby at_308) rfl ?_
            refine S2763.scall 313 (hb hby at_310) (by rw [hml]; rfl) (Tw hw 73 rfl) (Tw hw 74 rfl) (Tw hw 71 rfl) (Tw hw 75 rfl) (by decide) [(.int c_1530), (.int c_1531), (.int c_1532), (.int c_1533), (.int (3 : Int32))] [] (Con.pay (W := 0) (own_at3 l Z a0 hw h2434 n0 S2763.old c_1530 c_1531 c_1532 c_1533 u16_c_1533) (Tw hw 75 rfl) (Tw hw 71 rfl) (by decide) (by decide)) (lenOf own_pd_40 rfl) rfl (Nle rfl) (by decide) (by decide) Wrs.nil ?_
            intro v2766 T2767 h2768 L2769 S2770 q2771 K2772
            obtain ⟨rfl, e_q2771⟩ := q2771
            obtain rfl := e_q2771.symm
            show Go p e below _ T2767 (mkF m 313 #[.val (.int p0), .val (.int p1), .val (.int p2), .val (.int p3), .val (.int c_1530), .val (.int c_1531), .val (.int c_1532), .val (.int c_1533), .val (.int (4 : Int32)), .val (.int (1 : Int32)), .val (.ref b2382), .val (.ref b2420), .val (.int (3 : Int32)), .val (.int (1 : Int32)), .unset] [(.int c_1533)])
            refine S2770.scall 316 (hb hby at_313) (by rw [hml]; rfl) (Tw hw 76 rfl) (Tw hw 77 rfl) (Tw hw 71 rfl) (Tw hw 78 rfl) (by decide) [(.int c_1533)] [] (Con.pay (W := 0) (own_dig0 l Z a0 hw h2434 n0 S2770.old c_1533 nd3) (Tw hw 78 rfl) (Tw hw 71 rfl) (by decide) (by decide)) (lenOf own_pd_31 rfl) rfl (Nle rfl) (by decide) (by decide) Wrs.nil ?_
            intro v2773 T2774 h2775 L2776 S2777 q2778 K2779
            obtain ⟨rfl, e_q2778⟩ := q2778
            obtain rfl := e_q2778.symm
            show Go p e below _ T2774 (mkF m 316 #[.val (.int p0), .val (.int p1), .val (.int p2), .val (.int p3), .val (.int c_1530), .val (.int c_1531), .val (.int c_1532), .val (.int c_1533), .val (.int (4 : Int32)), .val (.int (1 : Int32)), .val (.ref b2382), .val (.ref b2420), .val (.int (3 : Int32)), .val (.int (1 : Int32)), .unset] [(.int (0 : Int32))])
            refine S2777.ifN 319 (hb hby at_316) (zNeF (by decide)) ?_
            refine S2777.iconst 320 (1 : Int32) (hb hby at_319) ?_
            refine S2777.goto 324 (hb hby at_320) ?_
            refine S2777.istore 326 #[.val (.int p0), .val (.int p1), .val (.int p2), .val (.int p3), .val (.int c_1530), .val (.int c_1531), .val (.int c_1532), .val (.int c_1533), .val (.int (4 : Int32)), .val (.int (1 : Int32)), .val (.ref b2382), .val (.ref b2420), .val (.int (3 : Int32)), .val (.int (1 : Int32)), .val (.int (1 : Int32))] (hb hby at_324) rfl ?_
            refine S2777.iload 328 (hb hby at_326) rfl ?_
            refine S2777.ifN 331 (hb hby at_328) (zEqF (by decide)) ?_
            refine S2777.iload 333 (hb hby at_331) rfl ?_
            refine S2777.ifN 336 (hb hby at_333) (zEqF (by decide)) ?_
            refine S2777.iconst 337 (1 : Int32) (hb hby at_336) ?_
            refine S2777.goto 341 (hb hby at_337) ?_
            exact S2777.retN (t := .boolean) (hb hby at_341) hret (by decide) (by decide) (by decide) rfl
          · skip
            show Go p e below _ T2648 (mkF m 188 #[.val (.int p0), .val (.int p1), .val (.int p2), .val (.int p3), .val (.int c_1530), .val (.int c_1531), .val (.int c_1532), .val (.int c_1533), .val (.int (4 : Int32)), .val (.int (1 : Int32)), .val (.ref b2382), .val (.ref b2420), .unset, .unset, .unset] [(.int (4 : Int32))])
            refine S2651.istore 190 #[.val (.int p0), .val (.int p1), .val (.int p2), .val (.int p3), .val (.int c_1530), .val (.int c_1531), .val (.int c_1532), .val (.int c_1533), .val (.int (4 : Int32)), .val (.int (1 : Int32)), .val (.ref b2382), .val (.ref b2420), .val (.int (4 : Int32)), .unset, .unset] (hb hby at_188) rfl ?_
            refine S2651.iload 192 (hb hby at_190) rfl ?_
            refine S2651.iload 194 (hb hby at_192) rfl ?_
            refine S2651.icmpY 210 (hb hby at_194) (qLtT (by decide)) ?_
            refine S2651.iload 212 (hb hby at_210) rfl ?_
            refine S2651.iload 214 (hb hby at_212) rfl ?_
            refine S2651.icmpN 217 (hb hby at_214) (qLtF (by decide)) ?_
            refine S2651.iload 219 (hb hby at_217) rfl ?_
            refine S2651.iload 221 (hb hby at_219) rfl ?_
            refine S2651.icmpY 226 (hb hby at_221) (qLeT (by decide)) ?_
            refine S2651.iconst 227 (0 : Int32) (hb hby at_226) ?_
            refine S2651.iload 229 (hb hby at_227) rfl ?_
            refine S2651.iload 231 (hb hby at_229) rfl ?_
            refine S2651.iload 233 (hb hby at_231) rfl ?_
            refine S2651.iload 235 (hb hby at_233) rfl ?_
            refine S2651.scall 238 (hb hby at_235) (by rw [hml]; rfl) (Tw hw 69 rfl) (Tw hw 70 rfl) (Tw hw 71 rfl) (Tw hw 72 rfl) (by decide) [(.int (0 : Int32)), (.int c_1530), (.int (1 : Int32)), (.int (4 : Int32)), (.int (4 : Int32))] [] (Con.pay (W := 0) (own_ok l Z a0 hw h2434 n0 S2651.old (0 : Int32) c_1530 (1 : Int32) (4 : Int32) (4 : Int32) (fun _ q _ => absurd (by decide) q)) (Tw hw 72 rfl) (Tw hw 71 rfl) (by decide) (by decide)) (lenOf own_pd_39 rfl) rfl (Nle rfl) (by decide) (by decide) Wrs.nil ?_
            intro v2780 T2781 h2782 L2783 S2784 q2785 K2786
            obtain ⟨rfl, e_q2785⟩ := q2785
            obtain rfl := e_q2785.symm
            show Go p e below _ T2781 (mkF m 238 #[.val (.int p0), .val (.int p1), .val (.int p2), .val (.int p3), .val (.int c_1530), .val (.int c_1531), .val (.int c_1532), .val (.int c_1533), .val (.int (4 : Int32)), .val (.int (1 : Int32)), .val (.ref b2382), .val (.ref b2420), .val (.int (4 : Int32)), .unset, .unset] [(.int (1 : Int32))])
            refine S2784.ifN 241 (hb hby at_238) (zEqF (by decide)) ?_
            refine S2784.iconst 242 (1 : Int32) (hb hby at_241) ?_
            refine S2784.iload 244 (hb hby at_242) rfl ?_
            refine S2784.iload 246 (hb hby at_244) rfl ?_
            refine S2784.iload 248 (hb hby at_246) rfl ?_
            refine S2784.iload 250 (hb hby at_248) rfl ?_
            refine S2784.scall 253 (hb hby at_250) (by rw [hml]; rfl) (Tw hw 69 rfl) (Tw hw 70 rfl) (Tw hw 71 rfl) (Tw hw 72 rfl) (by decide) [(.int (1 : Int32)), (.int c_1531), (.int (1 : Int32)), (.int (4 : Int32)), (.int (4 : Int32))] [] (Con.pay (W := 0) (own_ok l Z a0 hw h2434 n0 S2784.old (1 : Int32) c_1531 (1 : Int32) (4 : Int32) (4 : Int32) (fun _ _ _ => d4_1)) (Tw hw 72 rfl) (Tw hw 71 rfl) (by decide) (by decide)) (lenOf own_pd_39 rfl) rfl (Nle rfl) (by decide) (by decide) Wrs.nil ?_
            intro v2787 T2788 h2789 L2790 S2791 q2792 K2793
            obtain ⟨rfl, e_q2792⟩ := q2792
            obtain rfl := e_q2792.symm
            show Go p e below _ T2788 (mkF m 253 #[.val (.int p0), .val (.int p1), .val (.int p2), .val (.int p3), .val (.int c_1530), .val (.int c_1531), .val (.int c_1532), .val (.int c_1533), .val (.int (4 : Int32)), .val (.int (1 : Int32)), .val (.ref b2382), .val (.ref b2420), .val (.int (4 : Int32)), .unset, .unset] [(.int (1 : Int32))])
            refine S2791.ifN 256 (hb hby at_253) (zEqF (by decide)) ?_
            refine S2791.iconst 257 (2 : Int32) (hb hby at_256) ?_
            refine S2791.iload 259 (hb hby at_257) rfl ?_
            refine S2791.iload 261 (hb hby at_259) rfl ?_
            refine S2791.iload 263 (hb hby at_261) rfl ?_
            refine S2791.iload 265 (hb hby at_263) rfl ?_
            refine S2791.scall 268 (hb hby at_265) (by rw [hml]; rfl) (Tw hw 69 rfl) (Tw hw 70 rfl) (Tw hw 71 rfl) (Tw hw 72 rfl) (by decide) [(.int (2 : Int32)), (.int c_1532), (.int (1 : Int32)), (.int (4 : Int32)), (.int (4 : Int32))] [] (Con.pay (W := 0) (own_ok l Z a0 hw h2434 n0 S2791.old (2 : Int32) c_1532 (1 : Int32) (4 : Int32) (4 : Int32) (fun _ _ _ => d4_2)) (Tw hw 72 rfl) (Tw hw 71 rfl) (by decide) (by decide)) (lenOf own_pd_39 rfl) rfl (Nle rfl) (by decide) (by decide) Wrs.nil ?_
            intro v2794 T2795 h2796 L2797 S2798 q2799 K2800
            obtain ⟨rfl, e_q2799⟩ := q2799
            obtain rfl := e_q2799.symm
            show Go p e below _ T2795 (mkF m 268 #[.val (.int p0), .val (.int p1), .val (.int p2), .val (.int p3), .val (.int c_1530), .val (.int c_1531), .val (.int c_1532), .val (.int c_1533), .val (.int (4 : Int32)), .val (.int (1 : Int32)), .val (.ref b2382), .val (.ref b2420), .val (.int (4 : Int32)), .unset, .unset] [(.int (1 : Int32))])
            refine S2798.ifN 271 (hb hby at_268) (zEqF (by decide)) ?_
            refine S2798.iconst 272 (3 : Int32) (hb hby at_271) ?_
            refine S2798.iload 274 (hb hby at_272) rfl ?_
            refine S2798.iload 276 (hb hby at_274) rfl ?_
            refine S2798.iload 278 (hb hby at_276) rfl ?_
            refine S2798.iload 280 (hb hby at_278) rfl ?_
            refine S2798.scall 283 (hb hby at_280) (by rw [hml]; rfl) (Tw hw 69 rfl) (Tw hw 70 rfl) (Tw hw 71 rfl) (Tw hw 72 rfl) (by decide) [(.int (3 : Int32)), (.int c_1533), (.int (1 : Int32)), (.int (4 : Int32)), (.int (4 : Int32))] [] (Con.pay (W := 0) (own_ok l Z a0 hw h2434 n0 S2798.old (3 : Int32) c_1533 (1 : Int32) (4 : Int32) (4 : Int32) (fun _ _ _ => d4_3)) (Tw hw 72 rfl) (Tw hw 71 rfl) (by decide) (by decide)) (lenOf own_pd_39 rfl) rfl (Nle rfl) (by decide) (by decide) Wrs.nil ?_
            intro v2801 T2802 h2803 L2804 S2805 q2806 K2807
            obtain ⟨rfl, e_q2806⟩ := q2806
            obtain rfl := e_q2806.symm
            show Go p e below _ T2802 (mkF m 283 #[.val (.int p0), .val (.int p1), .val (.int p2), .val (.int p3), .val (.int c_1530), .val (.int c_1531), .val (.int c_1532), .val (.int c_1533), .val (.int (4 : Int32)), .val (.int (1 : Int32)), .val (.ref b2382), .val (.ref b2420), .val (.int (4 : Int32)), .unset, .unset] [(.int (1 : Int32))])
            refine S2805.ifN 286 (hb hby at_283) (zEqF (by decide)) ?_
            refine S2805.iconst 287 (1 : Int32) (hb hby at_286) ?_
            refine S2805.goto 291 (hb hby at_287) ?_
            refine S2805.istore 293 #[.val (.int p0), .val (.int p1), .val (.int p2), .val (.int p3), .val (.int c_1530), .val (.int c_1531), .val (.int c_1532), .val (.int c_1533), .val (.int (4 : Int32)), .val (.int (1 : Int32)), .val (.ref b2382), .val (.ref b2420), .val (.int (4 : Int32)), .val (.int (1 : Int32)), .unset] (hb hby at_291) rfl ?_
            refine S2805.iload 295 (hb hby at_293) rfl ?_
            refine S2805.iload 297 (hb hby at_295) rfl ?_
            refine S2805.icmpY 319 (hb hby at_297) (qEqT (by decide)) ?_
            refine S2805.iconst 320 (1 : Int32) (hb hby at_319) ?_
            refine S2805.goto 324 (hb hby at_320) ?_
            refine S2805.istore 326 #[.val (.int p0), .val (.int p1), .val (.int p2), .val (.int p3), .val (.int c_1530), .val (.int c_1531), .val (.int c_1532), .val (.int c_1533), .val (.int (4 : Int32)), .val (.int (1 : Int32)), .val (.ref b2382), .val (.ref b2420), .val (.int (4 : Int32)), .val (.int (1 : Int32)), .val (.int (1 : Int32))] (hb hby at_324) rfl ?_
            refine S2805.iload 328 (hb hby at_326) rfl ?_
            refine S2805.ifN 331 (hb hby at_328) (zEqF (by decide)) ?_
            refine S2805.iload 333 (hb hby at_331) rfl ?_
            refine S2805.ifN 336 (hb hby at_333) (zEqF (by decide)) ?_
            refine S2805.iconst 337 (1 : Int32) (hb hby at_336) ?_
            refine S2805.goto 341 (hb hby at_337) ?_
            exact S2805.retN (t := .boolean) (hb hby at_341) hret (by decide) (by decide) (by decide) rfl
        · skip
          refine S2436.aload 183 (hb hby at_181) rfl rfl ?_
          refine S2436.iload 185 (hb hby at_183) rfl ?_
          refine S2436.scall 188 (hb hby at_185) (by rw [hml]; rfl) (Tw hw 33 rfl) (Tw hw 34 rfl) (Tw hw 35 rfl) (Tw hw 36 rfl) (by decide) [(.ref b2420), (.int (2 : Int32))] [] (Con.pay (W := 0) (own_de_4_2 l Z a0 hw cm us sf h2434 n0 S2436.old b2420 t2439 c_1530 c_1531 c_1532 c_1533 Z2441) (Tw hw 36 rfl) (Tw hw 35 rfl) (by decide) (by decide)) (lenOf own_pd_38 rfl) rfl (Nle rfl) (by decide) (by decide) Wrs.nil ?_
          intro v2808 T2809 h2810 L2811 S2812 q2813 K2814
          obtain ⟨hq_q2813, e_q2813⟩ := q2813
          obtain rfl := e_q2813.symm
          rcases hq_q2813 with ⟨rfl, nd2⟩ | ⟨rfl, d3_2, nd3⟩ | ⟨rfl, d4_2, d4_3⟩
          · skip
            show Go p e below _ T2809 (mkF m 188 #[.val (.int p0), .val (.int p1), .val (.int p2), .val (.int p3), .val (.int c_1530), .val (.int c_1531), .val (.int c_1532), .val (.int c_1533), .val (.int (4 : Int32)), .val (.int (2 : Int32)), .val (.ref b2382), .val (.ref b2420), .unset, .unset, .unset] [(.int (2 : Int32))])
            refine S2812.istore 190 #[.val (.int p0), .val (.int p1), .val (.int p2), .val (.int p3), .val (.int c_1530), .val (.int c_1531), .val (.int c_1532), .val (.int c_1533), .val (.int (4 : Int32)), .val (.int (2 : Int32)), .val (.ref b2382), .val (.ref b2420), .val (.int (2 : Int32)), .unset, .unset] (hb hby at_188) rfl ?_
            refine S2812.iload 192 (hb hby at_190) rfl ?_
            refine S2812.iload 194 (hb hby at_192) rfl ?_
            refine S2812.icmpY 210 (hb hby at_194) (qLtT (by decide)) ?_
            refine S2812.iload 212 (hb hby at_210) rfl ?_
            refine S2812.iload 214 (hb hby at_212) rfl ?_
            refine S2812.icmpN 217 (hb hby at_214) (qLtF (by decide)) ?_
            refine S2812.iload 219 (hb hby at_217) rfl ?_
            refine S2812.iload 221 (hb hby at_219) rfl ?_
            refine S2812.icmpY 226 (hb hby at_221) (qLeT (by decide)) ?_
            refine S2812.iconst 227 (0 : Int32) (hb hby at_226) ?_
            refine S2812.iload 229 (hb hby at_227) rfl ?_
            refine S2812.iload 231 (hb hby at_229) rfl ?_
            refine S2812.iload 233 (hb hby at_231) rfl ?_
            refine S2812.iload 235 (hb hby at_233) rfl ?_
            refine S2812.scall 238 (hb hby at_235) (by rw [hml]; rfl) (Tw hw 69 rfl) (Tw hw 70 rfl) (Tw hw 71 rfl) (Tw hw 72 rfl) (by decide) [(.int (0 : Int32)), (.int c_1530), (.int (2 : Int32)), (.int (2 : Int32)), (.int (4 : Int32))] [] (Con.pay (W := 0) (own_ok l Z a0 hw h2434 n0 S2812.old (0 : Int32) c_1530 (2 : Int32) (2 : Int32) (4 : Int32) (fun _ q _ => absurd (by decide) q)) (Tw hw 72 rfl) (Tw hw 71 rfl) (by decide) (by decide)) (lenOf own_pd_39 rfl) rfl (Nle rfl) (by decide) (by decide) Wrs.nil ?_
            intro v2815 T2816 h2817 L2818 S2819 q2820 K2821
            obtain ⟨rfl, e_q2820⟩ := q2820
            obtain rfl := e_q2820.symm
            show Go p e below _ T2816 (mkF m 238 #[.val (.int p0), .val (.int p1), .val (.int p2), .val (.int p3), .val (.int c_1530), .val (.int c_1531), .val (.int c_1532), .val (.int c_1533), .val (.int (4 : Int32)), .val (.int (2 : Int32)), .val (.ref b2382), .val (.ref b2420), .val (.int (2 : Int32)), .unset, .unset] [(.int (1 : Int32))])
            refine S2819.ifN 241 (hb hby at_238) (zEqF (by decide)) ?_
            refine S2819.iconst 242 (1 : Int32) (hb hby at_241) ?_
            refine S2819.iload 244 (hb hby at_242) rfl ?_
            refine S2819.iload 246 (hb hby at_244) rfl ?_
            refine S2819.iload 248 (hb hby at_246) rfl ?_
            refine S2819.iload 250 (hb hby at_248) rfl ?_
            refine S2819.scall 253 (hb hby at_250) (by rw [hml]; rfl) (Tw hw 69 rfl) (Tw hw 70 rfl) (Tw hw 71 rfl) (Tw hw 72 rfl) (by decide) [(.int (1 : Int32)), (.int c_1531), (.int (2 : Int32)), (.int (2 : Int32)), (.int (4 : Int32))] [] (Con.pay (W := 0) (own_ok l Z a0 hw h2434 n0 S2819.old (1 : Int32) c_1531 (2 : Int32) (2 : Int32) (4 : Int32) (fun _ q _ => absurd (by decide) q)) (Tw hw 72 rfl) (Tw hw 71 rfl) (by decide) (by decide)) (lenOf own_pd_39 rfl) rfl (Nle rfl) (by decide) (by decide) Wrs.nil ?_
            intro v2822 T2823 h2824 L2825 S2826 q2827 K2828
            obtain ⟨rfl, e_q2827⟩ := q2827
            obtain rfl := e_q2827.symm
            show Go p e below _ T2823 (mkF m 253 #[.val (.int p0), .val (.int p1), .val (.int p2), .val (.int p3), .val (.int c_1530), .val (.int c_1531), .val (.int c_1532), .val (.int c_1533), .val (.int (4 : Int32)), .val (.int (2 : Int32)), .val (.ref b2382), .val (.ref b2420), .val (.int (2 : Int32)), .unset, .unset] [(.int (1 : Int32))])
            refine S2826.ifN 256 (hb hby at_253) (zEqF (by decide)) ?_
            refine S2826.iconst 257 (2 : Int32) (hb hby at_256) ?_
            refine S2826.iload 259 (hb hby at_257) rfl ?_
            refine S2826.iload 261 (hb hby at_259) rfl ?_
            refine S2826.iload 263 (hb hby at_261) rfl ?_
            refine S2826.iload 265 (hb hby at_263) rfl ?_
            refine S2826.scall 268 (hb hby at_265) (by rw [hml]; rfl) (Tw hw 69 rfl) (Tw hw 70 rfl) (Tw hw 71 rfl) (Tw hw 72 rfl) (by decide) [(.int (2 : Int32)), (.int c_1532), (.int (2 : Int32)), (.int (2 : Int32)), (.int (4 : Int32))] [] (Con.pay (W := 0) (own_ok l Z a0 hw h2434 n0 S2826.old (2 : Int32) c_1532 (2 : Int32) (2 : Int32) (4 : Int32) (fun _ _ q => absurd q (by decide))) (Tw hw 72 rfl) (Tw hw 71 rfl) (by decide) (by decide)) (lenOf own_pd_39 rfl) rfl (Nle rfl) (by decide) (by decide) Wrs.nil ?_
            intro v2829 T2830 h2831 L2832 S2833 q2834 K2835
            obtain ⟨rfl, e_q2834⟩ := q2834
            obtain rfl := e_q2834.symm
            show Go p e below _ T2830 (mkF m 268 #[.val (.int p0), .val (.int p1), .val (.int p2), .val (.int p3), .val (.int c_1530), .val (.int c_1531), .val (.int c_1532), .val (.int c_1533), .val (.int (4 : Int32)), .val (.int (2 : Int32)), .val (.ref b2382), .val (.ref b2420), .val (.int (2 : Int32)), .unset, .unset] [(.int (1 : Int32))])
            refine S2833.ifN 271 (hb hby at_268) (zEqF (by decide)) ?_
            refine S2833.iconst 272 (3 : Int32) (hb hby at_271) ?_
            refine S2833.iload 274 (hb hby at_272) rfl ?_
            refine S2833.iload 276 (hb hby at_274) rfl ?_
            refine S2833.iload 278 (hb hby at_276) rfl ?_
            refine S2833.iload 280 (hb hby at_278) rfl ?_
            refine S2833.scall 283 (hb hby at_280) (by rw [hml]; rfl) (Tw hw 69 rfl) (Tw hw 70 rfl) (Tw hw 71 rfl) (Tw hw 72 rfl) (by decide) [(.int (3 : Int32)), (.int c_1533), (.int (2 : Int32)), (.int (2 : Int32)), (.int (4 : Int32))] [] (Con.pay (W := 0) (own_ok l Z a0 hw h2434 n0 S2833.old (3 : Int32) c_1533 (2 : Int32) (2 : Int32) (4 : Int32) (fun _ _ q => absurd q (by decide))) (Tw hw 72 rfl) (Tw hw 71 rfl) (by decide) (by decide)) (lenOf own_pd_39 rfl) rfl (Nle rfl) (by decide) (by decide) Wrs.nil ?_
            intro v2836 T2837 h2838 L2839 S2840 q2841 K2842
            obtain ⟨rfl, e_q2841⟩ := q2841
            obtain rfl := e_q2841.symm
            show Go p e below _ T2837 (mkF m 283 #[.val (.int p0), .val (.int p1), .val (.int p2), .val (.int p3), .val (.int c_1530), .val (.int c_1531), .val (.int c_1532), .val (.int c_1533), .val (.int (4 : Int32)), .val (.int (2 : Int32)), .val (.ref b2382), .val (.ref b2420), .val (.int (2 : Int32)), .unset, .unset] [(.int (1 : Int32))])
            refine S2840.ifN 286 (hb hby at_283) (zEqF (by decide)) ?_
            refine S2840.iconst 287 (1 : Int32) (hb hby at_286) ?_
            refine S2840.goto 291 (hb hby at_287) ?_
            refine S2840.istore 293 #[.val (.int p0), .val (.int p1), .val (.int p2), .val (.int p3), .val (.int c_1530), .val (.int c_1531), .val (.int c_1532), .val (.int c_1533), .val (.int (4 : Int32)), .val (.int (2 : Int32)), .val (.ref b2382), .val (.ref b2420), .val (.int (2 : Int32)), .val (.int (1 : Int32)), .unset] (hb hby at_291) rfl ?_
            refine S2840.iload 295 (hb hby at_293) rfl ?_
            refine S2840.iload 297 (hb hby at_295) rfl ?_
            refine S2840.icmpN 300 (hb hby at_297) (qEqF (by decide)) ?_
            refine S2840.iload 302 (hb hby at_300) rfl ?_
            refine S2840.iload 304 (hb hby at_302) rfl ?_
            refine S2840.iload 306 (hb hby at_304) rfl ?_
            refine S2840.iload 308 (hb hby at_306) rfl ?_
            refine S2840.iload 310 (hb hby at_308) rfl ?_
            refine S2840.scall 313 (hb hby at_310) (by rw [hml]; rfl) (Tw hw 73 rfl) (Tw hw 74 rfl) (Tw hw 71 rfl) (Tw hw 75 rfl) (by decide) [(.int c_1530), (.int c_1531), (.int c_1532), (.int c_1533), (.int (2 : Int32))] [] (Con.pay (W := 0) (own_at2 l Z a0 hw h2434 n0 S2840.old c_1530 c_1531 c_1532 c_1533 u16_c_1532) (Tw hw 75 rfl) (Tw hw 71 rfl) (by decide) (by decide)) (lenOf own_pd_40 rfl) rfl (Nle rfl) (by decide) (by decide) Wrs.nil ?_
            intro v2843 T2844 h2845 L2846 S2847 q2848 K2849
            obtain ⟨rfl, e_q2848⟩ := q2848
            obtain rfl := e_q2848.symm
            show Go p e below _ T2844 (mkF m 313 #[.val (.int p0), .val (.int p1), .val (.int p2), .val (.int p3), .val (.int c_1530), .val (.int c_1531), .val (.int c_1532), .val (.int c_1533), .val (.int (4 : Int32)), .val (.int (2 : Int32)), .val (.ref b2382), .val (.ref b2420), .val (.int (2 : Int32)), .val (.int (1 : Int32)), .unset] [(.int c_1532)])
            refine S2847.scall 316 (hb hby at_313) (by rw [hml]; rfl) (Tw hw 76 rfl) (Tw hw 77 rfl) (Tw hw 71 rfl) (Tw hw 78 rfl) (by decide) [(.int c_1532)] [] (Con.pay (W := 0) (own_dig0 l Z a0 hw h2434 n0 S2847.old c_1532 nd2) (Tw hw 78 rfl) (Tw hw 71 rfl) (by decide) (by decide)) (lenOf own_pd_31 rfl) rfl (Nle rfl) (by decide) (by decide) Wrs.nil ?_
            intro v2850 T2851 h2852 L2853 S2854 q2855 K2856
            obtain ⟨rfl, e_q2855⟩ := q2855
            obtain rfl := e_q2855.symm
            show Go p e below _ T2851 (mkF m 316 #[.val (.int p0), .val (.int p1), .val (.int p2), .val (.int p3), .val (.int c_1530), .val (.int c_1531), .val (.int c_1532), .val (.int c_1533), .val (.int (4 : Int32)), .val (.int (2 : Int32)), .val (.ref b2382), .val (.ref b2420), .val (.int (2 : Int32)), .val (.int (1 : Int32)), .unset] [(.int (0 : Int32))])
            refine S2854.ifN 319 (hb hby at_316) (zNeF (by decide)) ?_
            refine S2854.iconst 320 (1 : Int32) (hb hby at_319) ?_
            refine S2854.goto 324 (hb hby at_320) ?_
            refine S2854.istore 326 #[.val (.int p0), .val (.int p1), .val (.int p2), .val (.int p3), .val (.int c_1530), .val (.int c_1531), .val (.int c_1532), .val (.int c_1533), .val (.int (4 : Int32)), .val (.int (2 : Int32)), .val (.ref b2382), .val (.ref b2420), .val (.int (2 : Int32)), .val (.int (1 : Int32)), .val (.int (1 : Int32))] (hb hby at_324) rfl ?_
            refine S2854.iload 328 (hb hby at_326) rfl ?_
            refine S2854.ifN 331 (hb hby at_328) (zEqF (by decide)) ?_
            refine S2854.iload 333 (hb hby at_331) rfl ?_
            refine S2854.ifN 336 (hb hby at_333) (zEqF (by decide)) ?_
            refine S2854.iconst 337 (1 : Int32) (hb hby at_336) ?_
            refine S2854.goto 341 (hb hby at_337) ?_
            exact S2854.retN (t := .boolean) (hb hby at_341) hret (by decide) (by decide) (by decide) rfl
          · skip
            show Go p e below _ T2809 (mkF m 188 #[.val (.int p0), .val (.int p1), .val (.int p2), .val (.int p3), .val (.int c_1530), .val (.int c_1531), .val (.int c_1532), .val (.int c_1533), .val (.int (4 : Int32)), .val (.int (2 : Int32)), .val (.ref b2382), .val (.ref b2420), .unset, .unset, .unset] [(.int (3 : Int32))])
            refine S2812.istore 190 #[.val (.int p0), .val (.int p1), .val (.int p2), .val (.int p3), .val (.int c_1530), .val (.int c_1531), .val (.int c_1532), .val (.int c_1533), .val (.int (4 : Int32)), .val (.int (2 : Int32)), .val (.ref b2382), .val (.ref b2420), .val (.int (3 : Int32)), .unset, .unset] (hb hby at_188) rfl ?_
            refine S2812.iload 192 (hb hby at_190) rfl ?_
            refine S2812.iload 194 (hb hby at_192) rfl ?_
            refine S2812.icmpY 210 (hb hby at_194) (qLtT (by decide)) ?_
            refine S2812.iload 212 (hb hby at_210) rfl ?_
            refine S2812.iload 214 (hb hby at_212) rfl ?_
            refine S2812.icmpN 217 (hb hby at_214) (qLtF (by decide)) ?_
            refine S2812.iload 219 (hb hby at_217) rfl ?_
            refine S2812.iload 221 (hb hby at_219) rfl ?_
            refine S2812.icmpY 226 (hb hby at_221) (qLeT (by decide)) ?_
            refine S2812.iconst 227 (0 : Int32) (hb hby at_226) ?_
            refine S2812.iload 229 (hb hby at_227) rfl ?_
            refine S2812.iload 231 (hb hby at_229) rfl ?_
            refine S2812.iload 233 (hb hby at_231) rfl ?_
            refine S2812.iload 235 (hb hby at_233) rfl ?_
            refine S2812.scall 238 (hb hby at_235) (by rw [hml]; rfl) (Tw hw 69 rfl) (Tw hw 70 rfl) (Tw hw 71 rfl) (Tw hw 72 rfl) (by decide) [(.int (0 : Int32)), (.int c_1530), (.int (2 : Int32)), (.int (3 : Int32)), (.int (4 : Int32))] [] (Con.pay (W := 0) (own_ok l Z a0 hw h2434 n0 S2812.old (0 : Int32) c_1530 (2 : Int32) (3 : Int32) (4 : Int32) (fun _ q _ => absurd (by decide) q)) (Tw hw 72 rfl) (Tw hw 71 rfl) (by decide) (by decide)) (lenOf own_pd_39 rfl) rfl (Nle rfl) (by decide) (by decide) Wrs.nil ?_
            intro v2857 T2858 h2859 L2860 S2861 q2862 K2863
            obtain ⟨rfl, e_q2862⟩ := q2862
            obtain rfl := e_q2862.symm
            show Go p e below _ T2858 (mkF m 238 #[.val (.int p0), .val (.int p1), .val (.int p2), .val (.int p3), .val (.int c_1530), .val (.int c_1531), .val (.int c_1532), .val (.int c_1533), .val (.int (4 : Int32)), .val (.int (2 : Int32)), .val (.ref b2382), .val (.ref b2420), .val (.int (3 : Int32)), .unset, .unset] [(.int (1 : Int32))])
            refine S2861.ifN 241 (hb hby at_238) (zEqF (by decide)) ?_
            refine S2861.iconst 242 (1 : Int32) (hb hby at_241) ?_
            refine S2861.iload 244 (hb hby at_242) rfl ?_
            refine S2861.iload 246 (hb hby at_244) rfl ?_
            refine S2861.iload 248 (hb hby at_246) rfl ?_
            refine S2861.iload 250 (hb hby at_248) rfl ?_
            refine S2861.scall 253 (hb hby at_250) (by rw [hml]; rfl) (Tw hw 69 rfl) (Tw hw 70 rfl) (Tw hw 71 rfl) (Tw hw 72 rfl) (by decide) [(.int (1 : Int32)), (.int c_1531), (.int (2 : Int32)), (.int (3 : Int32)), (.int (4 : Int32))] [] (Con.pay (W := 0) (own_ok l Z a0 hw h2434 n0 S2861.old (1 : Int32) c_1531 (2 : Int32) (3 : Int32) (4 : Int32) (fun _ q _ => absurd (by decide) q)) (Tw hw 72 rfl) (Tw hw 71 rfl) (by decide) (by decide)) (lenOf own_pd_39 rfl) rfl (Nle rfl) (by decide) (by decide) Wrs.nil ?_
            intro v2864 T2865 h2866 L2867 S2868 q2869 K2870
            obtain ⟨rfl, e_q2869⟩ := q2869
            obtain rfl := e_q2869.symm
            show Go p e below _ T2865 (mkF m 253 #[.val (.int p0), .val (.int p1), .val (.int p2), .val (.int p3), .val (.int c_1530), .val (.int c_1531), .val (.int c_1532), .val (.int c_1533), .val (.int (4 : Int32)), .val (.int (2 : Int32)), .val (.ref b2382), .val (.ref b2420), .val (.int (3 : Int32)), .unset, .unset] [(.int (1 : Int32))])
            refine S2868.ifN 256 (hb hby at_253) (zEqF (by decide)) ?_
            refine S2868.iconst 257 (2 : Int32) (hb hby at_256) ?_
            refine S2868.iload 259 (hb hby at_257) rfl ?_
            refine S2868.iload 261 (hb hby at_259) rfl ?_
            refine S2868.iload 263 (hb hby at_261) rfl ?_
            refine S2868.iload 265 (hb hby at_263) rfl ?_
            refine S2868.scall 268 (hb hby at_265) (by rw [hml]; rfl) (Tw hw 69 rfl) (Tw hw 70 rfl) (Tw hw 71 rfl) (Tw hw 72 rfl) (by decide) [(.int (2 : Int32)), (.int c_1532), (.int (2 : Int32)), (.int (3 : Int32)), (.int (4 : Int32))] [] (Con.pay (W := 0) (own_ok l Z a0 hw h2434 n0 S2868.old (2 : Int32) c_1532 (2 : Int32) (3 : Int32) (4 : Int32) (fun _ _ _ => d3_2)) (Tw hw 72 rfl) (Tw hw 71 rfl) (by decide) (by decide)) (lenOf own_pd_39 rfl) rfl (Nle rfl) (by decide) (by decide) Wrs.nil ?_
            intro v2871 T2872 h2873 L2874 S2875 q2876 K2877
            obtain ⟨rfl, e_q2876⟩ := q2876
            obtain rfl := e_q2876.symm
            show Go p e below _ T2872 (mkF m 268 #[.val (.int p0), .val (.int p1), .val (.int p2), .val (.int p3), .val (.int c_1530), .val (.int c_1531), .val (.int c_1532), .val (.int c_1533), .val (.int (4 : Int32)), .val (.int (2 : Int32)), .val (.ref b2382), .val (.ref b2420), .val (.int (3 : Int32)), .unset, .unset] [(.int (1 : Int32))])
            refine S2875.ifN 271 (hb hby at_268) (zEqF (by decide)) ?_
            refine S2875.iconst 272 (3 : Int32) (hb hby at_271) ?_
            refine S2875.iload 274 (hb hby at_272) rfl ?_
            refine S2875.iload 276 (hb hby at_274) rfl ?_
            refine S2875.iload 278 (hb hby at_276) rfl ?_
            refine S2875.iload 280 (hb hby at_278) rfl ?_
            refine S2875.scall 283 (hb hby at_280) (by rw [hml]; rfl) (Tw hw 69 rfl) (Tw hw 70 rfl) (Tw hw 71 rfl) (Tw hw 72 rfl) (by decide) [(.int (3 : Int32)), (.int c_1533), (.int (2 : Int32)), (.int (3 : Int32)), (.int (4 : Int32))] [] (Con.pay (W := 0) (own_ok l Z a0 hw h2434 n0 S2875.old (3 : Int32) c_1533 (2 : Int32) (3 : Int32) (4 : Int32) (fun _ _ q => absurd q (by decide))) (Tw hw 72 rfl) (Tw hw 71 rfl) (by decide) (by decide)) (lenOf own_pd_39 rfl) rfl (Nle rfl) (by decide) (by decide) Wrs.nil ?_
            intro v2878 T2879 h2880 L2881 S2882 q2883 K2884
            obtain ⟨rfl, e_q2883⟩ := q2883
            obtain rfl := e_q2883.symm
            show Go p e below _ T2879 (mkF m 283 #[.val (.int p0), .val (.int p1), .val (.int p2), .val (.int p3), .val (.int c_1530), .val (.int c_1531), .val (.int c_1532), .val (.int c_1533), .val (.int (4 : Int32)), .val (.int (2 : Int32)), .val (.ref b2382), .val (.ref b2420), .val (.int (3 : Int32)), .unset, .unset] [(.int (1 : Int32))])
            refine S2882.ifN 286 (hb hby at_283) (zEqF (by decide)) ?_
            refine S2882.iconst 287 (1 : Int32) (hb hby at_286) ?_
            refine S2882.goto 291 (hb hby at_287) ?_
            refine S2882.istore 293 #[.val (.int p0), .val (.int p1), .val (.int p2), .val (.int p3), .val (.int c_1530), .val (.int c_1531), .val (.int c_1532), .val (.int c_1533), .val (.int (4 : Int32)), .val (.int (2 : Int32)), .val (.ref b2382), .val (.ref b2420), .val (.int (3 : Int32)), .val (.int (1 : Int32)), .unset] (hb hby at_291) rfl ?_
            refine S2882.iload 295 (hb hby at_293) rfl ?_
            refine S2882.iload 297 (hb hby at_295) rfl ?_
            refine S2882.icmpN 300 (hb hby at_297) (qEqF (by decide)) ?_
            refine S2882.iload 302 (hb hby at_300) rfl ?_
            refine S2882.iload 304 (hb hby at_302) rfl ?_
            refine S2882.iload 306 (hb hby at_304) rfl ?_
            refine S2882.iload 308 (hb hby at_306) rfl ?_
            refine S2882.iload 310 (hb hby at_308) rfl ?_
            refine S2882.scall 313 (hb hby at_310) (by rw [hml]; rfl) (Tw hw 73 rfl) (Tw hw 74 rfl) (Tw hw 71 rfl) (Tw hw 75 rfl) (by decide) [(.int c_1530), (.int c_1531), (.int c_1532), (.int c_1533), (.int (3 : Int32))] [] (Con.pay (W := 0) (own_at3 l Z a0 hw h2434 n0 S2882.old c_1530 c_1531 c_1532 c_1533 u16_c_1533) (Tw hw 75 rfl) (Tw hw 71 rfl) (by decide) (by decide)) (lenOf own_pd_40 rfl) rfl (Nle rfl) (by decide) (by decide) Wrs.nil ?_
            intro v2885 T2886 h2887 L2888 S2889 q2890 K2891
            obtain ⟨rfl, e_q2890⟩ := q2890
            obtain rfl := e_q2890.symm
            show Go p e below _ T2886 (mkF m 313 #[.val (.int p0), .val (.int p1), .val (.int p2), .val (.int p3), .val (.int c_1530), .val (.int c_1531), .val (.int c_1532), .val (.int c_1533), .val (.int (4 : Int32)), .val (.int (2 : Int32)), .val (.ref b2382), .val (.ref b2420), .val (.int (3 : Int32)), .val (.int (1 : Int32)), .unset] [(.int c_1533)])
            refine S2889.scall 316 (hb hby at_313) (by rw [hml]; rfl) (Tw hw 76 rfl) (Tw hw 77 rfl) (Tw hw 71 rfl) (Tw hw 78 rfl) (by decide) [(.int c_1533)] [] (Con.pay (W := 0) (own_dig0 l Z a0 hw h2434 n0 S2889.old c_1533 nd3) (Tw hw 78 rfl) (Tw hw 71 rfl) (by decide) (by decide)) (lenOf own_pd_31 rfl) rfl (Nle rfl) (by decide) (by decide) Wrs.nil ?_
            intro v2892 T2893 h2894 L2895 S2896 q2897 K2898
            obtain ⟨rfl, e_q2897⟩ := q2897
            obtain rfl := e_q2897.symm
            show Go p e below _ T2893 (mkF m 316 #[.val (.int p0), .val (.int p1), .val (.int p2), .val (.int p3), .val (.int c_1530), .val (.int c_1531), .val (.int c_1532), .val (.int c_1533), .val (.int (4 : Int32)), .val (.int (2 : Int32)), .val (.ref b2382), .val (.ref b2420), .val (.int (3 : Int32)), .val (.int (1 : Int32)), .unset] [(.int (0 : Int32))])
            refine S2896.ifN 319 (hb hby at_316) (zNeF (by decide)) ?_
            refine S2896.iconst 320 (1 : Int32) (hb hby at_319) ?_
            refine S2896.goto 324 (hb hby at_320) ?_
            refine S2896.istore 326 #[.val (.int p0), .val (.int p1), .val (.int p2), .val (.int p3), .val (.int c_1530), .val (.int c_1531), .val (.int c_1532), .val (.int c_1533), .val (.int (4 : Int32)), .val (.int (2 : Int32)), .val (.ref b2382), .val (.ref b2420), .val (.int (3 : Int32)), .val (.int (1 : Int32)), .val (.int (1 : Int32))] (hb hby at_324) rfl ?_
            refine S2896.iload 328 (hb hby at_326) rfl ?_
            refine S2896.ifN 331 (hb hby at_328) (zEqF (by decide)) ?_
            refine S2896.iload 333 (hb hby at_331) rfl ?_
            refine S2896.ifN 336 (hb hby at_333) (zEqF (by decide)) ?_
            refine S2896.iconst 337 (1 : Int32) (hb hby at_336) ?_
            refine S2896.goto 341 (hb hby at_337) ?_
            exact S2896.retN (t := .boolean) (hb hby at_341) hret (by decide) (by decide) (by decide) rfl
          · skip
            show Go p e below _ T2809 (mkF m 188 #[.val (.int p0), .val (.int p1), .val (.int p2), .val (.int p3), .val (.int c_1530), .val (.int c_1531), .val (.int c_1532), .val (.int c_1533), .val (.int (4 : Int32)), .val (.int (2 : Int32)), .val (.ref b2382), .val (.ref b2420), .unset, .unset, .unset] [(.int (4 : Int32))])
            refine S2812.istore 190 #[.val (.int p0), .val (.int p1), .val (.int p2), .val (.int p3), .val (.int c_1530), .val (.int c_1531), .val (.int c_1532), .val (.int c_1533), .val (.int (4 : Int32)), .val (.int (2 : Int32)), .val (.ref b2382), .val (.ref b2420), .val (.int (4 : Int32)), .unset, .unset] (hb hby at_188) rfl ?_
            refine S2812.iload 192 (hb hby at_190) rfl ?_
            refine S2812.iload 194 (hb hby at_192) rfl ?_
            refine S2812.icmpY 210 (hb hby at_194) (qLtT (by decide)) ?_
            refine S2812.iload 212 (hb hby at_210) rfl ?_
            refine S2812.iload 214 (hb hby at_212) rfl ?_
            refine S2812.icmpN 217 (hb hby at_214) (qLtF (by decide)) ?_
            refine S2812.iload 219 (hb hby at_217) rfl ?_
            refine S2812.iload 221 (hb hby at_219) rfl ?_
            refine S2812.icmpY 226 (hb hby at_221) (qLeT (by decide)) ?_
            refine S2812.iconst 227 (0 : Int32) (hb hby at_226) ?_
            refine S2812.iload 229 (hb hby at_227) rfl ?_
            refine S2812.iload 231 (hb hby at_229) rfl ?_
            refine S2812.iload 233 (hb hby at_231) rfl ?_
            refine S2812.iload 235 (hb hby at_233) rfl ?_
            refine S2812.scall 238 (hb hby at_235) (by rw [hml]; rfl) (Tw hw 69 rfl) (Tw hw 70 rfl) (Tw hw 71 rfl) (Tw hw 72 rfl) (by decide) [(.int (0 : Int32)), (.int c_1530), (.int (2 : Int32)), (.int (4 : Int32)), (.int (4 : Int32))] [] (Con.pay (W := 0) (own_ok l Z a0 hw h2434 n0 S2812.old (0 : Int32) c_1530 (2 : Int32) (4 : Int32) (4 : Int32) (fun _ q _ => absurd (by decide) q)) (Tw hw 72 rfl) (Tw hw 71 rfl) (by decide) (by decide)) (lenOf own_pd_39 rfl) rfl (Nle rfl) (by decide) (by decide) Wrs.nil ?_
            intro v2899 T2900 h2901 L2902 S2903 q2904 K2905
            obtain ⟨rfl, e_q2904⟩ := q2904
            obtain rfl := e_q2904.symm
            show Go p e below _ T2900 (mkF m 238 #[.val (.int p0), .val (.int p1), .val (.int p2), .val (.int p3), .val (.int c_1530), .val (.int c_1531), .val (.int c_1532), .val (.int c_1533), .val (.int (4 : Int32)), .val (.int (2 : Int32)), .val (.ref b2382), .val (.ref b2420), .val (.int (4 : Int32)), .unset, .unset] [(.int (1 : Int32))])
            refine S2903.ifN 241 (hb hby at_238) (zEqF (by decide)) ?_
            refine S2903.iconst 242 (1 : Int32) (hb hby at_241) ?_
            refine S2903.iload 244 (hb hby at_242) rfl ?_
            refine S2903.iload 246 (hb hby at_244) rfl ?_
            refine S2903.iload 248 (hb hby at_246) rfl ?_
            refine S2903.iload 250 (hb hby at_248) rfl ?_
            refine S2903.scall 253 (hb hby at_250) (by rw [hml]; rfl) (Tw hw 69 rfl) (Tw hw 70 rfl) (Tw hw 71 rfl) (Tw hw 72 rfl) (by decide) [(.int (1 : Int32)), (.int c_1531), (.int (2 : Int32)), (.int (4 : Int32)), (.int (4 : Int32))] [] (Con.pay (W := 0) (own_ok l Z a0 hw h2434 n0 S2903.old (1 : Int32) c_1531 (2 : Int32) (4 : Int32) (4 : Int32) (fun _ q _ => absurd (by decide) q)) (Tw hw 72 rfl) (Tw hw 71 rfl) (by decide) (by decide)) (lenOf own_pd_39 rfl) rfl (Nle rfl) (by decide) (by decide) Wrs.nil ?_
            intro v2906 T2907 h2908 L2909 S2910 q2911 K2912
            obtain ⟨rfl, e_q2911⟩ := q2911
            obtain rfl := e_q2911.symm
            show Go p e below _ T2907 (mkF m 253 #[.val (.int p0), .val (.int p1), .val (.int p2), .val (.int p3), .val (.int c_1530), .val (.int c_1531), .val (.int c_1532), .val (.int c_1533), .val (.int (4 : Int32)), .val (.int (2 : Int32)), .val (.ref b2382), .val (.ref b2420), .val (.int (4 : Int32)), .unset, .unset] [(.int (1 : Int32))])
            refine S2910.ifN 256 (hb hby at_253) (zEqF (by decide)) ?_
            refine S2910.iconst 257 (2 : Int32) (hb hby at_256) ?_
            refine S2910.iload 259 (hb hby at_257) rfl ?_
            refine S2910.iload 261 (hb hby at_259) rfl ?_
            refine S2910.iload 263 (hb hby at_261) rfl ?_
            refine S2910.iload 265 (hb hby at_263) rfl ?_
            refine S2910.scall 268 (hb hby at_265) (by rw [hml]; rfl) (Tw hw 69 rfl) (Tw hw 70 rfl) (Tw hw 71 rfl) (Tw hw 72 rfl) (by decide) [(.int (2 : Int32)), (.int c_1532), (.int (2 : Int32)), (.int (4 : Int32)), (.int (4 : Int32))] [] (Con.pay (W := 0) (own_ok l Z a0 hw h2434 n0 S2910.old (2 : Int32) c_1532 (2 : Int32) (4 : Int32) (4 : Int32) (fun _ _ _ => d4_2)) (Tw hw 72 rfl) (Tw hw 71 rfl) (by decide) (by decide)) (lenOf own_pd_39 rfl) rfl (Nle rfl) (by decide) (by decide) Wrs.nil ?_
            intro v2913 T2914 h2915 L2916 S2917 q2918 K2919
            obtain ⟨rfl, e_q2918⟩ := q2918
            obtain rfl := e_q2918.symm
            show Go p e below _ T2914 (mkF m 268 #[.val (.int p0), .val (.int p1), .val (.int p2), .val (.int p3), .val (.int c_1530), .val (.int c_1531), .val (.int c_1532), .val (.int c_1533), .val (.int (4 : Int32)), .val (.int (2 : Int32)), .val (.ref b2382), .val (.ref b2420), .val (.int (4 : Int32)), .unset, .unset] [(.int (1 : Int32))])
            refine S2917.ifN 271 (hb hby at_268) (zEqF (by decide)) ?_
            refine S2917.iconst 272 (3 : Int32) (hb hby at_271) ?_
            refine S2917.iload 274 (hb hby at_272) rfl ?_
            refine S2917.iload 276 (hb hby at_274) rfl ?_
            refine S2917.iload 278 (hb hby at_276) rfl ?_
            refine S2917.iload 280 (hb hby at_278) rfl ?_
            refine S2917.scall 283 (hb hby at_280) (by rw [hml]; rfl) (Tw hw 69 rfl) (Tw hw 70 rfl) (Tw hw 71 rfl) (Tw hw 72 rfl) (by decide) [(.int (3 : Int32)), (.int c_1533), (.int (2 : Int32)), (.int (4 : Int32)), (.int (4 : Int32))] [] (Con.pay (W := 0) (own_ok l Z a0 hw h2434 n0 S2917.old (3 : Int32) c_1533 (2 : Int32) (4 : Int32) (4 : Int32) (fun _ _ _ => d4_3)) (Tw hw 72 rfl) (Tw hw 71 rfl) (by decide) (by decide)) (lenOf own_pd_39 rfl) rfl (Nle rfl) (by decide) (by decide) Wrs.nil ?_
            intro v2920 T2921 h2922 L2923 S2924 q2925 K2926
            obtain ⟨rfl, e_q2925⟩ := q2925
            obtain rfl := e_q2925.symm
            show Go p e below _ T2921 (mkF m 283 #[.val (.int p0), .val (.int p1), .val (.int p2), .val (.int p3), .val (.int c_1530), .val (.int c_1531), .val (.int c_1532), .val (.int c_1533), .val (.int (4 : Int32)), .val (.int (2 : Int32)), .val (.ref b2382), .val (.ref b2420), .val (.int (4 : Int32)), .unset, .unset] [(.int (1 : Int32))])
            refine S2924.ifN 286 (hb hby at_283) (zEqF (by decide)) ?_
            refine S2924.iconst 287 (1 : Int32) (hb hby at_286) ?_
            refine S2924.goto 291 (hb hby at_287) ?_
            refine S2924.istore 293 #[.val (.int p0), .val (.int p1), .val (.int p2), .val (.int p3), .val (.int c_1530), .val (.int c_1531), .val (.int c_1532), .val (.int c_1533), .val (.int (4 : Int32)), .val (.int (2 : Int32)), .val (.ref b2382), .val (.ref b2420), .val (.int (4 : Int32)), .val (.int (1 : Int32)), .unset] (hb hby at_291) rfl ?_
            refine S2924.iload 295 (hb hby at_293) rfl ?_
            refine S2924.iload 297 (hb hby at_295) rfl ?_
            refine S2924.icmpY 319 (hb hby at_297) (qEqT (by decide)) ?_
            refine S2924.iconst 320 (1 : Int32) (hb hby at_319) ?_
            refine S2924.goto 324 (hb hby at_320) ?_
            refine S2924.istore 326 #[.val (.int p0), .val (.int p1), .val (.int p2), .val (.int p3), .val (.int c_1530), .val (.int c_1531), .val (.int c_1532), .val (.int c_1533), .val (.int (4 : Int32)), .val (.int (2 : Int32)), .val (.ref b2382), .val (.ref b2420), .val (.int (4 : Int32)), .val (.int (1 : Int32)), .val (.int (1 : Int32))] (hb hby at_324) rfl ?_
            refine S2924.iload 328 (hb hby at_326) rfl ?_
            refine S2924.ifN 331 (hb hby at_328) (zEqF (by decide)) ?_
            refine S2924.iload 333 (hb hby at_331) rfl ?_
            refine S2924.ifN 336 (hb hby at_333) (zEqF (by decide)) ?_
            refine S2924.iconst 337 (1 : Int32) (hb hby at_336) ?_
            refine S2924.goto 341 (hb hby at_337) ?_
            exact S2924.retN (t := .boolean) (hb hby at_341) hret (by decide) (by decide) (by decide) rfl
        · skip
          refine S2436.aload 183 (hb hby at_181) rfl rfl ?_
          refine S2436.iload 185 (hb hby at_183) rfl ?_
          refine S2436.scall 188 (hb hby at_185) (by rw [hml]; rfl) (Tw hw 33 rfl) (Tw hw 34 rfl) (Tw hw 35 rfl) (Tw hw 36 rfl) (by decide) [(.ref b2420), (.int (3 : Int32))] [] (Con.pay (W := 0) (own_de_4_3 l Z a0 hw cm us sf h2434 n0 S2436.old b2420 t2439 c_1530 c_1531 c_1532 c_1533 Z2441) (Tw hw 36 rfl) (Tw hw 35 rfl) (by decide) (by decide)) (lenOf own_pd_38 rfl) rfl (Nle rfl) (by decide) (by decide) Wrs.nil ?_
          intro v2927 T2928 h2929 L2930 S2931 q2932 K2933
          obtain ⟨hq_q2932, e_q2932⟩ := q2932
          obtain rfl := e_q2932.symm
          rcases hq_q2932 with ⟨rfl, nd3⟩ | ⟨rfl, d4_3⟩
          · skip
            show Go p e below _ T2928 (mkF m 188 #[.val (.int p0), .val (.int p1), .val (.int p2), .val (.int p3), .val (.int c_1530), .val (.int c_1531), .val (.int c_1532), .val (.int c_1533), .val (.int (4 : Int32)), .val (.int (3 : Int32)), .val (.ref b2382), .val (.ref b2420), .unset, .unset, .unset] [(.int (3 : Int32))])
            refine S2931.istore 190 #[.val (.int p0), .val (.int p1), .val (.int p2), .val (.int p3), .val (.int c_1530), .val (.int c_1531), .val (.int c_1532), .val (.int c_1533), .val (.int (4 : Int32)), .val (.int (3 : Int32)), .val (.ref b2382), .val (.ref b2420), .val (.int (3 : Int32)), .unset, .unset] (hb hby at_188) rfl ?_
            refine S2931.iload 192 (hb hby at_190) rfl ?_
            refine S2931.iload 194 (hb hby at_192) rfl ?_
            refine S2931.icmpY 210 (hb hby at_194) (qLtT (by decide)) ?_
            refine S2931.iload 212 (hb hby at_210) rfl ?_
            refine S2931.iload 214 (hb hby at_212) rfl ?_
            refine S2931.icmpN 217 (hb hby at_214) (qLtF (by decide)) ?_
            refine S2931.iload 219 (hb hby at_217) rfl ?_
            refine S2931.iload 221 (hb hby at_219) rfl ?_
            refine S2931.icmpY 226 (hb hby at_221) (qLeT (by decide)) ?_
            refine S2931.iconst 227 (0 : Int32) (hb hby at_226) ?_
            refine S2931.iload 229 (hb hby at_227) rfl ?_
            refine S2931.iload 231 (hb hby at_229) rfl ?_
            refine S2931.iload 233 (hb hby at_231) rfl ?_
            refine S2931.iload 235 (hb hby at_233) rfl ?_
            refine S2931.scall 238 (hb hby at_235) (by rw [hml]; rfl) (Tw hw 69 rfl) (Tw hw 70 rfl) (Tw hw 71 rfl) (Tw hw 72 rfl) (by decide) [(.int (0 : Int32)), (.int c_1530), (.int (3 : Int32)), (.int (3 : Int32)), (.int (4 : Int32))] [] (Con.pay (W := 0) (own_ok l Z a0 hw h2434 n0 S2931.old (0 : Int32) c_1530 (3 : Int32) (3 : Int32) (4 : Int32) (fun _ q _ => absurd (by decide) q)) (Tw hw 72 rfl) (Tw hw 71 rfl) (by decide) (by decide)) (lenOf own_pd_39 rfl) rfl (Nle rfl) (by decide) (by decide) Wrs.nil ?_
            intro v2934 T2935 h2936 L2937 S2938 q2939 K2940
            obtain ⟨rfl, e_q2939⟩ := q2939
            obtain rfl := e_q2939.symm
            show Go p e below _ T2935 (mkF m 238 #[.val (.int p0), .val (.int p1), .val (.int p2), .val (.int p3), .val (.int c_1530), .val (.int c_1531), .val (.int c_1532), .val (.int c_1533), .val (.int (4 : Int32)), .val (.int (3 : Int32)), .val (.ref b2382), .val (.ref b2420), .val (.int (3 : Int32)), .unset, .unset] [(.int (1 : Int32))])
            refine S2938.ifN 241 (hb hby at_238) (zEqF (by decide)) ?_
            refine S2938.iconst 242 (1 : Int32) (hb hby at_241) ?_
            refine S2938.iload 244 (hb hby at_242) rfl ?_
            refine S2938.iload 246 (hb hby at_244) rfl ?_
            refine S2938.iload 248 (hb hby at_246) rfl ?_
            refine S2938.iload 250 (hb hby at_248) rfl ?_
            refine S2938.scall 253 (hb hby at_250) (by rw [hml]; rfl) (Tw hw 69 rfl) (Tw hw 70 rfl) (Tw hw 71 rfl) (Tw hw 72 rfl) (by decide) [(.int (1 : Int32)), (.int c_1531), (.int (3 : Int32)), (.int (3 : Int32)), (.int (4 : Int32))] [] (Con.pay (W := 0) (own_ok l Z a0 hw h2434 n0 S2938.old (1 : Int32) c_1531 (3 : Int32) (3 : Int32) (4 : Int32) (fun _ q _ => absurd (by decide) q)) (Tw hw 72 rfl) (Tw hw 71 rfl) (by decide) (by decide)) (lenOf own_pd_39 rfl) rfl (Nle rfl) (by decide) (by decide) Wrs.nil ?_
            intro v2941 T2942 h2943 L2944 S2945 q2946 K2947
            obtain ⟨rfl, e_q2946⟩ := q2946
            obtain rfl := e_q2946.symm
            show Go p e below _ T2942 (mkF m 253 #[.val (.int p0), .val (.int p1), .val (.int p2), .val (.int p3), .val (.int c_1530), .val (.int c_1531), .val (.int c_1532), .val (.int c_1533), .val (.int (4 : Int32)), .val (.int (3 : Int32)), .val (.ref b2382), .val (.ref b2420), .val (.int (3 : Int32)), .unset, .unset] [(.int (1 : Int32))])
            refine S2945.ifN 256 (hb hby at_253) (zEqF (by decide)) ?_
            refine S2945.iconst 257 (2 : Int32) (hb hby at_256) ?_
            refine S2945.iload 259 (hb hby at_257) rfl ?_
            refine S2945.iload 261 (hb hby at_259) rfl ?_
            refine S2945.iload 263 (hb hby at_261) rfl ?_
            refine S2945.iload 265 (hb hby at_263) rfl ?_
            refine S2945.scall 268 (hb hby at_265) (by rw [hml]; rfl) (Tw hw 69 rfl) (Tw hw 70 rfl) (Tw hw 71 rfl) (Tw hw 72 rfl) (by decide) [(.int (2 : Int32)), (.int c_1532), (.int (3 : Int32)), (.int (3 : Int32)), (.int (4 : Int32))] [] (Con.pay (W := 0) (own_ok l Z a0 hw h2434 n0 S2945.old (2 : Int32) c_1532 (3 : Int32) (3 : Int32) (4 : Int32) (fun _ q _ => absurd (by decide) q)) (Tw hw 72 rfl) (Tw hw 71 rfl) (by decide) (by decide)) (lenOf own_pd_39 rfl) rfl (Nle rfl) (by decide) (by decide) Wrs.nil ?_
            intro v2948 T2949 h2950 L2951 S2952 q2953 K2954
            obtain ⟨rfl, e_q2953⟩ := q2953
            obtain rfl := e_q2953.symm
            show Go p e below _ T2949 (mkF m 268 #[.val (.int p0), .val (.int p1), .val (.int p2), .val (.int p3), .val (.int c_1530), .val (.int c_1531), .val (.int c_1532), .val (.int c_1533), .val (.int (4 : Int32)), .val (.int (3 : Int32)), .val (.ref b2382), .val (.ref b2420), .val (.int (3 : Int32)), .unset, .unset] [(.int (1 : Int32))])
            refine S2952.ifN 271 (hb hby at_268) (zEqF (by decide)) ?_
            refine S2952.iconst 272 (3 : Int32) (hb hby at_271) ?_
            refine S2952.iload 274 (hb hby at_272) rfl ?_
            refine S2952.iload 276 (hb hby at_274) rfl ?_
            refine S2952.iload 278 (hb hby at_276) rfl ?_
            refine S2952.iload 280 (hb hby at_278) rfl ?_
            refine S2952.scall 283 (hb hby at_280) (by rw [hml]; rfl) (Tw hw 69 rfl) (Tw hw 70 rfl) (Tw hw 71 rfl) (Tw hw 72 rfl) (by decide) [(.int (3 : Int32)), (.int c_1533), (.int (3 : Int32)), (.int (3 : Int32)), (.int (4 : Int32))] [] (Con.pay (W := 0) (own_ok l Z a0 hw h2434 n0 S2952.old (3 : Int32) c_1533 (3 : Int32) (3 : Int32) (4 : Int32) (fun _ _ q => absurd q (by decide))) (Tw hw 72 rfl) (Tw hw 71 rfl) (by decide) (by decide)) (lenOf own_pd_39 rfl) rfl (Nle rfl) (by decide) (by decide) Wrs.nil ?_
            intro v2955 T2956 h2957 L2958 S2959 q2960 K2961
            obtain ⟨rfl, e_q2960⟩ := q2960
            obtain rfl := e_q2960.symm
            show Go p e below _ T2956 (mkF m 283 #[.val (.int p0), .val (.int p1), .val (.int p2), .val (.int p3), .val (.int c_1530), .val (.int c_1531), .val (.int c_1532), .val (.int c_1533), .val (.int (4 : Int32)), .val (.int (3 : Int32)), .val (.ref b2382), .val (.ref b2420), .val (.int (3 : Int32)), .unset, .unset] [(.int (1 : Int32))])
            refine S2959.ifN 286 (hb hby at_283) (zEqF (by decide)) ?_
            refine S2959.iconst 287 (1 : Int32) (hb hby at_286) ?_
            refine S2959.goto 291 (hb hby at_287) ?_
            refine S2959.istore 293 #[.val (.int p0), .val (.int p1), .val (.int p2), .val (.int p3), .val (.int c_1530), .val (.int c_1531), .val (.int c_1532), .val (.int c_1533), .val (.int (4 : Int32)), .val (.int (3 : Int32)), .val (.ref b2382), .val (.ref b2420), .val (.int (3 : Int32)), .val (.int (1 : Int32)), .unset] (hb hby at_291) rfl ?_
            refine S2959.iload 295 (hb hby at_293) rfl ?_
            refine S2959.iload 297 (hb hby at_295) rfl ?_
            refine S2959.icmpN 300 (hb hby at_297) (qEqF (by decide)) ?_
            refine S2959.iload 302 (hb hby at_300) rfl ?_
            refine S2959.iload 304 (hb hby at_302) rfl ?_
            refine S2959.iload 306 (hb hby at_304) rfl ?_
            refine S2959.iload 308 (hb hby at_306) rfl ?_
            refine S2959.iload 310 (hb hby at_308) rfl ?_
            refine S2959.scall 313 (hb hby at_310) (by rw [hml]; rfl) (Tw hw 73 rfl) (Tw hw 74 rfl) (Tw hw 71 rfl) (Tw hw 75 rfl) (by decide) [(.int c_1530), (.int c_1531), (.int c_1532), (.int c_1533), (.int (3 : Int32))] [] (Con.pay (W := 0) (own_at3 l Z a0 hw h2434 n0 S2959.old c_1530 c_1531 c_1532 c_1533 u16_c_1533) (Tw hw 75 rfl) (Tw hw 71 rfl) (by decide) (by decide)) (lenOf own_pd_40 rfl) rfl (Nle rfl) (by decide) (by decide) Wrs.nil ?_
            intro v2962 T2963 h2964 L2965 S2966 q2967 K2968
            obtain ⟨rfl, e_q2967⟩ := q2967
            obtain rfl := e_q2967.symm
            show Go p e below _ T2963 (mkF m 313 #[.val (.int p0), .val (.int p1), .val (.int p2), .val (.int p3), .val (.int c_1530), .val (.int c_1531), .val (.int c_1532), .val (.int c_1533), .val (.int (4 : Int32)), .val (.int (3 : Int32)), .val (.ref b2382), .val (.ref b2420), .val (.int (3 : Int32)), .val (.int (1 : Int32)), .unset] [(.int c_1533)])
            refine S2966.scall 316 (hb hby at_313) (by rw [hml]; rfl) (Tw hw 76 rfl) (Tw hw 77 rfl) (Tw hw 71 rfl) (Tw hw 78 rfl) (by decide) [(.int c_1533)] [] (Con.pay (W := 0) (own_dig0 l Z a0 hw h2434 n0 S2966.old c_1533 nd3) (Tw hw 78 rfl) (Tw hw 71 rfl) (by decide) (by decide)) (lenOf own_pd_31 rfl) rfl (Nle rfl) (by decide) (by decide) Wrs.nil ?_
            intro v2969 T2970 h2971 L2972 S2973 q2974 K2975
            obtain ⟨rfl, e_q2974⟩ := q2974
            obtain rfl := e_q2974.symm
            show Go p e below _ T2970 (mkF m 316 #[.val (.int p0), .val (.int p1), .val (.int p2), .val (.int p3), .val (.int c_1530), .val (.int c_1531), .val (.int c_1532), .val (.int c_1533), .val (.int (4 : Int32)), .val (.int (3 : Int32)), .val (.ref b2382), .val (.ref b2420), .val (.int (3 : Int32)), .val (.int (1 : Int32)), .unset] [(.int (0 : Int32))])
            refine S2973.ifN 319 (hb hby at_316) (zNeF (by decide)) ?_
            refine S2973.iconst 320 (1 : Int32) (hb hby at_319) ?_
            refine S2973.goto 324 (hb hby at_320) ?_
            refine S2973.istore 326 #[.val (.int p0), .val (.int p1), .val (.int p2), .val (.int p3), .val (.int c_1530), .val (.int c_1531), .val (.int c_1532), .val (.int c_1533), .val (.int (4 : Int32)), .val (.int (3 : Int32)), .val (.ref b2382), .val (.ref b2420), .val (.int (3 : Int32)), .val (.int (1 : Int32)), .val (.int (1 : Int32))] (hb hby at_324) rfl ?_
            refine S2973.iload 328 (hb hby at_326) rfl ?_
            refine S2973.ifN 331 (hb hby at_328) (zEqF (by decide)) ?_
            refine S2973.iload 333 (hb hby at_331) rfl ?_
            refine S2973.ifN 336 (hb hby at_333) (zEqF (by decide)) ?_
            refine S2973.iconst 337 (1 : Int32) (hb hby at_336) ?_
            refine S2973.goto 341 (hb hby at_337) ?_
            exact S2973.retN (t := .boolean) (hb hby at_341) hret (by decide) (by decide) (by decide) rfl
          · skip
            show Go p e below _ T2928 (mkF m 188 #[.val (.int p0), .val (.int p1), .val (.int p2), .val (.int p3), .val (.int c_1530), .val (.int c_1531), .val (.int c_1532), .val (.int c_1533), .val (.int (4 : Int32)), .val (.int (3 : Int32)), .val (.ref b2382), .val (.ref b2420), .unset, .unset, .unset] [(.int (4 : Int32))])
            refine S2931.istore 190 #[.val (.int p0), .val (.int p1), .val (.int p2), .val (.int p3), .val (.int c_1530), .val (.int c_1531), .val (.int c_1532), .val (.int c_1533), .val (.int (4 : Int32)), .val (.int (3 : Int32)), .val (.ref b2382), .val (.ref b2420), .val (.int (4 : Int32)), .unset, .unset] (hb hby at_188) rfl ?_
            refine S2931.iload 192 (hb hby at_190) rfl ?_
            refine S2931.iload 194 (hb hby at_192) rfl ?_
            refine S2931.icmpY 210 (hb hby at_194) (qLtT (by decide)) ?_
            refine S2931.iload 212 (hb hby at_210) rfl ?_
            refine S2931.iload 214 (hb hby at_212) rfl ?_
            refine S2931.icmpN 217 (hb hby at_214) (qLtF (by decide)) ?_
            refine S2931.iload 219 (hb hby at_217) rfl ?_
            refine S2931.iload 221 (hb hby at_219) rfl ?_
            refine S2931.icmpY 226 (hb hby at_221) (qLeT (by decide)) ?_
            refine S2931.iconst 227 (0 : Int32) (hb hby at_226) ?_
            refine S2931.iload 229 (hb hby at_227) rfl ?_
            refine S2931.iload 231 (hb hby at_229) rfl ?_
            refine S2931.iload 233 (hb hby at_231) rfl ?_
            refine S2931.iload 235 (hb hby at_233) rfl ?_
            refine S2931.scall 238 (hb hby at_235) (by rw [hml]; rfl) (Tw hw 69 rfl) (Tw hw 70 rfl) (Tw hw 71 rfl) (Tw hw 72 rfl) (by decide) [(.int (0 : Int32)), (.int c_1530), (.int (3 : Int32)), (.int (4 : Int32)), (.int (4 : Int32))] [] (Con.pay (W := 0) (own_ok l Z a0 hw h2434 n0 S2931.old (0 : Int32) c_1530 (3 : Int32) (4 : Int32) (4 : Int32) (fun _ q _ => absurd (by decide) q)) (Tw hw 72 rfl) (Tw hw 71 rfl) (by decide) (by decide)) (lenOf own_pd_39 rfl) rfl (Nle rfl) (by decide) (by decide) Wrs.nil ?_
            intro v2976 T2977 h2978 L2979 S2980 q2981 K2982
            obtain ⟨rfl, e_q2981⟩ := q2981
            obtain rfl := e_q2981.symm
            show Go p e below _ T2977 (mkF m 238 #[.val (.int p0), .val (.int p1), .val (.int p2), .val (.int p3), .val (.int c_1530), .val (.int c_1531), .val (.int c_1532), .val (.int c_1533), .val (.int (4 : Int32)), .val (.int (3 : Int32)), .val (.ref b2382), .val (.ref b2420), .val (.int (4 : Int32)), .unset, .unset] [(.int (1 : Int32))])
            refine S2980.ifN 241 (hb hby at_238) (zEqF (by decide)) ?_
            refine S2980.iconst 242 (1 : Int32) (hb hby at_241) ?_
            refine S2980.iload 244 (hb hby at_242) rfl ?_
            refine S2980.iload 246 (hb hby at_244) rfl ?_
            refine S2980.iload 248 (hb hby at_246) rfl ?_
            refine S2980.iload 250 (hb hby at_248) rfl ?_
            refine S2980.scall 253 (hb hby at_250) (by rw [hml]; rfl) (Tw hw 69 rfl) (Tw hw 70 rfl) (Tw hw 71 rfl) (Tw hw 72 rfl) (by decide) [(.int (1 : Int32)), (.int c_1531), (.int (3 : Int32)), (.int (4 : Int32)), (.int (4 : Int32))] [] (Con.pay (W := 0) (own_ok l Z a0 hw h2434 n0 S2980.old (1 : Int32) c_1531 (3 : Int32) (4 : Int32) (4 : Int32) (fun _ q _ => absurd (by decide) q)) (Tw hw 72 rfl) (Tw hw 71 rfl) (by decide) (by decide)) (lenOf own_pd_39 rfl) rfl (Nle rfl) (by decide) (by decide) Wrs.nil ?_
            intro v2983 T2984 h2985 L2986 S2987 q2988 K2989
            obtain ⟨rfl, e_q2988⟩ := q2988
            obtain rfl := e_q2988.symm
            show Go p e below _ T2984 (mkF m 253 #[.val (.int p0), .val (.int p1), .val (.int p2), .val (.int p3), .val (.int c_1530), .val (.int c_1531), .val (.int c_1532), .val (.int c_1533), .val (.int (4 : Int32)), .val (.int (3 : Int32)), .val (.ref b2382), .val (.ref b2420), .val (.int (4 : Int32)), .unset, .unset] [(.int (1 : Int32))])
            refine S2987.ifN 256 (hb hby at_253) (zEqF (by decide)) ?_
            refine S2987.iconst 257 (2 : Int32) (hb hby at_256) ?_
            refine S2987.iload 259 (hb hby at_257) rfl ?_
            refine S2987.iload 261 (hb hby at_259) rfl ?_
            refine S2987.iload 263 (hb hby at_261) rfl ?_
            refine S2987.iload 265 (hb hby at_263) rfl ?_
            refine S2987.scall 268 (hb hby at_265) (by rw [hml]; rfl) (Tw hw 69 rfl) (Tw hw 70 rfl) (Tw hw 71 rfl) (Tw hw 72 rfl) (by decide) [(.int (2 : Int32)), (.int c_1532), (.int (3 : Int32)), (.int (4 : Int32)), (.int (4 : Int32))] [] (Con.pay (W := 0) (own_ok l Z a0 hw h2434 n0 S2987.old (2 : Int32) c_1532 (3 : Int32) (4 : Int32) (4 : Int32) (fun _ q _ => absurd (by decide) q)) (Tw hw 72 rfl) (Tw hw 71 rfl) (by decide) (by decide)) (lenOf own_pd_39 rfl) rfl (Nle rfl) (by decide) (by decide) Wrs.nil ?_
            intro v2990 T2991 h2992 L2993 S2994 q2995 K2996
            obtain ⟨rfl, e_q2995⟩ := q2995
            obtain rfl := e_q2995.symm
            show Go p e below _ T2991 (mkF m 268 #[.val (.int p0), .val (.int p1), .val (.int p2), .val (.int p3), .val (.int c_1530), .val (.int c_1531), .val (.int c_1532), .val (.int c_1533), .val (.int (4 : Int32)), .val (.int (3 : Int32)), .val (.ref b2382), .val (.ref b2420), .val (.int (4 : Int32)), .unset, .unset] [(.int (1 : Int32))])
            refine S2994.ifN 271 (hb hby at_268) (zEqF (by decide)) ?_
            refine S2994.iconst 272 (3 : Int32) (hb hby at_271) ?_
            refine S2994.iload 274 (hb hby at_272) rfl ?_
            refine S2994.iload 276 (hb hby at_274) rfl ?_
            refine S2994.iload 278 (hb hby at_276) rfl ?_
            refine S2994.iload 280 (hb hby at_278) rfl ?_
            refine S2994.scall 283 (hb hby at_280) (by rw [hml]; rfl) (Tw hw 69 rfl) (Tw hw 70 rfl) (Tw hw 71 rfl) (Tw hw 72 rfl) (by decide) [(.int (3 : Int32)), (.int c_1533), (.int (3 : Int32)), (.int (4 : Int32)), (.int (4 : Int32))] [] (Con.pay (W := 0) (own_ok l Z a0 hw h2434 n0 S2994.old (3 : Int32) c_1533 (3 : Int32) (4 : Int32) (4 : Int32) (fun _ _ _ => d4_3)) (Tw hw 72 rfl) (Tw hw 71 rfl) (by decide) (by decide)) (lenOf own_pd_39 rfl) rfl (Nle rfl) (by decide) (by decide) Wrs.nil ?_
            intro v2997 T2998 h2999 L3000 S3001 q3002 K3003
            obtain ⟨rfl, e_q3002⟩ := q3002
            obtain rfl := e_q3002.symm
            show Go p e below _ T2998 (mkF m 283 #[.val (.int p0), .val (.int p1), .val (.int p2), .val (.int p3), .val (.int c_1530), .val (.int c_1531), .val (.int c_1532), .val (.int c_1533), .val (.int (4 : Int32)), .val (.int (3 : Int32)), .val (.ref b2382), .val (.ref b2420), .val (.int (4 : Int32)), .unset, .unset] [(.int (1 : Int32))])
            refine S3001.ifN 286 (hb hby at_283) (zEqF (by decide)) ?_
            refine S3001.iconst 287 (1 : Int32) (hb hby at_286) ?_
            refine S3001.goto 291 (hb hby at_287) ?_
            refine S3001.istore 293 #[.val (.int p0), .val (.int p1), .val (.int p2), .val (.int p3), .val (.int c_1530), .val (.int c_1531), .val (.int c_1532), .val (.int c_1533), .val (.int (4 : Int32)), .val (.int (3 : Int32)), .val (.ref b2382), .val (.ref b2420), .val (.int (4 : Int32)), .val (.int (1 : Int32)), .unset] (hb hby at_291) rfl ?_
            refine S3001.iload 295 (hb hby at_293) rfl ?_
            refine S3001.iload 297 (hb hby at_295) rfl ?_
            refine S3001.icmpY 319 (hb hby at_297) (qEqT (by decide)) ?_
            refine S3001.iconst 320 (1 : Int32) (hb hby at_319) ?_
            refine S3001.goto 324 (hb hby at_320) ?_
            refine S3001.istore 326 #[.val (.int p0), .val (.int p1), .val (.int p2), .val (.int p3), .val (.int c_1530), .val (.int c_1531), .val (.int c_1532), .val (.int c_1533), .val (.int (4 : Int32)), .val (.int (3 : Int32)), .val (.ref b2382), .val (.ref b2420), .val (.int (4 : Int32)), .val (.int (1 : Int32)), .val (.int (1 : Int32))] (hb hby at_324) rfl ?_
            refine S3001.iload 328 (hb hby at_326) rfl ?_
            refine S3001.ifN 331 (hb hby at_328) (zEqF (by decide)) ?_
            refine S3001.iload 333 (hb hby at_331) rfl ?_
            refine S3001.ifN 336 (hb hby at_333) (zEqF (by decide)) ?_
            refine S3001.iconst 337 (1 : Int32) (hb hby at_336) ?_
            refine S3001.goto 341 (hb hby at_337) ?_
            exact S3001.retN (t := .boolean) (hb hby at_341) hret (by decide) (by decide) (by decide) rfl
      · skip
        refine S2436.aload 183 (hb hby at_181) rfl rfl ?_
        refine S2436.iload 185 (hb hby at_183) rfl ?_
        refine S2436.scall 188 (hb hby at_185) (by rw [hml]; rfl) (Tw hw 33 rfl) (Tw hw 34 rfl) (Tw hw 35 rfl) (Tw hw 36 rfl) (by decide) [(.ref b2420), (.int z1535)] [] (Con.pay (W := 0) (own_deG_4 l Z a0 hw cm us sf h2434 n0 S2436.old b2420 t2439 c_1530 c_1531 c_1532 c_1533 z1535 Z2441 hg) (Tw hw 36 rfl) (Tw hw 35 rfl) (by decide) (by decide)) (lenOf own_pd_38 rfl) rfl (Nle rfl) (by decide) (by decide) Wrs.nil ?_
        intro v3004 T3005 h3006 L3007 S3008 q3009 K3010
        obtain ⟨rfl, e_q3009⟩ := q3009
        obtain rfl := e_q3009.symm
        show Go p e below _ T3005 (mkF m 188 #[.val (.int p0), .val (.int p1), .val (.int p2), .val (.int p3), .val (.int c_1530), .val (.int c_1531), .val (.int c_1532), .val (.int c_1533), .val (.int (4 : Int32)), .val (.int z1535), .val (.ref b2382), .val (.ref b2420), .unset, .unset, .unset] [(.int z1535)])
        refine S3008.istore 190 #[.val (.int p0), .val (.int p1), .val (.int p2), .val (.int p3), .val (.int c_1530), .val (.int c_1531), .val (.int c_1532), .val (.int c_1533), .val (.int (4 : Int32)), .val (.int z1535), .val (.ref b2382), .val (.ref b2420), .val (.int z1535), .unset, .unset] (hb hby at_188) rfl ?_
        refine S3008.iload 192 (hb hby at_190) rfl ?_
        refine S3008.iload 194 (hb hby at_192) rfl ?_
        refine S3008.icmpN 197 (hb hby at_194) (qLtF hg) ?_
        refine S3008.iload 199 (hb hby at_197) rfl ?_
        refine S3008.iload 201 (hb hby at_199) rfl ?_
        refine S3008.icmpN 204 (hb hby at_201) (qNeF rfl) ?_
        refine S3008.iconst 205 (1 : Int32) (hb hby at_204) ?_
        refine S3008.goto 209 (hb hby at_205) ?_
        exact S3008.retN (t := .boolean) (hb hby at_209) hret (by decide) (by decide) (by decide) rfl
  refine S.iloadN 37 (hb hby at_36) rfl ?_
  refine S.ldcI 39 (hb hby at_37) (Tw hw 1 rfl) ?_
  refine S.iand 40 (hb hby at_39) ?_
  show Go p e below _ T (mkF m 40 #[.val (.int p0), .val (.int p1), .val (.int p2), .val (.int p3), .val (.int c_1530), .val (.int c_1531), .val (.int c_1532), .val (.int c_1533), .val (.int ln_1534), .unset, .unset, .unset, .unset, .unset, .unset] [(.int (p3 &&& (2147483647 : Int32)))])
  refine S.bipush 42 (7 : Int32) (hb hby at_40) ?_
  refine S.irem 43 (hb hby at_42) (by decide) ?_
  show Go p e below _ T (mkF m 43 #[.val (.int p0), .val (.int p1), .val (.int p2), .val (.int p3), .val (.int c_1530), .val (.int c_1531), .val (.int c_1532), .val (.int c_1533), .val (.int ln_1534), .unset, .unset, .unset, .unset, .unset, .unset] [(.int ((p3 &&& (2147483647 : Int32)) % (7 : Int32)))])
  refine S.istore 45 #[.val (.int p0), .val (.int p1), .val (.int p2), .val (.int p3), .val (.int c_1530), .val (.int c_1531), .val (.int c_1532), .val (.int c_1533), .val (.int ln_1534), .val (.int ((p3 &&& (2147483647 : Int32)) % (7 : Int32))), .unset, .unset, .unset, .unset, .unset] (hb hby at_43) rfl ?_
  refine S.iloadN 46 (hb hby at_45) rfl ?_
  refine S.ldcI 48 (hb hby at_46) (Tw hw 2 rfl) ?_
  refine S.iand 49 (hb hby at_48) ?_
  show Go p e below _ T (mkF m 49 #[.val (.int p0), .val (.int p1), .val (.int p2), .val (.int p3), .val (.int c_1530), .val (.int c_1531), .val (.int c_1532), .val (.int c_1533), .val (.int ln_1534), .val (.int ((p3 &&& (2147483647 : Int32)) % (7 : Int32))), .unset, .unset, .unset, .unset, .unset] [(.int (p3 &&& (1879048192 : Int32)))])
  refine S.ldcI 51 (hb hby at_49) (Tw hw 2 rfl) ?_
  by_cases hb3011 : (p3 &&& (1879048192 : Int32)) = (1879048192 : Int32)
  · skip
    refine S.icmpN 54 (hb hby at_51) (qNeF hb3011) ?_
    refine S.iloadN 55 (hb hby at_54) rfl ?_
    refine S.ldcI 57 (hb hby at_55) (Tw hw 1 rfl) ?_
    refine S.iand 58 (hb hby at_57) ?_
    show Go p e below _ T (mkF m 58 #[.val (.int p0), .val (.int p1), .val (.int p2), .val (.int p3), .val (.int c_1530), .val (.int c_1531), .val (.int c_1532), .val (.int c_1533), .val (.int ln_1534), .val (.int ((p3 &&& (2147483647 : Int32)) % (7 : Int32))), .unset, .unset, .unset, .unset, .unset] [(.int (p3 &&& (2147483647 : Int32)))])
    refine S.istore 60 #[.val (.int p0), .val (.int p1), .val (.int p2), .val (.int p3), .val (.int c_1530), .val (.int c_1531), .val (.int c_1532), .val (.int c_1533), .val (.int ln_1534), .val (.int (p3 &&& (2147483647 : Int32))), .unset, .unset, .unset, .unset, .unset] (hb hby at_58) rfl ?_
    exact tail1536 _ (own_pos p3)
  · skip
    refine S.icmpY 60 (hb hby at_51) (qNeT hb3011) ?_
    exact tail1536 _ (own_pos7 p3)

theorem own_start {a0 : Array Value} {Z : State} (hw : ∀ d ∈ tables_1, d.before a0 Z = true) (hE : EW Z a0 consts_1) (hh : ∀ p ∈ consts_1, Jvm.Lit.constHeld Z p.1 p.2) (hcw : Jvm.Lit.compactW.before a0 Z = true) : CHv Z consts_1 Z.vm Z.heap :=
  CHv.start hE hh hcw (Tw hw 22 rfl) (Tw hw 5 rfl)
set_option maxRecDepth 65536 in
set_option maxHeartbeats 40000000 in
theorem own_comes {Post : Tables → Env → Array Value → State → Outcome → State → Prop} (hpost : ∀ tb e args s v u, (limb_1_1.after args s (.returned v) u = true ∧ limb_1_2.after args s (.returned v) u = true ∧ True) → ReturnedEndW s (.returned v) u (Jvm.fieldLocs frame_1_writes args s ++ Jvm.arrayLocs frame_1_arrays args s ++ Jvm.staticLocs frame_1_statics s) 24 1152 → Post tb e args s (.returned v) u) :
    ArmFor flags0 classFile x code maxLocals ret World_1 tables_1 room_1 Calls_1 rest_1 Pre_1 Post := by
  intro l hfl _ _ p e ha hc hk s m args below hf hA hF happ hP
  obtain ⟨hcalls, hrest, hpre⟩ := hP
  obtain ⟨-, -, -, hnamed, -, -, -, hat⟩ := (Spec.applies_iff hf).mp happ
  obtain ⟨hg, hn⟩ := and_e (Cond.before_iff.mp (show (Jvm.Cond.and given_1 narrow_1).before args s = true from hpre))
  obtain ⟨g0, q0⟩ := and_e hg
  obtain ⟨g1, q1⟩ := and_e q0
  obtain ⟨g2, q2⟩ := and_e q1
  obtain ⟨g3, q3⟩ := and_e q2
  obtain ⟨w0, w1, w2, w3, rfl⟩ : ∃ w0 w1 w2 w3 : Value, args = #[w0, w1, w2, w3] := by
    have hs : args.size = 4 := by simpa [Cond.value, given_1] using g0
    obtain ⟨L⟩ := args
    match L, hs with
    | [w0, w1, w2, w3], _ => exact ⟨w0, w1, w2, w3, rfl⟩
  have hw := fun d (hd : d ∈ tables_1) => atoms_spec (ws := Jvm.Cond.code x code maxLocals ret :: tables_1) hat d (List.mem_cons_of_mem _ hd)
  obtain ⟨hsets, hown0⟩ := atoms_of _ (rest_1_c_eq ▸ (show rest_1_c.before _ s = true from hrest))
  have hr0 := Cond.before_iff.mp hown0
  have hfit : Fit s := fun {y c} hc i hi => by
    obtain ⟨ha, rfl⟩ := Array.getElem?_eq_some_iff.mp hc
    have q := List.all_eq_true.mp ((Array.all_eq_true_iff_forall_mem.mp hF) _ (Array.getElem_mem ha)) i (List.mem_range.mpr hi)
    simpa [Array.getElem?_eq_getElem hi] using q
  obtain ⟨i0, e0⟩ := is_v g1
  obtain rfl : w0 = (.int i0) := Option.some.inj e0
  obtain ⟨i1, e1⟩ := is_v g2
  obtain rfl : w1 = (.int i1) := Option.some.inj e1
  obtain ⟨i2, e2⟩ := is_v g3
  obtain rfl : w2 = (.int i2) := Option.some.inj e2
  obtain ⟨i3, e3⟩ := is_v q3
  obtain rfl : w3 = (.int i3) := Option.some.inj e3
  obtain ⟨cz, cze⟩ := is_v (Cond.before_iff.mp (hsets _ (List.mem_of_getElem? (i := 1) rfl)))
  have cm : Com s := ⟨cz, Sta.start cze (Or.inl (hsets _ (List.mem_of_getElem? (i := 0) rfl))), gotF (Cond.eq_ints cze (Term.int_eval (0))) (not_v (Cond.before_iff.mp (hsets _ (List.mem_of_getElem? (i := 2) rfl))))⟩
  obtain ⟨fv, fve, fvr⟩ := isR_v (Cond.before_iff.mp (hsets _ (List.mem_of_getElem? (i := 8) rfl)))
  have sf : Sfo s := ⟨fv, Sta.start fve (Or.inl (hsets _ (List.mem_of_getElem? (i := 7) rfl))), fvr⟩
  have hcw : Jvm.Lit.compactW.before _ s = true := hsets _ (List.mem_of_getElem? (i := 2) rfl)
  have us : U16s s := ⟨Sta.start (eqI (Cond.before_iff.mp (hsets _ (List.mem_of_getElem? (i := 12) rfl)))) (Or.inl (hsets _ (List.mem_of_getElem? (i := 11) rfl))), Sta.start (eqI (Cond.before_iff.mp (hsets _ (List.mem_of_getElem? (i := 15) rfl)))) (Or.inl (hsets _ (List.mem_of_getElem? (i := 14) rfl))), Sta.start (eqI (Cond.before_iff.mp (hsets _ (List.mem_of_getElem? (i := 18) rfl)))) (Or.inl (hsets _ (List.mem_of_getElem? (i := 17) rfl)))⟩
  obtain ⟨n, o, h1, h2, h3, _, L, rfl, ⟨rfl, KK, N⟩, -, hq⟩ := own_law l s _ hw cm us sf s.heap s.heap.size (Old.start s) i0 i1 i2 i3 p e ha hc hk s m _ below hf ((Spec.applies_iff_loose hf).mp happ).1 ⟨rfl, State.Warmed39.refl s, rfl, (own_start hw (own_EW hw) hcalls.1 hcw), fun _ q => nomatch q⟩ trivial
  refine ⟨n, _, h1, h2, h3, hpost _ _ _ _ _ _ ⟨Cond.after_iff.mpr rfl, Cond.after_iff.mpr (eq_i res_at (Term.int_eval (1)) rfl), trivial⟩ ⟨hq.1, hq.2.1, hq.2.2.1, (hq.2.2.2.sift fun y hy => Or.inr (N y hy)).mono (by decide) (by decide)⟩⟩
theorem main_1_1 : Claimed_1_1 := own_comes fun _ _ _ _ _ _ h hF => ⟨h.1, hF⟩
theorem main_1_2 : Claimed_1_2 := own_comes fun _ _ _ _ _ _ h hF => ⟨h.2.1, hF⟩
end Jvm.Pilot.@@N@@
namespace Jvm.Pilot.@@N@@
open Jvm Jvm.ClassFile Sem Op Lib Jvm.Free Jvm.Stand Jvm.Pilot.@@N@@.Jvm.D
/-! MADE BY PROGRAM (witnessworld.py) out of the Statement's table words and the real class files: 20 classes; the members and pool entries that the words name. The judged class is class 1, her method 4. -/
namespace start1
open Jvm.ClassFile
def u (s : String) : CpInfo := .utf8 (stringToUtf16 s)
/-- a pool by its gaps: so many unusable entries, then the entry; so many at the end -/
def gap : Nat → List CpInfo → List CpInfo
  | 0, r => r
  | n + 1, r => .unusable :: gap n r
def poolList (es : List (Nat × CpInfo)) (last : Nat) : List CpInfo := es.foldr (fun e r => gap e.1 (e.2 :: r)) (gap last [])
def pool (es : List (Nat × CpInfo)) (last : Nat) : Array CpInfo := ⟨poolList es last⟩
def fileOf (pool : Array CpInfo) (this : Nat) (attrs : Array Attribute := #[]) (ms : Array MethodInfo := #[]) (fl : Nat := 33) (sup : Nat := 0) (ifs : Array Nat := #[]) (fds : Array FieldInfo := #[]) : ClassFile where
  minorVersion := 0
  majorVersion := 65
  constantPool := pool
  accessFlags := fl
  thisClass := this
  superClass := sup
  interfaces := ifs
  fields := fds
  methods := ms
  attributes := attrs
def plain (name : String) (sup : Option ClassId) : Class where
  name := name
  kind := .ordinary
  loader := none
  accessFlags := 33
  super := sup
  interfaces := #[]
  cf := none
  fields := #[]
  methods := #[]
  instanceTypes := #[]
  staticTypes := #[]
  resolved := #[]
  callSites := []
  init := .initialized
  statics := none
  mirror := none

def pool0 : Array CpInfo := pool [(5, u "<init>"), (0, u "()V"), (1, .class_ 10), (1, u "java/lang/Object")] 113

def k0c0 : Code := { maxStack := 0, maxLocals := 1, code := object_method_1_code, exceptionTable := #[], attributes := #[] }
def k0m0 : Method := { name := "<init>", desc := "()V", sig := { parameters := [], returnType := none }, accessFlags := 1, code := some k0c0 }
/-- java/lang/Object -/
def k0 : Class := { plain "java/lang/Object" none with
  accessFlags := 33
  interfaces := #[]
  cf := some (fileOf pool0 8 #[] #[{ accessFlags := 1, nameIndex := 5, descriptorIndex := 6, attributes := #[] }] 33 0 #[] #[])
  fields := #[]
  methods := #[k0m0]
  instanceTypes := #[]
  staticTypes := #[]
  resolved := Array.replicate 124 none
  statics := none }

def pool1 : Array CpInfo := pool [(2, .class_ 4), (1, u "java/lang/Object"), (0, u "<init>"), (0, u "()V"), (0, .methodref 8 9), (0, .class_ 10), (0, .nameAndType 11 12), (0, u "com/example/floatbook/floatbook/core/PlainDecimalDigitsEndPinLaw"), (0, u "dig"), (0, u "(C)Z"), (0, .integer 65535), (0, .integer 2147483647), (0, .integer 1879048192), (0, .class_ 17), (0, u "java/lang/String"), (0, .methodref 16 19), (0, .nameAndType 5 20), (0, u "([C)V"), (0, .methodref 22 23), (0, .class_ 24), (0, .nameAndType 25 26), (0, u "com/example/floatbook/floatbook/core/PlainDecimal"), (0, u "digitsEnd"), (0, u "(Ljava/lang/String;I)I"), (0, .methodref 8 28), (0, .nameAndType 29 30), (0, u "ok"), (0, u "(ICIII)Z"), (0, .methodref 8 32), (0, .nameAndType 33 34), (0, u "at"), (0, u "(CCCCI)C"), (3, u "law"), (0, u "(IIII)Z")] 4

def k1m0 : Method := { name := "<init>", desc := "()V", sig := { parameters := [], returnType := none }, accessFlags := 2, code := none }
def k1c1 : Code := { maxStack := 2, maxLocals := 1, code := method_2_code, exceptionTable := #[], attributes := #[] }
def k1m1 : Method := { name := "dig", desc := "(C)Z", sig := { parameters := [.char], returnType := some .boolean }, accessFlags := 10, code := some k1c1 }
def k1c2 : Code := { maxStack := 2, maxLocals := 5, code := method_3_code, exceptionTable := #[], attributes := #[] }
def k1m2 : Method := { name := "ok", desc := "(ICIII)Z", sig := { parameters := [.int, .char, .int, .int, .int], returnType := some .boolean }, accessFlags := 10, code := some k1c2 }
def k1c3 : Code := { maxStack := 2, maxLocals := 5, code := method_4_code, exceptionTable := #[], attributes := #[] }
def k1m3 : Method := { name := "at", desc := "(CCCCI)C", sig := { parameters := [.char, .char, .char, .char, .int], returnType := some .char }, accessFlags := 10, code := some k1c3 }
def k1c4 : Code := { maxStack := 5, maxLocals := 15, code := code, exceptionTable := #[], attributes := #[] }
def k1m4 : Method := { name := "law", desc := "(IIII)Z", sig := { parameters := [.int, .int, .int, .int], returnType := some .boolean }, accessFlags := 9, code := some k1c4 }
/-- com/example/floatbook/floatbook/core/PlainDecimalDigitsEndPinLaw -/
def k1 : Class := { plain "com/example/floatbook/floatbook/core/PlainDecimalDigitsEndPinLaw" (some 0) with
  accessFlags := 49
  interfaces := #[]
  cf := some (fileOf pool1 8 #[] #[{ accessFlags := 2, nameIndex := 5, descriptorIndex := 6, attributes := #[] }, { accessFlags := 10, nameIndex := 11, descriptorIndex := 12, attributes := #[] }, { accessFlags := 10, nameIndex := 29, descriptorIndex := 30, attributes := #[] }, { accessFlags := 10, nameIndex := 33, descriptorIndex := 34, attributes := #[] }, { accessFlags := 9, nameIndex := 38, descriptorIndex := 39, attributes := #[] }] 49 2 #[] #[])
  fields := #[]
  methods := #[k1m0, k1m1, k1m2, k1m3, k1m4]
  instanceTypes := #[]
  staticTypes := #[]
  resolved := Array.replicate 44 none
  statics := none }

def pool2 : Array CpInfo := pool [(1, .class_ 2), (0, u "java/io/Serializable"), (0, .class_ 4), (0, u "java/lang/Object")] 2

/-- java/io/Serializable -/
def k2 : Class := { plain "java/io/Serializable" (some 0) with
  accessFlags := 1537
  interfaces := #[]
  cf := some (fileOf pool2 1 #[] #[] 1537 3 #[] #[])
  fields := #[]
  methods := #[]
  instanceTypes := #[]
  staticTypes := #[]
  resolved := Array.replicate 7 none
  statics := none }

def pool3 : Array CpInfo := pool [(1, .class_ 2), (0, u "java/lang/Comparable"), (0, .class_ 4), (0, u "java/lang/Object")] 7

/-- java/lang/Comparable -/
def k3 : Class := { plain "java/lang/Comparable" (some 0) with
  accessFlags := 1537
  interfaces := #[]
  cf := some (fileOf pool3 1 #[] #[] 1537 3 #[] #[])
  fields := #[]
  methods := #[]
  instanceTypes := #[]
  staticTypes := #[]
  resolved := Array.replicate 12 none
  statics := none }

def pool4 : Array CpInfo := pool [(2, .class_ 4), (1, u "java/lang/CharSequence"), (42, .class_ 48), (0, u "java/lang/CharSequence$1CodePointIterator"), (10, .class_ 60), (0, u "java/lang/CharSequence$1CharIterator"), (5, .class_ 67), (0, u "java/lang/Object")] 63

/-- java/lang/CharSequence -/
def k4 : Class := { plain "java/lang/CharSequence" (some 0) with
  accessFlags := 1537
  interfaces := #[]
  cf := some (fileOf pool4 2 #[.nestMembers #[47, 59]] #[] 1537 66 #[] #[])
  fields := #[]
  methods := #[]
  instanceTypes := #[]
  staticTypes := #[]
  resolved := Array.replicate 131 none
  statics := none }

def pool5 : Array CpInfo := pool [(1, .class_ 2), (0, u "java/lang/constant/Constable"), (0, .class_ 4), (0, u "java/lang/Object")] 6

/-- java/lang/constant/Constable -/
def k5 : Class := { plain "java/lang/constant/Constable" (some 0) with
  accessFlags := 1537
  interfaces := #[]
  cf := some (fileOf pool5 1 #[] #[] 1537 3 #[] #[])
  fields := #[]
  methods := #[]
  instanceTypes := #[]
  staticTypes := #[]
  resolved := Array.replicate 11 none
  statics := none }

def pool6 : Array CpInfo := pool [(1, .class_ 2), (0, u "java/lang/constant/ConstantDesc"), (0, .class_ 4), (0, u "java/lang/Object")] 32

/-- java/lang/constant/ConstantDesc -/
def k6 : Class := { plain "java/lang/constant/ConstantDesc" (some 0) with
  accessFlags := 1537
  interfaces := #[]
  cf := some (fileOf pool6 1 #[] #[] 1537 3 #[] #[])
  fields := #[]
  methods := #[]
  instanceTypes := #[]
  staticTypes := #[]
  resolved := Array.replicate 37 none
  statics := none }

def pool7 : Array CpInfo := pool [(1, .methodref 2 3), (0, .class_ 4), (0, .nameAndType 5 6), (0, u "java/lang/Object"), (0, u "<init>"), (0, u "()V"), (0, .string 8), (0, u ""), (0, .fieldref 10 11), (0, .class_ 12), (0, .nameAndType 13 14), (0, u "java/lang/String"), (0, u "value"), (0, u "[B"), (0, .fieldref 10 16), (0, .nameAndType 17 18), (0, u "coder"), (0, u "B"), (2, u "hash"), (0, u "I"), (2, u "hashIsZero"), (0, u "Z"), (0, .methodref 10 28), (0, .nameAndType 5 29), (0, u "([CIILjava/lang/Void;)V"), (8, .fieldref 10 39), (0, .nameAndType 40 26), (0, u "COMPACT_STRINGS"), (1, .class_ 44), (1, u "java/lang/StringUTF16"), (0, u "compress"), (1, .methodref 42 48), (0, .nameAndType 49 50), (0, u "coderFromArrayLen"), (0, u "([BI)B"), (56, .class_ 109), (1, u "java/lang/StringLatin1"), (32, u "()Z"), (34, .methodref 42 178), (0, .nameAndType 45 179), (0, u "([CII)[B"), (154, u "()I"), (0, .methodref 10 336), (0, .nameAndType 17 337), (0, u "()B"), (25, u "([BI)C"), (27, u "(II)V"), (35, u "(I)C"), (64, .methodref 10 493), (0, .nameAndType 494 142), (0, u "isLatin1"), (0, .methodref 107 496), (0, .nameAndType 497 363), (0, u "charAt"), (0, .methodref 42 496), (2, u "checkIndex"), (5, u "length"), (67, .class_ 576), (0, u "java/lang/CharSequence"), (22, u "CASE_INSENSITIVE_ORDER"), (0, u "Ljava/util/Comparator;"), (409, u "([C)V"), (42, .fieldref 1054 1055), (0, .class_ 1056), (0, .nameAndType 1057 1058), (0, u "jdk/internal/util/Preconditions"), (0, u "SIOOBE_FORMATTER"), (0, u "Ljava/util/function/BiFunction;"), (0, .methodref 1054 1060), (0, .nameAndType 501 1061), (0, u "(IILjava/util/function/BiFunction;)I"), (39, u "serialPersistentFields"), (0, u "[Ljava/io/ObjectStreamField;"), (0, .class_ 1104), (0, u "java/lang/String$CaseInsensitiveComparator"), (1, .class_ 1107), (0, u "java/io/Serializable"), (0, .class_ 1109), (0, u "java/lang/Comparable"), (0, .class_ 1111), (0, u "java/lang/constant/Constable"), (0, .class_ 1113), (0, u "java/lang/constant/ConstantDesc"), (2, u "serialVersionUID"), (0, u "J"), (3, u "REPL"), (0, u "C"), (2, u "LATIN1"), (1, u "UTF16")] 323

def k7m0 : Method := { name := "<init>", desc := "()V", sig := { parameters := [], returnType := none }, accessFlags := 1, code := none }
def k7c1 : Code := { maxStack := 5, maxLocals := 2, code := jdk_42_method_3_code, exceptionTable := #[], attributes := #[] }
def k7m1 : Method := { name := "<init>", desc := "([C)V", sig := { parameters := [(.array .char)], returnType := none }, accessFlags := 1, code := some k7c1 }
def k7c2 : Code := { maxStack := 2, maxLocals := 1, code := jdk_42_method_54_code, exceptionTable := #[], attributes := #[] }
def k7m2 : Method := { name := "length", desc := "()I", sig := { parameters := [], returnType := some .int }, accessFlags := 1, code := some k7c2 }
def k7c3 : Code := { maxStack := 2, maxLocals := 2, code := jdk_42_method_56_code, exceptionTable := #[], attributes := #[] }
def k7m3 : Method := { name := "charAt", desc := "(I)C", sig := { parameters := [.int], returnType := some .char }, accessFlags := 1, code := some k7c3 }
def k7c4 : Code := { maxStack := 4, maxLocals := 6, code := jdk_42_method_149_code, exceptionTable := #[], attributes := #[] }
def k7m4 : Method := { name := "<init>", desc := "([CIILjava/lang/Void;)V", sig := { parameters := [(.array .char), .int, .int, (.object "java/lang/Void")], returnType := none }, accessFlags := 2, code := some k7c4 }
def k7c5 : Code := { maxStack := 1, maxLocals := 1, code := jdk_42_method_152_code, exceptionTable := #[], attributes := #[] }
def k7m5 : Method := { name := "coder", desc := "()B", sig := { parameters := [], returnType := some .byte }, accessFlags := 0, code := some k7c5 }
def k7c6 : Code := { maxStack := 1, maxLocals := 1, code := jdk_42_method_154_code, exceptionTable := #[], attributes := #[] }
def k7m6 : Method := { name := "isLatin1", desc := "()Z", sig := { parameters := [], returnType := some .boolean }, accessFlags := 0, code := some k7c6 }
def k7c7 : Code := { maxStack := 3, maxLocals := 2, code := jdk_42_method_155_code, exceptionTable := #[], attributes := #[] }
def k7m7 : Method := { name := "checkIndex", desc := "(II)V", sig := { parameters := [.int, .int], returnType := none }, accessFlags := 8, code := some k7c7 }
/-- java/lang/String -/
def k7 : Class := { plain "java/lang/String" (some 0) with
  accessFlags := 49
  interfaces := #[2, 3, 4, 5, 6]
  cf := some (fileOf pool7 10 #[.nestMembers #[1103]] #[{ accessFlags := 1, nameIndex := 5, descriptorIndex := 6, attributes := #[] }, { accessFlags := 1, nameIndex := 5, descriptorIndex := 1010, attributes := #[] }, { accessFlags := 1, nameIndex := 507, descriptorIndex := 334, attributes := #[] }, { accessFlags := 1, nameIndex := 497, descriptorIndex := 427, attributes := #[] }, { accessFlags := 2, nameIndex := 5, descriptorIndex := 29, attributes := #[] }, { accessFlags := 0, nameIndex := 17, descriptorIndex := 337, attributes := #[] }, { accessFlags := 0, nameIndex := 494, descriptorIndex := 142, attributes := #[] }, { accessFlags := 8, nameIndex := 501, descriptorIndex := 391, attributes := #[] }] 49 2 #[1106, 1108, 575, 1110, 1112] #[{ accessFlags := 18, nameIndex := 13, descriptorIndex := 14, attributes := #[] }, { accessFlags := 18, nameIndex := 17, descriptorIndex := 18, attributes := #[] }, { accessFlags := 2, nameIndex := 21, descriptorIndex := 22, attributes := #[] }, { accessFlags := 2, nameIndex := 25, descriptorIndex := 26, attributes := #[] }, { accessFlags := 26, nameIndex := 1116, descriptorIndex := 1117, attributes := #[] }, { accessFlags := 24, nameIndex := 40, descriptorIndex := 26, attributes := #[] }, { accessFlags := 26, nameIndex := 1101, descriptorIndex := 1102, attributes := #[] }, { accessFlags := 26, nameIndex := 1121, descriptorIndex := 1122, attributes := #[] }, { accessFlags := 25, nameIndex := 599, descriptorIndex := 600, attributes := #[] }, { accessFlags := 24, nameIndex := 1125, descriptorIndex := 18, attributes := #[] }, { accessFlags := 24, nameIndex := 1127, descriptorIndex := 18, attributes := #[] }])
  fields := #[{ name := "value", type := (.array .byte), accessFlags := 18, slot := 0, constantValue := 0 }, { name := "coder", type := .byte, accessFlags := 18, slot := 1, constantValue := 0 }, { name := "hash", type := .int, accessFlags := 2, slot := 2, constantValue := 0 }, { name := "hashIsZero", type := .boolean, accessFlags := 2, slot := 3, constantValue := 0 }, { name := "serialVersionUID", type := .long, accessFlags := 26, slot := 0, constantValue := 0 }, { name := "COMPACT_STRINGS", type := .boolean, accessFlags := 24, slot := 1, constantValue := 0 }, { name := "serialPersistentFields", type := (.array (.object "java/io/ObjectStreamField")), accessFlags := 26, slot := 2, constantValue := 0 }, { name := "REPL", type := .char, accessFlags := 26, slot := 3, constantValue := 0 }, { name := "CASE_INSENSITIVE_ORDER", type := (.object "java/util/Comparator"), accessFlags := 25, slot := 4, constantValue := 0 }, { name := "LATIN1", type := .byte, accessFlags := 24, slot := 5, constantValue := 0 }, { name := "UTF16", type := .byte, accessFlags := 24, slot := 6, constantValue := 0 }]
  methods := #[k7m0, k7m1, k7m2, k7m3, k7m4, k7m5, k7m6, k7m7]
  instanceTypes := #[(.array .byte), .byte, .int, .boolean]
  staticTypes := #[.long, .boolean, (.array (.object "java/io/ObjectStreamField")), .char, (.object "java/util/Comparator"), .byte, .byte]
  resolved := Array.replicate 1451 none
  statics := some 0 }

def pool8 : Array CpInfo := pool [(3, .class_ 4), (0, u "java/lang/String"), (1, .class_ 8), (1, u "java/lang/Object"), (0, u "<init>"), (0, u "()V"), (0, .methodref 12 13), (0, .class_ 14), (0, .nameAndType 15 16), (0, u "java/lang/StringUTF16"), (0, u "newBytesLength"), (0, u "(I)I"), (3, .integer 1073741823), (23, .fieldref 12 45), (0, .nameAndType 46 47), (0, u "$assertionsDisabled"), (0, u "Z"), (0, .methodref 12 49), (0, .nameAndType 50 51), (0, u "length"), (0, u "([B)I"), (7, .fieldref 12 60), (0, .nameAndType 61 62), (0, u "HI_BYTE_SHIFT"), (0, u "I"), (0, .fieldref 12 64), (0, .nameAndType 65 62), (0, u "LO_BYTE_SHIFT"), (1, .methodref 12 68), (0, .nameAndType 69 70), (0, u "checkIndex"), (0, u "(I[B)V"), (0, .methodref 12 72), (0, .nameAndType 73 74), (0, u "getChar"), (0, u "([BI)C"), (32, .methodref 12 108), (0, .nameAndType 109 110), (0, u "newBytesFor"), (0, u "(I)[B"), (0, .methodref 12 112), (0, .nameAndType 113 114), (0, u "putChar"), (0, u "([BII)V"), (0, .methodref 12 116), (0, .nameAndType 117 118), (0, u "compress"), (0, u "([CI[BII)I"), (0, .methodref 12 120), (0, .nameAndType 121 122), (0, u "toBytes"), (0, u "([CII)[B"), (138, u "coderFromArrayLen"), (0, u "([BI)B"), (106, .class_ 371), (1, u "java/lang/StringUTF16$LinesSpliterator"), (20, u "charAt"), (21, .methodref 3 415), (0, .nameAndType 69 416), (0, u "(II)V"), (13, u "MAX_LENGTH"), (196, .class_ 628), (0, u "java/lang/StringUTF16$CodePointsSpliterator"), (0, .class_ 630), (0, u "java/lang/StringUTF16$CharsSpliterator")] 4

def k8m0 : Method := { name := "<init>", desc := "()V", sig := { parameters := [], returnType := none }, accessFlags := 0, code := none }
def k8c1 : Code := { maxStack := 1, maxLocals := 1, code := jdk_52_method_2_code, exceptionTable := #[], attributes := #[] }
def k8m1 : Method := { name := "newBytesFor", desc := "(I)[B", sig := { parameters := [.int], returnType := some (.array .byte) }, accessFlags := 9, code := some k8c1 }
def k8c2 : Code := { maxStack := 4, maxLocals := 1, code := jdk_52_method_3_code, exceptionTable := #[], attributes := #[] }
def k8m2 : Method := { name := "newBytesLength", desc := "(I)I", sig := { parameters := [.int], returnType := some .int }, accessFlags := 9, code := some k8c2 }
def k8c3 : Code := { maxStack := 4, maxLocals := 3, code := jdk_52_method_4_code, exceptionTable := #[], attributes := #[] }
def k8m3 : Method := { name := "putChar", desc := "([BII)V", sig := { parameters := [(.array .byte), .int, .int], returnType := none }, accessFlags := 8, code := some k8c3 }
def k8c4 : Code := { maxStack := 3, maxLocals := 2, code := jdk_52_method_5_code, exceptionTable := #[], attributes := #[] }
def k8m4 : Method := { name := "getChar", desc := "([BI)C", sig := { parameters := [(.array .byte), .int], returnType := some .char }, accessFlags := 8, code := some k8c4 }
def k8c5 : Code := { maxStack := 2, maxLocals := 1, code := jdk_52_method_6_code, exceptionTable := #[], attributes := #[] }
def k8m5 : Method := { name := "length", desc := "([B)I", sig := { parameters := [(.array .byte)], returnType := some .int }, accessFlags := 9, code := some k8c5 }
def k8c6 : Code := { maxStack := 4, maxLocals := 5, code := jdk_52_method_14_code, exceptionTable := #[], attributes := #[] }
def k8m6 : Method := { name := "toBytes", desc := "([CII)[B", sig := { parameters := [(.array .char), .int, .int], returnType := some (.array .byte) }, accessFlags := 9, code := some k8c6 }
def k8c7 : Code := { maxStack := 2, maxLocals := 2, code := jdk_52_method_15_code, exceptionTable := #[], attributes := #[] }
def k8m7 : Method := { name := "coderFromArrayLen", desc := "([BI)B", sig := { parameters := [(.array .byte), .int], returnType := some .byte }, accessFlags := 8, code := some k8c7 }
def k8c8 : Code := { maxStack := 5, maxLocals := 6, code := jdk_52_method_16_code, exceptionTable := #[], attributes := #[] }
def k8m8 : Method := { name := "compress", desc := "([CII)[B", sig := { parameters := [(.array .char), .int, .int], returnType := some (.array .byte) }, accessFlags := 9, code := some k8c8 }
def k8c9 : Code := { maxStack := 3, maxLocals := 7, code := jdk_52_method_21_code, exceptionTable := #[], attributes := #[] }
def k8m9 : Method := { name := "compress", desc := "([CI[BII)I", sig := { parameters := [(.array .char), .int, (.array .byte), .int, .int], returnType := some .int }, accessFlags := 9, code := some k8c9 }
def k8c10 : Code := { maxStack := 2, maxLocals := 2, code := jdk_52_method_83_code, exceptionTable := #[], attributes := #[] }
def k8m10 : Method := { name := "charAt", desc := "([BI)C", sig := { parameters := [(.array .byte), .int], returnType := some .char }, accessFlags := 9, code := some k8c10 }
def k8c11 : Code := { maxStack := 2, maxLocals := 2, code := jdk_52_method_91_code, exceptionTable := #[], attributes := #[] }
def k8m11 : Method := { name := "checkIndex", desc := "(I[B)V", sig := { parameters := [.int, (.array .byte)], returnType := none }, accessFlags := 9, code := some k8c11 }
/-- java/lang/StringUTF16 -/
def k8 : Class := { plain "java/lang/StringUTF16" (some 0) with
  accessFlags := 48
  interfaces := #[]
  cf := some (fileOf pool8 12 #[.nestMembers #[627, 629, 369]] #[{ accessFlags := 0, nameIndex := 9, descriptorIndex := 10, attributes := #[] }, { accessFlags := 9, nameIndex := 109, descriptorIndex := 110, attributes := #[] }, { accessFlags := 9, nameIndex := 15, descriptorIndex := 16, attributes := #[] }, { accessFlags := 8, nameIndex := 113, descriptorIndex := 114, attributes := #[] }, { accessFlags := 8, nameIndex := 73, descriptorIndex := 74, attributes := #[] }, { accessFlags := 9, nameIndex := 50, descriptorIndex := 51, attributes := #[] }, { accessFlags := 9, nameIndex := 121, descriptorIndex := 122, attributes := #[] }, { accessFlags := 8, nameIndex := 261, descriptorIndex := 262, attributes := #[] }, { accessFlags := 9, nameIndex := 117, descriptorIndex := 122, attributes := #[] }, { accessFlags := 9, nameIndex := 117, descriptorIndex := 118, attributes := #[] }, { accessFlags := 9, nameIndex := 392, descriptorIndex := 74, attributes := #[] }, { accessFlags := 9, nameIndex := 69, descriptorIndex := 70, attributes := #[] }] 48 6 #[] #[{ accessFlags := 26, nameIndex := 61, descriptorIndex := 62, attributes := #[] }, { accessFlags := 26, nameIndex := 65, descriptorIndex := 62, attributes := #[] }, { accessFlags := 24, nameIndex := 430, descriptorIndex := 62, attributes := #[] }, { accessFlags := 4120, nameIndex := 46, descriptorIndex := 47, attributes := #[] }])
  fields := #[{ name := "HI_BYTE_SHIFT", type := .int, accessFlags := 26, slot := 0, constantValue := 0 }, { name := "LO_BYTE_SHIFT", type := .int, accessFlags := 26, slot := 1, constantValue := 0 }, { name := "MAX_LENGTH", type := .int, accessFlags := 24, slot := 2, constantValue := 0 }, { name := "$assertionsDisabled", type := .boolean, accessFlags := 4120, slot := 3, constantValue := 0 }]
  methods := #[k8m0, k8m1, k8m2, k8m3, k8m4, k8m5, k8m6, k8m7, k8m8, k8m9, k8m10, k8m11]
  instanceTypes := #[]
  staticTypes := #[.int, .int, .int, .boolean]
  resolved := Array.replicate 635 none
  statics := some 1 }

def pool9 : Array CpInfo := pool [(2, .class_ 4), (1, u "java/lang/Object"), (0, u "<init>"), (0, u "()V"), (11, .class_ 20), (1, u "java/lang/String"), (3, .class_ 26), (1, u "com/example/floatbook/floatbook/core/PlainDecimal"), (0, u "digitsEnd"), (0, u "(Ljava/lang/String;I)I"), (6, .methodref 18 36), (0, .nameAndType 37 38), (0, u "length"), (0, u "()I"), (0, .methodref 18 40), (0, .nameAndType 41 42), (0, u "charAt"), (0, u "(I)C")] 18

def k9m0 : Method := { name := "<init>", desc := "()V", sig := { parameters := [], returnType := none }, accessFlags := 2, code := none }
def k9c1 : Code := { maxStack := 2, maxLocals := 3, code := prog_22_method_3_code, exceptionTable := #[], attributes := #[] }
def k9m1 : Method := { name := "digitsEnd", desc := "(Ljava/lang/String;I)I", sig := { parameters := [(.object "java/lang/String"), .int], returnType := some .int }, accessFlags := 8, code := some k9c1 }
/-- com/example/floatbook/floatbook/core/PlainDecimal -/
def k9 : Class := { plain "com/example/floatbook/floatbook/core/PlainDecimal" (some 0) with
  accessFlags := 49
  interfaces := #[]
  cf := some (fileOf pool9 24 #[] #[{ accessFlags := 2, nameIndex := 5, descriptorIndex := 6, attributes := #[] }, { accessFlags := 8, nameIndex := 27, descriptorIndex := 28, attributes := #[] }] 49 2 #[] #[])
  fields := #[]
  methods := #[k9m0, k9m1]
  instanceTypes := #[]
  staticTypes := #[]
  resolved := Array.replicate 61 none
  statics := none }

def pool10 : Array CpInfo := pool [(1, .class_ 2), (0, u "java/lang/String"), (1, .class_ 6), (1, u "java/lang/Object"), (0, u "<init>"), (0, u "()V"), (0, .methodref 1 10), (0, .nameAndType 11 12), (0, u "checkIndex"), (0, u "(II)V"), (1, .class_ 16), (1, u "java/lang/StringLatin1"), (36, u "([BI)C"), (67, u "$assertionsDisabled"), (0, u "Z"), (98, .class_ 223), (1, u "java/lang/StringLatin1$LinesSpliterator"), (28, u "charAt"), (137, .class_ 391), (0, u "java/lang/StringLatin1$CharsSpliterator")] 3

def k10m0 : Method := { name := "<init>", desc := "()V", sig := { parameters := [], returnType := none }, accessFlags := 0, code := none }
def k10c1 : Code := { maxStack := 2, maxLocals := 2, code := jdk_43_method_2_code, exceptionTable := #[], attributes := #[] }
def k10m1 : Method := { name := "charAt", desc := "([BI)C", sig := { parameters := [(.array .byte), .int], returnType := some .char }, accessFlags := 9, code := some k10c1 }
/-- java/lang/StringLatin1 -/
def k10 : Class := { plain "java/lang/StringLatin1" (some 0) with
  accessFlags := 48
  interfaces := #[]
  cf := some (fileOf pool10 14 #[.nestMembers #[390, 221]] #[{ accessFlags := 0, nameIndex := 7, descriptorIndex := 8, attributes := #[] }, { accessFlags := 9, nameIndex := 252, descriptorIndex := 53, attributes := #[] }] 48 4 #[] #[{ accessFlags := 4120, nameIndex := 121, descriptorIndex := 122, attributes := #[] }])
  fields := #[{ name := "$assertionsDisabled", type := .boolean, accessFlags := 4120, slot := 0, constantValue := 0 }]
  methods := #[k10m0, k10m1]
  instanceTypes := #[]
  staticTypes := #[.boolean]
  resolved := Array.replicate 395 none
  statics := none }

def pool11 : Array CpInfo := pool [(2, .class_ 4), (1, u "java/lang/Object"), (0, u "<init>"), (0, u "()V"), (17, .class_ 26), (1, u "jdk/internal/util/Preconditions"), (6, u "checkIndex"), (21, .class_ 56), (0, u "jdk/internal/util/Preconditions$4"), (57, .class_ 115), (0, u "jdk/internal/util/Preconditions$1"), (7, u "SIOOBE_FORMATTER"), (0, u "Ljava/util/function/BiFunction;"), (0, .class_ 126), (0, u "jdk/internal/util/Preconditions$2"), (3, u "AIOOBE_FORMATTER"), (0, .class_ 132), (0, u "jdk/internal/util/Preconditions$3"), (3, u "IOOBE_FORMATTER"), (41, u "(IILjava/util/function/BiFunction;)I")] 15

def k11m0 : Method := { name := "<init>", desc := "()V", sig := { parameters := [], returnType := none }, accessFlags := 1, code := none }
def k11c1 : Code := { maxStack := 3, maxLocals := 3, code := jdk_41_method_11_code, exceptionTable := #[], attributes := #[] }
def k11m1 : Method := { name := "checkIndex", desc := "(IILjava/util/function/BiFunction;)I", sig := { parameters := [.int, .int, (.object "java/util/function/BiFunction")], returnType := some .int }, accessFlags := 9, code := some k11c1 }
/-- jdk/internal/util/Preconditions -/
def k11 : Class := { plain "jdk/internal/util/Preconditions" (some 0) with
  accessFlags := 33
  interfaces := #[]
  cf := some (fileOf pool11 24 #[.nestMembers #[55, 131, 125, 114]] #[{ accessFlags := 1, nameIndex := 5, descriptorIndex := 6, attributes := #[] }, { accessFlags := 9, nameIndex := 33, descriptorIndex := 178, attributes := #[] }] 33 2 #[] #[{ accessFlags := 25, nameIndex := 123, descriptorIndex := 124, attributes := #[] }, { accessFlags := 25, nameIndex := 130, descriptorIndex := 124, attributes := #[] }, { accessFlags := 25, nameIndex := 136, descriptorIndex := 124, attributes := #[] }])
  fields := #[{ name := "SIOOBE_FORMATTER", type := (.object "java/util/function/BiFunction"), accessFlags := 25, slot := 0, constantValue := 0 }, { name := "AIOOBE_FORMATTER", type := (.object "java/util/function/BiFunction"), accessFlags := 25, slot := 1, constantValue := 0 }, { name := "IOOBE_FORMATTER", type := (.object "java/util/function/BiFunction"), accessFlags := 25, slot := 2, constantValue := 0 }]
  methods := #[k11m0, k11m1]
  instanceTypes := #[]
  staticTypes := #[(.object "java/util/function/BiFunction"), (.object "java/util/function/BiFunction"), (.object "java/util/function/BiFunction")]
  resolved := Array.replicate 194 none
  statics := some 2 }

def pool12 : Array CpInfo := pool [(9, u "<init>"), (6, .class_ 18), (1, u "java/lang/Object"), (0, u "()V"), (1, .class_ 23), (1, u "jdk/internal/util/ArraysSupport"), (0, u "LOG2_ARRAY_LONG_INDEX_SCALE"), (0, u "I"), (2, u "U"), (0, u "Ljdk/internal/misc/Unsafe;"), (8, u "BIG_ENDIAN"), (0, u "Z"), (8, u "LOG2_BYTE_BIT_SIZE"), (4, u "LOG2_ARRAY_INT_INDEX_SCALE"), (54, u "JLA"), (0, u "Ljdk/internal/access/JavaLangAccess;"), (11, u "LOG2_ARRAY_BOOLEAN_INDEX_SCALE"), (9, u "LOG2_ARRAY_BYTE_INDEX_SCALE"), (5, u "LOG2_ARRAY_CHAR_INDEX_SCALE"), (5, u "LOG2_ARRAY_SHORT_INDEX_SCALE"), (18, u "LOG2_ARRAY_FLOAT_INDEX_SCALE"), (24, u "LOG2_ARRAY_DOUBLE_INDEX_SCALE"), (89, u "T_BOOLEAN"), (2, u "T_CHAR"), (1, u "T_FLOAT"), (1, u "T_DOUBLE"), (1, u "T_BYTE"), (1, u "T_SHORT"), (1, u "T_INT"), (1, u "T_LONG"), (1, u "SOFT_MAX_ARRAY_LENGTH")] 83

def k12m0 : Method := { name := "<init>", desc := "()V", sig := { parameters := [], returnType := none }, accessFlags := 2, code := none }
/-- jdk/internal/util/ArraysSupport -/
def k12 : Class := { plain "jdk/internal/util/ArraysSupport" (some 0) with
  accessFlags := 33
  interfaces := #[]
  cf := some (fileOf pool12 21 #[] #[{ accessFlags := 2, nameIndex := 9, descriptorIndex := 19, attributes := #[] }] 33 16 #[] #[{ accessFlags := 24, nameIndex := 28, descriptorIndex := 29, attributes := #[] }, { accessFlags := 26, nameIndex := 38, descriptorIndex := 39, attributes := #[] }, { accessFlags := 25, nameIndex := 121, descriptorIndex := 25, attributes := #[] }, { accessFlags := 25, nameIndex := 131, descriptorIndex := 25, attributes := #[] }, { accessFlags := 25, nameIndex := 137, descriptorIndex := 25, attributes := #[] }, { accessFlags := 25, nameIndex := 143, descriptorIndex := 25, attributes := #[] }, { accessFlags := 25, nameIndex := 53, descriptorIndex := 25, attributes := #[] }, { accessFlags := 25, nameIndex := 24, descriptorIndex := 25, attributes := #[] }, { accessFlags := 25, nameIndex := 162, descriptorIndex := 25, attributes := #[] }, { accessFlags := 25, nameIndex := 187, descriptorIndex := 25, attributes := #[] }, { accessFlags := 26, nameIndex := 48, descriptorIndex := 25, attributes := #[] }, { accessFlags := 25, nameIndex := 277, descriptorIndex := 25, attributes := #[] }, { accessFlags := 25, nameIndex := 280, descriptorIndex := 25, attributes := #[] }, { accessFlags := 25, nameIndex := 282, descriptorIndex := 25, attributes := #[] }, { accessFlags := 25, nameIndex := 284, descriptorIndex := 25, attributes := #[] }, { accessFlags := 25, nameIndex := 286, descriptorIndex := 25, attributes := #[] }, { accessFlags := 25, nameIndex := 288, descriptorIndex := 25, attributes := #[] }, { accessFlags := 25, nameIndex := 290, descriptorIndex := 25, attributes := #[] }, { accessFlags := 25, nameIndex := 292, descriptorIndex := 25, attributes := #[] }, { accessFlags := 26, nameIndex := 108, descriptorIndex := 109, attributes := #[] }, { accessFlags := 25, nameIndex := 294, descriptorIndex := 25, attributes := #[] }])
  fields := #[{ name := "U", type := (.object "jdk/internal/misc/Unsafe"), accessFlags := 24, slot := 0, constantValue := 0 }, { name := "BIG_ENDIAN", type := .boolean, accessFlags := 26, slot := 1, constantValue := 0 }, { name := "LOG2_ARRAY_BOOLEAN_INDEX_SCALE", type := .int, accessFlags := 25, slot := 2, constantValue := 0 }, { name := "LOG2_ARRAY_BYTE_INDEX_SCALE", type := .int, accessFlags := 25, slot := 3, constantValue := 0 }, { name := "LOG2_ARRAY_CHAR_INDEX_SCALE", type := .int, accessFlags := 25, slot := 4, constantValue := 0 }, { name := "LOG2_ARRAY_SHORT_INDEX_SCALE", type := .int, accessFlags := 25, slot := 5, constantValue := 0 }, { name := "LOG2_ARRAY_INT_INDEX_SCALE", type := .int, accessFlags := 25, slot := 6, constantValue := 0 }, { name := "LOG2_ARRAY_LONG_INDEX_SCALE", type := .int, accessFlags := 25, slot := 7, constantValue := 0 }, { name := "LOG2_ARRAY_FLOAT_INDEX_SCALE", type := .int, accessFlags := 25, slot := 8, constantValue := 0 }, { name := "LOG2_ARRAY_DOUBLE_INDEX_SCALE", type := .int, accessFlags := 25, slot := 9, constantValue := 0 }, { name := "LOG2_BYTE_BIT_SIZE", type := .int, accessFlags := 26, slot := 10, constantValue := 0 }, { name := "T_BOOLEAN", type := .int, accessFlags := 25, slot := 11, constantValue := 0 }, { name := "T_CHAR", type := .int, accessFlags := 25, slot := 12, constantValue := 0 }, { name := "T_FLOAT", type := .int, accessFlags := 25, slot := 13, constantValue := 0 }, { name := "T_DOUBLE", type := .int, accessFlags := 25, slot := 14, constantValue := 0 }, { name := "T_BYTE", type := .int, accessFlags := 25, slot := 15, constantValue := 0 }, { name := "T_SHORT", type := .int, accessFlags := 25, slot := 16, constantValue := 0 }, { name := "T_INT", type := .int, accessFlags := 25, slot := 17, constantValue := 0 }, { name := "T_LONG", type := .int, accessFlags := 25, slot := 18, constantValue := 0 }, { name := "JLA", type := (.object "jdk/internal/access/JavaLangAccess"), accessFlags := 26, slot := 19, constantValue := 0 }, { name := "SOFT_MAX_ARRAY_LENGTH", type := .int, accessFlags := 25, slot := 20, constantValue := 0 }]
  methods := #[k12m0]
  instanceTypes := #[]
  staticTypes := #[(.object "jdk/internal/misc/Unsafe"), .boolean, .int, .int, .int, .int, .int, .int, .int, .int, .int, .int, .int, .int, .int, .int, .int, .int, .int, (.object "jdk/internal/access/JavaLangAccess"), .int]
  resolved := Array.replicate 378 none
  statics := none }

def pool13 : Array CpInfo := pool [(1, u "java/lang/Cloneable"), (0, .class_ 1), (0, u "java/lang/Object"), (0, .class_ 3)] 3

/-- java/lang/Cloneable -/
def k13 : Class := { plain "java/lang/Cloneable" (some 0) with
  accessFlags := 1537
  interfaces := #[]
  cf := some (fileOf pool13 2 #[] #[] 1537 4 #[] #[])
  fields := #[]
  methods := #[]
  instanceTypes := #[]
  staticTypes := #[]
  resolved := Array.replicate 8 none
  statics := none }

/-- the primitive byte -/
def k14 : Class := { plain "byte" none with kind := .primitive 'B', accessFlags := 0x411 }
/-- [B -/
def k15 : Class := { plain "[B" (some 0) with kind := .array 14 .byte, interfaces := #[13, 2], accessFlags := 1041 }

/-- the primitive char -/
def k16 : Class := { plain "char" none with kind := .primitive 'C', accessFlags := 0x411 }
/-- [C -/
def k17 : Class := { plain "[C" (some 0) with kind := .array 16 .char, interfaces := #[13, 2], accessFlags := 1041 }

/-- the primitive int -/
def k18 : Class := { plain "int" none with kind := .primitive 'I', accessFlags := 0x411 }
/-- [I -/
def k19 : Class := { plain "[I" (some 0) with kind := .array 18 .int, interfaces := #[13, 2], accessFlags := 1041 }

def heap : Heap := #[{ cls := 7, slots := #[.long 0, .int 1, .null, .int 0, .null, .int 0, .int 0], vm := .statics 7 },
  { cls := 8, slots := #[.int 0, .int 8, .int 0, .int 1], vm := .statics 8 },
  { cls := 11, slots := #[.null, .null, .null], vm := .statics 11 }]
def classes : Array Class := #[k0, k1, k2, k3, k4, k5, k6, k7, k8, k9, k10, k11, k12, k13, k14, k15, k16, k17, k18, k19]
def interned : List (Array UInt16 × Addr) := []
def slotsUsed : Nat := 14
def theMethod : MethodId := ⟨1, 4⟩
def args0 : Array Value := #[.int 53, .int 54, .int 2, .int 1]
def aboutOver (below : List Frame) : State where
  vm := { classes := classes, interned := interned.toArray }
  heap := heap
  slotsUsed := slotsUsed
  threads := #[{ frames := .invoking theMethod args0 :: below }]
def below0 : List Frame := [.native { method := ⟨0, 0⟩, args := #[] }]
def about1 : State := aboutOver below0
def p0 : Program := .bare "" "" ""
def e0 : Env := launch0.env 0 0 0
theorem w_frames : about1.frames = Frame.invoking theMethod args0 :: below0 := rfl
set_option maxRecDepth 65536 in
theorem w_args : argsFit about1.vm theMethod args0 = true := by decide +kernel
set_option maxRecDepth 65536 in
theorem w_heap : heapFits about1 = true := by decide +kernel
set_option maxRecDepth 65536 in
theorem w_runnable : about1.curStatus? = some .runnable := by decide +kernel
set_option maxRecDepth 65536 in
theorem w_alone : about1.alone = true := by decide +kernel
set_option maxRecDepth 65536 in
theorem w_named : about1.methodNamed? x = some theMethod := by decide +kernel
set_option maxRecDepth 65536 in
theorem w_hears : about1.hears theMethod below0 = true := by decide +kernel
set_option maxRecDepth 65536 in
theorem w_ripe : about1.ripe theMethod args0 below0 = true := by decide +kernel
theorem w_running : about1.status = .running := rfl
set_option maxRecDepth 65536 in
theorem w_room : about1.hasRoom e0.platform room_1 = true :=
  launch0.hasRoom_least _ room_1 (by decide +kernel) (by decide +kernel) (by decide +kernel) (by decide +kernel) (by decide +kernel) (by decide +kernel)
theorem allAtoms_all (ts : List Jvm.Cond) (a : Array Jvm.Value) (st : Jvm.State) : (allAtoms ts).before a st = ts.all (fun c => c.before a st) := by
  induction ts with
  | nil => rfl
  | cons c t ih =>
    show (Jvm.Cond.and c (allAtoms t)).before a st = _
    rw [Jvm.Cond.before_and, ih, List.all_cons]
def words1 : List Jvm.Cond := Jvm.Cond.code x code maxLocals ret :: tables_1
/-- a 'code' word, met by the world's own term for the bytes: nothing is compared byte by byte -/
theorem code_word {y : MethodName} {bytes : ByteArray} {mx : Nat} {rt : Option FieldType} {a : Array Value} {s : State} {m : MethodId} {meth : Method} {c : Code} (h1 : s.methodNamed? y = some m) (h2 : s.vm.method? m = some meth) (h3 : meth.code = some c) (h4 : c.code = bytes)
    (h5 : (c.maxLocals == mx && c.exceptionTable.isEmpty && decide (c.maxStack ≤ mostOperands) && decide (meth.sig.returnType = rt) && !meth.locks && decide (parseMethodDescriptor y.desc = some meth.sig)) = true) : (Jvm.Cond.code y bytes mx rt).before a s = true := by
  simp only [Bool.and_eq_true, beq_iff_eq, Bool.not_eq_true', decide_eq_true_eq] at h5
  obtain ⟨⟨⟨⟨⟨g1, g2⟩, g3⟩, g4⟩, g5⟩, g6⟩ := h5
  simp [Cond.before, Cond.holds, Cond.value, h1, h2, h3, h4, g1, g2, g3, g4, g5, g6]
def isCode : Jvm.Cond → Bool
  | .code _ _ _ _ => true
  | _ => false
theorem all_split {L : List Jvm.Cond} {P : Jvm.Cond → Bool} (h1 : L.all (fun c => isCode c || P c) = true) (h2 : ∀ c ∈ L.filter isCode, P c = true) : L.all P = true := by
  refine List.all_eq_true.mpr fun c hc => ?_
  have h := List.all_eq_true.mp h1 c hc
  rcases Bool.eq_false_or_eq_true (isCode c) with hi | hi
  · exact h2 c (List.mem_filter.mpr ⟨hc, hi⟩)
  · simpa [hi] using h
set_option maxRecDepth 65536 in
theorem w_c0 : (Jvm.Cond.code x code maxLocals ret).before args0 about1 = true := code_word (m := ⟨1, 4⟩) (meth := k1m4) (c := k1c4) (by decide +kernel) rfl rfl rfl (by decide +kernel)
set_option maxRecDepth 65536 in
theorem w_c1 : (Jvm.Cond.code ({ cls := "java/lang/String", name := "<init>", desc := "([C)V" } : Jvm.MethodName) jdk_42_method_3_code (2 : Nat) (Option.none : Option Jvm.ClassFile.FieldType)).before args0 about1 = true := code_word (m := ⟨7, 1⟩) (meth := k7m1) (c := k7c1) (by decide +kernel) rfl rfl rfl (by decide +kernel)
set_option maxRecDepth 65536 in
theorem w_c2 : (Jvm.Cond.code ({ cls := "java/lang/String", name := "<init>", desc := "([CIILjava/lang/Void;)V" } : Jvm.MethodName) jdk_42_method_149_code (6 : Nat) (Option.none : Option Jvm.ClassFile.FieldType)).before args0 about1 = true := code_word (m := ⟨7, 4⟩) (meth := k7m4) (c := k7c4) (by decide +kernel) rfl rfl rfl (by decide +kernel)
set_option maxRecDepth 65536 in
theorem w_c3 : (Jvm.Cond.code ({ cls := "java/lang/Object", name := "<init>", desc := "()V" } : Jvm.MethodName) object_method_1_code (1 : Nat) (Option.none : Option Jvm.ClassFile.FieldType)).before args0 about1 = true := code_word (m := ⟨0, 0⟩) (meth := k0m0) (c := k0c0) (by decide +kernel) rfl rfl rfl (by decide +kernel)
set_option maxRecDepth 65536 in
theorem w_c4 : (Jvm.Cond.code ({ cls := "java/lang/StringUTF16", name := "compress", desc := "([CII)[B" } : Jvm.MethodName) jdk_52_method_16_code (6 : Nat) (Option.some (Jvm.ClassFile.FieldType.array Jvm.ClassFile.FieldType.byte))).before args0 about1 = true := code_word (m := ⟨8, 8⟩) (meth := k8m8) (c := k8c8) (by decide +kernel) rfl rfl rfl (by decide +kernel)
set_option maxRecDepth 65536 in
theorem w_c5 : (Jvm.Cond.code ({ cls := "java/lang/StringUTF16", name := "compress", desc := "([CI[BII)I" } : Jvm.MethodName) jdk_52_method_21_code (7 : Nat) (Option.some Jvm.ClassFile.FieldType.int)).before args0 about1 = true := code_word (m := ⟨8, 9⟩) (meth := k8m9) (c := k8c9) (by decide +kernel) rfl rfl rfl (by decide +kernel)
set_option maxRecDepth 65536 in
theorem w_c6 : (Jvm.Cond.code ({ cls := "java/lang/StringUTF16", name := "coderFromArrayLen", desc := "([BI)B" } : Jvm.MethodName) jdk_52_method_15_code (2 : Nat) (Option.some Jvm.ClassFile.FieldType.byte)).before args0 about1 = true := code_word (m := ⟨8, 7⟩) (meth := k8m7) (c := k8c7) (by decide +kernel) rfl rfl rfl (by decide +kernel)
set_option maxRecDepth 65536 in
theorem w_c7 : (Jvm.Cond.code ({ cls := "com/example/floatbook/floatbook/core/PlainDecimal", name := "digitsEnd", desc := "(Ljava/lang/String;I)I" } : Jvm.MethodName) prog_22_method_3_code (3 : Nat) (Option.some Jvm.ClassFile.FieldType.int)).before args0 about1 = true := code_word (m := ⟨9, 1⟩) (meth := k9m1) (c := k9c1) (by decide +kernel) rfl rfl rfl (by decide +kernel)
set_option maxRecDepth 65536 in
theorem w_c8 : (Jvm.Cond.code ({ cls := "java/lang/String", name := "length", desc := "()I" } : Jvm.MethodName) jdk_42_method_54_code (1 : Nat) (Option.some Jvm.ClassFile.FieldType.int)).before args0 about1 = true := code_word (m := ⟨7, 2⟩) (meth := k7m2) (c := k7c2) (by decide +kernel) rfl rfl rfl (by decide +kernel)
set_option maxRecDepth 65536 in
theorem w_c9 : (Jvm.Cond.code ({ cls := "java/lang/String", name := "coder", desc := "()B" } : Jvm.MethodName) jdk_42_method_152_code (1 : Nat) (Option.some Jvm.ClassFile.FieldType.byte)).before args0 about1 = true := code_word (m := ⟨7, 5⟩) (meth := k7m5) (c := k7c5) (by decide +kernel) rfl rfl rfl (by decide +kernel)
set_option maxRecDepth 65536 in
theorem w_c10 : (Jvm.Cond.code ({ cls := "java/lang/String", name := "charAt", desc := "(I)C" } : Jvm.MethodName) jdk_42_method_56_code (2 : Nat) (Option.some Jvm.ClassFile.FieldType.char)).before args0 about1 = true := code_word (m := ⟨7, 3⟩) (meth := k7m3) (c := k7c3) (by decide +kernel) rfl rfl rfl (by decide +kernel)
set_option maxRecDepth 65536 in
theorem w_c11 : (Jvm.Cond.code ({ cls := "java/lang/String", name := "isLatin1", desc := "()Z" } : Jvm.MethodName) jdk_42_method_154_code (1 : Nat) (Option.some Jvm.ClassFile.FieldType.boolean)).before args0 about1 = true := code_word (m := ⟨7, 6⟩) (meth := k7m6) (c := k7c6) (by decide +kernel) rfl rfl rfl (by decide +kernel)
set_option maxRecDepth 65536 in
theorem w_c12 : (Jvm.Cond.code ({ cls := "java/lang/StringLatin1", name := "charAt", desc := "([BI)C" } : Jvm.MethodName) jdk_43_method_2_code (2 : Nat) (Option.some Jvm.ClassFile.FieldType.char)).before args0 about1 = true := code_word (m := ⟨10, 1⟩) (meth := k10m1) (c := k10c1) (by decide +kernel) rfl rfl rfl (by decide +kernel)
set_option maxRecDepth 65536 in
theorem w_c13 : (Jvm.Cond.code ({ cls := "java/lang/String", name := "checkIndex", desc := "(II)V" } : Jvm.MethodName) jdk_42_method_155_code (2 : Nat) (Option.none : Option Jvm.ClassFile.FieldType)).before args0 about1 = true := code_word (m := ⟨7, 7⟩) (meth := k7m7) (c := k7c7) (by decide +kernel) rfl rfl rfl (by decide +kernel)
set_option maxRecDepth 65536 in
theorem w_c14 : (Jvm.Cond.code ({ cls := "jdk/internal/util/Preconditions", name := "checkIndex", desc := "(IILjava/util/function/BiFunction;)I" } : Jvm.MethodName) jdk_41_method_11_code (3 : Nat) (Option.some Jvm.ClassFile.FieldType.int)).before args0 about1 = true := code_word (m := ⟨11, 1⟩) (meth := k11m1) (c := k11c1) (by decide +kernel) rfl rfl rfl (by decide +kernel)
set_option maxRecDepth 65536 in
theorem w_c15 : (Jvm.Cond.code ({ cls := "com/example/floatbook/floatbook/core/PlainDecimalDigitsEndPinLaw", name := "ok", desc := "(ICIII)Z" } : Jvm.MethodName) method_3_code (5 : Nat) (Option.some Jvm.ClassFile.FieldType.boolean)).before args0 about1 = true := code_word (m := ⟨1, 2⟩) (meth := k1m2) (c := k1c2) (by decide +kernel) rfl rfl rfl (by decide +kernel)
set_option maxRecDepth 65536 in
theorem w_c16 : (Jvm.Cond.code ({ cls := "com/example/floatbook/floatbook/core/PlainDecimalDigitsEndPinLaw", name := "at", desc := "(CCCCI)C" } : Jvm.MethodName) method_4_code (5 : Nat) (Option.some Jvm.ClassFile.FieldType.char)).before args0 about1 = true := code_word (m := ⟨1, 3⟩) (meth := k1m3) (c := k1c3) (by decide +kernel) rfl rfl rfl (by decide +kernel)
set_option maxRecDepth 65536 in
theorem w_c17 : (Jvm.Cond.code ({ cls := "com/example/floatbook/floatbook/core/PlainDecimalDigitsEndPinLaw", name := "dig", desc := "(C)Z" } : Jvm.MethodName) method_2_code (1 : Nat) (Option.some Jvm.ClassFile.FieldType.boolean)).before args0 about1 = true := code_word (m := ⟨1, 1⟩) (meth := k1m1) (c := k1c1) (by decide +kernel) rfl rfl rfl (by decide +kernel)
set_option maxRecDepth 65536 in
theorem w_c18 : (Jvm.Cond.code ({ cls := "java/lang/StringUTF16", name := "toBytes", desc := "([CII)[B" } : Jvm.MethodName) jdk_52_method_14_code (5 : Nat) (Option.some (Jvm.ClassFile.FieldType.array Jvm.ClassFile.FieldType.byte))).before args0 about1 = true := code_word (m := ⟨8, 6⟩) (meth := k8m6) (c := k8c6) (by decide +kernel) rfl rfl rfl (by decide +kernel)
set_option maxRecDepth 65536 in
theorem w_c19 : (Jvm.Cond.code ({ cls := "java/lang/StringUTF16", name := "newBytesFor", desc := "(I)[B" } : Jvm.MethodName) jdk_52_method_2_code (1 : Nat) (Option.some (Jvm.ClassFile.FieldType.array Jvm.ClassFile.FieldType.byte))).before args0 about1 = true := code_word (m := ⟨8, 1⟩) (meth := k8m1) (c := k8c1) (by decide +kernel) rfl rfl rfl (by decide +kernel)
set_option maxRecDepth 65536 in
theorem w_c20 : (Jvm.Cond.code ({ cls := "java/lang/StringUTF16", name := "newBytesLength", desc := "(I)I" } : Jvm.MethodName) jdk_52_method_3_code (1 : Nat) (Option.some Jvm.ClassFile.FieldType.int)).before args0 about1 = true := code_word (m := ⟨8, 2⟩) (meth := k8m2) (c := k8c2) (by decide +kernel) rfl rfl rfl (by decide +kernel)
set_option maxRecDepth 65536 in
theorem w_c21 : (Jvm.Cond.code ({ cls := "java/lang/StringUTF16", name := "putChar", desc := "([BII)V" } : Jvm.MethodName) jdk_52_method_4_code (3 : Nat) (Option.none : Option Jvm.ClassFile.FieldType)).before args0 about1 = true := code_word (m := ⟨8, 3⟩) (meth := k8m3) (c := k8c3) (by decide +kernel) rfl rfl rfl (by decide +kernel)
set_option maxRecDepth 65536 in
theorem w_c22 : (Jvm.Cond.code ({ cls := "java/lang/StringUTF16", name := "getChar", desc := "([BI)C" } : Jvm.MethodName) jdk_52_method_5_code (2 : Nat) (Option.some Jvm.ClassFile.FieldType.char)).before args0 about1 = true := code_word (m := ⟨8, 4⟩) (meth := k8m4) (c := k8c4) (by decide +kernel) rfl rfl rfl (by decide +kernel)
set_option maxRecDepth 65536 in
theorem w_c23 : (Jvm.Cond.code ({ cls := "java/lang/StringUTF16", name := "charAt", desc := "([BI)C" } : Jvm.MethodName) jdk_52_method_83_code (2 : Nat) (Option.some Jvm.ClassFile.FieldType.char)).before args0 about1 = true := code_word (m := ⟨8, 10⟩) (meth := k8m10) (c := k8c10) (by decide +kernel) rfl rfl rfl (by decide +kernel)
set_option maxRecDepth 65536 in
theorem w_c24 : (Jvm.Cond.code ({ cls := "java/lang/StringUTF16", name := "checkIndex", desc := "(I[B)V" } : Jvm.MethodName) jdk_52_method_91_code (2 : Nat) (Option.none : Option Jvm.ClassFile.FieldType)).before args0 about1 = true := code_word (m := ⟨8, 11⟩) (meth := k8m11) (c := k8c11) (by decide +kernel) rfl rfl rfl (by decide +kernel)
set_option maxRecDepth 65536 in
theorem w_c25 : (Jvm.Cond.code ({ cls := "java/lang/StringUTF16", name := "length", desc := "([B)I" } : Jvm.MethodName) jdk_52_method_6_code (1 : Nat) (Option.some Jvm.ClassFile.FieldType.int)).before args0 about1 = true := code_word (m := ⟨8, 5⟩) (meth := k8m5) (c := k8c5) (by decide +kernel) rfl rfl rfl (by decide +kernel)
def codes1 : List Jvm.Cond := [Jvm.Cond.code x code maxLocals ret, Jvm.Cond.code ({ cls := "java/lang/String", name := "<init>", desc := "([C)V" } : Jvm.MethodName) jdk_42_method_3_code (2 : Nat) (Option.none : Option Jvm.ClassFile.FieldType), Jvm.Cond.code ({ cls := "java/lang/String", name := "<init>", desc := "([CIILjava/lang/Void;)V" } : Jvm.MethodName) jdk_42_method_149_code (6 : Nat) (Option.none : Option Jvm.ClassFile.FieldType), Jvm.Cond.code ({ cls := "java/lang/Object", name := "<init>", desc := "()V" } : Jvm.MethodName) object_method_1_code (1 : Nat) (Option.none : Option Jvm.ClassFile.FieldType), Jvm.Cond.code ({ cls := "java/lang/StringUTF16", name := "compress", desc := "([CII)[B" } : Jvm.MethodName) jdk_52_method_16_code (6 : Nat) (Option.some (Jvm.ClassFile.FieldType.array Jvm.ClassFile.FieldType.byte)), Jvm.Cond.code ({ cls := "java/lang/StringUTF16", name := "compress", desc := "([CI[BII)I" } : Jvm.MethodName) jdk_52_method_21_code (7 : Nat) (Option.some Jvm.ClassFile.FieldType.int), Jvm.Cond.code ({ cls := "java/lang/StringUTF16", name := "coderFromArrayLen", desc := "([BI)B" } : Jvm.MethodName) jdk_52_method_15_code (2 : Nat) (Option.some Jvm.ClassFile.FieldType.byte), Jvm.Cond.code ({ cls := "com/example/floatbook/floatbook/core/PlainDecimal", name := "digitsEnd", desc := "(Ljava/lang/String;I)I" } : Jvm.MethodName) prog_22_method_3_code (3 : Nat) (Option.some Jvm.ClassFile.FieldType.int), Jvm.Cond.code ({ cls := "java/lang/String", name := "length", desc := "()I" } : Jvm.MethodName) jdk_42_method_54_code (1 : Nat) (Option.some Jvm.ClassFile.FieldType.int), Jvm.Cond.code ({ cls := "java/lang/String", name := "coder", desc := "()B" } : Jvm.MethodName) jdk_42_method_152_code (1 : Nat) (Option.some Jvm.ClassFile.FieldType.byte), Jvm.Cond.code ({ cls := "java/lang/String", name := "charAt", desc := "(I)C" } : Jvm.MethodName) jdk_42_method_56_code (2 : Nat) (Option.some Jvm.ClassFile.FieldType.char), Jvm.Cond.code ({ cls := "java/lang/String", name := "isLatin1", desc := "()Z" } : Jvm.MethodName) jdk_42_method_154_code (1 : Nat) (Option.some Jvm.ClassFile.FieldType.boolean), Jvm.Cond.code ({ cls := "java/lang/StringLatin1", name := "charAt", desc := "([BI)C" } : Jvm.MethodName) jdk_43_method_2_code (2 : Nat) (Option.some Jvm.ClassFile.FieldType.char), Jvm.Cond.code ({ cls := "java/lang/String", name := "checkIndex", desc := "(II)V" } : Jvm.MethodName) jdk_42_method_155_code (2 : Nat) (Option.none : Option Jvm.ClassFile.FieldType), Jvm.Cond.code ({ cls := "jdk/internal/util/Preconditions", name := "checkIndex", desc := "(IILjava/util/function/BiFunction;)I" } : Jvm.MethodName) jdk_41_method_11_code (3 : Nat) (Option.some Jvm.ClassFile.FieldType.int), Jvm.Cond.code ({ cls := "com/example/floatbook/floatbook/core/PlainDecimalDigitsEndPinLaw", name := "ok", desc := "(ICIII)Z" } : Jvm.MethodName) method_3_code (5 : Nat) (Option.some Jvm.ClassFile.FieldType.boolean), Jvm.Cond.code ({ cls := "com/example/floatbook/floatbook/core/PlainDecimalDigitsEndPinLaw", name := "at", desc := "(CCCCI)C" } : Jvm.MethodName) method_4_code (5 : Nat) (Option.some Jvm.ClassFile.FieldType.char), Jvm.Cond.code ({ cls := "com/example/floatbook/floatbook/core/PlainDecimalDigitsEndPinLaw", name := "dig", desc := "(C)Z" } : Jvm.MethodName) method_2_code (1 : Nat) (Option.some Jvm.ClassFile.FieldType.boolean), Jvm.Cond.code ({ cls := "java/lang/StringUTF16", name := "toBytes", desc := "([CII)[B" } : Jvm.MethodName) jdk_52_method_14_code (5 : Nat) (Option.some (Jvm.ClassFile.FieldType.array Jvm.ClassFile.FieldType.byte)), Jvm.Cond.code ({ cls := "java/lang/StringUTF16", name := "newBytesFor", desc := "(I)[B" } : Jvm.MethodName) jdk_52_method_2_code (1 : Nat) (Option.some (Jvm.ClassFile.FieldType.array Jvm.ClassFile.FieldType.byte)), Jvm.Cond.code ({ cls := "java/lang/StringUTF16", name := "newBytesLength", desc := "(I)I" } : Jvm.MethodName) jdk_52_method_3_code (1 : Nat) (Option.some Jvm.ClassFile.FieldType.int), Jvm.Cond.code ({ cls := "java/lang/StringUTF16", name := "putChar", desc := "([BII)V" } : Jvm.MethodName) jdk_52_method_4_code (3 : Nat) (Option.none : Option Jvm.ClassFile.FieldType), Jvm.Cond.code ({ cls := "java/lang/StringUTF16", name := "getChar", desc := "([BI)C" } : Jvm.MethodName) jdk_52_method_5_code (2 : Nat) (Option.some Jvm.ClassFile.FieldType.char), Jvm.Cond.code ({ cls := "java/lang/StringUTF16", name := "charAt", desc := "([BI)C" } : Jvm.MethodName) jdk_52_method_83_code (2 : Nat) (Option.some Jvm.ClassFile.FieldType.char), Jvm.Cond.code ({ cls := "java/lang/StringUTF16", name := "checkIndex", desc := "(I[B)V" } : Jvm.MethodName) jdk_52_method_91_code (2 : Nat) (Option.none : Option Jvm.ClassFile.FieldType), Jvm.Cond.code ({ cls := "java/lang/StringUTF16", name := "length", desc := "([B)I" } : Jvm.MethodName) jdk_52_method_6_code (1 : Nat) (Option.some Jvm.ClassFile.FieldType.int)]
set_option maxRecDepth 65536 in
theorem codes_eq : words1.filter isCode = codes1 := rfl
theorem w_codes : ∀ c ∈ words1.filter isCode, c.before args0 about1 = true := by
  rw [codes_eq]
  intro c hc
  simp only [codes1, List.mem_cons, List.not_mem_nil, or_false] at hc
  rcases hc with rfl | rfl | rfl | rfl | rfl | rfl | rfl | rfl | rfl | rfl | rfl | rfl | rfl | rfl | rfl | rfl | rfl | rfl | rfl | rfl | rfl | rfl | rfl | rfl | rfl | rfl
  · exact w_c0
  · exact w_c1
  · exact w_c2
  · exact w_c3
  · exact w_c4
  · exact w_c5
  · exact w_c6
  · exact w_c7
  · exact w_c8
  · exact w_c9
  · exact w_c10
  · exact w_c11
  · exact w_c12
  · exact w_c13
  · exact w_c14
  · exact w_c15
  · exact w_c16
  · exact w_c17
  · exact w_c18
  · exact w_c19
  · exact w_c20
  · exact w_c21
  · exact w_c22
  · exact w_c23
  · exact w_c24
  · exact w_c25
set_option maxRecDepth 65536 in
theorem w_t1 : (words1.take 24).all (fun c => isCode c || c.before args0 about1) = true := by decide +kernel
set_option maxRecDepth 65536 in
theorem w_t2 : ((words1.drop 24).take 24).all (fun c => isCode c || c.before args0 about1) = true := by decide +kernel
set_option maxRecDepth 65536 in
theorem w_t3 : (((words1.drop 24).drop 24).take 24).all (fun c => isCode c || c.before args0 about1) = true := by decide +kernel
set_option maxRecDepth 65536 in
theorem w_t4 : ((((words1.drop 24).drop 24).drop 24).take 24).all (fun c => isCode c || c.before args0 about1) = true := by decide +kernel
set_option maxRecDepth 65536 in
theorem w_t5 : ((((words1.drop 24).drop 24).drop 24).drop 24).all (fun c => isCode c || c.before args0 about1) = true := by decide +kernel
theorem w_tables : (allAtoms (Jvm.Cond.code x code maxLocals ret :: tables_1)).before args0 about1 = true := by
  rw [allAtoms_all]
  show words1.all (fun c => c.before args0 about1) = true
  refine all_split ?_ w_codes
  rw [← List.take_append_drop 24 words1, List.all_append, w_t1, ← List.take_append_drop 24 (words1.drop 24), List.all_append, w_t2, ← List.take_append_drop 24 ((words1.drop 24).drop 24), List.all_append, w_t3, ← List.take_append_drop 24 (((words1.drop 24).drop 24).drop 24), List.all_append, w_t4, w_t5]
  rfl
set_option maxRecDepth 65536 in
theorem w_rest : rest_1_c.before args0 about1 = true := by decide +kernel
set_option maxRecDepth 65536 in
theorem w_case : (Jvm.Cond.and given_1 narrow_1).before args0 about1 = true := by decide +kernel
set_option maxRecDepth 65536 in
theorem w_consts : constsHeld consts_1 about1 := Jvm.Lit.constsHeldB_iff.mp (by decide +kernel)
theorem w_applies : (headSpec (Jvm.Cond.code x code maxLocals ret :: tables_1) room_1).applies x e0.platform about1 = true :=
  (Spec.applies_iff w_frames).mpr ⟨w_running, w_runnable, w_alone, w_named, w_hears, w_ripe, w_room, w_tables⟩
theorem atStart : AtStart classFile x code maxLocals ret World_1 tables_1 room_1 Calls_1 rest_1 Pre_1 launch0 p0 e0 about1 theMethod args0 below0 :=
  ⟨lists_1, trivial, launch0.admits_env _ _ _, launch0.least_env, fairChoices_fair.cas, fairChoices_fair.clock, w_frames, w_args, w_heap, w_applies, ⟨w_consts, trivial⟩, w_rest, w_case⟩
end start1
theorem witness_1 : WitnessClaimed_1 := ⟨start1.p0, start1.e0, start1.about1, start1.theMethod, start1.args0, start1.below0, start1.atStart⟩
end Jvm.Pilot.@@N@@
