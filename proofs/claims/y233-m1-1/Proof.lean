import JvmDerived
import JvmDerived.Pilot.@@N@@Statement
import JvmDerived.Pilot.@@N@@Code
set_option linter.unusedVariables false
set_option linter.unusedSimpArgs false
/- laws to paste: Road.backV, Road.lenW, Road.chN, Road.codOf (cut by pick.py; bodies as the Statement names them) -/
namespace Jvm.Pilot.@@N@@
namespace StrChars
open Jvm Sem ClassFile Op Lib Jvm.Stand Jvm.Free.XT Jvm.Free.ALB Jvm.Free.JM Jvm.Free
open Jvm.Lib.Cold (StaticIs)
/-- a char array whose places are chars -/
def Ch (a : Addr) (A : Cell) (U : State) : Prop := Arr .char a A U ∧ Typed .char A
theorem Ch.mv {a : Addr} {A : Cell} {U U' : State} (h : Ch a A U) (hal : U.vm.Alike U'.vm) (hh : U'.heap = U.heap) : Ch a A U' := ⟨h.1.mv hal hh, h.2⟩
theorem Ch.keep {a : Addr} {A : Cell} {U U' : State} (h : Ch a A U) (hal : U.vm.Alike U'.vm) (hk : U'.heap[a]? = some A) : Ch a A U' := ⟨h.1.keep hal hk, h.2⟩
/-- what place i of a char[]'s cell holds -/
def cv (A : Cell) (i : Nat) : Int32 := match A.slots[i]? with | some (.int x) => x | _ => 0
theorem Ch.get {a : Addr} {A : Cell} {U : State} (h : Ch a A U) {i : Nat} (hi : i < A.slots.size) : A.slots[i]? = some (.int (cv A i)) := by
  have e := Array.getElem?_eq_getElem hi
  have f := h.2 i _ e
  unfold cv; rw [e]
  generalize A.slots[i] = v at f
  cases v <;> simp [fits] at f ⊢
/-- the byte that i2b leaves of a char -/
def lo8 (x : Int32) : Int32 := x.toInt8.toInt32
theorem fits_lo8 (y : Int32) : fits .byte (.int (lo8 y)) = true := by
  have h1 := y.toInt8.le_toInt
  have h2 := y.toInt8.toInt_lt
  simp only [lo8, fits, Bool.and_eq_true, decide_eq_true_eq, Int32.le_iff_toInt_le, Int8.toInt_toInt32, show (-128 : Int32).toInt = -128 from by decide, show (127 : Int32).toInt = 127 from by decide]
  omega
/-- A' is A but that each place j of lo .. hi - 1 holds f j -/
def Laid (A A' : Cell) (lo hi : Nat) (f : Nat → Value) : Prop := A'.cls = A.cls ∧ A'.vm = A.vm ∧ A'.slots.size = A.slots.size ∧ ∀ i, A'.slots[i]? = if lo ≤ i ∧ i < hi then some (f i) else A.slots[i]?
theorem Laid.zero (A : Cell) (lo : Nat) (f : Nat → Value) : Laid A A lo (lo + 0) f := ⟨rfl, rfl, rfl, fun i => by rw [if_neg (by omega)]⟩
theorem Laid.step {A Ak : Cell} {lo k : Nat} {f : Nat → Value} {v : Value} (h : Laid A Ak lo k f) (hlo : lo ≤ k) (hk : k < Ak.slots.size) (hv : v = f k) : Laid A (Ak.setSlot k v) lo (k + 1) f := by
  refine ⟨h.1, h.2.1, by simpa [Cell.setSlot] using h.2.2.1, fun i => ?_⟩
  by_cases e : k = i
  · subst e; rw [Cell.slots_setSlot_self v hk, if_pos (by omega), hv]
  · rw [Cell.slots_setSlot_ne v e, h.2.2.2 i]
    by_cases q : lo ≤ i ∧ i < k
    · rw [if_pos q, if_pos (by omega)]
    · rw [if_neg q, if_neg (by omega)]
def U16 : String := "java/lang/StringUTF16"
namespace Cmp5
def yN : MethodName := ⟨"java/lang/StringUTF16", "compress", "([CI[BII)I"⟩
abbrev yB : ByteArray := jdk_52_method_21_code
theorem d0 : decode yB 0 = .ok (.iconst 0, 1) := by decide +kernel
theorem d1 : decode yB 1 = .ok (.istore 5, 2) := by decide +kernel
theorem d3 : decode yB 3 = .ok (.iload 5, 2) := by decide +kernel
theorem d5 : decode yB 5 = .ok (.iload 4, 2) := by decide +kernel
theorem d7 : decode yB 7 = .ok (.if_icmp (.ge) 37, 3) := by decide +kernel
theorem d10 : decode yB 10 = .ok (.aload_n 0, 1) := by decide +kernel
theorem d11 : decode yB 11 = .ok (.iload_n 1, 1) := by decide +kernel
theorem d12 : decode yB 12 = .ok (.caload, 1) := by decide +kernel
theorem d13 : decode yB 13 = .ok (.istore 6, 2) := by decide +kernel
theorem d15 : decode yB 15 = .ok (.iload 6, 2) := by decide +kernel
theorem d17 : decode yB 17 = .ok (.sipush 255, 3) := by decide +kernel
theorem d20 : decode yB 20 = .ok (.if_icmp (.le) 6, 3) := by decide +kernel
theorem d26 : decode yB 26 = .ok (.aload_n 2, 1) := by decide +kernel
theorem d27 : decode yB 27 = .ok (.iload_n 3, 1) := by decide +kernel
theorem d28 : decode yB 28 = .ok (.iload 6, 2) := by decide +kernel
theorem d30 : decode yB 30 = .ok (.i2b, 1) := by decide +kernel
theorem d31 : decode yB 31 = .ok (.bastore, 1) := by decide +kernel
theorem d32 : decode yB 32 = .ok (.iinc 1 1, 3) := by decide +kernel
theorem d35 : decode yB 35 = .ok (.iinc 3 1, 3) := by decide +kernel
theorem d38 : decode yB 38 = .ok (.iinc 5 1, 3) := by decide +kernel
theorem d41 : decode yB 41 = .ok (.goto (-38), 3) := by decide +kernel
theorem d44 : decode yB 44 = .ok (.iload 4, 2) := by decide +kernel
theorem d46 : decode yB 46 = .ok (.ireturn, 1) := by decide +kernel
def site : List Cond := []
def tab : Cond := tabOf yN yB 7 (some .int) site
def P (b : Addr) (A : Cell) (d : Addr) (B : Cell) (o q len : Nat) (args : Array Value) (s : State) : Prop := args = #[.ref b, .int (Int32.ofNat o), .ref d, .int (Int32.ofNat q), .int (Int32.ofNat len)] ∧ Ch b A s ∧ Arr .byte d B s ∧ b ≠ d ∧ o + len ≤ A.slots.size ∧ q + len ≤ B.slots.size ∧ ∀ i, i < len → ¬ 255 < cv A (o + i)
def E (b : Addr) (A : Cell) (d : Addr) (B : Cell) (o q len : Nat) (r : Option Value) (s u : State) : Prop := r = some (.int (Int32.ofNat len)) ∧ ∃ B', Put d B' s u ∧ Laid B B' q (q + len) (fun j => Value.int (lo8 (cv A (o + (j - q)))))
/-- no char of the range above 255: len; the places written hold each char's low byte -/
theorem law (l : Launch) (b : Addr) (A : Cell) (d : Addr) (B : Cell) (o q len : Nat) : Law l yN 5 5 0 0 yB 7 (some .int) site (P b A d B o q len) (E b A d B o q len) (copyLocs d q len) 0 0 := by
  refine Law.of_walk (plainFor_of_name (by decide +kernel)) (by decide +kernel) (by decide +kernel) (by decide) (fun _ _ h => by rw [h.1]; rfl) (fun _ U U' hal hh h => ⟨h.1, h.2.1.mv hal hh, h.2.2.1.mv hal hh, h.2.2.2⟩) (fun r U U' V V' h1 hal h2 h => ⟨h.1, h.2.elim fun B' q => ⟨B', q.1.mv h1 h2, q.2⟩⟩) ?_
  intro p e s m args below meth c s₁ X0 hexec hbytes hml hret hlk hnm hown hh0 W hP
  obtain ⟨rfl, hA, hB, hne, l1, l2, hp⟩ := hP
  have c1 : Steps p.tables e below (s₁.setTop (entryFrame m #[.ref b, .int (Int32.ofNat o), .ref d, .int (Int32.ofNat q), .int (Int32.ofNat len)] 7)) (s₁.setTop (mkF m 0 #[.val (.ref b), .val (.int (Int32.ofNat o)), .val (.ref d), .val (.int (Int32.ofNat q)), .val (.int (Int32.ofNat len)), .unset, .unset] [])) := entry rfl
  have hA0 := hA.1.mv X0.warmed.alike hh0
  have hB0 := hB.mv X0.warmed.alike hh0
  have a31 := hA.1.2.2.2
  have c2 : Steps p.tables e below (s₁.setTop (entryFrame m #[.ref b, .int (Int32.ofNat o), .ref d, .int (Int32.ofNat q), .int (Int32.ofNat len)] 7)) (s₁.setTop (mkF m 3 #[.val (.ref b), .val (.int (Int32.ofNat o)), .val (.ref d), .val (.int (Int32.ofNat q)), .val (.int (Int32.ofNat len)), .val (.int 0), .unset] [])) := c1.trans (by
    refine iconstV X0.here hexec rfl 0 (hb hbytes d0) (by decide) ?_
    refine XS.istore X0.here hexec rfl (hb hbytes d1) rfl rfl ?_
    exact Steps.refl _)
  have loop : ∀ (r i : Nat), i + r = len → ∀ (z : Slot), (z = .unset ∨ ∃ w, z = .val w ∧ w.category = 1) → ∀ (Tl : State) (Bk : Cell), Stand p l e { frames := 0, locals := 0, cells := 0, slots := 0 } s m #[.ref b, .int (Int32.ofNat o), .ref d, .int (Int32.ofNat q), .int (Int32.ofNat len)] below meth c Tl ([] ++ copyLocs d q i) 0 0 → Put d Bk s₁ Tl → Laid B Bk q (q + i) (fun j => Value.int (lo8 (cv A (o + (j - q))))) →
      Steps p.tables e below (s₁.setTop (entryFrame m #[.ref b, .int (Int32.ofNat o), .ref d, .int (Int32.ofNat q), .int (Int32.ofNat len)] 7)) (Tl.setTop (mkF m 3 #[.val (.ref b), .val (.int (Int32.ofNat (o + i))), .val (.ref d), .val (.int (Int32.ofNat (q + i))), .val (.int (Int32.ofNat len)), .val (.int (Int32.ofNat i)), z] [])) → ∃ (T' : State) (B' : Cell) (z' : Slot), Stand p l e { frames := 0, locals := 0, cells := 0, slots := 0 } s m #[.ref b, .int (Int32.ofNat o), .ref d, .int (Int32.ofNat q), .int (Int32.ofNat len)] below meth c T' ([] ++ copyLocs d q len) 0 0 ∧ Put d B' s₁ T' ∧ Laid B B' q (q + len) (fun j => Value.int (lo8 (cv A (o + (j - q))))) ∧
      Steps p.tables e below (s₁.setTop (entryFrame m #[.ref b, .int (Int32.ofNat o), .ref d, .int (Int32.ofNat q), .int (Int32.ofNat len)] 7)) (T'.setTop (mkF m 3 #[.val (.ref b), .val (.int (Int32.ofNat (o + len))), .val (.ref d), .val (.int (Int32.ofNat (q + len))), .val (.int (Int32.ofNat len)), .val (.int (Int32.ofNat len)), z'] [])) := by
    intro r
    induction r with
    | zero =>
      intro i hi z hz Tl Bk Xl pl fl cl
      have hil : i = len := by omega
      rw [hil] at Xl fl cl
      exact ⟨Tl, Bk, z, Xl, pl, fl, cl⟩
    | succ r ih =>
      intro i hi z hz Tl Bk Xl pl fl cl
      have all := X0.warmed.alike.symm.trans Xl.warmed.alike
      have hAl := hA0.keep all (pl.other hne hA0.1)
      have hBk := hB0.like all pl.1 fl.1 fl.2.1 fl.2.2.1
      have hlt : q + i < Bk.slots.size := by rw [fl.2.2.1]; omega
      have c3 : Steps p.tables e below (s₁.setTop (entryFrame m #[.ref b, .int (Int32.ofNat o), .ref d, .int (Int32.ofNat q), .int (Int32.ofNat len)] 7)) (Tl.setTop (mkF m 12 #[.val (.ref b), .val (.int (Int32.ofNat (o + i))), .val (.ref d), .val (.int (Int32.ofNat (q + i))), .val (.int (Int32.ofNat len)), .val (.int (Int32.ofNat i)), z] [.int (Int32.ofNat (o + i)), .ref b])) := cl.trans (by
        refine XS.iload Xl.here hexec rfl (hb hbytes d3) rfl ?_
        refine XS.iload Xl.here hexec rfl (hb hbytes d5) rfl ?_
        refine XS.icmpNo Xl.here hexec rfl (hb hbytes d7) rfl (ii_ge_f (lt32 (by omega) (by omega))) ?_
        refine XS.aloadN Xl.here hexec rfl (hb hbytes d10) rfl rfl ?_
        refine XS.iloadN Xl.here hexec rfl (hb hbytes d11) rfl ?_
        exact Steps.refl _)
      have c4 : Steps p.tables e below (s₁.setTop (entryFrame m #[.ref b, .int (Int32.ofNat o), .ref d, .int (Int32.ofNat q), .int (Int32.ofNat len)] 7)) (Tl.setTop (mkF m 13 #[.val (.ref b), .val (.int (Int32.ofNat (o + i))), .val (.ref d), .val (.int (Int32.ofNat (q + i))), .val (.int (Int32.ofNat len)), .val (.int (Int32.ofNat i)), z] [.int (cv A (o + i))])) := c3.trans (by
        refine Xl.aget hexec hAl rfl (hA.get (i := o + i) (by omega)) rfl rfl (hb hbytes d12) ?_
        exact Steps.refl _)
      have c5 : Steps p.tables e below (s₁.setTop (entryFrame m #[.ref b, .int (Int32.ofNat o), .ref d, .int (Int32.ofNat q), .int (Int32.ofNat len)] 7)) (Tl.setTop (mkF m 15 #[.val (.ref b), .val (.int (Int32.ofNat (o + i))), .val (.ref d), .val (.int (Int32.ofNat (q + i))), .val (.int (Int32.ofNat len)), .val (.int (Int32.ofNat i)), .val (.int (cv A (o + i)))] [])) := c4.trans (by
        refine XS.istoreS Xl.here hexec rfl (hb hbytes d13) rfl rfl hz ?_
        exact Steps.refl _)
      have c6 : Steps p.tables e below (s₁.setTop (entryFrame m #[.ref b, .int (Int32.ofNat o), .ref d, .int (Int32.ofNat q), .int (Int32.ofNat len)] 7)) (Tl.setTop (mkF m 31 #[.val (.ref b), .val (.int (Int32.ofNat (o + i))), .val (.ref d), .val (.int (Int32.ofNat (q + i))), .val (.int (Int32.ofNat len)), .val (.int (Int32.ofNat i)), .val (.int (cv A (o + i)))] [.int (lo8 (cv A (o + i))), .int (Int32.ofNat (q + i)), .ref d])) := c5.trans (by
        refine XS.iload Xl.here hexec rfl (hb hbytes d15) rfl ?_
        refine sipushV Xl.here hexec rfl 255 (hb hbytes d17) (by decide) ?_
        refine XS.icmpYes Xl.here hexec rfl (pc0 := 20) rfl (hb hbytes d20) rfl (ii_le_t (hp i (by omega))) (by decide) rfl ?_
        refine XS.aloadN Xl.here hexec rfl (hb hbytes d26) rfl rfl ?_
        refine XS.iloadN Xl.here hexec rfl (hb hbytes d27) rfl ?_
        refine XS.iload Xl.here hexec rfl (hb hbytes d28) rfl ?_
        refine i2b Xl.here hexec rfl (hb hbytes d30) rfl ?_
        exact Steps.refl _)
      obtain ⟨T7, X7, p7, st7⟩ := Xl.aput hexec hBk rfl hlt rfl (fits_lo8 (cv A (o + i))) (g := (mkF m 31 #[.val (.ref b), .val (.int (Int32.ofNat (o + i))), .val (.ref d), .val (.int (Int32.ofNat (q + i))), .val (.int (Int32.ofNat len)), .val (.int (Int32.ofNat i)), .val (.int (cv A (o + i)))] [.int (lo8 (cv A (o + i))), .int (Int32.ofNat (q + i)), .ref d])) rfl (rest := []) rfl (hb hbytes d31)
      have c8 : Steps p.tables e below (s₁.setTop (entryFrame m #[.ref b, .int (Int32.ofNat o), .ref d, .int (Int32.ofNat q), .int (Int32.ofNat len)] 7)) (T7.setTop (mkF m 32 #[.val (.ref b), .val (.int (Int32.ofNat (o + i))), .val (.ref d), .val (.int (Int32.ofNat (q + i))), .val (.int (Int32.ofNat len)), .val (.int (Int32.ofNat i)), .val (.int (cv A (o + i)))] [])) := c6.trans (st7 _ (Steps.refl _))
      have c9 : Steps p.tables e below (s₁.setTop (entryFrame m #[.ref b, .int (Int32.ofNat o), .ref d, .int (Int32.ofNat q), .int (Int32.ofNat len)] 7)) (T7.setTop (mkF m 3 #[.val (.ref b), .val (.int (Int32.ofNat (o + i) + 1)), .val (.ref d), .val (.int (Int32.ofNat (q + i) + 1)), .val (.int (Int32.ofNat len)), .val (.int (Int32.ofNat i + 1)), .val (.int (cv A (o + i)))] [])) := c8.trans (by
        refine iincV X7.here hexec rfl 1 (hb hbytes d32) (by decide) rfl rfl ?_
        refine iincV X7.here hexec rfl 1 (hb hbytes d35) (by decide) rfl rfl ?_
        refine iincV X7.here hexec rfl 1 (hb hbytes d38) (by decide) rfl rfl ?_
        refine XS.goto X7.here hexec rfl (pc0 := 41) rfl (hb hbytes d41) (by decide) rfl ?_
        exact Steps.refl _)
      have c10 : Steps p.tables e below (s₁.setTop (entryFrame m #[.ref b, .int (Int32.ofNat o), .ref d, .int (Int32.ofNat q), .int (Int32.ofNat len)] 7)) (T7.setTop (mkF m 3 #[.val (.ref b), .val (.int (Int32.ofNat (o + (i + 1)))), .val (.ref d), .val (.int (Int32.ofNat (q + (i + 1)))), .val (.int (Int32.ofNat len)), .val (.int (Int32.ofNat (i + 1))), .val (.int (cv A (o + i)))] [])) := by
        have := c9
        rw [succ32, succ32, succ32] at this
        exact this
      exact ih (i + 1) (by omega) _ (Or.inr ⟨_, rfl, rfl⟩) T7 _ (by rw [copyLocs_step, ← List.append_assoc]; exact X7) (pl.trans p7) (fl.step (by omega) hlt (by simp)) c10
  obtain ⟨T9, B9, z9, X9, p9, f9, g9⟩ := loop len 0 (by omega) .unset (Or.inl rfl) s₁ B (by simpa [copyLocs] using X0) ⟨hB0.1, fun _ _ => rfl, rfl⟩ (Laid.zero _ _ _) c2
  have c11 : Steps p.tables e below (s₁.setTop (entryFrame m #[.ref b, .int (Int32.ofNat o), .ref d, .int (Int32.ofNat q), .int (Int32.ofNat len)] 7)) (T9.setTop (mkF m 46 #[.val (.ref b), .val (.int (Int32.ofNat (o + len))), .val (.ref d), .val (.int (Int32.ofNat (q + len))), .val (.int (Int32.ofNat len)), .val (.int (Int32.ofNat len)), z9] [.int (Int32.ofNat len)])) := g9.trans (by
    refine XS.iload X9.here hexec rfl (hb hbytes d3) rfl ?_
    refine XS.iload X9.here hexec rfl (hb hbytes d5) rfl ?_
    refine XS.icmpYes X9.here hexec rfl (pc0 := 7) rfl (hb hbytes d7) rfl (ii_ge_t (nlt32 (by omega) (Nat.le_refl _))) (by decide) rfl ?_
    refine XS.iload X9.here hexec rfl (hb hbytes d44) rfl ?_
    exact Steps.refl _)
  exact ⟨T9, some (.int (Int32.ofNat len)), _, _, _, X9, by simp, rfl, rfl, (fun h => by cases h), ⟨rfl, B9, p9.from hh0, f9⟩, fun fs hl => c11.trans (X9.ireturnOut hexec hret rfl (Or.inl rfl) (hb hbytes d46) hl)⟩
end Cmp5
namespace Cmp3
def yN : MethodName := ⟨"java/lang/StringUTF16", "compress", "([CII)[B"⟩
abbrev yB : ByteArray := jdk_52_method_16_code
theorem d0 : decode yB 0 = .ok (.iload_n 2, 1) := by decide +kernel
theorem d1 : decode yB 1 = .ok (.newarray .byte, 2) := by decide +kernel
theorem d3 : decode yB 3 = .ok (.astore_n 3, 1) := by decide +kernel
theorem d4 : decode yB 4 = .ok (.aload_n 0, 1) := by decide +kernel
theorem d5 : decode yB 5 = .ok (.iload_n 1, 1) := by decide +kernel
theorem d6 : decode yB 6 = .ok (.aload_n 3, 1) := by decide +kernel
theorem d7 : decode yB 7 = .ok (.iconst 0, 1) := by decide +kernel
theorem d8 : decode yB 8 = .ok (.iload_n 2, 1) := by decide +kernel
theorem d9 : decode yB 9 = .ok (.invokestatic 115, 3) := by decide +kernel
theorem d12 : decode yB 12 = .ok (.istore 4, 2) := by decide +kernel
theorem d14 : decode yB 14 = .ok (.iload 4, 2) := by decide +kernel
theorem d16 : decode yB 16 = .ok (.iload_n 2, 1) := by decide +kernel
theorem d17 : decode yB 17 = .ok (.if_icmp (.eq) 40, 3) := by decide +kernel
theorem d57 : decode yB 57 = .ok (.aload_n 3, 1) := by decide +kernel
theorem d58 : decode yB 58 = .ok (.areturn, 1) := by decide +kernel
def site : List Cond := [.arrayClass .byte, Cmp5.tab] ++ staticW U16 115 Cmp5.yN
def tab : Cond := tabOf yN yB 6 (some (.array .byte)) site
def P (b : Addr) (A : Cell) (o len : Nat) (args : Array Value) (s : State) : Prop := args = #[.ref b, .int (Int32.ofNat o), .int (Int32.ofNat len)] ∧ Ch b A s ∧ o + len ≤ A.slots.size ∧ len ≤ 536870912 ∧ ∀ i, i < len → ¬ 255 < cv A (o + i)
def E (b : Addr) (A : Cell) (o len : Nat) (r : Option Value) (s u : State) : Prop := NewArr .byte "[B" len (fun j => .int (lo8 (cv A (o + j)))) r s u ∧ u.heap.size = s.heap.size + 1
/-- no char of the range above 255: a new byte[] of their low bytes -/
theorem law (l : Launch) (b : Addr) (A : Cell) (o len : Nat) : Law l yN 3 3 1 18 yB 6 (some (.array .byte)) site (P b A o len) (E b A o len) [] 1 len := by
  refine Law.of_walk (plainFor_of_name (by decide +kernel)) (by decide +kernel) (by decide +kernel) (by decide) (fun _ _ h => by rw [h.1]; rfl) (fun _ U U' hal hh h => ⟨h.1, h.2.1.mv hal hh, h.2.2⟩) (fun r U U' V V' h1 hal h2 h => ⟨NewArr.mv r U U' V V' h1 hal h2 h.1, by rw [h1, h2]; exact h.2⟩) ?_
  intro p e s m args below meth c s₁ X0 hexec hbytes hml hret hlk hnm hown hh0 W hP
  obtain ⟨rfl, hA, l1, l2, hp⟩ := hP
  have a31 := hA.1.2.2.2
  have c1 : Steps p.tables e below (s₁.setTop (entryFrame m #[.ref b, .int (Int32.ofNat o), .int (Int32.ofNat len)] 6)) (s₁.setTop (mkF m 0 #[.val (.ref b), .val (.int (Int32.ofNat o)), .val (.int (Int32.ofNat len)), .unset, .unset, .unset] [])) := entry rfl
  have c2 : Steps p.tables e below (s₁.setTop (entryFrame m #[.ref b, .int (Int32.ofNat o), .int (Int32.ofNat len)] 6)) (s₁.setTop (mkF m 1 #[.val (.ref b), .val (.int (Int32.ofNat o)), .val (.int (Int32.ofNat len)), .unset, .unset, .unset] [.int (Int32.ofNat len)])) := c1.trans (by
    refine XS.iloadN X0.here hexec rfl (hb hbytes d0) rfl ?_
    exact Steps.refl _)
  obtain ⟨T3, B3, X3, ba3, bs3, bv3, bh3, bf3, st3⟩ := X0.anew hexec (atype := .byte) (wk W (.arrayClass .byte)) rfl (by show len * 1 ≤ _; omega) (by omega) (g := (mkF m 1 #[.val (.ref b), .val (.int (Int32.ofNat o)), .val (.int (Int32.ofNat len)), .unset, .unset, .unset] [.int (Int32.ofNat len)])) rfl (hb hbytes d1) (rest := []) rfl (Nat.le_refl _) (by show 0 + len ≤ len; omega)
  rw [hh0] at ba3 st3
  have kp3 : XT.Kept s T3 := (XT.Kept.of_eq hh0).push bh3
  have hA3 := hA.keep X3.warmed.alike (kp3 _ _ hA.1.1)
  have hne : b ≠ s.heap.size := hA.1.ne
  have c4 : Steps p.tables e below (s₁.setTop (entryFrame m #[.ref b, .int (Int32.ofNat o), .int (Int32.ofNat len)] 6)) (T3.setTop (mkF m 3 #[.val (.ref b), .val (.int (Int32.ofNat o)), .val (.int (Int32.ofNat len)), .unset, .unset, .unset] [.ref s.heap.size])) := c2.trans (st3 _ (Steps.refl _))
  have c5 : Steps p.tables e below (s₁.setTop (entryFrame m #[.ref b, .int (Int32.ofNat o), .int (Int32.ofNat len)] 6)) (T3.setTop (mkF m 9 #[.val (.ref b), .val (.int (Int32.ofNat o)), .val (.int (Int32.ofNat len)), .val (.ref s.heap.size), .unset, .unset] [.int (Int32.ofNat len), .int 0, .ref s.heap.size, .int (Int32.ofNat o), .ref b])) := c4.trans (by
    refine XS.astoreN X3.here hexec rfl (hb hbytes d3) rfl rfl rfl ?_
    refine XS.aloadN X3.here hexec rfl (hb hbytes d4) rfl rfl ?_
    refine XS.iloadN X3.here hexec rfl (hb hbytes d5) rfl ?_
    refine XS.aloadN X3.here hexec rfl (hb hbytes d6) rfl rfl ?_
    refine iconstV X3.here hexec rfl 0 (hb hbytes d7) (by decide) ?_
    refine XS.iloadN X3.here hexec rfl (hb hbytes d8) rfl ?_
    exact Steps.refl _)
  obtain ⟨v6, T6, X6, E6, g6⟩ := X3.callS hexec (Cmp5.law l b A s.heap.size B3 o 0 len) hown (wks W (staticW U16 115 Cmp5.yN)) (wk W Cmp5.tab) (W := 0) (Nat.le_of_ble_eq_true rfl) (Nat.le_of_ble_eq_true rfl) (Nat.le_refl _) (by show 0 + len + 0 ≤ len; omega) (g := (mkF m 9 #[.val (.ref b), .val (.int (Int32.ofNat o)), .val (.int (Int32.ofNat len)), .val (.ref s.heap.size), .unset, .unset] [.int (Int32.ofNat len), .int (Int32.ofNat 0), .ref s.heap.size, .int (Int32.ofNat o), .ref b])) rfl (by rw [hml]; rfl) c5 (argsL := [.ref b, .int (Int32.ofNat o), .ref s.heap.size, .int (Int32.ofNat 0), .int (Int32.ofNat len)]) (rest := []) rfl rfl (by show 2 * 0 + 0 ≤ _; decide) (hb hbytes d9) (⟨rfl, hA3, ba3, hne, l1, by rw [bs3]; simp, hp⟩)
  obtain ⟨rfl, B6, p6, f6⟩ := E6
  have c7 : Steps p.tables e below (s₁.setTop (entryFrame m #[.ref b, .int (Int32.ofNat o), .int (Int32.ofNat len)] 6)) (T6.setTop (mkF m 12 #[.val (.ref b), .val (.int (Int32.ofNat o)), .val (.int (Int32.ofNat len)), .val (.ref s.heap.size), .unset, .unset] [.int (Int32.ofNat len)])) := g6
  have c8 : Steps p.tables e below (s₁.setTop (entryFrame m #[.ref b, .int (Int32.ofNat o), .int (Int32.ofNat len)] 6)) (T6.setTop (mkF m 58 #[.val (.ref b), .val (.int (Int32.ofNat o)), .val (.int (Int32.ofNat len)), .val (.ref s.heap.size), .val (.int (Int32.ofNat len)), .unset] [.ref s.heap.size])) := c7.trans (by
    refine XS.istore X6.here hexec rfl (hb hbytes d12) rfl rfl ?_
    refine XS.iload X6.here hexec rfl (hb hbytes d14) rfl ?_
    refine XS.iloadN X6.here hexec rfl (hb hbytes d16) rfl ?_
    refine XS.icmpYes X6.here hexec rfl (pc0 := 17) rfl (hb hbytes d17) rfl (ii_eq_t rfl) (by decide) rfl ?_
    refine XS.aloadN X6.here hexec rfl (hb hbytes d57) rfl rfl ?_
    exact Steps.refl _)
  have X8 := X6.wide (L' := []) (cells' := 1) (slots' := len) (fun x hx hlt => by
    simp only [List.nil_append, copyLocs, List.mem_map, List.mem_range] at hx
    obtain ⟨i, -, rfl⟩ := hx
    exact absurd hlt (Nat.lt_irrefl _)) (Nat.le_refl _) (by omega)
  exact ⟨T6, some (.ref s.heap.size), _, _, _, X8, rfl, rfl, rfl, (fun h => by cases h), ⟨⟨rfl, B6, ba3.like (X3.warmed.alike.symm.trans X6.warmed.alike) p6.1 f6.1 f6.2.1 f6.2.2.1, f6.2.1.trans bv3, by rw [X6.warmed.alike.findClass, f6.1]; exact bf3, by rw [f6.2.2.1, bs3]; simp, fun j hj => by rw [f6.2.2.2 j, if_pos (by omega)]; rfl, kp3.put p6 (Nat.le_refl _)⟩, by rw [p6.2.2, bh3, hh0]; simp⟩, fun fs hl => c8.trans (X8.areturnOut hexec rfl hret rfl (hb hbytes d58) hl)⟩
end Cmp3
namespace CodL
def yN : MethodName := ⟨"java/lang/StringUTF16", "coderFromArrayLen", "([BI)B"⟩
abbrev yB : ByteArray := jdk_52_method_15_code
theorem d0 : decode yB 0 = .ok (.iload_n 1, 1) := by decide +kernel
theorem d1 : decode yB 1 = .ok (.aload_n 0, 1) := by decide +kernel
theorem d2 : decode yB 2 = .ok (.arraylength, 1) := by decide +kernel
theorem d3 : decode yB 3 = .ok (.isub, 1) := by decide +kernel
theorem d4 : decode yB 4 = .ok (.bipush 31, 2) := by decide +kernel
theorem d6 : decode yB 6 = .ok (.iushr, 1) := by decide +kernel
theorem d7 : decode yB 7 = .ok (.i2b, 1) := by decide +kernel
theorem d8 : decode yB 8 = .ok (.ireturn, 1) := by decide +kernel
def site : List Cond := []
def tab : Cond := tabOf yN yB 2 (some .byte) site
def P (d : Addr) (B : Cell) (args : Array Value) (s : State) : Prop := args = #[.ref d, .int (Int32.ofNat B.slots.size)] ∧ Arr .byte d B s
def E (r : Option Value) (s u : State) : Prop := XT.PureE (some (.int 0)) r s u
/-- an array as long as the number of chars: LATIN1 -/
theorem law (l : Launch) (d : Addr) (B : Cell) : Law l yN 2 2 0 0 yB 2 (some .byte) site (P d B) E [] 0 0 := by
  refine Law.of_walk (plainFor_of_name (by decide +kernel)) (by decide +kernel) (by decide +kernel) (by decide) (fun _ _ h => by rw [h.1]; rfl) (fun _ U U' hal hh h => ⟨h.1, h.2.mv hal hh⟩) (fun r U U' V V' h1 hal h2 h => XT.PureE.mv r U U' V V' h1 hal h2 h) ?_
  intro p e s m args below meth c s₁ X0 hexec hbytes hml hret hlk hnm hown hh0 W hP
  obtain ⟨rfl, hB⟩ := hP
  have hB0 := hB.mv X0.warmed.alike hh0
  have c1 : Steps p.tables e below (s₁.setTop (entryFrame m #[.ref d, .int (Int32.ofNat B.slots.size)] 2)) (s₁.setTop (mkF m 0 #[.val (.ref d), .val (.int (Int32.ofNat B.slots.size))] [])) := entry rfl
  have c2 : Steps p.tables e below (s₁.setTop (entryFrame m #[.ref d, .int (Int32.ofNat B.slots.size)] 2)) (s₁.setTop (mkF m 2 #[.val (.ref d), .val (.int (Int32.ofNat B.slots.size))] [.ref d, .int (Int32.ofNat B.slots.size)])) := c1.trans (by
    refine XS.iloadN X0.here hexec rfl (hb hbytes d0) rfl ?_
    refine XS.aloadN X0.here hexec rfl (hb hbytes d1) rfl rfl ?_
    exact Steps.refl _)
  have c3 : Steps p.tables e below (s₁.setTop (entryFrame m #[.ref d, .int (Int32.ofNat B.slots.size)] 2)) (s₁.setTop (mkF m 8 #[.val (.ref d), .val (.int (Int32.ofNat B.slots.size))] [.int (lo8 (ushr (Int32.ofNat B.slots.size - Int32.ofNat B.slots.size) 31))])) := c2.trans (by
    refine X0.alen hexec hB0 rfl rfl (hb hbytes d2) ?_
    refine XS.isub X0.here hexec rfl (hb hbytes d3) rfl ?_
    refine bipushV X0.here hexec rfl 31 (hb hbytes d4) (by decide) ?_
    refine iushr X0.here hexec rfl (hb hbytes d6) rfl ?_
    refine i2b X0.here hexec rfl (hb hbytes d7) rfl ?_
    exact Steps.refl _)
  have e0 : lo8 (ushr (Int32.ofNat B.slots.size - Int32.ofNat B.slots.size) 31) = 0 := by rw [Int32.sub_self]; decide
  rw [e0] at c3
  exact ⟨s₁, some (.int 0), _, _, _, X0, rfl, rfl, rfl, (fun h => by cases h), ⟨rfl, hh0⟩, fun fs hl => c3.trans (X0.ireturnOut hexec hret rfl (Or.inr (Or.inr (Or.inl rfl))) (hb hbytes d8) hl)⟩
end CodL
/-- the String at a is Latin-1 over a new byte[] (the heap's one new cell): the low bytes of the len chars of A from o on; every cell but a is kept -/
def Got (a : Addr) (D : Cell) (fV fC : Field) (A : Cell) (o len : Nat) (r : Option Value) (s u : State) : Prop := r = none ∧ ∃ D' V : Cell, Blank "java/lang/String" a D' u ∧ Same D D' [fV.slot, fC.slot] ∧ D'.slots[fV.slot]? = some (.ref s.heap.size) ∧ D'.slots[fC.slot]? = some (.int 0) ∧ Arr .byte s.heap.size V u ∧ V.vm = .none ∧ u.vm.findClass "[B" = some V.cls ∧ V.slots.size = len ∧ (∀ j, j < len → V.slots[j]? = some (.int (lo8 (cv A (o + j))))) ∧ (∀ (y : Addr) (c : Cell), y ≠ a → s.heap[y]? = some c → u.heap[y]? = some c) ∧ u.heap.size = s.heap.size + 1
theorem Got.mv {a : Addr} {D A : Cell} {fV fC : Field} {o len : Nat} : ∀ r (U U' V V' : State), U'.heap = U.heap → V.vm.Alike V'.vm → V'.heap = V.heap → Got a D fV fC A o len r U V → Got a D fV fC A o len r U' V' :=
  fun r U U' V V' h1 hal h2 ⟨e0, D', X, a1, a2, a3, a4, a5, a6, a7, a8, a9, a10, a11⟩ => ⟨e0, D', X, a1.mv hal h2, a2, by rw [h1]; exact a3, a4, by rw [h1]; exact a5.mv hal h2, a6, by rw [hal.findClass]; exact a7, a8, a9, by rw [h1, h2]; exact a10, by rw [h1, h2]; exact a11⟩
namespace New4
def yN : MethodName := ⟨"java/lang/String", "<init>", "([CIILjava/lang/Void;)V"⟩
abbrev yB : ByteArray := jdk_42_method_149_code
theorem d0 : decode yB 0 = .ok (.aload_n 0, 1) := by decide +kernel
theorem d1 : decode yB 1 = .ok (.invokespecial 1, 3) := by decide +kernel
theorem d4 : decode yB 4 = .ok (.iload_n 3, 1) := by decide +kernel
theorem d5 : decode yB 5 = .ok (.ifCond (.ne) 22, 3) := by decide +kernel
theorem d27 : decode yB 27 = .ok (.getstatic 38, 3) := by decide +kernel
theorem d30 : decode yB 30 = .ok (.ifCond (.eq) 28, 3) := by decide +kernel
theorem d33 : decode yB 33 = .ok (.aload_n 1, 1) := by decide +kernel
theorem d34 : decode yB 34 = .ok (.iload_n 2, 1) := by decide +kernel
theorem d35 : decode yB 35 = .ok (.iload_n 3, 1) := by decide +kernel
theorem d36 : decode yB 36 = .ok (.invokestatic 177, 3) := by decide +kernel
theorem d39 : decode yB 39 = .ok (.astore 5, 2) := by decide +kernel
theorem d41 : decode yB 41 = .ok (.aload_n 0, 1) := by decide +kernel
theorem d42 : decode yB 42 = .ok (.aload 5, 2) := by decide +kernel
theorem d44 : decode yB 44 = .ok (.iload_n 3, 1) := by decide +kernel
theorem d45 : decode yB 45 = .ok (.invokestatic 47, 3) := by decide +kernel
theorem d48 : decode yB 48 = .ok (.putfield 15, 3) := by decide +kernel
theorem d51 : decode yB 51 = .ok (.aload_n 0, 1) := by decide +kernel
theorem d52 : decode yB 52 = .ok (.aload 5, 2) := by decide +kernel
theorem d54 : decode yB 54 = .ok (.putfield 9, 3) := by decide +kernel
theorem d57 : decode yB 57 = .ok (.return_, 1) := by decide +kernel
def site : List Cond := [.fieldLink "java/lang/String" 38 "java/lang/String" "COMPACT_STRINGS" "Z", Cmp3.tab, CodL.tab, .laysFinal "java/lang/String" "java/lang/String" "value" "[B", .fieldLink "java/lang/String" 9 "java/lang/String" "value" "[B", .laysFinal "java/lang/String" "java/lang/String" "coder" "B", .fieldLink "java/lang/String" 15 "java/lang/String" "coder" "B"] ++ objW "java/lang/String" 1 ++ staticW "java/lang/String" 177 Cmp3.yN ++ staticW "java/lang/String" 47 CodL.yN
def tab : Cond := tabOf yN yB 6 none site
def P (a : Addr) (D : Cell) (fV fC : Field) (b : Addr) (A : Cell) (z : Int32) (o len : Nat) (args : Array Value) (s : State) : Prop := args = #[.ref a, .ref b, .int (Int32.ofNat o), .int (Int32.ofNat len), .null] ∧ Blank "java/lang/String" a D s ∧ Found "java/lang/String" "value" "[B" fV s ∧ Found "java/lang/String" "coder" "B" fC s ∧ Ch b A s ∧ StaticIs s "java/lang/String" "COMPACT_STRINGS" "Z" (.int z) ∧ ¬ z = 0 ∧ 0 < len ∧ o + len ≤ A.slots.size ∧ len ≤ 536870912 ∧ ∀ i, i < len → ¬ 255 < cv A (o + i)
def E (a : Addr) (D : Cell) (fV fC : Field) (A : Cell) (o len : Nat) (r : Option Value) (s u : State) : Prop := Got a D fV fC A o len r s u
/-- len > 0, no char of the range above 255: a Latin-1 String of their low bytes -/
theorem law (l : Launch) (a : Addr) (D : Cell) (fV fC : Field) (b : Addr) (A : Cell) (z : Int32) (o len : Nat) : Law l yN 5 4 2 35 yB 6 none site (P a D fV fC b A z o len) (E a D fV fC A o len) [⟨a, fC.slot⟩, ⟨a, fV.slot⟩] 1 len := by
  refine Law.of_walk (plainFor_of_name (by decide +kernel)) (by decide +kernel) (by decide +kernel) (by decide) (fun _ _ h => by rw [h.1]; rfl) (fun _ U U' hal hh h => ⟨h.1, h.2.1.mv hal hh, h.2.2.1.al hal, h.2.2.2.1.al hal, h.2.2.2.2.1.mv hal hh, h.2.2.2.2.2.1.there hal hh, h.2.2.2.2.2.2⟩) (fun r U U' V V' h1 hal h2 h => Got.mv r U U' V V' h1 hal h2 h) ?_
  intro p e s m args below meth c s₁ X0 hexec hbytes hml hret hlk hnm hown hh0 W hP
  obtain ⟨rfl, hB, f1, f2, hA, s1, hz, l0, l1, l2, hp⟩ := hP
  have a31 := hA.1.2.2.2
  have c1 : Steps p.tables e below (s₁.setTop (entryFrame m #[.ref a, .ref b, .int (Int32.ofNat o), .int (Int32.ofNat len), .null] 6)) (s₁.setTop (mkF m 0 #[.val (.ref a), .val (.ref b), .val (.int (Int32.ofNat o)), .val (.int (Int32.ofNat len)), .val .null, .unset] [])) := entry rfl
  have c2 : Steps p.tables e below (s₁.setTop (entryFrame m #[.ref a, .ref b, .int (Int32.ofNat o), .int (Int32.ofNat len), .null] 6)) (s₁.setTop (mkF m 1 #[.val (.ref a), .val (.ref b), .val (.int (Int32.ofNat o)), .val (.int (Int32.ofNat len)), .val .null, .unset] [.ref a])) := c1.trans (by
    refine XS.aloadN X0.here hexec rfl (hb hbytes d0) rfl rfl ?_
    exact Steps.refl _)
  obtain ⟨T3, X3, q3, st3⟩ := X0.oinit hexec hown (wks W (objW "java/lang/String" 1)) (g := (mkF m 1 #[.val (.ref a), .val (.ref b), .val (.int (Int32.ofNat o)), .val (.int (Int32.ofNat len)), .val .null, .unset] [.ref a])) rfl (by rw [hml]; rfl) (rest := []) rfl (hb hbytes d1) (W := 0) (by show 2 * 0 + 0 ≤ _; decide) (Nat.le_of_ble_eq_true rfl) (Nat.le_of_ble_eq_true rfl)
  have hh3 := q3.trans hh0
  have c4 : Steps p.tables e below (s₁.setTop (entryFrame m #[.ref a, .ref b, .int (Int32.ofNat o), .int (Int32.ofNat len), .null] 6)) (T3.setTop (mkF m 27 #[.val (.ref a), .val (.ref b), .val (.int (Int32.ofNat o)), .val (.int (Int32.ofNat len)), .val .null, .unset] [])) := (c2.trans (st3 _ (Steps.refl _))).trans (by
    refine XS.iloadN X3.here hexec rfl (hb hbytes d4) rfl ?_
    refine XS.ifYes X3.here hexec rfl (pc0 := 5) rfl (hb hbytes d5) rfl (i0_ne_t (nz32 (by omega) l0)) (by decide) rfl ?_
    exact Steps.refl _)
  obtain ⟨T5, X5, q5, st5⟩ := X3.sget hexec hown (wk W (.fieldLink "java/lang/String" 38 "java/lang/String" "COMPACT_STRINGS" "Z")) s1 (fun _ _ h => by rw [hh3]; exact h) (g := (mkF m 27 #[.val (.ref a), .val (.ref b), .val (.int (Int32.ofNat o)), .val (.int (Int32.ofNat len)), .val .null, .unset] [])) rfl (hb hbytes d27)
  have hh5 := q5.trans hh3
  have c6 : Steps p.tables e below (s₁.setTop (entryFrame m #[.ref a, .ref b, .int (Int32.ofNat o), .int (Int32.ofNat len), .null] 6)) (T5.setTop (mkF m 30 #[.val (.ref a), .val (.ref b), .val (.int (Int32.ofNat o)), .val (.int (Int32.ofNat len)), .val .null, .unset] [.int z])) := c4.trans (st5 _ (Steps.refl _))
  have c7 : Steps p.tables e below (s₁.setTop (entryFrame m #[.ref a, .ref b, .int (Int32.ofNat o), .int (Int32.ofNat len), .null] 6)) (T5.setTop (mkF m 36 #[.val (.ref a), .val (.ref b), .val (.int (Int32.ofNat o)), .val (.int (Int32.ofNat len)), .val .null, .unset] [.int (Int32.ofNat len), .int (Int32.ofNat o), .ref b])) := c6.trans (by
    refine XS.ifNo X5.here hexec rfl (hb hbytes d30) rfl (i0_eq_f hz) ?_
    refine XS.aloadN X5.here hexec rfl (hb hbytes d33) rfl rfl ?_
    refine XS.iloadN X5.here hexec rfl (hb hbytes d34) rfl ?_
    refine XS.iloadN X5.here hexec rfl (hb hbytes d35) rfl ?_
    exact Steps.refl _)
  obtain ⟨v8, T8, X8, E8, g8⟩ := X5.callS hexec (Cmp3.law l b A o len) hown (wks W (staticW "java/lang/String" 177 Cmp3.yN)) (wk W Cmp3.tab) (W := 0) (Nat.le_of_ble_eq_true rfl) (Nat.le_of_ble_eq_true rfl) (Nat.le_refl _) (by show 0 + len ≤ len; omega) (g := (mkF m 36 #[.val (.ref a), .val (.ref b), .val (.int (Int32.ofNat o)), .val (.int (Int32.ofNat len)), .val .null, .unset] [.int (Int32.ofNat len), .int (Int32.ofNat o), .ref b])) rfl (by rw [hml]; rfl) c7 (argsL := [.ref b, .int (Int32.ofNat o), .int (Int32.ofNat len)]) (rest := []) rfl rfl (by show 2 * 0 + 0 ≤ _; decide) (hb hbytes d36) (⟨rfl, hA.mv X5.warmed.alike hh5, l1, l2, hp⟩)
  obtain ⟨e8, z8⟩ := E8
  obtain ⟨rfl, N, n1, n2, n3, n4, n5, n6⟩ := NewArr.mv _ T5 s _ _ hh5.symm (Vm.Alike.refl _) rfl e8
  rw [hh5] at z8
  have hB1 := hB.keep X8.warmed.alike (n6 _ _ hB.1)
  have hne : s.heap.size ≠ a := (Nat.ne_of_lt (Array.getElem?_eq_some_iff.mp hB.1).1).symm
  have c9 : Steps p.tables e below (s₁.setTop (entryFrame m #[.ref a, .ref b, .int (Int32.ofNat o), .int (Int32.ofNat len), .null] 6)) (T8.setTop (mkF m 39 #[.val (.ref a), .val (.ref b), .val (.int (Int32.ofNat o)), .val (.int (Int32.ofNat len)), .val .null, .unset] [.ref s.heap.size])) := g8
  have c10 : Steps p.tables e below (s₁.setTop (entryFrame m #[.ref a, .ref b, .int (Int32.ofNat o), .int (Int32.ofNat len), .null] 6)) (T8.setTop (mkF m 45 #[.val (.ref a), .val (.ref b), .val (.int (Int32.ofNat o)), .val (.int (Int32.ofNat len)), .val .null, .val (.ref s.heap.size)] [.int (Int32.ofNat N.slots.size), .ref s.heap.size, .ref a])) := by
    have hc : Steps p.tables e below (s₁.setTop (entryFrame m #[.ref a, .ref b, .int (Int32.ofNat o), .int (Int32.ofNat len), .null] 6)) (T8.setTop (mkF m 45 #[.val (.ref a), .val (.ref b), .val (.int (Int32.ofNat o)), .val (.int (Int32.ofNat len)), .val .null, .val (.ref s.heap.size)] [.int (Int32.ofNat len), .ref s.heap.size, .ref a])) := c9.trans (by
      refine XS.astore X8.here hexec rfl (hb hbytes d39) rfl rfl rfl ?_
      refine XS.aloadN X8.here hexec rfl (hb hbytes d41) rfl rfl ?_
      refine XS.aload X8.here hexec rfl (hb hbytes d42) rfl rfl ?_
      refine XS.iloadN X8.here hexec rfl (hb hbytes d44) rfl ?_
      exact Steps.refl _)
    rw [n4]; exact hc
  obtain ⟨v11, T11, X11, E11, g11⟩ := X8.callS hexec (CodL.law l s.heap.size N) hown (wks W (staticW "java/lang/String" 47 CodL.yN)) (wk W CodL.tab) (W := 1) (Nat.le_of_ble_eq_true rfl) (Nat.le_of_ble_eq_true rfl) (Nat.le_refl _) (by show 0 + len + 0 ≤ len; omega) (g := (mkF m 45 #[.val (.ref a), .val (.ref b), .val (.int (Int32.ofNat o)), .val (.int (Int32.ofNat len)), .val .null, .val (.ref s.heap.size)] [.int (Int32.ofNat N.slots.size), .ref s.heap.size, .ref a])) rfl (by rw [hml]; rfl) c10 (argsL := [.ref s.heap.size, .int (Int32.ofNat N.slots.size)]) (rest := [.ref a]) rfl rfl (by show 2 * 0 + (1 + 0) ≤ _; decide) (hb hbytes d45) (⟨rfl, n1⟩)
  obtain ⟨rfl, q11⟩ := E11
  have hB11 := hB1.mv (X8.warmed.alike.symm.trans X11.warmed.alike) q11
  have c12 : Steps p.tables e below (s₁.setTop (entryFrame m #[.ref a, .ref b, .int (Int32.ofNat o), .int (Int32.ofNat len), .null] 6)) (T11.setTop (mkF m 48 #[.val (.ref a), .val (.ref b), .val (.int (Int32.ofNat o)), .val (.int (Int32.ofNat len)), .val .null, .val (.ref s.heap.size)] [.int 0, .ref a])) := g11
  obtain ⟨T13, X13, p13, bl13, sl13, st13⟩ := X11.finit hexec hown (wk W (.fieldLink "java/lang/String" 15 "java/lang/String" "coder" "B")) (Or.inr ⟨_, (wk W (.laysFinal "java/lang/String" "java/lang/String" "coder" "B"))⟩) (Or.inl ⟨rfl, hnm⟩) f2 (Or.inl rfl) hB11 (t := .byte) (by decide +kernel) rfl (g := (mkF m 48 #[.val (.ref a), .val (.ref b), .val (.int (Int32.ofNat o)), .val (.int (Int32.ofNat len)), .val .null, .val (.ref s.heap.size)] [.int 0, .ref a])) rfl (rest := []) rfl (hb hbytes d48)
  have c14 : Steps p.tables e below (s₁.setTop (entryFrame m #[.ref a, .ref b, .int (Int32.ofNat o), .int (Int32.ofNat len), .null] 6)) (T13.setTop (mkF m 54 #[.val (.ref a), .val (.ref b), .val (.int (Int32.ofNat o)), .val (.int (Int32.ofNat len)), .val .null, .val (.ref s.heap.size)] [.ref s.heap.size, .ref a])) := (c12.trans (st13 _ (Steps.refl _))).trans (by
    refine XS.aloadN X13.here hexec rfl (hb hbytes d51) rfl rfl ?_
    refine XS.aload X13.here hexec rfl (hb hbytes d52) rfl rfl ?_
    exact Steps.refl _)
  obtain ⟨T15, X15, p15, bl15, sl15, st15⟩ := X13.finit hexec hown (wk W (.fieldLink "java/lang/String" 9 "java/lang/String" "value" "[B")) (Or.inr ⟨_, (wk W (.laysFinal "java/lang/String" "java/lang/String" "value" "[B"))⟩) (Or.inl ⟨rfl, hnm⟩) f1 (Or.inl rfl) bl13 (t := (.array .byte)) (by decide +kernel) rfl (g := (mkF m 54 #[.val (.ref a), .val (.ref b), .val (.int (Int32.ofNat o)), .val (.int (Int32.ofNat len)), .val .null, .val (.ref s.heap.size)] [.ref s.heap.size, .ref a])) rfl (rest := []) rfl (hb hbytes d54)
  have c16 : Steps p.tables e below (s₁.setTop (entryFrame m #[.ref a, .ref b, .int (Int32.ofNat o), .int (Int32.ofNat len), .null] 6)) (T15.setTop (mkF m 57 #[.val (.ref a), .val (.ref b), .val (.int (Int32.ofNat o)), .val (.int (Int32.ofNat len)), .val .null, .val (.ref s.heap.size)] [])) := c14.trans (st15 _ (Steps.refl _))
  have ap := apart (Or.inr ⟨_, (wk W (.laysFinal "java/lang/String" "java/lang/String" "value" "[B"))⟩) (Or.inr ⟨_, (wk W (.laysFinal "java/lang/String" "java/lang/String" "coder" "B"))⟩) f1 f2 (t₁ := .array .byte) (t₂ := .byte) (by decide +kernel) (by decide +kernel) (by decide)
  have al := X8.warmed.alike.symm.trans X15.warmed.alike
  have n7 : T11.heap[s.heap.size]? = some N := by rw [q11]; exact n1.1
  exact ⟨T15, none, _, _, _, X15, by simp, rfl, by omega, (fun _ => rfl), ⟨rfl, _, N, bl15, ((Same.refl D _).set _ (by simp)).set _ (by simp), sl15, (Cell.slots_setSlot_ne _ ap).trans sl13, n1.keep al (p15.other hne (p13.other hne n7)), n2, by rw [al.findClass]; exact n3, n4, n5, fun y c h1 h2 => p15.other h1 (p13.other h1 (by rw [q11]; exact n6 y c h2)), by rw [p15.2.2, p13.2.2, q11]; exact z8⟩, fun fs hl => c16.trans (X15.returnOut hexec hret (hb hbytes d57) hl)⟩
end New4
namespace New1
def yN : MethodName := ⟨"java/lang/String", "<init>", "([C)V"⟩
abbrev yB : ByteArray := jdk_42_method_3_code
theorem d0 : decode yB 0 = .ok (.aload_n 0, 1) := by decide +kernel
theorem d1 : decode yB 1 = .ok (.aload_n 1, 1) := by decide +kernel
theorem d2 : decode yB 2 = .ok (.iconst 0, 1) := by decide +kernel
theorem d3 : decode yB 3 = .ok (.aload_n 1, 1) := by decide +kernel
theorem d4 : decode yB 4 = .ok (.arraylength, 1) := by decide +kernel
theorem d5 : decode yB 5 = .ok (.aconst_null, 1) := by decide +kernel
theorem d6 : decode yB 6 = .ok (.invokespecial 27, 3) := by decide +kernel
theorem d9 : decode yB 9 = .ok (.return_, 1) := by decide +kernel
def site : List Cond := [New4.tab] ++ initW "java/lang/String" 27 New4.yN
def tab : Cond := tabOf yN yB 2 none site
def P (a : Addr) (D : Cell) (fV fC : Field) (b : Addr) (A : Cell) (z : Int32) (args : Array Value) (s : State) : Prop := args = #[.ref a, .ref b] ∧ Blank "java/lang/String" a D s ∧ Found "java/lang/String" "value" "[B" fV s ∧ Found "java/lang/String" "coder" "B" fC s ∧ Ch b A s ∧ StaticIs s "java/lang/String" "COMPACT_STRINGS" "Z" (.int z) ∧ ¬ z = 0 ∧ 0 < A.slots.size ∧ A.slots.size ≤ 536870912 ∧ ∀ i, i < A.slots.size → ¬ 255 < cv A i
def E (a : Addr) (D : Cell) (fV fC : Field) (A : Cell) (r : Option Value) (s u : State) : Prop := Got a D fV fC A 0 A.slots.size r s u
/-- new String(chars), not empty, no char above 255: a Latin-1 String of their low bytes -/
theorem law (l : Launch) (a : Addr) (D : Cell) (fV fC : Field) (b : Addr) (A : Cell) (z : Int32) : Law l yN 2 1 3 52 yB 2 none site (P a D fV fC b A z) (E a D fV fC A) [⟨a, fC.slot⟩, ⟨a, fV.slot⟩] 1 A.slots.size := by
  refine Law.of_walk (plainFor_of_name (by decide +kernel)) (by decide +kernel) (by decide +kernel) (by decide) (fun _ _ h => by rw [h.1]; rfl) (fun _ U U' hal hh h => ⟨h.1, h.2.1.mv hal hh, h.2.2.1.al hal, h.2.2.2.1.al hal, h.2.2.2.2.1.mv hal hh, h.2.2.2.2.2.1.there hal hh, h.2.2.2.2.2.2⟩) (fun r U U' V V' h1 hal h2 h => Got.mv r U U' V V' h1 hal h2 h) ?_
  intro p e s m args below meth c s₁ X0 hexec hbytes hml hret hlk hnm hown hh0 W hP
  obtain ⟨rfl, hB, f1, f2, hA, s1, hz, l0, l2, hp⟩ := hP
  have c1 : Steps p.tables e below (s₁.setTop (entryFrame m #[.ref a, .ref b] 2)) (s₁.setTop (mkF m 0 #[.val (.ref a), .val (.ref b)] [])) := entry rfl
  have c2 : Steps p.tables e below (s₁.setTop (entryFrame m #[.ref a, .ref b] 2)) (s₁.setTop (mkF m 6 #[.val (.ref a), .val (.ref b)] [.null, .int (Int32.ofNat A.slots.size), .int 0, .ref b, .ref a])) := c1.trans (by
    refine XS.aloadN X0.here hexec rfl (hb hbytes d0) rfl rfl ?_
    refine XS.aloadN X0.here hexec rfl (hb hbytes d1) rfl rfl ?_
    refine iconstV X0.here hexec rfl 0 (hb hbytes d2) (by decide) ?_
    refine XS.aloadN X0.here hexec rfl (hb hbytes d3) rfl rfl ?_
    refine X0.alen hexec (hA.1.mv X0.warmed.alike hh0) rfl rfl (hb hbytes d4) ?_
    refine XS.aconstNull X0.here hexec rfl (hb hbytes d5) ?_
    exact Steps.refl _)
  obtain ⟨v3, T3, X3, E3, g3⟩ := X0.callN hexec (New4.law l a D fV fC b A z 0 A.slots.size) rfl hown (wks W (initW "java/lang/String" 27 New4.yN)) (W New4.tab (by simp only [site, List.mem_cons, List.mem_append, true_or, or_true])) (W := 0) (Nat.le_of_ble_eq_true rfl) (Nat.le_of_ble_eq_true rfl) (Nat.le_refl _) (by show 0 + A.slots.size ≤ A.slots.size; omega) (g := (mkF m 6 #[.val (.ref a), .val (.ref b)] [.null, .int (Int32.ofNat A.slots.size), .int (Int32.ofNat 0), .ref b, .ref a])) rfl (by rw [hml]; rfl) c2 (argsL := [.ref b, .int (Int32.ofNat 0), .int (Int32.ofNat A.slots.size), .null]) (rest := []) rfl rfl (by show 2 * 0 + 0 ≤ _; decide) (hb hbytes d6) (⟨rfl, hB.mv X0.warmed.alike hh0, f1.al X0.warmed.alike, f2.al X0.warmed.alike, hA.mv X0.warmed.alike hh0, s1.there X0.warmed.alike hh0, hz, l0, by omega, l2, fun i hi => by rw [Nat.zero_add]; exact hp i hi⟩)
  have e0 := Got.mv _ s₁ s _ _ hh0.symm (Vm.Alike.refl _) rfl E3
  obtain rfl := e0.1
  have c4 : Steps p.tables e below (s₁.setTop (entryFrame m #[.ref a, .ref b] 2)) (T3.setTop (mkF m 9 #[.val (.ref a), .val (.ref b)] [])) := g3
  exact ⟨T3, none, _, _, _, X3, by simp, rfl, by omega, (fun _ => rfl), e0, fun fs hl => c4.trans (X3.returnOut hexec hret (hb hbytes d9) hl)⟩
theorem pays {l : Launch} {R : Room} {p : Program} {e : Env} {below : List Frame} {s : State} {sargs : Array Value} {len W : Nat} (a : Addr) (D : Cell) (fV fC : Field) (b : Addr) (A : Cell) (z : Int32) (htab : tab.before sargs s = true) (hfr : 4 ≤ R.frames) (hlo : W + 65 ≤ R.locals) :
    Back l R p e below s sargs yN len W (fun A₁ a₁ => A₁.cells + 1 ≤ R.cells ∧ A₁.slots + A.slots.size ≤ R.slots ∧ P a D fV fC b A z a₁ A₁.U) (fun A₁ _ v₁ B₁ => E a D fV fC A v₁ A₁.U B₁.U ∧ B₁.locs = A₁.locs ++ [⟨a, fC.slot⟩, ⟨a, fV.slot⟩] ∧ B₁.cells = A₁.cells + 1 ∧ B₁.slots = A₁.slots + A.slots.size) :=
  (law l a D fV fC b A z).pays htab hfr (by omega)
end New1
/-- the byte, read back as charAt reads it, is the char -/
theorem lo8_mask {x : Int32} (h0 : ¬ x < 0) (h1 : ¬ 255 < x) : lo8 x &&& 255 = x := by
  have t : ∀ k : Fin 256, lo8 (Int32.ofNat k.val) &&& 255 = Int32.ofNat k.val := by decide +kernel
  rw [Int32.lt_iff_toInt_lt] at h0 h1
  have e0 : (0 : Int32).toInt = 0 := rfl
  have e1 : (255 : Int32).toInt = 255 := rfl
  obtain ⟨k, hk⟩ : ∃ k : Nat, x.toInt = k := ⟨x.toInt.toNat, by omega⟩
  have hx : x = Int32.ofNat k := Int32.toInt_inj.mp (by rw [hk, Int32.toInt_ofNat_small (by omega)])
  rw [hx]
  exact t ⟨k, by omega⟩
end StrChars
namespace StrChars.Road
open Jvm Sem ClassFile Op Lib Jvm.Stand Jvm.Free Jvm.Free.XT
open Jvm.Lib.Cold (StaticIs)
abbrev ST : String := "java/lang/String"
/-- every table word that New1's law asks, flat -/
abbrev words : List Jvm.Cond := [.code New1.yN New1.yB 2 none, .initialized ST, .methodLink ST 27 New4.yN, .instanceMethod New4.yN,
  .code New4.yN New4.yB 6 none, .fieldLink ST 38 ST "COMPACT_STRINGS" "Z", .laysFinal ST ST "value" "[B", .fieldLink ST 9 ST "value" "[B", .laysFinal ST ST "coder" "B", .fieldLink ST 15 ST "coder" "B",
  .methodLink ST 1 Lib.objectInit, .instanceMethod Lib.objectInit, .code Lib.objectInit ⟨#[0xb1]⟩ 1 none, .methodLink ST 177 Cmp3.yN, .static Cmp3.yN, .methodLink ST 47 CodL.yN, .static CodL.yN,
  .code Cmp3.yN Cmp3.yB 6 (some (.array .byte)), .initialized U16, .arrayClass .byte, .methodLink U16 115 Cmp5.yN, .static Cmp5.yN, .code Cmp5.yN Cmp5.yB 7 (some .int), .code CodL.yN CodL.yB 2 (some .byte)]
theorem tab_of {a : Array Value} {s : State} (h : ∀ w ∈ words, w.before a s = true) : New1.tab.before a s = true := by
  have h5 : Cmp5.tab.before a s = true := unparts (wk h (.code Cmp5.yN Cmp5.yB 7 (some .int))) (wks h (.initialized Cmp5.yN.cls :: Cmp5.site))
  have hc : CodL.tab.before a s = true := unparts (wk h (.code CodL.yN CodL.yB 2 (some .byte))) (wks h (.initialized CodL.yN.cls :: CodL.site))
  have q5 : ∀ w ∈ Cmp5.tab :: words, w.before a s = true := fun w hw => (List.mem_cons.mp hw).elim (fun e => e ▸ h5) (h w)
  have h3 : Cmp3.tab.before a s = true := unparts (wk q5 (.code Cmp3.yN Cmp3.yB 6 (some (.array .byte)))) (wks q5 (.initialized Cmp3.yN.cls :: Cmp3.site))
  have q3 : ∀ w ∈ Cmp3.tab :: CodL.tab :: words, w.before a s = true := fun w hw => (List.mem_cons.mp hw).elim (fun e => e ▸ h3) fun hw => (List.mem_cons.mp hw).elim (fun e => e ▸ hc) (h w)
  have h4 : New4.tab.before a s = true := unparts (wk q3 (.code New4.yN New4.yB 6 none)) (wks q3 (.initialized New4.yN.cls :: New4.site))
  have q4 : ∀ w ∈ New4.tab :: words, w.before a s = true := fun w hw => (List.mem_cons.mp hw).elim (fun e => e ▸ h4) (h w)
  exact unparts (wk q4 (.code New1.yN New1.yB 2 none)) (wks q4 (.initialized New1.yN.cls :: New1.site))
/-- the words ride from the start Z to the walk's own state -/
theorem moved {Z s : State} {a0 args : Array Value} (hZ : Z.Warmed39 s.vm) (hw : ∀ d ∈ words, d.before a0 Z = true) : ∀ d ∈ words, d.before args s = true := fun d hd => by
  have q := hw d hd
  have t : ∀ d ∈ words, d = .arrayClass .byte ∨ (d.onTables && d.keepsFace) = true := by decide +kernel
  rcases t d hd with rfl | t
  · exact RoadKit.mvA hZ q
  · exact RoadKit.mv hZ q t
/-- WHAT COMES BACK, over the tables of the start Z: h the heap at the call, h' behind it -/
def Q (Z : State) (x : Addr) (A : Cell) (h : Heap) (v : Option Value) (h' : Heap) (L : List Loc) : Prop := v = none ∧ (∀ y ∈ L, y.base = x) ∧ RoadKit.Keep h h' [x] ∧ h'.size = h.size + 1 ∧ RoadKit.Exa Z h' x ST ∧ RoadKit.Fld Z h' x ST "value" "[B" (.ref h.size) ∧ RoadKit.Fld Z h' x ST "coder" "B" (.int 0) ∧
  (∃ V : Cell, RoadKit.Arr Z h' h.size V .byte ∧ V.vm = .none ∧ Z.vm.findClass "[B" = some V.cls ∧ V.slots.size = A.slots.size ∧ ∀ j, j < A.slots.size → V.slots[j]? = some (.int (lo8 (cv A j)))) ∧
  ∀ (O n d : String) (w : Value), RoadKit.Fld Z h x O n d w → RoadKit.slotOf Z O n d ≠ RoadKit.slotOf Z ST "value" "[B" → RoadKit.slotOf Z O n d ≠ RoadKit.slotOf Z ST "coder" "B" → RoadKit.Fld Z h' x O n d w
/-- **new String(chars) AT A CALL, IN THE ROAD'S FORM**: for specialBack behind newO: x the fresh String, b the char[] with the cell A -/
theorem back {p : Program} {l : Launch} {e : Env} {R : Room} {s : State} {args : Array Value} {below : List Frame} {len W : Nat} {Z : State} {a0 : Array Value} {h : Heap} (hZ : Z.Warmed39 s.vm) (hw : ∀ d ∈ words, d.before a0 Z = true) {kI : Nat} (wi : (Jvm.Cond.instantiable ST kI).before a0 Z = true)
    {x b : Addr} {A : Cell} {z : Int32} {v0 c0 : Value} (E : RoadKit.Exa Z h x ST) (V : RoadKit.Fld Z h x ST "value" "[B" v0) (C : RoadKit.Fld Z h x ST "coder" "B" c0) (K : RoadKit.Arr Z h b A .char) (hty : Typed .char A) (S : RoadKit.Sta Z h ST "COMPACT_STRINGS" "Z" (.int z)) (hz : ¬ z = 0)
    (l0 : 0 < A.slots.size) (l2 : A.slots.size ≤ 536870912) (hp : ∀ i, i < A.slots.size → ¬ 255 < cv A i) (hfr : 4 ≤ R.frames) (hlo : W + 65 ≤ R.locals) :
    Back l R p e below s args New1.yN len W (fun P a => a = #[.ref x, .ref b] ∧ P.U.heap = h ∧ P.cells + 1 ≤ R.cells ∧ P.slots + A.slots.size ≤ R.slots)
      (fun P _ v B => ∃ L, Q Z x A h v B.U.heap L ∧ B.locs = P.locs ++ L ∧ B.cells = P.cells + 1 ∧ B.slots = P.slots + A.slots.size) := by
  intro m meth c P g ig mk a X hg hsize hdg hW hn hp'
  obtain ⟨rfl, rfl, r1, r2⟩ := hp'
  have al : Z.vm.Alike P.U.vm := hZ.alike.trans X.warmed.alike
  obtain ⟨D, cfV, kV, iV, fV, hD, gV, stV, knV, obV, asV, slV⟩ := id V
  obtain ⟨D', cfC, kC, iC, fC, hD', gC, stC, -, -, asC, slC⟩ := id C
  cases hD.symm.trans hD'
  obtain ⟨D2, kD, e1, e2, e3, e4, e5⟩ := id E
  cases hD.symm.trans e1
  obtain ⟨c2, k2, i1, i2, i3, -⟩ := Cond.instantiable_spec wi
  cases e2.symm.trans i1
  cases e3.symm.trans i2
  obtain ⟨kU, u1, u2⟩ := al.2.2 _ _ e3
  have hB : Blank ST x D P.U := ⟨hD, ⟨knV, fun q hq => by rw [hq] at obV; cases obV⟩, by rw [al.findClass]; exact e2, kU, u1, by rw [u2]; exact i3, by rw [u2]; exact e5 i3⟩
  have F1 : Found ST "value" "[B" fV P.U := ⟨SBG.found_only al ⟨cfV, kV, iV, gV⟩, stV⟩
  have F2 : Found ST "coder" "B" fC P.U := ⟨SBG.found_only al ⟨cfC, kC, iC, gC⟩, stC⟩
  have hA : Ch b A P.U := ⟨⟨K.1, State.isArrayOf_alike al K.2.1, K.2.2, by omega⟩, hty⟩
  have hS : StaticIs P.U ST "COMPACT_STRINGS" "Z" (.int z) := by
    obtain ⟨cfS, iS, kS, fS, st, cS, t1, t2, t3, t4, t5, t6, t7⟩ := S
    exact StaticIs.there (s := { Z with heap := P.U.heap }) ⟨cfS, iS, kS, fS, st, cS, t1, t2, t3, t4, t5, (fun q => by rw [q] at t6; cases t6), t7⟩ al rfl
  obtain ⟨v, B, X', ⟨⟨hv, E', V', q1, q2, q3, q4, q5, q6, q7, q8, q9, q10, q11⟩, hl, hc, hs⟩, st⟩ := New1.pays x D fV fC b A z (tab_of (moved hZ hw)) hfr hlo m meth c P g ig mk _ X hg hsize hdg hW hn ⟨r1, r2, rfl, hB, F1, F2, hA, hS, hz, l0, l2, hp⟩
  have al' : Z.vm.Alike B.U.vm := hZ.alike.trans X'.warmed.alike
  have hsz : E'.slots.size = D.slots.size := by
    obtain ⟨-, -, -, kB, w1, w2, w3⟩ := q1
    obtain ⟨kB', y1, y2⟩ := al'.2.2 _ _ e3
    rw [q2.2.1] at w1
    cases w1.symm.trans y1
    rw [w3, e5 i3, y2]
  refine ⟨v, B, X', ⟨_, ⟨hv, ?_, ⟨by omega, fun y cy hy hn' => q10 y cy (by simpa using hn') hy, fun y cy hy => ?_⟩, q11, ⟨E', _, q1.1, by rw [q2.2.1]; exact e2, by rw [q2.2.1]; exact e3, by rw [q2.1]; exact obV, fun _ => by rw [hsz]; exact e5 i3⟩,
    ⟨E', cfV, kV, iV, fV, q1.1, gV, stV, by rw [q2.1]; exact knV, by rw [q2.1]; exact obV, by rw [q2.2.1]; exact asV, q3⟩, ⟨E', cfC, kC, iC, fC, q1.1, gC, stC, by rw [q2.1]; exact knV, by rw [q2.1]; exact obV, by rw [q2.2.1]; exact asC, q4⟩,
    ⟨V', ⟨q5.1, State.isArrayOf_alike al'.symm q5.2.1, q5.2.2.1⟩, q6, by rw [← al'.findClass]; exact q7, q8, fun j hj => by have := q9 j hj; rwa [Nat.zero_add] at this⟩, fun O n d w F n1 n2 => ?_⟩, hl, hc, hs⟩, st⟩
  · intro y hy
    simp only [List.mem_cons, List.not_mem_nil, or_false] at hy
    rcases hy with rfl | rfl <;> rfl
  · by_cases q : y = x
    · subst q
      cases hD.symm.trans hy
      exact ⟨E', q1.1, q2.2.1, q2.1, hsz⟩
    · exact ⟨cy, q10 y cy q hy, rfl, rfl, rfl⟩
  · obtain ⟨D3, cf, k, i, f, g1, g2, g3, g4, g5, g6, g7⟩ := F
    cases hD.symm.trans g1
    simp only [RoadKit.slotOf, g2, gV, gC, Option.map_some, Option.getD_some] at n1 n2
    exact ⟨E', cf, k, i, f, q1.1, g2, g3, by rw [q2.1]; exact g4, by rw [q2.1]; exact g5, by rw [q2.2.1]; exact g6, by rw [q2.2.2 f.slot (by simp [n1, n2])]; exact g7⟩
end StrChars.Road
namespace StrChars.Road
open Jvm Sem ClassFile Op Lib Jvm.Stand Jvm.Free Jvm.Free.XT
/-- WHAT COMES BACK, the byte[] as a list of values -/
def QA (Z : State) (x : Addr) (zn : Int32) (cs : List Int32) (h : Heap) (v : Option Value) (h' : Heap) (L : List Loc) : Prop := v = none ∧ (∀ y ∈ L, y.base = x) ∧ RoadKit.Keep h h' [x] ∧ h'.size = h.size + 1 ∧ RoadKit.Exa Z h' x ST ∧ RoadKit.Fld Z h' x ST "value" "[B" (.ref h.size) ∧ RoadKit.Fld Z h' x ST "coder" "B" (.int 0) ∧
  (∃ kb, Z.vm.findClass "[B" = some kb ∧ RoadKit.Arv Z h' h.size kb .byte zn (cs.map fun c => .int (lo8 c)) (.int 0)) ∧
  ∀ (O n d : String) (w : Value), RoadKit.Fld Z h x O n d w → RoadKit.slotOf Z O n d ≠ RoadKit.slotOf Z ST "value" "[B" → RoadKit.slotOf Z O n d ≠ RoadKit.slotOf Z ST "coder" "B" → RoadKit.Fld Z h' x O n d w
/-- **new String(chars) AT A CALL, THE ARRAYS AS LISTS**: the char[] at b holds cs, not empty, no char above 255 -/
theorem backArv {p : Program} {l : Launch} {e : Env} {R : Room} {s : State} {args : Array Value} {below : List Frame} {len W : Nat} {Z : State} {a0 : Array Value} {h : Heap} (hZ : Z.Warmed39 s.vm) (hw : ∀ d ∈ words, d.before a0 Z = true) {kI : Nat} (wi : (Jvm.Cond.instantiable ST kI).before a0 Z = true)
    {x b : Addr} {k : ClassId} {zn z : Int32} {cs : List Int32} {dv v0 c0 : Value} (E : RoadKit.Exa Z h x ST) (V : RoadKit.Fld Z h x ST "value" "[B" v0) (C : RoadKit.Fld Z h x ST "coder" "B" c0) (K : RoadKit.Arv Z h b k .char zn (cs.map Value.int) dv) (S : RoadKit.Sta Z h ST "COMPACT_STRINGS" "Z" (.int z)) (hz : ¬ z = 0)
    (hlen : zn.toNatClampNeg = cs.length) (h0 : 0 < cs.length) (hbig : cs.length ≤ 536870912) (hall : ∀ c ∈ cs, ¬ 255 < c) (hfr : 4 ≤ R.frames) (hlo : W + 65 ≤ R.locals) :
    Back l R p e below s args New1.yN len W (fun P a => a = #[.ref x, .ref b] ∧ P.U.heap = h ∧ P.cells + 1 ≤ R.cells ∧ P.slots + cs.length ≤ R.slots)
      (fun P _ v B => ∃ L, QA Z x zn cs h v B.U.heap L ∧ B.locs = P.locs ++ L ∧ B.cells = P.cells + 1 ∧ B.slots = P.slots + cs.length) := by
  obtain ⟨A, K1, K2, K3, K4, K5, K6⟩ := K
  have e : A.slots.size = cs.length := K3.trans hlen
  have hat : ∀ (i : Nat) (hi : i < cs.length), A.slots[i]? = some (.int cs[i]) := fun i hi => by rw [K5 i (by omega)]; simp [List.getD_eq_getElem?_getD, hi]
  have hcv : ∀ (i : Nat) (hi : i < cs.length), cv A i = cs[i] := fun i hi => by unfold cv; rw [hat i hi]
  have hty : Typed .char A := fun i v hv => by
    have hi : i < A.slots.size := (Array.getElem?_eq_some_iff.mp hv).1
    have q := K5 i hi
    rw [hv] at q
    rw [Option.some.inj q]
    exact K6 i hi
  refine Back.mono (back hZ hw wi E V C K1 hty S hz (by omega) (by omega) (fun i hi => by rw [hcv i (by omega)]; exact hall _ (List.getElem_mem _)) hfr hlo) (fun P a hp => ⟨hp.1, hp.2.1, hp.2.2.1, by rw [e]; exact hp.2.2.2⟩) (fun P a v B hp hq => ?_)
  obtain ⟨L, ⟨q1, q2, q3, q4, q5, q6, q7, ⟨V', v1, v2, v3, v4, v5⟩, q9⟩, hl, hc, hs⟩ := hq
  refine ⟨L, ⟨q1, q2, q3, q4, q5, q6, q7, ⟨V'.cls, v3, V', v1, rfl, by rw [v4, e, hlen], K4, fun i hi => ?_, fun i hi => ?_⟩, q9⟩, hl, hc, by rw [hs, e]⟩
  · have hi' : i < cs.length := by omega
    rw [v5 i (by omega), hcv i hi']; simp [List.getD_eq_getElem?_getD, hi']
  · have hi' : i < cs.length := by omega
    simp only [List.getD_eq_getElem?_getD, List.getElem?_map, List.getElem?_eq_getElem hi', Option.map_some, Option.getD_some]
    exact fits_lo8 _
end StrChars.Road
namespace StrChars.Road
open Jvm Sem ClassFile Op Lib Jvm.Stand Jvm.Free Jvm.Free.XT
/-- WHAT COMES BACK, in the writer's own shape -/
def QV (Z : State) (x : Addr) (N : Int32) (bs : List Int32) (h : Heap) (n0 : Nat) (v : Option Value) (h' : Heap) (L : List Loc) : Prop := v = none ∧ RoadKit.Fr n0 L ∧ RoadKit.Keep h h' [x] ∧ RoadKit.Exa Z h' x ST ∧ RoadKit.Fld Z h' x ST "coder" "B" (.int 0) ∧
  ∃ (t : Addr) (kb : ClassId), n0 ≤ t ∧ h.size ≤ t ∧ ¬ t = x ∧ RoadKit.Fld Z h' x ST "value" "[B" (.ref t) ∧ RoadKit.Arv Z h' t kb .byte N (bs.map Value.int) (.int 0)
/-- **new String(chars) AT A CALL, FOR THE WRITER**: a char[] of n known ints, each 0 to 255 -/
theorem backV {p : Program} {l : Launch} {e : Env} {R : Room} {s : State} {args : Array Value} {below : List Frame} {len W : Nat} {Z : State} {a0 : Array Value} {h : Heap} (hZ : Z.Warmed39 s.vm) (hw : ∀ d ∈ words, d.before a0 Z = true) {kI : Nat} (wi : (Jvm.Cond.instantiable ST kI).before a0 Z = true)
    {x b : Addr} {kC : ClassId} {cs bs : List Int32} {d v0 c0 : Value} {z N : Int32} {n n0 : Nat} (hx0 : n0 ≤ x) (hh0 : n0 ≤ h.size) (E : RoadKit.Exa Z h x ST) (V : RoadKit.Fld Z h x ST "value" "[B" v0) (C : RoadKit.Fld Z h x ST "coder" "B" c0) (K : RoadKit.Arv Z h b kC .char N (cs.map Value.int) d) (S : RoadKit.Sta Z h ST "COMPACT_STRINGS" "Z" (.int z)) (hz : ¬ z = 0)
    (hn : cs.length = n) (hN : N = Int32.ofNat n) (l0 : 0 < n) (l2 : n ≤ 4000) (hp : ∀ c ∈ cs, ¬ c < 0 ∧ ¬ (255 : Int32) < c) (hb : bs = cs.map (fun c => c.toInt8.toInt32)) (hfr : 4 ≤ R.frames) (hlo : W + 65 ≤ R.locals) :
    Back l R p e below s args (⟨"java/lang/String", "<init>", "([C)V"⟩ : MethodName) len W (fun P a => a = #[.ref x, .ref b] ∧ P.U.heap = h ∧ P.cells + 1 ≤ R.cells ∧ P.slots + n ≤ R.slots)
      (fun P _ v B => ∃ L, QV Z x N bs h n0 v B.U.heap L ∧ B.locs = P.locs ++ L ∧ B.cells = P.cells + 1 ∧ B.slots = P.slots + n) := by
  subst hn hN hb
  refine Back.mono (backArv hZ hw wi E V C K S hz (n32 (by omega)) l0 (by omega) (fun c hc => (hp c hc).2) hfr hlo) (fun P a hp => hp) (fun P a v B hp hq => ?_)
  obtain ⟨L, ⟨q1, q2, q3, q4, q5, q6, q7, ⟨kb, v1, v2⟩, q9⟩, hl, hc, hs⟩ := hq
  exact ⟨L, ⟨q1, fun y hy => by rw [q2 y hy]; exact hx0, q3, q5, q7, h.size, kb, hh0, Nat.le_refl _, Nat.ne_of_gt E.lt, q6, by rw [List.map_map]; exact v2⟩, hl, hc, hs⟩
end StrChars.Road
namespace StrChars
open Jvm Sem ClassFile Op Lib Jvm.Stand Jvm.Free.XT Jvm.Free.ALB Jvm.Free.JM Jvm.Free
open Jvm.Lib.Cold (StaticIs)
def hi8 (x : Int32) : Int32 := lo8 (x >>> ((8 : Int32) &&& 31))
/-- what StringUTF16.getChar makes of two bytes -/
def pairCh (u v : Int32) : Int32 := (((u &&& 255) <<< ((0 : Int32) &&& 31)) ||| ((v &&& 255) <<< ((8 : Int32) &&& 31))).toUInt32.toUInt16.toUInt32.toInt32
theorem shr0 (c : Int32) : c >>> ((0 : Int32) &&& 31) = c := by
  have e : ((0 : Int32) &&& 31) = 0 := by decide
  rw [e]
  apply Int32.toBitVec_inj.mp
  rw [Int32.toBitVec_shiftRight]
  have e1 : ((0 : Int32).toBitVec.smod 32) = 0#32 := by decide
  rw [e1, BitVec.sshiftRight_eq']
  exact BitVec.sshiftRight_zero
theorem lo8_and (x : Int32) : (lo8 x &&& 255).toBitVec.toNat = x.toBitVec.toNat % 256 := by
  have h : (lo8 x).toBitVec = (x.toBitVec.signExtend 8).signExtend 32 := by rw [lo8, Int8.toBitVec_toInt32, Int32.toBitVec_toInt8]
  rw [Int32.toBitVec_and, BitVec.toNat_and, h]
  have e : ((x.toBitVec.signExtend 8).signExtend 32).toNat % 256 = x.toBitVec.toNat % 256 := by
    rw [BitVec.toNat_signExtend]
    have hlt := x.toBitVec.isLt
    simp only [BitVec.toNat_setWidth, BitVec.toNat_signExtend]
    split <;> split <;> omega
  rw [← e]
  exact Nat.and_two_pow_sub_one_eq_mod _ 8
theorem pair_says {c : Int32} (h0 : ¬ c < 0) (h1 : ¬ 65535 < c) : pairCh (lo8 c) (hi8 c) = c := by
  rw [Int32.lt_iff_toInt_lt] at h0 h1
  have e0 : (0 : Int32).toInt = 0 := rfl
  have e1 : (65535 : Int32).toInt = 65535 := rfl
  have hc : c.toInt = c.toBitVec.toNat := by
    have := c.toBitVec.isLt
    have e : c.toInt = c.toBitVec.toInt := rfl
    rw [e] at h0 h1
    rw [e]
    rw [BitVec.toInt_eq_toNat_cond] at h0 h1 ⊢
    split at h0 <;> split <;> omega
  have hn : c.toBitVec.toNat < 65536 := by omega
  have a1 := lo8_and c
  have a2 : (hi8 c &&& 255).toBitVec.toNat = c.toBitVec.toNat / 256 := by
    rw [hi8, lo8_and]
    have e : ((8 : Int32) &&& 31) = 8 := by decide
    rw [e, Int32.toBitVec_shiftRight]
    have e2 : ((8 : Int32).toBitVec.smod 32) = 8#32 := by decide
    rw [e2, BitVec.sshiftRight_eq', BitVec.toNat_sshiftRight_of_msb_false (by rw [BitVec.msb_eq_false_iff_two_mul_lt]; omega)]
    show c.toBitVec.toNat >>> 8 % 256 = _
    rw [Nat.shiftRight_eq_div_pow]
    omega
  unfold pairCh
  apply Int32.toBitVec_inj.mp
  apply BitVec.eq_of_toNat_eq
  have f0 : ((0 : Int32) &&& 31) = 0 := by decide
  have f8 : ((8 : Int32) &&& 31) = 8 := by decide
  rw [f0, f8]
  have g : (((lo8 c &&& 255) <<< (0 : Int32)) ||| ((hi8 c &&& 255) <<< (8 : Int32))).toBitVec.toNat = c.toBitVec.toNat := by
    rw [Int32.toBitVec_or, Int32.toBitVec_shiftLeft, Int32.toBitVec_shiftLeft]
    have s0 : ((0 : Int32).toBitVec.smod 32) = 0#32 := by decide
    have s8 : ((8 : Int32).toBitVec.smod 32) = 8#32 := by decide
    rw [s0, s8, BitVec.toNat_or]
    simp only [BitVec.shiftLeft_eq', BitVec.toNat_shiftLeft, a1, a2]
    show (c.toBitVec.toNat % 256) <<< 0 % 2 ^ 32 ||| (c.toBitVec.toNat / 256) <<< 8 % 2 ^ 32 = _
    rw [Nat.shiftLeft_zero, Nat.mod_eq_of_lt (show c.toBitVec.toNat % 256 < 2 ^ 32 by omega), Nat.mod_eq_of_lt (show (c.toBitVec.toNat / 256) <<< 8 < 2 ^ 32 by rw [Nat.shiftLeft_eq]; omega), Nat.or_comm, ← Nat.shiftLeft_add_eq_or_of_lt (by omega), Nat.shiftLeft_eq]
    omega
  show BitVec.toNat (((((lo8 c &&& 255) <<< (0 : Int32)) ||| ((hi8 c &&& 255) <<< (8 : Int32))).toBitVec.setWidth 16).setWidth 32) = _
  rw [BitVec.toNat_setWidth, BitVec.toNat_setWidth, g]
  omega
end StrChars
namespace StrChars
open Jvm Sem ClassFile Op Lib Jvm.Stand Jvm.Free.XT Jvm.Free.ALB Jvm.Free.JM Jvm.Free
open Jvm.Lib.Cold (StaticIs)
theorem shr1 {n : Nat} (h : 2 * n < 2 ^ 31) : Int32.ofNat (2 * n) >>> ((1 : Int32) &&& 31) = Int32.ofNat n := by
  have e : ((1 : Int32) &&& 31) = 1 := by decide
  rw [e]
  apply Int32.toBitVec_inj.mp
  rw [Int32.toBitVec_shiftRight]
  have e1 : ((1 : Int32).toBitVec.smod 32) = 1#32 := by decide
  have hm : (BitVec.ofNat 32 (2 * n)).toNat = 2 * n := by rw [BitVec.toNat_ofNat, Nat.mod_eq_of_lt (by omega)]
  rw [e1, BitVec.sshiftRight_eq']
  apply BitVec.eq_of_toNat_eq
  show ((BitVec.ofNat 32 (2 * n)).sshiftRight 1).toNat = (BitVec.ofNat 32 n).toNat
  rw [BitVec.toNat_sshiftRight_of_msb_false (by rw [BitVec.msb_eq_false_iff_two_mul_lt, hm]; omega), hm, BitVec.toNat_ofNat, Nat.shiftRight_eq_div_pow]
  omega
/-- charAt's cast of a byte read back -/
def chr8 (u : Int32) : Int32 := (u &&& 255).toUInt32.toUInt16.toUInt32.toInt32
theorem chr8_lo8 {c : Int32} (h0 : ¬ c < 0) (h1 : ¬ 255 < c) : chr8 (lo8 c) = c := by
  have t : ∀ k : Fin 256, (Int32.ofNat k.val).toUInt32.toUInt16.toUInt32.toInt32 = Int32.ofNat k.val := by decide +kernel
  unfold chr8
  rw [lo8_mask h0 h1]
  rw [Int32.lt_iff_toInt_lt] at h0 h1
  have e0 : (0 : Int32).toInt = 0 := rfl
  have e1 : (255 : Int32).toInt = 255 := rfl
  obtain ⟨k, hk⟩ : ∃ k : Nat, c.toInt = k := ⟨c.toInt.toNat, by omega⟩
  have hx : c = Int32.ofNat k := Int32.toInt_inj.mp (by rw [hk, Int32.toInt_ofNat_small (by omega)])
  rw [hx]
  exact t ⟨k, by omega⟩
theorem narrow_ch {c : Int32} (h0 : ¬ c < 0) (h1 : ¬ 65535 < c) : narrow .char (.int c) = .int c := by
  have q : narrow .char (.int (pairCh (lo8 c) (hi8 c))) = .int (pairCh (lo8 c) (hi8 c)) := narrow_c _
  rwa [pair_says h0 h1] at q
/-- the array's cell V codes the n chars f 0 .. f (n - 1) by the coder cd, as the JDK does: coder 1 just where some char is above 255 -/
def Cod (cd : Int32) (n : Nat) (f : Nat → Int32) (V : Cell) : Prop := (cd = 0 ∧ V.slots.size = n ∧ ∀ j, j < n → V.slots[j]? = some (.int (lo8 (f j))) ∧ ¬ 255 < f j) ∨ (cd = 1 ∧ V.slots.size = 2 * n ∧ (∀ j, j < n → V.slots[2 * j]? = some (.int (lo8 (f j))) ∧ V.slots[2 * j + 1]? = some (.int (hi8 (f j)))) ∧ ∃ j, j < n ∧ 255 < f j)
theorem Cod.cd {cd : Int32} {n : Nat} {f : Nat → Int32} {V : Cell} (h : Cod cd n f V) : cd = 0 ∨ cd = 1 := h.imp (fun q => q.1) fun q => q.1
theorem Cod.len {cd : Int32} {n : Nat} {f : Nat → Int32} {V : Cell} (h : Cod cd n f V) (hs : V.slots.size < 2 ^ 31) : Int32.ofNat V.slots.size >>> (cd &&& 31) = Int32.ofNat n := by
  rcases h with ⟨rfl, h, -⟩ | ⟨rfl, h, -⟩
  · rw [shr0, h]
  · rw [h, shr1 (by omega)]
/-- **x is a String of the n chars f 0 .. f (n - 1)**, Latin-1 or UTF-16; its array at t has the cell V -/
def Txt (x t : Addr) (V : Cell) (cd : Int32) (n : Nat) (f : Nat → Int32) (U : State) : Prop := Exact "java/lang/String" x U ∧ Has x "java/lang/String" "value" "[B" (.ref t) U ∧ Has x "java/lang/String" "coder" "B" (.int cd) U ∧ XT.Arr .byte t V U ∧ Cod cd n f V ∧ ∀ j, j < n → ¬ f j < 0 ∧ ¬ 65535 < f j
theorem Txt.mv {x t : Addr} {V : Cell} {cd : Int32} {n : Nat} {f : Nat → Int32} {U U' : State} (h : Txt x t V cd n f U) (hal : U.vm.Alike U'.vm) (hh : U'.heap = U.heap) : Txt x t V cd n f U' := ⟨h.1.mv hal hh, h.2.1.mv hal hh, h.2.2.1.mv hal hh, h.2.2.2.1.mv hal hh, h.2.2.2.2⟩
namespace Cdr
def yN : MethodName := ⟨"java/lang/String", "coder", "()B"⟩
abbrev yB : ByteArray := jdk_42_method_152_code
theorem d0 : decode yB 0 = .ok (.getstatic 38, 3) := by decide +kernel
theorem d3 : decode yB 3 = .ok (.ifCond (.eq) 10, 3) := by decide +kernel
theorem d6 : decode yB 6 = .ok (.aload_n 0, 1) := by decide +kernel
theorem d7 : decode yB 7 = .ok (.getfield 15, 3) := by decide +kernel
theorem d10 : decode yB 10 = .ok (.goto 4, 3) := by decide +kernel
theorem d14 : decode yB 14 = .ok (.ireturn, 1) := by decide +kernel
def site : List Cond := [.fieldLink "java/lang/String" 38 "java/lang/String" "COMPACT_STRINGS" "Z", .fieldLink "java/lang/String" 15 "java/lang/String" "coder" "B"]
def tab : Cond := tabOf yN yB 1 (some .byte) site
def P (x : Addr) (cd z : Int32) (args : Array Value) (s : State) : Prop := args = #[.ref x] ∧ Has x "java/lang/String" "coder" "B" (.int cd) s ∧ (cd = 0 ∨ cd = 1) ∧ StaticIs s "java/lang/String" "COMPACT_STRINGS" "Z" (.int z) ∧ ¬ z = 0
def E (cd : Int32) (r : Option Value) (s u : State) : Prop := XT.PureE (some (.int cd)) r s u
theorem law (l : Launch) (x : Addr) (cd z : Int32) : Law l yN 1 0 0 0 yB 1 (some .byte) site (P x cd z) (E cd) [] 0 0 := by
  refine Law.of_walk (plainFor_of_name (by decide +kernel)) (by decide +kernel) (by decide +kernel) (by decide) (fun _ _ h => by rw [h.1]; rfl) (fun _ U U' hal hh h => ⟨h.1, h.2.1.mv hal hh, h.2.2.1, h.2.2.2.1.there hal hh, h.2.2.2.2⟩) (fun r U U' V V' h1 hal h2 h => XT.PureE.mv r U U' V V' h1 hal h2 h) ?_
  intro p e s m args below meth c s₁ X0 hexec hbytes hml hret hlk hnm hown hh0 W hP
  obtain ⟨rfl, hx, hc, s1, hz⟩ := hP
  have c1 : Steps p.tables e below (s₁.setTop (entryFrame m #[.ref x] 1)) (s₁.setTop (mkF m 0 #[.val (.ref x)] [])) := entry rfl
  obtain ⟨T2, X2, q2, st2⟩ := X0.sget hexec hown (wk W (.fieldLink "java/lang/String" 38 "java/lang/String" "COMPACT_STRINGS" "Z")) s1 (fun _ _ h => by rw [hh0]; exact h) (g := (mkF m 0 #[.val (.ref x)] [])) rfl (hb hbytes d0)
  have hh2 := q2.trans hh0
  have c3 : Steps p.tables e below (s₁.setTop (entryFrame m #[.ref x] 1)) (T2.setTop (mkF m 7 #[.val (.ref x)] [.ref x])) := (c1.trans (st2 _ (Steps.refl _))).trans (by
    refine XS.ifNo X2.here hexec rfl (hb hbytes d3) rfl (i0_eq_f hz) ?_
    refine XS.aloadN X2.here hexec rfl (hb hbytes d6) rfl rfl ?_
    exact Steps.refl _)
  obtain ⟨T4, X4, q4, st4⟩ := X2.hget hexec hown (wk W (.fieldLink "java/lang/String" 15 "java/lang/String" "coder" "B")) (hx.mv X2.warmed.alike hh2) (g := (mkF m 7 #[.val (.ref x)] [.ref x])) rfl (rest := []) rfl (hb hbytes d7)
  have c5 : Steps p.tables e below (s₁.setTop (entryFrame m #[.ref x] 1)) (T4.setTop (mkF m 14 #[.val (.ref x)] [.int cd])) := (c3.trans (st4 _ (Steps.refl _))).trans (by
    refine XS.goto X4.here hexec rfl (pc0 := 10) rfl (hb hbytes d10) (by decide) rfl ?_
    exact Steps.refl _)
  exact ⟨T4, some (.int cd), _, _, _, X4, rfl, rfl, rfl, (fun h => by cases h), ⟨rfl, q4.trans hh2⟩, fun fs hl => c5.trans (X4.ireturnOut hexec hret (by rcases hc with rfl | rfl <;> rfl) (Or.inr (Or.inr (Or.inl rfl))) (hb hbytes d14) hl)⟩
end Cdr
namespace Len
def yN : MethodName := ⟨"java/lang/String", "length", "()I"⟩
abbrev yB : ByteArray := jdk_42_method_54_code
theorem d0 : decode yB 0 = .ok (.aload_n 0, 1) := by decide +kernel
theorem d1 : decode yB 1 = .ok (.getfield 9, 3) := by decide +kernel
theorem d4 : decode yB 4 = .ok (.arraylength, 1) := by decide +kernel
theorem d5 : decode yB 5 = .ok (.aload_n 0, 1) := by decide +kernel
theorem d6 : decode yB 6 = .ok (.invokevirtual 335, 3) := by decide +kernel
theorem d9 : decode yB 9 = .ok (.ishr, 1) := by decide +kernel
theorem d10 : decode yB 10 = .ok (.ireturn, 1) := by decide +kernel
def site : List Cond := [.fieldLink "java/lang/String" 9 "java/lang/String" "value" "[B", Cdr.tab] ++ virtW "java/lang/String" 335 "java/lang/String" Cdr.yN Cdr.yN
def tab : Cond := tabOf yN yB 1 (some .int) site
def P (x t : Addr) (V : Cell) (cd : Int32) (n : Nat) (f : Nat → Int32) (z : Int32) (args : Array Value) (s : State) : Prop := args = #[.ref x] ∧ Txt x t V cd n f s ∧ StaticIs s "java/lang/String" "COMPACT_STRINGS" "Z" (.int z) ∧ ¬ z = 0
def E (n : Nat) (r : Option Value) (s u : State) : Prop := XT.PureE (some (.int (Int32.ofNat n))) r s u
/-- length() of a String of n chars, in either coding -/
theorem law (l : Launch) (x t : Addr) (V : Cell) (cd : Int32) (n : Nat) (f : Nat → Int32) (z : Int32) : Law l yN 1 0 1 13 yB 1 (some .int) site (P x t V cd n f z) (E n) [] 0 0 := by
  refine Law.of_walk (plainFor_of_name (by decide +kernel)) (by decide +kernel) (by decide +kernel) (by decide) (fun _ _ h => by rw [h.1]; rfl) (fun _ U U' hal hh h => ⟨h.1, h.2.1.mv hal hh, h.2.2.1.there hal hh, h.2.2.2⟩) (fun r U U' V V' h1 hal h2 h => XT.PureE.mv r U U' V V' h1 hal h2 h) ?_
  intro p e s m args below meth c s₁ X0 hexec hbytes hml hret hlk hnm hown hh0 W hP
  obtain ⟨rfl, hx, s1, hz⟩ := hP
  have v31 := hx.2.2.2.1.2.2.2
  have c1 : Steps p.tables e below (s₁.setTop (entryFrame m #[.ref x] 1)) (s₁.setTop (mkF m 1 #[.val (.ref x)] [.ref x])) := Steps.trans (entry rfl) (by
    show Steps p.tables e below (s₁.setTop (mkF m 0 #[.val (.ref x)] [])) _
    refine XS.aloadN X0.here hexec rfl (hb hbytes d0) rfl rfl ?_
    exact Steps.refl _)
  obtain ⟨T2, X2, q2, st2⟩ := X0.hget hexec hown (wk W (.fieldLink "java/lang/String" 9 "java/lang/String" "value" "[B")) (hx.mv X0.warmed.alike hh0).2.1 (g := (mkF m 1 #[.val (.ref x)] [.ref x])) rfl (rest := []) rfl (hb hbytes d1)
  have hh2 := q2.trans hh0
  have hx2 := hx.mv X2.warmed.alike hh2
  have c3 : Steps p.tables e below (s₁.setTop (entryFrame m #[.ref x] 1)) (T2.setTop (mkF m 6 #[.val (.ref x)] [.ref x, .int (Int32.ofNat V.slots.size)])) := (c1.trans (st2 _ (Steps.refl _))).trans (by
    refine X2.alen hexec hx2.2.2.2.1 rfl rfl (hb hbytes d4) ?_
    refine XS.aloadN X2.here hexec rfl (hb hbytes d5) rfl rfl ?_
    exact Steps.refl _)
  obtain ⟨v4, T4, X4, E4, g4⟩ := X2.callV hexec (Cdr.law l x cd z) hown (wks W (virtW "java/lang/String" 335 "java/lang/String" Cdr.yN Cdr.yN)) rfl (by decide) (wk W Cdr.tab) (W := 1) (Nat.le_of_ble_eq_true rfl) (Nat.le_of_ble_eq_true rfl) (Nat.le_refl _) (Nat.le_refl _) (hx2.1.fc X2.warmed.alike) hx2.1.is (g := (mkF m 6 #[.val (.ref x)] [.ref x, .int (Int32.ofNat V.slots.size)])) rfl (by rw [hml]; rfl) c3 (argsL := []) (rest := [.int (Int32.ofNat V.slots.size)]) rfl rfl (by show 2 * 0 + (1 + 0) ≤ _; decide) (hb hbytes d6) (⟨rfl, hx2.2.2.1, hx.2.2.2.2.1.cd, s1.there X2.warmed.alike hh2, hz⟩)
  obtain ⟨rfl, q4⟩ := E4
  have c5 : Steps p.tables e below (s₁.setTop (entryFrame m #[.ref x] 1)) (T4.setTop (mkF m 10 #[.val (.ref x)] [.int (Int32.ofNat V.slots.size >>> (cd &&& 31))])) := Steps.trans g4 (by
    refine ishr X4.here hexec rfl (hb hbytes d9) rfl ?_
    exact Steps.refl _)
  rw [hx.2.2.2.2.1.len v31] at c5
  exact ⟨T4, some (.int (Int32.ofNat n)), _, _, _, X4, rfl, rfl, rfl, (fun h => by cases h), ⟨rfl, q4.trans hh2⟩, fun fs hl => c5.trans (X4.ireturnOut hexec hret rfl (Or.inl rfl) (hb hbytes d10) hl)⟩
theorem pays {l : Launch} {R : Room} {p : Program} {e : Env} {below : List Frame} {s : State} {sargs : Array Value} {len W : Nat} (x t : Addr) (V : Cell) (cd : Int32) (n : Nat) (f : Nat → Int32) (z : Int32) (htab : tab.before sargs s = true) (hfr : 2 ≤ R.frames) (hlo : W + 25 ≤ R.locals) :
    Back l R p e below s sargs yN len W (fun A₁ a₁ => A₁.cells + 0 ≤ R.cells ∧ A₁.slots + 0 ≤ R.slots ∧ P x t V cd n f z a₁ A₁.U) (fun A₁ _ v₁ B₁ => E n v₁ A₁.U B₁.U ∧ B₁.locs = A₁.locs ++ [] ∧ B₁.cells = A₁.cells + 0 ∧ B₁.slots = A₁.slots + 0) :=
  (law l x t V cd n f z).pays htab hfr (by omega)
end Len
namespace IsL
def yN : MethodName := ⟨"java/lang/String", "isLatin1", "()Z"⟩
abbrev yB : ByteArray := jdk_42_method_154_code
theorem d0 : decode yB 0 = .ok (.getstatic 38, 3) := by decide +kernel
theorem d3 : decode yB 3 = .ok (.ifCond (.eq) 14, 3) := by decide +kernel
theorem d6 : decode yB 6 = .ok (.aload_n 0, 1) := by decide +kernel
theorem d7 : decode yB 7 = .ok (.getfield 15, 3) := by decide +kernel
theorem d10 : decode yB 10 = .ok (.ifCond (.ne) 7, 3) := by decide +kernel
theorem d13 : decode yB 13 = .ok (.iconst 1, 1) := by decide +kernel
theorem d14 : decode yB 14 = .ok (.goto 4, 3) := by decide +kernel
theorem d17 : decode yB 17 = .ok (.iconst 0, 1) := by decide +kernel
theorem d18 : decode yB 18 = .ok (.ireturn, 1) := by decide +kernel
def site : List Cond := [.fieldLink "java/lang/String" 38 "java/lang/String" "COMPACT_STRINGS" "Z", .fieldLink "java/lang/String" 15 "java/lang/String" "coder" "B"]
def tab : Cond := tabOf yN yB 1 (some .boolean) site
def P (x : Addr) (cd z : Int32) (args : Array Value) (s : State) : Prop := args = #[.ref x] ∧ Has x "java/lang/String" "coder" "B" (.int cd) s ∧ (cd = 0 ∨ cd = 1) ∧ StaticIs s "java/lang/String" "COMPACT_STRINGS" "Z" (.int z) ∧ ¬ z = 0
def E (cd : Int32) (r : Option Value) (s u : State) : Prop := XT.PureE (some (.int (1 - cd))) r s u
theorem law (l : Launch) (x : Addr) (cd z : Int32) : Law l yN 1 0 0 0 yB 1 (some .boolean) site (P x cd z) (E cd) [] 0 0 := by
  refine Law.of_walk (plainFor_of_name (by decide +kernel)) (by decide +kernel) (by decide +kernel) (by decide) (fun _ _ h => by rw [h.1]; rfl) (fun _ U U' hal hh h => ⟨h.1, h.2.1.mv hal hh, h.2.2.1, h.2.2.2.1.there hal hh, h.2.2.2.2⟩) (fun r U U' V V' h1 hal h2 h => XT.PureE.mv r U U' V V' h1 hal h2 h) ?_
  intro p e s m args below meth c s₁ X0 hexec hbytes hml hret hlk hnm hown hh0 W hP
  obtain ⟨rfl, hx, hc, s1, hz⟩ := hP
  have c1 : Steps p.tables e below (s₁.setTop (entryFrame m #[.ref x] 1)) (s₁.setTop (mkF m 0 #[.val (.ref x)] [])) := entry rfl
  obtain ⟨T2, X2, q2, st2⟩ := X0.sget hexec hown (wk W (.fieldLink "java/lang/String" 38 "java/lang/String" "COMPACT_STRINGS" "Z")) s1 (fun _ _ h => by rw [hh0]; exact h) (g := (mkF m 0 #[.val (.ref x)] [])) rfl (hb hbytes d0)
  have hh2 := q2.trans hh0
  have c3 : Steps p.tables e below (s₁.setTop (entryFrame m #[.ref x] 1)) (T2.setTop (mkF m 7 #[.val (.ref x)] [.ref x])) := (c1.trans (st2 _ (Steps.refl _))).trans (by
    refine XS.ifNo X2.here hexec rfl (hb hbytes d3) rfl (i0_eq_f hz) ?_
    refine XS.aloadN X2.here hexec rfl (hb hbytes d6) rfl rfl ?_
    exact Steps.refl _)
  obtain ⟨T4, X4, q4, st4⟩ := X2.hget hexec hown (wk W (.fieldLink "java/lang/String" 15 "java/lang/String" "coder" "B")) (hx.mv X2.warmed.alike hh2) (g := (mkF m 7 #[.val (.ref x)] [.ref x])) rfl (rest := []) rfl (hb hbytes d7)
  have c5 : Steps p.tables e below (s₁.setTop (entryFrame m #[.ref x] 1)) (T4.setTop (mkF m 10 #[.val (.ref x)] [.int cd])) := c3.trans (st4 _ (Steps.refl _))
  have c6 : Steps p.tables e below (s₁.setTop (entryFrame m #[.ref x] 1)) (T4.setTop (mkF m 18 #[.val (.ref x)] [.int (1 - cd)])) := by
    rcases hc with rfl | rfl
    · exact c5.trans (by
        refine XS.ifNo X4.here hexec rfl (hb hbytes d10) rfl (i0_ne_f rfl) ?_
        refine iconstV X4.here hexec rfl 1 (hb hbytes d13) (by decide) ?_
        refine XS.goto X4.here hexec rfl (pc0 := 14) rfl (hb hbytes d14) (by decide) rfl ?_
        exact Steps.refl _)
    · exact c5.trans (by
        refine XS.ifYes X4.here hexec rfl (pc0 := 10) rfl (hb hbytes d10) rfl (i0_ne_t (by decide)) (by decide) rfl ?_
        refine iconstV X4.here hexec rfl 0 (hb hbytes d17) (by decide) ?_
        exact Steps.refl _)
  exact ⟨T4, some (.int (1 - cd)), _, _, _, X4, rfl, rfl, rfl, (fun h => by cases h), ⟨rfl, q4.trans hh2⟩, fun fs hl => c6.trans (X4.ireturnOut hexec hret (by rcases hc with rfl | rfl <;> rfl) (Or.inr (Or.inl rfl)) (hb hbytes d18) hl)⟩
end IsL
namespace LChA
def yN : MethodName := ⟨"java/lang/StringLatin1", "charAt", "([BI)C"⟩
abbrev yB : ByteArray := jdk_43_method_2_code
theorem d0 : decode yB 0 = .ok (.iload_n 1, 1) := by decide +kernel
theorem d1 : decode yB 1 = .ok (.aload_n 0, 1) := by decide +kernel
theorem d2 : decode yB 2 = .ok (.arraylength, 1) := by decide +kernel
theorem d3 : decode yB 3 = .ok (.invokestatic 9, 3) := by decide +kernel
theorem d6 : decode yB 6 = .ok (.aload_n 0, 1) := by decide +kernel
theorem d7 : decode yB 7 = .ok (.iload_n 1, 1) := by decide +kernel
theorem d8 : decode yB 8 = .ok (.baload, 1) := by decide +kernel
theorem d9 : decode yB 9 = .ok (.sipush 255, 3) := by decide +kernel
theorem d12 : decode yB 12 = .ok (.iand, 1) := by decide +kernel
theorem d13 : decode yB 13 = .ok (.i2c, 1) := by decide +kernel
theorem d14 : decode yB 14 = .ok (.ireturn, 1) := by decide +kernel
def site : List Cond := [JO.Str_checkIndex.tab] ++ staticW "java/lang/StringLatin1" 9 JO.Str_checkIndex.yN
def tab : Cond := tabOf yN yB 2 (some .char) site
def P (t : Addr) (V : Cell) (i : Nat) (u : Int32) (fm : Value) (args : Array Value) (s : State) : Prop := args = #[.ref t, .int (Int32.ofNat i)] ∧ XT.Arr .byte t V s ∧ V.slots[i]? = some (.int u) ∧ (StaticIs s "jdk/internal/util/Preconditions" "SIOOBE_FORMATTER" "Ljava/util/function/BiFunction;" fm ∧ fm.isRef = true)
def E (u : Int32) (r : Option Value) (s w : State) : Prop := XT.PureE (some (.int (chr8 u))) r s w
theorem law (l : Launch) (t : Addr) (V : Cell) (i : Nat) (u : Int32) (fm : Value) : Law l yN 2 2 2 27 yB 2 (some .char) site (P t V i u fm) (E u) [] 0 0 := by
  refine Law.of_walk (plainFor_of_name (by decide +kernel)) (by decide +kernel) (by decide +kernel) (by decide) (fun _ _ h => by rw [h.1]; rfl) (fun _ U U' hal hh h => ⟨h.1, h.2.1.mv hal hh, h.2.2.1, h.2.2.2.1.there hal hh, h.2.2.2.2⟩) (fun r U U' V V' h1 hal h2 h => XT.PureE.mv r U U' V V' h1 hal h2 h) ?_
  intro p e s m args below meth c s₁ X0 hexec hbytes hml hret hlk hnm hown hh0 W hP
  obtain ⟨rfl, hV, hu, s1, rf⟩ := hP
  have v31 := hV.2.2.2
  have hi : i < V.slots.size := (Array.getElem?_eq_some_iff.mp hu).1
  have c1 : Steps p.tables e below (s₁.setTop (entryFrame m #[.ref t, .int (Int32.ofNat i)] 2)) (s₁.setTop (mkF m 0 #[.val (.ref t), .val (.int (Int32.ofNat i))] [])) := entry rfl
  have c2 : Steps p.tables e below (s₁.setTop (entryFrame m #[.ref t, .int (Int32.ofNat i)] 2)) (s₁.setTop (mkF m 3 #[.val (.ref t), .val (.int (Int32.ofNat i))] [.int (Int32.ofNat V.slots.size), .int (Int32.ofNat i)])) := c1.trans (by
    refine XS.iloadN X0.here hexec rfl (hb hbytes d0) rfl ?_
    refine XS.aloadN X0.here hexec rfl (hb hbytes d1) rfl rfl ?_
    refine X0.alen hexec (hV.mv X0.warmed.alike hh0) rfl rfl (hb hbytes d2) ?_
    exact Steps.refl _)
  obtain ⟨v3, T3, X3, E3, g3⟩ := X0.callS hexec (JO.Str_checkIndex.law l (Int32.ofNat i) (Int32.ofNat V.slots.size) fm) hown (wks W (staticW "java/lang/StringLatin1" 9 JO.Str_checkIndex.yN)) (wk W JO.Str_checkIndex.tab) (W := 0) (Nat.le_of_ble_eq_true rfl) (Nat.le_of_ble_eq_true rfl) (Nat.le_refl _) (Nat.le_refl _) (g := (mkF m 3 #[.val (.ref t), .val (.int (Int32.ofNat i))] [.int (Int32.ofNat V.slots.size), .int (Int32.ofNat i)])) rfl (by rw [hml]; rfl) c2 (argsL := [.int (Int32.ofNat i), .int (Int32.ofNat V.slots.size)]) (rest := []) rfl rfl (by show 2 * 0 + 0 ≤ _; decide) (hb hbytes d3) (⟨rfl, rf, s1.there X0.warmed.alike hh0, Int32.ofNat_not_neg (by omega), lt32 v31 hi⟩)
  obtain ⟨rfl, q3⟩ := E3
  have hh3 := q3.trans hh0
  have c4 : Steps p.tables e below (s₁.setTop (entryFrame m #[.ref t, .int (Int32.ofNat i)] 2)) (T3.setTop (mkF m 14 #[.val (.ref t), .val (.int (Int32.ofNat i))] [.int (chr8 u)])) := Steps.trans g3 (by
    refine XS.aloadN X3.here hexec rfl (hb hbytes d6) rfl rfl ?_
    refine XS.iloadN X3.here hexec rfl (hb hbytes d7) rfl ?_
    refine X3.aget hexec (hV.mv X3.warmed.alike hh3) rfl hu rfl rfl (hb hbytes d8) ?_
    refine sipushV X3.here hexec rfl 255 (hb hbytes d9) (by decide) ?_
    refine XS.iand X3.here hexec rfl (hb hbytes d12) rfl ?_
    refine i2c X3.here hexec rfl (hb hbytes d13) rfl ?_
    exact Steps.refl _)
  exact ⟨T3, some (.int (chr8 u)), _, _, _, X3, rfl, rfl, rfl, (fun h => by cases h), ⟨rfl, hh3⟩, fun fs hl => c4.trans (X3.ireturnOut hexec hret (narrow_c _) (Or.inr (Or.inr (Or.inr (Or.inl rfl)))) (hb hbytes d14) hl)⟩
end LChA
end StrChars
namespace StrChars.Road
open Jvm Sem ClassFile Op Lib Jvm.Stand Jvm.Free Jvm.Free.XT
open Jvm.Lib.Cold (StaticIs)
theorem consq {a : Array Value} {s : State} {c : Jvm.Cond} {L : List Jvm.Cond} (h0 : c.before a s = true) (h : ∀ w ∈ L, w.before a s = true) : ∀ w ∈ c :: L, w.before a s = true := fun w hw => (List.mem_cons.mp hw).elim (fun e => e ▸ h0) (h w)
/-- the words of String.length(), either coding -/
abbrev wordsLen : List Jvm.Cond := [.code Len.yN Len.yB 1 (some .int), .initialized ST, .fieldLink ST 9 ST "value" "[B", .fieldLink ST 38 ST "COMPACT_STRINGS" "Z", .fieldLink ST 15 ST "coder" "B", .code Cdr.yN Cdr.yB 1 (some .byte), .methodLink ST 335 Cdr.yN, .declares Cdr.yN, .selects ST Cdr.yN Cdr.yN, .instanceMethod Cdr.yN]
theorem tabLen_of {a : Array Value} {s : State} (h : ∀ w ∈ wordsLen, w.before a s = true) : Len.tab.before a s = true := by
  have hc : Cdr.tab.before a s = true := unparts (wk h (.code Cdr.yN Cdr.yB 1 (some .byte))) (wks h (.initialized Cdr.yN.cls :: Cdr.site))
  have q := consq hc h
  exact unparts (wk q (.code Len.yN Len.yB 1 (some .int))) (wks q (.initialized Len.yN.cls :: Len.site))
theorem movedLen {Z s : State} {a0 args : Array Value} (hZ : Z.Warmed39 s.vm) (hw : ∀ d ∈ wordsLen, d.before a0 Z = true) : ∀ d ∈ wordsLen, d.before args s = true := fun d hd => by
  have q := hw d hd
  have t : ∀ d ∈ wordsLen, d = .arrayClass .byte ∨ (d.onTables && d.keepsFace) = true := by decide +kernel
  rcases t d hd with rfl | t
  · exact RoadKit.mvA hZ q
  · exact RoadKit.mv hZ q t
/-- the bytes of the chars cs, low before high -/
def wideBytes : List Int32 → List Value
  | [] => []
  | c :: cs => .int (lo8 c) :: .int (hi8 c) :: wideBytes cs
theorem wide_lo (d : Value) : ∀ (cs : List Int32) (j : Nat), j < cs.length → (wideBytes cs).getD (2 * j) d = .int (lo8 (cs.getD j 0))
  | [], j, h => absurd h (Nat.not_lt_zero j)
  | c :: cs, 0, _ => rfl
  | c :: cs, j + 1, h => by
    have q := wide_lo d cs j (by simpa using h)
    rw [show 2 * (j + 1) = 2 * j + 1 + 1 from by omega]
    simpa [wideBytes] using q
theorem wide_hi (d : Value) : ∀ (cs : List Int32) (j : Nat), j < cs.length → (wideBytes cs).getD (2 * j + 1) d = .int (hi8 (cs.getD j 0))
  | [], j, h => absurd h (Nat.not_lt_zero j)
  | c :: cs, 0, _ => rfl
  | c :: cs, j + 1, h => by
    have q := wide_hi d cs j (by simpa using h)
    rw [show 2 * (j + 1) + 1 = 2 * j + 1 + 1 + 1 from by omega]
    simpa [wideBytes] using q
theorem low_at (d : Value) (cs : List Int32) (j : Nat) (h : j < cs.length) : (cs.map fun c => Value.int (lo8 c)).getD j d = .int (lo8 (cs.getD j 0)) := by
  simp [List.getD_eq_getElem?_getD, h]
/-- an array of N2 bytes vs codes the chars cs by the coder cd -/
def CodA (cs : List Int32) (cd N2 : Int32) (vs : List Value) : Prop := (cd = 0 ∧ N2 = Int32.ofNat cs.length ∧ vs = (cs.map fun c => Value.int (lo8 c)) ∧ ∀ c ∈ cs, ¬ 255 < c) ∨ (cd = 1 ∧ N2 = Int32.ofNat (2 * cs.length) ∧ vs = wideBytes cs ∧ ∃ c ∈ cs, 255 < c)
theorem CodA.cod {cs : List Int32} {cd N2 : Int32} {vs : List Value} {V : Cell} (h : CodA cs cd N2 vs) (hn : 2 * cs.length < 2 ^ 31) (hs : V.slots.size = N2.toNatClampNeg) (hv : RoadKit.Has V vs (.int 0)) : Cod cd cs.length (fun j => cs.getD j 0) V := by
  rcases h with ⟨rfl, rfl, rfl, h⟩ | ⟨rfl, rfl, rfl, c, hc, hw⟩
  · rw [n32 (by omega)] at hs
    exact Or.inl ⟨rfl, hs, fun j hj => ⟨by rw [hv j (by omega), low_at _ _ _ hj], by
      have e : cs.getD j 0 = cs[j] := by simp [List.getD_eq_getElem?_getD, hj]
      show ¬ 255 < cs.getD j 0
      rw [e]; exact h _ (List.getElem_mem _)⟩⟩
  · rw [n32 (by omega)] at hs
    obtain ⟨j, hj, rfl⟩ := List.getElem_of_mem hc
    exact Or.inr ⟨rfl, hs, fun j hj => ⟨by rw [hv _ (by omega), wide_lo _ _ _ hj], by rw [hv _ (by omega), wide_hi _ _ _ hj]⟩, j, hj, by
      have e : cs.getD j 0 = cs[j] := by simp [List.getD_eq_getElem?_getD, hj]
      show 255 < cs.getD j 0
      rw [e]; exact hw⟩
/-- an object of exactly java/lang/String, its two fields found: as the laws ask it -/
theorem strObj {Z U : State} {a0 : Array Value} {kI : Nat} (wi : (Jvm.Cond.instantiable ST kI).before a0 Z = true) (al : Z.vm.Alike U.vm) {x : Addr} {v0 c0 : Value} (E : RoadKit.Exa Z U.heap x ST) (V : RoadKit.Fld Z U.heap x ST "value" "[B" v0) (C : RoadKit.Fld Z U.heap x ST "coder" "B" c0) :
    ∃ (D : Cell) (fV fC : Field), Blank ST x D U ∧ Found ST "value" "[B" fV U ∧ Found ST "coder" "B" fC U ∧ D.slots[fV.slot]? = some v0 ∧ D.slots[fC.slot]? = some c0 ∧ RoadKit.slotOf Z ST "value" "[B" = fV.slot ∧ RoadKit.slotOf Z ST "coder" "B" = fC.slot := by
  obtain ⟨D, cfV, kV, iV, fV, hD, gV, stV, knV, obV, asV, slV⟩ := V
  obtain ⟨D', cfC, kC, iC, fC, hD', gC, stC, -, -, asC, slC⟩ := C
  cases hD.symm.trans hD'
  obtain ⟨D2, kD, e1, e2, e3, e4, e5⟩ := E
  cases hD.symm.trans e1
  obtain ⟨c2, k2, i1, i2, i3, -⟩ := Cond.instantiable_spec wi
  cases e2.symm.trans i1
  cases e3.symm.trans i2
  obtain ⟨kU, u1, u2⟩ := al.2.2 _ _ e3
  exact ⟨D, fV, fC, ⟨hD, ⟨knV, fun q hq => by rw [hq] at obV; cases obV⟩, by rw [al.findClass]; exact e2, kU, u1, by rw [u2]; exact i3, by rw [u2]; exact e5 i3⟩, ⟨SBG.found_only al ⟨cfV, kV, iV, gV⟩, stV⟩, ⟨SBG.found_only al ⟨cfC, kC, iC, gC⟩, stC⟩, slV, slC, by simp [RoadKit.slotOf, gV], by simp [RoadKit.slotOf, gC]⟩
theorem sta_is {Z U : State} (al : Z.vm.Alike U.vm) {C n d : String} {v : Value} (S : RoadKit.Sta Z U.heap C n d v) : StaticIs U C n d v := by
  obtain ⟨cfS, iS, kS, fS, st, cS, t1, t2, t3, t4, t5, t6, t7⟩ := S
  exact StaticIs.there (s := { Z with heap := U.heap }) ⟨cfS, iS, kS, fS, st, cS, t1, t2, t3, t4, t5, (fun q => by rw [q] at t6; cases t6), t7⟩ al rfl
/-- **length() OF SUCH A STRING** -/
theorem lenW {p : Program} {l : Launch} {e : Env} {R : Room} {s : State} {args : Array Value} {below : List Frame} {len W : Nat} {Z : State} {a0 : Array Value} {h : Heap} (hZ : Z.Warmed39 s.vm) (hw : ∀ d ∈ wordsLen, d.before a0 Z = true) {kI : Nat} (wi : (Jvm.Cond.instantiable ST kI).before a0 Z = true)
    {x t : Addr} {kb : ClassId} {cs : List Int32} {cd N2 z : Int32} {vs : List Value} (E : RoadKit.Exa Z h x ST) (V : RoadKit.Fld Z h x ST "value" "[B" (.ref t)) (C : RoadKit.Fld Z h x ST "coder" "B" (.int cd)) (K : RoadKit.Arv Z h t kb .byte N2 vs (.int 0)) (hc : CodA cs cd N2 vs) (hb : ∀ c ∈ cs, ¬ c < 0 ∧ ¬ (65535 : Int32) < c)
    (S : RoadKit.Sta Z h ST "COMPACT_STRINGS" "Z" (.int z)) (hz : ¬ z = 0) (l2 : cs.length ≤ 4000) (hfr : 2 ≤ R.frames) (hlo : W + 25 ≤ R.locals) :
    Back l R p e below s args (⟨"java/lang/String", "length", "()I"⟩ : MethodName) len W (fun P a => a = #[.ref x] ∧ P.U.heap = h ∧ P.cells + 0 ≤ R.cells ∧ P.slots + 0 ≤ R.slots)
      (fun P _ v B => ∃ L, (v = some (.int (Int32.ofNat cs.length)) ∧ L = [] ∧ B.U.heap = h) ∧ B.locs = P.locs ++ L ∧ B.cells = P.cells + 0 ∧ B.slots = P.slots + 0) := by
  obtain ⟨A, K1, K2, K3, K4, K5, K6⟩ := K
  have hcod := hc.cod (by omega) K3 K5
  intro m meth c P g ig mk a X hg hsize hdg hW hn hp'
  obtain ⟨rfl, rfl, r1, r2⟩ := hp'
  have al : Z.vm.Alike P.U.vm := hZ.alike.trans X.warmed.alike
  obtain ⟨D, fV, fC, hB, F1, F2, g1, g2, -, -⟩ := strObj wi al E V C
  have hx : Txt x t A cd cs.length (fun j => cs.getD j 0) P.U := ⟨⟨_, hB.2.2.1, D, hB.1, rfl, by cases q : D.vm <;> first | rfl | exact absurd q (hB.2.1.2 _)⟩, Has.of hB F1 g1, Has.of hB F2 g2, ⟨K1.1, State.isArrayOf_alike al K1.2.1, K1.2.2, by rcases hcod with ⟨-, q, -⟩ | ⟨-, q, -⟩ <;> omega⟩, hcod, fun j hj => by
    have e : cs.getD j 0 = cs[j] := by simp [List.getD_eq_getElem?_getD, hj]
    show ¬ cs.getD j 0 < 0 ∧ ¬ 65535 < cs.getD j 0
    rw [e]; exact hb _ (List.getElem_mem _)⟩
  obtain ⟨v, B, X', ⟨⟨hv, hh⟩, hl, hk, hs⟩, st⟩ := Len.pays x t A cd cs.length (fun j => cs.getD j 0) z (tabLen_of (movedLen hZ hw)) hfr hlo m meth c P g ig mk _ X hg hsize hdg hW hn ⟨r1, r2, rfl, hx, sta_is al S, hz⟩
  exact ⟨v, B, X', ⟨[], ⟨hv, rfl, hh⟩, hl, hk, hs⟩, st⟩
end StrChars.Road
namespace StrChars.Road
open Jvm Sem ClassFile Op Lib Jvm.Stand Jvm.Free Jvm.Free.XT
open Jvm.Lib.Cold (StaticIs)
/-- the road's facts of a String, as the laws ask it -/
theorem txt_of {Z U : State} {a0 : Array Value} {kI : Nat} (wi : (Jvm.Cond.instantiable ST kI).before a0 Z = true) (al : Z.vm.Alike U.vm) {x t : Addr} {kb : ClassId} {cs : List Int32} {cd N2 : Int32} {vs : List Value} (E : RoadKit.Exa Z U.heap x ST) (V : RoadKit.Fld Z U.heap x ST "value" "[B" (.ref t)) (C : RoadKit.Fld Z U.heap x ST "coder" "B" (.int cd)) (K : RoadKit.Arv Z U.heap t kb .byte N2 vs (.int 0)) (hc : CodA cs cd N2 vs) (hb : ∀ c ∈ cs, ¬ c < 0 ∧ ¬ (65535 : Int32) < c) (l2 : cs.length ≤ 4000) :
    ∃ A, Txt x t A cd cs.length (fun j => cs.getD j 0) U := by
  obtain ⟨A, K1, K2, K3, K4, K5, K6⟩ := K
  have hcod := hc.cod (by omega) K3 K5
  obtain ⟨D, fV, fC, hB, F1, F2, g1, g2, -, -⟩ := strObj wi al E V C
  exact ⟨A, ⟨_, hB.2.2.1, D, hB.1, rfl, by cases q : D.vm <;> first | rfl | exact absurd q (hB.2.1.2 _)⟩, Has.of hB F1 g1, Has.of hB F2 g2, ⟨K1.1, State.isArrayOf_alike al K1.2.1, K1.2.2, by rcases hcod with ⟨-, q, -⟩ | ⟨-, q, -⟩ <;> omega⟩, hcod, fun j hj => by
    have e : cs.getD j 0 = cs[j] := by simp [List.getD_eq_getElem?_getD, hj]
    show ¬ cs.getD j 0 < 0 ∧ ¬ 65535 < cs.getD j 0
    rw [e]; exact hb _ (List.getElem_mem _)⟩
end StrChars.Road
namespace StrChars
open Jvm Sem ClassFile Op Lib Jvm.Stand Jvm.Free.XT Jvm.Free.ALB Jvm.Free.JM Jvm.Free
open Jvm.Lib.Cold (StaticIs)
namespace ChN
def yN : MethodName := ⟨"java/lang/String", "charAt", "(I)C"⟩
abbrev yB : ByteArray := jdk_42_method_56_code
theorem d0 : decode yB 0 = .ok (.aload_n 0, 1) := by decide +kernel
theorem d1 : decode yB 1 = .ok (.invokevirtual 492, 3) := by decide +kernel
theorem d4 : decode yB 4 = .ok (.ifCond (.eq) 12, 3) := by decide +kernel
theorem d7 : decode yB 7 = .ok (.aload_n 0, 1) := by decide +kernel
theorem d8 : decode yB 8 = .ok (.getfield 9, 3) := by decide +kernel
theorem d11 : decode yB 11 = .ok (.iload_n 1, 1) := by decide +kernel
theorem d12 : decode yB 12 = .ok (.invokestatic 495, 3) := by decide +kernel
theorem d15 : decode yB 15 = .ok (.ireturn, 1) := by decide +kernel
def site : List Cond := [.fieldLink "java/lang/String" 9 "java/lang/String" "value" "[B", IsL.tab, LChA.tab] ++ virtW "java/lang/String" 492 "java/lang/String" IsL.yN IsL.yN ++ staticW "java/lang/String" 495 LChA.yN
def tab : Cond := tabOf yN yB 2 (some .char) site
def P (x t : Addr) (V : Cell) (n : Nat) (f : Nat → Int32) (z : Int32) (fm : Value) (i : Nat) (args : Array Value) (s : State) : Prop := args = #[.ref x, .int (Int32.ofNat i)] ∧ Txt x t V 0 n f s ∧ i < n ∧ StaticIs s "java/lang/String" "COMPACT_STRINGS" "Z" (.int z) ∧ ¬ z = 0 ∧ StaticIs s "jdk/internal/util/Preconditions" "SIOOBE_FORMATTER" "Ljava/util/function/BiFunction;" fm ∧ fm.isRef = true
def E (f : Nat → Int32) (i : Nat) (r : Option Value) (s u : State) : Prop := XT.PureE (some (.int (f i))) r s u
/-- charAt(i) of a Latin-1 String of n chars, i < n: f i -/
theorem law (l : Launch) (x t : Addr) (V : Cell) (n : Nat) (f : Nat → Int32) (z : Int32) (fm : Value) (i : Nat) : Law l yN 2 1 3 40 yB 2 (some .char) site (P x t V n f z fm i) (E f i) [] 0 0 := by
  refine Law.of_walk (plainFor_of_name (by decide +kernel)) (by decide +kernel) (by decide +kernel) (by decide) (fun _ _ h => by rw [h.1]; rfl) (fun _ U U' hal hh h => ⟨h.1, h.2.1.mv hal hh, h.2.2.1, h.2.2.2.1.there hal hh, h.2.2.2.2.1, h.2.2.2.2.2.1.there hal hh, h.2.2.2.2.2.2⟩) (fun r U U' V V' h1 hal h2 h => XT.PureE.mv r U U' V V' h1 hal h2 h) ?_
  intro p e s m args below meth c s₁ X0 hexec hbytes hml hret hlk hnm hown hh0 W hP
  obtain ⟨rfl, hx, hi, s1, hz, s3, rf⟩ := hP
  have v31 := hx.2.2.2.1.2.2.2
  have hr := hx.2.2.2.2.2 i hi
  have hx0 := hx.mv X0.warmed.alike hh0
  have c1 : Steps p.tables e below (s₁.setTop (entryFrame m #[.ref x, .int (Int32.ofNat i)] 2)) (s₁.setTop (mkF m 1 #[.val (.ref x), .val (.int (Int32.ofNat i))] [.ref x])) := Steps.trans (entry rfl) (by
    show Steps p.tables e below (s₁.setTop (mkF m 0 #[.val (.ref x), .val (.int (Int32.ofNat i))] [])) _
    refine XS.aloadN X0.here hexec rfl (hb hbytes d0) rfl rfl ?_
    exact Steps.refl _)
  obtain ⟨v2, T2, X2, E2, g2⟩ := X0.callV hexec (IsL.law l x 0 z) hown (wks W (virtW "java/lang/String" 492 "java/lang/String" IsL.yN IsL.yN)) rfl (by decide) (wk W IsL.tab) (W := 0) (Nat.le_of_ble_eq_true rfl) (Nat.le_of_ble_eq_true rfl) (Nat.le_refl _) (Nat.le_refl _) (hx0.1.fc X0.warmed.alike) hx0.1.is (g := (mkF m 1 #[.val (.ref x), .val (.int (Int32.ofNat i))] [.ref x])) rfl (by rw [hml]; rfl) c1 (argsL := []) (rest := []) rfl rfl (by show 2 * 0 + 0 ≤ _; decide) (hb hbytes d1) (⟨rfl, hx0.2.2.1, hx.2.2.2.2.1.cd, s1.there X0.warmed.alike hh0, hz⟩)
  obtain ⟨rfl, q2⟩ := E2
  have hh2 := q2.trans hh0
  have hx2 := hx.mv X2.warmed.alike hh2
  obtain ⟨-, k1, k2⟩ | ⟨k0, -⟩ := hx.2.2.2.2.1
  · have c3 : Steps p.tables e below (s₁.setTop (entryFrame m #[.ref x, .int (Int32.ofNat i)] 2)) (T2.setTop (mkF m 8 #[.val (.ref x), .val (.int (Int32.ofNat i))] [.ref x])) := Steps.trans g2 (by
      refine XS.ifNo X2.here hexec rfl (hb hbytes d4) rfl (i0_eq_f (by decide)) ?_
      refine XS.aloadN X2.here hexec rfl (hb hbytes d7) rfl rfl ?_
      exact Steps.refl _)
    obtain ⟨T4, X4, q4, st4⟩ := X2.hget hexec hown (wk W (.fieldLink "java/lang/String" 9 "java/lang/String" "value" "[B")) hx2.2.1 (g := (mkF m 8 #[.val (.ref x), .val (.int (Int32.ofNat i))] [.ref x])) rfl (rest := []) rfl (hb hbytes d8)
    have hh4 := q4.trans hh2
    have c5 : Steps p.tables e below (s₁.setTop (entryFrame m #[.ref x, .int (Int32.ofNat i)] 2)) (T4.setTop (mkF m 12 #[.val (.ref x), .val (.int (Int32.ofNat i))] [.int (Int32.ofNat i), .ref t])) := (c3.trans (st4 _ (Steps.refl _))).trans (by
      refine XS.iloadN X4.here hexec rfl (hb hbytes d11) rfl ?_
      exact Steps.refl _)
    obtain ⟨v6, T6, X6, E6, g6⟩ := X4.callS hexec (LChA.law l t V i (lo8 (f i)) fm) hown (wks W (staticW "java/lang/String" 495 LChA.yN)) (wk W LChA.tab) (W := 0) (Nat.le_of_ble_eq_true rfl) (Nat.le_of_ble_eq_true rfl) (Nat.le_refl _) (Nat.le_refl _) (g := (mkF m 12 #[.val (.ref x), .val (.int (Int32.ofNat i))] [.int (Int32.ofNat i), .ref t])) rfl (by rw [hml]; rfl) c5 (argsL := [.ref t, .int (Int32.ofNat i)]) (rest := []) rfl rfl (by show 2 * 0 + 0 ≤ _; decide) (hb hbytes d12) (⟨rfl, hx.2.2.2.1.mv X4.warmed.alike hh4, (k2 i hi).1, s3.there X4.warmed.alike hh4, rf⟩)
    obtain ⟨rfl, q6⟩ := E6
    rw [chr8_lo8 hr.1 (k2 i hi).2] at g6
    exact ⟨T6, some (.int (f i)), _, _, _, X6, rfl, rfl, rfl, (fun h => by cases h), ⟨rfl, q6.trans hh4⟩, fun fs hl => Steps.trans g6 (X6.ireturnOut hexec hret (narrow_ch hr.1 hr.2) (Or.inr (Or.inr (Or.inr (Or.inl rfl)))) (hb hbytes d15) hl)⟩
  · exact absurd k0 (by decide)
theorem pays {l : Launch} {R : Room} {p : Program} {e : Env} {below : List Frame} {s : State} {sargs : Array Value} {len W : Nat} (x t : Addr) (V : Cell) (n : Nat) (f : Nat → Int32) (z : Int32) (fm : Value) (i : Nat) (htab : tab.before sargs s = true) (hfr : 4 ≤ R.frames) (hlo : W + 53 ≤ R.locals) :
    Back l R p e below s sargs yN len W (fun A₁ a₁ => A₁.cells + 0 ≤ R.cells ∧ A₁.slots + 0 ≤ R.slots ∧ P x t V n f z fm i a₁ A₁.U) (fun A₁ _ v₁ B₁ => E f i v₁ A₁.U B₁.U ∧ B₁.locs = A₁.locs ++ [] ∧ B₁.cells = A₁.cells + 0 ∧ B₁.slots = A₁.slots + 0) :=
  (law l x t V n f z fm i).pays htab hfr (by omega)
end ChN
end StrChars
namespace StrChars.Road
open Jvm Sem ClassFile Op Lib Jvm.Stand Jvm.Free Jvm.Free.XT
open Jvm.Lib.Cold (StaticIs)
/-- the words of String.charAt(int), the Latin-1 road alone -/
abbrev wordsChN : List Jvm.Cond := [.code ChN.yN ChN.yB 2 (some .char), .initialized ST, .fieldLink ST 9 ST "value" "[B", .fieldLink ST 38 ST "COMPACT_STRINGS" "Z", .fieldLink ST 15 ST "coder" "B", .code IsL.yN IsL.yB 1 (some .boolean), .methodLink ST 492 IsL.yN, .declares IsL.yN, .selects ST IsL.yN IsL.yN, .instanceMethod IsL.yN,
  .methodLink ST 495 LChA.yN, .static LChA.yN, .code LChA.yN LChA.yB 2 (some .char), .initialized "java/lang/StringLatin1", .methodLink "java/lang/StringLatin1" 9 JO.Str_checkIndex.yN, .static JO.Str_checkIndex.yN, .code JO.Str_checkIndex.yN JO.Str_checkIndex.yB 2 none,
  .fieldLink ST 1053 "jdk/internal/util/Preconditions" "SIOOBE_FORMATTER" "Ljava/util/function/BiFunction;", .methodLink ST 1059 JC.PreCheck.yN, .static JC.PreCheck.yN, .code JC.PreCheck.yN JC.PreCheck.yB 3 (some .int), .initialized "jdk/internal/util/Preconditions"]
theorem tabChN_of {a : Array Value} {s : State} (h : ∀ w ∈ wordsChN, w.before a s = true) : ChN.tab.before a s = true := by
  have hp : JC.PreCheck.tab.before a s = true := unparts (wk h (.code JC.PreCheck.yN JC.PreCheck.yB 3 (some .int))) (wks h (.initialized JC.PreCheck.yN.cls :: JC.PreCheck.site))
  have qk := consq hp h
  have hk : JO.Str_checkIndex.tab.before a s = true := unparts (wk qk (.code JO.Str_checkIndex.yN JO.Str_checkIndex.yB 2 none)) (wks qk (.initialized JO.Str_checkIndex.yN.cls :: JO.Str_checkIndex.site))
  have ql := consq hk h
  have hl : LChA.tab.before a s = true := unparts (wk ql (.code LChA.yN LChA.yB 2 (some .char))) (wks ql (.initialized LChA.yN.cls :: LChA.site))
  have hi : IsL.tab.before a s = true := unparts (wk h (.code IsL.yN IsL.yB 1 (some .boolean))) (wks h (.initialized IsL.yN.cls :: IsL.site))
  have q := consq hi (consq hl h)
  exact unparts (wk q (.code ChN.yN ChN.yB 2 (some .char))) (wks q (.initialized ChN.yN.cls :: ChN.site))
theorem movedChN {Z s : State} {a0 args : Array Value} (hZ : Z.Warmed39 s.vm) (hw : ∀ d ∈ wordsChN, d.before a0 Z = true) : ∀ d ∈ wordsChN, d.before args s = true := fun d hd => by
  have t : ∀ d ∈ wordsChN, (d.onTables && d.keepsFace) = true := by decide +kernel
  exact RoadKit.mv hZ (hw d hd) (t d hd)
/-- **charAt(i) OF A LATIN-1 STRING**, i < n: the char -/
theorem chN {p : Program} {l : Launch} {e : Env} {R : Room} {s : State} {args : Array Value} {below : List Frame} {len W : Nat} {Z : State} {a0 : Array Value} {h : Heap} (hZ : Z.Warmed39 s.vm) (hw : ∀ d ∈ wordsChN, d.before a0 Z = true) {kI : Nat} (wi : (Jvm.Cond.instantiable ST kI).before a0 Z = true)
    {x t : Addr} {kb : ClassId} {cs : List Int32} {N2 z : Int32} {vs : List Value} {fm : Value} {i : Nat} {j : Int32} (E : RoadKit.Exa Z h x ST) (V : RoadKit.Fld Z h x ST "value" "[B" (.ref t)) (C : RoadKit.Fld Z h x ST "coder" "B" (.int 0)) (K : RoadKit.Arv Z h t kb .byte N2 vs (.int 0)) (hc : CodA cs 0 N2 vs) (hb : ∀ c ∈ cs, ¬ c < 0 ∧ ¬ (65535 : Int32) < c)
    (S : RoadKit.Sta Z h ST "COMPACT_STRINGS" "Z" (.int z)) (hz : ¬ z = 0) (F : RoadKit.Sta Z h "jdk/internal/util/Preconditions" "SIOOBE_FORMATTER" "Ljava/util/function/BiFunction;" fm) (rf : fm.isRef = true) (l2 : cs.length ≤ 4000) (hi : i < cs.length) (hj : j = Int32.ofNat i) (hfr : 4 ≤ R.frames) (hlo : W + 53 ≤ R.locals) :
    Back l R p e below s args (⟨"java/lang/String", "charAt", "(I)C"⟩ : MethodName) len W (fun P a => a = #[.ref x, .int j] ∧ P.U.heap = h ∧ P.cells + 0 ≤ R.cells ∧ P.slots + 0 ≤ R.slots)
      (fun P _ v B => ∃ L, (v = some (.int (cs.getD i 0)) ∧ L = [] ∧ B.U.heap = h) ∧ B.locs = P.locs ++ L ∧ B.cells = P.cells + 0 ∧ B.slots = P.slots + 0) := by
  subst hj
  intro m meth c P g ig mk a X hg hsize hdg hW hn hp'
  obtain ⟨rfl, rfl, r1, r2⟩ := hp'
  have al : Z.vm.Alike P.U.vm := hZ.alike.trans X.warmed.alike
  obtain ⟨A, hx⟩ := txt_of wi al E V C K hc hb l2
  obtain ⟨v, B, X', ⟨⟨hv, hh⟩, hl, hk, hs⟩, st⟩ := ChN.pays x t A cs.length (fun j => cs.getD j 0) z fm i (tabChN_of (movedChN hZ hw)) hfr hlo m meth c P g ig mk _ X hg hsize hdg hW hn ⟨r1, r2, rfl, hx, hi, sta_is al S, hz, sta_is al F, rf⟩
  exact ⟨v, B, X', ⟨[], ⟨hv, rfl, hh⟩, hl, hk, hs⟩, st⟩
/-- what backV says of its String, as the contracts of this text ask it: cs's low bytes, coder 0 -/
theorem codOf {cs : List Int32} {n : Nat} (hn : cs.length = n) (hb : ∀ c ∈ cs, ¬ 255 < c) : CodA cs 0 (Int32.ofNat n) ((cs.map lo8).map Value.int) := Or.inl ⟨rfl, by rw [hn], by simp [List.map_map, Function.comp_def], hb⟩
end StrChars.Road
end Jvm.Pilot.@@N@@
namespace Jvm.Pilot.@@N@@
open Jvm Jvm.ClassFile Sem Op Lib Jvm.Free Jvm.Stand Jvm.LawKit Jvm.RoadKit Bundle Jvm.Pilot.@@N@@.Jvm.D
section OwnSmall
variable {x y : Int32} {v : Value}
theorem qEqT (h : x = y) : if_icmp.holds .eq x y = true := (teq h).1
theorem qEqF (h : ¬ x = y) : if_icmp.holds .eq x y = false := (feq h).1
theorem qNeT (h : ¬ x = y) : if_icmp.holds .ne x y = true := (feq h).2
theorem qNeF (h : x = y) : if_icmp.holds .ne x y = false := (teq h).2
theorem qLtT (h : x < y) : if_icmp.holds .lt x y = true := (tlt h).1
theorem qGeF (h : x < y) : if_icmp.holds .ge x y = false := (tlt h).2.1
theorem qGtT (h : y < x) : if_icmp.holds .gt x y = true := (tlt h).2.2.1
theorem qLeF (h : y < x) : if_icmp.holds .le x y = false := (tlt h).2.2.2
theorem qLtF (h : ¬ x < y) : if_icmp.holds .lt x y = false := by simp [if_icmp.holds, h]
theorem qGeT (h : ¬ x < y) : if_icmp.holds .ge x y = true := by
  have h' : y ≤ x := by rw [Int32.le_iff_toInt_le]; rw [Int32.lt_iff_toInt_lt] at h; omega
  simp [if_icmp.holds, h']
theorem qGtF (h : ¬ y < x) : if_icmp.holds .gt x y = false := by simp [if_icmp.holds, h]
theorem qLeT (h : ¬ y < x) : if_icmp.holds .le x y = true := by
  have h' : x ≤ y := by rw [Int32.le_iff_toInt_le]; rw [Int32.lt_iff_toInt_lt] at h; omega
  simp [if_icmp.holds, h']
theorem zEqT (h : x = 0) : ifCond.holds .eq x = true := by rw [if0]; exact qEqT h
theorem zEqF (h : ¬ x = 0) : ifCond.holds .eq x = false := by rw [if0]; exact qEqF h
theorem zNeT (h : ¬ x = 0) : ifCond.holds .ne x = true := by rw [if0]; exact qNeT h
theorem zNeF (h : x = 0) : ifCond.holds .ne x = false := by rw [if0]; exact qNeF h
theorem zLtT (h : x < 0) : ifCond.holds .lt x = true := by rw [if0]; exact qLtT h
theorem zLtF (h : ¬ x < 0) : ifCond.holds .lt x = false := by rw [if0]; exact qLtF h
theorem zGeT (h : ¬ x < 0) : ifCond.holds .ge x = true := by rw [if0]; exact qGeT h
theorem zGeF (h : x < 0) : ifCond.holds .ge x = false := by rw [if0]; exact qGeF h
theorem zGtT (h : 0 < x) : ifCond.holds .gt x = true := by rw [if0]; exact qGtT h
theorem zGtF (h : ¬ 0 < x) : ifCond.holds .gt x = false := by rw [if0]; exact qGtF h
theorem zLeT (h : ¬ 0 < x) : ifCond.holds .le x = true := by rw [if0]; exact qLeT h
theorem zLeF (h : 0 < x) : ifCond.holds .le x = false := by rw [if0]; exact qLeF h
theorem cat1 (h : v.isRef = true) : v.category = 1 := by cases v <;> first | rfl | cases h
theorem nrR {c : String} (h : v.isRef = true) : narrow (.object c) v = v := by cases v <;> first | rfl | cases h
theorem ftR {c : String} (h : v.isRef = true) : fits (.object c) v = true := by cases v <;> first | rfl | cases h
/-- a char below 256 -/
def Chr (c : Int32) : Prop := ¬ c < 0 ∧ ¬ (255 : Int32) < c
theorem Chr.nar {c : Int32} (h : Chr c) : nar .char c = c := by
  have q := c_i2c c
  show c.toUInt32.toUInt16.toUInt32.toInt32 = c
  apply Int32.toInt_inj.mp
  have h1 := h.1
  have h2 := h.2
  rw [Int32.lt_iff_toInt_lt] at h1 h2
  have e1 : (0 : Int32).toInt = 0 := rfl
  have e2 : (255 : Int32).toInt = 255 := rfl
  omega
theorem chr255 (z : Int32) : Chr ((z &&& (255 : Int32)).toUInt32.toUInt16.toUInt32.toInt32) := by
  rw [i2c_mask]
  have q := c_and z 255 (by decide)
  have e1 : (0 : Int32).toInt = 0 := rfl
  have e2 : (255 : Int32).toInt = 255 := rfl
  refine ⟨fun h => ?_, fun h => ?_⟩ <;> rw [Int32.lt_iff_toInt_lt] at h <;> omega
end OwnSmall
end Jvm.Pilot.@@N@@
namespace Jvm.Pilot.@@N@@
open Jvm Jvm.ClassFile Sem Op Lib Jvm.Free Jvm.Stand Jvm.LawKit Jvm.RoadKit Bundle Jvm.Pilot.@@N@@.Jvm.D
section OwnKit
/-- from (T, f) the run comes to an end of which P speaks -/
def Go (p : Program) (e : Env) (below : List Frame) (P : Outcome → State → Prop) (T : State) (f : JFrame) : Prop :=
  ∃ s₂ o, Steps p.tables e below (T.setTop f) s₂ ∧ s₂.status = .running ∧ Ended s₂ below o ∧ P o s₂
/-- the end of a body: narrow (nothing interned) or wide -/
def EndB (wd : Bool) (EL : List (String × Nat)) (Z s : State) (o : Outcome) (t : State) (L : List Loc) (k n : Nat) : Prop :=
  match wd with
  | true => CHr Z EL s.vm s.heap t.vm t.heap ∧ ReturnedEndW s o t L k n
  | false => FrameEnd s o t L k n
def Done (wd : Bool) (EL : List (String × Nat)) (Z s : State) (n0 : Nat) (h0 : Heap) (ws : List Addr) (rc rs : Nat) (Q : Option Value → Heap → Prop) (o : Outcome) (U : State) : Prop :=
  ∃ v L, o = .returned v ∧ (Q v U.heap ∧ Keep h0 U.heap ws ∧ Fr n0 L) ∧ EndB wd EL Z s o U L rc rs
/-- where a walk stands: its state T, its heap h; F: places that no booked literal lies in; ws0: what may be written of what stood at the body's start -/
def Sd (wd : Bool) (EL : List (String × Nat)) (a0 : Array Value) (p : Program) (l : Launch) (e : Env) (R : Room) (s : State) (m : MethodId) (args : Array Value) (below : List Frame) (meth : Method) (c : Code) (Z : State) (own : String) (n0 : Nat) (h0 : Heap) (ws0 : List Addr)
    (T : State) (h : Heap) (F : List Addr) (locs : List Loc) (cells slots : Nat) : Prop :=
  (p.tables.exec = Jvm.exec ∧ meth.locks = false ∧ EW Z a0 EL ∧ s.heap = h0 ∧ Old Z n0 h0 ∧ ∀ x ∈ ws0, n0 ≤ x) ∧
  ∃ vm0 k0, (wd = false → vm0 = s.vm) ∧ Stand p l e R (s.setVm vm0) m args below meth c T locs cells slots ∧ T.heap = h ∧ s.Since vm0 k0 ∧ k0 ≤ h.size ∧ Z.Warmed39 vm0 ∧ vm0.findClass own = some m.cls ∧ Old Z n0 h ∧ Fr n0 locs ∧ Keep h0 h ws0 ∧
    CHr Z EL s.vm s.heap vm0 h ∧ ∀ x ∈ F, Safe Z EL vm0 h x ∧ x < h.size
variable {wd : Bool} {EL : List (String × Nat)} {a0 : Array Value} {p : Program} {l : Launch} {e : Env} {R : Room} {s : State} {m : MethodId} {args : Array Value} {below : List Frame} {meth : Method} {c : Code} {Z : State} {own : String} {n0 : Nat} {h0 : Heap} {ws0 : List Addr}
  {T T' : State} {h h' : Heap} {F F' : List Addr} {locs locs' : List Loc} {cells slots cells' slots' : Nat} {P : Outcome → State → Prop} {pc pc' : Nat} {Ls : Array Slot} {st rest : List Value} {f f' : JFrame} {vm0 : Vm} {k0 : Nat} {ws : List Addr}
theorem Go.by (k : ∀ t, Steps p.tables e below (T'.setTop f') t → Steps p.tables e below (T.setTop f) t) (g : Go p e below P T' f') : Go p e below P T f := by
  obtain ⟨s₂, o, h1, h2⟩ := g
  exact ⟨s₂, o, k _ h1, h2⟩
theorem Go.cast (q : f = f') (g : Go p e below P T f') : Go p e below P T f := q ▸ g
theorem own_ole (O : Old Z n0 h) : n0 ≤ h.size := by rw [← O.1]; exact O.2.1
/-- what may be written -/
def Wok (n0 : Nat) (h0 : Heap) (ws0 : List Addr) (a : Addr) : Prop := a ∈ ws0 ∨ h0.size ≤ a
theorem Wok.le {a : Addr} (w : Wok n0 h0 ws0 a) (h1 : n0 ≤ h0.size) (h2 : ∀ x ∈ ws0, n0 ≤ x) : n0 ≤ a := by
  rcases w with w | w
  · exact h2 _ w
  · exact Nat.le_trans h1 w
theorem Sd.hx (S : Sd wd EL a0 p l e R s m args below meth c Z own n0 h0 ws0 T h F locs cells slots) : p.tables.exec = Jvm.exec := S.1.1
theorem Sd.at (S : Sd wd EL a0 p l e R s m args below meth c Z own n0 h0 ws0 T h F locs cells slots) : At T m c below := by
  obtain ⟨-, vm0, k0, -, X, -⟩ := S
  exact X.here
theorem Sd.old (S : Sd wd EL a0 p l e R s m args below meth c Z own n0 h0 ws0 T h F locs cells slots) : Old Z n0 h := by
  obtain ⟨-, vm0, k0, -, -, -, -, -, -, -, O, -⟩ := S
  exact O
theorem Sd.kept (S : Sd wd EL a0 p l e R s m args below meth c Z own n0 h0 ws0 T h F locs cells slots) : Keep h0 h ws0 := by
  obtain ⟨-, vm0, k0, -, -, -, -, -, -, -, -, -, K, -⟩ := S
  exact K
theorem Sd.sz (S : Sd wd EL a0 p l e R s m args below meth c Z own n0 h0 ws0 T h F locs cells slots) : n0 ≤ h.size := Nat.le_trans (own_ole S.1.2.2.2.2.1) S.kept.1
theorem Sd.ge (S : Sd wd EL a0 p l e R s m args below meth c Z own n0 h0 ws0 T h F locs cells slots) {a : Addr} (w : Wok n0 h0 ws0 a) : n0 ≤ a := w.le (own_ole S.1.2.2.2.2.1) S.1.2.2.2.2.2
/-- the walk goes on over the same tables: the heap moved by a Keep -/
theorem Sd.close (A : p.tables.exec = Jvm.exec ∧ meth.locks = false ∧ EW Z a0 EL ∧ s.heap = h0 ∧ Old Z n0 h0 ∧ ∀ x ∈ ws0, n0 ≤ x) (hv : wd = false → vm0 = s.vm) (X : Stand p l e R (s.setVm vm0) m args below meth c T' locs' cells' slots') (eT : T'.heap = h') (hS : s.Since vm0 k0) (hk : k0 ≤ h.size) (hZ : Z.Warmed39 vm0) (hown : vm0.findClass own = some m.cls) (O : Old Z n0 h) (N : Fr n0 locs') (K0 : Keep h0 h ws0)
    (C : CHr Z EL s.vm s.heap vm0 h) (hF : ∀ x ∈ F, Safe Z EL vm0 h x ∧ x < h.size) (K : Keep h h' ws) (hws : ∀ x ∈ ws, Wok n0 h0 ws0 x ∧ Safe Z EL vm0 h x) (hF' : ∀ x ∈ F', x ∈ F ∨ (h.size ≤ x ∧ x < h'.size)) : Sd wd EL a0 p l e R s m args below meth c Z own n0 h0 ws0 T' h' F' locs' cells' slots' := by
  have hsf : ∀ x ∈ ws, Safe Z EL vm0 h x := fun x hx => (hws x hx).2
  refine ⟨A, vm0, k0, hv, X, eT, hS, Nat.le_trans hk K.1, hZ, hown, O.keep K fun x hx => (hws x hx).1.le (own_ole A.2.2.2.2.1) A.2.2.2.2.2, N, K0.trans K fun x hx => (hws x hx).1, C.trans (CHr.keep K hsf C.1), fun x hx => ?_⟩
  rcases hF' x hx with q | ⟨q1, q2⟩
  · exact ⟨Safe.keep K hsf C.1 (hF x q).1, Nat.lt_of_lt_of_le (hF x q).2 K.1⟩
  · exact ⟨Safe.keep K hsf C.1 (Safe.new q1), q2⟩
theorem Ext.kp (E : Ext h h') : Keep h h' [] := (Keep.refl h []).ext E
theorem noWs : ∀ x ∈ ([] : List Addr), Wok n0 h0 ws0 x ∧ Safe Z EL vm0 h x := fun _ q => nomatch q
/-! ### plain steps -/
theorem Sd.aloadN (S : Sd wd EL a0 p l e R s m args below meth c Z own n0 h0 ws0 T h F locs cells slots) {k : Fin 4} {v : Value} (pc' : Nat) (hd : decode c.code pc = .ok (.aload_n k, 1)) (hl : Ls[k.val]? = some (.val v)) (hv : v.isRef = true) (g : Go p e below P T (mkF m pc' Ls (v :: st))) (hp : pc + 1 = pc' := by rfl) : Go p e below P T (mkF m pc Ls st) := by
  subst hp; exact Go.by (fun _ q => XS.aloadN S.at S.hx rfl hd hl hv q) g
theorem Sd.aload (S : Sd wd EL a0 p l e R s m args below meth c Z own n0 h0 ws0 T h F locs cells slots) {k : Nat} {v : Value} (pc' : Nat) (hd : decode c.code pc = .ok (.aload k, 2)) (hl : Ls[k]? = some (.val v)) (hv : v.isRef = true) (g : Go p e below P T (mkF m pc' Ls (v :: st))) (hp : pc + 2 = pc' := by rfl) : Go p e below P T (mkF m pc Ls st) := by
  subst hp; exact Go.by (fun _ q => XS.aload S.at S.hx rfl hd hl hv q) g
theorem Sd.iloadN (S : Sd wd EL a0 p l e R s m args below meth c Z own n0 h0 ws0 T h F locs cells slots) {k : Fin 4} {v : Int32} (pc' : Nat) (hd : decode c.code pc = .ok (.iload_n k, 1)) (hl : Ls[k.val]? = some (.val (.int v))) (g : Go p e below P T (mkF m pc' Ls (.int v :: st))) (hp : pc + 1 = pc' := by rfl) : Go p e below P T (mkF m pc Ls st) := by
  subst hp; exact Go.by (fun _ q => XS.iloadN S.at S.hx rfl hd hl q) g
theorem Sd.iload (S : Sd wd EL a0 p l e R s m args below meth c Z own n0 h0 ws0 T h F locs cells slots) {k : Nat} {v : Int32} (pc' : Nat) (hd : decode c.code pc = .ok (.iload k, 2)) (hl : Ls[k]? = some (.val (.int v))) (g : Go p e below P T (mkF m pc' Ls (.int v :: st))) (hp : pc + 2 = pc' := by rfl) : Go p e below P T (mkF m pc Ls st) := by
  subst hp; exact Go.by (fun _ q => XS.iload S.at S.hx rfl hd hl q) g
theorem Sd.lloadN (S : Sd wd EL a0 p l e R s m args below meth c Z own n0 h0 ws0 T h F locs cells slots) {k : Fin 4} {v : Int64} (pc' : Nat) (hd : decode c.code pc = .ok (.lload_n k, 1)) (hl : Ls[k.val]? = some (.val (.long v))) (g : Go p e below P T (mkF m pc' Ls (.long v :: st))) (hp : pc + 1 = pc' := by rfl) : Go p e below P T (mkF m pc Ls st) := by
  subst hp; exact Go.by (fun _ q => XS.lloadN S.at S.hx rfl hd hl q) g
theorem Sd.lload (S : Sd wd EL a0 p l e R s m args below meth c Z own n0 h0 ws0 T h F locs cells slots) {k : Nat} {v : Int64} (pc' : Nat) (hd : decode c.code pc = .ok (.lload k, 2)) (hl : Ls[k]? = some (.val (.long v))) (g : Go p e below P T (mkF m pc' Ls (.long v :: st))) (hp : pc + 2 = pc' := by rfl) : Go p e below P T (mkF m pc Ls st) := by
  subst hp; exact Go.by (fun _ q => XS.lload S.at S.hx rfl hd hl q) g
theorem Sd.iconst (S : Sd wd EL a0 p l e R s m args below meth c Z own n0 h0 ws0 T h F locs cells slots) {i : Int} (pc' : Nat) (z : Int32) (hd : decode c.code pc = .ok (.iconst i, 1)) (g : Go p e below P T (mkF m pc' Ls (.int z :: st))) (hp : pc + 1 = pc' := by rfl) (hz : Int32.ofInt i = z := by rfl) : Go p e below P T (mkF m pc Ls st) := by
  subst hp hz; exact Go.by (fun _ q => XS.iconst S.at S.hx rfl hd q) g
theorem Sd.bipush (S : Sd wd EL a0 p l e R s m args below meth c Z own n0 h0 ws0 T h F locs cells slots) {i : Int} (pc' : Nat) (z : Int32) (hd : decode c.code pc = .ok (.bipush i, 2)) (g : Go p e below P T (mkF m pc' Ls (.int z :: st))) (hp : pc + 2 = pc' := by rfl) (hz : (Int8.ofInt i).toInt32 = z := by rfl) : Go p e below P T (mkF m pc Ls st) := by
  subst hp hz; exact Go.by (fun _ q => XS.bipush S.at S.hx rfl hd q) g
theorem Sd.sipush (S : Sd wd EL a0 p l e R s m args below meth c Z own n0 h0 ws0 T h F locs cells slots) {i : Int} (pc' : Nat) (z : Int32) (hd : decode c.code pc = .ok (.sipush i, 3)) (g : Go p e below P T (mkF m pc' Ls (.int z :: st))) (hp : pc + 3 = pc' := by rfl) (hz : (Int16.ofInt i).toInt32 = z := by rfl) : Go p e below P T (mkF m pc Ls st) := by
  subst hp hz; exact Go.by (fun _ q => XS.sipush S.at S.hx rfl hd q) g
theorem Sd.lconst (S : Sd wd EL a0 p l e R s m args below meth c Z own n0 h0 ws0 T h F locs cells slots) {i : Fin 2} (pc' : Nat) (z : Int64) (hd : decode c.code pc = .ok (.lconst i, 1)) (g : Go p e below P T (mkF m pc' Ls (.long z :: st))) (hp : pc + 1 = pc' := by rfl) (hz : Int64.ofNat i = z := by rfl) : Go p e below P T (mkF m pc Ls st) := by
  subst hp hz; exact Go.by (fun _ q => XS.lconst S.at S.hx rfl hd q) g
theorem Sd.anull (S : Sd wd EL a0 p l e R s m args below meth c Z own n0 h0 ws0 T h F locs cells slots) (pc' : Nat) (hd : decode c.code pc = .ok (.aconst_null, 1)) (g : Go p e below P T (mkF m pc' Ls (.null :: st))) (hp : pc + 1 = pc' := by rfl) : Go p e below P T (mkF m pc Ls st) := by
  subst hp; exact Go.by (fun _ q => XS.aconstNull S.at S.hx rfl hd q) g
theorem Sd.istoreN (S : Sd wd EL a0 p l e R s m args below meth c Z own n0 h0 ws0 T h F locs cells slots) {k : Fin 4} {x : Int32} (pc' : Nat) (l' : Array Slot) (hd : decode c.code pc = .ok (.istore_n k, 1)) (hl : storeLocals Ls k.val (.int x) = some l') (g : Go p e below P T (mkF m pc' l' st)) (hp : pc + 1 = pc' := by rfl) : Go p e below P T (mkF m pc Ls (.int x :: st)) := by
  subst hp; exact Go.by (fun _ q => XS.istoreN S.at S.hx rfl hd rfl hl q) g
theorem Sd.istore (S : Sd wd EL a0 p l e R s m args below meth c Z own n0 h0 ws0 T h F locs cells slots) {k : Nat} {x : Int32} (pc' : Nat) (l' : Array Slot) (hd : decode c.code pc = .ok (.istore k, 2)) (hl : storeLocals Ls k (.int x) = some l') (g : Go p e below P T (mkF m pc' l' st)) (hp : pc + 2 = pc' := by rfl) : Go p e below P T (mkF m pc Ls (.int x :: st)) := by
  subst hp; exact Go.by (fun _ q => XS.istore S.at S.hx rfl hd rfl hl q) g
theorem Sd.lstoreN (S : Sd wd EL a0 p l e R s m args below meth c Z own n0 h0 ws0 T h F locs cells slots) {k : Fin 4} {x : Int64} (pc' : Nat) (l' : Array Slot) (hd : decode c.code pc = .ok (.lstore_n k, 1)) (hl : storeLocals Ls k.val (.long x) = some l') (g : Go p e below P T (mkF m pc' l' st)) (hp : pc + 1 = pc' := by rfl) : Go p e below P T (mkF m pc Ls (.long x :: st)) := by
  subst hp; exact Go.by (fun _ q => XS.lstoreN S.at S.hx rfl hd rfl hl q) g
theorem Sd.lstore (S : Sd wd EL a0 p l e R s m args below meth c Z own n0 h0 ws0 T h F locs cells slots) {k : Nat} {x : Int64} (pc' : Nat) (l' : Array Slot) (hd : decode c.code pc = .ok (.lstore k, 2)) (hl : storeLocals Ls k (.long x) = some l') (g : Go p e below P T (mkF m pc' l' st)) (hp : pc + 2 = pc' := by rfl) : Go p e below P T (mkF m pc Ls (.long x :: st)) := by
  subst hp; exact Go.by (fun _ q => XS.lstore S.at S.hx rfl hd rfl hl q) g
theorem Sd.astoreN (S : Sd wd EL a0 p l e R s m args below meth c Z own n0 h0 ws0 T h F locs cells slots) {k : Fin 4} {x : Value} (pc' : Nat) (l' : Array Slot) (hd : decode c.code pc = .ok (.astore_n k, 1)) (hv : x.isRef = true) (hl : storeLocals Ls k.val x = some l') (g : Go p e below P T (mkF m pc' l' st)) (hp : pc + 1 = pc' := by rfl) : Go p e below P T (mkF m pc Ls (x :: st)) := by
  subst hp; exact Go.by (fun _ q => XS.astoreN S.at S.hx rfl hd rfl hv hl q) g
theorem Sd.astore (S : Sd wd EL a0 p l e R s m args below meth c Z own n0 h0 ws0 T h F locs cells slots) {k : Nat} {x : Value} (pc' : Nat) (l' : Array Slot) (hd : decode c.code pc = .ok (.astore k, 2)) (hv : x.isRef = true) (hl : storeLocals Ls k x = some l') (g : Go p e below P T (mkF m pc' l' st)) (hp : pc + 2 = pc' := by rfl) : Go p e below P T (mkF m pc Ls (x :: st)) := by
  subst hp; exact Go.by (fun _ q => XS.astore S.at S.hx rfl hd rfl hv hl q) g
theorem Sd.iinc (S : Sd wd EL a0 p l e R s m args below meth c Z own n0 h0 ws0 T h F locs cells slots) {k : Nat} {cst : Int} {x : Int32} (pc' : Nat) (l' : Array Slot) (hd : decode c.code pc = .ok (.iinc k cst, 3)) (hl : Ls[k]? = some (.val (.int x))) (hl' : storeLocals Ls k (.int (x + Int32.ofInt cst)) = some l') (g : Go p e below P T (mkF m pc' l' st)) (hp : pc + 3 = pc' := by rfl) : Go p e below P T (mkF m pc Ls st) := by
  subst hp; exact Go.by (fun _ q => XS.iinc S.at S.hx rfl hd hl hl' q) g
theorem Sd.goto (S : Sd wd EL a0 p l e R s m args below meth c Z own n0 h0 ws0 T h F locs cells slots) {o : Int} (pc' : Nat) (hd : decode c.code pc = .ok (.goto o, 3)) (g : Go p e below P T (mkF m pc' Ls st)) (ho : 0 ≤ (pc : Int) + o := by decide) (hp : ((pc : Int) + o).toNat = pc' := by decide) : Go p e below P T (mkF m pc Ls st) :=
  Go.by (fun _ q => XS.goto S.at S.hx rfl rfl hd ho hp q) g
theorem Sd.ifY (S : Sd wd EL a0 p l e R s m args below meth c Z own n0 h0 ws0 T h F locs cells slots) {cd : ClassFile.Cond} {x : Int32} {o : Int} (pc' : Nat) (hd : decode c.code pc = .ok (.ifCond cd o, 3)) (hc : ifCond.holds cd x = true) (g : Go p e below P T (mkF m pc' Ls st)) (ho : 0 ≤ (pc : Int) + o := by decide) (hp : ((pc : Int) + o).toNat = pc' := by decide) : Go p e below P T (mkF m pc Ls (.int x :: st)) :=
  Go.by (fun _ q => XS.ifYes S.at S.hx rfl rfl hd rfl hc ho hp q) g
theorem Sd.ifN (S : Sd wd EL a0 p l e R s m args below meth c Z own n0 h0 ws0 T h F locs cells slots) {cd : ClassFile.Cond} {x : Int32} {o : Int} (pc' : Nat) (hd : decode c.code pc = .ok (.ifCond cd o, 3)) (hc : ifCond.holds cd x = false) (g : Go p e below P T (mkF m pc' Ls st)) (hp : pc + 3 = pc' := by rfl) : Go p e below P T (mkF m pc Ls (.int x :: st)) := by
  subst hp; exact Go.by (fun _ q => XS.ifNo S.at S.hx rfl hd rfl hc q) g
theorem Sd.icmpY (S : Sd wd EL a0 p l e R s m args below meth c Z own n0 h0 ws0 T h F locs cells slots) {cd : ClassFile.Cond} {x y : Int32} {o : Int} (pc' : Nat) (hd : decode c.code pc = .ok (.if_icmp cd o, 3)) (hc : if_icmp.holds cd x y = true) (g : Go p e below P T (mkF m pc' Ls st)) (ho : 0 ≤ (pc : Int) + o := by decide) (hp : ((pc : Int) + o).toNat = pc' := by decide) : Go p e below P T (mkF m pc Ls (.int y :: .int x :: st)) :=
  Go.by (fun _ q => XS.icmpYes S.at S.hx rfl rfl hd rfl hc ho hp q) g
theorem Sd.icmpN (S : Sd wd EL a0 p l e R s m args below meth c Z own n0 h0 ws0 T h F locs cells slots) {cd : ClassFile.Cond} {x y : Int32} {o : Int} (pc' : Nat) (hd : decode c.code pc = .ok (.if_icmp cd o, 3)) (hc : if_icmp.holds cd x y = false) (g : Go p e below P T (mkF m pc' Ls st)) (hp : pc + 3 = pc' := by rfl) : Go p e below P T (mkF m pc Ls (.int y :: .int x :: st)) := by
  subst hp; exact Go.by (fun _ q => XS.icmpNo S.at S.hx rfl hd rfl hc q) g
theorem Sd.nullY (S : Sd wd EL a0 p l e R s m args below meth c Z own n0 h0 ws0 T h F locs cells slots) {o : Int} (pc' : Nat) (hd : decode c.code pc = .ok (.ifnull o, 3)) (g : Go p e below P T (mkF m pc' Ls st)) (ho : 0 ≤ (pc : Int) + o := by decide) (hp : ((pc : Int) + o).toNat = pc' := by decide) : Go p e below P T (mkF m pc Ls (.null :: st)) :=
  Go.by (fun _ q => XS.ifnullYes S.at S.hx rfl rfl hd rfl ho hp q) g
theorem Sd.nullN (S : Sd wd EL a0 p l e R s m args below meth c Z own n0 h0 ws0 T h F locs cells slots) {o : Int} {b : Addr} (pc' : Nat) (hd : decode c.code pc = .ok (.ifnull o, 3)) (g : Go p e below P T (mkF m pc' Ls st)) (hp : pc + 3 = pc' := by rfl) : Go p e below P T (mkF m pc Ls (.ref b :: st)) := by
  subst hp; exact Go.by (fun _ q => XS.ifnullNo S.at S.hx rfl hd rfl q) g
theorem Sd.nonnullY (S : Sd wd EL a0 p l e R s m args below meth c Z own n0 h0 ws0 T h F locs cells slots) {o : Int} {b : Addr} (pc' : Nat) (hd : decode c.code pc = .ok (.ifnonnull o, 3)) (g : Go p e below P T (mkF m pc' Ls st)) (ho : 0 ≤ (pc : Int) + o := by decide) (hp : ((pc : Int) + o).toNat = pc' := by decide) : Go p e below P T (mkF m pc Ls (.ref b :: st)) :=
  Go.by (fun _ q => XT.ifnonnullYes S.at S.hx rfl rfl hd rfl ho hp q) g
theorem Sd.nonnullN (S : Sd wd EL a0 p l e R s m args below meth c Z own n0 h0 ws0 T h F locs cells slots) {o : Int} (pc' : Nat) (hd : decode c.code pc = .ok (.ifnonnull o, 3)) (g : Go p e below P T (mkF m pc' Ls st)) (hp : pc + 3 = pc' := by rfl) : Go p e below P T (mkF m pc Ls (.null :: st)) := by
  subst hp; exact Go.by (fun _ q => XT.ifnonnullNo S.at S.hx rfl hd rfl q) g
theorem Sd.acmpY (S : Sd wd EL a0 p l e R s m args below meth c Z own n0 h0 ws0 T h F locs cells slots) {cd : ClassFile.ACond} {x y : Value} {o : Int} (pc' : Nat) (hd : decode c.code pc = .ok (.if_acmp cd o, 3)) (hx : x.isRef = true) (hy : y.isRef = true) (hc : XT.acmp cd x y = true) (g : Go p e below P T (mkF m pc' Ls st)) (ho : 0 ≤ (pc : Int) + o := by decide) (hp : ((pc : Int) + o).toNat = pc' := by decide) : Go p e below P T (mkF m pc Ls (y :: x :: st)) :=
  Go.by (fun _ q => XT.acmpYes S.at S.hx rfl rfl hd rfl hx hy hc ho hp q) g
theorem Sd.acmpN (S : Sd wd EL a0 p l e R s m args below meth c Z own n0 h0 ws0 T h F locs cells slots) {cd : ClassFile.ACond} {x y : Value} {o : Int} (pc' : Nat) (hd : decode c.code pc = .ok (.if_acmp cd o, 3)) (hx : x.isRef = true) (hy : y.isRef = true) (hc : XT.acmp cd x y = false) (g : Go p e below P T (mkF m pc' Ls st)) (hp : pc + 3 = pc' := by rfl) : Go p e below P T (mkF m pc Ls (y :: x :: st)) := by
  subst hp; exact Go.by (fun _ q => XT.acmpNo S.at S.hx rfl hd rfl hx hy hc q) g
theorem Sd.dup (S : Sd wd EL a0 p l e R s m args below meth c Z own n0 h0 ws0 T h F locs cells slots) {x : Value} (pc' : Nat) (hd : decode c.code pc = .ok (.dup, 1)) (hc : x.category = 1) (g : Go p e below P T (mkF m pc' Ls (x :: x :: st))) (hp : pc + 1 = pc' := by rfl) : Go p e below P T (mkF m pc Ls (x :: st)) := by
  subst hp; exact Go.by (fun _ q => XS.dup S.at S.hx rfl hd rfl hc q) g
theorem Sd.dupX1 (S : Sd wd EL a0 p l e R s m args below meth c Z own n0 h0 ws0 T h F locs cells slots) {x y : Value} (pc' : Nat) (hd : decode c.code pc = .ok (.dup_x1, 1)) (hc : x.category = 1) (hc' : y.category = 1) (g : Go p e below P T (mkF m pc' Ls (x :: y :: x :: st))) (hp : pc + 1 = pc' := by rfl) : Go p e below P T (mkF m pc Ls (x :: y :: st)) := by
  subst hp; exact Go.by (fun _ q => XT.dupX1 S.at S.hx rfl hd rfl hc hc' q) g
theorem Sd.dup2 (S : Sd wd EL a0 p l e R s m args below meth c Z own n0 h0 ws0 T h F locs cells slots) {x y : Value} (pc' : Nat) (hd : decode c.code pc = .ok (.dup2, 1)) (hc : x.category = 1) (hc' : y.category = 1) (g : Go p e below P T (mkF m pc' Ls (x :: y :: x :: y :: st))) (hp : pc + 1 = pc' := by rfl) : Go p e below P T (mkF m pc Ls (x :: y :: st)) := by
  subst hp; exact Go.by (fun _ q => XT.dup2 S.at S.hx rfl hd rfl hc hc' q) g
theorem Sd.pop (S : Sd wd EL a0 p l e R s m args below meth c Z own n0 h0 ws0 T h F locs cells slots) {x : Value} (pc' : Nat) (hd : decode c.code pc = .ok (.pop, 1)) (hc : x.category = 1) (g : Go p e below P T (mkF m pc' Ls st)) (hp : pc + 1 = pc' := by rfl) : Go p e below P T (mkF m pc Ls (x :: st)) := by
  subst hp; exact Go.by (fun _ q => XT.pop S.at S.hx rfl hd rfl hc q) g
theorem Sd.iadd (S : Sd wd EL a0 p l e R s m args below meth c Z own n0 h0 ws0 T h F locs cells slots) {x : Int32} {y : Int32} (pc' : Nat) (hd : decode c.code pc = .ok (.iadd, 1)) (g : Go p e below P T (mkF m pc' Ls (.int (x + y) :: st))) (hp : pc + 1 = pc' := by rfl) : Go p e below P T (mkF m pc Ls (.int y :: .int x :: st)) := by
  subst hp; exact Go.by (fun _ q => XS.iadd S.at S.hx rfl hd rfl q) g
theorem Sd.isub (S : Sd wd EL a0 p l e R s m args below meth c Z own n0 h0 ws0 T h F locs cells slots) {x : Int32} {y : Int32} (pc' : Nat) (hd : decode c.code pc = .ok (.isub, 1)) (g : Go p e below P T (mkF m pc' Ls (.int (x - y) :: st))) (hp : pc + 1 = pc' := by rfl) : Go p e below P T (mkF m pc Ls (.int y :: .int x :: st)) := by
  subst hp; exact Go.by (fun _ q => XS.isub S.at S.hx rfl hd rfl q) g
theorem Sd.iand (S : Sd wd EL a0 p l e R s m args below meth c Z own n0 h0 ws0 T h F locs cells slots) {x : Int32} {y : Int32} (pc' : Nat) (hd : decode c.code pc = .ok (.iand, 1)) (g : Go p e below P T (mkF m pc' Ls (.int (x &&& y) :: st))) (hp : pc + 1 = pc' := by rfl) : Go p e below P T (mkF m pc Ls (.int y :: .int x :: st)) := by
  subst hp; exact Go.by (fun _ q => XS.iand S.at S.hx rfl hd rfl q) g
theorem Sd.imul (S : Sd wd EL a0 p l e R s m args below meth c Z own n0 h0 ws0 T h F locs cells slots) {x : Int32} {y : Int32} (pc' : Nat) (hd : decode c.code pc = .ok (.imul, 1)) (g : Go p e below P T (mkF m pc' Ls (.int (x * y) :: st))) (hp : pc + 1 = pc' := by rfl) : Go p e below P T (mkF m pc Ls (.int y :: .int x :: st)) := by
  subst hp; exact Go.by (fun _ q => XS.imul S.at S.hx rfl hd rfl q) g
theorem Sd.ior (S : Sd wd EL a0 p l e R s m args below meth c Z own n0 h0 ws0 T h F locs cells slots) {x : Int32} {y : Int32} (pc' : Nat) (hd : decode c.code pc = .ok (.ior, 1)) (g : Go p e below P T (mkF m pc' Ls (.int (x ||| y) :: st))) (hp : pc + 1 = pc' := by rfl) : Go p e below P T (mkF m pc Ls (.int y :: .int x :: st)) := by
  subst hp; exact Go.by (fun _ q => XS.ior S.at S.hx rfl hd rfl q) g
theorem Sd.ixor (S : Sd wd EL a0 p l e R s m args below meth c Z own n0 h0 ws0 T h F locs cells slots) {x : Int32} {y : Int32} (pc' : Nat) (hd : decode c.code pc = .ok (.ixor, 1)) (g : Go p e below P T (mkF m pc' Ls (.int (x ^^^ y) :: st))) (hp : pc + 1 = pc' := by rfl) : Go p e below P T (mkF m pc Ls (.int y :: .int x :: st)) := by
  subst hp; exact Go.by (fun _ q => XS.ixor S.at S.hx rfl hd rfl q) g
theorem Sd.ishl (S : Sd wd EL a0 p l e R s m args below meth c Z own n0 h0 ws0 T h F locs cells slots) {x : Int32} {y : Int32} (pc' : Nat) (hd : decode c.code pc = .ok (.ishl, 1)) (g : Go p e below P T (mkF m pc' Ls (.int (x <<< (y &&& 31)) :: st))) (hp : pc + 1 = pc' := by rfl) : Go p e below P T (mkF m pc Ls (.int y :: .int x :: st)) := by
  subst hp; exact Go.by (fun _ q => XS.ishl S.at S.hx rfl hd rfl q) g
theorem Sd.ishr (S : Sd wd EL a0 p l e R s m args below meth c Z own n0 h0 ws0 T h F locs cells slots) {x : Int32} {y : Int32} (pc' : Nat) (hd : decode c.code pc = .ok (.ishr, 1)) (g : Go p e below P T (mkF m pc' Ls (.int (x >>> (y &&& 31)) :: st))) (hp : pc + 1 = pc' := by rfl) : Go p e below P T (mkF m pc Ls (.int y :: .int x :: st)) := by
  subst hp; exact Go.by (fun _ q => XS.ishr S.at S.hx rfl hd rfl q) g
theorem Sd.iushr (S : Sd wd EL a0 p l e R s m args below meth c Z own n0 h0 ws0 T h F locs cells slots) {x : Int32} {y : Int32} (pc' : Nat) (hd : decode c.code pc = .ok (.iushr, 1)) (g : Go p e below P T (mkF m pc' Ls (.int ((x.toUInt32 >>> (y &&& 31).toUInt32).toInt32) :: st))) (hp : pc + 1 = pc' := by rfl) : Go p e below P T (mkF m pc Ls (.int y :: .int x :: st)) := by
  subst hp; exact Go.by (fun _ q => XS.iushr S.at S.hx rfl hd rfl q) g
theorem Sd.idiv (S : Sd wd EL a0 p l e R s m args below meth c Z own n0 h0 ws0 T h F locs cells slots) {x : Int32} {y : Int32} (pc' : Nat) (hd : decode c.code pc = .ok (.idiv, 1)) (hy : y ≠ 0) (g : Go p e below P T (mkF m pc' Ls (.int (x / y) :: st))) (hp : pc + 1 = pc' := by rfl) : Go p e below P T (mkF m pc Ls (.int y :: .int x :: st)) := by
  subst hp; exact Go.by (fun _ q => XS.idiv S.at S.hx rfl hd rfl hy q) g
theorem Sd.ladd (S : Sd wd EL a0 p l e R s m args below meth c Z own n0 h0 ws0 T h F locs cells slots) {x : Int64} {y : Int64} (pc' : Nat) (hd : decode c.code pc = .ok (.ladd, 1)) (g : Go p e below P T (mkF m pc' Ls (.long (x + y) :: st))) (hp : pc + 1 = pc' := by rfl) : Go p e below P T (mkF m pc Ls (.long y :: .long x :: st)) := by
  subst hp; exact Go.by (fun _ q => XS.ladd S.at S.hx rfl hd rfl q) g
theorem Sd.lsub (S : Sd wd EL a0 p l e R s m args below meth c Z own n0 h0 ws0 T h F locs cells slots) {x : Int64} {y : Int64} (pc' : Nat) (hd : decode c.code pc = .ok (.lsub, 1)) (g : Go p e below P T (mkF m pc' Ls (.long (x - y) :: st))) (hp : pc + 1 = pc' := by rfl) : Go p e below P T (mkF m pc Ls (.long y :: .long x :: st)) := by
  subst hp; exact Go.by (fun _ q => XS.lsub S.at S.hx rfl hd rfl q) g
theorem Sd.lmul (S : Sd wd EL a0 p l e R s m args below meth c Z own n0 h0 ws0 T h F locs cells slots) {x : Int64} {y : Int64} (pc' : Nat) (hd : decode c.code pc = .ok (.lmul, 1)) (g : Go p e below P T (mkF m pc' Ls (.long (x * y) :: st))) (hp : pc + 1 = pc' := by rfl) : Go p e below P T (mkF m pc Ls (.long y :: .long x :: st)) := by
  subst hp; exact Go.by (fun _ q => XS.lmul S.at S.hx rfl hd rfl q) g
theorem Sd.land (S : Sd wd EL a0 p l e R s m args below meth c Z own n0 h0 ws0 T h F locs cells slots) {x : Int64} {y : Int64} (pc' : Nat) (hd : decode c.code pc = .ok (.land, 1)) (g : Go p e below P T (mkF m pc' Ls (.long (x &&& y) :: st))) (hp : pc + 1 = pc' := by rfl) : Go p e below P T (mkF m pc Ls (.long y :: .long x :: st)) := by
  subst hp; exact Go.by (fun _ q => XS.land S.at S.hx rfl hd rfl q) g
theorem Sd.lor (S : Sd wd EL a0 p l e R s m args below meth c Z own n0 h0 ws0 T h F locs cells slots) {x : Int64} {y : Int64} (pc' : Nat) (hd : decode c.code pc = .ok (.lor, 1)) (g : Go p e below P T (mkF m pc' Ls (.long (x ||| y) :: st))) (hp : pc + 1 = pc' := by rfl) : Go p e below P T (mkF m pc Ls (.long y :: .long x :: st)) := by
  subst hp; exact Go.by (fun _ q => XS.lor S.at S.hx rfl hd rfl q) g
theorem Sd.lxor (S : Sd wd EL a0 p l e R s m args below meth c Z own n0 h0 ws0 T h F locs cells slots) {x : Int64} {y : Int64} (pc' : Nat) (hd : decode c.code pc = .ok (.lxor, 1)) (g : Go p e below P T (mkF m pc' Ls (.long (x ^^^ y) :: st))) (hp : pc + 1 = pc' := by rfl) : Go p e below P T (mkF m pc Ls (.long y :: .long x :: st)) := by
  subst hp; exact Go.by (fun _ q => XS.lxor S.at S.hx rfl hd rfl q) g
theorem Sd.lshl (S : Sd wd EL a0 p l e R s m args below meth c Z own n0 h0 ws0 T h F locs cells slots) {x : Int64} {y : Int32} (pc' : Nat) (hd : decode c.code pc = .ok (.lshl, 1)) (g : Go p e below P T (mkF m pc' Ls (.long (x <<< (y &&& 0x3f).toInt64) :: st))) (hp : pc + 1 = pc' := by rfl) : Go p e below P T (mkF m pc Ls (.int y :: .long x :: st)) := by
  subst hp; exact Go.by (fun _ q => XS.lshl S.at S.hx rfl hd rfl q) g
theorem Sd.lshr (S : Sd wd EL a0 p l e R s m args below meth c Z own n0 h0 ws0 T h F locs cells slots) {x : Int64} {y : Int32} (pc' : Nat) (hd : decode c.code pc = .ok (.lshr, 1)) (g : Go p e below P T (mkF m pc' Ls (.long (x >>> (y &&& 0x3f).toInt64) :: st))) (hp : pc + 1 = pc' := by rfl) : Go p e below P T (mkF m pc Ls (.int y :: .long x :: st)) := by
  subst hp; exact Go.by (fun _ q => XS.lshr S.at S.hx rfl hd rfl q) g
theorem Sd.lushr (S : Sd wd EL a0 p l e R s m args below meth c Z own n0 h0 ws0 T h F locs cells slots) {x : Int64} {y : Int32} (pc' : Nat) (hd : decode c.code pc = .ok (.lushr, 1)) (g : Go p e below P T (mkF m pc' Ls (.long ((x.toUInt64 >>> (y &&& 0x3f).toInt64.toUInt64).toInt64) :: st))) (hp : pc + 1 = pc' := by rfl) : Go p e below P T (mkF m pc Ls (.int y :: .long x :: st)) := by
  subst hp; exact Go.by (fun _ q => XS.lushr S.at S.hx rfl hd rfl q) g
theorem Sd.ldiv (S : Sd wd EL a0 p l e R s m args below meth c Z own n0 h0 ws0 T h F locs cells slots) {x : Int64} {y : Int64} (pc' : Nat) (hd : decode c.code pc = .ok (.ldiv, 1)) (hy : y ≠ 0) (g : Go p e below P T (mkF m pc' Ls (.long (x / y) :: st))) (hp : pc + 1 = pc' := by rfl) : Go p e below P T (mkF m pc Ls (.long y :: .long x :: st)) := by
  subst hp; exact Go.by (fun _ q => XS.ldiv S.at S.hx rfl hd rfl hy q) g
theorem Sd.lrem (S : Sd wd EL a0 p l e R s m args below meth c Z own n0 h0 ws0 T h F locs cells slots) {x : Int64} {y : Int64} (pc' : Nat) (hd : decode c.code pc = .ok (.lrem, 1)) (hy : y ≠ 0) (g : Go p e below P T (mkF m pc' Ls (.long (x - (x / y) * y) :: st))) (hp : pc + 1 = pc' := by rfl) : Go p e below P T (mkF m pc Ls (.long y :: .long x :: st)) := by
  subst hp; exact Go.by (fun _ q => XS.lrem S.at S.hx rfl hd rfl hy q) g
theorem Sd.lcmp (S : Sd wd EL a0 p l e R s m args below meth c Z own n0 h0 ws0 T h F locs cells slots) {x : Int64} {y : Int64} (pc' : Nat) (hd : decode c.code pc = .ok (.lcmp, 1)) (g : Go p e below P T (mkF m pc' Ls (.int (if x > y then 1 else if x = y then 0 else -1) :: st))) (hp : pc + 1 = pc' := by rfl) : Go p e below P T (mkF m pc Ls (.long y :: .long x :: st)) := by
  subst hp; exact Go.by (fun _ q => XS.lcmp S.at S.hx rfl hd rfl q) g
theorem Sd.ineg (S : Sd wd EL a0 p l e R s m args below meth c Z own n0 h0 ws0 T h F locs cells slots) {x : Int32} (pc' : Nat) (hd : decode c.code pc = .ok (.ineg, 1)) (g : Go p e below P T (mkF m pc' Ls (.int (-x) :: st))) (hp : pc + 1 = pc' := by rfl) : Go p e below P T (mkF m pc Ls (.int x :: st)) := by
  subst hp; exact Go.by (fun _ q => XS.ineg S.at S.hx rfl hd rfl q) g
theorem Sd.i2b (S : Sd wd EL a0 p l e R s m args below meth c Z own n0 h0 ws0 T h F locs cells slots) {x : Int32} (pc' : Nat) (hd : decode c.code pc = .ok (.i2b, 1)) (g : Go p e below P T (mkF m pc' Ls (.int (x.toInt8.toInt32) :: st))) (hp : pc + 1 = pc' := by rfl) : Go p e below P T (mkF m pc Ls (.int x :: st)) := by
  subst hp; exact Go.by (fun _ q => XS.i2b S.at S.hx rfl hd rfl q) g
theorem Sd.i2c (S : Sd wd EL a0 p l e R s m args below meth c Z own n0 h0 ws0 T h F locs cells slots) {x : Int32} (pc' : Nat) (hd : decode c.code pc = .ok (.i2c, 1)) (g : Go p e below P T (mkF m pc' Ls (.int (x.toUInt32.toUInt16.toUInt32.toInt32) :: st))) (hp : pc + 1 = pc' := by rfl) : Go p e below P T (mkF m pc Ls (.int x :: st)) := by
  subst hp; exact Go.by (fun _ q => XS.i2c S.at S.hx rfl hd rfl q) g
theorem Sd.i2s (S : Sd wd EL a0 p l e R s m args below meth c Z own n0 h0 ws0 T h F locs cells slots) {x : Int32} (pc' : Nat) (hd : decode c.code pc = .ok (.i2s, 1)) (g : Go p e below P T (mkF m pc' Ls (.int (x.toInt16.toInt32) :: st))) (hp : pc + 1 = pc' := by rfl) : Go p e below P T (mkF m pc Ls (.int x :: st)) := by
  subst hp; exact Go.by (fun _ q => XS.i2s S.at S.hx rfl hd rfl q) g
theorem Sd.i2l (S : Sd wd EL a0 p l e R s m args below meth c Z own n0 h0 ws0 T h F locs cells slots) {x : Int32} (pc' : Nat) (hd : decode c.code pc = .ok (.i2l, 1)) (g : Go p e below P T (mkF m pc' Ls (.long (x.toInt64) :: st))) (hp : pc + 1 = pc' := by rfl) : Go p e below P T (mkF m pc Ls (.int x :: st)) := by
  subst hp; exact Go.by (fun _ q => XS.i2l S.at S.hx rfl hd rfl q) g
theorem Sd.l2i (S : Sd wd EL a0 p l e R s m args below meth c Z own n0 h0 ws0 T h F locs cells slots) {x : Int64} (pc' : Nat) (hd : decode c.code pc = .ok (.l2i, 1)) (g : Go p e below P T (mkF m pc' Ls (.int (x.toInt32) :: st))) (hp : pc + 1 = pc' := by rfl) : Go p e below P T (mkF m pc Ls (.long x :: st)) := by
  subst hp; exact Go.by (fun _ q => XS.l2i S.at S.hx rfl hd rfl q) g
theorem Sd.lneg (S : Sd wd EL a0 p l e R s m args below meth c Z own n0 h0 ws0 T h F locs cells slots) {x : Int64} (pc' : Nat) (hd : decode c.code pc = .ok (.lneg, 1)) (g : Go p e below P T (mkF m pc' Ls (.long (-x) :: st))) (hp : pc + 1 = pc' := by rfl) : Go p e below P T (mkF m pc Ls (.long x :: st)) := by
  subst hp; exact Go.by (fun _ q => XS.lneg S.at S.hx rfl hd rfl q) g
theorem Sd.irem (S : Sd wd EL a0 p l e R s m args below meth c Z own n0 h0 ws0 T h F locs cells slots) {x y : Int32} (pc' : Nat) (hd : decode c.code pc = .ok (.irem, 1)) (hy : y ≠ 0) (g : Go p e below P T (mkF m pc' Ls (.int (x % y) :: st))) (hp : pc + 1 = pc' := by rfl) : Go p e below P T (mkF m pc Ls (.int y :: .int x :: st)) := by
  subst hp
  obtain ⟨A, vm0, k0, hv, X, r⟩ := S
  exact Go.by (fun _ q => iremM X A.1 rfl hd rfl hy q) g
/-! ### steps on the heap -/
theorem Sd.new (S : Sd wd EL a0 p l e R s m args below meth c Z own n0 h0 ws0 T h F locs cells slots) {C : String} {index n : Nat} (pc' : Nat) (hd : decode c.code pc = .ok (.new index, 3)) (w : (Jvm.Cond.classLink own index C).before a0 Z = true) (wi : (Jvm.Cond.instantiable C n).before a0 Z = true) (wz : (Jvm.Cond.initialized C).before a0 Z = true) (hc : cells + 1 ≤ R.cells) (hl : slots + n ≤ R.slots)
    (g : ∀ (T' : State) (h' : Heap) (a : Addr), Sd wd EL a0 p l e R s m args below meth c Z own n0 h0 ws0 T' h' (a :: F) locs (cells + 1) (slots + n) → Ext h h' → a = h.size → Wok n0 h0 ws0 a → Exa Z h' a C → (∀ {O nm d : String} {ty : FieldType}, Laid Z a0 C O nm d → parseFieldDescriptor d = some ty → Fld Z h' a O nm d (defaultValue ty)) → Unt h' a → Go p e below P T' (mkF m pc' Ls (.ref a :: st))) (hp : pc + 3 = pc' := by rfl) :
    Go p e below P T (mkF m pc Ls st) := by
  subst hp
  obtain ⟨A, vm0, k0, hv, X, eT, hS, hk, hZ, hown, O, N, K0, C0, hF⟩ := S
  obtain ⟨T', h', X', e', E', A', D', U', st'⟩ := newO X A.1 hZ hown w wi wz eT (g := mkF m pc Ls st) rfl hd hc hl
  exact Go.by st' (g T' h' h.size (Sd.close A hv X' e' hS hk hZ hown O N K0 C0 hF (Ext.kp E') noWs fun x hx => by
    rcases List.mem_cons.mp hx with rfl | q
    · exact Or.inr ⟨Nat.le_refl _, A'.lt⟩
    · exact Or.inl q) E' rfl (Or.inr K0.1) A' D' U')
theorem Sd.getf (S : Sd wd EL a0 p l e R s m args below meth c Z own n0 h0 ws0 T h F locs cells slots) {R0 O n d host : String} {index : Nat} {a : Addr} {v : Value} (pc' : Nat) (hd : decode c.code pc = .ok (.getfield index, 3)) (w : (Jvm.Cond.fieldLink own index R0 n d).before a0 Z = true ∨ (Jvm.Cond.fieldLinkNest own index R0 n d host).before a0 Z = true) (via : Via Z R0 O n d) (V : Fld Z h a O n d v)
    (g : ∀ (T' : State), Sd wd EL a0 p l e R s m args below meth c Z own n0 h0 ws0 T' h F locs cells slots → Go p e below P T' (mkF m pc' Ls (v :: st))) (hp : pc + 3 = pc' := by rfl) : Go p e below P T (mkF m pc Ls (.ref a :: st)) := by
  subst hp
  obtain ⟨A, vm0, k0, hv, X, eT, r⟩ := S
  obtain ⟨hS, hk, hZ, hown, r'⟩ := id r
  obtain ⟨T', X', e', st'⟩ := getF X A.1 hZ hown w via eT V (g := mkF m pc Ls (.ref a :: st)) rfl rfl hd
  exact Go.by st' (g T' ⟨A, vm0, k0, hv, X', e', r⟩)
theorem Sd.gets (S : Sd wd EL a0 p l e R s m args below meth c Z own n0 h0 ws0 T h F locs cells slots) {R0 O n d host : String} {index : Nat} {v : Value} (pc' : Nat) (hd : decode c.code pc = .ok (.getstatic index, 3)) (w : (Jvm.Cond.fieldLink own index R0 n d).before a0 Z = true ∨ (Jvm.Cond.fieldLinkNest own index R0 n d host).before a0 Z = true) (via : Via Z R0 O n d) (V : Sta Z h O n d v)
    (g : ∀ (T' : State), Sd wd EL a0 p l e R s m args below meth c Z own n0 h0 ws0 T' h F locs cells slots → Go p e below P T' (mkF m pc' Ls (v :: st))) (hp : pc + 3 = pc' := by rfl) : Go p e below P T (mkF m pc Ls st) := by
  subst hp
  obtain ⟨A, vm0, k0, hv, X, eT, r⟩ := S
  obtain ⟨hS, hk, hZ, hown, r'⟩ := id r
  obtain ⟨T', X', e', st'⟩ := getS2 X A.1 hZ hown w via eT V (g := mkF m pc Ls st) rfl hd
  exact Go.by st' (g T' ⟨A, vm0, k0, hv, X', e', r⟩)
/-- no booked literal lies in an object of another class than String and byte[] -/
def Sok (F : List Addr) (a : Addr) (C : String) : Prop := (C ≠ "java/lang/String" ∧ C ≠ "[B") ∨ a ∈ F
theorem Sd.putf (S : Sd wd EL a0 p l e R s m args below meth c Z own n0 h0 ws0 T h F locs cells slots) {R0 O n d host C : String} {index kk : Nat} {a : Addr} {v old : Value} {ty : FieldType} (pc' : Nat) (hd : decode c.code pc = .ok (.putfield index, 3)) (w : (Jvm.Cond.fieldLink own index R0 n d).before a0 Z = true ∨ (Jvm.Cond.fieldLinkNest own index R0 n d host).before a0 Z = true) (via : Via Z R0 O n d)
    (V : Fld Z h a O n d old) (E : Exa Z h a C) (L : (Jvm.Cond.lays C O n d).before a0 Z = true ∨ ((Jvm.Cond.laysFinal C O n d).before a0 Z = true ∧ own = O ∧ meth.name = "<init>")) (wi : (Jvm.Cond.instantiable C kk).before a0 Z = true) (hty : parseFieldDescriptor d = some ty) (hn : narrow ty v = v) (hf : fits ty v = true) (wo : Wok n0 h0 ws0 a) (so : Sok F a C)
    (g : ∀ (T' : State) (h' : Heap) (locs' : List Loc), Sd wd EL a0 p l e R s m args below meth c Z own n0 h0 ws0 T' h' F locs' cells slots → Wr h h' a (Jvm.RoadKit.slotOf Z O n d) v → Go p e below P T' (mkF m pc' Ls st)) (hp : pc + 3 = pc' := by rfl) : Go p e below P T (mkF m pc Ls (v :: .ref a :: st)) := by
  subst hp
  have ge : n0 ≤ a := S.ge wo
  obtain ⟨A, vm0, k0, hv, X, eT, hS, hk, hZ, hown, O0, N, K0, C0, hF⟩ := S
  obtain ⟨T', h', X', e', W', st'⟩ := putF X A.1 hZ hown w via eT V E L wi hty hn hf (g := mkF m pc Ls (v :: .ref a :: st)) rfl rfl hd
  have sf : Safe Z EL vm0 h a := by
    rcases so with q | q
    · exact Safe.exa hZ.alike E q.1 q.2
    · exact (hF a q).1
  exact Go.by st' (g T' h' _ (Sd.close A hv X' e' hS hk hZ hown O0 (Fr.snoc X' N ge) K0 C0 hF (Keep.of_wr W') (fun x hx => by rw [List.mem_singleton.mp hx]; exact ⟨wo, sf⟩) fun x hx => Or.inl hx) W')
theorem Sd.newarr (S : Sd wd EL a0 p l e R s m args below meth c Z own n0 h0 ws0 T h F locs cells slots) {aty : ArrayType} {n : Int32} (pc' : Nat) (cap : Nat) (hd : decode c.code pc = .ok (.newarray aty, 2)) (w : (Jvm.Cond.arrayClass (newarray.typeOf aty)).before a0 Z = true) (hn : ¬ n < 0) (hcap : n.toNatClampNeg ≤ cap) (hb : cap * 8 ≤ 536870912) (hc : cells + 1 ≤ R.cells) (hl : slots + cap ≤ R.slots)
    (g : ∀ (T' : State) (h' : Heap) (a : Addr) (k : ClassId), Sd wd EL a0 p l e R s m args below meth c Z own n0 h0 ws0 T' h' (a :: F) locs (cells + 1) (slots + cap) → Ext h h' → a = h.size → Wok n0 h0 ws0 a → Arv Z h' a k (newarray.typeOf aty) n [] (defaultValue (newarray.typeOf aty)) → Go p e below P T' (mkF m pc' Ls (.ref a :: st))) (hp : pc + 2 = pc' := by rfl) :
    Go p e below P T (mkF m pc Ls (.int n :: st)) := by
  subst hp
  obtain ⟨A, vm0, k0, hv, X, eT, hS, hk, hZ, hown, O, N, K0, C0, hF⟩ := S
  obtain ⟨T', h', cA, X', e', E', A', st'⟩ := newP X A.1 hZ w eT (g := mkF m pc Ls (.int n :: st)) rfl hd rfl hn hcap hb hc hl
  exact Go.by st' (g T' h' h.size cA (Sd.close A hv X' e' hS hk hZ hown O N K0 C0 hF (Ext.kp E') noWs fun x hx => by
    rcases List.mem_cons.mp hx with rfl | q
    · exact Or.inr ⟨Nat.le_refl _, A'.lt⟩
    · exact Or.inl q) E' rfl (Or.inr K0.1) (Arv.new A' hn))
theorem Sd.castore (S : Sd wd EL a0 p l e R s m args below meth c Z own n0 h0 ws0 T h F locs cells slots) {a : Addr} {k : ClassId} {N : Int32} {vs : List Value} {dv : Value} {j x : Int32} (pc' i : Nat) (hd : decode c.code pc = .ok (.castore, 1)) (V : Arv Z h a k .char N vs dv) (hj : ¬ j < 0 ∧ j < N) (hi : j.toNatClampNeg = i) (hlt : i < vs.length) (wo : Wok n0 h0 ws0 a)
    (g : ∀ (T' : State) (h' : Heap) (locs' : List Loc), Sd wd EL a0 p l e R s m args below meth c Z own n0 h0 ws0 T' h' F locs' cells slots → Wr h h' a j.toNatClampNeg (.int (nar .char x)) → Arv Z h' a k .char N (vs.set i (.int (nar .char x))) dv → Go p e below P T' (mkF m pc' Ls st)) (hp : pc + 1 = pc' := by rfl) : Go p e below P T (mkF m pc Ls (.int x :: .int j :: .ref a :: st)) := by
  subst hp
  have ge : n0 ≤ a := S.ge wo
  obtain ⟨A, vm0, k0, hv, X, eT, hS, hk, hZ, hown, O0, N0, K0, C0, hF⟩ := S
  obtain ⟨cl, Ar, q, S', M, H, G⟩ := V
  obtain ⟨T', h', X', e', W', st'⟩ := stC X A.1 hZ eT Ar (x := x) (inb_of S' hj) (g := mkF m pc Ls (.int x :: .int j :: .ref a :: st)) rfl rfl hd
  exact Go.by st' (g T' h' _ (Sd.close A hv X' e' hS hk hZ hown O0 (Fr.snoc X' N0 ge) K0 C0 hF (Keep.of_wr W') (fun y hy => by rw [List.mem_singleton.mp hy]; exact ⟨wo, Safe.arr hZ.alike Ar (by decide)⟩) fun y hy => Or.inl hy) W' (Arv.set Ar q S' M H G (fits_nar_char _) W' i hi hlt))
theorem Sd.alen (S : Sd wd EL a0 p l e R s m args below meth c Z own n0 h0 ws0 T h F locs cells slots) {a : Addr} {k : ClassId} {ty : FieldType} {N : Int32} {vs : List Value} {dv : Value} (pc' : Nat) (hd : decode c.code pc = .ok (.arraylength, 1)) (V : Arv Z h a k ty N vs dv) (g : Go p e below P T (mkF m pc' Ls (.int N :: st))) (hp : pc + 1 = pc' := by rfl) : Go p e below P T (mkF m pc Ls (.ref a :: st)) := by
  subst hp
  obtain ⟨A, vm0, k0, hv, X, eT, hS, hk, hZ, r⟩ := S
  obtain ⟨cl, Ar, q, S', M, H, G⟩ := V
  rw [← len_of S' M] at g
  exact Go.by (fun t z => X.arraylength A.1 (by rw [eT]; exact Ar.1) (State.isArrayOf_alike hZ.alike Ar.2.1) (g := mkF m pc Ls (.ref a :: st)) rfl rfl hd t z) g
theorem Sd.caload (S : Sd wd EL a0 p l e R s m args below meth c Z own n0 h0 ws0 T h F locs cells slots) {a : Addr} {k : ClassId} {N : Int32} {vs : List Value} {dv v : Value} {j : Int32} (pc' : Nat) (hd : decode c.code pc = .ok (.caload, 1)) (V : Arv Z h a k .char N vs dv) (hj : ¬ j < 0 ∧ j < N) (hv' : vs.getD j.toNatClampNeg dv = v) (g : Go p e below P T (mkF m pc' Ls (v :: st))) (hp : pc + 1 = pc' := by rfl) : Go p e below P T (mkF m pc Ls (.int j :: .ref a :: st)) := by
  subst hp
  obtain ⟨A, vm0, k0, hv, X, eT, hS, hk, hZ, r⟩ := S
  obtain ⟨cl, Ar, q, S', M, H, G⟩ := V
  exact Go.by (fun t z => X.caload A.1 (by rw [eT]; exact Ar.1) (State.isArrayOf_alike hZ.alike Ar.2.1) Ar.2.2 (inb_of S' hj) (H.at (inb_of S' hj) hv') (g := mkF m pc Ls (.int j :: .ref a :: st)) rfl rfl hd t z) g
theorem Sd.baload (S : Sd wd EL a0 p l e R s m args below meth c Z own n0 h0 ws0 T h F locs cells slots) {a : Addr} {k : ClassId} {N : Int32} {vs : List Value} {dv v : Value} {j : Int32} (pc' : Nat) (hd : decode c.code pc = .ok (.baload, 1)) (V : Arv Z h a k .byte N vs dv) (hj : ¬ j < 0 ∧ j < N) (hv' : vs.getD j.toNatClampNeg dv = v) (g : Go p e below P T (mkF m pc' Ls (v :: st))) (hp : pc + 1 = pc' := by rfl) : Go p e below P T (mkF m pc Ls (.int j :: .ref a :: st)) := by
  subst hp
  obtain ⟨A, vm0, k0, hv, X, eT, hS, hk, hZ, r⟩ := S
  obtain ⟨cl, Ar, q, S', M, H, G⟩ := V
  exact Go.by (fun t z => X.baloadBytes A.1 (by rw [eT]; exact Ar.1) (State.isArrayOf_alike hZ.alike Ar.2.1) Ar.2.2 (inb_of S' hj) (H.at (inb_of S' hj) hv') (g := mkF m pc Ls (.int j :: .ref a :: st)) rfl rfl hd t z) g
theorem Sd.iaload (S : Sd wd EL a0 p l e R s m args below meth c Z own n0 h0 ws0 T h F locs cells slots) {a : Addr} {k : ClassId} {N : Int32} {vs : List Value} {dv v : Value} {j : Int32} (pc' : Nat) (hd : decode c.code pc = .ok (.iaload, 1)) (V : Arv Z h a k .int N vs dv) (hj : ¬ j < 0 ∧ j < N) (hv' : vs.getD j.toNatClampNeg dv = v) (g : Go p e below P T (mkF m pc' Ls (v :: st))) (hp : pc + 1 = pc' := by rfl) : Go p e below P T (mkF m pc Ls (.int j :: .ref a :: st)) := by
  subst hp
  obtain ⟨A, vm0, k0, hv, X, eT, hS, hk, hZ, r⟩ := S
  obtain ⟨cl, Ar, q, S', M, H, G⟩ := V
  exact Go.by (fun t z => X.iaload A.1 (by rw [eT]; exact Ar.1) (State.isArrayOf_alike hZ.alike Ar.2.1) Ar.2.2 (inb_of S' hj) (H.at (inb_of S' hj) hv') (g := mkF m pc Ls (.int j :: .ref a :: st)) rfl rfl hd t z) g
theorem Sd.ldcI (S : Sd wd EL a0 p l e R s m args below meth c Z own n0 h0 ws0 T h F locs cells slots) {index : Nat} {v : Int32} (pc' : Nat) (hd : decode c.code pc = .ok (.ldc index, 2)) (w : (Jvm.Cond.constant own index v).before a0 Z = true) (g : Go p e below P T (mkF m pc' Ls (.int v :: st))) (hp : pc + 2 = pc' := by rfl) : Go p e below P T (mkF m pc Ls st) := by
  subst hp
  obtain ⟨A, vm0, k0, hv, X, eT, hS, hk, hZ, hown, r⟩ := S
  exact Go.by (fun t z => X.ldcInt A.1 hown (mvT (s := s.setVm vm0) hZ w) (g := mkF m pc Ls st) rfl hd t z) g
theorem Sd.ldc2J (S : Sd wd EL a0 p l e R s m args below meth c Z own n0 h0 ws0 T h F locs cells slots) {index : Nat} {v : Int64} (pc' : Nat) (hd : decode c.code pc = .ok (.ldc2_w index, 3)) (w : (Jvm.Cond.constantLong own index v).before a0 Z = true) (g : Go p e below P T (mkF m pc' Ls (.long v :: st))) (hp : pc + 3 = pc' := by rfl) : Go p e below P T (mkF m pc Ls st) := by
  subst hp
  obtain ⟨A, vm0, k0, hv, X, eT, hS, hk, hZ, hown, r⟩ := S
  exact Go.by (fun t z => X.ldc2Long A.1 hown (mvT (s := s.setVm vm0) hZ w) (g := mkF m pc Ls st) rfl hd t z) g
theorem Sd.cast (S : Sd wd EL a0 p l e R s m args below meth c Z own n0 h0 ws0 T h F locs cells slots) {K : String} {index : Nat} {a : Addr} (pc' : Nat) (hd : decode c.code pc = .ok (.checkcast index, 3)) (w : (Jvm.Cond.classLink own index K).before a0 Z = true) (I : Ins Z h a K true)
    (g : ∀ (T' : State), Sd wd EL a0 p l e R s m args below meth c Z own n0 h0 ws0 T' h F locs cells slots → Go p e below P T' (mkF m pc' Ls (.ref a :: st))) (hp : pc + 3 = pc' := by rfl) : Go p e below P T (mkF m pc Ls (.ref a :: st)) := by
  subst hp
  obtain ⟨A, vm0, k0, hv, X, eT, r⟩ := S
  obtain ⟨hS, hk, hZ, hown, r'⟩ := id r
  obtain ⟨T', X', e', st'⟩ := castY X A.1 hZ hown w eT I (g := mkF m pc Ls (.ref a :: st)) rfl rfl hd
  exact Go.by st' (g T' ⟨A, vm0, k0, hv, X', e', r⟩)
theorem Sd.castNull (S : Sd wd EL a0 p l e R s m args below meth c Z own n0 h0 ws0 T h F locs cells slots) {index : Nat} (pc' : Nat) (hd : decode c.code pc = .ok (.checkcast index, 3)) (g : Go p e below P T (mkF m pc' Ls (.null :: st))) (hp : pc + 3 = pc' := by rfl) : Go p e below P T (mkF m pc Ls (.null :: st)) := by
  subst hp
  obtain ⟨A, vm0, k0, hv, X, r⟩ := S
  exact Go.by (fun t z => X.checkcastNull A.1 (g := mkF m pc Ls (.null :: st)) rfl rfl hd t z) g
theorem Sd.instY (S : Sd wd EL a0 p l e R s m args below meth c Z own n0 h0 ws0 T h F locs cells slots) {K : String} {index : Nat} {a : Addr} (pc' : Nat) (hd : decode c.code pc = .ok (.instanceof index, 3)) (w : (Jvm.Cond.classLink own index K).before a0 Z = true) (I : Ins Z h a K true)
    (g : ∀ (T' : State), Sd wd EL a0 p l e R s m args below meth c Z own n0 h0 ws0 T' h F locs cells slots → Go p e below P T' (mkF m pc' Ls (.int 1 :: st))) (hp : pc + 3 = pc' := by rfl) : Go p e below P T (mkF m pc Ls (.ref a :: st)) := by
  subst hp
  obtain ⟨A, vm0, k0, hv, X, eT, r⟩ := S
  obtain ⟨hS, hk, hZ, hown, r'⟩ := id r
  obtain ⟨T', X', e', st'⟩ := RoadKit.instY X A.1 hZ hown w eT I (g := mkF m pc Ls (.ref a :: st)) rfl rfl hd
  exact Go.by st' (g T' ⟨A, vm0, k0, hv, X', e', r⟩)
theorem Sd.instNo (S : Sd wd EL a0 p l e R s m args below meth c Z own n0 h0 ws0 T h F locs cells slots) {K C : String} {index : Nat} {a : Addr} (pc' : Nat) (hd : decode c.code pc = .ok (.instanceof index, 3)) (w : (Jvm.Cond.classLink own index K).before a0 Z = true) (E : Exa Z h a C) (I : ∃ c t, Z.vm.findClass C = some c ∧ Z.vm.findClass K = some t ∧ Z.vm.assignable c t = false)
    (g : ∀ (T' : State), Sd wd EL a0 p l e R s m args below meth c Z own n0 h0 ws0 T' h F locs cells slots → Go p e below P T' (mkF m pc' Ls (.int 0 :: st))) (hp : pc + 3 = pc' := by rfl) : Go p e below P T (mkF m pc Ls (.ref a :: st)) := by
  subst hp
  obtain ⟨A, vm0, k0, hv, X, eT, r⟩ := S
  obtain ⟨hS, hk, hZ, hown, r'⟩ := id r
  obtain ⟨T', X', e', st'⟩ := RoadKit.instNo X A.1 hZ hown w eT E I (g := mkF m pc Ls (.ref a :: st)) rfl rfl hd
  exact Go.by st' (g T' ⟨A, vm0, k0, hv, X', e', r⟩)
theorem Sd.initO (S : Sd wd EL a0 p l e R s m args below meth c Z own n0 h0 ws0 T h F locs cells slots) {idx W : Nat} {a : Addr} (pc' : Nat) (hd : decode c.code pc = .ok (.invokespecial idx, 3)) (hml : Ls.size = c.maxLocals) (w1 : (Jvm.Cond.methodLink own idx Lib.objectInit).before a0 Z = true) (w2 : (Jvm.Cond.instanceMethod Lib.objectInit).before a0 Z = true) (w3 : (Jvm.Cond.code Lib.objectInit ⟨#[0xb1]⟩ 1 none).before a0 Z = true)
    (hf : 1 ≤ R.frames) (hW : (st.map fun v => v.category).sum ≤ W) (hl : W + 12 ≤ R.locals)
    (g : ∀ (T' : State), Sd wd EL a0 p l e R s m args below meth c Z own n0 h0 ws0 T' h F locs cells slots → Go p e below P T' (mkF m pc' Ls st)) (hp : pc + 3 = pc' := by rfl) : Go p e below P T (mkF m pc Ls (.ref a :: st)) := by
  subst hp
  obtain ⟨A, vm0, k0, hv, X, eT, r⟩ := S
  obtain ⟨hS, hk, hZ, hown, r'⟩ := id r
  obtain ⟨T', X', e', st'⟩ := RoadKit.initO X A.1 hZ hown w1 w2 w3 eT (g := mkF m pc Ls (.ref a :: st)) rfl hml rfl hd hf (W := W) (by show 2 * 0 + _ ≤ _; omega) hl
  exact Go.by st' (g T' ⟨A, vm0, k0, hv, X', e', r⟩)
/-- 'ldc' of a String constant, opaque (a wide body) -/
theorem Sd.ldcO (S : Sd true EL a0 p l e R s m args below meth c Z own n0 h0 ws0 T h F locs cells slots) {index n : Nat} {text : String} (pc' : Nat) (hd : decode c.code pc = .ok (.ldc index, 2)) (w : (Jvm.Cond.stringLink own index text).before a0 Z = true) (wS : ∀ a ∈ Bundle.stringAtoms, a.before a0 Z = true) (hn : 4 * text.toList.length ≤ n) (hbig : n ≤ 536870912) (hc : cells + 2 ≤ R.cells) (hl : slots + (n + 4) ≤ R.slots)
    (g : ∀ (T' : State) (h' : Heap) (a : Addr), Sd true EL a0 p l e R s m args below meth c Z own n0 h0 ws0 T' h' F locs (cells + 2) (slots + (n + 4)) → Ext h h' → Go p e below P T' (mkF m pc' Ls (.ref a :: st))) (hp : pc + 2 = pc' := by rfl) : Go p e below P T (mkF m pc Ls st) := by
  subst hp
  obtain ⟨A, vm0, k0, hv, X, eT, hS, hk, hZ, hown, O, N, K0, C0, hF⟩ := S
  obtain ⟨a, T', h', k1, X', e', E, hS', hk', hZ', hown', C', -, st'⟩ := ldcOH X A.1 hZ hown w wS eT hS hk A.2.2.1 C0.1 (g := mkF m pc Ls st) rfl hd hn hbig hc hl
  exact Go.by st' (g T' h' a ⟨A, T'.vm, k1, nofun, X', e', hS', hk', hZ', hown', O.ext E, N, K0.ext E, C0.trans C', fun x hx => ⟨C'.safe (hF x hx).2 (hF x hx).1, Nat.lt_of_lt_of_le (hF x hx).2 E.1⟩⟩ E)
/-- 'ldc' of a String constant of EL, read (a wide body) -/
theorem Sd.ldcR (S : Sd true EL a0 p l e R s m args below meth c Z own n0 h0 ws0 T h F locs cells slots) {index n : Nat} {text : String} {vs : List Value} {z : Int32} (pc' : Nat) (hd : decode c.code pc = .ok (.ldc index, 2)) (w : (Jvm.Cond.stringLink own index text).before a0 Z = true) (wS : ∀ a ∈ Bundle.stringAtoms, a.before a0 Z = true) (hmem : (own, index) ∈ EL) (ht : (∀ c ∈ text.toList, c.toNat < 256) ∧ text.toList.map (fun c => Value.int (Jvm.Lit.byteI c.toNat.toUInt16)) = vs) (hz : ¬ z < 0) (hlen : z.toNatClampNeg = vs.length)
    (hn : 4 * text.toList.length ≤ n) (hbig : n ≤ 536870912) (hc : cells + 2 ≤ R.cells) (hl : slots + (n + 4) ≤ R.slots)
    (g : ∀ (T' : State) (h' : Heap) (a b : Addr) (k : ClassId), Sd true EL a0 p l e R s m args below meth c Z own n0 h0 ws0 T' h' F locs (cells + 2) (slots + (n + 4)) → Ext h h' → Exa Z h' a "java/lang/String" → Fld Z h' a "java/lang/String" "coder" "B" (.int 0) → Fld Z h' a "java/lang/String" "value" "[B" (.ref b) → Arv Z h' b k .byte z vs (.int 0) → (∀ x ∈ F, x ≠ a ∧ x ≠ b) → Go p e below P T' (mkF m pc' Ls (.ref a :: st))) (hp : pc + 2 = pc' := by rfl) : Go p e below P T (mkF m pc Ls st) := by
  subst hp
  obtain ⟨A, vm0, k0, hv, X, eT, hS, hk, hZ, hown, O, N, K0, C0, hF⟩ := S
  obtain ⟨a, T', h', k1, b, k, X', e', E, hS', hk', hZ', hown', g1, g2, g3, g4, -, -, C', -, hne, st'⟩ := ldcCH X A.1 hZ hown w wS eT hS hk A.2.2.1 hmem C0.1 ht hz hlen (g := mkF m pc Ls st) rfl hd hn hbig hc hl
  have sf : ∀ x ∈ F, Safe Z EL T'.vm h' x ∧ x < h'.size := fun x hx => ⟨C'.safe (hF x hx).2 (hF x hx).1, Nat.lt_of_lt_of_le (hF x hx).2 E.1⟩
  exact Go.by st' (g T' h' a b k ⟨A, T'.vm, k1, nofun, X', e', hS', hk', hZ', hown', O.ext E, N, K0.ext E, C0.trans C', sf⟩ E g1 g2 g3 g4 fun x hx => hne x (sf x hx).1)
/-! ### the end of a body -/
theorem Sd.endB (S : Sd wd EL a0 p l e R s m args below meth c Z own n0 h0 ws0 T h F locs cells slots) {v : Option Value} (hv : meth.sig.returnType = none → v = none) {rc rs : Nat} (hc : cells ≤ rc) (hs : slots ≤ rs) {Q : Option Value → Heap → Prop} (q : Q v h) :
    ∃ fs, (∀ (f : JFrame) (acts : List Action), f.method = m → f.locked = none → f.entered = [] → (doReturn e (T.setTop f) acts v).1 = T.setFrames fs) ∧ (T.setFrames fs).status = .running ∧ Ended (T.setFrames fs) below (.returned v) ∧ Done wd EL Z s n0 h0 ws0 rc rs Q (.returned v) (T.setFrames fs) := by
  obtain ⟨A, vm0, k0, hw, X, eT, hS, hk, hZ, hown, O, N, K0, C0, hF⟩ := S
  have hh : ∀ fs, (T.setFrames fs).heap = h := fun fs => eT
  cases wd with
  | false =>
    obtain rfl := hw rfl
    have X : Stand p l e R s m args below meth c T locs cells slots := X
    obtain ⟨fs, h1, h2, h3, hW, hsame⟩ := X.leave hv A.2.1
    exact ⟨fs, h1, h2, h3, v, locs, rfl, ⟨by rw [hh]; exact q, by rw [hh]; exact K0, N⟩, ⟨_, rfl⟩, hW, hsame.mono hc hs⟩
  | true =>
    obtain ⟨fs, h1, h2, h3, e1, e2, e3, e4⟩ := X.leaveW hS (by rw [eT]; exact hk) hv A.2.1
    refine ⟨fs, h1, h2, h3, v, locs, rfl, ⟨by rw [hh]; exact q, by rw [hh]; exact K0, N⟩, ?_, e1, e2, e3, e4.mono hc hs⟩
    have C1 := C0.trans (CHv.at X hZ A.2.2.1 C0.1)
    show CHr Z EL s.vm s.heap T.vm (T.setFrames fs).heap
    rw [hh]; exact C1
theorem Sd.ret0 (S : Sd wd EL a0 p l e R s m args below meth c Z own n0 h0 ws0 T h F locs cells slots) {rc rs : Nat} {Q : Option Value → Heap → Prop} (hd : decode c.code pc = .ok (.return_, 1)) (hret : meth.sig.returnType = none) (hc : cells ≤ rc) (hs : slots ≤ rs) (q : Q none h) : Go p e below (Done wd EL Z s n0 h0 ws0 rc rs Q) T (mkF m pc Ls []) := by
  obtain ⟨fs, h1, h2, h3, h4⟩ := S.endB (v := none) (fun _ => rfl) hc hs q
  obtain ⟨A, vm0, k0, hw, X, r⟩ := S
  exact ⟨_, _, X.returnOut A.1 hret hd h1, h2, h3, h4⟩
theorem Sd.retV (S : Sd wd EL a0 p l e R s m args below meth c Z own n0 h0 ws0 T h F locs cells slots) {rc rs : Nat} {Q : Option Value → Heap → Prop} {w : Value} {t : FieldType} {i : Instr} (hd : decode c.code pc = .ok (i, 1)) (hret : meth.sig.returnType = some t) (hn : narrow t w = w)
    (hi : (i = .ireturn ∧ (t = .int ∨ t = .boolean ∨ t = .byte ∨ t = .char ∨ t = .short) ∧ ∃ z, w = .int z) ∨ (i = .lreturn ∧ t = .long ∧ ∃ z, w = .long z) ∨ (i = .dreturn ∧ t = .double ∧ ∃ z, w = .double z) ∨ (i = .freturn ∧ t = .float ∧ ∃ z, w = .float z) ∨ (i = .areturn ∧ t.isReference = true ∧ w.isRef = true))
    (hc : cells ≤ rc) (hs : slots ≤ rs) (q : Q (some w) h) : Go p e below (Done wd EL Z s n0 h0 ws0 rc rs Q) T (mkF m pc Ls (w :: st)) := by
  obtain ⟨fs, h1, h2, h3, h4⟩ := S.endB (v := some w) (fun z => by rw [hret] at z; cases z) hc hs q
  obtain ⟨A, vm0, k0, hw, X, r⟩ := S
  exact ⟨_, _, retOut X A.1 hret hn hi hd h1, h2, h3, h4⟩
theorem Sd.retI (S : Sd wd EL a0 p l e R s m args below meth c Z own n0 h0 ws0 T h F locs cells slots) {rc rs : Nat} {Q : Option Value → Heap → Prop} {z : Int32} (hd : decode c.code pc = .ok (.ireturn, 1)) (hret : meth.sig.returnType = some .int) (hc : cells ≤ rc) (hs : slots ≤ rs) (q : Q (some (.int z)) h) : Go p e below (Done wd EL Z s n0 h0 ws0 rc rs Q) T (mkF m pc Ls (.int z :: st)) :=
  S.retV hd hret rfl (Or.inl ⟨rfl, Or.inl rfl, z, rfl⟩) hc hs q
/-- the return of a boolean, byte, char or short: what the frame holds is narrowed -/
theorem Sd.retN (S : Sd wd EL a0 p l e R s m args below meth c Z own n0 h0 ws0 T h F locs cells slots) {rc rs : Nat} {Q : Option Value → Heap → Prop} {z : Int32} {t : FieldType} (hd : decode c.code pc = .ok (.ireturn, 1)) (hret : meth.sig.returnType = some t) (ht : t = .boolean ∨ t = .byte ∨ t = .char ∨ t = .short) (hc : cells ≤ rc) (hs : slots ≤ rs) (q : Q (some (.int (nar t z))) h) : Go p e below (Done wd EL Z s n0 h0 ws0 rc rs Q) T (mkF m pc Ls (.int z :: st)) := by
  obtain ⟨fs, h1, h2, h3, h4⟩ := S.endB (v := some (.int (nar t z))) (fun y => by rw [hret] at y; cases y) hc hs q
  obtain ⟨A, vm0, k0, hw, X, r⟩ := S
  exact ⟨_, _, RoadKit.retN X A.1 hret ht hd h1, h2, h3, h4⟩
theorem Sd.retJ (S : Sd wd EL a0 p l e R s m args below meth c Z own n0 h0 ws0 T h F locs cells slots) {rc rs : Nat} {Q : Option Value → Heap → Prop} {z : Int64} (hd : decode c.code pc = .ok (.lreturn, 1)) (hret : meth.sig.returnType = some .long) (hc : cells ≤ rc) (hs : slots ≤ rs) (q : Q (some (.long z)) h) : Go p e below (Done wd EL Z s n0 h0 ws0 rc rs Q) T (mkF m pc Ls (.long z :: st)) :=
  S.retV hd hret rfl (Or.inr (Or.inl ⟨rfl, rfl, z, rfl⟩)) hc hs q
theorem Sd.retA (S : Sd wd EL a0 p l e R s m args below meth c Z own n0 h0 ws0 T h F locs cells slots) {rc rs : Nat} {Q : Option Value → Heap → Prop} {w : Value} {t : FieldType} (hd : decode c.code pc = .ok (.areturn, 1)) (hret : meth.sig.returnType = some t) (ht : t.isReference = true) (hw : w.isRef = true) (hc : cells ≤ rc) (hs : slots ≤ rs) (q : Q (some w) h) : Go p e below (Done wd EL Z s n0 h0 ws0 rc rs Q) T (mkF m pc Ls (w :: st)) :=
  S.retV hd hret (Jvm.narrow_isRef _ hw) (Or.inr (Or.inr (Or.inr (Or.inr ⟨rfl, ht, hw⟩)))) hc hs q
/-! ### contracts -/
/-- a body that interns nothing -/
def Con (l : Launch) (Z : State) (n0 : Nat) (y : MethodName) (bytes : ByteArray) (maxL : Nat) (ret : Option FieldType) (cs : List Jvm.Cond) (rm : Room) (as' : Array Value) (h : Heap) (ws : List Addr) (Q : Option Value → Heap → Prop) : Prop :=
  MetFree l y (head1 (Jvm.Cond.code y bytes maxL ret :: cs) rm) (fun a U => a = as' ∧ Z.Warmed39 U.vm ∧ U.heap = h) (fun _ _ _ _ _ => True) (fun _ U o U' => ∃ v L, o = .returned v ∧ (Q v U'.heap ∧ Keep h U'.heap ws ∧ Fr n0 L) ∧ FrameEnd U o U' L rm.cells rm.slots)
/-- a body that may intern: F0: what must hold no booked literal -/
def ConS (EL : List (String × Nat)) (l : Launch) (Z : State) (n0 : Nat) (y : MethodName) (bytes : ByteArray) (maxL : Nat) (ret : Option FieldType) (cs : List Jvm.Cond) (rm : Room) (as' : Array Value) (h : Heap) (ws F0 : List Addr) (Q : Option Value → Heap → Prop) : Prop :=
  MetFree l y (head1 (Jvm.Cond.code y bytes maxL ret :: cs) rm) (fun a U => a = as' ∧ Z.Warmed39 U.vm ∧ U.heap = h ∧ CHv Z EL U.vm h ∧ ∀ x ∈ F0, Safe Z EL U.vm h x ∧ x < h.size) (fun _ _ _ _ _ => True) (fun _ U o U' => ∃ v L, o = .returned v ∧ (Q v U'.heap ∧ Keep h U'.heap ws ∧ Fr n0 L) ∧ CHr Z EL U.vm U.heap U'.vm U'.heap ∧ ReturnedEndW U o U' L rm.cells rm.slots)
theorem chv0 {vm : Vm} : CHv Z [] vm h := fun _ q => nomatch q
theorem safe0 {vm : Vm} {x : Addr} : Safe Z [] vm h x := fun ⟨_, q, _⟩ => nomatch q
theorem Con.of {y : MethodName} {bytes : ByteArray} {maxL : Nat} {ret : Option FieldType} {cs : List Jvm.Cond} {rm : Room} {as' : Array Value} {Q : Option Value → Heap → Prop} (a0 : Array Value) (hn : plainFor y = true) (hO : Old Z n0 h) (hws : ∀ x ∈ ws, n0 ≤ x) (F0 : List Addr) (hF0 : ∀ x ∈ F0, x < h.size)
    (body : ∀ (p : Program) (e : Env) (s : State) (m : MethodId) (below : List Frame) (meth : Method) (c : Code) (T : State), Sd false [] a0 p l e rm s m as' below meth c Z y.cls n0 h ws T h F0 [] 0 0 → c.code = bytes → c.maxLocals = maxL → meth.sig.returnType = ret → meth.name = y.name → Go p e below (Done false [] Z s n0 h ws rm.cells rm.slots Q) T (entryFrame m as' maxL)) :
    Con l Z n0 y bytes maxL ret cs rm as' h ws Q := by
  refine MetFree.of_bodySF hn hisR ?_
  intro p e s m args below meth c s₁ Bd hml0 hP hK
  obtain ⟨rfl, hZ, rfl⟩ := hP
  have e0 : s₁.heap = s.heap := by rw [Bd.state]; rfl
  obtain ⟨s₂, o, h1, h2, h3, h4⟩ := body p e s m below meth c s₁ ⟨⟨Bd.exec, Bd.notSynchronized, EW.nil, rfl, hO, hws⟩, s.vm, 0, fun _ => rfl, (Stand.of_body Bd : Stand p l e rm s m args below meth c s₁ [] 0 0), e0, State.WarmedH.since (State.WarmedH.refl s) 0, Nat.zero_le _, hZ, findClass_of_methodNamed Bd.named, hO, Fr.nil n0, Keep.refl _ _, CHr.refl chv0, fun x hx => ⟨safe0, hF0 x hx⟩⟩ Bd.bytes hml0 Bd.returns (name_of_methodNamed Bd.named Bd.method).1
  exact ⟨s₂, o, h1, h2, h3, h4⟩
theorem ConS.of {y : MethodName} {bytes : ByteArray} {maxL : Nat} {ret : Option FieldType} {cs : List Jvm.Cond} {rm : Room} {as' : Array Value} {F0 : List Addr} {Q : Option Value → Heap → Prop} (hn : plainFor y = true) (hO : Old Z n0 h) (hEL : EW Z a0 EL) (hws : ∀ x ∈ ws, n0 ≤ x)
    (body : ∀ (p : Program) (e : Env) (s : State) (m : MethodId) (below : List Frame) (meth : Method) (c : Code) (T : State), Sd true EL a0 p l e rm s m as' below meth c Z y.cls n0 h ws T h F0 [] 0 0 → c.code = bytes → c.maxLocals = maxL → meth.sig.returnType = ret → meth.name = y.name → Go p e below (Done true EL Z s n0 h ws rm.cells rm.slots Q) T (entryFrame m as' maxL)) :
    ConS EL l Z n0 y bytes maxL ret cs rm as' h ws F0 Q := by
  refine MetFree.of_bodySF hn hisR ?_
  intro p e s m args below meth c s₁ Bd hml0 hP hK
  obtain ⟨rfl, hZ, rfl, hC, hF⟩ := hP
  have e0 : s₁.heap = s.heap := by rw [Bd.state]; rfl
  obtain ⟨s₂, o, h1, h2, h3, h4⟩ := body p e s m below meth c s₁ ⟨⟨Bd.exec, Bd.notSynchronized, hEL, rfl, hO, hws⟩, s.vm, 0, fun _ => rfl, (Stand.of_body Bd : Stand p l e rm s m args below meth c s₁ [] 0 0), e0, State.WarmedH.since (State.WarmedH.refl s) 0, Nat.zero_le _, hZ, findClass_of_methodNamed Bd.named, hO, Fr.nil n0, Keep.refl _ _, CHr.refl hC, hF⟩ Bd.bytes hml0 Bd.returns (name_of_methodNamed Bd.named Bd.method).1
  exact ⟨s₂, o, h1, h2, h3, h4⟩
/-! ### who pays a call -/
def Pay (l : Launch) (R : Room) (p : Program) (e : Env) (below : List Frame) (args : Array Value) (Z s : State) (n0 : Nat) (y : MethodName) (len W : Nat) (as' : Array Value) (h : Heap) (ws : List Addr) (rc rs : Nat) (Q : Option Value → Heap → Prop) : Prop :=
  ∀ s' : State, Z.Warmed39 s'.vm → s.vm.Alike s'.vm → Back l R p e below s' args y len W (fun A a => a = as' ∧ A.U.heap = h ∧ A.cells + rc ≤ R.cells ∧ A.slots + rs ≤ R.slots) (fun A _ v B => ∃ L, (Q v B.U.heap ∧ Keep h B.U.heap ws ∧ Fr n0 L) ∧ B.locs = A.locs ++ L ∧ B.cells = A.cells + rc ∧ B.slots = A.slots + rs)
def PayS (EL : List (String × Nat)) (a0 : Array Value) (l : Launch) (R : Room) (p : Program) (e : Env) (below : List Frame) (args : Array Value) (Z : State) (n0 : Nat) (y : MethodName) (len W : Nat) (as' : Array Value) (h : Heap) (ws F0 : List Addr) (rc rs : Nat) (Q : Option Value → Heap → Prop) : Prop :=
  ∀ (s : State) (vm0 : Vm), Z.Warmed39 vm0 → EW Z a0 EL → CHv Z EL vm0 h → (∀ x ∈ F0, Safe Z EL vm0 h x ∧ x < h.size) → BackS l R p e below (s.setVm vm0) args y len W (fun A a => a = as' ∧ A.U.heap = h ∧ A.cells + rc ≤ R.cells ∧ A.slots + rs ≤ R.slots)
    (fun A _ v B => ∃ L, (Q v B.U.heap ∧ Keep h B.U.heap ws ∧ Fr n0 L) ∧ B.locs = A.locs ++ L ∧ B.cells = A.cells + rc ∧ B.slots = A.slots + rs ∧ CHr Z EL vm0 h B.U.vm B.U.heap)
variable {y : MethodName} {bytes : ByteArray} {maxL : Nat} {ret : Option FieldType} {cs : List Jvm.Cond} {rm : Room} {as' : Array Value} {Q : Option Value → Heap → Prop} {len W rc rs : Nat} {F0 : List Addr} {argsL : List Value}
theorem Con.pay (M : Con l Z n0 y bytes maxL ret [] rm as' h ws Q) (wc : (Jvm.Cond.code y bytes maxL ret).before a0 Z = true) (wz : (Jvm.Cond.initialized y.cls).before a0 Z = true) (hf : rm.frames + 1 ≤ R.frames) (hl : W + (maxL + 11) + rm.locals ≤ R.locals) : Pay l R p e below args Z s n0 y len W as' h ws rm.cells rm.slots Q :=
  fun _ hZ _ => backOf (Q := fun v h' L => Q v h' ∧ Keep h h' ws ∧ Fr n0 L) M hZ wc wz hf hl
theorem ConS.pay (M : ConS EL l Z n0 y bytes maxL ret [] rm as' h ws F0 Q) (wc : (Jvm.Cond.code y bytes maxL ret).before a0 Z = true) (wz : (Jvm.Cond.initialized y.cls).before a0 Z = true) (hf : rm.frames + 1 ≤ R.frames) (hl : W + (maxL + 11) + rm.locals ≤ R.locals) : PayS EL a0 l R p e below args Z n0 y len W as' h ws F0 rm.cells rm.slots Q := by
  intro s vm0 hZ hEL H hF
  exact BackS.of_freeW (bytes := bytes) (maxL := maxL) (ret := ret) (E := fun _ first o t L k n => k = rm.cells ∧ n = rm.slots ∧ (∃ v, o = .returned v ∧ (Q v t.heap ∧ Keep h t.heap ws ∧ Fr n0 L)) ∧ CHr Z EL first.vm first.heap t.vm t.heap) M hf hl
    (fun m meth c A a Y hp => have hU : Z.Warmed39 A.U.vm := wtrans (s := s.setVm vm0) hZ Y.warmed
      ⟨by show (Cond.and _ .tt).before a A.U = true; rw [Cond.before_and, mv hU wc]; rfl, mv hU wc, mv hU wz, hp.2.2.1, hp.2.2.2⟩)
    (fun m meth c A a g mk Y hp => ⟨hp.1, wtrans (s := s.setVm vm0) hZ Y.warmed, hp.2.1, (CHv.at Y hZ hEL H).1, fun x hx => ⟨(CHv.at Y hZ hEL H).safe (hF x hx).2 (hF x hx).1, (hF x hx).2⟩⟩) (fun _ _ _ _ _ _ _ _ _ => trivial)
    (fun _ _ _ _ ⟨v, L, h1, h2, h3, h4⟩ => ⟨L, _, _, h4, rfl, rfl, ⟨v, h1, h2⟩, h3⟩)
    (fun m meth c A a g mk v t L k n Y hp _ _ ⟨e1, e2, ⟨v', e3, e4⟩, e5⟩ => by
      cases e3; subst e1 e2
      refine ⟨L, e4, rfl, rfl, rfl, (CHv.at Y hZ hEL H).trans ?_⟩
      rw [← hp.2.1]; exact e5)
/-- what a caller must know of what its callee writes -/
def Wrs (Z : State) (n0 : Nat) (h0 : Heap) (ws0 : List Addr) (h : Heap) (F ws : List Addr) : Prop := ∀ x ∈ ws, Wok n0 h0 ws0 x ∧ (x ∈ F ∨ ∃ C, Exa Z h x C ∧ C ≠ "java/lang/String" ∧ C ≠ "[B")
theorem Wrs.nil : Wrs Z n0 h0 ws0 h F [] := fun _ q => nomatch q
theorem Wrs.one {x : Addr} (w : Wok n0 h0 ws0 x) (q : x ∈ F ∨ ∃ C, Exa Z h x C ∧ C ≠ "java/lang/String" ∧ C ≠ "[B") : Wrs Z n0 h0 ws0 h F [x] := fun y hy => by rw [List.mem_singleton.mp hy]; exact ⟨w, q⟩
theorem Wrs.safe (w : Wrs Z n0 h0 ws0 h F ws) (hal : Z.vm.Alike vm0) (hF : ∀ x ∈ F, Safe Z EL vm0 h x ∧ x < h.size) : ∀ x ∈ ws, Wok n0 h0 ws0 x ∧ Safe Z EL vm0 h x := fun x hx => by
  obtain ⟨w1, w2⟩ := w x hx
  refine ⟨w1, ?_⟩
  rcases w2 with q | ⟨C, E, q1, q2⟩
  · exact (hF x q).1
  · exact Safe.exa hal E q1 q2
theorem Sd.afterN {A : p.tables.exec = Jvm.exec ∧ meth.locks = false ∧ EW Z a0 EL ∧ s.heap = h0 ∧ Old Z n0 h0 ∧ ∀ x ∈ ws0, n0 ≤ x} (hv : wd = false → vm0 = s.vm) (hS : s.Since vm0 k0) (hk : k0 ≤ h.size) (hZ : Z.Warmed39 vm0) (hown : vm0.findClass own = some m.cls) (O : Old Z n0 h) (N : Fr n0 locs) (K0 : Keep h0 h ws0) (C0 : CHr Z EL s.vm s.heap vm0 h) (hF : ∀ x ∈ F, Safe Z EL vm0 h x ∧ x < h.size) (hws : Wrs Z n0 h0 ws0 h F ws)
    {B : Pt} (X : Stand p l e R (s.setVm vm0) m args below meth c B.U B.locs B.cells B.slots) {L : List Loc} (K : Keep h B.U.heap ws) (NL : Fr n0 L) (l1 : B.locs = locs ++ L) (l2 : B.cells = cells + rc) (l3 : B.slots = slots + rs) : Sd wd EL a0 p l e R s m args below meth c Z own n0 h0 ws0 B.U B.U.heap F (locs ++ L) (cells + rc) (slots + rs) := by
  rw [l1, l2, l3] at X
  exact Sd.close A hv X rfl hS hk hZ hown O (Fr.app N NL) K0 C0 hF K (hws.safe hZ.alike hF) fun x hx => Or.inl hx
theorem Sd.scall (S : Sd wd EL a0 p l e R s m args below meth c Z own n0 h0 ws0 T h F locs cells slots) {index : Nat} (pc' : Nat) (hd : decode c.code pc = .ok (.invokestatic index, 3)) (hml : Ls.size = c.maxLocals) (w1 : (Jvm.Cond.methodLink own index y).before a0 Z = true) (w2 : (Jvm.Cond.static y).before a0 Z = true) (w3 : (Jvm.Cond.initialized y.cls).before a0 Z = true) (w4 : (Jvm.Cond.code y bytes maxL ret).before a0 Z = true) (hy : y.cls ≠ "java/lang/invoke/MethodHandle" ∧ y.cls ≠ "java/lang/invoke/VarHandle")
    (argsL rest : List Value) (K : Pay l R p e below args Z s n0 y 3 W argsL.toArray h ws rc rs Q) (hlen : ∀ sig, parseMethodDescriptor y.desc = some sig → argsL.length = sig.parameters.length) (hst : st = argsL.reverse ++ rest) (hW : (rest.map fun v => v.category).sum ≤ W) (hc : cells + rc ≤ R.cells) (hs : slots + rs ≤ R.slots) (hws : Wrs Z n0 h0 ws0 h F ws)
    (g : ∀ (v : Option Value) (T' : State) (h' : Heap) (L : List Loc), Sd wd EL a0 p l e R s m args below meth c Z own n0 h0 ws0 T' h' F (locs ++ L) (cells + rc) (slots + rs) → Q v h' → Keep h h' ws → Go p e below P T' (mkF m pc' Ls (v.toList ++ rest))) (hp : pc + 3 = pc' := by rfl) : Go p e below P T (mkF m pc Ls st) := by
  subst hp hst
  obtain ⟨A, vm0, k0, hv, X, eT, hS, hk, hZ, hown, O, N, K0, C0, hF⟩ := S
  obtain ⟨v, vm₁, B, -, X', ⟨L, ⟨q, KK, NL⟩, l1, l2, l3⟩, st'⟩ := Jvm.LawKit.callS X A.1 hown (mvT (s := s.setVm vm0) hZ w1) (mvT (s := s.setVm vm0) hZ w2) (mvT (s := s.setVm vm0) hZ w3) (mvT (s := s.setVm vm0) hZ w4) hy (K (s.setVm vm0) hZ hS.1.alike) (g := mkF m pc Ls (argsL.reverse ++ rest)) rfl hml (argsL := argsL) (rest := rest) hlen rfl (by show 2 * 0 + _ ≤ _; omega) hd (fun _ _ => ⟨rfl, eT, hc, hs⟩)
  exact Go.by st' (g v B.U B.U.heap L (Sd.afterN (A := A) hv hS hk hZ hown O N K0 C0 hF hws X' KK NL l1 l2 l3) q KK)
theorem Sd.icall (S : Sd wd EL a0 p l e R s m args below meth c Z own n0 h0 ws0 T h F locs cells slots) {index : Nat} {a : Addr} (pc' : Nat) (hd : decode c.code pc = .ok (.invokespecial index, 3)) (hml : Ls.size = c.maxLocals) (hy1 : y.name = "<init>") (w1 : (Jvm.Cond.methodLink own index y).before a0 Z = true) (w2 : (Jvm.Cond.instanceMethod y).before a0 Z = true) (w4 : (Jvm.Cond.code y bytes maxL none).before a0 Z = true) (hy : y.cls ≠ "java/lang/invoke/MethodHandle" ∧ y.cls ≠ "java/lang/invoke/VarHandle")
    (argsL rest : List Value) (K : Pay l R p e below args Z s n0 y 3 W (.ref a :: argsL).toArray h ws rc rs Q) (hlen : ∀ sig, parseMethodDescriptor y.desc = some sig → argsL.length = sig.parameters.length) (hst : st = argsL.reverse ++ .ref a :: rest) (hW : (rest.map fun v => v.category).sum ≤ W) (hc : cells + rc ≤ R.cells) (hs : slots + rs ≤ R.slots) (hws : Wrs Z n0 h0 ws0 h F ws)
    (g : ∀ (v : Option Value) (T' : State) (h' : Heap) (L : List Loc), Sd wd EL a0 p l e R s m args below meth c Z own n0 h0 ws0 T' h' F (locs ++ L) (cells + rc) (slots + rs) → Q v h' → Keep h h' ws → Go p e below P T' (mkF m pc' Ls (v.toList ++ rest))) (hp : pc + 3 = pc' := by rfl) : Go p e below P T (mkF m pc Ls st) := by
  subst hp hst
  obtain ⟨A, vm0, k0, hv, X, eT, hS, hk, hZ, hown, O, N, K0, C0, hF⟩ := S
  obtain ⟨v, vm₁, B, -, X', ⟨L, ⟨q, KK, NL⟩, l1, l2, l3⟩, st'⟩ := X.specialBack A.1 hy1 hown (mvT (s := s.setVm vm0) hZ w1) (mvT (s := s.setVm vm0) hZ w2) (mvT (s := s.setVm vm0) hZ w4) hy (K (s.setVm vm0) hZ hS.1.alike) (g := mkF m pc Ls (argsL.reverse ++ .ref a :: rest)) rfl hml (Steps.refl _) (a := a) (argsL := argsL) (rest := rest) hlen rfl (by show 2 * 0 + _ ≤ _; omega) hd (fun _ _ => ⟨rfl, eT, hc, hs⟩)
  exact Go.by (fun _ z => st'.trans z) (g v B.U B.U.heap L (Sd.afterN (A := A) hv hS hk hZ hown O N K0 C0 hF hws X' KK NL l1 l2 l3) q KK)
theorem Sd.vcall (S : Sd wd EL a0 p l e R s m args below meth c Z own n0 h0 ws0 T h F locs cells slots) {index : Nat} {a : Addr} {x : MethodName} {C : String} (pc' : Nat) (hd : decode c.code pc = .ok (.invokevirtual index, 3)) (hml : Ls.size = c.maxLocals) (w1 : (Jvm.Cond.methodLink own index x).before a0 Z = true) (w2 : (Jvm.Cond.declares x).before a0 Z = true) (w3 : (Jvm.Cond.selects C x y).before a0 Z = true) (w4 : (Jvm.Cond.instanceMethod y).before a0 Z = true) (hnf : ∀ s' : State, Z.Warmed39 s'.vm → NotFace s' x) (hy : x.cls ≠ "java/lang/invoke/MethodHandle" ∧ x.cls ≠ "java/lang/invoke/VarHandle") (E : Exa Z h a C)
    (argsL rest : List Value) (K : Pay l R p e below args Z s n0 y 3 W (.ref a :: argsL).toArray h ws rc rs Q) (hlen : ∀ sig, parseMethodDescriptor x.desc = some sig → argsL.length = sig.parameters.length) (hst : st = argsL.reverse ++ .ref a :: rest) (hW : (rest.map fun v => v.category).sum ≤ W) (hc : cells + rc ≤ R.cells) (hs : slots + rs ≤ R.slots) (hws : Wrs Z n0 h0 ws0 h F ws)
    (g : ∀ (v : Option Value) (T' : State) (h' : Heap) (L : List Loc), Sd wd EL a0 p l e R s m args below meth c Z own n0 h0 ws0 T' h' F (locs ++ L) (cells + rc) (slots + rs) → Q v h' → Keep h h' ws → Go p e below P T' (mkF m pc' Ls (v.toList ++ rest))) (hp : pc + 3 = pc' := by rfl) : Go p e below P T (mkF m pc Ls st) := by
  subst hp hst
  obtain ⟨A, vm0, k0, hv, X, eT, hS, hk, hZ, hown, O, N, K0, C0, hF⟩ := S
  obtain ⟨cB, kB, q1, -, q3⟩ := isOf (s := s.setVm vm0) hZ eT E
  obtain ⟨v, vm₁, B, -, X', ⟨L, ⟨q, KK, NL⟩, l1, l2, l3⟩, st'⟩ := X.virtualBack A.1 hown (mvT (s := s.setVm vm0) hZ w1) (mvT (s := s.setVm vm0) hZ w2) (hnf (s.setVm vm0) hZ) (mvT (s := s.setVm vm0) hZ w3) (mvT (s := s.setVm vm0) hZ w4) hy (K (s.setVm vm0) hZ hS.1.alike) q1 q3 (g := mkF m pc Ls (argsL.reverse ++ .ref a :: rest)) rfl hml (Steps.refl _) (argsL := argsL) (rest := rest) hlen rfl (by show 2 * 0 + _ ≤ _; omega) hd (fun _ _ => ⟨rfl, eT, hc, hs⟩)
  exact Go.by (fun _ z => st'.trans z) (g v B.U B.U.heap L (Sd.afterN (A := A) hv hS hk hZ hown O N K0 C0 hF hws X' KK NL l1 l2 l3) q KK)
theorem nfSel {x : MethodName} {C : String} (w3 : (Jvm.Cond.selects C x x).before a0 Z = true) : ∀ s' : State, Z.Warmed39 s'.vm → NotFace s' x := fun s' hZ => notFace_of_selects (args := #[]) (mvT (s := s') hZ w3)
/-! ### a callee that may intern -/
theorem Sd.afterS {A : p.tables.exec = Jvm.exec ∧ meth.locks = false ∧ EW Z a0 EL ∧ s.heap = h0 ∧ Old Z n0 h0 ∧ ∀ x ∈ ws0, n0 ≤ x} (eT : T.heap = h) (hS : s.Since vm0 k0) (hk : k0 ≤ h.size) (hZ : Z.Warmed39 vm0) (hown : vm0.findClass own = some m.cls) (O : Old Z n0 h) (N : Fr n0 locs) (K0 : Keep h0 h ws0) (C0 : CHr Z EL s.vm s.heap vm0 h) (hF : ∀ x ∈ F, Safe Z EL vm0 h x ∧ x < h.size) (hws : Wrs Z n0 h0 ws0 h F ws)
    {B : Pt} (X : Stand p l e R ((s.setVm vm0).setVm B.U.vm) m args below meth c B.U B.locs B.cells B.slots) (h2 : (s.setVm vm0).Since B.U.vm B.U.heap.size) (gr : T.heap.size ≤ B.U.heap.size) {L : List Loc} (K : Keep h B.U.heap ws) (NL : Fr n0 L) (l1 : B.locs = locs ++ L) (l2 : B.cells = cells + rc) (l3 : B.slots = slots + rs) (C1 : CHr Z EL vm0 h B.U.vm B.U.heap) :
    Sd true EL a0 p l e R s m args below meth c Z own n0 h0 ws0 B.U B.U.heap F (locs ++ L) (cells + rc) (slots + rs) := by
  rw [l1, l2, l3] at X
  obtain ⟨X', hS', hZ', hown'⟩ := rebS hS (by rw [eT]; exact hk) X h2 gr hZ hown
  exact ⟨A, B.U.vm, _, nofun, X', rfl, hS', Nat.le_refl _, hZ', hown', O.keep K fun x hx => (hws x hx).1.le (own_ole A.2.2.2.2.1) A.2.2.2.2.2, Fr.app N NL, K0.trans K fun x hx => (hws x hx).1, C0.trans C1, fun x hx => ⟨C1.safe (hF x hx).2 (hF x hx).1, Nat.lt_of_lt_of_le (hF x hx).2 K.1⟩⟩
theorem Sd.scallS (S : Sd true EL a0 p l e R s m args below meth c Z own n0 h0 ws0 T h F locs cells slots) {index : Nat} (pc' : Nat) (hd : decode c.code pc = .ok (.invokestatic index, 3)) (hml : Ls.size = c.maxLocals) (w1 : (Jvm.Cond.methodLink own index y).before a0 Z = true) (w2 : (Jvm.Cond.static y).before a0 Z = true) (w3 : (Jvm.Cond.initialized y.cls).before a0 Z = true) (w4 : (Jvm.Cond.code y bytes maxL ret).before a0 Z = true) (hy : y.cls ≠ "java/lang/invoke/MethodHandle" ∧ y.cls ≠ "java/lang/invoke/VarHandle")
    (argsL rest : List Value) (K : PayS EL a0 l R p e below args Z n0 y 3 W argsL.toArray h ws F0 rc rs Q) (hlen : ∀ sig, parseMethodDescriptor y.desc = some sig → argsL.length = sig.parameters.length) (hst : st = argsL.reverse ++ rest) (hW : (rest.map fun v => v.category).sum ≤ W) (hc : cells + rc ≤ R.cells) (hs : slots + rs ≤ R.slots) (hws : Wrs Z n0 h0 ws0 h F ws) (hF0 : ∀ x ∈ F0, x ∈ F)
    (g : ∀ (v : Option Value) (T' : State) (h' : Heap) (L : List Loc), Sd true EL a0 p l e R s m args below meth c Z own n0 h0 ws0 T' h' F (locs ++ L) (cells + rc) (slots + rs) → Q v h' → Keep h h' ws → Go p e below P T' (mkF m pc' Ls (v.toList ++ rest))) (hp : pc + 3 = pc' := by rfl) : Go p e below P T (mkF m pc Ls st) := by
  subst hp hst
  obtain ⟨A, vm0, k0, hv, X, eT, hS, hk, hZ, hown, O, N, K0, C0, hF⟩ := S
  obtain ⟨v, vm₁, B, -, X', h2, gr, ⟨L, ⟨q, KK, NL⟩, l1, l2, l3, C1⟩, st'⟩ := callSS X A.1 hown (mvT (s := s.setVm vm0) hZ w1) (mvT (s := s.setVm vm0) hZ w2) (mvT (s := s.setVm vm0) hZ w3) (mvT (s := s.setVm vm0) hZ w4) hy (K s vm0 hZ A.2.2.1 C0.1 fun x hx => hF x (hF0 x hx)) (g := mkF m pc Ls (argsL.reverse ++ rest)) rfl hml (argsL := argsL) (rest := rest) hlen rfl (by show 2 * 0 + _ ≤ _; omega) hd (fun _ _ => ⟨rfl, eT, hc, hs⟩)
  exact Go.by (fun _ z => st'.trans z) (g v B.U B.U.heap L (Sd.afterS (A := A) eT hS hk hZ hown O N K0 C0 hF hws X' h2 gr KK NL l1 l2 l3 C1) q KK)
theorem Sd.icallS (S : Sd true EL a0 p l e R s m args below meth c Z own n0 h0 ws0 T h F locs cells slots) {index : Nat} {a : Addr} (pc' : Nat) (hd : decode c.code pc = .ok (.invokespecial index, 3)) (hml : Ls.size = c.maxLocals) (hy1 : y.name = "<init>") (w1 : (Jvm.Cond.methodLink own index y).before a0 Z = true) (w2 : (Jvm.Cond.instanceMethod y).before a0 Z = true) (w4 : (Jvm.Cond.code y bytes maxL none).before a0 Z = true) (hy : y.cls ≠ "java/lang/invoke/MethodHandle" ∧ y.cls ≠ "java/lang/invoke/VarHandle")
    (argsL rest : List Value) (K : PayS EL a0 l R p e below args Z n0 y 3 W (.ref a :: argsL).toArray h ws F0 rc rs Q) (hlen : ∀ sig, parseMethodDescriptor y.desc = some sig → argsL.length = sig.parameters.length) (hst : st = argsL.reverse ++ .ref a :: rest) (hW : (rest.map fun v => v.category).sum ≤ W) (hc : cells + rc ≤ R.cells) (hs : slots + rs ≤ R.slots) (hws : Wrs Z n0 h0 ws0 h F ws) (hF0 : ∀ x ∈ F0, x ∈ F)
    (g : ∀ (v : Option Value) (T' : State) (h' : Heap) (L : List Loc), Sd true EL a0 p l e R s m args below meth c Z own n0 h0 ws0 T' h' F (locs ++ L) (cells + rc) (slots + rs) → Q v h' → Keep h h' ws → Go p e below P T' (mkF m pc' Ls (v.toList ++ rest))) (hp : pc + 3 = pc' := by rfl) : Go p e below P T (mkF m pc Ls st) := by
  subst hp hst
  obtain ⟨A, vm0, k0, hv, X, eT, hS, hk, hZ, hown, O, N, K0, C0, hF⟩ := S
  obtain ⟨v, vm₁, B, -, X', h2, gr, ⟨L, ⟨q, KK, NL⟩, l1, l2, l3, C1⟩, st'⟩ := X.specialBackS A.1 hy1 hown (mvT (s := s.setVm vm0) hZ w1) (mvT (s := s.setVm vm0) hZ w2) (mvT (s := s.setVm vm0) hZ w4) hy (K s vm0 hZ A.2.2.1 C0.1 fun x hx => hF x (hF0 x hx)) (g := mkF m pc Ls (argsL.reverse ++ .ref a :: rest)) rfl hml (Steps.refl _) (a := a) (argsL := argsL) (rest := rest) hlen rfl (by show 2 * 0 + _ ≤ _; omega) hd (fun _ _ => ⟨rfl, eT, hc, hs⟩)
  exact Go.by (fun _ z => st'.trans z) (g v B.U B.U.heap L (Sd.afterS (A := A) eT hS hk hZ hown O N K0 C0 hF hws X' h2 gr KK NL l1 l2 l3 C1) q KK)
theorem Sd.vcallS (S : Sd true EL a0 p l e R s m args below meth c Z own n0 h0 ws0 T h F locs cells slots) {index : Nat} {a : Addr} {x : MethodName} {C : String} (pc' : Nat) (hd : decode c.code pc = .ok (.invokevirtual index, 3)) (hml : Ls.size = c.maxLocals) (w1 : (Jvm.Cond.methodLink own index x).before a0 Z = true) (w2 : (Jvm.Cond.declares x).before a0 Z = true) (w3 : (Jvm.Cond.selects C x y).before a0 Z = true) (w4 : (Jvm.Cond.instanceMethod y).before a0 Z = true) (hnf : ∀ s' : State, Z.Warmed39 s'.vm → NotFace s' x) (hy : x.cls ≠ "java/lang/invoke/MethodHandle" ∧ x.cls ≠ "java/lang/invoke/VarHandle") (E : Exa Z h a C)
    (argsL rest : List Value) (K : PayS EL a0 l R p e below args Z n0 y 3 W (.ref a :: argsL).toArray h ws F0 rc rs Q) (hlen : ∀ sig, parseMethodDescriptor x.desc = some sig → argsL.length = sig.parameters.length) (hst : st = argsL.reverse ++ .ref a :: rest) (hW : (rest.map fun v => v.category).sum ≤ W) (hc : cells + rc ≤ R.cells) (hs : slots + rs ≤ R.slots) (hws : Wrs Z n0 h0 ws0 h F ws) (hF0 : ∀ x ∈ F0, x ∈ F)
    (g : ∀ (v : Option Value) (T' : State) (h' : Heap) (L : List Loc), Sd true EL a0 p l e R s m args below meth c Z own n0 h0 ws0 T' h' F (locs ++ L) (cells + rc) (slots + rs) → Q v h' → Keep h h' ws → Go p e below P T' (mkF m pc' Ls (v.toList ++ rest))) (hp : pc + 3 = pc' := by rfl) : Go p e below P T (mkF m pc Ls st) := by
  subst hp hst
  obtain ⟨A, vm0, k0, hv, X, eT, hS, hk, hZ, hown, O, N, K0, C0, hF⟩ := S
  obtain ⟨cB, kB, q1, -, q3⟩ := isOf (s := s.setVm vm0) hZ eT E
  obtain ⟨v, vm₁, B, -, X', h2, gr, ⟨L, ⟨q, KK, NL⟩, l1, l2, l3, C1⟩, st'⟩ := X.virtualBackS A.1 hown (mvT (s := s.setVm vm0) hZ w1) (mvT (s := s.setVm vm0) hZ w2) (hnf (s.setVm vm0) hZ) (mvT (s := s.setVm vm0) hZ w3) (mvT (s := s.setVm vm0) hZ w4) hy (K s vm0 hZ A.2.2.1 C0.1 fun x hx => hF x (hF0 x hx)) q1 q3 (g := mkF m pc Ls (argsL.reverse ++ .ref a :: rest)) rfl hml (Steps.refl _) (argsL := argsL) (rest := rest) hlen rfl (by show 2 * 0 + _ ≤ _; omega) hd (fun _ _ => ⟨rfl, eT, hc, hs⟩)
  exact Go.by (fun _ z => st'.trans z) (g v B.U B.U.heap L (Sd.afterS (A := A) eT hS hk hZ hown O N K0 C0 hF hws X' h2 gr KK NL l1 l2 l3 C1) q KK)
end OwnKit
end Jvm.Pilot.@@N@@
namespace Jvm.Pilot.@@N@@
open Jvm Jvm.ClassFile Sem Op Lib Jvm.Free Jvm.Stand Jvm.LawKit Jvm.RoadKit Bundle Jvm.Pilot.@@N@@.Jvm.D
section OwnStr
variable {a0 : Array Value} {p : Program} {l : Launch} {e : Env} {R : Room} {args : Array Value} {below : List Frame} {Z s : State} {n0 : Nat} {h h' : Heap} {ws : List Addr} {x t a y t' : Addr} {cs ds : List Int32} {sl W : Nat} {v : Value}
/-- the object x is a String of these chars, all below 256; t: its byte[] -/
def Str (Z : State) (h : Heap) (x t : Addr) (cs : List Int32) : Prop :=
  (∃ kb, Exa Z h x "java/lang/String" ∧ Fld Z h x "java/lang/String" "value" "[B" (.ref t) ∧ Fld Z h x "java/lang/String" "coder" "B" (.int 0) ∧ Arv Z h t kb .byte (Int32.ofNat cs.length) ((cs.map fun c => c.toInt8.toInt32).map Value.int) (.int 0)) ∧ (∀ c ∈ cs, ¬ c < 0 ∧ ¬ (255 : Int32) < c) ∧ cs.length ≤ 4000
theorem Str.exa (F : Str Z h x t cs) : Exa Z h x "java/lang/String" := by obtain ⟨⟨kb, E, -⟩, -⟩ := F; exact E
theorem Str.lt (F : Str Z h x t cs) : x < h.size := F.exa.lt
theorem Str.lt' (F : Str Z h x t cs) : t < h.size := by obtain ⟨⟨kb, -, -, -, A⟩, -⟩ := F; exact A.lt
theorem Str.ext (F : Str Z h x t cs) (E : Ext h h') : Str Z h' x t cs := by obtain ⟨⟨kb, a, b, c, d⟩, r⟩ := F; exact ⟨⟨kb, a.ext E, b.ext E, c.ext E, d.ext E⟩, r⟩
theorem Str.keep (F : Str Z h x t cs) (K : Keep h h' ws) (q : x ∉ ws) (r : t ∉ ws) : Str Z h' x t cs := by obtain ⟨⟨kb, a, b, c, d⟩, z⟩ := F; exact ⟨⟨kb, a.keep K, b.keep K q, c.keep K q, d.keep K r⟩, z⟩
theorem Str.wr (F : Str Z h x t cs) (W : Wr h h' a sl v) (q : x ≠ a) (r : t ≠ a) : Str Z h' x t cs := by obtain ⟨⟨kb, a, b, c, d⟩, z⟩ := F; exact ⟨⟨kb, a.wr W, b.other W (Or.inl q), c.other W (Or.inl q), d.other W r⟩, z⟩
/-- COMPACT_STRINGS is set -/
def Com (Z : State) : Prop := ∃ z : Int32, Sta Z Z.heap "java/lang/String" "COMPACT_STRINGS" "Z" (.int z) ∧ ¬ z = 0
def Sfo (Z : State) : Prop := ∃ v : Value, Sta Z Z.heap "jdk/internal/util/Preconditions" "SIOOBE_FORMATTER" "Ljava/util/function/BiFunction;" v ∧ v.isRef = true
theorem up16 (h : ∀ c ∈ cs, ¬ c < 0 ∧ ¬ (255 : Int32) < c) : ∀ c ∈ cs, ¬ c < 0 ∧ ¬ (65535 : Int32) < c := fun c hc => ⟨(h c hc).1, fun q => (h c hc).2 (by rw [Int32.lt_iff_toInt_lt] at q ⊢; have e1 : (65535 : Int32).toInt = 65535 := rfl; have e2 : (255 : Int32).toInt = 255 := rfl; omega)⟩
theorem payNew (hw : ∀ d ∈ tables_1, d.before a0 Z = true) (wi : (Jvm.Cond.instantiable "java/lang/String" 4).before a0 Z = true) (cm : Com Z) (O : Old Z n0 h) {k : ClassId} {b : Addr} {d v0 c0 : Value} {N : Int32} {n : Nat} (hx0 : n0 ≤ x) (E : Exa Z h x "java/lang/String") (V : Fld Z h x "java/lang/String" "value" "[B" v0) (C : Fld Z h x "java/lang/String" "coder" "B" c0) (K : Arv Z h b k .char N (cs.map Value.int) d)
    (hn : cs.length = n) (hN : N = Int32.ofNat n) (l0 : 0 < n) (l2 : n ≤ 4000) (hp : ∀ c ∈ cs, ¬ c < 0 ∧ ¬ (255 : Int32) < c) (hfr : 4 ≤ R.frames) (hlo : W + 65 ≤ R.locals) :
    Pay l R p e below args Z s n0 ⟨"java/lang/String", "<init>", "([C)V"⟩ 3 W #[.ref x, .ref b] h [x] 1 n (fun v h' => v = none ∧ ∃ t, h.size ≤ t ∧ Str Z h' x t cs) := fun s' hZ _ => by
  obtain ⟨z, St, hz⟩ := cm
  refine Back.mono (StrChars.Road.backV hZ (fun d hd => hw d ((by decide +kernel : ∀ d ∈ StrChars.Road.words, d ∈ tables_1) d hd)) wi (n0 := n0) hx0 (by rw [← O.1]; exact O.2.1) E V C K (St.ext O.2) hz hn hN l0 l2 hp rfl hfr hlo) (fun P a q => q) (fun P a v B hp' hq => ?_)
  obtain ⟨L, ⟨q1, q2, q3, q4, q5, t, kb, q6, q7, q8, q9, q10⟩, hl, hc, hs⟩ := hq
  exact ⟨L, ⟨⟨q1, t, q7, ⟨⟨kb, q4, q9, q5, by rw [hn, ← hN]; exact q10⟩, hp, by omega⟩⟩, q3, q2⟩, hl, hc, hs⟩
theorem Str.of {kb : ClassId} {z : Int32} {vs : List Value} (E : Exa Z h x "java/lang/String") (C : Fld Z h x "java/lang/String" "coder" "B" (.int 0)) (V : Fld Z h x "java/lang/String" "value" "[B" (.ref t)) (A : Arv Z h t kb .byte z vs (.int 0)) (cs : List Int32) (hz : z = Int32.ofNat cs.length) (hvs : vs = (cs.map fun c => c.toInt8.toInt32).map Value.int) (hp : ∀ c ∈ cs, ¬ c < 0 ∧ ¬ (255 : Int32) < c) (hl : cs.length ≤ 4000) : Str Z h x t cs := by
  subst hz hvs
  exact ⟨⟨kb, E, V, C, A⟩, hp, hl⟩
theorem payLen (hw : ∀ d ∈ tables_1, d.before a0 Z = true) (wi : (Jvm.Cond.instantiable "java/lang/String" 4).before a0 Z = true) (cm : Com Z) (O : Old Z n0 h) (F : Str Z h x t cs) (hfr : 2 ≤ R.frames) (hlo : W + 25 ≤ R.locals) :
    Pay l R p e below args Z s n0 ⟨"java/lang/String", "length", "()I"⟩ 3 W #[.ref x] h [] 0 0 (fun v h' => v = some (.int (Int32.ofNat cs.length)) ∧ h' = h) := fun s' hZ _ => by
  obtain ⟨z, St, hz⟩ := cm
  obtain ⟨⟨kb, f1, f2, f3, f4⟩, f5, f6⟩ := F
  refine Back.mono (StrChars.Road.lenW hZ (fun d hd => hw d ((by decide +kernel : ∀ d ∈ StrChars.Road.wordsLen, d ∈ tables_1) d hd)) wi f1 f2 f3 f4 (StrChars.Road.codOf rfl fun c hc => (f5 c hc).2) (up16 f5) (St.ext O.2) hz f6 hfr hlo) (fun P a q => q) (fun P a v B hp' hq => ?_)
  obtain ⟨L, ⟨q1, rfl, q3⟩, hl, hc, hs⟩ := hq
  exact ⟨[], ⟨⟨q1, q3⟩, by rw [q3]; exact Keep.refl _ _, Fr.nil _⟩, hl, hc, hs⟩
theorem payCh (hw : ∀ d ∈ tables_1, d.before a0 Z = true) (wi : (Jvm.Cond.instantiable "java/lang/String" 4).before a0 Z = true) (cm : Com Z) (sf : Sfo Z) (O : Old Z n0 h) (F : Str Z h x t cs) {i : Nat} {j : Int32} (hi : i < cs.length) (hj : j = Int32.ofNat i) (hfr : 4 ≤ R.frames) (hlo : W + 53 ≤ R.locals) :
    Pay l R p e below args Z s n0 ⟨"java/lang/String", "charAt", "(I)C"⟩ 3 W #[.ref x, .int j] h [] 0 0 (fun v h' => v = some (.int (cs.getD i 0)) ∧ h' = h) := fun s' hZ _ => by
  obtain ⟨z, St, hz⟩ := cm
  obtain ⟨fv, Sf, rf⟩ := sf
  obtain ⟨⟨kb, f1, f2, f3, f4⟩, f5, f6⟩ := F
  refine Back.mono (StrChars.Road.chN hZ (fun d hd => hw d ((by decide +kernel : ∀ d ∈ StrChars.Road.wordsChN, d ∈ tables_1) d hd)) wi f1 f2 f3 f4 (StrChars.Road.codOf rfl fun c hc => (f5 c hc).2) (up16 f5) (St.ext O.2) hz (Sf.ext O.2) rf f6 hi hj hfr hlo) (fun P a q => q) (fun P a v B hp' hq => ?_)
  obtain ⟨L, ⟨q1, rfl, q3⟩, hl, hc, hs⟩ := hq
  exact ⟨[], ⟨⟨q1, q3⟩, by rw [q3]; exact Keep.refl _ _, Fr.nil _⟩, hl, hc, hs⟩
end OwnStr
end Jvm.Pilot.@@N@@
namespace Jvm.Pilot.@@N@@
open Jvm Jvm.ClassFile Sem Op Lib Jvm.Free Jvm.Stand Jvm.LawKit Jvm.RoadKit Bundle Jvm.Pilot.@@N@@.Jvm.D
theorem Tw {a0 : Array Value} {Z : State} (hw : ∀ d ∈ tables_1, d.before a0 Z = true) (i : Nat) {d : Jvm.Cond} (h : tables_1[i]? = some d) : d.before a0 Z = true := hw d (List.mem_of_getElem? h)
theorem Nle {a b : Nat} (h : Nat.ble a b = true) : a ≤ b := Nat.le_of_ble_eq_true h
theorem own_wS {a0 : Array Value} {Z : State} (hw : ∀ d ∈ tables_1, d.before a0 Z = true) : ∀ a ∈ Bundle.stringAtoms, a.before a0 Z = true := fun a ha => hw a ((by decide +kernel : ∀ a ∈ Bundle.stringAtoms, a ∈ tables_1) a ha)
theorem own_EW {a0 : Array Value} {Z : State} (hw : ∀ d ∈ tables_1, d.before a0 Z = true) : EW Z a0 consts_1 := (EW.cons (Tw hw 42 rfl) (by decide) (EW.cons (Tw hw 49 rfl) (by decide) (EW.cons (Tw hw 61 rfl) (by decide) (EW.cons (Tw hw 99 rfl) (by decide) EW.nil))))
theorem own_pos (p : Int32) : ((1 : Int32) + (p &&& (1 : Int32))) = 1 ∨ ((1 : Int32) + (p &&& (1 : Int32))) = 2 := by
  rcases and_one p with q | q <;> rw [q] <;> decide
theorem own_ef_1 (m : MethodId) (x0 : Addr) : entryFrame m #[(.ref x0)] 1 = mkF m 0 #[.val (.ref x0)] [] := by first | rfl | (simp [entryFrame, mkF, argsToLocals, Value.category]; done)
theorem own_d_jdk_30_method_1_code_0 : decode jdk_30_method_1_code 0 = .ok (.aload_n 0, 1) := by decide +kernel
theorem own_d_jdk_30_method_1_code_1 : decode jdk_30_method_1_code 1 = .ok (.invokespecial 1, 3) := by decide +kernel
theorem own_d_jdk_30_method_1_code_4 : decode jdk_30_method_1_code 4 = .ok (.return_, 1) := by decide +kernel
theorem own_pn_2 : plainName "java/lang/Record" = true := by first | (simp [plainName, overriddenIn]; done) | decide +kernel
set_option maxRecDepth 65536 in
set_option maxHeartbeats 4000000 in
theorem own_rec (l : Launch) (Z : State) (a0 : Array Value) (hw : ∀ d ∈ tables_1, d.before a0 Z = true) (h0 : Heap) (n0 : Nat) (O : Old Z n0 h0) (a : Addr) :
    Con l Z n0 (⟨"java/lang/Record", "<init>", "()V"⟩ : MethodName) jdk_30_method_1_code 1 none [] ({ frames := 1, cells := 0, slots := 0, locals := 12 } : Room) #[(.ref a)] h0 [] (fun v h' => v = none ∧ h' = h0) := by
  refine Con.of a0 (plainFor_of_name own_pn_2) O (fun _ q => nomatch q) [] (fun _ q => nomatch q) ?_
  intro p e s m below meth c T S hby hml hret hnm
  refine Go.cast (own_ef_1 m a) ?_
  refine S.aloadN 1 (hb hby own_d_jdk_30_method_1_code_0) rfl rfl ?_
  refine S.initO (W := 0) 4 (hb hby own_d_jdk_30_method_1_code_1) (by rw [hml]; rfl) (Tw hw 41 rfl) (Tw hw 15 rfl) (Tw hw 16 rfl) (by decide) (Nle rfl) (by decide) ?_
  intro T1 S2
  exact S2.ret0 (hb hby own_d_jdk_30_method_1_code_4) hret (by decide) (by decide) ⟨rfl, rfl⟩

theorem own_ef_3 (m : MethodId) (x0 : Addr) (x1 : Addr) : entryFrame m #[(.ref x0), (.ref x1)] 2 = mkF m 0 #[.val (.ref x0), .val (.ref x1)] [] := by first | rfl | (simp [entryFrame, mkF, argsToLocals, Value.category]; done)
theorem own_d_jdk_31_method_11_code_0 : decode jdk_31_method_11_code 0 = .ok (.aload_n 0, 1) := by decide +kernel
theorem own_d_jdk_31_method_11_code_1 : decode jdk_31_method_11_code 1 = .ok (.ifnonnull 12, 3) := by decide +kernel
theorem own_d_jdk_31_method_11_code_13 : decode jdk_31_method_11_code 13 = .ok (.aload_n 0, 1) := by decide +kernel
theorem own_d_jdk_31_method_11_code_14 : decode jdk_31_method_11_code 14 = .ok (.areturn, 1) := by decide +kernel
theorem own_pn_4 : plainName "java/util/Objects" = true := by first | (simp [plainName, overriddenIn]; done) | decide +kernel
set_option maxRecDepth 65536 in
set_option maxHeartbeats 4000000 in
theorem own_rnn (l : Launch) (Z : State) (a0 : Array Value) (hw : ∀ d ∈ tables_1, d.before a0 Z = true) (h0 : Heap) (n0 : Nat) (O : Old Z n0 h0) (a : Addr) (b : Addr) :
    Con l Z n0 (⟨"java/util/Objects", "requireNonNull", "(Ljava/lang/Object;Ljava/lang/String;)Ljava/lang/Object;"⟩ : MethodName) jdk_31_method_11_code 2 (some (.object "java/lang/Object")) [] ({ frames := 0, cells := 0, slots := 0, locals := 0 } : Room) #[(.ref a), (.ref b)] h0 [] (fun v h' => v = some (.ref a) ∧ h' = h0) := by
  refine Con.of a0 (plainFor_of_name own_pn_4) O (fun _ q => nomatch q) [] (fun _ q => nomatch q) ?_
  intro p e s m below meth c T S hby hml hret hnm
  refine Go.cast (own_ef_3 m a b) ?_
  refine S.aloadN 1 (hb hby own_d_jdk_31_method_11_code_0) rfl rfl ?_
  refine S.nonnullY 13 (hb hby own_d_jdk_31_method_11_code_1) ?_
  refine S.aloadN 14 (hb hby own_d_jdk_31_method_11_code_13) rfl rfl ?_
  exact S.retA (hb hby own_d_jdk_31_method_11_code_14) hret rfl rfl (by decide) (by decide) ⟨rfl, rfl⟩

theorem own_ef_5 (m : MethodId) (x0 : Addr) (x1 : Addr) (x2 : Int32) (x3 : Addr) : entryFrame m #[(.ref x0), (.ref x1), (.int x2), (.ref x3)] 4 = mkF m 0 #[.val (.ref x0), .val (.ref x1), .val (.int x2), .val (.ref x3)] [] := by first | rfl | (simp [entryFrame, mkF, argsToLocals, Value.category]; done)
theorem own_d_prog_20_method_1_code_0 : decode prog_20_method_1_code 0 = .ok (.aload_n 0, 1) := by decide +kernel
theorem own_d_prog_20_method_1_code_1 : decode prog_20_method_1_code 1 = .ok (.invokespecial 1, 3) := by decide +kernel
theorem own_pd_6 : parseMethodDescriptor "()V" = some ⟨[], none⟩ := by decide +kernel
theorem own_d_prog_20_method_1_code_4 : decode prog_20_method_1_code 4 = .ok (.aload_n 1, 1) := by decide +kernel
theorem own_d_prog_20_method_1_code_5 : decode prog_20_method_1_code 5 = .ok (.ldc 7, 2) := by decide +kernel
theorem own_d_prog_20_method_1_code_7 : decode prog_20_method_1_code 7 = .ok (.invokestatic 9, 3) := by decide +kernel
theorem own_pd_7 : parseMethodDescriptor "(Ljava/lang/Object;Ljava/lang/String;)Ljava/lang/Object;" = some ⟨[(.object "java/lang/Object"), (.object "java/lang/String")], some (.object "java/lang/Object")⟩ := by decide +kernel
theorem own_d_prog_20_method_1_code_10 : decode prog_20_method_1_code 10 = .ok (.pop, 1) := by decide +kernel
theorem own_d_prog_20_method_1_code_11 : decode prog_20_method_1_code 11 = .ok (.aload_n 3, 1) := by decide +kernel
theorem own_d_prog_20_method_1_code_12 : decode prog_20_method_1_code 12 = .ok (.ldc 15, 2) := by decide +kernel
theorem own_d_prog_20_method_1_code_14 : decode prog_20_method_1_code 14 = .ok (.invokestatic 9, 3) := by decide +kernel
theorem own_d_prog_20_method_1_code_17 : decode prog_20_method_1_code 17 = .ok (.pop, 1) := by decide +kernel
theorem own_d_prog_20_method_1_code_18 : decode prog_20_method_1_code 18 = .ok (.iload_n 2, 1) := by decide +kernel
theorem own_d_prog_20_method_1_code_19 : decode prog_20_method_1_code 19 = .ok (.iconst 1, 1) := by decide +kernel
theorem own_d_prog_20_method_1_code_20 : decode prog_20_method_1_code 20 = .ok (.if_icmp .lt 8, 3) := by decide +kernel
theorem own_d_prog_20_method_1_code_23 : decode prog_20_method_1_code 23 = .ok (.iload_n 2, 1) := by decide +kernel
theorem own_d_prog_20_method_1_code_24 : decode prog_20_method_1_code 24 = .ok (.iconst 2, 1) := by decide +kernel
theorem own_d_prog_20_method_1_code_25 : decode prog_20_method_1_code 25 = .ok (.if_icmp .le 13, 3) := by decide +kernel
theorem own_d_prog_20_method_1_code_38 : decode prog_20_method_1_code 38 = .ok (.aload_n 0, 1) := by decide +kernel
theorem own_d_prog_20_method_1_code_39 : decode prog_20_method_1_code 39 = .ok (.aload_n 1, 1) := by decide +kernel
theorem own_d_prog_20_method_1_code_40 : decode prog_20_method_1_code 40 = .ok (.putfield 24, 3) := by decide +kernel
theorem own_d_prog_20_method_1_code_43 : decode prog_20_method_1_code 43 = .ok (.aload_n 0, 1) := by decide +kernel
theorem own_d_prog_20_method_1_code_44 : decode prog_20_method_1_code 44 = .ok (.iload_n 2, 1) := by decide +kernel
theorem own_d_prog_20_method_1_code_45 : decode prog_20_method_1_code 45 = .ok (.putfield 29, 3) := by decide +kernel
theorem own_d_prog_20_method_1_code_48 : decode prog_20_method_1_code 48 = .ok (.aload_n 0, 1) := by decide +kernel
theorem own_d_prog_20_method_1_code_49 : decode prog_20_method_1_code 49 = .ok (.aload_n 3, 1) := by decide +kernel
theorem own_d_prog_20_method_1_code_50 : decode prog_20_method_1_code 50 = .ok (.putfield 33, 3) := by decide +kernel
theorem own_d_prog_20_method_1_code_53 : decode prog_20_method_1_code 53 = .ok (.return_, 1) := by decide +kernel
theorem own_pn_8 : plainName "com/example/floatbook/floatbook/core/Nearby" = true := by first | (simp [plainName, overriddenIn]; done) | decide +kernel
set_option maxRecDepth 65536 in
set_option maxHeartbeats 4000000 in
theorem own_init (l : Launch) (Z : State) (a0 : Array Value) (hw : ∀ d ∈ tables_1, d.before a0 Z = true) (h0 : Heap) (n0 : Nat) (O : Old Z n0 h0) (a : Addr) (c1 : Addr) (ps : Int32) (c2 : Addr) (ge_a : n0 ≤ a) (hp1 : ¬ ps < (1 : Int32)) (hp2 : ¬ (2 : Int32) < ps) (E : Exa Z h0 a "com/example/floatbook/floatbook/core/Nearby") (F_contractField : Fld Z h0 a "com/example/floatbook/floatbook/core/Nearby" "contractField" "Ljava/lang/String;" .null) (F_position : Fld Z h0 a "com/example/floatbook/floatbook/core/Nearby" "position" "I" (.int (0 : Int32))) (F_expiries : Fld Z h0 a "com/example/floatbook/floatbook/core/Nearby" "expiries" "Ljava/lang/String;" .null) :
    ConS consts_1 l Z n0 (⟨"com/example/floatbook/floatbook/core/Nearby", "<init>", "(Ljava/lang/String;ILjava/lang/String;)V"⟩ : MethodName) prog_20_method_1_code 4 none [] ({ frames := 2, cells := 4, slots := 92, locals := 30 } : Room) #[(.ref a), (.ref c1), (.int ps), (.ref c2)] h0 [a] [] (fun v h' => v = none ∧ Exa Z h' a "com/example/floatbook/floatbook/core/Nearby" ∧ Fld Z h' a "com/example/floatbook/floatbook/core/Nearby" "position" "I" (.int ps)) := by
  refine ConS.of (a0 := a0) (plainFor_of_name own_pn_8) O (own_EW hw) (by simp [ge_a]) ?_
  intro p e s m below meth c T S hby hml hret hnm
  refine Go.cast (own_ef_5 m a c1 ps c2) ?_
  refine S.aloadN 1 (hb hby own_d_prog_20_method_1_code_0) rfl rfl ?_
  refine S.icall 4 (hb hby own_d_prog_20_method_1_code_1) (by rw [hml]; rfl) rfl (Tw hw 36 rfl) (Tw hw 37 rfl) (Tw hw 40 rfl) (by decide) [] [] (Con.pay (W := 0) (own_rec l Z a0 hw h0 n0 S.old a) (Tw hw 40 rfl) (Tw hw 39 rfl) (by decide) (by decide)) (lenOf own_pd_6 rfl) rfl (Nle rfl) (by decide) (by decide) Wrs.nil ?_
  intro v3 T4 h5 L6 S7 q8 K9
  obtain ⟨rfl, e_q8⟩ := q8
  obtain rfl := e_q8.symm
  show Go p e below _ T4 (mkF m 4 #[.val (.ref a), .val (.ref c1), .val (.int ps), .val (.ref c2)] [])
  refine S7.aloadN 5 (hb hby own_d_prog_20_method_1_code_4) rfl rfl ?_
  refine S7.ldcO (n := 52) 7 (hb hby own_d_prog_20_method_1_code_5) (Tw hw 42 rfl) (own_wS hw) (by decide) (by decide) (by decide) (by decide) ?_
  intro T10 h11 b12 S13 E14
  refine S13.scall 10 (hb hby own_d_prog_20_method_1_code_7) (by rw [hml]; rfl) (Tw hw 45 rfl) (Tw hw 46 rfl) (Tw hw 47 rfl) (Tw hw 48 rfl) (by decide) [(.ref c1), (.ref b12)] [] (Con.pay (W := 0) (own_rnn l Z a0 hw h11 n0 S13.old c1 b12) (Tw hw 48 rfl) (Tw hw 47 rfl) (by decide) (by decide)) (lenOf own_pd_7 rfl) rfl (Nle rfl) (by decide) (by decide) Wrs.nil ?_
  intro v15 T16 h17 L18 S19 q20 K21
  obtain ⟨rfl, e_q20⟩ := q20
  obtain rfl := e_q20.symm
  show Go p e below _ T16 (mkF m 10 #[.val (.ref a), .val (.ref c1), .val (.int ps), .val (.ref c2)] [(.ref c1)])
  refine S19.pop 11 (hb hby own_d_prog_20_method_1_code_10) rfl ?_
  refine S19.aloadN 12 (hb hby own_d_prog_20_method_1_code_11) rfl rfl ?_
  refine S19.ldcO (n := 32) 14 (hb hby own_d_prog_20_method_1_code_12) (Tw hw 49 rfl) (own_wS hw) (by decide) (by decide) (by decide) (by decide) ?_
  intro T22 h23 b24 S25 E26
  refine S25.scall 17 (hb hby own_d_prog_20_method_1_code_14) (by rw [hml]; rfl) (Tw hw 45 rfl) (Tw hw 46 rfl) (Tw hw 47 rfl) (Tw hw 48 rfl) (by decide) [(.ref c2), (.ref b24)] [] (Con.pay (W := 0) (own_rnn l Z a0 hw h23 n0 S25.old c2 b24) (Tw hw 48 rfl) (Tw hw 47 rfl) (by decide) (by decide)) (lenOf own_pd_7 rfl) rfl (Nle rfl) (by decide) (by decide) Wrs.nil ?_
  intro v27 T28 h29 L30 S31 q32 K33
  obtain ⟨rfl, e_q32⟩ := q32
  obtain rfl := e_q32.symm
  show Go p e below _ T28 (mkF m 17 #[.val (.ref a), .val (.ref c1), .val (.int ps), .val (.ref c2)] [(.ref c2)])
  refine S31.pop 18 (hb hby own_d_prog_20_method_1_code_17) rfl ?_
  refine S31.iloadN 19 (hb hby own_d_prog_20_method_1_code_18) rfl ?_
  refine S31.iconst 20 (1 : Int32) (hb hby own_d_prog_20_method_1_code_19) ?_
  refine S31.icmpN 23 (hb hby own_d_prog_20_method_1_code_20) (qLtF hp1) ?_
  refine S31.iloadN 24 (hb hby own_d_prog_20_method_1_code_23) rfl ?_
  refine S31.iconst 25 (2 : Int32) (hb hby own_d_prog_20_method_1_code_24) ?_
  refine S31.icmpY 38 (hb hby own_d_prog_20_method_1_code_25) (qLeT hp2) ?_
  refine S31.aloadN 39 (hb hby own_d_prog_20_method_1_code_38) rfl rfl ?_
  refine S31.aloadN 40 (hb hby own_d_prog_20_method_1_code_39) rfl rfl ?_
  have f34 := ((F_contractField.ext E14).ext E26)
  have f35 := ((E.ext E14).ext E26)
  refine S31.putf (host := "") (ty := (.object "java/lang/String")) 43 (hb hby own_d_prog_20_method_1_code_40) (Or.inl (Tw hw 50 rfl)) Via.refl f34 f35 (Or.inr ⟨(Tw hw 51 rfl), rfl, hnm⟩) (Tw hw 2 rfl) (by decide) rfl rfl (Or.inl (by simp)) (Or.inl (by decide)) ?_
  intro T36 h37 L38 S39 W40
  have f41 := f34.same W40
  refine S39.aloadN 44 (hb hby own_d_prog_20_method_1_code_43) rfl rfl ?_
  refine S39.iloadN 45 (hb hby own_d_prog_20_method_1_code_44) rfl ?_
  have f42 := (((F_position.ext E14).ext E26).other W40 (Or.inr (slot_ne (t := .int) (t' := (.object "java/lang/String")) (Or.inr (Tw hw 53 rfl)) (Or.inr (Tw hw 51 rfl)) (by decide) (by decide) (by decide))))
  have f43 := (f35.wr W40)
  refine S39.putf (host := "") (ty := .int) 48 (hb hby own_d_prog_20_method_1_code_45) (Or.inl (Tw hw 52 rfl)) Via.refl f42 f43 (Or.inr ⟨(Tw hw 53 rfl), rfl, hnm⟩) (Tw hw 2 rfl) (by decide) rfl rfl (Or.inl (by simp)) (Or.inl (by decide)) ?_
  intro T44 h45 L46 S47 W48
  have f49 := f42.same W48
  refine S47.aloadN 49 (hb hby own_d_prog_20_method_1_code_48) rfl rfl ?_
  refine S47.aloadN 50 (hb hby own_d_prog_20_method_1_code_49) rfl rfl ?_
  have f50 := ((((F_expiries.ext E14).ext E26).other W40 (Or.inr (slot_ne (t := (.object "java/lang/String")) (t' := (.object "java/lang/String")) (Or.inr (Tw hw 55 rfl)) (Or.inr (Tw hw 51 rfl)) (by decide) (by decide) (by decide)))).other W48 (Or.inr (slot_ne (t := (.object "java/lang/String")) (t' := .int) (Or.inr (Tw hw 55 rfl)) (Or.inr (Tw hw 53 rfl)) (by decide) (by decide) (by decide))))
  have f51 := (f43.wr W48)
  refine S47.putf (host := "") (ty := (.object "java/lang/String")) 53 (hb hby own_d_prog_20_method_1_code_50) (Or.inl (Tw hw 54 rfl)) Via.refl f50 f51 (Or.inr ⟨(Tw hw 55 rfl), rfl, hnm⟩) (Tw hw 2 rfl) (by decide) rfl rfl (Or.inl (by simp)) (Or.inl (by decide)) ?_
  intro T52 h53 L54 S55 W56
  have f57 := f50.same W56
  have f58 := (f51.wr W56)
  have f59 := (f49.other W56 (Or.inr (slot_ne (t := .int) (t' := (.object "java/lang/String")) (Or.inr (Tw hw 53 rfl)) (Or.inr (Tw hw 55 rfl)) (by decide) (by decide) (by decide))))
  exact S55.ret0 (hb hby own_d_prog_20_method_1_code_53) hret (by decide) (by decide) ⟨rfl, f58, f59⟩

theorem own_d_prog_20_method_7_code_0 : decode prog_20_method_7_code 0 = .ok (.aload_n 0, 1) := by decide +kernel
theorem own_d_prog_20_method_7_code_1 : decode prog_20_method_7_code 1 = .ok (.getfield 29, 3) := by decide +kernel
theorem own_d_prog_20_method_7_code_4 : decode prog_20_method_7_code 4 = .ok (.ireturn, 1) := by decide +kernel
set_option maxRecDepth 65536 in
set_option maxHeartbeats 4000000 in
theorem own_position (l : Launch) (Z : State) (a0 : Array Value) (hw : ∀ d ∈ tables_1, d.before a0 Z = true) (h0 : Heap) (n0 : Nat) (O : Old Z n0 h0) (a : Addr) (z : Int32) (F : Fld Z h0 a "com/example/floatbook/floatbook/core/Nearby" "position" "I" (.int z)) :
    Con l Z n0 (⟨"com/example/floatbook/floatbook/core/Nearby", "position", "()I"⟩ : MethodName) prog_20_method_7_code 1 (some .int) [] ({ frames := 0, cells := 0, slots := 0, locals := 0 } : Room) #[(.ref a)] h0 [] (fun v h' => v = some (.int z) ∧ h' = h0) := by
  refine Con.of a0 (plainFor_of_name own_pn_8) O (fun _ q => nomatch q) [] (fun _ q => nomatch q) ?_
  intro p e s m below meth c T S hby hml hret hnm
  refine Go.cast (own_ef_1 m a) ?_
  refine S.aloadN 1 (hb hby own_d_prog_20_method_7_code_0) rfl rfl ?_
  refine S.getf (host := "") 4 (hb hby own_d_prog_20_method_7_code_1) (Or.inl (Tw hw 52 rfl)) Via.refl F ?_
  intro T60 S61
  exact S61.retI (hb hby own_d_prog_20_method_7_code_4) hret (by decide) (by decide) ⟨rfl, rfl⟩

theorem own_d_prog_20_method_2_code_0 : decode prog_20_method_2_code 0 = .ok (.aload_n 0, 1) := by decide +kernel
theorem own_d_prog_20_method_2_code_1 : decode prog_20_method_2_code 1 = .ok (.getfield 29, 3) := by decide +kernel
theorem own_d_prog_20_method_2_code_4 : decode prog_20_method_2_code 4 = .ok (.iconst 1, 1) := by decide +kernel
theorem own_d_prog_20_method_2_code_5 : decode prog_20_method_2_code 5 = .ok (.if_icmp .ne 8, 3) := by decide +kernel
theorem own_d_prog_20_method_2_code_8 : decode prog_20_method_2_code 8 = .ok (.ldc 35, 2) := by decide +kernel
theorem own_d_prog_20_method_2_code_10 : decode prog_20_method_2_code 10 = .ok (.goto 5, 3) := by decide +kernel
theorem own_d_prog_20_method_2_code_15 : decode prog_20_method_2_code 15 = .ok (.areturn, 1) := by decide +kernel
theorem own_d_prog_20_method_2_code_13 : decode prog_20_method_2_code 13 = .ok (.ldc 37, 2) := by decide +kernel
set_option maxRecDepth 65536 in
set_option maxHeartbeats 4000000 in
theorem own_ordinal (l : Launch) (Z : State) (a0 : Array Value) (hw : ∀ d ∈ tables_1, d.before a0 Z = true) (h0 : Heap) (n0 : Nat) (O : Old Z n0 h0) (a : Addr) (z : Int32) (F : Fld Z h0 a "com/example/floatbook/floatbook/core/Nearby" "position" "I" (.int z)) :
    ConS consts_1 l Z n0 (⟨"com/example/floatbook/floatbook/core/Nearby", "ordinal", "()Ljava/lang/String;"⟩ : MethodName) prog_20_method_2_code 1 (some (.object "java/lang/String")) [] ({ frames := 0, cells := 2, slots := 16, locals := 0 } : Room) #[(.ref a)] h0 [] [] (fun v h' => ∃ b t, v = some (.ref b) ∧ Str Z h' b t (if z = 1 then [49, 115, 116] else [50, 110, 100])) := by
  refine ConS.of (a0 := a0) (plainFor_of_name own_pn_8) O (own_EW hw) (fun _ q => nomatch q) ?_
  intro p e s m below meth c T S hby hml hret hnm
  refine Go.cast (own_ef_1 m a) ?_
  refine S.aloadN 1 (hb hby own_d_prog_20_method_2_code_0) rfl rfl ?_
  refine S.getf (host := "") 4 (hb hby own_d_prog_20_method_2_code_1) (Or.inl (Tw hw 52 rfl)) Via.refl F ?_
  intro T62 S63
  refine S63.iconst 5 (1 : Int32) (hb hby own_d_prog_20_method_2_code_4) ?_
  by_cases hq : z = (1 : Int32)
  · skip
    refine S63.icmpN 8 (hb hby own_d_prog_20_method_2_code_5) (qNeF hq) ?_
    refine S63.ldcR (n := 12) (vs := [(.int (49 : Int32)), (.int (115 : Int32)), (.int (116 : Int32))]) (z := (3 : Int32)) 10 (hb hby own_d_prog_20_method_2_code_8) (Tw hw 61 rfl) (own_wS hw) (by decide) ⟨by decide, by decide⟩ (by decide) (by decide) (by decide) (by decide) (by decide) (by decide) ?_
    intro T64 h65 b66 t67 k68 S69 E70 f71 f72 f73 f74 hne75
    have Z76 := Str.of f71 f72 f73 f74 [49, 115, 116] rfl rfl (by decide) (by decide)
    refine S69.goto 15 (hb hby own_d_prog_20_method_2_code_10) ?_
    exact S69.retA (hb hby own_d_prog_20_method_2_code_15) hret rfl rfl (by decide) (by decide) ⟨_, _, rfl, by simp [hq]; exact Z76⟩
  · skip
    refine S63.icmpY 13 (hb hby own_d_prog_20_method_2_code_5) (qNeT hq) ?_
    refine S63.ldcR (n := 12) (vs := [(.int (50 : Int32)), (.int (110 : Int32)), (.int (100 : Int32))]) (z := (3 : Int32)) 15 (hb hby own_d_prog_20_method_2_code_13) (Tw hw 99 rfl) (own_wS hw) (by decide) ⟨by decide, by decide⟩ (by decide) (by decide) (by decide) (by decide) (by decide) (by decide) ?_
    intro T77 h78 b79 t80 k81 S82 E83 f84 f85 f86 f87 hne88
    have Z89 := Str.of f84 f85 f86 f87 [50, 110, 100] rfl rfl (by decide) (by decide)
    exact S82.retA (hb hby own_d_prog_20_method_2_code_15) hret rfl rfl (by decide) (by decide) ⟨_, _, rfl, by simp [hq]; exact Z89⟩

theorem own_ef_9 (m : MethodId) (x0 : Int32) (x1 : Int32) (x2 : Int32) (x3 : Int32) (x4 : Int32) : entryFrame m #[(.int x0), (.int x1), (.int x2), (.int x3), (.int x4)] maxLocals = mkF m 0 #[.val (.int x0), .val (.int x1), .val (.int x2), .val (.int x3), .val (.int x4), .unset, .unset, .unset, .unset, .unset, .unset, .unset] [] := by first | rfl | (simp [entryFrame, mkF, argsToLocals, Value.category, maxLocals]; done)
theorem own_pd_10 : parseMethodDescriptor "([C)V" = some ⟨[(.array .char)], none⟩ := by decide +kernel
theorem own_pd_11 : parseMethodDescriptor "(Ljava/lang/String;ILjava/lang/String;)V" = some ⟨[(.object "java/lang/String"), .int, (.object "java/lang/String")], none⟩ := by decide +kernel
theorem own_pd_12 : parseMethodDescriptor "()Ljava/lang/String;" = some ⟨[], some (.object "java/lang/String")⟩ := by decide +kernel
theorem own_pd_13 : parseMethodDescriptor "()I" = some ⟨[], some .int⟩ := by decide +kernel
theorem own_pd_14 : parseMethodDescriptor "(I)C" = some ⟨[.int], some .char⟩ := by decide +kernel
theorem own_pn_15 : plainName "com/example/floatbook/floatbook/core/NearbyOrdinalPinLaw" = true := by first | (simp [plainName, overriddenIn]; done) | decide +kernel
set_option maxRecDepth 65536 in
set_option maxHeartbeats 4000000 in
theorem own_law (l : Launch) (Z : State) (a0 : Array Value) (hw : ∀ d ∈ tables_1, d.before a0 Z = true) (cm : Com Z) (sf : Sfo Z) (h0 : Heap) (n0 : Nat) (O : Old Z n0 h0) (p0 : Int32) (a1 : Int32) (b1 : Int32) (c1 : Int32) (d1 : Int32) :
    ConS consts_1 l Z n0 x code maxLocals ret tables_1 room_1 #[(.int p0), (.int a1), (.int b1), (.int c1), (.int d1)] h0 [] [] (fun v h' => v = some (.int 1)) := by
  refine ConS.of (a0 := a0) (plainFor_of_name own_pn_15) O (own_EW hw) (fun _ q => nomatch q) ?_
  intro p e s m below meth c T S hby hml hret hnm
  refine Go.cast (own_ef_9 m p0 a1 b1 c1 d1) ?_
  refine S.iconst 1 (1 : Int32) (hb hby at_0) ?_
  refine S.iloadN 2 (hb hby at_1) rfl ?_
  refine S.iconst 3 (1 : Int32) (hb hby at_2) ?_
  refine S.iand 4 (hb hby at_3) ?_
  show Go p e below _ T (mkF m 4 #[.val (.int p0), .val (.int a1), .val (.int b1), .val (.int c1), .val (.int d1), .unset, .unset, .unset, .unset, .unset, .unset, .unset] [(.int (p0 &&& (1 : Int32))), (.int (1 : Int32))])
  refine S.iadd 5 (hb hby at_4) ?_
  show Go p e below _ T (mkF m 5 #[.val (.int p0), .val (.int a1), .val (.int b1), .val (.int c1), .val (.int d1), .unset, .unset, .unset, .unset, .unset, .unset, .unset] [(.int ((1 : Int32) + (p0 &&& (1 : Int32))))])
  have pp_ps_90 := own_pos p0
  generalize e_ps_90 : ((1 : Int32) + (p0 &&& (1 : Int32))) = ps_90 at pp_ps_90 ⊢
  refine S.istore 7 #[.val (.int p0), .val (.int a1), .val (.int b1), .val (.int c1), .val (.int d1), .val (.int ps_90), .unset, .unset, .unset, .unset, .unset, .unset] (hb hby at_5) rfl ?_
  refine S.iconst 8 (2 : Int32) (hb hby at_7) ?_
  refine S.newarr 10 2 (hb hby at_8) (Tw hw 0 rfl) (by decide) (by decide) (by decide) (by decide) (by decide) ?_
  intro T91 h92 b93 k94 S95 E96 g97 wo98 A99
  have f100 : Arv Z h92 b93 k94 .char (2 : Int32) [(.int (0 : Int32)), (.int (0 : Int32))] (.int (0 : Int32)) := A99.pad (pad_rep [] (.int (0 : Int32)) 2)
  refine S95.astore 12 #[.val (.int p0), .val (.int a1), .val (.int b1), .val (.int c1), .val (.int d1), .val (.int ps_90), .val (.ref b93), .unset, .unset, .unset, .unset, .unset] (hb hby at_10) rfl rfl ?_
  refine S95.aload 14 (hb hby at_12) rfl rfl ?_
  refine S95.iconst 15 (0 : Int32) (hb hby at_14) ?_
  refine S95.iloadN 16 (hb hby at_15) rfl ?_
  refine S95.sipush 19 (255 : Int32) (hb hby at_16) ?_
  refine S95.iand 20 (hb hby at_19) ?_
  show Go p e below _ T91 (mkF m 20 #[.val (.int p0), .val (.int a1), .val (.int b1), .val (.int c1), .val (.int d1), .val (.int ps_90), .val (.ref b93), .unset, .unset, .unset, .unset, .unset] [(.int (a1 &&& (255 : Int32))), (.int (0 : Int32)), (.ref b93)])
  refine S95.i2c 21 (hb hby at_20) ?_
  have chr_c_101 := chr255 a1
  generalize e_c_101 : ((a1 &&& (255 : Int32)).toUInt32.toUInt16.toUInt32.toInt32) = c_101 at chr_c_101 ⊢
  refine S95.castore 22 0 (hb hby at_21) f100 ⟨by decide, by decide⟩ rfl (Nle rfl) wo98 ?_
  intro T102 h103 L104 S105 W106 A107
  rw [Chr.nar chr_c_101] at A107
  have f108 : Arv Z h103 b93 k94 .char (2 : Int32) [(.int c_101), (.int (0 : Int32))] (.int (0 : Int32)) := A107
  refine S105.aload 24 (hb hby at_22) rfl rfl ?_
  refine S105.iconst 25 (1 : Int32) (hb hby at_24) ?_
  refine S105.iloadN 26 (hb hby at_25) rfl ?_
  refine S105.sipush 29 (255 : Int32) (hb hby at_26) ?_
  refine S105.iand 30 (hb hby at_29) ?_
  show Go p e below _ T102 (mkF m 30 #[.val (.int p0), .val (.int a1), .val (.int b1), .val (.int c1), .val (.int d1), .val (.int ps_90), .val (.ref b93), .unset, .unset, .unset, .unset, .unset] [(.int (b1 &&& (255 : Int32))), (.int (1 : Int32)), (.ref b93)])
  refine S105.i2c 31 (hb hby at_30) ?_
  have chr_c_109 := chr255 b1
  generalize e_c_109 : ((b1 &&& (255 : Int32)).toUInt32.toUInt16.toUInt32.toInt32) = c_109 at chr_c_109 ⊢
  refine S105.castore 32 1 (hb hby at_31) f108 ⟨by decide, by decide⟩ rfl (Nle rfl) wo98 ?_
  intro T110 h111 L112 S113 W114 A115
  rw [Chr.nar chr_c_109] at A115
  have f116 : Arv Z h111 b93 k94 .char (2 : Int32) [(.int c_101), (.int c_109)] (.int (0 : Int32)) := A115
  refine S113.iconst 33 (2 : Int32) (hb hby at_32) ?_
  refine S113.newarr 35 2 (hb hby at_33) (Tw hw 0 rfl) (by decide) (by decide) (by decide) (by decide) (by decide) ?_
  intro T117 h118 b119 k120 S121 E122 g123 wo124 A125
  have l126 : b93 < b119 := (by rw [g123]; exact f116.lt)
  have f127 : Arv Z h118 b119 k120 .char (2 : Int32) [(.int (0 : Int32)), (.int (0 : Int32))] (.int (0 : Int32)) := A125.pad (pad_rep [] (.int (0 : Int32)) 2)
  refine S121.astore 37 #[.val (.int p0), .val (.int a1), .val (.int b1), .val (.int c1), .val (.int d1), .val (.int ps_90), .val (.ref b93), .val (.ref b119), .unset, .unset, .unset, .unset] (hb hby at_35) rfl rfl ?_
  refine S121.aload 39 (hb hby at_37) rfl rfl ?_
  refine S121.iconst 40 (0 : Int32) (hb hby at_39) ?_
  refine S121.iloadN 41 (hb hby at_40) rfl ?_
  refine S121.sipush 44 (255 : Int32) (hb hby at_41) ?_
  refine S121.iand 45 (hb hby at_44) ?_
  show Go p e below _ T117 (mkF m 45 #[.val (.int p0), .val (.int a1), .val (.int b1), .val (.int c1), .val (.int d1), .val (.int ps_90), .val (.ref b93), .val (.ref b119), .unset, .unset, .unset, .unset] [(.int (c1 &&& (255 : Int32))), (.int (0 : Int32)), (.ref b119)])
  refine S121.i2c 46 (hb hby at_45) ?_
  have chr_c_128 := chr255 c1
  generalize e_c_128 : ((c1 &&& (255 : Int32)).toUInt32.toUInt16.toUInt32.toInt32) = c_128 at chr_c_128 ⊢
  refine S121.castore 47 0 (hb hby at_46) f127 ⟨by decide, by decide⟩ rfl (Nle rfl) wo124 ?_
  intro T129 h130 L131 S132 W133 A134
  rw [Chr.nar chr_c_128] at A134
  have f135 : Arv Z h130 b119 k120 .char (2 : Int32) [(.int c_128), (.int (0 : Int32))] (.int (0 : Int32)) := A134
  refine S132.aload 49 (hb hby at_47) rfl rfl ?_
  refine S132.iconst 50 (1 : Int32) (hb hby at_49) ?_
  refine S132.iload 52 (hb hby at_50) rfl ?_
  refine S132.sipush 55 (255 : Int32) (hb hby at_52) ?_
  refine S132.iand 56 (hb hby at_55) ?_
  show Go p e below _ T129 (mkF m 56 #[.val (.int p0), .val (.int a1), .val (.int b1), .val (.int c1), .val (.int d1), .val (.int ps_90), .val (.ref b93), .val (.ref b119), .unset, .unset, .unset, .unset] [(.int (d1 &&& (255 : Int32))), (.int (1 : Int32)), (.ref b119)])
  refine S132.i2c 57 (hb hby at_56) ?_
  have chr_c_136 := chr255 d1
  generalize e_c_136 : ((d1 &&& (255 : Int32)).toUInt32.toUInt16.toUInt32.toInt32) = c_136 at chr_c_136 ⊢
  refine S132.castore 58 1 (hb hby at_57) f135 ⟨by decide, by decide⟩ rfl (Nle rfl) wo124 ?_
  intro T137 h138 L139 S140 W141 A142
  rw [Chr.nar chr_c_136] at A142
  have f143 : Arv Z h138 b119 k120 .char (2 : Int32) [(.int c_128), (.int c_136)] (.int (0 : Int32)) := A142
  refine S140.new 61 (hb hby at_58) (Tw hw 1 rfl) (Tw hw 2 rfl) (Tw hw 3 rfl) (by decide) (by decide) ?_
  intro T144 h145 b146 S147 E148 g149 wo150 A151 D152 U153
  have f154 := (((f116.ext E122).other W133 (Nat.ne_of_lt l126)).other W141 (Nat.ne_of_lt l126))
  have l155 : b93 < b146 := (by rw [g149]; exact f154.lt)
  have l156 : b119 < b146 := (by rw [g149]; exact f143.lt)
  have f157 : Fld Z h145 b146 "com/example/floatbook/floatbook/core/Nearby" "contractField" "Ljava/lang/String;" .null := D152 (Or.inr (Tw hw 51 rfl)) (ty := (.object "java/lang/String")) (by decide)
  have f158 : Fld Z h145 b146 "com/example/floatbook/floatbook/core/Nearby" "position" "I" (.int (0 : Int32)) := D152 (Or.inr (Tw hw 53 rfl)) (ty := .int) (by decide)
  have f159 : Fld Z h145 b146 "com/example/floatbook/floatbook/core/Nearby" "expiries" "Ljava/lang/String;" .null := D152 (Or.inr (Tw hw 55 rfl)) (ty := (.object "java/lang/String")) (by decide)
  refine S147.dup 62 (hb hby at_61) rfl ?_
  refine S147.new 65 (hb hby at_62) (Tw hw 4 rfl) (Tw hw 5 rfl) (Tw hw 6 rfl) (by decide) (by decide) ?_
  intro T160 h161 b162 S163 E164 g165 wo166 A167 D168 U169
  have f170 := (f154.ext E148)
  have l171 : b93 < b162 := (by rw [g165]; exact f170.lt)
  have f172 := (f143.ext E148)
  have l173 : b119 < b162 := (by rw [g165]; exact f172.lt)
  have l174 : b146 < b162 := (by rw [g165]; exact A151.lt)
  have f175 : Fld Z h161 b162 "java/lang/String" "coder" "B" (.int (0 : Int32)) := D168 (Or.inr (Tw hw 30 rfl)) (ty := .byte) (by decide)
  have f176 : Fld Z h161 b162 "java/lang/String" "value" "[B" .null := D168 (Or.inr (Tw hw 32 rfl)) (ty := (.array .byte)) (by decide)
  refine S163.dup 66 (hb hby at_65) rfl ?_
  refine S163.aload 68 (hb hby at_66) rfl rfl ?_
  have f177 := (f170.ext E164)
  have hp178 : ∀ c ∈ ([c_101, c_109] : List Int32), ¬ c < 0 ∧ ¬ (255 : Int32) < c := by
    intro c hc
    simp only [List.mem_cons, List.not_mem_nil, or_false] at hc
    rcases hc with rfl | rfl
    · exact chr_c_101
    · exact chr_c_109
  refine S163.icall 71 (hb hby at_68) (by rw [hml]; rfl) rfl (Tw hw 7 rfl) (Tw hw 8 rfl) (Tw hw 9 rfl) (by decide) [(.ref b93)] [(.ref b162), (.ref b146), (.ref b146)] (payNew (W := 3) (n := 2) (cs := ([c_101, c_109] : List Int32)) hw (Tw hw 5 rfl) cm S163.old (S163.ge wo166) A167 f176 f175 f177 rfl rfl (by decide) (by decide) hp178 (by decide) (by decide)) (lenOf own_pd_10 rfl) rfl (Nle rfl) (by decide) (by decide) (Wrs.one wo166 (Or.inl (by simp))) ?_
  intro v179 T180 h181 L182 S183 q184 K185
  obtain ⟨rfl, t186, g187, Z188⟩ := q184
  have l189 : b93 < t186 := Nat.lt_of_lt_of_le f177.lt g187
  have f191 := (f172.ext E164)
  have l190 : b119 < t186 := Nat.lt_of_lt_of_le f191.lt g187
  have f193 := (A151.ext E164)
  have l192 : b146 < t186 := Nat.lt_of_lt_of_le f193.lt g187
  have l194 : b162 < t186 := Nat.lt_of_lt_of_le A167.lt g187
  have f195 := Z188.exa
  show Go p e below _ T180 (mkF m 71 #[.val (.int p0), .val (.int a1), .val (.int b1), .val (.int c1), .val (.int d1), .val (.int ps_90), .val (.ref b93), .val (.ref b119), .unset, .unset, .unset, .unset] [(.ref b162), (.ref b146), (.ref b146)])
  refine S183.iload 73 (hb hby at_71) rfl ?_
  refine S183.new 76 (hb hby at_73) (Tw hw 4 rfl) (Tw hw 5 rfl) (Tw hw 6 rfl) (by decide) (by decide) ?_
  intro T196 h197 b198 S199 E200 g201 wo202 A203 D204 U205
  have f206 := (f177.keep K185 (ninS (Nat.ne_of_lt l171) nin0))
  have l207 : b93 < b198 := (by rw [g201]; exact f206.lt)
  have f208 := (f191.keep K185 (ninS (Nat.ne_of_lt l173) nin0))
  have l209 : b119 < b198 := (by rw [g201]; exact f208.lt)
  have f210 := (f193.keep K185)
  have l211 : b146 < b198 := (by rw [g201]; exact f210.lt)
  have l212 : b162 < b198 := (by rw [g201]; exact f195.lt)
  have l213 : t186 < b198 := (by rw [g201]; exact Z188.lt')
  have f214 : Fld Z h197 b198 "java/lang/String" "coder" "B" (.int (0 : Int32)) := D204 (Or.inr (Tw hw 30 rfl)) (ty := .byte) (by decide)
  have f215 : Fld Z h197 b198 "java/lang/String" "value" "[B" .null := D204 (Or.inr (Tw hw 32 rfl)) (ty := (.array .byte)) (by decide)
  refine S199.dup 77 (hb hby at_76) rfl ?_
  refine S199.aload 79 (hb hby at_77) rfl rfl ?_
  have f216 := (f208.ext E200)
  have hp217 : ∀ c ∈ ([c_128, c_136] : List Int32), ¬ c < 0 ∧ ¬ (255 : Int32) < c := by
    intro c hc
    simp only [List.mem_cons, List.not_mem_nil, or_false] at hc
    rcases hc with rfl | rfl
    · exact chr_c_128
    · exact chr_c_136
  refine S199.icall 82 (hb hby at_79) (by rw [hml]; rfl) rfl (Tw hw 7 rfl) (Tw hw 8 rfl) (Tw hw 9 rfl) (by decide) [(.ref b119)] [(.ref b198), (.int ps_90), (.ref b162), (.ref b146), (.ref b146)] (payNew (W := 5) (n := 2) (cs := ([c_128, c_136] : List Int32)) hw (Tw hw 5 rfl) cm S199.old (S199.ge wo202) A203 f215 f214 f216 rfl rfl (by decide) (by decide) hp217 (by decide) (by decide)) (lenOf own_pd_10 rfl) rfl (Nle rfl) (by decide) (by decide) (Wrs.one wo202 (Or.inl (by simp))) ?_
  intro v218 T219 h220 L221 S222 q223 K224
  obtain ⟨rfl, t225, g226, Z227⟩ := q223
  have f229 := (f206.ext E200)
  have l228 : b93 < t225 := Nat.lt_of_lt_of_le f229.lt g226
  have l230 : b119 < t225 := Nat.lt_of_lt_of_le f216.lt g226
  have f232 := (f210.ext E200)
  have l231 : b146 < t225 := Nat.lt_of_lt_of_le f232.lt g226
  have f234 := (f195.ext E200)
  have l233 : b162 < t225 := Nat.lt_of_lt_of_le f234.lt g226
  have f236 := (Z188.ext E200)
  have l235 : t186 < t225 := Nat.lt_of_lt_of_le f236.lt' g226
  have l237 : b198 < t225 := Nat.lt_of_lt_of_le A203.lt g226
  have f238 := Z227.exa
  show Go p e below _ T219 (mkF m 82 #[.val (.int p0), .val (.int a1), .val (.int b1), .val (.int c1), .val (.int d1), .val (.int ps_90), .val (.ref b93), .val (.ref b119), .unset, .unset, .unset, .unset] [(.ref b198), (.int ps_90), (.ref b162), (.ref b146), (.ref b146)])
  have hp1 : ¬ ps_90 < (1 : Int32) := by rcases pp_ps_90 with q | q <;> rw [q] <;> decide
  have hp2 : ¬ (2 : Int32) < ps_90 := by rcases pp_ps_90 with q | q <;> rw [q] <;> decide
  have f239 := (f232.keep K224)
  have f240 := ((((f157.ext E164).keep K185 (ninS (Nat.ne_of_lt l174) nin0)).ext E200).keep K224 (ninS (Nat.ne_of_lt l211) nin0))
  have f241 := ((((f158.ext E164).keep K185 (ninS (Nat.ne_of_lt l174) nin0)).ext E200).keep K224 (ninS (Nat.ne_of_lt l211) nin0))
  have f242 := ((((f159.ext E164).keep K185 (ninS (Nat.ne_of_lt l174) nin0)).ext E200).keep K224 (ninS (Nat.ne_of_lt l211) nin0))
  refine S222.icallS 85 (hb hby at_82) (by rw [hml]; rfl) rfl (Tw hw 33 rfl) (Tw hw 34 rfl) (Tw hw 35 rfl) (by decide) [(.ref b162), (.int ps_90), (.ref b198)] [(.ref b146)] (ConS.pay (W := 1) (own_init l Z a0 hw h220 n0 S222.old b146 b162 ps_90 b198 (S222.ge wo150) hp1 hp2 f239 f240 f241 f242) (Tw hw 35 rfl) (Tw hw 3 rfl) (by decide) (by decide)) (lenOf own_pd_11 rfl) rfl (Nle rfl) (by decide) (by decide) (Wrs.one wo150 (Or.inr ⟨_, f239, by decide, by decide⟩)) (by simp) ?_
  intro v243 T244 h245 L246 S247 q248 K249
  obtain ⟨rfl, f250, f251⟩ := q248
  show Go p e below _ T244 (mkF m 85 #[.val (.int p0), .val (.int a1), .val (.int b1), .val (.int c1), .val (.int d1), .val (.int ps_90), .val (.ref b93), .val (.ref b119), .unset, .unset, .unset, .unset] [(.ref b146)])
  refine S247.astore 87 #[.val (.int p0), .val (.int a1), .val (.int b1), .val (.int c1), .val (.int d1), .val (.int ps_90), .val (.ref b93), .val (.ref b119), .val (.ref b146), .unset, .unset, .unset] (hb hby at_85) rfl rfl ?_
  refine S247.aload 89 (hb hby at_87) rfl rfl ?_
  refine S247.vcallS 92 (hb hby at_89) (by rw [hml]; rfl) (Tw hw 56 rfl) (Tw hw 57 rfl) (Tw hw 59 rfl) (Tw hw 58 rfl) (nfSel (Tw hw 59 rfl)) (by decide) f250 [] [] (ConS.pay (W := 0) (own_ordinal l Z a0 hw h245 n0 S247.old b146 ps_90 f251) (Tw hw 60 rfl) (Tw hw 3 rfl) (by decide) (by decide)) (lenOf own_pd_12 rfl) rfl (Nle rfl) (by decide) (by decide) Wrs.nil (by simp) ?_
  intro v252 T253 h254 L255 S256 q257 K258
  obtain ⟨b259, t260, rfl, f261⟩ := q257
  show Go p e below _ T253 (mkF m 92 #[.val (.int p0), .val (.int a1), .val (.int b1), .val (.int c1), .val (.int d1), .val (.int ps_90), .val (.ref b93), .val (.ref b119), .val (.ref b146), .unset, .unset, .unset] [(.ref b259)])
  refine S256.astore 94 #[.val (.int p0), .val (.int a1), .val (.int b1), .val (.int c1), .val (.int d1), .val (.int ps_90), .val (.ref b93), .val (.ref b119), .val (.ref b146), .val (.ref b259), .unset, .unset] (hb hby at_92) rfl rfl ?_
  rcases pp_ps_90 with rfl | rfl
  · skip
    rw [if_pos rfl] at f261
    have f262 := f261.exa
    refine S256.aload 96 (hb hby at_94) rfl rfl ?_
    refine S256.nonnullY 101 (hb hby at_96) ?_
    refine S256.aload 103 (hb hby at_101) rfl rfl ?_
    refine S256.vcall 106 (hb hby at_103) (by rw [hml]; rfl) (Tw hw 62 rfl) (Tw hw 63 rfl) (Tw hw 65 rfl) (Tw hw 64 rfl) (nfSel (Tw hw 65 rfl)) (by decide) f262 [] [] (payLen (W := 0) hw (Tw hw 5 rfl) cm S256.old f261 (by decide) (by decide)) (lenOf own_pd_13 rfl) rfl (Nle rfl) (by decide) (by decide) Wrs.nil ?_
    intro v263 T264 h265 L266 S267 q268 K269
    obtain ⟨rfl, e_q268⟩ := q268
    obtain rfl := e_q268.symm
    show Go p e below _ T264 (mkF m 106 #[.val (.int p0), .val (.int a1), .val (.int b1), .val (.int c1), .val (.int d1), .val (.int (1 : Int32)), .val (.ref b93), .val (.ref b119), .val (.ref b146), .val (.ref b259), .unset, .unset] [(.int (3 : Int32))])
    refine S267.iconst 107 (3 : Int32) (hb hby at_106) ?_
    refine S267.icmpY 112 (hb hby at_107) (qEqT (by decide)) ?_
    refine S267.aload 114 (hb hby at_112) rfl rfl ?_
    refine S267.iconst 115 (0 : Int32) (hb hby at_114) ?_
    refine S267.vcall 118 (hb hby at_115) (by rw [hml]; rfl) (Tw hw 72 rfl) (Tw hw 73 rfl) (Tw hw 75 rfl) (Tw hw 74 rfl) (nfSel (Tw hw 75 rfl)) (by decide) f262 [(.int (0 : Int32))] [] (payCh (W := 0) hw (Tw hw 5 rfl) cm sf S267.old f261 (i := 0) (Nle rfl) rfl (by decide) (by decide)) (lenOf own_pd_14 rfl) rfl (Nle rfl) (by decide) (by decide) Wrs.nil ?_
    intro v270 T271 h272 L273 S274 q275 K276
    obtain ⟨rfl, e_q275⟩ := q275
    obtain rfl := e_q275.symm
    show Go p e below _ T271 (mkF m 118 #[.val (.int p0), .val (.int a1), .val (.int b1), .val (.int c1), .val (.int d1), .val (.int (1 : Int32)), .val (.ref b93), .val (.ref b119), .val (.ref b146), .val (.ref b259), .unset, .unset] [(.int (49 : Int32))])
    refine S274.bipush 120 (48 : Int32) (hb hby at_118) ?_
    refine S274.iload 122 (hb hby at_120) rfl ?_
    refine S274.iadd 123 (hb hby at_122) ?_
    show Go p e below _ T271 (mkF m 123 #[.val (.int p0), .val (.int a1), .val (.int b1), .val (.int c1), .val (.int d1), .val (.int (1 : Int32)), .val (.ref b93), .val (.ref b119), .val (.ref b146), .val (.ref b259), .unset, .unset] [(.int ((48 : Int32) + (1 : Int32))), (.int (49 : Int32))])
    rw [show ((48 : Int32) + (1 : Int32)) = (49 : Int32) from by decide]
    refine S274.i2c 124 (hb hby at_123) ?_
    refine S274.icmpY 129 (hb hby at_124) (qEqT (by decide)) ?_
    refine S274.iload 131 (hb hby at_129) rfl ?_
    refine S274.iconst 132 (1 : Int32) (hb hby at_131) ?_
    refine S274.icmpN 135 (hb hby at_132) (qNeF (by decide)) ?_
    refine S274.bipush 137 (115 : Int32) (hb hby at_135) ?_
    refine S274.istore 139 #[.val (.int p0), .val (.int a1), .val (.int b1), .val (.int c1), .val (.int d1), .val (.int (1 : Int32)), .val (.ref b93), .val (.ref b119), .val (.ref b146), .val (.ref b259), .val (.int (115 : Int32)), .unset] (hb hby at_137) rfl ?_
    refine S274.bipush 141 (116 : Int32) (hb hby at_139) ?_
    refine S274.istore 143 #[.val (.int p0), .val (.int a1), .val (.int b1), .val (.int c1), .val (.int d1), .val (.int (1 : Int32)), .val (.ref b93), .val (.ref b119), .val (.ref b146), .val (.ref b259), .val (.int (115 : Int32)), .val (.int (116 : Int32))] (hb hby at_141) rfl ?_
    refine S274.goto 154 (hb hby at_143) ?_
    refine S274.aload 156 (hb hby at_154) rfl rfl ?_
    refine S274.iconst 157 (1 : Int32) (hb hby at_156) ?_
    refine S274.vcall 160 (hb hby at_157) (by rw [hml]; rfl) (Tw hw 72 rfl) (Tw hw 73 rfl) (Tw hw 75 rfl) (Tw hw 74 rfl) (nfSel (Tw hw 75 rfl)) (by decide) f262 [(.int (1 : Int32))] [] (payCh (W := 0) hw (Tw hw 5 rfl) cm sf S274.old f261 (i := 1) (Nle rfl) rfl (by decide) (by decide)) (lenOf own_pd_14 rfl) rfl (Nle rfl) (by decide) (by decide) Wrs.nil ?_
    intro v277 T278 h279 L280 S281 q282 K283
    obtain ⟨rfl, e_q282⟩ := q282
    obtain rfl := e_q282.symm
    show Go p e below _ T278 (mkF m 160 #[.val (.int p0), .val (.int a1), .val (.int b1), .val (.int c1), .val (.int d1), .val (.int (1 : Int32)), .val (.ref b93), .val (.ref b119), .val (.ref b146), .val (.ref b259), .val (.int (115 : Int32)), .val (.int (116 : Int32))] [(.int (115 : Int32))])
    refine S281.iload 162 (hb hby at_160) rfl ?_
    refine S281.icmpN 165 (hb hby at_162) (qNeF (by decide)) ?_
    refine S281.aload 167 (hb hby at_165) rfl rfl ?_
    refine S281.iconst 168 (2 : Int32) (hb hby at_167) ?_
    refine S281.vcall 171 (hb hby at_168) (by rw [hml]; rfl) (Tw hw 72 rfl) (Tw hw 73 rfl) (Tw hw 75 rfl) (Tw hw 74 rfl) (nfSel (Tw hw 75 rfl)) (by decide) f262 [(.int (2 : Int32))] [] (payCh (W := 0) hw (Tw hw 5 rfl) cm sf S281.old f261 (i := 2) (Nle rfl) rfl (by decide) (by decide)) (lenOf own_pd_14 rfl) rfl (Nle rfl) (by decide) (by decide) Wrs.nil ?_
    intro v284 T285 h286 L287 S288 q289 K290
    obtain ⟨rfl, e_q289⟩ := q289
    obtain rfl := e_q289.symm
    show Go p e below _ T285 (mkF m 171 #[.val (.int p0), .val (.int a1), .val (.int b1), .val (.int c1), .val (.int d1), .val (.int (1 : Int32)), .val (.ref b93), .val (.ref b119), .val (.ref b146), .val (.ref b259), .val (.int (115 : Int32)), .val (.int (116 : Int32))] [(.int (116 : Int32))])
    refine S288.iload 173 (hb hby at_171) rfl ?_
    refine S288.icmpN 176 (hb hby at_173) (qNeF (by decide)) ?_
    refine S288.aload 178 (hb hby at_176) rfl rfl ?_
    have f291 := (f251.keep K258 nin0)
    have f299 := (f250.keep K258)
    refine S288.vcall 181 (hb hby at_178) (by rw [hml]; rfl) (Tw hw 94 rfl) (Tw hw 95 rfl) (Tw hw 97 rfl) (Tw hw 96 rfl) (nfSel (Tw hw 97 rfl)) (by decide) f299 [] [] (Con.pay (W := 0) (own_position l Z a0 hw h254 n0 S288.old b146 (1 : Int32) f291) (Tw hw 98 rfl) (Tw hw 3 rfl) (by decide) (by decide)) (lenOf own_pd_13 rfl) rfl (Nle rfl) (by decide) (by decide) Wrs.nil ?_
    intro v292 T293 h294 L295 S296 q297 K298
    obtain ⟨rfl, e_q297⟩ := q297
    obtain rfl := e_q297.symm
    show Go p e below _ T293 (mkF m 181 #[.val (.int p0), .val (.int a1), .val (.int b1), .val (.int c1), .val (.int d1), .val (.int (1 : Int32)), .val (.ref b93), .val (.ref b119), .val (.ref b146), .val (.ref b259), .val (.int (115 : Int32)), .val (.int (116 : Int32))] [(.int (1 : Int32))])
    refine S296.iload 183 (hb hby at_181) rfl ?_
    refine S296.icmpN 186 (hb hby at_183) (qNeF (by decide)) ?_
    refine S296.iconst 187 (1 : Int32) (hb hby at_186) ?_
    refine S296.goto 191 (hb hby at_187) ?_
    exact S296.retN (t := .boolean) (hb hby at_191) hret (by decide) (by decide) (by decide) rfl
  · skip
    rw [if_neg (by decide)] at f261
    have f300 := f261.exa
    refine S256.aload 96 (hb hby at_94) rfl rfl ?_
    refine S256.nonnullY 101 (hb hby at_96) ?_
    refine S256.aload 103 (hb hby at_101) rfl rfl ?_
    refine S256.vcall 106 (hb hby at_103) (by rw [hml]; rfl) (Tw hw 62 rfl) (Tw hw 63 rfl) (Tw hw 65 rfl) (Tw hw 64 rfl) (nfSel (Tw hw 65 rfl)) (by decide) f300 [] [] (payLen (W := 0) hw (Tw hw 5 rfl) cm S256.old f261 (by decide) (by decide)) (lenOf own_pd_13 rfl) rfl (Nle rfl) (by decide) (by decide) Wrs.nil ?_
    intro v301 T302 h303 L304 S305 q306 K307
    obtain ⟨rfl, e_q306⟩ := q306
    obtain rfl := e_q306.symm
    show Go p e below _ T302 (mkF m 106 #[.val (.int p0), .val (.int a1), .val (.int b1), .val (.int c1), .val (.int d1), .val (.int (2 : Int32)), .val (.ref b93), .val (.ref b119), .val (.ref b146), .val (.ref b259), .unset, .unset] [(.int (3 : Int32))])
    refine S305.iconst 107 (3 : Int32) (hb hby at_106) ?_
    refine S305.icmpY 112 (hb hby at_107) (qEqT (by decide)) ?_
    refine S305.aload 114 (hb hby at_112) rfl rfl ?_
    refine S305.iconst 115 (0 : Int32) (hb hby at_114) ?_
    refine S305.vcall 118 (hb hby at_115) (by rw [hml]; rfl) (Tw hw 72 rfl) (Tw hw 73 rfl) (Tw hw 75 rfl) (Tw hw 74 rfl) (nfSel (Tw hw 75 rfl)) (by decide) f300 [(.int (0 : Int32))] [] (payCh (W := 0) hw (Tw hw 5 rfl) cm sf S305.old f261 (i := 0) (Nle rfl) rfl (by decide) (by decide)) (lenOf own_pd_14 rfl) rfl (Nle rfl) (by decide) (by decide) Wrs.nil ?_
    intro v308 T309 h310 L311 S312 q313 K314
    obtain ⟨rfl, e_q313⟩ := q313
    obtain rfl := e_q313.symm
    show Go p e below _ T309 (mkF m 118 #[.val (.int p0), .val (.int a1), .val (.int b1), .val (.int c1), .val (.int d1), .val (.int (2 : Int32)), .val (.ref b93), .val (.ref b119), .val (.ref b146), .val (.ref b259), .unset, .unset] [(.int (50 : Int32))])
    refine S312.bipush 120 (48 : Int32) (hb hby at_118) ?_
    refine S312.iload 122 (hb hby at_120) rfl ?_
    refine S312.iadd 123 (hb hby at_122) ?_
    show Go p e below _ T309 (mkF m 123 #[.val (.int p0), .val (.int a1), .val (.int b1), .val (.int c1), .val (.int d1), .val (.int (2 : Int32)), .val (.ref b93), .val (.ref b119), .val (.ref b146), .val (.ref b259), .unset, .unset] [(.int ((48 : Int32) + (2 : Int32))), (.int (50 : Int32))])
    rw [show ((48 : Int32) + (2 : Int32)) = (50 : Int32) from by decide]
    refine S312.i2c 124 (hb hby at_123) ?_
    refine S312.icmpY 129 (hb hby at_124) (qEqT (by decide)) ?_
    refine S312.iload 131 (hb hby at_129) rfl ?_
    refine S312.iconst 132 (1 : Int32) (hb hby at_131) ?_
    refine S312.icmpY 146 (hb hby at_132) (qNeT (by decide)) ?_
    refine S312.bipush 148 (110 : Int32) (hb hby at_146) ?_
    refine S312.istore 150 #[.val (.int p0), .val (.int a1), .val (.int b1), .val (.int c1), .val (.int d1), .val (.int (2 : Int32)), .val (.ref b93), .val (.ref b119), .val (.ref b146), .val (.ref b259), .val (.int (110 : Int32)), .unset] (hb hby at_148) rfl ?_
    refine S312.bipush 152 (100 : Int32) (hb hby at_150) ?_
    refine S312.istore 154 #[.val (.int p0), .val (.int a1), .val (.int b1), .val (.int c1), .val (.int d1), .val (.int (2 : Int32)), .val (.ref b93), .val (.ref b119), .val (.ref b146), .val (.ref b259), .val (.int (110 : Int32)), .val (.int (100 : Int32))] (hb hby at_152) rfl ?_
    refine S312.aload 156 (hb hby at_154) rfl rfl ?_
    refine S312.iconst 157 (1 : Int32) (hb hby at_156) ?_
    refine S312.vcall 160 (hb hby at_157) (by rw [hml]; rfl) (Tw hw 72 rfl) (Tw hw 73 rfl) (Tw hw 75 rfl) (Tw hw 74 rfl) (nfSel (Tw hw 75 rfl)) (by decide) f300 [(.int (1 : Int32))] [] (payCh (W := 0) hw (Tw hw 5 rfl) cm sf S312.old f261 (i := 1) (Nle rfl) rfl (by decide) (by decide)) (lenOf own_pd_14 rfl) rfl (Nle rfl) (by decide) (by decide) Wrs.nil ?_
    intro v315 T316 h317 L318 S319 q320 K321
    obtain ⟨rfl, e_q320⟩ := q320
    obtain rfl := e_q320.symm
    show Go p e below _ T316 (mkF m 160 #[.val (.int p0), .val (.int a1), .val (.int b1), .val (.int c1), .val (.int d1), .val (.int (2 : Int32)), .val (.ref b93), .val (.ref b119), .val (.ref b146), .val (.ref b259), .val (.int (110 : Int32)), .val (.int (100 : Int32))] [(.int (110 : Int32))])
    refine S319.iload 162 (hb hby at_160) rfl ?_
    refine S319.icmpN 165 (hb hby at_162) (qNeF (by decide)) ?_
    refine S319.aload 167 (hb hby at_165) rfl rfl ?_
    refine S319.iconst 168 (2 : Int32) (hb hby at_167) ?_
    refine S319.vcall 171 (hb hby at_168) (by rw [hml]; rfl) (Tw hw 72 rfl) (Tw hw 73 rfl) (Tw hw 75 rfl) (Tw hw 74 rfl) (nfSel (Tw hw 75 rfl)) (by decide) f300 [(.int (2 : Int32))] [] (payCh (W := 0) hw (Tw hw 5 rfl) cm sf S319.old f261 (i := 2) (Nle rfl) rfl (by decide) (by decide)) (lenOf own_pd_14 rfl) rfl (Nle rfl) (by decide) (by decide) Wrs.nil ?_
    intro v322 T323 h324 L325 S326 q327 K328
    obtain ⟨rfl, e_q327⟩ := q327
    obtain rfl := e_q327.symm
    show Go p e below _ T323 (mkF m 171 #[.val (.int p0), .val (.int a1), .val (.int b1), .val (.int c1), .val (.int d1), .val (.int (2 : Int32)), .val (.ref b93), .val (.ref b119), .val (.ref b146), .val (.ref b259), .val (.int (110 : Int32)), .val (.int (100 : Int32))] [(.int (100 : Int32))])
    refine S326.iload 173 (hb hby at_171) rfl ?_
    refine S326.icmpN 176 (hb hby at_173) (qNeF (by decide)) ?_
    refine S326.aload 178 (hb hby at_176) rfl rfl ?_
    have f329 := (f251.keep K258 nin0)
    have f337 := (f250.keep K258)
    refine S326.vcall 181 (hb hby at_178) (by rw [hml]; rfl) (Tw hw 94 rfl) (Tw hw 95 rfl) (Tw hw 97 rfl) (Tw hw 96 rfl) (nfSel (Tw hw 97 rfl)) (by decide) f337 [] [] (Con.pay (W := 0) (own_position l Z a0 hw h254 n0 S326.old b146 (2 : Int32) f329) (Tw hw 98 rfl) (Tw hw 3 rfl) (by decide) (by decide)) (lenOf own_pd_13 rfl) rfl (Nle rfl) (by decide) (by decide) Wrs.nil ?_
    intro v330 T331 h332 L333 S334 q335 K336
    obtain ⟨rfl, e_q335⟩ := q335
    obtain rfl := e_q335.symm
    show Go p e below _ T331 (mkF m 181 #[.val (.int p0), .val (.int a1), .val (.int b1), .val (.int c1), .val (.int d1), .val (.int (2 : Int32)), .val (.ref b93), .val (.ref b119), .val (.ref b146), .val (.ref b259), .val (.int (110 : Int32)), .val (.int (100 : Int32))] [(.int (2 : Int32))])
    refine S334.iload 183 (hb hby at_181) rfl ?_
    refine S334.icmpN 186 (hb hby at_183) (qNeF (by decide)) ?_
    refine S334.iconst 187 (1 : Int32) (hb hby at_186) ?_
    refine S334.goto 191 (hb hby at_187) ?_
    exact S334.retN (t := .boolean) (hb hby at_191) hret (by decide) (by decide) (by decide) rfl

theorem own_start {a0 : Array Value} {Z : State} (hw : ∀ d ∈ tables_1, d.before a0 Z = true) (hE : EW Z a0 consts_1) (hh : ∀ p ∈ consts_1, Jvm.Lit.constHeld Z p.1 p.2) (hcw : Jvm.Lit.compactW.before a0 Z = true) : CHv Z consts_1 Z.vm Z.heap :=
  CHv.start hE hh hcw (Tw hw 22 rfl) (Tw hw 5 rfl)
set_option maxRecDepth 65536 in
set_option maxHeartbeats 40000000 in
theorem own_comes {Post : Tables → Env → Array Value → State → Outcome → State → Prop} (hpost : ∀ tb e args s v u, (limb_1_1.after args s (.returned v) u = true ∧ limb_1_2.after args s (.returned v) u = true ∧ True) → ReturnedEndW s (.returned v) u (Jvm.fieldLocs frame_1_writes args s ++ Jvm.arrayLocs frame_1_arrays args s ++ Jvm.staticLocs frame_1_statics s) 32 4224 → Post tb e args s (.returned v) u) :
    ArmFor flags0 classFile x code maxLocals ret World_1 tables_1 room_1 Calls_1 rest_1 Pre_1 Post := by
  intro l hfl _ _ p e ha hc hk s m args below hf hA hF happ hP
  obtain ⟨hcalls, hrest, hpre⟩ := hP
  obtain ⟨-, -, -, hnamed, -, -, -, hat⟩ := (Spec.applies_iff hf).mp happ
  obtain ⟨hg, hn⟩ := and_e (Cond.before_iff.mp (show (Jvm.Cond.and given_1 narrow_1).before args s = true from hpre))
  obtain ⟨g0, q0⟩ := and_e hg
  obtain ⟨g1, q1⟩ := and_e q0
  obtain ⟨g2, q2⟩ := and_e q1
  obtain ⟨g3, q3⟩ := and_e q2
  obtain ⟨g4, q4⟩ := and_e q3
  obtain ⟨w0, w1, w2, w3, w4, rfl⟩ : ∃ w0 w1 w2 w3 w4 : Value, args = #[w0, w1, w2, w3, w4] := by
    have hs : args.size = 5 := by simpa [Cond.value, given_1] using g0
    obtain ⟨L⟩ := args
    match L, hs with
    | [w0, w1, w2, w3, w4], _ => exact ⟨w0, w1, w2, w3, w4, rfl⟩
  have hw := fun d (hd : d ∈ tables_1) => atoms_spec (ws := Jvm.Cond.code x code maxLocals ret :: tables_1) hat d (List.mem_cons_of_mem _ hd)
  obtain ⟨hsets, hown0⟩ := atoms_of _ (rest_1_c_eq ▸ (show rest_1_c.before _ s = true from hrest))
  have hr0 := Cond.before_iff.mp hown0
  have hfit : Fit s := fun {y c} hc i hi => by
    obtain ⟨ha, rfl⟩ := Array.getElem?_eq_some_iff.mp hc
    have q := List.all_eq_true.mp ((Array.all_eq_true_iff_forall_mem.mp hF) _ (Array.getElem_mem ha)) i (List.mem_range.mpr hi)
    simpa [Array.getElem?_eq_getElem hi] using q
  obtain ⟨i0, e0⟩ := is_v g1
  obtain rfl : w0 = (.int i0) := Option.some.inj e0
  obtain ⟨i1, e1⟩ := is_v g2
  obtain rfl : w1 = (.int i1) := Option.some.inj e1
  obtain ⟨i2, e2⟩ := is_v g3
  obtain rfl : w2 = (.int i2) := Option.some.inj e2
  obtain ⟨i3, e3⟩ := is_v g4
  obtain rfl : w3 = (.int i3) := Option.some.inj e3
  obtain ⟨i4, e4⟩ := is_v q4
  obtain rfl : w4 = (.int i4) := Option.some.inj e4
  obtain ⟨cz, cze⟩ := is_v (Cond.before_iff.mp (hsets _ (List.mem_of_getElem? (i := 1) rfl)))
  have cm : Com s := ⟨cz, Sta.start cze (Or.inl (hsets _ (List.mem_of_getElem? (i := 0) rfl))), gotF (Cond.eq_ints cze (Term.int_eval (0))) (not_v (Cond.before_iff.mp (hsets _ (List.mem_of_getElem? (i := 2) rfl))))⟩
  obtain ⟨fv, fve, fvr⟩ := isR_v (Cond.before_iff.mp (hsets _ (List.mem_of_getElem? (i := 8) rfl)))
  have sf : Sfo s := ⟨fv, Sta.start fve (Or.inl (hsets _ (List.mem_of_getElem? (i := 7) rfl))), fvr⟩
  have hcw : Jvm.Lit.compactW.before _ s = true := hsets _ (List.mem_of_getElem? (i := 2) rfl)
  obtain ⟨n, o, h1, h2, h3, _, L, rfl, ⟨rfl, KK, N⟩, -, hq⟩ := own_law l s _ hw cm sf s.heap s.heap.size (Old.start s) i0 i1 i2 i3 i4 p e ha hc hk s m _ below hf ((Spec.applies_iff_loose hf).mp happ).1 ⟨rfl, State.Warmed39.refl s, rfl, (own_start hw (own_EW hw) hcalls.1 hcw), fun _ q => nomatch q⟩ trivial
  refine ⟨n, _, h1, h2, h3, hpost _ _ _ _ _ _ ⟨Cond.after_iff.mpr rfl, Cond.after_iff.mpr (eq_i res_at (Term.int_eval (1)) rfl), trivial⟩ ⟨hq.1, hq.2.1, hq.2.2.1, (hq.2.2.2.sift fun y hy => Or.inr (N y hy)).mono (by decide) (by decide)⟩⟩
theorem main_1_1 : Claimed_1_1 := own_comes fun _ _ _ _ _ _ h hF => ⟨h.1, hF⟩
theorem main_1_2 : Claimed_1_2 := own_comes fun _ _ _ _ _ _ h hF => ⟨h.2.1, hF⟩
end Jvm.Pilot.@@N@@
namespace Jvm.Pilot.@@N@@
open Jvm Jvm.ClassFile Sem Op Lib Jvm.Free Jvm.Stand Jvm.Pilot.@@N@@.Jvm.D
/-! MADE BY PROGRAM (witnessworld.py) out of the Statement's table words and the real class files: 22 classes; the members and pool entries that the words name. The judged class is class 1, her method 1. -/
namespace start1
open Jvm.ClassFile
def u (s : String) : CpInfo := .utf8 (stringToUtf16 s)
/-- a pool by its gaps: so many unusable entries, then the entry; so many at the end -/
def gap : Nat → List CpInfo → List CpInfo
  | 0, r => r
  | n + 1, r => .unusable :: gap n r
def poolList (es : List (Nat × CpInfo)) (last : Nat) : List CpInfo := es.foldr (fun e r => gap e.1 (e.2 :: r)) (gap last [])
def pool (es : List (Nat × CpInfo)) (last : Nat) : Array CpInfo := ⟨poolList es last⟩
def fileOf (pool : Array CpInfo) (this : Nat) (attrs : Array Attribute := #[]) (ms : Array MethodInfo := #[]) (fl : Nat := 33) (sup : Nat := 0) (ifs : Array Nat := #[]) (fds : Array FieldInfo := #[]) : ClassFile where
  minorVersion := 0
  majorVersion := 65
  constantPool := pool
  accessFlags := fl
  thisClass := this
  superClass := sup
  interfaces := ifs
  fields := fds
  methods := ms
  attributes := attrs
def plain (name : String) (sup : Option ClassId) : Class where
  name := name
  kind := .ordinary
  loader := none
  accessFlags := 33
  super := sup
  interfaces := #[]
  cf := none
  fields := #[]
  methods := #[]
  instanceTypes := #[]
  staticTypes := #[]
  resolved := #[]
  callSites := []
  init := .initialized
  statics := none
  mirror := none

def pool0 : Array CpInfo := pool [(5, u "<init>"), (0, u "()V"), (1, .class_ 10), (1, u "java/lang/Object")] 113

def k0c0 : Code := { maxStack := 0, maxLocals := 1, code := object_method_1_code, exceptionTable := #[], attributes := #[] }
def k0m0 : Method := { name := "<init>", desc := "()V", sig := { parameters := [], returnType := none }, accessFlags := 1, code := some k0c0 }
/-- java/lang/Object -/
def k0 : Class := { plain "java/lang/Object" none with
  accessFlags := 33
  interfaces := #[]
  cf := some (fileOf pool0 8 #[] #[{ accessFlags := 1, nameIndex := 5, descriptorIndex := 6, attributes := #[] }] 33 0 #[] #[])
  fields := #[]
  methods := #[k0m0]
  instanceTypes := #[]
  staticTypes := #[]
  resolved := Array.replicate 124 none
  statics := none }

def pool1 : Array CpInfo := pool [(2, .class_ 4), (1, u "java/lang/Object"), (0, u "<init>"), (0, u "()V"), (0, .class_ 8), (0, u "com/example/floatbook/floatbook/core/Nearby"), (0, .class_ 10), (0, u "java/lang/String"), (0, .methodref 9 12), (0, .nameAndType 5 13), (0, u "([C)V"), (0, .methodref 7 15), (0, .nameAndType 5 16), (0, u "(Ljava/lang/String;ILjava/lang/String;)V"), (0, .methodref 7 18), (0, .nameAndType 19 20), (0, u "ordinal"), (0, u "()Ljava/lang/String;"), (0, .methodref 9 22), (0, .nameAndType 23 24), (0, u "length"), (0, u "()I"), (0, .methodref 9 26), (0, .nameAndType 27 28), (0, u "charAt"), (0, u "(I)C"), (0, .methodref 7 30), (0, .nameAndType 31 24), (0, u "position"), (0, .class_ 33), (0, u "com/example/floatbook/floatbook/core/NearbyOrdinalPinLaw"), (2, u "law"), (0, u "(IIIII)Z")] 5

def k1m0 : Method := { name := "<init>", desc := "()V", sig := { parameters := [], returnType := none }, accessFlags := 1, code := none }
def k1c1 : Code := { maxStack := 7, maxLocals := 12, code := code, exceptionTable := #[], attributes := #[] }
def k1m1 : Method := { name := "law", desc := "(IIIII)Z", sig := { parameters := [.int, .int, .int, .int, .int], returnType := some .boolean }, accessFlags := 9, code := some k1c1 }
/-- com/example/floatbook/floatbook/core/NearbyOrdinalPinLaw -/
def k1 : Class := { plain "com/example/floatbook/floatbook/core/NearbyOrdinalPinLaw" (some 0) with
  accessFlags := 49
  interfaces := #[]
  cf := some (fileOf pool1 32 #[] #[{ accessFlags := 1, nameIndex := 5, descriptorIndex := 6, attributes := #[] }, { accessFlags := 9, nameIndex := 36, descriptorIndex := 37, attributes := #[] }] 49 2 #[] #[])
  fields := #[]
  methods := #[k1m0, k1m1]
  instanceTypes := #[]
  staticTypes := #[]
  resolved := Array.replicate 43 none
  statics := none }

def pool2 : Array CpInfo := pool [(1, .methodref 2 3), (0, .class_ 4), (0, .nameAndType 5 6), (0, u "java/lang/Object"), (0, u "<init>"), (0, u "()V"), (0, .class_ 8), (0, u "java/lang/Record")] 13

def k2c0 : Code := { maxStack := 1, maxLocals := 1, code := jdk_30_method_1_code, exceptionTable := #[], attributes := #[] }
def k2m0 : Method := { name := "<init>", desc := "()V", sig := { parameters := [], returnType := none }, accessFlags := 4, code := some k2c0 }
/-- java/lang/Record -/
def k2 : Class := { plain "java/lang/Record" (some 0) with
  accessFlags := 1057
  interfaces := #[]
  cf := some (fileOf pool2 7 #[] #[{ accessFlags := 4, nameIndex := 5, descriptorIndex := 6, attributes := #[] }] 1057 2 #[] #[])
  fields := #[]
  methods := #[k2m0]
  instanceTypes := #[]
  staticTypes := #[]
  resolved := Array.replicate 22 none
  statics := none }

def pool3 : Array CpInfo := pool [(1, .methodref 2 3), (0, .class_ 4), (0, .nameAndType 5 6), (0, u "java/lang/Record"), (0, u "<init>"), (0, u "()V"), (0, .string 8), (0, u "contractField"), (0, .methodref 10 11), (0, .class_ 12), (0, .nameAndType 13 14), (0, u "java/util/Objects"), (0, u "requireNonNull"), (0, u "(Ljava/lang/Object;Ljava/lang/String;)Ljava/lang/Object;"), (0, .string 16), (0, u "expiries"), (7, .fieldref 25 26), (0, .class_ 27), (0, .nameAndType 8 28), (0, u "com/example/floatbook/floatbook/core/Nearby"), (0, u "Ljava/lang/String;"), (0, .fieldref 25 30), (0, .nameAndType 31 32), (0, u "position"), (0, u "I"), (0, .fieldref 25 34), (0, .nameAndType 16 28), (0, .string 36), (0, u "1st"), (0, .string 38), (0, u "2nd"), (12, u "(Ljava/lang/String;ILjava/lang/String;)V"), (6, u "ordinal"), (0, u "()Ljava/lang/String;"), (0, u "()I")] 23

def k3c0 : Code := { maxStack := 3, maxLocals := 4, code := prog_20_method_1_code, exceptionTable := #[], attributes := #[] }
def k3m0 : Method := { name := "<init>", desc := "(Ljava/lang/String;ILjava/lang/String;)V", sig := { parameters := [(.object "java/lang/String"), .int, (.object "java/lang/String")], returnType := none }, accessFlags := 1, code := some k3c0 }
def k3c1 : Code := { maxStack := 2, maxLocals := 1, code := prog_20_method_2_code, exceptionTable := #[], attributes := #[] }
def k3m1 : Method := { name := "ordinal", desc := "()Ljava/lang/String;", sig := { parameters := [], returnType := some (.object "java/lang/String") }, accessFlags := 1, code := some k3c1 }
def k3c2 : Code := { maxStack := 1, maxLocals := 1, code := prog_20_method_7_code, exceptionTable := #[], attributes := #[] }
def k3m2 : Method := { name := "position", desc := "()I", sig := { parameters := [], returnType := some .int }, accessFlags := 1, code := some k3c2 }
/-- com/example/floatbook/floatbook/core/Nearby -/
def k3 : Class := { plain "com/example/floatbook/floatbook/core/Nearby" (some 2) with
  accessFlags := 49
  interfaces := #[]
  cf := some (fileOf pool3 25 #[] #[{ accessFlags := 1, nameIndex := 5, descriptorIndex := 51, attributes := #[] }, { accessFlags := 1, nameIndex := 58, descriptorIndex := 59, attributes := #[] }, { accessFlags := 1, nameIndex := 31, descriptorIndex := 60, attributes := #[] }] 49 2 #[] #[{ accessFlags := 18, nameIndex := 8, descriptorIndex := 28, attributes := #[] }, { accessFlags := 18, nameIndex := 31, descriptorIndex := 32, attributes := #[] }, { accessFlags := 18, nameIndex := 16, descriptorIndex := 28, attributes := #[] }])
  fields := #[{ name := "contractField", type := (.object "java/lang/String"), accessFlags := 18, slot := 0, constantValue := 0 }, { name := "position", type := .int, accessFlags := 18, slot := 1, constantValue := 0 }, { name := "expiries", type := (.object "java/lang/String"), accessFlags := 18, slot := 2, constantValue := 0 }]
  methods := #[k3m0, k3m1, k3m2]
  instanceTypes := #[(.object "java/lang/String"), .int, (.object "java/lang/String")]
  staticTypes := #[]
  resolved := Array.replicate 84 none
  statics := none }

def pool4 : Array CpInfo := pool [(1, .class_ 2), (0, u "java/io/Serializable"), (0, .class_ 4), (0, u "java/lang/Object")] 2

/-- java/io/Serializable -/
def k4 : Class := { plain "java/io/Serializable" (some 0) with
  accessFlags := 1537
  interfaces := #[]
  cf := some (fileOf pool4 1 #[] #[] 1537 3 #[] #[])
  fields := #[]
  methods := #[]
  instanceTypes := #[]
  staticTypes := #[]
  resolved := Array.replicate 7 none
  statics := none }

def pool5 : Array CpInfo := pool [(1, .class_ 2), (0, u "java/lang/Comparable"), (0, .class_ 4), (0, u "java/lang/Object")] 7

/-- java/lang/Comparable -/
def k5 : Class := { plain "java/lang/Comparable" (some 0) with
  accessFlags := 1537
  interfaces := #[]
  cf := some (fileOf pool5 1 #[] #[] 1537 3 #[] #[])
  fields := #[]
  methods := #[]
  instanceTypes := #[]
  staticTypes := #[]
  resolved := Array.replicate 12 none
  statics := none }

def pool6 : Array CpInfo := pool [(2, .class_ 4), (1, u "java/lang/CharSequence"), (42, .class_ 48), (0, u "java/lang/CharSequence$1CodePointIterator"), (10, .class_ 60), (0, u "java/lang/CharSequence$1CharIterator"), (5, .class_ 67), (0, u "java/lang/Object")] 63

/-- java/lang/CharSequence -/
def k6 : Class := { plain "java/lang/CharSequence" (some 0) with
  accessFlags := 1537
  interfaces := #[]
  cf := some (fileOf pool6 2 #[.nestMembers #[47, 59]] #[] 1537 66 #[] #[])
  fields := #[]
  methods := #[]
  instanceTypes := #[]
  staticTypes := #[]
  resolved := Array.replicate 131 none
  statics := none }

def pool7 : Array CpInfo := pool [(1, .class_ 2), (0, u "java/lang/constant/Constable"), (0, .class_ 4), (0, u "java/lang/Object")] 6

/-- java/lang/constant/Constable -/
def k7 : Class := { plain "java/lang/constant/Constable" (some 0) with
  accessFlags := 1537
  interfaces := #[]
  cf := some (fileOf pool7 1 #[] #[] 1537 3 #[] #[])
  fields := #[]
  methods := #[]
  instanceTypes := #[]
  staticTypes := #[]
  resolved := Array.replicate 11 none
  statics := none }

def pool8 : Array CpInfo := pool [(1, .class_ 2), (0, u "java/lang/constant/ConstantDesc"), (0, .class_ 4), (0, u "java/lang/Object")] 32

/-- java/lang/constant/ConstantDesc -/
def k8 : Class := { plain "java/lang/constant/ConstantDesc" (some 0) with
  accessFlags := 1537
  interfaces := #[]
  cf := some (fileOf pool8 1 #[] #[] 1537 3 #[] #[])
  fields := #[]
  methods := #[]
  instanceTypes := #[]
  staticTypes := #[]
  resolved := Array.replicate 37 none
  statics := none }

def pool9 : Array CpInfo := pool [(1, .methodref 2 3), (0, .class_ 4), (0, .nameAndType 5 6), (0, u "java/lang/Object"), (0, u "<init>"), (0, u "()V"), (2, .fieldref 10 11), (0, .class_ 12), (0, .nameAndType 13 14), (0, u "java/lang/String"), (0, u "value"), (0, u "[B"), (0, .fieldref 10 16), (0, .nameAndType 17 18), (0, u "coder"), (0, u "B"), (2, u "hash"), (0, u "I"), (2, u "hashIsZero"), (0, u "Z"), (0, .methodref 10 28), (0, .nameAndType 5 29), (0, u "([CIILjava/lang/Void;)V"), (8, .fieldref 10 39), (0, .nameAndType 40 26), (0, u "COMPACT_STRINGS"), (1, .class_ 44), (1, u "java/lang/StringUTF16"), (0, u "compress"), (1, .methodref 42 48), (0, .nameAndType 49 50), (0, u "coderFromArrayLen"), (0, u "([BI)B"), (56, .class_ 109), (1, u "java/lang/StringLatin1"), (32, u "()Z"), (34, .methodref 42 178), (0, .nameAndType 45 179), (0, u "([CII)[B"), (154, u "()I"), (0, .methodref 10 336), (0, .nameAndType 17 337), (0, u "()B"), (25, u "([BI)C"), (27, u "(II)V"), (35, u "(I)C"), (64, .methodref 10 493), (0, .nameAndType 494 142), (0, u "isLatin1"), (0, .methodref 107 496), (0, .nameAndType 497 363), (0, u "charAt"), (3, u "checkIndex"), (5, u "length"), (67, .class_ 576), (0, u "java/lang/CharSequence"), (22, u "CASE_INSENSITIVE_ORDER"), (0, u "Ljava/util/Comparator;"), (409, u "([C)V"), (42, .fieldref 1054 1055), (0, .class_ 1056), (0, .nameAndType 1057 1058), (0, u "jdk/internal/util/Preconditions"), (0, u "SIOOBE_FORMATTER"), (0, u "Ljava/util/function/BiFunction;"), (0, .methodref 1054 1060), (0, .nameAndType 501 1061), (0, u "(IILjava/util/function/BiFunction;)I"), (39, u "serialPersistentFields"), (0, u "[Ljava/io/ObjectStreamField;"), (0, .class_ 1104), (0, u "java/lang/String$CaseInsensitiveComparator"), (1, .class_ 1107), (0, u "java/io/Serializable"), (0, .class_ 1109), (0, u "java/lang/Comparable"), (0, .class_ 1111), (0, u "java/lang/constant/Constable"), (0, .class_ 1113), (0, u "java/lang/constant/ConstantDesc"), (2, u "serialVersionUID"), (0, u "J"), (3, u "REPL"), (0, u "C"), (2, u "LATIN1"), (1, u "UTF16")] 323

def k9m0 : Method := { name := "<init>", desc := "()V", sig := { parameters := [], returnType := none }, accessFlags := 1, code := none }
def k9c1 : Code := { maxStack := 5, maxLocals := 2, code := jdk_42_method_3_code, exceptionTable := #[], attributes := #[] }
def k9m1 : Method := { name := "<init>", desc := "([C)V", sig := { parameters := [(.array .char)], returnType := none }, accessFlags := 1, code := some k9c1 }
def k9c2 : Code := { maxStack := 2, maxLocals := 1, code := jdk_42_method_54_code, exceptionTable := #[], attributes := #[] }
def k9m2 : Method := { name := "length", desc := "()I", sig := { parameters := [], returnType := some .int }, accessFlags := 1, code := some k9c2 }
def k9c3 : Code := { maxStack := 2, maxLocals := 2, code := jdk_42_method_56_code, exceptionTable := #[], attributes := #[] }
def k9m3 : Method := { name := "charAt", desc := "(I)C", sig := { parameters := [.int], returnType := some .char }, accessFlags := 1, code := some k9c3 }
def k9c4 : Code := { maxStack := 4, maxLocals := 6, code := jdk_42_method_149_code, exceptionTable := #[], attributes := #[] }
def k9m4 : Method := { name := "<init>", desc := "([CIILjava/lang/Void;)V", sig := { parameters := [(.array .char), .int, .int, (.object "java/lang/Void")], returnType := none }, accessFlags := 2, code := some k9c4 }
def k9c5 : Code := { maxStack := 1, maxLocals := 1, code := jdk_42_method_152_code, exceptionTable := #[], attributes := #[] }
def k9m5 : Method := { name := "coder", desc := "()B", sig := { parameters := [], returnType := some .byte }, accessFlags := 0, code := some k9c5 }
def k9c6 : Code := { maxStack := 1, maxLocals := 1, code := jdk_42_method_154_code, exceptionTable := #[], attributes := #[] }
def k9m6 : Method := { name := "isLatin1", desc := "()Z", sig := { parameters := [], returnType := some .boolean }, accessFlags := 0, code := some k9c6 }
def k9c7 : Code := { maxStack := 3, maxLocals := 2, code := jdk_42_method_155_code, exceptionTable := #[], attributes := #[] }
def k9m7 : Method := { name := "checkIndex", desc := "(II)V", sig := { parameters := [.int, .int], returnType := none }, accessFlags := 8, code := some k9c7 }
/-- java/lang/String -/
def k9 : Class := { plain "java/lang/String" (some 0) with
  accessFlags := 49
  interfaces := #[4, 5, 6, 7, 8]
  cf := some (fileOf pool9 10 #[.nestMembers #[1103]] #[{ accessFlags := 1, nameIndex := 5, descriptorIndex := 6, attributes := #[] }, { accessFlags := 1, nameIndex := 5, descriptorIndex := 1010, attributes := #[] }, { accessFlags := 1, nameIndex := 507, descriptorIndex := 334, attributes := #[] }, { accessFlags := 1, nameIndex := 497, descriptorIndex := 427, attributes := #[] }, { accessFlags := 2, nameIndex := 5, descriptorIndex := 29, attributes := #[] }, { accessFlags := 0, nameIndex := 17, descriptorIndex := 337, attributes := #[] }, { accessFlags := 0, nameIndex := 494, descriptorIndex := 142, attributes := #[] }, { accessFlags := 8, nameIndex := 501, descriptorIndex := 391, attributes := #[] }] 49 2 #[1106, 1108, 575, 1110, 1112] #[{ accessFlags := 18, nameIndex := 13, descriptorIndex := 14, attributes := #[] }, { accessFlags := 18, nameIndex := 17, descriptorIndex := 18, attributes := #[] }, { accessFlags := 2, nameIndex := 21, descriptorIndex := 22, attributes := #[] }, { accessFlags := 2, nameIndex := 25, descriptorIndex := 26, attributes := #[] }, { accessFlags := 26, nameIndex := 1116, descriptorIndex := 1117, attributes := #[] }, { accessFlags := 24, nameIndex := 40, descriptorIndex := 26, attributes := #[] }, { accessFlags := 26, nameIndex := 1101, descriptorIndex := 1102, attributes := #[] }, { accessFlags := 26, nameIndex := 1121, descriptorIndex := 1122, attributes := #[] }, { accessFlags := 25, nameIndex := 599, descriptorIndex := 600, attributes := #[] }, { accessFlags := 24, nameIndex := 1125, descriptorIndex := 18, attributes := #[] }, { accessFlags := 24, nameIndex := 1127, descriptorIndex := 18, attributes := #[] }])
  fields := #[{ name := "value", type := (.array .byte), accessFlags := 18, slot := 0, constantValue := 0 }, { name := "coder", type := .byte, accessFlags := 18, slot := 1, constantValue := 0 }, { name := "hash", type := .int, accessFlags := 2, slot := 2, constantValue := 0 }, { name := "hashIsZero", type := .boolean, accessFlags := 2, slot := 3, constantValue := 0 }, { name := "serialVersionUID", type := .long, accessFlags := 26, slot := 0, constantValue := 0 }, { name := "COMPACT_STRINGS", type := .boolean, accessFlags := 24, slot := 1, constantValue := 0 }, { name := "serialPersistentFields", type := (.array (.object "java/io/ObjectStreamField")), accessFlags := 26, slot := 2, constantValue := 0 }, { name := "REPL", type := .char, accessFlags := 26, slot := 3, constantValue := 0 }, { name := "CASE_INSENSITIVE_ORDER", type := (.object "java/util/Comparator"), accessFlags := 25, slot := 4, constantValue := 0 }, { name := "LATIN1", type := .byte, accessFlags := 24, slot := 5, constantValue := 0 }, { name := "UTF16", type := .byte, accessFlags := 24, slot := 6, constantValue := 0 }]
  methods := #[k9m0, k9m1, k9m2, k9m3, k9m4, k9m5, k9m6, k9m7]
  instanceTypes := #[(.array .byte), .byte, .int, .boolean]
  staticTypes := #[.long, .boolean, (.array (.object "java/io/ObjectStreamField")), .char, (.object "java/util/Comparator"), .byte, .byte]
  resolved := Array.replicate 1451 none
  statics := some 0 }

def pool10 : Array CpInfo := pool [(6, .class_ 8), (1, u "java/lang/Object"), (0, u "<init>"), (0, u "()V"), (1, .class_ 14), (1, u "java/lang/StringUTF16"), (31, u "$assertionsDisabled"), (0, u "Z"), (13, u "HI_BYTE_SHIFT"), (0, u "I"), (2, u "LO_BYTE_SHIFT"), (49, .methodref 12 116), (0, .nameAndType 117 118), (0, u "compress"), (0, u "([CI[BII)I"), (3, u "([CII)[B"), (138, u "coderFromArrayLen"), (0, u "([BI)B"), (106, .class_ 371), (1, u "java/lang/StringUTF16$LinesSpliterator"), (58, u "MAX_LENGTH"), (196, .class_ 628), (0, u "java/lang/StringUTF16$CodePointsSpliterator"), (0, .class_ 630), (0, u "java/lang/StringUTF16$CharsSpliterator")] 4

def k10m0 : Method := { name := "<init>", desc := "()V", sig := { parameters := [], returnType := none }, accessFlags := 0, code := none }
def k10c1 : Code := { maxStack := 2, maxLocals := 2, code := jdk_52_method_15_code, exceptionTable := #[], attributes := #[] }
def k10m1 : Method := { name := "coderFromArrayLen", desc := "([BI)B", sig := { parameters := [(.array .byte), .int], returnType := some .byte }, accessFlags := 8, code := some k10c1 }
def k10c2 : Code := { maxStack := 5, maxLocals := 6, code := jdk_52_method_16_code, exceptionTable := #[], attributes := #[] }
def k10m2 : Method := { name := "compress", desc := "([CII)[B", sig := { parameters := [(.array .char), .int, .int], returnType := some (.array .byte) }, accessFlags := 9, code := some k10c2 }
def k10c3 : Code := { maxStack := 3, maxLocals := 7, code := jdk_52_method_21_code, exceptionTable := #[], attributes := #[] }
def k10m3 : Method := { name := "compress", desc := "([CI[BII)I", sig := { parameters := [(.array .char), .int, (.array .byte), .int, .int], returnType := some .int }, accessFlags := 9, code := some k10c3 }
/-- java/lang/StringUTF16 -/
def k10 : Class := { plain "java/lang/StringUTF16" (some 0) with
  accessFlags := 48
  interfaces := #[]
  cf := some (fileOf pool10 12 #[.nestMembers #[627, 629, 369]] #[{ accessFlags := 0, nameIndex := 9, descriptorIndex := 10, attributes := #[] }, { accessFlags := 8, nameIndex := 261, descriptorIndex := 262, attributes := #[] }, { accessFlags := 9, nameIndex := 117, descriptorIndex := 122, attributes := #[] }, { accessFlags := 9, nameIndex := 117, descriptorIndex := 118, attributes := #[] }] 48 6 #[] #[{ accessFlags := 26, nameIndex := 61, descriptorIndex := 62, attributes := #[] }, { accessFlags := 26, nameIndex := 65, descriptorIndex := 62, attributes := #[] }, { accessFlags := 24, nameIndex := 430, descriptorIndex := 62, attributes := #[] }, { accessFlags := 4120, nameIndex := 46, descriptorIndex := 47, attributes := #[] }])
  fields := #[{ name := "HI_BYTE_SHIFT", type := .int, accessFlags := 26, slot := 0, constantValue := 0 }, { name := "LO_BYTE_SHIFT", type := .int, accessFlags := 26, slot := 1, constantValue := 0 }, { name := "MAX_LENGTH", type := .int, accessFlags := 24, slot := 2, constantValue := 0 }, { name := "$assertionsDisabled", type := .boolean, accessFlags := 4120, slot := 3, constantValue := 0 }]
  methods := #[k10m0, k10m1, k10m2, k10m3]
  instanceTypes := #[]
  staticTypes := #[.int, .int, .int, .boolean]
  resolved := Array.replicate 635 none
  statics := none }

def pool11 : Array CpInfo := pool [(2, .class_ 4), (1, u "java/lang/Object"), (0, u "<init>"), (0, u "()V"), (35, .class_ 44), (1, u "java/util/Objects"), (0, u "requireNonNull"), (48, u "(Ljava/lang/Object;Ljava/lang/String;)Ljava/lang/Object;")] 89

def k11m0 : Method := { name := "<init>", desc := "()V", sig := { parameters := [], returnType := none }, accessFlags := 2, code := none }
def k11c1 : Code := { maxStack := 3, maxLocals := 2, code := jdk_31_method_11_code, exceptionTable := #[], attributes := #[] }
def k11m1 : Method := { name := "requireNonNull", desc := "(Ljava/lang/Object;Ljava/lang/String;)Ljava/lang/Object;", sig := { parameters := [(.object "java/lang/Object"), (.object "java/lang/String")], returnType := some (.object "java/lang/Object") }, accessFlags := 9, code := some k11c1 }
/-- java/util/Objects -/
def k11 : Class := { plain "java/util/Objects" (some 0) with
  accessFlags := 49
  interfaces := #[]
  cf := some (fileOf pool11 42 #[] #[{ accessFlags := 2, nameIndex := 5, descriptorIndex := 6, attributes := #[] }, { accessFlags := 9, nameIndex := 45, descriptorIndex := 94, attributes := #[] }] 49 2 #[] #[])
  fields := #[]
  methods := #[k11m0, k11m1]
  instanceTypes := #[]
  staticTypes := #[]
  resolved := Array.replicate 184 none
  statics := none }

def pool12 : Array CpInfo := pool [(1, .class_ 2), (0, u "java/lang/String"), (1, .class_ 6), (1, u "java/lang/Object"), (0, u "<init>"), (0, u "()V"), (0, .methodref 1 10), (0, .nameAndType 11 12), (0, u "checkIndex"), (0, u "(II)V"), (1, .class_ 16), (1, u "java/lang/StringLatin1"), (36, u "([BI)C"), (67, u "$assertionsDisabled"), (0, u "Z"), (98, .class_ 223), (1, u "java/lang/StringLatin1$LinesSpliterator"), (28, u "charAt"), (137, .class_ 391), (0, u "java/lang/StringLatin1$CharsSpliterator")] 3

def k12m0 : Method := { name := "<init>", desc := "()V", sig := { parameters := [], returnType := none }, accessFlags := 0, code := none }
def k12c1 : Code := { maxStack := 2, maxLocals := 2, code := jdk_43_method_2_code, exceptionTable := #[], attributes := #[] }
def k12m1 : Method := { name := "charAt", desc := "([BI)C", sig := { parameters := [(.array .byte), .int], returnType := some .char }, accessFlags := 9, code := some k12c1 }
/-- java/lang/StringLatin1 -/
def k12 : Class := { plain "java/lang/StringLatin1" (some 0) with
  accessFlags := 48
  interfaces := #[]
  cf := some (fileOf pool12 14 #[.nestMembers #[390, 221]] #[{ accessFlags := 0, nameIndex := 7, descriptorIndex := 8, attributes := #[] }, { accessFlags := 9, nameIndex := 252, descriptorIndex := 53, attributes := #[] }] 48 4 #[] #[{ accessFlags := 4120, nameIndex := 121, descriptorIndex := 122, attributes := #[] }])
  fields := #[{ name := "$assertionsDisabled", type := .boolean, accessFlags := 4120, slot := 0, constantValue := 0 }]
  methods := #[k12m0, k12m1]
  instanceTypes := #[]
  staticTypes := #[.boolean]
  resolved := Array.replicate 395 none
  statics := none }

def pool13 : Array CpInfo := pool [(2, .class_ 4), (1, u "java/lang/Object"), (0, u "<init>"), (0, u "()V"), (17, .class_ 26), (1, u "jdk/internal/util/Preconditions"), (6, u "checkIndex"), (21, .class_ 56), (0, u "jdk/internal/util/Preconditions$4"), (57, .class_ 115), (0, u "jdk/internal/util/Preconditions$1"), (7, u "SIOOBE_FORMATTER"), (0, u "Ljava/util/function/BiFunction;"), (0, .class_ 126), (0, u "jdk/internal/util/Preconditions$2"), (3, u "AIOOBE_FORMATTER"), (0, .class_ 132), (0, u "jdk/internal/util/Preconditions$3"), (3, u "IOOBE_FORMATTER"), (41, u "(IILjava/util/function/BiFunction;)I")] 15

def k13m0 : Method := { name := "<init>", desc := "()V", sig := { parameters := [], returnType := none }, accessFlags := 1, code := none }
def k13c1 : Code := { maxStack := 3, maxLocals := 3, code := jdk_41_method_11_code, exceptionTable := #[], attributes := #[] }
def k13m1 : Method := { name := "checkIndex", desc := "(IILjava/util/function/BiFunction;)I", sig := { parameters := [.int, .int, (.object "java/util/function/BiFunction")], returnType := some .int }, accessFlags := 9, code := some k13c1 }
/-- jdk/internal/util/Preconditions -/
def k13 : Class := { plain "jdk/internal/util/Preconditions" (some 0) with
  accessFlags := 33
  interfaces := #[]
  cf := some (fileOf pool13 24 #[.nestMembers #[55, 131, 125, 114]] #[{ accessFlags := 1, nameIndex := 5, descriptorIndex := 6, attributes := #[] }, { accessFlags := 9, nameIndex := 33, descriptorIndex := 178, attributes := #[] }] 33 2 #[] #[{ accessFlags := 25, nameIndex := 123, descriptorIndex := 124, attributes := #[] }, { accessFlags := 25, nameIndex := 130, descriptorIndex := 124, attributes := #[] }, { accessFlags := 25, nameIndex := 136, descriptorIndex := 124, attributes := #[] }])
  fields := #[{ name := "SIOOBE_FORMATTER", type := (.object "java/util/function/BiFunction"), accessFlags := 25, slot := 0, constantValue := 0 }, { name := "AIOOBE_FORMATTER", type := (.object "java/util/function/BiFunction"), accessFlags := 25, slot := 1, constantValue := 0 }, { name := "IOOBE_FORMATTER", type := (.object "java/util/function/BiFunction"), accessFlags := 25, slot := 2, constantValue := 0 }]
  methods := #[k13m0, k13m1]
  instanceTypes := #[]
  staticTypes := #[(.object "java/util/function/BiFunction"), (.object "java/util/function/BiFunction"), (.object "java/util/function/BiFunction")]
  resolved := Array.replicate 194 none
  statics := some 1 }

def pool14 : Array CpInfo := pool [(9, u "<init>"), (6, .class_ 18), (1, u "java/lang/Object"), (0, u "()V"), (1, .class_ 23), (1, u "jdk/internal/util/ArraysSupport"), (0, u "LOG2_ARRAY_LONG_INDEX_SCALE"), (0, u "I"), (2, u "U"), (0, u "Ljdk/internal/misc/Unsafe;"), (8, u "BIG_ENDIAN"), (0, u "Z"), (8, u "LOG2_BYTE_BIT_SIZE"), (4, u "LOG2_ARRAY_INT_INDEX_SCALE"), (54, u "JLA"), (0, u "Ljdk/internal/access/JavaLangAccess;"), (11, u "LOG2_ARRAY_BOOLEAN_INDEX_SCALE"), (9, u "LOG2_ARRAY_BYTE_INDEX_SCALE"), (5, u "LOG2_ARRAY_CHAR_INDEX_SCALE"), (5, u "LOG2_ARRAY_SHORT_INDEX_SCALE"), (18, u "LOG2_ARRAY_FLOAT_INDEX_SCALE"), (24, u "LOG2_ARRAY_DOUBLE_INDEX_SCALE"), (89, u "T_BOOLEAN"), (2, u "T_CHAR"), (1, u "T_FLOAT"), (1, u "T_DOUBLE"), (1, u "T_BYTE"), (1, u "T_SHORT"), (1, u "T_INT"), (1, u "T_LONG"), (1, u "SOFT_MAX_ARRAY_LENGTH")] 83

def k14m0 : Method := { name := "<init>", desc := "()V", sig := { parameters := [], returnType := none }, accessFlags := 2, code := none }
/-- jdk/internal/util/ArraysSupport -/
def k14 : Class := { plain "jdk/internal/util/ArraysSupport" (some 0) with
  accessFlags := 33
  interfaces := #[]
  cf := some (fileOf pool14 21 #[] #[{ accessFlags := 2, nameIndex := 9, descriptorIndex := 19, attributes := #[] }] 33 16 #[] #[{ accessFlags := 24, nameIndex := 28, descriptorIndex := 29, attributes := #[] }, { accessFlags := 26, nameIndex := 38, descriptorIndex := 39, attributes := #[] }, { accessFlags := 25, nameIndex := 121, descriptorIndex := 25, attributes := #[] }, { accessFlags := 25, nameIndex := 131, descriptorIndex := 25, attributes := #[] }, { accessFlags := 25, nameIndex := 137, descriptorIndex := 25, attributes := #[] }, { accessFlags := 25, nameIndex := 143, descriptorIndex := 25, attributes := #[] }, { accessFlags := 25, nameIndex := 53, descriptorIndex := 25, attributes := #[] }, { accessFlags := 25, nameIndex := 24, descriptorIndex := 25, attributes := #[] }, { accessFlags := 25, nameIndex := 162, descriptorIndex := 25, attributes := #[] }, { accessFlags := 25, nameIndex := 187, descriptorIndex := 25, attributes := #[] }, { accessFlags := 26, nameIndex := 48, descriptorIndex := 25, attributes := #[] }, { accessFlags := 25, nameIndex := 277, descriptorIndex := 25, attributes := #[] }, { accessFlags := 25, nameIndex := 280, descriptorIndex := 25, attributes := #[] }, { accessFlags := 25, nameIndex := 282, descriptorIndex := 25, attributes := #[] }, { accessFlags := 25, nameIndex := 284, descriptorIndex := 25, attributes := #[] }, { accessFlags := 25, nameIndex := 286, descriptorIndex := 25, attributes := #[] }, { accessFlags := 25, nameIndex := 288, descriptorIndex := 25, attributes := #[] }, { accessFlags := 25, nameIndex := 290, descriptorIndex := 25, attributes := #[] }, { accessFlags := 25, nameIndex := 292, descriptorIndex := 25, attributes := #[] }, { accessFlags := 26, nameIndex := 108, descriptorIndex := 109, attributes := #[] }, { accessFlags := 25, nameIndex := 294, descriptorIndex := 25, attributes := #[] }])
  fields := #[{ name := "U", type := (.object "jdk/internal/misc/Unsafe"), accessFlags := 24, slot := 0, constantValue := 0 }, { name := "BIG_ENDIAN", type := .boolean, accessFlags := 26, slot := 1, constantValue := 0 }, { name := "LOG2_ARRAY_BOOLEAN_INDEX_SCALE", type := .int, accessFlags := 25, slot := 2, constantValue := 0 }, { name := "LOG2_ARRAY_BYTE_INDEX_SCALE", type := .int, accessFlags := 25, slot := 3, constantValue := 0 }, { name := "LOG2_ARRAY_CHAR_INDEX_SCALE", type := .int, accessFlags := 25, slot := 4, constantValue := 0 }, { name := "LOG2_ARRAY_SHORT_INDEX_SCALE", type := .int, accessFlags := 25, slot := 5, constantValue := 0 }, { name := "LOG2_ARRAY_INT_INDEX_SCALE", type := .int, accessFlags := 25, slot := 6, constantValue := 0 }, { name := "LOG2_ARRAY_LONG_INDEX_SCALE", type := .int, accessFlags := 25, slot := 7, constantValue := 0 }, { name := "LOG2_ARRAY_FLOAT_INDEX_SCALE", type := .int, accessFlags := 25, slot := 8, constantValue := 0 }, { name := "LOG2_ARRAY_DOUBLE_INDEX_SCALE", type := .int, accessFlags := 25, slot := 9, constantValue := 0 }, { name := "LOG2_BYTE_BIT_SIZE", type := .int, accessFlags := 26, slot := 10, constantValue := 0 }, { name := "T_BOOLEAN", type := .int, accessFlags := 25, slot := 11, constantValue := 0 }, { name := "T_CHAR", type := .int, accessFlags := 25, slot := 12, constantValue := 0 }, { name := "T_FLOAT", type := .int, accessFlags := 25, slot := 13, constantValue := 0 }, { name := "T_DOUBLE", type := .int, accessFlags := 25, slot := 14, constantValue := 0 }, { name := "T_BYTE", type := .int, accessFlags := 25, slot := 15, constantValue := 0 }, { name := "T_SHORT", type := .int, accessFlags := 25, slot := 16, constantValue := 0 }, { name := "T_INT", type := .int, accessFlags := 25, slot := 17, constantValue := 0 }, { name := "T_LONG", type := .int, accessFlags := 25, slot := 18, constantValue := 0 }, { name := "JLA", type := (.object "jdk/internal/access/JavaLangAccess"), accessFlags := 26, slot := 19, constantValue := 0 }, { name := "SOFT_MAX_ARRAY_LENGTH", type := .int, accessFlags := 25, slot := 20, constantValue := 0 }]
  methods := #[k14m0]
  instanceTypes := #[]
  staticTypes := #[(.object "jdk/internal/misc/Unsafe"), .boolean, .int, .int, .int, .int, .int, .int, .int, .int, .int, .int, .int, .int, .int, .int, .int, .int, .int, (.object "jdk/internal/access/JavaLangAccess"), .int]
  resolved := Array.replicate 378 none
  statics := none }

def pool15 : Array CpInfo := pool [(1, u "java/lang/Cloneable"), (0, .class_ 1), (0, u "java/lang/Object"), (0, .class_ 3)] 3

/-- java/lang/Cloneable -/
def k15 : Class := { plain "java/lang/Cloneable" (some 0) with
  accessFlags := 1537
  interfaces := #[]
  cf := some (fileOf pool15 2 #[] #[] 1537 4 #[] #[])
  fields := #[]
  methods := #[]
  instanceTypes := #[]
  staticTypes := #[]
  resolved := Array.replicate 8 none
  statics := none }

/-- the primitive byte -/
def k16 : Class := { plain "byte" none with kind := .primitive 'B', accessFlags := 0x411 }
/-- [B -/
def k17 : Class := { plain "[B" (some 0) with kind := .array 16 .byte, interfaces := #[15, 4], accessFlags := 1041 }

/-- the primitive char -/
def k18 : Class := { plain "char" none with kind := .primitive 'C', accessFlags := 0x411 }
/-- [C -/
def k19 : Class := { plain "[C" (some 0) with kind := .array 18 .char, interfaces := #[15, 4], accessFlags := 1041 }

/-- the primitive int -/
def k20 : Class := { plain "int" none with kind := .primitive 'I', accessFlags := 0x411 }
/-- [I -/
def k21 : Class := { plain "[I" (some 0) with kind := .array 20 .int, interfaces := #[15, 4], accessFlags := 1041 }

def heap : Heap := #[{ cls := 9, slots := #[.long 0, .int 1, .null, .int 0, .null, .int 0, .int 0], vm := .statics 9 },
  { cls := 13, slots := #[.null, .null, .null], vm := .statics 13 }]
def classes : Array Class := #[k0, k1, k2, k3, k4, k5, k6, k7, k8, k9, k10, k11, k12, k13, k14, k15, k16, k17, k18, k19, k20, k21]
def interned : List (Array UInt16 × Addr) := []
def slotsUsed : Nat := 10
def theMethod : MethodId := ⟨1, 1⟩
def args0 : Array Value := #[.int 1, .int 65, .int 66, .int 67, .int 68]
def aboutOver (below : List Frame) : State where
  vm := { classes := classes, interned := interned.toArray }
  heap := heap
  slotsUsed := slotsUsed
  threads := #[{ frames := .invoking theMethod args0 :: below }]
def below0 : List Frame := [.native { method := ⟨0, 0⟩, args := #[] }]
def about1 : State := aboutOver below0
def p0 : Program := .bare "" "" ""
def e0 : Env := launch0.env 0 0 0
theorem w_frames : about1.frames = Frame.invoking theMethod args0 :: below0 := rfl
set_option maxRecDepth 65536 in
theorem w_args : argsFit about1.vm theMethod args0 = true := by decide +kernel
set_option maxRecDepth 65536 in
theorem w_heap : heapFits about1 = true := by decide +kernel
set_option maxRecDepth 65536 in
theorem w_runnable : about1.curStatus? = some .runnable := by decide +kernel
set_option maxRecDepth 65536 in
theorem w_alone : about1.alone = true := by decide +kernel
set_option maxRecDepth 65536 in
theorem w_named : about1.methodNamed? x = some theMethod := by decide +kernel
set_option maxRecDepth 65536 in
theorem w_hears : about1.hears theMethod below0 = true := by decide +kernel
set_option maxRecDepth 65536 in
theorem w_ripe : about1.ripe theMethod args0 below0 = true := by decide +kernel
theorem w_running : about1.status = .running := rfl
set_option maxRecDepth 65536 in
theorem w_room : about1.hasRoom e0.platform room_1 = true :=
  launch0.hasRoom_least _ room_1 (by decide +kernel) (by decide +kernel) (by decide +kernel) (by decide +kernel) (by decide +kernel) (by decide +kernel)
theorem allAtoms_all (ts : List Jvm.Cond) (a : Array Jvm.Value) (st : Jvm.State) : (allAtoms ts).before a st = ts.all (fun c => c.before a st) := by
  induction ts with
  | nil => rfl
  | cons c t ih =>
    show (Jvm.Cond.and c (allAtoms t)).before a st = _
    rw [Jvm.Cond.before_and, ih, List.all_cons]
def words1 : List Jvm.Cond := Jvm.Cond.code x code maxLocals ret :: tables_1
/-- a 'code' word, met by the world's own term for the bytes: nothing is compared byte by byte -/
theorem code_word {y : MethodName} {bytes : ByteArray} {mx : Nat} {rt : Option FieldType} {a : Array Value} {s : State} {m : MethodId} {meth : Method} {c : Code} (h1 : s.methodNamed? y = some m) (h2 : s.vm.method? m = some meth) (h3 : meth.code = some c) (h4 : c.code = bytes)
    (h5 : (c.maxLocals == mx && c.exceptionTable.isEmpty && decide (c.maxStack ≤ mostOperands) && decide (meth.sig.returnType = rt) && !meth.locks && decide (parseMethodDescriptor y.desc = some meth.sig)) = true) : (Jvm.Cond.code y bytes mx rt).before a s = true := by
  simp only [Bool.and_eq_true, beq_iff_eq, Bool.not_eq_true', decide_eq_true_eq] at h5
  obtain ⟨⟨⟨⟨⟨g1, g2⟩, g3⟩, g4⟩, g5⟩, g6⟩ := h5
  simp [Cond.before, Cond.holds, Cond.value, h1, h2, h3, h4, g1, g2, g3, g4, g5, g6]
def isCode : Jvm.Cond → Bool
  | .code _ _ _ _ => true
  | _ => false
theorem all_split {L : List Jvm.Cond} {P : Jvm.Cond → Bool} (h1 : L.all (fun c => isCode c || P c) = true) (h2 : ∀ c ∈ L.filter isCode, P c = true) : L.all P = true := by
  refine List.all_eq_true.mpr fun c hc => ?_
  have h := List.all_eq_true.mp h1 c hc
  rcases Bool.eq_false_or_eq_true (isCode c) with hi | hi
  · exact h2 c (List.mem_filter.mpr ⟨hc, hi⟩)
  · simpa [hi] using h
set_option maxRecDepth 65536 in
theorem w_c0 : (Jvm.Cond.code x code maxLocals ret).before args0 about1 = true := code_word (m := ⟨1, 1⟩) (meth := k1m1) (c := k1c1) (by decide +kernel) rfl rfl rfl (by decide +kernel)
set_option maxRecDepth 65536 in
theorem w_c1 : (Jvm.Cond.code ({ cls := "java/lang/String", name := "<init>", desc := "([C)V" } : Jvm.MethodName) jdk_42_method_3_code (2 : Nat) (Option.none : Option Jvm.ClassFile.FieldType)).before args0 about1 = true := code_word (m := ⟨9, 1⟩) (meth := k9m1) (c := k9c1) (by decide +kernel) rfl rfl rfl (by decide +kernel)
set_option maxRecDepth 65536 in
theorem w_c2 : (Jvm.Cond.code ({ cls := "java/lang/String", name := "<init>", desc := "([CIILjava/lang/Void;)V" } : Jvm.MethodName) jdk_42_method_149_code (6 : Nat) (Option.none : Option Jvm.ClassFile.FieldType)).before args0 about1 = true := code_word (m := ⟨9, 4⟩) (meth := k9m4) (c := k9c4) (by decide +kernel) rfl rfl rfl (by decide +kernel)
set_option maxRecDepth 65536 in
theorem w_c3 : (Jvm.Cond.code ({ cls := "java/lang/Object", name := "<init>", desc := "()V" } : Jvm.MethodName) object_method_1_code (1 : Nat) (Option.none : Option Jvm.ClassFile.FieldType)).before args0 about1 = true := code_word (m := ⟨0, 0⟩) (meth := k0m0) (c := k0c0) (by decide +kernel) rfl rfl rfl (by decide +kernel)
set_option maxRecDepth 65536 in
theorem w_c4 : (Jvm.Cond.code ({ cls := "java/lang/StringUTF16", name := "compress", desc := "([CII)[B" } : Jvm.MethodName) jdk_52_method_16_code (6 : Nat) (Option.some (Jvm.ClassFile.FieldType.array Jvm.ClassFile.FieldType.byte))).before args0 about1 = true := code_word (m := ⟨10, 2⟩) (meth := k10m2) (c := k10c2) (by decide +kernel) rfl rfl rfl (by decide +kernel)
set_option maxRecDepth 65536 in
theorem w_c5 : (Jvm.Cond.code ({ cls := "java/lang/StringUTF16", name := "compress", desc := "([CI[BII)I" } : Jvm.MethodName) jdk_52_method_21_code (7 : Nat) (Option.some Jvm.ClassFile.FieldType.int)).before args0 about1 = true := code_word (m := ⟨10, 3⟩) (meth := k10m3) (c := k10c3) (by decide +kernel) rfl rfl rfl (by decide +kernel)
set_option maxRecDepth 65536 in
theorem w_c6 : (Jvm.Cond.code ({ cls := "java/lang/StringUTF16", name := "coderFromArrayLen", desc := "([BI)B" } : Jvm.MethodName) jdk_52_method_15_code (2 : Nat) (Option.some Jvm.ClassFile.FieldType.byte)).before args0 about1 = true := code_word (m := ⟨10, 1⟩) (meth := k10m1) (c := k10c1) (by decide +kernel) rfl rfl rfl (by decide +kernel)
set_option maxRecDepth 65536 in
theorem w_c7 : (Jvm.Cond.code ({ cls := "com/example/floatbook/floatbook/core/Nearby", name := "<init>", desc := "(Ljava/lang/String;ILjava/lang/String;)V" } : Jvm.MethodName) prog_20_method_1_code (4 : Nat) (Option.none : Option Jvm.ClassFile.FieldType)).before args0 about1 = true := code_word (m := ⟨3, 0⟩) (meth := k3m0) (c := k3c0) (by decide +kernel) rfl rfl rfl (by decide +kernel)
set_option maxRecDepth 65536 in
theorem w_c8 : (Jvm.Cond.code ({ cls := "java/lang/Record", name := "<init>", desc := "()V" } : Jvm.MethodName) jdk_30_method_1_code (1 : Nat) (Option.none : Option Jvm.ClassFile.FieldType)).before args0 about1 = true := code_word (m := ⟨2, 0⟩) (meth := k2m0) (c := k2c0) (by decide +kernel) rfl rfl rfl (by decide +kernel)
set_option maxRecDepth 65536 in
theorem w_c9 : (Jvm.Cond.code ({ cls := "java/util/Objects", name := "requireNonNull", desc := "(Ljava/lang/Object;Ljava/lang/String;)Ljava/lang/Object;" } : Jvm.MethodName) jdk_31_method_11_code (2 : Nat) (Option.some (Jvm.ClassFile.FieldType.object "java/lang/Object"))).before args0 about1 = true := code_word (m := ⟨11, 1⟩) (meth := k11m1) (c := k11c1) (by decide +kernel) rfl rfl rfl (by decide +kernel)
set_option maxRecDepth 65536 in
theorem w_c10 : (Jvm.Cond.code ({ cls := "com/example/floatbook/floatbook/core/Nearby", name := "ordinal", desc := "()Ljava/lang/String;" } : Jvm.MethodName) prog_20_method_2_code (1 : Nat) (Option.some (Jvm.ClassFile.FieldType.object "java/lang/String"))).before args0 about1 = true := code_word (m := ⟨3, 1⟩) (meth := k3m1) (c := k3c1) (by decide +kernel) rfl rfl rfl (by decide +kernel)
set_option maxRecDepth 65536 in
theorem w_c11 : (Jvm.Cond.code ({ cls := "java/lang/String", name := "length", desc := "()I" } : Jvm.MethodName) jdk_42_method_54_code (1 : Nat) (Option.some Jvm.ClassFile.FieldType.int)).before args0 about1 = true := code_word (m := ⟨9, 2⟩) (meth := k9m2) (c := k9c2) (by decide +kernel) rfl rfl rfl (by decide +kernel)
set_option maxRecDepth 65536 in
theorem w_c12 : (Jvm.Cond.code ({ cls := "java/lang/String", name := "coder", desc := "()B" } : Jvm.MethodName) jdk_42_method_152_code (1 : Nat) (Option.some Jvm.ClassFile.FieldType.byte)).before args0 about1 = true := code_word (m := ⟨9, 5⟩) (meth := k9m5) (c := k9c5) (by decide +kernel) rfl rfl rfl (by decide +kernel)
set_option maxRecDepth 65536 in
theorem w_c13 : (Jvm.Cond.code ({ cls := "java/lang/String", name := "charAt", desc := "(I)C" } : Jvm.MethodName) jdk_42_method_56_code (2 : Nat) (Option.some Jvm.ClassFile.FieldType.char)).before args0 about1 = true := code_word (m := ⟨9, 3⟩) (meth := k9m3) (c := k9c3) (by decide +kernel) rfl rfl rfl (by decide +kernel)
set_option maxRecDepth 65536 in
theorem w_c14 : (Jvm.Cond.code ({ cls := "java/lang/String", name := "isLatin1", desc := "()Z" } : Jvm.MethodName) jdk_42_method_154_code (1 : Nat) (Option.some Jvm.ClassFile.FieldType.boolean)).before args0 about1 = true := code_word (m := ⟨9, 6⟩) (meth := k9m6) (c := k9c6) (by decide +kernel) rfl rfl rfl (by decide +kernel)
set_option maxRecDepth 65536 in
theorem w_c15 : (Jvm.Cond.code ({ cls := "java/lang/StringLatin1", name := "charAt", desc := "([BI)C" } : Jvm.MethodName) jdk_43_method_2_code (2 : Nat) (Option.some Jvm.ClassFile.FieldType.char)).before args0 about1 = true := code_word (m := ⟨12, 1⟩) (meth := k12m1) (c := k12c1) (by decide +kernel) rfl rfl rfl (by decide +kernel)
set_option maxRecDepth 65536 in
theorem w_c16 : (Jvm.Cond.code ({ cls := "java/lang/String", name := "checkIndex", desc := "(II)V" } : Jvm.MethodName) jdk_42_method_155_code (2 : Nat) (Option.none : Option Jvm.ClassFile.FieldType)).before args0 about1 = true := code_word (m := ⟨9, 7⟩) (meth := k9m7) (c := k9c7) (by decide +kernel) rfl rfl rfl (by decide +kernel)
set_option maxRecDepth 65536 in
theorem w_c17 : (Jvm.Cond.code ({ cls := "jdk/internal/util/Preconditions", name := "checkIndex", desc := "(IILjava/util/function/BiFunction;)I" } : Jvm.MethodName) jdk_41_method_11_code (3 : Nat) (Option.some Jvm.ClassFile.FieldType.int)).before args0 about1 = true := code_word (m := ⟨13, 1⟩) (meth := k13m1) (c := k13c1) (by decide +kernel) rfl rfl rfl (by decide +kernel)
set_option maxRecDepth 65536 in
theorem w_c18 : (Jvm.Cond.code ({ cls := "com/example/floatbook/floatbook/core/Nearby", name := "position", desc := "()I" } : Jvm.MethodName) prog_20_method_7_code (1 : Nat) (Option.some Jvm.ClassFile.FieldType.int)).before args0 about1 = true := code_word (m := ⟨3, 2⟩) (meth := k3m2) (c := k3c2) (by decide +kernel) rfl rfl rfl (by decide +kernel)
def codes1 : List Jvm.Cond := [Jvm.Cond.code x code maxLocals ret, Jvm.Cond.code ({ cls := "java/lang/String", name := "<init>", desc := "([C)V" } : Jvm.MethodName) jdk_42_method_3_code (2 : Nat) (Option.none : Option Jvm.ClassFile.FieldType), Jvm.Cond.code ({ cls := "java/lang/String", name := "<init>", desc := "([CIILjava/lang/Void;)V" } : Jvm.MethodName) jdk_42_method_149_code (6 : Nat) (Option.none : Option Jvm.ClassFile.FieldType), Jvm.Cond.code ({ cls := "java/lang/Object", name := "<init>", desc := "()V" } : Jvm.MethodName) object_method_1_code (1 : Nat) (Option.none : Option Jvm.ClassFile.FieldType), Jvm.Cond.code ({ cls := "java/lang/StringUTF16", name := "compress", desc := "([CII)[B" } : Jvm.MethodName) jdk_52_method_16_code (6 : Nat) (Option.some (Jvm.ClassFile.FieldType.array Jvm.ClassFile.FieldType.byte)), Jvm.Cond.code ({ cls := "java/lang/StringUTF16", name := "compress", desc := "([CI[BII)I" } : Jvm.MethodName) jdk_52_method_21_code (7 : Nat) (Option.some Jvm.ClassFile.FieldType.int), Jvm.Cond.code ({ cls := "java/lang/StringUTF16", name := "coderFromArrayLen", desc := "([BI)B" } : Jvm.MethodName) jdk_52_method_15_code (2 : Nat) (Option.some Jvm.ClassFile.FieldType.byte), Jvm.Cond.code ({ cls := "com/example/floatbook/floatbook/core/Nearby", name := "<init>", desc := "(Ljava/lang/String;ILjava/lang/String;)V" } : Jvm.MethodName) prog_20_method_1_code (4 : Nat) (Option.none : Option Jvm.ClassFile.FieldType), Jvm.Cond.code ({ cls := "java/lang/Record", name := "<init>", desc := "()V" } : Jvm.MethodName) jdk_30_method_1_code (1 : Nat) (Option.none : Option Jvm.ClassFile.FieldType), Jvm.Cond.code ({ cls := "java/util/Objects", name := "requireNonNull", desc := "(Ljava/lang/Object;Ljava/lang/String;)Ljava/lang/Object;" } : Jvm.MethodName) jdk_31_method_11_code (2 : Nat) (Option.some (Jvm.ClassFile.FieldType.object "java/lang/Object")), Jvm.Cond.code ({ cls := "com/example/floatbook/floatbook/core/Nearby", name := "ordinal", desc := "()Ljava/lang/String;" } : Jvm.MethodName) prog_20_method_2_code (1 : Nat) (Option.some (Jvm.ClassFile.FieldType.object "java/lang/String")), Jvm.Cond.code ({ cls := "java/lang/String", name := "length", desc := "()I" } : Jvm.MethodName) jdk_42_method_54_code (1 : Nat) (Option.some Jvm.ClassFile.FieldType.int), Jvm.Cond.code ({ cls := "java/lang/String", name := "coder", desc := "()B" } : Jvm.MethodName) jdk_42_method_152_code (1 : Nat) (Option.some Jvm.ClassFile.FieldType.byte), Jvm.Cond.code ({ cls := "java/lang/String", name := "charAt", desc := "(I)C" } : Jvm.MethodName) jdk_42_method_56_code (2 : Nat) (Option.some Jvm.ClassFile.FieldType.char), Jvm.Cond.code ({ cls := "java/lang/String", name := "isLatin1", desc := "()Z" } : Jvm.MethodName) jdk_42_method_154_code (1 : Nat) (Option.some Jvm.ClassFile.FieldType.boolean), Jvm.Cond.code ({ cls := "java/lang/StringLatin1", name := "charAt", desc := "([BI)C" } : Jvm.MethodName) jdk_43_method_2_code (2 : Nat) (Option.some Jvm.ClassFile.FieldType.char), Jvm.Cond.code ({ cls := "java/lang/String", name := "checkIndex", desc := "(II)V" } : Jvm.MethodName) jdk_42_method_155_code (2 : Nat) (Option.none : Option Jvm.ClassFile.FieldType), Jvm.Cond.code ({ cls := "jdk/internal/util/Preconditions", name := "checkIndex", desc := "(IILjava/util/function/BiFunction;)I" } : Jvm.MethodName) jdk_41_method_11_code (3 : Nat) (Option.some Jvm.ClassFile.FieldType.int), Jvm.Cond.code ({ cls := "com/example/floatbook/floatbook/core/Nearby", name := "position", desc := "()I" } : Jvm.MethodName) prog_20_method_7_code (1 : Nat) (Option.some Jvm.ClassFile.FieldType.int)]
set_option maxRecDepth 65536 in
theorem codes_eq : words1.filter isCode = codes1 := rfl
theorem w_codes : ∀ c ∈ words1.filter isCode, c.before args0 about1 = true := by
  rw [codes_eq]
  intro c hc
  simp only [codes1, List.mem_cons, List.not_mem_nil, or_false] at hc
  rcases hc with rfl | rfl | rfl | rfl | rfl | rfl | rfl | rfl | rfl | rfl | rfl | rfl | rfl | rfl | rfl | rfl | rfl | rfl | rfl
  · exact w_c0
  · exact w_c1
  · exact w_c2
  · exact w_c3
  · exact w_c4
  · exact w_c5
  · exact w_c6
  · exact w_c7
  · exact w_c8
  · exact w_c9
  · exact w_c10
  · exact w_c11
  · exact w_c12
  · exact w_c13
  · exact w_c14
  · exact w_c15
  · exact w_c16
  · exact w_c17
  · exact w_c18
set_option maxRecDepth 65536 in
theorem w_t1 : (words1.take 24).all (fun c => isCode c || c.before args0 about1) = true := by decide +kernel
set_option maxRecDepth 65536 in
theorem w_t2 : ((words1.drop 24).take 24).all (fun c => isCode c || c.before args0 about1) = true := by decide +kernel
set_option maxRecDepth 65536 in
theorem w_t3 : (((words1.drop 24).drop 24).take 24).all (fun c => isCode c || c.before args0 about1) = true := by decide +kernel
set_option maxRecDepth 65536 in
theorem w_t4 : ((((words1.drop 24).drop 24).drop 24).take 24).all (fun c => isCode c || c.before args0 about1) = true := by decide +kernel
set_option maxRecDepth 65536 in
theorem w_t5 : ((((words1.drop 24).drop 24).drop 24).drop 24).all (fun c => isCode c || c.before args0 about1) = true := by decide +kernel
theorem w_tables : (allAtoms (Jvm.Cond.code x code maxLocals ret :: tables_1)).before args0 about1 = true := by
  rw [allAtoms_all]
  show words1.all (fun c => c.before args0 about1) = true
  refine all_split ?_ w_codes
  rw [← List.take_append_drop 24 words1, List.all_append, w_t1, ← List.take_append_drop 24 (words1.drop 24), List.all_append, w_t2, ← List.take_append_drop 24 ((words1.drop 24).drop 24), List.all_append, w_t3, ← List.take_append_drop 24 (((words1.drop 24).drop 24).drop 24), List.all_append, w_t4, w_t5]
  rfl
set_option maxRecDepth 65536 in
theorem w_rest : rest_1_c.before args0 about1 = true := by decide +kernel
set_option maxRecDepth 65536 in
theorem w_case : (Jvm.Cond.and given_1 narrow_1).before args0 about1 = true := by decide +kernel
set_option maxRecDepth 65536 in
theorem w_consts : constsHeld consts_1 about1 := Jvm.Lit.constsHeldB_iff.mp (by decide +kernel)
theorem w_applies : (headSpec (Jvm.Cond.code x code maxLocals ret :: tables_1) room_1).applies x e0.platform about1 = true :=
  (Spec.applies_iff w_frames).mpr ⟨w_running, w_runnable, w_alone, w_named, w_hears, w_ripe, w_room, w_tables⟩
theorem atStart : AtStart classFile x code maxLocals ret World_1 tables_1 room_1 Calls_1 rest_1 Pre_1 launch0 p0 e0 about1 theMethod args0 below0 :=
  ⟨lists_1, trivial, launch0.admits_env _ _ _, launch0.least_env, fairChoices_fair.cas, fairChoices_fair.clock, w_frames, w_args, w_heap, w_applies, ⟨w_consts, trivial⟩, w_rest, w_case⟩
end start1
theorem witness_1 : WitnessClaimed_1 := ⟨start1.p0, start1.e0, start1.about1, start1.theMethod, start1.args0, start1.below0, start1.atStart⟩
end Jvm.Pilot.@@N@@
