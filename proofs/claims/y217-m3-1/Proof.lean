import JvmDerived
import JvmDerived.Pilot.@@N@@Statement
import JvmDerived.Pilot.@@N@@Code
set_option linter.unusedVariables false
set_option linter.unusedSimpArgs false
namespace Jvm.Pilot.@@N@@
open Jvm Jvm.ClassFile Sem Op Lib Jvm.Free Jvm.Stand Jvm.LawKit Jvm.RoadKit Bundle Jvm.Pilot.@@N@@.Jvm.D
section OwnSmall
variable {x y : Int32} {v : Value}
theorem qEqT (h : x = y) : if_icmp.holds .eq x y = true := (teq h).1
theorem qEqF (h : ¬ x = y) : if_icmp.holds .eq x y = false := (feq h).1
theorem qNeT (h : ¬ x = y) : if_icmp.holds .ne x y = true := (feq h).2
theorem qNeF (h : x = y) : if_icmp.holds .ne x y = false := (teq h).2
theorem qLtT (h : x < y) : if_icmp.holds .lt x y = true := (tlt h).1
theorem qGeF (h : x < y) : if_icmp.holds .ge x y = false := (tlt h).2.1
theorem qGtT (h : y < x) : if_icmp.holds .gt x y = true := (tlt h).2.2.1
theorem qLeF (h : y < x) : if_icmp.holds .le x y = false := (tlt h).2.2.2
theorem qLtF (h : ¬ x < y) : if_icmp.holds .lt x y = false := by simp [if_icmp.holds, h]
theorem qGeT (h : ¬ x < y) : if_icmp.holds .ge x y = true := by
  have h' : y ≤ x := by rw [Int32.le_iff_toInt_le]; rw [Int32.lt_iff_toInt_lt] at h; omega
  simp [if_icmp.holds, h']
theorem qGtF (h : ¬ y < x) : if_icmp.holds .gt x y = false := by simp [if_icmp.holds, h]
theorem qLeT (h : ¬ y < x) : if_icmp.holds .le x y = true := by
  have h' : x ≤ y := by rw [Int32.le_iff_toInt_le]; rw [Int32.lt_iff_toInt_lt] at h; omega
  simp [if_icmp.holds, h']
theorem zEqT (h : x = 0) : ifCond.holds .eq x = true := by rw [if0]; exact qEqT h
theorem zEqF (h : ¬ x = 0) : ifCond.holds .eq x = false := by rw [if0]; exact qEqF h
theorem zNeT (h : ¬ x = 0) : ifCond.holds .ne x = true := by rw [if0]; exact qNeT h
theorem zNeF (h : x = 0) : ifCond.holds .ne x = false := by rw [if0]; exact qNeF h
theorem zLtT (h : x < 0) : ifCond.holds .lt x = true := by rw [if0]; exact qLtT h
theorem zLtF (h : ¬ x < 0) : ifCond.holds .lt x = false := by rw [if0]; exact qLtF h
theorem zGeT (h : ¬ x < 0) : ifCond.holds .ge x = true := by rw [if0]; exact qGeT h
theorem zGeF (h : x < 0) : ifCond.holds .ge x = false := by rw [if0]; exact qGeF h
theorem zGtT (h : 0 < x) : ifCond.holds .gt x = true := by rw [if0]; exact qGtT h
theorem zGtF (h : ¬ 0 < x) : ifCond.holds .gt x = false := by rw [if0]; exact qGtF h
theorem zLeT (h : ¬ 0 < x) : ifCond.holds .le x = true := by rw [if0]; exact qLeT h
theorem zLeF (h : 0 < x) : ifCond.holds .le x = false := by rw [if0]; exact qLeF h
theorem cat1 (h : v.isRef = true) : v.category = 1 := by cases v <;> first | rfl | cases h
theorem nrR {c : String} (h : v.isRef = true) : narrow (.object c) v = v := by cases v <;> first | rfl | cases h
theorem ftR {c : String} (h : v.isRef = true) : fits (.object c) v = true := by cases v <;> first | rfl | cases h
/-- a char below 256 -/
def Chr (c : Int32) : Prop := ¬ c < 0 ∧ ¬ (255 : Int32) < c
theorem Chr.nar {c : Int32} (h : Chr c) : nar .char c = c := by
  have q := c_i2c c
  show c.toUInt32.toUInt16.toUInt32.toInt32 = c
  apply Int32.toInt_inj.mp
  have h1 := h.1
  have h2 := h.2
  rw [Int32.lt_iff_toInt_lt] at h1 h2
  have e1 : (0 : Int32).toInt = 0 := rfl
  have e2 : (255 : Int32).toInt = 255 := rfl
  omega
theorem chr255 (z : Int32) : Chr ((z &&& (255 : Int32)).toUInt32.toUInt16.toUInt32.toInt32) := by
  rw [i2c_mask]
  have q := c_and z 255 (by decide)
  have e1 : (0 : Int32).toInt = 0 := rfl
  have e2 : (255 : Int32).toInt = 255 := rfl
  refine ⟨fun h => ?_, fun h => ?_⟩ <;> rw [Int32.lt_iff_toInt_lt] at h <;> omega
end OwnSmall
end Jvm.Pilot.@@N@@
namespace Jvm.Pilot.@@N@@
open Jvm Jvm.ClassFile Sem Op Lib Jvm.Free Jvm.Stand Jvm.LawKit Jvm.RoadKit Bundle Jvm.Pilot.@@N@@.Jvm.D
section OwnKit
/-- from (T, f) the run comes to an end of which P speaks -/
def Go (p : Program) (e : Env) (below : List Frame) (P : Outcome → State → Prop) (T : State) (f : JFrame) : Prop :=
  ∃ s₂ o, Steps p.tables e below (T.setTop f) s₂ ∧ s₂.status = .running ∧ Ended s₂ below o ∧ P o s₂
/-- the end of a body: narrow (nothing interned) or wide -/
def EndB (wd : Bool) (EL : List (String × Nat)) (Z s : State) (o : Outcome) (t : State) (L : List Loc) (k n : Nat) : Prop :=
  match wd with
  | true => CHr Z EL s.vm s.heap t.vm t.heap ∧ ReturnedEndW s o t L k n
  | false => FrameEnd s o t L k n
def Done (wd : Bool) (EL : List (String × Nat)) (Z s : State) (n0 : Nat) (h0 : Heap) (ws : List Addr) (rc rs : Nat) (Q : Option Value → Heap → Prop) (o : Outcome) (U : State) : Prop :=
  ∃ v L, o = .returned v ∧ (Q v U.heap ∧ Keep h0 U.heap ws ∧ Fr n0 L) ∧ EndB wd EL Z s o U L rc rs
/-- where a walk stands: its state T, its heap h; F: places that no booked literal lies in; ws0: what may be written of what stood at the body's start -/
def Sd (wd : Bool) (EL : List (String × Nat)) (a0 : Array Value) (p : Program) (l : Launch) (e : Env) (R : Room) (s : State) (m : MethodId) (args : Array Value) (below : List Frame) (meth : Method) (c : Code) (Z : State) (own : String) (n0 : Nat) (h0 : Heap) (ws0 : List Addr)
    (T : State) (h : Heap) (F : List Addr) (locs : List Loc) (cells slots : Nat) : Prop :=
  (p.tables.exec = Jvm.exec ∧ meth.locks = false ∧ EW Z a0 EL ∧ s.heap = h0 ∧ Old Z n0 h0 ∧ ∀ x ∈ ws0, n0 ≤ x) ∧
  ∃ vm0 k0, (wd = false → vm0 = s.vm) ∧ Stand p l e R (s.setVm vm0) m args below meth c T locs cells slots ∧ T.heap = h ∧ s.Since vm0 k0 ∧ k0 ≤ h.size ∧ Z.Warmed39 vm0 ∧ vm0.findClass own = some m.cls ∧ Old Z n0 h ∧ Fr n0 locs ∧ Keep h0 h ws0 ∧
    CHr Z EL s.vm s.heap vm0 h ∧ ∀ x ∈ F, Safe Z EL vm0 h x ∧ x < h.size
variable {wd : Bool} {EL : List (String × Nat)} {a0 : Array Value} {p : Program} {l : Launch} {e : Env} {R : Room} {s : State} {m : MethodId} {args : Array Value} {below : List Frame} {meth : Method} {c : Code} {Z : State} {own : String} {n0 : Nat} {h0 : Heap} {ws0 : List Addr}
  {T T' : State} {h h' : Heap} {F F' : List Addr} {locs locs' : List Loc} {cells slots cells' slots' : Nat} {P : Outcome → State → Prop} {pc pc' : Nat} {Ls : Array Slot} {st rest : List Value} {f f' : JFrame} {vm0 : Vm} {k0 : Nat} {ws : List Addr}
theorem Go.by (k : ∀ t, Steps p.tables e below (T'.setTop f') t → Steps p.tables e below (T.setTop f) t) (g : Go p e below P T' f') : Go p e below P T f := by
  obtain ⟨s₂, o, h1, h2⟩ := g
  exact ⟨s₂, o, k _ h1, h2⟩
theorem Go.cast (q : f = f') (g : Go p e below P T f') : Go p e below P T f := q ▸ g
theorem own_ole (O : Old Z n0 h) : n0 ≤ h.size := by rw [← O.1]; exact O.2.1
/-- what may be written -/
def Wok (n0 : Nat) (h0 : Heap) (ws0 : List Addr) (a : Addr) : Prop := a ∈ ws0 ∨ h0.size ≤ a
theorem Wok.le {a : Addr} (w : Wok n0 h0 ws0 a) (h1 : n0 ≤ h0.size) (h2 : ∀ x ∈ ws0, n0 ≤ x) : n0 ≤ a := by
  rcases w with w | w
  · exact h2 _ w
  · exact Nat.le_trans h1 w
theorem Sd.hx (S : Sd wd EL a0 p l e R s m args below meth c Z own n0 h0 ws0 T h F locs cells slots) : p.tables.exec = Jvm.exec := S.1.1
theorem Sd.at (S : Sd wd EL a0 p l e R s m args below meth c Z own n0 h0 ws0 T h F locs cells slots) : At T m c below := by
  obtain ⟨-, vm0, k0, -, X, -⟩ := S
  exact X.here
theorem Sd.old (S : Sd wd EL a0 p l e R s m args below meth c Z own n0 h0 ws0 T h F locs cells slots) : Old Z n0 h := by
  obtain ⟨-, vm0, k0, -, -, -, -, -, -, -, O, -⟩ := S
  exact O
theorem Sd.kept (S : Sd wd EL a0 p l e R s m args below meth c Z own n0 h0 ws0 T h F locs cells slots) : Keep h0 h ws0 := by
  obtain ⟨-, vm0, k0, -, -, -, -, -, -, -, -, -, K, -⟩ := S
  exact K
theorem Sd.sz (S : Sd wd EL a0 p l e R s m args below meth c Z own n0 h0 ws0 T h F locs cells slots) : n0 ≤ h.size := Nat.le_trans (own_ole S.1.2.2.2.2.1) S.kept.1
theorem Sd.ge (S : Sd wd EL a0 p l e R s m args below meth c Z own n0 h0 ws0 T h F locs cells slots) {a : Addr} (w : Wok n0 h0 ws0 a) : n0 ≤ a := w.le (own_ole S.1.2.2.2.2.1) S.1.2.2.2.2.2
/-- the walk goes on over the same tables: the heap moved by a Keep -/
theorem Sd.close (A : p.tables.exec = Jvm.exec ∧ meth.locks = false ∧ EW Z a0 EL ∧ s.heap = h0 ∧ Old Z n0 h0 ∧ ∀ x ∈ ws0, n0 ≤ x) (hv : wd = false → vm0 = s.vm) (X : Stand p l e R (s.setVm vm0) m args below meth c T' locs' cells' slots') (eT : T'.heap = h') (hS : s.Since vm0 k0) (hk : k0 ≤ h.size) (hZ : Z.Warmed39 vm0) (hown : vm0.findClass own = some m.cls) (O : Old Z n0 h) (N : Fr n0 locs') (K0 : Keep h0 h ws0)
    (C : CHr Z EL s.vm s.heap vm0 h) (hF : ∀ x ∈ F, Safe Z EL vm0 h x ∧ x < h.size) (K : Keep h h' ws) (hws : ∀ x ∈ ws, Wok n0 h0 ws0 x ∧ Safe Z EL vm0 h x) (hF' : ∀ x ∈ F', x ∈ F ∨ (h.size ≤ x ∧ x < h'.size)) : Sd wd EL a0 p l e R s m args below meth c Z own n0 h0 ws0 T' h' F' locs' cells' slots' := by
  have hsf : ∀ x ∈ ws, Safe Z EL vm0 h x := fun x hx => (hws x hx).2
  refine ⟨A, vm0, k0, hv, X, eT, hS, Nat.le_trans hk K.1, hZ, hown, O.keep K fun x hx => (hws x hx).1.le (own_ole A.2.2.2.2.1) A.2.2.2.2.2, N, K0.trans K fun x hx => (hws x hx).1, C.trans (CHr.keep K hsf C.1), fun x hx => ?_⟩
  rcases hF' x hx with q | ⟨q1, q2⟩
  · exact ⟨Safe.keep K hsf C.1 (hF x q).1, Nat.lt_of_lt_of_le (hF x q).2 K.1⟩
  · exact ⟨Safe.keep K hsf C.1 (Safe.new q1), q2⟩
theorem Ext.kp (E : Ext h h') : Keep h h' [] := (Keep.refl h []).ext E
theorem noWs : ∀ x ∈ ([] : List Addr), Wok n0 h0 ws0 x ∧ Safe Z EL vm0 h x := fun _ q => nomatch q
/-! ### plain steps -/
theorem Sd.aloadN (S : Sd wd EL a0 p l e R s m args below meth c Z own n0 h0 ws0 T h F locs cells slots) {k : Fin 4} {v : Value} (pc' : Nat) (hd : decode c.code pc = .ok (.aload_n k, 1)) (hl : Ls[k.val]? = some (.val v)) (hv : v.isRef = true) (g : Go p e below P T (mkF m pc' Ls (v :: st))) (hp : pc + 1 = pc' := by rfl) : Go p e below P T (mkF m pc Ls st) := by
  subst hp; exact Go.by (fun _ q => XS.aloadN S.at S.hx rfl hd hl hv q) g
theorem Sd.aload (S : Sd wd EL a0 p l e R s m args below meth c Z own n0 h0 ws0 T h F locs cells slots) {k : Nat} {v : Value} (pc' : Nat) (hd : decode c.code pc = .ok (.aload k, 2)) (hl : Ls[k]? = some (.val v)) (hv : v.isRef = true) (g : Go p e below P T (mkF m pc' Ls (v :: st))) (hp : pc + 2 = pc' := by rfl) : Go p e below P T (mkF m pc Ls st) := by
  subst hp; exact Go.by (fun _ q => XS.aload S.at S.hx rfl hd hl hv q) g
theorem Sd.iloadN (S : Sd wd EL a0 p l e R s m args below meth c Z own n0 h0 ws0 T h F locs cells slots) {k : Fin 4} {v : Int32} (pc' : Nat) (hd : decode c.code pc = .ok (.iload_n k, 1)) (hl : Ls[k.val]? = some (.val (.int v))) (g : Go p e below P T (mkF m pc' Ls (.int v :: st))) (hp : pc + 1 = pc' := by rfl) : Go p e below P T (mkF m pc Ls st) := by
  subst hp; exact Go.by (fun _ q => XS.iloadN S.at S.hx rfl hd hl q) g
theorem Sd.iload (S : Sd wd EL a0 p l e R s m args below meth c Z own n0 h0 ws0 T h F locs cells slots) {k : Nat} {v : Int32} (pc' : Nat) (hd : decode c.code pc = .ok (.iload k, 2)) (hl : Ls[k]? = some (.val (.int v))) (g : Go p e below P T (mkF m pc' Ls (.int v :: st))) (hp : pc + 2 = pc' := by rfl) : Go p e below P T (mkF m pc Ls st) := by
  subst hp; exact Go.by (fun _ q => XS.iload S.at S.hx rfl hd hl q) g
theorem Sd.lloadN (S : Sd wd EL a0 p l e R s m args below meth c Z own n0 h0 ws0 T h F locs cells slots) {k : Fin 4} {v : Int64} (pc' : Nat) (hd : decode c.code pc = .ok (.lload_n k, 1)) (hl : Ls[k.val]? = some (.val (.long v))) (g : Go p e below P T (mkF m pc' Ls (.long v :: st))) (hp : pc + 1 = pc' := by rfl) : Go p e below P T (mkF m pc Ls st) := by
  subst hp; exact Go.by (fun _ q => XS.lloadN S.at S.hx rfl hd hl q) g
theorem Sd.lload (S : Sd wd EL a0 p l e R s m args below meth c Z own n0 h0 ws0 T h F locs cells slots) {k : Nat} {v : Int64} (pc' : Nat) (hd : decode c.code pc = .ok (.lload k, 2)) (hl : Ls[k]? = some (.val (.long v))) (g : Go p e below P T (mkF m pc' Ls (.long v :: st))) (hp : pc + 2 = pc' := by rfl) : Go p e below P T (mkF m pc Ls st) := by
  subst hp; exact Go.by (fun _ q => XS.lload S.at S.hx rfl hd hl q) g
theorem Sd.iconst (S : Sd wd EL a0 p l e R s m args below meth c Z own n0 h0 ws0 T h F locs cells slots) {i : Int} (pc' : Nat) (z : Int32) (hd : decode c.code pc = .ok (.iconst i, 1)) (g : Go p e below P T (mkF m pc' Ls (.int z :: st))) (hp : pc + 1 = pc' := by rfl) (hz : Int32.ofInt i = z := by rfl) : Go p e below P T (mkF m pc Ls st) := by
  subst hp hz; exact Go.by (fun _ q => XS.iconst S.at S.hx rfl hd q) g
theorem Sd.bipush (S : Sd wd EL a0 p l e R s m args below meth c Z own n0 h0 ws0 T h F locs cells slots) {i : Int} (pc' : Nat) (z : Int32) (hd : decode c.code pc = .ok (.bipush i, 2)) (g : Go p e below P T (mkF m pc' Ls (.int z :: st))) (hp : pc + 2 = pc' := by rfl) (hz : (Int8.ofInt i).toInt32 = z := by rfl) : Go p e below P T (mkF m pc Ls st) := by
  subst hp hz; exact Go.by (fun _ q => XS.bipush S.at S.hx rfl hd q) g
theorem Sd.sipush (S : Sd wd EL a0 p l e R s m args below meth c Z own n0 h0 ws0 T h F locs cells slots) {i : Int} (pc' : Nat) (z : Int32) (hd : decode c.code pc = .ok (.sipush i, 3)) (g : Go p e below P T (mkF m pc' Ls (.int z :: st))) (hp : pc + 3 = pc' := by rfl) (hz : (Int16.ofInt i).toInt32 = z := by rfl) : Go p e below P T (mkF m pc Ls st) := by
  subst hp hz; exact Go.by (fun _ q => XS.sipush S.at S.hx rfl hd q) g
theorem Sd.lconst (S : Sd wd EL a0 p l e R s m args below meth c Z own n0 h0 ws0 T h F locs cells slots) {i : Fin 2} (pc' : Nat) (z : Int64) (hd : decode c.code pc = .ok (.lconst i, 1)) (g : Go p e below P T (mkF m pc' Ls (.long z :: st))) (hp : pc + 1 = pc' := by rfl) (hz : Int64.ofNat i = z := by rfl) : Go p e below P T (mkF m pc Ls st) := by
  subst hp hz; exact Go.by (fun _ q => XS.lconst S.at S.hx rfl hd q) g
theorem Sd.anull (S : Sd wd EL a0 p l e R s m args below meth c Z own n0 h0 ws0 T h F locs cells slots) (pc' : Nat) (hd : decode c.code pc = .ok (.aconst_null, 1)) (g : Go p e below P T (mkF m pc' Ls (.null :: st))) (hp : pc + 1 = pc' := by rfl) : Go p e below P T (mkF m pc Ls st) := by
  subst hp; exact Go.by (fun _ q => XS.aconstNull S.at S.hx rfl hd q) g
theorem Sd.istoreN (S : Sd wd EL a0 p l e R s m args below meth c Z own n0 h0 ws0 T h F locs cells slots) {k : Fin 4} {x : Int32} (pc' : Nat) (l' : Array Slot) (hd : decode c.code pc = .ok (.istore_n k, 1)) (hl : storeLocals Ls k.val (.int x) = some l') (g : Go p e below P T (mkF m pc' l' st)) (hp : pc + 1 = pc' := by rfl) : Go p e below P T (mkF m pc Ls (.int x :: st)) := by
  subst hp; exact Go.by (fun _ q => XS.istoreN S.at S.hx rfl hd rfl hl q) g
theorem Sd.istore (S : Sd wd EL a0 p l e R s m args below meth c Z own n0 h0 ws0 T h F locs cells slots) {k : Nat} {x : Int32} (pc' : Nat) (l' : Array Slot) (hd : decode c.code pc = .ok (.istore k, 2)) (hl : storeLocals Ls k (.int x) = some l') (g : Go p e below P T (mkF m pc' l' st)) (hp : pc + 2 = pc' := by rfl) : Go p e below P T (mkF m pc Ls (.int x :: st)) := by
  subst hp; exact Go.by (fun _ q => XS.istore S.at S.hx rfl hd rfl hl q) g
theorem Sd.lstoreN (S : Sd wd EL a0 p l e R s m args below meth c Z own n0 h0 ws0 T h F locs cells slots) {k : Fin 4} {x : Int64} (pc' : Nat) (l' : Array Slot) (hd : decode c.code pc = .ok (.lstore_n k, 1)) (hl : storeLocals Ls k.val (.long x) = some l') (g : Go p e below P T (mkF m pc' l' st)) (hp : pc + 1 = pc' := by rfl) : Go p e below P T (mkF m pc Ls (.long x :: st)) := by
  subst hp; exact Go.by (fun _ q => XS.lstoreN S.at S.hx rfl hd rfl hl q) g
theorem Sd.lstore (S : Sd wd EL a0 p l e R s m args below meth c Z own n0 h0 ws0 T h F locs cells slots) {k : Nat} {x : Int64} (pc' : Nat) (l' : Array Slot) (hd : decode c.code pc = .ok (.lstore k, 2)) (hl : storeLocals Ls k (.long x) = some l') (g : Go p e below P T (mkF m pc' l' st)) (hp : pc + 2 = pc' := by rfl) : Go p e below P T (mkF m pc Ls (.long x :: st)) := by
  subst hp; exact Go.by (fun _ q => XS.lstore S.at S.hx rfl hd rfl hl q) g
theorem Sd.astoreN (S : Sd wd EL a0 p l e R s m args below meth c Z own n0 h0 ws0 T h F locs cells slots) {k : Fin 4} {x : Value} (pc' : Nat) (l' : Array Slot) (hd : decode c.code pc = .ok (.astore_n k, 1)) (hv : x.isRef = true) (hl : storeLocals Ls k.val x = some l') (g : Go p e below P T (mkF m pc' l' st)) (hp : pc + 1 = pc' := by rfl) : Go p e below P T (mkF m pc Ls (x :: st)) := by
  subst hp; exact Go.by (fun _ q => XS.astoreN S.at S.hx rfl hd rfl hv hl q) g
theorem Sd.astore (S : Sd wd EL a0 p l e R s m args below meth c Z own n0 h0 ws0 T h F locs cells slots) {k : Nat} {x : Value} (pc' : Nat) (l' : Array Slot) (hd : decode c.code pc = .ok (.astore k, 2)) (hv : x.isRef = true) (hl : storeLocals Ls k x = some l') (g : Go p e below P T (mkF m pc' l' st)) (hp : pc + 2 = pc' := by rfl) : Go p e below P T (mkF m pc Ls (x :: st)) := by
  subst hp; exact Go.by (fun _ q => XS.astore S.at S.hx rfl hd rfl hv hl q) g
theorem Sd.iinc (S : Sd wd EL a0 p l e R s m args below meth c Z own n0 h0 ws0 T h F locs cells slots) {k : Nat} {cst : Int} {x : Int32} (pc' : Nat) (l' : Array Slot) (hd : decode c.code pc = .ok (.iinc k cst, 3)) (hl : Ls[k]? = some (.val (.int x))) (hl' : storeLocals Ls k (.int (x + Int32.ofInt cst)) = some l') (g : Go p e below P T (mkF m pc' l' st)) (hp : pc + 3 = pc' := by rfl) : Go p e below P T (mkF m pc Ls st) := by
  subst hp; exact Go.by (fun _ q => XS.iinc S.at S.hx rfl hd hl hl' q) g
theorem Sd.goto (S : Sd wd EL a0 p l e R s m args below meth c Z own n0 h0 ws0 T h F locs cells slots) {o : Int} (pc' : Nat) (hd : decode c.code pc = .ok (.goto o, 3)) (g : Go p e below P T (mkF m pc' Ls st)) (ho : 0 ≤ (pc : Int) + o := by decide) (hp : ((pc : Int) + o).toNat = pc' := by decide) : Go p e below P T (mkF m pc Ls st) :=
  Go.by (fun _ q => XS.goto S.at S.hx rfl rfl hd ho hp q) g
theorem Sd.ifY (S : Sd wd EL a0 p l e R s m args below meth c Z own n0 h0 ws0 T h F locs cells slots) {cd : ClassFile.Cond} {x : Int32} {o : Int} (pc' : Nat) (hd : decode c.code pc = .ok (.ifCond cd o, 3)) (hc : ifCond.holds cd x = true) (g : Go p e below P T (mkF m pc' Ls st)) (ho : 0 ≤ (pc : Int) + o := by decide) (hp : ((pc : Int) + o).toNat = pc' := by decide) : Go p e below P T (mkF m pc Ls (.int x :: st)) :=
  Go.by (fun _ q => XS.ifYes S.at S.hx rfl rfl hd rfl hc ho hp q) g
theorem Sd.ifN (S : Sd wd EL a0 p l e R s m args below meth c Z own n0 h0 ws0 T h F locs cells slots) {cd : ClassFile.Cond} {x : Int32} {o : Int} (pc' : Nat) (hd : decode c.code pc = .ok (.ifCond cd o, 3)) (hc : ifCond.holds cd x = false) (g : Go p e below P T (mkF m pc' Ls st)) (hp : pc + 3 = pc' := by rfl) : Go p e below P T (mkF m pc Ls (.int x :: st)) := by
  subst hp; exact Go.by (fun _ q => XS.ifNo S.at S.hx rfl hd rfl hc q) g
theorem Sd.icmpY (S : Sd wd EL a0 p l e R s m args below meth c Z own n0 h0 ws0 T h F locs cells slots) {cd : ClassFile.Cond} {x y : Int32} {o : Int} (pc' : Nat) (hd : decode c.code pc = .ok (.if_icmp cd o, 3)) (hc : if_icmp.holds cd x y = true) (g : Go p e below P T (mkF m pc' Ls st)) (ho : 0 ≤ (pc : Int) + o := by decide) (hp : ((pc : Int) + o).toNat = pc' := by decide) : Go p e below P T (mkF m pc Ls (.int y :: .int x :: st)) :=
  Go.by (fun _ q => XS.icmpYes S.at S.hx rfl rfl hd rfl hc ho hp q) g
theorem Sd.icmpN (S : Sd wd EL a0 p l e R s m args below meth c Z own n0 h0 ws0 T h F locs cells slots) {cd : ClassFile.Cond} {x y : Int32} {o : Int} (pc' : Nat) (hd : decode c.code pc = .ok (.if_icmp cd o, 3)) (hc : if_icmp.holds cd x y = false) (g : Go p e below P T (mkF m pc' Ls st)) (hp : pc + 3 = pc' := by rfl) : Go p e below P T (mkF m pc Ls (.int y :: .int x :: st)) := by
  subst hp; exact Go.by (fun _ q => XS.icmpNo S.at S.hx rfl hd rfl hc q) g
theorem Sd.nullY (S : Sd wd EL a0 p l e R s m args below meth c Z own n0 h0 ws0 T h F locs cells slots) {o : Int} (pc' : Nat) (hd : decode c.code pc = .ok (.ifnull o, 3)) (g : Go p e below P T (mkF m pc' Ls st)) (ho : 0 ≤ (pc : Int) + o := by decide) (hp : ((pc : Int) + o).toNat = pc' := by decide) : Go p e below P T (mkF m pc Ls (.null :: st)) :=
  Go.by (fun _ q => XS.ifnullYes S.at S.hx rfl rfl hd rfl ho hp q) g
theorem Sd.nullN (S : Sd wd EL a0 p l e R s m args below meth c Z own n0 h0 ws0 T h F locs cells slots) {o : Int} {b : Addr} (pc' : Nat) (hd : decode c.code pc = .ok (.ifnull o, 3)) (g : Go p e below P T (mkF m pc' Ls st)) (hp : pc + 3 = pc' := by rfl) : Go p e below P T (mkF m pc Ls (.ref b :: st)) := by
  subst hp; exact Go.by (fun _ q => XS.ifnullNo S.at S.hx rfl hd rfl q) g
theorem Sd.nonnullY (S : Sd wd EL a0 p l e R s m args below meth c Z own n0 h0 ws0 T h F locs cells slots) {o : Int} {b : Addr} (pc' : Nat) (hd : decode c.code pc = .ok (.ifnonnull o, 3)) (g : Go p e below P T (mkF m pc' Ls st)) (ho : 0 ≤ (pc : Int) + o := by decide) (hp : ((pc : Int) + o).toNat = pc' := by decide) : Go p e below P T (mkF m pc Ls (.ref b :: st)) :=
  Go.by (fun _ q => XT.ifnonnullYes S.at S.hx rfl rfl hd rfl ho hp q) g
theorem Sd.nonnullN (S : Sd wd EL a0 p l e R s m args below meth c Z own n0 h0 ws0 T h F locs cells slots) {o : Int} (pc' : Nat) (hd : decode c.code pc = .ok (.ifnonnull o, 3)) (g : Go p e below P T (mkF m pc' Ls st)) (hp : pc + 3 = pc' := by rfl) : Go p e below P T (mkF m pc Ls (.null :: st)) := by
  subst hp; exact Go.by (fun _ q => XT.ifnonnullNo S.at S.hx rfl hd rfl q) g
theorem Sd.acmpY (S : Sd wd EL a0 p l e R s m args below meth c Z own n0 h0 ws0 T h F locs cells slots) {cd : ClassFile.ACond} {x y : Value} {o : Int} (pc' : Nat) (hd : decode c.code pc = .ok (.if_acmp cd o, 3)) (hx : x.isRef = true) (hy : y.isRef = true) (hc : XT.acmp cd x y = true) (g : Go p e below P T (mkF m pc' Ls st)) (ho : 0 ≤ (pc : Int) + o := by decide) (hp : ((pc : Int) + o).toNat = pc' := by decide) : Go p e below P T (mkF m pc Ls (y :: x :: st)) :=
  Go.by (fun _ q => XT.acmpYes S.at S.hx rfl rfl hd rfl hx hy hc ho hp q) g
theorem Sd.acmpN (S : Sd wd EL a0 p l e R s m args below meth c Z own n0 h0 ws0 T h F locs cells slots) {cd : ClassFile.ACond} {x y : Value} {o : Int} (pc' : Nat) (hd : decode c.code pc = .ok (.if_acmp cd o, 3)) (hx : x.isRef = true) (hy : y.isRef = true) (hc : XT.acmp cd x y = false) (g : Go p e below P T (mkF m pc' Ls st)) (hp : pc + 3 = pc' := by rfl) : Go p e below P T (mkF m pc Ls (y :: x :: st)) := by
  subst hp; exact Go.by (fun _ q => XT.acmpNo S.at S.hx rfl hd rfl hx hy hc q) g
theorem Sd.dup (S : Sd wd EL a0 p l e R s m args below meth c Z own n0 h0 ws0 T h F locs cells slots) {x : Value} (pc' : Nat) (hd : decode c.code pc = .ok (.dup, 1)) (hc : x.category = 1) (g : Go p e below P T (mkF m pc' Ls (x :: x :: st))) (hp : pc + 1 = pc' := by rfl) : Go p e below P T (mkF m pc Ls (x :: st)) := by
  subst hp; exact Go.by (fun _ q => XS.dup S.at S.hx rfl hd rfl hc q) g
theorem Sd.dupX1 (S : Sd wd EL a0 p l e R s m args below meth c Z own n0 h0 ws0 T h F locs cells slots) {x y : Value} (pc' : Nat) (hd : decode c.code pc = .ok (.dup_x1, 1)) (hc : x.category = 1) (hc' : y.category = 1) (g : Go p e below P T (mkF m pc' Ls (x :: y :: x :: st))) (hp : pc + 1 = pc' := by rfl) : Go p e below P T (mkF m pc Ls (x :: y :: st)) := by
  subst hp; exact Go.by (fun _ q => XT.dupX1 S.at S.hx rfl hd rfl hc hc' q) g
theorem Sd.dup2 (S : Sd wd EL a0 p l e R s m args below meth c Z own n0 h0 ws0 T h F locs cells slots) {x y : Value} (pc' : Nat) (hd : decode c.code pc = .ok (.dup2, 1)) (hc : x.category = 1) (hc' : y.category = 1) (g : Go p e below P T (mkF m pc' Ls (x :: y :: x :: y :: st))) (hp : pc + 1 = pc' := by rfl) : Go p e below P T (mkF m pc Ls (x :: y :: st)) := by
  subst hp; exact Go.by (fun _ q => XT.dup2 S.at S.hx rfl hd rfl hc hc' q) g
theorem Sd.pop (S : Sd wd EL a0 p l e R s m args below meth c Z own n0 h0 ws0 T h F locs cells slots) {x : Value} (pc' : Nat) (hd : decode c.code pc = .ok (.pop, 1)) (hc : x.category = 1) (g : Go p e below P T (mkF m pc' Ls st)) (hp : pc + 1 = pc' := by rfl) : Go p e below P T (mkF m pc Ls (x :: st)) := by
  subst hp; exact Go.by (fun _ q => XT.pop S.at S.hx rfl hd rfl hc q) g
theorem Sd.iadd (S : Sd wd EL a0 p l e R s m args below meth c Z own n0 h0 ws0 T h F locs cells slots) {x : Int32} {y : Int32} (pc' : Nat) (hd : decode c.code pc = .ok (.iadd, 1)) (g : Go p e below P T (mkF m pc' Ls (.int (x + y) :: st))) (hp : pc + 1 = pc' := by rfl) : Go p e below P T (mkF m pc Ls (.int y :: .int x :: st)) := by
  subst hp; exact Go.by (fun _ q => XS.iadd S.at S.hx rfl hd rfl q) g
theorem Sd.isub (S : Sd wd EL a0 p l e R s m args below meth c Z own n0 h0 ws0 T h F locs cells slots) {x : Int32} {y : Int32} (pc' : Nat) (hd : decode c.code pc = .ok (.isub, 1)) (g : Go p e below P T (mkF m pc' Ls (.int (x - y) :: st))) (hp : pc + 1 = pc' := by rfl) : Go p e below P T (mkF m pc Ls (.int y :: .int x :: st)) := by
  subst hp; exact Go.by (fun _ q => XS.isub S.at S.hx rfl hd rfl q) g
theorem Sd.iand (S : Sd wd EL a0 p l e R s m args below meth c Z own n0 h0 ws0 T h F locs cells slots) {x : Int32} {y : Int32} (pc' : Nat) (hd : decode c.code pc = .ok (.iand, 1)) (g : Go p e below P T (mkF m pc' Ls (.int (x &&& y) :: st))) (hp : pc + 1 = pc' := by rfl) : Go p e below P T (mkF m pc Ls (.int y :: .int x :: st)) := by
  subst hp; exact Go.by (fun _ q => XS.iand S.at S.hx rfl hd rfl q) g
theorem Sd.imul (S : Sd wd EL a0 p l e R s m args below meth c Z own n0 h0 ws0 T h F locs cells slots) {x : Int32} {y : Int32} (pc' : Nat) (hd : decode c.code pc = .ok (.imul, 1)) (g : Go p e below P T (mkF m pc' Ls (.int (x * y) :: st))) (hp : pc + 1 = pc' := by rfl) : Go p e below P T (mkF m pc Ls (.int y :: .int x :: st)) := by
  subst hp; exact Go.by (fun _ q => XS.imul S.at S.hx rfl hd rfl q) g
theorem Sd.ior (S : Sd wd EL a0 p l e R s m args below meth c Z own n0 h0 ws0 T h F locs cells slots) {x : Int32} {y : Int32} (pc' : Nat) (hd : decode c.code pc = .ok (.ior, 1)) (g : Go p e below P T (mkF m pc' Ls (.int (x ||| y) :: st))) (hp : pc + 1 = pc' := by rfl) : Go p e below P T (mkF m pc Ls (.int y :: .int x :: st)) := by
  subst hp; exact Go.by (fun _ q => XS.ior S.at S.hx rfl hd rfl q) g
theorem Sd.ixor (S : Sd wd EL a0 p l e R s m args below meth c Z own n0 h0 ws0 T h F locs cells slots) {x : Int32} {y : Int32} (pc' : Nat) (hd : decode c.code pc = .ok (.ixor, 1)) (g : Go p e below P T (mkF m pc' Ls (.int (x ^^^ y) :: st))) (hp : pc + 1 = pc' := by rfl) : Go p e below P T (mkF m pc Ls (.int y :: .int x :: st)) := by
  subst hp; exact Go.by (fun _ q => XS.ixor S.at S.hx rfl hd rfl q) g
theorem Sd.ishl (S : Sd wd EL a0 p l e R s m args below meth c Z own n0 h0 ws0 T h F locs cells slots) {x : Int32} {y : Int32} (pc' : Nat) (hd : decode c.code pc = .ok (.ishl, 1)) (g : Go p e below P T (mkF m pc' Ls (.int (x <<< (y &&& 31)) :: st))) (hp : pc + 1 = pc' := by rfl) : Go p e below P T (mkF m pc Ls (.int y :: .int x :: st)) := by
  subst hp; exact Go.by (fun _ q => XS.ishl S.at S.hx rfl hd rfl q) g
theorem Sd.ishr (S : Sd wd EL a0 p l e R s m args below meth c Z own n0 h0 ws0 T h F locs cells slots) {x : Int32} {y : Int32} (pc' : Nat) (hd : decode c.code pc = .ok (.ishr, 1)) (g : Go p e below P T (mkF m pc' Ls (.int (x >>> (y &&& 31)) :: st))) (hp : pc + 1 = pc' := by rfl) : Go p e below P T (mkF m pc Ls (.int y :: .int x :: st)) := by
  subst hp; exact Go.by (fun _ q => XS.ishr S.at S.hx rfl hd rfl q) g
theorem Sd.iushr (S : Sd wd EL a0 p l e R s m args below meth c Z own n0 h0 ws0 T h F locs cells slots) {x : Int32} {y : Int32} (pc' : Nat) (hd : decode c.code pc = .ok (.iushr, 1)) (g : Go p e below P T (mkF m pc' Ls (.int ((x.toUInt32 >>> (y &&& 31).toUInt32).toInt32) :: st))) (hp : pc + 1 = pc' := by rfl) : Go p e below P T (mkF m pc Ls (.int y :: .int x :: st)) := by
  subst hp; exact Go.by (fun _ q => XS.iushr S.at S.hx rfl hd rfl q) g
theorem Sd.idiv (S : Sd wd EL a0 p l e R s m args below meth c Z own n0 h0 ws0 T h F locs cells slots) {x : Int32} {y : Int32} (pc' : Nat) (hd : decode c.code pc = .ok (.idiv, 1)) (hy : y ≠ 0) (g : Go p e below P T (mkF m pc' Ls (.int (x / y) :: st))) (hp : pc + 1 = pc' := by rfl) : Go p e below P T (mkF m pc Ls (.int y :: .int x :: st)) := by
  subst hp; exact Go.by (fun _ q => XS.idiv S.at S.hx rfl hd rfl hy q) g
theorem Sd.ladd (S : Sd wd EL a0 p l e R s m args below meth c Z own n0 h0 ws0 T h F locs cells slots) {x : Int64} {y : Int64} (pc' : Nat) (hd : decode c.code pc = .ok (.ladd, 1)) (g : Go p e below P T (mkF m pc' Ls (.long (x + y) :: st))) (hp : pc + 1 = pc' := by rfl) : Go p e below P T (mkF m pc Ls (.long y :: .long x :: st)) := by
  subst hp; exact Go.by (fun _ q => XS.ladd S.at S.hx rfl hd rfl q) g
theorem Sd.lsub (S : Sd wd EL a0 p l e R s m args below meth c Z own n0 h0 ws0 T h F locs cells slots) {x : Int64} {y : Int64} (pc' : Nat) (hd : decode c.code pc = .ok (.lsub, 1)) (g : Go p e below P T (mkF m pc' Ls (.long (x - y) :: st))) (hp : pc + 1 = pc' := by rfl) : Go p e below P T (mkF m pc Ls (.long y :: .long x :: st)) := by
  subst hp; exact Go.by (fun _ q => XS.lsub S.at S.hx rfl hd rfl q) g
theorem Sd.lmul (S : Sd wd EL a0 p l e R s m args below meth c Z own n0 h0 ws0 T h F locs cells slots) {x : Int64} {y : Int64} (pc' : Nat) (hd : decode c.code pc = .ok (.lmul, 1)) (g : Go p e below P T (mkF m pc' Ls (.long (x * y) :: st))) (hp : pc + 1 = pc' := by rfl) : Go p e below P T (mkF m pc Ls (.long y :: .long x :: st)) := by
  subst hp; exact Go.by (fun _ q => XS.lmul S.at S.hx rfl hd rfl q) g
theorem Sd.land (S : Sd wd EL a0 p l e R s m args below meth c Z own n0 h0 ws0 T h F locs cells slots) {x : Int64} {y : Int64} (pc' : Nat) (hd : decode c.code pc = .ok (.land, 1)) (g : Go p e below P T (mkF m pc' Ls (.long (x &&& y) :: st))) (hp : pc + 1 = pc' := by rfl) : Go p e below P T (mkF m pc Ls (.long y :: .long x :: st)) := by
  subst hp; exact Go.by (fun _ q => XS.land S.at S.hx rfl hd rfl q) g
theorem Sd.lor (S : Sd wd EL a0 p l e R s m args below meth c Z own n0 h0 ws0 T h F locs cells slots) {x : Int64} {y : Int64} (pc' : Nat) (hd : decode c.code pc = .ok (.lor, 1)) (g : Go p e below P T (mkF m pc' Ls (.long (x ||| y) :: st))) (hp : pc + 1 = pc' := by rfl) : Go p e below P T (mkF m pc Ls (.long y :: .long x :: st)) := by
  subst hp; exact Go.by (fun _ q => XS.lor S.at S.hx rfl hd rfl q) g
theorem Sd.lxor (S : Sd wd EL a0 p l e R s m args below meth c Z own n0 h0 ws0 T h F locs cells slots) {x : Int64} {y : Int64} (pc' : Nat) (hd : decode c.code pc = .ok (.lxor, 1)) (g : Go p e below P T (mkF m pc' Ls (.long (x ^^^ y) :: st))) (hp : pc + 1 = pc' := by rfl) : Go p e below P T (mkF m pc Ls (.long y :: .long x :: st)) := by
  subst hp; exact Go.by (fun _ q => XS.lxor S.at S.hx rfl hd rfl q) g
theorem Sd.lshl (S : Sd wd EL a0 p l e R s m args below meth c Z own n0 h0 ws0 T h F locs cells slots) {x : Int64} {y : Int32} (pc' : Nat) (hd : decode c.code pc = .ok (.lshl, 1)) (g : Go p e below P T (mkF m pc' Ls (.long (x <<< (y &&& 0x3f).toInt64) :: st))) (hp : pc + 1 = pc' := by rfl) : Go p e below P T (mkF m pc Ls (.int y :: .long x :: st)) := by
  subst hp; exact Go.by (fun _ q => XS.lshl S.at S.hx rfl hd rfl q) g
theorem Sd.lshr (S : Sd wd EL a0 p l e R s m args below meth c Z own n0 h0 ws0 T h F locs cells slots) {x : Int64} {y : Int32} (pc' : Nat) (hd : decode c.code pc = .ok (.lshr, 1)) (g : Go p e below P T (mkF m pc' Ls (.long (x >>> (y &&& 0x3f).toInt64) :: st))) (hp : pc + 1 = pc' := by rfl) : Go p e below P T (mkF m pc Ls (.int y :: .long x :: st)) := by
  subst hp; exact Go.by (fun _ q => XS.lshr S.at S.hx rfl hd rfl q) g
theorem Sd.lushr (S : Sd wd EL a0 p l e R s m args below meth c Z own n0 h0 ws0 T h F locs cells slots) {x : Int64} {y : Int32} (pc' : Nat) (hd : decode c.code pc = .ok (.lushr, 1)) (g : Go p e below P T (mkF m pc' Ls (.long ((x.toUInt64 >>> (y &&& 0x3f).toInt64.toUInt64).toInt64) :: st))) (hp : pc + 1 = pc' := by rfl) : Go p e below P T (mkF m pc Ls (.int y :: .long x :: st)) := by
  subst hp; exact Go.by (fun _ q => XS.lushr S.at S.hx rfl hd rfl q) g
theorem Sd.ldiv (S : Sd wd EL a0 p l e R s m args below meth c Z own n0 h0 ws0 T h F locs cells slots) {x : Int64} {y : Int64} (pc' : Nat) (hd : decode c.code pc = .ok (.ldiv, 1)) (hy : y ≠ 0) (g : Go p e below P T (mkF m pc' Ls (.long (x / y) :: st))) (hp : pc + 1 = pc' := by rfl) : Go p e below P T (mkF m pc Ls (.long y :: .long x :: st)) := by
  subst hp; exact Go.by (fun _ q => XS.ldiv S.at S.hx rfl hd rfl hy q) g
theorem Sd.lrem (S : Sd wd EL a0 p l e R s m args below meth c Z own n0 h0 ws0 T h F locs cells slots) {x : Int64} {y : Int64} (pc' : Nat) (hd : decode c.code pc = .ok (.lrem, 1)) (hy : y ≠ 0) (g : Go p e below P T (mkF m pc' Ls (.long (x - (x / y) * y) :: st))) (hp : pc + 1 = pc' := by rfl) : Go p e below P T (mkF m pc Ls (.long y :: .long x :: st)) := by
  subst hp; exact Go.by (fun _ q => XS.lrem S.at S.hx rfl hd rfl hy q) g
theorem Sd.lcmp (S : Sd wd EL a0 p l e R s m args below meth c Z own n0 h0 ws0 T h F locs cells slots) {x : Int64} {y : Int64} (pc' : Nat) (hd : decode c.code pc = .ok (.lcmp, 1)) (g : Go p e below P T (mkF m pc' Ls (.int (if x > y then 1 else if x = y then 0 else -1) :: st))) (hp : pc + 1 = pc' := by rfl) : Go p e below P T (mkF m pc Ls (.long y :: .long x :: st)) := by
  subst hp; exact Go.by (fun _ q => XS.lcmp S.at S.hx rfl hd rfl q) g
theorem Sd.ineg (S : Sd wd EL a0 p l e R s m args below meth c Z own n0 h0 ws0 T h F locs cells slots) {x : Int32} (pc' : Nat) (hd : decode c.code pc = .ok (.ineg, 1)) (g : Go p e below P T (mkF m pc' Ls (.int (-x) :: st))) (hp : pc + 1 = pc' := by rfl) : Go p e below P T (mkF m pc Ls (.int x :: st)) := by
  subst hp; exact Go.by (fun _ q => XS.ineg S.at S.hx rfl hd rfl q) g
theorem Sd.i2b (S : Sd wd EL a0 p l e R s m args below meth c Z own n0 h0 ws0 T h F locs cells slots) {x : Int32} (pc' : Nat) (hd : decode c.code pc = .ok (.i2b, 1)) (g : Go p e below P T (mkF m pc' Ls (.int (x.toInt8.toInt32) :: st))) (hp : pc + 1 = pc' := by rfl) : Go p e below P T (mkF m pc Ls (.int x :: st)) := by
  subst hp; exact Go.by (fun _ q => XS.i2b S.at S.hx rfl hd rfl q) g
theorem Sd.i2c (S : Sd wd EL a0 p l e R s m args below meth c Z own n0 h0 ws0 T h F locs cells slots) {x : Int32} (pc' : Nat) (hd : decode c.code pc = .ok (.i2c, 1)) (g : Go p e below P T (mkF m pc' Ls (.int (x.toUInt32.toUInt16.toUInt32.toInt32) :: st))) (hp : pc + 1 = pc' := by rfl) : Go p e below P T (mkF m pc Ls (.int x :: st)) := by
  subst hp; exact Go.by (fun _ q => XS.i2c S.at S.hx rfl hd rfl q) g
theorem Sd.i2s (S : Sd wd EL a0 p l e R s m args below meth c Z own n0 h0 ws0 T h F locs cells slots) {x : Int32} (pc' : Nat) (hd : decode c.code pc = .ok (.i2s, 1)) (g : Go p e below P T (mkF m pc' Ls (.int (x.toInt16.toInt32) :: st))) (hp : pc + 1 = pc' := by rfl) : Go p e below P T (mkF m pc Ls (.int x :: st)) := by
  subst hp; exact Go.by (fun _ q => XS.i2s S.at S.hx rfl hd rfl q) g
theorem Sd.i2l (S : Sd wd EL a0 p l e R s m args below meth c Z own n0 h0 ws0 T h F locs cells slots) {x : Int32} (pc' : Nat) (hd : decode c.code pc = .ok (.i2l, 1)) (g : Go p e below P T (mkF m pc' Ls (.long (x.toInt64) :: st))) (hp : pc + 1 = pc' := by rfl) : Go p e below P T (mkF m pc Ls (.int x :: st)) := by
  subst hp; exact Go.by (fun _ q => XS.i2l S.at S.hx rfl hd rfl q) g
theorem Sd.l2i (S : Sd wd EL a0 p l e R s m args below meth c Z own n0 h0 ws0 T h F locs cells slots) {x : Int64} (pc' : Nat) (hd : decode c.code pc = .ok (.l2i, 1)) (g : Go p e below P T (mkF m pc' Ls (.int (x.toInt32) :: st))) (hp : pc + 1 = pc' := by rfl) : Go p e below P T (mkF m pc Ls (.long x :: st)) := by
  subst hp; exact Go.by (fun _ q => XS.l2i S.at S.hx rfl hd rfl q) g
theorem Sd.lneg (S : Sd wd EL a0 p l e R s m args below meth c Z own n0 h0 ws0 T h F locs cells slots) {x : Int64} (pc' : Nat) (hd : decode c.code pc = .ok (.lneg, 1)) (g : Go p e below P T (mkF m pc' Ls (.long (-x) :: st))) (hp : pc + 1 = pc' := by rfl) : Go p e below P T (mkF m pc Ls (.long x :: st)) := by
  subst hp; exact Go.by (fun _ q => XS.lneg S.at S.hx rfl hd rfl q) g
theorem Sd.irem (S : Sd wd EL a0 p l e R s m args below meth c Z own n0 h0 ws0 T h F locs cells slots) {x y : Int32} (pc' : Nat) (hd : decode c.code pc = .ok (.irem, 1)) (hy : y ≠ 0) (g : Go p e below P T (mkF m pc' Ls (.int (x % y) :: st))) (hp : pc + 1 = pc' := by rfl) : Go p e below P T (mkF m pc Ls (.int y :: .int x :: st)) := by
  subst hp
  obtain ⟨A, vm0, k0, hv, X, r⟩ := S
  exact Go.by (fun _ q => iremM X A.1 rfl hd rfl hy q) g
/-! ### steps on the heap -/
theorem Sd.new (S : Sd wd EL a0 p l e R s m args below meth c Z own n0 h0 ws0 T h F locs cells slots) {C : String} {index n : Nat} (pc' : Nat) (hd : decode c.code pc = .ok (.new index, 3)) (w : (Jvm.Cond.classLink own index C).before a0 Z = true) (wi : (Jvm.Cond.instantiable C n).before a0 Z = true) (wz : (Jvm.Cond.initialized C).before a0 Z = true) (hc : cells + 1 ≤ R.cells) (hl : slots + n ≤ R.slots)
    (g : ∀ (T' : State) (h' : Heap) (a : Addr), Sd wd EL a0 p l e R s m args below meth c Z own n0 h0 ws0 T' h' (a :: F) locs (cells + 1) (slots + n) → Ext h h' → a = h.size → Wok n0 h0 ws0 a → Exa Z h' a C → (∀ {O nm d : String} {ty : FieldType}, Laid Z a0 C O nm d → parseFieldDescriptor d = some ty → Fld Z h' a O nm d (defaultValue ty)) → Unt h' a → Go p e below P T' (mkF m pc' Ls (.ref a :: st))) (hp : pc + 3 = pc' := by rfl) :
    Go p e below P T (mkF m pc Ls st) := by
  subst hp
  obtain ⟨A, vm0, k0, hv, X, eT, hS, hk, hZ, hown, O, N, K0, C0, hF⟩ := S
  obtain ⟨T', h', X', e', E', A', D', U', st'⟩ := newO X A.1 hZ hown w wi wz eT (g := mkF m pc Ls st) rfl hd hc hl
  exact Go.by st' (g T' h' h.size (Sd.close A hv X' e' hS hk hZ hown O N K0 C0 hF (Ext.kp E') noWs fun x hx => by
    rcases List.mem_cons.mp hx with rfl | q
    · exact Or.inr ⟨Nat.le_refl _, A'.lt⟩
    · exact Or.inl q) E' rfl (Or.inr K0.1) A' D' U')
theorem Sd.getf (S : Sd wd EL a0 p l e R s m args below meth c Z own n0 h0 ws0 T h F locs cells slots) {R0 O n d host : String} {index : Nat} {a : Addr} {v : Value} (pc' : Nat) (hd : decode c.code pc = .ok (.getfield index, 3)) (w : (Jvm.Cond.fieldLink own index R0 n d).before a0 Z = true ∨ (Jvm.Cond.fieldLinkNest own index R0 n d host).before a0 Z = true) (via : Via Z R0 O n d) (V : Fld Z h a O n d v)
    (g : ∀ (T' : State), Sd wd EL a0 p l e R s m args below meth c Z own n0 h0 ws0 T' h F locs cells slots → Go p e below P T' (mkF m pc' Ls (v :: st))) (hp : pc + 3 = pc' := by rfl) : Go p e below P T (mkF m pc Ls (.ref a :: st)) := by
  subst hp
  obtain ⟨A, vm0, k0, hv, X, eT, r⟩ := S
  obtain ⟨hS, hk, hZ, hown, r'⟩ := id r
  obtain ⟨T', X', e', st'⟩ := getF X A.1 hZ hown w via eT V (g := mkF m pc Ls (.ref a :: st)) rfl rfl hd
  exact Go.by st' (g T' ⟨A, vm0, k0, hv, X', e', r⟩)
theorem Sd.gets (S : Sd wd EL a0 p l e R s m args below meth c Z own n0 h0 ws0 T h F locs cells slots) {R0 O n d host : String} {index : Nat} {v : Value} (pc' : Nat) (hd : decode c.code pc = .ok (.getstatic index, 3)) (w : (Jvm.Cond.fieldLink own index R0 n d).before a0 Z = true ∨ (Jvm.Cond.fieldLinkNest own index R0 n d host).before a0 Z = true) (via : Via Z R0 O n d) (V : Sta Z h O n d v)
    (g : ∀ (T' : State), Sd wd EL a0 p l e R s m args below meth c Z own n0 h0 ws0 T' h F locs cells slots → Go p e below P T' (mkF m pc' Ls (v :: st))) (hp : pc + 3 = pc' := by rfl) : Go p e below P T (mkF m pc Ls st) := by
  subst hp
  obtain ⟨A, vm0, k0, hv, X, eT, r⟩ := S
  obtain ⟨hS, hk, hZ, hown, r'⟩ := id r
  obtain ⟨T', X', e', st'⟩ := getS2 X A.1 hZ hown w via eT V (g := mkF m pc Ls st) rfl hd
  exact Go.by st' (g T' ⟨A, vm0, k0, hv, X', e', r⟩)
/-- no booked literal lies in an object of another class than String and byte[] -/
def Sok (F : List Addr) (a : Addr) (C : String) : Prop := (C ≠ "java/lang/String" ∧ C ≠ "[B") ∨ a ∈ F
theorem Sd.putf (S : Sd wd EL a0 p l e R s m args below meth c Z own n0 h0 ws0 T h F locs cells slots) {R0 O n d host C : String} {index kk : Nat} {a : Addr} {v old : Value} {ty : FieldType} (pc' : Nat) (hd : decode c.code pc = .ok (.putfield index, 3)) (w : (Jvm.Cond.fieldLink own index R0 n d).before a0 Z = true ∨ (Jvm.Cond.fieldLinkNest own index R0 n d host).before a0 Z = true) (via : Via Z R0 O n d)
    (V : Fld Z h a O n d old) (E : Exa Z h a C) (L : (Jvm.Cond.lays C O n d).before a0 Z = true ∨ ((Jvm.Cond.laysFinal C O n d).before a0 Z = true ∧ own = O ∧ meth.name = "<init>")) (wi : (Jvm.Cond.instantiable C kk).before a0 Z = true) (hty : parseFieldDescriptor d = some ty) (hn : narrow ty v = v) (hf : fits ty v = true) (wo : Wok n0 h0 ws0 a) (so : Sok F a C)
    (g : ∀ (T' : State) (h' : Heap) (locs' : List Loc), Sd wd EL a0 p l e R s m args below meth c Z own n0 h0 ws0 T' h' F locs' cells slots → Wr h h' a (Jvm.RoadKit.slotOf Z O n d) v → Go p e below P T' (mkF m pc' Ls st)) (hp : pc + 3 = pc' := by rfl) : Go p e below P T (mkF m pc Ls (v :: .ref a :: st)) := by
  subst hp
  have ge : n0 ≤ a := S.ge wo
  obtain ⟨A, vm0, k0, hv, X, eT, hS, hk, hZ, hown, O0, N, K0, C0, hF⟩ := S
  obtain ⟨T', h', X', e', W', st'⟩ := putF X A.1 hZ hown w via eT V E L wi hty hn hf (g := mkF m pc Ls (v :: .ref a :: st)) rfl rfl hd
  have sf : Safe Z EL vm0 h a := by
    rcases so with q | q
    · exact Safe.exa hZ.alike E q.1 q.2
    · exact (hF a q).1
  exact Go.by st' (g T' h' _ (Sd.close A hv X' e' hS hk hZ hown O0 (Fr.snoc X' N ge) K0 C0 hF (Keep.of_wr W') (fun x hx => by rw [List.mem_singleton.mp hx]; exact ⟨wo, sf⟩) fun x hx => Or.inl hx) W')
theorem Sd.newarr (S : Sd wd EL a0 p l e R s m args below meth c Z own n0 h0 ws0 T h F locs cells slots) {aty : ArrayType} {n : Int32} (pc' : Nat) (cap : Nat) (hd : decode c.code pc = .ok (.newarray aty, 2)) (w : (Jvm.Cond.arrayClass (newarray.typeOf aty)).before a0 Z = true) (hn : ¬ n < 0) (hcap : n.toNatClampNeg ≤ cap) (hb : cap * 8 ≤ 536870912) (hc : cells + 1 ≤ R.cells) (hl : slots + cap ≤ R.slots)
    (g : ∀ (T' : State) (h' : Heap) (a : Addr) (k : ClassId), Sd wd EL a0 p l e R s m args below meth c Z own n0 h0 ws0 T' h' (a :: F) locs (cells + 1) (slots + cap) → Ext h h' → a = h.size → Wok n0 h0 ws0 a → Arv Z h' a k (newarray.typeOf aty) n [] (defaultValue (newarray.typeOf aty)) → Go p e below P T' (mkF m pc' Ls (.ref a :: st))) (hp : pc + 2 = pc' := by rfl) :
    Go p e below P T (mkF m pc Ls (.int n :: st)) := by
  subst hp
  obtain ⟨A, vm0, k0, hv, X, eT, hS, hk, hZ, hown, O, N, K0, C0, hF⟩ := S
  obtain ⟨T', h', cA, X', e', E', A', st'⟩ := newP X A.1 hZ w eT (g := mkF m pc Ls (.int n :: st)) rfl hd rfl hn hcap hb hc hl
  exact Go.by st' (g T' h' h.size cA (Sd.close A hv X' e' hS hk hZ hown O N K0 C0 hF (Ext.kp E') noWs fun x hx => by
    rcases List.mem_cons.mp hx with rfl | q
    · exact Or.inr ⟨Nat.le_refl _, A'.lt⟩
    · exact Or.inl q) E' rfl (Or.inr K0.1) (Arv.new A' hn))
theorem Sd.castore (S : Sd wd EL a0 p l e R s m args below meth c Z own n0 h0 ws0 T h F locs cells slots) {a : Addr} {k : ClassId} {N : Int32} {vs : List Value} {dv : Value} {j x : Int32} (pc' i : Nat) (hd : decode c.code pc = .ok (.castore, 1)) (V : Arv Z h a k .char N vs dv) (hj : ¬ j < 0 ∧ j < N) (hi : j.toNatClampNeg = i) (hlt : i < vs.length) (wo : Wok n0 h0 ws0 a)
    (g : ∀ (T' : State) (h' : Heap) (locs' : List Loc), Sd wd EL a0 p l e R s m args below meth c Z own n0 h0 ws0 T' h' F locs' cells slots → Wr h h' a j.toNatClampNeg (.int (nar .char x)) → Arv Z h' a k .char N (vs.set i (.int (nar .char x))) dv → Go p e below P T' (mkF m pc' Ls st)) (hp : pc + 1 = pc' := by rfl) : Go p e below P T (mkF m pc Ls (.int x :: .int j :: .ref a :: st)) := by
  subst hp
  have ge : n0 ≤ a := S.ge wo
  obtain ⟨A, vm0, k0, hv, X, eT, hS, hk, hZ, hown, O0, N0, K0, C0, hF⟩ := S
  obtain ⟨cl, Ar, q, S', M, H, G⟩ := V
  obtain ⟨T', h', X', e', W', st'⟩ := stC X A.1 hZ eT Ar (x := x) (inb_of S' hj) (g := mkF m pc Ls (.int x :: .int j :: .ref a :: st)) rfl rfl hd
  exact Go.by st' (g T' h' _ (Sd.close A hv X' e' hS hk hZ hown O0 (Fr.snoc X' N0 ge) K0 C0 hF (Keep.of_wr W') (fun y hy => by rw [List.mem_singleton.mp hy]; exact ⟨wo, Safe.arr hZ.alike Ar (by decide)⟩) fun y hy => Or.inl hy) W' (Arv.set Ar q S' M H G (fits_nar_char _) W' i hi hlt))
theorem Sd.alen (S : Sd wd EL a0 p l e R s m args below meth c Z own n0 h0 ws0 T h F locs cells slots) {a : Addr} {k : ClassId} {ty : FieldType} {N : Int32} {vs : List Value} {dv : Value} (pc' : Nat) (hd : decode c.code pc = .ok (.arraylength, 1)) (V : Arv Z h a k ty N vs dv) (g : Go p e below P T (mkF m pc' Ls (.int N :: st))) (hp : pc + 1 = pc' := by rfl) : Go p e below P T (mkF m pc Ls (.ref a :: st)) := by
  subst hp
  obtain ⟨A, vm0, k0, hv, X, eT, hS, hk, hZ, r⟩ := S
  obtain ⟨cl, Ar, q, S', M, H, G⟩ := V
  rw [← len_of S' M] at g
  exact Go.by (fun t z => X.arraylength A.1 (by rw [eT]; exact Ar.1) (State.isArrayOf_alike hZ.alike Ar.2.1) (g := mkF m pc Ls (.ref a :: st)) rfl rfl hd t z) g
theorem Sd.caload (S : Sd wd EL a0 p l e R s m args below meth c Z own n0 h0 ws0 T h F locs cells slots) {a : Addr} {k : ClassId} {N : Int32} {vs : List Value} {dv v : Value} {j : Int32} (pc' : Nat) (hd : decode c.code pc = .ok (.caload, 1)) (V : Arv Z h a k .char N vs dv) (hj : ¬ j < 0 ∧ j < N) (hv' : vs.getD j.toNatClampNeg dv = v) (g : Go p e below P T (mkF m pc' Ls (v :: st))) (hp : pc + 1 = pc' := by rfl) : Go p e below P T (mkF m pc Ls (.int j :: .ref a :: st)) := by
  subst hp
  obtain ⟨A, vm0, k0, hv, X, eT, hS, hk, hZ, r⟩ := S
  obtain ⟨cl, Ar, q, S', M, H, G⟩ := V
  exact Go.by (fun t z => X.caload A.1 (by rw [eT]; exact Ar.1) (State.isArrayOf_alike hZ.alike Ar.2.1) Ar.2.2 (inb_of S' hj) (H.at (inb_of S' hj) hv') (g := mkF m pc Ls (.int j :: .ref a :: st)) rfl rfl hd t z) g
theorem Sd.baload (S : Sd wd EL a0 p l e R s m args below meth c Z own n0 h0 ws0 T h F locs cells slots) {a : Addr} {k : ClassId} {N : Int32} {vs : List Value} {dv v : Value} {j : Int32} (pc' : Nat) (hd : decode c.code pc = .ok (.baload, 1)) (V : Arv Z h a k .byte N vs dv) (hj : ¬ j < 0 ∧ j < N) (hv' : vs.getD j.toNatClampNeg dv = v) (g : Go p e below P T (mkF m pc' Ls (v :: st))) (hp : pc + 1 = pc' := by rfl) : Go p e below P T (mkF m pc Ls (.int j :: .ref a :: st)) := by
  subst hp
  obtain ⟨A, vm0, k0, hv, X, eT, hS, hk, hZ, r⟩ := S
  obtain ⟨cl, Ar, q, S', M, H, G⟩ := V
  exact Go.by (fun t z => X.baloadBytes A.1 (by rw [eT]; exact Ar.1) (State.isArrayOf_alike hZ.alike Ar.2.1) Ar.2.2 (inb_of S' hj) (H.at (inb_of S' hj) hv') (g := mkF m pc Ls (.int j :: .ref a :: st)) rfl rfl hd t z) g
theorem Sd.iaload (S : Sd wd EL a0 p l e R s m args below meth c Z own n0 h0 ws0 T h F locs cells slots) {a : Addr} {k : ClassId} {N : Int32} {vs : List Value} {dv v : Value} {j : Int32} (pc' : Nat) (hd : decode c.code pc = .ok (.iaload, 1)) (V : Arv Z h a k .int N vs dv) (hj : ¬ j < 0 ∧ j < N) (hv' : vs.getD j.toNatClampNeg dv = v) (g : Go p e below P T (mkF m pc' Ls (v :: st))) (hp : pc + 1 = pc' := by rfl) : Go p e below P T (mkF m pc Ls (.int j :: .ref a :: st)) := by
  subst hp
  obtain ⟨A, vm0, k0, hv, X, eT, hS, hk, hZ, r⟩ := S
  obtain ⟨cl, Ar, q, S', M, H, G⟩ := V
  exact Go.by (fun t z => X.iaload A.1 (by rw [eT]; exact Ar.1) (State.isArrayOf_alike hZ.alike Ar.2.1) Ar.2.2 (inb_of S' hj) (H.at (inb_of S' hj) hv') (g := mkF m pc Ls (.int j :: .ref a :: st)) rfl rfl hd t z) g
theorem Sd.ldcI (S : Sd wd EL a0 p l e R s m args below meth c Z own n0 h0 ws0 T h F locs cells slots) {index : Nat} {v : Int32} (pc' : Nat) (hd : decode c.code pc = .ok (.ldc index, 2)) (w : (Jvm.Cond.constant own index v).before a0 Z = true) (g : Go p e below P T (mkF m pc' Ls (.int v :: st))) (hp : pc + 2 = pc' := by rfl) : Go p e below P T (mkF m pc Ls st) := by
  subst hp
  obtain ⟨A, vm0, k0, hv, X, eT, hS, hk, hZ, hown, r⟩ := S
  exact Go.by (fun t z => X.ldcInt A.1 hown (mvT (s := s.setVm vm0) hZ w) (g := mkF m pc Ls st) rfl hd t z) g
theorem Sd.ldc2J (S : Sd wd EL a0 p l e R s m args below meth c Z own n0 h0 ws0 T h F locs cells slots) {index : Nat} {v : Int64} (pc' : Nat) (hd : decode c.code pc = .ok (.ldc2_w index, 3)) (w : (Jvm.Cond.constantLong own index v).before a0 Z = true) (g : Go p e below P T (mkF m pc' Ls (.long v :: st))) (hp : pc + 3 = pc' := by rfl) : Go p e below P T (mkF m pc Ls st) := by
  subst hp
  obtain ⟨A, vm0, k0, hv, X, eT, hS, hk, hZ, hown, r⟩ := S
  exact Go.by (fun t z => X.ldc2Long A.1 hown (mvT (s := s.setVm vm0) hZ w) (g := mkF m pc Ls st) rfl hd t z) g
theorem Sd.cast (S : Sd wd EL a0 p l e R s m args below meth c Z own n0 h0 ws0 T h F locs cells slots) {K : String} {index : Nat} {a : Addr} (pc' : Nat) (hd : decode c.code pc = .ok (.checkcast index, 3)) (w : (Jvm.Cond.classLink own index K).before a0 Z = true) (I : Ins Z h a K true)
    (g : ∀ (T' : State), Sd wd EL a0 p l e R s m args below meth c Z own n0 h0 ws0 T' h F locs cells slots → Go p e below P T' (mkF m pc' Ls (.ref a :: st))) (hp : pc + 3 = pc' := by rfl) : Go p e below P T (mkF m pc Ls (.ref a :: st)) := by
  subst hp
  obtain ⟨A, vm0, k0, hv, X, eT, r⟩ := S
  obtain ⟨hS, hk, hZ, hown, r'⟩ := id r
  obtain ⟨T', X', e', st'⟩ := castY X A.1 hZ hown w eT I (g := mkF m pc Ls (.ref a :: st)) rfl rfl hd
  exact Go.by st' (g T' ⟨A, vm0, k0, hv, X', e', r⟩)
theorem Sd.castNull (S : Sd wd EL a0 p l e R s m args below meth c Z own n0 h0 ws0 T h F locs cells slots) {index : Nat} (pc' : Nat) (hd : decode c.code pc = .ok (.checkcast index, 3)) (g : Go p e below P T (mkF m pc' Ls (.null :: st))) (hp : pc + 3 = pc' := by rfl) : Go p e below P T (mkF m pc Ls (.null :: st)) := by
  subst hp
  obtain ⟨A, vm0, k0, hv, X, r⟩ := S
  exact Go.by (fun t z => X.checkcastNull A.1 (g := mkF m pc Ls (.null :: st)) rfl rfl hd t z) g
theorem Sd.instY (S : Sd wd EL a0 p l e R s m args below meth c Z own n0 h0 ws0 T h F locs cells slots) {K : String} {index : Nat} {a : Addr} (pc' : Nat) (hd : decode c.code pc = .ok (.instanceof index, 3)) (w : (Jvm.Cond.classLink own index K).before a0 Z = true) (I : Ins Z h a K true)
    (g : ∀ (T' : State), Sd wd EL a0 p l e R s m args below meth c Z own n0 h0 ws0 T' h F locs cells slots → Go p e below P T' (mkF m pc' Ls (.int 1 :: st))) (hp : pc + 3 = pc' := by rfl) : Go p e below P T (mkF m pc Ls (.ref a :: st)) := by
  subst hp
  obtain ⟨A, vm0, k0, hv, X, eT, r⟩ := S
  obtain ⟨hS, hk, hZ, hown, r'⟩ := id r
  obtain ⟨T', X', e', st'⟩ := RoadKit.instY X A.1 hZ hown w eT I (g := mkF m pc Ls (.ref a :: st)) rfl rfl hd
  exact Go.by st' (g T' ⟨A, vm0, k0, hv, X', e', r⟩)
theorem Sd.instNo (S : Sd wd EL a0 p l e R s m args below meth c Z own n0 h0 ws0 T h F locs cells slots) {K C : String} {index : Nat} {a : Addr} (pc' : Nat) (hd : decode c.code pc = .ok (.instanceof index, 3)) (w : (Jvm.Cond.classLink own index K).before a0 Z = true) (E : Exa Z h a C) (I : ∃ c t, Z.vm.findClass C = some c ∧ Z.vm.findClass K = some t ∧ Z.vm.assignable c t = false)
    (g : ∀ (T' : State), Sd wd EL a0 p l e R s m args below meth c Z own n0 h0 ws0 T' h F locs cells slots → Go p e below P T' (mkF m pc' Ls (.int 0 :: st))) (hp : pc + 3 = pc' := by rfl) : Go p e below P T (mkF m pc Ls (.ref a :: st)) := by
  subst hp
  obtain ⟨A, vm0, k0, hv, X, eT, r⟩ := S
  obtain ⟨hS, hk, hZ, hown, r'⟩ := id r
  obtain ⟨T', X', e', st'⟩ := RoadKit.instNo X A.1 hZ hown w eT E I (g := mkF m pc Ls (.ref a :: st)) rfl rfl hd
  exact Go.by st' (g T' ⟨A, vm0, k0, hv, X', e', r⟩)
theorem Sd.initO (S : Sd wd EL a0 p l e R s m args below meth c Z own n0 h0 ws0 T h F locs cells slots) {idx W : Nat} {a : Addr} (pc' : Nat) (hd : decode c.code pc = .ok (.invokespecial idx, 3)) (hml : Ls.size = c.maxLocals) (w1 : (Jvm.Cond.methodLink own idx Lib.objectInit).before a0 Z = true) (w2 : (Jvm.Cond.instanceMethod Lib.objectInit).before a0 Z = true) (w3 : (Jvm.Cond.code Lib.objectInit ⟨#[0xb1]⟩ 1 none).before a0 Z = true)
    (hf : 1 ≤ R.frames) (hW : (st.map fun v => v.category).sum ≤ W) (hl : W + 12 ≤ R.locals)
    (g : ∀ (T' : State), Sd wd EL a0 p l e R s m args below meth c Z own n0 h0 ws0 T' h F locs cells slots → Go p e below P T' (mkF m pc' Ls st)) (hp : pc + 3 = pc' := by rfl) : Go p e below P T (mkF m pc Ls (.ref a :: st)) := by
  subst hp
  obtain ⟨A, vm0, k0, hv, X, eT, r⟩ := S
  obtain ⟨hS, hk, hZ, hown, r'⟩ := id r
  obtain ⟨T', X', e', st'⟩ := RoadKit.initO X A.1 hZ hown w1 w2 w3 eT (g := mkF m pc Ls (.ref a :: st)) rfl hml rfl hd hf (W := W) (by show 2 * 0 + _ ≤ _; omega) hl
  exact Go.by st' (g T' ⟨A, vm0, k0, hv, X', e', r⟩)
/-- 'ldc' of a String constant, opaque (a wide body) -/
theorem Sd.ldcO (S : Sd true EL a0 p l e R s m args below meth c Z own n0 h0 ws0 T h F locs cells slots) {index n : Nat} {text : String} (pc' : Nat) (hd : decode c.code pc = .ok (.ldc index, 2)) (w : (Jvm.Cond.stringLink own index text).before a0 Z = true) (wS : ∀ a ∈ Bundle.stringAtoms, a.before a0 Z = true) (hn : 4 * text.toList.length ≤ n) (hbig : n ≤ 536870912) (hc : cells + 2 ≤ R.cells) (hl : slots + (n + 4) ≤ R.slots)
    (g : ∀ (T' : State) (h' : Heap) (a : Addr), Sd true EL a0 p l e R s m args below meth c Z own n0 h0 ws0 T' h' F locs (cells + 2) (slots + (n + 4)) → Ext h h' → Go p e below P T' (mkF m pc' Ls (.ref a :: st))) (hp : pc + 2 = pc' := by rfl) : Go p e below P T (mkF m pc Ls st) := by
  subst hp
  obtain ⟨A, vm0, k0, hv, X, eT, hS, hk, hZ, hown, O, N, K0, C0, hF⟩ := S
  obtain ⟨a, T', h', k1, X', e', E, hS', hk', hZ', hown', C', -, st'⟩ := ldcOH X A.1 hZ hown w wS eT hS hk A.2.2.1 C0.1 (g := mkF m pc Ls st) rfl hd hn hbig hc hl
  exact Go.by st' (g T' h' a ⟨A, T'.vm, k1, nofun, X', e', hS', hk', hZ', hown', O.ext E, N, K0.ext E, C0.trans C', fun x hx => ⟨C'.safe (hF x hx).2 (hF x hx).1, Nat.lt_of_lt_of_le (hF x hx).2 E.1⟩⟩ E)
/-- 'ldc' of a String constant of EL, read (a wide body) -/
theorem Sd.ldcR (S : Sd true EL a0 p l e R s m args below meth c Z own n0 h0 ws0 T h F locs cells slots) {index n : Nat} {text : String} {vs : List Value} {z : Int32} (pc' : Nat) (hd : decode c.code pc = .ok (.ldc index, 2)) (w : (Jvm.Cond.stringLink own index text).before a0 Z = true) (wS : ∀ a ∈ Bundle.stringAtoms, a.before a0 Z = true) (hmem : (own, index) ∈ EL) (ht : (∀ c ∈ text.toList, c.toNat < 256) ∧ text.toList.map (fun c => Value.int (Jvm.Lit.byteI c.toNat.toUInt16)) = vs) (hz : ¬ z < 0) (hlen : z.toNatClampNeg = vs.length)
    (hn : 4 * text.toList.length ≤ n) (hbig : n ≤ 536870912) (hc : cells + 2 ≤ R.cells) (hl : slots + (n + 4) ≤ R.slots)
    (g : ∀ (T' : State) (h' : Heap) (a b : Addr) (k : ClassId), Sd true EL a0 p l e R s m args below meth c Z own n0 h0 ws0 T' h' F locs (cells + 2) (slots + (n + 4)) → Ext h h' → Exa Z h' a "java/lang/String" → Fld Z h' a "java/lang/String" "coder" "B" (.int 0) → Fld Z h' a "java/lang/String" "value" "[B" (.ref b) → Arv Z h' b k .byte z vs (.int 0) → (∀ x ∈ F, x ≠ a ∧ x ≠ b) → Go p e below P T' (mkF m pc' Ls (.ref a :: st))) (hp : pc + 2 = pc' := by rfl) : Go p e below P T (mkF m pc Ls st) := by
  subst hp
  obtain ⟨A, vm0, k0, hv, X, eT, hS, hk, hZ, hown, O, N, K0, C0, hF⟩ := S
  obtain ⟨a, T', h', k1, b, k, X', e', E, hS', hk', hZ', hown', g1, g2, g3, g4, -, -, C', -, hne, st'⟩ := ldcCH X A.1 hZ hown w wS eT hS hk A.2.2.1 hmem C0.1 ht hz hlen (g := mkF m pc Ls st) rfl hd hn hbig hc hl
  have sf : ∀ x ∈ F, Safe Z EL T'.vm h' x ∧ x < h'.size := fun x hx => ⟨C'.safe (hF x hx).2 (hF x hx).1, Nat.lt_of_lt_of_le (hF x hx).2 E.1⟩
  exact Go.by st' (g T' h' a b k ⟨A, T'.vm, k1, nofun, X', e', hS', hk', hZ', hown', O.ext E, N, K0.ext E, C0.trans C', sf⟩ E g1 g2 g3 g4 fun x hx => hne x (sf x hx).1)
/-! ### the end of a body -/
theorem Sd.endB (S : Sd wd EL a0 p l e R s m args below meth c Z own n0 h0 ws0 T h F locs cells slots) {v : Option Value} (hv : meth.sig.returnType = none → v = none) {rc rs : Nat} (hc : cells ≤ rc) (hs : slots ≤ rs) {Q : Option Value → Heap → Prop} (q : Q v h) :
    ∃ fs, (∀ (f : JFrame) (acts : List Action), f.method = m → f.locked = none → f.entered = [] → (doReturn e (T.setTop f) acts v).1 = T.setFrames fs) ∧ (T.setFrames fs).status = .running ∧ Ended (T.setFrames fs) below (.returned v) ∧ Done wd EL Z s n0 h0 ws0 rc rs Q (.returned v) (T.setFrames fs) := by
  obtain ⟨A, vm0, k0, hw, X, eT, hS, hk, hZ, hown, O, N, K0, C0, hF⟩ := S
  have hh : ∀ fs, (T.setFrames fs).heap = h := fun fs => eT
  cases wd with
  | false =>
    obtain rfl := hw rfl
    have X : Stand p l e R s m args below meth c T locs cells slots := X
    obtain ⟨fs, h1, h2, h3, hW, hsame⟩ := X.leave hv A.2.1
    exact ⟨fs, h1, h2, h3, v, locs, rfl, ⟨by rw [hh]; exact q, by rw [hh]; exact K0, N⟩, ⟨_, rfl⟩, hW, hsame.mono hc hs⟩
  | true =>
    obtain ⟨fs, h1, h2, h3, e1, e2, e3, e4⟩ := X.leaveW hS (by rw [eT]; exact hk) hv A.2.1
    refine ⟨fs, h1, h2, h3, v, locs, rfl, ⟨by rw [hh]; exact q, by rw [hh]; exact K0, N⟩, ?_, e1, e2, e3, e4.mono hc hs⟩
    have C1 := C0.trans (CHv.at X hZ A.2.2.1 C0.1)
    show CHr Z EL s.vm s.heap T.vm (T.setFrames fs).heap
    rw [hh]; exact C1
theorem Sd.ret0 (S : Sd wd EL a0 p l e R s m args below meth c Z own n0 h0 ws0 T h F locs cells slots) {rc rs : Nat} {Q : Option Value → Heap → Prop} (hd : decode c.code pc = .ok (.return_, 1)) (hret : meth.sig.returnType = none) (hc : cells ≤ rc) (hs : slots ≤ rs) (q : Q none h) : Go p e below (Done wd EL Z s n0 h0 ws0 rc rs Q) T (mkF m pc Ls []) := by
  obtain ⟨fs, h1, h2, h3, h4⟩ := S.endB (v := none) (fun _ => rfl) hc hs q
  obtain ⟨A, vm0, k0, hw, X, r⟩ := S
  exact ⟨_, _, X.returnOut A.1 hret hd h1, h2, h3, h4⟩
theorem Sd.retV (S : Sd wd EL a0 p l e R s m args below meth c Z own n0 h0 ws0 T h F locs cells slots) {rc rs : Nat} {Q : Option Value → Heap → Prop} {w : Value} {t : FieldType} {i : Instr} (hd : decode c.code pc = .ok (i, 1)) (hret : meth.sig.returnType = some t) (hn : narrow t w = w)
    (hi : (i = .ireturn ∧ (t = .int ∨ t = .boolean ∨ t = .byte ∨ t = .char ∨ t = .short) ∧ ∃ z, w = .int z) ∨ (i = .lreturn ∧ t = .long ∧ ∃ z, w = .long z) ∨ (i = .dreturn ∧ t = .double ∧ ∃ z, w = .double z) ∨ (i = .freturn ∧ t = .float ∧ ∃ z, w = .float z) ∨ (i = .areturn ∧ t.isReference = true ∧ w.isRef = true))
    (hc : cells ≤ rc) (hs : slots ≤ rs) (q : Q (some w) h) : Go p e below (Done wd EL Z s n0 h0 ws0 rc rs Q) T (mkF m pc Ls (w :: st)) := by
  obtain ⟨fs, h1, h2, h3, h4⟩ := S.endB (v := some w) (fun z => by rw [hret] at z; cases z) hc hs q
  obtain ⟨A, vm0, k0, hw, X, r⟩ := S
  exact ⟨_, _, retOut X A.1 hret hn hi hd h1, h2, h3, h4⟩
theorem Sd.retI (S : Sd wd EL a0 p l e R s m args below meth c Z own n0 h0 ws0 T h F locs cells slots) {rc rs : Nat} {Q : Option Value → Heap → Prop} {z : Int32} (hd : decode c.code pc = .ok (.ireturn, 1)) (hret : meth.sig.returnType = some .int) (hc : cells ≤ rc) (hs : slots ≤ rs) (q : Q (some (.int z)) h) : Go p e below (Done wd EL Z s n0 h0 ws0 rc rs Q) T (mkF m pc Ls (.int z :: st)) :=
  S.retV hd hret rfl (Or.inl ⟨rfl, Or.inl rfl, z, rfl⟩) hc hs q
/-- the return of a boolean, byte, char or short: what the frame holds is narrowed -/
theorem Sd.retN (S : Sd wd EL a0 p l e R s m args below meth c Z own n0 h0 ws0 T h F locs cells slots) {rc rs : Nat} {Q : Option Value → Heap → Prop} {z : Int32} {t : FieldType} (hd : decode c.code pc = .ok (.ireturn, 1)) (hret : meth.sig.returnType = some t) (ht : t = .boolean ∨ t = .byte ∨ t = .char ∨ t = .short) (hc : cells ≤ rc) (hs : slots ≤ rs) (q : Q (some (.int (nar t z))) h) : Go p e below (Done wd EL Z s n0 h0 ws0 rc rs Q) T (mkF m pc Ls (.int z :: st)) := by
  obtain ⟨fs, h1, h2, h3, h4⟩ := S.endB (v := some (.int (nar t z))) (fun y => by rw [hret] at y; cases y) hc hs q
  obtain ⟨A, vm0, k0, hw, X, r⟩ := S
  exact ⟨_, _, RoadKit.retN X A.1 hret ht hd h1, h2, h3, h4⟩
theorem Sd.retJ (S : Sd wd EL a0 p l e R s m args below meth c Z own n0 h0 ws0 T h F locs cells slots) {rc rs : Nat} {Q : Option Value → Heap → Prop} {z : Int64} (hd : decode c.code pc = .ok (.lreturn, 1)) (hret : meth.sig.returnType = some .long) (hc : cells ≤ rc) (hs : slots ≤ rs) (q : Q (some (.long z)) h) : Go p e below (Done wd EL Z s n0 h0 ws0 rc rs Q) T (mkF m pc Ls (.long z :: st)) :=
  S.retV hd hret rfl (Or.inr (Or.inl ⟨rfl, rfl, z, rfl⟩)) hc hs q
theorem Sd.retA (S : Sd wd EL a0 p l e R s m args below meth c Z own n0 h0 ws0 T h F locs cells slots) {rc rs : Nat} {Q : Option Value → Heap → Prop} {w : Value} {t : FieldType} (hd : decode c.code pc = .ok (.areturn, 1)) (hret : meth.sig.returnType = some t) (ht : t.isReference = true) (hw : w.isRef = true) (hc : cells ≤ rc) (hs : slots ≤ rs) (q : Q (some w) h) : Go p e below (Done wd EL Z s n0 h0 ws0 rc rs Q) T (mkF m pc Ls (w :: st)) :=
  S.retV hd hret (Jvm.narrow_isRef _ hw) (Or.inr (Or.inr (Or.inr (Or.inr ⟨rfl, ht, hw⟩)))) hc hs q
/-! ### contracts -/
/-- a body that interns nothing -/
def Con (l : Launch) (Z : State) (n0 : Nat) (y : MethodName) (bytes : ByteArray) (maxL : Nat) (ret : Option FieldType) (cs : List Jvm.Cond) (rm : Room) (as' : Array Value) (h : Heap) (ws : List Addr) (Q : Option Value → Heap → Prop) : Prop :=
  MetFree l y (head1 (Jvm.Cond.code y bytes maxL ret :: cs) rm) (fun a U => a = as' ∧ Z.Warmed39 U.vm ∧ U.heap = h) (fun _ _ _ _ _ => True) (fun _ U o U' => ∃ v L, o = .returned v ∧ (Q v U'.heap ∧ Keep h U'.heap ws ∧ Fr n0 L) ∧ FrameEnd U o U' L rm.cells rm.slots)
/-- a body that may intern: F0: what must hold no booked literal -/
def ConS (EL : List (String × Nat)) (l : Launch) (Z : State) (n0 : Nat) (y : MethodName) (bytes : ByteArray) (maxL : Nat) (ret : Option FieldType) (cs : List Jvm.Cond) (rm : Room) (as' : Array Value) (h : Heap) (ws F0 : List Addr) (Q : Option Value → Heap → Prop) : Prop :=
  MetFree l y (head1 (Jvm.Cond.code y bytes maxL ret :: cs) rm) (fun a U => a = as' ∧ Z.Warmed39 U.vm ∧ U.heap = h ∧ CHv Z EL U.vm h ∧ ∀ x ∈ F0, Safe Z EL U.vm h x ∧ x < h.size) (fun _ _ _ _ _ => True) (fun _ U o U' => ∃ v L, o = .returned v ∧ (Q v U'.heap ∧ Keep h U'.heap ws ∧ Fr n0 L) ∧ CHr Z EL U.vm U.heap U'.vm U'.heap ∧ ReturnedEndW U o U' L rm.cells rm.slots)
theorem chv0 {vm : Vm} : CHv Z [] vm h := fun _ q => nomatch q
theorem safe0 {vm : Vm} {x : Addr} : Safe Z [] vm h x := fun ⟨_, q, _⟩ => nomatch q
theorem Con.of {y : MethodName} {bytes : ByteArray} {maxL : Nat} {ret : Option FieldType} {cs : List Jvm.Cond} {rm : Room} {as' : Array Value} {Q : Option Value → Heap → Prop} (a0 : Array Value) (hn : plainFor y = true) (hO : Old Z n0 h) (hws : ∀ x ∈ ws, n0 ≤ x) (F0 : List Addr) (hF0 : ∀ x ∈ F0, x < h.size)
    (body : ∀ (p : Program) (e : Env) (s : State) (m : MethodId) (below : List Frame) (meth : Method) (c : Code) (T : State), Sd false [] a0 p l e rm s m as' below meth c Z y.cls n0 h ws T h F0 [] 0 0 → c.code = bytes → c.maxLocals = maxL → meth.sig.returnType = ret → meth.name = y.name → Go p e below (Done false [] Z s n0 h ws rm.cells rm.slots Q) T (entryFrame m as' maxL)) :
    Con l Z n0 y bytes maxL ret cs rm as' h ws Q := by
  refine MetFree.of_bodySF hn hisR ?_
  intro p e s m args below meth c s₁ Bd hml0 hP hK
  obtain ⟨rfl, hZ, rfl⟩ := hP
  have e0 : s₁.heap = s.heap := by rw [Bd.state]; rfl
  obtain ⟨s₂, o, h1, h2, h3, h4⟩ := body p e s m below meth c s₁ ⟨⟨Bd.exec, Bd.notSynchronized, EW.nil, rfl, hO, hws⟩, s.vm, 0, fun _ => rfl, (Stand.of_body Bd : Stand p l e rm s m args below meth c s₁ [] 0 0), e0, State.WarmedH.since (State.WarmedH.refl s) 0, Nat.zero_le _, hZ, findClass_of_methodNamed Bd.named, hO, Fr.nil n0, Keep.refl _ _, CHr.refl chv0, fun x hx => ⟨safe0, hF0 x hx⟩⟩ Bd.bytes hml0 Bd.returns (name_of_methodNamed Bd.named Bd.method).1
  exact ⟨s₂, o, h1, h2, h3, h4⟩
theorem ConS.of {y : MethodName} {bytes : ByteArray} {maxL : Nat} {ret : Option FieldType} {cs : List Jvm.Cond} {rm : Room} {as' : Array Value} {F0 : List Addr} {Q : Option Value → Heap → Prop} (hn : plainFor y = true) (hO : Old Z n0 h) (hEL : EW Z a0 EL) (hws : ∀ x ∈ ws, n0 ≤ x)
    (body : ∀ (p : Program) (e : Env) (s : State) (m : MethodId) (below : List Frame) (meth : Method) (c : Code) (T : State), Sd true EL a0 p l e rm s m as' below meth c Z y.cls n0 h ws T h F0 [] 0 0 → c.code = bytes → c.maxLocals = maxL → meth.sig.returnType = ret → meth.name = y.name → Go p e below (Done true EL Z s n0 h ws rm.cells rm.slots Q) T (entryFrame m as' maxL)) :
    ConS EL l Z n0 y bytes maxL ret cs rm as' h ws F0 Q := by
  refine MetFree.of_bodySF hn hisR ?_
  intro p e s m args below meth c s₁ Bd hml0 hP hK
  obtain ⟨rfl, hZ, rfl, hC, hF⟩ := hP
  have e0 : s₁.heap = s.heap := by rw [Bd.state]; rfl
  obtain ⟨s₂, o, h1, h2, h3, h4⟩ := body p e s m below meth c s₁ ⟨⟨Bd.exec, Bd.notSynchronized, hEL, rfl, hO, hws⟩, s.vm, 0, fun _ => rfl, (Stand.of_body Bd : Stand p l e rm s m args below meth c s₁ [] 0 0), e0, State.WarmedH.since (State.WarmedH.refl s) 0, Nat.zero_le _, hZ, findClass_of_methodNamed Bd.named, hO, Fr.nil n0, Keep.refl _ _, CHr.refl hC, hF⟩ Bd.bytes hml0 Bd.returns (name_of_methodNamed Bd.named Bd.method).1
  exact ⟨s₂, o, h1, h2, h3, h4⟩
/-! ### who pays a call -/
def Pay (l : Launch) (R : Room) (p : Program) (e : Env) (below : List Frame) (args : Array Value) (Z s : State) (n0 : Nat) (y : MethodName) (len W : Nat) (as' : Array Value) (h : Heap) (ws : List Addr) (rc rs : Nat) (Q : Option Value → Heap → Prop) : Prop :=
  ∀ s' : State, Z.Warmed39 s'.vm → s.vm.Alike s'.vm → Back l R p e below s' args y len W (fun A a => a = as' ∧ A.U.heap = h ∧ A.cells + rc ≤ R.cells ∧ A.slots + rs ≤ R.slots) (fun A _ v B => ∃ L, (Q v B.U.heap ∧ Keep h B.U.heap ws ∧ Fr n0 L) ∧ B.locs = A.locs ++ L ∧ B.cells = A.cells + rc ∧ B.slots = A.slots + rs)
def PayS (EL : List (String × Nat)) (a0 : Array Value) (l : Launch) (R : Room) (p : Program) (e : Env) (below : List Frame) (args : Array Value) (Z : State) (n0 : Nat) (y : MethodName) (len W : Nat) (as' : Array Value) (h : Heap) (ws F0 : List Addr) (rc rs : Nat) (Q : Option Value → Heap → Prop) : Prop :=
  ∀ (s : State) (vm0 : Vm), Z.Warmed39 vm0 → EW Z a0 EL → CHv Z EL vm0 h → (∀ x ∈ F0, Safe Z EL vm0 h x ∧ x < h.size) → BackS l R p e below (s.setVm vm0) args y len W (fun A a => a = as' ∧ A.U.heap = h ∧ A.cells + rc ≤ R.cells ∧ A.slots + rs ≤ R.slots)
    (fun A _ v B => ∃ L, (Q v B.U.heap ∧ Keep h B.U.heap ws ∧ Fr n0 L) ∧ B.locs = A.locs ++ L ∧ B.cells = A.cells + rc ∧ B.slots = A.slots + rs ∧ CHr Z EL vm0 h B.U.vm B.U.heap)
variable {y : MethodName} {bytes : ByteArray} {maxL : Nat} {ret : Option FieldType} {cs : List Jvm.Cond} {rm : Room} {as' : Array Value} {Q : Option Value → Heap → Prop} {len W rc rs : Nat} {F0 : List Addr} {argsL : List Value}
theorem Con.pay (M : Con l Z n0 y bytes maxL ret [] rm as' h ws Q) (wc : (Jvm.Cond.code y bytes maxL ret).before a0 Z = true) (wz : (Jvm.Cond.initialized y.cls).before a0 Z = true) (hf : rm.frames + 1 ≤ R.frames) (hl : W + (maxL + 11) + rm.locals ≤ R.locals) : Pay l R p e below args Z s n0 y len W as' h ws rm.cells rm.slots Q :=
  fun _ hZ _ => backOf (Q := fun v h' L => Q v h' ∧ Keep h h' ws ∧ Fr n0 L) M hZ wc wz hf hl
theorem ConS.pay (M : ConS EL l Z n0 y bytes maxL ret [] rm as' h ws F0 Q) (wc : (Jvm.Cond.code y bytes maxL ret).before a0 Z = true) (wz : (Jvm.Cond.initialized y.cls).before a0 Z = true) (hf : rm.frames + 1 ≤ R.frames) (hl : W + (maxL + 11) + rm.locals ≤ R.locals) : PayS EL a0 l R p e below args Z n0 y len W as' h ws F0 rm.cells rm.slots Q := by
  intro s vm0 hZ hEL H hF
  exact BackS.of_freeW (bytes := bytes) (maxL := maxL) (ret := ret) (E := fun _ first o t L k n => k = rm.cells ∧ n = rm.slots ∧ (∃ v, o = .returned v ∧ (Q v t.heap ∧ Keep h t.heap ws ∧ Fr n0 L)) ∧ CHr Z EL first.vm first.heap t.vm t.heap) M hf hl
    (fun m meth c A a Y hp => have hU : Z.Warmed39 A.U.vm := wtrans (s := s.setVm vm0) hZ Y.warmed
      ⟨by show (Cond.and _ .tt).before a A.U = true; rw [Cond.before_and, mv hU wc]; rfl, mv hU wc, mv hU wz, hp.2.2.1, hp.2.2.2⟩)
    (fun m meth c A a g mk Y hp => ⟨hp.1, wtrans (s := s.setVm vm0) hZ Y.warmed, hp.2.1, (CHv.at Y hZ hEL H).1, fun x hx => ⟨(CHv.at Y hZ hEL H).safe (hF x hx).2 (hF x hx).1, (hF x hx).2⟩⟩) (fun _ _ _ _ _ _ _ _ _ => trivial)
    (fun _ _ _ _ ⟨v, L, h1, h2, h3, h4⟩ => ⟨L, _, _, h4, rfl, rfl, ⟨v, h1, h2⟩, h3⟩)
    (fun m meth c A a g mk v t L k n Y hp _ _ ⟨e1, e2, ⟨v', e3, e4⟩, e5⟩ => by
      cases e3; subst e1 e2
      refine ⟨L, e4, rfl, rfl, rfl, (CHv.at Y hZ hEL H).trans ?_⟩
      rw [← hp.2.1]; exact e5)
/-- what a caller must know of what its callee writes -/
def Wrs (Z : State) (n0 : Nat) (h0 : Heap) (ws0 : List Addr) (h : Heap) (F ws : List Addr) : Prop := ∀ x ∈ ws, Wok n0 h0 ws0 x ∧ (x ∈ F ∨ ∃ C, Exa Z h x C ∧ C ≠ "java/lang/String" ∧ C ≠ "[B")
theorem Wrs.nil : Wrs Z n0 h0 ws0 h F [] := fun _ q => nomatch q
theorem Wrs.one {x : Addr} (w : Wok n0 h0 ws0 x) (q : x ∈ F ∨ ∃ C, Exa Z h x C ∧ C ≠ "java/lang/String" ∧ C ≠ "[B") : Wrs Z n0 h0 ws0 h F [x] := fun y hy => by rw [List.mem_singleton.mp hy]; exact ⟨w, q⟩
theorem Wrs.safe (w : Wrs Z n0 h0 ws0 h F ws) (hal : Z.vm.Alike vm0) (hF : ∀ x ∈ F, Safe Z EL vm0 h x ∧ x < h.size) : ∀ x ∈ ws, Wok n0 h0 ws0 x ∧ Safe Z EL vm0 h x := fun x hx => by
  obtain ⟨w1, w2⟩ := w x hx
  refine ⟨w1, ?_⟩
  rcases w2 with q | ⟨C, E, q1, q2⟩
  · exact (hF x q).1
  · exact Safe.exa hal E q1 q2
theorem Sd.afterN {A : p.tables.exec = Jvm.exec ∧ meth.locks = false ∧ EW Z a0 EL ∧ s.heap = h0 ∧ Old Z n0 h0 ∧ ∀ x ∈ ws0, n0 ≤ x} (hv : wd = false → vm0 = s.vm) (hS : s.Since vm0 k0) (hk : k0 ≤ h.size) (hZ : Z.Warmed39 vm0) (hown : vm0.findClass own = some m.cls) (O : Old Z n0 h) (N : Fr n0 locs) (K0 : Keep h0 h ws0) (C0 : CHr Z EL s.vm s.heap vm0 h) (hF : ∀ x ∈ F, Safe Z EL vm0 h x ∧ x < h.size) (hws : Wrs Z n0 h0 ws0 h F ws)
    {B : Pt} (X : Stand p l e R (s.setVm vm0) m args below meth c B.U B.locs B.cells B.slots) {L : List Loc} (K : Keep h B.U.heap ws) (NL : Fr n0 L) (l1 : B.locs = locs ++ L) (l2 : B.cells = cells + rc) (l3 : B.slots = slots + rs) : Sd wd EL a0 p l e R s m args below meth c Z own n0 h0 ws0 B.U B.U.heap F (locs ++ L) (cells + rc) (slots + rs) := by
  rw [l1, l2, l3] at X
  exact Sd.close A hv X rfl hS hk hZ hown O (Fr.app N NL) K0 C0 hF K (hws.safe hZ.alike hF) fun x hx => Or.inl hx
theorem Sd.scall (S : Sd wd EL a0 p l e R s m args below meth c Z own n0 h0 ws0 T h F locs cells slots) {index : Nat} (pc' : Nat) (hd : decode c.code pc = .ok (.invokestatic index, 3)) (hml : Ls.size = c.maxLocals) (w1 : (Jvm.Cond.methodLink own index y).before a0 Z = true) (w2 : (Jvm.Cond.static y).before a0 Z = true) (w3 : (Jvm.Cond.initialized y.cls).before a0 Z = true) (w4 : (Jvm.Cond.code y bytes maxL ret).before a0 Z = true) (hy : y.cls ≠ "java/lang/invoke/MethodHandle" ∧ y.cls ≠ "java/lang/invoke/VarHandle")
    (argsL rest : List Value) (K : Pay l R p e below args Z s n0 y 3 W argsL.toArray h ws rc rs Q) (hlen : ∀ sig, parseMethodDescriptor y.desc = some sig → argsL.length = sig.parameters.length) (hst : st = argsL.reverse ++ rest) (hW : (rest.map fun v => v.category).sum ≤ W) (hc : cells + rc ≤ R.cells) (hs : slots + rs ≤ R.slots) (hws : Wrs Z n0 h0 ws0 h F ws)
    (g : ∀ (v : Option Value) (T' : State) (h' : Heap) (L : List Loc), Sd wd EL a0 p l e R s m args below meth c Z own n0 h0 ws0 T' h' F (locs ++ L) (cells + rc) (slots + rs) → Q v h' → Keep h h' ws → Go p e below P T' (mkF m pc' Ls (v.toList ++ rest))) (hp : pc + 3 = pc' := by rfl) : Go p e below P T (mkF m pc Ls st) := by
  subst hp hst
  obtain ⟨A, vm0, k0, hv, X, eT, hS, hk, hZ, hown, O, N, K0, C0, hF⟩ := S
  obtain ⟨v, vm₁, B, -, X', ⟨L, ⟨q, KK, NL⟩, l1, l2, l3⟩, st'⟩ := Jvm.LawKit.callS X A.1 hown (mvT (s := s.setVm vm0) hZ w1) (mvT (s := s.setVm vm0) hZ w2) (mvT (s := s.setVm vm0) hZ w3) (mvT (s := s.setVm vm0) hZ w4) hy (K (s.setVm vm0) hZ hS.1.alike) (g := mkF m pc Ls (argsL.reverse ++ rest)) rfl hml (argsL := argsL) (rest := rest) hlen rfl (by show 2 * 0 + _ ≤ _; omega) hd (fun _ _ => ⟨rfl, eT, hc, hs⟩)
  exact Go.by st' (g v B.U B.U.heap L (Sd.afterN (A := A) hv hS hk hZ hown O N K0 C0 hF hws X' KK NL l1 l2 l3) q KK)
theorem Sd.icall (S : Sd wd EL a0 p l e R s m args below meth c Z own n0 h0 ws0 T h F locs cells slots) {index : Nat} {a : Addr} (pc' : Nat) (hd : decode c.code pc = .ok (.invokespecial index, 3)) (hml : Ls.size = c.maxLocals) (hy1 : y.name = "<init>") (w1 : (Jvm.Cond.methodLink own index y).before a0 Z = true) (w2 : (Jvm.Cond.instanceMethod y).before a0 Z = true) (w4 : (Jvm.Cond.code y bytes maxL none).before a0 Z = true) (hy : y.cls ≠ "java/lang/invoke/MethodHandle" ∧ y.cls ≠ "java/lang/invoke/VarHandle")
    (argsL rest : List Value) (K : Pay l R p e below args Z s n0 y 3 W (.ref a :: argsL).toArray h ws rc rs Q) (hlen : ∀ sig, parseMethodDescriptor y.desc = some sig → argsL.length = sig.parameters.length) (hst : st = argsL.reverse ++ .ref a :: rest) (hW : (rest.map fun v => v.category).sum ≤ W) (hc : cells + rc ≤ R.cells) (hs : slots + rs ≤ R.slots) (hws : Wrs Z n0 h0 ws0 h F ws)
    (g : ∀ (v : Option Value) (T' : State) (h' : Heap) (L : List Loc), Sd wd EL a0 p l e R s m args below meth c Z own n0 h0 ws0 T' h' F (locs ++ L) (cells + rc) (slots + rs) → Q v h' → Keep h h' ws → Go p e below P T' (mkF m pc' Ls (v.toList ++ rest))) (hp : pc + 3 = pc' := by rfl) : Go p e below P T (mkF m pc Ls st) := by
  subst hp hst
  obtain ⟨A, vm0, k0, hv, X, eT, hS, hk, hZ, hown, O, N, K0, C0, hF⟩ := S
  obtain ⟨v, vm₁, B, -, X', ⟨L, ⟨q, KK, NL⟩, l1, l2, l3⟩, st'⟩ := X.specialBack A.1 hy1 hown (mvT (s := s.setVm vm0) hZ w1) (mvT (s := s.setVm vm0) hZ w2) (mvT (s := s.setVm vm0) hZ w4) hy (K (s.setVm vm0) hZ hS.1.alike) (g := mkF m pc Ls (argsL.reverse ++ .ref a :: rest)) rfl hml (Steps.refl _) (a := a) (argsL := argsL) (rest := rest) hlen rfl (by show 2 * 0 + _ ≤ _; omega) hd (fun _ _ => ⟨rfl, eT, hc, hs⟩)
  exact Go.by (fun _ z => st'.trans z) (g v B.U B.U.heap L (Sd.afterN (A := A) hv hS hk hZ hown O N K0 C0 hF hws X' KK NL l1 l2 l3) q KK)
theorem Sd.vcall (S : Sd wd EL a0 p l e R s m args below meth c Z own n0 h0 ws0 T h F locs cells slots) {index : Nat} {a : Addr} {x : MethodName} {C : String} (pc' : Nat) (hd : decode c.code pc = .ok (.invokevirtual index, 3)) (hml : Ls.size = c.maxLocals) (w1 : (Jvm.Cond.methodLink own index x).before a0 Z = true) (w2 : (Jvm.Cond.declares x).before a0 Z = true) (w3 : (Jvm.Cond.selects C x y).before a0 Z = true) (w4 : (Jvm.Cond.instanceMethod y).before a0 Z = true) (hnf : ∀ s' : State, Z.Warmed39 s'.vm → NotFace s' x) (hy : x.cls ≠ "java/lang/invoke/MethodHandle" ∧ x.cls ≠ "java/lang/invoke/VarHandle") (E : Exa Z h a C)
    (argsL rest : List Value) (K : Pay l R p e below args Z s n0 y 3 W (.ref a :: argsL).toArray h ws rc rs Q) (hlen : ∀ sig, parseMethodDescriptor x.desc = some sig → argsL.length = sig.parameters.length) (hst : st = argsL.reverse ++ .ref a :: rest) (hW : (rest.map fun v => v.category).sum ≤ W) (hc : cells + rc ≤ R.cells) (hs : slots + rs ≤ R.slots) (hws : Wrs Z n0 h0 ws0 h F ws)
    (g : ∀ (v : Option Value) (T' : State) (h' : Heap) (L : List Loc), Sd wd EL a0 p l e R s m args below meth c Z own n0 h0 ws0 T' h' F (locs ++ L) (cells + rc) (slots + rs) → Q v h' → Keep h h' ws → Go p e below P T' (mkF m pc' Ls (v.toList ++ rest))) (hp : pc + 3 = pc' := by rfl) : Go p e below P T (mkF m pc Ls st) := by
  subst hp hst
  obtain ⟨A, vm0, k0, hv, X, eT, hS, hk, hZ, hown, O, N, K0, C0, hF⟩ := S
  obtain ⟨cB, kB, q1, -, q3⟩ := isOf (s := s.setVm vm0) hZ eT E
  obtain ⟨v, vm₁, B, -, X', ⟨L, ⟨q, KK, NL⟩, l1, l2, l3⟩, st'⟩ := X.virtualBack A.1 hown (mvT (s := s.setVm vm0) hZ w1) (mvT (s := s.setVm vm0) hZ w2) (hnf (s.setVm vm0) hZ) (mvT (s := s.setVm vm0) hZ w3) (mvT (s := s.setVm vm0) hZ w4) hy (K (s.setVm vm0) hZ hS.1.alike) q1 q3 (g := mkF m pc Ls (argsL.reverse ++ .ref a :: rest)) rfl hml (Steps.refl _) (argsL := argsL) (rest := rest) hlen rfl (by show 2 * 0 + _ ≤ _; omega) hd (fun _ _ => ⟨rfl, eT, hc, hs⟩)
  exact Go.by (fun _ z => st'.trans z) (g v B.U B.U.heap L (Sd.afterN (A := A) hv hS hk hZ hown O N K0 C0 hF hws X' KK NL l1 l2 l3) q KK)
theorem nfSel {x : MethodName} {C : String} (w3 : (Jvm.Cond.selects C x x).before a0 Z = true) : ∀ s' : State, Z.Warmed39 s'.vm → NotFace s' x := fun s' hZ => notFace_of_selects (args := #[]) (mvT (s := s') hZ w3)
/-! ### a callee that may intern -/
theorem Sd.afterS {A : p.tables.exec = Jvm.exec ∧ meth.locks = false ∧ EW Z a0 EL ∧ s.heap = h0 ∧ Old Z n0 h0 ∧ ∀ x ∈ ws0, n0 ≤ x} (eT : T.heap = h) (hS : s.Since vm0 k0) (hk : k0 ≤ h.size) (hZ : Z.Warmed39 vm0) (hown : vm0.findClass own = some m.cls) (O : Old Z n0 h) (N : Fr n0 locs) (K0 : Keep h0 h ws0) (C0 : CHr Z EL s.vm s.heap vm0 h) (hF : ∀ x ∈ F, Safe Z EL vm0 h x ∧ x < h.size) (hws : Wrs Z n0 h0 ws0 h F ws)
    {B : Pt} (X : Stand p l e R ((s.setVm vm0).setVm B.U.vm) m args below meth c B.U B.locs B.cells B.slots) (h2 : (s.setVm vm0).Since B.U.vm B.U.heap.size) (gr : T.heap.size ≤ B.U.heap.size) {L : List Loc} (K : Keep h B.U.heap ws) (NL : Fr n0 L) (l1 : B.locs = locs ++ L) (l2 : B.cells = cells + rc) (l3 : B.slots = slots + rs) (C1 : CHr Z EL vm0 h B.U.vm B.U.heap) :
    Sd true EL a0 p l e R s m args below meth c Z own n0 h0 ws0 B.U B.U.heap F (locs ++ L) (cells + rc) (slots + rs) := by
  rw [l1, l2, l3] at X
  obtain ⟨X', hS', hZ', hown'⟩ := rebS hS (by rw [eT]; exact hk) X h2 gr hZ hown
  exact ⟨A, B.U.vm, _, nofun, X', rfl, hS', Nat.le_refl _, hZ', hown', O.keep K fun x hx => (hws x hx).1.le (own_ole A.2.2.2.2.1) A.2.2.2.2.2, Fr.app N NL, K0.trans K fun x hx => (hws x hx).1, C0.trans C1, fun x hx => ⟨C1.safe (hF x hx).2 (hF x hx).1, Nat.lt_of_lt_of_le (hF x hx).2 K.1⟩⟩
theorem Sd.scallS (S : Sd true EL a0 p l e R s m args below meth c Z own n0 h0 ws0 T h F locs cells slots) {index : Nat} (pc' : Nat) (hd : decode c.code pc = .ok (.invokestatic index, 3)) (hml : Ls.size = c.maxLocals) (w1 : (Jvm.Cond.methodLink own index y).before a0 Z = true) (w2 : (Jvm.Cond.static y).before a0 Z = true) (w3 : (Jvm.Cond.initialized y.cls).before a0 Z = true) (w4 : (Jvm.Cond.code y bytes maxL ret).before a0 Z = true) (hy : y.cls ≠ "java/lang/invoke/MethodHandle" ∧ y.cls ≠ "java/lang/invoke/VarHandle")
    (argsL rest : List Value) (K : PayS EL a0 l R p e below args Z n0 y 3 W argsL.toArray h ws F0 rc rs Q) (hlen : ∀ sig, parseMethodDescriptor y.desc = some sig → argsL.length = sig.parameters.length) (hst : st = argsL.reverse ++ rest) (hW : (rest.map fun v => v.category).sum ≤ W) (hc : cells + rc ≤ R.cells) (hs : slots + rs ≤ R.slots) (hws : Wrs Z n0 h0 ws0 h F ws) (hF0 : ∀ x ∈ F0, x ∈ F)
    (g : ∀ (v : Option Value) (T' : State) (h' : Heap) (L : List Loc), Sd true EL a0 p l e R s m args below meth c Z own n0 h0 ws0 T' h' F (locs ++ L) (cells + rc) (slots + rs) → Q v h' → Keep h h' ws → Go p e below P T' (mkF m pc' Ls (v.toList ++ rest))) (hp : pc + 3 = pc' := by rfl) : Go p e below P T (mkF m pc Ls st) := by
  subst hp hst
  obtain ⟨A, vm0, k0, hv, X, eT, hS, hk, hZ, hown, O, N, K0, C0, hF⟩ := S
  obtain ⟨v, vm₁, B, -, X', h2, gr, ⟨L, ⟨q, KK, NL⟩, l1, l2, l3, C1⟩, st'⟩ := callSS X A.1 hown (mvT (s := s.setVm vm0) hZ w1) (mvT (s := s.setVm vm0) hZ w2) (mvT (s := s.setVm vm0) hZ w3) (mvT (s := s.setVm vm0) hZ w4) hy (K s vm0 hZ A.2.2.1 C0.1 fun x hx => hF x (hF0 x hx)) (g := mkF m pc Ls (argsL.reverse ++ rest)) rfl hml (argsL := argsL) (rest := rest) hlen rfl (by show 2 * 0 + _ ≤ _; omega) hd (fun _ _ => ⟨rfl, eT, hc, hs⟩)
  exact Go.by (fun _ z => st'.trans z) (g v B.U B.U.heap L (Sd.afterS (A := A) eT hS hk hZ hown O N K0 C0 hF hws X' h2 gr KK NL l1 l2 l3 C1) q KK)
theorem Sd.icallS (S : Sd true EL a0 p l e R s m args below meth c Z own n0 h0 ws0 T h F locs cells slots) {index : Nat} {a : Addr} (pc' : Nat) (hd : decode c.code pc = .ok (.invokespecial index, 3)) (hml : Ls.size = c.maxLocals) (hy1 : y.name = "<init>") (w1 : (Jvm.Cond.methodLink own index y).before a0 Z = true) (w2 : (Jvm.Cond.instanceMethod y).before a0 Z = true) (w4 : (Jvm.Cond.code y bytes maxL none).before a0 Z = true) (hy : y.cls ≠ "java/lang/invoke/MethodHandle" ∧ y.cls ≠ "java/lang/invoke/VarHandle")
    (argsL rest : List Value) (K : PayS EL a0 l R p e below args Z n0 y 3 W (.ref a :: argsL).toArray h ws F0 rc rs Q) (hlen : ∀ sig, parseMethodDescriptor y.desc = some sig → argsL.length = sig.parameters.length) (hst : st = argsL.reverse ++ .ref a :: rest) (hW : (rest.map fun v => v.category).sum ≤ W) (hc : cells + rc ≤ R.cells) (hs : slots + rs ≤ R.slots) (hws : Wrs Z n0 h0 ws0 h F ws) (hF0 : ∀ x ∈ F0, x ∈ F)
    (g : ∀ (v : Option Value) (T' : State) (h' : Heap) (L : List Loc), Sd true EL a0 p l e R s m args below meth c Z own n0 h0 ws0 T' h' F (locs ++ L) (cells + rc) (slots + rs) → Q v h' → Keep h h' ws → Go p e below P T' (mkF m pc' Ls (v.toList ++ rest))) (hp : pc + 3 = pc' := by rfl) : Go p e below P T (mkF m pc Ls st) := by
  subst hp hst
  obtain ⟨A, vm0, k0, hv, X, eT, hS, hk, hZ, hown, O, N, K0, C0, hF⟩ := S
  obtain ⟨v, vm₁, B, -, X', h2, gr, ⟨L, ⟨q, KK, NL⟩, l1, l2, l3, C1⟩, st'⟩ := X.specialBackS A.1 hy1 hown (mvT (s := s.setVm vm0) hZ w1) (mvT (s := s.setVm vm0) hZ w2) (mvT (s := s.setVm vm0) hZ w4) hy (K s vm0 hZ A.2.2.1 C0.1 fun x hx => hF x (hF0 x hx)) (g := mkF m pc Ls (argsL.reverse ++ .ref a :: rest)) rfl hml (Steps.refl _) (a := a) (argsL := argsL) (rest := rest) hlen rfl (by show 2 * 0 + _ ≤ _; omega) hd (fun _ _ => ⟨rfl, eT, hc, hs⟩)
  exact Go.by (fun _ z => st'.trans z) (g v B.U B.U.heap L (Sd.afterS (A := A) eT hS hk hZ hown O N K0 C0 hF hws X' h2 gr KK NL l1 l2 l3 C1) q KK)
theorem Sd.vcallS (S : Sd true EL a0 p l e R s m args below meth c Z own n0 h0 ws0 T h F locs cells slots) {index : Nat} {a : Addr} {x : MethodName} {C : String} (pc' : Nat) (hd : decode c.code pc = .ok (.invokevirtual index, 3)) (hml : Ls.size = c.maxLocals) (w1 : (Jvm.Cond.methodLink own index x).before a0 Z = true) (w2 : (Jvm.Cond.declares x).before a0 Z = true) (w3 : (Jvm.Cond.selects C x y).before a0 Z = true) (w4 : (Jvm.Cond.instanceMethod y).before a0 Z = true) (hnf : ∀ s' : State, Z.Warmed39 s'.vm → NotFace s' x) (hy : x.cls ≠ "java/lang/invoke/MethodHandle" ∧ x.cls ≠ "java/lang/invoke/VarHandle") (E : Exa Z h a C)
    (argsL rest : List Value) (K : PayS EL a0 l R p e below args Z n0 y 3 W (.ref a :: argsL).toArray h ws F0 rc rs Q) (hlen : ∀ sig, parseMethodDescriptor x.desc = some sig → argsL.length = sig.parameters.length) (hst : st = argsL.reverse ++ .ref a :: rest) (hW : (rest.map fun v => v.category).sum ≤ W) (hc : cells + rc ≤ R.cells) (hs : slots + rs ≤ R.slots) (hws : Wrs Z n0 h0 ws0 h F ws) (hF0 : ∀ x ∈ F0, x ∈ F)
    (g : ∀ (v : Option Value) (T' : State) (h' : Heap) (L : List Loc), Sd true EL a0 p l e R s m args below meth c Z own n0 h0 ws0 T' h' F (locs ++ L) (cells + rc) (slots + rs) → Q v h' → Keep h h' ws → Go p e below P T' (mkF m pc' Ls (v.toList ++ rest))) (hp : pc + 3 = pc' := by rfl) : Go p e below P T (mkF m pc Ls st) := by
  subst hp hst
  obtain ⟨A, vm0, k0, hv, X, eT, hS, hk, hZ, hown, O, N, K0, C0, hF⟩ := S
  obtain ⟨cB, kB, q1, -, q3⟩ := isOf (s := s.setVm vm0) hZ eT E
  obtain ⟨v, vm₁, B, -, X', h2, gr, ⟨L, ⟨q, KK, NL⟩, l1, l2, l3, C1⟩, st'⟩ := X.virtualBackS A.1 hown (mvT (s := s.setVm vm0) hZ w1) (mvT (s := s.setVm vm0) hZ w2) (hnf (s.setVm vm0) hZ) (mvT (s := s.setVm vm0) hZ w3) (mvT (s := s.setVm vm0) hZ w4) hy (K s vm0 hZ A.2.2.1 C0.1 fun x hx => hF x (hF0 x hx)) q1 q3 (g := mkF m pc Ls (argsL.reverse ++ .ref a :: rest)) rfl hml (Steps.refl _) (argsL := argsL) (rest := rest) hlen rfl (by show 2 * 0 + _ ≤ _; omega) hd (fun _ _ => ⟨rfl, eT, hc, hs⟩)
  exact Go.by (fun _ z => st'.trans z) (g v B.U B.U.heap L (Sd.afterS (A := A) eT hS hk hZ hown O N K0 C0 hF hws X' h2 gr KK NL l1 l2 l3 C1) q KK)
end OwnKit
end Jvm.Pilot.@@N@@
namespace Jvm.Pilot.@@N@@
open Jvm Jvm.ClassFile Sem Op Lib Jvm.Free Jvm.Stand Jvm.LawKit Jvm.RoadKit Bundle Jvm.Pilot.@@N@@.Jvm.D
section OwnMore
variable {wd : Bool} {EL : List (String × Nat)} {a0 : Array Value} {p : Program} {l : Launch} {e : Env} {R : Room} {s : State} {m : MethodId} {args : Array Value} {below : List Frame} {meth : Method} {c : Code} {Z : State} {own : String} {n0 : Nat} {h0 : Heap} {ws0 : List Addr}
  {T T' : State} {h h' : Heap} {F F' : List Addr} {locs locs' : List Loc} {cells slots cells' slots' : Nat} {P : Outcome → State → Prop} {pc pc' : Nat} {Ls : Array Slot} {st rest : List Value}
theorem Sd.pop2J (S : Sd wd EL a0 p l e R s m args below meth c Z own n0 h0 ws0 T h F locs cells slots) {x : Int64} (pc' : Nat) (hd : decode c.code pc = .ok (.pop2, 1)) (g : Go p e below P T (mkF m pc' Ls st)) (hp : pc + 1 = pc' := by rfl) : Go p e below P T (mkF m pc Ls (.long x :: st)) := by
  subst hp
  refine Go.by (fun t q => ?_) g
  have H := S.at
  have hx := S.hx
  show Steps p.tables e below (T.setTop { method := m, pc := pc, locals := Ls, stack := .long x :: st, locked := none }) t
  jvm_step H [H.top, hx, hd, Value.category]
  exact q
theorem Sd.aaload (S : Sd wd EL a0 p l e R s m args below meth c Z own n0 h0 ws0 T h F locs cells slots) {a : Addr} {cl : Cell} {ty : FieldType} {v : Value} {j : Int32} (pc' : Nat) (hd : decode c.code pc = .ok (.aaload, 1)) (A : Arr Z h a cl ty) (hty : ty.isReference = true) (hin : ¬ (j < 0 ∨ cl.slots.size ≤ j.toNatClampNeg)) (hv' : cl.slots[j.toNatClampNeg]? = some v) (g : Go p e below P T (mkF m pc' Ls (v :: st))) (hp : pc + 1 = pc' := by rfl) : Go p e below P T (mkF m pc Ls (.int j :: .ref a :: st)) := by
  subst hp
  obtain ⟨A', vm0, k0, hv, X, eT, hS, hk, hZ, r⟩ := S
  exact Go.by (fun t z => X.aaload A'.1 (by rw [eT]; exact A.1) (State.isArrayOf_alike hZ.alike A.2.1) hty A.2.2 hin hv' (g := mkF m pc Ls (.int j :: .ref a :: st)) rfl rfl hd t z) g
theorem Sd.bastore (S : Sd wd EL a0 p l e R s m args below meth c Z own n0 h0 ws0 T h F locs cells slots) {a : Addr} {k : ClassId} {N : Int32} {vs : List Value} {dv : Value} {j x : Int32} (pc' i : Nat) (hd : decode c.code pc = .ok (.bastore, 1)) (V : Arv Z h a k .byte N vs dv) (hj : ¬ j < 0 ∧ j < N) (hi : j.toNatClampNeg = i) (hlt : i < vs.length) (wo : Wok n0 h0 ws0 a) (so : a ∈ F)
    (g : ∀ (T' : State) (h' : Heap) (locs' : List Loc), Sd wd EL a0 p l e R s m args below meth c Z own n0 h0 ws0 T' h' F locs' cells slots → Wr h h' a j.toNatClampNeg (.int (nar .byte x)) → Arv Z h' a k .byte N (vs.set i (.int (nar .byte x))) dv → Go p e below P T' (mkF m pc' Ls st)) (hp : pc + 1 = pc' := by rfl) : Go p e below P T (mkF m pc Ls (.int x :: .int j :: .ref a :: st)) := by
  subst hp
  have ge : n0 ≤ a := S.ge wo
  obtain ⟨A, vm0, k0, hv, X, eT, hS, hk, hZ, hown, O0, N0, K0, C0, hF⟩ := S
  obtain ⟨cl, Ar, q, S', M, H, G⟩ := V
  obtain ⟨T', h', X', e', W', st'⟩ := stB X A.1 hZ eT Ar (x := x) (inb_of S' hj) (g := mkF m pc Ls (.int x :: .int j :: .ref a :: st)) rfl rfl hd
  exact Go.by st' (g T' h' _ (Sd.close A hv X' e' hS hk hZ hown O0 (Fr.snoc X' N0 ge) K0 C0 hF (Keep.of_wr W') (fun y hy => by rw [List.mem_singleton.mp hy]; exact ⟨wo, (hF a so).1⟩) fun y hy => Or.inl hy) W' (Arv.set Ar q S' M H G (fits_nar_byte _) W' i hi hlt))
variable {y : MethodName} {as' : Array Value} {Q : Option Value → Heap → Prop} {W rc rs : Nat} {ws : List Addr}
/-- 'invokevirtual' of a method that a superclass of the named class declares -/
theorem Sd.vcallU (S : Sd wd EL a0 p l e R s m args below meth c Z own n0 h0 ws0 T h F locs cells slots) {index : Nat} {a : Addr} {x : MethodName} {C owner : String} (pc' : Nat) (hd : decode c.code pc = .ok (.invokevirtual index, 3)) (hml : Ls.size = c.maxLocals) (w1 : (Jvm.Cond.methodLink own index x).before a0 Z = true) (w2 : (Jvm.Cond.sameMethod x.cls owner x.name x.desc).before a0 Z = true) (w2' : (Jvm.Cond.declares ⟨owner, x.name, x.desc⟩).before a0 Z = true) (hy : owner ≠ "java/lang/invoke/MethodHandle" ∧ owner ≠ "java/lang/invoke/VarHandle") (w3 : (Jvm.Cond.selects C x y).before a0 Z = true) (w4 : (Jvm.Cond.instanceMethod y).before a0 Z = true) (E : Exa Z h a C)
    (argsL rest : List Value) (K : Pay l R p e below args Z s n0 y 3 W (.ref a :: argsL).toArray h ws rc rs Q) (hlen : ∀ sig, parseMethodDescriptor x.desc = some sig → argsL.length = sig.parameters.length) (hst : st = argsL.reverse ++ .ref a :: rest) (hW : (rest.map fun v => v.category).sum ≤ W) (hc : cells + rc ≤ R.cells) (hs : slots + rs ≤ R.slots) (hws : Wrs Z n0 h0 ws0 h F ws)
    (g : ∀ (v : Option Value) (T' : State) (h' : Heap) (L : List Loc), Sd wd EL a0 p l e R s m args below meth c Z own n0 h0 ws0 T' h' F (locs ++ L) (cells + rc) (slots + rs) → Q v h' → Keep h h' ws → Go p e below P T' (mkF m pc' Ls (v.toList ++ rest))) (hp : pc + 3 = pc' := by rfl) : Go p e below P T (mkF m pc Ls st) := by
  subst hp hst
  obtain ⟨A, vm0, k0, hv, X, eT, hS, hk, hZ, hown, O, N, K0, C0, hF⟩ := S
  obtain ⟨cB, kB, q1, -, q3⟩ := isOf (s := s.setVm vm0) hZ eT E
  obtain ⟨v, vm₁, B, -, X', ⟨L, ⟨q, KK, NL⟩, l1, l2, l3⟩, st'⟩ := X.virtualBackUp A.1 hown (mvT (s := s.setVm vm0) hZ w1) (mvT (s := s.setVm vm0) hZ w2) (mvT (s := s.setVm vm0) hZ w2') hy (mvT (s := s.setVm vm0) hZ w3) (mvT (s := s.setVm vm0) hZ w4) (K (s.setVm vm0) hZ hS.1.alike) q1 q3 (g := mkF m pc Ls (argsL.reverse ++ .ref a :: rest)) rfl hml (Steps.refl _) (argsL := argsL) (rest := rest) hlen rfl (by show 2 * 0 + _ ≤ _; omega) hd (fun _ _ => ⟨rfl, eT, hc, hs⟩)
  exact Go.by (fun _ z => st'.trans z) (g v B.U B.U.heap L (Sd.afterN (A := A) hv hS hk hZ hown O N K0 C0 hF hws X' KK NL l1 l2 l3) q KK)
/-- 'invokeinterface' -/
theorem Sd.fcall (S : Sd wd EL a0 p l e R s m args below meth c Z own n0 h0 ws0 T h F locs cells slots) {index count : Nat} {a : Addr} {x : MethodName} {C : String} (pc' : Nat) (hd : decode c.code pc = .ok (.invokeinterface index count, 5)) (hml : Ls.size = c.maxLocals) (w1 : (Jvm.Cond.methodLink own index x).before a0 Z = true) (w2 : (Jvm.Cond.declares x).before a0 Z = true) (w3 : (Jvm.Cond.interfaceMethod x.cls x.cls x.name x.desc).before a0 Z = true) (w4 : (Jvm.Cond.selects C x y).before a0 Z = true) (w5 : (Jvm.Cond.instanceMethod y).before a0 Z = true) (w6 : (Jvm.Cond.publicMethod y).before a0 Z = true) (w7 : (Jvm.Cond.unhidden C x.name x.desc).before a0 Z = true) (w8 : (Jvm.Cond.castable C x.cls).before a0 Z = true) (hy : x.cls ≠ "java/lang/invoke/MethodHandle" ∧ x.cls ≠ "java/lang/invoke/VarHandle") (E : Exa Z h a C)
    (argsL rest : List Value) (K : Pay l R p e below args Z s n0 y 5 W (.ref a :: argsL).toArray h ws rc rs Q) (hlen : ∀ sig, parseMethodDescriptor x.desc = some sig → argsL.length = sig.parameters.length) (hst : st = argsL.reverse ++ .ref a :: rest) (hW : (rest.map fun v => v.category).sum ≤ W) (hc : cells + rc ≤ R.cells) (hs : slots + rs ≤ R.slots) (hws : Wrs Z n0 h0 ws0 h F ws)
    (g : ∀ (v : Option Value) (T' : State) (h' : Heap) (L : List Loc), Sd wd EL a0 p l e R s m args below meth c Z own n0 h0 ws0 T' h' F (locs ++ L) (cells + rc) (slots + rs) → Q v h' → Keep h h' ws → Go p e below P T' (mkF m pc' Ls (v.toList ++ rest))) (hp : pc + 5 = pc' := by rfl) : Go p e below P T (mkF m pc Ls st) := by
  subst hp hst
  obtain ⟨A, vm0, k0, hv, X, eT, hS, hk, hZ, hown, O, N, K0, C0, hF⟩ := S
  obtain ⟨cB, kB, q1, q2, q3⟩ := isOf (s := s.setVm vm0) hZ eT E
  obtain ⟨v, vm₁, B, -, X', ⟨L, ⟨q, KK, NL⟩, l1, l2, l3⟩, st'⟩ := X.interfaceBack A.1 hown (mvT (s := s.setVm vm0) hZ w1) (mvT (s := s.setVm vm0) hZ w2) (mvT (s := s.setVm vm0) hZ w3 (show (x.cls == x.cls && x.cls != "java/lang/invoke/MethodHandle" && x.cls != "java/lang/invoke/VarHandle") = true by simp [hy.1, hy.2])) (mvT (s := s.setVm vm0) hZ w4) (mvT (s := s.setVm vm0) hZ w5) (mvT (s := s.setVm vm0) hZ w6) (mvT (s := s.setVm vm0) hZ w7) (mvT (s := s.setVm vm0) hZ w8) hy (K (s.setVm vm0) hZ hS.1.alike) q1 q2 q3 (g := mkF m pc Ls (argsL.reverse ++ .ref a :: rest)) rfl hml (Steps.refl _) (argsL := argsL) (rest := rest) hlen rfl (by show 2 * 0 + _ ≤ _; omega) hd (fun _ _ => ⟨rfl, eT, hc, hs⟩)
  exact Go.by (fun _ z => st'.trans z) (g v B.U B.U.heap L (Sd.afterN (A := A) hv hS hk hZ hown O N K0 C0 hF hws X' KK NL l1 l2 l3) q KK)
theorem Sd.instNull (S : Sd wd EL a0 p l e R s m args below meth c Z own n0 h0 ws0 T h F locs cells slots) {index : Nat} (pc' : Nat) (hd : decode c.code pc = .ok (.instanceof index, 3)) (g : Go p e below P T (mkF m pc' Ls (.int 0 :: st))) (hp : pc + 3 = pc' := by rfl) : Go p e below P T (mkF m pc Ls (.null :: st)) := by
  subst hp
  obtain ⟨A, vm0, k0, hv, X, r⟩ := S
  exact Go.by (fun t z => X.instanceofNull A.1 (g := mkF m pc Ls (.null :: st)) rfl rfl hd t z) g
/-- where no literal is kept track of, any place is safe -/
theorem Sd.addF (S : Sd wd [] a0 p l e R s m args below meth c Z own n0 h0 ws0 T h F locs cells slots) {x : Addr} (hx : x < h.size) : Sd wd [] a0 p l e R s m args below meth c Z own n0 h0 ws0 T h (x :: F) locs cells slots := by
  obtain ⟨A, vm0, k0, hv, X, eT, hS, hk, hZ, hown, O, N, K0, C0, hF⟩ := S
  exact ⟨A, vm0, k0, hv, X, eT, hS, hk, hZ, hown, O, N, K0, C0, fun y hy => by
    rcases List.mem_cons.mp hy with rfl | q
    · exact ⟨safe0, hx⟩
    · exact hF y q⟩
theorem Pay.weak {len : Nat} {Q' : Option Value → Heap → Prop} (P : Pay l R p e below args Z s n0 y len W as' h ws rc rs Q) (q : ∀ v h', Q v h' → Q' v h') : Pay l R p e below args Z s n0 y len W as' h ws rc rs Q' :=
  fun s' hZ hal => Back.mono (P s' hZ hal) (fun _ _ z => z) fun _ _ _ _ _ ⟨L, ⟨q1, q2⟩, r⟩ => ⟨L, ⟨q _ _ q1, q2⟩, r⟩
theorem Pay.mono {len rc' rs' : Nat} (P : Pay l R p e below args Z s n0 y len W as' h ws rc rs Q) (h1 : rc ≤ rc') (h2 : rs ≤ rs') : Pay l R p e below args Z s n0 y len W as' h ws rc' rs' Q := by
  intro s' hZ hal m meth c A g ig mk a X hg hsize hd hW hn hp
  obtain ⟨v, B, X', ⟨L, q, l1, l2, l3⟩, st⟩ := P s' hZ hal m meth c A g ig mk a X hg hsize hd hW hn ⟨hp.1, hp.2.1, Nat.le_trans (Nat.add_le_add_left h1 _) hp.2.2.1, Nat.le_trans (Nat.add_le_add_left h2 _) hp.2.2.2⟩
  refine ⟨v, ⟨B.U, B.locs, A.cells + rc', A.slots + rs'⟩, ?_, ⟨L, q, l1, rfl, rfl⟩, st⟩
  rw [l2, l3] at X'
  exact { X' with same := X'.same.mono (Nat.add_le_add_left h1 _) (Nat.add_le_add_left h2 _) }
theorem eqJ {t : Term} {z : Int64} (q : (Jvm.Cond.eq t (.long z)).value args Z none Z [] = some true) : t.eval args Z none [] Z = some (.long z) := by
  obtain ⟨x, y, e1, e2, k1, k2⟩ := cmp_v (Or.inl q)
  rw [long_at] at e2
  cases e2
  obtain ⟨w, rfl⟩ : ∃ w, x = .long w := k2
  have := gotT (eq_L e1 (long_at z)) q
  rw [e1, this]
theorem eqI {t : Term} {z : Int32} (q : (Jvm.Cond.eq t (.int z)).value args Z none Z [] = some true) : t.eval args Z none [] Z = some (.int z) := by
  obtain ⟨x, y, e1, e2, k1, k2⟩ := cmp_v (Or.inl q)
  rw [Term.int_eval] at e2
  cases e2
  obtain ⟨w, rfl⟩ : ∃ w, x = .int w := k2
  have := gotT (Cond.eq_ints e1 (Term.int_eval z)) q
  rw [e1, this]
/-- the object that a word names, and one field of it -/
theorem fldAt {t : Term} {C n d : String} {a : Addr} {v : Value} (ht : t.eval args Z none [] Z = some (.ref a)) (q : (Term.field t C n d).eval args Z none [] Z = some v) : Fld Z Z.heap a C n d v := Fld.start (by rw [← fld_at (C := C) (n := n) (dd := d) ht]; exact q)
theorem lenAt {t : Term} {a : Addr} {cl : Cell} {z : Int32} (ht : t.eval args Z none [] Z = some (.ref a)) (hc : Z.heap[a]? = some cl) (q : (Term.length t).eval args Z none [] Z = some (.int z)) : cl.slots.size < 2 ^ 31 ∧ cl.slots.size.toInt32 = z := by
  cases hA : Z.arrayAt? a with
  | none => simp [Term.eval, ht, hA] at q
  | some c2 =>
    have hc2 : c2 = cl := Option.some.inj ((State.arrayAt?_spec hA).1.symm.trans hc)
    subst hc2
    by_cases hl : c2.slots.size < 2 ^ 31
    · refine ⟨hl, ?_⟩
      simpa [Term.eval, ht, hA, hl] using q
    · simp [Term.eval, ht, hA, hl] at q
end OwnMore
end Jvm.Pilot.@@N@@
namespace Jvm.Pilot.@@N@@
open Jvm Jvm.ClassFile Sem Op Lib Jvm.Free Jvm.Stand Jvm.LawKit Jvm.RoadKit Bundle Jvm.Pilot.@@N@@.Jvm.D
theorem Tw {a0 : Array Value} {Z : State} (hw : ∀ d ∈ tables_1, d.before a0 Z = true) (i : Nat) {d : Jvm.Cond} (h : tables_1[i]? = some d) : d.before a0 Z = true := hw d (List.mem_of_getElem? h)
theorem Nle {a b : Nat} (h : Nat.ble a b = true) : a ≤ b := Nat.le_of_ble_eq_true h
/-- one of ChronoField's constants, with its range -/
def Cf (Z : State) (n : String) (mn mx : Int64) : Prop := ∃ a r, Sta Z Z.heap "java/time/temporal/ChronoField" n "Ljava/time/temporal/ChronoField;" (.ref a) ∧ Exa Z Z.heap a "java/time/temporal/ChronoField" ∧ Fld Z Z.heap a "java/time/temporal/ChronoField" "range" "Ljava/time/temporal/ValueRange;" (.ref r) ∧ Exa Z Z.heap r "java/time/temporal/ValueRange" ∧ Fld Z Z.heap r "java/time/temporal/ValueRange" "minSmallest" "J" (.long mn) ∧ Fld Z Z.heap r "java/time/temporal/ValueRange" "maxLargest" "J" (.long mx)
/-- LocalTime's table of the full hours -/
def Hrs (Z : State) : Prop := ∃ ar cl, Sta Z Z.heap "java/time/LocalTime" "HOURS" "[Ljava/time/LocalTime;" (.ref ar) ∧ Arr Z Z.heap ar cl (.object "java/time/LocalTime") ∧ cl.slots.size = 24 ∧ ∀ i, i < 24 → ∃ b, cl.slots[i]? = some (.ref b) ∧ Exa Z Z.heap b "java/time/LocalTime" ∧ Fld Z Z.heap b "java/time/LocalTime" "hour" "B" (.int (Int32.ofNat i)) ∧ Fld Z Z.heap b "java/time/LocalTime" "minute" "B" (.int 0) ∧ Fld Z Z.heap b "java/time/LocalTime" "second" "B" (.int 0)
def Us (Z : State) : Prop := Sta Z Z.heap "com/example/astraea/astraea/model/Usage" "QUARTER_HOUR_SECONDS" "J" (.long 900) ∧ Sta Z Z.heap "com/example/astraea/astraea/model/Usage" "QUARTER_HOURS_A_DAY" "I" (.int 96)
/-- between 0 and d - 1 -/
def Bd (x : Int32) (d : Int) : Prop := 0 ≤ x.toInt ∧ x.toInt < d
theorem own_mod (x y : Int32) (d : Int) (hy : y.toInt = d) (hd : 0 < d) : Bd ((x &&& (2147483647 : Int32)) % y) d := by
  have q := (c_and x 2147483647 (by decide)).1
  have r := (c_iremV (x &&& (2147483647 : Int32)) y).1 q (by omega)
  exact ⟨r.1, by omega⟩
theorem own_ge {x : Int32} {d : Int} (b : Bd x d) : ¬ x.toInt64 < (0 : Int64) := fun q => by
  rw [Int64.lt_iff_toInt_lt, c_i2l] at q
  have e : (0 : Int64).toInt = 0 := rfl
  have := b.1
  omega
theorem own_le {x : Int32} {d : Int} (b : Bd x d) (k : Int64) (hk : k.toInt = d - 1) : ¬ k < x.toInt64 := fun q => by
  rw [Int64.lt_iff_toInt_lt, c_i2l] at q
  have := b.2
  omega
theorem own_b8 {x : Int32} {d : Int} (b : Bd x d) (hd : d ≤ 128) : x.toInt8.toInt32 = x := by
  have q := c_i2b x
  have b1 := b.1
  have b2 := b.2
  apply Int32.toInt_inj.mp
  omega
theorem own_fit8 {x : Int32} (e : x.toInt8.toInt32 = x) : fits .byte (.int x) = true := by
  rw [← e]; exact fits_nar_byte x
theorem own_nar8 {x : Int32} (e : x.toInt8.toInt32 = x) : narrow .byte (.int x) = .int x := by
  show Value.int x.toInt8.toInt32 = .int x
  rw [e]
theorem own_or0 {x y : Int32} (q : (x ||| y) = 0) : x = 0 ∧ y = 0 := by
  have q' : x.toBitVec ||| y.toBitVec = 0#32 := by
    have := congrArg Int32.toBitVec q
    simpa using this
  rw [BitVec.or_eq_zero_iff] at q'
  exact ⟨Int32.toBitVec_inj.mp (by simpa using q'.1), Int32.toBitVec_inj.mp (by simpa using q'.2)⟩
theorem own_xor {x y : Int64} (hx : ¬ x < 0) (hy : ¬ y < 0) : ¬ (x ^^^ y) < 0 := by
  have t : ∀ z : Int64, z < 0 ↔ z.toBitVec.msb = true := fun z => by
    rw [Int64.lt_iff_toInt_lt]
    show z.toBitVec.toInt < 0 ↔ _
    rw [BitVec.toInt_neg_iff]
    rw [BitVec.msb_eq_decide]
    simp
    omega
  rw [t] at hx hy ⊢
  rw [Int64.toBitVec_xor, BitVec.msb_xor]
  simp_all

theorem own_ef_1 (m : MethodId) (x0 : Addr) : entryFrame m #[(.ref x0)] 1 = mkF m 0 #[.val (.ref x0)] [] := by rfl
theorem own_d_jdk_2423_method_6_code_0 : decode jdk_2423_method_6_code 0 = .ok (.aload_n 0, 1) := by decide +kernel
theorem own_d_jdk_2423_method_6_code_1 : decode jdk_2423_method_6_code 1 = .ok (.getfield 33, 3) := by decide +kernel
theorem own_d_jdk_2423_method_6_code_4 : decode jdk_2423_method_6_code 4 = .ok (.lreturn, 1) := by decide +kernel
theorem own_pn_2 : plainName "java/time/temporal/ValueRange" = true := by first | (simp [plainName, overriddenIn]; done) | decide +kernel
set_option maxRecDepth 65536 in
set_option maxHeartbeats 4000000 in
theorem own_min (l : Launch) (Z : State) (a0 : Array Value) (hw : ∀ d ∈ tables_1, d.before a0 Z = true) (h0 : Heap) (n0 : Nat) (O : Old Z n0 h0) (a : Addr) (z : Int64) (F : Fld Z h0 a "java/time/temporal/ValueRange" "minSmallest" "J" (.long z)) :
    Con l Z n0 (⟨"java/time/temporal/ValueRange", "getMinimum", "()J"⟩ : MethodName) jdk_2423_method_6_code 1 (some .long) [] ({ frames := 0, cells := 0, slots := 0, locals := 0 } : Room) #[(.ref a)] h0 [] (fun v h' => v = some (.long z) ∧ h' = h0) := by
  refine Con.of a0 (plainFor_of_name own_pn_2) O (fun _ q => nomatch q) [] (fun _ q => nomatch q) ?_
  intro p e s m below meth cdX T S hby hml hret hnm
  refine Go.cast (own_ef_1 m a) ?_
  refine S.aloadN 1 (hb hby own_d_jdk_2423_method_6_code_0) rfl rfl ?_
  refine S.getf (host := "") 4 (hb hby own_d_jdk_2423_method_6_code_1) (Or.inl (Tw hw 36 rfl)) Via.refl F ?_
  intro T1 S2
  exact S2.retJ (hb hby own_d_jdk_2423_method_6_code_4) hret (by decide) (by decide) ⟨rfl, rfl⟩

theorem own_d_jdk_2423_method_9_code_0 : decode jdk_2423_method_9_code 0 = .ok (.aload_n 0, 1) := by decide +kernel
theorem own_d_jdk_2423_method_9_code_1 : decode jdk_2423_method_9_code 1 = .ok (.getfield 43, 3) := by decide +kernel
theorem own_d_jdk_2423_method_9_code_4 : decode jdk_2423_method_9_code 4 = .ok (.lreturn, 1) := by decide +kernel
set_option maxRecDepth 65536 in
set_option maxHeartbeats 4000000 in
theorem own_max (l : Launch) (Z : State) (a0 : Array Value) (hw : ∀ d ∈ tables_1, d.before a0 Z = true) (h0 : Heap) (n0 : Nat) (O : Old Z n0 h0) (a : Addr) (z : Int64) (F : Fld Z h0 a "java/time/temporal/ValueRange" "maxLargest" "J" (.long z)) :
    Con l Z n0 (⟨"java/time/temporal/ValueRange", "getMaximum", "()J"⟩ : MethodName) jdk_2423_method_9_code 1 (some .long) [] ({ frames := 0, cells := 0, slots := 0, locals := 0 } : Room) #[(.ref a)] h0 [] (fun v h' => v = some (.long z) ∧ h' = h0) := by
  refine Con.of a0 (plainFor_of_name own_pn_2) O (fun _ q => nomatch q) [] (fun _ q => nomatch q) ?_
  intro p e s m below meth cdX T S hby hml hret hnm
  refine Go.cast (own_ef_1 m a) ?_
  refine S.aloadN 1 (hb hby own_d_jdk_2423_method_9_code_0) rfl rfl ?_
  refine S.getf (host := "") 4 (hb hby own_d_jdk_2423_method_9_code_1) (Or.inl (Tw hw 43 rfl)) Via.refl F ?_
  intro T3 S4
  exact S4.retJ (hb hby own_d_jdk_2423_method_9_code_4) hret (by decide) (by decide) ⟨rfl, rfl⟩

theorem own_d_jdk_2395_method_8_code_0 : decode jdk_2395_method_8_code 0 = .ok (.aload_n 0, 1) := by decide +kernel
theorem own_d_jdk_2395_method_8_code_1 : decode jdk_2395_method_8_code 1 = .ok (.getfield 124, 3) := by decide +kernel
theorem own_d_jdk_2395_method_8_code_4 : decode jdk_2395_method_8_code 4 = .ok (.areturn, 1) := by decide +kernel
theorem own_pn_3 : plainName "java/time/temporal/ChronoField" = true := by first | (simp [plainName, overriddenIn]; done) | decide +kernel
set_option maxRecDepth 65536 in
set_option maxHeartbeats 4000000 in
theorem own_range (l : Launch) (Z : State) (a0 : Array Value) (hw : ∀ d ∈ tables_1, d.before a0 Z = true) (h0 : Heap) (n0 : Nat) (O : Old Z n0 h0) (a : Addr) (r : Addr) (F : Fld Z h0 a "java/time/temporal/ChronoField" "range" "Ljava/time/temporal/ValueRange;" (.ref r)) :
    Con l Z n0 (⟨"java/time/temporal/ChronoField", "range", "()Ljava/time/temporal/ValueRange;"⟩ : MethodName) jdk_2395_method_8_code 1 (some (.object "java/time/temporal/ValueRange")) [] ({ frames := 0, cells := 0, slots := 0, locals := 0 } : Room) #[(.ref a)] h0 [] (fun v h' => v = some (.ref r) ∧ h' = h0) := by
  refine Con.of a0 (plainFor_of_name own_pn_3) O (fun _ q => nomatch q) [] (fun _ q => nomatch q) ?_
  intro p e s m below meth cdX T S hby hml hret hnm
  refine Go.cast (own_ef_1 m a) ?_
  refine S.aloadN 1 (hb hby own_d_jdk_2395_method_8_code_0) rfl rfl ?_
  refine S.getf (host := "") 4 (hb hby own_d_jdk_2395_method_8_code_1) (Or.inl (Tw hw 18 rfl)) Via.refl F ?_
  intro T5 S6
  exact S6.retA (hb hby own_d_jdk_2395_method_8_code_4) hret rfl rfl (by decide) (by decide) ⟨rfl, rfl⟩

theorem own_ef_4 (m : MethodId) (x0 : Addr) (x1 : Int64) : entryFrame m #[(.ref x0), (.long x1)] 3 = mkF m 0 #[.val (.ref x0), .val (.long x1), .second] [] := by rfl
theorem own_d_jdk_2423_method_11_code_0 : decode jdk_2423_method_11_code 0 = .ok (.lload_n 1, 1) := by decide +kernel
theorem own_d_jdk_2423_method_11_code_1 : decode jdk_2423_method_11_code 1 = .ok (.aload_n 0, 1) := by decide +kernel
theorem own_d_jdk_2423_method_11_code_2 : decode jdk_2423_method_11_code 2 = .ok (.invokevirtual 46, 3) := by decide +kernel
theorem own_pd_5 : parseMethodDescriptor "()J" = some ⟨[], some .long⟩ := by decide +kernel
theorem own_d_jdk_2423_method_11_code_5 : decode jdk_2423_method_11_code 5 = .ok (.lcmp, 1) := by decide +kernel
theorem own_d_jdk_2423_method_11_code_6 : decode jdk_2423_method_11_code 6 = .ok (.ifCond .lt 16, 3) := by decide +kernel
theorem own_d_jdk_2423_method_11_code_9 : decode jdk_2423_method_11_code 9 = .ok (.lload_n 1, 1) := by decide +kernel
theorem own_d_jdk_2423_method_11_code_10 : decode jdk_2423_method_11_code 10 = .ok (.aload_n 0, 1) := by decide +kernel
theorem own_d_jdk_2423_method_11_code_11 : decode jdk_2423_method_11_code 11 = .ok (.invokevirtual 54, 3) := by decide +kernel
theorem own_d_jdk_2423_method_11_code_14 : decode jdk_2423_method_11_code 14 = .ok (.lcmp, 1) := by decide +kernel
theorem own_d_jdk_2423_method_11_code_15 : decode jdk_2423_method_11_code 15 = .ok (.ifCond .gt 7, 3) := by decide +kernel
theorem own_d_jdk_2423_method_11_code_18 : decode jdk_2423_method_11_code 18 = .ok (.iconst 1, 1) := by decide +kernel
theorem own_d_jdk_2423_method_11_code_19 : decode jdk_2423_method_11_code 19 = .ok (.goto 4, 3) := by decide +kernel
theorem own_d_jdk_2423_method_11_code_23 : decode jdk_2423_method_11_code 23 = .ok (.ireturn, 1) := by decide +kernel
set_option maxRecDepth 65536 in
set_option maxHeartbeats 4000000 in
theorem own_valid (l : Launch) (Z : State) (a0 : Array Value) (hw : ∀ d ∈ tables_1, d.before a0 Z = true) (h0 : Heap) (n0 : Nat) (O : Old Z n0 h0) (r : Addr) (mn : Int64) (mx : Int64) (z : Int64) (E : Exa Z h0 r "java/time/temporal/ValueRange") (F1 : Fld Z h0 r "java/time/temporal/ValueRange" "minSmallest" "J" (.long mn)) (F2 : Fld Z h0 r "java/time/temporal/ValueRange" "maxLargest" "J" (.long mx)) (g1 : ¬ z < mn) (g2 : ¬ mx < z) :
    Con l Z n0 (⟨"java/time/temporal/ValueRange", "isValidValue", "(J)Z"⟩ : MethodName) jdk_2423_method_11_code 3 (some .boolean) [] ({ frames := 1, cells := 0, slots := 0, locals := 20 } : Room) #[(.ref r), (.long z)] h0 [] (fun v h' => v = some (.int 1) ∧ h' = h0) := by
  refine Con.of a0 (plainFor_of_name own_pn_2) O (fun _ q => nomatch q) [] (fun _ q => nomatch q) ?_
  intro p e s m below meth cdX T S hby hml hret hnm
  refine Go.cast (own_ef_4 m r z) ?_
  refine S.lloadN 1 (hb hby own_d_jdk_2423_method_11_code_0) rfl ?_
  refine S.aloadN 2 (hb hby own_d_jdk_2423_method_11_code_1) rfl rfl ?_
  refine S.vcall 5 (hb hby own_d_jdk_2423_method_11_code_2) (by rw [hml]; rfl) (Tw hw 31 rfl) (Tw hw 32 rfl) (Tw hw 34 rfl) (Tw hw 33 rfl) (nfSel (Tw hw 34 rfl)) (by decide) E [] [(.long z)] (Con.pay (W := 2) (own_min l Z a0 hw h0 n0 S.old r mn F1) (Tw hw 35 rfl) (Tw hw 24 rfl) (by decide) (by decide)) (lenOf own_pd_5 rfl) rfl (Nle rfl) (by decide) (by decide) Wrs.nil ?_
  intro v7 T8 h9 L10 S11 q12 K13
  obtain ⟨rfl, e_q12⟩ := q12
  obtain rfl := e_q12.symm
  show Go p e below _ T8 (mkF m 5 #[.val (.ref r), .val (.long z), .second] [(.long mn), (.long z)])
  refine S11.lcmp 6 (hb hby own_d_jdk_2423_method_11_code_5) ?_
  show Go p e below _ T8 (mkF m 6 #[.val (.ref r), .val (.long z), .second] [(.int (lcmpW z mn))])
  refine S11.ifN 9 (hb hby own_d_jdk_2423_method_11_code_6) (zLtF (fun q => g1 ((lw_lt _ _).mp q))) ?_
  refine S11.lloadN 10 (hb hby own_d_jdk_2423_method_11_code_9) rfl ?_
  refine S11.aloadN 11 (hb hby own_d_jdk_2423_method_11_code_10) rfl rfl ?_
  refine S11.vcall 14 (hb hby own_d_jdk_2423_method_11_code_11) (by rw [hml]; rfl) (Tw hw 38 rfl) (Tw hw 39 rfl) (Tw hw 41 rfl) (Tw hw 40 rfl) (nfSel (Tw hw 41 rfl)) (by decide) E [] [(.long z)] (Con.pay (W := 2) (own_max l Z a0 hw h0 n0 S11.old r mx F2) (Tw hw 42 rfl) (Tw hw 24 rfl) (by decide) (by decide)) (lenOf own_pd_5 rfl) rfl (Nle rfl) (by decide) (by decide) Wrs.nil ?_
  intro v14 T15 h16 L17 S18 q19 K20
  obtain ⟨rfl, e_q19⟩ := q19
  obtain rfl := e_q19.symm
  show Go p e below _ T15 (mkF m 14 #[.val (.ref r), .val (.long z), .second] [(.long mx), (.long z)])
  refine S18.lcmp 15 (hb hby own_d_jdk_2423_method_11_code_14) ?_
  show Go p e below _ T15 (mkF m 15 #[.val (.ref r), .val (.long z), .second] [(.int (lcmpW z mx))])
  refine S18.ifN 18 (hb hby own_d_jdk_2423_method_11_code_15) (zGtF (fun q => g2 ((lw_gt _ _).mp q))) ?_
  refine S18.iconst 19 (1 : Int32) (hb hby own_d_jdk_2423_method_11_code_18) ?_
  refine S18.goto 23 (hb hby own_d_jdk_2423_method_11_code_19) ?_
  exact S18.retN (t := .boolean) (hb hby own_d_jdk_2423_method_11_code_23) hret (by decide) (by decide) (by decide) ⟨rfl, rfl⟩

theorem own_ef_6 (m : MethodId) (x0 : Addr) (x1 : Int64) (x2 : Addr) : entryFrame m #[(.ref x0), (.long x1), (.ref x2)] 4 = mkF m 0 #[.val (.ref x0), .val (.long x1), .second, .val (.ref x2)] [] := by rfl
theorem own_d_jdk_2423_method_13_code_0 : decode jdk_2423_method_13_code 0 = .ok (.aload_n 0, 1) := by decide +kernel
theorem own_d_jdk_2423_method_13_code_1 : decode jdk_2423_method_13_code 1 = .ok (.lload_n 1, 1) := by decide +kernel
theorem own_d_jdk_2423_method_13_code_2 : decode jdk_2423_method_13_code 2 = .ok (.invokevirtual 63, 3) := by decide +kernel
theorem own_pd_7 : parseMethodDescriptor "(J)Z" = some ⟨[.long], some .boolean⟩ := by decide +kernel
theorem own_d_jdk_2423_method_13_code_5 : decode jdk_2423_method_13_code 5 = .ok (.ifCond .ne 17, 3) := by decide +kernel
theorem own_d_jdk_2423_method_13_code_22 : decode jdk_2423_method_13_code 22 = .ok (.lload_n 1, 1) := by decide +kernel
theorem own_d_jdk_2423_method_13_code_23 : decode jdk_2423_method_13_code 23 = .ok (.lreturn, 1) := by decide +kernel
set_option maxRecDepth 65536 in
set_option maxHeartbeats 4000000 in
theorem own_check (l : Launch) (Z : State) (a0 : Array Value) (hw : ∀ d ∈ tables_1, d.before a0 Z = true) (h0 : Heap) (n0 : Nat) (O : Old Z n0 h0) (r : Addr) (mn : Int64) (mx : Int64) (z : Int64) (f : Addr) (E : Exa Z h0 r "java/time/temporal/ValueRange") (F1 : Fld Z h0 r "java/time/temporal/ValueRange" "minSmallest" "J" (.long mn)) (F2 : Fld Z h0 r "java/time/temporal/ValueRange" "maxLargest" "J" (.long mx)) (g1 : ¬ z < mn) (g2 : ¬ mx < z) :
    Con l Z n0 (⟨"java/time/temporal/ValueRange", "checkValidValue", "(JLjava/time/temporal/TemporalField;)J"⟩ : MethodName) jdk_2423_method_13_code 4 (some .long) [] ({ frames := 2, cells := 0, slots := 0, locals := 40 } : Room) #[(.ref r), (.long z), (.ref f)] h0 [] (fun v h' => v = some (.long z) ∧ h' = h0) := by
  refine Con.of a0 (plainFor_of_name own_pn_2) O (fun _ q => nomatch q) [] (fun _ q => nomatch q) ?_
  intro p e s m below meth cdX T S hby hml hret hnm
  refine Go.cast (own_ef_6 m r z f) ?_
  refine S.aloadN 1 (hb hby own_d_jdk_2423_method_13_code_0) rfl rfl ?_
  refine S.lloadN 2 (hb hby own_d_jdk_2423_method_13_code_1) rfl ?_
  refine S.vcall 5 (hb hby own_d_jdk_2423_method_13_code_2) (by rw [hml]; rfl) (Tw hw 26 rfl) (Tw hw 27 rfl) (Tw hw 29 rfl) (Tw hw 28 rfl) (nfSel (Tw hw 29 rfl)) (by decide) E [(.long z)] [] (Con.pay (W := 0) (own_valid l Z a0 hw h0 n0 S.old r mn mx z E F1 F2 g1 g2) (Tw hw 30 rfl) (Tw hw 24 rfl) (by decide) (by decide)) (lenOf own_pd_7 rfl) rfl (Nle rfl) (by decide) (by decide) Wrs.nil ?_
  intro v21 T22 h23 L24 S25 q26 K27
  obtain ⟨rfl, e_q26⟩ := q26
  obtain rfl := e_q26.symm
  show Go p e below _ T22 (mkF m 5 #[.val (.ref r), .val (.long z), .second, .val (.ref f)] [(.int (1 : Int32))])
  refine S25.ifY 22 (hb hby own_d_jdk_2423_method_13_code_5) (zNeT (by decide)) ?_
  refine S25.lloadN 23 (hb hby own_d_jdk_2423_method_13_code_22) rfl ?_
  exact S25.retJ (hb hby own_d_jdk_2423_method_13_code_23) hret (by decide) (by decide) ⟨rfl, rfl⟩

theorem own_d_jdk_2395_method_11_code_0 : decode jdk_2395_method_11_code 0 = .ok (.aload_n 0, 1) := by decide +kernel
theorem own_d_jdk_2395_method_11_code_1 : decode jdk_2395_method_11_code 1 = .ok (.invokevirtual 190, 3) := by decide +kernel
theorem own_pd_8 : parseMethodDescriptor "()Ljava/time/temporal/ValueRange;" = some ⟨[], some (.object "java/time/temporal/ValueRange")⟩ := by decide +kernel
theorem own_d_jdk_2395_method_11_code_4 : decode jdk_2395_method_11_code 4 = .ok (.lload_n 1, 1) := by decide +kernel
theorem own_d_jdk_2395_method_11_code_5 : decode jdk_2395_method_11_code 5 = .ok (.aload_n 0, 1) := by decide +kernel
theorem own_d_jdk_2395_method_11_code_6 : decode jdk_2395_method_11_code 6 = .ok (.invokevirtual 193, 3) := by decide +kernel
theorem own_pd_9 : parseMethodDescriptor "(JLjava/time/temporal/TemporalField;)J" = some ⟨[.long, (.object "java/time/temporal/TemporalField")], some .long⟩ := by decide +kernel
theorem own_d_jdk_2395_method_11_code_9 : decode jdk_2395_method_11_code 9 = .ok (.lreturn, 1) := by decide +kernel
set_option maxRecDepth 65536 in
set_option maxHeartbeats 4000000 in
theorem own_check2 (l : Launch) (Z : State) (a0 : Array Value) (hw : ∀ d ∈ tables_1, d.before a0 Z = true) (h0 : Heap) (n0 : Nat) (O : Old Z n0 h0) (a : Addr) (r : Addr) (mn : Int64) (mx : Int64) (z : Int64) (EA : Exa Z h0 a "java/time/temporal/ChronoField") (FR : Fld Z h0 a "java/time/temporal/ChronoField" "range" "Ljava/time/temporal/ValueRange;" (.ref r)) (E : Exa Z h0 r "java/time/temporal/ValueRange") (F1 : Fld Z h0 r "java/time/temporal/ValueRange" "minSmallest" "J" (.long mn)) (F2 : Fld Z h0 r "java/time/temporal/ValueRange" "maxLargest" "J" (.long mx)) (g1 : ¬ z < mn) (g2 : ¬ mx < z) :
    Con l Z n0 (⟨"java/time/temporal/ChronoField", "checkValidValue", "(J)J"⟩ : MethodName) jdk_2395_method_11_code 3 (some .long) [] ({ frames := 3, cells := 0, slots := 0, locals := 60 } : Room) #[(.ref a), (.long z)] h0 [] (fun v h' => v = some (.long z) ∧ h' = h0) := by
  refine Con.of a0 (plainFor_of_name own_pn_3) O (fun _ q => nomatch q) [] (fun _ q => nomatch q) ?_
  intro p e s m below meth cdX T S hby hml hret hnm
  refine Go.cast (own_ef_4 m a z) ?_
  refine S.aloadN 1 (hb hby own_d_jdk_2395_method_11_code_0) rfl rfl ?_
  refine S.vcall 4 (hb hby own_d_jdk_2395_method_11_code_1) (by rw [hml]; rfl) (Tw hw 13 rfl) (Tw hw 14 rfl) (Tw hw 16 rfl) (Tw hw 15 rfl) (nfSel (Tw hw 16 rfl)) (by decide) EA [] [] (Con.pay (W := 0) (own_range l Z a0 hw h0 n0 S.old a r FR) (Tw hw 17 rfl) (Tw hw 7 rfl) (by decide) (by decide)) (lenOf own_pd_8 rfl) rfl (Nle rfl) (by decide) (by decide) Wrs.nil ?_
  intro v28 T29 h30 L31 S32 q33 K34
  obtain ⟨rfl, e_q33⟩ := q33
  obtain rfl := e_q33.symm
  show Go p e below _ T29 (mkF m 4 #[.val (.ref a), .val (.long z), .second] [(.ref r)])
  refine S32.lloadN 5 (hb hby own_d_jdk_2395_method_11_code_4) rfl ?_
  refine S32.aloadN 6 (hb hby own_d_jdk_2395_method_11_code_5) rfl rfl ?_
  refine S32.vcall 9 (hb hby own_d_jdk_2395_method_11_code_6) (by rw [hml]; rfl) (Tw hw 20 rfl) (Tw hw 21 rfl) (Tw hw 23 rfl) (Tw hw 22 rfl) (nfSel (Tw hw 23 rfl)) (by decide) E [(.long z), (.ref a)] [] (Con.pay (W := 0) (own_check l Z a0 hw h0 n0 S32.old r mn mx z a E F1 F2 g1 g2) (Tw hw 25 rfl) (Tw hw 24 rfl) (by decide) (by decide)) (lenOf own_pd_9 rfl) rfl (Nle rfl) (by decide) (by decide) Wrs.nil ?_
  intro v35 T36 h37 L38 S39 q40 K41
  obtain ⟨rfl, e_q40⟩ := q40
  obtain rfl := e_q40.symm
  show Go p e below _ T36 (mkF m 9 #[.val (.ref a), .val (.long z), .second] [(.long z)])
  exact S39.retJ (hb hby own_d_jdk_2395_method_11_code_9) hret (by decide) (by decide) ⟨rfl, rfl⟩

theorem own_ef_10 (m : MethodId) (x0 : Addr) (x1 : Int32) (x2 : Int32) (x3 : Int32) (x4 : Int32) : entryFrame m #[(.ref x0), (.int x1), (.int x2), (.int x3), (.int x4)] 5 = mkF m 0 #[.val (.ref x0), .val (.int x1), .val (.int x2), .val (.int x3), .val (.int x4)] [] := by rfl
theorem own_d_jdk_2327_method_14_code_0 : decode jdk_2327_method_14_code 0 = .ok (.aload_n 0, 1) := by decide +kernel
theorem own_d_jdk_2327_method_14_code_1 : decode jdk_2327_method_14_code 1 = .ok (.invokespecial 191, 3) := by decide +kernel
theorem own_d_jdk_2327_method_14_code_4 : decode jdk_2327_method_14_code 4 = .ok (.aload_n 0, 1) := by decide +kernel
theorem own_d_jdk_2327_method_14_code_5 : decode jdk_2327_method_14_code 5 = .ok (.iload_n 1, 1) := by decide +kernel
theorem own_d_jdk_2327_method_14_code_6 : decode jdk_2327_method_14_code 6 = .ok (.i2b, 1) := by decide +kernel
theorem own_d_jdk_2327_method_14_code_7 : decode jdk_2327_method_14_code 7 = .ok (.putfield 194, 3) := by decide +kernel
theorem own_d_jdk_2327_method_14_code_10 : decode jdk_2327_method_14_code 10 = .ok (.aload_n 0, 1) := by decide +kernel
theorem own_d_jdk_2327_method_14_code_11 : decode jdk_2327_method_14_code 11 = .ok (.iload_n 2, 1) := by decide +kernel
theorem own_d_jdk_2327_method_14_code_12 : decode jdk_2327_method_14_code 12 = .ok (.i2b, 1) := by decide +kernel
theorem own_d_jdk_2327_method_14_code_13 : decode jdk_2327_method_14_code 13 = .ok (.putfield 198, 3) := by decide +kernel
theorem own_d_jdk_2327_method_14_code_16 : decode jdk_2327_method_14_code 16 = .ok (.aload_n 0, 1) := by decide +kernel
theorem own_d_jdk_2327_method_14_code_17 : decode jdk_2327_method_14_code 17 = .ok (.iload_n 3, 1) := by decide +kernel
theorem own_d_jdk_2327_method_14_code_18 : decode jdk_2327_method_14_code 18 = .ok (.i2b, 1) := by decide +kernel
theorem own_d_jdk_2327_method_14_code_19 : decode jdk_2327_method_14_code 19 = .ok (.putfield 201, 3) := by decide +kernel
theorem own_d_jdk_2327_method_14_code_22 : decode jdk_2327_method_14_code 22 = .ok (.aload_n 0, 1) := by decide +kernel
theorem own_d_jdk_2327_method_14_code_23 : decode jdk_2327_method_14_code 23 = .ok (.iload 4, 2) := by decide +kernel
theorem own_d_jdk_2327_method_14_code_25 : decode jdk_2327_method_14_code 25 = .ok (.putfield 204, 3) := by decide +kernel
theorem own_d_jdk_2327_method_14_code_28 : decode jdk_2327_method_14_code 28 = .ok (.return_, 1) := by decide +kernel
theorem own_pn_11 : plainName "java/time/LocalTime" = true := by first | (simp [plainName, overriddenIn]; done) | decide +kernel
set_option maxRecDepth 65536 in
set_option maxHeartbeats 4000000 in
theorem own_init (l : Launch) (Z : State) (a0 : Array Value) (hw : ∀ d ∈ tables_1, d.before a0 Z = true) (h0 : Heap) (n0 : Nat) (O : Old Z n0 h0) (a : Addr) (hh : Int32) (mm : Int32) (ss : Int32) (nn : Int32) (ge_a : n0 ≤ a) (bh : Bd hh 24) (bm : Bd mm 60) (bs : Bd ss 60) (E : Exa Z h0 a "java/time/LocalTime") (F_hour : Fld Z h0 a "java/time/LocalTime" "hour" "B" (.int 0)) (F_minute : Fld Z h0 a "java/time/LocalTime" "minute" "B" (.int 0)) (F_second : Fld Z h0 a "java/time/LocalTime" "second" "B" (.int 0)) (F_nano : Fld Z h0 a "java/time/LocalTime" "nano" "I" (.int 0)) :
    Con l Z n0 (⟨"java/time/LocalTime", "<init>", "(IIII)V"⟩ : MethodName) jdk_2327_method_14_code 5 none [] ({ frames := 1, cells := 0, slots := 0, locals := 12 } : Room) #[(.ref a), (.int hh), (.int mm), (.int ss), (.int nn)] h0 [a] (fun v h' => v = none ∧ Exa Z h' a "java/time/LocalTime" ∧ Fld Z h' a "java/time/LocalTime" "hour" "B" (.int hh) ∧ Fld Z h' a "java/time/LocalTime" "minute" "B" (.int mm) ∧ Fld Z h' a "java/time/LocalTime" "second" "B" (.int ss)) := by
  refine Con.of a0 (plainFor_of_name own_pn_11) O (by simp [ge_a]) [] (fun _ q => nomatch q) ?_
  intro p e s m below meth cdX T S hby hml hret hnm
  refine Go.cast (own_ef_10 m a hh mm ss nn) ?_
  refine S.aloadN 1 (hb hby own_d_jdk_2327_method_14_code_0) rfl rfl ?_
  refine S.initO (W := 0) 4 (hb hby own_d_jdk_2327_method_14_code_1) (by rw [hml]; rfl) (Tw hw 57 rfl) (Tw hw 58 rfl) (Tw hw 59 rfl) (by decide) (Nle rfl) (by decide) ?_
  intro T42 S43
  refine S43.aloadN 5 (hb hby own_d_jdk_2327_method_14_code_4) rfl rfl ?_
  refine S43.iloadN 6 (hb hby own_d_jdk_2327_method_14_code_5) rfl ?_
  refine S43.i2b 7 (hb hby own_d_jdk_2327_method_14_code_6) ?_
  show Go p e below _ T42 (mkF m 7 #[.val (.ref a), .val (.int hh), .val (.int mm), .val (.int ss), .val (.int nn)] [(.int (hh.toInt8.toInt32)), (.ref a)])
  rw [own_b8 bh (by decide)]
  refine S43.putf (host := "") (ty := .byte) 10 (hb hby own_d_jdk_2327_method_14_code_7) (Or.inl (Tw hw 60 rfl)) Via.refl F_hour E (Or.inr ⟨(Tw hw 61 rfl), rfl, hnm⟩) (Tw hw 52 rfl) (by decide) (own_nar8 (own_b8 bh (by decide))) (own_fit8 (own_b8 bh (by decide))) (Or.inl (by simp)) (Or.inl (by decide)) ?_
  intro T44 h45 L46 S47 W48
  have f49 := F_hour.same W48
  refine S47.aloadN 11 (hb hby own_d_jdk_2327_method_14_code_10) rfl rfl ?_
  refine S47.iloadN 12 (hb hby own_d_jdk_2327_method_14_code_11) rfl ?_
  refine S47.i2b 13 (hb hby own_d_jdk_2327_method_14_code_12) ?_
  show Go p e below _ T44 (mkF m 13 #[.val (.ref a), .val (.int hh), .val (.int mm), .val (.int ss), .val (.int nn)] [(.int (mm.toInt8.toInt32)), (.ref a)])
  rw [own_b8 bm (by decide)]
  have f50 := (F_minute.other W48 (Or.inr (slot_ne (t := .byte) (t' := .byte) (Or.inr (Tw hw 63 rfl)) (Or.inr (Tw hw 61 rfl)) (by decide) (by decide) (by decide))))
  have f51 := (E.wr W48)
  refine S47.putf (host := "") (ty := .byte) 16 (hb hby own_d_jdk_2327_method_14_code_13) (Or.inl (Tw hw 62 rfl)) Via.refl f50 f51 (Or.inr ⟨(Tw hw 63 rfl), rfl, hnm⟩) (Tw hw 52 rfl) (by decide) (own_nar8 (own_b8 bm (by decide))) (own_fit8 (own_b8 bm (by decide))) (Or.inl (by simp)) (Or.inl (by decide)) ?_
  intro T52 h53 L54 S55 W56
  have f57 := f50.same W56
  refine S55.aloadN 17 (hb hby own_d_jdk_2327_method_14_code_16) rfl rfl ?_
  refine S55.iloadN 18 (hb hby own_d_jdk_2327_method_14_code_17) rfl ?_
  refine S55.i2b 19 (hb hby own_d_jdk_2327_method_14_code_18) ?_
  show Go p e below _ T52 (mkF m 19 #[.val (.ref a), .val (.int hh), .val (.int mm), .val (.int ss), .val (.int nn)] [(.int (ss.toInt8.toInt32)), (.ref a)])
  rw [own_b8 bs (by decide)]
  have f58 := ((F_second.other W48 (Or.inr (slot_ne (t := .byte) (t' := .byte) (Or.inr (Tw hw 65 rfl)) (Or.inr (Tw hw 61 rfl)) (by decide) (by decide) (by decide)))).other W56 (Or.inr (slot_ne (t := .byte) (t' := .byte) (Or.inr (Tw hw 65 rfl)) (Or.inr (Tw hw 63 rfl)) (by decide) (by decide) (by decide))))
  have f59 := (f51.wr W56)
  refine S55.putf (host := "") (ty := .byte) 22 (hb hby own_d_jdk_2327_method_14_code_19) (Or.inl (Tw hw 64 rfl)) Via.refl f58 f59 (Or.inr ⟨(Tw hw 65 rfl), rfl, hnm⟩) (Tw hw 52 rfl) (by decide) (own_nar8 (own_b8 bs (by decide))) (own_fit8 (own_b8 bs (by decide))) (Or.inl (by simp)) (Or.inl (by decide)) ?_
  intro T60 h61 L62 S63 W64
  have f65 := f58.same W64
  refine S63.aloadN 23 (hb hby own_d_jdk_2327_method_14_code_22) rfl rfl ?_
  refine S63.iload 25 (hb hby own_d_jdk_2327_method_14_code_23) rfl ?_
  have f66 := (((F_nano.other W48 (Or.inr (slot_ne (t := .int) (t' := .byte) (Or.inr (Tw hw 67 rfl)) (Or.inr (Tw hw 61 rfl)) (by decide) (by decide) (by decide)))).other W56 (Or.inr (slot_ne (t := .int) (t' := .byte) (Or.inr (Tw hw 67 rfl)) (Or.inr (Tw hw 63 rfl)) (by decide) (by decide) (by decide)))).other W64 (Or.inr (slot_ne (t := .int) (t' := .byte) (Or.inr (Tw hw 67 rfl)) (Or.inr (Tw hw 65 rfl)) (by decide) (by decide) (by decide))))
  have f67 := (f59.wr W64)
  refine S63.putf (host := "") (ty := .int) 28 (hb hby own_d_jdk_2327_method_14_code_25) (Or.inl (Tw hw 66 rfl)) Via.refl f66 f67 (Or.inr ⟨(Tw hw 67 rfl), rfl, hnm⟩) (Tw hw 52 rfl) (by decide) rfl rfl (Or.inl (by simp)) (Or.inl (by decide)) ?_
  intro T68 h69 L70 S71 W72
  have f73 := f66.same W72
  have f74 := (f67.wr W72)
  have f75 := (((f49.other W56 (Or.inr (slot_ne (t := .byte) (t' := .byte) (Or.inr (Tw hw 61 rfl)) (Or.inr (Tw hw 63 rfl)) (by decide) (by decide) (by decide)))).other W64 (Or.inr (slot_ne (t := .byte) (t' := .byte) (Or.inr (Tw hw 61 rfl)) (Or.inr (Tw hw 65 rfl)) (by decide) (by decide) (by decide)))).other W72 (Or.inr (slot_ne (t := .byte) (t' := .int) (Or.inr (Tw hw 61 rfl)) (Or.inr (Tw hw 67 rfl)) (by decide) (by decide) (by decide))))
  have f76 := ((f57.other W64 (Or.inr (slot_ne (t := .byte) (t' := .byte) (Or.inr (Tw hw 63 rfl)) (Or.inr (Tw hw 65 rfl)) (by decide) (by decide) (by decide)))).other W72 (Or.inr (slot_ne (t := .byte) (t' := .int) (Or.inr (Tw hw 63 rfl)) (Or.inr (Tw hw 67 rfl)) (by decide) (by decide) (by decide))))
  have f77 := (f65.other W72 (Or.inr (slot_ne (t := .byte) (t' := .int) (Or.inr (Tw hw 65 rfl)) (Or.inr (Tw hw 67 rfl)) (by decide) (by decide) (by decide))))
  exact S71.ret0 (hb hby own_d_jdk_2327_method_14_code_28) hret (by decide) (by decide) ⟨rfl, f74, f75, f76, f77⟩

theorem own_idx {x : Int32} {d : Int} (b : Bd x d) : x.toNatClampNeg < d.toNat ∧ Int32.ofNat x.toNatClampNeg = x := by
  have e : (x.toNatClampNeg : Int) = x.toInt := by rw [← nat_of]; intro q; rw [Int32.lt_iff_toInt_lt] at q; have e0 : (0 : Int32).toInt = 0 := rfl; have := b.1; omega
  have b2 := b.2
  refine ⟨by omega, ?_⟩
  have := (back32 (n := x) (by intro q; rw [Int32.lt_iff_toInt_lt] at q; have e0 : (0 : Int32).toInt = 0 := rfl; have := b.1; omega)).1
  exact this
theorem own_in {x : Int32} (b : Bd x 24) : ¬ (x < 0 ∨ 24 ≤ x.toNatClampNeg) := by
  have q := (own_idx b).1
  rintro (r | r)
  · rw [Int32.lt_iff_toInt_lt] at r; have e0 : (0 : Int32).toInt = 0 := rfl; have := b.1; omega
  · have e : (24 : Int).toNat = 24 := rfl
    omega
theorem own_ef_12 (m : MethodId) (x0 : Int32) (x1 : Int32) (x2 : Int32) (x3 : Int32) : entryFrame m #[(.int x0), (.int x1), (.int x2), (.int x3)] 4 = mkF m 0 #[.val (.int x0), .val (.int x1), .val (.int x2), .val (.int x3)] [] := by rfl
theorem own_d_jdk_2327_method_13_code_0 : decode jdk_2327_method_13_code 0 = .ok (.iload_n 1, 1) := by decide +kernel
theorem own_d_jdk_2327_method_13_code_1 : decode jdk_2327_method_13_code 1 = .ok (.iload_n 2, 1) := by decide +kernel
theorem own_d_jdk_2327_method_13_code_2 : decode jdk_2327_method_13_code 2 = .ok (.ior, 1) := by decide +kernel
theorem own_d_jdk_2327_method_13_code_3 : decode jdk_2327_method_13_code 3 = .ok (.iload_n 3, 1) := by decide +kernel
theorem own_d_jdk_2327_method_13_code_4 : decode jdk_2327_method_13_code 4 = .ok (.ior, 1) := by decide +kernel
theorem own_d_jdk_2327_method_13_code_5 : decode jdk_2327_method_13_code 5 = .ok (.ifCond .ne 9, 3) := by decide +kernel
theorem own_d_jdk_2327_method_13_code_8 : decode jdk_2327_method_13_code 8 = .ok (.getstatic 47, 3) := by decide +kernel
theorem own_d_jdk_2327_method_13_code_11 : decode jdk_2327_method_13_code 11 = .ok (.iload_n 0, 1) := by decide +kernel
theorem own_d_jdk_2327_method_13_code_12 : decode jdk_2327_method_13_code 12 = .ok (.aaload, 1) := by decide +kernel
theorem own_d_jdk_2327_method_13_code_13 : decode jdk_2327_method_13_code 13 = .ok (.areturn, 1) := by decide +kernel
theorem own_d_jdk_2327_method_13_code_14 : decode jdk_2327_method_13_code 14 = .ok (.new 1, 3) := by decide +kernel
theorem own_d_jdk_2327_method_13_code_17 : decode jdk_2327_method_13_code 17 = .ok (.dup, 1) := by decide +kernel
theorem own_d_jdk_2327_method_13_code_18 : decode jdk_2327_method_13_code 18 = .ok (.iload_n 0, 1) := by decide +kernel
theorem own_d_jdk_2327_method_13_code_19 : decode jdk_2327_method_13_code 19 = .ok (.iload_n 1, 1) := by decide +kernel
theorem own_d_jdk_2327_method_13_code_20 : decode jdk_2327_method_13_code 20 = .ok (.iload_n 2, 1) := by decide +kernel
theorem own_d_jdk_2327_method_13_code_21 : decode jdk_2327_method_13_code 21 = .ok (.iload_n 3, 1) := by decide +kernel
theorem own_d_jdk_2327_method_13_code_22 : decode jdk_2327_method_13_code 22 = .ok (.invokespecial 54, 3) := by decide +kernel
theorem own_pd_13 : parseMethodDescriptor "(IIII)V" = some ⟨[.int, .int, .int, .int], none⟩ := by decide +kernel
theorem own_d_jdk_2327_method_13_code_25 : decode jdk_2327_method_13_code 25 = .ok (.areturn, 1) := by decide +kernel
set_option maxRecDepth 65536 in
set_option maxHeartbeats 4000000 in
theorem own_create (l : Launch) (Z : State) (a0 : Array Value) (hw : ∀ d ∈ tables_1, d.before a0 Z = true) (hr : Hrs Z) (h0 : Heap) (n0 : Nat) (O : Old Z n0 h0) (hh : Int32) (mm : Int32) (ss : Int32) (nn : Int32) (bh : Bd hh 24) (bm : Bd mm 60) (bs : Bd ss 60) :
    Con l Z n0 (⟨"java/time/LocalTime", "create", "(IIII)Ljava/time/LocalTime;"⟩ : MethodName) jdk_2327_method_13_code 4 (some (.object "java/time/LocalTime")) [] ({ frames := 2, cells := 1, slots := 4, locals := 40 } : Room) #[(.int hh), (.int mm), (.int ss), (.int nn)] h0 [] (fun v h' => ∃ b, v = some (.ref b) ∧ Exa Z h' b "java/time/LocalTime" ∧ Fld Z h' b "java/time/LocalTime" "hour" "B" (.int hh) ∧ Fld Z h' b "java/time/LocalTime" "minute" "B" (.int mm) ∧ Fld Z h' b "java/time/LocalTime" "second" "B" (.int ss)) := by
  refine Con.of a0 (plainFor_of_name own_pn_11) O (fun _ q => nomatch q) [] (fun _ q => nomatch q) ?_
  intro p e s m below meth cdX T S hby hml hret hnm
  refine Go.cast (own_ef_12 m hh mm ss nn) ?_
  refine S.iloadN 1 (hb hby own_d_jdk_2327_method_13_code_0) rfl ?_
  refine S.iloadN 2 (hb hby own_d_jdk_2327_method_13_code_1) rfl ?_
  refine S.ior 3 (hb hby own_d_jdk_2327_method_13_code_2) ?_
  show Go p e below _ T (mkF m 3 #[.val (.int hh), .val (.int mm), .val (.int ss), .val (.int nn)] [(.int (mm ||| ss))])
  refine S.iloadN 4 (hb hby own_d_jdk_2327_method_13_code_3) rfl ?_
  refine S.ior 5 (hb hby own_d_jdk_2327_method_13_code_4) ?_
  show Go p e below _ T (mkF m 5 #[.val (.int hh), .val (.int mm), .val (.int ss), .val (.int nn)] [(.int ((mm ||| ss) ||| nn))])
  by_cases hq : ((mm ||| ss) ||| nn) = (0 : Int32)
  · skip
    obtain ⟨q1, -⟩ := own_or0 hq
    obtain ⟨rfl, rfl⟩ := own_or0 q1
    refine S.ifN 8 (hb hby own_d_jdk_2327_method_13_code_5) (zNeF hq) ?_
    obtain ⟨ar, cl, hs1, hs2, hs3, hs4⟩ := hr
    refine S.gets (host := "") 11 (hb hby own_d_jdk_2327_method_13_code_8) (Or.inl (Tw hw 94 rfl)) Via.refl (hs1.ext S.old.2) ?_
    intro T78 S79
    refine S79.iloadN 12 (hb hby own_d_jdk_2327_method_13_code_11) rfl ?_
    obtain ⟨b, b1, b2, b3, b4, b5⟩ := hs4 hh.toNatClampNeg (own_idx bh).1
    rw [(own_idx bh).2] at b3
    refine S79.aaload 13 (hb hby own_d_jdk_2327_method_13_code_12) (hs2.ext S79.old.2) rfl (by rw [hs3]; exact own_in bh) b1 ?_
    exact S79.retA (hb hby own_d_jdk_2327_method_13_code_13) hret rfl rfl (by decide) (by decide) ⟨_, rfl, (b2.ext S79.old.2), (b3.ext S79.old.2), (b4.ext S79.old.2), (b5.ext S79.old.2)⟩
  · skip
    refine S.ifY 14 (hb hby own_d_jdk_2327_method_13_code_5) (zNeT hq) ?_
    refine S.new 17 (hb hby own_d_jdk_2327_method_13_code_14) (Tw hw 51 rfl) (Tw hw 52 rfl) (Tw hw 4 rfl) (by decide) (by decide) ?_
    intro T80 h81 b82 S83 E84 g85 wo86 A87 D88 U89
    have f90 : Fld Z h81 b82 "java/time/LocalTime" "hour" "B" (.int (0 : Int32)) := D88 (Or.inr (Tw hw 61 rfl)) (ty := .byte) (by decide)
    have f91 : Fld Z h81 b82 "java/time/LocalTime" "minute" "B" (.int (0 : Int32)) := D88 (Or.inr (Tw hw 63 rfl)) (ty := .byte) (by decide)
    have f92 : Fld Z h81 b82 "java/time/LocalTime" "second" "B" (.int (0 : Int32)) := D88 (Or.inr (Tw hw 65 rfl)) (ty := .byte) (by decide)
    have f93 : Fld Z h81 b82 "java/time/LocalTime" "nano" "I" (.int (0 : Int32)) := D88 (Or.inr (Tw hw 67 rfl)) (ty := .int) (by decide)
    refine S83.dup 18 (hb hby own_d_jdk_2327_method_13_code_17) rfl ?_
    refine S83.iloadN 19 (hb hby own_d_jdk_2327_method_13_code_18) rfl ?_
    refine S83.iloadN 20 (hb hby own_d_jdk_2327_method_13_code_19) rfl ?_
    refine S83.iloadN 21 (hb hby own_d_jdk_2327_method_13_code_20) rfl ?_
    refine S83.iloadN 22 (hb hby own_d_jdk_2327_method_13_code_21) rfl ?_
    refine S83.icall 25 (hb hby own_d_jdk_2327_method_13_code_22) (by rw [hml]; rfl) rfl (Tw hw 53 rfl) (Tw hw 54 rfl) (Tw hw 56 rfl) (by decide) [(.int hh), (.int mm), (.int ss), (.int nn)] [(.ref b82)] (Con.pay (W := 1) (own_init l Z a0 hw h81 n0 S83.old b82 hh mm ss nn (S83.ge wo86) bh bm bs A87 f90 f91 f92 f93) (Tw hw 56 rfl) (Tw hw 4 rfl) (by decide) (by decide)) (lenOf own_pd_13 rfl) rfl (Nle rfl) (by decide) (by decide) (Wrs.one wo86 (Or.inr ⟨_, A87, by decide, by decide⟩)) ?_
    intro v94 T95 h96 L97 S98 q99 K100
    obtain ⟨rfl, g1, g2, g3, g4⟩ := q99
    show Go p e below _ T95 (mkF m 25 #[.val (.int hh), .val (.int mm), .val (.int ss), .val (.int nn)] [(.ref b82)])
    exact S98.retA (hb hby own_d_jdk_2327_method_13_code_25) hret rfl rfl (by decide) (by decide) ⟨_, rfl, g1, g2, g3, g4⟩

theorem own_d_jdk_2327_method_6_code_0 : decode jdk_2327_method_6_code 0 = .ok (.getstatic 37, 3) := by decide +kernel
theorem own_d_jdk_2327_method_6_code_3 : decode jdk_2327_method_6_code 3 = .ok (.iload_n 0, 1) := by decide +kernel
theorem own_d_jdk_2327_method_6_code_4 : decode jdk_2327_method_6_code 4 = .ok (.i2l, 1) := by decide +kernel
theorem own_d_jdk_2327_method_6_code_5 : decode jdk_2327_method_6_code 5 = .ok (.invokevirtual 43, 3) := by decide +kernel
theorem own_pd_14 : parseMethodDescriptor "(J)J" = some ⟨[.long], some .long⟩ := by decide +kernel
theorem own_d_jdk_2327_method_6_code_8 : decode jdk_2327_method_6_code 8 = .ok (.pop2, 1) := by decide +kernel
theorem own_d_jdk_2327_method_6_code_9 : decode jdk_2327_method_6_code 9 = .ok (.getstatic 51, 3) := by decide +kernel
theorem own_d_jdk_2327_method_6_code_12 : decode jdk_2327_method_6_code 12 = .ok (.iload_n 1, 1) := by decide +kernel
theorem own_d_jdk_2327_method_6_code_13 : decode jdk_2327_method_6_code 13 = .ok (.i2l, 1) := by decide +kernel
theorem own_d_jdk_2327_method_6_code_14 : decode jdk_2327_method_6_code 14 = .ok (.invokevirtual 43, 3) := by decide +kernel
theorem own_d_jdk_2327_method_6_code_17 : decode jdk_2327_method_6_code 17 = .ok (.pop2, 1) := by decide +kernel
theorem own_d_jdk_2327_method_6_code_18 : decode jdk_2327_method_6_code 18 = .ok (.getstatic 58, 3) := by decide +kernel
theorem own_d_jdk_2327_method_6_code_21 : decode jdk_2327_method_6_code 21 = .ok (.iload_n 2, 1) := by decide +kernel
theorem own_d_jdk_2327_method_6_code_22 : decode jdk_2327_method_6_code 22 = .ok (.i2l, 1) := by decide +kernel
theorem own_d_jdk_2327_method_6_code_23 : decode jdk_2327_method_6_code 23 = .ok (.invokevirtual 43, 3) := by decide +kernel
theorem own_d_jdk_2327_method_6_code_26 : decode jdk_2327_method_6_code 26 = .ok (.pop2, 1) := by decide +kernel
theorem own_d_jdk_2327_method_6_code_27 : decode jdk_2327_method_6_code 27 = .ok (.getstatic 61, 3) := by decide +kernel
theorem own_d_jdk_2327_method_6_code_30 : decode jdk_2327_method_6_code 30 = .ok (.iload_n 3, 1) := by decide +kernel
theorem own_d_jdk_2327_method_6_code_31 : decode jdk_2327_method_6_code 31 = .ok (.i2l, 1) := by decide +kernel
theorem own_d_jdk_2327_method_6_code_32 : decode jdk_2327_method_6_code 32 = .ok (.invokevirtual 43, 3) := by decide +kernel
theorem own_d_jdk_2327_method_6_code_35 : decode jdk_2327_method_6_code 35 = .ok (.pop2, 1) := by decide +kernel
theorem own_d_jdk_2327_method_6_code_36 : decode jdk_2327_method_6_code 36 = .ok (.iload_n 0, 1) := by decide +kernel
theorem own_d_jdk_2327_method_6_code_37 : decode jdk_2327_method_6_code 37 = .ok (.iload_n 1, 1) := by decide +kernel
theorem own_d_jdk_2327_method_6_code_38 : decode jdk_2327_method_6_code 38 = .ok (.iload_n 2, 1) := by decide +kernel
theorem own_d_jdk_2327_method_6_code_39 : decode jdk_2327_method_6_code 39 = .ok (.iload_n 3, 1) := by decide +kernel
theorem own_d_jdk_2327_method_6_code_40 : decode jdk_2327_method_6_code 40 = .ok (.invokestatic 64, 3) := by decide +kernel
theorem own_pd_15 : parseMethodDescriptor "(IIII)Ljava/time/LocalTime;" = some ⟨[.int, .int, .int, .int], some (.object "java/time/LocalTime")⟩ := by decide +kernel
theorem own_d_jdk_2327_method_6_code_43 : decode jdk_2327_method_6_code 43 = .ok (.areturn, 1) := by decide +kernel
set_option maxRecDepth 65536 in
set_option maxHeartbeats 4000000 in
theorem own_of (l : Launch) (Z : State) (a0 : Array Value) (hw : ∀ d ∈ tables_1, d.before a0 Z = true) (hr : Hrs Z) (c1 : Cf Z "HOUR_OF_DAY" 0 23) (c2 : Cf Z "MINUTE_OF_HOUR" 0 59) (c3 : Cf Z "SECOND_OF_MINUTE" 0 59) (c4 : Cf Z "NANO_OF_SECOND" 0 999999999) (h0 : Heap) (n0 : Nat) (O : Old Z n0 h0) (hh : Int32) (mm : Int32) (ss : Int32) (nn : Int32) (bh : Bd hh 24) (bm : Bd mm 60) (bs : Bd ss 60) (bn : Bd nn 1000000000) :
    Con l Z n0 (⟨"java/time/LocalTime", "of", "(IIII)Ljava/time/LocalTime;"⟩ : MethodName) jdk_2327_method_6_code 4 (some (.object "java/time/LocalTime")) [] ({ frames := 4, cells := 1, slots := 4, locals := 90 } : Room) #[(.int hh), (.int mm), (.int ss), (.int nn)] h0 [] (fun v h' => ∃ b, v = some (.ref b) ∧ Exa Z h' b "java/time/LocalTime" ∧ Fld Z h' b "java/time/LocalTime" "hour" "B" (.int hh) ∧ Fld Z h' b "java/time/LocalTime" "minute" "B" (.int mm) ∧ Fld Z h' b "java/time/LocalTime" "second" "B" (.int ss)) := by
  refine Con.of a0 (plainFor_of_name own_pn_11) O (fun _ q => nomatch q) [] (fun _ q => nomatch q) ?_
  intro p e s m below meth cdX T S hby hml hret hnm
  refine Go.cast (own_ef_12 m hh mm ss nn) ?_
  obtain ⟨a1, r1, s1, x1, y1, z1, u1, v1⟩ := c1
  refine S.gets (host := "") 3 (hb hby own_d_jdk_2327_method_6_code_0) (Or.inl (Tw hw 6 rfl)) Via.refl (s1.ext S.old.2) ?_
  intro T101 S102
  refine S102.iloadN 4 (hb hby own_d_jdk_2327_method_6_code_3) rfl ?_
  refine S102.i2l 5 (hb hby own_d_jdk_2327_method_6_code_4) ?_
  refine S102.vcall 8 (hb hby own_d_jdk_2327_method_6_code_5) (by rw [hml]; rfl) (Tw hw 8 rfl) (Tw hw 9 rfl) (Tw hw 11 rfl) (Tw hw 10 rfl) (nfSel (Tw hw 11 rfl)) (by decide) (x1.ext S.old.2) [(.long (hh.toInt64))] [] (Con.pay (W := 0) (own_check2 l Z a0 hw h0 n0 S102.old a1 r1 0 23 (hh.toInt64) (x1.ext S102.old.2) (y1.ext S102.old.2) (z1.ext S102.old.2) (u1.ext S102.old.2) (v1.ext S102.old.2) (own_ge bh) (own_le bh _ rfl)) (Tw hw 12 rfl) (Tw hw 7 rfl) (by decide) (by decide)) (lenOf own_pd_14 rfl) rfl (Nle rfl) (by decide) (by decide) Wrs.nil ?_
  intro v103 T104 h105 L106 S107 q108 K109
  obtain ⟨rfl, e_q108⟩ := q108
  obtain rfl := e_q108.symm
  show Go p e below _ T104 (mkF m 8 #[.val (.int hh), .val (.int mm), .val (.int ss), .val (.int nn)] [(.long (hh.toInt64))])
  refine S107.pop2J 9 (hb hby own_d_jdk_2327_method_6_code_8) ?_
  obtain ⟨a2, r2, s2, x2, y2, z2, u2, v2⟩ := c2
  refine S107.gets (host := "") 12 (hb hby own_d_jdk_2327_method_6_code_9) (Or.inl (Tw hw 45 rfl)) Via.refl (s2.ext S107.old.2) ?_
  intro T110 S111
  refine S111.iloadN 13 (hb hby own_d_jdk_2327_method_6_code_12) rfl ?_
  refine S111.i2l 14 (hb hby own_d_jdk_2327_method_6_code_13) ?_
  refine S111.vcall 17 (hb hby own_d_jdk_2327_method_6_code_14) (by rw [hml]; rfl) (Tw hw 8 rfl) (Tw hw 9 rfl) (Tw hw 11 rfl) (Tw hw 10 rfl) (nfSel (Tw hw 11 rfl)) (by decide) (x2.ext S107.old.2) [(.long (mm.toInt64))] [] (Con.pay (W := 0) (own_check2 l Z a0 hw h0 n0 S111.old a2 r2 0 59 (mm.toInt64) (x2.ext S111.old.2) (y2.ext S111.old.2) (z2.ext S111.old.2) (u2.ext S111.old.2) (v2.ext S111.old.2) (own_ge bm) (own_le bm _ rfl)) (Tw hw 12 rfl) (Tw hw 7 rfl) (by decide) (by decide)) (lenOf own_pd_14 rfl) rfl (Nle rfl) (by decide) (by decide) Wrs.nil ?_
  intro v112 T113 h114 L115 S116 q117 K118
  obtain ⟨rfl, e_q117⟩ := q117
  obtain rfl := e_q117.symm
  show Go p e below _ T113 (mkF m 17 #[.val (.int hh), .val (.int mm), .val (.int ss), .val (.int nn)] [(.long (mm.toInt64))])
  refine S116.pop2J 18 (hb hby own_d_jdk_2327_method_6_code_17) ?_
  obtain ⟨a3, r3, s3, x3, y3, z3, u3, v3⟩ := c3
  refine S116.gets (host := "") 21 (hb hby own_d_jdk_2327_method_6_code_18) (Or.inl (Tw hw 46 rfl)) Via.refl (s3.ext S116.old.2) ?_
  intro T119 S120
  refine S120.iloadN 22 (hb hby own_d_jdk_2327_method_6_code_21) rfl ?_
  refine S120.i2l 23 (hb hby own_d_jdk_2327_method_6_code_22) ?_
  refine S120.vcall 26 (hb hby own_d_jdk_2327_method_6_code_23) (by rw [hml]; rfl) (Tw hw 8 rfl) (Tw hw 9 rfl) (Tw hw 11 rfl) (Tw hw 10 rfl) (nfSel (Tw hw 11 rfl)) (by decide) (x3.ext S116.old.2) [(.long (ss.toInt64))] [] (Con.pay (W := 0) (own_check2 l Z a0 hw h0 n0 S120.old a3 r3 0 59 (ss.toInt64) (x3.ext S120.old.2) (y3.ext S120.old.2) (z3.ext S120.old.2) (u3.ext S120.old.2) (v3.ext S120.old.2) (own_ge bs) (own_le bs _ rfl)) (Tw hw 12 rfl) (Tw hw 7 rfl) (by decide) (by decide)) (lenOf own_pd_14 rfl) rfl (Nle rfl) (by decide) (by decide) Wrs.nil ?_
  intro v121 T122 h123 L124 S125 q126 K127
  obtain ⟨rfl, e_q126⟩ := q126
  obtain rfl := e_q126.symm
  show Go p e below _ T122 (mkF m 26 #[.val (.int hh), .val (.int mm), .val (.int ss), .val (.int nn)] [(.long (ss.toInt64))])
  refine S125.pop2J 27 (hb hby own_d_jdk_2327_method_6_code_26) ?_
  obtain ⟨a4, r4, s4, x4, y4, z4, u4, v4⟩ := c4
  refine S125.gets (host := "") 30 (hb hby own_d_jdk_2327_method_6_code_27) (Or.inl (Tw hw 47 rfl)) Via.refl (s4.ext S125.old.2) ?_
  intro T128 S129
  refine S129.iloadN 31 (hb hby own_d_jdk_2327_method_6_code_30) rfl ?_
  refine S129.i2l 32 (hb hby own_d_jdk_2327_method_6_code_31) ?_
  refine S129.vcall 35 (hb hby own_d_jdk_2327_method_6_code_32) (by rw [hml]; rfl) (Tw hw 8 rfl) (Tw hw 9 rfl) (Tw hw 11 rfl) (Tw hw 10 rfl) (nfSel (Tw hw 11 rfl)) (by decide) (x4.ext S125.old.2) [(.long (nn.toInt64))] [] (Con.pay (W := 0) (own_check2 l Z a0 hw h0 n0 S129.old a4 r4 0 999999999 (nn.toInt64) (x4.ext S129.old.2) (y4.ext S129.old.2) (z4.ext S129.old.2) (u4.ext S129.old.2) (v4.ext S129.old.2) (own_ge bn) (own_le bn _ rfl)) (Tw hw 12 rfl) (Tw hw 7 rfl) (by decide) (by decide)) (lenOf own_pd_14 rfl) rfl (Nle rfl) (by decide) (by decide) Wrs.nil ?_
  intro v130 T131 h132 L133 S134 q135 K136
  obtain ⟨rfl, e_q135⟩ := q135
  obtain rfl := e_q135.symm
  show Go p e below _ T131 (mkF m 35 #[.val (.int hh), .val (.int mm), .val (.int ss), .val (.int nn)] [(.long (nn.toInt64))])
  refine S134.pop2J 36 (hb hby own_d_jdk_2327_method_6_code_35) ?_
  refine S134.iloadN 37 (hb hby own_d_jdk_2327_method_6_code_36) rfl ?_
  refine S134.iloadN 38 (hb hby own_d_jdk_2327_method_6_code_37) rfl ?_
  refine S134.iloadN 39 (hb hby own_d_jdk_2327_method_6_code_38) rfl ?_
  refine S134.iloadN 40 (hb hby own_d_jdk_2327_method_6_code_39) rfl ?_
  refine S134.scall 43 (hb hby own_d_jdk_2327_method_6_code_40) (by rw [hml]; rfl) (Tw hw 48 rfl) (Tw hw 49 rfl) (Tw hw 4 rfl) (Tw hw 50 rfl) (by decide) [(.int hh), (.int mm), (.int ss), (.int nn)] [] (Con.pay (W := 0) (own_create l Z a0 hw hr h0 n0 S134.old hh mm ss nn bh bm bs) (Tw hw 50 rfl) (Tw hw 4 rfl) (by decide) (by decide)) (lenOf own_pd_15 rfl) rfl (Nle rfl) (by decide) (by decide) Wrs.nil ?_
  intro v137 T138 h139 L140 S141 q142 K143
  obtain ⟨b, rfl, g1, g2, g3, g4⟩ := q142
  show Go p e below _ T138 (mkF m 43 #[.val (.int hh), .val (.int mm), .val (.int ss), .val (.int nn)] [(.ref b)])
  exact S141.retA (hb hby own_d_jdk_2327_method_6_code_43) hret rfl rfl (by decide) (by decide) ⟨_, rfl, g1, g2, g3, g4⟩

theorem own_ef_16 (m : MethodId) (x0 : Addr) : entryFrame m #[(.ref x0)] 2 = mkF m 0 #[.val (.ref x0), .unset] [] := by rfl
theorem own_d_jdk_2327_method_50_code_0 : decode jdk_2327_method_50_code 0 = .ok (.aload_n 0, 1) := by decide +kernel
theorem own_d_jdk_2327_method_50_code_1 : decode jdk_2327_method_50_code 1 = .ok (.getfield 194, 3) := by decide +kernel
theorem own_d_jdk_2327_method_50_code_4 : decode jdk_2327_method_50_code 4 = .ok (.sipush 3600, 3) := by decide +kernel
theorem own_d_jdk_2327_method_50_code_7 : decode jdk_2327_method_50_code 7 = .ok (.imul, 1) := by decide +kernel
theorem own_d_jdk_2327_method_50_code_8 : decode jdk_2327_method_50_code 8 = .ok (.istore_n 1, 1) := by decide +kernel
theorem own_d_jdk_2327_method_50_code_9 : decode jdk_2327_method_50_code 9 = .ok (.iload_n 1, 1) := by decide +kernel
theorem own_d_jdk_2327_method_50_code_10 : decode jdk_2327_method_50_code 10 = .ok (.aload_n 0, 1) := by decide +kernel
theorem own_d_jdk_2327_method_50_code_11 : decode jdk_2327_method_50_code 11 = .ok (.getfield 198, 3) := by decide +kernel
theorem own_d_jdk_2327_method_50_code_14 : decode jdk_2327_method_50_code 14 = .ok (.bipush 60, 2) := by decide +kernel
theorem own_d_jdk_2327_method_50_code_16 : decode jdk_2327_method_50_code 16 = .ok (.imul, 1) := by decide +kernel
theorem own_d_jdk_2327_method_50_code_17 : decode jdk_2327_method_50_code 17 = .ok (.iadd, 1) := by decide +kernel
theorem own_d_jdk_2327_method_50_code_18 : decode jdk_2327_method_50_code 18 = .ok (.istore_n 1, 1) := by decide +kernel
theorem own_d_jdk_2327_method_50_code_19 : decode jdk_2327_method_50_code 19 = .ok (.iload_n 1, 1) := by decide +kernel
theorem own_d_jdk_2327_method_50_code_20 : decode jdk_2327_method_50_code 20 = .ok (.aload_n 0, 1) := by decide +kernel
theorem own_d_jdk_2327_method_50_code_21 : decode jdk_2327_method_50_code 21 = .ok (.getfield 201, 3) := by decide +kernel
theorem own_d_jdk_2327_method_50_code_24 : decode jdk_2327_method_50_code 24 = .ok (.iadd, 1) := by decide +kernel
theorem own_d_jdk_2327_method_50_code_25 : decode jdk_2327_method_50_code 25 = .ok (.istore_n 1, 1) := by decide +kernel
theorem own_d_jdk_2327_method_50_code_26 : decode jdk_2327_method_50_code 26 = .ok (.iload_n 1, 1) := by decide +kernel
theorem own_d_jdk_2327_method_50_code_27 : decode jdk_2327_method_50_code 27 = .ok (.ireturn, 1) := by decide +kernel
set_option maxRecDepth 65536 in
set_option maxHeartbeats 4000000 in
theorem own_secs (l : Launch) (Z : State) (a0 : Array Value) (hw : ∀ d ∈ tables_1, d.before a0 Z = true) (h0 : Heap) (n0 : Nat) (O : Old Z n0 h0) (a : Addr) (hh : Int32) (mm : Int32) (ss : Int32) (F0 : Fld Z h0 a "java/time/LocalTime" "hour" "B" (.int hh)) (F1 : Fld Z h0 a "java/time/LocalTime" "minute" "B" (.int mm)) (F2 : Fld Z h0 a "java/time/LocalTime" "second" "B" (.int ss)) :
    Con l Z n0 (⟨"java/time/LocalTime", "toSecondOfDay", "()I"⟩ : MethodName) jdk_2327_method_50_code 2 (some .int) [] ({ frames := 0, cells := 0, slots := 0, locals := 0 } : Room) #[(.ref a)] h0 [] (fun v h' => v = some (.int ((hh * (3600 : Int32)) + (mm * (60 : Int32)) + ss)) ∧ h' = h0) := by
  refine Con.of a0 (plainFor_of_name own_pn_11) O (fun _ q => nomatch q) [] (fun _ q => nomatch q) ?_
  intro p e s m below meth cdX T S hby hml hret hnm
  refine Go.cast (own_ef_16 m a) ?_
  refine S.aloadN 1 (hb hby own_d_jdk_2327_method_50_code_0) rfl rfl ?_
  refine S.getf (host := "") 4 (hb hby own_d_jdk_2327_method_50_code_1) (Or.inl (Tw hw 60 rfl)) Via.refl F0 ?_
  intro T144 S145
  refine S145.sipush 7 (3600 : Int32) (hb hby own_d_jdk_2327_method_50_code_4) ?_
  refine S145.imul 8 (hb hby own_d_jdk_2327_method_50_code_7) ?_
  show Go p e below _ T144 (mkF m 8 #[.val (.ref a), .unset] [(.int (hh * (3600 : Int32)))])
  refine S145.istoreN 9 #[.val (.ref a), .val (.int (hh * (3600 : Int32)))] (hb hby own_d_jdk_2327_method_50_code_8) rfl ?_
  refine S145.iloadN 10 (hb hby own_d_jdk_2327_method_50_code_9) rfl ?_
  refine S145.aloadN 11 (hb hby own_d_jdk_2327_method_50_code_10) rfl rfl ?_
  refine S145.getf (host := "") 14 (hb hby own_d_jdk_2327_method_50_code_11) (Or.inl (Tw hw 62 rfl)) Via.refl F1 ?_
  intro T146 S147
  refine S147.bipush 16 (60 : Int32) (hb hby own_d_jdk_2327_method_50_code_14) ?_
  refine S147.imul 17 (hb hby own_d_jdk_2327_method_50_code_16) ?_
  show Go p e below _ T146 (mkF m 17 #[.val (.ref a), .val (.int (hh * (3600 : Int32)))] [(.int (mm * (60 : Int32))), (.int (hh * (3600 : Int32)))])
  refine S147.iadd 18 (hb hby own_d_jdk_2327_method_50_code_17) ?_
  show Go p e below _ T146 (mkF m 18 #[.val (.ref a), .val (.int (hh * (3600 : Int32)))] [(.int ((hh * (3600 : Int32)) + (mm * (60 : Int32))))])
  refine S147.istoreN 19 #[.val (.ref a), .val (.int ((hh * (3600 : Int32)) + (mm * (60 : Int32))))] (hb hby own_d_jdk_2327_method_50_code_18) rfl ?_
  refine S147.iloadN 20 (hb hby own_d_jdk_2327_method_50_code_19) rfl ?_
  refine S147.aloadN 21 (hb hby own_d_jdk_2327_method_50_code_20) rfl rfl ?_
  refine S147.getf (host := "") 24 (hb hby own_d_jdk_2327_method_50_code_21) (Or.inl (Tw hw 64 rfl)) Via.refl F2 ?_
  intro T148 S149
  refine S149.iadd 25 (hb hby own_d_jdk_2327_method_50_code_24) ?_
  show Go p e below _ T148 (mkF m 25 #[.val (.ref a), .val (.int ((hh * (3600 : Int32)) + (mm * (60 : Int32))))] [(.int (((hh * (3600 : Int32)) + (mm * (60 : Int32))) + ss))])
  refine S149.istoreN 26 #[.val (.ref a), .val (.int (((hh * (3600 : Int32)) + (mm * (60 : Int32))) + ss))] (hb hby own_d_jdk_2327_method_50_code_25) rfl ?_
  refine S149.iloadN 27 (hb hby own_d_jdk_2327_method_50_code_26) rfl ?_
  exact S149.retI (hb hby own_d_jdk_2327_method_50_code_27) hret (by decide) (by decide) ⟨rfl, rfl⟩

theorem own_ef_17 (m : MethodId) (x0 : Int64) (x1 : Int64) : entryFrame m #[(.long x0), (.long x1)] 6 = mkF m 0 #[.val (.long x0), .second, .val (.long x1), .second, .unset, .unset] [] := by rfl
theorem own_d_jdk_29_method_49_code_0 : decode jdk_29_method_49_code 0 = .ok (.lload_n 0, 1) := by decide +kernel
theorem own_d_jdk_29_method_49_code_1 : decode jdk_29_method_49_code 1 = .ok (.lload_n 2, 1) := by decide +kernel
theorem own_d_jdk_29_method_49_code_2 : decode jdk_29_method_49_code 2 = .ok (.ldiv, 1) := by decide +kernel
theorem own_d_jdk_29_method_49_code_3 : decode jdk_29_method_49_code 3 = .ok (.lstore 4, 2) := by decide +kernel
theorem own_d_jdk_29_method_49_code_5 : decode jdk_29_method_49_code 5 = .ok (.lload_n 0, 1) := by decide +kernel
theorem own_d_jdk_29_method_49_code_6 : decode jdk_29_method_49_code 6 = .ok (.lload_n 2, 1) := by decide +kernel
theorem own_d_jdk_29_method_49_code_7 : decode jdk_29_method_49_code 7 = .ok (.lxor, 1) := by decide +kernel
theorem own_d_jdk_29_method_49_code_8 : decode jdk_29_method_49_code 8 = .ok (.lconst 0, 1) := by decide +kernel
theorem own_d_jdk_29_method_49_code_9 : decode jdk_29_method_49_code 9 = .ok (.lcmp, 1) := by decide +kernel
theorem own_d_jdk_29_method_49_code_10 : decode jdk_29_method_49_code 10 = .ok (.ifCond .ge 17, 3) := by decide +kernel
theorem own_d_jdk_29_method_49_code_27 : decode jdk_29_method_49_code 27 = .ok (.lload 4, 2) := by decide +kernel
theorem own_d_jdk_29_method_49_code_29 : decode jdk_29_method_49_code 29 = .ok (.lreturn, 1) := by decide +kernel
theorem own_pf_18 : plainFor (⟨"java/lang/Math", "floorDiv", "(JJ)J"⟩ : MethodName) = true := by decide +kernel
set_option maxRecDepth 65536 in
set_option maxHeartbeats 4000000 in
theorem own_fdiv (l : Launch) (Z : State) (a0 : Array Value) (hw : ∀ d ∈ tables_1, d.before a0 Z = true) (h0 : Heap) (n0 : Nat) (O : Old Z n0 h0) (x : Int64) (y : Int64) (hx0 : ¬ x < 0) (hy0 : ¬ y < 0) (hy : y ≠ 0) :
    Con l Z n0 (⟨"java/lang/Math", "floorDiv", "(JJ)J"⟩ : MethodName) jdk_29_method_49_code 6 (some .long) [] ({ frames := 0, cells := 0, slots := 0, locals := 0 } : Room) #[(.long x), (.long y)] h0 [] (fun v h' => v = some (.long (x / y)) ∧ h' = h0) := by
  refine Con.of a0 own_pf_18 O (fun _ q => nomatch q) [] (fun _ q => nomatch q) ?_
  intro p e s m below meth cdX T S hby hml hret hnm
  refine Go.cast (own_ef_17 m x y) ?_
  refine S.lloadN 1 (hb hby own_d_jdk_29_method_49_code_0) rfl ?_
  refine S.lloadN 2 (hb hby own_d_jdk_29_method_49_code_1) rfl ?_
  refine S.ldiv 3 (hb hby own_d_jdk_29_method_49_code_2) hy ?_
  show Go p e below _ T (mkF m 3 #[.val (.long x), .second, .val (.long y), .second, .unset, .unset] [(.long (x / y))])
  refine S.lstore 5 #[.val (.long x), .second, .val (.long y), .second, .val (.long (x / y)), .second] (hb hby own_d_jdk_29_method_49_code_3) rfl ?_
  refine S.lloadN 6 (hb hby own_d_jdk_29_method_49_code_5) rfl ?_
  refine S.lloadN 7 (hb hby own_d_jdk_29_method_49_code_6) rfl ?_
  refine S.lxor 8 (hb hby own_d_jdk_29_method_49_code_7) ?_
  show Go p e below _ T (mkF m 8 #[.val (.long x), .second, .val (.long y), .second, .val (.long (x / y)), .second] [(.long (x ^^^ y))])
  refine S.lconst 9 (0 : Int64) (hb hby own_d_jdk_29_method_49_code_8) ?_
  refine S.lcmp 10 (hb hby own_d_jdk_29_method_49_code_9) ?_
  show Go p e below _ T (mkF m 10 #[.val (.long x), .second, .val (.long y), .second, .val (.long (x / y)), .second] [(.int (lcmpW (x ^^^ y) (0 : Int64)))])
  refine S.ifY 27 (hb hby own_d_jdk_29_method_49_code_10) (zGeT (fun q => own_xor hx0 hy0 ((lw_lt _ _).mp q))) ?_
  refine S.lload 29 (hb hby own_d_jdk_29_method_49_code_27) rfl ?_
  exact S.retJ (hb hby own_d_jdk_29_method_49_code_29) hret (by decide) (by decide) ⟨rfl, rfl⟩

theorem own_d_jdk_29_method_52_code_0 : decode jdk_29_method_52_code 0 = .ok (.lload_n 0, 1) := by decide +kernel
theorem own_d_jdk_29_method_52_code_1 : decode jdk_29_method_52_code 1 = .ok (.lload_n 2, 1) := by decide +kernel
theorem own_d_jdk_29_method_52_code_2 : decode jdk_29_method_52_code 2 = .ok (.lrem, 1) := by decide +kernel
theorem own_d_jdk_29_method_52_code_3 : decode jdk_29_method_52_code 3 = .ok (.lstore 4, 2) := by decide +kernel
theorem own_d_jdk_29_method_52_code_5 : decode jdk_29_method_52_code 5 = .ok (.lload_n 0, 1) := by decide +kernel
theorem own_d_jdk_29_method_52_code_6 : decode jdk_29_method_52_code 6 = .ok (.lload_n 2, 1) := by decide +kernel
theorem own_d_jdk_29_method_52_code_7 : decode jdk_29_method_52_code 7 = .ok (.lxor, 1) := by decide +kernel
theorem own_d_jdk_29_method_52_code_8 : decode jdk_29_method_52_code 8 = .ok (.lconst 0, 1) := by decide +kernel
theorem own_d_jdk_29_method_52_code_9 : decode jdk_29_method_52_code 9 = .ok (.lcmp, 1) := by decide +kernel
theorem own_d_jdk_29_method_52_code_10 : decode jdk_29_method_52_code 10 = .ok (.ifCond .ge 15, 3) := by decide +kernel
theorem own_d_jdk_29_method_52_code_25 : decode jdk_29_method_52_code 25 = .ok (.lload 4, 2) := by decide +kernel
theorem own_d_jdk_29_method_52_code_27 : decode jdk_29_method_52_code 27 = .ok (.lreturn, 1) := by decide +kernel
theorem own_pf_19 : plainFor (⟨"java/lang/Math", "floorMod", "(JJ)J"⟩ : MethodName) = true := by decide +kernel
set_option maxRecDepth 65536 in
set_option maxHeartbeats 4000000 in
theorem own_fmod (l : Launch) (Z : State) (a0 : Array Value) (hw : ∀ d ∈ tables_1, d.before a0 Z = true) (h0 : Heap) (n0 : Nat) (O : Old Z n0 h0) (x : Int64) (y : Int64) (hx0 : ¬ x < 0) (hy0 : ¬ y < 0) (hy : y ≠ 0) :
    Con l Z n0 (⟨"java/lang/Math", "floorMod", "(JJ)J"⟩ : MethodName) jdk_29_method_52_code 6 (some .long) [] ({ frames := 0, cells := 0, slots := 0, locals := 0 } : Room) #[(.long x), (.long y)] h0 [] (fun v h' => v = some (.long (x - (x / y) * y)) ∧ h' = h0) := by
  refine Con.of a0 own_pf_19 O (fun _ q => nomatch q) [] (fun _ q => nomatch q) ?_
  intro p e s m below meth cdX T S hby hml hret hnm
  refine Go.cast (own_ef_17 m x y) ?_
  refine S.lloadN 1 (hb hby own_d_jdk_29_method_52_code_0) rfl ?_
  refine S.lloadN 2 (hb hby own_d_jdk_29_method_52_code_1) rfl ?_
  refine S.lrem 3 (hb hby own_d_jdk_29_method_52_code_2) hy ?_
  show Go p e below _ T (mkF m 3 #[.val (.long x), .second, .val (.long y), .second, .unset, .unset] [(.long (x - (x / y) * y))])
  refine S.lstore 5 #[.val (.long x), .second, .val (.long y), .second, .val (.long (x - (x / y) * y)), .second] (hb hby own_d_jdk_29_method_52_code_3) rfl ?_
  refine S.lloadN 6 (hb hby own_d_jdk_29_method_52_code_5) rfl ?_
  refine S.lloadN 7 (hb hby own_d_jdk_29_method_52_code_6) rfl ?_
  refine S.lxor 8 (hb hby own_d_jdk_29_method_52_code_7) ?_
  show Go p e below _ T (mkF m 8 #[.val (.long x), .second, .val (.long y), .second, .val (.long (x - (x / y) * y)), .second] [(.long (x ^^^ y))])
  refine S.lconst 9 (0 : Int64) (hb hby own_d_jdk_29_method_52_code_8) ?_
  refine S.lcmp 10 (hb hby own_d_jdk_29_method_52_code_9) ?_
  show Go p e below _ T (mkF m 10 #[.val (.long x), .second, .val (.long y), .second, .val (.long (x - (x / y) * y)), .second] [(.int (lcmpW (x ^^^ y) (0 : Int64)))])
  refine S.ifY 25 (hb hby own_d_jdk_29_method_52_code_10) (zGeT (fun q => own_xor hx0 hy0 ((lw_lt _ _).mp q))) ?_
  refine S.lload 27 (hb hby own_d_jdk_29_method_52_code_25) rfl ?_
  exact S.retJ (hb hby own_d_jdk_29_method_52_code_27) hret (by decide) (by decide) ⟨rfl, rfl⟩

theorem own_ef_20 (m : MethodId) (x0 : Int64) (x1 : Int32) : entryFrame m #[(.long x0), (.int x1)] 3 = mkF m 0 #[.val (.long x0), .second, .val (.int x1)] [] := by rfl
theorem own_d_jdk_29_method_51_code_0 : decode jdk_29_method_51_code 0 = .ok (.lload_n 0, 1) := by decide +kernel
theorem own_d_jdk_29_method_51_code_1 : decode jdk_29_method_51_code 1 = .ok (.iload_n 2, 1) := by decide +kernel
theorem own_d_jdk_29_method_51_code_2 : decode jdk_29_method_51_code 2 = .ok (.i2l, 1) := by decide +kernel
theorem own_d_jdk_29_method_51_code_3 : decode jdk_29_method_51_code 3 = .ok (.invokestatic 146, 3) := by decide +kernel
theorem own_pd_21 : parseMethodDescriptor "(JJ)J" = some ⟨[.long, .long], some .long⟩ := by decide +kernel
theorem own_d_jdk_29_method_51_code_6 : decode jdk_29_method_51_code 6 = .ok (.l2i, 1) := by decide +kernel
theorem own_d_jdk_29_method_51_code_7 : decode jdk_29_method_51_code 7 = .ok (.ireturn, 1) := by decide +kernel
theorem own_pf_22 : plainFor (⟨"java/lang/Math", "floorMod", "(JI)I"⟩ : MethodName) = true := by decide +kernel
set_option maxRecDepth 65536 in
set_option maxHeartbeats 4000000 in
theorem own_fmodI (l : Launch) (Z : State) (a0 : Array Value) (hw : ∀ d ∈ tables_1, d.before a0 Z = true) (h0 : Heap) (n0 : Nat) (O : Old Z n0 h0) (x : Int64) (y : Int32) (hx0 : ¬ x < 0) (hy0 : ¬ y.toInt64 < 0) (hy : y.toInt64 ≠ 0) :
    Con l Z n0 (⟨"java/lang/Math", "floorMod", "(JI)I"⟩ : MethodName) jdk_29_method_51_code 3 (some .int) [] ({ frames := 1, cells := 0, slots := 0, locals := 30 } : Room) #[(.long x), (.int y)] h0 [] (fun v h' => v = some (.int (x - (x / y.toInt64) * y.toInt64).toInt32) ∧ h' = h0) := by
  refine Con.of a0 own_pf_22 O (fun _ q => nomatch q) [] (fun _ q => nomatch q) ?_
  intro p e s m below meth cdX T S hby hml hret hnm
  refine Go.cast (own_ef_20 m x y) ?_
  refine S.lloadN 1 (hb hby own_d_jdk_29_method_51_code_0) rfl ?_
  refine S.iloadN 2 (hb hby own_d_jdk_29_method_51_code_1) rfl ?_
  refine S.i2l 3 (hb hby own_d_jdk_29_method_51_code_2) ?_
  refine S.scall 6 (hb hby own_d_jdk_29_method_51_code_3) (by rw [hml]; rfl) (Tw hw 91 rfl) (Tw hw 92 rfl) (Tw hw 84 rfl) (Tw hw 93 rfl) (by decide) [(.long x), (.long (y.toInt64))] [] (Con.pay (W := 0) (own_fmod l Z a0 hw h0 n0 S.old x (y.toInt64) hx0 hy0 hy) (Tw hw 93 rfl) (Tw hw 84 rfl) (by decide) (by decide)) (lenOf own_pd_21 rfl) rfl (Nle rfl) (by decide) (by decide) Wrs.nil ?_
  intro v150 T151 h152 L153 S154 q155 K156
  obtain ⟨rfl, e_q155⟩ := q155
  obtain rfl := e_q155.symm
  show Go p e below _ T151 (mkF m 6 #[.val (.long x), .second, .val (.int y)] [(.long (x - (x / y.toInt64) * y.toInt64))])
  refine S154.l2i 7 (hb hby own_d_jdk_29_method_51_code_6) ?_
  exact S154.retI (hb hby own_d_jdk_29_method_51_code_7) hret (by decide) (by decide) ⟨rfl, rfl⟩

theorem own_ef_23 (m : MethodId) (x0 : Int64) : entryFrame m #[(.long x0)] 4 = mkF m 0 #[.val (.long x0), .second, .unset, .unset] [] := by rfl
theorem own_d_prog_67_method_8_code_0 : decode prog_67_method_8_code 0 = .ok (.lload_n 0, 1) := by decide +kernel
theorem own_d_prog_67_method_8_code_1 : decode prog_67_method_8_code 1 = .ok (.getstatic 103, 3) := by decide +kernel
theorem own_d_prog_67_method_8_code_4 : decode prog_67_method_8_code 4 = .ok (.invokestatic 111, 3) := by decide +kernel
theorem own_d_prog_67_method_8_code_7 : decode prog_67_method_8_code 7 = .ok (.lstore_n 2, 1) := by decide +kernel
theorem own_d_prog_67_method_8_code_8 : decode prog_67_method_8_code 8 = .ok (.lload_n 2, 1) := by decide +kernel
theorem own_d_prog_67_method_8_code_9 : decode prog_67_method_8_code 9 = .ok (.getstatic 117, 3) := by decide +kernel
theorem own_d_prog_67_method_8_code_12 : decode prog_67_method_8_code 12 = .ok (.invokestatic 120, 3) := by decide +kernel
theorem own_pd_24 : parseMethodDescriptor "(JI)I" = some ⟨[.long, .int], some .int⟩ := by decide +kernel
theorem own_d_prog_67_method_8_code_15 : decode prog_67_method_8_code 15 = .ok (.ireturn, 1) := by decide +kernel
theorem own_pn_25 : plainName "com/example/astraea/astraea/model/Usage" = true := by first | (simp [plainName, overriddenIn]; done) | decide +kernel
set_option maxRecDepth 65536 in
set_option maxHeartbeats 4000000 in
theorem own_qj (l : Launch) (Z : State) (a0 : Array Value) (hw : ∀ d ∈ tables_1, d.before a0 Z = true) (us : Us Z) (h0 : Heap) (n0 : Nat) (O : Old Z n0 h0) (x : Int64) (hx0 : ¬ x < 0) (hx1 : ¬ (x / 900) < 0) :
    Con l Z n0 (⟨"com/example/astraea/astraea/model/Usage", "quarterHourOfDay", "(J)I"⟩ : MethodName) prog_67_method_8_code 4 (some .int) [] ({ frames := 2, cells := 0, slots := 0, locals := 60 } : Room) #[(.long x)] h0 [] (fun v h' => v = some (.int ((x / 900) - ((x / 900) / (96 : Int32).toInt64) * (96 : Int32).toInt64).toInt32) ∧ h' = h0) := by
  refine Con.of a0 (plainFor_of_name own_pn_25) O (fun _ q => nomatch q) [] (fun _ q => nomatch q) ?_
  intro p e s m below meth cdX T S hby hml hret hnm
  refine Go.cast (own_ef_23 m x) ?_
  refine S.lloadN 1 (hb hby own_d_prog_67_method_8_code_0) rfl ?_
  refine S.gets (host := "") 4 (hb hby own_d_prog_67_method_8_code_1) (Or.inl (Tw hw 80 rfl)) Via.refl (us.1.ext S.old.2) ?_
  intro T157 S158
  refine S158.scall 7 (hb hby own_d_prog_67_method_8_code_4) (by rw [hml]; rfl) (Tw hw 82 rfl) (Tw hw 83 rfl) (Tw hw 84 rfl) (Tw hw 85 rfl) (by decide) [(.long x), (.long (900 : Int64))] [] (Con.pay (W := 0) (own_fdiv l Z a0 hw h0 n0 S158.old x (900 : Int64) hx0 (by decide) (by decide)) (Tw hw 85 rfl) (Tw hw 84 rfl) (by decide) (by decide)) (lenOf own_pd_21 rfl) rfl (Nle rfl) (by decide) (by decide) Wrs.nil ?_
  intro v159 T160 h161 L162 S163 q164 K165
  obtain ⟨rfl, e_q164⟩ := q164
  obtain rfl := e_q164.symm
  show Go p e below _ T160 (mkF m 7 #[.val (.long x), .second, .unset, .unset] [(.long (x / 900))])
  refine S163.lstoreN 8 #[.val (.long x), .second, .val (.long (x / 900)), .second] (hb hby own_d_prog_67_method_8_code_7) rfl ?_
  refine S163.lloadN 9 (hb hby own_d_prog_67_method_8_code_8) rfl ?_
  refine S163.gets (host := "") 12 (hb hby own_d_prog_67_method_8_code_9) (Or.inl (Tw hw 86 rfl)) Via.refl (us.2.ext S163.old.2) ?_
  intro T166 S167
  refine S167.scall 15 (hb hby own_d_prog_67_method_8_code_12) (by rw [hml]; rfl) (Tw hw 88 rfl) (Tw hw 89 rfl) (Tw hw 84 rfl) (Tw hw 90 rfl) (by decide) [(.long (x / 900)), (.int (96 : Int32))] [] (Con.pay (W := 0) (own_fmodI l Z a0 hw h0 n0 S167.old (x / 900) (96 : Int32) hx1 (by decide) (by decide)) (Tw hw 90 rfl) (Tw hw 84 rfl) (by decide) (by decide)) (lenOf own_pd_24 rfl) rfl (Nle rfl) (by decide) (by decide) Wrs.nil ?_
  intro v168 T169 h170 L171 S172 q173 K174
  obtain ⟨rfl, e_q173⟩ := q173
  obtain rfl := e_q173.symm
  show Go p e below _ T169 (mkF m 15 #[.val (.long x), .second, .val (.long (x / 900)), .second] [(.int ((x / 900) - ((x / 900) / (96 : Int32).toInt64) * (96 : Int32).toInt64).toInt32)])
  exact S172.retI (hb hby own_d_prog_67_method_8_code_15) hret (by decide) (by decide) ⟨rfl, rfl⟩

theorem own_fit {z : Int32} {w : Int} (h : (z.toInt - w) % 4294967296 = 0) (a : -2147483648 ≤ w) (b : w < 2147483648) : z.toInt = w := by
  have := rng32 z; omega
theorem own_i1 {a b c : Int} (a0 : 0 ≤ a) (a1 : a < 24) (b0 : 0 ≤ b) (b1 : b < 60) (c0 : 0 ≤ c) (c1 : c < 60) : (a * 3600 + b * 60 + c) / 900 = a * 4 + b / 15 ∧ (a * 4 + b / 15) % 96 = a * 4 + b / 15 ∧ 0 ≤ a * 4 + b / 15 ∧ a * 4 + b / 15 < 96 := by
  have h1 : b / 15 ≤ 3 := by omega
  have h2 : 0 ≤ b / 15 := by omega
  refine ⟨?_, ?_, ?_, ?_⟩ <;> omega
theorem own_secs_int {hh mm ss : Int32} (bh : Bd hh 24) (bm : Bd mm 60) (bs : Bd ss 60) : (((hh * (3600 : Int32)) + (mm * (60 : Int32)) + ss)).toInt64.toInt = hh.toInt * 3600 + mm.toInt * 60 + ss.toInt := by
  rw [c_i2l]
  have q1 : (hh * 3600).toInt = hh.toInt * 3600 := own_fit (c_imul hh 3600) (by have := bh.1; omega) (by have := bh.2; omega)
  have q2 : (mm * 60).toInt = mm.toInt * 60 := own_fit (c_imul mm 60) (by have := bm.1; omega) (by have := bm.2; omega)
  have q3 : (hh * 3600 + mm * 60).toInt = hh.toInt * 3600 + mm.toInt * 60 := by
    have e := c_iadd (hh * 3600) (mm * 60)
    rw [q1, q2] at e
    exact own_fit e (by have := bh.1; have := bm.1; omega) (by have := bh.2; have := bm.2; omega)
  have e := c_iadd (hh * 3600 + mm * 60) ss
  rw [q3] at e
  exact own_fit e (by have := bh.1; have := bm.1; have := bs.1; omega) (by have := bh.2; have := bm.2; have := bs.2; omega)
theorem own_secs_ge {hh mm ss : Int32} (bh : Bd hh 24) (bm : Bd mm 60) (bs : Bd ss 60) : ¬ (((hh * (3600 : Int32)) + (mm * (60 : Int32)) + ss)).toInt64 < 0 ∧ ¬ ((((hh * (3600 : Int32)) + (mm * (60 : Int32)) + ss)).toInt64 / 900) < 0 := by
  have e := own_secs_int bh bm bs
  have e0 : (0 : Int64).toInt = 0 := rfl
  have g : 0 ≤ (((hh * (3600 : Int32)) + (mm * (60 : Int32)) + ss)).toInt64.toInt := by rw [e]; have := bh.1; have := bm.1; have := bs.1; omega
  refine ⟨fun q => ?_, fun q => ?_⟩
  · rw [Int64.lt_iff_toInt_lt, e0] at q; exact absurd g (Int.not_le.mpr q)
  · rw [Int64.lt_iff_toInt_lt, e0, (c_ldiv (((hh * (3600 : Int32)) + (mm * (60 : Int32)) + ss)).toInt64 900 900 rfl (by decide)).1 g] at q
    exact absurd (Int.ediv_nonneg g (by decide)) (Int.not_le.mpr q)
theorem own_num {hh mm ss : Int32} (bh : Bd hh 24) (bm : Bd mm 60) (bs : Bd ss 60) (x : Int64) (hx : x = (((hh * (3600 : Int32)) + (mm * (60 : Int32)) + ss)).toInt64) : ((x / 900) - ((x / 900) / (96 : Int32).toInt64) * (96 : Int32).toInt64).toInt32 = hh * 4 + mm / 15 ∧ ¬ (((x / 900) - ((x / 900) / (96 : Int32).toInt64) * (96 : Int32).toInt64).toInt32 < 0) ∧ (((x / 900) - ((x / 900) / (96 : Int32).toInt64) * (96 : Int32).toInt64).toInt32 < 96) := by
  have e : x.toInt = hh.toInt * 3600 + mm.toInt * 60 + ss.toInt := by rw [hx]; exact own_secs_int bh bm bs
  obtain ⟨i1, i2, i3, i4⟩ := own_i1 bh.1 bh.2 bm.1 bm.2 bs.1 bs.2
  have g : 0 ≤ x.toInt := by rw [e]; have := bh.1; have := bm.1; have := bs.1; omega
  have d1 := (c_ldiv x 900 900 rfl (by decide)).1 g
  rw [e, i1] at d1
  have d2 := (c_lrem (x / 900) (96 : Int32).toInt64 96 rfl).1 (by rw [d1]; exact i3)
  rw [d1, i2] at d2
  have d3 := c_l2i ((x / 900) - ((x / 900) / (96 : Int32).toInt64) * (96 : Int32).toInt64)
  rw [d2] at d3
  have k : ((x / 900) - ((x / 900) / (96 : Int32).toInt64) * (96 : Int32).toInt64).toInt32.toInt = hh.toInt * 4 + mm.toInt / 15 := own_fit d3 (by omega) (by omega)
  have m1 : (hh * 4).toInt = hh.toInt * 4 := own_fit (c_imul hh 4) (by have := bh.1; omega) (by have := bh.2; omega)
  have m2 := (c_idiv mm 15 15 rfl (by decide)).1 bm.1
  have m3 := c_iadd (hh * 4) (mm / 15)
  rw [m1, m2] at m3
  have k2 : (hh * 4 + mm / 15).toInt = hh.toInt * 4 + mm.toInt / 15 := own_fit m3 (by omega) (by omega)
  have e0 : (0 : Int32).toInt = 0 := rfl
  have e96 : (96 : Int32).toInt = 96 := rfl
  refine ⟨Int32.toInt_inj.mp (by rw [k, k2]), fun q => ?_, ?_⟩
  · rw [Int32.lt_iff_toInt_lt, k, e0] at q; exact absurd i3 (Int.not_le.mpr q)
  · rw [Int32.lt_iff_toInt_lt, k, e96]; exact i4
theorem own_d_prog_67_method_7_code_0 : decode prog_67_method_7_code 0 = .ok (.aload_n 0, 1) := by decide +kernel
theorem own_d_prog_67_method_7_code_1 : decode prog_67_method_7_code 1 = .ok (.invokevirtual 91, 3) := by decide +kernel
theorem own_pd_26 : parseMethodDescriptor "()I" = some ⟨[], some .int⟩ := by decide +kernel
theorem own_d_prog_67_method_7_code_4 : decode prog_67_method_7_code 4 = .ok (.i2l, 1) := by decide +kernel
theorem own_d_prog_67_method_7_code_5 : decode prog_67_method_7_code 5 = .ok (.invokestatic 107, 3) := by decide +kernel
theorem own_pd_27 : parseMethodDescriptor "(J)I" = some ⟨[.long], some .int⟩ := by decide +kernel
theorem own_d_prog_67_method_7_code_8 : decode prog_67_method_7_code 8 = .ok (.ireturn, 1) := by decide +kernel
set_option maxRecDepth 65536 in
set_option maxHeartbeats 4000000 in
theorem own_ql (l : Launch) (Z : State) (a0 : Array Value) (hw : ∀ d ∈ tables_1, d.before a0 Z = true) (us : Us Z) (h0 : Heap) (n0 : Nat) (O : Old Z n0 h0) (a : Addr) (hh : Int32) (mm : Int32) (ss : Int32) (bh : Bd hh 24) (bm : Bd mm 60) (bs : Bd ss 60) (E : Exa Z h0 a "java/time/LocalTime") (F0 : Fld Z h0 a "java/time/LocalTime" "hour" "B" (.int hh)) (F1 : Fld Z h0 a "java/time/LocalTime" "minute" "B" (.int mm)) (F2 : Fld Z h0 a "java/time/LocalTime" "second" "B" (.int ss)) :
    Con l Z n0 (⟨"com/example/astraea/astraea/model/Usage", "quarterHourOfDay", "(Ljava/time/LocalTime;)I"⟩ : MethodName) prog_67_method_7_code 1 (some .int) [] ({ frames := 3, cells := 0, slots := 0, locals := 90 } : Room) #[(.ref a)] h0 [] (fun v h' => v = some (.int (hh * 4 + mm / 15)) ∧ h' = h0) := by
  refine Con.of a0 (plainFor_of_name own_pn_25) O (fun _ q => nomatch q) [] (fun _ q => nomatch q) ?_
  intro p e s m below meth cdX T S hby hml hret hnm
  refine Go.cast (own_ef_1 m a) ?_
  refine S.aloadN 1 (hb hby own_d_prog_67_method_7_code_0) rfl rfl ?_
  refine S.vcall 4 (hb hby own_d_prog_67_method_7_code_1) (by rw [hml]; rfl) (Tw hw 72 rfl) (Tw hw 73 rfl) (Tw hw 75 rfl) (Tw hw 74 rfl) (nfSel (Tw hw 75 rfl)) (by decide) E [] [] (Con.pay (W := 0) (own_secs l Z a0 hw h0 n0 S.old a hh mm ss F0 F1 F2) (Tw hw 76 rfl) (Tw hw 4 rfl) (by decide) (by decide)) (lenOf own_pd_26 rfl) rfl (Nle rfl) (by decide) (by decide) Wrs.nil ?_
  intro v175 T176 h177 L178 S179 q180 K181
  obtain ⟨rfl, e_q180⟩ := q180
  obtain rfl := e_q180.symm
  show Go p e below _ T176 (mkF m 4 #[.val (.ref a)] [(.int ((hh * (3600 : Int32)) + (mm * (60 : Int32)) + ss))])
  refine S179.i2l 5 (hb hby own_d_prog_67_method_7_code_4) ?_
  refine S179.scall 8 (hb hby own_d_prog_67_method_7_code_5) (by rw [hml]; rfl) (Tw hw 77 rfl) (Tw hw 78 rfl) (Tw hw 70 rfl) (Tw hw 79 rfl) (by decide) [(.long (((hh * (3600 : Int32)) + (mm * (60 : Int32)) + ss).toInt64))] [] (Con.pay (W := 0) (own_qj l Z a0 hw us h0 n0 S179.old (((hh * (3600 : Int32)) + (mm * (60 : Int32)) + ss).toInt64) (own_secs_ge bh bm bs).1 (own_secs_ge bh bm bs).2) (Tw hw 79 rfl) (Tw hw 70 rfl) (by decide) (by decide)) (lenOf own_pd_27 rfl) rfl (Nle rfl) (by decide) (by decide) Wrs.nil ?_
  intro v182 T183 h184 L185 S186 q187 K188
  obtain ⟨rfl, e_q187⟩ := q187
  obtain rfl := e_q187.symm
  show Go p e below _ T183 (mkF m 8 #[.val (.ref a)] [(.int (((((hh * (3600 : Int32)) + (mm * (60 : Int32)) + ss)).toInt64 / 900) - (((((hh * (3600 : Int32)) + (mm * (60 : Int32)) + ss)).toInt64 / 900) / (96 : Int32).toInt64) * (96 : Int32).toInt64).toInt32)])
  exact S186.retI (hb hby own_d_prog_67_method_7_code_8) hret (by decide) (by decide) ⟨by rw [(own_num bh bm bs _ rfl).1], rfl⟩

theorem own_bnd {hh mm : Int32} (bh : Bd hh 24) (bm : Bd mm 60) : ¬ (hh * 4 + mm / 15 < 0) ∧ (hh * 4 + mm / 15 < 96) := by
  have q := own_num (ss := 0) bh bm ⟨by decide, by decide⟩ _ rfl
  rw [q.1] at q
  exact q.2
set_option maxHeartbeats 4000000 in
theorem own_ef_28 (m : MethodId) (x0 : Int32) (x1 : Int32) (x2 : Int32) (x3 : Int32) : entryFrame m #[(.int x0), (.int x1), (.int x2), (.int x3)] maxLocals = mkF m 0 #[.val (.int x0), .val (.int x1), .val (.int x2), .val (.int x3), .unset, .unset, .unset, .unset, .unset, .unset, .unset] [] := by simp [entryFrame, mkF, argsToLocals, Value.category, maxLocals]
theorem own_pd_29 : parseMethodDescriptor "(Ljava/time/LocalTime;)I" = some ⟨[(.object "java/time/LocalTime")], some .int⟩ := by decide +kernel
theorem own_pn_30 : plainName "com/example/astraea/astraea/model/UsageQuarterHourOfDayPinLaw" = true := by first | (simp [plainName, overriddenIn]; done) | decide +kernel
set_option maxRecDepth 65536 in
set_option maxHeartbeats 4000000 in
theorem own_law (l : Launch) (Z : State) (a0 : Array Value) (hw : ∀ d ∈ tables_1, d.before a0 Z = true) (hr : Hrs Z) (c1 : Cf Z "HOUR_OF_DAY" 0 23) (c2 : Cf Z "MINUTE_OF_HOUR" 0 59) (c3 : Cf Z "SECOND_OF_MINUTE" 0 59) (c4 : Cf Z "NANO_OF_SECOND" 0 999999999) (us : Us Z) (h0 : Heap) (n0 : Nat) (O : Old Z n0 h0) (p1 : Int32) (p2 : Int32) (p3 : Int32) (p4 : Int32) :
    Con l Z n0 x code maxLocals ret tables_1 room_1 #[(.int p1), (.int p2), (.int p3), (.int p4)] h0 [] (fun v h' => v = some (.int 1)) := by
  refine Con.of a0 (plainFor_of_name own_pn_30) O (fun _ q => nomatch q) [] (fun _ q => nomatch q) ?_
  intro p e s m below meth cdX T S hby hml hret hnm
  refine Go.cast (own_ef_28 m p1 p2 p3 p4) ?_
  refine S.iloadN 1 (hb hby at_0) rfl ?_
  refine S.ldcI 3 (hb hby at_1) (Tw hw 0 rfl) ?_
  refine S.iand 4 (hb hby at_3) ?_
  show Go p e below _ T (mkF m 4 #[.val (.int p1), .val (.int p2), .val (.int p3), .val (.int p4), .unset, .unset, .unset, .unset, .unset, .unset, .unset] [(.int (p1 &&& (2147483647 : Int32)))])
  refine S.bipush 6 (24 : Int32) (hb hby at_4) ?_
  refine S.irem 7 (hb hby at_6) (by decide) ?_
  show Go p e below _ T (mkF m 7 #[.val (.int p1), .val (.int p2), .val (.int p3), .val (.int p4), .unset, .unset, .unset, .unset, .unset, .unset, .unset] [(.int ((p1 &&& (2147483647 : Int32)) % (24 : Int32)))])
  have b_hh_189 := own_mod p1 (24 : Int32) 24 rfl (by decide)
  generalize e_hh_189 : ((p1 &&& (2147483647 : Int32)) % (24 : Int32)) = hh_189 at b_hh_189 ⊢
  refine S.istore 9 #[.val (.int p1), .val (.int p2), .val (.int p3), .val (.int p4), .val (.int hh_189), .unset, .unset, .unset, .unset, .unset, .unset] (hb hby at_7) rfl ?_
  refine S.iloadN 10 (hb hby at_9) rfl ?_
  refine S.ldcI 12 (hb hby at_10) (Tw hw 0 rfl) ?_
  refine S.iand 13 (hb hby at_12) ?_
  show Go p e below _ T (mkF m 13 #[.val (.int p1), .val (.int p2), .val (.int p3), .val (.int p4), .val (.int hh_189), .unset, .unset, .unset, .unset, .unset, .unset] [(.int (p2 &&& (2147483647 : Int32)))])
  refine S.bipush 15 (60 : Int32) (hb hby at_13) ?_
  refine S.irem 16 (hb hby at_15) (by decide) ?_
  show Go p e below _ T (mkF m 16 #[.val (.int p1), .val (.int p2), .val (.int p3), .val (.int p4), .val (.int hh_189), .unset, .unset, .unset, .unset, .unset, .unset] [(.int ((p2 &&& (2147483647 : Int32)) % (60 : Int32)))])
  have b_mm_190 := own_mod p2 (60 : Int32) 60 rfl (by decide)
  generalize e_mm_190 : ((p2 &&& (2147483647 : Int32)) % (60 : Int32)) = mm_190 at b_mm_190 ⊢
  refine S.istore 18 #[.val (.int p1), .val (.int p2), .val (.int p3), .val (.int p4), .val (.int hh_189), .val (.int mm_190), .unset, .unset, .unset, .unset, .unset] (hb hby at_16) rfl ?_
  refine S.iloadN 19 (hb hby at_18) rfl ?_
  refine S.ldcI 21 (hb hby at_19) (Tw hw 0 rfl) ?_
  refine S.iand 22 (hb hby at_21) ?_
  show Go p e below _ T (mkF m 22 #[.val (.int p1), .val (.int p2), .val (.int p3), .val (.int p4), .val (.int hh_189), .val (.int mm_190), .unset, .unset, .unset, .unset, .unset] [(.int (p3 &&& (2147483647 : Int32)))])
  refine S.bipush 24 (60 : Int32) (hb hby at_22) ?_
  refine S.irem 25 (hb hby at_24) (by decide) ?_
  show Go p e below _ T (mkF m 25 #[.val (.int p1), .val (.int p2), .val (.int p3), .val (.int p4), .val (.int hh_189), .val (.int mm_190), .unset, .unset, .unset, .unset, .unset] [(.int ((p3 &&& (2147483647 : Int32)) % (60 : Int32)))])
  have b_ss_191 := own_mod p3 (60 : Int32) 60 rfl (by decide)
  generalize e_ss_191 : ((p3 &&& (2147483647 : Int32)) % (60 : Int32)) = ss_191 at b_ss_191 ⊢
  refine S.istore 27 #[.val (.int p1), .val (.int p2), .val (.int p3), .val (.int p4), .val (.int hh_189), .val (.int mm_190), .val (.int ss_191), .unset, .unset, .unset, .unset] (hb hby at_25) rfl ?_
  refine S.iloadN 28 (hb hby at_27) rfl ?_
  refine S.ldcI 30 (hb hby at_28) (Tw hw 0 rfl) ?_
  refine S.iand 31 (hb hby at_30) ?_
  show Go p e below _ T (mkF m 31 #[.val (.int p1), .val (.int p2), .val (.int p3), .val (.int p4), .val (.int hh_189), .val (.int mm_190), .val (.int ss_191), .unset, .unset, .unset, .unset] [(.int (p4 &&& (2147483647 : Int32)))])
  refine S.ldcI 33 (hb hby at_31) (Tw hw 1 rfl) ?_
  refine S.irem 34 (hb hby at_33) (by decide) ?_
  show Go p e below _ T (mkF m 34 #[.val (.int p1), .val (.int p2), .val (.int p3), .val (.int p4), .val (.int hh_189), .val (.int mm_190), .val (.int ss_191), .unset, .unset, .unset, .unset] [(.int ((p4 &&& (2147483647 : Int32)) % (1000000000 : Int32)))])
  have b_nn_192 := own_mod p4 (1000000000 : Int32) 1000000000 rfl (by decide)
  generalize e_nn_192 : ((p4 &&& (2147483647 : Int32)) % (1000000000 : Int32)) = nn_192 at b_nn_192 ⊢
  refine S.istore 36 #[.val (.int p1), .val (.int p2), .val (.int p3), .val (.int p4), .val (.int hh_189), .val (.int mm_190), .val (.int ss_191), .val (.int nn_192), .unset, .unset, .unset] (hb hby at_34) rfl ?_
  refine S.iload 38 (hb hby at_36) rfl ?_
  refine S.iload 40 (hb hby at_38) rfl ?_
  refine S.iload 42 (hb hby at_40) rfl ?_
  refine S.iload 44 (hb hby at_42) rfl ?_
  refine S.scall 47 (hb hby at_44) (by rw [hml]; rfl) (Tw hw 2 rfl) (Tw hw 3 rfl) (Tw hw 4 rfl) (Tw hw 5 rfl) (by decide) [(.int hh_189), (.int mm_190), (.int ss_191), (.int nn_192)] [] (Con.pay (W := 0) (own_of l Z a0 hw hr c1 c2 c3 c4 h0 n0 S.old hh_189 mm_190 ss_191 nn_192 b_hh_189 b_mm_190 b_ss_191 b_nn_192) (Tw hw 5 rfl) (Tw hw 4 rfl) (by decide) (by decide)) (lenOf own_pd_15 rfl) rfl (Nle rfl) (by decide) (by decide) Wrs.nil ?_
  intro v193 T194 h195 L196 S197 q198 K199
  obtain ⟨b, rfl, g1, g2, g3, g4⟩ := q198
  show Go p e below _ T194 (mkF m 47 #[.val (.int p1), .val (.int p2), .val (.int p3), .val (.int p4), .val (.int hh_189), .val (.int mm_190), .val (.int ss_191), .val (.int nn_192), .unset, .unset, .unset] [(.ref b)])
  refine S197.astore 49 #[.val (.int p1), .val (.int p2), .val (.int p3), .val (.int p4), .val (.int hh_189), .val (.int mm_190), .val (.int ss_191), .val (.int nn_192), .val (.ref b), .unset, .unset] (hb hby at_47) rfl rfl ?_
  refine S197.aload 51 (hb hby at_49) rfl rfl ?_
  refine S197.scall 54 (hb hby at_51) (by rw [hml]; rfl) (Tw hw 68 rfl) (Tw hw 69 rfl) (Tw hw 70 rfl) (Tw hw 71 rfl) (by decide) [(.ref b)] [] (Con.pay (W := 0) (own_ql l Z a0 hw us h195 n0 S197.old b hh_189 mm_190 ss_191 b_hh_189 b_mm_190 b_ss_191 g1 g2 g3 g4) (Tw hw 71 rfl) (Tw hw 70 rfl) (by decide) (by decide)) (lenOf own_pd_29 rfl) rfl (Nle rfl) (by decide) (by decide) Wrs.nil ?_
  intro v200 T201 h202 L203 S204 q205 K206
  obtain ⟨rfl, e_q205⟩ := q205
  obtain rfl := e_q205.symm
  show Go p e below _ T201 (mkF m 54 #[.val (.int p1), .val (.int p2), .val (.int p3), .val (.int p4), .val (.int hh_189), .val (.int mm_190), .val (.int ss_191), .val (.int nn_192), .val (.ref b), .unset, .unset] [(.int (hh_189 * 4 + mm_190 / 15))])
  refine S204.istore 56 #[.val (.int p1), .val (.int p2), .val (.int p3), .val (.int p4), .val (.int hh_189), .val (.int mm_190), .val (.int ss_191), .val (.int nn_192), .val (.ref b), .val (.int (hh_189 * 4 + mm_190 / 15)), .unset] (hb hby at_54) rfl ?_
  refine S204.iload 58 (hb hby at_56) rfl ?_
  refine S204.iconst 59 (4 : Int32) (hb hby at_58) ?_
  refine S204.imul 60 (hb hby at_59) ?_
  show Go p e below _ T201 (mkF m 60 #[.val (.int p1), .val (.int p2), .val (.int p3), .val (.int p4), .val (.int hh_189), .val (.int mm_190), .val (.int ss_191), .val (.int nn_192), .val (.ref b), .val (.int (hh_189 * 4 + mm_190 / 15)), .unset] [(.int (hh_189 * (4 : Int32)))])
  refine S204.iload 62 (hb hby at_60) rfl ?_
  refine S204.bipush 64 (15 : Int32) (hb hby at_62) ?_
  refine S204.idiv 65 (hb hby at_64) (by decide) ?_
  show Go p e below _ T201 (mkF m 65 #[.val (.int p1), .val (.int p2), .val (.int p3), .val (.int p4), .val (.int hh_189), .val (.int mm_190), .val (.int ss_191), .val (.int nn_192), .val (.ref b), .val (.int (hh_189 * 4 + mm_190 / 15)), .unset] [(.int (mm_190 / (15 : Int32))), (.int (hh_189 * (4 : Int32)))])
  refine S204.iadd 66 (hb hby at_65) ?_
  show Go p e below _ T201 (mkF m 66 #[.val (.int p1), .val (.int p2), .val (.int p3), .val (.int p4), .val (.int hh_189), .val (.int mm_190), .val (.int ss_191), .val (.int nn_192), .val (.ref b), .val (.int (hh_189 * 4 + mm_190 / 15)), .unset] [(.int ((hh_189 * (4 : Int32)) + (mm_190 / (15 : Int32))))])
  refine S204.istore 68 #[.val (.int p1), .val (.int p2), .val (.int p3), .val (.int p4), .val (.int hh_189), .val (.int mm_190), .val (.int ss_191), .val (.int nn_192), .val (.ref b), .val (.int (hh_189 * 4 + mm_190 / 15)), .val (.int ((hh_189 * (4 : Int32)) + (mm_190 / (15 : Int32))))] (hb hby at_66) rfl ?_
  refine S204.iload 70 (hb hby at_68) rfl ?_
  refine S204.iload 72 (hb hby at_70) rfl ?_
  refine S204.icmpN 75 (hb hby at_72) (qNeF rfl) ?_
  refine S204.iload 77 (hb hby at_75) rfl ?_
  refine S204.ifN 80 (hb hby at_77) (zLtF (own_bnd b_hh_189 b_mm_190).1) ?_
  refine S204.iload 82 (hb hby at_80) rfl ?_
  refine S204.bipush 84 (96 : Int32) (hb hby at_82) ?_
  refine S204.icmpN 87 (hb hby at_84) (qGeF (own_bnd b_hh_189 b_mm_190).2) ?_
  refine S204.iconst 88 (1 : Int32) (hb hby at_87) ?_
  refine S204.goto 92 (hb hby at_88) ?_
  exact S204.retN (t := .boolean) (hb hby at_92) hret (by decide) (by decide) (by decide) rfl

set_option maxRecDepth 65536 in
set_option maxHeartbeats 40000000 in
theorem own_comes {Post : Tables → Env → Array Value → State → Outcome → State → Prop} (hpost : ∀ tb e args s v u, (limb_1_1.after args s (.returned v) u = true ∧ limb_1_2.after args s (.returned v) u = true ∧ True) → FrameEnd s (.returned v) u (Jvm.fieldLocs frame_1_writes args s ++ Jvm.arrayLocs frame_1_arrays args s ++ Jvm.staticLocs frame_1_statics s) 16 128 → Post tb e args s (.returned v) u) :
    ArmFor flags0 classFile x code maxLocals ret World_1 tables_1 room_1 Calls_1 rest_1 Pre_1 Post := by
  intro l hfl _ _ p e ha hc hk s m args below hf hA hF happ hP
  obtain ⟨hcalls, hrest, hpre⟩ := hP
  obtain ⟨-, -, -, hnamed, -, -, -, hat⟩ := (Spec.applies_iff hf).mp happ
  obtain ⟨hg, hn⟩ := and_e (Cond.before_iff.mp (show (Jvm.Cond.and given_1 narrow_1).before args s = true from hpre))
  obtain ⟨g0, q0⟩ := and_e hg
  obtain ⟨g1, q1⟩ := and_e q0
  obtain ⟨g2, q2⟩ := and_e q1
  obtain ⟨g3, q3⟩ := and_e q2
  obtain ⟨w0, w1, w2, w3, rfl⟩ : ∃ w0 w1 w2 w3 : Value, args = #[w0, w1, w2, w3] := by
    have hs : args.size = 4 := by simpa [Cond.value, given_1] using g0
    obtain ⟨L⟩ := args
    match L, hs with
    | [w0, w1, w2, w3], _ => exact ⟨w0, w1, w2, w3, rfl⟩
  have hw := fun d (hd : d ∈ tables_1) => atoms_spec (ws := Jvm.Cond.code x code maxLocals ret :: tables_1) hat d (List.mem_cons_of_mem _ hd)
  obtain ⟨hsets, hown0⟩ := atoms_of _ (rest_1_c_eq ▸ (show rest_1_c.before _ s = true from hrest))
  have hr0 := Cond.before_iff.mp hown0
  have hfit : Fit s := fun {y c} hc i hi => by
    obtain ⟨ha, rfl⟩ := Array.getElem?_eq_some_iff.mp hc
    have q := List.all_eq_true.mp ((Array.all_eq_true_iff_forall_mem.mp hF) _ (Array.getElem_mem ha)) i (List.mem_range.mpr hi)
    simpa [Array.getElem?_eq_getElem hi] using q
  obtain ⟨i0, e0⟩ := is_v g1
  obtain rfl : w0 = (.int i0) := Option.some.inj e0
  obtain ⟨i1, e1⟩ := is_v g2
  obtain rfl : w1 = (.int i1) := Option.some.inj e1
  obtain ⟨i2, e2⟩ := is_v g3
  obtain rfl : w2 = (.int i2) := Option.some.inj e2
  obtain ⟨i3, e3⟩ := is_v q3
  obtain rfl : w3 = (.int i3) := Option.some.inj e3
  obtain ⟨a1, ae1⟩ := exa_v (Cond.before_iff.mp (hsets _ (List.mem_of_getElem? (i := 6) rfl)))
  obtain ⟨r1, re1⟩ := exa_v (Cond.before_iff.mp (hsets _ (List.mem_of_getElem? (i := 22) rfl)))
  have c1 : Cf s "HOUR_OF_DAY" 0 23 := ⟨a1, r1, Sta.start ae1 (Or.inl (hsets _ (List.mem_of_getElem? (i := 1) rfl))), Exa.start ae1 (Cond.before_iff.mp (hsets _ (List.mem_of_getElem? (i := 6) rfl))), fldAt ae1 re1, Exa.start re1 (Cond.before_iff.mp (hsets _ (List.mem_of_getElem? (i := 22) rfl))), fldAt re1 (eqJ (Cond.before_iff.mp (hsets _ (List.mem_of_getElem? (i := 23) rfl)))), fldAt re1 (eqJ (Cond.before_iff.mp (hsets _ (List.mem_of_getElem? (i := 26) rfl))))⟩
  obtain ⟨a2, ae2⟩ := exa_v (Cond.before_iff.mp (hsets _ (List.mem_of_getElem? (i := 34) rfl)))
  obtain ⟨r2, re2⟩ := exa_v (Cond.before_iff.mp (hsets _ (List.mem_of_getElem? (i := 50) rfl)))
  have c2 : Cf s "MINUTE_OF_HOUR" 0 59 := ⟨a2, r2, Sta.start ae2 (Or.inl (hsets _ (List.mem_of_getElem? (i := 29) rfl))), Exa.start ae2 (Cond.before_iff.mp (hsets _ (List.mem_of_getElem? (i := 34) rfl))), fldAt ae2 re2, Exa.start re2 (Cond.before_iff.mp (hsets _ (List.mem_of_getElem? (i := 50) rfl))), fldAt re2 (eqJ (Cond.before_iff.mp (hsets _ (List.mem_of_getElem? (i := 51) rfl)))), fldAt re2 (eqJ (Cond.before_iff.mp (hsets _ (List.mem_of_getElem? (i := 54) rfl))))⟩
  obtain ⟨a3, ae3⟩ := exa_v (Cond.before_iff.mp (hsets _ (List.mem_of_getElem? (i := 62) rfl)))
  obtain ⟨r3, re3⟩ := exa_v (Cond.before_iff.mp (hsets _ (List.mem_of_getElem? (i := 78) rfl)))
  have c3 : Cf s "SECOND_OF_MINUTE" 0 59 := ⟨a3, r3, Sta.start ae3 (Or.inl (hsets _ (List.mem_of_getElem? (i := 57) rfl))), Exa.start ae3 (Cond.before_iff.mp (hsets _ (List.mem_of_getElem? (i := 62) rfl))), fldAt ae3 re3, Exa.start re3 (Cond.before_iff.mp (hsets _ (List.mem_of_getElem? (i := 78) rfl))), fldAt re3 (eqJ (Cond.before_iff.mp (hsets _ (List.mem_of_getElem? (i := 79) rfl)))), fldAt re3 (eqJ (Cond.before_iff.mp (hsets _ (List.mem_of_getElem? (i := 82) rfl))))⟩
  obtain ⟨a4, ae4⟩ := exa_v (Cond.before_iff.mp (hsets _ (List.mem_of_getElem? (i := 90) rfl)))
  obtain ⟨r4, re4⟩ := exa_v (Cond.before_iff.mp (hsets _ (List.mem_of_getElem? (i := 106) rfl)))
  have c4 : Cf s "NANO_OF_SECOND" 0 999999999 := ⟨a4, r4, Sta.start ae4 (Or.inl (hsets _ (List.mem_of_getElem? (i := 85) rfl))), Exa.start ae4 (Cond.before_iff.mp (hsets _ (List.mem_of_getElem? (i := 90) rfl))), fldAt ae4 re4, Exa.start re4 (Cond.before_iff.mp (hsets _ (List.mem_of_getElem? (i := 106) rfl))), fldAt re4 (eqJ (Cond.before_iff.mp (hsets _ (List.mem_of_getElem? (i := 107) rfl)))), fldAt re4 (eqJ (Cond.before_iff.mp (hsets _ (List.mem_of_getElem? (i := 110) rfl))))⟩
  obtain ⟨ar, are⟩ := arr_v (Cond.before_iff.mp (hsets _ (List.mem_of_getElem? (i := 118) rfl)))
  obtain ⟨cl, hA⟩ := Arr.start are (Cond.before_iff.mp (hsets _ (List.mem_of_getElem? (i := 118) rfl)))
  have hlen := lenAt are hA.1 (eqI (Cond.before_iff.mp (hsets _ (List.mem_of_getElem? (i := 120) rfl))))
  have hsz : cl.slots.size = 24 := by
    have e := congrArg Int32.toInt hlen.2
    rw [len_toInt hlen.1] at e
    have e2 : (24 : Int32).toInt = 24 := rfl
    omega
  obtain ⟨b0, be0⟩ := exa_v (Cond.before_iff.mp (hsets _ (List.mem_of_getElem? (i := 122) rfl)))
  obtain ⟨b1, be1⟩ := exa_v (Cond.before_iff.mp (hsets _ (List.mem_of_getElem? (i := 127) rfl)))
  obtain ⟨b2, be2⟩ := exa_v (Cond.before_iff.mp (hsets _ (List.mem_of_getElem? (i := 132) rfl)))
  obtain ⟨b3, be3⟩ := exa_v (Cond.before_iff.mp (hsets _ (List.mem_of_getElem? (i := 137) rfl)))
  obtain ⟨b4, be4⟩ := exa_v (Cond.before_iff.mp (hsets _ (List.mem_of_getElem? (i := 142) rfl)))
  obtain ⟨b5, be5⟩ := exa_v (Cond.before_iff.mp (hsets _ (List.mem_of_getElem? (i := 147) rfl)))
  obtain ⟨b6, be6⟩ := exa_v (Cond.before_iff.mp (hsets _ (List.mem_of_getElem? (i := 152) rfl)))
  obtain ⟨b7, be7⟩ := exa_v (Cond.before_iff.mp (hsets _ (List.mem_of_getElem? (i := 157) rfl)))
  obtain ⟨b8, be8⟩ := exa_v (Cond.before_iff.mp (hsets _ (List.mem_of_getElem? (i := 162) rfl)))
  obtain ⟨b9, be9⟩ := exa_v (Cond.before_iff.mp (hsets _ (List.mem_of_getElem? (i := 167) rfl)))
  obtain ⟨b10, be10⟩ := exa_v (Cond.before_iff.mp (hsets _ (List.mem_of_getElem? (i := 172) rfl)))
  obtain ⟨b11, be11⟩ := exa_v (Cond.before_iff.mp (hsets _ (List.mem_of_getElem? (i := 177) rfl)))
  obtain ⟨b12, be12⟩ := exa_v (Cond.before_iff.mp (hsets _ (List.mem_of_getElem? (i := 183) rfl)))
  obtain ⟨b13, be13⟩ := exa_v (Cond.before_iff.mp (hsets _ (List.mem_of_getElem? (i := 188) rfl)))
  obtain ⟨b14, be14⟩ := exa_v (Cond.before_iff.mp (hsets _ (List.mem_of_getElem? (i := 193) rfl)))
  obtain ⟨b15, be15⟩ := exa_v (Cond.before_iff.mp (hsets _ (List.mem_of_getElem? (i := 198) rfl)))
  obtain ⟨b16, be16⟩ := exa_v (Cond.before_iff.mp (hsets _ (List.mem_of_getElem? (i := 203) rfl)))
  obtain ⟨b17, be17⟩ := exa_v (Cond.before_iff.mp (hsets _ (List.mem_of_getElem? (i := 208) rfl)))
  obtain ⟨b18, be18⟩ := exa_v (Cond.before_iff.mp (hsets _ (List.mem_of_getElem? (i := 213) rfl)))
  obtain ⟨b19, be19⟩ := exa_v (Cond.before_iff.mp (hsets _ (List.mem_of_getElem? (i := 218) rfl)))
  obtain ⟨b20, be20⟩ := exa_v (Cond.before_iff.mp (hsets _ (List.mem_of_getElem? (i := 223) rfl)))
  obtain ⟨b21, be21⟩ := exa_v (Cond.before_iff.mp (hsets _ (List.mem_of_getElem? (i := 228) rfl)))
  obtain ⟨b22, be22⟩ := exa_v (Cond.before_iff.mp (hsets _ (List.mem_of_getElem? (i := 233) rfl)))
  obtain ⟨b23, be23⟩ := exa_v (Cond.before_iff.mp (hsets _ (List.mem_of_getElem? (i := 238) rfl)))
  have hr : Hrs s := by
    refine ⟨ar, cl, Sta.start are (Or.inl (hsets _ (List.mem_of_getElem? (i := 113) rfl))), hA, hsz, fun i hi => ?_⟩
    match i, hi with
    | 0, _ => exact ⟨b0, (elem_in be0 are (Term.int_eval 0) hA.1).2, Exa.start be0 (Cond.before_iff.mp (hsets _ (List.mem_of_getElem? (i := 122) rfl))), fldAt be0 (eqI (Cond.before_iff.mp (hsets _ (List.mem_of_getElem? (i := 123) rfl)))), fldAt be0 (eqI (Cond.before_iff.mp (hsets _ (List.mem_of_getElem? (i := 124) rfl)))), fldAt be0 (eqI (Cond.before_iff.mp (hsets _ (List.mem_of_getElem? (i := 125) rfl))))⟩
    | 1, _ => exact ⟨b1, (elem_in be1 are (Term.int_eval 1) hA.1).2, Exa.start be1 (Cond.before_iff.mp (hsets _ (List.mem_of_getElem? (i := 127) rfl))), fldAt be1 (eqI (Cond.before_iff.mp (hsets _ (List.mem_of_getElem? (i := 128) rfl)))), fldAt be1 (eqI (Cond.before_iff.mp (hsets _ (List.mem_of_getElem? (i := 129) rfl)))), fldAt be1 (eqI (Cond.before_iff.mp (hsets _ (List.mem_of_getElem? (i := 130) rfl))))⟩
    | 2, _ => exact ⟨b2, (elem_in be2 are (Term.int_eval 2) hA.1).2, Exa.start be2 (Cond.before_iff.mp (hsets _ (List.mem_of_getElem? (i := 132) rfl))), fldAt be2 (eqI (Cond.before_iff.mp (hsets _ (List.mem_of_getElem? (i := 133) rfl)))), fldAt be2 (eqI (Cond.before_iff.mp (hsets _ (List.mem_of_getElem? (i := 134) rfl)))), fldAt be2 (eqI (Cond.before_iff.mp (hsets _ (List.mem_of_getElem? (i := 135) rfl))))⟩
    | 3, _ => exact ⟨b3, (elem_in be3 are (Term.int_eval 3) hA.1).2, Exa.start be3 (Cond.before_iff.mp (hsets _ (List.mem_of_getElem? (i := 137) rfl))), fldAt be3 (eqI (Cond.before_iff.mp (hsets _ (List.mem_of_getElem? (i := 138) rfl)))), fldAt be3 (eqI (Cond.before_iff.mp (hsets _ (List.mem_of_getElem? (i := 139) rfl)))), fldAt be3 (eqI (Cond.before_iff.mp (hsets _ (List.mem_of_getElem? (i := 140) rfl))))⟩
    | 4, _ => exact ⟨b4, (elem_in be4 are (Term.int_eval 4) hA.1).2, Exa.start be4 (Cond.before_iff.mp (hsets _ (List.mem_of_getElem? (i := 142) rfl))), fldAt be4 (eqI (Cond.before_iff.mp (hsets _ (List.mem_of_getElem? (i := 143) rfl)))), fldAt be4 (eqI (Cond.before_iff.mp (hsets _ (List.mem_of_getElem? (i := 144) rfl)))), fldAt be4 (eqI (Cond.before_iff.mp (hsets _ (List.mem_of_getElem? (i := 145) rfl))))⟩
    | 5, _ => exact ⟨b5, (elem_in be5 are (Term.int_eval 5) hA.1).2, Exa.start be5 (Cond.before_iff.mp (hsets _ (List.mem_of_getElem? (i := 147) rfl))), fldAt be5 (eqI (Cond.before_iff.mp (hsets _ (List.mem_of_getElem? (i := 148) rfl)))), fldAt be5 (eqI (Cond.before_iff.mp (hsets _ (List.mem_of_getElem? (i := 149) rfl)))), fldAt be5 (eqI (Cond.before_iff.mp (hsets _ (List.mem_of_getElem? (i := 150) rfl))))⟩
    | 6, _ => exact ⟨b6, (elem_in be6 are (Term.int_eval 6) hA.1).2, Exa.start be6 (Cond.before_iff.mp (hsets _ (List.mem_of_getElem? (i := 152) rfl))), fldAt be6 (eqI (Cond.before_iff.mp (hsets _ (List.mem_of_getElem? (i := 153) rfl)))), fldAt be6 (eqI (Cond.before_iff.mp (hsets _ (List.mem_of_getElem? (i := 154) rfl)))), fldAt be6 (eqI (Cond.before_iff.mp (hsets _ (List.mem_of_getElem? (i := 155) rfl))))⟩
    | 7, _ => exact ⟨b7, (elem_in be7 are (Term.int_eval 7) hA.1).2, Exa.start be7 (Cond.before_iff.mp (hsets _ (List.mem_of_getElem? (i := 157) rfl))), fldAt be7 (eqI (Cond.before_iff.mp (hsets _ (List.mem_of_getElem? (i := 158) rfl)))), fldAt be7 (eqI (Cond.before_iff.mp (hsets _ (List.mem_of_getElem? (i := 159) rfl)))), fldAt be7 (eqI (Cond.before_iff.mp (hsets _ (List.mem_of_getElem? (i := 160) rfl))))⟩
    | 8, _ => exact ⟨b8, (elem_in be8 are (Term.int_eval 8) hA.1).2, Exa.start be8 (Cond.before_iff.mp (hsets _ (List.mem_of_getElem? (i := 162) rfl))), fldAt be8 (eqI (Cond.before_iff.mp (hsets _ (List.mem_of_getElem? (i := 163) rfl)))), fldAt be8 (eqI (Cond.before_iff.mp (hsets _ (List.mem_of_getElem? (i := 164) rfl)))), fldAt be8 (eqI (Cond.before_iff.mp (hsets _ (List.mem_of_getElem? (i := 165) rfl))))⟩
    | 9, _ => exact ⟨b9, (elem_in be9 are (Term.int_eval 9) hA.1).2, Exa.start be9 (Cond.before_iff.mp (hsets _ (List.mem_of_getElem? (i := 167) rfl))), fldAt be9 (eqI (Cond.before_iff.mp (hsets _ (List.mem_of_getElem? (i := 168) rfl)))), fldAt be9 (eqI (Cond.before_iff.mp (hsets _ (List.mem_of_getElem? (i := 169) rfl)))), fldAt be9 (eqI (Cond.before_iff.mp (hsets _ (List.mem_of_getElem? (i := 170) rfl))))⟩
    | 10, _ => exact ⟨b10, (elem_in be10 are (Term.int_eval 10) hA.1).2, Exa.start be10 (Cond.before_iff.mp (hsets _ (List.mem_of_getElem? (i := 172) rfl))), fldAt be10 (eqI (Cond.before_iff.mp (hsets _ (List.mem_of_getElem? (i := 173) rfl)))), fldAt be10 (eqI (Cond.before_iff.mp (hsets _ (List.mem_of_getElem? (i := 174) rfl)))), fldAt be10 (eqI (Cond.before_iff.mp (hsets _ (List.mem_of_getElem? (i := 175) rfl))))⟩
    | 11, _ => exact ⟨b11, (elem_in be11 are (Term.int_eval 11) hA.1).2, Exa.start be11 (Cond.before_iff.mp (hsets _ (List.mem_of_getElem? (i := 177) rfl))), fldAt be11 (eqI (Cond.before_iff.mp (hsets _ (List.mem_of_getElem? (i := 178) rfl)))), fldAt be11 (eqI (Cond.before_iff.mp (hsets _ (List.mem_of_getElem? (i := 179) rfl)))), fldAt be11 (eqI (Cond.before_iff.mp (hsets _ (List.mem_of_getElem? (i := 180) rfl))))⟩
    | 12, _ => exact ⟨b12, (elem_in be12 are (Term.int_eval 12) hA.1).2, Exa.start be12 (Cond.before_iff.mp (hsets _ (List.mem_of_getElem? (i := 183) rfl))), fldAt be12 (eqI (Cond.before_iff.mp (hsets _ (List.mem_of_getElem? (i := 184) rfl)))), fldAt be12 (eqI (Cond.before_iff.mp (hsets _ (List.mem_of_getElem? (i := 185) rfl)))), fldAt be12 (eqI (Cond.before_iff.mp (hsets _ (List.mem_of_getElem? (i := 186) rfl))))⟩
    | 13, _ => exact ⟨b13, (elem_in be13 are (Term.int_eval 13) hA.1).2, Exa.start be13 (Cond.before_iff.mp (hsets _ (List.mem_of_getElem? (i := 188) rfl))), fldAt be13 (eqI (Cond.before_iff.mp (hsets _ (List.mem_of_getElem? (i := 189) rfl)))), fldAt be13 (eqI (Cond.before_iff.mp (hsets _ (List.mem_of_getElem? (i := 190) rfl)))), fldAt be13 (eqI (Cond.before_iff.mp (hsets _ (List.mem_of_getElem? (i := 191) rfl))))⟩
    | 14, _ => exact ⟨b14, (elem_in be14 are (Term.int_eval 14) hA.1).2, Exa.start be14 (Cond.before_iff.mp (hsets _ (List.mem_of_getElem? (i := 193) rfl))), fldAt be14 (eqI (Cond.before_iff.mp (hsets _ (List.mem_of_getElem? (i := 194) rfl)))), fldAt be14 (eqI (Cond.before_iff.mp (hsets _ (List.mem_of_getElem? (i := 195) rfl)))), fldAt be14 (eqI (Cond.before_iff.mp (hsets _ (List.mem_of_getElem? (i := 196) rfl))))⟩
    | 15, _ => exact ⟨b15, (elem_in be15 are (Term.int_eval 15) hA.1).2, Exa.start be15 (Cond.before_iff.mp (hsets _ (List.mem_of_getElem? (i := 198) rfl))), fldAt be15 (eqI (Cond.before_iff.mp (hsets _ (List.mem_of_getElem? (i := 199) rfl)))), fldAt be15 (eqI (Cond.before_iff.mp (hsets _ (List.mem_of_getElem? (i := 200) rfl)))), fldAt be15 (eqI (Cond.before_iff.mp (hsets _ (List.mem_of_getElem? (i := 201) rfl))))⟩
    | 16, _ => exact ⟨b16, (elem_in be16 are (Term.int_eval 16) hA.1).2, Exa.start be16 (Cond.before_iff.mp (hsets _ (List.mem_of_getElem? (i := 203) rfl))), fldAt be16 (eqI (Cond.before_iff.mp (hsets _ (List.mem_of_getElem? (i := 204) rfl)))), fldAt be16 (eqI (Cond.before_iff.mp (hsets _ (List.mem_of_getElem? (i := 205) rfl)))), fldAt be16 (eqI (Cond.before_iff.mp (hsets _ (List.mem_of_getElem? (i := 206) rfl))))⟩
    | 17, _ => exact ⟨b17, (elem_in be17 are (Term.int_eval 17) hA.1).2, Exa.start be17 (Cond.before_iff.mp (hsets _ (List.mem_of_getElem? (i := 208) rfl))), fldAt be17 (eqI (Cond.before_iff.mp (hsets _ (List.mem_of_getElem? (i := 209) rfl)))), fldAt be17 (eqI (Cond.before_iff.mp (hsets _ (List.mem_of_getElem? (i := 210) rfl)))), fldAt be17 (eqI (Cond.before_iff.mp (hsets _ (List.mem_of_getElem? (i := 211) rfl))))⟩
    | 18, _ => exact ⟨b18, (elem_in be18 are (Term.int_eval 18) hA.1).2, Exa.start be18 (Cond.before_iff.mp (hsets _ (List.mem_of_getElem? (i := 213) rfl))), fldAt be18 (eqI (Cond.before_iff.mp (hsets _ (List.mem_of_getElem? (i := 214) rfl)))), fldAt be18 (eqI (Cond.before_iff.mp (hsets _ (List.mem_of_getElem? (i := 215) rfl)))), fldAt be18 (eqI (Cond.before_iff.mp (hsets _ (List.mem_of_getElem? (i := 216) rfl))))⟩
    | 19, _ => exact ⟨b19, (elem_in be19 are (Term.int_eval 19) hA.1).2, Exa.start be19 (Cond.before_iff.mp (hsets _ (List.mem_of_getElem? (i := 218) rfl))), fldAt be19 (eqI (Cond.before_iff.mp (hsets _ (List.mem_of_getElem? (i := 219) rfl)))), fldAt be19 (eqI (Cond.before_iff.mp (hsets _ (List.mem_of_getElem? (i := 220) rfl)))), fldAt be19 (eqI (Cond.before_iff.mp (hsets _ (List.mem_of_getElem? (i := 221) rfl))))⟩
    | 20, _ => exact ⟨b20, (elem_in be20 are (Term.int_eval 20) hA.1).2, Exa.start be20 (Cond.before_iff.mp (hsets _ (List.mem_of_getElem? (i := 223) rfl))), fldAt be20 (eqI (Cond.before_iff.mp (hsets _ (List.mem_of_getElem? (i := 224) rfl)))), fldAt be20 (eqI (Cond.before_iff.mp (hsets _ (List.mem_of_getElem? (i := 225) rfl)))), fldAt be20 (eqI (Cond.before_iff.mp (hsets _ (List.mem_of_getElem? (i := 226) rfl))))⟩
    | 21, _ => exact ⟨b21, (elem_in be21 are (Term.int_eval 21) hA.1).2, Exa.start be21 (Cond.before_iff.mp (hsets _ (List.mem_of_getElem? (i := 228) rfl))), fldAt be21 (eqI (Cond.before_iff.mp (hsets _ (List.mem_of_getElem? (i := 229) rfl)))), fldAt be21 (eqI (Cond.before_iff.mp (hsets _ (List.mem_of_getElem? (i := 230) rfl)))), fldAt be21 (eqI (Cond.before_iff.mp (hsets _ (List.mem_of_getElem? (i := 231) rfl))))⟩
    | 22, _ => exact ⟨b22, (elem_in be22 are (Term.int_eval 22) hA.1).2, Exa.start be22 (Cond.before_iff.mp (hsets _ (List.mem_of_getElem? (i := 233) rfl))), fldAt be22 (eqI (Cond.before_iff.mp (hsets _ (List.mem_of_getElem? (i := 234) rfl)))), fldAt be22 (eqI (Cond.before_iff.mp (hsets _ (List.mem_of_getElem? (i := 235) rfl)))), fldAt be22 (eqI (Cond.before_iff.mp (hsets _ (List.mem_of_getElem? (i := 236) rfl))))⟩
    | 23, _ => exact ⟨b23, (elem_in be23 are (Term.int_eval 23) hA.1).2, Exa.start be23 (Cond.before_iff.mp (hsets _ (List.mem_of_getElem? (i := 238) rfl))), fldAt be23 (eqI (Cond.before_iff.mp (hsets _ (List.mem_of_getElem? (i := 239) rfl)))), fldAt be23 (eqI (Cond.before_iff.mp (hsets _ (List.mem_of_getElem? (i := 240) rfl)))), fldAt be23 (eqI (Cond.before_iff.mp (hsets _ (List.mem_of_getElem? (i := 241) rfl))))⟩
    | n + 24, hi => exact absurd hi (by omega)
  obtain ⟨u1, u2⟩ := and_e (show (Jvm.Cond.and _ _).value _ s none s [] = some true from hn)
  have us : Us s := ⟨Sta.start (eqJ u1) (Or.inr ⟨(Tw hw 70 rfl), (Tw hw 81 rfl)⟩), Sta.start (eqI u2) (Or.inr ⟨(Tw hw 70 rfl), (Tw hw 87 rfl)⟩)⟩
  obtain ⟨n, o, h1, h2, h3, _, L, rfl, ⟨rfl, KK, N⟩, hq⟩ := own_law l s _ hw hr c1 c2 c3 c4 us s.heap s.heap.size (Old.start s) i0 i1 i2 i3 p e ha hc hk s m _ below hf ((Spec.applies_iff_loose hf).mp happ).1 ⟨rfl, State.Warmed39.refl s, rfl⟩ trivial
  refine ⟨n, _, h1, h2, h3, hpost _ _ _ _ _ _ ⟨Cond.after_iff.mpr rfl, Cond.after_iff.mpr (eq_i res_at (Term.int_eval (1)) rfl), trivial⟩ ⟨hq.1, hq.2.1, (hq.2.2.sift fun y hy => Or.inr (N y hy)).mono (by decide) (by decide)⟩⟩
theorem main_1_1 : Claimed_1_1 := own_comes fun _ _ _ _ _ _ h hF => ⟨h.1, hF⟩
theorem main_1_2 : Claimed_1_2 := own_comes fun _ _ _ _ _ _ h hF => ⟨h.2.1, hF⟩
end Jvm.Pilot.@@N@@
namespace Jvm.Pilot.@@N@@
open Jvm Jvm.ClassFile Sem Op Lib Jvm.Free Jvm.Stand Jvm.Pilot.@@N@@.Jvm.D
/-! MADE BY PROGRAM (witnessworld.py) out of the Statement's table words and the real class files: 28 classes; the members and pool entries that the words name. The judged class is class 1, her method 1. -/
namespace start1
open Jvm.ClassFile
def u (s : String) : CpInfo := .utf8 (stringToUtf16 s)
/-- a pool by its gaps: so many unusable entries, then the entry; so many at the end -/
def gap : Nat → List CpInfo → List CpInfo
  | 0, r => r
  | n + 1, r => .unusable :: gap n r
def poolList (es : List (Nat × CpInfo)) (last : Nat) : List CpInfo := es.foldr (fun e r => gap e.1 (e.2 :: r)) (gap last [])
def pool (es : List (Nat × CpInfo)) (last : Nat) : Array CpInfo := ⟨poolList es last⟩
def fileOf (pool : Array CpInfo) (this : Nat) (attrs : Array Attribute := #[]) (ms : Array MethodInfo := #[]) (fl : Nat := 33) (sup : Nat := 0) (ifs : Array Nat := #[]) (fds : Array FieldInfo := #[]) : ClassFile where
  minorVersion := 0
  majorVersion := 65
  constantPool := pool
  accessFlags := fl
  thisClass := this
  superClass := sup
  interfaces := ifs
  fields := fds
  methods := ms
  attributes := attrs
def plain (name : String) (sup : Option ClassId) : Class where
  name := name
  kind := .ordinary
  loader := none
  accessFlags := 33
  super := sup
  interfaces := #[]
  cf := none
  fields := #[]
  methods := #[]
  instanceTypes := #[]
  staticTypes := #[]
  resolved := #[]
  callSites := []
  init := .initialized
  statics := none
  mirror := none

def pool0 : Array CpInfo := pool [(5, u "<init>"), (0, u "()V"), (1, .class_ 10), (1, u "java/lang/Object")] 113

def k0c0 : Code := { maxStack := 0, maxLocals := 1, code := object_method_1_code, exceptionTable := #[], attributes := #[] }
def k0m0 : Method := { name := "<init>", desc := "()V", sig := { parameters := [], returnType := none }, accessFlags := 1, code := some k0c0 }
/-- java/lang/Object -/
def k0 : Class := { plain "java/lang/Object" none with
  accessFlags := 33
  interfaces := #[]
  cf := some (fileOf pool0 8 #[] #[{ accessFlags := 1, nameIndex := 5, descriptorIndex := 6, attributes := #[] }] 33 0 #[] #[])
  fields := #[]
  methods := #[k0m0]
  instanceTypes := #[]
  staticTypes := #[]
  resolved := Array.replicate 124 none
  statics := none }

def pool1 : Array CpInfo := pool [(2, .class_ 4), (1, u "java/lang/Object"), (0, u "<init>"), (0, u "()V"), (0, .integer 2147483647), (0, .integer 1000000000), (0, .methodref 10 11), (0, .class_ 12), (0, .nameAndType 13 14), (0, u "java/time/LocalTime"), (0, u "of"), (0, u "(IIII)Ljava/time/LocalTime;"), (0, .methodref 16 17), (0, .class_ 18), (0, .nameAndType 19 20), (0, u "com/example/astraea/astraea/model/Usage"), (0, u "quarterHourOfDay"), (0, u "(Ljava/time/LocalTime;)I"), (0, .class_ 22), (0, u "com/example/astraea/astraea/model/UsageQuarterHourOfDayPinLaw"), (2, u "law"), (0, u "(IIII)Z")] 3

def k1m0 : Method := { name := "<init>", desc := "()V", sig := { parameters := [], returnType := none }, accessFlags := 2, code := none }
def k1c1 : Code := { maxStack := 4, maxLocals := 11, code := code, exceptionTable := #[], attributes := #[] }
def k1m1 : Method := { name := "law", desc := "(IIII)Z", sig := { parameters := [.int, .int, .int, .int], returnType := some .boolean }, accessFlags := 9, code := some k1c1 }
/-- com/example/astraea/astraea/model/UsageQuarterHourOfDayPinLaw -/
def k1 : Class := { plain "com/example/astraea/astraea/model/UsageQuarterHourOfDayPinLaw" (some 0) with
  accessFlags := 49
  interfaces := #[]
  cf := some (fileOf pool1 21 #[] #[{ accessFlags := 2, nameIndex := 5, descriptorIndex := 6, attributes := #[] }, { accessFlags := 9, nameIndex := 25, descriptorIndex := 26, attributes := #[] }] 49 2 #[] #[])
  fields := #[]
  methods := #[k1m0, k1m1]
  instanceTypes := #[]
  staticTypes := #[]
  resolved := Array.replicate 30 none
  statics := none }

def pool2 : Array CpInfo := pool [(4, .class_ 6), (1, u "java/time/temporal/TemporalAccessor"), (95, .class_ 103), (0, u "java/lang/Object")] 21

/-- java/time/temporal/TemporalAccessor -/
def k2 : Class := { plain "java/time/temporal/TemporalAccessor" (some 0) with
  accessFlags := 1537
  interfaces := #[]
  cf := some (fileOf pool2 4 #[] #[] 1537 102 #[] #[])
  fields := #[]
  methods := #[]
  instanceTypes := #[]
  staticTypes := #[]
  resolved := Array.replicate 125 none
  statics := none }

def pool3 : Array CpInfo := pool [(22, .class_ 24), (1, u "java/time/temporal/Temporal"), (2, .class_ 28), (0, u "java/lang/Object"), (0, .class_ 30), (0, u "java/time/temporal/TemporalAccessor")] 25

/-- java/time/temporal/Temporal -/
def k3 : Class := { plain "java/time/temporal/Temporal" (some 0) with
  accessFlags := 1537
  interfaces := #[2]
  cf := some (fileOf pool3 22 #[] #[] 1537 27 #[29] #[])
  fields := #[]
  methods := #[]
  instanceTypes := #[]
  staticTypes := #[]
  resolved := Array.replicate 56 none
  statics := none }

def pool4 : Array CpInfo := pool [(1, .class_ 2), (0, u "java/time/temporal/TemporalAdjuster"), (0, .class_ 4), (0, u "java/lang/Object")] 6

/-- java/time/temporal/TemporalAdjuster -/
def k4 : Class := { plain "java/time/temporal/TemporalAdjuster" (some 0) with
  accessFlags := 1537
  interfaces := #[]
  cf := some (fileOf pool4 1 #[] #[] 1537 3 #[] #[])
  fields := #[]
  methods := #[]
  instanceTypes := #[]
  staticTypes := #[]
  resolved := Array.replicate 11 none
  statics := none }

def pool5 : Array CpInfo := pool [(1, .class_ 2), (0, u "java/lang/Comparable"), (0, .class_ 4), (0, u "java/lang/Object")] 7

/-- java/lang/Comparable -/
def k5 : Class := { plain "java/lang/Comparable" (some 0) with
  accessFlags := 1537
  interfaces := #[]
  cf := some (fileOf pool5 1 #[] #[] 1537 3 #[] #[])
  fields := #[]
  methods := #[]
  instanceTypes := #[]
  staticTypes := #[]
  resolved := Array.replicate 12 none
  statics := none }

def pool6 : Array CpInfo := pool [(1, .class_ 2), (0, u "java/io/Serializable"), (0, .class_ 4), (0, u "java/lang/Object")] 2

/-- java/io/Serializable -/
def k6 : Class := { plain "java/io/Serializable" (some 0) with
  accessFlags := 1537
  interfaces := #[]
  cf := some (fileOf pool6 1 #[] #[] 1537 3 #[] #[])
  fields := #[]
  methods := #[]
  instanceTypes := #[]
  staticTypes := #[]
  resolved := Array.replicate 7 none
  statics := none }

def pool7 : Array CpInfo := pool [(1, .class_ 2), (0, u "java/time/LocalTime"), (34, .fieldref 38 39), (0, .class_ 40), (0, .nameAndType 41 42), (0, u "java/time/temporal/ChronoField"), (0, u "HOUR_OF_DAY"), (0, u "Ljava/time/temporal/ChronoField;"), (0, .methodref 38 44), (0, .nameAndType 45 46), (0, u "checkValidValue"), (0, u "(J)J"), (0, .fieldref 1 48), (0, .nameAndType 49 50), (0, u "HOURS"), (0, u "[Ljava/time/LocalTime;"), (0, .fieldref 38 52), (0, .nameAndType 53 42), (0, u "MINUTE_OF_HOUR"), (0, .methodref 1 55), (0, .nameAndType 56 57), (0, u "<init>"), (0, u "(IIII)V"), (0, .fieldref 38 59), (0, .nameAndType 60 42), (0, u "SECOND_OF_MINUTE"), (0, .fieldref 38 62), (0, .nameAndType 63 42), (0, u "NANO_OF_SECOND"), (0, .methodref 1 65), (0, .nameAndType 66 67), (0, u "create"), (0, u "(IIII)Ljava/time/LocalTime;"), (26, u "()I"), (49, .nameAndType 56 145), (0, u "()V"), (45, .methodref 192 144), (0, .class_ 193), (0, u "java/lang/Object"), (0, .fieldref 1 195), (0, .nameAndType 196 197), (0, u "hour"), (0, u "B"), (0, .fieldref 1 199), (0, .nameAndType 200 197), (0, u "minute"), (0, .fieldref 1 202), (0, .nameAndType 203 197), (0, u "second"), (0, .fieldref 1 205), (0, .nameAndType 206 207), (0, u "nano"), (0, u "I"), (19, .class_ 229), (1, u "java/time/temporal/Temporal"), (22, .class_ 254), (1, u "java/time/LocalTime$1"), (17, u "toSecondOfDay"), (3, .class_ 278), (1, u "java/time/temporal/TemporalAdjuster"), (136, u "of"), (99, u "MIDNIGHT"), (0, u "Ljava/time/LocalTime;"), (2, u "NOON"), (2, u "MIN"), (3, u "MAX"), (0, .class_ 528), (0, u "java/lang/Comparable"), (0, .class_ 530), (0, u "java/io/Serializable"), (0, u "HOURS_PER_DAY"), (2, u "MINUTES_PER_HOUR"), (1, u "MINUTES_PER_DAY"), (1, u "SECONDS_PER_MINUTE"), (0, u "SECONDS_PER_HOUR"), (1, u "SECONDS_PER_DAY"), (0, u "MILLIS_PER_SECOND"), (0, u "J"), (0, u "MILLIS_PER_DAY"), (0, u "MICROS_PER_SECOND"), (0, u "MICROS_PER_DAY"), (0, u "NANOS_PER_MILLI"), (0, u "NANOS_PER_SECOND"), (0, u "NANOS_PER_MINUTE"), (0, u "NANOS_PER_HOUR"), (0, u "NANOS_PER_DAY"), (0, u "serialVersionUID")] 162

def k7c0 : Code := { maxStack := 4, maxLocals := 4, code := jdk_2327_method_6_code, exceptionTable := #[], attributes := #[] }
def k7m0 : Method := { name := "of", desc := "(IIII)Ljava/time/LocalTime;", sig := { parameters := [.int, .int, .int, .int], returnType := some (.object "java/time/LocalTime") }, accessFlags := 9, code := some k7c0 }
def k7c1 : Code := { maxStack := 6, maxLocals := 4, code := jdk_2327_method_13_code, exceptionTable := #[], attributes := #[] }
def k7m1 : Method := { name := "create", desc := "(IIII)Ljava/time/LocalTime;", sig := { parameters := [.int, .int, .int, .int], returnType := some (.object "java/time/LocalTime") }, accessFlags := 10, code := some k7c1 }
def k7c2 : Code := { maxStack := 2, maxLocals := 5, code := jdk_2327_method_14_code, exceptionTable := #[], attributes := #[] }
def k7m2 : Method := { name := "<init>", desc := "(IIII)V", sig := { parameters := [.int, .int, .int, .int], returnType := none }, accessFlags := 2, code := some k7c2 }
def k7c3 : Code := { maxStack := 3, maxLocals := 2, code := jdk_2327_method_50_code, exceptionTable := #[], attributes := #[] }
def k7m3 : Method := { name := "toSecondOfDay", desc := "()I", sig := { parameters := [], returnType := some .int }, accessFlags := 1, code := some k7c3 }
/-- java/time/LocalTime -/
def k7 : Class := { plain "java/time/LocalTime" (some 0) with
  accessFlags := 49
  interfaces := #[3, 4, 5, 6]
  cf := some (fileOf pool7 1 #[.nestMembers #[252]] #[{ accessFlags := 9, nameIndex := 415, descriptorIndex := 67, attributes := #[] }, { accessFlags := 10, nameIndex := 66, descriptorIndex := 67, attributes := #[] }, { accessFlags := 2, nameIndex := 56, descriptorIndex := 57, attributes := #[] }, { accessFlags := 1, nameIndex := 272, descriptorIndex := 94, attributes := #[] }] 49 192 #[227, 276, 527, 529] #[{ accessFlags := 25, nameIndex := 522, descriptorIndex := 516, attributes := #[] }, { accessFlags := 25, nameIndex := 526, descriptorIndex := 516, attributes := #[] }, { accessFlags := 25, nameIndex := 515, descriptorIndex := 516, attributes := #[] }, { accessFlags := 25, nameIndex := 519, descriptorIndex := 516, attributes := #[] }, { accessFlags := 26, nameIndex := 49, descriptorIndex := 50, attributes := #[] }, { accessFlags := 24, nameIndex := 531, descriptorIndex := 207, attributes := #[] }, { accessFlags := 24, nameIndex := 534, descriptorIndex := 207, attributes := #[] }, { accessFlags := 24, nameIndex := 536, descriptorIndex := 207, attributes := #[] }, { accessFlags := 24, nameIndex := 538, descriptorIndex := 207, attributes := #[] }, { accessFlags := 24, nameIndex := 539, descriptorIndex := 207, attributes := #[] }, { accessFlags := 24, nameIndex := 541, descriptorIndex := 207, attributes := #[] }, { accessFlags := 24, nameIndex := 542, descriptorIndex := 543, attributes := #[] }, { accessFlags := 24, nameIndex := 544, descriptorIndex := 543, attributes := #[] }, { accessFlags := 24, nameIndex := 545, descriptorIndex := 543, attributes := #[] }, { accessFlags := 24, nameIndex := 546, descriptorIndex := 543, attributes := #[] }, { accessFlags := 24, nameIndex := 547, descriptorIndex := 543, attributes := #[] }, { accessFlags := 24, nameIndex := 548, descriptorIndex := 543, attributes := #[] }, { accessFlags := 24, nameIndex := 549, descriptorIndex := 543, attributes := #[] }, { accessFlags := 24, nameIndex := 550, descriptorIndex := 543, attributes := #[] }, { accessFlags := 24, nameIndex := 551, descriptorIndex := 543, attributes := #[] }, { accessFlags := 26, nameIndex := 552, descriptorIndex := 543, attributes := #[] }, { accessFlags := 18, nameIndex := 196, descriptorIndex := 197, attributes := #[] }, { accessFlags := 18, nameIndex := 200, descriptorIndex := 197, attributes := #[] }, { accessFlags := 18, nameIndex := 203, descriptorIndex := 197, attributes := #[] }, { accessFlags := 18, nameIndex := 206, descriptorIndex := 207, attributes := #[] }])
  fields := #[{ name := "MIN", type := (.object "java/time/LocalTime"), accessFlags := 25, slot := 0, constantValue := 0 }, { name := "MAX", type := (.object "java/time/LocalTime"), accessFlags := 25, slot := 1, constantValue := 0 }, { name := "MIDNIGHT", type := (.object "java/time/LocalTime"), accessFlags := 25, slot := 2, constantValue := 0 }, { name := "NOON", type := (.object "java/time/LocalTime"), accessFlags := 25, slot := 3, constantValue := 0 }, { name := "HOURS", type := (.array (.object "java/time/LocalTime")), accessFlags := 26, slot := 4, constantValue := 0 }, { name := "HOURS_PER_DAY", type := .int, accessFlags := 24, slot := 5, constantValue := 0 }, { name := "MINUTES_PER_HOUR", type := .int, accessFlags := 24, slot := 6, constantValue := 0 }, { name := "MINUTES_PER_DAY", type := .int, accessFlags := 24, slot := 7, constantValue := 0 }, { name := "SECONDS_PER_MINUTE", type := .int, accessFlags := 24, slot := 8, constantValue := 0 }, { name := "SECONDS_PER_HOUR", type := .int, accessFlags := 24, slot := 9, constantValue := 0 }, { name := "SECONDS_PER_DAY", type := .int, accessFlags := 24, slot := 10, constantValue := 0 }, { name := "MILLIS_PER_SECOND", type := .long, accessFlags := 24, slot := 11, constantValue := 0 }, { name := "MILLIS_PER_DAY", type := .long, accessFlags := 24, slot := 12, constantValue := 0 }, { name := "MICROS_PER_SECOND", type := .long, accessFlags := 24, slot := 13, constantValue := 0 }, { name := "MICROS_PER_DAY", type := .long, accessFlags := 24, slot := 14, constantValue := 0 }, { name := "NANOS_PER_MILLI", type := .long, accessFlags := 24, slot := 15, constantValue := 0 }, { name := "NANOS_PER_SECOND", type := .long, accessFlags := 24, slot := 16, constantValue := 0 }, { name := "NANOS_PER_MINUTE", type := .long, accessFlags := 24, slot := 17, constantValue := 0 }, { name := "NANOS_PER_HOUR", type := .long, accessFlags := 24, slot := 18, constantValue := 0 }, { name := "NANOS_PER_DAY", type := .long, accessFlags := 24, slot := 19, constantValue := 0 }, { name := "serialVersionUID", type := .long, accessFlags := 26, slot := 20, constantValue := 0 }, { name := "hour", type := .byte, accessFlags := 18, slot := 0, constantValue := 0 }, { name := "minute", type := .byte, accessFlags := 18, slot := 1, constantValue := 0 }, { name := "second", type := .byte, accessFlags := 18, slot := 2, constantValue := 0 }, { name := "nano", type := .int, accessFlags := 18, slot := 3, constantValue := 0 }]
  methods := #[k7m0, k7m1, k7m2, k7m3]
  instanceTypes := #[.byte, .byte, .byte, .int]
  staticTypes := #[(.object "java/time/LocalTime"), (.object "java/time/LocalTime"), (.object "java/time/LocalTime"), (.object "java/time/LocalTime"), (.array (.object "java/time/LocalTime")), .int, .int, .int, .int, .int, .int, .long, .long, .long, .long, .long, .long, .long, .long, .long, .long]
  resolved := Array.replicate 715 none
  statics := some 0 }

def pool8 : Array CpInfo := pool [(1, .class_ 2), (0, u "java/lang/constant/Constable"), (0, .class_ 4), (0, u "java/lang/Object")] 6

/-- java/lang/constant/Constable -/
def k8 : Class := { plain "java/lang/constant/Constable" (some 0) with
  accessFlags := 1537
  interfaces := #[]
  cf := some (fileOf pool8 1 #[] #[] 1537 3 #[] #[])
  fields := #[]
  methods := #[]
  instanceTypes := #[]
  staticTypes := #[]
  resolved := Array.replicate 11 none
  statics := none }

def pool9 : Array CpInfo := pool [(2, .class_ 4), (1, u "java/lang/Enum"), (0, u "name"), (0, u "Ljava/lang/String;"), (2, u "ordinal"), (0, u "I"), (1, .class_ 14), (1, u "java/lang/Object"), (4, u "hash"), (86, .class_ 108), (1, u "java/lang/Enum$EnumDesc"), (2, .class_ 112), (0, u "java/lang/constant/Constable"), (0, .class_ 114), (0, u "java/lang/Comparable"), (0, .class_ 116), (0, u "java/io/Serializable")] 87

/-- java/lang/Enum -/
def k9 : Class := { plain "java/lang/Enum" (some 0) with
  accessFlags := 1057
  interfaces := #[8, 5, 6]
  cf := some (fileOf pool9 2 #[.nestMembers #[106]] #[] 1057 12 #[111, 113, 115] #[{ accessFlags := 18, nameIndex := 5, descriptorIndex := 6, attributes := #[] }, { accessFlags := 18, nameIndex := 9, descriptorIndex := 10, attributes := #[] }, { accessFlags := 2, nameIndex := 19, descriptorIndex := 10, attributes := #[] }])
  fields := #[{ name := "name", type := (.object "java/lang/String"), accessFlags := 18, slot := 0, constantValue := 0 }, { name := "ordinal", type := .int, accessFlags := 18, slot := 1, constantValue := 0 }, { name := "hash", type := .int, accessFlags := 2, slot := 2, constantValue := 0 }]
  methods := #[]
  instanceTypes := #[(.object "java/lang/String"), .int, .int]
  staticTypes := #[]
  resolved := Array.replicate 204 none
  statics := none }

def pool10 : Array CpInfo := pool [(10, .class_ 12), (1, u "java/time/temporal/TemporalField"), (2, .class_ 16), (0, u "java/lang/Object")] 39

/-- java/time/temporal/TemporalField -/
def k10 : Class := { plain "java/time/temporal/TemporalField" (some 0) with
  accessFlags := 1537
  interfaces := #[]
  cf := some (fileOf pool10 10 #[] #[] 1537 15 #[] #[])
  fields := #[]
  methods := #[]
  instanceTypes := #[]
  staticTypes := #[]
  resolved := Array.replicate 56 none
  statics := none }

def pool11 : Array CpInfo := pool [(1, .class_ 2), (0, u "java/time/temporal/ChronoField"), (2, u "NANO_OF_SECOND"), (0, u "Ljava/time/temporal/ChronoField;"), (2, u "NANO_OF_DAY"), (2, u "MICRO_OF_SECOND"), (2, u "MICRO_OF_DAY"), (2, u "MILLI_OF_SECOND"), (2, u "MILLI_OF_DAY"), (2, u "SECOND_OF_MINUTE"), (2, u "SECOND_OF_DAY"), (2, u "MINUTE_OF_HOUR"), (2, u "MINUTE_OF_DAY"), (2, u "HOUR_OF_AMPM"), (2, u "CLOCK_HOUR_OF_AMPM"), (2, u "HOUR_OF_DAY"), (2, u "CLOCK_HOUR_OF_DAY"), (2, u "AMPM_OF_DAY"), (2, u "DAY_OF_WEEK"), (2, u "ALIGNED_DAY_OF_WEEK_IN_MONTH"), (2, u "ALIGNED_DAY_OF_WEEK_IN_YEAR"), (2, u "DAY_OF_MONTH"), (2, u "DAY_OF_YEAR"), (2, u "EPOCH_DAY"), (2, u "ALIGNED_WEEK_OF_MONTH"), (2, u "ALIGNED_WEEK_OF_YEAR"), (2, u "MONTH_OF_YEAR"), (2, u "PROLEPTIC_MONTH"), (2, u "YEAR_OF_ERA"), (2, u "YEAR"), (2, u "ERA"), (2, u "INSTANT_SECONDS"), (2, u "OFFSET_SECONDS"), (2, u "$VALUES"), (0, u "[Ljava/time/temporal/ChronoField;"), (6, .class_ 106), (1, u "java/lang/Enum"), (8, u "name"), (0, u "Ljava/lang/String;"), (2, u "baseUnit"), (0, u "Ljava/time/temporal/TemporalUnit;"), (2, u "rangeUnit"), (0, .fieldref 1 125), (0, .nameAndType 126 127), (0, u "range"), (0, u "Ljava/time/temporal/ValueRange;"), (2, u "displayNameKey"), (59, .methodref 1 191), (0, .nameAndType 126 192), (0, u "()Ljava/time/temporal/ValueRange;"), (0, .methodref 194 195), (0, .class_ 196), (0, .nameAndType 197 198), (0, u "java/time/temporal/ValueRange"), (0, u "checkValidValue"), (0, u "(JLjava/time/temporal/TemporalField;)J"), (256, .class_ 456), (0, u "java/time/temporal/TemporalField"), (27, u "(J)J")] 22

def k11c0 : Code := { maxStack := 1, maxLocals := 1, code := jdk_2395_method_8_code, exceptionTable := #[], attributes := #[] }
def k11m0 : Method := { name := "range", desc := "()Ljava/time/temporal/ValueRange;", sig := { parameters := [], returnType := some (.object "java/time/temporal/ValueRange") }, accessFlags := 1, code := some k11c0 }
def k11c1 : Code := { maxStack := 4, maxLocals := 3, code := jdk_2395_method_11_code, exceptionTable := #[], attributes := #[] }
def k11m1 : Method := { name := "checkValidValue", desc := "(J)J", sig := { parameters := [.long], returnType := some .long }, accessFlags := 1, code := some k11c1 }
/-- java/time/temporal/ChronoField -/
def k11 : Class := { plain "java/time/temporal/ChronoField" (some 9) with
  accessFlags := 16433
  interfaces := #[10]
  cf := some (fileOf pool11 1 #[] #[{ accessFlags := 1, nameIndex := 126, descriptorIndex := 192, attributes := #[] }, { accessFlags := 1, nameIndex := 197, descriptorIndex := 484, attributes := #[] }] 16433 104 #[455] #[{ accessFlags := 16409, nameIndex := 5, descriptorIndex := 6, attributes := #[] }, { accessFlags := 16409, nameIndex := 9, descriptorIndex := 6, attributes := #[] }, { accessFlags := 16409, nameIndex := 12, descriptorIndex := 6, attributes := #[] }, { accessFlags := 16409, nameIndex := 15, descriptorIndex := 6, attributes := #[] }, { accessFlags := 16409, nameIndex := 18, descriptorIndex := 6, attributes := #[] }, { accessFlags := 16409, nameIndex := 21, descriptorIndex := 6, attributes := #[] }, { accessFlags := 16409, nameIndex := 24, descriptorIndex := 6, attributes := #[] }, { accessFlags := 16409, nameIndex := 27, descriptorIndex := 6, attributes := #[] }, { accessFlags := 16409, nameIndex := 30, descriptorIndex := 6, attributes := #[] }, { accessFlags := 16409, nameIndex := 33, descriptorIndex := 6, attributes := #[] }, { accessFlags := 16409, nameIndex := 36, descriptorIndex := 6, attributes := #[] }, { accessFlags := 16409, nameIndex := 39, descriptorIndex := 6, attributes := #[] }, { accessFlags := 16409, nameIndex := 42, descriptorIndex := 6, attributes := #[] }, { accessFlags := 16409, nameIndex := 45, descriptorIndex := 6, attributes := #[] }, { accessFlags := 16409, nameIndex := 48, descriptorIndex := 6, attributes := #[] }, { accessFlags := 16409, nameIndex := 51, descriptorIndex := 6, attributes := #[] }, { accessFlags := 16409, nameIndex := 54, descriptorIndex := 6, attributes := #[] }, { accessFlags := 16409, nameIndex := 57, descriptorIndex := 6, attributes := #[] }, { accessFlags := 16409, nameIndex := 60, descriptorIndex := 6, attributes := #[] }, { accessFlags := 16409, nameIndex := 63, descriptorIndex := 6, attributes := #[] }, { accessFlags := 16409, nameIndex := 66, descriptorIndex := 6, attributes := #[] }, { accessFlags := 16409, nameIndex := 69, descriptorIndex := 6, attributes := #[] }, { accessFlags := 16409, nameIndex := 72, descriptorIndex := 6, attributes := #[] }, { accessFlags := 16409, nameIndex := 75, descriptorIndex := 6, attributes := #[] }, { accessFlags := 16409, nameIndex := 78, descriptorIndex := 6, attributes := #[] }, { accessFlags := 16409, nameIndex := 81, descriptorIndex := 6, attributes := #[] }, { accessFlags := 16409, nameIndex := 84, descriptorIndex := 6, attributes := #[] }, { accessFlags := 16409, nameIndex := 87, descriptorIndex := 6, attributes := #[] }, { accessFlags := 16409, nameIndex := 90, descriptorIndex := 6, attributes := #[] }, { accessFlags := 16409, nameIndex := 93, descriptorIndex := 6, attributes := #[] }, { accessFlags := 18, nameIndex := 115, descriptorIndex := 116, attributes := #[] }, { accessFlags := 18, nameIndex := 119, descriptorIndex := 120, attributes := #[] }, { accessFlags := 18, nameIndex := 123, descriptorIndex := 120, attributes := #[] }, { accessFlags := 18, nameIndex := 126, descriptorIndex := 127, attributes := #[] }, { accessFlags := 18, nameIndex := 130, descriptorIndex := 116, attributes := #[] }, { accessFlags := 4122, nameIndex := 96, descriptorIndex := 97, attributes := #[] }])
  fields := #[{ name := "NANO_OF_SECOND", type := (.object "java/time/temporal/ChronoField"), accessFlags := 16409, slot := 0, constantValue := 0 }, { name := "NANO_OF_DAY", type := (.object "java/time/temporal/ChronoField"), accessFlags := 16409, slot := 1, constantValue := 0 }, { name := "MICRO_OF_SECOND", type := (.object "java/time/temporal/ChronoField"), accessFlags := 16409, slot := 2, constantValue := 0 }, { name := "MICRO_OF_DAY", type := (.object "java/time/temporal/ChronoField"), accessFlags := 16409, slot := 3, constantValue := 0 }, { name := "MILLI_OF_SECOND", type := (.object "java/time/temporal/ChronoField"), accessFlags := 16409, slot := 4, constantValue := 0 }, { name := "MILLI_OF_DAY", type := (.object "java/time/temporal/ChronoField"), accessFlags := 16409, slot := 5, constantValue := 0 }, { name := "SECOND_OF_MINUTE", type := (.object "java/time/temporal/ChronoField"), accessFlags := 16409, slot := 6, constantValue := 0 }, { name := "SECOND_OF_DAY", type := (.object "java/time/temporal/ChronoField"), accessFlags := 16409, slot := 7, constantValue := 0 }, { name := "MINUTE_OF_HOUR", type := (.object "java/time/temporal/ChronoField"), accessFlags := 16409, slot := 8, constantValue := 0 }, { name := "MINUTE_OF_DAY", type := (.object "java/time/temporal/ChronoField"), accessFlags := 16409, slot := 9, constantValue := 0 }, { name := "HOUR_OF_AMPM", type := (.object "java/time/temporal/ChronoField"), accessFlags := 16409, slot := 10, constantValue := 0 }, { name := "CLOCK_HOUR_OF_AMPM", type := (.object "java/time/temporal/ChronoField"), accessFlags := 16409, slot := 11, constantValue := 0 }, { name := "HOUR_OF_DAY", type := (.object "java/time/temporal/ChronoField"), accessFlags := 16409, slot := 12, constantValue := 0 }, { name := "CLOCK_HOUR_OF_DAY", type := (.object "java/time/temporal/ChronoField"), accessFlags := 16409, slot := 13, constantValue := 0 }, { name := "AMPM_OF_DAY", type := (.object "java/time/temporal/ChronoField"), accessFlags := 16409, slot := 14, constantValue := 0 }, { name := "DAY_OF_WEEK", type := (.object "java/time/temporal/ChronoField"), accessFlags := 16409, slot := 15, constantValue := 0 }, { name := "ALIGNED_DAY_OF_WEEK_IN_MONTH", type := (.object "java/time/temporal/ChronoField"), accessFlags := 16409, slot := 16, constantValue := 0 }, { name := "ALIGNED_DAY_OF_WEEK_IN_YEAR", type := (.object "java/time/temporal/ChronoField"), accessFlags := 16409, slot := 17, constantValue := 0 }, { name := "DAY_OF_MONTH", type := (.object "java/time/temporal/ChronoField"), accessFlags := 16409, slot := 18, constantValue := 0 }, { name := "DAY_OF_YEAR", type := (.object "java/time/temporal/ChronoField"), accessFlags := 16409, slot := 19, constantValue := 0 }, { name := "EPOCH_DAY", type := (.object "java/time/temporal/ChronoField"), accessFlags := 16409, slot := 20, constantValue := 0 }, { name := "ALIGNED_WEEK_OF_MONTH", type := (.object "java/time/temporal/ChronoField"), accessFlags := 16409, slot := 21, constantValue := 0 }, { name := "ALIGNED_WEEK_OF_YEAR", type := (.object "java/time/temporal/ChronoField"), accessFlags := 16409, slot := 22, constantValue := 0 }, { name := "MONTH_OF_YEAR", type := (.object "java/time/temporal/ChronoField"), accessFlags := 16409, slot := 23, constantValue := 0 }, { name := "PROLEPTIC_MONTH", type := (.object "java/time/temporal/ChronoField"), accessFlags := 16409, slot := 24, constantValue := 0 }, { name := "YEAR_OF_ERA", type := (.object "java/time/temporal/ChronoField"), accessFlags := 16409, slot := 25, constantValue := 0 }, { name := "YEAR", type := (.object "java/time/temporal/ChronoField"), accessFlags := 16409, slot := 26, constantValue := 0 }, { name := "ERA", type := (.object "java/time/temporal/ChronoField"), accessFlags := 16409, slot := 27, constantValue := 0 }, { name := "INSTANT_SECONDS", type := (.object "java/time/temporal/ChronoField"), accessFlags := 16409, slot := 28, constantValue := 0 }, { name := "OFFSET_SECONDS", type := (.object "java/time/temporal/ChronoField"), accessFlags := 16409, slot := 29, constantValue := 0 }, { name := "name", type := (.object "java/lang/String"), accessFlags := 18, slot := 3, constantValue := 0 }, { name := "baseUnit", type := (.object "java/time/temporal/TemporalUnit"), accessFlags := 18, slot := 4, constantValue := 0 }, { name := "rangeUnit", type := (.object "java/time/temporal/TemporalUnit"), accessFlags := 18, slot := 5, constantValue := 0 }, { name := "range", type := (.object "java/time/temporal/ValueRange"), accessFlags := 18, slot := 6, constantValue := 0 }, { name := "displayNameKey", type := (.object "java/lang/String"), accessFlags := 18, slot := 7, constantValue := 0 }, { name := "$VALUES", type := (.array (.object "java/time/temporal/ChronoField")), accessFlags := 4122, slot := 30, constantValue := 0 }]
  methods := #[k11m0, k11m1]
  instanceTypes := #[(.object "java/lang/String"), .int, .int, (.object "java/lang/String"), (.object "java/time/temporal/TemporalUnit"), (.object "java/time/temporal/TemporalUnit"), (.object "java/time/temporal/ValueRange"), (.object "java/lang/String")]
  staticTypes := #[(.object "java/time/temporal/ChronoField"), (.object "java/time/temporal/ChronoField"), (.object "java/time/temporal/ChronoField"), (.object "java/time/temporal/ChronoField"), (.object "java/time/temporal/ChronoField"), (.object "java/time/temporal/ChronoField"), (.object "java/time/temporal/ChronoField"), (.object "java/time/temporal/ChronoField"), (.object "java/time/temporal/ChronoField"), (.object "java/time/temporal/ChronoField"), (.object "java/time/temporal/ChronoField"), (.object "java/time/temporal/ChronoField"), (.object "java/time/temporal/ChronoField"), (.object "java/time/temporal/ChronoField"), (.object "java/time/temporal/ChronoField"), (.object "java/time/temporal/ChronoField"), (.object "java/time/temporal/ChronoField"), (.object "java/time/temporal/ChronoField"), (.object "java/time/temporal/ChronoField"), (.object "java/time/temporal/ChronoField"), (.object "java/time/temporal/ChronoField"), (.object "java/time/temporal/ChronoField"), (.object "java/time/temporal/ChronoField"), (.object "java/time/temporal/ChronoField"), (.object "java/time/temporal/ChronoField"), (.object "java/time/temporal/ChronoField"), (.object "java/time/temporal/ChronoField"), (.object "java/time/temporal/ChronoField"), (.object "java/time/temporal/ChronoField"), (.object "java/time/temporal/ChronoField"), (.array (.object "java/time/temporal/ChronoField"))]
  resolved := Array.replicate 507 none
  statics := some 1 }

def pool12 : Array CpInfo := pool [(9, .class_ 10), (0, u "java/time/temporal/ValueRange"), (18, .class_ 31), (1, u "java/lang/Object"), (1, .fieldref 9 34), (0, .nameAndType 35 36), (0, u "minSmallest"), (0, u "J"), (2, u "minLargest"), (2, u "maxSmallest"), (0, .fieldref 9 44), (0, .nameAndType 45 36), (0, u "maxLargest"), (0, .methodref 9 47), (0, .nameAndType 48 49), (0, u "getMinimum"), (0, u "()J"), (4, .methodref 9 55), (0, .nameAndType 56 49), (0, u "getMaximum"), (6, .methodref 9 64), (0, .nameAndType 65 66), (0, u "isValidValue"), (0, u "(J)Z"), (54, .class_ 122), (0, u "java/io/Serializable"), (0, u "serialVersionUID"), (17, u "checkValidValue"), (0, u "(JLjava/time/temporal/TemporalField;)J")] 24

def k12c0 : Code := { maxStack := 2, maxLocals := 1, code := jdk_2423_method_6_code, exceptionTable := #[], attributes := #[] }
def k12m0 : Method := { name := "getMinimum", desc := "()J", sig := { parameters := [], returnType := some .long }, accessFlags := 1, code := some k12c0 }
def k12c1 : Code := { maxStack := 2, maxLocals := 1, code := jdk_2423_method_9_code, exceptionTable := #[], attributes := #[] }
def k12m1 : Method := { name := "getMaximum", desc := "()J", sig := { parameters := [], returnType := some .long }, accessFlags := 1, code := some k12c1 }
def k12c2 : Code := { maxStack := 4, maxLocals := 3, code := jdk_2423_method_11_code, exceptionTable := #[], attributes := #[] }
def k12m2 : Method := { name := "isValidValue", desc := "(J)Z", sig := { parameters := [.long], returnType := some .boolean }, accessFlags := 1, code := some k12c2 }
def k12c3 : Code := { maxStack := 6, maxLocals := 4, code := jdk_2423_method_13_code, exceptionTable := #[], attributes := #[] }
def k12m3 : Method := { name := "checkValidValue", desc := "(JLjava/time/temporal/TemporalField;)J", sig := { parameters := [.long, (.object "java/time/temporal/TemporalField")], returnType := some .long }, accessFlags := 1, code := some k12c3 }
/-- java/time/temporal/ValueRange -/
def k12 : Class := { plain "java/time/temporal/ValueRange" (some 0) with
  accessFlags := 49
  interfaces := #[6]
  cf := some (fileOf pool12 9 #[] #[{ accessFlags := 1, nameIndex := 48, descriptorIndex := 49, attributes := #[] }, { accessFlags := 1, nameIndex := 56, descriptorIndex := 49, attributes := #[] }, { accessFlags := 1, nameIndex := 65, descriptorIndex := 66, attributes := #[] }, { accessFlags := 1, nameIndex := 141, descriptorIndex := 142, attributes := #[] }] 49 29 #[121] #[{ accessFlags := 26, nameIndex := 123, descriptorIndex := 36, attributes := #[] }, { accessFlags := 18, nameIndex := 35, descriptorIndex := 36, attributes := #[] }, { accessFlags := 18, nameIndex := 39, descriptorIndex := 36, attributes := #[] }, { accessFlags := 18, nameIndex := 42, descriptorIndex := 36, attributes := #[] }, { accessFlags := 18, nameIndex := 45, descriptorIndex := 36, attributes := #[] }])
  fields := #[{ name := "serialVersionUID", type := .long, accessFlags := 26, slot := 0, constantValue := 0 }, { name := "minSmallest", type := .long, accessFlags := 18, slot := 0, constantValue := 0 }, { name := "minLargest", type := .long, accessFlags := 18, slot := 1, constantValue := 0 }, { name := "maxSmallest", type := .long, accessFlags := 18, slot := 2, constantValue := 0 }, { name := "maxLargest", type := .long, accessFlags := 18, slot := 3, constantValue := 0 }]
  methods := #[k12m0, k12m1, k12m2, k12m3]
  instanceTypes := #[.long, .long, .long, .long]
  staticTypes := #[.long]
  resolved := Array.replicate 167 none
  statics := none }

def pool13 : Array CpInfo := pool [(2, .class_ 4), (1, u "com/example/astraea/astraea/model/Usage"), (6, .class_ 12), (0, u "com/example/astraea/astraea/model/Usage$Builder"), (14, .class_ 29), (1, u "java/lang/Object"), (3, u "quarterHours"), (0, u "Ljava/util/List;"), (36, u "source"), (0, u "Ljava/lang/String;"), (9, u "I"), (3, u "()I"), (2, u "reactiveEnergy"), (0, u "Z"), (0, .methodref 92 93), (0, .class_ 94), (0, .nameAndType 95 86), (0, u "java/time/LocalTime"), (0, u "toSecondOfDay"), (7, .fieldref 2 104), (0, .nameAndType 105 106), (0, u "QUARTER_HOUR_SECONDS"), (0, u "J"), (0, .methodref 2 108), (0, .nameAndType 109 110), (0, u "quarterHourOfDay"), (0, u "(J)I"), (0, .methodref 112 113), (0, .class_ 114), (0, .nameAndType 115 116), (0, u "java/lang/Math"), (0, u "floorDiv"), (0, u "(JJ)J"), (0, .fieldref 2 118), (0, .nameAndType 119 82), (0, u "QUARTER_HOURS_A_DAY"), (0, .methodref 112 121), (0, .nameAndType 122 123), (0, u "floorMod"), (0, u "(JI)I"), (6, u "QUARTER_HOUR"), (0, u "Ljava/time/Duration;"), (124, u "(Ljava/time/LocalTime;)I")] 45

def k13c0 : Code := { maxStack := 2, maxLocals := 1, code := prog_67_method_7_code, exceptionTable := #[], attributes := #[] }
def k13m0 : Method := { name := "quarterHourOfDay", desc := "(Ljava/time/LocalTime;)I", sig := { parameters := [(.object "java/time/LocalTime")], returnType := some .int }, accessFlags := 9, code := some k13c0 }
def k13c1 : Code := { maxStack := 4, maxLocals := 4, code := prog_67_method_8_code, exceptionTable := #[], attributes := #[] }
def k13m1 : Method := { name := "quarterHourOfDay", desc := "(J)I", sig := { parameters := [.long], returnType := some .int }, accessFlags := 9, code := some k13c1 }
/-- com/example/astraea/astraea/model/Usage -/
def k13 : Class := { plain "com/example/astraea/astraea/model/Usage" (some 0) with
  accessFlags := 49
  interfaces := #[]
  cf := some (fileOf pool13 2 #[.nestMembers #[11]] #[{ accessFlags := 9, nameIndex := 109, descriptorIndex := 256, attributes := #[] }, { accessFlags := 9, nameIndex := 109, descriptorIndex := 110, attributes := #[] }] 49 27 #[] #[{ accessFlags := 25, nameIndex := 130, descriptorIndex := 131, attributes := #[] }, { accessFlags := 25, nameIndex := 119, descriptorIndex := 82, attributes := #[] }, { accessFlags := 26, nameIndex := 105, descriptorIndex := 106, attributes := #[] }, { accessFlags := 18, nameIndex := 71, descriptorIndex := 72, attributes := #[] }, { accessFlags := 18, nameIndex := 33, descriptorIndex := 34, attributes := #[] }, { accessFlags := 18, nameIndex := 89, descriptorIndex := 90, attributes := #[] }])
  fields := #[{ name := "QUARTER_HOUR", type := (.object "java/time/Duration"), accessFlags := 25, slot := 0, constantValue := 0 }, { name := "QUARTER_HOURS_A_DAY", type := .int, accessFlags := 25, slot := 1, constantValue := 0 }, { name := "QUARTER_HOUR_SECONDS", type := .long, accessFlags := 26, slot := 2, constantValue := 0 }, { name := "source", type := (.object "java/lang/String"), accessFlags := 18, slot := 0, constantValue := 0 }, { name := "quarterHours", type := (.object "java/util/List"), accessFlags := 18, slot := 1, constantValue := 0 }, { name := "reactiveEnergy", type := .boolean, accessFlags := 18, slot := 2, constantValue := 0 }]
  methods := #[k13m0, k13m1]
  instanceTypes := #[(.object "java/lang/String"), (.object "java/util/List"), .boolean]
  staticTypes := #[(.object "java/time/Duration"), .int, .long]
  resolved := Array.replicate 302 none
  statics := some 2 }

def pool14 : Array CpInfo := pool [(1, .class_ 2), (0, u "java/lang/Math"), (1, .class_ 6), (1, u "java/lang/Object"), (0, u "<init>"), (0, u "()V"), (89, .class_ 100), (1, u "java/lang/Math$RandomNumberGeneratorHolder"), (20, u "(JJ)J"), (23, u "floorDiv"), (0, .methodref 1 147), (0, .nameAndType 148 121), (0, u "floorMod"), (23, u "negativeZeroFloatBits"), (0, u "J"), (2, u "negativeZeroDoubleBits"), (68, u "$assertionsDisabled"), (0, u "Z"), (91, u "twoToTheDoubleScaleDown"), (0, u "D"), (4, u "twoToTheDoubleScaleUp"), (9, u "E"), (3, u "PI"), (2, u "TAU"), (2, u "DEGREES_TO_RADIANS"), (0, u "RADIANS_TO_DEGREES"), (54, u "(JI)I")] 39

def k14m0 : Method := { name := "<init>", desc := "()V", sig := { parameters := [], returnType := none }, accessFlags := 2, code := none }
def k14c1 : Code := { maxStack := 4, maxLocals := 6, code := jdk_29_method_49_code, exceptionTable := #[], attributes := #[] }
def k14m1 : Method := { name := "floorDiv", desc := "(JJ)J", sig := { parameters := [.long, .long], returnType := some .long }, accessFlags := 9, code := some k14c1 }
def k14c2 : Code := { maxStack := 4, maxLocals := 3, code := jdk_29_method_51_code, exceptionTable := #[], attributes := #[] }
def k14m2 : Method := { name := "floorMod", desc := "(JI)I", sig := { parameters := [.long, .int], returnType := some .int }, accessFlags := 9, code := some k14c2 }
def k14c3 : Code := { maxStack := 4, maxLocals := 6, code := jdk_29_method_52_code, exceptionTable := #[], attributes := #[] }
def k14m3 : Method := { name := "floorMod", desc := "(JJ)J", sig := { parameters := [.long, .long], returnType := some .long }, accessFlags := 9, code := some k14c3 }
/-- java/lang/Math -/
def k14 : Class := { plain "java/lang/Math" (some 0) with
  accessFlags := 49
  interfaces := #[]
  cf := some (fileOf pool14 1 #[.nestMembers #[98]] #[{ accessFlags := 2, nameIndex := 7, descriptorIndex := 8, attributes := #[] }, { accessFlags := 9, nameIndex := 145, descriptorIndex := 121, attributes := #[] }, { accessFlags := 9, nameIndex := 148, descriptorIndex := 420, attributes := #[] }, { accessFlags := 9, nameIndex := 148, descriptorIndex := 121, attributes := #[] }] 49 4 #[] #[{ accessFlags := 25, nameIndex := 354, descriptorIndex := 339, attributes := #[] }, { accessFlags := 25, nameIndex := 358, descriptorIndex := 339, attributes := #[] }, { accessFlags := 25, nameIndex := 361, descriptorIndex := 339, attributes := #[] }, { accessFlags := 26, nameIndex := 364, descriptorIndex := 339, attributes := #[] }, { accessFlags := 26, nameIndex := 365, descriptorIndex := 339, attributes := #[] }, { accessFlags := 26, nameIndex := 172, descriptorIndex := 173, attributes := #[] }, { accessFlags := 26, nameIndex := 176, descriptorIndex := 173, attributes := #[] }, { accessFlags := 8, nameIndex := 344, descriptorIndex := 339, attributes := #[] }, { accessFlags := 8, nameIndex := 338, descriptorIndex := 339, attributes := #[] }, { accessFlags := 4120, nameIndex := 245, descriptorIndex := 246, attributes := #[] }])
  fields := #[{ name := "E", type := .double, accessFlags := 25, slot := 0, constantValue := 0 }, { name := "PI", type := .double, accessFlags := 25, slot := 1, constantValue := 0 }, { name := "TAU", type := .double, accessFlags := 25, slot := 2, constantValue := 0 }, { name := "DEGREES_TO_RADIANS", type := .double, accessFlags := 26, slot := 3, constantValue := 0 }, { name := "RADIANS_TO_DEGREES", type := .double, accessFlags := 26, slot := 4, constantValue := 0 }, { name := "negativeZeroFloatBits", type := .long, accessFlags := 26, slot := 5, constantValue := 0 }, { name := "negativeZeroDoubleBits", type := .long, accessFlags := 26, slot := 6, constantValue := 0 }, { name := "twoToTheDoubleScaleUp", type := .double, accessFlags := 8, slot := 7, constantValue := 0 }, { name := "twoToTheDoubleScaleDown", type := .double, accessFlags := 8, slot := 8, constantValue := 0 }, { name := "$assertionsDisabled", type := .boolean, accessFlags := 4120, slot := 9, constantValue := 0 }]
  methods := #[k14m0, k14m1, k14m2, k14m3]
  instanceTypes := #[]
  staticTypes := #[.double, .double, .double, .double, .double, .long, .long, .double, .double, .boolean]
  resolved := Array.replicate 460 none
  statics := none }

def pool15 : Array CpInfo := pool [(4, .class_ 6), (1, u "java/time/temporal/TemporalUnit"), (23, .class_ 31), (0, u "java/lang/Object")] 27

/-- java/time/temporal/TemporalUnit -/
def k15 : Class := { plain "java/time/temporal/TemporalUnit" (some 0) with
  accessFlags := 1537
  interfaces := #[]
  cf := some (fileOf pool15 4 #[] #[] 1537 30 #[] #[])
  fields := #[]
  methods := #[]
  instanceTypes := #[]
  staticTypes := #[]
  resolved := Array.replicate 59 none
  statics := none }

def pool16 : Array CpInfo := pool [(1, .class_ 2), (0, u "java/time/temporal/ChronoUnit"), (2, u "NANOS"), (0, u "Ljava/time/temporal/ChronoUnit;"), (2, u "MICROS"), (2, u "MILLIS"), (2, u "SECONDS"), (2, u "MINUTES"), (2, u "HOURS"), (2, u "HALF_DAYS"), (2, u "DAYS"), (2, u "WEEKS"), (2, u "MONTHS"), (2, u "YEARS"), (2, u "DECADES"), (2, u "CENTURIES"), (2, u "MILLENNIA"), (2, u "ERAS"), (2, u "FOREVER"), (2, u "$VALUES"), (0, u "[Ljava/time/temporal/ChronoUnit;"), (6, .class_ 64), (1, u "java/lang/Enum"), (8, u "name"), (0, u "Ljava/lang/String;"), (2, u "duration"), (0, u "Ljava/time/Duration;"), (117, .class_ 197), (0, u "java/time/temporal/TemporalUnit")] 39

/-- java/time/temporal/ChronoUnit -/
def k16 : Class := { plain "java/time/temporal/ChronoUnit" (some 9) with
  accessFlags := 16433
  interfaces := #[15]
  cf := some (fileOf pool16 1 #[] #[] 16433 62 #[196] #[{ accessFlags := 16409, nameIndex := 5, descriptorIndex := 6, attributes := #[] }, { accessFlags := 16409, nameIndex := 9, descriptorIndex := 6, attributes := #[] }, { accessFlags := 16409, nameIndex := 12, descriptorIndex := 6, attributes := #[] }, { accessFlags := 16409, nameIndex := 15, descriptorIndex := 6, attributes := #[] }, { accessFlags := 16409, nameIndex := 18, descriptorIndex := 6, attributes := #[] }, { accessFlags := 16409, nameIndex := 21, descriptorIndex := 6, attributes := #[] }, { accessFlags := 16409, nameIndex := 24, descriptorIndex := 6, attributes := #[] }, { accessFlags := 16409, nameIndex := 27, descriptorIndex := 6, attributes := #[] }, { accessFlags := 16409, nameIndex := 30, descriptorIndex := 6, attributes := #[] }, { accessFlags := 16409, nameIndex := 33, descriptorIndex := 6, attributes := #[] }, { accessFlags := 16409, nameIndex := 36, descriptorIndex := 6, attributes := #[] }, { accessFlags := 16409, nameIndex := 39, descriptorIndex := 6, attributes := #[] }, { accessFlags := 16409, nameIndex := 42, descriptorIndex := 6, attributes := #[] }, { accessFlags := 16409, nameIndex := 45, descriptorIndex := 6, attributes := #[] }, { accessFlags := 16409, nameIndex := 48, descriptorIndex := 6, attributes := #[] }, { accessFlags := 16409, nameIndex := 51, descriptorIndex := 6, attributes := #[] }, { accessFlags := 18, nameIndex := 73, descriptorIndex := 74, attributes := #[] }, { accessFlags := 18, nameIndex := 77, descriptorIndex := 78, attributes := #[] }, { accessFlags := 4122, nameIndex := 54, descriptorIndex := 55, attributes := #[] }])
  fields := #[{ name := "NANOS", type := (.object "java/time/temporal/ChronoUnit"), accessFlags := 16409, slot := 0, constantValue := 0 }, { name := "MICROS", type := (.object "java/time/temporal/ChronoUnit"), accessFlags := 16409, slot := 1, constantValue := 0 }, { name := "MILLIS", type := (.object "java/time/temporal/ChronoUnit"), accessFlags := 16409, slot := 2, constantValue := 0 }, { name := "SECONDS", type := (.object "java/time/temporal/ChronoUnit"), accessFlags := 16409, slot := 3, constantValue := 0 }, { name := "MINUTES", type := (.object "java/time/temporal/ChronoUnit"), accessFlags := 16409, slot := 4, constantValue := 0 }, { name := "HOURS", type := (.object "java/time/temporal/ChronoUnit"), accessFlags := 16409, slot := 5, constantValue := 0 }, { name := "HALF_DAYS", type := (.object "java/time/temporal/ChronoUnit"), accessFlags := 16409, slot := 6, constantValue := 0 }, { name := "DAYS", type := (.object "java/time/temporal/ChronoUnit"), accessFlags := 16409, slot := 7, constantValue := 0 }, { name := "WEEKS", type := (.object "java/time/temporal/ChronoUnit"), accessFlags := 16409, slot := 8, constantValue := 0 }, { name := "MONTHS", type := (.object "java/time/temporal/ChronoUnit"), accessFlags := 16409, slot := 9, constantValue := 0 }, { name := "YEARS", type := (.object "java/time/temporal/ChronoUnit"), accessFlags := 16409, slot := 10, constantValue := 0 }, { name := "DECADES", type := (.object "java/time/temporal/ChronoUnit"), accessFlags := 16409, slot := 11, constantValue := 0 }, { name := "CENTURIES", type := (.object "java/time/temporal/ChronoUnit"), accessFlags := 16409, slot := 12, constantValue := 0 }, { name := "MILLENNIA", type := (.object "java/time/temporal/ChronoUnit"), accessFlags := 16409, slot := 13, constantValue := 0 }, { name := "ERAS", type := (.object "java/time/temporal/ChronoUnit"), accessFlags := 16409, slot := 14, constantValue := 0 }, { name := "FOREVER", type := (.object "java/time/temporal/ChronoUnit"), accessFlags := 16409, slot := 15, constantValue := 0 }, { name := "name", type := (.object "java/lang/String"), accessFlags := 18, slot := 3, constantValue := 0 }, { name := "duration", type := (.object "java/time/Duration"), accessFlags := 18, slot := 4, constantValue := 0 }, { name := "$VALUES", type := (.array (.object "java/time/temporal/ChronoUnit")), accessFlags := 4122, slot := 16, constantValue := 0 }]
  methods := #[]
  instanceTypes := #[(.object "java/lang/String"), .int, .int, (.object "java/lang/String"), (.object "java/time/Duration")]
  staticTypes := #[(.object "java/time/temporal/ChronoUnit"), (.object "java/time/temporal/ChronoUnit"), (.object "java/time/temporal/ChronoUnit"), (.object "java/time/temporal/ChronoUnit"), (.object "java/time/temporal/ChronoUnit"), (.object "java/time/temporal/ChronoUnit"), (.object "java/time/temporal/ChronoUnit"), (.object "java/time/temporal/ChronoUnit"), (.object "java/time/temporal/ChronoUnit"), (.object "java/time/temporal/ChronoUnit"), (.object "java/time/temporal/ChronoUnit"), (.object "java/time/temporal/ChronoUnit"), (.object "java/time/temporal/ChronoUnit"), (.object "java/time/temporal/ChronoUnit"), (.object "java/time/temporal/ChronoUnit"), (.object "java/time/temporal/ChronoUnit"), (.array (.object "java/time/temporal/ChronoUnit"))]
  resolved := Array.replicate 237 none
  statics := some 3 }

def pool17 : Array CpInfo := pool [(2, .class_ 4), (1, u "java/lang/CharSequence"), (42, .class_ 48), (0, u "java/lang/CharSequence$1CodePointIterator"), (10, .class_ 60), (0, u "java/lang/CharSequence$1CharIterator"), (5, .class_ 67), (0, u "java/lang/Object")] 63

/-- java/lang/CharSequence -/
def k17 : Class := { plain "java/lang/CharSequence" (some 0) with
  accessFlags := 1537
  interfaces := #[]
  cf := some (fileOf pool17 2 #[.nestMembers #[47, 59]] #[] 1537 66 #[] #[])
  fields := #[]
  methods := #[]
  instanceTypes := #[]
  staticTypes := #[]
  resolved := Array.replicate 131 none
  statics := none }

def pool18 : Array CpInfo := pool [(1, .class_ 2), (0, u "java/lang/constant/ConstantDesc"), (0, .class_ 4), (0, u "java/lang/Object")] 32

/-- java/lang/constant/ConstantDesc -/
def k18 : Class := { plain "java/lang/constant/ConstantDesc" (some 0) with
  accessFlags := 1537
  interfaces := #[]
  cf := some (fileOf pool18 1 #[] #[] 1537 3 #[] #[])
  fields := #[]
  methods := #[]
  instanceTypes := #[]
  staticTypes := #[]
  resolved := Array.replicate 37 none
  statics := none }

def pool19 : Array CpInfo := pool [(2, .class_ 4), (1, u "java/lang/Object"), (0, u "<init>"), (0, u "()V"), (3, .class_ 12), (1, u "java/lang/String"), (0, u "value"), (0, u "[B"), (2, u "coder"), (0, u "B"), (2, u "hash"), (0, u "I"), (2, u "hashIsZero"), (0, u "Z"), (13, u "COMPACT_STRINGS"), (534, .class_ 576), (0, u "java/lang/CharSequence"), (22, u "CASE_INSENSITIVE_ORDER"), (0, u "Ljava/util/Comparator;"), (500, u "serialPersistentFields"), (0, u "[Ljava/io/ObjectStreamField;"), (0, .class_ 1104), (0, u "java/lang/String$CaseInsensitiveComparator"), (1, .class_ 1107), (0, u "java/io/Serializable"), (0, .class_ 1109), (0, u "java/lang/Comparable"), (0, .class_ 1111), (0, u "java/lang/constant/Constable"), (0, .class_ 1113), (0, u "java/lang/constant/ConstantDesc"), (2, u "serialVersionUID"), (0, u "J"), (3, u "REPL"), (0, u "C"), (2, u "LATIN1"), (1, u "UTF16")] 323

def k19m0 : Method := { name := "<init>", desc := "()V", sig := { parameters := [], returnType := none }, accessFlags := 1, code := none }
/-- java/lang/String -/
def k19 : Class := { plain "java/lang/String" (some 0) with
  accessFlags := 49
  interfaces := #[6, 5, 17, 8, 18]
  cf := some (fileOf pool19 10 #[.nestMembers #[1103]] #[{ accessFlags := 1, nameIndex := 5, descriptorIndex := 6, attributes := #[] }] 49 2 #[1106, 1108, 575, 1110, 1112] #[{ accessFlags := 18, nameIndex := 13, descriptorIndex := 14, attributes := #[] }, { accessFlags := 18, nameIndex := 17, descriptorIndex := 18, attributes := #[] }, { accessFlags := 2, nameIndex := 21, descriptorIndex := 22, attributes := #[] }, { accessFlags := 2, nameIndex := 25, descriptorIndex := 26, attributes := #[] }, { accessFlags := 26, nameIndex := 1116, descriptorIndex := 1117, attributes := #[] }, { accessFlags := 24, nameIndex := 40, descriptorIndex := 26, attributes := #[] }, { accessFlags := 26, nameIndex := 1101, descriptorIndex := 1102, attributes := #[] }, { accessFlags := 26, nameIndex := 1121, descriptorIndex := 1122, attributes := #[] }, { accessFlags := 25, nameIndex := 599, descriptorIndex := 600, attributes := #[] }, { accessFlags := 24, nameIndex := 1125, descriptorIndex := 18, attributes := #[] }, { accessFlags := 24, nameIndex := 1127, descriptorIndex := 18, attributes := #[] }])
  fields := #[{ name := "value", type := (.array .byte), accessFlags := 18, slot := 0, constantValue := 0 }, { name := "coder", type := .byte, accessFlags := 18, slot := 1, constantValue := 0 }, { name := "hash", type := .int, accessFlags := 2, slot := 2, constantValue := 0 }, { name := "hashIsZero", type := .boolean, accessFlags := 2, slot := 3, constantValue := 0 }, { name := "serialVersionUID", type := .long, accessFlags := 26, slot := 0, constantValue := 0 }, { name := "COMPACT_STRINGS", type := .boolean, accessFlags := 24, slot := 1, constantValue := 0 }, { name := "serialPersistentFields", type := (.array (.object "java/io/ObjectStreamField")), accessFlags := 26, slot := 2, constantValue := 0 }, { name := "REPL", type := .char, accessFlags := 26, slot := 3, constantValue := 0 }, { name := "CASE_INSENSITIVE_ORDER", type := (.object "java/util/Comparator"), accessFlags := 25, slot := 4, constantValue := 0 }, { name := "LATIN1", type := .byte, accessFlags := 24, slot := 5, constantValue := 0 }, { name := "UTF16", type := .byte, accessFlags := 24, slot := 6, constantValue := 0 }]
  methods := #[k19m0]
  instanceTypes := #[(.array .byte), .byte, .int, .boolean]
  staticTypes := #[.long, .boolean, (.array (.object "java/io/ObjectStreamField")), .char, (.object "java/util/Comparator"), .byte, .byte]
  resolved := Array.replicate 1451 none
  statics := none }

def pool20 : Array CpInfo := pool [(1, .class_ 2), (0, u "java/time/temporal/TemporalAmount"), (0, .class_ 4), (0, u "java/lang/Object")] 11

/-- java/time/temporal/TemporalAmount -/
def k20 : Class := { plain "java/time/temporal/TemporalAmount" (some 0) with
  accessFlags := 1537
  interfaces := #[]
  cf := some (fileOf pool20 1 #[] #[] 1537 3 #[] #[])
  fields := #[]
  methods := #[]
  instanceTypes := #[]
  staticTypes := #[]
  resolved := Array.replicate 16 none
  statics := none }

def pool21 : Array CpInfo := pool [(11, .class_ 13), (1, u "java/time/Duration"), (20, u "ZERO"), (0, u "Ljava/time/Duration;"), (13, .class_ 51), (1, u "java/time/temporal/TemporalAmount"), (27, .class_ 81), (1, u "java/time/Duration$Lazy"), (35, u "seconds"), (101, .class_ 220), (0, u "java/lang/Object"), (2, u "J"), (2, u "nanos"), (0, u "I"), (11, .class_ 241), (1, u "java/time/Duration$DurationUnits"), (27, .class_ 271), (1, u "java/time/Duration$1"), (91, u "BI_NANOS_PER_SECOND"), (0, u "Ljava/math/BigInteger;"), (120, .class_ 486), (0, u "java/lang/Comparable"), (0, .class_ 488), (0, u "java/io/Serializable"), (0, u "serialVersionUID")] 166

/-- java/time/Duration -/
def k21 : Class := { plain "java/time/Duration" (some 0) with
  accessFlags := 49
  interfaces := #[20, 5, 6]
  cf := some (fileOf pool21 11 #[.nestMembers #[269, 239, 79]] #[] 49 219 #[49, 485, 487] #[{ accessFlags := 25, nameIndex := 34, descriptorIndex := 35, attributes := #[] }, { accessFlags := 26, nameIndex := 489, descriptorIndex := 223, attributes := #[] }, { accessFlags := 26, nameIndex := 363, descriptorIndex := 364, attributes := #[] }, { accessFlags := 18, nameIndex := 117, descriptorIndex := 223, attributes := #[] }, { accessFlags := 18, nameIndex := 226, descriptorIndex := 227, attributes := #[] }])
  fields := #[{ name := "ZERO", type := (.object "java/time/Duration"), accessFlags := 25, slot := 0, constantValue := 0 }, { name := "serialVersionUID", type := .long, accessFlags := 26, slot := 1, constantValue := 0 }, { name := "BI_NANOS_PER_SECOND", type := (.object "java/math/BigInteger"), accessFlags := 26, slot := 2, constantValue := 0 }, { name := "seconds", type := .long, accessFlags := 18, slot := 0, constantValue := 0 }, { name := "nanos", type := .int, accessFlags := 18, slot := 1, constantValue := 0 }]
  methods := #[]
  instanceTypes := #[.long, .int]
  staticTypes := #[(.object "java/time/Duration"), .long, (.object "java/math/BigInteger")]
  resolved := Array.replicate 656 none
  statics := none }

def pool22 : Array CpInfo := pool [(1, u "java/lang/Cloneable"), (0, .class_ 1), (0, u "java/lang/Object"), (0, .class_ 3)] 3

/-- java/lang/Cloneable -/
def k22 : Class := { plain "java/lang/Cloneable" (some 0) with
  accessFlags := 1537
  interfaces := #[]
  cf := some (fileOf pool22 2 #[] #[] 1537 4 #[] #[])
  fields := #[]
  methods := #[]
  instanceTypes := #[]
  staticTypes := #[]
  resolved := Array.replicate 8 none
  statics := none }

/-- the primitive byte -/
def k23 : Class := { plain "byte" none with kind := .primitive 'B', accessFlags := 0x411 }
/-- [B -/
def k24 : Class := { plain "[B" (some 0) with kind := .array 23 .byte, interfaces := #[22, 6], accessFlags := 1041 }

/-- the primitive int -/
def k25 : Class := { plain "int" none with kind := .primitive 'I', accessFlags := 0x411 }
/-- [I -/
def k26 : Class := { plain "[I" (some 0) with kind := .array 25 .int, interfaces := #[22, 6], accessFlags := 1041 }

/-- [Ljava/time/LocalTime; -/
def k27 : Class := { plain "[Ljava/time/LocalTime;" (some 0) with kind := .array 7 (.object "java/time/LocalTime"), interfaces := #[22, 6], accessFlags := 1041 }

def heap : Heap := #[{ cls := 7, slots := #[.ref 24, .null, .null, .ref 36, .ref 4, .int 0, .int 0, .int 0, .int 0, .int 0, .int 0, .long 0, .long 0, .long 0, .long 0, .long 0, .long 0, .long 0, .long 0, .long 0, .long 0], vm := .statics 7 },
  { cls := 11, slots := #[.ref 20, .null, .null, .null, .null, .null, .ref 16, .null, .ref 12, .null, .null, .null, .ref 6, .null, .null, .null, .null, .null, .null, .null, .null, .null, .null, .null, .null, .null, .null, .null, .null, .null, .null], vm := .statics 11 },
  { cls := 13, slots := #[.null, .int 96, .long 900], vm := .statics 13 },
  { cls := 16, slots := #[.ref 21, .null, .null, .ref 17, .ref 13, .ref 7, .null, .ref 9, .null, .null, .null, .null, .null, .null, .null, .null, .null], vm := .statics 16 },
  { cls := 27, slots := #[.ref 24, .ref 25, .ref 26, .ref 27, .ref 28, .ref 29, .ref 30, .ref 31, .ref 32, .ref 33, .ref 34, .ref 35, .ref 36, .ref 37, .ref 38, .ref 39, .ref 40, .ref 41, .ref 42, .ref 43, .ref 44, .ref 45, .ref 46, .ref 47], vm := .none },
  { cls := 19, slots := #[.null, .int 0, .int 0, .int 0], vm := .none },
  { cls := 11, slots := #[.ref 5, .int 12, .int 0, .ref 5, .ref 7, .ref 9, .ref 11, .ref 5], vm := .none },
  { cls := 16, slots := #[.ref 5, .int 5, .int 0, .ref 5, .ref 8], vm := .none },
  { cls := 21, slots := #[.long 0, .int 0], vm := .none },
  { cls := 16, slots := #[.ref 5, .int 7, .int 0, .ref 5, .ref 10], vm := .none },
  { cls := 21, slots := #[.long 0, .int 0], vm := .none },
  { cls := 12, slots := #[.long 0, .long 0, .long 23, .long 23], vm := .none },
  { cls := 11, slots := #[.ref 5, .int 8, .int 0, .ref 5, .ref 13, .ref 7, .ref 15, .ref 5], vm := .none },
  { cls := 16, slots := #[.ref 5, .int 4, .int 0, .ref 5, .ref 14], vm := .none },
  { cls := 21, slots := #[.long 0, .int 0], vm := .none },
  { cls := 12, slots := #[.long 0, .long 0, .long 59, .long 59], vm := .none },
  { cls := 11, slots := #[.ref 5, .int 6, .int 0, .ref 5, .ref 17, .ref 13, .ref 19, .ref 5], vm := .none },
  { cls := 16, slots := #[.ref 5, .int 3, .int 0, .ref 5, .ref 18], vm := .none },
  { cls := 21, slots := #[.long 0, .int 0], vm := .none },
  { cls := 12, slots := #[.long 0, .long 0, .long 59, .long 59], vm := .none },
  { cls := 11, slots := #[.ref 5, .int 0, .int 0, .ref 5, .ref 21, .ref 17, .ref 23, .null], vm := .none },
  { cls := 16, slots := #[.ref 5, .int 0, .int 0, .ref 5, .ref 22], vm := .none },
  { cls := 21, slots := #[.long 0, .int 0], vm := .none },
  { cls := 12, slots := #[.long 0, .long 0, .long 999999999, .long 999999999], vm := .none },
  { cls := 7, slots := #[.int 0, .int 0, .int 0, .int 0], vm := .none },
  { cls := 7, slots := #[.int 1, .int 0, .int 0, .int 0], vm := .none },
  { cls := 7, slots := #[.int 2, .int 0, .int 0, .int 0], vm := .none },
  { cls := 7, slots := #[.int 3, .int 0, .int 0, .int 0], vm := .none },
  { cls := 7, slots := #[.int 4, .int 0, .int 0, .int 0], vm := .none },
  { cls := 7, slots := #[.int 5, .int 0, .int 0, .int 0], vm := .none },
  { cls := 7, slots := #[.int 6, .int 0, .int 0, .int 0], vm := .none },
  { cls := 7, slots := #[.int 7, .int 0, .int 0, .int 0], vm := .none },
  { cls := 7, slots := #[.int 8, .int 0, .int 0, .int 0], vm := .none },
  { cls := 7, slots := #[.int 9, .int 0, .int 0, .int 0], vm := .none },
  { cls := 7, slots := #[.int 10, .int 0, .int 0, .int 0], vm := .none },
  { cls := 7, slots := #[.int 11, .int 0, .int 0, .int 0], vm := .none },
  { cls := 7, slots := #[.int 12, .int 0, .int 0, .int 0], vm := .none },
  { cls := 7, slots := #[.int 13, .int 0, .int 0, .int 0], vm := .none },
  { cls := 7, slots := #[.int 14, .int 0, .int 0, .int 0], vm := .none },
  { cls := 7, slots := #[.int 15, .int 0, .int 0, .int 0], vm := .none },
  { cls := 7, slots := #[.int 16, .int 0, .int 0, .int 0], vm := .none },
  { cls := 7, slots := #[.int 17, .int 0, .int 0, .int 0], vm := .none },
  { cls := 7, slots := #[.int 18, .int 0, .int 0, .int 0], vm := .none },
  { cls := 7, slots := #[.int 19, .int 0, .int 0, .int 0], vm := .none },
  { cls := 7, slots := #[.int 20, .int 0, .int 0, .int 0], vm := .none },
  { cls := 7, slots := #[.int 21, .int 0, .int 0, .int 0], vm := .none },
  { cls := 7, slots := #[.int 22, .int 0, .int 0, .int 0], vm := .none },
  { cls := 7, slots := #[.int 23, .int 0, .int 0, .int 0], vm := .none }]
def classes : Array Class := #[k0, k1, k2, k3, k4, k5, k6, k7, k8, k9, k10, k11, k12, k13, k14, k15, k16, k17, k18, k19, k20, k21, k22, k23, k24, k25, k26, k27]
def interned : List (Array UInt16 × Addr) := []
def slotsUsed : Nat := 279
def theMethod : MethodId := ⟨1, 1⟩
def args0 : Array Value := #[.int 5, .int 6, .int 7, .int 8]
def aboutOver (below : List Frame) : State where
  vm := { classes := classes, interned := interned.toArray }
  heap := heap
  slotsUsed := slotsUsed
  threads := #[{ frames := .invoking theMethod args0 :: below }]
def below0 : List Frame := [.native { method := ⟨0, 0⟩, args := #[] }]
def about1 : State := aboutOver below0
def p0 : Program := .bare "" "" ""
def e0 : Env := launch0.env 0 0 0
theorem w_frames : about1.frames = Frame.invoking theMethod args0 :: below0 := rfl
set_option maxRecDepth 65536 in
theorem w_args : argsFit about1.vm theMethod args0 = true := by decide +kernel
set_option maxRecDepth 65536 in
theorem w_heap : heapFits about1 = true := by decide +kernel
set_option maxRecDepth 65536 in
theorem w_runnable : about1.curStatus? = some .runnable := by decide +kernel
set_option maxRecDepth 65536 in
theorem w_alone : about1.alone = true := by decide +kernel
set_option maxRecDepth 65536 in
theorem w_named : about1.methodNamed? x = some theMethod := by decide +kernel
set_option maxRecDepth 65536 in
theorem w_hears : about1.hears theMethod below0 = true := by decide +kernel
set_option maxRecDepth 65536 in
theorem w_ripe : about1.ripe theMethod args0 below0 = true := by decide +kernel
theorem w_running : about1.status = .running := rfl
set_option maxRecDepth 65536 in
theorem w_room : about1.hasRoom e0.platform room_1 = true :=
  launch0.hasRoom_least _ room_1 (by decide +kernel) (by decide +kernel) (by decide +kernel) (by decide +kernel) (by decide +kernel) (by decide +kernel)
theorem allAtoms_all (ts : List Jvm.Cond) (a : Array Jvm.Value) (st : Jvm.State) : (allAtoms ts).before a st = ts.all (fun c => c.before a st) := by
  induction ts with
  | nil => rfl
  | cons c t ih =>
    show (Jvm.Cond.and c (allAtoms t)).before a st = _
    rw [Jvm.Cond.before_and, ih, List.all_cons]
def words1 : List Jvm.Cond := Jvm.Cond.code x code maxLocals ret :: tables_1
/-- a 'code' word, met by the world's own term for the bytes: nothing is compared byte by byte -/
theorem code_word {y : MethodName} {bytes : ByteArray} {mx : Nat} {rt : Option FieldType} {a : Array Value} {s : State} {m : MethodId} {meth : Method} {c : Code} (h1 : s.methodNamed? y = some m) (h2 : s.vm.method? m = some meth) (h3 : meth.code = some c) (h4 : c.code = bytes)
    (h5 : (c.maxLocals == mx && c.exceptionTable.isEmpty && decide (c.maxStack ≤ mostOperands) && decide (meth.sig.returnType = rt) && !meth.locks && decide (parseMethodDescriptor y.desc = some meth.sig)) = true) : (Jvm.Cond.code y bytes mx rt).before a s = true := by
  simp only [Bool.and_eq_true, beq_iff_eq, Bool.not_eq_true', decide_eq_true_eq] at h5
  obtain ⟨⟨⟨⟨⟨g1, g2⟩, g3⟩, g4⟩, g5⟩, g6⟩ := h5
  simp [Cond.before, Cond.holds, Cond.value, h1, h2, h3, h4, g1, g2, g3, g4, g5, g6]
def isCode : Jvm.Cond → Bool
  | .code _ _ _ _ => true
  | _ => false
theorem all_split {L : List Jvm.Cond} {P : Jvm.Cond → Bool} (h1 : L.all (fun c => isCode c || P c) = true) (h2 : ∀ c ∈ L.filter isCode, P c = true) : L.all P = true := by
  refine List.all_eq_true.mpr fun c hc => ?_
  have h := List.all_eq_true.mp h1 c hc
  rcases Bool.eq_false_or_eq_true (isCode c) with hi | hi
  · exact h2 c (List.mem_filter.mpr ⟨hc, hi⟩)
  · simpa [hi] using h
set_option maxRecDepth 65536 in
theorem w_c0 : (Jvm.Cond.code x code maxLocals ret).before args0 about1 = true := code_word (m := ⟨1, 1⟩) (meth := k1m1) (c := k1c1) (by decide +kernel) rfl rfl rfl (by decide +kernel)
set_option maxRecDepth 65536 in
theorem w_c1 : (Jvm.Cond.code ({ cls := "java/time/LocalTime", name := "of", desc := "(IIII)Ljava/time/LocalTime;" } : Jvm.MethodName) jdk_2327_method_6_code (4 : Nat) (Option.some (Jvm.ClassFile.FieldType.object "java/time/LocalTime"))).before args0 about1 = true := code_word (m := ⟨7, 0⟩) (meth := k7m0) (c := k7c0) (by decide +kernel) rfl rfl rfl (by decide +kernel)
set_option maxRecDepth 65536 in
theorem w_c2 : (Jvm.Cond.code ({ cls := "java/time/temporal/ChronoField", name := "checkValidValue", desc := "(J)J" } : Jvm.MethodName) jdk_2395_method_11_code (3 : Nat) (Option.some Jvm.ClassFile.FieldType.long)).before args0 about1 = true := code_word (m := ⟨11, 1⟩) (meth := k11m1) (c := k11c1) (by decide +kernel) rfl rfl rfl (by decide +kernel)
set_option maxRecDepth 65536 in
theorem w_c3 : (Jvm.Cond.code ({ cls := "java/time/temporal/ChronoField", name := "range", desc := "()Ljava/time/temporal/ValueRange;" } : Jvm.MethodName) jdk_2395_method_8_code (1 : Nat) (Option.some (Jvm.ClassFile.FieldType.object "java/time/temporal/ValueRange"))).before args0 about1 = true := code_word (m := ⟨11, 0⟩) (meth := k11m0) (c := k11c0) (by decide +kernel) rfl rfl rfl (by decide +kernel)
set_option maxRecDepth 65536 in
theorem w_c4 : (Jvm.Cond.code ({ cls := "java/time/temporal/ValueRange", name := "checkValidValue", desc := "(JLjava/time/temporal/TemporalField;)J" } : Jvm.MethodName) jdk_2423_method_13_code (4 : Nat) (Option.some Jvm.ClassFile.FieldType.long)).before args0 about1 = true := code_word (m := ⟨12, 3⟩) (meth := k12m3) (c := k12c3) (by decide +kernel) rfl rfl rfl (by decide +kernel)
set_option maxRecDepth 65536 in
theorem w_c5 : (Jvm.Cond.code ({ cls := "java/time/temporal/ValueRange", name := "isValidValue", desc := "(J)Z" } : Jvm.MethodName) jdk_2423_method_11_code (3 : Nat) (Option.some Jvm.ClassFile.FieldType.boolean)).before args0 about1 = true := code_word (m := ⟨12, 2⟩) (meth := k12m2) (c := k12c2) (by decide +kernel) rfl rfl rfl (by decide +kernel)
set_option maxRecDepth 65536 in
theorem w_c6 : (Jvm.Cond.code ({ cls := "java/time/temporal/ValueRange", name := "getMinimum", desc := "()J" } : Jvm.MethodName) jdk_2423_method_6_code (1 : Nat) (Option.some Jvm.ClassFile.FieldType.long)).before args0 about1 = true := code_word (m := ⟨12, 0⟩) (meth := k12m0) (c := k12c0) (by decide +kernel) rfl rfl rfl (by decide +kernel)
set_option maxRecDepth 65536 in
theorem w_c7 : (Jvm.Cond.code ({ cls := "java/time/temporal/ValueRange", name := "getMaximum", desc := "()J" } : Jvm.MethodName) jdk_2423_method_9_code (1 : Nat) (Option.some Jvm.ClassFile.FieldType.long)).before args0 about1 = true := code_word (m := ⟨12, 1⟩) (meth := k12m1) (c := k12c1) (by decide +kernel) rfl rfl rfl (by decide +kernel)
set_option maxRecDepth 65536 in
theorem w_c8 : (Jvm.Cond.code ({ cls := "java/time/LocalTime", name := "create", desc := "(IIII)Ljava/time/LocalTime;" } : Jvm.MethodName) jdk_2327_method_13_code (4 : Nat) (Option.some (Jvm.ClassFile.FieldType.object "java/time/LocalTime"))).before args0 about1 = true := code_word (m := ⟨7, 1⟩) (meth := k7m1) (c := k7c1) (by decide +kernel) rfl rfl rfl (by decide +kernel)
set_option maxRecDepth 65536 in
theorem w_c9 : (Jvm.Cond.code ({ cls := "java/time/LocalTime", name := "<init>", desc := "(IIII)V" } : Jvm.MethodName) jdk_2327_method_14_code (5 : Nat) (Option.none : Option Jvm.ClassFile.FieldType)).before args0 about1 = true := code_word (m := ⟨7, 2⟩) (meth := k7m2) (c := k7c2) (by decide +kernel) rfl rfl rfl (by decide +kernel)
set_option maxRecDepth 65536 in
theorem w_c10 : (Jvm.Cond.code ({ cls := "java/lang/Object", name := "<init>", desc := "()V" } : Jvm.MethodName) object_method_1_code (1 : Nat) (Option.none : Option Jvm.ClassFile.FieldType)).before args0 about1 = true := code_word (m := ⟨0, 0⟩) (meth := k0m0) (c := k0c0) (by decide +kernel) rfl rfl rfl (by decide +kernel)
set_option maxRecDepth 65536 in
theorem w_c11 : (Jvm.Cond.code ({ cls := "com/example/astraea/astraea/model/Usage", name := "quarterHourOfDay", desc := "(Ljava/time/LocalTime;)I" } : Jvm.MethodName) prog_67_method_7_code (1 : Nat) (Option.some Jvm.ClassFile.FieldType.int)).before args0 about1 = true := code_word (m := ⟨13, 0⟩) (meth := k13m0) (c := k13c0) (by decide +kernel) rfl rfl rfl (by decide +kernel)
set_option maxRecDepth 65536 in
theorem w_c12 : (Jvm.Cond.code ({ cls := "java/time/LocalTime", name := "toSecondOfDay", desc := "()I" } : Jvm.MethodName) jdk_2327_method_50_code (2 : Nat) (Option.some Jvm.ClassFile.FieldType.int)).before args0 about1 = true := code_word (m := ⟨7, 3⟩) (meth := k7m3) (c := k7c3) (by decide +kernel) rfl rfl rfl (by decide +kernel)
set_option maxRecDepth 65536 in
theorem w_c13 : (Jvm.Cond.code ({ cls := "com/example/astraea/astraea/model/Usage", name := "quarterHourOfDay", desc := "(J)I" } : Jvm.MethodName) prog_67_method_8_code (4 : Nat) (Option.some Jvm.ClassFile.FieldType.int)).before args0 about1 = true := code_word (m := ⟨13, 1⟩) (meth := k13m1) (c := k13c1) (by decide +kernel) rfl rfl rfl (by decide +kernel)
set_option maxRecDepth 65536 in
theorem w_c14 : (Jvm.Cond.code ({ cls := "java/lang/Math", name := "floorDiv", desc := "(JJ)J" } : Jvm.MethodName) jdk_29_method_49_code (6 : Nat) (Option.some Jvm.ClassFile.FieldType.long)).before args0 about1 = true := code_word (m := ⟨14, 1⟩) (meth := k14m1) (c := k14c1) (by decide +kernel) rfl rfl rfl (by decide +kernel)
set_option maxRecDepth 65536 in
theorem w_c15 : (Jvm.Cond.code ({ cls := "java/lang/Math", name := "floorMod", desc := "(JI)I" } : Jvm.MethodName) jdk_29_method_51_code (3 : Nat) (Option.some Jvm.ClassFile.FieldType.int)).before args0 about1 = true := code_word (m := ⟨14, 2⟩) (meth := k14m2) (c := k14c2) (by decide +kernel) rfl rfl rfl (by decide +kernel)
set_option maxRecDepth 65536 in
theorem w_c16 : (Jvm.Cond.code ({ cls := "java/lang/Math", name := "floorMod", desc := "(JJ)J" } : Jvm.MethodName) jdk_29_method_52_code (6 : Nat) (Option.some Jvm.ClassFile.FieldType.long)).before args0 about1 = true := code_word (m := ⟨14, 3⟩) (meth := k14m3) (c := k14c3) (by decide +kernel) rfl rfl rfl (by decide +kernel)
def codes1 : List Jvm.Cond := [Jvm.Cond.code x code maxLocals ret, Jvm.Cond.code ({ cls := "java/time/LocalTime", name := "of", desc := "(IIII)Ljava/time/LocalTime;" } : Jvm.MethodName) jdk_2327_method_6_code (4 : Nat) (Option.some (Jvm.ClassFile.FieldType.object "java/time/LocalTime")), Jvm.Cond.code ({ cls := "java/time/temporal/ChronoField", name := "checkValidValue", desc := "(J)J" } : Jvm.MethodName) jdk_2395_method_11_code (3 : Nat) (Option.some Jvm.ClassFile.FieldType.long), Jvm.Cond.code ({ cls := "java/time/temporal/ChronoField", name := "range", desc := "()Ljava/time/temporal/ValueRange;" } : Jvm.MethodName) jdk_2395_method_8_code (1 : Nat) (Option.some (Jvm.ClassFile.FieldType.object "java/time/temporal/ValueRange")), Jvm.Cond.code ({ cls := "java/time/temporal/ValueRange", name := "checkValidValue", desc := "(JLjava/time/temporal/TemporalField;)J" } : Jvm.MethodName) jdk_2423_method_13_code (4 : Nat) (Option.some Jvm.ClassFile.FieldType.long), Jvm.Cond.code ({ cls := "java/time/temporal/ValueRange", name := "isValidValue", desc := "(J)Z" } : Jvm.MethodName) jdk_2423_method_11_code (3 : Nat) (Option.some Jvm.ClassFile.FieldType.boolean), Jvm.Cond.code ({ cls := "java/time/temporal/ValueRange", name := "getMinimum", desc := "()J" } : Jvm.MethodName) jdk_2423_method_6_code (1 : Nat) (Option.some Jvm.ClassFile.FieldType.long), Jvm.Cond.code ({ cls := "java/time/temporal/ValueRange", name := "getMaximum", desc := "()J" } : Jvm.MethodName) jdk_2423_method_9_code (1 : Nat) (Option.some Jvm.ClassFile.FieldType.long), Jvm.Cond.code ({ cls := "java/time/LocalTime", name := "create", desc := "(IIII)Ljava/time/LocalTime;" } : Jvm.MethodName) jdk_2327_method_13_code (4 : Nat) (Option.some (Jvm.ClassFile.FieldType.object "java/time/LocalTime")), Jvm.Cond.code ({ cls := "java/time/LocalTime", name := "<init>", desc := "(IIII)V" } : Jvm.MethodName) jdk_2327_method_14_code (5 : Nat) (Option.none : Option Jvm.ClassFile.FieldType), Jvm.Cond.code ({ cls := "java/lang/Object", name := "<init>", desc := "()V" } : Jvm.MethodName) object_method_1_code (1 : Nat) (Option.none : Option Jvm.ClassFile.FieldType), Jvm.Cond.code ({ cls := "com/example/astraea/astraea/model/Usage", name := "quarterHourOfDay", desc := "(Ljava/time/LocalTime;)I" } : Jvm.MethodName) prog_67_method_7_code (1 : Nat) (Option.some Jvm.ClassFile.FieldType.int), Jvm.Cond.code ({ cls := "java/time/LocalTime", name := "toSecondOfDay", desc := "()I" } : Jvm.MethodName) jdk_2327_method_50_code (2 : Nat) (Option.some Jvm.ClassFile.FieldType.int), Jvm.Cond.code ({ cls := "com/example/astraea/astraea/model/Usage", name := "quarterHourOfDay", desc := "(J)I" } : Jvm.MethodName) prog_67_method_8_code (4 : Nat) (Option.some Jvm.ClassFile.FieldType.int), Jvm.Cond.code ({ cls := "java/lang/Math", name := "floorDiv", desc := "(JJ)J" } : Jvm.MethodName) jdk_29_method_49_code (6 : Nat) (Option.some Jvm.ClassFile.FieldType.long), Jvm.Cond.code ({ cls := "java/lang/Math", name := "floorMod", desc := "(JI)I" } : Jvm.MethodName) jdk_29_method_51_code (3 : Nat) (Option.some Jvm.ClassFile.FieldType.int), Jvm.Cond.code ({ cls := "java/lang/Math", name := "floorMod", desc := "(JJ)J" } : Jvm.MethodName) jdk_29_method_52_code (6 : Nat) (Option.some Jvm.ClassFile.FieldType.long)]
set_option maxRecDepth 65536 in
theorem codes_eq : words1.filter isCode = codes1 := rfl
theorem w_codes : ∀ c ∈ words1.filter isCode, c.before args0 about1 = true := by
  rw [codes_eq]
  intro c hc
  simp only [codes1, List.mem_cons, List.not_mem_nil, or_false] at hc
  rcases hc with rfl | rfl | rfl | rfl | rfl | rfl | rfl | rfl | rfl | rfl | rfl | rfl | rfl | rfl | rfl | rfl | rfl
  · exact w_c0
  · exact w_c1
  · exact w_c2
  · exact w_c3
  · exact w_c4
  · exact w_c5
  · exact w_c6
  · exact w_c7
  · exact w_c8
  · exact w_c9
  · exact w_c10
  · exact w_c11
  · exact w_c12
  · exact w_c13
  · exact w_c14
  · exact w_c15
  · exact w_c16
set_option maxRecDepth 65536 in
theorem w_t1 : (words1.take 24).all (fun c => isCode c || c.before args0 about1) = true := by decide +kernel
set_option maxRecDepth 65536 in
theorem w_t2 : ((words1.drop 24).take 24).all (fun c => isCode c || c.before args0 about1) = true := by decide +kernel
set_option maxRecDepth 65536 in
theorem w_t3 : (((words1.drop 24).drop 24).take 24).all (fun c => isCode c || c.before args0 about1) = true := by decide +kernel
set_option maxRecDepth 65536 in
theorem w_t4 : (((words1.drop 24).drop 24).drop 24).all (fun c => isCode c || c.before args0 about1) = true := by decide +kernel
theorem w_tables : (allAtoms (Jvm.Cond.code x code maxLocals ret :: tables_1)).before args0 about1 = true := by
  rw [allAtoms_all]
  show words1.all (fun c => c.before args0 about1) = true
  refine all_split ?_ w_codes
  rw [← List.take_append_drop 24 words1, List.all_append, w_t1, ← List.take_append_drop 24 (words1.drop 24), List.all_append, w_t2, ← List.take_append_drop 24 ((words1.drop 24).drop 24), List.all_append, w_t3, w_t4]
  rfl
set_option maxRecDepth 65536 in
theorem w_rest : rest_1_c.before args0 about1 = true := by decide +kernel
set_option maxRecDepth 65536 in
theorem w_case : (Jvm.Cond.and given_1 narrow_1).before args0 about1 = true := by decide +kernel
theorem w_applies : (headSpec (Jvm.Cond.code x code maxLocals ret :: tables_1) room_1).applies x e0.platform about1 = true :=
  (Spec.applies_iff w_frames).mpr ⟨w_running, w_runnable, w_alone, w_named, w_hears, w_ripe, w_room, w_tables⟩
theorem atStart : AtStart classFile x code maxLocals ret World_1 tables_1 room_1 Calls_1 rest_1 Pre_1 launch0 p0 e0 about1 theMethod args0 below0 :=
  ⟨lists_1, trivial, launch0.admits_env _ _ _, launch0.least_env, fairChoices_fair.cas, fairChoices_fair.clock, w_frames, w_args, w_heap, w_applies, trivial, w_rest, w_case⟩
end start1
theorem witness_1 : WitnessClaimed_1 := ⟨start1.p0, start1.e0, start1.about1, start1.theMethod, start1.args0, start1.below0, start1.atStart⟩
end Jvm.Pilot.@@N@@
