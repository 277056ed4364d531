import JvmDerived
import JvmDerived.Pilot.@@N@@Statement
import JvmDerived.Pilot.@@N@@Code
set_option linter.unusedVariables false
set_option linter.unusedSimpArgs false

namespace Jvm.RoadKit
open Sem ClassFile Op Lib Jvm.Stand Jvm.Free Jvm.LawKit
section New
variable {p : Program} {l : Launch} {e : Env} {R : Room} {s : State} {m : MethodId} {args : Array Value} {below : List Frame} {meth : Method} {c : Code} {T : State} {locs : List Loc} {cells slots : Nat}
theorem own_retI (X : Stand p l e R s m args below meth c T locs cells slots) (hx : p.tables.exec = Jvm.exec) {pc : Nat} {Ls : Array Slot} {z : Int32} {rest : List Value} (hret : meth.sig.returnType = some .int) (hd : decode c.code pc = .ok (.ireturn, 1)) {fs : List Frame}
    (hl : ∀ (f : JFrame) (acts : List Action), f.method = m → f.locked = none → f.entered = [] → (doReturn e (T.setTop f) acts (some (.int z))).1 = T.setFrames fs) : Steps p.tables e below (T.setTop (mkF m pc Ls (.int z :: rest))) (T.setFrames fs) :=
  retOut X hx (t := .int) (w := .int z) (i := .ireturn) hret rfl (Or.inl ⟨rfl, Or.inl rfl, z, rfl⟩) hd hl
end New
end Jvm.RoadKit

namespace Jvm.Pilot.@@N@@
open Jvm Jvm.ClassFile Sem Op Lib Jvm.Free Jvm.Stand Jvm.LawKit Jvm.RoadKit Bundle Jvm.Pilot.@@N@@.Jvm.D

theorem own_g {Z : State} {a0 : Array Value} (hw : ∀ d ∈ tables_1, d.before a0 Z = true) (i : Nat) {d : Jvm.Cond} (h : tables_1[i]? = some d) : d.before a0 Z = true := hw _ (List.mem_of_getElem? h)
/-- from the state T the run comes to an end that F takes -/
def own_Ends (p : Program) (e : Env) (below : List Frame) (F : Outcome → State → Prop) (T : State) : Prop :=
  ∃ s₂ o, Steps p.tables e below T s₂ ∧ s₂.status = .running ∧ Ended s₂ below o ∧ F o s₂
def own_Fin (s : State) (Q : Option Value → Heap → List Loc → Prop) (C S : Nat) (o : Outcome) (U : State) : Prop :=
  ∃ v L, o = .returned v ∧ Q v U.heap L ∧ FrameEnd s o U L C S
theorem own_Sta_keep {Z : State} {h h' : Heap} {C n d : String} {v : Value} {ws : List Addr} (F : Sta Z h C n d v) (K : Keep h h' ws) (q : ∀ x ∈ ws, ∀ c : Cell, h[x]? = some c → c.vm.isStatics = false) : Sta Z h' C n d v := by
  obtain ⟨cf, i, k, f, st, cell, h1, h2, h3, h4, h5, h6, h7⟩ := F
  exact ⟨cf, i, k, f, st, cell, h1, h2, h3, h4, K.2.1 st cell h5 (fun m => by rw [q st m cell h5] at h6; cases h6), h6, h7⟩
theorem own_ns_exa {Z : State} {h : Heap} {a : Addr} {C : String} (F : Exa Z h a C) : ∀ c : Cell, h[a]? = some c → c.vm.isStatics = false := fun c hc => by
  obtain ⟨cell, k, h1, h2, h3, h4, h5⟩ := F
  cases h1.symm.trans hc; exact h4
theorem own_ns_arv {Z : State} {h : Heap} {a : Addr} {k : ClassId} {ty : FieldType} {n : Int32} {vs : List Value} {d : Value} (F : Arv Z h a k ty n vs d) : ∀ c : Cell, h[a]? = some c → c.vm.isStatics = false := fun c hc => by
  obtain ⟨cell, A, r⟩ := F
  cases A.1.symm.trans hc; exact A.plain
section OwnSteps
variable {p : Program} {l : Launch} {e : Env} {R : Room} {s : State} {m : MethodId} {args : Array Value} {below : List Frame} {meth : Method} {c : Code} {T T' : State} {locs : List Loc} {cells slots cells' slots' : Nat} {F : Outcome → State → Prop}
theorem own_step (h : ∀ target, Steps p.tables e below T' target → Steps p.tables e below T target) (k : own_Ends p e below F T') : own_Ends p e below F T := by
  obtain ⟨s₂, o, h1, h2⟩ := k
  exact ⟨s₂, o, h _ h1, h2⟩
theorem own_trans (h : Steps p.tables e below T T') (k : own_Ends p e below F T') : own_Ends p e below F T := by
  obtain ⟨s₂, o, h1, h2⟩ := k
  exact ⟨s₂, o, h.trans h1, h2⟩
theorem own_mono (X : Stand p l e R s m args below meth c T locs cells slots) (h1 : cells ≤ cells') (h2 : slots ≤ slots') : Stand p l e R s m args below meth c T locs cells' slots' :=
  { X with same := X.same.mono h1 h2 }
theorem own_ret {Q : Option Value → Heap → List Loc → Prop} {C S : Nat} {g : JFrame} (X : Stand p l e R s m args below meth c T locs cells slots) {v : Option Value} (hv : meth.sig.returnType = none → v = none) (hlocks : meth.locks = false)
    (st : ∀ fs, (∀ (f : JFrame) (acts : List Action), f.method = m → f.locked = none → f.entered = [] → (doReturn e (T.setTop f) acts v).1 = T.setFrames fs) → Steps p.tables e below (T.setTop g) (T.setFrames fs))
    (h1 : cells ≤ C) (h2 : slots ≤ S) (hQ : Q v T.heap locs) : own_Ends p e below (own_Fin s Q C S) (T.setTop g) := by
  obtain ⟨fs, hr, hrun, hended, hW, hsame⟩ := X.leave (v := v) hv hlocks
  exact ⟨_, _, st fs hr, hrun, hended, _, _, rfl, hQ, ⟨_, rfl⟩, hW, hsame.mono h1 h2⟩
def own_FinW (s : State) (Q : Option Value → Heap → List Loc → Prop) (C S : Nat) (o : Outcome) (U : State) : Prop :=
  ∃ v L, o = .returned v ∧ Q v U.heap L ∧ ReturnedEndW s o U L C S
theorem own_retW {vm : Vm} {k : Nat} {Q : Option Value → Heap → List Loc → Prop} {C S : Nat} {g : JFrame} (X : Stand p l e R (s.setVm vm) m args below meth c T locs cells slots) (hS : s.Since vm k) (hk : k ≤ T.heap.size) {v : Option Value} (hv : meth.sig.returnType = none → v = none) (hlocks : meth.locks = false)
    (st : ∀ fs, (∀ (f : JFrame) (acts : List Action), f.method = m → f.locked = none → f.entered = [] → (doReturn e (T.setTop f) acts v).1 = T.setFrames fs) → Steps p.tables e below (T.setTop g) (T.setFrames fs))
    (h1 : cells ≤ C) (h2 : slots ≤ S) (hQ : Q v T.heap locs) : own_Ends p e below (own_FinW s Q C S) (T.setTop g) := by
  obtain ⟨fs, hr, hrun, hended, a, b, c', d'⟩ := X.leaveW hS hk (v := v) hv hlocks
  exact ⟨_, _, st fs hr, hrun, hended, _, _, rfl, hQ, a, b, c', d'.mono h1 h2⟩
theorem own_warm {Z : State} {vm0 vm1 : Vm} {k : Nat} (hZ : Z.Warmed39 vm0) (hS : (s.setVm vm0).Since vm1 k) : Z.Warmed39 vm1 := State.Warmed39.trans (t := s.setVm vm0) hZ hS.1
theorem own_find {vm0 vm1 : Vm} {k : Nat} {own : String} {c0 : ClassId} (h : vm0.findClass own = some c0) (hS : (s.setVm vm0).Since vm1 k) : vm1.findClass own = some c0 := by
  rw [hS.1.alike.findClass]; exact h
def own_FinH (Z : State) (EL : List (String × Nat)) (s : State) (Q : Option Value → Heap → List Loc → Prop) (C S : Nat) (o : Outcome) (U : State) : Prop :=
  ∃ v L, o = .returned v ∧ Q v U.heap L ∧ CHr Z EL s.vm s.heap U.vm U.heap ∧ ReturnedEndW s o U L C S
theorem own_retH {Z : State} {a0 : Array Value} {EL : List (String × Nat)} {vm : Vm} {k : Nat} {h0 h : Heap} {Q : Option Value → Heap → List Loc → Prop} {C S : Nat} {g : JFrame} (X : Stand p l e R (s.setVm vm) m args below meth c T locs cells slots) (hS : s.Since vm k) (hk : k ≤ T.heap.size) (hh : s.heap = h0) (eT : T.heap = h) (hZ : Z.Warmed39 vm) (hEL : EW Z a0 EL) (hC : CHr Z EL s.vm h0 vm h) {v : Option Value} (hv : meth.sig.returnType = none → v = none) (hlocks : meth.locks = false)
    (st : ∀ fs, (∀ (f : JFrame) (acts : List Action), f.method = m → f.locked = none → f.entered = [] → (doReturn e (T.setTop f) acts v).1 = T.setFrames fs) → Steps p.tables e below (T.setTop g) (T.setFrames fs))
    (h1 : cells ≤ C) (h2 : slots ≤ S) (hQ : Q v T.heap locs) : own_Ends p e below (own_FinH Z EL s Q C S) (T.setTop g) := by
  obtain ⟨fs, hr, hrun, hended, a, b, c', d'⟩ := X.leaveW hS hk (v := v) hv hlocks
  have q : CHr Z EL s.vm s.heap T.vm T.heap := by
    rw [hh, eT]; exact hC.trans (CHv.at X hZ hEL hC.1)
  exact ⟨_, _, st fs hr, hrun, hended, _, _, rfl, hQ, q, a, b, c', d'.mono h1 h2⟩
def own_SL (Z : State) (EL : List (String × Nat)) (vm : Vm) (h : Heap) (x : Addr) : Prop := x < h.size ∧ Safe Z EL vm h x
theorem own_SL.go {Z : State} {EL : List (String × Nat)} {vm vm1 : Vm} {h h' : Heap} {x : Addr} (F : own_SL Z EL vm h x) (A : CHr Z EL vm h vm1 h') : own_SL Z EL vm1 h' x := ⟨Nat.lt_of_lt_of_le F.1 A.2.1, A.safe F.1 F.2⟩
theorem own_SL.born {Z : State} {EL : List (String × Nat)} {vm : Vm} {h h' : Heap} {x : Addr} (H : CHv Z EL vm h) (E : Ext h h') (g : x = h.size) (lt : x < h'.size) : own_SL Z EL vm h' x := ⟨lt, Safe.ext E H (Safe.new (Nat.le_of_eq g.symm))⟩
end OwnSteps

def own_amt (x : Int64) : Int32 := if x < (1 : Int64) then 0 else if (9007199254740991 : Int64) < x then 0 else 1
def own_bal (x : Int64) : Int32 := if x < (-9007199254740991 : Int64) then 0 else if (9007199254740991 : Int64) < x then 0 else 1
def own_min (a b : Int64) : Int64 := if b < a then b else a
theorem own_c : (9007199254740991 : Int64).toInt = 9007199254740991 ∧ (-9007199254740991 : Int64).toInt = -9007199254740991 ∧ (1 : Int64).toInt = 1 ∧ (9007199254740992 : Int64).toInt = 9007199254740992 ∧ (0 : Int64).toInt = 0 := ⟨rfl, rfl, rfl, rfl, rfl⟩
theorem own_amt_iff (x : Int64) : ¬ own_amt x = 0 ↔ 1 ≤ x.toInt ∧ x.toInt ≤ 9007199254740991 := by
  obtain ⟨k1, k2, k3, k4, k5⟩ := own_c
  unfold own_amt
  by_cases c1 : x < (1 : Int64)
  · rw [if_pos c1]; rw [Int64.lt_iff_toInt_lt, k3] at c1
    exact ⟨fun h => absurd rfl h, fun h => by omega⟩
  · rw [if_neg c1]; rw [Int64.lt_iff_toInt_lt, k3] at c1
    by_cases c2 : (9007199254740991 : Int64) < x
    · rw [if_pos c2]; rw [Int64.lt_iff_toInt_lt, k1] at c2
      exact ⟨fun h => absurd rfl h, fun h => by omega⟩
    · rw [if_neg c2]; rw [Int64.lt_iff_toInt_lt, k1] at c2
      exact ⟨fun _ => by omega, fun _ => by decide⟩
theorem own_bal_cases (x : Int64) : (own_bal x = 1 ∧ -9007199254740991 ≤ x.toInt ∧ x.toInt ≤ 9007199254740991) ∨ (own_bal x = 0 ∧ ¬ (-9007199254740991 ≤ x.toInt ∧ x.toInt ≤ 9007199254740991)) := by
  obtain ⟨k1, k2, k3, k4, k5⟩ := own_c
  unfold own_bal
  by_cases c1 : x < (-9007199254740991 : Int64)
  · rw [if_pos c1]; rw [Int64.lt_iff_toInt_lt, k2] at c1
    exact Or.inr ⟨rfl, by omega⟩
  · rw [if_neg c1]; rw [Int64.lt_iff_toInt_lt, k2] at c1
    by_cases c2 : (9007199254740991 : Int64) < x
    · rw [if_pos c2]; rw [Int64.lt_iff_toInt_lt, k1] at c2
      exact Or.inr ⟨rfl, by omega⟩
    · rw [if_neg c2]; rw [Int64.lt_iff_toInt_lt, k1] at c2
      exact Or.inl ⟨rfl, by omega⟩
theorem own_bal_ne (x : Int64) (h : ¬ own_bal x = 0) : -9007199254740991 ≤ x.toInt ∧ x.toInt ≤ 9007199254740991 := by
  rcases own_bal_cases x with q | q
  · exact q.2
  · exact absurd q.1 h
theorem own_bal_of (x : Int64) (h : -9007199254740991 ≤ x.toInt ∧ x.toInt ≤ 9007199254740991) : ¬ own_bal x = 0 := by
  rcases own_bal_cases x with q | q
  · rw [q.1]; decide
  · exact absurd h q.2
theorem own_L0 (b a : Int64) (hA : ¬ own_amt a = 0) (hB : ¬ own_bal b = 0) : ((9007199254740991 : Int64) - a < b ↔ 9007199254740991 < b.toInt + a.toInt) ∧ (b + a).toInt = b.toInt + a.toInt := by
  obtain ⟨k1, k2, k3, k4, k5⟩ := own_c
  have h1 := (own_amt_iff a).mp hA
  have h2 := own_bal_ne b hB
  have s1 := c_lsub (9007199254740991 : Int64) a
  have s2 := c_ladd b a
  have r1 := rng64 ((9007199254740991 : Int64) - a)
  have r2 := rng64 (b + a)
  rw [k1] at s1
  refine ⟨?_, by omega⟩
  rw [Int64.lt_iff_toInt_lt]
  constructor <;> intro h <;> omega
theorem own_L1 (b a : Int64) (hA : ¬ own_amt a = 0) (hB : ¬ own_bal b = 0) (h : (9007199254740991 : Int64) - a < b) : own_bal (b + a) = 0 := by
  obtain ⟨e1, e2⟩ := own_L0 b a hA hB
  have h' := e1.mp h
  rcases own_bal_cases (b + a) with q | q
  · exact absurd q.2 (by omega)
  · exact q.1
theorem own_L2 (b a : Int64) (hA : ¬ own_amt a = 0) (hB : ¬ own_bal b = 0) (h : ¬ (9007199254740991 : Int64) - a < b) : own_bal (b + a) = 1 := by
  obtain ⟨e1, e2⟩ := own_L0 b a hA hB
  have h' : ¬ 9007199254740991 < b.toInt + a.toInt := fun q => h (e1.mpr q)
  have h1 := (own_amt_iff a).mp hA
  have h2 := own_bal_ne b hB
  rcases own_bal_cases (b + a) with q | q
  · exact q.1
  · exact absurd q.2 (by omega)
theorem own_np0 {q : Int32} {x : Int64} (e : q = own_bal x) (h : own_bal x = 0) : nar .boolean q = 0 := by rw [e, h]; rfl
theorem own_np1 {q : Int32} {x : Int64} (e : q = own_bal x) (h : own_bal x = 1) : ¬ nar .boolean q = 0 := by rw [e, h]; decide
theorem own_q1 {q : Int32} {x : Int64} (e : q = own_bal x) (h : own_bal x = 1) : ¬ q = 0 := by rw [e, h]; decide
theorem own_w {w x : Int64} (h : own_bal x = 0 ∨ w = x) (h1 : own_bal x = 1) : w = x := by
  rcases h with q | q
  · rw [q] at h1; exact absurd h1 (by decide)
  · exact q
theorem own_A1b (x : Int64) (h : 0 ≤ x.toInt) : ¬ own_amt ((x - (x / (9007199254740991 : Int64)) * (9007199254740991 : Int64)) + (1 : Int64)) = 0 := by
  obtain ⟨k1, k2, k3, k4, k5⟩ := own_c
  have e := (c_lrem x (9007199254740991 : Int64) 9007199254740991 k1).1 (by omega)
  have a1 := c_ladd (x - (x / (9007199254740991 : Int64)) * (9007199254740991 : Int64)) 1
  have r1 := rng64 ((x - (x / (9007199254740991 : Int64)) * (9007199254740991 : Int64)) + 1)
  rw [own_amt_iff]
  rw [k3] at a1
  omega
theorem own_A1 (p : Int64) : ¬ own_amt (((p &&& (9223372036854775807 : Int64)) - ((p &&& (9223372036854775807 : Int64)) / (9007199254740991 : Int64)) * (9007199254740991 : Int64)) + (1 : Int64)) = 0 := by
  have h := c_maskL p 9223372036854775807 63 (by decide) (by decide)
  have pp : ((2 ^ 63 : Nat) : Int) = 9223372036854775808 := rfl
  rw [pp] at h
  exact own_A1b _ (by rw [h]; omega)
theorem own_m (m : Int32) : 0 ≤ ((m >>> ((2 : Int32) &&& 31)) &&& (3 : Int32)).toInt64.toInt ∧ ((m >>> ((2 : Int32) &&& 31)) &&& (3 : Int32)).toInt64.toInt ≤ 3 := by
  have h := c_and (m >>> ((2 : Int32) &&& 31)) 3 (by decide)
  have k : (3 : Int32).toInt = 3 := rfl
  rw [k] at h
  rw [c_i2l]; exact h
theorem own_m1 (m : Int32) : 0 ≤ ((m >>> ((2 : Int32) &&& 31)) &&& (1 : Int32)).toInt64.toInt ∧ ((m >>> ((2 : Int32) &&& 31)) &&& (1 : Int32)).toInt64.toInt ≤ 1 := by
  have h := c_and (m >>> ((2 : Int32) &&& 31)) 1 (by decide)
  have k : (1 : Int32).toInt = 1 := rfl
  rw [k] at h
  rw [c_i2l]; exact h
theorem own_A3 (m : Int32) : ¬ own_amt ((9007199254740991 : Int64) - ((m >>> ((2 : Int32) &&& 31)) &&& (1 : Int32)).toInt64) = 0 := by
  obtain ⟨k1, k2, k3, k4, k5⟩ := own_c
  have h := own_m1 m
  generalize ((m >>> ((2 : Int32) &&& 31)) &&& (1 : Int32)).toInt64 = x at *
  have s := c_lsub (9007199254740991 : Int64) x
  have r := rng64 ((9007199254740991 : Int64) - x)
  rw [own_amt_iff]
  rw [k1] at s
  omega
theorem own_B1i {A X D E G : Int} (h : 0 ≤ X ∧ X ≤ 3) (h1 : 1 ≤ A ∧ A ≤ 9007199254740991) (s1 : (D - (9007199254740991 - A)) % 18446744073709551616 = 0) (s2 : (E - (X - 1)) % 18446744073709551616 = 0) (s3 : (G - (D + E)) % 18446744073709551616 = 0)
    (r1 : -9223372036854775808 ≤ D ∧ D < 9223372036854775808) (r2 : -9223372036854775808 ≤ E ∧ E < 9223372036854775808) (r3 : -9223372036854775808 ≤ G ∧ G < 9223372036854775808) (c : ¬ 9007199254740991 < G) : -9007199254740991 ≤ G ∧ G ≤ 9007199254740991 := by omega
theorem own_B1 (a : Int64) (m : Int32) (hA : ¬ own_amt a = 0) : ¬ own_bal (own_min (((9007199254740991 : Int64) - a) + (((m >>> ((2 : Int32) &&& 31)) &&& (3 : Int32)).toInt64 - (1 : Int64))) (9007199254740991 : Int64)) = 0 := by
  obtain ⟨k1, k2, k3, k4, k5⟩ := own_c
  have h := own_m m
  have h1 := (own_amt_iff a).mp hA
  generalize ((m >>> ((2 : Int32) &&& 31)) &&& (3 : Int32)).toInt64 = x at *
  have s1 := c_lsub (9007199254740991 : Int64) a
  have s2 := c_lsub x 1
  have s3 := c_ladd ((9007199254740991 : Int64) - a) (x - 1)
  have r1 := rng64 ((9007199254740991 : Int64) - a)
  have r2 := rng64 (x - 1)
  have r3 := rng64 (((9007199254740991 : Int64) - a) + (x - 1))
  rw [k1] at s1
  rw [k3] at s2
  apply own_bal_of
  unfold own_min
  by_cases c : (9007199254740991 : Int64) < ((9007199254740991 : Int64) - a) + (x - 1)
  · rw [if_pos c, k1]; omega
  · rw [if_neg c]; rw [Int64.lt_iff_toInt_lt, k1] at c; exact own_B1i h h1 s1 s2 s3 r1 r2 r3 c
theorem own_B2 (m : Int32) : ¬ own_bal ((-(9007199254740991 : Int64)) + ((m >>> ((2 : Int32) &&& 31)) &&& (3 : Int32)).toInt64) = 0 := by
  obtain ⟨k1, k2, k3, k4, k5⟩ := own_c
  have h := own_m m
  generalize ((m >>> ((2 : Int32) &&& 31)) &&& (3 : Int32)).toInt64 = x at *
  have kn : (-(9007199254740991 : Int64)).toInt = -9007199254740991 := rfl
  have s := c_ladd (-(9007199254740991 : Int64)) x
  have r := rng64 ((-(9007199254740991 : Int64)) + x)
  rw [kn] at s
  apply own_bal_of; omega
theorem own_B3 (b : Int64) : ¬ own_bal (b - (b / (9007199254740992 : Int64)) * (9007199254740992 : Int64)) = 0 := by
  obtain ⟨k1, k2, k3, k4, k5⟩ := own_c
  have e := c_lrem b 9007199254740992 9007199254740992 k4
  apply own_bal_of
  rcases Int.lt_or_le b.toInt 0 with q | q
  · have := e.2 q; omega
  · have := e.1 q; omega

theorem d3_0 : decode prog_11_method_2_code 0 = .ok (.lload_n 0, 1) := by decide +kernel
theorem d3_1 : decode prog_11_method_2_code 1 = .ok (.lconst 1, 1) := by decide +kernel
theorem d3_2 : decode prog_11_method_2_code 2 = .ok (.lcmp, 1) := by decide +kernel
theorem d3_3 : decode prog_11_method_2_code 3 = .ok (.ifCond .lt 15, 3) := by decide +kernel
theorem d3_6 : decode prog_11_method_2_code 6 = .ok (.lload_n 0, 1) := by decide +kernel
theorem d3_7 : decode prog_11_method_2_code 7 = .ok (.ldc2_w 9, 3) := by decide +kernel
theorem d3_10 : decode prog_11_method_2_code 10 = .ok (.lcmp, 1) := by decide +kernel
theorem d3_11 : decode prog_11_method_2_code 11 = .ok (.ifCond .gt 7, 3) := by decide +kernel
theorem d3_14 : decode prog_11_method_2_code 14 = .ok (.iconst 1, 1) := by decide +kernel
theorem d3_15 : decode prog_11_method_2_code 15 = .ok (.goto 4, 3) := by decide +kernel
theorem d3_18 : decode prog_11_method_2_code 18 = .ok (.iconst 0, 1) := by decide +kernel
theorem d3_19 : decode prog_11_method_2_code 19 = .ok (.ireturn, 1) := by decide +kernel
theorem pn_com_example_pledger_pledger_model_Money : plainName "com/example/pledger/pledger/model/Money" = true := by first | (simp [plainName, overriddenIn]; done) | decide +kernel
theorem ef_rm3 (m : MethodId) (x0 : Int64) : entryFrame m #[(.long x0)] 2 = mkF m 0 #[.val (.long x0), .second] [] := by first | (simp [entryFrame, mkF, argsToLocals, Value.category, maxLocals]; done) | rfl
def Q3 (Z : State) (p1 : Int64) (h0 : Heap) (n0 : Nat) (v : Option Value) (h : Heap) (L : List Loc) : Prop := v = some (.int (own_amt p1)) ∧ Fr n0 L ∧ h = h0
set_option maxRecDepth 65536 in
set_option maxHeartbeats 40000000 in
theorem rm3 (l : Launch) (Z : State) (a0 : Array Value) (hw : ∀ d ∈ tables_1, d.before a0 Z = true) (ws : List Jvm.Cond) (p1 : Int64) (h0 : Heap) (n0 : Nat) (Z0 : n0 ≤ h0.size)  :
    MetFree l (⟨"com/example/pledger/pledger/model/Money", "isAmount", "(J)Z"⟩ : MethodName) (head1 (Jvm.Cond.code (⟨"com/example/pledger/pledger/model/Money", "isAmount", "(J)Z"⟩ : MethodName) prog_11_method_2_code 2 (some .boolean) :: ws) ({ frames := 0, cells := 0, slots := 0, locals := 0 } : Room)) (fun ar U => ar = #[(.long p1)] ∧ Z.Warmed39 U.vm ∧ U.heap = h0) (fun _ _ _ _ _ => True) (fun _ U o U' => ∃ v L, o = .returned v ∧ Q3 Z p1 h0 n0 v U'.heap L ∧ FrameEnd U o U' L ({ frames := 0, cells := 0, slots := 0, locals := 0 } : Room).cells ({ frames := 0, cells := 0, slots := 0, locals := 0 } : Room).slots) := by
  refine MetFree.of_bodySF (plainFor_of_name pn_com_example_pledger_pledger_model_Money) hisR ?_
  intro p e s m args below meth c s₁ Bd hml0 hP hK
  obtain ⟨rfl, hZ, hh⟩ := hP
  have hx := Bd.exec
  have hby := Bd.bytes
  have hml : c.maxLocals = 2 := hml0
  have hown : s.vm.findClass "com/example/pledger/pledger/model/Money" = some m.cls := findClass_of_methodNamed Bd.named
  have hnm := (name_of_methodNamed Bd.named Bd.method).1
  have X0 : Stand p l e ({ frames := 0, cells := 0, slots := 0, locals := 0 } : Room) s m #[(.long p1)] below meth c s₁ [] 0 0 := Stand.of_body Bd
  have e0 : s₁.heap = h0 := by rw [← hh, Bd.state]; rfl
  have N0 := Fr.nil n0
  obtain ⟨F, hF⟩ : ∃ F, F = own_Fin s (Q3 Z p1 h0 n0) ({ frames := 0, cells := 0, slots := 0, locals := 0 } : Room).cells ({ frames := 0, cells := 0, slots := 0, locals := 0 } : Room).slots := ⟨_, rfl⟩
  show own_Ends p e below (own_Fin s (Q3 Z p1 h0 n0) ({ frames := 0, cells := 0, slots := 0, locals := 0 } : Room).cells ({ frames := 0, cells := 0, slots := 0, locals := 0 } : Room).slots) _
  rw [← hF, ef_rm3 m p1]
  show own_Ends p e below F (s₁.setTop (mkF m 0 #[.val (.long p1), .second] []))
  refine own_step (fun _ k => XS.lloadN X0.here hx rfl (hb hby d3_0) rfl k) ?_
  show own_Ends p e below F (s₁.setTop (mkF m 1 #[.val (.long p1), .second] [(.long p1)]))
  refine own_step (fun _ k => XS.lconst X0.here hx rfl (hb hby d3_1) k) ?_
  show own_Ends p e below F (s₁.setTop (mkF m 2 #[.val (.long p1), .second] [(.long (1 : Int64)), (.long p1)]))
  refine own_step (fun _ k => XS.lcmp X0.here hx rfl (hb hby d3_2) rfl k) ?_
  show own_Ends p e below F (s₁.setTop (mkF m 3 #[.val (.long p1), .second] [(.int (lcmpW p1 (1 : Int64)))]))
  by_cases c3_1 : p1 < (1 : Int64)
  · refine own_step (fun _ k => XS.ifYes X0.here hx rfl (pc0 := 3) (pc' := 18) rfl (hb hby d3_3) rfl ((if0 _ _).trans (tlt ((lw_lt _ _).mpr c3_1)).1) (by decide) (by decide) k) ?_
    show own_Ends p e below F (s₁.setTop (mkF m 18 #[.val (.long p1), .second] []))
    refine own_step (fun _ k => XS.iconst X0.here hx rfl (hb hby d3_18) k) ?_
    show own_Ends p e below F (s₁.setTop (mkF m 19 #[.val (.long p1), .second] [(.int (0 : Int32))]))
    rw [hF]
    exact own_ret X0 (v := (some (.int (nar .boolean (0 : Int32))))) (fun h => by rw [Bd.returns] at h; cases h) Bd.notSynchronized (fun fs hr => retN X0 hx (t := .boolean) Bd.returns (by simp) (hb hby d3_19) hr) (by decide) (by decide) (by rw [e0]; exact ⟨by simp only [own_amt, c3_1, if_true, if_false]; rfl, N0, rfl⟩)
  · refine own_step (fun _ k => XS.ifNo X0.here hx rfl (hb hby d3_3) rfl ((if0 _ _).trans (flt (fun q => c3_1 ((lw_lt _ _).mp q))).1) k) ?_
    show own_Ends p e below F (s₁.setTop (mkF m 6 #[.val (.long p1), .second] []))
    refine own_step (fun _ k => XS.lloadN X0.here hx rfl (hb hby d3_6) rfl k) ?_
    show own_Ends p e below F (s₁.setTop (mkF m 7 #[.val (.long p1), .second] [(.long p1)]))
    refine own_step (X0.ldc2Long hx hown (mvT hZ (own_g hw 12 rfl)) (g := (mkF m 7 #[.val (.long p1), .second] [(.long p1)])) rfl (hb hby d3_7)) ?_
    show own_Ends p e below F (s₁.setTop (mkF m 10 #[.val (.long p1), .second] [(.long (9007199254740991 : Int64)), (.long p1)]))
    refine own_step (fun _ k => XS.lcmp X0.here hx rfl (hb hby d3_10) rfl k) ?_
    show own_Ends p e below F (s₁.setTop (mkF m 11 #[.val (.long p1), .second] [(.int (lcmpW p1 (9007199254740991 : Int64)))]))
    by_cases c11_2 : (9007199254740991 : Int64) < p1
    · refine own_step (fun _ k => XS.ifYes X0.here hx rfl (pc0 := 11) (pc' := 18) rfl (hb hby d3_11) rfl ((if0 _ _).trans (tlt ((lw_gt _ _).mpr c11_2)).2.2.1) (by decide) (by decide) k) ?_
      show own_Ends p e below F (s₁.setTop (mkF m 18 #[.val (.long p1), .second] []))
      refine own_step (fun _ k => XS.iconst X0.here hx rfl (hb hby d3_18) k) ?_
      show own_Ends p e below F (s₁.setTop (mkF m 19 #[.val (.long p1), .second] [(.int (0 : Int32))]))
      rw [hF]
      exact own_ret X0 (v := (some (.int (nar .boolean (0 : Int32))))) (fun h => by rw [Bd.returns] at h; cases h) Bd.notSynchronized (fun fs hr => retN X0 hx (t := .boolean) Bd.returns (by simp) (hb hby d3_19) hr) (by decide) (by decide) (by rw [e0]; exact ⟨by simp only [own_amt, c3_1, c11_2, if_true, if_false]; rfl, N0, rfl⟩)
    · refine own_step (fun _ k => XS.ifNo X0.here hx rfl (hb hby d3_11) rfl ((if0 _ _).trans (flt (fun q => c11_2 ((lw_gt _ _).mp q))).2.2.1) k) ?_
      show own_Ends p e below F (s₁.setTop (mkF m 14 #[.val (.long p1), .second] []))
      refine own_step (fun _ k => XS.iconst X0.here hx rfl (hb hby d3_14) k) ?_
      show own_Ends p e below F (s₁.setTop (mkF m 15 #[.val (.long p1), .second] [(.int (1 : Int32))]))
      refine own_step (fun _ k => XS.goto X0.here hx rfl (pc0 := 15) (pc' := 19) rfl (hb hby d3_15) (by decide) (by decide) k) ?_
      show own_Ends p e below F (s₁.setTop (mkF m 19 #[.val (.long p1), .second] [(.int (1 : Int32))]))
      rw [hF]
      exact own_ret X0 (v := (some (.int (nar .boolean (1 : Int32))))) (fun h => by rw [Bd.returns] at h; cases h) Bd.notSynchronized (fun fs hr => retN X0 hx (t := .boolean) Bd.returns (by simp) (hb hby d3_19) hr) (by decide) (by decide) (by rw [e0]; exact ⟨by simp only [own_amt, c3_1, c11_2, if_true, if_false]; rfl, N0, rfl⟩)

theorem d4_0 : decode prog_11_method_6_code 0 = .ok (.lload_n 0, 1) := by decide +kernel
theorem d4_1 : decode prog_11_method_6_code 1 = .ok (.ldc2_w 36, 3) := by decide +kernel
theorem d4_4 : decode prog_11_method_6_code 4 = .ok (.lcmp, 1) := by decide +kernel
theorem d4_5 : decode prog_11_method_6_code 5 = .ok (.ifCond .lt 15, 3) := by decide +kernel
theorem d4_8 : decode prog_11_method_6_code 8 = .ok (.lload_n 0, 1) := by decide +kernel
theorem d4_9 : decode prog_11_method_6_code 9 = .ok (.ldc2_w 9, 3) := by decide +kernel
theorem d4_12 : decode prog_11_method_6_code 12 = .ok (.lcmp, 1) := by decide +kernel
theorem d4_13 : decode prog_11_method_6_code 13 = .ok (.ifCond .gt 7, 3) := by decide +kernel
theorem d4_16 : decode prog_11_method_6_code 16 = .ok (.iconst 1, 1) := by decide +kernel
theorem d4_17 : decode prog_11_method_6_code 17 = .ok (.goto 4, 3) := by decide +kernel
theorem d4_20 : decode prog_11_method_6_code 20 = .ok (.iconst 0, 1) := by decide +kernel
theorem d4_21 : decode prog_11_method_6_code 21 = .ok (.ireturn, 1) := by decide +kernel
theorem ef_rm4 (m : MethodId) (x0 : Int64) : entryFrame m #[(.long x0)] 2 = mkF m 0 #[.val (.long x0), .second] [] := by first | (simp [entryFrame, mkF, argsToLocals, Value.category, maxLocals]; done) | rfl
def Q4 (Z : State) (p1 : Int64) (h0 : Heap) (n0 : Nat) (v : Option Value) (h : Heap) (L : List Loc) : Prop := v = some (.int (own_bal p1)) ∧ Fr n0 L ∧ h = h0
set_option maxRecDepth 65536 in
set_option maxHeartbeats 40000000 in
theorem rm4 (l : Launch) (Z : State) (a0 : Array Value) (hw : ∀ d ∈ tables_1, d.before a0 Z = true) (ws : List Jvm.Cond) (p1 : Int64) (h0 : Heap) (n0 : Nat) (Z0 : n0 ≤ h0.size)  :
    MetFree l (⟨"com/example/pledger/pledger/model/Money", "isBalance", "(J)Z"⟩ : MethodName) (head1 (Jvm.Cond.code (⟨"com/example/pledger/pledger/model/Money", "isBalance", "(J)Z"⟩ : MethodName) prog_11_method_6_code 2 (some .boolean) :: ws) ({ frames := 0, cells := 0, slots := 0, locals := 0 } : Room)) (fun ar U => ar = #[(.long p1)] ∧ Z.Warmed39 U.vm ∧ U.heap = h0) (fun _ _ _ _ _ => True) (fun _ U o U' => ∃ v L, o = .returned v ∧ Q4 Z p1 h0 n0 v U'.heap L ∧ FrameEnd U o U' L ({ frames := 0, cells := 0, slots := 0, locals := 0 } : Room).cells ({ frames := 0, cells := 0, slots := 0, locals := 0 } : Room).slots) := by
  refine MetFree.of_bodySF (plainFor_of_name pn_com_example_pledger_pledger_model_Money) hisR ?_
  intro p e s m args below meth c s₁ Bd hml0 hP hK
  obtain ⟨rfl, hZ, hh⟩ := hP
  have hx := Bd.exec
  have hby := Bd.bytes
  have hml : c.maxLocals = 2 := hml0
  have hown : s.vm.findClass "com/example/pledger/pledger/model/Money" = some m.cls := findClass_of_methodNamed Bd.named
  have hnm := (name_of_methodNamed Bd.named Bd.method).1
  have X0 : Stand p l e ({ frames := 0, cells := 0, slots := 0, locals := 0 } : Room) s m #[(.long p1)] below meth c s₁ [] 0 0 := Stand.of_body Bd
  have e0 : s₁.heap = h0 := by rw [← hh, Bd.state]; rfl
  have N0 := Fr.nil n0
  obtain ⟨F, hF⟩ : ∃ F, F = own_Fin s (Q4 Z p1 h0 n0) ({ frames := 0, cells := 0, slots := 0, locals := 0 } : Room).cells ({ frames := 0, cells := 0, slots := 0, locals := 0 } : Room).slots := ⟨_, rfl⟩
  show own_Ends p e below (own_Fin s (Q4 Z p1 h0 n0) ({ frames := 0, cells := 0, slots := 0, locals := 0 } : Room).cells ({ frames := 0, cells := 0, slots := 0, locals := 0 } : Room).slots) _
  rw [← hF, ef_rm4 m p1]
  show own_Ends p e below F (s₁.setTop (mkF m 0 #[.val (.long p1), .second] []))
  refine own_step (fun _ k => XS.lloadN X0.here hx rfl (hb hby d4_0) rfl k) ?_
  show own_Ends p e below F (s₁.setTop (mkF m 1 #[.val (.long p1), .second] [(.long p1)]))
  refine own_step (X0.ldc2Long hx hown (mvT hZ (own_g hw 16 rfl)) (g := (mkF m 1 #[.val (.long p1), .second] [(.long p1)])) rfl (hb hby d4_1)) ?_
  show own_Ends p e below F (s₁.setTop (mkF m 4 #[.val (.long p1), .second] [(.long (-9007199254740991 : Int64)), (.long p1)]))
  refine own_step (fun _ k => XS.lcmp X0.here hx rfl (hb hby d4_4) rfl k) ?_
  show own_Ends p e below F (s₁.setTop (mkF m 5 #[.val (.long p1), .second] [(.int (lcmpW p1 (-9007199254740991 : Int64)))]))
  by_cases c5_1 : p1 < (-9007199254740991 : Int64)
  · refine own_step (fun _ k => XS.ifYes X0.here hx rfl (pc0 := 5) (pc' := 20) rfl (hb hby d4_5) rfl ((if0 _ _).trans (tlt ((lw_lt _ _).mpr c5_1)).1) (by decide) (by decide) k) ?_
    show own_Ends p e below F (s₁.setTop (mkF m 20 #[.val (.long p1), .second] []))
    refine own_step (fun _ k => XS.iconst X0.here hx rfl (hb hby d4_20) k) ?_
    show own_Ends p e below F (s₁.setTop (mkF m 21 #[.val (.long p1), .second] [(.int (0 : Int32))]))
    rw [hF]
    exact own_ret X0 (v := (some (.int (nar .boolean (0 : Int32))))) (fun h => by rw [Bd.returns] at h; cases h) Bd.notSynchronized (fun fs hr => retN X0 hx (t := .boolean) Bd.returns (by simp) (hb hby d4_21) hr) (by decide) (by decide) (by rw [e0]; exact ⟨by simp only [own_bal, c5_1, if_true, if_false]; rfl, N0, rfl⟩)
  · refine own_step (fun _ k => XS.ifNo X0.here hx rfl (hb hby d4_5) rfl ((if0 _ _).trans (flt (fun q => c5_1 ((lw_lt _ _).mp q))).1) k) ?_
    show own_Ends p e below F (s₁.setTop (mkF m 8 #[.val (.long p1), .second] []))
    refine own_step (fun _ k => XS.lloadN X0.here hx rfl (hb hby d4_8) rfl k) ?_
    show own_Ends p e below F (s₁.setTop (mkF m 9 #[.val (.long p1), .second] [(.long p1)]))
    refine own_step (X0.ldc2Long hx hown (mvT hZ (own_g hw 12 rfl)) (g := (mkF m 9 #[.val (.long p1), .second] [(.long p1)])) rfl (hb hby d4_9)) ?_
    show own_Ends p e below F (s₁.setTop (mkF m 12 #[.val (.long p1), .second] [(.long (9007199254740991 : Int64)), (.long p1)]))
    refine own_step (fun _ k => XS.lcmp X0.here hx rfl (hb hby d4_12) rfl k) ?_
    show own_Ends p e below F (s₁.setTop (mkF m 13 #[.val (.long p1), .second] [(.int (lcmpW p1 (9007199254740991 : Int64)))]))
    by_cases c13_2 : (9007199254740991 : Int64) < p1
    · refine own_step (fun _ k => XS.ifYes X0.here hx rfl (pc0 := 13) (pc' := 20) rfl (hb hby d4_13) rfl ((if0 _ _).trans (tlt ((lw_gt _ _).mpr c13_2)).2.2.1) (by decide) (by decide) k) ?_
      show own_Ends p e below F (s₁.setTop (mkF m 20 #[.val (.long p1), .second] []))
      refine own_step (fun _ k => XS.iconst X0.here hx rfl (hb hby d4_20) k) ?_
      show own_Ends p e below F (s₁.setTop (mkF m 21 #[.val (.long p1), .second] [(.int (0 : Int32))]))
      rw [hF]
      exact own_ret X0 (v := (some (.int (nar .boolean (0 : Int32))))) (fun h => by rw [Bd.returns] at h; cases h) Bd.notSynchronized (fun fs hr => retN X0 hx (t := .boolean) Bd.returns (by simp) (hb hby d4_21) hr) (by decide) (by decide) (by rw [e0]; exact ⟨by simp only [own_bal, c5_1, c13_2, if_true, if_false]; rfl, N0, rfl⟩)
    · refine own_step (fun _ k => XS.ifNo X0.here hx rfl (hb hby d4_13) rfl ((if0 _ _).trans (flt (fun q => c13_2 ((lw_gt _ _).mp q))).2.2.1) k) ?_
      show own_Ends p e below F (s₁.setTop (mkF m 16 #[.val (.long p1), .second] []))
      refine own_step (fun _ k => XS.iconst X0.here hx rfl (hb hby d4_16) k) ?_
      show own_Ends p e below F (s₁.setTop (mkF m 17 #[.val (.long p1), .second] [(.int (1 : Int32))]))
      refine own_step (fun _ k => XS.goto X0.here hx rfl (pc0 := 17) (pc' := 21) rfl (hb hby d4_17) (by decide) (by decide) k) ?_
      show own_Ends p e below F (s₁.setTop (mkF m 21 #[.val (.long p1), .second] [(.int (1 : Int32))]))
      rw [hF]
      exact own_ret X0 (v := (some (.int (nar .boolean (1 : Int32))))) (fun h => by rw [Bd.returns] at h; cases h) Bd.notSynchronized (fun fs hr => retN X0 hx (t := .boolean) Bd.returns (by simp) (hb hby d4_21) hr) (by decide) (by decide) (by rw [e0]; exact ⟨by simp only [own_bal, c5_1, c13_2, if_true, if_false]; rfl, N0, rfl⟩)

theorem d12_0 : decode jdk_29_method_70_code 0 = .ok (.lload_n 0, 1) := by decide +kernel
theorem d12_1 : decode jdk_29_method_70_code 1 = .ok (.lload_n 2, 1) := by decide +kernel
theorem d12_2 : decode jdk_29_method_70_code 2 = .ok (.lcmp, 1) := by decide +kernel
theorem d12_3 : decode jdk_29_method_70_code 3 = .ok (.ifCond .gt 7, 3) := by decide +kernel
theorem d12_6 : decode jdk_29_method_70_code 6 = .ok (.lload_n 0, 1) := by decide +kernel
theorem d12_7 : decode jdk_29_method_70_code 7 = .ok (.goto 4, 3) := by decide +kernel
theorem d12_10 : decode jdk_29_method_70_code 10 = .ok (.lload_n 2, 1) := by decide +kernel
theorem d12_11 : decode jdk_29_method_70_code 11 = .ok (.lreturn, 1) := by decide +kernel
theorem ef_rm12 (m : MethodId) (x0 : Int64) (x1 : Int64) : entryFrame m #[(.long x0), (.long x1)] 4 = mkF m 0 #[.val (.long x0), .second, .val (.long x1), .second] [] := by first | (simp [entryFrame, mkF, argsToLocals, Value.category, maxLocals]; done) | rfl
def Q12 (Z : State) (p1 p2 : Int64) (h0 : Heap) (n0 : Nat) (v : Option Value) (h : Heap) (L : List Loc) : Prop := v = some (.long (own_min p1 p2)) ∧ Fr n0 L ∧ h = h0
set_option maxRecDepth 65536 in
set_option maxHeartbeats 40000000 in
theorem rm12 (l : Launch) (Z : State) (a0 : Array Value) (hw : ∀ d ∈ tables_1, d.before a0 Z = true) (ws : List Jvm.Cond) (p1 p2 : Int64) (h0 : Heap) (n0 : Nat) (Z0 : n0 ≤ h0.size)  :
    MetFree l (⟨"java/lang/Math", "min", "(JJ)J"⟩ : MethodName) (head1 (Jvm.Cond.code (⟨"java/lang/Math", "min", "(JJ)J"⟩ : MethodName) jdk_29_method_70_code 4 (some .long) :: ws) ({ frames := 0, cells := 0, slots := 0, locals := 0 } : Room)) (fun ar U => ar = #[(.long p1), (.long p2)] ∧ Z.Warmed39 U.vm ∧ U.heap = h0) (fun _ _ _ _ _ => True) (fun _ U o U' => ∃ v L, o = .returned v ∧ Q12 Z p1 p2 h0 n0 v U'.heap L ∧ FrameEnd U o U' L ({ frames := 0, cells := 0, slots := 0, locals := 0 } : Room).cells ({ frames := 0, cells := 0, slots := 0, locals := 0 } : Room).slots) := by
  refine MetFree.of_bodySF (Jvm.Free.JP.mathPlain rfl (by decide +kernel)) hisR ?_
  intro p e s m args below meth c s₁ Bd hml0 hP hK
  obtain ⟨rfl, hZ, hh⟩ := hP
  have hx := Bd.exec
  have hby := Bd.bytes
  have hml : c.maxLocals = 4 := hml0
  have hown : s.vm.findClass "java/lang/Math" = some m.cls := findClass_of_methodNamed Bd.named
  have hnm := (name_of_methodNamed Bd.named Bd.method).1
  have X0 : Stand p l e ({ frames := 0, cells := 0, slots := 0, locals := 0 } : Room) s m #[(.long p1), (.long p2)] below meth c s₁ [] 0 0 := Stand.of_body Bd
  have e0 : s₁.heap = h0 := by rw [← hh, Bd.state]; rfl
  have N0 := Fr.nil n0
  obtain ⟨F, hF⟩ : ∃ F, F = own_Fin s (Q12 Z p1 p2 h0 n0) ({ frames := 0, cells := 0, slots := 0, locals := 0 } : Room).cells ({ frames := 0, cells := 0, slots := 0, locals := 0 } : Room).slots := ⟨_, rfl⟩
  show own_Ends p e below (own_Fin s (Q12 Z p1 p2 h0 n0) ({ frames := 0, cells := 0, slots := 0, locals := 0 } : Room).cells ({ frames := 0, cells := 0, slots := 0, locals := 0 } : Room).slots) _
  rw [← hF, ef_rm12 m p1 p2]
  show own_Ends p e below F (s₁.setTop (mkF m 0 #[.val (.long p1), .second, .val (.long p2), .second] []))
  refine own_step (fun _ k => XS.lloadN X0.here hx rfl (hb hby d12_0) rfl k) ?_
  show own_Ends p e below F (s₁.setTop (mkF m 1 #[.val (.long p1), .second, .val (.long p2), .second] [(.long p1)]))
  refine own_step (fun _ k => XS.lloadN X0.here hx rfl (hb hby d12_1) rfl k) ?_
  show own_Ends p e below F (s₁.setTop (mkF m 2 #[.val (.long p1), .second, .val (.long p2), .second] [(.long p2), (.long p1)]))
  refine own_step (fun _ k => XS.lcmp X0.here hx rfl (hb hby d12_2) rfl k) ?_
  show own_Ends p e below F (s₁.setTop (mkF m 3 #[.val (.long p1), .second, .val (.long p2), .second] [(.int (lcmpW p1 p2))]))
  by_cases c3_1 : p2 < p1
  · refine own_step (fun _ k => XS.ifYes X0.here hx rfl (pc0 := 3) (pc' := 10) rfl (hb hby d12_3) rfl ((if0 _ _).trans (tlt ((lw_gt _ _).mpr c3_1)).2.2.1) (by decide) (by decide) k) ?_
    show own_Ends p e below F (s₁.setTop (mkF m 10 #[.val (.long p1), .second, .val (.long p2), .second] []))
    refine own_step (fun _ k => XS.lloadN X0.here hx rfl (hb hby d12_10) rfl k) ?_
    show own_Ends p e below F (s₁.setTop (mkF m 11 #[.val (.long p1), .second, .val (.long p2), .second] [(.long p2)]))
    rw [hF]
    exact own_ret X0 (v := (some (.long p2))) (fun h => by rw [Bd.returns] at h; cases h) Bd.notSynchronized (fun fs hr => X0.lreturnOut hx Bd.returns (hb hby d12_11) hr) (by decide) (by decide) (by rw [e0]; exact ⟨by simp only [own_min, c3_1, if_true, if_false], N0, rfl⟩)
  · refine own_step (fun _ k => XS.ifNo X0.here hx rfl (hb hby d12_3) rfl ((if0 _ _).trans (flt (fun q => c3_1 ((lw_gt _ _).mp q))).2.2.1) k) ?_
    show own_Ends p e below F (s₁.setTop (mkF m 6 #[.val (.long p1), .second, .val (.long p2), .second] []))
    refine own_step (fun _ k => XS.lloadN X0.here hx rfl (hb hby d12_6) rfl k) ?_
    show own_Ends p e below F (s₁.setTop (mkF m 7 #[.val (.long p1), .second, .val (.long p2), .second] [(.long p1)]))
    refine own_step (fun _ k => XS.goto X0.here hx rfl (pc0 := 7) (pc' := 11) rfl (hb hby d12_7) (by decide) (by decide) k) ?_
    show own_Ends p e below F (s₁.setTop (mkF m 11 #[.val (.long p1), .second, .val (.long p2), .second] [(.long p1)]))
    rw [hF]
    exact own_ret X0 (v := (some (.long p1))) (fun h => by rw [Bd.returns] at h; cases h) Bd.notSynchronized (fun fs hr => X0.lreturnOut hx Bd.returns (hb hby d12_11) hr) (by decide) (by decide) (by rw [e0]; exact ⟨by simp only [own_min, c3_1, if_true, if_false], N0, rfl⟩)

theorem d2_0 : decode prog_11_method_5_code 0 = .ok (.lload_n 2, 1) := by decide +kernel
theorem d2_1 : decode prog_11_method_5_code 1 = .ok (.invokestatic 19, 3) := by decide +kernel
theorem d2_4 : decode prog_11_method_5_code 4 = .ok (.ifCond .ne 17, 3) := by decide +kernel
theorem d2_21 : decode prog_11_method_5_code 21 = .ok (.lload_n 0, 1) := by decide +kernel
theorem d2_22 : decode prog_11_method_5_code 22 = .ok (.invokestatic 32, 3) := by decide +kernel
theorem d2_25 : decode prog_11_method_5_code 25 = .ok (.ifCond .ne 17, 3) := by decide +kernel
theorem d2_42 : decode prog_11_method_5_code 42 = .ok (.return_, 1) := by decide +kernel
theorem pd__28J_29Z : parseMethodDescriptor "(J)Z" = some ⟨[.long], some .boolean⟩ := by decide +kernel
theorem ef_rm2 (m : MethodId) (x0 : Int64) (x1 : Int64) : entryFrame m #[(.long x0), (.long x1)] 4 = mkF m 0 #[.val (.long x0), .second, .val (.long x1), .second] [] := by first | (simp [entryFrame, mkF, argsToLocals, Value.category, maxLocals]; done) | rfl
def Q2 (Z : State) (p1 p2 : Int64) (h0 : Heap) (n0 : Nat) (v : Option Value) (h : Heap) (L : List Loc) : Prop := v = none ∧ Fr n0 L ∧ h = h0
set_option maxRecDepth 65536 in
set_option maxHeartbeats 40000000 in
theorem rm2 (l : Launch) (Z : State) (a0 : Array Value) (hw : ∀ d ∈ tables_1, d.before a0 Z = true) (ws : List Jvm.Cond) (p1 p2 : Int64) (h0 : Heap) (n0 : Nat) (Z0 : n0 ≤ h0.size) (hA : ¬ own_amt p2 = 0) (hB : ¬ own_bal p1 = 0) :
    MetFree l (⟨"com/example/pledger/pledger/model/Money", "requireOperands", "(JJ)V"⟩ : MethodName) (head1 (Jvm.Cond.code (⟨"com/example/pledger/pledger/model/Money", "requireOperands", "(JJ)V"⟩ : MethodName) prog_11_method_5_code 4 none :: ws) ({ frames := 1, cells := 0, slots := 0, locals := 13 } : Room)) (fun ar U => ar = #[(.long p1), (.long p2)] ∧ Z.Warmed39 U.vm ∧ U.heap = h0) (fun _ _ _ _ _ => True) (fun _ U o U' => ∃ v L, o = .returned v ∧ Q2 Z p1 p2 h0 n0 v U'.heap L ∧ FrameEnd U o U' L ({ frames := 1, cells := 0, slots := 0, locals := 13 } : Room).cells ({ frames := 1, cells := 0, slots := 0, locals := 13 } : Room).slots) := by
  refine MetFree.of_bodySF (plainFor_of_name pn_com_example_pledger_pledger_model_Money) hisR ?_
  intro p e s m args below meth c s₁ Bd hml0 hP hK
  obtain ⟨rfl, hZ, hh⟩ := hP
  have hx := Bd.exec
  have hby := Bd.bytes
  have hml : c.maxLocals = 4 := hml0
  have hown : s.vm.findClass "com/example/pledger/pledger/model/Money" = some m.cls := findClass_of_methodNamed Bd.named
  have hnm := (name_of_methodNamed Bd.named Bd.method).1
  have X0 : Stand p l e ({ frames := 1, cells := 0, slots := 0, locals := 13 } : Room) s m #[(.long p1), (.long p2)] below meth c s₁ [] 0 0 := Stand.of_body Bd
  have e0 : s₁.heap = h0 := by rw [← hh, Bd.state]; rfl
  have N0 := Fr.nil n0
  obtain ⟨F, hF⟩ : ∃ F, F = own_Fin s (Q2 Z p1 p2 h0 n0) ({ frames := 1, cells := 0, slots := 0, locals := 13 } : Room).cells ({ frames := 1, cells := 0, slots := 0, locals := 13 } : Room).slots := ⟨_, rfl⟩
  show own_Ends p e below (own_Fin s (Q2 Z p1 p2 h0 n0) ({ frames := 1, cells := 0, slots := 0, locals := 13 } : Room).cells ({ frames := 1, cells := 0, slots := 0, locals := 13 } : Room).slots) _
  rw [← hF, ef_rm2 m p1 p2]
  show own_Ends p e below F (s₁.setTop (mkF m 0 #[.val (.long p1), .second, .val (.long p2), .second] []))
  refine own_step (fun _ k => XS.lloadN X0.here hx rfl (hb hby d2_0) rfl k) ?_
  show own_Ends p e below F (s₁.setTop (mkF m 1 #[.val (.long p1), .second, .val (.long p2), .second] [(.long p2)]))
  obtain ⟨_, _, ⟨T1, L1, k1, n1⟩, -, X1, ⟨Lc1, hQ1, l1, y1, z1⟩, st1⟩ := Jvm.LawKit.callS X0 hx (y := (⟨"com/example/pledger/pledger/model/Money", "isAmount", "(J)Z"⟩ : MethodName)) hown (mvT hZ (own_g hw 9 rfl)) (mvT hZ (own_g hw 10 rfl)) (mvT hZ (own_g hw 4 rfl)) (mvT hZ (own_g hw 11 rfl)) (by decide) (backOf (W := 0) (rm3 l Z a0 hw [] p2 h0 n0 Z0) hZ (own_g hw 11 rfl) (own_g hw 4 rfl) (by decide) (by decide)) (g := (mkF m 1 #[.val (.long p1), .second, .val (.long p2), .second] [(.long p2)])) rfl (by rw [hml]; rfl) (argsL := [(.long p2)]) (rest := []) (lenOf pd__28J_29Z rfl) rfl (by show 2 * 0 + _ ≤ _; exact Nat.le_of_eq rfl) (hb hby d2_1) (fun _ _ => ⟨rfl, e0, (by decide : 0 + 0 ≤ _), (by decide : 0 + 0 ≤ _)⟩)
  dsimp only [Pt.U, Pt.locs, Pt.cells, Pt.slots] at X1 l1 y1 z1 st1 hQ1
  subst l1 y1 z1
  obtain ⟨rfl, Nq1, eq1⟩ := hQ1
  have N1 := Fr.app N0 Nq1
  refine own_step st1 ?_
  show own_Ends p e below F (T1.setTop (mkF m 4 #[.val (.long p1), .second, .val (.long p2), .second] [(.int (own_amt p2))]))
  refine own_step (fun _ k => XS.ifYes X1.here hx rfl (pc0 := 4) (pc' := 21) rfl (hb hby d2_4) rfl ((if0 _ _).trans (feq (hA : ¬ ((own_amt p2) = (0 : Int32)))).2) (by decide) (by decide) k) ?_
  show own_Ends p e below F (T1.setTop (mkF m 21 #[.val (.long p1), .second, .val (.long p2), .second] []))
  refine own_step (fun _ k => XS.lloadN X1.here hx rfl (hb hby d2_21) rfl k) ?_
  show own_Ends p e below F (T1.setTop (mkF m 22 #[.val (.long p1), .second, .val (.long p2), .second] [(.long p1)]))
  obtain ⟨_, _, ⟨T2, L2, k2, n2⟩, -, X2, ⟨Lc2, hQ2, l2, y2, z2⟩, st2⟩ := Jvm.LawKit.callS X1 hx (y := (⟨"com/example/pledger/pledger/model/Money", "isBalance", "(J)Z"⟩ : MethodName)) hown (mvT hZ (own_g hw 13 rfl)) (mvT hZ (own_g hw 14 rfl)) (mvT hZ (own_g hw 4 rfl)) (mvT hZ (own_g hw 15 rfl)) (by decide) (backOf (W := 0) (rm4 l Z a0 hw [] p1 h0 n0 Z0) hZ (own_g hw 15 rfl) (own_g hw 4 rfl) (by decide) (by decide)) (g := (mkF m 22 #[.val (.long p1), .second, .val (.long p2), .second] [(.long p1)])) rfl (by rw [hml]; rfl) (argsL := [(.long p1)]) (rest := []) (lenOf pd__28J_29Z rfl) rfl (by show 2 * 0 + _ ≤ _; exact Nat.le_of_eq rfl) (hb hby d2_22) (fun _ _ => ⟨rfl, eq1, (by decide : 0 + 0 ≤ _), (by decide : 0 + 0 ≤ _)⟩)
  dsimp only [Pt.U, Pt.locs, Pt.cells, Pt.slots] at X2 l2 y2 z2 st2 hQ2
  subst l2 y2 z2
  obtain ⟨rfl, Nq2, eq2⟩ := hQ2
  have N2 := Fr.app N1 Nq2
  refine own_step st2 ?_
  show own_Ends p e below F (T2.setTop (mkF m 25 #[.val (.long p1), .second, .val (.long p2), .second] [(.int (own_bal p1))]))
  refine own_step (fun _ k => XS.ifYes X2.here hx rfl (pc0 := 25) (pc' := 42) rfl (hb hby d2_25) rfl ((if0 _ _).trans (feq (hB : ¬ ((own_bal p1) = (0 : Int32)))).2) (by decide) (by decide) k) ?_
  show own_Ends p e below F (T2.setTop (mkF m 42 #[.val (.long p1), .second, .val (.long p2), .second] []))
  rw [hF]
  exact own_ret X2 (v := none) (fun _ => rfl) Bd.notSynchronized (fun fs hr => X2.returnOut hx Bd.returns (hb hby d2_42) hr) (by decide) (by decide) (by rw [eq2]; exact ⟨rfl, N2, rfl⟩)

theorem d7_0 : decode jdk_2650_method_3_code 0 = .ok (.aload_n 0, 1) := by decide +kernel
theorem d7_1 : decode jdk_2650_method_3_code 1 = .ok (.invokespecial 1, 3) := by decide +kernel
theorem d7_4 : decode jdk_2650_method_3_code 4 = .ok (.aload_n 0, 1) := by decide +kernel
theorem d7_5 : decode jdk_2650_method_3_code 5 = .ok (.iconst 1, 1) := by decide +kernel
theorem d7_6 : decode jdk_2650_method_3_code 6 = .ok (.putfield 7, 3) := by decide +kernel
theorem d7_9 : decode jdk_2650_method_3_code 9 = .ok (.aload_n 0, 1) := by decide +kernel
theorem d7_10 : decode jdk_2650_method_3_code 10 = .ok (.lload_n 1, 1) := by decide +kernel
theorem d7_11 : decode jdk_2650_method_3_code 11 = .ok (.putfield 13, 3) := by decide +kernel
theorem d7_14 : decode jdk_2650_method_3_code 14 = .ok (.return_, 1) := by decide +kernel
theorem pn_java_util_OptionalLong : plainName "java/util/OptionalLong" = true := by first | (simp [plainName, overriddenIn]; done) | decide +kernel
theorem ef_rm7 (m : MethodId) (x0 : Addr) (x1 : Int64) : entryFrame m #[(.ref x0), (.long x1)] 3 = mkF m 0 #[.val (.ref x0), .val (.long x1), .second] [] := by first | (simp [entryFrame, mkF, argsToLocals, Value.category, maxLocals]; done) | rfl
def Q7 (Z : State) (a : Addr) (p1 : Int64) (h0 : Heap) (n0 : Nat) (v : Option Value) (h : Heap) (L : List Loc) : Prop := v = none ∧ Fr n0 L ∧ Keep h0 h [a] ∧ Exa Z h a "java/util/OptionalLong" ∧ Fld Z h a "java/util/OptionalLong" "isPresent" "Z" (.int (1 : Int32)) ∧ Fld Z h a "java/util/OptionalLong" "value" "J" (.long p1)
set_option maxRecDepth 65536 in
set_option maxHeartbeats 40000000 in
theorem rm7 (l : Launch) (Z : State) (a0 : Array Value) (hw : ∀ d ∈ tables_1, d.before a0 Z = true) (ws : List Jvm.Cond) (a : Addr) (p1 : Int64) (h0 : Heap) (n0 : Nat) (Z0 : n0 ≤ h0.size) (EX : Exa Z h0 a "java/util/OptionalLong") (ge : n0 ≤ a) (F_isPresent : Fld Z h0 a "java/util/OptionalLong" "isPresent" "Z" (.int (0 : Int32))) (F_value : Fld Z h0 a "java/util/OptionalLong" "value" "J" (.long (0 : Int64))) :
    MetFree l (⟨"java/util/OptionalLong", "<init>", "(J)V"⟩ : MethodName) (head1 (Jvm.Cond.code (⟨"java/util/OptionalLong", "<init>", "(J)V"⟩ : MethodName) jdk_2650_method_3_code 3 none :: ws) ({ frames := 1, cells := 0, slots := 0, locals := 12 } : Room)) (fun ar U => ar = #[(.ref a), (.long p1)] ∧ Z.Warmed39 U.vm ∧ U.heap = h0) (fun _ _ _ _ _ => True) (fun _ U o U' => ∃ v L, o = .returned v ∧ Q7 Z a p1 h0 n0 v U'.heap L ∧ FrameEnd U o U' L ({ frames := 1, cells := 0, slots := 0, locals := 12 } : Room).cells ({ frames := 1, cells := 0, slots := 0, locals := 12 } : Room).slots) := by
  refine MetFree.of_bodySF (plainFor_of_name pn_java_util_OptionalLong) hisR ?_
  intro p e s m args below meth c s₁ Bd hml0 hP hK
  obtain ⟨rfl, hZ, hh⟩ := hP
  have hx := Bd.exec
  have hby := Bd.bytes
  have hml : c.maxLocals = 3 := hml0
  have hown : s.vm.findClass "java/util/OptionalLong" = some m.cls := findClass_of_methodNamed Bd.named
  have hnm := (name_of_methodNamed Bd.named Bd.method).1
  have X0 : Stand p l e ({ frames := 1, cells := 0, slots := 0, locals := 12 } : Room) s m #[(.ref a), (.long p1)] below meth c s₁ [] 0 0 := Stand.of_body Bd
  have e0 : s₁.heap = h0 := by rw [← hh, Bd.state]; rfl
  have N0 := Fr.nil n0
  obtain ⟨F, hF⟩ : ∃ F, F = own_Fin s (Q7 Z a p1 h0 n0) ({ frames := 1, cells := 0, slots := 0, locals := 12 } : Room).cells ({ frames := 1, cells := 0, slots := 0, locals := 12 } : Room).slots := ⟨_, rfl⟩
  show own_Ends p e below (own_Fin s (Q7 Z a p1 h0 n0) ({ frames := 1, cells := 0, slots := 0, locals := 12 } : Room).cells ({ frames := 1, cells := 0, slots := 0, locals := 12 } : Room).slots) _
  rw [← hF, ef_rm7 m a p1]
  show own_Ends p e below F (s₁.setTop (mkF m 0 #[.val (.ref a), .val (.long p1), .second] []))
  refine own_step (fun _ k => XS.aloadN X0.here hx rfl (hb hby d7_0) rfl rfl k) ?_
  show own_Ends p e below F (s₁.setTop (mkF m 1 #[.val (.ref a), .val (.long p1), .second] [(.ref a)]))
  obtain ⟨T1, X1, e1, st1⟩ := initO X0 hx hZ hown (own_g hw 30 rfl) (own_g hw 31 rfl) (own_g hw 32 rfl) e0 (g := (mkF m 1 #[.val (.ref a), .val (.long p1), .second] [(.ref a)])) rfl (by rw [hml]; rfl) rfl (hb hby d7_1) (by decide) (W := 0) (by show 2 * 0 + _ ≤ _; exact Nat.le_of_eq rfl) (by decide)
  refine own_step st1 ?_
  show own_Ends p e below F (T1.setTop (mkF m 4 #[.val (.ref a), .val (.long p1), .second] []))
  refine own_step (fun _ k => XS.aloadN X1.here hx rfl (hb hby d7_4) rfl rfl k) ?_
  show own_Ends p e below F (T1.setTop (mkF m 5 #[.val (.ref a), .val (.long p1), .second] [(.ref a)]))
  refine own_step (fun _ k => XS.iconst X1.here hx rfl (hb hby d7_5) k) ?_
  show own_Ends p e below F (T1.setTop (mkF m 6 #[.val (.ref a), .val (.long p1), .second] [(.int (1 : Int32)), (.ref a)]))
  obtain ⟨T2, h2, X2, e2, W2, st2⟩ := putFN X1 hx hZ hown (own_g hw 33 rfl) Via.refl e1 F_isPresent EX (Or.inr ⟨(own_g hw 34 rfl), rfl, hnm⟩) (own_g hw 25 rfl) (ty := .boolean) (v' := (.int (1 : Int32))) (by decide) rfl rfl (g := (mkF m 6 #[.val (.ref a), .val (.long p1), .second] [(.int (1 : Int32)), (.ref a)])) rfl rfl (hb hby d7_6)
  refine own_step st2 ?_
  have F2 := Fld.same W2 F_isPresent
  have N2 := Fr.snoc X2 N0 ge
  have Z2 : n0 ≤ h2.size := by rw [W2.size]; exact Z0
  have SZ2 : h0.size ≤ h2.size := by rw [W2.size]; exact (Nat.le_refl h0.size)
  show own_Ends p e below F (T2.setTop (mkF m 9 #[.val (.ref a), .val (.long p1), .second] []))
  refine own_step (fun _ k => XS.aloadN X2.here hx rfl (hb hby d7_9) rfl rfl k) ?_
  show own_Ends p e below F (T2.setTop (mkF m 10 #[.val (.ref a), .val (.long p1), .second] [(.ref a)]))
  refine own_step (fun _ k => XS.lloadN X2.here hx rfl (hb hby d7_10) rfl k) ?_
  show own_Ends p e below F (T2.setTop (mkF m 11 #[.val (.ref a), .val (.long p1), .second] [(.long p1), (.ref a)]))
  obtain ⟨T3, h3, X3, e3, W3, st3⟩ := putF X2 hx hZ hown (host := "") (Or.inl (own_g hw 35 rfl)) Via.refl e2 (Fld.other W2 F_value (Or.inr (slot_ne (t := .long) (t' := .boolean) (Or.inr (own_g hw 36 rfl)) (Or.inr (own_g hw 34 rfl)) (by decide) (by decide) (by decide)))) (EX.wr W2) (Or.inr ⟨(own_g hw 36 rfl), rfl, hnm⟩) (own_g hw 25 rfl) (ty := .long) (by decide) rfl rfl (g := (mkF m 11 #[.val (.ref a), .val (.long p1), .second] [(.long p1), (.ref a)])) rfl rfl (hb hby d7_11)
  refine own_step st3 ?_
  have F3 := Fld.same W3 (Fld.other W2 F_value (Or.inr (slot_ne (t := .long) (t' := .boolean) (Or.inr (own_g hw 36 rfl)) (Or.inr (own_g hw 34 rfl)) (by decide) (by decide) (by decide))))
  have N3 := Fr.snoc X3 N2 ge
  have Z3 : n0 ≤ h3.size := by rw [W3.size]; exact Z2
  have SZ3 : h0.size ≤ h3.size := by rw [W3.size]; exact SZ2
  show own_Ends p e below F (T3.setTop (mkF m 14 #[.val (.ref a), .val (.long p1), .second] []))
  rw [hF]
  exact own_ret X3 (v := none) (fun _ => rfl) Bd.notSynchronized (fun fs hr => X3.returnOut hx Bd.returns (hb hby d7_14) hr) (by decide) (by decide) (by rw [e3]; exact ⟨rfl, N3, ((Keep.wr (Keep.wr (Keep.refl _ _) W2 (Or.inl (List.mem_of_getElem? (i := 0) rfl))) W3 (Or.inl (List.mem_of_getElem? (i := 0) rfl))) : Keep h0 h3 [a]), ((EX.wr W2).wr W3), (Fld.other W3 F2 (Or.inr (slot_ne (t := .boolean) (t' := .long) (Or.inr (own_g hw 34 rfl)) (Or.inr (own_g hw 36 rfl)) (by decide) (by decide) (by decide)))), F3⟩)

theorem d6_0 : decode jdk_2650_method_4_code 0 = .ok (.new 8, 3) := by decide +kernel
theorem d6_3 : decode jdk_2650_method_4_code 3 = .ok (.dup, 1) := by decide +kernel
theorem d6_4 : decode jdk_2650_method_4_code 4 = .ok (.lload_n 0, 1) := by decide +kernel
theorem d6_5 : decode jdk_2650_method_4_code 5 = .ok (.invokespecial 21, 3) := by decide +kernel
theorem d6_8 : decode jdk_2650_method_4_code 8 = .ok (.areturn, 1) := by decide +kernel
theorem pd__28J_29V : parseMethodDescriptor "(J)V" = some ⟨[.long], none⟩ := by decide +kernel
theorem ef_rm6 (m : MethodId) (x0 : Int64) : entryFrame m #[(.long x0)] 2 = mkF m 0 #[.val (.long x0), .second] [] := by first | (simp [entryFrame, mkF, argsToLocals, Value.category, maxLocals]; done) | rfl
def Q6 (Z : State) (p1 : Int64) (h0 : Heap) (n0 : Nat) (v : Option Value) (h : Heap) (L : List Loc) : Prop := ∃ c, v = some (.ref c) ∧ Fr n0 L ∧ Keep h0 h [] ∧ Exa Z h c "java/util/OptionalLong" ∧ Fld Z h c "java/util/OptionalLong" "isPresent" "Z" (.int (1 : Int32)) ∧ Fld Z h c "java/util/OptionalLong" "value" "J" (.long p1)
set_option maxRecDepth 65536 in
set_option maxHeartbeats 40000000 in
theorem rm6 (l : Launch) (Z : State) (a0 : Array Value) (hw : ∀ d ∈ tables_1, d.before a0 Z = true) (ws : List Jvm.Cond) (p1 : Int64) (h0 : Heap) (n0 : Nat) (Z0 : n0 ≤ h0.size)  :
    MetFree l (⟨"java/util/OptionalLong", "of", "(J)Ljava/util/OptionalLong;"⟩ : MethodName) (head1 (Jvm.Cond.code (⟨"java/util/OptionalLong", "of", "(J)Ljava/util/OptionalLong;"⟩ : MethodName) jdk_2650_method_4_code 2 (some (.object "java/util/OptionalLong")) :: ws) ({ frames := 2, cells := 1, slots := 2, locals := 27 } : Room)) (fun ar U => ar = #[(.long p1)] ∧ Z.Warmed39 U.vm ∧ U.heap = h0) (fun _ _ _ _ _ => True) (fun _ U o U' => ∃ v L, o = .returned v ∧ Q6 Z p1 h0 n0 v U'.heap L ∧ FrameEnd U o U' L ({ frames := 2, cells := 1, slots := 2, locals := 27 } : Room).cells ({ frames := 2, cells := 1, slots := 2, locals := 27 } : Room).slots) := by
  refine MetFree.of_bodySF (plainFor_of_name pn_java_util_OptionalLong) hisR ?_
  intro p e s m args below meth c s₁ Bd hml0 hP hK
  obtain ⟨rfl, hZ, hh⟩ := hP
  have hx := Bd.exec
  have hby := Bd.bytes
  have hml : c.maxLocals = 2 := hml0
  have hown : s.vm.findClass "java/util/OptionalLong" = some m.cls := findClass_of_methodNamed Bd.named
  have hnm := (name_of_methodNamed Bd.named Bd.method).1
  have X0 : Stand p l e ({ frames := 2, cells := 1, slots := 2, locals := 27 } : Room) s m #[(.long p1)] below meth c s₁ [] 0 0 := Stand.of_body Bd
  have e0 : s₁.heap = h0 := by rw [← hh, Bd.state]; rfl
  have N0 := Fr.nil n0
  obtain ⟨F, hF⟩ : ∃ F, F = own_Fin s (Q6 Z p1 h0 n0) ({ frames := 2, cells := 1, slots := 2, locals := 27 } : Room).cells ({ frames := 2, cells := 1, slots := 2, locals := 27 } : Room).slots := ⟨_, rfl⟩
  show own_Ends p e below (own_Fin s (Q6 Z p1 h0 n0) ({ frames := 2, cells := 1, slots := 2, locals := 27 } : Room).cells ({ frames := 2, cells := 1, slots := 2, locals := 27 } : Room).slots) _
  rw [← hF, ef_rm6 m p1]
  show own_Ends p e below F (s₁.setTop (mkF m 0 #[.val (.long p1), .second] []))
  obtain ⟨T1, h1, X1, e1, E1, A1, D1, -, st1⟩ := newO X0 hx hZ hown (own_g hw 24 rfl) (own_g hw 25 rfl) (own_g hw 22 rfl) e0 (g := (mkF m 0 #[.val (.long p1), .second] [])) rfl (hb hby d6_0) (by decide) (by decide)
  obtain ⟨a1, g1⟩ : ∃ z, z = h0.size := ⟨_, rfl⟩
  rw [← g1] at A1 D1 st1
  have ge_a1 : n0 ≤ a1 := Nat.le_trans Z0 (Nat.le_of_eq g1.symm)
  have sz_a1 : h0.size ≤ a1 := Nat.le_trans (Nat.le_refl h0.size) (Nat.le_of_eq g1.symm)
  have Z1 : n0 ≤ h1.size := Nat.le_trans Z0 E1.1
  have SZ1 : h0.size ≤ h1.size := Nat.le_trans (Nat.le_refl h0.size) E1.1
  have F1_isPresent : Fld Z h1 a1 "java/util/OptionalLong" "isPresent" "Z" (.int (0 : Int32)) := D1 (Or.inr (own_g hw 34 rfl)) (ty := .boolean) (by decide)
  have F1_value : Fld Z h1 a1 "java/util/OptionalLong" "value" "J" (.long (0 : Int64)) := D1 (Or.inr (own_g hw 36 rfl)) (ty := .long) (by decide)
  refine own_step st1 ?_
  show own_Ends p e below F (T1.setTop (mkF m 3 #[.val (.long p1), .second] [(.ref a1)]))
  refine own_step (fun _ k => XS.dup X1.here hx rfl (hb hby d6_3) rfl rfl k) ?_
  show own_Ends p e below F (T1.setTop (mkF m 4 #[.val (.long p1), .second] [(.ref a1), (.ref a1)]))
  refine own_step (fun _ k => XS.lloadN X1.here hx rfl (hb hby d6_4) rfl k) ?_
  show own_Ends p e below F (T1.setTop (mkF m 5 #[.val (.long p1), .second] [(.long p1), (.ref a1), (.ref a1)]))
  obtain ⟨_, _, ⟨T2, L2, k2, n2⟩, -, X2, ⟨Lc2, hQ2, l2, y2, z2⟩, st2⟩ := X1.specialBack hx (y := (⟨"java/util/OptionalLong", "<init>", "(J)V"⟩ : MethodName)) rfl hown (mvT hZ (own_g hw 26 rfl)) (mvT hZ (own_g hw 27 rfl)) (mvT hZ (own_g hw 29 rfl)) (by decide) (backOf (W := 1) (rm7 l Z a0 hw [] a1 p1 h1 n0 Z1 A1 ge_a1 F1_isPresent F1_value) hZ (own_g hw 29 rfl) (own_g hw 22 rfl) (by decide) (by decide)) (g := (mkF m 5 #[.val (.long p1), .second] [(.long p1), (.ref a1), (.ref a1)])) rfl (by rw [hml]; rfl) (Steps.refl _) (a := a1) (argsL := [(.long p1)]) (rest := [(.ref a1)]) (lenOf pd__28J_29V rfl) rfl (by show 2 * 0 + _ ≤ _; exact Nat.le_of_eq rfl) (hb hby d6_5) (fun _ _ => ⟨rfl, e1, (by decide : 1 + 0 ≤ _), (by decide : 2 + 0 ≤ _)⟩)
  dsimp only [Pt.U, Pt.locs, Pt.cells, Pt.slots] at X2 l2 y2 z2 st2 hQ2
  subst l2 y2 z2
  obtain ⟨rfl, Nq2, Kq2, fq0_2, fq1_2, fq2_2⟩ := hQ2
  have N2 := Fr.app N0 Nq2
  have Z2 : n0 ≤ T2.heap.size := Nat.le_trans Z1 Kq2.1
  have SZ2 : h0.size ≤ T2.heap.size := Nat.le_trans SZ1 Kq2.1
  refine own_trans st2 ?_
  show own_Ends p e below F (T2.setTop (mkF m 8 #[.val (.long p1), .second] [(.ref a1)]))
  rw [hF]
  exact own_ret X2 (v := (some (.ref a1))) (fun h => by rw [Bd.returns] at h; cases h) Bd.notSynchronized (fun fs hr => retOut X2 hx (t := (.object "java/util/OptionalLong")) (w := (.ref a1)) (i := .areturn) Bd.returns rfl (Or.inr (Or.inr (Or.inr (Or.inr ⟨rfl, rfl, rfl⟩)))) (hb hby d6_8) hr) (by decide) (by decide) (by exact ⟨_, rfl, N2, ((Keep.trans (Keep.ext (Keep.refl _ _) E1) Kq2 (allS (Or.inr sz_a1) all0)) : Keep h0 T2.heap []), fq0_2, fq1_2, fq2_2⟩)

theorem d11_0 : decode jdk_2650_method_2_code 0 = .ok (.getstatic 17, 3) := by decide +kernel
theorem d11_3 : decode jdk_2650_method_2_code 3 = .ok (.areturn, 1) := by decide +kernel
theorem ef_rm11 (m : MethodId)  : entryFrame m #[] 0 = mkF m 0 #[] [] := by first | (simp [entryFrame, mkF, argsToLocals, Value.category, maxLocals]; done) | rfl
def Q11 (Z : State) (ee : Addr) (h0 : Heap) (n0 : Nat) (v : Option Value) (h : Heap) (L : List Loc) : Prop := v = some (.ref ee) ∧ Fr n0 L ∧ h = h0
set_option maxRecDepth 65536 in
set_option maxHeartbeats 40000000 in
theorem rm11 (l : Launch) (Z : State) (a0 : Array Value) (hw : ∀ d ∈ tables_1, d.before a0 Z = true) (ws : List Jvm.Cond) (ee : Addr) (h0 : Heap) (n0 : Nat) (Z0 : n0 ≤ h0.size) (SE : Sta Z h0 "java/util/OptionalLong" "EMPTY" "Ljava/util/OptionalLong;" (.ref ee)) :
    MetFree l (⟨"java/util/OptionalLong", "empty", "()Ljava/util/OptionalLong;"⟩ : MethodName) (head1 (Jvm.Cond.code (⟨"java/util/OptionalLong", "empty", "()Ljava/util/OptionalLong;"⟩ : MethodName) jdk_2650_method_2_code 0 (some (.object "java/util/OptionalLong")) :: ws) ({ frames := 0, cells := 0, slots := 0, locals := 0 } : Room)) (fun ar U => ar = #[] ∧ Z.Warmed39 U.vm ∧ U.heap = h0) (fun _ _ _ _ _ => True) (fun _ U o U' => ∃ v L, o = .returned v ∧ Q11 Z ee h0 n0 v U'.heap L ∧ FrameEnd U o U' L ({ frames := 0, cells := 0, slots := 0, locals := 0 } : Room).cells ({ frames := 0, cells := 0, slots := 0, locals := 0 } : Room).slots) := by
  refine MetFree.of_bodySF (plainFor_of_name pn_java_util_OptionalLong) hisR ?_
  intro p e s m args below meth c s₁ Bd hml0 hP hK
  obtain ⟨rfl, hZ, hh⟩ := hP
  have hx := Bd.exec
  have hby := Bd.bytes
  have hml : c.maxLocals = 0 := hml0
  have hown : s.vm.findClass "java/util/OptionalLong" = some m.cls := findClass_of_methodNamed Bd.named
  have hnm := (name_of_methodNamed Bd.named Bd.method).1
  have X0 : Stand p l e ({ frames := 0, cells := 0, slots := 0, locals := 0 } : Room) s m #[] below meth c s₁ [] 0 0 := Stand.of_body Bd
  have e0 : s₁.heap = h0 := by rw [← hh, Bd.state]; rfl
  have N0 := Fr.nil n0
  obtain ⟨F, hF⟩ : ∃ F, F = own_Fin s (Q11 Z ee h0 n0) ({ frames := 0, cells := 0, slots := 0, locals := 0 } : Room).cells ({ frames := 0, cells := 0, slots := 0, locals := 0 } : Room).slots := ⟨_, rfl⟩
  show own_Ends p e below (own_Fin s (Q11 Z ee h0 n0) ({ frames := 0, cells := 0, slots := 0, locals := 0 } : Room).cells ({ frames := 0, cells := 0, slots := 0, locals := 0 } : Room).slots) _
  rw [← hF, ef_rm11 m ]
  show own_Ends p e below F (s₁.setTop (mkF m 0 #[] []))
  obtain ⟨T1, X1, e1, st1⟩ := getS2 X0 hx hZ hown (host := "") (Or.inl (own_g hw 50 rfl)) Via.refl e0 SE (g := (mkF m 0 #[] [])) rfl (hb hby d11_0)
  refine own_step st1 ?_
  show own_Ends p e below F (T1.setTop (mkF m 3 #[] [(.ref ee)]))
  rw [hF]
  exact own_ret X1 (v := (some (.ref ee))) (fun h => by rw [Bd.returns] at h; cases h) Bd.notSynchronized (fun fs hr => retOut X1 hx (t := (.object "java/util/OptionalLong")) (w := (.ref ee)) (i := .areturn) Bd.returns rfl (Or.inr (Or.inr (Or.inr (Or.inr ⟨rfl, rfl, rfl⟩)))) (hb hby d11_3) hr) (by decide) (by decide) (by rw [e1]; exact ⟨rfl, N0, rfl⟩)

theorem own_bal_one (x : Int64) (h : ¬ own_bal x = 0) : own_bal x = 1 := by
  rcases own_bal_cases x with q | q
  · exact q.1
  · exact absurd q.1 h
theorem d5_0 : decode prog_11_method_7_code 0 = .ok (.lload_n 0, 1) := by decide +kernel
theorem d5_1 : decode prog_11_method_7_code 1 = .ok (.invokestatic 32, 3) := by decide +kernel
theorem d5_4 : decode prog_11_method_7_code 4 = .ok (.ifCond .eq 11, 3) := by decide +kernel
theorem d5_7 : decode prog_11_method_7_code 7 = .ok (.lload_n 0, 1) := by decide +kernel
theorem d5_8 : decode prog_11_method_7_code 8 = .ok (.invokestatic 38, 3) := by decide +kernel
theorem d5_11 : decode prog_11_method_7_code 11 = .ok (.astore_n 2, 1) := by decide +kernel
theorem d5_12 : decode prog_11_method_7_code 12 = .ok (.goto 7, 3) := by decide +kernel
theorem d5_15 : decode prog_11_method_7_code 15 = .ok (.invokestatic 43, 3) := by decide +kernel
theorem d5_18 : decode prog_11_method_7_code 18 = .ok (.astore_n 2, 1) := by decide +kernel
theorem d5_19 : decode prog_11_method_7_code 19 = .ok (.aload_n 2, 1) := by decide +kernel
theorem d5_20 : decode prog_11_method_7_code 20 = .ok (.areturn, 1) := by decide +kernel
theorem pd__28_29Ljava_2futil_2fOptionalLong_3b : parseMethodDescriptor "()Ljava/util/OptionalLong;" = some ⟨[], some (.object "java/util/OptionalLong")⟩ := by decide +kernel
theorem pd__28J_29Ljava_2futil_2fOptionalLong_3b : parseMethodDescriptor "(J)Ljava/util/OptionalLong;" = some ⟨[.long], some (.object "java/util/OptionalLong")⟩ := by decide +kernel
theorem ef_rm5 (m : MethodId) (x0 : Int64) : entryFrame m #[(.long x0)] 3 = mkF m 0 #[.val (.long x0), .second, .unset] [] := by first | (simp [entryFrame, mkF, argsToLocals, Value.category, maxLocals]; done) | rfl
def Q5 (Z : State) (p1 : Int64) (ee : Addr) (h0 : Heap) (n0 : Nat) (v : Option Value) (h : Heap) (L : List Loc) : Prop := ∃ c q w, v = some (.ref c) ∧ Fr n0 L ∧ Keep h0 h [] ∧ Exa Z h c "java/util/OptionalLong" ∧ Fld Z h c "java/util/OptionalLong" "isPresent" "Z" (.int q) ∧ Fld Z h c "java/util/OptionalLong" "value" "J" (.long w) ∧ q = own_bal p1 ∧ (own_bal p1 = 0 ∨ w = p1)
set_option maxRecDepth 65536 in
set_option maxHeartbeats 40000000 in
theorem rm5 (l : Launch) (Z : State) (a0 : Array Value) (hw : ∀ d ∈ tables_1, d.before a0 Z = true) (ws : List Jvm.Cond) (p1 : Int64) (ee : Addr) (h0 : Heap) (n0 : Nat) (Z0 : n0 ≤ h0.size) (SE : Sta Z h0 "java/util/OptionalLong" "EMPTY" "Ljava/util/OptionalLong;" (.ref ee)) (EE : Exa Z h0 ee "java/util/OptionalLong") (FP : Fld Z h0 ee "java/util/OptionalLong" "isPresent" "Z" (.int (0 : Int32))) (FV : Fld Z h0 ee "java/util/OptionalLong" "value" "J" (.long (0 : Int64))) :
    MetFree l (⟨"com/example/pledger/pledger/model/Money", "bounded", "(J)Ljava/util/OptionalLong;"⟩ : MethodName) (head1 (Jvm.Cond.code (⟨"com/example/pledger/pledger/model/Money", "bounded", "(J)Ljava/util/OptionalLong;"⟩ : MethodName) prog_11_method_7_code 3 (some (.object "java/util/OptionalLong")) :: ws) ({ frames := 3, cells := 1, slots := 2, locals := 40 } : Room)) (fun ar U => ar = #[(.long p1)] ∧ Z.Warmed39 U.vm ∧ U.heap = h0) (fun _ _ _ _ _ => True) (fun _ U o U' => ∃ v L, o = .returned v ∧ Q5 Z p1 ee h0 n0 v U'.heap L ∧ FrameEnd U o U' L ({ frames := 3, cells := 1, slots := 2, locals := 40 } : Room).cells ({ frames := 3, cells := 1, slots := 2, locals := 40 } : Room).slots) := by
  refine MetFree.of_bodySF (plainFor_of_name pn_com_example_pledger_pledger_model_Money) hisR ?_
  intro p e s m args below meth c s₁ Bd hml0 hP hK
  obtain ⟨rfl, hZ, hh⟩ := hP
  have hx := Bd.exec
  have hby := Bd.bytes
  have hml : c.maxLocals = 3 := hml0
  have hown : s.vm.findClass "com/example/pledger/pledger/model/Money" = some m.cls := findClass_of_methodNamed Bd.named
  have hnm := (name_of_methodNamed Bd.named Bd.method).1
  have X0 : Stand p l e ({ frames := 3, cells := 1, slots := 2, locals := 40 } : Room) s m #[(.long p1)] below meth c s₁ [] 0 0 := Stand.of_body Bd
  have e0 : s₁.heap = h0 := by rw [← hh, Bd.state]; rfl
  have N0 := Fr.nil n0
  obtain ⟨F, hF⟩ : ∃ F, F = own_Fin s (Q5 Z p1 ee h0 n0) ({ frames := 3, cells := 1, slots := 2, locals := 40 } : Room).cells ({ frames := 3, cells := 1, slots := 2, locals := 40 } : Room).slots := ⟨_, rfl⟩
  show own_Ends p e below (own_Fin s (Q5 Z p1 ee h0 n0) ({ frames := 3, cells := 1, slots := 2, locals := 40 } : Room).cells ({ frames := 3, cells := 1, slots := 2, locals := 40 } : Room).slots) _
  rw [← hF, ef_rm5 m p1]
  show own_Ends p e below F (s₁.setTop (mkF m 0 #[.val (.long p1), .second, .unset] []))
  refine own_step (fun _ k => XS.lloadN X0.here hx rfl (hb hby d5_0) rfl k) ?_
  show own_Ends p e below F (s₁.setTop (mkF m 1 #[.val (.long p1), .second, .unset] [(.long p1)]))
  obtain ⟨_, _, ⟨T1, L1, k1, n1⟩, -, X1, ⟨Lc1, hQ1, l1, y1, z1⟩, st1⟩ := Jvm.LawKit.callS X0 hx (y := (⟨"com/example/pledger/pledger/model/Money", "isBalance", "(J)Z"⟩ : MethodName)) hown (mvT hZ (own_g hw 13 rfl)) (mvT hZ (own_g hw 14 rfl)) (mvT hZ (own_g hw 4 rfl)) (mvT hZ (own_g hw 15 rfl)) (by decide) (backOf (W := 0) (rm4 l Z a0 hw [] p1 h0 n0 Z0) hZ (own_g hw 15 rfl) (own_g hw 4 rfl) (by decide) (by decide)) (g := (mkF m 1 #[.val (.long p1), .second, .unset] [(.long p1)])) rfl (by rw [hml]; rfl) (argsL := [(.long p1)]) (rest := []) (lenOf pd__28J_29Z rfl) rfl (by show 2 * 0 + _ ≤ _; exact Nat.le_of_eq rfl) (hb hby d5_1) (fun _ _ => ⟨rfl, e0, (by decide : 0 + 0 ≤ _), (by decide : 0 + 0 ≤ _)⟩)
  dsimp only [Pt.U, Pt.locs, Pt.cells, Pt.slots] at X1 l1 y1 z1 st1 hQ1
  subst l1 y1 z1
  obtain ⟨rfl, Nq1, eq1⟩ := hQ1
  have N1 := Fr.app N0 Nq1
  refine own_step st1 ?_
  show own_Ends p e below F (T1.setTop (mkF m 4 #[.val (.long p1), .second, .unset] [(.int (own_bal p1))]))
  by_cases c4_2 : (own_bal p1) = (0 : Int32)
  · refine own_step (fun _ k => XS.ifYes X1.here hx rfl (pc0 := 4) (pc' := 15) rfl (hb hby d5_4) rfl ((if0 _ _).trans (teq c4_2).1) (by decide) (by decide) k) ?_
    show own_Ends p e below F (T1.setTop (mkF m 15 #[.val (.long p1), .second, .unset] []))
    obtain ⟨_, _, ⟨T3, L3, k3, n3⟩, -, X3, ⟨Lc3, hQ3, l3, y3, z3⟩, st3⟩ := Jvm.LawKit.callS X1 hx (y := (⟨"java/util/OptionalLong", "empty", "()Ljava/util/OptionalLong;"⟩ : MethodName)) hown (mvT hZ (own_g hw 47 rfl)) (mvT hZ (own_g hw 48 rfl)) (mvT hZ (own_g hw 22 rfl)) (mvT hZ (own_g hw 49 rfl)) (by decide) (backOf (W := 0) (rm11 l Z a0 hw [] ee h0 n0 Z0 SE) hZ (own_g hw 49 rfl) (own_g hw 22 rfl) (by decide) (by decide)) (g := (mkF m 15 #[.val (.long p1), .second, .unset] [])) rfl (by rw [hml]; rfl) (argsL := []) (rest := []) (lenOf pd__28_29Ljava_2futil_2fOptionalLong_3b rfl) rfl (by show 2 * 0 + _ ≤ _; exact Nat.le_of_eq rfl) (hb hby d5_15) (fun _ _ => ⟨rfl, eq1, (by decide : 0 + 0 ≤ _), (by decide : 0 + 0 ≤ _)⟩)
    dsimp only [Pt.U, Pt.locs, Pt.cells, Pt.slots] at X3 l3 y3 z3 st3 hQ3
    subst l3 y3 z3
    obtain ⟨rfl, Nq3, eq3⟩ := hQ3
    have N3 := Fr.app N1 Nq3
    refine own_step st3 ?_
    show own_Ends p e below F (T3.setTop (mkF m 18 #[.val (.long p1), .second, .unset] [(.ref ee)]))
    refine own_step (fun _ k => XS.astoreN X3.here hx rfl (hb hby d5_18) rfl rfl (l' := #[.val (.long p1), .second, .val (.ref ee)]) rfl k) ?_
    show own_Ends p e below F (T3.setTop (mkF m 19 #[.val (.long p1), .second, .val (.ref ee)] []))
    refine own_step (fun _ k => XS.aloadN X3.here hx rfl (hb hby d5_19) rfl rfl k) ?_
    show own_Ends p e below F (T3.setTop (mkF m 20 #[.val (.long p1), .second, .val (.ref ee)] [(.ref ee)]))
    rw [hF]
    exact own_ret X3 (v := (some (.ref ee))) (fun h => by rw [Bd.returns] at h; cases h) Bd.notSynchronized (fun fs hr => retOut X3 hx (t := (.object "java/util/OptionalLong")) (w := (.ref ee)) (i := .areturn) Bd.returns rfl (Or.inr (Or.inr (Or.inr (Or.inr ⟨rfl, rfl, rfl⟩)))) (hb hby d5_20) hr) (by decide) (by decide) (by rw [eq3]; exact ⟨_, _, _, rfl, N3, ((Keep.refl _ _) : Keep h0 h0 []), EE, FP, FV, c4_2.symm, Or.inl c4_2⟩)
  · refine own_step (fun _ k => XS.ifNo X1.here hx rfl (hb hby d5_4) rfl ((if0 _ _).trans (feq c4_2).1) k) ?_
    show own_Ends p e below F (T1.setTop (mkF m 7 #[.val (.long p1), .second, .unset] []))
    refine own_step (fun _ k => XS.lloadN X1.here hx rfl (hb hby d5_7) rfl k) ?_
    show own_Ends p e below F (T1.setTop (mkF m 8 #[.val (.long p1), .second, .unset] [(.long p1)]))
    obtain ⟨_, _, ⟨T4, L4, k4, n4⟩, -, X4, ⟨Lc4, hQ4, l4, y4, z4⟩, st4⟩ := Jvm.LawKit.callS X1 hx (y := (⟨"java/util/OptionalLong", "of", "(J)Ljava/util/OptionalLong;"⟩ : MethodName)) hown (mvT hZ (own_g hw 20 rfl)) (mvT hZ (own_g hw 21 rfl)) (mvT hZ (own_g hw 22 rfl)) (mvT hZ (own_g hw 23 rfl)) (by decide) (backOf (W := 0) (rm6 l Z a0 hw [] p1 h0 n0 Z0) hZ (own_g hw 23 rfl) (own_g hw 22 rfl) (by decide) (by decide)) (g := (mkF m 8 #[.val (.long p1), .second, .unset] [(.long p1)])) rfl (by rw [hml]; rfl) (argsL := [(.long p1)]) (rest := []) (lenOf pd__28J_29Ljava_2futil_2fOptionalLong_3b rfl) rfl (by show 2 * 0 + _ ≤ _; exact Nat.le_of_eq rfl) (hb hby d5_8) (fun _ _ => ⟨rfl, eq1, (by decide : 0 + 1 ≤ _), (by decide : 0 + 2 ≤ _)⟩)
    dsimp only [Pt.U, Pt.locs, Pt.cells, Pt.slots] at X4 l4 y4 z4 st4 hQ4
    subst l4 y4 z4
    obtain ⟨c4, rfl, Nq4, Kq4, fq0_4, fq1_4, fq2_4⟩ := hQ4
    have N4 := Fr.app N1 Nq4
    have Z4 : n0 ≤ T4.heap.size := Nat.le_trans Z0 Kq4.1
    have SZ4 : h0.size ≤ T4.heap.size := Nat.le_trans (Nat.le_refl h0.size) Kq4.1
    have S0_4 := own_Sta_keep SE Kq4 all0
    refine own_step st4 ?_
    show own_Ends p e below F (T4.setTop (mkF m 11 #[.val (.long p1), .second, .unset] [(.ref c4)]))
    refine own_step (fun _ k => XS.astoreN X4.here hx rfl (hb hby d5_11) rfl rfl (l' := #[.val (.long p1), .second, .val (.ref c4)]) rfl k) ?_
    show own_Ends p e below F (T4.setTop (mkF m 12 #[.val (.long p1), .second, .val (.ref c4)] []))
    refine own_step (fun _ k => XS.goto X4.here hx rfl (pc0 := 12) (pc' := 19) rfl (hb hby d5_12) (by decide) (by decide) k) ?_
    show own_Ends p e below F (T4.setTop (mkF m 19 #[.val (.long p1), .second, .val (.ref c4)] []))
    refine own_step (fun _ k => XS.aloadN X4.here hx rfl (hb hby d5_19) rfl rfl k) ?_
    show own_Ends p e below F (T4.setTop (mkF m 20 #[.val (.long p1), .second, .val (.ref c4)] [(.ref c4)]))
    rw [hF]
    exact own_ret X4 (v := (some (.ref c4))) (fun h => by rw [Bd.returns] at h; cases h) Bd.notSynchronized (fun fs hr => retOut X4 hx (t := (.object "java/util/OptionalLong")) (w := (.ref c4)) (i := .areturn) Bd.returns rfl (Or.inr (Or.inr (Or.inr (Or.inr ⟨rfl, rfl, rfl⟩)))) (hb hby d5_20) hr) (by decide) (by decide) (by exact ⟨_, _, _, rfl, N4, ((Keep.trans (Keep.refl _ _) Kq4 all0) : Keep h0 T4.heap []), fq0_4, fq1_4, fq2_4, (own_bal_one _ c4_2).symm, Or.inr rfl⟩)

theorem d1_0 : decode prog_11_method_3_code 0 = .ok (.lload_n 0, 1) := by decide +kernel
theorem d1_1 : decode prog_11_method_3_code 1 = .ok (.lload_n 2, 1) := by decide +kernel
theorem d1_2 : decode prog_11_method_3_code 2 = .ok (.invokestatic 11, 3) := by decide +kernel
theorem d1_5 : decode prog_11_method_3_code 5 = .ok (.lload_n 0, 1) := by decide +kernel
theorem d1_6 : decode prog_11_method_3_code 6 = .ok (.lload_n 2, 1) := by decide +kernel
theorem d1_7 : decode prog_11_method_3_code 7 = .ok (.ladd, 1) := by decide +kernel
theorem d1_8 : decode prog_11_method_3_code 8 = .ok (.invokestatic 15, 3) := by decide +kernel
theorem d1_11 : decode prog_11_method_3_code 11 = .ok (.areturn, 1) := by decide +kernel
theorem pd__28JJ_29V : parseMethodDescriptor "(JJ)V" = some ⟨[.long, .long], none⟩ := by decide +kernel
theorem ef_rm1 (m : MethodId) (x0 : Int64) (x1 : Int64) : entryFrame m #[(.long x0), (.long x1)] 4 = mkF m 0 #[.val (.long x0), .second, .val (.long x1), .second] [] := by first | (simp [entryFrame, mkF, argsToLocals, Value.category, maxLocals]; done) | rfl
def Q1 (Z : State) (p1 p2 : Int64) (ee : Addr) (h0 : Heap) (n0 : Nat) (v : Option Value) (h : Heap) (L : List Loc) : Prop := ∃ c q w, v = some (.ref c) ∧ Fr n0 L ∧ Keep h0 h [] ∧ Exa Z h c "java/util/OptionalLong" ∧ Fld Z h c "java/util/OptionalLong" "isPresent" "Z" (.int q) ∧ Fld Z h c "java/util/OptionalLong" "value" "J" (.long w) ∧ q = own_bal (p1 + p2) ∧ (own_bal (p1 + p2) = 0 ∨ w = (p1 + p2))
set_option maxRecDepth 65536 in
set_option maxHeartbeats 40000000 in
theorem rm1 (l : Launch) (Z : State) (a0 : Array Value) (hw : ∀ d ∈ tables_1, d.before a0 Z = true) (ws : List Jvm.Cond) (p1 p2 : Int64) (ee : Addr) (h0 : Heap) (n0 : Nat) (Z0 : n0 ≤ h0.size) (hA : ¬ own_amt p2 = 0) (hB : ¬ own_bal p1 = 0) (SE : Sta Z h0 "java/util/OptionalLong" "EMPTY" "Ljava/util/OptionalLong;" (.ref ee)) (EE : Exa Z h0 ee "java/util/OptionalLong") (FP : Fld Z h0 ee "java/util/OptionalLong" "isPresent" "Z" (.int (0 : Int32))) (FV : Fld Z h0 ee "java/util/OptionalLong" "value" "J" (.long (0 : Int64))) :
    MetFree l (⟨"com/example/pledger/pledger/model/Money", "credit", "(JJ)Ljava/util/OptionalLong;"⟩ : MethodName) (head1 (Jvm.Cond.code (⟨"com/example/pledger/pledger/model/Money", "credit", "(JJ)Ljava/util/OptionalLong;"⟩ : MethodName) prog_11_method_3_code 4 (some (.object "java/util/OptionalLong")) :: ws) ({ frames := 4, cells := 1, slots := 2, locals := 54 } : Room)) (fun ar U => ar = #[(.long p1), (.long p2)] ∧ Z.Warmed39 U.vm ∧ U.heap = h0) (fun _ _ _ _ _ => True) (fun _ U o U' => ∃ v L, o = .returned v ∧ Q1 Z p1 p2 ee h0 n0 v U'.heap L ∧ FrameEnd U o U' L ({ frames := 4, cells := 1, slots := 2, locals := 54 } : Room).cells ({ frames := 4, cells := 1, slots := 2, locals := 54 } : Room).slots) := by
  refine MetFree.of_bodySF (plainFor_of_name pn_com_example_pledger_pledger_model_Money) hisR ?_
  intro p e s m args below meth c s₁ Bd hml0 hP hK
  obtain ⟨rfl, hZ, hh⟩ := hP
  have hx := Bd.exec
  have hby := Bd.bytes
  have hml : c.maxLocals = 4 := hml0
  have hown : s.vm.findClass "com/example/pledger/pledger/model/Money" = some m.cls := findClass_of_methodNamed Bd.named
  have hnm := (name_of_methodNamed Bd.named Bd.method).1
  have X0 : Stand p l e ({ frames := 4, cells := 1, slots := 2, locals := 54 } : Room) s m #[(.long p1), (.long p2)] below meth c s₁ [] 0 0 := Stand.of_body Bd
  have e0 : s₁.heap = h0 := by rw [← hh, Bd.state]; rfl
  have N0 := Fr.nil n0
  obtain ⟨F, hF⟩ : ∃ F, F = own_Fin s (Q1 Z p1 p2 ee h0 n0) ({ frames := 4, cells := 1, slots := 2, locals := 54 } : Room).cells ({ frames := 4, cells := 1, slots := 2, locals := 54 } : Room).slots := ⟨_, rfl⟩
  show own_Ends p e below (own_Fin s (Q1 Z p1 p2 ee h0 n0) ({ frames := 4, cells := 1, slots := 2, locals := 54 } : Room).cells ({ frames := 4, cells := 1, slots := 2, locals := 54 } : Room).slots) _
  rw [← hF, ef_rm1 m p1 p2]
  show own_Ends p e below F (s₁.setTop (mkF m 0 #[.val (.long p1), .second, .val (.long p2), .second] []))
  refine own_step (fun _ k => XS.lloadN X0.here hx rfl (hb hby d1_0) rfl k) ?_
  show own_Ends p e below F (s₁.setTop (mkF m 1 #[.val (.long p1), .second, .val (.long p2), .second] [(.long p1)]))
  refine own_step (fun _ k => XS.lloadN X0.here hx rfl (hb hby d1_1) rfl k) ?_
  show own_Ends p e below F (s₁.setTop (mkF m 2 #[.val (.long p1), .second, .val (.long p2), .second] [(.long p2), (.long p1)]))
  obtain ⟨_, _, ⟨T1, L1, k1, n1⟩, -, X1, ⟨Lc1, hQ1, l1, y1, z1⟩, st1⟩ := Jvm.LawKit.callS X0 hx (y := (⟨"com/example/pledger/pledger/model/Money", "requireOperands", "(JJ)V"⟩ : MethodName)) hown (mvT hZ (own_g hw 6 rfl)) (mvT hZ (own_g hw 7 rfl)) (mvT hZ (own_g hw 4 rfl)) (mvT hZ (own_g hw 8 rfl)) (by decide) (backOf (W := 0) (rm2 l Z a0 hw [] p1 p2 h0 n0 Z0 hA hB) hZ (own_g hw 8 rfl) (own_g hw 4 rfl) (by decide) (by decide)) (g := (mkF m 2 #[.val (.long p1), .second, .val (.long p2), .second] [(.long p2), (.long p1)])) rfl (by rw [hml]; rfl) (argsL := [(.long p1), (.long p2)]) (rest := []) (lenOf pd__28JJ_29V rfl) rfl (by show 2 * 0 + _ ≤ _; exact Nat.le_of_eq rfl) (hb hby d1_2) (fun _ _ => ⟨rfl, e0, (by decide : 0 + 0 ≤ _), (by decide : 0 + 0 ≤ _)⟩)
  dsimp only [Pt.U, Pt.locs, Pt.cells, Pt.slots] at X1 l1 y1 z1 st1 hQ1
  subst l1 y1 z1
  obtain ⟨rfl, Nq1, eq1⟩ := hQ1
  have N1 := Fr.app N0 Nq1
  refine own_step st1 ?_
  show own_Ends p e below F (T1.setTop (mkF m 5 #[.val (.long p1), .second, .val (.long p2), .second] []))
  refine own_step (fun _ k => XS.lloadN X1.here hx rfl (hb hby d1_5) rfl k) ?_
  show own_Ends p e below F (T1.setTop (mkF m 6 #[.val (.long p1), .second, .val (.long p2), .second] [(.long p1)]))
  refine own_step (fun _ k => XS.lloadN X1.here hx rfl (hb hby d1_6) rfl k) ?_
  show own_Ends p e below F (T1.setTop (mkF m 7 #[.val (.long p1), .second, .val (.long p2), .second] [(.long p2), (.long p1)]))
  refine own_step (fun _ k => XS.ladd X1.here hx rfl (hb hby d1_7) rfl k) ?_
  show own_Ends p e below F (T1.setTop (mkF m 8 #[.val (.long p1), .second, .val (.long p2), .second] [(.long (p1 + p2))]))
  obtain ⟨_, _, ⟨T2, L2, k2, n2⟩, -, X2, ⟨Lc2, hQ2, l2, y2, z2⟩, st2⟩ := Jvm.LawKit.callS X1 hx (y := (⟨"com/example/pledger/pledger/model/Money", "bounded", "(J)Ljava/util/OptionalLong;"⟩ : MethodName)) hown (mvT hZ (own_g hw 17 rfl)) (mvT hZ (own_g hw 18 rfl)) (mvT hZ (own_g hw 4 rfl)) (mvT hZ (own_g hw 19 rfl)) (by decide) (backOf (W := 0) (rm5 l Z a0 hw [] (p1 + p2) ee h0 n0 Z0 SE EE FP FV) hZ (own_g hw 19 rfl) (own_g hw 4 rfl) (by decide) (by decide)) (g := (mkF m 8 #[.val (.long p1), .second, .val (.long p2), .second] [(.long (p1 + p2))])) rfl (by rw [hml]; rfl) (argsL := [(.long (p1 + p2))]) (rest := []) (lenOf pd__28J_29Ljava_2futil_2fOptionalLong_3b rfl) rfl (by show 2 * 0 + _ ≤ _; exact Nat.le_of_eq rfl) (hb hby d1_8) (fun _ _ => ⟨rfl, eq1, (by decide : 0 + 1 ≤ _), (by decide : 0 + 2 ≤ _)⟩)
  dsimp only [Pt.U, Pt.locs, Pt.cells, Pt.slots] at X2 l2 y2 z2 st2 hQ2
  subst l2 y2 z2
  obtain ⟨c2, q2, w2, rfl, Nq2, Kq2, fq0_2, fq1_2, fq2_2, fq3_2, fq4_2⟩ := hQ2
  have N2 := Fr.app N1 Nq2
  have Z2 : n0 ≤ T2.heap.size := Nat.le_trans Z0 Kq2.1
  have SZ2 : h0.size ≤ T2.heap.size := Nat.le_trans (Nat.le_refl h0.size) Kq2.1
  have S0_2 := own_Sta_keep SE Kq2 all0
  refine own_step st2 ?_
  show own_Ends p e below F (T2.setTop (mkF m 11 #[.val (.long p1), .second, .val (.long p2), .second] [(.ref c2)]))
  rw [hF]
  exact own_ret X2 (v := (some (.ref c2))) (fun h => by rw [Bd.returns] at h; cases h) Bd.notSynchronized (fun fs hr => retOut X2 hx (t := (.object "java/util/OptionalLong")) (w := (.ref c2)) (i := .areturn) Bd.returns rfl (Or.inr (Or.inr (Or.inr (Or.inr ⟨rfl, rfl, rfl⟩)))) (hb hby d1_11) hr) (by decide) (by decide) (by exact ⟨_, _, _, rfl, N2, ((Keep.trans (Keep.refl _ _) Kq2 all0) : Keep h0 T2.heap []), fq0_2, fq1_2, fq2_2, fq3_2, fq4_2⟩)

theorem d9_0 : decode jdk_2650_method_6_code 0 = .ok (.aload_n 0, 1) := by decide +kernel
theorem d9_1 : decode jdk_2650_method_6_code 1 = .ok (.getfield 7, 3) := by decide +kernel
theorem d9_4 : decode jdk_2650_method_6_code 4 = .ok (.ireturn, 1) := by decide +kernel
theorem ef_rm9 (m : MethodId) (x0 : Addr) : entryFrame m #[(.ref x0)] 1 = mkF m 0 #[.val (.ref x0)] [] := by first | (simp [entryFrame, mkF, argsToLocals, Value.category, maxLocals]; done) | rfl
def Q9 (Z : State) (a : Addr) (q : Int32) (h0 : Heap) (n0 : Nat) (v : Option Value) (h : Heap) (L : List Loc) : Prop := v = some (.int (nar .boolean q)) ∧ Fr n0 L ∧ h = h0
set_option maxRecDepth 65536 in
set_option maxHeartbeats 40000000 in
theorem rm9 (l : Launch) (Z : State) (a0 : Array Value) (hw : ∀ d ∈ tables_1, d.before a0 Z = true) (ws : List Jvm.Cond) (a : Addr) (q : Int32) (h0 : Heap) (n0 : Nat) (Z0 : n0 ≤ h0.size) (FP : Fld Z h0 a "java/util/OptionalLong" "isPresent" "Z" (.int q)) :
    MetFree l (⟨"java/util/OptionalLong", "isPresent", "()Z"⟩ : MethodName) (head1 (Jvm.Cond.code (⟨"java/util/OptionalLong", "isPresent", "()Z"⟩ : MethodName) jdk_2650_method_6_code 1 (some .boolean) :: ws) ({ frames := 0, cells := 0, slots := 0, locals := 0 } : Room)) (fun ar U => ar = #[(.ref a)] ∧ Z.Warmed39 U.vm ∧ U.heap = h0) (fun _ _ _ _ _ => True) (fun _ U o U' => ∃ v L, o = .returned v ∧ Q9 Z a q h0 n0 v U'.heap L ∧ FrameEnd U o U' L ({ frames := 0, cells := 0, slots := 0, locals := 0 } : Room).cells ({ frames := 0, cells := 0, slots := 0, locals := 0 } : Room).slots) := by
  refine MetFree.of_bodySF (plainFor_of_name pn_java_util_OptionalLong) hisR ?_
  intro p e s m args below meth c s₁ Bd hml0 hP hK
  obtain ⟨rfl, hZ, hh⟩ := hP
  have hx := Bd.exec
  have hby := Bd.bytes
  have hml : c.maxLocals = 1 := hml0
  have hown : s.vm.findClass "java/util/OptionalLong" = some m.cls := findClass_of_methodNamed Bd.named
  have hnm := (name_of_methodNamed Bd.named Bd.method).1
  have X0 : Stand p l e ({ frames := 0, cells := 0, slots := 0, locals := 0 } : Room) s m #[(.ref a)] below meth c s₁ [] 0 0 := Stand.of_body Bd
  have e0 : s₁.heap = h0 := by rw [← hh, Bd.state]; rfl
  have N0 := Fr.nil n0
  obtain ⟨F, hF⟩ : ∃ F, F = own_Fin s (Q9 Z a q h0 n0) ({ frames := 0, cells := 0, slots := 0, locals := 0 } : Room).cells ({ frames := 0, cells := 0, slots := 0, locals := 0 } : Room).slots := ⟨_, rfl⟩
  show own_Ends p e below (own_Fin s (Q9 Z a q h0 n0) ({ frames := 0, cells := 0, slots := 0, locals := 0 } : Room).cells ({ frames := 0, cells := 0, slots := 0, locals := 0 } : Room).slots) _
  rw [← hF, ef_rm9 m a]
  show own_Ends p e below F (s₁.setTop (mkF m 0 #[.val (.ref a)] []))
  refine own_step (fun _ k => XS.aloadN X0.here hx rfl (hb hby d9_0) rfl rfl k) ?_
  show own_Ends p e below F (s₁.setTop (mkF m 1 #[.val (.ref a)] [(.ref a)]))
  obtain ⟨T1, X1, e1, st1⟩ := getF X0 hx hZ hown (host := "") (Or.inl (own_g hw 33 rfl)) Via.refl e0 FP (g := (mkF m 1 #[.val (.ref a)] [(.ref a)])) rfl rfl (hb hby d9_1)
  refine own_step st1 ?_
  show own_Ends p e below F (T1.setTop (mkF m 4 #[.val (.ref a)] [(.int q)]))
  rw [hF]
  exact own_ret X1 (v := (some (.int (nar .boolean q)))) (fun h => by rw [Bd.returns] at h; cases h) Bd.notSynchronized (fun fs hr => retN X1 hx (t := .boolean) Bd.returns (by simp) (hb hby d9_4) hr) (by decide) (by decide) (by rw [e1]; exact ⟨rfl, N0, rfl⟩)

theorem d10_0 : decode jdk_2650_method_5_code 0 = .ok (.aload_n 0, 1) := by decide +kernel
theorem d10_1 : decode jdk_2650_method_5_code 1 = .ok (.getfield 7, 3) := by decide +kernel
theorem d10_4 : decode jdk_2650_method_5_code 4 = .ok (.ifCond .ne 13, 3) := by decide +kernel
theorem d10_17 : decode jdk_2650_method_5_code 17 = .ok (.aload_n 0, 1) := by decide +kernel
theorem d10_18 : decode jdk_2650_method_5_code 18 = .ok (.getfield 13, 3) := by decide +kernel
theorem d10_21 : decode jdk_2650_method_5_code 21 = .ok (.lreturn, 1) := by decide +kernel
theorem ef_rm10 (m : MethodId) (x0 : Addr) : entryFrame m #[(.ref x0)] 1 = mkF m 0 #[.val (.ref x0)] [] := by first | (simp [entryFrame, mkF, argsToLocals, Value.category, maxLocals]; done) | rfl
def Q10 (Z : State) (a : Addr) (q : Int32) (w : Int64) (h0 : Heap) (n0 : Nat) (v : Option Value) (h : Heap) (L : List Loc) : Prop := v = some (.long w) ∧ Fr n0 L ∧ h = h0
set_option maxRecDepth 65536 in
set_option maxHeartbeats 40000000 in
theorem rm10 (l : Launch) (Z : State) (a0 : Array Value) (hw : ∀ d ∈ tables_1, d.before a0 Z = true) (ws : List Jvm.Cond) (a : Addr) (q : Int32) (w : Int64) (h0 : Heap) (n0 : Nat) (Z0 : n0 ≤ h0.size) (FP : Fld Z h0 a "java/util/OptionalLong" "isPresent" "Z" (.int q)) (FV : Fld Z h0 a "java/util/OptionalLong" "value" "J" (.long w)) (hq : ¬ q = 0) :
    MetFree l (⟨"java/util/OptionalLong", "getAsLong", "()J"⟩ : MethodName) (head1 (Jvm.Cond.code (⟨"java/util/OptionalLong", "getAsLong", "()J"⟩ : MethodName) jdk_2650_method_5_code 1 (some .long) :: ws) ({ frames := 0, cells := 0, slots := 0, locals := 0 } : Room)) (fun ar U => ar = #[(.ref a)] ∧ Z.Warmed39 U.vm ∧ U.heap = h0) (fun _ _ _ _ _ => True) (fun _ U o U' => ∃ v L, o = .returned v ∧ Q10 Z a q w h0 n0 v U'.heap L ∧ FrameEnd U o U' L ({ frames := 0, cells := 0, slots := 0, locals := 0 } : Room).cells ({ frames := 0, cells := 0, slots := 0, locals := 0 } : Room).slots) := by
  refine MetFree.of_bodySF (plainFor_of_name pn_java_util_OptionalLong) hisR ?_
  intro p e s m args below meth c s₁ Bd hml0 hP hK
  obtain ⟨rfl, hZ, hh⟩ := hP
  have hx := Bd.exec
  have hby := Bd.bytes
  have hml : c.maxLocals = 1 := hml0
  have hown : s.vm.findClass "java/util/OptionalLong" = some m.cls := findClass_of_methodNamed Bd.named
  have hnm := (name_of_methodNamed Bd.named Bd.method).1
  have X0 : Stand p l e ({ frames := 0, cells := 0, slots := 0, locals := 0 } : Room) s m #[(.ref a)] below meth c s₁ [] 0 0 := Stand.of_body Bd
  have e0 : s₁.heap = h0 := by rw [← hh, Bd.state]; rfl
  have N0 := Fr.nil n0
  obtain ⟨F, hF⟩ : ∃ F, F = own_Fin s (Q10 Z a q w h0 n0) ({ frames := 0, cells := 0, slots := 0, locals := 0 } : Room).cells ({ frames := 0, cells := 0, slots := 0, locals := 0 } : Room).slots := ⟨_, rfl⟩
  show own_Ends p e below (own_Fin s (Q10 Z a q w h0 n0) ({ frames := 0, cells := 0, slots := 0, locals := 0 } : Room).cells ({ frames := 0, cells := 0, slots := 0, locals := 0 } : Room).slots) _
  rw [← hF, ef_rm10 m a]
  show own_Ends p e below F (s₁.setTop (mkF m 0 #[.val (.ref a)] []))
  refine own_step (fun _ k => XS.aloadN X0.here hx rfl (hb hby d10_0) rfl rfl k) ?_
  show own_Ends p e below F (s₁.setTop (mkF m 1 #[.val (.ref a)] [(.ref a)]))
  obtain ⟨T1, X1, e1, st1⟩ := getF X0 hx hZ hown (host := "") (Or.inl (own_g hw 33 rfl)) Via.refl e0 FP (g := (mkF m 1 #[.val (.ref a)] [(.ref a)])) rfl rfl (hb hby d10_1)
  refine own_step st1 ?_
  show own_Ends p e below F (T1.setTop (mkF m 4 #[.val (.ref a)] [(.int q)]))
  refine own_step (fun _ k => XS.ifYes X1.here hx rfl (pc0 := 4) (pc' := 17) rfl (hb hby d10_4) rfl ((if0 _ _).trans (feq (hq : ¬ (q = (0 : Int32)))).2) (by decide) (by decide) k) ?_
  show own_Ends p e below F (T1.setTop (mkF m 17 #[.val (.ref a)] []))
  refine own_step (fun _ k => XS.aloadN X1.here hx rfl (hb hby d10_17) rfl rfl k) ?_
  show own_Ends p e below F (T1.setTop (mkF m 18 #[.val (.ref a)] [(.ref a)]))
  obtain ⟨T2, X2, e2, st2⟩ := getF X1 hx hZ hown (host := "") (Or.inl (own_g hw 35 rfl)) Via.refl e1 FV (g := (mkF m 18 #[.val (.ref a)] [(.ref a)])) rfl rfl (hb hby d10_18)
  refine own_step st2 ?_
  show own_Ends p e below F (T2.setTop (mkF m 21 #[.val (.ref a)] [(.long w)]))
  rw [hF]
  exact own_ret X2 (v := (some (.long w))) (fun h => by rw [Bd.returns] at h; cases h) Bd.notSynchronized (fun fs hr => X2.lreturnOut hx Bd.returns (hb hby d10_21) hr) (by decide) (by decide) (by rw [e2]; exact ⟨rfl, N0, rfl⟩)

theorem pn_com_example_pledger_pledger_model_MoneyCreditPinLaw : plainName "com/example/pledger/pledger/model/MoneyCreditPinLaw" = true := by first | (simp [plainName, overriddenIn]; done) | decide +kernel
theorem pd__28JJ_29J : parseMethodDescriptor "(JJ)J" = some ⟨[.long, .long], some .long⟩ := by decide +kernel
theorem pd__28JJ_29Ljava_2futil_2fOptionalLong_3b : parseMethodDescriptor "(JJ)Ljava/util/OptionalLong;" = some ⟨[.long, .long], some (.object "java/util/OptionalLong")⟩ := by decide +kernel
theorem pd__28_29Z : parseMethodDescriptor "()Z" = some ⟨[], some .boolean⟩ := by decide +kernel
theorem pd__28_29J : parseMethodDescriptor "()J" = some ⟨[], some .long⟩ := by decide +kernel
theorem ef_rm0 (m : MethodId) (x0 : Int64) (x1 : Int64) (x2 : Int32) : entryFrame m #[(.long x0), (.long x1), (.int x2)] maxLocals = mkF m 0 #[.val (.long x0), .second, .val (.long x1), .second, .val (.int x2), .unset, .unset, .unset, .unset, .unset, .unset, .unset, .unset, .unset] [] := by first | (simp [entryFrame, mkF, argsToLocals, Value.category, maxLocals]; done) | rfl
def Q0 (Z : State) (p1 p2 : Int64) (p3 : Int32) (ee : Addr) (h0 : Heap) (n0 : Nat) (v : Option Value) (h : Heap) (L : List Loc) : Prop := v = some (.int 1) ∧ Fr n0 L
set_option maxRecDepth 65536 in
set_option maxHeartbeats 40000000 in
theorem rm0 (l : Launch) (Z : State) (a0 : Array Value) (hw : ∀ d ∈ tables_1, d.before a0 Z = true) (ws : List Jvm.Cond) (p1 p2 : Int64) (p3 : Int32) (ee : Addr) (h0 : Heap) (n0 : Nat) (Z0 : n0 ≤ h0.size) (SE : Sta Z h0 "java/util/OptionalLong" "EMPTY" "Ljava/util/OptionalLong;" (.ref ee)) (EE : Exa Z h0 ee "java/util/OptionalLong") (FP : Fld Z h0 ee "java/util/OptionalLong" "isPresent" "Z" (.int (0 : Int32))) (FV : Fld Z h0 ee "java/util/OptionalLong" "value" "J" (.long (0 : Int64))) :
    MetFree l x (head1 (Jvm.Cond.code x code maxLocals ret :: ws) room_1) (fun ar U => ar = #[(.long p1), (.long p2), (.int p3)] ∧ Z.Warmed39 U.vm ∧ U.heap = h0) (fun _ _ _ _ _ => True) (fun _ U o U' => ∃ v L, o = .returned v ∧ Q0 Z p1 p2 p3 ee h0 n0 v U'.heap L ∧ FrameEnd U o U' L room_1.cells room_1.slots) := by
  refine MetFree.of_bodySF (plainFor_of_name pn_com_example_pledger_pledger_model_MoneyCreditPinLaw) hisR ?_
  intro p e s m args below meth c s₁ Bd hml0 hP hK
  obtain ⟨rfl, hZ, hh⟩ := hP
  have hx := Bd.exec
  have hby := Bd.bytes
  have hml : c.maxLocals = 14 := hml0
  have hown : s.vm.findClass "com/example/pledger/pledger/model/MoneyCreditPinLaw" = some m.cls := findClass_of_methodNamed Bd.named
  have hnm := (name_of_methodNamed Bd.named Bd.method).1
  have X0 : Stand p l e room_1 s m #[(.long p1), (.long p2), (.int p3)] below meth c s₁ [] 0 0 := Stand.of_body Bd
  have e0 : s₁.heap = h0 := by rw [← hh, Bd.state]; rfl
  have N0 := Fr.nil n0
  obtain ⟨F, hF⟩ : ∃ F, F = own_Fin s (Q0 Z p1 p2 p3 ee h0 n0) room_1.cells room_1.slots := ⟨_, rfl⟩
  show own_Ends p e below (own_Fin s (Q0 Z p1 p2 p3 ee h0 n0) room_1.cells room_1.slots) _
  rw [← hF, ef_rm0 m p1 p2 p3]
  show own_Ends p e below F (s₁.setTop (mkF m 0 #[.val (.long p1), .second, .val (.long p2), .second, .val (.int p3), .unset, .unset, .unset, .unset, .unset, .unset, .unset, .unset, .unset] []))
  refine own_step (X0.ldc2Long hx hown (mvT hZ (own_g hw 0 rfl)) (g := (mkF m 0 #[.val (.long p1), .second, .val (.long p2), .second, .val (.int p3), .unset, .unset, .unset, .unset, .unset, .unset, .unset, .unset, .unset] [])) rfl (hb hby at_0)) ?_
  show own_Ends p e below F (s₁.setTop (mkF m 3 #[.val (.long p1), .second, .val (.long p2), .second, .val (.int p3), .unset, .unset, .unset, .unset, .unset, .unset, .unset, .unset, .unset] [(.long (9007199254740991 : Int64))]))
  refine own_step (fun _ k => XS.lstore X0.here hx rfl (hb hby at_3) rfl (l' := #[.val (.long p1), .second, .val (.long p2), .second, .val (.int p3), .val (.long (9007199254740991 : Int64)), .second, .unset, .unset, .unset, .unset, .unset, .unset, .unset]) rfl k) ?_
  show own_Ends p e below F (s₁.setTop (mkF m 5 #[.val (.long p1), .second, .val (.long p2), .second, .val (.int p3), .val (.long (9007199254740991 : Int64)), .second, .unset, .unset, .unset, .unset, .unset, .unset, .unset] []))
  refine own_step (fun _ k => XS.lloadN X0.here hx rfl (hb hby at_5) rfl k) ?_
  show own_Ends p e below F (s₁.setTop (mkF m 6 #[.val (.long p1), .second, .val (.long p2), .second, .val (.int p3), .val (.long (9007199254740991 : Int64)), .second, .unset, .unset, .unset, .unset, .unset, .unset, .unset] [(.long p2)]))
  refine own_step (X0.ldc2Long hx hown (mvT hZ (own_g hw 1 rfl)) (g := (mkF m 6 #[.val (.long p1), .second, .val (.long p2), .second, .val (.int p3), .val (.long (9007199254740991 : Int64)), .second, .unset, .unset, .unset, .unset, .unset, .unset, .unset] [(.long p2)])) rfl (hb hby at_6)) ?_
  show own_Ends p e below F (s₁.setTop (mkF m 9 #[.val (.long p1), .second, .val (.long p2), .second, .val (.int p3), .val (.long (9007199254740991 : Int64)), .second, .unset, .unset, .unset, .unset, .unset, .unset, .unset] [(.long (9223372036854775807 : Int64)), (.long p2)]))
  refine own_step (fun _ k => XS.land X0.here hx rfl (hb hby at_9) rfl k) ?_
  show own_Ends p e below F (s₁.setTop (mkF m 10 #[.val (.long p1), .second, .val (.long p2), .second, .val (.int p3), .val (.long (9007199254740991 : Int64)), .second, .unset, .unset, .unset, .unset, .unset, .unset, .unset] [(.long (p2 &&& (9223372036854775807 : Int64)))]))
  refine own_step (fun _ k => XS.lload X0.here hx rfl (hb hby at_10) rfl k) ?_
  show own_Ends p e below F (s₁.setTop (mkF m 12 #[.val (.long p1), .second, .val (.long p2), .second, .val (.int p3), .val (.long (9007199254740991 : Int64)), .second, .unset, .unset, .unset, .unset, .unset, .unset, .unset] [(.long (9007199254740991 : Int64)), (.long (p2 &&& (9223372036854775807 : Int64)))]))
  refine own_step (fun _ k => XS.lrem X0.here hx rfl (hb hby at_12) rfl (by decide) k) ?_
  show own_Ends p e below F (s₁.setTop (mkF m 13 #[.val (.long p1), .second, .val (.long p2), .second, .val (.int p3), .val (.long (9007199254740991 : Int64)), .second, .unset, .unset, .unset, .unset, .unset, .unset, .unset] [(.long ((p2 &&& (9223372036854775807 : Int64)) - ((p2 &&& (9223372036854775807 : Int64)) / (9007199254740991 : Int64)) * (9007199254740991 : Int64)))]))
  refine own_step (fun _ k => XS.lconst X0.here hx rfl (hb hby at_13) k) ?_
  show own_Ends p e below F (s₁.setTop (mkF m 14 #[.val (.long p1), .second, .val (.long p2), .second, .val (.int p3), .val (.long (9007199254740991 : Int64)), .second, .unset, .unset, .unset, .unset, .unset, .unset, .unset] [(.long (1 : Int64)), (.long ((p2 &&& (9223372036854775807 : Int64)) - ((p2 &&& (9223372036854775807 : Int64)) / (9007199254740991 : Int64)) * (9007199254740991 : Int64)))]))
  refine own_step (fun _ k => XS.ladd X0.here hx rfl (hb hby at_14) rfl k) ?_
  show own_Ends p e below F (s₁.setTop (mkF m 15 #[.val (.long p1), .second, .val (.long p2), .second, .val (.int p3), .val (.long (9007199254740991 : Int64)), .second, .unset, .unset, .unset, .unset, .unset, .unset, .unset] [(.long (((p2 &&& (9223372036854775807 : Int64)) - ((p2 &&& (9223372036854775807 : Int64)) / (9007199254740991 : Int64)) * (9007199254740991 : Int64)) + (1 : Int64)))]))
  obtain ⟨v1, ev1⟩ : ∃ z : Int64, z = (((p2 &&& (9223372036854775807 : Int64)) - ((p2 &&& (9223372036854775807 : Int64)) / (9007199254740991 : Int64)) * (9007199254740991 : Int64)) + (1 : Int64)) := ⟨_, rfl⟩
  rw [← ev1]
  show own_Ends p e below F (s₁.setTop (mkF m 15 #[.val (.long p1), .second, .val (.long p2), .second, .val (.int p3), .val (.long (9007199254740991 : Int64)), .second, .unset, .unset, .unset, .unset, .unset, .unset, .unset] [(.long v1)]))
  refine own_step (fun _ k => XS.lstore X0.here hx rfl (hb hby at_15) rfl (l' := #[.val (.long p1), .second, .val (.long p2), .second, .val (.int p3), .val (.long (9007199254740991 : Int64)), .second, .val (.long v1), .second, .unset, .unset, .unset, .unset, .unset]) rfl k) ?_
  show own_Ends p e below F (s₁.setTop (mkF m 17 #[.val (.long p1), .second, .val (.long p2), .second, .val (.int p3), .val (.long (9007199254740991 : Int64)), .second, .val (.long v1), .second, .unset, .unset, .unset, .unset, .unset] []))
  refine own_step (fun _ k => XS.iload X0.here hx rfl (hb hby at_17) rfl k) ?_
  show own_Ends p e below F (s₁.setTop (mkF m 19 #[.val (.long p1), .second, .val (.long p2), .second, .val (.int p3), .val (.long (9007199254740991 : Int64)), .second, .val (.long v1), .second, .unset, .unset, .unset, .unset, .unset] [(.int p3)]))
  refine own_step (fun _ k => XS.iconst X0.here hx rfl (hb hby at_19) k) ?_
  show own_Ends p e below F (s₁.setTop (mkF m 20 #[.val (.long p1), .second, .val (.long p2), .second, .val (.int p3), .val (.long (9007199254740991 : Int64)), .second, .val (.long v1), .second, .unset, .unset, .unset, .unset, .unset] [(.int (3 : Int32)), (.int p3)]))
  refine own_step (fun _ k => XS.iand X0.here hx rfl (hb hby at_20) rfl k) ?_
  show own_Ends p e below F (s₁.setTop (mkF m 21 #[.val (.long p1), .second, .val (.long p2), .second, .val (.int p3), .val (.long (9007199254740991 : Int64)), .second, .val (.long v1), .second, .unset, .unset, .unset, .unset, .unset] [(.int (p3 &&& (3 : Int32)))]))
  refine own_step (fun _ k => XS.istore X0.here hx rfl (hb hby at_21) rfl (l' := #[.val (.long p1), .second, .val (.long p2), .second, .val (.int p3), .val (.long (9007199254740991 : Int64)), .second, .val (.long v1), .second, .val (.int (p3 &&& (3 : Int32))), .unset, .unset, .unset, .unset]) rfl k) ?_
  show own_Ends p e below F (s₁.setTop (mkF m 23 #[.val (.long p1), .second, .val (.long p2), .second, .val (.int p3), .val (.long (9007199254740991 : Int64)), .second, .val (.long v1), .second, .val (.int (p3 &&& (3 : Int32))), .unset, .unset, .unset, .unset] []))
  refine own_step (fun _ k => XS.iload X0.here hx rfl (hb hby at_23) rfl k) ?_
  show own_Ends p e below F (s₁.setTop (mkF m 25 #[.val (.long p1), .second, .val (.long p2), .second, .val (.int p3), .val (.long (9007199254740991 : Int64)), .second, .val (.long v1), .second, .val (.int (p3 &&& (3 : Int32))), .unset, .unset, .unset, .unset] [(.int (p3 &&& (3 : Int32)))]))
  refine own_step (fun _ k => XS.iconst X0.here hx rfl (hb hby at_25) k) ?_
  show own_Ends p e below F (s₁.setTop (mkF m 26 #[.val (.long p1), .second, .val (.long p2), .second, .val (.int p3), .val (.long (9007199254740991 : Int64)), .second, .val (.long v1), .second, .val (.int (p3 &&& (3 : Int32))), .unset, .unset, .unset, .unset] [(.int (1 : Int32)), (.int (p3 &&& (3 : Int32)))]))
  by_cases c26_2 : (p3 &&& (3 : Int32)) = (1 : Int32)
  · refine own_step (fun _ k => XS.icmpNo X0.here hx rfl (hb hby at_26) rfl (teq c26_2).2 k) ?_
    show own_Ends p e below F (s₁.setTop (mkF m 29 #[.val (.long p1), .second, .val (.long p2), .second, .val (.int p3), .val (.long (9007199254740991 : Int64)), .second, .val (.long v1), .second, .val (.int (p3 &&& (3 : Int32))), .unset, .unset, .unset, .unset] []))
    refine own_step (fun _ k => XS.iload X0.here hx rfl (hb hby at_29) rfl k) ?_
    show own_Ends p e below F (s₁.setTop (mkF m 31 #[.val (.long p1), .second, .val (.long p2), .second, .val (.int p3), .val (.long (9007199254740991 : Int64)), .second, .val (.long v1), .second, .val (.int (p3 &&& (3 : Int32))), .unset, .unset, .unset, .unset] [(.int p3)]))
    refine own_step (fun _ k => XS.iconst X0.here hx rfl (hb hby at_31) k) ?_
    show own_Ends p e below F (s₁.setTop (mkF m 32 #[.val (.long p1), .second, .val (.long p2), .second, .val (.int p3), .val (.long (9007199254740991 : Int64)), .second, .val (.long v1), .second, .val (.int (p3 &&& (3 : Int32))), .unset, .unset, .unset, .unset] [(.int (2 : Int32)), (.int p3)]))
    refine own_step (fun _ k => XS.ishr X0.here hx rfl (hb hby at_32) rfl k) ?_
    show own_Ends p e below F (s₁.setTop (mkF m 33 #[.val (.long p1), .second, .val (.long p2), .second, .val (.int p3), .val (.long (9007199254740991 : Int64)), .second, .val (.long v1), .second, .val (.int (p3 &&& (3 : Int32))), .unset, .unset, .unset, .unset] [(.int (p3 >>> ((2 : Int32) &&& 31)))]))
    refine own_step (fun _ k => XS.iconst X0.here hx rfl (hb hby at_33) k) ?_
    show own_Ends p e below F (s₁.setTop (mkF m 34 #[.val (.long p1), .second, .val (.long p2), .second, .val (.int p3), .val (.long (9007199254740991 : Int64)), .second, .val (.long v1), .second, .val (.int (p3 &&& (3 : Int32))), .unset, .unset, .unset, .unset] [(.int (3 : Int32)), (.int (p3 >>> ((2 : Int32) &&& 31)))]))
    refine own_step (fun _ k => XS.iand X0.here hx rfl (hb hby at_34) rfl k) ?_
    show own_Ends p e below F (s₁.setTop (mkF m 35 #[.val (.long p1), .second, .val (.long p2), .second, .val (.int p3), .val (.long (9007199254740991 : Int64)), .second, .val (.long v1), .second, .val (.int (p3 &&& (3 : Int32))), .unset, .unset, .unset, .unset] [(.int ((p3 >>> ((2 : Int32) &&& 31)) &&& (3 : Int32)))]))
    refine own_step (fun _ k => XS.i2l X0.here hx rfl (hb hby at_35) rfl k) ?_
    show own_Ends p e below F (s₁.setTop (mkF m 36 #[.val (.long p1), .second, .val (.long p2), .second, .val (.int p3), .val (.long (9007199254740991 : Int64)), .second, .val (.long v1), .second, .val (.int (p3 &&& (3 : Int32))), .unset, .unset, .unset, .unset] [(.long (((p3 >>> ((2 : Int32) &&& 31)) &&& (3 : Int32)).toInt64))]))
    refine own_step (fun _ k => XS.lconst X0.here hx rfl (hb hby at_36) k) ?_
    show own_Ends p e below F (s₁.setTop (mkF m 37 #[.val (.long p1), .second, .val (.long p2), .second, .val (.int p3), .val (.long (9007199254740991 : Int64)), .second, .val (.long v1), .second, .val (.int (p3 &&& (3 : Int32))), .unset, .unset, .unset, .unset] [(.long (1 : Int64)), (.long (((p3 >>> ((2 : Int32) &&& 31)) &&& (3 : Int32)).toInt64))]))
    refine own_step (fun _ k => XS.lsub X0.here hx rfl (hb hby at_37) rfl k) ?_
    show own_Ends p e below F (s₁.setTop (mkF m 38 #[.val (.long p1), .second, .val (.long p2), .second, .val (.int p3), .val (.long (9007199254740991 : Int64)), .second, .val (.long v1), .second, .val (.int (p3 &&& (3 : Int32))), .unset, .unset, .unset, .unset] [(.long ((((p3 >>> ((2 : Int32) &&& 31)) &&& (3 : Int32)).toInt64) - (1 : Int64)))]))
    refine own_step (fun _ k => XS.lstore X0.here hx rfl (hb hby at_38) rfl (l' := #[.val (.long p1), .second, .val (.long p2), .second, .val (.int p3), .val (.long (9007199254740991 : Int64)), .second, .val (.long v1), .second, .val (.int (p3 &&& (3 : Int32))), .unset, .unset, .val (.long ((((p3 >>> ((2 : Int32) &&& 31)) &&& (3 : Int32)).toInt64) - (1 : Int64))), .second]) rfl k) ?_
    show own_Ends p e below F (s₁.setTop (mkF m 40 #[.val (.long p1), .second, .val (.long p2), .second, .val (.int p3), .val (.long (9007199254740991 : Int64)), .second, .val (.long v1), .second, .val (.int (p3 &&& (3 : Int32))), .unset, .unset, .val (.long ((((p3 >>> ((2 : Int32) &&& 31)) &&& (3 : Int32)).toInt64) - (1 : Int64))), .second] []))
    refine own_step (fun _ k => XS.lload X0.here hx rfl (hb hby at_40) rfl k) ?_
    show own_Ends p e below F (s₁.setTop (mkF m 42 #[.val (.long p1), .second, .val (.long p2), .second, .val (.int p3), .val (.long (9007199254740991 : Int64)), .second, .val (.long v1), .second, .val (.int (p3 &&& (3 : Int32))), .unset, .unset, .val (.long ((((p3 >>> ((2 : Int32) &&& 31)) &&& (3 : Int32)).toInt64) - (1 : Int64))), .second] [(.long (9007199254740991 : Int64))]))
    refine own_step (fun _ k => XS.lload X0.here hx rfl (hb hby at_42) rfl k) ?_
    show own_Ends p e below F (s₁.setTop (mkF m 44 #[.val (.long p1), .second, .val (.long p2), .second, .val (.int p3), .val (.long (9007199254740991 : Int64)), .second, .val (.long v1), .second, .val (.int (p3 &&& (3 : Int32))), .unset, .unset, .val (.long ((((p3 >>> ((2 : Int32) &&& 31)) &&& (3 : Int32)).toInt64) - (1 : Int64))), .second] [(.long v1), (.long (9007199254740991 : Int64))]))
    refine own_step (fun _ k => XS.lsub X0.here hx rfl (hb hby at_44) rfl k) ?_
    show own_Ends p e below F (s₁.setTop (mkF m 45 #[.val (.long p1), .second, .val (.long p2), .second, .val (.int p3), .val (.long (9007199254740991 : Int64)), .second, .val (.long v1), .second, .val (.int (p3 &&& (3 : Int32))), .unset, .unset, .val (.long ((((p3 >>> ((2 : Int32) &&& 31)) &&& (3 : Int32)).toInt64) - (1 : Int64))), .second] [(.long ((9007199254740991 : Int64) - v1))]))
    refine own_step (fun _ k => XS.lload X0.here hx rfl (hb hby at_45) rfl k) ?_
    show own_Ends p e below F (s₁.setTop (mkF m 47 #[.val (.long p1), .second, .val (.long p2), .second, .val (.int p3), .val (.long (9007199254740991 : Int64)), .second, .val (.long v1), .second, .val (.int (p3 &&& (3 : Int32))), .unset, .unset, .val (.long ((((p3 >>> ((2 : Int32) &&& 31)) &&& (3 : Int32)).toInt64) - (1 : Int64))), .second] [(.long ((((p3 >>> ((2 : Int32) &&& 31)) &&& (3 : Int32)).toInt64) - (1 : Int64))), (.long ((9007199254740991 : Int64) - v1))]))
    refine own_step (fun _ k => XS.ladd X0.here hx rfl (hb hby at_47) rfl k) ?_
    show own_Ends p e below F (s₁.setTop (mkF m 48 #[.val (.long p1), .second, .val (.long p2), .second, .val (.int p3), .val (.long (9007199254740991 : Int64)), .second, .val (.long v1), .second, .val (.int (p3 &&& (3 : Int32))), .unset, .unset, .val (.long ((((p3 >>> ((2 : Int32) &&& 31)) &&& (3 : Int32)).toInt64) - (1 : Int64))), .second] [(.long (((9007199254740991 : Int64) - v1) + ((((p3 >>> ((2 : Int32) &&& 31)) &&& (3 : Int32)).toInt64) - (1 : Int64))))]))
    refine own_step (fun _ k => XS.lload X0.here hx rfl (hb hby at_48) rfl k) ?_
    show own_Ends p e below F (s₁.setTop (mkF m 50 #[.val (.long p1), .second, .val (.long p2), .second, .val (.int p3), .val (.long (9007199254740991 : Int64)), .second, .val (.long v1), .second, .val (.int (p3 &&& (3 : Int32))), .unset, .unset, .val (.long ((((p3 >>> ((2 : Int32) &&& 31)) &&& (3 : Int32)).toInt64) - (1 : Int64))), .second] [(.long (9007199254740991 : Int64)), (.long (((9007199254740991 : Int64) - v1) + ((((p3 >>> ((2 : Int32) &&& 31)) &&& (3 : Int32)).toInt64) - (1 : Int64))))]))
    obtain ⟨_, _, ⟨T3, L3, k3, n3⟩, -, X3, ⟨Lc3, hQ3, l3, y3, z3⟩, st3⟩ := Jvm.LawKit.callS X0 hx (y := (⟨"java/lang/Math", "min", "(JJ)J"⟩ : MethodName)) hown (mvT hZ (own_g hw 51 rfl)) (mvT hZ (own_g hw 52 rfl)) (mvT hZ (own_g hw 53 rfl)) (mvT hZ (own_g hw 54 rfl)) (by decide) (backOf (W := 0) (rm12 l Z a0 hw [] (((9007199254740991 : Int64) - v1) + ((((p3 >>> ((2 : Int32) &&& 31)) &&& (3 : Int32)).toInt64) - (1 : Int64))) (9007199254740991 : Int64) h0 n0 Z0) hZ (own_g hw 54 rfl) (own_g hw 53 rfl) (by decide) (by decide)) (g := (mkF m 50 #[.val (.long p1), .second, .val (.long p2), .second, .val (.int p3), .val (.long (9007199254740991 : Int64)), .second, .val (.long v1), .second, .val (.int (p3 &&& (3 : Int32))), .unset, .unset, .val (.long ((((p3 >>> ((2 : Int32) &&& 31)) &&& (3 : Int32)).toInt64) - (1 : Int64))), .second] [(.long (9007199254740991 : Int64)), (.long (((9007199254740991 : Int64) - v1) + ((((p3 >>> ((2 : Int32) &&& 31)) &&& (3 : Int32)).toInt64) - (1 : Int64))))])) rfl (by rw [hml]; rfl) (argsL := [(.long (((9007199254740991 : Int64) - v1) + ((((p3 >>> ((2 : Int32) &&& 31)) &&& (3 : Int32)).toInt64) - (1 : Int64)))), (.long (9007199254740991 : Int64))]) (rest := []) (lenOf pd__28JJ_29J rfl) rfl (by show 2 * 0 + _ ≤ _; exact Nat.le_of_eq rfl) (hb hby at_50) (fun _ _ => ⟨rfl, e0, (by decide : 0 + 0 ≤ _), (by decide : 0 + 0 ≤ _)⟩)
    dsimp only [Pt.U, Pt.locs, Pt.cells, Pt.slots] at X3 l3 y3 z3 st3 hQ3
    subst l3 y3 z3
    obtain ⟨rfl, Nq3, eq3⟩ := hQ3
    have N3 := Fr.app N0 Nq3
    refine own_step st3 ?_
    show own_Ends p e below F (T3.setTop (mkF m 53 #[.val (.long p1), .second, .val (.long p2), .second, .val (.int p3), .val (.long (9007199254740991 : Int64)), .second, .val (.long v1), .second, .val (.int (p3 &&& (3 : Int32))), .unset, .unset, .val (.long ((((p3 >>> ((2 : Int32) &&& 31)) &&& (3 : Int32)).toInt64) - (1 : Int64))), .second] [(.long (own_min (((9007199254740991 : Int64) - v1) + ((((p3 >>> ((2 : Int32) &&& 31)) &&& (3 : Int32)).toInt64) - (1 : Int64))) (9007199254740991 : Int64)))]))
    obtain ⟨v4, ev4⟩ : ∃ z : Int64, z = (own_min (((9007199254740991 : Int64) - v1) + ((((p3 >>> ((2 : Int32) &&& 31)) &&& (3 : Int32)).toInt64) - (1 : Int64))) (9007199254740991 : Int64)) := ⟨_, rfl⟩
    rw [← ev4]
    show own_Ends p e below F (T3.setTop (mkF m 53 #[.val (.long p1), .second, .val (.long p2), .second, .val (.int p3), .val (.long (9007199254740991 : Int64)), .second, .val (.long v1), .second, .val (.int (p3 &&& (3 : Int32))), .unset, .unset, .val (.long ((((p3 >>> ((2 : Int32) &&& 31)) &&& (3 : Int32)).toInt64) - (1 : Int64))), .second] [(.long v4)]))
    refine own_step (fun _ k => XS.lstore X3.here hx rfl (hb hby at_53) rfl (l' := #[.val (.long p1), .second, .val (.long p2), .second, .val (.int p3), .val (.long (9007199254740991 : Int64)), .second, .val (.long v1), .second, .val (.int (p3 &&& (3 : Int32))), .val (.long v4), .second, .val (.long ((((p3 >>> ((2 : Int32) &&& 31)) &&& (3 : Int32)).toInt64) - (1 : Int64))), .second]) rfl k) ?_
    show own_Ends p e below F (T3.setTop (mkF m 55 #[.val (.long p1), .second, .val (.long p2), .second, .val (.int p3), .val (.long (9007199254740991 : Int64)), .second, .val (.long v1), .second, .val (.int (p3 &&& (3 : Int32))), .val (.long v4), .second, .val (.long ((((p3 >>> ((2 : Int32) &&& 31)) &&& (3 : Int32)).toInt64) - (1 : Int64))), .second] []))
    refine own_step (fun _ k => XS.goto X3.here hx rfl (pc0 := 55) (pc' := 117) rfl (hb hby at_55) (by decide) (by decide) k) ?_
    show own_Ends p e below F (T3.setTop (mkF m 117 #[.val (.long p1), .second, .val (.long p2), .second, .val (.int p3), .val (.long (9007199254740991 : Int64)), .second, .val (.long v1), .second, .val (.int (p3 &&& (3 : Int32))), .val (.long v4), .second, .val (.long ((((p3 >>> ((2 : Int32) &&& 31)) &&& (3 : Int32)).toInt64) - (1 : Int64))), .second] []))
    have hA : ¬ own_amt v1 = 0 := by rw [ev1]; exact own_A1 p2
    have hB : ¬ own_bal v4 = 0 := by rw [ev4]; exact own_B1 _ p3 hA
    refine own_step (fun _ k => XS.lload X3.here hx rfl (hb hby at_117) rfl k) ?_
    show own_Ends p e below F (T3.setTop (mkF m 119 #[.val (.long p1), .second, .val (.long p2), .second, .val (.int p3), .val (.long (9007199254740991 : Int64)), .second, .val (.long v1), .second, .val (.int (p3 &&& (3 : Int32))), .val (.long v4), .second, .val (.long ((((p3 >>> ((2 : Int32) &&& 31)) &&& (3 : Int32)).toInt64) - (1 : Int64))), .second] [(.long v4)]))
    refine own_step (fun _ k => XS.lload X3.here hx rfl (hb hby at_119) rfl k) ?_
    show own_Ends p e below F (T3.setTop (mkF m 121 #[.val (.long p1), .second, .val (.long p2), .second, .val (.int p3), .val (.long (9007199254740991 : Int64)), .second, .val (.long v1), .second, .val (.int (p3 &&& (3 : Int32))), .val (.long v4), .second, .val (.long ((((p3 >>> ((2 : Int32) &&& 31)) &&& (3 : Int32)).toInt64) - (1 : Int64))), .second] [(.long v1), (.long v4)]))
    obtain ⟨_, _, ⟨T5, L5, k5, n5⟩, -, X5, ⟨Lc5, hQ5, l5, y5, z5⟩, st5⟩ := Jvm.LawKit.callS X3 hx (y := (⟨"com/example/pledger/pledger/model/Money", "credit", "(JJ)Ljava/util/OptionalLong;"⟩ : MethodName)) hown (mvT hZ (own_g hw 2 rfl)) (mvT hZ (own_g hw 3 rfl)) (mvT hZ (own_g hw 4 rfl)) (mvT hZ (own_g hw 5 rfl)) (by decide) (backOf (W := 0) (rm1 l Z a0 hw [] v4 v1 ee h0 n0 Z0 hA hB SE EE FP FV) hZ (own_g hw 5 rfl) (own_g hw 4 rfl) (by decide) (by decide)) (g := (mkF m 121 #[.val (.long p1), .second, .val (.long p2), .second, .val (.int p3), .val (.long (9007199254740991 : Int64)), .second, .val (.long v1), .second, .val (.int (p3 &&& (3 : Int32))), .val (.long v4), .second, .val (.long ((((p3 >>> ((2 : Int32) &&& 31)) &&& (3 : Int32)).toInt64) - (1 : Int64))), .second] [(.long v1), (.long v4)])) rfl (by rw [hml]; rfl) (argsL := [(.long v4), (.long v1)]) (rest := []) (lenOf pd__28JJ_29Ljava_2futil_2fOptionalLong_3b rfl) rfl (by show 2 * 0 + _ ≤ _; exact Nat.le_of_eq rfl) (hb hby at_121) (fun _ _ => ⟨rfl, eq3, (by decide : 0 + 1 ≤ _), (by decide : 0 + 2 ≤ _)⟩)
    dsimp only [Pt.U, Pt.locs, Pt.cells, Pt.slots] at X5 l5 y5 z5 st5 hQ5
    subst l5 y5 z5
    obtain ⟨c5, q5, w5, rfl, Nq5, Kq5, fq0_5, fq1_5, fq2_5, fq3_5, fq4_5⟩ := hQ5
    have N5 := Fr.app N3 Nq5
    have Z5 : n0 ≤ T5.heap.size := Nat.le_trans Z0 Kq5.1
    have SZ5 : h0.size ≤ T5.heap.size := Nat.le_trans (Nat.le_refl h0.size) Kq5.1
    have S0_5 := own_Sta_keep SE Kq5 all0
    refine own_step st5 ?_
    show own_Ends p e below F (T5.setTop (mkF m 124 #[.val (.long p1), .second, .val (.long p2), .second, .val (.int p3), .val (.long (9007199254740991 : Int64)), .second, .val (.long v1), .second, .val (.int (p3 &&& (3 : Int32))), .val (.long v4), .second, .val (.long ((((p3 >>> ((2 : Int32) &&& 31)) &&& (3 : Int32)).toInt64) - (1 : Int64))), .second] [(.ref c5)]))
    refine own_step (fun _ k => XS.astore X5.here hx rfl (hb hby at_124) rfl rfl (l' := #[.val (.long p1), .second, .val (.long p2), .second, .val (.int p3), .val (.long (9007199254740991 : Int64)), .second, .val (.long v1), .second, .val (.int (p3 &&& (3 : Int32))), .val (.long v4), .second, .val (.ref c5), .unset]) rfl k) ?_
    show own_Ends p e below F (T5.setTop (mkF m 126 #[.val (.long p1), .second, .val (.long p2), .second, .val (.int p3), .val (.long (9007199254740991 : Int64)), .second, .val (.long v1), .second, .val (.int (p3 &&& (3 : Int32))), .val (.long v4), .second, .val (.ref c5), .unset] []))
    refine own_step (fun _ k => XS.lload X5.here hx rfl (hb hby at_126) rfl k) ?_
    show own_Ends p e below F (T5.setTop (mkF m 128 #[.val (.long p1), .second, .val (.long p2), .second, .val (.int p3), .val (.long (9007199254740991 : Int64)), .second, .val (.long v1), .second, .val (.int (p3 &&& (3 : Int32))), .val (.long v4), .second, .val (.ref c5), .unset] [(.long v4)]))
    refine own_step (fun _ k => XS.lload X5.here hx rfl (hb hby at_128) rfl k) ?_
    show own_Ends p e below F (T5.setTop (mkF m 130 #[.val (.long p1), .second, .val (.long p2), .second, .val (.int p3), .val (.long (9007199254740991 : Int64)), .second, .val (.long v1), .second, .val (.int (p3 &&& (3 : Int32))), .val (.long v4), .second, .val (.ref c5), .unset] [(.long (9007199254740991 : Int64)), (.long v4)]))
    refine own_step (fun _ k => XS.lload X5.here hx rfl (hb hby at_130) rfl k) ?_
    show own_Ends p e below F (T5.setTop (mkF m 132 #[.val (.long p1), .second, .val (.long p2), .second, .val (.int p3), .val (.long (9007199254740991 : Int64)), .second, .val (.long v1), .second, .val (.int (p3 &&& (3 : Int32))), .val (.long v4), .second, .val (.ref c5), .unset] [(.long v1), (.long (9007199254740991 : Int64)), (.long v4)]))
    refine own_step (fun _ k => XS.lsub X5.here hx rfl (hb hby at_132) rfl k) ?_
    show own_Ends p e below F (T5.setTop (mkF m 133 #[.val (.long p1), .second, .val (.long p2), .second, .val (.int p3), .val (.long (9007199254740991 : Int64)), .second, .val (.long v1), .second, .val (.int (p3 &&& (3 : Int32))), .val (.long v4), .second, .val (.ref c5), .unset] [(.long ((9007199254740991 : Int64) - v1)), (.long v4)]))
    refine own_step (fun _ k => XS.lcmp X5.here hx rfl (hb hby at_133) rfl k) ?_
    show own_Ends p e below F (T5.setTop (mkF m 134 #[.val (.long p1), .second, .val (.long p2), .second, .val (.int p3), .val (.long (9007199254740991 : Int64)), .second, .val (.long v1), .second, .val (.int (p3 &&& (3 : Int32))), .val (.long v4), .second, .val (.ref c5), .unset] [(.int (lcmpW v4 ((9007199254740991 : Int64) - v1)))]))
    by_cases c134_6 : ((9007199254740991 : Int64) - v1) < v4
    · refine own_step (fun _ k => XS.ifNo X5.here hx rfl (hb hby at_134) rfl ((if0 _ _).trans (tlt ((lw_gt _ _).mpr c134_6)).2.2.2) k) ?_
      show own_Ends p e below F (T5.setTop (mkF m 137 #[.val (.long p1), .second, .val (.long p2), .second, .val (.int p3), .val (.long (9007199254740991 : Int64)), .second, .val (.long v1), .second, .val (.int (p3 &&& (3 : Int32))), .val (.long v4), .second, .val (.ref c5), .unset] []))
      refine own_step (fun _ k => XS.aload X5.here hx rfl (hb hby at_137) rfl rfl k) ?_
      show own_Ends p e below F (T5.setTop (mkF m 139 #[.val (.long p1), .second, .val (.long p2), .second, .val (.int p3), .val (.long (9007199254740991 : Int64)), .second, .val (.long v1), .second, .val (.int (p3 &&& (3 : Int32))), .val (.long v4), .second, .val (.ref c5), .unset] [(.ref c5)]))
      obtain ⟨cq7, kq7, qa7, qb7, qc7⟩ := isOf hZ rfl fq0_5
      obtain ⟨_, _, ⟨T7, L7, k7, n7⟩, -, X7, ⟨Lc7, hQ7, l7, y7, z7⟩, st7⟩ := X5.virtualBack hx (y := (⟨"java/util/OptionalLong", "isPresent", "()Z"⟩ : MethodName)) (z := (⟨"java/util/OptionalLong", "isPresent", "()Z"⟩ : MethodName)) hown (mvT hZ (own_g hw 37 rfl)) (mvT hZ (own_g hw 38 rfl)) (notFace_of_selects (args := #[]) (mvT hZ (own_g hw 40 rfl))) (mvT hZ (own_g hw 40 rfl)) (mvT hZ (own_g hw 39 rfl)) (by decide) (backOf (W := 0) (rm9 l Z a0 hw [] c5 q5 T5.heap n0 Z5 fq1_5) hZ (own_g hw 41 rfl) (own_g hw 22 rfl) (by decide) (by decide)) qa7 qc7 (g := (mkF m 139 #[.val (.long p1), .second, .val (.long p2), .second, .val (.int p3), .val (.long (9007199254740991 : Int64)), .second, .val (.long v1), .second, .val (.int (p3 &&& (3 : Int32))), .val (.long v4), .second, .val (.ref c5), .unset] [(.ref c5)])) rfl (by rw [hml]; rfl) (Steps.refl _) (argsL := []) (rest := []) (lenOf pd__28_29Z rfl) rfl (by show 2 * 0 + _ ≤ _; exact Nat.le_of_eq rfl) (hb hby at_139) (fun _ _ => ⟨rfl, rfl, (by decide : 1 + 0 ≤ _), (by decide : 2 + 0 ≤ _)⟩)
      dsimp only [Pt.U, Pt.locs, Pt.cells, Pt.slots] at X7 l7 y7 z7 st7 hQ7
      subst l7 y7 z7
      obtain ⟨rfl, Nq7, eq7⟩ := hQ7
      have N7 := Fr.app N5 Nq7
      refine own_trans st7 ?_
      show own_Ends p e below F (T7.setTop (mkF m 142 #[.val (.long p1), .second, .val (.long p2), .second, .val (.int p3), .val (.long (9007199254740991 : Int64)), .second, .val (.long v1), .second, .val (.int (p3 &&& (3 : Int32))), .val (.long v4), .second, .val (.ref c5), .unset] [(.int (nar .boolean q5))]))
      refine own_step (fun _ k => XS.ifNo X7.here hx rfl (hb hby at_142) rfl ((if0 _ _).trans (teq (own_np0 fq3_5 (own_L1 _ _ hA hB c134_6) : (nar .boolean q5) = (0 : Int32))).2) k) ?_
      show own_Ends p e below F (T7.setTop (mkF m 145 #[.val (.long p1), .second, .val (.long p2), .second, .val (.int p3), .val (.long (9007199254740991 : Int64)), .second, .val (.long v1), .second, .val (.int (p3 &&& (3 : Int32))), .val (.long v4), .second, .val (.ref c5), .unset] []))
      refine own_step (fun _ k => XS.iconst X7.here hx rfl (hb hby at_145) k) ?_
      show own_Ends p e below F (T7.setTop (mkF m 146 #[.val (.long p1), .second, .val (.long p2), .second, .val (.int p3), .val (.long (9007199254740991 : Int64)), .second, .val (.long v1), .second, .val (.int (p3 &&& (3 : Int32))), .val (.long v4), .second, .val (.ref c5), .unset] [(.int (1 : Int32))]))
      refine own_step (fun _ k => XS.goto X7.here hx rfl (pc0 := 146) (pc' := 150) rfl (hb hby at_146) (by decide) (by decide) k) ?_
      show own_Ends p e below F (T7.setTop (mkF m 150 #[.val (.long p1), .second, .val (.long p2), .second, .val (.int p3), .val (.long (9007199254740991 : Int64)), .second, .val (.long v1), .second, .val (.int (p3 &&& (3 : Int32))), .val (.long v4), .second, .val (.ref c5), .unset] [(.int (1 : Int32))]))
      rw [hF]
      exact own_ret X7 (v := (some (.int (nar .boolean (1 : Int32))))) (fun h => by rw [Bd.returns] at h; cases h) Bd.notSynchronized (fun fs hr => retN X7 hx (t := .boolean) Bd.returns (by simp) (hb hby at_150) hr) (by decide) (by decide) (by rw [eq7]; exact ⟨rfl, N7⟩)
    · refine own_step (fun _ k => XS.ifYes X5.here hx rfl (pc0 := 134) (pc' := 151) rfl (hb hby at_134) rfl ((if0 _ _).trans (flt (fun q => c134_6 ((lw_gt _ _).mp q))).2.2.2) (by decide) (by decide) k) ?_
      show own_Ends p e below F (T5.setTop (mkF m 151 #[.val (.long p1), .second, .val (.long p2), .second, .val (.int p3), .val (.long (9007199254740991 : Int64)), .second, .val (.long v1), .second, .val (.int (p3 &&& (3 : Int32))), .val (.long v4), .second, .val (.ref c5), .unset] []))
      refine own_step (fun _ k => XS.aload X5.here hx rfl (hb hby at_151) rfl rfl k) ?_
      show own_Ends p e below F (T5.setTop (mkF m 153 #[.val (.long p1), .second, .val (.long p2), .second, .val (.int p3), .val (.long (9007199254740991 : Int64)), .second, .val (.long v1), .second, .val (.int (p3 &&& (3 : Int32))), .val (.long v4), .second, .val (.ref c5), .unset] [(.ref c5)]))
      obtain ⟨cq8, kq8, qa8, qb8, qc8⟩ := isOf hZ rfl fq0_5
      obtain ⟨_, _, ⟨T8, L8, k8, n8⟩, -, X8, ⟨Lc8, hQ8, l8, y8, z8⟩, st8⟩ := X5.virtualBack hx (y := (⟨"java/util/OptionalLong", "isPresent", "()Z"⟩ : MethodName)) (z := (⟨"java/util/OptionalLong", "isPresent", "()Z"⟩ : MethodName)) hown (mvT hZ (own_g hw 37 rfl)) (mvT hZ (own_g hw 38 rfl)) (notFace_of_selects (args := #[]) (mvT hZ (own_g hw 40 rfl))) (mvT hZ (own_g hw 40 rfl)) (mvT hZ (own_g hw 39 rfl)) (by decide) (backOf (W := 0) (rm9 l Z a0 hw [] c5 q5 T5.heap n0 Z5 fq1_5) hZ (own_g hw 41 rfl) (own_g hw 22 rfl) (by decide) (by decide)) qa8 qc8 (g := (mkF m 153 #[.val (.long p1), .second, .val (.long p2), .second, .val (.int p3), .val (.long (9007199254740991 : Int64)), .second, .val (.long v1), .second, .val (.int (p3 &&& (3 : Int32))), .val (.long v4), .second, .val (.ref c5), .unset] [(.ref c5)])) rfl (by rw [hml]; rfl) (Steps.refl _) (argsL := []) (rest := []) (lenOf pd__28_29Z rfl) rfl (by show 2 * 0 + _ ≤ _; exact Nat.le_of_eq rfl) (hb hby at_153) (fun _ _ => ⟨rfl, rfl, (by decide : 1 + 0 ≤ _), (by decide : 2 + 0 ≤ _)⟩)
      dsimp only [Pt.U, Pt.locs, Pt.cells, Pt.slots] at X8 l8 y8 z8 st8 hQ8
      subst l8 y8 z8
      obtain ⟨rfl, Nq8, eq8⟩ := hQ8
      have N8 := Fr.app N5 Nq8
      refine own_trans st8 ?_
      show own_Ends p e below F (T8.setTop (mkF m 156 #[.val (.long p1), .second, .val (.long p2), .second, .val (.int p3), .val (.long (9007199254740991 : Int64)), .second, .val (.long v1), .second, .val (.int (p3 &&& (3 : Int32))), .val (.long v4), .second, .val (.ref c5), .unset] [(.int (nar .boolean q5))]))
      refine own_step (fun _ k => XS.ifNo X8.here hx rfl (hb hby at_156) rfl ((if0 _ _).trans (feq (own_np1 fq3_5 (own_L2 _ _ hA hB c134_6) : ¬ ((nar .boolean q5) = (0 : Int32)))).1) k) ?_
      show own_Ends p e below F (T8.setTop (mkF m 159 #[.val (.long p1), .second, .val (.long p2), .second, .val (.int p3), .val (.long (9007199254740991 : Int64)), .second, .val (.long v1), .second, .val (.int (p3 &&& (3 : Int32))), .val (.long v4), .second, .val (.ref c5), .unset] []))
      have hs1 := own_L2 _ _ hA hB c134_6
      have hq1 := own_q1 fq3_5 hs1
      refine own_step (fun _ k => XS.aload X8.here hx rfl (hb hby at_159) rfl rfl k) ?_
      show own_Ends p e below F (T8.setTop (mkF m 161 #[.val (.long p1), .second, .val (.long p2), .second, .val (.int p3), .val (.long (9007199254740991 : Int64)), .second, .val (.long v1), .second, .val (.int (p3 &&& (3 : Int32))), .val (.long v4), .second, .val (.ref c5), .unset] [(.ref c5)]))
      obtain ⟨cq9, kq9, qa9, qb9, qc9⟩ := isOf hZ eq8 fq0_5
      obtain ⟨_, _, ⟨T9, L9, k9, n9⟩, -, X9, ⟨Lc9, hQ9, l9, y9, z9⟩, st9⟩ := X8.virtualBack hx (y := (⟨"java/util/OptionalLong", "getAsLong", "()J"⟩ : MethodName)) (z := (⟨"java/util/OptionalLong", "getAsLong", "()J"⟩ : MethodName)) hown (mvT hZ (own_g hw 42 rfl)) (mvT hZ (own_g hw 43 rfl)) (notFace_of_selects (args := #[]) (mvT hZ (own_g hw 45 rfl))) (mvT hZ (own_g hw 45 rfl)) (mvT hZ (own_g hw 44 rfl)) (by decide) (backOf (W := 0) (rm10 l Z a0 hw [] c5 q5 w5 T5.heap n0 Z5 fq1_5 fq2_5 hq1) hZ (own_g hw 46 rfl) (own_g hw 22 rfl) (by decide) (by decide)) qa9 qc9 (g := (mkF m 161 #[.val (.long p1), .second, .val (.long p2), .second, .val (.int p3), .val (.long (9007199254740991 : Int64)), .second, .val (.long v1), .second, .val (.int (p3 &&& (3 : Int32))), .val (.long v4), .second, .val (.ref c5), .unset] [(.ref c5)])) rfl (by rw [hml]; rfl) (Steps.refl _) (argsL := []) (rest := []) (lenOf pd__28_29J rfl) rfl (by show 2 * 0 + _ ≤ _; exact Nat.le_of_eq rfl) (hb hby at_161) (fun _ _ => ⟨rfl, eq8, (by decide : 1 + 0 ≤ _), (by decide : 2 + 0 ≤ _)⟩)
      dsimp only [Pt.U, Pt.locs, Pt.cells, Pt.slots] at X9 l9 y9 z9 st9 hQ9
      subst l9 y9 z9
      obtain ⟨rfl, Nq9, eq9⟩ := hQ9
      have N9 := Fr.app N8 Nq9
      refine own_trans st9 ?_
      show own_Ends p e below F (T9.setTop (mkF m 164 #[.val (.long p1), .second, .val (.long p2), .second, .val (.int p3), .val (.long (9007199254740991 : Int64)), .second, .val (.long v1), .second, .val (.int (p3 &&& (3 : Int32))), .val (.long v4), .second, .val (.ref c5), .unset] [(.long w5)]))
      refine own_step (fun _ k => XS.lload X9.here hx rfl (hb hby at_164) rfl k) ?_
      show own_Ends p e below F (T9.setTop (mkF m 166 #[.val (.long p1), .second, .val (.long p2), .second, .val (.int p3), .val (.long (9007199254740991 : Int64)), .second, .val (.long v1), .second, .val (.int (p3 &&& (3 : Int32))), .val (.long v4), .second, .val (.ref c5), .unset] [(.long v4), (.long w5)]))
      refine own_step (fun _ k => XS.lload X9.here hx rfl (hb hby at_166) rfl k) ?_
      show own_Ends p e below F (T9.setTop (mkF m 168 #[.val (.long p1), .second, .val (.long p2), .second, .val (.int p3), .val (.long (9007199254740991 : Int64)), .second, .val (.long v1), .second, .val (.int (p3 &&& (3 : Int32))), .val (.long v4), .second, .val (.ref c5), .unset] [(.long v1), (.long v4), (.long w5)]))
      refine own_step (fun _ k => XS.ladd X9.here hx rfl (hb hby at_168) rfl k) ?_
      show own_Ends p e below F (T9.setTop (mkF m 169 #[.val (.long p1), .second, .val (.long p2), .second, .val (.int p3), .val (.long (9007199254740991 : Int64)), .second, .val (.long v1), .second, .val (.int (p3 &&& (3 : Int32))), .val (.long v4), .second, .val (.ref c5), .unset] [(.long (v4 + v1)), (.long w5)]))
      refine own_step (fun _ k => XS.lcmp X9.here hx rfl (hb hby at_169) rfl k) ?_
      show own_Ends p e below F (T9.setTop (mkF m 170 #[.val (.long p1), .second, .val (.long p2), .second, .val (.int p3), .val (.long (9007199254740991 : Int64)), .second, .val (.long v1), .second, .val (.int (p3 &&& (3 : Int32))), .val (.long v4), .second, .val (.ref c5), .unset] [(.int (lcmpW w5 (v4 + v1)))]))
      refine own_step (fun _ k => XS.ifNo X9.here hx rfl (hb hby at_170) rfl ((if0 _ _).trans (teq ((lw_eq _ _).mpr (own_w fq4_5 hs1 : w5 = (v4 + v1)))).2) k) ?_
      show own_Ends p e below F (T9.setTop (mkF m 173 #[.val (.long p1), .second, .val (.long p2), .second, .val (.int p3), .val (.long (9007199254740991 : Int64)), .second, .val (.long v1), .second, .val (.int (p3 &&& (3 : Int32))), .val (.long v4), .second, .val (.ref c5), .unset] []))
      refine own_step (fun _ k => XS.iconst X9.here hx rfl (hb hby at_173) k) ?_
      show own_Ends p e below F (T9.setTop (mkF m 174 #[.val (.long p1), .second, .val (.long p2), .second, .val (.int p3), .val (.long (9007199254740991 : Int64)), .second, .val (.long v1), .second, .val (.int (p3 &&& (3 : Int32))), .val (.long v4), .second, .val (.ref c5), .unset] [(.int (1 : Int32))]))
      refine own_step (fun _ k => XS.goto X9.here hx rfl (pc0 := 174) (pc' := 178) rfl (hb hby at_174) (by decide) (by decide) k) ?_
      show own_Ends p e below F (T9.setTop (mkF m 178 #[.val (.long p1), .second, .val (.long p2), .second, .val (.int p3), .val (.long (9007199254740991 : Int64)), .second, .val (.long v1), .second, .val (.int (p3 &&& (3 : Int32))), .val (.long v4), .second, .val (.ref c5), .unset] [(.int (1 : Int32))]))
      rw [hF]
      exact own_ret X9 (v := (some (.int (nar .boolean (1 : Int32))))) (fun h => by rw [Bd.returns] at h; cases h) Bd.notSynchronized (fun fs hr => retN X9 hx (t := .boolean) Bd.returns (by simp) (hb hby at_178) hr) (by decide) (by decide) (by rw [eq9]; exact ⟨rfl, N9⟩)
  · refine own_step (fun _ k => XS.icmpYes X0.here hx rfl (pc0 := 26) (pc' := 58) rfl (hb hby at_26) rfl (feq c26_2).2 (by decide) (by decide) k) ?_
    show own_Ends p e below F (s₁.setTop (mkF m 58 #[.val (.long p1), .second, .val (.long p2), .second, .val (.int p3), .val (.long (9007199254740991 : Int64)), .second, .val (.long v1), .second, .val (.int (p3 &&& (3 : Int32))), .unset, .unset, .unset, .unset] []))
    refine own_step (fun _ k => XS.iload X0.here hx rfl (hb hby at_58) rfl k) ?_
    show own_Ends p e below F (s₁.setTop (mkF m 60 #[.val (.long p1), .second, .val (.long p2), .second, .val (.int p3), .val (.long (9007199254740991 : Int64)), .second, .val (.long v1), .second, .val (.int (p3 &&& (3 : Int32))), .unset, .unset, .unset, .unset] [(.int (p3 &&& (3 : Int32)))]))
    refine own_step (fun _ k => XS.iconst X0.here hx rfl (hb hby at_60) k) ?_
    show own_Ends p e below F (s₁.setTop (mkF m 61 #[.val (.long p1), .second, .val (.long p2), .second, .val (.int p3), .val (.long (9007199254740991 : Int64)), .second, .val (.long v1), .second, .val (.int (p3 &&& (3 : Int32))), .unset, .unset, .unset, .unset] [(.int (2 : Int32)), (.int (p3 &&& (3 : Int32)))]))
    by_cases c61_10 : (p3 &&& (3 : Int32)) = (2 : Int32)
    · refine own_step (fun _ k => XS.icmpNo X0.here hx rfl (hb hby at_61) rfl (teq c61_10).2 k) ?_
      show own_Ends p e below F (s₁.setTop (mkF m 64 #[.val (.long p1), .second, .val (.long p2), .second, .val (.int p3), .val (.long (9007199254740991 : Int64)), .second, .val (.long v1), .second, .val (.int (p3 &&& (3 : Int32))), .unset, .unset, .unset, .unset] []))
      refine own_step (fun _ k => XS.lload X0.here hx rfl (hb hby at_64) rfl k) ?_
      show own_Ends p e below F (s₁.setTop (mkF m 66 #[.val (.long p1), .second, .val (.long p2), .second, .val (.int p3), .val (.long (9007199254740991 : Int64)), .second, .val (.long v1), .second, .val (.int (p3 &&& (3 : Int32))), .unset, .unset, .unset, .unset] [(.long (9007199254740991 : Int64))]))
      refine own_step (fun _ k => XS.lneg X0.here hx rfl (hb hby at_66) rfl k) ?_
      show own_Ends p e below F (s₁.setTop (mkF m 67 #[.val (.long p1), .second, .val (.long p2), .second, .val (.int p3), .val (.long (9007199254740991 : Int64)), .second, .val (.long v1), .second, .val (.int (p3 &&& (3 : Int32))), .unset, .unset, .unset, .unset] [(.long (-(9007199254740991 : Int64)))]))
      refine own_step (fun _ k => XS.iload X0.here hx rfl (hb hby at_67) rfl k) ?_
      show own_Ends p e below F (s₁.setTop (mkF m 69 #[.val (.long p1), .second, .val (.long p2), .second, .val (.int p3), .val (.long (9007199254740991 : Int64)), .second, .val (.long v1), .second, .val (.int (p3 &&& (3 : Int32))), .unset, .unset, .unset, .unset] [(.int p3), (.long (-(9007199254740991 : Int64)))]))
      refine own_step (fun _ k => XS.iconst X0.here hx rfl (hb hby at_69) k) ?_
      show own_Ends p e below F (s₁.setTop (mkF m 70 #[.val (.long p1), .second, .val (.long p2), .second, .val (.int p3), .val (.long (9007199254740991 : Int64)), .second, .val (.long v1), .second, .val (.int (p3 &&& (3 : Int32))), .unset, .unset, .unset, .unset] [(.int (2 : Int32)), (.int p3), (.long (-(9007199254740991 : Int64)))]))
      refine own_step (fun _ k => XS.ishr X0.here hx rfl (hb hby at_70) rfl k) ?_
      show own_Ends p e below F (s₁.setTop (mkF m 71 #[.val (.long p1), .second, .val (.long p2), .second, .val (.int p3), .val (.long (9007199254740991 : Int64)), .second, .val (.long v1), .second, .val (.int (p3 &&& (3 : Int32))), .unset, .unset, .unset, .unset] [(.int (p3 >>> ((2 : Int32) &&& 31))), (.long (-(9007199254740991 : Int64)))]))
      refine own_step (fun _ k => XS.iconst X0.here hx rfl (hb hby at_71) k) ?_
      show own_Ends p e below F (s₁.setTop (mkF m 72 #[.val (.long p1), .second, .val (.long p2), .second, .val (.int p3), .val (.long (9007199254740991 : Int64)), .second, .val (.long v1), .second, .val (.int (p3 &&& (3 : Int32))), .unset, .unset, .unset, .unset] [(.int (3 : Int32)), (.int (p3 >>> ((2 : Int32) &&& 31))), (.long (-(9007199254740991 : Int64)))]))
      refine own_step (fun _ k => XS.iand X0.here hx rfl (hb hby at_72) rfl k) ?_
      show own_Ends p e below F (s₁.setTop (mkF m 73 #[.val (.long p1), .second, .val (.long p2), .second, .val (.int p3), .val (.long (9007199254740991 : Int64)), .second, .val (.long v1), .second, .val (.int (p3 &&& (3 : Int32))), .unset, .unset, .unset, .unset] [(.int ((p3 >>> ((2 : Int32) &&& 31)) &&& (3 : Int32))), (.long (-(9007199254740991 : Int64)))]))
      refine own_step (fun _ k => XS.i2l X0.here hx rfl (hb hby at_73) rfl k) ?_
      show own_Ends p e below F (s₁.setTop (mkF m 74 #[.val (.long p1), .second, .val (.long p2), .second, .val (.int p3), .val (.long (9007199254740991 : Int64)), .second, .val (.long v1), .second, .val (.int (p3 &&& (3 : Int32))), .unset, .unset, .unset, .unset] [(.long (((p3 >>> ((2 : Int32) &&& 31)) &&& (3 : Int32)).toInt64)), (.long (-(9007199254740991 : Int64)))]))
      refine own_step (fun _ k => XS.ladd X0.here hx rfl (hb hby at_74) rfl k) ?_
      show own_Ends p e below F (s₁.setTop (mkF m 75 #[.val (.long p1), .second, .val (.long p2), .second, .val (.int p3), .val (.long (9007199254740991 : Int64)), .second, .val (.long v1), .second, .val (.int (p3 &&& (3 : Int32))), .unset, .unset, .unset, .unset] [(.long ((-(9007199254740991 : Int64)) + (((p3 >>> ((2 : Int32) &&& 31)) &&& (3 : Int32)).toInt64)))]))
      obtain ⟨v11, ev11⟩ : ∃ z : Int64, z = ((-(9007199254740991 : Int64)) + (((p3 >>> ((2 : Int32) &&& 31)) &&& (3 : Int32)).toInt64)) := ⟨_, rfl⟩
      rw [← ev11]
      show own_Ends p e below F (s₁.setTop (mkF m 75 #[.val (.long p1), .second, .val (.long p2), .second, .val (.int p3), .val (.long (9007199254740991 : Int64)), .second, .val (.long v1), .second, .val (.int (p3 &&& (3 : Int32))), .unset, .unset, .unset, .unset] [(.long v11)]))
      refine own_step (fun _ k => XS.lstore X0.here hx rfl (hb hby at_75) rfl (l' := #[.val (.long p1), .second, .val (.long p2), .second, .val (.int p3), .val (.long (9007199254740991 : Int64)), .second, .val (.long v1), .second, .val (.int (p3 &&& (3 : Int32))), .val (.long v11), .second, .unset, .unset]) rfl k) ?_
      show own_Ends p e below F (s₁.setTop (mkF m 77 #[.val (.long p1), .second, .val (.long p2), .second, .val (.int p3), .val (.long (9007199254740991 : Int64)), .second, .val (.long v1), .second, .val (.int (p3 &&& (3 : Int32))), .val (.long v11), .second, .unset, .unset] []))
      refine own_step (fun _ k => XS.goto X0.here hx rfl (pc0 := 77) (pc' := 117) rfl (hb hby at_77) (by decide) (by decide) k) ?_
      show own_Ends p e below F (s₁.setTop (mkF m 117 #[.val (.long p1), .second, .val (.long p2), .second, .val (.int p3), .val (.long (9007199254740991 : Int64)), .second, .val (.long v1), .second, .val (.int (p3 &&& (3 : Int32))), .val (.long v11), .second, .unset, .unset] []))
      have hA : ¬ own_amt v1 = 0 := by rw [ev1]; exact own_A1 p2
      have hB : ¬ own_bal v11 = 0 := by rw [ev11]; exact own_B2 p3
      refine own_step (fun _ k => XS.lload X0.here hx rfl (hb hby at_117) rfl k) ?_
      show own_Ends p e below F (s₁.setTop (mkF m 119 #[.val (.long p1), .second, .val (.long p2), .second, .val (.int p3), .val (.long (9007199254740991 : Int64)), .second, .val (.long v1), .second, .val (.int (p3 &&& (3 : Int32))), .val (.long v11), .second, .unset, .unset] [(.long v11)]))
      refine own_step (fun _ k => XS.lload X0.here hx rfl (hb hby at_119) rfl k) ?_
      show own_Ends p e below F (s₁.setTop (mkF m 121 #[.val (.long p1), .second, .val (.long p2), .second, .val (.int p3), .val (.long (9007199254740991 : Int64)), .second, .val (.long v1), .second, .val (.int (p3 &&& (3 : Int32))), .val (.long v11), .second, .unset, .unset] [(.long v1), (.long v11)]))
      obtain ⟨_, _, ⟨T12, L12, k12, n12⟩, -, X12, ⟨Lc12, hQ12, l12, y12, z12⟩, st12⟩ := Jvm.LawKit.callS X0 hx (y := (⟨"com/example/pledger/pledger/model/Money", "credit", "(JJ)Ljava/util/OptionalLong;"⟩ : MethodName)) hown (mvT hZ (own_g hw 2 rfl)) (mvT hZ (own_g hw 3 rfl)) (mvT hZ (own_g hw 4 rfl)) (mvT hZ (own_g hw 5 rfl)) (by decide) (backOf (W := 0) (rm1 l Z a0 hw [] v11 v1 ee h0 n0 Z0 hA hB SE EE FP FV) hZ (own_g hw 5 rfl) (own_g hw 4 rfl) (by decide) (by decide)) (g := (mkF m 121 #[.val (.long p1), .second, .val (.long p2), .second, .val (.int p3), .val (.long (9007199254740991 : Int64)), .second, .val (.long v1), .second, .val (.int (p3 &&& (3 : Int32))), .val (.long v11), .second, .unset, .unset] [(.long v1), (.long v11)])) rfl (by rw [hml]; rfl) (argsL := [(.long v11), (.long v1)]) (rest := []) (lenOf pd__28JJ_29Ljava_2futil_2fOptionalLong_3b rfl) rfl (by show 2 * 0 + _ ≤ _; exact Nat.le_of_eq rfl) (hb hby at_121) (fun _ _ => ⟨rfl, e0, (by decide : 0 + 1 ≤ _), (by decide : 0 + 2 ≤ _)⟩)
      dsimp only [Pt.U, Pt.locs, Pt.cells, Pt.slots] at X12 l12 y12 z12 st12 hQ12
      subst l12 y12 z12
      obtain ⟨c12, q12, w12, rfl, Nq12, Kq12, fq0_12, fq1_12, fq2_12, fq3_12, fq4_12⟩ := hQ12
      have N12 := Fr.app N0 Nq12
      have Z12 : n0 ≤ T12.heap.size := Nat.le_trans Z0 Kq12.1
      have SZ12 : h0.size ≤ T12.heap.size := Nat.le_trans (Nat.le_refl h0.size) Kq12.1
      have S0_12 := own_Sta_keep SE Kq12 all0
      refine own_step st12 ?_
      show own_Ends p e below F (T12.setTop (mkF m 124 #[.val (.long p1), .second, .val (.long p2), .second, .val (.int p3), .val (.long (9007199254740991 : Int64)), .second, .val (.long v1), .second, .val (.int (p3 &&& (3 : Int32))), .val (.long v11), .second, .unset, .unset] [(.ref c12)]))
      refine own_step (fun _ k => XS.astore X12.here hx rfl (hb hby at_124) rfl rfl (l' := #[.val (.long p1), .second, .val (.long p2), .second, .val (.int p3), .val (.long (9007199254740991 : Int64)), .second, .val (.long v1), .second, .val (.int (p3 &&& (3 : Int32))), .val (.long v11), .second, .val (.ref c12), .unset]) rfl k) ?_
      show own_Ends p e below F (T12.setTop (mkF m 126 #[.val (.long p1), .second, .val (.long p2), .second, .val (.int p3), .val (.long (9007199254740991 : Int64)), .second, .val (.long v1), .second, .val (.int (p3 &&& (3 : Int32))), .val (.long v11), .second, .val (.ref c12), .unset] []))
      refine own_step (fun _ k => XS.lload X12.here hx rfl (hb hby at_126) rfl k) ?_
      show own_Ends p e below F (T12.setTop (mkF m 128 #[.val (.long p1), .second, .val (.long p2), .second, .val (.int p3), .val (.long (9007199254740991 : Int64)), .second, .val (.long v1), .second, .val (.int (p3 &&& (3 : Int32))), .val (.long v11), .second, .val (.ref c12), .unset] [(.long v11)]))
      refine own_step (fun _ k => XS.lload X12.here hx rfl (hb hby at_128) rfl k) ?_
      show own_Ends p e below F (T12.setTop (mkF m 130 #[.val (.long p1), .second, .val (.long p2), .second, .val (.int p3), .val (.long (9007199254740991 : Int64)), .second, .val (.long v1), .second, .val (.int (p3 &&& (3 : Int32))), .val (.long v11), .second, .val (.ref c12), .unset] [(.long (9007199254740991 : Int64)), (.long v11)]))
      refine own_step (fun _ k => XS.lload X12.here hx rfl (hb hby at_130) rfl k) ?_
      show own_Ends p e below F (T12.setTop (mkF m 132 #[.val (.long p1), .second, .val (.long p2), .second, .val (.int p3), .val (.long (9007199254740991 : Int64)), .second, .val (.long v1), .second, .val (.int (p3 &&& (3 : Int32))), .val (.long v11), .second, .val (.ref c12), .unset] [(.long v1), (.long (9007199254740991 : Int64)), (.long v11)]))
      refine own_step (fun _ k => XS.lsub X12.here hx rfl (hb hby at_132) rfl k) ?_
      show own_Ends p e below F (T12.setTop (mkF m 133 #[.val (.long p1), .second, .val (.long p2), .second, .val (.int p3), .val (.long (9007199254740991 : Int64)), .second, .val (.long v1), .second, .val (.int (p3 &&& (3 : Int32))), .val (.long v11), .second, .val (.ref c12), .unset] [(.long ((9007199254740991 : Int64) - v1)), (.long v11)]))
      refine own_step (fun _ k => XS.lcmp X12.here hx rfl (hb hby at_133) rfl k) ?_
      show own_Ends p e below F (T12.setTop (mkF m 134 #[.val (.long p1), .second, .val (.long p2), .second, .val (.int p3), .val (.long (9007199254740991 : Int64)), .second, .val (.long v1), .second, .val (.int (p3 &&& (3 : Int32))), .val (.long v11), .second, .val (.ref c12), .unset] [(.int (lcmpW v11 ((9007199254740991 : Int64) - v1)))]))
      by_cases c134_13 : ((9007199254740991 : Int64) - v1) < v11
      · refine own_step (fun _ k => XS.ifNo X12.here hx rfl (hb hby at_134) rfl ((if0 _ _).trans (tlt ((lw_gt _ _).mpr c134_13)).2.2.2) k) ?_
        show own_Ends p e below F (T12.setTop (mkF m 137 #[.val (.long p1), .second, .val (.long p2), .second, .val (.int p3), .val (.long (9007199254740991 : Int64)), .second, .val (.long v1), .second, .val (.int (p3 &&& (3 : Int32))), .val (.long v11), .second, .val (.ref c12), .unset] []))
        refine own_step (fun _ k => XS.aload X12.here hx rfl (hb hby at_137) rfl rfl k) ?_
        show own_Ends p e below F (T12.setTop (mkF m 139 #[.val (.long p1), .second, .val (.long p2), .second, .val (.int p3), .val (.long (9007199254740991 : Int64)), .second, .val (.long v1), .second, .val (.int (p3 &&& (3 : Int32))), .val (.long v11), .second, .val (.ref c12), .unset] [(.ref c12)]))
        obtain ⟨cq14, kq14, qa14, qb14, qc14⟩ := isOf hZ rfl fq0_12
        obtain ⟨_, _, ⟨T14, L14, k14, n14⟩, -, X14, ⟨Lc14, hQ14, l14, y14, z14⟩, st14⟩ := X12.virtualBack hx (y := (⟨"java/util/OptionalLong", "isPresent", "()Z"⟩ : MethodName)) (z := (⟨"java/util/OptionalLong", "isPresent", "()Z"⟩ : MethodName)) hown (mvT hZ (own_g hw 37 rfl)) (mvT hZ (own_g hw 38 rfl)) (notFace_of_selects (args := #[]) (mvT hZ (own_g hw 40 rfl))) (mvT hZ (own_g hw 40 rfl)) (mvT hZ (own_g hw 39 rfl)) (by decide) (backOf (W := 0) (rm9 l Z a0 hw [] c12 q12 T12.heap n0 Z12 fq1_12) hZ (own_g hw 41 rfl) (own_g hw 22 rfl) (by decide) (by decide)) qa14 qc14 (g := (mkF m 139 #[.val (.long p1), .second, .val (.long p2), .second, .val (.int p3), .val (.long (9007199254740991 : Int64)), .second, .val (.long v1), .second, .val (.int (p3 &&& (3 : Int32))), .val (.long v11), .second, .val (.ref c12), .unset] [(.ref c12)])) rfl (by rw [hml]; rfl) (Steps.refl _) (argsL := []) (rest := []) (lenOf pd__28_29Z rfl) rfl (by show 2 * 0 + _ ≤ _; exact Nat.le_of_eq rfl) (hb hby at_139) (fun _ _ => ⟨rfl, rfl, (by decide : 1 + 0 ≤ _), (by decide : 2 + 0 ≤ _)⟩)
        dsimp only [Pt.U, Pt.locs, Pt.cells, Pt.slots] at X14 l14 y14 z14 st14 hQ14
        subst l14 y14 z14
        obtain ⟨rfl, Nq14, eq14⟩ := hQ14
        have N14 := Fr.app N12 Nq14
        refine own_trans st14 ?_
        show own_Ends p e below F (T14.setTop (mkF m 142 #[.val (.long p1), .second, .val (.long p2), .second, .val (.int p3), .val (.long (9007199254740991 : Int64)), .second, .val (.long v1), .second, .val (.int (p3 &&& (3 : Int32))), .val (.long v11), .second, .val (.ref c12), .unset] [(.int (nar .boolean q12))]))
        refine own_step (fun _ k => XS.ifNo X14.here hx rfl (hb hby at_142) rfl ((if0 _ _).trans (teq (own_np0 fq3_12 (own_L1 _ _ hA hB c134_13) : (nar .boolean q12) = (0 : Int32))).2) k) ?_
        show own_Ends p e below F (T14.setTop (mkF m 145 #[.val (.long p1), .second, .val (.long p2), .second, .val (.int p3), .val (.long (9007199254740991 : Int64)), .second, .val (.long v1), .second, .val (.int (p3 &&& (3 : Int32))), .val (.long v11), .second, .val (.ref c12), .unset] []))
        refine own_step (fun _ k => XS.iconst X14.here hx rfl (hb hby at_145) k) ?_
        show own_Ends p e below F (T14.setTop (mkF m 146 #[.val (.long p1), .second, .val (.long p2), .second, .val (.int p3), .val (.long (9007199254740991 : Int64)), .second, .val (.long v1), .second, .val (.int (p3 &&& (3 : Int32))), .val (.long v11), .second, .val (.ref c12), .unset] [(.int (1 : Int32))]))
        refine own_step (fun _ k => XS.goto X14.here hx rfl (pc0 := 146) (pc' := 150) rfl (hb hby at_146) (by decide) (by decide) k) ?_
        show own_Ends p e below F (T14.setTop (mkF m 150 #[.val (.long p1), .second, .val (.long p2), .second, .val (.int p3), .val (.long (9007199254740991 : Int64)), .second, .val (.long v1), .second, .val (.int (p3 &&& (3 : Int32))), .val (.long v11), .second, .val (.ref c12), .unset] [(.int (1 : Int32))]))
        rw [hF]
        exact own_ret X14 (v := (some (.int (nar .boolean (1 : Int32))))) (fun h => by rw [Bd.returns] at h; cases h) Bd.notSynchronized (fun fs hr => retN X14 hx (t := .boolean) Bd.returns (by simp) (hb hby at_150) hr) (by decide) (by decide) (by rw [eq14]; exact ⟨rfl, N14⟩)
      · refine own_step (fun _ k => XS.ifYes X12.here hx rfl (pc0 := 134) (pc' := 151) rfl (hb hby at_134) rfl ((if0 _ _).trans (flt (fun q => c134_13 ((lw_gt _ _).mp q))).2.2.2) (by decide) (by decide) k) ?_
        show own_Ends p e below F (T12.setTop (mkF m 151 #[.val (.long p1), .second, .val (.long p2), .second, .val (.int p3), .val (.long (9007199254740991 : Int64)), .second, .val (.long v1), .second, .val (.int (p3 &&& (3 : Int32))), .val (.long v11), .second, .val (.ref c12), .unset] []))
        refine own_step (fun _ k => XS.aload X12.here hx rfl (hb hby at_151) rfl rfl k) ?_
        show own_Ends p e below F (T12.setTop (mkF m 153 #[.val (.long p1), .second, .val (.long p2), .second, .val (.int p3), .val (.long (9007199254740991 : Int64)), .second, .val (.long v1), .second, .val (.int (p3 &&& (3 : Int32))), .val (.long v11), .second, .val (.ref c12), .unset] [(.ref c12)]))
        obtain ⟨cq15, kq15, qa15, qb15, qc15⟩ := isOf hZ rfl fq0_12
        obtain ⟨_, _, ⟨T15, L15, k15, n15⟩, -, X15, ⟨Lc15, hQ15, l15, y15, z15⟩, st15⟩ := X12.virtualBack hx (y := (⟨"java/util/OptionalLong", "isPresent", "()Z"⟩ : MethodName)) (z := (⟨"java/util/OptionalLong", "isPresent", "()Z"⟩ : MethodName)) hown (mvT hZ (own_g hw 37 rfl)) (mvT hZ (own_g hw 38 rfl)) (notFace_of_selects (args := #[]) (mvT hZ (own_g hw 40 rfl))) (mvT hZ (own_g hw 40 rfl)) (mvT hZ (own_g hw 39 rfl)) (by decide) (backOf (W := 0) (rm9 l Z a0 hw [] c12 q12 T12.heap n0 Z12 fq1_12) hZ (own_g hw 41 rfl) (own_g hw 22 rfl) (by decide) (by decide)) qa15 qc15 (g := (mkF m 153 #[.val (.long p1), .second, .val (.long p2), .second, .val (.int p3), .val (.long (9007199254740991 : Int64)), .second, .val (.long v1), .second, .val (.int (p3 &&& (3 : Int32))), .val (.long v11), .second, .val (.ref c12), .unset] [(.ref c12)])) rfl (by rw [hml]; rfl) (Steps.refl _) (argsL := []) (rest := []) (lenOf pd__28_29Z rfl) rfl (by show 2 * 0 + _ ≤ _; exact Nat.le_of_eq rfl) (hb hby at_153) (fun _ _ => ⟨rfl, rfl, (by decide : 1 + 0 ≤ _), (by decide : 2 + 0 ≤ _)⟩)
        dsimp only [Pt.U, Pt.locs, Pt.cells, Pt.slots] at X15 l15 y15 z15 st15 hQ15
        subst l15 y15 z15
        obtain ⟨rfl, Nq15, eq15⟩ := hQ15
        have N15 := Fr.app N12 Nq15
        refine own_trans st15 ?_
        show own_Ends p e below F (T15.setTop (mkF m 156 #[.val (.long p1), .second, .val (.long p2), .second, .val (.int p3), .val (.long (9007199254740991 : Int64)), .second, .val (.long v1), .second, .val (.int (p3 &&& (3 : Int32))), .val (.long v11), .second, .val (.ref c12), .unset] [(.int (nar .boolean q12))]))
        refine own_step (fun _ k => XS.ifNo X15.here hx rfl (hb hby at_156) rfl ((if0 _ _).trans (feq (own_np1 fq3_12 (own_L2 _ _ hA hB c134_13) : ¬ ((nar .boolean q12) = (0 : Int32)))).1) k) ?_
        show own_Ends p e below F (T15.setTop (mkF m 159 #[.val (.long p1), .second, .val (.long p2), .second, .val (.int p3), .val (.long (9007199254740991 : Int64)), .second, .val (.long v1), .second, .val (.int (p3 &&& (3 : Int32))), .val (.long v11), .second, .val (.ref c12), .unset] []))
        have hs1 := own_L2 _ _ hA hB c134_13
        have hq1 := own_q1 fq3_12 hs1
        refine own_step (fun _ k => XS.aload X15.here hx rfl (hb hby at_159) rfl rfl k) ?_
        show own_Ends p e below F (T15.setTop (mkF m 161 #[.val (.long p1), .second, .val (.long p2), .second, .val (.int p3), .val (.long (9007199254740991 : Int64)), .second, .val (.long v1), .second, .val (.int (p3 &&& (3 : Int32))), .val (.long v11), .second, .val (.ref c12), .unset] [(.ref c12)]))
        obtain ⟨cq16, kq16, qa16, qb16, qc16⟩ := isOf hZ eq15 fq0_12
        obtain ⟨_, _, ⟨T16, L16, k16, n16⟩, -, X16, ⟨Lc16, hQ16, l16, y16, z16⟩, st16⟩ := X15.virtualBack hx (y := (⟨"java/util/OptionalLong", "getAsLong", "()J"⟩ : MethodName)) (z := (⟨"java/util/OptionalLong", "getAsLong", "()J"⟩ : MethodName)) hown (mvT hZ (own_g hw 42 rfl)) (mvT hZ (own_g hw 43 rfl)) (notFace_of_selects (args := #[]) (mvT hZ (own_g hw 45 rfl))) (mvT hZ (own_g hw 45 rfl)) (mvT hZ (own_g hw 44 rfl)) (by decide) (backOf (W := 0) (rm10 l Z a0 hw [] c12 q12 w12 T12.heap n0 Z12 fq1_12 fq2_12 hq1) hZ (own_g hw 46 rfl) (own_g hw 22 rfl) (by decide) (by decide)) qa16 qc16 (g := (mkF m 161 #[.val (.long p1), .second, .val (.long p2), .second, .val (.int p3), .val (.long (9007199254740991 : Int64)), .second, .val (.long v1), .second, .val (.int (p3 &&& (3 : Int32))), .val (.long v11), .second, .val (.ref c12), .unset] [(.ref c12)])) rfl (by rw [hml]; rfl) (Steps.refl _) (argsL := []) (rest := []) (lenOf pd__28_29J rfl) rfl (by show 2 * 0 + _ ≤ _; exact Nat.le_of_eq rfl) (hb hby at_161) (fun _ _ => ⟨rfl, eq15, (by decide : 1 + 0 ≤ _), (by decide : 2 + 0 ≤ _)⟩)
        dsimp only [Pt.U, Pt.locs, Pt.cells, Pt.slots] at X16 l16 y16 z16 st16 hQ16
        subst l16 y16 z16
        obtain ⟨rfl, Nq16, eq16⟩ := hQ16
        have N16 := Fr.app N15 Nq16
        refine own_trans st16 ?_
        show own_Ends p e below F (T16.setTop (mkF m 164 #[.val (.long p1), .second, .val (.long p2), .second, .val (.int p3), .val (.long (9007199254740991 : Int64)), .second, .val (.long v1), .second, .val (.int (p3 &&& (3 : Int32))), .val (.long v11), .second, .val (.ref c12), .unset] [(.long w12)]))
        refine own_step (fun _ k => XS.lload X16.here hx rfl (hb hby at_164) rfl k) ?_
        show own_Ends p e below F (T16.setTop (mkF m 166 #[.val (.long p1), .second, .val (.long p2), .second, .val (.int p3), .val (.long (9007199254740991 : Int64)), .second, .val (.long v1), .second, .val (.int (p3 &&& (3 : Int32))), .val (.long v11), .second, .val (.ref c12), .unset] [(.long v11), (.long w12)]))
        refine own_step (fun _ k => XS.lload X16.here hx rfl (hb hby at_166) rfl k) ?_
        show own_Ends p e below F (T16.setTop (mkF m 168 #[.val (.long p1), .second, .val (.long p2), .second, .val (.int p3), .val (.long (9007199254740991 : Int64)), .second, .val (.long v1), .second, .val (.int (p3 &&& (3 : Int32))), .val (.long v11), .second, .val (.ref c12), .unset] [(.long v1), (.long v11), (.long w12)]))
        refine own_step (fun _ k => XS.ladd X16.here hx rfl (hb hby at_168) rfl k) ?_
        show own_Ends p e below F (T16.setTop (mkF m 169 #[.val (.long p1), .second, .val (.long p2), .second, .val (.int p3), .val (.long (9007199254740991 : Int64)), .second, .val (.long v1), .second, .val (.int (p3 &&& (3 : Int32))), .val (.long v11), .second, .val (.ref c12), .unset] [(.long (v11 + v1)), (.long w12)]))
        refine own_step (fun _ k => XS.lcmp X16.here hx rfl (hb hby at_169) rfl k) ?_
        show own_Ends p e below F (T16.setTop (mkF m 170 #[.val (.long p1), .second, .val (.long p2), .second, .val (.int p3), .val (.long (9007199254740991 : Int64)), .second, .val (.long v1), .second, .val (.int (p3 &&& (3 : Int32))), .val (.long v11), .second, .val (.ref c12), .unset] [(.int (lcmpW w12 (v11 + v1)))]))
        refine own_step (fun _ k => XS.ifNo X16.here hx rfl (hb hby at_170) rfl ((if0 _ _).trans (teq ((lw_eq _ _).mpr (own_w fq4_12 hs1 : w12 = (v11 + v1)))).2) k) ?_
        show own_Ends p e below F (T16.setTop (mkF m 173 #[.val (.long p1), .second, .val (.long p2), .second, .val (.int p3), .val (.long (9007199254740991 : Int64)), .second, .val (.long v1), .second, .val (.int (p3 &&& (3 : Int32))), .val (.long v11), .second, .val (.ref c12), .unset] []))
        refine own_step (fun _ k => XS.iconst X16.here hx rfl (hb hby at_173) k) ?_
        show own_Ends p e below F (T16.setTop (mkF m 174 #[.val (.long p1), .second, .val (.long p2), .second, .val (.int p3), .val (.long (9007199254740991 : Int64)), .second, .val (.long v1), .second, .val (.int (p3 &&& (3 : Int32))), .val (.long v11), .second, .val (.ref c12), .unset] [(.int (1 : Int32))]))
        refine own_step (fun _ k => XS.goto X16.here hx rfl (pc0 := 174) (pc' := 178) rfl (hb hby at_174) (by decide) (by decide) k) ?_
        show own_Ends p e below F (T16.setTop (mkF m 178 #[.val (.long p1), .second, .val (.long p2), .second, .val (.int p3), .val (.long (9007199254740991 : Int64)), .second, .val (.long v1), .second, .val (.int (p3 &&& (3 : Int32))), .val (.long v11), .second, .val (.ref c12), .unset] [(.int (1 : Int32))]))
        rw [hF]
        exact own_ret X16 (v := (some (.int (nar .boolean (1 : Int32))))) (fun h => by rw [Bd.returns] at h; cases h) Bd.notSynchronized (fun fs hr => retN X16 hx (t := .boolean) Bd.returns (by simp) (hb hby at_178) hr) (by decide) (by decide) (by rw [eq16]; exact ⟨rfl, N16⟩)
    · refine own_step (fun _ k => XS.icmpYes X0.here hx rfl (pc0 := 61) (pc' := 80) rfl (hb hby at_61) rfl (feq c61_10).2 (by decide) (by decide) k) ?_
      show own_Ends p e below F (s₁.setTop (mkF m 80 #[.val (.long p1), .second, .val (.long p2), .second, .val (.int p3), .val (.long (9007199254740991 : Int64)), .second, .val (.long v1), .second, .val (.int (p3 &&& (3 : Int32))), .unset, .unset, .unset, .unset] []))
      refine own_step (fun _ k => XS.iload X0.here hx rfl (hb hby at_80) rfl k) ?_
      show own_Ends p e below F (s₁.setTop (mkF m 82 #[.val (.long p1), .second, .val (.long p2), .second, .val (.int p3), .val (.long (9007199254740991 : Int64)), .second, .val (.long v1), .second, .val (.int (p3 &&& (3 : Int32))), .unset, .unset, .unset, .unset] [(.int (p3 &&& (3 : Int32)))]))
      refine own_step (fun _ k => XS.iconst X0.here hx rfl (hb hby at_82) k) ?_
      show own_Ends p e below F (s₁.setTop (mkF m 83 #[.val (.long p1), .second, .val (.long p2), .second, .val (.int p3), .val (.long (9007199254740991 : Int64)), .second, .val (.long v1), .second, .val (.int (p3 &&& (3 : Int32))), .unset, .unset, .unset, .unset] [(.int (3 : Int32)), (.int (p3 &&& (3 : Int32)))]))
      by_cases c83_17 : (p3 &&& (3 : Int32)) = (3 : Int32)
      · refine own_step (fun _ k => XS.icmpNo X0.here hx rfl (hb hby at_83) rfl (teq c83_17).2 k) ?_
        show own_Ends p e below F (s₁.setTop (mkF m 86 #[.val (.long p1), .second, .val (.long p2), .second, .val (.int p3), .val (.long (9007199254740991 : Int64)), .second, .val (.long v1), .second, .val (.int (p3 &&& (3 : Int32))), .unset, .unset, .unset, .unset] []))
        refine own_step (fun _ k => XS.lload X0.here hx rfl (hb hby at_86) rfl k) ?_
        show own_Ends p e below F (s₁.setTop (mkF m 88 #[.val (.long p1), .second, .val (.long p2), .second, .val (.int p3), .val (.long (9007199254740991 : Int64)), .second, .val (.long v1), .second, .val (.int (p3 &&& (3 : Int32))), .unset, .unset, .unset, .unset] [(.long (9007199254740991 : Int64))]))
        refine own_step (fun _ k => XS.iload X0.here hx rfl (hb hby at_88) rfl k) ?_
        show own_Ends p e below F (s₁.setTop (mkF m 90 #[.val (.long p1), .second, .val (.long p2), .second, .val (.int p3), .val (.long (9007199254740991 : Int64)), .second, .val (.long v1), .second, .val (.int (p3 &&& (3 : Int32))), .unset, .unset, .unset, .unset] [(.int p3), (.long (9007199254740991 : Int64))]))
        refine own_step (fun _ k => XS.iconst X0.here hx rfl (hb hby at_90) k) ?_
        show own_Ends p e below F (s₁.setTop (mkF m 91 #[.val (.long p1), .second, .val (.long p2), .second, .val (.int p3), .val (.long (9007199254740991 : Int64)), .second, .val (.long v1), .second, .val (.int (p3 &&& (3 : Int32))), .unset, .unset, .unset, .unset] [(.int (2 : Int32)), (.int p3), (.long (9007199254740991 : Int64))]))
        refine own_step (fun _ k => XS.ishr X0.here hx rfl (hb hby at_91) rfl k) ?_
        show own_Ends p e below F (s₁.setTop (mkF m 92 #[.val (.long p1), .second, .val (.long p2), .second, .val (.int p3), .val (.long (9007199254740991 : Int64)), .second, .val (.long v1), .second, .val (.int (p3 &&& (3 : Int32))), .unset, .unset, .unset, .unset] [(.int (p3 >>> ((2 : Int32) &&& 31))), (.long (9007199254740991 : Int64))]))
        refine own_step (fun _ k => XS.iconst X0.here hx rfl (hb hby at_92) k) ?_
        show own_Ends p e below F (s₁.setTop (mkF m 93 #[.val (.long p1), .second, .val (.long p2), .second, .val (.int p3), .val (.long (9007199254740991 : Int64)), .second, .val (.long v1), .second, .val (.int (p3 &&& (3 : Int32))), .unset, .unset, .unset, .unset] [(.int (1 : Int32)), (.int (p3 >>> ((2 : Int32) &&& 31))), (.long (9007199254740991 : Int64))]))
        refine own_step (fun _ k => XS.iand X0.here hx rfl (hb hby at_93) rfl k) ?_
        show own_Ends p e below F (s₁.setTop (mkF m 94 #[.val (.long p1), .second, .val (.long p2), .second, .val (.int p3), .val (.long (9007199254740991 : Int64)), .second, .val (.long v1), .second, .val (.int (p3 &&& (3 : Int32))), .unset, .unset, .unset, .unset] [(.int ((p3 >>> ((2 : Int32) &&& 31)) &&& (1 : Int32))), (.long (9007199254740991 : Int64))]))
        refine own_step (fun _ k => XS.i2l X0.here hx rfl (hb hby at_94) rfl k) ?_
        show own_Ends p e below F (s₁.setTop (mkF m 95 #[.val (.long p1), .second, .val (.long p2), .second, .val (.int p3), .val (.long (9007199254740991 : Int64)), .second, .val (.long v1), .second, .val (.int (p3 &&& (3 : Int32))), .unset, .unset, .unset, .unset] [(.long (((p3 >>> ((2 : Int32) &&& 31)) &&& (1 : Int32)).toInt64)), (.long (9007199254740991 : Int64))]))
        refine own_step (fun _ k => XS.lsub X0.here hx rfl (hb hby at_95) rfl k) ?_
        show own_Ends p e below F (s₁.setTop (mkF m 96 #[.val (.long p1), .second, .val (.long p2), .second, .val (.int p3), .val (.long (9007199254740991 : Int64)), .second, .val (.long v1), .second, .val (.int (p3 &&& (3 : Int32))), .unset, .unset, .unset, .unset] [(.long ((9007199254740991 : Int64) - (((p3 >>> ((2 : Int32) &&& 31)) &&& (1 : Int32)).toInt64)))]))
        obtain ⟨v18, ev18⟩ : ∃ z : Int64, z = ((9007199254740991 : Int64) - (((p3 >>> ((2 : Int32) &&& 31)) &&& (1 : Int32)).toInt64)) := ⟨_, rfl⟩
        rw [← ev18]
        show own_Ends p e below F (s₁.setTop (mkF m 96 #[.val (.long p1), .second, .val (.long p2), .second, .val (.int p3), .val (.long (9007199254740991 : Int64)), .second, .val (.long v1), .second, .val (.int (p3 &&& (3 : Int32))), .unset, .unset, .unset, .unset] [(.long v18)]))
        refine own_step (fun _ k => XS.lstore X0.here hx rfl (hb hby at_96) rfl (l' := #[.val (.long p1), .second, .val (.long p2), .second, .val (.int p3), .val (.long (9007199254740991 : Int64)), .second, .val (.long v18), .second, .val (.int (p3 &&& (3 : Int32))), .unset, .unset, .unset, .unset]) rfl k) ?_
        show own_Ends p e below F (s₁.setTop (mkF m 98 #[.val (.long p1), .second, .val (.long p2), .second, .val (.int p3), .val (.long (9007199254740991 : Int64)), .second, .val (.long v18), .second, .val (.int (p3 &&& (3 : Int32))), .unset, .unset, .unset, .unset] []))
        refine own_step (fun _ k => XS.lloadN X0.here hx rfl (hb hby at_98) rfl k) ?_
        show own_Ends p e below F (s₁.setTop (mkF m 99 #[.val (.long p1), .second, .val (.long p2), .second, .val (.int p3), .val (.long (9007199254740991 : Int64)), .second, .val (.long v18), .second, .val (.int (p3 &&& (3 : Int32))), .unset, .unset, .unset, .unset] [(.long p1)]))
        refine own_step (fun _ k => XS.lload X0.here hx rfl (hb hby at_99) rfl k) ?_
        show own_Ends p e below F (s₁.setTop (mkF m 101 #[.val (.long p1), .second, .val (.long p2), .second, .val (.int p3), .val (.long (9007199254740991 : Int64)), .second, .val (.long v18), .second, .val (.int (p3 &&& (3 : Int32))), .unset, .unset, .unset, .unset] [(.long (9007199254740991 : Int64)), (.long p1)]))
        refine own_step (fun _ k => XS.lconst X0.here hx rfl (hb hby at_101) k) ?_
        show own_Ends p e below F (s₁.setTop (mkF m 102 #[.val (.long p1), .second, .val (.long p2), .second, .val (.int p3), .val (.long (9007199254740991 : Int64)), .second, .val (.long v18), .second, .val (.int (p3 &&& (3 : Int32))), .unset, .unset, .unset, .unset] [(.long (1 : Int64)), (.long (9007199254740991 : Int64)), (.long p1)]))
        refine own_step (fun _ k => XS.ladd X0.here hx rfl (hb hby at_102) rfl k) ?_
        show own_Ends p e below F (s₁.setTop (mkF m 103 #[.val (.long p1), .second, .val (.long p2), .second, .val (.int p3), .val (.long (9007199254740991 : Int64)), .second, .val (.long v18), .second, .val (.int (p3 &&& (3 : Int32))), .unset, .unset, .unset, .unset] [(.long (9007199254740992 : Int64)), (.long p1)]))
        refine own_step (fun _ k => XS.lrem X0.here hx rfl (hb hby at_103) rfl (by decide) k) ?_
        show own_Ends p e below F (s₁.setTop (mkF m 104 #[.val (.long p1), .second, .val (.long p2), .second, .val (.int p3), .val (.long (9007199254740991 : Int64)), .second, .val (.long v18), .second, .val (.int (p3 &&& (3 : Int32))), .unset, .unset, .unset, .unset] [(.long (p1 - (p1 / (9007199254740992 : Int64)) * (9007199254740992 : Int64)))]))
        obtain ⟨v19, ev19⟩ : ∃ z : Int64, z = (p1 - (p1 / (9007199254740992 : Int64)) * (9007199254740992 : Int64)) := ⟨_, rfl⟩
        rw [← ev19]
        show own_Ends p e below F (s₁.setTop (mkF m 104 #[.val (.long p1), .second, .val (.long p2), .second, .val (.int p3), .val (.long (9007199254740991 : Int64)), .second, .val (.long v18), .second, .val (.int (p3 &&& (3 : Int32))), .unset, .unset, .unset, .unset] [(.long v19)]))
        refine own_step (fun _ k => XS.lstore X0.here hx rfl (hb hby at_104) rfl (l' := #[.val (.long p1), .second, .val (.long p2), .second, .val (.int p3), .val (.long (9007199254740991 : Int64)), .second, .val (.long v18), .second, .val (.int (p3 &&& (3 : Int32))), .val (.long v19), .second, .unset, .unset]) rfl k) ?_
        show own_Ends p e below F (s₁.setTop (mkF m 106 #[.val (.long p1), .second, .val (.long p2), .second, .val (.int p3), .val (.long (9007199254740991 : Int64)), .second, .val (.long v18), .second, .val (.int (p3 &&& (3 : Int32))), .val (.long v19), .second, .unset, .unset] []))
        refine own_step (fun _ k => XS.goto X0.here hx rfl (pc0 := 106) (pc' := 117) rfl (hb hby at_106) (by decide) (by decide) k) ?_
        show own_Ends p e below F (s₁.setTop (mkF m 117 #[.val (.long p1), .second, .val (.long p2), .second, .val (.int p3), .val (.long (9007199254740991 : Int64)), .second, .val (.long v18), .second, .val (.int (p3 &&& (3 : Int32))), .val (.long v19), .second, .unset, .unset] []))
        have hA : ¬ own_amt v18 = 0 := by rw [ev18]; exact own_A3 p3
        have hB : ¬ own_bal v19 = 0 := by rw [ev19]; exact own_B3 p1
        refine own_step (fun _ k => XS.lload X0.here hx rfl (hb hby at_117) rfl k) ?_
        show own_Ends p e below F (s₁.setTop (mkF m 119 #[.val (.long p1), .second, .val (.long p2), .second, .val (.int p3), .val (.long (9007199254740991 : Int64)), .second, .val (.long v18), .second, .val (.int (p3 &&& (3 : Int32))), .val (.long v19), .second, .unset, .unset] [(.long v19)]))
        refine own_step (fun _ k => XS.lload X0.here hx rfl (hb hby at_119) rfl k) ?_
        show own_Ends p e below F (s₁.setTop (mkF m 121 #[.val (.long p1), .second, .val (.long p2), .second, .val (.int p3), .val (.long (9007199254740991 : Int64)), .second, .val (.long v18), .second, .val (.int (p3 &&& (3 : Int32))), .val (.long v19), .second, .unset, .unset] [(.long v18), (.long v19)]))
        obtain ⟨_, _, ⟨T20, L20, k20, n20⟩, -, X20, ⟨Lc20, hQ20, l20, y20, z20⟩, st20⟩ := Jvm.LawKit.callS X0 hx (y := (⟨"com/example/pledger/pledger/model/Money", "credit", "(JJ)Ljava/util/OptionalLong;"⟩ : MethodName)) hown (mvT hZ (own_g hw 2 rfl)) (mvT hZ (own_g hw 3 rfl)) (mvT hZ (own_g hw 4 rfl)) (mvT hZ (own_g hw 5 rfl)) (by decide) (backOf (W := 0) (rm1 l Z a0 hw [] v19 v18 ee h0 n0 Z0 hA hB SE EE FP FV) hZ (own_g hw 5 rfl) (own_g hw 4 rfl) (by decide) (by decide)) (g := (mkF m 121 #[.val (.long p1), .second, .val (.long p2), .second, .val (.int p3), .val (.long (9007199254740991 : Int64)), .second, .val (.long v18), .second, .val (.int (p3 &&& (3 : Int32))), .val (.long v19), .second, .unset, .unset] [(.long v18), (.long v19)])) rfl (by rw [hml]; rfl) (argsL := [(.long v19), (.long v18)]) (rest := []) (lenOf pd__28JJ_29Ljava_2futil_2fOptionalLong_3b rfl) rfl (by show 2 * 0 + _ ≤ _; exact Nat.le_of_eq rfl) (hb hby at_121) (fun _ _ => ⟨rfl, e0, (by decide : 0 + 1 ≤ _), (by decide : 0 + 2 ≤ _)⟩)
        dsimp only [Pt.U, Pt.locs, Pt.cells, Pt.slots] at X20 l20 y20 z20 st20 hQ20
        subst l20 y20 z20
        obtain ⟨c20, q20, w20, rfl, Nq20, Kq20, fq0_20, fq1_20, fq2_20, fq3_20, fq4_20⟩ := hQ20
        have N20 := Fr.app N0 Nq20
        have Z20 : n0 ≤ T20.heap.size := Nat.le_trans Z0 Kq20.1
        have SZ20 : h0.size ≤ T20.heap.size := Nat.le_trans (Nat.le_refl h0.size) Kq20.1
        have S0_20 := own_Sta_keep SE Kq20 all0
        refine own_step st20 ?_
        show own_Ends p e below F (T20.setTop (mkF m 124 #[.val (.long p1), .second, .val (.long p2), .second, .val (.int p3), .val (.long (9007199254740991 : Int64)), .second, .val (.long v18), .second, .val (.int (p3 &&& (3 : Int32))), .val (.long v19), .second, .unset, .unset] [(.ref c20)]))
        refine own_step (fun _ k => XS.astore X20.here hx rfl (hb hby at_124) rfl rfl (l' := #[.val (.long p1), .second, .val (.long p2), .second, .val (.int p3), .val (.long (9007199254740991 : Int64)), .second, .val (.long v18), .second, .val (.int (p3 &&& (3 : Int32))), .val (.long v19), .second, .val (.ref c20), .unset]) rfl k) ?_
        show own_Ends p e below F (T20.setTop (mkF m 126 #[.val (.long p1), .second, .val (.long p2), .second, .val (.int p3), .val (.long (9007199254740991 : Int64)), .second, .val (.long v18), .second, .val (.int (p3 &&& (3 : Int32))), .val (.long v19), .second, .val (.ref c20), .unset] []))
        refine own_step (fun _ k => XS.lload X20.here hx rfl (hb hby at_126) rfl k) ?_
        show own_Ends p e below F (T20.setTop (mkF m 128 #[.val (.long p1), .second, .val (.long p2), .second, .val (.int p3), .val (.long (9007199254740991 : Int64)), .second, .val (.long v18), .second, .val (.int (p3 &&& (3 : Int32))), .val (.long v19), .second, .val (.ref c20), .unset] [(.long v19)]))
        refine own_step (fun _ k => XS.lload X20.here hx rfl (hb hby at_128) rfl k) ?_
        show own_Ends p e below F (T20.setTop (mkF m 130 #[.val (.long p1), .second, .val (.long p2), .second, .val (.int p3), .val (.long (9007199254740991 : Int64)), .second, .val (.long v18), .second, .val (.int (p3 &&& (3 : Int32))), .val (.long v19), .second, .val (.ref c20), .unset] [(.long (9007199254740991 : Int64)), (.long v19)]))
        refine own_step (fun _ k => XS.lload X20.here hx rfl (hb hby at_130) rfl k) ?_
        show own_Ends p e below F (T20.setTop (mkF m 132 #[.val (.long p1), .second, .val (.long p2), .second, .val (.int p3), .val (.long (9007199254740991 : Int64)), .second, .val (.long v18), .second, .val (.int (p3 &&& (3 : Int32))), .val (.long v19), .second, .val (.ref c20), .unset] [(.long v18), (.long (9007199254740991 : Int64)), (.long v19)]))
        refine own_step (fun _ k => XS.lsub X20.here hx rfl (hb hby at_132) rfl k) ?_
        show own_Ends p e below F (T20.setTop (mkF m 133 #[.val (.long p1), .second, .val (.long p2), .second, .val (.int p3), .val (.long (9007199254740991 : Int64)), .second, .val (.long v18), .second, .val (.int (p3 &&& (3 : Int32))), .val (.long v19), .second, .val (.ref c20), .unset] [(.long ((9007199254740991 : Int64) - v18)), (.long v19)]))
        refine own_step (fun _ k => XS.lcmp X20.here hx rfl (hb hby at_133) rfl k) ?_
        show own_Ends p e below F (T20.setTop (mkF m 134 #[.val (.long p1), .second, .val (.long p2), .second, .val (.int p3), .val (.long (9007199254740991 : Int64)), .second, .val (.long v18), .second, .val (.int (p3 &&& (3 : Int32))), .val (.long v19), .second, .val (.ref c20), .unset] [(.int (lcmpW v19 ((9007199254740991 : Int64) - v18)))]))
        by_cases c134_21 : ((9007199254740991 : Int64) - v18) < v19
        · refine own_step (fun _ k => XS.ifNo X20.here hx rfl (hb hby at_134) rfl ((if0 _ _).trans (tlt ((lw_gt _ _).mpr c134_21)).2.2.2) k) ?_
          show own_Ends p e below F (T20.setTop (mkF m 137 #[.val (.long p1), .second, .val (.long p2), .second, .val (.int p3), .val (.long (9007199254740991 : Int64)), .second, .val (.long v18), .second, .val (.int (p3 &&& (3 : Int32))), .val (.long v19), .second, .val (.ref c20), .unset] []))
          refine own_step (fun _ k => XS.aload X20.here hx rfl (hb hby at_137) rfl rfl k) ?_
          show own_Ends p e below F (T20.setTop (mkF m 139 #[.val (.long p1), .second, .val (.long p2), .second, .val (.int p3), .val (.long (9007199254740991 : Int64)), .second, .val (.long v18), .second, .val (.int (p3 &&& (3 : Int32))), .val (.long v19), .second, .val (.ref c20), .unset] [(.ref c20)]))
          obtain ⟨cq22, kq22, qa22, qb22, qc22⟩ := isOf hZ rfl fq0_20
          obtain ⟨_, _, ⟨T22, L22, k22, n22⟩, -, X22, ⟨Lc22, hQ22, l22, y22, z22⟩, st22⟩ := X20.virtualBack hx (y := (⟨"java/util/OptionalLong", "isPresent", "()Z"⟩ : MethodName)) (z := (⟨"java/util/OptionalLong", "isPresent", "()Z"⟩ : MethodName)) hown (mvT hZ (own_g hw 37 rfl)) (mvT hZ (own_g hw 38 rfl)) (notFace_of_selects (args := #[]) (mvT hZ (own_g hw 40 rfl))) (mvT hZ (own_g hw 40 rfl)) (mvT hZ (own_g hw 39 rfl)) (by decide) (backOf (W := 0) (rm9 l Z a0 hw [] c20 q20 T20.heap n0 Z20 fq1_20) hZ (own_g hw 41 rfl) (own_g hw 22 rfl) (by decide) (by decide)) qa22 qc22 (g := (mkF m 139 #[.val (.long p1), .second, .val (.long p2), .second, .val (.int p3), .val (.long (9007199254740991 : Int64)), .second, .val (.long v18), .second, .val (.int (p3 &&& (3 : Int32))), .val (.long v19), .second, .val (.ref c20), .unset] [(.ref c20)])) rfl (by rw [hml]; rfl) (Steps.refl _) (argsL := []) (rest := []) (lenOf pd__28_29Z rfl) rfl (by show 2 * 0 + _ ≤ _; exact Nat.le_of_eq rfl) (hb hby at_139) (fun _ _ => ⟨rfl, rfl, (by decide : 1 + 0 ≤ _), (by decide : 2 + 0 ≤ _)⟩)
          dsimp only [Pt.U, Pt.locs, Pt.cells, Pt.slots] at X22 l22 y22 z22 st22 hQ22
          subst l22 y22 z22
          obtain ⟨rfl, Nq22, eq22⟩ := hQ22
          have N22 := Fr.app N20 Nq22
          refine own_trans st22 ?_
          show own_Ends p e below F (T22.setTop (mkF m 142 #[.val (.long p1), .second, .val (.long p2), .second, .val (.int p3), .val (.long (9007199254740991 : Int64)), .second, .val (.long v18), .second, .val (.int (p3 &&& (3 : Int32))), .val (.long v19), .second, .val (.ref c20), .unset] [(.int (nar .boolean q20))]))
          refine own_step (fun _ k => XS.ifNo X22.here hx rfl (hb hby at_142) rfl ((if0 _ _).trans (teq (own_np0 fq3_20 (own_L1 _ _ hA hB c134_21) : (nar .boolean q20) = (0 : Int32))).2) k) ?_
          show own_Ends p e below F (T22.setTop (mkF m 145 #[.val (.long p1), .second, .val (.long p2), .second, .val (.int p3), .val (.long (9007199254740991 : Int64)), .second, .val (.long v18), .second, .val (.int (p3 &&& (3 : Int32))), .val (.long v19), .second, .val (.ref c20), .unset] []))
          refine own_step (fun _ k => XS.iconst X22.here hx rfl (hb hby at_145) k) ?_
          show own_Ends p e below F (T22.setTop (mkF m 146 #[.val (.long p1), .second, .val (.long p2), .second, .val (.int p3), .val (.long (9007199254740991 : Int64)), .second, .val (.long v18), .second, .val (.int (p3 &&& (3 : Int32))), .val (.long v19), .second, .val (.ref c20), .unset] [(.int (1 : Int32))]))
          refine own_step (fun _ k => XS.goto X22.here hx rfl (pc0 := 146) (pc' := 150) rfl (hb hby at_146) (by decide) (by decide) k) ?_
          show own_Ends p e below F (T22.setTop (mkF m 150 #[.val (.long p1), .second, .val (.long p2), .second, .val (.int p3), .val (.long (9007199254740991 : Int64)), .second, .val (.long v18), .second, .val (.int (p3 &&& (3 : Int32))), .val (.long v19), .second, .val (.ref c20), .unset] [(.int (1 : Int32))]))
          rw [hF]
          exact own_ret X22 (v := (some (.int (nar .boolean (1 : Int32))))) (fun h => by rw [Bd.returns] at h; cases h) Bd.notSynchronized (fun fs hr => retN X22 hx (t := .boolean) Bd.returns (by simp) (hb hby at_150) hr) (by decide) (by decide) (by rw [eq22]; exact ⟨rfl, N22⟩)
        · refine own_step (fun _ k => XS.ifYes X20.here hx rfl (pc0 := 134) (pc' := 151) rfl (hb hby at_134) rfl ((if0 _ _).trans (flt (fun q => c134_21 ((lw_gt _ _).mp q))).2.2.2) (by decide) (by decide) k) ?_
          show own_Ends p e below F (T20.setTop (mkF m 151 #[.val (.long p1), .second, .val (.long p2), .second, .val (.int p3), .val (.long (9007199254740991 : Int64)), .second, .val (.long v18), .second, .val (.int (p3 &&& (3 : Int32))), .val (.long v19), .second, .val (.ref c20), .unset] []))
          refine own_step (fun _ k => XS.aload X20.here hx rfl (hb hby at_151) rfl rfl k) ?_
          show own_Ends p e below F (T20.setTop (mkF m 153 #[.val (.long p1), .second, .val (.long p2), .second, .val (.int p3), .val (.long (9007199254740991 : Int64)), .second, .val (.long v18), .second, .val (.int (p3 &&& (3 : Int32))), .val (.long v19), .second, .val (.ref c20), .unset] [(.ref c20)]))
          obtain ⟨cq23, kq23, qa23, qb23, qc23⟩ := isOf hZ rfl fq0_20
          obtain ⟨_, _, ⟨T23, L23, k23, n23⟩, -, X23, ⟨Lc23, hQ23, l23, y23, z23⟩, st23⟩ := X20.virtualBack hx (y := (⟨"java/util/OptionalLong", "isPresent", "()Z"⟩ : MethodName)) (z := (⟨"java/util/OptionalLong", "isPresent", "()Z"⟩ : MethodName)) hown (mvT hZ (own_g hw 37 rfl)) (mvT hZ (own_g hw 38 rfl)) (notFace_of_selects (args := #[]) (mvT hZ (own_g hw 40 rfl))) (mvT hZ (own_g hw 40 rfl)) (mvT hZ (own_g hw 39 rfl)) (by decide) (backOf (W := 0) (rm9 l Z a0 hw [] c20 q20 T20.heap n0 Z20 fq1_20) hZ (own_g hw 41 rfl) (own_g hw 22 rfl) (by decide) (by decide)) qa23 qc23 (g := (mkF m 153 #[.val (.long p1), .second, .val (.long p2), .second, .val (.int p3), .val (.long (9007199254740991 : Int64)), .second, .val (.long v18), .second, .val (.int (p3 &&& (3 : Int32))), .val (.long v19), .second, .val (.ref c20), .unset] [(.ref c20)])) rfl (by rw [hml]; rfl) (Steps.refl _) (argsL := []) (rest := []) (lenOf pd__28_29Z rfl) rfl (by show 2 * 0 + _ ≤ _; exact Nat.le_of_eq rfl) (hb hby at_153) (fun _ _ => ⟨rfl, rfl, (by decide : 1 + 0 ≤ _), (by decide : 2 + 0 ≤ _)⟩)
          dsimp only [Pt.U, Pt.locs, Pt.cells, Pt.slots] at X23 l23 y23 z23 st23 hQ23
          subst l23 y23 z23
          obtain ⟨rfl, Nq23, eq23⟩ := hQ23
          have N23 := Fr.app N20 Nq23
          refine own_trans st23 ?_
          show own_Ends p e below F (T23.setTop (mkF m 156 #[.val (.long p1), .second, .val (.long p2), .second, .val (.int p3), .val (.long (9007199254740991 : Int64)), .second, .val (.long v18), .second, .val (.int (p3 &&& (3 : Int32))), .val (.long v19), .second, .val (.ref c20), .unset] [(.int (nar .boolean q20))]))
          refine own_step (fun _ k => XS.ifNo X23.here hx rfl (hb hby at_156) rfl ((if0 _ _).trans (feq (own_np1 fq3_20 (own_L2 _ _ hA hB c134_21) : ¬ ((nar .boolean q20) = (0 : Int32)))).1) k) ?_
          show own_Ends p e below F (T23.setTop (mkF m 159 #[.val (.long p1), .second, .val (.long p2), .second, .val (.int p3), .val (.long (9007199254740991 : Int64)), .second, .val (.long v18), .second, .val (.int (p3 &&& (3 : Int32))), .val (.long v19), .second, .val (.ref c20), .unset] []))
          have hs1 := own_L2 _ _ hA hB c134_21
          have hq1 := own_q1 fq3_20 hs1
          refine own_step (fun _ k => XS.aload X23.here hx rfl (hb hby at_159) rfl rfl k) ?_
          show own_Ends p e below F (T23.setTop (mkF m 161 #[.val (.long p1), .second, .val (.long p2), .second, .val (.int p3), .val (.long (9007199254740991 : Int64)), .second, .val (.long v18), .second, .val (.int (p3 &&& (3 : Int32))), .val (.long v19), .second, .val (.ref c20), .unset] [(.ref c20)]))
          obtain ⟨cq24, kq24, qa24, qb24, qc24⟩ := isOf hZ eq23 fq0_20
          obtain ⟨_, _, ⟨T24, L24, k24, n24⟩, -, X24, ⟨Lc24, hQ24, l24, y24, z24⟩, st24⟩ := X23.virtualBack hx (y := (⟨"java/util/OptionalLong", "getAsLong", "()J"⟩ : MethodName)) (z := (⟨"java/util/OptionalLong", "getAsLong", "()J"⟩ : MethodName)) hown (mvT hZ (own_g hw 42 rfl)) (mvT hZ (own_g hw 43 rfl)) (notFace_of_selects (args := #[]) (mvT hZ (own_g hw 45 rfl))) (mvT hZ (own_g hw 45 rfl)) (mvT hZ (own_g hw 44 rfl)) (by decide) (backOf (W := 0) (rm10 l Z a0 hw [] c20 q20 w20 T20.heap n0 Z20 fq1_20 fq2_20 hq1) hZ (own_g hw 46 rfl) (own_g hw 22 rfl) (by decide) (by decide)) qa24 qc24 (g := (mkF m 161 #[.val (.long p1), .second, .val (.long p2), .second, .val (.int p3), .val (.long (9007199254740991 : Int64)), .second, .val (.long v18), .second, .val (.int (p3 &&& (3 : Int32))), .val (.long v19), .second, .val (.ref c20), .unset] [(.ref c20)])) rfl (by rw [hml]; rfl) (Steps.refl _) (argsL := []) (rest := []) (lenOf pd__28_29J rfl) rfl (by show 2 * 0 + _ ≤ _; exact Nat.le_of_eq rfl) (hb hby at_161) (fun _ _ => ⟨rfl, eq23, (by decide : 1 + 0 ≤ _), (by decide : 2 + 0 ≤ _)⟩)
          dsimp only [Pt.U, Pt.locs, Pt.cells, Pt.slots] at X24 l24 y24 z24 st24 hQ24
          subst l24 y24 z24
          obtain ⟨rfl, Nq24, eq24⟩ := hQ24
          have N24 := Fr.app N23 Nq24
          refine own_trans st24 ?_
          show own_Ends p e below F (T24.setTop (mkF m 164 #[.val (.long p1), .second, .val (.long p2), .second, .val (.int p3), .val (.long (9007199254740991 : Int64)), .second, .val (.long v18), .second, .val (.int (p3 &&& (3 : Int32))), .val (.long v19), .second, .val (.ref c20), .unset] [(.long w20)]))
          refine own_step (fun _ k => XS.lload X24.here hx rfl (hb hby at_164) rfl k) ?_
          show own_Ends p e below F (T24.setTop (mkF m 166 #[.val (.long p1), .second, .val (.long p2), .second, .val (.int p3), .val (.long (9007199254740991 : Int64)), .second, .val (.long v18), .second, .val (.int (p3 &&& (3 : Int32))), .val (.long v19), .second, .val (.ref c20), .unset] [(.long v19), (.long w20)]))
          refine own_step (fun _ k => XS.lload X24.here hx rfl (hb hby at_166) rfl k) ?_
          show own_Ends p e below F (T24.setTop (mkF m 168 #[.val (.long p1), .second, .val (.long p2), .second, .val (.int p3), .val (.long (9007199254740991 : Int64)), .second, .val (.long v18), .second, .val (.int (p3 &&& (3 : Int32))), .val (.long v19), .second, .val (.ref c20), .unset] [(.long v18), (.long v19), (.long w20)]))
          refine own_step (fun _ k => XS.ladd X24.here hx rfl (hb hby at_168) rfl k) ?_
          show own_Ends p e below F (T24.setTop (mkF m 169 #[.val (.long p1), .second, .val (.long p2), .second, .val (.int p3), .val (.long (9007199254740991 : Int64)), .second, .val (.long v18), .second, .val (.int (p3 &&& (3 : Int32))), .val (.long v19), .second, .val (.ref c20), .unset] [(.long (v19 + v18)), (.long w20)]))
          refine own_step (fun _ k => XS.lcmp X24.here hx rfl (hb hby at_169) rfl k) ?_
          show own_Ends p e below F (T24.setTop (mkF m 170 #[.val (.long p1), .second, .val (.long p2), .second, .val (.int p3), .val (.long (9007199254740991 : Int64)), .second, .val (.long v18), .second, .val (.int (p3 &&& (3 : Int32))), .val (.long v19), .second, .val (.ref c20), .unset] [(.int (lcmpW w20 (v19 + v18)))]))
          refine own_step (fun _ k => XS.ifNo X24.here hx rfl (hb hby at_170) rfl ((if0 _ _).trans (teq ((lw_eq _ _).mpr (own_w fq4_20 hs1 : w20 = (v19 + v18)))).2) k) ?_
          show own_Ends p e below F (T24.setTop (mkF m 173 #[.val (.long p1), .second, .val (.long p2), .second, .val (.int p3), .val (.long (9007199254740991 : Int64)), .second, .val (.long v18), .second, .val (.int (p3 &&& (3 : Int32))), .val (.long v19), .second, .val (.ref c20), .unset] []))
          refine own_step (fun _ k => XS.iconst X24.here hx rfl (hb hby at_173) k) ?_
          show own_Ends p e below F (T24.setTop (mkF m 174 #[.val (.long p1), .second, .val (.long p2), .second, .val (.int p3), .val (.long (9007199254740991 : Int64)), .second, .val (.long v18), .second, .val (.int (p3 &&& (3 : Int32))), .val (.long v19), .second, .val (.ref c20), .unset] [(.int (1 : Int32))]))
          refine own_step (fun _ k => XS.goto X24.here hx rfl (pc0 := 174) (pc' := 178) rfl (hb hby at_174) (by decide) (by decide) k) ?_
          show own_Ends p e below F (T24.setTop (mkF m 178 #[.val (.long p1), .second, .val (.long p2), .second, .val (.int p3), .val (.long (9007199254740991 : Int64)), .second, .val (.long v18), .second, .val (.int (p3 &&& (3 : Int32))), .val (.long v19), .second, .val (.ref c20), .unset] [(.int (1 : Int32))]))
          rw [hF]
          exact own_ret X24 (v := (some (.int (nar .boolean (1 : Int32))))) (fun h => by rw [Bd.returns] at h; cases h) Bd.notSynchronized (fun fs hr => retN X24 hx (t := .boolean) Bd.returns (by simp) (hb hby at_178) hr) (by decide) (by decide) (by rw [eq24]; exact ⟨rfl, N24⟩)
      · refine own_step (fun _ k => XS.icmpYes X0.here hx rfl (pc0 := 83) (pc' := 109) rfl (hb hby at_83) rfl (feq c83_17).2 (by decide) (by decide) k) ?_
        show own_Ends p e below F (s₁.setTop (mkF m 109 #[.val (.long p1), .second, .val (.long p2), .second, .val (.int p3), .val (.long (9007199254740991 : Int64)), .second, .val (.long v1), .second, .val (.int (p3 &&& (3 : Int32))), .unset, .unset, .unset, .unset] []))
        refine own_step (fun _ k => XS.lloadN X0.here hx rfl (hb hby at_109) rfl k) ?_
        show own_Ends p e below F (s₁.setTop (mkF m 110 #[.val (.long p1), .second, .val (.long p2), .second, .val (.int p3), .val (.long (9007199254740991 : Int64)), .second, .val (.long v1), .second, .val (.int (p3 &&& (3 : Int32))), .unset, .unset, .unset, .unset] [(.long p1)]))
        refine own_step (fun _ k => XS.lload X0.here hx rfl (hb hby at_110) rfl k) ?_
        show own_Ends p e below F (s₁.setTop (mkF m 112 #[.val (.long p1), .second, .val (.long p2), .second, .val (.int p3), .val (.long (9007199254740991 : Int64)), .second, .val (.long v1), .second, .val (.int (p3 &&& (3 : Int32))), .unset, .unset, .unset, .unset] [(.long (9007199254740991 : Int64)), (.long p1)]))
        refine own_step (fun _ k => XS.lconst X0.here hx rfl (hb hby at_112) k) ?_
        show own_Ends p e below F (s₁.setTop (mkF m 113 #[.val (.long p1), .second, .val (.long p2), .second, .val (.int p3), .val (.long (9007199254740991 : Int64)), .second, .val (.long v1), .second, .val (.int (p3 &&& (3 : Int32))), .unset, .unset, .unset, .unset] [(.long (1 : Int64)), (.long (9007199254740991 : Int64)), (.long p1)]))
        refine own_step (fun _ k => XS.ladd X0.here hx rfl (hb hby at_113) rfl k) ?_
        show own_Ends p e below F (s₁.setTop (mkF m 114 #[.val (.long p1), .second, .val (.long p2), .second, .val (.int p3), .val (.long (9007199254740991 : Int64)), .second, .val (.long v1), .second, .val (.int (p3 &&& (3 : Int32))), .unset, .unset, .unset, .unset] [(.long (9007199254740992 : Int64)), (.long p1)]))
        refine own_step (fun _ k => XS.lrem X0.here hx rfl (hb hby at_114) rfl (by decide) k) ?_
        show own_Ends p e below F (s₁.setTop (mkF m 115 #[.val (.long p1), .second, .val (.long p2), .second, .val (.int p3), .val (.long (9007199254740991 : Int64)), .second, .val (.long v1), .second, .val (.int (p3 &&& (3 : Int32))), .unset, .unset, .unset, .unset] [(.long (p1 - (p1 / (9007199254740992 : Int64)) * (9007199254740992 : Int64)))]))
        obtain ⟨v25, ev25⟩ : ∃ z : Int64, z = (p1 - (p1 / (9007199254740992 : Int64)) * (9007199254740992 : Int64)) := ⟨_, rfl⟩
        rw [← ev25]
        show own_Ends p e below F (s₁.setTop (mkF m 115 #[.val (.long p1), .second, .val (.long p2), .second, .val (.int p3), .val (.long (9007199254740991 : Int64)), .second, .val (.long v1), .second, .val (.int (p3 &&& (3 : Int32))), .unset, .unset, .unset, .unset] [(.long v25)]))
        refine own_step (fun _ k => XS.lstore X0.here hx rfl (hb hby at_115) rfl (l' := #[.val (.long p1), .second, .val (.long p2), .second, .val (.int p3), .val (.long (9007199254740991 : Int64)), .second, .val (.long v1), .second, .val (.int (p3 &&& (3 : Int32))), .val (.long v25), .second, .unset, .unset]) rfl k) ?_
        show own_Ends p e below F (s₁.setTop (mkF m 117 #[.val (.long p1), .second, .val (.long p2), .second, .val (.int p3), .val (.long (9007199254740991 : Int64)), .second, .val (.long v1), .second, .val (.int (p3 &&& (3 : Int32))), .val (.long v25), .second, .unset, .unset] []))
        have hA : ¬ own_amt v1 = 0 := by rw [ev1]; exact own_A1 p2
        have hB : ¬ own_bal v25 = 0 := by rw [ev25]; exact own_B3 p1
        refine own_step (fun _ k => XS.lload X0.here hx rfl (hb hby at_117) rfl k) ?_
        show own_Ends p e below F (s₁.setTop (mkF m 119 #[.val (.long p1), .second, .val (.long p2), .second, .val (.int p3), .val (.long (9007199254740991 : Int64)), .second, .val (.long v1), .second, .val (.int (p3 &&& (3 : Int32))), .val (.long v25), .second, .unset, .unset] [(.long v25)]))
        refine own_step (fun _ k => XS.lload X0.here hx rfl (hb hby at_119) rfl k) ?_
        show own_Ends p e below F (s₁.setTop (mkF m 121 #[.val (.long p1), .second, .val (.long p2), .second, .val (.int p3), .val (.long (9007199254740991 : Int64)), .second, .val (.long v1), .second, .val (.int (p3 &&& (3 : Int32))), .val (.long v25), .second, .unset, .unset] [(.long v1), (.long v25)]))
        obtain ⟨_, _, ⟨T26, L26, k26, n26⟩, -, X26, ⟨Lc26, hQ26, l26, y26, z26⟩, st26⟩ := Jvm.LawKit.callS X0 hx (y := (⟨"com/example/pledger/pledger/model/Money", "credit", "(JJ)Ljava/util/OptionalLong;"⟩ : MethodName)) hown (mvT hZ (own_g hw 2 rfl)) (mvT hZ (own_g hw 3 rfl)) (mvT hZ (own_g hw 4 rfl)) (mvT hZ (own_g hw 5 rfl)) (by decide) (backOf (W := 0) (rm1 l Z a0 hw [] v25 v1 ee h0 n0 Z0 hA hB SE EE FP FV) hZ (own_g hw 5 rfl) (own_g hw 4 rfl) (by decide) (by decide)) (g := (mkF m 121 #[.val (.long p1), .second, .val (.long p2), .second, .val (.int p3), .val (.long (9007199254740991 : Int64)), .second, .val (.long v1), .second, .val (.int (p3 &&& (3 : Int32))), .val (.long v25), .second, .unset, .unset] [(.long v1), (.long v25)])) rfl (by rw [hml]; rfl) (argsL := [(.long v25), (.long v1)]) (rest := []) (lenOf pd__28JJ_29Ljava_2futil_2fOptionalLong_3b rfl) rfl (by show 2 * 0 + _ ≤ _; exact Nat.le_of_eq rfl) (hb hby at_121) (fun _ _ => ⟨rfl, e0, (by decide : 0 + 1 ≤ _), (by decide : 0 + 2 ≤ _)⟩)
        dsimp only [Pt.U, Pt.locs, Pt.cells, Pt.slots] at X26 l26 y26 z26 st26 hQ26
        subst l26 y26 z26
        obtain ⟨c26, q26, w26, rfl, Nq26, Kq26, fq0_26, fq1_26, fq2_26, fq3_26, fq4_26⟩ := hQ26
        have N26 := Fr.app N0 Nq26
        have Z26 : n0 ≤ T26.heap.size := Nat.le_trans Z0 Kq26.1
        have SZ26 : h0.size ≤ T26.heap.size := Nat.le_trans (Nat.le_refl h0.size) Kq26.1
        have S0_26 := own_Sta_keep SE Kq26 all0
        refine own_step st26 ?_
        show own_Ends p e below F (T26.setTop (mkF m 124 #[.val (.long p1), .second, .val (.long p2), .second, .val (.int p3), .val (.long (9007199254740991 : Int64)), .second, .val (.long v1), .second, .val (.int (p3 &&& (3 : Int32))), .val (.long v25), .second, .unset, .unset] [(.ref c26)]))
        refine own_step (fun _ k => XS.astore X26.here hx rfl (hb hby at_124) rfl rfl (l' := #[.val (.long p1), .second, .val (.long p2), .second, .val (.int p3), .val (.long (9007199254740991 : Int64)), .second, .val (.long v1), .second, .val (.int (p3 &&& (3 : Int32))), .val (.long v25), .second, .val (.ref c26), .unset]) rfl k) ?_
        show own_Ends p e below F (T26.setTop (mkF m 126 #[.val (.long p1), .second, .val (.long p2), .second, .val (.int p3), .val (.long (9007199254740991 : Int64)), .second, .val (.long v1), .second, .val (.int (p3 &&& (3 : Int32))), .val (.long v25), .second, .val (.ref c26), .unset] []))
        refine own_step (fun _ k => XS.lload X26.here hx rfl (hb hby at_126) rfl k) ?_
        show own_Ends p e below F (T26.setTop (mkF m 128 #[.val (.long p1), .second, .val (.long p2), .second, .val (.int p3), .val (.long (9007199254740991 : Int64)), .second, .val (.long v1), .second, .val (.int (p3 &&& (3 : Int32))), .val (.long v25), .second, .val (.ref c26), .unset] [(.long v25)]))
        refine own_step (fun _ k => XS.lload X26.here hx rfl (hb hby at_128) rfl k) ?_
        show own_Ends p e below F (T26.setTop (mkF m 130 #[.val (.long p1), .second, .val (.long p2), .second, .val (.int p3), .val (.long (9007199254740991 : Int64)), .second, .val (.long v1), .second, .val (.int (p3 &&& (3 : Int32))), .val (.long v25), .second, .val (.ref c26), .unset] [(.long (9007199254740991 : Int64)), (.long v25)]))
        refine own_step (fun _ k => XS.lload X26.here hx rfl (hb hby at_130) rfl k) ?_
        show own_Ends p e below F (T26.setTop (mkF m 132 #[.val (.long p1), .second, .val (.long p2), .second, .val (.int p3), .val (.long (9007199254740991 : Int64)), .second, .val (.long v1), .second, .val (.int (p3 &&& (3 : Int32))), .val (.long v25), .second, .val (.ref c26), .unset] [(.long v1), (.long (9007199254740991 : Int64)), (.long v25)]))
        refine own_step (fun _ k => XS.lsub X26.here hx rfl (hb hby at_132) rfl k) ?_
        show own_Ends p e below F (T26.setTop (mkF m 133 #[.val (.long p1), .second, .val (.long p2), .second, .val (.int p3), .val (.long (9007199254740991 : Int64)), .second, .val (.long v1), .second, .val (.int (p3 &&& (3 : Int32))), .val (.long v25), .second, .val (.ref c26), .unset] [(.long ((9007199254740991 : Int64) - v1)), (.long v25)]))
        refine own_step (fun _ k => XS.lcmp X26.here hx rfl (hb hby at_133) rfl k) ?_
        show own_Ends p e below F (T26.setTop (mkF m 134 #[.val (.long p1), .second, .val (.long p2), .second, .val (.int p3), .val (.long (9007199254740991 : Int64)), .second, .val (.long v1), .second, .val (.int (p3 &&& (3 : Int32))), .val (.long v25), .second, .val (.ref c26), .unset] [(.int (lcmpW v25 ((9007199254740991 : Int64) - v1)))]))
        by_cases c134_27 : ((9007199254740991 : Int64) - v1) < v25
        · refine own_step (fun _ k => XS.ifNo X26.here hx rfl (hb hby at_134) rfl ((if0 _ _).trans (tlt ((lw_gt _ _).mpr c134_27)).2.2.2) k) ?_
          show own_Ends p e below F (T26.setTop (mkF m 137 #[.val (.long p1), .second, .val (.long p2), .second, .val (.int p3), .val (.long (9007199254740991 : Int64)), .second, .val (.long v1), .second, .val (.int (p3 &&& (3 : Int32))), .val (.long v25), .second, .val (.ref c26), .unset] []))
          refine own_step (fun _ k => XS.aload X26.here hx rfl (hb hby at_137) rfl rfl k) ?_
          show own_Ends p e below F (T26.setTop (mkF m 139 #[.val (.long p1), .second, .val (.long p2), .second, .val (.int p3), .val (.long (9007199254740991 : Int64)), .second, .val (.long v1), .second, .val (.int (p3 &&& (3 : Int32))), .val (.long v25), .second, .val (.ref c26), .unset] [(.ref c26)]))
          obtain ⟨cq28, kq28, qa28, qb28, qc28⟩ := isOf hZ rfl fq0_26
          obtain ⟨_, _, ⟨T28, L28, k28, n28⟩, -, X28, ⟨Lc28, hQ28, l28, y28, z28⟩, st28⟩ := X26.virtualBack hx (y := (⟨"java/util/OptionalLong", "isPresent", "()Z"⟩ : MethodName)) (z := (⟨"java/util/OptionalLong", "isPresent", "()Z"⟩ : MethodName)) hown (mvT hZ (own_g hw 37 rfl)) (mvT hZ (own_g hw 38 rfl)) (notFace_of_selects (args := #[]) (mvT hZ (own_g hw 40 rfl))) (mvT hZ (own_g hw 40 rfl)) (mvT hZ (own_g hw 39 rfl)) (by decide) (backOf (W := 0) (rm9 l Z a0 hw [] c26 q26 T26.heap n0 Z26 fq1_26) hZ (own_g hw 41 rfl) (own_g hw 22 rfl) (by decide) (by decide)) qa28 qc28 (g := (mkF m 139 #[.val (.long p1), .second, .val (.long p2), .second, .val (.int p3), .val (.long (9007199254740991 : Int64)), .second, .val (.long v1), .second, .val (.int (p3 &&& (3 : Int32))), .val (.long v25), .second, .val (.ref c26), .unset] [(.ref c26)])) rfl (by rw [hml]; rfl) (Steps.refl _) (argsL := []) (rest := []) (lenOf pd__28_29Z rfl) rfl (by show 2 * 0 + _ ≤ _; exact Nat.le_of_eq rfl) (hb hby at_139) (fun _ _ => ⟨rfl, rfl, (by decide : 1 + 0 ≤ _), (by decide : 2 + 0 ≤ _)⟩)
          dsimp only [Pt.U, Pt.locs, Pt.cells, Pt.slots] at X28 l28 y28 z28 st28 hQ28
          subst l28 y28 z28
          obtain ⟨rfl, Nq28, eq28⟩ := hQ28
          have N28 := Fr.app N26 Nq28
          refine own_trans st28 ?_
          show own_Ends p e below F (T28.setTop (mkF m 142 #[.val (.long p1), .second, .val (.long p2), .second, .val (.int p3), .val (.long (9007199254740991 : Int64)), .second, .val (.long v1), .second, .val (.int (p3 &&& (3 : Int32))), .val (.long v25), .second, .val (.ref c26), .unset] [(.int (nar .boolean q26))]))
          refine own_step (fun _ k => XS.ifNo X28.here hx rfl (hb hby at_142) rfl ((if0 _ _).trans (teq (own_np0 fq3_26 (own_L1 _ _ hA hB c134_27) : (nar .boolean q26) = (0 : Int32))).2) k) ?_
          show own_Ends p e below F (T28.setTop (mkF m 145 #[.val (.long p1), .second, .val (.long p2), .second, .val (.int p3), .val (.long (9007199254740991 : Int64)), .second, .val (.long v1), .second, .val (.int (p3 &&& (3 : Int32))), .val (.long v25), .second, .val (.ref c26), .unset] []))
          refine own_step (fun _ k => XS.iconst X28.here hx rfl (hb hby at_145) k) ?_
          show own_Ends p e below F (T28.setTop (mkF m 146 #[.val (.long p1), .second, .val (.long p2), .second, .val (.int p3), .val (.long (9007199254740991 : Int64)), .second, .val (.long v1), .second, .val (.int (p3 &&& (3 : Int32))), .val (.long v25), .second, .val (.ref c26), .unset] [(.int (1 : Int32))]))
          refine own_step (fun _ k => XS.goto X28.here hx rfl (pc0 := 146) (pc' := 150) rfl (hb hby at_146) (by decide) (by decide) k) ?_
          show own_Ends p e below F (T28.setTop (mkF m 150 #[.val (.long p1), .second, .val (.long p2), .second, .val (.int p3), .val (.long (9007199254740991 : Int64)), .second, .val (.long v1), .second, .val (.int (p3 &&& (3 : Int32))), .val (.long v25), .second, .val (.ref c26), .unset] [(.int (1 : Int32))]))
          rw [hF]
          exact own_ret X28 (v := (some (.int (nar .boolean (1 : Int32))))) (fun h => by rw [Bd.returns] at h; cases h) Bd.notSynchronized (fun fs hr => retN X28 hx (t := .boolean) Bd.returns (by simp) (hb hby at_150) hr) (by decide) (by decide) (by rw [eq28]; exact ⟨rfl, N28⟩)
        · refine own_step (fun _ k => XS.ifYes X26.here hx rfl (pc0 := 134) (pc' := 151) rfl (hb hby at_134) rfl ((if0 _ _).trans (flt (fun q => c134_27 ((lw_gt _ _).mp q))).2.2.2) (by decide) (by decide) k) ?_
          show own_Ends p e below F (T26.setTop (mkF m 151 #[.val (.long p1), .second, .val (.long p2), .second, .val (.int p3), .val (.long (9007199254740991 : Int64)), .second, .val (.long v1), .second, .val (.int (p3 &&& (3 : Int32))), .val (.long v25), .second, .val (.ref c26), .unset] []))
          refine own_step (fun _ k => XS.aload X26.here hx rfl (hb hby at_151) rfl rfl k) ?_
          show own_Ends p e below F (T26.setTop (mkF m 153 #[.val (.long p1), .second, .val (.long p2), .second, .val (.int p3), .val (.long (9007199254740991 : Int64)), .second, .val (.long v1), .second, .val (.int (p3 &&& (3 : Int32))), .val (.long v25), .second, .val (.ref c26), .unset] [(.ref c26)]))
          obtain ⟨cq29, kq29, qa29, qb29, qc29⟩ := isOf hZ rfl fq0_26
          obtain ⟨_, _, ⟨T29, L29, k29, n29⟩, -, X29, ⟨Lc29, hQ29, l29, y29, z29⟩, st29⟩ := X26.virtualBack hx (y := (⟨"java/util/OptionalLong", "isPresent", "()Z"⟩ : MethodName)) (z := (⟨"java/util/OptionalLong", "isPresent", "()Z"⟩ : MethodName)) hown (mvT hZ (own_g hw 37 rfl)) (mvT hZ (own_g hw 38 rfl)) (notFace_of_selects (args := #[]) (mvT hZ (own_g hw 40 rfl))) (mvT hZ (own_g hw 40 rfl)) (mvT hZ (own_g hw 39 rfl)) (by decide) (backOf (W := 0) (rm9 l Z a0 hw [] c26 q26 T26.heap n0 Z26 fq1_26) hZ (own_g hw 41 rfl) (own_g hw 22 rfl) (by decide) (by decide)) qa29 qc29 (g := (mkF m 153 #[.val (.long p1), .second, .val (.long p2), .second, .val (.int p3), .val (.long (9007199254740991 : Int64)), .second, .val (.long v1), .second, .val (.int (p3 &&& (3 : Int32))), .val (.long v25), .second, .val (.ref c26), .unset] [(.ref c26)])) rfl (by rw [hml]; rfl) (Steps.refl _) (argsL := []) (rest := []) (lenOf pd__28_29Z rfl) rfl (by show 2 * 0 + _ ≤ _; exact Nat.le_of_eq rfl) (hb hby at_153) (fun _ _ => ⟨rfl, rfl, (by decide : 1 + 0 ≤ _), (by decide : 2 + 0 ≤ _)⟩)
          dsimp only [Pt.U, Pt.locs, Pt.cells, Pt.slots] at X29 l29 y29 z29 st29 hQ29
          subst l29 y29 z29
          obtain ⟨rfl, Nq29, eq29⟩ := hQ29
          have N29 := Fr.app N26 Nq29
          refine own_trans st29 ?_
          show own_Ends p e below F (T29.setTop (mkF m 156 #[.val (.long p1), .second, .val (.long p2), .second, .val (.int p3), .val (.long (9007199254740991 : Int64)), .second, .val (.long v1), .second, .val (.int (p3 &&& (3 : Int32))), .val (.long v25), .second, .val (.ref c26), .unset] [(.int (nar .boolean q26))]))
          refine own_step (fun _ k => XS.ifNo X29.here hx rfl (hb hby at_156) rfl ((if0 _ _).trans (feq (own_np1 fq3_26 (own_L2 _ _ hA hB c134_27) : ¬ ((nar .boolean q26) = (0 : Int32)))).1) k) ?_
          show own_Ends p e below F (T29.setTop (mkF m 159 #[.val (.long p1), .second, .val (.long p2), .second, .val (.int p3), .val (.long (9007199254740991 : Int64)), .second, .val (.long v1), .second, .val (.int (p3 &&& (3 : Int32))), .val (.long v25), .second, .val (.ref c26), .unset] []))
          have hs1 := own_L2 _ _ hA hB c134_27
          have hq1 := own_q1 fq3_26 hs1
          refine own_step (fun _ k => XS.aload X29.here hx rfl (hb hby at_159) rfl rfl k) ?_
          show own_Ends p e below F (T29.setTop (mkF m 161 #[.val (.long p1), .second, .val (.long p2), .second, .val (.int p3), .val (.long (9007199254740991 : Int64)), .second, .val (.long v1), .second, .val (.int (p3 &&& (3 : Int32))), .val (.long v25), .second, .val (.ref c26), .unset] [(.ref c26)]))
          obtain ⟨cq30, kq30, qa30, qb30, qc30⟩ := isOf hZ eq29 fq0_26
          obtain ⟨_, _, ⟨T30, L30, k30, n30⟩, -, X30, ⟨Lc30, hQ30, l30, y30, z30⟩, st30⟩ := X29.virtualBack hx (y := (⟨"java/util/OptionalLong", "getAsLong", "()J"⟩ : MethodName)) (z := (⟨"java/util/OptionalLong", "getAsLong", "()J"⟩ : MethodName)) hown (mvT hZ (own_g hw 42 rfl)) (mvT hZ (own_g hw 43 rfl)) (notFace_of_selects (args := #[]) (mvT hZ (own_g hw 45 rfl))) (mvT hZ (own_g hw 45 rfl)) (mvT hZ (own_g hw 44 rfl)) (by decide) (backOf (W := 0) (rm10 l Z a0 hw [] c26 q26 w26 T26.heap n0 Z26 fq1_26 fq2_26 hq1) hZ (own_g hw 46 rfl) (own_g hw 22 rfl) (by decide) (by decide)) qa30 qc30 (g := (mkF m 161 #[.val (.long p1), .second, .val (.long p2), .second, .val (.int p3), .val (.long (9007199254740991 : Int64)), .second, .val (.long v1), .second, .val (.int (p3 &&& (3 : Int32))), .val (.long v25), .second, .val (.ref c26), .unset] [(.ref c26)])) rfl (by rw [hml]; rfl) (Steps.refl _) (argsL := []) (rest := []) (lenOf pd__28_29J rfl) rfl (by show 2 * 0 + _ ≤ _; exact Nat.le_of_eq rfl) (hb hby at_161) (fun _ _ => ⟨rfl, eq29, (by decide : 1 + 0 ≤ _), (by decide : 2 + 0 ≤ _)⟩)
          dsimp only [Pt.U, Pt.locs, Pt.cells, Pt.slots] at X30 l30 y30 z30 st30 hQ30
          subst l30 y30 z30
          obtain ⟨rfl, Nq30, eq30⟩ := hQ30
          have N30 := Fr.app N29 Nq30
          refine own_trans st30 ?_
          show own_Ends p e below F (T30.setTop (mkF m 164 #[.val (.long p1), .second, .val (.long p2), .second, .val (.int p3), .val (.long (9007199254740991 : Int64)), .second, .val (.long v1), .second, .val (.int (p3 &&& (3 : Int32))), .val (.long v25), .second, .val (.ref c26), .unset] [(.long w26)]))
          refine own_step (fun _ k => XS.lload X30.here hx rfl (hb hby at_164) rfl k) ?_
          show own_Ends p e below F (T30.setTop (mkF m 166 #[.val (.long p1), .second, .val (.long p2), .second, .val (.int p3), .val (.long (9007199254740991 : Int64)), .second, .val (.long v1), .second, .val (.int (p3 &&& (3 : Int32))), .val (.long v25), .second, .val (.ref c26), .unset] [(.long v25), (.long w26)]))
          refine own_step (fun _ k => XS.lload X30.here hx rfl (hb hby at_166) rfl k) ?_
          show own_Ends p e below F (T30.setTop (mkF m 168 #[.val (.long p1), .second, .val (.long p2), .second, .val (.int p3), .val (.long (9007199254740991 : Int64)), .second, .val (.long v1), .second, .val (.int (p3 &&& (3 : Int32))), .val (.long v25), .second, .val (.ref c26), .unset] [(.long v1), (.long v25), (.long w26)]))
          refine own_step (fun _ k => XS.ladd X30.here hx rfl (hb hby at_168) rfl k) ?_
          show own_Ends p e below F (T30.setTop (mkF m 169 #[.val (.long p1), .second, .val (.long p2), .second, .val (.int p3), .val (.long (9007199254740991 : Int64)), .second, .val (.long v1), .second, .val (.int (p3 &&& (3 : Int32))), .val (.long v25), .second, .val (.ref c26), .unset] [(.long (v25 + v1)), (.long w26)]))
          refine own_step (fun _ k => XS.lcmp X30.here hx rfl (hb hby at_169) rfl k) ?_
          show own_Ends p e below F (T30.setTop (mkF m 170 #[.val (.long p1), .second, .val (.long p2), .second, .val (.int p3), .val (.long (9007199254740991 : Int64)), .second, .val (.long v1), .second, .val (.int (p3 &&& (3 : Int32))), .val (.long v25), .second, .val (.ref c26), .unset] [(.int (lcmpW w26 (v25 + v1)))]))
          refine own_step (fun _ k => XS.ifNo X30.here hx rfl (hb hby at_170) rfl ((if0 _ _).trans (teq ((lw_eq _ _).mpr (own_w fq4_26 hs1 : w26 = (v25 + v1)))).2) k) ?_
          show own_Ends p e below F (T30.setTop (mkF m 173 #[.val (.long p1), .second, .val (.long p2), .second, .val (.int p3), .val (.long (9007199254740991 : Int64)), .second, .val (.long v1), .second, .val (.int (p3 &&& (3 : Int32))), .val (.long v25), .second, .val (.ref c26), .unset] []))
          refine own_step (fun _ k => XS.iconst X30.here hx rfl (hb hby at_173) k) ?_
          show own_Ends p e below F (T30.setTop (mkF m 174 #[.val (.long p1), .second, .val (.long p2), .second, .val (.int p3), .val (.long (9007199254740991 : Int64)), .second, .val (.long v1), .second, .val (.int (p3 &&& (3 : Int32))), .val (.long v25), .second, .val (.ref c26), .unset] [(.int (1 : Int32))]))
          refine own_step (fun _ k => XS.goto X30.here hx rfl (pc0 := 174) (pc' := 178) rfl (hb hby at_174) (by decide) (by decide) k) ?_
          show own_Ends p e below F (T30.setTop (mkF m 178 #[.val (.long p1), .second, .val (.long p2), .second, .val (.int p3), .val (.long (9007199254740991 : Int64)), .second, .val (.long v1), .second, .val (.int (p3 &&& (3 : Int32))), .val (.long v25), .second, .val (.ref c26), .unset] [(.int (1 : Int32))]))
          rw [hF]
          exact own_ret X30 (v := (some (.int (nar .boolean (1 : Int32))))) (fun h => by rw [Bd.returns] at h; cases h) Bd.notSynchronized (fun fs hr => retN X30 hx (t := .boolean) Bd.returns (by simp) (hb hby at_178) hr) (by decide) (by decide) (by rw [eq30]; exact ⟨rfl, N30⟩)

theorem own_fld0 {Z : State} {args : Array Value} {t : Term} {a : Addr} {C n d : String} {x : Int32} (ev : t.eval args Z none [] Z = some (.ref a)) (h : (Jvm.Cond.eq (Jvm.Term.field t C n d) (Jvm.Term.int x)).value args Z none Z [] = some true) : Fld Z Z.heap a C n d (.int x) := by
  apply Fld.start
  have e := fld_at (C := C) (n := n) (dd := d) ev
  obtain ⟨u, w, h1, h2, h3, h4⟩ := cmp_v (Or.inl h)
  rw [e] at h1
  have h2' : w = .int x := (Option.some.inj h2).symm
  subst h2'
  obtain ⟨z, rfl⟩ : ∃ z, u = .int z := h4
  have q : (Jvm.Cond.eq (Jvm.Term.field t C n d) (Jvm.Term.int x)).value args Z none Z [] = some (decide (z = x)) := by simp [Cond.value, Term.eval, ev, h1]
  rw [h1, gotT q h]
theorem own_fldJ {Z : State} {args : Array Value} {t : Term} {a : Addr} {C n d : String} {x : Int64} (ev : t.eval args Z none [] Z = some (.ref a)) (h : (Jvm.Cond.eq (Jvm.Term.field t C n d) (Jvm.Term.long x)).value args Z none Z [] = some true) : Fld Z Z.heap a C n d (.long x) := by
  apply Fld.start
  have e := fld_at (C := C) (n := n) (dd := d) ev
  obtain ⟨u, w, h1, h2, h3, h4⟩ := cmp_v (Or.inl h)
  rw [e] at h1
  have h2' : w = .long x := (Option.some.inj h2).symm
  subst h2'
  obtain ⟨z, rfl⟩ : ∃ z, u = .long z := h4
  have q : (Jvm.Cond.eq (Jvm.Term.field t C n d) (Jvm.Term.long x)).value args Z none Z [] = some (decide (z = x)) := by simp [Cond.value, Term.eval, ev, h1]
  rw [h1, gotT q h]

set_option maxRecDepth 65536 in
set_option maxHeartbeats 40000000 in
theorem comes_1 {Post : Tables → Env → Array Value → State → Outcome → State → Prop} (hpost : ∀ tb e args s v u, (limb_1_1.after args s (.returned v) u = true ∧ limb_1_2.after args s (.returned v) u = true ∧ True) → FrameEnd s (.returned v) u (Jvm.fieldLocs frame_1_writes args s ++ Jvm.arrayLocs frame_1_arrays args s ++ Jvm.staticLocs frame_1_statics s) 16 128 → Post tb e args s (.returned v) u) :
    ArmFor flags0 classFile x code maxLocals ret World_1 tables_1 room_1 Calls_1 rest_1 Pre_1 Post := by
  intro l hfl _ _ p e ha hc hk s m args below hf hA hF happ hP
  obtain ⟨hcalls, hrest, hpre⟩ := hP
  obtain ⟨-, -, -, hnamed, -, -, -, hat⟩ := (Spec.applies_iff hf).mp happ
  obtain ⟨hg, hn⟩ := and_e (Cond.before_iff.mp (show (Jvm.Cond.and given_1 narrow_1).before args s = true from hpre))
  obtain ⟨g0, r0⟩ := and_e hg
  obtain ⟨g1, r1⟩ := and_e r0
  obtain ⟨g2, r2⟩ := and_e r1
  have g3 := r2
  obtain ⟨w0, w1, w2, rfl⟩ : ∃ w0 w1 w2 : Value, args = #[w0, w1, w2] := by
    have hs : args.size = 3 := by simpa [Cond.value, given_1] using g0
    obtain ⟨L⟩ := args
    match L, hs with
    | [w0, w1, w2], _ => exact ⟨w0, w1, w2, rfl⟩
  have hw := fun d (hd : d ∈ tables_1) => atoms_spec (ws := Jvm.Cond.code x code maxLocals ret :: tables_1) hat d (List.mem_cons_of_mem _ hd)
  have hfit : Fit s := fun {y c} hc i hi => by
    obtain ⟨ha, rfl⟩ := Array.getElem?_eq_some_iff.mp hc
    have q := List.all_eq_true.mp ((Array.all_eq_true_iff_forall_mem.mp hF) _ (Array.getElem_mem ha)) i (List.mem_range.mpr hi)
    simpa [Array.getElem?_eq_getElem hi] using q
  obtain ⟨i0, ei0⟩ := isL_v g1
  obtain rfl : w0 = (.long i0) := Option.some.inj ei0
  obtain ⟨i1, ei1⟩ := isL_v g2
  obtain rfl : w1 = (.long i1) := Option.some.inj ei1
  obtain ⟨i2, ei2⟩ := is_v g3
  obtain rfl : w2 = (.int i2) := Option.some.inj ei2
  obtain ⟨hst, -⟩ := atoms_of (own := restOwn_1) jdkStatics_1 (by rw [← rest_1_c_eq]; exact hrest)
  have hs2 := Cond.before_iff.mp (hst _ (List.mem_of_getElem? (i := 2) rfl))
  obtain ⟨ee, hee⟩ := exa_v hs2
  have SE : Sta s s.heap "java/util/OptionalLong" "EMPTY" "Ljava/util/OptionalLong;" (.ref ee) := Sta.start hee (Or.inl (hst _ (List.mem_of_getElem? (i := 1) rfl)))
  have EE : Exa s s.heap ee "java/util/OptionalLong" := Exa.start hee hs2
  have FP : Fld s s.heap ee "java/util/OptionalLong" "isPresent" "Z" (.int (0 : Int32)) := own_fld0 hee (Cond.before_iff.mp (hst _ (List.mem_of_getElem? (i := 3) rfl)))
  have FV : Fld s s.heap ee "java/util/OptionalLong" "value" "J" (.long (0 : Int64)) := own_fldJ hee (Cond.before_iff.mp (hst _ (List.mem_of_getElem? (i := 4) rfl)))
  obtain ⟨n, o, h1, h2, h3, _, L, rfl, ⟨rfl, N⟩, hq⟩ := rm0 l s _ hw tables_1 i0 i1 i2 ee s.heap s.heap.size (Nat.le_refl _) SE EE FP FV p e ha hc hk s m _ below hf ((Spec.applies_iff_loose hf).mp happ).1 ⟨rfl, State.Warmed39.refl s, rfl⟩ trivial
  refine ⟨n, _, h1, h2, h3, hpost _ _ _ _ _ _ ⟨Cond.after_iff.mpr rfl, Cond.after_iff.mpr (eq_i res_at (Term.int_eval (1)) rfl), trivial⟩ ⟨hq.1, hq.2.1, (hq.2.2.sift fun y hy => Or.inr (N y hy)).mono (by decide) (by decide)⟩⟩
theorem main_1_1 : Claimed_1_1 := comes_1 fun _ _ _ _ _ _ h hF => ⟨h.1, hF⟩
theorem main_1_2 : Claimed_1_2 := comes_1 fun _ _ _ _ _ _ h hF => ⟨h.2.1, hF⟩

end Jvm.Pilot.@@N@@
namespace Jvm.Pilot.@@N@@
open Jvm Jvm.ClassFile Sem Op Lib Jvm.Free Jvm.Stand Jvm.Pilot.@@N@@.Jvm.D
/-! MADE BY PROGRAM (witnessworld.py) out of the Statement's table words and the real class files: 11 classes; the members and pool entries that the words name. The judged class is class 1, her method 1. -/
namespace start1
open Jvm.ClassFile
def u (s : String) : CpInfo := .utf8 (stringToUtf16 s)
/-- a pool by its gaps: so many unusable entries, then the entry; so many at the end -/
def gap : Nat → List CpInfo → List CpInfo
  | 0, r => r
  | n + 1, r => .unusable :: gap n r
def poolList (es : List (Nat × CpInfo)) (last : Nat) : List CpInfo := es.foldr (fun e r => gap e.1 (e.2 :: r)) (gap last [])
def pool (es : List (Nat × CpInfo)) (last : Nat) : Array CpInfo := ⟨poolList es last⟩
def fileOf (pool : Array CpInfo) (this : Nat) (attrs : Array Attribute := #[]) (ms : Array MethodInfo := #[]) (fl : Nat := 33) (sup : Nat := 0) (ifs : Array Nat := #[]) (fds : Array FieldInfo := #[]) : ClassFile where
  minorVersion := 0
  majorVersion := 65
  constantPool := pool
  accessFlags := fl
  thisClass := this
  superClass := sup
  interfaces := ifs
  fields := fds
  methods := ms
  attributes := attrs
def plain (name : String) (sup : Option ClassId) : Class where
  name := name
  kind := .ordinary
  loader := none
  accessFlags := 33
  super := sup
  interfaces := #[]
  cf := none
  fields := #[]
  methods := #[]
  instanceTypes := #[]
  staticTypes := #[]
  resolved := #[]
  callSites := []
  init := .initialized
  statics := none
  mirror := none

def pool0 : Array CpInfo := pool [(5, u "<init>"), (0, u "()V"), (1, .class_ 10), (1, u "java/lang/Object")] 113

def k0c0 : Code := { maxStack := 0, maxLocals := 1, code := object_method_1_code, exceptionTable := #[], attributes := #[] }
def k0m0 : Method := { name := "<init>", desc := "()V", sig := { parameters := [], returnType := none }, accessFlags := 1, code := some k0c0 }
/-- java/lang/Object -/
def k0 : Class := { plain "java/lang/Object" none with
  accessFlags := 33
  interfaces := #[]
  cf := some (fileOf pool0 8 #[] #[{ accessFlags := 1, nameIndex := 5, descriptorIndex := 6, attributes := #[] }] 33 0 #[] #[])
  fields := #[]
  methods := #[k0m0]
  instanceTypes := #[]
  staticTypes := #[]
  resolved := Array.replicate 124 none
  statics := none }

def pool1 : Array CpInfo := pool [(2, .class_ 4), (1, u "java/lang/Object"), (0, u "<init>"), (0, u "()V"), (0, .class_ 8), (0, u "com/example/pledger/pledger/model/Money"), (0, .long 9007199254740991), (3, .long 9223372036854775807), (1, .methodref 16 17), (0, .class_ 18), (0, .nameAndType 19 20), (0, u "java/lang/Math"), (0, u "min"), (0, u "(JJ)J"), (0, .methodref 7 22), (0, .nameAndType 23 24), (0, u "credit"), (0, u "(JJ)Ljava/util/OptionalLong;"), (0, .methodref 26 27), (0, .class_ 28), (0, .nameAndType 29 30), (0, u "java/util/OptionalLong"), (0, u "isPresent"), (0, u "()Z"), (0, .methodref 26 32), (0, .nameAndType 33 34), (0, u "getAsLong"), (0, u "()J"), (0, .class_ 36), (0, u "com/example/pledger/pledger/model/MoneyCreditPinLaw"), (2, u "law"), (0, u "(JJI)Z")] 3

def k1m0 : Method := { name := "<init>", desc := "()V", sig := { parameters := [], returnType := none }, accessFlags := 2, code := none }
def k1c1 : Code := { maxStack := 6, maxLocals := 14, code := code, exceptionTable := #[], attributes := #[] }
def k1m1 : Method := { name := "law", desc := "(JJI)Z", sig := { parameters := [.long, .long, .int], returnType := some .boolean }, accessFlags := 9, code := some k1c1 }
/-- com/example/pledger/pledger/model/MoneyCreditPinLaw -/
def k1 : Class := { plain "com/example/pledger/pledger/model/MoneyCreditPinLaw" (some 0) with
  accessFlags := 49
  interfaces := #[]
  cf := some (fileOf pool1 35 #[] #[{ accessFlags := 2, nameIndex := 5, descriptorIndex := 6, attributes := #[] }, { accessFlags := 9, nameIndex := 39, descriptorIndex := 40, attributes := #[] }] 49 2 #[] #[])
  fields := #[]
  methods := #[k1m0, k1m1]
  instanceTypes := #[]
  staticTypes := #[]
  resolved := Array.replicate 44 none
  statics := none }

def pool2 : Array CpInfo := pool [(2, .class_ 4), (1, u "java/lang/Object"), (0, u "<init>"), (0, u "()V"), (0, .class_ 8), (0, u "com/example/pledger/pledger/model/Money"), (0, .long 9007199254740991), (1, .methodref 7 12), (0, .nameAndType 13 14), (0, u "requireOperands"), (0, u "(JJ)V"), (0, .methodref 7 16), (0, .nameAndType 17 18), (0, u "bounded"), (0, u "(J)Ljava/util/OptionalLong;"), (0, .methodref 7 20), (0, .nameAndType 21 22), (0, u "isAmount"), (0, u "(J)Z"), (9, .methodref 7 33), (0, .nameAndType 34 22), (0, u "isBalance"), (1, .long 18437736874454810625), (1, .methodref 39 40), (0, .class_ 41), (0, .nameAndType 42 18), (0, u "java/util/OptionalLong"), (0, u "of"), (0, .methodref 39 44), (0, .nameAndType 45 46), (0, u "empty"), (0, u "()Ljava/util/OptionalLong;"), (0, u "MAX"), (0, u "J"), (4, u "credit"), (0, u "(JJ)Ljava/util/OptionalLong;")] 20

def k2m0 : Method := { name := "<init>", desc := "()V", sig := { parameters := [], returnType := none }, accessFlags := 2, code := none }
def k2c1 : Code := { maxStack := 4, maxLocals := 2, code := prog_11_method_2_code, exceptionTable := #[], attributes := #[] }
def k2m1 : Method := { name := "isAmount", desc := "(J)Z", sig := { parameters := [.long], returnType := some .boolean }, accessFlags := 9, code := some k2c1 }
def k2c2 : Code := { maxStack := 4, maxLocals := 4, code := prog_11_method_3_code, exceptionTable := #[], attributes := #[] }
def k2m2 : Method := { name := "credit", desc := "(JJ)Ljava/util/OptionalLong;", sig := { parameters := [.long, .long], returnType := some (.object "java/util/OptionalLong") }, accessFlags := 9, code := some k2c2 }
def k2c3 : Code := { maxStack := 4, maxLocals := 4, code := prog_11_method_5_code, exceptionTable := #[], attributes := #[] }
def k2m3 : Method := { name := "requireOperands", desc := "(JJ)V", sig := { parameters := [.long, .long], returnType := none }, accessFlags := 10, code := some k2c3 }
def k2c4 : Code := { maxStack := 4, maxLocals := 2, code := prog_11_method_6_code, exceptionTable := #[], attributes := #[] }
def k2m4 : Method := { name := "isBalance", desc := "(J)Z", sig := { parameters := [.long], returnType := some .boolean }, accessFlags := 10, code := some k2c4 }
def k2c5 : Code := { maxStack := 2, maxLocals := 3, code := prog_11_method_7_code, exceptionTable := #[], attributes := #[] }
def k2m5 : Method := { name := "bounded", desc := "(J)Ljava/util/OptionalLong;", sig := { parameters := [.long], returnType := some (.object "java/util/OptionalLong") }, accessFlags := 10, code := some k2c5 }
/-- com/example/pledger/pledger/model/Money -/
def k2 : Class := { plain "com/example/pledger/pledger/model/Money" (some 0) with
  accessFlags := 33
  interfaces := #[]
  cf := some (fileOf pool2 7 #[] #[{ accessFlags := 2, nameIndex := 5, descriptorIndex := 6, attributes := #[] }, { accessFlags := 9, nameIndex := 21, descriptorIndex := 22, attributes := #[] }, { accessFlags := 9, nameIndex := 53, descriptorIndex := 54, attributes := #[] }, { accessFlags := 10, nameIndex := 13, descriptorIndex := 14, attributes := #[] }, { accessFlags := 10, nameIndex := 34, descriptorIndex := 22, attributes := #[] }, { accessFlags := 10, nameIndex := 17, descriptorIndex := 18, attributes := #[] }] 33 2 #[] #[{ accessFlags := 25, nameIndex := 47, descriptorIndex := 48, attributes := #[] }])
  fields := #[{ name := "MAX", type := .long, accessFlags := 25, slot := 0, constantValue := 0 }]
  methods := #[k2m0, k2m1, k2m2, k2m3, k2m4, k2m5]
  instanceTypes := #[]
  staticTypes := #[.long]
  resolved := Array.replicate 75 none
  statics := none }

def pool3 : Array CpInfo := pool [(1, .methodref 2 3), (0, .class_ 4), (0, .nameAndType 5 6), (0, u "java/lang/Object"), (0, u "<init>"), (0, u "()V"), (0, .fieldref 8 9), (0, .class_ 10), (0, .nameAndType 11 12), (0, u "java/util/OptionalLong"), (0, u "isPresent"), (0, u "Z"), (0, .fieldref 8 14), (0, .nameAndType 15 16), (0, u "value"), (0, u "J"), (0, .fieldref 8 18), (0, .nameAndType 19 20), (0, u "EMPTY"), (0, u "Ljava/util/OptionalLong;"), (0, .methodref 8 22), (0, .nameAndType 5 23), (0, u "(J)V"), (21, u "of"), (3, u "empty"), (5, u "getAsLong"), (0, u "()J"), (39, u "()Ljava/util/OptionalLong;"), (0, u "(J)Ljava/util/OptionalLong;"), (1, u "()Z")] 38

def k3m0 : Method := { name := "<init>", desc := "()V", sig := { parameters := [], returnType := none }, accessFlags := 2, code := none }
def k3c1 : Code := { maxStack := 1, maxLocals := 0, code := jdk_2650_method_2_code, exceptionTable := #[], attributes := #[] }
def k3m1 : Method := { name := "empty", desc := "()Ljava/util/OptionalLong;", sig := { parameters := [], returnType := some (.object "java/util/OptionalLong") }, accessFlags := 9, code := some k3c1 }
def k3c2 : Code := { maxStack := 3, maxLocals := 3, code := jdk_2650_method_3_code, exceptionTable := #[], attributes := #[] }
def k3m2 : Method := { name := "<init>", desc := "(J)V", sig := { parameters := [.long], returnType := none }, accessFlags := 2, code := some k3c2 }
def k3c3 : Code := { maxStack := 4, maxLocals := 2, code := jdk_2650_method_4_code, exceptionTable := #[], attributes := #[] }
def k3m3 : Method := { name := "of", desc := "(J)Ljava/util/OptionalLong;", sig := { parameters := [.long], returnType := some (.object "java/util/OptionalLong") }, accessFlags := 9, code := some k3c3 }
def k3c4 : Code := { maxStack := 3, maxLocals := 1, code := jdk_2650_method_5_code, exceptionTable := #[], attributes := #[] }
def k3m4 : Method := { name := "getAsLong", desc := "()J", sig := { parameters := [], returnType := some .long }, accessFlags := 1, code := some k3c4 }
def k3c5 : Code := { maxStack := 1, maxLocals := 1, code := jdk_2650_method_6_code, exceptionTable := #[], attributes := #[] }
def k3m5 : Method := { name := "isPresent", desc := "()Z", sig := { parameters := [], returnType := some .boolean }, accessFlags := 1, code := some k3c5 }
/-- java/util/OptionalLong -/
def k3 : Class := { plain "java/util/OptionalLong" (some 0) with
  accessFlags := 49
  interfaces := #[]
  cf := some (fileOf pool3 8 #[] #[{ accessFlags := 2, nameIndex := 5, descriptorIndex := 6, attributes := #[] }, { accessFlags := 9, nameIndex := 49, descriptorIndex := 96, attributes := #[] }, { accessFlags := 2, nameIndex := 5, descriptorIndex := 23, attributes := #[] }, { accessFlags := 9, nameIndex := 45, descriptorIndex := 97, attributes := #[] }, { accessFlags := 1, nameIndex := 55, descriptorIndex := 56, attributes := #[] }, { accessFlags := 1, nameIndex := 11, descriptorIndex := 99, attributes := #[] }] 49 2 #[] #[{ accessFlags := 26, nameIndex := 19, descriptorIndex := 20, attributes := #[] }, { accessFlags := 18, nameIndex := 11, descriptorIndex := 12, attributes := #[] }, { accessFlags := 18, nameIndex := 15, descriptorIndex := 16, attributes := #[] }])
  fields := #[{ name := "EMPTY", type := (.object "java/util/OptionalLong"), accessFlags := 26, slot := 0, constantValue := 0 }, { name := "isPresent", type := .boolean, accessFlags := 18, slot := 0, constantValue := 0 }, { name := "value", type := .long, accessFlags := 18, slot := 1, constantValue := 0 }]
  methods := #[k3m0, k3m1, k3m2, k3m3, k3m4, k3m5]
  instanceTypes := #[.boolean, .long]
  staticTypes := #[(.object "java/util/OptionalLong")]
  resolved := Array.replicate 138 none
  statics := some 0 }

def pool4 : Array CpInfo := pool [(1, .class_ 2), (0, u "java/lang/Math"), (1, .class_ 6), (1, u "java/lang/Object"), (0, u "<init>"), (0, u "()V"), (89, .class_ 100), (1, u "java/lang/Math$RandomNumberGeneratorHolder"), (20, u "(JJ)J"), (50, u "negativeZeroFloatBits"), (0, u "J"), (2, u "negativeZeroDoubleBits"), (24, u "min"), (43, u "$assertionsDisabled"), (0, u "Z"), (91, u "twoToTheDoubleScaleDown"), (0, u "D"), (4, u "twoToTheDoubleScaleUp"), (9, u "E"), (3, u "PI"), (2, u "TAU"), (2, u "DEGREES_TO_RADIANS"), (0, u "RADIANS_TO_DEGREES")] 94

def k4m0 : Method := { name := "<init>", desc := "()V", sig := { parameters := [], returnType := none }, accessFlags := 2, code := none }
def k4c1 : Code := { maxStack := 4, maxLocals := 4, code := jdk_29_method_70_code, exceptionTable := #[], attributes := #[] }
def k4m1 : Method := { name := "min", desc := "(JJ)J", sig := { parameters := [.long, .long], returnType := some .long }, accessFlags := 9, code := some k4c1 }
/-- java/lang/Math -/
def k4 : Class := { plain "java/lang/Math" (some 0) with
  accessFlags := 49
  interfaces := #[]
  cf := some (fileOf pool4 1 #[.nestMembers #[98]] #[{ accessFlags := 2, nameIndex := 7, descriptorIndex := 8, attributes := #[] }, { accessFlags := 9, nameIndex := 201, descriptorIndex := 121, attributes := #[] }] 49 4 #[] #[{ accessFlags := 25, nameIndex := 354, descriptorIndex := 339, attributes := #[] }, { accessFlags := 25, nameIndex := 358, descriptorIndex := 339, attributes := #[] }, { accessFlags := 25, nameIndex := 361, descriptorIndex := 339, attributes := #[] }, { accessFlags := 26, nameIndex := 364, descriptorIndex := 339, attributes := #[] }, { accessFlags := 26, nameIndex := 365, descriptorIndex := 339, attributes := #[] }, { accessFlags := 26, nameIndex := 172, descriptorIndex := 173, attributes := #[] }, { accessFlags := 26, nameIndex := 176, descriptorIndex := 173, attributes := #[] }, { accessFlags := 8, nameIndex := 344, descriptorIndex := 339, attributes := #[] }, { accessFlags := 8, nameIndex := 338, descriptorIndex := 339, attributes := #[] }, { accessFlags := 4120, nameIndex := 245, descriptorIndex := 246, attributes := #[] }])
  fields := #[{ name := "E", type := .double, accessFlags := 25, slot := 0, constantValue := 0 }, { name := "PI", type := .double, accessFlags := 25, slot := 1, constantValue := 0 }, { name := "TAU", type := .double, accessFlags := 25, slot := 2, constantValue := 0 }, { name := "DEGREES_TO_RADIANS", type := .double, accessFlags := 26, slot := 3, constantValue := 0 }, { name := "RADIANS_TO_DEGREES", type := .double, accessFlags := 26, slot := 4, constantValue := 0 }, { name := "negativeZeroFloatBits", type := .long, accessFlags := 26, slot := 5, constantValue := 0 }, { name := "negativeZeroDoubleBits", type := .long, accessFlags := 26, slot := 6, constantValue := 0 }, { name := "twoToTheDoubleScaleUp", type := .double, accessFlags := 8, slot := 7, constantValue := 0 }, { name := "twoToTheDoubleScaleDown", type := .double, accessFlags := 8, slot := 8, constantValue := 0 }, { name := "$assertionsDisabled", type := .boolean, accessFlags := 4120, slot := 9, constantValue := 0 }]
  methods := #[k4m0, k4m1]
  instanceTypes := #[]
  staticTypes := #[.double, .double, .double, .double, .double, .long, .long, .double, .double, .boolean]
  resolved := Array.replicate 460 none
  statics := none }

def pool5 : Array CpInfo := pool [(1, u "java/lang/Cloneable"), (0, .class_ 1), (0, u "java/lang/Object"), (0, .class_ 3)] 3

/-- java/lang/Cloneable -/
def k5 : Class := { plain "java/lang/Cloneable" (some 0) with
  accessFlags := 1537
  interfaces := #[]
  cf := some (fileOf pool5 2 #[] #[] 1537 4 #[] #[])
  fields := #[]
  methods := #[]
  instanceTypes := #[]
  staticTypes := #[]
  resolved := Array.replicate 8 none
  statics := none }

def pool6 : Array CpInfo := pool [(1, u "java/io/Serializable"), (0, .class_ 1), (0, u "java/lang/Object"), (0, .class_ 3)] 3

/-- java/io/Serializable -/
def k6 : Class := { plain "java/io/Serializable" (some 0) with
  accessFlags := 1537
  interfaces := #[]
  cf := some (fileOf pool6 2 #[] #[] 1537 4 #[] #[])
  fields := #[]
  methods := #[]
  instanceTypes := #[]
  staticTypes := #[]
  resolved := Array.replicate 8 none
  statics := none }

/-- the primitive byte -/
def k7 : Class := { plain "byte" none with kind := .primitive 'B', accessFlags := 0x411 }
/-- [B -/
def k8 : Class := { plain "[B" (some 0) with kind := .array 7 .byte, interfaces := #[5, 6], accessFlags := 1041 }

/-- the primitive int -/
def k9 : Class := { plain "int" none with kind := .primitive 'I', accessFlags := 0x411 }
/-- [I -/
def k10 : Class := { plain "[I" (some 0) with kind := .array 9 .int, interfaces := #[5, 6], accessFlags := 1041 }

def heap : Heap := #[{ cls := 3, slots := #[.ref 1], vm := .statics 3 },
  { cls := 3, slots := #[.int 0, .long 0], vm := .none }]
def classes : Array Class := #[k0, k1, k2, k3, k4, k5, k6, k7, k8, k9, k10]
def interned : List (Array UInt16 × Addr) := []
def slotsUsed : Nat := 3
def theMethod : MethodId := ⟨1, 1⟩
def args0 : Array Value := #[.long 5, .long 6, .int 7]
def aboutOver (below : List Frame) : State where
  vm := { classes := classes, interned := interned.toArray }
  heap := heap
  slotsUsed := slotsUsed
  threads := #[{ frames := .invoking theMethod args0 :: below }]
def below0 : List Frame := [.native { method := ⟨0, 0⟩, args := #[] }]
def about1 : State := aboutOver below0
def p0 : Program := .bare "" "" ""
def e0 : Env := launch0.env 0 0 0
theorem w_frames : about1.frames = Frame.invoking theMethod args0 :: below0 := rfl
set_option maxRecDepth 65536 in
theorem w_args : argsFit about1.vm theMethod args0 = true := by decide +kernel
set_option maxRecDepth 65536 in
theorem w_heap : heapFits about1 = true := by decide +kernel
set_option maxRecDepth 65536 in
theorem w_runnable : about1.curStatus? = some .runnable := by decide +kernel
set_option maxRecDepth 65536 in
theorem w_alone : about1.alone = true := by decide +kernel
set_option maxRecDepth 65536 in
theorem w_named : about1.methodNamed? x = some theMethod := by decide +kernel
set_option maxRecDepth 65536 in
theorem w_hears : about1.hears theMethod below0 = true := by decide +kernel
set_option maxRecDepth 65536 in
theorem w_ripe : about1.ripe theMethod args0 below0 = true := by decide +kernel
theorem w_running : about1.status = .running := rfl
set_option maxRecDepth 65536 in
theorem w_room : about1.hasRoom e0.platform room_1 = true :=
  launch0.hasRoom_least _ room_1 (by decide +kernel) (by decide +kernel) (by decide +kernel) (by decide +kernel) (by decide +kernel) (by decide +kernel)
theorem allAtoms_all (ts : List Jvm.Cond) (a : Array Jvm.Value) (st : Jvm.State) : (allAtoms ts).before a st = ts.all (fun c => c.before a st) := by
  induction ts with
  | nil => rfl
  | cons c t ih =>
    show (Jvm.Cond.and c (allAtoms t)).before a st = _
    rw [Jvm.Cond.before_and, ih, List.all_cons]
def words1 : List Jvm.Cond := Jvm.Cond.code x code maxLocals ret :: tables_1
/-- a 'code' word, met by the world's own term for the bytes: nothing is compared byte by byte -/
theorem code_word {y : MethodName} {bytes : ByteArray} {mx : Nat} {rt : Option FieldType} {a : Array Value} {s : State} {m : MethodId} {meth : Method} {c : Code} (h1 : s.methodNamed? y = some m) (h2 : s.vm.method? m = some meth) (h3 : meth.code = some c) (h4 : c.code = bytes)
    (h5 : (c.maxLocals == mx && c.exceptionTable.isEmpty && decide (c.maxStack ≤ mostOperands) && decide (meth.sig.returnType = rt) && !meth.locks && decide (parseMethodDescriptor y.desc = some meth.sig)) = true) : (Jvm.Cond.code y bytes mx rt).before a s = true := by
  simp only [Bool.and_eq_true, beq_iff_eq, Bool.not_eq_true', decide_eq_true_eq] at h5
  obtain ⟨⟨⟨⟨⟨g1, g2⟩, g3⟩, g4⟩, g5⟩, g6⟩ := h5
  simp [Cond.before, Cond.holds, Cond.value, h1, h2, h3, h4, g1, g2, g3, g4, g5, g6]
def isCode : Jvm.Cond → Bool
  | .code _ _ _ _ => true
  | _ => false
theorem all_split {L : List Jvm.Cond} {P : Jvm.Cond → Bool} (h1 : L.all (fun c => isCode c || P c) = true) (h2 : ∀ c ∈ L.filter isCode, P c = true) : L.all P = true := by
  refine List.all_eq_true.mpr fun c hc => ?_
  have h := List.all_eq_true.mp h1 c hc
  rcases Bool.eq_false_or_eq_true (isCode c) with hi | hi
  · exact h2 c (List.mem_filter.mpr ⟨hc, hi⟩)
  · simpa [hi] using h
set_option maxRecDepth 65536 in
theorem w_c0 : (Jvm.Cond.code x code maxLocals ret).before args0 about1 = true := code_word (m := ⟨1, 1⟩) (meth := k1m1) (c := k1c1) (by decide +kernel) rfl rfl rfl (by decide +kernel)
set_option maxRecDepth 65536 in
theorem w_c1 : (Jvm.Cond.code ({ cls := "com/example/pledger/pledger/model/Money", name := "credit", desc := "(JJ)Ljava/util/OptionalLong;" } : Jvm.MethodName) prog_11_method_3_code (4 : Nat) (Option.some (Jvm.ClassFile.FieldType.object "java/util/OptionalLong"))).before args0 about1 = true := code_word (m := ⟨2, 2⟩) (meth := k2m2) (c := k2c2) (by decide +kernel) rfl rfl rfl (by decide +kernel)
set_option maxRecDepth 65536 in
theorem w_c2 : (Jvm.Cond.code ({ cls := "com/example/pledger/pledger/model/Money", name := "requireOperands", desc := "(JJ)V" } : Jvm.MethodName) prog_11_method_5_code (4 : Nat) (Option.none : Option Jvm.ClassFile.FieldType)).before args0 about1 = true := code_word (m := ⟨2, 3⟩) (meth := k2m3) (c := k2c3) (by decide +kernel) rfl rfl rfl (by decide +kernel)
set_option maxRecDepth 65536 in
theorem w_c3 : (Jvm.Cond.code ({ cls := "com/example/pledger/pledger/model/Money", name := "isAmount", desc := "(J)Z" } : Jvm.MethodName) prog_11_method_2_code (2 : Nat) (Option.some Jvm.ClassFile.FieldType.boolean)).before args0 about1 = true := code_word (m := ⟨2, 1⟩) (meth := k2m1) (c := k2c1) (by decide +kernel) rfl rfl rfl (by decide +kernel)
set_option maxRecDepth 65536 in
theorem w_c4 : (Jvm.Cond.code ({ cls := "com/example/pledger/pledger/model/Money", name := "isBalance", desc := "(J)Z" } : Jvm.MethodName) prog_11_method_6_code (2 : Nat) (Option.some Jvm.ClassFile.FieldType.boolean)).before args0 about1 = true := code_word (m := ⟨2, 4⟩) (meth := k2m4) (c := k2c4) (by decide +kernel) rfl rfl rfl (by decide +kernel)
set_option maxRecDepth 65536 in
theorem w_c5 : (Jvm.Cond.code ({ cls := "com/example/pledger/pledger/model/Money", name := "bounded", desc := "(J)Ljava/util/OptionalLong;" } : Jvm.MethodName) prog_11_method_7_code (3 : Nat) (Option.some (Jvm.ClassFile.FieldType.object "java/util/OptionalLong"))).before args0 about1 = true := code_word (m := ⟨2, 5⟩) (meth := k2m5) (c := k2c5) (by decide +kernel) rfl rfl rfl (by decide +kernel)
set_option maxRecDepth 65536 in
theorem w_c6 : (Jvm.Cond.code ({ cls := "java/util/OptionalLong", name := "of", desc := "(J)Ljava/util/OptionalLong;" } : Jvm.MethodName) jdk_2650_method_4_code (2 : Nat) (Option.some (Jvm.ClassFile.FieldType.object "java/util/OptionalLong"))).before args0 about1 = true := code_word (m := ⟨3, 3⟩) (meth := k3m3) (c := k3c3) (by decide +kernel) rfl rfl rfl (by decide +kernel)
set_option maxRecDepth 65536 in
theorem w_c7 : (Jvm.Cond.code ({ cls := "java/util/OptionalLong", name := "<init>", desc := "(J)V" } : Jvm.MethodName) jdk_2650_method_3_code (3 : Nat) (Option.none : Option Jvm.ClassFile.FieldType)).before args0 about1 = true := code_word (m := ⟨3, 2⟩) (meth := k3m2) (c := k3c2) (by decide +kernel) rfl rfl rfl (by decide +kernel)
set_option maxRecDepth 65536 in
theorem w_c8 : (Jvm.Cond.code ({ cls := "java/lang/Object", name := "<init>", desc := "()V" } : Jvm.MethodName) object_method_1_code (1 : Nat) (Option.none : Option Jvm.ClassFile.FieldType)).before args0 about1 = true := code_word (m := ⟨0, 0⟩) (meth := k0m0) (c := k0c0) (by decide +kernel) rfl rfl rfl (by decide +kernel)
set_option maxRecDepth 65536 in
theorem w_c9 : (Jvm.Cond.code ({ cls := "java/util/OptionalLong", name := "isPresent", desc := "()Z" } : Jvm.MethodName) jdk_2650_method_6_code (1 : Nat) (Option.some Jvm.ClassFile.FieldType.boolean)).before args0 about1 = true := code_word (m := ⟨3, 5⟩) (meth := k3m5) (c := k3c5) (by decide +kernel) rfl rfl rfl (by decide +kernel)
set_option maxRecDepth 65536 in
theorem w_c10 : (Jvm.Cond.code ({ cls := "java/util/OptionalLong", name := "getAsLong", desc := "()J" } : Jvm.MethodName) jdk_2650_method_5_code (1 : Nat) (Option.some Jvm.ClassFile.FieldType.long)).before args0 about1 = true := code_word (m := ⟨3, 4⟩) (meth := k3m4) (c := k3c4) (by decide +kernel) rfl rfl rfl (by decide +kernel)
set_option maxRecDepth 65536 in
theorem w_c11 : (Jvm.Cond.code ({ cls := "java/util/OptionalLong", name := "empty", desc := "()Ljava/util/OptionalLong;" } : Jvm.MethodName) jdk_2650_method_2_code (0 : Nat) (Option.some (Jvm.ClassFile.FieldType.object "java/util/OptionalLong"))).before args0 about1 = true := code_word (m := ⟨3, 1⟩) (meth := k3m1) (c := k3c1) (by decide +kernel) rfl rfl rfl (by decide +kernel)
set_option maxRecDepth 65536 in
theorem w_c12 : (Jvm.Cond.code ({ cls := "java/lang/Math", name := "min", desc := "(JJ)J" } : Jvm.MethodName) jdk_29_method_70_code (4 : Nat) (Option.some Jvm.ClassFile.FieldType.long)).before args0 about1 = true := code_word (m := ⟨4, 1⟩) (meth := k4m1) (c := k4c1) (by decide +kernel) rfl rfl rfl (by decide +kernel)
def codes1 : List Jvm.Cond := [Jvm.Cond.code x code maxLocals ret, Jvm.Cond.code ({ cls := "com/example/pledger/pledger/model/Money", name := "credit", desc := "(JJ)Ljava/util/OptionalLong;" } : Jvm.MethodName) prog_11_method_3_code (4 : Nat) (Option.some (Jvm.ClassFile.FieldType.object "java/util/OptionalLong")), Jvm.Cond.code ({ cls := "com/example/pledger/pledger/model/Money", name := "requireOperands", desc := "(JJ)V" } : Jvm.MethodName) prog_11_method_5_code (4 : Nat) (Option.none : Option Jvm.ClassFile.FieldType), Jvm.Cond.code ({ cls := "com/example/pledger/pledger/model/Money", name := "isAmount", desc := "(J)Z" } : Jvm.MethodName) prog_11_method_2_code (2 : Nat) (Option.some Jvm.ClassFile.FieldType.boolean), Jvm.Cond.code ({ cls := "com/example/pledger/pledger/model/Money", name := "isBalance", desc := "(J)Z" } : Jvm.MethodName) prog_11_method_6_code (2 : Nat) (Option.some Jvm.ClassFile.FieldType.boolean), Jvm.Cond.code ({ cls := "com/example/pledger/pledger/model/Money", name := "bounded", desc := "(J)Ljava/util/OptionalLong;" } : Jvm.MethodName) prog_11_method_7_code (3 : Nat) (Option.some (Jvm.ClassFile.FieldType.object "java/util/OptionalLong")), Jvm.Cond.code ({ cls := "java/util/OptionalLong", name := "of", desc := "(J)Ljava/util/OptionalLong;" } : Jvm.MethodName) jdk_2650_method_4_code (2 : Nat) (Option.some (Jvm.ClassFile.FieldType.object "java/util/OptionalLong")), Jvm.Cond.code ({ cls := "java/util/OptionalLong", name := "<init>", desc := "(J)V" } : Jvm.MethodName) jdk_2650_method_3_code (3 : Nat) (Option.none : Option Jvm.ClassFile.FieldType), Jvm.Cond.code ({ cls := "java/lang/Object", name := "<init>", desc := "()V" } : Jvm.MethodName) object_method_1_code (1 : Nat) (Option.none : Option Jvm.ClassFile.FieldType), Jvm.Cond.code ({ cls := "java/util/OptionalLong", name := "isPresent", desc := "()Z" } : Jvm.MethodName) jdk_2650_method_6_code (1 : Nat) (Option.some Jvm.ClassFile.FieldType.boolean), Jvm.Cond.code ({ cls := "java/util/OptionalLong", name := "getAsLong", desc := "()J" } : Jvm.MethodName) jdk_2650_method_5_code (1 : Nat) (Option.some Jvm.ClassFile.FieldType.long), Jvm.Cond.code ({ cls := "java/util/OptionalLong", name := "empty", desc := "()Ljava/util/OptionalLong;" } : Jvm.MethodName) jdk_2650_method_2_code (0 : Nat) (Option.some (Jvm.ClassFile.FieldType.object "java/util/OptionalLong")), Jvm.Cond.code ({ cls := "java/lang/Math", name := "min", desc := "(JJ)J" } : Jvm.MethodName) jdk_29_method_70_code (4 : Nat) (Option.some Jvm.ClassFile.FieldType.long)]
set_option maxRecDepth 65536 in
theorem codes_eq : words1.filter isCode = codes1 := rfl
theorem w_codes : ∀ c ∈ words1.filter isCode, c.before args0 about1 = true := by
  rw [codes_eq]
  intro c hc
  simp only [codes1, List.mem_cons, List.not_mem_nil, or_false] at hc
  rcases hc with rfl | rfl | rfl | rfl | rfl | rfl | rfl | rfl | rfl | rfl | rfl | rfl | rfl
  · exact w_c0
  · exact w_c1
  · exact w_c2
  · exact w_c3
  · exact w_c4
  · exact w_c5
  · exact w_c6
  · exact w_c7
  · exact w_c8
  · exact w_c9
  · exact w_c10
  · exact w_c11
  · exact w_c12
set_option maxRecDepth 65536 in
theorem w_t1 : (words1.take 24).all (fun c => isCode c || c.before args0 about1) = true := by decide +kernel
set_option maxRecDepth 65536 in
theorem w_t2 : ((words1.drop 24).take 24).all (fun c => isCode c || c.before args0 about1) = true := by decide +kernel
set_option maxRecDepth 65536 in
theorem w_t3 : ((words1.drop 24).drop 24).all (fun c => isCode c || c.before args0 about1) = true := by decide +kernel
theorem w_tables : (allAtoms (Jvm.Cond.code x code maxLocals ret :: tables_1)).before args0 about1 = true := by
  rw [allAtoms_all]
  show words1.all (fun c => c.before args0 about1) = true
  refine all_split ?_ w_codes
  rw [← List.take_append_drop 24 words1, List.all_append, w_t1, ← List.take_append_drop 24 (words1.drop 24), List.all_append, w_t2, w_t3]
  rfl
set_option maxRecDepth 65536 in
theorem w_rest : rest_1_c.before args0 about1 = true := by decide +kernel
set_option maxRecDepth 65536 in
theorem w_case : (Jvm.Cond.and given_1 narrow_1).before args0 about1 = true := by decide +kernel
theorem w_applies : (headSpec (Jvm.Cond.code x code maxLocals ret :: tables_1) room_1).applies x e0.platform about1 = true :=
  (Spec.applies_iff w_frames).mpr ⟨w_running, w_runnable, w_alone, w_named, w_hears, w_ripe, w_room, w_tables⟩
theorem atStart : AtStart classFile x code maxLocals ret World_1 tables_1 room_1 Calls_1 rest_1 Pre_1 launch0 p0 e0 about1 theMethod args0 below0 :=
  ⟨lists_1, trivial, launch0.admits_env _ _ _, launch0.least_env, fairChoices_fair.cas, fairChoices_fair.clock, w_frames, w_args, w_heap, w_applies, trivial, w_rest, w_case⟩
end start1
theorem witness_1 : WitnessClaimed_1 := ⟨start1.p0, start1.e0, start1.about1, start1.theMethod, start1.args0, start1.below0, start1.atStart⟩
end Jvm.Pilot.@@N@@
