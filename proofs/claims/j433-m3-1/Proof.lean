import JvmDerived
import JvmDerived.Pilot.@@N@@Statement
import JvmDerived.Pilot.@@N@@Code
set_option linter.unusedVariables false
set_option linter.unusedSimpArgs false

namespace Jvm.RoadKit
open Sem ClassFile Op Lib Jvm.Stand Jvm.Free Jvm.LawKit
section New
variable {p : Program} {l : Launch} {e : Env} {R : Room} {s : State} {m : MethodId} {args : Array Value} {below : List Frame} {meth : Method} {c : Code} {T : State} {locs : List Loc} {cells slots : Nat}
theorem own_retI (X : Stand p l e R s m args below meth c T locs cells slots) (hx : p.tables.exec = Jvm.exec) {pc : Nat} {Ls : Array Slot} {z : Int32} {rest : List Value} (hret : meth.sig.returnType = some .int) (hd : decode c.code pc = .ok (.ireturn, 1)) {fs : List Frame}
    (hl : ∀ (f : JFrame) (acts : List Action), f.method = m → f.locked = none → f.entered = [] → (doReturn e (T.setTop f) acts (some (.int z))).1 = T.setFrames fs) : Steps p.tables e below (T.setTop (mkF m pc Ls (.int z :: rest))) (T.setFrames fs) :=
  retOut X hx (t := .int) (w := .int z) (i := .ireturn) hret rfl (Or.inl ⟨rfl, Or.inl rfl, z, rfl⟩) hd hl
end New
end Jvm.RoadKit

namespace Jvm.Pilot.@@N@@
open Jvm Jvm.ClassFile Sem Op Lib Jvm.Free Jvm.Stand Jvm.LawKit Jvm.RoadKit Bundle Jvm.Pilot.@@N@@.Jvm.D

theorem own_g {Z : State} {a0 : Array Value} (hw : ∀ d ∈ tables_1, d.before a0 Z = true) (i : Nat) {d : Jvm.Cond} (h : tables_1[i]? = some d) : d.before a0 Z = true := hw _ (List.mem_of_getElem? h)
/-- from the state T the run comes to an end that F takes -/
def own_Ends (p : Program) (e : Env) (below : List Frame) (F : Outcome → State → Prop) (T : State) : Prop :=
  ∃ s₂ o, Steps p.tables e below T s₂ ∧ s₂.status = .running ∧ Ended s₂ below o ∧ F o s₂
def own_Fin (s : State) (Q : Option Value → Heap → List Loc → Prop) (C S : Nat) (o : Outcome) (U : State) : Prop :=
  ∃ v L, o = .returned v ∧ Q v U.heap L ∧ FrameEnd s o U L C S
theorem own_Sta_keep {Z : State} {h h' : Heap} {C n d : String} {v : Value} {ws : List Addr} (F : Sta Z h C n d v) (K : Keep h h' ws) (q : ∀ x ∈ ws, ∀ c : Cell, h[x]? = some c → c.vm.isStatics = false) : Sta Z h' C n d v := by
  obtain ⟨cf, i, k, f, st, cell, h1, h2, h3, h4, h5, h6, h7⟩ := F
  exact ⟨cf, i, k, f, st, cell, h1, h2, h3, h4, K.2.1 st cell h5 (fun m => by rw [q st m cell h5] at h6; cases h6), h6, h7⟩
theorem own_ns_exa {Z : State} {h : Heap} {a : Addr} {C : String} (F : Exa Z h a C) : ∀ c : Cell, h[a]? = some c → c.vm.isStatics = false := fun c hc => by
  obtain ⟨cell, k, h1, h2, h3, h4, h5⟩ := F
  cases h1.symm.trans hc; exact h4
theorem own_ns_arv {Z : State} {h : Heap} {a : Addr} {k : ClassId} {ty : FieldType} {n : Int32} {vs : List Value} {d : Value} (F : Arv Z h a k ty n vs d) : ∀ c : Cell, h[a]? = some c → c.vm.isStatics = false := fun c hc => by
  obtain ⟨cell, A, r⟩ := F
  cases A.1.symm.trans hc; exact A.plain
section OwnSteps
variable {p : Program} {l : Launch} {e : Env} {R : Room} {s : State} {m : MethodId} {args : Array Value} {below : List Frame} {meth : Method} {c : Code} {T T' : State} {locs : List Loc} {cells slots cells' slots' : Nat} {F : Outcome → State → Prop}
theorem own_step (h : ∀ target, Steps p.tables e below T' target → Steps p.tables e below T target) (k : own_Ends p e below F T') : own_Ends p e below F T := by
  obtain ⟨s₂, o, h1, h2⟩ := k
  exact ⟨s₂, o, h _ h1, h2⟩
theorem own_trans (h : Steps p.tables e below T T') (k : own_Ends p e below F T') : own_Ends p e below F T := by
  obtain ⟨s₂, o, h1, h2⟩ := k
  exact ⟨s₂, o, h.trans h1, h2⟩
theorem own_mono (X : Stand p l e R s m args below meth c T locs cells slots) (h1 : cells ≤ cells') (h2 : slots ≤ slots') : Stand p l e R s m args below meth c T locs cells' slots' :=
  { X with same := X.same.mono h1 h2 }
theorem own_ret {Q : Option Value → Heap → List Loc → Prop} {C S : Nat} {g : JFrame} (X : Stand p l e R s m args below meth c T locs cells slots) {v : Option Value} (hv : meth.sig.returnType = none → v = none) (hlocks : meth.locks = false)
    (st : ∀ fs, (∀ (f : JFrame) (acts : List Action), f.method = m → f.locked = none → f.entered = [] → (doReturn e (T.setTop f) acts v).1 = T.setFrames fs) → Steps p.tables e below (T.setTop g) (T.setFrames fs))
    (h1 : cells ≤ C) (h2 : slots ≤ S) (hQ : Q v T.heap locs) : own_Ends p e below (own_Fin s Q C S) (T.setTop g) := by
  obtain ⟨fs, hr, hrun, hended, hW, hsame⟩ := X.leave (v := v) hv hlocks
  exact ⟨_, _, st fs hr, hrun, hended, _, _, rfl, hQ, ⟨_, rfl⟩, hW, hsame.mono h1 h2⟩
def own_FinW (s : State) (Q : Option Value → Heap → List Loc → Prop) (C S : Nat) (o : Outcome) (U : State) : Prop :=
  ∃ v L, o = .returned v ∧ Q v U.heap L ∧ ReturnedEndW s o U L C S
theorem own_retW {vm : Vm} {k : Nat} {Q : Option Value → Heap → List Loc → Prop} {C S : Nat} {g : JFrame} (X : Stand p l e R (s.setVm vm) m args below meth c T locs cells slots) (hS : s.Since vm k) (hk : k ≤ T.heap.size) {v : Option Value} (hv : meth.sig.returnType = none → v = none) (hlocks : meth.locks = false)
    (st : ∀ fs, (∀ (f : JFrame) (acts : List Action), f.method = m → f.locked = none → f.entered = [] → (doReturn e (T.setTop f) acts v).1 = T.setFrames fs) → Steps p.tables e below (T.setTop g) (T.setFrames fs))
    (h1 : cells ≤ C) (h2 : slots ≤ S) (hQ : Q v T.heap locs) : own_Ends p e below (own_FinW s Q C S) (T.setTop g) := by
  obtain ⟨fs, hr, hrun, hended, a, b, c', d'⟩ := X.leaveW hS hk (v := v) hv hlocks
  exact ⟨_, _, st fs hr, hrun, hended, _, _, rfl, hQ, a, b, c', d'.mono h1 h2⟩
theorem own_warm {Z : State} {vm0 vm1 : Vm} {k : Nat} (hZ : Z.Warmed39 vm0) (hS : (s.setVm vm0).Since vm1 k) : Z.Warmed39 vm1 := State.Warmed39.trans (t := s.setVm vm0) hZ hS.1
theorem own_find {vm0 vm1 : Vm} {k : Nat} {own : String} {c0 : ClassId} (h : vm0.findClass own = some c0) (hS : (s.setVm vm0).Since vm1 k) : vm1.findClass own = some c0 := by
  rw [hS.1.alike.findClass]; exact h
def own_FinH (Z : State) (EL : List (String × Nat)) (s : State) (Q : Option Value → Heap → List Loc → Prop) (C S : Nat) (o : Outcome) (U : State) : Prop :=
  ∃ v L, o = .returned v ∧ Q v U.heap L ∧ CHr Z EL s.vm s.heap U.vm U.heap ∧ ReturnedEndW s o U L C S
theorem own_retH {Z : State} {a0 : Array Value} {EL : List (String × Nat)} {vm : Vm} {k : Nat} {h0 h : Heap} {Q : Option Value → Heap → List Loc → Prop} {C S : Nat} {g : JFrame} (X : Stand p l e R (s.setVm vm) m args below meth c T locs cells slots) (hS : s.Since vm k) (hk : k ≤ T.heap.size) (hh : s.heap = h0) (eT : T.heap = h) (hZ : Z.Warmed39 vm) (hEL : EW Z a0 EL) (hC : CHr Z EL s.vm h0 vm h) {v : Option Value} (hv : meth.sig.returnType = none → v = none) (hlocks : meth.locks = false)
    (st : ∀ fs, (∀ (f : JFrame) (acts : List Action), f.method = m → f.locked = none → f.entered = [] → (doReturn e (T.setTop f) acts v).1 = T.setFrames fs) → Steps p.tables e below (T.setTop g) (T.setFrames fs))
    (h1 : cells ≤ C) (h2 : slots ≤ S) (hQ : Q v T.heap locs) : own_Ends p e below (own_FinH Z EL s Q C S) (T.setTop g) := by
  obtain ⟨fs, hr, hrun, hended, a, b, c', d'⟩ := X.leaveW hS hk (v := v) hv hlocks
  have q : CHr Z EL s.vm s.heap T.vm T.heap := by
    rw [hh, eT]; exact hC.trans (CHv.at X hZ hEL hC.1)
  exact ⟨_, _, st fs hr, hrun, hended, _, _, rfl, hQ, q, a, b, c', d'.mono h1 h2⟩
def own_SL (Z : State) (EL : List (String × Nat)) (vm : Vm) (h : Heap) (x : Addr) : Prop := x < h.size ∧ Safe Z EL vm h x
theorem own_SL.go {Z : State} {EL : List (String × Nat)} {vm vm1 : Vm} {h h' : Heap} {x : Addr} (F : own_SL Z EL vm h x) (A : CHr Z EL vm h vm1 h') : own_SL Z EL vm1 h' x := ⟨Nat.lt_of_lt_of_le F.1 A.2.1, A.safe F.1 F.2⟩
theorem own_SL.born {Z : State} {EL : List (String × Nat)} {vm : Vm} {h h' : Heap} {x : Addr} (H : CHv Z EL vm h) (E : Ext h h') (g : x = h.size) (lt : x < h'.size) : own_SL Z EL vm h' x := ⟨lt, Safe.ext E H (Safe.new (Nat.le_of_eq g.symm))⟩
end OwnSteps

def own_Ai (Z : State) (h : Heap) (a : Addr) (n : Nat) (g : Nat → Int32) : Prop := ∃ c : Cell, Arr Z h a c .int ∧ c.slots.size = n ∧ ∀ i, i < n → c.slots[i]? = some (.int (g i))
def own_upd (g : Nat → Int32) (k : Nat) (x : Int32) : Nat → Int32 := fun i => if i = k then x else g i
theorem own_Ai.lt {Z : State} {h : Heap} {a : Addr} {n : Nat} {g : Nat → Int32} (F : own_Ai Z h a n g) : a < h.size := by obtain ⟨c, A, -⟩ := F; exact A.lt
theorem own_Ai.ext {Z : State} {h h' : Heap} {a : Addr} {n : Nat} {g : Nat → Int32} (F : own_Ai Z h a n g) (E : Ext h h') : own_Ai Z h' a n g := by obtain ⟨c, A, r⟩ := F; exact ⟨c, A.ext E, r⟩
theorem own_Ai.other {Z : State} {h h' : Heap} {a b : Addr} {sl n : Nat} {v : Value} {g : Nat → Int32} (F : own_Ai Z h b n g) (W : Wr h h' a sl v) (q : b ≠ a) : own_Ai Z h' b n g := by obtain ⟨c, A, r⟩ := F; exact ⟨c, A.other W q, r⟩
theorem own_Ai.keep {Z : State} {h h' : Heap} {a : Addr} {n : Nat} {ws : List Addr} {g : Nat → Int32} (F : own_Ai Z h a n g) (K : Keep h h' ws) (q : a ∉ ws) : own_Ai Z h' a n g := by obtain ⟨c, A, r⟩ := F; exact ⟨c, ⟨K.2.1 a c A.1 q, A.2⟩, r⟩
theorem own_Ai.new {Z : State} {h : Heap} {a : Addr} {k : ClassId} {z : Int32} (A : Arr Z h a (newA k .int z) .int) (q : ¬ z < 0) : own_Ai Z h a z.toNatClampNeg (fun _ => (0 : Int32)) :=
  ⟨_, A, sz_new _ _ _, fun i hi => by simp [newA, hi, defaultValue]⟩
theorem own_inb {c : Cell} {n : Nat} {j : Int32} (S : c.slots.size = n) (q : ¬ j < 0 ∧ j.toNatClampNeg < n) : ¬ (j < 0 ∨ c.slots.size ≤ j.toNatClampNeg) := by rw [S]; intro h; rcases h with h | h; exact q.1 h; omega
theorem own_gat {c : Cell} {n : Nat} {j : Int32} {g : Nat → Int32} (S : c.slots.size = n) (G : ∀ i, i < n → c.slots[i]? = some (.int (g i))) (q : ¬ (j < 0 ∨ c.slots.size ≤ j.toNatClampNeg)) : c.slots[j.toNatClampNeg]? = some (.int (g j.toNatClampNeg)) := G _ (by have := mt Or.inr q; omega)
theorem own_Ai.set {Z : State} {h h' : Heap} {a : Addr} {k n : Nat} {g : Nat → Int32} {x : Int32} (F : own_Ai Z h a n g) (W : Wr h h' a k (.int x)) : own_Ai Z h' a n (own_upd g k x) := by
  obtain ⟨c, A, S, G⟩ := F
  refine ⟨_, A.same W, by rw [sz_set]; exact S, fun i hi => ?_⟩
  unfold own_upd
  by_cases q : i = k
  · subst q; rw [if_pos rfl]; simp [Cell.setSlot, S, hi]
  · rw [if_neg q, ← G i hi]; exact Array.getElem?_setIfInBounds_ne (Ne.symm q)

theorem own_m3 (x : Int32) : x &&& 3 = 0 ∨ x &&& 3 = 1 ∨ x &&& 3 = 2 ∨ x &&& 3 = 3 := by
  have h := c_mask x 3 2 (by decide) (by decide)
  have e : ∀ k : Int32, (x &&& 3).toInt = k.toInt → x &&& 3 = k := fun k q => Int32.toInt_inj.mp q
  have p : ((2 ^ 2 : Nat) : Int) = 4 := rfl
  rw [p] at h
  have h4 : x.toInt % 4 = 0 ∨ x.toInt % 4 = 1 ∨ x.toInt % 4 = 2 ∨ x.toInt % 4 = 3 := by omega
  rcases h4 with q | q | q | q <;> rw [q] at h
  · exact Or.inl (e 0 h)
  · exact Or.inr (Or.inl (e 1 h))
  · exact Or.inr (Or.inr (Or.inl (e 2 h)))
  · exact Or.inr (Or.inr (Or.inr (e 3 h)))

def own_has (wa wb : Int64) (n : Int32) : Int32 := if n < (64 : Int32) then (if ((wa.toUInt64 >>> ((n &&& (63 : Int32)) &&& 0x3f).toInt64.toUInt64).toInt64 &&& (1 : Int64)) = (1 : Int64) then 1 else 0) else (if ((wb.toUInt64 >>> ((n &&& (63 : Int32)) &&& 0x3f).toInt64.toUInt64).toInt64 &&& (1 : Int64)) = (1 : Int64) then 1 else 0)
def own_w (wa wb : Int64) (n : Int32) : Int64 := if n < (64 : Int32) then wa else wb
abbrev own_u1 (x : Int32) : Int32 := ((x.toUInt32 >>> ((1 : Int32) &&& 31).toUInt32).toInt32)
def own_R (n : Int32) : Prop := 0 ≤ n.toInt ∧ n.toInt < 128
abbrev own_i6 (n : Int32) : Int32 := ((n.toUInt32 >>> ((6 : Int32) &&& 31).toUInt32).toInt32)
theorem own_i6_int (n : Int32) (h : own_R n) : (own_i6 n).toInt = n.toInt / 64 := by
  have e := c_iushr n 6 6 (by decide) (by decide)
  have p : ((2 ^ 6 : Nat) : Int) = 64 := rfl
  rw [p] at e
  unfold own_R at h
  rw [e]; omega
theorem own_i6_in (n : Int32) (h : own_R n) : ¬ own_i6 n < 0 ∧ own_i6 n < (2 : Int32) := by
  have e := own_i6_int n h
  unfold own_R at h
  have z : (0 : Int32).toInt = 0 := rfl
  have z2 : (2 : Int32).toInt = 2 := rfl
  rw [Int32.lt_iff_toInt_lt, Int32.lt_iff_toInt_lt, e, z, z2]
  omega
theorem own_i6_at (wa wb : Int64) (n : Int32) (h : own_R n) : [Value.long wa, Value.long wb].getD (own_i6 n).toNatClampNeg (.long (0 : Int64)) = .long (own_w wa wb n) := by
  have e := own_i6_int n h
  unfold own_R at h
  have z : (64 : Int32).toInt = 64 := rfl
  unfold own_w
  by_cases q : n < (64 : Int32)
  · have q' := q
    rw [Int32.lt_iff_toInt_lt, z] at q'
    have k : (own_i6 n).toNatClampNeg = 0 := by simp only [Int32.toNatClampNeg, e]; omega
    rw [k, if_pos q]; rfl
  · have q' := q
    rw [Int32.lt_iff_toInt_lt, z] at q'
    have k : (own_i6 n).toNatClampNeg = 1 := by simp only [Int32.toNatClampNeg, e]; omega
    rw [k, if_neg q]; rfl
theorem own_bv (w : BitVec 64) (k : Nat) (hk : k < 64) : (w &&& (1#64 <<< k) = 0#64 ↔ ¬ (w >>> k) &&& 1#64 = 1#64) := by
  have e1 : (w >>> k) &&& 1#64 = (BitVec.ofBool (w.getLsbD k)).setWidth 64 := by
    rw [BitVec.and_one_eq_setWidth_ofBool_getLsbD]; simp
  have e2 : w &&& (1#64 <<< k) = if w.getLsbD k then BitVec.twoPow 64 k else 0#64 := by
    rw [← BitVec.twoPow_eq, BitVec.and_twoPow]
  rw [e1, e2]
  cases h : w.getLsbD k
  · simp
  · simp only [if_true]
    constructor
    · intro q
      have := congrArg (fun z : BitVec 64 => z.getLsbD k) q
      simp [BitVec.getLsbD_twoPow, hk] at this
    · intro q; exact absurd (by decide) q
theorem own_bit (w : Int64) (n : Int32) : (w &&& ((1 : Int64) <<< (n &&& 0x3f).toInt64) = 0 ↔ ¬ ((w.toUInt64 >>> ((n &&& (63 : Int32)) &&& 0x3f).toInt64.toUInt64).toInt64 &&& (1 : Int64)) = (1 : Int64)) := by
  obtain ⟨k, hk⟩ : ∃ k, n.toBitVec.toNat % 64 = k := ⟨_, rfl⟩
  have h1 := sm64 n k hk
  have hk2 : (n &&& 63).toBitVec.toNat % 64 = k := by
    rw [Int32.toBitVec_and, BitVec.toNat_and, show (63 : Int32).toBitVec.toNat = 2 ^ 6 - 1 from by decide, Nat.and_two_pow_sub_one_eq_mod]
    omega
  have h2 := sm64 (n &&& 63) k hk2
  have e1 : (w &&& ((1 : Int64) <<< (n &&& 0x3f).toInt64)).toBitVec = w.toBitVec &&& (1#64 <<< k) := by
    show w.toBitVec &&& ((1 : Int64).toBitVec <<< ((n &&& 0x3f).toInt64.toBitVec.smod 64)) = _
    rw [h1.1, BitVec.shiftLeft_eq', smod64 k h1.2]; rfl
  have e2 : (((w.toUInt64 >>> ((n &&& (63 : Int32)) &&& 0x3f).toInt64.toUInt64).toInt64 &&& (1 : Int64))).toBitVec = (w.toBitVec >>> k) &&& 1#64 := by
    show (w.toBitVec >>> (((n &&& 63) &&& 0x3f).toInt64.toBitVec % 64)) &&& (1 : Int64).toBitVec = _
    rw [h2.1, BitVec.ushiftRight_eq', BitVec.toNat_umod, BitVec.toNat_ofNat]
    have : k % 2 ^ 64 % (64 : BitVec 64).toNat = k := by show k % 2 ^ 64 % 64 = k; have := h2.2; omega
    rw [this]; rfl
  rw [← Int64.toBitVec_inj, ← Int64.toBitVec_inj, e1, e2]
  exact own_bv w.toBitVec k h1.2
theorem own_h0 (wa wb : Int64) (n : Int32) (h : own_w wa wb n &&& ((1 : Int64) <<< (n &&& 0x3f).toInt64) = 0) : own_has wa wb n = 0 := by
  rw [own_bit] at h
  unfold own_has
  unfold own_w at h
  by_cases q : n < (64 : Int32)
  · rw [if_pos q] at h ⊢; rw [if_neg h]
  · rw [if_neg q] at h ⊢; rw [if_neg h]
theorem own_h1 (wa wb : Int64) (n : Int32) (h : ¬ own_w wa wb n &&& ((1 : Int64) <<< (n &&& 0x3f).toInt64) = 0) : own_has wa wb n = 1 := by
  rw [own_bit, Classical.not_not] at h
  unfold own_has
  unfold own_w at h
  by_cases q : n < (64 : Int32)
  · rw [if_pos q] at h ⊢; rw [if_pos h]
  · rw [if_neg q] at h ⊢; rw [if_pos h]
abbrev own_n (j : Int32) : Nat := j.toNatClampNeg
def own_any (gg : Nat → Int32) (fo ct : Int32) (wa wb : Int64) : Int32 := if fo < fo + ct then (if own_has wa wb (gg fo.toNatClampNeg) = 0 then (if fo + (1 : Int32) < fo + ct then (if own_has wa wb (gg (fo + (1 : Int32)).toNatClampNeg) = 0 then 0 else 1) else 0) else 1) else 0
def own_act (y : Int32) (pe de : Addr) : Addr := if y &&& (1 : Int32) = 0 then de else pe
def own_fm (gg : Nat → Int32) (fo ct : Int32) (wa wb : Int64) (pe de no : Addr) : Addr :=
  if fo < fo + ct then (if own_has wa wb (own_u1 (gg fo.toNatClampNeg)) = 0 then
    (if fo + (1 : Int32) < fo + ct then (if own_has wa wb (own_u1 (gg (fo + (1 : Int32)).toNatClampNeg)) = 0 then
      (if (fo + (1 : Int32)) + (1 : Int32) < fo + ct then (if own_has wa wb (own_u1 (gg ((fo + (1 : Int32)) + (1 : Int32)).toNatClampNeg)) = 0 then no else own_act (gg ((fo + (1 : Int32)) + (1 : Int32)).toNatClampNeg) pe de) else no)
      else own_act (gg (fo + (1 : Int32)).toNatClampNeg) pe de) else no) else own_act (gg fo.toNatClampNeg) pe de) else no
def own_I (j : Int32) : Prop := ¬ j < 0 ∧ j.toNatClampNeg < 10

theorem d2_0 : decode method_2_code 0 = .ok (.iload 4, 2) := by decide +kernel
theorem d2_2 : decode method_2_code 2 = .ok (.bipush 64, 2) := by decide +kernel
theorem d2_4 : decode method_2_code 4 = .ok (.if_icmp .ge 7, 3) := by decide +kernel
theorem d2_7 : decode method_2_code 7 = .ok (.lload_n 0, 1) := by decide +kernel
theorem d2_8 : decode method_2_code 8 = .ok (.goto 4, 3) := by decide +kernel
theorem d2_11 : decode method_2_code 11 = .ok (.lload_n 2, 1) := by decide +kernel
theorem d2_12 : decode method_2_code 12 = .ok (.lstore 5, 2) := by decide +kernel
theorem d2_14 : decode method_2_code 14 = .ok (.lload 5, 2) := by decide +kernel
theorem d2_16 : decode method_2_code 16 = .ok (.iload 4, 2) := by decide +kernel
theorem d2_18 : decode method_2_code 18 = .ok (.bipush 63, 2) := by decide +kernel
theorem d2_20 : decode method_2_code 20 = .ok (.iand, 1) := by decide +kernel
theorem d2_21 : decode method_2_code 21 = .ok (.lushr, 1) := by decide +kernel
theorem d2_22 : decode method_2_code 22 = .ok (.lconst 1, 1) := by decide +kernel
theorem d2_23 : decode method_2_code 23 = .ok (.land, 1) := by decide +kernel
theorem d2_24 : decode method_2_code 24 = .ok (.lconst 1, 1) := by decide +kernel
theorem d2_25 : decode method_2_code 25 = .ok (.lcmp, 1) := by decide +kernel
theorem d2_26 : decode method_2_code 26 = .ok (.ifCond .ne 7, 3) := by decide +kernel
theorem d2_29 : decode method_2_code 29 = .ok (.iconst 1, 1) := by decide +kernel
theorem d2_30 : decode method_2_code 30 = .ok (.goto 4, 3) := by decide +kernel
theorem d2_33 : decode method_2_code 33 = .ok (.iconst 0, 1) := by decide +kernel
theorem d2_34 : decode method_2_code 34 = .ok (.ireturn, 1) := by decide +kernel
theorem pn_com_example_entitlement_entitlement_service_AclCodeOwnPinLaw : plainName "com/example/entitlement/entitlement/service/AclCodeOwnPinLaw" = true := by first | (simp [plainName, overriddenIn]; done) | decide +kernel
theorem ef_rm2 (m : MethodId) (x0 : Int64) (x1 : Int64) (x2 : Int32) : entryFrame m #[(.long x0), (.long x1), (.int x2)] 7 = mkF m 0 #[.val (.long x0), .second, .val (.long x1), .second, .val (.int x2), .unset, .unset] [] := by first | (simp [entryFrame, mkF, argsToLocals, Value.category, maxLocals]; done) | rfl
def Q2 (Z : State) (wa wb : Int64) (n : Int32) (h0 : Heap) (n0 : Nat) (v : Option Value) (h : Heap) (L : List Loc) : Prop := v = some (.int (own_has wa wb n)) ∧ Fr n0 L ∧ h = h0
set_option maxRecDepth 65536 in
set_option maxHeartbeats 40000000 in
theorem rm2 (l : Launch) (Z : State) (a0 : Array Value) (hw : ∀ d ∈ tables_1, d.before a0 Z = true) (ws : List Jvm.Cond) (wa wb : Int64) (n : Int32) (h0 : Heap) (n0 : Nat) (Z0 : n0 ≤ h0.size)  :
    MetFree l (⟨"com/example/entitlement/entitlement/service/AclCodeOwnPinLaw", "has", "(JJI)Z"⟩ : MethodName) (head1 (Jvm.Cond.code (⟨"com/example/entitlement/entitlement/service/AclCodeOwnPinLaw", "has", "(JJI)Z"⟩ : MethodName) method_2_code 7 (some .boolean) :: ws) ({ frames := 0, cells := 0, slots := 0, locals := 0 } : Room)) (fun ar U => ar = #[(.long wa), (.long wb), (.int n)] ∧ Z.Warmed39 U.vm ∧ U.heap = h0) (fun _ _ _ _ _ => True) (fun _ U o U' => ∃ v L, o = .returned v ∧ Q2 Z wa wb n h0 n0 v U'.heap L ∧ FrameEnd U o U' L ({ frames := 0, cells := 0, slots := 0, locals := 0 } : Room).cells ({ frames := 0, cells := 0, slots := 0, locals := 0 } : Room).slots) := by
  refine MetFree.of_bodySF (plainFor_of_name pn_com_example_entitlement_entitlement_service_AclCodeOwnPinLaw) hisR ?_
  intro p e s m args below meth c s₁ Bd hml0 hP hK
  obtain ⟨rfl, hZ, hh⟩ := hP
  have hx := Bd.exec
  have hby := Bd.bytes
  have hml : c.maxLocals = 7 := hml0
  have hown : s.vm.findClass "com/example/entitlement/entitlement/service/AclCodeOwnPinLaw" = some m.cls := findClass_of_methodNamed Bd.named
  have hnm := (name_of_methodNamed Bd.named Bd.method).1
  have X0 : Stand p l e ({ frames := 0, cells := 0, slots := 0, locals := 0 } : Room) s m #[(.long wa), (.long wb), (.int n)] below meth c s₁ [] 0 0 := Stand.of_body Bd
  have e0 : s₁.heap = h0 := by rw [← hh, Bd.state]; rfl
  have N0 := Fr.nil n0
  obtain ⟨F, hF⟩ : ∃ F, F = own_Fin s (Q2 Z wa wb n h0 n0) ({ frames := 0, cells := 0, slots := 0, locals := 0 } : Room).cells ({ frames := 0, cells := 0, slots := 0, locals := 0 } : Room).slots := ⟨_, rfl⟩
  show own_Ends p e below (own_Fin s (Q2 Z wa wb n h0 n0) ({ frames := 0, cells := 0, slots := 0, locals := 0 } : Room).cells ({ frames := 0, cells := 0, slots := 0, locals := 0 } : Room).slots) _
  rw [← hF, ef_rm2 m wa wb n]
  show own_Ends p e below F (s₁.setTop (mkF m 0 #[.val (.long wa), .second, .val (.long wb), .second, .val (.int n), .unset, .unset] []))
  refine own_step (fun _ k => XS.iload X0.here hx rfl (hb hby d2_0) rfl k) ?_
  show own_Ends p e below F (s₁.setTop (mkF m 2 #[.val (.long wa), .second, .val (.long wb), .second, .val (.int n), .unset, .unset] [(.int n)]))
  refine own_step (fun _ k => XS.bipush X0.here hx rfl (hb hby d2_2) k) ?_
  show own_Ends p e below F (s₁.setTop (mkF m 4 #[.val (.long wa), .second, .val (.long wb), .second, .val (.int n), .unset, .unset] [(.int (64 : Int32)), (.int n)]))
  by_cases c4_1 : n < (64 : Int32)
  · refine own_step (fun _ k => XS.icmpNo X0.here hx rfl (hb hby d2_4) rfl (tlt c4_1).2.1 k) ?_
    show own_Ends p e below F (s₁.setTop (mkF m 7 #[.val (.long wa), .second, .val (.long wb), .second, .val (.int n), .unset, .unset] []))
    refine own_step (fun _ k => XS.lloadN X0.here hx rfl (hb hby d2_7) rfl k) ?_
    show own_Ends p e below F (s₁.setTop (mkF m 8 #[.val (.long wa), .second, .val (.long wb), .second, .val (.int n), .unset, .unset] [(.long wa)]))
    refine own_step (fun _ k => XS.goto X0.here hx rfl (pc0 := 8) (pc' := 12) rfl (hb hby d2_8) (by decide) (by decide) k) ?_
    show own_Ends p e below F (s₁.setTop (mkF m 12 #[.val (.long wa), .second, .val (.long wb), .second, .val (.int n), .unset, .unset] [(.long wa)]))
    refine own_step (fun _ k => XS.lstore X0.here hx rfl (hb hby d2_12) rfl (l' := #[.val (.long wa), .second, .val (.long wb), .second, .val (.int n), .val (.long wa), .second]) rfl k) ?_
    show own_Ends p e below F (s₁.setTop (mkF m 14 #[.val (.long wa), .second, .val (.long wb), .second, .val (.int n), .val (.long wa), .second] []))
    refine own_step (fun _ k => XS.lload X0.here hx rfl (hb hby d2_14) rfl k) ?_
    show own_Ends p e below F (s₁.setTop (mkF m 16 #[.val (.long wa), .second, .val (.long wb), .second, .val (.int n), .val (.long wa), .second] [(.long wa)]))
    refine own_step (fun _ k => XS.iload X0.here hx rfl (hb hby d2_16) rfl k) ?_
    show own_Ends p e below F (s₁.setTop (mkF m 18 #[.val (.long wa), .second, .val (.long wb), .second, .val (.int n), .val (.long wa), .second] [(.int n), (.long wa)]))
    refine own_step (fun _ k => XS.bipush X0.here hx rfl (hb hby d2_18) k) ?_
    show own_Ends p e below F (s₁.setTop (mkF m 20 #[.val (.long wa), .second, .val (.long wb), .second, .val (.int n), .val (.long wa), .second] [(.int (63 : Int32)), (.int n), (.long wa)]))
    refine own_step (fun _ k => XS.iand X0.here hx rfl (hb hby d2_20) rfl k) ?_
    show own_Ends p e below F (s₁.setTop (mkF m 21 #[.val (.long wa), .second, .val (.long wb), .second, .val (.int n), .val (.long wa), .second] [(.int (n &&& (63 : Int32))), (.long wa)]))
    refine own_step (fun _ k => XS.lushr X0.here hx rfl (hb hby d2_21) rfl k) ?_
    show own_Ends p e below F (s₁.setTop (mkF m 22 #[.val (.long wa), .second, .val (.long wb), .second, .val (.int n), .val (.long wa), .second] [(.long ((wa.toUInt64 >>> ((n &&& (63 : Int32)) &&& 0x3f).toInt64.toUInt64).toInt64))]))
    refine own_step (fun _ k => XS.lconst X0.here hx rfl (hb hby d2_22) k) ?_
    show own_Ends p e below F (s₁.setTop (mkF m 23 #[.val (.long wa), .second, .val (.long wb), .second, .val (.int n), .val (.long wa), .second] [(.long (1 : Int64)), (.long ((wa.toUInt64 >>> ((n &&& (63 : Int32)) &&& 0x3f).toInt64.toUInt64).toInt64))]))
    refine own_step (fun _ k => XS.land X0.here hx rfl (hb hby d2_23) rfl k) ?_
    show own_Ends p e below F (s₁.setTop (mkF m 24 #[.val (.long wa), .second, .val (.long wb), .second, .val (.int n), .val (.long wa), .second] [(.long (((wa.toUInt64 >>> ((n &&& (63 : Int32)) &&& 0x3f).toInt64.toUInt64).toInt64) &&& (1 : Int64)))]))
    refine own_step (fun _ k => XS.lconst X0.here hx rfl (hb hby d2_24) k) ?_
    show own_Ends p e below F (s₁.setTop (mkF m 25 #[.val (.long wa), .second, .val (.long wb), .second, .val (.int n), .val (.long wa), .second] [(.long (1 : Int64)), (.long (((wa.toUInt64 >>> ((n &&& (63 : Int32)) &&& 0x3f).toInt64.toUInt64).toInt64) &&& (1 : Int64)))]))
    refine own_step (fun _ k => XS.lcmp X0.here hx rfl (hb hby d2_25) rfl k) ?_
    show own_Ends p e below F (s₁.setTop (mkF m 26 #[.val (.long wa), .second, .val (.long wb), .second, .val (.int n), .val (.long wa), .second] [(.int (lcmpW (((wa.toUInt64 >>> ((n &&& (63 : Int32)) &&& 0x3f).toInt64.toUInt64).toInt64) &&& (1 : Int64)) (1 : Int64)))]))
    by_cases c26_2 : (((wa.toUInt64 >>> ((n &&& (63 : Int32)) &&& 0x3f).toInt64.toUInt64).toInt64) &&& (1 : Int64)) = (1 : Int64)
    · refine own_step (fun _ k => XS.ifNo X0.here hx rfl (hb hby d2_26) rfl ((if0 _ _).trans (teq ((lw_eq _ _).mpr c26_2)).2) k) ?_
      show own_Ends p e below F (s₁.setTop (mkF m 29 #[.val (.long wa), .second, .val (.long wb), .second, .val (.int n), .val (.long wa), .second] []))
      refine own_step (fun _ k => XS.iconst X0.here hx rfl (hb hby d2_29) k) ?_
      show own_Ends p e below F (s₁.setTop (mkF m 30 #[.val (.long wa), .second, .val (.long wb), .second, .val (.int n), .val (.long wa), .second] [(.int (1 : Int32))]))
      refine own_step (fun _ k => XS.goto X0.here hx rfl (pc0 := 30) (pc' := 34) rfl (hb hby d2_30) (by decide) (by decide) k) ?_
      show own_Ends p e below F (s₁.setTop (mkF m 34 #[.val (.long wa), .second, .val (.long wb), .second, .val (.int n), .val (.long wa), .second] [(.int (1 : Int32))]))
      rw [hF]
      exact own_ret X0 (v := (some (.int (nar .boolean (1 : Int32))))) (fun h => by rw [Bd.returns] at h; cases h) Bd.notSynchronized (fun fs hr => retN X0 hx (t := .boolean) Bd.returns (by simp) (hb hby d2_34) hr) (by decide) (by decide) (by rw [e0]; exact ⟨by simp only [own_has, c4_1, c26_2, if_true, if_false]; rfl, N0, rfl⟩)
    · refine own_step (fun _ k => XS.ifYes X0.here hx rfl (pc0 := 26) (pc' := 33) rfl (hb hby d2_26) rfl ((if0 _ _).trans (feq (fun q => c26_2 ((lw_eq _ _).mp q))).2) (by decide) (by decide) k) ?_
      show own_Ends p e below F (s₁.setTop (mkF m 33 #[.val (.long wa), .second, .val (.long wb), .second, .val (.int n), .val (.long wa), .second] []))
      refine own_step (fun _ k => XS.iconst X0.here hx rfl (hb hby d2_33) k) ?_
      show own_Ends p e below F (s₁.setTop (mkF m 34 #[.val (.long wa), .second, .val (.long wb), .second, .val (.int n), .val (.long wa), .second] [(.int (0 : Int32))]))
      rw [hF]
      exact own_ret X0 (v := (some (.int (nar .boolean (0 : Int32))))) (fun h => by rw [Bd.returns] at h; cases h) Bd.notSynchronized (fun fs hr => retN X0 hx (t := .boolean) Bd.returns (by simp) (hb hby d2_34) hr) (by decide) (by decide) (by rw [e0]; exact ⟨by simp only [own_has, c4_1, c26_2, if_true, if_false]; rfl, N0, rfl⟩)
  · refine own_step (fun _ k => XS.icmpYes X0.here hx rfl (pc0 := 4) (pc' := 11) rfl (hb hby d2_4) rfl (flt c4_1).2.1 (by decide) (by decide) k) ?_
    show own_Ends p e below F (s₁.setTop (mkF m 11 #[.val (.long wa), .second, .val (.long wb), .second, .val (.int n), .unset, .unset] []))
    refine own_step (fun _ k => XS.lloadN X0.here hx rfl (hb hby d2_11) rfl k) ?_
    show own_Ends p e below F (s₁.setTop (mkF m 12 #[.val (.long wa), .second, .val (.long wb), .second, .val (.int n), .unset, .unset] [(.long wb)]))
    refine own_step (fun _ k => XS.lstore X0.here hx rfl (hb hby d2_12) rfl (l' := #[.val (.long wa), .second, .val (.long wb), .second, .val (.int n), .val (.long wb), .second]) rfl k) ?_
    show own_Ends p e below F (s₁.setTop (mkF m 14 #[.val (.long wa), .second, .val (.long wb), .second, .val (.int n), .val (.long wb), .second] []))
    refine own_step (fun _ k => XS.lload X0.here hx rfl (hb hby d2_14) rfl k) ?_
    show own_Ends p e below F (s₁.setTop (mkF m 16 #[.val (.long wa), .second, .val (.long wb), .second, .val (.int n), .val (.long wb), .second] [(.long wb)]))
    refine own_step (fun _ k => XS.iload X0.here hx rfl (hb hby d2_16) rfl k) ?_
    show own_Ends p e below F (s₁.setTop (mkF m 18 #[.val (.long wa), .second, .val (.long wb), .second, .val (.int n), .val (.long wb), .second] [(.int n), (.long wb)]))
    refine own_step (fun _ k => XS.bipush X0.here hx rfl (hb hby d2_18) k) ?_
    show own_Ends p e below F (s₁.setTop (mkF m 20 #[.val (.long wa), .second, .val (.long wb), .second, .val (.int n), .val (.long wb), .second] [(.int (63 : Int32)), (.int n), (.long wb)]))
    refine own_step (fun _ k => XS.iand X0.here hx rfl (hb hby d2_20) rfl k) ?_
    show own_Ends p e below F (s₁.setTop (mkF m 21 #[.val (.long wa), .second, .val (.long wb), .second, .val (.int n), .val (.long wb), .second] [(.int (n &&& (63 : Int32))), (.long wb)]))
    refine own_step (fun _ k => XS.lushr X0.here hx rfl (hb hby d2_21) rfl k) ?_
    show own_Ends p e below F (s₁.setTop (mkF m 22 #[.val (.long wa), .second, .val (.long wb), .second, .val (.int n), .val (.long wb), .second] [(.long ((wb.toUInt64 >>> ((n &&& (63 : Int32)) &&& 0x3f).toInt64.toUInt64).toInt64))]))
    refine own_step (fun _ k => XS.lconst X0.here hx rfl (hb hby d2_22) k) ?_
    show own_Ends p e below F (s₁.setTop (mkF m 23 #[.val (.long wa), .second, .val (.long wb), .second, .val (.int n), .val (.long wb), .second] [(.long (1 : Int64)), (.long ((wb.toUInt64 >>> ((n &&& (63 : Int32)) &&& 0x3f).toInt64.toUInt64).toInt64))]))
    refine own_step (fun _ k => XS.land X0.here hx rfl (hb hby d2_23) rfl k) ?_
    show own_Ends p e below F (s₁.setTop (mkF m 24 #[.val (.long wa), .second, .val (.long wb), .second, .val (.int n), .val (.long wb), .second] [(.long (((wb.toUInt64 >>> ((n &&& (63 : Int32)) &&& 0x3f).toInt64.toUInt64).toInt64) &&& (1 : Int64)))]))
    refine own_step (fun _ k => XS.lconst X0.here hx rfl (hb hby d2_24) k) ?_
    show own_Ends p e below F (s₁.setTop (mkF m 25 #[.val (.long wa), .second, .val (.long wb), .second, .val (.int n), .val (.long wb), .second] [(.long (1 : Int64)), (.long (((wb.toUInt64 >>> ((n &&& (63 : Int32)) &&& 0x3f).toInt64.toUInt64).toInt64) &&& (1 : Int64)))]))
    refine own_step (fun _ k => XS.lcmp X0.here hx rfl (hb hby d2_25) rfl k) ?_
    show own_Ends p e below F (s₁.setTop (mkF m 26 #[.val (.long wa), .second, .val (.long wb), .second, .val (.int n), .val (.long wb), .second] [(.int (lcmpW (((wb.toUInt64 >>> ((n &&& (63 : Int32)) &&& 0x3f).toInt64.toUInt64).toInt64) &&& (1 : Int64)) (1 : Int64)))]))
    by_cases c26_3 : (((wb.toUInt64 >>> ((n &&& (63 : Int32)) &&& 0x3f).toInt64.toUInt64).toInt64) &&& (1 : Int64)) = (1 : Int64)
    · refine own_step (fun _ k => XS.ifNo X0.here hx rfl (hb hby d2_26) rfl ((if0 _ _).trans (teq ((lw_eq _ _).mpr c26_3)).2) k) ?_
      show own_Ends p e below F (s₁.setTop (mkF m 29 #[.val (.long wa), .second, .val (.long wb), .second, .val (.int n), .val (.long wb), .second] []))
      refine own_step (fun _ k => XS.iconst X0.here hx rfl (hb hby d2_29) k) ?_
      show own_Ends p e below F (s₁.setTop (mkF m 30 #[.val (.long wa), .second, .val (.long wb), .second, .val (.int n), .val (.long wb), .second] [(.int (1 : Int32))]))
      refine own_step (fun _ k => XS.goto X0.here hx rfl (pc0 := 30) (pc' := 34) rfl (hb hby d2_30) (by decide) (by decide) k) ?_
      show own_Ends p e below F (s₁.setTop (mkF m 34 #[.val (.long wa), .second, .val (.long wb), .second, .val (.int n), .val (.long wb), .second] [(.int (1 : Int32))]))
      rw [hF]
      exact own_ret X0 (v := (some (.int (nar .boolean (1 : Int32))))) (fun h => by rw [Bd.returns] at h; cases h) Bd.notSynchronized (fun fs hr => retN X0 hx (t := .boolean) Bd.returns (by simp) (hb hby d2_34) hr) (by decide) (by decide) (by rw [e0]; exact ⟨by simp only [own_has, c4_1, c26_3, if_true, if_false]; rfl, N0, rfl⟩)
    · refine own_step (fun _ k => XS.ifYes X0.here hx rfl (pc0 := 26) (pc' := 33) rfl (hb hby d2_26) rfl ((if0 _ _).trans (feq (fun q => c26_3 ((lw_eq _ _).mp q))).2) (by decide) (by decide) k) ?_
      show own_Ends p e below F (s₁.setTop (mkF m 33 #[.val (.long wa), .second, .val (.long wb), .second, .val (.int n), .val (.long wb), .second] []))
      refine own_step (fun _ k => XS.iconst X0.here hx rfl (hb hby d2_33) k) ?_
      show own_Ends p e below F (s₁.setTop (mkF m 34 #[.val (.long wa), .second, .val (.long wb), .second, .val (.int n), .val (.long wb), .second] [(.int (0 : Int32))]))
      rw [hF]
      exact own_ret X0 (v := (some (.int (nar .boolean (0 : Int32))))) (fun h => by rw [Bd.returns] at h; cases h) Bd.notSynchronized (fun fs hr => retN X0 hx (t := .boolean) Bd.returns (by simp) (hb hby d2_34) hr) (by decide) (by decide) (by rw [e0]; exact ⟨by simp only [own_has, c4_1, c26_3, if_true, if_false]; rfl, N0, rfl⟩)

theorem d6_0 : decode method_3_code 0 = .ok (.iload_n 0, 1) := by decide +kernel
theorem d6_1 : decode method_3_code 1 = .ok (.iconst 1, 1) := by decide +kernel
theorem d6_2 : decode method_3_code 2 = .ok (.iand, 1) := by decide +kernel
theorem d6_3 : decode method_3_code 3 = .ok (.ifCond .eq 9, 3) := by decide +kernel
theorem d6_6 : decode method_3_code 6 = .ok (.getstatic 7, 3) := by decide +kernel
theorem d6_9 : decode method_3_code 9 = .ok (.goto 6, 3) := by decide +kernel
theorem d6_12 : decode method_3_code 12 = .ok (.getstatic 13, 3) := by decide +kernel
theorem d6_15 : decode method_3_code 15 = .ok (.areturn, 1) := by decide +kernel
theorem ef_rm6 (m : MethodId) (x0 : Int32) : entryFrame m #[(.int x0)] 1 = mkF m 0 #[.val (.int x0)] [] := by first | (simp [entryFrame, mkF, argsToLocals, Value.category, maxLocals]; done) | rfl
def Q6 (Z : State) (p1 : Int32) (pe de no : Addr) (h0 : Heap) (n0 : Nat) (v : Option Value) (h : Heap) (L : List Loc) : Prop := v = some (.ref (own_act p1 pe de)) ∧ Fr n0 L ∧ h = h0
set_option maxRecDepth 65536 in
set_option maxHeartbeats 40000000 in
theorem rm6 (l : Launch) (Z : State) (a0 : Array Value) (hw : ∀ d ∈ tables_1, d.before a0 Z = true) (ws : List Jvm.Cond) (p1 : Int32) (pe de no : Addr) (h0 : Heap) (n0 : Nat) (Z0 : n0 ≤ h0.size) (Spe : Sta Z h0 "com/example/entitlement/entitlement/service/Outcome" "PERMIT" "Lcom/example/entitlement/entitlement/service/Outcome;" (.ref pe)) (Sde : Sta Z h0 "com/example/entitlement/entitlement/service/Outcome" "DENY" "Lcom/example/entitlement/entitlement/service/Outcome;" (.ref de)) (Sno : Sta Z h0 "com/example/entitlement/entitlement/service/Outcome" "NO_MATCH" "Lcom/example/entitlement/entitlement/service/Outcome;" (.ref no)) :
    MetFree l (⟨"com/example/entitlement/entitlement/service/AclCodeOwnPinLaw", "action", "(I)Lcom/example/entitlement/entitlement/service/Outcome;"⟩ : MethodName) (head1 (Jvm.Cond.code (⟨"com/example/entitlement/entitlement/service/AclCodeOwnPinLaw", "action", "(I)Lcom/example/entitlement/entitlement/service/Outcome;"⟩ : MethodName) method_3_code 1 (some (.object "com/example/entitlement/entitlement/service/Outcome")) :: ws) ({ frames := 0, cells := 0, slots := 0, locals := 0 } : Room)) (fun ar U => ar = #[(.int p1)] ∧ Z.Warmed39 U.vm ∧ U.heap = h0) (fun _ _ _ _ _ => True) (fun _ U o U' => ∃ v L, o = .returned v ∧ Q6 Z p1 pe de no h0 n0 v U'.heap L ∧ FrameEnd U o U' L ({ frames := 0, cells := 0, slots := 0, locals := 0 } : Room).cells ({ frames := 0, cells := 0, slots := 0, locals := 0 } : Room).slots) := by
  refine MetFree.of_bodySF (plainFor_of_name pn_com_example_entitlement_entitlement_service_AclCodeOwnPinLaw) hisR ?_
  intro p e s m args below meth c s₁ Bd hml0 hP hK
  obtain ⟨rfl, hZ, hh⟩ := hP
  have hx := Bd.exec
  have hby := Bd.bytes
  have hml : c.maxLocals = 1 := hml0
  have hown : s.vm.findClass "com/example/entitlement/entitlement/service/AclCodeOwnPinLaw" = some m.cls := findClass_of_methodNamed Bd.named
  have hnm := (name_of_methodNamed Bd.named Bd.method).1
  have X0 : Stand p l e ({ frames := 0, cells := 0, slots := 0, locals := 0 } : Room) s m #[(.int p1)] below meth c s₁ [] 0 0 := Stand.of_body Bd
  have e0 : s₁.heap = h0 := by rw [← hh, Bd.state]; rfl
  have N0 := Fr.nil n0
  obtain ⟨F, hF⟩ : ∃ F, F = own_Fin s (Q6 Z p1 pe de no h0 n0) ({ frames := 0, cells := 0, slots := 0, locals := 0 } : Room).cells ({ frames := 0, cells := 0, slots := 0, locals := 0 } : Room).slots := ⟨_, rfl⟩
  show own_Ends p e below (own_Fin s (Q6 Z p1 pe de no h0 n0) ({ frames := 0, cells := 0, slots := 0, locals := 0 } : Room).cells ({ frames := 0, cells := 0, slots := 0, locals := 0 } : Room).slots) _
  rw [← hF, ef_rm6 m p1]
  show own_Ends p e below F (s₁.setTop (mkF m 0 #[.val (.int p1)] []))
  refine own_step (fun _ k => XS.iloadN X0.here hx rfl (hb hby d6_0) rfl k) ?_
  show own_Ends p e below F (s₁.setTop (mkF m 1 #[.val (.int p1)] [(.int p1)]))
  refine own_step (fun _ k => XS.iconst X0.here hx rfl (hb hby d6_1) k) ?_
  show own_Ends p e below F (s₁.setTop (mkF m 2 #[.val (.int p1)] [(.int (1 : Int32)), (.int p1)]))
  refine own_step (fun _ k => XS.iand X0.here hx rfl (hb hby d6_2) rfl k) ?_
  show own_Ends p e below F (s₁.setTop (mkF m 3 #[.val (.int p1)] [(.int (p1 &&& (1 : Int32)))]))
  by_cases c3_1 : (p1 &&& (1 : Int32)) = (0 : Int32)
  · refine own_step (fun _ k => XS.ifYes X0.here hx rfl (pc0 := 3) (pc' := 12) rfl (hb hby d6_3) rfl ((if0 _ _).trans (teq c3_1).1) (by decide) (by decide) k) ?_
    show own_Ends p e below F (s₁.setTop (mkF m 12 #[.val (.int p1)] []))
    obtain ⟨T2, X2, e2, st2⟩ := getS2 X0 hx hZ hown (host := "") (Or.inl (own_g hw 17 rfl)) Via.refl e0 Sde (g := (mkF m 12 #[.val (.int p1)] [])) rfl (hb hby d6_12)
    refine own_step st2 ?_
    show own_Ends p e below F (T2.setTop (mkF m 15 #[.val (.int p1)] [(.ref de)]))
    rw [hF]
    exact own_ret X2 (v := (some (.ref de))) (fun h => by rw [Bd.returns] at h; cases h) Bd.notSynchronized (fun fs hr => retOut X2 hx (t := (.object "com/example/entitlement/entitlement/service/Outcome")) (w := (.ref de)) (i := .areturn) Bd.returns rfl (Or.inr (Or.inr (Or.inr (Or.inr ⟨rfl, rfl, rfl⟩)))) (hb hby d6_15) hr) (by decide) (by decide) (by rw [e2]; exact ⟨by simp only [own_act, c3_1, if_true, if_false], N0, rfl⟩)
  · refine own_step (fun _ k => XS.ifNo X0.here hx rfl (hb hby d6_3) rfl ((if0 _ _).trans (feq c3_1).1) k) ?_
    show own_Ends p e below F (s₁.setTop (mkF m 6 #[.val (.int p1)] []))
    obtain ⟨T3, X3, e3, st3⟩ := getS2 X0 hx hZ hown (host := "") (Or.inl (own_g hw 10 rfl)) Via.refl e0 Spe (g := (mkF m 6 #[.val (.int p1)] [])) rfl (hb hby d6_6)
    refine own_step st3 ?_
    show own_Ends p e below F (T3.setTop (mkF m 9 #[.val (.int p1)] [(.ref pe)]))
    refine own_step (fun _ k => XS.goto X3.here hx rfl (pc0 := 9) (pc' := 15) rfl (hb hby d6_9) (by decide) (by decide) k) ?_
    show own_Ends p e below F (T3.setTop (mkF m 15 #[.val (.int p1)] [(.ref pe)]))
    rw [hF]
    exact own_ret X3 (v := (some (.ref pe))) (fun h => by rw [Bd.returns] at h; cases h) Bd.notSynchronized (fun fs hr => retOut X3 hx (t := (.object "com/example/entitlement/entitlement/service/Outcome")) (w := (.ref pe)) (i := .areturn) Bd.returns rfl (Or.inr (Or.inr (Or.inr (Or.inr ⟨rfl, rfl, rfl⟩)))) (hb hby d6_15) hr) (by decide) (by decide) (by rw [e3]; exact ⟨by simp only [own_act, c3_1, if_true, if_false], N0, rfl⟩)

theorem d4_0 : decode prog_41_method_10_code 0 = .ok (.aload_n 0, 1) := by decide +kernel
theorem d4_1 : decode prog_41_method_10_code 1 = .ok (.iload_n 1, 1) := by decide +kernel
theorem d4_2 : decode prog_41_method_10_code 2 = .ok (.bipush 6, 2) := by decide +kernel
theorem d4_4 : decode prog_41_method_10_code 4 = .ok (.iushr, 1) := by decide +kernel
theorem d4_5 : decode prog_41_method_10_code 5 = .ok (.laload, 1) := by decide +kernel
theorem d4_6 : decode prog_41_method_10_code 6 = .ok (.lconst 1, 1) := by decide +kernel
theorem d4_7 : decode prog_41_method_10_code 7 = .ok (.iload_n 1, 1) := by decide +kernel
theorem d4_8 : decode prog_41_method_10_code 8 = .ok (.lshl, 1) := by decide +kernel
theorem d4_9 : decode prog_41_method_10_code 9 = .ok (.land, 1) := by decide +kernel
theorem d4_10 : decode prog_41_method_10_code 10 = .ok (.lconst 0, 1) := by decide +kernel
theorem d4_11 : decode prog_41_method_10_code 11 = .ok (.lcmp, 1) := by decide +kernel
theorem d4_12 : decode prog_41_method_10_code 12 = .ok (.ifCond .eq 7, 3) := by decide +kernel
theorem d4_15 : decode prog_41_method_10_code 15 = .ok (.iconst 1, 1) := by decide +kernel
theorem d4_16 : decode prog_41_method_10_code 16 = .ok (.goto 4, 3) := by decide +kernel
theorem d4_19 : decode prog_41_method_10_code 19 = .ok (.iconst 0, 1) := by decide +kernel
theorem d4_20 : decode prog_41_method_10_code 20 = .ok (.ireturn, 1) := by decide +kernel
theorem pn_com_example_entitlement_entitlement_service_AclCode : plainName "com/example/entitlement/entitlement/service/AclCode" = true := by first | (simp [plainName, overriddenIn]; done) | decide +kernel
theorem ef_rm4 (m : MethodId) (x0 : Addr) (x1 : Int32) : entryFrame m #[(.ref x0), (.int x1)] 2 = mkF m 0 #[.val (.ref x0), .val (.int x1)] [] := by first | (simp [entryFrame, mkF, argsToLocals, Value.category, maxLocals]; done) | rfl
def Q4 (Z : State) (b : Addr) (n : Int32) (kb : ClassId) (wa wb : Int64) (h0 : Heap) (n0 : Nat) (v : Option Value) (h : Heap) (L : List Loc) : Prop := v = some (.int (own_has wa wb n)) ∧ Fr n0 L ∧ h = h0
set_option maxRecDepth 65536 in
set_option maxHeartbeats 40000000 in
theorem rm4 (l : Launch) (Z : State) (a0 : Array Value) (hw : ∀ d ∈ tables_1, d.before a0 Z = true) (ws : List Jvm.Cond) (b : Addr) (n : Int32) (kb : ClassId) (wa wb : Int64) (h0 : Heap) (n0 : Nat) (Z0 : n0 ≤ h0.size) (VB : Arv Z h0 b kb .long (2 : Int32) [(.long wa), (.long wb)] (.long (0 : Int64))) (hn : own_R n) :
    MetFree l (⟨"com/example/entitlement/entitlement/service/AclCode", "holds", "([JI)Z"⟩ : MethodName) (head1 (Jvm.Cond.code (⟨"com/example/entitlement/entitlement/service/AclCode", "holds", "([JI)Z"⟩ : MethodName) prog_41_method_10_code 2 (some .boolean) :: ws) ({ frames := 0, cells := 0, slots := 0, locals := 0 } : Room)) (fun ar U => ar = #[(.ref b), (.int n)] ∧ Z.Warmed39 U.vm ∧ U.heap = h0) (fun _ _ _ _ _ => True) (fun _ U o U' => ∃ v L, o = .returned v ∧ Q4 Z b n kb wa wb h0 n0 v U'.heap L ∧ FrameEnd U o U' L ({ frames := 0, cells := 0, slots := 0, locals := 0 } : Room).cells ({ frames := 0, cells := 0, slots := 0, locals := 0 } : Room).slots) := by
  refine MetFree.of_bodySF (plainFor_of_name pn_com_example_entitlement_entitlement_service_AclCode) hisR ?_
  intro p e s m args below meth c s₁ Bd hml0 hP hK
  obtain ⟨rfl, hZ, hh⟩ := hP
  have hx := Bd.exec
  have hby := Bd.bytes
  have hml : c.maxLocals = 2 := hml0
  have hown : s.vm.findClass "com/example/entitlement/entitlement/service/AclCode" = some m.cls := findClass_of_methodNamed Bd.named
  have hnm := (name_of_methodNamed Bd.named Bd.method).1
  have X0 : Stand p l e ({ frames := 0, cells := 0, slots := 0, locals := 0 } : Room) s m #[(.ref b), (.int n)] below meth c s₁ [] 0 0 := Stand.of_body Bd
  have e0 : s₁.heap = h0 := by rw [← hh, Bd.state]; rfl
  have N0 := Fr.nil n0
  obtain ⟨F, hF⟩ : ∃ F, F = own_Fin s (Q4 Z b n kb wa wb h0 n0) ({ frames := 0, cells := 0, slots := 0, locals := 0 } : Room).cells ({ frames := 0, cells := 0, slots := 0, locals := 0 } : Room).slots := ⟨_, rfl⟩
  show own_Ends p e below (own_Fin s (Q4 Z b n kb wa wb h0 n0) ({ frames := 0, cells := 0, slots := 0, locals := 0 } : Room).cells ({ frames := 0, cells := 0, slots := 0, locals := 0 } : Room).slots) _
  rw [← hF, ef_rm4 m b n]
  show own_Ends p e below F (s₁.setTop (mkF m 0 #[.val (.ref b), .val (.int n)] []))
  refine own_step (fun _ k => XS.aloadN X0.here hx rfl (hb hby d4_0) rfl rfl k) ?_
  show own_Ends p e below F (s₁.setTop (mkF m 1 #[.val (.ref b), .val (.int n)] [(.ref b)]))
  refine own_step (fun _ k => XS.iloadN X0.here hx rfl (hb hby d4_1) rfl k) ?_
  show own_Ends p e below F (s₁.setTop (mkF m 2 #[.val (.ref b), .val (.int n)] [(.int n), (.ref b)]))
  refine own_step (fun _ k => XS.bipush X0.here hx rfl (hb hby d4_2) k) ?_
  show own_Ends p e below F (s₁.setTop (mkF m 4 #[.val (.ref b), .val (.int n)] [(.int (6 : Int32)), (.int n), (.ref b)]))
  refine own_step (fun _ k => XS.iushr X0.here hx rfl (hb hby d4_4) rfl k) ?_
  show own_Ends p e below F (s₁.setTop (mkF m 5 #[.val (.ref b), .val (.int n)] [(.int ((n.toUInt32 >>> ((6 : Int32) &&& 31).toUInt32).toInt32)), (.ref b)]))
  obtain ⟨cl1, Ar1, q1, S1, M1, H1, G1⟩ := id VB
  have hin1 : ¬ (((n.toUInt32 >>> ((6 : Int32) &&& 31).toUInt32).toInt32) < 0 ∨ cl1.slots.size ≤ (((n.toUInt32 >>> ((6 : Int32) &&& 31).toUInt32).toInt32) : Int32).toNatClampNeg) := inb_of S1 (own_i6_in n hn)
  refine own_step (X0.laload hx (j := ((n.toUInt32 >>> ((6 : Int32) &&& 31).toUInt32).toInt32)) (v := (.long (own_w wa wb n))) (by rw [e0]; exact Ar1.1) (State.isArrayOf_alike hZ.alike Ar1.2.1) Ar1.2.2 hin1 (Has.at H1 hin1 (own_i6_at wa wb n hn)) (g := (mkF m 5 #[.val (.ref b), .val (.int n)] [(.int ((n.toUInt32 >>> ((6 : Int32) &&& 31).toUInt32).toInt32)), (.ref b)])) rfl rfl (hb hby d4_5)) ?_
  show own_Ends p e below F (s₁.setTop (mkF m 6 #[.val (.ref b), .val (.int n)] [(.long (own_w wa wb n))]))
  refine own_step (fun _ k => XS.lconst X0.here hx rfl (hb hby d4_6) k) ?_
  show own_Ends p e below F (s₁.setTop (mkF m 7 #[.val (.ref b), .val (.int n)] [(.long (1 : Int64)), (.long (own_w wa wb n))]))
  refine own_step (fun _ k => XS.iloadN X0.here hx rfl (hb hby d4_7) rfl k) ?_
  show own_Ends p e below F (s₁.setTop (mkF m 8 #[.val (.ref b), .val (.int n)] [(.int n), (.long (1 : Int64)), (.long (own_w wa wb n))]))
  refine own_step (fun _ k => XS.lshl X0.here hx rfl (hb hby d4_8) rfl k) ?_
  show own_Ends p e below F (s₁.setTop (mkF m 9 #[.val (.ref b), .val (.int n)] [(.long ((1 : Int64) <<< (n &&& 0x3f).toInt64)), (.long (own_w wa wb n))]))
  refine own_step (fun _ k => XS.land X0.here hx rfl (hb hby d4_9) rfl k) ?_
  show own_Ends p e below F (s₁.setTop (mkF m 10 #[.val (.ref b), .val (.int n)] [(.long ((own_w wa wb n) &&& ((1 : Int64) <<< (n &&& 0x3f).toInt64)))]))
  refine own_step (fun _ k => XS.lconst X0.here hx rfl (hb hby d4_10) k) ?_
  show own_Ends p e below F (s₁.setTop (mkF m 11 #[.val (.ref b), .val (.int n)] [(.long (0 : Int64)), (.long ((own_w wa wb n) &&& ((1 : Int64) <<< (n &&& 0x3f).toInt64)))]))
  refine own_step (fun _ k => XS.lcmp X0.here hx rfl (hb hby d4_11) rfl k) ?_
  show own_Ends p e below F (s₁.setTop (mkF m 12 #[.val (.ref b), .val (.int n)] [(.int (lcmpW ((own_w wa wb n) &&& ((1 : Int64) <<< (n &&& 0x3f).toInt64)) (0 : Int64)))]))
  by_cases c12_2 : ((own_w wa wb n) &&& ((1 : Int64) <<< (n &&& 0x3f).toInt64)) = (0 : Int64)
  · refine own_step (fun _ k => XS.ifYes X0.here hx rfl (pc0 := 12) (pc' := 19) rfl (hb hby d4_12) rfl ((if0 _ _).trans (teq ((lw_eq _ _).mpr c12_2)).1) (by decide) (by decide) k) ?_
    show own_Ends p e below F (s₁.setTop (mkF m 19 #[.val (.ref b), .val (.int n)] []))
    refine own_step (fun _ k => XS.iconst X0.here hx rfl (hb hby d4_19) k) ?_
    show own_Ends p e below F (s₁.setTop (mkF m 20 #[.val (.ref b), .val (.int n)] [(.int (0 : Int32))]))
    rw [hF]
    exact own_ret X0 (v := (some (.int (nar .boolean (0 : Int32))))) (fun h => by rw [Bd.returns] at h; cases h) Bd.notSynchronized (fun fs hr => retN X0 hx (t := .boolean) Bd.returns (by simp) (hb hby d4_20) hr) (by decide) (by decide) (by rw [e0]; exact ⟨by rw [own_h0 wa wb n c12_2]; rfl, N0, rfl⟩)
  · refine own_step (fun _ k => XS.ifNo X0.here hx rfl (hb hby d4_12) rfl ((if0 _ _).trans (feq (fun q => c12_2 ((lw_eq _ _).mp q))).1) k) ?_
    show own_Ends p e below F (s₁.setTop (mkF m 15 #[.val (.ref b), .val (.int n)] []))
    refine own_step (fun _ k => XS.iconst X0.here hx rfl (hb hby d4_15) k) ?_
    show own_Ends p e below F (s₁.setTop (mkF m 16 #[.val (.ref b), .val (.int n)] [(.int (1 : Int32))]))
    refine own_step (fun _ k => XS.goto X0.here hx rfl (pc0 := 16) (pc' := 20) rfl (hb hby d4_16) (by decide) (by decide) k) ?_
    show own_Ends p e below F (s₁.setTop (mkF m 20 #[.val (.ref b), .val (.int n)] [(.int (1 : Int32))]))
    rw [hF]
    exact own_ret X0 (v := (some (.int (nar .boolean (1 : Int32))))) (fun h => by rw [Bd.returns] at h; cases h) Bd.notSynchronized (fun fs hr => retN X0 hx (t := .boolean) Bd.returns (by simp) (hb hby d4_20) hr) (by decide) (by decide) (by rw [e0]; exact ⟨by rw [own_h1 wa wb n c12_2]; rfl, N0, rfl⟩)

theorem d3_0 : decode prog_41_method_8_code 0 = .ok (.iload_n 1, 1) := by decide +kernel
theorem d3_1 : decode prog_41_method_8_code 1 = .ok (.istore 4, 2) := by decide +kernel
theorem d3_3 : decode prog_41_method_8_code 3 = .ok (.iload 4, 2) := by decide +kernel
theorem d3_5 : decode prog_41_method_8_code 5 = .ok (.iload_n 1, 1) := by decide +kernel
theorem d3_6 : decode prog_41_method_8_code 6 = .ok (.iload_n 2, 1) := by decide +kernel
theorem d3_7 : decode prog_41_method_8_code 7 = .ok (.iadd, 1) := by decide +kernel
theorem d3_8 : decode prog_41_method_8_code 8 = .ok (.if_icmp .ge 22, 3) := by decide +kernel
theorem d3_11 : decode prog_41_method_8_code 11 = .ok (.aload_n 3, 1) := by decide +kernel
theorem d3_12 : decode prog_41_method_8_code 12 = .ok (.aload_n 0, 1) := by decide +kernel
theorem d3_13 : decode prog_41_method_8_code 13 = .ok (.iload 4, 2) := by decide +kernel
theorem d3_15 : decode prog_41_method_8_code 15 = .ok (.iaload, 1) := by decide +kernel
theorem d3_16 : decode prog_41_method_8_code 16 = .ok (.invokestatic 108, 3) := by decide +kernel
theorem d3_19 : decode prog_41_method_8_code 19 = .ok (.ifCond .eq 5, 3) := by decide +kernel
theorem d3_22 : decode prog_41_method_8_code 22 = .ok (.iconst 1, 1) := by decide +kernel
theorem d3_23 : decode prog_41_method_8_code 23 = .ok (.ireturn, 1) := by decide +kernel
theorem d3_24 : decode prog_41_method_8_code 24 = .ok (.iinc 4 1, 3) := by decide +kernel
theorem d3_27 : decode prog_41_method_8_code 27 = .ok (.goto (-24), 3) := by decide +kernel
theorem d3_30 : decode prog_41_method_8_code 30 = .ok (.iconst 0, 1) := by decide +kernel
theorem d3_31 : decode prog_41_method_8_code 31 = .ok (.ireturn, 1) := by decide +kernel
theorem pd__28_5bJI_29Z : parseMethodDescriptor "([JI)Z" = some ⟨[(.array .long), .int], some .boolean⟩ := by decide +kernel
theorem ef_rm3 (m : MethodId) (x0 : Addr) (x1 : Int32) (x2 : Int32) (x3 : Addr) : entryFrame m #[(.ref x0), (.int x1), (.int x2), (.ref x3)] 5 = mkF m 0 #[.val (.ref x0), .val (.int x1), .val (.int x2), .val (.ref x3), .unset] [] := by first | (simp [entryFrame, mkF, argsToLocals, Value.category, maxLocals]; done) | rfl
def Q3 (Z : State) (a b : Addr) (fo ct : Int32) (gg : Nat → Int32) (kb : ClassId) (wa wb : Int64) (h0 : Heap) (n0 : Nat) (v : Option Value) (h : Heap) (L : List Loc) : Prop := v = some (.int (own_any gg fo ct wa wb)) ∧ Fr n0 L ∧ h = h0
set_option maxRecDepth 65536 in
set_option maxHeartbeats 40000000 in
theorem rm3 (l : Launch) (Z : State) (a0 : Array Value) (hw : ∀ d ∈ tables_1, d.before a0 Z = true) (ws : List Jvm.Cond) (a b : Addr) (fo ct : Int32) (gg : Nat → Int32) (kb : ClassId) (wa wb : Int64) (h0 : Heap) (n0 : Nat) (Z0 : n0 ≤ h0.size) (GA : own_Ai Z h0 a 10 gg) (VB : Arv Z h0 b kb .long (2 : Int32) [(.long wa), (.long wb)] (.long (0 : Int64))) (hb0 : fo < fo + ct → own_I fo ∧ own_R (gg fo.toNatClampNeg)) (hb1 : (fo + (1 : Int32)) < fo + ct → own_I (fo + (1 : Int32)) ∧ own_R (gg (fo + (1 : Int32)).toNatClampNeg)) (hb2 : ¬ ((fo + (1 : Int32)) + (1 : Int32)) < fo + ct) :
    MetFree l (⟨"com/example/entitlement/entitlement/service/AclCode", "holdsAny", "([III[J)Z"⟩ : MethodName) (head1 (Jvm.Cond.code (⟨"com/example/entitlement/entitlement/service/AclCode", "holdsAny", "([III[J)Z"⟩ : MethodName) prog_41_method_8_code 5 (some .boolean) :: ws) ({ frames := 1, cells := 0, slots := 0, locals := 13 } : Room)) (fun ar U => ar = #[(.ref a), (.int fo), (.int ct), (.ref b)] ∧ Z.Warmed39 U.vm ∧ U.heap = h0) (fun _ _ _ _ _ => True) (fun _ U o U' => ∃ v L, o = .returned v ∧ Q3 Z a b fo ct gg kb wa wb h0 n0 v U'.heap L ∧ FrameEnd U o U' L ({ frames := 1, cells := 0, slots := 0, locals := 13 } : Room).cells ({ frames := 1, cells := 0, slots := 0, locals := 13 } : Room).slots) := by
  refine MetFree.of_bodySF (plainFor_of_name pn_com_example_entitlement_entitlement_service_AclCode) hisR ?_
  intro p e s m args below meth c s₁ Bd hml0 hP hK
  obtain ⟨rfl, hZ, hh⟩ := hP
  have hx := Bd.exec
  have hby := Bd.bytes
  have hml : c.maxLocals = 5 := hml0
  have hown : s.vm.findClass "com/example/entitlement/entitlement/service/AclCode" = some m.cls := findClass_of_methodNamed Bd.named
  have hnm := (name_of_methodNamed Bd.named Bd.method).1
  have X0 : Stand p l e ({ frames := 1, cells := 0, slots := 0, locals := 13 } : Room) s m #[(.ref a), (.int fo), (.int ct), (.ref b)] below meth c s₁ [] 0 0 := Stand.of_body Bd
  have e0 : s₁.heap = h0 := by rw [← hh, Bd.state]; rfl
  have N0 := Fr.nil n0
  obtain ⟨F, hF⟩ : ∃ F, F = own_Fin s (Q3 Z a b fo ct gg kb wa wb h0 n0) ({ frames := 1, cells := 0, slots := 0, locals := 13 } : Room).cells ({ frames := 1, cells := 0, slots := 0, locals := 13 } : Room).slots := ⟨_, rfl⟩
  show own_Ends p e below (own_Fin s (Q3 Z a b fo ct gg kb wa wb h0 n0) ({ frames := 1, cells := 0, slots := 0, locals := 13 } : Room).cells ({ frames := 1, cells := 0, slots := 0, locals := 13 } : Room).slots) _
  rw [← hF, ef_rm3 m a fo ct b]
  show own_Ends p e below F (s₁.setTop (mkF m 0 #[.val (.ref a), .val (.int fo), .val (.int ct), .val (.ref b), .unset] []))
  refine own_step (fun _ k => XS.iloadN X0.here hx rfl (hb hby d3_0) rfl k) ?_
  show own_Ends p e below F (s₁.setTop (mkF m 1 #[.val (.ref a), .val (.int fo), .val (.int ct), .val (.ref b), .unset] [(.int fo)]))
  refine own_step (fun _ k => XS.istore X0.here hx rfl (hb hby d3_1) rfl (l' := #[.val (.ref a), .val (.int fo), .val (.int ct), .val (.ref b), .val (.int fo)]) rfl k) ?_
  show own_Ends p e below F (s₁.setTop (mkF m 3 #[.val (.ref a), .val (.int fo), .val (.int ct), .val (.ref b), .val (.int fo)] []))
  refine own_step (fun _ k => XS.iload X0.here hx rfl (hb hby d3_3) rfl k) ?_
  show own_Ends p e below F (s₁.setTop (mkF m 5 #[.val (.ref a), .val (.int fo), .val (.int ct), .val (.ref b), .val (.int fo)] [(.int fo)]))
  refine own_step (fun _ k => XS.iloadN X0.here hx rfl (hb hby d3_5) rfl k) ?_
  show own_Ends p e below F (s₁.setTop (mkF m 6 #[.val (.ref a), .val (.int fo), .val (.int ct), .val (.ref b), .val (.int fo)] [(.int fo), (.int fo)]))
  refine own_step (fun _ k => XS.iloadN X0.here hx rfl (hb hby d3_6) rfl k) ?_
  show own_Ends p e below F (s₁.setTop (mkF m 7 #[.val (.ref a), .val (.int fo), .val (.int ct), .val (.ref b), .val (.int fo)] [(.int ct), (.int fo), (.int fo)]))
  refine own_step (fun _ k => XS.iadd X0.here hx rfl (hb hby d3_7) rfl k) ?_
  show own_Ends p e below F (s₁.setTop (mkF m 8 #[.val (.ref a), .val (.int fo), .val (.int ct), .val (.ref b), .val (.int fo)] [(.int (fo + ct)), (.int fo)]))
  by_cases c8_1 : fo < (fo + ct)
  · refine own_step (fun _ k => XS.icmpNo X0.here hx rfl (hb hby d3_8) rfl (tlt c8_1).2.1 k) ?_
    show own_Ends p e below F (s₁.setTop (mkF m 11 #[.val (.ref a), .val (.int fo), .val (.int ct), .val (.ref b), .val (.int fo)] []))
    refine own_step (fun _ k => XS.aloadN X0.here hx rfl (hb hby d3_11) rfl rfl k) ?_
    show own_Ends p e below F (s₁.setTop (mkF m 12 #[.val (.ref a), .val (.int fo), .val (.int ct), .val (.ref b), .val (.int fo)] [(.ref b)]))
    refine own_step (fun _ k => XS.aloadN X0.here hx rfl (hb hby d3_12) rfl rfl k) ?_
    show own_Ends p e below F (s₁.setTop (mkF m 13 #[.val (.ref a), .val (.int fo), .val (.int ct), .val (.ref b), .val (.int fo)] [(.ref a), (.ref b)]))
    refine own_step (fun _ k => XS.iload X0.here hx rfl (hb hby d3_13) rfl k) ?_
    show own_Ends p e below F (s₁.setTop (mkF m 15 #[.val (.ref a), .val (.int fo), .val (.int ct), .val (.ref b), .val (.int fo)] [(.int fo), (.ref a), (.ref b)]))
    obtain ⟨cl2, Ar2, S2, G2⟩ := id GA
    have hin2 := own_inb (c := cl2) (j := fo) S2 (hb0 c8_1).1
    refine own_step (X0.iaload hx (j := fo) (v := (.int (gg fo.toNatClampNeg))) (by rw [e0]; exact Ar2.1) (State.isArrayOf_alike hZ.alike Ar2.2.1) Ar2.2.2 hin2 (own_gat S2 G2 hin2) (g := (mkF m 15 #[.val (.ref a), .val (.int fo), .val (.int ct), .val (.ref b), .val (.int fo)] [(.int fo), (.ref a), (.ref b)])) rfl rfl (hb hby d3_15)) ?_
    show own_Ends p e below F (s₁.setTop (mkF m 16 #[.val (.ref a), .val (.int fo), .val (.int ct), .val (.ref b), .val (.int fo)] [(.int (gg fo.toNatClampNeg)), (.ref b)]))
    obtain ⟨_, _, ⟨T3, L3, k3, n3⟩, -, X3, ⟨Lc3, hQ3, l3, y3, z3⟩, st3⟩ := Jvm.LawKit.callS X0 hx (y := (⟨"com/example/entitlement/entitlement/service/AclCode", "holds", "([JI)Z"⟩ : MethodName)) hown (mvT hZ (own_g hw 22 rfl)) (mvT hZ (own_g hw 23 rfl)) (mvT hZ (own_g hw 7 rfl)) (mvT hZ (own_g hw 24 rfl)) (by decide) (backOf (W := 0) (rm4 l Z a0 hw [] b (gg fo.toNatClampNeg) kb wa wb h0 n0 Z0 VB (hb0 c8_1).2) hZ (own_g hw 24 rfl) (own_g hw 7 rfl) (by decide) (by decide)) (g := (mkF m 16 #[.val (.ref a), .val (.int fo), .val (.int ct), .val (.ref b), .val (.int fo)] [(.int (gg fo.toNatClampNeg)), (.ref b)])) rfl (by rw [hml]; rfl) (argsL := [(.ref b), (.int (gg fo.toNatClampNeg))]) (rest := []) (lenOf pd__28_5bJI_29Z rfl) rfl (by show 2 * 0 + _ ≤ _; exact Nat.le_of_eq rfl) (hb hby d3_16) (fun _ _ => ⟨rfl, e0, (by decide : 0 + 0 ≤ _), (by decide : 0 + 0 ≤ _)⟩)
    dsimp only [Pt.U, Pt.locs, Pt.cells, Pt.slots] at X3 l3 y3 z3 st3 hQ3
    subst l3 y3 z3
    obtain ⟨rfl, Nq3, eq3⟩ := hQ3
    have N3 := Fr.app N0 Nq3
    refine own_step st3 ?_
    show own_Ends p e below F (T3.setTop (mkF m 19 #[.val (.ref a), .val (.int fo), .val (.int ct), .val (.ref b), .val (.int fo)] [(.int (own_has wa wb (gg fo.toNatClampNeg)))]))
    by_cases c19_4 : (own_has wa wb (gg fo.toNatClampNeg)) = (0 : Int32)
    · refine own_step (fun _ k => XS.ifYes X3.here hx rfl (pc0 := 19) (pc' := 24) rfl (hb hby d3_19) rfl ((if0 _ _).trans (teq c19_4).1) (by decide) (by decide) k) ?_
      show own_Ends p e below F (T3.setTop (mkF m 24 #[.val (.ref a), .val (.int fo), .val (.int ct), .val (.ref b), .val (.int fo)] []))
      refine own_step (fun _ k => XS.iinc X3.here hx rfl (hb hby d3_24) rfl (l' := #[.val (.ref a), .val (.int fo), .val (.int ct), .val (.ref b), .val (.int (fo + (1 : Int32)))]) rfl k) ?_
      show own_Ends p e below F (T3.setTop (mkF m 27 #[.val (.ref a), .val (.int fo), .val (.int ct), .val (.ref b), .val (.int (fo + (1 : Int32)))] []))
      refine own_step (fun _ k => XS.goto X3.here hx rfl (pc0 := 27) (pc' := 3) rfl (hb hby d3_27) (by decide) (by decide) k) ?_
      show own_Ends p e below F (T3.setTop (mkF m 3 #[.val (.ref a), .val (.int fo), .val (.int ct), .val (.ref b), .val (.int (fo + (1 : Int32)))] []))
      refine own_step (fun _ k => XS.iload X3.here hx rfl (hb hby d3_3) rfl k) ?_
      show own_Ends p e below F (T3.setTop (mkF m 5 #[.val (.ref a), .val (.int fo), .val (.int ct), .val (.ref b), .val (.int (fo + (1 : Int32)))] [(.int (fo + (1 : Int32)))]))
      refine own_step (fun _ k => XS.iloadN X3.here hx rfl (hb hby d3_5) rfl k) ?_
      show own_Ends p e below F (T3.setTop (mkF m 6 #[.val (.ref a), .val (.int fo), .val (.int ct), .val (.ref b), .val (.int (fo + (1 : Int32)))] [(.int fo), (.int (fo + (1 : Int32)))]))
      refine own_step (fun _ k => XS.iloadN X3.here hx rfl (hb hby d3_6) rfl k) ?_
      show own_Ends p e below F (T3.setTop (mkF m 7 #[.val (.ref a), .val (.int fo), .val (.int ct), .val (.ref b), .val (.int (fo + (1 : Int32)))] [(.int ct), (.int fo), (.int (fo + (1 : Int32)))]))
      refine own_step (fun _ k => XS.iadd X3.here hx rfl (hb hby d3_7) rfl k) ?_
      show own_Ends p e below F (T3.setTop (mkF m 8 #[.val (.ref a), .val (.int fo), .val (.int ct), .val (.ref b), .val (.int (fo + (1 : Int32)))] [(.int (fo + ct)), (.int (fo + (1 : Int32)))]))
      by_cases c8_5 : (fo + (1 : Int32)) < (fo + ct)
      · refine own_step (fun _ k => XS.icmpNo X3.here hx rfl (hb hby d3_8) rfl (tlt c8_5).2.1 k) ?_
        show own_Ends p e below F (T3.setTop (mkF m 11 #[.val (.ref a), .val (.int fo), .val (.int ct), .val (.ref b), .val (.int (fo + (1 : Int32)))] []))
        refine own_step (fun _ k => XS.aloadN X3.here hx rfl (hb hby d3_11) rfl rfl k) ?_
        show own_Ends p e below F (T3.setTop (mkF m 12 #[.val (.ref a), .val (.int fo), .val (.int ct), .val (.ref b), .val (.int (fo + (1 : Int32)))] [(.ref b)]))
        refine own_step (fun _ k => XS.aloadN X3.here hx rfl (hb hby d3_12) rfl rfl k) ?_
        show own_Ends p e below F (T3.setTop (mkF m 13 #[.val (.ref a), .val (.int fo), .val (.int ct), .val (.ref b), .val (.int (fo + (1 : Int32)))] [(.ref a), (.ref b)]))
        refine own_step (fun _ k => XS.iload X3.here hx rfl (hb hby d3_13) rfl k) ?_
        show own_Ends p e below F (T3.setTop (mkF m 15 #[.val (.ref a), .val (.int fo), .val (.int ct), .val (.ref b), .val (.int (fo + (1 : Int32)))] [(.int (fo + (1 : Int32))), (.ref a), (.ref b)]))
        obtain ⟨cl6, Ar6, S6, G6⟩ := id GA
        have hin6 := own_inb (c := cl6) (j := (fo + (1 : Int32))) S6 (hb1 c8_5).1
        refine own_step (X3.iaload hx (j := (fo + (1 : Int32))) (v := (.int (gg (fo + (1 : Int32)).toNatClampNeg))) (by rw [eq3]; exact Ar6.1) (State.isArrayOf_alike hZ.alike Ar6.2.1) Ar6.2.2 hin6 (own_gat S6 G6 hin6) (g := (mkF m 15 #[.val (.ref a), .val (.int fo), .val (.int ct), .val (.ref b), .val (.int (fo + (1 : Int32)))] [(.int (fo + (1 : Int32))), (.ref a), (.ref b)])) rfl rfl (hb hby d3_15)) ?_
        show own_Ends p e below F (T3.setTop (mkF m 16 #[.val (.ref a), .val (.int fo), .val (.int ct), .val (.ref b), .val (.int (fo + (1 : Int32)))] [(.int (gg (fo + (1 : Int32)).toNatClampNeg)), (.ref b)]))
        obtain ⟨_, _, ⟨T7, L7, k7, n7⟩, -, X7, ⟨Lc7, hQ7, l7, y7, z7⟩, st7⟩ := Jvm.LawKit.callS X3 hx (y := (⟨"com/example/entitlement/entitlement/service/AclCode", "holds", "([JI)Z"⟩ : MethodName)) hown (mvT hZ (own_g hw 22 rfl)) (mvT hZ (own_g hw 23 rfl)) (mvT hZ (own_g hw 7 rfl)) (mvT hZ (own_g hw 24 rfl)) (by decide) (backOf (W := 0) (rm4 l Z a0 hw [] b (gg (fo + (1 : Int32)).toNatClampNeg) kb wa wb h0 n0 Z0 VB (hb1 c8_5).2) hZ (own_g hw 24 rfl) (own_g hw 7 rfl) (by decide) (by decide)) (g := (mkF m 16 #[.val (.ref a), .val (.int fo), .val (.int ct), .val (.ref b), .val (.int (fo + (1 : Int32)))] [(.int (gg (fo + (1 : Int32)).toNatClampNeg)), (.ref b)])) rfl (by rw [hml]; rfl) (argsL := [(.ref b), (.int (gg (fo + (1 : Int32)).toNatClampNeg))]) (rest := []) (lenOf pd__28_5bJI_29Z rfl) rfl (by show 2 * 0 + _ ≤ _; exact Nat.le_of_eq rfl) (hb hby d3_16) (fun _ _ => ⟨rfl, eq3, (by decide : 0 + 0 ≤ _), (by decide : 0 + 0 ≤ _)⟩)
        dsimp only [Pt.U, Pt.locs, Pt.cells, Pt.slots] at X7 l7 y7 z7 st7 hQ7
        subst l7 y7 z7
        obtain ⟨rfl, Nq7, eq7⟩ := hQ7
        have N7 := Fr.app N3 Nq7
        refine own_step st7 ?_
        show own_Ends p e below F (T7.setTop (mkF m 19 #[.val (.ref a), .val (.int fo), .val (.int ct), .val (.ref b), .val (.int (fo + (1 : Int32)))] [(.int (own_has wa wb (gg (fo + (1 : Int32)).toNatClampNeg)))]))
        by_cases c19_8 : (own_has wa wb (gg (fo + (1 : Int32)).toNatClampNeg)) = (0 : Int32)
        · refine own_step (fun _ k => XS.ifYes X7.here hx rfl (pc0 := 19) (pc' := 24) rfl (hb hby d3_19) rfl ((if0 _ _).trans (teq c19_8).1) (by decide) (by decide) k) ?_
          show own_Ends p e below F (T7.setTop (mkF m 24 #[.val (.ref a), .val (.int fo), .val (.int ct), .val (.ref b), .val (.int (fo + (1 : Int32)))] []))
          refine own_step (fun _ k => XS.iinc X7.here hx rfl (hb hby d3_24) rfl (l' := #[.val (.ref a), .val (.int fo), .val (.int ct), .val (.ref b), .val (.int ((fo + (1 : Int32)) + (1 : Int32)))]) rfl k) ?_
          show own_Ends p e below F (T7.setTop (mkF m 27 #[.val (.ref a), .val (.int fo), .val (.int ct), .val (.ref b), .val (.int ((fo + (1 : Int32)) + (1 : Int32)))] []))
          refine own_step (fun _ k => XS.goto X7.here hx rfl (pc0 := 27) (pc' := 3) rfl (hb hby d3_27) (by decide) (by decide) k) ?_
          show own_Ends p e below F (T7.setTop (mkF m 3 #[.val (.ref a), .val (.int fo), .val (.int ct), .val (.ref b), .val (.int ((fo + (1 : Int32)) + (1 : Int32)))] []))
          refine own_step (fun _ k => XS.iload X7.here hx rfl (hb hby d3_3) rfl k) ?_
          show own_Ends p e below F (T7.setTop (mkF m 5 #[.val (.ref a), .val (.int fo), .val (.int ct), .val (.ref b), .val (.int ((fo + (1 : Int32)) + (1 : Int32)))] [(.int ((fo + (1 : Int32)) + (1 : Int32)))]))
          refine own_step (fun _ k => XS.iloadN X7.here hx rfl (hb hby d3_5) rfl k) ?_
          show own_Ends p e below F (T7.setTop (mkF m 6 #[.val (.ref a), .val (.int fo), .val (.int ct), .val (.ref b), .val (.int ((fo + (1 : Int32)) + (1 : Int32)))] [(.int fo), (.int ((fo + (1 : Int32)) + (1 : Int32)))]))
          refine own_step (fun _ k => XS.iloadN X7.here hx rfl (hb hby d3_6) rfl k) ?_
          show own_Ends p e below F (T7.setTop (mkF m 7 #[.val (.ref a), .val (.int fo), .val (.int ct), .val (.ref b), .val (.int ((fo + (1 : Int32)) + (1 : Int32)))] [(.int ct), (.int fo), (.int ((fo + (1 : Int32)) + (1 : Int32)))]))
          refine own_step (fun _ k => XS.iadd X7.here hx rfl (hb hby d3_7) rfl k) ?_
          show own_Ends p e below F (T7.setTop (mkF m 8 #[.val (.ref a), .val (.int fo), .val (.int ct), .val (.ref b), .val (.int ((fo + (1 : Int32)) + (1 : Int32)))] [(.int (fo + ct)), (.int ((fo + (1 : Int32)) + (1 : Int32)))]))
          refine own_step (fun _ k => XS.icmpYes X7.here hx rfl (pc0 := 8) (pc' := 30) rfl (hb hby d3_8) rfl (flt (hb2 : ¬ (((fo + (1 : Int32)) + (1 : Int32)) < (fo + ct)))).2.1 (by decide) (by decide) k) ?_
          show own_Ends p e below F (T7.setTop (mkF m 30 #[.val (.ref a), .val (.int fo), .val (.int ct), .val (.ref b), .val (.int ((fo + (1 : Int32)) + (1 : Int32)))] []))
          refine own_step (fun _ k => XS.iconst X7.here hx rfl (hb hby d3_30) k) ?_
          show own_Ends p e below F (T7.setTop (mkF m 31 #[.val (.ref a), .val (.int fo), .val (.int ct), .val (.ref b), .val (.int ((fo + (1 : Int32)) + (1 : Int32)))] [(.int (0 : Int32))]))
          rw [hF]
          exact own_ret X7 (v := (some (.int (nar .boolean (0 : Int32))))) (fun h => by rw [Bd.returns] at h; cases h) Bd.notSynchronized (fun fs hr => retN X7 hx (t := .boolean) Bd.returns (by simp) (hb hby d3_31) hr) (by decide) (by decide) (by rw [eq7]; exact ⟨by simp only [own_any, c8_1, c19_4, c8_5, c19_8, if_true, if_false]; rfl, N7, rfl⟩)
        · refine own_step (fun _ k => XS.ifNo X7.here hx rfl (hb hby d3_19) rfl ((if0 _ _).trans (feq c19_8).1) k) ?_
          show own_Ends p e below F (T7.setTop (mkF m 22 #[.val (.ref a), .val (.int fo), .val (.int ct), .val (.ref b), .val (.int (fo + (1 : Int32)))] []))
          refine own_step (fun _ k => XS.iconst X7.here hx rfl (hb hby d3_22) k) ?_
          show own_Ends p e below F (T7.setTop (mkF m 23 #[.val (.ref a), .val (.int fo), .val (.int ct), .val (.ref b), .val (.int (fo + (1 : Int32)))] [(.int (1 : Int32))]))
          rw [hF]
          exact own_ret X7 (v := (some (.int (nar .boolean (1 : Int32))))) (fun h => by rw [Bd.returns] at h; cases h) Bd.notSynchronized (fun fs hr => retN X7 hx (t := .boolean) Bd.returns (by simp) (hb hby d3_23) hr) (by decide) (by decide) (by rw [eq7]; exact ⟨by simp only [own_any, c8_1, c19_4, c8_5, c19_8, if_true, if_false]; rfl, N7, rfl⟩)
      · refine own_step (fun _ k => XS.icmpYes X3.here hx rfl (pc0 := 8) (pc' := 30) rfl (hb hby d3_8) rfl (flt c8_5).2.1 (by decide) (by decide) k) ?_
        show own_Ends p e below F (T3.setTop (mkF m 30 #[.val (.ref a), .val (.int fo), .val (.int ct), .val (.ref b), .val (.int (fo + (1 : Int32)))] []))
        refine own_step (fun _ k => XS.iconst X3.here hx rfl (hb hby d3_30) k) ?_
        show own_Ends p e below F (T3.setTop (mkF m 31 #[.val (.ref a), .val (.int fo), .val (.int ct), .val (.ref b), .val (.int (fo + (1 : Int32)))] [(.int (0 : Int32))]))
        rw [hF]
        exact own_ret X3 (v := (some (.int (nar .boolean (0 : Int32))))) (fun h => by rw [Bd.returns] at h; cases h) Bd.notSynchronized (fun fs hr => retN X3 hx (t := .boolean) Bd.returns (by simp) (hb hby d3_31) hr) (by decide) (by decide) (by rw [eq3]; exact ⟨by simp only [own_any, c8_1, c19_4, c8_5, if_true, if_false]; rfl, N3, rfl⟩)
    · refine own_step (fun _ k => XS.ifNo X3.here hx rfl (hb hby d3_19) rfl ((if0 _ _).trans (feq c19_4).1) k) ?_
      show own_Ends p e below F (T3.setTop (mkF m 22 #[.val (.ref a), .val (.int fo), .val (.int ct), .val (.ref b), .val (.int fo)] []))
      refine own_step (fun _ k => XS.iconst X3.here hx rfl (hb hby d3_22) k) ?_
      show own_Ends p e below F (T3.setTop (mkF m 23 #[.val (.ref a), .val (.int fo), .val (.int ct), .val (.ref b), .val (.int fo)] [(.int (1 : Int32))]))
      rw [hF]
      exact own_ret X3 (v := (some (.int (nar .boolean (1 : Int32))))) (fun h => by rw [Bd.returns] at h; cases h) Bd.notSynchronized (fun fs hr => retN X3 hx (t := .boolean) Bd.returns (by simp) (hb hby d3_23) hr) (by decide) (by decide) (by rw [eq3]; exact ⟨by simp only [own_any, c8_1, c19_4, if_true, if_false]; rfl, N3, rfl⟩)
  · refine own_step (fun _ k => XS.icmpYes X0.here hx rfl (pc0 := 8) (pc' := 30) rfl (hb hby d3_8) rfl (flt c8_1).2.1 (by decide) (by decide) k) ?_
    show own_Ends p e below F (s₁.setTop (mkF m 30 #[.val (.ref a), .val (.int fo), .val (.int ct), .val (.ref b), .val (.int fo)] []))
    refine own_step (fun _ k => XS.iconst X0.here hx rfl (hb hby d3_30) k) ?_
    show own_Ends p e below F (s₁.setTop (mkF m 31 #[.val (.ref a), .val (.int fo), .val (.int ct), .val (.ref b), .val (.int fo)] [(.int (0 : Int32))]))
    rw [hF]
    exact own_ret X0 (v := (some (.int (nar .boolean (0 : Int32))))) (fun h => by rw [Bd.returns] at h; cases h) Bd.notSynchronized (fun fs hr => retN X0 hx (t := .boolean) Bd.returns (by simp) (hb hby d3_31) hr) (by decide) (by decide) (by rw [e0]; exact ⟨by simp only [own_any, c8_1, if_true, if_false]; rfl, N0, rfl⟩)

theorem d5_0 : decode prog_41_method_9_code 0 = .ok (.iload_n 1, 1) := by decide +kernel
theorem d5_1 : decode prog_41_method_9_code 1 = .ok (.istore 4, 2) := by decide +kernel
theorem d5_3 : decode prog_41_method_9_code 3 = .ok (.iload 4, 2) := by decide +kernel
theorem d5_5 : decode prog_41_method_9_code 5 = .ok (.iload_n 1, 1) := by decide +kernel
theorem d5_6 : decode prog_41_method_9_code 6 = .ok (.iload_n 2, 1) := by decide +kernel
theorem d5_7 : decode prog_41_method_9_code 7 = .ok (.iadd, 1) := by decide +kernel
theorem d5_8 : decode prog_41_method_9_code 8 = .ok (.if_icmp .ge 43, 3) := by decide +kernel
theorem d5_11 : decode prog_41_method_9_code 11 = .ok (.aload_n 0, 1) := by decide +kernel
theorem d5_12 : decode prog_41_method_9_code 12 = .ok (.iload 4, 2) := by decide +kernel
theorem d5_14 : decode prog_41_method_9_code 14 = .ok (.iaload, 1) := by decide +kernel
theorem d5_15 : decode prog_41_method_9_code 15 = .ok (.istore 5, 2) := by decide +kernel
theorem d5_17 : decode prog_41_method_9_code 17 = .ok (.aload_n 3, 1) := by decide +kernel
theorem d5_18 : decode prog_41_method_9_code 18 = .ok (.iload 5, 2) := by decide +kernel
theorem d5_20 : decode prog_41_method_9_code 20 = .ok (.iconst 1, 1) := by decide +kernel
theorem d5_21 : decode prog_41_method_9_code 21 = .ok (.iushr, 1) := by decide +kernel
theorem d5_22 : decode prog_41_method_9_code 22 = .ok (.invokestatic 108, 3) := by decide +kernel
theorem d5_25 : decode prog_41_method_9_code 25 = .ok (.ifCond .eq 20, 3) := by decide +kernel
theorem d5_28 : decode prog_41_method_9_code 28 = .ok (.iload 5, 2) := by decide +kernel
theorem d5_30 : decode prog_41_method_9_code 30 = .ok (.iconst 1, 1) := by decide +kernel
theorem d5_31 : decode prog_41_method_9_code 31 = .ok (.iand, 1) := by decide +kernel
theorem d5_32 : decode prog_41_method_9_code 32 = .ok (.ifCond .eq 9, 3) := by decide +kernel
theorem d5_35 : decode prog_41_method_9_code 35 = .ok (.getstatic 88, 3) := by decide +kernel
theorem d5_38 : decode prog_41_method_9_code 38 = .ok (.goto 6, 3) := by decide +kernel
theorem d5_41 : decode prog_41_method_9_code 41 = .ok (.getstatic 98, 3) := by decide +kernel
theorem d5_44 : decode prog_41_method_9_code 44 = .ok (.areturn, 1) := by decide +kernel
theorem d5_45 : decode prog_41_method_9_code 45 = .ok (.iinc 4 1, 3) := by decide +kernel
theorem d5_48 : decode prog_41_method_9_code 48 = .ok (.goto (-45), 3) := by decide +kernel
theorem d5_51 : decode prog_41_method_9_code 51 = .ok (.getstatic 101, 3) := by decide +kernel
theorem d5_54 : decode prog_41_method_9_code 54 = .ok (.areturn, 1) := by decide +kernel
theorem ef_rm5 (m : MethodId) (x0 : Addr) (x1 : Int32) (x2 : Int32) (x3 : Addr) : entryFrame m #[(.ref x0), (.int x1), (.int x2), (.ref x3)] 6 = mkF m 0 #[.val (.ref x0), .val (.int x1), .val (.int x2), .val (.ref x3), .unset, .unset] [] := by first | (simp [entryFrame, mkF, argsToLocals, Value.category, maxLocals]; done) | rfl
def Q5 (Z : State) (a b : Addr) (fo ct : Int32) (gg : Nat → Int32) (kb : ClassId) (wa wb : Int64) (pe de no : Addr) (h0 : Heap) (n0 : Nat) (v : Option Value) (h : Heap) (L : List Loc) : Prop := v = some (.ref (own_fm gg fo ct wa wb pe de no)) ∧ Fr n0 L ∧ h = h0
set_option maxRecDepth 65536 in
set_option maxHeartbeats 40000000 in
theorem rm5 (l : Launch) (Z : State) (a0 : Array Value) (hw : ∀ d ∈ tables_1, d.before a0 Z = true) (ws : List Jvm.Cond) (a b : Addr) (fo ct : Int32) (gg : Nat → Int32) (kb : ClassId) (wa wb : Int64) (pe de no : Addr) (h0 : Heap) (n0 : Nat) (Z0 : n0 ≤ h0.size) (GA : own_Ai Z h0 a 10 gg) (VB : Arv Z h0 b kb .long (2 : Int32) [(.long wa), (.long wb)] (.long (0 : Int64))) (hb0 : fo < fo + ct → own_I fo ∧ own_R (own_u1 (gg fo.toNatClampNeg))) (hb1 : (fo + (1 : Int32)) < fo + ct → own_I (fo + (1 : Int32)) ∧ own_R (own_u1 (gg (fo + (1 : Int32)).toNatClampNeg))) (hb2 : ((fo + (1 : Int32)) + (1 : Int32)) < fo + ct → own_I ((fo + (1 : Int32)) + (1 : Int32)) ∧ own_R (own_u1 (gg ((fo + (1 : Int32)) + (1 : Int32)).toNatClampNeg))) (hb3 : ¬ (((fo + (1 : Int32)) + (1 : Int32)) + (1 : Int32)) < fo + ct) (Spe : Sta Z h0 "com/example/entitlement/entitlement/service/Outcome" "PERMIT" "Lcom/example/entitlement/entitlement/service/Outcome;" (.ref pe)) (Sde : Sta Z h0 "com/example/entitlement/entitlement/service/Outcome" "DENY" "Lcom/example/entitlement/entitlement/service/Outcome;" (.ref de)) (Sno : Sta Z h0 "com/example/entitlement/entitlement/service/Outcome" "NO_MATCH" "Lcom/example/entitlement/entitlement/service/Outcome;" (.ref no)) :
    MetFree l (⟨"com/example/entitlement/entitlement/service/AclCode", "firstMatch", "([III[J)Lcom/example/entitlement/entitlement/service/Outcome;"⟩ : MethodName) (head1 (Jvm.Cond.code (⟨"com/example/entitlement/entitlement/service/AclCode", "firstMatch", "([III[J)Lcom/example/entitlement/entitlement/service/Outcome;"⟩ : MethodName) prog_41_method_9_code 6 (some (.object "com/example/entitlement/entitlement/service/Outcome")) :: ws) ({ frames := 1, cells := 0, slots := 0, locals := 13 } : Room)) (fun ar U => ar = #[(.ref a), (.int fo), (.int ct), (.ref b)] ∧ Z.Warmed39 U.vm ∧ U.heap = h0) (fun _ _ _ _ _ => True) (fun _ U o U' => ∃ v L, o = .returned v ∧ Q5 Z a b fo ct gg kb wa wb pe de no h0 n0 v U'.heap L ∧ FrameEnd U o U' L ({ frames := 1, cells := 0, slots := 0, locals := 13 } : Room).cells ({ frames := 1, cells := 0, slots := 0, locals := 13 } : Room).slots) := by
  refine MetFree.of_bodySF (plainFor_of_name pn_com_example_entitlement_entitlement_service_AclCode) hisR ?_
  intro p e s m args below meth c s₁ Bd hml0 hP hK
  obtain ⟨rfl, hZ, hh⟩ := hP
  have hx := Bd.exec
  have hby := Bd.bytes
  have hml : c.maxLocals = 6 := hml0
  have hown : s.vm.findClass "com/example/entitlement/entitlement/service/AclCode" = some m.cls := findClass_of_methodNamed Bd.named
  have hnm := (name_of_methodNamed Bd.named Bd.method).1
  have X0 : Stand p l e ({ frames := 1, cells := 0, slots := 0, locals := 13 } : Room) s m #[(.ref a), (.int fo), (.int ct), (.ref b)] below meth c s₁ [] 0 0 := Stand.of_body Bd
  have e0 : s₁.heap = h0 := by rw [← hh, Bd.state]; rfl
  have N0 := Fr.nil n0
  obtain ⟨F, hF⟩ : ∃ F, F = own_Fin s (Q5 Z a b fo ct gg kb wa wb pe de no h0 n0) ({ frames := 1, cells := 0, slots := 0, locals := 13 } : Room).cells ({ frames := 1, cells := 0, slots := 0, locals := 13 } : Room).slots := ⟨_, rfl⟩
  show own_Ends p e below (own_Fin s (Q5 Z a b fo ct gg kb wa wb pe de no h0 n0) ({ frames := 1, cells := 0, slots := 0, locals := 13 } : Room).cells ({ frames := 1, cells := 0, slots := 0, locals := 13 } : Room).slots) _
  rw [← hF, ef_rm5 m a fo ct b]
  show own_Ends p e below F (s₁.setTop (mkF m 0 #[.val (.ref a), .val (.int fo), .val (.int ct), .val (.ref b), .unset, .unset] []))
  refine own_step (fun _ k => XS.iloadN X0.here hx rfl (hb hby d5_0) rfl k) ?_
  show own_Ends p e below F (s₁.setTop (mkF m 1 #[.val (.ref a), .val (.int fo), .val (.int ct), .val (.ref b), .unset, .unset] [(.int fo)]))
  refine own_step (fun _ k => XS.istore X0.here hx rfl (hb hby d5_1) rfl (l' := #[.val (.ref a), .val (.int fo), .val (.int ct), .val (.ref b), .val (.int fo), .unset]) rfl k) ?_
  show own_Ends p e below F (s₁.setTop (mkF m 3 #[.val (.ref a), .val (.int fo), .val (.int ct), .val (.ref b), .val (.int fo), .unset] []))
  refine own_step (fun _ k => XS.iload X0.here hx rfl (hb hby d5_3) rfl k) ?_
  show own_Ends p e below F (s₁.setTop (mkF m 5 #[.val (.ref a), .val (.int fo), .val (.int ct), .val (.ref b), .val (.int fo), .unset] [(.int fo)]))
  refine own_step (fun _ k => XS.iloadN X0.here hx rfl (hb hby d5_5) rfl k) ?_
  show own_Ends p e below F (s₁.setTop (mkF m 6 #[.val (.ref a), .val (.int fo), .val (.int ct), .val (.ref b), .val (.int fo), .unset] [(.int fo), (.int fo)]))
  refine own_step (fun _ k => XS.iloadN X0.here hx rfl (hb hby d5_6) rfl k) ?_
  show own_Ends p e below F (s₁.setTop (mkF m 7 #[.val (.ref a), .val (.int fo), .val (.int ct), .val (.ref b), .val (.int fo), .unset] [(.int ct), (.int fo), (.int fo)]))
  refine own_step (fun _ k => XS.iadd X0.here hx rfl (hb hby d5_7) rfl k) ?_
  show own_Ends p e below F (s₁.setTop (mkF m 8 #[.val (.ref a), .val (.int fo), .val (.int ct), .val (.ref b), .val (.int fo), .unset] [(.int (fo + ct)), (.int fo)]))
  by_cases c8_1 : fo < (fo + ct)
  · refine own_step (fun _ k => XS.icmpNo X0.here hx rfl (hb hby d5_8) rfl (tlt c8_1).2.1 k) ?_
    show own_Ends p e below F (s₁.setTop (mkF m 11 #[.val (.ref a), .val (.int fo), .val (.int ct), .val (.ref b), .val (.int fo), .unset] []))
    refine own_step (fun _ k => XS.aloadN X0.here hx rfl (hb hby d5_11) rfl rfl k) ?_
    show own_Ends p e below F (s₁.setTop (mkF m 12 #[.val (.ref a), .val (.int fo), .val (.int ct), .val (.ref b), .val (.int fo), .unset] [(.ref a)]))
    refine own_step (fun _ k => XS.iload X0.here hx rfl (hb hby d5_12) rfl k) ?_
    show own_Ends p e below F (s₁.setTop (mkF m 14 #[.val (.ref a), .val (.int fo), .val (.int ct), .val (.ref b), .val (.int fo), .unset] [(.int fo), (.ref a)]))
    obtain ⟨cl2, Ar2, S2, G2⟩ := id GA
    have hin2 := own_inb (c := cl2) (j := fo) S2 (hb0 c8_1).1
    refine own_step (X0.iaload hx (j := fo) (v := (.int (gg fo.toNatClampNeg))) (by rw [e0]; exact Ar2.1) (State.isArrayOf_alike hZ.alike Ar2.2.1) Ar2.2.2 hin2 (own_gat S2 G2 hin2) (g := (mkF m 14 #[.val (.ref a), .val (.int fo), .val (.int ct), .val (.ref b), .val (.int fo), .unset] [(.int fo), (.ref a)])) rfl rfl (hb hby d5_14)) ?_
    show own_Ends p e below F (s₁.setTop (mkF m 15 #[.val (.ref a), .val (.int fo), .val (.int ct), .val (.ref b), .val (.int fo), .unset] [(.int (gg fo.toNatClampNeg))]))
    refine own_step (fun _ k => XS.istore X0.here hx rfl (hb hby d5_15) rfl (l' := #[.val (.ref a), .val (.int fo), .val (.int ct), .val (.ref b), .val (.int fo), .val (.int (gg fo.toNatClampNeg))]) rfl k) ?_
    show own_Ends p e below F (s₁.setTop (mkF m 17 #[.val (.ref a), .val (.int fo), .val (.int ct), .val (.ref b), .val (.int fo), .val (.int (gg fo.toNatClampNeg))] []))
    refine own_step (fun _ k => XS.aloadN X0.here hx rfl (hb hby d5_17) rfl rfl k) ?_
    show own_Ends p e below F (s₁.setTop (mkF m 18 #[.val (.ref a), .val (.int fo), .val (.int ct), .val (.ref b), .val (.int fo), .val (.int (gg fo.toNatClampNeg))] [(.ref b)]))
    refine own_step (fun _ k => XS.iload X0.here hx rfl (hb hby d5_18) rfl k) ?_
    show own_Ends p e below F (s₁.setTop (mkF m 20 #[.val (.ref a), .val (.int fo), .val (.int ct), .val (.ref b), .val (.int fo), .val (.int (gg fo.toNatClampNeg))] [(.int (gg fo.toNatClampNeg)), (.ref b)]))
    refine own_step (fun _ k => XS.iconst X0.here hx rfl (hb hby d5_20) k) ?_
    show own_Ends p e below F (s₁.setTop (mkF m 21 #[.val (.ref a), .val (.int fo), .val (.int ct), .val (.ref b), .val (.int fo), .val (.int (gg fo.toNatClampNeg))] [(.int (1 : Int32)), (.int (gg fo.toNatClampNeg)), (.ref b)]))
    refine own_step (fun _ k => XS.iushr X0.here hx rfl (hb hby d5_21) rfl k) ?_
    show own_Ends p e below F (s₁.setTop (mkF m 22 #[.val (.ref a), .val (.int fo), .val (.int ct), .val (.ref b), .val (.int fo), .val (.int (gg fo.toNatClampNeg))] [(.int (((gg fo.toNatClampNeg).toUInt32 >>> ((1 : Int32) &&& 31).toUInt32).toInt32)), (.ref b)]))
    obtain ⟨_, _, ⟨T3, L3, k3, n3⟩, -, X3, ⟨Lc3, hQ3, l3, y3, z3⟩, st3⟩ := Jvm.LawKit.callS X0 hx (y := (⟨"com/example/entitlement/entitlement/service/AclCode", "holds", "([JI)Z"⟩ : MethodName)) hown (mvT hZ (own_g hw 22 rfl)) (mvT hZ (own_g hw 23 rfl)) (mvT hZ (own_g hw 7 rfl)) (mvT hZ (own_g hw 24 rfl)) (by decide) (backOf (W := 0) (rm4 l Z a0 hw [] b (((gg fo.toNatClampNeg).toUInt32 >>> ((1 : Int32) &&& 31).toUInt32).toInt32) kb wa wb h0 n0 Z0 VB (hb0 c8_1).2) hZ (own_g hw 24 rfl) (own_g hw 7 rfl) (by decide) (by decide)) (g := (mkF m 22 #[.val (.ref a), .val (.int fo), .val (.int ct), .val (.ref b), .val (.int fo), .val (.int (gg fo.toNatClampNeg))] [(.int (((gg fo.toNatClampNeg).toUInt32 >>> ((1 : Int32) &&& 31).toUInt32).toInt32)), (.ref b)])) rfl (by rw [hml]; rfl) (argsL := [(.ref b), (.int (((gg fo.toNatClampNeg).toUInt32 >>> ((1 : Int32) &&& 31).toUInt32).toInt32))]) (rest := []) (lenOf pd__28_5bJI_29Z rfl) rfl (by show 2 * 0 + _ ≤ _; exact Nat.le_of_eq rfl) (hb hby d5_22) (fun _ _ => ⟨rfl, e0, (by decide : 0 + 0 ≤ _), (by decide : 0 + 0 ≤ _)⟩)
    dsimp only [Pt.U, Pt.locs, Pt.cells, Pt.slots] at X3 l3 y3 z3 st3 hQ3
    subst l3 y3 z3
    obtain ⟨rfl, Nq3, eq3⟩ := hQ3
    have N3 := Fr.app N0 Nq3
    refine own_step st3 ?_
    show own_Ends p e below F (T3.setTop (mkF m 25 #[.val (.ref a), .val (.int fo), .val (.int ct), .val (.ref b), .val (.int fo), .val (.int (gg fo.toNatClampNeg))] [(.int (own_has wa wb (((gg fo.toNatClampNeg).toUInt32 >>> ((1 : Int32) &&& 31).toUInt32).toInt32)))]))
    by_cases c25_4 : (own_has wa wb (((gg fo.toNatClampNeg).toUInt32 >>> ((1 : Int32) &&& 31).toUInt32).toInt32)) = (0 : Int32)
    · refine own_step (fun _ k => XS.ifYes X3.here hx rfl (pc0 := 25) (pc' := 45) rfl (hb hby d5_25) rfl ((if0 _ _).trans (teq c25_4).1) (by decide) (by decide) k) ?_
      show own_Ends p e below F (T3.setTop (mkF m 45 #[.val (.ref a), .val (.int fo), .val (.int ct), .val (.ref b), .val (.int fo), .val (.int (gg fo.toNatClampNeg))] []))
      refine own_step (fun _ k => XS.iinc X3.here hx rfl (hb hby d5_45) rfl (l' := #[.val (.ref a), .val (.int fo), .val (.int ct), .val (.ref b), .val (.int (fo + (1 : Int32))), .val (.int (gg fo.toNatClampNeg))]) rfl k) ?_
      show own_Ends p e below F (T3.setTop (mkF m 48 #[.val (.ref a), .val (.int fo), .val (.int ct), .val (.ref b), .val (.int (fo + (1 : Int32))), .val (.int (gg fo.toNatClampNeg))] []))
      refine own_step (fun _ k => XS.goto X3.here hx rfl (pc0 := 48) (pc' := 3) rfl (hb hby d5_48) (by decide) (by decide) k) ?_
      show own_Ends p e below F (T3.setTop (mkF m 3 #[.val (.ref a), .val (.int fo), .val (.int ct), .val (.ref b), .val (.int (fo + (1 : Int32))), .val (.int (gg fo.toNatClampNeg))] []))
      refine own_step (fun _ k => XS.iload X3.here hx rfl (hb hby d5_3) rfl k) ?_
      show own_Ends p e below F (T3.setTop (mkF m 5 #[.val (.ref a), .val (.int fo), .val (.int ct), .val (.ref b), .val (.int (fo + (1 : Int32))), .val (.int (gg fo.toNatClampNeg))] [(.int (fo + (1 : Int32)))]))
      refine own_step (fun _ k => XS.iloadN X3.here hx rfl (hb hby d5_5) rfl k) ?_
      show own_Ends p e below F (T3.setTop (mkF m 6 #[.val (.ref a), .val (.int fo), .val (.int ct), .val (.ref b), .val (.int (fo + (1 : Int32))), .val (.int (gg fo.toNatClampNeg))] [(.int fo), (.int (fo + (1 : Int32)))]))
      refine own_step (fun _ k => XS.iloadN X3.here hx rfl (hb hby d5_6) rfl k) ?_
      show own_Ends p e below F (T3.setTop (mkF m 7 #[.val (.ref a), .val (.int fo), .val (.int ct), .val (.ref b), .val (.int (fo + (1 : Int32))), .val (.int (gg fo.toNatClampNeg))] [(.int ct), (.int fo), (.int (fo + (1 : Int32)))]))
      refine own_step (fun _ k => XS.iadd X3.here hx rfl (hb hby d5_7) rfl k) ?_
      show own_Ends p e below F (T3.setTop (mkF m 8 #[.val (.ref a), .val (.int fo), .val (.int ct), .val (.ref b), .val (.int (fo + (1 : Int32))), .val (.int (gg fo.toNatClampNeg))] [(.int (fo + ct)), (.int (fo + (1 : Int32)))]))
      by_cases c8_5 : (fo + (1 : Int32)) < (fo + ct)
      · refine own_step (fun _ k => XS.icmpNo X3.here hx rfl (hb hby d5_8) rfl (tlt c8_5).2.1 k) ?_
        show own_Ends p e below F (T3.setTop (mkF m 11 #[.val (.ref a), .val (.int fo), .val (.int ct), .val (.ref b), .val (.int (fo + (1 : Int32))), .val (.int (gg fo.toNatClampNeg))] []))
        refine own_step (fun _ k => XS.aloadN X3.here hx rfl (hb hby d5_11) rfl rfl k) ?_
        show own_Ends p e below F (T3.setTop (mkF m 12 #[.val (.ref a), .val (.int fo), .val (.int ct), .val (.ref b), .val (.int (fo + (1 : Int32))), .val (.int (gg fo.toNatClampNeg))] [(.ref a)]))
        refine own_step (fun _ k => XS.iload X3.here hx rfl (hb hby d5_12) rfl k) ?_
        show own_Ends p e below F (T3.setTop (mkF m 14 #[.val (.ref a), .val (.int fo), .val (.int ct), .val (.ref b), .val (.int (fo + (1 : Int32))), .val (.int (gg fo.toNatClampNeg))] [(.int (fo + (1 : Int32))), (.ref a)]))
        obtain ⟨cl6, Ar6, S6, G6⟩ := id GA
        have hin6 := own_inb (c := cl6) (j := (fo + (1 : Int32))) S6 (hb1 c8_5).1
        refine own_step (X3.iaload hx (j := (fo + (1 : Int32))) (v := (.int (gg (fo + (1 : Int32)).toNatClampNeg))) (by rw [eq3]; exact Ar6.1) (State.isArrayOf_alike hZ.alike Ar6.2.1) Ar6.2.2 hin6 (own_gat S6 G6 hin6) (g := (mkF m 14 #[.val (.ref a), .val (.int fo), .val (.int ct), .val (.ref b), .val (.int (fo + (1 : Int32))), .val (.int (gg fo.toNatClampNeg))] [(.int (fo + (1 : Int32))), (.ref a)])) rfl rfl (hb hby d5_14)) ?_
        show own_Ends p e below F (T3.setTop (mkF m 15 #[.val (.ref a), .val (.int fo), .val (.int ct), .val (.ref b), .val (.int (fo + (1 : Int32))), .val (.int (gg fo.toNatClampNeg))] [(.int (gg (fo + (1 : Int32)).toNatClampNeg))]))
        refine own_step (fun _ k => XS.istore X3.here hx rfl (hb hby d5_15) rfl (l' := #[.val (.ref a), .val (.int fo), .val (.int ct), .val (.ref b), .val (.int (fo + (1 : Int32))), .val (.int (gg (fo + (1 : Int32)).toNatClampNeg))]) rfl k) ?_
        show own_Ends p e below F (T3.setTop (mkF m 17 #[.val (.ref a), .val (.int fo), .val (.int ct), .val (.ref b), .val (.int (fo + (1 : Int32))), .val (.int (gg (fo + (1 : Int32)).toNatClampNeg))] []))
        refine own_step (fun _ k => XS.aloadN X3.here hx rfl (hb hby d5_17) rfl rfl k) ?_
        show own_Ends p e below F (T3.setTop (mkF m 18 #[.val (.ref a), .val (.int fo), .val (.int ct), .val (.ref b), .val (.int (fo + (1 : Int32))), .val (.int (gg (fo + (1 : Int32)).toNatClampNeg))] [(.ref b)]))
        refine own_step (fun _ k => XS.iload X3.here hx rfl (hb hby d5_18) rfl k) ?_
        show own_Ends p e below F (T3.setTop (mkF m 20 #[.val (.ref a), .val (.int fo), .val (.int ct), .val (.ref b), .val (.int (fo + (1 : Int32))), .val (.int (gg (fo + (1 : Int32)).toNatClampNeg))] [(.int (gg (fo + (1 : Int32)).toNatClampNeg)), (.ref b)]))
        refine own_step (fun _ k => XS.iconst X3.here hx rfl (hb hby d5_20) k) ?_
        show own_Ends p e below F (T3.setTop (mkF m 21 #[.val (.ref a), .val (.int fo), .val (.int ct), .val (.ref b), .val (.int (fo + (1 : Int32))), .val (.int (gg (fo + (1 : Int32)).toNatClampNeg))] [(.int (1 : Int32)), (.int (gg (fo + (1 : Int32)).toNatClampNeg)), (.ref b)]))
        refine own_step (fun _ k => XS.iushr X3.here hx rfl (hb hby d5_21) rfl k) ?_
        show own_Ends p e below F (T3.setTop (mkF m 22 #[.val (.ref a), .val (.int fo), .val (.int ct), .val (.ref b), .val (.int (fo + (1 : Int32))), .val (.int (gg (fo + (1 : Int32)).toNatClampNeg))] [(.int (((gg (fo + (1 : Int32)).toNatClampNeg).toUInt32 >>> ((1 : Int32) &&& 31).toUInt32).toInt32)), (.ref b)]))
        obtain ⟨_, _, ⟨T7, L7, k7, n7⟩, -, X7, ⟨Lc7, hQ7, l7, y7, z7⟩, st7⟩ := Jvm.LawKit.callS X3 hx (y := (⟨"com/example/entitlement/entitlement/service/AclCode", "holds", "([JI)Z"⟩ : MethodName)) hown (mvT hZ (own_g hw 22 rfl)) (mvT hZ (own_g hw 23 rfl)) (mvT hZ (own_g hw 7 rfl)) (mvT hZ (own_g hw 24 rfl)) (by decide) (backOf (W := 0) (rm4 l Z a0 hw [] b (((gg (fo + (1 : Int32)).toNatClampNeg).toUInt32 >>> ((1 : Int32) &&& 31).toUInt32).toInt32) kb wa wb h0 n0 Z0 VB (hb1 c8_5).2) hZ (own_g hw 24 rfl) (own_g hw 7 rfl) (by decide) (by decide)) (g := (mkF m 22 #[.val (.ref a), .val (.int fo), .val (.int ct), .val (.ref b), .val (.int (fo + (1 : Int32))), .val (.int (gg (fo + (1 : Int32)).toNatClampNeg))] [(.int (((gg (fo + (1 : Int32)).toNatClampNeg).toUInt32 >>> ((1 : Int32) &&& 31).toUInt32).toInt32)), (.ref b)])) rfl (by rw [hml]; rfl) (argsL := [(.ref b), (.int (((gg (fo + (1 : Int32)).toNatClampNeg).toUInt32 >>> ((1 : Int32) &&& 31).toUInt32).toInt32))]) (rest := []) (lenOf pd__28_5bJI_29Z rfl) rfl (by show 2 * 0 + _ ≤ _; exact Nat.le_of_eq rfl) (hb hby d5_22) (fun _ _ => ⟨rfl, eq3, (by decide : 0 + 0 ≤ _), (by decide : 0 + 0 ≤ _)⟩)
        dsimp only [Pt.U, Pt.locs, Pt.cells, Pt.slots] at X7 l7 y7 z7 st7 hQ7
        subst l7 y7 z7
        obtain ⟨rfl, Nq7, eq7⟩ := hQ7
        have N7 := Fr.app N3 Nq7
        refine own_step st7 ?_
        show own_Ends p e below F (T7.setTop (mkF m 25 #[.val (.ref a), .val (.int fo), .val (.int ct), .val (.ref b), .val (.int (fo + (1 : Int32))), .val (.int (gg (fo + (1 : Int32)).toNatClampNeg))] [(.int (own_has wa wb (((gg (fo + (1 : Int32)).toNatClampNeg).toUInt32 >>> ((1 : Int32) &&& 31).toUInt32).toInt32)))]))
        by_cases c25_8 : (own_has wa wb (((gg (fo + (1 : Int32)).toNatClampNeg).toUInt32 >>> ((1 : Int32) &&& 31).toUInt32).toInt32)) = (0 : Int32)
        · refine own_step (fun _ k => XS.ifYes X7.here hx rfl (pc0 := 25) (pc' := 45) rfl (hb hby d5_25) rfl ((if0 _ _).trans (teq c25_8).1) (by decide) (by decide) k) ?_
          show own_Ends p e below F (T7.setTop (mkF m 45 #[.val (.ref a), .val (.int fo), .val (.int ct), .val (.ref b), .val (.int (fo + (1 : Int32))), .val (.int (gg (fo + (1 : Int32)).toNatClampNeg))] []))
          refine own_step (fun _ k => XS.iinc X7.here hx rfl (hb hby d5_45) rfl (l' := #[.val (.ref a), .val (.int fo), .val (.int ct), .val (.ref b), .val (.int ((fo + (1 : Int32)) + (1 : Int32))), .val (.int (gg (fo + (1 : Int32)).toNatClampNeg))]) rfl k) ?_
          show own_Ends p e below F (T7.setTop (mkF m 48 #[.val (.ref a), .val (.int fo), .val (.int ct), .val (.ref b), .val (.int ((fo + (1 : Int32)) + (1 : Int32))), .val (.int (gg (fo + (1 : Int32)).toNatClampNeg))] []))
          refine own_step (fun _ k => XS.goto X7.here hx rfl (pc0 := 48) (pc' := 3) rfl (hb hby d5_48) (by decide) (by decide) k) ?_
          show own_Ends p e below F (T7.setTop (mkF m 3 #[.val (.ref a), .val (.int fo), .val (.int ct), .val (.ref b), .val (.int ((fo + (1 : Int32)) + (1 : Int32))), .val (.int (gg (fo + (1 : Int32)).toNatClampNeg))] []))
          refine own_step (fun _ k => XS.iload X7.here hx rfl (hb hby d5_3) rfl k) ?_
          show own_Ends p e below F (T7.setTop (mkF m 5 #[.val (.ref a), .val (.int fo), .val (.int ct), .val (.ref b), .val (.int ((fo + (1 : Int32)) + (1 : Int32))), .val (.int (gg (fo + (1 : Int32)).toNatClampNeg))] [(.int ((fo + (1 : Int32)) + (1 : Int32)))]))
          refine own_step (fun _ k => XS.iloadN X7.here hx rfl (hb hby d5_5) rfl k) ?_
          show own_Ends p e below F (T7.setTop (mkF m 6 #[.val (.ref a), .val (.int fo), .val (.int ct), .val (.ref b), .val (.int ((fo + (1 : Int32)) + (1 : Int32))), .val (.int (gg (fo + (1 : Int32)).toNatClampNeg))] [(.int fo), (.int ((fo + (1 : Int32)) + (1 : Int32)))]))
          refine own_step (fun _ k => XS.iloadN X7.here hx rfl (hb hby d5_6) rfl k) ?_
          show own_Ends p e below F (T7.setTop (mkF m 7 #[.val (.ref a), .val (.int fo), .val (.int ct), .val (.ref b), .val (.int ((fo + (1 : Int32)) + (1 : Int32))), .val (.int (gg (fo + (1 : Int32)).toNatClampNeg))] [(.int ct), (.int fo), (.int ((fo + (1 : Int32)) + (1 : Int32)))]))
          refine own_step (fun _ k => XS.iadd X7.here hx rfl (hb hby d5_7) rfl k) ?_
          show own_Ends p e below F (T7.setTop (mkF m 8 #[.val (.ref a), .val (.int fo), .val (.int ct), .val (.ref b), .val (.int ((fo + (1 : Int32)) + (1 : Int32))), .val (.int (gg (fo + (1 : Int32)).toNatClampNeg))] [(.int (fo + ct)), (.int ((fo + (1 : Int32)) + (1 : Int32)))]))
          by_cases c8_9 : ((fo + (1 : Int32)) + (1 : Int32)) < (fo + ct)
          · refine own_step (fun _ k => XS.icmpNo X7.here hx rfl (hb hby d5_8) rfl (tlt c8_9).2.1 k) ?_
            show own_Ends p e below F (T7.setTop (mkF m 11 #[.val (.ref a), .val (.int fo), .val (.int ct), .val (.ref b), .val (.int ((fo + (1 : Int32)) + (1 : Int32))), .val (.int (gg (fo + (1 : Int32)).toNatClampNeg))] []))
            refine own_step (fun _ k => XS.aloadN X7.here hx rfl (hb hby d5_11) rfl rfl k) ?_
            show own_Ends p e below F (T7.setTop (mkF m 12 #[.val (.ref a), .val (.int fo), .val (.int ct), .val (.ref b), .val (.int ((fo + (1 : Int32)) + (1 : Int32))), .val (.int (gg (fo + (1 : Int32)).toNatClampNeg))] [(.ref a)]))
            refine own_step (fun _ k => XS.iload X7.here hx rfl (hb hby d5_12) rfl k) ?_
            show own_Ends p e below F (T7.setTop (mkF m 14 #[.val (.ref a), .val (.int fo), .val (.int ct), .val (.ref b), .val (.int ((fo + (1 : Int32)) + (1 : Int32))), .val (.int (gg (fo + (1 : Int32)).toNatClampNeg))] [(.int ((fo + (1 : Int32)) + (1 : Int32))), (.ref a)]))
            obtain ⟨cl10, Ar10, S10, G10⟩ := id GA
            have hin10 := own_inb (c := cl10) (j := ((fo + (1 : Int32)) + (1 : Int32))) S10 (hb2 c8_9).1
            refine own_step (X7.iaload hx (j := ((fo + (1 : Int32)) + (1 : Int32))) (v := (.int (gg ((fo + (1 : Int32)) + (1 : Int32)).toNatClampNeg))) (by rw [eq7]; exact Ar10.1) (State.isArrayOf_alike hZ.alike Ar10.2.1) Ar10.2.2 hin10 (own_gat S10 G10 hin10) (g := (mkF m 14 #[.val (.ref a), .val (.int fo), .val (.int ct), .val (.ref b), .val (.int ((fo + (1 : Int32)) + (1 : Int32))), .val (.int (gg (fo + (1 : Int32)).toNatClampNeg))] [(.int ((fo + (1 : Int32)) + (1 : Int32))), (.ref a)])) rfl rfl (hb hby d5_14)) ?_
            show own_Ends p e below F (T7.setTop (mkF m 15 #[.val (.ref a), .val (.int fo), .val (.int ct), .val (.ref b), .val (.int ((fo + (1 : Int32)) + (1 : Int32))), .val (.int (gg (fo + (1 : Int32)).toNatClampNeg))] [(.int (gg ((fo + (1 : Int32)) + (1 : Int32)).toNatClampNeg))]))
            refine own_step (fun _ k => XS.istore X7.here hx rfl (hb hby d5_15) rfl (l' := #[.val (.ref a), .val (.int fo), .val (.int ct), .val (.ref b), .val (.int ((fo + (1 : Int32)) + (1 : Int32))), .val (.int (gg ((fo + (1 : Int32)) + (1 : Int32)).toNatClampNeg))]) rfl k) ?_
            show own_Ends p e below F (T7.setTop (mkF m 17 #[.val (.ref a), .val (.int fo), .val (.int ct), .val (.ref b), .val (.int ((fo + (1 : Int32)) + (1 : Int32))), .val (.int (gg ((fo + (1 : Int32)) + (1 : Int32)).toNatClampNeg))] []))
            refine own_step (fun _ k => XS.aloadN X7.here hx rfl (hb hby d5_17) rfl rfl k) ?_
            show own_Ends p e below F (T7.setTop (mkF m 18 #[.val (.ref a), .val (.int fo), .val (.int ct), .val (.ref b), .val (.int ((fo + (1 : Int32)) + (1 : Int32))), .val (.int (gg ((fo + (1 : Int32)) + (1 : Int32)).toNatClampNeg))] [(.ref b)]))
            refine own_step (fun _ k => XS.iload X7.here hx rfl (hb hby d5_18) rfl k) ?_
            show own_Ends p e below F (T7.setTop (mkF m 20 #[.val (.ref a), .val (.int fo), .val (.int ct), .val (.ref b), .val (.int ((fo + (1 : Int32)) + (1 : Int32))), .val (.int (gg ((fo + (1 : Int32)) + (1 : Int32)).toNatClampNeg))] [(.int (gg ((fo + (1 : Int32)) + (1 : Int32)).toNatClampNeg)), (.ref b)]))
            refine own_step (fun _ k => XS.iconst X7.here hx rfl (hb hby d5_20) k) ?_
            show own_Ends p e below F (T7.setTop (mkF m 21 #[.val (.ref a), .val (.int fo), .val (.int ct), .val (.ref b), .val (.int ((fo + (1 : Int32)) + (1 : Int32))), .val (.int (gg ((fo + (1 : Int32)) + (1 : Int32)).toNatClampNeg))] [(.int (1 : Int32)), (.int (gg ((fo + (1 : Int32)) + (1 : Int32)).toNatClampNeg)), (.ref b)]))
            refine own_step (fun _ k => XS.iushr X7.here hx rfl (hb hby d5_21) rfl k) ?_
            show own_Ends p e below F (T7.setTop (mkF m 22 #[.val (.ref a), .val (.int fo), .val (.int ct), .val (.ref b), .val (.int ((fo + (1 : Int32)) + (1 : Int32))), .val (.int (gg ((fo + (1 : Int32)) + (1 : Int32)).toNatClampNeg))] [(.int (((gg ((fo + (1 : Int32)) + (1 : Int32)).toNatClampNeg).toUInt32 >>> ((1 : Int32) &&& 31).toUInt32).toInt32)), (.ref b)]))
            obtain ⟨_, _, ⟨T11, L11, k11, n11⟩, -, X11, ⟨Lc11, hQ11, l11, y11, z11⟩, st11⟩ := Jvm.LawKit.callS X7 hx (y := (⟨"com/example/entitlement/entitlement/service/AclCode", "holds", "([JI)Z"⟩ : MethodName)) hown (mvT hZ (own_g hw 22 rfl)) (mvT hZ (own_g hw 23 rfl)) (mvT hZ (own_g hw 7 rfl)) (mvT hZ (own_g hw 24 rfl)) (by decide) (backOf (W := 0) (rm4 l Z a0 hw [] b (((gg ((fo + (1 : Int32)) + (1 : Int32)).toNatClampNeg).toUInt32 >>> ((1 : Int32) &&& 31).toUInt32).toInt32) kb wa wb h0 n0 Z0 VB (hb2 c8_9).2) hZ (own_g hw 24 rfl) (own_g hw 7 rfl) (by decide) (by decide)) (g := (mkF m 22 #[.val (.ref a), .val (.int fo), .val (.int ct), .val (.ref b), .val (.int ((fo + (1 : Int32)) + (1 : Int32))), .val (.int (gg ((fo + (1 : Int32)) + (1 : Int32)).toNatClampNeg))] [(.int (((gg ((fo + (1 : Int32)) + (1 : Int32)).toNatClampNeg).toUInt32 >>> ((1 : Int32) &&& 31).toUInt32).toInt32)), (.ref b)])) rfl (by rw [hml]; rfl) (argsL := [(.ref b), (.int (((gg ((fo + (1 : Int32)) + (1 : Int32)).toNatClampNeg).toUInt32 >>> ((1 : Int32) &&& 31).toUInt32).toInt32))]) (rest := []) (lenOf pd__28_5bJI_29Z rfl) rfl (by show 2 * 0 + _ ≤ _; exact Nat.le_of_eq rfl) (hb hby d5_22) (fun _ _ => ⟨rfl, eq7, (by decide : 0 + 0 ≤ _), (by decide : 0 + 0 ≤ _)⟩)
            dsimp only [Pt.U, Pt.locs, Pt.cells, Pt.slots] at X11 l11 y11 z11 st11 hQ11
            subst l11 y11 z11
            obtain ⟨rfl, Nq11, eq11⟩ := hQ11
            have N11 := Fr.app N7 Nq11
            refine own_step st11 ?_
            show own_Ends p e below F (T11.setTop (mkF m 25 #[.val (.ref a), .val (.int fo), .val (.int ct), .val (.ref b), .val (.int ((fo + (1 : Int32)) + (1 : Int32))), .val (.int (gg ((fo + (1 : Int32)) + (1 : Int32)).toNatClampNeg))] [(.int (own_has wa wb (((gg ((fo + (1 : Int32)) + (1 : Int32)).toNatClampNeg).toUInt32 >>> ((1 : Int32) &&& 31).toUInt32).toInt32)))]))
            by_cases c25_12 : (own_has wa wb (((gg ((fo + (1 : Int32)) + (1 : Int32)).toNatClampNeg).toUInt32 >>> ((1 : Int32) &&& 31).toUInt32).toInt32)) = (0 : Int32)
            · refine own_step (fun _ k => XS.ifYes X11.here hx rfl (pc0 := 25) (pc' := 45) rfl (hb hby d5_25) rfl ((if0 _ _).trans (teq c25_12).1) (by decide) (by decide) k) ?_
              show own_Ends p e below F (T11.setTop (mkF m 45 #[.val (.ref a), .val (.int fo), .val (.int ct), .val (.ref b), .val (.int ((fo + (1 : Int32)) + (1 : Int32))), .val (.int (gg ((fo + (1 : Int32)) + (1 : Int32)).toNatClampNeg))] []))
              refine own_step (fun _ k => XS.iinc X11.here hx rfl (hb hby d5_45) rfl (l' := #[.val (.ref a), .val (.int fo), .val (.int ct), .val (.ref b), .val (.int (((fo + (1 : Int32)) + (1 : Int32)) + (1 : Int32))), .val (.int (gg ((fo + (1 : Int32)) + (1 : Int32)).toNatClampNeg))]) rfl k) ?_
              show own_Ends p e below F (T11.setTop (mkF m 48 #[.val (.ref a), .val (.int fo), .val (.int ct), .val (.ref b), .val (.int (((fo + (1 : Int32)) + (1 : Int32)) + (1 : Int32))), .val (.int (gg ((fo + (1 : Int32)) + (1 : Int32)).toNatClampNeg))] []))
              refine own_step (fun _ k => XS.goto X11.here hx rfl (pc0 := 48) (pc' := 3) rfl (hb hby d5_48) (by decide) (by decide) k) ?_
              show own_Ends p e below F (T11.setTop (mkF m 3 #[.val (.ref a), .val (.int fo), .val (.int ct), .val (.ref b), .val (.int (((fo + (1 : Int32)) + (1 : Int32)) + (1 : Int32))), .val (.int (gg ((fo + (1 : Int32)) + (1 : Int32)).toNatClampNeg))] []))
              refine own_step (fun _ k => XS.iload X11.here hx rfl (hb hby d5_3) rfl k) ?_
              show own_Ends p e below F (T11.setTop (mkF m 5 #[.val (.ref a), .val (.int fo), .val (.int ct), .val (.ref b), .val (.int (((fo + (1 : Int32)) + (1 : Int32)) + (1 : Int32))), .val (.int (gg ((fo + (1 : Int32)) + (1 : Int32)).toNatClampNeg))] [(.int (((fo + (1 : Int32)) + (1 : Int32)) + (1 : Int32)))]))
              refine own_step (fun _ k => XS.iloadN X11.here hx rfl (hb hby d5_5) rfl k) ?_
              show own_Ends p e below F (T11.setTop (mkF m 6 #[.val (.ref a), .val (.int fo), .val (.int ct), .val (.ref b), .val (.int (((fo + (1 : Int32)) + (1 : Int32)) + (1 : Int32))), .val (.int (gg ((fo + (1 : Int32)) + (1 : Int32)).toNatClampNeg))] [(.int fo), (.int (((fo + (1 : Int32)) + (1 : Int32)) + (1 : Int32)))]))
              refine own_step (fun _ k => XS.iloadN X11.here hx rfl (hb hby d5_6) rfl k) ?_
              show own_Ends p e below F (T11.setTop (mkF m 7 #[.val (.ref a), .val (.int fo), .val (.int ct), .val (.ref b), .val (.int (((fo + (1 : Int32)) + (1 : Int32)) + (1 : Int32))), .val (.int (gg ((fo + (1 : Int32)) + (1 : Int32)).toNatClampNeg))] [(.int ct), (.int fo), (.int (((fo + (1 : Int32)) + (1 : Int32)) + (1 : Int32)))]))
              refine own_step (fun _ k => XS.iadd X11.here hx rfl (hb hby d5_7) rfl k) ?_
              show own_Ends p e below F (T11.setTop (mkF m 8 #[.val (.ref a), .val (.int fo), .val (.int ct), .val (.ref b), .val (.int (((fo + (1 : Int32)) + (1 : Int32)) + (1 : Int32))), .val (.int (gg ((fo + (1 : Int32)) + (1 : Int32)).toNatClampNeg))] [(.int (fo + ct)), (.int (((fo + (1 : Int32)) + (1 : Int32)) + (1 : Int32)))]))
              refine own_step (fun _ k => XS.icmpYes X11.here hx rfl (pc0 := 8) (pc' := 51) rfl (hb hby d5_8) rfl (flt (hb3 : ¬ ((((fo + (1 : Int32)) + (1 : Int32)) + (1 : Int32)) < (fo + ct)))).2.1 (by decide) (by decide) k) ?_
              show own_Ends p e below F (T11.setTop (mkF m 51 #[.val (.ref a), .val (.int fo), .val (.int ct), .val (.ref b), .val (.int (((fo + (1 : Int32)) + (1 : Int32)) + (1 : Int32))), .val (.int (gg ((fo + (1 : Int32)) + (1 : Int32)).toNatClampNeg))] []))
              obtain ⟨T13, X13, e13, st13⟩ := getS2 X11 hx hZ hown (host := "") (Or.inl (own_g hw 9 rfl)) Via.refl eq11 Sno (g := (mkF m 51 #[.val (.ref a), .val (.int fo), .val (.int ct), .val (.ref b), .val (.int (((fo + (1 : Int32)) + (1 : Int32)) + (1 : Int32))), .val (.int (gg ((fo + (1 : Int32)) + (1 : Int32)).toNatClampNeg))] [])) rfl (hb hby d5_51)
              refine own_step st13 ?_
              show own_Ends p e below F (T13.setTop (mkF m 54 #[.val (.ref a), .val (.int fo), .val (.int ct), .val (.ref b), .val (.int (((fo + (1 : Int32)) + (1 : Int32)) + (1 : Int32))), .val (.int (gg ((fo + (1 : Int32)) + (1 : Int32)).toNatClampNeg))] [(.ref no)]))
              rw [hF]
              exact own_ret X13 (v := (some (.ref no))) (fun h => by rw [Bd.returns] at h; cases h) Bd.notSynchronized (fun fs hr => retOut X13 hx (t := (.object "com/example/entitlement/entitlement/service/Outcome")) (w := (.ref no)) (i := .areturn) Bd.returns rfl (Or.inr (Or.inr (Or.inr (Or.inr ⟨rfl, rfl, rfl⟩)))) (hb hby d5_54) hr) (by decide) (by decide) (by rw [e13]; exact ⟨by simp only [own_fm, own_act, c8_1, c25_4, c8_5, c25_8, c8_9, c25_12, if_true, if_false], N11, rfl⟩)
            · refine own_step (fun _ k => XS.ifNo X11.here hx rfl (hb hby d5_25) rfl ((if0 _ _).trans (feq c25_12).1) k) ?_
              show own_Ends p e below F (T11.setTop (mkF m 28 #[.val (.ref a), .val (.int fo), .val (.int ct), .val (.ref b), .val (.int ((fo + (1 : Int32)) + (1 : Int32))), .val (.int (gg ((fo + (1 : Int32)) + (1 : Int32)).toNatClampNeg))] []))
              refine own_step (fun _ k => XS.iload X11.here hx rfl (hb hby d5_28) rfl k) ?_
              show own_Ends p e below F (T11.setTop (mkF m 30 #[.val (.ref a), .val (.int fo), .val (.int ct), .val (.ref b), .val (.int ((fo + (1 : Int32)) + (1 : Int32))), .val (.int (gg ((fo + (1 : Int32)) + (1 : Int32)).toNatClampNeg))] [(.int (gg ((fo + (1 : Int32)) + (1 : Int32)).toNatClampNeg))]))
              refine own_step (fun _ k => XS.iconst X11.here hx rfl (hb hby d5_30) k) ?_
              show own_Ends p e below F (T11.setTop (mkF m 31 #[.val (.ref a), .val (.int fo), .val (.int ct), .val (.ref b), .val (.int ((fo + (1 : Int32)) + (1 : Int32))), .val (.int (gg ((fo + (1 : Int32)) + (1 : Int32)).toNatClampNeg))] [(.int (1 : Int32)), (.int (gg ((fo + (1 : Int32)) + (1 : Int32)).toNatClampNeg))]))
              refine own_step (fun _ k => XS.iand X11.here hx rfl (hb hby d5_31) rfl k) ?_
              show own_Ends p e below F (T11.setTop (mkF m 32 #[.val (.ref a), .val (.int fo), .val (.int ct), .val (.ref b), .val (.int ((fo + (1 : Int32)) + (1 : Int32))), .val (.int (gg ((fo + (1 : Int32)) + (1 : Int32)).toNatClampNeg))] [(.int ((gg ((fo + (1 : Int32)) + (1 : Int32)).toNatClampNeg) &&& (1 : Int32)))]))
              by_cases c32_14 : ((gg ((fo + (1 : Int32)) + (1 : Int32)).toNatClampNeg) &&& (1 : Int32)) = (0 : Int32)
              · refine own_step (fun _ k => XS.ifYes X11.here hx rfl (pc0 := 32) (pc' := 41) rfl (hb hby d5_32) rfl ((if0 _ _).trans (teq c32_14).1) (by decide) (by decide) k) ?_
                show own_Ends p e below F (T11.setTop (mkF m 41 #[.val (.ref a), .val (.int fo), .val (.int ct), .val (.ref b), .val (.int ((fo + (1 : Int32)) + (1 : Int32))), .val (.int (gg ((fo + (1 : Int32)) + (1 : Int32)).toNatClampNeg))] []))
                obtain ⟨T15, X15, e15, st15⟩ := getS2 X11 hx hZ hown (host := "") (Or.inl (own_g hw 25 rfl)) Via.refl eq11 Sde (g := (mkF m 41 #[.val (.ref a), .val (.int fo), .val (.int ct), .val (.ref b), .val (.int ((fo + (1 : Int32)) + (1 : Int32))), .val (.int (gg ((fo + (1 : Int32)) + (1 : Int32)).toNatClampNeg))] [])) rfl (hb hby d5_41)
                refine own_step st15 ?_
                show own_Ends p e below F (T15.setTop (mkF m 44 #[.val (.ref a), .val (.int fo), .val (.int ct), .val (.ref b), .val (.int ((fo + (1 : Int32)) + (1 : Int32))), .val (.int (gg ((fo + (1 : Int32)) + (1 : Int32)).toNatClampNeg))] [(.ref de)]))
                rw [hF]
                exact own_ret X15 (v := (some (.ref de))) (fun h => by rw [Bd.returns] at h; cases h) Bd.notSynchronized (fun fs hr => retOut X15 hx (t := (.object "com/example/entitlement/entitlement/service/Outcome")) (w := (.ref de)) (i := .areturn) Bd.returns rfl (Or.inr (Or.inr (Or.inr (Or.inr ⟨rfl, rfl, rfl⟩)))) (hb hby d5_44) hr) (by decide) (by decide) (by rw [e15]; exact ⟨by simp only [own_fm, own_act, c8_1, c25_4, c8_5, c25_8, c8_9, c25_12, c32_14, if_true, if_false], N11, rfl⟩)
              · refine own_step (fun _ k => XS.ifNo X11.here hx rfl (hb hby d5_32) rfl ((if0 _ _).trans (feq c32_14).1) k) ?_
                show own_Ends p e below F (T11.setTop (mkF m 35 #[.val (.ref a), .val (.int fo), .val (.int ct), .val (.ref b), .val (.int ((fo + (1 : Int32)) + (1 : Int32))), .val (.int (gg ((fo + (1 : Int32)) + (1 : Int32)).toNatClampNeg))] []))
                obtain ⟨T16, X16, e16, st16⟩ := getS2 X11 hx hZ hown (host := "") (Or.inl (own_g hw 12 rfl)) Via.refl eq11 Spe (g := (mkF m 35 #[.val (.ref a), .val (.int fo), .val (.int ct), .val (.ref b), .val (.int ((fo + (1 : Int32)) + (1 : Int32))), .val (.int (gg ((fo + (1 : Int32)) + (1 : Int32)).toNatClampNeg))] [])) rfl (hb hby d5_35)
                refine own_step st16 ?_
                show own_Ends p e below F (T16.setTop (mkF m 38 #[.val (.ref a), .val (.int fo), .val (.int ct), .val (.ref b), .val (.int ((fo + (1 : Int32)) + (1 : Int32))), .val (.int (gg ((fo + (1 : Int32)) + (1 : Int32)).toNatClampNeg))] [(.ref pe)]))
                refine own_step (fun _ k => XS.goto X16.here hx rfl (pc0 := 38) (pc' := 44) rfl (hb hby d5_38) (by decide) (by decide) k) ?_
                show own_Ends p e below F (T16.setTop (mkF m 44 #[.val (.ref a), .val (.int fo), .val (.int ct), .val (.ref b), .val (.int ((fo + (1 : Int32)) + (1 : Int32))), .val (.int (gg ((fo + (1 : Int32)) + (1 : Int32)).toNatClampNeg))] [(.ref pe)]))
                rw [hF]
                exact own_ret X16 (v := (some (.ref pe))) (fun h => by rw [Bd.returns] at h; cases h) Bd.notSynchronized (fun fs hr => retOut X16 hx (t := (.object "com/example/entitlement/entitlement/service/Outcome")) (w := (.ref pe)) (i := .areturn) Bd.returns rfl (Or.inr (Or.inr (Or.inr (Or.inr ⟨rfl, rfl, rfl⟩)))) (hb hby d5_44) hr) (by decide) (by decide) (by rw [e16]; exact ⟨by simp only [own_fm, own_act, c8_1, c25_4, c8_5, c25_8, c8_9, c25_12, c32_14, if_true, if_false], N11, rfl⟩)
          · refine own_step (fun _ k => XS.icmpYes X7.here hx rfl (pc0 := 8) (pc' := 51) rfl (hb hby d5_8) rfl (flt c8_9).2.1 (by decide) (by decide) k) ?_
            show own_Ends p e below F (T7.setTop (mkF m 51 #[.val (.ref a), .val (.int fo), .val (.int ct), .val (.ref b), .val (.int ((fo + (1 : Int32)) + (1 : Int32))), .val (.int (gg (fo + (1 : Int32)).toNatClampNeg))] []))
            obtain ⟨T17, X17, e17, st17⟩ := getS2 X7 hx hZ hown (host := "") (Or.inl (own_g hw 9 rfl)) Via.refl eq7 Sno (g := (mkF m 51 #[.val (.ref a), .val (.int fo), .val (.int ct), .val (.ref b), .val (.int ((fo + (1 : Int32)) + (1 : Int32))), .val (.int (gg (fo + (1 : Int32)).toNatClampNeg))] [])) rfl (hb hby d5_51)
            refine own_step st17 ?_
            show own_Ends p e below F (T17.setTop (mkF m 54 #[.val (.ref a), .val (.int fo), .val (.int ct), .val (.ref b), .val (.int ((fo + (1 : Int32)) + (1 : Int32))), .val (.int (gg (fo + (1 : Int32)).toNatClampNeg))] [(.ref no)]))
            rw [hF]
            exact own_ret X17 (v := (some (.ref no))) (fun h => by rw [Bd.returns] at h; cases h) Bd.notSynchronized (fun fs hr => retOut X17 hx (t := (.object "com/example/entitlement/entitlement/service/Outcome")) (w := (.ref no)) (i := .areturn) Bd.returns rfl (Or.inr (Or.inr (Or.inr (Or.inr ⟨rfl, rfl, rfl⟩)))) (hb hby d5_54) hr) (by decide) (by decide) (by rw [e17]; exact ⟨by simp only [own_fm, own_act, c8_1, c25_4, c8_5, c25_8, c8_9, if_true, if_false], N7, rfl⟩)
        · refine own_step (fun _ k => XS.ifNo X7.here hx rfl (hb hby d5_25) rfl ((if0 _ _).trans (feq c25_8).1) k) ?_
          show own_Ends p e below F (T7.setTop (mkF m 28 #[.val (.ref a), .val (.int fo), .val (.int ct), .val (.ref b), .val (.int (fo + (1 : Int32))), .val (.int (gg (fo + (1 : Int32)).toNatClampNeg))] []))
          refine own_step (fun _ k => XS.iload X7.here hx rfl (hb hby d5_28) rfl k) ?_
          show own_Ends p e below F (T7.setTop (mkF m 30 #[.val (.ref a), .val (.int fo), .val (.int ct), .val (.ref b), .val (.int (fo + (1 : Int32))), .val (.int (gg (fo + (1 : Int32)).toNatClampNeg))] [(.int (gg (fo + (1 : Int32)).toNatClampNeg))]))
          refine own_step (fun _ k => XS.iconst X7.here hx rfl (hb hby d5_30) k) ?_
          show own_Ends p e below F (T7.setTop (mkF m 31 #[.val (.ref a), .val (.int fo), .val (.int ct), .val (.ref b), .val (.int (fo + (1 : Int32))), .val (.int (gg (fo + (1 : Int32)).toNatClampNeg))] [(.int (1 : Int32)), (.int (gg (fo + (1 : Int32)).toNatClampNeg))]))
          refine own_step (fun _ k => XS.iand X7.here hx rfl (hb hby d5_31) rfl k) ?_
          show own_Ends p e below F (T7.setTop (mkF m 32 #[.val (.ref a), .val (.int fo), .val (.int ct), .val (.ref b), .val (.int (fo + (1 : Int32))), .val (.int (gg (fo + (1 : Int32)).toNatClampNeg))] [(.int ((gg (fo + (1 : Int32)).toNatClampNeg) &&& (1 : Int32)))]))
          by_cases c32_18 : ((gg (fo + (1 : Int32)).toNatClampNeg) &&& (1 : Int32)) = (0 : Int32)
          · refine own_step (fun _ k => XS.ifYes X7.here hx rfl (pc0 := 32) (pc' := 41) rfl (hb hby d5_32) rfl ((if0 _ _).trans (teq c32_18).1) (by decide) (by decide) k) ?_
            show own_Ends p e below F (T7.setTop (mkF m 41 #[.val (.ref a), .val (.int fo), .val (.int ct), .val (.ref b), .val (.int (fo + (1 : Int32))), .val (.int (gg (fo + (1 : Int32)).toNatClampNeg))] []))
            obtain ⟨T19, X19, e19, st19⟩ := getS2 X7 hx hZ hown (host := "") (Or.inl (own_g hw 25 rfl)) Via.refl eq7 Sde (g := (mkF m 41 #[.val (.ref a), .val (.int fo), .val (.int ct), .val (.ref b), .val (.int (fo + (1 : Int32))), .val (.int (gg (fo + (1 : Int32)).toNatClampNeg))] [])) rfl (hb hby d5_41)
            refine own_step st19 ?_
            show own_Ends p e below F (T19.setTop (mkF m 44 #[.val (.ref a), .val (.int fo), .val (.int ct), .val (.ref b), .val (.int (fo + (1 : Int32))), .val (.int (gg (fo + (1 : Int32)).toNatClampNeg))] [(.ref de)]))
            rw [hF]
            exact own_ret X19 (v := (some (.ref de))) (fun h => by rw [Bd.returns] at h; cases h) Bd.notSynchronized (fun fs hr => retOut X19 hx (t := (.object "com/example/entitlement/entitlement/service/Outcome")) (w := (.ref de)) (i := .areturn) Bd.returns rfl (Or.inr (Or.inr (Or.inr (Or.inr ⟨rfl, rfl, rfl⟩)))) (hb hby d5_44) hr) (by decide) (by decide) (by rw [e19]; exact ⟨by simp only [own_fm, own_act, c8_1, c25_4, c8_5, c25_8, c32_18, if_true, if_false], N7, rfl⟩)
          · refine own_step (fun _ k => XS.ifNo X7.here hx rfl (hb hby d5_32) rfl ((if0 _ _).trans (feq c32_18).1) k) ?_
            show own_Ends p e below F (T7.setTop (mkF m 35 #[.val (.ref a), .val (.int fo), .val (.int ct), .val (.ref b), .val (.int (fo + (1 : Int32))), .val (.int (gg (fo + (1 : Int32)).toNatClampNeg))] []))
            obtain ⟨T20, X20, e20, st20⟩ := getS2 X7 hx hZ hown (host := "") (Or.inl (own_g hw 12 rfl)) Via.refl eq7 Spe (g := (mkF m 35 #[.val (.ref a), .val (.int fo), .val (.int ct), .val (.ref b), .val (.int (fo + (1 : Int32))), .val (.int (gg (fo + (1 : Int32)).toNatClampNeg))] [])) rfl (hb hby d5_35)
            refine own_step st20 ?_
            show own_Ends p e below F (T20.setTop (mkF m 38 #[.val (.ref a), .val (.int fo), .val (.int ct), .val (.ref b), .val (.int (fo + (1 : Int32))), .val (.int (gg (fo + (1 : Int32)).toNatClampNeg))] [(.ref pe)]))
            refine own_step (fun _ k => XS.goto X20.here hx rfl (pc0 := 38) (pc' := 44) rfl (hb hby d5_38) (by decide) (by decide) k) ?_
            show own_Ends p e below F (T20.setTop (mkF m 44 #[.val (.ref a), .val (.int fo), .val (.int ct), .val (.ref b), .val (.int (fo + (1 : Int32))), .val (.int (gg (fo + (1 : Int32)).toNatClampNeg))] [(.ref pe)]))
            rw [hF]
            exact own_ret X20 (v := (some (.ref pe))) (fun h => by rw [Bd.returns] at h; cases h) Bd.notSynchronized (fun fs hr => retOut X20 hx (t := (.object "com/example/entitlement/entitlement/service/Outcome")) (w := (.ref pe)) (i := .areturn) Bd.returns rfl (Or.inr (Or.inr (Or.inr (Or.inr ⟨rfl, rfl, rfl⟩)))) (hb hby d5_44) hr) (by decide) (by decide) (by rw [e20]; exact ⟨by simp only [own_fm, own_act, c8_1, c25_4, c8_5, c25_8, c32_18, if_true, if_false], N7, rfl⟩)
      · refine own_step (fun _ k => XS.icmpYes X3.here hx rfl (pc0 := 8) (pc' := 51) rfl (hb hby d5_8) rfl (flt c8_5).2.1 (by decide) (by decide) k) ?_
        show own_Ends p e below F (T3.setTop (mkF m 51 #[.val (.ref a), .val (.int fo), .val (.int ct), .val (.ref b), .val (.int (fo + (1 : Int32))), .val (.int (gg fo.toNatClampNeg))] []))
        obtain ⟨T21, X21, e21, st21⟩ := getS2 X3 hx hZ hown (host := "") (Or.inl (own_g hw 9 rfl)) Via.refl eq3 Sno (g := (mkF m 51 #[.val (.ref a), .val (.int fo), .val (.int ct), .val (.ref b), .val (.int (fo + (1 : Int32))), .val (.int (gg fo.toNatClampNeg))] [])) rfl (hb hby d5_51)
        refine own_step st21 ?_
        show own_Ends p e below F (T21.setTop (mkF m 54 #[.val (.ref a), .val (.int fo), .val (.int ct), .val (.ref b), .val (.int (fo + (1 : Int32))), .val (.int (gg fo.toNatClampNeg))] [(.ref no)]))
        rw [hF]
        exact own_ret X21 (v := (some (.ref no))) (fun h => by rw [Bd.returns] at h; cases h) Bd.notSynchronized (fun fs hr => retOut X21 hx (t := (.object "com/example/entitlement/entitlement/service/Outcome")) (w := (.ref no)) (i := .areturn) Bd.returns rfl (Or.inr (Or.inr (Or.inr (Or.inr ⟨rfl, rfl, rfl⟩)))) (hb hby d5_54) hr) (by decide) (by decide) (by rw [e21]; exact ⟨by simp only [own_fm, own_act, c8_1, c25_4, c8_5, if_true, if_false], N3, rfl⟩)
    · refine own_step (fun _ k => XS.ifNo X3.here hx rfl (hb hby d5_25) rfl ((if0 _ _).trans (feq c25_4).1) k) ?_
      show own_Ends p e below F (T3.setTop (mkF m 28 #[.val (.ref a), .val (.int fo), .val (.int ct), .val (.ref b), .val (.int fo), .val (.int (gg fo.toNatClampNeg))] []))
      refine own_step (fun _ k => XS.iload X3.here hx rfl (hb hby d5_28) rfl k) ?_
      show own_Ends p e below F (T3.setTop (mkF m 30 #[.val (.ref a), .val (.int fo), .val (.int ct), .val (.ref b), .val (.int fo), .val (.int (gg fo.toNatClampNeg))] [(.int (gg fo.toNatClampNeg))]))
      refine own_step (fun _ k => XS.iconst X3.here hx rfl (hb hby d5_30) k) ?_
      show own_Ends p e below F (T3.setTop (mkF m 31 #[.val (.ref a), .val (.int fo), .val (.int ct), .val (.ref b), .val (.int fo), .val (.int (gg fo.toNatClampNeg))] [(.int (1 : Int32)), (.int (gg fo.toNatClampNeg))]))
      refine own_step (fun _ k => XS.iand X3.here hx rfl (hb hby d5_31) rfl k) ?_
      show own_Ends p e below F (T3.setTop (mkF m 32 #[.val (.ref a), .val (.int fo), .val (.int ct), .val (.ref b), .val (.int fo), .val (.int (gg fo.toNatClampNeg))] [(.int ((gg fo.toNatClampNeg) &&& (1 : Int32)))]))
      by_cases c32_22 : ((gg fo.toNatClampNeg) &&& (1 : Int32)) = (0 : Int32)
      · refine own_step (fun _ k => XS.ifYes X3.here hx rfl (pc0 := 32) (pc' := 41) rfl (hb hby d5_32) rfl ((if0 _ _).trans (teq c32_22).1) (by decide) (by decide) k) ?_
        show own_Ends p e below F (T3.setTop (mkF m 41 #[.val (.ref a), .val (.int fo), .val (.int ct), .val (.ref b), .val (.int fo), .val (.int (gg fo.toNatClampNeg))] []))
        obtain ⟨T23, X23, e23, st23⟩ := getS2 X3 hx hZ hown (host := "") (Or.inl (own_g hw 25 rfl)) Via.refl eq3 Sde (g := (mkF m 41 #[.val (.ref a), .val (.int fo), .val (.int ct), .val (.ref b), .val (.int fo), .val (.int (gg fo.toNatClampNeg))] [])) rfl (hb hby d5_41)
        refine own_step st23 ?_
        show own_Ends p e below F (T23.setTop (mkF m 44 #[.val (.ref a), .val (.int fo), .val (.int ct), .val (.ref b), .val (.int fo), .val (.int (gg fo.toNatClampNeg))] [(.ref de)]))
        rw [hF]
        exact own_ret X23 (v := (some (.ref de))) (fun h => by rw [Bd.returns] at h; cases h) Bd.notSynchronized (fun fs hr => retOut X23 hx (t := (.object "com/example/entitlement/entitlement/service/Outcome")) (w := (.ref de)) (i := .areturn) Bd.returns rfl (Or.inr (Or.inr (Or.inr (Or.inr ⟨rfl, rfl, rfl⟩)))) (hb hby d5_44) hr) (by decide) (by decide) (by rw [e23]; exact ⟨by simp only [own_fm, own_act, c8_1, c25_4, c32_22, if_true, if_false], N3, rfl⟩)
      · refine own_step (fun _ k => XS.ifNo X3.here hx rfl (hb hby d5_32) rfl ((if0 _ _).trans (feq c32_22).1) k) ?_
        show own_Ends p e below F (T3.setTop (mkF m 35 #[.val (.ref a), .val (.int fo), .val (.int ct), .val (.ref b), .val (.int fo), .val (.int (gg fo.toNatClampNeg))] []))
        obtain ⟨T24, X24, e24, st24⟩ := getS2 X3 hx hZ hown (host := "") (Or.inl (own_g hw 12 rfl)) Via.refl eq3 Spe (g := (mkF m 35 #[.val (.ref a), .val (.int fo), .val (.int ct), .val (.ref b), .val (.int fo), .val (.int (gg fo.toNatClampNeg))] [])) rfl (hb hby d5_35)
        refine own_step st24 ?_
        show own_Ends p e below F (T24.setTop (mkF m 38 #[.val (.ref a), .val (.int fo), .val (.int ct), .val (.ref b), .val (.int fo), .val (.int (gg fo.toNatClampNeg))] [(.ref pe)]))
        refine own_step (fun _ k => XS.goto X24.here hx rfl (pc0 := 38) (pc' := 44) rfl (hb hby d5_38) (by decide) (by decide) k) ?_
        show own_Ends p e below F (T24.setTop (mkF m 44 #[.val (.ref a), .val (.int fo), .val (.int ct), .val (.ref b), .val (.int fo), .val (.int (gg fo.toNatClampNeg))] [(.ref pe)]))
        rw [hF]
        exact own_ret X24 (v := (some (.ref pe))) (fun h => by rw [Bd.returns] at h; cases h) Bd.notSynchronized (fun fs hr => retOut X24 hx (t := (.object "com/example/entitlement/entitlement/service/Outcome")) (w := (.ref pe)) (i := .areturn) Bd.returns rfl (Or.inr (Or.inr (Or.inr (Or.inr ⟨rfl, rfl, rfl⟩)))) (hb hby d5_44) hr) (by decide) (by decide) (by rw [e24]; exact ⟨by simp only [own_fm, own_act, c8_1, c25_4, c32_22, if_true, if_false], N3, rfl⟩)
  · refine own_step (fun _ k => XS.icmpYes X0.here hx rfl (pc0 := 8) (pc' := 51) rfl (hb hby d5_8) rfl (flt c8_1).2.1 (by decide) (by decide) k) ?_
    show own_Ends p e below F (s₁.setTop (mkF m 51 #[.val (.ref a), .val (.int fo), .val (.int ct), .val (.ref b), .val (.int fo), .unset] []))
    obtain ⟨T25, X25, e25, st25⟩ := getS2 X0 hx hZ hown (host := "") (Or.inl (own_g hw 9 rfl)) Via.refl e0 Sno (g := (mkF m 51 #[.val (.ref a), .val (.int fo), .val (.int ct), .val (.ref b), .val (.int fo), .unset] [])) rfl (hb hby d5_51)
    refine own_step st25 ?_
    show own_Ends p e below F (T25.setTop (mkF m 54 #[.val (.ref a), .val (.int fo), .val (.int ct), .val (.ref b), .val (.int fo), .unset] [(.ref no)]))
    rw [hF]
    exact own_ret X25 (v := (some (.ref no))) (fun h => by rw [Bd.returns] at h; cases h) Bd.notSynchronized (fun fs hr => retOut X25 hx (t := (.object "com/example/entitlement/entitlement/service/Outcome")) (w := (.ref no)) (i := .areturn) Bd.returns rfl (Or.inr (Or.inr (Or.inr (Or.inr ⟨rfl, rfl, rfl⟩)))) (hb hby d5_54) hr) (by decide) (by decide) (by rw [e25]; exact ⟨by simp only [own_fm, own_act, c8_1, if_true, if_false], N0, rfl⟩)

def own_P8 (gg : Nat → Int32) (t : Int32) : Prop := ((((t + (2 : Int32)) + (1 : Int32)) < ((t + (2 : Int32)) + (1 : Int32)) + (gg (t + (2 : Int32)).toNatClampNeg) → own_I ((t + (2 : Int32)) + (1 : Int32)) ∧ own_R (gg ((t + (2 : Int32)) + (1 : Int32)).toNatClampNeg)) ∧ ((((t + (2 : Int32)) + (1 : Int32)) + (1 : Int32)) < ((t + (2 : Int32)) + (1 : Int32)) + (gg (t + (2 : Int32)).toNatClampNeg) → own_I (((t + (2 : Int32)) + (1 : Int32)) + (1 : Int32)) ∧ own_R (gg (((t + (2 : Int32)) + (1 : Int32)) + (1 : Int32)).toNatClampNeg)) ∧ ¬ ((((t + (2 : Int32)) + (1 : Int32)) + (1 : Int32)) + (1 : Int32)) < ((t + (2 : Int32)) + (1 : Int32)) + (gg (t + (2 : Int32)).toNatClampNeg)) ∧ own_I (((t + (2 : Int32)) + (1 : Int32)) + (gg (t + (2 : Int32)).toNatClampNeg)) ∧ ((((((t + (2 : Int32)) + (1 : Int32)) + (gg (t + (2 : Int32)).toNatClampNeg)) + (1 : Int32)) < ((((t + (2 : Int32)) + (1 : Int32)) + (gg (t + (2 : Int32)).toNatClampNeg)) + (1 : Int32)) + (gg (((t + (2 : Int32)) + (1 : Int32)) + (gg (t + (2 : Int32)).toNatClampNeg)).toNatClampNeg) → own_I ((((t + (2 : Int32)) + (1 : Int32)) + (gg (t + (2 : Int32)).toNatClampNeg)) + (1 : Int32)) ∧ own_R (gg ((((t + (2 : Int32)) + (1 : Int32)) + (gg (t + (2 : Int32)).toNatClampNeg)) + (1 : Int32)).toNatClampNeg)) ∧ ((((((t + (2 : Int32)) + (1 : Int32)) + (gg (t + (2 : Int32)).toNatClampNeg)) + (1 : Int32)) + (1 : Int32)) < ((((t + (2 : Int32)) + (1 : Int32)) + (gg (t + (2 : Int32)).toNatClampNeg)) + (1 : Int32)) + (gg (((t + (2 : Int32)) + (1 : Int32)) + (gg (t + (2 : Int32)).toNatClampNeg)).toNatClampNeg) → own_I (((((t + (2 : Int32)) + (1 : Int32)) + (gg (t + (2 : Int32)).toNatClampNeg)) + (1 : Int32)) + (1 : Int32)) ∧ own_R (gg (((((t + (2 : Int32)) + (1 : Int32)) + (gg (t + (2 : Int32)).toNatClampNeg)) + (1 : Int32)) + (1 : Int32)).toNatClampNeg)) ∧ ¬ ((((((t + (2 : Int32)) + (1 : Int32)) + (gg (t + (2 : Int32)).toNatClampNeg)) + (1 : Int32)) + (1 : Int32)) + (1 : Int32)) < ((((t + (2 : Int32)) + (1 : Int32)) + (gg (t + (2 : Int32)).toNatClampNeg)) + (1 : Int32)) + (gg (((t + (2 : Int32)) + (1 : Int32)) + (gg (t + (2 : Int32)).toNatClampNeg)).toNatClampNeg))
def own_P16 (gg : Nat → Int32) (t : Int32) : Prop := (((t + (2 : Int32)) + (1 : Int32)) < ((t + (2 : Int32)) + (1 : Int32)) + (gg (t + (2 : Int32)).toNatClampNeg) → own_I ((t + (2 : Int32)) + (1 : Int32)) ∧ own_R (own_u1 (gg ((t + (2 : Int32)) + (1 : Int32)).toNatClampNeg))) ∧ ((((t + (2 : Int32)) + (1 : Int32)) + (1 : Int32)) < ((t + (2 : Int32)) + (1 : Int32)) + (gg (t + (2 : Int32)).toNatClampNeg) → own_I (((t + (2 : Int32)) + (1 : Int32)) + (1 : Int32)) ∧ own_R (own_u1 (gg (((t + (2 : Int32)) + (1 : Int32)) + (1 : Int32)).toNatClampNeg))) ∧ (((((t + (2 : Int32)) + (1 : Int32)) + (1 : Int32)) + (1 : Int32)) < ((t + (2 : Int32)) + (1 : Int32)) + (gg (t + (2 : Int32)).toNatClampNeg) → own_I ((((t + (2 : Int32)) + (1 : Int32)) + (1 : Int32)) + (1 : Int32)) ∧ own_R (own_u1 (gg ((((t + (2 : Int32)) + (1 : Int32)) + (1 : Int32)) + (1 : Int32)).toNatClampNeg))) ∧ ¬ (((((t + (2 : Int32)) + (1 : Int32)) + (1 : Int32)) + (1 : Int32)) + (1 : Int32)) < ((t + (2 : Int32)) + (1 : Int32)) + (gg (t + (2 : Int32)).toNatClampNeg)
def own_own (gg : Nat → Int32) (t : Int32) (wa wb : Int64) (pe de no : Addr) : Addr := if (gg t.toNatClampNeg) &&& (1 : Int32) = 0 then (if (gg t.toNatClampNeg) &&& (8 : Int32) = 0 then (if (gg t.toNatClampNeg) &&& (16 : Int32) = 0 then no else own_fm gg ((t + (2 : Int32)) + (1 : Int32)) (gg (t + (2 : Int32)).toNatClampNeg) wa wb pe de no) else (if own_any gg ((t + (2 : Int32)) + (1 : Int32)) (gg (t + (2 : Int32)).toNatClampNeg) wa wb = 0 then (if own_any gg ((((t + (2 : Int32)) + (1 : Int32)) + (gg (t + (2 : Int32)).toNatClampNeg)) + (1 : Int32)) (gg (((t + (2 : Int32)) + (1 : Int32)) + (gg (t + (2 : Int32)).toNatClampNeg)).toNatClampNeg) wa wb = 0 then no else pe) else de)) else pe
theorem d1_0 : decode prog_41_method_7_code 0 = .ok (.aload_n 0, 1) := by decide +kernel
theorem d1_1 : decode prog_41_method_7_code 1 = .ok (.iload_n 1, 1) := by decide +kernel
theorem d1_2 : decode prog_41_method_7_code 2 = .ok (.iaload, 1) := by decide +kernel
theorem d1_3 : decode prog_41_method_7_code 3 = .ok (.istore_n 3, 1) := by decide +kernel
theorem d1_4 : decode prog_41_method_7_code 4 = .ok (.iload_n 1, 1) := by decide +kernel
theorem d1_5 : decode prog_41_method_7_code 5 = .ok (.iconst 2, 1) := by decide +kernel
theorem d1_6 : decode prog_41_method_7_code 6 = .ok (.iadd, 1) := by decide +kernel
theorem d1_7 : decode prog_41_method_7_code 7 = .ok (.istore 4, 2) := by decide +kernel
theorem d1_9 : decode prog_41_method_7_code 9 = .ok (.iload_n 3, 1) := by decide +kernel
theorem d1_10 : decode prog_41_method_7_code 10 = .ok (.iconst 1, 1) := by decide +kernel
theorem d1_11 : decode prog_41_method_7_code 11 = .ok (.iand, 1) := by decide +kernel
theorem d1_12 : decode prog_41_method_7_code 12 = .ok (.ifCond .eq 11, 3) := by decide +kernel
theorem d1_15 : decode prog_41_method_7_code 15 = .ok (.getstatic 88, 3) := by decide +kernel
theorem d1_18 : decode prog_41_method_7_code 18 = .ok (.astore 5, 2) := by decide +kernel
theorem d1_20 : decode prog_41_method_7_code 20 = .ok (.goto 107, 3) := by decide +kernel
theorem d1_23 : decode prog_41_method_7_code 23 = .ok (.iload_n 3, 1) := by decide +kernel
theorem d1_24 : decode prog_41_method_7_code 24 = .ok (.bipush 8, 2) := by decide +kernel
theorem d1_26 : decode prog_41_method_7_code 26 = .ok (.iand, 1) := by decide +kernel
theorem d1_27 : decode prog_41_method_7_code 27 = .ok (.ifCond .eq 70, 3) := by decide +kernel
theorem d1_30 : decode prog_41_method_7_code 30 = .ok (.iload 4, 2) := by decide +kernel
theorem d1_32 : decode prog_41_method_7_code 32 = .ok (.iconst 1, 1) := by decide +kernel
theorem d1_33 : decode prog_41_method_7_code 33 = .ok (.iadd, 1) := by decide +kernel
theorem d1_34 : decode prog_41_method_7_code 34 = .ok (.aload_n 0, 1) := by decide +kernel
theorem d1_35 : decode prog_41_method_7_code 35 = .ok (.iload 4, 2) := by decide +kernel
theorem d1_37 : decode prog_41_method_7_code 37 = .ok (.iaload, 1) := by decide +kernel
theorem d1_38 : decode prog_41_method_7_code 38 = .ok (.iadd, 1) := by decide +kernel
theorem d1_39 : decode prog_41_method_7_code 39 = .ok (.istore 6, 2) := by decide +kernel
theorem d1_41 : decode prog_41_method_7_code 41 = .ok (.aload_n 0, 1) := by decide +kernel
theorem d1_42 : decode prog_41_method_7_code 42 = .ok (.iload 4, 2) := by decide +kernel
theorem d1_44 : decode prog_41_method_7_code 44 = .ok (.iconst 1, 1) := by decide +kernel
theorem d1_45 : decode prog_41_method_7_code 45 = .ok (.iadd, 1) := by decide +kernel
theorem d1_46 : decode prog_41_method_7_code 46 = .ok (.aload_n 0, 1) := by decide +kernel
theorem d1_47 : decode prog_41_method_7_code 47 = .ok (.iload 4, 2) := by decide +kernel
theorem d1_49 : decode prog_41_method_7_code 49 = .ok (.iaload, 1) := by decide +kernel
theorem d1_50 : decode prog_41_method_7_code 50 = .ok (.aload_n 2, 1) := by decide +kernel
theorem d1_51 : decode prog_41_method_7_code 51 = .ok (.invokestatic 94, 3) := by decide +kernel
theorem d1_54 : decode prog_41_method_7_code 54 = .ok (.ifCond .eq 11, 3) := by decide +kernel
theorem d1_57 : decode prog_41_method_7_code 57 = .ok (.getstatic 98, 3) := by decide +kernel
theorem d1_60 : decode prog_41_method_7_code 60 = .ok (.astore 5, 2) := by decide +kernel
theorem d1_62 : decode prog_41_method_7_code 62 = .ok (.goto 32, 3) := by decide +kernel
theorem d1_65 : decode prog_41_method_7_code 65 = .ok (.aload_n 0, 1) := by decide +kernel
theorem d1_66 : decode prog_41_method_7_code 66 = .ok (.iload 6, 2) := by decide +kernel
theorem d1_68 : decode prog_41_method_7_code 68 = .ok (.iconst 1, 1) := by decide +kernel
theorem d1_69 : decode prog_41_method_7_code 69 = .ok (.iadd, 1) := by decide +kernel
theorem d1_70 : decode prog_41_method_7_code 70 = .ok (.aload_n 0, 1) := by decide +kernel
theorem d1_71 : decode prog_41_method_7_code 71 = .ok (.iload 6, 2) := by decide +kernel
theorem d1_73 : decode prog_41_method_7_code 73 = .ok (.iaload, 1) := by decide +kernel
theorem d1_74 : decode prog_41_method_7_code 74 = .ok (.aload_n 2, 1) := by decide +kernel
theorem d1_75 : decode prog_41_method_7_code 75 = .ok (.invokestatic 94, 3) := by decide +kernel
theorem d1_78 : decode prog_41_method_7_code 78 = .ok (.ifCond .eq 11, 3) := by decide +kernel
theorem d1_81 : decode prog_41_method_7_code 81 = .ok (.getstatic 88, 3) := by decide +kernel
theorem d1_84 : decode prog_41_method_7_code 84 = .ok (.astore 5, 2) := by decide +kernel
theorem d1_86 : decode prog_41_method_7_code 86 = .ok (.goto 8, 3) := by decide +kernel
theorem d1_89 : decode prog_41_method_7_code 89 = .ok (.getstatic 101, 3) := by decide +kernel
theorem d1_92 : decode prog_41_method_7_code 92 = .ok (.astore 5, 2) := by decide +kernel
theorem d1_94 : decode prog_41_method_7_code 94 = .ok (.goto 33, 3) := by decide +kernel
theorem d1_97 : decode prog_41_method_7_code 97 = .ok (.iload_n 3, 1) := by decide +kernel
theorem d1_98 : decode prog_41_method_7_code 98 = .ok (.bipush 16, 2) := by decide +kernel
theorem d1_100 : decode prog_41_method_7_code 100 = .ok (.iand, 1) := by decide +kernel
theorem d1_101 : decode prog_41_method_7_code 101 = .ok (.ifCond .eq 21, 3) := by decide +kernel
theorem d1_104 : decode prog_41_method_7_code 104 = .ok (.aload_n 0, 1) := by decide +kernel
theorem d1_105 : decode prog_41_method_7_code 105 = .ok (.iload 4, 2) := by decide +kernel
theorem d1_107 : decode prog_41_method_7_code 107 = .ok (.iconst 1, 1) := by decide +kernel
theorem d1_108 : decode prog_41_method_7_code 108 = .ok (.iadd, 1) := by decide +kernel
theorem d1_109 : decode prog_41_method_7_code 109 = .ok (.aload_n 0, 1) := by decide +kernel
theorem d1_110 : decode prog_41_method_7_code 110 = .ok (.iload 4, 2) := by decide +kernel
theorem d1_112 : decode prog_41_method_7_code 112 = .ok (.iaload, 1) := by decide +kernel
theorem d1_113 : decode prog_41_method_7_code 113 = .ok (.aload_n 2, 1) := by decide +kernel
theorem d1_114 : decode prog_41_method_7_code 114 = .ok (.invokestatic 104, 3) := by decide +kernel
theorem d1_117 : decode prog_41_method_7_code 117 = .ok (.astore 5, 2) := by decide +kernel
theorem d1_119 : decode prog_41_method_7_code 119 = .ok (.goto 8, 3) := by decide +kernel
theorem d1_122 : decode prog_41_method_7_code 122 = .ok (.getstatic 101, 3) := by decide +kernel
theorem d1_125 : decode prog_41_method_7_code 125 = .ok (.astore 5, 2) := by decide +kernel
theorem d1_127 : decode prog_41_method_7_code 127 = .ok (.aload 5, 2) := by decide +kernel
theorem d1_129 : decode prog_41_method_7_code 129 = .ok (.areturn, 1) := by decide +kernel
theorem pd__28_5bIII_5bJ_29Lcom_2fexample_2fentitlement_2fentitlement_2fservice_2fOutcome_3b : parseMethodDescriptor "([III[J)Lcom/example/entitlement/entitlement/service/Outcome;" = some ⟨[(.array .int), .int, .int, (.array .long)], some (.object "com/example/entitlement/entitlement/service/Outcome")⟩ := by decide +kernel
theorem pd__28_5bIII_5bJ_29Z : parseMethodDescriptor "([III[J)Z" = some ⟨[(.array .int), .int, .int, (.array .long)], some .boolean⟩ := by decide +kernel
theorem ef_rm1 (m : MethodId) (x0 : Addr) (x1 : Int32) (x2 : Addr) : entryFrame m #[(.ref x0), (.int x1), (.ref x2)] 7 = mkF m 0 #[.val (.ref x0), .val (.int x1), .val (.ref x2), .unset, .unset, .unset, .unset] [] := by first | (simp [entryFrame, mkF, argsToLocals, Value.category, maxLocals]; done) | rfl
def Q1 (Z : State) (a b : Addr) (t : Int32) (gg : Nat → Int32) (kb : ClassId) (wa wb : Int64) (pe de no : Addr) (h0 : Heap) (n0 : Nat) (v : Option Value) (h : Heap) (L : List Loc) : Prop := v = some (.ref (own_own gg t wa wb pe de no)) ∧ Fr n0 L ∧ h = h0
set_option maxRecDepth 65536 in
set_option maxHeartbeats 40000000 in
theorem rm1 (l : Launch) (Z : State) (a0 : Array Value) (hw : ∀ d ∈ tables_1, d.before a0 Z = true) (ws : List Jvm.Cond) (a b : Addr) (t : Int32) (gg : Nat → Int32) (kb : ClassId) (wa wb : Int64) (pe de no : Addr) (h0 : Heap) (n0 : Nat) (Z0 : n0 ≤ h0.size) (GA : own_Ai Z h0 a 10 gg) (VB : Arv Z h0 b kb .long (2 : Int32) [(.long wa), (.long wb)] (.long (0 : Int64))) (it : own_I t) (it2 : own_I (t + (2 : Int32))) (P8 : ¬ (gg t.toNatClampNeg) &&& (8 : Int32) = 0 → own_P8 gg t) (P16 : (gg t.toNatClampNeg) &&& (8 : Int32) = 0 → ¬ (gg t.toNatClampNeg) &&& (16 : Int32) = 0 → own_P16 gg t) (Spe : Sta Z h0 "com/example/entitlement/entitlement/service/Outcome" "PERMIT" "Lcom/example/entitlement/entitlement/service/Outcome;" (.ref pe)) (Sde : Sta Z h0 "com/example/entitlement/entitlement/service/Outcome" "DENY" "Lcom/example/entitlement/entitlement/service/Outcome;" (.ref de)) (Sno : Sta Z h0 "com/example/entitlement/entitlement/service/Outcome" "NO_MATCH" "Lcom/example/entitlement/entitlement/service/Outcome;" (.ref no)) :
    MetFree l (⟨"com/example/entitlement/entitlement/service/AclCode", "own", "([II[J)Lcom/example/entitlement/entitlement/service/Outcome;"⟩ : MethodName) (head1 (Jvm.Cond.code (⟨"com/example/entitlement/entitlement/service/AclCode", "own", "([II[J)Lcom/example/entitlement/entitlement/service/Outcome;"⟩ : MethodName) prog_41_method_7_code 7 (some (.object "com/example/entitlement/entitlement/service/Outcome")) :: ws) ({ frames := 2, cells := 0, slots := 0, locals := 30 } : Room)) (fun ar U => ar = #[(.ref a), (.int t), (.ref b)] ∧ Z.Warmed39 U.vm ∧ U.heap = h0) (fun _ _ _ _ _ => True) (fun _ U o U' => ∃ v L, o = .returned v ∧ Q1 Z a b t gg kb wa wb pe de no h0 n0 v U'.heap L ∧ FrameEnd U o U' L ({ frames := 2, cells := 0, slots := 0, locals := 30 } : Room).cells ({ frames := 2, cells := 0, slots := 0, locals := 30 } : Room).slots) := by
  refine MetFree.of_bodySF (plainFor_of_name pn_com_example_entitlement_entitlement_service_AclCode) hisR ?_
  intro p e s m args below meth c s₁ Bd hml0 hP hK
  obtain ⟨rfl, hZ, hh⟩ := hP
  have hx := Bd.exec
  have hby := Bd.bytes
  have hml : c.maxLocals = 7 := hml0
  have hown : s.vm.findClass "com/example/entitlement/entitlement/service/AclCode" = some m.cls := findClass_of_methodNamed Bd.named
  have hnm := (name_of_methodNamed Bd.named Bd.method).1
  have X0 : Stand p l e ({ frames := 2, cells := 0, slots := 0, locals := 30 } : Room) s m #[(.ref a), (.int t), (.ref b)] below meth c s₁ [] 0 0 := Stand.of_body Bd
  have e0 : s₁.heap = h0 := by rw [← hh, Bd.state]; rfl
  have N0 := Fr.nil n0
  obtain ⟨F, hF⟩ : ∃ F, F = own_Fin s (Q1 Z a b t gg kb wa wb pe de no h0 n0) ({ frames := 2, cells := 0, slots := 0, locals := 30 } : Room).cells ({ frames := 2, cells := 0, slots := 0, locals := 30 } : Room).slots := ⟨_, rfl⟩
  show own_Ends p e below (own_Fin s (Q1 Z a b t gg kb wa wb pe de no h0 n0) ({ frames := 2, cells := 0, slots := 0, locals := 30 } : Room).cells ({ frames := 2, cells := 0, slots := 0, locals := 30 } : Room).slots) _
  rw [← hF, ef_rm1 m a t b]
  show own_Ends p e below F (s₁.setTop (mkF m 0 #[.val (.ref a), .val (.int t), .val (.ref b), .unset, .unset, .unset, .unset] []))
  refine own_step (fun _ k => XS.aloadN X0.here hx rfl (hb hby d1_0) rfl rfl k) ?_
  show own_Ends p e below F (s₁.setTop (mkF m 1 #[.val (.ref a), .val (.int t), .val (.ref b), .unset, .unset, .unset, .unset] [(.ref a)]))
  refine own_step (fun _ k => XS.iloadN X0.here hx rfl (hb hby d1_1) rfl k) ?_
  show own_Ends p e below F (s₁.setTop (mkF m 2 #[.val (.ref a), .val (.int t), .val (.ref b), .unset, .unset, .unset, .unset] [(.int t), (.ref a)]))
  obtain ⟨cl1, Ar1, S1, G1⟩ := id GA
  have hin1 := own_inb (c := cl1) (j := t) S1 it
  refine own_step (X0.iaload hx (j := t) (v := (.int (gg t.toNatClampNeg))) (by rw [e0]; exact Ar1.1) (State.isArrayOf_alike hZ.alike Ar1.2.1) Ar1.2.2 hin1 (own_gat S1 G1 hin1) (g := (mkF m 2 #[.val (.ref a), .val (.int t), .val (.ref b), .unset, .unset, .unset, .unset] [(.int t), (.ref a)])) rfl rfl (hb hby d1_2)) ?_
  show own_Ends p e below F (s₁.setTop (mkF m 3 #[.val (.ref a), .val (.int t), .val (.ref b), .unset, .unset, .unset, .unset] [(.int (gg t.toNatClampNeg))]))
  refine own_step (fun _ k => XS.istoreN X0.here hx rfl (hb hby d1_3) rfl (l' := #[.val (.ref a), .val (.int t), .val (.ref b), .val (.int (gg t.toNatClampNeg)), .unset, .unset, .unset]) rfl k) ?_
  show own_Ends p e below F (s₁.setTop (mkF m 4 #[.val (.ref a), .val (.int t), .val (.ref b), .val (.int (gg t.toNatClampNeg)), .unset, .unset, .unset] []))
  refine own_step (fun _ k => XS.iloadN X0.here hx rfl (hb hby d1_4) rfl k) ?_
  show own_Ends p e below F (s₁.setTop (mkF m 5 #[.val (.ref a), .val (.int t), .val (.ref b), .val (.int (gg t.toNatClampNeg)), .unset, .unset, .unset] [(.int t)]))
  refine own_step (fun _ k => XS.iconst X0.here hx rfl (hb hby d1_5) k) ?_
  show own_Ends p e below F (s₁.setTop (mkF m 6 #[.val (.ref a), .val (.int t), .val (.ref b), .val (.int (gg t.toNatClampNeg)), .unset, .unset, .unset] [(.int (2 : Int32)), (.int t)]))
  refine own_step (fun _ k => XS.iadd X0.here hx rfl (hb hby d1_6) rfl k) ?_
  show own_Ends p e below F (s₁.setTop (mkF m 7 #[.val (.ref a), .val (.int t), .val (.ref b), .val (.int (gg t.toNatClampNeg)), .unset, .unset, .unset] [(.int (t + (2 : Int32)))]))
  refine own_step (fun _ k => XS.istore X0.here hx rfl (hb hby d1_7) rfl (l' := #[.val (.ref a), .val (.int t), .val (.ref b), .val (.int (gg t.toNatClampNeg)), .val (.int (t + (2 : Int32))), .unset, .unset]) rfl k) ?_
  show own_Ends p e below F (s₁.setTop (mkF m 9 #[.val (.ref a), .val (.int t), .val (.ref b), .val (.int (gg t.toNatClampNeg)), .val (.int (t + (2 : Int32))), .unset, .unset] []))
  refine own_step (fun _ k => XS.iloadN X0.here hx rfl (hb hby d1_9) rfl k) ?_
  show own_Ends p e below F (s₁.setTop (mkF m 10 #[.val (.ref a), .val (.int t), .val (.ref b), .val (.int (gg t.toNatClampNeg)), .val (.int (t + (2 : Int32))), .unset, .unset] [(.int (gg t.toNatClampNeg))]))
  refine own_step (fun _ k => XS.iconst X0.here hx rfl (hb hby d1_10) k) ?_
  show own_Ends p e below F (s₁.setTop (mkF m 11 #[.val (.ref a), .val (.int t), .val (.ref b), .val (.int (gg t.toNatClampNeg)), .val (.int (t + (2 : Int32))), .unset, .unset] [(.int (1 : Int32)), (.int (gg t.toNatClampNeg))]))
  refine own_step (fun _ k => XS.iand X0.here hx rfl (hb hby d1_11) rfl k) ?_
  show own_Ends p e below F (s₁.setTop (mkF m 12 #[.val (.ref a), .val (.int t), .val (.ref b), .val (.int (gg t.toNatClampNeg)), .val (.int (t + (2 : Int32))), .unset, .unset] [(.int ((gg t.toNatClampNeg) &&& (1 : Int32)))]))
  by_cases c12_2 : ((gg t.toNatClampNeg) &&& (1 : Int32)) = (0 : Int32)
  · refine own_step (fun _ k => XS.ifYes X0.here hx rfl (pc0 := 12) (pc' := 23) rfl (hb hby d1_12) rfl ((if0 _ _).trans (teq c12_2).1) (by decide) (by decide) k) ?_
    show own_Ends p e below F (s₁.setTop (mkF m 23 #[.val (.ref a), .val (.int t), .val (.ref b), .val (.int (gg t.toNatClampNeg)), .val (.int (t + (2 : Int32))), .unset, .unset] []))
    refine own_step (fun _ k => XS.iloadN X0.here hx rfl (hb hby d1_23) rfl k) ?_
    show own_Ends p e below F (s₁.setTop (mkF m 24 #[.val (.ref a), .val (.int t), .val (.ref b), .val (.int (gg t.toNatClampNeg)), .val (.int (t + (2 : Int32))), .unset, .unset] [(.int (gg t.toNatClampNeg))]))
    refine own_step (fun _ k => XS.bipush X0.here hx rfl (hb hby d1_24) k) ?_
    show own_Ends p e below F (s₁.setTop (mkF m 26 #[.val (.ref a), .val (.int t), .val (.ref b), .val (.int (gg t.toNatClampNeg)), .val (.int (t + (2 : Int32))), .unset, .unset] [(.int (8 : Int32)), (.int (gg t.toNatClampNeg))]))
    refine own_step (fun _ k => XS.iand X0.here hx rfl (hb hby d1_26) rfl k) ?_
    show own_Ends p e below F (s₁.setTop (mkF m 27 #[.val (.ref a), .val (.int t), .val (.ref b), .val (.int (gg t.toNatClampNeg)), .val (.int (t + (2 : Int32))), .unset, .unset] [(.int ((gg t.toNatClampNeg) &&& (8 : Int32)))]))
    by_cases c27_3 : ((gg t.toNatClampNeg) &&& (8 : Int32)) = (0 : Int32)
    · refine own_step (fun _ k => XS.ifYes X0.here hx rfl (pc0 := 27) (pc' := 97) rfl (hb hby d1_27) rfl ((if0 _ _).trans (teq c27_3).1) (by decide) (by decide) k) ?_
      show own_Ends p e below F (s₁.setTop (mkF m 97 #[.val (.ref a), .val (.int t), .val (.ref b), .val (.int (gg t.toNatClampNeg)), .val (.int (t + (2 : Int32))), .unset, .unset] []))
      refine own_step (fun _ k => XS.iloadN X0.here hx rfl (hb hby d1_97) rfl k) ?_
      show own_Ends p e below F (s₁.setTop (mkF m 98 #[.val (.ref a), .val (.int t), .val (.ref b), .val (.int (gg t.toNatClampNeg)), .val (.int (t + (2 : Int32))), .unset, .unset] [(.int (gg t.toNatClampNeg))]))
      refine own_step (fun _ k => XS.bipush X0.here hx rfl (hb hby d1_98) k) ?_
      show own_Ends p e below F (s₁.setTop (mkF m 100 #[.val (.ref a), .val (.int t), .val (.ref b), .val (.int (gg t.toNatClampNeg)), .val (.int (t + (2 : Int32))), .unset, .unset] [(.int (16 : Int32)), (.int (gg t.toNatClampNeg))]))
      refine own_step (fun _ k => XS.iand X0.here hx rfl (hb hby d1_100) rfl k) ?_
      show own_Ends p e below F (s₁.setTop (mkF m 101 #[.val (.ref a), .val (.int t), .val (.ref b), .val (.int (gg t.toNatClampNeg)), .val (.int (t + (2 : Int32))), .unset, .unset] [(.int ((gg t.toNatClampNeg) &&& (16 : Int32)))]))
      by_cases c101_4 : ((gg t.toNatClampNeg) &&& (16 : Int32)) = (0 : Int32)
      · refine own_step (fun _ k => XS.ifYes X0.here hx rfl (pc0 := 101) (pc' := 122) rfl (hb hby d1_101) rfl ((if0 _ _).trans (teq c101_4).1) (by decide) (by decide) k) ?_
        show own_Ends p e below F (s₁.setTop (mkF m 122 #[.val (.ref a), .val (.int t), .val (.ref b), .val (.int (gg t.toNatClampNeg)), .val (.int (t + (2 : Int32))), .unset, .unset] []))
        obtain ⟨T5, X5, e5, st5⟩ := getS2 X0 hx hZ hown (host := "") (Or.inl (own_g hw 9 rfl)) Via.refl e0 Sno (g := (mkF m 122 #[.val (.ref a), .val (.int t), .val (.ref b), .val (.int (gg t.toNatClampNeg)), .val (.int (t + (2 : Int32))), .unset, .unset] [])) rfl (hb hby d1_122)
        refine own_step st5 ?_
        show own_Ends p e below F (T5.setTop (mkF m 125 #[.val (.ref a), .val (.int t), .val (.ref b), .val (.int (gg t.toNatClampNeg)), .val (.int (t + (2 : Int32))), .unset, .unset] [(.ref no)]))
        refine own_step (fun _ k => XS.astore X5.here hx rfl (hb hby d1_125) rfl rfl (l' := #[.val (.ref a), .val (.int t), .val (.ref b), .val (.int (gg t.toNatClampNeg)), .val (.int (t + (2 : Int32))), .val (.ref no), .unset]) rfl k) ?_
        show own_Ends p e below F (T5.setTop (mkF m 127 #[.val (.ref a), .val (.int t), .val (.ref b), .val (.int (gg t.toNatClampNeg)), .val (.int (t + (2 : Int32))), .val (.ref no), .unset] []))
        refine own_step (fun _ k => XS.aload X5.here hx rfl (hb hby d1_127) rfl rfl k) ?_
        show own_Ends p e below F (T5.setTop (mkF m 129 #[.val (.ref a), .val (.int t), .val (.ref b), .val (.int (gg t.toNatClampNeg)), .val (.int (t + (2 : Int32))), .val (.ref no), .unset] [(.ref no)]))
        rw [hF]
        exact own_ret X5 (v := (some (.ref no))) (fun h => by rw [Bd.returns] at h; cases h) Bd.notSynchronized (fun fs hr => retOut X5 hx (t := (.object "com/example/entitlement/entitlement/service/Outcome")) (w := (.ref no)) (i := .areturn) Bd.returns rfl (Or.inr (Or.inr (Or.inr (Or.inr ⟨rfl, rfl, rfl⟩)))) (hb hby d1_129) hr) (by decide) (by decide) (by rw [e5]; exact ⟨by simp only [own_own, c12_2, c27_3, c101_4, if_true, if_false], N0, rfl⟩)
      · refine own_step (fun _ k => XS.ifNo X0.here hx rfl (hb hby d1_101) rfl ((if0 _ _).trans (feq c101_4).1) k) ?_
        show own_Ends p e below F (s₁.setTop (mkF m 104 #[.val (.ref a), .val (.int t), .val (.ref b), .val (.int (gg t.toNatClampNeg)), .val (.int (t + (2 : Int32))), .unset, .unset] []))
        obtain ⟨hf0, hf1, hf2, hf3⟩ := P16 c27_3 c101_4
        refine own_step (fun _ k => XS.aloadN X0.here hx rfl (hb hby d1_104) rfl rfl k) ?_
        show own_Ends p e below F (s₁.setTop (mkF m 105 #[.val (.ref a), .val (.int t), .val (.ref b), .val (.int (gg t.toNatClampNeg)), .val (.int (t + (2 : Int32))), .unset, .unset] [(.ref a)]))
        refine own_step (fun _ k => XS.iload X0.here hx rfl (hb hby d1_105) rfl k) ?_
        show own_Ends p e below F (s₁.setTop (mkF m 107 #[.val (.ref a), .val (.int t), .val (.ref b), .val (.int (gg t.toNatClampNeg)), .val (.int (t + (2 : Int32))), .unset, .unset] [(.int (t + (2 : Int32))), (.ref a)]))
        refine own_step (fun _ k => XS.iconst X0.here hx rfl (hb hby d1_107) k) ?_
        show own_Ends p e below F (s₁.setTop (mkF m 108 #[.val (.ref a), .val (.int t), .val (.ref b), .val (.int (gg t.toNatClampNeg)), .val (.int (t + (2 : Int32))), .unset, .unset] [(.int (1 : Int32)), (.int (t + (2 : Int32))), (.ref a)]))
        refine own_step (fun _ k => XS.iadd X0.here hx rfl (hb hby d1_108) rfl k) ?_
        show own_Ends p e below F (s₁.setTop (mkF m 109 #[.val (.ref a), .val (.int t), .val (.ref b), .val (.int (gg t.toNatClampNeg)), .val (.int (t + (2 : Int32))), .unset, .unset] [(.int ((t + (2 : Int32)) + (1 : Int32))), (.ref a)]))
        refine own_step (fun _ k => XS.aloadN X0.here hx rfl (hb hby d1_109) rfl rfl k) ?_
        show own_Ends p e below F (s₁.setTop (mkF m 110 #[.val (.ref a), .val (.int t), .val (.ref b), .val (.int (gg t.toNatClampNeg)), .val (.int (t + (2 : Int32))), .unset, .unset] [(.ref a), (.int ((t + (2 : Int32)) + (1 : Int32))), (.ref a)]))
        refine own_step (fun _ k => XS.iload X0.here hx rfl (hb hby d1_110) rfl k) ?_
        show own_Ends p e below F (s₁.setTop (mkF m 112 #[.val (.ref a), .val (.int t), .val (.ref b), .val (.int (gg t.toNatClampNeg)), .val (.int (t + (2 : Int32))), .unset, .unset] [(.int (t + (2 : Int32))), (.ref a), (.int ((t + (2 : Int32)) + (1 : Int32))), (.ref a)]))
        obtain ⟨cl6, Ar6, S6, G6⟩ := id GA
        have hin6 := own_inb (c := cl6) (j := (t + (2 : Int32))) S6 it2
        refine own_step (X0.iaload hx (j := (t + (2 : Int32))) (v := (.int (gg (t + (2 : Int32)).toNatClampNeg))) (by rw [e0]; exact Ar6.1) (State.isArrayOf_alike hZ.alike Ar6.2.1) Ar6.2.2 hin6 (own_gat S6 G6 hin6) (g := (mkF m 112 #[.val (.ref a), .val (.int t), .val (.ref b), .val (.int (gg t.toNatClampNeg)), .val (.int (t + (2 : Int32))), .unset, .unset] [(.int (t + (2 : Int32))), (.ref a), (.int ((t + (2 : Int32)) + (1 : Int32))), (.ref a)])) rfl rfl (hb hby d1_112)) ?_
        show own_Ends p e below F (s₁.setTop (mkF m 113 #[.val (.ref a), .val (.int t), .val (.ref b), .val (.int (gg t.toNatClampNeg)), .val (.int (t + (2 : Int32))), .unset, .unset] [(.int (gg (t + (2 : Int32)).toNatClampNeg)), (.int ((t + (2 : Int32)) + (1 : Int32))), (.ref a)]))
        refine own_step (fun _ k => XS.aloadN X0.here hx rfl (hb hby d1_113) rfl rfl k) ?_
        show own_Ends p e below F (s₁.setTop (mkF m 114 #[.val (.ref a), .val (.int t), .val (.ref b), .val (.int (gg t.toNatClampNeg)), .val (.int (t + (2 : Int32))), .unset, .unset] [(.ref b), (.int (gg (t + (2 : Int32)).toNatClampNeg)), (.int ((t + (2 : Int32)) + (1 : Int32))), (.ref a)]))
        obtain ⟨_, _, ⟨T7, L7, k7, n7⟩, -, X7, ⟨Lc7, hQ7, l7, y7, z7⟩, st7⟩ := Jvm.LawKit.callS X0 hx (y := (⟨"com/example/entitlement/entitlement/service/AclCode", "firstMatch", "([III[J)Lcom/example/entitlement/entitlement/service/Outcome;"⟩ : MethodName)) hown (mvT hZ (own_g hw 26 rfl)) (mvT hZ (own_g hw 27 rfl)) (mvT hZ (own_g hw 7 rfl)) (mvT hZ (own_g hw 28 rfl)) (by decide) (backOf (W := 0) (rm5 l Z a0 hw [] a b ((t + (2 : Int32)) + (1 : Int32)) (gg (t + (2 : Int32)).toNatClampNeg) gg kb wa wb pe de no h0 n0 Z0 GA VB hf0 hf1 hf2 hf3 Spe Sde Sno) hZ (own_g hw 28 rfl) (own_g hw 7 rfl) (by decide) (by decide)) (g := (mkF m 114 #[.val (.ref a), .val (.int t), .val (.ref b), .val (.int (gg t.toNatClampNeg)), .val (.int (t + (2 : Int32))), .unset, .unset] [(.ref b), (.int (gg (t + (2 : Int32)).toNatClampNeg)), (.int ((t + (2 : Int32)) + (1 : Int32))), (.ref a)])) rfl (by rw [hml]; rfl) (argsL := [(.ref a), (.int ((t + (2 : Int32)) + (1 : Int32))), (.int (gg (t + (2 : Int32)).toNatClampNeg)), (.ref b)]) (rest := []) (lenOf pd__28_5bIII_5bJ_29Lcom_2fexample_2fentitlement_2fentitlement_2fservice_2fOutcome_3b rfl) rfl (by show 2 * 0 + _ ≤ _; exact Nat.le_of_eq rfl) (hb hby d1_114) (fun _ _ => ⟨rfl, e0, (by decide : 0 + 0 ≤ _), (by decide : 0 + 0 ≤ _)⟩)
        dsimp only [Pt.U, Pt.locs, Pt.cells, Pt.slots] at X7 l7 y7 z7 st7 hQ7
        subst l7 y7 z7
        obtain ⟨rfl, Nq7, eq7⟩ := hQ7
        have N7 := Fr.app N0 Nq7
        refine own_step st7 ?_
        show own_Ends p e below F (T7.setTop (mkF m 117 #[.val (.ref a), .val (.int t), .val (.ref b), .val (.int (gg t.toNatClampNeg)), .val (.int (t + (2 : Int32))), .unset, .unset] [(.ref (own_fm gg ((t + (2 : Int32)) + (1 : Int32)) (gg (t + (2 : Int32)).toNatClampNeg) wa wb pe de no))]))
        refine own_step (fun _ k => XS.astore X7.here hx rfl (hb hby d1_117) rfl rfl (l' := #[.val (.ref a), .val (.int t), .val (.ref b), .val (.int (gg t.toNatClampNeg)), .val (.int (t + (2 : Int32))), .val (.ref (own_fm gg ((t + (2 : Int32)) + (1 : Int32)) (gg (t + (2 : Int32)).toNatClampNeg) wa wb pe de no)), .unset]) rfl k) ?_
        show own_Ends p e below F (T7.setTop (mkF m 119 #[.val (.ref a), .val (.int t), .val (.ref b), .val (.int (gg t.toNatClampNeg)), .val (.int (t + (2 : Int32))), .val (.ref (own_fm gg ((t + (2 : Int32)) + (1 : Int32)) (gg (t + (2 : Int32)).toNatClampNeg) wa wb pe de no)), .unset] []))
        refine own_step (fun _ k => XS.goto X7.here hx rfl (pc0 := 119) (pc' := 127) rfl (hb hby d1_119) (by decide) (by decide) k) ?_
        show own_Ends p e below F (T7.setTop (mkF m 127 #[.val (.ref a), .val (.int t), .val (.ref b), .val (.int (gg t.toNatClampNeg)), .val (.int (t + (2 : Int32))), .val (.ref (own_fm gg ((t + (2 : Int32)) + (1 : Int32)) (gg (t + (2 : Int32)).toNatClampNeg) wa wb pe de no)), .unset] []))
        refine own_step (fun _ k => XS.aload X7.here hx rfl (hb hby d1_127) rfl rfl k) ?_
        show own_Ends p e below F (T7.setTop (mkF m 129 #[.val (.ref a), .val (.int t), .val (.ref b), .val (.int (gg t.toNatClampNeg)), .val (.int (t + (2 : Int32))), .val (.ref (own_fm gg ((t + (2 : Int32)) + (1 : Int32)) (gg (t + (2 : Int32)).toNatClampNeg) wa wb pe de no)), .unset] [(.ref (own_fm gg ((t + (2 : Int32)) + (1 : Int32)) (gg (t + (2 : Int32)).toNatClampNeg) wa wb pe de no))]))
        rw [hF]
        exact own_ret X7 (v := (some (.ref (own_fm gg ((t + (2 : Int32)) + (1 : Int32)) (gg (t + (2 : Int32)).toNatClampNeg) wa wb pe de no)))) (fun h => by rw [Bd.returns] at h; cases h) Bd.notSynchronized (fun fs hr => retOut X7 hx (t := (.object "com/example/entitlement/entitlement/service/Outcome")) (w := (.ref (own_fm gg ((t + (2 : Int32)) + (1 : Int32)) (gg (t + (2 : Int32)).toNatClampNeg) wa wb pe de no))) (i := .areturn) Bd.returns rfl (Or.inr (Or.inr (Or.inr (Or.inr ⟨rfl, rfl, rfl⟩)))) (hb hby d1_129) hr) (by decide) (by decide) (by rw [eq7]; exact ⟨by simp only [own_own, c12_2, c27_3, c101_4, if_true, if_false], N7, rfl⟩)
    · refine own_step (fun _ k => XS.ifNo X0.here hx rfl (hb hby d1_27) rfl ((if0 _ _).trans (feq c27_3).1) k) ?_
      show own_Ends p e below F (s₁.setTop (mkF m 30 #[.val (.ref a), .val (.int t), .val (.ref b), .val (.int (gg t.toNatClampNeg)), .val (.int (t + (2 : Int32))), .unset, .unset] []))
      obtain ⟨⟨ha0, ha1, ha2⟩, hnx, hc0, hc1, hc2⟩ := P8 c27_3
      refine own_step (fun _ k => XS.iload X0.here hx rfl (hb hby d1_30) rfl k) ?_
      show own_Ends p e below F (s₁.setTop (mkF m 32 #[.val (.ref a), .val (.int t), .val (.ref b), .val (.int (gg t.toNatClampNeg)), .val (.int (t + (2 : Int32))), .unset, .unset] [(.int (t + (2 : Int32)))]))
      refine own_step (fun _ k => XS.iconst X0.here hx rfl (hb hby d1_32) k) ?_
      show own_Ends p e below F (s₁.setTop (mkF m 33 #[.val (.ref a), .val (.int t), .val (.ref b), .val (.int (gg t.toNatClampNeg)), .val (.int (t + (2 : Int32))), .unset, .unset] [(.int (1 : Int32)), (.int (t + (2 : Int32)))]))
      refine own_step (fun _ k => XS.iadd X0.here hx rfl (hb hby d1_33) rfl k) ?_
      show own_Ends p e below F (s₁.setTop (mkF m 34 #[.val (.ref a), .val (.int t), .val (.ref b), .val (.int (gg t.toNatClampNeg)), .val (.int (t + (2 : Int32))), .unset, .unset] [(.int ((t + (2 : Int32)) + (1 : Int32)))]))
      refine own_step (fun _ k => XS.aloadN X0.here hx rfl (hb hby d1_34) rfl rfl k) ?_
      show own_Ends p e below F (s₁.setTop (mkF m 35 #[.val (.ref a), .val (.int t), .val (.ref b), .val (.int (gg t.toNatClampNeg)), .val (.int (t + (2 : Int32))), .unset, .unset] [(.ref a), (.int ((t + (2 : Int32)) + (1 : Int32)))]))
      refine own_step (fun _ k => XS.iload X0.here hx rfl (hb hby d1_35) rfl k) ?_
      show own_Ends p e below F (s₁.setTop (mkF m 37 #[.val (.ref a), .val (.int t), .val (.ref b), .val (.int (gg t.toNatClampNeg)), .val (.int (t + (2 : Int32))), .unset, .unset] [(.int (t + (2 : Int32))), (.ref a), (.int ((t + (2 : Int32)) + (1 : Int32)))]))
      obtain ⟨cl8, Ar8, S8, G8⟩ := id GA
      have hin8 := own_inb (c := cl8) (j := (t + (2 : Int32))) S8 it2
      refine own_step (X0.iaload hx (j := (t + (2 : Int32))) (v := (.int (gg (t + (2 : Int32)).toNatClampNeg))) (by rw [e0]; exact Ar8.1) (State.isArrayOf_alike hZ.alike Ar8.2.1) Ar8.2.2 hin8 (own_gat S8 G8 hin8) (g := (mkF m 37 #[.val (.ref a), .val (.int t), .val (.ref b), .val (.int (gg t.toNatClampNeg)), .val (.int (t + (2 : Int32))), .unset, .unset] [(.int (t + (2 : Int32))), (.ref a), (.int ((t + (2 : Int32)) + (1 : Int32)))])) rfl rfl (hb hby d1_37)) ?_
      show own_Ends p e below F (s₁.setTop (mkF m 38 #[.val (.ref a), .val (.int t), .val (.ref b), .val (.int (gg t.toNatClampNeg)), .val (.int (t + (2 : Int32))), .unset, .unset] [(.int (gg (t + (2 : Int32)).toNatClampNeg)), (.int ((t + (2 : Int32)) + (1 : Int32)))]))
      refine own_step (fun _ k => XS.iadd X0.here hx rfl (hb hby d1_38) rfl k) ?_
      show own_Ends p e below F (s₁.setTop (mkF m 39 #[.val (.ref a), .val (.int t), .val (.ref b), .val (.int (gg t.toNatClampNeg)), .val (.int (t + (2 : Int32))), .unset, .unset] [(.int (((t + (2 : Int32)) + (1 : Int32)) + (gg (t + (2 : Int32)).toNatClampNeg)))]))
      refine own_step (fun _ k => XS.istore X0.here hx rfl (hb hby d1_39) rfl (l' := #[.val (.ref a), .val (.int t), .val (.ref b), .val (.int (gg t.toNatClampNeg)), .val (.int (t + (2 : Int32))), .unset, .val (.int (((t + (2 : Int32)) + (1 : Int32)) + (gg (t + (2 : Int32)).toNatClampNeg)))]) rfl k) ?_
      show own_Ends p e below F (s₁.setTop (mkF m 41 #[.val (.ref a), .val (.int t), .val (.ref b), .val (.int (gg t.toNatClampNeg)), .val (.int (t + (2 : Int32))), .unset, .val (.int (((t + (2 : Int32)) + (1 : Int32)) + (gg (t + (2 : Int32)).toNatClampNeg)))] []))
      refine own_step (fun _ k => XS.aloadN X0.here hx rfl (hb hby d1_41) rfl rfl k) ?_
      show own_Ends p e below F (s₁.setTop (mkF m 42 #[.val (.ref a), .val (.int t), .val (.ref b), .val (.int (gg t.toNatClampNeg)), .val (.int (t + (2 : Int32))), .unset, .val (.int (((t + (2 : Int32)) + (1 : Int32)) + (gg (t + (2 : Int32)).toNatClampNeg)))] [(.ref a)]))
      refine own_step (fun _ k => XS.iload X0.here hx rfl (hb hby d1_42) rfl k) ?_
      show own_Ends p e below F (s₁.setTop (mkF m 44 #[.val (.ref a), .val (.int t), .val (.ref b), .val (.int (gg t.toNatClampNeg)), .val (.int (t + (2 : Int32))), .unset, .val (.int (((t + (2 : Int32)) + (1 : Int32)) + (gg (t + (2 : Int32)).toNatClampNeg)))] [(.int (t + (2 : Int32))), (.ref a)]))
      refine own_step (fun _ k => XS.iconst X0.here hx rfl (hb hby d1_44) k) ?_
      show own_Ends p e below F (s₁.setTop (mkF m 45 #[.val (.ref a), .val (.int t), .val (.ref b), .val (.int (gg t.toNatClampNeg)), .val (.int (t + (2 : Int32))), .unset, .val (.int (((t + (2 : Int32)) + (1 : Int32)) + (gg (t + (2 : Int32)).toNatClampNeg)))] [(.int (1 : Int32)), (.int (t + (2 : Int32))), (.ref a)]))
      refine own_step (fun _ k => XS.iadd X0.here hx rfl (hb hby d1_45) rfl k) ?_
      show own_Ends p e below F (s₁.setTop (mkF m 46 #[.val (.ref a), .val (.int t), .val (.ref b), .val (.int (gg t.toNatClampNeg)), .val (.int (t + (2 : Int32))), .unset, .val (.int (((t + (2 : Int32)) + (1 : Int32)) + (gg (t + (2 : Int32)).toNatClampNeg)))] [(.int ((t + (2 : Int32)) + (1 : Int32))), (.ref a)]))
      refine own_step (fun _ k => XS.aloadN X0.here hx rfl (hb hby d1_46) rfl rfl k) ?_
      show own_Ends p e below F (s₁.setTop (mkF m 47 #[.val (.ref a), .val (.int t), .val (.ref b), .val (.int (gg t.toNatClampNeg)), .val (.int (t + (2 : Int32))), .unset, .val (.int (((t + (2 : Int32)) + (1 : Int32)) + (gg (t + (2 : Int32)).toNatClampNeg)))] [(.ref a), (.int ((t + (2 : Int32)) + (1 : Int32))), (.ref a)]))
      refine own_step (fun _ k => XS.iload X0.here hx rfl (hb hby d1_47) rfl k) ?_
      show own_Ends p e below F (s₁.setTop (mkF m 49 #[.val (.ref a), .val (.int t), .val (.ref b), .val (.int (gg t.toNatClampNeg)), .val (.int (t + (2 : Int32))), .unset, .val (.int (((t + (2 : Int32)) + (1 : Int32)) + (gg (t + (2 : Int32)).toNatClampNeg)))] [(.int (t + (2 : Int32))), (.ref a), (.int ((t + (2 : Int32)) + (1 : Int32))), (.ref a)]))
      obtain ⟨cl9, Ar9, S9, G9⟩ := id GA
      have hin9 := own_inb (c := cl9) (j := (t + (2 : Int32))) S9 it2
      refine own_step (X0.iaload hx (j := (t + (2 : Int32))) (v := (.int (gg (t + (2 : Int32)).toNatClampNeg))) (by rw [e0]; exact Ar9.1) (State.isArrayOf_alike hZ.alike Ar9.2.1) Ar9.2.2 hin9 (own_gat S9 G9 hin9) (g := (mkF m 49 #[.val (.ref a), .val (.int t), .val (.ref b), .val (.int (gg t.toNatClampNeg)), .val (.int (t + (2 : Int32))), .unset, .val (.int (((t + (2 : Int32)) + (1 : Int32)) + (gg (t + (2 : Int32)).toNatClampNeg)))] [(.int (t + (2 : Int32))), (.ref a), (.int ((t + (2 : Int32)) + (1 : Int32))), (.ref a)])) rfl rfl (hb hby d1_49)) ?_
      show own_Ends p e below F (s₁.setTop (mkF m 50 #[.val (.ref a), .val (.int t), .val (.ref b), .val (.int (gg t.toNatClampNeg)), .val (.int (t + (2 : Int32))), .unset, .val (.int (((t + (2 : Int32)) + (1 : Int32)) + (gg (t + (2 : Int32)).toNatClampNeg)))] [(.int (gg (t + (2 : Int32)).toNatClampNeg)), (.int ((t + (2 : Int32)) + (1 : Int32))), (.ref a)]))
      refine own_step (fun _ k => XS.aloadN X0.here hx rfl (hb hby d1_50) rfl rfl k) ?_
      show own_Ends p e below F (s₁.setTop (mkF m 51 #[.val (.ref a), .val (.int t), .val (.ref b), .val (.int (gg t.toNatClampNeg)), .val (.int (t + (2 : Int32))), .unset, .val (.int (((t + (2 : Int32)) + (1 : Int32)) + (gg (t + (2 : Int32)).toNatClampNeg)))] [(.ref b), (.int (gg (t + (2 : Int32)).toNatClampNeg)), (.int ((t + (2 : Int32)) + (1 : Int32))), (.ref a)]))
      obtain ⟨_, _, ⟨T10, L10, k10, n10⟩, -, X10, ⟨Lc10, hQ10, l10, y10, z10⟩, st10⟩ := Jvm.LawKit.callS X0 hx (y := (⟨"com/example/entitlement/entitlement/service/AclCode", "holdsAny", "([III[J)Z"⟩ : MethodName)) hown (mvT hZ (own_g hw 19 rfl)) (mvT hZ (own_g hw 20 rfl)) (mvT hZ (own_g hw 7 rfl)) (mvT hZ (own_g hw 21 rfl)) (by decide) (backOf (W := 0) (rm3 l Z a0 hw [] a b ((t + (2 : Int32)) + (1 : Int32)) (gg (t + (2 : Int32)).toNatClampNeg) gg kb wa wb h0 n0 Z0 GA VB ha0 ha1 ha2) hZ (own_g hw 21 rfl) (own_g hw 7 rfl) (by decide) (by decide)) (g := (mkF m 51 #[.val (.ref a), .val (.int t), .val (.ref b), .val (.int (gg t.toNatClampNeg)), .val (.int (t + (2 : Int32))), .unset, .val (.int (((t + (2 : Int32)) + (1 : Int32)) + (gg (t + (2 : Int32)).toNatClampNeg)))] [(.ref b), (.int (gg (t + (2 : Int32)).toNatClampNeg)), (.int ((t + (2 : Int32)) + (1 : Int32))), (.ref a)])) rfl (by rw [hml]; rfl) (argsL := [(.ref a), (.int ((t + (2 : Int32)) + (1 : Int32))), (.int (gg (t + (2 : Int32)).toNatClampNeg)), (.ref b)]) (rest := []) (lenOf pd__28_5bIII_5bJ_29Z rfl) rfl (by show 2 * 0 + _ ≤ _; exact Nat.le_of_eq rfl) (hb hby d1_51) (fun _ _ => ⟨rfl, e0, (by decide : 0 + 0 ≤ _), (by decide : 0 + 0 ≤ _)⟩)
      dsimp only [Pt.U, Pt.locs, Pt.cells, Pt.slots] at X10 l10 y10 z10 st10 hQ10
      subst l10 y10 z10
      obtain ⟨rfl, Nq10, eq10⟩ := hQ10
      have N10 := Fr.app N0 Nq10
      refine own_step st10 ?_
      show own_Ends p e below F (T10.setTop (mkF m 54 #[.val (.ref a), .val (.int t), .val (.ref b), .val (.int (gg t.toNatClampNeg)), .val (.int (t + (2 : Int32))), .unset, .val (.int (((t + (2 : Int32)) + (1 : Int32)) + (gg (t + (2 : Int32)).toNatClampNeg)))] [(.int (own_any gg ((t + (2 : Int32)) + (1 : Int32)) (gg (t + (2 : Int32)).toNatClampNeg) wa wb))]))
      by_cases c54_11 : (own_any gg ((t + (2 : Int32)) + (1 : Int32)) (gg (t + (2 : Int32)).toNatClampNeg) wa wb) = (0 : Int32)
      · refine own_step (fun _ k => XS.ifYes X10.here hx rfl (pc0 := 54) (pc' := 65) rfl (hb hby d1_54) rfl ((if0 _ _).trans (teq c54_11).1) (by decide) (by decide) k) ?_
        show own_Ends p e below F (T10.setTop (mkF m 65 #[.val (.ref a), .val (.int t), .val (.ref b), .val (.int (gg t.toNatClampNeg)), .val (.int (t + (2 : Int32))), .unset, .val (.int (((t + (2 : Int32)) + (1 : Int32)) + (gg (t + (2 : Int32)).toNatClampNeg)))] []))
        refine own_step (fun _ k => XS.aloadN X10.here hx rfl (hb hby d1_65) rfl rfl k) ?_
        show own_Ends p e below F (T10.setTop (mkF m 66 #[.val (.ref a), .val (.int t), .val (.ref b), .val (.int (gg t.toNatClampNeg)), .val (.int (t + (2 : Int32))), .unset, .val (.int (((t + (2 : Int32)) + (1 : Int32)) + (gg (t + (2 : Int32)).toNatClampNeg)))] [(.ref a)]))
        refine own_step (fun _ k => XS.iload X10.here hx rfl (hb hby d1_66) rfl k) ?_
        show own_Ends p e below F (T10.setTop (mkF m 68 #[.val (.ref a), .val (.int t), .val (.ref b), .val (.int (gg t.toNatClampNeg)), .val (.int (t + (2 : Int32))), .unset, .val (.int (((t + (2 : Int32)) + (1 : Int32)) + (gg (t + (2 : Int32)).toNatClampNeg)))] [(.int (((t + (2 : Int32)) + (1 : Int32)) + (gg (t + (2 : Int32)).toNatClampNeg))), (.ref a)]))
        refine own_step (fun _ k => XS.iconst X10.here hx rfl (hb hby d1_68) k) ?_
        show own_Ends p e below F (T10.setTop (mkF m 69 #[.val (.ref a), .val (.int t), .val (.ref b), .val (.int (gg t.toNatClampNeg)), .val (.int (t + (2 : Int32))), .unset, .val (.int (((t + (2 : Int32)) + (1 : Int32)) + (gg (t + (2 : Int32)).toNatClampNeg)))] [(.int (1 : Int32)), (.int (((t + (2 : Int32)) + (1 : Int32)) + (gg (t + (2 : Int32)).toNatClampNeg))), (.ref a)]))
        refine own_step (fun _ k => XS.iadd X10.here hx rfl (hb hby d1_69) rfl k) ?_
        show own_Ends p e below F (T10.setTop (mkF m 70 #[.val (.ref a), .val (.int t), .val (.ref b), .val (.int (gg t.toNatClampNeg)), .val (.int (t + (2 : Int32))), .unset, .val (.int (((t + (2 : Int32)) + (1 : Int32)) + (gg (t + (2 : Int32)).toNatClampNeg)))] [(.int ((((t + (2 : Int32)) + (1 : Int32)) + (gg (t + (2 : Int32)).toNatClampNeg)) + (1 : Int32))), (.ref a)]))
        refine own_step (fun _ k => XS.aloadN X10.here hx rfl (hb hby d1_70) rfl rfl k) ?_
        show own_Ends p e below F (T10.setTop (mkF m 71 #[.val (.ref a), .val (.int t), .val (.ref b), .val (.int (gg t.toNatClampNeg)), .val (.int (t + (2 : Int32))), .unset, .val (.int (((t + (2 : Int32)) + (1 : Int32)) + (gg (t + (2 : Int32)).toNatClampNeg)))] [(.ref a), (.int ((((t + (2 : Int32)) + (1 : Int32)) + (gg (t + (2 : Int32)).toNatClampNeg)) + (1 : Int32))), (.ref a)]))
        refine own_step (fun _ k => XS.iload X10.here hx rfl (hb hby d1_71) rfl k) ?_
        show own_Ends p e below F (T10.setTop (mkF m 73 #[.val (.ref a), .val (.int t), .val (.ref b), .val (.int (gg t.toNatClampNeg)), .val (.int (t + (2 : Int32))), .unset, .val (.int (((t + (2 : Int32)) + (1 : Int32)) + (gg (t + (2 : Int32)).toNatClampNeg)))] [(.int (((t + (2 : Int32)) + (1 : Int32)) + (gg (t + (2 : Int32)).toNatClampNeg))), (.ref a), (.int ((((t + (2 : Int32)) + (1 : Int32)) + (gg (t + (2 : Int32)).toNatClampNeg)) + (1 : Int32))), (.ref a)]))
        obtain ⟨cl12, Ar12, S12, G12⟩ := id GA
        have hin12 := own_inb (c := cl12) (j := (((t + (2 : Int32)) + (1 : Int32)) + (gg (t + (2 : Int32)).toNatClampNeg))) S12 hnx
        refine own_step (X10.iaload hx (j := (((t + (2 : Int32)) + (1 : Int32)) + (gg (t + (2 : Int32)).toNatClampNeg))) (v := (.int (gg (((t + (2 : Int32)) + (1 : Int32)) + (gg (t + (2 : Int32)).toNatClampNeg)).toNatClampNeg))) (by rw [eq10]; exact Ar12.1) (State.isArrayOf_alike hZ.alike Ar12.2.1) Ar12.2.2 hin12 (own_gat S12 G12 hin12) (g := (mkF m 73 #[.val (.ref a), .val (.int t), .val (.ref b), .val (.int (gg t.toNatClampNeg)), .val (.int (t + (2 : Int32))), .unset, .val (.int (((t + (2 : Int32)) + (1 : Int32)) + (gg (t + (2 : Int32)).toNatClampNeg)))] [(.int (((t + (2 : Int32)) + (1 : Int32)) + (gg (t + (2 : Int32)).toNatClampNeg))), (.ref a), (.int ((((t + (2 : Int32)) + (1 : Int32)) + (gg (t + (2 : Int32)).toNatClampNeg)) + (1 : Int32))), (.ref a)])) rfl rfl (hb hby d1_73)) ?_
        show own_Ends p e below F (T10.setTop (mkF m 74 #[.val (.ref a), .val (.int t), .val (.ref b), .val (.int (gg t.toNatClampNeg)), .val (.int (t + (2 : Int32))), .unset, .val (.int (((t + (2 : Int32)) + (1 : Int32)) + (gg (t + (2 : Int32)).toNatClampNeg)))] [(.int (gg (((t + (2 : Int32)) + (1 : Int32)) + (gg (t + (2 : Int32)).toNatClampNeg)).toNatClampNeg)), (.int ((((t + (2 : Int32)) + (1 : Int32)) + (gg (t + (2 : Int32)).toNatClampNeg)) + (1 : Int32))), (.ref a)]))
        refine own_step (fun _ k => XS.aloadN X10.here hx rfl (hb hby d1_74) rfl rfl k) ?_
        show own_Ends p e below F (T10.setTop (mkF m 75 #[.val (.ref a), .val (.int t), .val (.ref b), .val (.int (gg t.toNatClampNeg)), .val (.int (t + (2 : Int32))), .unset, .val (.int (((t + (2 : Int32)) + (1 : Int32)) + (gg (t + (2 : Int32)).toNatClampNeg)))] [(.ref b), (.int (gg (((t + (2 : Int32)) + (1 : Int32)) + (gg (t + (2 : Int32)).toNatClampNeg)).toNatClampNeg)), (.int ((((t + (2 : Int32)) + (1 : Int32)) + (gg (t + (2 : Int32)).toNatClampNeg)) + (1 : Int32))), (.ref a)]))
        obtain ⟨_, _, ⟨T13, L13, k13, n13⟩, -, X13, ⟨Lc13, hQ13, l13, y13, z13⟩, st13⟩ := Jvm.LawKit.callS X10 hx (y := (⟨"com/example/entitlement/entitlement/service/AclCode", "holdsAny", "([III[J)Z"⟩ : MethodName)) hown (mvT hZ (own_g hw 19 rfl)) (mvT hZ (own_g hw 20 rfl)) (mvT hZ (own_g hw 7 rfl)) (mvT hZ (own_g hw 21 rfl)) (by decide) (backOf (W := 0) (rm3 l Z a0 hw [] a b ((((t + (2 : Int32)) + (1 : Int32)) + (gg (t + (2 : Int32)).toNatClampNeg)) + (1 : Int32)) (gg (((t + (2 : Int32)) + (1 : Int32)) + (gg (t + (2 : Int32)).toNatClampNeg)).toNatClampNeg) gg kb wa wb h0 n0 Z0 GA VB hc0 hc1 hc2) hZ (own_g hw 21 rfl) (own_g hw 7 rfl) (by decide) (by decide)) (g := (mkF m 75 #[.val (.ref a), .val (.int t), .val (.ref b), .val (.int (gg t.toNatClampNeg)), .val (.int (t + (2 : Int32))), .unset, .val (.int (((t + (2 : Int32)) + (1 : Int32)) + (gg (t + (2 : Int32)).toNatClampNeg)))] [(.ref b), (.int (gg (((t + (2 : Int32)) + (1 : Int32)) + (gg (t + (2 : Int32)).toNatClampNeg)).toNatClampNeg)), (.int ((((t + (2 : Int32)) + (1 : Int32)) + (gg (t + (2 : Int32)).toNatClampNeg)) + (1 : Int32))), (.ref a)])) rfl (by rw [hml]; rfl) (argsL := [(.ref a), (.int ((((t + (2 : Int32)) + (1 : Int32)) + (gg (t + (2 : Int32)).toNatClampNeg)) + (1 : Int32))), (.int (gg (((t + (2 : Int32)) + (1 : Int32)) + (gg (t + (2 : Int32)).toNatClampNeg)).toNatClampNeg)), (.ref b)]) (rest := []) (lenOf pd__28_5bIII_5bJ_29Z rfl) rfl (by show 2 * 0 + _ ≤ _; exact Nat.le_of_eq rfl) (hb hby d1_75) (fun _ _ => ⟨rfl, eq10, (by decide : 0 + 0 ≤ _), (by decide : 0 + 0 ≤ _)⟩)
        dsimp only [Pt.U, Pt.locs, Pt.cells, Pt.slots] at X13 l13 y13 z13 st13 hQ13
        subst l13 y13 z13
        obtain ⟨rfl, Nq13, eq13⟩ := hQ13
        have N13 := Fr.app N10 Nq13
        refine own_step st13 ?_
        show own_Ends p e below F (T13.setTop (mkF m 78 #[.val (.ref a), .val (.int t), .val (.ref b), .val (.int (gg t.toNatClampNeg)), .val (.int (t + (2 : Int32))), .unset, .val (.int (((t + (2 : Int32)) + (1 : Int32)) + (gg (t + (2 : Int32)).toNatClampNeg)))] [(.int (own_any gg ((((t + (2 : Int32)) + (1 : Int32)) + (gg (t + (2 : Int32)).toNatClampNeg)) + (1 : Int32)) (gg (((t + (2 : Int32)) + (1 : Int32)) + (gg (t + (2 : Int32)).toNatClampNeg)).toNatClampNeg) wa wb))]))
        by_cases c78_14 : (own_any gg ((((t + (2 : Int32)) + (1 : Int32)) + (gg (t + (2 : Int32)).toNatClampNeg)) + (1 : Int32)) (gg (((t + (2 : Int32)) + (1 : Int32)) + (gg (t + (2 : Int32)).toNatClampNeg)).toNatClampNeg) wa wb) = (0 : Int32)
        · refine own_step (fun _ k => XS.ifYes X13.here hx rfl (pc0 := 78) (pc' := 89) rfl (hb hby d1_78) rfl ((if0 _ _).trans (teq c78_14).1) (by decide) (by decide) k) ?_
          show own_Ends p e below F (T13.setTop (mkF m 89 #[.val (.ref a), .val (.int t), .val (.ref b), .val (.int (gg t.toNatClampNeg)), .val (.int (t + (2 : Int32))), .unset, .val (.int (((t + (2 : Int32)) + (1 : Int32)) + (gg (t + (2 : Int32)).toNatClampNeg)))] []))
          obtain ⟨T15, X15, e15, st15⟩ := getS2 X13 hx hZ hown (host := "") (Or.inl (own_g hw 9 rfl)) Via.refl eq13 Sno (g := (mkF m 89 #[.val (.ref a), .val (.int t), .val (.ref b), .val (.int (gg t.toNatClampNeg)), .val (.int (t + (2 : Int32))), .unset, .val (.int (((t + (2 : Int32)) + (1 : Int32)) + (gg (t + (2 : Int32)).toNatClampNeg)))] [])) rfl (hb hby d1_89)
          refine own_step st15 ?_
          show own_Ends p e below F (T15.setTop (mkF m 92 #[.val (.ref a), .val (.int t), .val (.ref b), .val (.int (gg t.toNatClampNeg)), .val (.int (t + (2 : Int32))), .unset, .val (.int (((t + (2 : Int32)) + (1 : Int32)) + (gg (t + (2 : Int32)).toNatClampNeg)))] [(.ref no)]))
          refine own_step (fun _ k => XS.astore X15.here hx rfl (hb hby d1_92) rfl rfl (l' := #[.val (.ref a), .val (.int t), .val (.ref b), .val (.int (gg t.toNatClampNeg)), .val (.int (t + (2 : Int32))), .val (.ref no), .val (.int (((t + (2 : Int32)) + (1 : Int32)) + (gg (t + (2 : Int32)).toNatClampNeg)))]) rfl k) ?_
          show own_Ends p e below F (T15.setTop (mkF m 94 #[.val (.ref a), .val (.int t), .val (.ref b), .val (.int (gg t.toNatClampNeg)), .val (.int (t + (2 : Int32))), .val (.ref no), .val (.int (((t + (2 : Int32)) + (1 : Int32)) + (gg (t + (2 : Int32)).toNatClampNeg)))] []))
          refine own_step (fun _ k => XS.goto X15.here hx rfl (pc0 := 94) (pc' := 127) rfl (hb hby d1_94) (by decide) (by decide) k) ?_
          show own_Ends p e below F (T15.setTop (mkF m 127 #[.val (.ref a), .val (.int t), .val (.ref b), .val (.int (gg t.toNatClampNeg)), .val (.int (t + (2 : Int32))), .val (.ref no), .val (.int (((t + (2 : Int32)) + (1 : Int32)) + (gg (t + (2 : Int32)).toNatClampNeg)))] []))
          refine own_step (fun _ k => XS.aload X15.here hx rfl (hb hby d1_127) rfl rfl k) ?_
          show own_Ends p e below F (T15.setTop (mkF m 129 #[.val (.ref a), .val (.int t), .val (.ref b), .val (.int (gg t.toNatClampNeg)), .val (.int (t + (2 : Int32))), .val (.ref no), .val (.int (((t + (2 : Int32)) + (1 : Int32)) + (gg (t + (2 : Int32)).toNatClampNeg)))] [(.ref no)]))
          rw [hF]
          exact own_ret X15 (v := (some (.ref no))) (fun h => by rw [Bd.returns] at h; cases h) Bd.notSynchronized (fun fs hr => retOut X15 hx (t := (.object "com/example/entitlement/entitlement/service/Outcome")) (w := (.ref no)) (i := .areturn) Bd.returns rfl (Or.inr (Or.inr (Or.inr (Or.inr ⟨rfl, rfl, rfl⟩)))) (hb hby d1_129) hr) (by decide) (by decide) (by rw [e15]; exact ⟨by simp only [own_own, c12_2, c27_3, c54_11, c78_14, if_true, if_false], N13, rfl⟩)
        · refine own_step (fun _ k => XS.ifNo X13.here hx rfl (hb hby d1_78) rfl ((if0 _ _).trans (feq c78_14).1) k) ?_
          show own_Ends p e below F (T13.setTop (mkF m 81 #[.val (.ref a), .val (.int t), .val (.ref b), .val (.int (gg t.toNatClampNeg)), .val (.int (t + (2 : Int32))), .unset, .val (.int (((t + (2 : Int32)) + (1 : Int32)) + (gg (t + (2 : Int32)).toNatClampNeg)))] []))
          obtain ⟨T16, X16, e16, st16⟩ := getS2 X13 hx hZ hown (host := "") (Or.inl (own_g hw 12 rfl)) Via.refl eq13 Spe (g := (mkF m 81 #[.val (.ref a), .val (.int t), .val (.ref b), .val (.int (gg t.toNatClampNeg)), .val (.int (t + (2 : Int32))), .unset, .val (.int (((t + (2 : Int32)) + (1 : Int32)) + (gg (t + (2 : Int32)).toNatClampNeg)))] [])) rfl (hb hby d1_81)
          refine own_step st16 ?_
          show own_Ends p e below F (T16.setTop (mkF m 84 #[.val (.ref a), .val (.int t), .val (.ref b), .val (.int (gg t.toNatClampNeg)), .val (.int (t + (2 : Int32))), .unset, .val (.int (((t + (2 : Int32)) + (1 : Int32)) + (gg (t + (2 : Int32)).toNatClampNeg)))] [(.ref pe)]))
          refine own_step (fun _ k => XS.astore X16.here hx rfl (hb hby d1_84) rfl rfl (l' := #[.val (.ref a), .val (.int t), .val (.ref b), .val (.int (gg t.toNatClampNeg)), .val (.int (t + (2 : Int32))), .val (.ref pe), .val (.int (((t + (2 : Int32)) + (1 : Int32)) + (gg (t + (2 : Int32)).toNatClampNeg)))]) rfl k) ?_
          show own_Ends p e below F (T16.setTop (mkF m 86 #[.val (.ref a), .val (.int t), .val (.ref b), .val (.int (gg t.toNatClampNeg)), .val (.int (t + (2 : Int32))), .val (.ref pe), .val (.int (((t + (2 : Int32)) + (1 : Int32)) + (gg (t + (2 : Int32)).toNatClampNeg)))] []))
          refine own_step (fun _ k => XS.goto X16.here hx rfl (pc0 := 86) (pc' := 94) rfl (hb hby d1_86) (by decide) (by decide) k) ?_
          show own_Ends p e below F (T16.setTop (mkF m 94 #[.val (.ref a), .val (.int t), .val (.ref b), .val (.int (gg t.toNatClampNeg)), .val (.int (t + (2 : Int32))), .val (.ref pe), .val (.int (((t + (2 : Int32)) + (1 : Int32)) + (gg (t + (2 : Int32)).toNatClampNeg)))] []))
          refine own_step (fun _ k => XS.goto X16.here hx rfl (pc0 := 94) (pc' := 127) rfl (hb hby d1_94) (by decide) (by decide) k) ?_
          show own_Ends p e below F (T16.setTop (mkF m 127 #[.val (.ref a), .val (.int t), .val (.ref b), .val (.int (gg t.toNatClampNeg)), .val (.int (t + (2 : Int32))), .val (.ref pe), .val (.int (((t + (2 : Int32)) + (1 : Int32)) + (gg (t + (2 : Int32)).toNatClampNeg)))] []))
          refine own_step (fun _ k => XS.aload X16.here hx rfl (hb hby d1_127) rfl rfl k) ?_
          show own_Ends p e below F (T16.setTop (mkF m 129 #[.val (.ref a), .val (.int t), .val (.ref b), .val (.int (gg t.toNatClampNeg)), .val (.int (t + (2 : Int32))), .val (.ref pe), .val (.int (((t + (2 : Int32)) + (1 : Int32)) + (gg (t + (2 : Int32)).toNatClampNeg)))] [(.ref pe)]))
          rw [hF]
          exact own_ret X16 (v := (some (.ref pe))) (fun h => by rw [Bd.returns] at h; cases h) Bd.notSynchronized (fun fs hr => retOut X16 hx (t := (.object "com/example/entitlement/entitlement/service/Outcome")) (w := (.ref pe)) (i := .areturn) Bd.returns rfl (Or.inr (Or.inr (Or.inr (Or.inr ⟨rfl, rfl, rfl⟩)))) (hb hby d1_129) hr) (by decide) (by decide) (by rw [e16]; exact ⟨by simp only [own_own, c12_2, c27_3, c54_11, c78_14, if_true, if_false], N13, rfl⟩)
      · refine own_step (fun _ k => XS.ifNo X10.here hx rfl (hb hby d1_54) rfl ((if0 _ _).trans (feq c54_11).1) k) ?_
        show own_Ends p e below F (T10.setTop (mkF m 57 #[.val (.ref a), .val (.int t), .val (.ref b), .val (.int (gg t.toNatClampNeg)), .val (.int (t + (2 : Int32))), .unset, .val (.int (((t + (2 : Int32)) + (1 : Int32)) + (gg (t + (2 : Int32)).toNatClampNeg)))] []))
        obtain ⟨T17, X17, e17, st17⟩ := getS2 X10 hx hZ hown (host := "") (Or.inl (own_g hw 25 rfl)) Via.refl eq10 Sde (g := (mkF m 57 #[.val (.ref a), .val (.int t), .val (.ref b), .val (.int (gg t.toNatClampNeg)), .val (.int (t + (2 : Int32))), .unset, .val (.int (((t + (2 : Int32)) + (1 : Int32)) + (gg (t + (2 : Int32)).toNatClampNeg)))] [])) rfl (hb hby d1_57)
        refine own_step st17 ?_
        show own_Ends p e below F (T17.setTop (mkF m 60 #[.val (.ref a), .val (.int t), .val (.ref b), .val (.int (gg t.toNatClampNeg)), .val (.int (t + (2 : Int32))), .unset, .val (.int (((t + (2 : Int32)) + (1 : Int32)) + (gg (t + (2 : Int32)).toNatClampNeg)))] [(.ref de)]))
        refine own_step (fun _ k => XS.astore X17.here hx rfl (hb hby d1_60) rfl rfl (l' := #[.val (.ref a), .val (.int t), .val (.ref b), .val (.int (gg t.toNatClampNeg)), .val (.int (t + (2 : Int32))), .val (.ref de), .val (.int (((t + (2 : Int32)) + (1 : Int32)) + (gg (t + (2 : Int32)).toNatClampNeg)))]) rfl k) ?_
        show own_Ends p e below F (T17.setTop (mkF m 62 #[.val (.ref a), .val (.int t), .val (.ref b), .val (.int (gg t.toNatClampNeg)), .val (.int (t + (2 : Int32))), .val (.ref de), .val (.int (((t + (2 : Int32)) + (1 : Int32)) + (gg (t + (2 : Int32)).toNatClampNeg)))] []))
        refine own_step (fun _ k => XS.goto X17.here hx rfl (pc0 := 62) (pc' := 94) rfl (hb hby d1_62) (by decide) (by decide) k) ?_
        show own_Ends p e below F (T17.setTop (mkF m 94 #[.val (.ref a), .val (.int t), .val (.ref b), .val (.int (gg t.toNatClampNeg)), .val (.int (t + (2 : Int32))), .val (.ref de), .val (.int (((t + (2 : Int32)) + (1 : Int32)) + (gg (t + (2 : Int32)).toNatClampNeg)))] []))
        refine own_step (fun _ k => XS.goto X17.here hx rfl (pc0 := 94) (pc' := 127) rfl (hb hby d1_94) (by decide) (by decide) k) ?_
        show own_Ends p e below F (T17.setTop (mkF m 127 #[.val (.ref a), .val (.int t), .val (.ref b), .val (.int (gg t.toNatClampNeg)), .val (.int (t + (2 : Int32))), .val (.ref de), .val (.int (((t + (2 : Int32)) + (1 : Int32)) + (gg (t + (2 : Int32)).toNatClampNeg)))] []))
        refine own_step (fun _ k => XS.aload X17.here hx rfl (hb hby d1_127) rfl rfl k) ?_
        show own_Ends p e below F (T17.setTop (mkF m 129 #[.val (.ref a), .val (.int t), .val (.ref b), .val (.int (gg t.toNatClampNeg)), .val (.int (t + (2 : Int32))), .val (.ref de), .val (.int (((t + (2 : Int32)) + (1 : Int32)) + (gg (t + (2 : Int32)).toNatClampNeg)))] [(.ref de)]))
        rw [hF]
        exact own_ret X17 (v := (some (.ref de))) (fun h => by rw [Bd.returns] at h; cases h) Bd.notSynchronized (fun fs hr => retOut X17 hx (t := (.object "com/example/entitlement/entitlement/service/Outcome")) (w := (.ref de)) (i := .areturn) Bd.returns rfl (Or.inr (Or.inr (Or.inr (Or.inr ⟨rfl, rfl, rfl⟩)))) (hb hby d1_129) hr) (by decide) (by decide) (by rw [e17]; exact ⟨by simp only [own_own, c12_2, c27_3, c54_11, if_true, if_false], N10, rfl⟩)
  · refine own_step (fun _ k => XS.ifNo X0.here hx rfl (hb hby d1_12) rfl ((if0 _ _).trans (feq c12_2).1) k) ?_
    show own_Ends p e below F (s₁.setTop (mkF m 15 #[.val (.ref a), .val (.int t), .val (.ref b), .val (.int (gg t.toNatClampNeg)), .val (.int (t + (2 : Int32))), .unset, .unset] []))
    obtain ⟨T18, X18, e18, st18⟩ := getS2 X0 hx hZ hown (host := "") (Or.inl (own_g hw 12 rfl)) Via.refl e0 Spe (g := (mkF m 15 #[.val (.ref a), .val (.int t), .val (.ref b), .val (.int (gg t.toNatClampNeg)), .val (.int (t + (2 : Int32))), .unset, .unset] [])) rfl (hb hby d1_15)
    refine own_step st18 ?_
    show own_Ends p e below F (T18.setTop (mkF m 18 #[.val (.ref a), .val (.int t), .val (.ref b), .val (.int (gg t.toNatClampNeg)), .val (.int (t + (2 : Int32))), .unset, .unset] [(.ref pe)]))
    refine own_step (fun _ k => XS.astore X18.here hx rfl (hb hby d1_18) rfl rfl (l' := #[.val (.ref a), .val (.int t), .val (.ref b), .val (.int (gg t.toNatClampNeg)), .val (.int (t + (2 : Int32))), .val (.ref pe), .unset]) rfl k) ?_
    show own_Ends p e below F (T18.setTop (mkF m 20 #[.val (.ref a), .val (.int t), .val (.ref b), .val (.int (gg t.toNatClampNeg)), .val (.int (t + (2 : Int32))), .val (.ref pe), .unset] []))
    refine own_step (fun _ k => XS.goto X18.here hx rfl (pc0 := 20) (pc' := 127) rfl (hb hby d1_20) (by decide) (by decide) k) ?_
    show own_Ends p e below F (T18.setTop (mkF m 127 #[.val (.ref a), .val (.int t), .val (.ref b), .val (.int (gg t.toNatClampNeg)), .val (.int (t + (2 : Int32))), .val (.ref pe), .unset] []))
    refine own_step (fun _ k => XS.aload X18.here hx rfl (hb hby d1_127) rfl rfl k) ?_
    show own_Ends p e below F (T18.setTop (mkF m 129 #[.val (.ref a), .val (.int t), .val (.ref b), .val (.int (gg t.toNatClampNeg)), .val (.int (t + (2 : Int32))), .val (.ref pe), .unset] [(.ref pe)]))
    rw [hF]
    exact own_ret X18 (v := (some (.ref pe))) (fun h => by rw [Bd.returns] at h; cases h) Bd.notSynchronized (fun fs hr => retOut X18 hx (t := (.object "com/example/entitlement/entitlement/service/Outcome")) (w := (.ref pe)) (i := .areturn) Bd.returns rfl (Or.inr (Or.inr (Or.inr (Or.inr ⟨rfl, rfl, rfl⟩)))) (hb hby d1_129) hr) (by decide) (by decide) (by rw [e18]; exact ⟨by simp only [own_own, c12_2, if_true, if_false], N0, rfl⟩)

def own_den (dc na nb : Int32) (wa wb : Int64) : Int32 := if dc < (1 : Int32) then (if dc < (2 : Int32) then 0 else if own_has wa wb nb = 0 then 0 else 1) else (if own_has wa wb na = 0 then (if dc < (2 : Int32) then 0 else if own_has wa wb nb = 0 then 0 else 1) else 1)
def own_exp (hh dc rc ec na nb nc nd ea eb eg : Int32) (wa wb : Int64) (pe de no : Addr) : Addr :=
  if hh &&& (1 : Int32) = 0 then (if hh &&& (8 : Int32) = 0 then (if hh &&& (16 : Int32) = 0 then no else
    (if ec < (1 : Int32) then (if ec < (2 : Int32) then (if ec < (3 : Int32) then no else if own_has wa wb (own_u1 eg) = 0 then no else own_act eg pe de) else (if own_has wa wb (own_u1 eb) = 0 then (if ec < (3 : Int32) then no else if own_has wa wb (own_u1 eg) = 0 then no else own_act eg pe de) else own_act eb pe de))
     else (if own_has wa wb (own_u1 ea) = 0 then (if ec < (2 : Int32) then (if ec < (3 : Int32) then no else if own_has wa wb (own_u1 eg) = 0 then no else own_act eg pe de) else (if own_has wa wb (own_u1 eb) = 0 then (if ec < (3 : Int32) then no else if own_has wa wb (own_u1 eg) = 0 then no else own_act eg pe de) else own_act eb pe de)) else own_act ea pe de)))
   else (if own_den dc na nb wa wb = 0 then (if own_den rc nc nd wa wb = 0 then no else pe) else de)) else pe

theorem own_t01 {v x : Int32} (e : v = x &&& (1 : Int32)) : v = 0 ∨ v = 1 := by subst e; exact and_one x
theorem own_I0 {t : Int32} (h : t = 0 ∨ t = 1) : own_I t := by rcases h with rfl | rfl <;> exact ⟨by decide, by decide⟩
theorem own_I1 {t : Int32} (h : t = 0 ∨ t = 1) : own_I (t + (1 : Int32)) := by rcases h with rfl | rfl <;> exact ⟨by decide, by decide⟩
theorem own_I2 {t : Int32} (h : t = 0 ∨ t = 1) : own_I (t + (2 : Int32)) := by rcases h with rfl | rfl <;> exact ⟨by decide, by decide⟩
theorem own_Ip0 {t p : Int32} (h : t = 0 ∨ t = 1) (e : p = t + (2 : Int32)) : own_I p := by subst e; rcases h with rfl | rfl <;> exact ⟨by decide, by decide⟩
theorem own_Ip1 {t p : Int32} (h : t = 0 ∨ t = 1) (e : p = t + (2 : Int32)) : own_I (p + (1 : Int32)) := by subst e; rcases h with rfl | rfl <;> exact ⟨by decide, by decide⟩
theorem own_Ip2 {t p : Int32} (h : t = 0 ∨ t = 1) (e : p = t + (2 : Int32)) : own_I (p + (2 : Int32)) := by subst e; rcases h with rfl | rfl <;> exact ⟨by decide, by decide⟩
theorem own_Ip3 {t p : Int32} (h : t = 0 ∨ t = 1) (e : p = t + (2 : Int32)) : own_I (p + (3 : Int32)) := by subst e; rcases h with rfl | rfl <;> exact ⟨by decide, by decide⟩
theorem own_Ip4 {t p : Int32} (h : t = 0 ∨ t = 1) (e : p = t + (2 : Int32)) : own_I (p + (4 : Int32)) := by subst e; rcases h with rfl | rfl <;> exact ⟨by decide, by decide⟩
theorem own_bk {t p : Int32} (h : t = 0 ∨ t = 1) (e : p = t + (2 : Int32)) : (2 : Int) ≤ p.toInt ∧ p.toInt ≤ 3 := by subst e; rcases h with rfl | rfl <;> exact ⟨by decide, by decide⟩
theorem own_ik {k : Int32} {a b : Int} (h : a ≤ k.toInt ∧ k.toInt ≤ b) (ha : 0 ≤ a := by decide) (hb : b ≤ 9 := by decide) : own_I k := by
  have z : (0 : Int32).toInt = 0 := rfl
  refine ⟨by rw [Int32.lt_iff_toInt_lt, z]; omega, ?_⟩
  simp only [Int32.toNatClampNeg]; omega
theorem own_bk1 {k : Int32} {a b : Int} (h : a ≤ k.toInt ∧ k.toInt ≤ b) (ha : 0 ≤ a := by decide) (hb : b ≤ 100 := by decide) : a + 1 ≤ (k + (1 : Int32)).toInt ∧ (k + (1 : Int32)).toInt ≤ b + 1 := by
  have e := c_iadd k 1
  have r := rng32 (k + 1)
  have z : (1 : Int32).toInt = 1 := rfl
  rw [z] at e
  omega
theorem own_inc {P : Prop} [Decidable P] {z k : Int32} {a b : Int} (h : z = if P then k else (k + (1 : Int32))) (bk : a ≤ k.toInt ∧ k.toInt ≤ b) (ha : 0 ≤ a := by decide) (hb : b ≤ 100 := by decide) : a ≤ z.toInt ∧ z.toInt ≤ b + 1 := by
  have q := own_bk1 bk ha hb
  subst h
  by_cases c : P
  · rw [if_pos c]; omega
  · rw [if_neg c]; omega
theorem own_d3 {v x : Int32} (e : v = (x &&& (3 : Int32)) % (3 : Int32)) : v = 0 ∨ v = 1 ∨ v = 2 := by
  subst e
  rcases own_m3 x with q | q | q | q <;> rw [q] <;> decide
theorem own_e4 {v x : Int32} (e : v = x &&& (3 : Int32)) : v = 0 ∨ v = 1 ∨ v = 2 ∨ v = 3 := by subst e; exact own_m3 x
theorem own_R127 {v x : Int32} (e : v = x &&& (127 : Int32)) : own_R v := by
  subst e
  have h := c_and x 127 (by decide)
  have z : (127 : Int32).toInt = 127 := rfl
  rw [z] at h
  exact ⟨h.1, by omega⟩
theorem own_Ru {v x : Int32} (e : v = x &&& (255 : Int32)) : own_R (own_u1 v) := by
  have h : 0 ≤ v.toInt ∧ v.toInt ≤ 255 := by
    subst e
    have h := c_and x 255 (by decide)
    have z : (255 : Int32).toInt = 255 := rfl
    rw [z] at h
    exact h
  have q := c_iushr v 1 1 (by decide) (by decide)
  have p : ((2 ^ 1 : Nat) : Int) = 2 := rfl
  rw [p] at q
  unfold own_R
  rw [q]; omega
def own_layE (g : Nat → Int32) (t hh ec ea eb eg : Int32) : Prop := g t.toNatClampNeg = hh ∧ g (t + (2 : Int32)).toNatClampNeg = ec ∧ g ((t + (2 : Int32)) + (1 : Int32)).toNatClampNeg = ea ∧ g (((t + (2 : Int32)) + (1 : Int32)) + (1 : Int32)).toNatClampNeg = eb ∧ g ((((t + (2 : Int32)) + (1 : Int32)) + (1 : Int32)) + (1 : Int32)).toNatClampNeg = eg
def own_layK (g : Nat → Int32) (t hh dc rc na nb nc nd : Int32) : Prop := g t.toNatClampNeg = hh ∧ g (t + (2 : Int32)).toNatClampNeg = dc ∧ (¬ dc < (1 : Int32) → g ((t + (2 : Int32)) + (1 : Int32)).toNatClampNeg = na) ∧ (¬ dc < (2 : Int32) → g (((t + (2 : Int32)) + (1 : Int32)) + (1 : Int32)).toNatClampNeg = nb) ∧
  g (((t + (2 : Int32)) + (1 : Int32)) + dc).toNatClampNeg = rc ∧ (¬ rc < (1 : Int32) → g ((((t + (2 : Int32)) + (1 : Int32)) + dc) + (1 : Int32)).toNatClampNeg = nc) ∧ (¬ rc < (2 : Int32) → g (((((t + (2 : Int32)) + (1 : Int32)) + dc) + (1 : Int32)) + (1 : Int32)).toNatClampNeg = nd)
def own_lay (g : Nat → Int32) (t hh dc rc ec na nb nc nd ea eb eg : Int32) : Prop := (hh &&& (8 : Int32) = 0 → own_layE g t hh ec ea eb eg) ∧ (¬ hh &&& (8 : Int32) = 0 → own_layK g t hh dc rc na nb nc nd)
theorem own_lE {t p y hh ec ea eb eg po : Int32} {ga gz : Nat → Int32} (ht : t = 0 ∨ t = 1) (ep : p = t + (2 : Int32)) (e1 : ga = own_upd (own_upd (own_upd (fun _ => (0 : Int32)) (0 : Int32).toNatClampNeg (hh ^^^ (25 : Int32))) t.toNatClampNeg hh) (t + (1 : Int32)).toNatClampNeg y)
    (e2 : gz = own_upd (own_upd (own_upd (own_upd (own_upd ga p.toNatClampNeg ec) (p + (1 : Int32)).toNatClampNeg ea) (p + (2 : Int32)).toNatClampNeg eb) (p + (3 : Int32)).toNatClampNeg eg) (p + (4 : Int32)).toNatClampNeg po) : own_layE gz t hh ec ea eb eg := by
  subst ep e1 e2
  rcases ht with rfl | rfl <;> exact ⟨rfl, rfl, rfl, rfl, rfl⟩
theorem own_lK {t p y hh dc rc na nb nc nd po : Int32} {ga gb gc gd ge gf gg gz : Nat → Int32} {z1 z2 z3 z4 : Int32} (ht : t = 0 ∨ t = 1) (ep : p = t + (2 : Int32)) (hd : dc = 0 ∨ dc = 1 ∨ dc = 2) (hr : rc = 0 ∨ rc = 1 ∨ rc = 2)
    (e1 : ga = own_upd (own_upd (own_upd (fun _ => (0 : Int32)) (0 : Int32).toNatClampNeg (hh ^^^ (25 : Int32))) t.toNatClampNeg hh) (t + (1 : Int32)).toNatClampNeg y)
    (e2 : gb = own_upd ga p.toNatClampNeg dc)
    (k1 : z1 = if dc < (1 : Int32) then (p + (1 : Int32)) else ((p + (1 : Int32)) + (1 : Int32))) (e3 : gc = if dc < (1 : Int32) then gb else own_upd gb (p + (1 : Int32)).toNatClampNeg na)
    (k2 : z2 = if dc < (2 : Int32) then z1 else (z1 + (1 : Int32))) (e4 : gd = if dc < (2 : Int32) then gc else own_upd gc z1.toNatClampNeg nb)
    (e5 : ge = own_upd gd z2.toNatClampNeg rc)
    (k3 : z3 = if rc < (1 : Int32) then (z2 + (1 : Int32)) else ((z2 + (1 : Int32)) + (1 : Int32))) (e6 : gf = if rc < (1 : Int32) then ge else own_upd ge (z2 + (1 : Int32)).toNatClampNeg nc)
    (k4 : z4 = if rc < (2 : Int32) then z3 else (z3 + (1 : Int32))) (e7 : gg = if rc < (2 : Int32) then gf else own_upd gf z3.toNatClampNeg nd)
    (e8 : gz = own_upd gg z4.toNatClampNeg po) : own_layK gz t hh dc rc na nb nc nd := by
  subst ep e1 e2
  rcases hd with rfl | rfl | rfl
  · rw [if_pos (by decide)] at k1 e3 k2 e4
    subst k1 e3 k2 e4 e5
    rcases hr with rfl | rfl | rfl
    · rw [if_pos (by decide)] at k3 e6 k4 e7
      subst k3 e6 k4 e7 e8
      rcases ht with rfl | rfl <;> exact ⟨rfl, rfl, fun q => absurd (by decide) q, fun q => absurd (by decide) q, rfl, fun q => absurd (by decide) q, fun q => absurd (by decide) q⟩
    · rw [if_neg (by decide)] at k3 e6
      rw [if_pos (by decide)] at k4 e7
      subst k3 e6 k4 e7 e8
      rcases ht with rfl | rfl <;> exact ⟨rfl, rfl, fun q => absurd (by decide) q, fun q => absurd (by decide) q, rfl, fun _ => rfl, fun q => absurd (by decide) q⟩
    · rw [if_neg (by decide)] at k3 e6 k4 e7
      subst k3 e6 k4 e7 e8
      rcases ht with rfl | rfl <;> exact ⟨rfl, rfl, fun q => absurd (by decide) q, fun q => absurd (by decide) q, rfl, fun _ => rfl, fun _ => rfl⟩
  · rw [if_neg (by decide)] at k1 e3
    rw [if_pos (by decide)] at k2 e4
    subst k1 e3 k2 e4 e5
    rcases hr with rfl | rfl | rfl
    · rw [if_pos (by decide)] at k3 e6 k4 e7
      subst k3 e6 k4 e7 e8
      rcases ht with rfl | rfl <;> exact ⟨rfl, rfl, fun _ => rfl, fun q => absurd (by decide) q, rfl, fun q => absurd (by decide) q, fun q => absurd (by decide) q⟩
    · rw [if_neg (by decide)] at k3 e6
      rw [if_pos (by decide)] at k4 e7
      subst k3 e6 k4 e7 e8
      rcases ht with rfl | rfl <;> exact ⟨rfl, rfl, fun _ => rfl, fun q => absurd (by decide) q, rfl, fun _ => rfl, fun q => absurd (by decide) q⟩
    · rw [if_neg (by decide)] at k3 e6 k4 e7
      subst k3 e6 k4 e7 e8
      rcases ht with rfl | rfl <;> exact ⟨rfl, rfl, fun _ => rfl, fun q => absurd (by decide) q, rfl, fun _ => rfl, fun _ => rfl⟩
  · rw [if_neg (by decide)] at k1 e3 k2 e4
    subst k1 e3 k2 e4 e5
    rcases hr with rfl | rfl | rfl
    · rw [if_pos (by decide)] at k3 e6 k4 e7
      subst k3 e6 k4 e7 e8
      rcases ht with rfl | rfl <;> exact ⟨rfl, rfl, fun _ => rfl, fun _ => rfl, rfl, fun q => absurd (by decide) q, fun q => absurd (by decide) q⟩
    · rw [if_neg (by decide)] at k3 e6
      rw [if_pos (by decide)] at k4 e7
      subst k3 e6 k4 e7 e8
      rcases ht with rfl | rfl <;> exact ⟨rfl, rfl, fun _ => rfl, fun _ => rfl, rfl, fun _ => rfl, fun q => absurd (by decide) q⟩
    · rw [if_neg (by decide)] at k3 e6 k4 e7
      subst k3 e6 k4 e7 e8
      rcases ht with rfl | rfl <;> exact ⟨rfl, rfl, fun _ => rfl, fun _ => rfl, rfl, fun _ => rfl, fun _ => rfl⟩
theorem own_p8 {g : Nat → Int32} {t hh dc rc ec na nb nc nd ea eb eg : Int32} (L : own_lay g t hh dc rc ec na nb nc nd ea eb eg) (ht : t = 0 ∨ t = 1) (hd : dc = 0 ∨ dc = 1 ∨ dc = 2) (hr : rc = 0 ∨ rc = 1 ∨ rc = 2) (ra : own_R na) (rb : own_R nb) (rr : own_R nc) (rd : own_R nd) (h : ¬ g t.toNatClampNeg &&& (8 : Int32) = 0) : own_P8 g t := by
  have h8 : ¬ hh &&& (8 : Int32) = 0 := fun q => by
    have := (L.1 q).1
    rw [this] at h; exact h q
  obtain ⟨-, e2, e3, e4, e5, e6, e7⟩ := L.2 h8
  unfold own_P8
  rw [e2, e5]
  rcases ht with rfl | rfl <;> rcases hd with rfl | rfl | rfl <;> rcases hr with rfl | rfl | rfl <;>
    refine ⟨⟨fun q => ?_, fun q => ?_, by decide⟩, ⟨by decide, by decide⟩, fun q => ?_, fun q => ?_, by decide⟩ <;>
    first
      | exact absurd q (by decide)
      | exact ⟨⟨by decide, by decide⟩, by rw [e3 (by decide)]; exact ra⟩
      | exact ⟨⟨by decide, by decide⟩, by rw [e4 (by decide)]; exact rb⟩
      | exact ⟨⟨by decide, by decide⟩, by rw [e6 (by decide)]; exact rr⟩
      | exact ⟨⟨by decide, by decide⟩, by rw [e7 (by decide)]; exact rd⟩
theorem own_p16 {g : Nat → Int32} {t hh dc rc ec na nb nc nd ea eb eg : Int32} (L : own_lay g t hh dc rc ec na nb nc nd ea eb eg) (ht : t = 0 ∨ t = 1) (he : ec = 0 ∨ ec = 1 ∨ ec = 2 ∨ ec = 3) (ra : own_R (own_u1 ea)) (rb : own_R (own_u1 eb)) (rg : own_R (own_u1 eg)) (h : g t.toNatClampNeg &&& (8 : Int32) = 0) : own_P16 g t := by
  have h8 : hh &&& (8 : Int32) = 0 := Classical.byContradiction fun q => by
    have := (L.2 q).1
    rw [this] at h; exact q h
  obtain ⟨-, e2, e3, e4, e5⟩ := L.1 h8
  unfold own_P16
  rw [e2, e3, e4, e5]
  rcases ht with rfl | rfl <;> rcases he with rfl | rfl | rfl | rfl <;>
    exact ⟨fun _ => ⟨⟨by decide, by decide⟩, ra⟩, fun _ => ⟨⟨by decide, by decide⟩, rb⟩, fun _ => ⟨⟨by decide, by decide⟩, rg⟩, by decide⟩
theorem own_any_eq {g : Nat → Int32} {f dc na nb : Int32} {wa wb : Int64} (hf : 0 ≤ f.toInt ∧ f.toInt ≤ 100) (hd : dc = 0 ∨ dc = 1 ∨ dc = 2) (h1 : ¬ dc < (1 : Int32) → g f.toNatClampNeg = na) (h2 : ¬ dc < (2 : Int32) → g (f + (1 : Int32)).toNatClampNeg = nb) : own_any g f dc wa wb = own_den dc na nb wa wb := by
  have a0 := c_iadd f 0
  have a1 := c_iadd f 1
  have a2 := c_iadd f 2
  have r0 := rng32 (f + 0)
  have r1 := rng32 (f + 1)
  have r2 := rng32 (f + 2)
  have z0 : (0 : Int32).toInt = 0 := rfl
  have z1 : (1 : Int32).toInt = 1 := rfl
  have z2 : (2 : Int32).toInt = 2 := rfl
  rw [z0] at a0; rw [z1] at a1; rw [z2] at a2
  rcases hd with rfl | rfl | rfl
  · unfold own_any own_den
    rw [if_neg (by rw [Int32.lt_iff_toInt_lt]; omega), if_pos (by decide), if_pos (by decide)]
  · unfold own_any own_den
    rw [if_pos (by rw [Int32.lt_iff_toInt_lt]; omega), if_neg (by decide : ¬ (1 : Int32) < 1), h1 (by decide), if_neg (show ¬ f + (1 : Int32) < f + (1 : Int32) by rw [Int32.lt_iff_toInt_lt]; omega), if_pos (by decide : (1 : Int32) < 2)]
  · unfold own_any own_den
    rw [if_pos (by rw [Int32.lt_iff_toInt_lt]; omega), if_neg (by decide : ¬ (2 : Int32) < 1), h1 (by decide), if_pos (show f + (1 : Int32) < f + (2 : Int32) by rw [Int32.lt_iff_toInt_lt]; omega), if_neg (by decide : ¬ (2 : Int32) < 2), h2 (by decide)]
theorem own_final {g : Nat → Int32} {t hh dc rc ec na nb nc nd ea eb eg : Int32} {wa wb : Int64} {pe de no z : Addr} (L : own_lay g t hh dc rc ec na nb nc nd ea eb eg) (ht : t = 0 ∨ t = 1) (hd : dc = 0 ∨ dc = 1 ∨ dc = 2) (hr : rc = 0 ∨ rc = 1 ∨ rc = 2) (he : ec = 0 ∨ ec = 1 ∨ ec = 2 ∨ ec = 3)
    (hz : z = own_exp hh dc rc ec na nb nc nd ea eb eg wa wb pe de no) : own_own g t wa wb pe de no = z := by
  subst hz
  by_cases h8 : hh &&& (8 : Int32) = 0
  · obtain ⟨e1, e2, e3, e4, e5⟩ := L.1 h8
    unfold own_own own_exp
    rw [e1, if_pos h8, if_pos h8, e2]
    congr 1
    congr 1
    unfold own_fm
    rw [e3, e4, e5]
    rcases ht with rfl | rfl <;> rcases he with rfl | rfl | rfl | rfl <;> simp +decide only [if_true, if_false]
  · obtain ⟨e1, e2, e3, e4, e5, e6, e7⟩ := L.2 h8
    unfold own_own own_exp
    rw [e1, if_neg h8, if_neg h8, e2, e5]
    have q1 : own_any g ((t + (2 : Int32)) + (1 : Int32)) dc wa wb = own_den dc na nb wa wb := own_any_eq (by rcases ht with rfl | rfl <;> exact ⟨by decide, by decide⟩) hd e3 e4
    have q2 : own_any g ((((t + (2 : Int32)) + (1 : Int32)) + dc) + (1 : Int32)) rc wa wb = own_den rc nc nd wa wb := own_any_eq (by rcases ht with rfl | rfl <;> rcases hd with rfl | rfl | rfl <;> exact ⟨by decide, by decide⟩) hr e6 e7
    rw [q1, q2]

theorem pd__28JJI_29Z : parseMethodDescriptor "(JJI)Z" = some ⟨[.long, .long, .int], some .boolean⟩ := by decide +kernel
theorem pd__28I_29Lcom_2fexample_2fentitlement_2fentitlement_2fservice_2fOutcome_3b : parseMethodDescriptor "(I)Lcom/example/entitlement/entitlement/service/Outcome;" = some ⟨[.int], some (.object "com/example/entitlement/entitlement/service/Outcome")⟩ := by decide +kernel
theorem pd__28_5bII_5bJ_29Lcom_2fexample_2fentitlement_2fentitlement_2fservice_2fOutcome_3b : parseMethodDescriptor "([II[J)Lcom/example/entitlement/entitlement/service/Outcome;" = some ⟨[(.array .int), .int, (.array .long)], some (.object "com/example/entitlement/entitlement/service/Outcome")⟩ := by decide +kernel
theorem ef_rm0 (m : MethodId) (x0 : Int32) (x1 : Int64) (x2 : Int64) (x3 : Int32) (x4 : Int32) (x5 : Int32) : entryFrame m #[(.int x0), (.long x1), (.long x2), (.int x3), (.int x4), (.int x5)] maxLocals = mkF m 0 #[.val (.int x0), .val (.long x1), .second, .val (.long x2), .second, .val (.int x3), .val (.int x4), .val (.int x5), .unset, .unset, .unset, .unset, .unset, .unset, .unset, .unset, .unset, .unset, .unset, .unset, .unset, .unset, .unset, .unset, .unset, .unset, .unset] [] := by first | (simp [entryFrame, mkF, argsToLocals, Value.category, maxLocals]; done) | rfl
def Q0 (Z : State) (p1 : Int32) (wa wb : Int64) (p4 p5 p6 : Int32) (pe de no : Addr) (h0 : Heap) (n0 : Nat) (v : Option Value) (h : Heap) (L : List Loc) : Prop := v = some (.int 1) ∧ Fr n0 L
set_option maxRecDepth 65536 in
set_option maxHeartbeats 40000000 in
theorem rm0 (l : Launch) (Z : State) (a0 : Array Value) (hw : ∀ d ∈ tables_1, d.before a0 Z = true) (ws : List Jvm.Cond) (p1 : Int32) (wa wb : Int64) (p4 p5 p6 : Int32) (pe de no : Addr) (h0 : Heap) (n0 : Nat) (Z0 : n0 ≤ h0.size) (Spe : Sta Z h0 "com/example/entitlement/entitlement/service/Outcome" "PERMIT" "Lcom/example/entitlement/entitlement/service/Outcome;" (.ref pe)) (Sde : Sta Z h0 "com/example/entitlement/entitlement/service/Outcome" "DENY" "Lcom/example/entitlement/entitlement/service/Outcome;" (.ref de)) (Sno : Sta Z h0 "com/example/entitlement/entitlement/service/Outcome" "NO_MATCH" "Lcom/example/entitlement/entitlement/service/Outcome;" (.ref no)) :
    MetFree l x (head1 (Jvm.Cond.code x code maxLocals ret :: ws) room_1) (fun ar U => ar = #[(.int p1), (.long wa), (.long wb), (.int p4), (.int p5), (.int p6)] ∧ Z.Warmed39 U.vm ∧ U.heap = h0) (fun _ _ _ _ _ => True) (fun _ U o U' => ∃ v L, o = .returned v ∧ Q0 Z p1 wa wb p4 p5 p6 pe de no h0 n0 v U'.heap L ∧ FrameEnd U o U' L room_1.cells room_1.slots) := by
  refine MetFree.of_bodySF (plainFor_of_name pn_com_example_entitlement_entitlement_service_AclCodeOwnPinLaw) hisR ?_
  intro p e s m args below meth c s₁ Bd hml0 hP hK
  obtain ⟨rfl, hZ, hh⟩ := hP
  have hx := Bd.exec
  have hby := Bd.bytes
  have hml : c.maxLocals = 27 := hml0
  have hown : s.vm.findClass "com/example/entitlement/entitlement/service/AclCodeOwnPinLaw" = some m.cls := findClass_of_methodNamed Bd.named
  have hnm := (name_of_methodNamed Bd.named Bd.method).1
  have X0 : Stand p l e room_1 s m #[(.int p1), (.long wa), (.long wb), (.int p4), (.int p5), (.int p6)] below meth c s₁ [] 0 0 := Stand.of_body Bd
  have e0 : s₁.heap = h0 := by rw [← hh, Bd.state]; rfl
  have N0 := Fr.nil n0
  obtain ⟨F, hF⟩ : ∃ F, F = own_Fin s (Q0 Z p1 wa wb p4 p5 p6 pe de no h0 n0) room_1.cells room_1.slots := ⟨_, rfl⟩
  show own_Ends p e below (own_Fin s (Q0 Z p1 wa wb p4 p5 p6 pe de no h0 n0) room_1.cells room_1.slots) _
  rw [← hF, ef_rm0 m p1 wa wb p4 p5 p6]
  show own_Ends p e below F (s₁.setTop (mkF m 0 #[.val (.int p1), .val (.long wa), .second, .val (.long wb), .second, .val (.int p4), .val (.int p5), .val (.int p6), .unset, .unset, .unset, .unset, .unset, .unset, .unset, .unset, .unset, .unset, .unset, .unset, .unset, .unset, .unset, .unset, .unset, .unset, .unset] []))
  obtain ⟨A1, hA1⟩ : ∃ z : Array Slot, z = #[.val (.int p1), .val (.long wa), .second, .val (.long wb), .second, .val (.int p4), .val (.int p5), .val (.int p6), .unset, .unset, .unset, .unset, .unset, .unset, .unset, .unset, .unset, .unset, .unset, .unset, .unset, .unset, .unset, .unset, .unset, .unset, .unset] := ⟨_, rfl⟩
  rw [← hA1]
  show own_Ends p e below F (s₁.setTop (mkF m 0 A1 []))
  refine own_step (fun _ k => XS.iloadN X0.here hx rfl (hb hby at_0) (by rw [hA1]; rfl) k) ?_
  show own_Ends p e below F (s₁.setTop (mkF m 1 A1 [(.int p1)]))
  obtain ⟨A2, hA2⟩ : ∃ z : Array Slot, z = #[.val (.int p1), .val (.long wa), .second, .val (.long wb), .second, .val (.int p4), .val (.int p5), .val (.int p6), .val (.int p1), .unset, .unset, .unset, .unset, .unset, .unset, .unset, .unset, .unset, .unset, .unset, .unset, .unset, .unset, .unset, .unset, .unset, .unset] := ⟨_, rfl⟩
  refine own_step (fun _ k => XS.istore X0.here hx rfl (hb hby at_1) rfl (l' := A2) (by rw [hA1, hA2]; exact rfl) k) ?_
  show own_Ends p e below F (s₁.setTop (mkF m 3 A2 []))
  refine own_step (fun _ k => XS.iload X0.here hx rfl (hb hby at_3) (by rw [hA2]; rfl) k) ?_
  show own_Ends p e below F (s₁.setTop (mkF m 5 A2 [(.int p1)]))
  refine own_step (fun _ k => XS.bipush X0.here hx rfl (hb hby at_5) k) ?_
  show own_Ends p e below F (s₁.setTop (mkF m 7 A2 [(.int (8 : Int32)), (.int p1)]))
  refine own_step (fun _ k => XS.iand X0.here hx rfl (hb hby at_7) rfl k) ?_
  show own_Ends p e below F (s₁.setTop (mkF m 8 A2 [(.int (p1 &&& (8 : Int32)))]))
  have J8_4 : ∀ (z3 : Int32) (hz3 : z3 = (if (p1 &&& (8 : Int32)) = (0 : Int32) then p1 else (p1 &&& (-17 : Int32)))), own_Ends p e below F (s₁.setTop (mkF m 18 #[.val (.int p1), .val (.long wa), .second, .val (.long wb), .second, .val (.int p4), .val (.int p5), .val (.int p6), .val (.int z3), .unset, .unset, .unset, .unset, .unset, .unset, .unset, .unset, .unset, .unset, .unset, .unset, .unset, .unset, .unset, .unset, .unset, .unset] [])) := by
    intro z3 hz3
    obtain ⟨A6, hA6⟩ : ∃ z : Array Slot, z = #[.val (.int p1), .val (.long wa), .second, .val (.long wb), .second, .val (.int p4), .val (.int p5), .val (.int p6), .val (.int z3), .unset, .unset, .unset, .unset, .unset, .unset, .unset, .unset, .unset, .unset, .unset, .unset, .unset, .unset, .unset, .unset, .unset, .unset] := ⟨_, rfl⟩
    rw [← hA6]
    show own_Ends p e below F (s₁.setTop (mkF m 18 A6 []))
    refine own_step (fun _ k => XS.iload X0.here hx rfl (hb hby at_18) (by rw [hA6]; rfl) k) ?_
    show own_Ends p e below F (s₁.setTop (mkF m 20 A6 [(.int p4)]))
    refine own_step (fun _ k => XS.iconst X0.here hx rfl (hb hby at_20) k) ?_
    show own_Ends p e below F (s₁.setTop (mkF m 21 A6 [(.int (4 : Int32)), (.int p4)]))
    refine own_step (fun _ k => XS.iushr X0.here hx rfl (hb hby at_21) rfl k) ?_
    show own_Ends p e below F (s₁.setTop (mkF m 22 A6 [(.int ((p4.toUInt32 >>> ((4 : Int32) &&& 31).toUInt32).toInt32))]))
    refine own_step (fun _ k => XS.iconst X0.here hx rfl (hb hby at_22) k) ?_
    show own_Ends p e below F (s₁.setTop (mkF m 23 A6 [(.int (1 : Int32)), (.int ((p4.toUInt32 >>> ((4 : Int32) &&& 31).toUInt32).toInt32))]))
    refine own_step (fun _ k => XS.iand X0.here hx rfl (hb hby at_23) rfl k) ?_
    show own_Ends p e below F (s₁.setTop (mkF m 24 A6 [(.int (((p4.toUInt32 >>> ((4 : Int32) &&& 31).toUInt32).toInt32) &&& (1 : Int32)))]))
    obtain ⟨v7, ev7⟩ : ∃ z : Int32, z = (((p4.toUInt32 >>> ((4 : Int32) &&& 31).toUInt32).toInt32) &&& (1 : Int32)) := ⟨_, rfl⟩
    rw [← ev7]
    show own_Ends p e below F (s₁.setTop (mkF m 24 A6 [(.int v7)]))
    obtain ⟨A8, hA8⟩ : ∃ z : Array Slot, z = #[.val (.int p1), .val (.long wa), .second, .val (.long wb), .second, .val (.int p4), .val (.int p5), .val (.int p6), .val (.int z3), .val (.int v7), .unset, .unset, .unset, .unset, .unset, .unset, .unset, .unset, .unset, .unset, .unset, .unset, .unset, .unset, .unset, .unset, .unset] := ⟨_, rfl⟩
    refine own_step (fun _ k => XS.istore X0.here hx rfl (hb hby at_24) rfl (l' := A8) (by rw [hA6, hA8]; exact rfl) k) ?_
    show own_Ends p e below F (s₁.setTop (mkF m 26 A8 []))
    have ht : v7 = 0 ∨ v7 = 1 := own_t01 ev7
    have it := own_I0 ht
    have it1 := own_I1 ht
    have it2 := own_I2 ht
    refine own_step (fun _ k => XS.bipush X0.here hx rfl (hb hby at_26) k) ?_
    show own_Ends p e below F (s₁.setTop (mkF m 28 A8 [(.int (10 : Int32))]))
    obtain ⟨T9, h9, k9, X9, e9, E9, A9, st9⟩ := newP X0 hx hZ (own_g hw 0 rfl) e0 (g := (mkF m 28 A8 [(.int (10 : Int32))])) rfl (hb hby at_28) rfl (by decide) (cap := 10) (by decide) (by decide) (by decide) (by decide)
    obtain ⟨a9, g9⟩ : ∃ z, z = h0.size := ⟨_, rfl⟩
    rw [← g9] at A9 st9
    have ge_a9 : n0 ≤ a9 := Nat.le_trans Z0 (Nat.le_of_eq g9.symm)
    have sz_a9 : h0.size ≤ a9 := Nat.le_trans (Nat.le_refl h0.size) (Nat.le_of_eq g9.symm)
    have Z9 : n0 ≤ h9.size := Nat.le_trans Z0 E9.1
    have SZ9 : h0.size ≤ h9.size := Nat.le_trans (Nat.le_refl h0.size) E9.1
    have G9 := own_Ai.new A9 (by decide)
    refine own_step st9 ?_
    show own_Ends p e below F (T9.setTop (mkF m 30 A8 [(.ref a9)]))
    obtain ⟨A10, hA10⟩ : ∃ z : Array Slot, z = #[.val (.int p1), .val (.long wa), .second, .val (.long wb), .second, .val (.int p4), .val (.int p5), .val (.int p6), .val (.int z3), .val (.int v7), .val (.ref a9), .unset, .unset, .unset, .unset, .unset, .unset, .unset, .unset, .unset, .unset, .unset, .unset, .unset, .unset, .unset, .unset] := ⟨_, rfl⟩
    refine own_step (fun _ k => XS.astore X9.here hx rfl (hb hby at_30) rfl rfl (l' := A10) (by rw [hA8, hA10]; exact rfl) k) ?_
    show own_Ends p e below F (T9.setTop (mkF m 32 A10 []))
    refine own_step (fun _ k => XS.iconst X9.here hx rfl (hb hby at_32) k) ?_
    show own_Ends p e below F (T9.setTop (mkF m 33 A10 [(.int (2 : Int32))]))
    obtain ⟨T11, h11, k11, X11, e11, E11, A11, st11⟩ := newP X9 hx hZ (own_g hw 1 rfl) e9 (g := (mkF m 33 A10 [(.int (2 : Int32))])) rfl (hb hby at_33) rfl (by decide) (cap := 2) (by decide) (by decide) (by decide) (by decide)
    obtain ⟨a11, g11⟩ : ∃ z, z = h9.size := ⟨_, rfl⟩
    rw [← g11] at A11 st11
    have ge_a11 : n0 ≤ a11 := Nat.le_trans Z9 (Nat.le_of_eq g11.symm)
    have sz_a11 : h0.size ≤ a11 := Nat.le_trans SZ9 (Nat.le_of_eq g11.symm)
    have ne_a9_a11 : a9 ≠ a11 := Nat.ne_of_lt (by rw [g11]; exact G9.lt)
    have Z11 : n0 ≤ h11.size := Nat.le_trans Z9 E11.1
    have SZ11 : h0.size ≤ h11.size := Nat.le_trans SZ9 E11.1
    have V11 : Arv Z h11 a11 k11 .long (2 : Int32) [(.long (0 : Int64)), (.long (0 : Int64))] (.long (0 : Int64)) := Arv.pad (Arv.new A11 (by decide)) (pad_rep [] _ 2)
    refine own_step st11 ?_
    show own_Ends p e below F (T11.setTop (mkF m 35 A10 [(.ref a11)]))
    refine own_step (fun _ k => XS.dup X11.here hx rfl (hb hby at_35) rfl rfl k) ?_
    show own_Ends p e below F (T11.setTop (mkF m 36 A10 [(.ref a11), (.ref a11)]))
    refine own_step (fun _ k => XS.iconst X11.here hx rfl (hb hby at_36) k) ?_
    show own_Ends p e below F (T11.setTop (mkF m 37 A10 [(.int (0 : Int32)), (.ref a11), (.ref a11)]))
    refine own_step (fun _ k => XS.lloadN X11.here hx rfl (hb hby at_37) (by rw [hA10]; rfl) k) ?_
    show own_Ends p e below F (T11.setTop (mkF m 38 A10 [(.long wa), (.int (0 : Int32)), (.ref a11), (.ref a11)]))
    obtain ⟨cl12, Ar12, q12, S12, M12, H12, G12⟩ := id V11
    have hin12 : ¬ ((0 : Int32) < 0 ∨ cl12.slots.size ≤ ((0 : Int32) : Int32).toNatClampNeg) := inb_of S12 ⟨by decide, by decide⟩
    obtain ⟨T12, h12, X12, e12, W12, st12⟩ := stJ X11 hx hZ e11 Ar12 (j := (0 : Int32)) hin12 (g := (mkF m 38 A10 [(.long wa), (.int (0 : Int32)), (.ref a11), (.ref a11)])) rfl rfl (hb hby at_38)
    have V12 := Arv.set Ar12 q12 S12 M12 H12 G12 rfl W12 0 rfl (Nat.le_of_ble_eq_true rfl)
    have V12 : Arv Z h12 a11 k11 .long (2 : Int32) [(.long wa), (.long (0 : Int64))] (.long (0 : Int64)) := V12
    refine own_step st12 ?_
    have N12 := Fr.snoc X12 N0 ge_a11
    have Z12 : n0 ≤ h12.size := by rw [W12.size]; exact Z11
    have SZ12 : h0.size ≤ h12.size := by rw [W12.size]; exact SZ11
    show own_Ends p e below F (T12.setTop (mkF m 39 A10 [(.ref a11)]))
    refine own_step (fun _ k => XS.dup X12.here hx rfl (hb hby at_39) rfl rfl k) ?_
    show own_Ends p e below F (T12.setTop (mkF m 40 A10 [(.ref a11), (.ref a11)]))
    refine own_step (fun _ k => XS.iconst X12.here hx rfl (hb hby at_40) k) ?_
    show own_Ends p e below F (T12.setTop (mkF m 41 A10 [(.int (1 : Int32)), (.ref a11), (.ref a11)]))
    refine own_step (fun _ k => XS.lloadN X12.here hx rfl (hb hby at_41) (by rw [hA10]; rfl) k) ?_
    show own_Ends p e below F (T12.setTop (mkF m 42 A10 [(.long wb), (.int (1 : Int32)), (.ref a11), (.ref a11)]))
    obtain ⟨cl13, Ar13, q13, S13, M13, H13, G13⟩ := id V12
    have hin13 : ¬ ((1 : Int32) < 0 ∨ cl13.slots.size ≤ ((1 : Int32) : Int32).toNatClampNeg) := inb_of S13 ⟨by decide, by decide⟩
    obtain ⟨T13, h13, X13, e13, W13, st13⟩ := stJ X12 hx hZ e12 Ar13 (j := (1 : Int32)) hin13 (g := (mkF m 42 A10 [(.long wb), (.int (1 : Int32)), (.ref a11), (.ref a11)])) rfl rfl (hb hby at_42)
    have V13 := Arv.set Ar13 q13 S13 M13 H13 G13 rfl W13 1 rfl (Nat.le_of_ble_eq_true rfl)
    have V13 : Arv Z h13 a11 k11 .long (2 : Int32) [(.long wa), (.long wb)] (.long (0 : Int64)) := V13
    refine own_step st13 ?_
    have N13 := Fr.snoc X13 N12 ge_a11
    have Z13 : n0 ≤ h13.size := by rw [W13.size]; exact Z12
    have SZ13 : h0.size ≤ h13.size := by rw [W13.size]; exact SZ12
    show own_Ends p e below F (T13.setTop (mkF m 43 A10 [(.ref a11)]))
    obtain ⟨A14, hA14⟩ : ∃ z : Array Slot, z = #[.val (.int p1), .val (.long wa), .second, .val (.long wb), .second, .val (.int p4), .val (.int p5), .val (.int p6), .val (.int z3), .val (.int v7), .val (.ref a9), .val (.ref a11), .unset, .unset, .unset, .unset, .unset, .unset, .unset, .unset, .unset, .unset, .unset, .unset, .unset, .unset, .unset] := ⟨_, rfl⟩
    refine own_step (fun _ k => XS.astore X13.here hx rfl (hb hby at_43) rfl rfl (l' := A14) (by rw [hA10, hA14]; exact rfl) k) ?_
    show own_Ends p e below F (T13.setTop (mkF m 45 A14 []))
    refine own_step (fun _ k => XS.aload X13.here hx rfl (hb hby at_45) (by rw [hA14]; rfl) rfl k) ?_
    show own_Ends p e below F (T13.setTop (mkF m 47 A14 [(.ref a9)]))
    refine own_step (fun _ k => XS.iconst X13.here hx rfl (hb hby at_47) k) ?_
    show own_Ends p e below F (T13.setTop (mkF m 48 A14 [(.int (0 : Int32)), (.ref a9)]))
    refine own_step (fun _ k => XS.iload X13.here hx rfl (hb hby at_48) (by rw [hA14]; rfl) k) ?_
    show own_Ends p e below F (T13.setTop (mkF m 50 A14 [(.int z3), (.int (0 : Int32)), (.ref a9)]))
    refine own_step (fun _ k => XS.bipush X13.here hx rfl (hb hby at_50) k) ?_
    show own_Ends p e below F (T13.setTop (mkF m 52 A14 [(.int (25 : Int32)), (.int z3), (.int (0 : Int32)), (.ref a9)]))
    refine own_step (fun _ k => XS.ixor X13.here hx rfl (hb hby at_52) rfl k) ?_
    show own_Ends p e below F (T13.setTop (mkF m 53 A14 [(.int (z3 ^^^ (25 : Int32))), (.int (0 : Int32)), (.ref a9)]))
    obtain ⟨cl15, Ar15, S15, G15⟩ := id (((G9.ext E11).other W12 ne_a9_a11).other W13 ne_a9_a11)
    have hin15 := own_inb (c := cl15) (j := (0 : Int32)) S15 ⟨by decide, by decide⟩
    obtain ⟨T15, h15, X15, e15, W15, st15⟩ := stI X13 hx hZ e13 Ar15 (j := (0 : Int32)) hin15 (g := (mkF m 53 A14 [(.int (z3 ^^^ (25 : Int32))), (.int (0 : Int32)), (.ref a9)])) rfl rfl (hb hby at_53)
    have G15 := own_Ai.set ⟨cl15, Ar15, S15, G15⟩ W15
    refine own_step st15 ?_
    have N15 := Fr.snoc X15 N13 ge_a9
    have Z15 : n0 ≤ h15.size := by rw [W15.size]; exact Z13
    have SZ15 : h0.size ≤ h15.size := by rw [W15.size]; exact SZ13
    show own_Ends p e below F (T15.setTop (mkF m 54 A14 []))
    refine own_step (fun _ k => XS.aload X15.here hx rfl (hb hby at_54) (by rw [hA14]; rfl) rfl k) ?_
    show own_Ends p e below F (T15.setTop (mkF m 56 A14 [(.ref a9)]))
    refine own_step (fun _ k => XS.iload X15.here hx rfl (hb hby at_56) (by rw [hA14]; rfl) k) ?_
    show own_Ends p e below F (T15.setTop (mkF m 58 A14 [(.int v7), (.ref a9)]))
    refine own_step (fun _ k => XS.iload X15.here hx rfl (hb hby at_58) (by rw [hA14]; rfl) k) ?_
    show own_Ends p e below F (T15.setTop (mkF m 60 A14 [(.int z3), (.int v7), (.ref a9)]))
    obtain ⟨cl16, Ar16, S16, G16⟩ := id G15
    have hin16 := own_inb (c := cl16) (j := v7) S16 it
    obtain ⟨T16, h16, X16, e16, W16, st16⟩ := stI X15 hx hZ e15 Ar16 (j := v7) hin16 (g := (mkF m 60 A14 [(.int z3), (.int v7), (.ref a9)])) rfl rfl (hb hby at_60)
    have G16 := own_Ai.set ⟨cl16, Ar16, S16, G16⟩ W16
    refine own_step st16 ?_
    have N16 := Fr.snoc X16 N15 ge_a9
    have Z16 : n0 ≤ h16.size := by rw [W16.size]; exact Z15
    have SZ16 : h0.size ≤ h16.size := by rw [W16.size]; exact SZ15
    show own_Ends p e below F (T16.setTop (mkF m 61 A14 []))
    refine own_step (fun _ k => XS.aload X16.here hx rfl (hb hby at_61) (by rw [hA14]; rfl) rfl k) ?_
    show own_Ends p e below F (T16.setTop (mkF m 63 A14 [(.ref a9)]))
    refine own_step (fun _ k => XS.iload X16.here hx rfl (hb hby at_63) (by rw [hA14]; rfl) k) ?_
    show own_Ends p e below F (T16.setTop (mkF m 65 A14 [(.int v7), (.ref a9)]))
    refine own_step (fun _ k => XS.iconst X16.here hx rfl (hb hby at_65) k) ?_
    show own_Ends p e below F (T16.setTop (mkF m 66 A14 [(.int (1 : Int32)), (.int v7), (.ref a9)]))
    refine own_step (fun _ k => XS.iadd X16.here hx rfl (hb hby at_66) rfl k) ?_
    show own_Ends p e below F (T16.setTop (mkF m 67 A14 [(.int (v7 + (1 : Int32))), (.ref a9)]))
    refine own_step (fun _ k => XS.iload X16.here hx rfl (hb hby at_67) (by rw [hA14]; rfl) k) ?_
    show own_Ends p e below F (T16.setTop (mkF m 69 A14 [(.int p5), (.int (v7 + (1 : Int32))), (.ref a9)]))
    obtain ⟨cl17, Ar17, S17, G17⟩ := id G16
    have hin17 := own_inb (c := cl17) (j := (v7 + (1 : Int32))) S17 it1
    obtain ⟨T17, h17, X17, e17, W17, st17⟩ := stI X16 hx hZ e16 Ar17 (j := (v7 + (1 : Int32))) hin17 (g := (mkF m 69 A14 [(.int p5), (.int (v7 + (1 : Int32))), (.ref a9)])) rfl rfl (hb hby at_69)
    have G17 := own_Ai.set ⟨cl17, Ar17, S17, G17⟩ W17
    obtain ⟨g17, eg17⟩ : ∃ z : Nat → Int32, z = (own_upd (own_upd (own_upd (fun _ => (0 : Int32)) (0 : Int32).toNatClampNeg (z3 ^^^ (25 : Int32))) v7.toNatClampNeg z3) (v7 + (1 : Int32)).toNatClampNeg p5) := ⟨_, rfl⟩
    rw [← eg17] at G17
    refine own_step st17 ?_
    have N17 := Fr.snoc X17 N16 ge_a9
    have Z17 : n0 ≤ h17.size := by rw [W17.size]; exact Z16
    have SZ17 : h0.size ≤ h17.size := by rw [W17.size]; exact SZ16
    show own_Ends p e below F (T17.setTop (mkF m 70 A14 []))
    refine own_step (fun _ k => XS.iload X17.here hx rfl (hb hby at_70) (by rw [hA14]; rfl) k) ?_
    show own_Ends p e below F (T17.setTop (mkF m 72 A14 [(.int v7)]))
    refine own_step (fun _ k => XS.iconst X17.here hx rfl (hb hby at_72) k) ?_
    show own_Ends p e below F (T17.setTop (mkF m 73 A14 [(.int (2 : Int32)), (.int v7)]))
    refine own_step (fun _ k => XS.iadd X17.here hx rfl (hb hby at_73) rfl k) ?_
    show own_Ends p e below F (T17.setTop (mkF m 74 A14 [(.int (v7 + (2 : Int32)))]))
    obtain ⟨v18, ev18⟩ : ∃ z : Int32, z = (v7 + (2 : Int32)) := ⟨_, rfl⟩
    rw [← ev18]
    show own_Ends p e below F (T17.setTop (mkF m 74 A14 [(.int v18)]))
    obtain ⟨A19, hA19⟩ : ∃ z : Array Slot, z = #[.val (.int p1), .val (.long wa), .second, .val (.long wb), .second, .val (.int p4), .val (.int p5), .val (.int p6), .val (.int z3), .val (.int v7), .val (.ref a9), .val (.ref a11), .val (.int v18), .unset, .unset, .unset, .unset, .unset, .unset, .unset, .unset, .unset, .unset, .unset, .unset, .unset, .unset] := ⟨_, rfl⟩
    refine own_step (fun _ k => XS.istore X17.here hx rfl (hb hby at_74) rfl (l' := A19) (by rw [hA14, hA19]; exact rfl) k) ?_
    show own_Ends p e below F (T17.setTop (mkF m 76 A19 []))
    refine own_step (fun _ k => XS.iload X17.here hx rfl (hb hby at_76) (by rw [hA19]; rfl) k) ?_
    show own_Ends p e below F (T17.setTop (mkF m 78 A19 [(.int p5)]))
    refine own_step (fun _ k => XS.bipush X17.here hx rfl (hb hby at_78) k) ?_
    show own_Ends p e below F (T17.setTop (mkF m 80 A19 [(.int (127 : Int32)), (.int p5)]))
    refine own_step (fun _ k => XS.iand X17.here hx rfl (hb hby at_80) rfl k) ?_
    show own_Ends p e below F (T17.setTop (mkF m 81 A19 [(.int (p5 &&& (127 : Int32)))]))
    obtain ⟨v20, ev20⟩ : ∃ z : Int32, z = (p5 &&& (127 : Int32)) := ⟨_, rfl⟩
    rw [← ev20]
    show own_Ends p e below F (T17.setTop (mkF m 81 A19 [(.int v20)]))
    obtain ⟨A21, hA21⟩ : ∃ z : Array Slot, z = #[.val (.int p1), .val (.long wa), .second, .val (.long wb), .second, .val (.int p4), .val (.int p5), .val (.int p6), .val (.int z3), .val (.int v7), .val (.ref a9), .val (.ref a11), .val (.int v18), .val (.int v20), .unset, .unset, .unset, .unset, .unset, .unset, .unset, .unset, .unset, .unset, .unset, .unset, .unset] := ⟨_, rfl⟩
    refine own_step (fun _ k => XS.istore X17.here hx rfl (hb hby at_81) rfl (l' := A21) (by rw [hA19, hA21]; exact rfl) k) ?_
    show own_Ends p e below F (T17.setTop (mkF m 83 A21 []))
    refine own_step (fun _ k => XS.iload X17.here hx rfl (hb hby at_83) (by rw [hA21]; rfl) k) ?_
    show own_Ends p e below F (T17.setTop (mkF m 85 A21 [(.int p5)]))
    refine own_step (fun _ k => XS.bipush X17.here hx rfl (hb hby at_85) k) ?_
    show own_Ends p e below F (T17.setTop (mkF m 87 A21 [(.int (7 : Int32)), (.int p5)]))
    refine own_step (fun _ k => XS.iushr X17.here hx rfl (hb hby at_87) rfl k) ?_
    show own_Ends p e below F (T17.setTop (mkF m 88 A21 [(.int ((p5.toUInt32 >>> ((7 : Int32) &&& 31).toUInt32).toInt32))]))
    refine own_step (fun _ k => XS.bipush X17.here hx rfl (hb hby at_88) k) ?_
    show own_Ends p e below F (T17.setTop (mkF m 90 A21 [(.int (127 : Int32)), (.int ((p5.toUInt32 >>> ((7 : Int32) &&& 31).toUInt32).toInt32))]))
    refine own_step (fun _ k => XS.iand X17.here hx rfl (hb hby at_90) rfl k) ?_
    show own_Ends p e below F (T17.setTop (mkF m 91 A21 [(.int (((p5.toUInt32 >>> ((7 : Int32) &&& 31).toUInt32).toInt32) &&& (127 : Int32)))]))
    obtain ⟨v22, ev22⟩ : ∃ z : Int32, z = (((p5.toUInt32 >>> ((7 : Int32) &&& 31).toUInt32).toInt32) &&& (127 : Int32)) := ⟨_, rfl⟩
    rw [← ev22]
    show own_Ends p e below F (T17.setTop (mkF m 91 A21 [(.int v22)]))
    obtain ⟨A23, hA23⟩ : ∃ z : Array Slot, z = #[.val (.int p1), .val (.long wa), .second, .val (.long wb), .second, .val (.int p4), .val (.int p5), .val (.int p6), .val (.int z3), .val (.int v7), .val (.ref a9), .val (.ref a11), .val (.int v18), .val (.int v20), .val (.int v22), .unset, .unset, .unset, .unset, .unset, .unset, .unset, .unset, .unset, .unset, .unset, .unset] := ⟨_, rfl⟩
    refine own_step (fun _ k => XS.istore X17.here hx rfl (hb hby at_91) rfl (l' := A23) (by rw [hA21, hA23]; exact rfl) k) ?_
    show own_Ends p e below F (T17.setTop (mkF m 93 A23 []))
    refine own_step (fun _ k => XS.iload X17.here hx rfl (hb hby at_93) (by rw [hA23]; rfl) k) ?_
    show own_Ends p e below F (T17.setTop (mkF m 95 A23 [(.int p5)]))
    refine own_step (fun _ k => XS.bipush X17.here hx rfl (hb hby at_95) k) ?_
    show own_Ends p e below F (T17.setTop (mkF m 97 A23 [(.int (14 : Int32)), (.int p5)]))
    refine own_step (fun _ k => XS.iushr X17.here hx rfl (hb hby at_97) rfl k) ?_
    show own_Ends p e below F (T17.setTop (mkF m 98 A23 [(.int ((p5.toUInt32 >>> ((14 : Int32) &&& 31).toUInt32).toInt32))]))
    refine own_step (fun _ k => XS.bipush X17.here hx rfl (hb hby at_98) k) ?_
    show own_Ends p e below F (T17.setTop (mkF m 100 A23 [(.int (127 : Int32)), (.int ((p5.toUInt32 >>> ((14 : Int32) &&& 31).toUInt32).toInt32))]))
    refine own_step (fun _ k => XS.iand X17.here hx rfl (hb hby at_100) rfl k) ?_
    show own_Ends p e below F (T17.setTop (mkF m 101 A23 [(.int (((p5.toUInt32 >>> ((14 : Int32) &&& 31).toUInt32).toInt32) &&& (127 : Int32)))]))
    obtain ⟨v24, ev24⟩ : ∃ z : Int32, z = (((p5.toUInt32 >>> ((14 : Int32) &&& 31).toUInt32).toInt32) &&& (127 : Int32)) := ⟨_, rfl⟩
    rw [← ev24]
    show own_Ends p e below F (T17.setTop (mkF m 101 A23 [(.int v24)]))
    obtain ⟨A25, hA25⟩ : ∃ z : Array Slot, z = #[.val (.int p1), .val (.long wa), .second, .val (.long wb), .second, .val (.int p4), .val (.int p5), .val (.int p6), .val (.int z3), .val (.int v7), .val (.ref a9), .val (.ref a11), .val (.int v18), .val (.int v20), .val (.int v22), .val (.int v24), .unset, .unset, .unset, .unset, .unset, .unset, .unset, .unset, .unset, .unset, .unset] := ⟨_, rfl⟩
    refine own_step (fun _ k => XS.istore X17.here hx rfl (hb hby at_101) rfl (l' := A25) (by rw [hA23, hA25]; exact rfl) k) ?_
    show own_Ends p e below F (T17.setTop (mkF m 103 A25 []))
    refine own_step (fun _ k => XS.iload X17.here hx rfl (hb hby at_103) (by rw [hA25]; rfl) k) ?_
    show own_Ends p e below F (T17.setTop (mkF m 105 A25 [(.int p5)]))
    refine own_step (fun _ k => XS.bipush X17.here hx rfl (hb hby at_105) k) ?_
    show own_Ends p e below F (T17.setTop (mkF m 107 A25 [(.int (21 : Int32)), (.int p5)]))
    refine own_step (fun _ k => XS.iushr X17.here hx rfl (hb hby at_107) rfl k) ?_
    show own_Ends p e below F (T17.setTop (mkF m 108 A25 [(.int ((p5.toUInt32 >>> ((21 : Int32) &&& 31).toUInt32).toInt32))]))
    refine own_step (fun _ k => XS.bipush X17.here hx rfl (hb hby at_108) k) ?_
    show own_Ends p e below F (T17.setTop (mkF m 110 A25 [(.int (127 : Int32)), (.int ((p5.toUInt32 >>> ((21 : Int32) &&& 31).toUInt32).toInt32))]))
    refine own_step (fun _ k => XS.iand X17.here hx rfl (hb hby at_110) rfl k) ?_
    show own_Ends p e below F (T17.setTop (mkF m 111 A25 [(.int (((p5.toUInt32 >>> ((21 : Int32) &&& 31).toUInt32).toInt32) &&& (127 : Int32)))]))
    obtain ⟨v26, ev26⟩ : ∃ z : Int32, z = (((p5.toUInt32 >>> ((21 : Int32) &&& 31).toUInt32).toInt32) &&& (127 : Int32)) := ⟨_, rfl⟩
    rw [← ev26]
    show own_Ends p e below F (T17.setTop (mkF m 111 A25 [(.int v26)]))
    obtain ⟨A27, hA27⟩ : ∃ z : Array Slot, z = #[.val (.int p1), .val (.long wa), .second, .val (.long wb), .second, .val (.int p4), .val (.int p5), .val (.int p6), .val (.int z3), .val (.int v7), .val (.ref a9), .val (.ref a11), .val (.int v18), .val (.int v20), .val (.int v22), .val (.int v24), .val (.int v26), .unset, .unset, .unset, .unset, .unset, .unset, .unset, .unset, .unset, .unset] := ⟨_, rfl⟩
    refine own_step (fun _ k => XS.istore X17.here hx rfl (hb hby at_111) rfl (l' := A27) (by rw [hA25, hA27]; exact rfl) k) ?_
    show own_Ends p e below F (T17.setTop (mkF m 113 A27 []))
    refine own_step (fun _ k => XS.iload X17.here hx rfl (hb hby at_113) (by rw [hA27]; rfl) k) ?_
    show own_Ends p e below F (T17.setTop (mkF m 115 A27 [(.int p6)]))
    refine own_step (fun _ k => XS.sipush X17.here hx rfl (hb hby at_115) k) ?_
    show own_Ends p e below F (T17.setTop (mkF m 118 A27 [(.int (255 : Int32)), (.int p6)]))
    refine own_step (fun _ k => XS.iand X17.here hx rfl (hb hby at_118) rfl k) ?_
    show own_Ends p e below F (T17.setTop (mkF m 119 A27 [(.int (p6 &&& (255 : Int32)))]))
    obtain ⟨v28, ev28⟩ : ∃ z : Int32, z = (p6 &&& (255 : Int32)) := ⟨_, rfl⟩
    rw [← ev28]
    show own_Ends p e below F (T17.setTop (mkF m 119 A27 [(.int v28)]))
    obtain ⟨A29, hA29⟩ : ∃ z : Array Slot, z = #[.val (.int p1), .val (.long wa), .second, .val (.long wb), .second, .val (.int p4), .val (.int p5), .val (.int p6), .val (.int z3), .val (.int v7), .val (.ref a9), .val (.ref a11), .val (.int v18), .val (.int v20), .val (.int v22), .val (.int v24), .val (.int v26), .val (.int v28), .unset, .unset, .unset, .unset, .unset, .unset, .unset, .unset, .unset] := ⟨_, rfl⟩
    refine own_step (fun _ k => XS.istore X17.here hx rfl (hb hby at_119) rfl (l' := A29) (by rw [hA27, hA29]; exact rfl) k) ?_
    show own_Ends p e below F (T17.setTop (mkF m 121 A29 []))
    refine own_step (fun _ k => XS.iload X17.here hx rfl (hb hby at_121) (by rw [hA29]; rfl) k) ?_
    show own_Ends p e below F (T17.setTop (mkF m 123 A29 [(.int p6)]))
    refine own_step (fun _ k => XS.bipush X17.here hx rfl (hb hby at_123) k) ?_
    show own_Ends p e below F (T17.setTop (mkF m 125 A29 [(.int (8 : Int32)), (.int p6)]))
    refine own_step (fun _ k => XS.iushr X17.here hx rfl (hb hby at_125) rfl k) ?_
    show own_Ends p e below F (T17.setTop (mkF m 126 A29 [(.int ((p6.toUInt32 >>> ((8 : Int32) &&& 31).toUInt32).toInt32))]))
    refine own_step (fun _ k => XS.sipush X17.here hx rfl (hb hby at_126) k) ?_
    show own_Ends p e below F (T17.setTop (mkF m 129 A29 [(.int (255 : Int32)), (.int ((p6.toUInt32 >>> ((8 : Int32) &&& 31).toUInt32).toInt32))]))
    refine own_step (fun _ k => XS.iand X17.here hx rfl (hb hby at_129) rfl k) ?_
    show own_Ends p e below F (T17.setTop (mkF m 130 A29 [(.int (((p6.toUInt32 >>> ((8 : Int32) &&& 31).toUInt32).toInt32) &&& (255 : Int32)))]))
    obtain ⟨v30, ev30⟩ : ∃ z : Int32, z = (((p6.toUInt32 >>> ((8 : Int32) &&& 31).toUInt32).toInt32) &&& (255 : Int32)) := ⟨_, rfl⟩
    rw [← ev30]
    show own_Ends p e below F (T17.setTop (mkF m 130 A29 [(.int v30)]))
    obtain ⟨A31, hA31⟩ : ∃ z : Array Slot, z = #[.val (.int p1), .val (.long wa), .second, .val (.long wb), .second, .val (.int p4), .val (.int p5), .val (.int p6), .val (.int z3), .val (.int v7), .val (.ref a9), .val (.ref a11), .val (.int v18), .val (.int v20), .val (.int v22), .val (.int v24), .val (.int v26), .val (.int v28), .val (.int v30), .unset, .unset, .unset, .unset, .unset, .unset, .unset, .unset] := ⟨_, rfl⟩
    refine own_step (fun _ k => XS.istore X17.here hx rfl (hb hby at_130) rfl (l' := A31) (by rw [hA29, hA31]; exact rfl) k) ?_
    show own_Ends p e below F (T17.setTop (mkF m 132 A31 []))
    refine own_step (fun _ k => XS.iload X17.here hx rfl (hb hby at_132) (by rw [hA31]; rfl) k) ?_
    show own_Ends p e below F (T17.setTop (mkF m 134 A31 [(.int p6)]))
    refine own_step (fun _ k => XS.bipush X17.here hx rfl (hb hby at_134) k) ?_
    show own_Ends p e below F (T17.setTop (mkF m 136 A31 [(.int (16 : Int32)), (.int p6)]))
    refine own_step (fun _ k => XS.iushr X17.here hx rfl (hb hby at_136) rfl k) ?_
    show own_Ends p e below F (T17.setTop (mkF m 137 A31 [(.int ((p6.toUInt32 >>> ((16 : Int32) &&& 31).toUInt32).toInt32))]))
    refine own_step (fun _ k => XS.sipush X17.here hx rfl (hb hby at_137) k) ?_
    show own_Ends p e below F (T17.setTop (mkF m 140 A31 [(.int (255 : Int32)), (.int ((p6.toUInt32 >>> ((16 : Int32) &&& 31).toUInt32).toInt32))]))
    refine own_step (fun _ k => XS.iand X17.here hx rfl (hb hby at_140) rfl k) ?_
    show own_Ends p e below F (T17.setTop (mkF m 141 A31 [(.int (((p6.toUInt32 >>> ((16 : Int32) &&& 31).toUInt32).toInt32) &&& (255 : Int32)))]))
    obtain ⟨v32, ev32⟩ : ∃ z : Int32, z = (((p6.toUInt32 >>> ((16 : Int32) &&& 31).toUInt32).toInt32) &&& (255 : Int32)) := ⟨_, rfl⟩
    rw [← ev32]
    show own_Ends p e below F (T17.setTop (mkF m 141 A31 [(.int v32)]))
    obtain ⟨A33, hA33⟩ : ∃ z : Array Slot, z = #[.val (.int p1), .val (.long wa), .second, .val (.long wb), .second, .val (.int p4), .val (.int p5), .val (.int p6), .val (.int z3), .val (.int v7), .val (.ref a9), .val (.ref a11), .val (.int v18), .val (.int v20), .val (.int v22), .val (.int v24), .val (.int v26), .val (.int v28), .val (.int v30), .val (.int v32), .unset, .unset, .unset, .unset, .unset, .unset, .unset] := ⟨_, rfl⟩
    refine own_step (fun _ k => XS.istore X17.here hx rfl (hb hby at_141) rfl (l' := A33) (by rw [hA31, hA33]; exact rfl) k) ?_
    show own_Ends p e below F (T17.setTop (mkF m 143 A33 []))
    refine own_step (fun _ k => XS.iload X17.here hx rfl (hb hby at_143) (by rw [hA33]; rfl) k) ?_
    show own_Ends p e below F (T17.setTop (mkF m 145 A33 [(.int p6)]))
    refine own_step (fun _ k => XS.bipush X17.here hx rfl (hb hby at_145) k) ?_
    show own_Ends p e below F (T17.setTop (mkF m 147 A33 [(.int (24 : Int32)), (.int p6)]))
    refine own_step (fun _ k => XS.iushr X17.here hx rfl (hb hby at_147) rfl k) ?_
    show own_Ends p e below F (T17.setTop (mkF m 148 A33 [(.int ((p6.toUInt32 >>> ((24 : Int32) &&& 31).toUInt32).toInt32))]))
    refine own_step (fun _ k => XS.sipush X17.here hx rfl (hb hby at_148) k) ?_
    show own_Ends p e below F (T17.setTop (mkF m 151 A33 [(.int (255 : Int32)), (.int ((p6.toUInt32 >>> ((24 : Int32) &&& 31).toUInt32).toInt32))]))
    refine own_step (fun _ k => XS.iand X17.here hx rfl (hb hby at_151) rfl k) ?_
    show own_Ends p e below F (T17.setTop (mkF m 152 A33 [(.int (((p6.toUInt32 >>> ((24 : Int32) &&& 31).toUInt32).toInt32) &&& (255 : Int32)))]))
    obtain ⟨v34, ev34⟩ : ∃ z : Int32, z = (((p6.toUInt32 >>> ((24 : Int32) &&& 31).toUInt32).toInt32) &&& (255 : Int32)) := ⟨_, rfl⟩
    rw [← ev34]
    show own_Ends p e below F (T17.setTop (mkF m 152 A33 [(.int v34)]))
    obtain ⟨A35, hA35⟩ : ∃ z : Array Slot, z = #[.val (.int p1), .val (.long wa), .second, .val (.long wb), .second, .val (.int p4), .val (.int p5), .val (.int p6), .val (.int z3), .val (.int v7), .val (.ref a9), .val (.ref a11), .val (.int v18), .val (.int v20), .val (.int v22), .val (.int v24), .val (.int v26), .val (.int v28), .val (.int v30), .val (.int v32), .val (.int v34), .unset, .unset, .unset, .unset, .unset, .unset] := ⟨_, rfl⟩
    refine own_step (fun _ k => XS.istore X17.here hx rfl (hb hby at_152) rfl (l' := A35) (by rw [hA33, hA35]; exact rfl) k) ?_
    show own_Ends p e below F (T17.setTop (mkF m 154 A35 []))
    refine own_step (fun _ k => XS.iload X17.here hx rfl (hb hby at_154) (by rw [hA35]; rfl) k) ?_
    show own_Ends p e below F (T17.setTop (mkF m 156 A35 [(.int p4)]))
    refine own_step (fun _ k => XS.iconst X17.here hx rfl (hb hby at_156) k) ?_
    show own_Ends p e below F (T17.setTop (mkF m 157 A35 [(.int (3 : Int32)), (.int p4)]))
    refine own_step (fun _ k => XS.iand X17.here hx rfl (hb hby at_157) rfl k) ?_
    show own_Ends p e below F (T17.setTop (mkF m 158 A35 [(.int (p4 &&& (3 : Int32)))]))
    refine own_step (fun _ k => XS.iconst X17.here hx rfl (hb hby at_158) k) ?_
    show own_Ends p e below F (T17.setTop (mkF m 159 A35 [(.int (3 : Int32)), (.int (p4 &&& (3 : Int32)))]))
    refine own_step (fun _ k => iremM (below := below) X17 hx rfl (hb hby at_159) rfl (by decide) k) ?_
    show own_Ends p e below F (T17.setTop (mkF m 160 A35 [(.int ((p4 &&& (3 : Int32)) % (3 : Int32)))]))
    obtain ⟨v36, ev36⟩ : ∃ z : Int32, z = ((p4 &&& (3 : Int32)) % (3 : Int32)) := ⟨_, rfl⟩
    rw [← ev36]
    show own_Ends p e below F (T17.setTop (mkF m 160 A35 [(.int v36)]))
    obtain ⟨A37, hA37⟩ : ∃ z : Array Slot, z = #[.val (.int p1), .val (.long wa), .second, .val (.long wb), .second, .val (.int p4), .val (.int p5), .val (.int p6), .val (.int z3), .val (.int v7), .val (.ref a9), .val (.ref a11), .val (.int v18), .val (.int v20), .val (.int v22), .val (.int v24), .val (.int v26), .val (.int v28), .val (.int v30), .val (.int v32), .val (.int v34), .val (.int v36), .unset, .unset, .unset, .unset, .unset] := ⟨_, rfl⟩
    refine own_step (fun _ k => XS.istore X17.here hx rfl (hb hby at_160) rfl (l' := A37) (by rw [hA35, hA37]; exact rfl) k) ?_
    show own_Ends p e below F (T17.setTop (mkF m 162 A37 []))
    refine own_step (fun _ k => XS.iload X17.here hx rfl (hb hby at_162) (by rw [hA37]; rfl) k) ?_
    show own_Ends p e below F (T17.setTop (mkF m 164 A37 [(.int p4)]))
    refine own_step (fun _ k => XS.iconst X17.here hx rfl (hb hby at_164) k) ?_
    show own_Ends p e below F (T17.setTop (mkF m 165 A37 [(.int (2 : Int32)), (.int p4)]))
    refine own_step (fun _ k => XS.iushr X17.here hx rfl (hb hby at_165) rfl k) ?_
    show own_Ends p e below F (T17.setTop (mkF m 166 A37 [(.int ((p4.toUInt32 >>> ((2 : Int32) &&& 31).toUInt32).toInt32))]))
    refine own_step (fun _ k => XS.iconst X17.here hx rfl (hb hby at_166) k) ?_
    show own_Ends p e below F (T17.setTop (mkF m 167 A37 [(.int (3 : Int32)), (.int ((p4.toUInt32 >>> ((2 : Int32) &&& 31).toUInt32).toInt32))]))
    refine own_step (fun _ k => XS.iand X17.here hx rfl (hb hby at_167) rfl k) ?_
    show own_Ends p e below F (T17.setTop (mkF m 168 A37 [(.int (((p4.toUInt32 >>> ((2 : Int32) &&& 31).toUInt32).toInt32) &&& (3 : Int32)))]))
    refine own_step (fun _ k => XS.iconst X17.here hx rfl (hb hby at_168) k) ?_
    show own_Ends p e below F (T17.setTop (mkF m 169 A37 [(.int (3 : Int32)), (.int (((p4.toUInt32 >>> ((2 : Int32) &&& 31).toUInt32).toInt32) &&& (3 : Int32)))]))
    refine own_step (fun _ k => iremM (below := below) X17 hx rfl (hb hby at_169) rfl (by decide) k) ?_
    show own_Ends p e below F (T17.setTop (mkF m 170 A37 [(.int ((((p4.toUInt32 >>> ((2 : Int32) &&& 31).toUInt32).toInt32) &&& (3 : Int32)) % (3 : Int32)))]))
    obtain ⟨v38, ev38⟩ : ∃ z : Int32, z = ((((p4.toUInt32 >>> ((2 : Int32) &&& 31).toUInt32).toInt32) &&& (3 : Int32)) % (3 : Int32)) := ⟨_, rfl⟩
    rw [← ev38]
    show own_Ends p e below F (T17.setTop (mkF m 170 A37 [(.int v38)]))
    obtain ⟨A39, hA39⟩ : ∃ z : Array Slot, z = #[.val (.int p1), .val (.long wa), .second, .val (.long wb), .second, .val (.int p4), .val (.int p5), .val (.int p6), .val (.int z3), .val (.int v7), .val (.ref a9), .val (.ref a11), .val (.int v18), .val (.int v20), .val (.int v22), .val (.int v24), .val (.int v26), .val (.int v28), .val (.int v30), .val (.int v32), .val (.int v34), .val (.int v36), .val (.int v38), .unset, .unset, .unset, .unset] := ⟨_, rfl⟩
    refine own_step (fun _ k => XS.istore X17.here hx rfl (hb hby at_170) rfl (l' := A39) (by rw [hA37, hA39]; exact rfl) k) ?_
    show own_Ends p e below F (T17.setTop (mkF m 172 A39 []))
    refine own_step (fun _ k => XS.iload X17.here hx rfl (hb hby at_172) (by rw [hA39]; rfl) k) ?_
    show own_Ends p e below F (T17.setTop (mkF m 174 A39 [(.int p4)]))
    refine own_step (fun _ k => XS.iconst X17.here hx rfl (hb hby at_174) k) ?_
    show own_Ends p e below F (T17.setTop (mkF m 175 A39 [(.int (3 : Int32)), (.int p4)]))
    refine own_step (fun _ k => XS.iand X17.here hx rfl (hb hby at_175) rfl k) ?_
    show own_Ends p e below F (T17.setTop (mkF m 176 A39 [(.int (p4 &&& (3 : Int32)))]))
    obtain ⟨v40, ev40⟩ : ∃ z : Int32, z = (p4 &&& (3 : Int32)) := ⟨_, rfl⟩
    rw [← ev40]
    show own_Ends p e below F (T17.setTop (mkF m 176 A39 [(.int v40)]))
    obtain ⟨A41, hA41⟩ : ∃ z : Array Slot, z = #[.val (.int p1), .val (.long wa), .second, .val (.long wb), .second, .val (.int p4), .val (.int p5), .val (.int p6), .val (.int z3), .val (.int v7), .val (.ref a9), .val (.ref a11), .val (.int v18), .val (.int v20), .val (.int v22), .val (.int v24), .val (.int v26), .val (.int v28), .val (.int v30), .val (.int v32), .val (.int v34), .val (.int v36), .val (.int v38), .val (.int v40), .unset, .unset, .unset] := ⟨_, rfl⟩
    refine own_step (fun _ k => XS.istore X17.here hx rfl (hb hby at_176) rfl (l' := A41) (by rw [hA39, hA41]; exact rfl) k) ?_
    show own_Ends p e below F (T17.setTop (mkF m 178 A41 []))
    have hdc := own_d3 ev36
    have hrc := own_d3 ev38
    have hec := own_e4 ev40
    have r13 := own_R127 ev20
    have r14 := own_R127 ev22
    have r15 := own_R127 ev24
    have r16 := own_R127 ev26
    have r17 := own_Ru ev28
    have r18 := own_Ru ev30
    have r19 := own_Ru ev32
    refine own_step (fun _ k => XS.iload X17.here hx rfl (hb hby at_178) (by rw [hA41]; rfl) k) ?_
    show own_Ends p e below F (T17.setTop (mkF m 180 A41 [(.int z3)]))
    refine own_step (fun _ k => XS.bipush X17.here hx rfl (hb hby at_180) k) ?_
    show own_Ends p e below F (T17.setTop (mkF m 182 A41 [(.int (8 : Int32)), (.int z3)]))
    refine own_step (fun _ k => XS.iand X17.here hx rfl (hb hby at_182) rfl k) ?_
    show own_Ends p e below F (T17.setTop (mkF m 183 A41 [(.int (z3 &&& (8 : Int32)))]))
    have J183_43 : ∀ (T44 : State) (l44 : List Loc) (h44 : Heap) (X44 : Stand p l e room_1 s m #[(.int p1), (.long wa), (.long wb), (.int p4), (.int p5), (.int p6)] below meth c T44 l44 2 12) (e44 : T44.heap = h44) (N44 : Fr n0 l44) (d42 : Slot) (g45 : Nat → Int32) (od42 : One d42) (Z44 : n0 ≤ h44.size) (SZ44 : h0.size ≤ h44.size) (eg45 : own_lay g45 v7 z3 v36 v38 v40 v20 v22 v24 v26 v28 v30 v32) (Gg45 : own_Ai Z h44 a9 10 g45) (VJ44 : Arv Z h44 a11 k11 .long (2 : Int32) [(.long wa), (.long wb)] (.long (0 : Int64))) (Spe44 : Sta Z h44 "com/example/entitlement/entitlement/service/Outcome" "PERMIT" "Lcom/example/entitlement/entitlement/service/Outcome;" (.ref pe)) (Sde44 : Sta Z h44 "com/example/entitlement/entitlement/service/Outcome" "DENY" "Lcom/example/entitlement/entitlement/service/Outcome;" (.ref de)) (Sno44 : Sta Z h44 "com/example/entitlement/entitlement/service/Outcome" "NO_MATCH" "Lcom/example/entitlement/entitlement/service/Outcome;" (.ref no)), own_Ends p e below F (T44.setTop (mkF m 329 #[.val (.int p1), .val (.long wa), .second, .val (.long wb), .second, .val (.int p4), .val (.int p5), .val (.int p6), .val (.int z3), .val (.int v7), .val (.ref a9), .val (.ref a11), .val (.int v18), .val (.int v20), .val (.int v22), .val (.int v24), .val (.int v26), .val (.int v28), .val (.int v30), .val (.int v32), .val (.int v34), .val (.int v36), .val (.int v38), .val (.int v40), d42, .unset, .unset] [])) := by
      intro T44 l44 h44 X44 e44 N44 d42 g45 od42 Z44 SZ44 eg45 Gg45 VJ44 Spe44 Sde44 Sno44
      obtain ⟨A46, hA46⟩ : ∃ z : Array Slot, z = #[.val (.int p1), .val (.long wa), .second, .val (.long wb), .second, .val (.int p4), .val (.int p5), .val (.int p6), .val (.int z3), .val (.int v7), .val (.ref a9), .val (.ref a11), .val (.int v18), .val (.int v20), .val (.int v22), .val (.int v24), .val (.int v26), .val (.int v28), .val (.int v30), .val (.int v32), .val (.int v34), .val (.int v36), .val (.int v38), .val (.int v40), d42, .unset, .unset] := ⟨_, rfl⟩
      rw [← hA46]
      show own_Ends p e below F (T44.setTop (mkF m 329 A46 []))
      refine own_step (fun _ k => XS.iload X44.here hx rfl (hb hby at_329) (by rw [hA46]; rfl) k) ?_
      show own_Ends p e below F (T44.setTop (mkF m 331 A46 [(.int z3)]))
      refine own_step (fun _ k => XS.iconst X44.here hx rfl (hb hby at_331) k) ?_
      show own_Ends p e below F (T44.setTop (mkF m 332 A46 [(.int (1 : Int32)), (.int z3)]))
      refine own_step (fun _ k => XS.iand X44.here hx rfl (hb hby at_332) rfl k) ?_
      show own_Ends p e below F (T44.setTop (mkF m 333 A46 [(.int (z3 &&& (1 : Int32)))]))
      have J333_50 : ∀ (T51 : State) (l51 : List Loc) (X51 : Stand p l e room_1 s m #[(.int p1), (.long wa), (.long wb), (.int p4), (.int p5), (.int p6)] below meth c T51 l51 2 12) (e51 : T51.heap = h44) (N51 : Fr n0 l51) (z47 : Addr) (d48 : Slot) (d49 : Slot) (hz47 : z47 = own_exp z3 v36 v38 v40 v20 v22 v24 v26 v28 v30 v32 wa wb pe de no) (od48 : One d48) (od49 : One d49), own_Ends p e below F (T51.setTop (mkF m 569 #[.val (.int p1), .val (.long wa), .second, .val (.long wb), .second, .val (.int p4), .val (.int p5), .val (.int p6), .val (.int z3), .val (.int v7), .val (.ref a9), .val (.ref a11), .val (.int v18), .val (.int v20), .val (.int v22), .val (.int v24), .val (.int v26), .val (.int v28), .val (.int v30), .val (.int v32), .val (.int v34), .val (.int v36), .val (.int v38), .val (.int v40), .val (.ref z47), d48, d49] [])) := by
        intro T51 l51 X51 e51 N51 z47 d48 d49 hz47 od48 od49
        obtain ⟨A52, hA52⟩ : ∃ z : Array Slot, z = #[.val (.int p1), .val (.long wa), .second, .val (.long wb), .second, .val (.int p4), .val (.int p5), .val (.int p6), .val (.int z3), .val (.int v7), .val (.ref a9), .val (.ref a11), .val (.int v18), .val (.int v20), .val (.int v22), .val (.int v24), .val (.int v26), .val (.int v28), .val (.int v30), .val (.int v32), .val (.int v34), .val (.int v36), .val (.int v38), .val (.int v40), .val (.ref z47), d48, d49] := ⟨_, rfl⟩
        rw [← hA52]
        show own_Ends p e below F (T51.setTop (mkF m 569 A52 []))
        refine own_step (fun _ k => XS.aload X51.here hx rfl (hb hby at_569) (by rw [hA52]; rfl) rfl k) ?_
        show own_Ends p e below F (T51.setTop (mkF m 571 A52 [(.ref a9)]))
        refine own_step (fun _ k => XS.iload X51.here hx rfl (hb hby at_571) (by rw [hA52]; rfl) k) ?_
        show own_Ends p e below F (T51.setTop (mkF m 573 A52 [(.int v7), (.ref a9)]))
        refine own_step (fun _ k => XS.aload X51.here hx rfl (hb hby at_573) (by rw [hA52]; rfl) rfl k) ?_
        show own_Ends p e below F (T51.setTop (mkF m 575 A52 [(.ref a11), (.int v7), (.ref a9)]))
        obtain ⟨_, _, ⟨T53, L53, k53, n53⟩, -, X53, ⟨Lc53, hQ53, l53, y53, z53⟩, st53⟩ := Jvm.LawKit.callS X51 hx (y := (⟨"com/example/entitlement/entitlement/service/AclCode", "own", "([II[J)Lcom/example/entitlement/entitlement/service/Outcome;"⟩ : MethodName)) hown (mvT hZ (own_g hw 5 rfl)) (mvT hZ (own_g hw 6 rfl)) (mvT hZ (own_g hw 7 rfl)) (mvT hZ (own_g hw 8 rfl)) (by decide) (backOf (W := 0) (rm1 l Z a0 hw [] a9 a11 v7 g45 k11 wa wb pe de no h44 n0 Z44 Gg45 VJ44 it it2 (own_p8 eg45 ht hdc hrc r13 r14 r15 r16) (fun q _ => own_p16 eg45 ht hec r17 r18 r19 q) Spe44 Sde44 Sno44) hZ (own_g hw 8 rfl) (own_g hw 7 rfl) (by decide) (by decide)) (g := (mkF m 575 A52 [(.ref a11), (.int v7), (.ref a9)])) rfl (by rw [hml]; show A52.size = _; rw [hA52]; rfl) (argsL := [(.ref a9), (.int v7), (.ref a11)]) (rest := []) (lenOf pd__28_5bII_5bJ_29Lcom_2fexample_2fentitlement_2fentitlement_2fservice_2fOutcome_3b rfl) rfl (by show 2 * 0 + _ ≤ _; exact Nat.le_of_eq rfl) (hb hby at_575) (fun _ _ => ⟨rfl, e51, (by decide : 2 + 0 ≤ _), (by decide : 12 + 0 ≤ _)⟩)
        dsimp only [Pt.U, Pt.locs, Pt.cells, Pt.slots] at X53 l53 y53 z53 st53 hQ53
        subst l53 y53 z53
        obtain ⟨rfl, Nq53, eq53⟩ := hQ53
        have N53 := Fr.app N51 Nq53
        refine own_step st53 ?_
        show own_Ends p e below F (T53.setTop (mkF m 578 A52 [(.ref (own_own g45 v7 wa wb pe de no))]))
        refine own_step (fun _ k => XS.aload X53.here hx rfl (hb hby at_578) (by rw [hA52]; rfl) rfl k) ?_
        show own_Ends p e below F (T53.setTop (mkF m 580 A52 [(.ref z47), (.ref (own_own g45 v7 wa wb pe de no))]))
        refine own_step (fun _ k => Jvm.RoadKit.acmp (below := below) (g := (mkF m 580 A52 [(.ref z47), (.ref (own_own g45 v7 wa wb pe de no))])) X53 hx rfl rfl rfl (pc0 := 580) (pc' := 583) (same := true) rfl (hb hby at_580) rfl (decide_eq_true (congrArg Value.ref (own_final eg45 ht hdc hrc hec hz47))) (by decide) (by decide) k) ?_
        show own_Ends p e below F (T53.setTop (mkF m 583 A52 []))
        refine own_step (fun _ k => XS.iconst X53.here hx rfl (hb hby at_583) k) ?_
        show own_Ends p e below F (T53.setTop (mkF m 584 A52 [(.int (1 : Int32))]))
        refine own_step (fun _ k => XS.goto X53.here hx rfl (pc0 := 584) (pc' := 588) rfl (hb hby at_584) (by decide) (by decide) k) ?_
        show own_Ends p e below F (T53.setTop (mkF m 588 A52 [(.int (1 : Int32))]))
        rw [hF]
        exact own_ret X53 (v := (some (.int (nar .boolean (1 : Int32))))) (fun h => by rw [Bd.returns] at h; cases h) Bd.notSynchronized (fun fs hr => retN X53 hx (t := .boolean) Bd.returns (by simp) (hb hby at_588) hr) (by decide) (by decide) (by rw [eq53]; exact ⟨rfl, N53⟩)
      by_cases c333_54 : (z3 &&& (1 : Int32)) = (0 : Int32)
      · refine own_step (fun _ k => XS.ifYes X44.here hx rfl (pc0 := 333) (pc' := 344) rfl (hb hby at_333) rfl ((if0 _ _).trans (teq c333_54).1) (by decide) (by decide) k) ?_
        show own_Ends p e below F (T44.setTop (mkF m 344 A46 []))
        refine own_step (fun _ k => XS.iload X44.here hx rfl (hb hby at_344) (by rw [hA46]; rfl) k) ?_
        show own_Ends p e below F (T44.setTop (mkF m 346 A46 [(.int z3)]))
        refine own_step (fun _ k => XS.bipush X44.here hx rfl (hb hby at_346) k) ?_
        show own_Ends p e below F (T44.setTop (mkF m 348 A46 [(.int (8 : Int32)), (.int z3)]))
        refine own_step (fun _ k => XS.iand X44.here hx rfl (hb hby at_348) rfl k) ?_
        show own_Ends p e below F (T44.setTop (mkF m 349 A46 [(.int (z3 &&& (8 : Int32)))]))
        by_cases c349_55 : (z3 &&& (8 : Int32)) = (0 : Int32)
        · refine own_step (fun _ k => XS.ifYes X44.here hx rfl (pc0 := 349) (pc' := 464) rfl (hb hby at_349) rfl ((if0 _ _).trans (teq c349_55).1) (by decide) (by decide) k) ?_
          show own_Ends p e below F (T44.setTop (mkF m 464 A46 []))
          refine own_step (fun _ k => XS.iload X44.here hx rfl (hb hby at_464) (by rw [hA46]; rfl) k) ?_
          show own_Ends p e below F (T44.setTop (mkF m 466 A46 [(.int z3)]))
          refine own_step (fun _ k => XS.bipush X44.here hx rfl (hb hby at_466) k) ?_
          show own_Ends p e below F (T44.setTop (mkF m 468 A46 [(.int (16 : Int32)), (.int z3)]))
          refine own_step (fun _ k => XS.iand X44.here hx rfl (hb hby at_468) rfl k) ?_
          show own_Ends p e below F (T44.setTop (mkF m 469 A46 [(.int (z3 &&& (16 : Int32)))]))
          by_cases c469_56 : (z3 &&& (16 : Int32)) = (0 : Int32)
          · refine own_step (fun _ k => XS.ifYes X44.here hx rfl (pc0 := 469) (pc' := 564) rfl (hb hby at_469) rfl ((if0 _ _).trans (teq c469_56).1) (by decide) (by decide) k) ?_
            show own_Ends p e below F (T44.setTop (mkF m 564 A46 []))
            obtain ⟨T57, X57, e57, st57⟩ := getS2 X44 hx hZ hown (host := "") (Or.inl (own_g hw 2 rfl)) Via.refl e44 Sno44 (g := (mkF m 564 A46 [])) rfl (hb hby at_564)
            refine own_step st57 ?_
            show own_Ends p e below F (T57.setTop (mkF m 567 A46 [(.ref no)]))
            obtain ⟨A58, hA58⟩ : ∃ z : Array Slot, z = #[.val (.int p1), .val (.long wa), .second, .val (.long wb), .second, .val (.int p4), .val (.int p5), .val (.int p6), .val (.int z3), .val (.int v7), .val (.ref a9), .val (.ref a11), .val (.int v18), .val (.int v20), .val (.int v22), .val (.int v24), .val (.int v26), .val (.int v28), .val (.int v30), .val (.int v32), .val (.int v34), .val (.int v36), .val (.int v38), .val (.int v40), .val (.ref no), .unset, .unset] := ⟨_, rfl⟩
            refine own_step (fun _ k => XS.astore X57.here hx rfl (hb hby at_567) rfl rfl (l' := A58) (by rw [hA46, hA58]; exact (XS.store1 (o := d42) rfl od42 rfl)) k) ?_
            show own_Ends p e below F (T57.setTop (mkF m 569 A58 []))
            rw [hA58]
            exact J333_50 _ _ X57 e57 N44 _ _ _ (by simp only [own_exp, c333_54, c349_55, c469_56, if_true, if_false]) One.u One.u
          · refine own_step (fun _ k => XS.ifNo X44.here hx rfl (hb hby at_469) rfl ((if0 _ _).trans (feq c469_56).1) k) ?_
            show own_Ends p e below F (T44.setTop (mkF m 472 A46 []))
            refine own_step (fun _ k => XS.iload X44.here hx rfl (hb hby at_472) (by rw [hA46]; rfl) k) ?_
            show own_Ends p e below F (T44.setTop (mkF m 474 A46 [(.int v40)]))
            refine own_step (fun _ k => XS.iconst X44.here hx rfl (hb hby at_474) k) ?_
            show own_Ends p e below F (T44.setTop (mkF m 475 A46 [(.int (1 : Int32)), (.int v40)]))
            by_cases c475_59 : v40 < (1 : Int32)
            · refine own_step (fun _ k => XS.icmpYes X44.here hx rfl (pc0 := 475) (pc' := 500) rfl (hb hby at_475) rfl (tlt c475_59).1 (by decide) (by decide) k) ?_
              show own_Ends p e below F (T44.setTop (mkF m 500 A46 []))
              refine own_step (fun _ k => XS.iload X44.here hx rfl (hb hby at_500) (by rw [hA46]; rfl) k) ?_
              show own_Ends p e below F (T44.setTop (mkF m 502 A46 [(.int v40)]))
              refine own_step (fun _ k => XS.iconst X44.here hx rfl (hb hby at_502) k) ?_
              show own_Ends p e below F (T44.setTop (mkF m 503 A46 [(.int (2 : Int32)), (.int v40)]))
              by_cases c503_60 : v40 < (2 : Int32)
              · refine own_step (fun _ k => XS.icmpYes X44.here hx rfl (pc0 := 503) (pc' := 528) rfl (hb hby at_503) rfl (tlt c503_60).1 (by decide) (by decide) k) ?_
                show own_Ends p e below F (T44.setTop (mkF m 528 A46 []))
                refine own_step (fun _ k => XS.iload X44.here hx rfl (hb hby at_528) (by rw [hA46]; rfl) k) ?_
                show own_Ends p e below F (T44.setTop (mkF m 530 A46 [(.int v40)]))
                refine own_step (fun _ k => XS.iconst X44.here hx rfl (hb hby at_530) k) ?_
                show own_Ends p e below F (T44.setTop (mkF m 531 A46 [(.int (3 : Int32)), (.int v40)]))
                by_cases c531_61 : v40 < (3 : Int32)
                · refine own_step (fun _ k => XS.icmpYes X44.here hx rfl (pc0 := 531) (pc' := 556) rfl (hb hby at_531) rfl (tlt c531_61).1 (by decide) (by decide) k) ?_
                  show own_Ends p e below F (T44.setTop (mkF m 556 A46 []))
                  obtain ⟨T62, X62, e62, st62⟩ := getS2 X44 hx hZ hown (host := "") (Or.inl (own_g hw 2 rfl)) Via.refl e44 Sno44 (g := (mkF m 556 A46 [])) rfl (hb hby at_556)
                  refine own_step st62 ?_
                  show own_Ends p e below F (T62.setTop (mkF m 559 A46 [(.ref no)]))
                  obtain ⟨A63, hA63⟩ : ∃ z : Array Slot, z = #[.val (.int p1), .val (.long wa), .second, .val (.long wb), .second, .val (.int p4), .val (.int p5), .val (.int p6), .val (.int z3), .val (.int v7), .val (.ref a9), .val (.ref a11), .val (.int v18), .val (.int v20), .val (.int v22), .val (.int v24), .val (.int v26), .val (.int v28), .val (.int v30), .val (.int v32), .val (.int v34), .val (.int v36), .val (.int v38), .val (.int v40), .val (.ref no), .unset, .unset] := ⟨_, rfl⟩
                  refine own_step (fun _ k => XS.astore X62.here hx rfl (hb hby at_559) rfl rfl (l' := A63) (by rw [hA46, hA63]; exact (XS.store1 (o := d42) rfl od42 rfl)) k) ?_
                  show own_Ends p e below F (T62.setTop (mkF m 561 A63 []))
                  refine own_step (fun _ k => XS.goto X62.here hx rfl (pc0 := 561) (pc' := 569) rfl (hb hby at_561) (by decide) (by decide) k) ?_
                  show own_Ends p e below F (T62.setTop (mkF m 569 A63 []))
                  rw [hA63]
                  exact J333_50 _ _ X62 e62 N44 _ _ _ (by simp only [own_exp, c333_54, c349_55, c469_56, c475_59, c503_60, c531_61, if_true, if_false]) One.u One.u
                · refine own_step (fun _ k => XS.icmpNo X44.here hx rfl (hb hby at_531) rfl (flt c531_61).1 k) ?_
                  show own_Ends p e below F (T44.setTop (mkF m 534 A46 []))
                  refine own_step (fun _ k => XS.lloadN X44.here hx rfl (hb hby at_534) (by rw [hA46]; rfl) k) ?_
                  show own_Ends p e below F (T44.setTop (mkF m 535 A46 [(.long wa)]))
                  refine own_step (fun _ k => XS.lloadN X44.here hx rfl (hb hby at_535) (by rw [hA46]; rfl) k) ?_
                  show own_Ends p e below F (T44.setTop (mkF m 536 A46 [(.long wb), (.long wa)]))
                  refine own_step (fun _ k => XS.iload X44.here hx rfl (hb hby at_536) (by rw [hA46]; rfl) k) ?_
                  show own_Ends p e below F (T44.setTop (mkF m 538 A46 [(.int v32), (.long wb), (.long wa)]))
                  refine own_step (fun _ k => XS.iconst X44.here hx rfl (hb hby at_538) k) ?_
                  show own_Ends p e below F (T44.setTop (mkF m 539 A46 [(.int (1 : Int32)), (.int v32), (.long wb), (.long wa)]))
                  refine own_step (fun _ k => XS.iushr X44.here hx rfl (hb hby at_539) rfl k) ?_
                  show own_Ends p e below F (T44.setTop (mkF m 540 A46 [(.int ((v32.toUInt32 >>> ((1 : Int32) &&& 31).toUInt32).toInt32)), (.long wb), (.long wa)]))
                  obtain ⟨_, _, ⟨T64, L64, k64, n64⟩, -, X64, ⟨Lc64, hQ64, l64, y64, z64⟩, st64⟩ := Jvm.LawKit.callS X44 hx (y := (⟨"com/example/entitlement/entitlement/service/AclCodeOwnPinLaw", "has", "(JJI)Z"⟩ : MethodName)) hown (mvT hZ (own_g hw 13 rfl)) (mvT hZ (own_g hw 14 rfl)) (mvT hZ (own_g hw 15 rfl)) (mvT hZ (own_g hw 16 rfl)) (by decide) (backOf (W := 0) (rm2 l Z a0 hw [] wa wb ((v32.toUInt32 >>> ((1 : Int32) &&& 31).toUInt32).toInt32) h44 n0 Z44) hZ (own_g hw 16 rfl) (own_g hw 15 rfl) (by decide) (by decide)) (g := (mkF m 540 A46 [(.int ((v32.toUInt32 >>> ((1 : Int32) &&& 31).toUInt32).toInt32)), (.long wb), (.long wa)])) rfl (by rw [hml]; show A46.size = _; rw [hA46]; rfl) (argsL := [(.long wa), (.long wb), (.int ((v32.toUInt32 >>> ((1 : Int32) &&& 31).toUInt32).toInt32))]) (rest := []) (lenOf pd__28JJI_29Z rfl) rfl (by show 2 * 0 + _ ≤ _; exact Nat.le_of_eq rfl) (hb hby at_540) (fun _ _ => ⟨rfl, e44, (by decide : 2 + 0 ≤ _), (by decide : 12 + 0 ≤ _)⟩)
                  dsimp only [Pt.U, Pt.locs, Pt.cells, Pt.slots] at X64 l64 y64 z64 st64 hQ64
                  subst l64 y64 z64
                  obtain ⟨rfl, Nq64, eq64⟩ := hQ64
                  have N64 := Fr.app N44 Nq64
                  refine own_step st64 ?_
                  show own_Ends p e below F (T64.setTop (mkF m 543 A46 [(.int (own_has wa wb ((v32.toUInt32 >>> ((1 : Int32) &&& 31).toUInt32).toInt32)))]))
                  by_cases c543_65 : (own_has wa wb ((v32.toUInt32 >>> ((1 : Int32) &&& 31).toUInt32).toInt32)) = (0 : Int32)
                  · refine own_step (fun _ k => XS.ifYes X64.here hx rfl (pc0 := 543) (pc' := 556) rfl (hb hby at_543) rfl ((if0 _ _).trans (teq c543_65).1) (by decide) (by decide) k) ?_
                    show own_Ends p e below F (T64.setTop (mkF m 556 A46 []))
                    obtain ⟨T66, X66, e66, st66⟩ := getS2 X64 hx hZ hown (host := "") (Or.inl (own_g hw 2 rfl)) Via.refl eq64 Sno44 (g := (mkF m 556 A46 [])) rfl (hb hby at_556)
                    refine own_step st66 ?_
                    show own_Ends p e below F (T66.setTop (mkF m 559 A46 [(.ref no)]))
                    obtain ⟨A67, hA67⟩ : ∃ z : Array Slot, z = #[.val (.int p1), .val (.long wa), .second, .val (.long wb), .second, .val (.int p4), .val (.int p5), .val (.int p6), .val (.int z3), .val (.int v7), .val (.ref a9), .val (.ref a11), .val (.int v18), .val (.int v20), .val (.int v22), .val (.int v24), .val (.int v26), .val (.int v28), .val (.int v30), .val (.int v32), .val (.int v34), .val (.int v36), .val (.int v38), .val (.int v40), .val (.ref no), .unset, .unset] := ⟨_, rfl⟩
                    refine own_step (fun _ k => XS.astore X66.here hx rfl (hb hby at_559) rfl rfl (l' := A67) (by rw [hA46, hA67]; exact (XS.store1 (o := d42) rfl od42 rfl)) k) ?_
                    show own_Ends p e below F (T66.setTop (mkF m 561 A67 []))
                    refine own_step (fun _ k => XS.goto X66.here hx rfl (pc0 := 561) (pc' := 569) rfl (hb hby at_561) (by decide) (by decide) k) ?_
                    show own_Ends p e below F (T66.setTop (mkF m 569 A67 []))
                    rw [hA67]
                    exact J333_50 _ _ X66 e66 N64 _ _ _ (by simp only [own_exp, c333_54, c349_55, c469_56, c475_59, c503_60, c531_61, c543_65, if_true, if_false]) One.u One.u
                  · refine own_step (fun _ k => XS.ifNo X64.here hx rfl (hb hby at_543) rfl ((if0 _ _).trans (feq c543_65).1) k) ?_
                    show own_Ends p e below F (T64.setTop (mkF m 546 A46 []))
                    refine own_step (fun _ k => XS.iload X64.here hx rfl (hb hby at_546) (by rw [hA46]; rfl) k) ?_
                    show own_Ends p e below F (T64.setTop (mkF m 548 A46 [(.int v32)]))
                    obtain ⟨_, _, ⟨T68, L68, k68, n68⟩, -, X68, ⟨Lc68, hQ68, l68, y68, z68⟩, st68⟩ := Jvm.LawKit.callS X64 hx (y := (⟨"com/example/entitlement/entitlement/service/AclCodeOwnPinLaw", "action", "(I)Lcom/example/entitlement/entitlement/service/Outcome;"⟩ : MethodName)) hown (mvT hZ (own_g hw 29 rfl)) (mvT hZ (own_g hw 30 rfl)) (mvT hZ (own_g hw 15 rfl)) (mvT hZ (own_g hw 31 rfl)) (by decide) (backOf (W := 0) (rm6 l Z a0 hw [] v32 pe de no h44 n0 Z44 Spe44 Sde44 Sno44) hZ (own_g hw 31 rfl) (own_g hw 15 rfl) (by decide) (by decide)) (g := (mkF m 548 A46 [(.int v32)])) rfl (by rw [hml]; show A46.size = _; rw [hA46]; rfl) (argsL := [(.int v32)]) (rest := []) (lenOf pd__28I_29Lcom_2fexample_2fentitlement_2fentitlement_2fservice_2fOutcome_3b rfl) rfl (by show 2 * 0 + _ ≤ _; exact Nat.le_of_eq rfl) (hb hby at_548) (fun _ _ => ⟨rfl, eq64, (by decide : 2 + 0 ≤ _), (by decide : 12 + 0 ≤ _)⟩)
                    dsimp only [Pt.U, Pt.locs, Pt.cells, Pt.slots] at X68 l68 y68 z68 st68 hQ68
                    subst l68 y68 z68
                    obtain ⟨rfl, Nq68, eq68⟩ := hQ68
                    have N68 := Fr.app N64 Nq68
                    refine own_step st68 ?_
                    show own_Ends p e below F (T68.setTop (mkF m 551 A46 [(.ref (own_act v32 pe de))]))
                    obtain ⟨A69, hA69⟩ : ∃ z : Array Slot, z = #[.val (.int p1), .val (.long wa), .second, .val (.long wb), .second, .val (.int p4), .val (.int p5), .val (.int p6), .val (.int z3), .val (.int v7), .val (.ref a9), .val (.ref a11), .val (.int v18), .val (.int v20), .val (.int v22), .val (.int v24), .val (.int v26), .val (.int v28), .val (.int v30), .val (.int v32), .val (.int v34), .val (.int v36), .val (.int v38), .val (.int v40), .val (.ref (own_act v32 pe de)), .unset, .unset] := ⟨_, rfl⟩
                    refine own_step (fun _ k => XS.astore X68.here hx rfl (hb hby at_551) rfl rfl (l' := A69) (by rw [hA46, hA69]; exact (XS.store1 (o := d42) rfl od42 rfl)) k) ?_
                    show own_Ends p e below F (T68.setTop (mkF m 553 A69 []))
                    refine own_step (fun _ k => XS.goto X68.here hx rfl (pc0 := 553) (pc' := 569) rfl (hb hby at_553) (by decide) (by decide) k) ?_
                    show own_Ends p e below F (T68.setTop (mkF m 569 A69 []))
                    rw [hA69]
                    exact J333_50 _ _ X68 eq68 N68 _ _ _ (by simp only [own_exp, c333_54, c349_55, c469_56, c475_59, c503_60, c531_61, c543_65, if_true, if_false]) One.u One.u
              · refine own_step (fun _ k => XS.icmpNo X44.here hx rfl (hb hby at_503) rfl (flt c503_60).1 k) ?_
                show own_Ends p e below F (T44.setTop (mkF m 506 A46 []))
                refine own_step (fun _ k => XS.lloadN X44.here hx rfl (hb hby at_506) (by rw [hA46]; rfl) k) ?_
                show own_Ends p e below F (T44.setTop (mkF m 507 A46 [(.long wa)]))
                refine own_step (fun _ k => XS.lloadN X44.here hx rfl (hb hby at_507) (by rw [hA46]; rfl) k) ?_
                show own_Ends p e below F (T44.setTop (mkF m 508 A46 [(.long wb), (.long wa)]))
                refine own_step (fun _ k => XS.iload X44.here hx rfl (hb hby at_508) (by rw [hA46]; rfl) k) ?_
                show own_Ends p e below F (T44.setTop (mkF m 510 A46 [(.int v30), (.long wb), (.long wa)]))
                refine own_step (fun _ k => XS.iconst X44.here hx rfl (hb hby at_510) k) ?_
                show own_Ends p e below F (T44.setTop (mkF m 511 A46 [(.int (1 : Int32)), (.int v30), (.long wb), (.long wa)]))
                refine own_step (fun _ k => XS.iushr X44.here hx rfl (hb hby at_511) rfl k) ?_
                show own_Ends p e below F (T44.setTop (mkF m 512 A46 [(.int ((v30.toUInt32 >>> ((1 : Int32) &&& 31).toUInt32).toInt32)), (.long wb), (.long wa)]))
                obtain ⟨_, _, ⟨T70, L70, k70, n70⟩, -, X70, ⟨Lc70, hQ70, l70, y70, z70⟩, st70⟩ := Jvm.LawKit.callS X44 hx (y := (⟨"com/example/entitlement/entitlement/service/AclCodeOwnPinLaw", "has", "(JJI)Z"⟩ : MethodName)) hown (mvT hZ (own_g hw 13 rfl)) (mvT hZ (own_g hw 14 rfl)) (mvT hZ (own_g hw 15 rfl)) (mvT hZ (own_g hw 16 rfl)) (by decide) (backOf (W := 0) (rm2 l Z a0 hw [] wa wb ((v30.toUInt32 >>> ((1 : Int32) &&& 31).toUInt32).toInt32) h44 n0 Z44) hZ (own_g hw 16 rfl) (own_g hw 15 rfl) (by decide) (by decide)) (g := (mkF m 512 A46 [(.int ((v30.toUInt32 >>> ((1 : Int32) &&& 31).toUInt32).toInt32)), (.long wb), (.long wa)])) rfl (by rw [hml]; show A46.size = _; rw [hA46]; rfl) (argsL := [(.long wa), (.long wb), (.int ((v30.toUInt32 >>> ((1 : Int32) &&& 31).toUInt32).toInt32))]) (rest := []) (lenOf pd__28JJI_29Z rfl) rfl (by show 2 * 0 + _ ≤ _; exact Nat.le_of_eq rfl) (hb hby at_512) (fun _ _ => ⟨rfl, e44, (by decide : 2 + 0 ≤ _), (by decide : 12 + 0 ≤ _)⟩)
                dsimp only [Pt.U, Pt.locs, Pt.cells, Pt.slots] at X70 l70 y70 z70 st70 hQ70
                subst l70 y70 z70
                obtain ⟨rfl, Nq70, eq70⟩ := hQ70
                have N70 := Fr.app N44 Nq70
                refine own_step st70 ?_
                show own_Ends p e below F (T70.setTop (mkF m 515 A46 [(.int (own_has wa wb ((v30.toUInt32 >>> ((1 : Int32) &&& 31).toUInt32).toInt32)))]))
                by_cases c515_71 : (own_has wa wb ((v30.toUInt32 >>> ((1 : Int32) &&& 31).toUInt32).toInt32)) = (0 : Int32)
                · refine own_step (fun _ k => XS.ifYes X70.here hx rfl (pc0 := 515) (pc' := 528) rfl (hb hby at_515) rfl ((if0 _ _).trans (teq c515_71).1) (by decide) (by decide) k) ?_
                  show own_Ends p e below F (T70.setTop (mkF m 528 A46 []))
                  refine own_step (fun _ k => XS.iload X70.here hx rfl (hb hby at_528) (by rw [hA46]; rfl) k) ?_
                  show own_Ends p e below F (T70.setTop (mkF m 530 A46 [(.int v40)]))
                  refine own_step (fun _ k => XS.iconst X70.here hx rfl (hb hby at_530) k) ?_
                  show own_Ends p e below F (T70.setTop (mkF m 531 A46 [(.int (3 : Int32)), (.int v40)]))
                  by_cases c531_72 : v40 < (3 : Int32)
                  · refine own_step (fun _ k => XS.icmpYes X70.here hx rfl (pc0 := 531) (pc' := 556) rfl (hb hby at_531) rfl (tlt c531_72).1 (by decide) (by decide) k) ?_
                    show own_Ends p e below F (T70.setTop (mkF m 556 A46 []))
                    obtain ⟨T73, X73, e73, st73⟩ := getS2 X70 hx hZ hown (host := "") (Or.inl (own_g hw 2 rfl)) Via.refl eq70 Sno44 (g := (mkF m 556 A46 [])) rfl (hb hby at_556)
                    refine own_step st73 ?_
                    show own_Ends p e below F (T73.setTop (mkF m 559 A46 [(.ref no)]))
                    obtain ⟨A74, hA74⟩ : ∃ z : Array Slot, z = #[.val (.int p1), .val (.long wa), .second, .val (.long wb), .second, .val (.int p4), .val (.int p5), .val (.int p6), .val (.int z3), .val (.int v7), .val (.ref a9), .val (.ref a11), .val (.int v18), .val (.int v20), .val (.int v22), .val (.int v24), .val (.int v26), .val (.int v28), .val (.int v30), .val (.int v32), .val (.int v34), .val (.int v36), .val (.int v38), .val (.int v40), .val (.ref no), .unset, .unset] := ⟨_, rfl⟩
                    refine own_step (fun _ k => XS.astore X73.here hx rfl (hb hby at_559) rfl rfl (l' := A74) (by rw [hA46, hA74]; exact (XS.store1 (o := d42) rfl od42 rfl)) k) ?_
                    show own_Ends p e below F (T73.setTop (mkF m 561 A74 []))
                    refine own_step (fun _ k => XS.goto X73.here hx rfl (pc0 := 561) (pc' := 569) rfl (hb hby at_561) (by decide) (by decide) k) ?_
                    show own_Ends p e below F (T73.setTop (mkF m 569 A74 []))
                    rw [hA74]
                    exact J333_50 _ _ X73 e73 N70 _ _ _ (by simp only [own_exp, c333_54, c349_55, c469_56, c475_59, c503_60, c515_71, c531_72, if_true, if_false]) One.u One.u
                  · refine own_step (fun _ k => XS.icmpNo X70.here hx rfl (hb hby at_531) rfl (flt c531_72).1 k) ?_
                    show own_Ends p e below F (T70.setTop (mkF m 534 A46 []))
                    refine own_step (fun _ k => XS.lloadN X70.here hx rfl (hb hby at_534) (by rw [hA46]; rfl) k) ?_
                    show own_Ends p e below F (T70.setTop (mkF m 535 A46 [(.long wa)]))
                    refine own_step (fun _ k => XS.lloadN X70.here hx rfl (hb hby at_535) (by rw [hA46]; rfl) k) ?_
                    show own_Ends p e below F (T70.setTop (mkF m 536 A46 [(.long wb), (.long wa)]))
                    refine own_step (fun _ k => XS.iload X70.here hx rfl (hb hby at_536) (by rw [hA46]; rfl) k) ?_
                    show own_Ends p e below F (T70.setTop (mkF m 538 A46 [(.int v32), (.long wb), (.long wa)]))
                    refine own_step (fun _ k => XS.iconst X70.here hx rfl (hb hby at_538) k) ?_
                    show own_Ends p e below F (T70.setTop (mkF m 539 A46 [(.int (1 : Int32)), (.int v32), (.long wb), (.long wa)]))
                    refine own_step (fun _ k => XS.iushr X70.here hx rfl (hb hby at_539) rfl k) ?_
                    show own_Ends p e below F (T70.setTop (mkF m 540 A46 [(.int ((v32.toUInt32 >>> ((1 : Int32) &&& 31).toUInt32).toInt32)), (.long wb), (.long wa)]))
                    obtain ⟨_, _, ⟨T75, L75, k75, n75⟩, -, X75, ⟨Lc75, hQ75, l75, y75, z75⟩, st75⟩ := Jvm.LawKit.callS X70 hx (y := (⟨"com/example/entitlement/entitlement/service/AclCodeOwnPinLaw", "has", "(JJI)Z"⟩ : MethodName)) hown (mvT hZ (own_g hw 13 rfl)) (mvT hZ (own_g hw 14 rfl)) (mvT hZ (own_g hw 15 rfl)) (mvT hZ (own_g hw 16 rfl)) (by decide) (backOf (W := 0) (rm2 l Z a0 hw [] wa wb ((v32.toUInt32 >>> ((1 : Int32) &&& 31).toUInt32).toInt32) h44 n0 Z44) hZ (own_g hw 16 rfl) (own_g hw 15 rfl) (by decide) (by decide)) (g := (mkF m 540 A46 [(.int ((v32.toUInt32 >>> ((1 : Int32) &&& 31).toUInt32).toInt32)), (.long wb), (.long wa)])) rfl (by rw [hml]; show A46.size = _; rw [hA46]; rfl) (argsL := [(.long wa), (.long wb), (.int ((v32.toUInt32 >>> ((1 : Int32) &&& 31).toUInt32).toInt32))]) (rest := []) (lenOf pd__28JJI_29Z rfl) rfl (by show 2 * 0 + _ ≤ _; exact Nat.le_of_eq rfl) (hb hby at_540) (fun _ _ => ⟨rfl, eq70, (by decide : 2 + 0 ≤ _), (by decide : 12 + 0 ≤ _)⟩)
                    dsimp only [Pt.U, Pt.locs, Pt.cells, Pt.slots] at X75 l75 y75 z75 st75 hQ75
                    subst l75 y75 z75
                    obtain ⟨rfl, Nq75, eq75⟩ := hQ75
                    have N75 := Fr.app N70 Nq75
                    refine own_step st75 ?_
                    show own_Ends p e below F (T75.setTop (mkF m 543 A46 [(.int (own_has wa wb ((v32.toUInt32 >>> ((1 : Int32) &&& 31).toUInt32).toInt32)))]))
                    by_cases c543_76 : (own_has wa wb ((v32.toUInt32 >>> ((1 : Int32) &&& 31).toUInt32).toInt32)) = (0 : Int32)
                    · refine own_step (fun _ k => XS.ifYes X75.here hx rfl (pc0 := 543) (pc' := 556) rfl (hb hby at_543) rfl ((if0 _ _).trans (teq c543_76).1) (by decide) (by decide) k) ?_
                      show own_Ends p e below F (T75.setTop (mkF m 556 A46 []))
                      obtain ⟨T77, X77, e77, st77⟩ := getS2 X75 hx hZ hown (host := "") (Or.inl (own_g hw 2 rfl)) Via.refl eq75 Sno44 (g := (mkF m 556 A46 [])) rfl (hb hby at_556)
                      refine own_step st77 ?_
                      show own_Ends p e below F (T77.setTop (mkF m 559 A46 [(.ref no)]))
                      obtain ⟨A78, hA78⟩ : ∃ z : Array Slot, z = #[.val (.int p1), .val (.long wa), .second, .val (.long wb), .second, .val (.int p4), .val (.int p5), .val (.int p6), .val (.int z3), .val (.int v7), .val (.ref a9), .val (.ref a11), .val (.int v18), .val (.int v20), .val (.int v22), .val (.int v24), .val (.int v26), .val (.int v28), .val (.int v30), .val (.int v32), .val (.int v34), .val (.int v36), .val (.int v38), .val (.int v40), .val (.ref no), .unset, .unset] := ⟨_, rfl⟩
                      refine own_step (fun _ k => XS.astore X77.here hx rfl (hb hby at_559) rfl rfl (l' := A78) (by rw [hA46, hA78]; exact (XS.store1 (o := d42) rfl od42 rfl)) k) ?_
                      show own_Ends p e below F (T77.setTop (mkF m 561 A78 []))
                      refine own_step (fun _ k => XS.goto X77.here hx rfl (pc0 := 561) (pc' := 569) rfl (hb hby at_561) (by decide) (by decide) k) ?_
                      show own_Ends p e below F (T77.setTop (mkF m 569 A78 []))
                      rw [hA78]
                      exact J333_50 _ _ X77 e77 N75 _ _ _ (by simp only [own_exp, c333_54, c349_55, c469_56, c475_59, c503_60, c515_71, c531_72, c543_76, if_true, if_false]) One.u One.u
                    · refine own_step (fun _ k => XS.ifNo X75.here hx rfl (hb hby at_543) rfl ((if0 _ _).trans (feq c543_76).1) k) ?_
                      show own_Ends p e below F (T75.setTop (mkF m 546 A46 []))
                      refine own_step (fun _ k => XS.iload X75.here hx rfl (hb hby at_546) (by rw [hA46]; rfl) k) ?_
                      show own_Ends p e below F (T75.setTop (mkF m 548 A46 [(.int v32)]))
                      obtain ⟨_, _, ⟨T79, L79, k79, n79⟩, -, X79, ⟨Lc79, hQ79, l79, y79, z79⟩, st79⟩ := Jvm.LawKit.callS X75 hx (y := (⟨"com/example/entitlement/entitlement/service/AclCodeOwnPinLaw", "action", "(I)Lcom/example/entitlement/entitlement/service/Outcome;"⟩ : MethodName)) hown (mvT hZ (own_g hw 29 rfl)) (mvT hZ (own_g hw 30 rfl)) (mvT hZ (own_g hw 15 rfl)) (mvT hZ (own_g hw 31 rfl)) (by decide) (backOf (W := 0) (rm6 l Z a0 hw [] v32 pe de no h44 n0 Z44 Spe44 Sde44 Sno44) hZ (own_g hw 31 rfl) (own_g hw 15 rfl) (by decide) (by decide)) (g := (mkF m 548 A46 [(.int v32)])) rfl (by rw [hml]; show A46.size = _; rw [hA46]; rfl) (argsL := [(.int v32)]) (rest := []) (lenOf pd__28I_29Lcom_2fexample_2fentitlement_2fentitlement_2fservice_2fOutcome_3b rfl) rfl (by show 2 * 0 + _ ≤ _; exact Nat.le_of_eq rfl) (hb hby at_548) (fun _ _ => ⟨rfl, eq75, (by decide : 2 + 0 ≤ _), (by decide : 12 + 0 ≤ _)⟩)
                      dsimp only [Pt.U, Pt.locs, Pt.cells, Pt.slots] at X79 l79 y79 z79 st79 hQ79
                      subst l79 y79 z79
                      obtain ⟨rfl, Nq79, eq79⟩ := hQ79
                      have N79 := Fr.app N75 Nq79
                      refine own_step st79 ?_
                      show own_Ends p e below F (T79.setTop (mkF m 551 A46 [(.ref (own_act v32 pe de))]))
                      obtain ⟨A80, hA80⟩ : ∃ z : Array Slot, z = #[.val (.int p1), .val (.long wa), .second, .val (.long wb), .second, .val (.int p4), .val (.int p5), .val (.int p6), .val (.int z3), .val (.int v7), .val (.ref a9), .val (.ref a11), .val (.int v18), .val (.int v20), .val (.int v22), .val (.int v24), .val (.int v26), .val (.int v28), .val (.int v30), .val (.int v32), .val (.int v34), .val (.int v36), .val (.int v38), .val (.int v40), .val (.ref (own_act v32 pe de)), .unset, .unset] := ⟨_, rfl⟩
                      refine own_step (fun _ k => XS.astore X79.here hx rfl (hb hby at_551) rfl rfl (l' := A80) (by rw [hA46, hA80]; exact (XS.store1 (o := d42) rfl od42 rfl)) k) ?_
                      show own_Ends p e below F (T79.setTop (mkF m 553 A80 []))
                      refine own_step (fun _ k => XS.goto X79.here hx rfl (pc0 := 553) (pc' := 569) rfl (hb hby at_553) (by decide) (by decide) k) ?_
                      show own_Ends p e below F (T79.setTop (mkF m 569 A80 []))
                      rw [hA80]
                      exact J333_50 _ _ X79 eq79 N79 _ _ _ (by simp only [own_exp, c333_54, c349_55, c469_56, c475_59, c503_60, c515_71, c531_72, c543_76, if_true, if_false]) One.u One.u
                · refine own_step (fun _ k => XS.ifNo X70.here hx rfl (hb hby at_515) rfl ((if0 _ _).trans (feq c515_71).1) k) ?_
                  show own_Ends p e below F (T70.setTop (mkF m 518 A46 []))
                  refine own_step (fun _ k => XS.iload X70.here hx rfl (hb hby at_518) (by rw [hA46]; rfl) k) ?_
                  show own_Ends p e below F (T70.setTop (mkF m 520 A46 [(.int v30)]))
                  obtain ⟨_, _, ⟨T81, L81, k81, n81⟩, -, X81, ⟨Lc81, hQ81, l81, y81, z81⟩, st81⟩ := Jvm.LawKit.callS X70 hx (y := (⟨"com/example/entitlement/entitlement/service/AclCodeOwnPinLaw", "action", "(I)Lcom/example/entitlement/entitlement/service/Outcome;"⟩ : MethodName)) hown (mvT hZ (own_g hw 29 rfl)) (mvT hZ (own_g hw 30 rfl)) (mvT hZ (own_g hw 15 rfl)) (mvT hZ (own_g hw 31 rfl)) (by decide) (backOf (W := 0) (rm6 l Z a0 hw [] v30 pe de no h44 n0 Z44 Spe44 Sde44 Sno44) hZ (own_g hw 31 rfl) (own_g hw 15 rfl) (by decide) (by decide)) (g := (mkF m 520 A46 [(.int v30)])) rfl (by rw [hml]; show A46.size = _; rw [hA46]; rfl) (argsL := [(.int v30)]) (rest := []) (lenOf pd__28I_29Lcom_2fexample_2fentitlement_2fentitlement_2fservice_2fOutcome_3b rfl) rfl (by show 2 * 0 + _ ≤ _; exact Nat.le_of_eq rfl) (hb hby at_520) (fun _ _ => ⟨rfl, eq70, (by decide : 2 + 0 ≤ _), (by decide : 12 + 0 ≤ _)⟩)
                  dsimp only [Pt.U, Pt.locs, Pt.cells, Pt.slots] at X81 l81 y81 z81 st81 hQ81
                  subst l81 y81 z81
                  obtain ⟨rfl, Nq81, eq81⟩ := hQ81
                  have N81 := Fr.app N70 Nq81
                  refine own_step st81 ?_
                  show own_Ends p e below F (T81.setTop (mkF m 523 A46 [(.ref (own_act v30 pe de))]))
                  obtain ⟨A82, hA82⟩ : ∃ z : Array Slot, z = #[.val (.int p1), .val (.long wa), .second, .val (.long wb), .second, .val (.int p4), .val (.int p5), .val (.int p6), .val (.int z3), .val (.int v7), .val (.ref a9), .val (.ref a11), .val (.int v18), .val (.int v20), .val (.int v22), .val (.int v24), .val (.int v26), .val (.int v28), .val (.int v30), .val (.int v32), .val (.int v34), .val (.int v36), .val (.int v38), .val (.int v40), .val (.ref (own_act v30 pe de)), .unset, .unset] := ⟨_, rfl⟩
                  refine own_step (fun _ k => XS.astore X81.here hx rfl (hb hby at_523) rfl rfl (l' := A82) (by rw [hA46, hA82]; exact (XS.store1 (o := d42) rfl od42 rfl)) k) ?_
                  show own_Ends p e below F (T81.setTop (mkF m 525 A82 []))
                  refine own_step (fun _ k => XS.goto X81.here hx rfl (pc0 := 525) (pc' := 569) rfl (hb hby at_525) (by decide) (by decide) k) ?_
                  show own_Ends p e below F (T81.setTop (mkF m 569 A82 []))
                  rw [hA82]
                  exact J333_50 _ _ X81 eq81 N81 _ _ _ (by simp only [own_exp, c333_54, c349_55, c469_56, c475_59, c503_60, c515_71, if_true, if_false]) One.u One.u
            · refine own_step (fun _ k => XS.icmpNo X44.here hx rfl (hb hby at_475) rfl (flt c475_59).1 k) ?_
              show own_Ends p e below F (T44.setTop (mkF m 478 A46 []))
              refine own_step (fun _ k => XS.lloadN X44.here hx rfl (hb hby at_478) (by rw [hA46]; rfl) k) ?_
              show own_Ends p e below F (T44.setTop (mkF m 479 A46 [(.long wa)]))
              refine own_step (fun _ k => XS.lloadN X44.here hx rfl (hb hby at_479) (by rw [hA46]; rfl) k) ?_
              show own_Ends p e below F (T44.setTop (mkF m 480 A46 [(.long wb), (.long wa)]))
              refine own_step (fun _ k => XS.iload X44.here hx rfl (hb hby at_480) (by rw [hA46]; rfl) k) ?_
              show own_Ends p e below F (T44.setTop (mkF m 482 A46 [(.int v28), (.long wb), (.long wa)]))
              refine own_step (fun _ k => XS.iconst X44.here hx rfl (hb hby at_482) k) ?_
              show own_Ends p e below F (T44.setTop (mkF m 483 A46 [(.int (1 : Int32)), (.int v28), (.long wb), (.long wa)]))
              refine own_step (fun _ k => XS.iushr X44.here hx rfl (hb hby at_483) rfl k) ?_
              show own_Ends p e below F (T44.setTop (mkF m 484 A46 [(.int ((v28.toUInt32 >>> ((1 : Int32) &&& 31).toUInt32).toInt32)), (.long wb), (.long wa)]))
              obtain ⟨_, _, ⟨T83, L83, k83, n83⟩, -, X83, ⟨Lc83, hQ83, l83, y83, z83⟩, st83⟩ := Jvm.LawKit.callS X44 hx (y := (⟨"com/example/entitlement/entitlement/service/AclCodeOwnPinLaw", "has", "(JJI)Z"⟩ : MethodName)) hown (mvT hZ (own_g hw 13 rfl)) (mvT hZ (own_g hw 14 rfl)) (mvT hZ (own_g hw 15 rfl)) (mvT hZ (own_g hw 16 rfl)) (by decide) (backOf (W := 0) (rm2 l Z a0 hw [] wa wb ((v28.toUInt32 >>> ((1 : Int32) &&& 31).toUInt32).toInt32) h44 n0 Z44) hZ (own_g hw 16 rfl) (own_g hw 15 rfl) (by decide) (by decide)) (g := (mkF m 484 A46 [(.int ((v28.toUInt32 >>> ((1 : Int32) &&& 31).toUInt32).toInt32)), (.long wb), (.long wa)])) rfl (by rw [hml]; show A46.size = _; rw [hA46]; rfl) (argsL := [(.long wa), (.long wb), (.int ((v28.toUInt32 >>> ((1 : Int32) &&& 31).toUInt32).toInt32))]) (rest := []) (lenOf pd__28JJI_29Z rfl) rfl (by show 2 * 0 + _ ≤ _; exact Nat.le_of_eq rfl) (hb hby at_484) (fun _ _ => ⟨rfl, e44, (by decide : 2 + 0 ≤ _), (by decide : 12 + 0 ≤ _)⟩)
              dsimp only [Pt.U, Pt.locs, Pt.cells, Pt.slots] at X83 l83 y83 z83 st83 hQ83
              subst l83 y83 z83
              obtain ⟨rfl, Nq83, eq83⟩ := hQ83
              have N83 := Fr.app N44 Nq83
              refine own_step st83 ?_
              show own_Ends p e below F (T83.setTop (mkF m 487 A46 [(.int (own_has wa wb ((v28.toUInt32 >>> ((1 : Int32) &&& 31).toUInt32).toInt32)))]))
              by_cases c487_84 : (own_has wa wb ((v28.toUInt32 >>> ((1 : Int32) &&& 31).toUInt32).toInt32)) = (0 : Int32)
              · refine own_step (fun _ k => XS.ifYes X83.here hx rfl (pc0 := 487) (pc' := 500) rfl (hb hby at_487) rfl ((if0 _ _).trans (teq c487_84).1) (by decide) (by decide) k) ?_
                show own_Ends p e below F (T83.setTop (mkF m 500 A46 []))
                refine own_step (fun _ k => XS.iload X83.here hx rfl (hb hby at_500) (by rw [hA46]; rfl) k) ?_
                show own_Ends p e below F (T83.setTop (mkF m 502 A46 [(.int v40)]))
                refine own_step (fun _ k => XS.iconst X83.here hx rfl (hb hby at_502) k) ?_
                show own_Ends p e below F (T83.setTop (mkF m 503 A46 [(.int (2 : Int32)), (.int v40)]))
                by_cases c503_85 : v40 < (2 : Int32)
                · refine own_step (fun _ k => XS.icmpYes X83.here hx rfl (pc0 := 503) (pc' := 528) rfl (hb hby at_503) rfl (tlt c503_85).1 (by decide) (by decide) k) ?_
                  show own_Ends p e below F (T83.setTop (mkF m 528 A46 []))
                  refine own_step (fun _ k => XS.iload X83.here hx rfl (hb hby at_528) (by rw [hA46]; rfl) k) ?_
                  show own_Ends p e below F (T83.setTop (mkF m 530 A46 [(.int v40)]))
                  refine own_step (fun _ k => XS.iconst X83.here hx rfl (hb hby at_530) k) ?_
                  show own_Ends p e below F (T83.setTop (mkF m 531 A46 [(.int (3 : Int32)), (.int v40)]))
                  by_cases c531_86 : v40 < (3 : Int32)
                  · refine own_step (fun _ k => XS.icmpYes X83.here hx rfl (pc0 := 531) (pc' := 556) rfl (hb hby at_531) rfl (tlt c531_86).1 (by decide) (by decide) k) ?_
                    show own_Ends p e below F (T83.setTop (mkF m 556 A46 []))
                    obtain ⟨T87, X87, e87, st87⟩ := getS2 X83 hx hZ hown (host := "") (Or.inl (own_g hw 2 rfl)) Via.refl eq83 Sno44 (g := (mkF m 556 A46 [])) rfl (hb hby at_556)
                    refine own_step st87 ?_
                    show own_Ends p e below F (T87.setTop (mkF m 559 A46 [(.ref no)]))
                    obtain ⟨A88, hA88⟩ : ∃ z : Array Slot, z = #[.val (.int p1), .val (.long wa), .second, .val (.long wb), .second, .val (.int p4), .val (.int p5), .val (.int p6), .val (.int z3), .val (.int v7), .val (.ref a9), .val (.ref a11), .val (.int v18), .val (.int v20), .val (.int v22), .val (.int v24), .val (.int v26), .val (.int v28), .val (.int v30), .val (.int v32), .val (.int v34), .val (.int v36), .val (.int v38), .val (.int v40), .val (.ref no), .unset, .unset] := ⟨_, rfl⟩
                    refine own_step (fun _ k => XS.astore X87.here hx rfl (hb hby at_559) rfl rfl (l' := A88) (by rw [hA46, hA88]; exact (XS.store1 (o := d42) rfl od42 rfl)) k) ?_
                    show own_Ends p e below F (T87.setTop (mkF m 561 A88 []))
                    refine own_step (fun _ k => XS.goto X87.here hx rfl (pc0 := 561) (pc' := 569) rfl (hb hby at_561) (by decide) (by decide) k) ?_
                    show own_Ends p e below F (T87.setTop (mkF m 569 A88 []))
                    rw [hA88]
                    exact J333_50 _ _ X87 e87 N83 _ _ _ (by simp only [own_exp, c333_54, c349_55, c469_56, c475_59, c487_84, c503_85, c531_86, if_true, if_false]) One.u One.u
                  · refine own_step (fun _ k => XS.icmpNo X83.here hx rfl (hb hby at_531) rfl (flt c531_86).1 k) ?_
                    show own_Ends p e below F (T83.setTop (mkF m 534 A46 []))
                    refine own_step (fun _ k => XS.lloadN X83.here hx rfl (hb hby at_534) (by rw [hA46]; rfl) k) ?_
                    show own_Ends p e below F (T83.setTop (mkF m 535 A46 [(.long wa)]))
                    refine own_step (fun _ k => XS.lloadN X83.here hx rfl (hb hby at_535) (by rw [hA46]; rfl) k) ?_
                    show own_Ends p e below F (T83.setTop (mkF m 536 A46 [(.long wb), (.long wa)]))
                    refine own_step (fun _ k => XS.iload X83.here hx rfl (hb hby at_536) (by rw [hA46]; rfl) k) ?_
                    show own_Ends p e below F (T83.setTop (mkF m 538 A46 [(.int v32), (.long wb), (.long wa)]))
                    refine own_step (fun _ k => XS.iconst X83.here hx rfl (hb hby at_538) k) ?_
                    show own_Ends p e below F (T83.setTop (mkF m 539 A46 [(.int (1 : Int32)), (.int v32), (.long wb), (.long wa)]))
                    refine own_step (fun _ k => XS.iushr X83.here hx rfl (hb hby at_539) rfl k) ?_
                    show own_Ends p e below F (T83.setTop (mkF m 540 A46 [(.int ((v32.toUInt32 >>> ((1 : Int32) &&& 31).toUInt32).toInt32)), (.long wb), (.long wa)]))
                    obtain ⟨_, _, ⟨T89, L89, k89, n89⟩, -, X89, ⟨Lc89, hQ89, l89, y89, z89⟩, st89⟩ := Jvm.LawKit.callS X83 hx (y := (⟨"com/example/entitlement/entitlement/service/AclCodeOwnPinLaw", "has", "(JJI)Z"⟩ : MethodName)) hown (mvT hZ (own_g hw 13 rfl)) (mvT hZ (own_g hw 14 rfl)) (mvT hZ (own_g hw 15 rfl)) (mvT hZ (own_g hw 16 rfl)) (by decide) (backOf (W := 0) (rm2 l Z a0 hw [] wa wb ((v32.toUInt32 >>> ((1 : Int32) &&& 31).toUInt32).toInt32) h44 n0 Z44) hZ (own_g hw 16 rfl) (own_g hw 15 rfl) (by decide) (by decide)) (g := (mkF m 540 A46 [(.int ((v32.toUInt32 >>> ((1 : Int32) &&& 31).toUInt32).toInt32)), (.long wb), (.long wa)])) rfl (by rw [hml]; show A46.size = _; rw [hA46]; rfl) (argsL := [(.long wa), (.long wb), (.int ((v32.toUInt32 >>> ((1 : Int32) &&& 31).toUInt32).toInt32))]) (rest := []) (lenOf pd__28JJI_29Z rfl) rfl (by show 2 * 0 + _ ≤ _; exact Nat.le_of_eq rfl) (hb hby at_540) (fun _ _ => ⟨rfl, eq83, (by decide : 2 + 0 ≤ _), (by decide : 12 + 0 ≤ _)⟩)
                    dsimp only [Pt.U, Pt.locs, Pt.cells, Pt.slots] at X89 l89 y89 z89 st89 hQ89
                    subst l89 y89 z89
                    obtain ⟨rfl, Nq89, eq89⟩ := hQ89
                    have N89 := Fr.app N83 Nq89
                    refine own_step st89 ?_
                    show own_Ends p e below F (T89.setTop (mkF m 543 A46 [(.int (own_has wa wb ((v32.toUInt32 >>> ((1 : Int32) &&& 31).toUInt32).toInt32)))]))
                    by_cases c543_90 : (own_has wa wb ((v32.toUInt32 >>> ((1 : Int32) &&& 31).toUInt32).toInt32)) = (0 : Int32)
                    · refine own_step (fun _ k => XS.ifYes X89.here hx rfl (pc0 := 543) (pc' := 556) rfl (hb hby at_543) rfl ((if0 _ _).trans (teq c543_90).1) (by decide) (by decide) k) ?_
                      show own_Ends p e below F (T89.setTop (mkF m 556 A46 []))
                      obtain ⟨T91, X91, e91, st91⟩ := getS2 X89 hx hZ hown (host := "") (Or.inl (own_g hw 2 rfl)) Via.refl eq89 Sno44 (g := (mkF m 556 A46 [])) rfl (hb hby at_556)
                      refine own_step st91 ?_
                      show own_Ends p e below F (T91.setTop (mkF m 559 A46 [(.ref no)]))
                      obtain ⟨A92, hA92⟩ : ∃ z : Array Slot, z = #[.val (.int p1), .val (.long wa), .second, .val (.long wb), .second, .val (.int p4), .val (.int p5), .val (.int p6), .val (.int z3), .val (.int v7), .val (.ref a9), .val (.ref a11), .val (.int v18), .val (.int v20), .val (.int v22), .val (.int v24), .val (.int v26), .val (.int v28), .val (.int v30), .val (.int v32), .val (.int v34), .val (.int v36), .val (.int v38), .val (.int v40), .val (.ref no), .unset, .unset] := ⟨_, rfl⟩
                      refine own_step (fun _ k => XS.astore X91.here hx rfl (hb hby at_559) rfl rfl (l' := A92) (by rw [hA46, hA92]; exact (XS.store1 (o := d42) rfl od42 rfl)) k) ?_
                      show own_Ends p e below F (T91.setTop (mkF m 561 A92 []))
                      refine own_step (fun _ k => XS.goto X91.here hx rfl (pc0 := 561) (pc' := 569) rfl (hb hby at_561) (by decide) (by decide) k) ?_
                      show own_Ends p e below F (T91.setTop (mkF m 569 A92 []))
                      rw [hA92]
                      exact J333_50 _ _ X91 e91 N89 _ _ _ (by simp only [own_exp, c333_54, c349_55, c469_56, c475_59, c487_84, c503_85, c531_86, c543_90, if_true, if_false]) One.u One.u
                    · refine own_step (fun _ k => XS.ifNo X89.here hx rfl (hb hby at_543) rfl ((if0 _ _).trans (feq c543_90).1) k) ?_
                      show own_Ends p e below F (T89.setTop (mkF m 546 A46 []))
                      refine own_step (fun _ k => XS.iload X89.here hx rfl (hb hby at_546) (by rw [hA46]; rfl) k) ?_
                      show own_Ends p e below F (T89.setTop (mkF m 548 A46 [(.int v32)]))
                      obtain ⟨_, _, ⟨T93, L93, k93, n93⟩, -, X93, ⟨Lc93, hQ93, l93, y93, z93⟩, st93⟩ := Jvm.LawKit.callS X89 hx (y := (⟨"com/example/entitlement/entitlement/service/AclCodeOwnPinLaw", "action", "(I)Lcom/example/entitlement/entitlement/service/Outcome;"⟩ : MethodName)) hown (mvT hZ (own_g hw 29 rfl)) (mvT hZ (own_g hw 30 rfl)) (mvT hZ (own_g hw 15 rfl)) (mvT hZ (own_g hw 31 rfl)) (by decide) (backOf (W := 0) (rm6 l Z a0 hw [] v32 pe de no h44 n0 Z44 Spe44 Sde44 Sno44) hZ (own_g hw 31 rfl) (own_g hw 15 rfl) (by decide) (by decide)) (g := (mkF m 548 A46 [(.int v32)])) rfl (by rw [hml]; show A46.size = _; rw [hA46]; rfl) (argsL := [(.int v32)]) (rest := []) (lenOf pd__28I_29Lcom_2fexample_2fentitlement_2fentitlement_2fservice_2fOutcome_3b rfl) rfl (by show 2 * 0 + _ ≤ _; exact Nat.le_of_eq rfl) (hb hby at_548) (fun _ _ => ⟨rfl, eq89, (by decide : 2 + 0 ≤ _), (by decide : 12 + 0 ≤ _)⟩)
                      dsimp only [Pt.U, Pt.locs, Pt.cells, Pt.slots] at X93 l93 y93 z93 st93 hQ93
                      subst l93 y93 z93
                      obtain ⟨rfl, Nq93, eq93⟩ := hQ93
                      have N93 := Fr.app N89 Nq93
                      refine own_step st93 ?_
                      show own_Ends p e below F (T93.setTop (mkF m 551 A46 [(.ref (own_act v32 pe de))]))
                      obtain ⟨A94, hA94⟩ : ∃ z : Array Slot, z = #[.val (.int p1), .val (.long wa), .second, .val (.long wb), .second, .val (.int p4), .val (.int p5), .val (.int p6), .val (.int z3), .val (.int v7), .val (.ref a9), .val (.ref a11), .val (.int v18), .val (.int v20), .val (.int v22), .val (.int v24), .val (.int v26), .val (.int v28), .val (.int v30), .val (.int v32), .val (.int v34), .val (.int v36), .val (.int v38), .val (.int v40), .val (.ref (own_act v32 pe de)), .unset, .unset] := ⟨_, rfl⟩
                      refine own_step (fun _ k => XS.astore X93.here hx rfl (hb hby at_551) rfl rfl (l' := A94) (by rw [hA46, hA94]; exact (XS.store1 (o := d42) rfl od42 rfl)) k) ?_
                      show own_Ends p e below F (T93.setTop (mkF m 553 A94 []))
                      refine own_step (fun _ k => XS.goto X93.here hx rfl (pc0 := 553) (pc' := 569) rfl (hb hby at_553) (by decide) (by decide) k) ?_
                      show own_Ends p e below F (T93.setTop (mkF m 569 A94 []))
                      rw [hA94]
                      exact J333_50 _ _ X93 eq93 N93 _ _ _ (by simp only [own_exp, c333_54, c349_55, c469_56, c475_59, c487_84, c503_85, c531_86, c543_90, if_true, if_false]) One.u One.u
                · refine own_step (fun _ k => XS.icmpNo X83.here hx rfl (hb hby at_503) rfl (flt c503_85).1 k) ?_
                  show own_Ends p e below F (T83.setTop (mkF m 506 A46 []))
                  refine own_step (fun _ k => XS.lloadN X83.here hx rfl (hb hby at_506) (by rw [hA46]; rfl) k) ?_
                  show own_Ends p e below F (T83.setTop (mkF m 507 A46 [(.long wa)]))
                  refine own_step (fun _ k => XS.lloadN X83.here hx rfl (hb hby at_507) (by rw [hA46]; rfl) k) ?_
                  show own_Ends p e below F (T83.setTop (mkF m 508 A46 [(.long wb), (.long wa)]))
                  refine own_step (fun _ k => XS.iload X83.here hx rfl (hb hby at_508) (by rw [hA46]; rfl) k) ?_
                  show own_Ends p e below F (T83.setTop (mkF m 510 A46 [(.int v30), (.long wb), (.long wa)]))
                  refine own_step (fun _ k => XS.iconst X83.here hx rfl (hb hby at_510) k) ?_
                  show own_Ends p e below F (T83.setTop (mkF m 511 A46 [(.int (1 : Int32)), (.int v30), (.long wb), (.long wa)]))
                  refine own_step (fun _ k => XS.iushr X83.here hx rfl (hb hby at_511) rfl k) ?_
                  show own_Ends p e below F (T83.setTop (mkF m 512 A46 [(.int ((v30.toUInt32 >>> ((1 : Int32) &&& 31).toUInt32).toInt32)), (.long wb), (.long wa)]))
                  obtain ⟨_, _, ⟨T95, L95, k95, n95⟩, -, X95, ⟨Lc95, hQ95, l95, y95, z95⟩, st95⟩ := Jvm.LawKit.callS X83 hx (y := (⟨"com/example/entitlement/entitlement/service/AclCodeOwnPinLaw", "has", "(JJI)Z"⟩ : MethodName)) hown (mvT hZ (own_g hw 13 rfl)) (mvT hZ (own_g hw 14 rfl)) (mvT hZ (own_g hw 15 rfl)) (mvT hZ (own_g hw 16 rfl)) (by decide) (backOf (W := 0) (rm2 l Z a0 hw [] wa wb ((v30.toUInt32 >>> ((1 : Int32) &&& 31).toUInt32).toInt32) h44 n0 Z44) hZ (own_g hw 16 rfl) (own_g hw 15 rfl) (by decide) (by decide)) (g := (mkF m 512 A46 [(.int ((v30.toUInt32 >>> ((1 : Int32) &&& 31).toUInt32).toInt32)), (.long wb), (.long wa)])) rfl (by rw [hml]; show A46.size = _; rw [hA46]; rfl) (argsL := [(.long wa), (.long wb), (.int ((v30.toUInt32 >>> ((1 : Int32) &&& 31).toUInt32).toInt32))]) (rest := []) (lenOf pd__28JJI_29Z rfl) rfl (by show 2 * 0 + _ ≤ _; exact Nat.le_of_eq rfl) (hb hby at_512) (fun _ _ => ⟨rfl, eq83, (by decide : 2 + 0 ≤ _), (by decide : 12 + 0 ≤ _)⟩)
                  dsimp only [Pt.U, Pt.locs, Pt.cells, Pt.slots] at X95 l95 y95 z95 st95 hQ95
                  subst l95 y95 z95
                  obtain ⟨rfl, Nq95, eq95⟩ := hQ95
                  have N95 := Fr.app N83 Nq95
                  refine own_step st95 ?_
                  show own_Ends p e below F (T95.setTop (mkF m 515 A46 [(.int (own_has wa wb ((v30.toUInt32 >>> ((1 : Int32) &&& 31).toUInt32).toInt32)))]))
                  by_cases c515_96 : (own_has wa wb ((v30.toUInt32 >>> ((1 : Int32) &&& 31).toUInt32).toInt32)) = (0 : Int32)
                  · refine own_step (fun _ k => XS.ifYes X95.here hx rfl (pc0 := 515) (pc' := 528) rfl (hb hby at_515) rfl ((if0 _ _).trans (teq c515_96).1) (by decide) (by decide) k) ?_
                    show own_Ends p e below F (T95.setTop (mkF m 528 A46 []))
                    refine own_step (fun _ k => XS.iload X95.here hx rfl (hb hby at_528) (by rw [hA46]; rfl) k) ?_
                    show own_Ends p e below F (T95.setTop (mkF m 530 A46 [(.int v40)]))
                    refine own_step (fun _ k => XS.iconst X95.here hx rfl (hb hby at_530) k) ?_
                    show own_Ends p e below F (T95.setTop (mkF m 531 A46 [(.int (3 : Int32)), (.int v40)]))
                    by_cases c531_97 : v40 < (3 : Int32)
                    · refine own_step (fun _ k => XS.icmpYes X95.here hx rfl (pc0 := 531) (pc' := 556) rfl (hb hby at_531) rfl (tlt c531_97).1 (by decide) (by decide) k) ?_
                      show own_Ends p e below F (T95.setTop (mkF m 556 A46 []))
                      obtain ⟨T98, X98, e98, st98⟩ := getS2 X95 hx hZ hown (host := "") (Or.inl (own_g hw 2 rfl)) Via.refl eq95 Sno44 (g := (mkF m 556 A46 [])) rfl (hb hby at_556)
                      refine own_step st98 ?_
                      show own_Ends p e below F (T98.setTop (mkF m 559 A46 [(.ref no)]))
                      obtain ⟨A99, hA99⟩ : ∃ z : Array Slot, z = #[.val (.int p1), .val (.long wa), .second, .val (.long wb), .second, .val (.int p4), .val (.int p5), .val (.int p6), .val (.int z3), .val (.int v7), .val (.ref a9), .val (.ref a11), .val (.int v18), .val (.int v20), .val (.int v22), .val (.int v24), .val (.int v26), .val (.int v28), .val (.int v30), .val (.int v32), .val (.int v34), .val (.int v36), .val (.int v38), .val (.int v40), .val (.ref no), .unset, .unset] := ⟨_, rfl⟩
                      refine own_step (fun _ k => XS.astore X98.here hx rfl (hb hby at_559) rfl rfl (l' := A99) (by rw [hA46, hA99]; exact (XS.store1 (o := d42) rfl od42 rfl)) k) ?_
                      show own_Ends p e below F (T98.setTop (mkF m 561 A99 []))
                      refine own_step (fun _ k => XS.goto X98.here hx rfl (pc0 := 561) (pc' := 569) rfl (hb hby at_561) (by decide) (by decide) k) ?_
                      show own_Ends p e below F (T98.setTop (mkF m 569 A99 []))
                      rw [hA99]
                      exact J333_50 _ _ X98 e98 N95 _ _ _ (by simp only [own_exp, c333_54, c349_55, c469_56, c475_59, c487_84, c503_85, c515_96, c531_97, if_true, if_false]) One.u One.u
                    · refine own_step (fun _ k => XS.icmpNo X95.here hx rfl (hb hby at_531) rfl (flt c531_97).1 k) ?_
                      show own_Ends p e below F (T95.setTop (mkF m 534 A46 []))
                      refine own_step (fun _ k => XS.lloadN X95.here hx rfl (hb hby at_534) (by rw [hA46]; rfl) k) ?_
                      show own_Ends p e below F (T95.setTop (mkF m 535 A46 [(.long wa)]))
                      refine own_step (fun _ k => XS.lloadN X95.here hx rfl (hb hby at_535) (by rw [hA46]; rfl) k) ?_
                      show own_Ends p e below F (T95.setTop (mkF m 536 A46 [(.long wb), (.long wa)]))
                      refine own_step (fun _ k => XS.iload X95.here hx rfl (hb hby at_536) (by rw [hA46]; rfl) k) ?_
                      show own_Ends p e below F (T95.setTop (mkF m 538 A46 [(.int v32), (.long wb), (.long wa)]))
                      refine own_step (fun _ k => XS.iconst X95.here hx rfl (hb hby at_538) k) ?_
                      show own_Ends p e below F (T95.setTop (mkF m 539 A46 [(.int (1 : Int32)), (.int v32), (.long wb), (.long wa)]))
                      refine own_step (fun _ k => XS.iushr X95.here hx rfl (hb hby at_539) rfl k) ?_
                      show own_Ends p e below F (T95.setTop (mkF m 540 A46 [(.int ((v32.toUInt32 >>> ((1 : Int32) &&& 31).toUInt32).toInt32)), (.long wb), (.long wa)]))
                      obtain ⟨_, _, ⟨T100, L100, k100, n100⟩, -, X100, ⟨Lc100, hQ100, l100, y100, z100⟩, st100⟩ := Jvm.LawKit.callS X95 hx (y := (⟨"com/example/entitlement/entitlement/service/AclCodeOwnPinLaw", "has", "(JJI)Z"⟩ : MethodName)) hown (mvT hZ (own_g hw 13 rfl)) (mvT hZ (own_g hw 14 rfl)) (mvT hZ (own_g hw 15 rfl)) (mvT hZ (own_g hw 16 rfl)) (by decide) (backOf (W := 0) (rm2 l Z a0 hw [] wa wb ((v32.toUInt32 >>> ((1 : Int32) &&& 31).toUInt32).toInt32) h44 n0 Z44) hZ (own_g hw 16 rfl) (own_g hw 15 rfl) (by decide) (by decide)) (g := (mkF m 540 A46 [(.int ((v32.toUInt32 >>> ((1 : Int32) &&& 31).toUInt32).toInt32)), (.long wb), (.long wa)])) rfl (by rw [hml]; show A46.size = _; rw [hA46]; rfl) (argsL := [(.long wa), (.long wb), (.int ((v32.toUInt32 >>> ((1 : Int32) &&& 31).toUInt32).toInt32))]) (rest := []) (lenOf pd__28JJI_29Z rfl) rfl (by show 2 * 0 + _ ≤ _; exact Nat.le_of_eq rfl) (hb hby at_540) (fun _ _ => ⟨rfl, eq95, (by decide : 2 + 0 ≤ _), (by decide : 12 + 0 ≤ _)⟩)
                      dsimp only [Pt.U, Pt.locs, Pt.cells, Pt.slots] at X100 l100 y100 z100 st100 hQ100
                      subst l100 y100 z100
                      obtain ⟨rfl, Nq100, eq100⟩ := hQ100
                      have N100 := Fr.app N95 Nq100
                      refine own_step st100 ?_
                      show own_Ends p e below F (T100.setTop (mkF m 543 A46 [(.int (own_has wa wb ((v32.toUInt32 >>> ((1 : Int32) &&& 31).toUInt32).toInt32)))]))
                      by_cases c543_101 : (own_has wa wb ((v32.toUInt32 >>> ((1 : Int32) &&& 31).toUInt32).toInt32)) = (0 : Int32)
                      · refine own_step (fun _ k => XS.ifYes X100.here hx rfl (pc0 := 543) (pc' := 556) rfl (hb hby at_543) rfl ((if0 _ _).trans (teq c543_101).1) (by decide) (by decide) k) ?_
                        show own_Ends p e below F (T100.setTop (mkF m 556 A46 []))
                        obtain ⟨T102, X102, e102, st102⟩ := getS2 X100 hx hZ hown (host := "") (Or.inl (own_g hw 2 rfl)) Via.refl eq100 Sno44 (g := (mkF m 556 A46 [])) rfl (hb hby at_556)
                        refine own_step st102 ?_
                        show own_Ends p e below F (T102.setTop (mkF m 559 A46 [(.ref no)]))
                        obtain ⟨A103, hA103⟩ : ∃ z : Array Slot, z = #[.val (.int p1), .val (.long wa), .second, .val (.long wb), .second, .val (.int p4), .val (.int p5), .val (.int p6), .val (.int z3), .val (.int v7), .val (.ref a9), .val (.ref a11), .val (.int v18), .val (.int v20), .val (.int v22), .val (.int v24), .val (.int v26), .val (.int v28), .val (.int v30), .val (.int v32), .val (.int v34), .val (.int v36), .val (.int v38), .val (.int v40), .val (.ref no), .unset, .unset] := ⟨_, rfl⟩
                        refine own_step (fun _ k => XS.astore X102.here hx rfl (hb hby at_559) rfl rfl (l' := A103) (by rw [hA46, hA103]; exact (XS.store1 (o := d42) rfl od42 rfl)) k) ?_
                        show own_Ends p e below F (T102.setTop (mkF m 561 A103 []))
                        refine own_step (fun _ k => XS.goto X102.here hx rfl (pc0 := 561) (pc' := 569) rfl (hb hby at_561) (by decide) (by decide) k) ?_
                        show own_Ends p e below F (T102.setTop (mkF m 569 A103 []))
                        rw [hA103]
                        exact J333_50 _ _ X102 e102 N100 _ _ _ (by simp only [own_exp, c333_54, c349_55, c469_56, c475_59, c487_84, c503_85, c515_96, c531_97, c543_101, if_true, if_false]) One.u One.u
                      · refine own_step (fun _ k => XS.ifNo X100.here hx rfl (hb hby at_543) rfl ((if0 _ _).trans (feq c543_101).1) k) ?_
                        show own_Ends p e below F (T100.setTop (mkF m 546 A46 []))
                        refine own_step (fun _ k => XS.iload X100.here hx rfl (hb hby at_546) (by rw [hA46]; rfl) k) ?_
                        show own_Ends p e below F (T100.setTop (mkF m 548 A46 [(.int v32)]))
                        obtain ⟨_, _, ⟨T104, L104, k104, n104⟩, -, X104, ⟨Lc104, hQ104, l104, y104, z104⟩, st104⟩ := Jvm.LawKit.callS X100 hx (y := (⟨"com/example/entitlement/entitlement/service/AclCodeOwnPinLaw", "action", "(I)Lcom/example/entitlement/entitlement/service/Outcome;"⟩ : MethodName)) hown (mvT hZ (own_g hw 29 rfl)) (mvT hZ (own_g hw 30 rfl)) (mvT hZ (own_g hw 15 rfl)) (mvT hZ (own_g hw 31 rfl)) (by decide) (backOf (W := 0) (rm6 l Z a0 hw [] v32 pe de no h44 n0 Z44 Spe44 Sde44 Sno44) hZ (own_g hw 31 rfl) (own_g hw 15 rfl) (by decide) (by decide)) (g := (mkF m 548 A46 [(.int v32)])) rfl (by rw [hml]; show A46.size = _; rw [hA46]; rfl) (argsL := [(.int v32)]) (rest := []) (lenOf pd__28I_29Lcom_2fexample_2fentitlement_2fentitlement_2fservice_2fOutcome_3b rfl) rfl (by show 2 * 0 + _ ≤ _; exact Nat.le_of_eq rfl) (hb hby at_548) (fun _ _ => ⟨rfl, eq100, (by decide : 2 + 0 ≤ _), (by decide : 12 + 0 ≤ _)⟩)
                        dsimp only [Pt.U, Pt.locs, Pt.cells, Pt.slots] at X104 l104 y104 z104 st104 hQ104
                        subst l104 y104 z104
                        obtain ⟨rfl, Nq104, eq104⟩ := hQ104
                        have N104 := Fr.app N100 Nq104
                        refine own_step st104 ?_
                        show own_Ends p e below F (T104.setTop (mkF m 551 A46 [(.ref (own_act v32 pe de))]))
                        obtain ⟨A105, hA105⟩ : ∃ z : Array Slot, z = #[.val (.int p1), .val (.long wa), .second, .val (.long wb), .second, .val (.int p4), .val (.int p5), .val (.int p6), .val (.int z3), .val (.int v7), .val (.ref a9), .val (.ref a11), .val (.int v18), .val (.int v20), .val (.int v22), .val (.int v24), .val (.int v26), .val (.int v28), .val (.int v30), .val (.int v32), .val (.int v34), .val (.int v36), .val (.int v38), .val (.int v40), .val (.ref (own_act v32 pe de)), .unset, .unset] := ⟨_, rfl⟩
                        refine own_step (fun _ k => XS.astore X104.here hx rfl (hb hby at_551) rfl rfl (l' := A105) (by rw [hA46, hA105]; exact (XS.store1 (o := d42) rfl od42 rfl)) k) ?_
                        show own_Ends p e below F (T104.setTop (mkF m 553 A105 []))
                        refine own_step (fun _ k => XS.goto X104.here hx rfl (pc0 := 553) (pc' := 569) rfl (hb hby at_553) (by decide) (by decide) k) ?_
                        show own_Ends p e below F (T104.setTop (mkF m 569 A105 []))
                        rw [hA105]
                        exact J333_50 _ _ X104 eq104 N104 _ _ _ (by simp only [own_exp, c333_54, c349_55, c469_56, c475_59, c487_84, c503_85, c515_96, c531_97, c543_101, if_true, if_false]) One.u One.u
                  · refine own_step (fun _ k => XS.ifNo X95.here hx rfl (hb hby at_515) rfl ((if0 _ _).trans (feq c515_96).1) k) ?_
                    show own_Ends p e below F (T95.setTop (mkF m 518 A46 []))
                    refine own_step (fun _ k => XS.iload X95.here hx rfl (hb hby at_518) (by rw [hA46]; rfl) k) ?_
                    show own_Ends p e below F (T95.setTop (mkF m 520 A46 [(.int v30)]))
                    obtain ⟨_, _, ⟨T106, L106, k106, n106⟩, -, X106, ⟨Lc106, hQ106, l106, y106, z106⟩, st106⟩ := Jvm.LawKit.callS X95 hx (y := (⟨"com/example/entitlement/entitlement/service/AclCodeOwnPinLaw", "action", "(I)Lcom/example/entitlement/entitlement/service/Outcome;"⟩ : MethodName)) hown (mvT hZ (own_g hw 29 rfl)) (mvT hZ (own_g hw 30 rfl)) (mvT hZ (own_g hw 15 rfl)) (mvT hZ (own_g hw 31 rfl)) (by decide) (backOf (W := 0) (rm6 l Z a0 hw [] v30 pe de no h44 n0 Z44 Spe44 Sde44 Sno44) hZ (own_g hw 31 rfl) (own_g hw 15 rfl) (by decide) (by decide)) (g := (mkF m 520 A46 [(.int v30)])) rfl (by rw [hml]; show A46.size = _; rw [hA46]; rfl) (argsL := [(.int v30)]) (rest := []) (lenOf pd__28I_29Lcom_2fexample_2fentitlement_2fentitlement_2fservice_2fOutcome_3b rfl) rfl (by show 2 * 0 + _ ≤ _; exact Nat.le_of_eq rfl) (hb hby at_520) (fun _ _ => ⟨rfl, eq95, (by decide : 2 + 0 ≤ _), (by decide : 12 + 0 ≤ _)⟩)
                    dsimp only [Pt.U, Pt.locs, Pt.cells, Pt.slots] at X106 l106 y106 z106 st106 hQ106
                    subst l106 y106 z106
                    obtain ⟨rfl, Nq106, eq106⟩ := hQ106
                    have N106 := Fr.app N95 Nq106
                    refine own_step st106 ?_
                    show own_Ends p e below F (T106.setTop (mkF m 523 A46 [(.ref (own_act v30 pe de))]))
                    obtain ⟨A107, hA107⟩ : ∃ z : Array Slot, z = #[.val (.int p1), .val (.long wa), .second, .val (.long wb), .second, .val (.int p4), .val (.int p5), .val (.int p6), .val (.int z3), .val (.int v7), .val (.ref a9), .val (.ref a11), .val (.int v18), .val (.int v20), .val (.int v22), .val (.int v24), .val (.int v26), .val (.int v28), .val (.int v30), .val (.int v32), .val (.int v34), .val (.int v36), .val (.int v38), .val (.int v40), .val (.ref (own_act v30 pe de)), .unset, .unset] := ⟨_, rfl⟩
                    refine own_step (fun _ k => XS.astore X106.here hx rfl (hb hby at_523) rfl rfl (l' := A107) (by rw [hA46, hA107]; exact (XS.store1 (o := d42) rfl od42 rfl)) k) ?_
                    show own_Ends p e below F (T106.setTop (mkF m 525 A107 []))
                    refine own_step (fun _ k => XS.goto X106.here hx rfl (pc0 := 525) (pc' := 569) rfl (hb hby at_525) (by decide) (by decide) k) ?_
                    show own_Ends p e below F (T106.setTop (mkF m 569 A107 []))
                    rw [hA107]
                    exact J333_50 _ _ X106 eq106 N106 _ _ _ (by simp only [own_exp, c333_54, c349_55, c469_56, c475_59, c487_84, c503_85, c515_96, if_true, if_false]) One.u One.u
              · refine own_step (fun _ k => XS.ifNo X83.here hx rfl (hb hby at_487) rfl ((if0 _ _).trans (feq c487_84).1) k) ?_
                show own_Ends p e below F (T83.setTop (mkF m 490 A46 []))
                refine own_step (fun _ k => XS.iload X83.here hx rfl (hb hby at_490) (by rw [hA46]; rfl) k) ?_
                show own_Ends p e below F (T83.setTop (mkF m 492 A46 [(.int v28)]))
                obtain ⟨_, _, ⟨T108, L108, k108, n108⟩, -, X108, ⟨Lc108, hQ108, l108, y108, z108⟩, st108⟩ := Jvm.LawKit.callS X83 hx (y := (⟨"com/example/entitlement/entitlement/service/AclCodeOwnPinLaw", "action", "(I)Lcom/example/entitlement/entitlement/service/Outcome;"⟩ : MethodName)) hown (mvT hZ (own_g hw 29 rfl)) (mvT hZ (own_g hw 30 rfl)) (mvT hZ (own_g hw 15 rfl)) (mvT hZ (own_g hw 31 rfl)) (by decide) (backOf (W := 0) (rm6 l Z a0 hw [] v28 pe de no h44 n0 Z44 Spe44 Sde44 Sno44) hZ (own_g hw 31 rfl) (own_g hw 15 rfl) (by decide) (by decide)) (g := (mkF m 492 A46 [(.int v28)])) rfl (by rw [hml]; show A46.size = _; rw [hA46]; rfl) (argsL := [(.int v28)]) (rest := []) (lenOf pd__28I_29Lcom_2fexample_2fentitlement_2fentitlement_2fservice_2fOutcome_3b rfl) rfl (by show 2 * 0 + _ ≤ _; exact Nat.le_of_eq rfl) (hb hby at_492) (fun _ _ => ⟨rfl, eq83, (by decide : 2 + 0 ≤ _), (by decide : 12 + 0 ≤ _)⟩)
                dsimp only [Pt.U, Pt.locs, Pt.cells, Pt.slots] at X108 l108 y108 z108 st108 hQ108
                subst l108 y108 z108
                obtain ⟨rfl, Nq108, eq108⟩ := hQ108
                have N108 := Fr.app N83 Nq108
                refine own_step st108 ?_
                show own_Ends p e below F (T108.setTop (mkF m 495 A46 [(.ref (own_act v28 pe de))]))
                obtain ⟨A109, hA109⟩ : ∃ z : Array Slot, z = #[.val (.int p1), .val (.long wa), .second, .val (.long wb), .second, .val (.int p4), .val (.int p5), .val (.int p6), .val (.int z3), .val (.int v7), .val (.ref a9), .val (.ref a11), .val (.int v18), .val (.int v20), .val (.int v22), .val (.int v24), .val (.int v26), .val (.int v28), .val (.int v30), .val (.int v32), .val (.int v34), .val (.int v36), .val (.int v38), .val (.int v40), .val (.ref (own_act v28 pe de)), .unset, .unset] := ⟨_, rfl⟩
                refine own_step (fun _ k => XS.astore X108.here hx rfl (hb hby at_495) rfl rfl (l' := A109) (by rw [hA46, hA109]; exact (XS.store1 (o := d42) rfl od42 rfl)) k) ?_
                show own_Ends p e below F (T108.setTop (mkF m 497 A109 []))
                refine own_step (fun _ k => XS.goto X108.here hx rfl (pc0 := 497) (pc' := 569) rfl (hb hby at_497) (by decide) (by decide) k) ?_
                show own_Ends p e below F (T108.setTop (mkF m 569 A109 []))
                rw [hA109]
                exact J333_50 _ _ X108 eq108 N108 _ _ _ (by simp only [own_exp, c333_54, c349_55, c469_56, c475_59, c487_84, if_true, if_false]) One.u One.u
        · refine own_step (fun _ k => XS.ifNo X44.here hx rfl (hb hby at_349) rfl ((if0 _ _).trans (feq c349_55).1) k) ?_
          show own_Ends p e below F (T44.setTop (mkF m 352 A46 []))
          refine own_step (fun _ k => XS.iload X44.here hx rfl (hb hby at_352) (by rw [hA46]; rfl) k) ?_
          show own_Ends p e below F (T44.setTop (mkF m 354 A46 [(.int v36)]))
          refine own_step (fun _ k => XS.iconst X44.here hx rfl (hb hby at_354) k) ?_
          show own_Ends p e below F (T44.setTop (mkF m 355 A46 [(.int (1 : Int32)), (.int v36)]))
          have J355_111 : ∀ (T112 : State) (l112 : List Loc) (X112 : Stand p l e room_1 s m #[(.int p1), (.long wa), (.long wb), (.int p4), (.int p5), (.int p6)] below meth c T112 l112 2 12) (e112 : T112.heap = h44) (N112 : Fr n0 l112) (z110 : Int32) (hz110 : z110 = own_den v36 v20 v22 wa wb), own_Ends p e below F (T112.setTop (mkF m 389 #[.val (.int p1), .val (.long wa), .second, .val (.long wb), .second, .val (.int p4), .val (.int p5), .val (.int p6), .val (.int z3), .val (.int v7), .val (.ref a9), .val (.ref a11), .val (.int v18), .val (.int v20), .val (.int v22), .val (.int v24), .val (.int v26), .val (.int v28), .val (.int v30), .val (.int v32), .val (.int v34), .val (.int v36), .val (.int v38), .val (.int v40), d42, .unset, .unset] [(.int z110)])) := by
            intro T112 l112 X112 e112 N112 z110 hz110
            obtain ⟨A113, hA113⟩ : ∃ z : Array Slot, z = #[.val (.int p1), .val (.long wa), .second, .val (.long wb), .second, .val (.int p4), .val (.int p5), .val (.int p6), .val (.int z3), .val (.int v7), .val (.ref a9), .val (.ref a11), .val (.int v18), .val (.int v20), .val (.int v22), .val (.int v24), .val (.int v26), .val (.int v28), .val (.int v30), .val (.int v32), .val (.int v34), .val (.int v36), .val (.int v38), .val (.int v40), d42, .unset, .unset] := ⟨_, rfl⟩
            rw [← hA113]
            show own_Ends p e below F (T112.setTop (mkF m 389 A113 [(.int z110)]))
            obtain ⟨A114, hA114⟩ : ∃ z : Array Slot, z = #[.val (.int p1), .val (.long wa), .second, .val (.long wb), .second, .val (.int p4), .val (.int p5), .val (.int p6), .val (.int z3), .val (.int v7), .val (.ref a9), .val (.ref a11), .val (.int v18), .val (.int v20), .val (.int v22), .val (.int v24), .val (.int v26), .val (.int v28), .val (.int v30), .val (.int v32), .val (.int v34), .val (.int v36), .val (.int v38), .val (.int v40), d42, .val (.int z110), .unset] := ⟨_, rfl⟩
            refine own_step (fun _ k => XS.istore X112.here hx rfl (hb hby at_389) rfl (l' := A114) (by rw [hA113, hA114]; exact rfl) k) ?_
            show own_Ends p e below F (T112.setTop (mkF m 391 A114 []))
            refine own_step (fun _ k => XS.iload X112.here hx rfl (hb hby at_391) (by rw [hA114]; rfl) k) ?_
            show own_Ends p e below F (T112.setTop (mkF m 393 A114 [(.int v38)]))
            refine own_step (fun _ k => XS.iconst X112.here hx rfl (hb hby at_393) k) ?_
            show own_Ends p e below F (T112.setTop (mkF m 394 A114 [(.int (1 : Int32)), (.int v38)]))
            have J394_116 : ∀ (T117 : State) (l117 : List Loc) (X117 : Stand p l e room_1 s m #[(.int p1), (.long wa), (.long wb), (.int p4), (.int p5), (.int p6)] below meth c T117 l117 2 12) (e117 : T117.heap = h44) (N117 : Fr n0 l117) (z115 : Int32) (hz115 : z115 = own_den v38 v24 v26 wa wb), own_Ends p e below F (T117.setTop (mkF m 428 #[.val (.int p1), .val (.long wa), .second, .val (.long wb), .second, .val (.int p4), .val (.int p5), .val (.int p6), .val (.int z3), .val (.int v7), .val (.ref a9), .val (.ref a11), .val (.int v18), .val (.int v20), .val (.int v22), .val (.int v24), .val (.int v26), .val (.int v28), .val (.int v30), .val (.int v32), .val (.int v34), .val (.int v36), .val (.int v38), .val (.int v40), d42, .val (.int z110), .unset] [(.int z115)])) := by
              intro T117 l117 X117 e117 N117 z115 hz115
              obtain ⟨A118, hA118⟩ : ∃ z : Array Slot, z = #[.val (.int p1), .val (.long wa), .second, .val (.long wb), .second, .val (.int p4), .val (.int p5), .val (.int p6), .val (.int z3), .val (.int v7), .val (.ref a9), .val (.ref a11), .val (.int v18), .val (.int v20), .val (.int v22), .val (.int v24), .val (.int v26), .val (.int v28), .val (.int v30), .val (.int v32), .val (.int v34), .val (.int v36), .val (.int v38), .val (.int v40), d42, .val (.int z110), .unset] := ⟨_, rfl⟩
              rw [← hA118]
              show own_Ends p e below F (T117.setTop (mkF m 428 A118 [(.int z115)]))
              obtain ⟨A119, hA119⟩ : ∃ z : Array Slot, z = #[.val (.int p1), .val (.long wa), .second, .val (.long wb), .second, .val (.int p4), .val (.int p5), .val (.int p6), .val (.int z3), .val (.int v7), .val (.ref a9), .val (.ref a11), .val (.int v18), .val (.int v20), .val (.int v22), .val (.int v24), .val (.int v26), .val (.int v28), .val (.int v30), .val (.int v32), .val (.int v34), .val (.int v36), .val (.int v38), .val (.int v40), d42, .val (.int z110), .val (.int z115)] := ⟨_, rfl⟩
              refine own_step (fun _ k => XS.istore X117.here hx rfl (hb hby at_428) rfl (l' := A119) (by rw [hA118, hA119]; exact rfl) k) ?_
              show own_Ends p e below F (T117.setTop (mkF m 430 A119 []))
              refine own_step (fun _ k => XS.iload X117.here hx rfl (hb hby at_430) (by rw [hA119]; rfl) k) ?_
              show own_Ends p e below F (T117.setTop (mkF m 432 A119 [(.int z110)]))
              by_cases c432_120 : z110 = (0 : Int32)
              · refine own_step (fun _ k => XS.ifYes X117.here hx rfl (pc0 := 432) (pc' := 443) rfl (hb hby at_432) rfl ((if0 _ _).trans (teq c432_120).1) (by decide) (by decide) k) ?_
                show own_Ends p e below F (T117.setTop (mkF m 443 A119 []))
                refine own_step (fun _ k => XS.iload X117.here hx rfl (hb hby at_443) (by rw [hA119]; rfl) k) ?_
                show own_Ends p e below F (T117.setTop (mkF m 445 A119 [(.int z115)]))
                by_cases c445_121 : z115 = (0 : Int32)
                · refine own_step (fun _ k => XS.ifYes X117.here hx rfl (pc0 := 445) (pc' := 456) rfl (hb hby at_445) rfl ((if0 _ _).trans (teq c445_121).1) (by decide) (by decide) k) ?_
                  show own_Ends p e below F (T117.setTop (mkF m 456 A119 []))
                  obtain ⟨T122, X122, e122, st122⟩ := getS2 X117 hx hZ hown (host := "") (Or.inl (own_g hw 2 rfl)) Via.refl e117 Sno44 (g := (mkF m 456 A119 [])) rfl (hb hby at_456)
                  refine own_step st122 ?_
                  show own_Ends p e below F (T122.setTop (mkF m 459 A119 [(.ref no)]))
                  obtain ⟨A123, hA123⟩ : ∃ z : Array Slot, z = #[.val (.int p1), .val (.long wa), .second, .val (.long wb), .second, .val (.int p4), .val (.int p5), .val (.int p6), .val (.int z3), .val (.int v7), .val (.ref a9), .val (.ref a11), .val (.int v18), .val (.int v20), .val (.int v22), .val (.int v24), .val (.int v26), .val (.int v28), .val (.int v30), .val (.int v32), .val (.int v34), .val (.int v36), .val (.int v38), .val (.int v40), .val (.ref no), .val (.int z110), .val (.int z115)] := ⟨_, rfl⟩
                  refine own_step (fun _ k => XS.astore X122.here hx rfl (hb hby at_459) rfl rfl (l' := A123) (by rw [hA119, hA123]; exact (XS.store1 (o := d42) rfl od42 rfl)) k) ?_
                  show own_Ends p e below F (T122.setTop (mkF m 461 A123 []))
                  refine own_step (fun _ k => XS.goto X122.here hx rfl (pc0 := 461) (pc' := 569) rfl (hb hby at_461) (by decide) (by decide) k) ?_
                  show own_Ends p e below F (T122.setTop (mkF m 569 A123 []))
                  rw [hA123]
                  exact J333_50 _ _ X122 e122 N117 _ _ _ (by simp only [own_exp, ← hz110, ← hz115, c333_54, c349_55, c432_120, c445_121, if_true, if_false]) (One.val rfl) (One.val rfl)
                · refine own_step (fun _ k => XS.ifNo X117.here hx rfl (hb hby at_445) rfl ((if0 _ _).trans (feq c445_121).1) k) ?_
                  show own_Ends p e below F (T117.setTop (mkF m 448 A119 []))
                  obtain ⟨T124, X124, e124, st124⟩ := getS2 X117 hx hZ hown (host := "") (Or.inl (own_g hw 10 rfl)) Via.refl e117 Spe44 (g := (mkF m 448 A119 [])) rfl (hb hby at_448)
                  refine own_step st124 ?_
                  show own_Ends p e below F (T124.setTop (mkF m 451 A119 [(.ref pe)]))
                  obtain ⟨A125, hA125⟩ : ∃ z : Array Slot, z = #[.val (.int p1), .val (.long wa), .second, .val (.long wb), .second, .val (.int p4), .val (.int p5), .val (.int p6), .val (.int z3), .val (.int v7), .val (.ref a9), .val (.ref a11), .val (.int v18), .val (.int v20), .val (.int v22), .val (.int v24), .val (.int v26), .val (.int v28), .val (.int v30), .val (.int v32), .val (.int v34), .val (.int v36), .val (.int v38), .val (.int v40), .val (.ref pe), .val (.int z110), .val (.int z115)] := ⟨_, rfl⟩
                  refine own_step (fun _ k => XS.astore X124.here hx rfl (hb hby at_451) rfl rfl (l' := A125) (by rw [hA119, hA125]; exact (XS.store1 (o := d42) rfl od42 rfl)) k) ?_
                  show own_Ends p e below F (T124.setTop (mkF m 453 A125 []))
                  refine own_step (fun _ k => XS.goto X124.here hx rfl (pc0 := 453) (pc' := 461) rfl (hb hby at_453) (by decide) (by decide) k) ?_
                  show own_Ends p e below F (T124.setTop (mkF m 461 A125 []))
                  refine own_step (fun _ k => XS.goto X124.here hx rfl (pc0 := 461) (pc' := 569) rfl (hb hby at_461) (by decide) (by decide) k) ?_
                  show own_Ends p e below F (T124.setTop (mkF m 569 A125 []))
                  rw [hA125]
                  exact J333_50 _ _ X124 e124 N117 _ _ _ (by simp only [own_exp, ← hz110, ← hz115, c333_54, c349_55, c432_120, c445_121, if_true, if_false]) (One.val rfl) (One.val rfl)
              · refine own_step (fun _ k => XS.ifNo X117.here hx rfl (hb hby at_432) rfl ((if0 _ _).trans (feq c432_120).1) k) ?_
                show own_Ends p e below F (T117.setTop (mkF m 435 A119 []))
                obtain ⟨T126, X126, e126, st126⟩ := getS2 X117 hx hZ hown (host := "") (Or.inl (own_g hw 17 rfl)) Via.refl e117 Sde44 (g := (mkF m 435 A119 [])) rfl (hb hby at_435)
                refine own_step st126 ?_
                show own_Ends p e below F (T126.setTop (mkF m 438 A119 [(.ref de)]))
                obtain ⟨A127, hA127⟩ : ∃ z : Array Slot, z = #[.val (.int p1), .val (.long wa), .second, .val (.long wb), .second, .val (.int p4), .val (.int p5), .val (.int p6), .val (.int z3), .val (.int v7), .val (.ref a9), .val (.ref a11), .val (.int v18), .val (.int v20), .val (.int v22), .val (.int v24), .val (.int v26), .val (.int v28), .val (.int v30), .val (.int v32), .val (.int v34), .val (.int v36), .val (.int v38), .val (.int v40), .val (.ref de), .val (.int z110), .val (.int z115)] := ⟨_, rfl⟩
                refine own_step (fun _ k => XS.astore X126.here hx rfl (hb hby at_438) rfl rfl (l' := A127) (by rw [hA119, hA127]; exact (XS.store1 (o := d42) rfl od42 rfl)) k) ?_
                show own_Ends p e below F (T126.setTop (mkF m 440 A127 []))
                refine own_step (fun _ k => XS.goto X126.here hx rfl (pc0 := 440) (pc' := 461) rfl (hb hby at_440) (by decide) (by decide) k) ?_
                show own_Ends p e below F (T126.setTop (mkF m 461 A127 []))
                refine own_step (fun _ k => XS.goto X126.here hx rfl (pc0 := 461) (pc' := 569) rfl (hb hby at_461) (by decide) (by decide) k) ?_
                show own_Ends p e below F (T126.setTop (mkF m 569 A127 []))
                rw [hA127]
                exact J333_50 _ _ X126 e126 N117 _ _ _ (by simp only [own_exp, ← hz110, ← hz115, c333_54, c349_55, c432_120, if_true, if_false]) (One.val rfl) (One.val rfl)
            by_cases c394_128 : v38 < (1 : Int32)
            · refine own_step (fun _ k => XS.icmpYes X112.here hx rfl (pc0 := 394) (pc' := 407) rfl (hb hby at_394) rfl (tlt c394_128).1 (by decide) (by decide) k) ?_
              show own_Ends p e below F (T112.setTop (mkF m 407 A114 []))
              refine own_step (fun _ k => XS.iload X112.here hx rfl (hb hby at_407) (by rw [hA114]; rfl) k) ?_
              show own_Ends p e below F (T112.setTop (mkF m 409 A114 [(.int v38)]))
              refine own_step (fun _ k => XS.iconst X112.here hx rfl (hb hby at_409) k) ?_
              show own_Ends p e below F (T112.setTop (mkF m 410 A114 [(.int (2 : Int32)), (.int v38)]))
              by_cases c410_129 : v38 < (2 : Int32)
              · refine own_step (fun _ k => XS.icmpYes X112.here hx rfl (pc0 := 410) (pc' := 427) rfl (hb hby at_410) rfl (tlt c410_129).1 (by decide) (by decide) k) ?_
                show own_Ends p e below F (T112.setTop (mkF m 427 A114 []))
                refine own_step (fun _ k => XS.iconst X112.here hx rfl (hb hby at_427) k) ?_
                show own_Ends p e below F (T112.setTop (mkF m 428 A114 [(.int (0 : Int32))]))
                rw [hA114]
                exact J394_116 _ _ X112 e112 N112 _ (by simp only [own_den, c394_128, c410_129, if_true, if_false])
              · refine own_step (fun _ k => XS.icmpNo X112.here hx rfl (hb hby at_410) rfl (flt c410_129).1 k) ?_
                show own_Ends p e below F (T112.setTop (mkF m 413 A114 []))
                refine own_step (fun _ k => XS.lloadN X112.here hx rfl (hb hby at_413) (by rw [hA114]; rfl) k) ?_
                show own_Ends p e below F (T112.setTop (mkF m 414 A114 [(.long wa)]))
                refine own_step (fun _ k => XS.lloadN X112.here hx rfl (hb hby at_414) (by rw [hA114]; rfl) k) ?_
                show own_Ends p e below F (T112.setTop (mkF m 415 A114 [(.long wb), (.long wa)]))
                refine own_step (fun _ k => XS.iload X112.here hx rfl (hb hby at_415) (by rw [hA114]; rfl) k) ?_
                show own_Ends p e below F (T112.setTop (mkF m 417 A114 [(.int v26), (.long wb), (.long wa)]))
                obtain ⟨_, _, ⟨T130, L130, k130, n130⟩, -, X130, ⟨Lc130, hQ130, l130, y130, z130⟩, st130⟩ := Jvm.LawKit.callS X112 hx (y := (⟨"com/example/entitlement/entitlement/service/AclCodeOwnPinLaw", "has", "(JJI)Z"⟩ : MethodName)) hown (mvT hZ (own_g hw 13 rfl)) (mvT hZ (own_g hw 14 rfl)) (mvT hZ (own_g hw 15 rfl)) (mvT hZ (own_g hw 16 rfl)) (by decide) (backOf (W := 0) (rm2 l Z a0 hw [] wa wb v26 h44 n0 Z44) hZ (own_g hw 16 rfl) (own_g hw 15 rfl) (by decide) (by decide)) (g := (mkF m 417 A114 [(.int v26), (.long wb), (.long wa)])) rfl (by rw [hml]; show A114.size = _; rw [hA114]; rfl) (argsL := [(.long wa), (.long wb), (.int v26)]) (rest := []) (lenOf pd__28JJI_29Z rfl) rfl (by show 2 * 0 + _ ≤ _; exact Nat.le_of_eq rfl) (hb hby at_417) (fun _ _ => ⟨rfl, e112, (by decide : 2 + 0 ≤ _), (by decide : 12 + 0 ≤ _)⟩)
                dsimp only [Pt.U, Pt.locs, Pt.cells, Pt.slots] at X130 l130 y130 z130 st130 hQ130
                subst l130 y130 z130
                obtain ⟨rfl, Nq130, eq130⟩ := hQ130
                have N130 := Fr.app N112 Nq130
                refine own_step st130 ?_
                show own_Ends p e below F (T130.setTop (mkF m 420 A114 [(.int (own_has wa wb v26))]))
                by_cases c420_131 : (own_has wa wb v26) = (0 : Int32)
                · refine own_step (fun _ k => XS.ifYes X130.here hx rfl (pc0 := 420) (pc' := 427) rfl (hb hby at_420) rfl ((if0 _ _).trans (teq c420_131).1) (by decide) (by decide) k) ?_
                  show own_Ends p e below F (T130.setTop (mkF m 427 A114 []))
                  refine own_step (fun _ k => XS.iconst X130.here hx rfl (hb hby at_427) k) ?_
                  show own_Ends p e below F (T130.setTop (mkF m 428 A114 [(.int (0 : Int32))]))
                  rw [hA114]
                  exact J394_116 _ _ X130 eq130 N130 _ (by simp only [own_den, c394_128, c410_129, c420_131, if_true, if_false])
                · refine own_step (fun _ k => XS.ifNo X130.here hx rfl (hb hby at_420) rfl ((if0 _ _).trans (feq c420_131).1) k) ?_
                  show own_Ends p e below F (T130.setTop (mkF m 423 A114 []))
                  refine own_step (fun _ k => XS.iconst X130.here hx rfl (hb hby at_423) k) ?_
                  show own_Ends p e below F (T130.setTop (mkF m 424 A114 [(.int (1 : Int32))]))
                  refine own_step (fun _ k => XS.goto X130.here hx rfl (pc0 := 424) (pc' := 428) rfl (hb hby at_424) (by decide) (by decide) k) ?_
                  show own_Ends p e below F (T130.setTop (mkF m 428 A114 [(.int (1 : Int32))]))
                  rw [hA114]
                  exact J394_116 _ _ X130 eq130 N130 _ (by simp only [own_den, c394_128, c410_129, c420_131, if_true, if_false])
            · refine own_step (fun _ k => XS.icmpNo X112.here hx rfl (hb hby at_394) rfl (flt c394_128).1 k) ?_
              show own_Ends p e below F (T112.setTop (mkF m 397 A114 []))
              refine own_step (fun _ k => XS.lloadN X112.here hx rfl (hb hby at_397) (by rw [hA114]; rfl) k) ?_
              show own_Ends p e below F (T112.setTop (mkF m 398 A114 [(.long wa)]))
              refine own_step (fun _ k => XS.lloadN X112.here hx rfl (hb hby at_398) (by rw [hA114]; rfl) k) ?_
              show own_Ends p e below F (T112.setTop (mkF m 399 A114 [(.long wb), (.long wa)]))
              refine own_step (fun _ k => XS.iload X112.here hx rfl (hb hby at_399) (by rw [hA114]; rfl) k) ?_
              show own_Ends p e below F (T112.setTop (mkF m 401 A114 [(.int v24), (.long wb), (.long wa)]))
              obtain ⟨_, _, ⟨T132, L132, k132, n132⟩, -, X132, ⟨Lc132, hQ132, l132, y132, z132⟩, st132⟩ := Jvm.LawKit.callS X112 hx (y := (⟨"com/example/entitlement/entitlement/service/AclCodeOwnPinLaw", "has", "(JJI)Z"⟩ : MethodName)) hown (mvT hZ (own_g hw 13 rfl)) (mvT hZ (own_g hw 14 rfl)) (mvT hZ (own_g hw 15 rfl)) (mvT hZ (own_g hw 16 rfl)) (by decide) (backOf (W := 0) (rm2 l Z a0 hw [] wa wb v24 h44 n0 Z44) hZ (own_g hw 16 rfl) (own_g hw 15 rfl) (by decide) (by decide)) (g := (mkF m 401 A114 [(.int v24), (.long wb), (.long wa)])) rfl (by rw [hml]; show A114.size = _; rw [hA114]; rfl) (argsL := [(.long wa), (.long wb), (.int v24)]) (rest := []) (lenOf pd__28JJI_29Z rfl) rfl (by show 2 * 0 + _ ≤ _; exact Nat.le_of_eq rfl) (hb hby at_401) (fun _ _ => ⟨rfl, e112, (by decide : 2 + 0 ≤ _), (by decide : 12 + 0 ≤ _)⟩)
              dsimp only [Pt.U, Pt.locs, Pt.cells, Pt.slots] at X132 l132 y132 z132 st132 hQ132
              subst l132 y132 z132
              obtain ⟨rfl, Nq132, eq132⟩ := hQ132
              have N132 := Fr.app N112 Nq132
              refine own_step st132 ?_
              show own_Ends p e below F (T132.setTop (mkF m 404 A114 [(.int (own_has wa wb v24))]))
              by_cases c404_133 : (own_has wa wb v24) = (0 : Int32)
              · refine own_step (fun _ k => XS.ifNo X132.here hx rfl (hb hby at_404) rfl ((if0 _ _).trans (teq c404_133).2) k) ?_
                show own_Ends p e below F (T132.setTop (mkF m 407 A114 []))
                refine own_step (fun _ k => XS.iload X132.here hx rfl (hb hby at_407) (by rw [hA114]; rfl) k) ?_
                show own_Ends p e below F (T132.setTop (mkF m 409 A114 [(.int v38)]))
                refine own_step (fun _ k => XS.iconst X132.here hx rfl (hb hby at_409) k) ?_
                show own_Ends p e below F (T132.setTop (mkF m 410 A114 [(.int (2 : Int32)), (.int v38)]))
                by_cases c410_134 : v38 < (2 : Int32)
                · refine own_step (fun _ k => XS.icmpYes X132.here hx rfl (pc0 := 410) (pc' := 427) rfl (hb hby at_410) rfl (tlt c410_134).1 (by decide) (by decide) k) ?_
                  show own_Ends p e below F (T132.setTop (mkF m 427 A114 []))
                  refine own_step (fun _ k => XS.iconst X132.here hx rfl (hb hby at_427) k) ?_
                  show own_Ends p e below F (T132.setTop (mkF m 428 A114 [(.int (0 : Int32))]))
                  rw [hA114]
                  exact J394_116 _ _ X132 eq132 N132 _ (by simp only [own_den, c394_128, c404_133, c410_134, if_true, if_false])
                · refine own_step (fun _ k => XS.icmpNo X132.here hx rfl (hb hby at_410) rfl (flt c410_134).1 k) ?_
                  show own_Ends p e below F (T132.setTop (mkF m 413 A114 []))
                  refine own_step (fun _ k => XS.lloadN X132.here hx rfl (hb hby at_413) (by rw [hA114]; rfl) k) ?_
                  show own_Ends p e below F (T132.setTop (mkF m 414 A114 [(.long wa)]))
                  refine own_step (fun _ k => XS.lloadN X132.here hx rfl (hb hby at_414) (by rw [hA114]; rfl) k) ?_
                  show own_Ends p e below F (T132.setTop (mkF m 415 A114 [(.long wb), (.long wa)]))
                  refine own_step (fun _ k => XS.iload X132.here hx rfl (hb hby at_415) (by rw [hA114]; rfl) k) ?_
                  show own_Ends p e below F (T132.setTop (mkF m 417 A114 [(.int v26), (.long wb), (.long wa)]))
                  obtain ⟨_, _, ⟨T135, L135, k135, n135⟩, -, X135, ⟨Lc135, hQ135, l135, y135, z135⟩, st135⟩ := Jvm.LawKit.callS X132 hx (y := (⟨"com/example/entitlement/entitlement/service/AclCodeOwnPinLaw", "has", "(JJI)Z"⟩ : MethodName)) hown (mvT hZ (own_g hw 13 rfl)) (mvT hZ (own_g hw 14 rfl)) (mvT hZ (own_g hw 15 rfl)) (mvT hZ (own_g hw 16 rfl)) (by decide) (backOf (W := 0) (rm2 l Z a0 hw [] wa wb v26 h44 n0 Z44) hZ (own_g hw 16 rfl) (own_g hw 15 rfl) (by decide) (by decide)) (g := (mkF m 417 A114 [(.int v26), (.long wb), (.long wa)])) rfl (by rw [hml]; show A114.size = _; rw [hA114]; rfl) (argsL := [(.long wa), (.long wb), (.int v26)]) (rest := []) (lenOf pd__28JJI_29Z rfl) rfl (by show 2 * 0 + _ ≤ _; exact Nat.le_of_eq rfl) (hb hby at_417) (fun _ _ => ⟨rfl, eq132, (by decide : 2 + 0 ≤ _), (by decide : 12 + 0 ≤ _)⟩)
                  dsimp only [Pt.U, Pt.locs, Pt.cells, Pt.slots] at X135 l135 y135 z135 st135 hQ135
                  subst l135 y135 z135
                  obtain ⟨rfl, Nq135, eq135⟩ := hQ135
                  have N135 := Fr.app N132 Nq135
                  refine own_step st135 ?_
                  show own_Ends p e below F (T135.setTop (mkF m 420 A114 [(.int (own_has wa wb v26))]))
                  by_cases c420_136 : (own_has wa wb v26) = (0 : Int32)
                  · refine own_step (fun _ k => XS.ifYes X135.here hx rfl (pc0 := 420) (pc' := 427) rfl (hb hby at_420) rfl ((if0 _ _).trans (teq c420_136).1) (by decide) (by decide) k) ?_
                    show own_Ends p e below F (T135.setTop (mkF m 427 A114 []))
                    refine own_step (fun _ k => XS.iconst X135.here hx rfl (hb hby at_427) k) ?_
                    show own_Ends p e below F (T135.setTop (mkF m 428 A114 [(.int (0 : Int32))]))
                    rw [hA114]
                    exact J394_116 _ _ X135 eq135 N135 _ (by simp only [own_den, c394_128, c404_133, c410_134, c420_136, if_true, if_false])
                  · refine own_step (fun _ k => XS.ifNo X135.here hx rfl (hb hby at_420) rfl ((if0 _ _).trans (feq c420_136).1) k) ?_
                    show own_Ends p e below F (T135.setTop (mkF m 423 A114 []))
                    refine own_step (fun _ k => XS.iconst X135.here hx rfl (hb hby at_423) k) ?_
                    show own_Ends p e below F (T135.setTop (mkF m 424 A114 [(.int (1 : Int32))]))
                    refine own_step (fun _ k => XS.goto X135.here hx rfl (pc0 := 424) (pc' := 428) rfl (hb hby at_424) (by decide) (by decide) k) ?_
                    show own_Ends p e below F (T135.setTop (mkF m 428 A114 [(.int (1 : Int32))]))
                    rw [hA114]
                    exact J394_116 _ _ X135 eq135 N135 _ (by simp only [own_den, c394_128, c404_133, c410_134, c420_136, if_true, if_false])
              · refine own_step (fun _ k => XS.ifYes X132.here hx rfl (pc0 := 404) (pc' := 423) rfl (hb hby at_404) rfl ((if0 _ _).trans (feq c404_133).2) (by decide) (by decide) k) ?_
                show own_Ends p e below F (T132.setTop (mkF m 423 A114 []))
                refine own_step (fun _ k => XS.iconst X132.here hx rfl (hb hby at_423) k) ?_
                show own_Ends p e below F (T132.setTop (mkF m 424 A114 [(.int (1 : Int32))]))
                refine own_step (fun _ k => XS.goto X132.here hx rfl (pc0 := 424) (pc' := 428) rfl (hb hby at_424) (by decide) (by decide) k) ?_
                show own_Ends p e below F (T132.setTop (mkF m 428 A114 [(.int (1 : Int32))]))
                rw [hA114]
                exact J394_116 _ _ X132 eq132 N132 _ (by simp only [own_den, c394_128, c404_133, if_true, if_false])
          by_cases c355_137 : v36 < (1 : Int32)
          · refine own_step (fun _ k => XS.icmpYes X44.here hx rfl (pc0 := 355) (pc' := 368) rfl (hb hby at_355) rfl (tlt c355_137).1 (by decide) (by decide) k) ?_
            show own_Ends p e below F (T44.setTop (mkF m 368 A46 []))
            refine own_step (fun _ k => XS.iload X44.here hx rfl (hb hby at_368) (by rw [hA46]; rfl) k) ?_
            show own_Ends p e below F (T44.setTop (mkF m 370 A46 [(.int v36)]))
            refine own_step (fun _ k => XS.iconst X44.here hx rfl (hb hby at_370) k) ?_
            show own_Ends p e below F (T44.setTop (mkF m 371 A46 [(.int (2 : Int32)), (.int v36)]))
            by_cases c371_138 : v36 < (2 : Int32)
            · refine own_step (fun _ k => XS.icmpYes X44.here hx rfl (pc0 := 371) (pc' := 388) rfl (hb hby at_371) rfl (tlt c371_138).1 (by decide) (by decide) k) ?_
              show own_Ends p e below F (T44.setTop (mkF m 388 A46 []))
              refine own_step (fun _ k => XS.iconst X44.here hx rfl (hb hby at_388) k) ?_
              show own_Ends p e below F (T44.setTop (mkF m 389 A46 [(.int (0 : Int32))]))
              rw [hA46]
              exact J355_111 _ _ X44 e44 N44 _ (by simp only [own_den, c355_137, c371_138, if_true, if_false])
            · refine own_step (fun _ k => XS.icmpNo X44.here hx rfl (hb hby at_371) rfl (flt c371_138).1 k) ?_
              show own_Ends p e below F (T44.setTop (mkF m 374 A46 []))
              refine own_step (fun _ k => XS.lloadN X44.here hx rfl (hb hby at_374) (by rw [hA46]; rfl) k) ?_
              show own_Ends p e below F (T44.setTop (mkF m 375 A46 [(.long wa)]))
              refine own_step (fun _ k => XS.lloadN X44.here hx rfl (hb hby at_375) (by rw [hA46]; rfl) k) ?_
              show own_Ends p e below F (T44.setTop (mkF m 376 A46 [(.long wb), (.long wa)]))
              refine own_step (fun _ k => XS.iload X44.here hx rfl (hb hby at_376) (by rw [hA46]; rfl) k) ?_
              show own_Ends p e below F (T44.setTop (mkF m 378 A46 [(.int v22), (.long wb), (.long wa)]))
              obtain ⟨_, _, ⟨T139, L139, k139, n139⟩, -, X139, ⟨Lc139, hQ139, l139, y139, z139⟩, st139⟩ := Jvm.LawKit.callS X44 hx (y := (⟨"com/example/entitlement/entitlement/service/AclCodeOwnPinLaw", "has", "(JJI)Z"⟩ : MethodName)) hown (mvT hZ (own_g hw 13 rfl)) (mvT hZ (own_g hw 14 rfl)) (mvT hZ (own_g hw 15 rfl)) (mvT hZ (own_g hw 16 rfl)) (by decide) (backOf (W := 0) (rm2 l Z a0 hw [] wa wb v22 h44 n0 Z44) hZ (own_g hw 16 rfl) (own_g hw 15 rfl) (by decide) (by decide)) (g := (mkF m 378 A46 [(.int v22), (.long wb), (.long wa)])) rfl (by rw [hml]; show A46.size = _; rw [hA46]; rfl) (argsL := [(.long wa), (.long wb), (.int v22)]) (rest := []) (lenOf pd__28JJI_29Z rfl) rfl (by show 2 * 0 + _ ≤ _; exact Nat.le_of_eq rfl) (hb hby at_378) (fun _ _ => ⟨rfl, e44, (by decide : 2 + 0 ≤ _), (by decide : 12 + 0 ≤ _)⟩)
              dsimp only [Pt.U, Pt.locs, Pt.cells, Pt.slots] at X139 l139 y139 z139 st139 hQ139
              subst l139 y139 z139
              obtain ⟨rfl, Nq139, eq139⟩ := hQ139
              have N139 := Fr.app N44 Nq139
              refine own_step st139 ?_
              show own_Ends p e below F (T139.setTop (mkF m 381 A46 [(.int (own_has wa wb v22))]))
              by_cases c381_140 : (own_has wa wb v22) = (0 : Int32)
              · refine own_step (fun _ k => XS.ifYes X139.here hx rfl (pc0 := 381) (pc' := 388) rfl (hb hby at_381) rfl ((if0 _ _).trans (teq c381_140).1) (by decide) (by decide) k) ?_
                show own_Ends p e below F (T139.setTop (mkF m 388 A46 []))
                refine own_step (fun _ k => XS.iconst X139.here hx rfl (hb hby at_388) k) ?_
                show own_Ends p e below F (T139.setTop (mkF m 389 A46 [(.int (0 : Int32))]))
                rw [hA46]
                exact J355_111 _ _ X139 eq139 N139 _ (by simp only [own_den, c355_137, c371_138, c381_140, if_true, if_false])
              · refine own_step (fun _ k => XS.ifNo X139.here hx rfl (hb hby at_381) rfl ((if0 _ _).trans (feq c381_140).1) k) ?_
                show own_Ends p e below F (T139.setTop (mkF m 384 A46 []))
                refine own_step (fun _ k => XS.iconst X139.here hx rfl (hb hby at_384) k) ?_
                show own_Ends p e below F (T139.setTop (mkF m 385 A46 [(.int (1 : Int32))]))
                refine own_step (fun _ k => XS.goto X139.here hx rfl (pc0 := 385) (pc' := 389) rfl (hb hby at_385) (by decide) (by decide) k) ?_
                show own_Ends p e below F (T139.setTop (mkF m 389 A46 [(.int (1 : Int32))]))
                rw [hA46]
                exact J355_111 _ _ X139 eq139 N139 _ (by simp only [own_den, c355_137, c371_138, c381_140, if_true, if_false])
          · refine own_step (fun _ k => XS.icmpNo X44.here hx rfl (hb hby at_355) rfl (flt c355_137).1 k) ?_
            show own_Ends p e below F (T44.setTop (mkF m 358 A46 []))
            refine own_step (fun _ k => XS.lloadN X44.here hx rfl (hb hby at_358) (by rw [hA46]; rfl) k) ?_
            show own_Ends p e below F (T44.setTop (mkF m 359 A46 [(.long wa)]))
            refine own_step (fun _ k => XS.lloadN X44.here hx rfl (hb hby at_359) (by rw [hA46]; rfl) k) ?_
            show own_Ends p e below F (T44.setTop (mkF m 360 A46 [(.long wb), (.long wa)]))
            refine own_step (fun _ k => XS.iload X44.here hx rfl (hb hby at_360) (by rw [hA46]; rfl) k) ?_
            show own_Ends p e below F (T44.setTop (mkF m 362 A46 [(.int v20), (.long wb), (.long wa)]))
            obtain ⟨_, _, ⟨T141, L141, k141, n141⟩, -, X141, ⟨Lc141, hQ141, l141, y141, z141⟩, st141⟩ := Jvm.LawKit.callS X44 hx (y := (⟨"com/example/entitlement/entitlement/service/AclCodeOwnPinLaw", "has", "(JJI)Z"⟩ : MethodName)) hown (mvT hZ (own_g hw 13 rfl)) (mvT hZ (own_g hw 14 rfl)) (mvT hZ (own_g hw 15 rfl)) (mvT hZ (own_g hw 16 rfl)) (by decide) (backOf (W := 0) (rm2 l Z a0 hw [] wa wb v20 h44 n0 Z44) hZ (own_g hw 16 rfl) (own_g hw 15 rfl) (by decide) (by decide)) (g := (mkF m 362 A46 [(.int v20), (.long wb), (.long wa)])) rfl (by rw [hml]; show A46.size = _; rw [hA46]; rfl) (argsL := [(.long wa), (.long wb), (.int v20)]) (rest := []) (lenOf pd__28JJI_29Z rfl) rfl (by show 2 * 0 + _ ≤ _; exact Nat.le_of_eq rfl) (hb hby at_362) (fun _ _ => ⟨rfl, e44, (by decide : 2 + 0 ≤ _), (by decide : 12 + 0 ≤ _)⟩)
            dsimp only [Pt.U, Pt.locs, Pt.cells, Pt.slots] at X141 l141 y141 z141 st141 hQ141
            subst l141 y141 z141
            obtain ⟨rfl, Nq141, eq141⟩ := hQ141
            have N141 := Fr.app N44 Nq141
            refine own_step st141 ?_
            show own_Ends p e below F (T141.setTop (mkF m 365 A46 [(.int (own_has wa wb v20))]))
            by_cases c365_142 : (own_has wa wb v20) = (0 : Int32)
            · refine own_step (fun _ k => XS.ifNo X141.here hx rfl (hb hby at_365) rfl ((if0 _ _).trans (teq c365_142).2) k) ?_
              show own_Ends p e below F (T141.setTop (mkF m 368 A46 []))
              refine own_step (fun _ k => XS.iload X141.here hx rfl (hb hby at_368) (by rw [hA46]; rfl) k) ?_
              show own_Ends p e below F (T141.setTop (mkF m 370 A46 [(.int v36)]))
              refine own_step (fun _ k => XS.iconst X141.here hx rfl (hb hby at_370) k) ?_
              show own_Ends p e below F (T141.setTop (mkF m 371 A46 [(.int (2 : Int32)), (.int v36)]))
              by_cases c371_143 : v36 < (2 : Int32)
              · refine own_step (fun _ k => XS.icmpYes X141.here hx rfl (pc0 := 371) (pc' := 388) rfl (hb hby at_371) rfl (tlt c371_143).1 (by decide) (by decide) k) ?_
                show own_Ends p e below F (T141.setTop (mkF m 388 A46 []))
                refine own_step (fun _ k => XS.iconst X141.here hx rfl (hb hby at_388) k) ?_
                show own_Ends p e below F (T141.setTop (mkF m 389 A46 [(.int (0 : Int32))]))
                rw [hA46]
                exact J355_111 _ _ X141 eq141 N141 _ (by simp only [own_den, c355_137, c365_142, c371_143, if_true, if_false])
              · refine own_step (fun _ k => XS.icmpNo X141.here hx rfl (hb hby at_371) rfl (flt c371_143).1 k) ?_
                show own_Ends p e below F (T141.setTop (mkF m 374 A46 []))
                refine own_step (fun _ k => XS.lloadN X141.here hx rfl (hb hby at_374) (by rw [hA46]; rfl) k) ?_
                show own_Ends p e below F (T141.setTop (mkF m 375 A46 [(.long wa)]))
                refine own_step (fun _ k => XS.lloadN X141.here hx rfl (hb hby at_375) (by rw [hA46]; rfl) k) ?_
                show own_Ends p e below F (T141.setTop (mkF m 376 A46 [(.long wb), (.long wa)]))
                refine own_step (fun _ k => XS.iload X141.here hx rfl (hb hby at_376) (by rw [hA46]; rfl) k) ?_
                show own_Ends p e below F (T141.setTop (mkF m 378 A46 [(.int v22), (.long wb), (.long wa)]))
                obtain ⟨_, _, ⟨T144, L144, k144, n144⟩, -, X144, ⟨Lc144, hQ144, l144, y144, z144⟩, st144⟩ := Jvm.LawKit.callS X141 hx (y := (⟨"com/example/entitlement/entitlement/service/AclCodeOwnPinLaw", "has", "(JJI)Z"⟩ : MethodName)) hown (mvT hZ (own_g hw 13 rfl)) (mvT hZ (own_g hw 14 rfl)) (mvT hZ (own_g hw 15 rfl)) (mvT hZ (own_g hw 16 rfl)) (by decide) (backOf (W := 0) (rm2 l Z a0 hw [] wa wb v22 h44 n0 Z44) hZ (own_g hw 16 rfl) (own_g hw 15 rfl) (by decide) (by decide)) (g := (mkF m 378 A46 [(.int v22), (.long wb), (.long wa)])) rfl (by rw [hml]; show A46.size = _; rw [hA46]; rfl) (argsL := [(.long wa), (.long wb), (.int v22)]) (rest := []) (lenOf pd__28JJI_29Z rfl) rfl (by show 2 * 0 + _ ≤ _; exact Nat.le_of_eq rfl) (hb hby at_378) (fun _ _ => ⟨rfl, eq141, (by decide : 2 + 0 ≤ _), (by decide : 12 + 0 ≤ _)⟩)
                dsimp only [Pt.U, Pt.locs, Pt.cells, Pt.slots] at X144 l144 y144 z144 st144 hQ144
                subst l144 y144 z144
                obtain ⟨rfl, Nq144, eq144⟩ := hQ144
                have N144 := Fr.app N141 Nq144
                refine own_step st144 ?_
                show own_Ends p e below F (T144.setTop (mkF m 381 A46 [(.int (own_has wa wb v22))]))
                by_cases c381_145 : (own_has wa wb v22) = (0 : Int32)
                · refine own_step (fun _ k => XS.ifYes X144.here hx rfl (pc0 := 381) (pc' := 388) rfl (hb hby at_381) rfl ((if0 _ _).trans (teq c381_145).1) (by decide) (by decide) k) ?_
                  show own_Ends p e below F (T144.setTop (mkF m 388 A46 []))
                  refine own_step (fun _ k => XS.iconst X144.here hx rfl (hb hby at_388) k) ?_
                  show own_Ends p e below F (T144.setTop (mkF m 389 A46 [(.int (0 : Int32))]))
                  rw [hA46]
                  exact J355_111 _ _ X144 eq144 N144 _ (by simp only [own_den, c355_137, c365_142, c371_143, c381_145, if_true, if_false])
                · refine own_step (fun _ k => XS.ifNo X144.here hx rfl (hb hby at_381) rfl ((if0 _ _).trans (feq c381_145).1) k) ?_
                  show own_Ends p e below F (T144.setTop (mkF m 384 A46 []))
                  refine own_step (fun _ k => XS.iconst X144.here hx rfl (hb hby at_384) k) ?_
                  show own_Ends p e below F (T144.setTop (mkF m 385 A46 [(.int (1 : Int32))]))
                  refine own_step (fun _ k => XS.goto X144.here hx rfl (pc0 := 385) (pc' := 389) rfl (hb hby at_385) (by decide) (by decide) k) ?_
                  show own_Ends p e below F (T144.setTop (mkF m 389 A46 [(.int (1 : Int32))]))
                  rw [hA46]
                  exact J355_111 _ _ X144 eq144 N144 _ (by simp only [own_den, c355_137, c365_142, c371_143, c381_145, if_true, if_false])
            · refine own_step (fun _ k => XS.ifYes X141.here hx rfl (pc0 := 365) (pc' := 384) rfl (hb hby at_365) rfl ((if0 _ _).trans (feq c365_142).2) (by decide) (by decide) k) ?_
              show own_Ends p e below F (T141.setTop (mkF m 384 A46 []))
              refine own_step (fun _ k => XS.iconst X141.here hx rfl (hb hby at_384) k) ?_
              show own_Ends p e below F (T141.setTop (mkF m 385 A46 [(.int (1 : Int32))]))
              refine own_step (fun _ k => XS.goto X141.here hx rfl (pc0 := 385) (pc' := 389) rfl (hb hby at_385) (by decide) (by decide) k) ?_
              show own_Ends p e below F (T141.setTop (mkF m 389 A46 [(.int (1 : Int32))]))
              rw [hA46]
              exact J355_111 _ _ X141 eq141 N141 _ (by simp only [own_den, c355_137, c365_142, if_true, if_false])
      · refine own_step (fun _ k => XS.ifNo X44.here hx rfl (hb hby at_333) rfl ((if0 _ _).trans (feq c333_54).1) k) ?_
        show own_Ends p e below F (T44.setTop (mkF m 336 A46 []))
        obtain ⟨T146, X146, e146, st146⟩ := getS2 X44 hx hZ hown (host := "") (Or.inl (own_g hw 10 rfl)) Via.refl e44 Spe44 (g := (mkF m 336 A46 [])) rfl (hb hby at_336)
        refine own_step st146 ?_
        show own_Ends p e below F (T146.setTop (mkF m 339 A46 [(.ref pe)]))
        obtain ⟨A147, hA147⟩ : ∃ z : Array Slot, z = #[.val (.int p1), .val (.long wa), .second, .val (.long wb), .second, .val (.int p4), .val (.int p5), .val (.int p6), .val (.int z3), .val (.int v7), .val (.ref a9), .val (.ref a11), .val (.int v18), .val (.int v20), .val (.int v22), .val (.int v24), .val (.int v26), .val (.int v28), .val (.int v30), .val (.int v32), .val (.int v34), .val (.int v36), .val (.int v38), .val (.int v40), .val (.ref pe), .unset, .unset] := ⟨_, rfl⟩
        refine own_step (fun _ k => XS.astore X146.here hx rfl (hb hby at_339) rfl rfl (l' := A147) (by rw [hA46, hA147]; exact (XS.store1 (o := d42) rfl od42 rfl)) k) ?_
        show own_Ends p e below F (T146.setTop (mkF m 341 A147 []))
        refine own_step (fun _ k => XS.goto X146.here hx rfl (pc0 := 341) (pc' := 569) rfl (hb hby at_341) (by decide) (by decide) k) ?_
        show own_Ends p e below F (T146.setTop (mkF m 569 A147 []))
        rw [hA147]
        exact J333_50 _ _ X146 e146 N44 _ _ _ (by simp only [own_exp, c333_54, if_true, if_false]) One.u One.u
    by_cases c183_148 : (z3 &&& (8 : Int32)) = (0 : Int32)
    · refine own_step (fun _ k => XS.ifYes X17.here hx rfl (pc0 := 183) (pc' := 286) rfl (hb hby at_183) rfl ((if0 _ _).trans (teq c183_148).1) (by decide) (by decide) k) ?_
      show own_Ends p e below F (T17.setTop (mkF m 286 A41 []))
      refine own_step (fun _ k => XS.aload X17.here hx rfl (hb hby at_286) (by rw [hA41]; rfl) rfl k) ?_
      show own_Ends p e below F (T17.setTop (mkF m 288 A41 [(.ref a9)]))
      refine own_step (fun _ k => XS.iload X17.here hx rfl (hb hby at_288) (by rw [hA41]; rfl) k) ?_
      show own_Ends p e below F (T17.setTop (mkF m 290 A41 [(.int v18), (.ref a9)]))
      refine own_step (fun _ k => XS.iload X17.here hx rfl (hb hby at_290) (by rw [hA41]; rfl) k) ?_
      show own_Ends p e below F (T17.setTop (mkF m 292 A41 [(.int v40), (.int v18), (.ref a9)]))
      obtain ⟨cl149, Ar149, S149, G149⟩ := id G17
      have hin149 := own_inb (c := cl149) (j := v18) S149 (own_Ip0 ht ev18)
      obtain ⟨T149, h149, X149, e149, W149, st149⟩ := stI X17 hx hZ e17 Ar149 (j := v18) hin149 (g := (mkF m 292 A41 [(.int v40), (.int v18), (.ref a9)])) rfl rfl (hb hby at_292)
      have G149 := own_Ai.set ⟨cl149, Ar149, S149, G149⟩ W149
      refine own_step st149 ?_
      have N149 := Fr.snoc X149 N17 ge_a9
      have Z149 : n0 ≤ h149.size := by rw [W149.size]; exact Z17
      have SZ149 : h0.size ≤ h149.size := by rw [W149.size]; exact SZ17
      show own_Ends p e below F (T149.setTop (mkF m 293 A41 []))
      refine own_step (fun _ k => XS.aload X149.here hx rfl (hb hby at_293) (by rw [hA41]; rfl) rfl k) ?_
      show own_Ends p e below F (T149.setTop (mkF m 295 A41 [(.ref a9)]))
      refine own_step (fun _ k => XS.iload X149.here hx rfl (hb hby at_295) (by rw [hA41]; rfl) k) ?_
      show own_Ends p e below F (T149.setTop (mkF m 297 A41 [(.int v18), (.ref a9)]))
      refine own_step (fun _ k => XS.iconst X149.here hx rfl (hb hby at_297) k) ?_
      show own_Ends p e below F (T149.setTop (mkF m 298 A41 [(.int (1 : Int32)), (.int v18), (.ref a9)]))
      refine own_step (fun _ k => XS.iadd X149.here hx rfl (hb hby at_298) rfl k) ?_
      show own_Ends p e below F (T149.setTop (mkF m 299 A41 [(.int (v18 + (1 : Int32))), (.ref a9)]))
      refine own_step (fun _ k => XS.iload X149.here hx rfl (hb hby at_299) (by rw [hA41]; rfl) k) ?_
      show own_Ends p e below F (T149.setTop (mkF m 301 A41 [(.int v28), (.int (v18 + (1 : Int32))), (.ref a9)]))
      obtain ⟨cl150, Ar150, S150, G150⟩ := id G149
      have hin150 := own_inb (c := cl150) (j := (v18 + (1 : Int32))) S150 (own_Ip1 ht ev18)
      obtain ⟨T150, h150, X150, e150, W150, st150⟩ := stI X149 hx hZ e149 Ar150 (j := (v18 + (1 : Int32))) hin150 (g := (mkF m 301 A41 [(.int v28), (.int (v18 + (1 : Int32))), (.ref a9)])) rfl rfl (hb hby at_301)
      have G150 := own_Ai.set ⟨cl150, Ar150, S150, G150⟩ W150
      refine own_step st150 ?_
      have N150 := Fr.snoc X150 N149 ge_a9
      have Z150 : n0 ≤ h150.size := by rw [W150.size]; exact Z149
      have SZ150 : h0.size ≤ h150.size := by rw [W150.size]; exact SZ149
      show own_Ends p e below F (T150.setTop (mkF m 302 A41 []))
      refine own_step (fun _ k => XS.aload X150.here hx rfl (hb hby at_302) (by rw [hA41]; rfl) rfl k) ?_
      show own_Ends p e below F (T150.setTop (mkF m 304 A41 [(.ref a9)]))
      refine own_step (fun _ k => XS.iload X150.here hx rfl (hb hby at_304) (by rw [hA41]; rfl) k) ?_
      show own_Ends p e below F (T150.setTop (mkF m 306 A41 [(.int v18), (.ref a9)]))
      refine own_step (fun _ k => XS.iconst X150.here hx rfl (hb hby at_306) k) ?_
      show own_Ends p e below F (T150.setTop (mkF m 307 A41 [(.int (2 : Int32)), (.int v18), (.ref a9)]))
      refine own_step (fun _ k => XS.iadd X150.here hx rfl (hb hby at_307) rfl k) ?_
      show own_Ends p e below F (T150.setTop (mkF m 308 A41 [(.int (v18 + (2 : Int32))), (.ref a9)]))
      refine own_step (fun _ k => XS.iload X150.here hx rfl (hb hby at_308) (by rw [hA41]; rfl) k) ?_
      show own_Ends p e below F (T150.setTop (mkF m 310 A41 [(.int v30), (.int (v18 + (2 : Int32))), (.ref a9)]))
      obtain ⟨cl151, Ar151, S151, G151⟩ := id G150
      have hin151 := own_inb (c := cl151) (j := (v18 + (2 : Int32))) S151 (own_Ip2 ht ev18)
      obtain ⟨T151, h151, X151, e151, W151, st151⟩ := stI X150 hx hZ e150 Ar151 (j := (v18 + (2 : Int32))) hin151 (g := (mkF m 310 A41 [(.int v30), (.int (v18 + (2 : Int32))), (.ref a9)])) rfl rfl (hb hby at_310)
      have G151 := own_Ai.set ⟨cl151, Ar151, S151, G151⟩ W151
      refine own_step st151 ?_
      have N151 := Fr.snoc X151 N150 ge_a9
      have Z151 : n0 ≤ h151.size := by rw [W151.size]; exact Z150
      have SZ151 : h0.size ≤ h151.size := by rw [W151.size]; exact SZ150
      show own_Ends p e below F (T151.setTop (mkF m 311 A41 []))
      refine own_step (fun _ k => XS.aload X151.here hx rfl (hb hby at_311) (by rw [hA41]; rfl) rfl k) ?_
      show own_Ends p e below F (T151.setTop (mkF m 313 A41 [(.ref a9)]))
      refine own_step (fun _ k => XS.iload X151.here hx rfl (hb hby at_313) (by rw [hA41]; rfl) k) ?_
      show own_Ends p e below F (T151.setTop (mkF m 315 A41 [(.int v18), (.ref a9)]))
      refine own_step (fun _ k => XS.iconst X151.here hx rfl (hb hby at_315) k) ?_
      show own_Ends p e below F (T151.setTop (mkF m 316 A41 [(.int (3 : Int32)), (.int v18), (.ref a9)]))
      refine own_step (fun _ k => XS.iadd X151.here hx rfl (hb hby at_316) rfl k) ?_
      show own_Ends p e below F (T151.setTop (mkF m 317 A41 [(.int (v18 + (3 : Int32))), (.ref a9)]))
      refine own_step (fun _ k => XS.iload X151.here hx rfl (hb hby at_317) (by rw [hA41]; rfl) k) ?_
      show own_Ends p e below F (T151.setTop (mkF m 319 A41 [(.int v32), (.int (v18 + (3 : Int32))), (.ref a9)]))
      obtain ⟨cl152, Ar152, S152, G152⟩ := id G151
      have hin152 := own_inb (c := cl152) (j := (v18 + (3 : Int32))) S152 (own_Ip3 ht ev18)
      obtain ⟨T152, h152, X152, e152, W152, st152⟩ := stI X151 hx hZ e151 Ar152 (j := (v18 + (3 : Int32))) hin152 (g := (mkF m 319 A41 [(.int v32), (.int (v18 + (3 : Int32))), (.ref a9)])) rfl rfl (hb hby at_319)
      have G152 := own_Ai.set ⟨cl152, Ar152, S152, G152⟩ W152
      refine own_step st152 ?_
      have N152 := Fr.snoc X152 N151 ge_a9
      have Z152 : n0 ≤ h152.size := by rw [W152.size]; exact Z151
      have SZ152 : h0.size ≤ h152.size := by rw [W152.size]; exact SZ151
      show own_Ends p e below F (T152.setTop (mkF m 320 A41 []))
      refine own_step (fun _ k => XS.aload X152.here hx rfl (hb hby at_320) (by rw [hA41]; rfl) rfl k) ?_
      show own_Ends p e below F (T152.setTop (mkF m 322 A41 [(.ref a9)]))
      refine own_step (fun _ k => XS.iload X152.here hx rfl (hb hby at_322) (by rw [hA41]; rfl) k) ?_
      show own_Ends p e below F (T152.setTop (mkF m 324 A41 [(.int v18), (.ref a9)]))
      refine own_step (fun _ k => XS.iconst X152.here hx rfl (hb hby at_324) k) ?_
      show own_Ends p e below F (T152.setTop (mkF m 325 A41 [(.int (4 : Int32)), (.int v18), (.ref a9)]))
      refine own_step (fun _ k => XS.iadd X152.here hx rfl (hb hby at_325) rfl k) ?_
      show own_Ends p e below F (T152.setTop (mkF m 326 A41 [(.int (v18 + (4 : Int32))), (.ref a9)]))
      refine own_step (fun _ k => XS.iload X152.here hx rfl (hb hby at_326) (by rw [hA41]; rfl) k) ?_
      show own_Ends p e below F (T152.setTop (mkF m 328 A41 [(.int v34), (.int (v18 + (4 : Int32))), (.ref a9)]))
      obtain ⟨cl153, Ar153, S153, G153⟩ := id G152
      have hin153 := own_inb (c := cl153) (j := (v18 + (4 : Int32))) S153 (own_Ip4 ht ev18)
      obtain ⟨T153, h153, X153, e153, W153, st153⟩ := stI X152 hx hZ e152 Ar153 (j := (v18 + (4 : Int32))) hin153 (g := (mkF m 328 A41 [(.int v34), (.int (v18 + (4 : Int32))), (.ref a9)])) rfl rfl (hb hby at_328)
      have G153 := own_Ai.set ⟨cl153, Ar153, S153, G153⟩ W153
      obtain ⟨g153, eg153⟩ : ∃ z : Nat → Int32, z = (own_upd (own_upd (own_upd (own_upd (own_upd g17 v18.toNatClampNeg v40) (v18 + (1 : Int32)).toNatClampNeg v28) (v18 + (2 : Int32)).toNatClampNeg v30) (v18 + (3 : Int32)).toNatClampNeg v32) (v18 + (4 : Int32)).toNatClampNeg v34) := ⟨_, rfl⟩
      rw [← eg153] at G153
      refine own_step st153 ?_
      have N153 := Fr.snoc X153 N152 ge_a9
      have Z153 : n0 ≤ h153.size := by rw [W153.size]; exact Z152
      have SZ153 : h0.size ≤ h153.size := by rw [W153.size]; exact SZ152
      show own_Ends p e below F (T153.setTop (mkF m 329 A41 []))
      rw [hA41]
      exact J183_43 _ _ _ X153 e153 N153 _ _ One.u Z153 SZ153 ⟨fun _ => own_lE ht ev18 eg17 eg153, fun q => absurd c183_148 q⟩ G153 ((((((((V13.other W15 (Ne.symm ne_a9_a11)).other W16 (Ne.symm ne_a9_a11)).other W17 (Ne.symm ne_a9_a11)).other W149 (Ne.symm ne_a9_a11)).other W150 (Ne.symm ne_a9_a11)).other W151 (Ne.symm ne_a9_a11)).other W152 (Ne.symm ne_a9_a11)).other W153 (Ne.symm ne_a9_a11)) (Sta.wr W153 (Sta.wr W152 (Sta.wr W151 (Sta.wr W150 (Sta.wr W149 (Sta.wr W17 (Sta.wr W16 (Sta.wr W15 (Sta.wr W13 (Sta.wr W12 (Sta.ext E11 (Sta.ext E9 Spe)))))))))))) (Sta.wr W153 (Sta.wr W152 (Sta.wr W151 (Sta.wr W150 (Sta.wr W149 (Sta.wr W17 (Sta.wr W16 (Sta.wr W15 (Sta.wr W13 (Sta.wr W12 (Sta.ext E11 (Sta.ext E9 Sde)))))))))))) (Sta.wr W153 (Sta.wr W152 (Sta.wr W151 (Sta.wr W150 (Sta.wr W149 (Sta.wr W17 (Sta.wr W16 (Sta.wr W15 (Sta.wr W13 (Sta.wr W12 (Sta.ext E11 (Sta.ext E9 Sno))))))))))))
    · refine own_step (fun _ k => XS.ifNo X17.here hx rfl (hb hby at_183) rfl ((if0 _ _).trans (feq c183_148).1) k) ?_
      show own_Ends p e below F (T17.setTop (mkF m 186 A41 []))
      have bk := own_bk ht ev18
      refine own_step (fun _ k => XS.iload X17.here hx rfl (hb hby at_186) (by rw [hA41]; rfl) k) ?_
      show own_Ends p e below F (T17.setTop (mkF m 188 A41 [(.int v18)]))
      obtain ⟨A154, hA154⟩ : ∃ z : Array Slot, z = #[.val (.int p1), .val (.long wa), .second, .val (.long wb), .second, .val (.int p4), .val (.int p5), .val (.int p6), .val (.int z3), .val (.int v7), .val (.ref a9), .val (.ref a11), .val (.int v18), .val (.int v20), .val (.int v22), .val (.int v24), .val (.int v26), .val (.int v28), .val (.int v30), .val (.int v32), .val (.int v34), .val (.int v36), .val (.int v38), .val (.int v40), .val (.int v18), .unset, .unset] := ⟨_, rfl⟩
      refine own_step (fun _ k => XS.istore X17.here hx rfl (hb hby at_188) rfl (l' := A154) (by rw [hA41, hA154]; exact rfl) k) ?_
      show own_Ends p e below F (T17.setTop (mkF m 190 A154 []))
      refine own_step (fun _ k => XS.aload X17.here hx rfl (hb hby at_190) (by rw [hA154]; rfl) rfl k) ?_
      show own_Ends p e below F (T17.setTop (mkF m 192 A154 [(.ref a9)]))
      refine own_step (fun _ k => XS.iload X17.here hx rfl (hb hby at_192) (by rw [hA154]; rfl) k) ?_
      show own_Ends p e below F (T17.setTop (mkF m 194 A154 [(.int v18), (.ref a9)]))
      refine own_step (fun _ k => XS.iload X17.here hx rfl (hb hby at_194) (by rw [hA154]; rfl) k) ?_
      show own_Ends p e below F (T17.setTop (mkF m 196 A154 [(.int v36), (.int v18), (.ref a9)]))
      obtain ⟨cl155, Ar155, S155, G155⟩ := id G17
      have hin155 := own_inb (c := cl155) (j := v18) S155 (own_ik bk)
      obtain ⟨T155, h155, X155, e155, W155, st155⟩ := stI X17 hx hZ e17 Ar155 (j := v18) hin155 (g := (mkF m 196 A154 [(.int v36), (.int v18), (.ref a9)])) rfl rfl (hb hby at_196)
      have G155 := own_Ai.set ⟨cl155, Ar155, S155, G155⟩ W155
      obtain ⟨g155, eg155⟩ : ∃ z : Nat → Int32, z = (own_upd g17 v18.toNatClampNeg v36) := ⟨_, rfl⟩
      rw [← eg155] at G155
      refine own_step st155 ?_
      have N155 := Fr.snoc X155 N17 ge_a9
      have Z155 : n0 ≤ h155.size := by rw [W155.size]; exact Z17
      have SZ155 : h0.size ≤ h155.size := by rw [W155.size]; exact SZ17
      show own_Ends p e below F (T155.setTop (mkF m 197 A154 []))
      obtain ⟨A156, hA156⟩ : ∃ z : Array Slot, z = #[.val (.int p1), .val (.long wa), .second, .val (.long wb), .second, .val (.int p4), .val (.int p5), .val (.int p6), .val (.int z3), .val (.int v7), .val (.ref a9), .val (.ref a11), .val (.int v18), .val (.int v20), .val (.int v22), .val (.int v24), .val (.int v26), .val (.int v28), .val (.int v30), .val (.int v32), .val (.int v34), .val (.int v36), .val (.int v38), .val (.int v40), .val (.int (v18 + (1 : Int32))), .unset, .unset] := ⟨_, rfl⟩
      refine own_step (fun _ k => XS.iinc X155.here hx rfl (hb hby at_197) (by rw [hA154]; rfl) (l' := A156) (by rw [hA154, hA156]; rfl) k) ?_
      show own_Ends p e below F (T155.setTop (mkF m 200 A156 []))
      have bk := own_bk1 bk
      refine own_step (fun _ k => XS.iload X155.here hx rfl (hb hby at_200) (by rw [hA156]; rfl) k) ?_
      show own_Ends p e below F (T155.setTop (mkF m 202 A156 [(.int v36)]))
      refine own_step (fun _ k => XS.iconst X155.here hx rfl (hb hby at_202) k) ?_
      show own_Ends p e below F (T155.setTop (mkF m 203 A156 [(.int (1 : Int32)), (.int v36)]))
      have J203_158 : ∀ (T159 : State) (l159 : List Loc) (h159 : Heap) (X159 : Stand p l e room_1 s m #[(.int p1), (.long wa), (.long wb), (.int p4), (.int p5), (.int p6)] below meth c T159 l159 2 12) (e159 : T159.heap = h159) (N159 : Fr n0 l159) (z157 : Int32) (g160 : Nat → Int32) (hz157 : z157 = (if v36 < (1 : Int32) then (v18 + (1 : Int32)) else ((v18 + (1 : Int32)) + (1 : Int32)))) (Z159 : n0 ≤ h159.size) (SZ159 : h0.size ≤ h159.size) (eg160 : g160 = (if v36 < (1 : Int32) then g155 else (own_upd g155 (v18 + (1 : Int32)).toNatClampNeg v20))) (Gg160 : own_Ai Z h159 a9 10 g160) (VJ159 : Arv Z h159 a11 k11 .long (2 : Int32) [(.long wa), (.long wb)] (.long (0 : Int64))) (Spe159 : Sta Z h159 "com/example/entitlement/entitlement/service/Outcome" "PERMIT" "Lcom/example/entitlement/entitlement/service/Outcome;" (.ref pe)) (Sde159 : Sta Z h159 "com/example/entitlement/entitlement/service/Outcome" "DENY" "Lcom/example/entitlement/entitlement/service/Outcome;" (.ref de)) (Sno159 : Sta Z h159 "com/example/entitlement/entitlement/service/Outcome" "NO_MATCH" "Lcom/example/entitlement/entitlement/service/Outcome;" (.ref no)), own_Ends p e below F (T159.setTop (mkF m 216 #[.val (.int p1), .val (.long wa), .second, .val (.long wb), .second, .val (.int p4), .val (.int p5), .val (.int p6), .val (.int z3), .val (.int v7), .val (.ref a9), .val (.ref a11), .val (.int v18), .val (.int v20), .val (.int v22), .val (.int v24), .val (.int v26), .val (.int v28), .val (.int v30), .val (.int v32), .val (.int v34), .val (.int v36), .val (.int v38), .val (.int v40), .val (.int z157), .unset, .unset] [])) := by
        intro T159 l159 h159 X159 e159 N159 z157 g160 hz157 Z159 SZ159 eg160 Gg160 VJ159 Spe159 Sde159 Sno159
        obtain ⟨A161, hA161⟩ : ∃ z : Array Slot, z = #[.val (.int p1), .val (.long wa), .second, .val (.long wb), .second, .val (.int p4), .val (.int p5), .val (.int p6), .val (.int z3), .val (.int v7), .val (.ref a9), .val (.ref a11), .val (.int v18), .val (.int v20), .val (.int v22), .val (.int v24), .val (.int v26), .val (.int v28), .val (.int v30), .val (.int v32), .val (.int v34), .val (.int v36), .val (.int v38), .val (.int v40), .val (.int z157), .unset, .unset] := ⟨_, rfl⟩
        rw [← hA161]
        show own_Ends p e below F (T159.setTop (mkF m 216 A161 []))
        have bk := own_inc hz157 bk
        refine own_step (fun _ k => XS.iload X159.here hx rfl (hb hby at_216) (by rw [hA161]; rfl) k) ?_
        show own_Ends p e below F (T159.setTop (mkF m 218 A161 [(.int v36)]))
        refine own_step (fun _ k => XS.iconst X159.here hx rfl (hb hby at_218) k) ?_
        show own_Ends p e below F (T159.setTop (mkF m 219 A161 [(.int (2 : Int32)), (.int v36)]))
        have J219_163 : ∀ (T164 : State) (l164 : List Loc) (h164 : Heap) (X164 : Stand p l e room_1 s m #[(.int p1), (.long wa), (.long wb), (.int p4), (.int p5), (.int p6)] below meth c T164 l164 2 12) (e164 : T164.heap = h164) (N164 : Fr n0 l164) (z162 : Int32) (g165 : Nat → Int32) (hz162 : z162 = (if v36 < (2 : Int32) then z157 else (z157 + (1 : Int32)))) (Z164 : n0 ≤ h164.size) (SZ164 : h0.size ≤ h164.size) (eg165 : g165 = (if v36 < (2 : Int32) then g160 else (own_upd g160 z157.toNatClampNeg v22))) (Gg165 : own_Ai Z h164 a9 10 g165) (VJ164 : Arv Z h164 a11 k11 .long (2 : Int32) [(.long wa), (.long wb)] (.long (0 : Int64))) (Spe164 : Sta Z h164 "com/example/entitlement/entitlement/service/Outcome" "PERMIT" "Lcom/example/entitlement/entitlement/service/Outcome;" (.ref pe)) (Sde164 : Sta Z h164 "com/example/entitlement/entitlement/service/Outcome" "DENY" "Lcom/example/entitlement/entitlement/service/Outcome;" (.ref de)) (Sno164 : Sta Z h164 "com/example/entitlement/entitlement/service/Outcome" "NO_MATCH" "Lcom/example/entitlement/entitlement/service/Outcome;" (.ref no)), own_Ends p e below F (T164.setTop (mkF m 232 #[.val (.int p1), .val (.long wa), .second, .val (.long wb), .second, .val (.int p4), .val (.int p5), .val (.int p6), .val (.int z3), .val (.int v7), .val (.ref a9), .val (.ref a11), .val (.int v18), .val (.int v20), .val (.int v22), .val (.int v24), .val (.int v26), .val (.int v28), .val (.int v30), .val (.int v32), .val (.int v34), .val (.int v36), .val (.int v38), .val (.int v40), .val (.int z162), .unset, .unset] [])) := by
          intro T164 l164 h164 X164 e164 N164 z162 g165 hz162 Z164 SZ164 eg165 Gg165 VJ164 Spe164 Sde164 Sno164
          obtain ⟨A166, hA166⟩ : ∃ z : Array Slot, z = #[.val (.int p1), .val (.long wa), .second, .val (.long wb), .second, .val (.int p4), .val (.int p5), .val (.int p6), .val (.int z3), .val (.int v7), .val (.ref a9), .val (.ref a11), .val (.int v18), .val (.int v20), .val (.int v22), .val (.int v24), .val (.int v26), .val (.int v28), .val (.int v30), .val (.int v32), .val (.int v34), .val (.int v36), .val (.int v38), .val (.int v40), .val (.int z162), .unset, .unset] := ⟨_, rfl⟩
          rw [← hA166]
          show own_Ends p e below F (T164.setTop (mkF m 232 A166 []))
          have bk := own_inc hz162 bk
          refine own_step (fun _ k => XS.aload X164.here hx rfl (hb hby at_232) (by rw [hA166]; rfl) rfl k) ?_
          show own_Ends p e below F (T164.setTop (mkF m 234 A166 [(.ref a9)]))
          refine own_step (fun _ k => XS.iload X164.here hx rfl (hb hby at_234) (by rw [hA166]; rfl) k) ?_
          show own_Ends p e below F (T164.setTop (mkF m 236 A166 [(.int z162), (.ref a9)]))
          refine own_step (fun _ k => XS.iload X164.here hx rfl (hb hby at_236) (by rw [hA166]; rfl) k) ?_
          show own_Ends p e below F (T164.setTop (mkF m 238 A166 [(.int v38), (.int z162), (.ref a9)]))
          obtain ⟨cl167, Ar167, S167, G167⟩ := id Gg165
          have hin167 := own_inb (c := cl167) (j := z162) S167 (own_ik bk)
          obtain ⟨T167, h167, X167, e167, W167, st167⟩ := stI X164 hx hZ e164 Ar167 (j := z162) hin167 (g := (mkF m 238 A166 [(.int v38), (.int z162), (.ref a9)])) rfl rfl (hb hby at_238)
          have G167 := own_Ai.set ⟨cl167, Ar167, S167, G167⟩ W167
          obtain ⟨g167, eg167⟩ : ∃ z : Nat → Int32, z = (own_upd g165 z162.toNatClampNeg v38) := ⟨_, rfl⟩
          rw [← eg167] at G167
          refine own_step st167 ?_
          have N167 := Fr.snoc X167 N164 ge_a9
          have Z167 : n0 ≤ h167.size := by rw [W167.size]; exact Z164
          have SZ167 : h0.size ≤ h167.size := by rw [W167.size]; exact SZ164
          show own_Ends p e below F (T167.setTop (mkF m 239 A166 []))
          obtain ⟨A168, hA168⟩ : ∃ z : Array Slot, z = #[.val (.int p1), .val (.long wa), .second, .val (.long wb), .second, .val (.int p4), .val (.int p5), .val (.int p6), .val (.int z3), .val (.int v7), .val (.ref a9), .val (.ref a11), .val (.int v18), .val (.int v20), .val (.int v22), .val (.int v24), .val (.int v26), .val (.int v28), .val (.int v30), .val (.int v32), .val (.int v34), .val (.int v36), .val (.int v38), .val (.int v40), .val (.int (z162 + (1 : Int32))), .unset, .unset] := ⟨_, rfl⟩
          refine own_step (fun _ k => XS.iinc X167.here hx rfl (hb hby at_239) (by rw [hA166]; rfl) (l' := A168) (by rw [hA166, hA168]; rfl) k) ?_
          show own_Ends p e below F (T167.setTop (mkF m 242 A168 []))
          have bk := own_bk1 bk
          refine own_step (fun _ k => XS.iload X167.here hx rfl (hb hby at_242) (by rw [hA168]; rfl) k) ?_
          show own_Ends p e below F (T167.setTop (mkF m 244 A168 [(.int v38)]))
          refine own_step (fun _ k => XS.iconst X167.here hx rfl (hb hby at_244) k) ?_
          show own_Ends p e below F (T167.setTop (mkF m 245 A168 [(.int (1 : Int32)), (.int v38)]))
          have J245_170 : ∀ (T171 : State) (l171 : List Loc) (h171 : Heap) (X171 : Stand p l e room_1 s m #[(.int p1), (.long wa), (.long wb), (.int p4), (.int p5), (.int p6)] below meth c T171 l171 2 12) (e171 : T171.heap = h171) (N171 : Fr n0 l171) (z169 : Int32) (g172 : Nat → Int32) (hz169 : z169 = (if v38 < (1 : Int32) then (z162 + (1 : Int32)) else ((z162 + (1 : Int32)) + (1 : Int32)))) (Z171 : n0 ≤ h171.size) (SZ171 : h0.size ≤ h171.size) (eg172 : g172 = (if v38 < (1 : Int32) then g167 else (own_upd g167 (z162 + (1 : Int32)).toNatClampNeg v24))) (Gg172 : own_Ai Z h171 a9 10 g172) (VJ171 : Arv Z h171 a11 k11 .long (2 : Int32) [(.long wa), (.long wb)] (.long (0 : Int64))) (Spe171 : Sta Z h171 "com/example/entitlement/entitlement/service/Outcome" "PERMIT" "Lcom/example/entitlement/entitlement/service/Outcome;" (.ref pe)) (Sde171 : Sta Z h171 "com/example/entitlement/entitlement/service/Outcome" "DENY" "Lcom/example/entitlement/entitlement/service/Outcome;" (.ref de)) (Sno171 : Sta Z h171 "com/example/entitlement/entitlement/service/Outcome" "NO_MATCH" "Lcom/example/entitlement/entitlement/service/Outcome;" (.ref no)), own_Ends p e below F (T171.setTop (mkF m 258 #[.val (.int p1), .val (.long wa), .second, .val (.long wb), .second, .val (.int p4), .val (.int p5), .val (.int p6), .val (.int z3), .val (.int v7), .val (.ref a9), .val (.ref a11), .val (.int v18), .val (.int v20), .val (.int v22), .val (.int v24), .val (.int v26), .val (.int v28), .val (.int v30), .val (.int v32), .val (.int v34), .val (.int v36), .val (.int v38), .val (.int v40), .val (.int z169), .unset, .unset] [])) := by
            intro T171 l171 h171 X171 e171 N171 z169 g172 hz169 Z171 SZ171 eg172 Gg172 VJ171 Spe171 Sde171 Sno171
            obtain ⟨A173, hA173⟩ : ∃ z : Array Slot, z = #[.val (.int p1), .val (.long wa), .second, .val (.long wb), .second, .val (.int p4), .val (.int p5), .val (.int p6), .val (.int z3), .val (.int v7), .val (.ref a9), .val (.ref a11), .val (.int v18), .val (.int v20), .val (.int v22), .val (.int v24), .val (.int v26), .val (.int v28), .val (.int v30), .val (.int v32), .val (.int v34), .val (.int v36), .val (.int v38), .val (.int v40), .val (.int z169), .unset, .unset] := ⟨_, rfl⟩
            rw [← hA173]
            show own_Ends p e below F (T171.setTop (mkF m 258 A173 []))
            have bk := own_inc hz169 bk
            refine own_step (fun _ k => XS.iload X171.here hx rfl (hb hby at_258) (by rw [hA173]; rfl) k) ?_
            show own_Ends p e below F (T171.setTop (mkF m 260 A173 [(.int v38)]))
            refine own_step (fun _ k => XS.iconst X171.here hx rfl (hb hby at_260) k) ?_
            show own_Ends p e below F (T171.setTop (mkF m 261 A173 [(.int (2 : Int32)), (.int v38)]))
            have J261_175 : ∀ (T176 : State) (l176 : List Loc) (h176 : Heap) (X176 : Stand p l e room_1 s m #[(.int p1), (.long wa), (.long wb), (.int p4), (.int p5), (.int p6)] below meth c T176 l176 2 12) (e176 : T176.heap = h176) (N176 : Fr n0 l176) (z174 : Int32) (g177 : Nat → Int32) (hz174 : z174 = (if v38 < (2 : Int32) then z169 else (z169 + (1 : Int32)))) (Z176 : n0 ≤ h176.size) (SZ176 : h0.size ≤ h176.size) (eg177 : g177 = (if v38 < (2 : Int32) then g172 else (own_upd g172 z169.toNatClampNeg v26))) (Gg177 : own_Ai Z h176 a9 10 g177) (VJ176 : Arv Z h176 a11 k11 .long (2 : Int32) [(.long wa), (.long wb)] (.long (0 : Int64))) (Spe176 : Sta Z h176 "com/example/entitlement/entitlement/service/Outcome" "PERMIT" "Lcom/example/entitlement/entitlement/service/Outcome;" (.ref pe)) (Sde176 : Sta Z h176 "com/example/entitlement/entitlement/service/Outcome" "DENY" "Lcom/example/entitlement/entitlement/service/Outcome;" (.ref de)) (Sno176 : Sta Z h176 "com/example/entitlement/entitlement/service/Outcome" "NO_MATCH" "Lcom/example/entitlement/entitlement/service/Outcome;" (.ref no)), own_Ends p e below F (T176.setTop (mkF m 274 #[.val (.int p1), .val (.long wa), .second, .val (.long wb), .second, .val (.int p4), .val (.int p5), .val (.int p6), .val (.int z3), .val (.int v7), .val (.ref a9), .val (.ref a11), .val (.int v18), .val (.int v20), .val (.int v22), .val (.int v24), .val (.int v26), .val (.int v28), .val (.int v30), .val (.int v32), .val (.int v34), .val (.int v36), .val (.int v38), .val (.int v40), .val (.int z174), .unset, .unset] [])) := by
              intro T176 l176 h176 X176 e176 N176 z174 g177 hz174 Z176 SZ176 eg177 Gg177 VJ176 Spe176 Sde176 Sno176
              obtain ⟨A178, hA178⟩ : ∃ z : Array Slot, z = #[.val (.int p1), .val (.long wa), .second, .val (.long wb), .second, .val (.int p4), .val (.int p5), .val (.int p6), .val (.int z3), .val (.int v7), .val (.ref a9), .val (.ref a11), .val (.int v18), .val (.int v20), .val (.int v22), .val (.int v24), .val (.int v26), .val (.int v28), .val (.int v30), .val (.int v32), .val (.int v34), .val (.int v36), .val (.int v38), .val (.int v40), .val (.int z174), .unset, .unset] := ⟨_, rfl⟩
              rw [← hA178]
              show own_Ends p e below F (T176.setTop (mkF m 274 A178 []))
              have bk := own_inc hz174 bk
              refine own_step (fun _ k => XS.aload X176.here hx rfl (hb hby at_274) (by rw [hA178]; rfl) rfl k) ?_
              show own_Ends p e below F (T176.setTop (mkF m 276 A178 [(.ref a9)]))
              refine own_step (fun _ k => XS.iload X176.here hx rfl (hb hby at_276) (by rw [hA178]; rfl) k) ?_
              show own_Ends p e below F (T176.setTop (mkF m 278 A178 [(.int z174), (.ref a9)]))
              refine own_step (fun _ k => XS.iload X176.here hx rfl (hb hby at_278) (by rw [hA178]; rfl) k) ?_
              show own_Ends p e below F (T176.setTop (mkF m 280 A178 [(.int v34), (.int z174), (.ref a9)]))
              refine own_step (fun _ k => XS.iconst X176.here hx rfl (hb hby at_280) k) ?_
              show own_Ends p e below F (T176.setTop (mkF m 281 A178 [(.int (1 : Int32)), (.int v34), (.int z174), (.ref a9)]))
              refine own_step (fun _ k => XS.iushr X176.here hx rfl (hb hby at_281) rfl k) ?_
              show own_Ends p e below F (T176.setTop (mkF m 282 A178 [(.int ((v34.toUInt32 >>> ((1 : Int32) &&& 31).toUInt32).toInt32)), (.int z174), (.ref a9)]))
              obtain ⟨cl179, Ar179, S179, G179⟩ := id Gg177
              have hin179 := own_inb (c := cl179) (j := z174) S179 (own_ik bk)
              obtain ⟨T179, h179, X179, e179, W179, st179⟩ := stI X176 hx hZ e176 Ar179 (j := z174) hin179 (g := (mkF m 282 A178 [(.int ((v34.toUInt32 >>> ((1 : Int32) &&& 31).toUInt32).toInt32)), (.int z174), (.ref a9)])) rfl rfl (hb hby at_282)
              have G179 := own_Ai.set ⟨cl179, Ar179, S179, G179⟩ W179
              obtain ⟨g179, eg179⟩ : ∃ z : Nat → Int32, z = (own_upd g177 z174.toNatClampNeg ((v34.toUInt32 >>> ((1 : Int32) &&& 31).toUInt32).toInt32)) := ⟨_, rfl⟩
              rw [← eg179] at G179
              refine own_step st179 ?_
              have N179 := Fr.snoc X179 N176 ge_a9
              have Z179 : n0 ≤ h179.size := by rw [W179.size]; exact Z176
              have SZ179 : h0.size ≤ h179.size := by rw [W179.size]; exact SZ176
              show own_Ends p e below F (T179.setTop (mkF m 283 A178 []))
              refine own_step (fun _ k => XS.goto X179.here hx rfl (pc0 := 283) (pc' := 329) rfl (hb hby at_283) (by decide) (by decide) k) ?_
              show own_Ends p e below F (T179.setTop (mkF m 329 A178 []))
              rw [hA178]
              exact J183_43 _ _ _ X179 e179 N179 _ _ (One.val rfl) Z179 SZ179 ⟨fun q => absurd q c183_148, fun _ => own_lK ht ev18 hdc hrc eg17 eg155 hz157 eg160 hz162 eg165 eg167 hz169 eg172 hz174 eg177 eg179⟩ G179 (VJ176.other W179 (Ne.symm ne_a9_a11)) (Sta.wr W179 Spe176) (Sta.wr W179 Sde176) (Sta.wr W179 Sno176)
            by_cases c261_180 : v38 < (2 : Int32)
            · refine own_step (fun _ k => XS.icmpYes X171.here hx rfl (pc0 := 261) (pc' := 274) rfl (hb hby at_261) rfl (tlt c261_180).1 (by decide) (by decide) k) ?_
              show own_Ends p e below F (T171.setTop (mkF m 274 A173 []))
              rw [hA173]
              exact J261_175 _ _ _ X171 e171 N171 _ _ (by simp only [if_true, if_false, c261_180]) Z171 SZ171 (by simp only [if_true, if_false, c261_180]) Gg172 VJ171 Spe171 Sde171 Sno171
            · refine own_step (fun _ k => XS.icmpNo X171.here hx rfl (hb hby at_261) rfl (flt c261_180).1 k) ?_
              show own_Ends p e below F (T171.setTop (mkF m 264 A173 []))
              refine own_step (fun _ k => XS.aload X171.here hx rfl (hb hby at_264) (by rw [hA173]; rfl) rfl k) ?_
              show own_Ends p e below F (T171.setTop (mkF m 266 A173 [(.ref a9)]))
              refine own_step (fun _ k => XS.iload X171.here hx rfl (hb hby at_266) (by rw [hA173]; rfl) k) ?_
              show own_Ends p e below F (T171.setTop (mkF m 268 A173 [(.int z169), (.ref a9)]))
              refine own_step (fun _ k => XS.iload X171.here hx rfl (hb hby at_268) (by rw [hA173]; rfl) k) ?_
              show own_Ends p e below F (T171.setTop (mkF m 270 A173 [(.int v26), (.int z169), (.ref a9)]))
              obtain ⟨cl181, Ar181, S181, G181⟩ := id Gg172
              have hin181 := own_inb (c := cl181) (j := z169) S181 (own_ik bk)
              obtain ⟨T181, h181, X181, e181, W181, st181⟩ := stI X171 hx hZ e171 Ar181 (j := z169) hin181 (g := (mkF m 270 A173 [(.int v26), (.int z169), (.ref a9)])) rfl rfl (hb hby at_270)
              have G181 := own_Ai.set ⟨cl181, Ar181, S181, G181⟩ W181
              refine own_step st181 ?_
              have N181 := Fr.snoc X181 N171 ge_a9
              have Z181 : n0 ≤ h181.size := by rw [W181.size]; exact Z171
              have SZ181 : h0.size ≤ h181.size := by rw [W181.size]; exact SZ171
              show own_Ends p e below F (T181.setTop (mkF m 271 A173 []))
              obtain ⟨A182, hA182⟩ : ∃ z : Array Slot, z = #[.val (.int p1), .val (.long wa), .second, .val (.long wb), .second, .val (.int p4), .val (.int p5), .val (.int p6), .val (.int z3), .val (.int v7), .val (.ref a9), .val (.ref a11), .val (.int v18), .val (.int v20), .val (.int v22), .val (.int v24), .val (.int v26), .val (.int v28), .val (.int v30), .val (.int v32), .val (.int v34), .val (.int v36), .val (.int v38), .val (.int v40), .val (.int (z169 + (1 : Int32))), .unset, .unset] := ⟨_, rfl⟩
              refine own_step (fun _ k => XS.iinc X181.here hx rfl (hb hby at_271) (by rw [hA173]; rfl) (l' := A182) (by rw [hA173, hA182]; rfl) k) ?_
              show own_Ends p e below F (T181.setTop (mkF m 274 A182 []))
              rw [hA182]
              exact J261_175 _ _ _ X181 e181 N181 _ _ (by simp only [if_true, if_false, c261_180]) Z181 SZ181 (by simp only [if_true, if_false, c261_180]) G181 (VJ171.other W181 (Ne.symm ne_a9_a11)) (Sta.wr W181 Spe171) (Sta.wr W181 Sde171) (Sta.wr W181 Sno171)
          by_cases c245_183 : v38 < (1 : Int32)
          · refine own_step (fun _ k => XS.icmpYes X167.here hx rfl (pc0 := 245) (pc' := 258) rfl (hb hby at_245) rfl (tlt c245_183).1 (by decide) (by decide) k) ?_
            show own_Ends p e below F (T167.setTop (mkF m 258 A168 []))
            rw [hA168]
            exact J245_170 _ _ _ X167 e167 N167 _ _ (by simp only [if_true, if_false, c245_183]) Z167 SZ167 (by simp only [if_true, if_false, c245_183]) G167 (VJ164.other W167 (Ne.symm ne_a9_a11)) (Sta.wr W167 Spe164) (Sta.wr W167 Sde164) (Sta.wr W167 Sno164)
          · refine own_step (fun _ k => XS.icmpNo X167.here hx rfl (hb hby at_245) rfl (flt c245_183).1 k) ?_
            show own_Ends p e below F (T167.setTop (mkF m 248 A168 []))
            refine own_step (fun _ k => XS.aload X167.here hx rfl (hb hby at_248) (by rw [hA168]; rfl) rfl k) ?_
            show own_Ends p e below F (T167.setTop (mkF m 250 A168 [(.ref a9)]))
            refine own_step (fun _ k => XS.iload X167.here hx rfl (hb hby at_250) (by rw [hA168]; rfl) k) ?_
            show own_Ends p e below F (T167.setTop (mkF m 252 A168 [(.int (z162 + (1 : Int32))), (.ref a9)]))
            refine own_step (fun _ k => XS.iload X167.here hx rfl (hb hby at_252) (by rw [hA168]; rfl) k) ?_
            show own_Ends p e below F (T167.setTop (mkF m 254 A168 [(.int v24), (.int (z162 + (1 : Int32))), (.ref a9)]))
            obtain ⟨cl184, Ar184, S184, G184⟩ := id G167
            have hin184 := own_inb (c := cl184) (j := (z162 + (1 : Int32))) S184 (own_ik bk)
            obtain ⟨T184, h184, X184, e184, W184, st184⟩ := stI X167 hx hZ e167 Ar184 (j := (z162 + (1 : Int32))) hin184 (g := (mkF m 254 A168 [(.int v24), (.int (z162 + (1 : Int32))), (.ref a9)])) rfl rfl (hb hby at_254)
            have G184 := own_Ai.set ⟨cl184, Ar184, S184, G184⟩ W184
            refine own_step st184 ?_
            have N184 := Fr.snoc X184 N167 ge_a9
            have Z184 : n0 ≤ h184.size := by rw [W184.size]; exact Z167
            have SZ184 : h0.size ≤ h184.size := by rw [W184.size]; exact SZ167
            show own_Ends p e below F (T184.setTop (mkF m 255 A168 []))
            obtain ⟨A185, hA185⟩ : ∃ z : Array Slot, z = #[.val (.int p1), .val (.long wa), .second, .val (.long wb), .second, .val (.int p4), .val (.int p5), .val (.int p6), .val (.int z3), .val (.int v7), .val (.ref a9), .val (.ref a11), .val (.int v18), .val (.int v20), .val (.int v22), .val (.int v24), .val (.int v26), .val (.int v28), .val (.int v30), .val (.int v32), .val (.int v34), .val (.int v36), .val (.int v38), .val (.int v40), .val (.int ((z162 + (1 : Int32)) + (1 : Int32))), .unset, .unset] := ⟨_, rfl⟩
            refine own_step (fun _ k => XS.iinc X184.here hx rfl (hb hby at_255) (by rw [hA168]; rfl) (l' := A185) (by rw [hA168, hA185]; rfl) k) ?_
            show own_Ends p e below F (T184.setTop (mkF m 258 A185 []))
            rw [hA185]
            exact J245_170 _ _ _ X184 e184 N184 _ _ (by simp only [if_true, if_false, c245_183]) Z184 SZ184 (by simp only [if_true, if_false, c245_183]) G184 ((VJ164.other W167 (Ne.symm ne_a9_a11)).other W184 (Ne.symm ne_a9_a11)) (Sta.wr W184 (Sta.wr W167 Spe164)) (Sta.wr W184 (Sta.wr W167 Sde164)) (Sta.wr W184 (Sta.wr W167 Sno164))
        by_cases c219_186 : v36 < (2 : Int32)
        · refine own_step (fun _ k => XS.icmpYes X159.here hx rfl (pc0 := 219) (pc' := 232) rfl (hb hby at_219) rfl (tlt c219_186).1 (by decide) (by decide) k) ?_
          show own_Ends p e below F (T159.setTop (mkF m 232 A161 []))
          rw [hA161]
          exact J219_163 _ _ _ X159 e159 N159 _ _ (by simp only [if_true, if_false, c219_186]) Z159 SZ159 (by simp only [if_true, if_false, c219_186]) Gg160 VJ159 Spe159 Sde159 Sno159
        · refine own_step (fun _ k => XS.icmpNo X159.here hx rfl (hb hby at_219) rfl (flt c219_186).1 k) ?_
          show own_Ends p e below F (T159.setTop (mkF m 222 A161 []))
          refine own_step (fun _ k => XS.aload X159.here hx rfl (hb hby at_222) (by rw [hA161]; rfl) rfl k) ?_
          show own_Ends p e below F (T159.setTop (mkF m 224 A161 [(.ref a9)]))
          refine own_step (fun _ k => XS.iload X159.here hx rfl (hb hby at_224) (by rw [hA161]; rfl) k) ?_
          show own_Ends p e below F (T159.setTop (mkF m 226 A161 [(.int z157), (.ref a9)]))
          refine own_step (fun _ k => XS.iload X159.here hx rfl (hb hby at_226) (by rw [hA161]; rfl) k) ?_
          show own_Ends p e below F (T159.setTop (mkF m 228 A161 [(.int v22), (.int z157), (.ref a9)]))
          obtain ⟨cl187, Ar187, S187, G187⟩ := id Gg160
          have hin187 := own_inb (c := cl187) (j := z157) S187 (own_ik bk)
          obtain ⟨T187, h187, X187, e187, W187, st187⟩ := stI X159 hx hZ e159 Ar187 (j := z157) hin187 (g := (mkF m 228 A161 [(.int v22), (.int z157), (.ref a9)])) rfl rfl (hb hby at_228)
          have G187 := own_Ai.set ⟨cl187, Ar187, S187, G187⟩ W187
          refine own_step st187 ?_
          have N187 := Fr.snoc X187 N159 ge_a9
          have Z187 : n0 ≤ h187.size := by rw [W187.size]; exact Z159
          have SZ187 : h0.size ≤ h187.size := by rw [W187.size]; exact SZ159
          show own_Ends p e below F (T187.setTop (mkF m 229 A161 []))
          obtain ⟨A188, hA188⟩ : ∃ z : Array Slot, z = #[.val (.int p1), .val (.long wa), .second, .val (.long wb), .second, .val (.int p4), .val (.int p5), .val (.int p6), .val (.int z3), .val (.int v7), .val (.ref a9), .val (.ref a11), .val (.int v18), .val (.int v20), .val (.int v22), .val (.int v24), .val (.int v26), .val (.int v28), .val (.int v30), .val (.int v32), .val (.int v34), .val (.int v36), .val (.int v38), .val (.int v40), .val (.int (z157 + (1 : Int32))), .unset, .unset] := ⟨_, rfl⟩
          refine own_step (fun _ k => XS.iinc X187.here hx rfl (hb hby at_229) (by rw [hA161]; rfl) (l' := A188) (by rw [hA161, hA188]; rfl) k) ?_
          show own_Ends p e below F (T187.setTop (mkF m 232 A188 []))
          rw [hA188]
          exact J219_163 _ _ _ X187 e187 N187 _ _ (by simp only [if_true, if_false, c219_186]) Z187 SZ187 (by simp only [if_true, if_false, c219_186]) G187 (VJ159.other W187 (Ne.symm ne_a9_a11)) (Sta.wr W187 Spe159) (Sta.wr W187 Sde159) (Sta.wr W187 Sno159)
      by_cases c203_189 : v36 < (1 : Int32)
      · refine own_step (fun _ k => XS.icmpYes X155.here hx rfl (pc0 := 203) (pc' := 216) rfl (hb hby at_203) rfl (tlt c203_189).1 (by decide) (by decide) k) ?_
        show own_Ends p e below F (T155.setTop (mkF m 216 A156 []))
        rw [hA156]
        exact J203_158 _ _ _ X155 e155 N155 _ _ (by simp only [if_true, if_false, c203_189]) Z155 SZ155 (by simp only [if_true, if_false, c203_189]) G155 ((((V13.other W15 (Ne.symm ne_a9_a11)).other W16 (Ne.symm ne_a9_a11)).other W17 (Ne.symm ne_a9_a11)).other W155 (Ne.symm ne_a9_a11)) (Sta.wr W155 (Sta.wr W17 (Sta.wr W16 (Sta.wr W15 (Sta.wr W13 (Sta.wr W12 (Sta.ext E11 (Sta.ext E9 Spe)))))))) (Sta.wr W155 (Sta.wr W17 (Sta.wr W16 (Sta.wr W15 (Sta.wr W13 (Sta.wr W12 (Sta.ext E11 (Sta.ext E9 Sde)))))))) (Sta.wr W155 (Sta.wr W17 (Sta.wr W16 (Sta.wr W15 (Sta.wr W13 (Sta.wr W12 (Sta.ext E11 (Sta.ext E9 Sno))))))))
      · refine own_step (fun _ k => XS.icmpNo X155.here hx rfl (hb hby at_203) rfl (flt c203_189).1 k) ?_
        show own_Ends p e below F (T155.setTop (mkF m 206 A156 []))
        refine own_step (fun _ k => XS.aload X155.here hx rfl (hb hby at_206) (by rw [hA156]; rfl) rfl k) ?_
        show own_Ends p e below F (T155.setTop (mkF m 208 A156 [(.ref a9)]))
        refine own_step (fun _ k => XS.iload X155.here hx rfl (hb hby at_208) (by rw [hA156]; rfl) k) ?_
        show own_Ends p e below F (T155.setTop (mkF m 210 A156 [(.int (v18 + (1 : Int32))), (.ref a9)]))
        refine own_step (fun _ k => XS.iload X155.here hx rfl (hb hby at_210) (by rw [hA156]; rfl) k) ?_
        show own_Ends p e below F (T155.setTop (mkF m 212 A156 [(.int v20), (.int (v18 + (1 : Int32))), (.ref a9)]))
        obtain ⟨cl190, Ar190, S190, G190⟩ := id G155
        have hin190 := own_inb (c := cl190) (j := (v18 + (1 : Int32))) S190 (own_ik bk)
        obtain ⟨T190, h190, X190, e190, W190, st190⟩ := stI X155 hx hZ e155 Ar190 (j := (v18 + (1 : Int32))) hin190 (g := (mkF m 212 A156 [(.int v20), (.int (v18 + (1 : Int32))), (.ref a9)])) rfl rfl (hb hby at_212)
        have G190 := own_Ai.set ⟨cl190, Ar190, S190, G190⟩ W190
        refine own_step st190 ?_
        have N190 := Fr.snoc X190 N155 ge_a9
        have Z190 : n0 ≤ h190.size := by rw [W190.size]; exact Z155
        have SZ190 : h0.size ≤ h190.size := by rw [W190.size]; exact SZ155
        show own_Ends p e below F (T190.setTop (mkF m 213 A156 []))
        obtain ⟨A191, hA191⟩ : ∃ z : Array Slot, z = #[.val (.int p1), .val (.long wa), .second, .val (.long wb), .second, .val (.int p4), .val (.int p5), .val (.int p6), .val (.int z3), .val (.int v7), .val (.ref a9), .val (.ref a11), .val (.int v18), .val (.int v20), .val (.int v22), .val (.int v24), .val (.int v26), .val (.int v28), .val (.int v30), .val (.int v32), .val (.int v34), .val (.int v36), .val (.int v38), .val (.int v40), .val (.int ((v18 + (1 : Int32)) + (1 : Int32))), .unset, .unset] := ⟨_, rfl⟩
        refine own_step (fun _ k => XS.iinc X190.here hx rfl (hb hby at_213) (by rw [hA156]; rfl) (l' := A191) (by rw [hA156, hA191]; rfl) k) ?_
        show own_Ends p e below F (T190.setTop (mkF m 216 A191 []))
        rw [hA191]
        exact J203_158 _ _ _ X190 e190 N190 _ _ (by simp only [if_true, if_false, c203_189]) Z190 SZ190 (by simp only [if_true, if_false, c203_189]) G190 (((((V13.other W15 (Ne.symm ne_a9_a11)).other W16 (Ne.symm ne_a9_a11)).other W17 (Ne.symm ne_a9_a11)).other W155 (Ne.symm ne_a9_a11)).other W190 (Ne.symm ne_a9_a11)) (Sta.wr W190 (Sta.wr W155 (Sta.wr W17 (Sta.wr W16 (Sta.wr W15 (Sta.wr W13 (Sta.wr W12 (Sta.ext E11 (Sta.ext E9 Spe))))))))) (Sta.wr W190 (Sta.wr W155 (Sta.wr W17 (Sta.wr W16 (Sta.wr W15 (Sta.wr W13 (Sta.wr W12 (Sta.ext E11 (Sta.ext E9 Sde))))))))) (Sta.wr W190 (Sta.wr W155 (Sta.wr W17 (Sta.wr W16 (Sta.wr W15 (Sta.wr W13 (Sta.wr W12 (Sta.ext E11 (Sta.ext E9 Sno)))))))))
  by_cases c8_192 : (p1 &&& (8 : Int32)) = (0 : Int32)
  · refine own_step (fun _ k => XS.ifYes X0.here hx rfl (pc0 := 8) (pc' := 18) rfl (hb hby at_8) rfl ((if0 _ _).trans (teq c8_192).1) (by decide) (by decide) k) ?_
    show own_Ends p e below F (s₁.setTop (mkF m 18 A2 []))
    rw [hA2]
    exact J8_4 _ (by simp only [if_true, if_false, c8_192])
  · refine own_step (fun _ k => XS.ifNo X0.here hx rfl (hb hby at_8) rfl ((if0 _ _).trans (feq c8_192).1) k) ?_
    show own_Ends p e below F (s₁.setTop (mkF m 11 A2 []))
    refine own_step (fun _ k => XS.iload X0.here hx rfl (hb hby at_11) (by rw [hA2]; rfl) k) ?_
    show own_Ends p e below F (s₁.setTop (mkF m 13 A2 [(.int p1)]))
    refine own_step (fun _ k => XS.bipush X0.here hx rfl (hb hby at_13) k) ?_
    show own_Ends p e below F (s₁.setTop (mkF m 15 A2 [(.int (-17 : Int32)), (.int p1)]))
    refine own_step (fun _ k => XS.iand X0.here hx rfl (hb hby at_15) rfl k) ?_
    show own_Ends p e below F (s₁.setTop (mkF m 16 A2 [(.int (p1 &&& (-17 : Int32)))]))
    obtain ⟨A193, hA193⟩ : ∃ z : Array Slot, z = #[.val (.int p1), .val (.long wa), .second, .val (.long wb), .second, .val (.int p4), .val (.int p5), .val (.int p6), .val (.int (p1 &&& (-17 : Int32))), .unset, .unset, .unset, .unset, .unset, .unset, .unset, .unset, .unset, .unset, .unset, .unset, .unset, .unset, .unset, .unset, .unset, .unset] := ⟨_, rfl⟩
    refine own_step (fun _ k => XS.istore X0.here hx rfl (hb hby at_16) rfl (l' := A193) (by rw [hA2, hA193]; exact rfl) k) ?_
    show own_Ends p e below F (s₁.setTop (mkF m 18 A193 []))
    rw [hA193]
    exact J8_4 _ (by simp only [if_true, if_false, c8_192])

set_option maxRecDepth 65536 in
set_option maxHeartbeats 40000000 in
theorem comes_1 {Post : Tables → Env → Array Value → State → Outcome → State → Prop} (hpost : ∀ tb e args s v u, (limb_1_1.after args s (.returned v) u = true ∧ limb_1_2.after args s (.returned v) u = true ∧ True) → FrameEnd s (.returned v) u (Jvm.fieldLocs frame_1_writes args s ++ Jvm.arrayLocs frame_1_arrays args s ++ Jvm.staticLocs frame_1_statics s) 16 128 → Post tb e args s (.returned v) u) :
    ArmFor flags0 classFile x code maxLocals ret World_1 tables_1 room_1 Calls_1 rest_1 Pre_1 Post := by
  intro l hfl _ _ p e ha hc hk s m args below hf hA hF happ hP
  obtain ⟨hcalls, hrest, hpre⟩ := hP
  obtain ⟨-, -, -, hnamed, -, -, -, hat⟩ := (Spec.applies_iff hf).mp happ
  obtain ⟨hg, hn⟩ := and_e (Cond.before_iff.mp (show (Jvm.Cond.and given_1 narrow_1).before args s = true from hpre))
  obtain ⟨g0, r0⟩ := and_e hg
  obtain ⟨g1, r1⟩ := and_e r0
  obtain ⟨g2, r2⟩ := and_e r1
  obtain ⟨g3, r3⟩ := and_e r2
  obtain ⟨g4, r4⟩ := and_e r3
  obtain ⟨g5, r5⟩ := and_e r4
  have g6 := r5
  obtain ⟨w0, w1, w2, w3, w4, w5, rfl⟩ : ∃ w0 w1 w2 w3 w4 w5 : Value, args = #[w0, w1, w2, w3, w4, w5] := by
    have hs : args.size = 6 := by simpa [Cond.value, given_1] using g0
    obtain ⟨L⟩ := args
    match L, hs with
    | [w0, w1, w2, w3, w4, w5], _ => exact ⟨w0, w1, w2, w3, w4, w5, rfl⟩
  have hw := fun d (hd : d ∈ tables_1) => atoms_spec (ws := Jvm.Cond.code x code maxLocals ret :: tables_1) hat d (List.mem_cons_of_mem _ hd)
  have hfit : Fit s := fun {y c} hc i hi => by
    obtain ⟨ha, rfl⟩ := Array.getElem?_eq_some_iff.mp hc
    have q := List.all_eq_true.mp ((Array.all_eq_true_iff_forall_mem.mp hF) _ (Array.getElem_mem ha)) i (List.mem_range.mpr hi)
    simpa [Array.getElem?_eq_getElem hi] using q
  obtain ⟨i0, ei0⟩ := is_v g1
  obtain rfl : w0 = (.int i0) := Option.some.inj ei0
  obtain ⟨i1, ei1⟩ := isL_v g2
  obtain rfl : w1 = (.long i1) := Option.some.inj ei1
  obtain ⟨i2, ei2⟩ := isL_v g3
  obtain rfl : w2 = (.long i2) := Option.some.inj ei2
  obtain ⟨i3, ei3⟩ := is_v g4
  obtain rfl : w3 = (.int i3) := Option.some.inj ei3
  obtain ⟨i4, ei4⟩ := is_v g5
  obtain rfl : w4 = (.int i4) := Option.some.inj ei4
  obtain ⟨i5, ei5⟩ := is_v g6
  obtain rfl : w5 = (.int i5) := Option.some.inj ei5
  obtain ⟨hn1, hn2⟩ := and_e hn
  obtain ⟨hn3, hn4⟩ := and_e hn2
  obtain ⟨no, eno⟩ := exa_v hn1
  have Sno : Sta s s.heap "com/example/entitlement/entitlement/service/Outcome" "NO_MATCH" "Lcom/example/entitlement/entitlement/service/Outcome;" (.ref no) := Sta.start eno (Or.inr ⟨(own_g hw 3 rfl), (own_g hw 4 rfl)⟩)
  obtain ⟨pe, epe⟩ := exa_v hn3
  have Spe : Sta s s.heap "com/example/entitlement/entitlement/service/Outcome" "PERMIT" "Lcom/example/entitlement/entitlement/service/Outcome;" (.ref pe) := Sta.start epe (Or.inr ⟨(own_g hw 3 rfl), (own_g hw 11 rfl)⟩)
  obtain ⟨de, ede⟩ := exa_v hn4
  have Sde : Sta s s.heap "com/example/entitlement/entitlement/service/Outcome" "DENY" "Lcom/example/entitlement/entitlement/service/Outcome;" (.ref de) := Sta.start ede (Or.inr ⟨(own_g hw 3 rfl), (own_g hw 18 rfl)⟩)
  obtain ⟨n, o, h1, h2, h3, _, L, rfl, ⟨rfl, N⟩, hq⟩ := rm0 l s _ hw tables_1 i0 i1 i2 i3 i4 i5 pe de no s.heap s.heap.size (Nat.le_refl _) Spe Sde Sno p e ha hc hk s m _ below hf ((Spec.applies_iff_loose hf).mp happ).1 ⟨rfl, State.Warmed39.refl s, rfl⟩ trivial
  refine ⟨n, _, h1, h2, h3, hpost _ _ _ _ _ _ ⟨Cond.after_iff.mpr rfl, Cond.after_iff.mpr (eq_i res_at (Term.int_eval (1)) rfl), trivial⟩ ⟨hq.1, hq.2.1, (hq.2.2.sift fun y hy => Or.inr (N y hy)).mono (by decide) (by decide)⟩⟩
theorem main_1_1 : Claimed_1_1 := comes_1 fun _ _ _ _ _ _ h hF => ⟨h.1, hF⟩
theorem main_1_2 : Claimed_1_2 := comes_1 fun _ _ _ _ _ _ h hF => ⟨h.2.1, hF⟩

end Jvm.Pilot.@@N@@
namespace Jvm.Pilot.@@N@@
open Jvm Jvm.ClassFile Sem Op Lib Jvm.Free Jvm.Stand Jvm.Pilot.@@N@@.Jvm.D
/-! MADE BY PROGRAM (witnessworld.py) out of the Statement's table words and the real class files: 15 classes; the members and pool entries that the words name. The judged class is class 1, her method 3. -/
namespace start1
open Jvm.ClassFile
def u (s : String) : CpInfo := .utf8 (stringToUtf16 s)
/-- a pool by its gaps: so many unusable entries, then the entry; so many at the end -/
def gap : Nat → List CpInfo → List CpInfo
  | 0, r => r
  | n + 1, r => .unusable :: gap n r
def poolList (es : List (Nat × CpInfo)) (last : Nat) : List CpInfo := es.foldr (fun e r => gap e.1 (e.2 :: r)) (gap last [])
def pool (es : List (Nat × CpInfo)) (last : Nat) : Array CpInfo := ⟨poolList es last⟩
def fileOf (pool : Array CpInfo) (this : Nat) (attrs : Array Attribute := #[]) (ms : Array MethodInfo := #[]) (fl : Nat := 33) (sup : Nat := 0) (ifs : Array Nat := #[]) (fds : Array FieldInfo := #[]) : ClassFile where
  minorVersion := 0
  majorVersion := 65
  constantPool := pool
  accessFlags := fl
  thisClass := this
  superClass := sup
  interfaces := ifs
  fields := fds
  methods := ms
  attributes := attrs
def plain (name : String) (sup : Option ClassId) : Class where
  name := name
  kind := .ordinary
  loader := none
  accessFlags := 33
  super := sup
  interfaces := #[]
  cf := none
  fields := #[]
  methods := #[]
  instanceTypes := #[]
  staticTypes := #[]
  resolved := #[]
  callSites := []
  init := .initialized
  statics := none
  mirror := none

def pool0 : Array CpInfo := pool [(5, u "<init>"), (0, u "()V"), (1, .class_ 10), (1, u "java/lang/Object")] 113

def k0m0 : Method := { name := "<init>", desc := "()V", sig := { parameters := [], returnType := none }, accessFlags := 1, code := none }
/-- java/lang/Object -/
def k0 : Class := { plain "java/lang/Object" none with
  accessFlags := 33
  interfaces := #[]
  cf := some (fileOf pool0 8 #[] #[{ accessFlags := 1, nameIndex := 5, descriptorIndex := 6, attributes := #[] }] 33 0 #[] #[])
  fields := #[]
  methods := #[k0m0]
  instanceTypes := #[]
  staticTypes := #[]
  resolved := Array.replicate 124 none
  statics := none }

def pool1 : Array CpInfo := pool [(2, .class_ 4), (1, u "java/lang/Object"), (0, u "<init>"), (0, u "()V"), (0, .fieldref 8 9), (0, .class_ 10), (0, .nameAndType 11 12), (0, u "com/example/entitlement/entitlement/service/Outcome"), (0, u "PERMIT"), (0, u "Lcom/example/entitlement/entitlement/service/Outcome;"), (0, .fieldref 8 14), (0, .nameAndType 15 12), (0, u "DENY"), (0, .methodref 17 18), (0, .class_ 19), (0, .nameAndType 20 21), (0, u "com/example/entitlement/entitlement/service/AclCodeOwnPinLaw"), (0, u "has"), (0, u "(JJI)Z"), (0, .fieldref 8 23), (0, .nameAndType 24 12), (0, u "NO_MATCH"), (0, .methodref 17 26), (0, .nameAndType 27 28), (0, u "action"), (0, u "(I)Lcom/example/entitlement/entitlement/service/Outcome;"), (0, .methodref 30 31), (0, .class_ 32), (0, .nameAndType 33 34), (0, u "com/example/entitlement/entitlement/service/AclCode"), (0, u "own"), (0, u "([II[J)Lcom/example/entitlement/entitlement/service/Outcome;"), (3, u "law"), (0, u "(IJJIII)Z")] 6

def k1m0 : Method := { name := "<init>", desc := "()V", sig := { parameters := [], returnType := none }, accessFlags := 2, code := none }
def k1c1 : Code := { maxStack := 4, maxLocals := 7, code := method_2_code, exceptionTable := #[], attributes := #[] }
def k1m1 : Method := { name := "has", desc := "(JJI)Z", sig := { parameters := [.long, .long, .int], returnType := some .boolean }, accessFlags := 10, code := some k1c1 }
def k1c2 : Code := { maxStack := 2, maxLocals := 1, code := method_3_code, exceptionTable := #[], attributes := #[] }
def k1m2 : Method := { name := "action", desc := "(I)Lcom/example/entitlement/entitlement/service/Outcome;", sig := { parameters := [.int], returnType := some (.object "com/example/entitlement/entitlement/service/Outcome") }, accessFlags := 10, code := some k1c2 }
def k1c3 : Code := { maxStack := 6, maxLocals := 27, code := code, exceptionTable := #[], attributes := #[] }
def k1m3 : Method := { name := "law", desc := "(IJJIII)Z", sig := { parameters := [.int, .long, .long, .int, .int, .int], returnType := some .boolean }, accessFlags := 9, code := some k1c3 }
/-- com/example/entitlement/entitlement/service/AclCodeOwnPinLaw -/
def k1 : Class := { plain "com/example/entitlement/entitlement/service/AclCodeOwnPinLaw" (some 0) with
  accessFlags := 49
  interfaces := #[]
  cf := some (fileOf pool1 17 #[] #[{ accessFlags := 2, nameIndex := 5, descriptorIndex := 6, attributes := #[] }, { accessFlags := 10, nameIndex := 20, descriptorIndex := 21, attributes := #[] }, { accessFlags := 10, nameIndex := 27, descriptorIndex := 28, attributes := #[] }, { accessFlags := 9, nameIndex := 38, descriptorIndex := 39, attributes := #[] }] 49 2 #[] #[])
  fields := #[]
  methods := #[k1m0, k1m1, k1m2, k1m3]
  instanceTypes := #[]
  staticTypes := #[]
  resolved := Array.replicate 46 none
  statics := none }

def pool2 : Array CpInfo := pool [(1, .class_ 2), (0, u "java/lang/constant/Constable"), (0, .class_ 4), (0, u "java/lang/Object")] 6

/-- java/lang/constant/Constable -/
def k2 : Class := { plain "java/lang/constant/Constable" (some 0) with
  accessFlags := 1537
  interfaces := #[]
  cf := some (fileOf pool2 1 #[] #[] 1537 3 #[] #[])
  fields := #[]
  methods := #[]
  instanceTypes := #[]
  staticTypes := #[]
  resolved := Array.replicate 11 none
  statics := none }

def pool3 : Array CpInfo := pool [(1, .class_ 2), (0, u "java/lang/Comparable"), (0, .class_ 4), (0, u "java/lang/Object")] 7

/-- java/lang/Comparable -/
def k3 : Class := { plain "java/lang/Comparable" (some 0) with
  accessFlags := 1537
  interfaces := #[]
  cf := some (fileOf pool3 1 #[] #[] 1537 3 #[] #[])
  fields := #[]
  methods := #[]
  instanceTypes := #[]
  staticTypes := #[]
  resolved := Array.replicate 12 none
  statics := none }

def pool4 : Array CpInfo := pool [(1, .class_ 2), (0, u "java/io/Serializable"), (0, .class_ 4), (0, u "java/lang/Object")] 2

/-- java/io/Serializable -/
def k4 : Class := { plain "java/io/Serializable" (some 0) with
  accessFlags := 1537
  interfaces := #[]
  cf := some (fileOf pool4 1 #[] #[] 1537 3 #[] #[])
  fields := #[]
  methods := #[]
  instanceTypes := #[]
  staticTypes := #[]
  resolved := Array.replicate 7 none
  statics := none }

def pool5 : Array CpInfo := pool [(2, .class_ 4), (1, u "java/lang/Enum"), (0, u "name"), (0, u "Ljava/lang/String;"), (2, u "ordinal"), (0, u "I"), (1, .class_ 14), (1, u "java/lang/Object"), (4, u "hash"), (86, .class_ 108), (1, u "java/lang/Enum$EnumDesc"), (2, .class_ 112), (0, u "java/lang/constant/Constable"), (0, .class_ 114), (0, u "java/lang/Comparable"), (0, .class_ 116), (0, u "java/io/Serializable")] 87

/-- java/lang/Enum -/
def k5 : Class := { plain "java/lang/Enum" (some 0) with
  accessFlags := 1057
  interfaces := #[2, 3, 4]
  cf := some (fileOf pool5 2 #[.nestMembers #[106]] #[] 1057 12 #[111, 113, 115] #[{ accessFlags := 18, nameIndex := 5, descriptorIndex := 6, attributes := #[] }, { accessFlags := 18, nameIndex := 9, descriptorIndex := 10, attributes := #[] }, { accessFlags := 2, nameIndex := 19, descriptorIndex := 10, attributes := #[] }])
  fields := #[{ name := "name", type := (.object "java/lang/String"), accessFlags := 18, slot := 0, constantValue := 0 }, { name := "ordinal", type := .int, accessFlags := 18, slot := 1, constantValue := 0 }, { name := "hash", type := .int, accessFlags := 2, slot := 2, constantValue := 0 }]
  methods := #[]
  instanceTypes := #[(.object "java/lang/String"), .int, .int]
  staticTypes := #[]
  resolved := Array.replicate 204 none
  statics := none }

def pool6 : Array CpInfo := pool [(1, .class_ 2), (0, u "com/example/entitlement/entitlement/service/Outcome"), (2, u "PERMIT"), (0, u "Lcom/example/entitlement/entitlement/service/Outcome;"), (2, u "DENY"), (2, u "NO_MATCH"), (2, u "UNDECIDABLE"), (2, u "$VALUES"), (0, u "[Lcom/example/entitlement/entitlement/service/Outcome;"), (6, .class_ 28), (1, u "java/lang/Enum")] 26

/-- com/example/entitlement/entitlement/service/Outcome -/
def k6 : Class := { plain "com/example/entitlement/entitlement/service/Outcome" (some 5) with
  accessFlags := 16432
  interfaces := #[]
  cf := some (fileOf pool6 1 #[] #[] 16432 26 #[] #[{ accessFlags := 16409, nameIndex := 5, descriptorIndex := 6, attributes := #[] }, { accessFlags := 16409, nameIndex := 9, descriptorIndex := 6, attributes := #[] }, { accessFlags := 16409, nameIndex := 12, descriptorIndex := 6, attributes := #[] }, { accessFlags := 16409, nameIndex := 15, descriptorIndex := 6, attributes := #[] }, { accessFlags := 4122, nameIndex := 18, descriptorIndex := 19, attributes := #[] }])
  fields := #[{ name := "PERMIT", type := (.object "com/example/entitlement/entitlement/service/Outcome"), accessFlags := 16409, slot := 0, constantValue := 0 }, { name := "DENY", type := (.object "com/example/entitlement/entitlement/service/Outcome"), accessFlags := 16409, slot := 1, constantValue := 0 }, { name := "NO_MATCH", type := (.object "com/example/entitlement/entitlement/service/Outcome"), accessFlags := 16409, slot := 2, constantValue := 0 }, { name := "UNDECIDABLE", type := (.object "com/example/entitlement/entitlement/service/Outcome"), accessFlags := 16409, slot := 3, constantValue := 0 }, { name := "$VALUES", type := (.array (.object "com/example/entitlement/entitlement/service/Outcome")), accessFlags := 4122, slot := 4, constantValue := 0 }]
  methods := #[]
  instanceTypes := #[(.object "java/lang/String"), .int, .int]
  staticTypes := #[(.object "com/example/entitlement/entitlement/service/Outcome"), (.object "com/example/entitlement/entitlement/service/Outcome"), (.object "com/example/entitlement/entitlement/service/Outcome"), (.object "com/example/entitlement/entitlement/service/Outcome"), (.array (.object "com/example/entitlement/entitlement/service/Outcome"))]
  resolved := Array.replicate 55 none
  statics := some 0 }

def pool7 : Array CpInfo := pool [(2, .class_ 4), (1, u "java/lang/Object"), (0, u "<init>"), (0, u "()V"), (6, .class_ 14), (0, u "com/example/entitlement/entitlement/service/AclCode"), (73, .fieldref 89 90), (0, .class_ 91), (0, .nameAndType 92 93), (0, u "com/example/entitlement/entitlement/service/Outcome"), (0, u "PERMIT"), (0, u "Lcom/example/entitlement/entitlement/service/Outcome;"), (0, .methodref 13 95), (0, .nameAndType 96 97), (0, u "holdsAny"), (0, u "([III[J)Z"), (0, .fieldref 89 99), (0, .nameAndType 100 93), (0, u "DENY"), (0, .fieldref 89 102), (0, .nameAndType 103 93), (0, u "NO_MATCH"), (0, .methodref 13 105), (0, .nameAndType 106 107), (0, u "firstMatch"), (0, u "([III[J)Lcom/example/entitlement/entitlement/service/Outcome;"), (0, .methodref 13 109), (0, .nameAndType 110 111), (0, u "holds"), (0, u "([JI)Z"), (0, u "PUBLIC"), (0, u "I"), (2, u "ACL_ONLY"), (1, u "INHERITS"), (1, u "READERS"), (1, u "ENTRIES"), (1, u "HEADER_LENGTH"), (17, u "own"), (0, u "([II[J)Lcom/example/entitlement/entitlement/service/Outcome;")] 8

def k7m0 : Method := { name := "<init>", desc := "()V", sig := { parameters := [], returnType := none }, accessFlags := 2, code := none }
def k7c1 : Code := { maxStack := 4, maxLocals := 7, code := prog_41_method_7_code, exceptionTable := #[], attributes := #[] }
def k7m1 : Method := { name := "own", desc := "([II[J)Lcom/example/entitlement/entitlement/service/Outcome;", sig := { parameters := [(.array .int), .int, (.array .long)], returnType := some (.object "com/example/entitlement/entitlement/service/Outcome") }, accessFlags := 8, code := some k7c1 }
def k7c2 : Code := { maxStack := 3, maxLocals := 5, code := prog_41_method_8_code, exceptionTable := #[], attributes := #[] }
def k7m2 : Method := { name := "holdsAny", desc := "([III[J)Z", sig := { parameters := [(.array .int), .int, .int, (.array .long)], returnType := some .boolean }, accessFlags := 10, code := some k7c2 }
def k7c3 : Code := { maxStack := 3, maxLocals := 6, code := prog_41_method_9_code, exceptionTable := #[], attributes := #[] }
def k7m3 : Method := { name := "firstMatch", desc := "([III[J)Lcom/example/entitlement/entitlement/service/Outcome;", sig := { parameters := [(.array .int), .int, .int, (.array .long)], returnType := some (.object "com/example/entitlement/entitlement/service/Outcome") }, accessFlags := 10, code := some k7c3 }
def k7c4 : Code := { maxStack := 5, maxLocals := 2, code := prog_41_method_10_code, exceptionTable := #[], attributes := #[] }
def k7m4 : Method := { name := "holds", desc := "([JI)Z", sig := { parameters := [(.array .long), .int], returnType := some .boolean }, accessFlags := 10, code := some k7c4 }
/-- com/example/entitlement/entitlement/service/AclCode -/
def k7 : Class := { plain "com/example/entitlement/entitlement/service/AclCode" (some 0) with
  accessFlags := 32
  interfaces := #[]
  cf := some (fileOf pool7 13 #[] #[{ accessFlags := 2, nameIndex := 5, descriptorIndex := 6, attributes := #[] }, { accessFlags := 8, nameIndex := 142, descriptorIndex := 143, attributes := #[] }, { accessFlags := 10, nameIndex := 96, descriptorIndex := 97, attributes := #[] }, { accessFlags := 10, nameIndex := 106, descriptorIndex := 107, attributes := #[] }, { accessFlags := 10, nameIndex := 110, descriptorIndex := 111, attributes := #[] }] 32 2 #[] #[{ accessFlags := 26, nameIndex := 112, descriptorIndex := 113, attributes := #[] }, { accessFlags := 26, nameIndex := 116, descriptorIndex := 113, attributes := #[] }, { accessFlags := 26, nameIndex := 118, descriptorIndex := 113, attributes := #[] }, { accessFlags := 26, nameIndex := 120, descriptorIndex := 113, attributes := #[] }, { accessFlags := 26, nameIndex := 122, descriptorIndex := 113, attributes := #[] }, { accessFlags := 26, nameIndex := 124, descriptorIndex := 113, attributes := #[] }])
  fields := #[{ name := "PUBLIC", type := .int, accessFlags := 26, slot := 0, constantValue := 0 }, { name := "ACL_ONLY", type := .int, accessFlags := 26, slot := 1, constantValue := 0 }, { name := "INHERITS", type := .int, accessFlags := 26, slot := 2, constantValue := 0 }, { name := "READERS", type := .int, accessFlags := 26, slot := 3, constantValue := 0 }, { name := "ENTRIES", type := .int, accessFlags := 26, slot := 4, constantValue := 0 }, { name := "HEADER_LENGTH", type := .int, accessFlags := 26, slot := 5, constantValue := 0 }]
  methods := #[k7m0, k7m1, k7m2, k7m3, k7m4]
  instanceTypes := #[]
  staticTypes := #[.int, .int, .int, .int, .int, .int]
  resolved := Array.replicate 152 none
  statics := none }

def pool8 : Array CpInfo := pool [(1, u "java/lang/Cloneable"), (0, .class_ 1), (0, u "java/lang/Object"), (0, .class_ 3)] 3

/-- java/lang/Cloneable -/
def k8 : Class := { plain "java/lang/Cloneable" (some 0) with
  accessFlags := 1537
  interfaces := #[]
  cf := some (fileOf pool8 2 #[] #[] 1537 4 #[] #[])
  fields := #[]
  methods := #[]
  instanceTypes := #[]
  staticTypes := #[]
  resolved := Array.replicate 8 none
  statics := none }

/-- the primitive byte -/
def k9 : Class := { plain "byte" none with kind := .primitive 'B', accessFlags := 0x411 }
/-- [B -/
def k10 : Class := { plain "[B" (some 0) with kind := .array 9 .byte, interfaces := #[8, 4], accessFlags := 1041 }

/-- the primitive int -/
def k11 : Class := { plain "int" none with kind := .primitive 'I', accessFlags := 0x411 }
/-- [I -/
def k12 : Class := { plain "[I" (some 0) with kind := .array 11 .int, interfaces := #[8, 4], accessFlags := 1041 }

/-- the primitive long -/
def k13 : Class := { plain "long" none with kind := .primitive 'J', accessFlags := 0x411 }
/-- [J -/
def k14 : Class := { plain "[J" (some 0) with kind := .array 13 .long, interfaces := #[8, 4], accessFlags := 1041 }

def heap : Heap := #[{ cls := 6, slots := #[.ref 2, .ref 3, .ref 1, .null, .null], vm := .statics 6 },
  { cls := 6, slots := #[.null, .int 2, .int 0], vm := .none },
  { cls := 6, slots := #[.null, .int 0, .int 0], vm := .none },
  { cls := 6, slots := #[.null, .int 1, .int 0], vm := .none }]
def classes : Array Class := #[k0, k1, k2, k3, k4, k5, k6, k7, k8, k9, k10, k11, k12, k13, k14]
def interned : List (Array UInt16 × Addr) := []
def slotsUsed : Nat := 14
def theMethod : MethodId := ⟨1, 3⟩
def args0 : Array Value := #[.int 5, .long 6, .long 7, .int 8, .int 9, .int 10]
def aboutOver (below : List Frame) : State where
  vm := { classes := classes, interned := interned.toArray }
  heap := heap
  slotsUsed := slotsUsed
  threads := #[{ frames := .invoking theMethod args0 :: below }]
def below0 : List Frame := [.native { method := ⟨0, 0⟩, args := #[] }]
def about1 : State := aboutOver below0
def p0 : Program := .bare "" "" ""
def e0 : Env := launch0.env 0 0 0
theorem w_frames : about1.frames = Frame.invoking theMethod args0 :: below0 := rfl
set_option maxRecDepth 65536 in
theorem w_args : argsFit about1.vm theMethod args0 = true := by decide +kernel
set_option maxRecDepth 65536 in
theorem w_heap : heapFits about1 = true := by decide +kernel
set_option maxRecDepth 65536 in
theorem w_runnable : about1.curStatus? = some .runnable := by decide +kernel
set_option maxRecDepth 65536 in
theorem w_alone : about1.alone = true := by decide +kernel
set_option maxRecDepth 65536 in
theorem w_named : about1.methodNamed? x = some theMethod := by decide +kernel
set_option maxRecDepth 65536 in
theorem w_hears : about1.hears theMethod below0 = true := by decide +kernel
set_option maxRecDepth 65536 in
theorem w_ripe : about1.ripe theMethod args0 below0 = true := by decide +kernel
theorem w_running : about1.status = .running := rfl
set_option maxRecDepth 65536 in
theorem w_room : about1.hasRoom e0.platform room_1 = true :=
  launch0.hasRoom_least _ room_1 (by decide +kernel) (by decide +kernel) (by decide +kernel) (by decide +kernel) (by decide +kernel) (by decide +kernel)
theorem allAtoms_all (ts : List Jvm.Cond) (a : Array Jvm.Value) (st : Jvm.State) : (allAtoms ts).before a st = ts.all (fun c => c.before a st) := by
  induction ts with
  | nil => rfl
  | cons c t ih =>
    show (Jvm.Cond.and c (allAtoms t)).before a st = _
    rw [Jvm.Cond.before_and, ih, List.all_cons]
def words1 : List Jvm.Cond := Jvm.Cond.code x code maxLocals ret :: tables_1
/-- a 'code' word, met by the world's own term for the bytes: nothing is compared byte by byte -/
theorem code_word {y : MethodName} {bytes : ByteArray} {mx : Nat} {rt : Option FieldType} {a : Array Value} {s : State} {m : MethodId} {meth : Method} {c : Code} (h1 : s.methodNamed? y = some m) (h2 : s.vm.method? m = some meth) (h3 : meth.code = some c) (h4 : c.code = bytes)
    (h5 : (c.maxLocals == mx && c.exceptionTable.isEmpty && decide (c.maxStack ≤ mostOperands) && decide (meth.sig.returnType = rt) && !meth.locks && decide (parseMethodDescriptor y.desc = some meth.sig)) = true) : (Jvm.Cond.code y bytes mx rt).before a s = true := by
  simp only [Bool.and_eq_true, beq_iff_eq, Bool.not_eq_true', decide_eq_true_eq] at h5
  obtain ⟨⟨⟨⟨⟨g1, g2⟩, g3⟩, g4⟩, g5⟩, g6⟩ := h5
  simp [Cond.before, Cond.holds, Cond.value, h1, h2, h3, h4, g1, g2, g3, g4, g5, g6]
def isCode : Jvm.Cond → Bool
  | .code _ _ _ _ => true
  | _ => false
theorem all_split {L : List Jvm.Cond} {P : Jvm.Cond → Bool} (h1 : L.all (fun c => isCode c || P c) = true) (h2 : ∀ c ∈ L.filter isCode, P c = true) : L.all P = true := by
  refine List.all_eq_true.mpr fun c hc => ?_
  have h := List.all_eq_true.mp h1 c hc
  rcases Bool.eq_false_or_eq_true (isCode c) with hi | hi
  · exact h2 c (List.mem_filter.mpr ⟨hc, hi⟩)
  · simpa [hi] using h
set_option maxRecDepth 65536 in
theorem w_c0 : (Jvm.Cond.code x code maxLocals ret).before args0 about1 = true := code_word (m := ⟨1, 3⟩) (meth := k1m3) (c := k1c3) (by decide +kernel) rfl rfl rfl (by decide +kernel)
set_option maxRecDepth 65536 in
theorem w_c1 : (Jvm.Cond.code ({ cls := "com/example/entitlement/entitlement/service/AclCode", name := "own", desc := "([II[J)Lcom/example/entitlement/entitlement/service/Outcome;" } : Jvm.MethodName) prog_41_method_7_code (7 : Nat) (Option.some (Jvm.ClassFile.FieldType.object "com/example/entitlement/entitlement/service/Outcome"))).before args0 about1 = true := code_word (m := ⟨7, 1⟩) (meth := k7m1) (c := k7c1) (by decide +kernel) rfl rfl rfl (by decide +kernel)
set_option maxRecDepth 65536 in
theorem w_c2 : (Jvm.Cond.code ({ cls := "com/example/entitlement/entitlement/service/AclCodeOwnPinLaw", name := "has", desc := "(JJI)Z" } : Jvm.MethodName) method_2_code (7 : Nat) (Option.some Jvm.ClassFile.FieldType.boolean)).before args0 about1 = true := code_word (m := ⟨1, 1⟩) (meth := k1m1) (c := k1c1) (by decide +kernel) rfl rfl rfl (by decide +kernel)
set_option maxRecDepth 65536 in
theorem w_c3 : (Jvm.Cond.code ({ cls := "com/example/entitlement/entitlement/service/AclCode", name := "holdsAny", desc := "([III[J)Z" } : Jvm.MethodName) prog_41_method_8_code (5 : Nat) (Option.some Jvm.ClassFile.FieldType.boolean)).before args0 about1 = true := code_word (m := ⟨7, 2⟩) (meth := k7m2) (c := k7c2) (by decide +kernel) rfl rfl rfl (by decide +kernel)
set_option maxRecDepth 65536 in
theorem w_c4 : (Jvm.Cond.code ({ cls := "com/example/entitlement/entitlement/service/AclCode", name := "holds", desc := "([JI)Z" } : Jvm.MethodName) prog_41_method_10_code (2 : Nat) (Option.some Jvm.ClassFile.FieldType.boolean)).before args0 about1 = true := code_word (m := ⟨7, 4⟩) (meth := k7m4) (c := k7c4) (by decide +kernel) rfl rfl rfl (by decide +kernel)
set_option maxRecDepth 65536 in
theorem w_c5 : (Jvm.Cond.code ({ cls := "com/example/entitlement/entitlement/service/AclCode", name := "firstMatch", desc := "([III[J)Lcom/example/entitlement/entitlement/service/Outcome;" } : Jvm.MethodName) prog_41_method_9_code (6 : Nat) (Option.some (Jvm.ClassFile.FieldType.object "com/example/entitlement/entitlement/service/Outcome"))).before args0 about1 = true := code_word (m := ⟨7, 3⟩) (meth := k7m3) (c := k7c3) (by decide +kernel) rfl rfl rfl (by decide +kernel)
set_option maxRecDepth 65536 in
theorem w_c6 : (Jvm.Cond.code ({ cls := "com/example/entitlement/entitlement/service/AclCodeOwnPinLaw", name := "action", desc := "(I)Lcom/example/entitlement/entitlement/service/Outcome;" } : Jvm.MethodName) method_3_code (1 : Nat) (Option.some (Jvm.ClassFile.FieldType.object "com/example/entitlement/entitlement/service/Outcome"))).before args0 about1 = true := code_word (m := ⟨1, 2⟩) (meth := k1m2) (c := k1c2) (by decide +kernel) rfl rfl rfl (by decide +kernel)
def codes1 : List Jvm.Cond := [Jvm.Cond.code x code maxLocals ret, Jvm.Cond.code ({ cls := "com/example/entitlement/entitlement/service/AclCode", name := "own", desc := "([II[J)Lcom/example/entitlement/entitlement/service/Outcome;" } : Jvm.MethodName) prog_41_method_7_code (7 : Nat) (Option.some (Jvm.ClassFile.FieldType.object "com/example/entitlement/entitlement/service/Outcome")), Jvm.Cond.code ({ cls := "com/example/entitlement/entitlement/service/AclCodeOwnPinLaw", name := "has", desc := "(JJI)Z" } : Jvm.MethodName) method_2_code (7 : Nat) (Option.some Jvm.ClassFile.FieldType.boolean), Jvm.Cond.code ({ cls := "com/example/entitlement/entitlement/service/AclCode", name := "holdsAny", desc := "([III[J)Z" } : Jvm.MethodName) prog_41_method_8_code (5 : Nat) (Option.some Jvm.ClassFile.FieldType.boolean), Jvm.Cond.code ({ cls := "com/example/entitlement/entitlement/service/AclCode", name := "holds", desc := "([JI)Z" } : Jvm.MethodName) prog_41_method_10_code (2 : Nat) (Option.some Jvm.ClassFile.FieldType.boolean), Jvm.Cond.code ({ cls := "com/example/entitlement/entitlement/service/AclCode", name := "firstMatch", desc := "([III[J)Lcom/example/entitlement/entitlement/service/Outcome;" } : Jvm.MethodName) prog_41_method_9_code (6 : Nat) (Option.some (Jvm.ClassFile.FieldType.object "com/example/entitlement/entitlement/service/Outcome")), Jvm.Cond.code ({ cls := "com/example/entitlement/entitlement/service/AclCodeOwnPinLaw", name := "action", desc := "(I)Lcom/example/entitlement/entitlement/service/Outcome;" } : Jvm.MethodName) method_3_code (1 : Nat) (Option.some (Jvm.ClassFile.FieldType.object "com/example/entitlement/entitlement/service/Outcome"))]
set_option maxRecDepth 65536 in
theorem codes_eq : words1.filter isCode = codes1 := rfl
theorem w_codes : ∀ c ∈ words1.filter isCode, c.before args0 about1 = true := by
  rw [codes_eq]
  intro c hc
  simp only [codes1, List.mem_cons, List.not_mem_nil, or_false] at hc
  rcases hc with rfl | rfl | rfl | rfl | rfl | rfl | rfl
  · exact w_c0
  · exact w_c1
  · exact w_c2
  · exact w_c3
  · exact w_c4
  · exact w_c5
  · exact w_c6
set_option maxRecDepth 65536 in
theorem w_t1 : (words1.take 24).all (fun c => isCode c || c.before args0 about1) = true := by decide +kernel
set_option maxRecDepth 65536 in
theorem w_t2 : (words1.drop 24).all (fun c => isCode c || c.before args0 about1) = true := by decide +kernel
theorem w_tables : (allAtoms (Jvm.Cond.code x code maxLocals ret :: tables_1)).before args0 about1 = true := by
  rw [allAtoms_all]
  show words1.all (fun c => c.before args0 about1) = true
  refine all_split ?_ w_codes
  rw [← List.take_append_drop 24 words1, List.all_append, w_t1, w_t2]
  rfl
set_option maxRecDepth 65536 in
theorem w_case : (Jvm.Cond.and given_1 narrow_1).before args0 about1 = true := by decide +kernel
theorem w_applies : (headSpec (Jvm.Cond.code x code maxLocals ret :: tables_1) room_1).applies x e0.platform about1 = true :=
  (Spec.applies_iff w_frames).mpr ⟨w_running, w_runnable, w_alone, w_named, w_hears, w_ripe, w_room, w_tables⟩
theorem atStart : AtStart classFile x code maxLocals ret World_1 tables_1 room_1 Calls_1 rest_1 Pre_1 launch0 p0 e0 about1 theMethod args0 below0 :=
  ⟨lists_1, trivial, launch0.admits_env _ _ _, launch0.least_env, fairChoices_fair.cas, fairChoices_fair.clock, w_frames, w_args, w_heap, w_applies, trivial, trivial, w_case⟩
end start1
theorem witness_1 : WitnessClaimed_1 := ⟨start1.p0, start1.e0, start1.about1, start1.theMethod, start1.args0, start1.below0, start1.atStart⟩
end Jvm.Pilot.@@N@@
