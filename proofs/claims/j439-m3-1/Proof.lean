import JvmDerived
import JvmDerived.Pilot.@@N@@Statement
import JvmDerived.Pilot.@@N@@Code
set_option linter.unusedVariables false
set_option linter.unusedSimpArgs false

namespace Jvm.RoadKit
open Sem ClassFile Op Lib Jvm.Stand Jvm.Free Jvm.LawKit
section New
variable {p : Program} {l : Launch} {e : Env} {R : Room} {s : State} {m : MethodId} {args : Array Value} {below : List Frame} {meth : Method} {c : Code} {T : State} {locs : List Loc} {cells slots : Nat}
theorem own_retI (X : Stand p l e R s m args below meth c T locs cells slots) (hx : p.tables.exec = Jvm.exec) {pc : Nat} {Ls : Array Slot} {z : Int32} {rest : List Value} (hret : meth.sig.returnType = some .int) (hd : decode c.code pc = .ok (.ireturn, 1)) {fs : List Frame}
    (hl : ∀ (f : JFrame) (acts : List Action), f.method = m → f.locked = none → f.entered = [] → (doReturn e (T.setTop f) acts (some (.int z))).1 = T.setFrames fs) : Steps p.tables e below (T.setTop (mkF m pc Ls (.int z :: rest))) (T.setFrames fs) :=
  retOut X hx (t := .int) (w := .int z) (i := .ireturn) hret rfl (Or.inl ⟨rfl, Or.inl rfl, z, rfl⟩) hd hl
end New
end Jvm.RoadKit

namespace Jvm.Pilot.@@N@@
open Jvm Jvm.ClassFile Sem Op Lib Jvm.Free Jvm.Stand Jvm.LawKit Jvm.RoadKit Bundle Jvm.Pilot.@@N@@.Jvm.D

theorem own_g {Z : State} {a0 : Array Value} (hw : ∀ d ∈ tables_1, d.before a0 Z = true) (i : Nat) {d : Jvm.Cond} (h : tables_1[i]? = some d) : d.before a0 Z = true := hw _ (List.mem_of_getElem? h)
/-- from the state T the run comes to an end that F takes -/
def own_Ends (p : Program) (e : Env) (below : List Frame) (F : Outcome → State → Prop) (T : State) : Prop :=
  ∃ s₂ o, Steps p.tables e below T s₂ ∧ s₂.status = .running ∧ Ended s₂ below o ∧ F o s₂
def own_Fin (s : State) (Q : Option Value → Heap → List Loc → Prop) (C S : Nat) (o : Outcome) (U : State) : Prop :=
  ∃ v L, o = .returned v ∧ Q v U.heap L ∧ FrameEnd s o U L C S
theorem own_Sta_keep {Z : State} {h h' : Heap} {C n d : String} {v : Value} {ws : List Addr} (F : Sta Z h C n d v) (K : Keep h h' ws) (q : ∀ x ∈ ws, ∀ c : Cell, h[x]? = some c → c.vm.isStatics = false) : Sta Z h' C n d v := by
  obtain ⟨cf, i, k, f, st, cell, h1, h2, h3, h4, h5, h6, h7⟩ := F
  exact ⟨cf, i, k, f, st, cell, h1, h2, h3, h4, K.2.1 st cell h5 (fun m => by rw [q st m cell h5] at h6; cases h6), h6, h7⟩
theorem own_ns_exa {Z : State} {h : Heap} {a : Addr} {C : String} (F : Exa Z h a C) : ∀ c : Cell, h[a]? = some c → c.vm.isStatics = false := fun c hc => by
  obtain ⟨cell, k, h1, h2, h3, h4, h5⟩ := F
  cases h1.symm.trans hc; exact h4
theorem own_ns_arv {Z : State} {h : Heap} {a : Addr} {k : ClassId} {ty : FieldType} {n : Int32} {vs : List Value} {d : Value} (F : Arv Z h a k ty n vs d) : ∀ c : Cell, h[a]? = some c → c.vm.isStatics = false := fun c hc => by
  obtain ⟨cell, A, r⟩ := F
  cases A.1.symm.trans hc; exact A.plain
section OwnSteps
variable {p : Program} {l : Launch} {e : Env} {R : Room} {s : State} {m : MethodId} {args : Array Value} {below : List Frame} {meth : Method} {c : Code} {T T' : State} {locs : List Loc} {cells slots cells' slots' : Nat} {F : Outcome → State → Prop}
theorem own_step (h : ∀ target, Steps p.tables e below T' target → Steps p.tables e below T target) (k : own_Ends p e below F T') : own_Ends p e below F T := by
  obtain ⟨s₂, o, h1, h2⟩ := k
  exact ⟨s₂, o, h _ h1, h2⟩
theorem own_trans (h : Steps p.tables e below T T') (k : own_Ends p e below F T') : own_Ends p e below F T := by
  obtain ⟨s₂, o, h1, h2⟩ := k
  exact ⟨s₂, o, h.trans h1, h2⟩
theorem own_mono (X : Stand p l e R s m args below meth c T locs cells slots) (h1 : cells ≤ cells') (h2 : slots ≤ slots') : Stand p l e R s m args below meth c T locs cells' slots' :=
  { X with same := X.same.mono h1 h2 }
theorem own_ret {Q : Option Value → Heap → List Loc → Prop} {C S : Nat} {g : JFrame} (X : Stand p l e R s m args below meth c T locs cells slots) {v : Option Value} (hv : meth.sig.returnType = none → v = none) (hlocks : meth.locks = false)
    (st : ∀ fs, (∀ (f : JFrame) (acts : List Action), f.method = m → f.locked = none → f.entered = [] → (doReturn e (T.setTop f) acts v).1 = T.setFrames fs) → Steps p.tables e below (T.setTop g) (T.setFrames fs))
    (h1 : cells ≤ C) (h2 : slots ≤ S) (hQ : Q v T.heap locs) : own_Ends p e below (own_Fin s Q C S) (T.setTop g) := by
  obtain ⟨fs, hr, hrun, hended, hW, hsame⟩ := X.leave (v := v) hv hlocks
  exact ⟨_, _, st fs hr, hrun, hended, _, _, rfl, hQ, ⟨_, rfl⟩, hW, hsame.mono h1 h2⟩
def own_FinW (s : State) (Q : Option Value → Heap → List Loc → Prop) (C S : Nat) (o : Outcome) (U : State) : Prop :=
  ∃ v L, o = .returned v ∧ Q v U.heap L ∧ ReturnedEndW s o U L C S
theorem own_retW {vm : Vm} {k : Nat} {Q : Option Value → Heap → List Loc → Prop} {C S : Nat} {g : JFrame} (X : Stand p l e R (s.setVm vm) m args below meth c T locs cells slots) (hS : s.Since vm k) (hk : k ≤ T.heap.size) {v : Option Value} (hv : meth.sig.returnType = none → v = none) (hlocks : meth.locks = false)
    (st : ∀ fs, (∀ (f : JFrame) (acts : List Action), f.method = m → f.locked = none → f.entered = [] → (doReturn e (T.setTop f) acts v).1 = T.setFrames fs) → Steps p.tables e below (T.setTop g) (T.setFrames fs))
    (h1 : cells ≤ C) (h2 : slots ≤ S) (hQ : Q v T.heap locs) : own_Ends p e below (own_FinW s Q C S) (T.setTop g) := by
  obtain ⟨fs, hr, hrun, hended, a, b, c', d'⟩ := X.leaveW hS hk (v := v) hv hlocks
  exact ⟨_, _, st fs hr, hrun, hended, _, _, rfl, hQ, a, b, c', d'.mono h1 h2⟩
theorem own_warm {Z : State} {vm0 vm1 : Vm} {k : Nat} (hZ : Z.Warmed39 vm0) (hS : (s.setVm vm0).Since vm1 k) : Z.Warmed39 vm1 := State.Warmed39.trans (t := s.setVm vm0) hZ hS.1
theorem own_find {vm0 vm1 : Vm} {k : Nat} {own : String} {c0 : ClassId} (h : vm0.findClass own = some c0) (hS : (s.setVm vm0).Since vm1 k) : vm1.findClass own = some c0 := by
  rw [hS.1.alike.findClass]; exact h
def own_FinH (Z : State) (EL : List (String × Nat)) (s : State) (Q : Option Value → Heap → List Loc → Prop) (C S : Nat) (o : Outcome) (U : State) : Prop :=
  ∃ v L, o = .returned v ∧ Q v U.heap L ∧ CHr Z EL s.vm s.heap U.vm U.heap ∧ ReturnedEndW s o U L C S
theorem own_retH {Z : State} {a0 : Array Value} {EL : List (String × Nat)} {vm : Vm} {k : Nat} {h0 h : Heap} {Q : Option Value → Heap → List Loc → Prop} {C S : Nat} {g : JFrame} (X : Stand p l e R (s.setVm vm) m args below meth c T locs cells slots) (hS : s.Since vm k) (hk : k ≤ T.heap.size) (hh : s.heap = h0) (eT : T.heap = h) (hZ : Z.Warmed39 vm) (hEL : EW Z a0 EL) (hC : CHr Z EL s.vm h0 vm h) {v : Option Value} (hv : meth.sig.returnType = none → v = none) (hlocks : meth.locks = false)
    (st : ∀ fs, (∀ (f : JFrame) (acts : List Action), f.method = m → f.locked = none → f.entered = [] → (doReturn e (T.setTop f) acts v).1 = T.setFrames fs) → Steps p.tables e below (T.setTop g) (T.setFrames fs))
    (h1 : cells ≤ C) (h2 : slots ≤ S) (hQ : Q v T.heap locs) : own_Ends p e below (own_FinH Z EL s Q C S) (T.setTop g) := by
  obtain ⟨fs, hr, hrun, hended, a, b, c', d'⟩ := X.leaveW hS hk (v := v) hv hlocks
  have q : CHr Z EL s.vm s.heap T.vm T.heap := by
    rw [hh, eT]; exact hC.trans (CHv.at X hZ hEL hC.1)
  exact ⟨_, _, st fs hr, hrun, hended, _, _, rfl, hQ, q, a, b, c', d'.mono h1 h2⟩
def own_SL (Z : State) (EL : List (String × Nat)) (vm : Vm) (h : Heap) (x : Addr) : Prop := x < h.size ∧ Safe Z EL vm h x
theorem own_SL.go {Z : State} {EL : List (String × Nat)} {vm vm1 : Vm} {h h' : Heap} {x : Addr} (F : own_SL Z EL vm h x) (A : CHr Z EL vm h vm1 h') : own_SL Z EL vm1 h' x := ⟨Nat.lt_of_lt_of_le F.1 A.2.1, A.safe F.1 F.2⟩
theorem own_SL.born {Z : State} {EL : List (String × Nat)} {vm : Vm} {h h' : Heap} {x : Addr} (H : CHv Z EL vm h) (E : Ext h h') (g : x = h.size) (lt : x < h'.size) : own_SL Z EL vm h' x := ⟨lt, Safe.ext E H (Safe.new (Nat.le_of_eq g.symm))⟩
end OwnSteps

def own_emp (z : Int32) : Int32 := if z = 0 then 1 else 0
def own_maxI (a b : Int32) : Int32 := if a < b then b else a
def own_minI (a b : Int32) : Int32 := if b < a then b else a
theorem own_len {Z : State} {args : Array Value} {t : Term} {a : Addr} {c : Cell} {ty : FieldType} (ev : t.eval args Z none [] Z = some (.ref a)) (A : Arr Z Z.heap a c ty) (h : (Jvm.Cond.eq (Jvm.Term.length t) (Jvm.Term.int (0 : Int32))).value args Z none Z [] = some true) : c.slots.size < 2 ^ 31 ∧ c.slots.size.toInt32 = (0 : Int32) := by
  have ha : Z.arrayAt? a = some c := A.fin (Vm.Alike.refl _)
  by_cases q : c.slots.size < 2 ^ 31
  · refine ⟨q, ?_⟩
    have q2 : c.slots.size < 2147483648 := q
    simpa [Cond.value, Term.eval, ev, ha, q2] using h
  · simp [Cond.value, Term.eval, ev, ha, q] at h

def own_emp3 (z1 z2 z3 : Int32) : Int32 := if own_emp z1 = 0 then 0 else if own_emp z2 = 0 then 0 else if own_emp z3 = 0 then 0 else 1
theorem d10_0 : decode jdk_29_method_65_code 0 = .ok (.iload_n 0, 1) := by decide +kernel
theorem d10_1 : decode jdk_29_method_65_code 1 = .ok (.iload_n 1, 1) := by decide +kernel
theorem d10_2 : decode jdk_29_method_65_code 2 = .ok (.if_icmp .lt 7, 3) := by decide +kernel
theorem d10_5 : decode jdk_29_method_65_code 5 = .ok (.iload_n 0, 1) := by decide +kernel
theorem d10_6 : decode jdk_29_method_65_code 6 = .ok (.goto 4, 3) := by decide +kernel
theorem d10_9 : decode jdk_29_method_65_code 9 = .ok (.iload_n 1, 1) := by decide +kernel
theorem d10_10 : decode jdk_29_method_65_code 10 = .ok (.ireturn, 1) := by decide +kernel
theorem ef_rm10 (m : MethodId) (x0 : Int32) (x1 : Int32) : entryFrame m #[(.int x0), (.int x1)] 2 = mkF m 0 #[.val (.int x0), .val (.int x1)] [] := by first | (simp [entryFrame, mkF, argsToLocals, Value.category, maxLocals]; done) | rfl
def Q10 (Z : State) (p1 p2 : Int32) (h0 : Heap) (n0 : Nat) (v : Option Value) (h : Heap) (L : List Loc) : Prop := v = some (.int (own_maxI p1 p2)) ∧ Fr n0 L ∧ h = h0
set_option maxRecDepth 65536 in
set_option maxHeartbeats 40000000 in
theorem rm10 (l : Launch) (Z : State) (a0 : Array Value) (hw : ∀ d ∈ tables_1, d.before a0 Z = true) (ws : List Jvm.Cond) (p1 p2 : Int32) (h0 : Heap) (n0 : Nat) (Z0 : n0 ≤ h0.size)  :
    MetFree l (⟨"java/lang/Math", "max", "(II)I"⟩ : MethodName) (head1 (Jvm.Cond.code (⟨"java/lang/Math", "max", "(II)I"⟩ : MethodName) jdk_29_method_65_code 2 (some .int) :: ws) ({ frames := 0, cells := 0, slots := 0, locals := 0 } : Room)) (fun ar U => ar = #[(.int p1), (.int p2)] ∧ Z.Warmed39 U.vm ∧ U.heap = h0) (fun _ _ _ _ _ => True) (fun _ U o U' => ∃ v L, o = .returned v ∧ Q10 Z p1 p2 h0 n0 v U'.heap L ∧ FrameEnd U o U' L ({ frames := 0, cells := 0, slots := 0, locals := 0 } : Room).cells ({ frames := 0, cells := 0, slots := 0, locals := 0 } : Room).slots) := by
  refine MetFree.of_bodySF (Jvm.Free.JP.mathPlain rfl (by decide +kernel)) hisR ?_
  intro p e s m args below meth c s₁ Bd hml0 hP hK
  obtain ⟨rfl, hZ, hh⟩ := hP
  have hx := Bd.exec
  have hby := Bd.bytes
  have hml : c.maxLocals = 2 := hml0
  have hown : s.vm.findClass "java/lang/Math" = some m.cls := findClass_of_methodNamed Bd.named
  have hnm := (name_of_methodNamed Bd.named Bd.method).1
  have X0 : Stand p l e ({ frames := 0, cells := 0, slots := 0, locals := 0 } : Room) s m #[(.int p1), (.int p2)] below meth c s₁ [] 0 0 := Stand.of_body Bd
  have e0 : s₁.heap = h0 := by rw [← hh, Bd.state]; rfl
  have N0 := Fr.nil n0
  obtain ⟨F, hF⟩ : ∃ F, F = own_Fin s (Q10 Z p1 p2 h0 n0) ({ frames := 0, cells := 0, slots := 0, locals := 0 } : Room).cells ({ frames := 0, cells := 0, slots := 0, locals := 0 } : Room).slots := ⟨_, rfl⟩
  show own_Ends p e below (own_Fin s (Q10 Z p1 p2 h0 n0) ({ frames := 0, cells := 0, slots := 0, locals := 0 } : Room).cells ({ frames := 0, cells := 0, slots := 0, locals := 0 } : Room).slots) _
  rw [← hF, ef_rm10 m p1 p2]
  show own_Ends p e below F (s₁.setTop (mkF m 0 #[.val (.int p1), .val (.int p2)] []))
  refine own_step (fun _ k => XS.iloadN X0.here hx rfl (hb hby d10_0) rfl k) ?_
  show own_Ends p e below F (s₁.setTop (mkF m 1 #[.val (.int p1), .val (.int p2)] [(.int p1)]))
  refine own_step (fun _ k => XS.iloadN X0.here hx rfl (hb hby d10_1) rfl k) ?_
  show own_Ends p e below F (s₁.setTop (mkF m 2 #[.val (.int p1), .val (.int p2)] [(.int p2), (.int p1)]))
  by_cases c2_1 : p1 < p2
  · refine own_step (fun _ k => XS.icmpYes X0.here hx rfl (pc0 := 2) (pc' := 9) rfl (hb hby d10_2) rfl (tlt c2_1).1 (by decide) (by decide) k) ?_
    show own_Ends p e below F (s₁.setTop (mkF m 9 #[.val (.int p1), .val (.int p2)] []))
    refine own_step (fun _ k => XS.iloadN X0.here hx rfl (hb hby d10_9) rfl k) ?_
    show own_Ends p e below F (s₁.setTop (mkF m 10 #[.val (.int p1), .val (.int p2)] [(.int p2)]))
    rw [hF]
    exact own_ret X0 (v := (some (.int p2))) (fun h => by rw [Bd.returns] at h; cases h) Bd.notSynchronized (fun fs hr => own_retI X0 hx Bd.returns (hb hby d10_10) hr) (by decide) (by decide) (by rw [e0]; exact ⟨by simp only [own_maxI, c2_1, if_true, if_false], N0, rfl⟩)
  · refine own_step (fun _ k => XS.icmpNo X0.here hx rfl (hb hby d10_2) rfl (flt c2_1).1 k) ?_
    show own_Ends p e below F (s₁.setTop (mkF m 5 #[.val (.int p1), .val (.int p2)] []))
    refine own_step (fun _ k => XS.iloadN X0.here hx rfl (hb hby d10_5) rfl k) ?_
    show own_Ends p e below F (s₁.setTop (mkF m 6 #[.val (.int p1), .val (.int p2)] [(.int p1)]))
    refine own_step (fun _ k => XS.goto X0.here hx rfl (pc0 := 6) (pc' := 10) rfl (hb hby d10_6) (by decide) (by decide) k) ?_
    show own_Ends p e below F (s₁.setTop (mkF m 10 #[.val (.int p1), .val (.int p2)] [(.int p1)]))
    rw [hF]
    exact own_ret X0 (v := (some (.int p1))) (fun h => by rw [Bd.returns] at h; cases h) Bd.notSynchronized (fun fs hr => own_retI X0 hx Bd.returns (hb hby d10_10) hr) (by decide) (by decide) (by rw [e0]; exact ⟨by simp only [own_maxI, c2_1, if_true, if_false], N0, rfl⟩)

theorem d12_0 : decode jdk_29_method_69_code 0 = .ok (.iload_n 0, 1) := by decide +kernel
theorem d12_1 : decode jdk_29_method_69_code 1 = .ok (.iload_n 1, 1) := by decide +kernel
theorem d12_2 : decode jdk_29_method_69_code 2 = .ok (.if_icmp .gt 7, 3) := by decide +kernel
theorem d12_5 : decode jdk_29_method_69_code 5 = .ok (.iload_n 0, 1) := by decide +kernel
theorem d12_6 : decode jdk_29_method_69_code 6 = .ok (.goto 4, 3) := by decide +kernel
theorem d12_9 : decode jdk_29_method_69_code 9 = .ok (.iload_n 1, 1) := by decide +kernel
theorem d12_10 : decode jdk_29_method_69_code 10 = .ok (.ireturn, 1) := by decide +kernel
theorem ef_rm12 (m : MethodId) (x0 : Int32) (x1 : Int32) : entryFrame m #[(.int x0), (.int x1)] 2 = mkF m 0 #[.val (.int x0), .val (.int x1)] [] := by first | (simp [entryFrame, mkF, argsToLocals, Value.category, maxLocals]; done) | rfl
def Q12 (Z : State) (p1 p2 : Int32) (h0 : Heap) (n0 : Nat) (v : Option Value) (h : Heap) (L : List Loc) : Prop := v = some (.int (own_minI p1 p2)) ∧ Fr n0 L ∧ h = h0
set_option maxRecDepth 65536 in
set_option maxHeartbeats 40000000 in
theorem rm12 (l : Launch) (Z : State) (a0 : Array Value) (hw : ∀ d ∈ tables_1, d.before a0 Z = true) (ws : List Jvm.Cond) (p1 p2 : Int32) (h0 : Heap) (n0 : Nat) (Z0 : n0 ≤ h0.size)  :
    MetFree l (⟨"java/lang/Math", "min", "(II)I"⟩ : MethodName) (head1 (Jvm.Cond.code (⟨"java/lang/Math", "min", "(II)I"⟩ : MethodName) jdk_29_method_69_code 2 (some .int) :: ws) ({ frames := 0, cells := 0, slots := 0, locals := 0 } : Room)) (fun ar U => ar = #[(.int p1), (.int p2)] ∧ Z.Warmed39 U.vm ∧ U.heap = h0) (fun _ _ _ _ _ => True) (fun _ U o U' => ∃ v L, o = .returned v ∧ Q12 Z p1 p2 h0 n0 v U'.heap L ∧ FrameEnd U o U' L ({ frames := 0, cells := 0, slots := 0, locals := 0 } : Room).cells ({ frames := 0, cells := 0, slots := 0, locals := 0 } : Room).slots) := by
  refine MetFree.of_bodySF (Jvm.Free.JP.mathPlain rfl (by decide +kernel)) hisR ?_
  intro p e s m args below meth c s₁ Bd hml0 hP hK
  obtain ⟨rfl, hZ, hh⟩ := hP
  have hx := Bd.exec
  have hby := Bd.bytes
  have hml : c.maxLocals = 2 := hml0
  have hown : s.vm.findClass "java/lang/Math" = some m.cls := findClass_of_methodNamed Bd.named
  have hnm := (name_of_methodNamed Bd.named Bd.method).1
  have X0 : Stand p l e ({ frames := 0, cells := 0, slots := 0, locals := 0 } : Room) s m #[(.int p1), (.int p2)] below meth c s₁ [] 0 0 := Stand.of_body Bd
  have e0 : s₁.heap = h0 := by rw [← hh, Bd.state]; rfl
  have N0 := Fr.nil n0
  obtain ⟨F, hF⟩ : ∃ F, F = own_Fin s (Q12 Z p1 p2 h0 n0) ({ frames := 0, cells := 0, slots := 0, locals := 0 } : Room).cells ({ frames := 0, cells := 0, slots := 0, locals := 0 } : Room).slots := ⟨_, rfl⟩
  show own_Ends p e below (own_Fin s (Q12 Z p1 p2 h0 n0) ({ frames := 0, cells := 0, slots := 0, locals := 0 } : Room).cells ({ frames := 0, cells := 0, slots := 0, locals := 0 } : Room).slots) _
  rw [← hF, ef_rm12 m p1 p2]
  show own_Ends p e below F (s₁.setTop (mkF m 0 #[.val (.int p1), .val (.int p2)] []))
  refine own_step (fun _ k => XS.iloadN X0.here hx rfl (hb hby d12_0) rfl k) ?_
  show own_Ends p e below F (s₁.setTop (mkF m 1 #[.val (.int p1), .val (.int p2)] [(.int p1)]))
  refine own_step (fun _ k => XS.iloadN X0.here hx rfl (hb hby d12_1) rfl k) ?_
  show own_Ends p e below F (s₁.setTop (mkF m 2 #[.val (.int p1), .val (.int p2)] [(.int p2), (.int p1)]))
  by_cases c2_1 : p2 < p1
  · refine own_step (fun _ k => XS.icmpYes X0.here hx rfl (pc0 := 2) (pc' := 9) rfl (hb hby d12_2) rfl (tlt c2_1).2.2.1 (by decide) (by decide) k) ?_
    show own_Ends p e below F (s₁.setTop (mkF m 9 #[.val (.int p1), .val (.int p2)] []))
    refine own_step (fun _ k => XS.iloadN X0.here hx rfl (hb hby d12_9) rfl k) ?_
    show own_Ends p e below F (s₁.setTop (mkF m 10 #[.val (.int p1), .val (.int p2)] [(.int p2)]))
    rw [hF]
    exact own_ret X0 (v := (some (.int p2))) (fun h => by rw [Bd.returns] at h; cases h) Bd.notSynchronized (fun fs hr => own_retI X0 hx Bd.returns (hb hby d12_10) hr) (by decide) (by decide) (by rw [e0]; exact ⟨by simp only [own_minI, c2_1, if_true, if_false], N0, rfl⟩)
  · refine own_step (fun _ k => XS.icmpNo X0.here hx rfl (hb hby d12_2) rfl (flt c2_1).2.2.1 k) ?_
    show own_Ends p e below F (s₁.setTop (mkF m 5 #[.val (.int p1), .val (.int p2)] []))
    refine own_step (fun _ k => XS.iloadN X0.here hx rfl (hb hby d12_5) rfl k) ?_
    show own_Ends p e below F (s₁.setTop (mkF m 6 #[.val (.int p1), .val (.int p2)] [(.int p1)]))
    refine own_step (fun _ k => XS.goto X0.here hx rfl (pc0 := 6) (pc' := 10) rfl (hb hby d12_6) (by decide) (by decide) k) ?_
    show own_Ends p e below F (s₁.setTop (mkF m 10 #[.val (.int p1), .val (.int p2)] [(.int p1)]))
    rw [hF]
    exact own_ret X0 (v := (some (.int p1))) (fun h => by rw [Bd.returns] at h; cases h) Bd.notSynchronized (fun fs hr => own_retI X0 hx Bd.returns (hb hby d12_10) hr) (by decide) (by decide) (by rw [e0]; exact ⟨by simp only [own_minI, c2_1, if_true, if_false], N0, rfl⟩)

theorem d11_0 : decode jdk_65_method_123_code 0 = .ok (.iload_n 1, 1) := by decide +kernel
theorem d11_1 : decode jdk_65_method_123_code 1 = .ok (.aload_n 0, 1) := by decide +kernel
theorem d11_2 : decode jdk_65_method_123_code 2 = .ok (.arraylength, 1) := by decide +kernel
theorem d11_3 : decode jdk_65_method_123_code 3 = .ok (.if_icmp .ne 11, 3) := by decide +kernel
theorem d11_14 : decode jdk_65_method_123_code 14 = .ok (.iload_n 1, 1) := by decide +kernel
theorem d11_15 : decode jdk_65_method_123_code 15 = .ok (.newarray .int, 2) := by decide +kernel
theorem d11_17 : decode jdk_65_method_123_code 17 = .ok (.astore_n 2, 1) := by decide +kernel
theorem d11_18 : decode jdk_65_method_123_code 18 = .ok (.aload_n 0, 1) := by decide +kernel
theorem d11_19 : decode jdk_65_method_123_code 19 = .ok (.iconst 0, 1) := by decide +kernel
theorem d11_20 : decode jdk_65_method_123_code 20 = .ok (.aload_n 2, 1) := by decide +kernel
theorem d11_21 : decode jdk_65_method_123_code 21 = .ok (.iconst 0, 1) := by decide +kernel
theorem d11_22 : decode jdk_65_method_123_code 22 = .ok (.aload_n 0, 1) := by decide +kernel
theorem d11_23 : decode jdk_65_method_123_code 23 = .ok (.arraylength, 1) := by decide +kernel
theorem d11_24 : decode jdk_65_method_123_code 24 = .ok (.iload_n 1, 1) := by decide +kernel
theorem d11_25 : decode jdk_65_method_123_code 25 = .ok (.invokestatic 304, 3) := by decide +kernel
theorem d11_28 : decode jdk_65_method_123_code 28 = .ok (.invokestatic 150, 3) := by decide +kernel
theorem d11_31 : decode jdk_65_method_123_code 31 = .ok (.aload_n 2, 1) := by decide +kernel
theorem d11_32 : decode jdk_65_method_123_code 32 = .ok (.areturn, 1) := by decide +kernel
theorem pn_java_util_Arrays : plainName "java/util/Arrays" = true := by first | (simp [plainName, overriddenIn]; done) | decide +kernel
theorem pd__28II_29I : parseMethodDescriptor "(II)I" = some ⟨[.int, .int], some .int⟩ := by decide +kernel
theorem ef_rm11 (m : MethodId) (x0 : Addr) (x1 : Int32) : entryFrame m #[(.ref x0), (.int x1)] 3 = mkF m 0 #[.val (.ref x0), .val (.int x1), .unset] [] := by first | (simp [entryFrame, mkF, argsToLocals, Value.category, maxLocals]; done) | rfl
def Q11 (Z : State) (b : Addr) (kb : ClassId) (h0 : Heap) (n0 : Nat) (v : Option Value) (h : Heap) (L : List Loc) : Prop := ∃ c k, v = some (.ref c) ∧ Fr n0 L ∧ Keep h0 h [] ∧ h0.size ≤ c ∧ Arv Z h c k .int (4 : Int32) [(.int (0 : Int32)), (.int (0 : Int32)), (.int (0 : Int32)), (.int (0 : Int32))] (.int (0 : Int32))
set_option maxRecDepth 65536 in
set_option maxHeartbeats 40000000 in
theorem rm11 (l : Launch) (Z : State) (a0 : Array Value) (hw : ∀ d ∈ tables_1, d.before a0 Z = true) (ws : List Jvm.Cond) (b : Addr) (kb : ClassId) (h0 : Heap) (n0 : Nat) (Z0 : n0 ≤ h0.size) (VB : Arv Z h0 b kb .int (0 : Int32) [] (.int (0 : Int32))) :
    MetFree l (⟨"java/util/Arrays", "copyOf", "([II)[I"⟩ : MethodName) (head1 (Jvm.Cond.code (⟨"java/util/Arrays", "copyOf", "([II)[I"⟩ : MethodName) jdk_65_method_123_code 3 (some (.array .int)) :: ws) ({ frames := 1, cells := 1, slots := 4, locals := 18 } : Room)) (fun ar U => ar = #[(.ref b), (.int (4 : Int32))] ∧ Z.Warmed39 U.vm ∧ U.heap = h0) (fun _ _ _ _ _ => True) (fun _ U o U' => ∃ v L, o = .returned v ∧ Q11 Z b kb h0 n0 v U'.heap L ∧ FrameEnd U o U' L ({ frames := 1, cells := 1, slots := 4, locals := 18 } : Room).cells ({ frames := 1, cells := 1, slots := 4, locals := 18 } : Room).slots) := by
  refine MetFree.of_bodySF (plainFor_of_name pn_java_util_Arrays) hisR ?_
  intro p e s m args below meth c s₁ Bd hml0 hP hK
  obtain ⟨rfl, hZ, hh⟩ := hP
  have hx := Bd.exec
  have hby := Bd.bytes
  have hml : c.maxLocals = 3 := hml0
  have hown : s.vm.findClass "java/util/Arrays" = some m.cls := findClass_of_methodNamed Bd.named
  have hnm := (name_of_methodNamed Bd.named Bd.method).1
  have X0 : Stand p l e ({ frames := 1, cells := 1, slots := 4, locals := 18 } : Room) s m #[(.ref b), (.int (4 : Int32))] below meth c s₁ [] 0 0 := Stand.of_body Bd
  have e0 : s₁.heap = h0 := by rw [← hh, Bd.state]; rfl
  have N0 := Fr.nil n0
  obtain ⟨F, hF⟩ : ∃ F, F = own_Fin s (Q11 Z b kb h0 n0) ({ frames := 1, cells := 1, slots := 4, locals := 18 } : Room).cells ({ frames := 1, cells := 1, slots := 4, locals := 18 } : Room).slots := ⟨_, rfl⟩
  show own_Ends p e below (own_Fin s (Q11 Z b kb h0 n0) ({ frames := 1, cells := 1, slots := 4, locals := 18 } : Room).cells ({ frames := 1, cells := 1, slots := 4, locals := 18 } : Room).slots) _
  rw [← hF, ef_rm11 m b (4 : Int32)]
  show own_Ends p e below F (s₁.setTop (mkF m 0 #[.val (.ref b), .val (.int (4 : Int32)), .unset] []))
  refine own_step (fun _ k => XS.iloadN X0.here hx rfl (hb hby d11_0) rfl k) ?_
  show own_Ends p e below F (s₁.setTop (mkF m 1 #[.val (.ref b), .val (.int (4 : Int32)), .unset] [(.int (4 : Int32))]))
  refine own_step (fun _ k => XS.aloadN X0.here hx rfl (hb hby d11_1) rfl rfl k) ?_
  show own_Ends p e below F (s₁.setTop (mkF m 2 #[.val (.ref b), .val (.int (4 : Int32)), .unset] [(.ref b), (.int (4 : Int32))]))
  obtain ⟨cl1, Ar1, q1, S1, M1, H1, G1⟩ := id VB
  have al1 := X0.arraylength hx (by rw [e0]; exact Ar1.1) (State.isArrayOf_alike hZ.alike Ar1.2.1) (g := (mkF m 2 #[.val (.ref b), .val (.int (4 : Int32)), .unset] [(.ref b), (.int (4 : Int32))])) rfl rfl (hb hby d11_2)
  rw [len_of S1 M1] at al1
  refine own_step al1 ?_
  show own_Ends p e below F (s₁.setTop (mkF m 3 #[.val (.ref b), .val (.int (4 : Int32)), .unset] [(.int (0 : Int32)), (.int (4 : Int32))]))
  refine own_step (fun _ k => XS.icmpYes X0.here hx rfl (pc0 := 3) (pc' := 14) rfl (hb hby d11_3) rfl (feq (by decide : ¬ ((4 : Int32) = (0 : Int32)))).2 (by decide) (by decide) k) ?_
  show own_Ends p e below F (s₁.setTop (mkF m 14 #[.val (.ref b), .val (.int (4 : Int32)), .unset] []))
  refine own_step (fun _ k => XS.iloadN X0.here hx rfl (hb hby d11_14) rfl k) ?_
  show own_Ends p e below F (s₁.setTop (mkF m 15 #[.val (.ref b), .val (.int (4 : Int32)), .unset] [(.int (4 : Int32))]))
  obtain ⟨T2, h2, k2, X2, e2, E2, A2, st2⟩ := newP X0 hx hZ (own_g hw 64 rfl) e0 (g := (mkF m 15 #[.val (.ref b), .val (.int (4 : Int32)), .unset] [(.int (4 : Int32))])) rfl (hb hby d11_15) rfl (by decide) (cap := 4) (by decide) (by decide) (by decide) (by decide)
  obtain ⟨a2, g2⟩ : ∃ z, z = h0.size := ⟨_, rfl⟩
  rw [← g2] at A2 st2
  have ge_a2 : n0 ≤ a2 := Nat.le_trans Z0 (Nat.le_of_eq g2.symm)
  have sz_a2 : h0.size ≤ a2 := Nat.le_trans (Nat.le_refl h0.size) (Nat.le_of_eq g2.symm)
  have ne_b_a2 : b ≠ a2 := Nat.ne_of_lt (by rw [g2]; exact VB.lt)
  have Z2 : n0 ≤ h2.size := Nat.le_trans Z0 E2.1
  have SZ2 : h0.size ≤ h2.size := Nat.le_trans (Nat.le_refl h0.size) E2.1
  have V2 : Arv Z h2 a2 k2 .int (4 : Int32) [(.int (0 : Int32)), (.int (0 : Int32)), (.int (0 : Int32)), (.int (0 : Int32))] (.int (0 : Int32)) := Arv.pad (Arv.new A2 (by decide)) (pad_rep [] _ 4)
  refine own_step st2 ?_
  show own_Ends p e below F (T2.setTop (mkF m 17 #[.val (.ref b), .val (.int (4 : Int32)), .unset] [(.ref a2)]))
  refine own_step (fun _ k => XS.astoreN X2.here hx rfl (hb hby d11_17) rfl rfl (l' := #[.val (.ref b), .val (.int (4 : Int32)), .val (.ref a2)]) rfl k) ?_
  show own_Ends p e below F (T2.setTop (mkF m 18 #[.val (.ref b), .val (.int (4 : Int32)), .val (.ref a2)] []))
  refine own_step (fun _ k => XS.aloadN X2.here hx rfl (hb hby d11_18) rfl rfl k) ?_
  show own_Ends p e below F (T2.setTop (mkF m 19 #[.val (.ref b), .val (.int (4 : Int32)), .val (.ref a2)] [(.ref b)]))
  refine own_step (fun _ k => XS.iconst X2.here hx rfl (hb hby d11_19) k) ?_
  show own_Ends p e below F (T2.setTop (mkF m 20 #[.val (.ref b), .val (.int (4 : Int32)), .val (.ref a2)] [(.int (0 : Int32)), (.ref b)]))
  refine own_step (fun _ k => XS.aloadN X2.here hx rfl (hb hby d11_20) rfl rfl k) ?_
  show own_Ends p e below F (T2.setTop (mkF m 21 #[.val (.ref b), .val (.int (4 : Int32)), .val (.ref a2)] [(.ref a2), (.int (0 : Int32)), (.ref b)]))
  refine own_step (fun _ k => XS.iconst X2.here hx rfl (hb hby d11_21) k) ?_
  show own_Ends p e below F (T2.setTop (mkF m 22 #[.val (.ref b), .val (.int (4 : Int32)), .val (.ref a2)] [(.int (0 : Int32)), (.ref a2), (.int (0 : Int32)), (.ref b)]))
  refine own_step (fun _ k => XS.aloadN X2.here hx rfl (hb hby d11_22) rfl rfl k) ?_
  show own_Ends p e below F (T2.setTop (mkF m 23 #[.val (.ref b), .val (.int (4 : Int32)), .val (.ref a2)] [(.ref b), (.int (0 : Int32)), (.ref a2), (.int (0 : Int32)), (.ref b)]))
  obtain ⟨cl3, Ar3, q3, S3, M3, H3, G3⟩ := id (VB.ext E2)
  have al3 := X2.arraylength hx (by rw [e2]; exact Ar3.1) (State.isArrayOf_alike hZ.alike Ar3.2.1) (g := (mkF m 23 #[.val (.ref b), .val (.int (4 : Int32)), .val (.ref a2)] [(.ref b), (.int (0 : Int32)), (.ref a2), (.int (0 : Int32)), (.ref b)])) rfl rfl (hb hby d11_23)
  rw [len_of S3 M3] at al3
  refine own_step al3 ?_
  show own_Ends p e below F (T2.setTop (mkF m 24 #[.val (.ref b), .val (.int (4 : Int32)), .val (.ref a2)] [(.int (0 : Int32)), (.int (0 : Int32)), (.ref a2), (.int (0 : Int32)), (.ref b)]))
  refine own_step (fun _ k => XS.iloadN X2.here hx rfl (hb hby d11_24) rfl k) ?_
  show own_Ends p e below F (T2.setTop (mkF m 25 #[.val (.ref b), .val (.int (4 : Int32)), .val (.ref a2)] [(.int (4 : Int32)), (.int (0 : Int32)), (.int (0 : Int32)), (.ref a2), (.int (0 : Int32)), (.ref b)]))
  obtain ⟨_, _, ⟨T4, L4, k4, n4⟩, -, X4, ⟨Lc4, hQ4, l4, y4, z4⟩, st4⟩ := Jvm.LawKit.callS X2 hx (y := (⟨"java/lang/Math", "min", "(II)I"⟩ : MethodName)) hown (mvT hZ (own_g hw 65 rfl)) (mvT hZ (own_g hw 66 rfl)) (mvT hZ (own_g hw 58 rfl)) (mvT hZ (own_g hw 67 rfl)) (by decide) (backOf (W := 4) (rm12 l Z a0 hw [] (0 : Int32) (4 : Int32) h2 n0 Z2) hZ (own_g hw 67 rfl) (own_g hw 58 rfl) (by decide) (by decide)) (g := (mkF m 25 #[.val (.ref b), .val (.int (4 : Int32)), .val (.ref a2)] [(.int (4 : Int32)), (.int (0 : Int32)), (.int (0 : Int32)), (.ref a2), (.int (0 : Int32)), (.ref b)])) rfl (by rw [hml]; rfl) (argsL := [(.int (0 : Int32)), (.int (4 : Int32))]) (rest := [(.int (0 : Int32)), (.ref a2), (.int (0 : Int32)), (.ref b)]) (lenOf pd__28II_29I rfl) rfl (by show 2 * 0 + _ ≤ _; exact Nat.le_of_eq rfl) (hb hby d11_25) (fun _ _ => ⟨rfl, e2, (by decide : 1 + 0 ≤ _), (by decide : 4 + 0 ≤ _)⟩)
  dsimp only [Pt.U, Pt.locs, Pt.cells, Pt.slots] at X4 l4 y4 z4 st4 hQ4
  subst l4 y4 z4
  obtain ⟨rfl, Nq4, eq4⟩ := hQ4
  have N4 := Fr.app N0 Nq4
  refine own_step st4 ?_
  show own_Ends p e below F (T4.setTop (mkF m 28 #[.val (.ref b), .val (.int (4 : Int32)), .val (.ref a2)] [(.int (own_minI (0 : Int32) (4 : Int32))), (.int (0 : Int32)), (.ref a2), (.int (0 : Int32)), (.ref b)]))
  rw [show (own_minI (0 : Int32) (4 : Int32)) = (0 : Int32) from (by first | rfl | decide)]
  show own_Ends p e below F (T4.setTop (mkF m 28 #[.val (.ref b), .val (.int (4 : Int32)), .val (.ref a2)] [(.int (0 : Int32)), (.int (0 : Int32)), (.ref a2), (.int (0 : Int32)), (.ref b)]))
  obtain ⟨T5, h5, L5, X5, e5, N5, K5, V5, st5⟩ := cpA X4 hx hZ hown (own_g hw 68 rfl) (own_g hw 71 rfl) (own_g hw 69 rfl) (own_g hw 70 rfl) eq4 (VB.ext E2) V2 (us := []) (Or.inl ⟨rfl, rfl⟩) (by decide) (by decide) (by decide) (by decide) (by decide) rfl (by decide) N4 ge_a2 (g := (mkF m 28 #[.val (.ref b), .val (.int (4 : Int32)), .val (.ref a2)] [(.int (0 : Int32)), (.int (0 : Int32)), (.ref a2), (.int (0 : Int32)), (.ref b)])) rfl (by rw [hml]; rfl) (rest := []) rfl (hb hby d11_28) (by decide) (W := 0) (by show 2 * 0 + _ ≤ _; exact Nat.le_of_eq rfl) (by decide)
  have V5 : Arv Z h5 a2 k2 .int (4 : Int32) [(.int (0 : Int32)), (.int (0 : Int32)), (.int (0 : Int32)), (.int (0 : Int32))] (.int (0 : Int32)) := V5
  have Z5 : n0 ≤ h5.size := Nat.le_trans Z2 K5.1
  have SZ5 : h0.size ≤ h5.size := Nat.le_trans SZ2 K5.1
  refine own_step st5 ?_
  show own_Ends p e below F (T5.setTop (mkF m 31 #[.val (.ref b), .val (.int (4 : Int32)), .val (.ref a2)] []))
  refine own_step (fun _ k => XS.aloadN X5.here hx rfl (hb hby d11_31) rfl rfl k) ?_
  show own_Ends p e below F (T5.setTop (mkF m 32 #[.val (.ref b), .val (.int (4 : Int32)), .val (.ref a2)] [(.ref a2)]))
  rw [hF]
  exact own_ret X5 (v := (some (.ref a2))) (fun h => by rw [Bd.returns] at h; cases h) Bd.notSynchronized (fun fs hr => retOut X5 hx (t := (.array .int)) (w := (.ref a2)) (i := .areturn) Bd.returns rfl (Or.inr (Or.inr (Or.inr (Or.inr ⟨rfl, rfl, rfl⟩)))) (hb hby d11_32) hr) (by decide) (by decide) (by rw [e5]; exact ⟨_, _, rfl, N5, ((Keep.trans (Keep.ext (Keep.refl _ _) E2) K5 (allS (Or.inr sz_a2) all0)) : Keep h0 h5 []), sz_a2, V5⟩)

theorem d2_0 : decode prog_20_method_1_code 0 = .ok (.aload_n 0, 1) := by decide +kernel
theorem d2_1 : decode prog_20_method_1_code 1 = .ok (.invokespecial 1, 3) := by decide +kernel
theorem d2_4 : decode prog_20_method_1_code 4 = .ok (.aload_n 0, 1) := by decide +kernel
theorem d2_5 : decode prog_20_method_1_code 5 = .ok (.getstatic 7, 3) := by decide +kernel
theorem d2_8 : decode prog_20_method_1_code 8 = .ok (.putfield 13, 3) := by decide +kernel
theorem d2_11 : decode prog_20_method_1_code 11 = .ok (.return_, 1) := by decide +kernel
theorem pn_com_example_concept_reasoner_conceptreasoner_completion_IntList : plainName "com/example/concept_reasoner/conceptreasoner/completion/IntList" = true := by first | (simp [plainName, overriddenIn]; done) | decide +kernel
theorem ef_rm2 (m : MethodId) (x0 : Addr) : entryFrame m #[(.ref x0)] 1 = mkF m 0 #[.val (.ref x0)] [] := by first | (simp [entryFrame, mkF, argsToLocals, Value.category, maxLocals]; done) | rfl
def Q2 (Z : State) (a : Addr) (nn : Addr) (h0 : Heap) (n0 : Nat) (v : Option Value) (h : Heap) (L : List Loc) : Prop := v = none ∧ Fr n0 L ∧ Keep h0 h [a] ∧ Exa Z h a "com/example/concept_reasoner/conceptreasoner/completion/IntList" ∧ Fld Z h a "com/example/concept_reasoner/conceptreasoner/completion/IntList" "values" "[I" (.ref nn) ∧ Fld Z h a "com/example/concept_reasoner/conceptreasoner/completion/IntList" "size" "I" (.int (0 : Int32))
set_option maxRecDepth 65536 in
set_option maxHeartbeats 40000000 in
theorem rm2 (l : Launch) (Z : State) (a0 : Array Value) (hw : ∀ d ∈ tables_1, d.before a0 Z = true) (ws : List Jvm.Cond) (a : Addr) (nn : Addr) (h0 : Heap) (n0 : Nat) (Z0 : n0 ≤ h0.size) (EX : Exa Z h0 a "com/example/concept_reasoner/conceptreasoner/completion/IntList") (ge : n0 ≤ a) (F_values : Fld Z h0 a "com/example/concept_reasoner/conceptreasoner/completion/IntList" "values" "[I" .null) (F_size : Fld Z h0 a "com/example/concept_reasoner/conceptreasoner/completion/IntList" "size" "I" (.int (0 : Int32))) (SN : Sta Z h0 "com/example/concept_reasoner/conceptreasoner/completion/IntList" "NONE" "[I" (.ref nn)) :
    MetFree l (⟨"com/example/concept_reasoner/conceptreasoner/completion/IntList", "<init>", "()V"⟩ : MethodName) (head1 (Jvm.Cond.code (⟨"com/example/concept_reasoner/conceptreasoner/completion/IntList", "<init>", "()V"⟩ : MethodName) prog_20_method_1_code 1 none :: ws) ({ frames := 1, cells := 0, slots := 0, locals := 12 } : Room)) (fun ar U => ar = #[(.ref a)] ∧ Z.Warmed39 U.vm ∧ U.heap = h0) (fun _ _ _ _ _ => True) (fun _ U o U' => ∃ v L, o = .returned v ∧ Q2 Z a nn h0 n0 v U'.heap L ∧ FrameEnd U o U' L ({ frames := 1, cells := 0, slots := 0, locals := 12 } : Room).cells ({ frames := 1, cells := 0, slots := 0, locals := 12 } : Room).slots) := by
  refine MetFree.of_bodySF (plainFor_of_name pn_com_example_concept_reasoner_conceptreasoner_completion_IntList) hisR ?_
  intro p e s m args below meth c s₁ Bd hml0 hP hK
  obtain ⟨rfl, hZ, hh⟩ := hP
  have hx := Bd.exec
  have hby := Bd.bytes
  have hml : c.maxLocals = 1 := hml0
  have hown : s.vm.findClass "com/example/concept_reasoner/conceptreasoner/completion/IntList" = some m.cls := findClass_of_methodNamed Bd.named
  have hnm := (name_of_methodNamed Bd.named Bd.method).1
  have X0 : Stand p l e ({ frames := 1, cells := 0, slots := 0, locals := 12 } : Room) s m #[(.ref a)] below meth c s₁ [] 0 0 := Stand.of_body Bd
  have e0 : s₁.heap = h0 := by rw [← hh, Bd.state]; rfl
  have N0 := Fr.nil n0
  obtain ⟨F, hF⟩ : ∃ F, F = own_Fin s (Q2 Z a nn h0 n0) ({ frames := 1, cells := 0, slots := 0, locals := 12 } : Room).cells ({ frames := 1, cells := 0, slots := 0, locals := 12 } : Room).slots := ⟨_, rfl⟩
  show own_Ends p e below (own_Fin s (Q2 Z a nn h0 n0) ({ frames := 1, cells := 0, slots := 0, locals := 12 } : Room).cells ({ frames := 1, cells := 0, slots := 0, locals := 12 } : Room).slots) _
  rw [← hF, ef_rm2 m a]
  show own_Ends p e below F (s₁.setTop (mkF m 0 #[.val (.ref a)] []))
  refine own_step (fun _ k => XS.aloadN X0.here hx rfl (hb hby d2_0) rfl rfl k) ?_
  show own_Ends p e below F (s₁.setTop (mkF m 1 #[.val (.ref a)] [(.ref a)]))
  obtain ⟨T1, X1, e1, st1⟩ := initO X0 hx hZ hown (own_g hw 12 rfl) (own_g hw 13 rfl) (own_g hw 14 rfl) e0 (g := (mkF m 1 #[.val (.ref a)] [(.ref a)])) rfl (by rw [hml]; rfl) rfl (hb hby d2_1) (by decide) (W := 0) (by show 2 * 0 + _ ≤ _; exact Nat.le_of_eq rfl) (by decide)
  refine own_step st1 ?_
  show own_Ends p e below F (T1.setTop (mkF m 4 #[.val (.ref a)] []))
  refine own_step (fun _ k => XS.aloadN X1.here hx rfl (hb hby d2_4) rfl rfl k) ?_
  show own_Ends p e below F (T1.setTop (mkF m 5 #[.val (.ref a)] [(.ref a)]))
  obtain ⟨T2, X2, e2, st2⟩ := getS2 X1 hx hZ hown (host := "") (Or.inl (own_g hw 15 rfl)) Via.refl e1 SN (g := (mkF m 5 #[.val (.ref a)] [(.ref a)])) rfl (hb hby d2_5)
  refine own_step st2 ?_
  show own_Ends p e below F (T2.setTop (mkF m 8 #[.val (.ref a)] [(.ref nn), (.ref a)]))
  obtain ⟨T3, h3, X3, e3, W3, st3⟩ := putF X2 hx hZ hown (host := "") (Or.inl (own_g hw 17 rfl)) Via.refl e2 F_values EX (Or.inl (own_g hw 18 rfl)) (own_g hw 7 rfl) (ty := (.array .int)) (by decide) rfl rfl (g := (mkF m 8 #[.val (.ref a)] [(.ref nn), (.ref a)])) rfl rfl (hb hby d2_8)
  refine own_step st3 ?_
  have F3 := Fld.same W3 F_values
  have N3 := Fr.snoc X3 N0 ge
  have Z3 : n0 ≤ h3.size := by rw [W3.size]; exact Z0
  have SZ3 : h0.size ≤ h3.size := by rw [W3.size]; exact (Nat.le_refl h0.size)
  show own_Ends p e below F (T3.setTop (mkF m 11 #[.val (.ref a)] []))
  rw [hF]
  exact own_ret X3 (v := none) (fun _ => rfl) Bd.notSynchronized (fun fs hr => X3.returnOut hx Bd.returns (hb hby d2_11) hr) (by decide) (by decide) (by rw [e3]; exact ⟨rfl, N3, ((Keep.wr (Keep.refl _ _) W3 (Or.inl (List.mem_of_getElem? (i := 0) rfl))) : Keep h0 h3 [a]), (EX.wr W3), F3, (Fld.other W3 F_size (Or.inr (slot_ne (t := .int) (t' := (.array .int)) (Or.inl (own_g hw 45 rfl)) (Or.inl (own_g hw 18 rfl)) (by decide) (by decide) (by decide))))⟩)

theorem d7_0 : decode prog_20_method_6_code 0 = .ok (.aload_n 0, 1) := by decide +kernel
theorem d7_1 : decode prog_20_method_6_code 1 = .ok (.getfield 16, 3) := by decide +kernel
theorem d7_4 : decode prog_20_method_6_code 4 = .ok (.ifCond .ne 7, 3) := by decide +kernel
theorem d7_7 : decode prog_20_method_6_code 7 = .ok (.iconst 1, 1) := by decide +kernel
theorem d7_8 : decode prog_20_method_6_code 8 = .ok (.goto 4, 3) := by decide +kernel
theorem d7_11 : decode prog_20_method_6_code 11 = .ok (.iconst 0, 1) := by decide +kernel
theorem d7_12 : decode prog_20_method_6_code 12 = .ok (.ireturn, 1) := by decide +kernel
theorem ef_rm7 (m : MethodId) (x0 : Addr) : entryFrame m #[(.ref x0)] 1 = mkF m 0 #[.val (.ref x0)] [] := by first | (simp [entryFrame, mkF, argsToLocals, Value.category, maxLocals]; done) | rfl
def Q7 (Z : State) (a : Addr) (z : Int32) (h0 : Heap) (n0 : Nat) (v : Option Value) (h : Heap) (L : List Loc) : Prop := v = some (.int (own_emp z)) ∧ Fr n0 L ∧ h = h0
set_option maxRecDepth 65536 in
set_option maxHeartbeats 40000000 in
theorem rm7 (l : Launch) (Z : State) (a0 : Array Value) (hw : ∀ d ∈ tables_1, d.before a0 Z = true) (ws : List Jvm.Cond) (a : Addr) (z : Int32) (h0 : Heap) (n0 : Nat) (Z0 : n0 ≤ h0.size) (FS : Fld Z h0 a "com/example/concept_reasoner/conceptreasoner/completion/IntList" "size" "I" (.int z)) :
    MetFree l (⟨"com/example/concept_reasoner/conceptreasoner/completion/IntList", "isEmpty", "()Z"⟩ : MethodName) (head1 (Jvm.Cond.code (⟨"com/example/concept_reasoner/conceptreasoner/completion/IntList", "isEmpty", "()Z"⟩ : MethodName) prog_20_method_6_code 1 (some .boolean) :: ws) ({ frames := 0, cells := 0, slots := 0, locals := 0 } : Room)) (fun ar U => ar = #[(.ref a)] ∧ Z.Warmed39 U.vm ∧ U.heap = h0) (fun _ _ _ _ _ => True) (fun _ U o U' => ∃ v L, o = .returned v ∧ Q7 Z a z h0 n0 v U'.heap L ∧ FrameEnd U o U' L ({ frames := 0, cells := 0, slots := 0, locals := 0 } : Room).cells ({ frames := 0, cells := 0, slots := 0, locals := 0 } : Room).slots) := by
  refine MetFree.of_bodySF (plainFor_of_name pn_com_example_concept_reasoner_conceptreasoner_completion_IntList) hisR ?_
  intro p e s m args below meth c s₁ Bd hml0 hP hK
  obtain ⟨rfl, hZ, hh⟩ := hP
  have hx := Bd.exec
  have hby := Bd.bytes
  have hml : c.maxLocals = 1 := hml0
  have hown : s.vm.findClass "com/example/concept_reasoner/conceptreasoner/completion/IntList" = some m.cls := findClass_of_methodNamed Bd.named
  have hnm := (name_of_methodNamed Bd.named Bd.method).1
  have X0 : Stand p l e ({ frames := 0, cells := 0, slots := 0, locals := 0 } : Room) s m #[(.ref a)] below meth c s₁ [] 0 0 := Stand.of_body Bd
  have e0 : s₁.heap = h0 := by rw [← hh, Bd.state]; rfl
  have N0 := Fr.nil n0
  obtain ⟨F, hF⟩ : ∃ F, F = own_Fin s (Q7 Z a z h0 n0) ({ frames := 0, cells := 0, slots := 0, locals := 0 } : Room).cells ({ frames := 0, cells := 0, slots := 0, locals := 0 } : Room).slots := ⟨_, rfl⟩
  show own_Ends p e below (own_Fin s (Q7 Z a z h0 n0) ({ frames := 0, cells := 0, slots := 0, locals := 0 } : Room).cells ({ frames := 0, cells := 0, slots := 0, locals := 0 } : Room).slots) _
  rw [← hF, ef_rm7 m a]
  show own_Ends p e below F (s₁.setTop (mkF m 0 #[.val (.ref a)] []))
  refine own_step (fun _ k => XS.aloadN X0.here hx rfl (hb hby d7_0) rfl rfl k) ?_
  show own_Ends p e below F (s₁.setTop (mkF m 1 #[.val (.ref a)] [(.ref a)]))
  obtain ⟨T1, X1, e1, st1⟩ := getF X0 hx hZ hown (host := "") (Or.inl (own_g hw 44 rfl)) Via.refl e0 FS (g := (mkF m 1 #[.val (.ref a)] [(.ref a)])) rfl rfl (hb hby d7_1)
  refine own_step st1 ?_
  show own_Ends p e below F (T1.setTop (mkF m 4 #[.val (.ref a)] [(.int z)]))
  by_cases c4_2 : z = (0 : Int32)
  · refine own_step (fun _ k => XS.ifNo X1.here hx rfl (hb hby d7_4) rfl ((if0 _ _).trans (teq c4_2).2) k) ?_
    show own_Ends p e below F (T1.setTop (mkF m 7 #[.val (.ref a)] []))
    refine own_step (fun _ k => XS.iconst X1.here hx rfl (hb hby d7_7) k) ?_
    show own_Ends p e below F (T1.setTop (mkF m 8 #[.val (.ref a)] [(.int (1 : Int32))]))
    refine own_step (fun _ k => XS.goto X1.here hx rfl (pc0 := 8) (pc' := 12) rfl (hb hby d7_8) (by decide) (by decide) k) ?_
    show own_Ends p e below F (T1.setTop (mkF m 12 #[.val (.ref a)] [(.int (1 : Int32))]))
    rw [hF]
    exact own_ret X1 (v := (some (.int (nar .boolean (1 : Int32))))) (fun h => by rw [Bd.returns] at h; cases h) Bd.notSynchronized (fun fs hr => retN X1 hx (t := .boolean) Bd.returns (by simp) (hb hby d7_12) hr) (by decide) (by decide) (by rw [e1]; exact ⟨by simp only [own_emp, c4_2, if_true, if_false]; rfl, N0, rfl⟩)
  · refine own_step (fun _ k => XS.ifYes X1.here hx rfl (pc0 := 4) (pc' := 11) rfl (hb hby d7_4) rfl ((if0 _ _).trans (feq c4_2).2) (by decide) (by decide) k) ?_
    show own_Ends p e below F (T1.setTop (mkF m 11 #[.val (.ref a)] []))
    refine own_step (fun _ k => XS.iconst X1.here hx rfl (hb hby d7_11) k) ?_
    show own_Ends p e below F (T1.setTop (mkF m 12 #[.val (.ref a)] [(.int (0 : Int32))]))
    rw [hF]
    exact own_ret X1 (v := (some (.int (nar .boolean (0 : Int32))))) (fun h => by rw [Bd.returns] at h; cases h) Bd.notSynchronized (fun fs hr => retN X1 hx (t := .boolean) Bd.returns (by simp) (hb hby d7_12) hr) (by decide) (by decide) (by rw [e1]; exact ⟨by simp only [own_emp, c4_2, if_true, if_false]; rfl, N0, rfl⟩)

theorem d9_0 : decode prog_20_method_2_code 0 = .ok (.aload_n 0, 1) := by decide +kernel
theorem d9_1 : decode prog_20_method_2_code 1 = .ok (.getfield 16, 3) := by decide +kernel
theorem d9_4 : decode prog_20_method_2_code 4 = .ok (.aload_n 0, 1) := by decide +kernel
theorem d9_5 : decode prog_20_method_2_code 5 = .ok (.getfield 13, 3) := by decide +kernel
theorem d9_8 : decode prog_20_method_2_code 8 = .ok (.arraylength, 1) := by decide +kernel
theorem d9_9 : decode prog_20_method_2_code 9 = .ok (.if_icmp .ne 24, 3) := by decide +kernel
theorem d9_12 : decode prog_20_method_2_code 12 = .ok (.aload_n 0, 1) := by decide +kernel
theorem d9_13 : decode prog_20_method_2_code 13 = .ok (.aload_n 0, 1) := by decide +kernel
theorem d9_14 : decode prog_20_method_2_code 14 = .ok (.getfield 13, 3) := by decide +kernel
theorem d9_17 : decode prog_20_method_2_code 17 = .ok (.iconst 4, 1) := by decide +kernel
theorem d9_18 : decode prog_20_method_2_code 18 = .ok (.aload_n 0, 1) := by decide +kernel
theorem d9_19 : decode prog_20_method_2_code 19 = .ok (.getfield 16, 3) := by decide +kernel
theorem d9_22 : decode prog_20_method_2_code 22 = .ok (.iconst 2, 1) := by decide +kernel
theorem d9_23 : decode prog_20_method_2_code 23 = .ok (.imul, 1) := by decide +kernel
theorem d9_24 : decode prog_20_method_2_code 24 = .ok (.invokestatic 20, 3) := by decide +kernel
theorem d9_27 : decode prog_20_method_2_code 27 = .ok (.invokestatic 26, 3) := by decide +kernel
theorem d9_30 : decode prog_20_method_2_code 30 = .ok (.putfield 13, 3) := by decide +kernel
theorem d9_33 : decode prog_20_method_2_code 33 = .ok (.aload_n 0, 1) := by decide +kernel
theorem d9_34 : decode prog_20_method_2_code 34 = .ok (.getfield 13, 3) := by decide +kernel
theorem d9_37 : decode prog_20_method_2_code 37 = .ok (.aload_n 0, 1) := by decide +kernel
theorem d9_38 : decode prog_20_method_2_code 38 = .ok (.getfield 16, 3) := by decide +kernel
theorem d9_41 : decode prog_20_method_2_code 41 = .ok (.iload_n 1, 1) := by decide +kernel
theorem d9_42 : decode prog_20_method_2_code 42 = .ok (.iastore, 1) := by decide +kernel
theorem d9_43 : decode prog_20_method_2_code 43 = .ok (.aload_n 0, 1) := by decide +kernel
theorem d9_44 : decode prog_20_method_2_code 44 = .ok (.dup, 1) := by decide +kernel
theorem d9_45 : decode prog_20_method_2_code 45 = .ok (.getfield 16, 3) := by decide +kernel
theorem d9_48 : decode prog_20_method_2_code 48 = .ok (.iconst 1, 1) := by decide +kernel
theorem d9_49 : decode prog_20_method_2_code 49 = .ok (.iadd, 1) := by decide +kernel
theorem d9_50 : decode prog_20_method_2_code 50 = .ok (.putfield 16, 3) := by decide +kernel
theorem d9_53 : decode prog_20_method_2_code 53 = .ok (.return_, 1) := by decide +kernel
theorem pd__28_5bII_29_5bI : parseMethodDescriptor "([II)[I" = some ⟨[(.array .int), .int], some (.array .int)⟩ := by decide +kernel
theorem ef_rm9a (m : MethodId) (x0 : Addr) (x1 : Int32) : entryFrame m #[(.ref x0), (.int x1)] 2 = mkF m 0 #[.val (.ref x0), .val (.int x1)] [] := by first | (simp [entryFrame, mkF, argsToLocals, Value.category, maxLocals]; done) | rfl
def Q9a (Z : State) (a b : Addr) (p1 : Int32) (kb : ClassId) (h0 : Heap) (n0 : Nat) (v : Option Value) (h : Heap) (L : List Loc) : Prop := ∃ c k, v = none ∧ Fr n0 L ∧ Keep h0 h [a] ∧ h0.size ≤ c ∧ Exa Z h a "com/example/concept_reasoner/conceptreasoner/completion/IntList" ∧ Fld Z h a "com/example/concept_reasoner/conceptreasoner/completion/IntList" "size" "I" (.int (1 : Int32)) ∧ Fld Z h a "com/example/concept_reasoner/conceptreasoner/completion/IntList" "values" "[I" (.ref c) ∧ Arv Z h c k .int (4 : Int32) [(.int p1), (.int (0 : Int32)), (.int (0 : Int32)), (.int (0 : Int32))] (.int (0 : Int32))
set_option maxRecDepth 65536 in
set_option maxHeartbeats 40000000 in
theorem rm9a (l : Launch) (Z : State) (a0 : Array Value) (hw : ∀ d ∈ tables_1, d.before a0 Z = true) (ws : List Jvm.Cond) (a b : Addr) (p1 : Int32) (kb : ClassId) (h0 : Heap) (n0 : Nat) (Z0 : n0 ≤ h0.size) (EX : Exa Z h0 a "com/example/concept_reasoner/conceptreasoner/completion/IntList") (ge : n0 ≤ a) (FS : Fld Z h0 a "com/example/concept_reasoner/conceptreasoner/completion/IntList" "size" "I" (.int (0 : Int32))) (FV : Fld Z h0 a "com/example/concept_reasoner/conceptreasoner/completion/IntList" "values" "[I" (.ref b)) (VB : Arv Z h0 b kb .int (0 : Int32) [] (.int (0 : Int32))) (ne : b ≠ a) :
    MetFree l (⟨"com/example/concept_reasoner/conceptreasoner/completion/IntList", "add", "(I)V"⟩ : MethodName) (head1 (Jvm.Cond.code (⟨"com/example/concept_reasoner/conceptreasoner/completion/IntList", "add", "(I)V"⟩ : MethodName) prog_20_method_2_code 2 none :: ws) ({ frames := 2, cells := 1, slots := 4, locals := 33 } : Room)) (fun ar U => ar = #[(.ref a), (.int p1)] ∧ Z.Warmed39 U.vm ∧ U.heap = h0) (fun _ _ _ _ _ => True) (fun _ U o U' => ∃ v L, o = .returned v ∧ Q9a Z a b p1 kb h0 n0 v U'.heap L ∧ FrameEnd U o U' L ({ frames := 2, cells := 1, slots := 4, locals := 33 } : Room).cells ({ frames := 2, cells := 1, slots := 4, locals := 33 } : Room).slots) := by
  refine MetFree.of_bodySF (plainFor_of_name pn_com_example_concept_reasoner_conceptreasoner_completion_IntList) hisR ?_
  intro p e s m args below meth c s₁ Bd hml0 hP hK
  obtain ⟨rfl, hZ, hh⟩ := hP
  have hx := Bd.exec
  have hby := Bd.bytes
  have hml : c.maxLocals = 2 := hml0
  have hown : s.vm.findClass "com/example/concept_reasoner/conceptreasoner/completion/IntList" = some m.cls := findClass_of_methodNamed Bd.named
  have hnm := (name_of_methodNamed Bd.named Bd.method).1
  have X0 : Stand p l e ({ frames := 2, cells := 1, slots := 4, locals := 33 } : Room) s m #[(.ref a), (.int p1)] below meth c s₁ [] 0 0 := Stand.of_body Bd
  have e0 : s₁.heap = h0 := by rw [← hh, Bd.state]; rfl
  have N0 := Fr.nil n0
  obtain ⟨F, hF⟩ : ∃ F, F = own_Fin s (Q9a Z a b p1 kb h0 n0) ({ frames := 2, cells := 1, slots := 4, locals := 33 } : Room).cells ({ frames := 2, cells := 1, slots := 4, locals := 33 } : Room).slots := ⟨_, rfl⟩
  show own_Ends p e below (own_Fin s (Q9a Z a b p1 kb h0 n0) ({ frames := 2, cells := 1, slots := 4, locals := 33 } : Room).cells ({ frames := 2, cells := 1, slots := 4, locals := 33 } : Room).slots) _
  rw [← hF, ef_rm9a m a p1]
  show own_Ends p e below F (s₁.setTop (mkF m 0 #[.val (.ref a), .val (.int p1)] []))
  refine own_step (fun _ k => XS.aloadN X0.here hx rfl (hb hby d9_0) rfl rfl k) ?_
  show own_Ends p e below F (s₁.setTop (mkF m 1 #[.val (.ref a), .val (.int p1)] [(.ref a)]))
  obtain ⟨T1, X1, e1, st1⟩ := getF X0 hx hZ hown (host := "") (Or.inl (own_g hw 44 rfl)) Via.refl e0 FS (g := (mkF m 1 #[.val (.ref a), .val (.int p1)] [(.ref a)])) rfl rfl (hb hby d9_1)
  refine own_step st1 ?_
  show own_Ends p e below F (T1.setTop (mkF m 4 #[.val (.ref a), .val (.int p1)] [(.int (0 : Int32))]))
  refine own_step (fun _ k => XS.aloadN X1.here hx rfl (hb hby d9_4) rfl rfl k) ?_
  show own_Ends p e below F (T1.setTop (mkF m 5 #[.val (.ref a), .val (.int p1)] [(.ref a), (.int (0 : Int32))]))
  obtain ⟨T2, X2, e2, st2⟩ := getF X1 hx hZ hown (host := "") (Or.inl (own_g hw 17 rfl)) Via.refl e1 FV (g := (mkF m 5 #[.val (.ref a), .val (.int p1)] [(.ref a), (.int (0 : Int32))])) rfl rfl (hb hby d9_5)
  refine own_step st2 ?_
  show own_Ends p e below F (T2.setTop (mkF m 8 #[.val (.ref a), .val (.int p1)] [(.ref b), (.int (0 : Int32))]))
  obtain ⟨cl3, Ar3, q3, S3, M3, H3, G3⟩ := id VB
  have al3 := X2.arraylength hx (by rw [e2]; exact Ar3.1) (State.isArrayOf_alike hZ.alike Ar3.2.1) (g := (mkF m 8 #[.val (.ref a), .val (.int p1)] [(.ref b), (.int (0 : Int32))])) rfl rfl (hb hby d9_8)
  rw [len_of S3 M3] at al3
  refine own_step al3 ?_
  show own_Ends p e below F (T2.setTop (mkF m 9 #[.val (.ref a), .val (.int p1)] [(.int (0 : Int32)), (.int (0 : Int32))]))
  refine own_step (fun _ k => XS.icmpNo X2.here hx rfl (hb hby d9_9) rfl (teq (by decide : (0 : Int32) = (0 : Int32))).2 k) ?_
  show own_Ends p e below F (T2.setTop (mkF m 12 #[.val (.ref a), .val (.int p1)] []))
  refine own_step (fun _ k => XS.aloadN X2.here hx rfl (hb hby d9_12) rfl rfl k) ?_
  show own_Ends p e below F (T2.setTop (mkF m 13 #[.val (.ref a), .val (.int p1)] [(.ref a)]))
  refine own_step (fun _ k => XS.aloadN X2.here hx rfl (hb hby d9_13) rfl rfl k) ?_
  show own_Ends p e below F (T2.setTop (mkF m 14 #[.val (.ref a), .val (.int p1)] [(.ref a), (.ref a)]))
  obtain ⟨T4, X4, e4, st4⟩ := getF X2 hx hZ hown (host := "") (Or.inl (own_g hw 17 rfl)) Via.refl e2 FV (g := (mkF m 14 #[.val (.ref a), .val (.int p1)] [(.ref a), (.ref a)])) rfl rfl (hb hby d9_14)
  refine own_step st4 ?_
  show own_Ends p e below F (T4.setTop (mkF m 17 #[.val (.ref a), .val (.int p1)] [(.ref b), (.ref a)]))
  refine own_step (fun _ k => XS.iconst X4.here hx rfl (hb hby d9_17) k) ?_
  show own_Ends p e below F (T4.setTop (mkF m 18 #[.val (.ref a), .val (.int p1)] [(.int (4 : Int32)), (.ref b), (.ref a)]))
  refine own_step (fun _ k => XS.aloadN X4.here hx rfl (hb hby d9_18) rfl rfl k) ?_
  show own_Ends p e below F (T4.setTop (mkF m 19 #[.val (.ref a), .val (.int p1)] [(.ref a), (.int (4 : Int32)), (.ref b), (.ref a)]))
  obtain ⟨T5, X5, e5, st5⟩ := getF X4 hx hZ hown (host := "") (Or.inl (own_g hw 44 rfl)) Via.refl e4 FS (g := (mkF m 19 #[.val (.ref a), .val (.int p1)] [(.ref a), (.int (4 : Int32)), (.ref b), (.ref a)])) rfl rfl (hb hby d9_19)
  refine own_step st5 ?_
  show own_Ends p e below F (T5.setTop (mkF m 22 #[.val (.ref a), .val (.int p1)] [(.int (0 : Int32)), (.int (4 : Int32)), (.ref b), (.ref a)]))
  refine own_step (fun _ k => XS.iconst X5.here hx rfl (hb hby d9_22) k) ?_
  show own_Ends p e below F (T5.setTop (mkF m 23 #[.val (.ref a), .val (.int p1)] [(.int (2 : Int32)), (.int (0 : Int32)), (.int (4 : Int32)), (.ref b), (.ref a)]))
  refine own_step (fun _ k => XS.imul X5.here hx rfl (hb hby d9_23) rfl k) ?_
  show own_Ends p e below F (T5.setTop (mkF m 24 #[.val (.ref a), .val (.int p1)] [(.int (0 : Int32)), (.int (4 : Int32)), (.ref b), (.ref a)]))
  obtain ⟨_, _, ⟨T6, L6, k6, n6⟩, -, X6, ⟨Lc6, hQ6, l6, y6, z6⟩, st6⟩ := Jvm.LawKit.callS X5 hx (y := (⟨"java/lang/Math", "max", "(II)I"⟩ : MethodName)) hown (mvT hZ (own_g hw 56 rfl)) (mvT hZ (own_g hw 57 rfl)) (mvT hZ (own_g hw 58 rfl)) (mvT hZ (own_g hw 59 rfl)) (by decide) (backOf (W := 2) (rm10 l Z a0 hw [] (4 : Int32) (0 : Int32) h0 n0 Z0) hZ (own_g hw 59 rfl) (own_g hw 58 rfl) (by decide) (by decide)) (g := (mkF m 24 #[.val (.ref a), .val (.int p1)] [(.int (0 : Int32)), (.int (4 : Int32)), (.ref b), (.ref a)])) rfl (by rw [hml]; rfl) (argsL := [(.int (4 : Int32)), (.int (0 : Int32))]) (rest := [(.ref b), (.ref a)]) (lenOf pd__28II_29I rfl) rfl (by show 2 * 0 + _ ≤ _; exact Nat.le_of_eq rfl) (hb hby d9_24) (fun _ _ => ⟨rfl, e5, (by decide : 0 + 0 ≤ _), (by decide : 0 + 0 ≤ _)⟩)
  dsimp only [Pt.U, Pt.locs, Pt.cells, Pt.slots] at X6 l6 y6 z6 st6 hQ6
  subst l6 y6 z6
  obtain ⟨rfl, Nq6, eq6⟩ := hQ6
  have N6 := Fr.app N0 Nq6
  refine own_step st6 ?_
  show own_Ends p e below F (T6.setTop (mkF m 27 #[.val (.ref a), .val (.int p1)] [(.int (own_maxI (4 : Int32) (0 : Int32))), (.ref b), (.ref a)]))
  rw [show (own_maxI (4 : Int32) (0 : Int32)) = (4 : Int32) from (by first | rfl | decide)]
  show own_Ends p e below F (T6.setTop (mkF m 27 #[.val (.ref a), .val (.int p1)] [(.int (4 : Int32)), (.ref b), (.ref a)]))
  obtain ⟨_, _, ⟨T7, L7, k7, n7⟩, -, X7, ⟨Lc7, hQ7, l7, y7, z7⟩, st7⟩ := Jvm.LawKit.callS X6 hx (y := (⟨"java/util/Arrays", "copyOf", "([II)[I"⟩ : MethodName)) hown (mvT hZ (own_g hw 60 rfl)) (mvT hZ (own_g hw 61 rfl)) (mvT hZ (own_g hw 62 rfl)) (mvT hZ (own_g hw 63 rfl)) (by decide) (backOf (W := 1) (rm11 l Z a0 hw [] b kb h0 n0 Z0 VB) hZ (own_g hw 63 rfl) (own_g hw 62 rfl) (by decide) (by decide)) (g := (mkF m 27 #[.val (.ref a), .val (.int p1)] [(.int (4 : Int32)), (.ref b), (.ref a)])) rfl (by rw [hml]; rfl) (argsL := [(.ref b), (.int (4 : Int32))]) (rest := [(.ref a)]) (lenOf pd__28_5bII_29_5bI rfl) rfl (by show 2 * 0 + _ ≤ _; exact Nat.le_of_eq rfl) (hb hby d9_27) (fun _ _ => ⟨rfl, eq6, (by decide : 0 + 1 ≤ _), (by decide : 0 + 4 ≤ _)⟩)
  dsimp only [Pt.U, Pt.locs, Pt.cells, Pt.slots] at X7 l7 y7 z7 st7 hQ7
  subst l7 y7 z7
  obtain ⟨c7, kc7, rfl, Nq7, Kq7, fq0_7, fq1_7⟩ := hQ7
  have N7 := Fr.app N6 Nq7
  have Z7 : n0 ≤ T7.heap.size := Nat.le_trans Z0 Kq7.1
  have SZ7 : h0.size ≤ T7.heap.size := Nat.le_trans (Nat.le_refl h0.size) Kq7.1
  have ne_a_c7 : a ≠ c7 := Nat.ne_of_lt (Nat.lt_of_lt_of_le (EX).lt fq0_7)
  have ne_b_c7 : b ≠ c7 := Nat.ne_of_lt (Nat.lt_of_lt_of_le (VB).lt fq0_7)
  have ge_c7 : n0 ≤ c7 := Nat.le_trans Z0 fq0_7
  have sz_c7 : h0.size ≤ c7 := Nat.le_trans (Nat.le_refl h0.size) fq0_7
  refine own_step st7 ?_
  show own_Ends p e below F (T7.setTop (mkF m 30 #[.val (.ref a), .val (.int p1)] [(.ref c7), (.ref a)]))
  obtain ⟨T8, h8, X8, e8, W8, st8⟩ := putF X7 hx hZ hown (host := "") (Or.inl (own_g hw 17 rfl)) Via.refl rfl (FV.keep Kq7 nin0) (EX.keep Kq7) (Or.inl (own_g hw 18 rfl)) (own_g hw 7 rfl) (ty := (.array .int)) (by decide) rfl rfl (g := (mkF m 30 #[.val (.ref a), .val (.int p1)] [(.ref c7), (.ref a)])) rfl rfl (hb hby d9_30)
  refine own_step st8 ?_
  have F8 := Fld.same W8 (FV.keep Kq7 nin0)
  have N8 := Fr.snoc X8 N7 ge
  have Z8 : n0 ≤ h8.size := by rw [W8.size]; exact Z7
  have SZ8 : h0.size ≤ h8.size := by rw [W8.size]; exact SZ7
  show own_Ends p e below F (T8.setTop (mkF m 33 #[.val (.ref a), .val (.int p1)] []))
  refine own_step (fun _ k => XS.aloadN X8.here hx rfl (hb hby d9_33) rfl rfl k) ?_
  show own_Ends p e below F (T8.setTop (mkF m 34 #[.val (.ref a), .val (.int p1)] [(.ref a)]))
  obtain ⟨T9, X9, e9, st9⟩ := getF X8 hx hZ hown (host := "") (Or.inl (own_g hw 17 rfl)) Via.refl e8 F8 (g := (mkF m 34 #[.val (.ref a), .val (.int p1)] [(.ref a)])) rfl rfl (hb hby d9_34)
  refine own_step st9 ?_
  show own_Ends p e below F (T9.setTop (mkF m 37 #[.val (.ref a), .val (.int p1)] [(.ref c7)]))
  refine own_step (fun _ k => XS.aloadN X9.here hx rfl (hb hby d9_37) rfl rfl k) ?_
  show own_Ends p e below F (T9.setTop (mkF m 38 #[.val (.ref a), .val (.int p1)] [(.ref a), (.ref c7)]))
  obtain ⟨T10, X10, e10, st10⟩ := getF X9 hx hZ hown (host := "") (Or.inl (own_g hw 44 rfl)) Via.refl e9 (Fld.other W8 (FS.keep Kq7 nin0) (Or.inr (slot_ne (t := .int) (t' := (.array .int)) (Or.inl (own_g hw 45 rfl)) (Or.inl (own_g hw 18 rfl)) (by decide) (by decide) (by decide)))) (g := (mkF m 38 #[.val (.ref a), .val (.int p1)] [(.ref a), (.ref c7)])) rfl rfl (hb hby d9_38)
  refine own_step st10 ?_
  show own_Ends p e below F (T10.setTop (mkF m 41 #[.val (.ref a), .val (.int p1)] [(.int (0 : Int32)), (.ref c7)]))
  refine own_step (fun _ k => XS.iloadN X10.here hx rfl (hb hby d9_41) rfl k) ?_
  show own_Ends p e below F (T10.setTop (mkF m 42 #[.val (.ref a), .val (.int p1)] [(.int p1), (.int (0 : Int32)), (.ref c7)]))
  obtain ⟨cl11, Ar11, q11, S11, M11, H11, G11⟩ := id (fq1_7.other W8 (Ne.symm ne_a_c7))
  have hin11 : ¬ ((0 : Int32) < 0 ∨ cl11.slots.size ≤ ((0 : Int32) : Int32).toNatClampNeg) := inb_of S11 ⟨by decide, by decide⟩
  obtain ⟨T11, h11, X11, e11, W11, st11⟩ := stI X10 hx hZ e10 Ar11 (j := (0 : Int32)) hin11 (g := (mkF m 42 #[.val (.ref a), .val (.int p1)] [(.int p1), (.int (0 : Int32)), (.ref c7)])) rfl rfl (hb hby d9_42)
  have V11 := Arv.set Ar11 q11 S11 M11 H11 G11 rfl W11 0 rfl (Nat.le_of_ble_eq_true rfl)
  have V11 : Arv Z h11 c7 kc7 .int (4 : Int32) [(.int p1), (.int (0 : Int32)), (.int (0 : Int32)), (.int (0 : Int32))] (.int (0 : Int32)) := V11
  refine own_step st11 ?_
  have N11 := Fr.snoc X11 N8 ge_c7
  have Z11 : n0 ≤ h11.size := by rw [W11.size]; exact Z8
  have SZ11 : h0.size ≤ h11.size := by rw [W11.size]; exact SZ8
  show own_Ends p e below F (T11.setTop (mkF m 43 #[.val (.ref a), .val (.int p1)] []))
  refine own_step (fun _ k => XS.aloadN X11.here hx rfl (hb hby d9_43) rfl rfl k) ?_
  show own_Ends p e below F (T11.setTop (mkF m 44 #[.val (.ref a), .val (.int p1)] [(.ref a)]))
  refine own_step (fun _ k => XS.dup X11.here hx rfl (hb hby d9_44) rfl rfl k) ?_
  show own_Ends p e below F (T11.setTop (mkF m 45 #[.val (.ref a), .val (.int p1)] [(.ref a), (.ref a)]))
  obtain ⟨T12, X12, e12, st12⟩ := getF X11 hx hZ hown (host := "") (Or.inl (own_g hw 44 rfl)) Via.refl e11 (Fld.other W11 (Fld.other W8 (FS.keep Kq7 nin0) (Or.inr (slot_ne (t := .int) (t' := (.array .int)) (Or.inl (own_g hw 45 rfl)) (Or.inl (own_g hw 18 rfl)) (by decide) (by decide) (by decide)))) (Or.inl ne_a_c7)) (g := (mkF m 45 #[.val (.ref a), .val (.int p1)] [(.ref a), (.ref a)])) rfl rfl (hb hby d9_45)
  refine own_step st12 ?_
  show own_Ends p e below F (T12.setTop (mkF m 48 #[.val (.ref a), .val (.int p1)] [(.int (0 : Int32)), (.ref a)]))
  refine own_step (fun _ k => XS.iconst X12.here hx rfl (hb hby d9_48) k) ?_
  show own_Ends p e below F (T12.setTop (mkF m 49 #[.val (.ref a), .val (.int p1)] [(.int (1 : Int32)), (.int (0 : Int32)), (.ref a)]))
  refine own_step (fun _ k => XS.iadd X12.here hx rfl (hb hby d9_49) rfl k) ?_
  show own_Ends p e below F (T12.setTop (mkF m 50 #[.val (.ref a), .val (.int p1)] [(.int (1 : Int32)), (.ref a)]))
  obtain ⟨T13, h13, X13, e13, W13, st13⟩ := putF X12 hx hZ hown (host := "") (Or.inl (own_g hw 44 rfl)) Via.refl e12 (Fld.other W11 (Fld.other W8 (FS.keep Kq7 nin0) (Or.inr (slot_ne (t := .int) (t' := (.array .int)) (Or.inl (own_g hw 45 rfl)) (Or.inl (own_g hw 18 rfl)) (by decide) (by decide) (by decide)))) (Or.inl ne_a_c7)) (((EX.keep Kq7).wr W8).wr W11) (Or.inl (own_g hw 45 rfl)) (own_g hw 7 rfl) (ty := .int) (by decide) rfl rfl (g := (mkF m 50 #[.val (.ref a), .val (.int p1)] [(.int (1 : Int32)), (.ref a)])) rfl rfl (hb hby d9_50)
  refine own_step st13 ?_
  have F13 := Fld.same W13 (Fld.other W11 (Fld.other W8 (FS.keep Kq7 nin0) (Or.inr (slot_ne (t := .int) (t' := (.array .int)) (Or.inl (own_g hw 45 rfl)) (Or.inl (own_g hw 18 rfl)) (by decide) (by decide) (by decide)))) (Or.inl ne_a_c7))
  have N13 := Fr.snoc X13 N11 ge
  have Z13 : n0 ≤ h13.size := by rw [W13.size]; exact Z11
  have SZ13 : h0.size ≤ h13.size := by rw [W13.size]; exact SZ11
  show own_Ends p e below F (T13.setTop (mkF m 53 #[.val (.ref a), .val (.int p1)] []))
  rw [hF]
  exact own_ret X13 (v := none) (fun _ => rfl) Bd.notSynchronized (fun fs hr => X13.returnOut hx Bd.returns (hb hby d9_53) hr) (by decide) (by decide) (by rw [e13]; exact ⟨_, _, rfl, N13, ((Keep.wr (Keep.wr (Keep.wr (Keep.trans (Keep.refl _ _) Kq7 all0) W8 (Or.inl (List.mem_of_getElem? (i := 0) rfl))) W11 (Or.inr sz_c7)) W13 (Or.inl (List.mem_of_getElem? (i := 0) rfl))) : Keep h0 h13 [a]), sz_c7, ((((EX.keep Kq7).wr W8).wr W11).wr W13), F13, (Fld.other W13 (Fld.other W11 F8 (Or.inl ne_a_c7)) (Or.inr (slot_ne (t := (.array .int)) (t' := .int) (Or.inl (own_g hw 18 rfl)) (Or.inl (own_g hw 45 rfl)) (by decide) (by decide) (by decide)))), (V11.other W13 (Ne.symm ne_a_c7))⟩)

theorem ef_rm9b (m : MethodId) (x0 : Addr) (x1 : Int32) : entryFrame m #[(.ref x0), (.int x1)] 2 = mkF m 0 #[.val (.ref x0), .val (.int x1)] [] := by first | (simp [entryFrame, mkF, argsToLocals, Value.category, maxLocals]; done) | rfl
def Q9b (Z : State) (a b : Addr) (p1 z : Int32) (kb : ClassId) (vs : List Value) (h0 : Heap) (n0 : Nat) (v : Option Value) (h : Heap) (L : List Loc) : Prop := v = none ∧ Fr n0 L ∧ Keep h0 h [a, b] ∧ Exa Z h a "com/example/concept_reasoner/conceptreasoner/completion/IntList" ∧ Fld Z h a "com/example/concept_reasoner/conceptreasoner/completion/IntList" "size" "I" (.int (z + (1 : Int32))) ∧ Fld Z h a "com/example/concept_reasoner/conceptreasoner/completion/IntList" "values" "[I" (.ref b) ∧ Arv Z h b kb .int (4 : Int32) (vs.set z.toNatClampNeg (.int p1)) (.int (0 : Int32))
set_option maxRecDepth 65536 in
set_option maxHeartbeats 40000000 in
theorem rm9b (l : Launch) (Z : State) (a0 : Array Value) (hw : ∀ d ∈ tables_1, d.before a0 Z = true) (ws : List Jvm.Cond) (a b : Addr) (p1 z : Int32) (kb : ClassId) (vs : List Value) (h0 : Heap) (n0 : Nat) (Z0 : n0 ≤ h0.size) (EX : Exa Z h0 a "com/example/concept_reasoner/conceptreasoner/completion/IntList") (ge : n0 ≤ a) (FS : Fld Z h0 a "com/example/concept_reasoner/conceptreasoner/completion/IntList" "size" "I" (.int z)) (FV : Fld Z h0 a "com/example/concept_reasoner/conceptreasoner/completion/IntList" "values" "[I" (.ref b)) (VB : Arv Z h0 b kb .int (4 : Int32) vs (.int (0 : Int32))) (ne : b ≠ a) (geb : n0 ≤ b) (hz : ¬ z = (4 : Int32)) (hj : ¬ z < 0 ∧ z < (4 : Int32)) (hl : z.toNatClampNeg < vs.length) :
    MetFree l (⟨"com/example/concept_reasoner/conceptreasoner/completion/IntList", "add", "(I)V"⟩ : MethodName) (head1 (Jvm.Cond.code (⟨"com/example/concept_reasoner/conceptreasoner/completion/IntList", "add", "(I)V"⟩ : MethodName) prog_20_method_2_code 2 none :: ws) ({ frames := 0, cells := 0, slots := 0, locals := 0 } : Room)) (fun ar U => ar = #[(.ref a), (.int p1)] ∧ Z.Warmed39 U.vm ∧ U.heap = h0) (fun _ _ _ _ _ => True) (fun _ U o U' => ∃ v L, o = .returned v ∧ Q9b Z a b p1 z kb vs h0 n0 v U'.heap L ∧ FrameEnd U o U' L ({ frames := 0, cells := 0, slots := 0, locals := 0 } : Room).cells ({ frames := 0, cells := 0, slots := 0, locals := 0 } : Room).slots) := by
  refine MetFree.of_bodySF (plainFor_of_name pn_com_example_concept_reasoner_conceptreasoner_completion_IntList) hisR ?_
  intro p e s m args below meth c s₁ Bd hml0 hP hK
  obtain ⟨rfl, hZ, hh⟩ := hP
  have hx := Bd.exec
  have hby := Bd.bytes
  have hml : c.maxLocals = 2 := hml0
  have hown : s.vm.findClass "com/example/concept_reasoner/conceptreasoner/completion/IntList" = some m.cls := findClass_of_methodNamed Bd.named
  have hnm := (name_of_methodNamed Bd.named Bd.method).1
  have X0 : Stand p l e ({ frames := 0, cells := 0, slots := 0, locals := 0 } : Room) s m #[(.ref a), (.int p1)] below meth c s₁ [] 0 0 := Stand.of_body Bd
  have e0 : s₁.heap = h0 := by rw [← hh, Bd.state]; rfl
  have N0 := Fr.nil n0
  obtain ⟨F, hF⟩ : ∃ F, F = own_Fin s (Q9b Z a b p1 z kb vs h0 n0) ({ frames := 0, cells := 0, slots := 0, locals := 0 } : Room).cells ({ frames := 0, cells := 0, slots := 0, locals := 0 } : Room).slots := ⟨_, rfl⟩
  show own_Ends p e below (own_Fin s (Q9b Z a b p1 z kb vs h0 n0) ({ frames := 0, cells := 0, slots := 0, locals := 0 } : Room).cells ({ frames := 0, cells := 0, slots := 0, locals := 0 } : Room).slots) _
  rw [← hF, ef_rm9b m a p1]
  show own_Ends p e below F (s₁.setTop (mkF m 0 #[.val (.ref a), .val (.int p1)] []))
  refine own_step (fun _ k => XS.aloadN X0.here hx rfl (hb hby d9_0) rfl rfl k) ?_
  show own_Ends p e below F (s₁.setTop (mkF m 1 #[.val (.ref a), .val (.int p1)] [(.ref a)]))
  obtain ⟨T1, X1, e1, st1⟩ := getF X0 hx hZ hown (host := "") (Or.inl (own_g hw 44 rfl)) Via.refl e0 FS (g := (mkF m 1 #[.val (.ref a), .val (.int p1)] [(.ref a)])) rfl rfl (hb hby d9_1)
  refine own_step st1 ?_
  show own_Ends p e below F (T1.setTop (mkF m 4 #[.val (.ref a), .val (.int p1)] [(.int z)]))
  refine own_step (fun _ k => XS.aloadN X1.here hx rfl (hb hby d9_4) rfl rfl k) ?_
  show own_Ends p e below F (T1.setTop (mkF m 5 #[.val (.ref a), .val (.int p1)] [(.ref a), (.int z)]))
  obtain ⟨T2, X2, e2, st2⟩ := getF X1 hx hZ hown (host := "") (Or.inl (own_g hw 17 rfl)) Via.refl e1 FV (g := (mkF m 5 #[.val (.ref a), .val (.int p1)] [(.ref a), (.int z)])) rfl rfl (hb hby d9_5)
  refine own_step st2 ?_
  show own_Ends p e below F (T2.setTop (mkF m 8 #[.val (.ref a), .val (.int p1)] [(.ref b), (.int z)]))
  obtain ⟨cl3, Ar3, q3, S3, M3, H3, G3⟩ := id VB
  have al3 := X2.arraylength hx (by rw [e2]; exact Ar3.1) (State.isArrayOf_alike hZ.alike Ar3.2.1) (g := (mkF m 8 #[.val (.ref a), .val (.int p1)] [(.ref b), (.int z)])) rfl rfl (hb hby d9_8)
  rw [len_of S3 M3] at al3
  refine own_step al3 ?_
  show own_Ends p e below F (T2.setTop (mkF m 9 #[.val (.ref a), .val (.int p1)] [(.int (4 : Int32)), (.int z)]))
  refine own_step (fun _ k => XS.icmpYes X2.here hx rfl (pc0 := 9) (pc' := 33) rfl (hb hby d9_9) rfl (feq (hz : ¬ (z = (4 : Int32)))).2 (by decide) (by decide) k) ?_
  show own_Ends p e below F (T2.setTop (mkF m 33 #[.val (.ref a), .val (.int p1)] []))
  refine own_step (fun _ k => XS.aloadN X2.here hx rfl (hb hby d9_33) rfl rfl k) ?_
  show own_Ends p e below F (T2.setTop (mkF m 34 #[.val (.ref a), .val (.int p1)] [(.ref a)]))
  obtain ⟨T4, X4, e4, st4⟩ := getF X2 hx hZ hown (host := "") (Or.inl (own_g hw 17 rfl)) Via.refl e2 FV (g := (mkF m 34 #[.val (.ref a), .val (.int p1)] [(.ref a)])) rfl rfl (hb hby d9_34)
  refine own_step st4 ?_
  show own_Ends p e below F (T4.setTop (mkF m 37 #[.val (.ref a), .val (.int p1)] [(.ref b)]))
  refine own_step (fun _ k => XS.aloadN X4.here hx rfl (hb hby d9_37) rfl rfl k) ?_
  show own_Ends p e below F (T4.setTop (mkF m 38 #[.val (.ref a), .val (.int p1)] [(.ref a), (.ref b)]))
  obtain ⟨T5, X5, e5, st5⟩ := getF X4 hx hZ hown (host := "") (Or.inl (own_g hw 44 rfl)) Via.refl e4 FS (g := (mkF m 38 #[.val (.ref a), .val (.int p1)] [(.ref a), (.ref b)])) rfl rfl (hb hby d9_38)
  refine own_step st5 ?_
  show own_Ends p e below F (T5.setTop (mkF m 41 #[.val (.ref a), .val (.int p1)] [(.int z), (.ref b)]))
  refine own_step (fun _ k => XS.iloadN X5.here hx rfl (hb hby d9_41) rfl k) ?_
  show own_Ends p e below F (T5.setTop (mkF m 42 #[.val (.ref a), .val (.int p1)] [(.int p1), (.int z), (.ref b)]))
  obtain ⟨cl6, Ar6, q6, S6, M6, H6, G6⟩ := id VB
  have hin6 : ¬ (z < 0 ∨ cl6.slots.size ≤ (z : Int32).toNatClampNeg) := inb_of S6 hj
  obtain ⟨T6, h6, X6, e6, W6, st6⟩ := stI X5 hx hZ e5 Ar6 (j := z) hin6 (g := (mkF m 42 #[.val (.ref a), .val (.int p1)] [(.int p1), (.int z), (.ref b)])) rfl rfl (hb hby d9_42)
  have V6 : Arv Z h6 b kb .int (4 : Int32) (vs.set z.toNatClampNeg (.int p1)) (.int (0 : Int32)) := Arv.set Ar6 q6 S6 M6 H6 G6 rfl W6 _ rfl hl
  refine own_step st6 ?_
  have N6 := Fr.snoc X6 N0 geb
  have Z6 : n0 ≤ h6.size := by rw [W6.size]; exact Z0
  have SZ6 : h0.size ≤ h6.size := by rw [W6.size]; exact (Nat.le_refl h0.size)
  show own_Ends p e below F (T6.setTop (mkF m 43 #[.val (.ref a), .val (.int p1)] []))
  refine own_step (fun _ k => XS.aloadN X6.here hx rfl (hb hby d9_43) rfl rfl k) ?_
  show own_Ends p e below F (T6.setTop (mkF m 44 #[.val (.ref a), .val (.int p1)] [(.ref a)]))
  refine own_step (fun _ k => XS.dup X6.here hx rfl (hb hby d9_44) rfl rfl k) ?_
  show own_Ends p e below F (T6.setTop (mkF m 45 #[.val (.ref a), .val (.int p1)] [(.ref a), (.ref a)]))
  obtain ⟨T7, X7, e7, st7⟩ := getF X6 hx hZ hown (host := "") (Or.inl (own_g hw 44 rfl)) Via.refl e6 (Fld.other W6 FS (Or.inl (Ne.symm ne))) (g := (mkF m 45 #[.val (.ref a), .val (.int p1)] [(.ref a), (.ref a)])) rfl rfl (hb hby d9_45)
  refine own_step st7 ?_
  show own_Ends p e below F (T7.setTop (mkF m 48 #[.val (.ref a), .val (.int p1)] [(.int z), (.ref a)]))
  refine own_step (fun _ k => XS.iconst X7.here hx rfl (hb hby d9_48) k) ?_
  show own_Ends p e below F (T7.setTop (mkF m 49 #[.val (.ref a), .val (.int p1)] [(.int (1 : Int32)), (.int z), (.ref a)]))
  refine own_step (fun _ k => XS.iadd X7.here hx rfl (hb hby d9_49) rfl k) ?_
  show own_Ends p e below F (T7.setTop (mkF m 50 #[.val (.ref a), .val (.int p1)] [(.int (z + (1 : Int32))), (.ref a)]))
  obtain ⟨T8, h8, X8, e8, W8, st8⟩ := putF X7 hx hZ hown (host := "") (Or.inl (own_g hw 44 rfl)) Via.refl e7 (Fld.other W6 FS (Or.inl (Ne.symm ne))) (EX.wr W6) (Or.inl (own_g hw 45 rfl)) (own_g hw 7 rfl) (ty := .int) (by decide) rfl rfl (g := (mkF m 50 #[.val (.ref a), .val (.int p1)] [(.int (z + (1 : Int32))), (.ref a)])) rfl rfl (hb hby d9_50)
  refine own_step st8 ?_
  have F8 := Fld.same W8 (Fld.other W6 FS (Or.inl (Ne.symm ne)))
  have N8 := Fr.snoc X8 N6 ge
  have Z8 : n0 ≤ h8.size := by rw [W8.size]; exact Z6
  have SZ8 : h0.size ≤ h8.size := by rw [W8.size]; exact SZ6
  show own_Ends p e below F (T8.setTop (mkF m 53 #[.val (.ref a), .val (.int p1)] []))
  rw [hF]
  exact own_ret X8 (v := none) (fun _ => rfl) Bd.notSynchronized (fun fs hr => X8.returnOut hx Bd.returns (hb hby d9_53) hr) (by decide) (by decide) (by rw [e8]; exact ⟨rfl, N8, ((Keep.wr (Keep.wr (Keep.refl _ _) W6 (Or.inl (List.mem_of_getElem? (i := 1) rfl))) W8 (Or.inl (List.mem_of_getElem? (i := 0) rfl))) : Keep h0 h8 [a, b]), ((EX.wr W6).wr W8), F8, (Fld.other W8 (Fld.other W6 FV (Or.inl (Ne.symm ne))) (Or.inr (slot_ne (t := (.array .int)) (t' := .int) (Or.inl (own_g hw 18 rfl)) (Or.inl (own_g hw 45 rfl)) (by decide) (by decide) (by decide)))), (V6.other W8 ne)⟩)

theorem d5_0 : decode jdk_30_method_1_code 0 = .ok (.aload_n 0, 1) := by decide +kernel
theorem d5_1 : decode jdk_30_method_1_code 1 = .ok (.invokespecial 1, 3) := by decide +kernel
theorem d5_4 : decode jdk_30_method_1_code 4 = .ok (.return_, 1) := by decide +kernel
theorem pn_java_lang_Record : plainName "java/lang/Record" = true := by first | (simp [plainName, overriddenIn]; done) | decide +kernel
theorem ef_rm5 (m : MethodId) (x0 : Addr) : entryFrame m #[(.ref x0)] 1 = mkF m 0 #[.val (.ref x0)] [] := by first | (simp [entryFrame, mkF, argsToLocals, Value.category, maxLocals]; done) | rfl
def Q5 (Z : State) (a : Addr) (h0 : Heap) (n0 : Nat) (v : Option Value) (h : Heap) (L : List Loc) : Prop := v = none ∧ Fr n0 L ∧ h = h0
set_option maxRecDepth 65536 in
set_option maxHeartbeats 40000000 in
theorem rm5 (l : Launch) (Z : State) (a0 : Array Value) (hw : ∀ d ∈ tables_1, d.before a0 Z = true) (ws : List Jvm.Cond) (a : Addr) (h0 : Heap) (n0 : Nat) (Z0 : n0 ≤ h0.size)  :
    MetFree l (⟨"java/lang/Record", "<init>", "()V"⟩ : MethodName) (head1 (Jvm.Cond.code (⟨"java/lang/Record", "<init>", "()V"⟩ : MethodName) jdk_30_method_1_code 1 none :: ws) ({ frames := 1, cells := 0, slots := 0, locals := 12 } : Room)) (fun ar U => ar = #[(.ref a)] ∧ Z.Warmed39 U.vm ∧ U.heap = h0) (fun _ _ _ _ _ => True) (fun _ U o U' => ∃ v L, o = .returned v ∧ Q5 Z a h0 n0 v U'.heap L ∧ FrameEnd U o U' L ({ frames := 1, cells := 0, slots := 0, locals := 12 } : Room).cells ({ frames := 1, cells := 0, slots := 0, locals := 12 } : Room).slots) := by
  refine MetFree.of_bodySF (plainFor_of_name pn_java_lang_Record) hisR ?_
  intro p e s m args below meth c s₁ Bd hml0 hP hK
  obtain ⟨rfl, hZ, hh⟩ := hP
  have hx := Bd.exec
  have hby := Bd.bytes
  have hml : c.maxLocals = 1 := hml0
  have hown : s.vm.findClass "java/lang/Record" = some m.cls := findClass_of_methodNamed Bd.named
  have hnm := (name_of_methodNamed Bd.named Bd.method).1
  have X0 : Stand p l e ({ frames := 1, cells := 0, slots := 0, locals := 12 } : Room) s m #[(.ref a)] below meth c s₁ [] 0 0 := Stand.of_body Bd
  have e0 : s₁.heap = h0 := by rw [← hh, Bd.state]; rfl
  have N0 := Fr.nil n0
  obtain ⟨F, hF⟩ : ∃ F, F = own_Fin s (Q5 Z a h0 n0) ({ frames := 1, cells := 0, slots := 0, locals := 12 } : Room).cells ({ frames := 1, cells := 0, slots := 0, locals := 12 } : Room).slots := ⟨_, rfl⟩
  show own_Ends p e below (own_Fin s (Q5 Z a h0 n0) ({ frames := 1, cells := 0, slots := 0, locals := 12 } : Room).cells ({ frames := 1, cells := 0, slots := 0, locals := 12 } : Room).slots) _
  rw [← hF, ef_rm5 m a]
  show own_Ends p e below F (s₁.setTop (mkF m 0 #[.val (.ref a)] []))
  refine own_step (fun _ k => XS.aloadN X0.here hx rfl (hb hby d5_0) rfl rfl k) ?_
  show own_Ends p e below F (s₁.setTop (mkF m 1 #[.val (.ref a)] [(.ref a)]))
  obtain ⟨T1, X1, e1, st1⟩ := initO X0 hx hZ hown (own_g hw 27 rfl) (own_g hw 13 rfl) (own_g hw 14 rfl) e0 (g := (mkF m 1 #[.val (.ref a)] [(.ref a)])) rfl (by rw [hml]; rfl) rfl (hb hby d5_1) (by decide) (W := 0) (by show 2 * 0 + _ ≤ _; exact Nat.le_of_eq rfl) (by decide)
  refine own_step st1 ?_
  show own_Ends p e below F (T1.setTop (mkF m 4 #[.val (.ref a)] []))
  rw [hF]
  exact own_ret X1 (v := none) (fun _ => rfl) Bd.notSynchronized (fun fs hr => X1.returnOut hx Bd.returns (hb hby d5_4) hr) (by decide) (by decide) (by rw [e1]; exact ⟨rfl, N0, rfl⟩)

theorem d4_0 : decode prog_14_method_2_code 0 = .ok (.aload_n 0, 1) := by decide +kernel
theorem d4_1 : decode prog_14_method_2_code 1 = .ok (.invokespecial 1, 3) := by decide +kernel
theorem d4_4 : decode prog_14_method_2_code 4 = .ok (.aload_n 0, 1) := by decide +kernel
theorem d4_5 : decode prog_14_method_2_code 5 = .ok (.aload_n 1, 1) := by decide +kernel
theorem d4_6 : decode prog_14_method_2_code 6 = .ok (.putfield 7, 3) := by decide +kernel
theorem d4_9 : decode prog_14_method_2_code 9 = .ok (.aload_n 0, 1) := by decide +kernel
theorem d4_10 : decode prog_14_method_2_code 10 = .ok (.aload_n 2, 1) := by decide +kernel
theorem d4_11 : decode prog_14_method_2_code 11 = .ok (.putfield 13, 3) := by decide +kernel
theorem d4_14 : decode prog_14_method_2_code 14 = .ok (.aload_n 0, 1) := by decide +kernel
theorem d4_15 : decode prog_14_method_2_code 15 = .ok (.aload_n 3, 1) := by decide +kernel
theorem d4_16 : decode prog_14_method_2_code 16 = .ok (.putfield 16, 3) := by decide +kernel
theorem d4_19 : decode prog_14_method_2_code 19 = .ok (.return_, 1) := by decide +kernel
theorem pn_com_example_concept_reasoner_conceptreasoner_completion_Axioms_LeftOf : plainName "com/example/concept_reasoner/conceptreasoner/completion/Axioms$LeftOf" = true := by first | (simp [plainName, overriddenIn]; done) | decide +kernel
theorem pd__28_29V : parseMethodDescriptor "()V" = some ⟨[], none⟩ := by decide +kernel
theorem ef_rm4 (m : MethodId) (x0 : Addr) (x1 : Addr) (x2 : Addr) (x3 : Addr) : entryFrame m #[(.ref x0), (.ref x1), (.ref x2), (.ref x3)] 4 = mkF m 0 #[.val (.ref x0), .val (.ref x1), .val (.ref x2), .val (.ref x3)] [] := by first | (simp [entryFrame, mkF, argsToLocals, Value.category, maxLocals]; done) | rfl
def Q4 (Z : State) (a : Addr) (p1 : Addr) (p2 : Addr) (p3 : Addr) (h0 : Heap) (n0 : Nat) (v : Option Value) (h : Heap) (L : List Loc) : Prop := v = none ∧ Fr n0 L ∧ Keep h0 h [a] ∧ Exa Z h a "com/example/concept_reasoner/conceptreasoner/completion/Axioms$LeftOf" ∧ Fld Z h a "com/example/concept_reasoner/conceptreasoner/completion/Axioms$LeftOf" "implied" "Lcom/example/concept_reasoner/conceptreasoner/completion/IntList;" (.ref p1) ∧ Fld Z h a "com/example/concept_reasoner/conceptreasoner/completion/Axioms$LeftOf" "existentials" "Lcom/example/concept_reasoner/conceptreasoner/completion/IntList;" (.ref p2) ∧ Fld Z h a "com/example/concept_reasoner/conceptreasoner/completion/Axioms$LeftOf" "disjointnesses" "Lcom/example/concept_reasoner/conceptreasoner/completion/IntList;" (.ref p3)
set_option maxRecDepth 65536 in
set_option maxHeartbeats 40000000 in
theorem rm4 (l : Launch) (Z : State) (a0 : Array Value) (hw : ∀ d ∈ tables_1, d.before a0 Z = true) (ws : List Jvm.Cond) (a : Addr) (p1 : Addr) (p2 : Addr) (p3 : Addr) (h0 : Heap) (n0 : Nat) (Z0 : n0 ≤ h0.size) (EX : Exa Z h0 a "com/example/concept_reasoner/conceptreasoner/completion/Axioms$LeftOf") (ge : n0 ≤ a) (F_implied : Fld Z h0 a "com/example/concept_reasoner/conceptreasoner/completion/Axioms$LeftOf" "implied" "Lcom/example/concept_reasoner/conceptreasoner/completion/IntList;" .null) (F_existentials : Fld Z h0 a "com/example/concept_reasoner/conceptreasoner/completion/Axioms$LeftOf" "existentials" "Lcom/example/concept_reasoner/conceptreasoner/completion/IntList;" .null) (F_disjointnesses : Fld Z h0 a "com/example/concept_reasoner/conceptreasoner/completion/Axioms$LeftOf" "disjointnesses" "Lcom/example/concept_reasoner/conceptreasoner/completion/IntList;" .null) :
    MetFree l (⟨"com/example/concept_reasoner/conceptreasoner/completion/Axioms$LeftOf", "<init>", "(Lcom/example/concept_reasoner/conceptreasoner/completion/IntList;Lcom/example/concept_reasoner/conceptreasoner/completion/IntList;Lcom/example/concept_reasoner/conceptreasoner/completion/IntList;)V"⟩ : MethodName) (head1 (Jvm.Cond.code (⟨"com/example/concept_reasoner/conceptreasoner/completion/Axioms$LeftOf", "<init>", "(Lcom/example/concept_reasoner/conceptreasoner/completion/IntList;Lcom/example/concept_reasoner/conceptreasoner/completion/IntList;Lcom/example/concept_reasoner/conceptreasoner/completion/IntList;)V"⟩ : MethodName) prog_14_method_2_code 4 none :: ws) ({ frames := 2, cells := 0, slots := 0, locals := 24 } : Room)) (fun ar U => ar = #[(.ref a), (.ref p1), (.ref p2), (.ref p3)] ∧ Z.Warmed39 U.vm ∧ U.heap = h0) (fun _ _ _ _ _ => True) (fun _ U o U' => ∃ v L, o = .returned v ∧ Q4 Z a p1 p2 p3 h0 n0 v U'.heap L ∧ FrameEnd U o U' L ({ frames := 2, cells := 0, slots := 0, locals := 24 } : Room).cells ({ frames := 2, cells := 0, slots := 0, locals := 24 } : Room).slots) := by
  refine MetFree.of_bodySF (plainFor_of_name pn_com_example_concept_reasoner_conceptreasoner_completion_Axioms_LeftOf) hisR ?_
  intro p e s m args below meth c s₁ Bd hml0 hP hK
  obtain ⟨rfl, hZ, hh⟩ := hP
  have hx := Bd.exec
  have hby := Bd.bytes
  have hml : c.maxLocals = 4 := hml0
  have hown : s.vm.findClass "com/example/concept_reasoner/conceptreasoner/completion/Axioms$LeftOf" = some m.cls := findClass_of_methodNamed Bd.named
  have hnm := (name_of_methodNamed Bd.named Bd.method).1
  have X0 : Stand p l e ({ frames := 2, cells := 0, slots := 0, locals := 24 } : Room) s m #[(.ref a), (.ref p1), (.ref p2), (.ref p3)] below meth c s₁ [] 0 0 := Stand.of_body Bd
  have e0 : s₁.heap = h0 := by rw [← hh, Bd.state]; rfl
  have N0 := Fr.nil n0
  obtain ⟨F, hF⟩ : ∃ F, F = own_Fin s (Q4 Z a p1 p2 p3 h0 n0) ({ frames := 2, cells := 0, slots := 0, locals := 24 } : Room).cells ({ frames := 2, cells := 0, slots := 0, locals := 24 } : Room).slots := ⟨_, rfl⟩
  show own_Ends p e below (own_Fin s (Q4 Z a p1 p2 p3 h0 n0) ({ frames := 2, cells := 0, slots := 0, locals := 24 } : Room).cells ({ frames := 2, cells := 0, slots := 0, locals := 24 } : Room).slots) _
  rw [← hF, ef_rm4 m a p1 p2 p3]
  show own_Ends p e below F (s₁.setTop (mkF m 0 #[.val (.ref a), .val (.ref p1), .val (.ref p2), .val (.ref p3)] []))
  refine own_step (fun _ k => XS.aloadN X0.here hx rfl (hb hby d4_0) rfl rfl k) ?_
  show own_Ends p e below F (s₁.setTop (mkF m 1 #[.val (.ref a), .val (.ref p1), .val (.ref p2), .val (.ref p3)] [(.ref a)]))
  obtain ⟨_, _, ⟨T1, L1, k1, n1⟩, -, X1, ⟨Lc1, hQ1, l1, y1, z1⟩, st1⟩ := X0.specialBack hx (y := (⟨"java/lang/Record", "<init>", "()V"⟩ : MethodName)) rfl hown (mvT hZ (own_g hw 22 rfl)) (mvT hZ (own_g hw 23 rfl)) (mvT hZ (own_g hw 26 rfl)) (by decide) (backOf (W := 0) (rm5 l Z a0 hw [] a h0 n0 Z0) hZ (own_g hw 26 rfl) (own_g hw 25 rfl) (by decide) (by decide)) (g := (mkF m 1 #[.val (.ref a), .val (.ref p1), .val (.ref p2), .val (.ref p3)] [(.ref a)])) rfl (by rw [hml]; rfl) (Steps.refl _) (a := a) (argsL := []) (rest := []) (lenOf pd__28_29V rfl) rfl (by show 2 * 0 + _ ≤ _; exact Nat.le_of_eq rfl) (hb hby d4_1) (fun _ _ => ⟨rfl, e0, (by decide : 0 + 0 ≤ _), (by decide : 0 + 0 ≤ _)⟩)
  dsimp only [Pt.U, Pt.locs, Pt.cells, Pt.slots] at X1 l1 y1 z1 st1 hQ1
  subst l1 y1 z1
  obtain ⟨rfl, Nq1, eq1⟩ := hQ1
  have N1 := Fr.app N0 Nq1
  refine own_trans st1 ?_
  show own_Ends p e below F (T1.setTop (mkF m 4 #[.val (.ref a), .val (.ref p1), .val (.ref p2), .val (.ref p3)] []))
  refine own_step (fun _ k => XS.aloadN X1.here hx rfl (hb hby d4_4) rfl rfl k) ?_
  show own_Ends p e below F (T1.setTop (mkF m 5 #[.val (.ref a), .val (.ref p1), .val (.ref p2), .val (.ref p3)] [(.ref a)]))
  refine own_step (fun _ k => XS.aloadN X1.here hx rfl (hb hby d4_5) rfl rfl k) ?_
  show own_Ends p e below F (T1.setTop (mkF m 6 #[.val (.ref a), .val (.ref p1), .val (.ref p2), .val (.ref p3)] [(.ref p1), (.ref a)]))
  obtain ⟨T2, h2, X2, e2, W2, st2⟩ := putF X1 hx hZ hown (host := "") (Or.inl (own_g hw 28 rfl)) Via.refl eq1 F_implied EX (Or.inr ⟨(own_g hw 29 rfl), rfl, hnm⟩) (own_g hw 1 rfl) (ty := (.object "com/example/concept_reasoner/conceptreasoner/completion/IntList")) (by decide) rfl rfl (g := (mkF m 6 #[.val (.ref a), .val (.ref p1), .val (.ref p2), .val (.ref p3)] [(.ref p1), (.ref a)])) rfl rfl (hb hby d4_6)
  refine own_step st2 ?_
  have F2 := Fld.same W2 F_implied
  have N2 := Fr.snoc X2 N1 ge
  have Z2 : n0 ≤ h2.size := by rw [W2.size]; exact Z0
  have SZ2 : h0.size ≤ h2.size := by rw [W2.size]; exact (Nat.le_refl h0.size)
  show own_Ends p e below F (T2.setTop (mkF m 9 #[.val (.ref a), .val (.ref p1), .val (.ref p2), .val (.ref p3)] []))
  refine own_step (fun _ k => XS.aloadN X2.here hx rfl (hb hby d4_9) rfl rfl k) ?_
  show own_Ends p e below F (T2.setTop (mkF m 10 #[.val (.ref a), .val (.ref p1), .val (.ref p2), .val (.ref p3)] [(.ref a)]))
  refine own_step (fun _ k => XS.aloadN X2.here hx rfl (hb hby d4_10) rfl rfl k) ?_
  show own_Ends p e below F (T2.setTop (mkF m 11 #[.val (.ref a), .val (.ref p1), .val (.ref p2), .val (.ref p3)] [(.ref p2), (.ref a)]))
  obtain ⟨T3, h3, X3, e3, W3, st3⟩ := putF X2 hx hZ hown (host := "") (Or.inl (own_g hw 30 rfl)) Via.refl e2 (Fld.other W2 F_existentials (Or.inr (slot_ne (t := (.object "com/example/concept_reasoner/conceptreasoner/completion/IntList")) (t' := (.object "com/example/concept_reasoner/conceptreasoner/completion/IntList")) (Or.inr (own_g hw 31 rfl)) (Or.inr (own_g hw 29 rfl)) (by decide) (by decide) (by decide)))) (EX.wr W2) (Or.inr ⟨(own_g hw 31 rfl), rfl, hnm⟩) (own_g hw 1 rfl) (ty := (.object "com/example/concept_reasoner/conceptreasoner/completion/IntList")) (by decide) rfl rfl (g := (mkF m 11 #[.val (.ref a), .val (.ref p1), .val (.ref p2), .val (.ref p3)] [(.ref p2), (.ref a)])) rfl rfl (hb hby d4_11)
  refine own_step st3 ?_
  have F3 := Fld.same W3 (Fld.other W2 F_existentials (Or.inr (slot_ne (t := (.object "com/example/concept_reasoner/conceptreasoner/completion/IntList")) (t' := (.object "com/example/concept_reasoner/conceptreasoner/completion/IntList")) (Or.inr (own_g hw 31 rfl)) (Or.inr (own_g hw 29 rfl)) (by decide) (by decide) (by decide))))
  have N3 := Fr.snoc X3 N2 ge
  have Z3 : n0 ≤ h3.size := by rw [W3.size]; exact Z2
  have SZ3 : h0.size ≤ h3.size := by rw [W3.size]; exact SZ2
  show own_Ends p e below F (T3.setTop (mkF m 14 #[.val (.ref a), .val (.ref p1), .val (.ref p2), .val (.ref p3)] []))
  refine own_step (fun _ k => XS.aloadN X3.here hx rfl (hb hby d4_14) rfl rfl k) ?_
  show own_Ends p e below F (T3.setTop (mkF m 15 #[.val (.ref a), .val (.ref p1), .val (.ref p2), .val (.ref p3)] [(.ref a)]))
  refine own_step (fun _ k => XS.aloadN X3.here hx rfl (hb hby d4_15) rfl rfl k) ?_
  show own_Ends p e below F (T3.setTop (mkF m 16 #[.val (.ref a), .val (.ref p1), .val (.ref p2), .val (.ref p3)] [(.ref p3), (.ref a)]))
  obtain ⟨T4, h4, X4, e4, W4, st4⟩ := putF X3 hx hZ hown (host := "") (Or.inl (own_g hw 32 rfl)) Via.refl e3 (Fld.other W3 (Fld.other W2 F_disjointnesses (Or.inr (slot_ne (t := (.object "com/example/concept_reasoner/conceptreasoner/completion/IntList")) (t' := (.object "com/example/concept_reasoner/conceptreasoner/completion/IntList")) (Or.inr (own_g hw 33 rfl)) (Or.inr (own_g hw 29 rfl)) (by decide) (by decide) (by decide)))) (Or.inr (slot_ne (t := (.object "com/example/concept_reasoner/conceptreasoner/completion/IntList")) (t' := (.object "com/example/concept_reasoner/conceptreasoner/completion/IntList")) (Or.inr (own_g hw 33 rfl)) (Or.inr (own_g hw 31 rfl)) (by decide) (by decide) (by decide)))) ((EX.wr W2).wr W3) (Or.inr ⟨(own_g hw 33 rfl), rfl, hnm⟩) (own_g hw 1 rfl) (ty := (.object "com/example/concept_reasoner/conceptreasoner/completion/IntList")) (by decide) rfl rfl (g := (mkF m 16 #[.val (.ref a), .val (.ref p1), .val (.ref p2), .val (.ref p3)] [(.ref p3), (.ref a)])) rfl rfl (hb hby d4_16)
  refine own_step st4 ?_
  have F4 := Fld.same W4 (Fld.other W3 (Fld.other W2 F_disjointnesses (Or.inr (slot_ne (t := (.object "com/example/concept_reasoner/conceptreasoner/completion/IntList")) (t' := (.object "com/example/concept_reasoner/conceptreasoner/completion/IntList")) (Or.inr (own_g hw 33 rfl)) (Or.inr (own_g hw 29 rfl)) (by decide) (by decide) (by decide)))) (Or.inr (slot_ne (t := (.object "com/example/concept_reasoner/conceptreasoner/completion/IntList")) (t' := (.object "com/example/concept_reasoner/conceptreasoner/completion/IntList")) (Or.inr (own_g hw 33 rfl)) (Or.inr (own_g hw 31 rfl)) (by decide) (by decide) (by decide))))
  have N4 := Fr.snoc X4 N3 ge
  have Z4 : n0 ≤ h4.size := by rw [W4.size]; exact Z3
  have SZ4 : h0.size ≤ h4.size := by rw [W4.size]; exact SZ3
  show own_Ends p e below F (T4.setTop (mkF m 19 #[.val (.ref a), .val (.ref p1), .val (.ref p2), .val (.ref p3)] []))
  rw [hF]
  exact own_ret X4 (v := none) (fun _ => rfl) Bd.notSynchronized (fun fs hr => X4.returnOut hx Bd.returns (hb hby d4_19) hr) (by decide) (by decide) (by rw [e4]; exact ⟨rfl, N4, ((Keep.wr (Keep.wr (Keep.wr (Keep.refl _ _) W2 (Or.inl (List.mem_of_getElem? (i := 0) rfl))) W3 (Or.inl (List.mem_of_getElem? (i := 0) rfl))) W4 (Or.inl (List.mem_of_getElem? (i := 0) rfl))) : Keep h0 h4 [a]), (((EX.wr W2).wr W3).wr W4), (Fld.other W4 (Fld.other W3 F2 (Or.inr (slot_ne (t := (.object "com/example/concept_reasoner/conceptreasoner/completion/IntList")) (t' := (.object "com/example/concept_reasoner/conceptreasoner/completion/IntList")) (Or.inr (own_g hw 29 rfl)) (Or.inr (own_g hw 31 rfl)) (by decide) (by decide) (by decide)))) (Or.inr (slot_ne (t := (.object "com/example/concept_reasoner/conceptreasoner/completion/IntList")) (t' := (.object "com/example/concept_reasoner/conceptreasoner/completion/IntList")) (Or.inr (own_g hw 29 rfl)) (Or.inr (own_g hw 33 rfl)) (by decide) (by decide) (by decide)))), (Fld.other W4 F3 (Or.inr (slot_ne (t := (.object "com/example/concept_reasoner/conceptreasoner/completion/IntList")) (t' := (.object "com/example/concept_reasoner/conceptreasoner/completion/IntList")) (Or.inr (own_g hw 31 rfl)) (Or.inr (own_g hw 33 rfl)) (by decide) (by decide) (by decide)))), F4⟩)

theorem d1_0 : decode prog_14_method_1_code 0 = .ok (.aload_n 0, 1) := by decide +kernel
theorem d1_1 : decode prog_14_method_1_code 1 = .ok (.new 19, 3) := by decide +kernel
theorem d1_4 : decode prog_14_method_1_code 4 = .ok (.dup, 1) := by decide +kernel
theorem d1_5 : decode prog_14_method_1_code 5 = .ok (.invokespecial 21, 3) := by decide +kernel
theorem d1_8 : decode prog_14_method_1_code 8 = .ok (.new 19, 3) := by decide +kernel
theorem d1_11 : decode prog_14_method_1_code 11 = .ok (.dup, 1) := by decide +kernel
theorem d1_12 : decode prog_14_method_1_code 12 = .ok (.invokespecial 21, 3) := by decide +kernel
theorem d1_15 : decode prog_14_method_1_code 15 = .ok (.new 19, 3) := by decide +kernel
theorem d1_18 : decode prog_14_method_1_code 18 = .ok (.dup, 1) := by decide +kernel
theorem d1_19 : decode prog_14_method_1_code 19 = .ok (.invokespecial 21, 3) := by decide +kernel
theorem d1_22 : decode prog_14_method_1_code 22 = .ok (.invokespecial 22, 3) := by decide +kernel
theorem d1_25 : decode prog_14_method_1_code 25 = .ok (.return_, 1) := by decide +kernel
theorem pd__28Lcom_2fexample_2fconcept_reasoner_2fconceptreasoner_2fcompletion_2fIntList_3bLcom_2fexample_2fconcept_reasoner_2fconceptreasoner_2fcompletion_2fIntList_3bLcom_2fexample_2fconcept_reasoner_2fconceptreasoner_2fcompletion_2fIntList_3b_29V : parseMethodDescriptor "(Lcom/example/concept_reasoner/conceptreasoner/completion/IntList;Lcom/example/concept_reasoner/conceptreasoner/completion/IntList;Lcom/example/concept_reasoner/conceptreasoner/completion/IntList;)V" = some ⟨[(.object "com/example/concept_reasoner/conceptreasoner/completion/IntList"), (.object "com/example/concept_reasoner/conceptreasoner/completion/IntList"), (.object "com/example/concept_reasoner/conceptreasoner/completion/IntList")], none⟩ := by decide +kernel
theorem ef_rm1 (m : MethodId) (x0 : Addr) : entryFrame m #[(.ref x0)] 1 = mkF m 0 #[.val (.ref x0)] [] := by first | (simp [entryFrame, mkF, argsToLocals, Value.category, maxLocals]; done) | rfl
def Q1 (Z : State) (a nn : Addr) (h0 : Heap) (n0 : Nat) (v : Option Value) (h : Heap) (L : List Loc) : Prop := ∃ b c d, v = none ∧ Fr n0 L ∧ Keep h0 h [a] ∧ h0.size ≤ b ∧ h0.size ≤ c ∧ h0.size ≤ d ∧ b ≠ c ∧ b ≠ d ∧ c ≠ d ∧ Exa Z h a "com/example/concept_reasoner/conceptreasoner/completion/Axioms$LeftOf" ∧ Fld Z h a "com/example/concept_reasoner/conceptreasoner/completion/Axioms$LeftOf" "implied" "Lcom/example/concept_reasoner/conceptreasoner/completion/IntList;" (.ref b) ∧ Fld Z h a "com/example/concept_reasoner/conceptreasoner/completion/Axioms$LeftOf" "existentials" "Lcom/example/concept_reasoner/conceptreasoner/completion/IntList;" (.ref c) ∧ Fld Z h a "com/example/concept_reasoner/conceptreasoner/completion/Axioms$LeftOf" "disjointnesses" "Lcom/example/concept_reasoner/conceptreasoner/completion/IntList;" (.ref d) ∧ Exa Z h b "com/example/concept_reasoner/conceptreasoner/completion/IntList" ∧ Fld Z h b "com/example/concept_reasoner/conceptreasoner/completion/IntList" "size" "I" (.int (0 : Int32)) ∧ Fld Z h b "com/example/concept_reasoner/conceptreasoner/completion/IntList" "values" "[I" (.ref nn) ∧ Exa Z h c "com/example/concept_reasoner/conceptreasoner/completion/IntList" ∧ Fld Z h c "com/example/concept_reasoner/conceptreasoner/completion/IntList" "size" "I" (.int (0 : Int32)) ∧ Fld Z h c "com/example/concept_reasoner/conceptreasoner/completion/IntList" "values" "[I" (.ref nn) ∧ Exa Z h d "com/example/concept_reasoner/conceptreasoner/completion/IntList" ∧ Fld Z h d "com/example/concept_reasoner/conceptreasoner/completion/IntList" "size" "I" (.int (0 : Int32)) ∧ Fld Z h d "com/example/concept_reasoner/conceptreasoner/completion/IntList" "values" "[I" (.ref nn)
set_option maxRecDepth 65536 in
set_option maxHeartbeats 40000000 in
theorem rm1 (l : Launch) (Z : State) (a0 : Array Value) (hw : ∀ d ∈ tables_1, d.before a0 Z = true) (ws : List Jvm.Cond) (a nn : Addr) (h0 : Heap) (n0 : Nat) (Z0 : n0 ≤ h0.size) (EX : Exa Z h0 a "com/example/concept_reasoner/conceptreasoner/completion/Axioms$LeftOf") (ge : n0 ≤ a) (SN : Sta Z h0 "com/example/concept_reasoner/conceptreasoner/completion/IntList" "NONE" "[I" (.ref nn)) (F_implied : Fld Z h0 a "com/example/concept_reasoner/conceptreasoner/completion/Axioms$LeftOf" "implied" "Lcom/example/concept_reasoner/conceptreasoner/completion/IntList;" .null) (F_existentials : Fld Z h0 a "com/example/concept_reasoner/conceptreasoner/completion/Axioms$LeftOf" "existentials" "Lcom/example/concept_reasoner/conceptreasoner/completion/IntList;" .null) (F_disjointnesses : Fld Z h0 a "com/example/concept_reasoner/conceptreasoner/completion/Axioms$LeftOf" "disjointnesses" "Lcom/example/concept_reasoner/conceptreasoner/completion/IntList;" .null) :
    MetFree l (⟨"com/example/concept_reasoner/conceptreasoner/completion/Axioms$LeftOf", "<init>", "()V"⟩ : MethodName) (head1 (Jvm.Cond.code (⟨"com/example/concept_reasoner/conceptreasoner/completion/Axioms$LeftOf", "<init>", "()V"⟩ : MethodName) prog_14_method_1_code 1 none :: ws) ({ frames := 3, cells := 3, slots := 6, locals := 39 } : Room)) (fun ar U => ar = #[(.ref a)] ∧ Z.Warmed39 U.vm ∧ U.heap = h0) (fun _ _ _ _ _ => True) (fun _ U o U' => ∃ v L, o = .returned v ∧ Q1 Z a nn h0 n0 v U'.heap L ∧ FrameEnd U o U' L ({ frames := 3, cells := 3, slots := 6, locals := 39 } : Room).cells ({ frames := 3, cells := 3, slots := 6, locals := 39 } : Room).slots) := by
  refine MetFree.of_bodySF (plainFor_of_name pn_com_example_concept_reasoner_conceptreasoner_completion_Axioms_LeftOf) hisR ?_
  intro p e s m args below meth c s₁ Bd hml0 hP hK
  obtain ⟨rfl, hZ, hh⟩ := hP
  have hx := Bd.exec
  have hby := Bd.bytes
  have hml : c.maxLocals = 1 := hml0
  have hown : s.vm.findClass "com/example/concept_reasoner/conceptreasoner/completion/Axioms$LeftOf" = some m.cls := findClass_of_methodNamed Bd.named
  have hnm := (name_of_methodNamed Bd.named Bd.method).1
  have X0 : Stand p l e ({ frames := 3, cells := 3, slots := 6, locals := 39 } : Room) s m #[(.ref a)] below meth c s₁ [] 0 0 := Stand.of_body Bd
  have e0 : s₁.heap = h0 := by rw [← hh, Bd.state]; rfl
  have N0 := Fr.nil n0
  obtain ⟨F, hF⟩ : ∃ F, F = own_Fin s (Q1 Z a nn h0 n0) ({ frames := 3, cells := 3, slots := 6, locals := 39 } : Room).cells ({ frames := 3, cells := 3, slots := 6, locals := 39 } : Room).slots := ⟨_, rfl⟩
  show own_Ends p e below (own_Fin s (Q1 Z a nn h0 n0) ({ frames := 3, cells := 3, slots := 6, locals := 39 } : Room).cells ({ frames := 3, cells := 3, slots := 6, locals := 39 } : Room).slots) _
  rw [← hF, ef_rm1 m a]
  show own_Ends p e below F (s₁.setTop (mkF m 0 #[.val (.ref a)] []))
  refine own_step (fun _ k => XS.aloadN X0.here hx rfl (hb hby d1_0) rfl rfl k) ?_
  show own_Ends p e below F (s₁.setTop (mkF m 1 #[.val (.ref a)] [(.ref a)]))
  obtain ⟨T1, h1, X1, e1, E1, A1, D1, -, st1⟩ := newO X0 hx hZ hown (own_g hw 6 rfl) (own_g hw 7 rfl) (own_g hw 8 rfl) e0 (g := (mkF m 1 #[.val (.ref a)] [(.ref a)])) rfl (hb hby d1_1) (by decide) (by decide)
  obtain ⟨a1, g1⟩ : ∃ z, z = h0.size := ⟨_, rfl⟩
  rw [← g1] at A1 D1 st1
  have ge_a1 : n0 ≤ a1 := Nat.le_trans Z0 (Nat.le_of_eq g1.symm)
  have sz_a1 : h0.size ≤ a1 := Nat.le_trans (Nat.le_refl h0.size) (Nat.le_of_eq g1.symm)
  have ne_a_a1 : a ≠ a1 := Nat.ne_of_lt (by rw [g1]; exact EX.lt)
  have Z1 : n0 ≤ h1.size := Nat.le_trans Z0 E1.1
  have SZ1 : h0.size ≤ h1.size := Nat.le_trans (Nat.le_refl h0.size) E1.1
  have F1_values : Fld Z h1 a1 "com/example/concept_reasoner/conceptreasoner/completion/IntList" "values" "[I" .null := D1 (Or.inl (own_g hw 18 rfl)) (ty := (.array .int)) (by decide)
  have F1_size : Fld Z h1 a1 "com/example/concept_reasoner/conceptreasoner/completion/IntList" "size" "I" (.int (0 : Int32)) := D1 (Or.inl (own_g hw 45 rfl)) (ty := .int) (by decide)
  refine own_step st1 ?_
  show own_Ends p e below F (T1.setTop (mkF m 4 #[.val (.ref a)] [(.ref a1), (.ref a)]))
  refine own_step (fun _ k => XS.dup X1.here hx rfl (hb hby d1_4) rfl rfl k) ?_
  show own_Ends p e below F (T1.setTop (mkF m 5 #[.val (.ref a)] [(.ref a1), (.ref a1), (.ref a)]))
  obtain ⟨_, _, ⟨T2, L2, k2, n2⟩, -, X2, ⟨Lc2, hQ2, l2, y2, z2⟩, st2⟩ := X1.specialBack hx (y := (⟨"com/example/concept_reasoner/conceptreasoner/completion/IntList", "<init>", "()V"⟩ : MethodName)) rfl hown (mvT hZ (own_g hw 9 rfl)) (mvT hZ (own_g hw 10 rfl)) (mvT hZ (own_g hw 11 rfl)) (by decide) (backOf (W := 2) (rm2 l Z a0 hw [] a1 nn h1 n0 Z1 A1 ge_a1 F1_values F1_size (Sta.ext E1 SN)) hZ (own_g hw 11 rfl) (own_g hw 8 rfl) (by decide) (by decide)) (g := (mkF m 5 #[.val (.ref a)] [(.ref a1), (.ref a1), (.ref a)])) rfl (by rw [hml]; rfl) (Steps.refl _) (a := a1) (argsL := []) (rest := [(.ref a1), (.ref a)]) (lenOf pd__28_29V rfl) rfl (by show 2 * 0 + _ ≤ _; exact Nat.le_of_eq rfl) (hb hby d1_5) (fun _ _ => ⟨rfl, e1, (by decide : 1 + 0 ≤ _), (by decide : 2 + 0 ≤ _)⟩)
  dsimp only [Pt.U, Pt.locs, Pt.cells, Pt.slots] at X2 l2 y2 z2 st2 hQ2
  subst l2 y2 z2
  obtain ⟨rfl, Nq2, Kq2, fq0_2, fq1_2, fq2_2⟩ := hQ2
  have N2 := Fr.app N0 Nq2
  have Z2 : n0 ≤ T2.heap.size := Nat.le_trans Z1 Kq2.1
  have SZ2 : h0.size ≤ T2.heap.size := Nat.le_trans SZ1 Kq2.1
  have S0_2 := own_Sta_keep (Sta.ext E1 SN) Kq2 (allS (own_ns_exa A1) all0)
  refine own_trans st2 ?_
  show own_Ends p e below F (T2.setTop (mkF m 8 #[.val (.ref a)] [(.ref a1), (.ref a)]))
  obtain ⟨T3, h3, X3, e3, E3, A3, D3, -, st3⟩ := newO X2 hx hZ hown (own_g hw 6 rfl) (own_g hw 7 rfl) (own_g hw 8 rfl) rfl (g := (mkF m 8 #[.val (.ref a)] [(.ref a1), (.ref a)])) rfl (hb hby d1_8) (by decide) (by decide)
  obtain ⟨a3, g3⟩ : ∃ z, z = T2.heap.size := ⟨_, rfl⟩
  rw [← g3] at A3 D3 st3
  have ge_a3 : n0 ≤ a3 := Nat.le_trans Z2 (Nat.le_of_eq g3.symm)
  have sz_a3 : h0.size ≤ a3 := Nat.le_trans SZ2 (Nat.le_of_eq g3.symm)
  have ne_a_a3 : a ≠ a3 := Nat.ne_of_lt (by rw [g3]; exact ((EX.ext E1).keep Kq2).lt)
  have ne_a1_a3 : a1 ≠ a3 := Nat.ne_of_lt (by rw [g3]; exact fq1_2.lt)
  have Z3 : n0 ≤ h3.size := Nat.le_trans Z2 E3.1
  have SZ3 : h0.size ≤ h3.size := Nat.le_trans SZ2 E3.1
  have F3_values : Fld Z h3 a3 "com/example/concept_reasoner/conceptreasoner/completion/IntList" "values" "[I" .null := D3 (Or.inl (own_g hw 18 rfl)) (ty := (.array .int)) (by decide)
  have F3_size : Fld Z h3 a3 "com/example/concept_reasoner/conceptreasoner/completion/IntList" "size" "I" (.int (0 : Int32)) := D3 (Or.inl (own_g hw 45 rfl)) (ty := .int) (by decide)
  refine own_step st3 ?_
  show own_Ends p e below F (T3.setTop (mkF m 11 #[.val (.ref a)] [(.ref a3), (.ref a1), (.ref a)]))
  refine own_step (fun _ k => XS.dup X3.here hx rfl (hb hby d1_11) rfl rfl k) ?_
  show own_Ends p e below F (T3.setTop (mkF m 12 #[.val (.ref a)] [(.ref a3), (.ref a3), (.ref a1), (.ref a)]))
  obtain ⟨_, _, ⟨T4, L4, k4, n4⟩, -, X4, ⟨Lc4, hQ4, l4, y4, z4⟩, st4⟩ := X3.specialBack hx (y := (⟨"com/example/concept_reasoner/conceptreasoner/completion/IntList", "<init>", "()V"⟩ : MethodName)) rfl hown (mvT hZ (own_g hw 9 rfl)) (mvT hZ (own_g hw 10 rfl)) (mvT hZ (own_g hw 11 rfl)) (by decide) (backOf (W := 3) (rm2 l Z a0 hw [] a3 nn h3 n0 Z3 A3 ge_a3 F3_values F3_size (Sta.ext E3 S0_2)) hZ (own_g hw 11 rfl) (own_g hw 8 rfl) (by decide) (by decide)) (g := (mkF m 12 #[.val (.ref a)] [(.ref a3), (.ref a3), (.ref a1), (.ref a)])) rfl (by rw [hml]; rfl) (Steps.refl _) (a := a3) (argsL := []) (rest := [(.ref a3), (.ref a1), (.ref a)]) (lenOf pd__28_29V rfl) rfl (by show 2 * 0 + _ ≤ _; exact Nat.le_of_eq rfl) (hb hby d1_12) (fun _ _ => ⟨rfl, e3, (by decide : 2 + 0 ≤ _), (by decide : 4 + 0 ≤ _)⟩)
  dsimp only [Pt.U, Pt.locs, Pt.cells, Pt.slots] at X4 l4 y4 z4 st4 hQ4
  subst l4 y4 z4
  obtain ⟨rfl, Nq4, Kq4, fq0_4, fq1_4, fq2_4⟩ := hQ4
  have N4 := Fr.app N2 Nq4
  have Z4 : n0 ≤ T4.heap.size := Nat.le_trans Z3 Kq4.1
  have SZ4 : h0.size ≤ T4.heap.size := Nat.le_trans SZ3 Kq4.1
  have S0_4 := own_Sta_keep (Sta.ext E3 S0_2) Kq4 (allS (own_ns_exa A3) all0)
  refine own_trans st4 ?_
  show own_Ends p e below F (T4.setTop (mkF m 15 #[.val (.ref a)] [(.ref a3), (.ref a1), (.ref a)]))
  obtain ⟨T5, h5, X5, e5, E5, A5, D5, -, st5⟩ := newO X4 hx hZ hown (own_g hw 6 rfl) (own_g hw 7 rfl) (own_g hw 8 rfl) rfl (g := (mkF m 15 #[.val (.ref a)] [(.ref a3), (.ref a1), (.ref a)])) rfl (hb hby d1_15) (by decide) (by decide)
  obtain ⟨a5, g5⟩ : ∃ z, z = T4.heap.size := ⟨_, rfl⟩
  rw [← g5] at A5 D5 st5
  have ge_a5 : n0 ≤ a5 := Nat.le_trans Z4 (Nat.le_of_eq g5.symm)
  have sz_a5 : h0.size ≤ a5 := Nat.le_trans SZ4 (Nat.le_of_eq g5.symm)
  have ne_a_a5 : a ≠ a5 := Nat.ne_of_lt (by rw [g5]; exact ((((EX.ext E1).keep Kq2).ext E3).keep Kq4).lt)
  have ne_a1_a5 : a1 ≠ a5 := Nat.ne_of_lt (by rw [g5]; exact ((fq1_2.ext E3).keep Kq4 (ninS ne_a1_a3 nin0)).lt)
  have ne_a3_a5 : a3 ≠ a5 := Nat.ne_of_lt (by rw [g5]; exact fq1_4.lt)
  have Z5 : n0 ≤ h5.size := Nat.le_trans Z4 E5.1
  have SZ5 : h0.size ≤ h5.size := Nat.le_trans SZ4 E5.1
  have F5_values : Fld Z h5 a5 "com/example/concept_reasoner/conceptreasoner/completion/IntList" "values" "[I" .null := D5 (Or.inl (own_g hw 18 rfl)) (ty := (.array .int)) (by decide)
  have F5_size : Fld Z h5 a5 "com/example/concept_reasoner/conceptreasoner/completion/IntList" "size" "I" (.int (0 : Int32)) := D5 (Or.inl (own_g hw 45 rfl)) (ty := .int) (by decide)
  refine own_step st5 ?_
  show own_Ends p e below F (T5.setTop (mkF m 18 #[.val (.ref a)] [(.ref a5), (.ref a3), (.ref a1), (.ref a)]))
  refine own_step (fun _ k => XS.dup X5.here hx rfl (hb hby d1_18) rfl rfl k) ?_
  show own_Ends p e below F (T5.setTop (mkF m 19 #[.val (.ref a)] [(.ref a5), (.ref a5), (.ref a3), (.ref a1), (.ref a)]))
  obtain ⟨_, _, ⟨T6, L6, k6, n6⟩, -, X6, ⟨Lc6, hQ6, l6, y6, z6⟩, st6⟩ := X5.specialBack hx (y := (⟨"com/example/concept_reasoner/conceptreasoner/completion/IntList", "<init>", "()V"⟩ : MethodName)) rfl hown (mvT hZ (own_g hw 9 rfl)) (mvT hZ (own_g hw 10 rfl)) (mvT hZ (own_g hw 11 rfl)) (by decide) (backOf (W := 4) (rm2 l Z a0 hw [] a5 nn h5 n0 Z5 A5 ge_a5 F5_values F5_size (Sta.ext E5 S0_4)) hZ (own_g hw 11 rfl) (own_g hw 8 rfl) (by decide) (by decide)) (g := (mkF m 19 #[.val (.ref a)] [(.ref a5), (.ref a5), (.ref a3), (.ref a1), (.ref a)])) rfl (by rw [hml]; rfl) (Steps.refl _) (a := a5) (argsL := []) (rest := [(.ref a5), (.ref a3), (.ref a1), (.ref a)]) (lenOf pd__28_29V rfl) rfl (by show 2 * 0 + _ ≤ _; exact Nat.le_of_eq rfl) (hb hby d1_19) (fun _ _ => ⟨rfl, e5, (by decide : 3 + 0 ≤ _), (by decide : 6 + 0 ≤ _)⟩)
  dsimp only [Pt.U, Pt.locs, Pt.cells, Pt.slots] at X6 l6 y6 z6 st6 hQ6
  subst l6 y6 z6
  obtain ⟨rfl, Nq6, Kq6, fq0_6, fq1_6, fq2_6⟩ := hQ6
  have N6 := Fr.app N4 Nq6
  have Z6 : n0 ≤ T6.heap.size := Nat.le_trans Z5 Kq6.1
  have SZ6 : h0.size ≤ T6.heap.size := Nat.le_trans SZ5 Kq6.1
  have S0_6 := own_Sta_keep (Sta.ext E5 S0_4) Kq6 (allS (own_ns_exa A5) all0)
  refine own_trans st6 ?_
  show own_Ends p e below F (T6.setTop (mkF m 22 #[.val (.ref a)] [(.ref a5), (.ref a3), (.ref a1), (.ref a)]))
  obtain ⟨_, _, ⟨T7, L7, k7, n7⟩, -, X7, ⟨Lc7, hQ7, l7, y7, z7⟩, st7⟩ := X6.specialBack hx (y := (⟨"com/example/concept_reasoner/conceptreasoner/completion/Axioms$LeftOf", "<init>", "(Lcom/example/concept_reasoner/conceptreasoner/completion/IntList;Lcom/example/concept_reasoner/conceptreasoner/completion/IntList;Lcom/example/concept_reasoner/conceptreasoner/completion/IntList;)V"⟩ : MethodName)) rfl hown (mvT hZ (own_g hw 19 rfl)) (mvT hZ (own_g hw 20 rfl)) (mvT hZ (own_g hw 21 rfl)) (by decide) (backOf (W := 0) (rm4 l Z a0 hw [] a a1 a3 a5 T6.heap n0 Z6 ((((((EX.ext E1).keep Kq2).ext E3).keep Kq4).ext E5).keep Kq6) ge ((((((F_implied.ext E1).keep Kq2 (ninS ne_a_a1 nin0)).ext E3).keep Kq4 (ninS ne_a_a3 nin0)).ext E5).keep Kq6 (ninS ne_a_a5 nin0)) ((((((F_existentials.ext E1).keep Kq2 (ninS ne_a_a1 nin0)).ext E3).keep Kq4 (ninS ne_a_a3 nin0)).ext E5).keep Kq6 (ninS ne_a_a5 nin0)) ((((((F_disjointnesses.ext E1).keep Kq2 (ninS ne_a_a1 nin0)).ext E3).keep Kq4 (ninS ne_a_a3 nin0)).ext E5).keep Kq6 (ninS ne_a_a5 nin0))) hZ (own_g hw 21 rfl) (own_g hw 2 rfl) (by decide) (by decide)) (g := (mkF m 22 #[.val (.ref a)] [(.ref a5), (.ref a3), (.ref a1), (.ref a)])) rfl (by rw [hml]; rfl) (Steps.refl _) (a := a) (argsL := [(.ref a1), (.ref a3), (.ref a5)]) (rest := []) (lenOf pd__28Lcom_2fexample_2fconcept_reasoner_2fconceptreasoner_2fcompletion_2fIntList_3bLcom_2fexample_2fconcept_reasoner_2fconceptreasoner_2fcompletion_2fIntList_3bLcom_2fexample_2fconcept_reasoner_2fconceptreasoner_2fcompletion_2fIntList_3b_29V rfl) rfl (by show 2 * 0 + _ ≤ _; exact Nat.le_of_eq rfl) (hb hby d1_22) (fun _ _ => ⟨rfl, rfl, (by decide : 3 + 0 ≤ _), (by decide : 6 + 0 ≤ _)⟩)
  dsimp only [Pt.U, Pt.locs, Pt.cells, Pt.slots] at X7 l7 y7 z7 st7 hQ7
  subst l7 y7 z7
  obtain ⟨rfl, Nq7, Kq7, fq0_7, fq1_7, fq2_7, fq3_7⟩ := hQ7
  have N7 := Fr.app N6 Nq7
  have Z7 : n0 ≤ T7.heap.size := Nat.le_trans Z6 Kq7.1
  have SZ7 : h0.size ≤ T7.heap.size := Nat.le_trans SZ6 Kq7.1
  have S0_7 := own_Sta_keep S0_6 Kq7 (allS (own_ns_exa ((((((EX.ext E1).keep Kq2).ext E3).keep Kq4).ext E5).keep Kq6)) all0)
  refine own_trans st7 ?_
  show own_Ends p e below F (T7.setTop (mkF m 25 #[.val (.ref a)] []))
  rw [hF]
  exact own_ret X7 (v := none) (fun _ => rfl) Bd.notSynchronized (fun fs hr => X7.returnOut hx Bd.returns (hb hby d1_25) hr) (by decide) (by decide) (by exact ⟨_, _, _, rfl, N7, ((Keep.trans (Keep.trans (Keep.ext (Keep.trans (Keep.ext (Keep.trans (Keep.ext (Keep.refl _ _) E1) Kq2 (allS (Or.inr sz_a1) all0)) E3) Kq4 (allS (Or.inr sz_a3) all0)) E5) Kq6 (allS (Or.inr sz_a5) all0)) Kq7 (allS (Or.inl (List.mem_of_getElem? (i := 0) rfl)) all0)) : Keep h0 T7.heap [a]), sz_a1, sz_a3, sz_a5, ne_a1_a3, ne_a1_a5, ne_a3_a5, fq0_7, fq1_7, fq2_7, fq3_7, (((((fq0_2.ext E3).keep Kq4).ext E5).keep Kq6).keep Kq7), (((((fq2_2.ext E3).keep Kq4 (ninS ne_a1_a3 nin0)).ext E5).keep Kq6 (ninS ne_a1_a5 nin0)).keep Kq7 (ninS (Ne.symm ne_a_a1) nin0)), (((((fq1_2.ext E3).keep Kq4 (ninS ne_a1_a3 nin0)).ext E5).keep Kq6 (ninS ne_a1_a5 nin0)).keep Kq7 (ninS (Ne.symm ne_a_a1) nin0)), (((fq0_4.ext E5).keep Kq6).keep Kq7), (((fq2_4.ext E5).keep Kq6 (ninS ne_a3_a5 nin0)).keep Kq7 (ninS (Ne.symm ne_a_a3) nin0)), (((fq1_4.ext E5).keep Kq6 (ninS ne_a3_a5 nin0)).keep Kq7 (ninS (Ne.symm ne_a_a3) nin0)), (fq0_6.keep Kq7), (fq2_6.keep Kq7 (ninS (Ne.symm ne_a_a5) nin0)), (fq1_6.keep Kq7 (ninS (Ne.symm ne_a_a5) nin0))⟩)

theorem d6_0 : decode prog_14_method_3_code 0 = .ok (.aload_n 0, 1) := by decide +kernel
theorem d6_1 : decode prog_14_method_3_code 1 = .ok (.getfield 7, 3) := by decide +kernel
theorem d6_4 : decode prog_14_method_3_code 4 = .ok (.invokevirtual 25, 3) := by decide +kernel
theorem d6_7 : decode prog_14_method_3_code 7 = .ok (.ifCond .eq 27, 3) := by decide +kernel
theorem d6_10 : decode prog_14_method_3_code 10 = .ok (.aload_n 0, 1) := by decide +kernel
theorem d6_11 : decode prog_14_method_3_code 11 = .ok (.getfield 13, 3) := by decide +kernel
theorem d6_14 : decode prog_14_method_3_code 14 = .ok (.invokevirtual 25, 3) := by decide +kernel
theorem d6_17 : decode prog_14_method_3_code 17 = .ok (.ifCond .eq 17, 3) := by decide +kernel
theorem d6_20 : decode prog_14_method_3_code 20 = .ok (.aload_n 0, 1) := by decide +kernel
theorem d6_21 : decode prog_14_method_3_code 21 = .ok (.getfield 16, 3) := by decide +kernel
theorem d6_24 : decode prog_14_method_3_code 24 = .ok (.invokevirtual 25, 3) := by decide +kernel
theorem d6_27 : decode prog_14_method_3_code 27 = .ok (.ifCond .eq 7, 3) := by decide +kernel
theorem d6_30 : decode prog_14_method_3_code 30 = .ok (.iconst 1, 1) := by decide +kernel
theorem d6_31 : decode prog_14_method_3_code 31 = .ok (.goto 4, 3) := by decide +kernel
theorem d6_34 : decode prog_14_method_3_code 34 = .ok (.iconst 0, 1) := by decide +kernel
theorem d6_35 : decode prog_14_method_3_code 35 = .ok (.ireturn, 1) := by decide +kernel
theorem pd__28_29Z : parseMethodDescriptor "()Z" = some ⟨[], some .boolean⟩ := by decide +kernel
theorem ef_rm6 (m : MethodId) (x0 : Addr) : entryFrame m #[(.ref x0)] 1 = mkF m 0 #[.val (.ref x0)] [] := by first | (simp [entryFrame, mkF, argsToLocals, Value.category, maxLocals]; done) | rfl
def Q6 (Z : State) (a b g d : Addr) (z1 z2 z3 : Int32) (h0 : Heap) (n0 : Nat) (v : Option Value) (h : Heap) (L : List Loc) : Prop := v = some (.int (own_emp3 z1 z2 z3)) ∧ Fr n0 L ∧ h = h0
set_option maxRecDepth 65536 in
set_option maxHeartbeats 40000000 in
theorem rm6 (l : Launch) (Z : State) (a0 : Array Value) (hw : ∀ d ∈ tables_1, d.before a0 Z = true) (ws : List Jvm.Cond) (a b g d : Addr) (z1 z2 z3 : Int32) (h0 : Heap) (n0 : Nat) (Z0 : n0 ≤ h0.size) (F_implied : Fld Z h0 a "com/example/concept_reasoner/conceptreasoner/completion/Axioms$LeftOf" "implied" "Lcom/example/concept_reasoner/conceptreasoner/completion/IntList;" (.ref b)) (EX_b : Exa Z h0 b "com/example/concept_reasoner/conceptreasoner/completion/IntList") (FS_b : Fld Z h0 b "com/example/concept_reasoner/conceptreasoner/completion/IntList" "size" "I" (.int z1)) (F_existentials : Fld Z h0 a "com/example/concept_reasoner/conceptreasoner/completion/Axioms$LeftOf" "existentials" "Lcom/example/concept_reasoner/conceptreasoner/completion/IntList;" (.ref g)) (EX_g : Exa Z h0 g "com/example/concept_reasoner/conceptreasoner/completion/IntList") (FS_g : Fld Z h0 g "com/example/concept_reasoner/conceptreasoner/completion/IntList" "size" "I" (.int z2)) (F_disjointnesses : Fld Z h0 a "com/example/concept_reasoner/conceptreasoner/completion/Axioms$LeftOf" "disjointnesses" "Lcom/example/concept_reasoner/conceptreasoner/completion/IntList;" (.ref d)) (EX_d : Exa Z h0 d "com/example/concept_reasoner/conceptreasoner/completion/IntList") (FS_d : Fld Z h0 d "com/example/concept_reasoner/conceptreasoner/completion/IntList" "size" "I" (.int z3)) :
    MetFree l (⟨"com/example/concept_reasoner/conceptreasoner/completion/Axioms$LeftOf", "isEmpty", "()Z"⟩ : MethodName) (head1 (Jvm.Cond.code (⟨"com/example/concept_reasoner/conceptreasoner/completion/Axioms$LeftOf", "isEmpty", "()Z"⟩ : MethodName) prog_14_method_3_code 1 (some .boolean) :: ws) ({ frames := 1, cells := 0, slots := 0, locals := 12 } : Room)) (fun ar U => ar = #[(.ref a)] ∧ Z.Warmed39 U.vm ∧ U.heap = h0) (fun _ _ _ _ _ => True) (fun _ U o U' => ∃ v L, o = .returned v ∧ Q6 Z a b g d z1 z2 z3 h0 n0 v U'.heap L ∧ FrameEnd U o U' L ({ frames := 1, cells := 0, slots := 0, locals := 12 } : Room).cells ({ frames := 1, cells := 0, slots := 0, locals := 12 } : Room).slots) := by
  refine MetFree.of_bodySF (plainFor_of_name pn_com_example_concept_reasoner_conceptreasoner_completion_Axioms_LeftOf) hisR ?_
  intro p e s m args below meth c s₁ Bd hml0 hP hK
  obtain ⟨rfl, hZ, hh⟩ := hP
  have hx := Bd.exec
  have hby := Bd.bytes
  have hml : c.maxLocals = 1 := hml0
  have hown : s.vm.findClass "com/example/concept_reasoner/conceptreasoner/completion/Axioms$LeftOf" = some m.cls := findClass_of_methodNamed Bd.named
  have hnm := (name_of_methodNamed Bd.named Bd.method).1
  have X0 : Stand p l e ({ frames := 1, cells := 0, slots := 0, locals := 12 } : Room) s m #[(.ref a)] below meth c s₁ [] 0 0 := Stand.of_body Bd
  have e0 : s₁.heap = h0 := by rw [← hh, Bd.state]; rfl
  have N0 := Fr.nil n0
  obtain ⟨F, hF⟩ : ∃ F, F = own_Fin s (Q6 Z a b g d z1 z2 z3 h0 n0) ({ frames := 1, cells := 0, slots := 0, locals := 12 } : Room).cells ({ frames := 1, cells := 0, slots := 0, locals := 12 } : Room).slots := ⟨_, rfl⟩
  show own_Ends p e below (own_Fin s (Q6 Z a b g d z1 z2 z3 h0 n0) ({ frames := 1, cells := 0, slots := 0, locals := 12 } : Room).cells ({ frames := 1, cells := 0, slots := 0, locals := 12 } : Room).slots) _
  rw [← hF, ef_rm6 m a]
  show own_Ends p e below F (s₁.setTop (mkF m 0 #[.val (.ref a)] []))
  refine own_step (fun _ k => XS.aloadN X0.here hx rfl (hb hby d6_0) rfl rfl k) ?_
  show own_Ends p e below F (s₁.setTop (mkF m 1 #[.val (.ref a)] [(.ref a)]))
  obtain ⟨T1, X1, e1, st1⟩ := getF X0 hx hZ hown (host := "") (Or.inl (own_g hw 28 rfl)) Via.refl e0 F_implied (g := (mkF m 1 #[.val (.ref a)] [(.ref a)])) rfl rfl (hb hby d6_1)
  refine own_step st1 ?_
  show own_Ends p e below F (T1.setTop (mkF m 4 #[.val (.ref a)] [(.ref b)]))
  obtain ⟨cq2, kq2, qa2, qb2, qc2⟩ := isOf hZ e1 EX_b
  obtain ⟨_, _, ⟨T2, L2, k2, n2⟩, -, X2, ⟨Lc2, hQ2, l2, y2, z2⟩, st2⟩ := X1.virtualBack hx (y := (⟨"com/example/concept_reasoner/conceptreasoner/completion/IntList", "isEmpty", "()Z"⟩ : MethodName)) (z := (⟨"com/example/concept_reasoner/conceptreasoner/completion/IntList", "isEmpty", "()Z"⟩ : MethodName)) hown (mvT hZ (own_g hw 39 rfl)) (mvT hZ (own_g hw 40 rfl)) (notFace_of_selects (args := #[]) (mvT hZ (own_g hw 42 rfl))) (mvT hZ (own_g hw 42 rfl)) (mvT hZ (own_g hw 41 rfl)) (by decide) (backOf (W := 0) (rm7 l Z a0 hw [] b z1 h0 n0 Z0 FS_b) hZ (own_g hw 43 rfl) (own_g hw 8 rfl) (by decide) (by decide)) qa2 qc2 (g := (mkF m 4 #[.val (.ref a)] [(.ref b)])) rfl (by rw [hml]; rfl) (Steps.refl _) (argsL := []) (rest := []) (lenOf pd__28_29Z rfl) rfl (by show 2 * 0 + _ ≤ _; exact Nat.le_of_eq rfl) (hb hby d6_4) (fun _ _ => ⟨rfl, e1, (by decide : 0 + 0 ≤ _), (by decide : 0 + 0 ≤ _)⟩)
  dsimp only [Pt.U, Pt.locs, Pt.cells, Pt.slots] at X2 l2 y2 z2 st2 hQ2
  subst l2 y2 z2
  obtain ⟨rfl, Nq2, eq2⟩ := hQ2
  have N2 := Fr.app N0 Nq2
  refine own_trans st2 ?_
  show own_Ends p e below F (T2.setTop (mkF m 7 #[.val (.ref a)] [(.int (own_emp z1))]))
  by_cases c7_3 : (own_emp z1) = (0 : Int32)
  · refine own_step (fun _ k => XS.ifYes X2.here hx rfl (pc0 := 7) (pc' := 34) rfl (hb hby d6_7) rfl ((if0 _ _).trans (teq c7_3).1) (by decide) (by decide) k) ?_
    show own_Ends p e below F (T2.setTop (mkF m 34 #[.val (.ref a)] []))
    refine own_step (fun _ k => XS.iconst X2.here hx rfl (hb hby d6_34) k) ?_
    show own_Ends p e below F (T2.setTop (mkF m 35 #[.val (.ref a)] [(.int (0 : Int32))]))
    rw [hF]
    exact own_ret X2 (v := (some (.int (nar .boolean (0 : Int32))))) (fun h => by rw [Bd.returns] at h; cases h) Bd.notSynchronized (fun fs hr => retN X2 hx (t := .boolean) Bd.returns (by simp) (hb hby d6_35) hr) (by decide) (by decide) (by rw [eq2]; exact ⟨by simp only [own_emp3, c7_3, if_true, if_false]; rfl, N2, rfl⟩)
  · refine own_step (fun _ k => XS.ifNo X2.here hx rfl (hb hby d6_7) rfl ((if0 _ _).trans (feq c7_3).1) k) ?_
    show own_Ends p e below F (T2.setTop (mkF m 10 #[.val (.ref a)] []))
    refine own_step (fun _ k => XS.aloadN X2.here hx rfl (hb hby d6_10) rfl rfl k) ?_
    show own_Ends p e below F (T2.setTop (mkF m 11 #[.val (.ref a)] [(.ref a)]))
    obtain ⟨T4, X4, e4, st4⟩ := getF X2 hx hZ hown (host := "") (Or.inl (own_g hw 30 rfl)) Via.refl eq2 F_existentials (g := (mkF m 11 #[.val (.ref a)] [(.ref a)])) rfl rfl (hb hby d6_11)
    refine own_step st4 ?_
    show own_Ends p e below F (T4.setTop (mkF m 14 #[.val (.ref a)] [(.ref g)]))
    obtain ⟨cq5, kq5, qa5, qb5, qc5⟩ := isOf hZ e4 EX_g
    obtain ⟨_, _, ⟨T5, L5, k5, n5⟩, -, X5, ⟨Lc5, hQ5, l5, y5, z5⟩, st5⟩ := X4.virtualBack hx (y := (⟨"com/example/concept_reasoner/conceptreasoner/completion/IntList", "isEmpty", "()Z"⟩ : MethodName)) (z := (⟨"com/example/concept_reasoner/conceptreasoner/completion/IntList", "isEmpty", "()Z"⟩ : MethodName)) hown (mvT hZ (own_g hw 39 rfl)) (mvT hZ (own_g hw 40 rfl)) (notFace_of_selects (args := #[]) (mvT hZ (own_g hw 42 rfl))) (mvT hZ (own_g hw 42 rfl)) (mvT hZ (own_g hw 41 rfl)) (by decide) (backOf (W := 0) (rm7 l Z a0 hw [] g z2 h0 n0 Z0 FS_g) hZ (own_g hw 43 rfl) (own_g hw 8 rfl) (by decide) (by decide)) qa5 qc5 (g := (mkF m 14 #[.val (.ref a)] [(.ref g)])) rfl (by rw [hml]; rfl) (Steps.refl _) (argsL := []) (rest := []) (lenOf pd__28_29Z rfl) rfl (by show 2 * 0 + _ ≤ _; exact Nat.le_of_eq rfl) (hb hby d6_14) (fun _ _ => ⟨rfl, e4, (by decide : 0 + 0 ≤ _), (by decide : 0 + 0 ≤ _)⟩)
    dsimp only [Pt.U, Pt.locs, Pt.cells, Pt.slots] at X5 l5 y5 z5 st5 hQ5
    subst l5 y5 z5
    obtain ⟨rfl, Nq5, eq5⟩ := hQ5
    have N5 := Fr.app N2 Nq5
    refine own_trans st5 ?_
    show own_Ends p e below F (T5.setTop (mkF m 17 #[.val (.ref a)] [(.int (own_emp z2))]))
    by_cases c17_6 : (own_emp z2) = (0 : Int32)
    · refine own_step (fun _ k => XS.ifYes X5.here hx rfl (pc0 := 17) (pc' := 34) rfl (hb hby d6_17) rfl ((if0 _ _).trans (teq c17_6).1) (by decide) (by decide) k) ?_
      show own_Ends p e below F (T5.setTop (mkF m 34 #[.val (.ref a)] []))
      refine own_step (fun _ k => XS.iconst X5.here hx rfl (hb hby d6_34) k) ?_
      show own_Ends p e below F (T5.setTop (mkF m 35 #[.val (.ref a)] [(.int (0 : Int32))]))
      rw [hF]
      exact own_ret X5 (v := (some (.int (nar .boolean (0 : Int32))))) (fun h => by rw [Bd.returns] at h; cases h) Bd.notSynchronized (fun fs hr => retN X5 hx (t := .boolean) Bd.returns (by simp) (hb hby d6_35) hr) (by decide) (by decide) (by rw [eq5]; exact ⟨by simp only [own_emp3, c7_3, c17_6, if_true, if_false]; rfl, N5, rfl⟩)
    · refine own_step (fun _ k => XS.ifNo X5.here hx rfl (hb hby d6_17) rfl ((if0 _ _).trans (feq c17_6).1) k) ?_
      show own_Ends p e below F (T5.setTop (mkF m 20 #[.val (.ref a)] []))
      refine own_step (fun _ k => XS.aloadN X5.here hx rfl (hb hby d6_20) rfl rfl k) ?_
      show own_Ends p e below F (T5.setTop (mkF m 21 #[.val (.ref a)] [(.ref a)]))
      obtain ⟨T7, X7, e7, st7⟩ := getF X5 hx hZ hown (host := "") (Or.inl (own_g hw 32 rfl)) Via.refl eq5 F_disjointnesses (g := (mkF m 21 #[.val (.ref a)] [(.ref a)])) rfl rfl (hb hby d6_21)
      refine own_step st7 ?_
      show own_Ends p e below F (T7.setTop (mkF m 24 #[.val (.ref a)] [(.ref d)]))
      obtain ⟨cq8, kq8, qa8, qb8, qc8⟩ := isOf hZ e7 EX_d
      obtain ⟨_, _, ⟨T8, L8, k8, n8⟩, -, X8, ⟨Lc8, hQ8, l8, y8, z8⟩, st8⟩ := X7.virtualBack hx (y := (⟨"com/example/concept_reasoner/conceptreasoner/completion/IntList", "isEmpty", "()Z"⟩ : MethodName)) (z := (⟨"com/example/concept_reasoner/conceptreasoner/completion/IntList", "isEmpty", "()Z"⟩ : MethodName)) hown (mvT hZ (own_g hw 39 rfl)) (mvT hZ (own_g hw 40 rfl)) (notFace_of_selects (args := #[]) (mvT hZ (own_g hw 42 rfl))) (mvT hZ (own_g hw 42 rfl)) (mvT hZ (own_g hw 41 rfl)) (by decide) (backOf (W := 0) (rm7 l Z a0 hw [] d z3 h0 n0 Z0 FS_d) hZ (own_g hw 43 rfl) (own_g hw 8 rfl) (by decide) (by decide)) qa8 qc8 (g := (mkF m 24 #[.val (.ref a)] [(.ref d)])) rfl (by rw [hml]; rfl) (Steps.refl _) (argsL := []) (rest := []) (lenOf pd__28_29Z rfl) rfl (by show 2 * 0 + _ ≤ _; exact Nat.le_of_eq rfl) (hb hby d6_24) (fun _ _ => ⟨rfl, e7, (by decide : 0 + 0 ≤ _), (by decide : 0 + 0 ≤ _)⟩)
      dsimp only [Pt.U, Pt.locs, Pt.cells, Pt.slots] at X8 l8 y8 z8 st8 hQ8
      subst l8 y8 z8
      obtain ⟨rfl, Nq8, eq8⟩ := hQ8
      have N8 := Fr.app N5 Nq8
      refine own_trans st8 ?_
      show own_Ends p e below F (T8.setTop (mkF m 27 #[.val (.ref a)] [(.int (own_emp z3))]))
      by_cases c27_9 : (own_emp z3) = (0 : Int32)
      · refine own_step (fun _ k => XS.ifYes X8.here hx rfl (pc0 := 27) (pc' := 34) rfl (hb hby d6_27) rfl ((if0 _ _).trans (teq c27_9).1) (by decide) (by decide) k) ?_
        show own_Ends p e below F (T8.setTop (mkF m 34 #[.val (.ref a)] []))
        refine own_step (fun _ k => XS.iconst X8.here hx rfl (hb hby d6_34) k) ?_
        show own_Ends p e below F (T8.setTop (mkF m 35 #[.val (.ref a)] [(.int (0 : Int32))]))
        rw [hF]
        exact own_ret X8 (v := (some (.int (nar .boolean (0 : Int32))))) (fun h => by rw [Bd.returns] at h; cases h) Bd.notSynchronized (fun fs hr => retN X8 hx (t := .boolean) Bd.returns (by simp) (hb hby d6_35) hr) (by decide) (by decide) (by rw [eq8]; exact ⟨by simp only [own_emp3, c7_3, c17_6, c27_9, if_true, if_false]; rfl, N8, rfl⟩)
      · refine own_step (fun _ k => XS.ifNo X8.here hx rfl (hb hby d6_27) rfl ((if0 _ _).trans (feq c27_9).1) k) ?_
        show own_Ends p e below F (T8.setTop (mkF m 30 #[.val (.ref a)] []))
        refine own_step (fun _ k => XS.iconst X8.here hx rfl (hb hby d6_30) k) ?_
        show own_Ends p e below F (T8.setTop (mkF m 31 #[.val (.ref a)] [(.int (1 : Int32))]))
        refine own_step (fun _ k => XS.goto X8.here hx rfl (pc0 := 31) (pc' := 35) rfl (hb hby d6_31) (by decide) (by decide) k) ?_
        show own_Ends p e below F (T8.setTop (mkF m 35 #[.val (.ref a)] [(.int (1 : Int32))]))
        rw [hF]
        exact own_ret X8 (v := (some (.int (nar .boolean (1 : Int32))))) (fun h => by rw [Bd.returns] at h; cases h) Bd.notSynchronized (fun fs hr => retN X8 hx (t := .boolean) Bd.returns (by simp) (hb hby d6_35) hr) (by decide) (by decide) (by rw [eq8]; exact ⟨by simp only [own_emp3, c7_3, c17_6, c27_9, if_true, if_false]; rfl, N8, rfl⟩)

theorem d8_0 : decode prog_14_method_7_code 0 = .ok (.aload_n 0, 1) := by decide +kernel
theorem d8_1 : decode prog_14_method_7_code 1 = .ok (.getfield 7, 3) := by decide +kernel
theorem d8_4 : decode prog_14_method_7_code 4 = .ok (.areturn, 1) := by decide +kernel
theorem ef_rm8 (m : MethodId) (x0 : Addr) : entryFrame m #[(.ref x0)] 1 = mkF m 0 #[.val (.ref x0)] [] := by first | (simp [entryFrame, mkF, argsToLocals, Value.category, maxLocals]; done) | rfl
def Q8 (Z : State) (a b : Addr) (h0 : Heap) (n0 : Nat) (v : Option Value) (h : Heap) (L : List Loc) : Prop := v = some (.ref b) ∧ Fr n0 L ∧ h = h0
set_option maxRecDepth 65536 in
set_option maxHeartbeats 40000000 in
theorem rm8 (l : Launch) (Z : State) (a0 : Array Value) (hw : ∀ d ∈ tables_1, d.before a0 Z = true) (ws : List Jvm.Cond) (a b : Addr) (h0 : Heap) (n0 : Nat) (Z0 : n0 ≤ h0.size) (FF : Fld Z h0 a "com/example/concept_reasoner/conceptreasoner/completion/Axioms$LeftOf" "implied" "Lcom/example/concept_reasoner/conceptreasoner/completion/IntList;" (.ref b)) :
    MetFree l (⟨"com/example/concept_reasoner/conceptreasoner/completion/Axioms$LeftOf", "implied", "()Lcom/example/concept_reasoner/conceptreasoner/completion/IntList;"⟩ : MethodName) (head1 (Jvm.Cond.code (⟨"com/example/concept_reasoner/conceptreasoner/completion/Axioms$LeftOf", "implied", "()Lcom/example/concept_reasoner/conceptreasoner/completion/IntList;"⟩ : MethodName) prog_14_method_7_code 1 (some (.object "com/example/concept_reasoner/conceptreasoner/completion/IntList")) :: ws) ({ frames := 0, cells := 0, slots := 0, locals := 0 } : Room)) (fun ar U => ar = #[(.ref a)] ∧ Z.Warmed39 U.vm ∧ U.heap = h0) (fun _ _ _ _ _ => True) (fun _ U o U' => ∃ v L, o = .returned v ∧ Q8 Z a b h0 n0 v U'.heap L ∧ FrameEnd U o U' L ({ frames := 0, cells := 0, slots := 0, locals := 0 } : Room).cells ({ frames := 0, cells := 0, slots := 0, locals := 0 } : Room).slots) := by
  refine MetFree.of_bodySF (plainFor_of_name pn_com_example_concept_reasoner_conceptreasoner_completion_Axioms_LeftOf) hisR ?_
  intro p e s m args below meth c s₁ Bd hml0 hP hK
  obtain ⟨rfl, hZ, hh⟩ := hP
  have hx := Bd.exec
  have hby := Bd.bytes
  have hml : c.maxLocals = 1 := hml0
  have hown : s.vm.findClass "com/example/concept_reasoner/conceptreasoner/completion/Axioms$LeftOf" = some m.cls := findClass_of_methodNamed Bd.named
  have hnm := (name_of_methodNamed Bd.named Bd.method).1
  have X0 : Stand p l e ({ frames := 0, cells := 0, slots := 0, locals := 0 } : Room) s m #[(.ref a)] below meth c s₁ [] 0 0 := Stand.of_body Bd
  have e0 : s₁.heap = h0 := by rw [← hh, Bd.state]; rfl
  have N0 := Fr.nil n0
  obtain ⟨F, hF⟩ : ∃ F, F = own_Fin s (Q8 Z a b h0 n0) ({ frames := 0, cells := 0, slots := 0, locals := 0 } : Room).cells ({ frames := 0, cells := 0, slots := 0, locals := 0 } : Room).slots := ⟨_, rfl⟩
  show own_Ends p e below (own_Fin s (Q8 Z a b h0 n0) ({ frames := 0, cells := 0, slots := 0, locals := 0 } : Room).cells ({ frames := 0, cells := 0, slots := 0, locals := 0 } : Room).slots) _
  rw [← hF, ef_rm8 m a]
  show own_Ends p e below F (s₁.setTop (mkF m 0 #[.val (.ref a)] []))
  refine own_step (fun _ k => XS.aloadN X0.here hx rfl (hb hby d8_0) rfl rfl k) ?_
  show own_Ends p e below F (s₁.setTop (mkF m 1 #[.val (.ref a)] [(.ref a)]))
  obtain ⟨T1, X1, e1, st1⟩ := getF X0 hx hZ hown (host := "") (Or.inl (own_g hw 28 rfl)) Via.refl e0 FF (g := (mkF m 1 #[.val (.ref a)] [(.ref a)])) rfl rfl (hb hby d8_1)
  refine own_step st1 ?_
  show own_Ends p e below F (T1.setTop (mkF m 4 #[.val (.ref a)] [(.ref b)]))
  rw [hF]
  exact own_ret X1 (v := (some (.ref b))) (fun h => by rw [Bd.returns] at h; cases h) Bd.notSynchronized (fun fs hr => retOut X1 hx (t := (.object "com/example/concept_reasoner/conceptreasoner/completion/IntList")) (w := (.ref b)) (i := .areturn) Bd.returns rfl (Or.inr (Or.inr (Or.inr (Or.inr ⟨rfl, rfl, rfl⟩)))) (hb hby d8_4) hr) (by decide) (by decide) (by rw [e1]; exact ⟨rfl, N0, rfl⟩)

theorem d13_0 : decode prog_14_method_8_code 0 = .ok (.aload_n 0, 1) := by decide +kernel
theorem d13_1 : decode prog_14_method_8_code 1 = .ok (.getfield 13, 3) := by decide +kernel
theorem d13_4 : decode prog_14_method_8_code 4 = .ok (.areturn, 1) := by decide +kernel
theorem ef_rm13 (m : MethodId) (x0 : Addr) : entryFrame m #[(.ref x0)] 1 = mkF m 0 #[.val (.ref x0)] [] := by first | (simp [entryFrame, mkF, argsToLocals, Value.category, maxLocals]; done) | rfl
def Q13 (Z : State) (a b : Addr) (h0 : Heap) (n0 : Nat) (v : Option Value) (h : Heap) (L : List Loc) : Prop := v = some (.ref b) ∧ Fr n0 L ∧ h = h0
set_option maxRecDepth 65536 in
set_option maxHeartbeats 40000000 in
theorem rm13 (l : Launch) (Z : State) (a0 : Array Value) (hw : ∀ d ∈ tables_1, d.before a0 Z = true) (ws : List Jvm.Cond) (a b : Addr) (h0 : Heap) (n0 : Nat) (Z0 : n0 ≤ h0.size) (FF : Fld Z h0 a "com/example/concept_reasoner/conceptreasoner/completion/Axioms$LeftOf" "existentials" "Lcom/example/concept_reasoner/conceptreasoner/completion/IntList;" (.ref b)) :
    MetFree l (⟨"com/example/concept_reasoner/conceptreasoner/completion/Axioms$LeftOf", "existentials", "()Lcom/example/concept_reasoner/conceptreasoner/completion/IntList;"⟩ : MethodName) (head1 (Jvm.Cond.code (⟨"com/example/concept_reasoner/conceptreasoner/completion/Axioms$LeftOf", "existentials", "()Lcom/example/concept_reasoner/conceptreasoner/completion/IntList;"⟩ : MethodName) prog_14_method_8_code 1 (some (.object "com/example/concept_reasoner/conceptreasoner/completion/IntList")) :: ws) ({ frames := 0, cells := 0, slots := 0, locals := 0 } : Room)) (fun ar U => ar = #[(.ref a)] ∧ Z.Warmed39 U.vm ∧ U.heap = h0) (fun _ _ _ _ _ => True) (fun _ U o U' => ∃ v L, o = .returned v ∧ Q13 Z a b h0 n0 v U'.heap L ∧ FrameEnd U o U' L ({ frames := 0, cells := 0, slots := 0, locals := 0 } : Room).cells ({ frames := 0, cells := 0, slots := 0, locals := 0 } : Room).slots) := by
  refine MetFree.of_bodySF (plainFor_of_name pn_com_example_concept_reasoner_conceptreasoner_completion_Axioms_LeftOf) hisR ?_
  intro p e s m args below meth c s₁ Bd hml0 hP hK
  obtain ⟨rfl, hZ, hh⟩ := hP
  have hx := Bd.exec
  have hby := Bd.bytes
  have hml : c.maxLocals = 1 := hml0
  have hown : s.vm.findClass "com/example/concept_reasoner/conceptreasoner/completion/Axioms$LeftOf" = some m.cls := findClass_of_methodNamed Bd.named
  have hnm := (name_of_methodNamed Bd.named Bd.method).1
  have X0 : Stand p l e ({ frames := 0, cells := 0, slots := 0, locals := 0 } : Room) s m #[(.ref a)] below meth c s₁ [] 0 0 := Stand.of_body Bd
  have e0 : s₁.heap = h0 := by rw [← hh, Bd.state]; rfl
  have N0 := Fr.nil n0
  obtain ⟨F, hF⟩ : ∃ F, F = own_Fin s (Q13 Z a b h0 n0) ({ frames := 0, cells := 0, slots := 0, locals := 0 } : Room).cells ({ frames := 0, cells := 0, slots := 0, locals := 0 } : Room).slots := ⟨_, rfl⟩
  show own_Ends p e below (own_Fin s (Q13 Z a b h0 n0) ({ frames := 0, cells := 0, slots := 0, locals := 0 } : Room).cells ({ frames := 0, cells := 0, slots := 0, locals := 0 } : Room).slots) _
  rw [← hF, ef_rm13 m a]
  show own_Ends p e below F (s₁.setTop (mkF m 0 #[.val (.ref a)] []))
  refine own_step (fun _ k => XS.aloadN X0.here hx rfl (hb hby d13_0) rfl rfl k) ?_
  show own_Ends p e below F (s₁.setTop (mkF m 1 #[.val (.ref a)] [(.ref a)]))
  obtain ⟨T1, X1, e1, st1⟩ := getF X0 hx hZ hown (host := "") (Or.inl (own_g hw 30 rfl)) Via.refl e0 FF (g := (mkF m 1 #[.val (.ref a)] [(.ref a)])) rfl rfl (hb hby d13_1)
  refine own_step st1 ?_
  show own_Ends p e below F (T1.setTop (mkF m 4 #[.val (.ref a)] [(.ref b)]))
  rw [hF]
  exact own_ret X1 (v := (some (.ref b))) (fun h => by rw [Bd.returns] at h; cases h) Bd.notSynchronized (fun fs hr => retOut X1 hx (t := (.object "com/example/concept_reasoner/conceptreasoner/completion/IntList")) (w := (.ref b)) (i := .areturn) Bd.returns rfl (Or.inr (Or.inr (Or.inr (Or.inr ⟨rfl, rfl, rfl⟩)))) (hb hby d13_4) hr) (by decide) (by decide) (by rw [e1]; exact ⟨rfl, N0, rfl⟩)

theorem d14_0 : decode prog_14_method_9_code 0 = .ok (.aload_n 0, 1) := by decide +kernel
theorem d14_1 : decode prog_14_method_9_code 1 = .ok (.getfield 16, 3) := by decide +kernel
theorem d14_4 : decode prog_14_method_9_code 4 = .ok (.areturn, 1) := by decide +kernel
theorem ef_rm14 (m : MethodId) (x0 : Addr) : entryFrame m #[(.ref x0)] 1 = mkF m 0 #[.val (.ref x0)] [] := by first | (simp [entryFrame, mkF, argsToLocals, Value.category, maxLocals]; done) | rfl
def Q14 (Z : State) (a b : Addr) (h0 : Heap) (n0 : Nat) (v : Option Value) (h : Heap) (L : List Loc) : Prop := v = some (.ref b) ∧ Fr n0 L ∧ h = h0
set_option maxRecDepth 65536 in
set_option maxHeartbeats 40000000 in
theorem rm14 (l : Launch) (Z : State) (a0 : Array Value) (hw : ∀ d ∈ tables_1, d.before a0 Z = true) (ws : List Jvm.Cond) (a b : Addr) (h0 : Heap) (n0 : Nat) (Z0 : n0 ≤ h0.size) (FF : Fld Z h0 a "com/example/concept_reasoner/conceptreasoner/completion/Axioms$LeftOf" "disjointnesses" "Lcom/example/concept_reasoner/conceptreasoner/completion/IntList;" (.ref b)) :
    MetFree l (⟨"com/example/concept_reasoner/conceptreasoner/completion/Axioms$LeftOf", "disjointnesses", "()Lcom/example/concept_reasoner/conceptreasoner/completion/IntList;"⟩ : MethodName) (head1 (Jvm.Cond.code (⟨"com/example/concept_reasoner/conceptreasoner/completion/Axioms$LeftOf", "disjointnesses", "()Lcom/example/concept_reasoner/conceptreasoner/completion/IntList;"⟩ : MethodName) prog_14_method_9_code 1 (some (.object "com/example/concept_reasoner/conceptreasoner/completion/IntList")) :: ws) ({ frames := 0, cells := 0, slots := 0, locals := 0 } : Room)) (fun ar U => ar = #[(.ref a)] ∧ Z.Warmed39 U.vm ∧ U.heap = h0) (fun _ _ _ _ _ => True) (fun _ U o U' => ∃ v L, o = .returned v ∧ Q14 Z a b h0 n0 v U'.heap L ∧ FrameEnd U o U' L ({ frames := 0, cells := 0, slots := 0, locals := 0 } : Room).cells ({ frames := 0, cells := 0, slots := 0, locals := 0 } : Room).slots) := by
  refine MetFree.of_bodySF (plainFor_of_name pn_com_example_concept_reasoner_conceptreasoner_completion_Axioms_LeftOf) hisR ?_
  intro p e s m args below meth c s₁ Bd hml0 hP hK
  obtain ⟨rfl, hZ, hh⟩ := hP
  have hx := Bd.exec
  have hby := Bd.bytes
  have hml : c.maxLocals = 1 := hml0
  have hown : s.vm.findClass "com/example/concept_reasoner/conceptreasoner/completion/Axioms$LeftOf" = some m.cls := findClass_of_methodNamed Bd.named
  have hnm := (name_of_methodNamed Bd.named Bd.method).1
  have X0 : Stand p l e ({ frames := 0, cells := 0, slots := 0, locals := 0 } : Room) s m #[(.ref a)] below meth c s₁ [] 0 0 := Stand.of_body Bd
  have e0 : s₁.heap = h0 := by rw [← hh, Bd.state]; rfl
  have N0 := Fr.nil n0
  obtain ⟨F, hF⟩ : ∃ F, F = own_Fin s (Q14 Z a b h0 n0) ({ frames := 0, cells := 0, slots := 0, locals := 0 } : Room).cells ({ frames := 0, cells := 0, slots := 0, locals := 0 } : Room).slots := ⟨_, rfl⟩
  show own_Ends p e below (own_Fin s (Q14 Z a b h0 n0) ({ frames := 0, cells := 0, slots := 0, locals := 0 } : Room).cells ({ frames := 0, cells := 0, slots := 0, locals := 0 } : Room).slots) _
  rw [← hF, ef_rm14 m a]
  show own_Ends p e below F (s₁.setTop (mkF m 0 #[.val (.ref a)] []))
  refine own_step (fun _ k => XS.aloadN X0.here hx rfl (hb hby d14_0) rfl rfl k) ?_
  show own_Ends p e below F (s₁.setTop (mkF m 1 #[.val (.ref a)] [(.ref a)]))
  obtain ⟨T1, X1, e1, st1⟩ := getF X0 hx hZ hown (host := "") (Or.inl (own_g hw 32 rfl)) Via.refl e0 FF (g := (mkF m 1 #[.val (.ref a)] [(.ref a)])) rfl rfl (hb hby d14_1)
  refine own_step st1 ?_
  show own_Ends p e below F (T1.setTop (mkF m 4 #[.val (.ref a)] [(.ref b)]))
  rw [hF]
  exact own_ret X1 (v := (some (.ref b))) (fun h => by rw [Bd.returns] at h; cases h) Bd.notSynchronized (fun fs hr => retOut X1 hx (t := (.object "com/example/concept_reasoner/conceptreasoner/completion/IntList")) (w := (.ref b)) (i := .areturn) Bd.returns rfl (Or.inr (Or.inr (Or.inr (Or.inr ⟨rfl, rfl, rfl⟩)))) (hb hby d14_4) hr) (by decide) (by decide) (by rw [e1]; exact ⟨rfl, N0, rfl⟩)

theorem pn_com_example_concept_reasoner_conceptreasoner_completion_LeftOfIsEmptyPinLaw : plainName "com/example/concept_reasoner/conceptreasoner/completion/LeftOfIsEmptyPinLaw" = true := by first | (simp [plainName, overriddenIn]; done) | decide +kernel
theorem pd__28_29Lcom_2fexample_2fconcept_reasoner_2fconceptreasoner_2fcompletion_2fIntList_3b : parseMethodDescriptor "()Lcom/example/concept_reasoner/conceptreasoner/completion/IntList;" = some ⟨[], some (.object "com/example/concept_reasoner/conceptreasoner/completion/IntList")⟩ := by decide +kernel
theorem pd__28I_29V : parseMethodDescriptor "(I)V" = some ⟨[.int], none⟩ := by decide +kernel
theorem ef_rm0 (m : MethodId) (x0 : Int32) (x1 : Int32) (x2 : Int32) (x3 : Int32) (x4 : Int32) : entryFrame m #[(.int x0), (.int x1), (.int x2), (.int x3), (.int x4)] maxLocals = mkF m 0 #[.val (.int x0), .val (.int x1), .val (.int x2), .val (.int x3), .val (.int x4), .unset, .unset, .unset, .unset, .unset, .unset] [] := by first | (simp [entryFrame, mkF, argsToLocals, Value.category, maxLocals]; done) | rfl
def Q0 (Z : State) (p1 p2 p3 p4 p5 : Int32) (nn : Addr) (kN : ClassId) (h0 : Heap) (n0 : Nat) (v : Option Value) (h : Heap) (L : List Loc) : Prop := v = some (.int 1) ∧ Fr n0 L
set_option maxRecDepth 65536 in
set_option maxHeartbeats 40000000 in
theorem rm0 (l : Launch) (Z : State) (a0 : Array Value) (hw : ∀ d ∈ tables_1, d.before a0 Z = true) (ws : List Jvm.Cond) (p1 p2 p3 p4 p5 : Int32) (nn : Addr) (kN : ClassId) (h0 : Heap) (n0 : Nat) (Z0 : n0 ≤ h0.size) (SN : Sta Z h0 "com/example/concept_reasoner/conceptreasoner/completion/IntList" "NONE" "[I" (.ref nn)) (VN : Arv Z h0 nn kN .int (0 : Int32) [] (.int (0 : Int32))) :
    MetFree l x (head1 (Jvm.Cond.code x code maxLocals ret :: ws) room_1) (fun ar U => ar = #[(.int p1), (.int p2), (.int p3), (.int p4), (.int p5)] ∧ Z.Warmed39 U.vm ∧ U.heap = h0) (fun _ _ _ _ _ => True) (fun _ U o U' => ∃ v L, o = .returned v ∧ Q0 Z p1 p2 p3 p4 p5 nn kN h0 n0 v U'.heap L ∧ FrameEnd U o U' L room_1.cells room_1.slots) := by
  refine MetFree.of_bodySF (plainFor_of_name pn_com_example_concept_reasoner_conceptreasoner_completion_LeftOfIsEmptyPinLaw) hisR ?_
  intro p e s m args below meth c s₁ Bd hml0 hP hK
  obtain ⟨rfl, hZ, hh⟩ := hP
  have hx := Bd.exec
  have hby := Bd.bytes
  have hml : c.maxLocals = 11 := hml0
  have hown : s.vm.findClass "com/example/concept_reasoner/conceptreasoner/completion/LeftOfIsEmptyPinLaw" = some m.cls := findClass_of_methodNamed Bd.named
  have hnm := (name_of_methodNamed Bd.named Bd.method).1
  have X0 : Stand p l e room_1 s m #[(.int p1), (.int p2), (.int p3), (.int p4), (.int p5)] below meth c s₁ [] 0 0 := Stand.of_body Bd
  have e0 : s₁.heap = h0 := by rw [← hh, Bd.state]; rfl
  have N0 := Fr.nil n0
  obtain ⟨F, hF⟩ : ∃ F, F = own_Fin s (Q0 Z p1 p2 p3 p4 p5 nn kN h0 n0) room_1.cells room_1.slots := ⟨_, rfl⟩
  show own_Ends p e below (own_Fin s (Q0 Z p1 p2 p3 p4 p5 nn kN h0 n0) room_1.cells room_1.slots) _
  rw [← hF, ef_rm0 m p1 p2 p3 p4 p5]
  show own_Ends p e below F (s₁.setTop (mkF m 0 #[.val (.int p1), .val (.int p2), .val (.int p3), .val (.int p4), .val (.int p5), .unset, .unset, .unset, .unset, .unset, .unset] []))
  obtain ⟨T1, h1, X1, e1, E1, A1, D1, -, st1⟩ := newO X0 hx hZ hown (own_g hw 0 rfl) (own_g hw 1 rfl) (own_g hw 2 rfl) e0 (g := (mkF m 0 #[.val (.int p1), .val (.int p2), .val (.int p3), .val (.int p4), .val (.int p5), .unset, .unset, .unset, .unset, .unset, .unset] [])) rfl (hb hby at_0) (by decide) (by decide)
  obtain ⟨a1, g1⟩ : ∃ z, z = h0.size := ⟨_, rfl⟩
  rw [← g1] at A1 D1 st1
  have ge_a1 : n0 ≤ a1 := Nat.le_trans Z0 (Nat.le_of_eq g1.symm)
  have sz_a1 : h0.size ≤ a1 := Nat.le_trans (Nat.le_refl h0.size) (Nat.le_of_eq g1.symm)
  have ne_nn_a1 : nn ≠ a1 := Nat.ne_of_lt (by rw [g1]; exact VN.lt)
  have Z1 : n0 ≤ h1.size := Nat.le_trans Z0 E1.1
  have SZ1 : h0.size ≤ h1.size := Nat.le_trans (Nat.le_refl h0.size) E1.1
  have F1_implied : Fld Z h1 a1 "com/example/concept_reasoner/conceptreasoner/completion/Axioms$LeftOf" "implied" "Lcom/example/concept_reasoner/conceptreasoner/completion/IntList;" .null := D1 (Or.inr (own_g hw 29 rfl)) (ty := (.object "com/example/concept_reasoner/conceptreasoner/completion/IntList")) (by decide)
  have F1_existentials : Fld Z h1 a1 "com/example/concept_reasoner/conceptreasoner/completion/Axioms$LeftOf" "existentials" "Lcom/example/concept_reasoner/conceptreasoner/completion/IntList;" .null := D1 (Or.inr (own_g hw 31 rfl)) (ty := (.object "com/example/concept_reasoner/conceptreasoner/completion/IntList")) (by decide)
  have F1_disjointnesses : Fld Z h1 a1 "com/example/concept_reasoner/conceptreasoner/completion/Axioms$LeftOf" "disjointnesses" "Lcom/example/concept_reasoner/conceptreasoner/completion/IntList;" .null := D1 (Or.inr (own_g hw 33 rfl)) (ty := (.object "com/example/concept_reasoner/conceptreasoner/completion/IntList")) (by decide)
  refine own_step st1 ?_
  show own_Ends p e below F (T1.setTop (mkF m 3 #[.val (.int p1), .val (.int p2), .val (.int p3), .val (.int p4), .val (.int p5), .unset, .unset, .unset, .unset, .unset, .unset] [(.ref a1)]))
  refine own_step (fun _ k => XS.dup X1.here hx rfl (hb hby at_3) rfl rfl k) ?_
  show own_Ends p e below F (T1.setTop (mkF m 4 #[.val (.int p1), .val (.int p2), .val (.int p3), .val (.int p4), .val (.int p5), .unset, .unset, .unset, .unset, .unset, .unset] [(.ref a1), (.ref a1)]))
  obtain ⟨_, _, ⟨T2, L2, k2, n2⟩, -, X2, ⟨Lc2, hQ2, l2, y2, z2⟩, st2⟩ := X1.specialBack hx (y := (⟨"com/example/concept_reasoner/conceptreasoner/completion/Axioms$LeftOf", "<init>", "()V"⟩ : MethodName)) rfl hown (mvT hZ (own_g hw 3 rfl)) (mvT hZ (own_g hw 4 rfl)) (mvT hZ (own_g hw 5 rfl)) (by decide) (backOf (W := 1) (rm1 l Z a0 hw [] a1 nn h1 n0 Z1 A1 ge_a1 (Sta.ext E1 SN) F1_implied F1_existentials F1_disjointnesses) hZ (own_g hw 5 rfl) (own_g hw 2 rfl) (by decide) (by decide)) (g := (mkF m 4 #[.val (.int p1), .val (.int p2), .val (.int p3), .val (.int p4), .val (.int p5), .unset, .unset, .unset, .unset, .unset, .unset] [(.ref a1), (.ref a1)])) rfl (by rw [hml]; rfl) (Steps.refl _) (a := a1) (argsL := []) (rest := [(.ref a1)]) (lenOf pd__28_29V rfl) rfl (by show 2 * 0 + _ ≤ _; exact Nat.le_of_eq rfl) (hb hby at_4) (fun _ _ => ⟨rfl, e1, (by decide : 1 + 3 ≤ _), (by decide : 3 + 6 ≤ _)⟩)
  dsimp only [Pt.U, Pt.locs, Pt.cells, Pt.slots] at X2 l2 y2 z2 st2 hQ2
  subst l2 y2 z2
  obtain ⟨b2, c2, d2, rfl, Nq2, Kq2, fq0_2, fq1_2, fq2_2, fq3_2, fq4_2, fq5_2, fq6_2, fq7_2, fq8_2, fq9_2, fq10_2, fq11_2, fq12_2, fq13_2, fq14_2, fq15_2, fq16_2, fq17_2, fq18_2⟩ := hQ2
  have N2 := Fr.app N0 Nq2
  have Z2 : n0 ≤ T2.heap.size := Nat.le_trans Z1 Kq2.1
  have SZ2 : h0.size ≤ T2.heap.size := Nat.le_trans SZ1 Kq2.1
  have S0_2 := own_Sta_keep (Sta.ext E1 SN) Kq2 (allS (own_ns_exa A1) all0)
  have ne_nn_b2 : nn ≠ b2 := Nat.ne_of_lt (Nat.lt_of_lt_of_le ((VN.ext E1)).lt fq0_2)
  have ne_a1_b2 : a1 ≠ b2 := Nat.ne_of_lt (Nat.lt_of_lt_of_le (F1_implied).lt fq0_2)
  have ge_b2 : n0 ≤ b2 := Nat.le_trans Z1 fq0_2
  have sz_b2 : h0.size ≤ b2 := Nat.le_trans SZ1 fq0_2
  have ne_nn_c2 : nn ≠ c2 := Nat.ne_of_lt (Nat.lt_of_lt_of_le ((VN.ext E1)).lt fq1_2)
  have ne_a1_c2 : a1 ≠ c2 := Nat.ne_of_lt (Nat.lt_of_lt_of_le (F1_implied).lt fq1_2)
  have ge_c2 : n0 ≤ c2 := Nat.le_trans Z1 fq1_2
  have sz_c2 : h0.size ≤ c2 := Nat.le_trans SZ1 fq1_2
  have ne_nn_d2 : nn ≠ d2 := Nat.ne_of_lt (Nat.lt_of_lt_of_le ((VN.ext E1)).lt fq2_2)
  have ne_a1_d2 : a1 ≠ d2 := Nat.ne_of_lt (Nat.lt_of_lt_of_le (F1_implied).lt fq2_2)
  have ge_d2 : n0 ≤ d2 := Nat.le_trans Z1 fq2_2
  have sz_d2 : h0.size ≤ d2 := Nat.le_trans SZ1 fq2_2
  refine own_trans st2 ?_
  show own_Ends p e below F (T2.setTop (mkF m 7 #[.val (.int p1), .val (.int p2), .val (.int p3), .val (.int p4), .val (.int p5), .unset, .unset, .unset, .unset, .unset, .unset] [(.ref a1)]))
  refine own_step (fun _ k => XS.astore X2.here hx rfl (hb hby at_7) rfl rfl (l' := #[.val (.int p1), .val (.int p2), .val (.int p3), .val (.int p4), .val (.int p5), .val (.ref a1), .unset, .unset, .unset, .unset, .unset]) rfl k) ?_
  show own_Ends p e below F (T2.setTop (mkF m 9 #[.val (.int p1), .val (.int p2), .val (.int p3), .val (.int p4), .val (.int p5), .val (.ref a1), .unset, .unset, .unset, .unset, .unset] []))
  refine own_step (fun _ k => XS.aload X2.here hx rfl (hb hby at_9) rfl rfl k) ?_
  show own_Ends p e below F (T2.setTop (mkF m 11 #[.val (.int p1), .val (.int p2), .val (.int p3), .val (.int p4), .val (.int p5), .val (.ref a1), .unset, .unset, .unset, .unset, .unset] [(.ref a1)]))
  obtain ⟨cq3, kq3, qa3, qb3, qc3⟩ := isOf hZ rfl fq6_2
  obtain ⟨_, _, ⟨T3, L3, k3, n3⟩, -, X3, ⟨Lc3, hQ3, l3, y3, z3⟩, st3⟩ := X2.virtualBack hx (y := (⟨"com/example/concept_reasoner/conceptreasoner/completion/Axioms$LeftOf", "isEmpty", "()Z"⟩ : MethodName)) (z := (⟨"com/example/concept_reasoner/conceptreasoner/completion/Axioms$LeftOf", "isEmpty", "()Z"⟩ : MethodName)) hown (mvT hZ (own_g hw 34 rfl)) (mvT hZ (own_g hw 35 rfl)) (notFace_of_selects (args := #[]) (mvT hZ (own_g hw 37 rfl))) (mvT hZ (own_g hw 37 rfl)) (mvT hZ (own_g hw 36 rfl)) (by decide) (backOf (W := 0) (rm6 l Z a0 hw [] a1 b2 c2 d2 (0 : Int32) (0 : Int32) (0 : Int32) T2.heap n0 Z2 fq7_2 fq10_2 fq11_2 fq8_2 fq13_2 fq14_2 fq9_2 fq16_2 fq17_2) hZ (own_g hw 38 rfl) (own_g hw 2 rfl) (by decide) (by decide)) qa3 qc3 (g := (mkF m 11 #[.val (.int p1), .val (.int p2), .val (.int p3), .val (.int p4), .val (.int p5), .val (.ref a1), .unset, .unset, .unset, .unset, .unset] [(.ref a1)])) rfl (by rw [hml]; rfl) (Steps.refl _) (argsL := []) (rest := []) (lenOf pd__28_29Z rfl) rfl (by show 2 * 0 + _ ≤ _; exact Nat.le_of_eq rfl) (hb hby at_11) (fun _ _ => ⟨rfl, rfl, (by decide : 4 + 0 ≤ _), (by decide : 9 + 0 ≤ _)⟩)
  dsimp only [Pt.U, Pt.locs, Pt.cells, Pt.slots] at X3 l3 y3 z3 st3 hQ3
  subst l3 y3 z3
  obtain ⟨rfl, Nq3, eq3⟩ := hQ3
  have N3 := Fr.app N2 Nq3
  refine own_trans st3 ?_
  show own_Ends p e below F (T3.setTop (mkF m 14 #[.val (.int p1), .val (.int p2), .val (.int p3), .val (.int p4), .val (.int p5), .val (.ref a1), .unset, .unset, .unset, .unset, .unset] [(.int (own_emp3 (0 : Int32) (0 : Int32) (0 : Int32)))]))
  rw [show (own_emp3 (0 : Int32) (0 : Int32) (0 : Int32)) = (1 : Int32) from (by first | rfl | decide)]
  show own_Ends p e below F (T3.setTop (mkF m 14 #[.val (.int p1), .val (.int p2), .val (.int p3), .val (.int p4), .val (.int p5), .val (.ref a1), .unset, .unset, .unset, .unset, .unset] [(.int (1 : Int32))]))
  refine own_step (fun _ k => XS.istore X3.here hx rfl (hb hby at_14) rfl (l' := #[.val (.int p1), .val (.int p2), .val (.int p3), .val (.int p4), .val (.int p5), .val (.ref a1), .val (.int (1 : Int32)), .unset, .unset, .unset, .unset]) rfl k) ?_
  show own_Ends p e below F (T3.setTop (mkF m 16 #[.val (.int p1), .val (.int p2), .val (.int p3), .val (.int p4), .val (.int p5), .val (.ref a1), .val (.int (1 : Int32)), .unset, .unset, .unset, .unset] []))
  refine own_step (fun _ k => XS.iloadN X3.here hx rfl (hb hby at_16) rfl k) ?_
  show own_Ends p e below F (T3.setTop (mkF m 17 #[.val (.int p1), .val (.int p2), .val (.int p3), .val (.int p4), .val (.int p5), .val (.ref a1), .val (.int (1 : Int32)), .unset, .unset, .unset, .unset] [(.int p1)]))
  refine own_step (fun _ k => XS.iconst X3.here hx rfl (hb hby at_17) k) ?_
  show own_Ends p e below F (T3.setTop (mkF m 18 #[.val (.int p1), .val (.int p2), .val (.int p3), .val (.int p4), .val (.int p5), .val (.ref a1), .val (.int (1 : Int32)), .unset, .unset, .unset, .unset] [(.int (1 : Int32)), (.int p1)]))
  refine own_step (fun _ k => XS.iand X3.here hx rfl (hb hby at_18) rfl k) ?_
  show own_Ends p e below F (T3.setTop (mkF m 19 #[.val (.int p1), .val (.int p2), .val (.int p3), .val (.int p4), .val (.int p5), .val (.ref a1), .val (.int (1 : Int32)), .unset, .unset, .unset, .unset] [(.int (p1 &&& (1 : Int32)))]))
  by_cases c19_4 : (p1 &&& (1 : Int32)) = (0 : Int32)
  · refine own_step (fun _ k => XS.ifYes X3.here hx rfl (pc0 := 19) (pc' := 26) rfl (hb hby at_19) rfl ((if0 _ _).trans (teq c19_4).1) (by decide) (by decide) k) ?_
    show own_Ends p e below F (T3.setTop (mkF m 26 #[.val (.int p1), .val (.int p2), .val (.int p3), .val (.int p4), .val (.int p5), .val (.ref a1), .val (.int (1 : Int32)), .unset, .unset, .unset, .unset] []))
    refine own_step (fun _ k => XS.iconst X3.here hx rfl (hb hby at_26) k) ?_
    show own_Ends p e below F (T3.setTop (mkF m 27 #[.val (.int p1), .val (.int p2), .val (.int p3), .val (.int p4), .val (.int p5), .val (.ref a1), .val (.int (1 : Int32)), .unset, .unset, .unset, .unset] [(.int (0 : Int32))]))
    refine own_step (fun _ k => XS.istore X3.here hx rfl (hb hby at_27) rfl (l' := #[.val (.int p1), .val (.int p2), .val (.int p3), .val (.int p4), .val (.int p5), .val (.ref a1), .val (.int (1 : Int32)), .val (.int (0 : Int32)), .unset, .unset, .unset]) rfl k) ?_
    show own_Ends p e below F (T3.setTop (mkF m 29 #[.val (.int p1), .val (.int p2), .val (.int p3), .val (.int p4), .val (.int p5), .val (.ref a1), .val (.int (1 : Int32)), .val (.int (0 : Int32)), .unset, .unset, .unset] []))
    refine own_step (fun _ k => XS.iloadN X3.here hx rfl (hb hby at_29) rfl k) ?_
    show own_Ends p e below F (T3.setTop (mkF m 30 #[.val (.int p1), .val (.int p2), .val (.int p3), .val (.int p4), .val (.int p5), .val (.ref a1), .val (.int (1 : Int32)), .val (.int (0 : Int32)), .unset, .unset, .unset] [(.int p1)]))
    refine own_step (fun _ k => XS.iconst X3.here hx rfl (hb hby at_30) k) ?_
    show own_Ends p e below F (T3.setTop (mkF m 31 #[.val (.int p1), .val (.int p2), .val (.int p3), .val (.int p4), .val (.int p5), .val (.ref a1), .val (.int (1 : Int32)), .val (.int (0 : Int32)), .unset, .unset, .unset] [(.int (2 : Int32)), (.int p1)]))
    refine own_step (fun _ k => XS.iand X3.here hx rfl (hb hby at_31) rfl k) ?_
    show own_Ends p e below F (T3.setTop (mkF m 32 #[.val (.int p1), .val (.int p2), .val (.int p3), .val (.int p4), .val (.int p5), .val (.ref a1), .val (.int (1 : Int32)), .val (.int (0 : Int32)), .unset, .unset, .unset] [(.int (p1 &&& (2 : Int32)))]))
    by_cases c32_5 : (p1 &&& (2 : Int32)) = (0 : Int32)
    · refine own_step (fun _ k => XS.ifYes X3.here hx rfl (pc0 := 32) (pc' := 39) rfl (hb hby at_32) rfl ((if0 _ _).trans (teq c32_5).1) (by decide) (by decide) k) ?_
      show own_Ends p e below F (T3.setTop (mkF m 39 #[.val (.int p1), .val (.int p2), .val (.int p3), .val (.int p4), .val (.int p5), .val (.ref a1), .val (.int (1 : Int32)), .val (.int (0 : Int32)), .unset, .unset, .unset] []))
      refine own_step (fun _ k => XS.iconst X3.here hx rfl (hb hby at_39) k) ?_
      show own_Ends p e below F (T3.setTop (mkF m 40 #[.val (.int p1), .val (.int p2), .val (.int p3), .val (.int p4), .val (.int p5), .val (.ref a1), .val (.int (1 : Int32)), .val (.int (0 : Int32)), .unset, .unset, .unset] [(.int (0 : Int32))]))
      refine own_step (fun _ k => XS.istore X3.here hx rfl (hb hby at_40) rfl (l' := #[.val (.int p1), .val (.int p2), .val (.int p3), .val (.int p4), .val (.int p5), .val (.ref a1), .val (.int (1 : Int32)), .val (.int (0 : Int32)), .val (.int (0 : Int32)), .unset, .unset]) rfl k) ?_
      show own_Ends p e below F (T3.setTop (mkF m 42 #[.val (.int p1), .val (.int p2), .val (.int p3), .val (.int p4), .val (.int p5), .val (.ref a1), .val (.int (1 : Int32)), .val (.int (0 : Int32)), .val (.int (0 : Int32)), .unset, .unset] []))
      refine own_step (fun _ k => XS.iloadN X3.here hx rfl (hb hby at_42) rfl k) ?_
      show own_Ends p e below F (T3.setTop (mkF m 43 #[.val (.int p1), .val (.int p2), .val (.int p3), .val (.int p4), .val (.int p5), .val (.ref a1), .val (.int (1 : Int32)), .val (.int (0 : Int32)), .val (.int (0 : Int32)), .unset, .unset] [(.int p1)]))
      refine own_step (fun _ k => XS.iconst X3.here hx rfl (hb hby at_43) k) ?_
      show own_Ends p e below F (T3.setTop (mkF m 44 #[.val (.int p1), .val (.int p2), .val (.int p3), .val (.int p4), .val (.int p5), .val (.ref a1), .val (.int (1 : Int32)), .val (.int (0 : Int32)), .val (.int (0 : Int32)), .unset, .unset] [(.int (4 : Int32)), (.int p1)]))
      refine own_step (fun _ k => XS.iand X3.here hx rfl (hb hby at_44) rfl k) ?_
      show own_Ends p e below F (T3.setTop (mkF m 45 #[.val (.int p1), .val (.int p2), .val (.int p3), .val (.int p4), .val (.int p5), .val (.ref a1), .val (.int (1 : Int32)), .val (.int (0 : Int32)), .val (.int (0 : Int32)), .unset, .unset] [(.int (p1 &&& (4 : Int32)))]))
      by_cases c45_6 : (p1 &&& (4 : Int32)) = (0 : Int32)
      · refine own_step (fun _ k => XS.ifYes X3.here hx rfl (pc0 := 45) (pc' := 52) rfl (hb hby at_45) rfl ((if0 _ _).trans (teq c45_6).1) (by decide) (by decide) k) ?_
        show own_Ends p e below F (T3.setTop (mkF m 52 #[.val (.int p1), .val (.int p2), .val (.int p3), .val (.int p4), .val (.int p5), .val (.ref a1), .val (.int (1 : Int32)), .val (.int (0 : Int32)), .val (.int (0 : Int32)), .unset, .unset] []))
        refine own_step (fun _ k => XS.iconst X3.here hx rfl (hb hby at_52) k) ?_
        show own_Ends p e below F (T3.setTop (mkF m 53 #[.val (.int p1), .val (.int p2), .val (.int p3), .val (.int p4), .val (.int p5), .val (.ref a1), .val (.int (1 : Int32)), .val (.int (0 : Int32)), .val (.int (0 : Int32)), .unset, .unset] [(.int (0 : Int32))]))
        refine own_step (fun _ k => XS.istore X3.here hx rfl (hb hby at_53) rfl (l' := #[.val (.int p1), .val (.int p2), .val (.int p3), .val (.int p4), .val (.int p5), .val (.ref a1), .val (.int (1 : Int32)), .val (.int (0 : Int32)), .val (.int (0 : Int32)), .val (.int (0 : Int32)), .unset]) rfl k) ?_
        show own_Ends p e below F (T3.setTop (mkF m 55 #[.val (.int p1), .val (.int p2), .val (.int p3), .val (.int p4), .val (.int p5), .val (.ref a1), .val (.int (1 : Int32)), .val (.int (0 : Int32)), .val (.int (0 : Int32)), .val (.int (0 : Int32)), .unset] []))
        refine own_step (fun _ k => XS.iload X3.here hx rfl (hb hby at_55) rfl k) ?_
        show own_Ends p e below F (T3.setTop (mkF m 57 #[.val (.int p1), .val (.int p2), .val (.int p3), .val (.int p4), .val (.int p5), .val (.ref a1), .val (.int (1 : Int32)), .val (.int (0 : Int32)), .val (.int (0 : Int32)), .val (.int (0 : Int32)), .unset] [(.int (0 : Int32))]))
        refine own_step (fun _ k => XS.ifYes X3.here hx rfl (pc0 := 57) (pc' := 69) rfl (hb hby at_57) rfl ((if0 _ _).trans (teq (by decide : (0 : Int32) = (0 : Int32))).1) (by decide) (by decide) k) ?_
        show own_Ends p e below F (T3.setTop (mkF m 69 #[.val (.int p1), .val (.int p2), .val (.int p3), .val (.int p4), .val (.int p5), .val (.ref a1), .val (.int (1 : Int32)), .val (.int (0 : Int32)), .val (.int (0 : Int32)), .val (.int (0 : Int32)), .unset] []))
        refine own_step (fun _ k => XS.iload X3.here hx rfl (hb hby at_69) rfl k) ?_
        show own_Ends p e below F (T3.setTop (mkF m 71 #[.val (.int p1), .val (.int p2), .val (.int p3), .val (.int p4), .val (.int p5), .val (.ref a1), .val (.int (1 : Int32)), .val (.int (0 : Int32)), .val (.int (0 : Int32)), .val (.int (0 : Int32)), .unset] [(.int (0 : Int32))]))
        refine own_step (fun _ k => XS.ifYes X3.here hx rfl (pc0 := 71) (pc' := 93) rfl (hb hby at_71) rfl ((if0 _ _).trans (teq (by decide : (0 : Int32) = (0 : Int32))).1) (by decide) (by decide) k) ?_
        show own_Ends p e below F (T3.setTop (mkF m 93 #[.val (.int p1), .val (.int p2), .val (.int p3), .val (.int p4), .val (.int p5), .val (.ref a1), .val (.int (1 : Int32)), .val (.int (0 : Int32)), .val (.int (0 : Int32)), .val (.int (0 : Int32)), .unset] []))
        refine own_step (fun _ k => XS.iload X3.here hx rfl (hb hby at_93) rfl k) ?_
        show own_Ends p e below F (T3.setTop (mkF m 95 #[.val (.int p1), .val (.int p2), .val (.int p3), .val (.int p4), .val (.int p5), .val (.ref a1), .val (.int (1 : Int32)), .val (.int (0 : Int32)), .val (.int (0 : Int32)), .val (.int (0 : Int32)), .unset] [(.int (0 : Int32))]))
        refine own_step (fun _ k => XS.ifYes X3.here hx rfl (pc0 := 95) (pc' := 108) rfl (hb hby at_95) rfl ((if0 _ _).trans (teq (by decide : (0 : Int32) = (0 : Int32))).1) (by decide) (by decide) k) ?_
        show own_Ends p e below F (T3.setTop (mkF m 108 #[.val (.int p1), .val (.int p2), .val (.int p3), .val (.int p4), .val (.int p5), .val (.ref a1), .val (.int (1 : Int32)), .val (.int (0 : Int32)), .val (.int (0 : Int32)), .val (.int (0 : Int32)), .unset] []))
        refine own_step (fun _ k => XS.iload X3.here hx rfl (hb hby at_108) rfl k) ?_
        show own_Ends p e below F (T3.setTop (mkF m 110 #[.val (.int p1), .val (.int p2), .val (.int p3), .val (.int p4), .val (.int p5), .val (.ref a1), .val (.int (1 : Int32)), .val (.int (0 : Int32)), .val (.int (0 : Int32)), .val (.int (0 : Int32)), .unset] [(.int (0 : Int32))]))
        refine own_step (fun _ k => XS.ifNo X3.here hx rfl (hb hby at_110) rfl ((if0 _ _).trans (teq (by decide : (0 : Int32) = (0 : Int32))).2) k) ?_
        show own_Ends p e below F (T3.setTop (mkF m 113 #[.val (.int p1), .val (.int p2), .val (.int p3), .val (.int p4), .val (.int p5), .val (.ref a1), .val (.int (1 : Int32)), .val (.int (0 : Int32)), .val (.int (0 : Int32)), .val (.int (0 : Int32)), .unset] []))
        refine own_step (fun _ k => XS.iload X3.here hx rfl (hb hby at_113) rfl k) ?_
        show own_Ends p e below F (T3.setTop (mkF m 115 #[.val (.int p1), .val (.int p2), .val (.int p3), .val (.int p4), .val (.int p5), .val (.ref a1), .val (.int (1 : Int32)), .val (.int (0 : Int32)), .val (.int (0 : Int32)), .val (.int (0 : Int32)), .unset] [(.int (0 : Int32))]))
        refine own_step (fun _ k => XS.ifNo X3.here hx rfl (hb hby at_115) rfl ((if0 _ _).trans (teq (by decide : (0 : Int32) = (0 : Int32))).2) k) ?_
        show own_Ends p e below F (T3.setTop (mkF m 118 #[.val (.int p1), .val (.int p2), .val (.int p3), .val (.int p4), .val (.int p5), .val (.ref a1), .val (.int (1 : Int32)), .val (.int (0 : Int32)), .val (.int (0 : Int32)), .val (.int (0 : Int32)), .unset] []))
        refine own_step (fun _ k => XS.iload X3.here hx rfl (hb hby at_118) rfl k) ?_
        show own_Ends p e below F (T3.setTop (mkF m 120 #[.val (.int p1), .val (.int p2), .val (.int p3), .val (.int p4), .val (.int p5), .val (.ref a1), .val (.int (1 : Int32)), .val (.int (0 : Int32)), .val (.int (0 : Int32)), .val (.int (0 : Int32)), .unset] [(.int (0 : Int32))]))
        refine own_step (fun _ k => XS.ifNo X3.here hx rfl (hb hby at_120) rfl ((if0 _ _).trans (teq (by decide : (0 : Int32) = (0 : Int32))).2) k) ?_
        show own_Ends p e below F (T3.setTop (mkF m 123 #[.val (.int p1), .val (.int p2), .val (.int p3), .val (.int p4), .val (.int p5), .val (.ref a1), .val (.int (1 : Int32)), .val (.int (0 : Int32)), .val (.int (0 : Int32)), .val (.int (0 : Int32)), .unset] []))
        refine own_step (fun _ k => XS.iconst X3.here hx rfl (hb hby at_123) k) ?_
        show own_Ends p e below F (T3.setTop (mkF m 124 #[.val (.int p1), .val (.int p2), .val (.int p3), .val (.int p4), .val (.int p5), .val (.ref a1), .val (.int (1 : Int32)), .val (.int (0 : Int32)), .val (.int (0 : Int32)), .val (.int (0 : Int32)), .unset] [(.int (1 : Int32))]))
        refine own_step (fun _ k => XS.goto X3.here hx rfl (pc0 := 124) (pc' := 128) rfl (hb hby at_124) (by decide) (by decide) k) ?_
        show own_Ends p e below F (T3.setTop (mkF m 128 #[.val (.int p1), .val (.int p2), .val (.int p3), .val (.int p4), .val (.int p5), .val (.ref a1), .val (.int (1 : Int32)), .val (.int (0 : Int32)), .val (.int (0 : Int32)), .val (.int (0 : Int32)), .unset] [(.int (1 : Int32))]))
        refine own_step (fun _ k => XS.istore X3.here hx rfl (hb hby at_128) rfl (l' := #[.val (.int p1), .val (.int p2), .val (.int p3), .val (.int p4), .val (.int p5), .val (.ref a1), .val (.int (1 : Int32)), .val (.int (0 : Int32)), .val (.int (0 : Int32)), .val (.int (0 : Int32)), .val (.int (1 : Int32))]) rfl k) ?_
        show own_Ends p e below F (T3.setTop (mkF m 130 #[.val (.int p1), .val (.int p2), .val (.int p3), .val (.int p4), .val (.int p5), .val (.ref a1), .val (.int (1 : Int32)), .val (.int (0 : Int32)), .val (.int (0 : Int32)), .val (.int (0 : Int32)), .val (.int (1 : Int32))] []))
        refine own_step (fun _ k => XS.iload X3.here hx rfl (hb hby at_130) rfl k) ?_
        show own_Ends p e below F (T3.setTop (mkF m 132 #[.val (.int p1), .val (.int p2), .val (.int p3), .val (.int p4), .val (.int p5), .val (.ref a1), .val (.int (1 : Int32)), .val (.int (0 : Int32)), .val (.int (0 : Int32)), .val (.int (0 : Int32)), .val (.int (1 : Int32))] [(.int (1 : Int32))]))
        refine own_step (fun _ k => XS.ifNo X3.here hx rfl (hb hby at_132) rfl ((if0 _ _).trans (feq (by decide : ¬ ((1 : Int32) = (0 : Int32)))).1) k) ?_
        show own_Ends p e below F (T3.setTop (mkF m 135 #[.val (.int p1), .val (.int p2), .val (.int p3), .val (.int p4), .val (.int p5), .val (.ref a1), .val (.int (1 : Int32)), .val (.int (0 : Int32)), .val (.int (0 : Int32)), .val (.int (0 : Int32)), .val (.int (1 : Int32))] []))
        refine own_step (fun _ k => XS.aload X3.here hx rfl (hb hby at_135) rfl rfl k) ?_
        show own_Ends p e below F (T3.setTop (mkF m 137 #[.val (.int p1), .val (.int p2), .val (.int p3), .val (.int p4), .val (.int p5), .val (.ref a1), .val (.int (1 : Int32)), .val (.int (0 : Int32)), .val (.int (0 : Int32)), .val (.int (0 : Int32)), .val (.int (1 : Int32))] [(.ref a1)]))
        obtain ⟨cq7, kq7, qa7, qb7, qc7⟩ := isOf hZ eq3 fq6_2
        obtain ⟨_, _, ⟨T7, L7, k7, n7⟩, -, X7, ⟨Lc7, hQ7, l7, y7, z7⟩, st7⟩ := X3.virtualBack hx (y := (⟨"com/example/concept_reasoner/conceptreasoner/completion/Axioms$LeftOf", "isEmpty", "()Z"⟩ : MethodName)) (z := (⟨"com/example/concept_reasoner/conceptreasoner/completion/Axioms$LeftOf", "isEmpty", "()Z"⟩ : MethodName)) hown (mvT hZ (own_g hw 34 rfl)) (mvT hZ (own_g hw 35 rfl)) (notFace_of_selects (args := #[]) (mvT hZ (own_g hw 37 rfl))) (mvT hZ (own_g hw 37 rfl)) (mvT hZ (own_g hw 36 rfl)) (by decide) (backOf (W := 0) (rm6 l Z a0 hw [] a1 b2 c2 d2 (0 : Int32) (0 : Int32) (0 : Int32) T2.heap n0 Z2 fq7_2 fq10_2 fq11_2 fq8_2 fq13_2 fq14_2 fq9_2 fq16_2 fq17_2) hZ (own_g hw 38 rfl) (own_g hw 2 rfl) (by decide) (by decide)) qa7 qc7 (g := (mkF m 137 #[.val (.int p1), .val (.int p2), .val (.int p3), .val (.int p4), .val (.int p5), .val (.ref a1), .val (.int (1 : Int32)), .val (.int (0 : Int32)), .val (.int (0 : Int32)), .val (.int (0 : Int32)), .val (.int (1 : Int32))] [(.ref a1)])) rfl (by rw [hml]; rfl) (Steps.refl _) (argsL := []) (rest := []) (lenOf pd__28_29Z rfl) rfl (by show 2 * 0 + _ ≤ _; exact Nat.le_of_eq rfl) (hb hby at_137) (fun _ _ => ⟨rfl, eq3, (by decide : 4 + 0 ≤ _), (by decide : 9 + 0 ≤ _)⟩)
        dsimp only [Pt.U, Pt.locs, Pt.cells, Pt.slots] at X7 l7 y7 z7 st7 hQ7
        subst l7 y7 z7
        obtain ⟨rfl, Nq7, eq7⟩ := hQ7
        have N7 := Fr.app N3 Nq7
        refine own_trans st7 ?_
        show own_Ends p e below F (T7.setTop (mkF m 140 #[.val (.int p1), .val (.int p2), .val (.int p3), .val (.int p4), .val (.int p5), .val (.ref a1), .val (.int (1 : Int32)), .val (.int (0 : Int32)), .val (.int (0 : Int32)), .val (.int (0 : Int32)), .val (.int (1 : Int32))] [(.int (own_emp3 (0 : Int32) (0 : Int32) (0 : Int32)))]))
        rw [show (own_emp3 (0 : Int32) (0 : Int32) (0 : Int32)) = (1 : Int32) from (by first | rfl | decide)]
        show own_Ends p e below F (T7.setTop (mkF m 140 #[.val (.int p1), .val (.int p2), .val (.int p3), .val (.int p4), .val (.int p5), .val (.ref a1), .val (.int (1 : Int32)), .val (.int (0 : Int32)), .val (.int (0 : Int32)), .val (.int (0 : Int32)), .val (.int (1 : Int32))] [(.int (1 : Int32))]))
        refine own_step (fun _ k => XS.iload X7.here hx rfl (hb hby at_140) rfl k) ?_
        show own_Ends p e below F (T7.setTop (mkF m 142 #[.val (.int p1), .val (.int p2), .val (.int p3), .val (.int p4), .val (.int p5), .val (.ref a1), .val (.int (1 : Int32)), .val (.int (0 : Int32)), .val (.int (0 : Int32)), .val (.int (0 : Int32)), .val (.int (1 : Int32))] [(.int (1 : Int32)), (.int (1 : Int32))]))
        refine own_step (fun _ k => XS.icmpNo X7.here hx rfl (hb hby at_142) rfl (teq (by decide : (1 : Int32) = (1 : Int32))).2 k) ?_
        show own_Ends p e below F (T7.setTop (mkF m 145 #[.val (.int p1), .val (.int p2), .val (.int p3), .val (.int p4), .val (.int p5), .val (.ref a1), .val (.int (1 : Int32)), .val (.int (0 : Int32)), .val (.int (0 : Int32)), .val (.int (0 : Int32)), .val (.int (1 : Int32))] []))
        refine own_step (fun _ k => XS.iconst X7.here hx rfl (hb hby at_145) k) ?_
        show own_Ends p e below F (T7.setTop (mkF m 146 #[.val (.int p1), .val (.int p2), .val (.int p3), .val (.int p4), .val (.int p5), .val (.ref a1), .val (.int (1 : Int32)), .val (.int (0 : Int32)), .val (.int (0 : Int32)), .val (.int (0 : Int32)), .val (.int (1 : Int32))] [(.int (1 : Int32))]))
        refine own_step (fun _ k => XS.goto X7.here hx rfl (pc0 := 146) (pc' := 150) rfl (hb hby at_146) (by decide) (by decide) k) ?_
        show own_Ends p e below F (T7.setTop (mkF m 150 #[.val (.int p1), .val (.int p2), .val (.int p3), .val (.int p4), .val (.int p5), .val (.ref a1), .val (.int (1 : Int32)), .val (.int (0 : Int32)), .val (.int (0 : Int32)), .val (.int (0 : Int32)), .val (.int (1 : Int32))] [(.int (1 : Int32))]))
        rw [hF]
        exact own_ret X7 (v := (some (.int (nar .boolean (1 : Int32))))) (fun h => by rw [Bd.returns] at h; cases h) Bd.notSynchronized (fun fs hr => retN X7 hx (t := .boolean) Bd.returns (by simp) (hb hby at_150) hr) (by decide) (by decide) (by rw [eq7]; exact ⟨rfl, N7⟩)
      · refine own_step (fun _ k => XS.ifNo X3.here hx rfl (hb hby at_45) rfl ((if0 _ _).trans (feq c45_6).1) k) ?_
        show own_Ends p e below F (T3.setTop (mkF m 48 #[.val (.int p1), .val (.int p2), .val (.int p3), .val (.int p4), .val (.int p5), .val (.ref a1), .val (.int (1 : Int32)), .val (.int (0 : Int32)), .val (.int (0 : Int32)), .unset, .unset] []))
        refine own_step (fun _ k => XS.iconst X3.here hx rfl (hb hby at_48) k) ?_
        show own_Ends p e below F (T3.setTop (mkF m 49 #[.val (.int p1), .val (.int p2), .val (.int p3), .val (.int p4), .val (.int p5), .val (.ref a1), .val (.int (1 : Int32)), .val (.int (0 : Int32)), .val (.int (0 : Int32)), .unset, .unset] [(.int (1 : Int32))]))
        refine own_step (fun _ k => XS.goto X3.here hx rfl (pc0 := 49) (pc' := 53) rfl (hb hby at_49) (by decide) (by decide) k) ?_
        show own_Ends p e below F (T3.setTop (mkF m 53 #[.val (.int p1), .val (.int p2), .val (.int p3), .val (.int p4), .val (.int p5), .val (.ref a1), .val (.int (1 : Int32)), .val (.int (0 : Int32)), .val (.int (0 : Int32)), .unset, .unset] [(.int (1 : Int32))]))
        refine own_step (fun _ k => XS.istore X3.here hx rfl (hb hby at_53) rfl (l' := #[.val (.int p1), .val (.int p2), .val (.int p3), .val (.int p4), .val (.int p5), .val (.ref a1), .val (.int (1 : Int32)), .val (.int (0 : Int32)), .val (.int (0 : Int32)), .val (.int (1 : Int32)), .unset]) rfl k) ?_
        show own_Ends p e below F (T3.setTop (mkF m 55 #[.val (.int p1), .val (.int p2), .val (.int p3), .val (.int p4), .val (.int p5), .val (.ref a1), .val (.int (1 : Int32)), .val (.int (0 : Int32)), .val (.int (0 : Int32)), .val (.int (1 : Int32)), .unset] []))
        refine own_step (fun _ k => XS.iload X3.here hx rfl (hb hby at_55) rfl k) ?_
        show own_Ends p e below F (T3.setTop (mkF m 57 #[.val (.int p1), .val (.int p2), .val (.int p3), .val (.int p4), .val (.int p5), .val (.ref a1), .val (.int (1 : Int32)), .val (.int (0 : Int32)), .val (.int (0 : Int32)), .val (.int (1 : Int32)), .unset] [(.int (0 : Int32))]))
        refine own_step (fun _ k => XS.ifYes X3.here hx rfl (pc0 := 57) (pc' := 69) rfl (hb hby at_57) rfl ((if0 _ _).trans (teq (by decide : (0 : Int32) = (0 : Int32))).1) (by decide) (by decide) k) ?_
        show own_Ends p e below F (T3.setTop (mkF m 69 #[.val (.int p1), .val (.int p2), .val (.int p3), .val (.int p4), .val (.int p5), .val (.ref a1), .val (.int (1 : Int32)), .val (.int (0 : Int32)), .val (.int (0 : Int32)), .val (.int (1 : Int32)), .unset] []))
        refine own_step (fun _ k => XS.iload X3.here hx rfl (hb hby at_69) rfl k) ?_
        show own_Ends p e below F (T3.setTop (mkF m 71 #[.val (.int p1), .val (.int p2), .val (.int p3), .val (.int p4), .val (.int p5), .val (.ref a1), .val (.int (1 : Int32)), .val (.int (0 : Int32)), .val (.int (0 : Int32)), .val (.int (1 : Int32)), .unset] [(.int (0 : Int32))]))
        refine own_step (fun _ k => XS.ifYes X3.here hx rfl (pc0 := 71) (pc' := 93) rfl (hb hby at_71) rfl ((if0 _ _).trans (teq (by decide : (0 : Int32) = (0 : Int32))).1) (by decide) (by decide) k) ?_
        show own_Ends p e below F (T3.setTop (mkF m 93 #[.val (.int p1), .val (.int p2), .val (.int p3), .val (.int p4), .val (.int p5), .val (.ref a1), .val (.int (1 : Int32)), .val (.int (0 : Int32)), .val (.int (0 : Int32)), .val (.int (1 : Int32)), .unset] []))
        refine own_step (fun _ k => XS.iload X3.here hx rfl (hb hby at_93) rfl k) ?_
        show own_Ends p e below F (T3.setTop (mkF m 95 #[.val (.int p1), .val (.int p2), .val (.int p3), .val (.int p4), .val (.int p5), .val (.ref a1), .val (.int (1 : Int32)), .val (.int (0 : Int32)), .val (.int (0 : Int32)), .val (.int (1 : Int32)), .unset] [(.int (1 : Int32))]))
        refine own_step (fun _ k => XS.ifNo X3.here hx rfl (hb hby at_95) rfl ((if0 _ _).trans (feq (by decide : ¬ ((1 : Int32) = (0 : Int32)))).1) k) ?_
        show own_Ends p e below F (T3.setTop (mkF m 98 #[.val (.int p1), .val (.int p2), .val (.int p3), .val (.int p4), .val (.int p5), .val (.ref a1), .val (.int (1 : Int32)), .val (.int (0 : Int32)), .val (.int (0 : Int32)), .val (.int (1 : Int32)), .unset] []))
        refine own_step (fun _ k => XS.aload X3.here hx rfl (hb hby at_98) rfl rfl k) ?_
        show own_Ends p e below F (T3.setTop (mkF m 100 #[.val (.int p1), .val (.int p2), .val (.int p3), .val (.int p4), .val (.int p5), .val (.ref a1), .val (.int (1 : Int32)), .val (.int (0 : Int32)), .val (.int (0 : Int32)), .val (.int (1 : Int32)), .unset] [(.ref a1)]))
        obtain ⟨cq8, kq8, qa8, qb8, qc8⟩ := isOf hZ eq3 fq6_2
        obtain ⟨_, _, ⟨T8, L8, k8, n8⟩, -, X8, ⟨Lc8, hQ8, l8, y8, z8⟩, st8⟩ := X3.virtualBack hx (y := (⟨"com/example/concept_reasoner/conceptreasoner/completion/Axioms$LeftOf", "disjointnesses", "()Lcom/example/concept_reasoner/conceptreasoner/completion/IntList;"⟩ : MethodName)) (z := (⟨"com/example/concept_reasoner/conceptreasoner/completion/Axioms$LeftOf", "disjointnesses", "()Lcom/example/concept_reasoner/conceptreasoner/completion/IntList;"⟩ : MethodName)) hown (mvT hZ (own_g hw 77 rfl)) (mvT hZ (own_g hw 78 rfl)) (notFace_of_selects (args := #[]) (mvT hZ (own_g hw 80 rfl))) (mvT hZ (own_g hw 80 rfl)) (mvT hZ (own_g hw 79 rfl)) (by decide) (backOf (W := 0) (rm14 l Z a0 hw [] a1 d2 T2.heap n0 Z2 fq9_2) hZ (own_g hw 81 rfl) (own_g hw 2 rfl) (by decide) (by decide)) qa8 qc8 (g := (mkF m 100 #[.val (.int p1), .val (.int p2), .val (.int p3), .val (.int p4), .val (.int p5), .val (.ref a1), .val (.int (1 : Int32)), .val (.int (0 : Int32)), .val (.int (0 : Int32)), .val (.int (1 : Int32)), .unset] [(.ref a1)])) rfl (by rw [hml]; rfl) (Steps.refl _) (argsL := []) (rest := []) (lenOf pd__28_29Lcom_2fexample_2fconcept_reasoner_2fconceptreasoner_2fcompletion_2fIntList_3b rfl) rfl (by show 2 * 0 + _ ≤ _; exact Nat.le_of_eq rfl) (hb hby at_100) (fun _ _ => ⟨rfl, eq3, (by decide : 4 + 0 ≤ _), (by decide : 9 + 0 ≤ _)⟩)
        dsimp only [Pt.U, Pt.locs, Pt.cells, Pt.slots] at X8 l8 y8 z8 st8 hQ8
        subst l8 y8 z8
        obtain ⟨rfl, Nq8, eq8⟩ := hQ8
        have N8 := Fr.app N3 Nq8
        refine own_trans st8 ?_
        show own_Ends p e below F (T8.setTop (mkF m 103 #[.val (.int p1), .val (.int p2), .val (.int p3), .val (.int p4), .val (.int p5), .val (.ref a1), .val (.int (1 : Int32)), .val (.int (0 : Int32)), .val (.int (0 : Int32)), .val (.int (1 : Int32)), .unset] [(.ref d2)]))
        refine own_step (fun _ k => XS.iload X8.here hx rfl (hb hby at_103) rfl k) ?_
        show own_Ends p e below F (T8.setTop (mkF m 105 #[.val (.int p1), .val (.int p2), .val (.int p3), .val (.int p4), .val (.int p5), .val (.ref a1), .val (.int (1 : Int32)), .val (.int (0 : Int32)), .val (.int (0 : Int32)), .val (.int (1 : Int32)), .unset] [(.int p5), (.ref d2)]))
        obtain ⟨cq9, kq9, qa9, qb9, qc9⟩ := isOf hZ eq8 fq16_2
        obtain ⟨_, _, ⟨T9, L9, k9, n9⟩, -, X9, ⟨Lc9, hQ9, l9, y9, z9⟩, st9⟩ := X8.virtualBack hx (y := (⟨"com/example/concept_reasoner/conceptreasoner/completion/IntList", "add", "(I)V"⟩ : MethodName)) (z := (⟨"com/example/concept_reasoner/conceptreasoner/completion/IntList", "add", "(I)V"⟩ : MethodName)) hown (mvT hZ (own_g hw 51 rfl)) (mvT hZ (own_g hw 52 rfl)) (notFace_of_selects (args := #[]) (mvT hZ (own_g hw 54 rfl))) (mvT hZ (own_g hw 54 rfl)) (mvT hZ (own_g hw 53 rfl)) (by decide) (backOf (W := 0) (rm9a l Z a0 hw [] d2 nn p5 kN T2.heap n0 Z2 fq16_2 ge_d2 fq17_2 fq18_2 ((VN.ext E1).keep Kq2 (ninS ne_nn_a1 nin0)) ne_nn_d2) hZ (own_g hw 55 rfl) (own_g hw 8 rfl) (by decide) (by decide)) qa9 qc9 (g := (mkF m 105 #[.val (.int p1), .val (.int p2), .val (.int p3), .val (.int p4), .val (.int p5), .val (.ref a1), .val (.int (1 : Int32)), .val (.int (0 : Int32)), .val (.int (0 : Int32)), .val (.int (1 : Int32)), .unset] [(.int p5), (.ref d2)])) rfl (by rw [hml]; rfl) (Steps.refl _) (argsL := [(.int p5)]) (rest := []) (lenOf pd__28I_29V rfl) rfl (by show 2 * 0 + _ ≤ _; exact Nat.le_of_eq rfl) (hb hby at_105) (fun _ _ => ⟨rfl, eq8, (by decide : 4 + 1 ≤ _), (by decide : 9 + 4 ≤ _)⟩)
        dsimp only [Pt.U, Pt.locs, Pt.cells, Pt.slots] at X9 l9 y9 z9 st9 hQ9
        subst l9 y9 z9
        obtain ⟨c9, kc9, rfl, Nq9, Kq9, fq0_9, fq1_9, fq2_9, fq3_9, fq4_9⟩ := hQ9
        have N9 := Fr.app N8 Nq9
        have Z9 : n0 ≤ T9.heap.size := Nat.le_trans Z2 Kq9.1
        have SZ9 : h0.size ≤ T9.heap.size := Nat.le_trans SZ2 Kq9.1
        have S0_9 := own_Sta_keep S0_2 Kq9 (allS (own_ns_exa fq16_2) all0)
        have ne_nn_c9 : nn ≠ c9 := Nat.ne_of_lt (Nat.lt_of_lt_of_le (((VN.ext E1).keep Kq2 (ninS ne_nn_a1 nin0))).lt fq0_9)
        have ne_a1_c9 : a1 ≠ c9 := Nat.ne_of_lt (Nat.lt_of_lt_of_le (fq7_2).lt fq0_9)
        have ne_b2_c9 : b2 ≠ c9 := Nat.ne_of_lt (Nat.lt_of_lt_of_le (fq10_2).lt fq0_9)
        have ne_c2_c9 : c2 ≠ c9 := Nat.ne_of_lt (Nat.lt_of_lt_of_le (fq13_2).lt fq0_9)
        have ne_d2_c9 : d2 ≠ c9 := Nat.ne_of_lt (Nat.lt_of_lt_of_le (fq16_2).lt fq0_9)
        have ge_c9 : n0 ≤ c9 := Nat.le_trans Z2 fq0_9
        have sz_c9 : h0.size ≤ c9 := Nat.le_trans SZ2 fq0_9
        refine own_trans st9 ?_
        show own_Ends p e below F (T9.setTop (mkF m 108 #[.val (.int p1), .val (.int p2), .val (.int p3), .val (.int p4), .val (.int p5), .val (.ref a1), .val (.int (1 : Int32)), .val (.int (0 : Int32)), .val (.int (0 : Int32)), .val (.int (1 : Int32)), .unset] []))
        refine own_step (fun _ k => XS.iload X9.here hx rfl (hb hby at_108) rfl k) ?_
        show own_Ends p e below F (T9.setTop (mkF m 110 #[.val (.int p1), .val (.int p2), .val (.int p3), .val (.int p4), .val (.int p5), .val (.ref a1), .val (.int (1 : Int32)), .val (.int (0 : Int32)), .val (.int (0 : Int32)), .val (.int (1 : Int32)), .unset] [(.int (0 : Int32))]))
        refine own_step (fun _ k => XS.ifNo X9.here hx rfl (hb hby at_110) rfl ((if0 _ _).trans (teq (by decide : (0 : Int32) = (0 : Int32))).2) k) ?_
        show own_Ends p e below F (T9.setTop (mkF m 113 #[.val (.int p1), .val (.int p2), .val (.int p3), .val (.int p4), .val (.int p5), .val (.ref a1), .val (.int (1 : Int32)), .val (.int (0 : Int32)), .val (.int (0 : Int32)), .val (.int (1 : Int32)), .unset] []))
        refine own_step (fun _ k => XS.iload X9.here hx rfl (hb hby at_113) rfl k) ?_
        show own_Ends p e below F (T9.setTop (mkF m 115 #[.val (.int p1), .val (.int p2), .val (.int p3), .val (.int p4), .val (.int p5), .val (.ref a1), .val (.int (1 : Int32)), .val (.int (0 : Int32)), .val (.int (0 : Int32)), .val (.int (1 : Int32)), .unset] [(.int (0 : Int32))]))
        refine own_step (fun _ k => XS.ifNo X9.here hx rfl (hb hby at_115) rfl ((if0 _ _).trans (teq (by decide : (0 : Int32) = (0 : Int32))).2) k) ?_
        show own_Ends p e below F (T9.setTop (mkF m 118 #[.val (.int p1), .val (.int p2), .val (.int p3), .val (.int p4), .val (.int p5), .val (.ref a1), .val (.int (1 : Int32)), .val (.int (0 : Int32)), .val (.int (0 : Int32)), .val (.int (1 : Int32)), .unset] []))
        refine own_step (fun _ k => XS.iload X9.here hx rfl (hb hby at_118) rfl k) ?_
        show own_Ends p e below F (T9.setTop (mkF m 120 #[.val (.int p1), .val (.int p2), .val (.int p3), .val (.int p4), .val (.int p5), .val (.ref a1), .val (.int (1 : Int32)), .val (.int (0 : Int32)), .val (.int (0 : Int32)), .val (.int (1 : Int32)), .unset] [(.int (1 : Int32))]))
        refine own_step (fun _ k => XS.ifYes X9.here hx rfl (pc0 := 120) (pc' := 127) rfl (hb hby at_120) rfl ((if0 _ _).trans (feq (by decide : ¬ ((1 : Int32) = (0 : Int32)))).2) (by decide) (by decide) k) ?_
        show own_Ends p e below F (T9.setTop (mkF m 127 #[.val (.int p1), .val (.int p2), .val (.int p3), .val (.int p4), .val (.int p5), .val (.ref a1), .val (.int (1 : Int32)), .val (.int (0 : Int32)), .val (.int (0 : Int32)), .val (.int (1 : Int32)), .unset] []))
        refine own_step (fun _ k => XS.iconst X9.here hx rfl (hb hby at_127) k) ?_
        show own_Ends p e below F (T9.setTop (mkF m 128 #[.val (.int p1), .val (.int p2), .val (.int p3), .val (.int p4), .val (.int p5), .val (.ref a1), .val (.int (1 : Int32)), .val (.int (0 : Int32)), .val (.int (0 : Int32)), .val (.int (1 : Int32)), .unset] [(.int (0 : Int32))]))
        refine own_step (fun _ k => XS.istore X9.here hx rfl (hb hby at_128) rfl (l' := #[.val (.int p1), .val (.int p2), .val (.int p3), .val (.int p4), .val (.int p5), .val (.ref a1), .val (.int (1 : Int32)), .val (.int (0 : Int32)), .val (.int (0 : Int32)), .val (.int (1 : Int32)), .val (.int (0 : Int32))]) rfl k) ?_
        show own_Ends p e below F (T9.setTop (mkF m 130 #[.val (.int p1), .val (.int p2), .val (.int p3), .val (.int p4), .val (.int p5), .val (.ref a1), .val (.int (1 : Int32)), .val (.int (0 : Int32)), .val (.int (0 : Int32)), .val (.int (1 : Int32)), .val (.int (0 : Int32))] []))
        refine own_step (fun _ k => XS.iload X9.here hx rfl (hb hby at_130) rfl k) ?_
        show own_Ends p e below F (T9.setTop (mkF m 132 #[.val (.int p1), .val (.int p2), .val (.int p3), .val (.int p4), .val (.int p5), .val (.ref a1), .val (.int (1 : Int32)), .val (.int (0 : Int32)), .val (.int (0 : Int32)), .val (.int (1 : Int32)), .val (.int (0 : Int32))] [(.int (1 : Int32))]))
        refine own_step (fun _ k => XS.ifNo X9.here hx rfl (hb hby at_132) rfl ((if0 _ _).trans (feq (by decide : ¬ ((1 : Int32) = (0 : Int32)))).1) k) ?_
        show own_Ends p e below F (T9.setTop (mkF m 135 #[.val (.int p1), .val (.int p2), .val (.int p3), .val (.int p4), .val (.int p5), .val (.ref a1), .val (.int (1 : Int32)), .val (.int (0 : Int32)), .val (.int (0 : Int32)), .val (.int (1 : Int32)), .val (.int (0 : Int32))] []))
        refine own_step (fun _ k => XS.aload X9.here hx rfl (hb hby at_135) rfl rfl k) ?_
        show own_Ends p e below F (T9.setTop (mkF m 137 #[.val (.int p1), .val (.int p2), .val (.int p3), .val (.int p4), .val (.int p5), .val (.ref a1), .val (.int (1 : Int32)), .val (.int (0 : Int32)), .val (.int (0 : Int32)), .val (.int (1 : Int32)), .val (.int (0 : Int32))] [(.ref a1)]))
        obtain ⟨cq10, kq10, qa10, qb10, qc10⟩ := isOf hZ rfl (fq6_2.keep Kq9)
        obtain ⟨_, _, ⟨T10, L10, k10, n10⟩, -, X10, ⟨Lc10, hQ10, l10, y10, z10⟩, st10⟩ := X9.virtualBack hx (y := (⟨"com/example/concept_reasoner/conceptreasoner/completion/Axioms$LeftOf", "isEmpty", "()Z"⟩ : MethodName)) (z := (⟨"com/example/concept_reasoner/conceptreasoner/completion/Axioms$LeftOf", "isEmpty", "()Z"⟩ : MethodName)) hown (mvT hZ (own_g hw 34 rfl)) (mvT hZ (own_g hw 35 rfl)) (notFace_of_selects (args := #[]) (mvT hZ (own_g hw 37 rfl))) (mvT hZ (own_g hw 37 rfl)) (mvT hZ (own_g hw 36 rfl)) (by decide) (backOf (W := 0) (rm6 l Z a0 hw [] a1 b2 c2 d2 (0 : Int32) (0 : Int32) (1 : Int32) T9.heap n0 Z9 (fq7_2.keep Kq9 (ninS ne_a1_d2 nin0)) (fq10_2.keep Kq9) (fq11_2.keep Kq9 (ninS fq4_2 nin0)) (fq8_2.keep Kq9 (ninS ne_a1_d2 nin0)) (fq13_2.keep Kq9) (fq14_2.keep Kq9 (ninS fq5_2 nin0)) (fq9_2.keep Kq9 (ninS ne_a1_d2 nin0)) fq1_9 fq2_9) hZ (own_g hw 38 rfl) (own_g hw 2 rfl) (by decide) (by decide)) qa10 qc10 (g := (mkF m 137 #[.val (.int p1), .val (.int p2), .val (.int p3), .val (.int p4), .val (.int p5), .val (.ref a1), .val (.int (1 : Int32)), .val (.int (0 : Int32)), .val (.int (0 : Int32)), .val (.int (1 : Int32)), .val (.int (0 : Int32))] [(.ref a1)])) rfl (by rw [hml]; rfl) (Steps.refl _) (argsL := []) (rest := []) (lenOf pd__28_29Z rfl) rfl (by show 2 * 0 + _ ≤ _; exact Nat.le_of_eq rfl) (hb hby at_137) (fun _ _ => ⟨rfl, rfl, (by decide : 5 + 0 ≤ _), (by decide : 13 + 0 ≤ _)⟩)
        dsimp only [Pt.U, Pt.locs, Pt.cells, Pt.slots] at X10 l10 y10 z10 st10 hQ10
        subst l10 y10 z10
        obtain ⟨rfl, Nq10, eq10⟩ := hQ10
        have N10 := Fr.app N9 Nq10
        refine own_trans st10 ?_
        show own_Ends p e below F (T10.setTop (mkF m 140 #[.val (.int p1), .val (.int p2), .val (.int p3), .val (.int p4), .val (.int p5), .val (.ref a1), .val (.int (1 : Int32)), .val (.int (0 : Int32)), .val (.int (0 : Int32)), .val (.int (1 : Int32)), .val (.int (0 : Int32))] [(.int (own_emp3 (0 : Int32) (0 : Int32) (1 : Int32)))]))
        rw [show (own_emp3 (0 : Int32) (0 : Int32) (1 : Int32)) = (0 : Int32) from (by first | rfl | decide)]
        show own_Ends p e below F (T10.setTop (mkF m 140 #[.val (.int p1), .val (.int p2), .val (.int p3), .val (.int p4), .val (.int p5), .val (.ref a1), .val (.int (1 : Int32)), .val (.int (0 : Int32)), .val (.int (0 : Int32)), .val (.int (1 : Int32)), .val (.int (0 : Int32))] [(.int (0 : Int32))]))
        refine own_step (fun _ k => XS.iload X10.here hx rfl (hb hby at_140) rfl k) ?_
        show own_Ends p e below F (T10.setTop (mkF m 142 #[.val (.int p1), .val (.int p2), .val (.int p3), .val (.int p4), .val (.int p5), .val (.ref a1), .val (.int (1 : Int32)), .val (.int (0 : Int32)), .val (.int (0 : Int32)), .val (.int (1 : Int32)), .val (.int (0 : Int32))] [(.int (0 : Int32)), (.int (0 : Int32))]))
        refine own_step (fun _ k => XS.icmpNo X10.here hx rfl (hb hby at_142) rfl (teq (by decide : (0 : Int32) = (0 : Int32))).2 k) ?_
        show own_Ends p e below F (T10.setTop (mkF m 145 #[.val (.int p1), .val (.int p2), .val (.int p3), .val (.int p4), .val (.int p5), .val (.ref a1), .val (.int (1 : Int32)), .val (.int (0 : Int32)), .val (.int (0 : Int32)), .val (.int (1 : Int32)), .val (.int (0 : Int32))] []))
        refine own_step (fun _ k => XS.iconst X10.here hx rfl (hb hby at_145) k) ?_
        show own_Ends p e below F (T10.setTop (mkF m 146 #[.val (.int p1), .val (.int p2), .val (.int p3), .val (.int p4), .val (.int p5), .val (.ref a1), .val (.int (1 : Int32)), .val (.int (0 : Int32)), .val (.int (0 : Int32)), .val (.int (1 : Int32)), .val (.int (0 : Int32))] [(.int (1 : Int32))]))
        refine own_step (fun _ k => XS.goto X10.here hx rfl (pc0 := 146) (pc' := 150) rfl (hb hby at_146) (by decide) (by decide) k) ?_
        show own_Ends p e below F (T10.setTop (mkF m 150 #[.val (.int p1), .val (.int p2), .val (.int p3), .val (.int p4), .val (.int p5), .val (.ref a1), .val (.int (1 : Int32)), .val (.int (0 : Int32)), .val (.int (0 : Int32)), .val (.int (1 : Int32)), .val (.int (0 : Int32))] [(.int (1 : Int32))]))
        rw [hF]
        exact own_ret X10 (v := (some (.int (nar .boolean (1 : Int32))))) (fun h => by rw [Bd.returns] at h; cases h) Bd.notSynchronized (fun fs hr => retN X10 hx (t := .boolean) Bd.returns (by simp) (hb hby at_150) hr) (by decide) (by decide) (by rw [eq10]; exact ⟨rfl, N10⟩)
    · refine own_step (fun _ k => XS.ifNo X3.here hx rfl (hb hby at_32) rfl ((if0 _ _).trans (feq c32_5).1) k) ?_
      show own_Ends p e below F (T3.setTop (mkF m 35 #[.val (.int p1), .val (.int p2), .val (.int p3), .val (.int p4), .val (.int p5), .val (.ref a1), .val (.int (1 : Int32)), .val (.int (0 : Int32)), .unset, .unset, .unset] []))
      refine own_step (fun _ k => XS.iconst X3.here hx rfl (hb hby at_35) k) ?_
      show own_Ends p e below F (T3.setTop (mkF m 36 #[.val (.int p1), .val (.int p2), .val (.int p3), .val (.int p4), .val (.int p5), .val (.ref a1), .val (.int (1 : Int32)), .val (.int (0 : Int32)), .unset, .unset, .unset] [(.int (1 : Int32))]))
      refine own_step (fun _ k => XS.goto X3.here hx rfl (pc0 := 36) (pc' := 40) rfl (hb hby at_36) (by decide) (by decide) k) ?_
      show own_Ends p e below F (T3.setTop (mkF m 40 #[.val (.int p1), .val (.int p2), .val (.int p3), .val (.int p4), .val (.int p5), .val (.ref a1), .val (.int (1 : Int32)), .val (.int (0 : Int32)), .unset, .unset, .unset] [(.int (1 : Int32))]))
      refine own_step (fun _ k => XS.istore X3.here hx rfl (hb hby at_40) rfl (l' := #[.val (.int p1), .val (.int p2), .val (.int p3), .val (.int p4), .val (.int p5), .val (.ref a1), .val (.int (1 : Int32)), .val (.int (0 : Int32)), .val (.int (1 : Int32)), .unset, .unset]) rfl k) ?_
      show own_Ends p e below F (T3.setTop (mkF m 42 #[.val (.int p1), .val (.int p2), .val (.int p3), .val (.int p4), .val (.int p5), .val (.ref a1), .val (.int (1 : Int32)), .val (.int (0 : Int32)), .val (.int (1 : Int32)), .unset, .unset] []))
      refine own_step (fun _ k => XS.iloadN X3.here hx rfl (hb hby at_42) rfl k) ?_
      show own_Ends p e below F (T3.setTop (mkF m 43 #[.val (.int p1), .val (.int p2), .val (.int p3), .val (.int p4), .val (.int p5), .val (.ref a1), .val (.int (1 : Int32)), .val (.int (0 : Int32)), .val (.int (1 : Int32)), .unset, .unset] [(.int p1)]))
      refine own_step (fun _ k => XS.iconst X3.here hx rfl (hb hby at_43) k) ?_
      show own_Ends p e below F (T3.setTop (mkF m 44 #[.val (.int p1), .val (.int p2), .val (.int p3), .val (.int p4), .val (.int p5), .val (.ref a1), .val (.int (1 : Int32)), .val (.int (0 : Int32)), .val (.int (1 : Int32)), .unset, .unset] [(.int (4 : Int32)), (.int p1)]))
      refine own_step (fun _ k => XS.iand X3.here hx rfl (hb hby at_44) rfl k) ?_
      show own_Ends p e below F (T3.setTop (mkF m 45 #[.val (.int p1), .val (.int p2), .val (.int p3), .val (.int p4), .val (.int p5), .val (.ref a1), .val (.int (1 : Int32)), .val (.int (0 : Int32)), .val (.int (1 : Int32)), .unset, .unset] [(.int (p1 &&& (4 : Int32)))]))
      by_cases c45_11 : (p1 &&& (4 : Int32)) = (0 : Int32)
      · refine own_step (fun _ k => XS.ifYes X3.here hx rfl (pc0 := 45) (pc' := 52) rfl (hb hby at_45) rfl ((if0 _ _).trans (teq c45_11).1) (by decide) (by decide) k) ?_
        show own_Ends p e below F (T3.setTop (mkF m 52 #[.val (.int p1), .val (.int p2), .val (.int p3), .val (.int p4), .val (.int p5), .val (.ref a1), .val (.int (1 : Int32)), .val (.int (0 : Int32)), .val (.int (1 : Int32)), .unset, .unset] []))
        refine own_step (fun _ k => XS.iconst X3.here hx rfl (hb hby at_52) k) ?_
        show own_Ends p e below F (T3.setTop (mkF m 53 #[.val (.int p1), .val (.int p2), .val (.int p3), .val (.int p4), .val (.int p5), .val (.ref a1), .val (.int (1 : Int32)), .val (.int (0 : Int32)), .val (.int (1 : Int32)), .unset, .unset] [(.int (0 : Int32))]))
        refine own_step (fun _ k => XS.istore X3.here hx rfl (hb hby at_53) rfl (l' := #[.val (.int p1), .val (.int p2), .val (.int p3), .val (.int p4), .val (.int p5), .val (.ref a1), .val (.int (1 : Int32)), .val (.int (0 : Int32)), .val (.int (1 : Int32)), .val (.int (0 : Int32)), .unset]) rfl k) ?_
        show own_Ends p e below F (T3.setTop (mkF m 55 #[.val (.int p1), .val (.int p2), .val (.int p3), .val (.int p4), .val (.int p5), .val (.ref a1), .val (.int (1 : Int32)), .val (.int (0 : Int32)), .val (.int (1 : Int32)), .val (.int (0 : Int32)), .unset] []))
        refine own_step (fun _ k => XS.iload X3.here hx rfl (hb hby at_55) rfl k) ?_
        show own_Ends p e below F (T3.setTop (mkF m 57 #[.val (.int p1), .val (.int p2), .val (.int p3), .val (.int p4), .val (.int p5), .val (.ref a1), .val (.int (1 : Int32)), .val (.int (0 : Int32)), .val (.int (1 : Int32)), .val (.int (0 : Int32)), .unset] [(.int (0 : Int32))]))
        refine own_step (fun _ k => XS.ifYes X3.here hx rfl (pc0 := 57) (pc' := 69) rfl (hb hby at_57) rfl ((if0 _ _).trans (teq (by decide : (0 : Int32) = (0 : Int32))).1) (by decide) (by decide) k) ?_
        show own_Ends p e below F (T3.setTop (mkF m 69 #[.val (.int p1), .val (.int p2), .val (.int p3), .val (.int p4), .val (.int p5), .val (.ref a1), .val (.int (1 : Int32)), .val (.int (0 : Int32)), .val (.int (1 : Int32)), .val (.int (0 : Int32)), .unset] []))
        refine own_step (fun _ k => XS.iload X3.here hx rfl (hb hby at_69) rfl k) ?_
        show own_Ends p e below F (T3.setTop (mkF m 71 #[.val (.int p1), .val (.int p2), .val (.int p3), .val (.int p4), .val (.int p5), .val (.ref a1), .val (.int (1 : Int32)), .val (.int (0 : Int32)), .val (.int (1 : Int32)), .val (.int (0 : Int32)), .unset] [(.int (1 : Int32))]))
        refine own_step (fun _ k => XS.ifNo X3.here hx rfl (hb hby at_71) rfl ((if0 _ _).trans (feq (by decide : ¬ ((1 : Int32) = (0 : Int32)))).1) k) ?_
        show own_Ends p e below F (T3.setTop (mkF m 74 #[.val (.int p1), .val (.int p2), .val (.int p3), .val (.int p4), .val (.int p5), .val (.ref a1), .val (.int (1 : Int32)), .val (.int (0 : Int32)), .val (.int (1 : Int32)), .val (.int (0 : Int32)), .unset] []))
        refine own_step (fun _ k => XS.aload X3.here hx rfl (hb hby at_74) rfl rfl k) ?_
        show own_Ends p e below F (T3.setTop (mkF m 76 #[.val (.int p1), .val (.int p2), .val (.int p3), .val (.int p4), .val (.int p5), .val (.ref a1), .val (.int (1 : Int32)), .val (.int (0 : Int32)), .val (.int (1 : Int32)), .val (.int (0 : Int32)), .unset] [(.ref a1)]))
        obtain ⟨cq12, kq12, qa12, qb12, qc12⟩ := isOf hZ eq3 fq6_2
        obtain ⟨_, _, ⟨T12, L12, k12, n12⟩, -, X12, ⟨Lc12, hQ12, l12, y12, z12⟩, st12⟩ := X3.virtualBack hx (y := (⟨"com/example/concept_reasoner/conceptreasoner/completion/Axioms$LeftOf", "existentials", "()Lcom/example/concept_reasoner/conceptreasoner/completion/IntList;"⟩ : MethodName)) (z := (⟨"com/example/concept_reasoner/conceptreasoner/completion/Axioms$LeftOf", "existentials", "()Lcom/example/concept_reasoner/conceptreasoner/completion/IntList;"⟩ : MethodName)) hown (mvT hZ (own_g hw 72 rfl)) (mvT hZ (own_g hw 73 rfl)) (notFace_of_selects (args := #[]) (mvT hZ (own_g hw 75 rfl))) (mvT hZ (own_g hw 75 rfl)) (mvT hZ (own_g hw 74 rfl)) (by decide) (backOf (W := 0) (rm13 l Z a0 hw [] a1 c2 T2.heap n0 Z2 fq8_2) hZ (own_g hw 76 rfl) (own_g hw 2 rfl) (by decide) (by decide)) qa12 qc12 (g := (mkF m 76 #[.val (.int p1), .val (.int p2), .val (.int p3), .val (.int p4), .val (.int p5), .val (.ref a1), .val (.int (1 : Int32)), .val (.int (0 : Int32)), .val (.int (1 : Int32)), .val (.int (0 : Int32)), .unset] [(.ref a1)])) rfl (by rw [hml]; rfl) (Steps.refl _) (argsL := []) (rest := []) (lenOf pd__28_29Lcom_2fexample_2fconcept_reasoner_2fconceptreasoner_2fcompletion_2fIntList_3b rfl) rfl (by show 2 * 0 + _ ≤ _; exact Nat.le_of_eq rfl) (hb hby at_76) (fun _ _ => ⟨rfl, eq3, (by decide : 4 + 0 ≤ _), (by decide : 9 + 0 ≤ _)⟩)
        dsimp only [Pt.U, Pt.locs, Pt.cells, Pt.slots] at X12 l12 y12 z12 st12 hQ12
        subst l12 y12 z12
        obtain ⟨rfl, Nq12, eq12⟩ := hQ12
        have N12 := Fr.app N3 Nq12
        refine own_trans st12 ?_
        show own_Ends p e below F (T12.setTop (mkF m 79 #[.val (.int p1), .val (.int p2), .val (.int p3), .val (.int p4), .val (.int p5), .val (.ref a1), .val (.int (1 : Int32)), .val (.int (0 : Int32)), .val (.int (1 : Int32)), .val (.int (0 : Int32)), .unset] [(.ref c2)]))
        refine own_step (fun _ k => XS.astore X12.here hx rfl (hb hby at_79) rfl rfl (l' := #[.val (.int p1), .val (.int p2), .val (.int p3), .val (.int p4), .val (.int p5), .val (.ref a1), .val (.int (1 : Int32)), .val (.int (0 : Int32)), .val (.int (1 : Int32)), .val (.int (0 : Int32)), .val (.ref c2)]) rfl k) ?_
        show own_Ends p e below F (T12.setTop (mkF m 81 #[.val (.int p1), .val (.int p2), .val (.int p3), .val (.int p4), .val (.int p5), .val (.ref a1), .val (.int (1 : Int32)), .val (.int (0 : Int32)), .val (.int (1 : Int32)), .val (.int (0 : Int32)), .val (.ref c2)] []))
        refine own_step (fun _ k => XS.aload X12.here hx rfl (hb hby at_81) rfl rfl k) ?_
        show own_Ends p e below F (T12.setTop (mkF m 83 #[.val (.int p1), .val (.int p2), .val (.int p3), .val (.int p4), .val (.int p5), .val (.ref a1), .val (.int (1 : Int32)), .val (.int (0 : Int32)), .val (.int (1 : Int32)), .val (.int (0 : Int32)), .val (.ref c2)] [(.ref c2)]))
        refine own_step (fun _ k => XS.iloadN X12.here hx rfl (hb hby at_83) rfl k) ?_
        show own_Ends p e below F (T12.setTop (mkF m 84 #[.val (.int p1), .val (.int p2), .val (.int p3), .val (.int p4), .val (.int p5), .val (.ref a1), .val (.int (1 : Int32)), .val (.int (0 : Int32)), .val (.int (1 : Int32)), .val (.int (0 : Int32)), .val (.ref c2)] [(.int p3), (.ref c2)]))
        obtain ⟨cq13, kq13, qa13, qb13, qc13⟩ := isOf hZ eq12 fq13_2
        obtain ⟨_, _, ⟨T13, L13, k13, n13⟩, -, X13, ⟨Lc13, hQ13, l13, y13, z13⟩, st13⟩ := X12.virtualBack hx (y := (⟨"com/example/concept_reasoner/conceptreasoner/completion/IntList", "add", "(I)V"⟩ : MethodName)) (z := (⟨"com/example/concept_reasoner/conceptreasoner/completion/IntList", "add", "(I)V"⟩ : MethodName)) hown (mvT hZ (own_g hw 51 rfl)) (mvT hZ (own_g hw 52 rfl)) (notFace_of_selects (args := #[]) (mvT hZ (own_g hw 54 rfl))) (mvT hZ (own_g hw 54 rfl)) (mvT hZ (own_g hw 53 rfl)) (by decide) (backOf (W := 0) (rm9a l Z a0 hw [] c2 nn p3 kN T2.heap n0 Z2 fq13_2 ge_c2 fq14_2 fq15_2 ((VN.ext E1).keep Kq2 (ninS ne_nn_a1 nin0)) ne_nn_c2) hZ (own_g hw 55 rfl) (own_g hw 8 rfl) (by decide) (by decide)) qa13 qc13 (g := (mkF m 84 #[.val (.int p1), .val (.int p2), .val (.int p3), .val (.int p4), .val (.int p5), .val (.ref a1), .val (.int (1 : Int32)), .val (.int (0 : Int32)), .val (.int (1 : Int32)), .val (.int (0 : Int32)), .val (.ref c2)] [(.int p3), (.ref c2)])) rfl (by rw [hml]; rfl) (Steps.refl _) (argsL := [(.int p3)]) (rest := []) (lenOf pd__28I_29V rfl) rfl (by show 2 * 0 + _ ≤ _; exact Nat.le_of_eq rfl) (hb hby at_84) (fun _ _ => ⟨rfl, eq12, (by decide : 4 + 1 ≤ _), (by decide : 9 + 4 ≤ _)⟩)
        dsimp only [Pt.U, Pt.locs, Pt.cells, Pt.slots] at X13 l13 y13 z13 st13 hQ13
        subst l13 y13 z13
        obtain ⟨c13, kc13, rfl, Nq13, Kq13, fq0_13, fq1_13, fq2_13, fq3_13, fq4_13⟩ := hQ13
        have N13 := Fr.app N12 Nq13
        have Z13 : n0 ≤ T13.heap.size := Nat.le_trans Z2 Kq13.1
        have SZ13 : h0.size ≤ T13.heap.size := Nat.le_trans SZ2 Kq13.1
        have S0_13 := own_Sta_keep S0_2 Kq13 (allS (own_ns_exa fq13_2) all0)
        have ne_nn_c13 : nn ≠ c13 := Nat.ne_of_lt (Nat.lt_of_lt_of_le (((VN.ext E1).keep Kq2 (ninS ne_nn_a1 nin0))).lt fq0_13)
        have ne_a1_c13 : a1 ≠ c13 := Nat.ne_of_lt (Nat.lt_of_lt_of_le (fq7_2).lt fq0_13)
        have ne_b2_c13 : b2 ≠ c13 := Nat.ne_of_lt (Nat.lt_of_lt_of_le (fq10_2).lt fq0_13)
        have ne_c2_c13 : c2 ≠ c13 := Nat.ne_of_lt (Nat.lt_of_lt_of_le (fq13_2).lt fq0_13)
        have ne_d2_c13 : d2 ≠ c13 := Nat.ne_of_lt (Nat.lt_of_lt_of_le (fq16_2).lt fq0_13)
        have ge_c13 : n0 ≤ c13 := Nat.le_trans Z2 fq0_13
        have sz_c13 : h0.size ≤ c13 := Nat.le_trans SZ2 fq0_13
        refine own_trans st13 ?_
        show own_Ends p e below F (T13.setTop (mkF m 87 #[.val (.int p1), .val (.int p2), .val (.int p3), .val (.int p4), .val (.int p5), .val (.ref a1), .val (.int (1 : Int32)), .val (.int (0 : Int32)), .val (.int (1 : Int32)), .val (.int (0 : Int32)), .val (.ref c2)] []))
        refine own_step (fun _ k => XS.aload X13.here hx rfl (hb hby at_87) rfl rfl k) ?_
        show own_Ends p e below F (T13.setTop (mkF m 89 #[.val (.int p1), .val (.int p2), .val (.int p3), .val (.int p4), .val (.int p5), .val (.ref a1), .val (.int (1 : Int32)), .val (.int (0 : Int32)), .val (.int (1 : Int32)), .val (.int (0 : Int32)), .val (.ref c2)] [(.ref c2)]))
        refine own_step (fun _ k => XS.iloadN X13.here hx rfl (hb hby at_89) rfl k) ?_
        show own_Ends p e below F (T13.setTop (mkF m 90 #[.val (.int p1), .val (.int p2), .val (.int p3), .val (.int p4), .val (.int p5), .val (.ref a1), .val (.int (1 : Int32)), .val (.int (0 : Int32)), .val (.int (1 : Int32)), .val (.int (0 : Int32)), .val (.ref c2)] [(.int p4), (.ref c2)]))
        obtain ⟨cq14, kq14, qa14, qb14, qc14⟩ := isOf hZ rfl fq1_13
        obtain ⟨_, _, ⟨T14, L14, k14, n14⟩, -, X14, ⟨Lc14, hQ14, l14, y14, z14⟩, st14⟩ := X13.virtualBack hx (y := (⟨"com/example/concept_reasoner/conceptreasoner/completion/IntList", "add", "(I)V"⟩ : MethodName)) (z := (⟨"com/example/concept_reasoner/conceptreasoner/completion/IntList", "add", "(I)V"⟩ : MethodName)) hown (mvT hZ (own_g hw 51 rfl)) (mvT hZ (own_g hw 52 rfl)) (notFace_of_selects (args := #[]) (mvT hZ (own_g hw 54 rfl))) (mvT hZ (own_g hw 54 rfl)) (mvT hZ (own_g hw 53 rfl)) (by decide) (backOf (W := 0) (rm9b l Z a0 hw [] c2 c13 p4 (1 : Int32) kc13 [(.int p3), (.int (0 : Int32)), (.int (0 : Int32)), (.int (0 : Int32))] T13.heap n0 Z13 fq1_13 ge_c2 fq2_13 fq3_13 fq4_13 (Ne.symm ne_c2_c13) ge_c13 (by decide) ⟨by decide, by decide⟩ (Nat.le_of_ble_eq_true rfl)) hZ (own_g hw 55 rfl) (own_g hw 8 rfl) (by decide) (by decide)) qa14 qc14 (g := (mkF m 90 #[.val (.int p1), .val (.int p2), .val (.int p3), .val (.int p4), .val (.int p5), .val (.ref a1), .val (.int (1 : Int32)), .val (.int (0 : Int32)), .val (.int (1 : Int32)), .val (.int (0 : Int32)), .val (.ref c2)] [(.int p4), (.ref c2)])) rfl (by rw [hml]; rfl) (Steps.refl _) (argsL := [(.int p4)]) (rest := []) (lenOf pd__28I_29V rfl) rfl (by show 2 * 0 + _ ≤ _; exact Nat.le_of_eq rfl) (hb hby at_90) (fun _ _ => ⟨rfl, rfl, (by decide : 5 + 0 ≤ _), (by decide : 13 + 0 ≤ _)⟩)
        dsimp only [Pt.U, Pt.locs, Pt.cells, Pt.slots] at X14 l14 y14 z14 st14 hQ14
        subst l14 y14 z14
        obtain ⟨rfl, Nq14, Kq14, fq0_14, fq1_14, fq2_14, fq3_14⟩ := hQ14
        have N14 := Fr.app N13 Nq14
        have Z14 : n0 ≤ T14.heap.size := Nat.le_trans Z13 Kq14.1
        have SZ14 : h0.size ≤ T14.heap.size := Nat.le_trans SZ13 Kq14.1
        have S0_14 := own_Sta_keep S0_13 Kq14 (allS (own_ns_exa fq1_13) (allS (own_ns_arv fq4_13) all0))
        have fs14 : Fld Z T14.heap c2 "com/example/concept_reasoner/conceptreasoner/completion/IntList" "size" "I" (.int (2 : Int32)) := fq1_14
        have fv14 : Arv Z T14.heap c13 kc13 .int (4 : Int32) [(.int p3), (.int p4), (.int (0 : Int32)), (.int (0 : Int32))] (.int (0 : Int32)) := fq3_14
        refine own_trans st14 ?_
        show own_Ends p e below F (T14.setTop (mkF m 93 #[.val (.int p1), .val (.int p2), .val (.int p3), .val (.int p4), .val (.int p5), .val (.ref a1), .val (.int (1 : Int32)), .val (.int (0 : Int32)), .val (.int (1 : Int32)), .val (.int (0 : Int32)), .val (.ref c2)] []))
        refine own_step (fun _ k => XS.iload X14.here hx rfl (hb hby at_93) rfl k) ?_
        show own_Ends p e below F (T14.setTop (mkF m 95 #[.val (.int p1), .val (.int p2), .val (.int p3), .val (.int p4), .val (.int p5), .val (.ref a1), .val (.int (1 : Int32)), .val (.int (0 : Int32)), .val (.int (1 : Int32)), .val (.int (0 : Int32)), .val (.ref c2)] [(.int (0 : Int32))]))
        refine own_step (fun _ k => XS.ifYes X14.here hx rfl (pc0 := 95) (pc' := 108) rfl (hb hby at_95) rfl ((if0 _ _).trans (teq (by decide : (0 : Int32) = (0 : Int32))).1) (by decide) (by decide) k) ?_
        show own_Ends p e below F (T14.setTop (mkF m 108 #[.val (.int p1), .val (.int p2), .val (.int p3), .val (.int p4), .val (.int p5), .val (.ref a1), .val (.int (1 : Int32)), .val (.int (0 : Int32)), .val (.int (1 : Int32)), .val (.int (0 : Int32)), .val (.ref c2)] []))
        refine own_step (fun _ k => XS.iload X14.here hx rfl (hb hby at_108) rfl k) ?_
        show own_Ends p e below F (T14.setTop (mkF m 110 #[.val (.int p1), .val (.int p2), .val (.int p3), .val (.int p4), .val (.int p5), .val (.ref a1), .val (.int (1 : Int32)), .val (.int (0 : Int32)), .val (.int (1 : Int32)), .val (.int (0 : Int32)), .val (.ref c2)] [(.int (0 : Int32))]))
        refine own_step (fun _ k => XS.ifNo X14.here hx rfl (hb hby at_110) rfl ((if0 _ _).trans (teq (by decide : (0 : Int32) = (0 : Int32))).2) k) ?_
        show own_Ends p e below F (T14.setTop (mkF m 113 #[.val (.int p1), .val (.int p2), .val (.int p3), .val (.int p4), .val (.int p5), .val (.ref a1), .val (.int (1 : Int32)), .val (.int (0 : Int32)), .val (.int (1 : Int32)), .val (.int (0 : Int32)), .val (.ref c2)] []))
        refine own_step (fun _ k => XS.iload X14.here hx rfl (hb hby at_113) rfl k) ?_
        show own_Ends p e below F (T14.setTop (mkF m 115 #[.val (.int p1), .val (.int p2), .val (.int p3), .val (.int p4), .val (.int p5), .val (.ref a1), .val (.int (1 : Int32)), .val (.int (0 : Int32)), .val (.int (1 : Int32)), .val (.int (0 : Int32)), .val (.ref c2)] [(.int (1 : Int32))]))
        refine own_step (fun _ k => XS.ifYes X14.here hx rfl (pc0 := 115) (pc' := 127) rfl (hb hby at_115) rfl ((if0 _ _).trans (feq (by decide : ¬ ((1 : Int32) = (0 : Int32)))).2) (by decide) (by decide) k) ?_
        show own_Ends p e below F (T14.setTop (mkF m 127 #[.val (.int p1), .val (.int p2), .val (.int p3), .val (.int p4), .val (.int p5), .val (.ref a1), .val (.int (1 : Int32)), .val (.int (0 : Int32)), .val (.int (1 : Int32)), .val (.int (0 : Int32)), .val (.ref c2)] []))
        refine own_step (fun _ k => XS.iconst X14.here hx rfl (hb hby at_127) k) ?_
        show own_Ends p e below F (T14.setTop (mkF m 128 #[.val (.int p1), .val (.int p2), .val (.int p3), .val (.int p4), .val (.int p5), .val (.ref a1), .val (.int (1 : Int32)), .val (.int (0 : Int32)), .val (.int (1 : Int32)), .val (.int (0 : Int32)), .val (.ref c2)] [(.int (0 : Int32))]))
        refine own_step (fun _ k => XS.istore X14.here hx rfl (hb hby at_128) rfl (l' := #[.val (.int p1), .val (.int p2), .val (.int p3), .val (.int p4), .val (.int p5), .val (.ref a1), .val (.int (1 : Int32)), .val (.int (0 : Int32)), .val (.int (1 : Int32)), .val (.int (0 : Int32)), .val (.int (0 : Int32))]) rfl k) ?_
        show own_Ends p e below F (T14.setTop (mkF m 130 #[.val (.int p1), .val (.int p2), .val (.int p3), .val (.int p4), .val (.int p5), .val (.ref a1), .val (.int (1 : Int32)), .val (.int (0 : Int32)), .val (.int (1 : Int32)), .val (.int (0 : Int32)), .val (.int (0 : Int32))] []))
        refine own_step (fun _ k => XS.iload X14.here hx rfl (hb hby at_130) rfl k) ?_
        show own_Ends p e below F (T14.setTop (mkF m 132 #[.val (.int p1), .val (.int p2), .val (.int p3), .val (.int p4), .val (.int p5), .val (.ref a1), .val (.int (1 : Int32)), .val (.int (0 : Int32)), .val (.int (1 : Int32)), .val (.int (0 : Int32)), .val (.int (0 : Int32))] [(.int (1 : Int32))]))
        refine own_step (fun _ k => XS.ifNo X14.here hx rfl (hb hby at_132) rfl ((if0 _ _).trans (feq (by decide : ¬ ((1 : Int32) = (0 : Int32)))).1) k) ?_
        show own_Ends p e below F (T14.setTop (mkF m 135 #[.val (.int p1), .val (.int p2), .val (.int p3), .val (.int p4), .val (.int p5), .val (.ref a1), .val (.int (1 : Int32)), .val (.int (0 : Int32)), .val (.int (1 : Int32)), .val (.int (0 : Int32)), .val (.int (0 : Int32))] []))
        refine own_step (fun _ k => XS.aload X14.here hx rfl (hb hby at_135) rfl rfl k) ?_
        show own_Ends p e below F (T14.setTop (mkF m 137 #[.val (.int p1), .val (.int p2), .val (.int p3), .val (.int p4), .val (.int p5), .val (.ref a1), .val (.int (1 : Int32)), .val (.int (0 : Int32)), .val (.int (1 : Int32)), .val (.int (0 : Int32)), .val (.int (0 : Int32))] [(.ref a1)]))
        obtain ⟨cq15, kq15, qa15, qb15, qc15⟩ := isOf hZ rfl ((fq6_2.keep Kq13).keep Kq14)
        obtain ⟨_, _, ⟨T15, L15, k15, n15⟩, -, X15, ⟨Lc15, hQ15, l15, y15, z15⟩, st15⟩ := X14.virtualBack hx (y := (⟨"com/example/concept_reasoner/conceptreasoner/completion/Axioms$LeftOf", "isEmpty", "()Z"⟩ : MethodName)) (z := (⟨"com/example/concept_reasoner/conceptreasoner/completion/Axioms$LeftOf", "isEmpty", "()Z"⟩ : MethodName)) hown (mvT hZ (own_g hw 34 rfl)) (mvT hZ (own_g hw 35 rfl)) (notFace_of_selects (args := #[]) (mvT hZ (own_g hw 37 rfl))) (mvT hZ (own_g hw 37 rfl)) (mvT hZ (own_g hw 36 rfl)) (by decide) (backOf (W := 0) (rm6 l Z a0 hw [] a1 b2 c2 d2 (0 : Int32) (2 : Int32) (0 : Int32) T14.heap n0 Z14 ((fq7_2.keep Kq13 (ninS ne_a1_c2 nin0)).keep Kq14 (ninS ne_a1_c2 (ninS ne_a1_c13 nin0))) ((fq10_2.keep Kq13).keep Kq14) ((fq11_2.keep Kq13 (ninS fq3_2 nin0)).keep Kq14 (ninS fq3_2 (ninS ne_b2_c13 nin0))) ((fq8_2.keep Kq13 (ninS ne_a1_c2 nin0)).keep Kq14 (ninS ne_a1_c2 (ninS ne_a1_c13 nin0))) fq0_14 fs14 ((fq9_2.keep Kq13 (ninS ne_a1_c2 nin0)).keep Kq14 (ninS ne_a1_c2 (ninS ne_a1_c13 nin0))) ((fq16_2.keep Kq13).keep Kq14) ((fq17_2.keep Kq13 (ninS (Ne.symm fq5_2) nin0)).keep Kq14 (ninS (Ne.symm fq5_2) (ninS ne_d2_c13 nin0)))) hZ (own_g hw 38 rfl) (own_g hw 2 rfl) (by decide) (by decide)) qa15 qc15 (g := (mkF m 137 #[.val (.int p1), .val (.int p2), .val (.int p3), .val (.int p4), .val (.int p5), .val (.ref a1), .val (.int (1 : Int32)), .val (.int (0 : Int32)), .val (.int (1 : Int32)), .val (.int (0 : Int32)), .val (.int (0 : Int32))] [(.ref a1)])) rfl (by rw [hml]; rfl) (Steps.refl _) (argsL := []) (rest := []) (lenOf pd__28_29Z rfl) rfl (by show 2 * 0 + _ ≤ _; exact Nat.le_of_eq rfl) (hb hby at_137) (fun _ _ => ⟨rfl, rfl, (by decide : 5 + 0 ≤ _), (by decide : 13 + 0 ≤ _)⟩)
        dsimp only [Pt.U, Pt.locs, Pt.cells, Pt.slots] at X15 l15 y15 z15 st15 hQ15
        subst l15 y15 z15
        obtain ⟨rfl, Nq15, eq15⟩ := hQ15
        have N15 := Fr.app N14 Nq15
        refine own_trans st15 ?_
        show own_Ends p e below F (T15.setTop (mkF m 140 #[.val (.int p1), .val (.int p2), .val (.int p3), .val (.int p4), .val (.int p5), .val (.ref a1), .val (.int (1 : Int32)), .val (.int (0 : Int32)), .val (.int (1 : Int32)), .val (.int (0 : Int32)), .val (.int (0 : Int32))] [(.int (own_emp3 (0 : Int32) (2 : Int32) (0 : Int32)))]))
        rw [show (own_emp3 (0 : Int32) (2 : Int32) (0 : Int32)) = (0 : Int32) from (by first | rfl | decide)]
        show own_Ends p e below F (T15.setTop (mkF m 140 #[.val (.int p1), .val (.int p2), .val (.int p3), .val (.int p4), .val (.int p5), .val (.ref a1), .val (.int (1 : Int32)), .val (.int (0 : Int32)), .val (.int (1 : Int32)), .val (.int (0 : Int32)), .val (.int (0 : Int32))] [(.int (0 : Int32))]))
        refine own_step (fun _ k => XS.iload X15.here hx rfl (hb hby at_140) rfl k) ?_
        show own_Ends p e below F (T15.setTop (mkF m 142 #[.val (.int p1), .val (.int p2), .val (.int p3), .val (.int p4), .val (.int p5), .val (.ref a1), .val (.int (1 : Int32)), .val (.int (0 : Int32)), .val (.int (1 : Int32)), .val (.int (0 : Int32)), .val (.int (0 : Int32))] [(.int (0 : Int32)), (.int (0 : Int32))]))
        refine own_step (fun _ k => XS.icmpNo X15.here hx rfl (hb hby at_142) rfl (teq (by decide : (0 : Int32) = (0 : Int32))).2 k) ?_
        show own_Ends p e below F (T15.setTop (mkF m 145 #[.val (.int p1), .val (.int p2), .val (.int p3), .val (.int p4), .val (.int p5), .val (.ref a1), .val (.int (1 : Int32)), .val (.int (0 : Int32)), .val (.int (1 : Int32)), .val (.int (0 : Int32)), .val (.int (0 : Int32))] []))
        refine own_step (fun _ k => XS.iconst X15.here hx rfl (hb hby at_145) k) ?_
        show own_Ends p e below F (T15.setTop (mkF m 146 #[.val (.int p1), .val (.int p2), .val (.int p3), .val (.int p4), .val (.int p5), .val (.ref a1), .val (.int (1 : Int32)), .val (.int (0 : Int32)), .val (.int (1 : Int32)), .val (.int (0 : Int32)), .val (.int (0 : Int32))] [(.int (1 : Int32))]))
        refine own_step (fun _ k => XS.goto X15.here hx rfl (pc0 := 146) (pc' := 150) rfl (hb hby at_146) (by decide) (by decide) k) ?_
        show own_Ends p e below F (T15.setTop (mkF m 150 #[.val (.int p1), .val (.int p2), .val (.int p3), .val (.int p4), .val (.int p5), .val (.ref a1), .val (.int (1 : Int32)), .val (.int (0 : Int32)), .val (.int (1 : Int32)), .val (.int (0 : Int32)), .val (.int (0 : Int32))] [(.int (1 : Int32))]))
        rw [hF]
        exact own_ret X15 (v := (some (.int (nar .boolean (1 : Int32))))) (fun h => by rw [Bd.returns] at h; cases h) Bd.notSynchronized (fun fs hr => retN X15 hx (t := .boolean) Bd.returns (by simp) (hb hby at_150) hr) (by decide) (by decide) (by rw [eq15]; exact ⟨rfl, N15⟩)
      · refine own_step (fun _ k => XS.ifNo X3.here hx rfl (hb hby at_45) rfl ((if0 _ _).trans (feq c45_11).1) k) ?_
        show own_Ends p e below F (T3.setTop (mkF m 48 #[.val (.int p1), .val (.int p2), .val (.int p3), .val (.int p4), .val (.int p5), .val (.ref a1), .val (.int (1 : Int32)), .val (.int (0 : Int32)), .val (.int (1 : Int32)), .unset, .unset] []))
        refine own_step (fun _ k => XS.iconst X3.here hx rfl (hb hby at_48) k) ?_
        show own_Ends p e below F (T3.setTop (mkF m 49 #[.val (.int p1), .val (.int p2), .val (.int p3), .val (.int p4), .val (.int p5), .val (.ref a1), .val (.int (1 : Int32)), .val (.int (0 : Int32)), .val (.int (1 : Int32)), .unset, .unset] [(.int (1 : Int32))]))
        refine own_step (fun _ k => XS.goto X3.here hx rfl (pc0 := 49) (pc' := 53) rfl (hb hby at_49) (by decide) (by decide) k) ?_
        show own_Ends p e below F (T3.setTop (mkF m 53 #[.val (.int p1), .val (.int p2), .val (.int p3), .val (.int p4), .val (.int p5), .val (.ref a1), .val (.int (1 : Int32)), .val (.int (0 : Int32)), .val (.int (1 : Int32)), .unset, .unset] [(.int (1 : Int32))]))
        refine own_step (fun _ k => XS.istore X3.here hx rfl (hb hby at_53) rfl (l' := #[.val (.int p1), .val (.int p2), .val (.int p3), .val (.int p4), .val (.int p5), .val (.ref a1), .val (.int (1 : Int32)), .val (.int (0 : Int32)), .val (.int (1 : Int32)), .val (.int (1 : Int32)), .unset]) rfl k) ?_
        show own_Ends p e below F (T3.setTop (mkF m 55 #[.val (.int p1), .val (.int p2), .val (.int p3), .val (.int p4), .val (.int p5), .val (.ref a1), .val (.int (1 : Int32)), .val (.int (0 : Int32)), .val (.int (1 : Int32)), .val (.int (1 : Int32)), .unset] []))
        refine own_step (fun _ k => XS.iload X3.here hx rfl (hb hby at_55) rfl k) ?_
        show own_Ends p e below F (T3.setTop (mkF m 57 #[.val (.int p1), .val (.int p2), .val (.int p3), .val (.int p4), .val (.int p5), .val (.ref a1), .val (.int (1 : Int32)), .val (.int (0 : Int32)), .val (.int (1 : Int32)), .val (.int (1 : Int32)), .unset] [(.int (0 : Int32))]))
        refine own_step (fun _ k => XS.ifYes X3.here hx rfl (pc0 := 57) (pc' := 69) rfl (hb hby at_57) rfl ((if0 _ _).trans (teq (by decide : (0 : Int32) = (0 : Int32))).1) (by decide) (by decide) k) ?_
        show own_Ends p e below F (T3.setTop (mkF m 69 #[.val (.int p1), .val (.int p2), .val (.int p3), .val (.int p4), .val (.int p5), .val (.ref a1), .val (.int (1 : Int32)), .val (.int (0 : Int32)), .val (.int (1 : Int32)), .val (.int (1 : Int32)), .unset] []))
        refine own_step (fun _ k => XS.iload X3.here hx rfl (hb hby at_69) rfl k) ?_
        show own_Ends p e below F (T3.setTop (mkF m 71 #[.val (.int p1), .val (.int p2), .val (.int p3), .val (.int p4), .val (.int p5), .val (.ref a1), .val (.int (1 : Int32)), .val (.int (0 : Int32)), .val (.int (1 : Int32)), .val (.int (1 : Int32)), .unset] [(.int (1 : Int32))]))
        refine own_step (fun _ k => XS.ifNo X3.here hx rfl (hb hby at_71) rfl ((if0 _ _).trans (feq (by decide : ¬ ((1 : Int32) = (0 : Int32)))).1) k) ?_
        show own_Ends p e below F (T3.setTop (mkF m 74 #[.val (.int p1), .val (.int p2), .val (.int p3), .val (.int p4), .val (.int p5), .val (.ref a1), .val (.int (1 : Int32)), .val (.int (0 : Int32)), .val (.int (1 : Int32)), .val (.int (1 : Int32)), .unset] []))
        refine own_step (fun _ k => XS.aload X3.here hx rfl (hb hby at_74) rfl rfl k) ?_
        show own_Ends p e below F (T3.setTop (mkF m 76 #[.val (.int p1), .val (.int p2), .val (.int p3), .val (.int p4), .val (.int p5), .val (.ref a1), .val (.int (1 : Int32)), .val (.int (0 : Int32)), .val (.int (1 : Int32)), .val (.int (1 : Int32)), .unset] [(.ref a1)]))
        obtain ⟨cq16, kq16, qa16, qb16, qc16⟩ := isOf hZ eq3 fq6_2
        obtain ⟨_, _, ⟨T16, L16, k16, n16⟩, -, X16, ⟨Lc16, hQ16, l16, y16, z16⟩, st16⟩ := X3.virtualBack hx (y := (⟨"com/example/concept_reasoner/conceptreasoner/completion/Axioms$LeftOf", "existentials", "()Lcom/example/concept_reasoner/conceptreasoner/completion/IntList;"⟩ : MethodName)) (z := (⟨"com/example/concept_reasoner/conceptreasoner/completion/Axioms$LeftOf", "existentials", "()Lcom/example/concept_reasoner/conceptreasoner/completion/IntList;"⟩ : MethodName)) hown (mvT hZ (own_g hw 72 rfl)) (mvT hZ (own_g hw 73 rfl)) (notFace_of_selects (args := #[]) (mvT hZ (own_g hw 75 rfl))) (mvT hZ (own_g hw 75 rfl)) (mvT hZ (own_g hw 74 rfl)) (by decide) (backOf (W := 0) (rm13 l Z a0 hw [] a1 c2 T2.heap n0 Z2 fq8_2) hZ (own_g hw 76 rfl) (own_g hw 2 rfl) (by decide) (by decide)) qa16 qc16 (g := (mkF m 76 #[.val (.int p1), .val (.int p2), .val (.int p3), .val (.int p4), .val (.int p5), .val (.ref a1), .val (.int (1 : Int32)), .val (.int (0 : Int32)), .val (.int (1 : Int32)), .val (.int (1 : Int32)), .unset] [(.ref a1)])) rfl (by rw [hml]; rfl) (Steps.refl _) (argsL := []) (rest := []) (lenOf pd__28_29Lcom_2fexample_2fconcept_reasoner_2fconceptreasoner_2fcompletion_2fIntList_3b rfl) rfl (by show 2 * 0 + _ ≤ _; exact Nat.le_of_eq rfl) (hb hby at_76) (fun _ _ => ⟨rfl, eq3, (by decide : 4 + 0 ≤ _), (by decide : 9 + 0 ≤ _)⟩)
        dsimp only [Pt.U, Pt.locs, Pt.cells, Pt.slots] at X16 l16 y16 z16 st16 hQ16
        subst l16 y16 z16
        obtain ⟨rfl, Nq16, eq16⟩ := hQ16
        have N16 := Fr.app N3 Nq16
        refine own_trans st16 ?_
        show own_Ends p e below F (T16.setTop (mkF m 79 #[.val (.int p1), .val (.int p2), .val (.int p3), .val (.int p4), .val (.int p5), .val (.ref a1), .val (.int (1 : Int32)), .val (.int (0 : Int32)), .val (.int (1 : Int32)), .val (.int (1 : Int32)), .unset] [(.ref c2)]))
        refine own_step (fun _ k => XS.astore X16.here hx rfl (hb hby at_79) rfl rfl (l' := #[.val (.int p1), .val (.int p2), .val (.int p3), .val (.int p4), .val (.int p5), .val (.ref a1), .val (.int (1 : Int32)), .val (.int (0 : Int32)), .val (.int (1 : Int32)), .val (.int (1 : Int32)), .val (.ref c2)]) rfl k) ?_
        show own_Ends p e below F (T16.setTop (mkF m 81 #[.val (.int p1), .val (.int p2), .val (.int p3), .val (.int p4), .val (.int p5), .val (.ref a1), .val (.int (1 : Int32)), .val (.int (0 : Int32)), .val (.int (1 : Int32)), .val (.int (1 : Int32)), .val (.ref c2)] []))
        refine own_step (fun _ k => XS.aload X16.here hx rfl (hb hby at_81) rfl rfl k) ?_
        show own_Ends p e below F (T16.setTop (mkF m 83 #[.val (.int p1), .val (.int p2), .val (.int p3), .val (.int p4), .val (.int p5), .val (.ref a1), .val (.int (1 : Int32)), .val (.int (0 : Int32)), .val (.int (1 : Int32)), .val (.int (1 : Int32)), .val (.ref c2)] [(.ref c2)]))
        refine own_step (fun _ k => XS.iloadN X16.here hx rfl (hb hby at_83) rfl k) ?_
        show own_Ends p e below F (T16.setTop (mkF m 84 #[.val (.int p1), .val (.int p2), .val (.int p3), .val (.int p4), .val (.int p5), .val (.ref a1), .val (.int (1 : Int32)), .val (.int (0 : Int32)), .val (.int (1 : Int32)), .val (.int (1 : Int32)), .val (.ref c2)] [(.int p3), (.ref c2)]))
        obtain ⟨cq17, kq17, qa17, qb17, qc17⟩ := isOf hZ eq16 fq13_2
        obtain ⟨_, _, ⟨T17, L17, k17, n17⟩, -, X17, ⟨Lc17, hQ17, l17, y17, z17⟩, st17⟩ := X16.virtualBack hx (y := (⟨"com/example/concept_reasoner/conceptreasoner/completion/IntList", "add", "(I)V"⟩ : MethodName)) (z := (⟨"com/example/concept_reasoner/conceptreasoner/completion/IntList", "add", "(I)V"⟩ : MethodName)) hown (mvT hZ (own_g hw 51 rfl)) (mvT hZ (own_g hw 52 rfl)) (notFace_of_selects (args := #[]) (mvT hZ (own_g hw 54 rfl))) (mvT hZ (own_g hw 54 rfl)) (mvT hZ (own_g hw 53 rfl)) (by decide) (backOf (W := 0) (rm9a l Z a0 hw [] c2 nn p3 kN T2.heap n0 Z2 fq13_2 ge_c2 fq14_2 fq15_2 ((VN.ext E1).keep Kq2 (ninS ne_nn_a1 nin0)) ne_nn_c2) hZ (own_g hw 55 rfl) (own_g hw 8 rfl) (by decide) (by decide)) qa17 qc17 (g := (mkF m 84 #[.val (.int p1), .val (.int p2), .val (.int p3), .val (.int p4), .val (.int p5), .val (.ref a1), .val (.int (1 : Int32)), .val (.int (0 : Int32)), .val (.int (1 : Int32)), .val (.int (1 : Int32)), .val (.ref c2)] [(.int p3), (.ref c2)])) rfl (by rw [hml]; rfl) (Steps.refl _) (argsL := [(.int p3)]) (rest := []) (lenOf pd__28I_29V rfl) rfl (by show 2 * 0 + _ ≤ _; exact Nat.le_of_eq rfl) (hb hby at_84) (fun _ _ => ⟨rfl, eq16, (by decide : 4 + 1 ≤ _), (by decide : 9 + 4 ≤ _)⟩)
        dsimp only [Pt.U, Pt.locs, Pt.cells, Pt.slots] at X17 l17 y17 z17 st17 hQ17
        subst l17 y17 z17
        obtain ⟨c17, kc17, rfl, Nq17, Kq17, fq0_17, fq1_17, fq2_17, fq3_17, fq4_17⟩ := hQ17
        have N17 := Fr.app N16 Nq17
        have Z17 : n0 ≤ T17.heap.size := Nat.le_trans Z2 Kq17.1
        have SZ17 : h0.size ≤ T17.heap.size := Nat.le_trans SZ2 Kq17.1
        have S0_17 := own_Sta_keep S0_2 Kq17 (allS (own_ns_exa fq13_2) all0)
        have ne_nn_c17 : nn ≠ c17 := Nat.ne_of_lt (Nat.lt_of_lt_of_le (((VN.ext E1).keep Kq2 (ninS ne_nn_a1 nin0))).lt fq0_17)
        have ne_a1_c17 : a1 ≠ c17 := Nat.ne_of_lt (Nat.lt_of_lt_of_le (fq7_2).lt fq0_17)
        have ne_b2_c17 : b2 ≠ c17 := Nat.ne_of_lt (Nat.lt_of_lt_of_le (fq10_2).lt fq0_17)
        have ne_c2_c17 : c2 ≠ c17 := Nat.ne_of_lt (Nat.lt_of_lt_of_le (fq13_2).lt fq0_17)
        have ne_d2_c17 : d2 ≠ c17 := Nat.ne_of_lt (Nat.lt_of_lt_of_le (fq16_2).lt fq0_17)
        have ge_c17 : n0 ≤ c17 := Nat.le_trans Z2 fq0_17
        have sz_c17 : h0.size ≤ c17 := Nat.le_trans SZ2 fq0_17
        refine own_trans st17 ?_
        show own_Ends p e below F (T17.setTop (mkF m 87 #[.val (.int p1), .val (.int p2), .val (.int p3), .val (.int p4), .val (.int p5), .val (.ref a1), .val (.int (1 : Int32)), .val (.int (0 : Int32)), .val (.int (1 : Int32)), .val (.int (1 : Int32)), .val (.ref c2)] []))
        refine own_step (fun _ k => XS.aload X17.here hx rfl (hb hby at_87) rfl rfl k) ?_
        show own_Ends p e below F (T17.setTop (mkF m 89 #[.val (.int p1), .val (.int p2), .val (.int p3), .val (.int p4), .val (.int p5), .val (.ref a1), .val (.int (1 : Int32)), .val (.int (0 : Int32)), .val (.int (1 : Int32)), .val (.int (1 : Int32)), .val (.ref c2)] [(.ref c2)]))
        refine own_step (fun _ k => XS.iloadN X17.here hx rfl (hb hby at_89) rfl k) ?_
        show own_Ends p e below F (T17.setTop (mkF m 90 #[.val (.int p1), .val (.int p2), .val (.int p3), .val (.int p4), .val (.int p5), .val (.ref a1), .val (.int (1 : Int32)), .val (.int (0 : Int32)), .val (.int (1 : Int32)), .val (.int (1 : Int32)), .val (.ref c2)] [(.int p4), (.ref c2)]))
        obtain ⟨cq18, kq18, qa18, qb18, qc18⟩ := isOf hZ rfl fq1_17
        obtain ⟨_, _, ⟨T18, L18, k18, n18⟩, -, X18, ⟨Lc18, hQ18, l18, y18, z18⟩, st18⟩ := X17.virtualBack hx (y := (⟨"com/example/concept_reasoner/conceptreasoner/completion/IntList", "add", "(I)V"⟩ : MethodName)) (z := (⟨"com/example/concept_reasoner/conceptreasoner/completion/IntList", "add", "(I)V"⟩ : MethodName)) hown (mvT hZ (own_g hw 51 rfl)) (mvT hZ (own_g hw 52 rfl)) (notFace_of_selects (args := #[]) (mvT hZ (own_g hw 54 rfl))) (mvT hZ (own_g hw 54 rfl)) (mvT hZ (own_g hw 53 rfl)) (by decide) (backOf (W := 0) (rm9b l Z a0 hw [] c2 c17 p4 (1 : Int32) kc17 [(.int p3), (.int (0 : Int32)), (.int (0 : Int32)), (.int (0 : Int32))] T17.heap n0 Z17 fq1_17 ge_c2 fq2_17 fq3_17 fq4_17 (Ne.symm ne_c2_c17) ge_c17 (by decide) ⟨by decide, by decide⟩ (Nat.le_of_ble_eq_true rfl)) hZ (own_g hw 55 rfl) (own_g hw 8 rfl) (by decide) (by decide)) qa18 qc18 (g := (mkF m 90 #[.val (.int p1), .val (.int p2), .val (.int p3), .val (.int p4), .val (.int p5), .val (.ref a1), .val (.int (1 : Int32)), .val (.int (0 : Int32)), .val (.int (1 : Int32)), .val (.int (1 : Int32)), .val (.ref c2)] [(.int p4), (.ref c2)])) rfl (by rw [hml]; rfl) (Steps.refl _) (argsL := [(.int p4)]) (rest := []) (lenOf pd__28I_29V rfl) rfl (by show 2 * 0 + _ ≤ _; exact Nat.le_of_eq rfl) (hb hby at_90) (fun _ _ => ⟨rfl, rfl, (by decide : 5 + 0 ≤ _), (by decide : 13 + 0 ≤ _)⟩)
        dsimp only [Pt.U, Pt.locs, Pt.cells, Pt.slots] at X18 l18 y18 z18 st18 hQ18
        subst l18 y18 z18
        obtain ⟨rfl, Nq18, Kq18, fq0_18, fq1_18, fq2_18, fq3_18⟩ := hQ18
        have N18 := Fr.app N17 Nq18
        have Z18 : n0 ≤ T18.heap.size := Nat.le_trans Z17 Kq18.1
        have SZ18 : h0.size ≤ T18.heap.size := Nat.le_trans SZ17 Kq18.1
        have S0_18 := own_Sta_keep S0_17 Kq18 (allS (own_ns_exa fq1_17) (allS (own_ns_arv fq4_17) all0))
        have fs18 : Fld Z T18.heap c2 "com/example/concept_reasoner/conceptreasoner/completion/IntList" "size" "I" (.int (2 : Int32)) := fq1_18
        have fv18 : Arv Z T18.heap c17 kc17 .int (4 : Int32) [(.int p3), (.int p4), (.int (0 : Int32)), (.int (0 : Int32))] (.int (0 : Int32)) := fq3_18
        refine own_trans st18 ?_
        show own_Ends p e below F (T18.setTop (mkF m 93 #[.val (.int p1), .val (.int p2), .val (.int p3), .val (.int p4), .val (.int p5), .val (.ref a1), .val (.int (1 : Int32)), .val (.int (0 : Int32)), .val (.int (1 : Int32)), .val (.int (1 : Int32)), .val (.ref c2)] []))
        refine own_step (fun _ k => XS.iload X18.here hx rfl (hb hby at_93) rfl k) ?_
        show own_Ends p e below F (T18.setTop (mkF m 95 #[.val (.int p1), .val (.int p2), .val (.int p3), .val (.int p4), .val (.int p5), .val (.ref a1), .val (.int (1 : Int32)), .val (.int (0 : Int32)), .val (.int (1 : Int32)), .val (.int (1 : Int32)), .val (.ref c2)] [(.int (1 : Int32))]))
        refine own_step (fun _ k => XS.ifNo X18.here hx rfl (hb hby at_95) rfl ((if0 _ _).trans (feq (by decide : ¬ ((1 : Int32) = (0 : Int32)))).1) k) ?_
        show own_Ends p e below F (T18.setTop (mkF m 98 #[.val (.int p1), .val (.int p2), .val (.int p3), .val (.int p4), .val (.int p5), .val (.ref a1), .val (.int (1 : Int32)), .val (.int (0 : Int32)), .val (.int (1 : Int32)), .val (.int (1 : Int32)), .val (.ref c2)] []))
        refine own_step (fun _ k => XS.aload X18.here hx rfl (hb hby at_98) rfl rfl k) ?_
        show own_Ends p e below F (T18.setTop (mkF m 100 #[.val (.int p1), .val (.int p2), .val (.int p3), .val (.int p4), .val (.int p5), .val (.ref a1), .val (.int (1 : Int32)), .val (.int (0 : Int32)), .val (.int (1 : Int32)), .val (.int (1 : Int32)), .val (.ref c2)] [(.ref a1)]))
        obtain ⟨cq19, kq19, qa19, qb19, qc19⟩ := isOf hZ rfl ((fq6_2.keep Kq17).keep Kq18)
        obtain ⟨_, _, ⟨T19, L19, k19, n19⟩, -, X19, ⟨Lc19, hQ19, l19, y19, z19⟩, st19⟩ := X18.virtualBack hx (y := (⟨"com/example/concept_reasoner/conceptreasoner/completion/Axioms$LeftOf", "disjointnesses", "()Lcom/example/concept_reasoner/conceptreasoner/completion/IntList;"⟩ : MethodName)) (z := (⟨"com/example/concept_reasoner/conceptreasoner/completion/Axioms$LeftOf", "disjointnesses", "()Lcom/example/concept_reasoner/conceptreasoner/completion/IntList;"⟩ : MethodName)) hown (mvT hZ (own_g hw 77 rfl)) (mvT hZ (own_g hw 78 rfl)) (notFace_of_selects (args := #[]) (mvT hZ (own_g hw 80 rfl))) (mvT hZ (own_g hw 80 rfl)) (mvT hZ (own_g hw 79 rfl)) (by decide) (backOf (W := 0) (rm14 l Z a0 hw [] a1 d2 T18.heap n0 Z18 ((fq9_2.keep Kq17 (ninS ne_a1_c2 nin0)).keep Kq18 (ninS ne_a1_c2 (ninS ne_a1_c17 nin0)))) hZ (own_g hw 81 rfl) (own_g hw 2 rfl) (by decide) (by decide)) qa19 qc19 (g := (mkF m 100 #[.val (.int p1), .val (.int p2), .val (.int p3), .val (.int p4), .val (.int p5), .val (.ref a1), .val (.int (1 : Int32)), .val (.int (0 : Int32)), .val (.int (1 : Int32)), .val (.int (1 : Int32)), .val (.ref c2)] [(.ref a1)])) rfl (by rw [hml]; rfl) (Steps.refl _) (argsL := []) (rest := []) (lenOf pd__28_29Lcom_2fexample_2fconcept_reasoner_2fconceptreasoner_2fcompletion_2fIntList_3b rfl) rfl (by show 2 * 0 + _ ≤ _; exact Nat.le_of_eq rfl) (hb hby at_100) (fun _ _ => ⟨rfl, rfl, (by decide : 5 + 0 ≤ _), (by decide : 13 + 0 ≤ _)⟩)
        dsimp only [Pt.U, Pt.locs, Pt.cells, Pt.slots] at X19 l19 y19 z19 st19 hQ19
        subst l19 y19 z19
        obtain ⟨rfl, Nq19, eq19⟩ := hQ19
        have N19 := Fr.app N18 Nq19
        refine own_trans st19 ?_
        show own_Ends p e below F (T19.setTop (mkF m 103 #[.val (.int p1), .val (.int p2), .val (.int p3), .val (.int p4), .val (.int p5), .val (.ref a1), .val (.int (1 : Int32)), .val (.int (0 : Int32)), .val (.int (1 : Int32)), .val (.int (1 : Int32)), .val (.ref c2)] [(.ref d2)]))
        refine own_step (fun _ k => XS.iload X19.here hx rfl (hb hby at_103) rfl k) ?_
        show own_Ends p e below F (T19.setTop (mkF m 105 #[.val (.int p1), .val (.int p2), .val (.int p3), .val (.int p4), .val (.int p5), .val (.ref a1), .val (.int (1 : Int32)), .val (.int (0 : Int32)), .val (.int (1 : Int32)), .val (.int (1 : Int32)), .val (.ref c2)] [(.int p5), (.ref d2)]))
        obtain ⟨cq20, kq20, qa20, qb20, qc20⟩ := isOf hZ eq19 ((fq16_2.keep Kq17).keep Kq18)
        obtain ⟨_, _, ⟨T20, L20, k20, n20⟩, -, X20, ⟨Lc20, hQ20, l20, y20, z20⟩, st20⟩ := X19.virtualBack hx (y := (⟨"com/example/concept_reasoner/conceptreasoner/completion/IntList", "add", "(I)V"⟩ : MethodName)) (z := (⟨"com/example/concept_reasoner/conceptreasoner/completion/IntList", "add", "(I)V"⟩ : MethodName)) hown (mvT hZ (own_g hw 51 rfl)) (mvT hZ (own_g hw 52 rfl)) (notFace_of_selects (args := #[]) (mvT hZ (own_g hw 54 rfl))) (mvT hZ (own_g hw 54 rfl)) (mvT hZ (own_g hw 53 rfl)) (by decide) (backOf (W := 0) (rm9a l Z a0 hw [] d2 nn p5 kN T18.heap n0 Z18 ((fq16_2.keep Kq17).keep Kq18) ge_d2 ((fq17_2.keep Kq17 (ninS (Ne.symm fq5_2) nin0)).keep Kq18 (ninS (Ne.symm fq5_2) (ninS ne_d2_c17 nin0))) ((fq18_2.keep Kq17 (ninS (Ne.symm fq5_2) nin0)).keep Kq18 (ninS (Ne.symm fq5_2) (ninS ne_d2_c17 nin0))) ((((VN.ext E1).keep Kq2 (ninS ne_nn_a1 nin0)).keep Kq17 (ninS ne_nn_c2 nin0)).keep Kq18 (ninS ne_nn_c2 (ninS ne_nn_c17 nin0))) ne_nn_d2) hZ (own_g hw 55 rfl) (own_g hw 8 rfl) (by decide) (by decide)) qa20 qc20 (g := (mkF m 105 #[.val (.int p1), .val (.int p2), .val (.int p3), .val (.int p4), .val (.int p5), .val (.ref a1), .val (.int (1 : Int32)), .val (.int (0 : Int32)), .val (.int (1 : Int32)), .val (.int (1 : Int32)), .val (.ref c2)] [(.int p5), (.ref d2)])) rfl (by rw [hml]; rfl) (Steps.refl _) (argsL := [(.int p5)]) (rest := []) (lenOf pd__28I_29V rfl) rfl (by show 2 * 0 + _ ≤ _; exact Nat.le_of_eq rfl) (hb hby at_105) (fun _ _ => ⟨rfl, eq19, (by decide : 5 + 1 ≤ _), (by decide : 13 + 4 ≤ _)⟩)
        dsimp only [Pt.U, Pt.locs, Pt.cells, Pt.slots] at X20 l20 y20 z20 st20 hQ20
        subst l20 y20 z20
        obtain ⟨c20, kc20, rfl, Nq20, Kq20, fq0_20, fq1_20, fq2_20, fq3_20, fq4_20⟩ := hQ20
        have N20 := Fr.app N19 Nq20
        have Z20 : n0 ≤ T20.heap.size := Nat.le_trans Z18 Kq20.1
        have SZ20 : h0.size ≤ T20.heap.size := Nat.le_trans SZ18 Kq20.1
        have S0_20 := own_Sta_keep S0_18 Kq20 (allS (own_ns_exa ((fq16_2.keep Kq17).keep Kq18)) all0)
        have ne_nn_c20 : nn ≠ c20 := Nat.ne_of_lt (Nat.lt_of_lt_of_le (((((VN.ext E1).keep Kq2 (ninS ne_nn_a1 nin0)).keep Kq17 (ninS ne_nn_c2 nin0)).keep Kq18 (ninS ne_nn_c2 (ninS ne_nn_c17 nin0)))).lt fq0_20)
        have ne_a1_c20 : a1 ≠ c20 := Nat.ne_of_lt (Nat.lt_of_lt_of_le (((fq7_2.keep Kq17 (ninS ne_a1_c2 nin0)).keep Kq18 (ninS ne_a1_c2 (ninS ne_a1_c17 nin0)))).lt fq0_20)
        have ne_b2_c20 : b2 ≠ c20 := Nat.ne_of_lt (Nat.lt_of_lt_of_le (((fq10_2.keep Kq17).keep Kq18)).lt fq0_20)
        have ne_c2_c20 : c2 ≠ c20 := Nat.ne_of_lt (Nat.lt_of_lt_of_le (fq0_18).lt fq0_20)
        have ne_d2_c20 : d2 ≠ c20 := Nat.ne_of_lt (Nat.lt_of_lt_of_le (((fq16_2.keep Kq17).keep Kq18)).lt fq0_20)
        have ne_c17_c20 : c17 ≠ c20 := Nat.ne_of_lt (Nat.lt_of_lt_of_le (fv18).lt fq0_20)
        have ge_c20 : n0 ≤ c20 := Nat.le_trans Z18 fq0_20
        have sz_c20 : h0.size ≤ c20 := Nat.le_trans SZ18 fq0_20
        refine own_trans st20 ?_
        show own_Ends p e below F (T20.setTop (mkF m 108 #[.val (.int p1), .val (.int p2), .val (.int p3), .val (.int p4), .val (.int p5), .val (.ref a1), .val (.int (1 : Int32)), .val (.int (0 : Int32)), .val (.int (1 : Int32)), .val (.int (1 : Int32)), .val (.ref c2)] []))
        refine own_step (fun _ k => XS.iload X20.here hx rfl (hb hby at_108) rfl k) ?_
        show own_Ends p e below F (T20.setTop (mkF m 110 #[.val (.int p1), .val (.int p2), .val (.int p3), .val (.int p4), .val (.int p5), .val (.ref a1), .val (.int (1 : Int32)), .val (.int (0 : Int32)), .val (.int (1 : Int32)), .val (.int (1 : Int32)), .val (.ref c2)] [(.int (0 : Int32))]))
        refine own_step (fun _ k => XS.ifNo X20.here hx rfl (hb hby at_110) rfl ((if0 _ _).trans (teq (by decide : (0 : Int32) = (0 : Int32))).2) k) ?_
        show own_Ends p e below F (T20.setTop (mkF m 113 #[.val (.int p1), .val (.int p2), .val (.int p3), .val (.int p4), .val (.int p5), .val (.ref a1), .val (.int (1 : Int32)), .val (.int (0 : Int32)), .val (.int (1 : Int32)), .val (.int (1 : Int32)), .val (.ref c2)] []))
        refine own_step (fun _ k => XS.iload X20.here hx rfl (hb hby at_113) rfl k) ?_
        show own_Ends p e below F (T20.setTop (mkF m 115 #[.val (.int p1), .val (.int p2), .val (.int p3), .val (.int p4), .val (.int p5), .val (.ref a1), .val (.int (1 : Int32)), .val (.int (0 : Int32)), .val (.int (1 : Int32)), .val (.int (1 : Int32)), .val (.ref c2)] [(.int (1 : Int32))]))
        refine own_step (fun _ k => XS.ifYes X20.here hx rfl (pc0 := 115) (pc' := 127) rfl (hb hby at_115) rfl ((if0 _ _).trans (feq (by decide : ¬ ((1 : Int32) = (0 : Int32)))).2) (by decide) (by decide) k) ?_
        show own_Ends p e below F (T20.setTop (mkF m 127 #[.val (.int p1), .val (.int p2), .val (.int p3), .val (.int p4), .val (.int p5), .val (.ref a1), .val (.int (1 : Int32)), .val (.int (0 : Int32)), .val (.int (1 : Int32)), .val (.int (1 : Int32)), .val (.ref c2)] []))
        refine own_step (fun _ k => XS.iconst X20.here hx rfl (hb hby at_127) k) ?_
        show own_Ends p e below F (T20.setTop (mkF m 128 #[.val (.int p1), .val (.int p2), .val (.int p3), .val (.int p4), .val (.int p5), .val (.ref a1), .val (.int (1 : Int32)), .val (.int (0 : Int32)), .val (.int (1 : Int32)), .val (.int (1 : Int32)), .val (.ref c2)] [(.int (0 : Int32))]))
        refine own_step (fun _ k => XS.istore X20.here hx rfl (hb hby at_128) rfl (l' := #[.val (.int p1), .val (.int p2), .val (.int p3), .val (.int p4), .val (.int p5), .val (.ref a1), .val (.int (1 : Int32)), .val (.int (0 : Int32)), .val (.int (1 : Int32)), .val (.int (1 : Int32)), .val (.int (0 : Int32))]) rfl k) ?_
        show own_Ends p e below F (T20.setTop (mkF m 130 #[.val (.int p1), .val (.int p2), .val (.int p3), .val (.int p4), .val (.int p5), .val (.ref a1), .val (.int (1 : Int32)), .val (.int (0 : Int32)), .val (.int (1 : Int32)), .val (.int (1 : Int32)), .val (.int (0 : Int32))] []))
        refine own_step (fun _ k => XS.iload X20.here hx rfl (hb hby at_130) rfl k) ?_
        show own_Ends p e below F (T20.setTop (mkF m 132 #[.val (.int p1), .val (.int p2), .val (.int p3), .val (.int p4), .val (.int p5), .val (.ref a1), .val (.int (1 : Int32)), .val (.int (0 : Int32)), .val (.int (1 : Int32)), .val (.int (1 : Int32)), .val (.int (0 : Int32))] [(.int (1 : Int32))]))
        refine own_step (fun _ k => XS.ifNo X20.here hx rfl (hb hby at_132) rfl ((if0 _ _).trans (feq (by decide : ¬ ((1 : Int32) = (0 : Int32)))).1) k) ?_
        show own_Ends p e below F (T20.setTop (mkF m 135 #[.val (.int p1), .val (.int p2), .val (.int p3), .val (.int p4), .val (.int p5), .val (.ref a1), .val (.int (1 : Int32)), .val (.int (0 : Int32)), .val (.int (1 : Int32)), .val (.int (1 : Int32)), .val (.int (0 : Int32))] []))
        refine own_step (fun _ k => XS.aload X20.here hx rfl (hb hby at_135) rfl rfl k) ?_
        show own_Ends p e below F (T20.setTop (mkF m 137 #[.val (.int p1), .val (.int p2), .val (.int p3), .val (.int p4), .val (.int p5), .val (.ref a1), .val (.int (1 : Int32)), .val (.int (0 : Int32)), .val (.int (1 : Int32)), .val (.int (1 : Int32)), .val (.int (0 : Int32))] [(.ref a1)]))
        obtain ⟨cq21, kq21, qa21, qb21, qc21⟩ := isOf hZ rfl (((fq6_2.keep Kq17).keep Kq18).keep Kq20)
        obtain ⟨_, _, ⟨T21, L21, k21, n21⟩, -, X21, ⟨Lc21, hQ21, l21, y21, z21⟩, st21⟩ := X20.virtualBack hx (y := (⟨"com/example/concept_reasoner/conceptreasoner/completion/Axioms$LeftOf", "isEmpty", "()Z"⟩ : MethodName)) (z := (⟨"com/example/concept_reasoner/conceptreasoner/completion/Axioms$LeftOf", "isEmpty", "()Z"⟩ : MethodName)) hown (mvT hZ (own_g hw 34 rfl)) (mvT hZ (own_g hw 35 rfl)) (notFace_of_selects (args := #[]) (mvT hZ (own_g hw 37 rfl))) (mvT hZ (own_g hw 37 rfl)) (mvT hZ (own_g hw 36 rfl)) (by decide) (backOf (W := 0) (rm6 l Z a0 hw [] a1 b2 c2 d2 (0 : Int32) (2 : Int32) (1 : Int32) T20.heap n0 Z20 (((fq7_2.keep Kq17 (ninS ne_a1_c2 nin0)).keep Kq18 (ninS ne_a1_c2 (ninS ne_a1_c17 nin0))).keep Kq20 (ninS ne_a1_d2 nin0)) (((fq10_2.keep Kq17).keep Kq18).keep Kq20) (((fq11_2.keep Kq17 (ninS fq3_2 nin0)).keep Kq18 (ninS fq3_2 (ninS ne_b2_c17 nin0))).keep Kq20 (ninS fq4_2 nin0)) (((fq8_2.keep Kq17 (ninS ne_a1_c2 nin0)).keep Kq18 (ninS ne_a1_c2 (ninS ne_a1_c17 nin0))).keep Kq20 (ninS ne_a1_d2 nin0)) (fq0_18.keep Kq20) (fs18.keep Kq20 (ninS fq5_2 nin0)) (((fq9_2.keep Kq17 (ninS ne_a1_c2 nin0)).keep Kq18 (ninS ne_a1_c2 (ninS ne_a1_c17 nin0))).keep Kq20 (ninS ne_a1_d2 nin0)) fq1_20 fq2_20) hZ (own_g hw 38 rfl) (own_g hw 2 rfl) (by decide) (by decide)) qa21 qc21 (g := (mkF m 137 #[.val (.int p1), .val (.int p2), .val (.int p3), .val (.int p4), .val (.int p5), .val (.ref a1), .val (.int (1 : Int32)), .val (.int (0 : Int32)), .val (.int (1 : Int32)), .val (.int (1 : Int32)), .val (.int (0 : Int32))] [(.ref a1)])) rfl (by rw [hml]; rfl) (Steps.refl _) (argsL := []) (rest := []) (lenOf pd__28_29Z rfl) rfl (by show 2 * 0 + _ ≤ _; exact Nat.le_of_eq rfl) (hb hby at_137) (fun _ _ => ⟨rfl, rfl, (by decide : 6 + 0 ≤ _), (by decide : 17 + 0 ≤ _)⟩)
        dsimp only [Pt.U, Pt.locs, Pt.cells, Pt.slots] at X21 l21 y21 z21 st21 hQ21
        subst l21 y21 z21
        obtain ⟨rfl, Nq21, eq21⟩ := hQ21
        have N21 := Fr.app N20 Nq21
        refine own_trans st21 ?_
        show own_Ends p e below F (T21.setTop (mkF m 140 #[.val (.int p1), .val (.int p2), .val (.int p3), .val (.int p4), .val (.int p5), .val (.ref a1), .val (.int (1 : Int32)), .val (.int (0 : Int32)), .val (.int (1 : Int32)), .val (.int (1 : Int32)), .val (.int (0 : Int32))] [(.int (own_emp3 (0 : Int32) (2 : Int32) (1 : Int32)))]))
        rw [show (own_emp3 (0 : Int32) (2 : Int32) (1 : Int32)) = (0 : Int32) from (by first | rfl | decide)]
        show own_Ends p e below F (T21.setTop (mkF m 140 #[.val (.int p1), .val (.int p2), .val (.int p3), .val (.int p4), .val (.int p5), .val (.ref a1), .val (.int (1 : Int32)), .val (.int (0 : Int32)), .val (.int (1 : Int32)), .val (.int (1 : Int32)), .val (.int (0 : Int32))] [(.int (0 : Int32))]))
        refine own_step (fun _ k => XS.iload X21.here hx rfl (hb hby at_140) rfl k) ?_
        show own_Ends p e below F (T21.setTop (mkF m 142 #[.val (.int p1), .val (.int p2), .val (.int p3), .val (.int p4), .val (.int p5), .val (.ref a1), .val (.int (1 : Int32)), .val (.int (0 : Int32)), .val (.int (1 : Int32)), .val (.int (1 : Int32)), .val (.int (0 : Int32))] [(.int (0 : Int32)), (.int (0 : Int32))]))
        refine own_step (fun _ k => XS.icmpNo X21.here hx rfl (hb hby at_142) rfl (teq (by decide : (0 : Int32) = (0 : Int32))).2 k) ?_
        show own_Ends p e below F (T21.setTop (mkF m 145 #[.val (.int p1), .val (.int p2), .val (.int p3), .val (.int p4), .val (.int p5), .val (.ref a1), .val (.int (1 : Int32)), .val (.int (0 : Int32)), .val (.int (1 : Int32)), .val (.int (1 : Int32)), .val (.int (0 : Int32))] []))
        refine own_step (fun _ k => XS.iconst X21.here hx rfl (hb hby at_145) k) ?_
        show own_Ends p e below F (T21.setTop (mkF m 146 #[.val (.int p1), .val (.int p2), .val (.int p3), .val (.int p4), .val (.int p5), .val (.ref a1), .val (.int (1 : Int32)), .val (.int (0 : Int32)), .val (.int (1 : Int32)), .val (.int (1 : Int32)), .val (.int (0 : Int32))] [(.int (1 : Int32))]))
        refine own_step (fun _ k => XS.goto X21.here hx rfl (pc0 := 146) (pc' := 150) rfl (hb hby at_146) (by decide) (by decide) k) ?_
        show own_Ends p e below F (T21.setTop (mkF m 150 #[.val (.int p1), .val (.int p2), .val (.int p3), .val (.int p4), .val (.int p5), .val (.ref a1), .val (.int (1 : Int32)), .val (.int (0 : Int32)), .val (.int (1 : Int32)), .val (.int (1 : Int32)), .val (.int (0 : Int32))] [(.int (1 : Int32))]))
        rw [hF]
        exact own_ret X21 (v := (some (.int (nar .boolean (1 : Int32))))) (fun h => by rw [Bd.returns] at h; cases h) Bd.notSynchronized (fun fs hr => retN X21 hx (t := .boolean) Bd.returns (by simp) (hb hby at_150) hr) (by decide) (by decide) (by rw [eq21]; exact ⟨rfl, N21⟩)
  · refine own_step (fun _ k => XS.ifNo X3.here hx rfl (hb hby at_19) rfl ((if0 _ _).trans (feq c19_4).1) k) ?_
    show own_Ends p e below F (T3.setTop (mkF m 22 #[.val (.int p1), .val (.int p2), .val (.int p3), .val (.int p4), .val (.int p5), .val (.ref a1), .val (.int (1 : Int32)), .unset, .unset, .unset, .unset] []))
    refine own_step (fun _ k => XS.iconst X3.here hx rfl (hb hby at_22) k) ?_
    show own_Ends p e below F (T3.setTop (mkF m 23 #[.val (.int p1), .val (.int p2), .val (.int p3), .val (.int p4), .val (.int p5), .val (.ref a1), .val (.int (1 : Int32)), .unset, .unset, .unset, .unset] [(.int (1 : Int32))]))
    refine own_step (fun _ k => XS.goto X3.here hx rfl (pc0 := 23) (pc' := 27) rfl (hb hby at_23) (by decide) (by decide) k) ?_
    show own_Ends p e below F (T3.setTop (mkF m 27 #[.val (.int p1), .val (.int p2), .val (.int p3), .val (.int p4), .val (.int p5), .val (.ref a1), .val (.int (1 : Int32)), .unset, .unset, .unset, .unset] [(.int (1 : Int32))]))
    refine own_step (fun _ k => XS.istore X3.here hx rfl (hb hby at_27) rfl (l' := #[.val (.int p1), .val (.int p2), .val (.int p3), .val (.int p4), .val (.int p5), .val (.ref a1), .val (.int (1 : Int32)), .val (.int (1 : Int32)), .unset, .unset, .unset]) rfl k) ?_
    show own_Ends p e below F (T3.setTop (mkF m 29 #[.val (.int p1), .val (.int p2), .val (.int p3), .val (.int p4), .val (.int p5), .val (.ref a1), .val (.int (1 : Int32)), .val (.int (1 : Int32)), .unset, .unset, .unset] []))
    refine own_step (fun _ k => XS.iloadN X3.here hx rfl (hb hby at_29) rfl k) ?_
    show own_Ends p e below F (T3.setTop (mkF m 30 #[.val (.int p1), .val (.int p2), .val (.int p3), .val (.int p4), .val (.int p5), .val (.ref a1), .val (.int (1 : Int32)), .val (.int (1 : Int32)), .unset, .unset, .unset] [(.int p1)]))
    refine own_step (fun _ k => XS.iconst X3.here hx rfl (hb hby at_30) k) ?_
    show own_Ends p e below F (T3.setTop (mkF m 31 #[.val (.int p1), .val (.int p2), .val (.int p3), .val (.int p4), .val (.int p5), .val (.ref a1), .val (.int (1 : Int32)), .val (.int (1 : Int32)), .unset, .unset, .unset] [(.int (2 : Int32)), (.int p1)]))
    refine own_step (fun _ k => XS.iand X3.here hx rfl (hb hby at_31) rfl k) ?_
    show own_Ends p e below F (T3.setTop (mkF m 32 #[.val (.int p1), .val (.int p2), .val (.int p3), .val (.int p4), .val (.int p5), .val (.ref a1), .val (.int (1 : Int32)), .val (.int (1 : Int32)), .unset, .unset, .unset] [(.int (p1 &&& (2 : Int32)))]))
    by_cases c32_22 : (p1 &&& (2 : Int32)) = (0 : Int32)
    · refine own_step (fun _ k => XS.ifYes X3.here hx rfl (pc0 := 32) (pc' := 39) rfl (hb hby at_32) rfl ((if0 _ _).trans (teq c32_22).1) (by decide) (by decide) k) ?_
      show own_Ends p e below F (T3.setTop (mkF m 39 #[.val (.int p1), .val (.int p2), .val (.int p3), .val (.int p4), .val (.int p5), .val (.ref a1), .val (.int (1 : Int32)), .val (.int (1 : Int32)), .unset, .unset, .unset] []))
      refine own_step (fun _ k => XS.iconst X3.here hx rfl (hb hby at_39) k) ?_
      show own_Ends p e below F (T3.setTop (mkF m 40 #[.val (.int p1), .val (.int p2), .val (.int p3), .val (.int p4), .val (.int p5), .val (.ref a1), .val (.int (1 : Int32)), .val (.int (1 : Int32)), .unset, .unset, .unset] [(.int (0 : Int32))]))
      refine own_step (fun _ k => XS.istore X3.here hx rfl (hb hby at_40) rfl (l' := #[.val (.int p1), .val (.int p2), .val (.int p3), .val (.int p4), .val (.int p5), .val (.ref a1), .val (.int (1 : Int32)), .val (.int (1 : Int32)), .val (.int (0 : Int32)), .unset, .unset]) rfl k) ?_
      show own_Ends p e below F (T3.setTop (mkF m 42 #[.val (.int p1), .val (.int p2), .val (.int p3), .val (.int p4), .val (.int p5), .val (.ref a1), .val (.int (1 : Int32)), .val (.int (1 : Int32)), .val (.int (0 : Int32)), .unset, .unset] []))
      refine own_step (fun _ k => XS.iloadN X3.here hx rfl (hb hby at_42) rfl k) ?_
      show own_Ends p e below F (T3.setTop (mkF m 43 #[.val (.int p1), .val (.int p2), .val (.int p3), .val (.int p4), .val (.int p5), .val (.ref a1), .val (.int (1 : Int32)), .val (.int (1 : Int32)), .val (.int (0 : Int32)), .unset, .unset] [(.int p1)]))
      refine own_step (fun _ k => XS.iconst X3.here hx rfl (hb hby at_43) k) ?_
      show own_Ends p e below F (T3.setTop (mkF m 44 #[.val (.int p1), .val (.int p2), .val (.int p3), .val (.int p4), .val (.int p5), .val (.ref a1), .val (.int (1 : Int32)), .val (.int (1 : Int32)), .val (.int (0 : Int32)), .unset, .unset] [(.int (4 : Int32)), (.int p1)]))
      refine own_step (fun _ k => XS.iand X3.here hx rfl (hb hby at_44) rfl k) ?_
      show own_Ends p e below F (T3.setTop (mkF m 45 #[.val (.int p1), .val (.int p2), .val (.int p3), .val (.int p4), .val (.int p5), .val (.ref a1), .val (.int (1 : Int32)), .val (.int (1 : Int32)), .val (.int (0 : Int32)), .unset, .unset] [(.int (p1 &&& (4 : Int32)))]))
      by_cases c45_23 : (p1 &&& (4 : Int32)) = (0 : Int32)
      · refine own_step (fun _ k => XS.ifYes X3.here hx rfl (pc0 := 45) (pc' := 52) rfl (hb hby at_45) rfl ((if0 _ _).trans (teq c45_23).1) (by decide) (by decide) k) ?_
        show own_Ends p e below F (T3.setTop (mkF m 52 #[.val (.int p1), .val (.int p2), .val (.int p3), .val (.int p4), .val (.int p5), .val (.ref a1), .val (.int (1 : Int32)), .val (.int (1 : Int32)), .val (.int (0 : Int32)), .unset, .unset] []))
        refine own_step (fun _ k => XS.iconst X3.here hx rfl (hb hby at_52) k) ?_
        show own_Ends p e below F (T3.setTop (mkF m 53 #[.val (.int p1), .val (.int p2), .val (.int p3), .val (.int p4), .val (.int p5), .val (.ref a1), .val (.int (1 : Int32)), .val (.int (1 : Int32)), .val (.int (0 : Int32)), .unset, .unset] [(.int (0 : Int32))]))
        refine own_step (fun _ k => XS.istore X3.here hx rfl (hb hby at_53) rfl (l' := #[.val (.int p1), .val (.int p2), .val (.int p3), .val (.int p4), .val (.int p5), .val (.ref a1), .val (.int (1 : Int32)), .val (.int (1 : Int32)), .val (.int (0 : Int32)), .val (.int (0 : Int32)), .unset]) rfl k) ?_
        show own_Ends p e below F (T3.setTop (mkF m 55 #[.val (.int p1), .val (.int p2), .val (.int p3), .val (.int p4), .val (.int p5), .val (.ref a1), .val (.int (1 : Int32)), .val (.int (1 : Int32)), .val (.int (0 : Int32)), .val (.int (0 : Int32)), .unset] []))
        refine own_step (fun _ k => XS.iload X3.here hx rfl (hb hby at_55) rfl k) ?_
        show own_Ends p e below F (T3.setTop (mkF m 57 #[.val (.int p1), .val (.int p2), .val (.int p3), .val (.int p4), .val (.int p5), .val (.ref a1), .val (.int (1 : Int32)), .val (.int (1 : Int32)), .val (.int (0 : Int32)), .val (.int (0 : Int32)), .unset] [(.int (1 : Int32))]))
        refine own_step (fun _ k => XS.ifNo X3.here hx rfl (hb hby at_57) rfl ((if0 _ _).trans (feq (by decide : ¬ ((1 : Int32) = (0 : Int32)))).1) k) ?_
        show own_Ends p e below F (T3.setTop (mkF m 60 #[.val (.int p1), .val (.int p2), .val (.int p3), .val (.int p4), .val (.int p5), .val (.ref a1), .val (.int (1 : Int32)), .val (.int (1 : Int32)), .val (.int (0 : Int32)), .val (.int (0 : Int32)), .unset] []))
        refine own_step (fun _ k => XS.aload X3.here hx rfl (hb hby at_60) rfl rfl k) ?_
        show own_Ends p e below F (T3.setTop (mkF m 62 #[.val (.int p1), .val (.int p2), .val (.int p3), .val (.int p4), .val (.int p5), .val (.ref a1), .val (.int (1 : Int32)), .val (.int (1 : Int32)), .val (.int (0 : Int32)), .val (.int (0 : Int32)), .unset] [(.ref a1)]))
        obtain ⟨cq24, kq24, qa24, qb24, qc24⟩ := isOf hZ eq3 fq6_2
        obtain ⟨_, _, ⟨T24, L24, k24, n24⟩, -, X24, ⟨Lc24, hQ24, l24, y24, z24⟩, st24⟩ := X3.virtualBack hx (y := (⟨"com/example/concept_reasoner/conceptreasoner/completion/Axioms$LeftOf", "implied", "()Lcom/example/concept_reasoner/conceptreasoner/completion/IntList;"⟩ : MethodName)) (z := (⟨"com/example/concept_reasoner/conceptreasoner/completion/Axioms$LeftOf", "implied", "()Lcom/example/concept_reasoner/conceptreasoner/completion/IntList;"⟩ : MethodName)) hown (mvT hZ (own_g hw 46 rfl)) (mvT hZ (own_g hw 47 rfl)) (notFace_of_selects (args := #[]) (mvT hZ (own_g hw 49 rfl))) (mvT hZ (own_g hw 49 rfl)) (mvT hZ (own_g hw 48 rfl)) (by decide) (backOf (W := 0) (rm8 l Z a0 hw [] a1 b2 T2.heap n0 Z2 fq7_2) hZ (own_g hw 50 rfl) (own_g hw 2 rfl) (by decide) (by decide)) qa24 qc24 (g := (mkF m 62 #[.val (.int p1), .val (.int p2), .val (.int p3), .val (.int p4), .val (.int p5), .val (.ref a1), .val (.int (1 : Int32)), .val (.int (1 : Int32)), .val (.int (0 : Int32)), .val (.int (0 : Int32)), .unset] [(.ref a1)])) rfl (by rw [hml]; rfl) (Steps.refl _) (argsL := []) (rest := []) (lenOf pd__28_29Lcom_2fexample_2fconcept_reasoner_2fconceptreasoner_2fcompletion_2fIntList_3b rfl) rfl (by show 2 * 0 + _ ≤ _; exact Nat.le_of_eq rfl) (hb hby at_62) (fun _ _ => ⟨rfl, eq3, (by decide : 4 + 0 ≤ _), (by decide : 9 + 0 ≤ _)⟩)
        dsimp only [Pt.U, Pt.locs, Pt.cells, Pt.slots] at X24 l24 y24 z24 st24 hQ24
        subst l24 y24 z24
        obtain ⟨rfl, Nq24, eq24⟩ := hQ24
        have N24 := Fr.app N3 Nq24
        refine own_trans st24 ?_
        show own_Ends p e below F (T24.setTop (mkF m 65 #[.val (.int p1), .val (.int p2), .val (.int p3), .val (.int p4), .val (.int p5), .val (.ref a1), .val (.int (1 : Int32)), .val (.int (1 : Int32)), .val (.int (0 : Int32)), .val (.int (0 : Int32)), .unset] [(.ref b2)]))
        refine own_step (fun _ k => XS.iloadN X24.here hx rfl (hb hby at_65) rfl k) ?_
        show own_Ends p e below F (T24.setTop (mkF m 66 #[.val (.int p1), .val (.int p2), .val (.int p3), .val (.int p4), .val (.int p5), .val (.ref a1), .val (.int (1 : Int32)), .val (.int (1 : Int32)), .val (.int (0 : Int32)), .val (.int (0 : Int32)), .unset] [(.int p2), (.ref b2)]))
        obtain ⟨cq25, kq25, qa25, qb25, qc25⟩ := isOf hZ eq24 fq10_2
        obtain ⟨_, _, ⟨T25, L25, k25, n25⟩, -, X25, ⟨Lc25, hQ25, l25, y25, z25⟩, st25⟩ := X24.virtualBack hx (y := (⟨"com/example/concept_reasoner/conceptreasoner/completion/IntList", "add", "(I)V"⟩ : MethodName)) (z := (⟨"com/example/concept_reasoner/conceptreasoner/completion/IntList", "add", "(I)V"⟩ : MethodName)) hown (mvT hZ (own_g hw 51 rfl)) (mvT hZ (own_g hw 52 rfl)) (notFace_of_selects (args := #[]) (mvT hZ (own_g hw 54 rfl))) (mvT hZ (own_g hw 54 rfl)) (mvT hZ (own_g hw 53 rfl)) (by decide) (backOf (W := 0) (rm9a l Z a0 hw [] b2 nn p2 kN T2.heap n0 Z2 fq10_2 ge_b2 fq11_2 fq12_2 ((VN.ext E1).keep Kq2 (ninS ne_nn_a1 nin0)) ne_nn_b2) hZ (own_g hw 55 rfl) (own_g hw 8 rfl) (by decide) (by decide)) qa25 qc25 (g := (mkF m 66 #[.val (.int p1), .val (.int p2), .val (.int p3), .val (.int p4), .val (.int p5), .val (.ref a1), .val (.int (1 : Int32)), .val (.int (1 : Int32)), .val (.int (0 : Int32)), .val (.int (0 : Int32)), .unset] [(.int p2), (.ref b2)])) rfl (by rw [hml]; rfl) (Steps.refl _) (argsL := [(.int p2)]) (rest := []) (lenOf pd__28I_29V rfl) rfl (by show 2 * 0 + _ ≤ _; exact Nat.le_of_eq rfl) (hb hby at_66) (fun _ _ => ⟨rfl, eq24, (by decide : 4 + 1 ≤ _), (by decide : 9 + 4 ≤ _)⟩)
        dsimp only [Pt.U, Pt.locs, Pt.cells, Pt.slots] at X25 l25 y25 z25 st25 hQ25
        subst l25 y25 z25
        obtain ⟨c25, kc25, rfl, Nq25, Kq25, fq0_25, fq1_25, fq2_25, fq3_25, fq4_25⟩ := hQ25
        have N25 := Fr.app N24 Nq25
        have Z25 : n0 ≤ T25.heap.size := Nat.le_trans Z2 Kq25.1
        have SZ25 : h0.size ≤ T25.heap.size := Nat.le_trans SZ2 Kq25.1
        have S0_25 := own_Sta_keep S0_2 Kq25 (allS (own_ns_exa fq10_2) all0)
        have ne_nn_c25 : nn ≠ c25 := Nat.ne_of_lt (Nat.lt_of_lt_of_le (((VN.ext E1).keep Kq2 (ninS ne_nn_a1 nin0))).lt fq0_25)
        have ne_a1_c25 : a1 ≠ c25 := Nat.ne_of_lt (Nat.lt_of_lt_of_le (fq7_2).lt fq0_25)
        have ne_b2_c25 : b2 ≠ c25 := Nat.ne_of_lt (Nat.lt_of_lt_of_le (fq10_2).lt fq0_25)
        have ne_c2_c25 : c2 ≠ c25 := Nat.ne_of_lt (Nat.lt_of_lt_of_le (fq13_2).lt fq0_25)
        have ne_d2_c25 : d2 ≠ c25 := Nat.ne_of_lt (Nat.lt_of_lt_of_le (fq16_2).lt fq0_25)
        have ge_c25 : n0 ≤ c25 := Nat.le_trans Z2 fq0_25
        have sz_c25 : h0.size ≤ c25 := Nat.le_trans SZ2 fq0_25
        refine own_trans st25 ?_
        show own_Ends p e below F (T25.setTop (mkF m 69 #[.val (.int p1), .val (.int p2), .val (.int p3), .val (.int p4), .val (.int p5), .val (.ref a1), .val (.int (1 : Int32)), .val (.int (1 : Int32)), .val (.int (0 : Int32)), .val (.int (0 : Int32)), .unset] []))
        refine own_step (fun _ k => XS.iload X25.here hx rfl (hb hby at_69) rfl k) ?_
        show own_Ends p e below F (T25.setTop (mkF m 71 #[.val (.int p1), .val (.int p2), .val (.int p3), .val (.int p4), .val (.int p5), .val (.ref a1), .val (.int (1 : Int32)), .val (.int (1 : Int32)), .val (.int (0 : Int32)), .val (.int (0 : Int32)), .unset] [(.int (0 : Int32))]))
        refine own_step (fun _ k => XS.ifYes X25.here hx rfl (pc0 := 71) (pc' := 93) rfl (hb hby at_71) rfl ((if0 _ _).trans (teq (by decide : (0 : Int32) = (0 : Int32))).1) (by decide) (by decide) k) ?_
        show own_Ends p e below F (T25.setTop (mkF m 93 #[.val (.int p1), .val (.int p2), .val (.int p3), .val (.int p4), .val (.int p5), .val (.ref a1), .val (.int (1 : Int32)), .val (.int (1 : Int32)), .val (.int (0 : Int32)), .val (.int (0 : Int32)), .unset] []))
        refine own_step (fun _ k => XS.iload X25.here hx rfl (hb hby at_93) rfl k) ?_
        show own_Ends p e below F (T25.setTop (mkF m 95 #[.val (.int p1), .val (.int p2), .val (.int p3), .val (.int p4), .val (.int p5), .val (.ref a1), .val (.int (1 : Int32)), .val (.int (1 : Int32)), .val (.int (0 : Int32)), .val (.int (0 : Int32)), .unset] [(.int (0 : Int32))]))
        refine own_step (fun _ k => XS.ifYes X25.here hx rfl (pc0 := 95) (pc' := 108) rfl (hb hby at_95) rfl ((if0 _ _).trans (teq (by decide : (0 : Int32) = (0 : Int32))).1) (by decide) (by decide) k) ?_
        show own_Ends p e below F (T25.setTop (mkF m 108 #[.val (.int p1), .val (.int p2), .val (.int p3), .val (.int p4), .val (.int p5), .val (.ref a1), .val (.int (1 : Int32)), .val (.int (1 : Int32)), .val (.int (0 : Int32)), .val (.int (0 : Int32)), .unset] []))
        refine own_step (fun _ k => XS.iload X25.here hx rfl (hb hby at_108) rfl k) ?_
        show own_Ends p e below F (T25.setTop (mkF m 110 #[.val (.int p1), .val (.int p2), .val (.int p3), .val (.int p4), .val (.int p5), .val (.ref a1), .val (.int (1 : Int32)), .val (.int (1 : Int32)), .val (.int (0 : Int32)), .val (.int (0 : Int32)), .unset] [(.int (1 : Int32))]))
        refine own_step (fun _ k => XS.ifYes X25.here hx rfl (pc0 := 110) (pc' := 127) rfl (hb hby at_110) rfl ((if0 _ _).trans (feq (by decide : ¬ ((1 : Int32) = (0 : Int32)))).2) (by decide) (by decide) k) ?_
        show own_Ends p e below F (T25.setTop (mkF m 127 #[.val (.int p1), .val (.int p2), .val (.int p3), .val (.int p4), .val (.int p5), .val (.ref a1), .val (.int (1 : Int32)), .val (.int (1 : Int32)), .val (.int (0 : Int32)), .val (.int (0 : Int32)), .unset] []))
        refine own_step (fun _ k => XS.iconst X25.here hx rfl (hb hby at_127) k) ?_
        show own_Ends p e below F (T25.setTop (mkF m 128 #[.val (.int p1), .val (.int p2), .val (.int p3), .val (.int p4), .val (.int p5), .val (.ref a1), .val (.int (1 : Int32)), .val (.int (1 : Int32)), .val (.int (0 : Int32)), .val (.int (0 : Int32)), .unset] [(.int (0 : Int32))]))
        refine own_step (fun _ k => XS.istore X25.here hx rfl (hb hby at_128) rfl (l' := #[.val (.int p1), .val (.int p2), .val (.int p3), .val (.int p4), .val (.int p5), .val (.ref a1), .val (.int (1 : Int32)), .val (.int (1 : Int32)), .val (.int (0 : Int32)), .val (.int (0 : Int32)), .val (.int (0 : Int32))]) rfl k) ?_
        show own_Ends p e below F (T25.setTop (mkF m 130 #[.val (.int p1), .val (.int p2), .val (.int p3), .val (.int p4), .val (.int p5), .val (.ref a1), .val (.int (1 : Int32)), .val (.int (1 : Int32)), .val (.int (0 : Int32)), .val (.int (0 : Int32)), .val (.int (0 : Int32))] []))
        refine own_step (fun _ k => XS.iload X25.here hx rfl (hb hby at_130) rfl k) ?_
        show own_Ends p e below F (T25.setTop (mkF m 132 #[.val (.int p1), .val (.int p2), .val (.int p3), .val (.int p4), .val (.int p5), .val (.ref a1), .val (.int (1 : Int32)), .val (.int (1 : Int32)), .val (.int (0 : Int32)), .val (.int (0 : Int32)), .val (.int (0 : Int32))] [(.int (1 : Int32))]))
        refine own_step (fun _ k => XS.ifNo X25.here hx rfl (hb hby at_132) rfl ((if0 _ _).trans (feq (by decide : ¬ ((1 : Int32) = (0 : Int32)))).1) k) ?_
        show own_Ends p e below F (T25.setTop (mkF m 135 #[.val (.int p1), .val (.int p2), .val (.int p3), .val (.int p4), .val (.int p5), .val (.ref a1), .val (.int (1 : Int32)), .val (.int (1 : Int32)), .val (.int (0 : Int32)), .val (.int (0 : Int32)), .val (.int (0 : Int32))] []))
        refine own_step (fun _ k => XS.aload X25.here hx rfl (hb hby at_135) rfl rfl k) ?_
        show own_Ends p e below F (T25.setTop (mkF m 137 #[.val (.int p1), .val (.int p2), .val (.int p3), .val (.int p4), .val (.int p5), .val (.ref a1), .val (.int (1 : Int32)), .val (.int (1 : Int32)), .val (.int (0 : Int32)), .val (.int (0 : Int32)), .val (.int (0 : Int32))] [(.ref a1)]))
        obtain ⟨cq26, kq26, qa26, qb26, qc26⟩ := isOf hZ rfl (fq6_2.keep Kq25)
        obtain ⟨_, _, ⟨T26, L26, k26, n26⟩, -, X26, ⟨Lc26, hQ26, l26, y26, z26⟩, st26⟩ := X25.virtualBack hx (y := (⟨"com/example/concept_reasoner/conceptreasoner/completion/Axioms$LeftOf", "isEmpty", "()Z"⟩ : MethodName)) (z := (⟨"com/example/concept_reasoner/conceptreasoner/completion/Axioms$LeftOf", "isEmpty", "()Z"⟩ : MethodName)) hown (mvT hZ (own_g hw 34 rfl)) (mvT hZ (own_g hw 35 rfl)) (notFace_of_selects (args := #[]) (mvT hZ (own_g hw 37 rfl))) (mvT hZ (own_g hw 37 rfl)) (mvT hZ (own_g hw 36 rfl)) (by decide) (backOf (W := 0) (rm6 l Z a0 hw [] a1 b2 c2 d2 (1 : Int32) (0 : Int32) (0 : Int32) T25.heap n0 Z25 (fq7_2.keep Kq25 (ninS ne_a1_b2 nin0)) fq1_25 fq2_25 (fq8_2.keep Kq25 (ninS ne_a1_b2 nin0)) (fq13_2.keep Kq25) (fq14_2.keep Kq25 (ninS (Ne.symm fq3_2) nin0)) (fq9_2.keep Kq25 (ninS ne_a1_b2 nin0)) (fq16_2.keep Kq25) (fq17_2.keep Kq25 (ninS (Ne.symm fq4_2) nin0))) hZ (own_g hw 38 rfl) (own_g hw 2 rfl) (by decide) (by decide)) qa26 qc26 (g := (mkF m 137 #[.val (.int p1), .val (.int p2), .val (.int p3), .val (.int p4), .val (.int p5), .val (.ref a1), .val (.int (1 : Int32)), .val (.int (1 : Int32)), .val (.int (0 : Int32)), .val (.int (0 : Int32)), .val (.int (0 : Int32))] [(.ref a1)])) rfl (by rw [hml]; rfl) (Steps.refl _) (argsL := []) (rest := []) (lenOf pd__28_29Z rfl) rfl (by show 2 * 0 + _ ≤ _; exact Nat.le_of_eq rfl) (hb hby at_137) (fun _ _ => ⟨rfl, rfl, (by decide : 5 + 0 ≤ _), (by decide : 13 + 0 ≤ _)⟩)
        dsimp only [Pt.U, Pt.locs, Pt.cells, Pt.slots] at X26 l26 y26 z26 st26 hQ26
        subst l26 y26 z26
        obtain ⟨rfl, Nq26, eq26⟩ := hQ26
        have N26 := Fr.app N25 Nq26
        refine own_trans st26 ?_
        show own_Ends p e below F (T26.setTop (mkF m 140 #[.val (.int p1), .val (.int p2), .val (.int p3), .val (.int p4), .val (.int p5), .val (.ref a1), .val (.int (1 : Int32)), .val (.int (1 : Int32)), .val (.int (0 : Int32)), .val (.int (0 : Int32)), .val (.int (0 : Int32))] [(.int (own_emp3 (1 : Int32) (0 : Int32) (0 : Int32)))]))
        rw [show (own_emp3 (1 : Int32) (0 : Int32) (0 : Int32)) = (0 : Int32) from (by first | rfl | decide)]
        show own_Ends p e below F (T26.setTop (mkF m 140 #[.val (.int p1), .val (.int p2), .val (.int p3), .val (.int p4), .val (.int p5), .val (.ref a1), .val (.int (1 : Int32)), .val (.int (1 : Int32)), .val (.int (0 : Int32)), .val (.int (0 : Int32)), .val (.int (0 : Int32))] [(.int (0 : Int32))]))
        refine own_step (fun _ k => XS.iload X26.here hx rfl (hb hby at_140) rfl k) ?_
        show own_Ends p e below F (T26.setTop (mkF m 142 #[.val (.int p1), .val (.int p2), .val (.int p3), .val (.int p4), .val (.int p5), .val (.ref a1), .val (.int (1 : Int32)), .val (.int (1 : Int32)), .val (.int (0 : Int32)), .val (.int (0 : Int32)), .val (.int (0 : Int32))] [(.int (0 : Int32)), (.int (0 : Int32))]))
        refine own_step (fun _ k => XS.icmpNo X26.here hx rfl (hb hby at_142) rfl (teq (by decide : (0 : Int32) = (0 : Int32))).2 k) ?_
        show own_Ends p e below F (T26.setTop (mkF m 145 #[.val (.int p1), .val (.int p2), .val (.int p3), .val (.int p4), .val (.int p5), .val (.ref a1), .val (.int (1 : Int32)), .val (.int (1 : Int32)), .val (.int (0 : Int32)), .val (.int (0 : Int32)), .val (.int (0 : Int32))] []))
        refine own_step (fun _ k => XS.iconst X26.here hx rfl (hb hby at_145) k) ?_
        show own_Ends p e below F (T26.setTop (mkF m 146 #[.val (.int p1), .val (.int p2), .val (.int p3), .val (.int p4), .val (.int p5), .val (.ref a1), .val (.int (1 : Int32)), .val (.int (1 : Int32)), .val (.int (0 : Int32)), .val (.int (0 : Int32)), .val (.int (0 : Int32))] [(.int (1 : Int32))]))
        refine own_step (fun _ k => XS.goto X26.here hx rfl (pc0 := 146) (pc' := 150) rfl (hb hby at_146) (by decide) (by decide) k) ?_
        show own_Ends p e below F (T26.setTop (mkF m 150 #[.val (.int p1), .val (.int p2), .val (.int p3), .val (.int p4), .val (.int p5), .val (.ref a1), .val (.int (1 : Int32)), .val (.int (1 : Int32)), .val (.int (0 : Int32)), .val (.int (0 : Int32)), .val (.int (0 : Int32))] [(.int (1 : Int32))]))
        rw [hF]
        exact own_ret X26 (v := (some (.int (nar .boolean (1 : Int32))))) (fun h => by rw [Bd.returns] at h; cases h) Bd.notSynchronized (fun fs hr => retN X26 hx (t := .boolean) Bd.returns (by simp) (hb hby at_150) hr) (by decide) (by decide) (by rw [eq26]; exact ⟨rfl, N26⟩)
      · refine own_step (fun _ k => XS.ifNo X3.here hx rfl (hb hby at_45) rfl ((if0 _ _).trans (feq c45_23).1) k) ?_
        show own_Ends p e below F (T3.setTop (mkF m 48 #[.val (.int p1), .val (.int p2), .val (.int p3), .val (.int p4), .val (.int p5), .val (.ref a1), .val (.int (1 : Int32)), .val (.int (1 : Int32)), .val (.int (0 : Int32)), .unset, .unset] []))
        refine own_step (fun _ k => XS.iconst X3.here hx rfl (hb hby at_48) k) ?_
        show own_Ends p e below F (T3.setTop (mkF m 49 #[.val (.int p1), .val (.int p2), .val (.int p3), .val (.int p4), .val (.int p5), .val (.ref a1), .val (.int (1 : Int32)), .val (.int (1 : Int32)), .val (.int (0 : Int32)), .unset, .unset] [(.int (1 : Int32))]))
        refine own_step (fun _ k => XS.goto X3.here hx rfl (pc0 := 49) (pc' := 53) rfl (hb hby at_49) (by decide) (by decide) k) ?_
        show own_Ends p e below F (T3.setTop (mkF m 53 #[.val (.int p1), .val (.int p2), .val (.int p3), .val (.int p4), .val (.int p5), .val (.ref a1), .val (.int (1 : Int32)), .val (.int (1 : Int32)), .val (.int (0 : Int32)), .unset, .unset] [(.int (1 : Int32))]))
        refine own_step (fun _ k => XS.istore X3.here hx rfl (hb hby at_53) rfl (l' := #[.val (.int p1), .val (.int p2), .val (.int p3), .val (.int p4), .val (.int p5), .val (.ref a1), .val (.int (1 : Int32)), .val (.int (1 : Int32)), .val (.int (0 : Int32)), .val (.int (1 : Int32)), .unset]) rfl k) ?_
        show own_Ends p e below F (T3.setTop (mkF m 55 #[.val (.int p1), .val (.int p2), .val (.int p3), .val (.int p4), .val (.int p5), .val (.ref a1), .val (.int (1 : Int32)), .val (.int (1 : Int32)), .val (.int (0 : Int32)), .val (.int (1 : Int32)), .unset] []))
        refine own_step (fun _ k => XS.iload X3.here hx rfl (hb hby at_55) rfl k) ?_
        show own_Ends p e below F (T3.setTop (mkF m 57 #[.val (.int p1), .val (.int p2), .val (.int p3), .val (.int p4), .val (.int p5), .val (.ref a1), .val (.int (1 : Int32)), .val (.int (1 : Int32)), .val (.int (0 : Int32)), .val (.int (1 : Int32)), .unset] [(.int (1 : Int32))]))
        refine own_step (fun _ k => XS.ifNo X3.here hx rfl (hb hby at_57) rfl ((if0 _ _).trans (feq (by decide : ¬ ((1 : Int32) = (0 : Int32)))).1) k) ?_
        show own_Ends p e below F (T3.setTop (mkF m 60 #[.val (.int p1), .val (.int p2), .val (.int p3), .val (.int p4), .val (.int p5), .val (.ref a1), .val (.int (1 : Int32)), .val (.int (1 : Int32)), .val (.int (0 : Int32)), .val (.int (1 : Int32)), .unset] []))
        refine own_step (fun _ k => XS.aload X3.here hx rfl (hb hby at_60) rfl rfl k) ?_
        show own_Ends p e below F (T3.setTop (mkF m 62 #[.val (.int p1), .val (.int p2), .val (.int p3), .val (.int p4), .val (.int p5), .val (.ref a1), .val (.int (1 : Int32)), .val (.int (1 : Int32)), .val (.int (0 : Int32)), .val (.int (1 : Int32)), .unset] [(.ref a1)]))
        obtain ⟨cq27, kq27, qa27, qb27, qc27⟩ := isOf hZ eq3 fq6_2
        obtain ⟨_, _, ⟨T27, L27, k27, n27⟩, -, X27, ⟨Lc27, hQ27, l27, y27, z27⟩, st27⟩ := X3.virtualBack hx (y := (⟨"com/example/concept_reasoner/conceptreasoner/completion/Axioms$LeftOf", "implied", "()Lcom/example/concept_reasoner/conceptreasoner/completion/IntList;"⟩ : MethodName)) (z := (⟨"com/example/concept_reasoner/conceptreasoner/completion/Axioms$LeftOf", "implied", "()Lcom/example/concept_reasoner/conceptreasoner/completion/IntList;"⟩ : MethodName)) hown (mvT hZ (own_g hw 46 rfl)) (mvT hZ (own_g hw 47 rfl)) (notFace_of_selects (args := #[]) (mvT hZ (own_g hw 49 rfl))) (mvT hZ (own_g hw 49 rfl)) (mvT hZ (own_g hw 48 rfl)) (by decide) (backOf (W := 0) (rm8 l Z a0 hw [] a1 b2 T2.heap n0 Z2 fq7_2) hZ (own_g hw 50 rfl) (own_g hw 2 rfl) (by decide) (by decide)) qa27 qc27 (g := (mkF m 62 #[.val (.int p1), .val (.int p2), .val (.int p3), .val (.int p4), .val (.int p5), .val (.ref a1), .val (.int (1 : Int32)), .val (.int (1 : Int32)), .val (.int (0 : Int32)), .val (.int (1 : Int32)), .unset] [(.ref a1)])) rfl (by rw [hml]; rfl) (Steps.refl _) (argsL := []) (rest := []) (lenOf pd__28_29Lcom_2fexample_2fconcept_reasoner_2fconceptreasoner_2fcompletion_2fIntList_3b rfl) rfl (by show 2 * 0 + _ ≤ _; exact Nat.le_of_eq rfl) (hb hby at_62) (fun _ _ => ⟨rfl, eq3, (by decide : 4 + 0 ≤ _), (by decide : 9 + 0 ≤ _)⟩)
        dsimp only [Pt.U, Pt.locs, Pt.cells, Pt.slots] at X27 l27 y27 z27 st27 hQ27
        subst l27 y27 z27
        obtain ⟨rfl, Nq27, eq27⟩ := hQ27
        have N27 := Fr.app N3 Nq27
        refine own_trans st27 ?_
        show own_Ends p e below F (T27.setTop (mkF m 65 #[.val (.int p1), .val (.int p2), .val (.int p3), .val (.int p4), .val (.int p5), .val (.ref a1), .val (.int (1 : Int32)), .val (.int (1 : Int32)), .val (.int (0 : Int32)), .val (.int (1 : Int32)), .unset] [(.ref b2)]))
        refine own_step (fun _ k => XS.iloadN X27.here hx rfl (hb hby at_65) rfl k) ?_
        show own_Ends p e below F (T27.setTop (mkF m 66 #[.val (.int p1), .val (.int p2), .val (.int p3), .val (.int p4), .val (.int p5), .val (.ref a1), .val (.int (1 : Int32)), .val (.int (1 : Int32)), .val (.int (0 : Int32)), .val (.int (1 : Int32)), .unset] [(.int p2), (.ref b2)]))
        obtain ⟨cq28, kq28, qa28, qb28, qc28⟩ := isOf hZ eq27 fq10_2
        obtain ⟨_, _, ⟨T28, L28, k28, n28⟩, -, X28, ⟨Lc28, hQ28, l28, y28, z28⟩, st28⟩ := X27.virtualBack hx (y := (⟨"com/example/concept_reasoner/conceptreasoner/completion/IntList", "add", "(I)V"⟩ : MethodName)) (z := (⟨"com/example/concept_reasoner/conceptreasoner/completion/IntList", "add", "(I)V"⟩ : MethodName)) hown (mvT hZ (own_g hw 51 rfl)) (mvT hZ (own_g hw 52 rfl)) (notFace_of_selects (args := #[]) (mvT hZ (own_g hw 54 rfl))) (mvT hZ (own_g hw 54 rfl)) (mvT hZ (own_g hw 53 rfl)) (by decide) (backOf (W := 0) (rm9a l Z a0 hw [] b2 nn p2 kN T2.heap n0 Z2 fq10_2 ge_b2 fq11_2 fq12_2 ((VN.ext E1).keep Kq2 (ninS ne_nn_a1 nin0)) ne_nn_b2) hZ (own_g hw 55 rfl) (own_g hw 8 rfl) (by decide) (by decide)) qa28 qc28 (g := (mkF m 66 #[.val (.int p1), .val (.int p2), .val (.int p3), .val (.int p4), .val (.int p5), .val (.ref a1), .val (.int (1 : Int32)), .val (.int (1 : Int32)), .val (.int (0 : Int32)), .val (.int (1 : Int32)), .unset] [(.int p2), (.ref b2)])) rfl (by rw [hml]; rfl) (Steps.refl _) (argsL := [(.int p2)]) (rest := []) (lenOf pd__28I_29V rfl) rfl (by show 2 * 0 + _ ≤ _; exact Nat.le_of_eq rfl) (hb hby at_66) (fun _ _ => ⟨rfl, eq27, (by decide : 4 + 1 ≤ _), (by decide : 9 + 4 ≤ _)⟩)
        dsimp only [Pt.U, Pt.locs, Pt.cells, Pt.slots] at X28 l28 y28 z28 st28 hQ28
        subst l28 y28 z28
        obtain ⟨c28, kc28, rfl, Nq28, Kq28, fq0_28, fq1_28, fq2_28, fq3_28, fq4_28⟩ := hQ28
        have N28 := Fr.app N27 Nq28
        have Z28 : n0 ≤ T28.heap.size := Nat.le_trans Z2 Kq28.1
        have SZ28 : h0.size ≤ T28.heap.size := Nat.le_trans SZ2 Kq28.1
        have S0_28 := own_Sta_keep S0_2 Kq28 (allS (own_ns_exa fq10_2) all0)
        have ne_nn_c28 : nn ≠ c28 := Nat.ne_of_lt (Nat.lt_of_lt_of_le (((VN.ext E1).keep Kq2 (ninS ne_nn_a1 nin0))).lt fq0_28)
        have ne_a1_c28 : a1 ≠ c28 := Nat.ne_of_lt (Nat.lt_of_lt_of_le (fq7_2).lt fq0_28)
        have ne_b2_c28 : b2 ≠ c28 := Nat.ne_of_lt (Nat.lt_of_lt_of_le (fq10_2).lt fq0_28)
        have ne_c2_c28 : c2 ≠ c28 := Nat.ne_of_lt (Nat.lt_of_lt_of_le (fq13_2).lt fq0_28)
        have ne_d2_c28 : d2 ≠ c28 := Nat.ne_of_lt (Nat.lt_of_lt_of_le (fq16_2).lt fq0_28)
        have ge_c28 : n0 ≤ c28 := Nat.le_trans Z2 fq0_28
        have sz_c28 : h0.size ≤ c28 := Nat.le_trans SZ2 fq0_28
        refine own_trans st28 ?_
        show own_Ends p e below F (T28.setTop (mkF m 69 #[.val (.int p1), .val (.int p2), .val (.int p3), .val (.int p4), .val (.int p5), .val (.ref a1), .val (.int (1 : Int32)), .val (.int (1 : Int32)), .val (.int (0 : Int32)), .val (.int (1 : Int32)), .unset] []))
        refine own_step (fun _ k => XS.iload X28.here hx rfl (hb hby at_69) rfl k) ?_
        show own_Ends p e below F (T28.setTop (mkF m 71 #[.val (.int p1), .val (.int p2), .val (.int p3), .val (.int p4), .val (.int p5), .val (.ref a1), .val (.int (1 : Int32)), .val (.int (1 : Int32)), .val (.int (0 : Int32)), .val (.int (1 : Int32)), .unset] [(.int (0 : Int32))]))
        refine own_step (fun _ k => XS.ifYes X28.here hx rfl (pc0 := 71) (pc' := 93) rfl (hb hby at_71) rfl ((if0 _ _).trans (teq (by decide : (0 : Int32) = (0 : Int32))).1) (by decide) (by decide) k) ?_
        show own_Ends p e below F (T28.setTop (mkF m 93 #[.val (.int p1), .val (.int p2), .val (.int p3), .val (.int p4), .val (.int p5), .val (.ref a1), .val (.int (1 : Int32)), .val (.int (1 : Int32)), .val (.int (0 : Int32)), .val (.int (1 : Int32)), .unset] []))
        refine own_step (fun _ k => XS.iload X28.here hx rfl (hb hby at_93) rfl k) ?_
        show own_Ends p e below F (T28.setTop (mkF m 95 #[.val (.int p1), .val (.int p2), .val (.int p3), .val (.int p4), .val (.int p5), .val (.ref a1), .val (.int (1 : Int32)), .val (.int (1 : Int32)), .val (.int (0 : Int32)), .val (.int (1 : Int32)), .unset] [(.int (1 : Int32))]))
        refine own_step (fun _ k => XS.ifNo X28.here hx rfl (hb hby at_95) rfl ((if0 _ _).trans (feq (by decide : ¬ ((1 : Int32) = (0 : Int32)))).1) k) ?_
        show own_Ends p e below F (T28.setTop (mkF m 98 #[.val (.int p1), .val (.int p2), .val (.int p3), .val (.int p4), .val (.int p5), .val (.ref a1), .val (.int (1 : Int32)), .val (.int (1 : Int32)), .val (.int (0 : Int32)), .val (.int (1 : Int32)), .unset] []))
        refine own_step (fun _ k => XS.aload X28.here hx rfl (hb hby at_98) rfl rfl k) ?_
        show own_Ends p e below F (T28.setTop (mkF m 100 #[.val (.int p1), .val (.int p2), .val (.int p3), .val (.int p4), .val (.int p5), .val (.ref a1), .val (.int (1 : Int32)), .val (.int (1 : Int32)), .val (.int (0 : Int32)), .val (.int (1 : Int32)), .unset] [(.ref a1)]))
        obtain ⟨cq29, kq29, qa29, qb29, qc29⟩ := isOf hZ rfl (fq6_2.keep Kq28)
        obtain ⟨_, _, ⟨T29, L29, k29, n29⟩, -, X29, ⟨Lc29, hQ29, l29, y29, z29⟩, st29⟩ := X28.virtualBack hx (y := (⟨"com/example/concept_reasoner/conceptreasoner/completion/Axioms$LeftOf", "disjointnesses", "()Lcom/example/concept_reasoner/conceptreasoner/completion/IntList;"⟩ : MethodName)) (z := (⟨"com/example/concept_reasoner/conceptreasoner/completion/Axioms$LeftOf", "disjointnesses", "()Lcom/example/concept_reasoner/conceptreasoner/completion/IntList;"⟩ : MethodName)) hown (mvT hZ (own_g hw 77 rfl)) (mvT hZ (own_g hw 78 rfl)) (notFace_of_selects (args := #[]) (mvT hZ (own_g hw 80 rfl))) (mvT hZ (own_g hw 80 rfl)) (mvT hZ (own_g hw 79 rfl)) (by decide) (backOf (W := 0) (rm14 l Z a0 hw [] a1 d2 T28.heap n0 Z28 (fq9_2.keep Kq28 (ninS ne_a1_b2 nin0))) hZ (own_g hw 81 rfl) (own_g hw 2 rfl) (by decide) (by decide)) qa29 qc29 (g := (mkF m 100 #[.val (.int p1), .val (.int p2), .val (.int p3), .val (.int p4), .val (.int p5), .val (.ref a1), .val (.int (1 : Int32)), .val (.int (1 : Int32)), .val (.int (0 : Int32)), .val (.int (1 : Int32)), .unset] [(.ref a1)])) rfl (by rw [hml]; rfl) (Steps.refl _) (argsL := []) (rest := []) (lenOf pd__28_29Lcom_2fexample_2fconcept_reasoner_2fconceptreasoner_2fcompletion_2fIntList_3b rfl) rfl (by show 2 * 0 + _ ≤ _; exact Nat.le_of_eq rfl) (hb hby at_100) (fun _ _ => ⟨rfl, rfl, (by decide : 5 + 0 ≤ _), (by decide : 13 + 0 ≤ _)⟩)
        dsimp only [Pt.U, Pt.locs, Pt.cells, Pt.slots] at X29 l29 y29 z29 st29 hQ29
        subst l29 y29 z29
        obtain ⟨rfl, Nq29, eq29⟩ := hQ29
        have N29 := Fr.app N28 Nq29
        refine own_trans st29 ?_
        show own_Ends p e below F (T29.setTop (mkF m 103 #[.val (.int p1), .val (.int p2), .val (.int p3), .val (.int p4), .val (.int p5), .val (.ref a1), .val (.int (1 : Int32)), .val (.int (1 : Int32)), .val (.int (0 : Int32)), .val (.int (1 : Int32)), .unset] [(.ref d2)]))
        refine own_step (fun _ k => XS.iload X29.here hx rfl (hb hby at_103) rfl k) ?_
        show own_Ends p e below F (T29.setTop (mkF m 105 #[.val (.int p1), .val (.int p2), .val (.int p3), .val (.int p4), .val (.int p5), .val (.ref a1), .val (.int (1 : Int32)), .val (.int (1 : Int32)), .val (.int (0 : Int32)), .val (.int (1 : Int32)), .unset] [(.int p5), (.ref d2)]))
        obtain ⟨cq30, kq30, qa30, qb30, qc30⟩ := isOf hZ eq29 (fq16_2.keep Kq28)
        obtain ⟨_, _, ⟨T30, L30, k30, n30⟩, -, X30, ⟨Lc30, hQ30, l30, y30, z30⟩, st30⟩ := X29.virtualBack hx (y := (⟨"com/example/concept_reasoner/conceptreasoner/completion/IntList", "add", "(I)V"⟩ : MethodName)) (z := (⟨"com/example/concept_reasoner/conceptreasoner/completion/IntList", "add", "(I)V"⟩ : MethodName)) hown (mvT hZ (own_g hw 51 rfl)) (mvT hZ (own_g hw 52 rfl)) (notFace_of_selects (args := #[]) (mvT hZ (own_g hw 54 rfl))) (mvT hZ (own_g hw 54 rfl)) (mvT hZ (own_g hw 53 rfl)) (by decide) (backOf (W := 0) (rm9a l Z a0 hw [] d2 nn p5 kN T28.heap n0 Z28 (fq16_2.keep Kq28) ge_d2 (fq17_2.keep Kq28 (ninS (Ne.symm fq4_2) nin0)) (fq18_2.keep Kq28 (ninS (Ne.symm fq4_2) nin0)) (((VN.ext E1).keep Kq2 (ninS ne_nn_a1 nin0)).keep Kq28 (ninS ne_nn_b2 nin0)) ne_nn_d2) hZ (own_g hw 55 rfl) (own_g hw 8 rfl) (by decide) (by decide)) qa30 qc30 (g := (mkF m 105 #[.val (.int p1), .val (.int p2), .val (.int p3), .val (.int p4), .val (.int p5), .val (.ref a1), .val (.int (1 : Int32)), .val (.int (1 : Int32)), .val (.int (0 : Int32)), .val (.int (1 : Int32)), .unset] [(.int p5), (.ref d2)])) rfl (by rw [hml]; rfl) (Steps.refl _) (argsL := [(.int p5)]) (rest := []) (lenOf pd__28I_29V rfl) rfl (by show 2 * 0 + _ ≤ _; exact Nat.le_of_eq rfl) (hb hby at_105) (fun _ _ => ⟨rfl, eq29, (by decide : 5 + 1 ≤ _), (by decide : 13 + 4 ≤ _)⟩)
        dsimp only [Pt.U, Pt.locs, Pt.cells, Pt.slots] at X30 l30 y30 z30 st30 hQ30
        subst l30 y30 z30
        obtain ⟨c30, kc30, rfl, Nq30, Kq30, fq0_30, fq1_30, fq2_30, fq3_30, fq4_30⟩ := hQ30
        have N30 := Fr.app N29 Nq30
        have Z30 : n0 ≤ T30.heap.size := Nat.le_trans Z28 Kq30.1
        have SZ30 : h0.size ≤ T30.heap.size := Nat.le_trans SZ28 Kq30.1
        have S0_30 := own_Sta_keep S0_28 Kq30 (allS (own_ns_exa (fq16_2.keep Kq28)) all0)
        have ne_nn_c30 : nn ≠ c30 := Nat.ne_of_lt (Nat.lt_of_lt_of_le ((((VN.ext E1).keep Kq2 (ninS ne_nn_a1 nin0)).keep Kq28 (ninS ne_nn_b2 nin0))).lt fq0_30)
        have ne_a1_c30 : a1 ≠ c30 := Nat.ne_of_lt (Nat.lt_of_lt_of_le ((fq7_2.keep Kq28 (ninS ne_a1_b2 nin0))).lt fq0_30)
        have ne_b2_c30 : b2 ≠ c30 := Nat.ne_of_lt (Nat.lt_of_lt_of_le (fq1_28).lt fq0_30)
        have ne_c2_c30 : c2 ≠ c30 := Nat.ne_of_lt (Nat.lt_of_lt_of_le ((fq13_2.keep Kq28)).lt fq0_30)
        have ne_d2_c30 : d2 ≠ c30 := Nat.ne_of_lt (Nat.lt_of_lt_of_le ((fq16_2.keep Kq28)).lt fq0_30)
        have ne_c28_c30 : c28 ≠ c30 := Nat.ne_of_lt (Nat.lt_of_lt_of_le (fq4_28).lt fq0_30)
        have ge_c30 : n0 ≤ c30 := Nat.le_trans Z28 fq0_30
        have sz_c30 : h0.size ≤ c30 := Nat.le_trans SZ28 fq0_30
        refine own_trans st30 ?_
        show own_Ends p e below F (T30.setTop (mkF m 108 #[.val (.int p1), .val (.int p2), .val (.int p3), .val (.int p4), .val (.int p5), .val (.ref a1), .val (.int (1 : Int32)), .val (.int (1 : Int32)), .val (.int (0 : Int32)), .val (.int (1 : Int32)), .unset] []))
        refine own_step (fun _ k => XS.iload X30.here hx rfl (hb hby at_108) rfl k) ?_
        show own_Ends p e below F (T30.setTop (mkF m 110 #[.val (.int p1), .val (.int p2), .val (.int p3), .val (.int p4), .val (.int p5), .val (.ref a1), .val (.int (1 : Int32)), .val (.int (1 : Int32)), .val (.int (0 : Int32)), .val (.int (1 : Int32)), .unset] [(.int (1 : Int32))]))
        refine own_step (fun _ k => XS.ifYes X30.here hx rfl (pc0 := 110) (pc' := 127) rfl (hb hby at_110) rfl ((if0 _ _).trans (feq (by decide : ¬ ((1 : Int32) = (0 : Int32)))).2) (by decide) (by decide) k) ?_
        show own_Ends p e below F (T30.setTop (mkF m 127 #[.val (.int p1), .val (.int p2), .val (.int p3), .val (.int p4), .val (.int p5), .val (.ref a1), .val (.int (1 : Int32)), .val (.int (1 : Int32)), .val (.int (0 : Int32)), .val (.int (1 : Int32)), .unset] []))
        refine own_step (fun _ k => XS.iconst X30.here hx rfl (hb hby at_127) k) ?_
        show own_Ends p e below F (T30.setTop (mkF m 128 #[.val (.int p1), .val (.int p2), .val (.int p3), .val (.int p4), .val (.int p5), .val (.ref a1), .val (.int (1 : Int32)), .val (.int (1 : Int32)), .val (.int (0 : Int32)), .val (.int (1 : Int32)), .unset] [(.int (0 : Int32))]))
        refine own_step (fun _ k => XS.istore X30.here hx rfl (hb hby at_128) rfl (l' := #[.val (.int p1), .val (.int p2), .val (.int p3), .val (.int p4), .val (.int p5), .val (.ref a1), .val (.int (1 : Int32)), .val (.int (1 : Int32)), .val (.int (0 : Int32)), .val (.int (1 : Int32)), .val (.int (0 : Int32))]) rfl k) ?_
        show own_Ends p e below F (T30.setTop (mkF m 130 #[.val (.int p1), .val (.int p2), .val (.int p3), .val (.int p4), .val (.int p5), .val (.ref a1), .val (.int (1 : Int32)), .val (.int (1 : Int32)), .val (.int (0 : Int32)), .val (.int (1 : Int32)), .val (.int (0 : Int32))] []))
        refine own_step (fun _ k => XS.iload X30.here hx rfl (hb hby at_130) rfl k) ?_
        show own_Ends p e below F (T30.setTop (mkF m 132 #[.val (.int p1), .val (.int p2), .val (.int p3), .val (.int p4), .val (.int p5), .val (.ref a1), .val (.int (1 : Int32)), .val (.int (1 : Int32)), .val (.int (0 : Int32)), .val (.int (1 : Int32)), .val (.int (0 : Int32))] [(.int (1 : Int32))]))
        refine own_step (fun _ k => XS.ifNo X30.here hx rfl (hb hby at_132) rfl ((if0 _ _).trans (feq (by decide : ¬ ((1 : Int32) = (0 : Int32)))).1) k) ?_
        show own_Ends p e below F (T30.setTop (mkF m 135 #[.val (.int p1), .val (.int p2), .val (.int p3), .val (.int p4), .val (.int p5), .val (.ref a1), .val (.int (1 : Int32)), .val (.int (1 : Int32)), .val (.int (0 : Int32)), .val (.int (1 : Int32)), .val (.int (0 : Int32))] []))
        refine own_step (fun _ k => XS.aload X30.here hx rfl (hb hby at_135) rfl rfl k) ?_
        show own_Ends p e below F (T30.setTop (mkF m 137 #[.val (.int p1), .val (.int p2), .val (.int p3), .val (.int p4), .val (.int p5), .val (.ref a1), .val (.int (1 : Int32)), .val (.int (1 : Int32)), .val (.int (0 : Int32)), .val (.int (1 : Int32)), .val (.int (0 : Int32))] [(.ref a1)]))
        obtain ⟨cq31, kq31, qa31, qb31, qc31⟩ := isOf hZ rfl ((fq6_2.keep Kq28).keep Kq30)
        obtain ⟨_, _, ⟨T31, L31, k31, n31⟩, -, X31, ⟨Lc31, hQ31, l31, y31, z31⟩, st31⟩ := X30.virtualBack hx (y := (⟨"com/example/concept_reasoner/conceptreasoner/completion/Axioms$LeftOf", "isEmpty", "()Z"⟩ : MethodName)) (z := (⟨"com/example/concept_reasoner/conceptreasoner/completion/Axioms$LeftOf", "isEmpty", "()Z"⟩ : MethodName)) hown (mvT hZ (own_g hw 34 rfl)) (mvT hZ (own_g hw 35 rfl)) (notFace_of_selects (args := #[]) (mvT hZ (own_g hw 37 rfl))) (mvT hZ (own_g hw 37 rfl)) (mvT hZ (own_g hw 36 rfl)) (by decide) (backOf (W := 0) (rm6 l Z a0 hw [] a1 b2 c2 d2 (1 : Int32) (0 : Int32) (1 : Int32) T30.heap n0 Z30 ((fq7_2.keep Kq28 (ninS ne_a1_b2 nin0)).keep Kq30 (ninS ne_a1_d2 nin0)) (fq1_28.keep Kq30) (fq2_28.keep Kq30 (ninS fq4_2 nin0)) ((fq8_2.keep Kq28 (ninS ne_a1_b2 nin0)).keep Kq30 (ninS ne_a1_d2 nin0)) ((fq13_2.keep Kq28).keep Kq30) ((fq14_2.keep Kq28 (ninS (Ne.symm fq3_2) nin0)).keep Kq30 (ninS fq5_2 nin0)) ((fq9_2.keep Kq28 (ninS ne_a1_b2 nin0)).keep Kq30 (ninS ne_a1_d2 nin0)) fq1_30 fq2_30) hZ (own_g hw 38 rfl) (own_g hw 2 rfl) (by decide) (by decide)) qa31 qc31 (g := (mkF m 137 #[.val (.int p1), .val (.int p2), .val (.int p3), .val (.int p4), .val (.int p5), .val (.ref a1), .val (.int (1 : Int32)), .val (.int (1 : Int32)), .val (.int (0 : Int32)), .val (.int (1 : Int32)), .val (.int (0 : Int32))] [(.ref a1)])) rfl (by rw [hml]; rfl) (Steps.refl _) (argsL := []) (rest := []) (lenOf pd__28_29Z rfl) rfl (by show 2 * 0 + _ ≤ _; exact Nat.le_of_eq rfl) (hb hby at_137) (fun _ _ => ⟨rfl, rfl, (by decide : 6 + 0 ≤ _), (by decide : 17 + 0 ≤ _)⟩)
        dsimp only [Pt.U, Pt.locs, Pt.cells, Pt.slots] at X31 l31 y31 z31 st31 hQ31
        subst l31 y31 z31
        obtain ⟨rfl, Nq31, eq31⟩ := hQ31
        have N31 := Fr.app N30 Nq31
        refine own_trans st31 ?_
        show own_Ends p e below F (T31.setTop (mkF m 140 #[.val (.int p1), .val (.int p2), .val (.int p3), .val (.int p4), .val (.int p5), .val (.ref a1), .val (.int (1 : Int32)), .val (.int (1 : Int32)), .val (.int (0 : Int32)), .val (.int (1 : Int32)), .val (.int (0 : Int32))] [(.int (own_emp3 (1 : Int32) (0 : Int32) (1 : Int32)))]))
        rw [show (own_emp3 (1 : Int32) (0 : Int32) (1 : Int32)) = (0 : Int32) from (by first | rfl | decide)]
        show own_Ends p e below F (T31.setTop (mkF m 140 #[.val (.int p1), .val (.int p2), .val (.int p3), .val (.int p4), .val (.int p5), .val (.ref a1), .val (.int (1 : Int32)), .val (.int (1 : Int32)), .val (.int (0 : Int32)), .val (.int (1 : Int32)), .val (.int (0 : Int32))] [(.int (0 : Int32))]))
        refine own_step (fun _ k => XS.iload X31.here hx rfl (hb hby at_140) rfl k) ?_
        show own_Ends p e below F (T31.setTop (mkF m 142 #[.val (.int p1), .val (.int p2), .val (.int p3), .val (.int p4), .val (.int p5), .val (.ref a1), .val (.int (1 : Int32)), .val (.int (1 : Int32)), .val (.int (0 : Int32)), .val (.int (1 : Int32)), .val (.int (0 : Int32))] [(.int (0 : Int32)), (.int (0 : Int32))]))
        refine own_step (fun _ k => XS.icmpNo X31.here hx rfl (hb hby at_142) rfl (teq (by decide : (0 : Int32) = (0 : Int32))).2 k) ?_
        show own_Ends p e below F (T31.setTop (mkF m 145 #[.val (.int p1), .val (.int p2), .val (.int p3), .val (.int p4), .val (.int p5), .val (.ref a1), .val (.int (1 : Int32)), .val (.int (1 : Int32)), .val (.int (0 : Int32)), .val (.int (1 : Int32)), .val (.int (0 : Int32))] []))
        refine own_step (fun _ k => XS.iconst X31.here hx rfl (hb hby at_145) k) ?_
        show own_Ends p e below F (T31.setTop (mkF m 146 #[.val (.int p1), .val (.int p2), .val (.int p3), .val (.int p4), .val (.int p5), .val (.ref a1), .val (.int (1 : Int32)), .val (.int (1 : Int32)), .val (.int (0 : Int32)), .val (.int (1 : Int32)), .val (.int (0 : Int32))] [(.int (1 : Int32))]))
        refine own_step (fun _ k => XS.goto X31.here hx rfl (pc0 := 146) (pc' := 150) rfl (hb hby at_146) (by decide) (by decide) k) ?_
        show own_Ends p e below F (T31.setTop (mkF m 150 #[.val (.int p1), .val (.int p2), .val (.int p3), .val (.int p4), .val (.int p5), .val (.ref a1), .val (.int (1 : Int32)), .val (.int (1 : Int32)), .val (.int (0 : Int32)), .val (.int (1 : Int32)), .val (.int (0 : Int32))] [(.int (1 : Int32))]))
        rw [hF]
        exact own_ret X31 (v := (some (.int (nar .boolean (1 : Int32))))) (fun h => by rw [Bd.returns] at h; cases h) Bd.notSynchronized (fun fs hr => retN X31 hx (t := .boolean) Bd.returns (by simp) (hb hby at_150) hr) (by decide) (by decide) (by rw [eq31]; exact ⟨rfl, N31⟩)
    · refine own_step (fun _ k => XS.ifNo X3.here hx rfl (hb hby at_32) rfl ((if0 _ _).trans (feq c32_22).1) k) ?_
      show own_Ends p e below F (T3.setTop (mkF m 35 #[.val (.int p1), .val (.int p2), .val (.int p3), .val (.int p4), .val (.int p5), .val (.ref a1), .val (.int (1 : Int32)), .val (.int (1 : Int32)), .unset, .unset, .unset] []))
      refine own_step (fun _ k => XS.iconst X3.here hx rfl (hb hby at_35) k) ?_
      show own_Ends p e below F (T3.setTop (mkF m 36 #[.val (.int p1), .val (.int p2), .val (.int p3), .val (.int p4), .val (.int p5), .val (.ref a1), .val (.int (1 : Int32)), .val (.int (1 : Int32)), .unset, .unset, .unset] [(.int (1 : Int32))]))
      refine own_step (fun _ k => XS.goto X3.here hx rfl (pc0 := 36) (pc' := 40) rfl (hb hby at_36) (by decide) (by decide) k) ?_
      show own_Ends p e below F (T3.setTop (mkF m 40 #[.val (.int p1), .val (.int p2), .val (.int p3), .val (.int p4), .val (.int p5), .val (.ref a1), .val (.int (1 : Int32)), .val (.int (1 : Int32)), .unset, .unset, .unset] [(.int (1 : Int32))]))
      refine own_step (fun _ k => XS.istore X3.here hx rfl (hb hby at_40) rfl (l' := #[.val (.int p1), .val (.int p2), .val (.int p3), .val (.int p4), .val (.int p5), .val (.ref a1), .val (.int (1 : Int32)), .val (.int (1 : Int32)), .val (.int (1 : Int32)), .unset, .unset]) rfl k) ?_
      show own_Ends p e below F (T3.setTop (mkF m 42 #[.val (.int p1), .val (.int p2), .val (.int p3), .val (.int p4), .val (.int p5), .val (.ref a1), .val (.int (1 : Int32)), .val (.int (1 : Int32)), .val (.int (1 : Int32)), .unset, .unset] []))
      refine own_step (fun _ k => XS.iloadN X3.here hx rfl (hb hby at_42) rfl k) ?_
      show own_Ends p e below F (T3.setTop (mkF m 43 #[.val (.int p1), .val (.int p2), .val (.int p3), .val (.int p4), .val (.int p5), .val (.ref a1), .val (.int (1 : Int32)), .val (.int (1 : Int32)), .val (.int (1 : Int32)), .unset, .unset] [(.int p1)]))
      refine own_step (fun _ k => XS.iconst X3.here hx rfl (hb hby at_43) k) ?_
      show own_Ends p e below F (T3.setTop (mkF m 44 #[.val (.int p1), .val (.int p2), .val (.int p3), .val (.int p4), .val (.int p5), .val (.ref a1), .val (.int (1 : Int32)), .val (.int (1 : Int32)), .val (.int (1 : Int32)), .unset, .unset] [(.int (4 : Int32)), (.int p1)]))
      refine own_step (fun _ k => XS.iand X3.here hx rfl (hb hby at_44) rfl k) ?_
      show own_Ends p e below F (T3.setTop (mkF m 45 #[.val (.int p1), .val (.int p2), .val (.int p3), .val (.int p4), .val (.int p5), .val (.ref a1), .val (.int (1 : Int32)), .val (.int (1 : Int32)), .val (.int (1 : Int32)), .unset, .unset] [(.int (p1 &&& (4 : Int32)))]))
      by_cases c45_32 : (p1 &&& (4 : Int32)) = (0 : Int32)
      · refine own_step (fun _ k => XS.ifYes X3.here hx rfl (pc0 := 45) (pc' := 52) rfl (hb hby at_45) rfl ((if0 _ _).trans (teq c45_32).1) (by decide) (by decide) k) ?_
        show own_Ends p e below F (T3.setTop (mkF m 52 #[.val (.int p1), .val (.int p2), .val (.int p3), .val (.int p4), .val (.int p5), .val (.ref a1), .val (.int (1 : Int32)), .val (.int (1 : Int32)), .val (.int (1 : Int32)), .unset, .unset] []))
        refine own_step (fun _ k => XS.iconst X3.here hx rfl (hb hby at_52) k) ?_
        show own_Ends p e below F (T3.setTop (mkF m 53 #[.val (.int p1), .val (.int p2), .val (.int p3), .val (.int p4), .val (.int p5), .val (.ref a1), .val (.int (1 : Int32)), .val (.int (1 : Int32)), .val (.int (1 : Int32)), .unset, .unset] [(.int (0 : Int32))]))
        refine own_step (fun _ k => XS.istore X3.here hx rfl (hb hby at_53) rfl (l' := #[.val (.int p1), .val (.int p2), .val (.int p3), .val (.int p4), .val (.int p5), .val (.ref a1), .val (.int (1 : Int32)), .val (.int (1 : Int32)), .val (.int (1 : Int32)), .val (.int (0 : Int32)), .unset]) rfl k) ?_
        show own_Ends p e below F (T3.setTop (mkF m 55 #[.val (.int p1), .val (.int p2), .val (.int p3), .val (.int p4), .val (.int p5), .val (.ref a1), .val (.int (1 : Int32)), .val (.int (1 : Int32)), .val (.int (1 : Int32)), .val (.int (0 : Int32)), .unset] []))
        refine own_step (fun _ k => XS.iload X3.here hx rfl (hb hby at_55) rfl k) ?_
        show own_Ends p e below F (T3.setTop (mkF m 57 #[.val (.int p1), .val (.int p2), .val (.int p3), .val (.int p4), .val (.int p5), .val (.ref a1), .val (.int (1 : Int32)), .val (.int (1 : Int32)), .val (.int (1 : Int32)), .val (.int (0 : Int32)), .unset] [(.int (1 : Int32))]))
        refine own_step (fun _ k => XS.ifNo X3.here hx rfl (hb hby at_57) rfl ((if0 _ _).trans (feq (by decide : ¬ ((1 : Int32) = (0 : Int32)))).1) k) ?_
        show own_Ends p e below F (T3.setTop (mkF m 60 #[.val (.int p1), .val (.int p2), .val (.int p3), .val (.int p4), .val (.int p5), .val (.ref a1), .val (.int (1 : Int32)), .val (.int (1 : Int32)), .val (.int (1 : Int32)), .val (.int (0 : Int32)), .unset] []))
        refine own_step (fun _ k => XS.aload X3.here hx rfl (hb hby at_60) rfl rfl k) ?_
        show own_Ends p e below F (T3.setTop (mkF m 62 #[.val (.int p1), .val (.int p2), .val (.int p3), .val (.int p4), .val (.int p5), .val (.ref a1), .val (.int (1 : Int32)), .val (.int (1 : Int32)), .val (.int (1 : Int32)), .val (.int (0 : Int32)), .unset] [(.ref a1)]))
        obtain ⟨cq33, kq33, qa33, qb33, qc33⟩ := isOf hZ eq3 fq6_2
        obtain ⟨_, _, ⟨T33, L33, k33, n33⟩, -, X33, ⟨Lc33, hQ33, l33, y33, z33⟩, st33⟩ := X3.virtualBack hx (y := (⟨"com/example/concept_reasoner/conceptreasoner/completion/Axioms$LeftOf", "implied", "()Lcom/example/concept_reasoner/conceptreasoner/completion/IntList;"⟩ : MethodName)) (z := (⟨"com/example/concept_reasoner/conceptreasoner/completion/Axioms$LeftOf", "implied", "()Lcom/example/concept_reasoner/conceptreasoner/completion/IntList;"⟩ : MethodName)) hown (mvT hZ (own_g hw 46 rfl)) (mvT hZ (own_g hw 47 rfl)) (notFace_of_selects (args := #[]) (mvT hZ (own_g hw 49 rfl))) (mvT hZ (own_g hw 49 rfl)) (mvT hZ (own_g hw 48 rfl)) (by decide) (backOf (W := 0) (rm8 l Z a0 hw [] a1 b2 T2.heap n0 Z2 fq7_2) hZ (own_g hw 50 rfl) (own_g hw 2 rfl) (by decide) (by decide)) qa33 qc33 (g := (mkF m 62 #[.val (.int p1), .val (.int p2), .val (.int p3), .val (.int p4), .val (.int p5), .val (.ref a1), .val (.int (1 : Int32)), .val (.int (1 : Int32)), .val (.int (1 : Int32)), .val (.int (0 : Int32)), .unset] [(.ref a1)])) rfl (by rw [hml]; rfl) (Steps.refl _) (argsL := []) (rest := []) (lenOf pd__28_29Lcom_2fexample_2fconcept_reasoner_2fconceptreasoner_2fcompletion_2fIntList_3b rfl) rfl (by show 2 * 0 + _ ≤ _; exact Nat.le_of_eq rfl) (hb hby at_62) (fun _ _ => ⟨rfl, eq3, (by decide : 4 + 0 ≤ _), (by decide : 9 + 0 ≤ _)⟩)
        dsimp only [Pt.U, Pt.locs, Pt.cells, Pt.slots] at X33 l33 y33 z33 st33 hQ33
        subst l33 y33 z33
        obtain ⟨rfl, Nq33, eq33⟩ := hQ33
        have N33 := Fr.app N3 Nq33
        refine own_trans st33 ?_
        show own_Ends p e below F (T33.setTop (mkF m 65 #[.val (.int p1), .val (.int p2), .val (.int p3), .val (.int p4), .val (.int p5), .val (.ref a1), .val (.int (1 : Int32)), .val (.int (1 : Int32)), .val (.int (1 : Int32)), .val (.int (0 : Int32)), .unset] [(.ref b2)]))
        refine own_step (fun _ k => XS.iloadN X33.here hx rfl (hb hby at_65) rfl k) ?_
        show own_Ends p e below F (T33.setTop (mkF m 66 #[.val (.int p1), .val (.int p2), .val (.int p3), .val (.int p4), .val (.int p5), .val (.ref a1), .val (.int (1 : Int32)), .val (.int (1 : Int32)), .val (.int (1 : Int32)), .val (.int (0 : Int32)), .unset] [(.int p2), (.ref b2)]))
        obtain ⟨cq34, kq34, qa34, qb34, qc34⟩ := isOf hZ eq33 fq10_2
        obtain ⟨_, _, ⟨T34, L34, k34, n34⟩, -, X34, ⟨Lc34, hQ34, l34, y34, z34⟩, st34⟩ := X33.virtualBack hx (y := (⟨"com/example/concept_reasoner/conceptreasoner/completion/IntList", "add", "(I)V"⟩ : MethodName)) (z := (⟨"com/example/concept_reasoner/conceptreasoner/completion/IntList", "add", "(I)V"⟩ : MethodName)) hown (mvT hZ (own_g hw 51 rfl)) (mvT hZ (own_g hw 52 rfl)) (notFace_of_selects (args := #[]) (mvT hZ (own_g hw 54 rfl))) (mvT hZ (own_g hw 54 rfl)) (mvT hZ (own_g hw 53 rfl)) (by decide) (backOf (W := 0) (rm9a l Z a0 hw [] b2 nn p2 kN T2.heap n0 Z2 fq10_2 ge_b2 fq11_2 fq12_2 ((VN.ext E1).keep Kq2 (ninS ne_nn_a1 nin0)) ne_nn_b2) hZ (own_g hw 55 rfl) (own_g hw 8 rfl) (by decide) (by decide)) qa34 qc34 (g := (mkF m 66 #[.val (.int p1), .val (.int p2), .val (.int p3), .val (.int p4), .val (.int p5), .val (.ref a1), .val (.int (1 : Int32)), .val (.int (1 : Int32)), .val (.int (1 : Int32)), .val (.int (0 : Int32)), .unset] [(.int p2), (.ref b2)])) rfl (by rw [hml]; rfl) (Steps.refl _) (argsL := [(.int p2)]) (rest := []) (lenOf pd__28I_29V rfl) rfl (by show 2 * 0 + _ ≤ _; exact Nat.le_of_eq rfl) (hb hby at_66) (fun _ _ => ⟨rfl, eq33, (by decide : 4 + 1 ≤ _), (by decide : 9 + 4 ≤ _)⟩)
        dsimp only [Pt.U, Pt.locs, Pt.cells, Pt.slots] at X34 l34 y34 z34 st34 hQ34
        subst l34 y34 z34
        obtain ⟨c34, kc34, rfl, Nq34, Kq34, fq0_34, fq1_34, fq2_34, fq3_34, fq4_34⟩ := hQ34
        have N34 := Fr.app N33 Nq34
        have Z34 : n0 ≤ T34.heap.size := Nat.le_trans Z2 Kq34.1
        have SZ34 : h0.size ≤ T34.heap.size := Nat.le_trans SZ2 Kq34.1
        have S0_34 := own_Sta_keep S0_2 Kq34 (allS (own_ns_exa fq10_2) all0)
        have ne_nn_c34 : nn ≠ c34 := Nat.ne_of_lt (Nat.lt_of_lt_of_le (((VN.ext E1).keep Kq2 (ninS ne_nn_a1 nin0))).lt fq0_34)
        have ne_a1_c34 : a1 ≠ c34 := Nat.ne_of_lt (Nat.lt_of_lt_of_le (fq7_2).lt fq0_34)
        have ne_b2_c34 : b2 ≠ c34 := Nat.ne_of_lt (Nat.lt_of_lt_of_le (fq10_2).lt fq0_34)
        have ne_c2_c34 : c2 ≠ c34 := Nat.ne_of_lt (Nat.lt_of_lt_of_le (fq13_2).lt fq0_34)
        have ne_d2_c34 : d2 ≠ c34 := Nat.ne_of_lt (Nat.lt_of_lt_of_le (fq16_2).lt fq0_34)
        have ge_c34 : n0 ≤ c34 := Nat.le_trans Z2 fq0_34
        have sz_c34 : h0.size ≤ c34 := Nat.le_trans SZ2 fq0_34
        refine own_trans st34 ?_
        show own_Ends p e below F (T34.setTop (mkF m 69 #[.val (.int p1), .val (.int p2), .val (.int p3), .val (.int p4), .val (.int p5), .val (.ref a1), .val (.int (1 : Int32)), .val (.int (1 : Int32)), .val (.int (1 : Int32)), .val (.int (0 : Int32)), .unset] []))
        refine own_step (fun _ k => XS.iload X34.here hx rfl (hb hby at_69) rfl k) ?_
        show own_Ends p e below F (T34.setTop (mkF m 71 #[.val (.int p1), .val (.int p2), .val (.int p3), .val (.int p4), .val (.int p5), .val (.ref a1), .val (.int (1 : Int32)), .val (.int (1 : Int32)), .val (.int (1 : Int32)), .val (.int (0 : Int32)), .unset] [(.int (1 : Int32))]))
        refine own_step (fun _ k => XS.ifNo X34.here hx rfl (hb hby at_71) rfl ((if0 _ _).trans (feq (by decide : ¬ ((1 : Int32) = (0 : Int32)))).1) k) ?_
        show own_Ends p e below F (T34.setTop (mkF m 74 #[.val (.int p1), .val (.int p2), .val (.int p3), .val (.int p4), .val (.int p5), .val (.ref a1), .val (.int (1 : Int32)), .val (.int (1 : Int32)), .val (.int (1 : Int32)), .val (.int (0 : Int32)), .unset] []))
        refine own_step (fun _ k => XS.aload X34.here hx rfl (hb hby at_74) rfl rfl k) ?_
        show own_Ends p e below F (T34.setTop (mkF m 76 #[.val (.int p1), .val (.int p2), .val (.int p3), .val (.int p4), .val (.int p5), .val (.ref a1), .val (.int (1 : Int32)), .val (.int (1 : Int32)), .val (.int (1 : Int32)), .val (.int (0 : Int32)), .unset] [(.ref a1)]))
        obtain ⟨cq35, kq35, qa35, qb35, qc35⟩ := isOf hZ rfl (fq6_2.keep Kq34)
        obtain ⟨_, _, ⟨T35, L35, k35, n35⟩, -, X35, ⟨Lc35, hQ35, l35, y35, z35⟩, st35⟩ := X34.virtualBack hx (y := (⟨"com/example/concept_reasoner/conceptreasoner/completion/Axioms$LeftOf", "existentials", "()Lcom/example/concept_reasoner/conceptreasoner/completion/IntList;"⟩ : MethodName)) (z := (⟨"com/example/concept_reasoner/conceptreasoner/completion/Axioms$LeftOf", "existentials", "()Lcom/example/concept_reasoner/conceptreasoner/completion/IntList;"⟩ : MethodName)) hown (mvT hZ (own_g hw 72 rfl)) (mvT hZ (own_g hw 73 rfl)) (notFace_of_selects (args := #[]) (mvT hZ (own_g hw 75 rfl))) (mvT hZ (own_g hw 75 rfl)) (mvT hZ (own_g hw 74 rfl)) (by decide) (backOf (W := 0) (rm13 l Z a0 hw [] a1 c2 T34.heap n0 Z34 (fq8_2.keep Kq34 (ninS ne_a1_b2 nin0))) hZ (own_g hw 76 rfl) (own_g hw 2 rfl) (by decide) (by decide)) qa35 qc35 (g := (mkF m 76 #[.val (.int p1), .val (.int p2), .val (.int p3), .val (.int p4), .val (.int p5), .val (.ref a1), .val (.int (1 : Int32)), .val (.int (1 : Int32)), .val (.int (1 : Int32)), .val (.int (0 : Int32)), .unset] [(.ref a1)])) rfl (by rw [hml]; rfl) (Steps.refl _) (argsL := []) (rest := []) (lenOf pd__28_29Lcom_2fexample_2fconcept_reasoner_2fconceptreasoner_2fcompletion_2fIntList_3b rfl) rfl (by show 2 * 0 + _ ≤ _; exact Nat.le_of_eq rfl) (hb hby at_76) (fun _ _ => ⟨rfl, rfl, (by decide : 5 + 0 ≤ _), (by decide : 13 + 0 ≤ _)⟩)
        dsimp only [Pt.U, Pt.locs, Pt.cells, Pt.slots] at X35 l35 y35 z35 st35 hQ35
        subst l35 y35 z35
        obtain ⟨rfl, Nq35, eq35⟩ := hQ35
        have N35 := Fr.app N34 Nq35
        refine own_trans st35 ?_
        show own_Ends p e below F (T35.setTop (mkF m 79 #[.val (.int p1), .val (.int p2), .val (.int p3), .val (.int p4), .val (.int p5), .val (.ref a1), .val (.int (1 : Int32)), .val (.int (1 : Int32)), .val (.int (1 : Int32)), .val (.int (0 : Int32)), .unset] [(.ref c2)]))
        refine own_step (fun _ k => XS.astore X35.here hx rfl (hb hby at_79) rfl rfl (l' := #[.val (.int p1), .val (.int p2), .val (.int p3), .val (.int p4), .val (.int p5), .val (.ref a1), .val (.int (1 : Int32)), .val (.int (1 : Int32)), .val (.int (1 : Int32)), .val (.int (0 : Int32)), .val (.ref c2)]) rfl k) ?_
        show own_Ends p e below F (T35.setTop (mkF m 81 #[.val (.int p1), .val (.int p2), .val (.int p3), .val (.int p4), .val (.int p5), .val (.ref a1), .val (.int (1 : Int32)), .val (.int (1 : Int32)), .val (.int (1 : Int32)), .val (.int (0 : Int32)), .val (.ref c2)] []))
        refine own_step (fun _ k => XS.aload X35.here hx rfl (hb hby at_81) rfl rfl k) ?_
        show own_Ends p e below F (T35.setTop (mkF m 83 #[.val (.int p1), .val (.int p2), .val (.int p3), .val (.int p4), .val (.int p5), .val (.ref a1), .val (.int (1 : Int32)), .val (.int (1 : Int32)), .val (.int (1 : Int32)), .val (.int (0 : Int32)), .val (.ref c2)] [(.ref c2)]))
        refine own_step (fun _ k => XS.iloadN X35.here hx rfl (hb hby at_83) rfl k) ?_
        show own_Ends p e below F (T35.setTop (mkF m 84 #[.val (.int p1), .val (.int p2), .val (.int p3), .val (.int p4), .val (.int p5), .val (.ref a1), .val (.int (1 : Int32)), .val (.int (1 : Int32)), .val (.int (1 : Int32)), .val (.int (0 : Int32)), .val (.ref c2)] [(.int p3), (.ref c2)]))
        obtain ⟨cq36, kq36, qa36, qb36, qc36⟩ := isOf hZ eq35 (fq13_2.keep Kq34)
        obtain ⟨_, _, ⟨T36, L36, k36, n36⟩, -, X36, ⟨Lc36, hQ36, l36, y36, z36⟩, st36⟩ := X35.virtualBack hx (y := (⟨"com/example/concept_reasoner/conceptreasoner/completion/IntList", "add", "(I)V"⟩ : MethodName)) (z := (⟨"com/example/concept_reasoner/conceptreasoner/completion/IntList", "add", "(I)V"⟩ : MethodName)) hown (mvT hZ (own_g hw 51 rfl)) (mvT hZ (own_g hw 52 rfl)) (notFace_of_selects (args := #[]) (mvT hZ (own_g hw 54 rfl))) (mvT hZ (own_g hw 54 rfl)) (mvT hZ (own_g hw 53 rfl)) (by decide) (backOf (W := 0) (rm9a l Z a0 hw [] c2 nn p3 kN T34.heap n0 Z34 (fq13_2.keep Kq34) ge_c2 (fq14_2.keep Kq34 (ninS (Ne.symm fq3_2) nin0)) (fq15_2.keep Kq34 (ninS (Ne.symm fq3_2) nin0)) (((VN.ext E1).keep Kq2 (ninS ne_nn_a1 nin0)).keep Kq34 (ninS ne_nn_b2 nin0)) ne_nn_c2) hZ (own_g hw 55 rfl) (own_g hw 8 rfl) (by decide) (by decide)) qa36 qc36 (g := (mkF m 84 #[.val (.int p1), .val (.int p2), .val (.int p3), .val (.int p4), .val (.int p5), .val (.ref a1), .val (.int (1 : Int32)), .val (.int (1 : Int32)), .val (.int (1 : Int32)), .val (.int (0 : Int32)), .val (.ref c2)] [(.int p3), (.ref c2)])) rfl (by rw [hml]; rfl) (Steps.refl _) (argsL := [(.int p3)]) (rest := []) (lenOf pd__28I_29V rfl) rfl (by show 2 * 0 + _ ≤ _; exact Nat.le_of_eq rfl) (hb hby at_84) (fun _ _ => ⟨rfl, eq35, (by decide : 5 + 1 ≤ _), (by decide : 13 + 4 ≤ _)⟩)
        dsimp only [Pt.U, Pt.locs, Pt.cells, Pt.slots] at X36 l36 y36 z36 st36 hQ36
        subst l36 y36 z36
        obtain ⟨c36, kc36, rfl, Nq36, Kq36, fq0_36, fq1_36, fq2_36, fq3_36, fq4_36⟩ := hQ36
        have N36 := Fr.app N35 Nq36
        have Z36 : n0 ≤ T36.heap.size := Nat.le_trans Z34 Kq36.1
        have SZ36 : h0.size ≤ T36.heap.size := Nat.le_trans SZ34 Kq36.1
        have S0_36 := own_Sta_keep S0_34 Kq36 (allS (own_ns_exa (fq13_2.keep Kq34)) all0)
        have ne_nn_c36 : nn ≠ c36 := Nat.ne_of_lt (Nat.lt_of_lt_of_le ((((VN.ext E1).keep Kq2 (ninS ne_nn_a1 nin0)).keep Kq34 (ninS ne_nn_b2 nin0))).lt fq0_36)
        have ne_a1_c36 : a1 ≠ c36 := Nat.ne_of_lt (Nat.lt_of_lt_of_le ((fq7_2.keep Kq34 (ninS ne_a1_b2 nin0))).lt fq0_36)
        have ne_b2_c36 : b2 ≠ c36 := Nat.ne_of_lt (Nat.lt_of_lt_of_le (fq1_34).lt fq0_36)
        have ne_c2_c36 : c2 ≠ c36 := Nat.ne_of_lt (Nat.lt_of_lt_of_le ((fq13_2.keep Kq34)).lt fq0_36)
        have ne_d2_c36 : d2 ≠ c36 := Nat.ne_of_lt (Nat.lt_of_lt_of_le ((fq16_2.keep Kq34)).lt fq0_36)
        have ne_c34_c36 : c34 ≠ c36 := Nat.ne_of_lt (Nat.lt_of_lt_of_le (fq4_34).lt fq0_36)
        have ge_c36 : n0 ≤ c36 := Nat.le_trans Z34 fq0_36
        have sz_c36 : h0.size ≤ c36 := Nat.le_trans SZ34 fq0_36
        refine own_trans st36 ?_
        show own_Ends p e below F (T36.setTop (mkF m 87 #[.val (.int p1), .val (.int p2), .val (.int p3), .val (.int p4), .val (.int p5), .val (.ref a1), .val (.int (1 : Int32)), .val (.int (1 : Int32)), .val (.int (1 : Int32)), .val (.int (0 : Int32)), .val (.ref c2)] []))
        refine own_step (fun _ k => XS.aload X36.here hx rfl (hb hby at_87) rfl rfl k) ?_
        show own_Ends p e below F (T36.setTop (mkF m 89 #[.val (.int p1), .val (.int p2), .val (.int p3), .val (.int p4), .val (.int p5), .val (.ref a1), .val (.int (1 : Int32)), .val (.int (1 : Int32)), .val (.int (1 : Int32)), .val (.int (0 : Int32)), .val (.ref c2)] [(.ref c2)]))
        refine own_step (fun _ k => XS.iloadN X36.here hx rfl (hb hby at_89) rfl k) ?_
        show own_Ends p e below F (T36.setTop (mkF m 90 #[.val (.int p1), .val (.int p2), .val (.int p3), .val (.int p4), .val (.int p5), .val (.ref a1), .val (.int (1 : Int32)), .val (.int (1 : Int32)), .val (.int (1 : Int32)), .val (.int (0 : Int32)), .val (.ref c2)] [(.int p4), (.ref c2)]))
        obtain ⟨cq37, kq37, qa37, qb37, qc37⟩ := isOf hZ rfl fq1_36
        obtain ⟨_, _, ⟨T37, L37, k37, n37⟩, -, X37, ⟨Lc37, hQ37, l37, y37, z37⟩, st37⟩ := X36.virtualBack hx (y := (⟨"com/example/concept_reasoner/conceptreasoner/completion/IntList", "add", "(I)V"⟩ : MethodName)) (z := (⟨"com/example/concept_reasoner/conceptreasoner/completion/IntList", "add", "(I)V"⟩ : MethodName)) hown (mvT hZ (own_g hw 51 rfl)) (mvT hZ (own_g hw 52 rfl)) (notFace_of_selects (args := #[]) (mvT hZ (own_g hw 54 rfl))) (mvT hZ (own_g hw 54 rfl)) (mvT hZ (own_g hw 53 rfl)) (by decide) (backOf (W := 0) (rm9b l Z a0 hw [] c2 c36 p4 (1 : Int32) kc36 [(.int p3), (.int (0 : Int32)), (.int (0 : Int32)), (.int (0 : Int32))] T36.heap n0 Z36 fq1_36 ge_c2 fq2_36 fq3_36 fq4_36 (Ne.symm ne_c2_c36) ge_c36 (by decide) ⟨by decide, by decide⟩ (Nat.le_of_ble_eq_true rfl)) hZ (own_g hw 55 rfl) (own_g hw 8 rfl) (by decide) (by decide)) qa37 qc37 (g := (mkF m 90 #[.val (.int p1), .val (.int p2), .val (.int p3), .val (.int p4), .val (.int p5), .val (.ref a1), .val (.int (1 : Int32)), .val (.int (1 : Int32)), .val (.int (1 : Int32)), .val (.int (0 : Int32)), .val (.ref c2)] [(.int p4), (.ref c2)])) rfl (by rw [hml]; rfl) (Steps.refl _) (argsL := [(.int p4)]) (rest := []) (lenOf pd__28I_29V rfl) rfl (by show 2 * 0 + _ ≤ _; exact Nat.le_of_eq rfl) (hb hby at_90) (fun _ _ => ⟨rfl, rfl, (by decide : 6 + 0 ≤ _), (by decide : 17 + 0 ≤ _)⟩)
        dsimp only [Pt.U, Pt.locs, Pt.cells, Pt.slots] at X37 l37 y37 z37 st37 hQ37
        subst l37 y37 z37
        obtain ⟨rfl, Nq37, Kq37, fq0_37, fq1_37, fq2_37, fq3_37⟩ := hQ37
        have N37 := Fr.app N36 Nq37
        have Z37 : n0 ≤ T37.heap.size := Nat.le_trans Z36 Kq37.1
        have SZ37 : h0.size ≤ T37.heap.size := Nat.le_trans SZ36 Kq37.1
        have S0_37 := own_Sta_keep S0_36 Kq37 (allS (own_ns_exa fq1_36) (allS (own_ns_arv fq4_36) all0))
        have fs37 : Fld Z T37.heap c2 "com/example/concept_reasoner/conceptreasoner/completion/IntList" "size" "I" (.int (2 : Int32)) := fq1_37
        have fv37 : Arv Z T37.heap c36 kc36 .int (4 : Int32) [(.int p3), (.int p4), (.int (0 : Int32)), (.int (0 : Int32))] (.int (0 : Int32)) := fq3_37
        refine own_trans st37 ?_
        show own_Ends p e below F (T37.setTop (mkF m 93 #[.val (.int p1), .val (.int p2), .val (.int p3), .val (.int p4), .val (.int p5), .val (.ref a1), .val (.int (1 : Int32)), .val (.int (1 : Int32)), .val (.int (1 : Int32)), .val (.int (0 : Int32)), .val (.ref c2)] []))
        refine own_step (fun _ k => XS.iload X37.here hx rfl (hb hby at_93) rfl k) ?_
        show own_Ends p e below F (T37.setTop (mkF m 95 #[.val (.int p1), .val (.int p2), .val (.int p3), .val (.int p4), .val (.int p5), .val (.ref a1), .val (.int (1 : Int32)), .val (.int (1 : Int32)), .val (.int (1 : Int32)), .val (.int (0 : Int32)), .val (.ref c2)] [(.int (0 : Int32))]))
        refine own_step (fun _ k => XS.ifYes X37.here hx rfl (pc0 := 95) (pc' := 108) rfl (hb hby at_95) rfl ((if0 _ _).trans (teq (by decide : (0 : Int32) = (0 : Int32))).1) (by decide) (by decide) k) ?_
        show own_Ends p e below F (T37.setTop (mkF m 108 #[.val (.int p1), .val (.int p2), .val (.int p3), .val (.int p4), .val (.int p5), .val (.ref a1), .val (.int (1 : Int32)), .val (.int (1 : Int32)), .val (.int (1 : Int32)), .val (.int (0 : Int32)), .val (.ref c2)] []))
        refine own_step (fun _ k => XS.iload X37.here hx rfl (hb hby at_108) rfl k) ?_
        show own_Ends p e below F (T37.setTop (mkF m 110 #[.val (.int p1), .val (.int p2), .val (.int p3), .val (.int p4), .val (.int p5), .val (.ref a1), .val (.int (1 : Int32)), .val (.int (1 : Int32)), .val (.int (1 : Int32)), .val (.int (0 : Int32)), .val (.ref c2)] [(.int (1 : Int32))]))
        refine own_step (fun _ k => XS.ifYes X37.here hx rfl (pc0 := 110) (pc' := 127) rfl (hb hby at_110) rfl ((if0 _ _).trans (feq (by decide : ¬ ((1 : Int32) = (0 : Int32)))).2) (by decide) (by decide) k) ?_
        show own_Ends p e below F (T37.setTop (mkF m 127 #[.val (.int p1), .val (.int p2), .val (.int p3), .val (.int p4), .val (.int p5), .val (.ref a1), .val (.int (1 : Int32)), .val (.int (1 : Int32)), .val (.int (1 : Int32)), .val (.int (0 : Int32)), .val (.ref c2)] []))
        refine own_step (fun _ k => XS.iconst X37.here hx rfl (hb hby at_127) k) ?_
        show own_Ends p e below F (T37.setTop (mkF m 128 #[.val (.int p1), .val (.int p2), .val (.int p3), .val (.int p4), .val (.int p5), .val (.ref a1), .val (.int (1 : Int32)), .val (.int (1 : Int32)), .val (.int (1 : Int32)), .val (.int (0 : Int32)), .val (.ref c2)] [(.int (0 : Int32))]))
        refine own_step (fun _ k => XS.istore X37.here hx rfl (hb hby at_128) rfl (l' := #[.val (.int p1), .val (.int p2), .val (.int p3), .val (.int p4), .val (.int p5), .val (.ref a1), .val (.int (1 : Int32)), .val (.int (1 : Int32)), .val (.int (1 : Int32)), .val (.int (0 : Int32)), .val (.int (0 : Int32))]) rfl k) ?_
        show own_Ends p e below F (T37.setTop (mkF m 130 #[.val (.int p1), .val (.int p2), .val (.int p3), .val (.int p4), .val (.int p5), .val (.ref a1), .val (.int (1 : Int32)), .val (.int (1 : Int32)), .val (.int (1 : Int32)), .val (.int (0 : Int32)), .val (.int (0 : Int32))] []))
        refine own_step (fun _ k => XS.iload X37.here hx rfl (hb hby at_130) rfl k) ?_
        show own_Ends p e below F (T37.setTop (mkF m 132 #[.val (.int p1), .val (.int p2), .val (.int p3), .val (.int p4), .val (.int p5), .val (.ref a1), .val (.int (1 : Int32)), .val (.int (1 : Int32)), .val (.int (1 : Int32)), .val (.int (0 : Int32)), .val (.int (0 : Int32))] [(.int (1 : Int32))]))
        refine own_step (fun _ k => XS.ifNo X37.here hx rfl (hb hby at_132) rfl ((if0 _ _).trans (feq (by decide : ¬ ((1 : Int32) = (0 : Int32)))).1) k) ?_
        show own_Ends p e below F (T37.setTop (mkF m 135 #[.val (.int p1), .val (.int p2), .val (.int p3), .val (.int p4), .val (.int p5), .val (.ref a1), .val (.int (1 : Int32)), .val (.int (1 : Int32)), .val (.int (1 : Int32)), .val (.int (0 : Int32)), .val (.int (0 : Int32))] []))
        refine own_step (fun _ k => XS.aload X37.here hx rfl (hb hby at_135) rfl rfl k) ?_
        show own_Ends p e below F (T37.setTop (mkF m 137 #[.val (.int p1), .val (.int p2), .val (.int p3), .val (.int p4), .val (.int p5), .val (.ref a1), .val (.int (1 : Int32)), .val (.int (1 : Int32)), .val (.int (1 : Int32)), .val (.int (0 : Int32)), .val (.int (0 : Int32))] [(.ref a1)]))
        obtain ⟨cq38, kq38, qa38, qb38, qc38⟩ := isOf hZ rfl (((fq6_2.keep Kq34).keep Kq36).keep Kq37)
        obtain ⟨_, _, ⟨T38, L38, k38, n38⟩, -, X38, ⟨Lc38, hQ38, l38, y38, z38⟩, st38⟩ := X37.virtualBack hx (y := (⟨"com/example/concept_reasoner/conceptreasoner/completion/Axioms$LeftOf", "isEmpty", "()Z"⟩ : MethodName)) (z := (⟨"com/example/concept_reasoner/conceptreasoner/completion/Axioms$LeftOf", "isEmpty", "()Z"⟩ : MethodName)) hown (mvT hZ (own_g hw 34 rfl)) (mvT hZ (own_g hw 35 rfl)) (notFace_of_selects (args := #[]) (mvT hZ (own_g hw 37 rfl))) (mvT hZ (own_g hw 37 rfl)) (mvT hZ (own_g hw 36 rfl)) (by decide) (backOf (W := 0) (rm6 l Z a0 hw [] a1 b2 c2 d2 (1 : Int32) (2 : Int32) (0 : Int32) T37.heap n0 Z37 (((fq7_2.keep Kq34 (ninS ne_a1_b2 nin0)).keep Kq36 (ninS ne_a1_c2 nin0)).keep Kq37 (ninS ne_a1_c2 (ninS ne_a1_c36 nin0))) ((fq1_34.keep Kq36).keep Kq37) ((fq2_34.keep Kq36 (ninS fq3_2 nin0)).keep Kq37 (ninS fq3_2 (ninS ne_b2_c36 nin0))) (((fq8_2.keep Kq34 (ninS ne_a1_b2 nin0)).keep Kq36 (ninS ne_a1_c2 nin0)).keep Kq37 (ninS ne_a1_c2 (ninS ne_a1_c36 nin0))) fq0_37 fs37 (((fq9_2.keep Kq34 (ninS ne_a1_b2 nin0)).keep Kq36 (ninS ne_a1_c2 nin0)).keep Kq37 (ninS ne_a1_c2 (ninS ne_a1_c36 nin0))) (((fq16_2.keep Kq34).keep Kq36).keep Kq37) (((fq17_2.keep Kq34 (ninS (Ne.symm fq4_2) nin0)).keep Kq36 (ninS (Ne.symm fq5_2) nin0)).keep Kq37 (ninS (Ne.symm fq5_2) (ninS ne_d2_c36 nin0)))) hZ (own_g hw 38 rfl) (own_g hw 2 rfl) (by decide) (by decide)) qa38 qc38 (g := (mkF m 137 #[.val (.int p1), .val (.int p2), .val (.int p3), .val (.int p4), .val (.int p5), .val (.ref a1), .val (.int (1 : Int32)), .val (.int (1 : Int32)), .val (.int (1 : Int32)), .val (.int (0 : Int32)), .val (.int (0 : Int32))] [(.ref a1)])) rfl (by rw [hml]; rfl) (Steps.refl _) (argsL := []) (rest := []) (lenOf pd__28_29Z rfl) rfl (by show 2 * 0 + _ ≤ _; exact Nat.le_of_eq rfl) (hb hby at_137) (fun _ _ => ⟨rfl, rfl, (by decide : 6 + 0 ≤ _), (by decide : 17 + 0 ≤ _)⟩)
        dsimp only [Pt.U, Pt.locs, Pt.cells, Pt.slots] at X38 l38 y38 z38 st38 hQ38
        subst l38 y38 z38
        obtain ⟨rfl, Nq38, eq38⟩ := hQ38
        have N38 := Fr.app N37 Nq38
        refine own_trans st38 ?_
        show own_Ends p e below F (T38.setTop (mkF m 140 #[.val (.int p1), .val (.int p2), .val (.int p3), .val (.int p4), .val (.int p5), .val (.ref a1), .val (.int (1 : Int32)), .val (.int (1 : Int32)), .val (.int (1 : Int32)), .val (.int (0 : Int32)), .val (.int (0 : Int32))] [(.int (own_emp3 (1 : Int32) (2 : Int32) (0 : Int32)))]))
        rw [show (own_emp3 (1 : Int32) (2 : Int32) (0 : Int32)) = (0 : Int32) from (by first | rfl | decide)]
        show own_Ends p e below F (T38.setTop (mkF m 140 #[.val (.int p1), .val (.int p2), .val (.int p3), .val (.int p4), .val (.int p5), .val (.ref a1), .val (.int (1 : Int32)), .val (.int (1 : Int32)), .val (.int (1 : Int32)), .val (.int (0 : Int32)), .val (.int (0 : Int32))] [(.int (0 : Int32))]))
        refine own_step (fun _ k => XS.iload X38.here hx rfl (hb hby at_140) rfl k) ?_
        show own_Ends p e below F (T38.setTop (mkF m 142 #[.val (.int p1), .val (.int p2), .val (.int p3), .val (.int p4), .val (.int p5), .val (.ref a1), .val (.int (1 : Int32)), .val (.int (1 : Int32)), .val (.int (1 : Int32)), .val (.int (0 : Int32)), .val (.int (0 : Int32))] [(.int (0 : Int32)), (.int (0 : Int32))]))
        refine own_step (fun _ k => XS.icmpNo X38.here hx rfl (hb hby at_142) rfl (teq (by decide : (0 : Int32) = (0 : Int32))).2 k) ?_
        show own_Ends p e below F (T38.setTop (mkF m 145 #[.val (.int p1), .val (.int p2), .val (.int p3), .val (.int p4), .val (.int p5), .val (.ref a1), .val (.int (1 : Int32)), .val (.int (1 : Int32)), .val (.int (1 : Int32)), .val (.int (0 : Int32)), .val (.int (0 : Int32))] []))
        refine own_step (fun _ k => XS.iconst X38.here hx rfl (hb hby at_145) k) ?_
        show own_Ends p e below F (T38.setTop (mkF m 146 #[.val (.int p1), .val (.int p2), .val (.int p3), .val (.int p4), .val (.int p5), .val (.ref a1), .val (.int (1 : Int32)), .val (.int (1 : Int32)), .val (.int (1 : Int32)), .val (.int (0 : Int32)), .val (.int (0 : Int32))] [(.int (1 : Int32))]))
        refine own_step (fun _ k => XS.goto X38.here hx rfl (pc0 := 146) (pc' := 150) rfl (hb hby at_146) (by decide) (by decide) k) ?_
        show own_Ends p e below F (T38.setTop (mkF m 150 #[.val (.int p1), .val (.int p2), .val (.int p3), .val (.int p4), .val (.int p5), .val (.ref a1), .val (.int (1 : Int32)), .val (.int (1 : Int32)), .val (.int (1 : Int32)), .val (.int (0 : Int32)), .val (.int (0 : Int32))] [(.int (1 : Int32))]))
        rw [hF]
        exact own_ret X38 (v := (some (.int (nar .boolean (1 : Int32))))) (fun h => by rw [Bd.returns] at h; cases h) Bd.notSynchronized (fun fs hr => retN X38 hx (t := .boolean) Bd.returns (by simp) (hb hby at_150) hr) (by decide) (by decide) (by rw [eq38]; exact ⟨rfl, N38⟩)
      · refine own_step (fun _ k => XS.ifNo X3.here hx rfl (hb hby at_45) rfl ((if0 _ _).trans (feq c45_32).1) k) ?_
        show own_Ends p e below F (T3.setTop (mkF m 48 #[.val (.int p1), .val (.int p2), .val (.int p3), .val (.int p4), .val (.int p5), .val (.ref a1), .val (.int (1 : Int32)), .val (.int (1 : Int32)), .val (.int (1 : Int32)), .unset, .unset] []))
        refine own_step (fun _ k => XS.iconst X3.here hx rfl (hb hby at_48) k) ?_
        show own_Ends p e below F (T3.setTop (mkF m 49 #[.val (.int p1), .val (.int p2), .val (.int p3), .val (.int p4), .val (.int p5), .val (.ref a1), .val (.int (1 : Int32)), .val (.int (1 : Int32)), .val (.int (1 : Int32)), .unset, .unset] [(.int (1 : Int32))]))
        refine own_step (fun _ k => XS.goto X3.here hx rfl (pc0 := 49) (pc' := 53) rfl (hb hby at_49) (by decide) (by decide) k) ?_
        show own_Ends p e below F (T3.setTop (mkF m 53 #[.val (.int p1), .val (.int p2), .val (.int p3), .val (.int p4), .val (.int p5), .val (.ref a1), .val (.int (1 : Int32)), .val (.int (1 : Int32)), .val (.int (1 : Int32)), .unset, .unset] [(.int (1 : Int32))]))
        refine own_step (fun _ k => XS.istore X3.here hx rfl (hb hby at_53) rfl (l' := #[.val (.int p1), .val (.int p2), .val (.int p3), .val (.int p4), .val (.int p5), .val (.ref a1), .val (.int (1 : Int32)), .val (.int (1 : Int32)), .val (.int (1 : Int32)), .val (.int (1 : Int32)), .unset]) rfl k) ?_
        show own_Ends p e below F (T3.setTop (mkF m 55 #[.val (.int p1), .val (.int p2), .val (.int p3), .val (.int p4), .val (.int p5), .val (.ref a1), .val (.int (1 : Int32)), .val (.int (1 : Int32)), .val (.int (1 : Int32)), .val (.int (1 : Int32)), .unset] []))
        refine own_step (fun _ k => XS.iload X3.here hx rfl (hb hby at_55) rfl k) ?_
        show own_Ends p e below F (T3.setTop (mkF m 57 #[.val (.int p1), .val (.int p2), .val (.int p3), .val (.int p4), .val (.int p5), .val (.ref a1), .val (.int (1 : Int32)), .val (.int (1 : Int32)), .val (.int (1 : Int32)), .val (.int (1 : Int32)), .unset] [(.int (1 : Int32))]))
        refine own_step (fun _ k => XS.ifNo X3.here hx rfl (hb hby at_57) rfl ((if0 _ _).trans (feq (by decide : ¬ ((1 : Int32) = (0 : Int32)))).1) k) ?_
        show own_Ends p e below F (T3.setTop (mkF m 60 #[.val (.int p1), .val (.int p2), .val (.int p3), .val (.int p4), .val (.int p5), .val (.ref a1), .val (.int (1 : Int32)), .val (.int (1 : Int32)), .val (.int (1 : Int32)), .val (.int (1 : Int32)), .unset] []))
        refine own_step (fun _ k => XS.aload X3.here hx rfl (hb hby at_60) rfl rfl k) ?_
        show own_Ends p e below F (T3.setTop (mkF m 62 #[.val (.int p1), .val (.int p2), .val (.int p3), .val (.int p4), .val (.int p5), .val (.ref a1), .val (.int (1 : Int32)), .val (.int (1 : Int32)), .val (.int (1 : Int32)), .val (.int (1 : Int32)), .unset] [(.ref a1)]))
        obtain ⟨cq39, kq39, qa39, qb39, qc39⟩ := isOf hZ eq3 fq6_2
        obtain ⟨_, _, ⟨T39, L39, k39, n39⟩, -, X39, ⟨Lc39, hQ39, l39, y39, z39⟩, st39⟩ := X3.virtualBack hx (y := (⟨"com/example/concept_reasoner/conceptreasoner/completion/Axioms$LeftOf", "implied", "()Lcom/example/concept_reasoner/conceptreasoner/completion/IntList;"⟩ : MethodName)) (z := (⟨"com/example/concept_reasoner/conceptreasoner/completion/Axioms$LeftOf", "implied", "()Lcom/example/concept_reasoner/conceptreasoner/completion/IntList;"⟩ : MethodName)) hown (mvT hZ (own_g hw 46 rfl)) (mvT hZ (own_g hw 47 rfl)) (notFace_of_selects (args := #[]) (mvT hZ (own_g hw 49 rfl))) (mvT hZ (own_g hw 49 rfl)) (mvT hZ (own_g hw 48 rfl)) (by decide) (backOf (W := 0) (rm8 l Z a0 hw [] a1 b2 T2.heap n0 Z2 fq7_2) hZ (own_g hw 50 rfl) (own_g hw 2 rfl) (by decide) (by decide)) qa39 qc39 (g := (mkF m 62 #[.val (.int p1), .val (.int p2), .val (.int p3), .val (.int p4), .val (.int p5), .val (.ref a1), .val (.int (1 : Int32)), .val (.int (1 : Int32)), .val (.int (1 : Int32)), .val (.int (1 : Int32)), .unset] [(.ref a1)])) rfl (by rw [hml]; rfl) (Steps.refl _) (argsL := []) (rest := []) (lenOf pd__28_29Lcom_2fexample_2fconcept_reasoner_2fconceptreasoner_2fcompletion_2fIntList_3b rfl) rfl (by show 2 * 0 + _ ≤ _; exact Nat.le_of_eq rfl) (hb hby at_62) (fun _ _ => ⟨rfl, eq3, (by decide : 4 + 0 ≤ _), (by decide : 9 + 0 ≤ _)⟩)
        dsimp only [Pt.U, Pt.locs, Pt.cells, Pt.slots] at X39 l39 y39 z39 st39 hQ39
        subst l39 y39 z39
        obtain ⟨rfl, Nq39, eq39⟩ := hQ39
        have N39 := Fr.app N3 Nq39
        refine own_trans st39 ?_
        show own_Ends p e below F (T39.setTop (mkF m 65 #[.val (.int p1), .val (.int p2), .val (.int p3), .val (.int p4), .val (.int p5), .val (.ref a1), .val (.int (1 : Int32)), .val (.int (1 : Int32)), .val (.int (1 : Int32)), .val (.int (1 : Int32)), .unset] [(.ref b2)]))
        refine own_step (fun _ k => XS.iloadN X39.here hx rfl (hb hby at_65) rfl k) ?_
        show own_Ends p e below F (T39.setTop (mkF m 66 #[.val (.int p1), .val (.int p2), .val (.int p3), .val (.int p4), .val (.int p5), .val (.ref a1), .val (.int (1 : Int32)), .val (.int (1 : Int32)), .val (.int (1 : Int32)), .val (.int (1 : Int32)), .unset] [(.int p2), (.ref b2)]))
        obtain ⟨cq40, kq40, qa40, qb40, qc40⟩ := isOf hZ eq39 fq10_2
        obtain ⟨_, _, ⟨T40, L40, k40, n40⟩, -, X40, ⟨Lc40, hQ40, l40, y40, z40⟩, st40⟩ := X39.virtualBack hx (y := (⟨"com/example/concept_reasoner/conceptreasoner/completion/IntList", "add", "(I)V"⟩ : MethodName)) (z := (⟨"com/example/concept_reasoner/conceptreasoner/completion/IntList", "add", "(I)V"⟩ : MethodName)) hown (mvT hZ (own_g hw 51 rfl)) (mvT hZ (own_g hw 52 rfl)) (notFace_of_selects (args := #[]) (mvT hZ (own_g hw 54 rfl))) (mvT hZ (own_g hw 54 rfl)) (mvT hZ (own_g hw 53 rfl)) (by decide) (backOf (W := 0) (rm9a l Z a0 hw [] b2 nn p2 kN T2.heap n0 Z2 fq10_2 ge_b2 fq11_2 fq12_2 ((VN.ext E1).keep Kq2 (ninS ne_nn_a1 nin0)) ne_nn_b2) hZ (own_g hw 55 rfl) (own_g hw 8 rfl) (by decide) (by decide)) qa40 qc40 (g := (mkF m 66 #[.val (.int p1), .val (.int p2), .val (.int p3), .val (.int p4), .val (.int p5), .val (.ref a1), .val (.int (1 : Int32)), .val (.int (1 : Int32)), .val (.int (1 : Int32)), .val (.int (1 : Int32)), .unset] [(.int p2), (.ref b2)])) rfl (by rw [hml]; rfl) (Steps.refl _) (argsL := [(.int p2)]) (rest := []) (lenOf pd__28I_29V rfl) rfl (by show 2 * 0 + _ ≤ _; exact Nat.le_of_eq rfl) (hb hby at_66) (fun _ _ => ⟨rfl, eq39, (by decide : 4 + 1 ≤ _), (by decide : 9 + 4 ≤ _)⟩)
        dsimp only [Pt.U, Pt.locs, Pt.cells, Pt.slots] at X40 l40 y40 z40 st40 hQ40
        subst l40 y40 z40
        obtain ⟨c40, kc40, rfl, Nq40, Kq40, fq0_40, fq1_40, fq2_40, fq3_40, fq4_40⟩ := hQ40
        have N40 := Fr.app N39 Nq40
        have Z40 : n0 ≤ T40.heap.size := Nat.le_trans Z2 Kq40.1
        have SZ40 : h0.size ≤ T40.heap.size := Nat.le_trans SZ2 Kq40.1
        have S0_40 := own_Sta_keep S0_2 Kq40 (allS (own_ns_exa fq10_2) all0)
        have ne_nn_c40 : nn ≠ c40 := Nat.ne_of_lt (Nat.lt_of_lt_of_le (((VN.ext E1).keep Kq2 (ninS ne_nn_a1 nin0))).lt fq0_40)
        have ne_a1_c40 : a1 ≠ c40 := Nat.ne_of_lt (Nat.lt_of_lt_of_le (fq7_2).lt fq0_40)
        have ne_b2_c40 : b2 ≠ c40 := Nat.ne_of_lt (Nat.lt_of_lt_of_le (fq10_2).lt fq0_40)
        have ne_c2_c40 : c2 ≠ c40 := Nat.ne_of_lt (Nat.lt_of_lt_of_le (fq13_2).lt fq0_40)
        have ne_d2_c40 : d2 ≠ c40 := Nat.ne_of_lt (Nat.lt_of_lt_of_le (fq16_2).lt fq0_40)
        have ge_c40 : n0 ≤ c40 := Nat.le_trans Z2 fq0_40
        have sz_c40 : h0.size ≤ c40 := Nat.le_trans SZ2 fq0_40
        refine own_trans st40 ?_
        show own_Ends p e below F (T40.setTop (mkF m 69 #[.val (.int p1), .val (.int p2), .val (.int p3), .val (.int p4), .val (.int p5), .val (.ref a1), .val (.int (1 : Int32)), .val (.int (1 : Int32)), .val (.int (1 : Int32)), .val (.int (1 : Int32)), .unset] []))
        refine own_step (fun _ k => XS.iload X40.here hx rfl (hb hby at_69) rfl k) ?_
        show own_Ends p e below F (T40.setTop (mkF m 71 #[.val (.int p1), .val (.int p2), .val (.int p3), .val (.int p4), .val (.int p5), .val (.ref a1), .val (.int (1 : Int32)), .val (.int (1 : Int32)), .val (.int (1 : Int32)), .val (.int (1 : Int32)), .unset] [(.int (1 : Int32))]))
        refine own_step (fun _ k => XS.ifNo X40.here hx rfl (hb hby at_71) rfl ((if0 _ _).trans (feq (by decide : ¬ ((1 : Int32) = (0 : Int32)))).1) k) ?_
        show own_Ends p e below F (T40.setTop (mkF m 74 #[.val (.int p1), .val (.int p2), .val (.int p3), .val (.int p4), .val (.int p5), .val (.ref a1), .val (.int (1 : Int32)), .val (.int (1 : Int32)), .val (.int (1 : Int32)), .val (.int (1 : Int32)), .unset] []))
        refine own_step (fun _ k => XS.aload X40.here hx rfl (hb hby at_74) rfl rfl k) ?_
        show own_Ends p e below F (T40.setTop (mkF m 76 #[.val (.int p1), .val (.int p2), .val (.int p3), .val (.int p4), .val (.int p5), .val (.ref a1), .val (.int (1 : Int32)), .val (.int (1 : Int32)), .val (.int (1 : Int32)), .val (.int (1 : Int32)), .unset] [(.ref a1)]))
        obtain ⟨cq41, kq41, qa41, qb41, qc41⟩ := isOf hZ rfl (fq6_2.keep Kq40)
        obtain ⟨_, _, ⟨T41, L41, k41, n41⟩, -, X41, ⟨Lc41, hQ41, l41, y41, z41⟩, st41⟩ := X40.virtualBack hx (y := (⟨"com/example/concept_reasoner/conceptreasoner/completion/Axioms$LeftOf", "existentials", "()Lcom/example/concept_reasoner/conceptreasoner/completion/IntList;"⟩ : MethodName)) (z := (⟨"com/example/concept_reasoner/conceptreasoner/completion/Axioms$LeftOf", "existentials", "()Lcom/example/concept_reasoner/conceptreasoner/completion/IntList;"⟩ : MethodName)) hown (mvT hZ (own_g hw 72 rfl)) (mvT hZ (own_g hw 73 rfl)) (notFace_of_selects (args := #[]) (mvT hZ (own_g hw 75 rfl))) (mvT hZ (own_g hw 75 rfl)) (mvT hZ (own_g hw 74 rfl)) (by decide) (backOf (W := 0) (rm13 l Z a0 hw [] a1 c2 T40.heap n0 Z40 (fq8_2.keep Kq40 (ninS ne_a1_b2 nin0))) hZ (own_g hw 76 rfl) (own_g hw 2 rfl) (by decide) (by decide)) qa41 qc41 (g := (mkF m 76 #[.val (.int p1), .val (.int p2), .val (.int p3), .val (.int p4), .val (.int p5), .val (.ref a1), .val (.int (1 : Int32)), .val (.int (1 : Int32)), .val (.int (1 : Int32)), .val (.int (1 : Int32)), .unset] [(.ref a1)])) rfl (by rw [hml]; rfl) (Steps.refl _) (argsL := []) (rest := []) (lenOf pd__28_29Lcom_2fexample_2fconcept_reasoner_2fconceptreasoner_2fcompletion_2fIntList_3b rfl) rfl (by show 2 * 0 + _ ≤ _; exact Nat.le_of_eq rfl) (hb hby at_76) (fun _ _ => ⟨rfl, rfl, (by decide : 5 + 0 ≤ _), (by decide : 13 + 0 ≤ _)⟩)
        dsimp only [Pt.U, Pt.locs, Pt.cells, Pt.slots] at X41 l41 y41 z41 st41 hQ41
        subst l41 y41 z41
        obtain ⟨rfl, Nq41, eq41⟩ := hQ41
        have N41 := Fr.app N40 Nq41
        refine own_trans st41 ?_
        show own_Ends p e below F (T41.setTop (mkF m 79 #[.val (.int p1), .val (.int p2), .val (.int p3), .val (.int p4), .val (.int p5), .val (.ref a1), .val (.int (1 : Int32)), .val (.int (1 : Int32)), .val (.int (1 : Int32)), .val (.int (1 : Int32)), .unset] [(.ref c2)]))
        refine own_step (fun _ k => XS.astore X41.here hx rfl (hb hby at_79) rfl rfl (l' := #[.val (.int p1), .val (.int p2), .val (.int p3), .val (.int p4), .val (.int p5), .val (.ref a1), .val (.int (1 : Int32)), .val (.int (1 : Int32)), .val (.int (1 : Int32)), .val (.int (1 : Int32)), .val (.ref c2)]) rfl k) ?_
        show own_Ends p e below F (T41.setTop (mkF m 81 #[.val (.int p1), .val (.int p2), .val (.int p3), .val (.int p4), .val (.int p5), .val (.ref a1), .val (.int (1 : Int32)), .val (.int (1 : Int32)), .val (.int (1 : Int32)), .val (.int (1 : Int32)), .val (.ref c2)] []))
        refine own_step (fun _ k => XS.aload X41.here hx rfl (hb hby at_81) rfl rfl k) ?_
        show own_Ends p e below F (T41.setTop (mkF m 83 #[.val (.int p1), .val (.int p2), .val (.int p3), .val (.int p4), .val (.int p5), .val (.ref a1), .val (.int (1 : Int32)), .val (.int (1 : Int32)), .val (.int (1 : Int32)), .val (.int (1 : Int32)), .val (.ref c2)] [(.ref c2)]))
        refine own_step (fun _ k => XS.iloadN X41.here hx rfl (hb hby at_83) rfl k) ?_
        show own_Ends p e below F (T41.setTop (mkF m 84 #[.val (.int p1), .val (.int p2), .val (.int p3), .val (.int p4), .val (.int p5), .val (.ref a1), .val (.int (1 : Int32)), .val (.int (1 : Int32)), .val (.int (1 : Int32)), .val (.int (1 : Int32)), .val (.ref c2)] [(.int p3), (.ref c2)]))
        obtain ⟨cq42, kq42, qa42, qb42, qc42⟩ := isOf hZ eq41 (fq13_2.keep Kq40)
        obtain ⟨_, _, ⟨T42, L42, k42, n42⟩, -, X42, ⟨Lc42, hQ42, l42, y42, z42⟩, st42⟩ := X41.virtualBack hx (y := (⟨"com/example/concept_reasoner/conceptreasoner/completion/IntList", "add", "(I)V"⟩ : MethodName)) (z := (⟨"com/example/concept_reasoner/conceptreasoner/completion/IntList", "add", "(I)V"⟩ : MethodName)) hown (mvT hZ (own_g hw 51 rfl)) (mvT hZ (own_g hw 52 rfl)) (notFace_of_selects (args := #[]) (mvT hZ (own_g hw 54 rfl))) (mvT hZ (own_g hw 54 rfl)) (mvT hZ (own_g hw 53 rfl)) (by decide) (backOf (W := 0) (rm9a l Z a0 hw [] c2 nn p3 kN T40.heap n0 Z40 (fq13_2.keep Kq40) ge_c2 (fq14_2.keep Kq40 (ninS (Ne.symm fq3_2) nin0)) (fq15_2.keep Kq40 (ninS (Ne.symm fq3_2) nin0)) (((VN.ext E1).keep Kq2 (ninS ne_nn_a1 nin0)).keep Kq40 (ninS ne_nn_b2 nin0)) ne_nn_c2) hZ (own_g hw 55 rfl) (own_g hw 8 rfl) (by decide) (by decide)) qa42 qc42 (g := (mkF m 84 #[.val (.int p1), .val (.int p2), .val (.int p3), .val (.int p4), .val (.int p5), .val (.ref a1), .val (.int (1 : Int32)), .val (.int (1 : Int32)), .val (.int (1 : Int32)), .val (.int (1 : Int32)), .val (.ref c2)] [(.int p3), (.ref c2)])) rfl (by rw [hml]; rfl) (Steps.refl _) (argsL := [(.int p3)]) (rest := []) (lenOf pd__28I_29V rfl) rfl (by show 2 * 0 + _ ≤ _; exact Nat.le_of_eq rfl) (hb hby at_84) (fun _ _ => ⟨rfl, eq41, (by decide : 5 + 1 ≤ _), (by decide : 13 + 4 ≤ _)⟩)
        dsimp only [Pt.U, Pt.locs, Pt.cells, Pt.slots] at X42 l42 y42 z42 st42 hQ42
        subst l42 y42 z42
        obtain ⟨c42, kc42, rfl, Nq42, Kq42, fq0_42, fq1_42, fq2_42, fq3_42, fq4_42⟩ := hQ42
        have N42 := Fr.app N41 Nq42
        have Z42 : n0 ≤ T42.heap.size := Nat.le_trans Z40 Kq42.1
        have SZ42 : h0.size ≤ T42.heap.size := Nat.le_trans SZ40 Kq42.1
        have S0_42 := own_Sta_keep S0_40 Kq42 (allS (own_ns_exa (fq13_2.keep Kq40)) all0)
        have ne_nn_c42 : nn ≠ c42 := Nat.ne_of_lt (Nat.lt_of_lt_of_le ((((VN.ext E1).keep Kq2 (ninS ne_nn_a1 nin0)).keep Kq40 (ninS ne_nn_b2 nin0))).lt fq0_42)
        have ne_a1_c42 : a1 ≠ c42 := Nat.ne_of_lt (Nat.lt_of_lt_of_le ((fq7_2.keep Kq40 (ninS ne_a1_b2 nin0))).lt fq0_42)
        have ne_b2_c42 : b2 ≠ c42 := Nat.ne_of_lt (Nat.lt_of_lt_of_le (fq1_40).lt fq0_42)
        have ne_c2_c42 : c2 ≠ c42 := Nat.ne_of_lt (Nat.lt_of_lt_of_le ((fq13_2.keep Kq40)).lt fq0_42)
        have ne_d2_c42 : d2 ≠ c42 := Nat.ne_of_lt (Nat.lt_of_lt_of_le ((fq16_2.keep Kq40)).lt fq0_42)
        have ne_c40_c42 : c40 ≠ c42 := Nat.ne_of_lt (Nat.lt_of_lt_of_le (fq4_40).lt fq0_42)
        have ge_c42 : n0 ≤ c42 := Nat.le_trans Z40 fq0_42
        have sz_c42 : h0.size ≤ c42 := Nat.le_trans SZ40 fq0_42
        refine own_trans st42 ?_
        show own_Ends p e below F (T42.setTop (mkF m 87 #[.val (.int p1), .val (.int p2), .val (.int p3), .val (.int p4), .val (.int p5), .val (.ref a1), .val (.int (1 : Int32)), .val (.int (1 : Int32)), .val (.int (1 : Int32)), .val (.int (1 : Int32)), .val (.ref c2)] []))
        refine own_step (fun _ k => XS.aload X42.here hx rfl (hb hby at_87) rfl rfl k) ?_
        show own_Ends p e below F (T42.setTop (mkF m 89 #[.val (.int p1), .val (.int p2), .val (.int p3), .val (.int p4), .val (.int p5), .val (.ref a1), .val (.int (1 : Int32)), .val (.int (1 : Int32)), .val (.int (1 : Int32)), .val (.int (1 : Int32)), .val (.ref c2)] [(.ref c2)]))
        refine own_step (fun _ k => XS.iloadN X42.here hx rfl (hb hby at_89) rfl k) ?_
        show own_Ends p e below F (T42.setTop (mkF m 90 #[.val (.int p1), .val (.int p2), .val (.int p3), .val (.int p4), .val (.int p5), .val (.ref a1), .val (.int (1 : Int32)), .val (.int (1 : Int32)), .val (.int (1 : Int32)), .val (.int (1 : Int32)), .val (.ref c2)] [(.int p4), (.ref c2)]))
        obtain ⟨cq43, kq43, qa43, qb43, qc43⟩ := isOf hZ rfl fq1_42
        obtain ⟨_, _, ⟨T43, L43, k43, n43⟩, -, X43, ⟨Lc43, hQ43, l43, y43, z43⟩, st43⟩ := X42.virtualBack hx (y := (⟨"com/example/concept_reasoner/conceptreasoner/completion/IntList", "add", "(I)V"⟩ : MethodName)) (z := (⟨"com/example/concept_reasoner/conceptreasoner/completion/IntList", "add", "(I)V"⟩ : MethodName)) hown (mvT hZ (own_g hw 51 rfl)) (mvT hZ (own_g hw 52 rfl)) (notFace_of_selects (args := #[]) (mvT hZ (own_g hw 54 rfl))) (mvT hZ (own_g hw 54 rfl)) (mvT hZ (own_g hw 53 rfl)) (by decide) (backOf (W := 0) (rm9b l Z a0 hw [] c2 c42 p4 (1 : Int32) kc42 [(.int p3), (.int (0 : Int32)), (.int (0 : Int32)), (.int (0 : Int32))] T42.heap n0 Z42 fq1_42 ge_c2 fq2_42 fq3_42 fq4_42 (Ne.symm ne_c2_c42) ge_c42 (by decide) ⟨by decide, by decide⟩ (Nat.le_of_ble_eq_true rfl)) hZ (own_g hw 55 rfl) (own_g hw 8 rfl) (by decide) (by decide)) qa43 qc43 (g := (mkF m 90 #[.val (.int p1), .val (.int p2), .val (.int p3), .val (.int p4), .val (.int p5), .val (.ref a1), .val (.int (1 : Int32)), .val (.int (1 : Int32)), .val (.int (1 : Int32)), .val (.int (1 : Int32)), .val (.ref c2)] [(.int p4), (.ref c2)])) rfl (by rw [hml]; rfl) (Steps.refl _) (argsL := [(.int p4)]) (rest := []) (lenOf pd__28I_29V rfl) rfl (by show 2 * 0 + _ ≤ _; exact Nat.le_of_eq rfl) (hb hby at_90) (fun _ _ => ⟨rfl, rfl, (by decide : 6 + 0 ≤ _), (by decide : 17 + 0 ≤ _)⟩)
        dsimp only [Pt.U, Pt.locs, Pt.cells, Pt.slots] at X43 l43 y43 z43 st43 hQ43
        subst l43 y43 z43
        obtain ⟨rfl, Nq43, Kq43, fq0_43, fq1_43, fq2_43, fq3_43⟩ := hQ43
        have N43 := Fr.app N42 Nq43
        have Z43 : n0 ≤ T43.heap.size := Nat.le_trans Z42 Kq43.1
        have SZ43 : h0.size ≤ T43.heap.size := Nat.le_trans SZ42 Kq43.1
        have S0_43 := own_Sta_keep S0_42 Kq43 (allS (own_ns_exa fq1_42) (allS (own_ns_arv fq4_42) all0))
        have fs43 : Fld Z T43.heap c2 "com/example/concept_reasoner/conceptreasoner/completion/IntList" "size" "I" (.int (2 : Int32)) := fq1_43
        have fv43 : Arv Z T43.heap c42 kc42 .int (4 : Int32) [(.int p3), (.int p4), (.int (0 : Int32)), (.int (0 : Int32))] (.int (0 : Int32)) := fq3_43
        refine own_trans st43 ?_
        show own_Ends p e below F (T43.setTop (mkF m 93 #[.val (.int p1), .val (.int p2), .val (.int p3), .val (.int p4), .val (.int p5), .val (.ref a1), .val (.int (1 : Int32)), .val (.int (1 : Int32)), .val (.int (1 : Int32)), .val (.int (1 : Int32)), .val (.ref c2)] []))
        refine own_step (fun _ k => XS.iload X43.here hx rfl (hb hby at_93) rfl k) ?_
        show own_Ends p e below F (T43.setTop (mkF m 95 #[.val (.int p1), .val (.int p2), .val (.int p3), .val (.int p4), .val (.int p5), .val (.ref a1), .val (.int (1 : Int32)), .val (.int (1 : Int32)), .val (.int (1 : Int32)), .val (.int (1 : Int32)), .val (.ref c2)] [(.int (1 : Int32))]))
        refine own_step (fun _ k => XS.ifNo X43.here hx rfl (hb hby at_95) rfl ((if0 _ _).trans (feq (by decide : ¬ ((1 : Int32) = (0 : Int32)))).1) k) ?_
        show own_Ends p e below F (T43.setTop (mkF m 98 #[.val (.int p1), .val (.int p2), .val (.int p3), .val (.int p4), .val (.int p5), .val (.ref a1), .val (.int (1 : Int32)), .val (.int (1 : Int32)), .val (.int (1 : Int32)), .val (.int (1 : Int32)), .val (.ref c2)] []))
        refine own_step (fun _ k => XS.aload X43.here hx rfl (hb hby at_98) rfl rfl k) ?_
        show own_Ends p e below F (T43.setTop (mkF m 100 #[.val (.int p1), .val (.int p2), .val (.int p3), .val (.int p4), .val (.int p5), .val (.ref a1), .val (.int (1 : Int32)), .val (.int (1 : Int32)), .val (.int (1 : Int32)), .val (.int (1 : Int32)), .val (.ref c2)] [(.ref a1)]))
        obtain ⟨cq44, kq44, qa44, qb44, qc44⟩ := isOf hZ rfl (((fq6_2.keep Kq40).keep Kq42).keep Kq43)
        obtain ⟨_, _, ⟨T44, L44, k44, n44⟩, -, X44, ⟨Lc44, hQ44, l44, y44, z44⟩, st44⟩ := X43.virtualBack hx (y := (⟨"com/example/concept_reasoner/conceptreasoner/completion/Axioms$LeftOf", "disjointnesses", "()Lcom/example/concept_reasoner/conceptreasoner/completion/IntList;"⟩ : MethodName)) (z := (⟨"com/example/concept_reasoner/conceptreasoner/completion/Axioms$LeftOf", "disjointnesses", "()Lcom/example/concept_reasoner/conceptreasoner/completion/IntList;"⟩ : MethodName)) hown (mvT hZ (own_g hw 77 rfl)) (mvT hZ (own_g hw 78 rfl)) (notFace_of_selects (args := #[]) (mvT hZ (own_g hw 80 rfl))) (mvT hZ (own_g hw 80 rfl)) (mvT hZ (own_g hw 79 rfl)) (by decide) (backOf (W := 0) (rm14 l Z a0 hw [] a1 d2 T43.heap n0 Z43 (((fq9_2.keep Kq40 (ninS ne_a1_b2 nin0)).keep Kq42 (ninS ne_a1_c2 nin0)).keep Kq43 (ninS ne_a1_c2 (ninS ne_a1_c42 nin0)))) hZ (own_g hw 81 rfl) (own_g hw 2 rfl) (by decide) (by decide)) qa44 qc44 (g := (mkF m 100 #[.val (.int p1), .val (.int p2), .val (.int p3), .val (.int p4), .val (.int p5), .val (.ref a1), .val (.int (1 : Int32)), .val (.int (1 : Int32)), .val (.int (1 : Int32)), .val (.int (1 : Int32)), .val (.ref c2)] [(.ref a1)])) rfl (by rw [hml]; rfl) (Steps.refl _) (argsL := []) (rest := []) (lenOf pd__28_29Lcom_2fexample_2fconcept_reasoner_2fconceptreasoner_2fcompletion_2fIntList_3b rfl) rfl (by show 2 * 0 + _ ≤ _; exact Nat.le_of_eq rfl) (hb hby at_100) (fun _ _ => ⟨rfl, rfl, (by decide : 6 + 0 ≤ _), (by decide : 17 + 0 ≤ _)⟩)
        dsimp only [Pt.U, Pt.locs, Pt.cells, Pt.slots] at X44 l44 y44 z44 st44 hQ44
        subst l44 y44 z44
        obtain ⟨rfl, Nq44, eq44⟩ := hQ44
        have N44 := Fr.app N43 Nq44
        refine own_trans st44 ?_
        show own_Ends p e below F (T44.setTop (mkF m 103 #[.val (.int p1), .val (.int p2), .val (.int p3), .val (.int p4), .val (.int p5), .val (.ref a1), .val (.int (1 : Int32)), .val (.int (1 : Int32)), .val (.int (1 : Int32)), .val (.int (1 : Int32)), .val (.ref c2)] [(.ref d2)]))
        refine own_step (fun _ k => XS.iload X44.here hx rfl (hb hby at_103) rfl k) ?_
        show own_Ends p e below F (T44.setTop (mkF m 105 #[.val (.int p1), .val (.int p2), .val (.int p3), .val (.int p4), .val (.int p5), .val (.ref a1), .val (.int (1 : Int32)), .val (.int (1 : Int32)), .val (.int (1 : Int32)), .val (.int (1 : Int32)), .val (.ref c2)] [(.int p5), (.ref d2)]))
        obtain ⟨cq45, kq45, qa45, qb45, qc45⟩ := isOf hZ eq44 (((fq16_2.keep Kq40).keep Kq42).keep Kq43)
        obtain ⟨_, _, ⟨T45, L45, k45, n45⟩, -, X45, ⟨Lc45, hQ45, l45, y45, z45⟩, st45⟩ := X44.virtualBack hx (y := (⟨"com/example/concept_reasoner/conceptreasoner/completion/IntList", "add", "(I)V"⟩ : MethodName)) (z := (⟨"com/example/concept_reasoner/conceptreasoner/completion/IntList", "add", "(I)V"⟩ : MethodName)) hown (mvT hZ (own_g hw 51 rfl)) (mvT hZ (own_g hw 52 rfl)) (notFace_of_selects (args := #[]) (mvT hZ (own_g hw 54 rfl))) (mvT hZ (own_g hw 54 rfl)) (mvT hZ (own_g hw 53 rfl)) (by decide) (backOf (W := 0) (rm9a l Z a0 hw [] d2 nn p5 kN T43.heap n0 Z43 (((fq16_2.keep Kq40).keep Kq42).keep Kq43) ge_d2 (((fq17_2.keep Kq40 (ninS (Ne.symm fq4_2) nin0)).keep Kq42 (ninS (Ne.symm fq5_2) nin0)).keep Kq43 (ninS (Ne.symm fq5_2) (ninS ne_d2_c42 nin0))) (((fq18_2.keep Kq40 (ninS (Ne.symm fq4_2) nin0)).keep Kq42 (ninS (Ne.symm fq5_2) nin0)).keep Kq43 (ninS (Ne.symm fq5_2) (ninS ne_d2_c42 nin0))) (((((VN.ext E1).keep Kq2 (ninS ne_nn_a1 nin0)).keep Kq40 (ninS ne_nn_b2 nin0)).keep Kq42 (ninS ne_nn_c2 nin0)).keep Kq43 (ninS ne_nn_c2 (ninS ne_nn_c42 nin0))) ne_nn_d2) hZ (own_g hw 55 rfl) (own_g hw 8 rfl) (by decide) (by decide)) qa45 qc45 (g := (mkF m 105 #[.val (.int p1), .val (.int p2), .val (.int p3), .val (.int p4), .val (.int p5), .val (.ref a1), .val (.int (1 : Int32)), .val (.int (1 : Int32)), .val (.int (1 : Int32)), .val (.int (1 : Int32)), .val (.ref c2)] [(.int p5), (.ref d2)])) rfl (by rw [hml]; rfl) (Steps.refl _) (argsL := [(.int p5)]) (rest := []) (lenOf pd__28I_29V rfl) rfl (by show 2 * 0 + _ ≤ _; exact Nat.le_of_eq rfl) (hb hby at_105) (fun _ _ => ⟨rfl, eq44, (by decide : 6 + 1 ≤ _), (by decide : 17 + 4 ≤ _)⟩)
        dsimp only [Pt.U, Pt.locs, Pt.cells, Pt.slots] at X45 l45 y45 z45 st45 hQ45
        subst l45 y45 z45
        obtain ⟨c45, kc45, rfl, Nq45, Kq45, fq0_45, fq1_45, fq2_45, fq3_45, fq4_45⟩ := hQ45
        have N45 := Fr.app N44 Nq45
        have Z45 : n0 ≤ T45.heap.size := Nat.le_trans Z43 Kq45.1
        have SZ45 : h0.size ≤ T45.heap.size := Nat.le_trans SZ43 Kq45.1
        have S0_45 := own_Sta_keep S0_43 Kq45 (allS (own_ns_exa (((fq16_2.keep Kq40).keep Kq42).keep Kq43)) all0)
        have ne_nn_c45 : nn ≠ c45 := Nat.ne_of_lt (Nat.lt_of_lt_of_le ((((((VN.ext E1).keep Kq2 (ninS ne_nn_a1 nin0)).keep Kq40 (ninS ne_nn_b2 nin0)).keep Kq42 (ninS ne_nn_c2 nin0)).keep Kq43 (ninS ne_nn_c2 (ninS ne_nn_c42 nin0)))).lt fq0_45)
        have ne_a1_c45 : a1 ≠ c45 := Nat.ne_of_lt (Nat.lt_of_lt_of_le ((((fq7_2.keep Kq40 (ninS ne_a1_b2 nin0)).keep Kq42 (ninS ne_a1_c2 nin0)).keep Kq43 (ninS ne_a1_c2 (ninS ne_a1_c42 nin0)))).lt fq0_45)
        have ne_b2_c45 : b2 ≠ c45 := Nat.ne_of_lt (Nat.lt_of_lt_of_le (((fq1_40.keep Kq42).keep Kq43)).lt fq0_45)
        have ne_c2_c45 : c2 ≠ c45 := Nat.ne_of_lt (Nat.lt_of_lt_of_le (fq0_43).lt fq0_45)
        have ne_d2_c45 : d2 ≠ c45 := Nat.ne_of_lt (Nat.lt_of_lt_of_le ((((fq16_2.keep Kq40).keep Kq42).keep Kq43)).lt fq0_45)
        have ne_c40_c45 : c40 ≠ c45 := Nat.ne_of_lt (Nat.lt_of_lt_of_le (((fq4_40.keep Kq42 (ninS (Ne.symm ne_c2_c40) nin0)).keep Kq43 (ninS (Ne.symm ne_c2_c40) (ninS ne_c40_c42 nin0)))).lt fq0_45)
        have ne_c42_c45 : c42 ≠ c45 := Nat.ne_of_lt (Nat.lt_of_lt_of_le (fv43).lt fq0_45)
        have ge_c45 : n0 ≤ c45 := Nat.le_trans Z43 fq0_45
        have sz_c45 : h0.size ≤ c45 := Nat.le_trans SZ43 fq0_45
        refine own_trans st45 ?_
        show own_Ends p e below F (T45.setTop (mkF m 108 #[.val (.int p1), .val (.int p2), .val (.int p3), .val (.int p4), .val (.int p5), .val (.ref a1), .val (.int (1 : Int32)), .val (.int (1 : Int32)), .val (.int (1 : Int32)), .val (.int (1 : Int32)), .val (.ref c2)] []))
        refine own_step (fun _ k => XS.iload X45.here hx rfl (hb hby at_108) rfl k) ?_
        show own_Ends p e below F (T45.setTop (mkF m 110 #[.val (.int p1), .val (.int p2), .val (.int p3), .val (.int p4), .val (.int p5), .val (.ref a1), .val (.int (1 : Int32)), .val (.int (1 : Int32)), .val (.int (1 : Int32)), .val (.int (1 : Int32)), .val (.ref c2)] [(.int (1 : Int32))]))
        refine own_step (fun _ k => XS.ifYes X45.here hx rfl (pc0 := 110) (pc' := 127) rfl (hb hby at_110) rfl ((if0 _ _).trans (feq (by decide : ¬ ((1 : Int32) = (0 : Int32)))).2) (by decide) (by decide) k) ?_
        show own_Ends p e below F (T45.setTop (mkF m 127 #[.val (.int p1), .val (.int p2), .val (.int p3), .val (.int p4), .val (.int p5), .val (.ref a1), .val (.int (1 : Int32)), .val (.int (1 : Int32)), .val (.int (1 : Int32)), .val (.int (1 : Int32)), .val (.ref c2)] []))
        refine own_step (fun _ k => XS.iconst X45.here hx rfl (hb hby at_127) k) ?_
        show own_Ends p e below F (T45.setTop (mkF m 128 #[.val (.int p1), .val (.int p2), .val (.int p3), .val (.int p4), .val (.int p5), .val (.ref a1), .val (.int (1 : Int32)), .val (.int (1 : Int32)), .val (.int (1 : Int32)), .val (.int (1 : Int32)), .val (.ref c2)] [(.int (0 : Int32))]))
        refine own_step (fun _ k => XS.istore X45.here hx rfl (hb hby at_128) rfl (l' := #[.val (.int p1), .val (.int p2), .val (.int p3), .val (.int p4), .val (.int p5), .val (.ref a1), .val (.int (1 : Int32)), .val (.int (1 : Int32)), .val (.int (1 : Int32)), .val (.int (1 : Int32)), .val (.int (0 : Int32))]) rfl k) ?_
        show own_Ends p e below F (T45.setTop (mkF m 130 #[.val (.int p1), .val (.int p2), .val (.int p3), .val (.int p4), .val (.int p5), .val (.ref a1), .val (.int (1 : Int32)), .val (.int (1 : Int32)), .val (.int (1 : Int32)), .val (.int (1 : Int32)), .val (.int (0 : Int32))] []))
        refine own_step (fun _ k => XS.iload X45.here hx rfl (hb hby at_130) rfl k) ?_
        show own_Ends p e below F (T45.setTop (mkF m 132 #[.val (.int p1), .val (.int p2), .val (.int p3), .val (.int p4), .val (.int p5), .val (.ref a1), .val (.int (1 : Int32)), .val (.int (1 : Int32)), .val (.int (1 : Int32)), .val (.int (1 : Int32)), .val (.int (0 : Int32))] [(.int (1 : Int32))]))
        refine own_step (fun _ k => XS.ifNo X45.here hx rfl (hb hby at_132) rfl ((if0 _ _).trans (feq (by decide : ¬ ((1 : Int32) = (0 : Int32)))).1) k) ?_
        show own_Ends p e below F (T45.setTop (mkF m 135 #[.val (.int p1), .val (.int p2), .val (.int p3), .val (.int p4), .val (.int p5), .val (.ref a1), .val (.int (1 : Int32)), .val (.int (1 : Int32)), .val (.int (1 : Int32)), .val (.int (1 : Int32)), .val (.int (0 : Int32))] []))
        refine own_step (fun _ k => XS.aload X45.here hx rfl (hb hby at_135) rfl rfl k) ?_
        show own_Ends p e below F (T45.setTop (mkF m 137 #[.val (.int p1), .val (.int p2), .val (.int p3), .val (.int p4), .val (.int p5), .val (.ref a1), .val (.int (1 : Int32)), .val (.int (1 : Int32)), .val (.int (1 : Int32)), .val (.int (1 : Int32)), .val (.int (0 : Int32))] [(.ref a1)]))
        obtain ⟨cq46, kq46, qa46, qb46, qc46⟩ := isOf hZ rfl ((((fq6_2.keep Kq40).keep Kq42).keep Kq43).keep Kq45)
        obtain ⟨_, _, ⟨T46, L46, k46, n46⟩, -, X46, ⟨Lc46, hQ46, l46, y46, z46⟩, st46⟩ := X45.virtualBack hx (y := (⟨"com/example/concept_reasoner/conceptreasoner/completion/Axioms$LeftOf", "isEmpty", "()Z"⟩ : MethodName)) (z := (⟨"com/example/concept_reasoner/conceptreasoner/completion/Axioms$LeftOf", "isEmpty", "()Z"⟩ : MethodName)) hown (mvT hZ (own_g hw 34 rfl)) (mvT hZ (own_g hw 35 rfl)) (notFace_of_selects (args := #[]) (mvT hZ (own_g hw 37 rfl))) (mvT hZ (own_g hw 37 rfl)) (mvT hZ (own_g hw 36 rfl)) (by decide) (backOf (W := 0) (rm6 l Z a0 hw [] a1 b2 c2 d2 (1 : Int32) (2 : Int32) (1 : Int32) T45.heap n0 Z45 ((((fq7_2.keep Kq40 (ninS ne_a1_b2 nin0)).keep Kq42 (ninS ne_a1_c2 nin0)).keep Kq43 (ninS ne_a1_c2 (ninS ne_a1_c42 nin0))).keep Kq45 (ninS ne_a1_d2 nin0)) (((fq1_40.keep Kq42).keep Kq43).keep Kq45) (((fq2_40.keep Kq42 (ninS fq3_2 nin0)).keep Kq43 (ninS fq3_2 (ninS ne_b2_c42 nin0))).keep Kq45 (ninS fq4_2 nin0)) ((((fq8_2.keep Kq40 (ninS ne_a1_b2 nin0)).keep Kq42 (ninS ne_a1_c2 nin0)).keep Kq43 (ninS ne_a1_c2 (ninS ne_a1_c42 nin0))).keep Kq45 (ninS ne_a1_d2 nin0)) (fq0_43.keep Kq45) (fs43.keep Kq45 (ninS fq5_2 nin0)) ((((fq9_2.keep Kq40 (ninS ne_a1_b2 nin0)).keep Kq42 (ninS ne_a1_c2 nin0)).keep Kq43 (ninS ne_a1_c2 (ninS ne_a1_c42 nin0))).keep Kq45 (ninS ne_a1_d2 nin0)) fq1_45 fq2_45) hZ (own_g hw 38 rfl) (own_g hw 2 rfl) (by decide) (by decide)) qa46 qc46 (g := (mkF m 137 #[.val (.int p1), .val (.int p2), .val (.int p3), .val (.int p4), .val (.int p5), .val (.ref a1), .val (.int (1 : Int32)), .val (.int (1 : Int32)), .val (.int (1 : Int32)), .val (.int (1 : Int32)), .val (.int (0 : Int32))] [(.ref a1)])) rfl (by rw [hml]; rfl) (Steps.refl _) (argsL := []) (rest := []) (lenOf pd__28_29Z rfl) rfl (by show 2 * 0 + _ ≤ _; exact Nat.le_of_eq rfl) (hb hby at_137) (fun _ _ => ⟨rfl, rfl, (by decide : 7 + 0 ≤ _), (by decide : 21 + 0 ≤ _)⟩)
        dsimp only [Pt.U, Pt.locs, Pt.cells, Pt.slots] at X46 l46 y46 z46 st46 hQ46
        subst l46 y46 z46
        obtain ⟨rfl, Nq46, eq46⟩ := hQ46
        have N46 := Fr.app N45 Nq46
        refine own_trans st46 ?_
        show own_Ends p e below F (T46.setTop (mkF m 140 #[.val (.int p1), .val (.int p2), .val (.int p3), .val (.int p4), .val (.int p5), .val (.ref a1), .val (.int (1 : Int32)), .val (.int (1 : Int32)), .val (.int (1 : Int32)), .val (.int (1 : Int32)), .val (.int (0 : Int32))] [(.int (own_emp3 (1 : Int32) (2 : Int32) (1 : Int32)))]))
        rw [show (own_emp3 (1 : Int32) (2 : Int32) (1 : Int32)) = (0 : Int32) from (by first | rfl | decide)]
        show own_Ends p e below F (T46.setTop (mkF m 140 #[.val (.int p1), .val (.int p2), .val (.int p3), .val (.int p4), .val (.int p5), .val (.ref a1), .val (.int (1 : Int32)), .val (.int (1 : Int32)), .val (.int (1 : Int32)), .val (.int (1 : Int32)), .val (.int (0 : Int32))] [(.int (0 : Int32))]))
        refine own_step (fun _ k => XS.iload X46.here hx rfl (hb hby at_140) rfl k) ?_
        show own_Ends p e below F (T46.setTop (mkF m 142 #[.val (.int p1), .val (.int p2), .val (.int p3), .val (.int p4), .val (.int p5), .val (.ref a1), .val (.int (1 : Int32)), .val (.int (1 : Int32)), .val (.int (1 : Int32)), .val (.int (1 : Int32)), .val (.int (0 : Int32))] [(.int (0 : Int32)), (.int (0 : Int32))]))
        refine own_step (fun _ k => XS.icmpNo X46.here hx rfl (hb hby at_142) rfl (teq (by decide : (0 : Int32) = (0 : Int32))).2 k) ?_
        show own_Ends p e below F (T46.setTop (mkF m 145 #[.val (.int p1), .val (.int p2), .val (.int p3), .val (.int p4), .val (.int p5), .val (.ref a1), .val (.int (1 : Int32)), .val (.int (1 : Int32)), .val (.int (1 : Int32)), .val (.int (1 : Int32)), .val (.int (0 : Int32))] []))
        refine own_step (fun _ k => XS.iconst X46.here hx rfl (hb hby at_145) k) ?_
        show own_Ends p e below F (T46.setTop (mkF m 146 #[.val (.int p1), .val (.int p2), .val (.int p3), .val (.int p4), .val (.int p5), .val (.ref a1), .val (.int (1 : Int32)), .val (.int (1 : Int32)), .val (.int (1 : Int32)), .val (.int (1 : Int32)), .val (.int (0 : Int32))] [(.int (1 : Int32))]))
        refine own_step (fun _ k => XS.goto X46.here hx rfl (pc0 := 146) (pc' := 150) rfl (hb hby at_146) (by decide) (by decide) k) ?_
        show own_Ends p e below F (T46.setTop (mkF m 150 #[.val (.int p1), .val (.int p2), .val (.int p3), .val (.int p4), .val (.int p5), .val (.ref a1), .val (.int (1 : Int32)), .val (.int (1 : Int32)), .val (.int (1 : Int32)), .val (.int (1 : Int32)), .val (.int (0 : Int32))] [(.int (1 : Int32))]))
        rw [hF]
        exact own_ret X46 (v := (some (.int (nar .boolean (1 : Int32))))) (fun h => by rw [Bd.returns] at h; cases h) Bd.notSynchronized (fun fs hr => retN X46 hx (t := .boolean) Bd.returns (by simp) (hb hby at_150) hr) (by decide) (by decide) (by rw [eq46]; exact ⟨rfl, N46⟩)

set_option maxRecDepth 65536 in
set_option maxHeartbeats 40000000 in
theorem comes_1 {Post : Tables → Env → Array Value → State → Outcome → State → Prop} (hpost : ∀ tb e args s v u, (limb_1_1.after args s (.returned v) u = true ∧ limb_1_2.after args s (.returned v) u = true ∧ True) → FrameEnd s (.returned v) u (Jvm.fieldLocs frame_1_writes args s ++ Jvm.arrayLocs frame_1_arrays args s ++ Jvm.staticLocs frame_1_statics s) 24 128 → Post tb e args s (.returned v) u) :
    ArmFor flags0 classFile x code maxLocals ret World_1 tables_1 room_1 Calls_1 rest_1 Pre_1 Post := by
  intro l hfl _ _ p e ha hc hk s m args below hf hA hF happ hP
  obtain ⟨hcalls, hrest, hpre⟩ := hP
  obtain ⟨-, -, -, hnamed, -, -, -, hat⟩ := (Spec.applies_iff hf).mp happ
  obtain ⟨hg, hn⟩ := and_e (Cond.before_iff.mp (show (Jvm.Cond.and given_1 narrow_1).before args s = true from hpre))
  obtain ⟨g0, r0⟩ := and_e hg
  obtain ⟨g1, r1⟩ := and_e r0
  obtain ⟨g2, r2⟩ := and_e r1
  obtain ⟨g3, r3⟩ := and_e r2
  obtain ⟨g4, r4⟩ := and_e r3
  have g5 := r4
  obtain ⟨w0, w1, w2, w3, w4, rfl⟩ : ∃ w0 w1 w2 w3 w4 : Value, args = #[w0, w1, w2, w3, w4] := by
    have hs : args.size = 5 := by simpa [Cond.value, given_1] using g0
    obtain ⟨L⟩ := args
    match L, hs with
    | [w0, w1, w2, w3, w4], _ => exact ⟨w0, w1, w2, w3, w4, rfl⟩
  have hw := fun d (hd : d ∈ tables_1) => atoms_spec (ws := Jvm.Cond.code x code maxLocals ret :: tables_1) hat d (List.mem_cons_of_mem _ hd)
  have hfit : Fit s := fun {y c} hc i hi => by
    obtain ⟨ha, rfl⟩ := Array.getElem?_eq_some_iff.mp hc
    have q := List.all_eq_true.mp ((Array.all_eq_true_iff_forall_mem.mp hF) _ (Array.getElem_mem ha)) i (List.mem_range.mpr hi)
    simpa [Array.getElem?_eq_getElem hi] using q
  obtain ⟨i0, ei0⟩ := is_v g1
  obtain rfl : w0 = (.int i0) := Option.some.inj ei0
  obtain ⟨i1, ei1⟩ := is_v g2
  obtain rfl : w1 = (.int i1) := Option.some.inj ei1
  obtain ⟨i2, ei2⟩ := is_v g3
  obtain rfl : w2 = (.int i2) := Option.some.inj ei2
  obtain ⟨i3, ei3⟩ := is_v g4
  obtain rfl : w3 = (.int i3) := Option.some.inj ei3
  obtain ⟨i4, ei4⟩ := is_v g5
  obtain rfl : w4 = (.int i4) := Option.some.inj ei4
  obtain ⟨hn1, hn2⟩ := and_e hn
  obtain ⟨-, hn3⟩ := and_e hn2
  obtain ⟨nn, enn⟩ := arr_v hn1
  have SN : Sta s s.heap "com/example/concept_reasoner/conceptreasoner/completion/IntList" "NONE" "[I" (.ref nn) := Sta.start enn (Or.inr ⟨hw _ (List.mem_of_getElem? (i := 8) rfl), hw _ (List.mem_of_getElem? (i := 16) rfl)⟩)
  obtain ⟨cN, AN⟩ := Arr.start enn hn1
  obtain ⟨q31, z31⟩ := own_len enn AN hn3
  have VN : Arv s s.heap nn cN.cls .int (0 : Int32) [] (.int (0 : Int32)) := Arv.start hfit AN q31 z31 (by decide) rfl trivial
  obtain ⟨n, o, h1, h2, h3, _, L, rfl, ⟨rfl, N⟩, hq⟩ := rm0 l s _ hw tables_1 i0 i1 i2 i3 i4 nn cN.cls s.heap s.heap.size (Nat.le_refl _) SN VN p e ha hc hk s m _ below hf ((Spec.applies_iff_loose hf).mp happ).1 ⟨rfl, State.Warmed39.refl s, rfl⟩ trivial
  refine ⟨n, _, h1, h2, h3, hpost _ _ _ _ _ _ ⟨Cond.after_iff.mpr rfl, Cond.after_iff.mpr (eq_i res_at (Term.int_eval (1)) rfl), trivial⟩ ⟨hq.1, hq.2.1, (hq.2.2.sift fun y hy => Or.inr (N y hy)).mono (by decide) (by decide)⟩⟩
theorem main_1_1 : Claimed_1_1 := comes_1 fun _ _ _ _ _ _ h hF => ⟨h.1, hF⟩
theorem main_1_2 : Claimed_1_2 := comes_1 fun _ _ _ _ _ _ h hF => ⟨h.2.1, hF⟩

end Jvm.Pilot.@@N@@
namespace Jvm.Pilot.@@N@@
open Jvm Jvm.ClassFile Sem Op Lib Jvm.Free Jvm.Stand Jvm.Pilot.@@N@@.Jvm.D
/-! MADE BY PROGRAM (witnessworld.py) out of the Statement's table words and the real class files: 14 classes; the members and pool entries that the words name. The judged class is class 1, her method 1. -/
namespace start1
open Jvm.ClassFile
def u (s : String) : CpInfo := .utf8 (stringToUtf16 s)
/-- a pool by its gaps: so many unusable entries, then the entry; so many at the end -/
def gap : Nat → List CpInfo → List CpInfo
  | 0, r => r
  | n + 1, r => .unusable :: gap n r
def poolList (es : List (Nat × CpInfo)) (last : Nat) : List CpInfo := es.foldr (fun e r => gap e.1 (e.2 :: r)) (gap last [])
def pool (es : List (Nat × CpInfo)) (last : Nat) : Array CpInfo := ⟨poolList es last⟩
def fileOf (pool : Array CpInfo) (this : Nat) (attrs : Array Attribute := #[]) (ms : Array MethodInfo := #[]) (fl : Nat := 33) (sup : Nat := 0) (ifs : Array Nat := #[]) (fds : Array FieldInfo := #[]) : ClassFile where
  minorVersion := 0
  majorVersion := 65
  constantPool := pool
  accessFlags := fl
  thisClass := this
  superClass := sup
  interfaces := ifs
  fields := fds
  methods := ms
  attributes := attrs
def plain (name : String) (sup : Option ClassId) : Class where
  name := name
  kind := .ordinary
  loader := none
  accessFlags := 33
  super := sup
  interfaces := #[]
  cf := none
  fields := #[]
  methods := #[]
  instanceTypes := #[]
  staticTypes := #[]
  resolved := #[]
  callSites := []
  init := .initialized
  statics := none
  mirror := none

def pool0 : Array CpInfo := pool [(5, u "<init>"), (0, u "()V"), (1, .class_ 10), (1, u "java/lang/Object")] 113

def k0c0 : Code := { maxStack := 0, maxLocals := 1, code := object_method_1_code, exceptionTable := #[], attributes := #[] }
def k0m0 : Method := { name := "<init>", desc := "()V", sig := { parameters := [], returnType := none }, accessFlags := 1, code := some k0c0 }
/-- java/lang/Object -/
def k0 : Class := { plain "java/lang/Object" none with
  accessFlags := 33
  interfaces := #[]
  cf := some (fileOf pool0 8 #[] #[{ accessFlags := 1, nameIndex := 5, descriptorIndex := 6, attributes := #[] }] 33 0 #[] #[])
  fields := #[]
  methods := #[k0m0]
  instanceTypes := #[]
  staticTypes := #[]
  resolved := Array.replicate 124 none
  statics := none }

def pool1 : Array CpInfo := pool [(2, .class_ 4), (0, .nameAndType 5 6), (0, u "java/lang/Object"), (0, u "<init>"), (0, u "()V"), (0, .class_ 8), (0, u "com/example/concept_reasoner/conceptreasoner/completion/Axioms$LeftOf"), (0, .methodref 7 3), (0, .methodref 7 11), (0, .nameAndType 12 13), (0, u "isEmpty"), (0, u "()Z"), (0, .methodref 7 15), (0, .nameAndType 16 17), (0, u "implied"), (0, u "()Lcom/example/concept_reasoner/conceptreasoner/completion/IntList;"), (0, .methodref 19 20), (0, .class_ 21), (0, .nameAndType 22 23), (0, u "com/example/concept_reasoner/conceptreasoner/completion/IntList"), (0, u "add"), (0, u "(I)V"), (0, .methodref 7 25), (0, .nameAndType 26 17), (0, u "existentials"), (0, .methodref 7 28), (0, .nameAndType 29 17), (0, u "disjointnesses"), (0, .class_ 31), (0, u "com/example/concept_reasoner/conceptreasoner/completion/LeftOfIsEmptyPinLaw"), (2, u "law"), (0, u "(IIIII)Z")] 7

def k1m0 : Method := { name := "<init>", desc := "()V", sig := { parameters := [], returnType := none }, accessFlags := 1, code := none }
def k1c1 : Code := { maxStack := 2, maxLocals := 11, code := code, exceptionTable := #[], attributes := #[] }
def k1m1 : Method := { name := "law", desc := "(IIIII)Z", sig := { parameters := [.int, .int, .int, .int, .int], returnType := some .boolean }, accessFlags := 9, code := some k1c1 }
/-- com/example/concept_reasoner/conceptreasoner/completion/LeftOfIsEmptyPinLaw -/
def k1 : Class := { plain "com/example/concept_reasoner/conceptreasoner/completion/LeftOfIsEmptyPinLaw" (some 0) with
  accessFlags := 49
  interfaces := #[]
  cf := some (fileOf pool1 30 #[] #[{ accessFlags := 1, nameIndex := 5, descriptorIndex := 6, attributes := #[] }, { accessFlags := 9, nameIndex := 34, descriptorIndex := 35, attributes := #[] }] 49 2 #[] #[])
  fields := #[]
  methods := #[k1m0, k1m1]
  instanceTypes := #[]
  staticTypes := #[]
  resolved := Array.replicate 43 none
  statics := none }

def pool2 : Array CpInfo := pool [(1, .methodref 2 3), (0, .class_ 4), (0, .nameAndType 5 6), (0, u "java/lang/Object"), (0, u "<init>"), (0, u "()V"), (0, .class_ 8), (0, u "java/lang/Record")] 13

def k2c0 : Code := { maxStack := 1, maxLocals := 1, code := jdk_30_method_1_code, exceptionTable := #[], attributes := #[] }
def k2m0 : Method := { name := "<init>", desc := "()V", sig := { parameters := [], returnType := none }, accessFlags := 4, code := some k2c0 }
/-- java/lang/Record -/
def k2 : Class := { plain "java/lang/Record" (some 0) with
  accessFlags := 1057
  interfaces := #[]
  cf := some (fileOf pool2 7 #[] #[{ accessFlags := 4, nameIndex := 5, descriptorIndex := 6, attributes := #[] }] 1057 2 #[] #[])
  fields := #[]
  methods := #[k2m0]
  instanceTypes := #[]
  staticTypes := #[]
  resolved := Array.replicate 22 none
  statics := none }

def pool3 : Array CpInfo := pool [(1, .methodref 2 3), (0, .class_ 4), (0, .nameAndType 5 6), (0, u "java/lang/Record"), (0, u "<init>"), (0, u "()V"), (0, .fieldref 8 9), (0, .class_ 10), (0, .nameAndType 11 12), (0, u "com/example/concept_reasoner/conceptreasoner/completion/Axioms$LeftOf"), (0, u "implied"), (0, u "Lcom/example/concept_reasoner/conceptreasoner/completion/IntList;"), (0, .fieldref 8 14), (0, .nameAndType 15 12), (0, u "existentials"), (0, .fieldref 8 17), (0, .nameAndType 18 12), (0, u "disjointnesses"), (0, .class_ 20), (0, u "com/example/concept_reasoner/conceptreasoner/completion/IntList"), (0, .methodref 19 3), (0, .methodref 8 23), (0, .nameAndType 5 24), (0, u "(Lcom/example/concept_reasoner/conceptreasoner/completion/IntList;Lcom/example/concept_reasoner/conceptreasoner/completion/IntList;Lcom/example/concept_reasoner/conceptreasoner/completion/IntList;)V"), (0, .methodref 19 26), (0, .nameAndType 27 28), (0, u "isEmpty"), (0, u "()Z"), (19, u "()Lcom/example/concept_reasoner/conceptreasoner/completion/IntList;"), (3, .class_ 53), (0, u "com/example/concept_reasoner/conceptreasoner/completion/Axioms")] 21

def k3c0 : Code := { maxStack := 5, maxLocals := 1, code := prog_14_method_1_code, exceptionTable := #[], attributes := #[] }
def k3m0 : Method := { name := "<init>", desc := "()V", sig := { parameters := [], returnType := none }, accessFlags := 0, code := some k3c0 }
def k3c1 : Code := { maxStack := 2, maxLocals := 4, code := prog_14_method_2_code, exceptionTable := #[], attributes := #[] }
def k3m1 : Method := { name := "<init>", desc := "(Lcom/example/concept_reasoner/conceptreasoner/completion/IntList;Lcom/example/concept_reasoner/conceptreasoner/completion/IntList;Lcom/example/concept_reasoner/conceptreasoner/completion/IntList;)V", sig := { parameters := [(.object "com/example/concept_reasoner/conceptreasoner/completion/IntList"), (.object "com/example/concept_reasoner/conceptreasoner/completion/IntList"), (.object "com/example/concept_reasoner/conceptreasoner/completion/IntList")], returnType := none }, accessFlags := 0, code := some k3c1 }
def k3c2 : Code := { maxStack := 1, maxLocals := 1, code := prog_14_method_3_code, exceptionTable := #[], attributes := #[] }
def k3m2 : Method := { name := "isEmpty", desc := "()Z", sig := { parameters := [], returnType := some .boolean }, accessFlags := 0, code := some k3c2 }
def k3c3 : Code := { maxStack := 1, maxLocals := 1, code := prog_14_method_7_code, exceptionTable := #[], attributes := #[] }
def k3m3 : Method := { name := "implied", desc := "()Lcom/example/concept_reasoner/conceptreasoner/completion/IntList;", sig := { parameters := [], returnType := some (.object "com/example/concept_reasoner/conceptreasoner/completion/IntList") }, accessFlags := 1, code := some k3c3 }
def k3c4 : Code := { maxStack := 1, maxLocals := 1, code := prog_14_method_8_code, exceptionTable := #[], attributes := #[] }
def k3m4 : Method := { name := "existentials", desc := "()Lcom/example/concept_reasoner/conceptreasoner/completion/IntList;", sig := { parameters := [], returnType := some (.object "com/example/concept_reasoner/conceptreasoner/completion/IntList") }, accessFlags := 1, code := some k3c4 }
def k3c5 : Code := { maxStack := 1, maxLocals := 1, code := prog_14_method_9_code, exceptionTable := #[], attributes := #[] }
def k3m5 : Method := { name := "disjointnesses", desc := "()Lcom/example/concept_reasoner/conceptreasoner/completion/IntList;", sig := { parameters := [], returnType := some (.object "com/example/concept_reasoner/conceptreasoner/completion/IntList") }, accessFlags := 1, code := some k3c5 }
/-- com/example/concept_reasoner/conceptreasoner/completion/Axioms$LeftOf -/
def k3 : Class := { plain "com/example/concept_reasoner/conceptreasoner/completion/Axioms$LeftOf" (some 2) with
  accessFlags := 48
  interfaces := #[]
  cf := some (fileOf pool3 8 #[.nestHost 52] #[{ accessFlags := 0, nameIndex := 5, descriptorIndex := 6, attributes := #[] }, { accessFlags := 0, nameIndex := 5, descriptorIndex := 24, attributes := #[] }, { accessFlags := 0, nameIndex := 27, descriptorIndex := 28, attributes := #[] }, { accessFlags := 1, nameIndex := 11, descriptorIndex := 48, attributes := #[] }, { accessFlags := 1, nameIndex := 15, descriptorIndex := 48, attributes := #[] }, { accessFlags := 1, nameIndex := 18, descriptorIndex := 48, attributes := #[] }] 48 2 #[] #[{ accessFlags := 18, nameIndex := 11, descriptorIndex := 12, attributes := #[] }, { accessFlags := 18, nameIndex := 15, descriptorIndex := 12, attributes := #[] }, { accessFlags := 18, nameIndex := 18, descriptorIndex := 12, attributes := #[] }])
  fields := #[{ name := "implied", type := (.object "com/example/concept_reasoner/conceptreasoner/completion/IntList"), accessFlags := 18, slot := 0, constantValue := 0 }, { name := "existentials", type := (.object "com/example/concept_reasoner/conceptreasoner/completion/IntList"), accessFlags := 18, slot := 1, constantValue := 0 }, { name := "disjointnesses", type := (.object "com/example/concept_reasoner/conceptreasoner/completion/IntList"), accessFlags := 18, slot := 2, constantValue := 0 }]
  methods := #[k3m0, k3m1, k3m2, k3m3, k3m4, k3m5]
  instanceTypes := #[(.object "com/example/concept_reasoner/conceptreasoner/completion/IntList"), (.object "com/example/concept_reasoner/conceptreasoner/completion/IntList"), (.object "com/example/concept_reasoner/conceptreasoner/completion/IntList")]
  staticTypes := #[]
  resolved := Array.replicate 75 none
  statics := none }

def pool4 : Array CpInfo := pool [(1, .methodref 2 3), (0, .class_ 4), (0, .nameAndType 5 6), (0, u "java/lang/Object"), (0, u "<init>"), (0, u "()V"), (0, .fieldref 8 9), (0, .class_ 10), (0, .nameAndType 11 12), (0, u "com/example/concept_reasoner/conceptreasoner/completion/IntList"), (0, u "NONE"), (0, u "[I"), (0, .fieldref 8 14), (0, .nameAndType 15 12), (0, u "values"), (0, .fieldref 8 17), (0, .nameAndType 18 19), (0, u "size"), (0, u "I"), (0, .methodref 21 22), (0, .class_ 23), (0, .nameAndType 24 25), (0, u "java/lang/Math"), (0, u "max"), (0, u "(II)I"), (0, .methodref 27 28), (0, .class_ 29), (0, .nameAndType 30 31), (0, u "java/util/Arrays"), (0, u "copyOf"), (0, u "([II)[I"), (16, u "add"), (0, u "(I)V"), (6, u "isEmpty"), (0, u "()Z")] 19

def k4c0 : Code := { maxStack := 2, maxLocals := 1, code := prog_20_method_1_code, exceptionTable := #[], attributes := #[] }
def k4m0 : Method := { name := "<init>", desc := "()V", sig := { parameters := [], returnType := none }, accessFlags := 0, code := some k4c0 }
def k4c1 : Code := { maxStack := 5, maxLocals := 2, code := prog_20_method_2_code, exceptionTable := #[], attributes := #[] }
def k4m1 : Method := { name := "add", desc := "(I)V", sig := { parameters := [.int], returnType := none }, accessFlags := 0, code := some k4c1 }
def k4c2 : Code := { maxStack := 1, maxLocals := 1, code := prog_20_method_6_code, exceptionTable := #[], attributes := #[] }
def k4m2 : Method := { name := "isEmpty", desc := "()Z", sig := { parameters := [], returnType := some .boolean }, accessFlags := 0, code := some k4c2 }
/-- com/example/concept_reasoner/conceptreasoner/completion/IntList -/
def k4 : Class := { plain "com/example/concept_reasoner/conceptreasoner/completion/IntList" (some 0) with
  accessFlags := 32
  interfaces := #[]
  cf := some (fileOf pool4 8 #[] #[{ accessFlags := 0, nameIndex := 5, descriptorIndex := 6, attributes := #[] }, { accessFlags := 0, nameIndex := 48, descriptorIndex := 49, attributes := #[] }, { accessFlags := 0, nameIndex := 56, descriptorIndex := 57, attributes := #[] }] 32 2 #[] #[{ accessFlags := 26, nameIndex := 11, descriptorIndex := 12, attributes := #[] }, { accessFlags := 2, nameIndex := 15, descriptorIndex := 12, attributes := #[] }, { accessFlags := 2, nameIndex := 18, descriptorIndex := 19, attributes := #[] }])
  fields := #[{ name := "NONE", type := (.array .int), accessFlags := 26, slot := 0, constantValue := 0 }, { name := "values", type := (.array .int), accessFlags := 2, slot := 0, constantValue := 0 }, { name := "size", type := .int, accessFlags := 2, slot := 1, constantValue := 0 }]
  methods := #[k4m0, k4m1, k4m2]
  instanceTypes := #[(.array .int), .int]
  staticTypes := #[(.array .int)]
  resolved := Array.replicate 77 none
  statics := some 0 }

def pool5 : Array CpInfo := pool [(1, .class_ 2), (0, u "java/lang/Math"), (1, .class_ 6), (1, u "java/lang/Object"), (0, u "<init>"), (0, u "()V"), (89, .class_ 100), (1, u "java/lang/Math$RandomNumberGeneratorHolder"), (71, u "negativeZeroFloatBits"), (0, u "J"), (2, u "negativeZeroDoubleBits"), (21, u "max"), (2, u "min"), (43, u "$assertionsDisabled"), (0, u "Z"), (88, u "(II)I"), (2, u "twoToTheDoubleScaleDown"), (0, u "D"), (4, u "twoToTheDoubleScaleUp"), (9, u "E"), (3, u "PI"), (2, u "TAU"), (2, u "DEGREES_TO_RADIANS"), (0, u "RADIANS_TO_DEGREES")] 94

def k5m0 : Method := { name := "<init>", desc := "()V", sig := { parameters := [], returnType := none }, accessFlags := 2, code := none }
def k5c1 : Code := { maxStack := 2, maxLocals := 2, code := jdk_29_method_65_code, exceptionTable := #[], attributes := #[] }
def k5m1 : Method := { name := "max", desc := "(II)I", sig := { parameters := [.int, .int], returnType := some .int }, accessFlags := 9, code := some k5c1 }
def k5c2 : Code := { maxStack := 2, maxLocals := 2, code := jdk_29_method_69_code, exceptionTable := #[], attributes := #[] }
def k5m2 : Method := { name := "min", desc := "(II)I", sig := { parameters := [.int, .int], returnType := some .int }, accessFlags := 9, code := some k5c2 }
/-- java/lang/Math -/
def k5 : Class := { plain "java/lang/Math" (some 0) with
  accessFlags := 49
  interfaces := #[]
  cf := some (fileOf pool5 1 #[.nestMembers #[98]] #[{ accessFlags := 2, nameIndex := 7, descriptorIndex := 8, attributes := #[] }, { accessFlags := 9, nameIndex := 198, descriptorIndex := 335, attributes := #[] }, { accessFlags := 9, nameIndex := 201, descriptorIndex := 335, attributes := #[] }] 49 4 #[] #[{ accessFlags := 25, nameIndex := 354, descriptorIndex := 339, attributes := #[] }, { accessFlags := 25, nameIndex := 358, descriptorIndex := 339, attributes := #[] }, { accessFlags := 25, nameIndex := 361, descriptorIndex := 339, attributes := #[] }, { accessFlags := 26, nameIndex := 364, descriptorIndex := 339, attributes := #[] }, { accessFlags := 26, nameIndex := 365, descriptorIndex := 339, attributes := #[] }, { accessFlags := 26, nameIndex := 172, descriptorIndex := 173, attributes := #[] }, { accessFlags := 26, nameIndex := 176, descriptorIndex := 173, attributes := #[] }, { accessFlags := 8, nameIndex := 344, descriptorIndex := 339, attributes := #[] }, { accessFlags := 8, nameIndex := 338, descriptorIndex := 339, attributes := #[] }, { accessFlags := 4120, nameIndex := 245, descriptorIndex := 246, attributes := #[] }])
  fields := #[{ name := "E", type := .double, accessFlags := 25, slot := 0, constantValue := 0 }, { name := "PI", type := .double, accessFlags := 25, slot := 1, constantValue := 0 }, { name := "TAU", type := .double, accessFlags := 25, slot := 2, constantValue := 0 }, { name := "DEGREES_TO_RADIANS", type := .double, accessFlags := 26, slot := 3, constantValue := 0 }, { name := "RADIANS_TO_DEGREES", type := .double, accessFlags := 26, slot := 4, constantValue := 0 }, { name := "negativeZeroFloatBits", type := .long, accessFlags := 26, slot := 5, constantValue := 0 }, { name := "negativeZeroDoubleBits", type := .long, accessFlags := 26, slot := 6, constantValue := 0 }, { name := "twoToTheDoubleScaleUp", type := .double, accessFlags := 8, slot := 7, constantValue := 0 }, { name := "twoToTheDoubleScaleDown", type := .double, accessFlags := 8, slot := 8, constantValue := 0 }, { name := "$assertionsDisabled", type := .boolean, accessFlags := 4120, slot := 9, constantValue := 0 }]
  methods := #[k5m0, k5m1, k5m2]
  instanceTypes := #[]
  staticTypes := #[.double, .double, .double, .double, .double, .long, .long, .double, .double, .boolean]
  resolved := Array.replicate 460 none
  statics := none }

def pool6 : Array CpInfo := pool [(2, .class_ 4), (1, u "java/lang/Object"), (0, u "<init>"), (0, u "()V"), (7, .class_ 16), (1, u "java/util/Arrays"), (57, .class_ 76), (1, u "java/util/Arrays$NaturalOrder"), (36, .class_ 115), (1, u "java/util/Arrays$LegacyMergeSort"), (1, u "Z"), (32, .methodref 151 152), (0, .class_ 153), (0, .nameAndType 154 155), (0, u "java/lang/System"), (0, u "arraycopy"), (0, u "(Ljava/lang/Object;ILjava/lang/Object;II)V"), (146, u "copyOf"), (1, .methodref 305 306), (0, .class_ 307), (0, .nameAndType 308 309), (0, u "java/lang/Math"), (0, u "min"), (0, u "(II)I"), (65, .class_ 376), (0, u "java/util/Arrays$ArrayList"), (68, u "$assertionsDisabled"), (269, u "MIN_ARRAY_SORT_GRAN"), (0, u "I"), (2, u "INSERTIONSORT_THRESHOLD"), (151, u "([II)[I"), (103, .class_ 976), (0, u "java/util/Arrays$ArrayItr")] 52

def k6m0 : Method := { name := "<init>", desc := "()V", sig := { parameters := [], returnType := none }, accessFlags := 2, code := none }
def k6c1 : Code := { maxStack := 6, maxLocals := 3, code := jdk_65_method_123_code, exceptionTable := #[], attributes := #[] }
def k6m1 : Method := { name := "copyOf", desc := "([II)[I", sig := { parameters := [(.array .int), .int], returnType := some (.array .int) }, accessFlags := 9, code := some k6c1 }
/-- java/util/Arrays -/
def k6 : Class := { plain "java/util/Arrays" (some 0) with
  accessFlags := 49
  interfaces := #[]
  cf := some (fileOf pool6 14 #[.nestMembers #[975, 375, 113, 74]] #[{ accessFlags := 2, nameIndex := 5, descriptorIndex := 6, attributes := #[] }, { accessFlags := 9, nameIndex := 302, descriptorIndex := 871, attributes := #[] }] 49 2 #[] #[{ accessFlags := 26, nameIndex := 715, descriptorIndex := 716, attributes := #[] }, { accessFlags := 26, nameIndex := 719, descriptorIndex := 716, attributes := #[] }, { accessFlags := 4120, nameIndex := 445, descriptorIndex := 117, attributes := #[] }])
  fields := #[{ name := "MIN_ARRAY_SORT_GRAN", type := .int, accessFlags := 26, slot := 0, constantValue := 0 }, { name := "INSERTIONSORT_THRESHOLD", type := .int, accessFlags := 26, slot := 1, constantValue := 0 }, { name := "$assertionsDisabled", type := .boolean, accessFlags := 4120, slot := 2, constantValue := 0 }]
  methods := #[k6m0, k6m1]
  instanceTypes := #[]
  staticTypes := #[.int, .int, .boolean]
  resolved := Array.replicate 1029 none
  statics := none }

def pool7 : Array CpInfo := pool [(2, .class_ 4), (1, u "java/lang/Object"), (0, u "<init>"), (0, u "()V"), (1, .class_ 10), (1, u "java/lang/System"), (0, u "allowSecurityManager"), (0, u "I"), (16, u "cons"), (0, u "Ljava/io/Console;"), (77, .class_ 110), (1, u "java/lang/System$CallersHolder"), (43, u "initialErrStream"), (0, u "Ljava/io/PrintStream;"), (19, u "security"), (0, u "Ljava/lang/SecurityManager;"), (31, .class_ 209), (0, u "java/lang/System$1"), (7, u "props"), (0, u "Ljava/util/Properties;"), (2, u "lineSeparator"), (0, u "Ljava/lang/String;"), (96, .class_ 321), (1, u "java/lang/System$LoggerFinder"), (5, .class_ 328), (0, u "java/lang/System$Logger"), (67, u "err"), (2, u "out"), (91, u "notSupportedJnuEncoding"), (15, u "in"), (17, u "initialIn"), (0, u "Ljava/io/InputStream;"), (35, u "bootLayer"), (0, u "Ljava/lang/ModuleLayer;"), (99, .class_ 664), (0, u "java/lang/System$2"), (9, u "NEVER"), (2, u "MAYBE"), (49, u "arraycopy"), (0, u "(Ljava/lang/Object;ILjava/lang/Object;II)V"), (72, .class_ 802), (0, u "java/lang/System$Logger$Level")] 31

def k7m0 : Method := { name := "<init>", desc := "()V", sig := { parameters := [], returnType := none }, accessFlags := 2, code := none }
def k7m1 : Method := { name := "arraycopy", desc := "(Ljava/lang/Object;ILjava/lang/Object;II)V", sig := { parameters := [(.object "java/lang/Object"), .int, (.object "java/lang/Object"), .int, .int], returnType := none }, accessFlags := 265, code := none }
/-- java/lang/System -/
def k7 : Class := { plain "java/lang/System" (some 0) with
  accessFlags := 49
  interfaces := #[]
  cf := some (fileOf pool7 8 #[.nestMembers #[319, 327, 801, 108, 663, 208]] #[{ accessFlags := 2, nameIndex := 5, descriptorIndex := 6, attributes := #[] }, { accessFlags := 265, nameIndex := 727, descriptorIndex := 728, attributes := #[] }] 49 2 #[] #[{ accessFlags := 25, nameIndex := 507, descriptorIndex := 526, attributes := #[] }, { accessFlags := 25, nameIndex := 399, descriptorIndex := 155, attributes := #[] }, { accessFlags := 25, nameIndex := 396, descriptorIndex := 155, attributes := #[] }, { accessFlags := 10, nameIndex := 525, descriptorIndex := 526, attributes := #[] }, { accessFlags := 26, nameIndex := 674, descriptorIndex := 12, attributes := #[] }, { accessFlags := 26, nameIndex := 677, descriptorIndex := 12, attributes := #[] }, { accessFlags := 10, nameIndex := 11, descriptorIndex := 12, attributes := #[] }, { accessFlags := 74, nameIndex := 175, descriptorIndex := 176, attributes := #[] }, { accessFlags := 10, nameIndex := 491, descriptorIndex := 222, attributes := #[] }, { accessFlags := 74, nameIndex := 29, descriptorIndex := 30, attributes := #[] }, { accessFlags := 74, nameIndex := 154, descriptorIndex := 155, attributes := #[] }, { accessFlags := 10, nameIndex := 217, descriptorIndex := 218, attributes := #[] }, { accessFlags := 10, nameIndex := 221, descriptorIndex := 222, attributes := #[] }, { accessFlags := 8, nameIndex := 562, descriptorIndex := 563, attributes := #[] }])
  fields := #[{ name := "in", type := (.object "java/io/InputStream"), accessFlags := 25, slot := 0, constantValue := 0 }, { name := "out", type := (.object "java/io/PrintStream"), accessFlags := 25, slot := 1, constantValue := 0 }, { name := "err", type := (.object "java/io/PrintStream"), accessFlags := 25, slot := 2, constantValue := 0 }, { name := "initialIn", type := (.object "java/io/InputStream"), accessFlags := 10, slot := 3, constantValue := 0 }, { name := "NEVER", type := .int, accessFlags := 26, slot := 4, constantValue := 0 }, { name := "MAYBE", type := .int, accessFlags := 26, slot := 5, constantValue := 0 }, { name := "allowSecurityManager", type := .int, accessFlags := 10, slot := 6, constantValue := 0 }, { name := "security", type := (.object "java/lang/SecurityManager"), accessFlags := 74, slot := 7, constantValue := 0 }, { name := "notSupportedJnuEncoding", type := (.object "java/lang/String"), accessFlags := 10, slot := 8, constantValue := 0 }, { name := "cons", type := (.object "java/io/Console"), accessFlags := 74, slot := 9, constantValue := 0 }, { name := "initialErrStream", type := (.object "java/io/PrintStream"), accessFlags := 74, slot := 10, constantValue := 0 }, { name := "props", type := (.object "java/util/Properties"), accessFlags := 10, slot := 11, constantValue := 0 }, { name := "lineSeparator", type := (.object "java/lang/String"), accessFlags := 10, slot := 12, constantValue := 0 }, { name := "bootLayer", type := (.object "java/lang/ModuleLayer"), accessFlags := 8, slot := 13, constantValue := 0 }]
  methods := #[k7m0, k7m1]
  instanceTypes := #[]
  staticTypes := #[(.object "java/io/InputStream"), (.object "java/io/PrintStream"), (.object "java/io/PrintStream"), (.object "java/io/InputStream"), .int, .int, .int, (.object "java/lang/SecurityManager"), (.object "java/lang/String"), (.object "java/io/Console"), (.object "java/io/PrintStream"), (.object "java/util/Properties"), (.object "java/lang/String"), (.object "java/lang/ModuleLayer")]
  resolved := Array.replicate 834 none
  statics := none }

def pool8 : Array CpInfo := pool [(1, u "java/lang/Cloneable"), (0, .class_ 1), (0, u "java/lang/Object"), (0, .class_ 3)] 3

/-- java/lang/Cloneable -/
def k8 : Class := { plain "java/lang/Cloneable" (some 0) with
  accessFlags := 1537
  interfaces := #[]
  cf := some (fileOf pool8 2 #[] #[] 1537 4 #[] #[])
  fields := #[]
  methods := #[]
  instanceTypes := #[]
  staticTypes := #[]
  resolved := Array.replicate 8 none
  statics := none }

def pool9 : Array CpInfo := pool [(1, u "java/io/Serializable"), (0, .class_ 1), (0, u "java/lang/Object"), (0, .class_ 3)] 3

/-- java/io/Serializable -/
def k9 : Class := { plain "java/io/Serializable" (some 0) with
  accessFlags := 1537
  interfaces := #[]
  cf := some (fileOf pool9 2 #[] #[] 1537 4 #[] #[])
  fields := #[]
  methods := #[]
  instanceTypes := #[]
  staticTypes := #[]
  resolved := Array.replicate 8 none
  statics := none }

/-- the primitive byte -/
def k10 : Class := { plain "byte" none with kind := .primitive 'B', accessFlags := 0x411 }
/-- [B -/
def k11 : Class := { plain "[B" (some 0) with kind := .array 10 .byte, interfaces := #[8, 9], accessFlags := 1041 }

/-- the primitive int -/
def k12 : Class := { plain "int" none with kind := .primitive 'I', accessFlags := 0x411 }
/-- [I -/
def k13 : Class := { plain "[I" (some 0) with kind := .array 12 .int, interfaces := #[8, 9], accessFlags := 1041 }

def heap : Heap := #[{ cls := 4, slots := #[.ref 1], vm := .statics 4 },
  { cls := 13, slots := #[], vm := .none }]
def classes : Array Class := #[k0, k1, k2, k3, k4, k5, k6, k7, k8, k9, k10, k11, k12, k13]
def interned : List (Array UInt16 × Addr) := []
def slotsUsed : Nat := 1
def theMethod : MethodId := ⟨1, 1⟩
def args0 : Array Value := #[.int 5, .int 6, .int 7, .int 8, .int 9]
def aboutOver (below : List Frame) : State where
  vm := { classes := classes, interned := interned.toArray }
  heap := heap
  slotsUsed := slotsUsed
  threads := #[{ frames := .invoking theMethod args0 :: below }]
def below0 : List Frame := [.native { method := ⟨0, 0⟩, args := #[] }]
def about1 : State := aboutOver below0
def p0 : Program := .bare "" "" ""
def e0 : Env := launch0.env 0 0 0
theorem w_frames : about1.frames = Frame.invoking theMethod args0 :: below0 := rfl
set_option maxRecDepth 65536 in
theorem w_args : argsFit about1.vm theMethod args0 = true := by decide +kernel
set_option maxRecDepth 65536 in
theorem w_heap : heapFits about1 = true := by decide +kernel
set_option maxRecDepth 65536 in
theorem w_runnable : about1.curStatus? = some .runnable := by decide +kernel
set_option maxRecDepth 65536 in
theorem w_alone : about1.alone = true := by decide +kernel
set_option maxRecDepth 65536 in
theorem w_named : about1.methodNamed? x = some theMethod := by decide +kernel
set_option maxRecDepth 65536 in
theorem w_hears : about1.hears theMethod below0 = true := by decide +kernel
set_option maxRecDepth 65536 in
theorem w_ripe : about1.ripe theMethod args0 below0 = true := by decide +kernel
theorem w_running : about1.status = .running := rfl
set_option maxRecDepth 65536 in
theorem w_room : about1.hasRoom e0.platform room_1 = true :=
  launch0.hasRoom_least _ room_1 (by decide +kernel) (by decide +kernel) (by decide +kernel) (by decide +kernel) (by decide +kernel) (by decide +kernel)
theorem allAtoms_all (ts : List Jvm.Cond) (a : Array Jvm.Value) (st : Jvm.State) : (allAtoms ts).before a st = ts.all (fun c => c.before a st) := by
  induction ts with
  | nil => rfl
  | cons c t ih =>
    show (Jvm.Cond.and c (allAtoms t)).before a st = _
    rw [Jvm.Cond.before_and, ih, List.all_cons]
def words1 : List Jvm.Cond := Jvm.Cond.code x code maxLocals ret :: tables_1
/-- a 'code' word, met by the world's own term for the bytes: nothing is compared byte by byte -/
theorem code_word {y : MethodName} {bytes : ByteArray} {mx : Nat} {rt : Option FieldType} {a : Array Value} {s : State} {m : MethodId} {meth : Method} {c : Code} (h1 : s.methodNamed? y = some m) (h2 : s.vm.method? m = some meth) (h3 : meth.code = some c) (h4 : c.code = bytes)
    (h5 : (c.maxLocals == mx && c.exceptionTable.isEmpty && decide (c.maxStack ≤ mostOperands) && decide (meth.sig.returnType = rt) && !meth.locks && decide (parseMethodDescriptor y.desc = some meth.sig)) = true) : (Jvm.Cond.code y bytes mx rt).before a s = true := by
  simp only [Bool.and_eq_true, beq_iff_eq, Bool.not_eq_true', decide_eq_true_eq] at h5
  obtain ⟨⟨⟨⟨⟨g1, g2⟩, g3⟩, g4⟩, g5⟩, g6⟩ := h5
  simp [Cond.before, Cond.holds, Cond.value, h1, h2, h3, h4, g1, g2, g3, g4, g5, g6]
def isCode : Jvm.Cond → Bool
  | .code _ _ _ _ => true
  | _ => false
theorem all_split {L : List Jvm.Cond} {P : Jvm.Cond → Bool} (h1 : L.all (fun c => isCode c || P c) = true) (h2 : ∀ c ∈ L.filter isCode, P c = true) : L.all P = true := by
  refine List.all_eq_true.mpr fun c hc => ?_
  have h := List.all_eq_true.mp h1 c hc
  rcases Bool.eq_false_or_eq_true (isCode c) with hi | hi
  · exact h2 c (List.mem_filter.mpr ⟨hc, hi⟩)
  · simpa [hi] using h
set_option maxRecDepth 65536 in
theorem w_c0 : (Jvm.Cond.code x code maxLocals ret).before args0 about1 = true := code_word (m := ⟨1, 1⟩) (meth := k1m1) (c := k1c1) (by decide +kernel) rfl rfl rfl (by decide +kernel)
set_option maxRecDepth 65536 in
theorem w_c1 : (Jvm.Cond.code ({ cls := "com/example/concept_reasoner/conceptreasoner/completion/Axioms$LeftOf", name := "<init>", desc := "()V" } : Jvm.MethodName) prog_14_method_1_code (1 : Nat) (Option.none : Option Jvm.ClassFile.FieldType)).before args0 about1 = true := code_word (m := ⟨3, 0⟩) (meth := k3m0) (c := k3c0) (by decide +kernel) rfl rfl rfl (by decide +kernel)
set_option maxRecDepth 65536 in
theorem w_c2 : (Jvm.Cond.code ({ cls := "com/example/concept_reasoner/conceptreasoner/completion/IntList", name := "<init>", desc := "()V" } : Jvm.MethodName) prog_20_method_1_code (1 : Nat) (Option.none : Option Jvm.ClassFile.FieldType)).before args0 about1 = true := code_word (m := ⟨4, 0⟩) (meth := k4m0) (c := k4c0) (by decide +kernel) rfl rfl rfl (by decide +kernel)
set_option maxRecDepth 65536 in
theorem w_c3 : (Jvm.Cond.code ({ cls := "java/lang/Object", name := "<init>", desc := "()V" } : Jvm.MethodName) object_method_1_code (1 : Nat) (Option.none : Option Jvm.ClassFile.FieldType)).before args0 about1 = true := code_word (m := ⟨0, 0⟩) (meth := k0m0) (c := k0c0) (by decide +kernel) rfl rfl rfl (by decide +kernel)
set_option maxRecDepth 65536 in
theorem w_c4 : (Jvm.Cond.code ({ cls := "com/example/concept_reasoner/conceptreasoner/completion/Axioms$LeftOf", name := "<init>", desc := "(Lcom/example/concept_reasoner/conceptreasoner/completion/IntList;Lcom/example/concept_reasoner/conceptreasoner/completion/IntList;Lcom/example/concept_reasoner/conceptreasoner/completion/IntList;)V" } : Jvm.MethodName) prog_14_method_2_code (4 : Nat) (Option.none : Option Jvm.ClassFile.FieldType)).before args0 about1 = true := code_word (m := ⟨3, 1⟩) (meth := k3m1) (c := k3c1) (by decide +kernel) rfl rfl rfl (by decide +kernel)
set_option maxRecDepth 65536 in
theorem w_c5 : (Jvm.Cond.code ({ cls := "java/lang/Record", name := "<init>", desc := "()V" } : Jvm.MethodName) jdk_30_method_1_code (1 : Nat) (Option.none : Option Jvm.ClassFile.FieldType)).before args0 about1 = true := code_word (m := ⟨2, 0⟩) (meth := k2m0) (c := k2c0) (by decide +kernel) rfl rfl rfl (by decide +kernel)
set_option maxRecDepth 65536 in
theorem w_c6 : (Jvm.Cond.code ({ cls := "com/example/concept_reasoner/conceptreasoner/completion/Axioms$LeftOf", name := "isEmpty", desc := "()Z" } : Jvm.MethodName) prog_14_method_3_code (1 : Nat) (Option.some Jvm.ClassFile.FieldType.boolean)).before args0 about1 = true := code_word (m := ⟨3, 2⟩) (meth := k3m2) (c := k3c2) (by decide +kernel) rfl rfl rfl (by decide +kernel)
set_option maxRecDepth 65536 in
theorem w_c7 : (Jvm.Cond.code ({ cls := "com/example/concept_reasoner/conceptreasoner/completion/IntList", name := "isEmpty", desc := "()Z" } : Jvm.MethodName) prog_20_method_6_code (1 : Nat) (Option.some Jvm.ClassFile.FieldType.boolean)).before args0 about1 = true := code_word (m := ⟨4, 2⟩) (meth := k4m2) (c := k4c2) (by decide +kernel) rfl rfl rfl (by decide +kernel)
set_option maxRecDepth 65536 in
theorem w_c8 : (Jvm.Cond.code ({ cls := "com/example/concept_reasoner/conceptreasoner/completion/Axioms$LeftOf", name := "implied", desc := "()Lcom/example/concept_reasoner/conceptreasoner/completion/IntList;" } : Jvm.MethodName) prog_14_method_7_code (1 : Nat) (Option.some (Jvm.ClassFile.FieldType.object "com/example/concept_reasoner/conceptreasoner/completion/IntList"))).before args0 about1 = true := code_word (m := ⟨3, 3⟩) (meth := k3m3) (c := k3c3) (by decide +kernel) rfl rfl rfl (by decide +kernel)
set_option maxRecDepth 65536 in
theorem w_c9 : (Jvm.Cond.code ({ cls := "com/example/concept_reasoner/conceptreasoner/completion/IntList", name := "add", desc := "(I)V" } : Jvm.MethodName) prog_20_method_2_code (2 : Nat) (Option.none : Option Jvm.ClassFile.FieldType)).before args0 about1 = true := code_word (m := ⟨4, 1⟩) (meth := k4m1) (c := k4c1) (by decide +kernel) rfl rfl rfl (by decide +kernel)
set_option maxRecDepth 65536 in
theorem w_c10 : (Jvm.Cond.code ({ cls := "java/lang/Math", name := "max", desc := "(II)I" } : Jvm.MethodName) jdk_29_method_65_code (2 : Nat) (Option.some Jvm.ClassFile.FieldType.int)).before args0 about1 = true := code_word (m := ⟨5, 1⟩) (meth := k5m1) (c := k5c1) (by decide +kernel) rfl rfl rfl (by decide +kernel)
set_option maxRecDepth 65536 in
theorem w_c11 : (Jvm.Cond.code ({ cls := "java/util/Arrays", name := "copyOf", desc := "([II)[I" } : Jvm.MethodName) jdk_65_method_123_code (3 : Nat) (Option.some (Jvm.ClassFile.FieldType.array Jvm.ClassFile.FieldType.int))).before args0 about1 = true := code_word (m := ⟨6, 1⟩) (meth := k6m1) (c := k6c1) (by decide +kernel) rfl rfl rfl (by decide +kernel)
set_option maxRecDepth 65536 in
theorem w_c12 : (Jvm.Cond.code ({ cls := "java/lang/Math", name := "min", desc := "(II)I" } : Jvm.MethodName) jdk_29_method_69_code (2 : Nat) (Option.some Jvm.ClassFile.FieldType.int)).before args0 about1 = true := code_word (m := ⟨5, 2⟩) (meth := k5m2) (c := k5c2) (by decide +kernel) rfl rfl rfl (by decide +kernel)
set_option maxRecDepth 65536 in
theorem w_c13 : (Jvm.Cond.code ({ cls := "com/example/concept_reasoner/conceptreasoner/completion/Axioms$LeftOf", name := "existentials", desc := "()Lcom/example/concept_reasoner/conceptreasoner/completion/IntList;" } : Jvm.MethodName) prog_14_method_8_code (1 : Nat) (Option.some (Jvm.ClassFile.FieldType.object "com/example/concept_reasoner/conceptreasoner/completion/IntList"))).before args0 about1 = true := code_word (m := ⟨3, 4⟩) (meth := k3m4) (c := k3c4) (by decide +kernel) rfl rfl rfl (by decide +kernel)
set_option maxRecDepth 65536 in
theorem w_c14 : (Jvm.Cond.code ({ cls := "com/example/concept_reasoner/conceptreasoner/completion/Axioms$LeftOf", name := "disjointnesses", desc := "()Lcom/example/concept_reasoner/conceptreasoner/completion/IntList;" } : Jvm.MethodName) prog_14_method_9_code (1 : Nat) (Option.some (Jvm.ClassFile.FieldType.object "com/example/concept_reasoner/conceptreasoner/completion/IntList"))).before args0 about1 = true := code_word (m := ⟨3, 5⟩) (meth := k3m5) (c := k3c5) (by decide +kernel) rfl rfl rfl (by decide +kernel)
def codes1 : List Jvm.Cond := [Jvm.Cond.code x code maxLocals ret, Jvm.Cond.code ({ cls := "com/example/concept_reasoner/conceptreasoner/completion/Axioms$LeftOf", name := "<init>", desc := "()V" } : Jvm.MethodName) prog_14_method_1_code (1 : Nat) (Option.none : Option Jvm.ClassFile.FieldType), Jvm.Cond.code ({ cls := "com/example/concept_reasoner/conceptreasoner/completion/IntList", name := "<init>", desc := "()V" } : Jvm.MethodName) prog_20_method_1_code (1 : Nat) (Option.none : Option Jvm.ClassFile.FieldType), Jvm.Cond.code ({ cls := "java/lang/Object", name := "<init>", desc := "()V" } : Jvm.MethodName) object_method_1_code (1 : Nat) (Option.none : Option Jvm.ClassFile.FieldType), Jvm.Cond.code ({ cls := "com/example/concept_reasoner/conceptreasoner/completion/Axioms$LeftOf", name := "<init>", desc := "(Lcom/example/concept_reasoner/conceptreasoner/completion/IntList;Lcom/example/concept_reasoner/conceptreasoner/completion/IntList;Lcom/example/concept_reasoner/conceptreasoner/completion/IntList;)V" } : Jvm.MethodName) prog_14_method_2_code (4 : Nat) (Option.none : Option Jvm.ClassFile.FieldType), Jvm.Cond.code ({ cls := "java/lang/Record", name := "<init>", desc := "()V" } : Jvm.MethodName) jdk_30_method_1_code (1 : Nat) (Option.none : Option Jvm.ClassFile.FieldType), Jvm.Cond.code ({ cls := "com/example/concept_reasoner/conceptreasoner/completion/Axioms$LeftOf", name := "isEmpty", desc := "()Z" } : Jvm.MethodName) prog_14_method_3_code (1 : Nat) (Option.some Jvm.ClassFile.FieldType.boolean), Jvm.Cond.code ({ cls := "com/example/concept_reasoner/conceptreasoner/completion/IntList", name := "isEmpty", desc := "()Z" } : Jvm.MethodName) prog_20_method_6_code (1 : Nat) (Option.some Jvm.ClassFile.FieldType.boolean), Jvm.Cond.code ({ cls := "com/example/concept_reasoner/conceptreasoner/completion/Axioms$LeftOf", name := "implied", desc := "()Lcom/example/concept_reasoner/conceptreasoner/completion/IntList;" } : Jvm.MethodName) prog_14_method_7_code (1 : Nat) (Option.some (Jvm.ClassFile.FieldType.object "com/example/concept_reasoner/conceptreasoner/completion/IntList")), Jvm.Cond.code ({ cls := "com/example/concept_reasoner/conceptreasoner/completion/IntList", name := "add", desc := "(I)V" } : Jvm.MethodName) prog_20_method_2_code (2 : Nat) (Option.none : Option Jvm.ClassFile.FieldType), Jvm.Cond.code ({ cls := "java/lang/Math", name := "max", desc := "(II)I" } : Jvm.MethodName) jdk_29_method_65_code (2 : Nat) (Option.some Jvm.ClassFile.FieldType.int), Jvm.Cond.code ({ cls := "java/util/Arrays", name := "copyOf", desc := "([II)[I" } : Jvm.MethodName) jdk_65_method_123_code (3 : Nat) (Option.some (Jvm.ClassFile.FieldType.array Jvm.ClassFile.FieldType.int)), Jvm.Cond.code ({ cls := "java/lang/Math", name := "min", desc := "(II)I" } : Jvm.MethodName) jdk_29_method_69_code (2 : Nat) (Option.some Jvm.ClassFile.FieldType.int), Jvm.Cond.code ({ cls := "com/example/concept_reasoner/conceptreasoner/completion/Axioms$LeftOf", name := "existentials", desc := "()Lcom/example/concept_reasoner/conceptreasoner/completion/IntList;" } : Jvm.MethodName) prog_14_method_8_code (1 : Nat) (Option.some (Jvm.ClassFile.FieldType.object "com/example/concept_reasoner/conceptreasoner/completion/IntList")), Jvm.Cond.code ({ cls := "com/example/concept_reasoner/conceptreasoner/completion/Axioms$LeftOf", name := "disjointnesses", desc := "()Lcom/example/concept_reasoner/conceptreasoner/completion/IntList;" } : Jvm.MethodName) prog_14_method_9_code (1 : Nat) (Option.some (Jvm.ClassFile.FieldType.object "com/example/concept_reasoner/conceptreasoner/completion/IntList"))]
set_option maxRecDepth 65536 in
theorem codes_eq : words1.filter isCode = codes1 := rfl
theorem w_codes : ∀ c ∈ words1.filter isCode, c.before args0 about1 = true := by
  rw [codes_eq]
  intro c hc
  simp only [codes1, List.mem_cons, List.not_mem_nil, or_false] at hc
  rcases hc with rfl | rfl | rfl | rfl | rfl | rfl | rfl | rfl | rfl | rfl | rfl | rfl | rfl | rfl | rfl
  · exact w_c0
  · exact w_c1
  · exact w_c2
  · exact w_c3
  · exact w_c4
  · exact w_c5
  · exact w_c6
  · exact w_c7
  · exact w_c8
  · exact w_c9
  · exact w_c10
  · exact w_c11
  · exact w_c12
  · exact w_c13
  · exact w_c14
set_option maxRecDepth 65536 in
theorem w_t1 : (words1.take 24).all (fun c => isCode c || c.before args0 about1) = true := by decide +kernel
set_option maxRecDepth 65536 in
theorem w_t2 : ((words1.drop 24).take 24).all (fun c => isCode c || c.before args0 about1) = true := by decide +kernel
set_option maxRecDepth 65536 in
theorem w_t3 : (((words1.drop 24).drop 24).take 24).all (fun c => isCode c || c.before args0 about1) = true := by decide +kernel
set_option maxRecDepth 65536 in
theorem w_t4 : (((words1.drop 24).drop 24).drop 24).all (fun c => isCode c || c.before args0 about1) = true := by decide +kernel
theorem w_tables : (allAtoms (Jvm.Cond.code x code maxLocals ret :: tables_1)).before args0 about1 = true := by
  rw [allAtoms_all]
  show words1.all (fun c => c.before args0 about1) = true
  refine all_split ?_ w_codes
  rw [← List.take_append_drop 24 words1, List.all_append, w_t1, ← List.take_append_drop 24 (words1.drop 24), List.all_append, w_t2, ← List.take_append_drop 24 ((words1.drop 24).drop 24), List.all_append, w_t3, w_t4]
  rfl
set_option maxRecDepth 65536 in
theorem w_case : (Jvm.Cond.and given_1 narrow_1).before args0 about1 = true := by decide +kernel
theorem w_applies : (headSpec (Jvm.Cond.code x code maxLocals ret :: tables_1) room_1).applies x e0.platform about1 = true :=
  (Spec.applies_iff w_frames).mpr ⟨w_running, w_runnable, w_alone, w_named, w_hears, w_ripe, w_room, w_tables⟩
theorem atStart : AtStart classFile x code maxLocals ret World_1 tables_1 room_1 Calls_1 rest_1 Pre_1 launch0 p0 e0 about1 theMethod args0 below0 :=
  ⟨lists_1, trivial, launch0.admits_env _ _ _, launch0.least_env, fairChoices_fair.cas, fairChoices_fair.clock, w_frames, w_args, w_heap, w_applies, trivial, trivial, w_case⟩
end start1
theorem witness_1 : WitnessClaimed_1 := ⟨start1.p0, start1.e0, start1.about1, start1.theMethod, start1.args0, start1.below0, start1.atStart⟩
end Jvm.Pilot.@@N@@
