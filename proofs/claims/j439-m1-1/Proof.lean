import JvmDerived
import JvmDerived.Pilot.@@N@@Statement
import JvmDerived.Pilot.@@N@@Code
set_option linter.unusedVariables false
set_option linter.unusedSimpArgs false

namespace Jvm.RoadKit
open Sem ClassFile Op Lib Jvm.Stand Jvm.Free Jvm.LawKit
section New
variable {p : Program} {l : Launch} {e : Env} {R : Room} {s : State} {m : MethodId} {args : Array Value} {below : List Frame} {meth : Method} {c : Code} {T : State} {locs : List Loc} {cells slots : Nat}
theorem own_retI (X : Stand p l e R s m args below meth c T locs cells slots) (hx : p.tables.exec = Jvm.exec) {pc : Nat} {Ls : Array Slot} {z : Int32} {rest : List Value} (hret : meth.sig.returnType = some .int) (hd : decode c.code pc = .ok (.ireturn, 1)) {fs : List Frame}
    (hl : ∀ (f : JFrame) (acts : List Action), f.method = m → f.locked = none → f.entered = [] → (doReturn e (T.setTop f) acts (some (.int z))).1 = T.setFrames fs) : Steps p.tables e below (T.setTop (mkF m pc Ls (.int z :: rest))) (T.setFrames fs) :=
  retOut X hx (t := .int) (w := .int z) (i := .ireturn) hret rfl (Or.inl ⟨rfl, Or.inl rfl, z, rfl⟩) hd hl
end New
end Jvm.RoadKit

namespace Jvm.Pilot.@@N@@
open Jvm Jvm.ClassFile Sem Op Lib Jvm.Free Jvm.Stand Jvm.LawKit Jvm.RoadKit Bundle Jvm.Pilot.@@N@@.Jvm.D

theorem own_g {Z : State} {a0 : Array Value} (hw : ∀ d ∈ tables_1, d.before a0 Z = true) (i : Nat) {d : Jvm.Cond} (h : tables_1[i]? = some d) : d.before a0 Z = true := hw _ (List.mem_of_getElem? h)
/-- from the state T the run comes to an end that F takes -/
def own_Ends (p : Program) (e : Env) (below : List Frame) (F : Outcome → State → Prop) (T : State) : Prop :=
  ∃ s₂ o, Steps p.tables e below T s₂ ∧ s₂.status = .running ∧ Ended s₂ below o ∧ F o s₂
def own_Fin (s : State) (Q : Option Value → Heap → List Loc → Prop) (C S : Nat) (o : Outcome) (U : State) : Prop :=
  ∃ v L, o = .returned v ∧ Q v U.heap L ∧ FrameEnd s o U L C S
theorem own_Sta_keep {Z : State} {h h' : Heap} {C n d : String} {v : Value} {ws : List Addr} (F : Sta Z h C n d v) (K : Keep h h' ws) (q : ∀ x ∈ ws, ∀ c : Cell, h[x]? = some c → c.vm.isStatics = false) : Sta Z h' C n d v := by
  obtain ⟨cf, i, k, f, st, cell, h1, h2, h3, h4, h5, h6, h7⟩ := F
  exact ⟨cf, i, k, f, st, cell, h1, h2, h3, h4, K.2.1 st cell h5 (fun m => by rw [q st m cell h5] at h6; cases h6), h6, h7⟩
theorem own_ns_exa {Z : State} {h : Heap} {a : Addr} {C : String} (F : Exa Z h a C) : ∀ c : Cell, h[a]? = some c → c.vm.isStatics = false := fun c hc => by
  obtain ⟨cell, k, h1, h2, h3, h4, h5⟩ := F
  cases h1.symm.trans hc; exact h4
theorem own_ns_arv {Z : State} {h : Heap} {a : Addr} {k : ClassId} {ty : FieldType} {n : Int32} {vs : List Value} {d : Value} (F : Arv Z h a k ty n vs d) : ∀ c : Cell, h[a]? = some c → c.vm.isStatics = false := fun c hc => by
  obtain ⟨cell, A, r⟩ := F
  cases A.1.symm.trans hc; exact A.plain
section OwnSteps
variable {p : Program} {l : Launch} {e : Env} {R : Room} {s : State} {m : MethodId} {args : Array Value} {below : List Frame} {meth : Method} {c : Code} {T T' : State} {locs : List Loc} {cells slots cells' slots' : Nat} {F : Outcome → State → Prop}
theorem own_step (h : ∀ target, Steps p.tables e below T' target → Steps p.tables e below T target) (k : own_Ends p e below F T') : own_Ends p e below F T := by
  obtain ⟨s₂, o, h1, h2⟩ := k
  exact ⟨s₂, o, h _ h1, h2⟩
theorem own_trans (h : Steps p.tables e below T T') (k : own_Ends p e below F T') : own_Ends p e below F T := by
  obtain ⟨s₂, o, h1, h2⟩ := k
  exact ⟨s₂, o, h.trans h1, h2⟩
theorem own_mono (X : Stand p l e R s m args below meth c T locs cells slots) (h1 : cells ≤ cells') (h2 : slots ≤ slots') : Stand p l e R s m args below meth c T locs cells' slots' :=
  { X with same := X.same.mono h1 h2 }
theorem own_ret {Q : Option Value → Heap → List Loc → Prop} {C S : Nat} {g : JFrame} (X : Stand p l e R s m args below meth c T locs cells slots) {v : Option Value} (hv : meth.sig.returnType = none → v = none) (hlocks : meth.locks = false)
    (st : ∀ fs, (∀ (f : JFrame) (acts : List Action), f.method = m → f.locked = none → f.entered = [] → (doReturn e (T.setTop f) acts v).1 = T.setFrames fs) → Steps p.tables e below (T.setTop g) (T.setFrames fs))
    (h1 : cells ≤ C) (h2 : slots ≤ S) (hQ : Q v T.heap locs) : own_Ends p e below (own_Fin s Q C S) (T.setTop g) := by
  obtain ⟨fs, hr, hrun, hended, hW, hsame⟩ := X.leave (v := v) hv hlocks
  exact ⟨_, _, st fs hr, hrun, hended, _, _, rfl, hQ, ⟨_, rfl⟩, hW, hsame.mono h1 h2⟩
def own_FinW (s : State) (Q : Option Value → Heap → List Loc → Prop) (C S : Nat) (o : Outcome) (U : State) : Prop :=
  ∃ v L, o = .returned v ∧ Q v U.heap L ∧ ReturnedEndW s o U L C S
theorem own_retW {vm : Vm} {k : Nat} {Q : Option Value → Heap → List Loc → Prop} {C S : Nat} {g : JFrame} (X : Stand p l e R (s.setVm vm) m args below meth c T locs cells slots) (hS : s.Since vm k) (hk : k ≤ T.heap.size) {v : Option Value} (hv : meth.sig.returnType = none → v = none) (hlocks : meth.locks = false)
    (st : ∀ fs, (∀ (f : JFrame) (acts : List Action), f.method = m → f.locked = none → f.entered = [] → (doReturn e (T.setTop f) acts v).1 = T.setFrames fs) → Steps p.tables e below (T.setTop g) (T.setFrames fs))
    (h1 : cells ≤ C) (h2 : slots ≤ S) (hQ : Q v T.heap locs) : own_Ends p e below (own_FinW s Q C S) (T.setTop g) := by
  obtain ⟨fs, hr, hrun, hended, a, b, c', d'⟩ := X.leaveW hS hk (v := v) hv hlocks
  exact ⟨_, _, st fs hr, hrun, hended, _, _, rfl, hQ, a, b, c', d'.mono h1 h2⟩
theorem own_warm {Z : State} {vm0 vm1 : Vm} {k : Nat} (hZ : Z.Warmed39 vm0) (hS : (s.setVm vm0).Since vm1 k) : Z.Warmed39 vm1 := State.Warmed39.trans (t := s.setVm vm0) hZ hS.1
theorem own_find {vm0 vm1 : Vm} {k : Nat} {own : String} {c0 : ClassId} (h : vm0.findClass own = some c0) (hS : (s.setVm vm0).Since vm1 k) : vm1.findClass own = some c0 := by
  rw [hS.1.alike.findClass]; exact h
def own_FinH (Z : State) (EL : List (String × Nat)) (s : State) (Q : Option Value → Heap → List Loc → Prop) (C S : Nat) (o : Outcome) (U : State) : Prop :=
  ∃ v L, o = .returned v ∧ Q v U.heap L ∧ CHr Z EL s.vm s.heap U.vm U.heap ∧ ReturnedEndW s o U L C S
theorem own_retH {Z : State} {a0 : Array Value} {EL : List (String × Nat)} {vm : Vm} {k : Nat} {h0 h : Heap} {Q : Option Value → Heap → List Loc → Prop} {C S : Nat} {g : JFrame} (X : Stand p l e R (s.setVm vm) m args below meth c T locs cells slots) (hS : s.Since vm k) (hk : k ≤ T.heap.size) (hh : s.heap = h0) (eT : T.heap = h) (hZ : Z.Warmed39 vm) (hEL : EW Z a0 EL) (hC : CHr Z EL s.vm h0 vm h) {v : Option Value} (hv : meth.sig.returnType = none → v = none) (hlocks : meth.locks = false)
    (st : ∀ fs, (∀ (f : JFrame) (acts : List Action), f.method = m → f.locked = none → f.entered = [] → (doReturn e (T.setTop f) acts v).1 = T.setFrames fs) → Steps p.tables e below (T.setTop g) (T.setFrames fs))
    (h1 : cells ≤ C) (h2 : slots ≤ S) (hQ : Q v T.heap locs) : own_Ends p e below (own_FinH Z EL s Q C S) (T.setTop g) := by
  obtain ⟨fs, hr, hrun, hended, a, b, c', d'⟩ := X.leaveW hS hk (v := v) hv hlocks
  have q : CHr Z EL s.vm s.heap T.vm T.heap := by
    rw [hh, eT]; exact hC.trans (CHv.at X hZ hEL hC.1)
  exact ⟨_, _, st fs hr, hrun, hended, _, _, rfl, hQ, q, a, b, c', d'.mono h1 h2⟩
def own_SL (Z : State) (EL : List (String × Nat)) (vm : Vm) (h : Heap) (x : Addr) : Prop := x < h.size ∧ Safe Z EL vm h x
theorem own_SL.go {Z : State} {EL : List (String × Nat)} {vm vm1 : Vm} {h h' : Heap} {x : Addr} (F : own_SL Z EL vm h x) (A : CHr Z EL vm h vm1 h') : own_SL Z EL vm1 h' x := ⟨Nat.lt_of_lt_of_le F.1 A.2.1, A.safe F.1 F.2⟩
theorem own_SL.born {Z : State} {EL : List (String × Nat)} {vm : Vm} {h h' : Heap} {x : Addr} (H : CHv Z EL vm h) (E : Ext h h') (g : x = h.size) (lt : x < h'.size) : own_SL Z EL vm h' x := ⟨lt, Safe.ext E H (Safe.new (Nat.le_of_eq g.symm))⟩
end OwnSteps

theorem own_m3 (x : Int32) : x &&& 3 = 0 ∨ x &&& 3 = 1 ∨ x &&& 3 = 2 ∨ x &&& 3 = 3 := by
  have h := c_mask x 3 2 (by decide) (by decide)
  have e : ∀ k : Int32, (x &&& 3).toInt = k.toInt → x &&& 3 = k := fun k q => Int32.toInt_inj.mp q
  have p : ((2 ^ 2 : Nat) : Int) = 4 := rfl
  rw [p] at h
  have h4 : x.toInt % 4 = 0 ∨ x.toInt % 4 = 1 ∨ x.toInt % 4 = 2 ∨ x.toInt % 4 = 3 := by omega
  rcases h4 with q | q | q | q <;> rw [q] at h
  · exact Or.inl (e 0 h)
  · exact Or.inr (Or.inl (e 1 h))
  · exact Or.inr (Or.inr (Or.inl (e 2 h)))
  · exact Or.inr (Or.inr (Or.inr (e 3 h)))

def own_emp (z : Int32) : Int32 := if z = 0 then 1 else 0
def own_maxI (a b : Int32) : Int32 := if a < b then b else a
def own_minI (a b : Int32) : Int32 := if b < a then b else a
theorem own_len {Z : State} {args : Array Value} {t : Term} {a : Addr} {c : Cell} {ty : FieldType} (ev : t.eval args Z none [] Z = some (.ref a)) (A : Arr Z Z.heap a c ty) (h : (Jvm.Cond.eq (Jvm.Term.length t) (Jvm.Term.int (0 : Int32))).value args Z none Z [] = some true) : c.slots.size < 2 ^ 31 ∧ c.slots.size.toInt32 = (0 : Int32) := by
  have ha : Z.arrayAt? a = some c := A.fin (Vm.Alike.refl _)
  by_cases q : c.slots.size < 2 ^ 31
  · refine ⟨q, ?_⟩
    have q2 : c.slots.size < 2147483648 := q
    simpa [Cond.value, Term.eval, ev, ha, q2] using h
  · simp [Cond.value, Term.eval, ev, ha, q] at h

theorem d5_0 : decode jdk_29_method_65_code 0 = .ok (.iload_n 0, 1) := by decide +kernel
theorem d5_1 : decode jdk_29_method_65_code 1 = .ok (.iload_n 1, 1) := by decide +kernel
theorem d5_2 : decode jdk_29_method_65_code 2 = .ok (.if_icmp .lt 7, 3) := by decide +kernel
theorem d5_5 : decode jdk_29_method_65_code 5 = .ok (.iload_n 0, 1) := by decide +kernel
theorem d5_6 : decode jdk_29_method_65_code 6 = .ok (.goto 4, 3) := by decide +kernel
theorem d5_9 : decode jdk_29_method_65_code 9 = .ok (.iload_n 1, 1) := by decide +kernel
theorem d5_10 : decode jdk_29_method_65_code 10 = .ok (.ireturn, 1) := by decide +kernel
theorem ef_rm5 (m : MethodId) (x0 : Int32) (x1 : Int32) : entryFrame m #[(.int x0), (.int x1)] 2 = mkF m 0 #[.val (.int x0), .val (.int x1)] [] := by first | (simp [entryFrame, mkF, argsToLocals, Value.category, maxLocals]; done) | rfl
def Q5 (Z : State) (p1 p2 : Int32) (h0 : Heap) (n0 : Nat) (v : Option Value) (h : Heap) (L : List Loc) : Prop := v = some (.int (own_maxI p1 p2)) ∧ Fr n0 L ∧ h = h0
set_option maxRecDepth 65536 in
set_option maxHeartbeats 40000000 in
theorem rm5 (l : Launch) (Z : State) (a0 : Array Value) (hw : ∀ d ∈ tables_1, d.before a0 Z = true) (ws : List Jvm.Cond) (p1 p2 : Int32) (h0 : Heap) (n0 : Nat) (Z0 : n0 ≤ h0.size)  :
    MetFree l (⟨"java/lang/Math", "max", "(II)I"⟩ : MethodName) (head1 (Jvm.Cond.code (⟨"java/lang/Math", "max", "(II)I"⟩ : MethodName) jdk_29_method_65_code 2 (some .int) :: ws) ({ frames := 0, cells := 0, slots := 0, locals := 0 } : Room)) (fun ar U => ar = #[(.int p1), (.int p2)] ∧ Z.Warmed39 U.vm ∧ U.heap = h0) (fun _ _ _ _ _ => True) (fun _ U o U' => ∃ v L, o = .returned v ∧ Q5 Z p1 p2 h0 n0 v U'.heap L ∧ FrameEnd U o U' L ({ frames := 0, cells := 0, slots := 0, locals := 0 } : Room).cells ({ frames := 0, cells := 0, slots := 0, locals := 0 } : Room).slots) := by
  refine MetFree.of_bodySF (Jvm.Free.JP.mathPlain rfl (by decide +kernel)) hisR ?_
  intro p e s m args below meth c s₁ Bd hml0 hP hK
  obtain ⟨rfl, hZ, hh⟩ := hP
  have hx := Bd.exec
  have hby := Bd.bytes
  have hml : c.maxLocals = 2 := hml0
  have hown : s.vm.findClass "java/lang/Math" = some m.cls := findClass_of_methodNamed Bd.named
  have hnm := (name_of_methodNamed Bd.named Bd.method).1
  have X0 : Stand p l e ({ frames := 0, cells := 0, slots := 0, locals := 0 } : Room) s m #[(.int p1), (.int p2)] below meth c s₁ [] 0 0 := Stand.of_body Bd
  have e0 : s₁.heap = h0 := by rw [← hh, Bd.state]; rfl
  have N0 := Fr.nil n0
  obtain ⟨F, hF⟩ : ∃ F, F = own_Fin s (Q5 Z p1 p2 h0 n0) ({ frames := 0, cells := 0, slots := 0, locals := 0 } : Room).cells ({ frames := 0, cells := 0, slots := 0, locals := 0 } : Room).slots := ⟨_, rfl⟩
  show own_Ends p e below (own_Fin s (Q5 Z p1 p2 h0 n0) ({ frames := 0, cells := 0, slots := 0, locals := 0 } : Room).cells ({ frames := 0, cells := 0, slots := 0, locals := 0 } : Room).slots) _
  rw [← hF, ef_rm5 m p1 p2]
  show own_Ends p e below F (s₁.setTop (mkF m 0 #[.val (.int p1), .val (.int p2)] []))
  refine own_step (fun _ k => XS.iloadN X0.here hx rfl (hb hby d5_0) rfl k) ?_
  show own_Ends p e below F (s₁.setTop (mkF m 1 #[.val (.int p1), .val (.int p2)] [(.int p1)]))
  refine own_step (fun _ k => XS.iloadN X0.here hx rfl (hb hby d5_1) rfl k) ?_
  show own_Ends p e below F (s₁.setTop (mkF m 2 #[.val (.int p1), .val (.int p2)] [(.int p2), (.int p1)]))
  by_cases c2_1 : p1 < p2
  · refine own_step (fun _ k => XS.icmpYes X0.here hx rfl (pc0 := 2) (pc' := 9) rfl (hb hby d5_2) rfl (tlt c2_1).1 (by decide) (by decide) k) ?_
    show own_Ends p e below F (s₁.setTop (mkF m 9 #[.val (.int p1), .val (.int p2)] []))
    refine own_step (fun _ k => XS.iloadN X0.here hx rfl (hb hby d5_9) rfl k) ?_
    show own_Ends p e below F (s₁.setTop (mkF m 10 #[.val (.int p1), .val (.int p2)] [(.int p2)]))
    rw [hF]
    exact own_ret X0 (v := (some (.int p2))) (fun h => by rw [Bd.returns] at h; cases h) Bd.notSynchronized (fun fs hr => own_retI X0 hx Bd.returns (hb hby d5_10) hr) (by decide) (by decide) (by rw [e0]; exact ⟨by simp only [own_maxI, c2_1, if_true, if_false], N0, rfl⟩)
  · refine own_step (fun _ k => XS.icmpNo X0.here hx rfl (hb hby d5_2) rfl (flt c2_1).1 k) ?_
    show own_Ends p e below F (s₁.setTop (mkF m 5 #[.val (.int p1), .val (.int p2)] []))
    refine own_step (fun _ k => XS.iloadN X0.here hx rfl (hb hby d5_5) rfl k) ?_
    show own_Ends p e below F (s₁.setTop (mkF m 6 #[.val (.int p1), .val (.int p2)] [(.int p1)]))
    refine own_step (fun _ k => XS.goto X0.here hx rfl (pc0 := 6) (pc' := 10) rfl (hb hby d5_6) (by decide) (by decide) k) ?_
    show own_Ends p e below F (s₁.setTop (mkF m 10 #[.val (.int p1), .val (.int p2)] [(.int p1)]))
    rw [hF]
    exact own_ret X0 (v := (some (.int p1))) (fun h => by rw [Bd.returns] at h; cases h) Bd.notSynchronized (fun fs hr => own_retI X0 hx Bd.returns (hb hby d5_10) hr) (by decide) (by decide) (by rw [e0]; exact ⟨by simp only [own_maxI, c2_1, if_true, if_false], N0, rfl⟩)

theorem d7_0 : decode jdk_29_method_69_code 0 = .ok (.iload_n 0, 1) := by decide +kernel
theorem d7_1 : decode jdk_29_method_69_code 1 = .ok (.iload_n 1, 1) := by decide +kernel
theorem d7_2 : decode jdk_29_method_69_code 2 = .ok (.if_icmp .gt 7, 3) := by decide +kernel
theorem d7_5 : decode jdk_29_method_69_code 5 = .ok (.iload_n 0, 1) := by decide +kernel
theorem d7_6 : decode jdk_29_method_69_code 6 = .ok (.goto 4, 3) := by decide +kernel
theorem d7_9 : decode jdk_29_method_69_code 9 = .ok (.iload_n 1, 1) := by decide +kernel
theorem d7_10 : decode jdk_29_method_69_code 10 = .ok (.ireturn, 1) := by decide +kernel
theorem ef_rm7 (m : MethodId) (x0 : Int32) (x1 : Int32) : entryFrame m #[(.int x0), (.int x1)] 2 = mkF m 0 #[.val (.int x0), .val (.int x1)] [] := by first | (simp [entryFrame, mkF, argsToLocals, Value.category, maxLocals]; done) | rfl
def Q7 (Z : State) (p1 p2 : Int32) (h0 : Heap) (n0 : Nat) (v : Option Value) (h : Heap) (L : List Loc) : Prop := v = some (.int (own_minI p1 p2)) ∧ Fr n0 L ∧ h = h0
set_option maxRecDepth 65536 in
set_option maxHeartbeats 40000000 in
theorem rm7 (l : Launch) (Z : State) (a0 : Array Value) (hw : ∀ d ∈ tables_1, d.before a0 Z = true) (ws : List Jvm.Cond) (p1 p2 : Int32) (h0 : Heap) (n0 : Nat) (Z0 : n0 ≤ h0.size)  :
    MetFree l (⟨"java/lang/Math", "min", "(II)I"⟩ : MethodName) (head1 (Jvm.Cond.code (⟨"java/lang/Math", "min", "(II)I"⟩ : MethodName) jdk_29_method_69_code 2 (some .int) :: ws) ({ frames := 0, cells := 0, slots := 0, locals := 0 } : Room)) (fun ar U => ar = #[(.int p1), (.int p2)] ∧ Z.Warmed39 U.vm ∧ U.heap = h0) (fun _ _ _ _ _ => True) (fun _ U o U' => ∃ v L, o = .returned v ∧ Q7 Z p1 p2 h0 n0 v U'.heap L ∧ FrameEnd U o U' L ({ frames := 0, cells := 0, slots := 0, locals := 0 } : Room).cells ({ frames := 0, cells := 0, slots := 0, locals := 0 } : Room).slots) := by
  refine MetFree.of_bodySF (Jvm.Free.JP.mathPlain rfl (by decide +kernel)) hisR ?_
  intro p e s m args below meth c s₁ Bd hml0 hP hK
  obtain ⟨rfl, hZ, hh⟩ := hP
  have hx := Bd.exec
  have hby := Bd.bytes
  have hml : c.maxLocals = 2 := hml0
  have hown : s.vm.findClass "java/lang/Math" = some m.cls := findClass_of_methodNamed Bd.named
  have hnm := (name_of_methodNamed Bd.named Bd.method).1
  have X0 : Stand p l e ({ frames := 0, cells := 0, slots := 0, locals := 0 } : Room) s m #[(.int p1), (.int p2)] below meth c s₁ [] 0 0 := Stand.of_body Bd
  have e0 : s₁.heap = h0 := by rw [← hh, Bd.state]; rfl
  have N0 := Fr.nil n0
  obtain ⟨F, hF⟩ : ∃ F, F = own_Fin s (Q7 Z p1 p2 h0 n0) ({ frames := 0, cells := 0, slots := 0, locals := 0 } : Room).cells ({ frames := 0, cells := 0, slots := 0, locals := 0 } : Room).slots := ⟨_, rfl⟩
  show own_Ends p e below (own_Fin s (Q7 Z p1 p2 h0 n0) ({ frames := 0, cells := 0, slots := 0, locals := 0 } : Room).cells ({ frames := 0, cells := 0, slots := 0, locals := 0 } : Room).slots) _
  rw [← hF, ef_rm7 m p1 p2]
  show own_Ends p e below F (s₁.setTop (mkF m 0 #[.val (.int p1), .val (.int p2)] []))
  refine own_step (fun _ k => XS.iloadN X0.here hx rfl (hb hby d7_0) rfl k) ?_
  show own_Ends p e below F (s₁.setTop (mkF m 1 #[.val (.int p1), .val (.int p2)] [(.int p1)]))
  refine own_step (fun _ k => XS.iloadN X0.here hx rfl (hb hby d7_1) rfl k) ?_
  show own_Ends p e below F (s₁.setTop (mkF m 2 #[.val (.int p1), .val (.int p2)] [(.int p2), (.int p1)]))
  by_cases c2_1 : p2 < p1
  · refine own_step (fun _ k => XS.icmpYes X0.here hx rfl (pc0 := 2) (pc' := 9) rfl (hb hby d7_2) rfl (tlt c2_1).2.2.1 (by decide) (by decide) k) ?_
    show own_Ends p e below F (s₁.setTop (mkF m 9 #[.val (.int p1), .val (.int p2)] []))
    refine own_step (fun _ k => XS.iloadN X0.here hx rfl (hb hby d7_9) rfl k) ?_
    show own_Ends p e below F (s₁.setTop (mkF m 10 #[.val (.int p1), .val (.int p2)] [(.int p2)]))
    rw [hF]
    exact own_ret X0 (v := (some (.int p2))) (fun h => by rw [Bd.returns] at h; cases h) Bd.notSynchronized (fun fs hr => own_retI X0 hx Bd.returns (hb hby d7_10) hr) (by decide) (by decide) (by rw [e0]; exact ⟨by simp only [own_minI, c2_1, if_true, if_false], N0, rfl⟩)
  · refine own_step (fun _ k => XS.icmpNo X0.here hx rfl (hb hby d7_2) rfl (flt c2_1).2.2.1 k) ?_
    show own_Ends p e below F (s₁.setTop (mkF m 5 #[.val (.int p1), .val (.int p2)] []))
    refine own_step (fun _ k => XS.iloadN X0.here hx rfl (hb hby d7_5) rfl k) ?_
    show own_Ends p e below F (s₁.setTop (mkF m 6 #[.val (.int p1), .val (.int p2)] [(.int p1)]))
    refine own_step (fun _ k => XS.goto X0.here hx rfl (pc0 := 6) (pc' := 10) rfl (hb hby d7_6) (by decide) (by decide) k) ?_
    show own_Ends p e below F (s₁.setTop (mkF m 10 #[.val (.int p1), .val (.int p2)] [(.int p1)]))
    rw [hF]
    exact own_ret X0 (v := (some (.int p1))) (fun h => by rw [Bd.returns] at h; cases h) Bd.notSynchronized (fun fs hr => own_retI X0 hx Bd.returns (hb hby d7_10) hr) (by decide) (by decide) (by rw [e0]; exact ⟨by simp only [own_minI, c2_1, if_true, if_false], N0, rfl⟩)

theorem d6_0 : decode jdk_65_method_123_code 0 = .ok (.iload_n 1, 1) := by decide +kernel
theorem d6_1 : decode jdk_65_method_123_code 1 = .ok (.aload_n 0, 1) := by decide +kernel
theorem d6_2 : decode jdk_65_method_123_code 2 = .ok (.arraylength, 1) := by decide +kernel
theorem d6_3 : decode jdk_65_method_123_code 3 = .ok (.if_icmp .ne 11, 3) := by decide +kernel
theorem d6_14 : decode jdk_65_method_123_code 14 = .ok (.iload_n 1, 1) := by decide +kernel
theorem d6_15 : decode jdk_65_method_123_code 15 = .ok (.newarray .int, 2) := by decide +kernel
theorem d6_17 : decode jdk_65_method_123_code 17 = .ok (.astore_n 2, 1) := by decide +kernel
theorem d6_18 : decode jdk_65_method_123_code 18 = .ok (.aload_n 0, 1) := by decide +kernel
theorem d6_19 : decode jdk_65_method_123_code 19 = .ok (.iconst 0, 1) := by decide +kernel
theorem d6_20 : decode jdk_65_method_123_code 20 = .ok (.aload_n 2, 1) := by decide +kernel
theorem d6_21 : decode jdk_65_method_123_code 21 = .ok (.iconst 0, 1) := by decide +kernel
theorem d6_22 : decode jdk_65_method_123_code 22 = .ok (.aload_n 0, 1) := by decide +kernel
theorem d6_23 : decode jdk_65_method_123_code 23 = .ok (.arraylength, 1) := by decide +kernel
theorem d6_24 : decode jdk_65_method_123_code 24 = .ok (.iload_n 1, 1) := by decide +kernel
theorem d6_25 : decode jdk_65_method_123_code 25 = .ok (.invokestatic 304, 3) := by decide +kernel
theorem d6_28 : decode jdk_65_method_123_code 28 = .ok (.invokestatic 150, 3) := by decide +kernel
theorem d6_31 : decode jdk_65_method_123_code 31 = .ok (.aload_n 2, 1) := by decide +kernel
theorem d6_32 : decode jdk_65_method_123_code 32 = .ok (.areturn, 1) := by decide +kernel
theorem pn_java_util_Arrays : plainName "java/util/Arrays" = true := by first | (simp [plainName, overriddenIn]; done) | decide +kernel
theorem pd__28II_29I : parseMethodDescriptor "(II)I" = some ⟨[.int, .int], some .int⟩ := by decide +kernel
theorem ef_rm6 (m : MethodId) (x0 : Addr) (x1 : Int32) : entryFrame m #[(.ref x0), (.int x1)] 3 = mkF m 0 #[.val (.ref x0), .val (.int x1), .unset] [] := by first | (simp [entryFrame, mkF, argsToLocals, Value.category, maxLocals]; done) | rfl
def Q6 (Z : State) (b : Addr) (kb : ClassId) (h0 : Heap) (n0 : Nat) (v : Option Value) (h : Heap) (L : List Loc) : Prop := ∃ c k, v = some (.ref c) ∧ Fr n0 L ∧ Keep h0 h [] ∧ h0.size ≤ c ∧ Arv Z h c k .int (4 : Int32) [(.int (0 : Int32)), (.int (0 : Int32)), (.int (0 : Int32)), (.int (0 : Int32))] (.int (0 : Int32))
set_option maxRecDepth 65536 in
set_option maxHeartbeats 40000000 in
theorem rm6 (l : Launch) (Z : State) (a0 : Array Value) (hw : ∀ d ∈ tables_1, d.before a0 Z = true) (ws : List Jvm.Cond) (b : Addr) (kb : ClassId) (h0 : Heap) (n0 : Nat) (Z0 : n0 ≤ h0.size) (VB : Arv Z h0 b kb .int (0 : Int32) [] (.int (0 : Int32))) :
    MetFree l (⟨"java/util/Arrays", "copyOf", "([II)[I"⟩ : MethodName) (head1 (Jvm.Cond.code (⟨"java/util/Arrays", "copyOf", "([II)[I"⟩ : MethodName) jdk_65_method_123_code 3 (some (.array .int)) :: ws) ({ frames := 1, cells := 1, slots := 4, locals := 18 } : Room)) (fun ar U => ar = #[(.ref b), (.int (4 : Int32))] ∧ Z.Warmed39 U.vm ∧ U.heap = h0) (fun _ _ _ _ _ => True) (fun _ U o U' => ∃ v L, o = .returned v ∧ Q6 Z b kb h0 n0 v U'.heap L ∧ FrameEnd U o U' L ({ frames := 1, cells := 1, slots := 4, locals := 18 } : Room).cells ({ frames := 1, cells := 1, slots := 4, locals := 18 } : Room).slots) := by
  refine MetFree.of_bodySF (plainFor_of_name pn_java_util_Arrays) hisR ?_
  intro p e s m args below meth c s₁ Bd hml0 hP hK
  obtain ⟨rfl, hZ, hh⟩ := hP
  have hx := Bd.exec
  have hby := Bd.bytes
  have hml : c.maxLocals = 3 := hml0
  have hown : s.vm.findClass "java/util/Arrays" = some m.cls := findClass_of_methodNamed Bd.named
  have hnm := (name_of_methodNamed Bd.named Bd.method).1
  have X0 : Stand p l e ({ frames := 1, cells := 1, slots := 4, locals := 18 } : Room) s m #[(.ref b), (.int (4 : Int32))] below meth c s₁ [] 0 0 := Stand.of_body Bd
  have e0 : s₁.heap = h0 := by rw [← hh, Bd.state]; rfl
  have N0 := Fr.nil n0
  obtain ⟨F, hF⟩ : ∃ F, F = own_Fin s (Q6 Z b kb h0 n0) ({ frames := 1, cells := 1, slots := 4, locals := 18 } : Room).cells ({ frames := 1, cells := 1, slots := 4, locals := 18 } : Room).slots := ⟨_, rfl⟩
  show own_Ends p e below (own_Fin s (Q6 Z b kb h0 n0) ({ frames := 1, cells := 1, slots := 4, locals := 18 } : Room).cells ({ frames := 1, cells := 1, slots := 4, locals := 18 } : Room).slots) _
  rw [← hF, ef_rm6 m b (4 : Int32)]
  show own_Ends p e below F (s₁.setTop (mkF m 0 #[.val (.ref b), .val (.int (4 : Int32)), .unset] []))
  refine own_step (fun _ k => XS.iloadN X0.here hx rfl (hb hby d6_0) rfl k) ?_
  show own_Ends p e below F (s₁.setTop (mkF m 1 #[.val (.ref b), .val (.int (4 : Int32)), .unset] [(.int (4 : Int32))]))
  refine own_step (fun _ k => XS.aloadN X0.here hx rfl (hb hby d6_1) rfl rfl k) ?_
  show own_Ends p e below F (s₁.setTop (mkF m 2 #[.val (.ref b), .val (.int (4 : Int32)), .unset] [(.ref b), (.int (4 : Int32))]))
  obtain ⟨cl1, Ar1, q1, S1, M1, H1, G1⟩ := id VB
  have al1 := X0.arraylength hx (by rw [e0]; exact Ar1.1) (State.isArrayOf_alike hZ.alike Ar1.2.1) (g := (mkF m 2 #[.val (.ref b), .val (.int (4 : Int32)), .unset] [(.ref b), (.int (4 : Int32))])) rfl rfl (hb hby d6_2)
  rw [len_of S1 M1] at al1
  refine own_step al1 ?_
  show own_Ends p e below F (s₁.setTop (mkF m 3 #[.val (.ref b), .val (.int (4 : Int32)), .unset] [(.int (0 : Int32)), (.int (4 : Int32))]))
  refine own_step (fun _ k => XS.icmpYes X0.here hx rfl (pc0 := 3) (pc' := 14) rfl (hb hby d6_3) rfl (feq (by decide : ¬ ((4 : Int32) = (0 : Int32)))).2 (by decide) (by decide) k) ?_
  show own_Ends p e below F (s₁.setTop (mkF m 14 #[.val (.ref b), .val (.int (4 : Int32)), .unset] []))
  refine own_step (fun _ k => XS.iloadN X0.here hx rfl (hb hby d6_14) rfl k) ?_
  show own_Ends p e below F (s₁.setTop (mkF m 15 #[.val (.ref b), .val (.int (4 : Int32)), .unset] [(.int (4 : Int32))]))
  obtain ⟨T2, h2, k2, X2, e2, E2, A2, st2⟩ := newP X0 hx hZ (own_g hw 33 rfl) e0 (g := (mkF m 15 #[.val (.ref b), .val (.int (4 : Int32)), .unset] [(.int (4 : Int32))])) rfl (hb hby d6_15) rfl (by decide) (cap := 4) (by decide) (by decide) (by decide) (by decide)
  obtain ⟨a2, g2⟩ : ∃ z, z = h0.size := ⟨_, rfl⟩
  rw [← g2] at A2 st2
  have ge_a2 : n0 ≤ a2 := Nat.le_trans Z0 (Nat.le_of_eq g2.symm)
  have sz_a2 : h0.size ≤ a2 := Nat.le_trans (Nat.le_refl h0.size) (Nat.le_of_eq g2.symm)
  have ne_b_a2 : b ≠ a2 := Nat.ne_of_lt (by rw [g2]; exact VB.lt)
  have Z2 : n0 ≤ h2.size := Nat.le_trans Z0 E2.1
  have SZ2 : h0.size ≤ h2.size := Nat.le_trans (Nat.le_refl h0.size) E2.1
  have V2 : Arv Z h2 a2 k2 .int (4 : Int32) [(.int (0 : Int32)), (.int (0 : Int32)), (.int (0 : Int32)), (.int (0 : Int32))] (.int (0 : Int32)) := Arv.pad (Arv.new A2 (by decide)) (pad_rep [] _ 4)
  refine own_step st2 ?_
  show own_Ends p e below F (T2.setTop (mkF m 17 #[.val (.ref b), .val (.int (4 : Int32)), .unset] [(.ref a2)]))
  refine own_step (fun _ k => XS.astoreN X2.here hx rfl (hb hby d6_17) rfl rfl (l' := #[.val (.ref b), .val (.int (4 : Int32)), .val (.ref a2)]) rfl k) ?_
  show own_Ends p e below F (T2.setTop (mkF m 18 #[.val (.ref b), .val (.int (4 : Int32)), .val (.ref a2)] []))
  refine own_step (fun _ k => XS.aloadN X2.here hx rfl (hb hby d6_18) rfl rfl k) ?_
  show own_Ends p e below F (T2.setTop (mkF m 19 #[.val (.ref b), .val (.int (4 : Int32)), .val (.ref a2)] [(.ref b)]))
  refine own_step (fun _ k => XS.iconst X2.here hx rfl (hb hby d6_19) k) ?_
  show own_Ends p e below F (T2.setTop (mkF m 20 #[.val (.ref b), .val (.int (4 : Int32)), .val (.ref a2)] [(.int (0 : Int32)), (.ref b)]))
  refine own_step (fun _ k => XS.aloadN X2.here hx rfl (hb hby d6_20) rfl rfl k) ?_
  show own_Ends p e below F (T2.setTop (mkF m 21 #[.val (.ref b), .val (.int (4 : Int32)), .val (.ref a2)] [(.ref a2), (.int (0 : Int32)), (.ref b)]))
  refine own_step (fun _ k => XS.iconst X2.here hx rfl (hb hby d6_21) k) ?_
  show own_Ends p e below F (T2.setTop (mkF m 22 #[.val (.ref b), .val (.int (4 : Int32)), .val (.ref a2)] [(.int (0 : Int32)), (.ref a2), (.int (0 : Int32)), (.ref b)]))
  refine own_step (fun _ k => XS.aloadN X2.here hx rfl (hb hby d6_22) rfl rfl k) ?_
  show own_Ends p e below F (T2.setTop (mkF m 23 #[.val (.ref b), .val (.int (4 : Int32)), .val (.ref a2)] [(.ref b), (.int (0 : Int32)), (.ref a2), (.int (0 : Int32)), (.ref b)]))
  obtain ⟨cl3, Ar3, q3, S3, M3, H3, G3⟩ := id (VB.ext E2)
  have al3 := X2.arraylength hx (by rw [e2]; exact Ar3.1) (State.isArrayOf_alike hZ.alike Ar3.2.1) (g := (mkF m 23 #[.val (.ref b), .val (.int (4 : Int32)), .val (.ref a2)] [(.ref b), (.int (0 : Int32)), (.ref a2), (.int (0 : Int32)), (.ref b)])) rfl rfl (hb hby d6_23)
  rw [len_of S3 M3] at al3
  refine own_step al3 ?_
  show own_Ends p e below F (T2.setTop (mkF m 24 #[.val (.ref b), .val (.int (4 : Int32)), .val (.ref a2)] [(.int (0 : Int32)), (.int (0 : Int32)), (.ref a2), (.int (0 : Int32)), (.ref b)]))
  refine own_step (fun _ k => XS.iloadN X2.here hx rfl (hb hby d6_24) rfl k) ?_
  show own_Ends p e below F (T2.setTop (mkF m 25 #[.val (.ref b), .val (.int (4 : Int32)), .val (.ref a2)] [(.int (4 : Int32)), (.int (0 : Int32)), (.int (0 : Int32)), (.ref a2), (.int (0 : Int32)), (.ref b)]))
  obtain ⟨_, _, ⟨T4, L4, k4, n4⟩, -, X4, ⟨Lc4, hQ4, l4, y4, z4⟩, st4⟩ := Jvm.LawKit.callS X2 hx (y := (⟨"java/lang/Math", "min", "(II)I"⟩ : MethodName)) hown (mvT hZ (own_g hw 34 rfl)) (mvT hZ (own_g hw 35 rfl)) (mvT hZ (own_g hw 27 rfl)) (mvT hZ (own_g hw 36 rfl)) (by decide) (backOf (W := 4) (rm7 l Z a0 hw [] (0 : Int32) (4 : Int32) h2 n0 Z2) hZ (own_g hw 36 rfl) (own_g hw 27 rfl) (by decide) (by decide)) (g := (mkF m 25 #[.val (.ref b), .val (.int (4 : Int32)), .val (.ref a2)] [(.int (4 : Int32)), (.int (0 : Int32)), (.int (0 : Int32)), (.ref a2), (.int (0 : Int32)), (.ref b)])) rfl (by rw [hml]; rfl) (argsL := [(.int (0 : Int32)), (.int (4 : Int32))]) (rest := [(.int (0 : Int32)), (.ref a2), (.int (0 : Int32)), (.ref b)]) (lenOf pd__28II_29I rfl) rfl (by show 2 * 0 + _ ≤ _; exact Nat.le_of_eq rfl) (hb hby d6_25) (fun _ _ => ⟨rfl, e2, (by decide : 1 + 0 ≤ _), (by decide : 4 + 0 ≤ _)⟩)
  dsimp only [Pt.U, Pt.locs, Pt.cells, Pt.slots] at X4 l4 y4 z4 st4 hQ4
  subst l4 y4 z4
  obtain ⟨rfl, Nq4, eq4⟩ := hQ4
  have N4 := Fr.app N0 Nq4
  refine own_step st4 ?_
  show own_Ends p e below F (T4.setTop (mkF m 28 #[.val (.ref b), .val (.int (4 : Int32)), .val (.ref a2)] [(.int (own_minI (0 : Int32) (4 : Int32))), (.int (0 : Int32)), (.ref a2), (.int (0 : Int32)), (.ref b)]))
  rw [show (own_minI (0 : Int32) (4 : Int32)) = (0 : Int32) from (by first | rfl | decide)]
  show own_Ends p e below F (T4.setTop (mkF m 28 #[.val (.ref b), .val (.int (4 : Int32)), .val (.ref a2)] [(.int (0 : Int32)), (.int (0 : Int32)), (.ref a2), (.int (0 : Int32)), (.ref b)]))
  obtain ⟨T5, h5, L5, X5, e5, N5, K5, V5, st5⟩ := cpA X4 hx hZ hown (own_g hw 37 rfl) (own_g hw 40 rfl) (own_g hw 38 rfl) (own_g hw 39 rfl) eq4 (VB.ext E2) V2 (us := []) (Or.inl ⟨rfl, rfl⟩) (by decide) (by decide) (by decide) (by decide) (by decide) rfl (by decide) N4 ge_a2 (g := (mkF m 28 #[.val (.ref b), .val (.int (4 : Int32)), .val (.ref a2)] [(.int (0 : Int32)), (.int (0 : Int32)), (.ref a2), (.int (0 : Int32)), (.ref b)])) rfl (by rw [hml]; rfl) (rest := []) rfl (hb hby d6_28) (by decide) (W := 0) (by show 2 * 0 + _ ≤ _; exact Nat.le_of_eq rfl) (by decide)
  have V5 : Arv Z h5 a2 k2 .int (4 : Int32) [(.int (0 : Int32)), (.int (0 : Int32)), (.int (0 : Int32)), (.int (0 : Int32))] (.int (0 : Int32)) := V5
  have Z5 : n0 ≤ h5.size := Nat.le_trans Z2 K5.1
  have SZ5 : h0.size ≤ h5.size := Nat.le_trans SZ2 K5.1
  refine own_step st5 ?_
  show own_Ends p e below F (T5.setTop (mkF m 31 #[.val (.ref b), .val (.int (4 : Int32)), .val (.ref a2)] []))
  refine own_step (fun _ k => XS.aloadN X5.here hx rfl (hb hby d6_31) rfl rfl k) ?_
  show own_Ends p e below F (T5.setTop (mkF m 32 #[.val (.ref b), .val (.int (4 : Int32)), .val (.ref a2)] [(.ref a2)]))
  rw [hF]
  exact own_ret X5 (v := (some (.ref a2))) (fun h => by rw [Bd.returns] at h; cases h) Bd.notSynchronized (fun fs hr => retOut X5 hx (t := (.array .int)) (w := (.ref a2)) (i := .areturn) Bd.returns rfl (Or.inr (Or.inr (Or.inr (Or.inr ⟨rfl, rfl, rfl⟩)))) (hb hby d6_32) hr) (by decide) (by decide) (by rw [e5]; exact ⟨_, _, rfl, N5, ((Keep.trans (Keep.ext (Keep.refl _ _) E2) K5 (allS (Or.inr sz_a2) all0)) : Keep h0 h5 []), sz_a2, V5⟩)

theorem d1_0 : decode prog_20_method_1_code 0 = .ok (.aload_n 0, 1) := by decide +kernel
theorem d1_1 : decode prog_20_method_1_code 1 = .ok (.invokespecial 1, 3) := by decide +kernel
theorem d1_4 : decode prog_20_method_1_code 4 = .ok (.aload_n 0, 1) := by decide +kernel
theorem d1_5 : decode prog_20_method_1_code 5 = .ok (.getstatic 7, 3) := by decide +kernel
theorem d1_8 : decode prog_20_method_1_code 8 = .ok (.putfield 13, 3) := by decide +kernel
theorem d1_11 : decode prog_20_method_1_code 11 = .ok (.return_, 1) := by decide +kernel
theorem pn_com_example_concept_reasoner_conceptreasoner_completion_IntList : plainName "com/example/concept_reasoner/conceptreasoner/completion/IntList" = true := by first | (simp [plainName, overriddenIn]; done) | decide +kernel
theorem ef_rm1 (m : MethodId) (x0 : Addr) : entryFrame m #[(.ref x0)] 1 = mkF m 0 #[.val (.ref x0)] [] := by first | (simp [entryFrame, mkF, argsToLocals, Value.category, maxLocals]; done) | rfl
def Q1 (Z : State) (a : Addr) (nn : Addr) (h0 : Heap) (n0 : Nat) (v : Option Value) (h : Heap) (L : List Loc) : Prop := v = none ∧ Fr n0 L ∧ Keep h0 h [a] ∧ Exa Z h a "com/example/concept_reasoner/conceptreasoner/completion/IntList" ∧ Fld Z h a "com/example/concept_reasoner/conceptreasoner/completion/IntList" "values" "[I" (.ref nn) ∧ Fld Z h a "com/example/concept_reasoner/conceptreasoner/completion/IntList" "size" "I" (.int (0 : Int32))
set_option maxRecDepth 65536 in
set_option maxHeartbeats 40000000 in
theorem rm1 (l : Launch) (Z : State) (a0 : Array Value) (hw : ∀ d ∈ tables_1, d.before a0 Z = true) (ws : List Jvm.Cond) (a : Addr) (nn : Addr) (h0 : Heap) (n0 : Nat) (Z0 : n0 ≤ h0.size) (EX : Exa Z h0 a "com/example/concept_reasoner/conceptreasoner/completion/IntList") (ge : n0 ≤ a) (F_values : Fld Z h0 a "com/example/concept_reasoner/conceptreasoner/completion/IntList" "values" "[I" .null) (F_size : Fld Z h0 a "com/example/concept_reasoner/conceptreasoner/completion/IntList" "size" "I" (.int (0 : Int32))) (SN : Sta Z h0 "com/example/concept_reasoner/conceptreasoner/completion/IntList" "NONE" "[I" (.ref nn)) :
    MetFree l (⟨"com/example/concept_reasoner/conceptreasoner/completion/IntList", "<init>", "()V"⟩ : MethodName) (head1 (Jvm.Cond.code (⟨"com/example/concept_reasoner/conceptreasoner/completion/IntList", "<init>", "()V"⟩ : MethodName) prog_20_method_1_code 1 none :: ws) ({ frames := 1, cells := 0, slots := 0, locals := 12 } : Room)) (fun ar U => ar = #[(.ref a)] ∧ Z.Warmed39 U.vm ∧ U.heap = h0) (fun _ _ _ _ _ => True) (fun _ U o U' => ∃ v L, o = .returned v ∧ Q1 Z a nn h0 n0 v U'.heap L ∧ FrameEnd U o U' L ({ frames := 1, cells := 0, slots := 0, locals := 12 } : Room).cells ({ frames := 1, cells := 0, slots := 0, locals := 12 } : Room).slots) := by
  refine MetFree.of_bodySF (plainFor_of_name pn_com_example_concept_reasoner_conceptreasoner_completion_IntList) hisR ?_
  intro p e s m args below meth c s₁ Bd hml0 hP hK
  obtain ⟨rfl, hZ, hh⟩ := hP
  have hx := Bd.exec
  have hby := Bd.bytes
  have hml : c.maxLocals = 1 := hml0
  have hown : s.vm.findClass "com/example/concept_reasoner/conceptreasoner/completion/IntList" = some m.cls := findClass_of_methodNamed Bd.named
  have hnm := (name_of_methodNamed Bd.named Bd.method).1
  have X0 : Stand p l e ({ frames := 1, cells := 0, slots := 0, locals := 12 } : Room) s m #[(.ref a)] below meth c s₁ [] 0 0 := Stand.of_body Bd
  have e0 : s₁.heap = h0 := by rw [← hh, Bd.state]; rfl
  have N0 := Fr.nil n0
  obtain ⟨F, hF⟩ : ∃ F, F = own_Fin s (Q1 Z a nn h0 n0) ({ frames := 1, cells := 0, slots := 0, locals := 12 } : Room).cells ({ frames := 1, cells := 0, slots := 0, locals := 12 } : Room).slots := ⟨_, rfl⟩
  show own_Ends p e below (own_Fin s (Q1 Z a nn h0 n0) ({ frames := 1, cells := 0, slots := 0, locals := 12 } : Room).cells ({ frames := 1, cells := 0, slots := 0, locals := 12 } : Room).slots) _
  rw [← hF, ef_rm1 m a]
  show own_Ends p e below F (s₁.setTop (mkF m 0 #[.val (.ref a)] []))
  refine own_step (fun _ k => XS.aloadN X0.here hx rfl (hb hby d1_0) rfl rfl k) ?_
  show own_Ends p e below F (s₁.setTop (mkF m 1 #[.val (.ref a)] [(.ref a)]))
  obtain ⟨T1, X1, e1, st1⟩ := initO X0 hx hZ hown (own_g hw 6 rfl) (own_g hw 7 rfl) (own_g hw 8 rfl) e0 (g := (mkF m 1 #[.val (.ref a)] [(.ref a)])) rfl (by rw [hml]; rfl) rfl (hb hby d1_1) (by decide) (W := 0) (by show 2 * 0 + _ ≤ _; exact Nat.le_of_eq rfl) (by decide)
  refine own_step st1 ?_
  show own_Ends p e below F (T1.setTop (mkF m 4 #[.val (.ref a)] []))
  refine own_step (fun _ k => XS.aloadN X1.here hx rfl (hb hby d1_4) rfl rfl k) ?_
  show own_Ends p e below F (T1.setTop (mkF m 5 #[.val (.ref a)] [(.ref a)]))
  obtain ⟨T2, X2, e2, st2⟩ := getS2 X1 hx hZ hown (host := "") (Or.inl (own_g hw 9 rfl)) Via.refl e1 SN (g := (mkF m 5 #[.val (.ref a)] [(.ref a)])) rfl (hb hby d1_5)
  refine own_step st2 ?_
  show own_Ends p e below F (T2.setTop (mkF m 8 #[.val (.ref a)] [(.ref nn), (.ref a)]))
  obtain ⟨T3, h3, X3, e3, W3, st3⟩ := putF X2 hx hZ hown (host := "") (Or.inl (own_g hw 11 rfl)) Via.refl e2 F_values EX (Or.inl (own_g hw 12 rfl)) (own_g hw 1 rfl) (ty := (.array .int)) (by decide) rfl rfl (g := (mkF m 8 #[.val (.ref a)] [(.ref nn), (.ref a)])) rfl rfl (hb hby d1_8)
  refine own_step st3 ?_
  have F3 := Fld.same W3 F_values
  have N3 := Fr.snoc X3 N0 ge
  have Z3 : n0 ≤ h3.size := by rw [W3.size]; exact Z0
  have SZ3 : h0.size ≤ h3.size := by rw [W3.size]; exact (Nat.le_refl h0.size)
  show own_Ends p e below F (T3.setTop (mkF m 11 #[.val (.ref a)] []))
  rw [hF]
  exact own_ret X3 (v := none) (fun _ => rfl) Bd.notSynchronized (fun fs hr => X3.returnOut hx Bd.returns (hb hby d1_11) hr) (by decide) (by decide) (by rw [e3]; exact ⟨rfl, N3, ((Keep.wr (Keep.refl _ _) W3 (Or.inl (List.mem_of_getElem? (i := 0) rfl))) : Keep h0 h3 [a]), (EX.wr W3), F3, (Fld.other W3 F_size (Or.inr (slot_ne (t := .int) (t' := (.array .int)) (Or.inl (own_g hw 19 rfl)) (Or.inl (own_g hw 12 rfl)) (by decide) (by decide) (by decide))))⟩)

theorem d3_0 : decode prog_20_method_6_code 0 = .ok (.aload_n 0, 1) := by decide +kernel
theorem d3_1 : decode prog_20_method_6_code 1 = .ok (.getfield 16, 3) := by decide +kernel
theorem d3_4 : decode prog_20_method_6_code 4 = .ok (.ifCond .ne 7, 3) := by decide +kernel
theorem d3_7 : decode prog_20_method_6_code 7 = .ok (.iconst 1, 1) := by decide +kernel
theorem d3_8 : decode prog_20_method_6_code 8 = .ok (.goto 4, 3) := by decide +kernel
theorem d3_11 : decode prog_20_method_6_code 11 = .ok (.iconst 0, 1) := by decide +kernel
theorem d3_12 : decode prog_20_method_6_code 12 = .ok (.ireturn, 1) := by decide +kernel
theorem ef_rm3 (m : MethodId) (x0 : Addr) : entryFrame m #[(.ref x0)] 1 = mkF m 0 #[.val (.ref x0)] [] := by first | (simp [entryFrame, mkF, argsToLocals, Value.category, maxLocals]; done) | rfl
def Q3 (Z : State) (a : Addr) (z : Int32) (h0 : Heap) (n0 : Nat) (v : Option Value) (h : Heap) (L : List Loc) : Prop := v = some (.int (own_emp z)) ∧ Fr n0 L ∧ h = h0
set_option maxRecDepth 65536 in
set_option maxHeartbeats 40000000 in
theorem rm3 (l : Launch) (Z : State) (a0 : Array Value) (hw : ∀ d ∈ tables_1, d.before a0 Z = true) (ws : List Jvm.Cond) (a : Addr) (z : Int32) (h0 : Heap) (n0 : Nat) (Z0 : n0 ≤ h0.size) (FS : Fld Z h0 a "com/example/concept_reasoner/conceptreasoner/completion/IntList" "size" "I" (.int z)) :
    MetFree l (⟨"com/example/concept_reasoner/conceptreasoner/completion/IntList", "isEmpty", "()Z"⟩ : MethodName) (head1 (Jvm.Cond.code (⟨"com/example/concept_reasoner/conceptreasoner/completion/IntList", "isEmpty", "()Z"⟩ : MethodName) prog_20_method_6_code 1 (some .boolean) :: ws) ({ frames := 0, cells := 0, slots := 0, locals := 0 } : Room)) (fun ar U => ar = #[(.ref a)] ∧ Z.Warmed39 U.vm ∧ U.heap = h0) (fun _ _ _ _ _ => True) (fun _ U o U' => ∃ v L, o = .returned v ∧ Q3 Z a z h0 n0 v U'.heap L ∧ FrameEnd U o U' L ({ frames := 0, cells := 0, slots := 0, locals := 0 } : Room).cells ({ frames := 0, cells := 0, slots := 0, locals := 0 } : Room).slots) := by
  refine MetFree.of_bodySF (plainFor_of_name pn_com_example_concept_reasoner_conceptreasoner_completion_IntList) hisR ?_
  intro p e s m args below meth c s₁ Bd hml0 hP hK
  obtain ⟨rfl, hZ, hh⟩ := hP
  have hx := Bd.exec
  have hby := Bd.bytes
  have hml : c.maxLocals = 1 := hml0
  have hown : s.vm.findClass "com/example/concept_reasoner/conceptreasoner/completion/IntList" = some m.cls := findClass_of_methodNamed Bd.named
  have hnm := (name_of_methodNamed Bd.named Bd.method).1
  have X0 : Stand p l e ({ frames := 0, cells := 0, slots := 0, locals := 0 } : Room) s m #[(.ref a)] below meth c s₁ [] 0 0 := Stand.of_body Bd
  have e0 : s₁.heap = h0 := by rw [← hh, Bd.state]; rfl
  have N0 := Fr.nil n0
  obtain ⟨F, hF⟩ : ∃ F, F = own_Fin s (Q3 Z a z h0 n0) ({ frames := 0, cells := 0, slots := 0, locals := 0 } : Room).cells ({ frames := 0, cells := 0, slots := 0, locals := 0 } : Room).slots := ⟨_, rfl⟩
  show own_Ends p e below (own_Fin s (Q3 Z a z h0 n0) ({ frames := 0, cells := 0, slots := 0, locals := 0 } : Room).cells ({ frames := 0, cells := 0, slots := 0, locals := 0 } : Room).slots) _
  rw [← hF, ef_rm3 m a]
  show own_Ends p e below F (s₁.setTop (mkF m 0 #[.val (.ref a)] []))
  refine own_step (fun _ k => XS.aloadN X0.here hx rfl (hb hby d3_0) rfl rfl k) ?_
  show own_Ends p e below F (s₁.setTop (mkF m 1 #[.val (.ref a)] [(.ref a)]))
  obtain ⟨T1, X1, e1, st1⟩ := getF X0 hx hZ hown (host := "") (Or.inl (own_g hw 18 rfl)) Via.refl e0 FS (g := (mkF m 1 #[.val (.ref a)] [(.ref a)])) rfl rfl (hb hby d3_1)
  refine own_step st1 ?_
  show own_Ends p e below F (T1.setTop (mkF m 4 #[.val (.ref a)] [(.int z)]))
  by_cases c4_2 : z = (0 : Int32)
  · refine own_step (fun _ k => XS.ifNo X1.here hx rfl (hb hby d3_4) rfl ((if0 _ _).trans (teq c4_2).2) k) ?_
    show own_Ends p e below F (T1.setTop (mkF m 7 #[.val (.ref a)] []))
    refine own_step (fun _ k => XS.iconst X1.here hx rfl (hb hby d3_7) k) ?_
    show own_Ends p e below F (T1.setTop (mkF m 8 #[.val (.ref a)] [(.int (1 : Int32))]))
    refine own_step (fun _ k => XS.goto X1.here hx rfl (pc0 := 8) (pc' := 12) rfl (hb hby d3_8) (by decide) (by decide) k) ?_
    show own_Ends p e below F (T1.setTop (mkF m 12 #[.val (.ref a)] [(.int (1 : Int32))]))
    rw [hF]
    exact own_ret X1 (v := (some (.int (nar .boolean (1 : Int32))))) (fun h => by rw [Bd.returns] at h; cases h) Bd.notSynchronized (fun fs hr => retN X1 hx (t := .boolean) Bd.returns (by simp) (hb hby d3_12) hr) (by decide) (by decide) (by rw [e1]; exact ⟨by simp only [own_emp, c4_2, if_true, if_false]; rfl, N0, rfl⟩)
  · refine own_step (fun _ k => XS.ifYes X1.here hx rfl (pc0 := 4) (pc' := 11) rfl (hb hby d3_4) rfl ((if0 _ _).trans (feq c4_2).2) (by decide) (by decide) k) ?_
    show own_Ends p e below F (T1.setTop (mkF m 11 #[.val (.ref a)] []))
    refine own_step (fun _ k => XS.iconst X1.here hx rfl (hb hby d3_11) k) ?_
    show own_Ends p e below F (T1.setTop (mkF m 12 #[.val (.ref a)] [(.int (0 : Int32))]))
    rw [hF]
    exact own_ret X1 (v := (some (.int (nar .boolean (0 : Int32))))) (fun h => by rw [Bd.returns] at h; cases h) Bd.notSynchronized (fun fs hr => retN X1 hx (t := .boolean) Bd.returns (by simp) (hb hby d3_12) hr) (by decide) (by decide) (by rw [e1]; exact ⟨by simp only [own_emp, c4_2, if_true, if_false]; rfl, N0, rfl⟩)

theorem d4_0 : decode prog_20_method_2_code 0 = .ok (.aload_n 0, 1) := by decide +kernel
theorem d4_1 : decode prog_20_method_2_code 1 = .ok (.getfield 16, 3) := by decide +kernel
theorem d4_4 : decode prog_20_method_2_code 4 = .ok (.aload_n 0, 1) := by decide +kernel
theorem d4_5 : decode prog_20_method_2_code 5 = .ok (.getfield 13, 3) := by decide +kernel
theorem d4_8 : decode prog_20_method_2_code 8 = .ok (.arraylength, 1) := by decide +kernel
theorem d4_9 : decode prog_20_method_2_code 9 = .ok (.if_icmp .ne 24, 3) := by decide +kernel
theorem d4_12 : decode prog_20_method_2_code 12 = .ok (.aload_n 0, 1) := by decide +kernel
theorem d4_13 : decode prog_20_method_2_code 13 = .ok (.aload_n 0, 1) := by decide +kernel
theorem d4_14 : decode prog_20_method_2_code 14 = .ok (.getfield 13, 3) := by decide +kernel
theorem d4_17 : decode prog_20_method_2_code 17 = .ok (.iconst 4, 1) := by decide +kernel
theorem d4_18 : decode prog_20_method_2_code 18 = .ok (.aload_n 0, 1) := by decide +kernel
theorem d4_19 : decode prog_20_method_2_code 19 = .ok (.getfield 16, 3) := by decide +kernel
theorem d4_22 : decode prog_20_method_2_code 22 = .ok (.iconst 2, 1) := by decide +kernel
theorem d4_23 : decode prog_20_method_2_code 23 = .ok (.imul, 1) := by decide +kernel
theorem d4_24 : decode prog_20_method_2_code 24 = .ok (.invokestatic 20, 3) := by decide +kernel
theorem d4_27 : decode prog_20_method_2_code 27 = .ok (.invokestatic 26, 3) := by decide +kernel
theorem d4_30 : decode prog_20_method_2_code 30 = .ok (.putfield 13, 3) := by decide +kernel
theorem d4_33 : decode prog_20_method_2_code 33 = .ok (.aload_n 0, 1) := by decide +kernel
theorem d4_34 : decode prog_20_method_2_code 34 = .ok (.getfield 13, 3) := by decide +kernel
theorem d4_37 : decode prog_20_method_2_code 37 = .ok (.aload_n 0, 1) := by decide +kernel
theorem d4_38 : decode prog_20_method_2_code 38 = .ok (.getfield 16, 3) := by decide +kernel
theorem d4_41 : decode prog_20_method_2_code 41 = .ok (.iload_n 1, 1) := by decide +kernel
theorem d4_42 : decode prog_20_method_2_code 42 = .ok (.iastore, 1) := by decide +kernel
theorem d4_43 : decode prog_20_method_2_code 43 = .ok (.aload_n 0, 1) := by decide +kernel
theorem d4_44 : decode prog_20_method_2_code 44 = .ok (.dup, 1) := by decide +kernel
theorem d4_45 : decode prog_20_method_2_code 45 = .ok (.getfield 16, 3) := by decide +kernel
theorem d4_48 : decode prog_20_method_2_code 48 = .ok (.iconst 1, 1) := by decide +kernel
theorem d4_49 : decode prog_20_method_2_code 49 = .ok (.iadd, 1) := by decide +kernel
theorem d4_50 : decode prog_20_method_2_code 50 = .ok (.putfield 16, 3) := by decide +kernel
theorem d4_53 : decode prog_20_method_2_code 53 = .ok (.return_, 1) := by decide +kernel
theorem pd__28_5bII_29_5bI : parseMethodDescriptor "([II)[I" = some ⟨[(.array .int), .int], some (.array .int)⟩ := by decide +kernel
theorem ef_rm4a (m : MethodId) (x0 : Addr) (x1 : Int32) : entryFrame m #[(.ref x0), (.int x1)] 2 = mkF m 0 #[.val (.ref x0), .val (.int x1)] [] := by first | (simp [entryFrame, mkF, argsToLocals, Value.category, maxLocals]; done) | rfl
def Q4a (Z : State) (a b : Addr) (p1 : Int32) (kb : ClassId) (h0 : Heap) (n0 : Nat) (v : Option Value) (h : Heap) (L : List Loc) : Prop := ∃ c k, v = none ∧ Fr n0 L ∧ Keep h0 h [a] ∧ h0.size ≤ c ∧ Exa Z h a "com/example/concept_reasoner/conceptreasoner/completion/IntList" ∧ Fld Z h a "com/example/concept_reasoner/conceptreasoner/completion/IntList" "size" "I" (.int (1 : Int32)) ∧ Fld Z h a "com/example/concept_reasoner/conceptreasoner/completion/IntList" "values" "[I" (.ref c) ∧ Arv Z h c k .int (4 : Int32) [(.int p1), (.int (0 : Int32)), (.int (0 : Int32)), (.int (0 : Int32))] (.int (0 : Int32))
set_option maxRecDepth 65536 in
set_option maxHeartbeats 40000000 in
theorem rm4a (l : Launch) (Z : State) (a0 : Array Value) (hw : ∀ d ∈ tables_1, d.before a0 Z = true) (ws : List Jvm.Cond) (a b : Addr) (p1 : Int32) (kb : ClassId) (h0 : Heap) (n0 : Nat) (Z0 : n0 ≤ h0.size) (EX : Exa Z h0 a "com/example/concept_reasoner/conceptreasoner/completion/IntList") (ge : n0 ≤ a) (FS : Fld Z h0 a "com/example/concept_reasoner/conceptreasoner/completion/IntList" "size" "I" (.int (0 : Int32))) (FV : Fld Z h0 a "com/example/concept_reasoner/conceptreasoner/completion/IntList" "values" "[I" (.ref b)) (VB : Arv Z h0 b kb .int (0 : Int32) [] (.int (0 : Int32))) (ne : b ≠ a) :
    MetFree l (⟨"com/example/concept_reasoner/conceptreasoner/completion/IntList", "add", "(I)V"⟩ : MethodName) (head1 (Jvm.Cond.code (⟨"com/example/concept_reasoner/conceptreasoner/completion/IntList", "add", "(I)V"⟩ : MethodName) prog_20_method_2_code 2 none :: ws) ({ frames := 2, cells := 1, slots := 4, locals := 33 } : Room)) (fun ar U => ar = #[(.ref a), (.int p1)] ∧ Z.Warmed39 U.vm ∧ U.heap = h0) (fun _ _ _ _ _ => True) (fun _ U o U' => ∃ v L, o = .returned v ∧ Q4a Z a b p1 kb h0 n0 v U'.heap L ∧ FrameEnd U o U' L ({ frames := 2, cells := 1, slots := 4, locals := 33 } : Room).cells ({ frames := 2, cells := 1, slots := 4, locals := 33 } : Room).slots) := by
  refine MetFree.of_bodySF (plainFor_of_name pn_com_example_concept_reasoner_conceptreasoner_completion_IntList) hisR ?_
  intro p e s m args below meth c s₁ Bd hml0 hP hK
  obtain ⟨rfl, hZ, hh⟩ := hP
  have hx := Bd.exec
  have hby := Bd.bytes
  have hml : c.maxLocals = 2 := hml0
  have hown : s.vm.findClass "com/example/concept_reasoner/conceptreasoner/completion/IntList" = some m.cls := findClass_of_methodNamed Bd.named
  have hnm := (name_of_methodNamed Bd.named Bd.method).1
  have X0 : Stand p l e ({ frames := 2, cells := 1, slots := 4, locals := 33 } : Room) s m #[(.ref a), (.int p1)] below meth c s₁ [] 0 0 := Stand.of_body Bd
  have e0 : s₁.heap = h0 := by rw [← hh, Bd.state]; rfl
  have N0 := Fr.nil n0
  obtain ⟨F, hF⟩ : ∃ F, F = own_Fin s (Q4a Z a b p1 kb h0 n0) ({ frames := 2, cells := 1, slots := 4, locals := 33 } : Room).cells ({ frames := 2, cells := 1, slots := 4, locals := 33 } : Room).slots := ⟨_, rfl⟩
  show own_Ends p e below (own_Fin s (Q4a Z a b p1 kb h0 n0) ({ frames := 2, cells := 1, slots := 4, locals := 33 } : Room).cells ({ frames := 2, cells := 1, slots := 4, locals := 33 } : Room).slots) _
  rw [← hF, ef_rm4a m a p1]
  show own_Ends p e below F (s₁.setTop (mkF m 0 #[.val (.ref a), .val (.int p1)] []))
  refine own_step (fun _ k => XS.aloadN X0.here hx rfl (hb hby d4_0) rfl rfl k) ?_
  show own_Ends p e below F (s₁.setTop (mkF m 1 #[.val (.ref a), .val (.int p1)] [(.ref a)]))
  obtain ⟨T1, X1, e1, st1⟩ := getF X0 hx hZ hown (host := "") (Or.inl (own_g hw 18 rfl)) Via.refl e0 FS (g := (mkF m 1 #[.val (.ref a), .val (.int p1)] [(.ref a)])) rfl rfl (hb hby d4_1)
  refine own_step st1 ?_
  show own_Ends p e below F (T1.setTop (mkF m 4 #[.val (.ref a), .val (.int p1)] [(.int (0 : Int32))]))
  refine own_step (fun _ k => XS.aloadN X1.here hx rfl (hb hby d4_4) rfl rfl k) ?_
  show own_Ends p e below F (T1.setTop (mkF m 5 #[.val (.ref a), .val (.int p1)] [(.ref a), (.int (0 : Int32))]))
  obtain ⟨T2, X2, e2, st2⟩ := getF X1 hx hZ hown (host := "") (Or.inl (own_g hw 11 rfl)) Via.refl e1 FV (g := (mkF m 5 #[.val (.ref a), .val (.int p1)] [(.ref a), (.int (0 : Int32))])) rfl rfl (hb hby d4_5)
  refine own_step st2 ?_
  show own_Ends p e below F (T2.setTop (mkF m 8 #[.val (.ref a), .val (.int p1)] [(.ref b), (.int (0 : Int32))]))
  obtain ⟨cl3, Ar3, q3, S3, M3, H3, G3⟩ := id VB
  have al3 := X2.arraylength hx (by rw [e2]; exact Ar3.1) (State.isArrayOf_alike hZ.alike Ar3.2.1) (g := (mkF m 8 #[.val (.ref a), .val (.int p1)] [(.ref b), (.int (0 : Int32))])) rfl rfl (hb hby d4_8)
  rw [len_of S3 M3] at al3
  refine own_step al3 ?_
  show own_Ends p e below F (T2.setTop (mkF m 9 #[.val (.ref a), .val (.int p1)] [(.int (0 : Int32)), (.int (0 : Int32))]))
  refine own_step (fun _ k => XS.icmpNo X2.here hx rfl (hb hby d4_9) rfl (teq (by decide : (0 : Int32) = (0 : Int32))).2 k) ?_
  show own_Ends p e below F (T2.setTop (mkF m 12 #[.val (.ref a), .val (.int p1)] []))
  refine own_step (fun _ k => XS.aloadN X2.here hx rfl (hb hby d4_12) rfl rfl k) ?_
  show own_Ends p e below F (T2.setTop (mkF m 13 #[.val (.ref a), .val (.int p1)] [(.ref a)]))
  refine own_step (fun _ k => XS.aloadN X2.here hx rfl (hb hby d4_13) rfl rfl k) ?_
  show own_Ends p e below F (T2.setTop (mkF m 14 #[.val (.ref a), .val (.int p1)] [(.ref a), (.ref a)]))
  obtain ⟨T4, X4, e4, st4⟩ := getF X2 hx hZ hown (host := "") (Or.inl (own_g hw 11 rfl)) Via.refl e2 FV (g := (mkF m 14 #[.val (.ref a), .val (.int p1)] [(.ref a), (.ref a)])) rfl rfl (hb hby d4_14)
  refine own_step st4 ?_
  show own_Ends p e below F (T4.setTop (mkF m 17 #[.val (.ref a), .val (.int p1)] [(.ref b), (.ref a)]))
  refine own_step (fun _ k => XS.iconst X4.here hx rfl (hb hby d4_17) k) ?_
  show own_Ends p e below F (T4.setTop (mkF m 18 #[.val (.ref a), .val (.int p1)] [(.int (4 : Int32)), (.ref b), (.ref a)]))
  refine own_step (fun _ k => XS.aloadN X4.here hx rfl (hb hby d4_18) rfl rfl k) ?_
  show own_Ends p e below F (T4.setTop (mkF m 19 #[.val (.ref a), .val (.int p1)] [(.ref a), (.int (4 : Int32)), (.ref b), (.ref a)]))
  obtain ⟨T5, X5, e5, st5⟩ := getF X4 hx hZ hown (host := "") (Or.inl (own_g hw 18 rfl)) Via.refl e4 FS (g := (mkF m 19 #[.val (.ref a), .val (.int p1)] [(.ref a), (.int (4 : Int32)), (.ref b), (.ref a)])) rfl rfl (hb hby d4_19)
  refine own_step st5 ?_
  show own_Ends p e below F (T5.setTop (mkF m 22 #[.val (.ref a), .val (.int p1)] [(.int (0 : Int32)), (.int (4 : Int32)), (.ref b), (.ref a)]))
  refine own_step (fun _ k => XS.iconst X5.here hx rfl (hb hby d4_22) k) ?_
  show own_Ends p e below F (T5.setTop (mkF m 23 #[.val (.ref a), .val (.int p1)] [(.int (2 : Int32)), (.int (0 : Int32)), (.int (4 : Int32)), (.ref b), (.ref a)]))
  refine own_step (fun _ k => XS.imul X5.here hx rfl (hb hby d4_23) rfl k) ?_
  show own_Ends p e below F (T5.setTop (mkF m 24 #[.val (.ref a), .val (.int p1)] [(.int (0 : Int32)), (.int (4 : Int32)), (.ref b), (.ref a)]))
  obtain ⟨_, _, ⟨T6, L6, k6, n6⟩, -, X6, ⟨Lc6, hQ6, l6, y6, z6⟩, st6⟩ := Jvm.LawKit.callS X5 hx (y := (⟨"java/lang/Math", "max", "(II)I"⟩ : MethodName)) hown (mvT hZ (own_g hw 25 rfl)) (mvT hZ (own_g hw 26 rfl)) (mvT hZ (own_g hw 27 rfl)) (mvT hZ (own_g hw 28 rfl)) (by decide) (backOf (W := 2) (rm5 l Z a0 hw [] (4 : Int32) (0 : Int32) h0 n0 Z0) hZ (own_g hw 28 rfl) (own_g hw 27 rfl) (by decide) (by decide)) (g := (mkF m 24 #[.val (.ref a), .val (.int p1)] [(.int (0 : Int32)), (.int (4 : Int32)), (.ref b), (.ref a)])) rfl (by rw [hml]; rfl) (argsL := [(.int (4 : Int32)), (.int (0 : Int32))]) (rest := [(.ref b), (.ref a)]) (lenOf pd__28II_29I rfl) rfl (by show 2 * 0 + _ ≤ _; exact Nat.le_of_eq rfl) (hb hby d4_24) (fun _ _ => ⟨rfl, e5, (by decide : 0 + 0 ≤ _), (by decide : 0 + 0 ≤ _)⟩)
  dsimp only [Pt.U, Pt.locs, Pt.cells, Pt.slots] at X6 l6 y6 z6 st6 hQ6
  subst l6 y6 z6
  obtain ⟨rfl, Nq6, eq6⟩ := hQ6
  have N6 := Fr.app N0 Nq6
  refine own_step st6 ?_
  show own_Ends p e below F (T6.setTop (mkF m 27 #[.val (.ref a), .val (.int p1)] [(.int (own_maxI (4 : Int32) (0 : Int32))), (.ref b), (.ref a)]))
  rw [show (own_maxI (4 : Int32) (0 : Int32)) = (4 : Int32) from (by first | rfl | decide)]
  show own_Ends p e below F (T6.setTop (mkF m 27 #[.val (.ref a), .val (.int p1)] [(.int (4 : Int32)), (.ref b), (.ref a)]))
  obtain ⟨_, _, ⟨T7, L7, k7, n7⟩, -, X7, ⟨Lc7, hQ7, l7, y7, z7⟩, st7⟩ := Jvm.LawKit.callS X6 hx (y := (⟨"java/util/Arrays", "copyOf", "([II)[I"⟩ : MethodName)) hown (mvT hZ (own_g hw 29 rfl)) (mvT hZ (own_g hw 30 rfl)) (mvT hZ (own_g hw 31 rfl)) (mvT hZ (own_g hw 32 rfl)) (by decide) (backOf (W := 1) (rm6 l Z a0 hw [] b kb h0 n0 Z0 VB) hZ (own_g hw 32 rfl) (own_g hw 31 rfl) (by decide) (by decide)) (g := (mkF m 27 #[.val (.ref a), .val (.int p1)] [(.int (4 : Int32)), (.ref b), (.ref a)])) rfl (by rw [hml]; rfl) (argsL := [(.ref b), (.int (4 : Int32))]) (rest := [(.ref a)]) (lenOf pd__28_5bII_29_5bI rfl) rfl (by show 2 * 0 + _ ≤ _; exact Nat.le_of_eq rfl) (hb hby d4_27) (fun _ _ => ⟨rfl, eq6, (by decide : 0 + 1 ≤ _), (by decide : 0 + 4 ≤ _)⟩)
  dsimp only [Pt.U, Pt.locs, Pt.cells, Pt.slots] at X7 l7 y7 z7 st7 hQ7
  subst l7 y7 z7
  obtain ⟨c7, kc7, rfl, Nq7, Kq7, fq0_7, fq1_7⟩ := hQ7
  have N7 := Fr.app N6 Nq7
  have Z7 : n0 ≤ T7.heap.size := Nat.le_trans Z0 Kq7.1
  have SZ7 : h0.size ≤ T7.heap.size := Nat.le_trans (Nat.le_refl h0.size) Kq7.1
  have ne_a_c7 : a ≠ c7 := Nat.ne_of_lt (Nat.lt_of_lt_of_le (EX).lt fq0_7)
  have ne_b_c7 : b ≠ c7 := Nat.ne_of_lt (Nat.lt_of_lt_of_le (VB).lt fq0_7)
  have ge_c7 : n0 ≤ c7 := Nat.le_trans Z0 fq0_7
  have sz_c7 : h0.size ≤ c7 := Nat.le_trans (Nat.le_refl h0.size) fq0_7
  refine own_step st7 ?_
  show own_Ends p e below F (T7.setTop (mkF m 30 #[.val (.ref a), .val (.int p1)] [(.ref c7), (.ref a)]))
  obtain ⟨T8, h8, X8, e8, W8, st8⟩ := putF X7 hx hZ hown (host := "") (Or.inl (own_g hw 11 rfl)) Via.refl rfl (FV.keep Kq7 nin0) (EX.keep Kq7) (Or.inl (own_g hw 12 rfl)) (own_g hw 1 rfl) (ty := (.array .int)) (by decide) rfl rfl (g := (mkF m 30 #[.val (.ref a), .val (.int p1)] [(.ref c7), (.ref a)])) rfl rfl (hb hby d4_30)
  refine own_step st8 ?_
  have F8 := Fld.same W8 (FV.keep Kq7 nin0)
  have N8 := Fr.snoc X8 N7 ge
  have Z8 : n0 ≤ h8.size := by rw [W8.size]; exact Z7
  have SZ8 : h0.size ≤ h8.size := by rw [W8.size]; exact SZ7
  show own_Ends p e below F (T8.setTop (mkF m 33 #[.val (.ref a), .val (.int p1)] []))
  refine own_step (fun _ k => XS.aloadN X8.here hx rfl (hb hby d4_33) rfl rfl k) ?_
  show own_Ends p e below F (T8.setTop (mkF m 34 #[.val (.ref a), .val (.int p1)] [(.ref a)]))
  obtain ⟨T9, X9, e9, st9⟩ := getF X8 hx hZ hown (host := "") (Or.inl (own_g hw 11 rfl)) Via.refl e8 F8 (g := (mkF m 34 #[.val (.ref a), .val (.int p1)] [(.ref a)])) rfl rfl (hb hby d4_34)
  refine own_step st9 ?_
  show own_Ends p e below F (T9.setTop (mkF m 37 #[.val (.ref a), .val (.int p1)] [(.ref c7)]))
  refine own_step (fun _ k => XS.aloadN X9.here hx rfl (hb hby d4_37) rfl rfl k) ?_
  show own_Ends p e below F (T9.setTop (mkF m 38 #[.val (.ref a), .val (.int p1)] [(.ref a), (.ref c7)]))
  obtain ⟨T10, X10, e10, st10⟩ := getF X9 hx hZ hown (host := "") (Or.inl (own_g hw 18 rfl)) Via.refl e9 (Fld.other W8 (FS.keep Kq7 nin0) (Or.inr (slot_ne (t := .int) (t' := (.array .int)) (Or.inl (own_g hw 19 rfl)) (Or.inl (own_g hw 12 rfl)) (by decide) (by decide) (by decide)))) (g := (mkF m 38 #[.val (.ref a), .val (.int p1)] [(.ref a), (.ref c7)])) rfl rfl (hb hby d4_38)
  refine own_step st10 ?_
  show own_Ends p e below F (T10.setTop (mkF m 41 #[.val (.ref a), .val (.int p1)] [(.int (0 : Int32)), (.ref c7)]))
  refine own_step (fun _ k => XS.iloadN X10.here hx rfl (hb hby d4_41) rfl k) ?_
  show own_Ends p e below F (T10.setTop (mkF m 42 #[.val (.ref a), .val (.int p1)] [(.int p1), (.int (0 : Int32)), (.ref c7)]))
  obtain ⟨cl11, Ar11, q11, S11, M11, H11, G11⟩ := id (fq1_7.other W8 (Ne.symm ne_a_c7))
  have hin11 : ¬ ((0 : Int32) < 0 ∨ cl11.slots.size ≤ ((0 : Int32) : Int32).toNatClampNeg) := inb_of S11 ⟨by decide, by decide⟩
  obtain ⟨T11, h11, X11, e11, W11, st11⟩ := stI X10 hx hZ e10 Ar11 (j := (0 : Int32)) hin11 (g := (mkF m 42 #[.val (.ref a), .val (.int p1)] [(.int p1), (.int (0 : Int32)), (.ref c7)])) rfl rfl (hb hby d4_42)
  have V11 := Arv.set Ar11 q11 S11 M11 H11 G11 rfl W11 0 rfl (Nat.le_of_ble_eq_true rfl)
  have V11 : Arv Z h11 c7 kc7 .int (4 : Int32) [(.int p1), (.int (0 : Int32)), (.int (0 : Int32)), (.int (0 : Int32))] (.int (0 : Int32)) := V11
  refine own_step st11 ?_
  have N11 := Fr.snoc X11 N8 ge_c7
  have Z11 : n0 ≤ h11.size := by rw [W11.size]; exact Z8
  have SZ11 : h0.size ≤ h11.size := by rw [W11.size]; exact SZ8
  show own_Ends p e below F (T11.setTop (mkF m 43 #[.val (.ref a), .val (.int p1)] []))
  refine own_step (fun _ k => XS.aloadN X11.here hx rfl (hb hby d4_43) rfl rfl k) ?_
  show own_Ends p e below F (T11.setTop (mkF m 44 #[.val (.ref a), .val (.int p1)] [(.ref a)]))
  refine own_step (fun _ k => XS.dup X11.here hx rfl (hb hby d4_44) rfl rfl k) ?_
  show own_Ends p e below F (T11.setTop (mkF m 45 #[.val (.ref a), .val (.int p1)] [(.ref a), (.ref a)]))
  obtain ⟨T12, X12, e12, st12⟩ := getF X11 hx hZ hown (host := "") (Or.inl (own_g hw 18 rfl)) Via.refl e11 (Fld.other W11 (Fld.other W8 (FS.keep Kq7 nin0) (Or.inr (slot_ne (t := .int) (t' := (.array .int)) (Or.inl (own_g hw 19 rfl)) (Or.inl (own_g hw 12 rfl)) (by decide) (by decide) (by decide)))) (Or.inl ne_a_c7)) (g := (mkF m 45 #[.val (.ref a), .val (.int p1)] [(.ref a), (.ref a)])) rfl rfl (hb hby d4_45)
  refine own_step st12 ?_
  show own_Ends p e below F (T12.setTop (mkF m 48 #[.val (.ref a), .val (.int p1)] [(.int (0 : Int32)), (.ref a)]))
  refine own_step (fun _ k => XS.iconst X12.here hx rfl (hb hby d4_48) k) ?_
  show own_Ends p e below F (T12.setTop (mkF m 49 #[.val (.ref a), .val (.int p1)] [(.int (1 : Int32)), (.int (0 : Int32)), (.ref a)]))
  refine own_step (fun _ k => XS.iadd X12.here hx rfl (hb hby d4_49) rfl k) ?_
  show own_Ends p e below F (T12.setTop (mkF m 50 #[.val (.ref a), .val (.int p1)] [(.int (1 : Int32)), (.ref a)]))
  obtain ⟨T13, h13, X13, e13, W13, st13⟩ := putF X12 hx hZ hown (host := "") (Or.inl (own_g hw 18 rfl)) Via.refl e12 (Fld.other W11 (Fld.other W8 (FS.keep Kq7 nin0) (Or.inr (slot_ne (t := .int) (t' := (.array .int)) (Or.inl (own_g hw 19 rfl)) (Or.inl (own_g hw 12 rfl)) (by decide) (by decide) (by decide)))) (Or.inl ne_a_c7)) (((EX.keep Kq7).wr W8).wr W11) (Or.inl (own_g hw 19 rfl)) (own_g hw 1 rfl) (ty := .int) (by decide) rfl rfl (g := (mkF m 50 #[.val (.ref a), .val (.int p1)] [(.int (1 : Int32)), (.ref a)])) rfl rfl (hb hby d4_50)
  refine own_step st13 ?_
  have F13 := Fld.same W13 (Fld.other W11 (Fld.other W8 (FS.keep Kq7 nin0) (Or.inr (slot_ne (t := .int) (t' := (.array .int)) (Or.inl (own_g hw 19 rfl)) (Or.inl (own_g hw 12 rfl)) (by decide) (by decide) (by decide)))) (Or.inl ne_a_c7))
  have N13 := Fr.snoc X13 N11 ge
  have Z13 : n0 ≤ h13.size := by rw [W13.size]; exact Z11
  have SZ13 : h0.size ≤ h13.size := by rw [W13.size]; exact SZ11
  show own_Ends p e below F (T13.setTop (mkF m 53 #[.val (.ref a), .val (.int p1)] []))
  rw [hF]
  exact own_ret X13 (v := none) (fun _ => rfl) Bd.notSynchronized (fun fs hr => X13.returnOut hx Bd.returns (hb hby d4_53) hr) (by decide) (by decide) (by rw [e13]; exact ⟨_, _, rfl, N13, ((Keep.wr (Keep.wr (Keep.wr (Keep.trans (Keep.refl _ _) Kq7 all0) W8 (Or.inl (List.mem_of_getElem? (i := 0) rfl))) W11 (Or.inr sz_c7)) W13 (Or.inl (List.mem_of_getElem? (i := 0) rfl))) : Keep h0 h13 [a]), sz_c7, ((((EX.keep Kq7).wr W8).wr W11).wr W13), F13, (Fld.other W13 (Fld.other W11 F8 (Or.inl ne_a_c7)) (Or.inr (slot_ne (t := (.array .int)) (t' := .int) (Or.inl (own_g hw 12 rfl)) (Or.inl (own_g hw 19 rfl)) (by decide) (by decide) (by decide)))), (V11.other W13 (Ne.symm ne_a_c7))⟩)

theorem ef_rm4b (m : MethodId) (x0 : Addr) (x1 : Int32) : entryFrame m #[(.ref x0), (.int x1)] 2 = mkF m 0 #[.val (.ref x0), .val (.int x1)] [] := by first | (simp [entryFrame, mkF, argsToLocals, Value.category, maxLocals]; done) | rfl
def Q4b (Z : State) (a b : Addr) (p1 z : Int32) (kb : ClassId) (vs : List Value) (h0 : Heap) (n0 : Nat) (v : Option Value) (h : Heap) (L : List Loc) : Prop := v = none ∧ Fr n0 L ∧ Keep h0 h [a, b] ∧ Exa Z h a "com/example/concept_reasoner/conceptreasoner/completion/IntList" ∧ Fld Z h a "com/example/concept_reasoner/conceptreasoner/completion/IntList" "size" "I" (.int (z + (1 : Int32))) ∧ Fld Z h a "com/example/concept_reasoner/conceptreasoner/completion/IntList" "values" "[I" (.ref b) ∧ Arv Z h b kb .int (4 : Int32) (vs.set z.toNatClampNeg (.int p1)) (.int (0 : Int32))
set_option maxRecDepth 65536 in
set_option maxHeartbeats 40000000 in
theorem rm4b (l : Launch) (Z : State) (a0 : Array Value) (hw : ∀ d ∈ tables_1, d.before a0 Z = true) (ws : List Jvm.Cond) (a b : Addr) (p1 z : Int32) (kb : ClassId) (vs : List Value) (h0 : Heap) (n0 : Nat) (Z0 : n0 ≤ h0.size) (EX : Exa Z h0 a "com/example/concept_reasoner/conceptreasoner/completion/IntList") (ge : n0 ≤ a) (FS : Fld Z h0 a "com/example/concept_reasoner/conceptreasoner/completion/IntList" "size" "I" (.int z)) (FV : Fld Z h0 a "com/example/concept_reasoner/conceptreasoner/completion/IntList" "values" "[I" (.ref b)) (VB : Arv Z h0 b kb .int (4 : Int32) vs (.int (0 : Int32))) (ne : b ≠ a) (geb : n0 ≤ b) (hz : ¬ z = (4 : Int32)) (hj : ¬ z < 0 ∧ z < (4 : Int32)) (hl : z.toNatClampNeg < vs.length) :
    MetFree l (⟨"com/example/concept_reasoner/conceptreasoner/completion/IntList", "add", "(I)V"⟩ : MethodName) (head1 (Jvm.Cond.code (⟨"com/example/concept_reasoner/conceptreasoner/completion/IntList", "add", "(I)V"⟩ : MethodName) prog_20_method_2_code 2 none :: ws) ({ frames := 0, cells := 0, slots := 0, locals := 0 } : Room)) (fun ar U => ar = #[(.ref a), (.int p1)] ∧ Z.Warmed39 U.vm ∧ U.heap = h0) (fun _ _ _ _ _ => True) (fun _ U o U' => ∃ v L, o = .returned v ∧ Q4b Z a b p1 z kb vs h0 n0 v U'.heap L ∧ FrameEnd U o U' L ({ frames := 0, cells := 0, slots := 0, locals := 0 } : Room).cells ({ frames := 0, cells := 0, slots := 0, locals := 0 } : Room).slots) := by
  refine MetFree.of_bodySF (plainFor_of_name pn_com_example_concept_reasoner_conceptreasoner_completion_IntList) hisR ?_
  intro p e s m args below meth c s₁ Bd hml0 hP hK
  obtain ⟨rfl, hZ, hh⟩ := hP
  have hx := Bd.exec
  have hby := Bd.bytes
  have hml : c.maxLocals = 2 := hml0
  have hown : s.vm.findClass "com/example/concept_reasoner/conceptreasoner/completion/IntList" = some m.cls := findClass_of_methodNamed Bd.named
  have hnm := (name_of_methodNamed Bd.named Bd.method).1
  have X0 : Stand p l e ({ frames := 0, cells := 0, slots := 0, locals := 0 } : Room) s m #[(.ref a), (.int p1)] below meth c s₁ [] 0 0 := Stand.of_body Bd
  have e0 : s₁.heap = h0 := by rw [← hh, Bd.state]; rfl
  have N0 := Fr.nil n0
  obtain ⟨F, hF⟩ : ∃ F, F = own_Fin s (Q4b Z a b p1 z kb vs h0 n0) ({ frames := 0, cells := 0, slots := 0, locals := 0 } : Room).cells ({ frames := 0, cells := 0, slots := 0, locals := 0 } : Room).slots := ⟨_, rfl⟩
  show own_Ends p e below (own_Fin s (Q4b Z a b p1 z kb vs h0 n0) ({ frames := 0, cells := 0, slots := 0, locals := 0 } : Room).cells ({ frames := 0, cells := 0, slots := 0, locals := 0 } : Room).slots) _
  rw [← hF, ef_rm4b m a p1]
  show own_Ends p e below F (s₁.setTop (mkF m 0 #[.val (.ref a), .val (.int p1)] []))
  refine own_step (fun _ k => XS.aloadN X0.here hx rfl (hb hby d4_0) rfl rfl k) ?_
  show own_Ends p e below F (s₁.setTop (mkF m 1 #[.val (.ref a), .val (.int p1)] [(.ref a)]))
  obtain ⟨T1, X1, e1, st1⟩ := getF X0 hx hZ hown (host := "") (Or.inl (own_g hw 18 rfl)) Via.refl e0 FS (g := (mkF m 1 #[.val (.ref a), .val (.int p1)] [(.ref a)])) rfl rfl (hb hby d4_1)
  refine own_step st1 ?_
  show own_Ends p e below F (T1.setTop (mkF m 4 #[.val (.ref a), .val (.int p1)] [(.int z)]))
  refine own_step (fun _ k => XS.aloadN X1.here hx rfl (hb hby d4_4) rfl rfl k) ?_
  show own_Ends p e below F (T1.setTop (mkF m 5 #[.val (.ref a), .val (.int p1)] [(.ref a), (.int z)]))
  obtain ⟨T2, X2, e2, st2⟩ := getF X1 hx hZ hown (host := "") (Or.inl (own_g hw 11 rfl)) Via.refl e1 FV (g := (mkF m 5 #[.val (.ref a), .val (.int p1)] [(.ref a), (.int z)])) rfl rfl (hb hby d4_5)
  refine own_step st2 ?_
  show own_Ends p e below F (T2.setTop (mkF m 8 #[.val (.ref a), .val (.int p1)] [(.ref b), (.int z)]))
  obtain ⟨cl3, Ar3, q3, S3, M3, H3, G3⟩ := id VB
  have al3 := X2.arraylength hx (by rw [e2]; exact Ar3.1) (State.isArrayOf_alike hZ.alike Ar3.2.1) (g := (mkF m 8 #[.val (.ref a), .val (.int p1)] [(.ref b), (.int z)])) rfl rfl (hb hby d4_8)
  rw [len_of S3 M3] at al3
  refine own_step al3 ?_
  show own_Ends p e below F (T2.setTop (mkF m 9 #[.val (.ref a), .val (.int p1)] [(.int (4 : Int32)), (.int z)]))
  refine own_step (fun _ k => XS.icmpYes X2.here hx rfl (pc0 := 9) (pc' := 33) rfl (hb hby d4_9) rfl (feq (hz : ¬ (z = (4 : Int32)))).2 (by decide) (by decide) k) ?_
  show own_Ends p e below F (T2.setTop (mkF m 33 #[.val (.ref a), .val (.int p1)] []))
  refine own_step (fun _ k => XS.aloadN X2.here hx rfl (hb hby d4_33) rfl rfl k) ?_
  show own_Ends p e below F (T2.setTop (mkF m 34 #[.val (.ref a), .val (.int p1)] [(.ref a)]))
  obtain ⟨T4, X4, e4, st4⟩ := getF X2 hx hZ hown (host := "") (Or.inl (own_g hw 11 rfl)) Via.refl e2 FV (g := (mkF m 34 #[.val (.ref a), .val (.int p1)] [(.ref a)])) rfl rfl (hb hby d4_34)
  refine own_step st4 ?_
  show own_Ends p e below F (T4.setTop (mkF m 37 #[.val (.ref a), .val (.int p1)] [(.ref b)]))
  refine own_step (fun _ k => XS.aloadN X4.here hx rfl (hb hby d4_37) rfl rfl k) ?_
  show own_Ends p e below F (T4.setTop (mkF m 38 #[.val (.ref a), .val (.int p1)] [(.ref a), (.ref b)]))
  obtain ⟨T5, X5, e5, st5⟩ := getF X4 hx hZ hown (host := "") (Or.inl (own_g hw 18 rfl)) Via.refl e4 FS (g := (mkF m 38 #[.val (.ref a), .val (.int p1)] [(.ref a), (.ref b)])) rfl rfl (hb hby d4_38)
  refine own_step st5 ?_
  show own_Ends p e below F (T5.setTop (mkF m 41 #[.val (.ref a), .val (.int p1)] [(.int z), (.ref b)]))
  refine own_step (fun _ k => XS.iloadN X5.here hx rfl (hb hby d4_41) rfl k) ?_
  show own_Ends p e below F (T5.setTop (mkF m 42 #[.val (.ref a), .val (.int p1)] [(.int p1), (.int z), (.ref b)]))
  obtain ⟨cl6, Ar6, q6, S6, M6, H6, G6⟩ := id VB
  have hin6 : ¬ (z < 0 ∨ cl6.slots.size ≤ (z : Int32).toNatClampNeg) := inb_of S6 hj
  obtain ⟨T6, h6, X6, e6, W6, st6⟩ := stI X5 hx hZ e5 Ar6 (j := z) hin6 (g := (mkF m 42 #[.val (.ref a), .val (.int p1)] [(.int p1), (.int z), (.ref b)])) rfl rfl (hb hby d4_42)
  have V6 : Arv Z h6 b kb .int (4 : Int32) (vs.set z.toNatClampNeg (.int p1)) (.int (0 : Int32)) := Arv.set Ar6 q6 S6 M6 H6 G6 rfl W6 _ rfl hl
  refine own_step st6 ?_
  have N6 := Fr.snoc X6 N0 geb
  have Z6 : n0 ≤ h6.size := by rw [W6.size]; exact Z0
  have SZ6 : h0.size ≤ h6.size := by rw [W6.size]; exact (Nat.le_refl h0.size)
  show own_Ends p e below F (T6.setTop (mkF m 43 #[.val (.ref a), .val (.int p1)] []))
  refine own_step (fun _ k => XS.aloadN X6.here hx rfl (hb hby d4_43) rfl rfl k) ?_
  show own_Ends p e below F (T6.setTop (mkF m 44 #[.val (.ref a), .val (.int p1)] [(.ref a)]))
  refine own_step (fun _ k => XS.dup X6.here hx rfl (hb hby d4_44) rfl rfl k) ?_
  show own_Ends p e below F (T6.setTop (mkF m 45 #[.val (.ref a), .val (.int p1)] [(.ref a), (.ref a)]))
  obtain ⟨T7, X7, e7, st7⟩ := getF X6 hx hZ hown (host := "") (Or.inl (own_g hw 18 rfl)) Via.refl e6 (Fld.other W6 FS (Or.inl (Ne.symm ne))) (g := (mkF m 45 #[.val (.ref a), .val (.int p1)] [(.ref a), (.ref a)])) rfl rfl (hb hby d4_45)
  refine own_step st7 ?_
  show own_Ends p e below F (T7.setTop (mkF m 48 #[.val (.ref a), .val (.int p1)] [(.int z), (.ref a)]))
  refine own_step (fun _ k => XS.iconst X7.here hx rfl (hb hby d4_48) k) ?_
  show own_Ends p e below F (T7.setTop (mkF m 49 #[.val (.ref a), .val (.int p1)] [(.int (1 : Int32)), (.int z), (.ref a)]))
  refine own_step (fun _ k => XS.iadd X7.here hx rfl (hb hby d4_49) rfl k) ?_
  show own_Ends p e below F (T7.setTop (mkF m 50 #[.val (.ref a), .val (.int p1)] [(.int (z + (1 : Int32))), (.ref a)]))
  obtain ⟨T8, h8, X8, e8, W8, st8⟩ := putF X7 hx hZ hown (host := "") (Or.inl (own_g hw 18 rfl)) Via.refl e7 (Fld.other W6 FS (Or.inl (Ne.symm ne))) (EX.wr W6) (Or.inl (own_g hw 19 rfl)) (own_g hw 1 rfl) (ty := .int) (by decide) rfl rfl (g := (mkF m 50 #[.val (.ref a), .val (.int p1)] [(.int (z + (1 : Int32))), (.ref a)])) rfl rfl (hb hby d4_50)
  refine own_step st8 ?_
  have F8 := Fld.same W8 (Fld.other W6 FS (Or.inl (Ne.symm ne)))
  have N8 := Fr.snoc X8 N6 ge
  have Z8 : n0 ≤ h8.size := by rw [W8.size]; exact Z6
  have SZ8 : h0.size ≤ h8.size := by rw [W8.size]; exact SZ6
  show own_Ends p e below F (T8.setTop (mkF m 53 #[.val (.ref a), .val (.int p1)] []))
  rw [hF]
  exact own_ret X8 (v := none) (fun _ => rfl) Bd.notSynchronized (fun fs hr => X8.returnOut hx Bd.returns (hb hby d4_53) hr) (by decide) (by decide) (by rw [e8]; exact ⟨rfl, N8, ((Keep.wr (Keep.wr (Keep.refl _ _) W6 (Or.inl (List.mem_of_getElem? (i := 1) rfl))) W8 (Or.inl (List.mem_of_getElem? (i := 0) rfl))) : Keep h0 h8 [a, b]), ((EX.wr W6).wr W8), F8, (Fld.other W8 (Fld.other W6 FV (Or.inl (Ne.symm ne))) (Or.inr (slot_ne (t := (.array .int)) (t' := .int) (Or.inl (own_g hw 12 rfl)) (Or.inl (own_g hw 19 rfl)) (by decide) (by decide) (by decide)))), (V6.other W8 ne)⟩)

theorem d8_0 : decode prog_20_method_7_code 0 = .ok (.aload_n 0, 1) := by decide +kernel
theorem d8_1 : decode prog_20_method_7_code 1 = .ok (.getfield 16, 3) := by decide +kernel
theorem d8_4 : decode prog_20_method_7_code 4 = .ok (.ifCond .ne 13, 3) := by decide +kernel
theorem d8_17 : decode prog_20_method_7_code 17 = .ok (.aload_n 0, 1) := by decide +kernel
theorem d8_18 : decode prog_20_method_7_code 18 = .ok (.dup, 1) := by decide +kernel
theorem d8_19 : decode prog_20_method_7_code 19 = .ok (.getfield 16, 3) := by decide +kernel
theorem d8_22 : decode prog_20_method_7_code 22 = .ok (.iconst 1, 1) := by decide +kernel
theorem d8_23 : decode prog_20_method_7_code 23 = .ok (.isub, 1) := by decide +kernel
theorem d8_24 : decode prog_20_method_7_code 24 = .ok (.putfield 16, 3) := by decide +kernel
theorem d8_27 : decode prog_20_method_7_code 27 = .ok (.aload_n 0, 1) := by decide +kernel
theorem d8_28 : decode prog_20_method_7_code 28 = .ok (.getfield 13, 3) := by decide +kernel
theorem d8_31 : decode prog_20_method_7_code 31 = .ok (.aload_n 0, 1) := by decide +kernel
theorem d8_32 : decode prog_20_method_7_code 32 = .ok (.getfield 16, 3) := by decide +kernel
theorem d8_35 : decode prog_20_method_7_code 35 = .ok (.iaload, 1) := by decide +kernel
theorem d8_36 : decode prog_20_method_7_code 36 = .ok (.ireturn, 1) := by decide +kernel
theorem ef_rm8 (m : MethodId) (x0 : Addr) : entryFrame m #[(.ref x0)] 1 = mkF m 0 #[.val (.ref x0)] [] := by first | (simp [entryFrame, mkF, argsToLocals, Value.category, maxLocals]; done) | rfl
def Q8 (Z : State) (a b : Addr) (z y : Int32) (kb : ClassId) (vs : List Value) (h0 : Heap) (n0 : Nat) (v : Option Value) (h : Heap) (L : List Loc) : Prop := v = some (.int y) ∧ Fr n0 L ∧ Keep h0 h [a] ∧ Exa Z h a "com/example/concept_reasoner/conceptreasoner/completion/IntList" ∧ Fld Z h a "com/example/concept_reasoner/conceptreasoner/completion/IntList" "size" "I" (.int (z - (1 : Int32))) ∧ Fld Z h a "com/example/concept_reasoner/conceptreasoner/completion/IntList" "values" "[I" (.ref b)
set_option maxRecDepth 65536 in
set_option maxHeartbeats 40000000 in
theorem rm8 (l : Launch) (Z : State) (a0 : Array Value) (hw : ∀ d ∈ tables_1, d.before a0 Z = true) (ws : List Jvm.Cond) (a b : Addr) (z y : Int32) (kb : ClassId) (vs : List Value) (h0 : Heap) (n0 : Nat) (Z0 : n0 ≤ h0.size) (EX : Exa Z h0 a "com/example/concept_reasoner/conceptreasoner/completion/IntList") (ge : n0 ≤ a) (FS : Fld Z h0 a "com/example/concept_reasoner/conceptreasoner/completion/IntList" "size" "I" (.int z)) (FV : Fld Z h0 a "com/example/concept_reasoner/conceptreasoner/completion/IntList" "values" "[I" (.ref b)) (VB : Arv Z h0 b kb .int (4 : Int32) vs (.int (0 : Int32))) (ne : b ≠ a) (hz : ¬ z = (0 : Int32)) (hj : ¬ (z - (1 : Int32)) < 0 ∧ (z - (1 : Int32)) < (4 : Int32)) (hy : vs.getD (z - (1 : Int32)).toNatClampNeg (.int (0 : Int32)) = .int y) :
    MetFree l (⟨"com/example/concept_reasoner/conceptreasoner/completion/IntList", "removeLast", "()I"⟩ : MethodName) (head1 (Jvm.Cond.code (⟨"com/example/concept_reasoner/conceptreasoner/completion/IntList", "removeLast", "()I"⟩ : MethodName) prog_20_method_7_code 1 (some .int) :: ws) ({ frames := 0, cells := 0, slots := 0, locals := 0 } : Room)) (fun ar U => ar = #[(.ref a)] ∧ Z.Warmed39 U.vm ∧ U.heap = h0) (fun _ _ _ _ _ => True) (fun _ U o U' => ∃ v L, o = .returned v ∧ Q8 Z a b z y kb vs h0 n0 v U'.heap L ∧ FrameEnd U o U' L ({ frames := 0, cells := 0, slots := 0, locals := 0 } : Room).cells ({ frames := 0, cells := 0, slots := 0, locals := 0 } : Room).slots) := by
  refine MetFree.of_bodySF (plainFor_of_name pn_com_example_concept_reasoner_conceptreasoner_completion_IntList) hisR ?_
  intro p e s m args below meth c s₁ Bd hml0 hP hK
  obtain ⟨rfl, hZ, hh⟩ := hP
  have hx := Bd.exec
  have hby := Bd.bytes
  have hml : c.maxLocals = 1 := hml0
  have hown : s.vm.findClass "com/example/concept_reasoner/conceptreasoner/completion/IntList" = some m.cls := findClass_of_methodNamed Bd.named
  have hnm := (name_of_methodNamed Bd.named Bd.method).1
  have X0 : Stand p l e ({ frames := 0, cells := 0, slots := 0, locals := 0 } : Room) s m #[(.ref a)] below meth c s₁ [] 0 0 := Stand.of_body Bd
  have e0 : s₁.heap = h0 := by rw [← hh, Bd.state]; rfl
  have N0 := Fr.nil n0
  obtain ⟨F, hF⟩ : ∃ F, F = own_Fin s (Q8 Z a b z y kb vs h0 n0) ({ frames := 0, cells := 0, slots := 0, locals := 0 } : Room).cells ({ frames := 0, cells := 0, slots := 0, locals := 0 } : Room).slots := ⟨_, rfl⟩
  show own_Ends p e below (own_Fin s (Q8 Z a b z y kb vs h0 n0) ({ frames := 0, cells := 0, slots := 0, locals := 0 } : Room).cells ({ frames := 0, cells := 0, slots := 0, locals := 0 } : Room).slots) _
  rw [← hF, ef_rm8 m a]
  show own_Ends p e below F (s₁.setTop (mkF m 0 #[.val (.ref a)] []))
  refine own_step (fun _ k => XS.aloadN X0.here hx rfl (hb hby d8_0) rfl rfl k) ?_
  show own_Ends p e below F (s₁.setTop (mkF m 1 #[.val (.ref a)] [(.ref a)]))
  obtain ⟨T1, X1, e1, st1⟩ := getF X0 hx hZ hown (host := "") (Or.inl (own_g hw 18 rfl)) Via.refl e0 FS (g := (mkF m 1 #[.val (.ref a)] [(.ref a)])) rfl rfl (hb hby d8_1)
  refine own_step st1 ?_
  show own_Ends p e below F (T1.setTop (mkF m 4 #[.val (.ref a)] [(.int z)]))
  refine own_step (fun _ k => XS.ifYes X1.here hx rfl (pc0 := 4) (pc' := 17) rfl (hb hby d8_4) rfl ((if0 _ _).trans (feq (hz : ¬ (z = (0 : Int32)))).2) (by decide) (by decide) k) ?_
  show own_Ends p e below F (T1.setTop (mkF m 17 #[.val (.ref a)] []))
  refine own_step (fun _ k => XS.aloadN X1.here hx rfl (hb hby d8_17) rfl rfl k) ?_
  show own_Ends p e below F (T1.setTop (mkF m 18 #[.val (.ref a)] [(.ref a)]))
  refine own_step (fun _ k => XS.dup X1.here hx rfl (hb hby d8_18) rfl rfl k) ?_
  show own_Ends p e below F (T1.setTop (mkF m 19 #[.val (.ref a)] [(.ref a), (.ref a)]))
  obtain ⟨T2, X2, e2, st2⟩ := getF X1 hx hZ hown (host := "") (Or.inl (own_g hw 18 rfl)) Via.refl e1 FS (g := (mkF m 19 #[.val (.ref a)] [(.ref a), (.ref a)])) rfl rfl (hb hby d8_19)
  refine own_step st2 ?_
  show own_Ends p e below F (T2.setTop (mkF m 22 #[.val (.ref a)] [(.int z), (.ref a)]))
  refine own_step (fun _ k => XS.iconst X2.here hx rfl (hb hby d8_22) k) ?_
  show own_Ends p e below F (T2.setTop (mkF m 23 #[.val (.ref a)] [(.int (1 : Int32)), (.int z), (.ref a)]))
  refine own_step (fun _ k => XS.isub X2.here hx rfl (hb hby d8_23) rfl k) ?_
  show own_Ends p e below F (T2.setTop (mkF m 24 #[.val (.ref a)] [(.int (z - (1 : Int32))), (.ref a)]))
  obtain ⟨T3, h3, X3, e3, W3, st3⟩ := putF X2 hx hZ hown (host := "") (Or.inl (own_g hw 18 rfl)) Via.refl e2 FS EX (Or.inl (own_g hw 19 rfl)) (own_g hw 1 rfl) (ty := .int) (by decide) rfl rfl (g := (mkF m 24 #[.val (.ref a)] [(.int (z - (1 : Int32))), (.ref a)])) rfl rfl (hb hby d8_24)
  refine own_step st3 ?_
  have F3 := Fld.same W3 FS
  have N3 := Fr.snoc X3 N0 ge
  have Z3 : n0 ≤ h3.size := by rw [W3.size]; exact Z0
  have SZ3 : h0.size ≤ h3.size := by rw [W3.size]; exact (Nat.le_refl h0.size)
  show own_Ends p e below F (T3.setTop (mkF m 27 #[.val (.ref a)] []))
  refine own_step (fun _ k => XS.aloadN X3.here hx rfl (hb hby d8_27) rfl rfl k) ?_
  show own_Ends p e below F (T3.setTop (mkF m 28 #[.val (.ref a)] [(.ref a)]))
  obtain ⟨T4, X4, e4, st4⟩ := getF X3 hx hZ hown (host := "") (Or.inl (own_g hw 11 rfl)) Via.refl e3 (Fld.other W3 FV (Or.inr (slot_ne (t := (.array .int)) (t' := .int) (Or.inl (own_g hw 12 rfl)) (Or.inl (own_g hw 19 rfl)) (by decide) (by decide) (by decide)))) (g := (mkF m 28 #[.val (.ref a)] [(.ref a)])) rfl rfl (hb hby d8_28)
  refine own_step st4 ?_
  show own_Ends p e below F (T4.setTop (mkF m 31 #[.val (.ref a)] [(.ref b)]))
  refine own_step (fun _ k => XS.aloadN X4.here hx rfl (hb hby d8_31) rfl rfl k) ?_
  show own_Ends p e below F (T4.setTop (mkF m 32 #[.val (.ref a)] [(.ref a), (.ref b)]))
  obtain ⟨T5, X5, e5, st5⟩ := getF X4 hx hZ hown (host := "") (Or.inl (own_g hw 18 rfl)) Via.refl e4 F3 (g := (mkF m 32 #[.val (.ref a)] [(.ref a), (.ref b)])) rfl rfl (hb hby d8_32)
  refine own_step st5 ?_
  show own_Ends p e below F (T5.setTop (mkF m 35 #[.val (.ref a)] [(.int (z - (1 : Int32))), (.ref b)]))
  obtain ⟨cl6, Ar6, q6, S6, M6, H6, G6⟩ := id (VB.other W3 ne)
  have hin6 : ¬ ((z - (1 : Int32)) < 0 ∨ cl6.slots.size ≤ ((z - (1 : Int32)) : Int32).toNatClampNeg) := inb_of S6 hj
  refine own_step (X5.iaload hx (j := (z - (1 : Int32))) (v := (.int y)) (by rw [e5]; exact Ar6.1) (State.isArrayOf_alike hZ.alike Ar6.2.1) Ar6.2.2 hin6 (Has.at H6 hin6 hy) (g := (mkF m 35 #[.val (.ref a)] [(.int (z - (1 : Int32))), (.ref b)])) rfl rfl (hb hby d8_35)) ?_
  show own_Ends p e below F (T5.setTop (mkF m 36 #[.val (.ref a)] [(.int y)]))
  rw [hF]
  exact own_ret X5 (v := (some (.int y))) (fun h => by rw [Bd.returns] at h; cases h) Bd.notSynchronized (fun fs hr => own_retI X5 hx Bd.returns (hb hby d8_36) hr) (by decide) (by decide) (by rw [e5]; exact ⟨rfl, N3, ((Keep.wr (Keep.refl _ _) W3 (Or.inl (List.mem_of_getElem? (i := 0) rfl))) : Keep h0 h3 [a]), (EX.wr W3), F3, (Fld.other W3 FV (Or.inr (slot_ne (t := (.array .int)) (t' := .int) (Or.inl (own_g hw 12 rfl)) (Or.inl (own_g hw 19 rfl)) (by decide) (by decide) (by decide))))⟩)

theorem pn_com_example_concept_reasoner_conceptreasoner_completion_IntListIsEmptyPinLaw : plainName "com/example/concept_reasoner/conceptreasoner/completion/IntListIsEmptyPinLaw" = true := by first | (simp [plainName, overriddenIn]; done) | decide +kernel
theorem pd__28_29V : parseMethodDescriptor "()V" = some ⟨[], none⟩ := by decide +kernel
theorem pd__28_29Z : parseMethodDescriptor "()Z" = some ⟨[], some .boolean⟩ := by decide +kernel
theorem pd__28I_29V : parseMethodDescriptor "(I)V" = some ⟨[.int], none⟩ := by decide +kernel
theorem pd__28_29I : parseMethodDescriptor "()I" = some ⟨[], some .int⟩ := by decide +kernel
theorem ef_rm0 (m : MethodId) (x0 : Int32) (x1 : Int32) (x2 : Int32) (x3 : Int32) (x4 : Int32) : entryFrame m #[(.int x0), (.int x1), (.int x2), (.int x3), (.int x4)] maxLocals = mkF m 0 #[.val (.int x0), .val (.int x1), .val (.int x2), .val (.int x3), .val (.int x4), .unset, .unset, .unset, .unset, .unset] [] := by first | (simp [entryFrame, mkF, argsToLocals, Value.category, maxLocals]; done) | rfl
def Q0 (Z : State) (p1 p2 p3 p4 p5 : Int32) (nn : Addr) (kN : ClassId) (h0 : Heap) (n0 : Nat) (v : Option Value) (h : Heap) (L : List Loc) : Prop := v = some (.int 1) ∧ Fr n0 L
set_option maxRecDepth 65536 in
set_option maxHeartbeats 40000000 in
theorem rm0 (l : Launch) (Z : State) (a0 : Array Value) (hw : ∀ d ∈ tables_1, d.before a0 Z = true) (ws : List Jvm.Cond) (p1 p2 p3 p4 p5 : Int32) (nn : Addr) (kN : ClassId) (h0 : Heap) (n0 : Nat) (Z0 : n0 ≤ h0.size) (SN : Sta Z h0 "com/example/concept_reasoner/conceptreasoner/completion/IntList" "NONE" "[I" (.ref nn)) (VN : Arv Z h0 nn kN .int (0 : Int32) [] (.int (0 : Int32))) :
    MetFree l x (head1 (Jvm.Cond.code x code maxLocals ret :: ws) room_1) (fun ar U => ar = #[(.int p1), (.int p2), (.int p3), (.int p4), (.int p5)] ∧ Z.Warmed39 U.vm ∧ U.heap = h0) (fun _ _ _ _ _ => True) (fun _ U o U' => ∃ v L, o = .returned v ∧ Q0 Z p1 p2 p3 p4 p5 nn kN h0 n0 v U'.heap L ∧ FrameEnd U o U' L room_1.cells room_1.slots) := by
  refine MetFree.of_bodySF (plainFor_of_name pn_com_example_concept_reasoner_conceptreasoner_completion_IntListIsEmptyPinLaw) hisR ?_
  intro p e s m args below meth c s₁ Bd hml0 hP hK
  obtain ⟨rfl, hZ, hh⟩ := hP
  have hx := Bd.exec
  have hby := Bd.bytes
  have hml : c.maxLocals = 10 := hml0
  have hown : s.vm.findClass "com/example/concept_reasoner/conceptreasoner/completion/IntListIsEmptyPinLaw" = some m.cls := findClass_of_methodNamed Bd.named
  have hnm := (name_of_methodNamed Bd.named Bd.method).1
  have X0 : Stand p l e room_1 s m #[(.int p1), (.int p2), (.int p3), (.int p4), (.int p5)] below meth c s₁ [] 0 0 := Stand.of_body Bd
  have e0 : s₁.heap = h0 := by rw [← hh, Bd.state]; rfl
  have N0 := Fr.nil n0
  obtain ⟨F, hF⟩ : ∃ F, F = own_Fin s (Q0 Z p1 p2 p3 p4 p5 nn kN h0 n0) room_1.cells room_1.slots := ⟨_, rfl⟩
  show own_Ends p e below (own_Fin s (Q0 Z p1 p2 p3 p4 p5 nn kN h0 n0) room_1.cells room_1.slots) _
  rw [← hF, ef_rm0 m p1 p2 p3 p4 p5]
  show own_Ends p e below F (s₁.setTop (mkF m 0 #[.val (.int p1), .val (.int p2), .val (.int p3), .val (.int p4), .val (.int p5), .unset, .unset, .unset, .unset, .unset] []))
  refine own_step (fun _ k => XS.iloadN X0.here hx rfl (hb hby at_0) rfl k) ?_
  show own_Ends p e below F (s₁.setTop (mkF m 1 #[.val (.int p1), .val (.int p2), .val (.int p3), .val (.int p4), .val (.int p5), .unset, .unset, .unset, .unset, .unset] [(.int p1)]))
  refine own_step (fun _ k => XS.iconst X0.here hx rfl (hb hby at_1) k) ?_
  show own_Ends p e below F (s₁.setTop (mkF m 2 #[.val (.int p1), .val (.int p2), .val (.int p3), .val (.int p4), .val (.int p5), .unset, .unset, .unset, .unset, .unset] [(.int (3 : Int32)), (.int p1)]))
  refine own_step (fun _ k => XS.iand X0.here hx rfl (hb hby at_2) rfl k) ?_
  show own_Ends p e below F (s₁.setTop (mkF m 3 #[.val (.int p1), .val (.int p2), .val (.int p3), .val (.int p4), .val (.int p5), .unset, .unset, .unset, .unset, .unset] [(.int (p1 &&& (3 : Int32)))]))
  refine own_step (fun _ k => XS.istore X0.here hx rfl (hb hby at_3) rfl (l' := #[.val (.int p1), .val (.int p2), .val (.int p3), .val (.int p4), .val (.int p5), .val (.int (p1 &&& (3 : Int32))), .unset, .unset, .unset, .unset]) rfl k) ?_
  show own_Ends p e below F (s₁.setTop (mkF m 5 #[.val (.int p1), .val (.int p2), .val (.int p3), .val (.int p4), .val (.int p5), .val (.int (p1 &&& (3 : Int32))), .unset, .unset, .unset, .unset] []))
  rcases own_m3 p1 with q5 | q5 | q5 | q5
  · rw [q5]
    show own_Ends p e below F (s₁.setTop (mkF m 5 #[.val (.int p1), .val (.int p2), .val (.int p3), .val (.int p4), .val (.int p5), .val (.int (0 : Int32)), .unset, .unset, .unset, .unset] []))
    refine own_step (fun _ k => XS.iloadN X0.here hx rfl (hb hby at_5) rfl k) ?_
    show own_Ends p e below F (s₁.setTop (mkF m 6 #[.val (.int p1), .val (.int p2), .val (.int p3), .val (.int p4), .val (.int p5), .val (.int (0 : Int32)), .unset, .unset, .unset, .unset] [(.int p2)]))
    refine own_step (fun _ k => XS.iconst X0.here hx rfl (hb hby at_6) k) ?_
    show own_Ends p e below F (s₁.setTop (mkF m 7 #[.val (.int p1), .val (.int p2), .val (.int p3), .val (.int p4), .val (.int p5), .val (.int (0 : Int32)), .unset, .unset, .unset, .unset] [(.int (3 : Int32)), (.int p2)]))
    refine own_step (fun _ k => XS.iand X0.here hx rfl (hb hby at_7) rfl k) ?_
    show own_Ends p e below F (s₁.setTop (mkF m 8 #[.val (.int p1), .val (.int p2), .val (.int p3), .val (.int p4), .val (.int p5), .val (.int (0 : Int32)), .unset, .unset, .unset, .unset] [(.int (p2 &&& (3 : Int32)))]))
    refine own_step (fun _ k => XS.istore X0.here hx rfl (hb hby at_8) rfl (l' := #[.val (.int p1), .val (.int p2), .val (.int p3), .val (.int p4), .val (.int p5), .val (.int (0 : Int32)), .val (.int (p2 &&& (3 : Int32))), .unset, .unset, .unset]) rfl k) ?_
    show own_Ends p e below F (s₁.setTop (mkF m 10 #[.val (.int p1), .val (.int p2), .val (.int p3), .val (.int p4), .val (.int p5), .val (.int (0 : Int32)), .val (.int (p2 &&& (3 : Int32))), .unset, .unset, .unset] []))
    rcases own_m3 p2 with q10 | q10 | q10 | q10
    · rw [q10]
      show own_Ends p e below F (s₁.setTop (mkF m 10 #[.val (.int p1), .val (.int p2), .val (.int p3), .val (.int p4), .val (.int p5), .val (.int (0 : Int32)), .val (.int (0 : Int32)), .unset, .unset, .unset] []))
      refine own_step (fun _ k => XS.iload X0.here hx rfl (hb hby at_10) rfl k) ?_
      show own_Ends p e below F (s₁.setTop (mkF m 12 #[.val (.int p1), .val (.int p2), .val (.int p3), .val (.int p4), .val (.int p5), .val (.int (0 : Int32)), .val (.int (0 : Int32)), .unset, .unset, .unset] [(.int (0 : Int32))]))
      refine own_step (fun _ k => XS.iload X0.here hx rfl (hb hby at_12) rfl k) ?_
      show own_Ends p e below F (s₁.setTop (mkF m 14 #[.val (.int p1), .val (.int p2), .val (.int p3), .val (.int p4), .val (.int p5), .val (.int (0 : Int32)), .val (.int (0 : Int32)), .unset, .unset, .unset] [(.int (0 : Int32)), (.int (0 : Int32))]))
      refine own_step (fun _ k => XS.icmpYes X0.here hx rfl (pc0 := 14) (pc' := 21) rfl (hb hby at_14) rfl (flt (by decide : ¬ ((0 : Int32) < (0 : Int32)))).2.2.2 (by decide) (by decide) k) ?_
      show own_Ends p e below F (s₁.setTop (mkF m 21 #[.val (.int p1), .val (.int p2), .val (.int p3), .val (.int p4), .val (.int p5), .val (.int (0 : Int32)), .val (.int (0 : Int32)), .unset, .unset, .unset] []))
      obtain ⟨T1, h1, X1, e1, E1, A1, D1, -, st1⟩ := newO X0 hx hZ hown (own_g hw 0 rfl) (own_g hw 1 rfl) (own_g hw 2 rfl) e0 (g := (mkF m 21 #[.val (.int p1), .val (.int p2), .val (.int p3), .val (.int p4), .val (.int p5), .val (.int (0 : Int32)), .val (.int (0 : Int32)), .unset, .unset, .unset] [])) rfl (hb hby at_21) (by decide) (by decide)
      obtain ⟨a1, g1⟩ : ∃ z, z = h0.size := ⟨_, rfl⟩
      rw [← g1] at A1 D1 st1
      have ge_a1 : n0 ≤ a1 := Nat.le_trans Z0 (Nat.le_of_eq g1.symm)
      have sz_a1 : h0.size ≤ a1 := Nat.le_trans (Nat.le_refl h0.size) (Nat.le_of_eq g1.symm)
      have ne_nn_a1 : nn ≠ a1 := Nat.ne_of_lt (by rw [g1]; exact VN.lt)
      have Z1 : n0 ≤ h1.size := Nat.le_trans Z0 E1.1
      have SZ1 : h0.size ≤ h1.size := Nat.le_trans (Nat.le_refl h0.size) E1.1
      have F1_values : Fld Z h1 a1 "com/example/concept_reasoner/conceptreasoner/completion/IntList" "values" "[I" .null := D1 (Or.inl (own_g hw 12 rfl)) (ty := (.array .int)) (by decide)
      have F1_size : Fld Z h1 a1 "com/example/concept_reasoner/conceptreasoner/completion/IntList" "size" "I" (.int (0 : Int32)) := D1 (Or.inl (own_g hw 19 rfl)) (ty := .int) (by decide)
      refine own_step st1 ?_
      show own_Ends p e below F (T1.setTop (mkF m 24 #[.val (.int p1), .val (.int p2), .val (.int p3), .val (.int p4), .val (.int p5), .val (.int (0 : Int32)), .val (.int (0 : Int32)), .unset, .unset, .unset] [(.ref a1)]))
      refine own_step (fun _ k => XS.dup X1.here hx rfl (hb hby at_24) rfl rfl k) ?_
      show own_Ends p e below F (T1.setTop (mkF m 25 #[.val (.int p1), .val (.int p2), .val (.int p3), .val (.int p4), .val (.int p5), .val (.int (0 : Int32)), .val (.int (0 : Int32)), .unset, .unset, .unset] [(.ref a1), (.ref a1)]))
      obtain ⟨_, _, ⟨T2, L2, k2, n2⟩, -, X2, ⟨Lc2, hQ2, l2, y2, z2⟩, st2⟩ := X1.specialBack hx (y := (⟨"com/example/concept_reasoner/conceptreasoner/completion/IntList", "<init>", "()V"⟩ : MethodName)) rfl hown (mvT hZ (own_g hw 3 rfl)) (mvT hZ (own_g hw 4 rfl)) (mvT hZ (own_g hw 5 rfl)) (by decide) (backOf (W := 1) (rm1 l Z a0 hw [] a1 nn h1 n0 Z1 A1 ge_a1 F1_values F1_size (Sta.ext E1 SN)) hZ (own_g hw 5 rfl) (own_g hw 2 rfl) (by decide) (by decide)) (g := (mkF m 25 #[.val (.int p1), .val (.int p2), .val (.int p3), .val (.int p4), .val (.int p5), .val (.int (0 : Int32)), .val (.int (0 : Int32)), .unset, .unset, .unset] [(.ref a1), (.ref a1)])) rfl (by rw [hml]; rfl) (Steps.refl _) (a := a1) (argsL := []) (rest := [(.ref a1)]) (lenOf pd__28_29V rfl) rfl (by show 2 * 0 + _ ≤ _; exact Nat.le_of_eq rfl) (hb hby at_25) (fun _ _ => ⟨rfl, e1, (by decide : 1 + 0 ≤ _), (by decide : 2 + 0 ≤ _)⟩)
      dsimp only [Pt.U, Pt.locs, Pt.cells, Pt.slots] at X2 l2 y2 z2 st2 hQ2
      subst l2 y2 z2
      obtain ⟨rfl, Nq2, Kq2, fq0_2, fq1_2, fq2_2⟩ := hQ2
      have N2 := Fr.app N0 Nq2
      have Z2 : n0 ≤ T2.heap.size := Nat.le_trans Z1 Kq2.1
      have SZ2 : h0.size ≤ T2.heap.size := Nat.le_trans SZ1 Kq2.1
      have S0_2 := own_Sta_keep (Sta.ext E1 SN) Kq2 (allS (own_ns_exa A1) all0)
      refine own_trans st2 ?_
      show own_Ends p e below F (T2.setTop (mkF m 28 #[.val (.int p1), .val (.int p2), .val (.int p3), .val (.int p4), .val (.int p5), .val (.int (0 : Int32)), .val (.int (0 : Int32)), .unset, .unset, .unset] [(.ref a1)]))
      refine own_step (fun _ k => XS.astore X2.here hx rfl (hb hby at_28) rfl rfl (l' := #[.val (.int p1), .val (.int p2), .val (.int p3), .val (.int p4), .val (.int p5), .val (.int (0 : Int32)), .val (.int (0 : Int32)), .val (.ref a1), .unset, .unset]) rfl k) ?_
      show own_Ends p e below F (T2.setTop (mkF m 30 #[.val (.int p1), .val (.int p2), .val (.int p3), .val (.int p4), .val (.int p5), .val (.int (0 : Int32)), .val (.int (0 : Int32)), .val (.ref a1), .unset, .unset] []))
      refine own_step (fun _ k => XS.aload X2.here hx rfl (hb hby at_30) rfl rfl k) ?_
      show own_Ends p e below F (T2.setTop (mkF m 32 #[.val (.int p1), .val (.int p2), .val (.int p3), .val (.int p4), .val (.int p5), .val (.int (0 : Int32)), .val (.int (0 : Int32)), .val (.ref a1), .unset, .unset] [(.ref a1)]))
      obtain ⟨cq3, kq3, qa3, qb3, qc3⟩ := isOf hZ rfl fq0_2
      obtain ⟨_, _, ⟨T3, L3, k3, n3⟩, -, X3, ⟨Lc3, hQ3, l3, y3, z3⟩, st3⟩ := X2.virtualBack hx (y := (⟨"com/example/concept_reasoner/conceptreasoner/completion/IntList", "isEmpty", "()Z"⟩ : MethodName)) (z := (⟨"com/example/concept_reasoner/conceptreasoner/completion/IntList", "isEmpty", "()Z"⟩ : MethodName)) hown (mvT hZ (own_g hw 13 rfl)) (mvT hZ (own_g hw 14 rfl)) (notFace_of_selects (args := #[]) (mvT hZ (own_g hw 16 rfl))) (mvT hZ (own_g hw 16 rfl)) (mvT hZ (own_g hw 15 rfl)) (by decide) (backOf (W := 0) (rm3 l Z a0 hw [] a1 (0 : Int32) T2.heap n0 Z2 fq2_2) hZ (own_g hw 17 rfl) (own_g hw 2 rfl) (by decide) (by decide)) qa3 qc3 (g := (mkF m 32 #[.val (.int p1), .val (.int p2), .val (.int p3), .val (.int p4), .val (.int p5), .val (.int (0 : Int32)), .val (.int (0 : Int32)), .val (.ref a1), .unset, .unset] [(.ref a1)])) rfl (by rw [hml]; rfl) (Steps.refl _) (argsL := []) (rest := []) (lenOf pd__28_29Z rfl) rfl (by show 2 * 0 + _ ≤ _; exact Nat.le_of_eq rfl) (hb hby at_32) (fun _ _ => ⟨rfl, rfl, (by decide : 1 + 0 ≤ _), (by decide : 2 + 0 ≤ _)⟩)
      dsimp only [Pt.U, Pt.locs, Pt.cells, Pt.slots] at X3 l3 y3 z3 st3 hQ3
      subst l3 y3 z3
      obtain ⟨rfl, Nq3, eq3⟩ := hQ3
      have N3 := Fr.app N2 Nq3
      refine own_trans st3 ?_
      show own_Ends p e below F (T3.setTop (mkF m 35 #[.val (.int p1), .val (.int p2), .val (.int p3), .val (.int p4), .val (.int p5), .val (.int (0 : Int32)), .val (.int (0 : Int32)), .val (.ref a1), .unset, .unset] [(.int (own_emp (0 : Int32)))]))
      rw [show (own_emp (0 : Int32)) = (1 : Int32) from (by first | rfl | decide)]
      show own_Ends p e below F (T3.setTop (mkF m 35 #[.val (.int p1), .val (.int p2), .val (.int p3), .val (.int p4), .val (.int p5), .val (.int (0 : Int32)), .val (.int (0 : Int32)), .val (.ref a1), .unset, .unset] [(.int (1 : Int32))]))
      refine own_step (fun _ k => XS.istore X3.here hx rfl (hb hby at_35) rfl (l' := #[.val (.int p1), .val (.int p2), .val (.int p3), .val (.int p4), .val (.int p5), .val (.int (0 : Int32)), .val (.int (0 : Int32)), .val (.ref a1), .val (.int (1 : Int32)), .unset]) rfl k) ?_
      show own_Ends p e below F (T3.setTop (mkF m 37 #[.val (.int p1), .val (.int p2), .val (.int p3), .val (.int p4), .val (.int p5), .val (.int (0 : Int32)), .val (.int (0 : Int32)), .val (.ref a1), .val (.int (1 : Int32)), .unset] []))
      refine own_step (fun _ k => XS.iload X3.here hx rfl (hb hby at_37) rfl k) ?_
      show own_Ends p e below F (T3.setTop (mkF m 39 #[.val (.int p1), .val (.int p2), .val (.int p3), .val (.int p4), .val (.int p5), .val (.int (0 : Int32)), .val (.int (0 : Int32)), .val (.ref a1), .val (.int (1 : Int32)), .unset] [(.int (0 : Int32))]))
      refine own_step (fun _ k => XS.iconst X3.here hx rfl (hb hby at_39) k) ?_
      show own_Ends p e below F (T3.setTop (mkF m 40 #[.val (.int p1), .val (.int p2), .val (.int p3), .val (.int p4), .val (.int p5), .val (.int (0 : Int32)), .val (.int (0 : Int32)), .val (.ref a1), .val (.int (1 : Int32)), .unset] [(.int (1 : Int32)), (.int (0 : Int32))]))
      refine own_step (fun _ k => XS.icmpYes X3.here hx rfl (pc0 := 40) (pc' := 49) rfl (hb hby at_40) rfl (tlt (by decide : (0 : Int32) < (1 : Int32))).1 (by decide) (by decide) k) ?_
      show own_Ends p e below F (T3.setTop (mkF m 49 #[.val (.int p1), .val (.int p2), .val (.int p3), .val (.int p4), .val (.int p5), .val (.int (0 : Int32)), .val (.int (0 : Int32)), .val (.ref a1), .val (.int (1 : Int32)), .unset] []))
      refine own_step (fun _ k => XS.iload X3.here hx rfl (hb hby at_49) rfl k) ?_
      show own_Ends p e below F (T3.setTop (mkF m 51 #[.val (.int p1), .val (.int p2), .val (.int p3), .val (.int p4), .val (.int p5), .val (.int (0 : Int32)), .val (.int (0 : Int32)), .val (.ref a1), .val (.int (1 : Int32)), .unset] [(.int (0 : Int32))]))
      refine own_step (fun _ k => XS.iconst X3.here hx rfl (hb hby at_51) k) ?_
      show own_Ends p e below F (T3.setTop (mkF m 52 #[.val (.int p1), .val (.int p2), .val (.int p3), .val (.int p4), .val (.int p5), .val (.int (0 : Int32)), .val (.int (0 : Int32)), .val (.ref a1), .val (.int (1 : Int32)), .unset] [(.int (2 : Int32)), (.int (0 : Int32))]))
      refine own_step (fun _ k => XS.icmpYes X3.here hx rfl (pc0 := 52) (pc' := 61) rfl (hb hby at_52) rfl (tlt (by decide : (0 : Int32) < (2 : Int32))).1 (by decide) (by decide) k) ?_
      show own_Ends p e below F (T3.setTop (mkF m 61 #[.val (.int p1), .val (.int p2), .val (.int p3), .val (.int p4), .val (.int p5), .val (.int (0 : Int32)), .val (.int (0 : Int32)), .val (.ref a1), .val (.int (1 : Int32)), .unset] []))
      refine own_step (fun _ k => XS.iload X3.here hx rfl (hb hby at_61) rfl k) ?_
      show own_Ends p e below F (T3.setTop (mkF m 63 #[.val (.int p1), .val (.int p2), .val (.int p3), .val (.int p4), .val (.int p5), .val (.int (0 : Int32)), .val (.int (0 : Int32)), .val (.ref a1), .val (.int (1 : Int32)), .unset] [(.int (0 : Int32))]))
      refine own_step (fun _ k => XS.iconst X3.here hx rfl (hb hby at_63) k) ?_
      show own_Ends p e below F (T3.setTop (mkF m 64 #[.val (.int p1), .val (.int p2), .val (.int p3), .val (.int p4), .val (.int p5), .val (.int (0 : Int32)), .val (.int (0 : Int32)), .val (.ref a1), .val (.int (1 : Int32)), .unset] [(.int (3 : Int32)), (.int (0 : Int32))]))
      refine own_step (fun _ k => XS.icmpYes X3.here hx rfl (pc0 := 64) (pc' := 74) rfl (hb hby at_64) rfl (tlt (by decide : (0 : Int32) < (3 : Int32))).1 (by decide) (by decide) k) ?_
      show own_Ends p e below F (T3.setTop (mkF m 74 #[.val (.int p1), .val (.int p2), .val (.int p3), .val (.int p4), .val (.int p5), .val (.int (0 : Int32)), .val (.int (0 : Int32)), .val (.ref a1), .val (.int (1 : Int32)), .unset] []))
      refine own_step (fun _ k => XS.iload X3.here hx rfl (hb hby at_74) rfl k) ?_
      show own_Ends p e below F (T3.setTop (mkF m 76 #[.val (.int p1), .val (.int p2), .val (.int p3), .val (.int p4), .val (.int p5), .val (.int (0 : Int32)), .val (.int (0 : Int32)), .val (.ref a1), .val (.int (1 : Int32)), .unset] [(.int (0 : Int32))]))
      refine own_step (fun _ k => XS.iconst X3.here hx rfl (hb hby at_76) k) ?_
      show own_Ends p e below F (T3.setTop (mkF m 77 #[.val (.int p1), .val (.int p2), .val (.int p3), .val (.int p4), .val (.int p5), .val (.int (0 : Int32)), .val (.int (0 : Int32)), .val (.ref a1), .val (.int (1 : Int32)), .unset] [(.int (1 : Int32)), (.int (0 : Int32))]))
      refine own_step (fun _ k => XS.icmpYes X3.here hx rfl (pc0 := 77) (pc' := 86) rfl (hb hby at_77) rfl (tlt (by decide : (0 : Int32) < (1 : Int32))).1 (by decide) (by decide) k) ?_
      show own_Ends p e below F (T3.setTop (mkF m 86 #[.val (.int p1), .val (.int p2), .val (.int p3), .val (.int p4), .val (.int p5), .val (.int (0 : Int32)), .val (.int (0 : Int32)), .val (.ref a1), .val (.int (1 : Int32)), .unset] []))
      refine own_step (fun _ k => XS.iload X3.here hx rfl (hb hby at_86) rfl k) ?_
      show own_Ends p e below F (T3.setTop (mkF m 88 #[.val (.int p1), .val (.int p2), .val (.int p3), .val (.int p4), .val (.int p5), .val (.int (0 : Int32)), .val (.int (0 : Int32)), .val (.ref a1), .val (.int (1 : Int32)), .unset] [(.int (0 : Int32))]))
      refine own_step (fun _ k => XS.iconst X3.here hx rfl (hb hby at_88) k) ?_
      show own_Ends p e below F (T3.setTop (mkF m 89 #[.val (.int p1), .val (.int p2), .val (.int p3), .val (.int p4), .val (.int p5), .val (.int (0 : Int32)), .val (.int (0 : Int32)), .val (.ref a1), .val (.int (1 : Int32)), .unset] [(.int (2 : Int32)), (.int (0 : Int32))]))
      refine own_step (fun _ k => XS.icmpYes X3.here hx rfl (pc0 := 89) (pc' := 98) rfl (hb hby at_89) rfl (tlt (by decide : (0 : Int32) < (2 : Int32))).1 (by decide) (by decide) k) ?_
      show own_Ends p e below F (T3.setTop (mkF m 98 #[.val (.int p1), .val (.int p2), .val (.int p3), .val (.int p4), .val (.int p5), .val (.int (0 : Int32)), .val (.int (0 : Int32)), .val (.ref a1), .val (.int (1 : Int32)), .unset] []))
      refine own_step (fun _ k => XS.iload X3.here hx rfl (hb hby at_98) rfl k) ?_
      show own_Ends p e below F (T3.setTop (mkF m 100 #[.val (.int p1), .val (.int p2), .val (.int p3), .val (.int p4), .val (.int p5), .val (.int (0 : Int32)), .val (.int (0 : Int32)), .val (.ref a1), .val (.int (1 : Int32)), .unset] [(.int (0 : Int32))]))
      refine own_step (fun _ k => XS.iconst X3.here hx rfl (hb hby at_100) k) ?_
      show own_Ends p e below F (T3.setTop (mkF m 101 #[.val (.int p1), .val (.int p2), .val (.int p3), .val (.int p4), .val (.int p5), .val (.int (0 : Int32)), .val (.int (0 : Int32)), .val (.ref a1), .val (.int (1 : Int32)), .unset] [(.int (3 : Int32)), (.int (0 : Int32))]))
      refine own_step (fun _ k => XS.icmpYes X3.here hx rfl (pc0 := 101) (pc' := 110) rfl (hb hby at_101) rfl (tlt (by decide : (0 : Int32) < (3 : Int32))).1 (by decide) (by decide) k) ?_
      show own_Ends p e below F (T3.setTop (mkF m 110 #[.val (.int p1), .val (.int p2), .val (.int p3), .val (.int p4), .val (.int p5), .val (.int (0 : Int32)), .val (.int (0 : Int32)), .val (.ref a1), .val (.int (1 : Int32)), .unset] []))
      refine own_step (fun _ k => XS.iload X3.here hx rfl (hb hby at_110) rfl k) ?_
      show own_Ends p e below F (T3.setTop (mkF m 112 #[.val (.int p1), .val (.int p2), .val (.int p3), .val (.int p4), .val (.int p5), .val (.int (0 : Int32)), .val (.int (0 : Int32)), .val (.ref a1), .val (.int (1 : Int32)), .unset] [(.int (0 : Int32))]))
      refine own_step (fun _ k => XS.iload X3.here hx rfl (hb hby at_112) rfl k) ?_
      show own_Ends p e below F (T3.setTop (mkF m 114 #[.val (.int p1), .val (.int p2), .val (.int p3), .val (.int p4), .val (.int p5), .val (.int (0 : Int32)), .val (.int (0 : Int32)), .val (.ref a1), .val (.int (1 : Int32)), .unset] [(.int (0 : Int32)), (.int (0 : Int32))]))
      refine own_step (fun _ k => XS.isub X3.here hx rfl (hb hby at_114) rfl k) ?_
      show own_Ends p e below F (T3.setTop (mkF m 115 #[.val (.int p1), .val (.int p2), .val (.int p3), .val (.int p4), .val (.int p5), .val (.int (0 : Int32)), .val (.int (0 : Int32)), .val (.ref a1), .val (.int (1 : Int32)), .unset] [(.int (0 : Int32))]))
      refine own_step (fun _ k => XS.ifNo X3.here hx rfl (hb hby at_115) rfl ((if0 _ _).trans (teq (by decide : (0 : Int32) = (0 : Int32))).2) k) ?_
      show own_Ends p e below F (T3.setTop (mkF m 118 #[.val (.int p1), .val (.int p2), .val (.int p3), .val (.int p4), .val (.int p5), .val (.int (0 : Int32)), .val (.int (0 : Int32)), .val (.ref a1), .val (.int (1 : Int32)), .unset] []))
      refine own_step (fun _ k => XS.iconst X3.here hx rfl (hb hby at_118) k) ?_
      show own_Ends p e below F (T3.setTop (mkF m 119 #[.val (.int p1), .val (.int p2), .val (.int p3), .val (.int p4), .val (.int p5), .val (.int (0 : Int32)), .val (.int (0 : Int32)), .val (.ref a1), .val (.int (1 : Int32)), .unset] [(.int (1 : Int32))]))
      refine own_step (fun _ k => XS.goto X3.here hx rfl (pc0 := 119) (pc' := 123) rfl (hb hby at_119) (by decide) (by decide) k) ?_
      show own_Ends p e below F (T3.setTop (mkF m 123 #[.val (.int p1), .val (.int p2), .val (.int p3), .val (.int p4), .val (.int p5), .val (.int (0 : Int32)), .val (.int (0 : Int32)), .val (.ref a1), .val (.int (1 : Int32)), .unset] [(.int (1 : Int32))]))
      refine own_step (fun _ k => XS.istore X3.here hx rfl (hb hby at_123) rfl (l' := #[.val (.int p1), .val (.int p2), .val (.int p3), .val (.int p4), .val (.int p5), .val (.int (0 : Int32)), .val (.int (0 : Int32)), .val (.ref a1), .val (.int (1 : Int32)), .val (.int (1 : Int32))]) rfl k) ?_
      show own_Ends p e below F (T3.setTop (mkF m 125 #[.val (.int p1), .val (.int p2), .val (.int p3), .val (.int p4), .val (.int p5), .val (.int (0 : Int32)), .val (.int (0 : Int32)), .val (.ref a1), .val (.int (1 : Int32)), .val (.int (1 : Int32))] []))
      refine own_step (fun _ k => XS.iload X3.here hx rfl (hb hby at_125) rfl k) ?_
      show own_Ends p e below F (T3.setTop (mkF m 127 #[.val (.int p1), .val (.int p2), .val (.int p3), .val (.int p4), .val (.int p5), .val (.int (0 : Int32)), .val (.int (0 : Int32)), .val (.ref a1), .val (.int (1 : Int32)), .val (.int (1 : Int32))] [(.int (1 : Int32))]))
      refine own_step (fun _ k => XS.ifNo X3.here hx rfl (hb hby at_127) rfl ((if0 _ _).trans (feq (by decide : ¬ ((1 : Int32) = (0 : Int32)))).1) k) ?_
      show own_Ends p e below F (T3.setTop (mkF m 130 #[.val (.int p1), .val (.int p2), .val (.int p3), .val (.int p4), .val (.int p5), .val (.int (0 : Int32)), .val (.int (0 : Int32)), .val (.ref a1), .val (.int (1 : Int32)), .val (.int (1 : Int32))] []))
      refine own_step (fun _ k => XS.aload X3.here hx rfl (hb hby at_130) rfl rfl k) ?_
      show own_Ends p e below F (T3.setTop (mkF m 132 #[.val (.int p1), .val (.int p2), .val (.int p3), .val (.int p4), .val (.int p5), .val (.int (0 : Int32)), .val (.int (0 : Int32)), .val (.ref a1), .val (.int (1 : Int32)), .val (.int (1 : Int32))] [(.ref a1)]))
      obtain ⟨cq4, kq4, qa4, qb4, qc4⟩ := isOf hZ eq3 fq0_2
      obtain ⟨_, _, ⟨T4, L4, k4, n4⟩, -, X4, ⟨Lc4, hQ4, l4, y4, z4⟩, st4⟩ := X3.virtualBack hx (y := (⟨"com/example/concept_reasoner/conceptreasoner/completion/IntList", "isEmpty", "()Z"⟩ : MethodName)) (z := (⟨"com/example/concept_reasoner/conceptreasoner/completion/IntList", "isEmpty", "()Z"⟩ : MethodName)) hown (mvT hZ (own_g hw 13 rfl)) (mvT hZ (own_g hw 14 rfl)) (notFace_of_selects (args := #[]) (mvT hZ (own_g hw 16 rfl))) (mvT hZ (own_g hw 16 rfl)) (mvT hZ (own_g hw 15 rfl)) (by decide) (backOf (W := 0) (rm3 l Z a0 hw [] a1 (0 : Int32) T2.heap n0 Z2 fq2_2) hZ (own_g hw 17 rfl) (own_g hw 2 rfl) (by decide) (by decide)) qa4 qc4 (g := (mkF m 132 #[.val (.int p1), .val (.int p2), .val (.int p3), .val (.int p4), .val (.int p5), .val (.int (0 : Int32)), .val (.int (0 : Int32)), .val (.ref a1), .val (.int (1 : Int32)), .val (.int (1 : Int32))] [(.ref a1)])) rfl (by rw [hml]; rfl) (Steps.refl _) (argsL := []) (rest := []) (lenOf pd__28_29Z rfl) rfl (by show 2 * 0 + _ ≤ _; exact Nat.le_of_eq rfl) (hb hby at_132) (fun _ _ => ⟨rfl, eq3, (by decide : 1 + 0 ≤ _), (by decide : 2 + 0 ≤ _)⟩)
      dsimp only [Pt.U, Pt.locs, Pt.cells, Pt.slots] at X4 l4 y4 z4 st4 hQ4
      subst l4 y4 z4
      obtain ⟨rfl, Nq4, eq4⟩ := hQ4
      have N4 := Fr.app N3 Nq4
      refine own_trans st4 ?_
      show own_Ends p e below F (T4.setTop (mkF m 135 #[.val (.int p1), .val (.int p2), .val (.int p3), .val (.int p4), .val (.int p5), .val (.int (0 : Int32)), .val (.int (0 : Int32)), .val (.ref a1), .val (.int (1 : Int32)), .val (.int (1 : Int32))] [(.int (own_emp (0 : Int32)))]))
      rw [show (own_emp (0 : Int32)) = (1 : Int32) from (by first | rfl | decide)]
      show own_Ends p e below F (T4.setTop (mkF m 135 #[.val (.int p1), .val (.int p2), .val (.int p3), .val (.int p4), .val (.int p5), .val (.int (0 : Int32)), .val (.int (0 : Int32)), .val (.ref a1), .val (.int (1 : Int32)), .val (.int (1 : Int32))] [(.int (1 : Int32))]))
      refine own_step (fun _ k => XS.iload X4.here hx rfl (hb hby at_135) rfl k) ?_
      show own_Ends p e below F (T4.setTop (mkF m 137 #[.val (.int p1), .val (.int p2), .val (.int p3), .val (.int p4), .val (.int p5), .val (.int (0 : Int32)), .val (.int (0 : Int32)), .val (.ref a1), .val (.int (1 : Int32)), .val (.int (1 : Int32))] [(.int (1 : Int32)), (.int (1 : Int32))]))
      refine own_step (fun _ k => XS.icmpNo X4.here hx rfl (hb hby at_137) rfl (teq (by decide : (1 : Int32) = (1 : Int32))).2 k) ?_
      show own_Ends p e below F (T4.setTop (mkF m 140 #[.val (.int p1), .val (.int p2), .val (.int p3), .val (.int p4), .val (.int p5), .val (.int (0 : Int32)), .val (.int (0 : Int32)), .val (.ref a1), .val (.int (1 : Int32)), .val (.int (1 : Int32))] []))
      refine own_step (fun _ k => XS.iconst X4.here hx rfl (hb hby at_140) k) ?_
      show own_Ends p e below F (T4.setTop (mkF m 141 #[.val (.int p1), .val (.int p2), .val (.int p3), .val (.int p4), .val (.int p5), .val (.int (0 : Int32)), .val (.int (0 : Int32)), .val (.ref a1), .val (.int (1 : Int32)), .val (.int (1 : Int32))] [(.int (1 : Int32))]))
      refine own_step (fun _ k => XS.goto X4.here hx rfl (pc0 := 141) (pc' := 145) rfl (hb hby at_141) (by decide) (by decide) k) ?_
      show own_Ends p e below F (T4.setTop (mkF m 145 #[.val (.int p1), .val (.int p2), .val (.int p3), .val (.int p4), .val (.int p5), .val (.int (0 : Int32)), .val (.int (0 : Int32)), .val (.ref a1), .val (.int (1 : Int32)), .val (.int (1 : Int32))] [(.int (1 : Int32))]))
      rw [hF]
      exact own_ret X4 (v := (some (.int (nar .boolean (1 : Int32))))) (fun h => by rw [Bd.returns] at h; cases h) Bd.notSynchronized (fun fs hr => retN X4 hx (t := .boolean) Bd.returns (by simp) (hb hby at_145) hr) (by decide) (by decide) (by rw [eq4]; exact ⟨rfl, N4⟩)
    · rw [q10]
      show own_Ends p e below F (s₁.setTop (mkF m 10 #[.val (.int p1), .val (.int p2), .val (.int p3), .val (.int p4), .val (.int p5), .val (.int (0 : Int32)), .val (.int (1 : Int32)), .unset, .unset, .unset] []))
      refine own_step (fun _ k => XS.iload X0.here hx rfl (hb hby at_10) rfl k) ?_
      show own_Ends p e below F (s₁.setTop (mkF m 12 #[.val (.int p1), .val (.int p2), .val (.int p3), .val (.int p4), .val (.int p5), .val (.int (0 : Int32)), .val (.int (1 : Int32)), .unset, .unset, .unset] [(.int (1 : Int32))]))
      refine own_step (fun _ k => XS.iload X0.here hx rfl (hb hby at_12) rfl k) ?_
      show own_Ends p e below F (s₁.setTop (mkF m 14 #[.val (.int p1), .val (.int p2), .val (.int p3), .val (.int p4), .val (.int p5), .val (.int (0 : Int32)), .val (.int (1 : Int32)), .unset, .unset, .unset] [(.int (0 : Int32)), (.int (1 : Int32))]))
      refine own_step (fun _ k => XS.icmpNo X0.here hx rfl (hb hby at_14) rfl (tlt (by decide : (0 : Int32) < (1 : Int32))).2.2.2 k) ?_
      show own_Ends p e below F (s₁.setTop (mkF m 17 #[.val (.int p1), .val (.int p2), .val (.int p3), .val (.int p4), .val (.int p5), .val (.int (0 : Int32)), .val (.int (1 : Int32)), .unset, .unset, .unset] []))
      refine own_step (fun _ k => XS.iload X0.here hx rfl (hb hby at_17) rfl k) ?_
      show own_Ends p e below F (s₁.setTop (mkF m 19 #[.val (.int p1), .val (.int p2), .val (.int p3), .val (.int p4), .val (.int p5), .val (.int (0 : Int32)), .val (.int (1 : Int32)), .unset, .unset, .unset] [(.int (0 : Int32))]))
      refine own_step (fun _ k => XS.istore X0.here hx rfl (hb hby at_19) rfl (l' := #[.val (.int p1), .val (.int p2), .val (.int p3), .val (.int p4), .val (.int p5), .val (.int (0 : Int32)), .val (.int (0 : Int32)), .unset, .unset, .unset]) rfl k) ?_
      show own_Ends p e below F (s₁.setTop (mkF m 21 #[.val (.int p1), .val (.int p2), .val (.int p3), .val (.int p4), .val (.int p5), .val (.int (0 : Int32)), .val (.int (0 : Int32)), .unset, .unset, .unset] []))
      obtain ⟨T5, h5, X5, e5, E5, A5, D5, -, st5⟩ := newO X0 hx hZ hown (own_g hw 0 rfl) (own_g hw 1 rfl) (own_g hw 2 rfl) e0 (g := (mkF m 21 #[.val (.int p1), .val (.int p2), .val (.int p3), .val (.int p4), .val (.int p5), .val (.int (0 : Int32)), .val (.int (0 : Int32)), .unset, .unset, .unset] [])) rfl (hb hby at_21) (by decide) (by decide)
      obtain ⟨a5, g5⟩ : ∃ z, z = h0.size := ⟨_, rfl⟩
      rw [← g5] at A5 D5 st5
      have ge_a5 : n0 ≤ a5 := Nat.le_trans Z0 (Nat.le_of_eq g5.symm)
      have sz_a5 : h0.size ≤ a5 := Nat.le_trans (Nat.le_refl h0.size) (Nat.le_of_eq g5.symm)
      have ne_nn_a5 : nn ≠ a5 := Nat.ne_of_lt (by rw [g5]; exact VN.lt)
      have Z5 : n0 ≤ h5.size := Nat.le_trans Z0 E5.1
      have SZ5 : h0.size ≤ h5.size := Nat.le_trans (Nat.le_refl h0.size) E5.1
      have F5_values : Fld Z h5 a5 "com/example/concept_reasoner/conceptreasoner/completion/IntList" "values" "[I" .null := D5 (Or.inl (own_g hw 12 rfl)) (ty := (.array .int)) (by decide)
      have F5_size : Fld Z h5 a5 "com/example/concept_reasoner/conceptreasoner/completion/IntList" "size" "I" (.int (0 : Int32)) := D5 (Or.inl (own_g hw 19 rfl)) (ty := .int) (by decide)
      refine own_step st5 ?_
      show own_Ends p e below F (T5.setTop (mkF m 24 #[.val (.int p1), .val (.int p2), .val (.int p3), .val (.int p4), .val (.int p5), .val (.int (0 : Int32)), .val (.int (0 : Int32)), .unset, .unset, .unset] [(.ref a5)]))
      refine own_step (fun _ k => XS.dup X5.here hx rfl (hb hby at_24) rfl rfl k) ?_
      show own_Ends p e below F (T5.setTop (mkF m 25 #[.val (.int p1), .val (.int p2), .val (.int p3), .val (.int p4), .val (.int p5), .val (.int (0 : Int32)), .val (.int (0 : Int32)), .unset, .unset, .unset] [(.ref a5), (.ref a5)]))
      obtain ⟨_, _, ⟨T6, L6, k6, n6⟩, -, X6, ⟨Lc6, hQ6, l6, y6, z6⟩, st6⟩ := X5.specialBack hx (y := (⟨"com/example/concept_reasoner/conceptreasoner/completion/IntList", "<init>", "()V"⟩ : MethodName)) rfl hown (mvT hZ (own_g hw 3 rfl)) (mvT hZ (own_g hw 4 rfl)) (mvT hZ (own_g hw 5 rfl)) (by decide) (backOf (W := 1) (rm1 l Z a0 hw [] a5 nn h5 n0 Z5 A5 ge_a5 F5_values F5_size (Sta.ext E5 SN)) hZ (own_g hw 5 rfl) (own_g hw 2 rfl) (by decide) (by decide)) (g := (mkF m 25 #[.val (.int p1), .val (.int p2), .val (.int p3), .val (.int p4), .val (.int p5), .val (.int (0 : Int32)), .val (.int (0 : Int32)), .unset, .unset, .unset] [(.ref a5), (.ref a5)])) rfl (by rw [hml]; rfl) (Steps.refl _) (a := a5) (argsL := []) (rest := [(.ref a5)]) (lenOf pd__28_29V rfl) rfl (by show 2 * 0 + _ ≤ _; exact Nat.le_of_eq rfl) (hb hby at_25) (fun _ _ => ⟨rfl, e5, (by decide : 1 + 0 ≤ _), (by decide : 2 + 0 ≤ _)⟩)
      dsimp only [Pt.U, Pt.locs, Pt.cells, Pt.slots] at X6 l6 y6 z6 st6 hQ6
      subst l6 y6 z6
      obtain ⟨rfl, Nq6, Kq6, fq0_6, fq1_6, fq2_6⟩ := hQ6
      have N6 := Fr.app N0 Nq6
      have Z6 : n0 ≤ T6.heap.size := Nat.le_trans Z5 Kq6.1
      have SZ6 : h0.size ≤ T6.heap.size := Nat.le_trans SZ5 Kq6.1
      have S0_6 := own_Sta_keep (Sta.ext E5 SN) Kq6 (allS (own_ns_exa A5) all0)
      refine own_trans st6 ?_
      show own_Ends p e below F (T6.setTop (mkF m 28 #[.val (.int p1), .val (.int p2), .val (.int p3), .val (.int p4), .val (.int p5), .val (.int (0 : Int32)), .val (.int (0 : Int32)), .unset, .unset, .unset] [(.ref a5)]))
      refine own_step (fun _ k => XS.astore X6.here hx rfl (hb hby at_28) rfl rfl (l' := #[.val (.int p1), .val (.int p2), .val (.int p3), .val (.int p4), .val (.int p5), .val (.int (0 : Int32)), .val (.int (0 : Int32)), .val (.ref a5), .unset, .unset]) rfl k) ?_
      show own_Ends p e below F (T6.setTop (mkF m 30 #[.val (.int p1), .val (.int p2), .val (.int p3), .val (.int p4), .val (.int p5), .val (.int (0 : Int32)), .val (.int (0 : Int32)), .val (.ref a5), .unset, .unset] []))
      refine own_step (fun _ k => XS.aload X6.here hx rfl (hb hby at_30) rfl rfl k) ?_
      show own_Ends p e below F (T6.setTop (mkF m 32 #[.val (.int p1), .val (.int p2), .val (.int p3), .val (.int p4), .val (.int p5), .val (.int (0 : Int32)), .val (.int (0 : Int32)), .val (.ref a5), .unset, .unset] [(.ref a5)]))
      obtain ⟨cq7, kq7, qa7, qb7, qc7⟩ := isOf hZ rfl fq0_6
      obtain ⟨_, _, ⟨T7, L7, k7, n7⟩, -, X7, ⟨Lc7, hQ7, l7, y7, z7⟩, st7⟩ := X6.virtualBack hx (y := (⟨"com/example/concept_reasoner/conceptreasoner/completion/IntList", "isEmpty", "()Z"⟩ : MethodName)) (z := (⟨"com/example/concept_reasoner/conceptreasoner/completion/IntList", "isEmpty", "()Z"⟩ : MethodName)) hown (mvT hZ (own_g hw 13 rfl)) (mvT hZ (own_g hw 14 rfl)) (notFace_of_selects (args := #[]) (mvT hZ (own_g hw 16 rfl))) (mvT hZ (own_g hw 16 rfl)) (mvT hZ (own_g hw 15 rfl)) (by decide) (backOf (W := 0) (rm3 l Z a0 hw [] a5 (0 : Int32) T6.heap n0 Z6 fq2_6) hZ (own_g hw 17 rfl) (own_g hw 2 rfl) (by decide) (by decide)) qa7 qc7 (g := (mkF m 32 #[.val (.int p1), .val (.int p2), .val (.int p3), .val (.int p4), .val (.int p5), .val (.int (0 : Int32)), .val (.int (0 : Int32)), .val (.ref a5), .unset, .unset] [(.ref a5)])) rfl (by rw [hml]; rfl) (Steps.refl _) (argsL := []) (rest := []) (lenOf pd__28_29Z rfl) rfl (by show 2 * 0 + _ ≤ _; exact Nat.le_of_eq rfl) (hb hby at_32) (fun _ _ => ⟨rfl, rfl, (by decide : 1 + 0 ≤ _), (by decide : 2 + 0 ≤ _)⟩)
      dsimp only [Pt.U, Pt.locs, Pt.cells, Pt.slots] at X7 l7 y7 z7 st7 hQ7
      subst l7 y7 z7
      obtain ⟨rfl, Nq7, eq7⟩ := hQ7
      have N7 := Fr.app N6 Nq7
      refine own_trans st7 ?_
      show own_Ends p e below F (T7.setTop (mkF m 35 #[.val (.int p1), .val (.int p2), .val (.int p3), .val (.int p4), .val (.int p5), .val (.int (0 : Int32)), .val (.int (0 : Int32)), .val (.ref a5), .unset, .unset] [(.int (own_emp (0 : Int32)))]))
      rw [show (own_emp (0 : Int32)) = (1 : Int32) from (by first | rfl | decide)]
      show own_Ends p e below F (T7.setTop (mkF m 35 #[.val (.int p1), .val (.int p2), .val (.int p3), .val (.int p4), .val (.int p5), .val (.int (0 : Int32)), .val (.int (0 : Int32)), .val (.ref a5), .unset, .unset] [(.int (1 : Int32))]))
      refine own_step (fun _ k => XS.istore X7.here hx rfl (hb hby at_35) rfl (l' := #[.val (.int p1), .val (.int p2), .val (.int p3), .val (.int p4), .val (.int p5), .val (.int (0 : Int32)), .val (.int (0 : Int32)), .val (.ref a5), .val (.int (1 : Int32)), .unset]) rfl k) ?_
      show own_Ends p e below F (T7.setTop (mkF m 37 #[.val (.int p1), .val (.int p2), .val (.int p3), .val (.int p4), .val (.int p5), .val (.int (0 : Int32)), .val (.int (0 : Int32)), .val (.ref a5), .val (.int (1 : Int32)), .unset] []))
      refine own_step (fun _ k => XS.iload X7.here hx rfl (hb hby at_37) rfl k) ?_
      show own_Ends p e below F (T7.setTop (mkF m 39 #[.val (.int p1), .val (.int p2), .val (.int p3), .val (.int p4), .val (.int p5), .val (.int (0 : Int32)), .val (.int (0 : Int32)), .val (.ref a5), .val (.int (1 : Int32)), .unset] [(.int (0 : Int32))]))
      refine own_step (fun _ k => XS.iconst X7.here hx rfl (hb hby at_39) k) ?_
      show own_Ends p e below F (T7.setTop (mkF m 40 #[.val (.int p1), .val (.int p2), .val (.int p3), .val (.int p4), .val (.int p5), .val (.int (0 : Int32)), .val (.int (0 : Int32)), .val (.ref a5), .val (.int (1 : Int32)), .unset] [(.int (1 : Int32)), (.int (0 : Int32))]))
      refine own_step (fun _ k => XS.icmpYes X7.here hx rfl (pc0 := 40) (pc' := 49) rfl (hb hby at_40) rfl (tlt (by decide : (0 : Int32) < (1 : Int32))).1 (by decide) (by decide) k) ?_
      show own_Ends p e below F (T7.setTop (mkF m 49 #[.val (.int p1), .val (.int p2), .val (.int p3), .val (.int p4), .val (.int p5), .val (.int (0 : Int32)), .val (.int (0 : Int32)), .val (.ref a5), .val (.int (1 : Int32)), .unset] []))
      refine own_step (fun _ k => XS.iload X7.here hx rfl (hb hby at_49) rfl k) ?_
      show own_Ends p e below F (T7.setTop (mkF m 51 #[.val (.int p1), .val (.int p2), .val (.int p3), .val (.int p4), .val (.int p5), .val (.int (0 : Int32)), .val (.int (0 : Int32)), .val (.ref a5), .val (.int (1 : Int32)), .unset] [(.int (0 : Int32))]))
      refine own_step (fun _ k => XS.iconst X7.here hx rfl (hb hby at_51) k) ?_
      show own_Ends p e below F (T7.setTop (mkF m 52 #[.val (.int p1), .val (.int p2), .val (.int p3), .val (.int p4), .val (.int p5), .val (.int (0 : Int32)), .val (.int (0 : Int32)), .val (.ref a5), .val (.int (1 : Int32)), .unset] [(.int (2 : Int32)), (.int (0 : Int32))]))
      refine own_step (fun _ k => XS.icmpYes X7.here hx rfl (pc0 := 52) (pc' := 61) rfl (hb hby at_52) rfl (tlt (by decide : (0 : Int32) < (2 : Int32))).1 (by decide) (by decide) k) ?_
      show own_Ends p e below F (T7.setTop (mkF m 61 #[.val (.int p1), .val (.int p2), .val (.int p3), .val (.int p4), .val (.int p5), .val (.int (0 : Int32)), .val (.int (0 : Int32)), .val (.ref a5), .val (.int (1 : Int32)), .unset] []))
      refine own_step (fun _ k => XS.iload X7.here hx rfl (hb hby at_61) rfl k) ?_
      show own_Ends p e below F (T7.setTop (mkF m 63 #[.val (.int p1), .val (.int p2), .val (.int p3), .val (.int p4), .val (.int p5), .val (.int (0 : Int32)), .val (.int (0 : Int32)), .val (.ref a5), .val (.int (1 : Int32)), .unset] [(.int (0 : Int32))]))
      refine own_step (fun _ k => XS.iconst X7.here hx rfl (hb hby at_63) k) ?_
      show own_Ends p e below F (T7.setTop (mkF m 64 #[.val (.int p1), .val (.int p2), .val (.int p3), .val (.int p4), .val (.int p5), .val (.int (0 : Int32)), .val (.int (0 : Int32)), .val (.ref a5), .val (.int (1 : Int32)), .unset] [(.int (3 : Int32)), (.int (0 : Int32))]))
      refine own_step (fun _ k => XS.icmpYes X7.here hx rfl (pc0 := 64) (pc' := 74) rfl (hb hby at_64) rfl (tlt (by decide : (0 : Int32) < (3 : Int32))).1 (by decide) (by decide) k) ?_
      show own_Ends p e below F (T7.setTop (mkF m 74 #[.val (.int p1), .val (.int p2), .val (.int p3), .val (.int p4), .val (.int p5), .val (.int (0 : Int32)), .val (.int (0 : Int32)), .val (.ref a5), .val (.int (1 : Int32)), .unset] []))
      refine own_step (fun _ k => XS.iload X7.here hx rfl (hb hby at_74) rfl k) ?_
      show own_Ends p e below F (T7.setTop (mkF m 76 #[.val (.int p1), .val (.int p2), .val (.int p3), .val (.int p4), .val (.int p5), .val (.int (0 : Int32)), .val (.int (0 : Int32)), .val (.ref a5), .val (.int (1 : Int32)), .unset] [(.int (0 : Int32))]))
      refine own_step (fun _ k => XS.iconst X7.here hx rfl (hb hby at_76) k) ?_
      show own_Ends p e below F (T7.setTop (mkF m 77 #[.val (.int p1), .val (.int p2), .val (.int p3), .val (.int p4), .val (.int p5), .val (.int (0 : Int32)), .val (.int (0 : Int32)), .val (.ref a5), .val (.int (1 : Int32)), .unset] [(.int (1 : Int32)), (.int (0 : Int32))]))
      refine own_step (fun _ k => XS.icmpYes X7.here hx rfl (pc0 := 77) (pc' := 86) rfl (hb hby at_77) rfl (tlt (by decide : (0 : Int32) < (1 : Int32))).1 (by decide) (by decide) k) ?_
      show own_Ends p e below F (T7.setTop (mkF m 86 #[.val (.int p1), .val (.int p2), .val (.int p3), .val (.int p4), .val (.int p5), .val (.int (0 : Int32)), .val (.int (0 : Int32)), .val (.ref a5), .val (.int (1 : Int32)), .unset] []))
      refine own_step (fun _ k => XS.iload X7.here hx rfl (hb hby at_86) rfl k) ?_
      show own_Ends p e below F (T7.setTop (mkF m 88 #[.val (.int p1), .val (.int p2), .val (.int p3), .val (.int p4), .val (.int p5), .val (.int (0 : Int32)), .val (.int (0 : Int32)), .val (.ref a5), .val (.int (1 : Int32)), .unset] [(.int (0 : Int32))]))
      refine own_step (fun _ k => XS.iconst X7.here hx rfl (hb hby at_88) k) ?_
      show own_Ends p e below F (T7.setTop (mkF m 89 #[.val (.int p1), .val (.int p2), .val (.int p3), .val (.int p4), .val (.int p5), .val (.int (0 : Int32)), .val (.int (0 : Int32)), .val (.ref a5), .val (.int (1 : Int32)), .unset] [(.int (2 : Int32)), (.int (0 : Int32))]))
      refine own_step (fun _ k => XS.icmpYes X7.here hx rfl (pc0 := 89) (pc' := 98) rfl (hb hby at_89) rfl (tlt (by decide : (0 : Int32) < (2 : Int32))).1 (by decide) (by decide) k) ?_
      show own_Ends p e below F (T7.setTop (mkF m 98 #[.val (.int p1), .val (.int p2), .val (.int p3), .val (.int p4), .val (.int p5), .val (.int (0 : Int32)), .val (.int (0 : Int32)), .val (.ref a5), .val (.int (1 : Int32)), .unset] []))
      refine own_step (fun _ k => XS.iload X7.here hx rfl (hb hby at_98) rfl k) ?_
      show own_Ends p e below F (T7.setTop (mkF m 100 #[.val (.int p1), .val (.int p2), .val (.int p3), .val (.int p4), .val (.int p5), .val (.int (0 : Int32)), .val (.int (0 : Int32)), .val (.ref a5), .val (.int (1 : Int32)), .unset] [(.int (0 : Int32))]))
      refine own_step (fun _ k => XS.iconst X7.here hx rfl (hb hby at_100) k) ?_
      show own_Ends p e below F (T7.setTop (mkF m 101 #[.val (.int p1), .val (.int p2), .val (.int p3), .val (.int p4), .val (.int p5), .val (.int (0 : Int32)), .val (.int (0 : Int32)), .val (.ref a5), .val (.int (1 : Int32)), .unset] [(.int (3 : Int32)), (.int (0 : Int32))]))
      refine own_step (fun _ k => XS.icmpYes X7.here hx rfl (pc0 := 101) (pc' := 110) rfl (hb hby at_101) rfl (tlt (by decide : (0 : Int32) < (3 : Int32))).1 (by decide) (by decide) k) ?_
      show own_Ends p e below F (T7.setTop (mkF m 110 #[.val (.int p1), .val (.int p2), .val (.int p3), .val (.int p4), .val (.int p5), .val (.int (0 : Int32)), .val (.int (0 : Int32)), .val (.ref a5), .val (.int (1 : Int32)), .unset] []))
      refine own_step (fun _ k => XS.iload X7.here hx rfl (hb hby at_110) rfl k) ?_
      show own_Ends p e below F (T7.setTop (mkF m 112 #[.val (.int p1), .val (.int p2), .val (.int p3), .val (.int p4), .val (.int p5), .val (.int (0 : Int32)), .val (.int (0 : Int32)), .val (.ref a5), .val (.int (1 : Int32)), .unset] [(.int (0 : Int32))]))
      refine own_step (fun _ k => XS.iload X7.here hx rfl (hb hby at_112) rfl k) ?_
      show own_Ends p e below F (T7.setTop (mkF m 114 #[.val (.int p1), .val (.int p2), .val (.int p3), .val (.int p4), .val (.int p5), .val (.int (0 : Int32)), .val (.int (0 : Int32)), .val (.ref a5), .val (.int (1 : Int32)), .unset] [(.int (0 : Int32)), (.int (0 : Int32))]))
      refine own_step (fun _ k => XS.isub X7.here hx rfl (hb hby at_114) rfl k) ?_
      show own_Ends p e below F (T7.setTop (mkF m 115 #[.val (.int p1), .val (.int p2), .val (.int p3), .val (.int p4), .val (.int p5), .val (.int (0 : Int32)), .val (.int (0 : Int32)), .val (.ref a5), .val (.int (1 : Int32)), .unset] [(.int (0 : Int32))]))
      refine own_step (fun _ k => XS.ifNo X7.here hx rfl (hb hby at_115) rfl ((if0 _ _).trans (teq (by decide : (0 : Int32) = (0 : Int32))).2) k) ?_
      show own_Ends p e below F (T7.setTop (mkF m 118 #[.val (.int p1), .val (.int p2), .val (.int p3), .val (.int p4), .val (.int p5), .val (.int (0 : Int32)), .val (.int (0 : Int32)), .val (.ref a5), .val (.int (1 : Int32)), .unset] []))
      refine own_step (fun _ k => XS.iconst X7.here hx rfl (hb hby at_118) k) ?_
      show own_Ends p e below F (T7.setTop (mkF m 119 #[.val (.int p1), .val (.int p2), .val (.int p3), .val (.int p4), .val (.int p5), .val (.int (0 : Int32)), .val (.int (0 : Int32)), .val (.ref a5), .val (.int (1 : Int32)), .unset] [(.int (1 : Int32))]))
      refine own_step (fun _ k => XS.goto X7.here hx rfl (pc0 := 119) (pc' := 123) rfl (hb hby at_119) (by decide) (by decide) k) ?_
      show own_Ends p e below F (T7.setTop (mkF m 123 #[.val (.int p1), .val (.int p2), .val (.int p3), .val (.int p4), .val (.int p5), .val (.int (0 : Int32)), .val (.int (0 : Int32)), .val (.ref a5), .val (.int (1 : Int32)), .unset] [(.int (1 : Int32))]))
      refine own_step (fun _ k => XS.istore X7.here hx rfl (hb hby at_123) rfl (l' := #[.val (.int p1), .val (.int p2), .val (.int p3), .val (.int p4), .val (.int p5), .val (.int (0 : Int32)), .val (.int (0 : Int32)), .val (.ref a5), .val (.int (1 : Int32)), .val (.int (1 : Int32))]) rfl k) ?_
      show own_Ends p e below F (T7.setTop (mkF m 125 #[.val (.int p1), .val (.int p2), .val (.int p3), .val (.int p4), .val (.int p5), .val (.int (0 : Int32)), .val (.int (0 : Int32)), .val (.ref a5), .val (.int (1 : Int32)), .val (.int (1 : Int32))] []))
      refine own_step (fun _ k => XS.iload X7.here hx rfl (hb hby at_125) rfl k) ?_
      show own_Ends p e below F (T7.setTop (mkF m 127 #[.val (.int p1), .val (.int p2), .val (.int p3), .val (.int p4), .val (.int p5), .val (.int (0 : Int32)), .val (.int (0 : Int32)), .val (.ref a5), .val (.int (1 : Int32)), .val (.int (1 : Int32))] [(.int (1 : Int32))]))
      refine own_step (fun _ k => XS.ifNo X7.here hx rfl (hb hby at_127) rfl ((if0 _ _).trans (feq (by decide : ¬ ((1 : Int32) = (0 : Int32)))).1) k) ?_
      show own_Ends p e below F (T7.setTop (mkF m 130 #[.val (.int p1), .val (.int p2), .val (.int p3), .val (.int p4), .val (.int p5), .val (.int (0 : Int32)), .val (.int (0 : Int32)), .val (.ref a5), .val (.int (1 : Int32)), .val (.int (1 : Int32))] []))
      refine own_step (fun _ k => XS.aload X7.here hx rfl (hb hby at_130) rfl rfl k) ?_
      show own_Ends p e below F (T7.setTop (mkF m 132 #[.val (.int p1), .val (.int p2), .val (.int p3), .val (.int p4), .val (.int p5), .val (.int (0 : Int32)), .val (.int (0 : Int32)), .val (.ref a5), .val (.int (1 : Int32)), .val (.int (1 : Int32))] [(.ref a5)]))
      obtain ⟨cq8, kq8, qa8, qb8, qc8⟩ := isOf hZ eq7 fq0_6
      obtain ⟨_, _, ⟨T8, L8, k8, n8⟩, -, X8, ⟨Lc8, hQ8, l8, y8, z8⟩, st8⟩ := X7.virtualBack hx (y := (⟨"com/example/concept_reasoner/conceptreasoner/completion/IntList", "isEmpty", "()Z"⟩ : MethodName)) (z := (⟨"com/example/concept_reasoner/conceptreasoner/completion/IntList", "isEmpty", "()Z"⟩ : MethodName)) hown (mvT hZ (own_g hw 13 rfl)) (mvT hZ (own_g hw 14 rfl)) (notFace_of_selects (args := #[]) (mvT hZ (own_g hw 16 rfl))) (mvT hZ (own_g hw 16 rfl)) (mvT hZ (own_g hw 15 rfl)) (by decide) (backOf (W := 0) (rm3 l Z a0 hw [] a5 (0 : Int32) T6.heap n0 Z6 fq2_6) hZ (own_g hw 17 rfl) (own_g hw 2 rfl) (by decide) (by decide)) qa8 qc8 (g := (mkF m 132 #[.val (.int p1), .val (.int p2), .val (.int p3), .val (.int p4), .val (.int p5), .val (.int (0 : Int32)), .val (.int (0 : Int32)), .val (.ref a5), .val (.int (1 : Int32)), .val (.int (1 : Int32))] [(.ref a5)])) rfl (by rw [hml]; rfl) (Steps.refl _) (argsL := []) (rest := []) (lenOf pd__28_29Z rfl) rfl (by show 2 * 0 + _ ≤ _; exact Nat.le_of_eq rfl) (hb hby at_132) (fun _ _ => ⟨rfl, eq7, (by decide : 1 + 0 ≤ _), (by decide : 2 + 0 ≤ _)⟩)
      dsimp only [Pt.U, Pt.locs, Pt.cells, Pt.slots] at X8 l8 y8 z8 st8 hQ8
      subst l8 y8 z8
      obtain ⟨rfl, Nq8, eq8⟩ := hQ8
      have N8 := Fr.app N7 Nq8
      refine own_trans st8 ?_
      show own_Ends p e below F (T8.setTop (mkF m 135 #[.val (.int p1), .val (.int p2), .val (.int p3), .val (.int p4), .val (.int p5), .val (.int (0 : Int32)), .val (.int (0 : Int32)), .val (.ref a5), .val (.int (1 : Int32)), .val (.int (1 : Int32))] [(.int (own_emp (0 : Int32)))]))
      rw [show (own_emp (0 : Int32)) = (1 : Int32) from (by first | rfl | decide)]
      show own_Ends p e below F (T8.setTop (mkF m 135 #[.val (.int p1), .val (.int p2), .val (.int p3), .val (.int p4), .val (.int p5), .val (.int (0 : Int32)), .val (.int (0 : Int32)), .val (.ref a5), .val (.int (1 : Int32)), .val (.int (1 : Int32))] [(.int (1 : Int32))]))
      refine own_step (fun _ k => XS.iload X8.here hx rfl (hb hby at_135) rfl k) ?_
      show own_Ends p e below F (T8.setTop (mkF m 137 #[.val (.int p1), .val (.int p2), .val (.int p3), .val (.int p4), .val (.int p5), .val (.int (0 : Int32)), .val (.int (0 : Int32)), .val (.ref a5), .val (.int (1 : Int32)), .val (.int (1 : Int32))] [(.int (1 : Int32)), (.int (1 : Int32))]))
      refine own_step (fun _ k => XS.icmpNo X8.here hx rfl (hb hby at_137) rfl (teq (by decide : (1 : Int32) = (1 : Int32))).2 k) ?_
      show own_Ends p e below F (T8.setTop (mkF m 140 #[.val (.int p1), .val (.int p2), .val (.int p3), .val (.int p4), .val (.int p5), .val (.int (0 : Int32)), .val (.int (0 : Int32)), .val (.ref a5), .val (.int (1 : Int32)), .val (.int (1 : Int32))] []))
      refine own_step (fun _ k => XS.iconst X8.here hx rfl (hb hby at_140) k) ?_
      show own_Ends p e below F (T8.setTop (mkF m 141 #[.val (.int p1), .val (.int p2), .val (.int p3), .val (.int p4), .val (.int p5), .val (.int (0 : Int32)), .val (.int (0 : Int32)), .val (.ref a5), .val (.int (1 : Int32)), .val (.int (1 : Int32))] [(.int (1 : Int32))]))
      refine own_step (fun _ k => XS.goto X8.here hx rfl (pc0 := 141) (pc' := 145) rfl (hb hby at_141) (by decide) (by decide) k) ?_
      show own_Ends p e below F (T8.setTop (mkF m 145 #[.val (.int p1), .val (.int p2), .val (.int p3), .val (.int p4), .val (.int p5), .val (.int (0 : Int32)), .val (.int (0 : Int32)), .val (.ref a5), .val (.int (1 : Int32)), .val (.int (1 : Int32))] [(.int (1 : Int32))]))
      rw [hF]
      exact own_ret X8 (v := (some (.int (nar .boolean (1 : Int32))))) (fun h => by rw [Bd.returns] at h; cases h) Bd.notSynchronized (fun fs hr => retN X8 hx (t := .boolean) Bd.returns (by simp) (hb hby at_145) hr) (by decide) (by decide) (by rw [eq8]; exact ⟨rfl, N8⟩)
    · rw [q10]
      show own_Ends p e below F (s₁.setTop (mkF m 10 #[.val (.int p1), .val (.int p2), .val (.int p3), .val (.int p4), .val (.int p5), .val (.int (0 : Int32)), .val (.int (2 : Int32)), .unset, .unset, .unset] []))
      refine own_step (fun _ k => XS.iload X0.here hx rfl (hb hby at_10) rfl k) ?_
      show own_Ends p e below F (s₁.setTop (mkF m 12 #[.val (.int p1), .val (.int p2), .val (.int p3), .val (.int p4), .val (.int p5), .val (.int (0 : Int32)), .val (.int (2 : Int32)), .unset, .unset, .unset] [(.int (2 : Int32))]))
      refine own_step (fun _ k => XS.iload X0.here hx rfl (hb hby at_12) rfl k) ?_
      show own_Ends p e below F (s₁.setTop (mkF m 14 #[.val (.int p1), .val (.int p2), .val (.int p3), .val (.int p4), .val (.int p5), .val (.int (0 : Int32)), .val (.int (2 : Int32)), .unset, .unset, .unset] [(.int (0 : Int32)), (.int (2 : Int32))]))
      refine own_step (fun _ k => XS.icmpNo X0.here hx rfl (hb hby at_14) rfl (tlt (by decide : (0 : Int32) < (2 : Int32))).2.2.2 k) ?_
      show own_Ends p e below F (s₁.setTop (mkF m 17 #[.val (.int p1), .val (.int p2), .val (.int p3), .val (.int p4), .val (.int p5), .val (.int (0 : Int32)), .val (.int (2 : Int32)), .unset, .unset, .unset] []))
      refine own_step (fun _ k => XS.iload X0.here hx rfl (hb hby at_17) rfl k) ?_
      show own_Ends p e below F (s₁.setTop (mkF m 19 #[.val (.int p1), .val (.int p2), .val (.int p3), .val (.int p4), .val (.int p5), .val (.int (0 : Int32)), .val (.int (2 : Int32)), .unset, .unset, .unset] [(.int (0 : Int32))]))
      refine own_step (fun _ k => XS.istore X0.here hx rfl (hb hby at_19) rfl (l' := #[.val (.int p1), .val (.int p2), .val (.int p3), .val (.int p4), .val (.int p5), .val (.int (0 : Int32)), .val (.int (0 : Int32)), .unset, .unset, .unset]) rfl k) ?_
      show own_Ends p e below F (s₁.setTop (mkF m 21 #[.val (.int p1), .val (.int p2), .val (.int p3), .val (.int p4), .val (.int p5), .val (.int (0 : Int32)), .val (.int (0 : Int32)), .unset, .unset, .unset] []))
      obtain ⟨T9, h9, X9, e9, E9, A9, D9, -, st9⟩ := newO X0 hx hZ hown (own_g hw 0 rfl) (own_g hw 1 rfl) (own_g hw 2 rfl) e0 (g := (mkF m 21 #[.val (.int p1), .val (.int p2), .val (.int p3), .val (.int p4), .val (.int p5), .val (.int (0 : Int32)), .val (.int (0 : Int32)), .unset, .unset, .unset] [])) rfl (hb hby at_21) (by decide) (by decide)
      obtain ⟨a9, g9⟩ : ∃ z, z = h0.size := ⟨_, rfl⟩
      rw [← g9] at A9 D9 st9
      have ge_a9 : n0 ≤ a9 := Nat.le_trans Z0 (Nat.le_of_eq g9.symm)
      have sz_a9 : h0.size ≤ a9 := Nat.le_trans (Nat.le_refl h0.size) (Nat.le_of_eq g9.symm)
      have ne_nn_a9 : nn ≠ a9 := Nat.ne_of_lt (by rw [g9]; exact VN.lt)
      have Z9 : n0 ≤ h9.size := Nat.le_trans Z0 E9.1
      have SZ9 : h0.size ≤ h9.size := Nat.le_trans (Nat.le_refl h0.size) E9.1
      have F9_values : Fld Z h9 a9 "com/example/concept_reasoner/conceptreasoner/completion/IntList" "values" "[I" .null := D9 (Or.inl (own_g hw 12 rfl)) (ty := (.array .int)) (by decide)
      have F9_size : Fld Z h9 a9 "com/example/concept_reasoner/conceptreasoner/completion/IntList" "size" "I" (.int (0 : Int32)) := D9 (Or.inl (own_g hw 19 rfl)) (ty := .int) (by decide)
      refine own_step st9 ?_
      show own_Ends p e below F (T9.setTop (mkF m 24 #[.val (.int p1), .val (.int p2), .val (.int p3), .val (.int p4), .val (.int p5), .val (.int (0 : Int32)), .val (.int (0 : Int32)), .unset, .unset, .unset] [(.ref a9)]))
      refine own_step (fun _ k => XS.dup X9.here hx rfl (hb hby at_24) rfl rfl k) ?_
      show own_Ends p e below F (T9.setTop (mkF m 25 #[.val (.int p1), .val (.int p2), .val (.int p3), .val (.int p4), .val (.int p5), .val (.int (0 : Int32)), .val (.int (0 : Int32)), .unset, .unset, .unset] [(.ref a9), (.ref a9)]))
      obtain ⟨_, _, ⟨T10, L10, k10, n10⟩, -, X10, ⟨Lc10, hQ10, l10, y10, z10⟩, st10⟩ := X9.specialBack hx (y := (⟨"com/example/concept_reasoner/conceptreasoner/completion/IntList", "<init>", "()V"⟩ : MethodName)) rfl hown (mvT hZ (own_g hw 3 rfl)) (mvT hZ (own_g hw 4 rfl)) (mvT hZ (own_g hw 5 rfl)) (by decide) (backOf (W := 1) (rm1 l Z a0 hw [] a9 nn h9 n0 Z9 A9 ge_a9 F9_values F9_size (Sta.ext E9 SN)) hZ (own_g hw 5 rfl) (own_g hw 2 rfl) (by decide) (by decide)) (g := (mkF m 25 #[.val (.int p1), .val (.int p2), .val (.int p3), .val (.int p4), .val (.int p5), .val (.int (0 : Int32)), .val (.int (0 : Int32)), .unset, .unset, .unset] [(.ref a9), (.ref a9)])) rfl (by rw [hml]; rfl) (Steps.refl _) (a := a9) (argsL := []) (rest := [(.ref a9)]) (lenOf pd__28_29V rfl) rfl (by show 2 * 0 + _ ≤ _; exact Nat.le_of_eq rfl) (hb hby at_25) (fun _ _ => ⟨rfl, e9, (by decide : 1 + 0 ≤ _), (by decide : 2 + 0 ≤ _)⟩)
      dsimp only [Pt.U, Pt.locs, Pt.cells, Pt.slots] at X10 l10 y10 z10 st10 hQ10
      subst l10 y10 z10
      obtain ⟨rfl, Nq10, Kq10, fq0_10, fq1_10, fq2_10⟩ := hQ10
      have N10 := Fr.app N0 Nq10
      have Z10 : n0 ≤ T10.heap.size := Nat.le_trans Z9 Kq10.1
      have SZ10 : h0.size ≤ T10.heap.size := Nat.le_trans SZ9 Kq10.1
      have S0_10 := own_Sta_keep (Sta.ext E9 SN) Kq10 (allS (own_ns_exa A9) all0)
      refine own_trans st10 ?_
      show own_Ends p e below F (T10.setTop (mkF m 28 #[.val (.int p1), .val (.int p2), .val (.int p3), .val (.int p4), .val (.int p5), .val (.int (0 : Int32)), .val (.int (0 : Int32)), .unset, .unset, .unset] [(.ref a9)]))
      refine own_step (fun _ k => XS.astore X10.here hx rfl (hb hby at_28) rfl rfl (l' := #[.val (.int p1), .val (.int p2), .val (.int p3), .val (.int p4), .val (.int p5), .val (.int (0 : Int32)), .val (.int (0 : Int32)), .val (.ref a9), .unset, .unset]) rfl k) ?_
      show own_Ends p e below F (T10.setTop (mkF m 30 #[.val (.int p1), .val (.int p2), .val (.int p3), .val (.int p4), .val (.int p5), .val (.int (0 : Int32)), .val (.int (0 : Int32)), .val (.ref a9), .unset, .unset] []))
      refine own_step (fun _ k => XS.aload X10.here hx rfl (hb hby at_30) rfl rfl k) ?_
      show own_Ends p e below F (T10.setTop (mkF m 32 #[.val (.int p1), .val (.int p2), .val (.int p3), .val (.int p4), .val (.int p5), .val (.int (0 : Int32)), .val (.int (0 : Int32)), .val (.ref a9), .unset, .unset] [(.ref a9)]))
      obtain ⟨cq11, kq11, qa11, qb11, qc11⟩ := isOf hZ rfl fq0_10
      obtain ⟨_, _, ⟨T11, L11, k11, n11⟩, -, X11, ⟨Lc11, hQ11, l11, y11, z11⟩, st11⟩ := X10.virtualBack hx (y := (⟨"com/example/concept_reasoner/conceptreasoner/completion/IntList", "isEmpty", "()Z"⟩ : MethodName)) (z := (⟨"com/example/concept_reasoner/conceptreasoner/completion/IntList", "isEmpty", "()Z"⟩ : MethodName)) hown (mvT hZ (own_g hw 13 rfl)) (mvT hZ (own_g hw 14 rfl)) (notFace_of_selects (args := #[]) (mvT hZ (own_g hw 16 rfl))) (mvT hZ (own_g hw 16 rfl)) (mvT hZ (own_g hw 15 rfl)) (by decide) (backOf (W := 0) (rm3 l Z a0 hw [] a9 (0 : Int32) T10.heap n0 Z10 fq2_10) hZ (own_g hw 17 rfl) (own_g hw 2 rfl) (by decide) (by decide)) qa11 qc11 (g := (mkF m 32 #[.val (.int p1), .val (.int p2), .val (.int p3), .val (.int p4), .val (.int p5), .val (.int (0 : Int32)), .val (.int (0 : Int32)), .val (.ref a9), .unset, .unset] [(.ref a9)])) rfl (by rw [hml]; rfl) (Steps.refl _) (argsL := []) (rest := []) (lenOf pd__28_29Z rfl) rfl (by show 2 * 0 + _ ≤ _; exact Nat.le_of_eq rfl) (hb hby at_32) (fun _ _ => ⟨rfl, rfl, (by decide : 1 + 0 ≤ _), (by decide : 2 + 0 ≤ _)⟩)
      dsimp only [Pt.U, Pt.locs, Pt.cells, Pt.slots] at X11 l11 y11 z11 st11 hQ11
      subst l11 y11 z11
      obtain ⟨rfl, Nq11, eq11⟩ := hQ11
      have N11 := Fr.app N10 Nq11
      refine own_trans st11 ?_
      show own_Ends p e below F (T11.setTop (mkF m 35 #[.val (.int p1), .val (.int p2), .val (.int p3), .val (.int p4), .val (.int p5), .val (.int (0 : Int32)), .val (.int (0 : Int32)), .val (.ref a9), .unset, .unset] [(.int (own_emp (0 : Int32)))]))
      rw [show (own_emp (0 : Int32)) = (1 : Int32) from (by first | rfl | decide)]
      show own_Ends p e below F (T11.setTop (mkF m 35 #[.val (.int p1), .val (.int p2), .val (.int p3), .val (.int p4), .val (.int p5), .val (.int (0 : Int32)), .val (.int (0 : Int32)), .val (.ref a9), .unset, .unset] [(.int (1 : Int32))]))
      refine own_step (fun _ k => XS.istore X11.here hx rfl (hb hby at_35) rfl (l' := #[.val (.int p1), .val (.int p2), .val (.int p3), .val (.int p4), .val (.int p5), .val (.int (0 : Int32)), .val (.int (0 : Int32)), .val (.ref a9), .val (.int (1 : Int32)), .unset]) rfl k) ?_
      show own_Ends p e below F (T11.setTop (mkF m 37 #[.val (.int p1), .val (.int p2), .val (.int p3), .val (.int p4), .val (.int p5), .val (.int (0 : Int32)), .val (.int (0 : Int32)), .val (.ref a9), .val (.int (1 : Int32)), .unset] []))
      refine own_step (fun _ k => XS.iload X11.here hx rfl (hb hby at_37) rfl k) ?_
      show own_Ends p e below F (T11.setTop (mkF m 39 #[.val (.int p1), .val (.int p2), .val (.int p3), .val (.int p4), .val (.int p5), .val (.int (0 : Int32)), .val (.int (0 : Int32)), .val (.ref a9), .val (.int (1 : Int32)), .unset] [(.int (0 : Int32))]))
      refine own_step (fun _ k => XS.iconst X11.here hx rfl (hb hby at_39) k) ?_
      show own_Ends p e below F (T11.setTop (mkF m 40 #[.val (.int p1), .val (.int p2), .val (.int p3), .val (.int p4), .val (.int p5), .val (.int (0 : Int32)), .val (.int (0 : Int32)), .val (.ref a9), .val (.int (1 : Int32)), .unset] [(.int (1 : Int32)), (.int (0 : Int32))]))
      refine own_step (fun _ k => XS.icmpYes X11.here hx rfl (pc0 := 40) (pc' := 49) rfl (hb hby at_40) rfl (tlt (by decide : (0 : Int32) < (1 : Int32))).1 (by decide) (by decide) k) ?_
      show own_Ends p e below F (T11.setTop (mkF m 49 #[.val (.int p1), .val (.int p2), .val (.int p3), .val (.int p4), .val (.int p5), .val (.int (0 : Int32)), .val (.int (0 : Int32)), .val (.ref a9), .val (.int (1 : Int32)), .unset] []))
      refine own_step (fun _ k => XS.iload X11.here hx rfl (hb hby at_49) rfl k) ?_
      show own_Ends p e below F (T11.setTop (mkF m 51 #[.val (.int p1), .val (.int p2), .val (.int p3), .val (.int p4), .val (.int p5), .val (.int (0 : Int32)), .val (.int (0 : Int32)), .val (.ref a9), .val (.int (1 : Int32)), .unset] [(.int (0 : Int32))]))
      refine own_step (fun _ k => XS.iconst X11.here hx rfl (hb hby at_51) k) ?_
      show own_Ends p e below F (T11.setTop (mkF m 52 #[.val (.int p1), .val (.int p2), .val (.int p3), .val (.int p4), .val (.int p5), .val (.int (0 : Int32)), .val (.int (0 : Int32)), .val (.ref a9), .val (.int (1 : Int32)), .unset] [(.int (2 : Int32)), (.int (0 : Int32))]))
      refine own_step (fun _ k => XS.icmpYes X11.here hx rfl (pc0 := 52) (pc' := 61) rfl (hb hby at_52) rfl (tlt (by decide : (0 : Int32) < (2 : Int32))).1 (by decide) (by decide) k) ?_
      show own_Ends p e below F (T11.setTop (mkF m 61 #[.val (.int p1), .val (.int p2), .val (.int p3), .val (.int p4), .val (.int p5), .val (.int (0 : Int32)), .val (.int (0 : Int32)), .val (.ref a9), .val (.int (1 : Int32)), .unset] []))
      refine own_step (fun _ k => XS.iload X11.here hx rfl (hb hby at_61) rfl k) ?_
      show own_Ends p e below F (T11.setTop (mkF m 63 #[.val (.int p1), .val (.int p2), .val (.int p3), .val (.int p4), .val (.int p5), .val (.int (0 : Int32)), .val (.int (0 : Int32)), .val (.ref a9), .val (.int (1 : Int32)), .unset] [(.int (0 : Int32))]))
      refine own_step (fun _ k => XS.iconst X11.here hx rfl (hb hby at_63) k) ?_
      show own_Ends p e below F (T11.setTop (mkF m 64 #[.val (.int p1), .val (.int p2), .val (.int p3), .val (.int p4), .val (.int p5), .val (.int (0 : Int32)), .val (.int (0 : Int32)), .val (.ref a9), .val (.int (1 : Int32)), .unset] [(.int (3 : Int32)), (.int (0 : Int32))]))
      refine own_step (fun _ k => XS.icmpYes X11.here hx rfl (pc0 := 64) (pc' := 74) rfl (hb hby at_64) rfl (tlt (by decide : (0 : Int32) < (3 : Int32))).1 (by decide) (by decide) k) ?_
      show own_Ends p e below F (T11.setTop (mkF m 74 #[.val (.int p1), .val (.int p2), .val (.int p3), .val (.int p4), .val (.int p5), .val (.int (0 : Int32)), .val (.int (0 : Int32)), .val (.ref a9), .val (.int (1 : Int32)), .unset] []))
      refine own_step (fun _ k => XS.iload X11.here hx rfl (hb hby at_74) rfl k) ?_
      show own_Ends p e below F (T11.setTop (mkF m 76 #[.val (.int p1), .val (.int p2), .val (.int p3), .val (.int p4), .val (.int p5), .val (.int (0 : Int32)), .val (.int (0 : Int32)), .val (.ref a9), .val (.int (1 : Int32)), .unset] [(.int (0 : Int32))]))
      refine own_step (fun _ k => XS.iconst X11.here hx rfl (hb hby at_76) k) ?_
      show own_Ends p e below F (T11.setTop (mkF m 77 #[.val (.int p1), .val (.int p2), .val (.int p3), .val (.int p4), .val (.int p5), .val (.int (0 : Int32)), .val (.int (0 : Int32)), .val (.ref a9), .val (.int (1 : Int32)), .unset] [(.int (1 : Int32)), (.int (0 : Int32))]))
      refine own_step (fun _ k => XS.icmpYes X11.here hx rfl (pc0 := 77) (pc' := 86) rfl (hb hby at_77) rfl (tlt (by decide : (0 : Int32) < (1 : Int32))).1 (by decide) (by decide) k) ?_
      show own_Ends p e below F (T11.setTop (mkF m 86 #[.val (.int p1), .val (.int p2), .val (.int p3), .val (.int p4), .val (.int p5), .val (.int (0 : Int32)), .val (.int (0 : Int32)), .val (.ref a9), .val (.int (1 : Int32)), .unset] []))
      refine own_step (fun _ k => XS.iload X11.here hx rfl (hb hby at_86) rfl k) ?_
      show own_Ends p e below F (T11.setTop (mkF m 88 #[.val (.int p1), .val (.int p2), .val (.int p3), .val (.int p4), .val (.int p5), .val (.int (0 : Int32)), .val (.int (0 : Int32)), .val (.ref a9), .val (.int (1 : Int32)), .unset] [(.int (0 : Int32))]))
      refine own_step (fun _ k => XS.iconst X11.here hx rfl (hb hby at_88) k) ?_
      show own_Ends p e below F (T11.setTop (mkF m 89 #[.val (.int p1), .val (.int p2), .val (.int p3), .val (.int p4), .val (.int p5), .val (.int (0 : Int32)), .val (.int (0 : Int32)), .val (.ref a9), .val (.int (1 : Int32)), .unset] [(.int (2 : Int32)), (.int (0 : Int32))]))
      refine own_step (fun _ k => XS.icmpYes X11.here hx rfl (pc0 := 89) (pc' := 98) rfl (hb hby at_89) rfl (tlt (by decide : (0 : Int32) < (2 : Int32))).1 (by decide) (by decide) k) ?_
      show own_Ends p e below F (T11.setTop (mkF m 98 #[.val (.int p1), .val (.int p2), .val (.int p3), .val (.int p4), .val (.int p5), .val (.int (0 : Int32)), .val (.int (0 : Int32)), .val (.ref a9), .val (.int (1 : Int32)), .unset] []))
      refine own_step (fun _ k => XS.iload X11.here hx rfl (hb hby at_98) rfl k) ?_
      show own_Ends p e below F (T11.setTop (mkF m 100 #[.val (.int p1), .val (.int p2), .val (.int p3), .val (.int p4), .val (.int p5), .val (.int (0 : Int32)), .val (.int (0 : Int32)), .val (.ref a9), .val (.int (1 : Int32)), .unset] [(.int (0 : Int32))]))
      refine own_step (fun _ k => XS.iconst X11.here hx rfl (hb hby at_100) k) ?_
      show own_Ends p e below F (T11.setTop (mkF m 101 #[.val (.int p1), .val (.int p2), .val (.int p3), .val (.int p4), .val (.int p5), .val (.int (0 : Int32)), .val (.int (0 : Int32)), .val (.ref a9), .val (.int (1 : Int32)), .unset] [(.int (3 : Int32)), (.int (0 : Int32))]))
      refine own_step (fun _ k => XS.icmpYes X11.here hx rfl (pc0 := 101) (pc' := 110) rfl (hb hby at_101) rfl (tlt (by decide : (0 : Int32) < (3 : Int32))).1 (by decide) (by decide) k) ?_
      show own_Ends p e below F (T11.setTop (mkF m 110 #[.val (.int p1), .val (.int p2), .val (.int p3), .val (.int p4), .val (.int p5), .val (.int (0 : Int32)), .val (.int (0 : Int32)), .val (.ref a9), .val (.int (1 : Int32)), .unset] []))
      refine own_step (fun _ k => XS.iload X11.here hx rfl (hb hby at_110) rfl k) ?_
      show own_Ends p e below F (T11.setTop (mkF m 112 #[.val (.int p1), .val (.int p2), .val (.int p3), .val (.int p4), .val (.int p5), .val (.int (0 : Int32)), .val (.int (0 : Int32)), .val (.ref a9), .val (.int (1 : Int32)), .unset] [(.int (0 : Int32))]))
      refine own_step (fun _ k => XS.iload X11.here hx rfl (hb hby at_112) rfl k) ?_
      show own_Ends p e below F (T11.setTop (mkF m 114 #[.val (.int p1), .val (.int p2), .val (.int p3), .val (.int p4), .val (.int p5), .val (.int (0 : Int32)), .val (.int (0 : Int32)), .val (.ref a9), .val (.int (1 : Int32)), .unset] [(.int (0 : Int32)), (.int (0 : Int32))]))
      refine own_step (fun _ k => XS.isub X11.here hx rfl (hb hby at_114) rfl k) ?_
      show own_Ends p e below F (T11.setTop (mkF m 115 #[.val (.int p1), .val (.int p2), .val (.int p3), .val (.int p4), .val (.int p5), .val (.int (0 : Int32)), .val (.int (0 : Int32)), .val (.ref a9), .val (.int (1 : Int32)), .unset] [(.int (0 : Int32))]))
      refine own_step (fun _ k => XS.ifNo X11.here hx rfl (hb hby at_115) rfl ((if0 _ _).trans (teq (by decide : (0 : Int32) = (0 : Int32))).2) k) ?_
      show own_Ends p e below F (T11.setTop (mkF m 118 #[.val (.int p1), .val (.int p2), .val (.int p3), .val (.int p4), .val (.int p5), .val (.int (0 : Int32)), .val (.int (0 : Int32)), .val (.ref a9), .val (.int (1 : Int32)), .unset] []))
      refine own_step (fun _ k => XS.iconst X11.here hx rfl (hb hby at_118) k) ?_
      show own_Ends p e below F (T11.setTop (mkF m 119 #[.val (.int p1), .val (.int p2), .val (.int p3), .val (.int p4), .val (.int p5), .val (.int (0 : Int32)), .val (.int (0 : Int32)), .val (.ref a9), .val (.int (1 : Int32)), .unset] [(.int (1 : Int32))]))
      refine own_step (fun _ k => XS.goto X11.here hx rfl (pc0 := 119) (pc' := 123) rfl (hb hby at_119) (by decide) (by decide) k) ?_
      show own_Ends p e below F (T11.setTop (mkF m 123 #[.val (.int p1), .val (.int p2), .val (.int p3), .val (.int p4), .val (.int p5), .val (.int (0 : Int32)), .val (.int (0 : Int32)), .val (.ref a9), .val (.int (1 : Int32)), .unset] [(.int (1 : Int32))]))
      refine own_step (fun _ k => XS.istore X11.here hx rfl (hb hby at_123) rfl (l' := #[.val (.int p1), .val (.int p2), .val (.int p3), .val (.int p4), .val (.int p5), .val (.int (0 : Int32)), .val (.int (0 : Int32)), .val (.ref a9), .val (.int (1 : Int32)), .val (.int (1 : Int32))]) rfl k) ?_
      show own_Ends p e below F (T11.setTop (mkF m 125 #[.val (.int p1), .val (.int p2), .val (.int p3), .val (.int p4), .val (.int p5), .val (.int (0 : Int32)), .val (.int (0 : Int32)), .val (.ref a9), .val (.int (1 : Int32)), .val (.int (1 : Int32))] []))
      refine own_step (fun _ k => XS.iload X11.here hx rfl (hb hby at_125) rfl k) ?_
      show own_Ends p e below F (T11.setTop (mkF m 127 #[.val (.int p1), .val (.int p2), .val (.int p3), .val (.int p4), .val (.int p5), .val (.int (0 : Int32)), .val (.int (0 : Int32)), .val (.ref a9), .val (.int (1 : Int32)), .val (.int (1 : Int32))] [(.int (1 : Int32))]))
      refine own_step (fun _ k => XS.ifNo X11.here hx rfl (hb hby at_127) rfl ((if0 _ _).trans (feq (by decide : ¬ ((1 : Int32) = (0 : Int32)))).1) k) ?_
      show own_Ends p e below F (T11.setTop (mkF m 130 #[.val (.int p1), .val (.int p2), .val (.int p3), .val (.int p4), .val (.int p5), .val (.int (0 : Int32)), .val (.int (0 : Int32)), .val (.ref a9), .val (.int (1 : Int32)), .val (.int (1 : Int32))] []))
      refine own_step (fun _ k => XS.aload X11.here hx rfl (hb hby at_130) rfl rfl k) ?_
      show own_Ends p e below F (T11.setTop (mkF m 132 #[.val (.int p1), .val (.int p2), .val (.int p3), .val (.int p4), .val (.int p5), .val (.int (0 : Int32)), .val (.int (0 : Int32)), .val (.ref a9), .val (.int (1 : Int32)), .val (.int (1 : Int32))] [(.ref a9)]))
      obtain ⟨cq12, kq12, qa12, qb12, qc12⟩ := isOf hZ eq11 fq0_10
      obtain ⟨_, _, ⟨T12, L12, k12, n12⟩, -, X12, ⟨Lc12, hQ12, l12, y12, z12⟩, st12⟩ := X11.virtualBack hx (y := (⟨"com/example/concept_reasoner/conceptreasoner/completion/IntList", "isEmpty", "()Z"⟩ : MethodName)) (z := (⟨"com/example/concept_reasoner/conceptreasoner/completion/IntList", "isEmpty", "()Z"⟩ : MethodName)) hown (mvT hZ (own_g hw 13 rfl)) (mvT hZ (own_g hw 14 rfl)) (notFace_of_selects (args := #[]) (mvT hZ (own_g hw 16 rfl))) (mvT hZ (own_g hw 16 rfl)) (mvT hZ (own_g hw 15 rfl)) (by decide) (backOf (W := 0) (rm3 l Z a0 hw [] a9 (0 : Int32) T10.heap n0 Z10 fq2_10) hZ (own_g hw 17 rfl) (own_g hw 2 rfl) (by decide) (by decide)) qa12 qc12 (g := (mkF m 132 #[.val (.int p1), .val (.int p2), .val (.int p3), .val (.int p4), .val (.int p5), .val (.int (0 : Int32)), .val (.int (0 : Int32)), .val (.ref a9), .val (.int (1 : Int32)), .val (.int (1 : Int32))] [(.ref a9)])) rfl (by rw [hml]; rfl) (Steps.refl _) (argsL := []) (rest := []) (lenOf pd__28_29Z rfl) rfl (by show 2 * 0 + _ ≤ _; exact Nat.le_of_eq rfl) (hb hby at_132) (fun _ _ => ⟨rfl, eq11, (by decide : 1 + 0 ≤ _), (by decide : 2 + 0 ≤ _)⟩)
      dsimp only [Pt.U, Pt.locs, Pt.cells, Pt.slots] at X12 l12 y12 z12 st12 hQ12
      subst l12 y12 z12
      obtain ⟨rfl, Nq12, eq12⟩ := hQ12
      have N12 := Fr.app N11 Nq12
      refine own_trans st12 ?_
      show own_Ends p e below F (T12.setTop (mkF m 135 #[.val (.int p1), .val (.int p2), .val (.int p3), .val (.int p4), .val (.int p5), .val (.int (0 : Int32)), .val (.int (0 : Int32)), .val (.ref a9), .val (.int (1 : Int32)), .val (.int (1 : Int32))] [(.int (own_emp (0 : Int32)))]))
      rw [show (own_emp (0 : Int32)) = (1 : Int32) from (by first | rfl | decide)]
      show own_Ends p e below F (T12.setTop (mkF m 135 #[.val (.int p1), .val (.int p2), .val (.int p3), .val (.int p4), .val (.int p5), .val (.int (0 : Int32)), .val (.int (0 : Int32)), .val (.ref a9), .val (.int (1 : Int32)), .val (.int (1 : Int32))] [(.int (1 : Int32))]))
      refine own_step (fun _ k => XS.iload X12.here hx rfl (hb hby at_135) rfl k) ?_
      show own_Ends p e below F (T12.setTop (mkF m 137 #[.val (.int p1), .val (.int p2), .val (.int p3), .val (.int p4), .val (.int p5), .val (.int (0 : Int32)), .val (.int (0 : Int32)), .val (.ref a9), .val (.int (1 : Int32)), .val (.int (1 : Int32))] [(.int (1 : Int32)), (.int (1 : Int32))]))
      refine own_step (fun _ k => XS.icmpNo X12.here hx rfl (hb hby at_137) rfl (teq (by decide : (1 : Int32) = (1 : Int32))).2 k) ?_
      show own_Ends p e below F (T12.setTop (mkF m 140 #[.val (.int p1), .val (.int p2), .val (.int p3), .val (.int p4), .val (.int p5), .val (.int (0 : Int32)), .val (.int (0 : Int32)), .val (.ref a9), .val (.int (1 : Int32)), .val (.int (1 : Int32))] []))
      refine own_step (fun _ k => XS.iconst X12.here hx rfl (hb hby at_140) k) ?_
      show own_Ends p e below F (T12.setTop (mkF m 141 #[.val (.int p1), .val (.int p2), .val (.int p3), .val (.int p4), .val (.int p5), .val (.int (0 : Int32)), .val (.int (0 : Int32)), .val (.ref a9), .val (.int (1 : Int32)), .val (.int (1 : Int32))] [(.int (1 : Int32))]))
      refine own_step (fun _ k => XS.goto X12.here hx rfl (pc0 := 141) (pc' := 145) rfl (hb hby at_141) (by decide) (by decide) k) ?_
      show own_Ends p e below F (T12.setTop (mkF m 145 #[.val (.int p1), .val (.int p2), .val (.int p3), .val (.int p4), .val (.int p5), .val (.int (0 : Int32)), .val (.int (0 : Int32)), .val (.ref a9), .val (.int (1 : Int32)), .val (.int (1 : Int32))] [(.int (1 : Int32))]))
      rw [hF]
      exact own_ret X12 (v := (some (.int (nar .boolean (1 : Int32))))) (fun h => by rw [Bd.returns] at h; cases h) Bd.notSynchronized (fun fs hr => retN X12 hx (t := .boolean) Bd.returns (by simp) (hb hby at_145) hr) (by decide) (by decide) (by rw [eq12]; exact ⟨rfl, N12⟩)
    · rw [q10]
      show own_Ends p e below F (s₁.setTop (mkF m 10 #[.val (.int p1), .val (.int p2), .val (.int p3), .val (.int p4), .val (.int p5), .val (.int (0 : Int32)), .val (.int (3 : Int32)), .unset, .unset, .unset] []))
      refine own_step (fun _ k => XS.iload X0.here hx rfl (hb hby at_10) rfl k) ?_
      show own_Ends p e below F (s₁.setTop (mkF m 12 #[.val (.int p1), .val (.int p2), .val (.int p3), .val (.int p4), .val (.int p5), .val (.int (0 : Int32)), .val (.int (3 : Int32)), .unset, .unset, .unset] [(.int (3 : Int32))]))
      refine own_step (fun _ k => XS.iload X0.here hx rfl (hb hby at_12) rfl k) ?_
      show own_Ends p e below F (s₁.setTop (mkF m 14 #[.val (.int p1), .val (.int p2), .val (.int p3), .val (.int p4), .val (.int p5), .val (.int (0 : Int32)), .val (.int (3 : Int32)), .unset, .unset, .unset] [(.int (0 : Int32)), (.int (3 : Int32))]))
      refine own_step (fun _ k => XS.icmpNo X0.here hx rfl (hb hby at_14) rfl (tlt (by decide : (0 : Int32) < (3 : Int32))).2.2.2 k) ?_
      show own_Ends p e below F (s₁.setTop (mkF m 17 #[.val (.int p1), .val (.int p2), .val (.int p3), .val (.int p4), .val (.int p5), .val (.int (0 : Int32)), .val (.int (3 : Int32)), .unset, .unset, .unset] []))
      refine own_step (fun _ k => XS.iload X0.here hx rfl (hb hby at_17) rfl k) ?_
      show own_Ends p e below F (s₁.setTop (mkF m 19 #[.val (.int p1), .val (.int p2), .val (.int p3), .val (.int p4), .val (.int p5), .val (.int (0 : Int32)), .val (.int (3 : Int32)), .unset, .unset, .unset] [(.int (0 : Int32))]))
      refine own_step (fun _ k => XS.istore X0.here hx rfl (hb hby at_19) rfl (l' := #[.val (.int p1), .val (.int p2), .val (.int p3), .val (.int p4), .val (.int p5), .val (.int (0 : Int32)), .val (.int (0 : Int32)), .unset, .unset, .unset]) rfl k) ?_
      show own_Ends p e below F (s₁.setTop (mkF m 21 #[.val (.int p1), .val (.int p2), .val (.int p3), .val (.int p4), .val (.int p5), .val (.int (0 : Int32)), .val (.int (0 : Int32)), .unset, .unset, .unset] []))
      obtain ⟨T13, h13, X13, e13, E13, A13, D13, -, st13⟩ := newO X0 hx hZ hown (own_g hw 0 rfl) (own_g hw 1 rfl) (own_g hw 2 rfl) e0 (g := (mkF m 21 #[.val (.int p1), .val (.int p2), .val (.int p3), .val (.int p4), .val (.int p5), .val (.int (0 : Int32)), .val (.int (0 : Int32)), .unset, .unset, .unset] [])) rfl (hb hby at_21) (by decide) (by decide)
      obtain ⟨a13, g13⟩ : ∃ z, z = h0.size := ⟨_, rfl⟩
      rw [← g13] at A13 D13 st13
      have ge_a13 : n0 ≤ a13 := Nat.le_trans Z0 (Nat.le_of_eq g13.symm)
      have sz_a13 : h0.size ≤ a13 := Nat.le_trans (Nat.le_refl h0.size) (Nat.le_of_eq g13.symm)
      have ne_nn_a13 : nn ≠ a13 := Nat.ne_of_lt (by rw [g13]; exact VN.lt)
      have Z13 : n0 ≤ h13.size := Nat.le_trans Z0 E13.1
      have SZ13 : h0.size ≤ h13.size := Nat.le_trans (Nat.le_refl h0.size) E13.1
      have F13_values : Fld Z h13 a13 "com/example/concept_reasoner/conceptreasoner/completion/IntList" "values" "[I" .null := D13 (Or.inl (own_g hw 12 rfl)) (ty := (.array .int)) (by decide)
      have F13_size : Fld Z h13 a13 "com/example/concept_reasoner/conceptreasoner/completion/IntList" "size" "I" (.int (0 : Int32)) := D13 (Or.inl (own_g hw 19 rfl)) (ty := .int) (by decide)
      refine own_step st13 ?_
      show own_Ends p e below F (T13.setTop (mkF m 24 #[.val (.int p1), .val (.int p2), .val (.int p3), .val (.int p4), .val (.int p5), .val (.int (0 : Int32)), .val (.int (0 : Int32)), .unset, .unset, .unset] [(.ref a13)]))
      refine own_step (fun _ k => XS.dup X13.here hx rfl (hb hby at_24) rfl rfl k) ?_
      show own_Ends p e below F (T13.setTop (mkF m 25 #[.val (.int p1), .val (.int p2), .val (.int p3), .val (.int p4), .val (.int p5), .val (.int (0 : Int32)), .val (.int (0 : Int32)), .unset, .unset, .unset] [(.ref a13), (.ref a13)]))
      obtain ⟨_, _, ⟨T14, L14, k14, n14⟩, -, X14, ⟨Lc14, hQ14, l14, y14, z14⟩, st14⟩ := X13.specialBack hx (y := (⟨"com/example/concept_reasoner/conceptreasoner/completion/IntList", "<init>", "()V"⟩ : MethodName)) rfl hown (mvT hZ (own_g hw 3 rfl)) (mvT hZ (own_g hw 4 rfl)) (mvT hZ (own_g hw 5 rfl)) (by decide) (backOf (W := 1) (rm1 l Z a0 hw [] a13 nn h13 n0 Z13 A13 ge_a13 F13_values F13_size (Sta.ext E13 SN)) hZ (own_g hw 5 rfl) (own_g hw 2 rfl) (by decide) (by decide)) (g := (mkF m 25 #[.val (.int p1), .val (.int p2), .val (.int p3), .val (.int p4), .val (.int p5), .val (.int (0 : Int32)), .val (.int (0 : Int32)), .unset, .unset, .unset] [(.ref a13), (.ref a13)])) rfl (by rw [hml]; rfl) (Steps.refl _) (a := a13) (argsL := []) (rest := [(.ref a13)]) (lenOf pd__28_29V rfl) rfl (by show 2 * 0 + _ ≤ _; exact Nat.le_of_eq rfl) (hb hby at_25) (fun _ _ => ⟨rfl, e13, (by decide : 1 + 0 ≤ _), (by decide : 2 + 0 ≤ _)⟩)
      dsimp only [Pt.U, Pt.locs, Pt.cells, Pt.slots] at X14 l14 y14 z14 st14 hQ14
      subst l14 y14 z14
      obtain ⟨rfl, Nq14, Kq14, fq0_14, fq1_14, fq2_14⟩ := hQ14
      have N14 := Fr.app N0 Nq14
      have Z14 : n0 ≤ T14.heap.size := Nat.le_trans Z13 Kq14.1
      have SZ14 : h0.size ≤ T14.heap.size := Nat.le_trans SZ13 Kq14.1
      have S0_14 := own_Sta_keep (Sta.ext E13 SN) Kq14 (allS (own_ns_exa A13) all0)
      refine own_trans st14 ?_
      show own_Ends p e below F (T14.setTop (mkF m 28 #[.val (.int p1), .val (.int p2), .val (.int p3), .val (.int p4), .val (.int p5), .val (.int (0 : Int32)), .val (.int (0 : Int32)), .unset, .unset, .unset] [(.ref a13)]))
      refine own_step (fun _ k => XS.astore X14.here hx rfl (hb hby at_28) rfl rfl (l' := #[.val (.int p1), .val (.int p2), .val (.int p3), .val (.int p4), .val (.int p5), .val (.int (0 : Int32)), .val (.int (0 : Int32)), .val (.ref a13), .unset, .unset]) rfl k) ?_
      show own_Ends p e below F (T14.setTop (mkF m 30 #[.val (.int p1), .val (.int p2), .val (.int p3), .val (.int p4), .val (.int p5), .val (.int (0 : Int32)), .val (.int (0 : Int32)), .val (.ref a13), .unset, .unset] []))
      refine own_step (fun _ k => XS.aload X14.here hx rfl (hb hby at_30) rfl rfl k) ?_
      show own_Ends p e below F (T14.setTop (mkF m 32 #[.val (.int p1), .val (.int p2), .val (.int p3), .val (.int p4), .val (.int p5), .val (.int (0 : Int32)), .val (.int (0 : Int32)), .val (.ref a13), .unset, .unset] [(.ref a13)]))
      obtain ⟨cq15, kq15, qa15, qb15, qc15⟩ := isOf hZ rfl fq0_14
      obtain ⟨_, _, ⟨T15, L15, k15, n15⟩, -, X15, ⟨Lc15, hQ15, l15, y15, z15⟩, st15⟩ := X14.virtualBack hx (y := (⟨"com/example/concept_reasoner/conceptreasoner/completion/IntList", "isEmpty", "()Z"⟩ : MethodName)) (z := (⟨"com/example/concept_reasoner/conceptreasoner/completion/IntList", "isEmpty", "()Z"⟩ : MethodName)) hown (mvT hZ (own_g hw 13 rfl)) (mvT hZ (own_g hw 14 rfl)) (notFace_of_selects (args := #[]) (mvT hZ (own_g hw 16 rfl))) (mvT hZ (own_g hw 16 rfl)) (mvT hZ (own_g hw 15 rfl)) (by decide) (backOf (W := 0) (rm3 l Z a0 hw [] a13 (0 : Int32) T14.heap n0 Z14 fq2_14) hZ (own_g hw 17 rfl) (own_g hw 2 rfl) (by decide) (by decide)) qa15 qc15 (g := (mkF m 32 #[.val (.int p1), .val (.int p2), .val (.int p3), .val (.int p4), .val (.int p5), .val (.int (0 : Int32)), .val (.int (0 : Int32)), .val (.ref a13), .unset, .unset] [(.ref a13)])) rfl (by rw [hml]; rfl) (Steps.refl _) (argsL := []) (rest := []) (lenOf pd__28_29Z rfl) rfl (by show 2 * 0 + _ ≤ _; exact Nat.le_of_eq rfl) (hb hby at_32) (fun _ _ => ⟨rfl, rfl, (by decide : 1 + 0 ≤ _), (by decide : 2 + 0 ≤ _)⟩)
      dsimp only [Pt.U, Pt.locs, Pt.cells, Pt.slots] at X15 l15 y15 z15 st15 hQ15
      subst l15 y15 z15
      obtain ⟨rfl, Nq15, eq15⟩ := hQ15
      have N15 := Fr.app N14 Nq15
      refine own_trans st15 ?_
      show own_Ends p e below F (T15.setTop (mkF m 35 #[.val (.int p1), .val (.int p2), .val (.int p3), .val (.int p4), .val (.int p5), .val (.int (0 : Int32)), .val (.int (0 : Int32)), .val (.ref a13), .unset, .unset] [(.int (own_emp (0 : Int32)))]))
      rw [show (own_emp (0 : Int32)) = (1 : Int32) from (by first | rfl | decide)]
      show own_Ends p e below F (T15.setTop (mkF m 35 #[.val (.int p1), .val (.int p2), .val (.int p3), .val (.int p4), .val (.int p5), .val (.int (0 : Int32)), .val (.int (0 : Int32)), .val (.ref a13), .unset, .unset] [(.int (1 : Int32))]))
      refine own_step (fun _ k => XS.istore X15.here hx rfl (hb hby at_35) rfl (l' := #[.val (.int p1), .val (.int p2), .val (.int p3), .val (.int p4), .val (.int p5), .val (.int (0 : Int32)), .val (.int (0 : Int32)), .val (.ref a13), .val (.int (1 : Int32)), .unset]) rfl k) ?_
      show own_Ends p e below F (T15.setTop (mkF m 37 #[.val (.int p1), .val (.int p2), .val (.int p3), .val (.int p4), .val (.int p5), .val (.int (0 : Int32)), .val (.int (0 : Int32)), .val (.ref a13), .val (.int (1 : Int32)), .unset] []))
      refine own_step (fun _ k => XS.iload X15.here hx rfl (hb hby at_37) rfl k) ?_
      show own_Ends p e below F (T15.setTop (mkF m 39 #[.val (.int p1), .val (.int p2), .val (.int p3), .val (.int p4), .val (.int p5), .val (.int (0 : Int32)), .val (.int (0 : Int32)), .val (.ref a13), .val (.int (1 : Int32)), .unset] [(.int (0 : Int32))]))
      refine own_step (fun _ k => XS.iconst X15.here hx rfl (hb hby at_39) k) ?_
      show own_Ends p e below F (T15.setTop (mkF m 40 #[.val (.int p1), .val (.int p2), .val (.int p3), .val (.int p4), .val (.int p5), .val (.int (0 : Int32)), .val (.int (0 : Int32)), .val (.ref a13), .val (.int (1 : Int32)), .unset] [(.int (1 : Int32)), (.int (0 : Int32))]))
      refine own_step (fun _ k => XS.icmpYes X15.here hx rfl (pc0 := 40) (pc' := 49) rfl (hb hby at_40) rfl (tlt (by decide : (0 : Int32) < (1 : Int32))).1 (by decide) (by decide) k) ?_
      show own_Ends p e below F (T15.setTop (mkF m 49 #[.val (.int p1), .val (.int p2), .val (.int p3), .val (.int p4), .val (.int p5), .val (.int (0 : Int32)), .val (.int (0 : Int32)), .val (.ref a13), .val (.int (1 : Int32)), .unset] []))
      refine own_step (fun _ k => XS.iload X15.here hx rfl (hb hby at_49) rfl k) ?_
      show own_Ends p e below F (T15.setTop (mkF m 51 #[.val (.int p1), .val (.int p2), .val (.int p3), .val (.int p4), .val (.int p5), .val (.int (0 : Int32)), .val (.int (0 : Int32)), .val (.ref a13), .val (.int (1 : Int32)), .unset] [(.int (0 : Int32))]))
      refine own_step (fun _ k => XS.iconst X15.here hx rfl (hb hby at_51) k) ?_
      show own_Ends p e below F (T15.setTop (mkF m 52 #[.val (.int p1), .val (.int p2), .val (.int p3), .val (.int p4), .val (.int p5), .val (.int (0 : Int32)), .val (.int (0 : Int32)), .val (.ref a13), .val (.int (1 : Int32)), .unset] [(.int (2 : Int32)), (.int (0 : Int32))]))
      refine own_step (fun _ k => XS.icmpYes X15.here hx rfl (pc0 := 52) (pc' := 61) rfl (hb hby at_52) rfl (tlt (by decide : (0 : Int32) < (2 : Int32))).1 (by decide) (by decide) k) ?_
      show own_Ends p e below F (T15.setTop (mkF m 61 #[.val (.int p1), .val (.int p2), .val (.int p3), .val (.int p4), .val (.int p5), .val (.int (0 : Int32)), .val (.int (0 : Int32)), .val (.ref a13), .val (.int (1 : Int32)), .unset] []))
      refine own_step (fun _ k => XS.iload X15.here hx rfl (hb hby at_61) rfl k) ?_
      show own_Ends p e below F (T15.setTop (mkF m 63 #[.val (.int p1), .val (.int p2), .val (.int p3), .val (.int p4), .val (.int p5), .val (.int (0 : Int32)), .val (.int (0 : Int32)), .val (.ref a13), .val (.int (1 : Int32)), .unset] [(.int (0 : Int32))]))
      refine own_step (fun _ k => XS.iconst X15.here hx rfl (hb hby at_63) k) ?_
      show own_Ends p e below F (T15.setTop (mkF m 64 #[.val (.int p1), .val (.int p2), .val (.int p3), .val (.int p4), .val (.int p5), .val (.int (0 : Int32)), .val (.int (0 : Int32)), .val (.ref a13), .val (.int (1 : Int32)), .unset] [(.int (3 : Int32)), (.int (0 : Int32))]))
      refine own_step (fun _ k => XS.icmpYes X15.here hx rfl (pc0 := 64) (pc' := 74) rfl (hb hby at_64) rfl (tlt (by decide : (0 : Int32) < (3 : Int32))).1 (by decide) (by decide) k) ?_
      show own_Ends p e below F (T15.setTop (mkF m 74 #[.val (.int p1), .val (.int p2), .val (.int p3), .val (.int p4), .val (.int p5), .val (.int (0 : Int32)), .val (.int (0 : Int32)), .val (.ref a13), .val (.int (1 : Int32)), .unset] []))
      refine own_step (fun _ k => XS.iload X15.here hx rfl (hb hby at_74) rfl k) ?_
      show own_Ends p e below F (T15.setTop (mkF m 76 #[.val (.int p1), .val (.int p2), .val (.int p3), .val (.int p4), .val (.int p5), .val (.int (0 : Int32)), .val (.int (0 : Int32)), .val (.ref a13), .val (.int (1 : Int32)), .unset] [(.int (0 : Int32))]))
      refine own_step (fun _ k => XS.iconst X15.here hx rfl (hb hby at_76) k) ?_
      show own_Ends p e below F (T15.setTop (mkF m 77 #[.val (.int p1), .val (.int p2), .val (.int p3), .val (.int p4), .val (.int p5), .val (.int (0 : Int32)), .val (.int (0 : Int32)), .val (.ref a13), .val (.int (1 : Int32)), .unset] [(.int (1 : Int32)), (.int (0 : Int32))]))
      refine own_step (fun _ k => XS.icmpYes X15.here hx rfl (pc0 := 77) (pc' := 86) rfl (hb hby at_77) rfl (tlt (by decide : (0 : Int32) < (1 : Int32))).1 (by decide) (by decide) k) ?_
      show own_Ends p e below F (T15.setTop (mkF m 86 #[.val (.int p1), .val (.int p2), .val (.int p3), .val (.int p4), .val (.int p5), .val (.int (0 : Int32)), .val (.int (0 : Int32)), .val (.ref a13), .val (.int (1 : Int32)), .unset] []))
      refine own_step (fun _ k => XS.iload X15.here hx rfl (hb hby at_86) rfl k) ?_
      show own_Ends p e below F (T15.setTop (mkF m 88 #[.val (.int p1), .val (.int p2), .val (.int p3), .val (.int p4), .val (.int p5), .val (.int (0 : Int32)), .val (.int (0 : Int32)), .val (.ref a13), .val (.int (1 : Int32)), .unset] [(.int (0 : Int32))]))
      refine own_step (fun _ k => XS.iconst X15.here hx rfl (hb hby at_88) k) ?_
      show own_Ends p e below F (T15.setTop (mkF m 89 #[.val (.int p1), .val (.int p2), .val (.int p3), .val (.int p4), .val (.int p5), .val (.int (0 : Int32)), .val (.int (0 : Int32)), .val (.ref a13), .val (.int (1 : Int32)), .unset] [(.int (2 : Int32)), (.int (0 : Int32))]))
      refine own_step (fun _ k => XS.icmpYes X15.here hx rfl (pc0 := 89) (pc' := 98) rfl (hb hby at_89) rfl (tlt (by decide : (0 : Int32) < (2 : Int32))).1 (by decide) (by decide) k) ?_
      show own_Ends p e below F (T15.setTop (mkF m 98 #[.val (.int p1), .val (.int p2), .val (.int p3), .val (.int p4), .val (.int p5), .val (.int (0 : Int32)), .val (.int (0 : Int32)), .val (.ref a13), .val (.int (1 : Int32)), .unset] []))
      refine own_step (fun _ k => XS.iload X15.here hx rfl (hb hby at_98) rfl k) ?_
      show own_Ends p e below F (T15.setTop (mkF m 100 #[.val (.int p1), .val (.int p2), .val (.int p3), .val (.int p4), .val (.int p5), .val (.int (0 : Int32)), .val (.int (0 : Int32)), .val (.ref a13), .val (.int (1 : Int32)), .unset] [(.int (0 : Int32))]))
      refine own_step (fun _ k => XS.iconst X15.here hx rfl (hb hby at_100) k) ?_
      show own_Ends p e below F (T15.setTop (mkF m 101 #[.val (.int p1), .val (.int p2), .val (.int p3), .val (.int p4), .val (.int p5), .val (.int (0 : Int32)), .val (.int (0 : Int32)), .val (.ref a13), .val (.int (1 : Int32)), .unset] [(.int (3 : Int32)), (.int (0 : Int32))]))
      refine own_step (fun _ k => XS.icmpYes X15.here hx rfl (pc0 := 101) (pc' := 110) rfl (hb hby at_101) rfl (tlt (by decide : (0 : Int32) < (3 : Int32))).1 (by decide) (by decide) k) ?_
      show own_Ends p e below F (T15.setTop (mkF m 110 #[.val (.int p1), .val (.int p2), .val (.int p3), .val (.int p4), .val (.int p5), .val (.int (0 : Int32)), .val (.int (0 : Int32)), .val (.ref a13), .val (.int (1 : Int32)), .unset] []))
      refine own_step (fun _ k => XS.iload X15.here hx rfl (hb hby at_110) rfl k) ?_
      show own_Ends p e below F (T15.setTop (mkF m 112 #[.val (.int p1), .val (.int p2), .val (.int p3), .val (.int p4), .val (.int p5), .val (.int (0 : Int32)), .val (.int (0 : Int32)), .val (.ref a13), .val (.int (1 : Int32)), .unset] [(.int (0 : Int32))]))
      refine own_step (fun _ k => XS.iload X15.here hx rfl (hb hby at_112) rfl k) ?_
      show own_Ends p e below F (T15.setTop (mkF m 114 #[.val (.int p1), .val (.int p2), .val (.int p3), .val (.int p4), .val (.int p5), .val (.int (0 : Int32)), .val (.int (0 : Int32)), .val (.ref a13), .val (.int (1 : Int32)), .unset] [(.int (0 : Int32)), (.int (0 : Int32))]))
      refine own_step (fun _ k => XS.isub X15.here hx rfl (hb hby at_114) rfl k) ?_
      show own_Ends p e below F (T15.setTop (mkF m 115 #[.val (.int p1), .val (.int p2), .val (.int p3), .val (.int p4), .val (.int p5), .val (.int (0 : Int32)), .val (.int (0 : Int32)), .val (.ref a13), .val (.int (1 : Int32)), .unset] [(.int (0 : Int32))]))
      refine own_step (fun _ k => XS.ifNo X15.here hx rfl (hb hby at_115) rfl ((if0 _ _).trans (teq (by decide : (0 : Int32) = (0 : Int32))).2) k) ?_
      show own_Ends p e below F (T15.setTop (mkF m 118 #[.val (.int p1), .val (.int p2), .val (.int p3), .val (.int p4), .val (.int p5), .val (.int (0 : Int32)), .val (.int (0 : Int32)), .val (.ref a13), .val (.int (1 : Int32)), .unset] []))
      refine own_step (fun _ k => XS.iconst X15.here hx rfl (hb hby at_118) k) ?_
      show own_Ends p e below F (T15.setTop (mkF m 119 #[.val (.int p1), .val (.int p2), .val (.int p3), .val (.int p4), .val (.int p5), .val (.int (0 : Int32)), .val (.int (0 : Int32)), .val (.ref a13), .val (.int (1 : Int32)), .unset] [(.int (1 : Int32))]))
      refine own_step (fun _ k => XS.goto X15.here hx rfl (pc0 := 119) (pc' := 123) rfl (hb hby at_119) (by decide) (by decide) k) ?_
      show own_Ends p e below F (T15.setTop (mkF m 123 #[.val (.int p1), .val (.int p2), .val (.int p3), .val (.int p4), .val (.int p5), .val (.int (0 : Int32)), .val (.int (0 : Int32)), .val (.ref a13), .val (.int (1 : Int32)), .unset] [(.int (1 : Int32))]))
      refine own_step (fun _ k => XS.istore X15.here hx rfl (hb hby at_123) rfl (l' := #[.val (.int p1), .val (.int p2), .val (.int p3), .val (.int p4), .val (.int p5), .val (.int (0 : Int32)), .val (.int (0 : Int32)), .val (.ref a13), .val (.int (1 : Int32)), .val (.int (1 : Int32))]) rfl k) ?_
      show own_Ends p e below F (T15.setTop (mkF m 125 #[.val (.int p1), .val (.int p2), .val (.int p3), .val (.int p4), .val (.int p5), .val (.int (0 : Int32)), .val (.int (0 : Int32)), .val (.ref a13), .val (.int (1 : Int32)), .val (.int (1 : Int32))] []))
      refine own_step (fun _ k => XS.iload X15.here hx rfl (hb hby at_125) rfl k) ?_
      show own_Ends p e below F (T15.setTop (mkF m 127 #[.val (.int p1), .val (.int p2), .val (.int p3), .val (.int p4), .val (.int p5), .val (.int (0 : Int32)), .val (.int (0 : Int32)), .val (.ref a13), .val (.int (1 : Int32)), .val (.int (1 : Int32))] [(.int (1 : Int32))]))
      refine own_step (fun _ k => XS.ifNo X15.here hx rfl (hb hby at_127) rfl ((if0 _ _).trans (feq (by decide : ¬ ((1 : Int32) = (0 : Int32)))).1) k) ?_
      show own_Ends p e below F (T15.setTop (mkF m 130 #[.val (.int p1), .val (.int p2), .val (.int p3), .val (.int p4), .val (.int p5), .val (.int (0 : Int32)), .val (.int (0 : Int32)), .val (.ref a13), .val (.int (1 : Int32)), .val (.int (1 : Int32))] []))
      refine own_step (fun _ k => XS.aload X15.here hx rfl (hb hby at_130) rfl rfl k) ?_
      show own_Ends p e below F (T15.setTop (mkF m 132 #[.val (.int p1), .val (.int p2), .val (.int p3), .val (.int p4), .val (.int p5), .val (.int (0 : Int32)), .val (.int (0 : Int32)), .val (.ref a13), .val (.int (1 : Int32)), .val (.int (1 : Int32))] [(.ref a13)]))
      obtain ⟨cq16, kq16, qa16, qb16, qc16⟩ := isOf hZ eq15 fq0_14
      obtain ⟨_, _, ⟨T16, L16, k16, n16⟩, -, X16, ⟨Lc16, hQ16, l16, y16, z16⟩, st16⟩ := X15.virtualBack hx (y := (⟨"com/example/concept_reasoner/conceptreasoner/completion/IntList", "isEmpty", "()Z"⟩ : MethodName)) (z := (⟨"com/example/concept_reasoner/conceptreasoner/completion/IntList", "isEmpty", "()Z"⟩ : MethodName)) hown (mvT hZ (own_g hw 13 rfl)) (mvT hZ (own_g hw 14 rfl)) (notFace_of_selects (args := #[]) (mvT hZ (own_g hw 16 rfl))) (mvT hZ (own_g hw 16 rfl)) (mvT hZ (own_g hw 15 rfl)) (by decide) (backOf (W := 0) (rm3 l Z a0 hw [] a13 (0 : Int32) T14.heap n0 Z14 fq2_14) hZ (own_g hw 17 rfl) (own_g hw 2 rfl) (by decide) (by decide)) qa16 qc16 (g := (mkF m 132 #[.val (.int p1), .val (.int p2), .val (.int p3), .val (.int p4), .val (.int p5), .val (.int (0 : Int32)), .val (.int (0 : Int32)), .val (.ref a13), .val (.int (1 : Int32)), .val (.int (1 : Int32))] [(.ref a13)])) rfl (by rw [hml]; rfl) (Steps.refl _) (argsL := []) (rest := []) (lenOf pd__28_29Z rfl) rfl (by show 2 * 0 + _ ≤ _; exact Nat.le_of_eq rfl) (hb hby at_132) (fun _ _ => ⟨rfl, eq15, (by decide : 1 + 0 ≤ _), (by decide : 2 + 0 ≤ _)⟩)
      dsimp only [Pt.U, Pt.locs, Pt.cells, Pt.slots] at X16 l16 y16 z16 st16 hQ16
      subst l16 y16 z16
      obtain ⟨rfl, Nq16, eq16⟩ := hQ16
      have N16 := Fr.app N15 Nq16
      refine own_trans st16 ?_
      show own_Ends p e below F (T16.setTop (mkF m 135 #[.val (.int p1), .val (.int p2), .val (.int p3), .val (.int p4), .val (.int p5), .val (.int (0 : Int32)), .val (.int (0 : Int32)), .val (.ref a13), .val (.int (1 : Int32)), .val (.int (1 : Int32))] [(.int (own_emp (0 : Int32)))]))
      rw [show (own_emp (0 : Int32)) = (1 : Int32) from (by first | rfl | decide)]
      show own_Ends p e below F (T16.setTop (mkF m 135 #[.val (.int p1), .val (.int p2), .val (.int p3), .val (.int p4), .val (.int p5), .val (.int (0 : Int32)), .val (.int (0 : Int32)), .val (.ref a13), .val (.int (1 : Int32)), .val (.int (1 : Int32))] [(.int (1 : Int32))]))
      refine own_step (fun _ k => XS.iload X16.here hx rfl (hb hby at_135) rfl k) ?_
      show own_Ends p e below F (T16.setTop (mkF m 137 #[.val (.int p1), .val (.int p2), .val (.int p3), .val (.int p4), .val (.int p5), .val (.int (0 : Int32)), .val (.int (0 : Int32)), .val (.ref a13), .val (.int (1 : Int32)), .val (.int (1 : Int32))] [(.int (1 : Int32)), (.int (1 : Int32))]))
      refine own_step (fun _ k => XS.icmpNo X16.here hx rfl (hb hby at_137) rfl (teq (by decide : (1 : Int32) = (1 : Int32))).2 k) ?_
      show own_Ends p e below F (T16.setTop (mkF m 140 #[.val (.int p1), .val (.int p2), .val (.int p3), .val (.int p4), .val (.int p5), .val (.int (0 : Int32)), .val (.int (0 : Int32)), .val (.ref a13), .val (.int (1 : Int32)), .val (.int (1 : Int32))] []))
      refine own_step (fun _ k => XS.iconst X16.here hx rfl (hb hby at_140) k) ?_
      show own_Ends p e below F (T16.setTop (mkF m 141 #[.val (.int p1), .val (.int p2), .val (.int p3), .val (.int p4), .val (.int p5), .val (.int (0 : Int32)), .val (.int (0 : Int32)), .val (.ref a13), .val (.int (1 : Int32)), .val (.int (1 : Int32))] [(.int (1 : Int32))]))
      refine own_step (fun _ k => XS.goto X16.here hx rfl (pc0 := 141) (pc' := 145) rfl (hb hby at_141) (by decide) (by decide) k) ?_
      show own_Ends p e below F (T16.setTop (mkF m 145 #[.val (.int p1), .val (.int p2), .val (.int p3), .val (.int p4), .val (.int p5), .val (.int (0 : Int32)), .val (.int (0 : Int32)), .val (.ref a13), .val (.int (1 : Int32)), .val (.int (1 : Int32))] [(.int (1 : Int32))]))
      rw [hF]
      exact own_ret X16 (v := (some (.int (nar .boolean (1 : Int32))))) (fun h => by rw [Bd.returns] at h; cases h) Bd.notSynchronized (fun fs hr => retN X16 hx (t := .boolean) Bd.returns (by simp) (hb hby at_145) hr) (by decide) (by decide) (by rw [eq16]; exact ⟨rfl, N16⟩)
  · rw [q5]
    show own_Ends p e below F (s₁.setTop (mkF m 5 #[.val (.int p1), .val (.int p2), .val (.int p3), .val (.int p4), .val (.int p5), .val (.int (1 : Int32)), .unset, .unset, .unset, .unset] []))
    refine own_step (fun _ k => XS.iloadN X0.here hx rfl (hb hby at_5) rfl k) ?_
    show own_Ends p e below F (s₁.setTop (mkF m 6 #[.val (.int p1), .val (.int p2), .val (.int p3), .val (.int p4), .val (.int p5), .val (.int (1 : Int32)), .unset, .unset, .unset, .unset] [(.int p2)]))
    refine own_step (fun _ k => XS.iconst X0.here hx rfl (hb hby at_6) k) ?_
    show own_Ends p e below F (s₁.setTop (mkF m 7 #[.val (.int p1), .val (.int p2), .val (.int p3), .val (.int p4), .val (.int p5), .val (.int (1 : Int32)), .unset, .unset, .unset, .unset] [(.int (3 : Int32)), (.int p2)]))
    refine own_step (fun _ k => XS.iand X0.here hx rfl (hb hby at_7) rfl k) ?_
    show own_Ends p e below F (s₁.setTop (mkF m 8 #[.val (.int p1), .val (.int p2), .val (.int p3), .val (.int p4), .val (.int p5), .val (.int (1 : Int32)), .unset, .unset, .unset, .unset] [(.int (p2 &&& (3 : Int32)))]))
    refine own_step (fun _ k => XS.istore X0.here hx rfl (hb hby at_8) rfl (l' := #[.val (.int p1), .val (.int p2), .val (.int p3), .val (.int p4), .val (.int p5), .val (.int (1 : Int32)), .val (.int (p2 &&& (3 : Int32))), .unset, .unset, .unset]) rfl k) ?_
    show own_Ends p e below F (s₁.setTop (mkF m 10 #[.val (.int p1), .val (.int p2), .val (.int p3), .val (.int p4), .val (.int p5), .val (.int (1 : Int32)), .val (.int (p2 &&& (3 : Int32))), .unset, .unset, .unset] []))
    rcases own_m3 p2 with q10 | q10 | q10 | q10
    · rw [q10]
      show own_Ends p e below F (s₁.setTop (mkF m 10 #[.val (.int p1), .val (.int p2), .val (.int p3), .val (.int p4), .val (.int p5), .val (.int (1 : Int32)), .val (.int (0 : Int32)), .unset, .unset, .unset] []))
      refine own_step (fun _ k => XS.iload X0.here hx rfl (hb hby at_10) rfl k) ?_
      show own_Ends p e below F (s₁.setTop (mkF m 12 #[.val (.int p1), .val (.int p2), .val (.int p3), .val (.int p4), .val (.int p5), .val (.int (1 : Int32)), .val (.int (0 : Int32)), .unset, .unset, .unset] [(.int (0 : Int32))]))
      refine own_step (fun _ k => XS.iload X0.here hx rfl (hb hby at_12) rfl k) ?_
      show own_Ends p e below F (s₁.setTop (mkF m 14 #[.val (.int p1), .val (.int p2), .val (.int p3), .val (.int p4), .val (.int p5), .val (.int (1 : Int32)), .val (.int (0 : Int32)), .unset, .unset, .unset] [(.int (1 : Int32)), (.int (0 : Int32))]))
      refine own_step (fun _ k => XS.icmpYes X0.here hx rfl (pc0 := 14) (pc' := 21) rfl (hb hby at_14) rfl (flt (by decide : ¬ ((1 : Int32) < (0 : Int32)))).2.2.2 (by decide) (by decide) k) ?_
      show own_Ends p e below F (s₁.setTop (mkF m 21 #[.val (.int p1), .val (.int p2), .val (.int p3), .val (.int p4), .val (.int p5), .val (.int (1 : Int32)), .val (.int (0 : Int32)), .unset, .unset, .unset] []))
      obtain ⟨T17, h17, X17, e17, E17, A17, D17, -, st17⟩ := newO X0 hx hZ hown (own_g hw 0 rfl) (own_g hw 1 rfl) (own_g hw 2 rfl) e0 (g := (mkF m 21 #[.val (.int p1), .val (.int p2), .val (.int p3), .val (.int p4), .val (.int p5), .val (.int (1 : Int32)), .val (.int (0 : Int32)), .unset, .unset, .unset] [])) rfl (hb hby at_21) (by decide) (by decide)
      obtain ⟨a17, g17⟩ : ∃ z, z = h0.size := ⟨_, rfl⟩
      rw [← g17] at A17 D17 st17
      have ge_a17 : n0 ≤ a17 := Nat.le_trans Z0 (Nat.le_of_eq g17.symm)
      have sz_a17 : h0.size ≤ a17 := Nat.le_trans (Nat.le_refl h0.size) (Nat.le_of_eq g17.symm)
      have ne_nn_a17 : nn ≠ a17 := Nat.ne_of_lt (by rw [g17]; exact VN.lt)
      have Z17 : n0 ≤ h17.size := Nat.le_trans Z0 E17.1
      have SZ17 : h0.size ≤ h17.size := Nat.le_trans (Nat.le_refl h0.size) E17.1
      have F17_values : Fld Z h17 a17 "com/example/concept_reasoner/conceptreasoner/completion/IntList" "values" "[I" .null := D17 (Or.inl (own_g hw 12 rfl)) (ty := (.array .int)) (by decide)
      have F17_size : Fld Z h17 a17 "com/example/concept_reasoner/conceptreasoner/completion/IntList" "size" "I" (.int (0 : Int32)) := D17 (Or.inl (own_g hw 19 rfl)) (ty := .int) (by decide)
      refine own_step st17 ?_
      show own_Ends p e below F (T17.setTop (mkF m 24 #[.val (.int p1), .val (.int p2), .val (.int p3), .val (.int p4), .val (.int p5), .val (.int (1 : Int32)), .val (.int (0 : Int32)), .unset, .unset, .unset] [(.ref a17)]))
      refine own_step (fun _ k => XS.dup X17.here hx rfl (hb hby at_24) rfl rfl k) ?_
      show own_Ends p e below F (T17.setTop (mkF m 25 #[.val (.int p1), .val (.int p2), .val (.int p3), .val (.int p4), .val (.int p5), .val (.int (1 : Int32)), .val (.int (0 : Int32)), .unset, .unset, .unset] [(.ref a17), (.ref a17)]))
      obtain ⟨_, _, ⟨T18, L18, k18, n18⟩, -, X18, ⟨Lc18, hQ18, l18, y18, z18⟩, st18⟩ := X17.specialBack hx (y := (⟨"com/example/concept_reasoner/conceptreasoner/completion/IntList", "<init>", "()V"⟩ : MethodName)) rfl hown (mvT hZ (own_g hw 3 rfl)) (mvT hZ (own_g hw 4 rfl)) (mvT hZ (own_g hw 5 rfl)) (by decide) (backOf (W := 1) (rm1 l Z a0 hw [] a17 nn h17 n0 Z17 A17 ge_a17 F17_values F17_size (Sta.ext E17 SN)) hZ (own_g hw 5 rfl) (own_g hw 2 rfl) (by decide) (by decide)) (g := (mkF m 25 #[.val (.int p1), .val (.int p2), .val (.int p3), .val (.int p4), .val (.int p5), .val (.int (1 : Int32)), .val (.int (0 : Int32)), .unset, .unset, .unset] [(.ref a17), (.ref a17)])) rfl (by rw [hml]; rfl) (Steps.refl _) (a := a17) (argsL := []) (rest := [(.ref a17)]) (lenOf pd__28_29V rfl) rfl (by show 2 * 0 + _ ≤ _; exact Nat.le_of_eq rfl) (hb hby at_25) (fun _ _ => ⟨rfl, e17, (by decide : 1 + 0 ≤ _), (by decide : 2 + 0 ≤ _)⟩)
      dsimp only [Pt.U, Pt.locs, Pt.cells, Pt.slots] at X18 l18 y18 z18 st18 hQ18
      subst l18 y18 z18
      obtain ⟨rfl, Nq18, Kq18, fq0_18, fq1_18, fq2_18⟩ := hQ18
      have N18 := Fr.app N0 Nq18
      have Z18 : n0 ≤ T18.heap.size := Nat.le_trans Z17 Kq18.1
      have SZ18 : h0.size ≤ T18.heap.size := Nat.le_trans SZ17 Kq18.1
      have S0_18 := own_Sta_keep (Sta.ext E17 SN) Kq18 (allS (own_ns_exa A17) all0)
      refine own_trans st18 ?_
      show own_Ends p e below F (T18.setTop (mkF m 28 #[.val (.int p1), .val (.int p2), .val (.int p3), .val (.int p4), .val (.int p5), .val (.int (1 : Int32)), .val (.int (0 : Int32)), .unset, .unset, .unset] [(.ref a17)]))
      refine own_step (fun _ k => XS.astore X18.here hx rfl (hb hby at_28) rfl rfl (l' := #[.val (.int p1), .val (.int p2), .val (.int p3), .val (.int p4), .val (.int p5), .val (.int (1 : Int32)), .val (.int (0 : Int32)), .val (.ref a17), .unset, .unset]) rfl k) ?_
      show own_Ends p e below F (T18.setTop (mkF m 30 #[.val (.int p1), .val (.int p2), .val (.int p3), .val (.int p4), .val (.int p5), .val (.int (1 : Int32)), .val (.int (0 : Int32)), .val (.ref a17), .unset, .unset] []))
      refine own_step (fun _ k => XS.aload X18.here hx rfl (hb hby at_30) rfl rfl k) ?_
      show own_Ends p e below F (T18.setTop (mkF m 32 #[.val (.int p1), .val (.int p2), .val (.int p3), .val (.int p4), .val (.int p5), .val (.int (1 : Int32)), .val (.int (0 : Int32)), .val (.ref a17), .unset, .unset] [(.ref a17)]))
      obtain ⟨cq19, kq19, qa19, qb19, qc19⟩ := isOf hZ rfl fq0_18
      obtain ⟨_, _, ⟨T19, L19, k19, n19⟩, -, X19, ⟨Lc19, hQ19, l19, y19, z19⟩, st19⟩ := X18.virtualBack hx (y := (⟨"com/example/concept_reasoner/conceptreasoner/completion/IntList", "isEmpty", "()Z"⟩ : MethodName)) (z := (⟨"com/example/concept_reasoner/conceptreasoner/completion/IntList", "isEmpty", "()Z"⟩ : MethodName)) hown (mvT hZ (own_g hw 13 rfl)) (mvT hZ (own_g hw 14 rfl)) (notFace_of_selects (args := #[]) (mvT hZ (own_g hw 16 rfl))) (mvT hZ (own_g hw 16 rfl)) (mvT hZ (own_g hw 15 rfl)) (by decide) (backOf (W := 0) (rm3 l Z a0 hw [] a17 (0 : Int32) T18.heap n0 Z18 fq2_18) hZ (own_g hw 17 rfl) (own_g hw 2 rfl) (by decide) (by decide)) qa19 qc19 (g := (mkF m 32 #[.val (.int p1), .val (.int p2), .val (.int p3), .val (.int p4), .val (.int p5), .val (.int (1 : Int32)), .val (.int (0 : Int32)), .val (.ref a17), .unset, .unset] [(.ref a17)])) rfl (by rw [hml]; rfl) (Steps.refl _) (argsL := []) (rest := []) (lenOf pd__28_29Z rfl) rfl (by show 2 * 0 + _ ≤ _; exact Nat.le_of_eq rfl) (hb hby at_32) (fun _ _ => ⟨rfl, rfl, (by decide : 1 + 0 ≤ _), (by decide : 2 + 0 ≤ _)⟩)
      dsimp only [Pt.U, Pt.locs, Pt.cells, Pt.slots] at X19 l19 y19 z19 st19 hQ19
      subst l19 y19 z19
      obtain ⟨rfl, Nq19, eq19⟩ := hQ19
      have N19 := Fr.app N18 Nq19
      refine own_trans st19 ?_
      show own_Ends p e below F (T19.setTop (mkF m 35 #[.val (.int p1), .val (.int p2), .val (.int p3), .val (.int p4), .val (.int p5), .val (.int (1 : Int32)), .val (.int (0 : Int32)), .val (.ref a17), .unset, .unset] [(.int (own_emp (0 : Int32)))]))
      rw [show (own_emp (0 : Int32)) = (1 : Int32) from (by first | rfl | decide)]
      show own_Ends p e below F (T19.setTop (mkF m 35 #[.val (.int p1), .val (.int p2), .val (.int p3), .val (.int p4), .val (.int p5), .val (.int (1 : Int32)), .val (.int (0 : Int32)), .val (.ref a17), .unset, .unset] [(.int (1 : Int32))]))
      refine own_step (fun _ k => XS.istore X19.here hx rfl (hb hby at_35) rfl (l' := #[.val (.int p1), .val (.int p2), .val (.int p3), .val (.int p4), .val (.int p5), .val (.int (1 : Int32)), .val (.int (0 : Int32)), .val (.ref a17), .val (.int (1 : Int32)), .unset]) rfl k) ?_
      show own_Ends p e below F (T19.setTop (mkF m 37 #[.val (.int p1), .val (.int p2), .val (.int p3), .val (.int p4), .val (.int p5), .val (.int (1 : Int32)), .val (.int (0 : Int32)), .val (.ref a17), .val (.int (1 : Int32)), .unset] []))
      refine own_step (fun _ k => XS.iload X19.here hx rfl (hb hby at_37) rfl k) ?_
      show own_Ends p e below F (T19.setTop (mkF m 39 #[.val (.int p1), .val (.int p2), .val (.int p3), .val (.int p4), .val (.int p5), .val (.int (1 : Int32)), .val (.int (0 : Int32)), .val (.ref a17), .val (.int (1 : Int32)), .unset] [(.int (1 : Int32))]))
      refine own_step (fun _ k => XS.iconst X19.here hx rfl (hb hby at_39) k) ?_
      show own_Ends p e below F (T19.setTop (mkF m 40 #[.val (.int p1), .val (.int p2), .val (.int p3), .val (.int p4), .val (.int p5), .val (.int (1 : Int32)), .val (.int (0 : Int32)), .val (.ref a17), .val (.int (1 : Int32)), .unset] [(.int (1 : Int32)), (.int (1 : Int32))]))
      refine own_step (fun _ k => XS.icmpNo X19.here hx rfl (hb hby at_40) rfl (flt (by decide : ¬ ((1 : Int32) < (1 : Int32)))).1 k) ?_
      show own_Ends p e below F (T19.setTop (mkF m 43 #[.val (.int p1), .val (.int p2), .val (.int p3), .val (.int p4), .val (.int p5), .val (.int (1 : Int32)), .val (.int (0 : Int32)), .val (.ref a17), .val (.int (1 : Int32)), .unset] []))
      refine own_step (fun _ k => XS.aload X19.here hx rfl (hb hby at_43) rfl rfl k) ?_
      show own_Ends p e below F (T19.setTop (mkF m 45 #[.val (.int p1), .val (.int p2), .val (.int p3), .val (.int p4), .val (.int p5), .val (.int (1 : Int32)), .val (.int (0 : Int32)), .val (.ref a17), .val (.int (1 : Int32)), .unset] [(.ref a17)]))
      refine own_step (fun _ k => XS.iloadN X19.here hx rfl (hb hby at_45) rfl k) ?_
      show own_Ends p e below F (T19.setTop (mkF m 46 #[.val (.int p1), .val (.int p2), .val (.int p3), .val (.int p4), .val (.int p5), .val (.int (1 : Int32)), .val (.int (0 : Int32)), .val (.ref a17), .val (.int (1 : Int32)), .unset] [(.int p3), (.ref a17)]))
      obtain ⟨cq20, kq20, qa20, qb20, qc20⟩ := isOf hZ eq19 fq0_18
      obtain ⟨_, _, ⟨T20, L20, k20, n20⟩, -, X20, ⟨Lc20, hQ20, l20, y20, z20⟩, st20⟩ := X19.virtualBack hx (y := (⟨"com/example/concept_reasoner/conceptreasoner/completion/IntList", "add", "(I)V"⟩ : MethodName)) (z := (⟨"com/example/concept_reasoner/conceptreasoner/completion/IntList", "add", "(I)V"⟩ : MethodName)) hown (mvT hZ (own_g hw 20 rfl)) (mvT hZ (own_g hw 21 rfl)) (notFace_of_selects (args := #[]) (mvT hZ (own_g hw 23 rfl))) (mvT hZ (own_g hw 23 rfl)) (mvT hZ (own_g hw 22 rfl)) (by decide) (backOf (W := 0) (rm4a l Z a0 hw [] a17 nn p3 kN T18.heap n0 Z18 fq0_18 ge_a17 fq2_18 fq1_18 ((VN.ext E17).keep Kq18 (ninS ne_nn_a17 nin0)) ne_nn_a17) hZ (own_g hw 24 rfl) (own_g hw 2 rfl) (by decide) (by decide)) qa20 qc20 (g := (mkF m 46 #[.val (.int p1), .val (.int p2), .val (.int p3), .val (.int p4), .val (.int p5), .val (.int (1 : Int32)), .val (.int (0 : Int32)), .val (.ref a17), .val (.int (1 : Int32)), .unset] [(.int p3), (.ref a17)])) rfl (by rw [hml]; rfl) (Steps.refl _) (argsL := [(.int p3)]) (rest := []) (lenOf pd__28I_29V rfl) rfl (by show 2 * 0 + _ ≤ _; exact Nat.le_of_eq rfl) (hb hby at_46) (fun _ _ => ⟨rfl, eq19, (by decide : 1 + 1 ≤ _), (by decide : 2 + 4 ≤ _)⟩)
      dsimp only [Pt.U, Pt.locs, Pt.cells, Pt.slots] at X20 l20 y20 z20 st20 hQ20
      subst l20 y20 z20
      obtain ⟨c20, kc20, rfl, Nq20, Kq20, fq0_20, fq1_20, fq2_20, fq3_20, fq4_20⟩ := hQ20
      have N20 := Fr.app N19 Nq20
      have Z20 : n0 ≤ T20.heap.size := Nat.le_trans Z18 Kq20.1
      have SZ20 : h0.size ≤ T20.heap.size := Nat.le_trans SZ18 Kq20.1
      have S0_20 := own_Sta_keep S0_18 Kq20 (allS (own_ns_exa fq0_18) all0)
      have ne_nn_c20 : nn ≠ c20 := Nat.ne_of_lt (Nat.lt_of_lt_of_le (((VN.ext E17).keep Kq18 (ninS ne_nn_a17 nin0))).lt fq0_20)
      have ne_a17_c20 : a17 ≠ c20 := Nat.ne_of_lt (Nat.lt_of_lt_of_le (fq1_18).lt fq0_20)
      have ge_c20 : n0 ≤ c20 := Nat.le_trans Z18 fq0_20
      have sz_c20 : h0.size ≤ c20 := Nat.le_trans SZ18 fq0_20
      refine own_trans st20 ?_
      show own_Ends p e below F (T20.setTop (mkF m 49 #[.val (.int p1), .val (.int p2), .val (.int p3), .val (.int p4), .val (.int p5), .val (.int (1 : Int32)), .val (.int (0 : Int32)), .val (.ref a17), .val (.int (1 : Int32)), .unset] []))
      refine own_step (fun _ k => XS.iload X20.here hx rfl (hb hby at_49) rfl k) ?_
      show own_Ends p e below F (T20.setTop (mkF m 51 #[.val (.int p1), .val (.int p2), .val (.int p3), .val (.int p4), .val (.int p5), .val (.int (1 : Int32)), .val (.int (0 : Int32)), .val (.ref a17), .val (.int (1 : Int32)), .unset] [(.int (1 : Int32))]))
      refine own_step (fun _ k => XS.iconst X20.here hx rfl (hb hby at_51) k) ?_
      show own_Ends p e below F (T20.setTop (mkF m 52 #[.val (.int p1), .val (.int p2), .val (.int p3), .val (.int p4), .val (.int p5), .val (.int (1 : Int32)), .val (.int (0 : Int32)), .val (.ref a17), .val (.int (1 : Int32)), .unset] [(.int (2 : Int32)), (.int (1 : Int32))]))
      refine own_step (fun _ k => XS.icmpYes X20.here hx rfl (pc0 := 52) (pc' := 61) rfl (hb hby at_52) rfl (tlt (by decide : (1 : Int32) < (2 : Int32))).1 (by decide) (by decide) k) ?_
      show own_Ends p e below F (T20.setTop (mkF m 61 #[.val (.int p1), .val (.int p2), .val (.int p3), .val (.int p4), .val (.int p5), .val (.int (1 : Int32)), .val (.int (0 : Int32)), .val (.ref a17), .val (.int (1 : Int32)), .unset] []))
      refine own_step (fun _ k => XS.iload X20.here hx rfl (hb hby at_61) rfl k) ?_
      show own_Ends p e below F (T20.setTop (mkF m 63 #[.val (.int p1), .val (.int p2), .val (.int p3), .val (.int p4), .val (.int p5), .val (.int (1 : Int32)), .val (.int (0 : Int32)), .val (.ref a17), .val (.int (1 : Int32)), .unset] [(.int (1 : Int32))]))
      refine own_step (fun _ k => XS.iconst X20.here hx rfl (hb hby at_63) k) ?_
      show own_Ends p e below F (T20.setTop (mkF m 64 #[.val (.int p1), .val (.int p2), .val (.int p3), .val (.int p4), .val (.int p5), .val (.int (1 : Int32)), .val (.int (0 : Int32)), .val (.ref a17), .val (.int (1 : Int32)), .unset] [(.int (3 : Int32)), (.int (1 : Int32))]))
      refine own_step (fun _ k => XS.icmpYes X20.here hx rfl (pc0 := 64) (pc' := 74) rfl (hb hby at_64) rfl (tlt (by decide : (1 : Int32) < (3 : Int32))).1 (by decide) (by decide) k) ?_
      show own_Ends p e below F (T20.setTop (mkF m 74 #[.val (.int p1), .val (.int p2), .val (.int p3), .val (.int p4), .val (.int p5), .val (.int (1 : Int32)), .val (.int (0 : Int32)), .val (.ref a17), .val (.int (1 : Int32)), .unset] []))
      refine own_step (fun _ k => XS.iload X20.here hx rfl (hb hby at_74) rfl k) ?_
      show own_Ends p e below F (T20.setTop (mkF m 76 #[.val (.int p1), .val (.int p2), .val (.int p3), .val (.int p4), .val (.int p5), .val (.int (1 : Int32)), .val (.int (0 : Int32)), .val (.ref a17), .val (.int (1 : Int32)), .unset] [(.int (0 : Int32))]))
      refine own_step (fun _ k => XS.iconst X20.here hx rfl (hb hby at_76) k) ?_
      show own_Ends p e below F (T20.setTop (mkF m 77 #[.val (.int p1), .val (.int p2), .val (.int p3), .val (.int p4), .val (.int p5), .val (.int (1 : Int32)), .val (.int (0 : Int32)), .val (.ref a17), .val (.int (1 : Int32)), .unset] [(.int (1 : Int32)), (.int (0 : Int32))]))
      refine own_step (fun _ k => XS.icmpYes X20.here hx rfl (pc0 := 77) (pc' := 86) rfl (hb hby at_77) rfl (tlt (by decide : (0 : Int32) < (1 : Int32))).1 (by decide) (by decide) k) ?_
      show own_Ends p e below F (T20.setTop (mkF m 86 #[.val (.int p1), .val (.int p2), .val (.int p3), .val (.int p4), .val (.int p5), .val (.int (1 : Int32)), .val (.int (0 : Int32)), .val (.ref a17), .val (.int (1 : Int32)), .unset] []))
      refine own_step (fun _ k => XS.iload X20.here hx rfl (hb hby at_86) rfl k) ?_
      show own_Ends p e below F (T20.setTop (mkF m 88 #[.val (.int p1), .val (.int p2), .val (.int p3), .val (.int p4), .val (.int p5), .val (.int (1 : Int32)), .val (.int (0 : Int32)), .val (.ref a17), .val (.int (1 : Int32)), .unset] [(.int (0 : Int32))]))
      refine own_step (fun _ k => XS.iconst X20.here hx rfl (hb hby at_88) k) ?_
      show own_Ends p e below F (T20.setTop (mkF m 89 #[.val (.int p1), .val (.int p2), .val (.int p3), .val (.int p4), .val (.int p5), .val (.int (1 : Int32)), .val (.int (0 : Int32)), .val (.ref a17), .val (.int (1 : Int32)), .unset] [(.int (2 : Int32)), (.int (0 : Int32))]))
      refine own_step (fun _ k => XS.icmpYes X20.here hx rfl (pc0 := 89) (pc' := 98) rfl (hb hby at_89) rfl (tlt (by decide : (0 : Int32) < (2 : Int32))).1 (by decide) (by decide) k) ?_
      show own_Ends p e below F (T20.setTop (mkF m 98 #[.val (.int p1), .val (.int p2), .val (.int p3), .val (.int p4), .val (.int p5), .val (.int (1 : Int32)), .val (.int (0 : Int32)), .val (.ref a17), .val (.int (1 : Int32)), .unset] []))
      refine own_step (fun _ k => XS.iload X20.here hx rfl (hb hby at_98) rfl k) ?_
      show own_Ends p e below F (T20.setTop (mkF m 100 #[.val (.int p1), .val (.int p2), .val (.int p3), .val (.int p4), .val (.int p5), .val (.int (1 : Int32)), .val (.int (0 : Int32)), .val (.ref a17), .val (.int (1 : Int32)), .unset] [(.int (0 : Int32))]))
      refine own_step (fun _ k => XS.iconst X20.here hx rfl (hb hby at_100) k) ?_
      show own_Ends p e below F (T20.setTop (mkF m 101 #[.val (.int p1), .val (.int p2), .val (.int p3), .val (.int p4), .val (.int p5), .val (.int (1 : Int32)), .val (.int (0 : Int32)), .val (.ref a17), .val (.int (1 : Int32)), .unset] [(.int (3 : Int32)), (.int (0 : Int32))]))
      refine own_step (fun _ k => XS.icmpYes X20.here hx rfl (pc0 := 101) (pc' := 110) rfl (hb hby at_101) rfl (tlt (by decide : (0 : Int32) < (3 : Int32))).1 (by decide) (by decide) k) ?_
      show own_Ends p e below F (T20.setTop (mkF m 110 #[.val (.int p1), .val (.int p2), .val (.int p3), .val (.int p4), .val (.int p5), .val (.int (1 : Int32)), .val (.int (0 : Int32)), .val (.ref a17), .val (.int (1 : Int32)), .unset] []))
      refine own_step (fun _ k => XS.iload X20.here hx rfl (hb hby at_110) rfl k) ?_
      show own_Ends p e below F (T20.setTop (mkF m 112 #[.val (.int p1), .val (.int p2), .val (.int p3), .val (.int p4), .val (.int p5), .val (.int (1 : Int32)), .val (.int (0 : Int32)), .val (.ref a17), .val (.int (1 : Int32)), .unset] [(.int (1 : Int32))]))
      refine own_step (fun _ k => XS.iload X20.here hx rfl (hb hby at_112) rfl k) ?_
      show own_Ends p e below F (T20.setTop (mkF m 114 #[.val (.int p1), .val (.int p2), .val (.int p3), .val (.int p4), .val (.int p5), .val (.int (1 : Int32)), .val (.int (0 : Int32)), .val (.ref a17), .val (.int (1 : Int32)), .unset] [(.int (0 : Int32)), (.int (1 : Int32))]))
      refine own_step (fun _ k => XS.isub X20.here hx rfl (hb hby at_114) rfl k) ?_
      show own_Ends p e below F (T20.setTop (mkF m 115 #[.val (.int p1), .val (.int p2), .val (.int p3), .val (.int p4), .val (.int p5), .val (.int (1 : Int32)), .val (.int (0 : Int32)), .val (.ref a17), .val (.int (1 : Int32)), .unset] [(.int (1 : Int32))]))
      refine own_step (fun _ k => XS.ifYes X20.here hx rfl (pc0 := 115) (pc' := 122) rfl (hb hby at_115) rfl ((if0 _ _).trans (feq (by decide : ¬ ((1 : Int32) = (0 : Int32)))).2) (by decide) (by decide) k) ?_
      show own_Ends p e below F (T20.setTop (mkF m 122 #[.val (.int p1), .val (.int p2), .val (.int p3), .val (.int p4), .val (.int p5), .val (.int (1 : Int32)), .val (.int (0 : Int32)), .val (.ref a17), .val (.int (1 : Int32)), .unset] []))
      refine own_step (fun _ k => XS.iconst X20.here hx rfl (hb hby at_122) k) ?_
      show own_Ends p e below F (T20.setTop (mkF m 123 #[.val (.int p1), .val (.int p2), .val (.int p3), .val (.int p4), .val (.int p5), .val (.int (1 : Int32)), .val (.int (0 : Int32)), .val (.ref a17), .val (.int (1 : Int32)), .unset] [(.int (0 : Int32))]))
      refine own_step (fun _ k => XS.istore X20.here hx rfl (hb hby at_123) rfl (l' := #[.val (.int p1), .val (.int p2), .val (.int p3), .val (.int p4), .val (.int p5), .val (.int (1 : Int32)), .val (.int (0 : Int32)), .val (.ref a17), .val (.int (1 : Int32)), .val (.int (0 : Int32))]) rfl k) ?_
      show own_Ends p e below F (T20.setTop (mkF m 125 #[.val (.int p1), .val (.int p2), .val (.int p3), .val (.int p4), .val (.int p5), .val (.int (1 : Int32)), .val (.int (0 : Int32)), .val (.ref a17), .val (.int (1 : Int32)), .val (.int (0 : Int32))] []))
      refine own_step (fun _ k => XS.iload X20.here hx rfl (hb hby at_125) rfl k) ?_
      show own_Ends p e below F (T20.setTop (mkF m 127 #[.val (.int p1), .val (.int p2), .val (.int p3), .val (.int p4), .val (.int p5), .val (.int (1 : Int32)), .val (.int (0 : Int32)), .val (.ref a17), .val (.int (1 : Int32)), .val (.int (0 : Int32))] [(.int (1 : Int32))]))
      refine own_step (fun _ k => XS.ifNo X20.here hx rfl (hb hby at_127) rfl ((if0 _ _).trans (feq (by decide : ¬ ((1 : Int32) = (0 : Int32)))).1) k) ?_
      show own_Ends p e below F (T20.setTop (mkF m 130 #[.val (.int p1), .val (.int p2), .val (.int p3), .val (.int p4), .val (.int p5), .val (.int (1 : Int32)), .val (.int (0 : Int32)), .val (.ref a17), .val (.int (1 : Int32)), .val (.int (0 : Int32))] []))
      refine own_step (fun _ k => XS.aload X20.here hx rfl (hb hby at_130) rfl rfl k) ?_
      show own_Ends p e below F (T20.setTop (mkF m 132 #[.val (.int p1), .val (.int p2), .val (.int p3), .val (.int p4), .val (.int p5), .val (.int (1 : Int32)), .val (.int (0 : Int32)), .val (.ref a17), .val (.int (1 : Int32)), .val (.int (0 : Int32))] [(.ref a17)]))
      obtain ⟨cq21, kq21, qa21, qb21, qc21⟩ := isOf hZ rfl fq1_20
      obtain ⟨_, _, ⟨T21, L21, k21, n21⟩, -, X21, ⟨Lc21, hQ21, l21, y21, z21⟩, st21⟩ := X20.virtualBack hx (y := (⟨"com/example/concept_reasoner/conceptreasoner/completion/IntList", "isEmpty", "()Z"⟩ : MethodName)) (z := (⟨"com/example/concept_reasoner/conceptreasoner/completion/IntList", "isEmpty", "()Z"⟩ : MethodName)) hown (mvT hZ (own_g hw 13 rfl)) (mvT hZ (own_g hw 14 rfl)) (notFace_of_selects (args := #[]) (mvT hZ (own_g hw 16 rfl))) (mvT hZ (own_g hw 16 rfl)) (mvT hZ (own_g hw 15 rfl)) (by decide) (backOf (W := 0) (rm3 l Z a0 hw [] a17 (1 : Int32) T20.heap n0 Z20 fq2_20) hZ (own_g hw 17 rfl) (own_g hw 2 rfl) (by decide) (by decide)) qa21 qc21 (g := (mkF m 132 #[.val (.int p1), .val (.int p2), .val (.int p3), .val (.int p4), .val (.int p5), .val (.int (1 : Int32)), .val (.int (0 : Int32)), .val (.ref a17), .val (.int (1 : Int32)), .val (.int (0 : Int32))] [(.ref a17)])) rfl (by rw [hml]; rfl) (Steps.refl _) (argsL := []) (rest := []) (lenOf pd__28_29Z rfl) rfl (by show 2 * 0 + _ ≤ _; exact Nat.le_of_eq rfl) (hb hby at_132) (fun _ _ => ⟨rfl, rfl, (by decide : 2 + 0 ≤ _), (by decide : 6 + 0 ≤ _)⟩)
      dsimp only [Pt.U, Pt.locs, Pt.cells, Pt.slots] at X21 l21 y21 z21 st21 hQ21
      subst l21 y21 z21
      obtain ⟨rfl, Nq21, eq21⟩ := hQ21
      have N21 := Fr.app N20 Nq21
      refine own_trans st21 ?_
      show own_Ends p e below F (T21.setTop (mkF m 135 #[.val (.int p1), .val (.int p2), .val (.int p3), .val (.int p4), .val (.int p5), .val (.int (1 : Int32)), .val (.int (0 : Int32)), .val (.ref a17), .val (.int (1 : Int32)), .val (.int (0 : Int32))] [(.int (own_emp (1 : Int32)))]))
      rw [show (own_emp (1 : Int32)) = (0 : Int32) from (by first | rfl | decide)]
      show own_Ends p e below F (T21.setTop (mkF m 135 #[.val (.int p1), .val (.int p2), .val (.int p3), .val (.int p4), .val (.int p5), .val (.int (1 : Int32)), .val (.int (0 : Int32)), .val (.ref a17), .val (.int (1 : Int32)), .val (.int (0 : Int32))] [(.int (0 : Int32))]))
      refine own_step (fun _ k => XS.iload X21.here hx rfl (hb hby at_135) rfl k) ?_
      show own_Ends p e below F (T21.setTop (mkF m 137 #[.val (.int p1), .val (.int p2), .val (.int p3), .val (.int p4), .val (.int p5), .val (.int (1 : Int32)), .val (.int (0 : Int32)), .val (.ref a17), .val (.int (1 : Int32)), .val (.int (0 : Int32))] [(.int (0 : Int32)), (.int (0 : Int32))]))
      refine own_step (fun _ k => XS.icmpNo X21.here hx rfl (hb hby at_137) rfl (teq (by decide : (0 : Int32) = (0 : Int32))).2 k) ?_
      show own_Ends p e below F (T21.setTop (mkF m 140 #[.val (.int p1), .val (.int p2), .val (.int p3), .val (.int p4), .val (.int p5), .val (.int (1 : Int32)), .val (.int (0 : Int32)), .val (.ref a17), .val (.int (1 : Int32)), .val (.int (0 : Int32))] []))
      refine own_step (fun _ k => XS.iconst X21.here hx rfl (hb hby at_140) k) ?_
      show own_Ends p e below F (T21.setTop (mkF m 141 #[.val (.int p1), .val (.int p2), .val (.int p3), .val (.int p4), .val (.int p5), .val (.int (1 : Int32)), .val (.int (0 : Int32)), .val (.ref a17), .val (.int (1 : Int32)), .val (.int (0 : Int32))] [(.int (1 : Int32))]))
      refine own_step (fun _ k => XS.goto X21.here hx rfl (pc0 := 141) (pc' := 145) rfl (hb hby at_141) (by decide) (by decide) k) ?_
      show own_Ends p e below F (T21.setTop (mkF m 145 #[.val (.int p1), .val (.int p2), .val (.int p3), .val (.int p4), .val (.int p5), .val (.int (1 : Int32)), .val (.int (0 : Int32)), .val (.ref a17), .val (.int (1 : Int32)), .val (.int (0 : Int32))] [(.int (1 : Int32))]))
      rw [hF]
      exact own_ret X21 (v := (some (.int (nar .boolean (1 : Int32))))) (fun h => by rw [Bd.returns] at h; cases h) Bd.notSynchronized (fun fs hr => retN X21 hx (t := .boolean) Bd.returns (by simp) (hb hby at_145) hr) (by decide) (by decide) (by rw [eq21]; exact ⟨rfl, N21⟩)
    · rw [q10]
      show own_Ends p e below F (s₁.setTop (mkF m 10 #[.val (.int p1), .val (.int p2), .val (.int p3), .val (.int p4), .val (.int p5), .val (.int (1 : Int32)), .val (.int (1 : Int32)), .unset, .unset, .unset] []))
      refine own_step (fun _ k => XS.iload X0.here hx rfl (hb hby at_10) rfl k) ?_
      show own_Ends p e below F (s₁.setTop (mkF m 12 #[.val (.int p1), .val (.int p2), .val (.int p3), .val (.int p4), .val (.int p5), .val (.int (1 : Int32)), .val (.int (1 : Int32)), .unset, .unset, .unset] [(.int (1 : Int32))]))
      refine own_step (fun _ k => XS.iload X0.here hx rfl (hb hby at_12) rfl k) ?_
      show own_Ends p e below F (s₁.setTop (mkF m 14 #[.val (.int p1), .val (.int p2), .val (.int p3), .val (.int p4), .val (.int p5), .val (.int (1 : Int32)), .val (.int (1 : Int32)), .unset, .unset, .unset] [(.int (1 : Int32)), (.int (1 : Int32))]))
      refine own_step (fun _ k => XS.icmpYes X0.here hx rfl (pc0 := 14) (pc' := 21) rfl (hb hby at_14) rfl (flt (by decide : ¬ ((1 : Int32) < (1 : Int32)))).2.2.2 (by decide) (by decide) k) ?_
      show own_Ends p e below F (s₁.setTop (mkF m 21 #[.val (.int p1), .val (.int p2), .val (.int p3), .val (.int p4), .val (.int p5), .val (.int (1 : Int32)), .val (.int (1 : Int32)), .unset, .unset, .unset] []))
      obtain ⟨T22, h22, X22, e22, E22, A22, D22, -, st22⟩ := newO X0 hx hZ hown (own_g hw 0 rfl) (own_g hw 1 rfl) (own_g hw 2 rfl) e0 (g := (mkF m 21 #[.val (.int p1), .val (.int p2), .val (.int p3), .val (.int p4), .val (.int p5), .val (.int (1 : Int32)), .val (.int (1 : Int32)), .unset, .unset, .unset] [])) rfl (hb hby at_21) (by decide) (by decide)
      obtain ⟨a22, g22⟩ : ∃ z, z = h0.size := ⟨_, rfl⟩
      rw [← g22] at A22 D22 st22
      have ge_a22 : n0 ≤ a22 := Nat.le_trans Z0 (Nat.le_of_eq g22.symm)
      have sz_a22 : h0.size ≤ a22 := Nat.le_trans (Nat.le_refl h0.size) (Nat.le_of_eq g22.symm)
      have ne_nn_a22 : nn ≠ a22 := Nat.ne_of_lt (by rw [g22]; exact VN.lt)
      have Z22 : n0 ≤ h22.size := Nat.le_trans Z0 E22.1
      have SZ22 : h0.size ≤ h22.size := Nat.le_trans (Nat.le_refl h0.size) E22.1
      have F22_values : Fld Z h22 a22 "com/example/concept_reasoner/conceptreasoner/completion/IntList" "values" "[I" .null := D22 (Or.inl (own_g hw 12 rfl)) (ty := (.array .int)) (by decide)
      have F22_size : Fld Z h22 a22 "com/example/concept_reasoner/conceptreasoner/completion/IntList" "size" "I" (.int (0 : Int32)) := D22 (Or.inl (own_g hw 19 rfl)) (ty := .int) (by decide)
      refine own_step st22 ?_
      show own_Ends p e below F (T22.setTop (mkF m 24 #[.val (.int p1), .val (.int p2), .val (.int p3), .val (.int p4), .val (.int p5), .val (.int (1 : Int32)), .val (.int (1 : Int32)), .unset, .unset, .unset] [(.ref a22)]))
      refine own_step (fun _ k => XS.dup X22.here hx rfl (hb hby at_24) rfl rfl k) ?_
      show own_Ends p e below F (T22.setTop (mkF m 25 #[.val (.int p1), .val (.int p2), .val (.int p3), .val (.int p4), .val (.int p5), .val (.int (1 : Int32)), .val (.int (1 : Int32)), .unset, .unset, .unset] [(.ref a22), (.ref a22)]))
      obtain ⟨_, _, ⟨T23, L23, k23, n23⟩, -, X23, ⟨Lc23, hQ23, l23, y23, z23⟩, st23⟩ := X22.specialBack hx (y := (⟨"com/example/concept_reasoner/conceptreasoner/completion/IntList", "<init>", "()V"⟩ : MethodName)) rfl hown (mvT hZ (own_g hw 3 rfl)) (mvT hZ (own_g hw 4 rfl)) (mvT hZ (own_g hw 5 rfl)) (by decide) (backOf (W := 1) (rm1 l Z a0 hw [] a22 nn h22 n0 Z22 A22 ge_a22 F22_values F22_size (Sta.ext E22 SN)) hZ (own_g hw 5 rfl) (own_g hw 2 rfl) (by decide) (by decide)) (g := (mkF m 25 #[.val (.int p1), .val (.int p2), .val (.int p3), .val (.int p4), .val (.int p5), .val (.int (1 : Int32)), .val (.int (1 : Int32)), .unset, .unset, .unset] [(.ref a22), (.ref a22)])) rfl (by rw [hml]; rfl) (Steps.refl _) (a := a22) (argsL := []) (rest := [(.ref a22)]) (lenOf pd__28_29V rfl) rfl (by show 2 * 0 + _ ≤ _; exact Nat.le_of_eq rfl) (hb hby at_25) (fun _ _ => ⟨rfl, e22, (by decide : 1 + 0 ≤ _), (by decide : 2 + 0 ≤ _)⟩)
      dsimp only [Pt.U, Pt.locs, Pt.cells, Pt.slots] at X23 l23 y23 z23 st23 hQ23
      subst l23 y23 z23
      obtain ⟨rfl, Nq23, Kq23, fq0_23, fq1_23, fq2_23⟩ := hQ23
      have N23 := Fr.app N0 Nq23
      have Z23 : n0 ≤ T23.heap.size := Nat.le_trans Z22 Kq23.1
      have SZ23 : h0.size ≤ T23.heap.size := Nat.le_trans SZ22 Kq23.1
      have S0_23 := own_Sta_keep (Sta.ext E22 SN) Kq23 (allS (own_ns_exa A22) all0)
      refine own_trans st23 ?_
      show own_Ends p e below F (T23.setTop (mkF m 28 #[.val (.int p1), .val (.int p2), .val (.int p3), .val (.int p4), .val (.int p5), .val (.int (1 : Int32)), .val (.int (1 : Int32)), .unset, .unset, .unset] [(.ref a22)]))
      refine own_step (fun _ k => XS.astore X23.here hx rfl (hb hby at_28) rfl rfl (l' := #[.val (.int p1), .val (.int p2), .val (.int p3), .val (.int p4), .val (.int p5), .val (.int (1 : Int32)), .val (.int (1 : Int32)), .val (.ref a22), .unset, .unset]) rfl k) ?_
      show own_Ends p e below F (T23.setTop (mkF m 30 #[.val (.int p1), .val (.int p2), .val (.int p3), .val (.int p4), .val (.int p5), .val (.int (1 : Int32)), .val (.int (1 : Int32)), .val (.ref a22), .unset, .unset] []))
      refine own_step (fun _ k => XS.aload X23.here hx rfl (hb hby at_30) rfl rfl k) ?_
      show own_Ends p e below F (T23.setTop (mkF m 32 #[.val (.int p1), .val (.int p2), .val (.int p3), .val (.int p4), .val (.int p5), .val (.int (1 : Int32)), .val (.int (1 : Int32)), .val (.ref a22), .unset, .unset] [(.ref a22)]))
      obtain ⟨cq24, kq24, qa24, qb24, qc24⟩ := isOf hZ rfl fq0_23
      obtain ⟨_, _, ⟨T24, L24, k24, n24⟩, -, X24, ⟨Lc24, hQ24, l24, y24, z24⟩, st24⟩ := X23.virtualBack hx (y := (⟨"com/example/concept_reasoner/conceptreasoner/completion/IntList", "isEmpty", "()Z"⟩ : MethodName)) (z := (⟨"com/example/concept_reasoner/conceptreasoner/completion/IntList", "isEmpty", "()Z"⟩ : MethodName)) hown (mvT hZ (own_g hw 13 rfl)) (mvT hZ (own_g hw 14 rfl)) (notFace_of_selects (args := #[]) (mvT hZ (own_g hw 16 rfl))) (mvT hZ (own_g hw 16 rfl)) (mvT hZ (own_g hw 15 rfl)) (by decide) (backOf (W := 0) (rm3 l Z a0 hw [] a22 (0 : Int32) T23.heap n0 Z23 fq2_23) hZ (own_g hw 17 rfl) (own_g hw 2 rfl) (by decide) (by decide)) qa24 qc24 (g := (mkF m 32 #[.val (.int p1), .val (.int p2), .val (.int p3), .val (.int p4), .val (.int p5), .val (.int (1 : Int32)), .val (.int (1 : Int32)), .val (.ref a22), .unset, .unset] [(.ref a22)])) rfl (by rw [hml]; rfl) (Steps.refl _) (argsL := []) (rest := []) (lenOf pd__28_29Z rfl) rfl (by show 2 * 0 + _ ≤ _; exact Nat.le_of_eq rfl) (hb hby at_32) (fun _ _ => ⟨rfl, rfl, (by decide : 1 + 0 ≤ _), (by decide : 2 + 0 ≤ _)⟩)
      dsimp only [Pt.U, Pt.locs, Pt.cells, Pt.slots] at X24 l24 y24 z24 st24 hQ24
      subst l24 y24 z24
      obtain ⟨rfl, Nq24, eq24⟩ := hQ24
      have N24 := Fr.app N23 Nq24
      refine own_trans st24 ?_
      show own_Ends p e below F (T24.setTop (mkF m 35 #[.val (.int p1), .val (.int p2), .val (.int p3), .val (.int p4), .val (.int p5), .val (.int (1 : Int32)), .val (.int (1 : Int32)), .val (.ref a22), .unset, .unset] [(.int (own_emp (0 : Int32)))]))
      rw [show (own_emp (0 : Int32)) = (1 : Int32) from (by first | rfl | decide)]
      show own_Ends p e below F (T24.setTop (mkF m 35 #[.val (.int p1), .val (.int p2), .val (.int p3), .val (.int p4), .val (.int p5), .val (.int (1 : Int32)), .val (.int (1 : Int32)), .val (.ref a22), .unset, .unset] [(.int (1 : Int32))]))
      refine own_step (fun _ k => XS.istore X24.here hx rfl (hb hby at_35) rfl (l' := #[.val (.int p1), .val (.int p2), .val (.int p3), .val (.int p4), .val (.int p5), .val (.int (1 : Int32)), .val (.int (1 : Int32)), .val (.ref a22), .val (.int (1 : Int32)), .unset]) rfl k) ?_
      show own_Ends p e below F (T24.setTop (mkF m 37 #[.val (.int p1), .val (.int p2), .val (.int p3), .val (.int p4), .val (.int p5), .val (.int (1 : Int32)), .val (.int (1 : Int32)), .val (.ref a22), .val (.int (1 : Int32)), .unset] []))
      refine own_step (fun _ k => XS.iload X24.here hx rfl (hb hby at_37) rfl k) ?_
      show own_Ends p e below F (T24.setTop (mkF m 39 #[.val (.int p1), .val (.int p2), .val (.int p3), .val (.int p4), .val (.int p5), .val (.int (1 : Int32)), .val (.int (1 : Int32)), .val (.ref a22), .val (.int (1 : Int32)), .unset] [(.int (1 : Int32))]))
      refine own_step (fun _ k => XS.iconst X24.here hx rfl (hb hby at_39) k) ?_
      show own_Ends p e below F (T24.setTop (mkF m 40 #[.val (.int p1), .val (.int p2), .val (.int p3), .val (.int p4), .val (.int p5), .val (.int (1 : Int32)), .val (.int (1 : Int32)), .val (.ref a22), .val (.int (1 : Int32)), .unset] [(.int (1 : Int32)), (.int (1 : Int32))]))
      refine own_step (fun _ k => XS.icmpNo X24.here hx rfl (hb hby at_40) rfl (flt (by decide : ¬ ((1 : Int32) < (1 : Int32)))).1 k) ?_
      show own_Ends p e below F (T24.setTop (mkF m 43 #[.val (.int p1), .val (.int p2), .val (.int p3), .val (.int p4), .val (.int p5), .val (.int (1 : Int32)), .val (.int (1 : Int32)), .val (.ref a22), .val (.int (1 : Int32)), .unset] []))
      refine own_step (fun _ k => XS.aload X24.here hx rfl (hb hby at_43) rfl rfl k) ?_
      show own_Ends p e below F (T24.setTop (mkF m 45 #[.val (.int p1), .val (.int p2), .val (.int p3), .val (.int p4), .val (.int p5), .val (.int (1 : Int32)), .val (.int (1 : Int32)), .val (.ref a22), .val (.int (1 : Int32)), .unset] [(.ref a22)]))
      refine own_step (fun _ k => XS.iloadN X24.here hx rfl (hb hby at_45) rfl k) ?_
      show own_Ends p e below F (T24.setTop (mkF m 46 #[.val (.int p1), .val (.int p2), .val (.int p3), .val (.int p4), .val (.int p5), .val (.int (1 : Int32)), .val (.int (1 : Int32)), .val (.ref a22), .val (.int (1 : Int32)), .unset] [(.int p3), (.ref a22)]))
      obtain ⟨cq25, kq25, qa25, qb25, qc25⟩ := isOf hZ eq24 fq0_23
      obtain ⟨_, _, ⟨T25, L25, k25, n25⟩, -, X25, ⟨Lc25, hQ25, l25, y25, z25⟩, st25⟩ := X24.virtualBack hx (y := (⟨"com/example/concept_reasoner/conceptreasoner/completion/IntList", "add", "(I)V"⟩ : MethodName)) (z := (⟨"com/example/concept_reasoner/conceptreasoner/completion/IntList", "add", "(I)V"⟩ : MethodName)) hown (mvT hZ (own_g hw 20 rfl)) (mvT hZ (own_g hw 21 rfl)) (notFace_of_selects (args := #[]) (mvT hZ (own_g hw 23 rfl))) (mvT hZ (own_g hw 23 rfl)) (mvT hZ (own_g hw 22 rfl)) (by decide) (backOf (W := 0) (rm4a l Z a0 hw [] a22 nn p3 kN T23.heap n0 Z23 fq0_23 ge_a22 fq2_23 fq1_23 ((VN.ext E22).keep Kq23 (ninS ne_nn_a22 nin0)) ne_nn_a22) hZ (own_g hw 24 rfl) (own_g hw 2 rfl) (by decide) (by decide)) qa25 qc25 (g := (mkF m 46 #[.val (.int p1), .val (.int p2), .val (.int p3), .val (.int p4), .val (.int p5), .val (.int (1 : Int32)), .val (.int (1 : Int32)), .val (.ref a22), .val (.int (1 : Int32)), .unset] [(.int p3), (.ref a22)])) rfl (by rw [hml]; rfl) (Steps.refl _) (argsL := [(.int p3)]) (rest := []) (lenOf pd__28I_29V rfl) rfl (by show 2 * 0 + _ ≤ _; exact Nat.le_of_eq rfl) (hb hby at_46) (fun _ _ => ⟨rfl, eq24, (by decide : 1 + 1 ≤ _), (by decide : 2 + 4 ≤ _)⟩)
      dsimp only [Pt.U, Pt.locs, Pt.cells, Pt.slots] at X25 l25 y25 z25 st25 hQ25
      subst l25 y25 z25
      obtain ⟨c25, kc25, rfl, Nq25, Kq25, fq0_25, fq1_25, fq2_25, fq3_25, fq4_25⟩ := hQ25
      have N25 := Fr.app N24 Nq25
      have Z25 : n0 ≤ T25.heap.size := Nat.le_trans Z23 Kq25.1
      have SZ25 : h0.size ≤ T25.heap.size := Nat.le_trans SZ23 Kq25.1
      have S0_25 := own_Sta_keep S0_23 Kq25 (allS (own_ns_exa fq0_23) all0)
      have ne_nn_c25 : nn ≠ c25 := Nat.ne_of_lt (Nat.lt_of_lt_of_le (((VN.ext E22).keep Kq23 (ninS ne_nn_a22 nin0))).lt fq0_25)
      have ne_a22_c25 : a22 ≠ c25 := Nat.ne_of_lt (Nat.lt_of_lt_of_le (fq1_23).lt fq0_25)
      have ge_c25 : n0 ≤ c25 := Nat.le_trans Z23 fq0_25
      have sz_c25 : h0.size ≤ c25 := Nat.le_trans SZ23 fq0_25
      refine own_trans st25 ?_
      show own_Ends p e below F (T25.setTop (mkF m 49 #[.val (.int p1), .val (.int p2), .val (.int p3), .val (.int p4), .val (.int p5), .val (.int (1 : Int32)), .val (.int (1 : Int32)), .val (.ref a22), .val (.int (1 : Int32)), .unset] []))
      refine own_step (fun _ k => XS.iload X25.here hx rfl (hb hby at_49) rfl k) ?_
      show own_Ends p e below F (T25.setTop (mkF m 51 #[.val (.int p1), .val (.int p2), .val (.int p3), .val (.int p4), .val (.int p5), .val (.int (1 : Int32)), .val (.int (1 : Int32)), .val (.ref a22), .val (.int (1 : Int32)), .unset] [(.int (1 : Int32))]))
      refine own_step (fun _ k => XS.iconst X25.here hx rfl (hb hby at_51) k) ?_
      show own_Ends p e below F (T25.setTop (mkF m 52 #[.val (.int p1), .val (.int p2), .val (.int p3), .val (.int p4), .val (.int p5), .val (.int (1 : Int32)), .val (.int (1 : Int32)), .val (.ref a22), .val (.int (1 : Int32)), .unset] [(.int (2 : Int32)), (.int (1 : Int32))]))
      refine own_step (fun _ k => XS.icmpYes X25.here hx rfl (pc0 := 52) (pc' := 61) rfl (hb hby at_52) rfl (tlt (by decide : (1 : Int32) < (2 : Int32))).1 (by decide) (by decide) k) ?_
      show own_Ends p e below F (T25.setTop (mkF m 61 #[.val (.int p1), .val (.int p2), .val (.int p3), .val (.int p4), .val (.int p5), .val (.int (1 : Int32)), .val (.int (1 : Int32)), .val (.ref a22), .val (.int (1 : Int32)), .unset] []))
      refine own_step (fun _ k => XS.iload X25.here hx rfl (hb hby at_61) rfl k) ?_
      show own_Ends p e below F (T25.setTop (mkF m 63 #[.val (.int p1), .val (.int p2), .val (.int p3), .val (.int p4), .val (.int p5), .val (.int (1 : Int32)), .val (.int (1 : Int32)), .val (.ref a22), .val (.int (1 : Int32)), .unset] [(.int (1 : Int32))]))
      refine own_step (fun _ k => XS.iconst X25.here hx rfl (hb hby at_63) k) ?_
      show own_Ends p e below F (T25.setTop (mkF m 64 #[.val (.int p1), .val (.int p2), .val (.int p3), .val (.int p4), .val (.int p5), .val (.int (1 : Int32)), .val (.int (1 : Int32)), .val (.ref a22), .val (.int (1 : Int32)), .unset] [(.int (3 : Int32)), (.int (1 : Int32))]))
      refine own_step (fun _ k => XS.icmpYes X25.here hx rfl (pc0 := 64) (pc' := 74) rfl (hb hby at_64) rfl (tlt (by decide : (1 : Int32) < (3 : Int32))).1 (by decide) (by decide) k) ?_
      show own_Ends p e below F (T25.setTop (mkF m 74 #[.val (.int p1), .val (.int p2), .val (.int p3), .val (.int p4), .val (.int p5), .val (.int (1 : Int32)), .val (.int (1 : Int32)), .val (.ref a22), .val (.int (1 : Int32)), .unset] []))
      refine own_step (fun _ k => XS.iload X25.here hx rfl (hb hby at_74) rfl k) ?_
      show own_Ends p e below F (T25.setTop (mkF m 76 #[.val (.int p1), .val (.int p2), .val (.int p3), .val (.int p4), .val (.int p5), .val (.int (1 : Int32)), .val (.int (1 : Int32)), .val (.ref a22), .val (.int (1 : Int32)), .unset] [(.int (1 : Int32))]))
      refine own_step (fun _ k => XS.iconst X25.here hx rfl (hb hby at_76) k) ?_
      show own_Ends p e below F (T25.setTop (mkF m 77 #[.val (.int p1), .val (.int p2), .val (.int p3), .val (.int p4), .val (.int p5), .val (.int (1 : Int32)), .val (.int (1 : Int32)), .val (.ref a22), .val (.int (1 : Int32)), .unset] [(.int (1 : Int32)), (.int (1 : Int32))]))
      refine own_step (fun _ k => XS.icmpNo X25.here hx rfl (hb hby at_77) rfl (flt (by decide : ¬ ((1 : Int32) < (1 : Int32)))).1 k) ?_
      show own_Ends p e below F (T25.setTop (mkF m 80 #[.val (.int p1), .val (.int p2), .val (.int p3), .val (.int p4), .val (.int p5), .val (.int (1 : Int32)), .val (.int (1 : Int32)), .val (.ref a22), .val (.int (1 : Int32)), .unset] []))
      refine own_step (fun _ k => XS.aload X25.here hx rfl (hb hby at_80) rfl rfl k) ?_
      show own_Ends p e below F (T25.setTop (mkF m 82 #[.val (.int p1), .val (.int p2), .val (.int p3), .val (.int p4), .val (.int p5), .val (.int (1 : Int32)), .val (.int (1 : Int32)), .val (.ref a22), .val (.int (1 : Int32)), .unset] [(.ref a22)]))
      obtain ⟨cq26, kq26, qa26, qb26, qc26⟩ := isOf hZ rfl fq1_25
      obtain ⟨_, _, ⟨T26, L26, k26, n26⟩, -, X26, ⟨Lc26, hQ26, l26, y26, z26⟩, st26⟩ := X25.virtualBack hx (y := (⟨"com/example/concept_reasoner/conceptreasoner/completion/IntList", "removeLast", "()I"⟩ : MethodName)) (z := (⟨"com/example/concept_reasoner/conceptreasoner/completion/IntList", "removeLast", "()I"⟩ : MethodName)) hown (mvT hZ (own_g hw 41 rfl)) (mvT hZ (own_g hw 42 rfl)) (notFace_of_selects (args := #[]) (mvT hZ (own_g hw 44 rfl))) (mvT hZ (own_g hw 44 rfl)) (mvT hZ (own_g hw 43 rfl)) (by decide) (backOf (W := 0) (rm8 l Z a0 hw [] a22 c25 (1 : Int32) p3 kc25 [(.int p3), (.int (0 : Int32)), (.int (0 : Int32)), (.int (0 : Int32))] T25.heap n0 Z25 fq1_25 ge_a22 fq2_25 fq3_25 fq4_25 (Ne.symm ne_a22_c25) (by decide) ⟨by decide, by decide⟩ rfl) hZ (own_g hw 45 rfl) (own_g hw 2 rfl) (by decide) (by decide)) qa26 qc26 (g := (mkF m 82 #[.val (.int p1), .val (.int p2), .val (.int p3), .val (.int p4), .val (.int p5), .val (.int (1 : Int32)), .val (.int (1 : Int32)), .val (.ref a22), .val (.int (1 : Int32)), .unset] [(.ref a22)])) rfl (by rw [hml]; rfl) (Steps.refl _) (argsL := []) (rest := []) (lenOf pd__28_29I rfl) rfl (by show 2 * 0 + _ ≤ _; exact Nat.le_of_eq rfl) (hb hby at_82) (fun _ _ => ⟨rfl, rfl, (by decide : 2 + 0 ≤ _), (by decide : 6 + 0 ≤ _)⟩)
      dsimp only [Pt.U, Pt.locs, Pt.cells, Pt.slots] at X26 l26 y26 z26 st26 hQ26
      subst l26 y26 z26
      obtain ⟨rfl, Nq26, Kq26, fq0_26, fq1_26, fq2_26⟩ := hQ26
      have N26 := Fr.app N25 Nq26
      have Z26 : n0 ≤ T26.heap.size := Nat.le_trans Z25 Kq26.1
      have SZ26 : h0.size ≤ T26.heap.size := Nat.le_trans SZ25 Kq26.1
      have S0_26 := own_Sta_keep S0_25 Kq26 (allS (own_ns_exa fq1_25) all0)
      have fs26 : Fld Z T26.heap a22 "com/example/concept_reasoner/conceptreasoner/completion/IntList" "size" "I" (.int (0 : Int32)) := fq1_26
      refine own_trans st26 ?_
      show own_Ends p e below F (T26.setTop (mkF m 85 #[.val (.int p1), .val (.int p2), .val (.int p3), .val (.int p4), .val (.int p5), .val (.int (1 : Int32)), .val (.int (1 : Int32)), .val (.ref a22), .val (.int (1 : Int32)), .unset] [(.int p3)]))
      refine own_step (fun _ k => XS.pop X26.here hx rfl (hb hby at_85) rfl rfl k) ?_
      show own_Ends p e below F (T26.setTop (mkF m 86 #[.val (.int p1), .val (.int p2), .val (.int p3), .val (.int p4), .val (.int p5), .val (.int (1 : Int32)), .val (.int (1 : Int32)), .val (.ref a22), .val (.int (1 : Int32)), .unset] []))
      refine own_step (fun _ k => XS.iload X26.here hx rfl (hb hby at_86) rfl k) ?_
      show own_Ends p e below F (T26.setTop (mkF m 88 #[.val (.int p1), .val (.int p2), .val (.int p3), .val (.int p4), .val (.int p5), .val (.int (1 : Int32)), .val (.int (1 : Int32)), .val (.ref a22), .val (.int (1 : Int32)), .unset] [(.int (1 : Int32))]))
      refine own_step (fun _ k => XS.iconst X26.here hx rfl (hb hby at_88) k) ?_
      show own_Ends p e below F (T26.setTop (mkF m 89 #[.val (.int p1), .val (.int p2), .val (.int p3), .val (.int p4), .val (.int p5), .val (.int (1 : Int32)), .val (.int (1 : Int32)), .val (.ref a22), .val (.int (1 : Int32)), .unset] [(.int (2 : Int32)), (.int (1 : Int32))]))
      refine own_step (fun _ k => XS.icmpYes X26.here hx rfl (pc0 := 89) (pc' := 98) rfl (hb hby at_89) rfl (tlt (by decide : (1 : Int32) < (2 : Int32))).1 (by decide) (by decide) k) ?_
      show own_Ends p e below F (T26.setTop (mkF m 98 #[.val (.int p1), .val (.int p2), .val (.int p3), .val (.int p4), .val (.int p5), .val (.int (1 : Int32)), .val (.int (1 : Int32)), .val (.ref a22), .val (.int (1 : Int32)), .unset] []))
      refine own_step (fun _ k => XS.iload X26.here hx rfl (hb hby at_98) rfl k) ?_
      show own_Ends p e below F (T26.setTop (mkF m 100 #[.val (.int p1), .val (.int p2), .val (.int p3), .val (.int p4), .val (.int p5), .val (.int (1 : Int32)), .val (.int (1 : Int32)), .val (.ref a22), .val (.int (1 : Int32)), .unset] [(.int (1 : Int32))]))
      refine own_step (fun _ k => XS.iconst X26.here hx rfl (hb hby at_100) k) ?_
      show own_Ends p e below F (T26.setTop (mkF m 101 #[.val (.int p1), .val (.int p2), .val (.int p3), .val (.int p4), .val (.int p5), .val (.int (1 : Int32)), .val (.int (1 : Int32)), .val (.ref a22), .val (.int (1 : Int32)), .unset] [(.int (3 : Int32)), (.int (1 : Int32))]))
      refine own_step (fun _ k => XS.icmpYes X26.here hx rfl (pc0 := 101) (pc' := 110) rfl (hb hby at_101) rfl (tlt (by decide : (1 : Int32) < (3 : Int32))).1 (by decide) (by decide) k) ?_
      show own_Ends p e below F (T26.setTop (mkF m 110 #[.val (.int p1), .val (.int p2), .val (.int p3), .val (.int p4), .val (.int p5), .val (.int (1 : Int32)), .val (.int (1 : Int32)), .val (.ref a22), .val (.int (1 : Int32)), .unset] []))
      refine own_step (fun _ k => XS.iload X26.here hx rfl (hb hby at_110) rfl k) ?_
      show own_Ends p e below F (T26.setTop (mkF m 112 #[.val (.int p1), .val (.int p2), .val (.int p3), .val (.int p4), .val (.int p5), .val (.int (1 : Int32)), .val (.int (1 : Int32)), .val (.ref a22), .val (.int (1 : Int32)), .unset] [(.int (1 : Int32))]))
      refine own_step (fun _ k => XS.iload X26.here hx rfl (hb hby at_112) rfl k) ?_
      show own_Ends p e below F (T26.setTop (mkF m 114 #[.val (.int p1), .val (.int p2), .val (.int p3), .val (.int p4), .val (.int p5), .val (.int (1 : Int32)), .val (.int (1 : Int32)), .val (.ref a22), .val (.int (1 : Int32)), .unset] [(.int (1 : Int32)), (.int (1 : Int32))]))
      refine own_step (fun _ k => XS.isub X26.here hx rfl (hb hby at_114) rfl k) ?_
      show own_Ends p e below F (T26.setTop (mkF m 115 #[.val (.int p1), .val (.int p2), .val (.int p3), .val (.int p4), .val (.int p5), .val (.int (1 : Int32)), .val (.int (1 : Int32)), .val (.ref a22), .val (.int (1 : Int32)), .unset] [(.int (0 : Int32))]))
      refine own_step (fun _ k => XS.ifNo X26.here hx rfl (hb hby at_115) rfl ((if0 _ _).trans (teq (by decide : (0 : Int32) = (0 : Int32))).2) k) ?_
      show own_Ends p e below F (T26.setTop (mkF m 118 #[.val (.int p1), .val (.int p2), .val (.int p3), .val (.int p4), .val (.int p5), .val (.int (1 : Int32)), .val (.int (1 : Int32)), .val (.ref a22), .val (.int (1 : Int32)), .unset] []))
      refine own_step (fun _ k => XS.iconst X26.here hx rfl (hb hby at_118) k) ?_
      show own_Ends p e below F (T26.setTop (mkF m 119 #[.val (.int p1), .val (.int p2), .val (.int p3), .val (.int p4), .val (.int p5), .val (.int (1 : Int32)), .val (.int (1 : Int32)), .val (.ref a22), .val (.int (1 : Int32)), .unset] [(.int (1 : Int32))]))
      refine own_step (fun _ k => XS.goto X26.here hx rfl (pc0 := 119) (pc' := 123) rfl (hb hby at_119) (by decide) (by decide) k) ?_
      show own_Ends p e below F (T26.setTop (mkF m 123 #[.val (.int p1), .val (.int p2), .val (.int p3), .val (.int p4), .val (.int p5), .val (.int (1 : Int32)), .val (.int (1 : Int32)), .val (.ref a22), .val (.int (1 : Int32)), .unset] [(.int (1 : Int32))]))
      refine own_step (fun _ k => XS.istore X26.here hx rfl (hb hby at_123) rfl (l' := #[.val (.int p1), .val (.int p2), .val (.int p3), .val (.int p4), .val (.int p5), .val (.int (1 : Int32)), .val (.int (1 : Int32)), .val (.ref a22), .val (.int (1 : Int32)), .val (.int (1 : Int32))]) rfl k) ?_
      show own_Ends p e below F (T26.setTop (mkF m 125 #[.val (.int p1), .val (.int p2), .val (.int p3), .val (.int p4), .val (.int p5), .val (.int (1 : Int32)), .val (.int (1 : Int32)), .val (.ref a22), .val (.int (1 : Int32)), .val (.int (1 : Int32))] []))
      refine own_step (fun _ k => XS.iload X26.here hx rfl (hb hby at_125) rfl k) ?_
      show own_Ends p e below F (T26.setTop (mkF m 127 #[.val (.int p1), .val (.int p2), .val (.int p3), .val (.int p4), .val (.int p5), .val (.int (1 : Int32)), .val (.int (1 : Int32)), .val (.ref a22), .val (.int (1 : Int32)), .val (.int (1 : Int32))] [(.int (1 : Int32))]))
      refine own_step (fun _ k => XS.ifNo X26.here hx rfl (hb hby at_127) rfl ((if0 _ _).trans (feq (by decide : ¬ ((1 : Int32) = (0 : Int32)))).1) k) ?_
      show own_Ends p e below F (T26.setTop (mkF m 130 #[.val (.int p1), .val (.int p2), .val (.int p3), .val (.int p4), .val (.int p5), .val (.int (1 : Int32)), .val (.int (1 : Int32)), .val (.ref a22), .val (.int (1 : Int32)), .val (.int (1 : Int32))] []))
      refine own_step (fun _ k => XS.aload X26.here hx rfl (hb hby at_130) rfl rfl k) ?_
      show own_Ends p e below F (T26.setTop (mkF m 132 #[.val (.int p1), .val (.int p2), .val (.int p3), .val (.int p4), .val (.int p5), .val (.int (1 : Int32)), .val (.int (1 : Int32)), .val (.ref a22), .val (.int (1 : Int32)), .val (.int (1 : Int32))] [(.ref a22)]))
      obtain ⟨cq27, kq27, qa27, qb27, qc27⟩ := isOf hZ rfl fq0_26
      obtain ⟨_, _, ⟨T27, L27, k27, n27⟩, -, X27, ⟨Lc27, hQ27, l27, y27, z27⟩, st27⟩ := X26.virtualBack hx (y := (⟨"com/example/concept_reasoner/conceptreasoner/completion/IntList", "isEmpty", "()Z"⟩ : MethodName)) (z := (⟨"com/example/concept_reasoner/conceptreasoner/completion/IntList", "isEmpty", "()Z"⟩ : MethodName)) hown (mvT hZ (own_g hw 13 rfl)) (mvT hZ (own_g hw 14 rfl)) (notFace_of_selects (args := #[]) (mvT hZ (own_g hw 16 rfl))) (mvT hZ (own_g hw 16 rfl)) (mvT hZ (own_g hw 15 rfl)) (by decide) (backOf (W := 0) (rm3 l Z a0 hw [] a22 (0 : Int32) T26.heap n0 Z26 fs26) hZ (own_g hw 17 rfl) (own_g hw 2 rfl) (by decide) (by decide)) qa27 qc27 (g := (mkF m 132 #[.val (.int p1), .val (.int p2), .val (.int p3), .val (.int p4), .val (.int p5), .val (.int (1 : Int32)), .val (.int (1 : Int32)), .val (.ref a22), .val (.int (1 : Int32)), .val (.int (1 : Int32))] [(.ref a22)])) rfl (by rw [hml]; rfl) (Steps.refl _) (argsL := []) (rest := []) (lenOf pd__28_29Z rfl) rfl (by show 2 * 0 + _ ≤ _; exact Nat.le_of_eq rfl) (hb hby at_132) (fun _ _ => ⟨rfl, rfl, (by decide : 2 + 0 ≤ _), (by decide : 6 + 0 ≤ _)⟩)
      dsimp only [Pt.U, Pt.locs, Pt.cells, Pt.slots] at X27 l27 y27 z27 st27 hQ27
      subst l27 y27 z27
      obtain ⟨rfl, Nq27, eq27⟩ := hQ27
      have N27 := Fr.app N26 Nq27
      refine own_trans st27 ?_
      show own_Ends p e below F (T27.setTop (mkF m 135 #[.val (.int p1), .val (.int p2), .val (.int p3), .val (.int p4), .val (.int p5), .val (.int (1 : Int32)), .val (.int (1 : Int32)), .val (.ref a22), .val (.int (1 : Int32)), .val (.int (1 : Int32))] [(.int (own_emp (0 : Int32)))]))
      rw [show (own_emp (0 : Int32)) = (1 : Int32) from (by first | rfl | decide)]
      show own_Ends p e below F (T27.setTop (mkF m 135 #[.val (.int p1), .val (.int p2), .val (.int p3), .val (.int p4), .val (.int p5), .val (.int (1 : Int32)), .val (.int (1 : Int32)), .val (.ref a22), .val (.int (1 : Int32)), .val (.int (1 : Int32))] [(.int (1 : Int32))]))
      refine own_step (fun _ k => XS.iload X27.here hx rfl (hb hby at_135) rfl k) ?_
      show own_Ends p e below F (T27.setTop (mkF m 137 #[.val (.int p1), .val (.int p2), .val (.int p3), .val (.int p4), .val (.int p5), .val (.int (1 : Int32)), .val (.int (1 : Int32)), .val (.ref a22), .val (.int (1 : Int32)), .val (.int (1 : Int32))] [(.int (1 : Int32)), (.int (1 : Int32))]))
      refine own_step (fun _ k => XS.icmpNo X27.here hx rfl (hb hby at_137) rfl (teq (by decide : (1 : Int32) = (1 : Int32))).2 k) ?_
      show own_Ends p e below F (T27.setTop (mkF m 140 #[.val (.int p1), .val (.int p2), .val (.int p3), .val (.int p4), .val (.int p5), .val (.int (1 : Int32)), .val (.int (1 : Int32)), .val (.ref a22), .val (.int (1 : Int32)), .val (.int (1 : Int32))] []))
      refine own_step (fun _ k => XS.iconst X27.here hx rfl (hb hby at_140) k) ?_
      show own_Ends p e below F (T27.setTop (mkF m 141 #[.val (.int p1), .val (.int p2), .val (.int p3), .val (.int p4), .val (.int p5), .val (.int (1 : Int32)), .val (.int (1 : Int32)), .val (.ref a22), .val (.int (1 : Int32)), .val (.int (1 : Int32))] [(.int (1 : Int32))]))
      refine own_step (fun _ k => XS.goto X27.here hx rfl (pc0 := 141) (pc' := 145) rfl (hb hby at_141) (by decide) (by decide) k) ?_
      show own_Ends p e below F (T27.setTop (mkF m 145 #[.val (.int p1), .val (.int p2), .val (.int p3), .val (.int p4), .val (.int p5), .val (.int (1 : Int32)), .val (.int (1 : Int32)), .val (.ref a22), .val (.int (1 : Int32)), .val (.int (1 : Int32))] [(.int (1 : Int32))]))
      rw [hF]
      exact own_ret X27 (v := (some (.int (nar .boolean (1 : Int32))))) (fun h => by rw [Bd.returns] at h; cases h) Bd.notSynchronized (fun fs hr => retN X27 hx (t := .boolean) Bd.returns (by simp) (hb hby at_145) hr) (by decide) (by decide) (by rw [eq27]; exact ⟨rfl, N27⟩)
    · rw [q10]
      show own_Ends p e below F (s₁.setTop (mkF m 10 #[.val (.int p1), .val (.int p2), .val (.int p3), .val (.int p4), .val (.int p5), .val (.int (1 : Int32)), .val (.int (2 : Int32)), .unset, .unset, .unset] []))
      refine own_step (fun _ k => XS.iload X0.here hx rfl (hb hby at_10) rfl k) ?_
      show own_Ends p e below F (s₁.setTop (mkF m 12 #[.val (.int p1), .val (.int p2), .val (.int p3), .val (.int p4), .val (.int p5), .val (.int (1 : Int32)), .val (.int (2 : Int32)), .unset, .unset, .unset] [(.int (2 : Int32))]))
      refine own_step (fun _ k => XS.iload X0.here hx rfl (hb hby at_12) rfl k) ?_
      show own_Ends p e below F (s₁.setTop (mkF m 14 #[.val (.int p1), .val (.int p2), .val (.int p3), .val (.int p4), .val (.int p5), .val (.int (1 : Int32)), .val (.int (2 : Int32)), .unset, .unset, .unset] [(.int (1 : Int32)), (.int (2 : Int32))]))
      refine own_step (fun _ k => XS.icmpNo X0.here hx rfl (hb hby at_14) rfl (tlt (by decide : (1 : Int32) < (2 : Int32))).2.2.2 k) ?_
      show own_Ends p e below F (s₁.setTop (mkF m 17 #[.val (.int p1), .val (.int p2), .val (.int p3), .val (.int p4), .val (.int p5), .val (.int (1 : Int32)), .val (.int (2 : Int32)), .unset, .unset, .unset] []))
      refine own_step (fun _ k => XS.iload X0.here hx rfl (hb hby at_17) rfl k) ?_
      show own_Ends p e below F (s₁.setTop (mkF m 19 #[.val (.int p1), .val (.int p2), .val (.int p3), .val (.int p4), .val (.int p5), .val (.int (1 : Int32)), .val (.int (2 : Int32)), .unset, .unset, .unset] [(.int (1 : Int32))]))
      refine own_step (fun _ k => XS.istore X0.here hx rfl (hb hby at_19) rfl (l' := #[.val (.int p1), .val (.int p2), .val (.int p3), .val (.int p4), .val (.int p5), .val (.int (1 : Int32)), .val (.int (1 : Int32)), .unset, .unset, .unset]) rfl k) ?_
      show own_Ends p e below F (s₁.setTop (mkF m 21 #[.val (.int p1), .val (.int p2), .val (.int p3), .val (.int p4), .val (.int p5), .val (.int (1 : Int32)), .val (.int (1 : Int32)), .unset, .unset, .unset] []))
      obtain ⟨T28, h28, X28, e28, E28, A28, D28, -, st28⟩ := newO X0 hx hZ hown (own_g hw 0 rfl) (own_g hw 1 rfl) (own_g hw 2 rfl) e0 (g := (mkF m 21 #[.val (.int p1), .val (.int p2), .val (.int p3), .val (.int p4), .val (.int p5), .val (.int (1 : Int32)), .val (.int (1 : Int32)), .unset, .unset, .unset] [])) rfl (hb hby at_21) (by decide) (by decide)
      obtain ⟨a28, g28⟩ : ∃ z, z = h0.size := ⟨_, rfl⟩
      rw [← g28] at A28 D28 st28
      have ge_a28 : n0 ≤ a28 := Nat.le_trans Z0 (Nat.le_of_eq g28.symm)
      have sz_a28 : h0.size ≤ a28 := Nat.le_trans (Nat.le_refl h0.size) (Nat.le_of_eq g28.symm)
      have ne_nn_a28 : nn ≠ a28 := Nat.ne_of_lt (by rw [g28]; exact VN.lt)
      have Z28 : n0 ≤ h28.size := Nat.le_trans Z0 E28.1
      have SZ28 : h0.size ≤ h28.size := Nat.le_trans (Nat.le_refl h0.size) E28.1
      have F28_values : Fld Z h28 a28 "com/example/concept_reasoner/conceptreasoner/completion/IntList" "values" "[I" .null := D28 (Or.inl (own_g hw 12 rfl)) (ty := (.array .int)) (by decide)
      have F28_size : Fld Z h28 a28 "com/example/concept_reasoner/conceptreasoner/completion/IntList" "size" "I" (.int (0 : Int32)) := D28 (Or.inl (own_g hw 19 rfl)) (ty := .int) (by decide)
      refine own_step st28 ?_
      show own_Ends p e below F (T28.setTop (mkF m 24 #[.val (.int p1), .val (.int p2), .val (.int p3), .val (.int p4), .val (.int p5), .val (.int (1 : Int32)), .val (.int (1 : Int32)), .unset, .unset, .unset] [(.ref a28)]))
      refine own_step (fun _ k => XS.dup X28.here hx rfl (hb hby at_24) rfl rfl k) ?_
      show own_Ends p e below F (T28.setTop (mkF m 25 #[.val (.int p1), .val (.int p2), .val (.int p3), .val (.int p4), .val (.int p5), .val (.int (1 : Int32)), .val (.int (1 : Int32)), .unset, .unset, .unset] [(.ref a28), (.ref a28)]))
      obtain ⟨_, _, ⟨T29, L29, k29, n29⟩, -, X29, ⟨Lc29, hQ29, l29, y29, z29⟩, st29⟩ := X28.specialBack hx (y := (⟨"com/example/concept_reasoner/conceptreasoner/completion/IntList", "<init>", "()V"⟩ : MethodName)) rfl hown (mvT hZ (own_g hw 3 rfl)) (mvT hZ (own_g hw 4 rfl)) (mvT hZ (own_g hw 5 rfl)) (by decide) (backOf (W := 1) (rm1 l Z a0 hw [] a28 nn h28 n0 Z28 A28 ge_a28 F28_values F28_size (Sta.ext E28 SN)) hZ (own_g hw 5 rfl) (own_g hw 2 rfl) (by decide) (by decide)) (g := (mkF m 25 #[.val (.int p1), .val (.int p2), .val (.int p3), .val (.int p4), .val (.int p5), .val (.int (1 : Int32)), .val (.int (1 : Int32)), .unset, .unset, .unset] [(.ref a28), (.ref a28)])) rfl (by rw [hml]; rfl) (Steps.refl _) (a := a28) (argsL := []) (rest := [(.ref a28)]) (lenOf pd__28_29V rfl) rfl (by show 2 * 0 + _ ≤ _; exact Nat.le_of_eq rfl) (hb hby at_25) (fun _ _ => ⟨rfl, e28, (by decide : 1 + 0 ≤ _), (by decide : 2 + 0 ≤ _)⟩)
      dsimp only [Pt.U, Pt.locs, Pt.cells, Pt.slots] at X29 l29 y29 z29 st29 hQ29
      subst l29 y29 z29
      obtain ⟨rfl, Nq29, Kq29, fq0_29, fq1_29, fq2_29⟩ := hQ29
      have N29 := Fr.app N0 Nq29
      have Z29 : n0 ≤ T29.heap.size := Nat.le_trans Z28 Kq29.1
      have SZ29 : h0.size ≤ T29.heap.size := Nat.le_trans SZ28 Kq29.1
      have S0_29 := own_Sta_keep (Sta.ext E28 SN) Kq29 (allS (own_ns_exa A28) all0)
      refine own_trans st29 ?_
      show own_Ends p e below F (T29.setTop (mkF m 28 #[.val (.int p1), .val (.int p2), .val (.int p3), .val (.int p4), .val (.int p5), .val (.int (1 : Int32)), .val (.int (1 : Int32)), .unset, .unset, .unset] [(.ref a28)]))
      refine own_step (fun _ k => XS.astore X29.here hx rfl (hb hby at_28) rfl rfl (l' := #[.val (.int p1), .val (.int p2), .val (.int p3), .val (.int p4), .val (.int p5), .val (.int (1 : Int32)), .val (.int (1 : Int32)), .val (.ref a28), .unset, .unset]) rfl k) ?_
      show own_Ends p e below F (T29.setTop (mkF m 30 #[.val (.int p1), .val (.int p2), .val (.int p3), .val (.int p4), .val (.int p5), .val (.int (1 : Int32)), .val (.int (1 : Int32)), .val (.ref a28), .unset, .unset] []))
      refine own_step (fun _ k => XS.aload X29.here hx rfl (hb hby at_30) rfl rfl k) ?_
      show own_Ends p e below F (T29.setTop (mkF m 32 #[.val (.int p1), .val (.int p2), .val (.int p3), .val (.int p4), .val (.int p5), .val (.int (1 : Int32)), .val (.int (1 : Int32)), .val (.ref a28), .unset, .unset] [(.ref a28)]))
      obtain ⟨cq30, kq30, qa30, qb30, qc30⟩ := isOf hZ rfl fq0_29
      obtain ⟨_, _, ⟨T30, L30, k30, n30⟩, -, X30, ⟨Lc30, hQ30, l30, y30, z30⟩, st30⟩ := X29.virtualBack hx (y := (⟨"com/example/concept_reasoner/conceptreasoner/completion/IntList", "isEmpty", "()Z"⟩ : MethodName)) (z := (⟨"com/example/concept_reasoner/conceptreasoner/completion/IntList", "isEmpty", "()Z"⟩ : MethodName)) hown (mvT hZ (own_g hw 13 rfl)) (mvT hZ (own_g hw 14 rfl)) (notFace_of_selects (args := #[]) (mvT hZ (own_g hw 16 rfl))) (mvT hZ (own_g hw 16 rfl)) (mvT hZ (own_g hw 15 rfl)) (by decide) (backOf (W := 0) (rm3 l Z a0 hw [] a28 (0 : Int32) T29.heap n0 Z29 fq2_29) hZ (own_g hw 17 rfl) (own_g hw 2 rfl) (by decide) (by decide)) qa30 qc30 (g := (mkF m 32 #[.val (.int p1), .val (.int p2), .val (.int p3), .val (.int p4), .val (.int p5), .val (.int (1 : Int32)), .val (.int (1 : Int32)), .val (.ref a28), .unset, .unset] [(.ref a28)])) rfl (by rw [hml]; rfl) (Steps.refl _) (argsL := []) (rest := []) (lenOf pd__28_29Z rfl) rfl (by show 2 * 0 + _ ≤ _; exact Nat.le_of_eq rfl) (hb hby at_32) (fun _ _ => ⟨rfl, rfl, (by decide : 1 + 0 ≤ _), (by decide : 2 + 0 ≤ _)⟩)
      dsimp only [Pt.U, Pt.locs, Pt.cells, Pt.slots] at X30 l30 y30 z30 st30 hQ30
      subst l30 y30 z30
      obtain ⟨rfl, Nq30, eq30⟩ := hQ30
      have N30 := Fr.app N29 Nq30
      refine own_trans st30 ?_
      show own_Ends p e below F (T30.setTop (mkF m 35 #[.val (.int p1), .val (.int p2), .val (.int p3), .val (.int p4), .val (.int p5), .val (.int (1 : Int32)), .val (.int (1 : Int32)), .val (.ref a28), .unset, .unset] [(.int (own_emp (0 : Int32)))]))
      rw [show (own_emp (0 : Int32)) = (1 : Int32) from (by first | rfl | decide)]
      show own_Ends p e below F (T30.setTop (mkF m 35 #[.val (.int p1), .val (.int p2), .val (.int p3), .val (.int p4), .val (.int p5), .val (.int (1 : Int32)), .val (.int (1 : Int32)), .val (.ref a28), .unset, .unset] [(.int (1 : Int32))]))
      refine own_step (fun _ k => XS.istore X30.here hx rfl (hb hby at_35) rfl (l' := #[.val (.int p1), .val (.int p2), .val (.int p3), .val (.int p4), .val (.int p5), .val (.int (1 : Int32)), .val (.int (1 : Int32)), .val (.ref a28), .val (.int (1 : Int32)), .unset]) rfl k) ?_
      show own_Ends p e below F (T30.setTop (mkF m 37 #[.val (.int p1), .val (.int p2), .val (.int p3), .val (.int p4), .val (.int p5), .val (.int (1 : Int32)), .val (.int (1 : Int32)), .val (.ref a28), .val (.int (1 : Int32)), .unset] []))
      refine own_step (fun _ k => XS.iload X30.here hx rfl (hb hby at_37) rfl k) ?_
      show own_Ends p e below F (T30.setTop (mkF m 39 #[.val (.int p1), .val (.int p2), .val (.int p3), .val (.int p4), .val (.int p5), .val (.int (1 : Int32)), .val (.int (1 : Int32)), .val (.ref a28), .val (.int (1 : Int32)), .unset] [(.int (1 : Int32))]))
      refine own_step (fun _ k => XS.iconst X30.here hx rfl (hb hby at_39) k) ?_
      show own_Ends p e below F (T30.setTop (mkF m 40 #[.val (.int p1), .val (.int p2), .val (.int p3), .val (.int p4), .val (.int p5), .val (.int (1 : Int32)), .val (.int (1 : Int32)), .val (.ref a28), .val (.int (1 : Int32)), .unset] [(.int (1 : Int32)), (.int (1 : Int32))]))
      refine own_step (fun _ k => XS.icmpNo X30.here hx rfl (hb hby at_40) rfl (flt (by decide : ¬ ((1 : Int32) < (1 : Int32)))).1 k) ?_
      show own_Ends p e below F (T30.setTop (mkF m 43 #[.val (.int p1), .val (.int p2), .val (.int p3), .val (.int p4), .val (.int p5), .val (.int (1 : Int32)), .val (.int (1 : Int32)), .val (.ref a28), .val (.int (1 : Int32)), .unset] []))
      refine own_step (fun _ k => XS.aload X30.here hx rfl (hb hby at_43) rfl rfl k) ?_
      show own_Ends p e below F (T30.setTop (mkF m 45 #[.val (.int p1), .val (.int p2), .val (.int p3), .val (.int p4), .val (.int p5), .val (.int (1 : Int32)), .val (.int (1 : Int32)), .val (.ref a28), .val (.int (1 : Int32)), .unset] [(.ref a28)]))
      refine own_step (fun _ k => XS.iloadN X30.here hx rfl (hb hby at_45) rfl k) ?_
      show own_Ends p e below F (T30.setTop (mkF m 46 #[.val (.int p1), .val (.int p2), .val (.int p3), .val (.int p4), .val (.int p5), .val (.int (1 : Int32)), .val (.int (1 : Int32)), .val (.ref a28), .val (.int (1 : Int32)), .unset] [(.int p3), (.ref a28)]))
      obtain ⟨cq31, kq31, qa31, qb31, qc31⟩ := isOf hZ eq30 fq0_29
      obtain ⟨_, _, ⟨T31, L31, k31, n31⟩, -, X31, ⟨Lc31, hQ31, l31, y31, z31⟩, st31⟩ := X30.virtualBack hx (y := (⟨"com/example/concept_reasoner/conceptreasoner/completion/IntList", "add", "(I)V"⟩ : MethodName)) (z := (⟨"com/example/concept_reasoner/conceptreasoner/completion/IntList", "add", "(I)V"⟩ : MethodName)) hown (mvT hZ (own_g hw 20 rfl)) (mvT hZ (own_g hw 21 rfl)) (notFace_of_selects (args := #[]) (mvT hZ (own_g hw 23 rfl))) (mvT hZ (own_g hw 23 rfl)) (mvT hZ (own_g hw 22 rfl)) (by decide) (backOf (W := 0) (rm4a l Z a0 hw [] a28 nn p3 kN T29.heap n0 Z29 fq0_29 ge_a28 fq2_29 fq1_29 ((VN.ext E28).keep Kq29 (ninS ne_nn_a28 nin0)) ne_nn_a28) hZ (own_g hw 24 rfl) (own_g hw 2 rfl) (by decide) (by decide)) qa31 qc31 (g := (mkF m 46 #[.val (.int p1), .val (.int p2), .val (.int p3), .val (.int p4), .val (.int p5), .val (.int (1 : Int32)), .val (.int (1 : Int32)), .val (.ref a28), .val (.int (1 : Int32)), .unset] [(.int p3), (.ref a28)])) rfl (by rw [hml]; rfl) (Steps.refl _) (argsL := [(.int p3)]) (rest := []) (lenOf pd__28I_29V rfl) rfl (by show 2 * 0 + _ ≤ _; exact Nat.le_of_eq rfl) (hb hby at_46) (fun _ _ => ⟨rfl, eq30, (by decide : 1 + 1 ≤ _), (by decide : 2 + 4 ≤ _)⟩)
      dsimp only [Pt.U, Pt.locs, Pt.cells, Pt.slots] at X31 l31 y31 z31 st31 hQ31
      subst l31 y31 z31
      obtain ⟨c31, kc31, rfl, Nq31, Kq31, fq0_31, fq1_31, fq2_31, fq3_31, fq4_31⟩ := hQ31
      have N31 := Fr.app N30 Nq31
      have Z31 : n0 ≤ T31.heap.size := Nat.le_trans Z29 Kq31.1
      have SZ31 : h0.size ≤ T31.heap.size := Nat.le_trans SZ29 Kq31.1
      have S0_31 := own_Sta_keep S0_29 Kq31 (allS (own_ns_exa fq0_29) all0)
      have ne_nn_c31 : nn ≠ c31 := Nat.ne_of_lt (Nat.lt_of_lt_of_le (((VN.ext E28).keep Kq29 (ninS ne_nn_a28 nin0))).lt fq0_31)
      have ne_a28_c31 : a28 ≠ c31 := Nat.ne_of_lt (Nat.lt_of_lt_of_le (fq1_29).lt fq0_31)
      have ge_c31 : n0 ≤ c31 := Nat.le_trans Z29 fq0_31
      have sz_c31 : h0.size ≤ c31 := Nat.le_trans SZ29 fq0_31
      refine own_trans st31 ?_
      show own_Ends p e below F (T31.setTop (mkF m 49 #[.val (.int p1), .val (.int p2), .val (.int p3), .val (.int p4), .val (.int p5), .val (.int (1 : Int32)), .val (.int (1 : Int32)), .val (.ref a28), .val (.int (1 : Int32)), .unset] []))
      refine own_step (fun _ k => XS.iload X31.here hx rfl (hb hby at_49) rfl k) ?_
      show own_Ends p e below F (T31.setTop (mkF m 51 #[.val (.int p1), .val (.int p2), .val (.int p3), .val (.int p4), .val (.int p5), .val (.int (1 : Int32)), .val (.int (1 : Int32)), .val (.ref a28), .val (.int (1 : Int32)), .unset] [(.int (1 : Int32))]))
      refine own_step (fun _ k => XS.iconst X31.here hx rfl (hb hby at_51) k) ?_
      show own_Ends p e below F (T31.setTop (mkF m 52 #[.val (.int p1), .val (.int p2), .val (.int p3), .val (.int p4), .val (.int p5), .val (.int (1 : Int32)), .val (.int (1 : Int32)), .val (.ref a28), .val (.int (1 : Int32)), .unset] [(.int (2 : Int32)), (.int (1 : Int32))]))
      refine own_step (fun _ k => XS.icmpYes X31.here hx rfl (pc0 := 52) (pc' := 61) rfl (hb hby at_52) rfl (tlt (by decide : (1 : Int32) < (2 : Int32))).1 (by decide) (by decide) k) ?_
      show own_Ends p e below F (T31.setTop (mkF m 61 #[.val (.int p1), .val (.int p2), .val (.int p3), .val (.int p4), .val (.int p5), .val (.int (1 : Int32)), .val (.int (1 : Int32)), .val (.ref a28), .val (.int (1 : Int32)), .unset] []))
      refine own_step (fun _ k => XS.iload X31.here hx rfl (hb hby at_61) rfl k) ?_
      show own_Ends p e below F (T31.setTop (mkF m 63 #[.val (.int p1), .val (.int p2), .val (.int p3), .val (.int p4), .val (.int p5), .val (.int (1 : Int32)), .val (.int (1 : Int32)), .val (.ref a28), .val (.int (1 : Int32)), .unset] [(.int (1 : Int32))]))
      refine own_step (fun _ k => XS.iconst X31.here hx rfl (hb hby at_63) k) ?_
      show own_Ends p e below F (T31.setTop (mkF m 64 #[.val (.int p1), .val (.int p2), .val (.int p3), .val (.int p4), .val (.int p5), .val (.int (1 : Int32)), .val (.int (1 : Int32)), .val (.ref a28), .val (.int (1 : Int32)), .unset] [(.int (3 : Int32)), (.int (1 : Int32))]))
      refine own_step (fun _ k => XS.icmpYes X31.here hx rfl (pc0 := 64) (pc' := 74) rfl (hb hby at_64) rfl (tlt (by decide : (1 : Int32) < (3 : Int32))).1 (by decide) (by decide) k) ?_
      show own_Ends p e below F (T31.setTop (mkF m 74 #[.val (.int p1), .val (.int p2), .val (.int p3), .val (.int p4), .val (.int p5), .val (.int (1 : Int32)), .val (.int (1 : Int32)), .val (.ref a28), .val (.int (1 : Int32)), .unset] []))
      refine own_step (fun _ k => XS.iload X31.here hx rfl (hb hby at_74) rfl k) ?_
      show own_Ends p e below F (T31.setTop (mkF m 76 #[.val (.int p1), .val (.int p2), .val (.int p3), .val (.int p4), .val (.int p5), .val (.int (1 : Int32)), .val (.int (1 : Int32)), .val (.ref a28), .val (.int (1 : Int32)), .unset] [(.int (1 : Int32))]))
      refine own_step (fun _ k => XS.iconst X31.here hx rfl (hb hby at_76) k) ?_
      show own_Ends p e below F (T31.setTop (mkF m 77 #[.val (.int p1), .val (.int p2), .val (.int p3), .val (.int p4), .val (.int p5), .val (.int (1 : Int32)), .val (.int (1 : Int32)), .val (.ref a28), .val (.int (1 : Int32)), .unset] [(.int (1 : Int32)), (.int (1 : Int32))]))
      refine own_step (fun _ k => XS.icmpNo X31.here hx rfl (hb hby at_77) rfl (flt (by decide : ¬ ((1 : Int32) < (1 : Int32)))).1 k) ?_
      show own_Ends p e below F (T31.setTop (mkF m 80 #[.val (.int p1), .val (.int p2), .val (.int p3), .val (.int p4), .val (.int p5), .val (.int (1 : Int32)), .val (.int (1 : Int32)), .val (.ref a28), .val (.int (1 : Int32)), .unset] []))
      refine own_step (fun _ k => XS.aload X31.here hx rfl (hb hby at_80) rfl rfl k) ?_
      show own_Ends p e below F (T31.setTop (mkF m 82 #[.val (.int p1), .val (.int p2), .val (.int p3), .val (.int p4), .val (.int p5), .val (.int (1 : Int32)), .val (.int (1 : Int32)), .val (.ref a28), .val (.int (1 : Int32)), .unset] [(.ref a28)]))
      obtain ⟨cq32, kq32, qa32, qb32, qc32⟩ := isOf hZ rfl fq1_31
      obtain ⟨_, _, ⟨T32, L32, k32, n32⟩, -, X32, ⟨Lc32, hQ32, l32, y32, z32⟩, st32⟩ := X31.virtualBack hx (y := (⟨"com/example/concept_reasoner/conceptreasoner/completion/IntList", "removeLast", "()I"⟩ : MethodName)) (z := (⟨"com/example/concept_reasoner/conceptreasoner/completion/IntList", "removeLast", "()I"⟩ : MethodName)) hown (mvT hZ (own_g hw 41 rfl)) (mvT hZ (own_g hw 42 rfl)) (notFace_of_selects (args := #[]) (mvT hZ (own_g hw 44 rfl))) (mvT hZ (own_g hw 44 rfl)) (mvT hZ (own_g hw 43 rfl)) (by decide) (backOf (W := 0) (rm8 l Z a0 hw [] a28 c31 (1 : Int32) p3 kc31 [(.int p3), (.int (0 : Int32)), (.int (0 : Int32)), (.int (0 : Int32))] T31.heap n0 Z31 fq1_31 ge_a28 fq2_31 fq3_31 fq4_31 (Ne.symm ne_a28_c31) (by decide) ⟨by decide, by decide⟩ rfl) hZ (own_g hw 45 rfl) (own_g hw 2 rfl) (by decide) (by decide)) qa32 qc32 (g := (mkF m 82 #[.val (.int p1), .val (.int p2), .val (.int p3), .val (.int p4), .val (.int p5), .val (.int (1 : Int32)), .val (.int (1 : Int32)), .val (.ref a28), .val (.int (1 : Int32)), .unset] [(.ref a28)])) rfl (by rw [hml]; rfl) (Steps.refl _) (argsL := []) (rest := []) (lenOf pd__28_29I rfl) rfl (by show 2 * 0 + _ ≤ _; exact Nat.le_of_eq rfl) (hb hby at_82) (fun _ _ => ⟨rfl, rfl, (by decide : 2 + 0 ≤ _), (by decide : 6 + 0 ≤ _)⟩)
      dsimp only [Pt.U, Pt.locs, Pt.cells, Pt.slots] at X32 l32 y32 z32 st32 hQ32
      subst l32 y32 z32
      obtain ⟨rfl, Nq32, Kq32, fq0_32, fq1_32, fq2_32⟩ := hQ32
      have N32 := Fr.app N31 Nq32
      have Z32 : n0 ≤ T32.heap.size := Nat.le_trans Z31 Kq32.1
      have SZ32 : h0.size ≤ T32.heap.size := Nat.le_trans SZ31 Kq32.1
      have S0_32 := own_Sta_keep S0_31 Kq32 (allS (own_ns_exa fq1_31) all0)
      have fs32 : Fld Z T32.heap a28 "com/example/concept_reasoner/conceptreasoner/completion/IntList" "size" "I" (.int (0 : Int32)) := fq1_32
      refine own_trans st32 ?_
      show own_Ends p e below F (T32.setTop (mkF m 85 #[.val (.int p1), .val (.int p2), .val (.int p3), .val (.int p4), .val (.int p5), .val (.int (1 : Int32)), .val (.int (1 : Int32)), .val (.ref a28), .val (.int (1 : Int32)), .unset] [(.int p3)]))
      refine own_step (fun _ k => XS.pop X32.here hx rfl (hb hby at_85) rfl rfl k) ?_
      show own_Ends p e below F (T32.setTop (mkF m 86 #[.val (.int p1), .val (.int p2), .val (.int p3), .val (.int p4), .val (.int p5), .val (.int (1 : Int32)), .val (.int (1 : Int32)), .val (.ref a28), .val (.int (1 : Int32)), .unset] []))
      refine own_step (fun _ k => XS.iload X32.here hx rfl (hb hby at_86) rfl k) ?_
      show own_Ends p e below F (T32.setTop (mkF m 88 #[.val (.int p1), .val (.int p2), .val (.int p3), .val (.int p4), .val (.int p5), .val (.int (1 : Int32)), .val (.int (1 : Int32)), .val (.ref a28), .val (.int (1 : Int32)), .unset] [(.int (1 : Int32))]))
      refine own_step (fun _ k => XS.iconst X32.here hx rfl (hb hby at_88) k) ?_
      show own_Ends p e below F (T32.setTop (mkF m 89 #[.val (.int p1), .val (.int p2), .val (.int p3), .val (.int p4), .val (.int p5), .val (.int (1 : Int32)), .val (.int (1 : Int32)), .val (.ref a28), .val (.int (1 : Int32)), .unset] [(.int (2 : Int32)), (.int (1 : Int32))]))
      refine own_step (fun _ k => XS.icmpYes X32.here hx rfl (pc0 := 89) (pc' := 98) rfl (hb hby at_89) rfl (tlt (by decide : (1 : Int32) < (2 : Int32))).1 (by decide) (by decide) k) ?_
      show own_Ends p e below F (T32.setTop (mkF m 98 #[.val (.int p1), .val (.int p2), .val (.int p3), .val (.int p4), .val (.int p5), .val (.int (1 : Int32)), .val (.int (1 : Int32)), .val (.ref a28), .val (.int (1 : Int32)), .unset] []))
      refine own_step (fun _ k => XS.iload X32.here hx rfl (hb hby at_98) rfl k) ?_
      show own_Ends p e below F (T32.setTop (mkF m 100 #[.val (.int p1), .val (.int p2), .val (.int p3), .val (.int p4), .val (.int p5), .val (.int (1 : Int32)), .val (.int (1 : Int32)), .val (.ref a28), .val (.int (1 : Int32)), .unset] [(.int (1 : Int32))]))
      refine own_step (fun _ k => XS.iconst X32.here hx rfl (hb hby at_100) k) ?_
      show own_Ends p e below F (T32.setTop (mkF m 101 #[.val (.int p1), .val (.int p2), .val (.int p3), .val (.int p4), .val (.int p5), .val (.int (1 : Int32)), .val (.int (1 : Int32)), .val (.ref a28), .val (.int (1 : Int32)), .unset] [(.int (3 : Int32)), (.int (1 : Int32))]))
      refine own_step (fun _ k => XS.icmpYes X32.here hx rfl (pc0 := 101) (pc' := 110) rfl (hb hby at_101) rfl (tlt (by decide : (1 : Int32) < (3 : Int32))).1 (by decide) (by decide) k) ?_
      show own_Ends p e below F (T32.setTop (mkF m 110 #[.val (.int p1), .val (.int p2), .val (.int p3), .val (.int p4), .val (.int p5), .val (.int (1 : Int32)), .val (.int (1 : Int32)), .val (.ref a28), .val (.int (1 : Int32)), .unset] []))
      refine own_step (fun _ k => XS.iload X32.here hx rfl (hb hby at_110) rfl k) ?_
      show own_Ends p e below F (T32.setTop (mkF m 112 #[.val (.int p1), .val (.int p2), .val (.int p3), .val (.int p4), .val (.int p5), .val (.int (1 : Int32)), .val (.int (1 : Int32)), .val (.ref a28), .val (.int (1 : Int32)), .unset] [(.int (1 : Int32))]))
      refine own_step (fun _ k => XS.iload X32.here hx rfl (hb hby at_112) rfl k) ?_
      show own_Ends p e below F (T32.setTop (mkF m 114 #[.val (.int p1), .val (.int p2), .val (.int p3), .val (.int p4), .val (.int p5), .val (.int (1 : Int32)), .val (.int (1 : Int32)), .val (.ref a28), .val (.int (1 : Int32)), .unset] [(.int (1 : Int32)), (.int (1 : Int32))]))
      refine own_step (fun _ k => XS.isub X32.here hx rfl (hb hby at_114) rfl k) ?_
      show own_Ends p e below F (T32.setTop (mkF m 115 #[.val (.int p1), .val (.int p2), .val (.int p3), .val (.int p4), .val (.int p5), .val (.int (1 : Int32)), .val (.int (1 : Int32)), .val (.ref a28), .val (.int (1 : Int32)), .unset] [(.int (0 : Int32))]))
      refine own_step (fun _ k => XS.ifNo X32.here hx rfl (hb hby at_115) rfl ((if0 _ _).trans (teq (by decide : (0 : Int32) = (0 : Int32))).2) k) ?_
      show own_Ends p e below F (T32.setTop (mkF m 118 #[.val (.int p1), .val (.int p2), .val (.int p3), .val (.int p4), .val (.int p5), .val (.int (1 : Int32)), .val (.int (1 : Int32)), .val (.ref a28), .val (.int (1 : Int32)), .unset] []))
      refine own_step (fun _ k => XS.iconst X32.here hx rfl (hb hby at_118) k) ?_
      show own_Ends p e below F (T32.setTop (mkF m 119 #[.val (.int p1), .val (.int p2), .val (.int p3), .val (.int p4), .val (.int p5), .val (.int (1 : Int32)), .val (.int (1 : Int32)), .val (.ref a28), .val (.int (1 : Int32)), .unset] [(.int (1 : Int32))]))
      refine own_step (fun _ k => XS.goto X32.here hx rfl (pc0 := 119) (pc' := 123) rfl (hb hby at_119) (by decide) (by decide) k) ?_
      show own_Ends p e below F (T32.setTop (mkF m 123 #[.val (.int p1), .val (.int p2), .val (.int p3), .val (.int p4), .val (.int p5), .val (.int (1 : Int32)), .val (.int (1 : Int32)), .val (.ref a28), .val (.int (1 : Int32)), .unset] [(.int (1 : Int32))]))
      refine own_step (fun _ k => XS.istore X32.here hx rfl (hb hby at_123) rfl (l' := #[.val (.int p1), .val (.int p2), .val (.int p3), .val (.int p4), .val (.int p5), .val (.int (1 : Int32)), .val (.int (1 : Int32)), .val (.ref a28), .val (.int (1 : Int32)), .val (.int (1 : Int32))]) rfl k) ?_
      show own_Ends p e below F (T32.setTop (mkF m 125 #[.val (.int p1), .val (.int p2), .val (.int p3), .val (.int p4), .val (.int p5), .val (.int (1 : Int32)), .val (.int (1 : Int32)), .val (.ref a28), .val (.int (1 : Int32)), .val (.int (1 : Int32))] []))
      refine own_step (fun _ k => XS.iload X32.here hx rfl (hb hby at_125) rfl k) ?_
      show own_Ends p e below F (T32.setTop (mkF m 127 #[.val (.int p1), .val (.int p2), .val (.int p3), .val (.int p4), .val (.int p5), .val (.int (1 : Int32)), .val (.int (1 : Int32)), .val (.ref a28), .val (.int (1 : Int32)), .val (.int (1 : Int32))] [(.int (1 : Int32))]))
      refine own_step (fun _ k => XS.ifNo X32.here hx rfl (hb hby at_127) rfl ((if0 _ _).trans (feq (by decide : ¬ ((1 : Int32) = (0 : Int32)))).1) k) ?_
      show own_Ends p e below F (T32.setTop (mkF m 130 #[.val (.int p1), .val (.int p2), .val (.int p3), .val (.int p4), .val (.int p5), .val (.int (1 : Int32)), .val (.int (1 : Int32)), .val (.ref a28), .val (.int (1 : Int32)), .val (.int (1 : Int32))] []))
      refine own_step (fun _ k => XS.aload X32.here hx rfl (hb hby at_130) rfl rfl k) ?_
      show own_Ends p e below F (T32.setTop (mkF m 132 #[.val (.int p1), .val (.int p2), .val (.int p3), .val (.int p4), .val (.int p5), .val (.int (1 : Int32)), .val (.int (1 : Int32)), .val (.ref a28), .val (.int (1 : Int32)), .val (.int (1 : Int32))] [(.ref a28)]))
      obtain ⟨cq33, kq33, qa33, qb33, qc33⟩ := isOf hZ rfl fq0_32
      obtain ⟨_, _, ⟨T33, L33, k33, n33⟩, -, X33, ⟨Lc33, hQ33, l33, y33, z33⟩, st33⟩ := X32.virtualBack hx (y := (⟨"com/example/concept_reasoner/conceptreasoner/completion/IntList", "isEmpty", "()Z"⟩ : MethodName)) (z := (⟨"com/example/concept_reasoner/conceptreasoner/completion/IntList", "isEmpty", "()Z"⟩ : MethodName)) hown (mvT hZ (own_g hw 13 rfl)) (mvT hZ (own_g hw 14 rfl)) (notFace_of_selects (args := #[]) (mvT hZ (own_g hw 16 rfl))) (mvT hZ (own_g hw 16 rfl)) (mvT hZ (own_g hw 15 rfl)) (by decide) (backOf (W := 0) (rm3 l Z a0 hw [] a28 (0 : Int32) T32.heap n0 Z32 fs32) hZ (own_g hw 17 rfl) (own_g hw 2 rfl) (by decide) (by decide)) qa33 qc33 (g := (mkF m 132 #[.val (.int p1), .val (.int p2), .val (.int p3), .val (.int p4), .val (.int p5), .val (.int (1 : Int32)), .val (.int (1 : Int32)), .val (.ref a28), .val (.int (1 : Int32)), .val (.int (1 : Int32))] [(.ref a28)])) rfl (by rw [hml]; rfl) (Steps.refl _) (argsL := []) (rest := []) (lenOf pd__28_29Z rfl) rfl (by show 2 * 0 + _ ≤ _; exact Nat.le_of_eq rfl) (hb hby at_132) (fun _ _ => ⟨rfl, rfl, (by decide : 2 + 0 ≤ _), (by decide : 6 + 0 ≤ _)⟩)
      dsimp only [Pt.U, Pt.locs, Pt.cells, Pt.slots] at X33 l33 y33 z33 st33 hQ33
      subst l33 y33 z33
      obtain ⟨rfl, Nq33, eq33⟩ := hQ33
      have N33 := Fr.app N32 Nq33
      refine own_trans st33 ?_
      show own_Ends p e below F (T33.setTop (mkF m 135 #[.val (.int p1), .val (.int p2), .val (.int p3), .val (.int p4), .val (.int p5), .val (.int (1 : Int32)), .val (.int (1 : Int32)), .val (.ref a28), .val (.int (1 : Int32)), .val (.int (1 : Int32))] [(.int (own_emp (0 : Int32)))]))
      rw [show (own_emp (0 : Int32)) = (1 : Int32) from (by first | rfl | decide)]
      show own_Ends p e below F (T33.setTop (mkF m 135 #[.val (.int p1), .val (.int p2), .val (.int p3), .val (.int p4), .val (.int p5), .val (.int (1 : Int32)), .val (.int (1 : Int32)), .val (.ref a28), .val (.int (1 : Int32)), .val (.int (1 : Int32))] [(.int (1 : Int32))]))
      refine own_step (fun _ k => XS.iload X33.here hx rfl (hb hby at_135) rfl k) ?_
      show own_Ends p e below F (T33.setTop (mkF m 137 #[.val (.int p1), .val (.int p2), .val (.int p3), .val (.int p4), .val (.int p5), .val (.int (1 : Int32)), .val (.int (1 : Int32)), .val (.ref a28), .val (.int (1 : Int32)), .val (.int (1 : Int32))] [(.int (1 : Int32)), (.int (1 : Int32))]))
      refine own_step (fun _ k => XS.icmpNo X33.here hx rfl (hb hby at_137) rfl (teq (by decide : (1 : Int32) = (1 : Int32))).2 k) ?_
      show own_Ends p e below F (T33.setTop (mkF m 140 #[.val (.int p1), .val (.int p2), .val (.int p3), .val (.int p4), .val (.int p5), .val (.int (1 : Int32)), .val (.int (1 : Int32)), .val (.ref a28), .val (.int (1 : Int32)), .val (.int (1 : Int32))] []))
      refine own_step (fun _ k => XS.iconst X33.here hx rfl (hb hby at_140) k) ?_
      show own_Ends p e below F (T33.setTop (mkF m 141 #[.val (.int p1), .val (.int p2), .val (.int p3), .val (.int p4), .val (.int p5), .val (.int (1 : Int32)), .val (.int (1 : Int32)), .val (.ref a28), .val (.int (1 : Int32)), .val (.int (1 : Int32))] [(.int (1 : Int32))]))
      refine own_step (fun _ k => XS.goto X33.here hx rfl (pc0 := 141) (pc' := 145) rfl (hb hby at_141) (by decide) (by decide) k) ?_
      show own_Ends p e below F (T33.setTop (mkF m 145 #[.val (.int p1), .val (.int p2), .val (.int p3), .val (.int p4), .val (.int p5), .val (.int (1 : Int32)), .val (.int (1 : Int32)), .val (.ref a28), .val (.int (1 : Int32)), .val (.int (1 : Int32))] [(.int (1 : Int32))]))
      rw [hF]
      exact own_ret X33 (v := (some (.int (nar .boolean (1 : Int32))))) (fun h => by rw [Bd.returns] at h; cases h) Bd.notSynchronized (fun fs hr => retN X33 hx (t := .boolean) Bd.returns (by simp) (hb hby at_145) hr) (by decide) (by decide) (by rw [eq33]; exact ⟨rfl, N33⟩)
    · rw [q10]
      show own_Ends p e below F (s₁.setTop (mkF m 10 #[.val (.int p1), .val (.int p2), .val (.int p3), .val (.int p4), .val (.int p5), .val (.int (1 : Int32)), .val (.int (3 : Int32)), .unset, .unset, .unset] []))
      refine own_step (fun _ k => XS.iload X0.here hx rfl (hb hby at_10) rfl k) ?_
      show own_Ends p e below F (s₁.setTop (mkF m 12 #[.val (.int p1), .val (.int p2), .val (.int p3), .val (.int p4), .val (.int p5), .val (.int (1 : Int32)), .val (.int (3 : Int32)), .unset, .unset, .unset] [(.int (3 : Int32))]))
      refine own_step (fun _ k => XS.iload X0.here hx rfl (hb hby at_12) rfl k) ?_
      show own_Ends p e below F (s₁.setTop (mkF m 14 #[.val (.int p1), .val (.int p2), .val (.int p3), .val (.int p4), .val (.int p5), .val (.int (1 : Int32)), .val (.int (3 : Int32)), .unset, .unset, .unset] [(.int (1 : Int32)), (.int (3 : Int32))]))
      refine own_step (fun _ k => XS.icmpNo X0.here hx rfl (hb hby at_14) rfl (tlt (by decide : (1 : Int32) < (3 : Int32))).2.2.2 k) ?_
      show own_Ends p e below F (s₁.setTop (mkF m 17 #[.val (.int p1), .val (.int p2), .val (.int p3), .val (.int p4), .val (.int p5), .val (.int (1 : Int32)), .val (.int (3 : Int32)), .unset, .unset, .unset] []))
      refine own_step (fun _ k => XS.iload X0.here hx rfl (hb hby at_17) rfl k) ?_
      show own_Ends p e below F (s₁.setTop (mkF m 19 #[.val (.int p1), .val (.int p2), .val (.int p3), .val (.int p4), .val (.int p5), .val (.int (1 : Int32)), .val (.int (3 : Int32)), .unset, .unset, .unset] [(.int (1 : Int32))]))
      refine own_step (fun _ k => XS.istore X0.here hx rfl (hb hby at_19) rfl (l' := #[.val (.int p1), .val (.int p2), .val (.int p3), .val (.int p4), .val (.int p5), .val (.int (1 : Int32)), .val (.int (1 : Int32)), .unset, .unset, .unset]) rfl k) ?_
      show own_Ends p e below F (s₁.setTop (mkF m 21 #[.val (.int p1), .val (.int p2), .val (.int p3), .val (.int p4), .val (.int p5), .val (.int (1 : Int32)), .val (.int (1 : Int32)), .unset, .unset, .unset] []))
      obtain ⟨T34, h34, X34, e34, E34, A34, D34, -, st34⟩ := newO X0 hx hZ hown (own_g hw 0 rfl) (own_g hw 1 rfl) (own_g hw 2 rfl) e0 (g := (mkF m 21 #[.val (.int p1), .val (.int p2), .val (.int p3), .val (.int p4), .val (.int p5), .val (.int (1 : Int32)), .val (.int (1 : Int32)), .unset, .unset, .unset] [])) rfl (hb hby at_21) (by decide) (by decide)
      obtain ⟨a34, g34⟩ : ∃ z, z = h0.size := ⟨_, rfl⟩
      rw [← g34] at A34 D34 st34
      have ge_a34 : n0 ≤ a34 := Nat.le_trans Z0 (Nat.le_of_eq g34.symm)
      have sz_a34 : h0.size ≤ a34 := Nat.le_trans (Nat.le_refl h0.size) (Nat.le_of_eq g34.symm)
      have ne_nn_a34 : nn ≠ a34 := Nat.ne_of_lt (by rw [g34]; exact VN.lt)
      have Z34 : n0 ≤ h34.size := Nat.le_trans Z0 E34.1
      have SZ34 : h0.size ≤ h34.size := Nat.le_trans (Nat.le_refl h0.size) E34.1
      have F34_values : Fld Z h34 a34 "com/example/concept_reasoner/conceptreasoner/completion/IntList" "values" "[I" .null := D34 (Or.inl (own_g hw 12 rfl)) (ty := (.array .int)) (by decide)
      have F34_size : Fld Z h34 a34 "com/example/concept_reasoner/conceptreasoner/completion/IntList" "size" "I" (.int (0 : Int32)) := D34 (Or.inl (own_g hw 19 rfl)) (ty := .int) (by decide)
      refine own_step st34 ?_
      show own_Ends p e below F (T34.setTop (mkF m 24 #[.val (.int p1), .val (.int p2), .val (.int p3), .val (.int p4), .val (.int p5), .val (.int (1 : Int32)), .val (.int (1 : Int32)), .unset, .unset, .unset] [(.ref a34)]))
      refine own_step (fun _ k => XS.dup X34.here hx rfl (hb hby at_24) rfl rfl k) ?_
      show own_Ends p e below F (T34.setTop (mkF m 25 #[.val (.int p1), .val (.int p2), .val (.int p3), .val (.int p4), .val (.int p5), .val (.int (1 : Int32)), .val (.int (1 : Int32)), .unset, .unset, .unset] [(.ref a34), (.ref a34)]))
      obtain ⟨_, _, ⟨T35, L35, k35, n35⟩, -, X35, ⟨Lc35, hQ35, l35, y35, z35⟩, st35⟩ := X34.specialBack hx (y := (⟨"com/example/concept_reasoner/conceptreasoner/completion/IntList", "<init>", "()V"⟩ : MethodName)) rfl hown (mvT hZ (own_g hw 3 rfl)) (mvT hZ (own_g hw 4 rfl)) (mvT hZ (own_g hw 5 rfl)) (by decide) (backOf (W := 1) (rm1 l Z a0 hw [] a34 nn h34 n0 Z34 A34 ge_a34 F34_values F34_size (Sta.ext E34 SN)) hZ (own_g hw 5 rfl) (own_g hw 2 rfl) (by decide) (by decide)) (g := (mkF m 25 #[.val (.int p1), .val (.int p2), .val (.int p3), .val (.int p4), .val (.int p5), .val (.int (1 : Int32)), .val (.int (1 : Int32)), .unset, .unset, .unset] [(.ref a34), (.ref a34)])) rfl (by rw [hml]; rfl) (Steps.refl _) (a := a34) (argsL := []) (rest := [(.ref a34)]) (lenOf pd__28_29V rfl) rfl (by show 2 * 0 + _ ≤ _; exact Nat.le_of_eq rfl) (hb hby at_25) (fun _ _ => ⟨rfl, e34, (by decide : 1 + 0 ≤ _), (by decide : 2 + 0 ≤ _)⟩)
      dsimp only [Pt.U, Pt.locs, Pt.cells, Pt.slots] at X35 l35 y35 z35 st35 hQ35
      subst l35 y35 z35
      obtain ⟨rfl, Nq35, Kq35, fq0_35, fq1_35, fq2_35⟩ := hQ35
      have N35 := Fr.app N0 Nq35
      have Z35 : n0 ≤ T35.heap.size := Nat.le_trans Z34 Kq35.1
      have SZ35 : h0.size ≤ T35.heap.size := Nat.le_trans SZ34 Kq35.1
      have S0_35 := own_Sta_keep (Sta.ext E34 SN) Kq35 (allS (own_ns_exa A34) all0)
      refine own_trans st35 ?_
      show own_Ends p e below F (T35.setTop (mkF m 28 #[.val (.int p1), .val (.int p2), .val (.int p3), .val (.int p4), .val (.int p5), .val (.int (1 : Int32)), .val (.int (1 : Int32)), .unset, .unset, .unset] [(.ref a34)]))
      refine own_step (fun _ k => XS.astore X35.here hx rfl (hb hby at_28) rfl rfl (l' := #[.val (.int p1), .val (.int p2), .val (.int p3), .val (.int p4), .val (.int p5), .val (.int (1 : Int32)), .val (.int (1 : Int32)), .val (.ref a34), .unset, .unset]) rfl k) ?_
      show own_Ends p e below F (T35.setTop (mkF m 30 #[.val (.int p1), .val (.int p2), .val (.int p3), .val (.int p4), .val (.int p5), .val (.int (1 : Int32)), .val (.int (1 : Int32)), .val (.ref a34), .unset, .unset] []))
      refine own_step (fun _ k => XS.aload X35.here hx rfl (hb hby at_30) rfl rfl k) ?_
      show own_Ends p e below F (T35.setTop (mkF m 32 #[.val (.int p1), .val (.int p2), .val (.int p3), .val (.int p4), .val (.int p5), .val (.int (1 : Int32)), .val (.int (1 : Int32)), .val (.ref a34), .unset, .unset] [(.ref a34)]))
      obtain ⟨cq36, kq36, qa36, qb36, qc36⟩ := isOf hZ rfl fq0_35
      obtain ⟨_, _, ⟨T36, L36, k36, n36⟩, -, X36, ⟨Lc36, hQ36, l36, y36, z36⟩, st36⟩ := X35.virtualBack hx (y := (⟨"com/example/concept_reasoner/conceptreasoner/completion/IntList", "isEmpty", "()Z"⟩ : MethodName)) (z := (⟨"com/example/concept_reasoner/conceptreasoner/completion/IntList", "isEmpty", "()Z"⟩ : MethodName)) hown (mvT hZ (own_g hw 13 rfl)) (mvT hZ (own_g hw 14 rfl)) (notFace_of_selects (args := #[]) (mvT hZ (own_g hw 16 rfl))) (mvT hZ (own_g hw 16 rfl)) (mvT hZ (own_g hw 15 rfl)) (by decide) (backOf (W := 0) (rm3 l Z a0 hw [] a34 (0 : Int32) T35.heap n0 Z35 fq2_35) hZ (own_g hw 17 rfl) (own_g hw 2 rfl) (by decide) (by decide)) qa36 qc36 (g := (mkF m 32 #[.val (.int p1), .val (.int p2), .val (.int p3), .val (.int p4), .val (.int p5), .val (.int (1 : Int32)), .val (.int (1 : Int32)), .val (.ref a34), .unset, .unset] [(.ref a34)])) rfl (by rw [hml]; rfl) (Steps.refl _) (argsL := []) (rest := []) (lenOf pd__28_29Z rfl) rfl (by show 2 * 0 + _ ≤ _; exact Nat.le_of_eq rfl) (hb hby at_32) (fun _ _ => ⟨rfl, rfl, (by decide : 1 + 0 ≤ _), (by decide : 2 + 0 ≤ _)⟩)
      dsimp only [Pt.U, Pt.locs, Pt.cells, Pt.slots] at X36 l36 y36 z36 st36 hQ36
      subst l36 y36 z36
      obtain ⟨rfl, Nq36, eq36⟩ := hQ36
      have N36 := Fr.app N35 Nq36
      refine own_trans st36 ?_
      show own_Ends p e below F (T36.setTop (mkF m 35 #[.val (.int p1), .val (.int p2), .val (.int p3), .val (.int p4), .val (.int p5), .val (.int (1 : Int32)), .val (.int (1 : Int32)), .val (.ref a34), .unset, .unset] [(.int (own_emp (0 : Int32)))]))
      rw [show (own_emp (0 : Int32)) = (1 : Int32) from (by first | rfl | decide)]
      show own_Ends p e below F (T36.setTop (mkF m 35 #[.val (.int p1), .val (.int p2), .val (.int p3), .val (.int p4), .val (.int p5), .val (.int (1 : Int32)), .val (.int (1 : Int32)), .val (.ref a34), .unset, .unset] [(.int (1 : Int32))]))
      refine own_step (fun _ k => XS.istore X36.here hx rfl (hb hby at_35) rfl (l' := #[.val (.int p1), .val (.int p2), .val (.int p3), .val (.int p4), .val (.int p5), .val (.int (1 : Int32)), .val (.int (1 : Int32)), .val (.ref a34), .val (.int (1 : Int32)), .unset]) rfl k) ?_
      show own_Ends p e below F (T36.setTop (mkF m 37 #[.val (.int p1), .val (.int p2), .val (.int p3), .val (.int p4), .val (.int p5), .val (.int (1 : Int32)), .val (.int (1 : Int32)), .val (.ref a34), .val (.int (1 : Int32)), .unset] []))
      refine own_step (fun _ k => XS.iload X36.here hx rfl (hb hby at_37) rfl k) ?_
      show own_Ends p e below F (T36.setTop (mkF m 39 #[.val (.int p1), .val (.int p2), .val (.int p3), .val (.int p4), .val (.int p5), .val (.int (1 : Int32)), .val (.int (1 : Int32)), .val (.ref a34), .val (.int (1 : Int32)), .unset] [(.int (1 : Int32))]))
      refine own_step (fun _ k => XS.iconst X36.here hx rfl (hb hby at_39) k) ?_
      show own_Ends p e below F (T36.setTop (mkF m 40 #[.val (.int p1), .val (.int p2), .val (.int p3), .val (.int p4), .val (.int p5), .val (.int (1 : Int32)), .val (.int (1 : Int32)), .val (.ref a34), .val (.int (1 : Int32)), .unset] [(.int (1 : Int32)), (.int (1 : Int32))]))
      refine own_step (fun _ k => XS.icmpNo X36.here hx rfl (hb hby at_40) rfl (flt (by decide : ¬ ((1 : Int32) < (1 : Int32)))).1 k) ?_
      show own_Ends p e below F (T36.setTop (mkF m 43 #[.val (.int p1), .val (.int p2), .val (.int p3), .val (.int p4), .val (.int p5), .val (.int (1 : Int32)), .val (.int (1 : Int32)), .val (.ref a34), .val (.int (1 : Int32)), .unset] []))
      refine own_step (fun _ k => XS.aload X36.here hx rfl (hb hby at_43) rfl rfl k) ?_
      show own_Ends p e below F (T36.setTop (mkF m 45 #[.val (.int p1), .val (.int p2), .val (.int p3), .val (.int p4), .val (.int p5), .val (.int (1 : Int32)), .val (.int (1 : Int32)), .val (.ref a34), .val (.int (1 : Int32)), .unset] [(.ref a34)]))
      refine own_step (fun _ k => XS.iloadN X36.here hx rfl (hb hby at_45) rfl k) ?_
      show own_Ends p e below F (T36.setTop (mkF m 46 #[.val (.int p1), .val (.int p2), .val (.int p3), .val (.int p4), .val (.int p5), .val (.int (1 : Int32)), .val (.int (1 : Int32)), .val (.ref a34), .val (.int (1 : Int32)), .unset] [(.int p3), (.ref a34)]))
      obtain ⟨cq37, kq37, qa37, qb37, qc37⟩ := isOf hZ eq36 fq0_35
      obtain ⟨_, _, ⟨T37, L37, k37, n37⟩, -, X37, ⟨Lc37, hQ37, l37, y37, z37⟩, st37⟩ := X36.virtualBack hx (y := (⟨"com/example/concept_reasoner/conceptreasoner/completion/IntList", "add", "(I)V"⟩ : MethodName)) (z := (⟨"com/example/concept_reasoner/conceptreasoner/completion/IntList", "add", "(I)V"⟩ : MethodName)) hown (mvT hZ (own_g hw 20 rfl)) (mvT hZ (own_g hw 21 rfl)) (notFace_of_selects (args := #[]) (mvT hZ (own_g hw 23 rfl))) (mvT hZ (own_g hw 23 rfl)) (mvT hZ (own_g hw 22 rfl)) (by decide) (backOf (W := 0) (rm4a l Z a0 hw [] a34 nn p3 kN T35.heap n0 Z35 fq0_35 ge_a34 fq2_35 fq1_35 ((VN.ext E34).keep Kq35 (ninS ne_nn_a34 nin0)) ne_nn_a34) hZ (own_g hw 24 rfl) (own_g hw 2 rfl) (by decide) (by decide)) qa37 qc37 (g := (mkF m 46 #[.val (.int p1), .val (.int p2), .val (.int p3), .val (.int p4), .val (.int p5), .val (.int (1 : Int32)), .val (.int (1 : Int32)), .val (.ref a34), .val (.int (1 : Int32)), .unset] [(.int p3), (.ref a34)])) rfl (by rw [hml]; rfl) (Steps.refl _) (argsL := [(.int p3)]) (rest := []) (lenOf pd__28I_29V rfl) rfl (by show 2 * 0 + _ ≤ _; exact Nat.le_of_eq rfl) (hb hby at_46) (fun _ _ => ⟨rfl, eq36, (by decide : 1 + 1 ≤ _), (by decide : 2 + 4 ≤ _)⟩)
      dsimp only [Pt.U, Pt.locs, Pt.cells, Pt.slots] at X37 l37 y37 z37 st37 hQ37
      subst l37 y37 z37
      obtain ⟨c37, kc37, rfl, Nq37, Kq37, fq0_37, fq1_37, fq2_37, fq3_37, fq4_37⟩ := hQ37
      have N37 := Fr.app N36 Nq37
      have Z37 : n0 ≤ T37.heap.size := Nat.le_trans Z35 Kq37.1
      have SZ37 : h0.size ≤ T37.heap.size := Nat.le_trans SZ35 Kq37.1
      have S0_37 := own_Sta_keep S0_35 Kq37 (allS (own_ns_exa fq0_35) all0)
      have ne_nn_c37 : nn ≠ c37 := Nat.ne_of_lt (Nat.lt_of_lt_of_le (((VN.ext E34).keep Kq35 (ninS ne_nn_a34 nin0))).lt fq0_37)
      have ne_a34_c37 : a34 ≠ c37 := Nat.ne_of_lt (Nat.lt_of_lt_of_le (fq1_35).lt fq0_37)
      have ge_c37 : n0 ≤ c37 := Nat.le_trans Z35 fq0_37
      have sz_c37 : h0.size ≤ c37 := Nat.le_trans SZ35 fq0_37
      refine own_trans st37 ?_
      show own_Ends p e below F (T37.setTop (mkF m 49 #[.val (.int p1), .val (.int p2), .val (.int p3), .val (.int p4), .val (.int p5), .val (.int (1 : Int32)), .val (.int (1 : Int32)), .val (.ref a34), .val (.int (1 : Int32)), .unset] []))
      refine own_step (fun _ k => XS.iload X37.here hx rfl (hb hby at_49) rfl k) ?_
      show own_Ends p e below F (T37.setTop (mkF m 51 #[.val (.int p1), .val (.int p2), .val (.int p3), .val (.int p4), .val (.int p5), .val (.int (1 : Int32)), .val (.int (1 : Int32)), .val (.ref a34), .val (.int (1 : Int32)), .unset] [(.int (1 : Int32))]))
      refine own_step (fun _ k => XS.iconst X37.here hx rfl (hb hby at_51) k) ?_
      show own_Ends p e below F (T37.setTop (mkF m 52 #[.val (.int p1), .val (.int p2), .val (.int p3), .val (.int p4), .val (.int p5), .val (.int (1 : Int32)), .val (.int (1 : Int32)), .val (.ref a34), .val (.int (1 : Int32)), .unset] [(.int (2 : Int32)), (.int (1 : Int32))]))
      refine own_step (fun _ k => XS.icmpYes X37.here hx rfl (pc0 := 52) (pc' := 61) rfl (hb hby at_52) rfl (tlt (by decide : (1 : Int32) < (2 : Int32))).1 (by decide) (by decide) k) ?_
      show own_Ends p e below F (T37.setTop (mkF m 61 #[.val (.int p1), .val (.int p2), .val (.int p3), .val (.int p4), .val (.int p5), .val (.int (1 : Int32)), .val (.int (1 : Int32)), .val (.ref a34), .val (.int (1 : Int32)), .unset] []))
      refine own_step (fun _ k => XS.iload X37.here hx rfl (hb hby at_61) rfl k) ?_
      show own_Ends p e below F (T37.setTop (mkF m 63 #[.val (.int p1), .val (.int p2), .val (.int p3), .val (.int p4), .val (.int p5), .val (.int (1 : Int32)), .val (.int (1 : Int32)), .val (.ref a34), .val (.int (1 : Int32)), .unset] [(.int (1 : Int32))]))
      refine own_step (fun _ k => XS.iconst X37.here hx rfl (hb hby at_63) k) ?_
      show own_Ends p e below F (T37.setTop (mkF m 64 #[.val (.int p1), .val (.int p2), .val (.int p3), .val (.int p4), .val (.int p5), .val (.int (1 : Int32)), .val (.int (1 : Int32)), .val (.ref a34), .val (.int (1 : Int32)), .unset] [(.int (3 : Int32)), (.int (1 : Int32))]))
      refine own_step (fun _ k => XS.icmpYes X37.here hx rfl (pc0 := 64) (pc' := 74) rfl (hb hby at_64) rfl (tlt (by decide : (1 : Int32) < (3 : Int32))).1 (by decide) (by decide) k) ?_
      show own_Ends p e below F (T37.setTop (mkF m 74 #[.val (.int p1), .val (.int p2), .val (.int p3), .val (.int p4), .val (.int p5), .val (.int (1 : Int32)), .val (.int (1 : Int32)), .val (.ref a34), .val (.int (1 : Int32)), .unset] []))
      refine own_step (fun _ k => XS.iload X37.here hx rfl (hb hby at_74) rfl k) ?_
      show own_Ends p e below F (T37.setTop (mkF m 76 #[.val (.int p1), .val (.int p2), .val (.int p3), .val (.int p4), .val (.int p5), .val (.int (1 : Int32)), .val (.int (1 : Int32)), .val (.ref a34), .val (.int (1 : Int32)), .unset] [(.int (1 : Int32))]))
      refine own_step (fun _ k => XS.iconst X37.here hx rfl (hb hby at_76) k) ?_
      show own_Ends p e below F (T37.setTop (mkF m 77 #[.val (.int p1), .val (.int p2), .val (.int p3), .val (.int p4), .val (.int p5), .val (.int (1 : Int32)), .val (.int (1 : Int32)), .val (.ref a34), .val (.int (1 : Int32)), .unset] [(.int (1 : Int32)), (.int (1 : Int32))]))
      refine own_step (fun _ k => XS.icmpNo X37.here hx rfl (hb hby at_77) rfl (flt (by decide : ¬ ((1 : Int32) < (1 : Int32)))).1 k) ?_
      show own_Ends p e below F (T37.setTop (mkF m 80 #[.val (.int p1), .val (.int p2), .val (.int p3), .val (.int p4), .val (.int p5), .val (.int (1 : Int32)), .val (.int (1 : Int32)), .val (.ref a34), .val (.int (1 : Int32)), .unset] []))
      refine own_step (fun _ k => XS.aload X37.here hx rfl (hb hby at_80) rfl rfl k) ?_
      show own_Ends p e below F (T37.setTop (mkF m 82 #[.val (.int p1), .val (.int p2), .val (.int p3), .val (.int p4), .val (.int p5), .val (.int (1 : Int32)), .val (.int (1 : Int32)), .val (.ref a34), .val (.int (1 : Int32)), .unset] [(.ref a34)]))
      obtain ⟨cq38, kq38, qa38, qb38, qc38⟩ := isOf hZ rfl fq1_37
      obtain ⟨_, _, ⟨T38, L38, k38, n38⟩, -, X38, ⟨Lc38, hQ38, l38, y38, z38⟩, st38⟩ := X37.virtualBack hx (y := (⟨"com/example/concept_reasoner/conceptreasoner/completion/IntList", "removeLast", "()I"⟩ : MethodName)) (z := (⟨"com/example/concept_reasoner/conceptreasoner/completion/IntList", "removeLast", "()I"⟩ : MethodName)) hown (mvT hZ (own_g hw 41 rfl)) (mvT hZ (own_g hw 42 rfl)) (notFace_of_selects (args := #[]) (mvT hZ (own_g hw 44 rfl))) (mvT hZ (own_g hw 44 rfl)) (mvT hZ (own_g hw 43 rfl)) (by decide) (backOf (W := 0) (rm8 l Z a0 hw [] a34 c37 (1 : Int32) p3 kc37 [(.int p3), (.int (0 : Int32)), (.int (0 : Int32)), (.int (0 : Int32))] T37.heap n0 Z37 fq1_37 ge_a34 fq2_37 fq3_37 fq4_37 (Ne.symm ne_a34_c37) (by decide) ⟨by decide, by decide⟩ rfl) hZ (own_g hw 45 rfl) (own_g hw 2 rfl) (by decide) (by decide)) qa38 qc38 (g := (mkF m 82 #[.val (.int p1), .val (.int p2), .val (.int p3), .val (.int p4), .val (.int p5), .val (.int (1 : Int32)), .val (.int (1 : Int32)), .val (.ref a34), .val (.int (1 : Int32)), .unset] [(.ref a34)])) rfl (by rw [hml]; rfl) (Steps.refl _) (argsL := []) (rest := []) (lenOf pd__28_29I rfl) rfl (by show 2 * 0 + _ ≤ _; exact Nat.le_of_eq rfl) (hb hby at_82) (fun _ _ => ⟨rfl, rfl, (by decide : 2 + 0 ≤ _), (by decide : 6 + 0 ≤ _)⟩)
      dsimp only [Pt.U, Pt.locs, Pt.cells, Pt.slots] at X38 l38 y38 z38 st38 hQ38
      subst l38 y38 z38
      obtain ⟨rfl, Nq38, Kq38, fq0_38, fq1_38, fq2_38⟩ := hQ38
      have N38 := Fr.app N37 Nq38
      have Z38 : n0 ≤ T38.heap.size := Nat.le_trans Z37 Kq38.1
      have SZ38 : h0.size ≤ T38.heap.size := Nat.le_trans SZ37 Kq38.1
      have S0_38 := own_Sta_keep S0_37 Kq38 (allS (own_ns_exa fq1_37) all0)
      have fs38 : Fld Z T38.heap a34 "com/example/concept_reasoner/conceptreasoner/completion/IntList" "size" "I" (.int (0 : Int32)) := fq1_38
      refine own_trans st38 ?_
      show own_Ends p e below F (T38.setTop (mkF m 85 #[.val (.int p1), .val (.int p2), .val (.int p3), .val (.int p4), .val (.int p5), .val (.int (1 : Int32)), .val (.int (1 : Int32)), .val (.ref a34), .val (.int (1 : Int32)), .unset] [(.int p3)]))
      refine own_step (fun _ k => XS.pop X38.here hx rfl (hb hby at_85) rfl rfl k) ?_
      show own_Ends p e below F (T38.setTop (mkF m 86 #[.val (.int p1), .val (.int p2), .val (.int p3), .val (.int p4), .val (.int p5), .val (.int (1 : Int32)), .val (.int (1 : Int32)), .val (.ref a34), .val (.int (1 : Int32)), .unset] []))
      refine own_step (fun _ k => XS.iload X38.here hx rfl (hb hby at_86) rfl k) ?_
      show own_Ends p e below F (T38.setTop (mkF m 88 #[.val (.int p1), .val (.int p2), .val (.int p3), .val (.int p4), .val (.int p5), .val (.int (1 : Int32)), .val (.int (1 : Int32)), .val (.ref a34), .val (.int (1 : Int32)), .unset] [(.int (1 : Int32))]))
      refine own_step (fun _ k => XS.iconst X38.here hx rfl (hb hby at_88) k) ?_
      show own_Ends p e below F (T38.setTop (mkF m 89 #[.val (.int p1), .val (.int p2), .val (.int p3), .val (.int p4), .val (.int p5), .val (.int (1 : Int32)), .val (.int (1 : Int32)), .val (.ref a34), .val (.int (1 : Int32)), .unset] [(.int (2 : Int32)), (.int (1 : Int32))]))
      refine own_step (fun _ k => XS.icmpYes X38.here hx rfl (pc0 := 89) (pc' := 98) rfl (hb hby at_89) rfl (tlt (by decide : (1 : Int32) < (2 : Int32))).1 (by decide) (by decide) k) ?_
      show own_Ends p e below F (T38.setTop (mkF m 98 #[.val (.int p1), .val (.int p2), .val (.int p3), .val (.int p4), .val (.int p5), .val (.int (1 : Int32)), .val (.int (1 : Int32)), .val (.ref a34), .val (.int (1 : Int32)), .unset] []))
      refine own_step (fun _ k => XS.iload X38.here hx rfl (hb hby at_98) rfl k) ?_
      show own_Ends p e below F (T38.setTop (mkF m 100 #[.val (.int p1), .val (.int p2), .val (.int p3), .val (.int p4), .val (.int p5), .val (.int (1 : Int32)), .val (.int (1 : Int32)), .val (.ref a34), .val (.int (1 : Int32)), .unset] [(.int (1 : Int32))]))
      refine own_step (fun _ k => XS.iconst X38.here hx rfl (hb hby at_100) k) ?_
      show own_Ends p e below F (T38.setTop (mkF m 101 #[.val (.int p1), .val (.int p2), .val (.int p3), .val (.int p4), .val (.int p5), .val (.int (1 : Int32)), .val (.int (1 : Int32)), .val (.ref a34), .val (.int (1 : Int32)), .unset] [(.int (3 : Int32)), (.int (1 : Int32))]))
      refine own_step (fun _ k => XS.icmpYes X38.here hx rfl (pc0 := 101) (pc' := 110) rfl (hb hby at_101) rfl (tlt (by decide : (1 : Int32) < (3 : Int32))).1 (by decide) (by decide) k) ?_
      show own_Ends p e below F (T38.setTop (mkF m 110 #[.val (.int p1), .val (.int p2), .val (.int p3), .val (.int p4), .val (.int p5), .val (.int (1 : Int32)), .val (.int (1 : Int32)), .val (.ref a34), .val (.int (1 : Int32)), .unset] []))
      refine own_step (fun _ k => XS.iload X38.here hx rfl (hb hby at_110) rfl k) ?_
      show own_Ends p e below F (T38.setTop (mkF m 112 #[.val (.int p1), .val (.int p2), .val (.int p3), .val (.int p4), .val (.int p5), .val (.int (1 : Int32)), .val (.int (1 : Int32)), .val (.ref a34), .val (.int (1 : Int32)), .unset] [(.int (1 : Int32))]))
      refine own_step (fun _ k => XS.iload X38.here hx rfl (hb hby at_112) rfl k) ?_
      show own_Ends p e below F (T38.setTop (mkF m 114 #[.val (.int p1), .val (.int p2), .val (.int p3), .val (.int p4), .val (.int p5), .val (.int (1 : Int32)), .val (.int (1 : Int32)), .val (.ref a34), .val (.int (1 : Int32)), .unset] [(.int (1 : Int32)), (.int (1 : Int32))]))
      refine own_step (fun _ k => XS.isub X38.here hx rfl (hb hby at_114) rfl k) ?_
      show own_Ends p e below F (T38.setTop (mkF m 115 #[.val (.int p1), .val (.int p2), .val (.int p3), .val (.int p4), .val (.int p5), .val (.int (1 : Int32)), .val (.int (1 : Int32)), .val (.ref a34), .val (.int (1 : Int32)), .unset] [(.int (0 : Int32))]))
      refine own_step (fun _ k => XS.ifNo X38.here hx rfl (hb hby at_115) rfl ((if0 _ _).trans (teq (by decide : (0 : Int32) = (0 : Int32))).2) k) ?_
      show own_Ends p e below F (T38.setTop (mkF m 118 #[.val (.int p1), .val (.int p2), .val (.int p3), .val (.int p4), .val (.int p5), .val (.int (1 : Int32)), .val (.int (1 : Int32)), .val (.ref a34), .val (.int (1 : Int32)), .unset] []))
      refine own_step (fun _ k => XS.iconst X38.here hx rfl (hb hby at_118) k) ?_
      show own_Ends p e below F (T38.setTop (mkF m 119 #[.val (.int p1), .val (.int p2), .val (.int p3), .val (.int p4), .val (.int p5), .val (.int (1 : Int32)), .val (.int (1 : Int32)), .val (.ref a34), .val (.int (1 : Int32)), .unset] [(.int (1 : Int32))]))
      refine own_step (fun _ k => XS.goto X38.here hx rfl (pc0 := 119) (pc' := 123) rfl (hb hby at_119) (by decide) (by decide) k) ?_
      show own_Ends p e below F (T38.setTop (mkF m 123 #[.val (.int p1), .val (.int p2), .val (.int p3), .val (.int p4), .val (.int p5), .val (.int (1 : Int32)), .val (.int (1 : Int32)), .val (.ref a34), .val (.int (1 : Int32)), .unset] [(.int (1 : Int32))]))
      refine own_step (fun _ k => XS.istore X38.here hx rfl (hb hby at_123) rfl (l' := #[.val (.int p1), .val (.int p2), .val (.int p3), .val (.int p4), .val (.int p5), .val (.int (1 : Int32)), .val (.int (1 : Int32)), .val (.ref a34), .val (.int (1 : Int32)), .val (.int (1 : Int32))]) rfl k) ?_
      show own_Ends p e below F (T38.setTop (mkF m 125 #[.val (.int p1), .val (.int p2), .val (.int p3), .val (.int p4), .val (.int p5), .val (.int (1 : Int32)), .val (.int (1 : Int32)), .val (.ref a34), .val (.int (1 : Int32)), .val (.int (1 : Int32))] []))
      refine own_step (fun _ k => XS.iload X38.here hx rfl (hb hby at_125) rfl k) ?_
      show own_Ends p e below F (T38.setTop (mkF m 127 #[.val (.int p1), .val (.int p2), .val (.int p3), .val (.int p4), .val (.int p5), .val (.int (1 : Int32)), .val (.int (1 : Int32)), .val (.ref a34), .val (.int (1 : Int32)), .val (.int (1 : Int32))] [(.int (1 : Int32))]))
      refine own_step (fun _ k => XS.ifNo X38.here hx rfl (hb hby at_127) rfl ((if0 _ _).trans (feq (by decide : ¬ ((1 : Int32) = (0 : Int32)))).1) k) ?_
      show own_Ends p e below F (T38.setTop (mkF m 130 #[.val (.int p1), .val (.int p2), .val (.int p3), .val (.int p4), .val (.int p5), .val (.int (1 : Int32)), .val (.int (1 : Int32)), .val (.ref a34), .val (.int (1 : Int32)), .val (.int (1 : Int32))] []))
      refine own_step (fun _ k => XS.aload X38.here hx rfl (hb hby at_130) rfl rfl k) ?_
      show own_Ends p e below F (T38.setTop (mkF m 132 #[.val (.int p1), .val (.int p2), .val (.int p3), .val (.int p4), .val (.int p5), .val (.int (1 : Int32)), .val (.int (1 : Int32)), .val (.ref a34), .val (.int (1 : Int32)), .val (.int (1 : Int32))] [(.ref a34)]))
      obtain ⟨cq39, kq39, qa39, qb39, qc39⟩ := isOf hZ rfl fq0_38
      obtain ⟨_, _, ⟨T39, L39, k39, n39⟩, -, X39, ⟨Lc39, hQ39, l39, y39, z39⟩, st39⟩ := X38.virtualBack hx (y := (⟨"com/example/concept_reasoner/conceptreasoner/completion/IntList", "isEmpty", "()Z"⟩ : MethodName)) (z := (⟨"com/example/concept_reasoner/conceptreasoner/completion/IntList", "isEmpty", "()Z"⟩ : MethodName)) hown (mvT hZ (own_g hw 13 rfl)) (mvT hZ (own_g hw 14 rfl)) (notFace_of_selects (args := #[]) (mvT hZ (own_g hw 16 rfl))) (mvT hZ (own_g hw 16 rfl)) (mvT hZ (own_g hw 15 rfl)) (by decide) (backOf (W := 0) (rm3 l Z a0 hw [] a34 (0 : Int32) T38.heap n0 Z38 fs38) hZ (own_g hw 17 rfl) (own_g hw 2 rfl) (by decide) (by decide)) qa39 qc39 (g := (mkF m 132 #[.val (.int p1), .val (.int p2), .val (.int p3), .val (.int p4), .val (.int p5), .val (.int (1 : Int32)), .val (.int (1 : Int32)), .val (.ref a34), .val (.int (1 : Int32)), .val (.int (1 : Int32))] [(.ref a34)])) rfl (by rw [hml]; rfl) (Steps.refl _) (argsL := []) (rest := []) (lenOf pd__28_29Z rfl) rfl (by show 2 * 0 + _ ≤ _; exact Nat.le_of_eq rfl) (hb hby at_132) (fun _ _ => ⟨rfl, rfl, (by decide : 2 + 0 ≤ _), (by decide : 6 + 0 ≤ _)⟩)
      dsimp only [Pt.U, Pt.locs, Pt.cells, Pt.slots] at X39 l39 y39 z39 st39 hQ39
      subst l39 y39 z39
      obtain ⟨rfl, Nq39, eq39⟩ := hQ39
      have N39 := Fr.app N38 Nq39
      refine own_trans st39 ?_
      show own_Ends p e below F (T39.setTop (mkF m 135 #[.val (.int p1), .val (.int p2), .val (.int p3), .val (.int p4), .val (.int p5), .val (.int (1 : Int32)), .val (.int (1 : Int32)), .val (.ref a34), .val (.int (1 : Int32)), .val (.int (1 : Int32))] [(.int (own_emp (0 : Int32)))]))
      rw [show (own_emp (0 : Int32)) = (1 : Int32) from (by first | rfl | decide)]
      show own_Ends p e below F (T39.setTop (mkF m 135 #[.val (.int p1), .val (.int p2), .val (.int p3), .val (.int p4), .val (.int p5), .val (.int (1 : Int32)), .val (.int (1 : Int32)), .val (.ref a34), .val (.int (1 : Int32)), .val (.int (1 : Int32))] [(.int (1 : Int32))]))
      refine own_step (fun _ k => XS.iload X39.here hx rfl (hb hby at_135) rfl k) ?_
      show own_Ends p e below F (T39.setTop (mkF m 137 #[.val (.int p1), .val (.int p2), .val (.int p3), .val (.int p4), .val (.int p5), .val (.int (1 : Int32)), .val (.int (1 : Int32)), .val (.ref a34), .val (.int (1 : Int32)), .val (.int (1 : Int32))] [(.int (1 : Int32)), (.int (1 : Int32))]))
      refine own_step (fun _ k => XS.icmpNo X39.here hx rfl (hb hby at_137) rfl (teq (by decide : (1 : Int32) = (1 : Int32))).2 k) ?_
      show own_Ends p e below F (T39.setTop (mkF m 140 #[.val (.int p1), .val (.int p2), .val (.int p3), .val (.int p4), .val (.int p5), .val (.int (1 : Int32)), .val (.int (1 : Int32)), .val (.ref a34), .val (.int (1 : Int32)), .val (.int (1 : Int32))] []))
      refine own_step (fun _ k => XS.iconst X39.here hx rfl (hb hby at_140) k) ?_
      show own_Ends p e below F (T39.setTop (mkF m 141 #[.val (.int p1), .val (.int p2), .val (.int p3), .val (.int p4), .val (.int p5), .val (.int (1 : Int32)), .val (.int (1 : Int32)), .val (.ref a34), .val (.int (1 : Int32)), .val (.int (1 : Int32))] [(.int (1 : Int32))]))
      refine own_step (fun _ k => XS.goto X39.here hx rfl (pc0 := 141) (pc' := 145) rfl (hb hby at_141) (by decide) (by decide) k) ?_
      show own_Ends p e below F (T39.setTop (mkF m 145 #[.val (.int p1), .val (.int p2), .val (.int p3), .val (.int p4), .val (.int p5), .val (.int (1 : Int32)), .val (.int (1 : Int32)), .val (.ref a34), .val (.int (1 : Int32)), .val (.int (1 : Int32))] [(.int (1 : Int32))]))
      rw [hF]
      exact own_ret X39 (v := (some (.int (nar .boolean (1 : Int32))))) (fun h => by rw [Bd.returns] at h; cases h) Bd.notSynchronized (fun fs hr => retN X39 hx (t := .boolean) Bd.returns (by simp) (hb hby at_145) hr) (by decide) (by decide) (by rw [eq39]; exact ⟨rfl, N39⟩)
  · rw [q5]
    show own_Ends p e below F (s₁.setTop (mkF m 5 #[.val (.int p1), .val (.int p2), .val (.int p3), .val (.int p4), .val (.int p5), .val (.int (2 : Int32)), .unset, .unset, .unset, .unset] []))
    refine own_step (fun _ k => XS.iloadN X0.here hx rfl (hb hby at_5) rfl k) ?_
    show own_Ends p e below F (s₁.setTop (mkF m 6 #[.val (.int p1), .val (.int p2), .val (.int p3), .val (.int p4), .val (.int p5), .val (.int (2 : Int32)), .unset, .unset, .unset, .unset] [(.int p2)]))
    refine own_step (fun _ k => XS.iconst X0.here hx rfl (hb hby at_6) k) ?_
    show own_Ends p e below F (s₁.setTop (mkF m 7 #[.val (.int p1), .val (.int p2), .val (.int p3), .val (.int p4), .val (.int p5), .val (.int (2 : Int32)), .unset, .unset, .unset, .unset] [(.int (3 : Int32)), (.int p2)]))
    refine own_step (fun _ k => XS.iand X0.here hx rfl (hb hby at_7) rfl k) ?_
    show own_Ends p e below F (s₁.setTop (mkF m 8 #[.val (.int p1), .val (.int p2), .val (.int p3), .val (.int p4), .val (.int p5), .val (.int (2 : Int32)), .unset, .unset, .unset, .unset] [(.int (p2 &&& (3 : Int32)))]))
    refine own_step (fun _ k => XS.istore X0.here hx rfl (hb hby at_8) rfl (l' := #[.val (.int p1), .val (.int p2), .val (.int p3), .val (.int p4), .val (.int p5), .val (.int (2 : Int32)), .val (.int (p2 &&& (3 : Int32))), .unset, .unset, .unset]) rfl k) ?_
    show own_Ends p e below F (s₁.setTop (mkF m 10 #[.val (.int p1), .val (.int p2), .val (.int p3), .val (.int p4), .val (.int p5), .val (.int (2 : Int32)), .val (.int (p2 &&& (3 : Int32))), .unset, .unset, .unset] []))
    rcases own_m3 p2 with q10 | q10 | q10 | q10
    · rw [q10]
      show own_Ends p e below F (s₁.setTop (mkF m 10 #[.val (.int p1), .val (.int p2), .val (.int p3), .val (.int p4), .val (.int p5), .val (.int (2 : Int32)), .val (.int (0 : Int32)), .unset, .unset, .unset] []))
      refine own_step (fun _ k => XS.iload X0.here hx rfl (hb hby at_10) rfl k) ?_
      show own_Ends p e below F (s₁.setTop (mkF m 12 #[.val (.int p1), .val (.int p2), .val (.int p3), .val (.int p4), .val (.int p5), .val (.int (2 : Int32)), .val (.int (0 : Int32)), .unset, .unset, .unset] [(.int (0 : Int32))]))
      refine own_step (fun _ k => XS.iload X0.here hx rfl (hb hby at_12) rfl k) ?_
      show own_Ends p e below F (s₁.setTop (mkF m 14 #[.val (.int p1), .val (.int p2), .val (.int p3), .val (.int p4), .val (.int p5), .val (.int (2 : Int32)), .val (.int (0 : Int32)), .unset, .unset, .unset] [(.int (2 : Int32)), (.int (0 : Int32))]))
      refine own_step (fun _ k => XS.icmpYes X0.here hx rfl (pc0 := 14) (pc' := 21) rfl (hb hby at_14) rfl (flt (by decide : ¬ ((2 : Int32) < (0 : Int32)))).2.2.2 (by decide) (by decide) k) ?_
      show own_Ends p e below F (s₁.setTop (mkF m 21 #[.val (.int p1), .val (.int p2), .val (.int p3), .val (.int p4), .val (.int p5), .val (.int (2 : Int32)), .val (.int (0 : Int32)), .unset, .unset, .unset] []))
      obtain ⟨T40, h40, X40, e40, E40, A40, D40, -, st40⟩ := newO X0 hx hZ hown (own_g hw 0 rfl) (own_g hw 1 rfl) (own_g hw 2 rfl) e0 (g := (mkF m 21 #[.val (.int p1), .val (.int p2), .val (.int p3), .val (.int p4), .val (.int p5), .val (.int (2 : Int32)), .val (.int (0 : Int32)), .unset, .unset, .unset] [])) rfl (hb hby at_21) (by decide) (by decide)
      obtain ⟨a40, g40⟩ : ∃ z, z = h0.size := ⟨_, rfl⟩
      rw [← g40] at A40 D40 st40
      have ge_a40 : n0 ≤ a40 := Nat.le_trans Z0 (Nat.le_of_eq g40.symm)
      have sz_a40 : h0.size ≤ a40 := Nat.le_trans (Nat.le_refl h0.size) (Nat.le_of_eq g40.symm)
      have ne_nn_a40 : nn ≠ a40 := Nat.ne_of_lt (by rw [g40]; exact VN.lt)
      have Z40 : n0 ≤ h40.size := Nat.le_trans Z0 E40.1
      have SZ40 : h0.size ≤ h40.size := Nat.le_trans (Nat.le_refl h0.size) E40.1
      have F40_values : Fld Z h40 a40 "com/example/concept_reasoner/conceptreasoner/completion/IntList" "values" "[I" .null := D40 (Or.inl (own_g hw 12 rfl)) (ty := (.array .int)) (by decide)
      have F40_size : Fld Z h40 a40 "com/example/concept_reasoner/conceptreasoner/completion/IntList" "size" "I" (.int (0 : Int32)) := D40 (Or.inl (own_g hw 19 rfl)) (ty := .int) (by decide)
      refine own_step st40 ?_
      show own_Ends p e below F (T40.setTop (mkF m 24 #[.val (.int p1), .val (.int p2), .val (.int p3), .val (.int p4), .val (.int p5), .val (.int (2 : Int32)), .val (.int (0 : Int32)), .unset, .unset, .unset] [(.ref a40)]))
      refine own_step (fun _ k => XS.dup X40.here hx rfl (hb hby at_24) rfl rfl k) ?_
      show own_Ends p e below F (T40.setTop (mkF m 25 #[.val (.int p1), .val (.int p2), .val (.int p3), .val (.int p4), .val (.int p5), .val (.int (2 : Int32)), .val (.int (0 : Int32)), .unset, .unset, .unset] [(.ref a40), (.ref a40)]))
      obtain ⟨_, _, ⟨T41, L41, k41, n41⟩, -, X41, ⟨Lc41, hQ41, l41, y41, z41⟩, st41⟩ := X40.specialBack hx (y := (⟨"com/example/concept_reasoner/conceptreasoner/completion/IntList", "<init>", "()V"⟩ : MethodName)) rfl hown (mvT hZ (own_g hw 3 rfl)) (mvT hZ (own_g hw 4 rfl)) (mvT hZ (own_g hw 5 rfl)) (by decide) (backOf (W := 1) (rm1 l Z a0 hw [] a40 nn h40 n0 Z40 A40 ge_a40 F40_values F40_size (Sta.ext E40 SN)) hZ (own_g hw 5 rfl) (own_g hw 2 rfl) (by decide) (by decide)) (g := (mkF m 25 #[.val (.int p1), .val (.int p2), .val (.int p3), .val (.int p4), .val (.int p5), .val (.int (2 : Int32)), .val (.int (0 : Int32)), .unset, .unset, .unset] [(.ref a40), (.ref a40)])) rfl (by rw [hml]; rfl) (Steps.refl _) (a := a40) (argsL := []) (rest := [(.ref a40)]) (lenOf pd__28_29V rfl) rfl (by show 2 * 0 + _ ≤ _; exact Nat.le_of_eq rfl) (hb hby at_25) (fun _ _ => ⟨rfl, e40, (by decide : 1 + 0 ≤ _), (by decide : 2 + 0 ≤ _)⟩)
      dsimp only [Pt.U, Pt.locs, Pt.cells, Pt.slots] at X41 l41 y41 z41 st41 hQ41
      subst l41 y41 z41
      obtain ⟨rfl, Nq41, Kq41, fq0_41, fq1_41, fq2_41⟩ := hQ41
      have N41 := Fr.app N0 Nq41
      have Z41 : n0 ≤ T41.heap.size := Nat.le_trans Z40 Kq41.1
      have SZ41 : h0.size ≤ T41.heap.size := Nat.le_trans SZ40 Kq41.1
      have S0_41 := own_Sta_keep (Sta.ext E40 SN) Kq41 (allS (own_ns_exa A40) all0)
      refine own_trans st41 ?_
      show own_Ends p e below F (T41.setTop (mkF m 28 #[.val (.int p1), .val (.int p2), .val (.int p3), .val (.int p4), .val (.int p5), .val (.int (2 : Int32)), .val (.int (0 : Int32)), .unset, .unset, .unset] [(.ref a40)]))
      refine own_step (fun _ k => XS.astore X41.here hx rfl (hb hby at_28) rfl rfl (l' := #[.val (.int p1), .val (.int p2), .val (.int p3), .val (.int p4), .val (.int p5), .val (.int (2 : Int32)), .val (.int (0 : Int32)), .val (.ref a40), .unset, .unset]) rfl k) ?_
      show own_Ends p e below F (T41.setTop (mkF m 30 #[.val (.int p1), .val (.int p2), .val (.int p3), .val (.int p4), .val (.int p5), .val (.int (2 : Int32)), .val (.int (0 : Int32)), .val (.ref a40), .unset, .unset] []))
      refine own_step (fun _ k => XS.aload X41.here hx rfl (hb hby at_30) rfl rfl k) ?_
      show own_Ends p e below F (T41.setTop (mkF m 32 #[.val (.int p1), .val (.int p2), .val (.int p3), .val (.int p4), .val (.int p5), .val (.int (2 : Int32)), .val (.int (0 : Int32)), .val (.ref a40), .unset, .unset] [(.ref a40)]))
      obtain ⟨cq42, kq42, qa42, qb42, qc42⟩ := isOf hZ rfl fq0_41
      obtain ⟨_, _, ⟨T42, L42, k42, n42⟩, -, X42, ⟨Lc42, hQ42, l42, y42, z42⟩, st42⟩ := X41.virtualBack hx (y := (⟨"com/example/concept_reasoner/conceptreasoner/completion/IntList", "isEmpty", "()Z"⟩ : MethodName)) (z := (⟨"com/example/concept_reasoner/conceptreasoner/completion/IntList", "isEmpty", "()Z"⟩ : MethodName)) hown (mvT hZ (own_g hw 13 rfl)) (mvT hZ (own_g hw 14 rfl)) (notFace_of_selects (args := #[]) (mvT hZ (own_g hw 16 rfl))) (mvT hZ (own_g hw 16 rfl)) (mvT hZ (own_g hw 15 rfl)) (by decide) (backOf (W := 0) (rm3 l Z a0 hw [] a40 (0 : Int32) T41.heap n0 Z41 fq2_41) hZ (own_g hw 17 rfl) (own_g hw 2 rfl) (by decide) (by decide)) qa42 qc42 (g := (mkF m 32 #[.val (.int p1), .val (.int p2), .val (.int p3), .val (.int p4), .val (.int p5), .val (.int (2 : Int32)), .val (.int (0 : Int32)), .val (.ref a40), .unset, .unset] [(.ref a40)])) rfl (by rw [hml]; rfl) (Steps.refl _) (argsL := []) (rest := []) (lenOf pd__28_29Z rfl) rfl (by show 2 * 0 + _ ≤ _; exact Nat.le_of_eq rfl) (hb hby at_32) (fun _ _ => ⟨rfl, rfl, (by decide : 1 + 0 ≤ _), (by decide : 2 + 0 ≤ _)⟩)
      dsimp only [Pt.U, Pt.locs, Pt.cells, Pt.slots] at X42 l42 y42 z42 st42 hQ42
      subst l42 y42 z42
      obtain ⟨rfl, Nq42, eq42⟩ := hQ42
      have N42 := Fr.app N41 Nq42
      refine own_trans st42 ?_
      show own_Ends p e below F (T42.setTop (mkF m 35 #[.val (.int p1), .val (.int p2), .val (.int p3), .val (.int p4), .val (.int p5), .val (.int (2 : Int32)), .val (.int (0 : Int32)), .val (.ref a40), .unset, .unset] [(.int (own_emp (0 : Int32)))]))
      rw [show (own_emp (0 : Int32)) = (1 : Int32) from (by first | rfl | decide)]
      show own_Ends p e below F (T42.setTop (mkF m 35 #[.val (.int p1), .val (.int p2), .val (.int p3), .val (.int p4), .val (.int p5), .val (.int (2 : Int32)), .val (.int (0 : Int32)), .val (.ref a40), .unset, .unset] [(.int (1 : Int32))]))
      refine own_step (fun _ k => XS.istore X42.here hx rfl (hb hby at_35) rfl (l' := #[.val (.int p1), .val (.int p2), .val (.int p3), .val (.int p4), .val (.int p5), .val (.int (2 : Int32)), .val (.int (0 : Int32)), .val (.ref a40), .val (.int (1 : Int32)), .unset]) rfl k) ?_
      show own_Ends p e below F (T42.setTop (mkF m 37 #[.val (.int p1), .val (.int p2), .val (.int p3), .val (.int p4), .val (.int p5), .val (.int (2 : Int32)), .val (.int (0 : Int32)), .val (.ref a40), .val (.int (1 : Int32)), .unset] []))
      refine own_step (fun _ k => XS.iload X42.here hx rfl (hb hby at_37) rfl k) ?_
      show own_Ends p e below F (T42.setTop (mkF m 39 #[.val (.int p1), .val (.int p2), .val (.int p3), .val (.int p4), .val (.int p5), .val (.int (2 : Int32)), .val (.int (0 : Int32)), .val (.ref a40), .val (.int (1 : Int32)), .unset] [(.int (2 : Int32))]))
      refine own_step (fun _ k => XS.iconst X42.here hx rfl (hb hby at_39) k) ?_
      show own_Ends p e below F (T42.setTop (mkF m 40 #[.val (.int p1), .val (.int p2), .val (.int p3), .val (.int p4), .val (.int p5), .val (.int (2 : Int32)), .val (.int (0 : Int32)), .val (.ref a40), .val (.int (1 : Int32)), .unset] [(.int (1 : Int32)), (.int (2 : Int32))]))
      refine own_step (fun _ k => XS.icmpNo X42.here hx rfl (hb hby at_40) rfl (flt (by decide : ¬ ((2 : Int32) < (1 : Int32)))).1 k) ?_
      show own_Ends p e below F (T42.setTop (mkF m 43 #[.val (.int p1), .val (.int p2), .val (.int p3), .val (.int p4), .val (.int p5), .val (.int (2 : Int32)), .val (.int (0 : Int32)), .val (.ref a40), .val (.int (1 : Int32)), .unset] []))
      refine own_step (fun _ k => XS.aload X42.here hx rfl (hb hby at_43) rfl rfl k) ?_
      show own_Ends p e below F (T42.setTop (mkF m 45 #[.val (.int p1), .val (.int p2), .val (.int p3), .val (.int p4), .val (.int p5), .val (.int (2 : Int32)), .val (.int (0 : Int32)), .val (.ref a40), .val (.int (1 : Int32)), .unset] [(.ref a40)]))
      refine own_step (fun _ k => XS.iloadN X42.here hx rfl (hb hby at_45) rfl k) ?_
      show own_Ends p e below F (T42.setTop (mkF m 46 #[.val (.int p1), .val (.int p2), .val (.int p3), .val (.int p4), .val (.int p5), .val (.int (2 : Int32)), .val (.int (0 : Int32)), .val (.ref a40), .val (.int (1 : Int32)), .unset] [(.int p3), (.ref a40)]))
      obtain ⟨cq43, kq43, qa43, qb43, qc43⟩ := isOf hZ eq42 fq0_41
      obtain ⟨_, _, ⟨T43, L43, k43, n43⟩, -, X43, ⟨Lc43, hQ43, l43, y43, z43⟩, st43⟩ := X42.virtualBack hx (y := (⟨"com/example/concept_reasoner/conceptreasoner/completion/IntList", "add", "(I)V"⟩ : MethodName)) (z := (⟨"com/example/concept_reasoner/conceptreasoner/completion/IntList", "add", "(I)V"⟩ : MethodName)) hown (mvT hZ (own_g hw 20 rfl)) (mvT hZ (own_g hw 21 rfl)) (notFace_of_selects (args := #[]) (mvT hZ (own_g hw 23 rfl))) (mvT hZ (own_g hw 23 rfl)) (mvT hZ (own_g hw 22 rfl)) (by decide) (backOf (W := 0) (rm4a l Z a0 hw [] a40 nn p3 kN T41.heap n0 Z41 fq0_41 ge_a40 fq2_41 fq1_41 ((VN.ext E40).keep Kq41 (ninS ne_nn_a40 nin0)) ne_nn_a40) hZ (own_g hw 24 rfl) (own_g hw 2 rfl) (by decide) (by decide)) qa43 qc43 (g := (mkF m 46 #[.val (.int p1), .val (.int p2), .val (.int p3), .val (.int p4), .val (.int p5), .val (.int (2 : Int32)), .val (.int (0 : Int32)), .val (.ref a40), .val (.int (1 : Int32)), .unset] [(.int p3), (.ref a40)])) rfl (by rw [hml]; rfl) (Steps.refl _) (argsL := [(.int p3)]) (rest := []) (lenOf pd__28I_29V rfl) rfl (by show 2 * 0 + _ ≤ _; exact Nat.le_of_eq rfl) (hb hby at_46) (fun _ _ => ⟨rfl, eq42, (by decide : 1 + 1 ≤ _), (by decide : 2 + 4 ≤ _)⟩)
      dsimp only [Pt.U, Pt.locs, Pt.cells, Pt.slots] at X43 l43 y43 z43 st43 hQ43
      subst l43 y43 z43
      obtain ⟨c43, kc43, rfl, Nq43, Kq43, fq0_43, fq1_43, fq2_43, fq3_43, fq4_43⟩ := hQ43
      have N43 := Fr.app N42 Nq43
      have Z43 : n0 ≤ T43.heap.size := Nat.le_trans Z41 Kq43.1
      have SZ43 : h0.size ≤ T43.heap.size := Nat.le_trans SZ41 Kq43.1
      have S0_43 := own_Sta_keep S0_41 Kq43 (allS (own_ns_exa fq0_41) all0)
      have ne_nn_c43 : nn ≠ c43 := Nat.ne_of_lt (Nat.lt_of_lt_of_le (((VN.ext E40).keep Kq41 (ninS ne_nn_a40 nin0))).lt fq0_43)
      have ne_a40_c43 : a40 ≠ c43 := Nat.ne_of_lt (Nat.lt_of_lt_of_le (fq1_41).lt fq0_43)
      have ge_c43 : n0 ≤ c43 := Nat.le_trans Z41 fq0_43
      have sz_c43 : h0.size ≤ c43 := Nat.le_trans SZ41 fq0_43
      refine own_trans st43 ?_
      show own_Ends p e below F (T43.setTop (mkF m 49 #[.val (.int p1), .val (.int p2), .val (.int p3), .val (.int p4), .val (.int p5), .val (.int (2 : Int32)), .val (.int (0 : Int32)), .val (.ref a40), .val (.int (1 : Int32)), .unset] []))
      refine own_step (fun _ k => XS.iload X43.here hx rfl (hb hby at_49) rfl k) ?_
      show own_Ends p e below F (T43.setTop (mkF m 51 #[.val (.int p1), .val (.int p2), .val (.int p3), .val (.int p4), .val (.int p5), .val (.int (2 : Int32)), .val (.int (0 : Int32)), .val (.ref a40), .val (.int (1 : Int32)), .unset] [(.int (2 : Int32))]))
      refine own_step (fun _ k => XS.iconst X43.here hx rfl (hb hby at_51) k) ?_
      show own_Ends p e below F (T43.setTop (mkF m 52 #[.val (.int p1), .val (.int p2), .val (.int p3), .val (.int p4), .val (.int p5), .val (.int (2 : Int32)), .val (.int (0 : Int32)), .val (.ref a40), .val (.int (1 : Int32)), .unset] [(.int (2 : Int32)), (.int (2 : Int32))]))
      refine own_step (fun _ k => XS.icmpNo X43.here hx rfl (hb hby at_52) rfl (flt (by decide : ¬ ((2 : Int32) < (2 : Int32)))).1 k) ?_
      show own_Ends p e below F (T43.setTop (mkF m 55 #[.val (.int p1), .val (.int p2), .val (.int p3), .val (.int p4), .val (.int p5), .val (.int (2 : Int32)), .val (.int (0 : Int32)), .val (.ref a40), .val (.int (1 : Int32)), .unset] []))
      refine own_step (fun _ k => XS.aload X43.here hx rfl (hb hby at_55) rfl rfl k) ?_
      show own_Ends p e below F (T43.setTop (mkF m 57 #[.val (.int p1), .val (.int p2), .val (.int p3), .val (.int p4), .val (.int p5), .val (.int (2 : Int32)), .val (.int (0 : Int32)), .val (.ref a40), .val (.int (1 : Int32)), .unset] [(.ref a40)]))
      refine own_step (fun _ k => XS.iloadN X43.here hx rfl (hb hby at_57) rfl k) ?_
      show own_Ends p e below F (T43.setTop (mkF m 58 #[.val (.int p1), .val (.int p2), .val (.int p3), .val (.int p4), .val (.int p5), .val (.int (2 : Int32)), .val (.int (0 : Int32)), .val (.ref a40), .val (.int (1 : Int32)), .unset] [(.int p4), (.ref a40)]))
      obtain ⟨cq44, kq44, qa44, qb44, qc44⟩ := isOf hZ rfl fq1_43
      obtain ⟨_, _, ⟨T44, L44, k44, n44⟩, -, X44, ⟨Lc44, hQ44, l44, y44, z44⟩, st44⟩ := X43.virtualBack hx (y := (⟨"com/example/concept_reasoner/conceptreasoner/completion/IntList", "add", "(I)V"⟩ : MethodName)) (z := (⟨"com/example/concept_reasoner/conceptreasoner/completion/IntList", "add", "(I)V"⟩ : MethodName)) hown (mvT hZ (own_g hw 20 rfl)) (mvT hZ (own_g hw 21 rfl)) (notFace_of_selects (args := #[]) (mvT hZ (own_g hw 23 rfl))) (mvT hZ (own_g hw 23 rfl)) (mvT hZ (own_g hw 22 rfl)) (by decide) (backOf (W := 0) (rm4b l Z a0 hw [] a40 c43 p4 (1 : Int32) kc43 [(.int p3), (.int (0 : Int32)), (.int (0 : Int32)), (.int (0 : Int32))] T43.heap n0 Z43 fq1_43 ge_a40 fq2_43 fq3_43 fq4_43 (Ne.symm ne_a40_c43) ge_c43 (by decide) ⟨by decide, by decide⟩ (Nat.le_of_ble_eq_true rfl)) hZ (own_g hw 24 rfl) (own_g hw 2 rfl) (by decide) (by decide)) qa44 qc44 (g := (mkF m 58 #[.val (.int p1), .val (.int p2), .val (.int p3), .val (.int p4), .val (.int p5), .val (.int (2 : Int32)), .val (.int (0 : Int32)), .val (.ref a40), .val (.int (1 : Int32)), .unset] [(.int p4), (.ref a40)])) rfl (by rw [hml]; rfl) (Steps.refl _) (argsL := [(.int p4)]) (rest := []) (lenOf pd__28I_29V rfl) rfl (by show 2 * 0 + _ ≤ _; exact Nat.le_of_eq rfl) (hb hby at_58) (fun _ _ => ⟨rfl, rfl, (by decide : 2 + 0 ≤ _), (by decide : 6 + 0 ≤ _)⟩)
      dsimp only [Pt.U, Pt.locs, Pt.cells, Pt.slots] at X44 l44 y44 z44 st44 hQ44
      subst l44 y44 z44
      obtain ⟨rfl, Nq44, Kq44, fq0_44, fq1_44, fq2_44, fq3_44⟩ := hQ44
      have N44 := Fr.app N43 Nq44
      have Z44 : n0 ≤ T44.heap.size := Nat.le_trans Z43 Kq44.1
      have SZ44 : h0.size ≤ T44.heap.size := Nat.le_trans SZ43 Kq44.1
      have S0_44 := own_Sta_keep S0_43 Kq44 (allS (own_ns_exa fq1_43) (allS (own_ns_arv fq4_43) all0))
      have fs44 : Fld Z T44.heap a40 "com/example/concept_reasoner/conceptreasoner/completion/IntList" "size" "I" (.int (2 : Int32)) := fq1_44
      have fv44 : Arv Z T44.heap c43 kc43 .int (4 : Int32) [(.int p3), (.int p4), (.int (0 : Int32)), (.int (0 : Int32))] (.int (0 : Int32)) := fq3_44
      refine own_trans st44 ?_
      show own_Ends p e below F (T44.setTop (mkF m 61 #[.val (.int p1), .val (.int p2), .val (.int p3), .val (.int p4), .val (.int p5), .val (.int (2 : Int32)), .val (.int (0 : Int32)), .val (.ref a40), .val (.int (1 : Int32)), .unset] []))
      refine own_step (fun _ k => XS.iload X44.here hx rfl (hb hby at_61) rfl k) ?_
      show own_Ends p e below F (T44.setTop (mkF m 63 #[.val (.int p1), .val (.int p2), .val (.int p3), .val (.int p4), .val (.int p5), .val (.int (2 : Int32)), .val (.int (0 : Int32)), .val (.ref a40), .val (.int (1 : Int32)), .unset] [(.int (2 : Int32))]))
      refine own_step (fun _ k => XS.iconst X44.here hx rfl (hb hby at_63) k) ?_
      show own_Ends p e below F (T44.setTop (mkF m 64 #[.val (.int p1), .val (.int p2), .val (.int p3), .val (.int p4), .val (.int p5), .val (.int (2 : Int32)), .val (.int (0 : Int32)), .val (.ref a40), .val (.int (1 : Int32)), .unset] [(.int (3 : Int32)), (.int (2 : Int32))]))
      refine own_step (fun _ k => XS.icmpYes X44.here hx rfl (pc0 := 64) (pc' := 74) rfl (hb hby at_64) rfl (tlt (by decide : (2 : Int32) < (3 : Int32))).1 (by decide) (by decide) k) ?_
      show own_Ends p e below F (T44.setTop (mkF m 74 #[.val (.int p1), .val (.int p2), .val (.int p3), .val (.int p4), .val (.int p5), .val (.int (2 : Int32)), .val (.int (0 : Int32)), .val (.ref a40), .val (.int (1 : Int32)), .unset] []))
      refine own_step (fun _ k => XS.iload X44.here hx rfl (hb hby at_74) rfl k) ?_
      show own_Ends p e below F (T44.setTop (mkF m 76 #[.val (.int p1), .val (.int p2), .val (.int p3), .val (.int p4), .val (.int p5), .val (.int (2 : Int32)), .val (.int (0 : Int32)), .val (.ref a40), .val (.int (1 : Int32)), .unset] [(.int (0 : Int32))]))
      refine own_step (fun _ k => XS.iconst X44.here hx rfl (hb hby at_76) k) ?_
      show own_Ends p e below F (T44.setTop (mkF m 77 #[.val (.int p1), .val (.int p2), .val (.int p3), .val (.int p4), .val (.int p5), .val (.int (2 : Int32)), .val (.int (0 : Int32)), .val (.ref a40), .val (.int (1 : Int32)), .unset] [(.int (1 : Int32)), (.int (0 : Int32))]))
      refine own_step (fun _ k => XS.icmpYes X44.here hx rfl (pc0 := 77) (pc' := 86) rfl (hb hby at_77) rfl (tlt (by decide : (0 : Int32) < (1 : Int32))).1 (by decide) (by decide) k) ?_
      show own_Ends p e below F (T44.setTop (mkF m 86 #[.val (.int p1), .val (.int p2), .val (.int p3), .val (.int p4), .val (.int p5), .val (.int (2 : Int32)), .val (.int (0 : Int32)), .val (.ref a40), .val (.int (1 : Int32)), .unset] []))
      refine own_step (fun _ k => XS.iload X44.here hx rfl (hb hby at_86) rfl k) ?_
      show own_Ends p e below F (T44.setTop (mkF m 88 #[.val (.int p1), .val (.int p2), .val (.int p3), .val (.int p4), .val (.int p5), .val (.int (2 : Int32)), .val (.int (0 : Int32)), .val (.ref a40), .val (.int (1 : Int32)), .unset] [(.int (0 : Int32))]))
      refine own_step (fun _ k => XS.iconst X44.here hx rfl (hb hby at_88) k) ?_
      show own_Ends p e below F (T44.setTop (mkF m 89 #[.val (.int p1), .val (.int p2), .val (.int p3), .val (.int p4), .val (.int p5), .val (.int (2 : Int32)), .val (.int (0 : Int32)), .val (.ref a40), .val (.int (1 : Int32)), .unset] [(.int (2 : Int32)), (.int (0 : Int32))]))
      refine own_step (fun _ k => XS.icmpYes X44.here hx rfl (pc0 := 89) (pc' := 98) rfl (hb hby at_89) rfl (tlt (by decide : (0 : Int32) < (2 : Int32))).1 (by decide) (by decide) k) ?_
      show own_Ends p e below F (T44.setTop (mkF m 98 #[.val (.int p1), .val (.int p2), .val (.int p3), .val (.int p4), .val (.int p5), .val (.int (2 : Int32)), .val (.int (0 : Int32)), .val (.ref a40), .val (.int (1 : Int32)), .unset] []))
      refine own_step (fun _ k => XS.iload X44.here hx rfl (hb hby at_98) rfl k) ?_
      show own_Ends p e below F (T44.setTop (mkF m 100 #[.val (.int p1), .val (.int p2), .val (.int p3), .val (.int p4), .val (.int p5), .val (.int (2 : Int32)), .val (.int (0 : Int32)), .val (.ref a40), .val (.int (1 : Int32)), .unset] [(.int (0 : Int32))]))
      refine own_step (fun _ k => XS.iconst X44.here hx rfl (hb hby at_100) k) ?_
      show own_Ends p e below F (T44.setTop (mkF m 101 #[.val (.int p1), .val (.int p2), .val (.int p3), .val (.int p4), .val (.int p5), .val (.int (2 : Int32)), .val (.int (0 : Int32)), .val (.ref a40), .val (.int (1 : Int32)), .unset] [(.int (3 : Int32)), (.int (0 : Int32))]))
      refine own_step (fun _ k => XS.icmpYes X44.here hx rfl (pc0 := 101) (pc' := 110) rfl (hb hby at_101) rfl (tlt (by decide : (0 : Int32) < (3 : Int32))).1 (by decide) (by decide) k) ?_
      show own_Ends p e below F (T44.setTop (mkF m 110 #[.val (.int p1), .val (.int p2), .val (.int p3), .val (.int p4), .val (.int p5), .val (.int (2 : Int32)), .val (.int (0 : Int32)), .val (.ref a40), .val (.int (1 : Int32)), .unset] []))
      refine own_step (fun _ k => XS.iload X44.here hx rfl (hb hby at_110) rfl k) ?_
      show own_Ends p e below F (T44.setTop (mkF m 112 #[.val (.int p1), .val (.int p2), .val (.int p3), .val (.int p4), .val (.int p5), .val (.int (2 : Int32)), .val (.int (0 : Int32)), .val (.ref a40), .val (.int (1 : Int32)), .unset] [(.int (2 : Int32))]))
      refine own_step (fun _ k => XS.iload X44.here hx rfl (hb hby at_112) rfl k) ?_
      show own_Ends p e below F (T44.setTop (mkF m 114 #[.val (.int p1), .val (.int p2), .val (.int p3), .val (.int p4), .val (.int p5), .val (.int (2 : Int32)), .val (.int (0 : Int32)), .val (.ref a40), .val (.int (1 : Int32)), .unset] [(.int (0 : Int32)), (.int (2 : Int32))]))
      refine own_step (fun _ k => XS.isub X44.here hx rfl (hb hby at_114) rfl k) ?_
      show own_Ends p e below F (T44.setTop (mkF m 115 #[.val (.int p1), .val (.int p2), .val (.int p3), .val (.int p4), .val (.int p5), .val (.int (2 : Int32)), .val (.int (0 : Int32)), .val (.ref a40), .val (.int (1 : Int32)), .unset] [(.int (2 : Int32))]))
      refine own_step (fun _ k => XS.ifYes X44.here hx rfl (pc0 := 115) (pc' := 122) rfl (hb hby at_115) rfl ((if0 _ _).trans (feq (by decide : ¬ ((2 : Int32) = (0 : Int32)))).2) (by decide) (by decide) k) ?_
      show own_Ends p e below F (T44.setTop (mkF m 122 #[.val (.int p1), .val (.int p2), .val (.int p3), .val (.int p4), .val (.int p5), .val (.int (2 : Int32)), .val (.int (0 : Int32)), .val (.ref a40), .val (.int (1 : Int32)), .unset] []))
      refine own_step (fun _ k => XS.iconst X44.here hx rfl (hb hby at_122) k) ?_
      show own_Ends p e below F (T44.setTop (mkF m 123 #[.val (.int p1), .val (.int p2), .val (.int p3), .val (.int p4), .val (.int p5), .val (.int (2 : Int32)), .val (.int (0 : Int32)), .val (.ref a40), .val (.int (1 : Int32)), .unset] [(.int (0 : Int32))]))
      refine own_step (fun _ k => XS.istore X44.here hx rfl (hb hby at_123) rfl (l' := #[.val (.int p1), .val (.int p2), .val (.int p3), .val (.int p4), .val (.int p5), .val (.int (2 : Int32)), .val (.int (0 : Int32)), .val (.ref a40), .val (.int (1 : Int32)), .val (.int (0 : Int32))]) rfl k) ?_
      show own_Ends p e below F (T44.setTop (mkF m 125 #[.val (.int p1), .val (.int p2), .val (.int p3), .val (.int p4), .val (.int p5), .val (.int (2 : Int32)), .val (.int (0 : Int32)), .val (.ref a40), .val (.int (1 : Int32)), .val (.int (0 : Int32))] []))
      refine own_step (fun _ k => XS.iload X44.here hx rfl (hb hby at_125) rfl k) ?_
      show own_Ends p e below F (T44.setTop (mkF m 127 #[.val (.int p1), .val (.int p2), .val (.int p3), .val (.int p4), .val (.int p5), .val (.int (2 : Int32)), .val (.int (0 : Int32)), .val (.ref a40), .val (.int (1 : Int32)), .val (.int (0 : Int32))] [(.int (1 : Int32))]))
      refine own_step (fun _ k => XS.ifNo X44.here hx rfl (hb hby at_127) rfl ((if0 _ _).trans (feq (by decide : ¬ ((1 : Int32) = (0 : Int32)))).1) k) ?_
      show own_Ends p e below F (T44.setTop (mkF m 130 #[.val (.int p1), .val (.int p2), .val (.int p3), .val (.int p4), .val (.int p5), .val (.int (2 : Int32)), .val (.int (0 : Int32)), .val (.ref a40), .val (.int (1 : Int32)), .val (.int (0 : Int32))] []))
      refine own_step (fun _ k => XS.aload X44.here hx rfl (hb hby at_130) rfl rfl k) ?_
      show own_Ends p e below F (T44.setTop (mkF m 132 #[.val (.int p1), .val (.int p2), .val (.int p3), .val (.int p4), .val (.int p5), .val (.int (2 : Int32)), .val (.int (0 : Int32)), .val (.ref a40), .val (.int (1 : Int32)), .val (.int (0 : Int32))] [(.ref a40)]))
      obtain ⟨cq45, kq45, qa45, qb45, qc45⟩ := isOf hZ rfl fq0_44
      obtain ⟨_, _, ⟨T45, L45, k45, n45⟩, -, X45, ⟨Lc45, hQ45, l45, y45, z45⟩, st45⟩ := X44.virtualBack hx (y := (⟨"com/example/concept_reasoner/conceptreasoner/completion/IntList", "isEmpty", "()Z"⟩ : MethodName)) (z := (⟨"com/example/concept_reasoner/conceptreasoner/completion/IntList", "isEmpty", "()Z"⟩ : MethodName)) hown (mvT hZ (own_g hw 13 rfl)) (mvT hZ (own_g hw 14 rfl)) (notFace_of_selects (args := #[]) (mvT hZ (own_g hw 16 rfl))) (mvT hZ (own_g hw 16 rfl)) (mvT hZ (own_g hw 15 rfl)) (by decide) (backOf (W := 0) (rm3 l Z a0 hw [] a40 (2 : Int32) T44.heap n0 Z44 fs44) hZ (own_g hw 17 rfl) (own_g hw 2 rfl) (by decide) (by decide)) qa45 qc45 (g := (mkF m 132 #[.val (.int p1), .val (.int p2), .val (.int p3), .val (.int p4), .val (.int p5), .val (.int (2 : Int32)), .val (.int (0 : Int32)), .val (.ref a40), .val (.int (1 : Int32)), .val (.int (0 : Int32))] [(.ref a40)])) rfl (by rw [hml]; rfl) (Steps.refl _) (argsL := []) (rest := []) (lenOf pd__28_29Z rfl) rfl (by show 2 * 0 + _ ≤ _; exact Nat.le_of_eq rfl) (hb hby at_132) (fun _ _ => ⟨rfl, rfl, (by decide : 2 + 0 ≤ _), (by decide : 6 + 0 ≤ _)⟩)
      dsimp only [Pt.U, Pt.locs, Pt.cells, Pt.slots] at X45 l45 y45 z45 st45 hQ45
      subst l45 y45 z45
      obtain ⟨rfl, Nq45, eq45⟩ := hQ45
      have N45 := Fr.app N44 Nq45
      refine own_trans st45 ?_
      show own_Ends p e below F (T45.setTop (mkF m 135 #[.val (.int p1), .val (.int p2), .val (.int p3), .val (.int p4), .val (.int p5), .val (.int (2 : Int32)), .val (.int (0 : Int32)), .val (.ref a40), .val (.int (1 : Int32)), .val (.int (0 : Int32))] [(.int (own_emp (2 : Int32)))]))
      rw [show (own_emp (2 : Int32)) = (0 : Int32) from (by first | rfl | decide)]
      show own_Ends p e below F (T45.setTop (mkF m 135 #[.val (.int p1), .val (.int p2), .val (.int p3), .val (.int p4), .val (.int p5), .val (.int (2 : Int32)), .val (.int (0 : Int32)), .val (.ref a40), .val (.int (1 : Int32)), .val (.int (0 : Int32))] [(.int (0 : Int32))]))
      refine own_step (fun _ k => XS.iload X45.here hx rfl (hb hby at_135) rfl k) ?_
      show own_Ends p e below F (T45.setTop (mkF m 137 #[.val (.int p1), .val (.int p2), .val (.int p3), .val (.int p4), .val (.int p5), .val (.int (2 : Int32)), .val (.int (0 : Int32)), .val (.ref a40), .val (.int (1 : Int32)), .val (.int (0 : Int32))] [(.int (0 : Int32)), (.int (0 : Int32))]))
      refine own_step (fun _ k => XS.icmpNo X45.here hx rfl (hb hby at_137) rfl (teq (by decide : (0 : Int32) = (0 : Int32))).2 k) ?_
      show own_Ends p e below F (T45.setTop (mkF m 140 #[.val (.int p1), .val (.int p2), .val (.int p3), .val (.int p4), .val (.int p5), .val (.int (2 : Int32)), .val (.int (0 : Int32)), .val (.ref a40), .val (.int (1 : Int32)), .val (.int (0 : Int32))] []))
      refine own_step (fun _ k => XS.iconst X45.here hx rfl (hb hby at_140) k) ?_
      show own_Ends p e below F (T45.setTop (mkF m 141 #[.val (.int p1), .val (.int p2), .val (.int p3), .val (.int p4), .val (.int p5), .val (.int (2 : Int32)), .val (.int (0 : Int32)), .val (.ref a40), .val (.int (1 : Int32)), .val (.int (0 : Int32))] [(.int (1 : Int32))]))
      refine own_step (fun _ k => XS.goto X45.here hx rfl (pc0 := 141) (pc' := 145) rfl (hb hby at_141) (by decide) (by decide) k) ?_
      show own_Ends p e below F (T45.setTop (mkF m 145 #[.val (.int p1), .val (.int p2), .val (.int p3), .val (.int p4), .val (.int p5), .val (.int (2 : Int32)), .val (.int (0 : Int32)), .val (.ref a40), .val (.int (1 : Int32)), .val (.int (0 : Int32))] [(.int (1 : Int32))]))
      rw [hF]
      exact own_ret X45 (v := (some (.int (nar .boolean (1 : Int32))))) (fun h => by rw [Bd.returns] at h; cases h) Bd.notSynchronized (fun fs hr => retN X45 hx (t := .boolean) Bd.returns (by simp) (hb hby at_145) hr) (by decide) (by decide) (by rw [eq45]; exact ⟨rfl, N45⟩)
    · rw [q10]
      show own_Ends p e below F (s₁.setTop (mkF m 10 #[.val (.int p1), .val (.int p2), .val (.int p3), .val (.int p4), .val (.int p5), .val (.int (2 : Int32)), .val (.int (1 : Int32)), .unset, .unset, .unset] []))
      refine own_step (fun _ k => XS.iload X0.here hx rfl (hb hby at_10) rfl k) ?_
      show own_Ends p e below F (s₁.setTop (mkF m 12 #[.val (.int p1), .val (.int p2), .val (.int p3), .val (.int p4), .val (.int p5), .val (.int (2 : Int32)), .val (.int (1 : Int32)), .unset, .unset, .unset] [(.int (1 : Int32))]))
      refine own_step (fun _ k => XS.iload X0.here hx rfl (hb hby at_12) rfl k) ?_
      show own_Ends p e below F (s₁.setTop (mkF m 14 #[.val (.int p1), .val (.int p2), .val (.int p3), .val (.int p4), .val (.int p5), .val (.int (2 : Int32)), .val (.int (1 : Int32)), .unset, .unset, .unset] [(.int (2 : Int32)), (.int (1 : Int32))]))
      refine own_step (fun _ k => XS.icmpYes X0.here hx rfl (pc0 := 14) (pc' := 21) rfl (hb hby at_14) rfl (flt (by decide : ¬ ((2 : Int32) < (1 : Int32)))).2.2.2 (by decide) (by decide) k) ?_
      show own_Ends p e below F (s₁.setTop (mkF m 21 #[.val (.int p1), .val (.int p2), .val (.int p3), .val (.int p4), .val (.int p5), .val (.int (2 : Int32)), .val (.int (1 : Int32)), .unset, .unset, .unset] []))
      obtain ⟨T46, h46, X46, e46, E46, A46, D46, -, st46⟩ := newO X0 hx hZ hown (own_g hw 0 rfl) (own_g hw 1 rfl) (own_g hw 2 rfl) e0 (g := (mkF m 21 #[.val (.int p1), .val (.int p2), .val (.int p3), .val (.int p4), .val (.int p5), .val (.int (2 : Int32)), .val (.int (1 : Int32)), .unset, .unset, .unset] [])) rfl (hb hby at_21) (by decide) (by decide)
      obtain ⟨a46, g46⟩ : ∃ z, z = h0.size := ⟨_, rfl⟩
      rw [← g46] at A46 D46 st46
      have ge_a46 : n0 ≤ a46 := Nat.le_trans Z0 (Nat.le_of_eq g46.symm)
      have sz_a46 : h0.size ≤ a46 := Nat.le_trans (Nat.le_refl h0.size) (Nat.le_of_eq g46.symm)
      have ne_nn_a46 : nn ≠ a46 := Nat.ne_of_lt (by rw [g46]; exact VN.lt)
      have Z46 : n0 ≤ h46.size := Nat.le_trans Z0 E46.1
      have SZ46 : h0.size ≤ h46.size := Nat.le_trans (Nat.le_refl h0.size) E46.1
      have F46_values : Fld Z h46 a46 "com/example/concept_reasoner/conceptreasoner/completion/IntList" "values" "[I" .null := D46 (Or.inl (own_g hw 12 rfl)) (ty := (.array .int)) (by decide)
      have F46_size : Fld Z h46 a46 "com/example/concept_reasoner/conceptreasoner/completion/IntList" "size" "I" (.int (0 : Int32)) := D46 (Or.inl (own_g hw 19 rfl)) (ty := .int) (by decide)
      refine own_step st46 ?_
      show own_Ends p e below F (T46.setTop (mkF m 24 #[.val (.int p1), .val (.int p2), .val (.int p3), .val (.int p4), .val (.int p5), .val (.int (2 : Int32)), .val (.int (1 : Int32)), .unset, .unset, .unset] [(.ref a46)]))
      refine own_step (fun _ k => XS.dup X46.here hx rfl (hb hby at_24) rfl rfl k) ?_
      show own_Ends p e below F (T46.setTop (mkF m 25 #[.val (.int p1), .val (.int p2), .val (.int p3), .val (.int p4), .val (.int p5), .val (.int (2 : Int32)), .val (.int (1 : Int32)), .unset, .unset, .unset] [(.ref a46), (.ref a46)]))
      obtain ⟨_, _, ⟨T47, L47, k47, n47⟩, -, X47, ⟨Lc47, hQ47, l47, y47, z47⟩, st47⟩ := X46.specialBack hx (y := (⟨"com/example/concept_reasoner/conceptreasoner/completion/IntList", "<init>", "()V"⟩ : MethodName)) rfl hown (mvT hZ (own_g hw 3 rfl)) (mvT hZ (own_g hw 4 rfl)) (mvT hZ (own_g hw 5 rfl)) (by decide) (backOf (W := 1) (rm1 l Z a0 hw [] a46 nn h46 n0 Z46 A46 ge_a46 F46_values F46_size (Sta.ext E46 SN)) hZ (own_g hw 5 rfl) (own_g hw 2 rfl) (by decide) (by decide)) (g := (mkF m 25 #[.val (.int p1), .val (.int p2), .val (.int p3), .val (.int p4), .val (.int p5), .val (.int (2 : Int32)), .val (.int (1 : Int32)), .unset, .unset, .unset] [(.ref a46), (.ref a46)])) rfl (by rw [hml]; rfl) (Steps.refl _) (a := a46) (argsL := []) (rest := [(.ref a46)]) (lenOf pd__28_29V rfl) rfl (by show 2 * 0 + _ ≤ _; exact Nat.le_of_eq rfl) (hb hby at_25) (fun _ _ => ⟨rfl, e46, (by decide : 1 + 0 ≤ _), (by decide : 2 + 0 ≤ _)⟩)
      dsimp only [Pt.U, Pt.locs, Pt.cells, Pt.slots] at X47 l47 y47 z47 st47 hQ47
      subst l47 y47 z47
      obtain ⟨rfl, Nq47, Kq47, fq0_47, fq1_47, fq2_47⟩ := hQ47
      have N47 := Fr.app N0 Nq47
      have Z47 : n0 ≤ T47.heap.size := Nat.le_trans Z46 Kq47.1
      have SZ47 : h0.size ≤ T47.heap.size := Nat.le_trans SZ46 Kq47.1
      have S0_47 := own_Sta_keep (Sta.ext E46 SN) Kq47 (allS (own_ns_exa A46) all0)
      refine own_trans st47 ?_
      show own_Ends p e below F (T47.setTop (mkF m 28 #[.val (.int p1), .val (.int p2), .val (.int p3), .val (.int p4), .val (.int p5), .val (.int (2 : Int32)), .val (.int (1 : Int32)), .unset, .unset, .unset] [(.ref a46)]))
      refine own_step (fun _ k => XS.astore X47.here hx rfl (hb hby at_28) rfl rfl (l' := #[.val (.int p1), .val (.int p2), .val (.int p3), .val (.int p4), .val (.int p5), .val (.int (2 : Int32)), .val (.int (1 : Int32)), .val (.ref a46), .unset, .unset]) rfl k) ?_
      show own_Ends p e below F (T47.setTop (mkF m 30 #[.val (.int p1), .val (.int p2), .val (.int p3), .val (.int p4), .val (.int p5), .val (.int (2 : Int32)), .val (.int (1 : Int32)), .val (.ref a46), .unset, .unset] []))
      refine own_step (fun _ k => XS.aload X47.here hx rfl (hb hby at_30) rfl rfl k) ?_
      show own_Ends p e below F (T47.setTop (mkF m 32 #[.val (.int p1), .val (.int p2), .val (.int p3), .val (.int p4), .val (.int p5), .val (.int (2 : Int32)), .val (.int (1 : Int32)), .val (.ref a46), .unset, .unset] [(.ref a46)]))
      obtain ⟨cq48, kq48, qa48, qb48, qc48⟩ := isOf hZ rfl fq0_47
      obtain ⟨_, _, ⟨T48, L48, k48, n48⟩, -, X48, ⟨Lc48, hQ48, l48, y48, z48⟩, st48⟩ := X47.virtualBack hx (y := (⟨"com/example/concept_reasoner/conceptreasoner/completion/IntList", "isEmpty", "()Z"⟩ : MethodName)) (z := (⟨"com/example/concept_reasoner/conceptreasoner/completion/IntList", "isEmpty", "()Z"⟩ : MethodName)) hown (mvT hZ (own_g hw 13 rfl)) (mvT hZ (own_g hw 14 rfl)) (notFace_of_selects (args := #[]) (mvT hZ (own_g hw 16 rfl))) (mvT hZ (own_g hw 16 rfl)) (mvT hZ (own_g hw 15 rfl)) (by decide) (backOf (W := 0) (rm3 l Z a0 hw [] a46 (0 : Int32) T47.heap n0 Z47 fq2_47) hZ (own_g hw 17 rfl) (own_g hw 2 rfl) (by decide) (by decide)) qa48 qc48 (g := (mkF m 32 #[.val (.int p1), .val (.int p2), .val (.int p3), .val (.int p4), .val (.int p5), .val (.int (2 : Int32)), .val (.int (1 : Int32)), .val (.ref a46), .unset, .unset] [(.ref a46)])) rfl (by rw [hml]; rfl) (Steps.refl _) (argsL := []) (rest := []) (lenOf pd__28_29Z rfl) rfl (by show 2 * 0 + _ ≤ _; exact Nat.le_of_eq rfl) (hb hby at_32) (fun _ _ => ⟨rfl, rfl, (by decide : 1 + 0 ≤ _), (by decide : 2 + 0 ≤ _)⟩)
      dsimp only [Pt.U, Pt.locs, Pt.cells, Pt.slots] at X48 l48 y48 z48 st48 hQ48
      subst l48 y48 z48
      obtain ⟨rfl, Nq48, eq48⟩ := hQ48
      have N48 := Fr.app N47 Nq48
      refine own_trans st48 ?_
      show own_Ends p e below F (T48.setTop (mkF m 35 #[.val (.int p1), .val (.int p2), .val (.int p3), .val (.int p4), .val (.int p5), .val (.int (2 : Int32)), .val (.int (1 : Int32)), .val (.ref a46), .unset, .unset] [(.int (own_emp (0 : Int32)))]))
      rw [show (own_emp (0 : Int32)) = (1 : Int32) from (by first | rfl | decide)]
      show own_Ends p e below F (T48.setTop (mkF m 35 #[.val (.int p1), .val (.int p2), .val (.int p3), .val (.int p4), .val (.int p5), .val (.int (2 : Int32)), .val (.int (1 : Int32)), .val (.ref a46), .unset, .unset] [(.int (1 : Int32))]))
      refine own_step (fun _ k => XS.istore X48.here hx rfl (hb hby at_35) rfl (l' := #[.val (.int p1), .val (.int p2), .val (.int p3), .val (.int p4), .val (.int p5), .val (.int (2 : Int32)), .val (.int (1 : Int32)), .val (.ref a46), .val (.int (1 : Int32)), .unset]) rfl k) ?_
      show own_Ends p e below F (T48.setTop (mkF m 37 #[.val (.int p1), .val (.int p2), .val (.int p3), .val (.int p4), .val (.int p5), .val (.int (2 : Int32)), .val (.int (1 : Int32)), .val (.ref a46), .val (.int (1 : Int32)), .unset] []))
      refine own_step (fun _ k => XS.iload X48.here hx rfl (hb hby at_37) rfl k) ?_
      show own_Ends p e below F (T48.setTop (mkF m 39 #[.val (.int p1), .val (.int p2), .val (.int p3), .val (.int p4), .val (.int p5), .val (.int (2 : Int32)), .val (.int (1 : Int32)), .val (.ref a46), .val (.int (1 : Int32)), .unset] [(.int (2 : Int32))]))
      refine own_step (fun _ k => XS.iconst X48.here hx rfl (hb hby at_39) k) ?_
      show own_Ends p e below F (T48.setTop (mkF m 40 #[.val (.int p1), .val (.int p2), .val (.int p3), .val (.int p4), .val (.int p5), .val (.int (2 : Int32)), .val (.int (1 : Int32)), .val (.ref a46), .val (.int (1 : Int32)), .unset] [(.int (1 : Int32)), (.int (2 : Int32))]))
      refine own_step (fun _ k => XS.icmpNo X48.here hx rfl (hb hby at_40) rfl (flt (by decide : ¬ ((2 : Int32) < (1 : Int32)))).1 k) ?_
      show own_Ends p e below F (T48.setTop (mkF m 43 #[.val (.int p1), .val (.int p2), .val (.int p3), .val (.int p4), .val (.int p5), .val (.int (2 : Int32)), .val (.int (1 : Int32)), .val (.ref a46), .val (.int (1 : Int32)), .unset] []))
      refine own_step (fun _ k => XS.aload X48.here hx rfl (hb hby at_43) rfl rfl k) ?_
      show own_Ends p e below F (T48.setTop (mkF m 45 #[.val (.int p1), .val (.int p2), .val (.int p3), .val (.int p4), .val (.int p5), .val (.int (2 : Int32)), .val (.int (1 : Int32)), .val (.ref a46), .val (.int (1 : Int32)), .unset] [(.ref a46)]))
      refine own_step (fun _ k => XS.iloadN X48.here hx rfl (hb hby at_45) rfl k) ?_
      show own_Ends p e below F (T48.setTop (mkF m 46 #[.val (.int p1), .val (.int p2), .val (.int p3), .val (.int p4), .val (.int p5), .val (.int (2 : Int32)), .val (.int (1 : Int32)), .val (.ref a46), .val (.int (1 : Int32)), .unset] [(.int p3), (.ref a46)]))
      obtain ⟨cq49, kq49, qa49, qb49, qc49⟩ := isOf hZ eq48 fq0_47
      obtain ⟨_, _, ⟨T49, L49, k49, n49⟩, -, X49, ⟨Lc49, hQ49, l49, y49, z49⟩, st49⟩ := X48.virtualBack hx (y := (⟨"com/example/concept_reasoner/conceptreasoner/completion/IntList", "add", "(I)V"⟩ : MethodName)) (z := (⟨"com/example/concept_reasoner/conceptreasoner/completion/IntList", "add", "(I)V"⟩ : MethodName)) hown (mvT hZ (own_g hw 20 rfl)) (mvT hZ (own_g hw 21 rfl)) (notFace_of_selects (args := #[]) (mvT hZ (own_g hw 23 rfl))) (mvT hZ (own_g hw 23 rfl)) (mvT hZ (own_g hw 22 rfl)) (by decide) (backOf (W := 0) (rm4a l Z a0 hw [] a46 nn p3 kN T47.heap n0 Z47 fq0_47 ge_a46 fq2_47 fq1_47 ((VN.ext E46).keep Kq47 (ninS ne_nn_a46 nin0)) ne_nn_a46) hZ (own_g hw 24 rfl) (own_g hw 2 rfl) (by decide) (by decide)) qa49 qc49 (g := (mkF m 46 #[.val (.int p1), .val (.int p2), .val (.int p3), .val (.int p4), .val (.int p5), .val (.int (2 : Int32)), .val (.int (1 : Int32)), .val (.ref a46), .val (.int (1 : Int32)), .unset] [(.int p3), (.ref a46)])) rfl (by rw [hml]; rfl) (Steps.refl _) (argsL := [(.int p3)]) (rest := []) (lenOf pd__28I_29V rfl) rfl (by show 2 * 0 + _ ≤ _; exact Nat.le_of_eq rfl) (hb hby at_46) (fun _ _ => ⟨rfl, eq48, (by decide : 1 + 1 ≤ _), (by decide : 2 + 4 ≤ _)⟩)
      dsimp only [Pt.U, Pt.locs, Pt.cells, Pt.slots] at X49 l49 y49 z49 st49 hQ49
      subst l49 y49 z49
      obtain ⟨c49, kc49, rfl, Nq49, Kq49, fq0_49, fq1_49, fq2_49, fq3_49, fq4_49⟩ := hQ49
      have N49 := Fr.app N48 Nq49
      have Z49 : n0 ≤ T49.heap.size := Nat.le_trans Z47 Kq49.1
      have SZ49 : h0.size ≤ T49.heap.size := Nat.le_trans SZ47 Kq49.1
      have S0_49 := own_Sta_keep S0_47 Kq49 (allS (own_ns_exa fq0_47) all0)
      have ne_nn_c49 : nn ≠ c49 := Nat.ne_of_lt (Nat.lt_of_lt_of_le (((VN.ext E46).keep Kq47 (ninS ne_nn_a46 nin0))).lt fq0_49)
      have ne_a46_c49 : a46 ≠ c49 := Nat.ne_of_lt (Nat.lt_of_lt_of_le (fq1_47).lt fq0_49)
      have ge_c49 : n0 ≤ c49 := Nat.le_trans Z47 fq0_49
      have sz_c49 : h0.size ≤ c49 := Nat.le_trans SZ47 fq0_49
      refine own_trans st49 ?_
      show own_Ends p e below F (T49.setTop (mkF m 49 #[.val (.int p1), .val (.int p2), .val (.int p3), .val (.int p4), .val (.int p5), .val (.int (2 : Int32)), .val (.int (1 : Int32)), .val (.ref a46), .val (.int (1 : Int32)), .unset] []))
      refine own_step (fun _ k => XS.iload X49.here hx rfl (hb hby at_49) rfl k) ?_
      show own_Ends p e below F (T49.setTop (mkF m 51 #[.val (.int p1), .val (.int p2), .val (.int p3), .val (.int p4), .val (.int p5), .val (.int (2 : Int32)), .val (.int (1 : Int32)), .val (.ref a46), .val (.int (1 : Int32)), .unset] [(.int (2 : Int32))]))
      refine own_step (fun _ k => XS.iconst X49.here hx rfl (hb hby at_51) k) ?_
      show own_Ends p e below F (T49.setTop (mkF m 52 #[.val (.int p1), .val (.int p2), .val (.int p3), .val (.int p4), .val (.int p5), .val (.int (2 : Int32)), .val (.int (1 : Int32)), .val (.ref a46), .val (.int (1 : Int32)), .unset] [(.int (2 : Int32)), (.int (2 : Int32))]))
      refine own_step (fun _ k => XS.icmpNo X49.here hx rfl (hb hby at_52) rfl (flt (by decide : ¬ ((2 : Int32) < (2 : Int32)))).1 k) ?_
      show own_Ends p e below F (T49.setTop (mkF m 55 #[.val (.int p1), .val (.int p2), .val (.int p3), .val (.int p4), .val (.int p5), .val (.int (2 : Int32)), .val (.int (1 : Int32)), .val (.ref a46), .val (.int (1 : Int32)), .unset] []))
      refine own_step (fun _ k => XS.aload X49.here hx rfl (hb hby at_55) rfl rfl k) ?_
      show own_Ends p e below F (T49.setTop (mkF m 57 #[.val (.int p1), .val (.int p2), .val (.int p3), .val (.int p4), .val (.int p5), .val (.int (2 : Int32)), .val (.int (1 : Int32)), .val (.ref a46), .val (.int (1 : Int32)), .unset] [(.ref a46)]))
      refine own_step (fun _ k => XS.iloadN X49.here hx rfl (hb hby at_57) rfl k) ?_
      show own_Ends p e below F (T49.setTop (mkF m 58 #[.val (.int p1), .val (.int p2), .val (.int p3), .val (.int p4), .val (.int p5), .val (.int (2 : Int32)), .val (.int (1 : Int32)), .val (.ref a46), .val (.int (1 : Int32)), .unset] [(.int p4), (.ref a46)]))
      obtain ⟨cq50, kq50, qa50, qb50, qc50⟩ := isOf hZ rfl fq1_49
      obtain ⟨_, _, ⟨T50, L50, k50, n50⟩, -, X50, ⟨Lc50, hQ50, l50, y50, z50⟩, st50⟩ := X49.virtualBack hx (y := (⟨"com/example/concept_reasoner/conceptreasoner/completion/IntList", "add", "(I)V"⟩ : MethodName)) (z := (⟨"com/example/concept_reasoner/conceptreasoner/completion/IntList", "add", "(I)V"⟩ : MethodName)) hown (mvT hZ (own_g hw 20 rfl)) (mvT hZ (own_g hw 21 rfl)) (notFace_of_selects (args := #[]) (mvT hZ (own_g hw 23 rfl))) (mvT hZ (own_g hw 23 rfl)) (mvT hZ (own_g hw 22 rfl)) (by decide) (backOf (W := 0) (rm4b l Z a0 hw [] a46 c49 p4 (1 : Int32) kc49 [(.int p3), (.int (0 : Int32)), (.int (0 : Int32)), (.int (0 : Int32))] T49.heap n0 Z49 fq1_49 ge_a46 fq2_49 fq3_49 fq4_49 (Ne.symm ne_a46_c49) ge_c49 (by decide) ⟨by decide, by decide⟩ (Nat.le_of_ble_eq_true rfl)) hZ (own_g hw 24 rfl) (own_g hw 2 rfl) (by decide) (by decide)) qa50 qc50 (g := (mkF m 58 #[.val (.int p1), .val (.int p2), .val (.int p3), .val (.int p4), .val (.int p5), .val (.int (2 : Int32)), .val (.int (1 : Int32)), .val (.ref a46), .val (.int (1 : Int32)), .unset] [(.int p4), (.ref a46)])) rfl (by rw [hml]; rfl) (Steps.refl _) (argsL := [(.int p4)]) (rest := []) (lenOf pd__28I_29V rfl) rfl (by show 2 * 0 + _ ≤ _; exact Nat.le_of_eq rfl) (hb hby at_58) (fun _ _ => ⟨rfl, rfl, (by decide : 2 + 0 ≤ _), (by decide : 6 + 0 ≤ _)⟩)
      dsimp only [Pt.U, Pt.locs, Pt.cells, Pt.slots] at X50 l50 y50 z50 st50 hQ50
      subst l50 y50 z50
      obtain ⟨rfl, Nq50, Kq50, fq0_50, fq1_50, fq2_50, fq3_50⟩ := hQ50
      have N50 := Fr.app N49 Nq50
      have Z50 : n0 ≤ T50.heap.size := Nat.le_trans Z49 Kq50.1
      have SZ50 : h0.size ≤ T50.heap.size := Nat.le_trans SZ49 Kq50.1
      have S0_50 := own_Sta_keep S0_49 Kq50 (allS (own_ns_exa fq1_49) (allS (own_ns_arv fq4_49) all0))
      have fs50 : Fld Z T50.heap a46 "com/example/concept_reasoner/conceptreasoner/completion/IntList" "size" "I" (.int (2 : Int32)) := fq1_50
      have fv50 : Arv Z T50.heap c49 kc49 .int (4 : Int32) [(.int p3), (.int p4), (.int (0 : Int32)), (.int (0 : Int32))] (.int (0 : Int32)) := fq3_50
      refine own_trans st50 ?_
      show own_Ends p e below F (T50.setTop (mkF m 61 #[.val (.int p1), .val (.int p2), .val (.int p3), .val (.int p4), .val (.int p5), .val (.int (2 : Int32)), .val (.int (1 : Int32)), .val (.ref a46), .val (.int (1 : Int32)), .unset] []))
      refine own_step (fun _ k => XS.iload X50.here hx rfl (hb hby at_61) rfl k) ?_
      show own_Ends p e below F (T50.setTop (mkF m 63 #[.val (.int p1), .val (.int p2), .val (.int p3), .val (.int p4), .val (.int p5), .val (.int (2 : Int32)), .val (.int (1 : Int32)), .val (.ref a46), .val (.int (1 : Int32)), .unset] [(.int (2 : Int32))]))
      refine own_step (fun _ k => XS.iconst X50.here hx rfl (hb hby at_63) k) ?_
      show own_Ends p e below F (T50.setTop (mkF m 64 #[.val (.int p1), .val (.int p2), .val (.int p3), .val (.int p4), .val (.int p5), .val (.int (2 : Int32)), .val (.int (1 : Int32)), .val (.ref a46), .val (.int (1 : Int32)), .unset] [(.int (3 : Int32)), (.int (2 : Int32))]))
      refine own_step (fun _ k => XS.icmpYes X50.here hx rfl (pc0 := 64) (pc' := 74) rfl (hb hby at_64) rfl (tlt (by decide : (2 : Int32) < (3 : Int32))).1 (by decide) (by decide) k) ?_
      show own_Ends p e below F (T50.setTop (mkF m 74 #[.val (.int p1), .val (.int p2), .val (.int p3), .val (.int p4), .val (.int p5), .val (.int (2 : Int32)), .val (.int (1 : Int32)), .val (.ref a46), .val (.int (1 : Int32)), .unset] []))
      refine own_step (fun _ k => XS.iload X50.here hx rfl (hb hby at_74) rfl k) ?_
      show own_Ends p e below F (T50.setTop (mkF m 76 #[.val (.int p1), .val (.int p2), .val (.int p3), .val (.int p4), .val (.int p5), .val (.int (2 : Int32)), .val (.int (1 : Int32)), .val (.ref a46), .val (.int (1 : Int32)), .unset] [(.int (1 : Int32))]))
      refine own_step (fun _ k => XS.iconst X50.here hx rfl (hb hby at_76) k) ?_
      show own_Ends p e below F (T50.setTop (mkF m 77 #[.val (.int p1), .val (.int p2), .val (.int p3), .val (.int p4), .val (.int p5), .val (.int (2 : Int32)), .val (.int (1 : Int32)), .val (.ref a46), .val (.int (1 : Int32)), .unset] [(.int (1 : Int32)), (.int (1 : Int32))]))
      refine own_step (fun _ k => XS.icmpNo X50.here hx rfl (hb hby at_77) rfl (flt (by decide : ¬ ((1 : Int32) < (1 : Int32)))).1 k) ?_
      show own_Ends p e below F (T50.setTop (mkF m 80 #[.val (.int p1), .val (.int p2), .val (.int p3), .val (.int p4), .val (.int p5), .val (.int (2 : Int32)), .val (.int (1 : Int32)), .val (.ref a46), .val (.int (1 : Int32)), .unset] []))
      refine own_step (fun _ k => XS.aload X50.here hx rfl (hb hby at_80) rfl rfl k) ?_
      show own_Ends p e below F (T50.setTop (mkF m 82 #[.val (.int p1), .val (.int p2), .val (.int p3), .val (.int p4), .val (.int p5), .val (.int (2 : Int32)), .val (.int (1 : Int32)), .val (.ref a46), .val (.int (1 : Int32)), .unset] [(.ref a46)]))
      obtain ⟨cq51, kq51, qa51, qb51, qc51⟩ := isOf hZ rfl fq0_50
      obtain ⟨_, _, ⟨T51, L51, k51, n51⟩, -, X51, ⟨Lc51, hQ51, l51, y51, z51⟩, st51⟩ := X50.virtualBack hx (y := (⟨"com/example/concept_reasoner/conceptreasoner/completion/IntList", "removeLast", "()I"⟩ : MethodName)) (z := (⟨"com/example/concept_reasoner/conceptreasoner/completion/IntList", "removeLast", "()I"⟩ : MethodName)) hown (mvT hZ (own_g hw 41 rfl)) (mvT hZ (own_g hw 42 rfl)) (notFace_of_selects (args := #[]) (mvT hZ (own_g hw 44 rfl))) (mvT hZ (own_g hw 44 rfl)) (mvT hZ (own_g hw 43 rfl)) (by decide) (backOf (W := 0) (rm8 l Z a0 hw [] a46 c49 (2 : Int32) p4 kc49 [(.int p3), (.int p4), (.int (0 : Int32)), (.int (0 : Int32))] T50.heap n0 Z50 fq0_50 ge_a46 fs50 fq2_50 fv50 (Ne.symm ne_a46_c49) (by decide) ⟨by decide, by decide⟩ rfl) hZ (own_g hw 45 rfl) (own_g hw 2 rfl) (by decide) (by decide)) qa51 qc51 (g := (mkF m 82 #[.val (.int p1), .val (.int p2), .val (.int p3), .val (.int p4), .val (.int p5), .val (.int (2 : Int32)), .val (.int (1 : Int32)), .val (.ref a46), .val (.int (1 : Int32)), .unset] [(.ref a46)])) rfl (by rw [hml]; rfl) (Steps.refl _) (argsL := []) (rest := []) (lenOf pd__28_29I rfl) rfl (by show 2 * 0 + _ ≤ _; exact Nat.le_of_eq rfl) (hb hby at_82) (fun _ _ => ⟨rfl, rfl, (by decide : 2 + 0 ≤ _), (by decide : 6 + 0 ≤ _)⟩)
      dsimp only [Pt.U, Pt.locs, Pt.cells, Pt.slots] at X51 l51 y51 z51 st51 hQ51
      subst l51 y51 z51
      obtain ⟨rfl, Nq51, Kq51, fq0_51, fq1_51, fq2_51⟩ := hQ51
      have N51 := Fr.app N50 Nq51
      have Z51 : n0 ≤ T51.heap.size := Nat.le_trans Z50 Kq51.1
      have SZ51 : h0.size ≤ T51.heap.size := Nat.le_trans SZ50 Kq51.1
      have S0_51 := own_Sta_keep S0_50 Kq51 (allS (own_ns_exa fq0_50) all0)
      have fs51 : Fld Z T51.heap a46 "com/example/concept_reasoner/conceptreasoner/completion/IntList" "size" "I" (.int (1 : Int32)) := fq1_51
      refine own_trans st51 ?_
      show own_Ends p e below F (T51.setTop (mkF m 85 #[.val (.int p1), .val (.int p2), .val (.int p3), .val (.int p4), .val (.int p5), .val (.int (2 : Int32)), .val (.int (1 : Int32)), .val (.ref a46), .val (.int (1 : Int32)), .unset] [(.int p4)]))
      refine own_step (fun _ k => XS.pop X51.here hx rfl (hb hby at_85) rfl rfl k) ?_
      show own_Ends p e below F (T51.setTop (mkF m 86 #[.val (.int p1), .val (.int p2), .val (.int p3), .val (.int p4), .val (.int p5), .val (.int (2 : Int32)), .val (.int (1 : Int32)), .val (.ref a46), .val (.int (1 : Int32)), .unset] []))
      refine own_step (fun _ k => XS.iload X51.here hx rfl (hb hby at_86) rfl k) ?_
      show own_Ends p e below F (T51.setTop (mkF m 88 #[.val (.int p1), .val (.int p2), .val (.int p3), .val (.int p4), .val (.int p5), .val (.int (2 : Int32)), .val (.int (1 : Int32)), .val (.ref a46), .val (.int (1 : Int32)), .unset] [(.int (1 : Int32))]))
      refine own_step (fun _ k => XS.iconst X51.here hx rfl (hb hby at_88) k) ?_
      show own_Ends p e below F (T51.setTop (mkF m 89 #[.val (.int p1), .val (.int p2), .val (.int p3), .val (.int p4), .val (.int p5), .val (.int (2 : Int32)), .val (.int (1 : Int32)), .val (.ref a46), .val (.int (1 : Int32)), .unset] [(.int (2 : Int32)), (.int (1 : Int32))]))
      refine own_step (fun _ k => XS.icmpYes X51.here hx rfl (pc0 := 89) (pc' := 98) rfl (hb hby at_89) rfl (tlt (by decide : (1 : Int32) < (2 : Int32))).1 (by decide) (by decide) k) ?_
      show own_Ends p e below F (T51.setTop (mkF m 98 #[.val (.int p1), .val (.int p2), .val (.int p3), .val (.int p4), .val (.int p5), .val (.int (2 : Int32)), .val (.int (1 : Int32)), .val (.ref a46), .val (.int (1 : Int32)), .unset] []))
      refine own_step (fun _ k => XS.iload X51.here hx rfl (hb hby at_98) rfl k) ?_
      show own_Ends p e below F (T51.setTop (mkF m 100 #[.val (.int p1), .val (.int p2), .val (.int p3), .val (.int p4), .val (.int p5), .val (.int (2 : Int32)), .val (.int (1 : Int32)), .val (.ref a46), .val (.int (1 : Int32)), .unset] [(.int (1 : Int32))]))
      refine own_step (fun _ k => XS.iconst X51.here hx rfl (hb hby at_100) k) ?_
      show own_Ends p e below F (T51.setTop (mkF m 101 #[.val (.int p1), .val (.int p2), .val (.int p3), .val (.int p4), .val (.int p5), .val (.int (2 : Int32)), .val (.int (1 : Int32)), .val (.ref a46), .val (.int (1 : Int32)), .unset] [(.int (3 : Int32)), (.int (1 : Int32))]))
      refine own_step (fun _ k => XS.icmpYes X51.here hx rfl (pc0 := 101) (pc' := 110) rfl (hb hby at_101) rfl (tlt (by decide : (1 : Int32) < (3 : Int32))).1 (by decide) (by decide) k) ?_
      show own_Ends p e below F (T51.setTop (mkF m 110 #[.val (.int p1), .val (.int p2), .val (.int p3), .val (.int p4), .val (.int p5), .val (.int (2 : Int32)), .val (.int (1 : Int32)), .val (.ref a46), .val (.int (1 : Int32)), .unset] []))
      refine own_step (fun _ k => XS.iload X51.here hx rfl (hb hby at_110) rfl k) ?_
      show own_Ends p e below F (T51.setTop (mkF m 112 #[.val (.int p1), .val (.int p2), .val (.int p3), .val (.int p4), .val (.int p5), .val (.int (2 : Int32)), .val (.int (1 : Int32)), .val (.ref a46), .val (.int (1 : Int32)), .unset] [(.int (2 : Int32))]))
      refine own_step (fun _ k => XS.iload X51.here hx rfl (hb hby at_112) rfl k) ?_
      show own_Ends p e below F (T51.setTop (mkF m 114 #[.val (.int p1), .val (.int p2), .val (.int p3), .val (.int p4), .val (.int p5), .val (.int (2 : Int32)), .val (.int (1 : Int32)), .val (.ref a46), .val (.int (1 : Int32)), .unset] [(.int (1 : Int32)), (.int (2 : Int32))]))
      refine own_step (fun _ k => XS.isub X51.here hx rfl (hb hby at_114) rfl k) ?_
      show own_Ends p e below F (T51.setTop (mkF m 115 #[.val (.int p1), .val (.int p2), .val (.int p3), .val (.int p4), .val (.int p5), .val (.int (2 : Int32)), .val (.int (1 : Int32)), .val (.ref a46), .val (.int (1 : Int32)), .unset] [(.int (1 : Int32))]))
      refine own_step (fun _ k => XS.ifYes X51.here hx rfl (pc0 := 115) (pc' := 122) rfl (hb hby at_115) rfl ((if0 _ _).trans (feq (by decide : ¬ ((1 : Int32) = (0 : Int32)))).2) (by decide) (by decide) k) ?_
      show own_Ends p e below F (T51.setTop (mkF m 122 #[.val (.int p1), .val (.int p2), .val (.int p3), .val (.int p4), .val (.int p5), .val (.int (2 : Int32)), .val (.int (1 : Int32)), .val (.ref a46), .val (.int (1 : Int32)), .unset] []))
      refine own_step (fun _ k => XS.iconst X51.here hx rfl (hb hby at_122) k) ?_
      show own_Ends p e below F (T51.setTop (mkF m 123 #[.val (.int p1), .val (.int p2), .val (.int p3), .val (.int p4), .val (.int p5), .val (.int (2 : Int32)), .val (.int (1 : Int32)), .val (.ref a46), .val (.int (1 : Int32)), .unset] [(.int (0 : Int32))]))
      refine own_step (fun _ k => XS.istore X51.here hx rfl (hb hby at_123) rfl (l' := #[.val (.int p1), .val (.int p2), .val (.int p3), .val (.int p4), .val (.int p5), .val (.int (2 : Int32)), .val (.int (1 : Int32)), .val (.ref a46), .val (.int (1 : Int32)), .val (.int (0 : Int32))]) rfl k) ?_
      show own_Ends p e below F (T51.setTop (mkF m 125 #[.val (.int p1), .val (.int p2), .val (.int p3), .val (.int p4), .val (.int p5), .val (.int (2 : Int32)), .val (.int (1 : Int32)), .val (.ref a46), .val (.int (1 : Int32)), .val (.int (0 : Int32))] []))
      refine own_step (fun _ k => XS.iload X51.here hx rfl (hb hby at_125) rfl k) ?_
      show own_Ends p e below F (T51.setTop (mkF m 127 #[.val (.int p1), .val (.int p2), .val (.int p3), .val (.int p4), .val (.int p5), .val (.int (2 : Int32)), .val (.int (1 : Int32)), .val (.ref a46), .val (.int (1 : Int32)), .val (.int (0 : Int32))] [(.int (1 : Int32))]))
      refine own_step (fun _ k => XS.ifNo X51.here hx rfl (hb hby at_127) rfl ((if0 _ _).trans (feq (by decide : ¬ ((1 : Int32) = (0 : Int32)))).1) k) ?_
      show own_Ends p e below F (T51.setTop (mkF m 130 #[.val (.int p1), .val (.int p2), .val (.int p3), .val (.int p4), .val (.int p5), .val (.int (2 : Int32)), .val (.int (1 : Int32)), .val (.ref a46), .val (.int (1 : Int32)), .val (.int (0 : Int32))] []))
      refine own_step (fun _ k => XS.aload X51.here hx rfl (hb hby at_130) rfl rfl k) ?_
      show own_Ends p e below F (T51.setTop (mkF m 132 #[.val (.int p1), .val (.int p2), .val (.int p3), .val (.int p4), .val (.int p5), .val (.int (2 : Int32)), .val (.int (1 : Int32)), .val (.ref a46), .val (.int (1 : Int32)), .val (.int (0 : Int32))] [(.ref a46)]))
      obtain ⟨cq52, kq52, qa52, qb52, qc52⟩ := isOf hZ rfl fq0_51
      obtain ⟨_, _, ⟨T52, L52, k52, n52⟩, -, X52, ⟨Lc52, hQ52, l52, y52, z52⟩, st52⟩ := X51.virtualBack hx (y := (⟨"com/example/concept_reasoner/conceptreasoner/completion/IntList", "isEmpty", "()Z"⟩ : MethodName)) (z := (⟨"com/example/concept_reasoner/conceptreasoner/completion/IntList", "isEmpty", "()Z"⟩ : MethodName)) hown (mvT hZ (own_g hw 13 rfl)) (mvT hZ (own_g hw 14 rfl)) (notFace_of_selects (args := #[]) (mvT hZ (own_g hw 16 rfl))) (mvT hZ (own_g hw 16 rfl)) (mvT hZ (own_g hw 15 rfl)) (by decide) (backOf (W := 0) (rm3 l Z a0 hw [] a46 (1 : Int32) T51.heap n0 Z51 fs51) hZ (own_g hw 17 rfl) (own_g hw 2 rfl) (by decide) (by decide)) qa52 qc52 (g := (mkF m 132 #[.val (.int p1), .val (.int p2), .val (.int p3), .val (.int p4), .val (.int p5), .val (.int (2 : Int32)), .val (.int (1 : Int32)), .val (.ref a46), .val (.int (1 : Int32)), .val (.int (0 : Int32))] [(.ref a46)])) rfl (by rw [hml]; rfl) (Steps.refl _) (argsL := []) (rest := []) (lenOf pd__28_29Z rfl) rfl (by show 2 * 0 + _ ≤ _; exact Nat.le_of_eq rfl) (hb hby at_132) (fun _ _ => ⟨rfl, rfl, (by decide : 2 + 0 ≤ _), (by decide : 6 + 0 ≤ _)⟩)
      dsimp only [Pt.U, Pt.locs, Pt.cells, Pt.slots] at X52 l52 y52 z52 st52 hQ52
      subst l52 y52 z52
      obtain ⟨rfl, Nq52, eq52⟩ := hQ52
      have N52 := Fr.app N51 Nq52
      refine own_trans st52 ?_
      show own_Ends p e below F (T52.setTop (mkF m 135 #[.val (.int p1), .val (.int p2), .val (.int p3), .val (.int p4), .val (.int p5), .val (.int (2 : Int32)), .val (.int (1 : Int32)), .val (.ref a46), .val (.int (1 : Int32)), .val (.int (0 : Int32))] [(.int (own_emp (1 : Int32)))]))
      rw [show (own_emp (1 : Int32)) = (0 : Int32) from (by first | rfl | decide)]
      show own_Ends p e below F (T52.setTop (mkF m 135 #[.val (.int p1), .val (.int p2), .val (.int p3), .val (.int p4), .val (.int p5), .val (.int (2 : Int32)), .val (.int (1 : Int32)), .val (.ref a46), .val (.int (1 : Int32)), .val (.int (0 : Int32))] [(.int (0 : Int32))]))
      refine own_step (fun _ k => XS.iload X52.here hx rfl (hb hby at_135) rfl k) ?_
      show own_Ends p e below F (T52.setTop (mkF m 137 #[.val (.int p1), .val (.int p2), .val (.int p3), .val (.int p4), .val (.int p5), .val (.int (2 : Int32)), .val (.int (1 : Int32)), .val (.ref a46), .val (.int (1 : Int32)), .val (.int (0 : Int32))] [(.int (0 : Int32)), (.int (0 : Int32))]))
      refine own_step (fun _ k => XS.icmpNo X52.here hx rfl (hb hby at_137) rfl (teq (by decide : (0 : Int32) = (0 : Int32))).2 k) ?_
      show own_Ends p e below F (T52.setTop (mkF m 140 #[.val (.int p1), .val (.int p2), .val (.int p3), .val (.int p4), .val (.int p5), .val (.int (2 : Int32)), .val (.int (1 : Int32)), .val (.ref a46), .val (.int (1 : Int32)), .val (.int (0 : Int32))] []))
      refine own_step (fun _ k => XS.iconst X52.here hx rfl (hb hby at_140) k) ?_
      show own_Ends p e below F (T52.setTop (mkF m 141 #[.val (.int p1), .val (.int p2), .val (.int p3), .val (.int p4), .val (.int p5), .val (.int (2 : Int32)), .val (.int (1 : Int32)), .val (.ref a46), .val (.int (1 : Int32)), .val (.int (0 : Int32))] [(.int (1 : Int32))]))
      refine own_step (fun _ k => XS.goto X52.here hx rfl (pc0 := 141) (pc' := 145) rfl (hb hby at_141) (by decide) (by decide) k) ?_
      show own_Ends p e below F (T52.setTop (mkF m 145 #[.val (.int p1), .val (.int p2), .val (.int p3), .val (.int p4), .val (.int p5), .val (.int (2 : Int32)), .val (.int (1 : Int32)), .val (.ref a46), .val (.int (1 : Int32)), .val (.int (0 : Int32))] [(.int (1 : Int32))]))
      rw [hF]
      exact own_ret X52 (v := (some (.int (nar .boolean (1 : Int32))))) (fun h => by rw [Bd.returns] at h; cases h) Bd.notSynchronized (fun fs hr => retN X52 hx (t := .boolean) Bd.returns (by simp) (hb hby at_145) hr) (by decide) (by decide) (by rw [eq52]; exact ⟨rfl, N52⟩)
    · rw [q10]
      show own_Ends p e below F (s₁.setTop (mkF m 10 #[.val (.int p1), .val (.int p2), .val (.int p3), .val (.int p4), .val (.int p5), .val (.int (2 : Int32)), .val (.int (2 : Int32)), .unset, .unset, .unset] []))
      refine own_step (fun _ k => XS.iload X0.here hx rfl (hb hby at_10) rfl k) ?_
      show own_Ends p e below F (s₁.setTop (mkF m 12 #[.val (.int p1), .val (.int p2), .val (.int p3), .val (.int p4), .val (.int p5), .val (.int (2 : Int32)), .val (.int (2 : Int32)), .unset, .unset, .unset] [(.int (2 : Int32))]))
      refine own_step (fun _ k => XS.iload X0.here hx rfl (hb hby at_12) rfl k) ?_
      show own_Ends p e below F (s₁.setTop (mkF m 14 #[.val (.int p1), .val (.int p2), .val (.int p3), .val (.int p4), .val (.int p5), .val (.int (2 : Int32)), .val (.int (2 : Int32)), .unset, .unset, .unset] [(.int (2 : Int32)), (.int (2 : Int32))]))
      refine own_step (fun _ k => XS.icmpYes X0.here hx rfl (pc0 := 14) (pc' := 21) rfl (hb hby at_14) rfl (flt (by decide : ¬ ((2 : Int32) < (2 : Int32)))).2.2.2 (by decide) (by decide) k) ?_
      show own_Ends p e below F (s₁.setTop (mkF m 21 #[.val (.int p1), .val (.int p2), .val (.int p3), .val (.int p4), .val (.int p5), .val (.int (2 : Int32)), .val (.int (2 : Int32)), .unset, .unset, .unset] []))
      obtain ⟨T53, h53, X53, e53, E53, A53, D53, -, st53⟩ := newO X0 hx hZ hown (own_g hw 0 rfl) (own_g hw 1 rfl) (own_g hw 2 rfl) e0 (g := (mkF m 21 #[.val (.int p1), .val (.int p2), .val (.int p3), .val (.int p4), .val (.int p5), .val (.int (2 : Int32)), .val (.int (2 : Int32)), .unset, .unset, .unset] [])) rfl (hb hby at_21) (by decide) (by decide)
      obtain ⟨a53, g53⟩ : ∃ z, z = h0.size := ⟨_, rfl⟩
      rw [← g53] at A53 D53 st53
      have ge_a53 : n0 ≤ a53 := Nat.le_trans Z0 (Nat.le_of_eq g53.symm)
      have sz_a53 : h0.size ≤ a53 := Nat.le_trans (Nat.le_refl h0.size) (Nat.le_of_eq g53.symm)
      have ne_nn_a53 : nn ≠ a53 := Nat.ne_of_lt (by rw [g53]; exact VN.lt)
      have Z53 : n0 ≤ h53.size := Nat.le_trans Z0 E53.1
      have SZ53 : h0.size ≤ h53.size := Nat.le_trans (Nat.le_refl h0.size) E53.1
      have F53_values : Fld Z h53 a53 "com/example/concept_reasoner/conceptreasoner/completion/IntList" "values" "[I" .null := D53 (Or.inl (own_g hw 12 rfl)) (ty := (.array .int)) (by decide)
      have F53_size : Fld Z h53 a53 "com/example/concept_reasoner/conceptreasoner/completion/IntList" "size" "I" (.int (0 : Int32)) := D53 (Or.inl (own_g hw 19 rfl)) (ty := .int) (by decide)
      refine own_step st53 ?_
      show own_Ends p e below F (T53.setTop (mkF m 24 #[.val (.int p1), .val (.int p2), .val (.int p3), .val (.int p4), .val (.int p5), .val (.int (2 : Int32)), .val (.int (2 : Int32)), .unset, .unset, .unset] [(.ref a53)]))
      refine own_step (fun _ k => XS.dup X53.here hx rfl (hb hby at_24) rfl rfl k) ?_
      show own_Ends p e below F (T53.setTop (mkF m 25 #[.val (.int p1), .val (.int p2), .val (.int p3), .val (.int p4), .val (.int p5), .val (.int (2 : Int32)), .val (.int (2 : Int32)), .unset, .unset, .unset] [(.ref a53), (.ref a53)]))
      obtain ⟨_, _, ⟨T54, L54, k54, n54⟩, -, X54, ⟨Lc54, hQ54, l54, y54, z54⟩, st54⟩ := X53.specialBack hx (y := (⟨"com/example/concept_reasoner/conceptreasoner/completion/IntList", "<init>", "()V"⟩ : MethodName)) rfl hown (mvT hZ (own_g hw 3 rfl)) (mvT hZ (own_g hw 4 rfl)) (mvT hZ (own_g hw 5 rfl)) (by decide) (backOf (W := 1) (rm1 l Z a0 hw [] a53 nn h53 n0 Z53 A53 ge_a53 F53_values F53_size (Sta.ext E53 SN)) hZ (own_g hw 5 rfl) (own_g hw 2 rfl) (by decide) (by decide)) (g := (mkF m 25 #[.val (.int p1), .val (.int p2), .val (.int p3), .val (.int p4), .val (.int p5), .val (.int (2 : Int32)), .val (.int (2 : Int32)), .unset, .unset, .unset] [(.ref a53), (.ref a53)])) rfl (by rw [hml]; rfl) (Steps.refl _) (a := a53) (argsL := []) (rest := [(.ref a53)]) (lenOf pd__28_29V rfl) rfl (by show 2 * 0 + _ ≤ _; exact Nat.le_of_eq rfl) (hb hby at_25) (fun _ _ => ⟨rfl, e53, (by decide : 1 + 0 ≤ _), (by decide : 2 + 0 ≤ _)⟩)
      dsimp only [Pt.U, Pt.locs, Pt.cells, Pt.slots] at X54 l54 y54 z54 st54 hQ54
      subst l54 y54 z54
      obtain ⟨rfl, Nq54, Kq54, fq0_54, fq1_54, fq2_54⟩ := hQ54
      have N54 := Fr.app N0 Nq54
      have Z54 : n0 ≤ T54.heap.size := Nat.le_trans Z53 Kq54.1
      have SZ54 : h0.size ≤ T54.heap.size := Nat.le_trans SZ53 Kq54.1
      have S0_54 := own_Sta_keep (Sta.ext E53 SN) Kq54 (allS (own_ns_exa A53) all0)
      refine own_trans st54 ?_
      show own_Ends p e below F (T54.setTop (mkF m 28 #[.val (.int p1), .val (.int p2), .val (.int p3), .val (.int p4), .val (.int p5), .val (.int (2 : Int32)), .val (.int (2 : Int32)), .unset, .unset, .unset] [(.ref a53)]))
      refine own_step (fun _ k => XS.astore X54.here hx rfl (hb hby at_28) rfl rfl (l' := #[.val (.int p1), .val (.int p2), .val (.int p3), .val (.int p4), .val (.int p5), .val (.int (2 : Int32)), .val (.int (2 : Int32)), .val (.ref a53), .unset, .unset]) rfl k) ?_
      show own_Ends p e below F (T54.setTop (mkF m 30 #[.val (.int p1), .val (.int p2), .val (.int p3), .val (.int p4), .val (.int p5), .val (.int (2 : Int32)), .val (.int (2 : Int32)), .val (.ref a53), .unset, .unset] []))
      refine own_step (fun _ k => XS.aload X54.here hx rfl (hb hby at_30) rfl rfl k) ?_
      show own_Ends p e below F (T54.setTop (mkF m 32 #[.val (.int p1), .val (.int p2), .val (.int p3), .val (.int p4), .val (.int p5), .val (.int (2 : Int32)), .val (.int (2 : Int32)), .val (.ref a53), .unset, .unset] [(.ref a53)]))
      obtain ⟨cq55, kq55, qa55, qb55, qc55⟩ := isOf hZ rfl fq0_54
      obtain ⟨_, _, ⟨T55, L55, k55, n55⟩, -, X55, ⟨Lc55, hQ55, l55, y55, z55⟩, st55⟩ := X54.virtualBack hx (y := (⟨"com/example/concept_reasoner/conceptreasoner/completion/IntList", "isEmpty", "()Z"⟩ : MethodName)) (z := (⟨"com/example/concept_reasoner/conceptreasoner/completion/IntList", "isEmpty", "()Z"⟩ : MethodName)) hown (mvT hZ (own_g hw 13 rfl)) (mvT hZ (own_g hw 14 rfl)) (notFace_of_selects (args := #[]) (mvT hZ (own_g hw 16 rfl))) (mvT hZ (own_g hw 16 rfl)) (mvT hZ (own_g hw 15 rfl)) (by decide) (backOf (W := 0) (rm3 l Z a0 hw [] a53 (0 : Int32) T54.heap n0 Z54 fq2_54) hZ (own_g hw 17 rfl) (own_g hw 2 rfl) (by decide) (by decide)) qa55 qc55 (g := (mkF m 32 #[.val (.int p1), .val (.int p2), .val (.int p3), .val (.int p4), .val (.int p5), .val (.int (2 : Int32)), .val (.int (2 : Int32)), .val (.ref a53), .unset, .unset] [(.ref a53)])) rfl (by rw [hml]; rfl) (Steps.refl _) (argsL := []) (rest := []) (lenOf pd__28_29Z rfl) rfl (by show 2 * 0 + _ ≤ _; exact Nat.le_of_eq rfl) (hb hby at_32) (fun _ _ => ⟨rfl, rfl, (by decide : 1 + 0 ≤ _), (by decide : 2 + 0 ≤ _)⟩)
      dsimp only [Pt.U, Pt.locs, Pt.cells, Pt.slots] at X55 l55 y55 z55 st55 hQ55
      subst l55 y55 z55
      obtain ⟨rfl, Nq55, eq55⟩ := hQ55
      have N55 := Fr.app N54 Nq55
      refine own_trans st55 ?_
      show own_Ends p e below F (T55.setTop (mkF m 35 #[.val (.int p1), .val (.int p2), .val (.int p3), .val (.int p4), .val (.int p5), .val (.int (2 : Int32)), .val (.int (2 : Int32)), .val (.ref a53), .unset, .unset] [(.int (own_emp (0 : Int32)))]))
      rw [show (own_emp (0 : Int32)) = (1 : Int32) from (by first | rfl | decide)]
      show own_Ends p e below F (T55.setTop (mkF m 35 #[.val (.int p1), .val (.int p2), .val (.int p3), .val (.int p4), .val (.int p5), .val (.int (2 : Int32)), .val (.int (2 : Int32)), .val (.ref a53), .unset, .unset] [(.int (1 : Int32))]))
      refine own_step (fun _ k => XS.istore X55.here hx rfl (hb hby at_35) rfl (l' := #[.val (.int p1), .val (.int p2), .val (.int p3), .val (.int p4), .val (.int p5), .val (.int (2 : Int32)), .val (.int (2 : Int32)), .val (.ref a53), .val (.int (1 : Int32)), .unset]) rfl k) ?_
      show own_Ends p e below F (T55.setTop (mkF m 37 #[.val (.int p1), .val (.int p2), .val (.int p3), .val (.int p4), .val (.int p5), .val (.int (2 : Int32)), .val (.int (2 : Int32)), .val (.ref a53), .val (.int (1 : Int32)), .unset] []))
      refine own_step (fun _ k => XS.iload X55.here hx rfl (hb hby at_37) rfl k) ?_
      show own_Ends p e below F (T55.setTop (mkF m 39 #[.val (.int p1), .val (.int p2), .val (.int p3), .val (.int p4), .val (.int p5), .val (.int (2 : Int32)), .val (.int (2 : Int32)), .val (.ref a53), .val (.int (1 : Int32)), .unset] [(.int (2 : Int32))]))
      refine own_step (fun _ k => XS.iconst X55.here hx rfl (hb hby at_39) k) ?_
      show own_Ends p e below F (T55.setTop (mkF m 40 #[.val (.int p1), .val (.int p2), .val (.int p3), .val (.int p4), .val (.int p5), .val (.int (2 : Int32)), .val (.int (2 : Int32)), .val (.ref a53), .val (.int (1 : Int32)), .unset] [(.int (1 : Int32)), (.int (2 : Int32))]))
      refine own_step (fun _ k => XS.icmpNo X55.here hx rfl (hb hby at_40) rfl (flt (by decide : ¬ ((2 : Int32) < (1 : Int32)))).1 k) ?_
      show own_Ends p e below F (T55.setTop (mkF m 43 #[.val (.int p1), .val (.int p2), .val (.int p3), .val (.int p4), .val (.int p5), .val (.int (2 : Int32)), .val (.int (2 : Int32)), .val (.ref a53), .val (.int (1 : Int32)), .unset] []))
      refine own_step (fun _ k => XS.aload X55.here hx rfl (hb hby at_43) rfl rfl k) ?_
      show own_Ends p e below F (T55.setTop (mkF m 45 #[.val (.int p1), .val (.int p2), .val (.int p3), .val (.int p4), .val (.int p5), .val (.int (2 : Int32)), .val (.int (2 : Int32)), .val (.ref a53), .val (.int (1 : Int32)), .unset] [(.ref a53)]))
      refine own_step (fun _ k => XS.iloadN X55.here hx rfl (hb hby at_45) rfl k) ?_
      show own_Ends p e below F (T55.setTop (mkF m 46 #[.val (.int p1), .val (.int p2), .val (.int p3), .val (.int p4), .val (.int p5), .val (.int (2 : Int32)), .val (.int (2 : Int32)), .val (.ref a53), .val (.int (1 : Int32)), .unset] [(.int p3), (.ref a53)]))
      obtain ⟨cq56, kq56, qa56, qb56, qc56⟩ := isOf hZ eq55 fq0_54
      obtain ⟨_, _, ⟨T56, L56, k56, n56⟩, -, X56, ⟨Lc56, hQ56, l56, y56, z56⟩, st56⟩ := X55.virtualBack hx (y := (⟨"com/example/concept_reasoner/conceptreasoner/completion/IntList", "add", "(I)V"⟩ : MethodName)) (z := (⟨"com/example/concept_reasoner/conceptreasoner/completion/IntList", "add", "(I)V"⟩ : MethodName)) hown (mvT hZ (own_g hw 20 rfl)) (mvT hZ (own_g hw 21 rfl)) (notFace_of_selects (args := #[]) (mvT hZ (own_g hw 23 rfl))) (mvT hZ (own_g hw 23 rfl)) (mvT hZ (own_g hw 22 rfl)) (by decide) (backOf (W := 0) (rm4a l Z a0 hw [] a53 nn p3 kN T54.heap n0 Z54 fq0_54 ge_a53 fq2_54 fq1_54 ((VN.ext E53).keep Kq54 (ninS ne_nn_a53 nin0)) ne_nn_a53) hZ (own_g hw 24 rfl) (own_g hw 2 rfl) (by decide) (by decide)) qa56 qc56 (g := (mkF m 46 #[.val (.int p1), .val (.int p2), .val (.int p3), .val (.int p4), .val (.int p5), .val (.int (2 : Int32)), .val (.int (2 : Int32)), .val (.ref a53), .val (.int (1 : Int32)), .unset] [(.int p3), (.ref a53)])) rfl (by rw [hml]; rfl) (Steps.refl _) (argsL := [(.int p3)]) (rest := []) (lenOf pd__28I_29V rfl) rfl (by show 2 * 0 + _ ≤ _; exact Nat.le_of_eq rfl) (hb hby at_46) (fun _ _ => ⟨rfl, eq55, (by decide : 1 + 1 ≤ _), (by decide : 2 + 4 ≤ _)⟩)
      dsimp only [Pt.U, Pt.locs, Pt.cells, Pt.slots] at X56 l56 y56 z56 st56 hQ56
      subst l56 y56 z56
      obtain ⟨c56, kc56, rfl, Nq56, Kq56, fq0_56, fq1_56, fq2_56, fq3_56, fq4_56⟩ := hQ56
      have N56 := Fr.app N55 Nq56
      have Z56 : n0 ≤ T56.heap.size := Nat.le_trans Z54 Kq56.1
      have SZ56 : h0.size ≤ T56.heap.size := Nat.le_trans SZ54 Kq56.1
      have S0_56 := own_Sta_keep S0_54 Kq56 (allS (own_ns_exa fq0_54) all0)
      have ne_nn_c56 : nn ≠ c56 := Nat.ne_of_lt (Nat.lt_of_lt_of_le (((VN.ext E53).keep Kq54 (ninS ne_nn_a53 nin0))).lt fq0_56)
      have ne_a53_c56 : a53 ≠ c56 := Nat.ne_of_lt (Nat.lt_of_lt_of_le (fq1_54).lt fq0_56)
      have ge_c56 : n0 ≤ c56 := Nat.le_trans Z54 fq0_56
      have sz_c56 : h0.size ≤ c56 := Nat.le_trans SZ54 fq0_56
      refine own_trans st56 ?_
      show own_Ends p e below F (T56.setTop (mkF m 49 #[.val (.int p1), .val (.int p2), .val (.int p3), .val (.int p4), .val (.int p5), .val (.int (2 : Int32)), .val (.int (2 : Int32)), .val (.ref a53), .val (.int (1 : Int32)), .unset] []))
      refine own_step (fun _ k => XS.iload X56.here hx rfl (hb hby at_49) rfl k) ?_
      show own_Ends p e below F (T56.setTop (mkF m 51 #[.val (.int p1), .val (.int p2), .val (.int p3), .val (.int p4), .val (.int p5), .val (.int (2 : Int32)), .val (.int (2 : Int32)), .val (.ref a53), .val (.int (1 : Int32)), .unset] [(.int (2 : Int32))]))
      refine own_step (fun _ k => XS.iconst X56.here hx rfl (hb hby at_51) k) ?_
      show own_Ends p e below F (T56.setTop (mkF m 52 #[.val (.int p1), .val (.int p2), .val (.int p3), .val (.int p4), .val (.int p5), .val (.int (2 : Int32)), .val (.int (2 : Int32)), .val (.ref a53), .val (.int (1 : Int32)), .unset] [(.int (2 : Int32)), (.int (2 : Int32))]))
      refine own_step (fun _ k => XS.icmpNo X56.here hx rfl (hb hby at_52) rfl (flt (by decide : ¬ ((2 : Int32) < (2 : Int32)))).1 k) ?_
      show own_Ends p e below F (T56.setTop (mkF m 55 #[.val (.int p1), .val (.int p2), .val (.int p3), .val (.int p4), .val (.int p5), .val (.int (2 : Int32)), .val (.int (2 : Int32)), .val (.ref a53), .val (.int (1 : Int32)), .unset] []))
      refine own_step (fun _ k => XS.aload X56.here hx rfl (hb hby at_55) rfl rfl k) ?_
      show own_Ends p e below F (T56.setTop (mkF m 57 #[.val (.int p1), .val (.int p2), .val (.int p3), .val (.int p4), .val (.int p5), .val (.int (2 : Int32)), .val (.int (2 : Int32)), .val (.ref a53), .val (.int (1 : Int32)), .unset] [(.ref a53)]))
      refine own_step (fun _ k => XS.iloadN X56.here hx rfl (hb hby at_57) rfl k) ?_
      show own_Ends p e below F (T56.setTop (mkF m 58 #[.val (.int p1), .val (.int p2), .val (.int p3), .val (.int p4), .val (.int p5), .val (.int (2 : Int32)), .val (.int (2 : Int32)), .val (.ref a53), .val (.int (1 : Int32)), .unset] [(.int p4), (.ref a53)]))
      obtain ⟨cq57, kq57, qa57, qb57, qc57⟩ := isOf hZ rfl fq1_56
      obtain ⟨_, _, ⟨T57, L57, k57, n57⟩, -, X57, ⟨Lc57, hQ57, l57, y57, z57⟩, st57⟩ := X56.virtualBack hx (y := (⟨"com/example/concept_reasoner/conceptreasoner/completion/IntList", "add", "(I)V"⟩ : MethodName)) (z := (⟨"com/example/concept_reasoner/conceptreasoner/completion/IntList", "add", "(I)V"⟩ : MethodName)) hown (mvT hZ (own_g hw 20 rfl)) (mvT hZ (own_g hw 21 rfl)) (notFace_of_selects (args := #[]) (mvT hZ (own_g hw 23 rfl))) (mvT hZ (own_g hw 23 rfl)) (mvT hZ (own_g hw 22 rfl)) (by decide) (backOf (W := 0) (rm4b l Z a0 hw [] a53 c56 p4 (1 : Int32) kc56 [(.int p3), (.int (0 : Int32)), (.int (0 : Int32)), (.int (0 : Int32))] T56.heap n0 Z56 fq1_56 ge_a53 fq2_56 fq3_56 fq4_56 (Ne.symm ne_a53_c56) ge_c56 (by decide) ⟨by decide, by decide⟩ (Nat.le_of_ble_eq_true rfl)) hZ (own_g hw 24 rfl) (own_g hw 2 rfl) (by decide) (by decide)) qa57 qc57 (g := (mkF m 58 #[.val (.int p1), .val (.int p2), .val (.int p3), .val (.int p4), .val (.int p5), .val (.int (2 : Int32)), .val (.int (2 : Int32)), .val (.ref a53), .val (.int (1 : Int32)), .unset] [(.int p4), (.ref a53)])) rfl (by rw [hml]; rfl) (Steps.refl _) (argsL := [(.int p4)]) (rest := []) (lenOf pd__28I_29V rfl) rfl (by show 2 * 0 + _ ≤ _; exact Nat.le_of_eq rfl) (hb hby at_58) (fun _ _ => ⟨rfl, rfl, (by decide : 2 + 0 ≤ _), (by decide : 6 + 0 ≤ _)⟩)
      dsimp only [Pt.U, Pt.locs, Pt.cells, Pt.slots] at X57 l57 y57 z57 st57 hQ57
      subst l57 y57 z57
      obtain ⟨rfl, Nq57, Kq57, fq0_57, fq1_57, fq2_57, fq3_57⟩ := hQ57
      have N57 := Fr.app N56 Nq57
      have Z57 : n0 ≤ T57.heap.size := Nat.le_trans Z56 Kq57.1
      have SZ57 : h0.size ≤ T57.heap.size := Nat.le_trans SZ56 Kq57.1
      have S0_57 := own_Sta_keep S0_56 Kq57 (allS (own_ns_exa fq1_56) (allS (own_ns_arv fq4_56) all0))
      have fs57 : Fld Z T57.heap a53 "com/example/concept_reasoner/conceptreasoner/completion/IntList" "size" "I" (.int (2 : Int32)) := fq1_57
      have fv57 : Arv Z T57.heap c56 kc56 .int (4 : Int32) [(.int p3), (.int p4), (.int (0 : Int32)), (.int (0 : Int32))] (.int (0 : Int32)) := fq3_57
      refine own_trans st57 ?_
      show own_Ends p e below F (T57.setTop (mkF m 61 #[.val (.int p1), .val (.int p2), .val (.int p3), .val (.int p4), .val (.int p5), .val (.int (2 : Int32)), .val (.int (2 : Int32)), .val (.ref a53), .val (.int (1 : Int32)), .unset] []))
      refine own_step (fun _ k => XS.iload X57.here hx rfl (hb hby at_61) rfl k) ?_
      show own_Ends p e below F (T57.setTop (mkF m 63 #[.val (.int p1), .val (.int p2), .val (.int p3), .val (.int p4), .val (.int p5), .val (.int (2 : Int32)), .val (.int (2 : Int32)), .val (.ref a53), .val (.int (1 : Int32)), .unset] [(.int (2 : Int32))]))
      refine own_step (fun _ k => XS.iconst X57.here hx rfl (hb hby at_63) k) ?_
      show own_Ends p e below F (T57.setTop (mkF m 64 #[.val (.int p1), .val (.int p2), .val (.int p3), .val (.int p4), .val (.int p5), .val (.int (2 : Int32)), .val (.int (2 : Int32)), .val (.ref a53), .val (.int (1 : Int32)), .unset] [(.int (3 : Int32)), (.int (2 : Int32))]))
      refine own_step (fun _ k => XS.icmpYes X57.here hx rfl (pc0 := 64) (pc' := 74) rfl (hb hby at_64) rfl (tlt (by decide : (2 : Int32) < (3 : Int32))).1 (by decide) (by decide) k) ?_
      show own_Ends p e below F (T57.setTop (mkF m 74 #[.val (.int p1), .val (.int p2), .val (.int p3), .val (.int p4), .val (.int p5), .val (.int (2 : Int32)), .val (.int (2 : Int32)), .val (.ref a53), .val (.int (1 : Int32)), .unset] []))
      refine own_step (fun _ k => XS.iload X57.here hx rfl (hb hby at_74) rfl k) ?_
      show own_Ends p e below F (T57.setTop (mkF m 76 #[.val (.int p1), .val (.int p2), .val (.int p3), .val (.int p4), .val (.int p5), .val (.int (2 : Int32)), .val (.int (2 : Int32)), .val (.ref a53), .val (.int (1 : Int32)), .unset] [(.int (2 : Int32))]))
      refine own_step (fun _ k => XS.iconst X57.here hx rfl (hb hby at_76) k) ?_
      show own_Ends p e below F (T57.setTop (mkF m 77 #[.val (.int p1), .val (.int p2), .val (.int p3), .val (.int p4), .val (.int p5), .val (.int (2 : Int32)), .val (.int (2 : Int32)), .val (.ref a53), .val (.int (1 : Int32)), .unset] [(.int (1 : Int32)), (.int (2 : Int32))]))
      refine own_step (fun _ k => XS.icmpNo X57.here hx rfl (hb hby at_77) rfl (flt (by decide : ¬ ((2 : Int32) < (1 : Int32)))).1 k) ?_
      show own_Ends p e below F (T57.setTop (mkF m 80 #[.val (.int p1), .val (.int p2), .val (.int p3), .val (.int p4), .val (.int p5), .val (.int (2 : Int32)), .val (.int (2 : Int32)), .val (.ref a53), .val (.int (1 : Int32)), .unset] []))
      refine own_step (fun _ k => XS.aload X57.here hx rfl (hb hby at_80) rfl rfl k) ?_
      show own_Ends p e below F (T57.setTop (mkF m 82 #[.val (.int p1), .val (.int p2), .val (.int p3), .val (.int p4), .val (.int p5), .val (.int (2 : Int32)), .val (.int (2 : Int32)), .val (.ref a53), .val (.int (1 : Int32)), .unset] [(.ref a53)]))
      obtain ⟨cq58, kq58, qa58, qb58, qc58⟩ := isOf hZ rfl fq0_57
      obtain ⟨_, _, ⟨T58, L58, k58, n58⟩, -, X58, ⟨Lc58, hQ58, l58, y58, z58⟩, st58⟩ := X57.virtualBack hx (y := (⟨"com/example/concept_reasoner/conceptreasoner/completion/IntList", "removeLast", "()I"⟩ : MethodName)) (z := (⟨"com/example/concept_reasoner/conceptreasoner/completion/IntList", "removeLast", "()I"⟩ : MethodName)) hown (mvT hZ (own_g hw 41 rfl)) (mvT hZ (own_g hw 42 rfl)) (notFace_of_selects (args := #[]) (mvT hZ (own_g hw 44 rfl))) (mvT hZ (own_g hw 44 rfl)) (mvT hZ (own_g hw 43 rfl)) (by decide) (backOf (W := 0) (rm8 l Z a0 hw [] a53 c56 (2 : Int32) p4 kc56 [(.int p3), (.int p4), (.int (0 : Int32)), (.int (0 : Int32))] T57.heap n0 Z57 fq0_57 ge_a53 fs57 fq2_57 fv57 (Ne.symm ne_a53_c56) (by decide) ⟨by decide, by decide⟩ rfl) hZ (own_g hw 45 rfl) (own_g hw 2 rfl) (by decide) (by decide)) qa58 qc58 (g := (mkF m 82 #[.val (.int p1), .val (.int p2), .val (.int p3), .val (.int p4), .val (.int p5), .val (.int (2 : Int32)), .val (.int (2 : Int32)), .val (.ref a53), .val (.int (1 : Int32)), .unset] [(.ref a53)])) rfl (by rw [hml]; rfl) (Steps.refl _) (argsL := []) (rest := []) (lenOf pd__28_29I rfl) rfl (by show 2 * 0 + _ ≤ _; exact Nat.le_of_eq rfl) (hb hby at_82) (fun _ _ => ⟨rfl, rfl, (by decide : 2 + 0 ≤ _), (by decide : 6 + 0 ≤ _)⟩)
      dsimp only [Pt.U, Pt.locs, Pt.cells, Pt.slots] at X58 l58 y58 z58 st58 hQ58
      subst l58 y58 z58
      obtain ⟨rfl, Nq58, Kq58, fq0_58, fq1_58, fq2_58⟩ := hQ58
      have N58 := Fr.app N57 Nq58
      have Z58 : n0 ≤ T58.heap.size := Nat.le_trans Z57 Kq58.1
      have SZ58 : h0.size ≤ T58.heap.size := Nat.le_trans SZ57 Kq58.1
      have S0_58 := own_Sta_keep S0_57 Kq58 (allS (own_ns_exa fq0_57) all0)
      have fs58 : Fld Z T58.heap a53 "com/example/concept_reasoner/conceptreasoner/completion/IntList" "size" "I" (.int (1 : Int32)) := fq1_58
      refine own_trans st58 ?_
      show own_Ends p e below F (T58.setTop (mkF m 85 #[.val (.int p1), .val (.int p2), .val (.int p3), .val (.int p4), .val (.int p5), .val (.int (2 : Int32)), .val (.int (2 : Int32)), .val (.ref a53), .val (.int (1 : Int32)), .unset] [(.int p4)]))
      refine own_step (fun _ k => XS.pop X58.here hx rfl (hb hby at_85) rfl rfl k) ?_
      show own_Ends p e below F (T58.setTop (mkF m 86 #[.val (.int p1), .val (.int p2), .val (.int p3), .val (.int p4), .val (.int p5), .val (.int (2 : Int32)), .val (.int (2 : Int32)), .val (.ref a53), .val (.int (1 : Int32)), .unset] []))
      refine own_step (fun _ k => XS.iload X58.here hx rfl (hb hby at_86) rfl k) ?_
      show own_Ends p e below F (T58.setTop (mkF m 88 #[.val (.int p1), .val (.int p2), .val (.int p3), .val (.int p4), .val (.int p5), .val (.int (2 : Int32)), .val (.int (2 : Int32)), .val (.ref a53), .val (.int (1 : Int32)), .unset] [(.int (2 : Int32))]))
      refine own_step (fun _ k => XS.iconst X58.here hx rfl (hb hby at_88) k) ?_
      show own_Ends p e below F (T58.setTop (mkF m 89 #[.val (.int p1), .val (.int p2), .val (.int p3), .val (.int p4), .val (.int p5), .val (.int (2 : Int32)), .val (.int (2 : Int32)), .val (.ref a53), .val (.int (1 : Int32)), .unset] [(.int (2 : Int32)), (.int (2 : Int32))]))
      refine own_step (fun _ k => XS.icmpNo X58.here hx rfl (hb hby at_89) rfl (flt (by decide : ¬ ((2 : Int32) < (2 : Int32)))).1 k) ?_
      show own_Ends p e below F (T58.setTop (mkF m 92 #[.val (.int p1), .val (.int p2), .val (.int p3), .val (.int p4), .val (.int p5), .val (.int (2 : Int32)), .val (.int (2 : Int32)), .val (.ref a53), .val (.int (1 : Int32)), .unset] []))
      refine own_step (fun _ k => XS.aload X58.here hx rfl (hb hby at_92) rfl rfl k) ?_
      show own_Ends p e below F (T58.setTop (mkF m 94 #[.val (.int p1), .val (.int p2), .val (.int p3), .val (.int p4), .val (.int p5), .val (.int (2 : Int32)), .val (.int (2 : Int32)), .val (.ref a53), .val (.int (1 : Int32)), .unset] [(.ref a53)]))
      obtain ⟨cq59, kq59, qa59, qb59, qc59⟩ := isOf hZ rfl fq0_58
      obtain ⟨_, _, ⟨T59, L59, k59, n59⟩, -, X59, ⟨Lc59, hQ59, l59, y59, z59⟩, st59⟩ := X58.virtualBack hx (y := (⟨"com/example/concept_reasoner/conceptreasoner/completion/IntList", "removeLast", "()I"⟩ : MethodName)) (z := (⟨"com/example/concept_reasoner/conceptreasoner/completion/IntList", "removeLast", "()I"⟩ : MethodName)) hown (mvT hZ (own_g hw 41 rfl)) (mvT hZ (own_g hw 42 rfl)) (notFace_of_selects (args := #[]) (mvT hZ (own_g hw 44 rfl))) (mvT hZ (own_g hw 44 rfl)) (mvT hZ (own_g hw 43 rfl)) (by decide) (backOf (W := 0) (rm8 l Z a0 hw [] a53 c56 (1 : Int32) p3 kc56 [(.int p3), (.int p4), (.int (0 : Int32)), (.int (0 : Int32))] T58.heap n0 Z58 fq0_58 ge_a53 fs58 fq2_58 (fv57.keep Kq58 (ninS (Ne.symm ne_a53_c56) nin0)) (Ne.symm ne_a53_c56) (by decide) ⟨by decide, by decide⟩ rfl) hZ (own_g hw 45 rfl) (own_g hw 2 rfl) (by decide) (by decide)) qa59 qc59 (g := (mkF m 94 #[.val (.int p1), .val (.int p2), .val (.int p3), .val (.int p4), .val (.int p5), .val (.int (2 : Int32)), .val (.int (2 : Int32)), .val (.ref a53), .val (.int (1 : Int32)), .unset] [(.ref a53)])) rfl (by rw [hml]; rfl) (Steps.refl _) (argsL := []) (rest := []) (lenOf pd__28_29I rfl) rfl (by show 2 * 0 + _ ≤ _; exact Nat.le_of_eq rfl) (hb hby at_94) (fun _ _ => ⟨rfl, rfl, (by decide : 2 + 0 ≤ _), (by decide : 6 + 0 ≤ _)⟩)
      dsimp only [Pt.U, Pt.locs, Pt.cells, Pt.slots] at X59 l59 y59 z59 st59 hQ59
      subst l59 y59 z59
      obtain ⟨rfl, Nq59, Kq59, fq0_59, fq1_59, fq2_59⟩ := hQ59
      have N59 := Fr.app N58 Nq59
      have Z59 : n0 ≤ T59.heap.size := Nat.le_trans Z58 Kq59.1
      have SZ59 : h0.size ≤ T59.heap.size := Nat.le_trans SZ58 Kq59.1
      have S0_59 := own_Sta_keep S0_58 Kq59 (allS (own_ns_exa fq0_58) all0)
      have fs59 : Fld Z T59.heap a53 "com/example/concept_reasoner/conceptreasoner/completion/IntList" "size" "I" (.int (0 : Int32)) := fq1_59
      refine own_trans st59 ?_
      show own_Ends p e below F (T59.setTop (mkF m 97 #[.val (.int p1), .val (.int p2), .val (.int p3), .val (.int p4), .val (.int p5), .val (.int (2 : Int32)), .val (.int (2 : Int32)), .val (.ref a53), .val (.int (1 : Int32)), .unset] [(.int p3)]))
      refine own_step (fun _ k => XS.pop X59.here hx rfl (hb hby at_97) rfl rfl k) ?_
      show own_Ends p e below F (T59.setTop (mkF m 98 #[.val (.int p1), .val (.int p2), .val (.int p3), .val (.int p4), .val (.int p5), .val (.int (2 : Int32)), .val (.int (2 : Int32)), .val (.ref a53), .val (.int (1 : Int32)), .unset] []))
      refine own_step (fun _ k => XS.iload X59.here hx rfl (hb hby at_98) rfl k) ?_
      show own_Ends p e below F (T59.setTop (mkF m 100 #[.val (.int p1), .val (.int p2), .val (.int p3), .val (.int p4), .val (.int p5), .val (.int (2 : Int32)), .val (.int (2 : Int32)), .val (.ref a53), .val (.int (1 : Int32)), .unset] [(.int (2 : Int32))]))
      refine own_step (fun _ k => XS.iconst X59.here hx rfl (hb hby at_100) k) ?_
      show own_Ends p e below F (T59.setTop (mkF m 101 #[.val (.int p1), .val (.int p2), .val (.int p3), .val (.int p4), .val (.int p5), .val (.int (2 : Int32)), .val (.int (2 : Int32)), .val (.ref a53), .val (.int (1 : Int32)), .unset] [(.int (3 : Int32)), (.int (2 : Int32))]))
      refine own_step (fun _ k => XS.icmpYes X59.here hx rfl (pc0 := 101) (pc' := 110) rfl (hb hby at_101) rfl (tlt (by decide : (2 : Int32) < (3 : Int32))).1 (by decide) (by decide) k) ?_
      show own_Ends p e below F (T59.setTop (mkF m 110 #[.val (.int p1), .val (.int p2), .val (.int p3), .val (.int p4), .val (.int p5), .val (.int (2 : Int32)), .val (.int (2 : Int32)), .val (.ref a53), .val (.int (1 : Int32)), .unset] []))
      refine own_step (fun _ k => XS.iload X59.here hx rfl (hb hby at_110) rfl k) ?_
      show own_Ends p e below F (T59.setTop (mkF m 112 #[.val (.int p1), .val (.int p2), .val (.int p3), .val (.int p4), .val (.int p5), .val (.int (2 : Int32)), .val (.int (2 : Int32)), .val (.ref a53), .val (.int (1 : Int32)), .unset] [(.int (2 : Int32))]))
      refine own_step (fun _ k => XS.iload X59.here hx rfl (hb hby at_112) rfl k) ?_
      show own_Ends p e below F (T59.setTop (mkF m 114 #[.val (.int p1), .val (.int p2), .val (.int p3), .val (.int p4), .val (.int p5), .val (.int (2 : Int32)), .val (.int (2 : Int32)), .val (.ref a53), .val (.int (1 : Int32)), .unset] [(.int (2 : Int32)), (.int (2 : Int32))]))
      refine own_step (fun _ k => XS.isub X59.here hx rfl (hb hby at_114) rfl k) ?_
      show own_Ends p e below F (T59.setTop (mkF m 115 #[.val (.int p1), .val (.int p2), .val (.int p3), .val (.int p4), .val (.int p5), .val (.int (2 : Int32)), .val (.int (2 : Int32)), .val (.ref a53), .val (.int (1 : Int32)), .unset] [(.int (0 : Int32))]))
      refine own_step (fun _ k => XS.ifNo X59.here hx rfl (hb hby at_115) rfl ((if0 _ _).trans (teq (by decide : (0 : Int32) = (0 : Int32))).2) k) ?_
      show own_Ends p e below F (T59.setTop (mkF m 118 #[.val (.int p1), .val (.int p2), .val (.int p3), .val (.int p4), .val (.int p5), .val (.int (2 : Int32)), .val (.int (2 : Int32)), .val (.ref a53), .val (.int (1 : Int32)), .unset] []))
      refine own_step (fun _ k => XS.iconst X59.here hx rfl (hb hby at_118) k) ?_
      show own_Ends p e below F (T59.setTop (mkF m 119 #[.val (.int p1), .val (.int p2), .val (.int p3), .val (.int p4), .val (.int p5), .val (.int (2 : Int32)), .val (.int (2 : Int32)), .val (.ref a53), .val (.int (1 : Int32)), .unset] [(.int (1 : Int32))]))
      refine own_step (fun _ k => XS.goto X59.here hx rfl (pc0 := 119) (pc' := 123) rfl (hb hby at_119) (by decide) (by decide) k) ?_
      show own_Ends p e below F (T59.setTop (mkF m 123 #[.val (.int p1), .val (.int p2), .val (.int p3), .val (.int p4), .val (.int p5), .val (.int (2 : Int32)), .val (.int (2 : Int32)), .val (.ref a53), .val (.int (1 : Int32)), .unset] [(.int (1 : Int32))]))
      refine own_step (fun _ k => XS.istore X59.here hx rfl (hb hby at_123) rfl (l' := #[.val (.int p1), .val (.int p2), .val (.int p3), .val (.int p4), .val (.int p5), .val (.int (2 : Int32)), .val (.int (2 : Int32)), .val (.ref a53), .val (.int (1 : Int32)), .val (.int (1 : Int32))]) rfl k) ?_
      show own_Ends p e below F (T59.setTop (mkF m 125 #[.val (.int p1), .val (.int p2), .val (.int p3), .val (.int p4), .val (.int p5), .val (.int (2 : Int32)), .val (.int (2 : Int32)), .val (.ref a53), .val (.int (1 : Int32)), .val (.int (1 : Int32))] []))
      refine own_step (fun _ k => XS.iload X59.here hx rfl (hb hby at_125) rfl k) ?_
      show own_Ends p e below F (T59.setTop (mkF m 127 #[.val (.int p1), .val (.int p2), .val (.int p3), .val (.int p4), .val (.int p5), .val (.int (2 : Int32)), .val (.int (2 : Int32)), .val (.ref a53), .val (.int (1 : Int32)), .val (.int (1 : Int32))] [(.int (1 : Int32))]))
      refine own_step (fun _ k => XS.ifNo X59.here hx rfl (hb hby at_127) rfl ((if0 _ _).trans (feq (by decide : ¬ ((1 : Int32) = (0 : Int32)))).1) k) ?_
      show own_Ends p e below F (T59.setTop (mkF m 130 #[.val (.int p1), .val (.int p2), .val (.int p3), .val (.int p4), .val (.int p5), .val (.int (2 : Int32)), .val (.int (2 : Int32)), .val (.ref a53), .val (.int (1 : Int32)), .val (.int (1 : Int32))] []))
      refine own_step (fun _ k => XS.aload X59.here hx rfl (hb hby at_130) rfl rfl k) ?_
      show own_Ends p e below F (T59.setTop (mkF m 132 #[.val (.int p1), .val (.int p2), .val (.int p3), .val (.int p4), .val (.int p5), .val (.int (2 : Int32)), .val (.int (2 : Int32)), .val (.ref a53), .val (.int (1 : Int32)), .val (.int (1 : Int32))] [(.ref a53)]))
      obtain ⟨cq60, kq60, qa60, qb60, qc60⟩ := isOf hZ rfl fq0_59
      obtain ⟨_, _, ⟨T60, L60, k60, n60⟩, -, X60, ⟨Lc60, hQ60, l60, y60, z60⟩, st60⟩ := X59.virtualBack hx (y := (⟨"com/example/concept_reasoner/conceptreasoner/completion/IntList", "isEmpty", "()Z"⟩ : MethodName)) (z := (⟨"com/example/concept_reasoner/conceptreasoner/completion/IntList", "isEmpty", "()Z"⟩ : MethodName)) hown (mvT hZ (own_g hw 13 rfl)) (mvT hZ (own_g hw 14 rfl)) (notFace_of_selects (args := #[]) (mvT hZ (own_g hw 16 rfl))) (mvT hZ (own_g hw 16 rfl)) (mvT hZ (own_g hw 15 rfl)) (by decide) (backOf (W := 0) (rm3 l Z a0 hw [] a53 (0 : Int32) T59.heap n0 Z59 fs59) hZ (own_g hw 17 rfl) (own_g hw 2 rfl) (by decide) (by decide)) qa60 qc60 (g := (mkF m 132 #[.val (.int p1), .val (.int p2), .val (.int p3), .val (.int p4), .val (.int p5), .val (.int (2 : Int32)), .val (.int (2 : Int32)), .val (.ref a53), .val (.int (1 : Int32)), .val (.int (1 : Int32))] [(.ref a53)])) rfl (by rw [hml]; rfl) (Steps.refl _) (argsL := []) (rest := []) (lenOf pd__28_29Z rfl) rfl (by show 2 * 0 + _ ≤ _; exact Nat.le_of_eq rfl) (hb hby at_132) (fun _ _ => ⟨rfl, rfl, (by decide : 2 + 0 ≤ _), (by decide : 6 + 0 ≤ _)⟩)
      dsimp only [Pt.U, Pt.locs, Pt.cells, Pt.slots] at X60 l60 y60 z60 st60 hQ60
      subst l60 y60 z60
      obtain ⟨rfl, Nq60, eq60⟩ := hQ60
      have N60 := Fr.app N59 Nq60
      refine own_trans st60 ?_
      show own_Ends p e below F (T60.setTop (mkF m 135 #[.val (.int p1), .val (.int p2), .val (.int p3), .val (.int p4), .val (.int p5), .val (.int (2 : Int32)), .val (.int (2 : Int32)), .val (.ref a53), .val (.int (1 : Int32)), .val (.int (1 : Int32))] [(.int (own_emp (0 : Int32)))]))
      rw [show (own_emp (0 : Int32)) = (1 : Int32) from (by first | rfl | decide)]
      show own_Ends p e below F (T60.setTop (mkF m 135 #[.val (.int p1), .val (.int p2), .val (.int p3), .val (.int p4), .val (.int p5), .val (.int (2 : Int32)), .val (.int (2 : Int32)), .val (.ref a53), .val (.int (1 : Int32)), .val (.int (1 : Int32))] [(.int (1 : Int32))]))
      refine own_step (fun _ k => XS.iload X60.here hx rfl (hb hby at_135) rfl k) ?_
      show own_Ends p e below F (T60.setTop (mkF m 137 #[.val (.int p1), .val (.int p2), .val (.int p3), .val (.int p4), .val (.int p5), .val (.int (2 : Int32)), .val (.int (2 : Int32)), .val (.ref a53), .val (.int (1 : Int32)), .val (.int (1 : Int32))] [(.int (1 : Int32)), (.int (1 : Int32))]))
      refine own_step (fun _ k => XS.icmpNo X60.here hx rfl (hb hby at_137) rfl (teq (by decide : (1 : Int32) = (1 : Int32))).2 k) ?_
      show own_Ends p e below F (T60.setTop (mkF m 140 #[.val (.int p1), .val (.int p2), .val (.int p3), .val (.int p4), .val (.int p5), .val (.int (2 : Int32)), .val (.int (2 : Int32)), .val (.ref a53), .val (.int (1 : Int32)), .val (.int (1 : Int32))] []))
      refine own_step (fun _ k => XS.iconst X60.here hx rfl (hb hby at_140) k) ?_
      show own_Ends p e below F (T60.setTop (mkF m 141 #[.val (.int p1), .val (.int p2), .val (.int p3), .val (.int p4), .val (.int p5), .val (.int (2 : Int32)), .val (.int (2 : Int32)), .val (.ref a53), .val (.int (1 : Int32)), .val (.int (1 : Int32))] [(.int (1 : Int32))]))
      refine own_step (fun _ k => XS.goto X60.here hx rfl (pc0 := 141) (pc' := 145) rfl (hb hby at_141) (by decide) (by decide) k) ?_
      show own_Ends p e below F (T60.setTop (mkF m 145 #[.val (.int p1), .val (.int p2), .val (.int p3), .val (.int p4), .val (.int p5), .val (.int (2 : Int32)), .val (.int (2 : Int32)), .val (.ref a53), .val (.int (1 : Int32)), .val (.int (1 : Int32))] [(.int (1 : Int32))]))
      rw [hF]
      exact own_ret X60 (v := (some (.int (nar .boolean (1 : Int32))))) (fun h => by rw [Bd.returns] at h; cases h) Bd.notSynchronized (fun fs hr => retN X60 hx (t := .boolean) Bd.returns (by simp) (hb hby at_145) hr) (by decide) (by decide) (by rw [eq60]; exact ⟨rfl, N60⟩)
    · rw [q10]
      show own_Ends p e below F (s₁.setTop (mkF m 10 #[.val (.int p1), .val (.int p2), .val (.int p3), .val (.int p4), .val (.int p5), .val (.int (2 : Int32)), .val (.int (3 : Int32)), .unset, .unset, .unset] []))
      refine own_step (fun _ k => XS.iload X0.here hx rfl (hb hby at_10) rfl k) ?_
      show own_Ends p e below F (s₁.setTop (mkF m 12 #[.val (.int p1), .val (.int p2), .val (.int p3), .val (.int p4), .val (.int p5), .val (.int (2 : Int32)), .val (.int (3 : Int32)), .unset, .unset, .unset] [(.int (3 : Int32))]))
      refine own_step (fun _ k => XS.iload X0.here hx rfl (hb hby at_12) rfl k) ?_
      show own_Ends p e below F (s₁.setTop (mkF m 14 #[.val (.int p1), .val (.int p2), .val (.int p3), .val (.int p4), .val (.int p5), .val (.int (2 : Int32)), .val (.int (3 : Int32)), .unset, .unset, .unset] [(.int (2 : Int32)), (.int (3 : Int32))]))
      refine own_step (fun _ k => XS.icmpNo X0.here hx rfl (hb hby at_14) rfl (tlt (by decide : (2 : Int32) < (3 : Int32))).2.2.2 k) ?_
      show own_Ends p e below F (s₁.setTop (mkF m 17 #[.val (.int p1), .val (.int p2), .val (.int p3), .val (.int p4), .val (.int p5), .val (.int (2 : Int32)), .val (.int (3 : Int32)), .unset, .unset, .unset] []))
      refine own_step (fun _ k => XS.iload X0.here hx rfl (hb hby at_17) rfl k) ?_
      show own_Ends p e below F (s₁.setTop (mkF m 19 #[.val (.int p1), .val (.int p2), .val (.int p3), .val (.int p4), .val (.int p5), .val (.int (2 : Int32)), .val (.int (3 : Int32)), .unset, .unset, .unset] [(.int (2 : Int32))]))
      refine own_step (fun _ k => XS.istore X0.here hx rfl (hb hby at_19) rfl (l' := #[.val (.int p1), .val (.int p2), .val (.int p3), .val (.int p4), .val (.int p5), .val (.int (2 : Int32)), .val (.int (2 : Int32)), .unset, .unset, .unset]) rfl k) ?_
      show own_Ends p e below F (s₁.setTop (mkF m 21 #[.val (.int p1), .val (.int p2), .val (.int p3), .val (.int p4), .val (.int p5), .val (.int (2 : Int32)), .val (.int (2 : Int32)), .unset, .unset, .unset] []))
      obtain ⟨T61, h61, X61, e61, E61, A61, D61, -, st61⟩ := newO X0 hx hZ hown (own_g hw 0 rfl) (own_g hw 1 rfl) (own_g hw 2 rfl) e0 (g := (mkF m 21 #[.val (.int p1), .val (.int p2), .val (.int p3), .val (.int p4), .val (.int p5), .val (.int (2 : Int32)), .val (.int (2 : Int32)), .unset, .unset, .unset] [])) rfl (hb hby at_21) (by decide) (by decide)
      obtain ⟨a61, g61⟩ : ∃ z, z = h0.size := ⟨_, rfl⟩
      rw [← g61] at A61 D61 st61
      have ge_a61 : n0 ≤ a61 := Nat.le_trans Z0 (Nat.le_of_eq g61.symm)
      have sz_a61 : h0.size ≤ a61 := Nat.le_trans (Nat.le_refl h0.size) (Nat.le_of_eq g61.symm)
      have ne_nn_a61 : nn ≠ a61 := Nat.ne_of_lt (by rw [g61]; exact VN.lt)
      have Z61 : n0 ≤ h61.size := Nat.le_trans Z0 E61.1
      have SZ61 : h0.size ≤ h61.size := Nat.le_trans (Nat.le_refl h0.size) E61.1
      have F61_values : Fld Z h61 a61 "com/example/concept_reasoner/conceptreasoner/completion/IntList" "values" "[I" .null := D61 (Or.inl (own_g hw 12 rfl)) (ty := (.array .int)) (by decide)
      have F61_size : Fld Z h61 a61 "com/example/concept_reasoner/conceptreasoner/completion/IntList" "size" "I" (.int (0 : Int32)) := D61 (Or.inl (own_g hw 19 rfl)) (ty := .int) (by decide)
      refine own_step st61 ?_
      show own_Ends p e below F (T61.setTop (mkF m 24 #[.val (.int p1), .val (.int p2), .val (.int p3), .val (.int p4), .val (.int p5), .val (.int (2 : Int32)), .val (.int (2 : Int32)), .unset, .unset, .unset] [(.ref a61)]))
      refine own_step (fun _ k => XS.dup X61.here hx rfl (hb hby at_24) rfl rfl k) ?_
      show own_Ends p e below F (T61.setTop (mkF m 25 #[.val (.int p1), .val (.int p2), .val (.int p3), .val (.int p4), .val (.int p5), .val (.int (2 : Int32)), .val (.int (2 : Int32)), .unset, .unset, .unset] [(.ref a61), (.ref a61)]))
      obtain ⟨_, _, ⟨T62, L62, k62, n62⟩, -, X62, ⟨Lc62, hQ62, l62, y62, z62⟩, st62⟩ := X61.specialBack hx (y := (⟨"com/example/concept_reasoner/conceptreasoner/completion/IntList", "<init>", "()V"⟩ : MethodName)) rfl hown (mvT hZ (own_g hw 3 rfl)) (mvT hZ (own_g hw 4 rfl)) (mvT hZ (own_g hw 5 rfl)) (by decide) (backOf (W := 1) (rm1 l Z a0 hw [] a61 nn h61 n0 Z61 A61 ge_a61 F61_values F61_size (Sta.ext E61 SN)) hZ (own_g hw 5 rfl) (own_g hw 2 rfl) (by decide) (by decide)) (g := (mkF m 25 #[.val (.int p1), .val (.int p2), .val (.int p3), .val (.int p4), .val (.int p5), .val (.int (2 : Int32)), .val (.int (2 : Int32)), .unset, .unset, .unset] [(.ref a61), (.ref a61)])) rfl (by rw [hml]; rfl) (Steps.refl _) (a := a61) (argsL := []) (rest := [(.ref a61)]) (lenOf pd__28_29V rfl) rfl (by show 2 * 0 + _ ≤ _; exact Nat.le_of_eq rfl) (hb hby at_25) (fun _ _ => ⟨rfl, e61, (by decide : 1 + 0 ≤ _), (by decide : 2 + 0 ≤ _)⟩)
      dsimp only [Pt.U, Pt.locs, Pt.cells, Pt.slots] at X62 l62 y62 z62 st62 hQ62
      subst l62 y62 z62
      obtain ⟨rfl, Nq62, Kq62, fq0_62, fq1_62, fq2_62⟩ := hQ62
      have N62 := Fr.app N0 Nq62
      have Z62 : n0 ≤ T62.heap.size := Nat.le_trans Z61 Kq62.1
      have SZ62 : h0.size ≤ T62.heap.size := Nat.le_trans SZ61 Kq62.1
      have S0_62 := own_Sta_keep (Sta.ext E61 SN) Kq62 (allS (own_ns_exa A61) all0)
      refine own_trans st62 ?_
      show own_Ends p e below F (T62.setTop (mkF m 28 #[.val (.int p1), .val (.int p2), .val (.int p3), .val (.int p4), .val (.int p5), .val (.int (2 : Int32)), .val (.int (2 : Int32)), .unset, .unset, .unset] [(.ref a61)]))
      refine own_step (fun _ k => XS.astore X62.here hx rfl (hb hby at_28) rfl rfl (l' := #[.val (.int p1), .val (.int p2), .val (.int p3), .val (.int p4), .val (.int p5), .val (.int (2 : Int32)), .val (.int (2 : Int32)), .val (.ref a61), .unset, .unset]) rfl k) ?_
      show own_Ends p e below F (T62.setTop (mkF m 30 #[.val (.int p1), .val (.int p2), .val (.int p3), .val (.int p4), .val (.int p5), .val (.int (2 : Int32)), .val (.int (2 : Int32)), .val (.ref a61), .unset, .unset] []))
      refine own_step (fun _ k => XS.aload X62.here hx rfl (hb hby at_30) rfl rfl k) ?_
      show own_Ends p e below F (T62.setTop (mkF m 32 #[.val (.int p1), .val (.int p2), .val (.int p3), .val (.int p4), .val (.int p5), .val (.int (2 : Int32)), .val (.int (2 : Int32)), .val (.ref a61), .unset, .unset] [(.ref a61)]))
      obtain ⟨cq63, kq63, qa63, qb63, qc63⟩ := isOf hZ rfl fq0_62
      obtain ⟨_, _, ⟨T63, L63, k63, n63⟩, -, X63, ⟨Lc63, hQ63, l63, y63, z63⟩, st63⟩ := X62.virtualBack hx (y := (⟨"com/example/concept_reasoner/conceptreasoner/completion/IntList", "isEmpty", "()Z"⟩ : MethodName)) (z := (⟨"com/example/concept_reasoner/conceptreasoner/completion/IntList", "isEmpty", "()Z"⟩ : MethodName)) hown (mvT hZ (own_g hw 13 rfl)) (mvT hZ (own_g hw 14 rfl)) (notFace_of_selects (args := #[]) (mvT hZ (own_g hw 16 rfl))) (mvT hZ (own_g hw 16 rfl)) (mvT hZ (own_g hw 15 rfl)) (by decide) (backOf (W := 0) (rm3 l Z a0 hw [] a61 (0 : Int32) T62.heap n0 Z62 fq2_62) hZ (own_g hw 17 rfl) (own_g hw 2 rfl) (by decide) (by decide)) qa63 qc63 (g := (mkF m 32 #[.val (.int p1), .val (.int p2), .val (.int p3), .val (.int p4), .val (.int p5), .val (.int (2 : Int32)), .val (.int (2 : Int32)), .val (.ref a61), .unset, .unset] [(.ref a61)])) rfl (by rw [hml]; rfl) (Steps.refl _) (argsL := []) (rest := []) (lenOf pd__28_29Z rfl) rfl (by show 2 * 0 + _ ≤ _; exact Nat.le_of_eq rfl) (hb hby at_32) (fun _ _ => ⟨rfl, rfl, (by decide : 1 + 0 ≤ _), (by decide : 2 + 0 ≤ _)⟩)
      dsimp only [Pt.U, Pt.locs, Pt.cells, Pt.slots] at X63 l63 y63 z63 st63 hQ63
      subst l63 y63 z63
      obtain ⟨rfl, Nq63, eq63⟩ := hQ63
      have N63 := Fr.app N62 Nq63
      refine own_trans st63 ?_
      show own_Ends p e below F (T63.setTop (mkF m 35 #[.val (.int p1), .val (.int p2), .val (.int p3), .val (.int p4), .val (.int p5), .val (.int (2 : Int32)), .val (.int (2 : Int32)), .val (.ref a61), .unset, .unset] [(.int (own_emp (0 : Int32)))]))
      rw [show (own_emp (0 : Int32)) = (1 : Int32) from (by first | rfl | decide)]
      show own_Ends p e below F (T63.setTop (mkF m 35 #[.val (.int p1), .val (.int p2), .val (.int p3), .val (.int p4), .val (.int p5), .val (.int (2 : Int32)), .val (.int (2 : Int32)), .val (.ref a61), .unset, .unset] [(.int (1 : Int32))]))
      refine own_step (fun _ k => XS.istore X63.here hx rfl (hb hby at_35) rfl (l' := #[.val (.int p1), .val (.int p2), .val (.int p3), .val (.int p4), .val (.int p5), .val (.int (2 : Int32)), .val (.int (2 : Int32)), .val (.ref a61), .val (.int (1 : Int32)), .unset]) rfl k) ?_
      show own_Ends p e below F (T63.setTop (mkF m 37 #[.val (.int p1), .val (.int p2), .val (.int p3), .val (.int p4), .val (.int p5), .val (.int (2 : Int32)), .val (.int (2 : Int32)), .val (.ref a61), .val (.int (1 : Int32)), .unset] []))
      refine own_step (fun _ k => XS.iload X63.here hx rfl (hb hby at_37) rfl k) ?_
      show own_Ends p e below F (T63.setTop (mkF m 39 #[.val (.int p1), .val (.int p2), .val (.int p3), .val (.int p4), .val (.int p5), .val (.int (2 : Int32)), .val (.int (2 : Int32)), .val (.ref a61), .val (.int (1 : Int32)), .unset] [(.int (2 : Int32))]))
      refine own_step (fun _ k => XS.iconst X63.here hx rfl (hb hby at_39) k) ?_
      show own_Ends p e below F (T63.setTop (mkF m 40 #[.val (.int p1), .val (.int p2), .val (.int p3), .val (.int p4), .val (.int p5), .val (.int (2 : Int32)), .val (.int (2 : Int32)), .val (.ref a61), .val (.int (1 : Int32)), .unset] [(.int (1 : Int32)), (.int (2 : Int32))]))
      refine own_step (fun _ k => XS.icmpNo X63.here hx rfl (hb hby at_40) rfl (flt (by decide : ¬ ((2 : Int32) < (1 : Int32)))).1 k) ?_
      show own_Ends p e below F (T63.setTop (mkF m 43 #[.val (.int p1), .val (.int p2), .val (.int p3), .val (.int p4), .val (.int p5), .val (.int (2 : Int32)), .val (.int (2 : Int32)), .val (.ref a61), .val (.int (1 : Int32)), .unset] []))
      refine own_step (fun _ k => XS.aload X63.here hx rfl (hb hby at_43) rfl rfl k) ?_
      show own_Ends p e below F (T63.setTop (mkF m 45 #[.val (.int p1), .val (.int p2), .val (.int p3), .val (.int p4), .val (.int p5), .val (.int (2 : Int32)), .val (.int (2 : Int32)), .val (.ref a61), .val (.int (1 : Int32)), .unset] [(.ref a61)]))
      refine own_step (fun _ k => XS.iloadN X63.here hx rfl (hb hby at_45) rfl k) ?_
      show own_Ends p e below F (T63.setTop (mkF m 46 #[.val (.int p1), .val (.int p2), .val (.int p3), .val (.int p4), .val (.int p5), .val (.int (2 : Int32)), .val (.int (2 : Int32)), .val (.ref a61), .val (.int (1 : Int32)), .unset] [(.int p3), (.ref a61)]))
      obtain ⟨cq64, kq64, qa64, qb64, qc64⟩ := isOf hZ eq63 fq0_62
      obtain ⟨_, _, ⟨T64, L64, k64, n64⟩, -, X64, ⟨Lc64, hQ64, l64, y64, z64⟩, st64⟩ := X63.virtualBack hx (y := (⟨"com/example/concept_reasoner/conceptreasoner/completion/IntList", "add", "(I)V"⟩ : MethodName)) (z := (⟨"com/example/concept_reasoner/conceptreasoner/completion/IntList", "add", "(I)V"⟩ : MethodName)) hown (mvT hZ (own_g hw 20 rfl)) (mvT hZ (own_g hw 21 rfl)) (notFace_of_selects (args := #[]) (mvT hZ (own_g hw 23 rfl))) (mvT hZ (own_g hw 23 rfl)) (mvT hZ (own_g hw 22 rfl)) (by decide) (backOf (W := 0) (rm4a l Z a0 hw [] a61 nn p3 kN T62.heap n0 Z62 fq0_62 ge_a61 fq2_62 fq1_62 ((VN.ext E61).keep Kq62 (ninS ne_nn_a61 nin0)) ne_nn_a61) hZ (own_g hw 24 rfl) (own_g hw 2 rfl) (by decide) (by decide)) qa64 qc64 (g := (mkF m 46 #[.val (.int p1), .val (.int p2), .val (.int p3), .val (.int p4), .val (.int p5), .val (.int (2 : Int32)), .val (.int (2 : Int32)), .val (.ref a61), .val (.int (1 : Int32)), .unset] [(.int p3), (.ref a61)])) rfl (by rw [hml]; rfl) (Steps.refl _) (argsL := [(.int p3)]) (rest := []) (lenOf pd__28I_29V rfl) rfl (by show 2 * 0 + _ ≤ _; exact Nat.le_of_eq rfl) (hb hby at_46) (fun _ _ => ⟨rfl, eq63, (by decide : 1 + 1 ≤ _), (by decide : 2 + 4 ≤ _)⟩)
      dsimp only [Pt.U, Pt.locs, Pt.cells, Pt.slots] at X64 l64 y64 z64 st64 hQ64
      subst l64 y64 z64
      obtain ⟨c64, kc64, rfl, Nq64, Kq64, fq0_64, fq1_64, fq2_64, fq3_64, fq4_64⟩ := hQ64
      have N64 := Fr.app N63 Nq64
      have Z64 : n0 ≤ T64.heap.size := Nat.le_trans Z62 Kq64.1
      have SZ64 : h0.size ≤ T64.heap.size := Nat.le_trans SZ62 Kq64.1
      have S0_64 := own_Sta_keep S0_62 Kq64 (allS (own_ns_exa fq0_62) all0)
      have ne_nn_c64 : nn ≠ c64 := Nat.ne_of_lt (Nat.lt_of_lt_of_le (((VN.ext E61).keep Kq62 (ninS ne_nn_a61 nin0))).lt fq0_64)
      have ne_a61_c64 : a61 ≠ c64 := Nat.ne_of_lt (Nat.lt_of_lt_of_le (fq1_62).lt fq0_64)
      have ge_c64 : n0 ≤ c64 := Nat.le_trans Z62 fq0_64
      have sz_c64 : h0.size ≤ c64 := Nat.le_trans SZ62 fq0_64
      refine own_trans st64 ?_
      show own_Ends p e below F (T64.setTop (mkF m 49 #[.val (.int p1), .val (.int p2), .val (.int p3), .val (.int p4), .val (.int p5), .val (.int (2 : Int32)), .val (.int (2 : Int32)), .val (.ref a61), .val (.int (1 : Int32)), .unset] []))
      refine own_step (fun _ k => XS.iload X64.here hx rfl (hb hby at_49) rfl k) ?_
      show own_Ends p e below F (T64.setTop (mkF m 51 #[.val (.int p1), .val (.int p2), .val (.int p3), .val (.int p4), .val (.int p5), .val (.int (2 : Int32)), .val (.int (2 : Int32)), .val (.ref a61), .val (.int (1 : Int32)), .unset] [(.int (2 : Int32))]))
      refine own_step (fun _ k => XS.iconst X64.here hx rfl (hb hby at_51) k) ?_
      show own_Ends p e below F (T64.setTop (mkF m 52 #[.val (.int p1), .val (.int p2), .val (.int p3), .val (.int p4), .val (.int p5), .val (.int (2 : Int32)), .val (.int (2 : Int32)), .val (.ref a61), .val (.int (1 : Int32)), .unset] [(.int (2 : Int32)), (.int (2 : Int32))]))
      refine own_step (fun _ k => XS.icmpNo X64.here hx rfl (hb hby at_52) rfl (flt (by decide : ¬ ((2 : Int32) < (2 : Int32)))).1 k) ?_
      show own_Ends p e below F (T64.setTop (mkF m 55 #[.val (.int p1), .val (.int p2), .val (.int p3), .val (.int p4), .val (.int p5), .val (.int (2 : Int32)), .val (.int (2 : Int32)), .val (.ref a61), .val (.int (1 : Int32)), .unset] []))
      refine own_step (fun _ k => XS.aload X64.here hx rfl (hb hby at_55) rfl rfl k) ?_
      show own_Ends p e below F (T64.setTop (mkF m 57 #[.val (.int p1), .val (.int p2), .val (.int p3), .val (.int p4), .val (.int p5), .val (.int (2 : Int32)), .val (.int (2 : Int32)), .val (.ref a61), .val (.int (1 : Int32)), .unset] [(.ref a61)]))
      refine own_step (fun _ k => XS.iloadN X64.here hx rfl (hb hby at_57) rfl k) ?_
      show own_Ends p e below F (T64.setTop (mkF m 58 #[.val (.int p1), .val (.int p2), .val (.int p3), .val (.int p4), .val (.int p5), .val (.int (2 : Int32)), .val (.int (2 : Int32)), .val (.ref a61), .val (.int (1 : Int32)), .unset] [(.int p4), (.ref a61)]))
      obtain ⟨cq65, kq65, qa65, qb65, qc65⟩ := isOf hZ rfl fq1_64
      obtain ⟨_, _, ⟨T65, L65, k65, n65⟩, -, X65, ⟨Lc65, hQ65, l65, y65, z65⟩, st65⟩ := X64.virtualBack hx (y := (⟨"com/example/concept_reasoner/conceptreasoner/completion/IntList", "add", "(I)V"⟩ : MethodName)) (z := (⟨"com/example/concept_reasoner/conceptreasoner/completion/IntList", "add", "(I)V"⟩ : MethodName)) hown (mvT hZ (own_g hw 20 rfl)) (mvT hZ (own_g hw 21 rfl)) (notFace_of_selects (args := #[]) (mvT hZ (own_g hw 23 rfl))) (mvT hZ (own_g hw 23 rfl)) (mvT hZ (own_g hw 22 rfl)) (by decide) (backOf (W := 0) (rm4b l Z a0 hw [] a61 c64 p4 (1 : Int32) kc64 [(.int p3), (.int (0 : Int32)), (.int (0 : Int32)), (.int (0 : Int32))] T64.heap n0 Z64 fq1_64 ge_a61 fq2_64 fq3_64 fq4_64 (Ne.symm ne_a61_c64) ge_c64 (by decide) ⟨by decide, by decide⟩ (Nat.le_of_ble_eq_true rfl)) hZ (own_g hw 24 rfl) (own_g hw 2 rfl) (by decide) (by decide)) qa65 qc65 (g := (mkF m 58 #[.val (.int p1), .val (.int p2), .val (.int p3), .val (.int p4), .val (.int p5), .val (.int (2 : Int32)), .val (.int (2 : Int32)), .val (.ref a61), .val (.int (1 : Int32)), .unset] [(.int p4), (.ref a61)])) rfl (by rw [hml]; rfl) (Steps.refl _) (argsL := [(.int p4)]) (rest := []) (lenOf pd__28I_29V rfl) rfl (by show 2 * 0 + _ ≤ _; exact Nat.le_of_eq rfl) (hb hby at_58) (fun _ _ => ⟨rfl, rfl, (by decide : 2 + 0 ≤ _), (by decide : 6 + 0 ≤ _)⟩)
      dsimp only [Pt.U, Pt.locs, Pt.cells, Pt.slots] at X65 l65 y65 z65 st65 hQ65
      subst l65 y65 z65
      obtain ⟨rfl, Nq65, Kq65, fq0_65, fq1_65, fq2_65, fq3_65⟩ := hQ65
      have N65 := Fr.app N64 Nq65
      have Z65 : n0 ≤ T65.heap.size := Nat.le_trans Z64 Kq65.1
      have SZ65 : h0.size ≤ T65.heap.size := Nat.le_trans SZ64 Kq65.1
      have S0_65 := own_Sta_keep S0_64 Kq65 (allS (own_ns_exa fq1_64) (allS (own_ns_arv fq4_64) all0))
      have fs65 : Fld Z T65.heap a61 "com/example/concept_reasoner/conceptreasoner/completion/IntList" "size" "I" (.int (2 : Int32)) := fq1_65
      have fv65 : Arv Z T65.heap c64 kc64 .int (4 : Int32) [(.int p3), (.int p4), (.int (0 : Int32)), (.int (0 : Int32))] (.int (0 : Int32)) := fq3_65
      refine own_trans st65 ?_
      show own_Ends p e below F (T65.setTop (mkF m 61 #[.val (.int p1), .val (.int p2), .val (.int p3), .val (.int p4), .val (.int p5), .val (.int (2 : Int32)), .val (.int (2 : Int32)), .val (.ref a61), .val (.int (1 : Int32)), .unset] []))
      refine own_step (fun _ k => XS.iload X65.here hx rfl (hb hby at_61) rfl k) ?_
      show own_Ends p e below F (T65.setTop (mkF m 63 #[.val (.int p1), .val (.int p2), .val (.int p3), .val (.int p4), .val (.int p5), .val (.int (2 : Int32)), .val (.int (2 : Int32)), .val (.ref a61), .val (.int (1 : Int32)), .unset] [(.int (2 : Int32))]))
      refine own_step (fun _ k => XS.iconst X65.here hx rfl (hb hby at_63) k) ?_
      show own_Ends p e below F (T65.setTop (mkF m 64 #[.val (.int p1), .val (.int p2), .val (.int p3), .val (.int p4), .val (.int p5), .val (.int (2 : Int32)), .val (.int (2 : Int32)), .val (.ref a61), .val (.int (1 : Int32)), .unset] [(.int (3 : Int32)), (.int (2 : Int32))]))
      refine own_step (fun _ k => XS.icmpYes X65.here hx rfl (pc0 := 64) (pc' := 74) rfl (hb hby at_64) rfl (tlt (by decide : (2 : Int32) < (3 : Int32))).1 (by decide) (by decide) k) ?_
      show own_Ends p e below F (T65.setTop (mkF m 74 #[.val (.int p1), .val (.int p2), .val (.int p3), .val (.int p4), .val (.int p5), .val (.int (2 : Int32)), .val (.int (2 : Int32)), .val (.ref a61), .val (.int (1 : Int32)), .unset] []))
      refine own_step (fun _ k => XS.iload X65.here hx rfl (hb hby at_74) rfl k) ?_
      show own_Ends p e below F (T65.setTop (mkF m 76 #[.val (.int p1), .val (.int p2), .val (.int p3), .val (.int p4), .val (.int p5), .val (.int (2 : Int32)), .val (.int (2 : Int32)), .val (.ref a61), .val (.int (1 : Int32)), .unset] [(.int (2 : Int32))]))
      refine own_step (fun _ k => XS.iconst X65.here hx rfl (hb hby at_76) k) ?_
      show own_Ends p e below F (T65.setTop (mkF m 77 #[.val (.int p1), .val (.int p2), .val (.int p3), .val (.int p4), .val (.int p5), .val (.int (2 : Int32)), .val (.int (2 : Int32)), .val (.ref a61), .val (.int (1 : Int32)), .unset] [(.int (1 : Int32)), (.int (2 : Int32))]))
      refine own_step (fun _ k => XS.icmpNo X65.here hx rfl (hb hby at_77) rfl (flt (by decide : ¬ ((2 : Int32) < (1 : Int32)))).1 k) ?_
      show own_Ends p e below F (T65.setTop (mkF m 80 #[.val (.int p1), .val (.int p2), .val (.int p3), .val (.int p4), .val (.int p5), .val (.int (2 : Int32)), .val (.int (2 : Int32)), .val (.ref a61), .val (.int (1 : Int32)), .unset] []))
      refine own_step (fun _ k => XS.aload X65.here hx rfl (hb hby at_80) rfl rfl k) ?_
      show own_Ends p e below F (T65.setTop (mkF m 82 #[.val (.int p1), .val (.int p2), .val (.int p3), .val (.int p4), .val (.int p5), .val (.int (2 : Int32)), .val (.int (2 : Int32)), .val (.ref a61), .val (.int (1 : Int32)), .unset] [(.ref a61)]))
      obtain ⟨cq66, kq66, qa66, qb66, qc66⟩ := isOf hZ rfl fq0_65
      obtain ⟨_, _, ⟨T66, L66, k66, n66⟩, -, X66, ⟨Lc66, hQ66, l66, y66, z66⟩, st66⟩ := X65.virtualBack hx (y := (⟨"com/example/concept_reasoner/conceptreasoner/completion/IntList", "removeLast", "()I"⟩ : MethodName)) (z := (⟨"com/example/concept_reasoner/conceptreasoner/completion/IntList", "removeLast", "()I"⟩ : MethodName)) hown (mvT hZ (own_g hw 41 rfl)) (mvT hZ (own_g hw 42 rfl)) (notFace_of_selects (args := #[]) (mvT hZ (own_g hw 44 rfl))) (mvT hZ (own_g hw 44 rfl)) (mvT hZ (own_g hw 43 rfl)) (by decide) (backOf (W := 0) (rm8 l Z a0 hw [] a61 c64 (2 : Int32) p4 kc64 [(.int p3), (.int p4), (.int (0 : Int32)), (.int (0 : Int32))] T65.heap n0 Z65 fq0_65 ge_a61 fs65 fq2_65 fv65 (Ne.symm ne_a61_c64) (by decide) ⟨by decide, by decide⟩ rfl) hZ (own_g hw 45 rfl) (own_g hw 2 rfl) (by decide) (by decide)) qa66 qc66 (g := (mkF m 82 #[.val (.int p1), .val (.int p2), .val (.int p3), .val (.int p4), .val (.int p5), .val (.int (2 : Int32)), .val (.int (2 : Int32)), .val (.ref a61), .val (.int (1 : Int32)), .unset] [(.ref a61)])) rfl (by rw [hml]; rfl) (Steps.refl _) (argsL := []) (rest := []) (lenOf pd__28_29I rfl) rfl (by show 2 * 0 + _ ≤ _; exact Nat.le_of_eq rfl) (hb hby at_82) (fun _ _ => ⟨rfl, rfl, (by decide : 2 + 0 ≤ _), (by decide : 6 + 0 ≤ _)⟩)
      dsimp only [Pt.U, Pt.locs, Pt.cells, Pt.slots] at X66 l66 y66 z66 st66 hQ66
      subst l66 y66 z66
      obtain ⟨rfl, Nq66, Kq66, fq0_66, fq1_66, fq2_66⟩ := hQ66
      have N66 := Fr.app N65 Nq66
      have Z66 : n0 ≤ T66.heap.size := Nat.le_trans Z65 Kq66.1
      have SZ66 : h0.size ≤ T66.heap.size := Nat.le_trans SZ65 Kq66.1
      have S0_66 := own_Sta_keep S0_65 Kq66 (allS (own_ns_exa fq0_65) all0)
      have fs66 : Fld Z T66.heap a61 "com/example/concept_reasoner/conceptreasoner/completion/IntList" "size" "I" (.int (1 : Int32)) := fq1_66
      refine own_trans st66 ?_
      show own_Ends p e below F (T66.setTop (mkF m 85 #[.val (.int p1), .val (.int p2), .val (.int p3), .val (.int p4), .val (.int p5), .val (.int (2 : Int32)), .val (.int (2 : Int32)), .val (.ref a61), .val (.int (1 : Int32)), .unset] [(.int p4)]))
      refine own_step (fun _ k => XS.pop X66.here hx rfl (hb hby at_85) rfl rfl k) ?_
      show own_Ends p e below F (T66.setTop (mkF m 86 #[.val (.int p1), .val (.int p2), .val (.int p3), .val (.int p4), .val (.int p5), .val (.int (2 : Int32)), .val (.int (2 : Int32)), .val (.ref a61), .val (.int (1 : Int32)), .unset] []))
      refine own_step (fun _ k => XS.iload X66.here hx rfl (hb hby at_86) rfl k) ?_
      show own_Ends p e below F (T66.setTop (mkF m 88 #[.val (.int p1), .val (.int p2), .val (.int p3), .val (.int p4), .val (.int p5), .val (.int (2 : Int32)), .val (.int (2 : Int32)), .val (.ref a61), .val (.int (1 : Int32)), .unset] [(.int (2 : Int32))]))
      refine own_step (fun _ k => XS.iconst X66.here hx rfl (hb hby at_88) k) ?_
      show own_Ends p e below F (T66.setTop (mkF m 89 #[.val (.int p1), .val (.int p2), .val (.int p3), .val (.int p4), .val (.int p5), .val (.int (2 : Int32)), .val (.int (2 : Int32)), .val (.ref a61), .val (.int (1 : Int32)), .unset] [(.int (2 : Int32)), (.int (2 : Int32))]))
      refine own_step (fun _ k => XS.icmpNo X66.here hx rfl (hb hby at_89) rfl (flt (by decide : ¬ ((2 : Int32) < (2 : Int32)))).1 k) ?_
      show own_Ends p e below F (T66.setTop (mkF m 92 #[.val (.int p1), .val (.int p2), .val (.int p3), .val (.int p4), .val (.int p5), .val (.int (2 : Int32)), .val (.int (2 : Int32)), .val (.ref a61), .val (.int (1 : Int32)), .unset] []))
      refine own_step (fun _ k => XS.aload X66.here hx rfl (hb hby at_92) rfl rfl k) ?_
      show own_Ends p e below F (T66.setTop (mkF m 94 #[.val (.int p1), .val (.int p2), .val (.int p3), .val (.int p4), .val (.int p5), .val (.int (2 : Int32)), .val (.int (2 : Int32)), .val (.ref a61), .val (.int (1 : Int32)), .unset] [(.ref a61)]))
      obtain ⟨cq67, kq67, qa67, qb67, qc67⟩ := isOf hZ rfl fq0_66
      obtain ⟨_, _, ⟨T67, L67, k67, n67⟩, -, X67, ⟨Lc67, hQ67, l67, y67, z67⟩, st67⟩ := X66.virtualBack hx (y := (⟨"com/example/concept_reasoner/conceptreasoner/completion/IntList", "removeLast", "()I"⟩ : MethodName)) (z := (⟨"com/example/concept_reasoner/conceptreasoner/completion/IntList", "removeLast", "()I"⟩ : MethodName)) hown (mvT hZ (own_g hw 41 rfl)) (mvT hZ (own_g hw 42 rfl)) (notFace_of_selects (args := #[]) (mvT hZ (own_g hw 44 rfl))) (mvT hZ (own_g hw 44 rfl)) (mvT hZ (own_g hw 43 rfl)) (by decide) (backOf (W := 0) (rm8 l Z a0 hw [] a61 c64 (1 : Int32) p3 kc64 [(.int p3), (.int p4), (.int (0 : Int32)), (.int (0 : Int32))] T66.heap n0 Z66 fq0_66 ge_a61 fs66 fq2_66 (fv65.keep Kq66 (ninS (Ne.symm ne_a61_c64) nin0)) (Ne.symm ne_a61_c64) (by decide) ⟨by decide, by decide⟩ rfl) hZ (own_g hw 45 rfl) (own_g hw 2 rfl) (by decide) (by decide)) qa67 qc67 (g := (mkF m 94 #[.val (.int p1), .val (.int p2), .val (.int p3), .val (.int p4), .val (.int p5), .val (.int (2 : Int32)), .val (.int (2 : Int32)), .val (.ref a61), .val (.int (1 : Int32)), .unset] [(.ref a61)])) rfl (by rw [hml]; rfl) (Steps.refl _) (argsL := []) (rest := []) (lenOf pd__28_29I rfl) rfl (by show 2 * 0 + _ ≤ _; exact Nat.le_of_eq rfl) (hb hby at_94) (fun _ _ => ⟨rfl, rfl, (by decide : 2 + 0 ≤ _), (by decide : 6 + 0 ≤ _)⟩)
      dsimp only [Pt.U, Pt.locs, Pt.cells, Pt.slots] at X67 l67 y67 z67 st67 hQ67
      subst l67 y67 z67
      obtain ⟨rfl, Nq67, Kq67, fq0_67, fq1_67, fq2_67⟩ := hQ67
      have N67 := Fr.app N66 Nq67
      have Z67 : n0 ≤ T67.heap.size := Nat.le_trans Z66 Kq67.1
      have SZ67 : h0.size ≤ T67.heap.size := Nat.le_trans SZ66 Kq67.1
      have S0_67 := own_Sta_keep S0_66 Kq67 (allS (own_ns_exa fq0_66) all0)
      have fs67 : Fld Z T67.heap a61 "com/example/concept_reasoner/conceptreasoner/completion/IntList" "size" "I" (.int (0 : Int32)) := fq1_67
      refine own_trans st67 ?_
      show own_Ends p e below F (T67.setTop (mkF m 97 #[.val (.int p1), .val (.int p2), .val (.int p3), .val (.int p4), .val (.int p5), .val (.int (2 : Int32)), .val (.int (2 : Int32)), .val (.ref a61), .val (.int (1 : Int32)), .unset] [(.int p3)]))
      refine own_step (fun _ k => XS.pop X67.here hx rfl (hb hby at_97) rfl rfl k) ?_
      show own_Ends p e below F (T67.setTop (mkF m 98 #[.val (.int p1), .val (.int p2), .val (.int p3), .val (.int p4), .val (.int p5), .val (.int (2 : Int32)), .val (.int (2 : Int32)), .val (.ref a61), .val (.int (1 : Int32)), .unset] []))
      refine own_step (fun _ k => XS.iload X67.here hx rfl (hb hby at_98) rfl k) ?_
      show own_Ends p e below F (T67.setTop (mkF m 100 #[.val (.int p1), .val (.int p2), .val (.int p3), .val (.int p4), .val (.int p5), .val (.int (2 : Int32)), .val (.int (2 : Int32)), .val (.ref a61), .val (.int (1 : Int32)), .unset] [(.int (2 : Int32))]))
      refine own_step (fun _ k => XS.iconst X67.here hx rfl (hb hby at_100) k) ?_
      show own_Ends p e below F (T67.setTop (mkF m 101 #[.val (.int p1), .val (.int p2), .val (.int p3), .val (.int p4), .val (.int p5), .val (.int (2 : Int32)), .val (.int (2 : Int32)), .val (.ref a61), .val (.int (1 : Int32)), .unset] [(.int (3 : Int32)), (.int (2 : Int32))]))
      refine own_step (fun _ k => XS.icmpYes X67.here hx rfl (pc0 := 101) (pc' := 110) rfl (hb hby at_101) rfl (tlt (by decide : (2 : Int32) < (3 : Int32))).1 (by decide) (by decide) k) ?_
      show own_Ends p e below F (T67.setTop (mkF m 110 #[.val (.int p1), .val (.int p2), .val (.int p3), .val (.int p4), .val (.int p5), .val (.int (2 : Int32)), .val (.int (2 : Int32)), .val (.ref a61), .val (.int (1 : Int32)), .unset] []))
      refine own_step (fun _ k => XS.iload X67.here hx rfl (hb hby at_110) rfl k) ?_
      show own_Ends p e below F (T67.setTop (mkF m 112 #[.val (.int p1), .val (.int p2), .val (.int p3), .val (.int p4), .val (.int p5), .val (.int (2 : Int32)), .val (.int (2 : Int32)), .val (.ref a61), .val (.int (1 : Int32)), .unset] [(.int (2 : Int32))]))
      refine own_step (fun _ k => XS.iload X67.here hx rfl (hb hby at_112) rfl k) ?_
      show own_Ends p e below F (T67.setTop (mkF m 114 #[.val (.int p1), .val (.int p2), .val (.int p3), .val (.int p4), .val (.int p5), .val (.int (2 : Int32)), .val (.int (2 : Int32)), .val (.ref a61), .val (.int (1 : Int32)), .unset] [(.int (2 : Int32)), (.int (2 : Int32))]))
      refine own_step (fun _ k => XS.isub X67.here hx rfl (hb hby at_114) rfl k) ?_
      show own_Ends p e below F (T67.setTop (mkF m 115 #[.val (.int p1), .val (.int p2), .val (.int p3), .val (.int p4), .val (.int p5), .val (.int (2 : Int32)), .val (.int (2 : Int32)), .val (.ref a61), .val (.int (1 : Int32)), .unset] [(.int (0 : Int32))]))
      refine own_step (fun _ k => XS.ifNo X67.here hx rfl (hb hby at_115) rfl ((if0 _ _).trans (teq (by decide : (0 : Int32) = (0 : Int32))).2) k) ?_
      show own_Ends p e below F (T67.setTop (mkF m 118 #[.val (.int p1), .val (.int p2), .val (.int p3), .val (.int p4), .val (.int p5), .val (.int (2 : Int32)), .val (.int (2 : Int32)), .val (.ref a61), .val (.int (1 : Int32)), .unset] []))
      refine own_step (fun _ k => XS.iconst X67.here hx rfl (hb hby at_118) k) ?_
      show own_Ends p e below F (T67.setTop (mkF m 119 #[.val (.int p1), .val (.int p2), .val (.int p3), .val (.int p4), .val (.int p5), .val (.int (2 : Int32)), .val (.int (2 : Int32)), .val (.ref a61), .val (.int (1 : Int32)), .unset] [(.int (1 : Int32))]))
      refine own_step (fun _ k => XS.goto X67.here hx rfl (pc0 := 119) (pc' := 123) rfl (hb hby at_119) (by decide) (by decide) k) ?_
      show own_Ends p e below F (T67.setTop (mkF m 123 #[.val (.int p1), .val (.int p2), .val (.int p3), .val (.int p4), .val (.int p5), .val (.int (2 : Int32)), .val (.int (2 : Int32)), .val (.ref a61), .val (.int (1 : Int32)), .unset] [(.int (1 : Int32))]))
      refine own_step (fun _ k => XS.istore X67.here hx rfl (hb hby at_123) rfl (l' := #[.val (.int p1), .val (.int p2), .val (.int p3), .val (.int p4), .val (.int p5), .val (.int (2 : Int32)), .val (.int (2 : Int32)), .val (.ref a61), .val (.int (1 : Int32)), .val (.int (1 : Int32))]) rfl k) ?_
      show own_Ends p e below F (T67.setTop (mkF m 125 #[.val (.int p1), .val (.int p2), .val (.int p3), .val (.int p4), .val (.int p5), .val (.int (2 : Int32)), .val (.int (2 : Int32)), .val (.ref a61), .val (.int (1 : Int32)), .val (.int (1 : Int32))] []))
      refine own_step (fun _ k => XS.iload X67.here hx rfl (hb hby at_125) rfl k) ?_
      show own_Ends p e below F (T67.setTop (mkF m 127 #[.val (.int p1), .val (.int p2), .val (.int p3), .val (.int p4), .val (.int p5), .val (.int (2 : Int32)), .val (.int (2 : Int32)), .val (.ref a61), .val (.int (1 : Int32)), .val (.int (1 : Int32))] [(.int (1 : Int32))]))
      refine own_step (fun _ k => XS.ifNo X67.here hx rfl (hb hby at_127) rfl ((if0 _ _).trans (feq (by decide : ¬ ((1 : Int32) = (0 : Int32)))).1) k) ?_
      show own_Ends p e below F (T67.setTop (mkF m 130 #[.val (.int p1), .val (.int p2), .val (.int p3), .val (.int p4), .val (.int p5), .val (.int (2 : Int32)), .val (.int (2 : Int32)), .val (.ref a61), .val (.int (1 : Int32)), .val (.int (1 : Int32))] []))
      refine own_step (fun _ k => XS.aload X67.here hx rfl (hb hby at_130) rfl rfl k) ?_
      show own_Ends p e below F (T67.setTop (mkF m 132 #[.val (.int p1), .val (.int p2), .val (.int p3), .val (.int p4), .val (.int p5), .val (.int (2 : Int32)), .val (.int (2 : Int32)), .val (.ref a61), .val (.int (1 : Int32)), .val (.int (1 : Int32))] [(.ref a61)]))
      obtain ⟨cq68, kq68, qa68, qb68, qc68⟩ := isOf hZ rfl fq0_67
      obtain ⟨_, _, ⟨T68, L68, k68, n68⟩, -, X68, ⟨Lc68, hQ68, l68, y68, z68⟩, st68⟩ := X67.virtualBack hx (y := (⟨"com/example/concept_reasoner/conceptreasoner/completion/IntList", "isEmpty", "()Z"⟩ : MethodName)) (z := (⟨"com/example/concept_reasoner/conceptreasoner/completion/IntList", "isEmpty", "()Z"⟩ : MethodName)) hown (mvT hZ (own_g hw 13 rfl)) (mvT hZ (own_g hw 14 rfl)) (notFace_of_selects (args := #[]) (mvT hZ (own_g hw 16 rfl))) (mvT hZ (own_g hw 16 rfl)) (mvT hZ (own_g hw 15 rfl)) (by decide) (backOf (W := 0) (rm3 l Z a0 hw [] a61 (0 : Int32) T67.heap n0 Z67 fs67) hZ (own_g hw 17 rfl) (own_g hw 2 rfl) (by decide) (by decide)) qa68 qc68 (g := (mkF m 132 #[.val (.int p1), .val (.int p2), .val (.int p3), .val (.int p4), .val (.int p5), .val (.int (2 : Int32)), .val (.int (2 : Int32)), .val (.ref a61), .val (.int (1 : Int32)), .val (.int (1 : Int32))] [(.ref a61)])) rfl (by rw [hml]; rfl) (Steps.refl _) (argsL := []) (rest := []) (lenOf pd__28_29Z rfl) rfl (by show 2 * 0 + _ ≤ _; exact Nat.le_of_eq rfl) (hb hby at_132) (fun _ _ => ⟨rfl, rfl, (by decide : 2 + 0 ≤ _), (by decide : 6 + 0 ≤ _)⟩)
      dsimp only [Pt.U, Pt.locs, Pt.cells, Pt.slots] at X68 l68 y68 z68 st68 hQ68
      subst l68 y68 z68
      obtain ⟨rfl, Nq68, eq68⟩ := hQ68
      have N68 := Fr.app N67 Nq68
      refine own_trans st68 ?_
      show own_Ends p e below F (T68.setTop (mkF m 135 #[.val (.int p1), .val (.int p2), .val (.int p3), .val (.int p4), .val (.int p5), .val (.int (2 : Int32)), .val (.int (2 : Int32)), .val (.ref a61), .val (.int (1 : Int32)), .val (.int (1 : Int32))] [(.int (own_emp (0 : Int32)))]))
      rw [show (own_emp (0 : Int32)) = (1 : Int32) from (by first | rfl | decide)]
      show own_Ends p e below F (T68.setTop (mkF m 135 #[.val (.int p1), .val (.int p2), .val (.int p3), .val (.int p4), .val (.int p5), .val (.int (2 : Int32)), .val (.int (2 : Int32)), .val (.ref a61), .val (.int (1 : Int32)), .val (.int (1 : Int32))] [(.int (1 : Int32))]))
      refine own_step (fun _ k => XS.iload X68.here hx rfl (hb hby at_135) rfl k) ?_
      show own_Ends p e below F (T68.setTop (mkF m 137 #[.val (.int p1), .val (.int p2), .val (.int p3), .val (.int p4), .val (.int p5), .val (.int (2 : Int32)), .val (.int (2 : Int32)), .val (.ref a61), .val (.int (1 : Int32)), .val (.int (1 : Int32))] [(.int (1 : Int32)), (.int (1 : Int32))]))
      refine own_step (fun _ k => XS.icmpNo X68.here hx rfl (hb hby at_137) rfl (teq (by decide : (1 : Int32) = (1 : Int32))).2 k) ?_
      show own_Ends p e below F (T68.setTop (mkF m 140 #[.val (.int p1), .val (.int p2), .val (.int p3), .val (.int p4), .val (.int p5), .val (.int (2 : Int32)), .val (.int (2 : Int32)), .val (.ref a61), .val (.int (1 : Int32)), .val (.int (1 : Int32))] []))
      refine own_step (fun _ k => XS.iconst X68.here hx rfl (hb hby at_140) k) ?_
      show own_Ends p e below F (T68.setTop (mkF m 141 #[.val (.int p1), .val (.int p2), .val (.int p3), .val (.int p4), .val (.int p5), .val (.int (2 : Int32)), .val (.int (2 : Int32)), .val (.ref a61), .val (.int (1 : Int32)), .val (.int (1 : Int32))] [(.int (1 : Int32))]))
      refine own_step (fun _ k => XS.goto X68.here hx rfl (pc0 := 141) (pc' := 145) rfl (hb hby at_141) (by decide) (by decide) k) ?_
      show own_Ends p e below F (T68.setTop (mkF m 145 #[.val (.int p1), .val (.int p2), .val (.int p3), .val (.int p4), .val (.int p5), .val (.int (2 : Int32)), .val (.int (2 : Int32)), .val (.ref a61), .val (.int (1 : Int32)), .val (.int (1 : Int32))] [(.int (1 : Int32))]))
      rw [hF]
      exact own_ret X68 (v := (some (.int (nar .boolean (1 : Int32))))) (fun h => by rw [Bd.returns] at h; cases h) Bd.notSynchronized (fun fs hr => retN X68 hx (t := .boolean) Bd.returns (by simp) (hb hby at_145) hr) (by decide) (by decide) (by rw [eq68]; exact ⟨rfl, N68⟩)
  · rw [q5]
    show own_Ends p e below F (s₁.setTop (mkF m 5 #[.val (.int p1), .val (.int p2), .val (.int p3), .val (.int p4), .val (.int p5), .val (.int (3 : Int32)), .unset, .unset, .unset, .unset] []))
    refine own_step (fun _ k => XS.iloadN X0.here hx rfl (hb hby at_5) rfl k) ?_
    show own_Ends p e below F (s₁.setTop (mkF m 6 #[.val (.int p1), .val (.int p2), .val (.int p3), .val (.int p4), .val (.int p5), .val (.int (3 : Int32)), .unset, .unset, .unset, .unset] [(.int p2)]))
    refine own_step (fun _ k => XS.iconst X0.here hx rfl (hb hby at_6) k) ?_
    show own_Ends p e below F (s₁.setTop (mkF m 7 #[.val (.int p1), .val (.int p2), .val (.int p3), .val (.int p4), .val (.int p5), .val (.int (3 : Int32)), .unset, .unset, .unset, .unset] [(.int (3 : Int32)), (.int p2)]))
    refine own_step (fun _ k => XS.iand X0.here hx rfl (hb hby at_7) rfl k) ?_
    show own_Ends p e below F (s₁.setTop (mkF m 8 #[.val (.int p1), .val (.int p2), .val (.int p3), .val (.int p4), .val (.int p5), .val (.int (3 : Int32)), .unset, .unset, .unset, .unset] [(.int (p2 &&& (3 : Int32)))]))
    refine own_step (fun _ k => XS.istore X0.here hx rfl (hb hby at_8) rfl (l' := #[.val (.int p1), .val (.int p2), .val (.int p3), .val (.int p4), .val (.int p5), .val (.int (3 : Int32)), .val (.int (p2 &&& (3 : Int32))), .unset, .unset, .unset]) rfl k) ?_
    show own_Ends p e below F (s₁.setTop (mkF m 10 #[.val (.int p1), .val (.int p2), .val (.int p3), .val (.int p4), .val (.int p5), .val (.int (3 : Int32)), .val (.int (p2 &&& (3 : Int32))), .unset, .unset, .unset] []))
    rcases own_m3 p2 with q10 | q10 | q10 | q10
    · rw [q10]
      show own_Ends p e below F (s₁.setTop (mkF m 10 #[.val (.int p1), .val (.int p2), .val (.int p3), .val (.int p4), .val (.int p5), .val (.int (3 : Int32)), .val (.int (0 : Int32)), .unset, .unset, .unset] []))
      refine own_step (fun _ k => XS.iload X0.here hx rfl (hb hby at_10) rfl k) ?_
      show own_Ends p e below F (s₁.setTop (mkF m 12 #[.val (.int p1), .val (.int p2), .val (.int p3), .val (.int p4), .val (.int p5), .val (.int (3 : Int32)), .val (.int (0 : Int32)), .unset, .unset, .unset] [(.int (0 : Int32))]))
      refine own_step (fun _ k => XS.iload X0.here hx rfl (hb hby at_12) rfl k) ?_
      show own_Ends p e below F (s₁.setTop (mkF m 14 #[.val (.int p1), .val (.int p2), .val (.int p3), .val (.int p4), .val (.int p5), .val (.int (3 : Int32)), .val (.int (0 : Int32)), .unset, .unset, .unset] [(.int (3 : Int32)), (.int (0 : Int32))]))
      refine own_step (fun _ k => XS.icmpYes X0.here hx rfl (pc0 := 14) (pc' := 21) rfl (hb hby at_14) rfl (flt (by decide : ¬ ((3 : Int32) < (0 : Int32)))).2.2.2 (by decide) (by decide) k) ?_
      show own_Ends p e below F (s₁.setTop (mkF m 21 #[.val (.int p1), .val (.int p2), .val (.int p3), .val (.int p4), .val (.int p5), .val (.int (3 : Int32)), .val (.int (0 : Int32)), .unset, .unset, .unset] []))
      obtain ⟨T69, h69, X69, e69, E69, A69, D69, -, st69⟩ := newO X0 hx hZ hown (own_g hw 0 rfl) (own_g hw 1 rfl) (own_g hw 2 rfl) e0 (g := (mkF m 21 #[.val (.int p1), .val (.int p2), .val (.int p3), .val (.int p4), .val (.int p5), .val (.int (3 : Int32)), .val (.int (0 : Int32)), .unset, .unset, .unset] [])) rfl (hb hby at_21) (by decide) (by decide)
      obtain ⟨a69, g69⟩ : ∃ z, z = h0.size := ⟨_, rfl⟩
      rw [← g69] at A69 D69 st69
      have ge_a69 : n0 ≤ a69 := Nat.le_trans Z0 (Nat.le_of_eq g69.symm)
      have sz_a69 : h0.size ≤ a69 := Nat.le_trans (Nat.le_refl h0.size) (Nat.le_of_eq g69.symm)
      have ne_nn_a69 : nn ≠ a69 := Nat.ne_of_lt (by rw [g69]; exact VN.lt)
      have Z69 : n0 ≤ h69.size := Nat.le_trans Z0 E69.1
      have SZ69 : h0.size ≤ h69.size := Nat.le_trans (Nat.le_refl h0.size) E69.1
      have F69_values : Fld Z h69 a69 "com/example/concept_reasoner/conceptreasoner/completion/IntList" "values" "[I" .null := D69 (Or.inl (own_g hw 12 rfl)) (ty := (.array .int)) (by decide)
      have F69_size : Fld Z h69 a69 "com/example/concept_reasoner/conceptreasoner/completion/IntList" "size" "I" (.int (0 : Int32)) := D69 (Or.inl (own_g hw 19 rfl)) (ty := .int) (by decide)
      refine own_step st69 ?_
      show own_Ends p e below F (T69.setTop (mkF m 24 #[.val (.int p1), .val (.int p2), .val (.int p3), .val (.int p4), .val (.int p5), .val (.int (3 : Int32)), .val (.int (0 : Int32)), .unset, .unset, .unset] [(.ref a69)]))
      refine own_step (fun _ k => XS.dup X69.here hx rfl (hb hby at_24) rfl rfl k) ?_
      show own_Ends p e below F (T69.setTop (mkF m 25 #[.val (.int p1), .val (.int p2), .val (.int p3), .val (.int p4), .val (.int p5), .val (.int (3 : Int32)), .val (.int (0 : Int32)), .unset, .unset, .unset] [(.ref a69), (.ref a69)]))
      obtain ⟨_, _, ⟨T70, L70, k70, n70⟩, -, X70, ⟨Lc70, hQ70, l70, y70, z70⟩, st70⟩ := X69.specialBack hx (y := (⟨"com/example/concept_reasoner/conceptreasoner/completion/IntList", "<init>", "()V"⟩ : MethodName)) rfl hown (mvT hZ (own_g hw 3 rfl)) (mvT hZ (own_g hw 4 rfl)) (mvT hZ (own_g hw 5 rfl)) (by decide) (backOf (W := 1) (rm1 l Z a0 hw [] a69 nn h69 n0 Z69 A69 ge_a69 F69_values F69_size (Sta.ext E69 SN)) hZ (own_g hw 5 rfl) (own_g hw 2 rfl) (by decide) (by decide)) (g := (mkF m 25 #[.val (.int p1), .val (.int p2), .val (.int p3), .val (.int p4), .val (.int p5), .val (.int (3 : Int32)), .val (.int (0 : Int32)), .unset, .unset, .unset] [(.ref a69), (.ref a69)])) rfl (by rw [hml]; rfl) (Steps.refl _) (a := a69) (argsL := []) (rest := [(.ref a69)]) (lenOf pd__28_29V rfl) rfl (by show 2 * 0 + _ ≤ _; exact Nat.le_of_eq rfl) (hb hby at_25) (fun _ _ => ⟨rfl, e69, (by decide : 1 + 0 ≤ _), (by decide : 2 + 0 ≤ _)⟩)
      dsimp only [Pt.U, Pt.locs, Pt.cells, Pt.slots] at X70 l70 y70 z70 st70 hQ70
      subst l70 y70 z70
      obtain ⟨rfl, Nq70, Kq70, fq0_70, fq1_70, fq2_70⟩ := hQ70
      have N70 := Fr.app N0 Nq70
      have Z70 : n0 ≤ T70.heap.size := Nat.le_trans Z69 Kq70.1
      have SZ70 : h0.size ≤ T70.heap.size := Nat.le_trans SZ69 Kq70.1
      have S0_70 := own_Sta_keep (Sta.ext E69 SN) Kq70 (allS (own_ns_exa A69) all0)
      refine own_trans st70 ?_
      show own_Ends p e below F (T70.setTop (mkF m 28 #[.val (.int p1), .val (.int p2), .val (.int p3), .val (.int p4), .val (.int p5), .val (.int (3 : Int32)), .val (.int (0 : Int32)), .unset, .unset, .unset] [(.ref a69)]))
      refine own_step (fun _ k => XS.astore X70.here hx rfl (hb hby at_28) rfl rfl (l' := #[.val (.int p1), .val (.int p2), .val (.int p3), .val (.int p4), .val (.int p5), .val (.int (3 : Int32)), .val (.int (0 : Int32)), .val (.ref a69), .unset, .unset]) rfl k) ?_
      show own_Ends p e below F (T70.setTop (mkF m 30 #[.val (.int p1), .val (.int p2), .val (.int p3), .val (.int p4), .val (.int p5), .val (.int (3 : Int32)), .val (.int (0 : Int32)), .val (.ref a69), .unset, .unset] []))
      refine own_step (fun _ k => XS.aload X70.here hx rfl (hb hby at_30) rfl rfl k) ?_
      show own_Ends p e below F (T70.setTop (mkF m 32 #[.val (.int p1), .val (.int p2), .val (.int p3), .val (.int p4), .val (.int p5), .val (.int (3 : Int32)), .val (.int (0 : Int32)), .val (.ref a69), .unset, .unset] [(.ref a69)]))
      obtain ⟨cq71, kq71, qa71, qb71, qc71⟩ := isOf hZ rfl fq0_70
      obtain ⟨_, _, ⟨T71, L71, k71, n71⟩, -, X71, ⟨Lc71, hQ71, l71, y71, z71⟩, st71⟩ := X70.virtualBack hx (y := (⟨"com/example/concept_reasoner/conceptreasoner/completion/IntList", "isEmpty", "()Z"⟩ : MethodName)) (z := (⟨"com/example/concept_reasoner/conceptreasoner/completion/IntList", "isEmpty", "()Z"⟩ : MethodName)) hown (mvT hZ (own_g hw 13 rfl)) (mvT hZ (own_g hw 14 rfl)) (notFace_of_selects (args := #[]) (mvT hZ (own_g hw 16 rfl))) (mvT hZ (own_g hw 16 rfl)) (mvT hZ (own_g hw 15 rfl)) (by decide) (backOf (W := 0) (rm3 l Z a0 hw [] a69 (0 : Int32) T70.heap n0 Z70 fq2_70) hZ (own_g hw 17 rfl) (own_g hw 2 rfl) (by decide) (by decide)) qa71 qc71 (g := (mkF m 32 #[.val (.int p1), .val (.int p2), .val (.int p3), .val (.int p4), .val (.int p5), .val (.int (3 : Int32)), .val (.int (0 : Int32)), .val (.ref a69), .unset, .unset] [(.ref a69)])) rfl (by rw [hml]; rfl) (Steps.refl _) (argsL := []) (rest := []) (lenOf pd__28_29Z rfl) rfl (by show 2 * 0 + _ ≤ _; exact Nat.le_of_eq rfl) (hb hby at_32) (fun _ _ => ⟨rfl, rfl, (by decide : 1 + 0 ≤ _), (by decide : 2 + 0 ≤ _)⟩)
      dsimp only [Pt.U, Pt.locs, Pt.cells, Pt.slots] at X71 l71 y71 z71 st71 hQ71
      subst l71 y71 z71
      obtain ⟨rfl, Nq71, eq71⟩ := hQ71
      have N71 := Fr.app N70 Nq71
      refine own_trans st71 ?_
      show own_Ends p e below F (T71.setTop (mkF m 35 #[.val (.int p1), .val (.int p2), .val (.int p3), .val (.int p4), .val (.int p5), .val (.int (3 : Int32)), .val (.int (0 : Int32)), .val (.ref a69), .unset, .unset] [(.int (own_emp (0 : Int32)))]))
      rw [show (own_emp (0 : Int32)) = (1 : Int32) from (by first | rfl | decide)]
      show own_Ends p e below F (T71.setTop (mkF m 35 #[.val (.int p1), .val (.int p2), .val (.int p3), .val (.int p4), .val (.int p5), .val (.int (3 : Int32)), .val (.int (0 : Int32)), .val (.ref a69), .unset, .unset] [(.int (1 : Int32))]))
      refine own_step (fun _ k => XS.istore X71.here hx rfl (hb hby at_35) rfl (l' := #[.val (.int p1), .val (.int p2), .val (.int p3), .val (.int p4), .val (.int p5), .val (.int (3 : Int32)), .val (.int (0 : Int32)), .val (.ref a69), .val (.int (1 : Int32)), .unset]) rfl k) ?_
      show own_Ends p e below F (T71.setTop (mkF m 37 #[.val (.int p1), .val (.int p2), .val (.int p3), .val (.int p4), .val (.int p5), .val (.int (3 : Int32)), .val (.int (0 : Int32)), .val (.ref a69), .val (.int (1 : Int32)), .unset] []))
      refine own_step (fun _ k => XS.iload X71.here hx rfl (hb hby at_37) rfl k) ?_
      show own_Ends p e below F (T71.setTop (mkF m 39 #[.val (.int p1), .val (.int p2), .val (.int p3), .val (.int p4), .val (.int p5), .val (.int (3 : Int32)), .val (.int (0 : Int32)), .val (.ref a69), .val (.int (1 : Int32)), .unset] [(.int (3 : Int32))]))
      refine own_step (fun _ k => XS.iconst X71.here hx rfl (hb hby at_39) k) ?_
      show own_Ends p e below F (T71.setTop (mkF m 40 #[.val (.int p1), .val (.int p2), .val (.int p3), .val (.int p4), .val (.int p5), .val (.int (3 : Int32)), .val (.int (0 : Int32)), .val (.ref a69), .val (.int (1 : Int32)), .unset] [(.int (1 : Int32)), (.int (3 : Int32))]))
      refine own_step (fun _ k => XS.icmpNo X71.here hx rfl (hb hby at_40) rfl (flt (by decide : ¬ ((3 : Int32) < (1 : Int32)))).1 k) ?_
      show own_Ends p e below F (T71.setTop (mkF m 43 #[.val (.int p1), .val (.int p2), .val (.int p3), .val (.int p4), .val (.int p5), .val (.int (3 : Int32)), .val (.int (0 : Int32)), .val (.ref a69), .val (.int (1 : Int32)), .unset] []))
      refine own_step (fun _ k => XS.aload X71.here hx rfl (hb hby at_43) rfl rfl k) ?_
      show own_Ends p e below F (T71.setTop (mkF m 45 #[.val (.int p1), .val (.int p2), .val (.int p3), .val (.int p4), .val (.int p5), .val (.int (3 : Int32)), .val (.int (0 : Int32)), .val (.ref a69), .val (.int (1 : Int32)), .unset] [(.ref a69)]))
      refine own_step (fun _ k => XS.iloadN X71.here hx rfl (hb hby at_45) rfl k) ?_
      show own_Ends p e below F (T71.setTop (mkF m 46 #[.val (.int p1), .val (.int p2), .val (.int p3), .val (.int p4), .val (.int p5), .val (.int (3 : Int32)), .val (.int (0 : Int32)), .val (.ref a69), .val (.int (1 : Int32)), .unset] [(.int p3), (.ref a69)]))
      obtain ⟨cq72, kq72, qa72, qb72, qc72⟩ := isOf hZ eq71 fq0_70
      obtain ⟨_, _, ⟨T72, L72, k72, n72⟩, -, X72, ⟨Lc72, hQ72, l72, y72, z72⟩, st72⟩ := X71.virtualBack hx (y := (⟨"com/example/concept_reasoner/conceptreasoner/completion/IntList", "add", "(I)V"⟩ : MethodName)) (z := (⟨"com/example/concept_reasoner/conceptreasoner/completion/IntList", "add", "(I)V"⟩ : MethodName)) hown (mvT hZ (own_g hw 20 rfl)) (mvT hZ (own_g hw 21 rfl)) (notFace_of_selects (args := #[]) (mvT hZ (own_g hw 23 rfl))) (mvT hZ (own_g hw 23 rfl)) (mvT hZ (own_g hw 22 rfl)) (by decide) (backOf (W := 0) (rm4a l Z a0 hw [] a69 nn p3 kN T70.heap n0 Z70 fq0_70 ge_a69 fq2_70 fq1_70 ((VN.ext E69).keep Kq70 (ninS ne_nn_a69 nin0)) ne_nn_a69) hZ (own_g hw 24 rfl) (own_g hw 2 rfl) (by decide) (by decide)) qa72 qc72 (g := (mkF m 46 #[.val (.int p1), .val (.int p2), .val (.int p3), .val (.int p4), .val (.int p5), .val (.int (3 : Int32)), .val (.int (0 : Int32)), .val (.ref a69), .val (.int (1 : Int32)), .unset] [(.int p3), (.ref a69)])) rfl (by rw [hml]; rfl) (Steps.refl _) (argsL := [(.int p3)]) (rest := []) (lenOf pd__28I_29V rfl) rfl (by show 2 * 0 + _ ≤ _; exact Nat.le_of_eq rfl) (hb hby at_46) (fun _ _ => ⟨rfl, eq71, (by decide : 1 + 1 ≤ _), (by decide : 2 + 4 ≤ _)⟩)
      dsimp only [Pt.U, Pt.locs, Pt.cells, Pt.slots] at X72 l72 y72 z72 st72 hQ72
      subst l72 y72 z72
      obtain ⟨c72, kc72, rfl, Nq72, Kq72, fq0_72, fq1_72, fq2_72, fq3_72, fq4_72⟩ := hQ72
      have N72 := Fr.app N71 Nq72
      have Z72 : n0 ≤ T72.heap.size := Nat.le_trans Z70 Kq72.1
      have SZ72 : h0.size ≤ T72.heap.size := Nat.le_trans SZ70 Kq72.1
      have S0_72 := own_Sta_keep S0_70 Kq72 (allS (own_ns_exa fq0_70) all0)
      have ne_nn_c72 : nn ≠ c72 := Nat.ne_of_lt (Nat.lt_of_lt_of_le (((VN.ext E69).keep Kq70 (ninS ne_nn_a69 nin0))).lt fq0_72)
      have ne_a69_c72 : a69 ≠ c72 := Nat.ne_of_lt (Nat.lt_of_lt_of_le (fq1_70).lt fq0_72)
      have ge_c72 : n0 ≤ c72 := Nat.le_trans Z70 fq0_72
      have sz_c72 : h0.size ≤ c72 := Nat.le_trans SZ70 fq0_72
      refine own_trans st72 ?_
      show own_Ends p e below F (T72.setTop (mkF m 49 #[.val (.int p1), .val (.int p2), .val (.int p3), .val (.int p4), .val (.int p5), .val (.int (3 : Int32)), .val (.int (0 : Int32)), .val (.ref a69), .val (.int (1 : Int32)), .unset] []))
      refine own_step (fun _ k => XS.iload X72.here hx rfl (hb hby at_49) rfl k) ?_
      show own_Ends p e below F (T72.setTop (mkF m 51 #[.val (.int p1), .val (.int p2), .val (.int p3), .val (.int p4), .val (.int p5), .val (.int (3 : Int32)), .val (.int (0 : Int32)), .val (.ref a69), .val (.int (1 : Int32)), .unset] [(.int (3 : Int32))]))
      refine own_step (fun _ k => XS.iconst X72.here hx rfl (hb hby at_51) k) ?_
      show own_Ends p e below F (T72.setTop (mkF m 52 #[.val (.int p1), .val (.int p2), .val (.int p3), .val (.int p4), .val (.int p5), .val (.int (3 : Int32)), .val (.int (0 : Int32)), .val (.ref a69), .val (.int (1 : Int32)), .unset] [(.int (2 : Int32)), (.int (3 : Int32))]))
      refine own_step (fun _ k => XS.icmpNo X72.here hx rfl (hb hby at_52) rfl (flt (by decide : ¬ ((3 : Int32) < (2 : Int32)))).1 k) ?_
      show own_Ends p e below F (T72.setTop (mkF m 55 #[.val (.int p1), .val (.int p2), .val (.int p3), .val (.int p4), .val (.int p5), .val (.int (3 : Int32)), .val (.int (0 : Int32)), .val (.ref a69), .val (.int (1 : Int32)), .unset] []))
      refine own_step (fun _ k => XS.aload X72.here hx rfl (hb hby at_55) rfl rfl k) ?_
      show own_Ends p e below F (T72.setTop (mkF m 57 #[.val (.int p1), .val (.int p2), .val (.int p3), .val (.int p4), .val (.int p5), .val (.int (3 : Int32)), .val (.int (0 : Int32)), .val (.ref a69), .val (.int (1 : Int32)), .unset] [(.ref a69)]))
      refine own_step (fun _ k => XS.iloadN X72.here hx rfl (hb hby at_57) rfl k) ?_
      show own_Ends p e below F (T72.setTop (mkF m 58 #[.val (.int p1), .val (.int p2), .val (.int p3), .val (.int p4), .val (.int p5), .val (.int (3 : Int32)), .val (.int (0 : Int32)), .val (.ref a69), .val (.int (1 : Int32)), .unset] [(.int p4), (.ref a69)]))
      obtain ⟨cq73, kq73, qa73, qb73, qc73⟩ := isOf hZ rfl fq1_72
      obtain ⟨_, _, ⟨T73, L73, k73, n73⟩, -, X73, ⟨Lc73, hQ73, l73, y73, z73⟩, st73⟩ := X72.virtualBack hx (y := (⟨"com/example/concept_reasoner/conceptreasoner/completion/IntList", "add", "(I)V"⟩ : MethodName)) (z := (⟨"com/example/concept_reasoner/conceptreasoner/completion/IntList", "add", "(I)V"⟩ : MethodName)) hown (mvT hZ (own_g hw 20 rfl)) (mvT hZ (own_g hw 21 rfl)) (notFace_of_selects (args := #[]) (mvT hZ (own_g hw 23 rfl))) (mvT hZ (own_g hw 23 rfl)) (mvT hZ (own_g hw 22 rfl)) (by decide) (backOf (W := 0) (rm4b l Z a0 hw [] a69 c72 p4 (1 : Int32) kc72 [(.int p3), (.int (0 : Int32)), (.int (0 : Int32)), (.int (0 : Int32))] T72.heap n0 Z72 fq1_72 ge_a69 fq2_72 fq3_72 fq4_72 (Ne.symm ne_a69_c72) ge_c72 (by decide) ⟨by decide, by decide⟩ (Nat.le_of_ble_eq_true rfl)) hZ (own_g hw 24 rfl) (own_g hw 2 rfl) (by decide) (by decide)) qa73 qc73 (g := (mkF m 58 #[.val (.int p1), .val (.int p2), .val (.int p3), .val (.int p4), .val (.int p5), .val (.int (3 : Int32)), .val (.int (0 : Int32)), .val (.ref a69), .val (.int (1 : Int32)), .unset] [(.int p4), (.ref a69)])) rfl (by rw [hml]; rfl) (Steps.refl _) (argsL := [(.int p4)]) (rest := []) (lenOf pd__28I_29V rfl) rfl (by show 2 * 0 + _ ≤ _; exact Nat.le_of_eq rfl) (hb hby at_58) (fun _ _ => ⟨rfl, rfl, (by decide : 2 + 0 ≤ _), (by decide : 6 + 0 ≤ _)⟩)
      dsimp only [Pt.U, Pt.locs, Pt.cells, Pt.slots] at X73 l73 y73 z73 st73 hQ73
      subst l73 y73 z73
      obtain ⟨rfl, Nq73, Kq73, fq0_73, fq1_73, fq2_73, fq3_73⟩ := hQ73
      have N73 := Fr.app N72 Nq73
      have Z73 : n0 ≤ T73.heap.size := Nat.le_trans Z72 Kq73.1
      have SZ73 : h0.size ≤ T73.heap.size := Nat.le_trans SZ72 Kq73.1
      have S0_73 := own_Sta_keep S0_72 Kq73 (allS (own_ns_exa fq1_72) (allS (own_ns_arv fq4_72) all0))
      have fs73 : Fld Z T73.heap a69 "com/example/concept_reasoner/conceptreasoner/completion/IntList" "size" "I" (.int (2 : Int32)) := fq1_73
      have fv73 : Arv Z T73.heap c72 kc72 .int (4 : Int32) [(.int p3), (.int p4), (.int (0 : Int32)), (.int (0 : Int32))] (.int (0 : Int32)) := fq3_73
      refine own_trans st73 ?_
      show own_Ends p e below F (T73.setTop (mkF m 61 #[.val (.int p1), .val (.int p2), .val (.int p3), .val (.int p4), .val (.int p5), .val (.int (3 : Int32)), .val (.int (0 : Int32)), .val (.ref a69), .val (.int (1 : Int32)), .unset] []))
      refine own_step (fun _ k => XS.iload X73.here hx rfl (hb hby at_61) rfl k) ?_
      show own_Ends p e below F (T73.setTop (mkF m 63 #[.val (.int p1), .val (.int p2), .val (.int p3), .val (.int p4), .val (.int p5), .val (.int (3 : Int32)), .val (.int (0 : Int32)), .val (.ref a69), .val (.int (1 : Int32)), .unset] [(.int (3 : Int32))]))
      refine own_step (fun _ k => XS.iconst X73.here hx rfl (hb hby at_63) k) ?_
      show own_Ends p e below F (T73.setTop (mkF m 64 #[.val (.int p1), .val (.int p2), .val (.int p3), .val (.int p4), .val (.int p5), .val (.int (3 : Int32)), .val (.int (0 : Int32)), .val (.ref a69), .val (.int (1 : Int32)), .unset] [(.int (3 : Int32)), (.int (3 : Int32))]))
      refine own_step (fun _ k => XS.icmpNo X73.here hx rfl (hb hby at_64) rfl (flt (by decide : ¬ ((3 : Int32) < (3 : Int32)))).1 k) ?_
      show own_Ends p e below F (T73.setTop (mkF m 67 #[.val (.int p1), .val (.int p2), .val (.int p3), .val (.int p4), .val (.int p5), .val (.int (3 : Int32)), .val (.int (0 : Int32)), .val (.ref a69), .val (.int (1 : Int32)), .unset] []))
      refine own_step (fun _ k => XS.aload X73.here hx rfl (hb hby at_67) rfl rfl k) ?_
      show own_Ends p e below F (T73.setTop (mkF m 69 #[.val (.int p1), .val (.int p2), .val (.int p3), .val (.int p4), .val (.int p5), .val (.int (3 : Int32)), .val (.int (0 : Int32)), .val (.ref a69), .val (.int (1 : Int32)), .unset] [(.ref a69)]))
      refine own_step (fun _ k => XS.iload X73.here hx rfl (hb hby at_69) rfl k) ?_
      show own_Ends p e below F (T73.setTop (mkF m 71 #[.val (.int p1), .val (.int p2), .val (.int p3), .val (.int p4), .val (.int p5), .val (.int (3 : Int32)), .val (.int (0 : Int32)), .val (.ref a69), .val (.int (1 : Int32)), .unset] [(.int p5), (.ref a69)]))
      obtain ⟨cq74, kq74, qa74, qb74, qc74⟩ := isOf hZ rfl fq0_73
      obtain ⟨_, _, ⟨T74, L74, k74, n74⟩, -, X74, ⟨Lc74, hQ74, l74, y74, z74⟩, st74⟩ := X73.virtualBack hx (y := (⟨"com/example/concept_reasoner/conceptreasoner/completion/IntList", "add", "(I)V"⟩ : MethodName)) (z := (⟨"com/example/concept_reasoner/conceptreasoner/completion/IntList", "add", "(I)V"⟩ : MethodName)) hown (mvT hZ (own_g hw 20 rfl)) (mvT hZ (own_g hw 21 rfl)) (notFace_of_selects (args := #[]) (mvT hZ (own_g hw 23 rfl))) (mvT hZ (own_g hw 23 rfl)) (mvT hZ (own_g hw 22 rfl)) (by decide) (backOf (W := 0) (rm4b l Z a0 hw [] a69 c72 p5 (2 : Int32) kc72 [(.int p3), (.int p4), (.int (0 : Int32)), (.int (0 : Int32))] T73.heap n0 Z73 fq0_73 ge_a69 fs73 fq2_73 fv73 (Ne.symm ne_a69_c72) ge_c72 (by decide) ⟨by decide, by decide⟩ (Nat.le_of_ble_eq_true rfl)) hZ (own_g hw 24 rfl) (own_g hw 2 rfl) (by decide) (by decide)) qa74 qc74 (g := (mkF m 71 #[.val (.int p1), .val (.int p2), .val (.int p3), .val (.int p4), .val (.int p5), .val (.int (3 : Int32)), .val (.int (0 : Int32)), .val (.ref a69), .val (.int (1 : Int32)), .unset] [(.int p5), (.ref a69)])) rfl (by rw [hml]; rfl) (Steps.refl _) (argsL := [(.int p5)]) (rest := []) (lenOf pd__28I_29V rfl) rfl (by show 2 * 0 + _ ≤ _; exact Nat.le_of_eq rfl) (hb hby at_71) (fun _ _ => ⟨rfl, rfl, (by decide : 2 + 0 ≤ _), (by decide : 6 + 0 ≤ _)⟩)
      dsimp only [Pt.U, Pt.locs, Pt.cells, Pt.slots] at X74 l74 y74 z74 st74 hQ74
      subst l74 y74 z74
      obtain ⟨rfl, Nq74, Kq74, fq0_74, fq1_74, fq2_74, fq3_74⟩ := hQ74
      have N74 := Fr.app N73 Nq74
      have Z74 : n0 ≤ T74.heap.size := Nat.le_trans Z73 Kq74.1
      have SZ74 : h0.size ≤ T74.heap.size := Nat.le_trans SZ73 Kq74.1
      have S0_74 := own_Sta_keep S0_73 Kq74 (allS (own_ns_exa fq0_73) (allS (own_ns_arv fv73) all0))
      have fs74 : Fld Z T74.heap a69 "com/example/concept_reasoner/conceptreasoner/completion/IntList" "size" "I" (.int (3 : Int32)) := fq1_74
      have fv74 : Arv Z T74.heap c72 kc72 .int (4 : Int32) [(.int p3), (.int p4), (.int p5), (.int (0 : Int32))] (.int (0 : Int32)) := fq3_74
      refine own_trans st74 ?_
      show own_Ends p e below F (T74.setTop (mkF m 74 #[.val (.int p1), .val (.int p2), .val (.int p3), .val (.int p4), .val (.int p5), .val (.int (3 : Int32)), .val (.int (0 : Int32)), .val (.ref a69), .val (.int (1 : Int32)), .unset] []))
      refine own_step (fun _ k => XS.iload X74.here hx rfl (hb hby at_74) rfl k) ?_
      show own_Ends p e below F (T74.setTop (mkF m 76 #[.val (.int p1), .val (.int p2), .val (.int p3), .val (.int p4), .val (.int p5), .val (.int (3 : Int32)), .val (.int (0 : Int32)), .val (.ref a69), .val (.int (1 : Int32)), .unset] [(.int (0 : Int32))]))
      refine own_step (fun _ k => XS.iconst X74.here hx rfl (hb hby at_76) k) ?_
      show own_Ends p e below F (T74.setTop (mkF m 77 #[.val (.int p1), .val (.int p2), .val (.int p3), .val (.int p4), .val (.int p5), .val (.int (3 : Int32)), .val (.int (0 : Int32)), .val (.ref a69), .val (.int (1 : Int32)), .unset] [(.int (1 : Int32)), (.int (0 : Int32))]))
      refine own_step (fun _ k => XS.icmpYes X74.here hx rfl (pc0 := 77) (pc' := 86) rfl (hb hby at_77) rfl (tlt (by decide : (0 : Int32) < (1 : Int32))).1 (by decide) (by decide) k) ?_
      show own_Ends p e below F (T74.setTop (mkF m 86 #[.val (.int p1), .val (.int p2), .val (.int p3), .val (.int p4), .val (.int p5), .val (.int (3 : Int32)), .val (.int (0 : Int32)), .val (.ref a69), .val (.int (1 : Int32)), .unset] []))
      refine own_step (fun _ k => XS.iload X74.here hx rfl (hb hby at_86) rfl k) ?_
      show own_Ends p e below F (T74.setTop (mkF m 88 #[.val (.int p1), .val (.int p2), .val (.int p3), .val (.int p4), .val (.int p5), .val (.int (3 : Int32)), .val (.int (0 : Int32)), .val (.ref a69), .val (.int (1 : Int32)), .unset] [(.int (0 : Int32))]))
      refine own_step (fun _ k => XS.iconst X74.here hx rfl (hb hby at_88) k) ?_
      show own_Ends p e below F (T74.setTop (mkF m 89 #[.val (.int p1), .val (.int p2), .val (.int p3), .val (.int p4), .val (.int p5), .val (.int (3 : Int32)), .val (.int (0 : Int32)), .val (.ref a69), .val (.int (1 : Int32)), .unset] [(.int (2 : Int32)), (.int (0 : Int32))]))
      refine own_step (fun _ k => XS.icmpYes X74.here hx rfl (pc0 := 89) (pc' := 98) rfl (hb hby at_89) rfl (tlt (by decide : (0 : Int32) < (2 : Int32))).1 (by decide) (by decide) k) ?_
      show own_Ends p e below F (T74.setTop (mkF m 98 #[.val (.int p1), .val (.int p2), .val (.int p3), .val (.int p4), .val (.int p5), .val (.int (3 : Int32)), .val (.int (0 : Int32)), .val (.ref a69), .val (.int (1 : Int32)), .unset] []))
      refine own_step (fun _ k => XS.iload X74.here hx rfl (hb hby at_98) rfl k) ?_
      show own_Ends p e below F (T74.setTop (mkF m 100 #[.val (.int p1), .val (.int p2), .val (.int p3), .val (.int p4), .val (.int p5), .val (.int (3 : Int32)), .val (.int (0 : Int32)), .val (.ref a69), .val (.int (1 : Int32)), .unset] [(.int (0 : Int32))]))
      refine own_step (fun _ k => XS.iconst X74.here hx rfl (hb hby at_100) k) ?_
      show own_Ends p e below F (T74.setTop (mkF m 101 #[.val (.int p1), .val (.int p2), .val (.int p3), .val (.int p4), .val (.int p5), .val (.int (3 : Int32)), .val (.int (0 : Int32)), .val (.ref a69), .val (.int (1 : Int32)), .unset] [(.int (3 : Int32)), (.int (0 : Int32))]))
      refine own_step (fun _ k => XS.icmpYes X74.here hx rfl (pc0 := 101) (pc' := 110) rfl (hb hby at_101) rfl (tlt (by decide : (0 : Int32) < (3 : Int32))).1 (by decide) (by decide) k) ?_
      show own_Ends p e below F (T74.setTop (mkF m 110 #[.val (.int p1), .val (.int p2), .val (.int p3), .val (.int p4), .val (.int p5), .val (.int (3 : Int32)), .val (.int (0 : Int32)), .val (.ref a69), .val (.int (1 : Int32)), .unset] []))
      refine own_step (fun _ k => XS.iload X74.here hx rfl (hb hby at_110) rfl k) ?_
      show own_Ends p e below F (T74.setTop (mkF m 112 #[.val (.int p1), .val (.int p2), .val (.int p3), .val (.int p4), .val (.int p5), .val (.int (3 : Int32)), .val (.int (0 : Int32)), .val (.ref a69), .val (.int (1 : Int32)), .unset] [(.int (3 : Int32))]))
      refine own_step (fun _ k => XS.iload X74.here hx rfl (hb hby at_112) rfl k) ?_
      show own_Ends p e below F (T74.setTop (mkF m 114 #[.val (.int p1), .val (.int p2), .val (.int p3), .val (.int p4), .val (.int p5), .val (.int (3 : Int32)), .val (.int (0 : Int32)), .val (.ref a69), .val (.int (1 : Int32)), .unset] [(.int (0 : Int32)), (.int (3 : Int32))]))
      refine own_step (fun _ k => XS.isub X74.here hx rfl (hb hby at_114) rfl k) ?_
      show own_Ends p e below F (T74.setTop (mkF m 115 #[.val (.int p1), .val (.int p2), .val (.int p3), .val (.int p4), .val (.int p5), .val (.int (3 : Int32)), .val (.int (0 : Int32)), .val (.ref a69), .val (.int (1 : Int32)), .unset] [(.int (3 : Int32))]))
      refine own_step (fun _ k => XS.ifYes X74.here hx rfl (pc0 := 115) (pc' := 122) rfl (hb hby at_115) rfl ((if0 _ _).trans (feq (by decide : ¬ ((3 : Int32) = (0 : Int32)))).2) (by decide) (by decide) k) ?_
      show own_Ends p e below F (T74.setTop (mkF m 122 #[.val (.int p1), .val (.int p2), .val (.int p3), .val (.int p4), .val (.int p5), .val (.int (3 : Int32)), .val (.int (0 : Int32)), .val (.ref a69), .val (.int (1 : Int32)), .unset] []))
      refine own_step (fun _ k => XS.iconst X74.here hx rfl (hb hby at_122) k) ?_
      show own_Ends p e below F (T74.setTop (mkF m 123 #[.val (.int p1), .val (.int p2), .val (.int p3), .val (.int p4), .val (.int p5), .val (.int (3 : Int32)), .val (.int (0 : Int32)), .val (.ref a69), .val (.int (1 : Int32)), .unset] [(.int (0 : Int32))]))
      refine own_step (fun _ k => XS.istore X74.here hx rfl (hb hby at_123) rfl (l' := #[.val (.int p1), .val (.int p2), .val (.int p3), .val (.int p4), .val (.int p5), .val (.int (3 : Int32)), .val (.int (0 : Int32)), .val (.ref a69), .val (.int (1 : Int32)), .val (.int (0 : Int32))]) rfl k) ?_
      show own_Ends p e below F (T74.setTop (mkF m 125 #[.val (.int p1), .val (.int p2), .val (.int p3), .val (.int p4), .val (.int p5), .val (.int (3 : Int32)), .val (.int (0 : Int32)), .val (.ref a69), .val (.int (1 : Int32)), .val (.int (0 : Int32))] []))
      refine own_step (fun _ k => XS.iload X74.here hx rfl (hb hby at_125) rfl k) ?_
      show own_Ends p e below F (T74.setTop (mkF m 127 #[.val (.int p1), .val (.int p2), .val (.int p3), .val (.int p4), .val (.int p5), .val (.int (3 : Int32)), .val (.int (0 : Int32)), .val (.ref a69), .val (.int (1 : Int32)), .val (.int (0 : Int32))] [(.int (1 : Int32))]))
      refine own_step (fun _ k => XS.ifNo X74.here hx rfl (hb hby at_127) rfl ((if0 _ _).trans (feq (by decide : ¬ ((1 : Int32) = (0 : Int32)))).1) k) ?_
      show own_Ends p e below F (T74.setTop (mkF m 130 #[.val (.int p1), .val (.int p2), .val (.int p3), .val (.int p4), .val (.int p5), .val (.int (3 : Int32)), .val (.int (0 : Int32)), .val (.ref a69), .val (.int (1 : Int32)), .val (.int (0 : Int32))] []))
      refine own_step (fun _ k => XS.aload X74.here hx rfl (hb hby at_130) rfl rfl k) ?_
      show own_Ends p e below F (T74.setTop (mkF m 132 #[.val (.int p1), .val (.int p2), .val (.int p3), .val (.int p4), .val (.int p5), .val (.int (3 : Int32)), .val (.int (0 : Int32)), .val (.ref a69), .val (.int (1 : Int32)), .val (.int (0 : Int32))] [(.ref a69)]))
      obtain ⟨cq75, kq75, qa75, qb75, qc75⟩ := isOf hZ rfl fq0_74
      obtain ⟨_, _, ⟨T75, L75, k75, n75⟩, -, X75, ⟨Lc75, hQ75, l75, y75, z75⟩, st75⟩ := X74.virtualBack hx (y := (⟨"com/example/concept_reasoner/conceptreasoner/completion/IntList", "isEmpty", "()Z"⟩ : MethodName)) (z := (⟨"com/example/concept_reasoner/conceptreasoner/completion/IntList", "isEmpty", "()Z"⟩ : MethodName)) hown (mvT hZ (own_g hw 13 rfl)) (mvT hZ (own_g hw 14 rfl)) (notFace_of_selects (args := #[]) (mvT hZ (own_g hw 16 rfl))) (mvT hZ (own_g hw 16 rfl)) (mvT hZ (own_g hw 15 rfl)) (by decide) (backOf (W := 0) (rm3 l Z a0 hw [] a69 (3 : Int32) T74.heap n0 Z74 fs74) hZ (own_g hw 17 rfl) (own_g hw 2 rfl) (by decide) (by decide)) qa75 qc75 (g := (mkF m 132 #[.val (.int p1), .val (.int p2), .val (.int p3), .val (.int p4), .val (.int p5), .val (.int (3 : Int32)), .val (.int (0 : Int32)), .val (.ref a69), .val (.int (1 : Int32)), .val (.int (0 : Int32))] [(.ref a69)])) rfl (by rw [hml]; rfl) (Steps.refl _) (argsL := []) (rest := []) (lenOf pd__28_29Z rfl) rfl (by show 2 * 0 + _ ≤ _; exact Nat.le_of_eq rfl) (hb hby at_132) (fun _ _ => ⟨rfl, rfl, (by decide : 2 + 0 ≤ _), (by decide : 6 + 0 ≤ _)⟩)
      dsimp only [Pt.U, Pt.locs, Pt.cells, Pt.slots] at X75 l75 y75 z75 st75 hQ75
      subst l75 y75 z75
      obtain ⟨rfl, Nq75, eq75⟩ := hQ75
      have N75 := Fr.app N74 Nq75
      refine own_trans st75 ?_
      show own_Ends p e below F (T75.setTop (mkF m 135 #[.val (.int p1), .val (.int p2), .val (.int p3), .val (.int p4), .val (.int p5), .val (.int (3 : Int32)), .val (.int (0 : Int32)), .val (.ref a69), .val (.int (1 : Int32)), .val (.int (0 : Int32))] [(.int (own_emp (3 : Int32)))]))
      rw [show (own_emp (3 : Int32)) = (0 : Int32) from (by first | rfl | decide)]
      show own_Ends p e below F (T75.setTop (mkF m 135 #[.val (.int p1), .val (.int p2), .val (.int p3), .val (.int p4), .val (.int p5), .val (.int (3 : Int32)), .val (.int (0 : Int32)), .val (.ref a69), .val (.int (1 : Int32)), .val (.int (0 : Int32))] [(.int (0 : Int32))]))
      refine own_step (fun _ k => XS.iload X75.here hx rfl (hb hby at_135) rfl k) ?_
      show own_Ends p e below F (T75.setTop (mkF m 137 #[.val (.int p1), .val (.int p2), .val (.int p3), .val (.int p4), .val (.int p5), .val (.int (3 : Int32)), .val (.int (0 : Int32)), .val (.ref a69), .val (.int (1 : Int32)), .val (.int (0 : Int32))] [(.int (0 : Int32)), (.int (0 : Int32))]))
      refine own_step (fun _ k => XS.icmpNo X75.here hx rfl (hb hby at_137) rfl (teq (by decide : (0 : Int32) = (0 : Int32))).2 k) ?_
      show own_Ends p e below F (T75.setTop (mkF m 140 #[.val (.int p1), .val (.int p2), .val (.int p3), .val (.int p4), .val (.int p5), .val (.int (3 : Int32)), .val (.int (0 : Int32)), .val (.ref a69), .val (.int (1 : Int32)), .val (.int (0 : Int32))] []))
      refine own_step (fun _ k => XS.iconst X75.here hx rfl (hb hby at_140) k) ?_
      show own_Ends p e below F (T75.setTop (mkF m 141 #[.val (.int p1), .val (.int p2), .val (.int p3), .val (.int p4), .val (.int p5), .val (.int (3 : Int32)), .val (.int (0 : Int32)), .val (.ref a69), .val (.int (1 : Int32)), .val (.int (0 : Int32))] [(.int (1 : Int32))]))
      refine own_step (fun _ k => XS.goto X75.here hx rfl (pc0 := 141) (pc' := 145) rfl (hb hby at_141) (by decide) (by decide) k) ?_
      show own_Ends p e below F (T75.setTop (mkF m 145 #[.val (.int p1), .val (.int p2), .val (.int p3), .val (.int p4), .val (.int p5), .val (.int (3 : Int32)), .val (.int (0 : Int32)), .val (.ref a69), .val (.int (1 : Int32)), .val (.int (0 : Int32))] [(.int (1 : Int32))]))
      rw [hF]
      exact own_ret X75 (v := (some (.int (nar .boolean (1 : Int32))))) (fun h => by rw [Bd.returns] at h; cases h) Bd.notSynchronized (fun fs hr => retN X75 hx (t := .boolean) Bd.returns (by simp) (hb hby at_145) hr) (by decide) (by decide) (by rw [eq75]; exact ⟨rfl, N75⟩)
    · rw [q10]
      show own_Ends p e below F (s₁.setTop (mkF m 10 #[.val (.int p1), .val (.int p2), .val (.int p3), .val (.int p4), .val (.int p5), .val (.int (3 : Int32)), .val (.int (1 : Int32)), .unset, .unset, .unset] []))
      refine own_step (fun _ k => XS.iload X0.here hx rfl (hb hby at_10) rfl k) ?_
      show own_Ends p e below F (s₁.setTop (mkF m 12 #[.val (.int p1), .val (.int p2), .val (.int p3), .val (.int p4), .val (.int p5), .val (.int (3 : Int32)), .val (.int (1 : Int32)), .unset, .unset, .unset] [(.int (1 : Int32))]))
      refine own_step (fun _ k => XS.iload X0.here hx rfl (hb hby at_12) rfl k) ?_
      show own_Ends p e below F (s₁.setTop (mkF m 14 #[.val (.int p1), .val (.int p2), .val (.int p3), .val (.int p4), .val (.int p5), .val (.int (3 : Int32)), .val (.int (1 : Int32)), .unset, .unset, .unset] [(.int (3 : Int32)), (.int (1 : Int32))]))
      refine own_step (fun _ k => XS.icmpYes X0.here hx rfl (pc0 := 14) (pc' := 21) rfl (hb hby at_14) rfl (flt (by decide : ¬ ((3 : Int32) < (1 : Int32)))).2.2.2 (by decide) (by decide) k) ?_
      show own_Ends p e below F (s₁.setTop (mkF m 21 #[.val (.int p1), .val (.int p2), .val (.int p3), .val (.int p4), .val (.int p5), .val (.int (3 : Int32)), .val (.int (1 : Int32)), .unset, .unset, .unset] []))
      obtain ⟨T76, h76, X76, e76, E76, A76, D76, -, st76⟩ := newO X0 hx hZ hown (own_g hw 0 rfl) (own_g hw 1 rfl) (own_g hw 2 rfl) e0 (g := (mkF m 21 #[.val (.int p1), .val (.int p2), .val (.int p3), .val (.int p4), .val (.int p5), .val (.int (3 : Int32)), .val (.int (1 : Int32)), .unset, .unset, .unset] [])) rfl (hb hby at_21) (by decide) (by decide)
      obtain ⟨a76, g76⟩ : ∃ z, z = h0.size := ⟨_, rfl⟩
      rw [← g76] at A76 D76 st76
      have ge_a76 : n0 ≤ a76 := Nat.le_trans Z0 (Nat.le_of_eq g76.symm)
      have sz_a76 : h0.size ≤ a76 := Nat.le_trans (Nat.le_refl h0.size) (Nat.le_of_eq g76.symm)
      have ne_nn_a76 : nn ≠ a76 := Nat.ne_of_lt (by rw [g76]; exact VN.lt)
      have Z76 : n0 ≤ h76.size := Nat.le_trans Z0 E76.1
      have SZ76 : h0.size ≤ h76.size := Nat.le_trans (Nat.le_refl h0.size) E76.1
      have F76_values : Fld Z h76 a76 "com/example/concept_reasoner/conceptreasoner/completion/IntList" "values" "[I" .null := D76 (Or.inl (own_g hw 12 rfl)) (ty := (.array .int)) (by decide)
      have F76_size : Fld Z h76 a76 "com/example/concept_reasoner/conceptreasoner/completion/IntList" "size" "I" (.int (0 : Int32)) := D76 (Or.inl (own_g hw 19 rfl)) (ty := .int) (by decide)
      refine own_step st76 ?_
      show own_Ends p e below F (T76.setTop (mkF m 24 #[.val (.int p1), .val (.int p2), .val (.int p3), .val (.int p4), .val (.int p5), .val (.int (3 : Int32)), .val (.int (1 : Int32)), .unset, .unset, .unset] [(.ref a76)]))
      refine own_step (fun _ k => XS.dup X76.here hx rfl (hb hby at_24) rfl rfl k) ?_
      show own_Ends p e below F (T76.setTop (mkF m 25 #[.val (.int p1), .val (.int p2), .val (.int p3), .val (.int p4), .val (.int p5), .val (.int (3 : Int32)), .val (.int (1 : Int32)), .unset, .unset, .unset] [(.ref a76), (.ref a76)]))
      obtain ⟨_, _, ⟨T77, L77, k77, n77⟩, -, X77, ⟨Lc77, hQ77, l77, y77, z77⟩, st77⟩ := X76.specialBack hx (y := (⟨"com/example/concept_reasoner/conceptreasoner/completion/IntList", "<init>", "()V"⟩ : MethodName)) rfl hown (mvT hZ (own_g hw 3 rfl)) (mvT hZ (own_g hw 4 rfl)) (mvT hZ (own_g hw 5 rfl)) (by decide) (backOf (W := 1) (rm1 l Z a0 hw [] a76 nn h76 n0 Z76 A76 ge_a76 F76_values F76_size (Sta.ext E76 SN)) hZ (own_g hw 5 rfl) (own_g hw 2 rfl) (by decide) (by decide)) (g := (mkF m 25 #[.val (.int p1), .val (.int p2), .val (.int p3), .val (.int p4), .val (.int p5), .val (.int (3 : Int32)), .val (.int (1 : Int32)), .unset, .unset, .unset] [(.ref a76), (.ref a76)])) rfl (by rw [hml]; rfl) (Steps.refl _) (a := a76) (argsL := []) (rest := [(.ref a76)]) (lenOf pd__28_29V rfl) rfl (by show 2 * 0 + _ ≤ _; exact Nat.le_of_eq rfl) (hb hby at_25) (fun _ _ => ⟨rfl, e76, (by decide : 1 + 0 ≤ _), (by decide : 2 + 0 ≤ _)⟩)
      dsimp only [Pt.U, Pt.locs, Pt.cells, Pt.slots] at X77 l77 y77 z77 st77 hQ77
      subst l77 y77 z77
      obtain ⟨rfl, Nq77, Kq77, fq0_77, fq1_77, fq2_77⟩ := hQ77
      have N77 := Fr.app N0 Nq77
      have Z77 : n0 ≤ T77.heap.size := Nat.le_trans Z76 Kq77.1
      have SZ77 : h0.size ≤ T77.heap.size := Nat.le_trans SZ76 Kq77.1
      have S0_77 := own_Sta_keep (Sta.ext E76 SN) Kq77 (allS (own_ns_exa A76) all0)
      refine own_trans st77 ?_
      show own_Ends p e below F (T77.setTop (mkF m 28 #[.val (.int p1), .val (.int p2), .val (.int p3), .val (.int p4), .val (.int p5), .val (.int (3 : Int32)), .val (.int (1 : Int32)), .unset, .unset, .unset] [(.ref a76)]))
      refine own_step (fun _ k => XS.astore X77.here hx rfl (hb hby at_28) rfl rfl (l' := #[.val (.int p1), .val (.int p2), .val (.int p3), .val (.int p4), .val (.int p5), .val (.int (3 : Int32)), .val (.int (1 : Int32)), .val (.ref a76), .unset, .unset]) rfl k) ?_
      show own_Ends p e below F (T77.setTop (mkF m 30 #[.val (.int p1), .val (.int p2), .val (.int p3), .val (.int p4), .val (.int p5), .val (.int (3 : Int32)), .val (.int (1 : Int32)), .val (.ref a76), .unset, .unset] []))
      refine own_step (fun _ k => XS.aload X77.here hx rfl (hb hby at_30) rfl rfl k) ?_
      show own_Ends p e below F (T77.setTop (mkF m 32 #[.val (.int p1), .val (.int p2), .val (.int p3), .val (.int p4), .val (.int p5), .val (.int (3 : Int32)), .val (.int (1 : Int32)), .val (.ref a76), .unset, .unset] [(.ref a76)]))
      obtain ⟨cq78, kq78, qa78, qb78, qc78⟩ := isOf hZ rfl fq0_77
      obtain ⟨_, _, ⟨T78, L78, k78, n78⟩, -, X78, ⟨Lc78, hQ78, l78, y78, z78⟩, st78⟩ := X77.virtualBack hx (y := (⟨"com/example/concept_reasoner/conceptreasoner/completion/IntList", "isEmpty", "()Z"⟩ : MethodName)) (z := (⟨"com/example/concept_reasoner/conceptreasoner/completion/IntList", "isEmpty", "()Z"⟩ : MethodName)) hown (mvT hZ (own_g hw 13 rfl)) (mvT hZ (own_g hw 14 rfl)) (notFace_of_selects (args := #[]) (mvT hZ (own_g hw 16 rfl))) (mvT hZ (own_g hw 16 rfl)) (mvT hZ (own_g hw 15 rfl)) (by decide) (backOf (W := 0) (rm3 l Z a0 hw [] a76 (0 : Int32) T77.heap n0 Z77 fq2_77) hZ (own_g hw 17 rfl) (own_g hw 2 rfl) (by decide) (by decide)) qa78 qc78 (g := (mkF m 32 #[.val (.int p1), .val (.int p2), .val (.int p3), .val (.int p4), .val (.int p5), .val (.int (3 : Int32)), .val (.int (1 : Int32)), .val (.ref a76), .unset, .unset] [(.ref a76)])) rfl (by rw [hml]; rfl) (Steps.refl _) (argsL := []) (rest := []) (lenOf pd__28_29Z rfl) rfl (by show 2 * 0 + _ ≤ _; exact Nat.le_of_eq rfl) (hb hby at_32) (fun _ _ => ⟨rfl, rfl, (by decide : 1 + 0 ≤ _), (by decide : 2 + 0 ≤ _)⟩)
      dsimp only [Pt.U, Pt.locs, Pt.cells, Pt.slots] at X78 l78 y78 z78 st78 hQ78
      subst l78 y78 z78
      obtain ⟨rfl, Nq78, eq78⟩ := hQ78
      have N78 := Fr.app N77 Nq78
      refine own_trans st78 ?_
      show own_Ends p e below F (T78.setTop (mkF m 35 #[.val (.int p1), .val (.int p2), .val (.int p3), .val (.int p4), .val (.int p5), .val (.int (3 : Int32)), .val (.int (1 : Int32)), .val (.ref a76), .unset, .unset] [(.int (own_emp (0 : Int32)))]))
      rw [show (own_emp (0 : Int32)) = (1 : Int32) from (by first | rfl | decide)]
      show own_Ends p e below F (T78.setTop (mkF m 35 #[.val (.int p1), .val (.int p2), .val (.int p3), .val (.int p4), .val (.int p5), .val (.int (3 : Int32)), .val (.int (1 : Int32)), .val (.ref a76), .unset, .unset] [(.int (1 : Int32))]))
      refine own_step (fun _ k => XS.istore X78.here hx rfl (hb hby at_35) rfl (l' := #[.val (.int p1), .val (.int p2), .val (.int p3), .val (.int p4), .val (.int p5), .val (.int (3 : Int32)), .val (.int (1 : Int32)), .val (.ref a76), .val (.int (1 : Int32)), .unset]) rfl k) ?_
      show own_Ends p e below F (T78.setTop (mkF m 37 #[.val (.int p1), .val (.int p2), .val (.int p3), .val (.int p4), .val (.int p5), .val (.int (3 : Int32)), .val (.int (1 : Int32)), .val (.ref a76), .val (.int (1 : Int32)), .unset] []))
      refine own_step (fun _ k => XS.iload X78.here hx rfl (hb hby at_37) rfl k) ?_
      show own_Ends p e below F (T78.setTop (mkF m 39 #[.val (.int p1), .val (.int p2), .val (.int p3), .val (.int p4), .val (.int p5), .val (.int (3 : Int32)), .val (.int (1 : Int32)), .val (.ref a76), .val (.int (1 : Int32)), .unset] [(.int (3 : Int32))]))
      refine own_step (fun _ k => XS.iconst X78.here hx rfl (hb hby at_39) k) ?_
      show own_Ends p e below F (T78.setTop (mkF m 40 #[.val (.int p1), .val (.int p2), .val (.int p3), .val (.int p4), .val (.int p5), .val (.int (3 : Int32)), .val (.int (1 : Int32)), .val (.ref a76), .val (.int (1 : Int32)), .unset] [(.int (1 : Int32)), (.int (3 : Int32))]))
      refine own_step (fun _ k => XS.icmpNo X78.here hx rfl (hb hby at_40) rfl (flt (by decide : ¬ ((3 : Int32) < (1 : Int32)))).1 k) ?_
      show own_Ends p e below F (T78.setTop (mkF m 43 #[.val (.int p1), .val (.int p2), .val (.int p3), .val (.int p4), .val (.int p5), .val (.int (3 : Int32)), .val (.int (1 : Int32)), .val (.ref a76), .val (.int (1 : Int32)), .unset] []))
      refine own_step (fun _ k => XS.aload X78.here hx rfl (hb hby at_43) rfl rfl k) ?_
      show own_Ends p e below F (T78.setTop (mkF m 45 #[.val (.int p1), .val (.int p2), .val (.int p3), .val (.int p4), .val (.int p5), .val (.int (3 : Int32)), .val (.int (1 : Int32)), .val (.ref a76), .val (.int (1 : Int32)), .unset] [(.ref a76)]))
      refine own_step (fun _ k => XS.iloadN X78.here hx rfl (hb hby at_45) rfl k) ?_
      show own_Ends p e below F (T78.setTop (mkF m 46 #[.val (.int p1), .val (.int p2), .val (.int p3), .val (.int p4), .val (.int p5), .val (.int (3 : Int32)), .val (.int (1 : Int32)), .val (.ref a76), .val (.int (1 : Int32)), .unset] [(.int p3), (.ref a76)]))
      obtain ⟨cq79, kq79, qa79, qb79, qc79⟩ := isOf hZ eq78 fq0_77
      obtain ⟨_, _, ⟨T79, L79, k79, n79⟩, -, X79, ⟨Lc79, hQ79, l79, y79, z79⟩, st79⟩ := X78.virtualBack hx (y := (⟨"com/example/concept_reasoner/conceptreasoner/completion/IntList", "add", "(I)V"⟩ : MethodName)) (z := (⟨"com/example/concept_reasoner/conceptreasoner/completion/IntList", "add", "(I)V"⟩ : MethodName)) hown (mvT hZ (own_g hw 20 rfl)) (mvT hZ (own_g hw 21 rfl)) (notFace_of_selects (args := #[]) (mvT hZ (own_g hw 23 rfl))) (mvT hZ (own_g hw 23 rfl)) (mvT hZ (own_g hw 22 rfl)) (by decide) (backOf (W := 0) (rm4a l Z a0 hw [] a76 nn p3 kN T77.heap n0 Z77 fq0_77 ge_a76 fq2_77 fq1_77 ((VN.ext E76).keep Kq77 (ninS ne_nn_a76 nin0)) ne_nn_a76) hZ (own_g hw 24 rfl) (own_g hw 2 rfl) (by decide) (by decide)) qa79 qc79 (g := (mkF m 46 #[.val (.int p1), .val (.int p2), .val (.int p3), .val (.int p4), .val (.int p5), .val (.int (3 : Int32)), .val (.int (1 : Int32)), .val (.ref a76), .val (.int (1 : Int32)), .unset] [(.int p3), (.ref a76)])) rfl (by rw [hml]; rfl) (Steps.refl _) (argsL := [(.int p3)]) (rest := []) (lenOf pd__28I_29V rfl) rfl (by show 2 * 0 + _ ≤ _; exact Nat.le_of_eq rfl) (hb hby at_46) (fun _ _ => ⟨rfl, eq78, (by decide : 1 + 1 ≤ _), (by decide : 2 + 4 ≤ _)⟩)
      dsimp only [Pt.U, Pt.locs, Pt.cells, Pt.slots] at X79 l79 y79 z79 st79 hQ79
      subst l79 y79 z79
      obtain ⟨c79, kc79, rfl, Nq79, Kq79, fq0_79, fq1_79, fq2_79, fq3_79, fq4_79⟩ := hQ79
      have N79 := Fr.app N78 Nq79
      have Z79 : n0 ≤ T79.heap.size := Nat.le_trans Z77 Kq79.1
      have SZ79 : h0.size ≤ T79.heap.size := Nat.le_trans SZ77 Kq79.1
      have S0_79 := own_Sta_keep S0_77 Kq79 (allS (own_ns_exa fq0_77) all0)
      have ne_nn_c79 : nn ≠ c79 := Nat.ne_of_lt (Nat.lt_of_lt_of_le (((VN.ext E76).keep Kq77 (ninS ne_nn_a76 nin0))).lt fq0_79)
      have ne_a76_c79 : a76 ≠ c79 := Nat.ne_of_lt (Nat.lt_of_lt_of_le (fq1_77).lt fq0_79)
      have ge_c79 : n0 ≤ c79 := Nat.le_trans Z77 fq0_79
      have sz_c79 : h0.size ≤ c79 := Nat.le_trans SZ77 fq0_79
      refine own_trans st79 ?_
      show own_Ends p e below F (T79.setTop (mkF m 49 #[.val (.int p1), .val (.int p2), .val (.int p3), .val (.int p4), .val (.int p5), .val (.int (3 : Int32)), .val (.int (1 : Int32)), .val (.ref a76), .val (.int (1 : Int32)), .unset] []))
      refine own_step (fun _ k => XS.iload X79.here hx rfl (hb hby at_49) rfl k) ?_
      show own_Ends p e below F (T79.setTop (mkF m 51 #[.val (.int p1), .val (.int p2), .val (.int p3), .val (.int p4), .val (.int p5), .val (.int (3 : Int32)), .val (.int (1 : Int32)), .val (.ref a76), .val (.int (1 : Int32)), .unset] [(.int (3 : Int32))]))
      refine own_step (fun _ k => XS.iconst X79.here hx rfl (hb hby at_51) k) ?_
      show own_Ends p e below F (T79.setTop (mkF m 52 #[.val (.int p1), .val (.int p2), .val (.int p3), .val (.int p4), .val (.int p5), .val (.int (3 : Int32)), .val (.int (1 : Int32)), .val (.ref a76), .val (.int (1 : Int32)), .unset] [(.int (2 : Int32)), (.int (3 : Int32))]))
      refine own_step (fun _ k => XS.icmpNo X79.here hx rfl (hb hby at_52) rfl (flt (by decide : ¬ ((3 : Int32) < (2 : Int32)))).1 k) ?_
      show own_Ends p e below F (T79.setTop (mkF m 55 #[.val (.int p1), .val (.int p2), .val (.int p3), .val (.int p4), .val (.int p5), .val (.int (3 : Int32)), .val (.int (1 : Int32)), .val (.ref a76), .val (.int (1 : Int32)), .unset] []))
      refine own_step (fun _ k => XS.aload X79.here hx rfl (hb hby at_55) rfl rfl k) ?_
      show own_Ends p e below F (T79.setTop (mkF m 57 #[.val (.int p1), .val (.int p2), .val (.int p3), .val (.int p4), .val (.int p5), .val (.int (3 : Int32)), .val (.int (1 : Int32)), .val (.ref a76), .val (.int (1 : Int32)), .unset] [(.ref a76)]))
      refine own_step (fun _ k => XS.iloadN X79.here hx rfl (hb hby at_57) rfl k) ?_
      show own_Ends p e below F (T79.setTop (mkF m 58 #[.val (.int p1), .val (.int p2), .val (.int p3), .val (.int p4), .val (.int p5), .val (.int (3 : Int32)), .val (.int (1 : Int32)), .val (.ref a76), .val (.int (1 : Int32)), .unset] [(.int p4), (.ref a76)]))
      obtain ⟨cq80, kq80, qa80, qb80, qc80⟩ := isOf hZ rfl fq1_79
      obtain ⟨_, _, ⟨T80, L80, k80, n80⟩, -, X80, ⟨Lc80, hQ80, l80, y80, z80⟩, st80⟩ := X79.virtualBack hx (y := (⟨"com/example/concept_reasoner/conceptreasoner/completion/IntList", "add", "(I)V"⟩ : MethodName)) (z := (⟨"com/example/concept_reasoner/conceptreasoner/completion/IntList", "add", "(I)V"⟩ : MethodName)) hown (mvT hZ (own_g hw 20 rfl)) (mvT hZ (own_g hw 21 rfl)) (notFace_of_selects (args := #[]) (mvT hZ (own_g hw 23 rfl))) (mvT hZ (own_g hw 23 rfl)) (mvT hZ (own_g hw 22 rfl)) (by decide) (backOf (W := 0) (rm4b l Z a0 hw [] a76 c79 p4 (1 : Int32) kc79 [(.int p3), (.int (0 : Int32)), (.int (0 : Int32)), (.int (0 : Int32))] T79.heap n0 Z79 fq1_79 ge_a76 fq2_79 fq3_79 fq4_79 (Ne.symm ne_a76_c79) ge_c79 (by decide) ⟨by decide, by decide⟩ (Nat.le_of_ble_eq_true rfl)) hZ (own_g hw 24 rfl) (own_g hw 2 rfl) (by decide) (by decide)) qa80 qc80 (g := (mkF m 58 #[.val (.int p1), .val (.int p2), .val (.int p3), .val (.int p4), .val (.int p5), .val (.int (3 : Int32)), .val (.int (1 : Int32)), .val (.ref a76), .val (.int (1 : Int32)), .unset] [(.int p4), (.ref a76)])) rfl (by rw [hml]; rfl) (Steps.refl _) (argsL := [(.int p4)]) (rest := []) (lenOf pd__28I_29V rfl) rfl (by show 2 * 0 + _ ≤ _; exact Nat.le_of_eq rfl) (hb hby at_58) (fun _ _ => ⟨rfl, rfl, (by decide : 2 + 0 ≤ _), (by decide : 6 + 0 ≤ _)⟩)
      dsimp only [Pt.U, Pt.locs, Pt.cells, Pt.slots] at X80 l80 y80 z80 st80 hQ80
      subst l80 y80 z80
      obtain ⟨rfl, Nq80, Kq80, fq0_80, fq1_80, fq2_80, fq3_80⟩ := hQ80
      have N80 := Fr.app N79 Nq80
      have Z80 : n0 ≤ T80.heap.size := Nat.le_trans Z79 Kq80.1
      have SZ80 : h0.size ≤ T80.heap.size := Nat.le_trans SZ79 Kq80.1
      have S0_80 := own_Sta_keep S0_79 Kq80 (allS (own_ns_exa fq1_79) (allS (own_ns_arv fq4_79) all0))
      have fs80 : Fld Z T80.heap a76 "com/example/concept_reasoner/conceptreasoner/completion/IntList" "size" "I" (.int (2 : Int32)) := fq1_80
      have fv80 : Arv Z T80.heap c79 kc79 .int (4 : Int32) [(.int p3), (.int p4), (.int (0 : Int32)), (.int (0 : Int32))] (.int (0 : Int32)) := fq3_80
      refine own_trans st80 ?_
      show own_Ends p e below F (T80.setTop (mkF m 61 #[.val (.int p1), .val (.int p2), .val (.int p3), .val (.int p4), .val (.int p5), .val (.int (3 : Int32)), .val (.int (1 : Int32)), .val (.ref a76), .val (.int (1 : Int32)), .unset] []))
      refine own_step (fun _ k => XS.iload X80.here hx rfl (hb hby at_61) rfl k) ?_
      show own_Ends p e below F (T80.setTop (mkF m 63 #[.val (.int p1), .val (.int p2), .val (.int p3), .val (.int p4), .val (.int p5), .val (.int (3 : Int32)), .val (.int (1 : Int32)), .val (.ref a76), .val (.int (1 : Int32)), .unset] [(.int (3 : Int32))]))
      refine own_step (fun _ k => XS.iconst X80.here hx rfl (hb hby at_63) k) ?_
      show own_Ends p e below F (T80.setTop (mkF m 64 #[.val (.int p1), .val (.int p2), .val (.int p3), .val (.int p4), .val (.int p5), .val (.int (3 : Int32)), .val (.int (1 : Int32)), .val (.ref a76), .val (.int (1 : Int32)), .unset] [(.int (3 : Int32)), (.int (3 : Int32))]))
      refine own_step (fun _ k => XS.icmpNo X80.here hx rfl (hb hby at_64) rfl (flt (by decide : ¬ ((3 : Int32) < (3 : Int32)))).1 k) ?_
      show own_Ends p e below F (T80.setTop (mkF m 67 #[.val (.int p1), .val (.int p2), .val (.int p3), .val (.int p4), .val (.int p5), .val (.int (3 : Int32)), .val (.int (1 : Int32)), .val (.ref a76), .val (.int (1 : Int32)), .unset] []))
      refine own_step (fun _ k => XS.aload X80.here hx rfl (hb hby at_67) rfl rfl k) ?_
      show own_Ends p e below F (T80.setTop (mkF m 69 #[.val (.int p1), .val (.int p2), .val (.int p3), .val (.int p4), .val (.int p5), .val (.int (3 : Int32)), .val (.int (1 : Int32)), .val (.ref a76), .val (.int (1 : Int32)), .unset] [(.ref a76)]))
      refine own_step (fun _ k => XS.iload X80.here hx rfl (hb hby at_69) rfl k) ?_
      show own_Ends p e below F (T80.setTop (mkF m 71 #[.val (.int p1), .val (.int p2), .val (.int p3), .val (.int p4), .val (.int p5), .val (.int (3 : Int32)), .val (.int (1 : Int32)), .val (.ref a76), .val (.int (1 : Int32)), .unset] [(.int p5), (.ref a76)]))
      obtain ⟨cq81, kq81, qa81, qb81, qc81⟩ := isOf hZ rfl fq0_80
      obtain ⟨_, _, ⟨T81, L81, k81, n81⟩, -, X81, ⟨Lc81, hQ81, l81, y81, z81⟩, st81⟩ := X80.virtualBack hx (y := (⟨"com/example/concept_reasoner/conceptreasoner/completion/IntList", "add", "(I)V"⟩ : MethodName)) (z := (⟨"com/example/concept_reasoner/conceptreasoner/completion/IntList", "add", "(I)V"⟩ : MethodName)) hown (mvT hZ (own_g hw 20 rfl)) (mvT hZ (own_g hw 21 rfl)) (notFace_of_selects (args := #[]) (mvT hZ (own_g hw 23 rfl))) (mvT hZ (own_g hw 23 rfl)) (mvT hZ (own_g hw 22 rfl)) (by decide) (backOf (W := 0) (rm4b l Z a0 hw [] a76 c79 p5 (2 : Int32) kc79 [(.int p3), (.int p4), (.int (0 : Int32)), (.int (0 : Int32))] T80.heap n0 Z80 fq0_80 ge_a76 fs80 fq2_80 fv80 (Ne.symm ne_a76_c79) ge_c79 (by decide) ⟨by decide, by decide⟩ (Nat.le_of_ble_eq_true rfl)) hZ (own_g hw 24 rfl) (own_g hw 2 rfl) (by decide) (by decide)) qa81 qc81 (g := (mkF m 71 #[.val (.int p1), .val (.int p2), .val (.int p3), .val (.int p4), .val (.int p5), .val (.int (3 : Int32)), .val (.int (1 : Int32)), .val (.ref a76), .val (.int (1 : Int32)), .unset] [(.int p5), (.ref a76)])) rfl (by rw [hml]; rfl) (Steps.refl _) (argsL := [(.int p5)]) (rest := []) (lenOf pd__28I_29V rfl) rfl (by show 2 * 0 + _ ≤ _; exact Nat.le_of_eq rfl) (hb hby at_71) (fun _ _ => ⟨rfl, rfl, (by decide : 2 + 0 ≤ _), (by decide : 6 + 0 ≤ _)⟩)
      dsimp only [Pt.U, Pt.locs, Pt.cells, Pt.slots] at X81 l81 y81 z81 st81 hQ81
      subst l81 y81 z81
      obtain ⟨rfl, Nq81, Kq81, fq0_81, fq1_81, fq2_81, fq3_81⟩ := hQ81
      have N81 := Fr.app N80 Nq81
      have Z81 : n0 ≤ T81.heap.size := Nat.le_trans Z80 Kq81.1
      have SZ81 : h0.size ≤ T81.heap.size := Nat.le_trans SZ80 Kq81.1
      have S0_81 := own_Sta_keep S0_80 Kq81 (allS (own_ns_exa fq0_80) (allS (own_ns_arv fv80) all0))
      have fs81 : Fld Z T81.heap a76 "com/example/concept_reasoner/conceptreasoner/completion/IntList" "size" "I" (.int (3 : Int32)) := fq1_81
      have fv81 : Arv Z T81.heap c79 kc79 .int (4 : Int32) [(.int p3), (.int p4), (.int p5), (.int (0 : Int32))] (.int (0 : Int32)) := fq3_81
      refine own_trans st81 ?_
      show own_Ends p e below F (T81.setTop (mkF m 74 #[.val (.int p1), .val (.int p2), .val (.int p3), .val (.int p4), .val (.int p5), .val (.int (3 : Int32)), .val (.int (1 : Int32)), .val (.ref a76), .val (.int (1 : Int32)), .unset] []))
      refine own_step (fun _ k => XS.iload X81.here hx rfl (hb hby at_74) rfl k) ?_
      show own_Ends p e below F (T81.setTop (mkF m 76 #[.val (.int p1), .val (.int p2), .val (.int p3), .val (.int p4), .val (.int p5), .val (.int (3 : Int32)), .val (.int (1 : Int32)), .val (.ref a76), .val (.int (1 : Int32)), .unset] [(.int (1 : Int32))]))
      refine own_step (fun _ k => XS.iconst X81.here hx rfl (hb hby at_76) k) ?_
      show own_Ends p e below F (T81.setTop (mkF m 77 #[.val (.int p1), .val (.int p2), .val (.int p3), .val (.int p4), .val (.int p5), .val (.int (3 : Int32)), .val (.int (1 : Int32)), .val (.ref a76), .val (.int (1 : Int32)), .unset] [(.int (1 : Int32)), (.int (1 : Int32))]))
      refine own_step (fun _ k => XS.icmpNo X81.here hx rfl (hb hby at_77) rfl (flt (by decide : ¬ ((1 : Int32) < (1 : Int32)))).1 k) ?_
      show own_Ends p e below F (T81.setTop (mkF m 80 #[.val (.int p1), .val (.int p2), .val (.int p3), .val (.int p4), .val (.int p5), .val (.int (3 : Int32)), .val (.int (1 : Int32)), .val (.ref a76), .val (.int (1 : Int32)), .unset] []))
      refine own_step (fun _ k => XS.aload X81.here hx rfl (hb hby at_80) rfl rfl k) ?_
      show own_Ends p e below F (T81.setTop (mkF m 82 #[.val (.int p1), .val (.int p2), .val (.int p3), .val (.int p4), .val (.int p5), .val (.int (3 : Int32)), .val (.int (1 : Int32)), .val (.ref a76), .val (.int (1 : Int32)), .unset] [(.ref a76)]))
      obtain ⟨cq82, kq82, qa82, qb82, qc82⟩ := isOf hZ rfl fq0_81
      obtain ⟨_, _, ⟨T82, L82, k82, n82⟩, -, X82, ⟨Lc82, hQ82, l82, y82, z82⟩, st82⟩ := X81.virtualBack hx (y := (⟨"com/example/concept_reasoner/conceptreasoner/completion/IntList", "removeLast", "()I"⟩ : MethodName)) (z := (⟨"com/example/concept_reasoner/conceptreasoner/completion/IntList", "removeLast", "()I"⟩ : MethodName)) hown (mvT hZ (own_g hw 41 rfl)) (mvT hZ (own_g hw 42 rfl)) (notFace_of_selects (args := #[]) (mvT hZ (own_g hw 44 rfl))) (mvT hZ (own_g hw 44 rfl)) (mvT hZ (own_g hw 43 rfl)) (by decide) (backOf (W := 0) (rm8 l Z a0 hw [] a76 c79 (3 : Int32) p5 kc79 [(.int p3), (.int p4), (.int p5), (.int (0 : Int32))] T81.heap n0 Z81 fq0_81 ge_a76 fs81 fq2_81 fv81 (Ne.symm ne_a76_c79) (by decide) ⟨by decide, by decide⟩ rfl) hZ (own_g hw 45 rfl) (own_g hw 2 rfl) (by decide) (by decide)) qa82 qc82 (g := (mkF m 82 #[.val (.int p1), .val (.int p2), .val (.int p3), .val (.int p4), .val (.int p5), .val (.int (3 : Int32)), .val (.int (1 : Int32)), .val (.ref a76), .val (.int (1 : Int32)), .unset] [(.ref a76)])) rfl (by rw [hml]; rfl) (Steps.refl _) (argsL := []) (rest := []) (lenOf pd__28_29I rfl) rfl (by show 2 * 0 + _ ≤ _; exact Nat.le_of_eq rfl) (hb hby at_82) (fun _ _ => ⟨rfl, rfl, (by decide : 2 + 0 ≤ _), (by decide : 6 + 0 ≤ _)⟩)
      dsimp only [Pt.U, Pt.locs, Pt.cells, Pt.slots] at X82 l82 y82 z82 st82 hQ82
      subst l82 y82 z82
      obtain ⟨rfl, Nq82, Kq82, fq0_82, fq1_82, fq2_82⟩ := hQ82
      have N82 := Fr.app N81 Nq82
      have Z82 : n0 ≤ T82.heap.size := Nat.le_trans Z81 Kq82.1
      have SZ82 : h0.size ≤ T82.heap.size := Nat.le_trans SZ81 Kq82.1
      have S0_82 := own_Sta_keep S0_81 Kq82 (allS (own_ns_exa fq0_81) all0)
      have fs82 : Fld Z T82.heap a76 "com/example/concept_reasoner/conceptreasoner/completion/IntList" "size" "I" (.int (2 : Int32)) := fq1_82
      refine own_trans st82 ?_
      show own_Ends p e below F (T82.setTop (mkF m 85 #[.val (.int p1), .val (.int p2), .val (.int p3), .val (.int p4), .val (.int p5), .val (.int (3 : Int32)), .val (.int (1 : Int32)), .val (.ref a76), .val (.int (1 : Int32)), .unset] [(.int p5)]))
      refine own_step (fun _ k => XS.pop X82.here hx rfl (hb hby at_85) rfl rfl k) ?_
      show own_Ends p e below F (T82.setTop (mkF m 86 #[.val (.int p1), .val (.int p2), .val (.int p3), .val (.int p4), .val (.int p5), .val (.int (3 : Int32)), .val (.int (1 : Int32)), .val (.ref a76), .val (.int (1 : Int32)), .unset] []))
      refine own_step (fun _ k => XS.iload X82.here hx rfl (hb hby at_86) rfl k) ?_
      show own_Ends p e below F (T82.setTop (mkF m 88 #[.val (.int p1), .val (.int p2), .val (.int p3), .val (.int p4), .val (.int p5), .val (.int (3 : Int32)), .val (.int (1 : Int32)), .val (.ref a76), .val (.int (1 : Int32)), .unset] [(.int (1 : Int32))]))
      refine own_step (fun _ k => XS.iconst X82.here hx rfl (hb hby at_88) k) ?_
      show own_Ends p e below F (T82.setTop (mkF m 89 #[.val (.int p1), .val (.int p2), .val (.int p3), .val (.int p4), .val (.int p5), .val (.int (3 : Int32)), .val (.int (1 : Int32)), .val (.ref a76), .val (.int (1 : Int32)), .unset] [(.int (2 : Int32)), (.int (1 : Int32))]))
      refine own_step (fun _ k => XS.icmpYes X82.here hx rfl (pc0 := 89) (pc' := 98) rfl (hb hby at_89) rfl (tlt (by decide : (1 : Int32) < (2 : Int32))).1 (by decide) (by decide) k) ?_
      show own_Ends p e below F (T82.setTop (mkF m 98 #[.val (.int p1), .val (.int p2), .val (.int p3), .val (.int p4), .val (.int p5), .val (.int (3 : Int32)), .val (.int (1 : Int32)), .val (.ref a76), .val (.int (1 : Int32)), .unset] []))
      refine own_step (fun _ k => XS.iload X82.here hx rfl (hb hby at_98) rfl k) ?_
      show own_Ends p e below F (T82.setTop (mkF m 100 #[.val (.int p1), .val (.int p2), .val (.int p3), .val (.int p4), .val (.int p5), .val (.int (3 : Int32)), .val (.int (1 : Int32)), .val (.ref a76), .val (.int (1 : Int32)), .unset] [(.int (1 : Int32))]))
      refine own_step (fun _ k => XS.iconst X82.here hx rfl (hb hby at_100) k) ?_
      show own_Ends p e below F (T82.setTop (mkF m 101 #[.val (.int p1), .val (.int p2), .val (.int p3), .val (.int p4), .val (.int p5), .val (.int (3 : Int32)), .val (.int (1 : Int32)), .val (.ref a76), .val (.int (1 : Int32)), .unset] [(.int (3 : Int32)), (.int (1 : Int32))]))
      refine own_step (fun _ k => XS.icmpYes X82.here hx rfl (pc0 := 101) (pc' := 110) rfl (hb hby at_101) rfl (tlt (by decide : (1 : Int32) < (3 : Int32))).1 (by decide) (by decide) k) ?_
      show own_Ends p e below F (T82.setTop (mkF m 110 #[.val (.int p1), .val (.int p2), .val (.int p3), .val (.int p4), .val (.int p5), .val (.int (3 : Int32)), .val (.int (1 : Int32)), .val (.ref a76), .val (.int (1 : Int32)), .unset] []))
      refine own_step (fun _ k => XS.iload X82.here hx rfl (hb hby at_110) rfl k) ?_
      show own_Ends p e below F (T82.setTop (mkF m 112 #[.val (.int p1), .val (.int p2), .val (.int p3), .val (.int p4), .val (.int p5), .val (.int (3 : Int32)), .val (.int (1 : Int32)), .val (.ref a76), .val (.int (1 : Int32)), .unset] [(.int (3 : Int32))]))
      refine own_step (fun _ k => XS.iload X82.here hx rfl (hb hby at_112) rfl k) ?_
      show own_Ends p e below F (T82.setTop (mkF m 114 #[.val (.int p1), .val (.int p2), .val (.int p3), .val (.int p4), .val (.int p5), .val (.int (3 : Int32)), .val (.int (1 : Int32)), .val (.ref a76), .val (.int (1 : Int32)), .unset] [(.int (1 : Int32)), (.int (3 : Int32))]))
      refine own_step (fun _ k => XS.isub X82.here hx rfl (hb hby at_114) rfl k) ?_
      show own_Ends p e below F (T82.setTop (mkF m 115 #[.val (.int p1), .val (.int p2), .val (.int p3), .val (.int p4), .val (.int p5), .val (.int (3 : Int32)), .val (.int (1 : Int32)), .val (.ref a76), .val (.int (1 : Int32)), .unset] [(.int (2 : Int32))]))
      refine own_step (fun _ k => XS.ifYes X82.here hx rfl (pc0 := 115) (pc' := 122) rfl (hb hby at_115) rfl ((if0 _ _).trans (feq (by decide : ¬ ((2 : Int32) = (0 : Int32)))).2) (by decide) (by decide) k) ?_
      show own_Ends p e below F (T82.setTop (mkF m 122 #[.val (.int p1), .val (.int p2), .val (.int p3), .val (.int p4), .val (.int p5), .val (.int (3 : Int32)), .val (.int (1 : Int32)), .val (.ref a76), .val (.int (1 : Int32)), .unset] []))
      refine own_step (fun _ k => XS.iconst X82.here hx rfl (hb hby at_122) k) ?_
      show own_Ends p e below F (T82.setTop (mkF m 123 #[.val (.int p1), .val (.int p2), .val (.int p3), .val (.int p4), .val (.int p5), .val (.int (3 : Int32)), .val (.int (1 : Int32)), .val (.ref a76), .val (.int (1 : Int32)), .unset] [(.int (0 : Int32))]))
      refine own_step (fun _ k => XS.istore X82.here hx rfl (hb hby at_123) rfl (l' := #[.val (.int p1), .val (.int p2), .val (.int p3), .val (.int p4), .val (.int p5), .val (.int (3 : Int32)), .val (.int (1 : Int32)), .val (.ref a76), .val (.int (1 : Int32)), .val (.int (0 : Int32))]) rfl k) ?_
      show own_Ends p e below F (T82.setTop (mkF m 125 #[.val (.int p1), .val (.int p2), .val (.int p3), .val (.int p4), .val (.int p5), .val (.int (3 : Int32)), .val (.int (1 : Int32)), .val (.ref a76), .val (.int (1 : Int32)), .val (.int (0 : Int32))] []))
      refine own_step (fun _ k => XS.iload X82.here hx rfl (hb hby at_125) rfl k) ?_
      show own_Ends p e below F (T82.setTop (mkF m 127 #[.val (.int p1), .val (.int p2), .val (.int p3), .val (.int p4), .val (.int p5), .val (.int (3 : Int32)), .val (.int (1 : Int32)), .val (.ref a76), .val (.int (1 : Int32)), .val (.int (0 : Int32))] [(.int (1 : Int32))]))
      refine own_step (fun _ k => XS.ifNo X82.here hx rfl (hb hby at_127) rfl ((if0 _ _).trans (feq (by decide : ¬ ((1 : Int32) = (0 : Int32)))).1) k) ?_
      show own_Ends p e below F (T82.setTop (mkF m 130 #[.val (.int p1), .val (.int p2), .val (.int p3), .val (.int p4), .val (.int p5), .val (.int (3 : Int32)), .val (.int (1 : Int32)), .val (.ref a76), .val (.int (1 : Int32)), .val (.int (0 : Int32))] []))
      refine own_step (fun _ k => XS.aload X82.here hx rfl (hb hby at_130) rfl rfl k) ?_
      show own_Ends p e below F (T82.setTop (mkF m 132 #[.val (.int p1), .val (.int p2), .val (.int p3), .val (.int p4), .val (.int p5), .val (.int (3 : Int32)), .val (.int (1 : Int32)), .val (.ref a76), .val (.int (1 : Int32)), .val (.int (0 : Int32))] [(.ref a76)]))
      obtain ⟨cq83, kq83, qa83, qb83, qc83⟩ := isOf hZ rfl fq0_82
      obtain ⟨_, _, ⟨T83, L83, k83, n83⟩, -, X83, ⟨Lc83, hQ83, l83, y83, z83⟩, st83⟩ := X82.virtualBack hx (y := (⟨"com/example/concept_reasoner/conceptreasoner/completion/IntList", "isEmpty", "()Z"⟩ : MethodName)) (z := (⟨"com/example/concept_reasoner/conceptreasoner/completion/IntList", "isEmpty", "()Z"⟩ : MethodName)) hown (mvT hZ (own_g hw 13 rfl)) (mvT hZ (own_g hw 14 rfl)) (notFace_of_selects (args := #[]) (mvT hZ (own_g hw 16 rfl))) (mvT hZ (own_g hw 16 rfl)) (mvT hZ (own_g hw 15 rfl)) (by decide) (backOf (W := 0) (rm3 l Z a0 hw [] a76 (2 : Int32) T82.heap n0 Z82 fs82) hZ (own_g hw 17 rfl) (own_g hw 2 rfl) (by decide) (by decide)) qa83 qc83 (g := (mkF m 132 #[.val (.int p1), .val (.int p2), .val (.int p3), .val (.int p4), .val (.int p5), .val (.int (3 : Int32)), .val (.int (1 : Int32)), .val (.ref a76), .val (.int (1 : Int32)), .val (.int (0 : Int32))] [(.ref a76)])) rfl (by rw [hml]; rfl) (Steps.refl _) (argsL := []) (rest := []) (lenOf pd__28_29Z rfl) rfl (by show 2 * 0 + _ ≤ _; exact Nat.le_of_eq rfl) (hb hby at_132) (fun _ _ => ⟨rfl, rfl, (by decide : 2 + 0 ≤ _), (by decide : 6 + 0 ≤ _)⟩)
      dsimp only [Pt.U, Pt.locs, Pt.cells, Pt.slots] at X83 l83 y83 z83 st83 hQ83
      subst l83 y83 z83
      obtain ⟨rfl, Nq83, eq83⟩ := hQ83
      have N83 := Fr.app N82 Nq83
      refine own_trans st83 ?_
      show own_Ends p e below F (T83.setTop (mkF m 135 #[.val (.int p1), .val (.int p2), .val (.int p3), .val (.int p4), .val (.int p5), .val (.int (3 : Int32)), .val (.int (1 : Int32)), .val (.ref a76), .val (.int (1 : Int32)), .val (.int (0 : Int32))] [(.int (own_emp (2 : Int32)))]))
      rw [show (own_emp (2 : Int32)) = (0 : Int32) from (by first | rfl | decide)]
      show own_Ends p e below F (T83.setTop (mkF m 135 #[.val (.int p1), .val (.int p2), .val (.int p3), .val (.int p4), .val (.int p5), .val (.int (3 : Int32)), .val (.int (1 : Int32)), .val (.ref a76), .val (.int (1 : Int32)), .val (.int (0 : Int32))] [(.int (0 : Int32))]))
      refine own_step (fun _ k => XS.iload X83.here hx rfl (hb hby at_135) rfl k) ?_
      show own_Ends p e below F (T83.setTop (mkF m 137 #[.val (.int p1), .val (.int p2), .val (.int p3), .val (.int p4), .val (.int p5), .val (.int (3 : Int32)), .val (.int (1 : Int32)), .val (.ref a76), .val (.int (1 : Int32)), .val (.int (0 : Int32))] [(.int (0 : Int32)), (.int (0 : Int32))]))
      refine own_step (fun _ k => XS.icmpNo X83.here hx rfl (hb hby at_137) rfl (teq (by decide : (0 : Int32) = (0 : Int32))).2 k) ?_
      show own_Ends p e below F (T83.setTop (mkF m 140 #[.val (.int p1), .val (.int p2), .val (.int p3), .val (.int p4), .val (.int p5), .val (.int (3 : Int32)), .val (.int (1 : Int32)), .val (.ref a76), .val (.int (1 : Int32)), .val (.int (0 : Int32))] []))
      refine own_step (fun _ k => XS.iconst X83.here hx rfl (hb hby at_140) k) ?_
      show own_Ends p e below F (T83.setTop (mkF m 141 #[.val (.int p1), .val (.int p2), .val (.int p3), .val (.int p4), .val (.int p5), .val (.int (3 : Int32)), .val (.int (1 : Int32)), .val (.ref a76), .val (.int (1 : Int32)), .val (.int (0 : Int32))] [(.int (1 : Int32))]))
      refine own_step (fun _ k => XS.goto X83.here hx rfl (pc0 := 141) (pc' := 145) rfl (hb hby at_141) (by decide) (by decide) k) ?_
      show own_Ends p e below F (T83.setTop (mkF m 145 #[.val (.int p1), .val (.int p2), .val (.int p3), .val (.int p4), .val (.int p5), .val (.int (3 : Int32)), .val (.int (1 : Int32)), .val (.ref a76), .val (.int (1 : Int32)), .val (.int (0 : Int32))] [(.int (1 : Int32))]))
      rw [hF]
      exact own_ret X83 (v := (some (.int (nar .boolean (1 : Int32))))) (fun h => by rw [Bd.returns] at h; cases h) Bd.notSynchronized (fun fs hr => retN X83 hx (t := .boolean) Bd.returns (by simp) (hb hby at_145) hr) (by decide) (by decide) (by rw [eq83]; exact ⟨rfl, N83⟩)
    · rw [q10]
      show own_Ends p e below F (s₁.setTop (mkF m 10 #[.val (.int p1), .val (.int p2), .val (.int p3), .val (.int p4), .val (.int p5), .val (.int (3 : Int32)), .val (.int (2 : Int32)), .unset, .unset, .unset] []))
      refine own_step (fun _ k => XS.iload X0.here hx rfl (hb hby at_10) rfl k) ?_
      show own_Ends p e below F (s₁.setTop (mkF m 12 #[.val (.int p1), .val (.int p2), .val (.int p3), .val (.int p4), .val (.int p5), .val (.int (3 : Int32)), .val (.int (2 : Int32)), .unset, .unset, .unset] [(.int (2 : Int32))]))
      refine own_step (fun _ k => XS.iload X0.here hx rfl (hb hby at_12) rfl k) ?_
      show own_Ends p e below F (s₁.setTop (mkF m 14 #[.val (.int p1), .val (.int p2), .val (.int p3), .val (.int p4), .val (.int p5), .val (.int (3 : Int32)), .val (.int (2 : Int32)), .unset, .unset, .unset] [(.int (3 : Int32)), (.int (2 : Int32))]))
      refine own_step (fun _ k => XS.icmpYes X0.here hx rfl (pc0 := 14) (pc' := 21) rfl (hb hby at_14) rfl (flt (by decide : ¬ ((3 : Int32) < (2 : Int32)))).2.2.2 (by decide) (by decide) k) ?_
      show own_Ends p e below F (s₁.setTop (mkF m 21 #[.val (.int p1), .val (.int p2), .val (.int p3), .val (.int p4), .val (.int p5), .val (.int (3 : Int32)), .val (.int (2 : Int32)), .unset, .unset, .unset] []))
      obtain ⟨T84, h84, X84, e84, E84, A84, D84, -, st84⟩ := newO X0 hx hZ hown (own_g hw 0 rfl) (own_g hw 1 rfl) (own_g hw 2 rfl) e0 (g := (mkF m 21 #[.val (.int p1), .val (.int p2), .val (.int p3), .val (.int p4), .val (.int p5), .val (.int (3 : Int32)), .val (.int (2 : Int32)), .unset, .unset, .unset] [])) rfl (hb hby at_21) (by decide) (by decide)
      obtain ⟨a84, g84⟩ : ∃ z, z = h0.size := ⟨_, rfl⟩
      rw [← g84] at A84 D84 st84
      have ge_a84 : n0 ≤ a84 := Nat.le_trans Z0 (Nat.le_of_eq g84.symm)
      have sz_a84 : h0.size ≤ a84 := Nat.le_trans (Nat.le_refl h0.size) (Nat.le_of_eq g84.symm)
      have ne_nn_a84 : nn ≠ a84 := Nat.ne_of_lt (by rw [g84]; exact VN.lt)
      have Z84 : n0 ≤ h84.size := Nat.le_trans Z0 E84.1
      have SZ84 : h0.size ≤ h84.size := Nat.le_trans (Nat.le_refl h0.size) E84.1
      have F84_values : Fld Z h84 a84 "com/example/concept_reasoner/conceptreasoner/completion/IntList" "values" "[I" .null := D84 (Or.inl (own_g hw 12 rfl)) (ty := (.array .int)) (by decide)
      have F84_size : Fld Z h84 a84 "com/example/concept_reasoner/conceptreasoner/completion/IntList" "size" "I" (.int (0 : Int32)) := D84 (Or.inl (own_g hw 19 rfl)) (ty := .int) (by decide)
      refine own_step st84 ?_
      show own_Ends p e below F (T84.setTop (mkF m 24 #[.val (.int p1), .val (.int p2), .val (.int p3), .val (.int p4), .val (.int p5), .val (.int (3 : Int32)), .val (.int (2 : Int32)), .unset, .unset, .unset] [(.ref a84)]))
      refine own_step (fun _ k => XS.dup X84.here hx rfl (hb hby at_24) rfl rfl k) ?_
      show own_Ends p e below F (T84.setTop (mkF m 25 #[.val (.int p1), .val (.int p2), .val (.int p3), .val (.int p4), .val (.int p5), .val (.int (3 : Int32)), .val (.int (2 : Int32)), .unset, .unset, .unset] [(.ref a84), (.ref a84)]))
      obtain ⟨_, _, ⟨T85, L85, k85, n85⟩, -, X85, ⟨Lc85, hQ85, l85, y85, z85⟩, st85⟩ := X84.specialBack hx (y := (⟨"com/example/concept_reasoner/conceptreasoner/completion/IntList", "<init>", "()V"⟩ : MethodName)) rfl hown (mvT hZ (own_g hw 3 rfl)) (mvT hZ (own_g hw 4 rfl)) (mvT hZ (own_g hw 5 rfl)) (by decide) (backOf (W := 1) (rm1 l Z a0 hw [] a84 nn h84 n0 Z84 A84 ge_a84 F84_values F84_size (Sta.ext E84 SN)) hZ (own_g hw 5 rfl) (own_g hw 2 rfl) (by decide) (by decide)) (g := (mkF m 25 #[.val (.int p1), .val (.int p2), .val (.int p3), .val (.int p4), .val (.int p5), .val (.int (3 : Int32)), .val (.int (2 : Int32)), .unset, .unset, .unset] [(.ref a84), (.ref a84)])) rfl (by rw [hml]; rfl) (Steps.refl _) (a := a84) (argsL := []) (rest := [(.ref a84)]) (lenOf pd__28_29V rfl) rfl (by show 2 * 0 + _ ≤ _; exact Nat.le_of_eq rfl) (hb hby at_25) (fun _ _ => ⟨rfl, e84, (by decide : 1 + 0 ≤ _), (by decide : 2 + 0 ≤ _)⟩)
      dsimp only [Pt.U, Pt.locs, Pt.cells, Pt.slots] at X85 l85 y85 z85 st85 hQ85
      subst l85 y85 z85
      obtain ⟨rfl, Nq85, Kq85, fq0_85, fq1_85, fq2_85⟩ := hQ85
      have N85 := Fr.app N0 Nq85
      have Z85 : n0 ≤ T85.heap.size := Nat.le_trans Z84 Kq85.1
      have SZ85 : h0.size ≤ T85.heap.size := Nat.le_trans SZ84 Kq85.1
      have S0_85 := own_Sta_keep (Sta.ext E84 SN) Kq85 (allS (own_ns_exa A84) all0)
      refine own_trans st85 ?_
      show own_Ends p e below F (T85.setTop (mkF m 28 #[.val (.int p1), .val (.int p2), .val (.int p3), .val (.int p4), .val (.int p5), .val (.int (3 : Int32)), .val (.int (2 : Int32)), .unset, .unset, .unset] [(.ref a84)]))
      refine own_step (fun _ k => XS.astore X85.here hx rfl (hb hby at_28) rfl rfl (l' := #[.val (.int p1), .val (.int p2), .val (.int p3), .val (.int p4), .val (.int p5), .val (.int (3 : Int32)), .val (.int (2 : Int32)), .val (.ref a84), .unset, .unset]) rfl k) ?_
      show own_Ends p e below F (T85.setTop (mkF m 30 #[.val (.int p1), .val (.int p2), .val (.int p3), .val (.int p4), .val (.int p5), .val (.int (3 : Int32)), .val (.int (2 : Int32)), .val (.ref a84), .unset, .unset] []))
      refine own_step (fun _ k => XS.aload X85.here hx rfl (hb hby at_30) rfl rfl k) ?_
      show own_Ends p e below F (T85.setTop (mkF m 32 #[.val (.int p1), .val (.int p2), .val (.int p3), .val (.int p4), .val (.int p5), .val (.int (3 : Int32)), .val (.int (2 : Int32)), .val (.ref a84), .unset, .unset] [(.ref a84)]))
      obtain ⟨cq86, kq86, qa86, qb86, qc86⟩ := isOf hZ rfl fq0_85
      obtain ⟨_, _, ⟨T86, L86, k86, n86⟩, -, X86, ⟨Lc86, hQ86, l86, y86, z86⟩, st86⟩ := X85.virtualBack hx (y := (⟨"com/example/concept_reasoner/conceptreasoner/completion/IntList", "isEmpty", "()Z"⟩ : MethodName)) (z := (⟨"com/example/concept_reasoner/conceptreasoner/completion/IntList", "isEmpty", "()Z"⟩ : MethodName)) hown (mvT hZ (own_g hw 13 rfl)) (mvT hZ (own_g hw 14 rfl)) (notFace_of_selects (args := #[]) (mvT hZ (own_g hw 16 rfl))) (mvT hZ (own_g hw 16 rfl)) (mvT hZ (own_g hw 15 rfl)) (by decide) (backOf (W := 0) (rm3 l Z a0 hw [] a84 (0 : Int32) T85.heap n0 Z85 fq2_85) hZ (own_g hw 17 rfl) (own_g hw 2 rfl) (by decide) (by decide)) qa86 qc86 (g := (mkF m 32 #[.val (.int p1), .val (.int p2), .val (.int p3), .val (.int p4), .val (.int p5), .val (.int (3 : Int32)), .val (.int (2 : Int32)), .val (.ref a84), .unset, .unset] [(.ref a84)])) rfl (by rw [hml]; rfl) (Steps.refl _) (argsL := []) (rest := []) (lenOf pd__28_29Z rfl) rfl (by show 2 * 0 + _ ≤ _; exact Nat.le_of_eq rfl) (hb hby at_32) (fun _ _ => ⟨rfl, rfl, (by decide : 1 + 0 ≤ _), (by decide : 2 + 0 ≤ _)⟩)
      dsimp only [Pt.U, Pt.locs, Pt.cells, Pt.slots] at X86 l86 y86 z86 st86 hQ86
      subst l86 y86 z86
      obtain ⟨rfl, Nq86, eq86⟩ := hQ86
      have N86 := Fr.app N85 Nq86
      refine own_trans st86 ?_
      show own_Ends p e below F (T86.setTop (mkF m 35 #[.val (.int p1), .val (.int p2), .val (.int p3), .val (.int p4), .val (.int p5), .val (.int (3 : Int32)), .val (.int (2 : Int32)), .val (.ref a84), .unset, .unset] [(.int (own_emp (0 : Int32)))]))
      rw [show (own_emp (0 : Int32)) = (1 : Int32) from (by first | rfl | decide)]
      show own_Ends p e below F (T86.setTop (mkF m 35 #[.val (.int p1), .val (.int p2), .val (.int p3), .val (.int p4), .val (.int p5), .val (.int (3 : Int32)), .val (.int (2 : Int32)), .val (.ref a84), .unset, .unset] [(.int (1 : Int32))]))
      refine own_step (fun _ k => XS.istore X86.here hx rfl (hb hby at_35) rfl (l' := #[.val (.int p1), .val (.int p2), .val (.int p3), .val (.int p4), .val (.int p5), .val (.int (3 : Int32)), .val (.int (2 : Int32)), .val (.ref a84), .val (.int (1 : Int32)), .unset]) rfl k) ?_
      show own_Ends p e below F (T86.setTop (mkF m 37 #[.val (.int p1), .val (.int p2), .val (.int p3), .val (.int p4), .val (.int p5), .val (.int (3 : Int32)), .val (.int (2 : Int32)), .val (.ref a84), .val (.int (1 : Int32)), .unset] []))
      refine own_step (fun _ k => XS.iload X86.here hx rfl (hb hby at_37) rfl k) ?_
      show own_Ends p e below F (T86.setTop (mkF m 39 #[.val (.int p1), .val (.int p2), .val (.int p3), .val (.int p4), .val (.int p5), .val (.int (3 : Int32)), .val (.int (2 : Int32)), .val (.ref a84), .val (.int (1 : Int32)), .unset] [(.int (3 : Int32))]))
      refine own_step (fun _ k => XS.iconst X86.here hx rfl (hb hby at_39) k) ?_
      show own_Ends p e below F (T86.setTop (mkF m 40 #[.val (.int p1), .val (.int p2), .val (.int p3), .val (.int p4), .val (.int p5), .val (.int (3 : Int32)), .val (.int (2 : Int32)), .val (.ref a84), .val (.int (1 : Int32)), .unset] [(.int (1 : Int32)), (.int (3 : Int32))]))
      refine own_step (fun _ k => XS.icmpNo X86.here hx rfl (hb hby at_40) rfl (flt (by decide : ¬ ((3 : Int32) < (1 : Int32)))).1 k) ?_
      show own_Ends p e below F (T86.setTop (mkF m 43 #[.val (.int p1), .val (.int p2), .val (.int p3), .val (.int p4), .val (.int p5), .val (.int (3 : Int32)), .val (.int (2 : Int32)), .val (.ref a84), .val (.int (1 : Int32)), .unset] []))
      refine own_step (fun _ k => XS.aload X86.here hx rfl (hb hby at_43) rfl rfl k) ?_
      show own_Ends p e below F (T86.setTop (mkF m 45 #[.val (.int p1), .val (.int p2), .val (.int p3), .val (.int p4), .val (.int p5), .val (.int (3 : Int32)), .val (.int (2 : Int32)), .val (.ref a84), .val (.int (1 : Int32)), .unset] [(.ref a84)]))
      refine own_step (fun _ k => XS.iloadN X86.here hx rfl (hb hby at_45) rfl k) ?_
      show own_Ends p e below F (T86.setTop (mkF m 46 #[.val (.int p1), .val (.int p2), .val (.int p3), .val (.int p4), .val (.int p5), .val (.int (3 : Int32)), .val (.int (2 : Int32)), .val (.ref a84), .val (.int (1 : Int32)), .unset] [(.int p3), (.ref a84)]))
      obtain ⟨cq87, kq87, qa87, qb87, qc87⟩ := isOf hZ eq86 fq0_85
      obtain ⟨_, _, ⟨T87, L87, k87, n87⟩, -, X87, ⟨Lc87, hQ87, l87, y87, z87⟩, st87⟩ := X86.virtualBack hx (y := (⟨"com/example/concept_reasoner/conceptreasoner/completion/IntList", "add", "(I)V"⟩ : MethodName)) (z := (⟨"com/example/concept_reasoner/conceptreasoner/completion/IntList", "add", "(I)V"⟩ : MethodName)) hown (mvT hZ (own_g hw 20 rfl)) (mvT hZ (own_g hw 21 rfl)) (notFace_of_selects (args := #[]) (mvT hZ (own_g hw 23 rfl))) (mvT hZ (own_g hw 23 rfl)) (mvT hZ (own_g hw 22 rfl)) (by decide) (backOf (W := 0) (rm4a l Z a0 hw [] a84 nn p3 kN T85.heap n0 Z85 fq0_85 ge_a84 fq2_85 fq1_85 ((VN.ext E84).keep Kq85 (ninS ne_nn_a84 nin0)) ne_nn_a84) hZ (own_g hw 24 rfl) (own_g hw 2 rfl) (by decide) (by decide)) qa87 qc87 (g := (mkF m 46 #[.val (.int p1), .val (.int p2), .val (.int p3), .val (.int p4), .val (.int p5), .val (.int (3 : Int32)), .val (.int (2 : Int32)), .val (.ref a84), .val (.int (1 : Int32)), .unset] [(.int p3), (.ref a84)])) rfl (by rw [hml]; rfl) (Steps.refl _) (argsL := [(.int p3)]) (rest := []) (lenOf pd__28I_29V rfl) rfl (by show 2 * 0 + _ ≤ _; exact Nat.le_of_eq rfl) (hb hby at_46) (fun _ _ => ⟨rfl, eq86, (by decide : 1 + 1 ≤ _), (by decide : 2 + 4 ≤ _)⟩)
      dsimp only [Pt.U, Pt.locs, Pt.cells, Pt.slots] at X87 l87 y87 z87 st87 hQ87
      subst l87 y87 z87
      obtain ⟨c87, kc87, rfl, Nq87, Kq87, fq0_87, fq1_87, fq2_87, fq3_87, fq4_87⟩ := hQ87
      have N87 := Fr.app N86 Nq87
      have Z87 : n0 ≤ T87.heap.size := Nat.le_trans Z85 Kq87.1
      have SZ87 : h0.size ≤ T87.heap.size := Nat.le_trans SZ85 Kq87.1
      have S0_87 := own_Sta_keep S0_85 Kq87 (allS (own_ns_exa fq0_85) all0)
      have ne_nn_c87 : nn ≠ c87 := Nat.ne_of_lt (Nat.lt_of_lt_of_le (((VN.ext E84).keep Kq85 (ninS ne_nn_a84 nin0))).lt fq0_87)
      have ne_a84_c87 : a84 ≠ c87 := Nat.ne_of_lt (Nat.lt_of_lt_of_le (fq1_85).lt fq0_87)
      have ge_c87 : n0 ≤ c87 := Nat.le_trans Z85 fq0_87
      have sz_c87 : h0.size ≤ c87 := Nat.le_trans SZ85 fq0_87
      refine own_trans st87 ?_
      show own_Ends p e below F (T87.setTop (mkF m 49 #[.val (.int p1), .val (.int p2), .val (.int p3), .val (.int p4), .val (.int p5), .val (.int (3 : Int32)), .val (.int (2 : Int32)), .val (.ref a84), .val (.int (1 : Int32)), .unset] []))
      refine own_step (fun _ k => XS.iload X87.here hx rfl (hb hby at_49) rfl k) ?_
      show own_Ends p e below F (T87.setTop (mkF m 51 #[.val (.int p1), .val (.int p2), .val (.int p3), .val (.int p4), .val (.int p5), .val (.int (3 : Int32)), .val (.int (2 : Int32)), .val (.ref a84), .val (.int (1 : Int32)), .unset] [(.int (3 : Int32))]))
      refine own_step (fun _ k => XS.iconst X87.here hx rfl (hb hby at_51) k) ?_
      show own_Ends p e below F (T87.setTop (mkF m 52 #[.val (.int p1), .val (.int p2), .val (.int p3), .val (.int p4), .val (.int p5), .val (.int (3 : Int32)), .val (.int (2 : Int32)), .val (.ref a84), .val (.int (1 : Int32)), .unset] [(.int (2 : Int32)), (.int (3 : Int32))]))
      refine own_step (fun _ k => XS.icmpNo X87.here hx rfl (hb hby at_52) rfl (flt (by decide : ¬ ((3 : Int32) < (2 : Int32)))).1 k) ?_
      show own_Ends p e below F (T87.setTop (mkF m 55 #[.val (.int p1), .val (.int p2), .val (.int p3), .val (.int p4), .val (.int p5), .val (.int (3 : Int32)), .val (.int (2 : Int32)), .val (.ref a84), .val (.int (1 : Int32)), .unset] []))
      refine own_step (fun _ k => XS.aload X87.here hx rfl (hb hby at_55) rfl rfl k) ?_
      show own_Ends p e below F (T87.setTop (mkF m 57 #[.val (.int p1), .val (.int p2), .val (.int p3), .val (.int p4), .val (.int p5), .val (.int (3 : Int32)), .val (.int (2 : Int32)), .val (.ref a84), .val (.int (1 : Int32)), .unset] [(.ref a84)]))
      refine own_step (fun _ k => XS.iloadN X87.here hx rfl (hb hby at_57) rfl k) ?_
      show own_Ends p e below F (T87.setTop (mkF m 58 #[.val (.int p1), .val (.int p2), .val (.int p3), .val (.int p4), .val (.int p5), .val (.int (3 : Int32)), .val (.int (2 : Int32)), .val (.ref a84), .val (.int (1 : Int32)), .unset] [(.int p4), (.ref a84)]))
      obtain ⟨cq88, kq88, qa88, qb88, qc88⟩ := isOf hZ rfl fq1_87
      obtain ⟨_, _, ⟨T88, L88, k88, n88⟩, -, X88, ⟨Lc88, hQ88, l88, y88, z88⟩, st88⟩ := X87.virtualBack hx (y := (⟨"com/example/concept_reasoner/conceptreasoner/completion/IntList", "add", "(I)V"⟩ : MethodName)) (z := (⟨"com/example/concept_reasoner/conceptreasoner/completion/IntList", "add", "(I)V"⟩ : MethodName)) hown (mvT hZ (own_g hw 20 rfl)) (mvT hZ (own_g hw 21 rfl)) (notFace_of_selects (args := #[]) (mvT hZ (own_g hw 23 rfl))) (mvT hZ (own_g hw 23 rfl)) (mvT hZ (own_g hw 22 rfl)) (by decide) (backOf (W := 0) (rm4b l Z a0 hw [] a84 c87 p4 (1 : Int32) kc87 [(.int p3), (.int (0 : Int32)), (.int (0 : Int32)), (.int (0 : Int32))] T87.heap n0 Z87 fq1_87 ge_a84 fq2_87 fq3_87 fq4_87 (Ne.symm ne_a84_c87) ge_c87 (by decide) ⟨by decide, by decide⟩ (Nat.le_of_ble_eq_true rfl)) hZ (own_g hw 24 rfl) (own_g hw 2 rfl) (by decide) (by decide)) qa88 qc88 (g := (mkF m 58 #[.val (.int p1), .val (.int p2), .val (.int p3), .val (.int p4), .val (.int p5), .val (.int (3 : Int32)), .val (.int (2 : Int32)), .val (.ref a84), .val (.int (1 : Int32)), .unset] [(.int p4), (.ref a84)])) rfl (by rw [hml]; rfl) (Steps.refl _) (argsL := [(.int p4)]) (rest := []) (lenOf pd__28I_29V rfl) rfl (by show 2 * 0 + _ ≤ _; exact Nat.le_of_eq rfl) (hb hby at_58) (fun _ _ => ⟨rfl, rfl, (by decide : 2 + 0 ≤ _), (by decide : 6 + 0 ≤ _)⟩)
      dsimp only [Pt.U, Pt.locs, Pt.cells, Pt.slots] at X88 l88 y88 z88 st88 hQ88
      subst l88 y88 z88
      obtain ⟨rfl, Nq88, Kq88, fq0_88, fq1_88, fq2_88, fq3_88⟩ := hQ88
      have N88 := Fr.app N87 Nq88
      have Z88 : n0 ≤ T88.heap.size := Nat.le_trans Z87 Kq88.1
      have SZ88 : h0.size ≤ T88.heap.size := Nat.le_trans SZ87 Kq88.1
      have S0_88 := own_Sta_keep S0_87 Kq88 (allS (own_ns_exa fq1_87) (allS (own_ns_arv fq4_87) all0))
      have fs88 : Fld Z T88.heap a84 "com/example/concept_reasoner/conceptreasoner/completion/IntList" "size" "I" (.int (2 : Int32)) := fq1_88
      have fv88 : Arv Z T88.heap c87 kc87 .int (4 : Int32) [(.int p3), (.int p4), (.int (0 : Int32)), (.int (0 : Int32))] (.int (0 : Int32)) := fq3_88
      refine own_trans st88 ?_
      show own_Ends p e below F (T88.setTop (mkF m 61 #[.val (.int p1), .val (.int p2), .val (.int p3), .val (.int p4), .val (.int p5), .val (.int (3 : Int32)), .val (.int (2 : Int32)), .val (.ref a84), .val (.int (1 : Int32)), .unset] []))
      refine own_step (fun _ k => XS.iload X88.here hx rfl (hb hby at_61) rfl k) ?_
      show own_Ends p e below F (T88.setTop (mkF m 63 #[.val (.int p1), .val (.int p2), .val (.int p3), .val (.int p4), .val (.int p5), .val (.int (3 : Int32)), .val (.int (2 : Int32)), .val (.ref a84), .val (.int (1 : Int32)), .unset] [(.int (3 : Int32))]))
      refine own_step (fun _ k => XS.iconst X88.here hx rfl (hb hby at_63) k) ?_
      show own_Ends p e below F (T88.setTop (mkF m 64 #[.val (.int p1), .val (.int p2), .val (.int p3), .val (.int p4), .val (.int p5), .val (.int (3 : Int32)), .val (.int (2 : Int32)), .val (.ref a84), .val (.int (1 : Int32)), .unset] [(.int (3 : Int32)), (.int (3 : Int32))]))
      refine own_step (fun _ k => XS.icmpNo X88.here hx rfl (hb hby at_64) rfl (flt (by decide : ¬ ((3 : Int32) < (3 : Int32)))).1 k) ?_
      show own_Ends p e below F (T88.setTop (mkF m 67 #[.val (.int p1), .val (.int p2), .val (.int p3), .val (.int p4), .val (.int p5), .val (.int (3 : Int32)), .val (.int (2 : Int32)), .val (.ref a84), .val (.int (1 : Int32)), .unset] []))
      refine own_step (fun _ k => XS.aload X88.here hx rfl (hb hby at_67) rfl rfl k) ?_
      show own_Ends p e below F (T88.setTop (mkF m 69 #[.val (.int p1), .val (.int p2), .val (.int p3), .val (.int p4), .val (.int p5), .val (.int (3 : Int32)), .val (.int (2 : Int32)), .val (.ref a84), .val (.int (1 : Int32)), .unset] [(.ref a84)]))
      refine own_step (fun _ k => XS.iload X88.here hx rfl (hb hby at_69) rfl k) ?_
      show own_Ends p e below F (T88.setTop (mkF m 71 #[.val (.int p1), .val (.int p2), .val (.int p3), .val (.int p4), .val (.int p5), .val (.int (3 : Int32)), .val (.int (2 : Int32)), .val (.ref a84), .val (.int (1 : Int32)), .unset] [(.int p5), (.ref a84)]))
      obtain ⟨cq89, kq89, qa89, qb89, qc89⟩ := isOf hZ rfl fq0_88
      obtain ⟨_, _, ⟨T89, L89, k89, n89⟩, -, X89, ⟨Lc89, hQ89, l89, y89, z89⟩, st89⟩ := X88.virtualBack hx (y := (⟨"com/example/concept_reasoner/conceptreasoner/completion/IntList", "add", "(I)V"⟩ : MethodName)) (z := (⟨"com/example/concept_reasoner/conceptreasoner/completion/IntList", "add", "(I)V"⟩ : MethodName)) hown (mvT hZ (own_g hw 20 rfl)) (mvT hZ (own_g hw 21 rfl)) (notFace_of_selects (args := #[]) (mvT hZ (own_g hw 23 rfl))) (mvT hZ (own_g hw 23 rfl)) (mvT hZ (own_g hw 22 rfl)) (by decide) (backOf (W := 0) (rm4b l Z a0 hw [] a84 c87 p5 (2 : Int32) kc87 [(.int p3), (.int p4), (.int (0 : Int32)), (.int (0 : Int32))] T88.heap n0 Z88 fq0_88 ge_a84 fs88 fq2_88 fv88 (Ne.symm ne_a84_c87) ge_c87 (by decide) ⟨by decide, by decide⟩ (Nat.le_of_ble_eq_true rfl)) hZ (own_g hw 24 rfl) (own_g hw 2 rfl) (by decide) (by decide)) qa89 qc89 (g := (mkF m 71 #[.val (.int p1), .val (.int p2), .val (.int p3), .val (.int p4), .val (.int p5), .val (.int (3 : Int32)), .val (.int (2 : Int32)), .val (.ref a84), .val (.int (1 : Int32)), .unset] [(.int p5), (.ref a84)])) rfl (by rw [hml]; rfl) (Steps.refl _) (argsL := [(.int p5)]) (rest := []) (lenOf pd__28I_29V rfl) rfl (by show 2 * 0 + _ ≤ _; exact Nat.le_of_eq rfl) (hb hby at_71) (fun _ _ => ⟨rfl, rfl, (by decide : 2 + 0 ≤ _), (by decide : 6 + 0 ≤ _)⟩)
      dsimp only [Pt.U, Pt.locs, Pt.cells, Pt.slots] at X89 l89 y89 z89 st89 hQ89
      subst l89 y89 z89
      obtain ⟨rfl, Nq89, Kq89, fq0_89, fq1_89, fq2_89, fq3_89⟩ := hQ89
      have N89 := Fr.app N88 Nq89
      have Z89 : n0 ≤ T89.heap.size := Nat.le_trans Z88 Kq89.1
      have SZ89 : h0.size ≤ T89.heap.size := Nat.le_trans SZ88 Kq89.1
      have S0_89 := own_Sta_keep S0_88 Kq89 (allS (own_ns_exa fq0_88) (allS (own_ns_arv fv88) all0))
      have fs89 : Fld Z T89.heap a84 "com/example/concept_reasoner/conceptreasoner/completion/IntList" "size" "I" (.int (3 : Int32)) := fq1_89
      have fv89 : Arv Z T89.heap c87 kc87 .int (4 : Int32) [(.int p3), (.int p4), (.int p5), (.int (0 : Int32))] (.int (0 : Int32)) := fq3_89
      refine own_trans st89 ?_
      show own_Ends p e below F (T89.setTop (mkF m 74 #[.val (.int p1), .val (.int p2), .val (.int p3), .val (.int p4), .val (.int p5), .val (.int (3 : Int32)), .val (.int (2 : Int32)), .val (.ref a84), .val (.int (1 : Int32)), .unset] []))
      refine own_step (fun _ k => XS.iload X89.here hx rfl (hb hby at_74) rfl k) ?_
      show own_Ends p e below F (T89.setTop (mkF m 76 #[.val (.int p1), .val (.int p2), .val (.int p3), .val (.int p4), .val (.int p5), .val (.int (3 : Int32)), .val (.int (2 : Int32)), .val (.ref a84), .val (.int (1 : Int32)), .unset] [(.int (2 : Int32))]))
      refine own_step (fun _ k => XS.iconst X89.here hx rfl (hb hby at_76) k) ?_
      show own_Ends p e below F (T89.setTop (mkF m 77 #[.val (.int p1), .val (.int p2), .val (.int p3), .val (.int p4), .val (.int p5), .val (.int (3 : Int32)), .val (.int (2 : Int32)), .val (.ref a84), .val (.int (1 : Int32)), .unset] [(.int (1 : Int32)), (.int (2 : Int32))]))
      refine own_step (fun _ k => XS.icmpNo X89.here hx rfl (hb hby at_77) rfl (flt (by decide : ¬ ((2 : Int32) < (1 : Int32)))).1 k) ?_
      show own_Ends p e below F (T89.setTop (mkF m 80 #[.val (.int p1), .val (.int p2), .val (.int p3), .val (.int p4), .val (.int p5), .val (.int (3 : Int32)), .val (.int (2 : Int32)), .val (.ref a84), .val (.int (1 : Int32)), .unset] []))
      refine own_step (fun _ k => XS.aload X89.here hx rfl (hb hby at_80) rfl rfl k) ?_
      show own_Ends p e below F (T89.setTop (mkF m 82 #[.val (.int p1), .val (.int p2), .val (.int p3), .val (.int p4), .val (.int p5), .val (.int (3 : Int32)), .val (.int (2 : Int32)), .val (.ref a84), .val (.int (1 : Int32)), .unset] [(.ref a84)]))
      obtain ⟨cq90, kq90, qa90, qb90, qc90⟩ := isOf hZ rfl fq0_89
      obtain ⟨_, _, ⟨T90, L90, k90, n90⟩, -, X90, ⟨Lc90, hQ90, l90, y90, z90⟩, st90⟩ := X89.virtualBack hx (y := (⟨"com/example/concept_reasoner/conceptreasoner/completion/IntList", "removeLast", "()I"⟩ : MethodName)) (z := (⟨"com/example/concept_reasoner/conceptreasoner/completion/IntList", "removeLast", "()I"⟩ : MethodName)) hown (mvT hZ (own_g hw 41 rfl)) (mvT hZ (own_g hw 42 rfl)) (notFace_of_selects (args := #[]) (mvT hZ (own_g hw 44 rfl))) (mvT hZ (own_g hw 44 rfl)) (mvT hZ (own_g hw 43 rfl)) (by decide) (backOf (W := 0) (rm8 l Z a0 hw [] a84 c87 (3 : Int32) p5 kc87 [(.int p3), (.int p4), (.int p5), (.int (0 : Int32))] T89.heap n0 Z89 fq0_89 ge_a84 fs89 fq2_89 fv89 (Ne.symm ne_a84_c87) (by decide) ⟨by decide, by decide⟩ rfl) hZ (own_g hw 45 rfl) (own_g hw 2 rfl) (by decide) (by decide)) qa90 qc90 (g := (mkF m 82 #[.val (.int p1), .val (.int p2), .val (.int p3), .val (.int p4), .val (.int p5), .val (.int (3 : Int32)), .val (.int (2 : Int32)), .val (.ref a84), .val (.int (1 : Int32)), .unset] [(.ref a84)])) rfl (by rw [hml]; rfl) (Steps.refl _) (argsL := []) (rest := []) (lenOf pd__28_29I rfl) rfl (by show 2 * 0 + _ ≤ _; exact Nat.le_of_eq rfl) (hb hby at_82) (fun _ _ => ⟨rfl, rfl, (by decide : 2 + 0 ≤ _), (by decide : 6 + 0 ≤ _)⟩)
      dsimp only [Pt.U, Pt.locs, Pt.cells, Pt.slots] at X90 l90 y90 z90 st90 hQ90
      subst l90 y90 z90
      obtain ⟨rfl, Nq90, Kq90, fq0_90, fq1_90, fq2_90⟩ := hQ90
      have N90 := Fr.app N89 Nq90
      have Z90 : n0 ≤ T90.heap.size := Nat.le_trans Z89 Kq90.1
      have SZ90 : h0.size ≤ T90.heap.size := Nat.le_trans SZ89 Kq90.1
      have S0_90 := own_Sta_keep S0_89 Kq90 (allS (own_ns_exa fq0_89) all0)
      have fs90 : Fld Z T90.heap a84 "com/example/concept_reasoner/conceptreasoner/completion/IntList" "size" "I" (.int (2 : Int32)) := fq1_90
      refine own_trans st90 ?_
      show own_Ends p e below F (T90.setTop (mkF m 85 #[.val (.int p1), .val (.int p2), .val (.int p3), .val (.int p4), .val (.int p5), .val (.int (3 : Int32)), .val (.int (2 : Int32)), .val (.ref a84), .val (.int (1 : Int32)), .unset] [(.int p5)]))
      refine own_step (fun _ k => XS.pop X90.here hx rfl (hb hby at_85) rfl rfl k) ?_
      show own_Ends p e below F (T90.setTop (mkF m 86 #[.val (.int p1), .val (.int p2), .val (.int p3), .val (.int p4), .val (.int p5), .val (.int (3 : Int32)), .val (.int (2 : Int32)), .val (.ref a84), .val (.int (1 : Int32)), .unset] []))
      refine own_step (fun _ k => XS.iload X90.here hx rfl (hb hby at_86) rfl k) ?_
      show own_Ends p e below F (T90.setTop (mkF m 88 #[.val (.int p1), .val (.int p2), .val (.int p3), .val (.int p4), .val (.int p5), .val (.int (3 : Int32)), .val (.int (2 : Int32)), .val (.ref a84), .val (.int (1 : Int32)), .unset] [(.int (2 : Int32))]))
      refine own_step (fun _ k => XS.iconst X90.here hx rfl (hb hby at_88) k) ?_
      show own_Ends p e below F (T90.setTop (mkF m 89 #[.val (.int p1), .val (.int p2), .val (.int p3), .val (.int p4), .val (.int p5), .val (.int (3 : Int32)), .val (.int (2 : Int32)), .val (.ref a84), .val (.int (1 : Int32)), .unset] [(.int (2 : Int32)), (.int (2 : Int32))]))
      refine own_step (fun _ k => XS.icmpNo X90.here hx rfl (hb hby at_89) rfl (flt (by decide : ¬ ((2 : Int32) < (2 : Int32)))).1 k) ?_
      show own_Ends p e below F (T90.setTop (mkF m 92 #[.val (.int p1), .val (.int p2), .val (.int p3), .val (.int p4), .val (.int p5), .val (.int (3 : Int32)), .val (.int (2 : Int32)), .val (.ref a84), .val (.int (1 : Int32)), .unset] []))
      refine own_step (fun _ k => XS.aload X90.here hx rfl (hb hby at_92) rfl rfl k) ?_
      show own_Ends p e below F (T90.setTop (mkF m 94 #[.val (.int p1), .val (.int p2), .val (.int p3), .val (.int p4), .val (.int p5), .val (.int (3 : Int32)), .val (.int (2 : Int32)), .val (.ref a84), .val (.int (1 : Int32)), .unset] [(.ref a84)]))
      obtain ⟨cq91, kq91, qa91, qb91, qc91⟩ := isOf hZ rfl fq0_90
      obtain ⟨_, _, ⟨T91, L91, k91, n91⟩, -, X91, ⟨Lc91, hQ91, l91, y91, z91⟩, st91⟩ := X90.virtualBack hx (y := (⟨"com/example/concept_reasoner/conceptreasoner/completion/IntList", "removeLast", "()I"⟩ : MethodName)) (z := (⟨"com/example/concept_reasoner/conceptreasoner/completion/IntList", "removeLast", "()I"⟩ : MethodName)) hown (mvT hZ (own_g hw 41 rfl)) (mvT hZ (own_g hw 42 rfl)) (notFace_of_selects (args := #[]) (mvT hZ (own_g hw 44 rfl))) (mvT hZ (own_g hw 44 rfl)) (mvT hZ (own_g hw 43 rfl)) (by decide) (backOf (W := 0) (rm8 l Z a0 hw [] a84 c87 (2 : Int32) p4 kc87 [(.int p3), (.int p4), (.int p5), (.int (0 : Int32))] T90.heap n0 Z90 fq0_90 ge_a84 fs90 fq2_90 (fv89.keep Kq90 (ninS (Ne.symm ne_a84_c87) nin0)) (Ne.symm ne_a84_c87) (by decide) ⟨by decide, by decide⟩ rfl) hZ (own_g hw 45 rfl) (own_g hw 2 rfl) (by decide) (by decide)) qa91 qc91 (g := (mkF m 94 #[.val (.int p1), .val (.int p2), .val (.int p3), .val (.int p4), .val (.int p5), .val (.int (3 : Int32)), .val (.int (2 : Int32)), .val (.ref a84), .val (.int (1 : Int32)), .unset] [(.ref a84)])) rfl (by rw [hml]; rfl) (Steps.refl _) (argsL := []) (rest := []) (lenOf pd__28_29I rfl) rfl (by show 2 * 0 + _ ≤ _; exact Nat.le_of_eq rfl) (hb hby at_94) (fun _ _ => ⟨rfl, rfl, (by decide : 2 + 0 ≤ _), (by decide : 6 + 0 ≤ _)⟩)
      dsimp only [Pt.U, Pt.locs, Pt.cells, Pt.slots] at X91 l91 y91 z91 st91 hQ91
      subst l91 y91 z91
      obtain ⟨rfl, Nq91, Kq91, fq0_91, fq1_91, fq2_91⟩ := hQ91
      have N91 := Fr.app N90 Nq91
      have Z91 : n0 ≤ T91.heap.size := Nat.le_trans Z90 Kq91.1
      have SZ91 : h0.size ≤ T91.heap.size := Nat.le_trans SZ90 Kq91.1
      have S0_91 := own_Sta_keep S0_90 Kq91 (allS (own_ns_exa fq0_90) all0)
      have fs91 : Fld Z T91.heap a84 "com/example/concept_reasoner/conceptreasoner/completion/IntList" "size" "I" (.int (1 : Int32)) := fq1_91
      refine own_trans st91 ?_
      show own_Ends p e below F (T91.setTop (mkF m 97 #[.val (.int p1), .val (.int p2), .val (.int p3), .val (.int p4), .val (.int p5), .val (.int (3 : Int32)), .val (.int (2 : Int32)), .val (.ref a84), .val (.int (1 : Int32)), .unset] [(.int p4)]))
      refine own_step (fun _ k => XS.pop X91.here hx rfl (hb hby at_97) rfl rfl k) ?_
      show own_Ends p e below F (T91.setTop (mkF m 98 #[.val (.int p1), .val (.int p2), .val (.int p3), .val (.int p4), .val (.int p5), .val (.int (3 : Int32)), .val (.int (2 : Int32)), .val (.ref a84), .val (.int (1 : Int32)), .unset] []))
      refine own_step (fun _ k => XS.iload X91.here hx rfl (hb hby at_98) rfl k) ?_
      show own_Ends p e below F (T91.setTop (mkF m 100 #[.val (.int p1), .val (.int p2), .val (.int p3), .val (.int p4), .val (.int p5), .val (.int (3 : Int32)), .val (.int (2 : Int32)), .val (.ref a84), .val (.int (1 : Int32)), .unset] [(.int (2 : Int32))]))
      refine own_step (fun _ k => XS.iconst X91.here hx rfl (hb hby at_100) k) ?_
      show own_Ends p e below F (T91.setTop (mkF m 101 #[.val (.int p1), .val (.int p2), .val (.int p3), .val (.int p4), .val (.int p5), .val (.int (3 : Int32)), .val (.int (2 : Int32)), .val (.ref a84), .val (.int (1 : Int32)), .unset] [(.int (3 : Int32)), (.int (2 : Int32))]))
      refine own_step (fun _ k => XS.icmpYes X91.here hx rfl (pc0 := 101) (pc' := 110) rfl (hb hby at_101) rfl (tlt (by decide : (2 : Int32) < (3 : Int32))).1 (by decide) (by decide) k) ?_
      show own_Ends p e below F (T91.setTop (mkF m 110 #[.val (.int p1), .val (.int p2), .val (.int p3), .val (.int p4), .val (.int p5), .val (.int (3 : Int32)), .val (.int (2 : Int32)), .val (.ref a84), .val (.int (1 : Int32)), .unset] []))
      refine own_step (fun _ k => XS.iload X91.here hx rfl (hb hby at_110) rfl k) ?_
      show own_Ends p e below F (T91.setTop (mkF m 112 #[.val (.int p1), .val (.int p2), .val (.int p3), .val (.int p4), .val (.int p5), .val (.int (3 : Int32)), .val (.int (2 : Int32)), .val (.ref a84), .val (.int (1 : Int32)), .unset] [(.int (3 : Int32))]))
      refine own_step (fun _ k => XS.iload X91.here hx rfl (hb hby at_112) rfl k) ?_
      show own_Ends p e below F (T91.setTop (mkF m 114 #[.val (.int p1), .val (.int p2), .val (.int p3), .val (.int p4), .val (.int p5), .val (.int (3 : Int32)), .val (.int (2 : Int32)), .val (.ref a84), .val (.int (1 : Int32)), .unset] [(.int (2 : Int32)), (.int (3 : Int32))]))
      refine own_step (fun _ k => XS.isub X91.here hx rfl (hb hby at_114) rfl k) ?_
      show own_Ends p e below F (T91.setTop (mkF m 115 #[.val (.int p1), .val (.int p2), .val (.int p3), .val (.int p4), .val (.int p5), .val (.int (3 : Int32)), .val (.int (2 : Int32)), .val (.ref a84), .val (.int (1 : Int32)), .unset] [(.int (1 : Int32))]))
      refine own_step (fun _ k => XS.ifYes X91.here hx rfl (pc0 := 115) (pc' := 122) rfl (hb hby at_115) rfl ((if0 _ _).trans (feq (by decide : ¬ ((1 : Int32) = (0 : Int32)))).2) (by decide) (by decide) k) ?_
      show own_Ends p e below F (T91.setTop (mkF m 122 #[.val (.int p1), .val (.int p2), .val (.int p3), .val (.int p4), .val (.int p5), .val (.int (3 : Int32)), .val (.int (2 : Int32)), .val (.ref a84), .val (.int (1 : Int32)), .unset] []))
      refine own_step (fun _ k => XS.iconst X91.here hx rfl (hb hby at_122) k) ?_
      show own_Ends p e below F (T91.setTop (mkF m 123 #[.val (.int p1), .val (.int p2), .val (.int p3), .val (.int p4), .val (.int p5), .val (.int (3 : Int32)), .val (.int (2 : Int32)), .val (.ref a84), .val (.int (1 : Int32)), .unset] [(.int (0 : Int32))]))
      refine own_step (fun _ k => XS.istore X91.here hx rfl (hb hby at_123) rfl (l' := #[.val (.int p1), .val (.int p2), .val (.int p3), .val (.int p4), .val (.int p5), .val (.int (3 : Int32)), .val (.int (2 : Int32)), .val (.ref a84), .val (.int (1 : Int32)), .val (.int (0 : Int32))]) rfl k) ?_
      show own_Ends p e below F (T91.setTop (mkF m 125 #[.val (.int p1), .val (.int p2), .val (.int p3), .val (.int p4), .val (.int p5), .val (.int (3 : Int32)), .val (.int (2 : Int32)), .val (.ref a84), .val (.int (1 : Int32)), .val (.int (0 : Int32))] []))
      refine own_step (fun _ k => XS.iload X91.here hx rfl (hb hby at_125) rfl k) ?_
      show own_Ends p e below F (T91.setTop (mkF m 127 #[.val (.int p1), .val (.int p2), .val (.int p3), .val (.int p4), .val (.int p5), .val (.int (3 : Int32)), .val (.int (2 : Int32)), .val (.ref a84), .val (.int (1 : Int32)), .val (.int (0 : Int32))] [(.int (1 : Int32))]))
      refine own_step (fun _ k => XS.ifNo X91.here hx rfl (hb hby at_127) rfl ((if0 _ _).trans (feq (by decide : ¬ ((1 : Int32) = (0 : Int32)))).1) k) ?_
      show own_Ends p e below F (T91.setTop (mkF m 130 #[.val (.int p1), .val (.int p2), .val (.int p3), .val (.int p4), .val (.int p5), .val (.int (3 : Int32)), .val (.int (2 : Int32)), .val (.ref a84), .val (.int (1 : Int32)), .val (.int (0 : Int32))] []))
      refine own_step (fun _ k => XS.aload X91.here hx rfl (hb hby at_130) rfl rfl k) ?_
      show own_Ends p e below F (T91.setTop (mkF m 132 #[.val (.int p1), .val (.int p2), .val (.int p3), .val (.int p4), .val (.int p5), .val (.int (3 : Int32)), .val (.int (2 : Int32)), .val (.ref a84), .val (.int (1 : Int32)), .val (.int (0 : Int32))] [(.ref a84)]))
      obtain ⟨cq92, kq92, qa92, qb92, qc92⟩ := isOf hZ rfl fq0_91
      obtain ⟨_, _, ⟨T92, L92, k92, n92⟩, -, X92, ⟨Lc92, hQ92, l92, y92, z92⟩, st92⟩ := X91.virtualBack hx (y := (⟨"com/example/concept_reasoner/conceptreasoner/completion/IntList", "isEmpty", "()Z"⟩ : MethodName)) (z := (⟨"com/example/concept_reasoner/conceptreasoner/completion/IntList", "isEmpty", "()Z"⟩ : MethodName)) hown (mvT hZ (own_g hw 13 rfl)) (mvT hZ (own_g hw 14 rfl)) (notFace_of_selects (args := #[]) (mvT hZ (own_g hw 16 rfl))) (mvT hZ (own_g hw 16 rfl)) (mvT hZ (own_g hw 15 rfl)) (by decide) (backOf (W := 0) (rm3 l Z a0 hw [] a84 (1 : Int32) T91.heap n0 Z91 fs91) hZ (own_g hw 17 rfl) (own_g hw 2 rfl) (by decide) (by decide)) qa92 qc92 (g := (mkF m 132 #[.val (.int p1), .val (.int p2), .val (.int p3), .val (.int p4), .val (.int p5), .val (.int (3 : Int32)), .val (.int (2 : Int32)), .val (.ref a84), .val (.int (1 : Int32)), .val (.int (0 : Int32))] [(.ref a84)])) rfl (by rw [hml]; rfl) (Steps.refl _) (argsL := []) (rest := []) (lenOf pd__28_29Z rfl) rfl (by show 2 * 0 + _ ≤ _; exact Nat.le_of_eq rfl) (hb hby at_132) (fun _ _ => ⟨rfl, rfl, (by decide : 2 + 0 ≤ _), (by decide : 6 + 0 ≤ _)⟩)
      dsimp only [Pt.U, Pt.locs, Pt.cells, Pt.slots] at X92 l92 y92 z92 st92 hQ92
      subst l92 y92 z92
      obtain ⟨rfl, Nq92, eq92⟩ := hQ92
      have N92 := Fr.app N91 Nq92
      refine own_trans st92 ?_
      show own_Ends p e below F (T92.setTop (mkF m 135 #[.val (.int p1), .val (.int p2), .val (.int p3), .val (.int p4), .val (.int p5), .val (.int (3 : Int32)), .val (.int (2 : Int32)), .val (.ref a84), .val (.int (1 : Int32)), .val (.int (0 : Int32))] [(.int (own_emp (1 : Int32)))]))
      rw [show (own_emp (1 : Int32)) = (0 : Int32) from (by first | rfl | decide)]
      show own_Ends p e below F (T92.setTop (mkF m 135 #[.val (.int p1), .val (.int p2), .val (.int p3), .val (.int p4), .val (.int p5), .val (.int (3 : Int32)), .val (.int (2 : Int32)), .val (.ref a84), .val (.int (1 : Int32)), .val (.int (0 : Int32))] [(.int (0 : Int32))]))
      refine own_step (fun _ k => XS.iload X92.here hx rfl (hb hby at_135) rfl k) ?_
      show own_Ends p e below F (T92.setTop (mkF m 137 #[.val (.int p1), .val (.int p2), .val (.int p3), .val (.int p4), .val (.int p5), .val (.int (3 : Int32)), .val (.int (2 : Int32)), .val (.ref a84), .val (.int (1 : Int32)), .val (.int (0 : Int32))] [(.int (0 : Int32)), (.int (0 : Int32))]))
      refine own_step (fun _ k => XS.icmpNo X92.here hx rfl (hb hby at_137) rfl (teq (by decide : (0 : Int32) = (0 : Int32))).2 k) ?_
      show own_Ends p e below F (T92.setTop (mkF m 140 #[.val (.int p1), .val (.int p2), .val (.int p3), .val (.int p4), .val (.int p5), .val (.int (3 : Int32)), .val (.int (2 : Int32)), .val (.ref a84), .val (.int (1 : Int32)), .val (.int (0 : Int32))] []))
      refine own_step (fun _ k => XS.iconst X92.here hx rfl (hb hby at_140) k) ?_
      show own_Ends p e below F (T92.setTop (mkF m 141 #[.val (.int p1), .val (.int p2), .val (.int p3), .val (.int p4), .val (.int p5), .val (.int (3 : Int32)), .val (.int (2 : Int32)), .val (.ref a84), .val (.int (1 : Int32)), .val (.int (0 : Int32))] [(.int (1 : Int32))]))
      refine own_step (fun _ k => XS.goto X92.here hx rfl (pc0 := 141) (pc' := 145) rfl (hb hby at_141) (by decide) (by decide) k) ?_
      show own_Ends p e below F (T92.setTop (mkF m 145 #[.val (.int p1), .val (.int p2), .val (.int p3), .val (.int p4), .val (.int p5), .val (.int (3 : Int32)), .val (.int (2 : Int32)), .val (.ref a84), .val (.int (1 : Int32)), .val (.int (0 : Int32))] [(.int (1 : Int32))]))
      rw [hF]
      exact own_ret X92 (v := (some (.int (nar .boolean (1 : Int32))))) (fun h => by rw [Bd.returns] at h; cases h) Bd.notSynchronized (fun fs hr => retN X92 hx (t := .boolean) Bd.returns (by simp) (hb hby at_145) hr) (by decide) (by decide) (by rw [eq92]; exact ⟨rfl, N92⟩)
    · rw [q10]
      show own_Ends p e below F (s₁.setTop (mkF m 10 #[.val (.int p1), .val (.int p2), .val (.int p3), .val (.int p4), .val (.int p5), .val (.int (3 : Int32)), .val (.int (3 : Int32)), .unset, .unset, .unset] []))
      refine own_step (fun _ k => XS.iload X0.here hx rfl (hb hby at_10) rfl k) ?_
      show own_Ends p e below F (s₁.setTop (mkF m 12 #[.val (.int p1), .val (.int p2), .val (.int p3), .val (.int p4), .val (.int p5), .val (.int (3 : Int32)), .val (.int (3 : Int32)), .unset, .unset, .unset] [(.int (3 : Int32))]))
      refine own_step (fun _ k => XS.iload X0.here hx rfl (hb hby at_12) rfl k) ?_
      show own_Ends p e below F (s₁.setTop (mkF m 14 #[.val (.int p1), .val (.int p2), .val (.int p3), .val (.int p4), .val (.int p5), .val (.int (3 : Int32)), .val (.int (3 : Int32)), .unset, .unset, .unset] [(.int (3 : Int32)), (.int (3 : Int32))]))
      refine own_step (fun _ k => XS.icmpYes X0.here hx rfl (pc0 := 14) (pc' := 21) rfl (hb hby at_14) rfl (flt (by decide : ¬ ((3 : Int32) < (3 : Int32)))).2.2.2 (by decide) (by decide) k) ?_
      show own_Ends p e below F (s₁.setTop (mkF m 21 #[.val (.int p1), .val (.int p2), .val (.int p3), .val (.int p4), .val (.int p5), .val (.int (3 : Int32)), .val (.int (3 : Int32)), .unset, .unset, .unset] []))
      obtain ⟨T93, h93, X93, e93, E93, A93, D93, -, st93⟩ := newO X0 hx hZ hown (own_g hw 0 rfl) (own_g hw 1 rfl) (own_g hw 2 rfl) e0 (g := (mkF m 21 #[.val (.int p1), .val (.int p2), .val (.int p3), .val (.int p4), .val (.int p5), .val (.int (3 : Int32)), .val (.int (3 : Int32)), .unset, .unset, .unset] [])) rfl (hb hby at_21) (by decide) (by decide)
      obtain ⟨a93, g93⟩ : ∃ z, z = h0.size := ⟨_, rfl⟩
      rw [← g93] at A93 D93 st93
      have ge_a93 : n0 ≤ a93 := Nat.le_trans Z0 (Nat.le_of_eq g93.symm)
      have sz_a93 : h0.size ≤ a93 := Nat.le_trans (Nat.le_refl h0.size) (Nat.le_of_eq g93.symm)
      have ne_nn_a93 : nn ≠ a93 := Nat.ne_of_lt (by rw [g93]; exact VN.lt)
      have Z93 : n0 ≤ h93.size := Nat.le_trans Z0 E93.1
      have SZ93 : h0.size ≤ h93.size := Nat.le_trans (Nat.le_refl h0.size) E93.1
      have F93_values : Fld Z h93 a93 "com/example/concept_reasoner/conceptreasoner/completion/IntList" "values" "[I" .null := D93 (Or.inl (own_g hw 12 rfl)) (ty := (.array .int)) (by decide)
      have F93_size : Fld Z h93 a93 "com/example/concept_reasoner/conceptreasoner/completion/IntList" "size" "I" (.int (0 : Int32)) := D93 (Or.inl (own_g hw 19 rfl)) (ty := .int) (by decide)
      refine own_step st93 ?_
      show own_Ends p e below F (T93.setTop (mkF m 24 #[.val (.int p1), .val (.int p2), .val (.int p3), .val (.int p4), .val (.int p5), .val (.int (3 : Int32)), .val (.int (3 : Int32)), .unset, .unset, .unset] [(.ref a93)]))
      refine own_step (fun _ k => XS.dup X93.here hx rfl (hb hby at_24) rfl rfl k) ?_
      show own_Ends p e below F (T93.setTop (mkF m 25 #[.val (.int p1), .val (.int p2), .val (.int p3), .val (.int p4), .val (.int p5), .val (.int (3 : Int32)), .val (.int (3 : Int32)), .unset, .unset, .unset] [(.ref a93), (.ref a93)]))
      obtain ⟨_, _, ⟨T94, L94, k94, n94⟩, -, X94, ⟨Lc94, hQ94, l94, y94, z94⟩, st94⟩ := X93.specialBack hx (y := (⟨"com/example/concept_reasoner/conceptreasoner/completion/IntList", "<init>", "()V"⟩ : MethodName)) rfl hown (mvT hZ (own_g hw 3 rfl)) (mvT hZ (own_g hw 4 rfl)) (mvT hZ (own_g hw 5 rfl)) (by decide) (backOf (W := 1) (rm1 l Z a0 hw [] a93 nn h93 n0 Z93 A93 ge_a93 F93_values F93_size (Sta.ext E93 SN)) hZ (own_g hw 5 rfl) (own_g hw 2 rfl) (by decide) (by decide)) (g := (mkF m 25 #[.val (.int p1), .val (.int p2), .val (.int p3), .val (.int p4), .val (.int p5), .val (.int (3 : Int32)), .val (.int (3 : Int32)), .unset, .unset, .unset] [(.ref a93), (.ref a93)])) rfl (by rw [hml]; rfl) (Steps.refl _) (a := a93) (argsL := []) (rest := [(.ref a93)]) (lenOf pd__28_29V rfl) rfl (by show 2 * 0 + _ ≤ _; exact Nat.le_of_eq rfl) (hb hby at_25) (fun _ _ => ⟨rfl, e93, (by decide : 1 + 0 ≤ _), (by decide : 2 + 0 ≤ _)⟩)
      dsimp only [Pt.U, Pt.locs, Pt.cells, Pt.slots] at X94 l94 y94 z94 st94 hQ94
      subst l94 y94 z94
      obtain ⟨rfl, Nq94, Kq94, fq0_94, fq1_94, fq2_94⟩ := hQ94
      have N94 := Fr.app N0 Nq94
      have Z94 : n0 ≤ T94.heap.size := Nat.le_trans Z93 Kq94.1
      have SZ94 : h0.size ≤ T94.heap.size := Nat.le_trans SZ93 Kq94.1
      have S0_94 := own_Sta_keep (Sta.ext E93 SN) Kq94 (allS (own_ns_exa A93) all0)
      refine own_trans st94 ?_
      show own_Ends p e below F (T94.setTop (mkF m 28 #[.val (.int p1), .val (.int p2), .val (.int p3), .val (.int p4), .val (.int p5), .val (.int (3 : Int32)), .val (.int (3 : Int32)), .unset, .unset, .unset] [(.ref a93)]))
      refine own_step (fun _ k => XS.astore X94.here hx rfl (hb hby at_28) rfl rfl (l' := #[.val (.int p1), .val (.int p2), .val (.int p3), .val (.int p4), .val (.int p5), .val (.int (3 : Int32)), .val (.int (3 : Int32)), .val (.ref a93), .unset, .unset]) rfl k) ?_
      show own_Ends p e below F (T94.setTop (mkF m 30 #[.val (.int p1), .val (.int p2), .val (.int p3), .val (.int p4), .val (.int p5), .val (.int (3 : Int32)), .val (.int (3 : Int32)), .val (.ref a93), .unset, .unset] []))
      refine own_step (fun _ k => XS.aload X94.here hx rfl (hb hby at_30) rfl rfl k) ?_
      show own_Ends p e below F (T94.setTop (mkF m 32 #[.val (.int p1), .val (.int p2), .val (.int p3), .val (.int p4), .val (.int p5), .val (.int (3 : Int32)), .val (.int (3 : Int32)), .val (.ref a93), .unset, .unset] [(.ref a93)]))
      obtain ⟨cq95, kq95, qa95, qb95, qc95⟩ := isOf hZ rfl fq0_94
      obtain ⟨_, _, ⟨T95, L95, k95, n95⟩, -, X95, ⟨Lc95, hQ95, l95, y95, z95⟩, st95⟩ := X94.virtualBack hx (y := (⟨"com/example/concept_reasoner/conceptreasoner/completion/IntList", "isEmpty", "()Z"⟩ : MethodName)) (z := (⟨"com/example/concept_reasoner/conceptreasoner/completion/IntList", "isEmpty", "()Z"⟩ : MethodName)) hown (mvT hZ (own_g hw 13 rfl)) (mvT hZ (own_g hw 14 rfl)) (notFace_of_selects (args := #[]) (mvT hZ (own_g hw 16 rfl))) (mvT hZ (own_g hw 16 rfl)) (mvT hZ (own_g hw 15 rfl)) (by decide) (backOf (W := 0) (rm3 l Z a0 hw [] a93 (0 : Int32) T94.heap n0 Z94 fq2_94) hZ (own_g hw 17 rfl) (own_g hw 2 rfl) (by decide) (by decide)) qa95 qc95 (g := (mkF m 32 #[.val (.int p1), .val (.int p2), .val (.int p3), .val (.int p4), .val (.int p5), .val (.int (3 : Int32)), .val (.int (3 : Int32)), .val (.ref a93), .unset, .unset] [(.ref a93)])) rfl (by rw [hml]; rfl) (Steps.refl _) (argsL := []) (rest := []) (lenOf pd__28_29Z rfl) rfl (by show 2 * 0 + _ ≤ _; exact Nat.le_of_eq rfl) (hb hby at_32) (fun _ _ => ⟨rfl, rfl, (by decide : 1 + 0 ≤ _), (by decide : 2 + 0 ≤ _)⟩)
      dsimp only [Pt.U, Pt.locs, Pt.cells, Pt.slots] at X95 l95 y95 z95 st95 hQ95
      subst l95 y95 z95
      obtain ⟨rfl, Nq95, eq95⟩ := hQ95
      have N95 := Fr.app N94 Nq95
      refine own_trans st95 ?_
      show own_Ends p e below F (T95.setTop (mkF m 35 #[.val (.int p1), .val (.int p2), .val (.int p3), .val (.int p4), .val (.int p5), .val (.int (3 : Int32)), .val (.int (3 : Int32)), .val (.ref a93), .unset, .unset] [(.int (own_emp (0 : Int32)))]))
      rw [show (own_emp (0 : Int32)) = (1 : Int32) from (by first | rfl | decide)]
      show own_Ends p e below F (T95.setTop (mkF m 35 #[.val (.int p1), .val (.int p2), .val (.int p3), .val (.int p4), .val (.int p5), .val (.int (3 : Int32)), .val (.int (3 : Int32)), .val (.ref a93), .unset, .unset] [(.int (1 : Int32))]))
      refine own_step (fun _ k => XS.istore X95.here hx rfl (hb hby at_35) rfl (l' := #[.val (.int p1), .val (.int p2), .val (.int p3), .val (.int p4), .val (.int p5), .val (.int (3 : Int32)), .val (.int (3 : Int32)), .val (.ref a93), .val (.int (1 : Int32)), .unset]) rfl k) ?_
      show own_Ends p e below F (T95.setTop (mkF m 37 #[.val (.int p1), .val (.int p2), .val (.int p3), .val (.int p4), .val (.int p5), .val (.int (3 : Int32)), .val (.int (3 : Int32)), .val (.ref a93), .val (.int (1 : Int32)), .unset] []))
      refine own_step (fun _ k => XS.iload X95.here hx rfl (hb hby at_37) rfl k) ?_
      show own_Ends p e below F (T95.setTop (mkF m 39 #[.val (.int p1), .val (.int p2), .val (.int p3), .val (.int p4), .val (.int p5), .val (.int (3 : Int32)), .val (.int (3 : Int32)), .val (.ref a93), .val (.int (1 : Int32)), .unset] [(.int (3 : Int32))]))
      refine own_step (fun _ k => XS.iconst X95.here hx rfl (hb hby at_39) k) ?_
      show own_Ends p e below F (T95.setTop (mkF m 40 #[.val (.int p1), .val (.int p2), .val (.int p3), .val (.int p4), .val (.int p5), .val (.int (3 : Int32)), .val (.int (3 : Int32)), .val (.ref a93), .val (.int (1 : Int32)), .unset] [(.int (1 : Int32)), (.int (3 : Int32))]))
      refine own_step (fun _ k => XS.icmpNo X95.here hx rfl (hb hby at_40) rfl (flt (by decide : ¬ ((3 : Int32) < (1 : Int32)))).1 k) ?_
      show own_Ends p e below F (T95.setTop (mkF m 43 #[.val (.int p1), .val (.int p2), .val (.int p3), .val (.int p4), .val (.int p5), .val (.int (3 : Int32)), .val (.int (3 : Int32)), .val (.ref a93), .val (.int (1 : Int32)), .unset] []))
      refine own_step (fun _ k => XS.aload X95.here hx rfl (hb hby at_43) rfl rfl k) ?_
      show own_Ends p e below F (T95.setTop (mkF m 45 #[.val (.int p1), .val (.int p2), .val (.int p3), .val (.int p4), .val (.int p5), .val (.int (3 : Int32)), .val (.int (3 : Int32)), .val (.ref a93), .val (.int (1 : Int32)), .unset] [(.ref a93)]))
      refine own_step (fun _ k => XS.iloadN X95.here hx rfl (hb hby at_45) rfl k) ?_
      show own_Ends p e below F (T95.setTop (mkF m 46 #[.val (.int p1), .val (.int p2), .val (.int p3), .val (.int p4), .val (.int p5), .val (.int (3 : Int32)), .val (.int (3 : Int32)), .val (.ref a93), .val (.int (1 : Int32)), .unset] [(.int p3), (.ref a93)]))
      obtain ⟨cq96, kq96, qa96, qb96, qc96⟩ := isOf hZ eq95 fq0_94
      obtain ⟨_, _, ⟨T96, L96, k96, n96⟩, -, X96, ⟨Lc96, hQ96, l96, y96, z96⟩, st96⟩ := X95.virtualBack hx (y := (⟨"com/example/concept_reasoner/conceptreasoner/completion/IntList", "add", "(I)V"⟩ : MethodName)) (z := (⟨"com/example/concept_reasoner/conceptreasoner/completion/IntList", "add", "(I)V"⟩ : MethodName)) hown (mvT hZ (own_g hw 20 rfl)) (mvT hZ (own_g hw 21 rfl)) (notFace_of_selects (args := #[]) (mvT hZ (own_g hw 23 rfl))) (mvT hZ (own_g hw 23 rfl)) (mvT hZ (own_g hw 22 rfl)) (by decide) (backOf (W := 0) (rm4a l Z a0 hw [] a93 nn p3 kN T94.heap n0 Z94 fq0_94 ge_a93 fq2_94 fq1_94 ((VN.ext E93).keep Kq94 (ninS ne_nn_a93 nin0)) ne_nn_a93) hZ (own_g hw 24 rfl) (own_g hw 2 rfl) (by decide) (by decide)) qa96 qc96 (g := (mkF m 46 #[.val (.int p1), .val (.int p2), .val (.int p3), .val (.int p4), .val (.int p5), .val (.int (3 : Int32)), .val (.int (3 : Int32)), .val (.ref a93), .val (.int (1 : Int32)), .unset] [(.int p3), (.ref a93)])) rfl (by rw [hml]; rfl) (Steps.refl _) (argsL := [(.int p3)]) (rest := []) (lenOf pd__28I_29V rfl) rfl (by show 2 * 0 + _ ≤ _; exact Nat.le_of_eq rfl) (hb hby at_46) (fun _ _ => ⟨rfl, eq95, (by decide : 1 + 1 ≤ _), (by decide : 2 + 4 ≤ _)⟩)
      dsimp only [Pt.U, Pt.locs, Pt.cells, Pt.slots] at X96 l96 y96 z96 st96 hQ96
      subst l96 y96 z96
      obtain ⟨c96, kc96, rfl, Nq96, Kq96, fq0_96, fq1_96, fq2_96, fq3_96, fq4_96⟩ := hQ96
      have N96 := Fr.app N95 Nq96
      have Z96 : n0 ≤ T96.heap.size := Nat.le_trans Z94 Kq96.1
      have SZ96 : h0.size ≤ T96.heap.size := Nat.le_trans SZ94 Kq96.1
      have S0_96 := own_Sta_keep S0_94 Kq96 (allS (own_ns_exa fq0_94) all0)
      have ne_nn_c96 : nn ≠ c96 := Nat.ne_of_lt (Nat.lt_of_lt_of_le (((VN.ext E93).keep Kq94 (ninS ne_nn_a93 nin0))).lt fq0_96)
      have ne_a93_c96 : a93 ≠ c96 := Nat.ne_of_lt (Nat.lt_of_lt_of_le (fq1_94).lt fq0_96)
      have ge_c96 : n0 ≤ c96 := Nat.le_trans Z94 fq0_96
      have sz_c96 : h0.size ≤ c96 := Nat.le_trans SZ94 fq0_96
      refine own_trans st96 ?_
      show own_Ends p e below F (T96.setTop (mkF m 49 #[.val (.int p1), .val (.int p2), .val (.int p3), .val (.int p4), .val (.int p5), .val (.int (3 : Int32)), .val (.int (3 : Int32)), .val (.ref a93), .val (.int (1 : Int32)), .unset] []))
      refine own_step (fun _ k => XS.iload X96.here hx rfl (hb hby at_49) rfl k) ?_
      show own_Ends p e below F (T96.setTop (mkF m 51 #[.val (.int p1), .val (.int p2), .val (.int p3), .val (.int p4), .val (.int p5), .val (.int (3 : Int32)), .val (.int (3 : Int32)), .val (.ref a93), .val (.int (1 : Int32)), .unset] [(.int (3 : Int32))]))
      refine own_step (fun _ k => XS.iconst X96.here hx rfl (hb hby at_51) k) ?_
      show own_Ends p e below F (T96.setTop (mkF m 52 #[.val (.int p1), .val (.int p2), .val (.int p3), .val (.int p4), .val (.int p5), .val (.int (3 : Int32)), .val (.int (3 : Int32)), .val (.ref a93), .val (.int (1 : Int32)), .unset] [(.int (2 : Int32)), (.int (3 : Int32))]))
      refine own_step (fun _ k => XS.icmpNo X96.here hx rfl (hb hby at_52) rfl (flt (by decide : ¬ ((3 : Int32) < (2 : Int32)))).1 k) ?_
      show own_Ends p e below F (T96.setTop (mkF m 55 #[.val (.int p1), .val (.int p2), .val (.int p3), .val (.int p4), .val (.int p5), .val (.int (3 : Int32)), .val (.int (3 : Int32)), .val (.ref a93), .val (.int (1 : Int32)), .unset] []))
      refine own_step (fun _ k => XS.aload X96.here hx rfl (hb hby at_55) rfl rfl k) ?_
      show own_Ends p e below F (T96.setTop (mkF m 57 #[.val (.int p1), .val (.int p2), .val (.int p3), .val (.int p4), .val (.int p5), .val (.int (3 : Int32)), .val (.int (3 : Int32)), .val (.ref a93), .val (.int (1 : Int32)), .unset] [(.ref a93)]))
      refine own_step (fun _ k => XS.iloadN X96.here hx rfl (hb hby at_57) rfl k) ?_
      show own_Ends p e below F (T96.setTop (mkF m 58 #[.val (.int p1), .val (.int p2), .val (.int p3), .val (.int p4), .val (.int p5), .val (.int (3 : Int32)), .val (.int (3 : Int32)), .val (.ref a93), .val (.int (1 : Int32)), .unset] [(.int p4), (.ref a93)]))
      obtain ⟨cq97, kq97, qa97, qb97, qc97⟩ := isOf hZ rfl fq1_96
      obtain ⟨_, _, ⟨T97, L97, k97, n97⟩, -, X97, ⟨Lc97, hQ97, l97, y97, z97⟩, st97⟩ := X96.virtualBack hx (y := (⟨"com/example/concept_reasoner/conceptreasoner/completion/IntList", "add", "(I)V"⟩ : MethodName)) (z := (⟨"com/example/concept_reasoner/conceptreasoner/completion/IntList", "add", "(I)V"⟩ : MethodName)) hown (mvT hZ (own_g hw 20 rfl)) (mvT hZ (own_g hw 21 rfl)) (notFace_of_selects (args := #[]) (mvT hZ (own_g hw 23 rfl))) (mvT hZ (own_g hw 23 rfl)) (mvT hZ (own_g hw 22 rfl)) (by decide) (backOf (W := 0) (rm4b l Z a0 hw [] a93 c96 p4 (1 : Int32) kc96 [(.int p3), (.int (0 : Int32)), (.int (0 : Int32)), (.int (0 : Int32))] T96.heap n0 Z96 fq1_96 ge_a93 fq2_96 fq3_96 fq4_96 (Ne.symm ne_a93_c96) ge_c96 (by decide) ⟨by decide, by decide⟩ (Nat.le_of_ble_eq_true rfl)) hZ (own_g hw 24 rfl) (own_g hw 2 rfl) (by decide) (by decide)) qa97 qc97 (g := (mkF m 58 #[.val (.int p1), .val (.int p2), .val (.int p3), .val (.int p4), .val (.int p5), .val (.int (3 : Int32)), .val (.int (3 : Int32)), .val (.ref a93), .val (.int (1 : Int32)), .unset] [(.int p4), (.ref a93)])) rfl (by rw [hml]; rfl) (Steps.refl _) (argsL := [(.int p4)]) (rest := []) (lenOf pd__28I_29V rfl) rfl (by show 2 * 0 + _ ≤ _; exact Nat.le_of_eq rfl) (hb hby at_58) (fun _ _ => ⟨rfl, rfl, (by decide : 2 + 0 ≤ _), (by decide : 6 + 0 ≤ _)⟩)
      dsimp only [Pt.U, Pt.locs, Pt.cells, Pt.slots] at X97 l97 y97 z97 st97 hQ97
      subst l97 y97 z97
      obtain ⟨rfl, Nq97, Kq97, fq0_97, fq1_97, fq2_97, fq3_97⟩ := hQ97
      have N97 := Fr.app N96 Nq97
      have Z97 : n0 ≤ T97.heap.size := Nat.le_trans Z96 Kq97.1
      have SZ97 : h0.size ≤ T97.heap.size := Nat.le_trans SZ96 Kq97.1
      have S0_97 := own_Sta_keep S0_96 Kq97 (allS (own_ns_exa fq1_96) (allS (own_ns_arv fq4_96) all0))
      have fs97 : Fld Z T97.heap a93 "com/example/concept_reasoner/conceptreasoner/completion/IntList" "size" "I" (.int (2 : Int32)) := fq1_97
      have fv97 : Arv Z T97.heap c96 kc96 .int (4 : Int32) [(.int p3), (.int p4), (.int (0 : Int32)), (.int (0 : Int32))] (.int (0 : Int32)) := fq3_97
      refine own_trans st97 ?_
      show own_Ends p e below F (T97.setTop (mkF m 61 #[.val (.int p1), .val (.int p2), .val (.int p3), .val (.int p4), .val (.int p5), .val (.int (3 : Int32)), .val (.int (3 : Int32)), .val (.ref a93), .val (.int (1 : Int32)), .unset] []))
      refine own_step (fun _ k => XS.iload X97.here hx rfl (hb hby at_61) rfl k) ?_
      show own_Ends p e below F (T97.setTop (mkF m 63 #[.val (.int p1), .val (.int p2), .val (.int p3), .val (.int p4), .val (.int p5), .val (.int (3 : Int32)), .val (.int (3 : Int32)), .val (.ref a93), .val (.int (1 : Int32)), .unset] [(.int (3 : Int32))]))
      refine own_step (fun _ k => XS.iconst X97.here hx rfl (hb hby at_63) k) ?_
      show own_Ends p e below F (T97.setTop (mkF m 64 #[.val (.int p1), .val (.int p2), .val (.int p3), .val (.int p4), .val (.int p5), .val (.int (3 : Int32)), .val (.int (3 : Int32)), .val (.ref a93), .val (.int (1 : Int32)), .unset] [(.int (3 : Int32)), (.int (3 : Int32))]))
      refine own_step (fun _ k => XS.icmpNo X97.here hx rfl (hb hby at_64) rfl (flt (by decide : ¬ ((3 : Int32) < (3 : Int32)))).1 k) ?_
      show own_Ends p e below F (T97.setTop (mkF m 67 #[.val (.int p1), .val (.int p2), .val (.int p3), .val (.int p4), .val (.int p5), .val (.int (3 : Int32)), .val (.int (3 : Int32)), .val (.ref a93), .val (.int (1 : Int32)), .unset] []))
      refine own_step (fun _ k => XS.aload X97.here hx rfl (hb hby at_67) rfl rfl k) ?_
      show own_Ends p e below F (T97.setTop (mkF m 69 #[.val (.int p1), .val (.int p2), .val (.int p3), .val (.int p4), .val (.int p5), .val (.int (3 : Int32)), .val (.int (3 : Int32)), .val (.ref a93), .val (.int (1 : Int32)), .unset] [(.ref a93)]))
      refine own_step (fun _ k => XS.iload X97.here hx rfl (hb hby at_69) rfl k) ?_
      show own_Ends p e below F (T97.setTop (mkF m 71 #[.val (.int p1), .val (.int p2), .val (.int p3), .val (.int p4), .val (.int p5), .val (.int (3 : Int32)), .val (.int (3 : Int32)), .val (.ref a93), .val (.int (1 : Int32)), .unset] [(.int p5), (.ref a93)]))
      obtain ⟨cq98, kq98, qa98, qb98, qc98⟩ := isOf hZ rfl fq0_97
      obtain ⟨_, _, ⟨T98, L98, k98, n98⟩, -, X98, ⟨Lc98, hQ98, l98, y98, z98⟩, st98⟩ := X97.virtualBack hx (y := (⟨"com/example/concept_reasoner/conceptreasoner/completion/IntList", "add", "(I)V"⟩ : MethodName)) (z := (⟨"com/example/concept_reasoner/conceptreasoner/completion/IntList", "add", "(I)V"⟩ : MethodName)) hown (mvT hZ (own_g hw 20 rfl)) (mvT hZ (own_g hw 21 rfl)) (notFace_of_selects (args := #[]) (mvT hZ (own_g hw 23 rfl))) (mvT hZ (own_g hw 23 rfl)) (mvT hZ (own_g hw 22 rfl)) (by decide) (backOf (W := 0) (rm4b l Z a0 hw [] a93 c96 p5 (2 : Int32) kc96 [(.int p3), (.int p4), (.int (0 : Int32)), (.int (0 : Int32))] T97.heap n0 Z97 fq0_97 ge_a93 fs97 fq2_97 fv97 (Ne.symm ne_a93_c96) ge_c96 (by decide) ⟨by decide, by decide⟩ (Nat.le_of_ble_eq_true rfl)) hZ (own_g hw 24 rfl) (own_g hw 2 rfl) (by decide) (by decide)) qa98 qc98 (g := (mkF m 71 #[.val (.int p1), .val (.int p2), .val (.int p3), .val (.int p4), .val (.int p5), .val (.int (3 : Int32)), .val (.int (3 : Int32)), .val (.ref a93), .val (.int (1 : Int32)), .unset] [(.int p5), (.ref a93)])) rfl (by rw [hml]; rfl) (Steps.refl _) (argsL := [(.int p5)]) (rest := []) (lenOf pd__28I_29V rfl) rfl (by show 2 * 0 + _ ≤ _; exact Nat.le_of_eq rfl) (hb hby at_71) (fun _ _ => ⟨rfl, rfl, (by decide : 2 + 0 ≤ _), (by decide : 6 + 0 ≤ _)⟩)
      dsimp only [Pt.U, Pt.locs, Pt.cells, Pt.slots] at X98 l98 y98 z98 st98 hQ98
      subst l98 y98 z98
      obtain ⟨rfl, Nq98, Kq98, fq0_98, fq1_98, fq2_98, fq3_98⟩ := hQ98
      have N98 := Fr.app N97 Nq98
      have Z98 : n0 ≤ T98.heap.size := Nat.le_trans Z97 Kq98.1
      have SZ98 : h0.size ≤ T98.heap.size := Nat.le_trans SZ97 Kq98.1
      have S0_98 := own_Sta_keep S0_97 Kq98 (allS (own_ns_exa fq0_97) (allS (own_ns_arv fv97) all0))
      have fs98 : Fld Z T98.heap a93 "com/example/concept_reasoner/conceptreasoner/completion/IntList" "size" "I" (.int (3 : Int32)) := fq1_98
      have fv98 : Arv Z T98.heap c96 kc96 .int (4 : Int32) [(.int p3), (.int p4), (.int p5), (.int (0 : Int32))] (.int (0 : Int32)) := fq3_98
      refine own_trans st98 ?_
      show own_Ends p e below F (T98.setTop (mkF m 74 #[.val (.int p1), .val (.int p2), .val (.int p3), .val (.int p4), .val (.int p5), .val (.int (3 : Int32)), .val (.int (3 : Int32)), .val (.ref a93), .val (.int (1 : Int32)), .unset] []))
      refine own_step (fun _ k => XS.iload X98.here hx rfl (hb hby at_74) rfl k) ?_
      show own_Ends p e below F (T98.setTop (mkF m 76 #[.val (.int p1), .val (.int p2), .val (.int p3), .val (.int p4), .val (.int p5), .val (.int (3 : Int32)), .val (.int (3 : Int32)), .val (.ref a93), .val (.int (1 : Int32)), .unset] [(.int (3 : Int32))]))
      refine own_step (fun _ k => XS.iconst X98.here hx rfl (hb hby at_76) k) ?_
      show own_Ends p e below F (T98.setTop (mkF m 77 #[.val (.int p1), .val (.int p2), .val (.int p3), .val (.int p4), .val (.int p5), .val (.int (3 : Int32)), .val (.int (3 : Int32)), .val (.ref a93), .val (.int (1 : Int32)), .unset] [(.int (1 : Int32)), (.int (3 : Int32))]))
      refine own_step (fun _ k => XS.icmpNo X98.here hx rfl (hb hby at_77) rfl (flt (by decide : ¬ ((3 : Int32) < (1 : Int32)))).1 k) ?_
      show own_Ends p e below F (T98.setTop (mkF m 80 #[.val (.int p1), .val (.int p2), .val (.int p3), .val (.int p4), .val (.int p5), .val (.int (3 : Int32)), .val (.int (3 : Int32)), .val (.ref a93), .val (.int (1 : Int32)), .unset] []))
      refine own_step (fun _ k => XS.aload X98.here hx rfl (hb hby at_80) rfl rfl k) ?_
      show own_Ends p e below F (T98.setTop (mkF m 82 #[.val (.int p1), .val (.int p2), .val (.int p3), .val (.int p4), .val (.int p5), .val (.int (3 : Int32)), .val (.int (3 : Int32)), .val (.ref a93), .val (.int (1 : Int32)), .unset] [(.ref a93)]))
      obtain ⟨cq99, kq99, qa99, qb99, qc99⟩ := isOf hZ rfl fq0_98
      obtain ⟨_, _, ⟨T99, L99, k99, n99⟩, -, X99, ⟨Lc99, hQ99, l99, y99, z99⟩, st99⟩ := X98.virtualBack hx (y := (⟨"com/example/concept_reasoner/conceptreasoner/completion/IntList", "removeLast", "()I"⟩ : MethodName)) (z := (⟨"com/example/concept_reasoner/conceptreasoner/completion/IntList", "removeLast", "()I"⟩ : MethodName)) hown (mvT hZ (own_g hw 41 rfl)) (mvT hZ (own_g hw 42 rfl)) (notFace_of_selects (args := #[]) (mvT hZ (own_g hw 44 rfl))) (mvT hZ (own_g hw 44 rfl)) (mvT hZ (own_g hw 43 rfl)) (by decide) (backOf (W := 0) (rm8 l Z a0 hw [] a93 c96 (3 : Int32) p5 kc96 [(.int p3), (.int p4), (.int p5), (.int (0 : Int32))] T98.heap n0 Z98 fq0_98 ge_a93 fs98 fq2_98 fv98 (Ne.symm ne_a93_c96) (by decide) ⟨by decide, by decide⟩ rfl) hZ (own_g hw 45 rfl) (own_g hw 2 rfl) (by decide) (by decide)) qa99 qc99 (g := (mkF m 82 #[.val (.int p1), .val (.int p2), .val (.int p3), .val (.int p4), .val (.int p5), .val (.int (3 : Int32)), .val (.int (3 : Int32)), .val (.ref a93), .val (.int (1 : Int32)), .unset] [(.ref a93)])) rfl (by rw [hml]; rfl) (Steps.refl _) (argsL := []) (rest := []) (lenOf pd__28_29I rfl) rfl (by show 2 * 0 + _ ≤ _; exact Nat.le_of_eq rfl) (hb hby at_82) (fun _ _ => ⟨rfl, rfl, (by decide : 2 + 0 ≤ _), (by decide : 6 + 0 ≤ _)⟩)
      dsimp only [Pt.U, Pt.locs, Pt.cells, Pt.slots] at X99 l99 y99 z99 st99 hQ99
      subst l99 y99 z99
      obtain ⟨rfl, Nq99, Kq99, fq0_99, fq1_99, fq2_99⟩ := hQ99
      have N99 := Fr.app N98 Nq99
      have Z99 : n0 ≤ T99.heap.size := Nat.le_trans Z98 Kq99.1
      have SZ99 : h0.size ≤ T99.heap.size := Nat.le_trans SZ98 Kq99.1
      have S0_99 := own_Sta_keep S0_98 Kq99 (allS (own_ns_exa fq0_98) all0)
      have fs99 : Fld Z T99.heap a93 "com/example/concept_reasoner/conceptreasoner/completion/IntList" "size" "I" (.int (2 : Int32)) := fq1_99
      refine own_trans st99 ?_
      show own_Ends p e below F (T99.setTop (mkF m 85 #[.val (.int p1), .val (.int p2), .val (.int p3), .val (.int p4), .val (.int p5), .val (.int (3 : Int32)), .val (.int (3 : Int32)), .val (.ref a93), .val (.int (1 : Int32)), .unset] [(.int p5)]))
      refine own_step (fun _ k => XS.pop X99.here hx rfl (hb hby at_85) rfl rfl k) ?_
      show own_Ends p e below F (T99.setTop (mkF m 86 #[.val (.int p1), .val (.int p2), .val (.int p3), .val (.int p4), .val (.int p5), .val (.int (3 : Int32)), .val (.int (3 : Int32)), .val (.ref a93), .val (.int (1 : Int32)), .unset] []))
      refine own_step (fun _ k => XS.iload X99.here hx rfl (hb hby at_86) rfl k) ?_
      show own_Ends p e below F (T99.setTop (mkF m 88 #[.val (.int p1), .val (.int p2), .val (.int p3), .val (.int p4), .val (.int p5), .val (.int (3 : Int32)), .val (.int (3 : Int32)), .val (.ref a93), .val (.int (1 : Int32)), .unset] [(.int (3 : Int32))]))
      refine own_step (fun _ k => XS.iconst X99.here hx rfl (hb hby at_88) k) ?_
      show own_Ends p e below F (T99.setTop (mkF m 89 #[.val (.int p1), .val (.int p2), .val (.int p3), .val (.int p4), .val (.int p5), .val (.int (3 : Int32)), .val (.int (3 : Int32)), .val (.ref a93), .val (.int (1 : Int32)), .unset] [(.int (2 : Int32)), (.int (3 : Int32))]))
      refine own_step (fun _ k => XS.icmpNo X99.here hx rfl (hb hby at_89) rfl (flt (by decide : ¬ ((3 : Int32) < (2 : Int32)))).1 k) ?_
      show own_Ends p e below F (T99.setTop (mkF m 92 #[.val (.int p1), .val (.int p2), .val (.int p3), .val (.int p4), .val (.int p5), .val (.int (3 : Int32)), .val (.int (3 : Int32)), .val (.ref a93), .val (.int (1 : Int32)), .unset] []))
      refine own_step (fun _ k => XS.aload X99.here hx rfl (hb hby at_92) rfl rfl k) ?_
      show own_Ends p e below F (T99.setTop (mkF m 94 #[.val (.int p1), .val (.int p2), .val (.int p3), .val (.int p4), .val (.int p5), .val (.int (3 : Int32)), .val (.int (3 : Int32)), .val (.ref a93), .val (.int (1 : Int32)), .unset] [(.ref a93)]))
      obtain ⟨cq100, kq100, qa100, qb100, qc100⟩ := isOf hZ rfl fq0_99
      obtain ⟨_, _, ⟨T100, L100, k100, n100⟩, -, X100, ⟨Lc100, hQ100, l100, y100, z100⟩, st100⟩ := X99.virtualBack hx (y := (⟨"com/example/concept_reasoner/conceptreasoner/completion/IntList", "removeLast", "()I"⟩ : MethodName)) (z := (⟨"com/example/concept_reasoner/conceptreasoner/completion/IntList", "removeLast", "()I"⟩ : MethodName)) hown (mvT hZ (own_g hw 41 rfl)) (mvT hZ (own_g hw 42 rfl)) (notFace_of_selects (args := #[]) (mvT hZ (own_g hw 44 rfl))) (mvT hZ (own_g hw 44 rfl)) (mvT hZ (own_g hw 43 rfl)) (by decide) (backOf (W := 0) (rm8 l Z a0 hw [] a93 c96 (2 : Int32) p4 kc96 [(.int p3), (.int p4), (.int p5), (.int (0 : Int32))] T99.heap n0 Z99 fq0_99 ge_a93 fs99 fq2_99 (fv98.keep Kq99 (ninS (Ne.symm ne_a93_c96) nin0)) (Ne.symm ne_a93_c96) (by decide) ⟨by decide, by decide⟩ rfl) hZ (own_g hw 45 rfl) (own_g hw 2 rfl) (by decide) (by decide)) qa100 qc100 (g := (mkF m 94 #[.val (.int p1), .val (.int p2), .val (.int p3), .val (.int p4), .val (.int p5), .val (.int (3 : Int32)), .val (.int (3 : Int32)), .val (.ref a93), .val (.int (1 : Int32)), .unset] [(.ref a93)])) rfl (by rw [hml]; rfl) (Steps.refl _) (argsL := []) (rest := []) (lenOf pd__28_29I rfl) rfl (by show 2 * 0 + _ ≤ _; exact Nat.le_of_eq rfl) (hb hby at_94) (fun _ _ => ⟨rfl, rfl, (by decide : 2 + 0 ≤ _), (by decide : 6 + 0 ≤ _)⟩)
      dsimp only [Pt.U, Pt.locs, Pt.cells, Pt.slots] at X100 l100 y100 z100 st100 hQ100
      subst l100 y100 z100
      obtain ⟨rfl, Nq100, Kq100, fq0_100, fq1_100, fq2_100⟩ := hQ100
      have N100 := Fr.app N99 Nq100
      have Z100 : n0 ≤ T100.heap.size := Nat.le_trans Z99 Kq100.1
      have SZ100 : h0.size ≤ T100.heap.size := Nat.le_trans SZ99 Kq100.1
      have S0_100 := own_Sta_keep S0_99 Kq100 (allS (own_ns_exa fq0_99) all0)
      have fs100 : Fld Z T100.heap a93 "com/example/concept_reasoner/conceptreasoner/completion/IntList" "size" "I" (.int (1 : Int32)) := fq1_100
      refine own_trans st100 ?_
      show own_Ends p e below F (T100.setTop (mkF m 97 #[.val (.int p1), .val (.int p2), .val (.int p3), .val (.int p4), .val (.int p5), .val (.int (3 : Int32)), .val (.int (3 : Int32)), .val (.ref a93), .val (.int (1 : Int32)), .unset] [(.int p4)]))
      refine own_step (fun _ k => XS.pop X100.here hx rfl (hb hby at_97) rfl rfl k) ?_
      show own_Ends p e below F (T100.setTop (mkF m 98 #[.val (.int p1), .val (.int p2), .val (.int p3), .val (.int p4), .val (.int p5), .val (.int (3 : Int32)), .val (.int (3 : Int32)), .val (.ref a93), .val (.int (1 : Int32)), .unset] []))
      refine own_step (fun _ k => XS.iload X100.here hx rfl (hb hby at_98) rfl k) ?_
      show own_Ends p e below F (T100.setTop (mkF m 100 #[.val (.int p1), .val (.int p2), .val (.int p3), .val (.int p4), .val (.int p5), .val (.int (3 : Int32)), .val (.int (3 : Int32)), .val (.ref a93), .val (.int (1 : Int32)), .unset] [(.int (3 : Int32))]))
      refine own_step (fun _ k => XS.iconst X100.here hx rfl (hb hby at_100) k) ?_
      show own_Ends p e below F (T100.setTop (mkF m 101 #[.val (.int p1), .val (.int p2), .val (.int p3), .val (.int p4), .val (.int p5), .val (.int (3 : Int32)), .val (.int (3 : Int32)), .val (.ref a93), .val (.int (1 : Int32)), .unset] [(.int (3 : Int32)), (.int (3 : Int32))]))
      refine own_step (fun _ k => XS.icmpNo X100.here hx rfl (hb hby at_101) rfl (flt (by decide : ¬ ((3 : Int32) < (3 : Int32)))).1 k) ?_
      show own_Ends p e below F (T100.setTop (mkF m 104 #[.val (.int p1), .val (.int p2), .val (.int p3), .val (.int p4), .val (.int p5), .val (.int (3 : Int32)), .val (.int (3 : Int32)), .val (.ref a93), .val (.int (1 : Int32)), .unset] []))
      refine own_step (fun _ k => XS.aload X100.here hx rfl (hb hby at_104) rfl rfl k) ?_
      show own_Ends p e below F (T100.setTop (mkF m 106 #[.val (.int p1), .val (.int p2), .val (.int p3), .val (.int p4), .val (.int p5), .val (.int (3 : Int32)), .val (.int (3 : Int32)), .val (.ref a93), .val (.int (1 : Int32)), .unset] [(.ref a93)]))
      obtain ⟨cq101, kq101, qa101, qb101, qc101⟩ := isOf hZ rfl fq0_100
      obtain ⟨_, _, ⟨T101, L101, k101, n101⟩, -, X101, ⟨Lc101, hQ101, l101, y101, z101⟩, st101⟩ := X100.virtualBack hx (y := (⟨"com/example/concept_reasoner/conceptreasoner/completion/IntList", "removeLast", "()I"⟩ : MethodName)) (z := (⟨"com/example/concept_reasoner/conceptreasoner/completion/IntList", "removeLast", "()I"⟩ : MethodName)) hown (mvT hZ (own_g hw 41 rfl)) (mvT hZ (own_g hw 42 rfl)) (notFace_of_selects (args := #[]) (mvT hZ (own_g hw 44 rfl))) (mvT hZ (own_g hw 44 rfl)) (mvT hZ (own_g hw 43 rfl)) (by decide) (backOf (W := 0) (rm8 l Z a0 hw [] a93 c96 (1 : Int32) p3 kc96 [(.int p3), (.int p4), (.int p5), (.int (0 : Int32))] T100.heap n0 Z100 fq0_100 ge_a93 fs100 fq2_100 ((fv98.keep Kq99 (ninS (Ne.symm ne_a93_c96) nin0)).keep Kq100 (ninS (Ne.symm ne_a93_c96) nin0)) (Ne.symm ne_a93_c96) (by decide) ⟨by decide, by decide⟩ rfl) hZ (own_g hw 45 rfl) (own_g hw 2 rfl) (by decide) (by decide)) qa101 qc101 (g := (mkF m 106 #[.val (.int p1), .val (.int p2), .val (.int p3), .val (.int p4), .val (.int p5), .val (.int (3 : Int32)), .val (.int (3 : Int32)), .val (.ref a93), .val (.int (1 : Int32)), .unset] [(.ref a93)])) rfl (by rw [hml]; rfl) (Steps.refl _) (argsL := []) (rest := []) (lenOf pd__28_29I rfl) rfl (by show 2 * 0 + _ ≤ _; exact Nat.le_of_eq rfl) (hb hby at_106) (fun _ _ => ⟨rfl, rfl, (by decide : 2 + 0 ≤ _), (by decide : 6 + 0 ≤ _)⟩)
      dsimp only [Pt.U, Pt.locs, Pt.cells, Pt.slots] at X101 l101 y101 z101 st101 hQ101
      subst l101 y101 z101
      obtain ⟨rfl, Nq101, Kq101, fq0_101, fq1_101, fq2_101⟩ := hQ101
      have N101 := Fr.app N100 Nq101
      have Z101 : n0 ≤ T101.heap.size := Nat.le_trans Z100 Kq101.1
      have SZ101 : h0.size ≤ T101.heap.size := Nat.le_trans SZ100 Kq101.1
      have S0_101 := own_Sta_keep S0_100 Kq101 (allS (own_ns_exa fq0_100) all0)
      have fs101 : Fld Z T101.heap a93 "com/example/concept_reasoner/conceptreasoner/completion/IntList" "size" "I" (.int (0 : Int32)) := fq1_101
      refine own_trans st101 ?_
      show own_Ends p e below F (T101.setTop (mkF m 109 #[.val (.int p1), .val (.int p2), .val (.int p3), .val (.int p4), .val (.int p5), .val (.int (3 : Int32)), .val (.int (3 : Int32)), .val (.ref a93), .val (.int (1 : Int32)), .unset] [(.int p3)]))
      refine own_step (fun _ k => XS.pop X101.here hx rfl (hb hby at_109) rfl rfl k) ?_
      show own_Ends p e below F (T101.setTop (mkF m 110 #[.val (.int p1), .val (.int p2), .val (.int p3), .val (.int p4), .val (.int p5), .val (.int (3 : Int32)), .val (.int (3 : Int32)), .val (.ref a93), .val (.int (1 : Int32)), .unset] []))
      refine own_step (fun _ k => XS.iload X101.here hx rfl (hb hby at_110) rfl k) ?_
      show own_Ends p e below F (T101.setTop (mkF m 112 #[.val (.int p1), .val (.int p2), .val (.int p3), .val (.int p4), .val (.int p5), .val (.int (3 : Int32)), .val (.int (3 : Int32)), .val (.ref a93), .val (.int (1 : Int32)), .unset] [(.int (3 : Int32))]))
      refine own_step (fun _ k => XS.iload X101.here hx rfl (hb hby at_112) rfl k) ?_
      show own_Ends p e below F (T101.setTop (mkF m 114 #[.val (.int p1), .val (.int p2), .val (.int p3), .val (.int p4), .val (.int p5), .val (.int (3 : Int32)), .val (.int (3 : Int32)), .val (.ref a93), .val (.int (1 : Int32)), .unset] [(.int (3 : Int32)), (.int (3 : Int32))]))
      refine own_step (fun _ k => XS.isub X101.here hx rfl (hb hby at_114) rfl k) ?_
      show own_Ends p e below F (T101.setTop (mkF m 115 #[.val (.int p1), .val (.int p2), .val (.int p3), .val (.int p4), .val (.int p5), .val (.int (3 : Int32)), .val (.int (3 : Int32)), .val (.ref a93), .val (.int (1 : Int32)), .unset] [(.int (0 : Int32))]))
      refine own_step (fun _ k => XS.ifNo X101.here hx rfl (hb hby at_115) rfl ((if0 _ _).trans (teq (by decide : (0 : Int32) = (0 : Int32))).2) k) ?_
      show own_Ends p e below F (T101.setTop (mkF m 118 #[.val (.int p1), .val (.int p2), .val (.int p3), .val (.int p4), .val (.int p5), .val (.int (3 : Int32)), .val (.int (3 : Int32)), .val (.ref a93), .val (.int (1 : Int32)), .unset] []))
      refine own_step (fun _ k => XS.iconst X101.here hx rfl (hb hby at_118) k) ?_
      show own_Ends p e below F (T101.setTop (mkF m 119 #[.val (.int p1), .val (.int p2), .val (.int p3), .val (.int p4), .val (.int p5), .val (.int (3 : Int32)), .val (.int (3 : Int32)), .val (.ref a93), .val (.int (1 : Int32)), .unset] [(.int (1 : Int32))]))
      refine own_step (fun _ k => XS.goto X101.here hx rfl (pc0 := 119) (pc' := 123) rfl (hb hby at_119) (by decide) (by decide) k) ?_
      show own_Ends p e below F (T101.setTop (mkF m 123 #[.val (.int p1), .val (.int p2), .val (.int p3), .val (.int p4), .val (.int p5), .val (.int (3 : Int32)), .val (.int (3 : Int32)), .val (.ref a93), .val (.int (1 : Int32)), .unset] [(.int (1 : Int32))]))
      refine own_step (fun _ k => XS.istore X101.here hx rfl (hb hby at_123) rfl (l' := #[.val (.int p1), .val (.int p2), .val (.int p3), .val (.int p4), .val (.int p5), .val (.int (3 : Int32)), .val (.int (3 : Int32)), .val (.ref a93), .val (.int (1 : Int32)), .val (.int (1 : Int32))]) rfl k) ?_
      show own_Ends p e below F (T101.setTop (mkF m 125 #[.val (.int p1), .val (.int p2), .val (.int p3), .val (.int p4), .val (.int p5), .val (.int (3 : Int32)), .val (.int (3 : Int32)), .val (.ref a93), .val (.int (1 : Int32)), .val (.int (1 : Int32))] []))
      refine own_step (fun _ k => XS.iload X101.here hx rfl (hb hby at_125) rfl k) ?_
      show own_Ends p e below F (T101.setTop (mkF m 127 #[.val (.int p1), .val (.int p2), .val (.int p3), .val (.int p4), .val (.int p5), .val (.int (3 : Int32)), .val (.int (3 : Int32)), .val (.ref a93), .val (.int (1 : Int32)), .val (.int (1 : Int32))] [(.int (1 : Int32))]))
      refine own_step (fun _ k => XS.ifNo X101.here hx rfl (hb hby at_127) rfl ((if0 _ _).trans (feq (by decide : ¬ ((1 : Int32) = (0 : Int32)))).1) k) ?_
      show own_Ends p e below F (T101.setTop (mkF m 130 #[.val (.int p1), .val (.int p2), .val (.int p3), .val (.int p4), .val (.int p5), .val (.int (3 : Int32)), .val (.int (3 : Int32)), .val (.ref a93), .val (.int (1 : Int32)), .val (.int (1 : Int32))] []))
      refine own_step (fun _ k => XS.aload X101.here hx rfl (hb hby at_130) rfl rfl k) ?_
      show own_Ends p e below F (T101.setTop (mkF m 132 #[.val (.int p1), .val (.int p2), .val (.int p3), .val (.int p4), .val (.int p5), .val (.int (3 : Int32)), .val (.int (3 : Int32)), .val (.ref a93), .val (.int (1 : Int32)), .val (.int (1 : Int32))] [(.ref a93)]))
      obtain ⟨cq102, kq102, qa102, qb102, qc102⟩ := isOf hZ rfl fq0_101
      obtain ⟨_, _, ⟨T102, L102, k102, n102⟩, -, X102, ⟨Lc102, hQ102, l102, y102, z102⟩, st102⟩ := X101.virtualBack hx (y := (⟨"com/example/concept_reasoner/conceptreasoner/completion/IntList", "isEmpty", "()Z"⟩ : MethodName)) (z := (⟨"com/example/concept_reasoner/conceptreasoner/completion/IntList", "isEmpty", "()Z"⟩ : MethodName)) hown (mvT hZ (own_g hw 13 rfl)) (mvT hZ (own_g hw 14 rfl)) (notFace_of_selects (args := #[]) (mvT hZ (own_g hw 16 rfl))) (mvT hZ (own_g hw 16 rfl)) (mvT hZ (own_g hw 15 rfl)) (by decide) (backOf (W := 0) (rm3 l Z a0 hw [] a93 (0 : Int32) T101.heap n0 Z101 fs101) hZ (own_g hw 17 rfl) (own_g hw 2 rfl) (by decide) (by decide)) qa102 qc102 (g := (mkF m 132 #[.val (.int p1), .val (.int p2), .val (.int p3), .val (.int p4), .val (.int p5), .val (.int (3 : Int32)), .val (.int (3 : Int32)), .val (.ref a93), .val (.int (1 : Int32)), .val (.int (1 : Int32))] [(.ref a93)])) rfl (by rw [hml]; rfl) (Steps.refl _) (argsL := []) (rest := []) (lenOf pd__28_29Z rfl) rfl (by show 2 * 0 + _ ≤ _; exact Nat.le_of_eq rfl) (hb hby at_132) (fun _ _ => ⟨rfl, rfl, (by decide : 2 + 0 ≤ _), (by decide : 6 + 0 ≤ _)⟩)
      dsimp only [Pt.U, Pt.locs, Pt.cells, Pt.slots] at X102 l102 y102 z102 st102 hQ102
      subst l102 y102 z102
      obtain ⟨rfl, Nq102, eq102⟩ := hQ102
      have N102 := Fr.app N101 Nq102
      refine own_trans st102 ?_
      show own_Ends p e below F (T102.setTop (mkF m 135 #[.val (.int p1), .val (.int p2), .val (.int p3), .val (.int p4), .val (.int p5), .val (.int (3 : Int32)), .val (.int (3 : Int32)), .val (.ref a93), .val (.int (1 : Int32)), .val (.int (1 : Int32))] [(.int (own_emp (0 : Int32)))]))
      rw [show (own_emp (0 : Int32)) = (1 : Int32) from (by first | rfl | decide)]
      show own_Ends p e below F (T102.setTop (mkF m 135 #[.val (.int p1), .val (.int p2), .val (.int p3), .val (.int p4), .val (.int p5), .val (.int (3 : Int32)), .val (.int (3 : Int32)), .val (.ref a93), .val (.int (1 : Int32)), .val (.int (1 : Int32))] [(.int (1 : Int32))]))
      refine own_step (fun _ k => XS.iload X102.here hx rfl (hb hby at_135) rfl k) ?_
      show own_Ends p e below F (T102.setTop (mkF m 137 #[.val (.int p1), .val (.int p2), .val (.int p3), .val (.int p4), .val (.int p5), .val (.int (3 : Int32)), .val (.int (3 : Int32)), .val (.ref a93), .val (.int (1 : Int32)), .val (.int (1 : Int32))] [(.int (1 : Int32)), (.int (1 : Int32))]))
      refine own_step (fun _ k => XS.icmpNo X102.here hx rfl (hb hby at_137) rfl (teq (by decide : (1 : Int32) = (1 : Int32))).2 k) ?_
      show own_Ends p e below F (T102.setTop (mkF m 140 #[.val (.int p1), .val (.int p2), .val (.int p3), .val (.int p4), .val (.int p5), .val (.int (3 : Int32)), .val (.int (3 : Int32)), .val (.ref a93), .val (.int (1 : Int32)), .val (.int (1 : Int32))] []))
      refine own_step (fun _ k => XS.iconst X102.here hx rfl (hb hby at_140) k) ?_
      show own_Ends p e below F (T102.setTop (mkF m 141 #[.val (.int p1), .val (.int p2), .val (.int p3), .val (.int p4), .val (.int p5), .val (.int (3 : Int32)), .val (.int (3 : Int32)), .val (.ref a93), .val (.int (1 : Int32)), .val (.int (1 : Int32))] [(.int (1 : Int32))]))
      refine own_step (fun _ k => XS.goto X102.here hx rfl (pc0 := 141) (pc' := 145) rfl (hb hby at_141) (by decide) (by decide) k) ?_
      show own_Ends p e below F (T102.setTop (mkF m 145 #[.val (.int p1), .val (.int p2), .val (.int p3), .val (.int p4), .val (.int p5), .val (.int (3 : Int32)), .val (.int (3 : Int32)), .val (.ref a93), .val (.int (1 : Int32)), .val (.int (1 : Int32))] [(.int (1 : Int32))]))
      rw [hF]
      exact own_ret X102 (v := (some (.int (nar .boolean (1 : Int32))))) (fun h => by rw [Bd.returns] at h; cases h) Bd.notSynchronized (fun fs hr => retN X102 hx (t := .boolean) Bd.returns (by simp) (hb hby at_145) hr) (by decide) (by decide) (by rw [eq102]; exact ⟨rfl, N102⟩)

set_option maxRecDepth 65536 in
set_option maxHeartbeats 40000000 in
theorem comes_1 {Post : Tables → Env → Array Value → State → Outcome → State → Prop} (hpost : ∀ tb e args s v u, (limb_1_1.after args s (.returned v) u = true ∧ limb_1_2.after args s (.returned v) u = true ∧ True) → FrameEnd s (.returned v) u (Jvm.fieldLocs frame_1_writes args s ++ Jvm.arrayLocs frame_1_arrays args s ++ Jvm.staticLocs frame_1_statics s) 16 128 → Post tb e args s (.returned v) u) :
    ArmFor flags0 classFile x code maxLocals ret World_1 tables_1 room_1 Calls_1 rest_1 Pre_1 Post := by
  intro l hfl _ _ p e ha hc hk s m args below hf hA hF happ hP
  obtain ⟨hcalls, hrest, hpre⟩ := hP
  obtain ⟨-, -, -, hnamed, -, -, -, hat⟩ := (Spec.applies_iff hf).mp happ
  obtain ⟨hg, hn⟩ := and_e (Cond.before_iff.mp (show (Jvm.Cond.and given_1 narrow_1).before args s = true from hpre))
  obtain ⟨g0, r0⟩ := and_e hg
  obtain ⟨g1, r1⟩ := and_e r0
  obtain ⟨g2, r2⟩ := and_e r1
  obtain ⟨g3, r3⟩ := and_e r2
  obtain ⟨g4, r4⟩ := and_e r3
  have g5 := r4
  obtain ⟨w0, w1, w2, w3, w4, rfl⟩ : ∃ w0 w1 w2 w3 w4 : Value, args = #[w0, w1, w2, w3, w4] := by
    have hs : args.size = 5 := by simpa [Cond.value, given_1] using g0
    obtain ⟨L⟩ := args
    match L, hs with
    | [w0, w1, w2, w3, w4], _ => exact ⟨w0, w1, w2, w3, w4, rfl⟩
  have hw := fun d (hd : d ∈ tables_1) => atoms_spec (ws := Jvm.Cond.code x code maxLocals ret :: tables_1) hat d (List.mem_cons_of_mem _ hd)
  have hfit : Fit s := fun {y c} hc i hi => by
    obtain ⟨ha, rfl⟩ := Array.getElem?_eq_some_iff.mp hc
    have q := List.all_eq_true.mp ((Array.all_eq_true_iff_forall_mem.mp hF) _ (Array.getElem_mem ha)) i (List.mem_range.mpr hi)
    simpa [Array.getElem?_eq_getElem hi] using q
  obtain ⟨i0, ei0⟩ := is_v g1
  obtain rfl : w0 = (.int i0) := Option.some.inj ei0
  obtain ⟨i1, ei1⟩ := is_v g2
  obtain rfl : w1 = (.int i1) := Option.some.inj ei1
  obtain ⟨i2, ei2⟩ := is_v g3
  obtain rfl : w2 = (.int i2) := Option.some.inj ei2
  obtain ⟨i3, ei3⟩ := is_v g4
  obtain rfl : w3 = (.int i3) := Option.some.inj ei3
  obtain ⟨i4, ei4⟩ := is_v g5
  obtain rfl : w4 = (.int i4) := Option.some.inj ei4
  obtain ⟨hn1, hn2⟩ := and_e hn
  obtain ⟨-, hn3⟩ := and_e hn2
  obtain ⟨nn, enn⟩ := arr_v hn1
  have SN : Sta s s.heap "com/example/concept_reasoner/conceptreasoner/completion/IntList" "NONE" "[I" (.ref nn) := Sta.start enn (Or.inr ⟨hw _ (List.mem_of_getElem? (i := 2) rfl), hw _ (List.mem_of_getElem? (i := 10) rfl)⟩)
  obtain ⟨cN, AN⟩ := Arr.start enn hn1
  obtain ⟨q31, z31⟩ := own_len enn AN hn3
  have VN : Arv s s.heap nn cN.cls .int (0 : Int32) [] (.int (0 : Int32)) := Arv.start hfit AN q31 z31 (by decide) rfl trivial
  obtain ⟨n, o, h1, h2, h3, _, L, rfl, ⟨rfl, N⟩, hq⟩ := rm0 l s _ hw tables_1 i0 i1 i2 i3 i4 nn cN.cls s.heap s.heap.size (Nat.le_refl _) SN VN p e ha hc hk s m _ below hf ((Spec.applies_iff_loose hf).mp happ).1 ⟨rfl, State.Warmed39.refl s, rfl⟩ trivial
  refine ⟨n, _, h1, h2, h3, hpost _ _ _ _ _ _ ⟨Cond.after_iff.mpr rfl, Cond.after_iff.mpr (eq_i res_at (Term.int_eval (1)) rfl), trivial⟩ ⟨hq.1, hq.2.1, (hq.2.2.sift fun y hy => Or.inr (N y hy)).mono (by decide) (by decide)⟩⟩
theorem main_1_1 : Claimed_1_1 := comes_1 fun _ _ _ _ _ _ h hF => ⟨h.1, hF⟩
theorem main_1_2 : Claimed_1_2 := comes_1 fun _ _ _ _ _ _ h hF => ⟨h.2.1, hF⟩

end Jvm.Pilot.@@N@@
namespace Jvm.Pilot.@@N@@
open Jvm Jvm.ClassFile Sem Op Lib Jvm.Free Jvm.Stand Jvm.Pilot.@@N@@.Jvm.D
/-! MADE BY PROGRAM (witnessworld.py) out of the Statement's table words and the real class files: 12 classes; the members and pool entries that the words name. The judged class is class 1, her method 1. -/
namespace start1
open Jvm.ClassFile
def u (s : String) : CpInfo := .utf8 (stringToUtf16 s)
/-- a pool by its gaps: so many unusable entries, then the entry; so many at the end -/
def gap : Nat → List CpInfo → List CpInfo
  | 0, r => r
  | n + 1, r => .unusable :: gap n r
def poolList (es : List (Nat × CpInfo)) (last : Nat) : List CpInfo := es.foldr (fun e r => gap e.1 (e.2 :: r)) (gap last [])
def pool (es : List (Nat × CpInfo)) (last : Nat) : Array CpInfo := ⟨poolList es last⟩
def fileOf (pool : Array CpInfo) (this : Nat) (attrs : Array Attribute := #[]) (ms : Array MethodInfo := #[]) (fl : Nat := 33) (sup : Nat := 0) (ifs : Array Nat := #[]) (fds : Array FieldInfo := #[]) : ClassFile where
  minorVersion := 0
  majorVersion := 65
  constantPool := pool
  accessFlags := fl
  thisClass := this
  superClass := sup
  interfaces := ifs
  fields := fds
  methods := ms
  attributes := attrs
def plain (name : String) (sup : Option ClassId) : Class where
  name := name
  kind := .ordinary
  loader := none
  accessFlags := 33
  super := sup
  interfaces := #[]
  cf := none
  fields := #[]
  methods := #[]
  instanceTypes := #[]
  staticTypes := #[]
  resolved := #[]
  callSites := []
  init := .initialized
  statics := none
  mirror := none

def pool0 : Array CpInfo := pool [(5, u "<init>"), (0, u "()V"), (1, .class_ 10), (1, u "java/lang/Object")] 113

def k0c0 : Code := { maxStack := 0, maxLocals := 1, code := object_method_1_code, exceptionTable := #[], attributes := #[] }
def k0m0 : Method := { name := "<init>", desc := "()V", sig := { parameters := [], returnType := none }, accessFlags := 1, code := some k0c0 }
/-- java/lang/Object -/
def k0 : Class := { plain "java/lang/Object" none with
  accessFlags := 33
  interfaces := #[]
  cf := some (fileOf pool0 8 #[] #[{ accessFlags := 1, nameIndex := 5, descriptorIndex := 6, attributes := #[] }] 33 0 #[] #[])
  fields := #[]
  methods := #[k0m0]
  instanceTypes := #[]
  staticTypes := #[]
  resolved := Array.replicate 124 none
  statics := none }

def pool1 : Array CpInfo := pool [(2, .class_ 4), (0, .nameAndType 5 6), (0, u "java/lang/Object"), (0, u "<init>"), (0, u "()V"), (0, .class_ 8), (0, u "com/example/concept_reasoner/conceptreasoner/completion/IntList"), (0, .methodref 7 3), (0, .methodref 7 11), (0, .nameAndType 12 13), (0, u "isEmpty"), (0, u "()Z"), (0, .methodref 7 15), (0, .nameAndType 16 17), (0, u "add"), (0, u "(I)V"), (0, .methodref 7 19), (0, .nameAndType 20 21), (0, u "removeLast"), (0, u "()I"), (0, .class_ 23), (0, u "com/example/concept_reasoner/conceptreasoner/completion/IntListIsEmptyPinLaw"), (2, u "law"), (0, u "(IIIII)Z")] 3

def k1m0 : Method := { name := "<init>", desc := "()V", sig := { parameters := [], returnType := none }, accessFlags := 1, code := none }
def k1c1 : Code := { maxStack := 2, maxLocals := 10, code := code, exceptionTable := #[], attributes := #[] }
def k1m1 : Method := { name := "law", desc := "(IIIII)Z", sig := { parameters := [.int, .int, .int, .int, .int], returnType := some .boolean }, accessFlags := 9, code := some k1c1 }
/-- com/example/concept_reasoner/conceptreasoner/completion/IntListIsEmptyPinLaw -/
def k1 : Class := { plain "com/example/concept_reasoner/conceptreasoner/completion/IntListIsEmptyPinLaw" (some 0) with
  accessFlags := 49
  interfaces := #[]
  cf := some (fileOf pool1 22 #[] #[{ accessFlags := 1, nameIndex := 5, descriptorIndex := 6, attributes := #[] }, { accessFlags := 9, nameIndex := 26, descriptorIndex := 27, attributes := #[] }] 49 2 #[] #[])
  fields := #[]
  methods := #[k1m0, k1m1]
  instanceTypes := #[]
  staticTypes := #[]
  resolved := Array.replicate 31 none
  statics := none }

def pool2 : Array CpInfo := pool [(1, .methodref 2 3), (0, .class_ 4), (0, .nameAndType 5 6), (0, u "java/lang/Object"), (0, u "<init>"), (0, u "()V"), (0, .fieldref 8 9), (0, .class_ 10), (0, .nameAndType 11 12), (0, u "com/example/concept_reasoner/conceptreasoner/completion/IntList"), (0, u "NONE"), (0, u "[I"), (0, .fieldref 8 14), (0, .nameAndType 15 12), (0, u "values"), (0, .fieldref 8 17), (0, .nameAndType 18 19), (0, u "size"), (0, u "I"), (0, .methodref 21 22), (0, .class_ 23), (0, .nameAndType 24 25), (0, u "java/lang/Math"), (0, u "max"), (0, u "(II)I"), (0, .methodref 27 28), (0, .class_ 29), (0, .nameAndType 30 31), (0, u "java/util/Arrays"), (0, u "copyOf"), (0, u "([II)[I"), (16, u "add"), (0, u "(I)V"), (5, u "()I"), (0, u "isEmpty"), (0, u "()Z"), (0, u "removeLast")] 18

def k2c0 : Code := { maxStack := 2, maxLocals := 1, code := prog_20_method_1_code, exceptionTable := #[], attributes := #[] }
def k2m0 : Method := { name := "<init>", desc := "()V", sig := { parameters := [], returnType := none }, accessFlags := 0, code := some k2c0 }
def k2c1 : Code := { maxStack := 5, maxLocals := 2, code := prog_20_method_2_code, exceptionTable := #[], attributes := #[] }
def k2m1 : Method := { name := "add", desc := "(I)V", sig := { parameters := [.int], returnType := none }, accessFlags := 0, code := some k2c1 }
def k2c2 : Code := { maxStack := 1, maxLocals := 1, code := prog_20_method_6_code, exceptionTable := #[], attributes := #[] }
def k2m2 : Method := { name := "isEmpty", desc := "()Z", sig := { parameters := [], returnType := some .boolean }, accessFlags := 0, code := some k2c2 }
def k2c3 : Code := { maxStack := 3, maxLocals := 1, code := prog_20_method_7_code, exceptionTable := #[], attributes := #[] }
def k2m3 : Method := { name := "removeLast", desc := "()I", sig := { parameters := [], returnType := some .int }, accessFlags := 0, code := some k2c3 }
/-- com/example/concept_reasoner/conceptreasoner/completion/IntList -/
def k2 : Class := { plain "com/example/concept_reasoner/conceptreasoner/completion/IntList" (some 0) with
  accessFlags := 32
  interfaces := #[]
  cf := some (fileOf pool2 8 #[] #[{ accessFlags := 0, nameIndex := 5, descriptorIndex := 6, attributes := #[] }, { accessFlags := 0, nameIndex := 48, descriptorIndex := 49, attributes := #[] }, { accessFlags := 0, nameIndex := 56, descriptorIndex := 57, attributes := #[] }, { accessFlags := 0, nameIndex := 58, descriptorIndex := 55, attributes := #[] }] 32 2 #[] #[{ accessFlags := 26, nameIndex := 11, descriptorIndex := 12, attributes := #[] }, { accessFlags := 2, nameIndex := 15, descriptorIndex := 12, attributes := #[] }, { accessFlags := 2, nameIndex := 18, descriptorIndex := 19, attributes := #[] }])
  fields := #[{ name := "NONE", type := (.array .int), accessFlags := 26, slot := 0, constantValue := 0 }, { name := "values", type := (.array .int), accessFlags := 2, slot := 0, constantValue := 0 }, { name := "size", type := .int, accessFlags := 2, slot := 1, constantValue := 0 }]
  methods := #[k2m0, k2m1, k2m2, k2m3]
  instanceTypes := #[(.array .int), .int]
  staticTypes := #[(.array .int)]
  resolved := Array.replicate 77 none
  statics := some 0 }

def pool3 : Array CpInfo := pool [(1, .class_ 2), (0, u "java/lang/Math"), (1, .class_ 6), (1, u "java/lang/Object"), (0, u "<init>"), (0, u "()V"), (89, .class_ 100), (1, u "java/lang/Math$RandomNumberGeneratorHolder"), (71, u "negativeZeroFloatBits"), (0, u "J"), (2, u "negativeZeroDoubleBits"), (21, u "max"), (2, u "min"), (43, u "$assertionsDisabled"), (0, u "Z"), (88, u "(II)I"), (2, u "twoToTheDoubleScaleDown"), (0, u "D"), (4, u "twoToTheDoubleScaleUp"), (9, u "E"), (3, u "PI"), (2, u "TAU"), (2, u "DEGREES_TO_RADIANS"), (0, u "RADIANS_TO_DEGREES")] 94

def k3m0 : Method := { name := "<init>", desc := "()V", sig := { parameters := [], returnType := none }, accessFlags := 2, code := none }
def k3c1 : Code := { maxStack := 2, maxLocals := 2, code := jdk_29_method_65_code, exceptionTable := #[], attributes := #[] }
def k3m1 : Method := { name := "max", desc := "(II)I", sig := { parameters := [.int, .int], returnType := some .int }, accessFlags := 9, code := some k3c1 }
def k3c2 : Code := { maxStack := 2, maxLocals := 2, code := jdk_29_method_69_code, exceptionTable := #[], attributes := #[] }
def k3m2 : Method := { name := "min", desc := "(II)I", sig := { parameters := [.int, .int], returnType := some .int }, accessFlags := 9, code := some k3c2 }
/-- java/lang/Math -/
def k3 : Class := { plain "java/lang/Math" (some 0) with
  accessFlags := 49
  interfaces := #[]
  cf := some (fileOf pool3 1 #[.nestMembers #[98]] #[{ accessFlags := 2, nameIndex := 7, descriptorIndex := 8, attributes := #[] }, { accessFlags := 9, nameIndex := 198, descriptorIndex := 335, attributes := #[] }, { accessFlags := 9, nameIndex := 201, descriptorIndex := 335, attributes := #[] }] 49 4 #[] #[{ accessFlags := 25, nameIndex := 354, descriptorIndex := 339, attributes := #[] }, { accessFlags := 25, nameIndex := 358, descriptorIndex := 339, attributes := #[] }, { accessFlags := 25, nameIndex := 361, descriptorIndex := 339, attributes := #[] }, { accessFlags := 26, nameIndex := 364, descriptorIndex := 339, attributes := #[] }, { accessFlags := 26, nameIndex := 365, descriptorIndex := 339, attributes := #[] }, { accessFlags := 26, nameIndex := 172, descriptorIndex := 173, attributes := #[] }, { accessFlags := 26, nameIndex := 176, descriptorIndex := 173, attributes := #[] }, { accessFlags := 8, nameIndex := 344, descriptorIndex := 339, attributes := #[] }, { accessFlags := 8, nameIndex := 338, descriptorIndex := 339, attributes := #[] }, { accessFlags := 4120, nameIndex := 245, descriptorIndex := 246, attributes := #[] }])
  fields := #[{ name := "E", type := .double, accessFlags := 25, slot := 0, constantValue := 0 }, { name := "PI", type := .double, accessFlags := 25, slot := 1, constantValue := 0 }, { name := "TAU", type := .double, accessFlags := 25, slot := 2, constantValue := 0 }, { name := "DEGREES_TO_RADIANS", type := .double, accessFlags := 26, slot := 3, constantValue := 0 }, { name := "RADIANS_TO_DEGREES", type := .double, accessFlags := 26, slot := 4, constantValue := 0 }, { name := "negativeZeroFloatBits", type := .long, accessFlags := 26, slot := 5, constantValue := 0 }, { name := "negativeZeroDoubleBits", type := .long, accessFlags := 26, slot := 6, constantValue := 0 }, { name := "twoToTheDoubleScaleUp", type := .double, accessFlags := 8, slot := 7, constantValue := 0 }, { name := "twoToTheDoubleScaleDown", type := .double, accessFlags := 8, slot := 8, constantValue := 0 }, { name := "$assertionsDisabled", type := .boolean, accessFlags := 4120, slot := 9, constantValue := 0 }]
  methods := #[k3m0, k3m1, k3m2]
  instanceTypes := #[]
  staticTypes := #[.double, .double, .double, .double, .double, .long, .long, .double, .double, .boolean]
  resolved := Array.replicate 460 none
  statics := none }

def pool4 : Array CpInfo := pool [(2, .class_ 4), (1, u "java/lang/Object"), (0, u "<init>"), (0, u "()V"), (7, .class_ 16), (1, u "java/util/Arrays"), (57, .class_ 76), (1, u "java/util/Arrays$NaturalOrder"), (36, .class_ 115), (1, u "java/util/Arrays$LegacyMergeSort"), (1, u "Z"), (32, .methodref 151 152), (0, .class_ 153), (0, .nameAndType 154 155), (0, u "java/lang/System"), (0, u "arraycopy"), (0, u "(Ljava/lang/Object;ILjava/lang/Object;II)V"), (146, u "copyOf"), (1, .methodref 305 306), (0, .class_ 307), (0, .nameAndType 308 309), (0, u "java/lang/Math"), (0, u "min"), (0, u "(II)I"), (65, .class_ 376), (0, u "java/util/Arrays$ArrayList"), (68, u "$assertionsDisabled"), (269, u "MIN_ARRAY_SORT_GRAN"), (0, u "I"), (2, u "INSERTIONSORT_THRESHOLD"), (151, u "([II)[I"), (103, .class_ 976), (0, u "java/util/Arrays$ArrayItr")] 52

def k4m0 : Method := { name := "<init>", desc := "()V", sig := { parameters := [], returnType := none }, accessFlags := 2, code := none }
def k4c1 : Code := { maxStack := 6, maxLocals := 3, code := jdk_65_method_123_code, exceptionTable := #[], attributes := #[] }
def k4m1 : Method := { name := "copyOf", desc := "([II)[I", sig := { parameters := [(.array .int), .int], returnType := some (.array .int) }, accessFlags := 9, code := some k4c1 }
/-- java/util/Arrays -/
def k4 : Class := { plain "java/util/Arrays" (some 0) with
  accessFlags := 49
  interfaces := #[]
  cf := some (fileOf pool4 14 #[.nestMembers #[975, 375, 113, 74]] #[{ accessFlags := 2, nameIndex := 5, descriptorIndex := 6, attributes := #[] }, { accessFlags := 9, nameIndex := 302, descriptorIndex := 871, attributes := #[] }] 49 2 #[] #[{ accessFlags := 26, nameIndex := 715, descriptorIndex := 716, attributes := #[] }, { accessFlags := 26, nameIndex := 719, descriptorIndex := 716, attributes := #[] }, { accessFlags := 4120, nameIndex := 445, descriptorIndex := 117, attributes := #[] }])
  fields := #[{ name := "MIN_ARRAY_SORT_GRAN", type := .int, accessFlags := 26, slot := 0, constantValue := 0 }, { name := "INSERTIONSORT_THRESHOLD", type := .int, accessFlags := 26, slot := 1, constantValue := 0 }, { name := "$assertionsDisabled", type := .boolean, accessFlags := 4120, slot := 2, constantValue := 0 }]
  methods := #[k4m0, k4m1]
  instanceTypes := #[]
  staticTypes := #[.int, .int, .boolean]
  resolved := Array.replicate 1029 none
  statics := none }

def pool5 : Array CpInfo := pool [(2, .class_ 4), (1, u "java/lang/Object"), (0, u "<init>"), (0, u "()V"), (1, .class_ 10), (1, u "java/lang/System"), (0, u "allowSecurityManager"), (0, u "I"), (16, u "cons"), (0, u "Ljava/io/Console;"), (77, .class_ 110), (1, u "java/lang/System$CallersHolder"), (43, u "initialErrStream"), (0, u "Ljava/io/PrintStream;"), (19, u "security"), (0, u "Ljava/lang/SecurityManager;"), (31, .class_ 209), (0, u "java/lang/System$1"), (7, u "props"), (0, u "Ljava/util/Properties;"), (2, u "lineSeparator"), (0, u "Ljava/lang/String;"), (96, .class_ 321), (1, u "java/lang/System$LoggerFinder"), (5, .class_ 328), (0, u "java/lang/System$Logger"), (67, u "err"), (2, u "out"), (91, u "notSupportedJnuEncoding"), (15, u "in"), (17, u "initialIn"), (0, u "Ljava/io/InputStream;"), (35, u "bootLayer"), (0, u "Ljava/lang/ModuleLayer;"), (99, .class_ 664), (0, u "java/lang/System$2"), (9, u "NEVER"), (2, u "MAYBE"), (49, u "arraycopy"), (0, u "(Ljava/lang/Object;ILjava/lang/Object;II)V"), (72, .class_ 802), (0, u "java/lang/System$Logger$Level")] 31

def k5m0 : Method := { name := "<init>", desc := "()V", sig := { parameters := [], returnType := none }, accessFlags := 2, code := none }
def k5m1 : Method := { name := "arraycopy", desc := "(Ljava/lang/Object;ILjava/lang/Object;II)V", sig := { parameters := [(.object "java/lang/Object"), .int, (.object "java/lang/Object"), .int, .int], returnType := none }, accessFlags := 265, code := none }
/-- java/lang/System -/
def k5 : Class := { plain "java/lang/System" (some 0) with
  accessFlags := 49
  interfaces := #[]
  cf := some (fileOf pool5 8 #[.nestMembers #[319, 327, 801, 108, 663, 208]] #[{ accessFlags := 2, nameIndex := 5, descriptorIndex := 6, attributes := #[] }, { accessFlags := 265, nameIndex := 727, descriptorIndex := 728, attributes := #[] }] 49 2 #[] #[{ accessFlags := 25, nameIndex := 507, descriptorIndex := 526, attributes := #[] }, { accessFlags := 25, nameIndex := 399, descriptorIndex := 155, attributes := #[] }, { accessFlags := 25, nameIndex := 396, descriptorIndex := 155, attributes := #[] }, { accessFlags := 10, nameIndex := 525, descriptorIndex := 526, attributes := #[] }, { accessFlags := 26, nameIndex := 674, descriptorIndex := 12, attributes := #[] }, { accessFlags := 26, nameIndex := 677, descriptorIndex := 12, attributes := #[] }, { accessFlags := 10, nameIndex := 11, descriptorIndex := 12, attributes := #[] }, { accessFlags := 74, nameIndex := 175, descriptorIndex := 176, attributes := #[] }, { accessFlags := 10, nameIndex := 491, descriptorIndex := 222, attributes := #[] }, { accessFlags := 74, nameIndex := 29, descriptorIndex := 30, attributes := #[] }, { accessFlags := 74, nameIndex := 154, descriptorIndex := 155, attributes := #[] }, { accessFlags := 10, nameIndex := 217, descriptorIndex := 218, attributes := #[] }, { accessFlags := 10, nameIndex := 221, descriptorIndex := 222, attributes := #[] }, { accessFlags := 8, nameIndex := 562, descriptorIndex := 563, attributes := #[] }])
  fields := #[{ name := "in", type := (.object "java/io/InputStream"), accessFlags := 25, slot := 0, constantValue := 0 }, { name := "out", type := (.object "java/io/PrintStream"), accessFlags := 25, slot := 1, constantValue := 0 }, { name := "err", type := (.object "java/io/PrintStream"), accessFlags := 25, slot := 2, constantValue := 0 }, { name := "initialIn", type := (.object "java/io/InputStream"), accessFlags := 10, slot := 3, constantValue := 0 }, { name := "NEVER", type := .int, accessFlags := 26, slot := 4, constantValue := 0 }, { name := "MAYBE", type := .int, accessFlags := 26, slot := 5, constantValue := 0 }, { name := "allowSecurityManager", type := .int, accessFlags := 10, slot := 6, constantValue := 0 }, { name := "security", type := (.object "java/lang/SecurityManager"), accessFlags := 74, slot := 7, constantValue := 0 }, { name := "notSupportedJnuEncoding", type := (.object "java/lang/String"), accessFlags := 10, slot := 8, constantValue := 0 }, { name := "cons", type := (.object "java/io/Console"), accessFlags := 74, slot := 9, constantValue := 0 }, { name := "initialErrStream", type := (.object "java/io/PrintStream"), accessFlags := 74, slot := 10, constantValue := 0 }, { name := "props", type := (.object "java/util/Properties"), accessFlags := 10, slot := 11, constantValue := 0 }, { name := "lineSeparator", type := (.object "java/lang/String"), accessFlags := 10, slot := 12, constantValue := 0 }, { name := "bootLayer", type := (.object "java/lang/ModuleLayer"), accessFlags := 8, slot := 13, constantValue := 0 }]
  methods := #[k5m0, k5m1]
  instanceTypes := #[]
  staticTypes := #[(.object "java/io/InputStream"), (.object "java/io/PrintStream"), (.object "java/io/PrintStream"), (.object "java/io/InputStream"), .int, .int, .int, (.object "java/lang/SecurityManager"), (.object "java/lang/String"), (.object "java/io/Console"), (.object "java/io/PrintStream"), (.object "java/util/Properties"), (.object "java/lang/String"), (.object "java/lang/ModuleLayer")]
  resolved := Array.replicate 834 none
  statics := none }

def pool6 : Array CpInfo := pool [(1, u "java/lang/Cloneable"), (0, .class_ 1), (0, u "java/lang/Object"), (0, .class_ 3)] 3

/-- java/lang/Cloneable -/
def k6 : Class := { plain "java/lang/Cloneable" (some 0) with
  accessFlags := 1537
  interfaces := #[]
  cf := some (fileOf pool6 2 #[] #[] 1537 4 #[] #[])
  fields := #[]
  methods := #[]
  instanceTypes := #[]
  staticTypes := #[]
  resolved := Array.replicate 8 none
  statics := none }

def pool7 : Array CpInfo := pool [(1, u "java/io/Serializable"), (0, .class_ 1), (0, u "java/lang/Object"), (0, .class_ 3)] 3

/-- java/io/Serializable -/
def k7 : Class := { plain "java/io/Serializable" (some 0) with
  accessFlags := 1537
  interfaces := #[]
  cf := some (fileOf pool7 2 #[] #[] 1537 4 #[] #[])
  fields := #[]
  methods := #[]
  instanceTypes := #[]
  staticTypes := #[]
  resolved := Array.replicate 8 none
  statics := none }

/-- the primitive byte -/
def k8 : Class := { plain "byte" none with kind := .primitive 'B', accessFlags := 0x411 }
/-- [B -/
def k9 : Class := { plain "[B" (some 0) with kind := .array 8 .byte, interfaces := #[6, 7], accessFlags := 1041 }

/-- the primitive int -/
def k10 : Class := { plain "int" none with kind := .primitive 'I', accessFlags := 0x411 }
/-- [I -/
def k11 : Class := { plain "[I" (some 0) with kind := .array 10 .int, interfaces := #[6, 7], accessFlags := 1041 }

def heap : Heap := #[{ cls := 2, slots := #[.ref 1], vm := .statics 2 },
  { cls := 11, slots := #[], vm := .none }]
def classes : Array Class := #[k0, k1, k2, k3, k4, k5, k6, k7, k8, k9, k10, k11]
def interned : List (Array UInt16 × Addr) := []
def slotsUsed : Nat := 1
def theMethod : MethodId := ⟨1, 1⟩
def args0 : Array Value := #[.int 5, .int 6, .int 7, .int 8, .int 9]
def aboutOver (below : List Frame) : State where
  vm := { classes := classes, interned := interned.toArray }
  heap := heap
  slotsUsed := slotsUsed
  threads := #[{ frames := .invoking theMethod args0 :: below }]
def below0 : List Frame := [.native { method := ⟨0, 0⟩, args := #[] }]
def about1 : State := aboutOver below0
def p0 : Program := .bare "" "" ""
def e0 : Env := launch0.env 0 0 0
theorem w_frames : about1.frames = Frame.invoking theMethod args0 :: below0 := rfl
set_option maxRecDepth 65536 in
theorem w_args : argsFit about1.vm theMethod args0 = true := by decide +kernel
set_option maxRecDepth 65536 in
theorem w_heap : heapFits about1 = true := by decide +kernel
set_option maxRecDepth 65536 in
theorem w_runnable : about1.curStatus? = some .runnable := by decide +kernel
set_option maxRecDepth 65536 in
theorem w_alone : about1.alone = true := by decide +kernel
set_option maxRecDepth 65536 in
theorem w_named : about1.methodNamed? x = some theMethod := by decide +kernel
set_option maxRecDepth 65536 in
theorem w_hears : about1.hears theMethod below0 = true := by decide +kernel
set_option maxRecDepth 65536 in
theorem w_ripe : about1.ripe theMethod args0 below0 = true := by decide +kernel
theorem w_running : about1.status = .running := rfl
set_option maxRecDepth 65536 in
theorem w_room : about1.hasRoom e0.platform room_1 = true :=
  launch0.hasRoom_least _ room_1 (by decide +kernel) (by decide +kernel) (by decide +kernel) (by decide +kernel) (by decide +kernel) (by decide +kernel)
theorem allAtoms_all (ts : List Jvm.Cond) (a : Array Jvm.Value) (st : Jvm.State) : (allAtoms ts).before a st = ts.all (fun c => c.before a st) := by
  induction ts with
  | nil => rfl
  | cons c t ih =>
    show (Jvm.Cond.and c (allAtoms t)).before a st = _
    rw [Jvm.Cond.before_and, ih, List.all_cons]
def words1 : List Jvm.Cond := Jvm.Cond.code x code maxLocals ret :: tables_1
/-- a 'code' word, met by the world's own term for the bytes: nothing is compared byte by byte -/
theorem code_word {y : MethodName} {bytes : ByteArray} {mx : Nat} {rt : Option FieldType} {a : Array Value} {s : State} {m : MethodId} {meth : Method} {c : Code} (h1 : s.methodNamed? y = some m) (h2 : s.vm.method? m = some meth) (h3 : meth.code = some c) (h4 : c.code = bytes)
    (h5 : (c.maxLocals == mx && c.exceptionTable.isEmpty && decide (c.maxStack ≤ mostOperands) && decide (meth.sig.returnType = rt) && !meth.locks && decide (parseMethodDescriptor y.desc = some meth.sig)) = true) : (Jvm.Cond.code y bytes mx rt).before a s = true := by
  simp only [Bool.and_eq_true, beq_iff_eq, Bool.not_eq_true', decide_eq_true_eq] at h5
  obtain ⟨⟨⟨⟨⟨g1, g2⟩, g3⟩, g4⟩, g5⟩, g6⟩ := h5
  simp [Cond.before, Cond.holds, Cond.value, h1, h2, h3, h4, g1, g2, g3, g4, g5, g6]
def isCode : Jvm.Cond → Bool
  | .code _ _ _ _ => true
  | _ => false
theorem all_split {L : List Jvm.Cond} {P : Jvm.Cond → Bool} (h1 : L.all (fun c => isCode c || P c) = true) (h2 : ∀ c ∈ L.filter isCode, P c = true) : L.all P = true := by
  refine List.all_eq_true.mpr fun c hc => ?_
  have h := List.all_eq_true.mp h1 c hc
  rcases Bool.eq_false_or_eq_true (isCode c) with hi | hi
  · exact h2 c (List.mem_filter.mpr ⟨hc, hi⟩)
  · simpa [hi] using h
set_option maxRecDepth 65536 in
theorem w_c0 : (Jvm.Cond.code x code maxLocals ret).before args0 about1 = true := code_word (m := ⟨1, 1⟩) (meth := k1m1) (c := k1c1) (by decide +kernel) rfl rfl rfl (by decide +kernel)
set_option maxRecDepth 65536 in
theorem w_c1 : (Jvm.Cond.code ({ cls := "com/example/concept_reasoner/conceptreasoner/completion/IntList", name := "<init>", desc := "()V" } : Jvm.MethodName) prog_20_method_1_code (1 : Nat) (Option.none : Option Jvm.ClassFile.FieldType)).before args0 about1 = true := code_word (m := ⟨2, 0⟩) (meth := k2m0) (c := k2c0) (by decide +kernel) rfl rfl rfl (by decide +kernel)
set_option maxRecDepth 65536 in
theorem w_c2 : (Jvm.Cond.code ({ cls := "java/lang/Object", name := "<init>", desc := "()V" } : Jvm.MethodName) object_method_1_code (1 : Nat) (Option.none : Option Jvm.ClassFile.FieldType)).before args0 about1 = true := code_word (m := ⟨0, 0⟩) (meth := k0m0) (c := k0c0) (by decide +kernel) rfl rfl rfl (by decide +kernel)
set_option maxRecDepth 65536 in
theorem w_c3 : (Jvm.Cond.code ({ cls := "com/example/concept_reasoner/conceptreasoner/completion/IntList", name := "isEmpty", desc := "()Z" } : Jvm.MethodName) prog_20_method_6_code (1 : Nat) (Option.some Jvm.ClassFile.FieldType.boolean)).before args0 about1 = true := code_word (m := ⟨2, 2⟩) (meth := k2m2) (c := k2c2) (by decide +kernel) rfl rfl rfl (by decide +kernel)
set_option maxRecDepth 65536 in
theorem w_c4 : (Jvm.Cond.code ({ cls := "com/example/concept_reasoner/conceptreasoner/completion/IntList", name := "add", desc := "(I)V" } : Jvm.MethodName) prog_20_method_2_code (2 : Nat) (Option.none : Option Jvm.ClassFile.FieldType)).before args0 about1 = true := code_word (m := ⟨2, 1⟩) (meth := k2m1) (c := k2c1) (by decide +kernel) rfl rfl rfl (by decide +kernel)
set_option maxRecDepth 65536 in
theorem w_c5 : (Jvm.Cond.code ({ cls := "java/lang/Math", name := "max", desc := "(II)I" } : Jvm.MethodName) jdk_29_method_65_code (2 : Nat) (Option.some Jvm.ClassFile.FieldType.int)).before args0 about1 = true := code_word (m := ⟨3, 1⟩) (meth := k3m1) (c := k3c1) (by decide +kernel) rfl rfl rfl (by decide +kernel)
set_option maxRecDepth 65536 in
theorem w_c6 : (Jvm.Cond.code ({ cls := "java/util/Arrays", name := "copyOf", desc := "([II)[I" } : Jvm.MethodName) jdk_65_method_123_code (3 : Nat) (Option.some (Jvm.ClassFile.FieldType.array Jvm.ClassFile.FieldType.int))).before args0 about1 = true := code_word (m := ⟨4, 1⟩) (meth := k4m1) (c := k4c1) (by decide +kernel) rfl rfl rfl (by decide +kernel)
set_option maxRecDepth 65536 in
theorem w_c7 : (Jvm.Cond.code ({ cls := "java/lang/Math", name := "min", desc := "(II)I" } : Jvm.MethodName) jdk_29_method_69_code (2 : Nat) (Option.some Jvm.ClassFile.FieldType.int)).before args0 about1 = true := code_word (m := ⟨3, 2⟩) (meth := k3m2) (c := k3c2) (by decide +kernel) rfl rfl rfl (by decide +kernel)
set_option maxRecDepth 65536 in
theorem w_c8 : (Jvm.Cond.code ({ cls := "com/example/concept_reasoner/conceptreasoner/completion/IntList", name := "removeLast", desc := "()I" } : Jvm.MethodName) prog_20_method_7_code (1 : Nat) (Option.some Jvm.ClassFile.FieldType.int)).before args0 about1 = true := code_word (m := ⟨2, 3⟩) (meth := k2m3) (c := k2c3) (by decide +kernel) rfl rfl rfl (by decide +kernel)
def codes1 : List Jvm.Cond := [Jvm.Cond.code x code maxLocals ret, Jvm.Cond.code ({ cls := "com/example/concept_reasoner/conceptreasoner/completion/IntList", name := "<init>", desc := "()V" } : Jvm.MethodName) prog_20_method_1_code (1 : Nat) (Option.none : Option Jvm.ClassFile.FieldType), Jvm.Cond.code ({ cls := "java/lang/Object", name := "<init>", desc := "()V" } : Jvm.MethodName) object_method_1_code (1 : Nat) (Option.none : Option Jvm.ClassFile.FieldType), Jvm.Cond.code ({ cls := "com/example/concept_reasoner/conceptreasoner/completion/IntList", name := "isEmpty", desc := "()Z" } : Jvm.MethodName) prog_20_method_6_code (1 : Nat) (Option.some Jvm.ClassFile.FieldType.boolean), Jvm.Cond.code ({ cls := "com/example/concept_reasoner/conceptreasoner/completion/IntList", name := "add", desc := "(I)V" } : Jvm.MethodName) prog_20_method_2_code (2 : Nat) (Option.none : Option Jvm.ClassFile.FieldType), Jvm.Cond.code ({ cls := "java/lang/Math", name := "max", desc := "(II)I" } : Jvm.MethodName) jdk_29_method_65_code (2 : Nat) (Option.some Jvm.ClassFile.FieldType.int), Jvm.Cond.code ({ cls := "java/util/Arrays", name := "copyOf", desc := "([II)[I" } : Jvm.MethodName) jdk_65_method_123_code (3 : Nat) (Option.some (Jvm.ClassFile.FieldType.array Jvm.ClassFile.FieldType.int)), Jvm.Cond.code ({ cls := "java/lang/Math", name := "min", desc := "(II)I" } : Jvm.MethodName) jdk_29_method_69_code (2 : Nat) (Option.some Jvm.ClassFile.FieldType.int), Jvm.Cond.code ({ cls := "com/example/concept_reasoner/conceptreasoner/completion/IntList", name := "removeLast", desc := "()I" } : Jvm.MethodName) prog_20_method_7_code (1 : Nat) (Option.some Jvm.ClassFile.FieldType.int)]
set_option maxRecDepth 65536 in
theorem codes_eq : words1.filter isCode = codes1 := rfl
theorem w_codes : ∀ c ∈ words1.filter isCode, c.before args0 about1 = true := by
  rw [codes_eq]
  intro c hc
  simp only [codes1, List.mem_cons, List.not_mem_nil, or_false] at hc
  rcases hc with rfl | rfl | rfl | rfl | rfl | rfl | rfl | rfl | rfl
  · exact w_c0
  · exact w_c1
  · exact w_c2
  · exact w_c3
  · exact w_c4
  · exact w_c5
  · exact w_c6
  · exact w_c7
  · exact w_c8
set_option maxRecDepth 65536 in
theorem w_t1 : (words1.take 24).all (fun c => isCode c || c.before args0 about1) = true := by decide +kernel
set_option maxRecDepth 65536 in
theorem w_t2 : (words1.drop 24).all (fun c => isCode c || c.before args0 about1) = true := by decide +kernel
theorem w_tables : (allAtoms (Jvm.Cond.code x code maxLocals ret :: tables_1)).before args0 about1 = true := by
  rw [allAtoms_all]
  show words1.all (fun c => c.before args0 about1) = true
  refine all_split ?_ w_codes
  rw [← List.take_append_drop 24 words1, List.all_append, w_t1, w_t2]
  rfl
set_option maxRecDepth 65536 in
theorem w_case : (Jvm.Cond.and given_1 narrow_1).before args0 about1 = true := by decide +kernel
theorem w_applies : (headSpec (Jvm.Cond.code x code maxLocals ret :: tables_1) room_1).applies x e0.platform about1 = true :=
  (Spec.applies_iff w_frames).mpr ⟨w_running, w_runnable, w_alone, w_named, w_hears, w_ripe, w_room, w_tables⟩
theorem atStart : AtStart classFile x code maxLocals ret World_1 tables_1 room_1 Calls_1 rest_1 Pre_1 launch0 p0 e0 about1 theMethod args0 below0 :=
  ⟨lists_1, trivial, launch0.admits_env _ _ _, launch0.least_env, fairChoices_fair.cas, fairChoices_fair.clock, w_frames, w_args, w_heap, w_applies, trivial, trivial, w_case⟩
end start1
theorem witness_1 : WitnessClaimed_1 := ⟨start1.p0, start1.e0, start1.about1, start1.theMethod, start1.args0, start1.below0, start1.atStart⟩
end Jvm.Pilot.@@N@@
