import JvmDerived
import JvmDerived.Pilot.@@N@@Statement
import JvmDerived.Pilot.@@N@@Code
set_option linter.unusedVariables false
set_option linter.unusedSimpArgs false

namespace Jvm.RoadKit
open Sem ClassFile Op Lib Jvm.Stand Jvm.Free Jvm.LawKit
section New
variable {p : Program} {l : Launch} {e : Env} {R : Room} {s : State} {m : MethodId} {args : Array Value} {below : List Frame} {meth : Method} {c : Code} {T : State} {locs : List Loc} {cells slots : Nat}
theorem own_retI (X : Stand p l e R s m args below meth c T locs cells slots) (hx : p.tables.exec = Jvm.exec) {pc : Nat} {Ls : Array Slot} {z : Int32} {rest : List Value} (hret : meth.sig.returnType = some .int) (hd : decode c.code pc = .ok (.ireturn, 1)) {fs : List Frame}
    (hl : ∀ (f : JFrame) (acts : List Action), f.method = m → f.locked = none → f.entered = [] → (doReturn e (T.setTop f) acts (some (.int z))).1 = T.setFrames fs) : Steps p.tables e below (T.setTop (mkF m pc Ls (.int z :: rest))) (T.setFrames fs) :=
  retOut X hx (t := .int) (w := .int z) (i := .ireturn) hret rfl (Or.inl ⟨rfl, Or.inl rfl, z, rfl⟩) hd hl
end New
end Jvm.RoadKit

namespace Jvm.Pilot.@@N@@
open Jvm Jvm.ClassFile Sem Op Lib Jvm.Free Jvm.Stand Jvm.LawKit Jvm.RoadKit Bundle Jvm.Pilot.@@N@@.Jvm.D

theorem own_g {Z : State} {a0 : Array Value} (hw : ∀ d ∈ tables_1, d.before a0 Z = true) (i : Nat) {d : Jvm.Cond} (h : tables_1[i]? = some d) : d.before a0 Z = true := hw _ (List.mem_of_getElem? h)
/-- from the state T the run comes to an end that F takes -/
def own_Ends (p : Program) (e : Env) (below : List Frame) (F : Outcome → State → Prop) (T : State) : Prop :=
  ∃ s₂ o, Steps p.tables e below T s₂ ∧ s₂.status = .running ∧ Ended s₂ below o ∧ F o s₂
def own_Fin (s : State) (Q : Option Value → Heap → List Loc → Prop) (C S : Nat) (o : Outcome) (U : State) : Prop :=
  ∃ v L, o = .returned v ∧ Q v U.heap L ∧ FrameEnd s o U L C S
theorem own_Sta_keep {Z : State} {h h' : Heap} {C n d : String} {v : Value} {ws : List Addr} (F : Sta Z h C n d v) (K : Keep h h' ws) (q : ∀ x ∈ ws, ∀ c : Cell, h[x]? = some c → c.vm.isStatics = false) : Sta Z h' C n d v := by
  obtain ⟨cf, i, k, f, st, cell, h1, h2, h3, h4, h5, h6, h7⟩ := F
  exact ⟨cf, i, k, f, st, cell, h1, h2, h3, h4, K.2.1 st cell h5 (fun m => by rw [q st m cell h5] at h6; cases h6), h6, h7⟩
theorem own_ns_exa {Z : State} {h : Heap} {a : Addr} {C : String} (F : Exa Z h a C) : ∀ c : Cell, h[a]? = some c → c.vm.isStatics = false := fun c hc => by
  obtain ⟨cell, k, h1, h2, h3, h4, h5⟩ := F
  cases h1.symm.trans hc; exact h4
theorem own_ns_arv {Z : State} {h : Heap} {a : Addr} {k : ClassId} {ty : FieldType} {n : Int32} {vs : List Value} {d : Value} (F : Arv Z h a k ty n vs d) : ∀ c : Cell, h[a]? = some c → c.vm.isStatics = false := fun c hc => by
  obtain ⟨cell, A, r⟩ := F
  cases A.1.symm.trans hc; exact A.plain
section OwnSteps
variable {p : Program} {l : Launch} {e : Env} {R : Room} {s : State} {m : MethodId} {args : Array Value} {below : List Frame} {meth : Method} {c : Code} {T T' : State} {locs : List Loc} {cells slots cells' slots' : Nat} {F : Outcome → State → Prop}
theorem own_step (h : ∀ target, Steps p.tables e below T' target → Steps p.tables e below T target) (k : own_Ends p e below F T') : own_Ends p e below F T := by
  obtain ⟨s₂, o, h1, h2⟩ := k
  exact ⟨s₂, o, h _ h1, h2⟩
theorem own_trans (h : Steps p.tables e below T T') (k : own_Ends p e below F T') : own_Ends p e below F T := by
  obtain ⟨s₂, o, h1, h2⟩ := k
  exact ⟨s₂, o, h.trans h1, h2⟩
theorem own_mono (X : Stand p l e R s m args below meth c T locs cells slots) (h1 : cells ≤ cells') (h2 : slots ≤ slots') : Stand p l e R s m args below meth c T locs cells' slots' :=
  { X with same := X.same.mono h1 h2 }
theorem own_ret {Q : Option Value → Heap → List Loc → Prop} {C S : Nat} {g : JFrame} (X : Stand p l e R s m args below meth c T locs cells slots) {v : Option Value} (hv : meth.sig.returnType = none → v = none) (hlocks : meth.locks = false)
    (st : ∀ fs, (∀ (f : JFrame) (acts : List Action), f.method = m → f.locked = none → f.entered = [] → (doReturn e (T.setTop f) acts v).1 = T.setFrames fs) → Steps p.tables e below (T.setTop g) (T.setFrames fs))
    (h1 : cells ≤ C) (h2 : slots ≤ S) (hQ : Q v T.heap locs) : own_Ends p e below (own_Fin s Q C S) (T.setTop g) := by
  obtain ⟨fs, hr, hrun, hended, hW, hsame⟩ := X.leave (v := v) hv hlocks
  exact ⟨_, _, st fs hr, hrun, hended, _, _, rfl, hQ, ⟨_, rfl⟩, hW, hsame.mono h1 h2⟩
def own_FinW (s : State) (Q : Option Value → Heap → List Loc → Prop) (C S : Nat) (o : Outcome) (U : State) : Prop :=
  ∃ v L, o = .returned v ∧ Q v U.heap L ∧ ReturnedEndW s o U L C S
theorem own_retW {vm : Vm} {k : Nat} {Q : Option Value → Heap → List Loc → Prop} {C S : Nat} {g : JFrame} (X : Stand p l e R (s.setVm vm) m args below meth c T locs cells slots) (hS : s.Since vm k) (hk : k ≤ T.heap.size) {v : Option Value} (hv : meth.sig.returnType = none → v = none) (hlocks : meth.locks = false)
    (st : ∀ fs, (∀ (f : JFrame) (acts : List Action), f.method = m → f.locked = none → f.entered = [] → (doReturn e (T.setTop f) acts v).1 = T.setFrames fs) → Steps p.tables e below (T.setTop g) (T.setFrames fs))
    (h1 : cells ≤ C) (h2 : slots ≤ S) (hQ : Q v T.heap locs) : own_Ends p e below (own_FinW s Q C S) (T.setTop g) := by
  obtain ⟨fs, hr, hrun, hended, a, b, c', d'⟩ := X.leaveW hS hk (v := v) hv hlocks
  exact ⟨_, _, st fs hr, hrun, hended, _, _, rfl, hQ, a, b, c', d'.mono h1 h2⟩
theorem own_warm {Z : State} {vm0 vm1 : Vm} {k : Nat} (hZ : Z.Warmed39 vm0) (hS : (s.setVm vm0).Since vm1 k) : Z.Warmed39 vm1 := State.Warmed39.trans (t := s.setVm vm0) hZ hS.1
theorem own_find {vm0 vm1 : Vm} {k : Nat} {own : String} {c0 : ClassId} (h : vm0.findClass own = some c0) (hS : (s.setVm vm0).Since vm1 k) : vm1.findClass own = some c0 := by
  rw [hS.1.alike.findClass]; exact h
def own_FinH (Z : State) (EL : List (String × Nat)) (s : State) (Q : Option Value → Heap → List Loc → Prop) (C S : Nat) (o : Outcome) (U : State) : Prop :=
  ∃ v L, o = .returned v ∧ Q v U.heap L ∧ CHr Z EL s.vm s.heap U.vm U.heap ∧ ReturnedEndW s o U L C S
theorem own_retH {Z : State} {a0 : Array Value} {EL : List (String × Nat)} {vm : Vm} {k : Nat} {h0 h : Heap} {Q : Option Value → Heap → List Loc → Prop} {C S : Nat} {g : JFrame} (X : Stand p l e R (s.setVm vm) m args below meth c T locs cells slots) (hS : s.Since vm k) (hk : k ≤ T.heap.size) (hh : s.heap = h0) (eT : T.heap = h) (hZ : Z.Warmed39 vm) (hEL : EW Z a0 EL) (hC : CHr Z EL s.vm h0 vm h) {v : Option Value} (hv : meth.sig.returnType = none → v = none) (hlocks : meth.locks = false)
    (st : ∀ fs, (∀ (f : JFrame) (acts : List Action), f.method = m → f.locked = none → f.entered = [] → (doReturn e (T.setTop f) acts v).1 = T.setFrames fs) → Steps p.tables e below (T.setTop g) (T.setFrames fs))
    (h1 : cells ≤ C) (h2 : slots ≤ S) (hQ : Q v T.heap locs) : own_Ends p e below (own_FinH Z EL s Q C S) (T.setTop g) := by
  obtain ⟨fs, hr, hrun, hended, a, b, c', d'⟩ := X.leaveW hS hk (v := v) hv hlocks
  have q : CHr Z EL s.vm s.heap T.vm T.heap := by
    rw [hh, eT]; exact hC.trans (CHv.at X hZ hEL hC.1)
  exact ⟨_, _, st fs hr, hrun, hended, _, _, rfl, hQ, q, a, b, c', d'.mono h1 h2⟩
def own_SL (Z : State) (EL : List (String × Nat)) (vm : Vm) (h : Heap) (x : Addr) : Prop := x < h.size ∧ Safe Z EL vm h x
theorem own_SL.go {Z : State} {EL : List (String × Nat)} {vm vm1 : Vm} {h h' : Heap} {x : Addr} (F : own_SL Z EL vm h x) (A : CHr Z EL vm h vm1 h') : own_SL Z EL vm1 h' x := ⟨Nat.lt_of_lt_of_le F.1 A.2.1, A.safe F.1 F.2⟩
theorem own_SL.born {Z : State} {EL : List (String × Nat)} {vm : Vm} {h h' : Heap} {x : Addr} (H : CHv Z EL vm h) (E : Ext h h') (g : x = h.size) (lt : x < h'.size) : own_SL Z EL vm h' x := ⟨lt, Safe.ext E H (Safe.new (Nat.le_of_eq g.symm))⟩
end OwnSteps

def own_reads (x : Int64) : Int32 := if (1048576 : Int64) < x then 0 else 1
def own_min (a b : Int64) : Int64 := if b < a then b else a
def own_max (a b : Int64) : Int64 := if a < b then b else a
theorem own_no (a b : Int64) (h1 : ¬ own_reads (own_max a b) = 0) (h2 : own_reads (own_min a b) = 0) : False := by
  unfold own_reads at h1 h2
  have q1 : ¬ (1048576 : Int64) < own_max a b := fun q => h1 (if_pos q)
  have q2 : (1048576 : Int64) < own_min a b := by
    by_cases q : (1048576 : Int64) < own_min a b
    · exact q
    · rw [if_neg q] at h2; exact absurd h2 (by decide)
  unfold own_max at q1
  unfold own_min at q2
  rw [Int64.lt_iff_toInt_lt] at q1 q2
  by_cases c1 : a < b <;> by_cases c2 : b < a <;> simp only [c1, c2, if_true, if_false] at q1 q2 <;> rw [Int64.lt_iff_toInt_lt] at c1 c2 <;> omega

theorem d1_0 : decode prog_41_method_2_code 0 = .ok (.lload_n 0, 1) := by decide +kernel
theorem d1_1 : decode prog_41_method_2_code 1 = .ok (.ldc2_w 53, 3) := by decide +kernel
theorem d1_4 : decode prog_41_method_2_code 4 = .ok (.lcmp, 1) := by decide +kernel
theorem d1_5 : decode prog_41_method_2_code 5 = .ok (.ifCond .gt 7, 3) := by decide +kernel
theorem d1_8 : decode prog_41_method_2_code 8 = .ok (.iconst 1, 1) := by decide +kernel
theorem d1_9 : decode prog_41_method_2_code 9 = .ok (.goto 4, 3) := by decide +kernel
theorem d1_12 : decode prog_41_method_2_code 12 = .ok (.iconst 0, 1) := by decide +kernel
theorem d1_13 : decode prog_41_method_2_code 13 = .ok (.ireturn, 1) := by decide +kernel
theorem pn_com_example_facetwork_facetwork_scheme_TabSeparatedReader : plainName "com/example/facetwork/facetwork/scheme/TabSeparatedReader" = true := by first | (simp [plainName, overriddenIn]; done) | decide +kernel
theorem ef_rm1 (m : MethodId) (x0 : Int64) : entryFrame m #[(.long x0)] 2 = mkF m 0 #[.val (.long x0), .second] [] := by first | (simp [entryFrame, mkF, argsToLocals, Value.category, maxLocals]; done) | rfl
def Q1 (Z : State) (p1 : Int64) (h0 : Heap) (n0 : Nat) (v : Option Value) (h : Heap) (L : List Loc) : Prop := v = some (.int (own_reads p1)) ∧ Fr n0 L ∧ h = h0
set_option maxRecDepth 65536 in
set_option maxHeartbeats 40000000 in
theorem rm1 (l : Launch) (Z : State) (a0 : Array Value) (hw : ∀ d ∈ tables_1, d.before a0 Z = true) (ws : List Jvm.Cond) (p1 : Int64) (h0 : Heap) (n0 : Nat) (Z0 : n0 ≤ h0.size)  :
    MetFree l (⟨"com/example/facetwork/facetwork/scheme/TabSeparatedReader", "reads", "(J)Z"⟩ : MethodName) (head1 (Jvm.Cond.code (⟨"com/example/facetwork/facetwork/scheme/TabSeparatedReader", "reads", "(J)Z"⟩ : MethodName) prog_41_method_2_code 2 (some .boolean) :: ws) ({ frames := 0, cells := 0, slots := 0, locals := 0 } : Room)) (fun a U => a = #[(.long p1)] ∧ Z.Warmed39 U.vm ∧ U.heap = h0) (fun _ _ _ _ _ => True) (fun _ U o U' => ∃ v L, o = .returned v ∧ Q1 Z p1 h0 n0 v U'.heap L ∧ FrameEnd U o U' L ({ frames := 0, cells := 0, slots := 0, locals := 0 } : Room).cells ({ frames := 0, cells := 0, slots := 0, locals := 0 } : Room).slots) := by
  refine MetFree.of_bodySF (plainFor_of_name pn_com_example_facetwork_facetwork_scheme_TabSeparatedReader) hisR ?_
  intro p e s m args below meth c s₁ Bd hml0 hP hK
  obtain ⟨rfl, hZ, hh⟩ := hP
  have hx := Bd.exec
  have hby := Bd.bytes
  have hml : c.maxLocals = 2 := hml0
  have hown : s.vm.findClass "com/example/facetwork/facetwork/scheme/TabSeparatedReader" = some m.cls := findClass_of_methodNamed Bd.named
  have hnm := (name_of_methodNamed Bd.named Bd.method).1
  have X0 : Stand p l e ({ frames := 0, cells := 0, slots := 0, locals := 0 } : Room) s m #[(.long p1)] below meth c s₁ [] 0 0 := Stand.of_body Bd
  have e0 : s₁.heap = h0 := by rw [← hh, Bd.state]; rfl
  have N0 := Fr.nil n0
  obtain ⟨F, hF⟩ : ∃ F, F = own_Fin s (Q1 Z p1 h0 n0) ({ frames := 0, cells := 0, slots := 0, locals := 0 } : Room).cells ({ frames := 0, cells := 0, slots := 0, locals := 0 } : Room).slots := ⟨_, rfl⟩
  show own_Ends p e below (own_Fin s (Q1 Z p1 h0 n0) ({ frames := 0, cells := 0, slots := 0, locals := 0 } : Room).cells ({ frames := 0, cells := 0, slots := 0, locals := 0 } : Room).slots) _
  rw [← hF, ef_rm1 m p1]
  show own_Ends p e below F (s₁.setTop (mkF m 0 #[.val (.long p1), .second] []))
  refine own_step (fun _ k => XS.lloadN X0.here hx rfl (hb hby d1_0) rfl k) ?_
  show own_Ends p e below F (s₁.setTop (mkF m 1 #[.val (.long p1), .second] [(.long p1)]))
  refine own_step (X0.ldc2Long hx hown (mvT hZ (own_g hw 5 rfl)) (g := (mkF m 1 #[.val (.long p1), .second] [(.long p1)])) rfl (hb hby d1_1)) ?_
  show own_Ends p e below F (s₁.setTop (mkF m 4 #[.val (.long p1), .second] [(.long (1048576 : Int64)), (.long p1)]))
  refine own_step (fun _ k => XS.lcmp X0.here hx rfl (hb hby d1_4) rfl k) ?_
  show own_Ends p e below F (s₁.setTop (mkF m 5 #[.val (.long p1), .second] [(.int (lcmpW p1 (1048576 : Int64)))]))
  by_cases c5_1 : (1048576 : Int64) < p1
  · refine own_step (fun _ k => XS.ifYes X0.here hx rfl (pc0 := 5) (pc' := 12) rfl (hb hby d1_5) rfl ((if0 _ _).trans (tlt ((lw_gt _ _).mpr c5_1)).2.2.1) (by decide) (by decide) k) ?_
    show own_Ends p e below F (s₁.setTop (mkF m 12 #[.val (.long p1), .second] []))
    refine own_step (fun _ k => XS.iconst X0.here hx rfl (hb hby d1_12) k) ?_
    show own_Ends p e below F (s₁.setTop (mkF m 13 #[.val (.long p1), .second] [(.int (0 : Int32))]))
    rw [hF]
    exact own_ret X0 (v := (some (.int (nar .boolean (0 : Int32))))) (fun h => by rw [Bd.returns] at h; cases h) Bd.notSynchronized (fun fs hr => retN X0 hx (t := .boolean) Bd.returns (by simp) (hb hby d1_13) hr) (by decide) (by decide) (by rw [e0]; exact ⟨by simp only [own_reads, c5_1, if_true, if_false]; rfl, N0, rfl⟩)
  · refine own_step (fun _ k => XS.ifNo X0.here hx rfl (hb hby d1_5) rfl ((if0 _ _).trans (flt (fun q => c5_1 ((lw_gt _ _).mp q))).2.2.1) k) ?_
    show own_Ends p e below F (s₁.setTop (mkF m 8 #[.val (.long p1), .second] []))
    refine own_step (fun _ k => XS.iconst X0.here hx rfl (hb hby d1_8) k) ?_
    show own_Ends p e below F (s₁.setTop (mkF m 9 #[.val (.long p1), .second] [(.int (1 : Int32))]))
    refine own_step (fun _ k => XS.goto X0.here hx rfl (pc0 := 9) (pc' := 13) rfl (hb hby d1_9) (by decide) (by decide) k) ?_
    show own_Ends p e below F (s₁.setTop (mkF m 13 #[.val (.long p1), .second] [(.int (1 : Int32))]))
    rw [hF]
    exact own_ret X0 (v := (some (.int (nar .boolean (1 : Int32))))) (fun h => by rw [Bd.returns] at h; cases h) Bd.notSynchronized (fun fs hr => retN X0 hx (t := .boolean) Bd.returns (by simp) (hb hby d1_13) hr) (by decide) (by decide) (by rw [e0]; exact ⟨by simp only [own_reads, c5_1, if_true, if_false]; rfl, N0, rfl⟩)

theorem d2_0 : decode jdk_29_method_70_code 0 = .ok (.lload_n 0, 1) := by decide +kernel
theorem d2_1 : decode jdk_29_method_70_code 1 = .ok (.lload_n 2, 1) := by decide +kernel
theorem d2_2 : decode jdk_29_method_70_code 2 = .ok (.lcmp, 1) := by decide +kernel
theorem d2_3 : decode jdk_29_method_70_code 3 = .ok (.ifCond .gt 7, 3) := by decide +kernel
theorem d2_6 : decode jdk_29_method_70_code 6 = .ok (.lload_n 0, 1) := by decide +kernel
theorem d2_7 : decode jdk_29_method_70_code 7 = .ok (.goto 4, 3) := by decide +kernel
theorem d2_10 : decode jdk_29_method_70_code 10 = .ok (.lload_n 2, 1) := by decide +kernel
theorem d2_11 : decode jdk_29_method_70_code 11 = .ok (.lreturn, 1) := by decide +kernel
theorem ef_rm2 (m : MethodId) (x0 : Int64) (x1 : Int64) : entryFrame m #[(.long x0), (.long x1)] 4 = mkF m 0 #[.val (.long x0), .second, .val (.long x1), .second] [] := by first | (simp [entryFrame, mkF, argsToLocals, Value.category, maxLocals]; done) | rfl
def Q2 (Z : State) (p1 : Int64) (p2 : Int64) (h0 : Heap) (n0 : Nat) (v : Option Value) (h : Heap) (L : List Loc) : Prop := v = some (.long (own_min p1 p2)) ∧ Fr n0 L ∧ h = h0
set_option maxRecDepth 65536 in
set_option maxHeartbeats 40000000 in
theorem rm2 (l : Launch) (Z : State) (a0 : Array Value) (hw : ∀ d ∈ tables_1, d.before a0 Z = true) (ws : List Jvm.Cond) (p1 : Int64) (p2 : Int64) (h0 : Heap) (n0 : Nat) (Z0 : n0 ≤ h0.size)  :
    MetFree l (⟨"java/lang/Math", "min", "(JJ)J"⟩ : MethodName) (head1 (Jvm.Cond.code (⟨"java/lang/Math", "min", "(JJ)J"⟩ : MethodName) jdk_29_method_70_code 4 (some .long) :: ws) ({ frames := 0, cells := 0, slots := 0, locals := 0 } : Room)) (fun a U => a = #[(.long p1), (.long p2)] ∧ Z.Warmed39 U.vm ∧ U.heap = h0) (fun _ _ _ _ _ => True) (fun _ U o U' => ∃ v L, o = .returned v ∧ Q2 Z p1 p2 h0 n0 v U'.heap L ∧ FrameEnd U o U' L ({ frames := 0, cells := 0, slots := 0, locals := 0 } : Room).cells ({ frames := 0, cells := 0, slots := 0, locals := 0 } : Room).slots) := by
  refine MetFree.of_bodySF (Jvm.Free.JP.mathPlain rfl (by decide +kernel)) hisR ?_
  intro p e s m args below meth c s₁ Bd hml0 hP hK
  obtain ⟨rfl, hZ, hh⟩ := hP
  have hx := Bd.exec
  have hby := Bd.bytes
  have hml : c.maxLocals = 4 := hml0
  have hown : s.vm.findClass "java/lang/Math" = some m.cls := findClass_of_methodNamed Bd.named
  have hnm := (name_of_methodNamed Bd.named Bd.method).1
  have X0 : Stand p l e ({ frames := 0, cells := 0, slots := 0, locals := 0 } : Room) s m #[(.long p1), (.long p2)] below meth c s₁ [] 0 0 := Stand.of_body Bd
  have e0 : s₁.heap = h0 := by rw [← hh, Bd.state]; rfl
  have N0 := Fr.nil n0
  obtain ⟨F, hF⟩ : ∃ F, F = own_Fin s (Q2 Z p1 p2 h0 n0) ({ frames := 0, cells := 0, slots := 0, locals := 0 } : Room).cells ({ frames := 0, cells := 0, slots := 0, locals := 0 } : Room).slots := ⟨_, rfl⟩
  show own_Ends p e below (own_Fin s (Q2 Z p1 p2 h0 n0) ({ frames := 0, cells := 0, slots := 0, locals := 0 } : Room).cells ({ frames := 0, cells := 0, slots := 0, locals := 0 } : Room).slots) _
  rw [← hF, ef_rm2 m p1 p2]
  show own_Ends p e below F (s₁.setTop (mkF m 0 #[.val (.long p1), .second, .val (.long p2), .second] []))
  refine own_step (fun _ k => XS.lloadN X0.here hx rfl (hb hby d2_0) rfl k) ?_
  show own_Ends p e below F (s₁.setTop (mkF m 1 #[.val (.long p1), .second, .val (.long p2), .second] [(.long p1)]))
  refine own_step (fun _ k => XS.lloadN X0.here hx rfl (hb hby d2_1) rfl k) ?_
  show own_Ends p e below F (s₁.setTop (mkF m 2 #[.val (.long p1), .second, .val (.long p2), .second] [(.long p2), (.long p1)]))
  refine own_step (fun _ k => XS.lcmp X0.here hx rfl (hb hby d2_2) rfl k) ?_
  show own_Ends p e below F (s₁.setTop (mkF m 3 #[.val (.long p1), .second, .val (.long p2), .second] [(.int (lcmpW p1 p2))]))
  by_cases c3_1 : p2 < p1
  · refine own_step (fun _ k => XS.ifYes X0.here hx rfl (pc0 := 3) (pc' := 10) rfl (hb hby d2_3) rfl ((if0 _ _).trans (tlt ((lw_gt _ _).mpr c3_1)).2.2.1) (by decide) (by decide) k) ?_
    show own_Ends p e below F (s₁.setTop (mkF m 10 #[.val (.long p1), .second, .val (.long p2), .second] []))
    refine own_step (fun _ k => XS.lloadN X0.here hx rfl (hb hby d2_10) rfl k) ?_
    show own_Ends p e below F (s₁.setTop (mkF m 11 #[.val (.long p1), .second, .val (.long p2), .second] [(.long p2)]))
    rw [hF]
    exact own_ret X0 (v := (some (.long p2))) (fun h => by rw [Bd.returns] at h; cases h) Bd.notSynchronized (fun fs hr => X0.lreturnOut hx Bd.returns (hb hby d2_11) hr) (by decide) (by decide) (by rw [e0]; exact ⟨by simp only [own_min, c3_1, if_true, if_false], N0, rfl⟩)
  · refine own_step (fun _ k => XS.ifNo X0.here hx rfl (hb hby d2_3) rfl ((if0 _ _).trans (flt (fun q => c3_1 ((lw_gt _ _).mp q))).2.2.1) k) ?_
    show own_Ends p e below F (s₁.setTop (mkF m 6 #[.val (.long p1), .second, .val (.long p2), .second] []))
    refine own_step (fun _ k => XS.lloadN X0.here hx rfl (hb hby d2_6) rfl k) ?_
    show own_Ends p e below F (s₁.setTop (mkF m 7 #[.val (.long p1), .second, .val (.long p2), .second] [(.long p1)]))
    refine own_step (fun _ k => XS.goto X0.here hx rfl (pc0 := 7) (pc' := 11) rfl (hb hby d2_7) (by decide) (by decide) k) ?_
    show own_Ends p e below F (s₁.setTop (mkF m 11 #[.val (.long p1), .second, .val (.long p2), .second] [(.long p1)]))
    rw [hF]
    exact own_ret X0 (v := (some (.long p1))) (fun h => by rw [Bd.returns] at h; cases h) Bd.notSynchronized (fun fs hr => X0.lreturnOut hx Bd.returns (hb hby d2_11) hr) (by decide) (by decide) (by rw [e0]; exact ⟨by simp only [own_min, c3_1, if_true, if_false], N0, rfl⟩)

theorem d3_0 : decode jdk_29_method_66_code 0 = .ok (.lload_n 0, 1) := by decide +kernel
theorem d3_1 : decode jdk_29_method_66_code 1 = .ok (.lload_n 2, 1) := by decide +kernel
theorem d3_2 : decode jdk_29_method_66_code 2 = .ok (.lcmp, 1) := by decide +kernel
theorem d3_3 : decode jdk_29_method_66_code 3 = .ok (.ifCond .lt 7, 3) := by decide +kernel
theorem d3_6 : decode jdk_29_method_66_code 6 = .ok (.lload_n 0, 1) := by decide +kernel
theorem d3_7 : decode jdk_29_method_66_code 7 = .ok (.goto 4, 3) := by decide +kernel
theorem d3_10 : decode jdk_29_method_66_code 10 = .ok (.lload_n 2, 1) := by decide +kernel
theorem d3_11 : decode jdk_29_method_66_code 11 = .ok (.lreturn, 1) := by decide +kernel
theorem ef_rm3 (m : MethodId) (x0 : Int64) (x1 : Int64) : entryFrame m #[(.long x0), (.long x1)] 4 = mkF m 0 #[.val (.long x0), .second, .val (.long x1), .second] [] := by first | (simp [entryFrame, mkF, argsToLocals, Value.category, maxLocals]; done) | rfl
def Q3 (Z : State) (p1 : Int64) (p2 : Int64) (h0 : Heap) (n0 : Nat) (v : Option Value) (h : Heap) (L : List Loc) : Prop := v = some (.long (own_max p1 p2)) ∧ Fr n0 L ∧ h = h0
set_option maxRecDepth 65536 in
set_option maxHeartbeats 40000000 in
theorem rm3 (l : Launch) (Z : State) (a0 : Array Value) (hw : ∀ d ∈ tables_1, d.before a0 Z = true) (ws : List Jvm.Cond) (p1 : Int64) (p2 : Int64) (h0 : Heap) (n0 : Nat) (Z0 : n0 ≤ h0.size)  :
    MetFree l (⟨"java/lang/Math", "max", "(JJ)J"⟩ : MethodName) (head1 (Jvm.Cond.code (⟨"java/lang/Math", "max", "(JJ)J"⟩ : MethodName) jdk_29_method_66_code 4 (some .long) :: ws) ({ frames := 0, cells := 0, slots := 0, locals := 0 } : Room)) (fun a U => a = #[(.long p1), (.long p2)] ∧ Z.Warmed39 U.vm ∧ U.heap = h0) (fun _ _ _ _ _ => True) (fun _ U o U' => ∃ v L, o = .returned v ∧ Q3 Z p1 p2 h0 n0 v U'.heap L ∧ FrameEnd U o U' L ({ frames := 0, cells := 0, slots := 0, locals := 0 } : Room).cells ({ frames := 0, cells := 0, slots := 0, locals := 0 } : Room).slots) := by
  refine MetFree.of_bodySF (Jvm.Free.JP.mathPlain rfl (by decide +kernel)) hisR ?_
  intro p e s m args below meth c s₁ Bd hml0 hP hK
  obtain ⟨rfl, hZ, hh⟩ := hP
  have hx := Bd.exec
  have hby := Bd.bytes
  have hml : c.maxLocals = 4 := hml0
  have hown : s.vm.findClass "java/lang/Math" = some m.cls := findClass_of_methodNamed Bd.named
  have hnm := (name_of_methodNamed Bd.named Bd.method).1
  have X0 : Stand p l e ({ frames := 0, cells := 0, slots := 0, locals := 0 } : Room) s m #[(.long p1), (.long p2)] below meth c s₁ [] 0 0 := Stand.of_body Bd
  have e0 : s₁.heap = h0 := by rw [← hh, Bd.state]; rfl
  have N0 := Fr.nil n0
  obtain ⟨F, hF⟩ : ∃ F, F = own_Fin s (Q3 Z p1 p2 h0 n0) ({ frames := 0, cells := 0, slots := 0, locals := 0 } : Room).cells ({ frames := 0, cells := 0, slots := 0, locals := 0 } : Room).slots := ⟨_, rfl⟩
  show own_Ends p e below (own_Fin s (Q3 Z p1 p2 h0 n0) ({ frames := 0, cells := 0, slots := 0, locals := 0 } : Room).cells ({ frames := 0, cells := 0, slots := 0, locals := 0 } : Room).slots) _
  rw [← hF, ef_rm3 m p1 p2]
  show own_Ends p e below F (s₁.setTop (mkF m 0 #[.val (.long p1), .second, .val (.long p2), .second] []))
  refine own_step (fun _ k => XS.lloadN X0.here hx rfl (hb hby d3_0) rfl k) ?_
  show own_Ends p e below F (s₁.setTop (mkF m 1 #[.val (.long p1), .second, .val (.long p2), .second] [(.long p1)]))
  refine own_step (fun _ k => XS.lloadN X0.here hx rfl (hb hby d3_1) rfl k) ?_
  show own_Ends p e below F (s₁.setTop (mkF m 2 #[.val (.long p1), .second, .val (.long p2), .second] [(.long p2), (.long p1)]))
  refine own_step (fun _ k => XS.lcmp X0.here hx rfl (hb hby d3_2) rfl k) ?_
  show own_Ends p e below F (s₁.setTop (mkF m 3 #[.val (.long p1), .second, .val (.long p2), .second] [(.int (lcmpW p1 p2))]))
  by_cases c3_1 : p1 < p2
  · refine own_step (fun _ k => XS.ifYes X0.here hx rfl (pc0 := 3) (pc' := 10) rfl (hb hby d3_3) rfl ((if0 _ _).trans (tlt ((lw_lt _ _).mpr c3_1)).1) (by decide) (by decide) k) ?_
    show own_Ends p e below F (s₁.setTop (mkF m 10 #[.val (.long p1), .second, .val (.long p2), .second] []))
    refine own_step (fun _ k => XS.lloadN X0.here hx rfl (hb hby d3_10) rfl k) ?_
    show own_Ends p e below F (s₁.setTop (mkF m 11 #[.val (.long p1), .second, .val (.long p2), .second] [(.long p2)]))
    rw [hF]
    exact own_ret X0 (v := (some (.long p2))) (fun h => by rw [Bd.returns] at h; cases h) Bd.notSynchronized (fun fs hr => X0.lreturnOut hx Bd.returns (hb hby d3_11) hr) (by decide) (by decide) (by rw [e0]; exact ⟨by simp only [own_max, c3_1, if_true, if_false], N0, rfl⟩)
  · refine own_step (fun _ k => XS.ifNo X0.here hx rfl (hb hby d3_3) rfl ((if0 _ _).trans (flt (fun q => c3_1 ((lw_lt _ _).mp q))).1) k) ?_
    show own_Ends p e below F (s₁.setTop (mkF m 6 #[.val (.long p1), .second, .val (.long p2), .second] []))
    refine own_step (fun _ k => XS.lloadN X0.here hx rfl (hb hby d3_6) rfl k) ?_
    show own_Ends p e below F (s₁.setTop (mkF m 7 #[.val (.long p1), .second, .val (.long p2), .second] [(.long p1)]))
    refine own_step (fun _ k => XS.goto X0.here hx rfl (pc0 := 7) (pc' := 11) rfl (hb hby d3_7) (by decide) (by decide) k) ?_
    show own_Ends p e below F (s₁.setTop (mkF m 11 #[.val (.long p1), .second, .val (.long p2), .second] [(.long p1)]))
    rw [hF]
    exact own_ret X0 (v := (some (.long p1))) (fun h => by rw [Bd.returns] at h; cases h) Bd.notSynchronized (fun fs hr => X0.lreturnOut hx Bd.returns (hb hby d3_11) hr) (by decide) (by decide) (by rw [e0]; exact ⟨by simp only [own_max, c3_1, if_true, if_false], N0, rfl⟩)

theorem pn_com_example_facetwork_facetwork_scheme_TabSeparatedReaderReadsPinLaw : plainName "com/example/facetwork/facetwork/scheme/TabSeparatedReaderReadsPinLaw" = true := by first | (simp [plainName, overriddenIn]; done) | decide +kernel
theorem pd__28J_29Z : parseMethodDescriptor "(J)Z" = some ⟨[.long], some .boolean⟩ := by decide +kernel
theorem pd__28JJ_29J : parseMethodDescriptor "(JJ)J" = some ⟨[.long, .long], some .long⟩ := by decide +kernel
theorem ef_rm0 (m : MethodId) (x0 : Int64) (x1 : Int64) : entryFrame m #[(.long x0), (.long x1)] maxLocals = mkF m 0 #[.val (.long x0), .second, .val (.long x1), .second, .unset, .unset, .unset, .unset, .unset, .unset, .unset, .unset, .unset, .unset] [] := by first | (simp [entryFrame, mkF, argsToLocals, Value.category, maxLocals]; done) | rfl
def Q0 (Z : State) (p1 : Int64) (p2 : Int64) (h0 : Heap) (n0 : Nat) (v : Option Value) (h : Heap) (L : List Loc) : Prop := v = some (.int 1) ∧ Fr n0 L
set_option maxRecDepth 65536 in
set_option maxHeartbeats 40000000 in
theorem rm0 (l : Launch) (Z : State) (a0 : Array Value) (hw : ∀ d ∈ tables_1, d.before a0 Z = true) (ws : List Jvm.Cond) (p1 : Int64) (p2 : Int64) (h0 : Heap) (n0 : Nat) (Z0 : n0 ≤ h0.size)  :
    MetFree l x (head1 (Jvm.Cond.code x code maxLocals ret :: ws) room_1) (fun a U => a = #[(.long p1), (.long p2)] ∧ Z.Warmed39 U.vm ∧ U.heap = h0) (fun _ _ _ _ _ => True) (fun _ U o U' => ∃ v L, o = .returned v ∧ Q0 Z p1 p2 h0 n0 v U'.heap L ∧ FrameEnd U o U' L room_1.cells room_1.slots) := by
  refine MetFree.of_bodySF (plainFor_of_name pn_com_example_facetwork_facetwork_scheme_TabSeparatedReaderReadsPinLaw) hisR ?_
  intro p e s m args below meth c s₁ Bd hml0 hP hK
  obtain ⟨rfl, hZ, hh⟩ := hP
  have hx := Bd.exec
  have hby := Bd.bytes
  have hml : c.maxLocals = 14 := hml0
  have hown : s.vm.findClass "com/example/facetwork/facetwork/scheme/TabSeparatedReaderReadsPinLaw" = some m.cls := findClass_of_methodNamed Bd.named
  have hnm := (name_of_methodNamed Bd.named Bd.method).1
  have X0 : Stand p l e room_1 s m #[(.long p1), (.long p2)] below meth c s₁ [] 0 0 := Stand.of_body Bd
  have e0 : s₁.heap = h0 := by rw [← hh, Bd.state]; rfl
  have N0 := Fr.nil n0
  obtain ⟨F, hF⟩ : ∃ F, F = own_Fin s (Q0 Z p1 p2 h0 n0) room_1.cells room_1.slots := ⟨_, rfl⟩
  show own_Ends p e below (own_Fin s (Q0 Z p1 p2 h0 n0) room_1.cells room_1.slots) _
  rw [← hF, ef_rm0 m p1 p2]
  show own_Ends p e below F (s₁.setTop (mkF m 0 #[.val (.long p1), .second, .val (.long p2), .second, .unset, .unset, .unset, .unset, .unset, .unset, .unset, .unset, .unset, .unset] []))
  refine own_step (X0.ldc2Long hx hown (mvT hZ (own_g hw 0 rfl)) (g := (mkF m 0 #[.val (.long p1), .second, .val (.long p2), .second, .unset, .unset, .unset, .unset, .unset, .unset, .unset, .unset, .unset, .unset] [])) rfl (hb hby at_0)) ?_
  show own_Ends p e below F (s₁.setTop (mkF m 3 #[.val (.long p1), .second, .val (.long p2), .second, .unset, .unset, .unset, .unset, .unset, .unset, .unset, .unset, .unset, .unset] [(.long (1048576 : Int64))]))
  obtain ⟨_, _, ⟨T1, L1, k1, n1⟩, -, X1, ⟨Lc1, hQ1, l1, y1, z1⟩, st1⟩ := Jvm.LawKit.callS X0 hx (y := (⟨"com/example/facetwork/facetwork/scheme/TabSeparatedReader", "reads", "(J)Z"⟩ : MethodName)) hown (mvT hZ (own_g hw 1 rfl)) (mvT hZ (own_g hw 2 rfl)) (mvT hZ (own_g hw 3 rfl)) (mvT hZ (own_g hw 4 rfl)) (by decide) (backOf (W := 0) (rm1 l Z a0 hw [] (1048576 : Int64) h0 n0 Z0) hZ (own_g hw 4 rfl) (own_g hw 3 rfl) (by decide) (by decide)) (g := (mkF m 3 #[.val (.long p1), .second, .val (.long p2), .second, .unset, .unset, .unset, .unset, .unset, .unset, .unset, .unset, .unset, .unset] [(.long (1048576 : Int64))])) rfl (by rw [hml]; rfl) (argsL := [(.long (1048576 : Int64))]) (rest := []) (lenOf pd__28J_29Z rfl) rfl (by show 2 * 0 + _ ≤ _; exact Nat.le_of_eq rfl) (hb hby at_3) (fun _ _ => ⟨rfl, e0, (by decide : 0 + 0 ≤ _), (by decide : 0 + 0 ≤ _)⟩)
  dsimp only [Pt.U, Pt.locs, Pt.cells, Pt.slots] at X1 l1 y1 z1 st1 hQ1
  subst l1 y1 z1
  obtain ⟨rfl, Nq1, eq1⟩ := hQ1
  have N1 := Fr.app N0 Nq1
  refine own_step st1 ?_
  show own_Ends p e below F (T1.setTop (mkF m 6 #[.val (.long p1), .second, .val (.long p2), .second, .unset, .unset, .unset, .unset, .unset, .unset, .unset, .unset, .unset, .unset] [(.int (own_reads (1048576 : Int64)))]))
  refine own_step (fun _ k => XS.istore X1.here hx rfl (hb hby at_6) rfl (l' := #[.val (.long p1), .second, .val (.long p2), .second, .val (.int (own_reads (1048576 : Int64))), .unset, .unset, .unset, .unset, .unset, .unset, .unset, .unset, .unset]) rfl k) ?_
  show own_Ends p e below F (T1.setTop (mkF m 8 #[.val (.long p1), .second, .val (.long p2), .second, .val (.int (own_reads (1048576 : Int64))), .unset, .unset, .unset, .unset, .unset, .unset, .unset, .unset, .unset] []))
  refine own_step (X1.ldc2Long hx hown (mvT hZ (own_g hw 6 rfl)) (g := (mkF m 8 #[.val (.long p1), .second, .val (.long p2), .second, .val (.int (own_reads (1048576 : Int64))), .unset, .unset, .unset, .unset, .unset, .unset, .unset, .unset, .unset] [])) rfl (hb hby at_8)) ?_
  show own_Ends p e below F (T1.setTop (mkF m 11 #[.val (.long p1), .second, .val (.long p2), .second, .val (.int (own_reads (1048576 : Int64))), .unset, .unset, .unset, .unset, .unset, .unset, .unset, .unset, .unset] [(.long (1048577 : Int64))]))
  obtain ⟨_, _, ⟨T2, L2, k2, n2⟩, -, X2, ⟨Lc2, hQ2, l2, y2, z2⟩, st2⟩ := Jvm.LawKit.callS X1 hx (y := (⟨"com/example/facetwork/facetwork/scheme/TabSeparatedReader", "reads", "(J)Z"⟩ : MethodName)) hown (mvT hZ (own_g hw 1 rfl)) (mvT hZ (own_g hw 2 rfl)) (mvT hZ (own_g hw 3 rfl)) (mvT hZ (own_g hw 4 rfl)) (by decide) (backOf (W := 0) (rm1 l Z a0 hw [] (1048577 : Int64) h0 n0 Z0) hZ (own_g hw 4 rfl) (own_g hw 3 rfl) (by decide) (by decide)) (g := (mkF m 11 #[.val (.long p1), .second, .val (.long p2), .second, .val (.int (own_reads (1048576 : Int64))), .unset, .unset, .unset, .unset, .unset, .unset, .unset, .unset, .unset] [(.long (1048577 : Int64))])) rfl (by rw [hml]; rfl) (argsL := [(.long (1048577 : Int64))]) (rest := []) (lenOf pd__28J_29Z rfl) rfl (by show 2 * 0 + _ ≤ _; exact Nat.le_of_eq rfl) (hb hby at_11) (fun _ _ => ⟨rfl, eq1, (by decide : 0 + 0 ≤ _), (by decide : 0 + 0 ≤ _)⟩)
  dsimp only [Pt.U, Pt.locs, Pt.cells, Pt.slots] at X2 l2 y2 z2 st2 hQ2
  subst l2 y2 z2
  obtain ⟨rfl, Nq2, eq2⟩ := hQ2
  have N2 := Fr.app N1 Nq2
  refine own_step st2 ?_
  show own_Ends p e below F (T2.setTop (mkF m 14 #[.val (.long p1), .second, .val (.long p2), .second, .val (.int (own_reads (1048576 : Int64))), .unset, .unset, .unset, .unset, .unset, .unset, .unset, .unset, .unset] [(.int (own_reads (1048577 : Int64)))]))
  refine own_step (fun _ k => XS.istore X2.here hx rfl (hb hby at_14) rfl (l' := #[.val (.long p1), .second, .val (.long p2), .second, .val (.int (own_reads (1048576 : Int64))), .val (.int (own_reads (1048577 : Int64))), .unset, .unset, .unset, .unset, .unset, .unset, .unset, .unset]) rfl k) ?_
  show own_Ends p e below F (T2.setTop (mkF m 16 #[.val (.long p1), .second, .val (.long p2), .second, .val (.int (own_reads (1048576 : Int64))), .val (.int (own_reads (1048577 : Int64))), .unset, .unset, .unset, .unset, .unset, .unset, .unset, .unset] []))
  refine own_step (fun _ k => XS.lconst X2.here hx rfl (hb hby at_16) k) ?_
  show own_Ends p e below F (T2.setTop (mkF m 17 #[.val (.long p1), .second, .val (.long p2), .second, .val (.int (own_reads (1048576 : Int64))), .val (.int (own_reads (1048577 : Int64))), .unset, .unset, .unset, .unset, .unset, .unset, .unset, .unset] [(.long (0 : Int64))]))
  obtain ⟨_, _, ⟨T3, L3, k3, n3⟩, -, X3, ⟨Lc3, hQ3, l3, y3, z3⟩, st3⟩ := Jvm.LawKit.callS X2 hx (y := (⟨"com/example/facetwork/facetwork/scheme/TabSeparatedReader", "reads", "(J)Z"⟩ : MethodName)) hown (mvT hZ (own_g hw 1 rfl)) (mvT hZ (own_g hw 2 rfl)) (mvT hZ (own_g hw 3 rfl)) (mvT hZ (own_g hw 4 rfl)) (by decide) (backOf (W := 0) (rm1 l Z a0 hw [] (0 : Int64) h0 n0 Z0) hZ (own_g hw 4 rfl) (own_g hw 3 rfl) (by decide) (by decide)) (g := (mkF m 17 #[.val (.long p1), .second, .val (.long p2), .second, .val (.int (own_reads (1048576 : Int64))), .val (.int (own_reads (1048577 : Int64))), .unset, .unset, .unset, .unset, .unset, .unset, .unset, .unset] [(.long (0 : Int64))])) rfl (by rw [hml]; rfl) (argsL := [(.long (0 : Int64))]) (rest := []) (lenOf pd__28J_29Z rfl) rfl (by show 2 * 0 + _ ≤ _; exact Nat.le_of_eq rfl) (hb hby at_17) (fun _ _ => ⟨rfl, eq2, (by decide : 0 + 0 ≤ _), (by decide : 0 + 0 ≤ _)⟩)
  dsimp only [Pt.U, Pt.locs, Pt.cells, Pt.slots] at X3 l3 y3 z3 st3 hQ3
  subst l3 y3 z3
  obtain ⟨rfl, Nq3, eq3⟩ := hQ3
  have N3 := Fr.app N2 Nq3
  refine own_step st3 ?_
  show own_Ends p e below F (T3.setTop (mkF m 20 #[.val (.long p1), .second, .val (.long p2), .second, .val (.int (own_reads (1048576 : Int64))), .val (.int (own_reads (1048577 : Int64))), .unset, .unset, .unset, .unset, .unset, .unset, .unset, .unset] [(.int (own_reads (0 : Int64)))]))
  refine own_step (fun _ k => XS.istore X3.here hx rfl (hb hby at_20) rfl (l' := #[.val (.long p1), .second, .val (.long p2), .second, .val (.int (own_reads (1048576 : Int64))), .val (.int (own_reads (1048577 : Int64))), .val (.int (own_reads (0 : Int64))), .unset, .unset, .unset, .unset, .unset, .unset, .unset]) rfl k) ?_
  show own_Ends p e below F (T3.setTop (mkF m 22 #[.val (.long p1), .second, .val (.long p2), .second, .val (.int (own_reads (1048576 : Int64))), .val (.int (own_reads (1048577 : Int64))), .val (.int (own_reads (0 : Int64))), .unset, .unset, .unset, .unset, .unset, .unset, .unset] []))
  refine own_step (fun _ k => XS.lloadN X3.here hx rfl (hb hby at_22) rfl k) ?_
  show own_Ends p e below F (T3.setTop (mkF m 23 #[.val (.long p1), .second, .val (.long p2), .second, .val (.int (own_reads (1048576 : Int64))), .val (.int (own_reads (1048577 : Int64))), .val (.int (own_reads (0 : Int64))), .unset, .unset, .unset, .unset, .unset, .unset, .unset] [(.long p1)]))
  refine own_step (fun _ k => XS.lloadN X3.here hx rfl (hb hby at_23) rfl k) ?_
  show own_Ends p e below F (T3.setTop (mkF m 24 #[.val (.long p1), .second, .val (.long p2), .second, .val (.int (own_reads (1048576 : Int64))), .val (.int (own_reads (1048577 : Int64))), .val (.int (own_reads (0 : Int64))), .unset, .unset, .unset, .unset, .unset, .unset, .unset] [(.long p2), (.long p1)]))
  obtain ⟨_, _, ⟨T4, L4, k4, n4⟩, -, X4, ⟨Lc4, hQ4, l4, y4, z4⟩, st4⟩ := Jvm.LawKit.callS X3 hx (y := (⟨"java/lang/Math", "min", "(JJ)J"⟩ : MethodName)) hown (mvT hZ (own_g hw 7 rfl)) (mvT hZ (own_g hw 8 rfl)) (mvT hZ (own_g hw 9 rfl)) (mvT hZ (own_g hw 10 rfl)) (by decide) (backOf (W := 0) (rm2 l Z a0 hw [] p1 p2 h0 n0 Z0) hZ (own_g hw 10 rfl) (own_g hw 9 rfl) (by decide) (by decide)) (g := (mkF m 24 #[.val (.long p1), .second, .val (.long p2), .second, .val (.int (own_reads (1048576 : Int64))), .val (.int (own_reads (1048577 : Int64))), .val (.int (own_reads (0 : Int64))), .unset, .unset, .unset, .unset, .unset, .unset, .unset] [(.long p2), (.long p1)])) rfl (by rw [hml]; rfl) (argsL := [(.long p1), (.long p2)]) (rest := []) (lenOf pd__28JJ_29J rfl) rfl (by show 2 * 0 + _ ≤ _; exact Nat.le_of_eq rfl) (hb hby at_24) (fun _ _ => ⟨rfl, eq3, (by decide : 0 + 0 ≤ _), (by decide : 0 + 0 ≤ _)⟩)
  dsimp only [Pt.U, Pt.locs, Pt.cells, Pt.slots] at X4 l4 y4 z4 st4 hQ4
  subst l4 y4 z4
  obtain ⟨rfl, Nq4, eq4⟩ := hQ4
  have N4 := Fr.app N3 Nq4
  refine own_step st4 ?_
  show own_Ends p e below F (T4.setTop (mkF m 27 #[.val (.long p1), .second, .val (.long p2), .second, .val (.int (own_reads (1048576 : Int64))), .val (.int (own_reads (1048577 : Int64))), .val (.int (own_reads (0 : Int64))), .unset, .unset, .unset, .unset, .unset, .unset, .unset] [(.long (own_min p1 p2))]))
  refine own_step (fun _ k => XS.lstore X4.here hx rfl (hb hby at_27) rfl (l' := #[.val (.long p1), .second, .val (.long p2), .second, .val (.int (own_reads (1048576 : Int64))), .val (.int (own_reads (1048577 : Int64))), .val (.int (own_reads (0 : Int64))), .val (.long (own_min p1 p2)), .second, .unset, .unset, .unset, .unset, .unset]) rfl k) ?_
  show own_Ends p e below F (T4.setTop (mkF m 29 #[.val (.long p1), .second, .val (.long p2), .second, .val (.int (own_reads (1048576 : Int64))), .val (.int (own_reads (1048577 : Int64))), .val (.int (own_reads (0 : Int64))), .val (.long (own_min p1 p2)), .second, .unset, .unset, .unset, .unset, .unset] []))
  refine own_step (fun _ k => XS.lloadN X4.here hx rfl (hb hby at_29) rfl k) ?_
  show own_Ends p e below F (T4.setTop (mkF m 30 #[.val (.long p1), .second, .val (.long p2), .second, .val (.int (own_reads (1048576 : Int64))), .val (.int (own_reads (1048577 : Int64))), .val (.int (own_reads (0 : Int64))), .val (.long (own_min p1 p2)), .second, .unset, .unset, .unset, .unset, .unset] [(.long p1)]))
  refine own_step (fun _ k => XS.lloadN X4.here hx rfl (hb hby at_30) rfl k) ?_
  show own_Ends p e below F (T4.setTop (mkF m 31 #[.val (.long p1), .second, .val (.long p2), .second, .val (.int (own_reads (1048576 : Int64))), .val (.int (own_reads (1048577 : Int64))), .val (.int (own_reads (0 : Int64))), .val (.long (own_min p1 p2)), .second, .unset, .unset, .unset, .unset, .unset] [(.long p2), (.long p1)]))
  obtain ⟨_, _, ⟨T5, L5, k5, n5⟩, -, X5, ⟨Lc5, hQ5, l5, y5, z5⟩, st5⟩ := Jvm.LawKit.callS X4 hx (y := (⟨"java/lang/Math", "max", "(JJ)J"⟩ : MethodName)) hown (mvT hZ (own_g hw 11 rfl)) (mvT hZ (own_g hw 12 rfl)) (mvT hZ (own_g hw 9 rfl)) (mvT hZ (own_g hw 13 rfl)) (by decide) (backOf (W := 0) (rm3 l Z a0 hw [] p1 p2 h0 n0 Z0) hZ (own_g hw 13 rfl) (own_g hw 9 rfl) (by decide) (by decide)) (g := (mkF m 31 #[.val (.long p1), .second, .val (.long p2), .second, .val (.int (own_reads (1048576 : Int64))), .val (.int (own_reads (1048577 : Int64))), .val (.int (own_reads (0 : Int64))), .val (.long (own_min p1 p2)), .second, .unset, .unset, .unset, .unset, .unset] [(.long p2), (.long p1)])) rfl (by rw [hml]; rfl) (argsL := [(.long p1), (.long p2)]) (rest := []) (lenOf pd__28JJ_29J rfl) rfl (by show 2 * 0 + _ ≤ _; exact Nat.le_of_eq rfl) (hb hby at_31) (fun _ _ => ⟨rfl, eq4, (by decide : 0 + 0 ≤ _), (by decide : 0 + 0 ≤ _)⟩)
  dsimp only [Pt.U, Pt.locs, Pt.cells, Pt.slots] at X5 l5 y5 z5 st5 hQ5
  subst l5 y5 z5
  obtain ⟨rfl, Nq5, eq5⟩ := hQ5
  have N5 := Fr.app N4 Nq5
  refine own_step st5 ?_
  show own_Ends p e below F (T5.setTop (mkF m 34 #[.val (.long p1), .second, .val (.long p2), .second, .val (.int (own_reads (1048576 : Int64))), .val (.int (own_reads (1048577 : Int64))), .val (.int (own_reads (0 : Int64))), .val (.long (own_min p1 p2)), .second, .unset, .unset, .unset, .unset, .unset] [(.long (own_max p1 p2))]))
  refine own_step (fun _ k => XS.lstore X5.here hx rfl (hb hby at_34) rfl (l' := #[.val (.long p1), .second, .val (.long p2), .second, .val (.int (own_reads (1048576 : Int64))), .val (.int (own_reads (1048577 : Int64))), .val (.int (own_reads (0 : Int64))), .val (.long (own_min p1 p2)), .second, .val (.long (own_max p1 p2)), .second, .unset, .unset, .unset]) rfl k) ?_
  show own_Ends p e below F (T5.setTop (mkF m 36 #[.val (.long p1), .second, .val (.long p2), .second, .val (.int (own_reads (1048576 : Int64))), .val (.int (own_reads (1048577 : Int64))), .val (.int (own_reads (0 : Int64))), .val (.long (own_min p1 p2)), .second, .val (.long (own_max p1 p2)), .second, .unset, .unset, .unset] []))
  refine own_step (fun _ k => XS.lload X5.here hx rfl (hb hby at_36) rfl k) ?_
  show own_Ends p e below F (T5.setTop (mkF m 38 #[.val (.long p1), .second, .val (.long p2), .second, .val (.int (own_reads (1048576 : Int64))), .val (.int (own_reads (1048577 : Int64))), .val (.int (own_reads (0 : Int64))), .val (.long (own_min p1 p2)), .second, .val (.long (own_max p1 p2)), .second, .unset, .unset, .unset] [(.long (own_max p1 p2))]))
  obtain ⟨_, _, ⟨T6, L6, k6, n6⟩, -, X6, ⟨Lc6, hQ6, l6, y6, z6⟩, st6⟩ := Jvm.LawKit.callS X5 hx (y := (⟨"com/example/facetwork/facetwork/scheme/TabSeparatedReader", "reads", "(J)Z"⟩ : MethodName)) hown (mvT hZ (own_g hw 1 rfl)) (mvT hZ (own_g hw 2 rfl)) (mvT hZ (own_g hw 3 rfl)) (mvT hZ (own_g hw 4 rfl)) (by decide) (backOf (W := 0) (rm1 l Z a0 hw [] (own_max p1 p2) h0 n0 Z0) hZ (own_g hw 4 rfl) (own_g hw 3 rfl) (by decide) (by decide)) (g := (mkF m 38 #[.val (.long p1), .second, .val (.long p2), .second, .val (.int (own_reads (1048576 : Int64))), .val (.int (own_reads (1048577 : Int64))), .val (.int (own_reads (0 : Int64))), .val (.long (own_min p1 p2)), .second, .val (.long (own_max p1 p2)), .second, .unset, .unset, .unset] [(.long (own_max p1 p2))])) rfl (by rw [hml]; rfl) (argsL := [(.long (own_max p1 p2))]) (rest := []) (lenOf pd__28J_29Z rfl) rfl (by show 2 * 0 + _ ≤ _; exact Nat.le_of_eq rfl) (hb hby at_38) (fun _ _ => ⟨rfl, eq5, (by decide : 0 + 0 ≤ _), (by decide : 0 + 0 ≤ _)⟩)
  dsimp only [Pt.U, Pt.locs, Pt.cells, Pt.slots] at X6 l6 y6 z6 st6 hQ6
  subst l6 y6 z6
  obtain ⟨rfl, Nq6, eq6⟩ := hQ6
  have N6 := Fr.app N5 Nq6
  refine own_step st6 ?_
  show own_Ends p e below F (T6.setTop (mkF m 41 #[.val (.long p1), .second, .val (.long p2), .second, .val (.int (own_reads (1048576 : Int64))), .val (.int (own_reads (1048577 : Int64))), .val (.int (own_reads (0 : Int64))), .val (.long (own_min p1 p2)), .second, .val (.long (own_max p1 p2)), .second, .unset, .unset, .unset] [(.int (own_reads (own_max p1 p2)))]))
  refine own_step (fun _ k => XS.istore X6.here hx rfl (hb hby at_41) rfl (l' := #[.val (.long p1), .second, .val (.long p2), .second, .val (.int (own_reads (1048576 : Int64))), .val (.int (own_reads (1048577 : Int64))), .val (.int (own_reads (0 : Int64))), .val (.long (own_min p1 p2)), .second, .val (.long (own_max p1 p2)), .second, .val (.int (own_reads (own_max p1 p2))), .unset, .unset]) rfl k) ?_
  show own_Ends p e below F (T6.setTop (mkF m 43 #[.val (.long p1), .second, .val (.long p2), .second, .val (.int (own_reads (1048576 : Int64))), .val (.int (own_reads (1048577 : Int64))), .val (.int (own_reads (0 : Int64))), .val (.long (own_min p1 p2)), .second, .val (.long (own_max p1 p2)), .second, .val (.int (own_reads (own_max p1 p2))), .unset, .unset] []))
  refine own_step (fun _ k => XS.lload X6.here hx rfl (hb hby at_43) rfl k) ?_
  show own_Ends p e below F (T6.setTop (mkF m 45 #[.val (.long p1), .second, .val (.long p2), .second, .val (.int (own_reads (1048576 : Int64))), .val (.int (own_reads (1048577 : Int64))), .val (.int (own_reads (0 : Int64))), .val (.long (own_min p1 p2)), .second, .val (.long (own_max p1 p2)), .second, .val (.int (own_reads (own_max p1 p2))), .unset, .unset] [(.long (own_min p1 p2))]))
  obtain ⟨_, _, ⟨T7, L7, k7, n7⟩, -, X7, ⟨Lc7, hQ7, l7, y7, z7⟩, st7⟩ := Jvm.LawKit.callS X6 hx (y := (⟨"com/example/facetwork/facetwork/scheme/TabSeparatedReader", "reads", "(J)Z"⟩ : MethodName)) hown (mvT hZ (own_g hw 1 rfl)) (mvT hZ (own_g hw 2 rfl)) (mvT hZ (own_g hw 3 rfl)) (mvT hZ (own_g hw 4 rfl)) (by decide) (backOf (W := 0) (rm1 l Z a0 hw [] (own_min p1 p2) h0 n0 Z0) hZ (own_g hw 4 rfl) (own_g hw 3 rfl) (by decide) (by decide)) (g := (mkF m 45 #[.val (.long p1), .second, .val (.long p2), .second, .val (.int (own_reads (1048576 : Int64))), .val (.int (own_reads (1048577 : Int64))), .val (.int (own_reads (0 : Int64))), .val (.long (own_min p1 p2)), .second, .val (.long (own_max p1 p2)), .second, .val (.int (own_reads (own_max p1 p2))), .unset, .unset] [(.long (own_min p1 p2))])) rfl (by rw [hml]; rfl) (argsL := [(.long (own_min p1 p2))]) (rest := []) (lenOf pd__28J_29Z rfl) rfl (by show 2 * 0 + _ ≤ _; exact Nat.le_of_eq rfl) (hb hby at_45) (fun _ _ => ⟨rfl, eq6, (by decide : 0 + 0 ≤ _), (by decide : 0 + 0 ≤ _)⟩)
  dsimp only [Pt.U, Pt.locs, Pt.cells, Pt.slots] at X7 l7 y7 z7 st7 hQ7
  subst l7 y7 z7
  obtain ⟨rfl, Nq7, eq7⟩ := hQ7
  have N7 := Fr.app N6 Nq7
  refine own_step st7 ?_
  show own_Ends p e below F (T7.setTop (mkF m 48 #[.val (.long p1), .second, .val (.long p2), .second, .val (.int (own_reads (1048576 : Int64))), .val (.int (own_reads (1048577 : Int64))), .val (.int (own_reads (0 : Int64))), .val (.long (own_min p1 p2)), .second, .val (.long (own_max p1 p2)), .second, .val (.int (own_reads (own_max p1 p2))), .unset, .unset] [(.int (own_reads (own_min p1 p2)))]))
  refine own_step (fun _ k => XS.istore X7.here hx rfl (hb hby at_48) rfl (l' := #[.val (.long p1), .second, .val (.long p2), .second, .val (.int (own_reads (1048576 : Int64))), .val (.int (own_reads (1048577 : Int64))), .val (.int (own_reads (0 : Int64))), .val (.long (own_min p1 p2)), .second, .val (.long (own_max p1 p2)), .second, .val (.int (own_reads (own_max p1 p2))), .val (.int (own_reads (own_min p1 p2))), .unset]) rfl k) ?_
  show own_Ends p e below F (T7.setTop (mkF m 50 #[.val (.long p1), .second, .val (.long p2), .second, .val (.int (own_reads (1048576 : Int64))), .val (.int (own_reads (1048577 : Int64))), .val (.int (own_reads (0 : Int64))), .val (.long (own_min p1 p2)), .second, .val (.long (own_max p1 p2)), .second, .val (.int (own_reads (own_max p1 p2))), .val (.int (own_reads (own_min p1 p2))), .unset] []))
  refine own_step (fun _ k => XS.iload X7.here hx rfl (hb hby at_50) rfl k) ?_
  show own_Ends p e below F (T7.setTop (mkF m 52 #[.val (.long p1), .second, .val (.long p2), .second, .val (.int (own_reads (1048576 : Int64))), .val (.int (own_reads (1048577 : Int64))), .val (.int (own_reads (0 : Int64))), .val (.long (own_min p1 p2)), .second, .val (.long (own_max p1 p2)), .second, .val (.int (own_reads (own_max p1 p2))), .val (.int (own_reads (own_min p1 p2))), .unset] [(.int (own_reads (own_max p1 p2)))]))
  by_cases c52_8 : (own_reads (own_max p1 p2)) = (0 : Int32)
  · refine own_step (fun _ k => XS.ifYes X7.here hx rfl (pc0 := 52) (pc' := 60) rfl (hb hby at_52) rfl ((if0 _ _).trans (teq c52_8).1) (by decide) (by decide) k) ?_
    show own_Ends p e below F (T7.setTop (mkF m 60 #[.val (.long p1), .second, .val (.long p2), .second, .val (.int (own_reads (1048576 : Int64))), .val (.int (own_reads (1048577 : Int64))), .val (.int (own_reads (0 : Int64))), .val (.long (own_min p1 p2)), .second, .val (.long (own_max p1 p2)), .second, .val (.int (own_reads (own_max p1 p2))), .val (.int (own_reads (own_min p1 p2))), .unset] []))
    refine own_step (fun _ k => XS.iconst X7.here hx rfl (hb hby at_60) k) ?_
    show own_Ends p e below F (T7.setTop (mkF m 61 #[.val (.long p1), .second, .val (.long p2), .second, .val (.int (own_reads (1048576 : Int64))), .val (.int (own_reads (1048577 : Int64))), .val (.int (own_reads (0 : Int64))), .val (.long (own_min p1 p2)), .second, .val (.long (own_max p1 p2)), .second, .val (.int (own_reads (own_max p1 p2))), .val (.int (own_reads (own_min p1 p2))), .unset] [(.int (1 : Int32))]))
    refine own_step (fun _ k => XS.goto X7.here hx rfl (pc0 := 61) (pc' := 65) rfl (hb hby at_61) (by decide) (by decide) k) ?_
    show own_Ends p e below F (T7.setTop (mkF m 65 #[.val (.long p1), .second, .val (.long p2), .second, .val (.int (own_reads (1048576 : Int64))), .val (.int (own_reads (1048577 : Int64))), .val (.int (own_reads (0 : Int64))), .val (.long (own_min p1 p2)), .second, .val (.long (own_max p1 p2)), .second, .val (.int (own_reads (own_max p1 p2))), .val (.int (own_reads (own_min p1 p2))), .unset] [(.int (1 : Int32))]))
    refine own_step (fun _ k => XS.istore X7.here hx rfl (hb hby at_65) rfl (l' := #[.val (.long p1), .second, .val (.long p2), .second, .val (.int (own_reads (1048576 : Int64))), .val (.int (own_reads (1048577 : Int64))), .val (.int (own_reads (0 : Int64))), .val (.long (own_min p1 p2)), .second, .val (.long (own_max p1 p2)), .second, .val (.int (own_reads (own_max p1 p2))), .val (.int (own_reads (own_min p1 p2))), .val (.int (1 : Int32))]) rfl k) ?_
    show own_Ends p e below F (T7.setTop (mkF m 67 #[.val (.long p1), .second, .val (.long p2), .second, .val (.int (own_reads (1048576 : Int64))), .val (.int (own_reads (1048577 : Int64))), .val (.int (own_reads (0 : Int64))), .val (.long (own_min p1 p2)), .second, .val (.long (own_max p1 p2)), .second, .val (.int (own_reads (own_max p1 p2))), .val (.int (own_reads (own_min p1 p2))), .val (.int (1 : Int32))] []))
    refine own_step (fun _ k => XS.iload X7.here hx rfl (hb hby at_67) rfl k) ?_
    show own_Ends p e below F (T7.setTop (mkF m 69 #[.val (.long p1), .second, .val (.long p2), .second, .val (.int (own_reads (1048576 : Int64))), .val (.int (own_reads (1048577 : Int64))), .val (.int (own_reads (0 : Int64))), .val (.long (own_min p1 p2)), .second, .val (.long (own_max p1 p2)), .second, .val (.int (own_reads (own_max p1 p2))), .val (.int (own_reads (own_min p1 p2))), .val (.int (1 : Int32))] [(.int (own_reads (1048576 : Int64)))]))
    refine own_step (fun _ k => XS.ifNo X7.here hx rfl (hb hby at_69) rfl ((if0 _ _).trans (feq (by decide : ¬ ((own_reads (1048576 : Int64)) = (0 : Int32)))).1) k) ?_
    show own_Ends p e below F (T7.setTop (mkF m 72 #[.val (.long p1), .second, .val (.long p2), .second, .val (.int (own_reads (1048576 : Int64))), .val (.int (own_reads (1048577 : Int64))), .val (.int (own_reads (0 : Int64))), .val (.long (own_min p1 p2)), .second, .val (.long (own_max p1 p2)), .second, .val (.int (own_reads (own_max p1 p2))), .val (.int (own_reads (own_min p1 p2))), .val (.int (1 : Int32))] []))
    refine own_step (fun _ k => XS.iload X7.here hx rfl (hb hby at_72) rfl k) ?_
    show own_Ends p e below F (T7.setTop (mkF m 74 #[.val (.long p1), .second, .val (.long p2), .second, .val (.int (own_reads (1048576 : Int64))), .val (.int (own_reads (1048577 : Int64))), .val (.int (own_reads (0 : Int64))), .val (.long (own_min p1 p2)), .second, .val (.long (own_max p1 p2)), .second, .val (.int (own_reads (own_max p1 p2))), .val (.int (own_reads (own_min p1 p2))), .val (.int (1 : Int32))] [(.int (own_reads (1048577 : Int64)))]))
    refine own_step (fun _ k => XS.ifNo X7.here hx rfl (hb hby at_74) rfl ((if0 _ _).trans (teq (by decide : (own_reads (1048577 : Int64)) = (0 : Int32))).2) k) ?_
    show own_Ends p e below F (T7.setTop (mkF m 77 #[.val (.long p1), .second, .val (.long p2), .second, .val (.int (own_reads (1048576 : Int64))), .val (.int (own_reads (1048577 : Int64))), .val (.int (own_reads (0 : Int64))), .val (.long (own_min p1 p2)), .second, .val (.long (own_max p1 p2)), .second, .val (.int (own_reads (own_max p1 p2))), .val (.int (own_reads (own_min p1 p2))), .val (.int (1 : Int32))] []))
    refine own_step (fun _ k => XS.iload X7.here hx rfl (hb hby at_77) rfl k) ?_
    show own_Ends p e below F (T7.setTop (mkF m 79 #[.val (.long p1), .second, .val (.long p2), .second, .val (.int (own_reads (1048576 : Int64))), .val (.int (own_reads (1048577 : Int64))), .val (.int (own_reads (0 : Int64))), .val (.long (own_min p1 p2)), .second, .val (.long (own_max p1 p2)), .second, .val (.int (own_reads (own_max p1 p2))), .val (.int (own_reads (own_min p1 p2))), .val (.int (1 : Int32))] [(.int (own_reads (0 : Int64)))]))
    refine own_step (fun _ k => XS.ifNo X7.here hx rfl (hb hby at_79) rfl ((if0 _ _).trans (feq (by decide : ¬ ((own_reads (0 : Int64)) = (0 : Int32)))).1) k) ?_
    show own_Ends p e below F (T7.setTop (mkF m 82 #[.val (.long p1), .second, .val (.long p2), .second, .val (.int (own_reads (1048576 : Int64))), .val (.int (own_reads (1048577 : Int64))), .val (.int (own_reads (0 : Int64))), .val (.long (own_min p1 p2)), .second, .val (.long (own_max p1 p2)), .second, .val (.int (own_reads (own_max p1 p2))), .val (.int (own_reads (own_min p1 p2))), .val (.int (1 : Int32))] []))
    refine own_step (fun _ k => XS.iload X7.here hx rfl (hb hby at_82) rfl k) ?_
    show own_Ends p e below F (T7.setTop (mkF m 84 #[.val (.long p1), .second, .val (.long p2), .second, .val (.int (own_reads (1048576 : Int64))), .val (.int (own_reads (1048577 : Int64))), .val (.int (own_reads (0 : Int64))), .val (.long (own_min p1 p2)), .second, .val (.long (own_max p1 p2)), .second, .val (.int (own_reads (own_max p1 p2))), .val (.int (own_reads (own_min p1 p2))), .val (.int (1 : Int32))] [(.int (1 : Int32))]))
    refine own_step (fun _ k => XS.ifNo X7.here hx rfl (hb hby at_84) rfl ((if0 _ _).trans (feq (by decide : ¬ ((1 : Int32) = (0 : Int32)))).1) k) ?_
    show own_Ends p e below F (T7.setTop (mkF m 87 #[.val (.long p1), .second, .val (.long p2), .second, .val (.int (own_reads (1048576 : Int64))), .val (.int (own_reads (1048577 : Int64))), .val (.int (own_reads (0 : Int64))), .val (.long (own_min p1 p2)), .second, .val (.long (own_max p1 p2)), .second, .val (.int (own_reads (own_max p1 p2))), .val (.int (own_reads (own_min p1 p2))), .val (.int (1 : Int32))] []))
    refine own_step (fun _ k => XS.iconst X7.here hx rfl (hb hby at_87) k) ?_
    show own_Ends p e below F (T7.setTop (mkF m 88 #[.val (.long p1), .second, .val (.long p2), .second, .val (.int (own_reads (1048576 : Int64))), .val (.int (own_reads (1048577 : Int64))), .val (.int (own_reads (0 : Int64))), .val (.long (own_min p1 p2)), .second, .val (.long (own_max p1 p2)), .second, .val (.int (own_reads (own_max p1 p2))), .val (.int (own_reads (own_min p1 p2))), .val (.int (1 : Int32))] [(.int (1 : Int32))]))
    refine own_step (fun _ k => XS.goto X7.here hx rfl (pc0 := 88) (pc' := 92) rfl (hb hby at_88) (by decide) (by decide) k) ?_
    show own_Ends p e below F (T7.setTop (mkF m 92 #[.val (.long p1), .second, .val (.long p2), .second, .val (.int (own_reads (1048576 : Int64))), .val (.int (own_reads (1048577 : Int64))), .val (.int (own_reads (0 : Int64))), .val (.long (own_min p1 p2)), .second, .val (.long (own_max p1 p2)), .second, .val (.int (own_reads (own_max p1 p2))), .val (.int (own_reads (own_min p1 p2))), .val (.int (1 : Int32))] [(.int (1 : Int32))]))
    rw [hF]
    exact own_ret X7 (v := (some (.int (nar .boolean (1 : Int32))))) (fun h => by rw [Bd.returns] at h; cases h) Bd.notSynchronized (fun fs hr => retN X7 hx (t := .boolean) Bd.returns (by simp) (hb hby at_92) hr) (by decide) (by decide) (by rw [eq7]; exact ⟨rfl, N7⟩)
  · refine own_step (fun _ k => XS.ifNo X7.here hx rfl (hb hby at_52) rfl ((if0 _ _).trans (feq c52_8).1) k) ?_
    show own_Ends p e below F (T7.setTop (mkF m 55 #[.val (.long p1), .second, .val (.long p2), .second, .val (.int (own_reads (1048576 : Int64))), .val (.int (own_reads (1048577 : Int64))), .val (.int (own_reads (0 : Int64))), .val (.long (own_min p1 p2)), .second, .val (.long (own_max p1 p2)), .second, .val (.int (own_reads (own_max p1 p2))), .val (.int (own_reads (own_min p1 p2))), .unset] []))
    refine own_step (fun _ k => XS.iload X7.here hx rfl (hb hby at_55) rfl k) ?_
    show own_Ends p e below F (T7.setTop (mkF m 57 #[.val (.long p1), .second, .val (.long p2), .second, .val (.int (own_reads (1048576 : Int64))), .val (.int (own_reads (1048577 : Int64))), .val (.int (own_reads (0 : Int64))), .val (.long (own_min p1 p2)), .second, .val (.long (own_max p1 p2)), .second, .val (.int (own_reads (own_max p1 p2))), .val (.int (own_reads (own_min p1 p2))), .unset] [(.int (own_reads (own_min p1 p2)))]))
    by_cases c57_9 : (own_reads (own_min p1 p2)) = (0 : Int32)
    · refine own_step (fun _ k => XS.ifYes X7.here hx rfl (pc0 := 57) (pc' := 64) rfl (hb hby at_57) rfl ((if0 _ _).trans (teq c57_9).1) (by decide) (by decide) k) ?_
      show own_Ends p e below F (T7.setTop (mkF m 64 #[.val (.long p1), .second, .val (.long p2), .second, .val (.int (own_reads (1048576 : Int64))), .val (.int (own_reads (1048577 : Int64))), .val (.int (own_reads (0 : Int64))), .val (.long (own_min p1 p2)), .second, .val (.long (own_max p1 p2)), .second, .val (.int (own_reads (own_max p1 p2))), .val (.int (own_reads (own_min p1 p2))), .unset] []))
      refine own_step (fun _ k => XS.iconst X7.here hx rfl (hb hby at_64) k) ?_
      show own_Ends p e below F (T7.setTop (mkF m 65 #[.val (.long p1), .second, .val (.long p2), .second, .val (.int (own_reads (1048576 : Int64))), .val (.int (own_reads (1048577 : Int64))), .val (.int (own_reads (0 : Int64))), .val (.long (own_min p1 p2)), .second, .val (.long (own_max p1 p2)), .second, .val (.int (own_reads (own_max p1 p2))), .val (.int (own_reads (own_min p1 p2))), .unset] [(.int (0 : Int32))]))
      refine own_step (fun _ k => XS.istore X7.here hx rfl (hb hby at_65) rfl (l' := #[.val (.long p1), .second, .val (.long p2), .second, .val (.int (own_reads (1048576 : Int64))), .val (.int (own_reads (1048577 : Int64))), .val (.int (own_reads (0 : Int64))), .val (.long (own_min p1 p2)), .second, .val (.long (own_max p1 p2)), .second, .val (.int (own_reads (own_max p1 p2))), .val (.int (own_reads (own_min p1 p2))), .val (.int (0 : Int32))]) rfl k) ?_
      show own_Ends p e below F (T7.setTop (mkF m 67 #[.val (.long p1), .second, .val (.long p2), .second, .val (.int (own_reads (1048576 : Int64))), .val (.int (own_reads (1048577 : Int64))), .val (.int (own_reads (0 : Int64))), .val (.long (own_min p1 p2)), .second, .val (.long (own_max p1 p2)), .second, .val (.int (own_reads (own_max p1 p2))), .val (.int (own_reads (own_min p1 p2))), .val (.int (0 : Int32))] []))
      refine own_step (fun _ k => XS.iload X7.here hx rfl (hb hby at_67) rfl k) ?_
      show own_Ends p e below F (T7.setTop (mkF m 69 #[.val (.long p1), .second, .val (.long p2), .second, .val (.int (own_reads (1048576 : Int64))), .val (.int (own_reads (1048577 : Int64))), .val (.int (own_reads (0 : Int64))), .val (.long (own_min p1 p2)), .second, .val (.long (own_max p1 p2)), .second, .val (.int (own_reads (own_max p1 p2))), .val (.int (own_reads (own_min p1 p2))), .val (.int (0 : Int32))] [(.int (own_reads (1048576 : Int64)))]))
      refine own_step (fun _ k => XS.ifNo X7.here hx rfl (hb hby at_69) rfl ((if0 _ _).trans (feq (by decide : ¬ ((own_reads (1048576 : Int64)) = (0 : Int32)))).1) k) ?_
      show own_Ends p e below F (T7.setTop (mkF m 72 #[.val (.long p1), .second, .val (.long p2), .second, .val (.int (own_reads (1048576 : Int64))), .val (.int (own_reads (1048577 : Int64))), .val (.int (own_reads (0 : Int64))), .val (.long (own_min p1 p2)), .second, .val (.long (own_max p1 p2)), .second, .val (.int (own_reads (own_max p1 p2))), .val (.int (own_reads (own_min p1 p2))), .val (.int (0 : Int32))] []))
      refine own_step (fun _ k => XS.iload X7.here hx rfl (hb hby at_72) rfl k) ?_
      show own_Ends p e below F (T7.setTop (mkF m 74 #[.val (.long p1), .second, .val (.long p2), .second, .val (.int (own_reads (1048576 : Int64))), .val (.int (own_reads (1048577 : Int64))), .val (.int (own_reads (0 : Int64))), .val (.long (own_min p1 p2)), .second, .val (.long (own_max p1 p2)), .second, .val (.int (own_reads (own_max p1 p2))), .val (.int (own_reads (own_min p1 p2))), .val (.int (0 : Int32))] [(.int (own_reads (1048577 : Int64)))]))
      refine own_step (fun _ k => XS.ifNo X7.here hx rfl (hb hby at_74) rfl ((if0 _ _).trans (teq (by decide : (own_reads (1048577 : Int64)) = (0 : Int32))).2) k) ?_
      show own_Ends p e below F (T7.setTop (mkF m 77 #[.val (.long p1), .second, .val (.long p2), .second, .val (.int (own_reads (1048576 : Int64))), .val (.int (own_reads (1048577 : Int64))), .val (.int (own_reads (0 : Int64))), .val (.long (own_min p1 p2)), .second, .val (.long (own_max p1 p2)), .second, .val (.int (own_reads (own_max p1 p2))), .val (.int (own_reads (own_min p1 p2))), .val (.int (0 : Int32))] []))
      refine own_step (fun _ k => XS.iload X7.here hx rfl (hb hby at_77) rfl k) ?_
      show own_Ends p e below F (T7.setTop (mkF m 79 #[.val (.long p1), .second, .val (.long p2), .second, .val (.int (own_reads (1048576 : Int64))), .val (.int (own_reads (1048577 : Int64))), .val (.int (own_reads (0 : Int64))), .val (.long (own_min p1 p2)), .second, .val (.long (own_max p1 p2)), .second, .val (.int (own_reads (own_max p1 p2))), .val (.int (own_reads (own_min p1 p2))), .val (.int (0 : Int32))] [(.int (own_reads (0 : Int64)))]))
      refine own_step (fun _ k => XS.ifNo X7.here hx rfl (hb hby at_79) rfl ((if0 _ _).trans (feq (by decide : ¬ ((own_reads (0 : Int64)) = (0 : Int32)))).1) k) ?_
      show own_Ends p e below F (T7.setTop (mkF m 82 #[.val (.long p1), .second, .val (.long p2), .second, .val (.int (own_reads (1048576 : Int64))), .val (.int (own_reads (1048577 : Int64))), .val (.int (own_reads (0 : Int64))), .val (.long (own_min p1 p2)), .second, .val (.long (own_max p1 p2)), .second, .val (.int (own_reads (own_max p1 p2))), .val (.int (own_reads (own_min p1 p2))), .val (.int (0 : Int32))] []))
      refine own_step (fun _ k => XS.iload X7.here hx rfl (hb hby at_82) rfl k) ?_
      show own_Ends p e below F (T7.setTop (mkF m 84 #[.val (.long p1), .second, .val (.long p2), .second, .val (.int (own_reads (1048576 : Int64))), .val (.int (own_reads (1048577 : Int64))), .val (.int (own_reads (0 : Int64))), .val (.long (own_min p1 p2)), .second, .val (.long (own_max p1 p2)), .second, .val (.int (own_reads (own_max p1 p2))), .val (.int (own_reads (own_min p1 p2))), .val (.int (0 : Int32))] [(.int (0 : Int32))]))
      refine own_step (fun _ k => XS.ifYes X7.here hx rfl (pc0 := 84) (pc' := 91) rfl (hb hby at_84) rfl ((if0 _ _).trans (teq (by decide : (0 : Int32) = (0 : Int32))).1) (by decide) (by decide) k) ?_
      show own_Ends p e below F (T7.setTop (mkF m 91 #[.val (.long p1), .second, .val (.long p2), .second, .val (.int (own_reads (1048576 : Int64))), .val (.int (own_reads (1048577 : Int64))), .val (.int (own_reads (0 : Int64))), .val (.long (own_min p1 p2)), .second, .val (.long (own_max p1 p2)), .second, .val (.int (own_reads (own_max p1 p2))), .val (.int (own_reads (own_min p1 p2))), .val (.int (0 : Int32))] []))
      refine own_step (fun _ k => XS.iconst X7.here hx rfl (hb hby at_91) k) ?_
      show own_Ends p e below F (T7.setTop (mkF m 92 #[.val (.long p1), .second, .val (.long p2), .second, .val (.int (own_reads (1048576 : Int64))), .val (.int (own_reads (1048577 : Int64))), .val (.int (own_reads (0 : Int64))), .val (.long (own_min p1 p2)), .second, .val (.long (own_max p1 p2)), .second, .val (.int (own_reads (own_max p1 p2))), .val (.int (own_reads (own_min p1 p2))), .val (.int (0 : Int32))] [(.int (0 : Int32))]))
      rw [hF]
      exact own_ret X7 (v := (some (.int (nar .boolean (0 : Int32))))) (fun h => by rw [Bd.returns] at h; cases h) Bd.notSynchronized (fun fs hr => retN X7 hx (t := .boolean) Bd.returns (by simp) (hb hby at_92) hr) (by decide) (by decide) (by rw [eq7]; exact (own_no p1 p2 c52_8 c57_9).elim)
    · refine own_step (fun _ k => XS.ifNo X7.here hx rfl (hb hby at_57) rfl ((if0 _ _).trans (feq c57_9).1) k) ?_
      show own_Ends p e below F (T7.setTop (mkF m 60 #[.val (.long p1), .second, .val (.long p2), .second, .val (.int (own_reads (1048576 : Int64))), .val (.int (own_reads (1048577 : Int64))), .val (.int (own_reads (0 : Int64))), .val (.long (own_min p1 p2)), .second, .val (.long (own_max p1 p2)), .second, .val (.int (own_reads (own_max p1 p2))), .val (.int (own_reads (own_min p1 p2))), .unset] []))
      refine own_step (fun _ k => XS.iconst X7.here hx rfl (hb hby at_60) k) ?_
      show own_Ends p e below F (T7.setTop (mkF m 61 #[.val (.long p1), .second, .val (.long p2), .second, .val (.int (own_reads (1048576 : Int64))), .val (.int (own_reads (1048577 : Int64))), .val (.int (own_reads (0 : Int64))), .val (.long (own_min p1 p2)), .second, .val (.long (own_max p1 p2)), .second, .val (.int (own_reads (own_max p1 p2))), .val (.int (own_reads (own_min p1 p2))), .unset] [(.int (1 : Int32))]))
      refine own_step (fun _ k => XS.goto X7.here hx rfl (pc0 := 61) (pc' := 65) rfl (hb hby at_61) (by decide) (by decide) k) ?_
      show own_Ends p e below F (T7.setTop (mkF m 65 #[.val (.long p1), .second, .val (.long p2), .second, .val (.int (own_reads (1048576 : Int64))), .val (.int (own_reads (1048577 : Int64))), .val (.int (own_reads (0 : Int64))), .val (.long (own_min p1 p2)), .second, .val (.long (own_max p1 p2)), .second, .val (.int (own_reads (own_max p1 p2))), .val (.int (own_reads (own_min p1 p2))), .unset] [(.int (1 : Int32))]))
      refine own_step (fun _ k => XS.istore X7.here hx rfl (hb hby at_65) rfl (l' := #[.val (.long p1), .second, .val (.long p2), .second, .val (.int (own_reads (1048576 : Int64))), .val (.int (own_reads (1048577 : Int64))), .val (.int (own_reads (0 : Int64))), .val (.long (own_min p1 p2)), .second, .val (.long (own_max p1 p2)), .second, .val (.int (own_reads (own_max p1 p2))), .val (.int (own_reads (own_min p1 p2))), .val (.int (1 : Int32))]) rfl k) ?_
      show own_Ends p e below F (T7.setTop (mkF m 67 #[.val (.long p1), .second, .val (.long p2), .second, .val (.int (own_reads (1048576 : Int64))), .val (.int (own_reads (1048577 : Int64))), .val (.int (own_reads (0 : Int64))), .val (.long (own_min p1 p2)), .second, .val (.long (own_max p1 p2)), .second, .val (.int (own_reads (own_max p1 p2))), .val (.int (own_reads (own_min p1 p2))), .val (.int (1 : Int32))] []))
      refine own_step (fun _ k => XS.iload X7.here hx rfl (hb hby at_67) rfl k) ?_
      show own_Ends p e below F (T7.setTop (mkF m 69 #[.val (.long p1), .second, .val (.long p2), .second, .val (.int (own_reads (1048576 : Int64))), .val (.int (own_reads (1048577 : Int64))), .val (.int (own_reads (0 : Int64))), .val (.long (own_min p1 p2)), .second, .val (.long (own_max p1 p2)), .second, .val (.int (own_reads (own_max p1 p2))), .val (.int (own_reads (own_min p1 p2))), .val (.int (1 : Int32))] [(.int (own_reads (1048576 : Int64)))]))
      refine own_step (fun _ k => XS.ifNo X7.here hx rfl (hb hby at_69) rfl ((if0 _ _).trans (feq (by decide : ¬ ((own_reads (1048576 : Int64)) = (0 : Int32)))).1) k) ?_
      show own_Ends p e below F (T7.setTop (mkF m 72 #[.val (.long p1), .second, .val (.long p2), .second, .val (.int (own_reads (1048576 : Int64))), .val (.int (own_reads (1048577 : Int64))), .val (.int (own_reads (0 : Int64))), .val (.long (own_min p1 p2)), .second, .val (.long (own_max p1 p2)), .second, .val (.int (own_reads (own_max p1 p2))), .val (.int (own_reads (own_min p1 p2))), .val (.int (1 : Int32))] []))
      refine own_step (fun _ k => XS.iload X7.here hx rfl (hb hby at_72) rfl k) ?_
      show own_Ends p e below F (T7.setTop (mkF m 74 #[.val (.long p1), .second, .val (.long p2), .second, .val (.int (own_reads (1048576 : Int64))), .val (.int (own_reads (1048577 : Int64))), .val (.int (own_reads (0 : Int64))), .val (.long (own_min p1 p2)), .second, .val (.long (own_max p1 p2)), .second, .val (.int (own_reads (own_max p1 p2))), .val (.int (own_reads (own_min p1 p2))), .val (.int (1 : Int32))] [(.int (own_reads (1048577 : Int64)))]))
      refine own_step (fun _ k => XS.ifNo X7.here hx rfl (hb hby at_74) rfl ((if0 _ _).trans (teq (by decide : (own_reads (1048577 : Int64)) = (0 : Int32))).2) k) ?_
      show own_Ends p e below F (T7.setTop (mkF m 77 #[.val (.long p1), .second, .val (.long p2), .second, .val (.int (own_reads (1048576 : Int64))), .val (.int (own_reads (1048577 : Int64))), .val (.int (own_reads (0 : Int64))), .val (.long (own_min p1 p2)), .second, .val (.long (own_max p1 p2)), .second, .val (.int (own_reads (own_max p1 p2))), .val (.int (own_reads (own_min p1 p2))), .val (.int (1 : Int32))] []))
      refine own_step (fun _ k => XS.iload X7.here hx rfl (hb hby at_77) rfl k) ?_
      show own_Ends p e below F (T7.setTop (mkF m 79 #[.val (.long p1), .second, .val (.long p2), .second, .val (.int (own_reads (1048576 : Int64))), .val (.int (own_reads (1048577 : Int64))), .val (.int (own_reads (0 : Int64))), .val (.long (own_min p1 p2)), .second, .val (.long (own_max p1 p2)), .second, .val (.int (own_reads (own_max p1 p2))), .val (.int (own_reads (own_min p1 p2))), .val (.int (1 : Int32))] [(.int (own_reads (0 : Int64)))]))
      refine own_step (fun _ k => XS.ifNo X7.here hx rfl (hb hby at_79) rfl ((if0 _ _).trans (feq (by decide : ¬ ((own_reads (0 : Int64)) = (0 : Int32)))).1) k) ?_
      show own_Ends p e below F (T7.setTop (mkF m 82 #[.val (.long p1), .second, .val (.long p2), .second, .val (.int (own_reads (1048576 : Int64))), .val (.int (own_reads (1048577 : Int64))), .val (.int (own_reads (0 : Int64))), .val (.long (own_min p1 p2)), .second, .val (.long (own_max p1 p2)), .second, .val (.int (own_reads (own_max p1 p2))), .val (.int (own_reads (own_min p1 p2))), .val (.int (1 : Int32))] []))
      refine own_step (fun _ k => XS.iload X7.here hx rfl (hb hby at_82) rfl k) ?_
      show own_Ends p e below F (T7.setTop (mkF m 84 #[.val (.long p1), .second, .val (.long p2), .second, .val (.int (own_reads (1048576 : Int64))), .val (.int (own_reads (1048577 : Int64))), .val (.int (own_reads (0 : Int64))), .val (.long (own_min p1 p2)), .second, .val (.long (own_max p1 p2)), .second, .val (.int (own_reads (own_max p1 p2))), .val (.int (own_reads (own_min p1 p2))), .val (.int (1 : Int32))] [(.int (1 : Int32))]))
      refine own_step (fun _ k => XS.ifNo X7.here hx rfl (hb hby at_84) rfl ((if0 _ _).trans (feq (by decide : ¬ ((1 : Int32) = (0 : Int32)))).1) k) ?_
      show own_Ends p e below F (T7.setTop (mkF m 87 #[.val (.long p1), .second, .val (.long p2), .second, .val (.int (own_reads (1048576 : Int64))), .val (.int (own_reads (1048577 : Int64))), .val (.int (own_reads (0 : Int64))), .val (.long (own_min p1 p2)), .second, .val (.long (own_max p1 p2)), .second, .val (.int (own_reads (own_max p1 p2))), .val (.int (own_reads (own_min p1 p2))), .val (.int (1 : Int32))] []))
      refine own_step (fun _ k => XS.iconst X7.here hx rfl (hb hby at_87) k) ?_
      show own_Ends p e below F (T7.setTop (mkF m 88 #[.val (.long p1), .second, .val (.long p2), .second, .val (.int (own_reads (1048576 : Int64))), .val (.int (own_reads (1048577 : Int64))), .val (.int (own_reads (0 : Int64))), .val (.long (own_min p1 p2)), .second, .val (.long (own_max p1 p2)), .second, .val (.int (own_reads (own_max p1 p2))), .val (.int (own_reads (own_min p1 p2))), .val (.int (1 : Int32))] [(.int (1 : Int32))]))
      refine own_step (fun _ k => XS.goto X7.here hx rfl (pc0 := 88) (pc' := 92) rfl (hb hby at_88) (by decide) (by decide) k) ?_
      show own_Ends p e below F (T7.setTop (mkF m 92 #[.val (.long p1), .second, .val (.long p2), .second, .val (.int (own_reads (1048576 : Int64))), .val (.int (own_reads (1048577 : Int64))), .val (.int (own_reads (0 : Int64))), .val (.long (own_min p1 p2)), .second, .val (.long (own_max p1 p2)), .second, .val (.int (own_reads (own_max p1 p2))), .val (.int (own_reads (own_min p1 p2))), .val (.int (1 : Int32))] [(.int (1 : Int32))]))
      rw [hF]
      exact own_ret X7 (v := (some (.int (nar .boolean (1 : Int32))))) (fun h => by rw [Bd.returns] at h; cases h) Bd.notSynchronized (fun fs hr => retN X7 hx (t := .boolean) Bd.returns (by simp) (hb hby at_92) hr) (by decide) (by decide) (by rw [eq7]; exact ⟨rfl, N7⟩)

set_option maxRecDepth 65536 in
set_option maxHeartbeats 40000000 in
theorem comes_1 {Post : Tables → Env → Array Value → State → Outcome → State → Prop} (hpost : ∀ tb e args s v u, (limb_1_1.after args s (.returned v) u = true ∧ limb_1_2.after args s (.returned v) u = true ∧ True) → FrameEnd s (.returned v) u (Jvm.fieldLocs frame_1_writes args s ++ Jvm.arrayLocs frame_1_arrays args s ++ Jvm.staticLocs frame_1_statics s) 0 0 → Post tb e args s (.returned v) u) :
    ArmFor flags0 classFile x code maxLocals ret World_1 tables_1 room_1 Calls_1 rest_1 Pre_1 Post := by
  intro l hfl _ _ p e ha hc hk s m args below hf hA hF happ hP
  obtain ⟨hcalls, hrest, hpre⟩ := hP
  obtain ⟨-, -, -, hnamed, -, -, -, hat⟩ := (Spec.applies_iff hf).mp happ
  obtain ⟨hg, hn⟩ := and_e (Cond.before_iff.mp (show (Jvm.Cond.and given_1 narrow_1).before args s = true from hpre))
  obtain ⟨g0, r0⟩ := and_e hg
  obtain ⟨g1, r1⟩ := and_e r0
  have g2 := r1
  obtain ⟨w0, w1, rfl⟩ : ∃ w0 w1 : Value, args = #[w0, w1] := by
    have hs : args.size = 2 := by simpa [Cond.value, given_1] using g0
    obtain ⟨L⟩ := args
    match L, hs with
    | [w0, w1], _ => exact ⟨w0, w1, rfl⟩
  have hw := fun d (hd : d ∈ tables_1) => atoms_spec (ws := Jvm.Cond.code x code maxLocals ret :: tables_1) hat d (List.mem_cons_of_mem _ hd)
  have hfit : Fit s := fun {y c} hc i hi => by
    obtain ⟨ha, rfl⟩ := Array.getElem?_eq_some_iff.mp hc
    have q := List.all_eq_true.mp ((Array.all_eq_true_iff_forall_mem.mp hF) _ (Array.getElem_mem ha)) i (List.mem_range.mpr hi)
    simpa [Array.getElem?_eq_getElem hi] using q
  obtain ⟨i0, ei0⟩ := isL_v g1
  obtain rfl : w0 = (.long i0) := Option.some.inj ei0
  obtain ⟨i1, ei1⟩ := isL_v g2
  obtain rfl : w1 = (.long i1) := Option.some.inj ei1
  obtain ⟨n, o, h1, h2, h3, _, L, rfl, ⟨rfl, N⟩, hq⟩ := rm0 l s _ hw tables_1 i0 i1  s.heap s.heap.size (Nat.le_refl _)  p e ha hc hk s m _ below hf ((Spec.applies_iff_loose hf).mp happ).1 ⟨rfl, State.Warmed39.refl s, rfl⟩ trivial
  refine ⟨n, _, h1, h2, h3, hpost _ _ _ _ _ _ ⟨Cond.after_iff.mpr rfl, Cond.after_iff.mpr (eq_i res_at (Term.int_eval (1)) rfl), trivial⟩ ⟨hq.1, hq.2.1, (hq.2.2.sift fun y hy => Or.inr (N y hy)).mono (by decide) (by decide)⟩⟩
theorem main_1_1 : Claimed_1_1 := comes_1 fun _ _ _ _ _ _ h hF => ⟨h.1, hF⟩
theorem main_1_2 : Claimed_1_2 := comes_1 fun _ _ _ _ _ _ h hF => ⟨h.2.1, hF⟩

end Jvm.Pilot.@@N@@
namespace Jvm.Pilot.@@N@@
open Jvm Jvm.ClassFile Sem Op Lib Jvm.Free Jvm.Stand Jvm.Pilot.@@N@@.Jvm.D
/-! MADE BY PROGRAM (witnessworld.py) out of the Statement's table words and the real class files: 11 classes; the members and pool entries that the words name. The judged class is class 1, her method 1. -/
namespace start1
open Jvm.ClassFile
def u (s : String) : CpInfo := .utf8 (stringToUtf16 s)
/-- a pool by its gaps: so many unusable entries, then the entry; so many at the end -/
def gap : Nat → List CpInfo → List CpInfo
  | 0, r => r
  | n + 1, r => .unusable :: gap n r
def poolList (es : List (Nat × CpInfo)) (last : Nat) : List CpInfo := es.foldr (fun e r => gap e.1 (e.2 :: r)) (gap last [])
def pool (es : List (Nat × CpInfo)) (last : Nat) : Array CpInfo := ⟨poolList es last⟩
def fileOf (pool : Array CpInfo) (this : Nat) (attrs : Array Attribute := #[]) (ms : Array MethodInfo := #[]) (fl : Nat := 33) (sup : Nat := 0) (ifs : Array Nat := #[]) (fds : Array FieldInfo := #[]) : ClassFile where
  minorVersion := 0
  majorVersion := 65
  constantPool := pool
  accessFlags := fl
  thisClass := this
  superClass := sup
  interfaces := ifs
  fields := fds
  methods := ms
  attributes := attrs
def plain (name : String) (sup : Option ClassId) : Class where
  name := name
  kind := .ordinary
  loader := none
  accessFlags := 33
  super := sup
  interfaces := #[]
  cf := none
  fields := #[]
  methods := #[]
  instanceTypes := #[]
  staticTypes := #[]
  resolved := #[]
  callSites := []
  init := .initialized
  statics := none
  mirror := none

def pool0 : Array CpInfo := pool [(5, u "<init>"), (0, u "()V"), (1, .class_ 10), (1, u "java/lang/Object")] 113

def k0m0 : Method := { name := "<init>", desc := "()V", sig := { parameters := [], returnType := none }, accessFlags := 1, code := none }
/-- java/lang/Object -/
def k0 : Class := { plain "java/lang/Object" none with
  accessFlags := 33
  interfaces := #[]
  cf := some (fileOf pool0 8 #[] #[{ accessFlags := 1, nameIndex := 5, descriptorIndex := 6, attributes := #[] }] 33 0 #[] #[])
  fields := #[]
  methods := #[k0m0]
  instanceTypes := #[]
  staticTypes := #[]
  resolved := Array.replicate 124 none
  statics := none }

def pool1 : Array CpInfo := pool [(2, .class_ 4), (1, u "java/lang/Object"), (0, u "<init>"), (0, u "()V"), (0, .long 1048576), (1, .methodref 10 11), (0, .class_ 12), (0, .nameAndType 13 14), (0, u "com/example/facetwork/facetwork/scheme/TabSeparatedReader"), (0, u "reads"), (0, u "(J)Z"), (0, .long 1048577), (1, .methodref 18 19), (0, .class_ 20), (0, .nameAndType 21 22), (0, u "java/lang/Math"), (0, u "min"), (0, u "(JJ)J"), (0, .methodref 18 24), (0, .nameAndType 25 22), (0, u "max"), (0, .class_ 27), (0, u "com/example/facetwork/facetwork/scheme/TabSeparatedReaderReadsPinLaw"), (2, u "law"), (0, u "(JJ)Z")] 3

def k1m0 : Method := { name := "<init>", desc := "()V", sig := { parameters := [], returnType := none }, accessFlags := 1, code := none }
def k1c1 : Code := { maxStack := 4, maxLocals := 14, code := code, exceptionTable := #[], attributes := #[] }
def k1m1 : Method := { name := "law", desc := "(JJ)Z", sig := { parameters := [.long, .long], returnType := some .boolean }, accessFlags := 9, code := some k1c1 }
/-- com/example/facetwork/facetwork/scheme/TabSeparatedReaderReadsPinLaw -/
def k1 : Class := { plain "com/example/facetwork/facetwork/scheme/TabSeparatedReaderReadsPinLaw" (some 0) with
  accessFlags := 49
  interfaces := #[]
  cf := some (fileOf pool1 26 #[] #[{ accessFlags := 1, nameIndex := 5, descriptorIndex := 6, attributes := #[] }, { accessFlags := 9, nameIndex := 30, descriptorIndex := 31, attributes := #[] }] 49 2 #[] #[])
  fields := #[]
  methods := #[k1m0, k1m1]
  instanceTypes := #[]
  staticTypes := #[]
  resolved := Array.replicate 35 none
  statics := none }

def pool2 : Array CpInfo := pool [(1, .class_ 2), (0, u "java/lang/AutoCloseable"), (0, .class_ 4), (0, u "java/lang/Object")] 7

/-- java/lang/AutoCloseable -/
def k2 : Class := { plain "java/lang/AutoCloseable" (some 0) with
  accessFlags := 1537
  interfaces := #[]
  cf := some (fileOf pool2 1 #[] #[] 1537 3 #[] #[])
  fields := #[]
  methods := #[]
  instanceTypes := #[]
  staticTypes := #[]
  resolved := Array.replicate 12 none
  statics := none }

def pool3 : Array CpInfo := pool [(2, .class_ 4), (1, u "java/lang/Object"), (30, .class_ 37), (1, u "com/example/facetwork/facetwork/scheme/TabSeparatedReader"), (0, u "decoder"), (0, u "Ljava/nio/charset/CharsetDecoder;"), (3, u "buffer"), (0, u "[B"), (2, u "source"), (0, u "Ljava/lang/String;"), (2, u "in"), (0, u "Ljava/io/InputStream;"), (0, .long 1048576), (43, u "restUnread"), (0, u "Z"), (9, u "number"), (0, u "I"), (6, u "start"), (2, u "BYTE_ORDER_MARK"), (2, u "end"), (35, .class_ 159), (0, u "com/example/facetwork/facetwork/scheme/TabSeparatedReader$Line"), (52, u "exhausted"), (12, u "MAX_HELD"), (19, .class_ 246), (0, u "java/lang/AutoCloseable"), (0, u "MAX_LINE"), (1, u "TOO_LONG"), (1, u "SHOWN"), (3, u "reads"), (0, u "(J)Z")] 37

def k3c0 : Code := { maxStack := 4, maxLocals := 2, code := prog_41_method_2_code, exceptionTable := #[], attributes := #[] }
def k3m0 : Method := { name := "reads", desc := "(J)Z", sig := { parameters := [.long], returnType := some .boolean }, accessFlags := 8, code := some k3c0 }
/-- com/example/facetwork/facetwork/scheme/TabSeparatedReader -/
def k3 : Class := { plain "com/example/facetwork/facetwork/scheme/TabSeparatedReader" (some 0) with
  accessFlags := 49
  interfaces := #[2]
  cf := some (fileOf pool3 35 #[.nestMembers #[158]] #[{ accessFlags := 8, nameIndex := 255, descriptorIndex := 256, attributes := #[] }] 49 2 #[245] #[{ accessFlags := 26, nameIndex := 119, descriptorIndex := 44, attributes := #[] }, { accessFlags := 26, nameIndex := 247, descriptorIndex := 109, attributes := #[] }, { accessFlags := 26, nameIndex := 225, descriptorIndex := 109, attributes := #[] }, { accessFlags := 26, nameIndex := 249, descriptorIndex := 109, attributes := #[] }, { accessFlags := 26, nameIndex := 251, descriptorIndex := 109, attributes := #[] }, { accessFlags := 18, nameIndex := 47, descriptorIndex := 48, attributes := #[] }, { accessFlags := 18, nameIndex := 51, descriptorIndex := 52, attributes := #[] }, { accessFlags := 18, nameIndex := 38, descriptorIndex := 39, attributes := #[] }, { accessFlags := 2, nameIndex := 43, descriptorIndex := 44, attributes := #[] }, { accessFlags := 2, nameIndex := 116, descriptorIndex := 109, attributes := #[] }, { accessFlags := 2, nameIndex := 122, descriptorIndex := 109, attributes := #[] }, { accessFlags := 2, nameIndex := 212, descriptorIndex := 98, attributes := #[] }, { accessFlags := 2, nameIndex := 108, descriptorIndex := 109, attributes := #[] }, { accessFlags := 2, nameIndex := 97, descriptorIndex := 98, attributes := #[] }])
  fields := #[{ name := "BYTE_ORDER_MARK", type := (.array .byte), accessFlags := 26, slot := 0, constantValue := 0 }, { name := "MAX_LINE", type := .int, accessFlags := 26, slot := 1, constantValue := 0 }, { name := "MAX_HELD", type := .int, accessFlags := 26, slot := 2, constantValue := 0 }, { name := "TOO_LONG", type := .int, accessFlags := 26, slot := 3, constantValue := 0 }, { name := "SHOWN", type := .int, accessFlags := 26, slot := 4, constantValue := 0 }, { name := "source", type := (.object "java/lang/String"), accessFlags := 18, slot := 0, constantValue := 0 }, { name := "in", type := (.object "java/io/InputStream"), accessFlags := 18, slot := 1, constantValue := 0 }, { name := "decoder", type := (.object "java/nio/charset/CharsetDecoder"), accessFlags := 18, slot := 2, constantValue := 0 }, { name := "buffer", type := (.array .byte), accessFlags := 2, slot := 3, constantValue := 0 }, { name := "start", type := .int, accessFlags := 2, slot := 4, constantValue := 0 }, { name := "end", type := .int, accessFlags := 2, slot := 5, constantValue := 0 }, { name := "exhausted", type := .boolean, accessFlags := 2, slot := 6, constantValue := 0 }, { name := "number", type := .int, accessFlags := 2, slot := 7, constantValue := 0 }, { name := "restUnread", type := .boolean, accessFlags := 2, slot := 8, constantValue := 0 }]
  methods := #[k3m0]
  instanceTypes := #[(.object "java/lang/String"), (.object "java/io/InputStream"), (.object "java/nio/charset/CharsetDecoder"), (.array .byte), .int, .int, .boolean, .int, .boolean]
  staticTypes := #[(.array .byte), .int, .int, .int, .int]
  resolved := Array.replicate 294 none
  statics := none }

def pool4 : Array CpInfo := pool [(1, .class_ 2), (0, u "java/lang/Math"), (1, .class_ 6), (1, u "java/lang/Object"), (0, u "<init>"), (0, u "()V"), (89, .class_ 100), (1, u "java/lang/Math$RandomNumberGeneratorHolder"), (20, u "(JJ)J"), (50, u "negativeZeroFloatBits"), (0, u "J"), (2, u "negativeZeroDoubleBits"), (21, u "max"), (2, u "min"), (43, u "$assertionsDisabled"), (0, u "Z"), (91, u "twoToTheDoubleScaleDown"), (0, u "D"), (4, u "twoToTheDoubleScaleUp"), (9, u "E"), (3, u "PI"), (2, u "TAU"), (2, u "DEGREES_TO_RADIANS"), (0, u "RADIANS_TO_DEGREES")] 94

def k4m0 : Method := { name := "<init>", desc := "()V", sig := { parameters := [], returnType := none }, accessFlags := 2, code := none }
def k4c1 : Code := { maxStack := 4, maxLocals := 4, code := jdk_29_method_66_code, exceptionTable := #[], attributes := #[] }
def k4m1 : Method := { name := "max", desc := "(JJ)J", sig := { parameters := [.long, .long], returnType := some .long }, accessFlags := 9, code := some k4c1 }
def k4c2 : Code := { maxStack := 4, maxLocals := 4, code := jdk_29_method_70_code, exceptionTable := #[], attributes := #[] }
def k4m2 : Method := { name := "min", desc := "(JJ)J", sig := { parameters := [.long, .long], returnType := some .long }, accessFlags := 9, code := some k4c2 }
/-- java/lang/Math -/
def k4 : Class := { plain "java/lang/Math" (some 0) with
  accessFlags := 49
  interfaces := #[]
  cf := some (fileOf pool4 1 #[.nestMembers #[98]] #[{ accessFlags := 2, nameIndex := 7, descriptorIndex := 8, attributes := #[] }, { accessFlags := 9, nameIndex := 198, descriptorIndex := 121, attributes := #[] }, { accessFlags := 9, nameIndex := 201, descriptorIndex := 121, attributes := #[] }] 49 4 #[] #[{ accessFlags := 25, nameIndex := 354, descriptorIndex := 339, attributes := #[] }, { accessFlags := 25, nameIndex := 358, descriptorIndex := 339, attributes := #[] }, { accessFlags := 25, nameIndex := 361, descriptorIndex := 339, attributes := #[] }, { accessFlags := 26, nameIndex := 364, descriptorIndex := 339, attributes := #[] }, { accessFlags := 26, nameIndex := 365, descriptorIndex := 339, attributes := #[] }, { accessFlags := 26, nameIndex := 172, descriptorIndex := 173, attributes := #[] }, { accessFlags := 26, nameIndex := 176, descriptorIndex := 173, attributes := #[] }, { accessFlags := 8, nameIndex := 344, descriptorIndex := 339, attributes := #[] }, { accessFlags := 8, nameIndex := 338, descriptorIndex := 339, attributes := #[] }, { accessFlags := 4120, nameIndex := 245, descriptorIndex := 246, attributes := #[] }])
  fields := #[{ name := "E", type := .double, accessFlags := 25, slot := 0, constantValue := 0 }, { name := "PI", type := .double, accessFlags := 25, slot := 1, constantValue := 0 }, { name := "TAU", type := .double, accessFlags := 25, slot := 2, constantValue := 0 }, { name := "DEGREES_TO_RADIANS", type := .double, accessFlags := 26, slot := 3, constantValue := 0 }, { name := "RADIANS_TO_DEGREES", type := .double, accessFlags := 26, slot := 4, constantValue := 0 }, { name := "negativeZeroFloatBits", type := .long, accessFlags := 26, slot := 5, constantValue := 0 }, { name := "negativeZeroDoubleBits", type := .long, accessFlags := 26, slot := 6, constantValue := 0 }, { name := "twoToTheDoubleScaleUp", type := .double, accessFlags := 8, slot := 7, constantValue := 0 }, { name := "twoToTheDoubleScaleDown", type := .double, accessFlags := 8, slot := 8, constantValue := 0 }, { name := "$assertionsDisabled", type := .boolean, accessFlags := 4120, slot := 9, constantValue := 0 }]
  methods := #[k4m0, k4m1, k4m2]
  instanceTypes := #[]
  staticTypes := #[.double, .double, .double, .double, .double, .long, .long, .double, .double, .boolean]
  resolved := Array.replicate 460 none
  statics := none }

def pool5 : Array CpInfo := pool [(1, u "java/lang/Cloneable"), (0, .class_ 1), (0, u "java/lang/Object"), (0, .class_ 3)] 3

/-- java/lang/Cloneable -/
def k5 : Class := { plain "java/lang/Cloneable" (some 0) with
  accessFlags := 1537
  interfaces := #[]
  cf := some (fileOf pool5 2 #[] #[] 1537 4 #[] #[])
  fields := #[]
  methods := #[]
  instanceTypes := #[]
  staticTypes := #[]
  resolved := Array.replicate 8 none
  statics := none }

def pool6 : Array CpInfo := pool [(1, u "java/io/Serializable"), (0, .class_ 1), (0, u "java/lang/Object"), (0, .class_ 3)] 3

/-- java/io/Serializable -/
def k6 : Class := { plain "java/io/Serializable" (some 0) with
  accessFlags := 1537
  interfaces := #[]
  cf := some (fileOf pool6 2 #[] #[] 1537 4 #[] #[])
  fields := #[]
  methods := #[]
  instanceTypes := #[]
  staticTypes := #[]
  resolved := Array.replicate 8 none
  statics := none }

/-- the primitive byte -/
def k7 : Class := { plain "byte" none with kind := .primitive 'B', accessFlags := 0x411 }
/-- [B -/
def k8 : Class := { plain "[B" (some 0) with kind := .array 7 .byte, interfaces := #[5, 6], accessFlags := 1041 }

/-- the primitive int -/
def k9 : Class := { plain "int" none with kind := .primitive 'I', accessFlags := 0x411 }
/-- [I -/
def k10 : Class := { plain "[I" (some 0) with kind := .array 9 .int, interfaces := #[5, 6], accessFlags := 1041 }

def heap : Heap := #[]
def classes : Array Class := #[k0, k1, k2, k3, k4, k5, k6, k7, k8, k9, k10]
def interned : List (Array UInt16 × Addr) := []
def slotsUsed : Nat := 0
def theMethod : MethodId := ⟨1, 1⟩
def args0 : Array Value := #[.long 5, .long 7]
def aboutOver (below : List Frame) : State where
  vm := { classes := classes, interned := interned.toArray }
  heap := heap
  slotsUsed := slotsUsed
  threads := #[{ frames := .invoking theMethod args0 :: below }]
def below0 : List Frame := [.native { method := ⟨0, 0⟩, args := #[] }]
def about1 : State := aboutOver below0
def p0 : Program := .bare "" "" ""
def e0 : Env := launch0.env 0 0 0
theorem w_frames : about1.frames = Frame.invoking theMethod args0 :: below0 := rfl
set_option maxRecDepth 65536 in
theorem w_args : argsFit about1.vm theMethod args0 = true := by decide +kernel
set_option maxRecDepth 65536 in
theorem w_heap : heapFits about1 = true := by decide +kernel
set_option maxRecDepth 65536 in
theorem w_runnable : about1.curStatus? = some .runnable := by decide +kernel
set_option maxRecDepth 65536 in
theorem w_alone : about1.alone = true := by decide +kernel
set_option maxRecDepth 65536 in
theorem w_named : about1.methodNamed? x = some theMethod := by decide +kernel
set_option maxRecDepth 65536 in
theorem w_hears : about1.hears theMethod below0 = true := by decide +kernel
set_option maxRecDepth 65536 in
theorem w_ripe : about1.ripe theMethod args0 below0 = true := by decide +kernel
theorem w_running : about1.status = .running := rfl
set_option maxRecDepth 65536 in
theorem w_room : about1.hasRoom e0.platform room_1 = true :=
  launch0.hasRoom_least _ room_1 (by decide +kernel) (by decide +kernel) (by decide +kernel) (by decide +kernel) (by decide +kernel) (by decide +kernel)
theorem allAtoms_all (ts : List Jvm.Cond) (a : Array Jvm.Value) (st : Jvm.State) : (allAtoms ts).before a st = ts.all (fun c => c.before a st) := by
  induction ts with
  | nil => rfl
  | cons c t ih =>
    show (Jvm.Cond.and c (allAtoms t)).before a st = _
    rw [Jvm.Cond.before_and, ih, List.all_cons]
def words1 : List Jvm.Cond := Jvm.Cond.code x code maxLocals ret :: tables_1
/-- a 'code' word, met by the world's own term for the bytes: nothing is compared byte by byte -/
theorem code_word {y : MethodName} {bytes : ByteArray} {mx : Nat} {rt : Option FieldType} {a : Array Value} {s : State} {m : MethodId} {meth : Method} {c : Code} (h1 : s.methodNamed? y = some m) (h2 : s.vm.method? m = some meth) (h3 : meth.code = some c) (h4 : c.code = bytes)
    (h5 : (c.maxLocals == mx && c.exceptionTable.isEmpty && decide (c.maxStack ≤ mostOperands) && decide (meth.sig.returnType = rt) && !meth.locks && decide (parseMethodDescriptor y.desc = some meth.sig)) = true) : (Jvm.Cond.code y bytes mx rt).before a s = true := by
  simp only [Bool.and_eq_true, beq_iff_eq, Bool.not_eq_true', decide_eq_true_eq] at h5
  obtain ⟨⟨⟨⟨⟨g1, g2⟩, g3⟩, g4⟩, g5⟩, g6⟩ := h5
  simp [Cond.before, Cond.holds, Cond.value, h1, h2, h3, h4, g1, g2, g3, g4, g5, g6]
def isCode : Jvm.Cond → Bool
  | .code _ _ _ _ => true
  | _ => false
theorem all_split {L : List Jvm.Cond} {P : Jvm.Cond → Bool} (h1 : L.all (fun c => isCode c || P c) = true) (h2 : ∀ c ∈ L.filter isCode, P c = true) : L.all P = true := by
  refine List.all_eq_true.mpr fun c hc => ?_
  have h := List.all_eq_true.mp h1 c hc
  rcases Bool.eq_false_or_eq_true (isCode c) with hi | hi
  · exact h2 c (List.mem_filter.mpr ⟨hc, hi⟩)
  · simpa [hi] using h
set_option maxRecDepth 65536 in
theorem w_c0 : (Jvm.Cond.code x code maxLocals ret).before args0 about1 = true := code_word (m := ⟨1, 1⟩) (meth := k1m1) (c := k1c1) (by decide +kernel) rfl rfl rfl (by decide +kernel)
set_option maxRecDepth 65536 in
theorem w_c1 : (Jvm.Cond.code ({ cls := "com/example/facetwork/facetwork/scheme/TabSeparatedReader", name := "reads", desc := "(J)Z" } : Jvm.MethodName) prog_41_method_2_code (2 : Nat) (Option.some Jvm.ClassFile.FieldType.boolean)).before args0 about1 = true := code_word (m := ⟨3, 0⟩) (meth := k3m0) (c := k3c0) (by decide +kernel) rfl rfl rfl (by decide +kernel)
set_option maxRecDepth 65536 in
theorem w_c2 : (Jvm.Cond.code ({ cls := "java/lang/Math", name := "min", desc := "(JJ)J" } : Jvm.MethodName) jdk_29_method_70_code (4 : Nat) (Option.some Jvm.ClassFile.FieldType.long)).before args0 about1 = true := code_word (m := ⟨4, 2⟩) (meth := k4m2) (c := k4c2) (by decide +kernel) rfl rfl rfl (by decide +kernel)
set_option maxRecDepth 65536 in
theorem w_c3 : (Jvm.Cond.code ({ cls := "java/lang/Math", name := "max", desc := "(JJ)J" } : Jvm.MethodName) jdk_29_method_66_code (4 : Nat) (Option.some Jvm.ClassFile.FieldType.long)).before args0 about1 = true := code_word (m := ⟨4, 1⟩) (meth := k4m1) (c := k4c1) (by decide +kernel) rfl rfl rfl (by decide +kernel)
def codes1 : List Jvm.Cond := [Jvm.Cond.code x code maxLocals ret, Jvm.Cond.code ({ cls := "com/example/facetwork/facetwork/scheme/TabSeparatedReader", name := "reads", desc := "(J)Z" } : Jvm.MethodName) prog_41_method_2_code (2 : Nat) (Option.some Jvm.ClassFile.FieldType.boolean), Jvm.Cond.code ({ cls := "java/lang/Math", name := "min", desc := "(JJ)J" } : Jvm.MethodName) jdk_29_method_70_code (4 : Nat) (Option.some Jvm.ClassFile.FieldType.long), Jvm.Cond.code ({ cls := "java/lang/Math", name := "max", desc := "(JJ)J" } : Jvm.MethodName) jdk_29_method_66_code (4 : Nat) (Option.some Jvm.ClassFile.FieldType.long)]
set_option maxRecDepth 65536 in
theorem codes_eq : words1.filter isCode = codes1 := rfl
theorem w_codes : ∀ c ∈ words1.filter isCode, c.before args0 about1 = true := by
  rw [codes_eq]
  intro c hc
  simp only [codes1, List.mem_cons, List.not_mem_nil, or_false] at hc
  rcases hc with rfl | rfl | rfl | rfl
  · exact w_c0
  · exact w_c1
  · exact w_c2
  · exact w_c3
set_option maxRecDepth 65536 in
theorem w_t1 : words1.all (fun c => isCode c || c.before args0 about1) = true := by decide +kernel
theorem w_tables : (allAtoms (Jvm.Cond.code x code maxLocals ret :: tables_1)).before args0 about1 = true := by
  rw [allAtoms_all]
  show words1.all (fun c => c.before args0 about1) = true
  refine all_split ?_ w_codes
  rw [w_t1]
set_option maxRecDepth 65536 in
theorem w_case : (Jvm.Cond.and given_1 narrow_1).before args0 about1 = true := by decide +kernel
theorem w_applies : (headSpec (Jvm.Cond.code x code maxLocals ret :: tables_1) room_1).applies x e0.platform about1 = true :=
  (Spec.applies_iff w_frames).mpr ⟨w_running, w_runnable, w_alone, w_named, w_hears, w_ripe, w_room, w_tables⟩
theorem atStart : AtStart classFile x code maxLocals ret World_1 tables_1 room_1 Calls_1 rest_1 Pre_1 launch0 p0 e0 about1 theMethod args0 below0 :=
  ⟨lists_1, trivial, launch0.admits_env _ _ _, launch0.least_env, fairChoices_fair.cas, fairChoices_fair.clock, w_frames, w_args, w_heap, w_applies, trivial, trivial, w_case⟩
end start1
theorem witness_1 : WitnessClaimed_1 := ⟨start1.p0, start1.e0, start1.about1, start1.theMethod, start1.args0, start1.below0, start1.atStart⟩
end Jvm.Pilot.@@N@@
