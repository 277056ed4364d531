import JvmDerived
import JvmDerived.Pilot.@@N@@Statement
import JvmDerived.Pilot.@@N@@Code
set_option linter.unusedVariables false
set_option linter.unusedSimpArgs false

namespace Jvm.RoadKit
open Sem ClassFile Op Lib Jvm.Stand Jvm.Free Jvm.LawKit
section New
variable {p : Program} {l : Launch} {e : Env} {R : Room} {s : State} {m : MethodId} {args : Array Value} {below : List Frame} {meth : Method} {c : Code} {T : State} {locs : List Loc} {cells slots : Nat}
theorem own_retI (X : Stand p l e R s m args below meth c T locs cells slots) (hx : p.tables.exec = Jvm.exec) {pc : Nat} {Ls : Array Slot} {z : Int32} {rest : List Value} (hret : meth.sig.returnType = some .int) (hd : decode c.code pc = .ok (.ireturn, 1)) {fs : List Frame}
    (hl : ∀ (f : JFrame) (acts : List Action), f.method = m → f.locked = none → f.entered = [] → (doReturn e (T.setTop f) acts (some (.int z))).1 = T.setFrames fs) : Steps p.tables e below (T.setTop (mkF m pc Ls (.int z :: rest))) (T.setFrames fs) :=
  retOut X hx (t := .int) (w := .int z) (i := .ireturn) hret rfl (Or.inl ⟨rfl, Or.inl rfl, z, rfl⟩) hd hl
end New
end Jvm.RoadKit

namespace Jvm.Pilot.@@N@@
open Jvm Jvm.ClassFile Sem Op Lib Jvm.Free Jvm.Stand Jvm.LawKit Jvm.RoadKit Bundle Jvm.Pilot.@@N@@.Jvm.D

theorem own_g {Z : State} {a0 : Array Value} (hw : ∀ d ∈ tables_1, d.before a0 Z = true) (i : Nat) {d : Jvm.Cond} (h : tables_1[i]? = some d) : d.before a0 Z = true := hw _ (List.mem_of_getElem? h)
/-- from the state T the run comes to an end that F takes -/
def own_Ends (p : Program) (e : Env) (below : List Frame) (F : Outcome → State → Prop) (T : State) : Prop :=
  ∃ s₂ o, Steps p.tables e below T s₂ ∧ s₂.status = .running ∧ Ended s₂ below o ∧ F o s₂
def own_Fin (s : State) (Q : Option Value → Heap → List Loc → Prop) (C S : Nat) (o : Outcome) (U : State) : Prop :=
  ∃ v L, o = .returned v ∧ Q v U.heap L ∧ FrameEnd s o U L C S
theorem own_Sta_keep {Z : State} {h h' : Heap} {C n d : String} {v : Value} {ws : List Addr} (F : Sta Z h C n d v) (K : Keep h h' ws) (q : ∀ x ∈ ws, ∀ c : Cell, h[x]? = some c → c.vm.isStatics = false) : Sta Z h' C n d v := by
  obtain ⟨cf, i, k, f, st, cell, h1, h2, h3, h4, h5, h6, h7⟩ := F
  exact ⟨cf, i, k, f, st, cell, h1, h2, h3, h4, K.2.1 st cell h5 (fun m => by rw [q st m cell h5] at h6; cases h6), h6, h7⟩
theorem own_ns_exa {Z : State} {h : Heap} {a : Addr} {C : String} (F : Exa Z h a C) : ∀ c : Cell, h[a]? = some c → c.vm.isStatics = false := fun c hc => by
  obtain ⟨cell, k, h1, h2, h3, h4, h5⟩ := F
  cases h1.symm.trans hc; exact h4
theorem own_ns_arv {Z : State} {h : Heap} {a : Addr} {k : ClassId} {ty : FieldType} {n : Int32} {vs : List Value} {d : Value} (F : Arv Z h a k ty n vs d) : ∀ c : Cell, h[a]? = some c → c.vm.isStatics = false := fun c hc => by
  obtain ⟨cell, A, r⟩ := F
  cases A.1.symm.trans hc; exact A.plain
section OwnSteps
variable {p : Program} {l : Launch} {e : Env} {R : Room} {s : State} {m : MethodId} {args : Array Value} {below : List Frame} {meth : Method} {c : Code} {T T' : State} {locs : List Loc} {cells slots cells' slots' : Nat} {F : Outcome → State → Prop}
theorem own_step (h : ∀ target, Steps p.tables e below T' target → Steps p.tables e below T target) (k : own_Ends p e below F T') : own_Ends p e below F T := by
  obtain ⟨s₂, o, h1, h2⟩ := k
  exact ⟨s₂, o, h _ h1, h2⟩
theorem own_trans (h : Steps p.tables e below T T') (k : own_Ends p e below F T') : own_Ends p e below F T := by
  obtain ⟨s₂, o, h1, h2⟩ := k
  exact ⟨s₂, o, h.trans h1, h2⟩
theorem own_mono (X : Stand p l e R s m args below meth c T locs cells slots) (h1 : cells ≤ cells') (h2 : slots ≤ slots') : Stand p l e R s m args below meth c T locs cells' slots' :=
  { X with same := X.same.mono h1 h2 }
theorem own_ret {Q : Option Value → Heap → List Loc → Prop} {C S : Nat} {g : JFrame} (X : Stand p l e R s m args below meth c T locs cells slots) {v : Option Value} (hv : meth.sig.returnType = none → v = none) (hlocks : meth.locks = false)
    (st : ∀ fs, (∀ (f : JFrame) (acts : List Action), f.method = m → f.locked = none → f.entered = [] → (doReturn e (T.setTop f) acts v).1 = T.setFrames fs) → Steps p.tables e below (T.setTop g) (T.setFrames fs))
    (h1 : cells ≤ C) (h2 : slots ≤ S) (hQ : Q v T.heap locs) : own_Ends p e below (own_Fin s Q C S) (T.setTop g) := by
  obtain ⟨fs, hr, hrun, hended, hW, hsame⟩ := X.leave (v := v) hv hlocks
  exact ⟨_, _, st fs hr, hrun, hended, _, _, rfl, hQ, ⟨_, rfl⟩, hW, hsame.mono h1 h2⟩
def own_FinW (s : State) (Q : Option Value → Heap → List Loc → Prop) (C S : Nat) (o : Outcome) (U : State) : Prop :=
  ∃ v L, o = .returned v ∧ Q v U.heap L ∧ ReturnedEndW s o U L C S
theorem own_retW {vm : Vm} {k : Nat} {Q : Option Value → Heap → List Loc → Prop} {C S : Nat} {g : JFrame} (X : Stand p l e R (s.setVm vm) m args below meth c T locs cells slots) (hS : s.Since vm k) (hk : k ≤ T.heap.size) {v : Option Value} (hv : meth.sig.returnType = none → v = none) (hlocks : meth.locks = false)
    (st : ∀ fs, (∀ (f : JFrame) (acts : List Action), f.method = m → f.locked = none → f.entered = [] → (doReturn e (T.setTop f) acts v).1 = T.setFrames fs) → Steps p.tables e below (T.setTop g) (T.setFrames fs))
    (h1 : cells ≤ C) (h2 : slots ≤ S) (hQ : Q v T.heap locs) : own_Ends p e below (own_FinW s Q C S) (T.setTop g) := by
  obtain ⟨fs, hr, hrun, hended, a, b, c', d'⟩ := X.leaveW hS hk (v := v) hv hlocks
  exact ⟨_, _, st fs hr, hrun, hended, _, _, rfl, hQ, a, b, c', d'.mono h1 h2⟩
theorem own_warm {Z : State} {vm0 vm1 : Vm} {k : Nat} (hZ : Z.Warmed39 vm0) (hS : (s.setVm vm0).Since vm1 k) : Z.Warmed39 vm1 := State.Warmed39.trans (t := s.setVm vm0) hZ hS.1
theorem own_find {vm0 vm1 : Vm} {k : Nat} {own : String} {c0 : ClassId} (h : vm0.findClass own = some c0) (hS : (s.setVm vm0).Since vm1 k) : vm1.findClass own = some c0 := by
  rw [hS.1.alike.findClass]; exact h
def own_FinH (Z : State) (EL : List (String × Nat)) (s : State) (Q : Option Value → Heap → List Loc → Prop) (C S : Nat) (o : Outcome) (U : State) : Prop :=
  ∃ v L, o = .returned v ∧ Q v U.heap L ∧ CHr Z EL s.vm s.heap U.vm U.heap ∧ ReturnedEndW s o U L C S
theorem own_retH {Z : State} {a0 : Array Value} {EL : List (String × Nat)} {vm : Vm} {k : Nat} {h0 h : Heap} {Q : Option Value → Heap → List Loc → Prop} {C S : Nat} {g : JFrame} (X : Stand p l e R (s.setVm vm) m args below meth c T locs cells slots) (hS : s.Since vm k) (hk : k ≤ T.heap.size) (hh : s.heap = h0) (eT : T.heap = h) (hZ : Z.Warmed39 vm) (hEL : EW Z a0 EL) (hC : CHr Z EL s.vm h0 vm h) {v : Option Value} (hv : meth.sig.returnType = none → v = none) (hlocks : meth.locks = false)
    (st : ∀ fs, (∀ (f : JFrame) (acts : List Action), f.method = m → f.locked = none → f.entered = [] → (doReturn e (T.setTop f) acts v).1 = T.setFrames fs) → Steps p.tables e below (T.setTop g) (T.setFrames fs))
    (h1 : cells ≤ C) (h2 : slots ≤ S) (hQ : Q v T.heap locs) : own_Ends p e below (own_FinH Z EL s Q C S) (T.setTop g) := by
  obtain ⟨fs, hr, hrun, hended, a, b, c', d'⟩ := X.leaveW hS hk (v := v) hv hlocks
  have q : CHr Z EL s.vm s.heap T.vm T.heap := by
    rw [hh, eT]; exact hC.trans (CHv.at X hZ hEL hC.1)
  exact ⟨_, _, st fs hr, hrun, hended, _, _, rfl, hQ, q, a, b, c', d'.mono h1 h2⟩
def own_SL (Z : State) (EL : List (String × Nat)) (vm : Vm) (h : Heap) (x : Addr) : Prop := x < h.size ∧ Safe Z EL vm h x
theorem own_SL.go {Z : State} {EL : List (String × Nat)} {vm vm1 : Vm} {h h' : Heap} {x : Addr} (F : own_SL Z EL vm h x) (A : CHr Z EL vm h vm1 h') : own_SL Z EL vm1 h' x := ⟨Nat.lt_of_lt_of_le F.1 A.2.1, A.safe F.1 F.2⟩
theorem own_SL.born {Z : State} {EL : List (String × Nat)} {vm : Vm} {h h' : Heap} {x : Addr} (H : CHv Z EL vm h) (E : Ext h h') (g : x = h.size) (lt : x < h'.size) : own_SL Z EL vm h' x := ⟨lt, Safe.ext E H (Safe.new (Nat.le_of_eq g.symm))⟩
end OwnSteps

def own_amt (x : Int64) : Int32 := if x < (1 : Int64) then 0 else if (9007199254740991 : Int64) < x then 0 else 1
def own_pick (a : Int64) (k : Int32) : Int64 := if k = 0 then 0 else if k = 1 then 1 else if k = 2 then 9007199254740991 else if k = 3 then 9007199254740992 else if k = 4 then -1 else if k = 5 then -9223372036854775808 else if k = 6 then 9223372036854775807 else a
abbrev own_u53 (x : Int64) : Int64 := (x.toUInt64 >>> ((53 : Int32) &&& 0x3f).toInt64.toUInt64).toInt64
theorem own_amt0 (x : Int64) (h : x = 0) : own_amt x = 0 := by subst h; decide
theorem own_u (x : Int64) : (own_u53 x).toInt = (x.toInt % 18446744073709551616) / (2 ^ 53 : Nat) := c_lushr x 53 53 (by decide) (by decide)
theorem own_amt1 (x : Int64) (h : ¬ x = 0) (h2 : own_u53 x = 0) : own_amt x = 1 := by
  have e := own_u x
  rw [h2] at e
  have r := rng64 x
  have h' : ¬ x.toInt = 0 := fun q => h (Int64.toInt_inj.mp q)
  have z0 : (0 : Int64).toInt = 0 := rfl
  have z1 : (1 : Int64).toInt = 1 := rfl
  have z2 : (9007199254740991 : Int64).toInt = 9007199254740991 := rfl
  have p : (2 ^ 53 : Nat) = 9007199254740992 := rfl
  rw [z0, p] at e
  unfold own_amt
  rw [if_neg (by rw [Int64.lt_iff_toInt_lt, z1]; omega), if_neg (by rw [Int64.lt_iff_toInt_lt, z2]; omega)]
theorem own_amt2 (x : Int64) (h : ¬ x = 0) (h2 : ¬ own_u53 x = 0) : own_amt x = 0 := by
  have e := own_u x
  have r := rng64 x
  have z0 : (0 : Int64).toInt = 0 := rfl
  have h' : ¬ (own_u53 x).toInt = 0 := fun q => h2 (Int64.toInt_inj.mp q)
  have z1 : (1 : Int64).toInt = 1 := rfl
  have z2 : (9007199254740991 : Int64).toInt = 9007199254740991 := rfl
  have p : (2 ^ 53 : Nat) = 9007199254740992 := rfl
  rw [e, p] at h'
  unfold own_amt
  by_cases q : x < (1 : Int64)
  · rw [if_pos q]
  · rw [if_neg q, if_pos]
    rw [Int64.lt_iff_toInt_lt] at q ⊢
    rw [z1] at q; rw [z2]; omega

theorem d2_0 : decode prog_11_method_2_code 0 = .ok (.lload_n 0, 1) := by decide +kernel
theorem d2_1 : decode prog_11_method_2_code 1 = .ok (.lconst 1, 1) := by decide +kernel
theorem d2_2 : decode prog_11_method_2_code 2 = .ok (.lcmp, 1) := by decide +kernel
theorem d2_3 : decode prog_11_method_2_code 3 = .ok (.ifCond .lt 15, 3) := by decide +kernel
theorem d2_6 : decode prog_11_method_2_code 6 = .ok (.lload_n 0, 1) := by decide +kernel
theorem d2_7 : decode prog_11_method_2_code 7 = .ok (.ldc2_w 9, 3) := by decide +kernel
theorem d2_10 : decode prog_11_method_2_code 10 = .ok (.lcmp, 1) := by decide +kernel
theorem d2_11 : decode prog_11_method_2_code 11 = .ok (.ifCond .gt 7, 3) := by decide +kernel
theorem d2_14 : decode prog_11_method_2_code 14 = .ok (.iconst 1, 1) := by decide +kernel
theorem d2_15 : decode prog_11_method_2_code 15 = .ok (.goto 4, 3) := by decide +kernel
theorem d2_18 : decode prog_11_method_2_code 18 = .ok (.iconst 0, 1) := by decide +kernel
theorem d2_19 : decode prog_11_method_2_code 19 = .ok (.ireturn, 1) := by decide +kernel
theorem pn_com_example_pledger_pledger_model_Money : plainName "com/example/pledger/pledger/model/Money" = true := by first | (simp [plainName, overriddenIn]; done) | decide +kernel
theorem ef_rm2 (m : MethodId) (x0 : Int64) : entryFrame m #[(.long x0)] 2 = mkF m 0 #[.val (.long x0), .second] [] := by first | (simp [entryFrame, mkF, argsToLocals, Value.category, maxLocals]; done) | rfl
def Q2 (Z : State) (p1 : Int64) (h0 : Heap) (n0 : Nat) (v : Option Value) (h : Heap) (L : List Loc) : Prop := v = some (.int (own_amt p1)) ∧ Fr n0 L ∧ h = h0
set_option maxRecDepth 65536 in
set_option maxHeartbeats 40000000 in
theorem rm2 (l : Launch) (Z : State) (a0 : Array Value) (hw : ∀ d ∈ tables_1, d.before a0 Z = true) (ws : List Jvm.Cond) (p1 : Int64) (h0 : Heap) (n0 : Nat) (Z0 : n0 ≤ h0.size)  :
    MetFree l (⟨"com/example/pledger/pledger/model/Money", "isAmount", "(J)Z"⟩ : MethodName) (head1 (Jvm.Cond.code (⟨"com/example/pledger/pledger/model/Money", "isAmount", "(J)Z"⟩ : MethodName) prog_11_method_2_code 2 (some .boolean) :: ws) ({ frames := 0, cells := 0, slots := 0, locals := 0 } : Room)) (fun ar U => ar = #[(.long p1)] ∧ Z.Warmed39 U.vm ∧ U.heap = h0) (fun _ _ _ _ _ => True) (fun _ U o U' => ∃ v L, o = .returned v ∧ Q2 Z p1 h0 n0 v U'.heap L ∧ FrameEnd U o U' L ({ frames := 0, cells := 0, slots := 0, locals := 0 } : Room).cells ({ frames := 0, cells := 0, slots := 0, locals := 0 } : Room).slots) := by
  refine MetFree.of_bodySF (plainFor_of_name pn_com_example_pledger_pledger_model_Money) hisR ?_
  intro p e s m args below meth c s₁ Bd hml0 hP hK
  obtain ⟨rfl, hZ, hh⟩ := hP
  have hx := Bd.exec
  have hby := Bd.bytes
  have hml : c.maxLocals = 2 := hml0
  have hown : s.vm.findClass "com/example/pledger/pledger/model/Money" = some m.cls := findClass_of_methodNamed Bd.named
  have hnm := (name_of_methodNamed Bd.named Bd.method).1
  have X0 : Stand p l e ({ frames := 0, cells := 0, slots := 0, locals := 0 } : Room) s m #[(.long p1)] below meth c s₁ [] 0 0 := Stand.of_body Bd
  have e0 : s₁.heap = h0 := by rw [← hh, Bd.state]; rfl
  have N0 := Fr.nil n0
  obtain ⟨F, hF⟩ : ∃ F, F = own_Fin s (Q2 Z p1 h0 n0) ({ frames := 0, cells := 0, slots := 0, locals := 0 } : Room).cells ({ frames := 0, cells := 0, slots := 0, locals := 0 } : Room).slots := ⟨_, rfl⟩
  show own_Ends p e below (own_Fin s (Q2 Z p1 h0 n0) ({ frames := 0, cells := 0, slots := 0, locals := 0 } : Room).cells ({ frames := 0, cells := 0, slots := 0, locals := 0 } : Room).slots) _
  rw [← hF, ef_rm2 m p1]
  show own_Ends p e below F (s₁.setTop (mkF m 0 #[.val (.long p1), .second] []))
  refine own_step (fun _ k => XS.lloadN X0.here hx rfl (hb hby d2_0) rfl k) ?_
  show own_Ends p e below F (s₁.setTop (mkF m 1 #[.val (.long p1), .second] [(.long p1)]))
  refine own_step (fun _ k => XS.lconst X0.here hx rfl (hb hby d2_1) k) ?_
  show own_Ends p e below F (s₁.setTop (mkF m 2 #[.val (.long p1), .second] [(.long (1 : Int64)), (.long p1)]))
  refine own_step (fun _ k => XS.lcmp X0.here hx rfl (hb hby d2_2) rfl k) ?_
  show own_Ends p e below F (s₁.setTop (mkF m 3 #[.val (.long p1), .second] [(.int (lcmpW p1 (1 : Int64)))]))
  by_cases c3_1 : p1 < (1 : Int64)
  · refine own_step (fun _ k => XS.ifYes X0.here hx rfl (pc0 := 3) (pc' := 18) rfl (hb hby d2_3) rfl ((if0 _ _).trans (tlt ((lw_lt _ _).mpr c3_1)).1) (by decide) (by decide) k) ?_
    show own_Ends p e below F (s₁.setTop (mkF m 18 #[.val (.long p1), .second] []))
    refine own_step (fun _ k => XS.iconst X0.here hx rfl (hb hby d2_18) k) ?_
    show own_Ends p e below F (s₁.setTop (mkF m 19 #[.val (.long p1), .second] [(.int (0 : Int32))]))
    rw [hF]
    exact own_ret X0 (v := (some (.int (nar .boolean (0 : Int32))))) (fun h => by rw [Bd.returns] at h; cases h) Bd.notSynchronized (fun fs hr => retN X0 hx (t := .boolean) Bd.returns (by simp) (hb hby d2_19) hr) (by decide) (by decide) (by rw [e0]; exact ⟨by simp only [own_amt, c3_1, if_true, if_false]; first | done | rfl, N0, rfl⟩)
  · refine own_step (fun _ k => XS.ifNo X0.here hx rfl (hb hby d2_3) rfl ((if0 _ _).trans (flt (fun q => c3_1 ((lw_lt _ _).mp q))).1) k) ?_
    show own_Ends p e below F (s₁.setTop (mkF m 6 #[.val (.long p1), .second] []))
    refine own_step (fun _ k => XS.lloadN X0.here hx rfl (hb hby d2_6) rfl k) ?_
    show own_Ends p e below F (s₁.setTop (mkF m 7 #[.val (.long p1), .second] [(.long p1)]))
    refine own_step (X0.ldc2Long hx hown (mvT hZ (own_g hw 8 rfl)) (g := (mkF m 7 #[.val (.long p1), .second] [(.long p1)])) rfl (hb hby d2_7)) ?_
    show own_Ends p e below F (s₁.setTop (mkF m 10 #[.val (.long p1), .second] [(.long (9007199254740991 : Int64)), (.long p1)]))
    refine own_step (fun _ k => XS.lcmp X0.here hx rfl (hb hby d2_10) rfl k) ?_
    show own_Ends p e below F (s₁.setTop (mkF m 11 #[.val (.long p1), .second] [(.int (lcmpW p1 (9007199254740991 : Int64)))]))
    by_cases c11_2 : (9007199254740991 : Int64) < p1
    · refine own_step (fun _ k => XS.ifYes X0.here hx rfl (pc0 := 11) (pc' := 18) rfl (hb hby d2_11) rfl ((if0 _ _).trans (tlt ((lw_gt _ _).mpr c11_2)).2.2.1) (by decide) (by decide) k) ?_
      show own_Ends p e below F (s₁.setTop (mkF m 18 #[.val (.long p1), .second] []))
      refine own_step (fun _ k => XS.iconst X0.here hx rfl (hb hby d2_18) k) ?_
      show own_Ends p e below F (s₁.setTop (mkF m 19 #[.val (.long p1), .second] [(.int (0 : Int32))]))
      rw [hF]
      exact own_ret X0 (v := (some (.int (nar .boolean (0 : Int32))))) (fun h => by rw [Bd.returns] at h; cases h) Bd.notSynchronized (fun fs hr => retN X0 hx (t := .boolean) Bd.returns (by simp) (hb hby d2_19) hr) (by decide) (by decide) (by rw [e0]; exact ⟨by simp only [own_amt, c3_1, c11_2, if_true, if_false]; first | done | rfl, N0, rfl⟩)
    · refine own_step (fun _ k => XS.ifNo X0.here hx rfl (hb hby d2_11) rfl ((if0 _ _).trans (flt (fun q => c11_2 ((lw_gt _ _).mp q))).2.2.1) k) ?_
      show own_Ends p e below F (s₁.setTop (mkF m 14 #[.val (.long p1), .second] []))
      refine own_step (fun _ k => XS.iconst X0.here hx rfl (hb hby d2_14) k) ?_
      show own_Ends p e below F (s₁.setTop (mkF m 15 #[.val (.long p1), .second] [(.int (1 : Int32))]))
      refine own_step (fun _ k => XS.goto X0.here hx rfl (pc0 := 15) (pc' := 19) rfl (hb hby d2_15) (by decide) (by decide) k) ?_
      show own_Ends p e below F (s₁.setTop (mkF m 19 #[.val (.long p1), .second] [(.int (1 : Int32))]))
      rw [hF]
      exact own_ret X0 (v := (some (.int (nar .boolean (1 : Int32))))) (fun h => by rw [Bd.returns] at h; cases h) Bd.notSynchronized (fun fs hr => retN X0 hx (t := .boolean) Bd.returns (by simp) (hb hby d2_19) hr) (by decide) (by decide) (by rw [e0]; exact ⟨by simp only [own_amt, c3_1, c11_2, if_true, if_false]; first | done | rfl, N0, rfl⟩)

theorem d1_0 : decode method_3_code 0 = .ok (.lload_n 0, 1) := by decide +kernel
theorem d1_1 : decode method_3_code 1 = .ok (.lconst 0, 1) := by decide +kernel
theorem d1_2 : decode method_3_code 2 = .ok (.lcmp, 1) := by decide +kernel
theorem d1_3 : decode method_3_code 3 = .ok (.ifCond .eq 16, 3) := by decide +kernel
theorem d1_6 : decode method_3_code 6 = .ok (.lload_n 0, 1) := by decide +kernel
theorem d1_7 : decode method_3_code 7 = .ok (.bipush 53, 2) := by decide +kernel
theorem d1_9 : decode method_3_code 9 = .ok (.lushr, 1) := by decide +kernel
theorem d1_10 : decode method_3_code 10 = .ok (.lconst 0, 1) := by decide +kernel
theorem d1_11 : decode method_3_code 11 = .ok (.lcmp, 1) := by decide +kernel
theorem d1_12 : decode method_3_code 12 = .ok (.ifCond .ne 7, 3) := by decide +kernel
theorem d1_15 : decode method_3_code 15 = .ok (.iconst 1, 1) := by decide +kernel
theorem d1_16 : decode method_3_code 16 = .ok (.goto 4, 3) := by decide +kernel
theorem d1_19 : decode method_3_code 19 = .ok (.iconst 0, 1) := by decide +kernel
theorem d1_20 : decode method_3_code 20 = .ok (.istore_n 2, 1) := by decide +kernel
theorem d1_21 : decode method_3_code 21 = .ok (.lload_n 0, 1) := by decide +kernel
theorem d1_22 : decode method_3_code 22 = .ok (.invokestatic 17, 3) := by decide +kernel
theorem d1_25 : decode method_3_code 25 = .ok (.iload_n 2, 1) := by decide +kernel
theorem d1_26 : decode method_3_code 26 = .ok (.if_icmp .ne 7, 3) := by decide +kernel
theorem d1_29 : decode method_3_code 29 = .ok (.iconst 1, 1) := by decide +kernel
theorem d1_30 : decode method_3_code 30 = .ok (.goto 4, 3) := by decide +kernel
theorem d1_34 : decode method_3_code 34 = .ok (.ireturn, 1) := by decide +kernel
theorem pn_com_example_pledger_pledger_model_MoneyIsAmountPinLaw : plainName "com/example/pledger/pledger/model/MoneyIsAmountPinLaw" = true := by first | (simp [plainName, overriddenIn]; done) | decide +kernel
theorem pd__28J_29Z : parseMethodDescriptor "(J)Z" = some ⟨[.long], some .boolean⟩ := by decide +kernel
theorem ef_rm1 (m : MethodId) (x0 : Int64) : entryFrame m #[(.long x0)] 3 = mkF m 0 #[.val (.long x0), .second, .unset] [] := by first | (simp [entryFrame, mkF, argsToLocals, Value.category, maxLocals]; done) | rfl
def Q1 (Z : State) (p1 : Int64) (h0 : Heap) (n0 : Nat) (v : Option Value) (h : Heap) (L : List Loc) : Prop := v = some (.int 1) ∧ Fr n0 L ∧ h = h0
set_option maxRecDepth 65536 in
set_option maxHeartbeats 40000000 in
theorem rm1 (l : Launch) (Z : State) (a0 : Array Value) (hw : ∀ d ∈ tables_1, d.before a0 Z = true) (ws : List Jvm.Cond) (p1 : Int64) (h0 : Heap) (n0 : Nat) (Z0 : n0 ≤ h0.size)  :
    MetFree l (⟨"com/example/pledger/pledger/model/MoneyIsAmountPinLaw", "check", "(J)Z"⟩ : MethodName) (head1 (Jvm.Cond.code (⟨"com/example/pledger/pledger/model/MoneyIsAmountPinLaw", "check", "(J)Z"⟩ : MethodName) method_3_code 3 (some .boolean) :: ws) ({ frames := 1, cells := 0, slots := 0, locals := 13 } : Room)) (fun ar U => ar = #[(.long p1)] ∧ Z.Warmed39 U.vm ∧ U.heap = h0) (fun _ _ _ _ _ => True) (fun _ U o U' => ∃ v L, o = .returned v ∧ Q1 Z p1 h0 n0 v U'.heap L ∧ FrameEnd U o U' L ({ frames := 1, cells := 0, slots := 0, locals := 13 } : Room).cells ({ frames := 1, cells := 0, slots := 0, locals := 13 } : Room).slots) := by
  refine MetFree.of_bodySF (plainFor_of_name pn_com_example_pledger_pledger_model_MoneyIsAmountPinLaw) hisR ?_
  intro p e s m args below meth c s₁ Bd hml0 hP hK
  obtain ⟨rfl, hZ, hh⟩ := hP
  have hx := Bd.exec
  have hby := Bd.bytes
  have hml : c.maxLocals = 3 := hml0
  have hown : s.vm.findClass "com/example/pledger/pledger/model/MoneyIsAmountPinLaw" = some m.cls := findClass_of_methodNamed Bd.named
  have hnm := (name_of_methodNamed Bd.named Bd.method).1
  have X0 : Stand p l e ({ frames := 1, cells := 0, slots := 0, locals := 13 } : Room) s m #[(.long p1)] below meth c s₁ [] 0 0 := Stand.of_body Bd
  have e0 : s₁.heap = h0 := by rw [← hh, Bd.state]; rfl
  have N0 := Fr.nil n0
  obtain ⟨F, hF⟩ : ∃ F, F = own_Fin s (Q1 Z p1 h0 n0) ({ frames := 1, cells := 0, slots := 0, locals := 13 } : Room).cells ({ frames := 1, cells := 0, slots := 0, locals := 13 } : Room).slots := ⟨_, rfl⟩
  show own_Ends p e below (own_Fin s (Q1 Z p1 h0 n0) ({ frames := 1, cells := 0, slots := 0, locals := 13 } : Room).cells ({ frames := 1, cells := 0, slots := 0, locals := 13 } : Room).slots) _
  rw [← hF, ef_rm1 m p1]
  show own_Ends p e below F (s₁.setTop (mkF m 0 #[.val (.long p1), .second, .unset] []))
  refine own_step (fun _ k => XS.lloadN X0.here hx rfl (hb hby d1_0) rfl k) ?_
  show own_Ends p e below F (s₁.setTop (mkF m 1 #[.val (.long p1), .second, .unset] [(.long p1)]))
  refine own_step (fun _ k => XS.lconst X0.here hx rfl (hb hby d1_1) k) ?_
  show own_Ends p e below F (s₁.setTop (mkF m 2 #[.val (.long p1), .second, .unset] [(.long (0 : Int64)), (.long p1)]))
  refine own_step (fun _ k => XS.lcmp X0.here hx rfl (hb hby d1_2) rfl k) ?_
  show own_Ends p e below F (s₁.setTop (mkF m 3 #[.val (.long p1), .second, .unset] [(.int (lcmpW p1 (0 : Int64)))]))
  by_cases c3_1 : p1 = (0 : Int64)
  · refine own_step (fun _ k => XS.ifYes X0.here hx rfl (pc0 := 3) (pc' := 19) rfl (hb hby d1_3) rfl ((if0 _ _).trans (teq ((lw_eq _ _).mpr c3_1)).1) (by decide) (by decide) k) ?_
    show own_Ends p e below F (s₁.setTop (mkF m 19 #[.val (.long p1), .second, .unset] []))
    refine own_step (fun _ k => XS.iconst X0.here hx rfl (hb hby d1_19) k) ?_
    show own_Ends p e below F (s₁.setTop (mkF m 20 #[.val (.long p1), .second, .unset] [(.int (0 : Int32))]))
    refine own_step (fun _ k => XS.istoreN X0.here hx rfl (hb hby d1_20) rfl (l' := #[.val (.long p1), .second, .val (.int (0 : Int32))]) rfl k) ?_
    show own_Ends p e below F (s₁.setTop (mkF m 21 #[.val (.long p1), .second, .val (.int (0 : Int32))] []))
    refine own_step (fun _ k => XS.lloadN X0.here hx rfl (hb hby d1_21) rfl k) ?_
    show own_Ends p e below F (s₁.setTop (mkF m 22 #[.val (.long p1), .second, .val (.int (0 : Int32))] [(.long p1)]))
    obtain ⟨_, _, ⟨T2, L2, k2, n2⟩, -, X2, ⟨Lc2, hQ2, l2, y2, z2⟩, st2⟩ := Jvm.LawKit.callS X0 hx (y := (⟨"com/example/pledger/pledger/model/Money", "isAmount", "(J)Z"⟩ : MethodName)) hown (mvT hZ (own_g hw 4 rfl)) (mvT hZ (own_g hw 5 rfl)) (mvT hZ (own_g hw 6 rfl)) (mvT hZ (own_g hw 7 rfl)) (by decide) (backOf (W := 0) (rm2 l Z a0 hw [] p1 h0 n0 Z0) hZ (own_g hw 7 rfl) (own_g hw 6 rfl) (by decide) (by decide)) (g := (mkF m 22 #[.val (.long p1), .second, .val (.int (0 : Int32))] [(.long p1)])) rfl (by rw [hml]; rfl) (argsL := [(.long p1)]) (rest := []) (lenOf pd__28J_29Z rfl) rfl (by show 2 * 0 + _ ≤ _; exact Nat.le_of_eq rfl) (hb hby d1_22) (fun _ _ => ⟨rfl, e0, (by decide : 0 + 0 ≤ _), (by decide : 0 + 0 ≤ _)⟩)
    dsimp only [Pt.U, Pt.locs, Pt.cells, Pt.slots] at X2 l2 y2 z2 st2 hQ2
    subst l2 y2 z2
    obtain ⟨rfl, Nq2, eq2⟩ := hQ2
    have N2 := Fr.app N0 Nq2
    refine own_step st2 ?_
    show own_Ends p e below F (T2.setTop (mkF m 25 #[.val (.long p1), .second, .val (.int (0 : Int32))] [(.int (own_amt p1))]))
    refine own_step (fun _ k => XS.iloadN X2.here hx rfl (hb hby d1_25) rfl k) ?_
    show own_Ends p e below F (T2.setTop (mkF m 26 #[.val (.long p1), .second, .val (.int (0 : Int32))] [(.int (0 : Int32)), (.int (own_amt p1))]))
    refine own_step (fun _ k => XS.icmpNo X2.here hx rfl (hb hby d1_26) rfl (teq (own_amt0 p1 c3_1 : (own_amt p1) = (0 : Int32))).2 k) ?_
    show own_Ends p e below F (T2.setTop (mkF m 29 #[.val (.long p1), .second, .val (.int (0 : Int32))] []))
    refine own_step (fun _ k => XS.iconst X2.here hx rfl (hb hby d1_29) k) ?_
    show own_Ends p e below F (T2.setTop (mkF m 30 #[.val (.long p1), .second, .val (.int (0 : Int32))] [(.int (1 : Int32))]))
    refine own_step (fun _ k => XS.goto X2.here hx rfl (pc0 := 30) (pc' := 34) rfl (hb hby d1_30) (by decide) (by decide) k) ?_
    show own_Ends p e below F (T2.setTop (mkF m 34 #[.val (.long p1), .second, .val (.int (0 : Int32))] [(.int (1 : Int32))]))
    rw [hF]
    exact own_ret X2 (v := (some (.int (nar .boolean (1 : Int32))))) (fun h => by rw [Bd.returns] at h; cases h) Bd.notSynchronized (fun fs hr => retN X2 hx (t := .boolean) Bd.returns (by simp) (hb hby d1_34) hr) (by decide) (by decide) (by rw [eq2]; exact ⟨rfl, N2, rfl⟩)
  · refine own_step (fun _ k => XS.ifNo X0.here hx rfl (hb hby d1_3) rfl ((if0 _ _).trans (feq (fun q => c3_1 ((lw_eq _ _).mp q))).1) k) ?_
    show own_Ends p e below F (s₁.setTop (mkF m 6 #[.val (.long p1), .second, .unset] []))
    refine own_step (fun _ k => XS.lloadN X0.here hx rfl (hb hby d1_6) rfl k) ?_
    show own_Ends p e below F (s₁.setTop (mkF m 7 #[.val (.long p1), .second, .unset] [(.long p1)]))
    refine own_step (fun _ k => XS.bipush X0.here hx rfl (hb hby d1_7) k) ?_
    show own_Ends p e below F (s₁.setTop (mkF m 9 #[.val (.long p1), .second, .unset] [(.int (53 : Int32)), (.long p1)]))
    refine own_step (fun _ k => XS.lushr X0.here hx rfl (hb hby d1_9) rfl k) ?_
    show own_Ends p e below F (s₁.setTop (mkF m 10 #[.val (.long p1), .second, .unset] [(.long ((p1.toUInt64 >>> ((53 : Int32) &&& 0x3f).toInt64.toUInt64).toInt64))]))
    refine own_step (fun _ k => XS.lconst X0.here hx rfl (hb hby d1_10) k) ?_
    show own_Ends p e below F (s₁.setTop (mkF m 11 #[.val (.long p1), .second, .unset] [(.long (0 : Int64)), (.long ((p1.toUInt64 >>> ((53 : Int32) &&& 0x3f).toInt64.toUInt64).toInt64))]))
    refine own_step (fun _ k => XS.lcmp X0.here hx rfl (hb hby d1_11) rfl k) ?_
    show own_Ends p e below F (s₁.setTop (mkF m 12 #[.val (.long p1), .second, .unset] [(.int (lcmpW ((p1.toUInt64 >>> ((53 : Int32) &&& 0x3f).toInt64.toUInt64).toInt64) (0 : Int64)))]))
    by_cases c12_3 : ((p1.toUInt64 >>> ((53 : Int32) &&& 0x3f).toInt64.toUInt64).toInt64) = (0 : Int64)
    · refine own_step (fun _ k => XS.ifNo X0.here hx rfl (hb hby d1_12) rfl ((if0 _ _).trans (teq ((lw_eq _ _).mpr c12_3)).2) k) ?_
      show own_Ends p e below F (s₁.setTop (mkF m 15 #[.val (.long p1), .second, .unset] []))
      refine own_step (fun _ k => XS.iconst X0.here hx rfl (hb hby d1_15) k) ?_
      show own_Ends p e below F (s₁.setTop (mkF m 16 #[.val (.long p1), .second, .unset] [(.int (1 : Int32))]))
      refine own_step (fun _ k => XS.goto X0.here hx rfl (pc0 := 16) (pc' := 20) rfl (hb hby d1_16) (by decide) (by decide) k) ?_
      show own_Ends p e below F (s₁.setTop (mkF m 20 #[.val (.long p1), .second, .unset] [(.int (1 : Int32))]))
      refine own_step (fun _ k => XS.istoreN X0.here hx rfl (hb hby d1_20) rfl (l' := #[.val (.long p1), .second, .val (.int (1 : Int32))]) rfl k) ?_
      show own_Ends p e below F (s₁.setTop (mkF m 21 #[.val (.long p1), .second, .val (.int (1 : Int32))] []))
      refine own_step (fun _ k => XS.lloadN X0.here hx rfl (hb hby d1_21) rfl k) ?_
      show own_Ends p e below F (s₁.setTop (mkF m 22 #[.val (.long p1), .second, .val (.int (1 : Int32))] [(.long p1)]))
      obtain ⟨_, _, ⟨T4, L4, k4, n4⟩, -, X4, ⟨Lc4, hQ4, l4, y4, z4⟩, st4⟩ := Jvm.LawKit.callS X0 hx (y := (⟨"com/example/pledger/pledger/model/Money", "isAmount", "(J)Z"⟩ : MethodName)) hown (mvT hZ (own_g hw 4 rfl)) (mvT hZ (own_g hw 5 rfl)) (mvT hZ (own_g hw 6 rfl)) (mvT hZ (own_g hw 7 rfl)) (by decide) (backOf (W := 0) (rm2 l Z a0 hw [] p1 h0 n0 Z0) hZ (own_g hw 7 rfl) (own_g hw 6 rfl) (by decide) (by decide)) (g := (mkF m 22 #[.val (.long p1), .second, .val (.int (1 : Int32))] [(.long p1)])) rfl (by rw [hml]; rfl) (argsL := [(.long p1)]) (rest := []) (lenOf pd__28J_29Z rfl) rfl (by show 2 * 0 + _ ≤ _; exact Nat.le_of_eq rfl) (hb hby d1_22) (fun _ _ => ⟨rfl, e0, (by decide : 0 + 0 ≤ _), (by decide : 0 + 0 ≤ _)⟩)
      dsimp only [Pt.U, Pt.locs, Pt.cells, Pt.slots] at X4 l4 y4 z4 st4 hQ4
      subst l4 y4 z4
      obtain ⟨rfl, Nq4, eq4⟩ := hQ4
      have N4 := Fr.app N0 Nq4
      refine own_step st4 ?_
      show own_Ends p e below F (T4.setTop (mkF m 25 #[.val (.long p1), .second, .val (.int (1 : Int32))] [(.int (own_amt p1))]))
      refine own_step (fun _ k => XS.iloadN X4.here hx rfl (hb hby d1_25) rfl k) ?_
      show own_Ends p e below F (T4.setTop (mkF m 26 #[.val (.long p1), .second, .val (.int (1 : Int32))] [(.int (1 : Int32)), (.int (own_amt p1))]))
      refine own_step (fun _ k => XS.icmpNo X4.here hx rfl (hb hby d1_26) rfl (teq (own_amt1 p1 c3_1 c12_3 : (own_amt p1) = (1 : Int32))).2 k) ?_
      show own_Ends p e below F (T4.setTop (mkF m 29 #[.val (.long p1), .second, .val (.int (1 : Int32))] []))
      refine own_step (fun _ k => XS.iconst X4.here hx rfl (hb hby d1_29) k) ?_
      show own_Ends p e below F (T4.setTop (mkF m 30 #[.val (.long p1), .second, .val (.int (1 : Int32))] [(.int (1 : Int32))]))
      refine own_step (fun _ k => XS.goto X4.here hx rfl (pc0 := 30) (pc' := 34) rfl (hb hby d1_30) (by decide) (by decide) k) ?_
      show own_Ends p e below F (T4.setTop (mkF m 34 #[.val (.long p1), .second, .val (.int (1 : Int32))] [(.int (1 : Int32))]))
      rw [hF]
      exact own_ret X4 (v := (some (.int (nar .boolean (1 : Int32))))) (fun h => by rw [Bd.returns] at h; cases h) Bd.notSynchronized (fun fs hr => retN X4 hx (t := .boolean) Bd.returns (by simp) (hb hby d1_34) hr) (by decide) (by decide) (by rw [eq4]; exact ⟨rfl, N4, rfl⟩)
    · refine own_step (fun _ k => XS.ifYes X0.here hx rfl (pc0 := 12) (pc' := 19) rfl (hb hby d1_12) rfl ((if0 _ _).trans (feq (fun q => c12_3 ((lw_eq _ _).mp q))).2) (by decide) (by decide) k) ?_
      show own_Ends p e below F (s₁.setTop (mkF m 19 #[.val (.long p1), .second, .unset] []))
      refine own_step (fun _ k => XS.iconst X0.here hx rfl (hb hby d1_19) k) ?_
      show own_Ends p e below F (s₁.setTop (mkF m 20 #[.val (.long p1), .second, .unset] [(.int (0 : Int32))]))
      refine own_step (fun _ k => XS.istoreN X0.here hx rfl (hb hby d1_20) rfl (l' := #[.val (.long p1), .second, .val (.int (0 : Int32))]) rfl k) ?_
      show own_Ends p e below F (s₁.setTop (mkF m 21 #[.val (.long p1), .second, .val (.int (0 : Int32))] []))
      refine own_step (fun _ k => XS.lloadN X0.here hx rfl (hb hby d1_21) rfl k) ?_
      show own_Ends p e below F (s₁.setTop (mkF m 22 #[.val (.long p1), .second, .val (.int (0 : Int32))] [(.long p1)]))
      obtain ⟨_, _, ⟨T5, L5, k5, n5⟩, -, X5, ⟨Lc5, hQ5, l5, y5, z5⟩, st5⟩ := Jvm.LawKit.callS X0 hx (y := (⟨"com/example/pledger/pledger/model/Money", "isAmount", "(J)Z"⟩ : MethodName)) hown (mvT hZ (own_g hw 4 rfl)) (mvT hZ (own_g hw 5 rfl)) (mvT hZ (own_g hw 6 rfl)) (mvT hZ (own_g hw 7 rfl)) (by decide) (backOf (W := 0) (rm2 l Z a0 hw [] p1 h0 n0 Z0) hZ (own_g hw 7 rfl) (own_g hw 6 rfl) (by decide) (by decide)) (g := (mkF m 22 #[.val (.long p1), .second, .val (.int (0 : Int32))] [(.long p1)])) rfl (by rw [hml]; rfl) (argsL := [(.long p1)]) (rest := []) (lenOf pd__28J_29Z rfl) rfl (by show 2 * 0 + _ ≤ _; exact Nat.le_of_eq rfl) (hb hby d1_22) (fun _ _ => ⟨rfl, e0, (by decide : 0 + 0 ≤ _), (by decide : 0 + 0 ≤ _)⟩)
      dsimp only [Pt.U, Pt.locs, Pt.cells, Pt.slots] at X5 l5 y5 z5 st5 hQ5
      subst l5 y5 z5
      obtain ⟨rfl, Nq5, eq5⟩ := hQ5
      have N5 := Fr.app N0 Nq5
      refine own_step st5 ?_
      show own_Ends p e below F (T5.setTop (mkF m 25 #[.val (.long p1), .second, .val (.int (0 : Int32))] [(.int (own_amt p1))]))
      refine own_step (fun _ k => XS.iloadN X5.here hx rfl (hb hby d1_25) rfl k) ?_
      show own_Ends p e below F (T5.setTop (mkF m 26 #[.val (.long p1), .second, .val (.int (0 : Int32))] [(.int (0 : Int32)), (.int (own_amt p1))]))
      refine own_step (fun _ k => XS.icmpNo X5.here hx rfl (hb hby d1_26) rfl (teq (own_amt2 p1 c3_1 c12_3 : (own_amt p1) = (0 : Int32))).2 k) ?_
      show own_Ends p e below F (T5.setTop (mkF m 29 #[.val (.long p1), .second, .val (.int (0 : Int32))] []))
      refine own_step (fun _ k => XS.iconst X5.here hx rfl (hb hby d1_29) k) ?_
      show own_Ends p e below F (T5.setTop (mkF m 30 #[.val (.long p1), .second, .val (.int (0 : Int32))] [(.int (1 : Int32))]))
      refine own_step (fun _ k => XS.goto X5.here hx rfl (pc0 := 30) (pc' := 34) rfl (hb hby d1_30) (by decide) (by decide) k) ?_
      show own_Ends p e below F (T5.setTop (mkF m 34 #[.val (.long p1), .second, .val (.int (0 : Int32))] [(.int (1 : Int32))]))
      rw [hF]
      exact own_ret X5 (v := (some (.int (nar .boolean (1 : Int32))))) (fun h => by rw [Bd.returns] at h; cases h) Bd.notSynchronized (fun fs hr => retN X5 hx (t := .boolean) Bd.returns (by simp) (hb hby d1_34) hr) (by decide) (by decide) (by rw [eq5]; exact ⟨rfl, N5, rfl⟩)

theorem d3_0 : decode method_4_code 0 = .ok (.iload_n 2, 1) := by decide +kernel
theorem d3_1 : decode method_4_code 1 = .ok (.bipush 7, 2) := by decide +kernel
theorem d3_3 : decode method_4_code 3 = .ok (.iand, 1) := by decide +kernel
theorem d3_4 : decode method_4_code 4 = .ok (.istore_n 3, 1) := by decide +kernel
theorem d3_5 : decode method_4_code 5 = .ok (.iload_n 3, 1) := by decide +kernel
theorem d3_6 : decode method_4_code 6 = .ok (.ifCond .ne 5, 3) := by decide +kernel
theorem d3_9 : decode method_4_code 9 = .ok (.lconst 0, 1) := by decide +kernel
theorem d3_10 : decode method_4_code 10 = .ok (.lreturn, 1) := by decide +kernel
theorem d3_11 : decode method_4_code 11 = .ok (.iload_n 3, 1) := by decide +kernel
theorem d3_12 : decode method_4_code 12 = .ok (.iconst 1, 1) := by decide +kernel
theorem d3_13 : decode method_4_code 13 = .ok (.if_icmp .ne 5, 3) := by decide +kernel
theorem d3_16 : decode method_4_code 16 = .ok (.lconst 1, 1) := by decide +kernel
theorem d3_17 : decode method_4_code 17 = .ok (.lreturn, 1) := by decide +kernel
theorem d3_18 : decode method_4_code 18 = .ok (.iload_n 3, 1) := by decide +kernel
theorem d3_19 : decode method_4_code 19 = .ok (.iconst 2, 1) := by decide +kernel
theorem d3_20 : decode method_4_code 20 = .ok (.if_icmp .ne 7, 3) := by decide +kernel
theorem d3_23 : decode method_4_code 23 = .ok (.ldc2_w 22, 3) := by decide +kernel
theorem d3_26 : decode method_4_code 26 = .ok (.lreturn, 1) := by decide +kernel
theorem d3_27 : decode method_4_code 27 = .ok (.iload_n 3, 1) := by decide +kernel
theorem d3_28 : decode method_4_code 28 = .ok (.iconst 3, 1) := by decide +kernel
theorem d3_29 : decode method_4_code 29 = .ok (.if_icmp .ne 7, 3) := by decide +kernel
theorem d3_32 : decode method_4_code 32 = .ok (.ldc2_w 24, 3) := by decide +kernel
theorem d3_35 : decode method_4_code 35 = .ok (.lreturn, 1) := by decide +kernel
theorem d3_36 : decode method_4_code 36 = .ok (.iload_n 3, 1) := by decide +kernel
theorem d3_37 : decode method_4_code 37 = .ok (.iconst 4, 1) := by decide +kernel
theorem d3_38 : decode method_4_code 38 = .ok (.if_icmp .ne 7, 3) := by decide +kernel
theorem d3_41 : decode method_4_code 41 = .ok (.ldc2_w 26, 3) := by decide +kernel
theorem d3_44 : decode method_4_code 44 = .ok (.lreturn, 1) := by decide +kernel
theorem d3_45 : decode method_4_code 45 = .ok (.iload_n 3, 1) := by decide +kernel
theorem d3_46 : decode method_4_code 46 = .ok (.iconst 5, 1) := by decide +kernel
theorem d3_47 : decode method_4_code 47 = .ok (.if_icmp .ne 7, 3) := by decide +kernel
theorem d3_50 : decode method_4_code 50 = .ok (.ldc2_w 30, 3) := by decide +kernel
theorem d3_53 : decode method_4_code 53 = .ok (.lreturn, 1) := by decide +kernel
theorem d3_54 : decode method_4_code 54 = .ok (.iload_n 3, 1) := by decide +kernel
theorem d3_55 : decode method_4_code 55 = .ok (.bipush 6, 2) := by decide +kernel
theorem d3_57 : decode method_4_code 57 = .ok (.if_icmp .ne 7, 3) := by decide +kernel
theorem d3_60 : decode method_4_code 60 = .ok (.ldc2_w 32, 3) := by decide +kernel
theorem d3_63 : decode method_4_code 63 = .ok (.lreturn, 1) := by decide +kernel
theorem d3_64 : decode method_4_code 64 = .ok (.lload_n 0, 1) := by decide +kernel
theorem d3_65 : decode method_4_code 65 = .ok (.lreturn, 1) := by decide +kernel
theorem ef_rm3 (m : MethodId) (x0 : Int64) (x1 : Int32) : entryFrame m #[(.long x0), (.int x1)] 4 = mkF m 0 #[.val (.long x0), .second, .val (.int x1), .unset] [] := by first | (simp [entryFrame, mkF, argsToLocals, Value.category, maxLocals]; done) | rfl
def Q3 (Z : State) (p1 : Int64) (p2 : Int32) (h0 : Heap) (n0 : Nat) (v : Option Value) (h : Heap) (L : List Loc) : Prop := v = some (.long (own_pick p1 (p2 &&& 7))) ∧ Fr n0 L ∧ h = h0
set_option maxRecDepth 65536 in
set_option maxHeartbeats 40000000 in
theorem rm3 (l : Launch) (Z : State) (a0 : Array Value) (hw : ∀ d ∈ tables_1, d.before a0 Z = true) (ws : List Jvm.Cond) (p1 : Int64) (p2 : Int32) (h0 : Heap) (n0 : Nat) (Z0 : n0 ≤ h0.size)  :
    MetFree l (⟨"com/example/pledger/pledger/model/MoneyIsAmountPinLaw", "pick", "(JI)J"⟩ : MethodName) (head1 (Jvm.Cond.code (⟨"com/example/pledger/pledger/model/MoneyIsAmountPinLaw", "pick", "(JI)J"⟩ : MethodName) method_4_code 4 (some .long) :: ws) ({ frames := 0, cells := 0, slots := 0, locals := 0 } : Room)) (fun ar U => ar = #[(.long p1), (.int p2)] ∧ Z.Warmed39 U.vm ∧ U.heap = h0) (fun _ _ _ _ _ => True) (fun _ U o U' => ∃ v L, o = .returned v ∧ Q3 Z p1 p2 h0 n0 v U'.heap L ∧ FrameEnd U o U' L ({ frames := 0, cells := 0, slots := 0, locals := 0 } : Room).cells ({ frames := 0, cells := 0, slots := 0, locals := 0 } : Room).slots) := by
  refine MetFree.of_bodySF (plainFor_of_name pn_com_example_pledger_pledger_model_MoneyIsAmountPinLaw) hisR ?_
  intro p e s m args below meth c s₁ Bd hml0 hP hK
  obtain ⟨rfl, hZ, hh⟩ := hP
  have hx := Bd.exec
  have hby := Bd.bytes
  have hml : c.maxLocals = 4 := hml0
  have hown : s.vm.findClass "com/example/pledger/pledger/model/MoneyIsAmountPinLaw" = some m.cls := findClass_of_methodNamed Bd.named
  have hnm := (name_of_methodNamed Bd.named Bd.method).1
  have X0 : Stand p l e ({ frames := 0, cells := 0, slots := 0, locals := 0 } : Room) s m #[(.long p1), (.int p2)] below meth c s₁ [] 0 0 := Stand.of_body Bd
  have e0 : s₁.heap = h0 := by rw [← hh, Bd.state]; rfl
  have N0 := Fr.nil n0
  obtain ⟨F, hF⟩ : ∃ F, F = own_Fin s (Q3 Z p1 p2 h0 n0) ({ frames := 0, cells := 0, slots := 0, locals := 0 } : Room).cells ({ frames := 0, cells := 0, slots := 0, locals := 0 } : Room).slots := ⟨_, rfl⟩
  show own_Ends p e below (own_Fin s (Q3 Z p1 p2 h0 n0) ({ frames := 0, cells := 0, slots := 0, locals := 0 } : Room).cells ({ frames := 0, cells := 0, slots := 0, locals := 0 } : Room).slots) _
  rw [← hF, ef_rm3 m p1 p2]
  show own_Ends p e below F (s₁.setTop (mkF m 0 #[.val (.long p1), .second, .val (.int p2), .unset] []))
  refine own_step (fun _ k => XS.iloadN X0.here hx rfl (hb hby d3_0) rfl k) ?_
  show own_Ends p e below F (s₁.setTop (mkF m 1 #[.val (.long p1), .second, .val (.int p2), .unset] [(.int p2)]))
  refine own_step (fun _ k => XS.bipush X0.here hx rfl (hb hby d3_1) k) ?_
  show own_Ends p e below F (s₁.setTop (mkF m 3 #[.val (.long p1), .second, .val (.int p2), .unset] [(.int (7 : Int32)), (.int p2)]))
  refine own_step (fun _ k => XS.iand X0.here hx rfl (hb hby d3_3) rfl k) ?_
  show own_Ends p e below F (s₁.setTop (mkF m 4 #[.val (.long p1), .second, .val (.int p2), .unset] [(.int (p2 &&& (7 : Int32)))]))
  refine own_step (fun _ k => XS.istoreN X0.here hx rfl (hb hby d3_4) rfl (l' := #[.val (.long p1), .second, .val (.int p2), .val (.int (p2 &&& (7 : Int32)))]) rfl k) ?_
  show own_Ends p e below F (s₁.setTop (mkF m 5 #[.val (.long p1), .second, .val (.int p2), .val (.int (p2 &&& (7 : Int32)))] []))
  refine own_step (fun _ k => XS.iloadN X0.here hx rfl (hb hby d3_5) rfl k) ?_
  show own_Ends p e below F (s₁.setTop (mkF m 6 #[.val (.long p1), .second, .val (.int p2), .val (.int (p2 &&& (7 : Int32)))] [(.int (p2 &&& (7 : Int32)))]))
  by_cases c6_1 : (p2 &&& (7 : Int32)) = (0 : Int32)
  · refine own_step (fun _ k => XS.ifNo X0.here hx rfl (hb hby d3_6) rfl ((if0 _ _).trans (teq c6_1).2) k) ?_
    show own_Ends p e below F (s₁.setTop (mkF m 9 #[.val (.long p1), .second, .val (.int p2), .val (.int (p2 &&& (7 : Int32)))] []))
    refine own_step (fun _ k => XS.lconst X0.here hx rfl (hb hby d3_9) k) ?_
    show own_Ends p e below F (s₁.setTop (mkF m 10 #[.val (.long p1), .second, .val (.int p2), .val (.int (p2 &&& (7 : Int32)))] [(.long (0 : Int64))]))
    rw [hF]
    exact own_ret X0 (v := (some (.long (0 : Int64)))) (fun h => by rw [Bd.returns] at h; cases h) Bd.notSynchronized (fun fs hr => X0.lreturnOut hx Bd.returns (hb hby d3_10) hr) (by decide) (by decide) (by rw [e0]; exact ⟨by simp only [own_pick, c6_1, if_true, if_false]; first | done | rfl, N0, rfl⟩)
  · refine own_step (fun _ k => XS.ifYes X0.here hx rfl (pc0 := 6) (pc' := 11) rfl (hb hby d3_6) rfl ((if0 _ _).trans (feq c6_1).2) (by decide) (by decide) k) ?_
    show own_Ends p e below F (s₁.setTop (mkF m 11 #[.val (.long p1), .second, .val (.int p2), .val (.int (p2 &&& (7 : Int32)))] []))
    refine own_step (fun _ k => XS.iloadN X0.here hx rfl (hb hby d3_11) rfl k) ?_
    show own_Ends p e below F (s₁.setTop (mkF m 12 #[.val (.long p1), .second, .val (.int p2), .val (.int (p2 &&& (7 : Int32)))] [(.int (p2 &&& (7 : Int32)))]))
    refine own_step (fun _ k => XS.iconst X0.here hx rfl (hb hby d3_12) k) ?_
    show own_Ends p e below F (s₁.setTop (mkF m 13 #[.val (.long p1), .second, .val (.int p2), .val (.int (p2 &&& (7 : Int32)))] [(.int (1 : Int32)), (.int (p2 &&& (7 : Int32)))]))
    by_cases c13_2 : (p2 &&& (7 : Int32)) = (1 : Int32)
    · refine own_step (fun _ k => XS.icmpNo X0.here hx rfl (hb hby d3_13) rfl (teq c13_2).2 k) ?_
      show own_Ends p e below F (s₁.setTop (mkF m 16 #[.val (.long p1), .second, .val (.int p2), .val (.int (p2 &&& (7 : Int32)))] []))
      refine own_step (fun _ k => XS.lconst X0.here hx rfl (hb hby d3_16) k) ?_
      show own_Ends p e below F (s₁.setTop (mkF m 17 #[.val (.long p1), .second, .val (.int p2), .val (.int (p2 &&& (7 : Int32)))] [(.long (1 : Int64))]))
      rw [hF]
      exact own_ret X0 (v := (some (.long (1 : Int64)))) (fun h => by rw [Bd.returns] at h; cases h) Bd.notSynchronized (fun fs hr => X0.lreturnOut hx Bd.returns (hb hby d3_17) hr) (by decide) (by decide) (by rw [e0]; exact ⟨by simp only [own_pick, c6_1, c13_2, if_true, if_false]; first | done | rfl, N0, rfl⟩)
    · refine own_step (fun _ k => XS.icmpYes X0.here hx rfl (pc0 := 13) (pc' := 18) rfl (hb hby d3_13) rfl (feq c13_2).2 (by decide) (by decide) k) ?_
      show own_Ends p e below F (s₁.setTop (mkF m 18 #[.val (.long p1), .second, .val (.int p2), .val (.int (p2 &&& (7 : Int32)))] []))
      refine own_step (fun _ k => XS.iloadN X0.here hx rfl (hb hby d3_18) rfl k) ?_
      show own_Ends p e below F (s₁.setTop (mkF m 19 #[.val (.long p1), .second, .val (.int p2), .val (.int (p2 &&& (7 : Int32)))] [(.int (p2 &&& (7 : Int32)))]))
      refine own_step (fun _ k => XS.iconst X0.here hx rfl (hb hby d3_19) k) ?_
      show own_Ends p e below F (s₁.setTop (mkF m 20 #[.val (.long p1), .second, .val (.int p2), .val (.int (p2 &&& (7 : Int32)))] [(.int (2 : Int32)), (.int (p2 &&& (7 : Int32)))]))
      by_cases c20_3 : (p2 &&& (7 : Int32)) = (2 : Int32)
      · refine own_step (fun _ k => XS.icmpNo X0.here hx rfl (hb hby d3_20) rfl (teq c20_3).2 k) ?_
        show own_Ends p e below F (s₁.setTop (mkF m 23 #[.val (.long p1), .second, .val (.int p2), .val (.int (p2 &&& (7 : Int32)))] []))
        refine own_step (X0.ldc2Long hx hown (mvT hZ (own_g hw 12 rfl)) (g := (mkF m 23 #[.val (.long p1), .second, .val (.int p2), .val (.int (p2 &&& (7 : Int32)))] [])) rfl (hb hby d3_23)) ?_
        show own_Ends p e below F (s₁.setTop (mkF m 26 #[.val (.long p1), .second, .val (.int p2), .val (.int (p2 &&& (7 : Int32)))] [(.long (9007199254740991 : Int64))]))
        rw [hF]
        exact own_ret X0 (v := (some (.long (9007199254740991 : Int64)))) (fun h => by rw [Bd.returns] at h; cases h) Bd.notSynchronized (fun fs hr => X0.lreturnOut hx Bd.returns (hb hby d3_26) hr) (by decide) (by decide) (by rw [e0]; exact ⟨by simp only [own_pick, c6_1, c13_2, c20_3, if_true, if_false]; first | done | rfl, N0, rfl⟩)
      · refine own_step (fun _ k => XS.icmpYes X0.here hx rfl (pc0 := 20) (pc' := 27) rfl (hb hby d3_20) rfl (feq c20_3).2 (by decide) (by decide) k) ?_
        show own_Ends p e below F (s₁.setTop (mkF m 27 #[.val (.long p1), .second, .val (.int p2), .val (.int (p2 &&& (7 : Int32)))] []))
        refine own_step (fun _ k => XS.iloadN X0.here hx rfl (hb hby d3_27) rfl k) ?_
        show own_Ends p e below F (s₁.setTop (mkF m 28 #[.val (.long p1), .second, .val (.int p2), .val (.int (p2 &&& (7 : Int32)))] [(.int (p2 &&& (7 : Int32)))]))
        refine own_step (fun _ k => XS.iconst X0.here hx rfl (hb hby d3_28) k) ?_
        show own_Ends p e below F (s₁.setTop (mkF m 29 #[.val (.long p1), .second, .val (.int p2), .val (.int (p2 &&& (7 : Int32)))] [(.int (3 : Int32)), (.int (p2 &&& (7 : Int32)))]))
        by_cases c29_4 : (p2 &&& (7 : Int32)) = (3 : Int32)
        · refine own_step (fun _ k => XS.icmpNo X0.here hx rfl (hb hby d3_29) rfl (teq c29_4).2 k) ?_
          show own_Ends p e below F (s₁.setTop (mkF m 32 #[.val (.long p1), .second, .val (.int p2), .val (.int (p2 &&& (7 : Int32)))] []))
          refine own_step (X0.ldc2Long hx hown (mvT hZ (own_g hw 15 rfl)) (g := (mkF m 32 #[.val (.long p1), .second, .val (.int p2), .val (.int (p2 &&& (7 : Int32)))] [])) rfl (hb hby d3_32)) ?_
          show own_Ends p e below F (s₁.setTop (mkF m 35 #[.val (.long p1), .second, .val (.int p2), .val (.int (p2 &&& (7 : Int32)))] [(.long (9007199254740992 : Int64))]))
          rw [hF]
          exact own_ret X0 (v := (some (.long (9007199254740992 : Int64)))) (fun h => by rw [Bd.returns] at h; cases h) Bd.notSynchronized (fun fs hr => X0.lreturnOut hx Bd.returns (hb hby d3_35) hr) (by decide) (by decide) (by rw [e0]; exact ⟨by simp only [own_pick, c6_1, c13_2, c20_3, c29_4, if_true, if_false]; first | done | rfl, N0, rfl⟩)
        · refine own_step (fun _ k => XS.icmpYes X0.here hx rfl (pc0 := 29) (pc' := 36) rfl (hb hby d3_29) rfl (feq c29_4).2 (by decide) (by decide) k) ?_
          show own_Ends p e below F (s₁.setTop (mkF m 36 #[.val (.long p1), .second, .val (.int p2), .val (.int (p2 &&& (7 : Int32)))] []))
          refine own_step (fun _ k => XS.iloadN X0.here hx rfl (hb hby d3_36) rfl k) ?_
          show own_Ends p e below F (s₁.setTop (mkF m 37 #[.val (.long p1), .second, .val (.int p2), .val (.int (p2 &&& (7 : Int32)))] [(.int (p2 &&& (7 : Int32)))]))
          refine own_step (fun _ k => XS.iconst X0.here hx rfl (hb hby d3_37) k) ?_
          show own_Ends p e below F (s₁.setTop (mkF m 38 #[.val (.long p1), .second, .val (.int p2), .val (.int (p2 &&& (7 : Int32)))] [(.int (4 : Int32)), (.int (p2 &&& (7 : Int32)))]))
          by_cases c38_5 : (p2 &&& (7 : Int32)) = (4 : Int32)
          · refine own_step (fun _ k => XS.icmpNo X0.here hx rfl (hb hby d3_38) rfl (teq c38_5).2 k) ?_
            show own_Ends p e below F (s₁.setTop (mkF m 41 #[.val (.long p1), .second, .val (.int p2), .val (.int (p2 &&& (7 : Int32)))] []))
            refine own_step (X0.ldc2Long hx hown (mvT hZ (own_g hw 13 rfl)) (g := (mkF m 41 #[.val (.long p1), .second, .val (.int p2), .val (.int (p2 &&& (7 : Int32)))] [])) rfl (hb hby d3_41)) ?_
            show own_Ends p e below F (s₁.setTop (mkF m 44 #[.val (.long p1), .second, .val (.int p2), .val (.int (p2 &&& (7 : Int32)))] [(.long (-1 : Int64))]))
            rw [hF]
            exact own_ret X0 (v := (some (.long (-1 : Int64)))) (fun h => by rw [Bd.returns] at h; cases h) Bd.notSynchronized (fun fs hr => X0.lreturnOut hx Bd.returns (hb hby d3_44) hr) (by decide) (by decide) (by rw [e0]; exact ⟨by simp only [own_pick, c6_1, c13_2, c20_3, c29_4, c38_5, if_true, if_false]; first | done | rfl, N0, rfl⟩)
          · refine own_step (fun _ k => XS.icmpYes X0.here hx rfl (pc0 := 38) (pc' := 45) rfl (hb hby d3_38) rfl (feq c38_5).2 (by decide) (by decide) k) ?_
            show own_Ends p e below F (s₁.setTop (mkF m 45 #[.val (.long p1), .second, .val (.int p2), .val (.int (p2 &&& (7 : Int32)))] []))
            refine own_step (fun _ k => XS.iloadN X0.here hx rfl (hb hby d3_45) rfl k) ?_
            show own_Ends p e below F (s₁.setTop (mkF m 46 #[.val (.long p1), .second, .val (.int p2), .val (.int (p2 &&& (7 : Int32)))] [(.int (p2 &&& (7 : Int32)))]))
            refine own_step (fun _ k => XS.iconst X0.here hx rfl (hb hby d3_46) k) ?_
            show own_Ends p e below F (s₁.setTop (mkF m 47 #[.val (.long p1), .second, .val (.int p2), .val (.int (p2 &&& (7 : Int32)))] [(.int (5 : Int32)), (.int (p2 &&& (7 : Int32)))]))
            by_cases c47_6 : (p2 &&& (7 : Int32)) = (5 : Int32)
            · refine own_step (fun _ k => XS.icmpNo X0.here hx rfl (hb hby d3_47) rfl (teq c47_6).2 k) ?_
              show own_Ends p e below F (s₁.setTop (mkF m 50 #[.val (.long p1), .second, .val (.int p2), .val (.int (p2 &&& (7 : Int32)))] []))
              refine own_step (X0.ldc2Long hx hown (mvT hZ (own_g hw 16 rfl)) (g := (mkF m 50 #[.val (.long p1), .second, .val (.int p2), .val (.int (p2 &&& (7 : Int32)))] [])) rfl (hb hby d3_50)) ?_
              show own_Ends p e below F (s₁.setTop (mkF m 53 #[.val (.long p1), .second, .val (.int p2), .val (.int (p2 &&& (7 : Int32)))] [(.long (-9223372036854775808 : Int64))]))
              rw [hF]
              exact own_ret X0 (v := (some (.long (-9223372036854775808 : Int64)))) (fun h => by rw [Bd.returns] at h; cases h) Bd.notSynchronized (fun fs hr => X0.lreturnOut hx Bd.returns (hb hby d3_53) hr) (by decide) (by decide) (by rw [e0]; exact ⟨by simp only [own_pick, c6_1, c13_2, c20_3, c29_4, c38_5, c47_6, if_true, if_false]; first | done | rfl, N0, rfl⟩)
            · refine own_step (fun _ k => XS.icmpYes X0.here hx rfl (pc0 := 47) (pc' := 54) rfl (hb hby d3_47) rfl (feq c47_6).2 (by decide) (by decide) k) ?_
              show own_Ends p e below F (s₁.setTop (mkF m 54 #[.val (.long p1), .second, .val (.int p2), .val (.int (p2 &&& (7 : Int32)))] []))
              refine own_step (fun _ k => XS.iloadN X0.here hx rfl (hb hby d3_54) rfl k) ?_
              show own_Ends p e below F (s₁.setTop (mkF m 55 #[.val (.long p1), .second, .val (.int p2), .val (.int (p2 &&& (7 : Int32)))] [(.int (p2 &&& (7 : Int32)))]))
              refine own_step (fun _ k => XS.bipush X0.here hx rfl (hb hby d3_55) k) ?_
              show own_Ends p e below F (s₁.setTop (mkF m 57 #[.val (.long p1), .second, .val (.int p2), .val (.int (p2 &&& (7 : Int32)))] [(.int (6 : Int32)), (.int (p2 &&& (7 : Int32)))]))
              by_cases c57_7 : (p2 &&& (7 : Int32)) = (6 : Int32)
              · refine own_step (fun _ k => XS.icmpNo X0.here hx rfl (hb hby d3_57) rfl (teq c57_7).2 k) ?_
                show own_Ends p e below F (s₁.setTop (mkF m 60 #[.val (.long p1), .second, .val (.int p2), .val (.int (p2 &&& (7 : Int32)))] []))
                refine own_step (X0.ldc2Long hx hown (mvT hZ (own_g hw 14 rfl)) (g := (mkF m 60 #[.val (.long p1), .second, .val (.int p2), .val (.int (p2 &&& (7 : Int32)))] [])) rfl (hb hby d3_60)) ?_
                show own_Ends p e below F (s₁.setTop (mkF m 63 #[.val (.long p1), .second, .val (.int p2), .val (.int (p2 &&& (7 : Int32)))] [(.long (9223372036854775807 : Int64))]))
                rw [hF]
                exact own_ret X0 (v := (some (.long (9223372036854775807 : Int64)))) (fun h => by rw [Bd.returns] at h; cases h) Bd.notSynchronized (fun fs hr => X0.lreturnOut hx Bd.returns (hb hby d3_63) hr) (by decide) (by decide) (by rw [e0]; exact ⟨by simp only [own_pick, c6_1, c13_2, c20_3, c29_4, c38_5, c47_6, c57_7, if_true, if_false]; first | done | rfl, N0, rfl⟩)
              · refine own_step (fun _ k => XS.icmpYes X0.here hx rfl (pc0 := 57) (pc' := 64) rfl (hb hby d3_57) rfl (feq c57_7).2 (by decide) (by decide) k) ?_
                show own_Ends p e below F (s₁.setTop (mkF m 64 #[.val (.long p1), .second, .val (.int p2), .val (.int (p2 &&& (7 : Int32)))] []))
                refine own_step (fun _ k => XS.lloadN X0.here hx rfl (hb hby d3_64) rfl k) ?_
                show own_Ends p e below F (s₁.setTop (mkF m 65 #[.val (.long p1), .second, .val (.int p2), .val (.int (p2 &&& (7 : Int32)))] [(.long p1)]))
                rw [hF]
                exact own_ret X0 (v := (some (.long p1))) (fun h => by rw [Bd.returns] at h; cases h) Bd.notSynchronized (fun fs hr => X0.lreturnOut hx Bd.returns (hb hby d3_65) hr) (by decide) (by decide) (by rw [e0]; exact ⟨by simp only [own_pick, c6_1, c13_2, c20_3, c29_4, c38_5, c47_6, c57_7, if_true, if_false]; first | done | rfl, N0, rfl⟩)

theorem pd__28JI_29J : parseMethodDescriptor "(JI)J" = some ⟨[.long, .int], some .long⟩ := by decide +kernel
theorem ef_rm0 (m : MethodId) (x0 : Int64) (x1 : Int32) : entryFrame m #[(.long x0), (.int x1)] maxLocals = mkF m 0 #[.val (.long x0), .second, .val (.int x1)] [] := by first | (simp [entryFrame, mkF, argsToLocals, Value.category, maxLocals]; done) | rfl
def Q0 (Z : State) (p1 : Int64) (p2 : Int32) (h0 : Heap) (n0 : Nat) (v : Option Value) (h : Heap) (L : List Loc) : Prop := v = some (.int 1) ∧ Fr n0 L
set_option maxRecDepth 65536 in
set_option maxHeartbeats 40000000 in
theorem rm0 (l : Launch) (Z : State) (a0 : Array Value) (hw : ∀ d ∈ tables_1, d.before a0 Z = true) (ws : List Jvm.Cond) (p1 : Int64) (p2 : Int32) (h0 : Heap) (n0 : Nat) (Z0 : n0 ≤ h0.size)  :
    MetFree l x (head1 (Jvm.Cond.code x code maxLocals ret :: ws) room_1) (fun ar U => ar = #[(.long p1), (.int p2)] ∧ Z.Warmed39 U.vm ∧ U.heap = h0) (fun _ _ _ _ _ => True) (fun _ U o U' => ∃ v L, o = .returned v ∧ Q0 Z p1 p2 h0 n0 v U'.heap L ∧ FrameEnd U o U' L room_1.cells room_1.slots) := by
  refine MetFree.of_bodySF (plainFor_of_name pn_com_example_pledger_pledger_model_MoneyIsAmountPinLaw) hisR ?_
  intro p e s m args below meth c s₁ Bd hml0 hP hK
  obtain ⟨rfl, hZ, hh⟩ := hP
  have hx := Bd.exec
  have hby := Bd.bytes
  have hml : c.maxLocals = 3 := hml0
  have hown : s.vm.findClass "com/example/pledger/pledger/model/MoneyIsAmountPinLaw" = some m.cls := findClass_of_methodNamed Bd.named
  have hnm := (name_of_methodNamed Bd.named Bd.method).1
  have X0 : Stand p l e room_1 s m #[(.long p1), (.int p2)] below meth c s₁ [] 0 0 := Stand.of_body Bd
  have e0 : s₁.heap = h0 := by rw [← hh, Bd.state]; rfl
  have N0 := Fr.nil n0
  obtain ⟨F, hF⟩ : ∃ F, F = own_Fin s (Q0 Z p1 p2 h0 n0) room_1.cells room_1.slots := ⟨_, rfl⟩
  show own_Ends p e below (own_Fin s (Q0 Z p1 p2 h0 n0) room_1.cells room_1.slots) _
  rw [← hF, ef_rm0 m p1 p2]
  show own_Ends p e below F (s₁.setTop (mkF m 0 #[.val (.long p1), .second, .val (.int p2)] []))
  refine own_step (fun _ k => XS.lloadN X0.here hx rfl (hb hby at_0) rfl k) ?_
  show own_Ends p e below F (s₁.setTop (mkF m 1 #[.val (.long p1), .second, .val (.int p2)] [(.long p1)]))
  obtain ⟨_, _, ⟨T1, L1, k1, n1⟩, -, X1, ⟨Lc1, hQ1, l1, y1, z1⟩, st1⟩ := Jvm.LawKit.callS X0 hx (y := (⟨"com/example/pledger/pledger/model/MoneyIsAmountPinLaw", "check", "(J)Z"⟩ : MethodName)) hown (mvT hZ (own_g hw 0 rfl)) (mvT hZ (own_g hw 1 rfl)) (mvT hZ (own_g hw 2 rfl)) (mvT hZ (own_g hw 3 rfl)) (by decide) (backOf (W := 0) (rm1 l Z a0 hw [] p1 h0 n0 Z0) hZ (own_g hw 3 rfl) (own_g hw 2 rfl) (by decide) (by decide)) (g := (mkF m 1 #[.val (.long p1), .second, .val (.int p2)] [(.long p1)])) rfl (by rw [hml]; rfl) (argsL := [(.long p1)]) (rest := []) (lenOf pd__28J_29Z rfl) rfl (by show 2 * 0 + _ ≤ _; exact Nat.le_of_eq rfl) (hb hby at_1) (fun _ _ => ⟨rfl, e0, (by decide : 0 + 0 ≤ _), (by decide : 0 + 0 ≤ _)⟩)
  dsimp only [Pt.U, Pt.locs, Pt.cells, Pt.slots] at X1 l1 y1 z1 st1 hQ1
  subst l1 y1 z1
  obtain ⟨rfl, Nq1, eq1⟩ := hQ1
  have N1 := Fr.app N0 Nq1
  refine own_step st1 ?_
  show own_Ends p e below F (T1.setTop (mkF m 4 #[.val (.long p1), .second, .val (.int p2)] [(.int (1 : Int32))]))
  refine own_step (fun _ k => XS.ifNo X1.here hx rfl (hb hby at_4) rfl ((if0 _ _).trans (feq (by decide : ¬ ((1 : Int32) = (0 : Int32)))).1) k) ?_
  show own_Ends p e below F (T1.setTop (mkF m 7 #[.val (.long p1), .second, .val (.int p2)] []))
  refine own_step (fun _ k => XS.lloadN X1.here hx rfl (hb hby at_7) rfl k) ?_
  show own_Ends p e below F (T1.setTop (mkF m 8 #[.val (.long p1), .second, .val (.int p2)] [(.long p1)]))
  refine own_step (fun _ k => XS.iloadN X1.here hx rfl (hb hby at_8) rfl k) ?_
  show own_Ends p e below F (T1.setTop (mkF m 9 #[.val (.long p1), .second, .val (.int p2)] [(.int p2), (.long p1)]))
  obtain ⟨_, _, ⟨T2, L2, k2, n2⟩, -, X2, ⟨Lc2, hQ2, l2, y2, z2⟩, st2⟩ := Jvm.LawKit.callS X1 hx (y := (⟨"com/example/pledger/pledger/model/MoneyIsAmountPinLaw", "pick", "(JI)J"⟩ : MethodName)) hown (mvT hZ (own_g hw 9 rfl)) (mvT hZ (own_g hw 10 rfl)) (mvT hZ (own_g hw 2 rfl)) (mvT hZ (own_g hw 11 rfl)) (by decide) (backOf (W := 0) (rm3 l Z a0 hw [] p1 p2 h0 n0 Z0) hZ (own_g hw 11 rfl) (own_g hw 2 rfl) (by decide) (by decide)) (g := (mkF m 9 #[.val (.long p1), .second, .val (.int p2)] [(.int p2), (.long p1)])) rfl (by rw [hml]; rfl) (argsL := [(.long p1), (.int p2)]) (rest := []) (lenOf pd__28JI_29J rfl) rfl (by show 2 * 0 + _ ≤ _; exact Nat.le_of_eq rfl) (hb hby at_9) (fun _ _ => ⟨rfl, eq1, (by decide : 0 + 0 ≤ _), (by decide : 0 + 0 ≤ _)⟩)
  dsimp only [Pt.U, Pt.locs, Pt.cells, Pt.slots] at X2 l2 y2 z2 st2 hQ2
  subst l2 y2 z2
  obtain ⟨rfl, Nq2, eq2⟩ := hQ2
  have N2 := Fr.app N1 Nq2
  refine own_step st2 ?_
  show own_Ends p e below F (T2.setTop (mkF m 12 #[.val (.long p1), .second, .val (.int p2)] [(.long (own_pick p1 (p2 &&& 7)))]))
  obtain ⟨_, _, ⟨T3, L3, k3, n3⟩, -, X3, ⟨Lc3, hQ3, l3, y3, z3⟩, st3⟩ := Jvm.LawKit.callS X2 hx (y := (⟨"com/example/pledger/pledger/model/MoneyIsAmountPinLaw", "check", "(J)Z"⟩ : MethodName)) hown (mvT hZ (own_g hw 0 rfl)) (mvT hZ (own_g hw 1 rfl)) (mvT hZ (own_g hw 2 rfl)) (mvT hZ (own_g hw 3 rfl)) (by decide) (backOf (W := 0) (rm1 l Z a0 hw [] (own_pick p1 (p2 &&& 7)) h0 n0 Z0) hZ (own_g hw 3 rfl) (own_g hw 2 rfl) (by decide) (by decide)) (g := (mkF m 12 #[.val (.long p1), .second, .val (.int p2)] [(.long (own_pick p1 (p2 &&& 7)))])) rfl (by rw [hml]; rfl) (argsL := [(.long (own_pick p1 (p2 &&& 7)))]) (rest := []) (lenOf pd__28J_29Z rfl) rfl (by show 2 * 0 + _ ≤ _; exact Nat.le_of_eq rfl) (hb hby at_12) (fun _ _ => ⟨rfl, eq2, (by decide : 0 + 0 ≤ _), (by decide : 0 + 0 ≤ _)⟩)
  dsimp only [Pt.U, Pt.locs, Pt.cells, Pt.slots] at X3 l3 y3 z3 st3 hQ3
  subst l3 y3 z3
  obtain ⟨rfl, Nq3, eq3⟩ := hQ3
  have N3 := Fr.app N2 Nq3
  refine own_step st3 ?_
  show own_Ends p e below F (T3.setTop (mkF m 15 #[.val (.long p1), .second, .val (.int p2)] [(.int (1 : Int32))]))
  refine own_step (fun _ k => XS.ifNo X3.here hx rfl (hb hby at_15) rfl ((if0 _ _).trans (feq (by decide : ¬ ((1 : Int32) = (0 : Int32)))).1) k) ?_
  show own_Ends p e below F (T3.setTop (mkF m 18 #[.val (.long p1), .second, .val (.int p2)] []))
  refine own_step (fun _ k => XS.iconst X3.here hx rfl (hb hby at_18) k) ?_
  show own_Ends p e below F (T3.setTop (mkF m 19 #[.val (.long p1), .second, .val (.int p2)] [(.int (1 : Int32))]))
  refine own_step (fun _ k => XS.goto X3.here hx rfl (pc0 := 19) (pc' := 23) rfl (hb hby at_19) (by decide) (by decide) k) ?_
  show own_Ends p e below F (T3.setTop (mkF m 23 #[.val (.long p1), .second, .val (.int p2)] [(.int (1 : Int32))]))
  rw [hF]
  exact own_ret X3 (v := (some (.int (nar .boolean (1 : Int32))))) (fun h => by rw [Bd.returns] at h; cases h) Bd.notSynchronized (fun fs hr => retN X3 hx (t := .boolean) Bd.returns (by simp) (hb hby at_23) hr) (by decide) (by decide) (by rw [eq3]; exact ⟨rfl, N3⟩)

set_option maxRecDepth 65536 in
set_option maxHeartbeats 40000000 in
theorem comes_1 {Post : Tables → Env → Array Value → State → Outcome → State → Prop} (hpost : ∀ tb e args s v u, (limb_1_1.after args s (.returned v) u = true ∧ limb_1_2.after args s (.returned v) u = true ∧ True) → FrameEnd s (.returned v) u (Jvm.fieldLocs frame_1_writes args s ++ Jvm.arrayLocs frame_1_arrays args s ++ Jvm.staticLocs frame_1_statics s) 0 0 → Post tb e args s (.returned v) u) :
    ArmFor flags0 classFile x code maxLocals ret World_1 tables_1 room_1 Calls_1 rest_1 Pre_1 Post := by
  intro l hfl _ _ p e ha hc hk s m args below hf hA hF happ hP
  obtain ⟨hcalls, hrest, hpre⟩ := hP
  obtain ⟨-, -, -, hnamed, -, -, -, hat⟩ := (Spec.applies_iff hf).mp happ
  obtain ⟨hg, hn⟩ := and_e (Cond.before_iff.mp (show (Jvm.Cond.and given_1 narrow_1).before args s = true from hpre))
  obtain ⟨g0, r0⟩ := and_e hg
  obtain ⟨g1, r1⟩ := and_e r0
  have g2 := r1
  obtain ⟨w0, w1, rfl⟩ : ∃ w0 w1 : Value, args = #[w0, w1] := by
    have hs : args.size = 2 := by simpa [Cond.value, given_1] using g0
    obtain ⟨L⟩ := args
    match L, hs with
    | [w0, w1], _ => exact ⟨w0, w1, rfl⟩
  have hw := fun d (hd : d ∈ tables_1) => atoms_spec (ws := Jvm.Cond.code x code maxLocals ret :: tables_1) hat d (List.mem_cons_of_mem _ hd)
  have hfit : Fit s := fun {y c} hc i hi => by
    obtain ⟨ha, rfl⟩ := Array.getElem?_eq_some_iff.mp hc
    have q := List.all_eq_true.mp ((Array.all_eq_true_iff_forall_mem.mp hF) _ (Array.getElem_mem ha)) i (List.mem_range.mpr hi)
    simpa [Array.getElem?_eq_getElem hi] using q
  obtain ⟨i0, ei0⟩ := isL_v g1
  obtain rfl : w0 = (.long i0) := Option.some.inj ei0
  obtain ⟨i1, ei1⟩ := is_v g2
  obtain rfl : w1 = (.int i1) := Option.some.inj ei1
  obtain ⟨n, o, h1, h2, h3, _, L, rfl, ⟨rfl, N⟩, hq⟩ := rm0 l s _ hw tables_1 i0 i1  s.heap s.heap.size (Nat.le_refl _)  p e ha hc hk s m _ below hf ((Spec.applies_iff_loose hf).mp happ).1 ⟨rfl, State.Warmed39.refl s, rfl⟩ trivial
  refine ⟨n, _, h1, h2, h3, hpost _ _ _ _ _ _ ⟨Cond.after_iff.mpr rfl, Cond.after_iff.mpr (eq_i res_at (Term.int_eval (1)) rfl), trivial⟩ ⟨hq.1, hq.2.1, (hq.2.2.sift fun y hy => Or.inr (N y hy)).mono (by decide) (by decide)⟩⟩
theorem main_1_1 : Claimed_1_1 := comes_1 fun _ _ _ _ _ _ h hF => ⟨h.1, hF⟩
theorem main_1_2 : Claimed_1_2 := comes_1 fun _ _ _ _ _ _ h hF => ⟨h.2.1, hF⟩

end Jvm.Pilot.@@N@@
namespace Jvm.Pilot.@@N@@
open Jvm Jvm.ClassFile Sem Op Lib Jvm.Free Jvm.Stand Jvm.Pilot.@@N@@.Jvm.D
/-! MADE BY PROGRAM (witnessworld.py) out of the Statement's table words and the real class files: 9 classes; the members and pool entries that the words name. The judged class is class 1, her method 1. -/
namespace start1
open Jvm.ClassFile
def u (s : String) : CpInfo := .utf8 (stringToUtf16 s)
/-- a pool by its gaps: so many unusable entries, then the entry; so many at the end -/
def gap : Nat → List CpInfo → List CpInfo
  | 0, r => r
  | n + 1, r => .unusable :: gap n r
def poolList (es : List (Nat × CpInfo)) (last : Nat) : List CpInfo := es.foldr (fun e r => gap e.1 (e.2 :: r)) (gap last [])
def pool (es : List (Nat × CpInfo)) (last : Nat) : Array CpInfo := ⟨poolList es last⟩
def fileOf (pool : Array CpInfo) (this : Nat) (attrs : Array Attribute := #[]) (ms : Array MethodInfo := #[]) (fl : Nat := 33) (sup : Nat := 0) (ifs : Array Nat := #[]) (fds : Array FieldInfo := #[]) : ClassFile where
  minorVersion := 0
  majorVersion := 65
  constantPool := pool
  accessFlags := fl
  thisClass := this
  superClass := sup
  interfaces := ifs
  fields := fds
  methods := ms
  attributes := attrs
def plain (name : String) (sup : Option ClassId) : Class where
  name := name
  kind := .ordinary
  loader := none
  accessFlags := 33
  super := sup
  interfaces := #[]
  cf := none
  fields := #[]
  methods := #[]
  instanceTypes := #[]
  staticTypes := #[]
  resolved := #[]
  callSites := []
  init := .initialized
  statics := none
  mirror := none

def pool0 : Array CpInfo := pool [(5, u "<init>"), (0, u "()V"), (1, .class_ 10), (1, u "java/lang/Object")] 113

def k0m0 : Method := { name := "<init>", desc := "()V", sig := { parameters := [], returnType := none }, accessFlags := 1, code := none }
/-- java/lang/Object -/
def k0 : Class := { plain "java/lang/Object" none with
  accessFlags := 33
  interfaces := #[]
  cf := some (fileOf pool0 8 #[] #[{ accessFlags := 1, nameIndex := 5, descriptorIndex := 6, attributes := #[] }] 33 0 #[] #[])
  fields := #[]
  methods := #[k0m0]
  instanceTypes := #[]
  staticTypes := #[]
  resolved := Array.replicate 124 none
  statics := none }

def pool1 : Array CpInfo := pool [(2, .class_ 4), (1, u "java/lang/Object"), (0, u "<init>"), (0, u "()V"), (0, .methodref 8 9), (0, .class_ 10), (0, .nameAndType 11 12), (0, u "com/example/pledger/pledger/model/MoneyIsAmountPinLaw"), (0, u "check"), (0, u "(J)Z"), (0, .methodref 8 14), (0, .nameAndType 15 16), (0, u "pick"), (0, u "(JI)J"), (0, .methodref 18 19), (0, .class_ 20), (0, .nameAndType 21 12), (0, u "com/example/pledger/pledger/model/Money"), (0, u "isAmount"), (0, .long 9007199254740991), (1, .long 9007199254740992), (1, .long 18446744073709551615), (3, .long 9223372036854775808), (1, .long 9223372036854775807), (3, u "law"), (0, u "(JI)Z")] 3

def k1m0 : Method := { name := "<init>", desc := "()V", sig := { parameters := [], returnType := none }, accessFlags := 2, code := none }
def k1c1 : Code := { maxStack := 3, maxLocals := 3, code := code, exceptionTable := #[], attributes := #[] }
def k1m1 : Method := { name := "law", desc := "(JI)Z", sig := { parameters := [.long, .int], returnType := some .boolean }, accessFlags := 9, code := some k1c1 }
def k1c2 : Code := { maxStack := 4, maxLocals := 3, code := method_3_code, exceptionTable := #[], attributes := #[] }
def k1m2 : Method := { name := "check", desc := "(J)Z", sig := { parameters := [.long], returnType := some .boolean }, accessFlags := 10, code := some k1c2 }
def k1c3 : Code := { maxStack := 2, maxLocals := 4, code := method_4_code, exceptionTable := #[], attributes := #[] }
def k1m3 : Method := { name := "pick", desc := "(JI)J", sig := { parameters := [.long, .int], returnType := some .long }, accessFlags := 10, code := some k1c3 }
/-- com/example/pledger/pledger/model/MoneyIsAmountPinLaw -/
def k1 : Class := { plain "com/example/pledger/pledger/model/MoneyIsAmountPinLaw" (some 0) with
  accessFlags := 49
  interfaces := #[]
  cf := some (fileOf pool1 8 #[] #[{ accessFlags := 2, nameIndex := 5, descriptorIndex := 6, attributes := #[] }, { accessFlags := 9, nameIndex := 36, descriptorIndex := 37, attributes := #[] }, { accessFlags := 10, nameIndex := 11, descriptorIndex := 12, attributes := #[] }, { accessFlags := 10, nameIndex := 15, descriptorIndex := 16, attributes := #[] }] 49 2 #[] #[])
  fields := #[]
  methods := #[k1m0, k1m1, k1m2, k1m3]
  instanceTypes := #[]
  staticTypes := #[]
  resolved := Array.replicate 41 none
  statics := none }

def pool2 : Array CpInfo := pool [(2, .class_ 4), (1, u "java/lang/Object"), (0, u "<init>"), (0, u "()V"), (0, .class_ 8), (0, u "com/example/pledger/pledger/model/Money"), (0, .long 9007199254740991), (11, u "isAmount"), (0, u "(J)Z"), (24, u "MAX"), (0, u "J")] 26

def k2m0 : Method := { name := "<init>", desc := "()V", sig := { parameters := [], returnType := none }, accessFlags := 2, code := none }
def k2c1 : Code := { maxStack := 4, maxLocals := 2, code := prog_11_method_2_code, exceptionTable := #[], attributes := #[] }
def k2m1 : Method := { name := "isAmount", desc := "(J)Z", sig := { parameters := [.long], returnType := some .boolean }, accessFlags := 9, code := some k2c1 }
/-- com/example/pledger/pledger/model/Money -/
def k2 : Class := { plain "com/example/pledger/pledger/model/Money" (some 0) with
  accessFlags := 33
  interfaces := #[]
  cf := some (fileOf pool2 7 #[] #[{ accessFlags := 2, nameIndex := 5, descriptorIndex := 6, attributes := #[] }, { accessFlags := 9, nameIndex := 21, descriptorIndex := 22, attributes := #[] }] 33 2 #[] #[{ accessFlags := 25, nameIndex := 47, descriptorIndex := 48, attributes := #[] }])
  fields := #[{ name := "MAX", type := .long, accessFlags := 25, slot := 0, constantValue := 0 }]
  methods := #[k2m0, k2m1]
  instanceTypes := #[]
  staticTypes := #[.long]
  resolved := Array.replicate 75 none
  statics := none }

def pool3 : Array CpInfo := pool [(1, u "java/lang/Cloneable"), (0, .class_ 1), (0, u "java/lang/Object"), (0, .class_ 3)] 3

/-- java/lang/Cloneable -/
def k3 : Class := { plain "java/lang/Cloneable" (some 0) with
  accessFlags := 1537
  interfaces := #[]
  cf := some (fileOf pool3 2 #[] #[] 1537 4 #[] #[])
  fields := #[]
  methods := #[]
  instanceTypes := #[]
  staticTypes := #[]
  resolved := Array.replicate 8 none
  statics := none }

def pool4 : Array CpInfo := pool [(1, u "java/io/Serializable"), (0, .class_ 1), (0, u "java/lang/Object"), (0, .class_ 3)] 3

/-- java/io/Serializable -/
def k4 : Class := { plain "java/io/Serializable" (some 0) with
  accessFlags := 1537
  interfaces := #[]
  cf := some (fileOf pool4 2 #[] #[] 1537 4 #[] #[])
  fields := #[]
  methods := #[]
  instanceTypes := #[]
  staticTypes := #[]
  resolved := Array.replicate 8 none
  statics := none }

/-- the primitive byte -/
def k5 : Class := { plain "byte" none with kind := .primitive 'B', accessFlags := 0x411 }
/-- [B -/
def k6 : Class := { plain "[B" (some 0) with kind := .array 5 .byte, interfaces := #[3, 4], accessFlags := 1041 }

/-- the primitive int -/
def k7 : Class := { plain "int" none with kind := .primitive 'I', accessFlags := 0x411 }
/-- [I -/
def k8 : Class := { plain "[I" (some 0) with kind := .array 7 .int, interfaces := #[3, 4], accessFlags := 1041 }

def heap : Heap := #[]
def classes : Array Class := #[k0, k1, k2, k3, k4, k5, k6, k7, k8]
def interned : List (Array UInt16 × Addr) := []
def slotsUsed : Nat := 0
def theMethod : MethodId := ⟨1, 1⟩
def args0 : Array Value := #[.long 5, .int 7]
def aboutOver (below : List Frame) : State where
  vm := { classes := classes, interned := interned.toArray }
  heap := heap
  slotsUsed := slotsUsed
  threads := #[{ frames := .invoking theMethod args0 :: below }]
def below0 : List Frame := [.native { method := ⟨0, 0⟩, args := #[] }]
def about1 : State := aboutOver below0
def p0 : Program := .bare "" "" ""
def e0 : Env := launch0.env 0 0 0
theorem w_frames : about1.frames = Frame.invoking theMethod args0 :: below0 := rfl
set_option maxRecDepth 65536 in
theorem w_args : argsFit about1.vm theMethod args0 = true := by decide +kernel
set_option maxRecDepth 65536 in
theorem w_heap : heapFits about1 = true := by decide +kernel
set_option maxRecDepth 65536 in
theorem w_runnable : about1.curStatus? = some .runnable := by decide +kernel
set_option maxRecDepth 65536 in
theorem w_alone : about1.alone = true := by decide +kernel
set_option maxRecDepth 65536 in
theorem w_named : about1.methodNamed? x = some theMethod := by decide +kernel
set_option maxRecDepth 65536 in
theorem w_hears : about1.hears theMethod below0 = true := by decide +kernel
set_option maxRecDepth 65536 in
theorem w_ripe : about1.ripe theMethod args0 below0 = true := by decide +kernel
theorem w_running : about1.status = .running := rfl
set_option maxRecDepth 65536 in
theorem w_room : about1.hasRoom e0.platform room_1 = true :=
  launch0.hasRoom_least _ room_1 (by decide +kernel) (by decide +kernel) (by decide +kernel) (by decide +kernel) (by decide +kernel) (by decide +kernel)
theorem allAtoms_all (ts : List Jvm.Cond) (a : Array Jvm.Value) (st : Jvm.State) : (allAtoms ts).before a st = ts.all (fun c => c.before a st) := by
  induction ts with
  | nil => rfl
  | cons c t ih =>
    show (Jvm.Cond.and c (allAtoms t)).before a st = _
    rw [Jvm.Cond.before_and, ih, List.all_cons]
def words1 : List Jvm.Cond := Jvm.Cond.code x code maxLocals ret :: tables_1
/-- a 'code' word, met by the world's own term for the bytes: nothing is compared byte by byte -/
theorem code_word {y : MethodName} {bytes : ByteArray} {mx : Nat} {rt : Option FieldType} {a : Array Value} {s : State} {m : MethodId} {meth : Method} {c : Code} (h1 : s.methodNamed? y = some m) (h2 : s.vm.method? m = some meth) (h3 : meth.code = some c) (h4 : c.code = bytes)
    (h5 : (c.maxLocals == mx && c.exceptionTable.isEmpty && decide (c.maxStack ≤ mostOperands) && decide (meth.sig.returnType = rt) && !meth.locks && decide (parseMethodDescriptor y.desc = some meth.sig)) = true) : (Jvm.Cond.code y bytes mx rt).before a s = true := by
  simp only [Bool.and_eq_true, beq_iff_eq, Bool.not_eq_true', decide_eq_true_eq] at h5
  obtain ⟨⟨⟨⟨⟨g1, g2⟩, g3⟩, g4⟩, g5⟩, g6⟩ := h5
  simp [Cond.before, Cond.holds, Cond.value, h1, h2, h3, h4, g1, g2, g3, g4, g5, g6]
def isCode : Jvm.Cond → Bool
  | .code _ _ _ _ => true
  | _ => false
theorem all_split {L : List Jvm.Cond} {P : Jvm.Cond → Bool} (h1 : L.all (fun c => isCode c || P c) = true) (h2 : ∀ c ∈ L.filter isCode, P c = true) : L.all P = true := by
  refine List.all_eq_true.mpr fun c hc => ?_
  have h := List.all_eq_true.mp h1 c hc
  rcases Bool.eq_false_or_eq_true (isCode c) with hi | hi
  · exact h2 c (List.mem_filter.mpr ⟨hc, hi⟩)
  · simpa [hi] using h
set_option maxRecDepth 65536 in
theorem w_c0 : (Jvm.Cond.code x code maxLocals ret).before args0 about1 = true := code_word (m := ⟨1, 1⟩) (meth := k1m1) (c := k1c1) (by decide +kernel) rfl rfl rfl (by decide +kernel)
set_option maxRecDepth 65536 in
theorem w_c1 : (Jvm.Cond.code ({ cls := "com/example/pledger/pledger/model/MoneyIsAmountPinLaw", name := "check", desc := "(J)Z" } : Jvm.MethodName) method_3_code (3 : Nat) (Option.some Jvm.ClassFile.FieldType.boolean)).before args0 about1 = true := code_word (m := ⟨1, 2⟩) (meth := k1m2) (c := k1c2) (by decide +kernel) rfl rfl rfl (by decide +kernel)
set_option maxRecDepth 65536 in
theorem w_c2 : (Jvm.Cond.code ({ cls := "com/example/pledger/pledger/model/Money", name := "isAmount", desc := "(J)Z" } : Jvm.MethodName) prog_11_method_2_code (2 : Nat) (Option.some Jvm.ClassFile.FieldType.boolean)).before args0 about1 = true := code_word (m := ⟨2, 1⟩) (meth := k2m1) (c := k2c1) (by decide +kernel) rfl rfl rfl (by decide +kernel)
set_option maxRecDepth 65536 in
theorem w_c3 : (Jvm.Cond.code ({ cls := "com/example/pledger/pledger/model/MoneyIsAmountPinLaw", name := "pick", desc := "(JI)J" } : Jvm.MethodName) method_4_code (4 : Nat) (Option.some Jvm.ClassFile.FieldType.long)).before args0 about1 = true := code_word (m := ⟨1, 3⟩) (meth := k1m3) (c := k1c3) (by decide +kernel) rfl rfl rfl (by decide +kernel)
def codes1 : List Jvm.Cond := [Jvm.Cond.code x code maxLocals ret, Jvm.Cond.code ({ cls := "com/example/pledger/pledger/model/MoneyIsAmountPinLaw", name := "check", desc := "(J)Z" } : Jvm.MethodName) method_3_code (3 : Nat) (Option.some Jvm.ClassFile.FieldType.boolean), Jvm.Cond.code ({ cls := "com/example/pledger/pledger/model/Money", name := "isAmount", desc := "(J)Z" } : Jvm.MethodName) prog_11_method_2_code (2 : Nat) (Option.some Jvm.ClassFile.FieldType.boolean), Jvm.Cond.code ({ cls := "com/example/pledger/pledger/model/MoneyIsAmountPinLaw", name := "pick", desc := "(JI)J" } : Jvm.MethodName) method_4_code (4 : Nat) (Option.some Jvm.ClassFile.FieldType.long)]
set_option maxRecDepth 65536 in
theorem codes_eq : words1.filter isCode = codes1 := rfl
theorem w_codes : ∀ c ∈ words1.filter isCode, c.before args0 about1 = true := by
  rw [codes_eq]
  intro c hc
  simp only [codes1, List.mem_cons, List.not_mem_nil, or_false] at hc
  rcases hc with rfl | rfl | rfl | rfl
  · exact w_c0
  · exact w_c1
  · exact w_c2
  · exact w_c3
set_option maxRecDepth 65536 in
theorem w_t1 : words1.all (fun c => isCode c || c.before args0 about1) = true := by decide +kernel
theorem w_tables : (allAtoms (Jvm.Cond.code x code maxLocals ret :: tables_1)).before args0 about1 = true := by
  rw [allAtoms_all]
  show words1.all (fun c => c.before args0 about1) = true
  refine all_split ?_ w_codes
  rw [w_t1]
set_option maxRecDepth 65536 in
theorem w_case : (Jvm.Cond.and given_1 narrow_1).before args0 about1 = true := by decide +kernel
theorem w_applies : (headSpec (Jvm.Cond.code x code maxLocals ret :: tables_1) room_1).applies x e0.platform about1 = true :=
  (Spec.applies_iff w_frames).mpr ⟨w_running, w_runnable, w_alone, w_named, w_hears, w_ripe, w_room, w_tables⟩
theorem atStart : AtStart classFile x code maxLocals ret World_1 tables_1 room_1 Calls_1 rest_1 Pre_1 launch0 p0 e0 about1 theMethod args0 below0 :=
  ⟨lists_1, trivial, launch0.admits_env _ _ _, launch0.least_env, fairChoices_fair.cas, fairChoices_fair.clock, w_frames, w_args, w_heap, w_applies, trivial, trivial, w_case⟩
end start1
theorem witness_1 : WitnessClaimed_1 := ⟨start1.p0, start1.e0, start1.about1, start1.theMethod, start1.args0, start1.below0, start1.atStart⟩
end Jvm.Pilot.@@N@@
