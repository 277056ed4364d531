import JvmDerived
import JvmDerived.Pilot.@@N@@Statement
import JvmDerived.Pilot.@@N@@Code
set_option linter.unusedVariables false
set_option linter.unusedSimpArgs false

namespace Jvm.RoadKit
open Sem ClassFile Op Lib Jvm.Stand Jvm.Free Jvm.LawKit
section New
variable {p : Program} {l : Launch} {e : Env} {R : Room} {s : State} {m : MethodId} {args : Array Value} {below : List Frame} {meth : Method} {c : Code} {T : State} {locs : List Loc} {cells slots : Nat}
theorem own_retI (X : Stand p l e R s m args below meth c T locs cells slots) (hx : p.tables.exec = Jvm.exec) {pc : Nat} {Ls : Array Slot} {z : Int32} {rest : List Value} (hret : meth.sig.returnType = some .int) (hd : decode c.code pc = .ok (.ireturn, 1)) {fs : List Frame}
    (hl : ∀ (f : JFrame) (acts : List Action), f.method = m → f.locked = none → f.entered = [] → (doReturn e (T.setTop f) acts (some (.int z))).1 = T.setFrames fs) : Steps p.tables e below (T.setTop (mkF m pc Ls (.int z :: rest))) (T.setFrames fs) :=
  retOut X hx (t := .int) (w := .int z) (i := .ireturn) hret rfl (Or.inl ⟨rfl, Or.inl rfl, z, rfl⟩) hd hl
end New
end Jvm.RoadKit

namespace Jvm.Pilot.@@N@@
open Jvm Jvm.ClassFile Sem Op Lib Jvm.Free Jvm.Stand Jvm.LawKit Jvm.RoadKit Bundle Jvm.Pilot.@@N@@.Jvm.D

theorem own_g {Z : State} {a0 : Array Value} (hw : ∀ d ∈ tables_1, d.before a0 Z = true) (i : Nat) {d : Jvm.Cond} (h : tables_1[i]? = some d) : d.before a0 Z = true := hw _ (List.mem_of_getElem? h)
/-- from the state T the run comes to an end that F takes -/
def own_Ends (p : Program) (e : Env) (below : List Frame) (F : Outcome → State → Prop) (T : State) : Prop :=
  ∃ s₂ o, Steps p.tables e below T s₂ ∧ s₂.status = .running ∧ Ended s₂ below o ∧ F o s₂
def own_Fin (s : State) (Q : Option Value → Heap → List Loc → Prop) (C S : Nat) (o : Outcome) (U : State) : Prop :=
  ∃ v L, o = .returned v ∧ Q v U.heap L ∧ FrameEnd s o U L C S
theorem own_Sta_keep {Z : State} {h h' : Heap} {C n d : String} {v : Value} {ws : List Addr} (F : Sta Z h C n d v) (K : Keep h h' ws) (q : ∀ x ∈ ws, ∀ c : Cell, h[x]? = some c → c.vm.isStatics = false) : Sta Z h' C n d v := by
  obtain ⟨cf, i, k, f, st, cell, h1, h2, h3, h4, h5, h6, h7⟩ := F
  exact ⟨cf, i, k, f, st, cell, h1, h2, h3, h4, K.2.1 st cell h5 (fun m => by rw [q st m cell h5] at h6; cases h6), h6, h7⟩
theorem own_ns_exa {Z : State} {h : Heap} {a : Addr} {C : String} (F : Exa Z h a C) : ∀ c : Cell, h[a]? = some c → c.vm.isStatics = false := fun c hc => by
  obtain ⟨cell, k, h1, h2, h3, h4, h5⟩ := F
  cases h1.symm.trans hc; exact h4
theorem own_ns_arv {Z : State} {h : Heap} {a : Addr} {k : ClassId} {ty : FieldType} {n : Int32} {vs : List Value} {d : Value} (F : Arv Z h a k ty n vs d) : ∀ c : Cell, h[a]? = some c → c.vm.isStatics = false := fun c hc => by
  obtain ⟨cell, A, r⟩ := F
  cases A.1.symm.trans hc; exact A.plain
section OwnSteps
variable {p : Program} {l : Launch} {e : Env} {R : Room} {s : State} {m : MethodId} {args : Array Value} {below : List Frame} {meth : Method} {c : Code} {T T' : State} {locs : List Loc} {cells slots cells' slots' : Nat} {F : Outcome → State → Prop}
theorem own_step (h : ∀ target, Steps p.tables e below T' target → Steps p.tables e below T target) (k : own_Ends p e below F T') : own_Ends p e below F T := by
  obtain ⟨s₂, o, h1, h2⟩ := k
  exact ⟨s₂, o, h _ h1, h2⟩
theorem own_trans (h : Steps p.tables e below T T') (k : own_Ends p e below F T') : own_Ends p e below F T := by
  obtain ⟨s₂, o, h1, h2⟩ := k
  exact ⟨s₂, o, h.trans h1, h2⟩
theorem own_mono (X : Stand p l e R s m args below meth c T locs cells slots) (h1 : cells ≤ cells') (h2 : slots ≤ slots') : Stand p l e R s m args below meth c T locs cells' slots' :=
  { X with same := X.same.mono h1 h2 }
theorem own_ret {Q : Option Value → Heap → List Loc → Prop} {C S : Nat} {g : JFrame} (X : Stand p l e R s m args below meth c T locs cells slots) {v : Option Value} (hv : meth.sig.returnType = none → v = none) (hlocks : meth.locks = false)
    (st : ∀ fs, (∀ (f : JFrame) (acts : List Action), f.method = m → f.locked = none → f.entered = [] → (doReturn e (T.setTop f) acts v).1 = T.setFrames fs) → Steps p.tables e below (T.setTop g) (T.setFrames fs))
    (h1 : cells ≤ C) (h2 : slots ≤ S) (hQ : Q v T.heap locs) : own_Ends p e below (own_Fin s Q C S) (T.setTop g) := by
  obtain ⟨fs, hr, hrun, hended, hW, hsame⟩ := X.leave (v := v) hv hlocks
  exact ⟨_, _, st fs hr, hrun, hended, _, _, rfl, hQ, ⟨_, rfl⟩, hW, hsame.mono h1 h2⟩
def own_FinW (s : State) (Q : Option Value → Heap → List Loc → Prop) (C S : Nat) (o : Outcome) (U : State) : Prop :=
  ∃ v L, o = .returned v ∧ Q v U.heap L ∧ ReturnedEndW s o U L C S
theorem own_retW {vm : Vm} {k : Nat} {Q : Option Value → Heap → List Loc → Prop} {C S : Nat} {g : JFrame} (X : Stand p l e R (s.setVm vm) m args below meth c T locs cells slots) (hS : s.Since vm k) (hk : k ≤ T.heap.size) {v : Option Value} (hv : meth.sig.returnType = none → v = none) (hlocks : meth.locks = false)
    (st : ∀ fs, (∀ (f : JFrame) (acts : List Action), f.method = m → f.locked = none → f.entered = [] → (doReturn e (T.setTop f) acts v).1 = T.setFrames fs) → Steps p.tables e below (T.setTop g) (T.setFrames fs))
    (h1 : cells ≤ C) (h2 : slots ≤ S) (hQ : Q v T.heap locs) : own_Ends p e below (own_FinW s Q C S) (T.setTop g) := by
  obtain ⟨fs, hr, hrun, hended, a, b, c', d'⟩ := X.leaveW hS hk (v := v) hv hlocks
  exact ⟨_, _, st fs hr, hrun, hended, _, _, rfl, hQ, a, b, c', d'.mono h1 h2⟩
theorem own_warm {Z : State} {vm0 vm1 : Vm} {k : Nat} (hZ : Z.Warmed39 vm0) (hS : (s.setVm vm0).Since vm1 k) : Z.Warmed39 vm1 := State.Warmed39.trans (t := s.setVm vm0) hZ hS.1
theorem own_find {vm0 vm1 : Vm} {k : Nat} {own : String} {c0 : ClassId} (h : vm0.findClass own = some c0) (hS : (s.setVm vm0).Since vm1 k) : vm1.findClass own = some c0 := by
  rw [hS.1.alike.findClass]; exact h
def own_FinH (Z : State) (EL : List (String × Nat)) (s : State) (Q : Option Value → Heap → List Loc → Prop) (C S : Nat) (o : Outcome) (U : State) : Prop :=
  ∃ v L, o = .returned v ∧ Q v U.heap L ∧ CHr Z EL s.vm s.heap U.vm U.heap ∧ ReturnedEndW s o U L C S
theorem own_retH {Z : State} {a0 : Array Value} {EL : List (String × Nat)} {vm : Vm} {k : Nat} {h0 h : Heap} {Q : Option Value → Heap → List Loc → Prop} {C S : Nat} {g : JFrame} (X : Stand p l e R (s.setVm vm) m args below meth c T locs cells slots) (hS : s.Since vm k) (hk : k ≤ T.heap.size) (hh : s.heap = h0) (eT : T.heap = h) (hZ : Z.Warmed39 vm) (hEL : EW Z a0 EL) (hC : CHr Z EL s.vm h0 vm h) {v : Option Value} (hv : meth.sig.returnType = none → v = none) (hlocks : meth.locks = false)
    (st : ∀ fs, (∀ (f : JFrame) (acts : List Action), f.method = m → f.locked = none → f.entered = [] → (doReturn e (T.setTop f) acts v).1 = T.setFrames fs) → Steps p.tables e below (T.setTop g) (T.setFrames fs))
    (h1 : cells ≤ C) (h2 : slots ≤ S) (hQ : Q v T.heap locs) : own_Ends p e below (own_FinH Z EL s Q C S) (T.setTop g) := by
  obtain ⟨fs, hr, hrun, hended, a, b, c', d'⟩ := X.leaveW hS hk (v := v) hv hlocks
  have q : CHr Z EL s.vm s.heap T.vm T.heap := by
    rw [hh, eT]; exact hC.trans (CHv.at X hZ hEL hC.1)
  exact ⟨_, _, st fs hr, hrun, hended, _, _, rfl, hQ, q, a, b, c', d'.mono h1 h2⟩
def own_SL (Z : State) (EL : List (String × Nat)) (vm : Vm) (h : Heap) (x : Addr) : Prop := x < h.size ∧ Safe Z EL vm h x
theorem own_SL.go {Z : State} {EL : List (String × Nat)} {vm vm1 : Vm} {h h' : Heap} {x : Addr} (F : own_SL Z EL vm h x) (A : CHr Z EL vm h vm1 h') : own_SL Z EL vm1 h' x := ⟨Nat.lt_of_lt_of_le F.1 A.2.1, A.safe F.1 F.2⟩
theorem own_SL.born {Z : State} {EL : List (String × Nat)} {vm : Vm} {h h' : Heap} {x : Addr} (H : CHv Z EL vm h) (E : Ext h h') (g : x = h.size) (lt : x < h'.size) : own_SL Z EL vm h' x := ⟨lt, Safe.ext E H (Safe.new (Nat.le_of_eq g.symm))⟩
end OwnSteps

def own_inh (x : Int32) : Int32 := if (x &&& 4) = 0 then 0 else 1
theorem own_bits (P : Bool → Bool → Bool → Bool) (x m r : BitVec 32) (f : BitVec 32) (h : ∀ i, f.getLsbD i = P (x.getLsbD i) (m.getLsbD i) (r.getLsbD i)) (g : ∀ i, P (x.getLsbD i) (m.getLsbD i) (r.getLsbD i) = r.getLsbD i) : f = r :=
  BitVec.eq_of_getLsbD_eq fun i _ => (h i).trans (g i)
theorem own_or4 (x : Int32) : (x ||| 4) &&& 4 = 4 := by
  apply Int32.toBitVec_inj.mp
  rw [Int32.toBitVec_and, Int32.toBitVec_or]
  apply BitVec.eq_of_getLsbD_eq
  intro i _
  rw [BitVec.getLsbD_and, BitVec.getLsbD_or]
  cases x.toBitVec.getLsbD i <;> cases (4 : Int32).toBitVec.getLsbD i <;> rfl
theorem own_and4 (x : Int32) : (x &&& -5) &&& 4 = 0 := by
  rw [Int32.and_assoc, show (-5 : Int32) &&& 4 = 0 from by decide, Int32.and_zero]
theorem own_in1 (x : Int32) : ¬ own_inh (x ||| 4) = 0 := by
  unfold own_inh
  rw [own_or4, if_neg (by decide)]; decide
theorem own_in0 (x : Int32) : own_inh (x &&& -5) = 0 := by
  unfold own_inh
  rw [own_and4, if_pos rfl]
theorem own_m3 (x : Int32) : x &&& 3 = 0 ∨ x &&& 3 = 1 ∨ x &&& 3 = 2 ∨ x &&& 3 = 3 := by
  have h := c_mask x 3 2 (by decide) (by decide)
  have e : ∀ k : Int32, (x &&& 3).toInt = k.toInt → x &&& 3 = k := fun k q => Int32.toInt_inj.mp q
  have p : ((2 ^ 2 : Nat) : Int) = 4 := rfl
  rw [p] at h
  have h4 : x.toInt % 4 = 0 ∨ x.toInt % 4 = 1 ∨ x.toInt % 4 = 2 ∨ x.toInt % 4 = 3 := by omega
  rcases h4 with q | q | q | q <;> rw [q] at h
  · exact Or.inl (e 0 h)
  · exact Or.inr (Or.inl (e 1 h))
  · exact Or.inr (Or.inr (Or.inl (e 2 h)))
  · exact Or.inr (Or.inr (Or.inr (e 3 h)))

theorem d1_0 : decode prog_41_method_6_code 0 = .ok (.aload_n 0, 1) := by decide +kernel
theorem d1_1 : decode prog_41_method_6_code 1 = .ok (.iload_n 1, 1) := by decide +kernel
theorem d1_2 : decode prog_41_method_6_code 2 = .ok (.iaload, 1) := by decide +kernel
theorem d1_3 : decode prog_41_method_6_code 3 = .ok (.iconst 4, 1) := by decide +kernel
theorem d1_4 : decode prog_41_method_6_code 4 = .ok (.iand, 1) := by decide +kernel
theorem d1_5 : decode prog_41_method_6_code 5 = .ok (.ifCond .eq 7, 3) := by decide +kernel
theorem d1_8 : decode prog_41_method_6_code 8 = .ok (.iconst 1, 1) := by decide +kernel
theorem d1_9 : decode prog_41_method_6_code 9 = .ok (.goto 4, 3) := by decide +kernel
theorem d1_12 : decode prog_41_method_6_code 12 = .ok (.iconst 0, 1) := by decide +kernel
theorem d1_13 : decode prog_41_method_6_code 13 = .ok (.ireturn, 1) := by decide +kernel
theorem pn_com_example_entitlement_entitlement_service_AclCode : plainName "com/example/entitlement/entitlement/service/AclCode" = true := by first | (simp [plainName, overriddenIn]; done) | decide +kernel
theorem ef_rm1 (m : MethodId) (x0 : Addr) (x1 : Int32) : entryFrame m #[(.ref x0), (.int x1)] 2 = mkF m 0 #[.val (.ref x0), .val (.int x1)] [] := by first | (simp [entryFrame, mkF, argsToLocals, Value.category, maxLocals]; done) | rfl
def Q1 (Z : State) (a : Addr) (j : Int32) (k : ClassId) (z : Int32) (vs : List Value) (dv : Value) (y : Int32) (h0 : Heap) (n0 : Nat) (v : Option Value) (h : Heap) (L : List Loc) : Prop := v = some (.int (own_inh y)) ∧ Fr n0 L ∧ h = h0
set_option maxRecDepth 65536 in
set_option maxHeartbeats 40000000 in
theorem rm1 (l : Launch) (Z : State) (a0 : Array Value) (hw : ∀ d ∈ tables_1, d.before a0 Z = true) (ws : List Jvm.Cond) (a : Addr) (j : Int32) (k : ClassId) (z : Int32) (vs : List Value) (dv : Value) (y : Int32) (h0 : Heap) (n0 : Nat) (Z0 : n0 ≤ h0.size) (V1 : Arv Z h0 a k .int z vs dv) (hj : ¬ j < 0 ∧ j < z) (ha : vs.getD j.toNatClampNeg dv = .int y) :
    MetFree l (⟨"com/example/entitlement/entitlement/service/AclCode", "inherits", "([II)Z"⟩ : MethodName) (head1 (Jvm.Cond.code (⟨"com/example/entitlement/entitlement/service/AclCode", "inherits", "([II)Z"⟩ : MethodName) prog_41_method_6_code 2 (some .boolean) :: ws) ({ frames := 0, cells := 0, slots := 0, locals := 0 } : Room)) (fun ar U => ar = #[(.ref a), (.int j)] ∧ Z.Warmed39 U.vm ∧ U.heap = h0) (fun _ _ _ _ _ => True) (fun _ U o U' => ∃ v L, o = .returned v ∧ Q1 Z a j k z vs dv y h0 n0 v U'.heap L ∧ FrameEnd U o U' L ({ frames := 0, cells := 0, slots := 0, locals := 0 } : Room).cells ({ frames := 0, cells := 0, slots := 0, locals := 0 } : Room).slots) := by
  refine MetFree.of_bodySF (plainFor_of_name pn_com_example_entitlement_entitlement_service_AclCode) hisR ?_
  intro p e s m args below meth c s₁ Bd hml0 hP hK
  obtain ⟨rfl, hZ, hh⟩ := hP
  have hx := Bd.exec
  have hby := Bd.bytes
  have hml : c.maxLocals = 2 := hml0
  have hown : s.vm.findClass "com/example/entitlement/entitlement/service/AclCode" = some m.cls := findClass_of_methodNamed Bd.named
  have hnm := (name_of_methodNamed Bd.named Bd.method).1
  have X0 : Stand p l e ({ frames := 0, cells := 0, slots := 0, locals := 0 } : Room) s m #[(.ref a), (.int j)] below meth c s₁ [] 0 0 := Stand.of_body Bd
  have e0 : s₁.heap = h0 := by rw [← hh, Bd.state]; rfl
  have N0 := Fr.nil n0
  obtain ⟨F, hF⟩ : ∃ F, F = own_Fin s (Q1 Z a j k z vs dv y h0 n0) ({ frames := 0, cells := 0, slots := 0, locals := 0 } : Room).cells ({ frames := 0, cells := 0, slots := 0, locals := 0 } : Room).slots := ⟨_, rfl⟩
  show own_Ends p e below (own_Fin s (Q1 Z a j k z vs dv y h0 n0) ({ frames := 0, cells := 0, slots := 0, locals := 0 } : Room).cells ({ frames := 0, cells := 0, slots := 0, locals := 0 } : Room).slots) _
  rw [← hF, ef_rm1 m a j]
  show own_Ends p e below F (s₁.setTop (mkF m 0 #[.val (.ref a), .val (.int j)] []))
  refine own_step (fun _ k => XS.aloadN X0.here hx rfl (hb hby d1_0) rfl rfl k) ?_
  show own_Ends p e below F (s₁.setTop (mkF m 1 #[.val (.ref a), .val (.int j)] [(.ref a)]))
  refine own_step (fun _ k => XS.iloadN X0.here hx rfl (hb hby d1_1) rfl k) ?_
  show own_Ends p e below F (s₁.setTop (mkF m 2 #[.val (.ref a), .val (.int j)] [(.int j), (.ref a)]))
  obtain ⟨cl1, Ar1, q1, S1, M1, H1, G1⟩ := V1
  have hin1 : ¬ (j < 0 ∨ cl1.slots.size ≤ (j : Int32).toNatClampNeg) := inb_of S1 hj
  refine own_step (X0.iaload hx (j := j) (v := (.int y)) (by rw [e0]; exact Ar1.1) (State.isArrayOf_alike hZ.alike Ar1.2.1) Ar1.2.2 hin1 (Has.at H1 hin1 ha) (g := (mkF m 2 #[.val (.ref a), .val (.int j)] [(.int j), (.ref a)])) rfl rfl (hb hby d1_2)) ?_
  show own_Ends p e below F (s₁.setTop (mkF m 3 #[.val (.ref a), .val (.int j)] [(.int y)]))
  refine own_step (fun _ k => XS.iconst X0.here hx rfl (hb hby d1_3) k) ?_
  show own_Ends p e below F (s₁.setTop (mkF m 4 #[.val (.ref a), .val (.int j)] [(.int (4 : Int32)), (.int y)]))
  refine own_step (fun _ k => XS.iand X0.here hx rfl (hb hby d1_4) rfl k) ?_
  show own_Ends p e below F (s₁.setTop (mkF m 5 #[.val (.ref a), .val (.int j)] [(.int (y &&& (4 : Int32)))]))
  by_cases c5_2 : (y &&& (4 : Int32)) = (0 : Int32)
  · refine own_step (fun _ k => XS.ifYes X0.here hx rfl (pc0 := 5) (pc' := 12) rfl (hb hby d1_5) rfl ((if0 _ _).trans (teq c5_2).1) (by decide) (by decide) k) ?_
    show own_Ends p e below F (s₁.setTop (mkF m 12 #[.val (.ref a), .val (.int j)] []))
    refine own_step (fun _ k => XS.iconst X0.here hx rfl (hb hby d1_12) k) ?_
    show own_Ends p e below F (s₁.setTop (mkF m 13 #[.val (.ref a), .val (.int j)] [(.int (0 : Int32))]))
    rw [hF]
    exact own_ret X0 (v := (some (.int (nar .boolean (0 : Int32))))) (fun h => by rw [Bd.returns] at h; cases h) Bd.notSynchronized (fun fs hr => retN X0 hx (t := .boolean) Bd.returns (by simp) (hb hby d1_13) hr) (by decide) (by decide) (by rw [e0]; exact ⟨by simp only [own_inh, c5_2, if_true, if_false]; first | done | rfl, N0, rfl⟩)
  · refine own_step (fun _ k => XS.ifNo X0.here hx rfl (hb hby d1_5) rfl ((if0 _ _).trans (feq c5_2).1) k) ?_
    show own_Ends p e below F (s₁.setTop (mkF m 8 #[.val (.ref a), .val (.int j)] []))
    refine own_step (fun _ k => XS.iconst X0.here hx rfl (hb hby d1_8) k) ?_
    show own_Ends p e below F (s₁.setTop (mkF m 9 #[.val (.ref a), .val (.int j)] [(.int (1 : Int32))]))
    refine own_step (fun _ k => XS.goto X0.here hx rfl (pc0 := 9) (pc' := 13) rfl (hb hby d1_9) (by decide) (by decide) k) ?_
    show own_Ends p e below F (s₁.setTop (mkF m 13 #[.val (.ref a), .val (.int j)] [(.int (1 : Int32))]))
    rw [hF]
    exact own_ret X0 (v := (some (.int (nar .boolean (1 : Int32))))) (fun h => by rw [Bd.returns] at h; cases h) Bd.notSynchronized (fun fs hr => retN X0 hx (t := .boolean) Bd.returns (by simp) (hb hby d1_13) hr) (by decide) (by decide) (by rw [e0]; exact ⟨by simp only [own_inh, c5_2, if_true, if_false]; first | done | rfl, N0, rfl⟩)

theorem pn_com_example_entitlement_entitlement_service_AclCodeInheritsPinLaw : plainName "com/example/entitlement/entitlement/service/AclCodeInheritsPinLaw" = true := by first | (simp [plainName, overriddenIn]; done) | decide +kernel
theorem pd__28_5bII_29Z : parseMethodDescriptor "([II)Z" = some ⟨[(.array .int), .int], some .boolean⟩ := by decide +kernel
theorem ef_rm0 (m : MethodId) (x0 : Int32) (x1 : Int32) (x2 : Int32) : entryFrame m #[(.int x0), (.int x1), (.int x2)] maxLocals = mkF m 0 #[.val (.int x0), .val (.int x1), .val (.int x2), .unset, .unset, .unset, .unset, .unset, .unset, .unset] [] := by first | (simp [entryFrame, mkF, argsToLocals, Value.category, maxLocals]; done) | rfl
def Q0 (Z : State) (p1 p2 p3 : Int32) (h0 : Heap) (n0 : Nat) (v : Option Value) (h : Heap) (L : List Loc) : Prop := v = some (.int 1) ∧ Fr n0 L
set_option maxRecDepth 65536 in
set_option maxHeartbeats 40000000 in
theorem rm0 (l : Launch) (Z : State) (a0 : Array Value) (hw : ∀ d ∈ tables_1, d.before a0 Z = true) (ws : List Jvm.Cond) (p1 p2 p3 : Int32) (h0 : Heap) (n0 : Nat) (Z0 : n0 ≤ h0.size)  :
    MetFree l x (head1 (Jvm.Cond.code x code maxLocals ret :: ws) room_1) (fun ar U => ar = #[(.int p1), (.int p2), (.int p3)] ∧ Z.Warmed39 U.vm ∧ U.heap = h0) (fun _ _ _ _ _ => True) (fun _ U o U' => ∃ v L, o = .returned v ∧ Q0 Z p1 p2 p3 h0 n0 v U'.heap L ∧ FrameEnd U o U' L room_1.cells room_1.slots) := by
  refine MetFree.of_bodySF (plainFor_of_name pn_com_example_entitlement_entitlement_service_AclCodeInheritsPinLaw) hisR ?_
  intro p e s m args below meth c s₁ Bd hml0 hP hK
  obtain ⟨rfl, hZ, hh⟩ := hP
  have hx := Bd.exec
  have hby := Bd.bytes
  have hml : c.maxLocals = 10 := hml0
  have hown : s.vm.findClass "com/example/entitlement/entitlement/service/AclCodeInheritsPinLaw" = some m.cls := findClass_of_methodNamed Bd.named
  have hnm := (name_of_methodNamed Bd.named Bd.method).1
  have X0 : Stand p l e room_1 s m #[(.int p1), (.int p2), (.int p3)] below meth c s₁ [] 0 0 := Stand.of_body Bd
  have e0 : s₁.heap = h0 := by rw [← hh, Bd.state]; rfl
  have N0 := Fr.nil n0
  obtain ⟨F, hF⟩ : ∃ F, F = own_Fin s (Q0 Z p1 p2 p3 h0 n0) room_1.cells room_1.slots := ⟨_, rfl⟩
  show own_Ends p e below (own_Fin s (Q0 Z p1 p2 p3 h0 n0) room_1.cells room_1.slots) _
  rw [← hF, ef_rm0 m p1 p2 p3]
  show own_Ends p e below F (s₁.setTop (mkF m 0 #[.val (.int p1), .val (.int p2), .val (.int p3), .unset, .unset, .unset, .unset, .unset, .unset, .unset] []))
  refine own_step (fun _ k => XS.iloadN X0.here hx rfl (hb hby at_0) rfl k) ?_
  show own_Ends p e below F (s₁.setTop (mkF m 1 #[.val (.int p1), .val (.int p2), .val (.int p3), .unset, .unset, .unset, .unset, .unset, .unset, .unset] [(.int p3)]))
  refine own_step (fun _ k => XS.iconst X0.here hx rfl (hb hby at_1) k) ?_
  show own_Ends p e below F (s₁.setTop (mkF m 2 #[.val (.int p1), .val (.int p2), .val (.int p3), .unset, .unset, .unset, .unset, .unset, .unset, .unset] [(.int (3 : Int32)), (.int p3)]))
  refine own_step (fun _ k => XS.iand X0.here hx rfl (hb hby at_2) rfl k) ?_
  show own_Ends p e below F (s₁.setTop (mkF m 3 #[.val (.int p1), .val (.int p2), .val (.int p3), .unset, .unset, .unset, .unset, .unset, .unset, .unset] [(.int (p3 &&& (3 : Int32)))]))
  refine own_step (fun _ k => XS.istoreN X0.here hx rfl (hb hby at_3) rfl (l' := #[.val (.int p1), .val (.int p2), .val (.int p3), .val (.int (p3 &&& (3 : Int32))), .unset, .unset, .unset, .unset, .unset, .unset]) rfl k) ?_
  show own_Ends p e below F (s₁.setTop (mkF m 4 #[.val (.int p1), .val (.int p2), .val (.int p3), .val (.int (p3 &&& (3 : Int32))), .unset, .unset, .unset, .unset, .unset, .unset] []))
  rcases own_m3 p3 with q | q | q | q
  · rw [q]
    show own_Ends p e below F (s₁.setTop (mkF m 4 #[.val (.int p1), .val (.int p2), .val (.int p3), .val (.int (0 : Int32)), .unset, .unset, .unset, .unset, .unset, .unset] []))
    refine own_step (fun _ k => XS.iloadN X0.here hx rfl (hb hby at_4) rfl k) ?_
    show own_Ends p e below F (s₁.setTop (mkF m 5 #[.val (.int p1), .val (.int p2), .val (.int p3), .val (.int (0 : Int32)), .unset, .unset, .unset, .unset, .unset, .unset] [(.int p2)]))
    refine own_step (fun _ k => XS.bipush X0.here hx rfl (hb hby at_5) k) ?_
    show own_Ends p e below F (s₁.setTop (mkF m 7 #[.val (.int p1), .val (.int p2), .val (.int p3), .val (.int (0 : Int32)), .unset, .unset, .unset, .unset, .unset, .unset] [(.int (-5 : Int32)), (.int p2)]))
    refine own_step (fun _ k => XS.iand X0.here hx rfl (hb hby at_7) rfl k) ?_
    show own_Ends p e below F (s₁.setTop (mkF m 8 #[.val (.int p1), .val (.int p2), .val (.int p3), .val (.int (0 : Int32)), .unset, .unset, .unset, .unset, .unset, .unset] [(.int (p2 &&& (-5 : Int32)))]))
    refine own_step (fun _ k => XS.istore X0.here hx rfl (hb hby at_8) rfl (l' := #[.val (.int p1), .val (.int p2), .val (.int p3), .val (.int (0 : Int32)), .val (.int (p2 &&& (-5 : Int32))), .unset, .unset, .unset, .unset, .unset]) rfl k) ?_
    show own_Ends p e below F (s₁.setTop (mkF m 10 #[.val (.int p1), .val (.int p2), .val (.int p3), .val (.int (0 : Int32)), .val (.int (p2 &&& (-5 : Int32))), .unset, .unset, .unset, .unset, .unset] []))
    refine own_step (fun _ k => XS.iloadN X0.here hx rfl (hb hby at_10) rfl k) ?_
    show own_Ends p e below F (s₁.setTop (mkF m 11 #[.val (.int p1), .val (.int p2), .val (.int p3), .val (.int (0 : Int32)), .val (.int (p2 &&& (-5 : Int32))), .unset, .unset, .unset, .unset, .unset] [(.int p2)]))
    refine own_step (fun _ k => XS.iconst X0.here hx rfl (hb hby at_11) k) ?_
    show own_Ends p e below F (s₁.setTop (mkF m 12 #[.val (.int p1), .val (.int p2), .val (.int p3), .val (.int (0 : Int32)), .val (.int (p2 &&& (-5 : Int32))), .unset, .unset, .unset, .unset, .unset] [(.int (4 : Int32)), (.int p2)]))
    refine own_step (fun _ k => XS.ior X0.here hx rfl (hb hby at_12) rfl k) ?_
    show own_Ends p e below F (s₁.setTop (mkF m 13 #[.val (.int p1), .val (.int p2), .val (.int p3), .val (.int (0 : Int32)), .val (.int (p2 &&& (-5 : Int32))), .unset, .unset, .unset, .unset, .unset] [(.int (p2 ||| (4 : Int32)))]))
    refine own_step (fun _ k => XS.istore X0.here hx rfl (hb hby at_13) rfl (l' := #[.val (.int p1), .val (.int p2), .val (.int p3), .val (.int (0 : Int32)), .val (.int (p2 &&& (-5 : Int32))), .val (.int (p2 ||| (4 : Int32))), .unset, .unset, .unset, .unset]) rfl k) ?_
    show own_Ends p e below F (s₁.setTop (mkF m 15 #[.val (.int p1), .val (.int p2), .val (.int p3), .val (.int (0 : Int32)), .val (.int (p2 &&& (-5 : Int32))), .val (.int (p2 ||| (4 : Int32))), .unset, .unset, .unset, .unset] []))
    refine own_step (fun _ k => XS.iconst X0.here hx rfl (hb hby at_15) k) ?_
    show own_Ends p e below F (s₁.setTop (mkF m 16 #[.val (.int p1), .val (.int p2), .val (.int p3), .val (.int (0 : Int32)), .val (.int (p2 &&& (-5 : Int32))), .val (.int (p2 ||| (4 : Int32))), .unset, .unset, .unset, .unset] [(.int (4 : Int32))]))
    obtain ⟨T1, h1, k1, X1, e1, E1, A1, st1⟩ := newP X0 hx hZ (own_g hw 0 rfl) e0 (g := (mkF m 16 #[.val (.int p1), .val (.int p2), .val (.int p3), .val (.int (0 : Int32)), .val (.int (p2 &&& (-5 : Int32))), .val (.int (p2 ||| (4 : Int32))), .unset, .unset, .unset, .unset] [(.int (4 : Int32))])) rfl (hb hby at_16) rfl (by decide) (cap := 4) (by decide) (by decide) (by decide) (by decide)
    obtain ⟨a1, g1⟩ : ∃ z, z = h0.size := ⟨_, rfl⟩
    rw [← g1] at A1 st1
    have ge_a1 : n0 ≤ a1 := Nat.le_trans Z0 (Nat.le_of_eq g1.symm)
    have sz_a1 : h0.size ≤ a1 := Nat.le_trans (Nat.le_refl h0.size) (Nat.le_of_eq g1.symm)
    have Z1 : n0 ≤ h1.size := Nat.le_trans Z0 E1.1
    have SZ1 : h0.size ≤ h1.size := Nat.le_trans (Nat.le_refl h0.size) E1.1
    have V1 : Arv Z h1 a1 k1 .int (4 : Int32) [(.int (0 : Int32)), (.int (0 : Int32)), (.int (0 : Int32)), (.int (0 : Int32))] (.int (0 : Int32)) := Arv.pad (Arv.new A1 (by decide)) (pad_rep [] _ 4)
    refine own_step st1 ?_
    show own_Ends p e below F (T1.setTop (mkF m 18 #[.val (.int p1), .val (.int p2), .val (.int p3), .val (.int (0 : Int32)), .val (.int (p2 &&& (-5 : Int32))), .val (.int (p2 ||| (4 : Int32))), .unset, .unset, .unset, .unset] [(.ref a1)]))
    refine own_step (fun _ k => XS.astore X1.here hx rfl (hb hby at_18) rfl rfl (l' := #[.val (.int p1), .val (.int p2), .val (.int p3), .val (.int (0 : Int32)), .val (.int (p2 &&& (-5 : Int32))), .val (.int (p2 ||| (4 : Int32))), .val (.ref a1), .unset, .unset, .unset]) rfl k) ?_
    show own_Ends p e below F (T1.setTop (mkF m 20 #[.val (.int p1), .val (.int p2), .val (.int p3), .val (.int (0 : Int32)), .val (.int (p2 &&& (-5 : Int32))), .val (.int (p2 ||| (4 : Int32))), .val (.ref a1), .unset, .unset, .unset] []))
    refine own_step (fun _ k => XS.iconst X1.here hx rfl (hb hby at_20) k) ?_
    show own_Ends p e below F (T1.setTop (mkF m 21 #[.val (.int p1), .val (.int p2), .val (.int p3), .val (.int (0 : Int32)), .val (.int (p2 &&& (-5 : Int32))), .val (.int (p2 ||| (4 : Int32))), .val (.ref a1), .unset, .unset, .unset] [(.int (4 : Int32))]))
    obtain ⟨T2, h2, k2, X2, e2, E2, A2, st2⟩ := newP X1 hx hZ (own_g hw 0 rfl) e1 (g := (mkF m 21 #[.val (.int p1), .val (.int p2), .val (.int p3), .val (.int (0 : Int32)), .val (.int (p2 &&& (-5 : Int32))), .val (.int (p2 ||| (4 : Int32))), .val (.ref a1), .unset, .unset, .unset] [(.int (4 : Int32))])) rfl (hb hby at_21) rfl (by decide) (cap := 4) (by decide) (by decide) (by decide) (by decide)
    obtain ⟨a2, g2⟩ : ∃ z, z = h1.size := ⟨_, rfl⟩
    rw [← g2] at A2 st2
    have ge_a2 : n0 ≤ a2 := Nat.le_trans Z1 (Nat.le_of_eq g2.symm)
    have sz_a2 : h0.size ≤ a2 := Nat.le_trans SZ1 (Nat.le_of_eq g2.symm)
    have ne_a1_a2 : a1 ≠ a2 := Nat.ne_of_lt (by rw [g2]; exact V1.lt)
    have Z2 : n0 ≤ h2.size := Nat.le_trans Z1 E2.1
    have SZ2 : h0.size ≤ h2.size := Nat.le_trans SZ1 E2.1
    have V2 : Arv Z h2 a2 k2 .int (4 : Int32) [(.int (0 : Int32)), (.int (0 : Int32)), (.int (0 : Int32)), (.int (0 : Int32))] (.int (0 : Int32)) := Arv.pad (Arv.new A2 (by decide)) (pad_rep [] _ 4)
    refine own_step st2 ?_
    show own_Ends p e below F (T2.setTop (mkF m 23 #[.val (.int p1), .val (.int p2), .val (.int p3), .val (.int (0 : Int32)), .val (.int (p2 &&& (-5 : Int32))), .val (.int (p2 ||| (4 : Int32))), .val (.ref a1), .unset, .unset, .unset] [(.ref a2)]))
    refine own_step (fun _ k => XS.astore X2.here hx rfl (hb hby at_23) rfl rfl (l' := #[.val (.int p1), .val (.int p2), .val (.int p3), .val (.int (0 : Int32)), .val (.int (p2 &&& (-5 : Int32))), .val (.int (p2 ||| (4 : Int32))), .val (.ref a1), .val (.ref a2), .unset, .unset]) rfl k) ?_
    show own_Ends p e below F (T2.setTop (mkF m 25 #[.val (.int p1), .val (.int p2), .val (.int p3), .val (.int (0 : Int32)), .val (.int (p2 &&& (-5 : Int32))), .val (.int (p2 ||| (4 : Int32))), .val (.ref a1), .val (.ref a2), .unset, .unset] []))
    refine own_step (fun _ k => XS.aload X2.here hx rfl (hb hby at_25) rfl rfl k) ?_
    show own_Ends p e below F (T2.setTop (mkF m 27 #[.val (.int p1), .val (.int p2), .val (.int p3), .val (.int (0 : Int32)), .val (.int (p2 &&& (-5 : Int32))), .val (.int (p2 ||| (4 : Int32))), .val (.ref a1), .val (.ref a2), .unset, .unset] [(.ref a1)]))
    refine own_step (fun _ k => XS.iconst X2.here hx rfl (hb hby at_27) k) ?_
    show own_Ends p e below F (T2.setTop (mkF m 28 #[.val (.int p1), .val (.int p2), .val (.int p3), .val (.int (0 : Int32)), .val (.int (p2 &&& (-5 : Int32))), .val (.int (p2 ||| (4 : Int32))), .val (.ref a1), .val (.ref a2), .unset, .unset] [(.int (0 : Int32)), (.ref a1)]))
    refine own_step (fun _ k => XS.iload X2.here hx rfl (hb hby at_28) rfl k) ?_
    show own_Ends p e below F (T2.setTop (mkF m 30 #[.val (.int p1), .val (.int p2), .val (.int p3), .val (.int (0 : Int32)), .val (.int (p2 &&& (-5 : Int32))), .val (.int (p2 ||| (4 : Int32))), .val (.ref a1), .val (.ref a2), .unset, .unset] [(.int (p2 &&& (-5 : Int32))), (.int (0 : Int32)), (.ref a1)]))
    obtain ⟨cl3, Ar3, q3, S3, M3, H3, G3⟩ := (V1.ext E2)
    have hin3 : ¬ ((0 : Int32) < 0 ∨ cl3.slots.size ≤ ((0 : Int32) : Int32).toNatClampNeg) := inb_of S3 ⟨by decide, by decide⟩
    obtain ⟨T3, h3, X3, e3, W3, st3⟩ := stI X2 hx hZ e2 Ar3 (j := (0 : Int32)) hin3 (g := (mkF m 30 #[.val (.int p1), .val (.int p2), .val (.int p3), .val (.int (0 : Int32)), .val (.int (p2 &&& (-5 : Int32))), .val (.int (p2 ||| (4 : Int32))), .val (.ref a1), .val (.ref a2), .unset, .unset] [(.int (p2 &&& (-5 : Int32))), (.int (0 : Int32)), (.ref a1)])) rfl rfl (hb hby at_30)
    have V3 := Arv.set Ar3 q3 S3 M3 H3 G3 rfl W3 0 rfl (Nat.le_of_ble_eq_true rfl)
    have V3 : Arv Z h3 a1 k1 .int (4 : Int32) [(.int (p2 &&& (-5 : Int32))), (.int (0 : Int32)), (.int (0 : Int32)), (.int (0 : Int32))] (.int (0 : Int32)) := V3
    refine own_step st3 ?_
    have N3 := Fr.snoc X3 N0 ge_a1
    have Z3 : n0 ≤ h3.size := by rw [W3.size]; exact Z2
    have SZ3 : h0.size ≤ h3.size := by rw [W3.size]; exact SZ2
    show own_Ends p e below F (T3.setTop (mkF m 31 #[.val (.int p1), .val (.int p2), .val (.int p3), .val (.int (0 : Int32)), .val (.int (p2 &&& (-5 : Int32))), .val (.int (p2 ||| (4 : Int32))), .val (.ref a1), .val (.ref a2), .unset, .unset] []))
    refine own_step (fun _ k => XS.aload X3.here hx rfl (hb hby at_31) rfl rfl k) ?_
    show own_Ends p e below F (T3.setTop (mkF m 33 #[.val (.int p1), .val (.int p2), .val (.int p3), .val (.int (0 : Int32)), .val (.int (p2 &&& (-5 : Int32))), .val (.int (p2 ||| (4 : Int32))), .val (.ref a1), .val (.ref a2), .unset, .unset] [(.ref a1)]))
    refine own_step (fun _ k => XS.iconst X3.here hx rfl (hb hby at_33) k) ?_
    show own_Ends p e below F (T3.setTop (mkF m 34 #[.val (.int p1), .val (.int p2), .val (.int p3), .val (.int (0 : Int32)), .val (.int (p2 &&& (-5 : Int32))), .val (.int (p2 ||| (4 : Int32))), .val (.ref a1), .val (.ref a2), .unset, .unset] [(.int (1 : Int32)), (.ref a1)]))
    refine own_step (fun _ k => XS.iload X3.here hx rfl (hb hby at_34) rfl k) ?_
    show own_Ends p e below F (T3.setTop (mkF m 36 #[.val (.int p1), .val (.int p2), .val (.int p3), .val (.int (0 : Int32)), .val (.int (p2 &&& (-5 : Int32))), .val (.int (p2 ||| (4 : Int32))), .val (.ref a1), .val (.ref a2), .unset, .unset] [(.int (p2 &&& (-5 : Int32))), (.int (1 : Int32)), (.ref a1)]))
    obtain ⟨cl4, Ar4, q4, S4, M4, H4, G4⟩ := V3
    have hin4 : ¬ ((1 : Int32) < 0 ∨ cl4.slots.size ≤ ((1 : Int32) : Int32).toNatClampNeg) := inb_of S4 ⟨by decide, by decide⟩
    obtain ⟨T4, h4, X4, e4, W4, st4⟩ := stI X3 hx hZ e3 Ar4 (j := (1 : Int32)) hin4 (g := (mkF m 36 #[.val (.int p1), .val (.int p2), .val (.int p3), .val (.int (0 : Int32)), .val (.int (p2 &&& (-5 : Int32))), .val (.int (p2 ||| (4 : Int32))), .val (.ref a1), .val (.ref a2), .unset, .unset] [(.int (p2 &&& (-5 : Int32))), (.int (1 : Int32)), (.ref a1)])) rfl rfl (hb hby at_36)
    have V4 := Arv.set Ar4 q4 S4 M4 H4 G4 rfl W4 1 rfl (Nat.le_of_ble_eq_true rfl)
    have V4 : Arv Z h4 a1 k1 .int (4 : Int32) [(.int (p2 &&& (-5 : Int32))), (.int (p2 &&& (-5 : Int32))), (.int (0 : Int32)), (.int (0 : Int32))] (.int (0 : Int32)) := V4
    refine own_step st4 ?_
    have N4 := Fr.snoc X4 N3 ge_a1
    have Z4 : n0 ≤ h4.size := by rw [W4.size]; exact Z3
    have SZ4 : h0.size ≤ h4.size := by rw [W4.size]; exact SZ3
    show own_Ends p e below F (T4.setTop (mkF m 37 #[.val (.int p1), .val (.int p2), .val (.int p3), .val (.int (0 : Int32)), .val (.int (p2 &&& (-5 : Int32))), .val (.int (p2 ||| (4 : Int32))), .val (.ref a1), .val (.ref a2), .unset, .unset] []))
    refine own_step (fun _ k => XS.aload X4.here hx rfl (hb hby at_37) rfl rfl k) ?_
    show own_Ends p e below F (T4.setTop (mkF m 39 #[.val (.int p1), .val (.int p2), .val (.int p3), .val (.int (0 : Int32)), .val (.int (p2 &&& (-5 : Int32))), .val (.int (p2 ||| (4 : Int32))), .val (.ref a1), .val (.ref a2), .unset, .unset] [(.ref a1)]))
    refine own_step (fun _ k => XS.iconst X4.here hx rfl (hb hby at_39) k) ?_
    show own_Ends p e below F (T4.setTop (mkF m 40 #[.val (.int p1), .val (.int p2), .val (.int p3), .val (.int (0 : Int32)), .val (.int (p2 &&& (-5 : Int32))), .val (.int (p2 ||| (4 : Int32))), .val (.ref a1), .val (.ref a2), .unset, .unset] [(.int (2 : Int32)), (.ref a1)]))
    refine own_step (fun _ k => XS.iload X4.here hx rfl (hb hby at_40) rfl k) ?_
    show own_Ends p e below F (T4.setTop (mkF m 42 #[.val (.int p1), .val (.int p2), .val (.int p3), .val (.int (0 : Int32)), .val (.int (p2 &&& (-5 : Int32))), .val (.int (p2 ||| (4 : Int32))), .val (.ref a1), .val (.ref a2), .unset, .unset] [(.int (p2 &&& (-5 : Int32))), (.int (2 : Int32)), (.ref a1)]))
    obtain ⟨cl5, Ar5, q5, S5, M5, H5, G5⟩ := V4
    have hin5 : ¬ ((2 : Int32) < 0 ∨ cl5.slots.size ≤ ((2 : Int32) : Int32).toNatClampNeg) := inb_of S5 ⟨by decide, by decide⟩
    obtain ⟨T5, h5, X5, e5, W5, st5⟩ := stI X4 hx hZ e4 Ar5 (j := (2 : Int32)) hin5 (g := (mkF m 42 #[.val (.int p1), .val (.int p2), .val (.int p3), .val (.int (0 : Int32)), .val (.int (p2 &&& (-5 : Int32))), .val (.int (p2 ||| (4 : Int32))), .val (.ref a1), .val (.ref a2), .unset, .unset] [(.int (p2 &&& (-5 : Int32))), (.int (2 : Int32)), (.ref a1)])) rfl rfl (hb hby at_42)
    have V5 := Arv.set Ar5 q5 S5 M5 H5 G5 rfl W5 2 rfl (Nat.le_of_ble_eq_true rfl)
    have V5 : Arv Z h5 a1 k1 .int (4 : Int32) [(.int (p2 &&& (-5 : Int32))), (.int (p2 &&& (-5 : Int32))), (.int (p2 &&& (-5 : Int32))), (.int (0 : Int32))] (.int (0 : Int32)) := V5
    refine own_step st5 ?_
    have N5 := Fr.snoc X5 N4 ge_a1
    have Z5 : n0 ≤ h5.size := by rw [W5.size]; exact Z4
    have SZ5 : h0.size ≤ h5.size := by rw [W5.size]; exact SZ4
    show own_Ends p e below F (T5.setTop (mkF m 43 #[.val (.int p1), .val (.int p2), .val (.int p3), .val (.int (0 : Int32)), .val (.int (p2 &&& (-5 : Int32))), .val (.int (p2 ||| (4 : Int32))), .val (.ref a1), .val (.ref a2), .unset, .unset] []))
    refine own_step (fun _ k => XS.aload X5.here hx rfl (hb hby at_43) rfl rfl k) ?_
    show own_Ends p e below F (T5.setTop (mkF m 45 #[.val (.int p1), .val (.int p2), .val (.int p3), .val (.int (0 : Int32)), .val (.int (p2 &&& (-5 : Int32))), .val (.int (p2 ||| (4 : Int32))), .val (.ref a1), .val (.ref a2), .unset, .unset] [(.ref a1)]))
    refine own_step (fun _ k => XS.iconst X5.here hx rfl (hb hby at_45) k) ?_
    show own_Ends p e below F (T5.setTop (mkF m 46 #[.val (.int p1), .val (.int p2), .val (.int p3), .val (.int (0 : Int32)), .val (.int (p2 &&& (-5 : Int32))), .val (.int (p2 ||| (4 : Int32))), .val (.ref a1), .val (.ref a2), .unset, .unset] [(.int (3 : Int32)), (.ref a1)]))
    refine own_step (fun _ k => XS.iload X5.here hx rfl (hb hby at_46) rfl k) ?_
    show own_Ends p e below F (T5.setTop (mkF m 48 #[.val (.int p1), .val (.int p2), .val (.int p3), .val (.int (0 : Int32)), .val (.int (p2 &&& (-5 : Int32))), .val (.int (p2 ||| (4 : Int32))), .val (.ref a1), .val (.ref a2), .unset, .unset] [(.int (p2 &&& (-5 : Int32))), (.int (3 : Int32)), (.ref a1)]))
    obtain ⟨cl6, Ar6, q6, S6, M6, H6, G6⟩ := V5
    have hin6 : ¬ ((3 : Int32) < 0 ∨ cl6.slots.size ≤ ((3 : Int32) : Int32).toNatClampNeg) := inb_of S6 ⟨by decide, by decide⟩
    obtain ⟨T6, h6, X6, e6, W6, st6⟩ := stI X5 hx hZ e5 Ar6 (j := (3 : Int32)) hin6 (g := (mkF m 48 #[.val (.int p1), .val (.int p2), .val (.int p3), .val (.int (0 : Int32)), .val (.int (p2 &&& (-5 : Int32))), .val (.int (p2 ||| (4 : Int32))), .val (.ref a1), .val (.ref a2), .unset, .unset] [(.int (p2 &&& (-5 : Int32))), (.int (3 : Int32)), (.ref a1)])) rfl rfl (hb hby at_48)
    have V6 := Arv.set Ar6 q6 S6 M6 H6 G6 rfl W6 3 rfl (Nat.le_of_ble_eq_true rfl)
    have V6 : Arv Z h6 a1 k1 .int (4 : Int32) [(.int (p2 &&& (-5 : Int32))), (.int (p2 &&& (-5 : Int32))), (.int (p2 &&& (-5 : Int32))), (.int (p2 &&& (-5 : Int32)))] (.int (0 : Int32)) := V6
    refine own_step st6 ?_
    have N6 := Fr.snoc X6 N5 ge_a1
    have Z6 : n0 ≤ h6.size := by rw [W6.size]; exact Z5
    have SZ6 : h0.size ≤ h6.size := by rw [W6.size]; exact SZ5
    show own_Ends p e below F (T6.setTop (mkF m 49 #[.val (.int p1), .val (.int p2), .val (.int p3), .val (.int (0 : Int32)), .val (.int (p2 &&& (-5 : Int32))), .val (.int (p2 ||| (4 : Int32))), .val (.ref a1), .val (.ref a2), .unset, .unset] []))
    refine own_step (fun _ k => XS.aload X6.here hx rfl (hb hby at_49) rfl rfl k) ?_
    show own_Ends p e below F (T6.setTop (mkF m 51 #[.val (.int p1), .val (.int p2), .val (.int p3), .val (.int (0 : Int32)), .val (.int (p2 &&& (-5 : Int32))), .val (.int (p2 ||| (4 : Int32))), .val (.ref a1), .val (.ref a2), .unset, .unset] [(.ref a2)]))
    refine own_step (fun _ k => XS.iconst X6.here hx rfl (hb hby at_51) k) ?_
    show own_Ends p e below F (T6.setTop (mkF m 52 #[.val (.int p1), .val (.int p2), .val (.int p3), .val (.int (0 : Int32)), .val (.int (p2 &&& (-5 : Int32))), .val (.int (p2 ||| (4 : Int32))), .val (.ref a1), .val (.ref a2), .unset, .unset] [(.int (0 : Int32)), (.ref a2)]))
    refine own_step (fun _ k => XS.iload X6.here hx rfl (hb hby at_52) rfl k) ?_
    show own_Ends p e below F (T6.setTop (mkF m 54 #[.val (.int p1), .val (.int p2), .val (.int p3), .val (.int (0 : Int32)), .val (.int (p2 &&& (-5 : Int32))), .val (.int (p2 ||| (4 : Int32))), .val (.ref a1), .val (.ref a2), .unset, .unset] [(.int (p2 ||| (4 : Int32))), (.int (0 : Int32)), (.ref a2)]))
    obtain ⟨cl7, Ar7, q7, S7, M7, H7, G7⟩ := ((((V2.other W3 (Ne.symm ne_a1_a2)).other W4 (Ne.symm ne_a1_a2)).other W5 (Ne.symm ne_a1_a2)).other W6 (Ne.symm ne_a1_a2))
    have hin7 : ¬ ((0 : Int32) < 0 ∨ cl7.slots.size ≤ ((0 : Int32) : Int32).toNatClampNeg) := inb_of S7 ⟨by decide, by decide⟩
    obtain ⟨T7, h7, X7, e7, W7, st7⟩ := stI X6 hx hZ e6 Ar7 (j := (0 : Int32)) hin7 (g := (mkF m 54 #[.val (.int p1), .val (.int p2), .val (.int p3), .val (.int (0 : Int32)), .val (.int (p2 &&& (-5 : Int32))), .val (.int (p2 ||| (4 : Int32))), .val (.ref a1), .val (.ref a2), .unset, .unset] [(.int (p2 ||| (4 : Int32))), (.int (0 : Int32)), (.ref a2)])) rfl rfl (hb hby at_54)
    have V7 := Arv.set Ar7 q7 S7 M7 H7 G7 rfl W7 0 rfl (Nat.le_of_ble_eq_true rfl)
    have V7 : Arv Z h7 a2 k2 .int (4 : Int32) [(.int (p2 ||| (4 : Int32))), (.int (0 : Int32)), (.int (0 : Int32)), (.int (0 : Int32))] (.int (0 : Int32)) := V7
    refine own_step st7 ?_
    have N7 := Fr.snoc X7 N6 ge_a2
    have Z7 : n0 ≤ h7.size := by rw [W7.size]; exact Z6
    have SZ7 : h0.size ≤ h7.size := by rw [W7.size]; exact SZ6
    show own_Ends p e below F (T7.setTop (mkF m 55 #[.val (.int p1), .val (.int p2), .val (.int p3), .val (.int (0 : Int32)), .val (.int (p2 &&& (-5 : Int32))), .val (.int (p2 ||| (4 : Int32))), .val (.ref a1), .val (.ref a2), .unset, .unset] []))
    refine own_step (fun _ k => XS.aload X7.here hx rfl (hb hby at_55) rfl rfl k) ?_
    show own_Ends p e below F (T7.setTop (mkF m 57 #[.val (.int p1), .val (.int p2), .val (.int p3), .val (.int (0 : Int32)), .val (.int (p2 &&& (-5 : Int32))), .val (.int (p2 ||| (4 : Int32))), .val (.ref a1), .val (.ref a2), .unset, .unset] [(.ref a2)]))
    refine own_step (fun _ k => XS.iconst X7.here hx rfl (hb hby at_57) k) ?_
    show own_Ends p e below F (T7.setTop (mkF m 58 #[.val (.int p1), .val (.int p2), .val (.int p3), .val (.int (0 : Int32)), .val (.int (p2 &&& (-5 : Int32))), .val (.int (p2 ||| (4 : Int32))), .val (.ref a1), .val (.ref a2), .unset, .unset] [(.int (1 : Int32)), (.ref a2)]))
    refine own_step (fun _ k => XS.iload X7.here hx rfl (hb hby at_58) rfl k) ?_
    show own_Ends p e below F (T7.setTop (mkF m 60 #[.val (.int p1), .val (.int p2), .val (.int p3), .val (.int (0 : Int32)), .val (.int (p2 &&& (-5 : Int32))), .val (.int (p2 ||| (4 : Int32))), .val (.ref a1), .val (.ref a2), .unset, .unset] [(.int (p2 ||| (4 : Int32))), (.int (1 : Int32)), (.ref a2)]))
    obtain ⟨cl8, Ar8, q8, S8, M8, H8, G8⟩ := V7
    have hin8 : ¬ ((1 : Int32) < 0 ∨ cl8.slots.size ≤ ((1 : Int32) : Int32).toNatClampNeg) := inb_of S8 ⟨by decide, by decide⟩
    obtain ⟨T8, h8, X8, e8, W8, st8⟩ := stI X7 hx hZ e7 Ar8 (j := (1 : Int32)) hin8 (g := (mkF m 60 #[.val (.int p1), .val (.int p2), .val (.int p3), .val (.int (0 : Int32)), .val (.int (p2 &&& (-5 : Int32))), .val (.int (p2 ||| (4 : Int32))), .val (.ref a1), .val (.ref a2), .unset, .unset] [(.int (p2 ||| (4 : Int32))), (.int (1 : Int32)), (.ref a2)])) rfl rfl (hb hby at_60)
    have V8 := Arv.set Ar8 q8 S8 M8 H8 G8 rfl W8 1 rfl (Nat.le_of_ble_eq_true rfl)
    have V8 : Arv Z h8 a2 k2 .int (4 : Int32) [(.int (p2 ||| (4 : Int32))), (.int (p2 ||| (4 : Int32))), (.int (0 : Int32)), (.int (0 : Int32))] (.int (0 : Int32)) := V8
    refine own_step st8 ?_
    have N8 := Fr.snoc X8 N7 ge_a2
    have Z8 : n0 ≤ h8.size := by rw [W8.size]; exact Z7
    have SZ8 : h0.size ≤ h8.size := by rw [W8.size]; exact SZ7
    show own_Ends p e below F (T8.setTop (mkF m 61 #[.val (.int p1), .val (.int p2), .val (.int p3), .val (.int (0 : Int32)), .val (.int (p2 &&& (-5 : Int32))), .val (.int (p2 ||| (4 : Int32))), .val (.ref a1), .val (.ref a2), .unset, .unset] []))
    refine own_step (fun _ k => XS.aload X8.here hx rfl (hb hby at_61) rfl rfl k) ?_
    show own_Ends p e below F (T8.setTop (mkF m 63 #[.val (.int p1), .val (.int p2), .val (.int p3), .val (.int (0 : Int32)), .val (.int (p2 &&& (-5 : Int32))), .val (.int (p2 ||| (4 : Int32))), .val (.ref a1), .val (.ref a2), .unset, .unset] [(.ref a2)]))
    refine own_step (fun _ k => XS.iconst X8.here hx rfl (hb hby at_63) k) ?_
    show own_Ends p e below F (T8.setTop (mkF m 64 #[.val (.int p1), .val (.int p2), .val (.int p3), .val (.int (0 : Int32)), .val (.int (p2 &&& (-5 : Int32))), .val (.int (p2 ||| (4 : Int32))), .val (.ref a1), .val (.ref a2), .unset, .unset] [(.int (2 : Int32)), (.ref a2)]))
    refine own_step (fun _ k => XS.iload X8.here hx rfl (hb hby at_64) rfl k) ?_
    show own_Ends p e below F (T8.setTop (mkF m 66 #[.val (.int p1), .val (.int p2), .val (.int p3), .val (.int (0 : Int32)), .val (.int (p2 &&& (-5 : Int32))), .val (.int (p2 ||| (4 : Int32))), .val (.ref a1), .val (.ref a2), .unset, .unset] [(.int (p2 ||| (4 : Int32))), (.int (2 : Int32)), (.ref a2)]))
    obtain ⟨cl9, Ar9, q9, S9, M9, H9, G9⟩ := V8
    have hin9 : ¬ ((2 : Int32) < 0 ∨ cl9.slots.size ≤ ((2 : Int32) : Int32).toNatClampNeg) := inb_of S9 ⟨by decide, by decide⟩
    obtain ⟨T9, h9, X9, e9, W9, st9⟩ := stI X8 hx hZ e8 Ar9 (j := (2 : Int32)) hin9 (g := (mkF m 66 #[.val (.int p1), .val (.int p2), .val (.int p3), .val (.int (0 : Int32)), .val (.int (p2 &&& (-5 : Int32))), .val (.int (p2 ||| (4 : Int32))), .val (.ref a1), .val (.ref a2), .unset, .unset] [(.int (p2 ||| (4 : Int32))), (.int (2 : Int32)), (.ref a2)])) rfl rfl (hb hby at_66)
    have V9 := Arv.set Ar9 q9 S9 M9 H9 G9 rfl W9 2 rfl (Nat.le_of_ble_eq_true rfl)
    have V9 : Arv Z h9 a2 k2 .int (4 : Int32) [(.int (p2 ||| (4 : Int32))), (.int (p2 ||| (4 : Int32))), (.int (p2 ||| (4 : Int32))), (.int (0 : Int32))] (.int (0 : Int32)) := V9
    refine own_step st9 ?_
    have N9 := Fr.snoc X9 N8 ge_a2
    have Z9 : n0 ≤ h9.size := by rw [W9.size]; exact Z8
    have SZ9 : h0.size ≤ h9.size := by rw [W9.size]; exact SZ8
    show own_Ends p e below F (T9.setTop (mkF m 67 #[.val (.int p1), .val (.int p2), .val (.int p3), .val (.int (0 : Int32)), .val (.int (p2 &&& (-5 : Int32))), .val (.int (p2 ||| (4 : Int32))), .val (.ref a1), .val (.ref a2), .unset, .unset] []))
    refine own_step (fun _ k => XS.aload X9.here hx rfl (hb hby at_67) rfl rfl k) ?_
    show own_Ends p e below F (T9.setTop (mkF m 69 #[.val (.int p1), .val (.int p2), .val (.int p3), .val (.int (0 : Int32)), .val (.int (p2 &&& (-5 : Int32))), .val (.int (p2 ||| (4 : Int32))), .val (.ref a1), .val (.ref a2), .unset, .unset] [(.ref a2)]))
    refine own_step (fun _ k => XS.iconst X9.here hx rfl (hb hby at_69) k) ?_
    show own_Ends p e below F (T9.setTop (mkF m 70 #[.val (.int p1), .val (.int p2), .val (.int p3), .val (.int (0 : Int32)), .val (.int (p2 &&& (-5 : Int32))), .val (.int (p2 ||| (4 : Int32))), .val (.ref a1), .val (.ref a2), .unset, .unset] [(.int (3 : Int32)), (.ref a2)]))
    refine own_step (fun _ k => XS.iload X9.here hx rfl (hb hby at_70) rfl k) ?_
    show own_Ends p e below F (T9.setTop (mkF m 72 #[.val (.int p1), .val (.int p2), .val (.int p3), .val (.int (0 : Int32)), .val (.int (p2 &&& (-5 : Int32))), .val (.int (p2 ||| (4 : Int32))), .val (.ref a1), .val (.ref a2), .unset, .unset] [(.int (p2 ||| (4 : Int32))), (.int (3 : Int32)), (.ref a2)]))
    obtain ⟨cl10, Ar10, q10, S10, M10, H10, G10⟩ := V9
    have hin10 : ¬ ((3 : Int32) < 0 ∨ cl10.slots.size ≤ ((3 : Int32) : Int32).toNatClampNeg) := inb_of S10 ⟨by decide, by decide⟩
    obtain ⟨T10, h10, X10, e10, W10, st10⟩ := stI X9 hx hZ e9 Ar10 (j := (3 : Int32)) hin10 (g := (mkF m 72 #[.val (.int p1), .val (.int p2), .val (.int p3), .val (.int (0 : Int32)), .val (.int (p2 &&& (-5 : Int32))), .val (.int (p2 ||| (4 : Int32))), .val (.ref a1), .val (.ref a2), .unset, .unset] [(.int (p2 ||| (4 : Int32))), (.int (3 : Int32)), (.ref a2)])) rfl rfl (hb hby at_72)
    have V10 := Arv.set Ar10 q10 S10 M10 H10 G10 rfl W10 3 rfl (Nat.le_of_ble_eq_true rfl)
    have V10 : Arv Z h10 a2 k2 .int (4 : Int32) [(.int (p2 ||| (4 : Int32))), (.int (p2 ||| (4 : Int32))), (.int (p2 ||| (4 : Int32))), (.int (p2 ||| (4 : Int32)))] (.int (0 : Int32)) := V10
    refine own_step st10 ?_
    have N10 := Fr.snoc X10 N9 ge_a2
    have Z10 : n0 ≤ h10.size := by rw [W10.size]; exact Z9
    have SZ10 : h0.size ≤ h10.size := by rw [W10.size]; exact SZ9
    show own_Ends p e below F (T10.setTop (mkF m 73 #[.val (.int p1), .val (.int p2), .val (.int p3), .val (.int (0 : Int32)), .val (.int (p2 &&& (-5 : Int32))), .val (.int (p2 ||| (4 : Int32))), .val (.ref a1), .val (.ref a2), .unset, .unset] []))
    refine own_step (fun _ k => XS.aload X10.here hx rfl (hb hby at_73) rfl rfl k) ?_
    show own_Ends p e below F (T10.setTop (mkF m 75 #[.val (.int p1), .val (.int p2), .val (.int p3), .val (.int (0 : Int32)), .val (.int (p2 &&& (-5 : Int32))), .val (.int (p2 ||| (4 : Int32))), .val (.ref a1), .val (.ref a2), .unset, .unset] [(.ref a1)]))
    refine own_step (fun _ k => XS.iloadN X10.here hx rfl (hb hby at_75) rfl k) ?_
    show own_Ends p e below F (T10.setTop (mkF m 76 #[.val (.int p1), .val (.int p2), .val (.int p3), .val (.int (0 : Int32)), .val (.int (p2 &&& (-5 : Int32))), .val (.int (p2 ||| (4 : Int32))), .val (.ref a1), .val (.ref a2), .unset, .unset] [(.int (0 : Int32)), (.ref a1)]))
    refine own_step (fun _ k => XS.iloadN X10.here hx rfl (hb hby at_76) rfl k) ?_
    show own_Ends p e below F (T10.setTop (mkF m 77 #[.val (.int p1), .val (.int p2), .val (.int p3), .val (.int (0 : Int32)), .val (.int (p2 &&& (-5 : Int32))), .val (.int (p2 ||| (4 : Int32))), .val (.ref a1), .val (.ref a2), .unset, .unset] [(.int p1), (.int (0 : Int32)), (.ref a1)]))
    refine own_step (fun _ k => XS.iconst X10.here hx rfl (hb hby at_77) k) ?_
    show own_Ends p e below F (T10.setTop (mkF m 78 #[.val (.int p1), .val (.int p2), .val (.int p3), .val (.int (0 : Int32)), .val (.int (p2 &&& (-5 : Int32))), .val (.int (p2 ||| (4 : Int32))), .val (.ref a1), .val (.ref a2), .unset, .unset] [(.int (4 : Int32)), (.int p1), (.int (0 : Int32)), (.ref a1)]))
    refine own_step (fun _ k => XS.ior X10.here hx rfl (hb hby at_78) rfl k) ?_
    show own_Ends p e below F (T10.setTop (mkF m 79 #[.val (.int p1), .val (.int p2), .val (.int p3), .val (.int (0 : Int32)), .val (.int (p2 &&& (-5 : Int32))), .val (.int (p2 ||| (4 : Int32))), .val (.ref a1), .val (.ref a2), .unset, .unset] [(.int (p1 ||| (4 : Int32))), (.int (0 : Int32)), (.ref a1)]))
    obtain ⟨cl11, Ar11, q11, S11, M11, H11, G11⟩ := ((((V6.other W7 ne_a1_a2).other W8 ne_a1_a2).other W9 ne_a1_a2).other W10 ne_a1_a2)
    have hin11 : ¬ ((0 : Int32) < 0 ∨ cl11.slots.size ≤ ((0 : Int32) : Int32).toNatClampNeg) := inb_of S11 ⟨by decide, by decide⟩
    obtain ⟨T11, h11, X11, e11, W11, st11⟩ := stI X10 hx hZ e10 Ar11 (j := (0 : Int32)) hin11 (g := (mkF m 79 #[.val (.int p1), .val (.int p2), .val (.int p3), .val (.int (0 : Int32)), .val (.int (p2 &&& (-5 : Int32))), .val (.int (p2 ||| (4 : Int32))), .val (.ref a1), .val (.ref a2), .unset, .unset] [(.int (p1 ||| (4 : Int32))), (.int (0 : Int32)), (.ref a1)])) rfl rfl (hb hby at_79)
    have V11 := Arv.set Ar11 q11 S11 M11 H11 G11 rfl W11 0 rfl (Nat.le_of_ble_eq_true rfl)
    have V11 : Arv Z h11 a1 k1 .int (4 : Int32) [(.int (p1 ||| (4 : Int32))), (.int (p2 &&& (-5 : Int32))), (.int (p2 &&& (-5 : Int32))), (.int (p2 &&& (-5 : Int32)))] (.int (0 : Int32)) := V11
    refine own_step st11 ?_
    have N11 := Fr.snoc X11 N10 ge_a1
    have Z11 : n0 ≤ h11.size := by rw [W11.size]; exact Z10
    have SZ11 : h0.size ≤ h11.size := by rw [W11.size]; exact SZ10
    show own_Ends p e below F (T11.setTop (mkF m 80 #[.val (.int p1), .val (.int p2), .val (.int p3), .val (.int (0 : Int32)), .val (.int (p2 &&& (-5 : Int32))), .val (.int (p2 ||| (4 : Int32))), .val (.ref a1), .val (.ref a2), .unset, .unset] []))
    refine own_step (fun _ k => XS.aload X11.here hx rfl (hb hby at_80) rfl rfl k) ?_
    show own_Ends p e below F (T11.setTop (mkF m 82 #[.val (.int p1), .val (.int p2), .val (.int p3), .val (.int (0 : Int32)), .val (.int (p2 &&& (-5 : Int32))), .val (.int (p2 ||| (4 : Int32))), .val (.ref a1), .val (.ref a2), .unset, .unset] [(.ref a2)]))
    refine own_step (fun _ k => XS.iloadN X11.here hx rfl (hb hby at_82) rfl k) ?_
    show own_Ends p e below F (T11.setTop (mkF m 83 #[.val (.int p1), .val (.int p2), .val (.int p3), .val (.int (0 : Int32)), .val (.int (p2 &&& (-5 : Int32))), .val (.int (p2 ||| (4 : Int32))), .val (.ref a1), .val (.ref a2), .unset, .unset] [(.int (0 : Int32)), (.ref a2)]))
    refine own_step (fun _ k => XS.iloadN X11.here hx rfl (hb hby at_83) rfl k) ?_
    show own_Ends p e below F (T11.setTop (mkF m 84 #[.val (.int p1), .val (.int p2), .val (.int p3), .val (.int (0 : Int32)), .val (.int (p2 &&& (-5 : Int32))), .val (.int (p2 ||| (4 : Int32))), .val (.ref a1), .val (.ref a2), .unset, .unset] [(.int p1), (.int (0 : Int32)), (.ref a2)]))
    refine own_step (fun _ k => XS.bipush X11.here hx rfl (hb hby at_84) k) ?_
    show own_Ends p e below F (T11.setTop (mkF m 86 #[.val (.int p1), .val (.int p2), .val (.int p3), .val (.int (0 : Int32)), .val (.int (p2 &&& (-5 : Int32))), .val (.int (p2 ||| (4 : Int32))), .val (.ref a1), .val (.ref a2), .unset, .unset] [(.int (-5 : Int32)), (.int p1), (.int (0 : Int32)), (.ref a2)]))
    refine own_step (fun _ k => XS.iand X11.here hx rfl (hb hby at_86) rfl k) ?_
    show own_Ends p e below F (T11.setTop (mkF m 87 #[.val (.int p1), .val (.int p2), .val (.int p3), .val (.int (0 : Int32)), .val (.int (p2 &&& (-5 : Int32))), .val (.int (p2 ||| (4 : Int32))), .val (.ref a1), .val (.ref a2), .unset, .unset] [(.int (p1 &&& (-5 : Int32))), (.int (0 : Int32)), (.ref a2)]))
    obtain ⟨cl12, Ar12, q12, S12, M12, H12, G12⟩ := (V10.other W11 (Ne.symm ne_a1_a2))
    have hin12 : ¬ ((0 : Int32) < 0 ∨ cl12.slots.size ≤ ((0 : Int32) : Int32).toNatClampNeg) := inb_of S12 ⟨by decide, by decide⟩
    obtain ⟨T12, h12, X12, e12, W12, st12⟩ := stI X11 hx hZ e11 Ar12 (j := (0 : Int32)) hin12 (g := (mkF m 87 #[.val (.int p1), .val (.int p2), .val (.int p3), .val (.int (0 : Int32)), .val (.int (p2 &&& (-5 : Int32))), .val (.int (p2 ||| (4 : Int32))), .val (.ref a1), .val (.ref a2), .unset, .unset] [(.int (p1 &&& (-5 : Int32))), (.int (0 : Int32)), (.ref a2)])) rfl rfl (hb hby at_87)
    have V12 := Arv.set Ar12 q12 S12 M12 H12 G12 rfl W12 0 rfl (Nat.le_of_ble_eq_true rfl)
    have V12 : Arv Z h12 a2 k2 .int (4 : Int32) [(.int (p1 &&& (-5 : Int32))), (.int (p2 ||| (4 : Int32))), (.int (p2 ||| (4 : Int32))), (.int (p2 ||| (4 : Int32)))] (.int (0 : Int32)) := V12
    refine own_step st12 ?_
    have N12 := Fr.snoc X12 N11 ge_a2
    have Z12 : n0 ≤ h12.size := by rw [W12.size]; exact Z11
    have SZ12 : h0.size ≤ h12.size := by rw [W12.size]; exact SZ11
    show own_Ends p e below F (T12.setTop (mkF m 88 #[.val (.int p1), .val (.int p2), .val (.int p3), .val (.int (0 : Int32)), .val (.int (p2 &&& (-5 : Int32))), .val (.int (p2 ||| (4 : Int32))), .val (.ref a1), .val (.ref a2), .unset, .unset] []))
    refine own_step (fun _ k => XS.aload X12.here hx rfl (hb hby at_88) rfl rfl k) ?_
    show own_Ends p e below F (T12.setTop (mkF m 90 #[.val (.int p1), .val (.int p2), .val (.int p3), .val (.int (0 : Int32)), .val (.int (p2 &&& (-5 : Int32))), .val (.int (p2 ||| (4 : Int32))), .val (.ref a1), .val (.ref a2), .unset, .unset] [(.ref a1)]))
    refine own_step (fun _ k => XS.iloadN X12.here hx rfl (hb hby at_90) rfl k) ?_
    show own_Ends p e below F (T12.setTop (mkF m 91 #[.val (.int p1), .val (.int p2), .val (.int p3), .val (.int (0 : Int32)), .val (.int (p2 &&& (-5 : Int32))), .val (.int (p2 ||| (4 : Int32))), .val (.ref a1), .val (.ref a2), .unset, .unset] [(.int (0 : Int32)), (.ref a1)]))
    obtain ⟨_, _, ⟨T13, L13, k13, n13⟩, -, X13, ⟨Lc13, hQ13, l13, y13, z13⟩, st13⟩ := Jvm.LawKit.callS X12 hx (y := (⟨"com/example/entitlement/entitlement/service/AclCode", "inherits", "([II)Z"⟩ : MethodName)) hown (mvT hZ (own_g hw 1 rfl)) (mvT hZ (own_g hw 2 rfl)) (mvT hZ (own_g hw 3 rfl)) (mvT hZ (own_g hw 4 rfl)) (by decide) (backOf (W := 0) (rm1 l Z a0 hw [] a1 (0 : Int32) k1 (4 : Int32) [(.int (p1 ||| (4 : Int32))), (.int (p2 &&& (-5 : Int32))), (.int (p2 &&& (-5 : Int32))), (.int (p2 &&& (-5 : Int32)))] (.int (0 : Int32)) (p1 ||| (4 : Int32)) h12 n0 Z12 (V11.other W12 ne_a1_a2) ⟨by decide, by decide⟩ rfl) hZ (own_g hw 4 rfl) (own_g hw 3 rfl) (by decide) (by decide)) (g := (mkF m 91 #[.val (.int p1), .val (.int p2), .val (.int p3), .val (.int (0 : Int32)), .val (.int (p2 &&& (-5 : Int32))), .val (.int (p2 ||| (4 : Int32))), .val (.ref a1), .val (.ref a2), .unset, .unset] [(.int (0 : Int32)), (.ref a1)])) rfl (by rw [hml]; rfl) (argsL := [(.ref a1), (.int (0 : Int32))]) (rest := []) (lenOf pd__28_5bII_29Z rfl) rfl (by show 2 * 0 + _ ≤ _; exact Nat.le_of_eq rfl) (hb hby at_91) (fun _ _ => ⟨rfl, e12, (by decide : 2 + 0 ≤ _), (by decide : 8 + 0 ≤ _)⟩)
    dsimp only [Pt.U, Pt.locs, Pt.cells, Pt.slots] at X13 l13 y13 z13 st13 hQ13
    subst l13 y13 z13
    obtain ⟨rfl, Nq13, eq13⟩ := hQ13
    have N13 := Fr.app N12 Nq13
    refine own_step st13 ?_
    show own_Ends p e below F (T13.setTop (mkF m 94 #[.val (.int p1), .val (.int p2), .val (.int p3), .val (.int (0 : Int32)), .val (.int (p2 &&& (-5 : Int32))), .val (.int (p2 ||| (4 : Int32))), .val (.ref a1), .val (.ref a2), .unset, .unset] [(.int (own_inh (p1 ||| (4 : Int32))))]))
    refine own_step (fun _ k => XS.istore X13.here hx rfl (hb hby at_94) rfl (l' := #[.val (.int p1), .val (.int p2), .val (.int p3), .val (.int (0 : Int32)), .val (.int (p2 &&& (-5 : Int32))), .val (.int (p2 ||| (4 : Int32))), .val (.ref a1), .val (.ref a2), .val (.int (own_inh (p1 ||| (4 : Int32)))), .unset]) rfl k) ?_
    show own_Ends p e below F (T13.setTop (mkF m 96 #[.val (.int p1), .val (.int p2), .val (.int p3), .val (.int (0 : Int32)), .val (.int (p2 &&& (-5 : Int32))), .val (.int (p2 ||| (4 : Int32))), .val (.ref a1), .val (.ref a2), .val (.int (own_inh (p1 ||| (4 : Int32)))), .unset] []))
    refine own_step (fun _ k => XS.aload X13.here hx rfl (hb hby at_96) rfl rfl k) ?_
    show own_Ends p e below F (T13.setTop (mkF m 98 #[.val (.int p1), .val (.int p2), .val (.int p3), .val (.int (0 : Int32)), .val (.int (p2 &&& (-5 : Int32))), .val (.int (p2 ||| (4 : Int32))), .val (.ref a1), .val (.ref a2), .val (.int (own_inh (p1 ||| (4 : Int32)))), .unset] [(.ref a2)]))
    refine own_step (fun _ k => XS.iloadN X13.here hx rfl (hb hby at_98) rfl k) ?_
    show own_Ends p e below F (T13.setTop (mkF m 99 #[.val (.int p1), .val (.int p2), .val (.int p3), .val (.int (0 : Int32)), .val (.int (p2 &&& (-5 : Int32))), .val (.int (p2 ||| (4 : Int32))), .val (.ref a1), .val (.ref a2), .val (.int (own_inh (p1 ||| (4 : Int32)))), .unset] [(.int (0 : Int32)), (.ref a2)]))
    obtain ⟨_, _, ⟨T14, L14, k14, n14⟩, -, X14, ⟨Lc14, hQ14, l14, y14, z14⟩, st14⟩ := Jvm.LawKit.callS X13 hx (y := (⟨"com/example/entitlement/entitlement/service/AclCode", "inherits", "([II)Z"⟩ : MethodName)) hown (mvT hZ (own_g hw 1 rfl)) (mvT hZ (own_g hw 2 rfl)) (mvT hZ (own_g hw 3 rfl)) (mvT hZ (own_g hw 4 rfl)) (by decide) (backOf (W := 0) (rm1 l Z a0 hw [] a2 (0 : Int32) k2 (4 : Int32) [(.int (p1 &&& (-5 : Int32))), (.int (p2 ||| (4 : Int32))), (.int (p2 ||| (4 : Int32))), (.int (p2 ||| (4 : Int32)))] (.int (0 : Int32)) (p1 &&& (-5 : Int32)) h12 n0 Z12 V12 ⟨by decide, by decide⟩ rfl) hZ (own_g hw 4 rfl) (own_g hw 3 rfl) (by decide) (by decide)) (g := (mkF m 99 #[.val (.int p1), .val (.int p2), .val (.int p3), .val (.int (0 : Int32)), .val (.int (p2 &&& (-5 : Int32))), .val (.int (p2 ||| (4 : Int32))), .val (.ref a1), .val (.ref a2), .val (.int (own_inh (p1 ||| (4 : Int32)))), .unset] [(.int (0 : Int32)), (.ref a2)])) rfl (by rw [hml]; rfl) (argsL := [(.ref a2), (.int (0 : Int32))]) (rest := []) (lenOf pd__28_5bII_29Z rfl) rfl (by show 2 * 0 + _ ≤ _; exact Nat.le_of_eq rfl) (hb hby at_99) (fun _ _ => ⟨rfl, eq13, (by decide : 2 + 0 ≤ _), (by decide : 8 + 0 ≤ _)⟩)
    dsimp only [Pt.U, Pt.locs, Pt.cells, Pt.slots] at X14 l14 y14 z14 st14 hQ14
    subst l14 y14 z14
    obtain ⟨rfl, Nq14, eq14⟩ := hQ14
    have N14 := Fr.app N13 Nq14
    refine own_step st14 ?_
    show own_Ends p e below F (T14.setTop (mkF m 102 #[.val (.int p1), .val (.int p2), .val (.int p3), .val (.int (0 : Int32)), .val (.int (p2 &&& (-5 : Int32))), .val (.int (p2 ||| (4 : Int32))), .val (.ref a1), .val (.ref a2), .val (.int (own_inh (p1 ||| (4 : Int32)))), .unset] [(.int (own_inh (p1 &&& (-5 : Int32))))]))
    refine own_step (fun _ k => XS.istore X14.here hx rfl (hb hby at_102) rfl (l' := #[.val (.int p1), .val (.int p2), .val (.int p3), .val (.int (0 : Int32)), .val (.int (p2 &&& (-5 : Int32))), .val (.int (p2 ||| (4 : Int32))), .val (.ref a1), .val (.ref a2), .val (.int (own_inh (p1 ||| (4 : Int32)))), .val (.int (own_inh (p1 &&& (-5 : Int32))))]) rfl k) ?_
    show own_Ends p e below F (T14.setTop (mkF m 104 #[.val (.int p1), .val (.int p2), .val (.int p3), .val (.int (0 : Int32)), .val (.int (p2 &&& (-5 : Int32))), .val (.int (p2 ||| (4 : Int32))), .val (.ref a1), .val (.ref a2), .val (.int (own_inh (p1 ||| (4 : Int32)))), .val (.int (own_inh (p1 &&& (-5 : Int32))))] []))
    refine own_step (fun _ k => XS.iload X14.here hx rfl (hb hby at_104) rfl k) ?_
    show own_Ends p e below F (T14.setTop (mkF m 106 #[.val (.int p1), .val (.int p2), .val (.int p3), .val (.int (0 : Int32)), .val (.int (p2 &&& (-5 : Int32))), .val (.int (p2 ||| (4 : Int32))), .val (.ref a1), .val (.ref a2), .val (.int (own_inh (p1 ||| (4 : Int32)))), .val (.int (own_inh (p1 &&& (-5 : Int32))))] [(.int (own_inh (p1 ||| (4 : Int32))))]))
    refine own_step (fun _ k => XS.ifNo X14.here hx rfl (hb hby at_106) rfl ((if0 _ _).trans (feq (own_in1 p1 : ¬ ((own_inh (p1 ||| (4 : Int32))) = (0 : Int32)))).1) k) ?_
    show own_Ends p e below F (T14.setTop (mkF m 109 #[.val (.int p1), .val (.int p2), .val (.int p3), .val (.int (0 : Int32)), .val (.int (p2 &&& (-5 : Int32))), .val (.int (p2 ||| (4 : Int32))), .val (.ref a1), .val (.ref a2), .val (.int (own_inh (p1 ||| (4 : Int32)))), .val (.int (own_inh (p1 &&& (-5 : Int32))))] []))
    refine own_step (fun _ k => XS.iload X14.here hx rfl (hb hby at_109) rfl k) ?_
    show own_Ends p e below F (T14.setTop (mkF m 111 #[.val (.int p1), .val (.int p2), .val (.int p3), .val (.int (0 : Int32)), .val (.int (p2 &&& (-5 : Int32))), .val (.int (p2 ||| (4 : Int32))), .val (.ref a1), .val (.ref a2), .val (.int (own_inh (p1 ||| (4 : Int32)))), .val (.int (own_inh (p1 &&& (-5 : Int32))))] [(.int (own_inh (p1 &&& (-5 : Int32))))]))
    refine own_step (fun _ k => XS.ifNo X14.here hx rfl (hb hby at_111) rfl ((if0 _ _).trans (teq (own_in0 p1 : (own_inh (p1 &&& (-5 : Int32))) = (0 : Int32))).2) k) ?_
    show own_Ends p e below F (T14.setTop (mkF m 114 #[.val (.int p1), .val (.int p2), .val (.int p3), .val (.int (0 : Int32)), .val (.int (p2 &&& (-5 : Int32))), .val (.int (p2 ||| (4 : Int32))), .val (.ref a1), .val (.ref a2), .val (.int (own_inh (p1 ||| (4 : Int32)))), .val (.int (own_inh (p1 &&& (-5 : Int32))))] []))
    refine own_step (fun _ k => XS.iconst X14.here hx rfl (hb hby at_114) k) ?_
    show own_Ends p e below F (T14.setTop (mkF m 115 #[.val (.int p1), .val (.int p2), .val (.int p3), .val (.int (0 : Int32)), .val (.int (p2 &&& (-5 : Int32))), .val (.int (p2 ||| (4 : Int32))), .val (.ref a1), .val (.ref a2), .val (.int (own_inh (p1 ||| (4 : Int32)))), .val (.int (own_inh (p1 &&& (-5 : Int32))))] [(.int (1 : Int32))]))
    refine own_step (fun _ k => XS.goto X14.here hx rfl (pc0 := 115) (pc' := 119) rfl (hb hby at_115) (by decide) (by decide) k) ?_
    show own_Ends p e below F (T14.setTop (mkF m 119 #[.val (.int p1), .val (.int p2), .val (.int p3), .val (.int (0 : Int32)), .val (.int (p2 &&& (-5 : Int32))), .val (.int (p2 ||| (4 : Int32))), .val (.ref a1), .val (.ref a2), .val (.int (own_inh (p1 ||| (4 : Int32)))), .val (.int (own_inh (p1 &&& (-5 : Int32))))] [(.int (1 : Int32))]))
    rw [hF]
    exact own_ret X14 (v := (some (.int (nar .boolean (1 : Int32))))) (fun h => by rw [Bd.returns] at h; cases h) Bd.notSynchronized (fun fs hr => retN X14 hx (t := .boolean) Bd.returns (by simp) (hb hby at_119) hr) (by decide) (by decide) (by rw [eq14]; exact ⟨rfl, N14⟩)
  · rw [q]
    show own_Ends p e below F (s₁.setTop (mkF m 4 #[.val (.int p1), .val (.int p2), .val (.int p3), .val (.int (1 : Int32)), .unset, .unset, .unset, .unset, .unset, .unset] []))
    refine own_step (fun _ k => XS.iloadN X0.here hx rfl (hb hby at_4) rfl k) ?_
    show own_Ends p e below F (s₁.setTop (mkF m 5 #[.val (.int p1), .val (.int p2), .val (.int p3), .val (.int (1 : Int32)), .unset, .unset, .unset, .unset, .unset, .unset] [(.int p2)]))
    refine own_step (fun _ k => XS.bipush X0.here hx rfl (hb hby at_5) k) ?_
    show own_Ends p e below F (s₁.setTop (mkF m 7 #[.val (.int p1), .val (.int p2), .val (.int p3), .val (.int (1 : Int32)), .unset, .unset, .unset, .unset, .unset, .unset] [(.int (-5 : Int32)), (.int p2)]))
    refine own_step (fun _ k => XS.iand X0.here hx rfl (hb hby at_7) rfl k) ?_
    show own_Ends p e below F (s₁.setTop (mkF m 8 #[.val (.int p1), .val (.int p2), .val (.int p3), .val (.int (1 : Int32)), .unset, .unset, .unset, .unset, .unset, .unset] [(.int (p2 &&& (-5 : Int32)))]))
    refine own_step (fun _ k => XS.istore X0.here hx rfl (hb hby at_8) rfl (l' := #[.val (.int p1), .val (.int p2), .val (.int p3), .val (.int (1 : Int32)), .val (.int (p2 &&& (-5 : Int32))), .unset, .unset, .unset, .unset, .unset]) rfl k) ?_
    show own_Ends p e below F (s₁.setTop (mkF m 10 #[.val (.int p1), .val (.int p2), .val (.int p3), .val (.int (1 : Int32)), .val (.int (p2 &&& (-5 : Int32))), .unset, .unset, .unset, .unset, .unset] []))
    refine own_step (fun _ k => XS.iloadN X0.here hx rfl (hb hby at_10) rfl k) ?_
    show own_Ends p e below F (s₁.setTop (mkF m 11 #[.val (.int p1), .val (.int p2), .val (.int p3), .val (.int (1 : Int32)), .val (.int (p2 &&& (-5 : Int32))), .unset, .unset, .unset, .unset, .unset] [(.int p2)]))
    refine own_step (fun _ k => XS.iconst X0.here hx rfl (hb hby at_11) k) ?_
    show own_Ends p e below F (s₁.setTop (mkF m 12 #[.val (.int p1), .val (.int p2), .val (.int p3), .val (.int (1 : Int32)), .val (.int (p2 &&& (-5 : Int32))), .unset, .unset, .unset, .unset, .unset] [(.int (4 : Int32)), (.int p2)]))
    refine own_step (fun _ k => XS.ior X0.here hx rfl (hb hby at_12) rfl k) ?_
    show own_Ends p e below F (s₁.setTop (mkF m 13 #[.val (.int p1), .val (.int p2), .val (.int p3), .val (.int (1 : Int32)), .val (.int (p2 &&& (-5 : Int32))), .unset, .unset, .unset, .unset, .unset] [(.int (p2 ||| (4 : Int32)))]))
    refine own_step (fun _ k => XS.istore X0.here hx rfl (hb hby at_13) rfl (l' := #[.val (.int p1), .val (.int p2), .val (.int p3), .val (.int (1 : Int32)), .val (.int (p2 &&& (-5 : Int32))), .val (.int (p2 ||| (4 : Int32))), .unset, .unset, .unset, .unset]) rfl k) ?_
    show own_Ends p e below F (s₁.setTop (mkF m 15 #[.val (.int p1), .val (.int p2), .val (.int p3), .val (.int (1 : Int32)), .val (.int (p2 &&& (-5 : Int32))), .val (.int (p2 ||| (4 : Int32))), .unset, .unset, .unset, .unset] []))
    refine own_step (fun _ k => XS.iconst X0.here hx rfl (hb hby at_15) k) ?_
    show own_Ends p e below F (s₁.setTop (mkF m 16 #[.val (.int p1), .val (.int p2), .val (.int p3), .val (.int (1 : Int32)), .val (.int (p2 &&& (-5 : Int32))), .val (.int (p2 ||| (4 : Int32))), .unset, .unset, .unset, .unset] [(.int (4 : Int32))]))
    obtain ⟨T15, h15, k15, X15, e15, E15, A15, st15⟩ := newP X0 hx hZ (own_g hw 0 rfl) e0 (g := (mkF m 16 #[.val (.int p1), .val (.int p2), .val (.int p3), .val (.int (1 : Int32)), .val (.int (p2 &&& (-5 : Int32))), .val (.int (p2 ||| (4 : Int32))), .unset, .unset, .unset, .unset] [(.int (4 : Int32))])) rfl (hb hby at_16) rfl (by decide) (cap := 4) (by decide) (by decide) (by decide) (by decide)
    obtain ⟨a15, g15⟩ : ∃ z, z = h0.size := ⟨_, rfl⟩
    rw [← g15] at A15 st15
    have ge_a15 : n0 ≤ a15 := Nat.le_trans Z0 (Nat.le_of_eq g15.symm)
    have sz_a15 : h0.size ≤ a15 := Nat.le_trans (Nat.le_refl h0.size) (Nat.le_of_eq g15.symm)
    have Z15 : n0 ≤ h15.size := Nat.le_trans Z0 E15.1
    have SZ15 : h0.size ≤ h15.size := Nat.le_trans (Nat.le_refl h0.size) E15.1
    have V15 : Arv Z h15 a15 k15 .int (4 : Int32) [(.int (0 : Int32)), (.int (0 : Int32)), (.int (0 : Int32)), (.int (0 : Int32))] (.int (0 : Int32)) := Arv.pad (Arv.new A15 (by decide)) (pad_rep [] _ 4)
    refine own_step st15 ?_
    show own_Ends p e below F (T15.setTop (mkF m 18 #[.val (.int p1), .val (.int p2), .val (.int p3), .val (.int (1 : Int32)), .val (.int (p2 &&& (-5 : Int32))), .val (.int (p2 ||| (4 : Int32))), .unset, .unset, .unset, .unset] [(.ref a15)]))
    refine own_step (fun _ k => XS.astore X15.here hx rfl (hb hby at_18) rfl rfl (l' := #[.val (.int p1), .val (.int p2), .val (.int p3), .val (.int (1 : Int32)), .val (.int (p2 &&& (-5 : Int32))), .val (.int (p2 ||| (4 : Int32))), .val (.ref a15), .unset, .unset, .unset]) rfl k) ?_
    show own_Ends p e below F (T15.setTop (mkF m 20 #[.val (.int p1), .val (.int p2), .val (.int p3), .val (.int (1 : Int32)), .val (.int (p2 &&& (-5 : Int32))), .val (.int (p2 ||| (4 : Int32))), .val (.ref a15), .unset, .unset, .unset] []))
    refine own_step (fun _ k => XS.iconst X15.here hx rfl (hb hby at_20) k) ?_
    show own_Ends p e below F (T15.setTop (mkF m 21 #[.val (.int p1), .val (.int p2), .val (.int p3), .val (.int (1 : Int32)), .val (.int (p2 &&& (-5 : Int32))), .val (.int (p2 ||| (4 : Int32))), .val (.ref a15), .unset, .unset, .unset] [(.int (4 : Int32))]))
    obtain ⟨T16, h16, k16, X16, e16, E16, A16, st16⟩ := newP X15 hx hZ (own_g hw 0 rfl) e15 (g := (mkF m 21 #[.val (.int p1), .val (.int p2), .val (.int p3), .val (.int (1 : Int32)), .val (.int (p2 &&& (-5 : Int32))), .val (.int (p2 ||| (4 : Int32))), .val (.ref a15), .unset, .unset, .unset] [(.int (4 : Int32))])) rfl (hb hby at_21) rfl (by decide) (cap := 4) (by decide) (by decide) (by decide) (by decide)
    obtain ⟨a16, g16⟩ : ∃ z, z = h15.size := ⟨_, rfl⟩
    rw [← g16] at A16 st16
    have ge_a16 : n0 ≤ a16 := Nat.le_trans Z15 (Nat.le_of_eq g16.symm)
    have sz_a16 : h0.size ≤ a16 := Nat.le_trans SZ15 (Nat.le_of_eq g16.symm)
    have ne_a15_a16 : a15 ≠ a16 := Nat.ne_of_lt (by rw [g16]; exact V15.lt)
    have Z16 : n0 ≤ h16.size := Nat.le_trans Z15 E16.1
    have SZ16 : h0.size ≤ h16.size := Nat.le_trans SZ15 E16.1
    have V16 : Arv Z h16 a16 k16 .int (4 : Int32) [(.int (0 : Int32)), (.int (0 : Int32)), (.int (0 : Int32)), (.int (0 : Int32))] (.int (0 : Int32)) := Arv.pad (Arv.new A16 (by decide)) (pad_rep [] _ 4)
    refine own_step st16 ?_
    show own_Ends p e below F (T16.setTop (mkF m 23 #[.val (.int p1), .val (.int p2), .val (.int p3), .val (.int (1 : Int32)), .val (.int (p2 &&& (-5 : Int32))), .val (.int (p2 ||| (4 : Int32))), .val (.ref a15), .unset, .unset, .unset] [(.ref a16)]))
    refine own_step (fun _ k => XS.astore X16.here hx rfl (hb hby at_23) rfl rfl (l' := #[.val (.int p1), .val (.int p2), .val (.int p3), .val (.int (1 : Int32)), .val (.int (p2 &&& (-5 : Int32))), .val (.int (p2 ||| (4 : Int32))), .val (.ref a15), .val (.ref a16), .unset, .unset]) rfl k) ?_
    show own_Ends p e below F (T16.setTop (mkF m 25 #[.val (.int p1), .val (.int p2), .val (.int p3), .val (.int (1 : Int32)), .val (.int (p2 &&& (-5 : Int32))), .val (.int (p2 ||| (4 : Int32))), .val (.ref a15), .val (.ref a16), .unset, .unset] []))
    refine own_step (fun _ k => XS.aload X16.here hx rfl (hb hby at_25) rfl rfl k) ?_
    show own_Ends p e below F (T16.setTop (mkF m 27 #[.val (.int p1), .val (.int p2), .val (.int p3), .val (.int (1 : Int32)), .val (.int (p2 &&& (-5 : Int32))), .val (.int (p2 ||| (4 : Int32))), .val (.ref a15), .val (.ref a16), .unset, .unset] [(.ref a15)]))
    refine own_step (fun _ k => XS.iconst X16.here hx rfl (hb hby at_27) k) ?_
    show own_Ends p e below F (T16.setTop (mkF m 28 #[.val (.int p1), .val (.int p2), .val (.int p3), .val (.int (1 : Int32)), .val (.int (p2 &&& (-5 : Int32))), .val (.int (p2 ||| (4 : Int32))), .val (.ref a15), .val (.ref a16), .unset, .unset] [(.int (0 : Int32)), (.ref a15)]))
    refine own_step (fun _ k => XS.iload X16.here hx rfl (hb hby at_28) rfl k) ?_
    show own_Ends p e below F (T16.setTop (mkF m 30 #[.val (.int p1), .val (.int p2), .val (.int p3), .val (.int (1 : Int32)), .val (.int (p2 &&& (-5 : Int32))), .val (.int (p2 ||| (4 : Int32))), .val (.ref a15), .val (.ref a16), .unset, .unset] [(.int (p2 &&& (-5 : Int32))), (.int (0 : Int32)), (.ref a15)]))
    obtain ⟨cl17, Ar17, q17, S17, M17, H17, G17⟩ := (V15.ext E16)
    have hin17 : ¬ ((0 : Int32) < 0 ∨ cl17.slots.size ≤ ((0 : Int32) : Int32).toNatClampNeg) := inb_of S17 ⟨by decide, by decide⟩
    obtain ⟨T17, h17, X17, e17, W17, st17⟩ := stI X16 hx hZ e16 Ar17 (j := (0 : Int32)) hin17 (g := (mkF m 30 #[.val (.int p1), .val (.int p2), .val (.int p3), .val (.int (1 : Int32)), .val (.int (p2 &&& (-5 : Int32))), .val (.int (p2 ||| (4 : Int32))), .val (.ref a15), .val (.ref a16), .unset, .unset] [(.int (p2 &&& (-5 : Int32))), (.int (0 : Int32)), (.ref a15)])) rfl rfl (hb hby at_30)
    have V17 := Arv.set Ar17 q17 S17 M17 H17 G17 rfl W17 0 rfl (Nat.le_of_ble_eq_true rfl)
    have V17 : Arv Z h17 a15 k15 .int (4 : Int32) [(.int (p2 &&& (-5 : Int32))), (.int (0 : Int32)), (.int (0 : Int32)), (.int (0 : Int32))] (.int (0 : Int32)) := V17
    refine own_step st17 ?_
    have N17 := Fr.snoc X17 N0 ge_a15
    have Z17 : n0 ≤ h17.size := by rw [W17.size]; exact Z16
    have SZ17 : h0.size ≤ h17.size := by rw [W17.size]; exact SZ16
    show own_Ends p e below F (T17.setTop (mkF m 31 #[.val (.int p1), .val (.int p2), .val (.int p3), .val (.int (1 : Int32)), .val (.int (p2 &&& (-5 : Int32))), .val (.int (p2 ||| (4 : Int32))), .val (.ref a15), .val (.ref a16), .unset, .unset] []))
    refine own_step (fun _ k => XS.aload X17.here hx rfl (hb hby at_31) rfl rfl k) ?_
    show own_Ends p e below F (T17.setTop (mkF m 33 #[.val (.int p1), .val (.int p2), .val (.int p3), .val (.int (1 : Int32)), .val (.int (p2 &&& (-5 : Int32))), .val (.int (p2 ||| (4 : Int32))), .val (.ref a15), .val (.ref a16), .unset, .unset] [(.ref a15)]))
    refine own_step (fun _ k => XS.iconst X17.here hx rfl (hb hby at_33) k) ?_
    show own_Ends p e below F (T17.setTop (mkF m 34 #[.val (.int p1), .val (.int p2), .val (.int p3), .val (.int (1 : Int32)), .val (.int (p2 &&& (-5 : Int32))), .val (.int (p2 ||| (4 : Int32))), .val (.ref a15), .val (.ref a16), .unset, .unset] [(.int (1 : Int32)), (.ref a15)]))
    refine own_step (fun _ k => XS.iload X17.here hx rfl (hb hby at_34) rfl k) ?_
    show own_Ends p e below F (T17.setTop (mkF m 36 #[.val (.int p1), .val (.int p2), .val (.int p3), .val (.int (1 : Int32)), .val (.int (p2 &&& (-5 : Int32))), .val (.int (p2 ||| (4 : Int32))), .val (.ref a15), .val (.ref a16), .unset, .unset] [(.int (p2 &&& (-5 : Int32))), (.int (1 : Int32)), (.ref a15)]))
    obtain ⟨cl18, Ar18, q18, S18, M18, H18, G18⟩ := V17
    have hin18 : ¬ ((1 : Int32) < 0 ∨ cl18.slots.size ≤ ((1 : Int32) : Int32).toNatClampNeg) := inb_of S18 ⟨by decide, by decide⟩
    obtain ⟨T18, h18, X18, e18, W18, st18⟩ := stI X17 hx hZ e17 Ar18 (j := (1 : Int32)) hin18 (g := (mkF m 36 #[.val (.int p1), .val (.int p2), .val (.int p3), .val (.int (1 : Int32)), .val (.int (p2 &&& (-5 : Int32))), .val (.int (p2 ||| (4 : Int32))), .val (.ref a15), .val (.ref a16), .unset, .unset] [(.int (p2 &&& (-5 : Int32))), (.int (1 : Int32)), (.ref a15)])) rfl rfl (hb hby at_36)
    have V18 := Arv.set Ar18 q18 S18 M18 H18 G18 rfl W18 1 rfl (Nat.le_of_ble_eq_true rfl)
    have V18 : Arv Z h18 a15 k15 .int (4 : Int32) [(.int (p2 &&& (-5 : Int32))), (.int (p2 &&& (-5 : Int32))), (.int (0 : Int32)), (.int (0 : Int32))] (.int (0 : Int32)) := V18
    refine own_step st18 ?_
    have N18 := Fr.snoc X18 N17 ge_a15
    have Z18 : n0 ≤ h18.size := by rw [W18.size]; exact Z17
    have SZ18 : h0.size ≤ h18.size := by rw [W18.size]; exact SZ17
    show own_Ends p e below F (T18.setTop (mkF m 37 #[.val (.int p1), .val (.int p2), .val (.int p3), .val (.int (1 : Int32)), .val (.int (p2 &&& (-5 : Int32))), .val (.int (p2 ||| (4 : Int32))), .val (.ref a15), .val (.ref a16), .unset, .unset] []))
    refine own_step (fun _ k => XS.aload X18.here hx rfl (hb hby at_37) rfl rfl k) ?_
    show own_Ends p e below F (T18.setTop (mkF m 39 #[.val (.int p1), .val (.int p2), .val (.int p3), .val (.int (1 : Int32)), .val (.int (p2 &&& (-5 : Int32))), .val (.int (p2 ||| (4 : Int32))), .val (.ref a15), .val (.ref a16), .unset, .unset] [(.ref a15)]))
    refine own_step (fun _ k => XS.iconst X18.here hx rfl (hb hby at_39) k) ?_
    show own_Ends p e below F (T18.setTop (mkF m 40 #[.val (.int p1), .val (.int p2), .val (.int p3), .val (.int (1 : Int32)), .val (.int (p2 &&& (-5 : Int32))), .val (.int (p2 ||| (4 : Int32))), .val (.ref a15), .val (.ref a16), .unset, .unset] [(.int (2 : Int32)), (.ref a15)]))
    refine own_step (fun _ k => XS.iload X18.here hx rfl (hb hby at_40) rfl k) ?_
    show own_Ends p e below F (T18.setTop (mkF m 42 #[.val (.int p1), .val (.int p2), .val (.int p3), .val (.int (1 : Int32)), .val (.int (p2 &&& (-5 : Int32))), .val (.int (p2 ||| (4 : Int32))), .val (.ref a15), .val (.ref a16), .unset, .unset] [(.int (p2 &&& (-5 : Int32))), (.int (2 : Int32)), (.ref a15)]))
    obtain ⟨cl19, Ar19, q19, S19, M19, H19, G19⟩ := V18
    have hin19 : ¬ ((2 : Int32) < 0 ∨ cl19.slots.size ≤ ((2 : Int32) : Int32).toNatClampNeg) := inb_of S19 ⟨by decide, by decide⟩
    obtain ⟨T19, h19, X19, e19, W19, st19⟩ := stI X18 hx hZ e18 Ar19 (j := (2 : Int32)) hin19 (g := (mkF m 42 #[.val (.int p1), .val (.int p2), .val (.int p3), .val (.int (1 : Int32)), .val (.int (p2 &&& (-5 : Int32))), .val (.int (p2 ||| (4 : Int32))), .val (.ref a15), .val (.ref a16), .unset, .unset] [(.int (p2 &&& (-5 : Int32))), (.int (2 : Int32)), (.ref a15)])) rfl rfl (hb hby at_42)
    have V19 := Arv.set Ar19 q19 S19 M19 H19 G19 rfl W19 2 rfl (Nat.le_of_ble_eq_true rfl)
    have V19 : Arv Z h19 a15 k15 .int (4 : Int32) [(.int (p2 &&& (-5 : Int32))), (.int (p2 &&& (-5 : Int32))), (.int (p2 &&& (-5 : Int32))), (.int (0 : Int32))] (.int (0 : Int32)) := V19
    refine own_step st19 ?_
    have N19 := Fr.snoc X19 N18 ge_a15
    have Z19 : n0 ≤ h19.size := by rw [W19.size]; exact Z18
    have SZ19 : h0.size ≤ h19.size := by rw [W19.size]; exact SZ18
    show own_Ends p e below F (T19.setTop (mkF m 43 #[.val (.int p1), .val (.int p2), .val (.int p3), .val (.int (1 : Int32)), .val (.int (p2 &&& (-5 : Int32))), .val (.int (p2 ||| (4 : Int32))), .val (.ref a15), .val (.ref a16), .unset, .unset] []))
    refine own_step (fun _ k => XS.aload X19.here hx rfl (hb hby at_43) rfl rfl k) ?_
    show own_Ends p e below F (T19.setTop (mkF m 45 #[.val (.int p1), .val (.int p2), .val (.int p3), .val (.int (1 : Int32)), .val (.int (p2 &&& (-5 : Int32))), .val (.int (p2 ||| (4 : Int32))), .val (.ref a15), .val (.ref a16), .unset, .unset] [(.ref a15)]))
    refine own_step (fun _ k => XS.iconst X19.here hx rfl (hb hby at_45) k) ?_
    show own_Ends p e below F (T19.setTop (mkF m 46 #[.val (.int p1), .val (.int p2), .val (.int p3), .val (.int (1 : Int32)), .val (.int (p2 &&& (-5 : Int32))), .val (.int (p2 ||| (4 : Int32))), .val (.ref a15), .val (.ref a16), .unset, .unset] [(.int (3 : Int32)), (.ref a15)]))
    refine own_step (fun _ k => XS.iload X19.here hx rfl (hb hby at_46) rfl k) ?_
    show own_Ends p e below F (T19.setTop (mkF m 48 #[.val (.int p1), .val (.int p2), .val (.int p3), .val (.int (1 : Int32)), .val (.int (p2 &&& (-5 : Int32))), .val (.int (p2 ||| (4 : Int32))), .val (.ref a15), .val (.ref a16), .unset, .unset] [(.int (p2 &&& (-5 : Int32))), (.int (3 : Int32)), (.ref a15)]))
    obtain ⟨cl20, Ar20, q20, S20, M20, H20, G20⟩ := V19
    have hin20 : ¬ ((3 : Int32) < 0 ∨ cl20.slots.size ≤ ((3 : Int32) : Int32).toNatClampNeg) := inb_of S20 ⟨by decide, by decide⟩
    obtain ⟨T20, h20, X20, e20, W20, st20⟩ := stI X19 hx hZ e19 Ar20 (j := (3 : Int32)) hin20 (g := (mkF m 48 #[.val (.int p1), .val (.int p2), .val (.int p3), .val (.int (1 : Int32)), .val (.int (p2 &&& (-5 : Int32))), .val (.int (p2 ||| (4 : Int32))), .val (.ref a15), .val (.ref a16), .unset, .unset] [(.int (p2 &&& (-5 : Int32))), (.int (3 : Int32)), (.ref a15)])) rfl rfl (hb hby at_48)
    have V20 := Arv.set Ar20 q20 S20 M20 H20 G20 rfl W20 3 rfl (Nat.le_of_ble_eq_true rfl)
    have V20 : Arv Z h20 a15 k15 .int (4 : Int32) [(.int (p2 &&& (-5 : Int32))), (.int (p2 &&& (-5 : Int32))), (.int (p2 &&& (-5 : Int32))), (.int (p2 &&& (-5 : Int32)))] (.int (0 : Int32)) := V20
    refine own_step st20 ?_
    have N20 := Fr.snoc X20 N19 ge_a15
    have Z20 : n0 ≤ h20.size := by rw [W20.size]; exact Z19
    have SZ20 : h0.size ≤ h20.size := by rw [W20.size]; exact SZ19
    show own_Ends p e below F (T20.setTop (mkF m 49 #[.val (.int p1), .val (.int p2), .val (.int p3), .val (.int (1 : Int32)), .val (.int (p2 &&& (-5 : Int32))), .val (.int (p2 ||| (4 : Int32))), .val (.ref a15), .val (.ref a16), .unset, .unset] []))
    refine own_step (fun _ k => XS.aload X20.here hx rfl (hb hby at_49) rfl rfl k) ?_
    show own_Ends p e below F (T20.setTop (mkF m 51 #[.val (.int p1), .val (.int p2), .val (.int p3), .val (.int (1 : Int32)), .val (.int (p2 &&& (-5 : Int32))), .val (.int (p2 ||| (4 : Int32))), .val (.ref a15), .val (.ref a16), .unset, .unset] [(.ref a16)]))
    refine own_step (fun _ k => XS.iconst X20.here hx rfl (hb hby at_51) k) ?_
    show own_Ends p e below F (T20.setTop (mkF m 52 #[.val (.int p1), .val (.int p2), .val (.int p3), .val (.int (1 : Int32)), .val (.int (p2 &&& (-5 : Int32))), .val (.int (p2 ||| (4 : Int32))), .val (.ref a15), .val (.ref a16), .unset, .unset] [(.int (0 : Int32)), (.ref a16)]))
    refine own_step (fun _ k => XS.iload X20.here hx rfl (hb hby at_52) rfl k) ?_
    show own_Ends p e below F (T20.setTop (mkF m 54 #[.val (.int p1), .val (.int p2), .val (.int p3), .val (.int (1 : Int32)), .val (.int (p2 &&& (-5 : Int32))), .val (.int (p2 ||| (4 : Int32))), .val (.ref a15), .val (.ref a16), .unset, .unset] [(.int (p2 ||| (4 : Int32))), (.int (0 : Int32)), (.ref a16)]))
    obtain ⟨cl21, Ar21, q21, S21, M21, H21, G21⟩ := ((((V16.other W17 (Ne.symm ne_a15_a16)).other W18 (Ne.symm ne_a15_a16)).other W19 (Ne.symm ne_a15_a16)).other W20 (Ne.symm ne_a15_a16))
    have hin21 : ¬ ((0 : Int32) < 0 ∨ cl21.slots.size ≤ ((0 : Int32) : Int32).toNatClampNeg) := inb_of S21 ⟨by decide, by decide⟩
    obtain ⟨T21, h21, X21, e21, W21, st21⟩ := stI X20 hx hZ e20 Ar21 (j := (0 : Int32)) hin21 (g := (mkF m 54 #[.val (.int p1), .val (.int p2), .val (.int p3), .val (.int (1 : Int32)), .val (.int (p2 &&& (-5 : Int32))), .val (.int (p2 ||| (4 : Int32))), .val (.ref a15), .val (.ref a16), .unset, .unset] [(.int (p2 ||| (4 : Int32))), (.int (0 : Int32)), (.ref a16)])) rfl rfl (hb hby at_54)
    have V21 := Arv.set Ar21 q21 S21 M21 H21 G21 rfl W21 0 rfl (Nat.le_of_ble_eq_true rfl)
    have V21 : Arv Z h21 a16 k16 .int (4 : Int32) [(.int (p2 ||| (4 : Int32))), (.int (0 : Int32)), (.int (0 : Int32)), (.int (0 : Int32))] (.int (0 : Int32)) := V21
    refine own_step st21 ?_
    have N21 := Fr.snoc X21 N20 ge_a16
    have Z21 : n0 ≤ h21.size := by rw [W21.size]; exact Z20
    have SZ21 : h0.size ≤ h21.size := by rw [W21.size]; exact SZ20
    show own_Ends p e below F (T21.setTop (mkF m 55 #[.val (.int p1), .val (.int p2), .val (.int p3), .val (.int (1 : Int32)), .val (.int (p2 &&& (-5 : Int32))), .val (.int (p2 ||| (4 : Int32))), .val (.ref a15), .val (.ref a16), .unset, .unset] []))
    refine own_step (fun _ k => XS.aload X21.here hx rfl (hb hby at_55) rfl rfl k) ?_
    show own_Ends p e below F (T21.setTop (mkF m 57 #[.val (.int p1), .val (.int p2), .val (.int p3), .val (.int (1 : Int32)), .val (.int (p2 &&& (-5 : Int32))), .val (.int (p2 ||| (4 : Int32))), .val (.ref a15), .val (.ref a16), .unset, .unset] [(.ref a16)]))
    refine own_step (fun _ k => XS.iconst X21.here hx rfl (hb hby at_57) k) ?_
    show own_Ends p e below F (T21.setTop (mkF m 58 #[.val (.int p1), .val (.int p2), .val (.int p3), .val (.int (1 : Int32)), .val (.int (p2 &&& (-5 : Int32))), .val (.int (p2 ||| (4 : Int32))), .val (.ref a15), .val (.ref a16), .unset, .unset] [(.int (1 : Int32)), (.ref a16)]))
    refine own_step (fun _ k => XS.iload X21.here hx rfl (hb hby at_58) rfl k) ?_
    show own_Ends p e below F (T21.setTop (mkF m 60 #[.val (.int p1), .val (.int p2), .val (.int p3), .val (.int (1 : Int32)), .val (.int (p2 &&& (-5 : Int32))), .val (.int (p2 ||| (4 : Int32))), .val (.ref a15), .val (.ref a16), .unset, .unset] [(.int (p2 ||| (4 : Int32))), (.int (1 : Int32)), (.ref a16)]))
    obtain ⟨cl22, Ar22, q22, S22, M22, H22, G22⟩ := V21
    have hin22 : ¬ ((1 : Int32) < 0 ∨ cl22.slots.size ≤ ((1 : Int32) : Int32).toNatClampNeg) := inb_of S22 ⟨by decide, by decide⟩
    obtain ⟨T22, h22, X22, e22, W22, st22⟩ := stI X21 hx hZ e21 Ar22 (j := (1 : Int32)) hin22 (g := (mkF m 60 #[.val (.int p1), .val (.int p2), .val (.int p3), .val (.int (1 : Int32)), .val (.int (p2 &&& (-5 : Int32))), .val (.int (p2 ||| (4 : Int32))), .val (.ref a15), .val (.ref a16), .unset, .unset] [(.int (p2 ||| (4 : Int32))), (.int (1 : Int32)), (.ref a16)])) rfl rfl (hb hby at_60)
    have V22 := Arv.set Ar22 q22 S22 M22 H22 G22 rfl W22 1 rfl (Nat.le_of_ble_eq_true rfl)
    have V22 : Arv Z h22 a16 k16 .int (4 : Int32) [(.int (p2 ||| (4 : Int32))), (.int (p2 ||| (4 : Int32))), (.int (0 : Int32)), (.int (0 : Int32))] (.int (0 : Int32)) := V22
    refine own_step st22 ?_
    have N22 := Fr.snoc X22 N21 ge_a16
    have Z22 : n0 ≤ h22.size := by rw [W22.size]; exact Z21
    have SZ22 : h0.size ≤ h22.size := by rw [W22.size]; exact SZ21
    show own_Ends p e below F (T22.setTop (mkF m 61 #[.val (.int p1), .val (.int p2), .val (.int p3), .val (.int (1 : Int32)), .val (.int (p2 &&& (-5 : Int32))), .val (.int (p2 ||| (4 : Int32))), .val (.ref a15), .val (.ref a16), .unset, .unset] []))
    refine own_step (fun _ k => XS.aload X22.here hx rfl (hb hby at_61) rfl rfl k) ?_
    show own_Ends p e below F (T22.setTop (mkF m 63 #[.val (.int p1), .val (.int p2), .val (.int p3), .val (.int (1 : Int32)), .val (.int (p2 &&& (-5 : Int32))), .val (.int (p2 ||| (4 : Int32))), .val (.ref a15), .val (.ref a16), .unset, .unset] [(.ref a16)]))
    refine own_step (fun _ k => XS.iconst X22.here hx rfl (hb hby at_63) k) ?_
    show own_Ends p e below F (T22.setTop (mkF m 64 #[.val (.int p1), .val (.int p2), .val (.int p3), .val (.int (1 : Int32)), .val (.int (p2 &&& (-5 : Int32))), .val (.int (p2 ||| (4 : Int32))), .val (.ref a15), .val (.ref a16), .unset, .unset] [(.int (2 : Int32)), (.ref a16)]))
    refine own_step (fun _ k => XS.iload X22.here hx rfl (hb hby at_64) rfl k) ?_
    show own_Ends p e below F (T22.setTop (mkF m 66 #[.val (.int p1), .val (.int p2), .val (.int p3), .val (.int (1 : Int32)), .val (.int (p2 &&& (-5 : Int32))), .val (.int (p2 ||| (4 : Int32))), .val (.ref a15), .val (.ref a16), .unset, .unset] [(.int (p2 ||| (4 : Int32))), (.int (2 : Int32)), (.ref a16)]))
    obtain ⟨cl23, Ar23, q23, S23, M23, H23, G23⟩ := V22
    have hin23 : ¬ ((2 : Int32) < 0 ∨ cl23.slots.size ≤ ((2 : Int32) : Int32).toNatClampNeg) := inb_of S23 ⟨by decide, by decide⟩
    obtain ⟨T23, h23, X23, e23, W23, st23⟩ := stI X22 hx hZ e22 Ar23 (j := (2 : Int32)) hin23 (g := (mkF m 66 #[.val (.int p1), .val (.int p2), .val (.int p3), .val (.int (1 : Int32)), .val (.int (p2 &&& (-5 : Int32))), .val (.int (p2 ||| (4 : Int32))), .val (.ref a15), .val (.ref a16), .unset, .unset] [(.int (p2 ||| (4 : Int32))), (.int (2 : Int32)), (.ref a16)])) rfl rfl (hb hby at_66)
    have V23 := Arv.set Ar23 q23 S23 M23 H23 G23 rfl W23 2 rfl (Nat.le_of_ble_eq_true rfl)
    have V23 : Arv Z h23 a16 k16 .int (4 : Int32) [(.int (p2 ||| (4 : Int32))), (.int (p2 ||| (4 : Int32))), (.int (p2 ||| (4 : Int32))), (.int (0 : Int32))] (.int (0 : Int32)) := V23
    refine own_step st23 ?_
    have N23 := Fr.snoc X23 N22 ge_a16
    have Z23 : n0 ≤ h23.size := by rw [W23.size]; exact Z22
    have SZ23 : h0.size ≤ h23.size := by rw [W23.size]; exact SZ22
    show own_Ends p e below F (T23.setTop (mkF m 67 #[.val (.int p1), .val (.int p2), .val (.int p3), .val (.int (1 : Int32)), .val (.int (p2 &&& (-5 : Int32))), .val (.int (p2 ||| (4 : Int32))), .val (.ref a15), .val (.ref a16), .unset, .unset] []))
    refine own_step (fun _ k => XS.aload X23.here hx rfl (hb hby at_67) rfl rfl k) ?_
    show own_Ends p e below F (T23.setTop (mkF m 69 #[.val (.int p1), .val (.int p2), .val (.int p3), .val (.int (1 : Int32)), .val (.int (p2 &&& (-5 : Int32))), .val (.int (p2 ||| (4 : Int32))), .val (.ref a15), .val (.ref a16), .unset, .unset] [(.ref a16)]))
    refine own_step (fun _ k => XS.iconst X23.here hx rfl (hb hby at_69) k) ?_
    show own_Ends p e below F (T23.setTop (mkF m 70 #[.val (.int p1), .val (.int p2), .val (.int p3), .val (.int (1 : Int32)), .val (.int (p2 &&& (-5 : Int32))), .val (.int (p2 ||| (4 : Int32))), .val (.ref a15), .val (.ref a16), .unset, .unset] [(.int (3 : Int32)), (.ref a16)]))
    refine own_step (fun _ k => XS.iload X23.here hx rfl (hb hby at_70) rfl k) ?_
    show own_Ends p e below F (T23.setTop (mkF m 72 #[.val (.int p1), .val (.int p2), .val (.int p3), .val (.int (1 : Int32)), .val (.int (p2 &&& (-5 : Int32))), .val (.int (p2 ||| (4 : Int32))), .val (.ref a15), .val (.ref a16), .unset, .unset] [(.int (p2 ||| (4 : Int32))), (.int (3 : Int32)), (.ref a16)]))
    obtain ⟨cl24, Ar24, q24, S24, M24, H24, G24⟩ := V23
    have hin24 : ¬ ((3 : Int32) < 0 ∨ cl24.slots.size ≤ ((3 : Int32) : Int32).toNatClampNeg) := inb_of S24 ⟨by decide, by decide⟩
    obtain ⟨T24, h24, X24, e24, W24, st24⟩ := stI X23 hx hZ e23 Ar24 (j := (3 : Int32)) hin24 (g := (mkF m 72 #[.val (.int p1), .val (.int p2), .val (.int p3), .val (.int (1 : Int32)), .val (.int (p2 &&& (-5 : Int32))), .val (.int (p2 ||| (4 : Int32))), .val (.ref a15), .val (.ref a16), .unset, .unset] [(.int (p2 ||| (4 : Int32))), (.int (3 : Int32)), (.ref a16)])) rfl rfl (hb hby at_72)
    have V24 := Arv.set Ar24 q24 S24 M24 H24 G24 rfl W24 3 rfl (Nat.le_of_ble_eq_true rfl)
    have V24 : Arv Z h24 a16 k16 .int (4 : Int32) [(.int (p2 ||| (4 : Int32))), (.int (p2 ||| (4 : Int32))), (.int (p2 ||| (4 : Int32))), (.int (p2 ||| (4 : Int32)))] (.int (0 : Int32)) := V24
    refine own_step st24 ?_
    have N24 := Fr.snoc X24 N23 ge_a16
    have Z24 : n0 ≤ h24.size := by rw [W24.size]; exact Z23
    have SZ24 : h0.size ≤ h24.size := by rw [W24.size]; exact SZ23
    show own_Ends p e below F (T24.setTop (mkF m 73 #[.val (.int p1), .val (.int p2), .val (.int p3), .val (.int (1 : Int32)), .val (.int (p2 &&& (-5 : Int32))), .val (.int (p2 ||| (4 : Int32))), .val (.ref a15), .val (.ref a16), .unset, .unset] []))
    refine own_step (fun _ k => XS.aload X24.here hx rfl (hb hby at_73) rfl rfl k) ?_
    show own_Ends p e below F (T24.setTop (mkF m 75 #[.val (.int p1), .val (.int p2), .val (.int p3), .val (.int (1 : Int32)), .val (.int (p2 &&& (-5 : Int32))), .val (.int (p2 ||| (4 : Int32))), .val (.ref a15), .val (.ref a16), .unset, .unset] [(.ref a15)]))
    refine own_step (fun _ k => XS.iloadN X24.here hx rfl (hb hby at_75) rfl k) ?_
    show own_Ends p e below F (T24.setTop (mkF m 76 #[.val (.int p1), .val (.int p2), .val (.int p3), .val (.int (1 : Int32)), .val (.int (p2 &&& (-5 : Int32))), .val (.int (p2 ||| (4 : Int32))), .val (.ref a15), .val (.ref a16), .unset, .unset] [(.int (1 : Int32)), (.ref a15)]))
    refine own_step (fun _ k => XS.iloadN X24.here hx rfl (hb hby at_76) rfl k) ?_
    show own_Ends p e below F (T24.setTop (mkF m 77 #[.val (.int p1), .val (.int p2), .val (.int p3), .val (.int (1 : Int32)), .val (.int (p2 &&& (-5 : Int32))), .val (.int (p2 ||| (4 : Int32))), .val (.ref a15), .val (.ref a16), .unset, .unset] [(.int p1), (.int (1 : Int32)), (.ref a15)]))
    refine own_step (fun _ k => XS.iconst X24.here hx rfl (hb hby at_77) k) ?_
    show own_Ends p e below F (T24.setTop (mkF m 78 #[.val (.int p1), .val (.int p2), .val (.int p3), .val (.int (1 : Int32)), .val (.int (p2 &&& (-5 : Int32))), .val (.int (p2 ||| (4 : Int32))), .val (.ref a15), .val (.ref a16), .unset, .unset] [(.int (4 : Int32)), (.int p1), (.int (1 : Int32)), (.ref a15)]))
    refine own_step (fun _ k => XS.ior X24.here hx rfl (hb hby at_78) rfl k) ?_
    show own_Ends p e below F (T24.setTop (mkF m 79 #[.val (.int p1), .val (.int p2), .val (.int p3), .val (.int (1 : Int32)), .val (.int (p2 &&& (-5 : Int32))), .val (.int (p2 ||| (4 : Int32))), .val (.ref a15), .val (.ref a16), .unset, .unset] [(.int (p1 ||| (4 : Int32))), (.int (1 : Int32)), (.ref a15)]))
    obtain ⟨cl25, Ar25, q25, S25, M25, H25, G25⟩ := ((((V20.other W21 ne_a15_a16).other W22 ne_a15_a16).other W23 ne_a15_a16).other W24 ne_a15_a16)
    have hin25 : ¬ ((1 : Int32) < 0 ∨ cl25.slots.size ≤ ((1 : Int32) : Int32).toNatClampNeg) := inb_of S25 ⟨by decide, by decide⟩
    obtain ⟨T25, h25, X25, e25, W25, st25⟩ := stI X24 hx hZ e24 Ar25 (j := (1 : Int32)) hin25 (g := (mkF m 79 #[.val (.int p1), .val (.int p2), .val (.int p3), .val (.int (1 : Int32)), .val (.int (p2 &&& (-5 : Int32))), .val (.int (p2 ||| (4 : Int32))), .val (.ref a15), .val (.ref a16), .unset, .unset] [(.int (p1 ||| (4 : Int32))), (.int (1 : Int32)), (.ref a15)])) rfl rfl (hb hby at_79)
    have V25 := Arv.set Ar25 q25 S25 M25 H25 G25 rfl W25 1 rfl (Nat.le_of_ble_eq_true rfl)
    have V25 : Arv Z h25 a15 k15 .int (4 : Int32) [(.int (p2 &&& (-5 : Int32))), (.int (p1 ||| (4 : Int32))), (.int (p2 &&& (-5 : Int32))), (.int (p2 &&& (-5 : Int32)))] (.int (0 : Int32)) := V25
    refine own_step st25 ?_
    have N25 := Fr.snoc X25 N24 ge_a15
    have Z25 : n0 ≤ h25.size := by rw [W25.size]; exact Z24
    have SZ25 : h0.size ≤ h25.size := by rw [W25.size]; exact SZ24
    show own_Ends p e below F (T25.setTop (mkF m 80 #[.val (.int p1), .val (.int p2), .val (.int p3), .val (.int (1 : Int32)), .val (.int (p2 &&& (-5 : Int32))), .val (.int (p2 ||| (4 : Int32))), .val (.ref a15), .val (.ref a16), .unset, .unset] []))
    refine own_step (fun _ k => XS.aload X25.here hx rfl (hb hby at_80) rfl rfl k) ?_
    show own_Ends p e below F (T25.setTop (mkF m 82 #[.val (.int p1), .val (.int p2), .val (.int p3), .val (.int (1 : Int32)), .val (.int (p2 &&& (-5 : Int32))), .val (.int (p2 ||| (4 : Int32))), .val (.ref a15), .val (.ref a16), .unset, .unset] [(.ref a16)]))
    refine own_step (fun _ k => XS.iloadN X25.here hx rfl (hb hby at_82) rfl k) ?_
    show own_Ends p e below F (T25.setTop (mkF m 83 #[.val (.int p1), .val (.int p2), .val (.int p3), .val (.int (1 : Int32)), .val (.int (p2 &&& (-5 : Int32))), .val (.int (p2 ||| (4 : Int32))), .val (.ref a15), .val (.ref a16), .unset, .unset] [(.int (1 : Int32)), (.ref a16)]))
    refine own_step (fun _ k => XS.iloadN X25.here hx rfl (hb hby at_83) rfl k) ?_
    show own_Ends p e below F (T25.setTop (mkF m 84 #[.val (.int p1), .val (.int p2), .val (.int p3), .val (.int (1 : Int32)), .val (.int (p2 &&& (-5 : Int32))), .val (.int (p2 ||| (4 : Int32))), .val (.ref a15), .val (.ref a16), .unset, .unset] [(.int p1), (.int (1 : Int32)), (.ref a16)]))
    refine own_step (fun _ k => XS.bipush X25.here hx rfl (hb hby at_84) k) ?_
    show own_Ends p e below F (T25.setTop (mkF m 86 #[.val (.int p1), .val (.int p2), .val (.int p3), .val (.int (1 : Int32)), .val (.int (p2 &&& (-5 : Int32))), .val (.int (p2 ||| (4 : Int32))), .val (.ref a15), .val (.ref a16), .unset, .unset] [(.int (-5 : Int32)), (.int p1), (.int (1 : Int32)), (.ref a16)]))
    refine own_step (fun _ k => XS.iand X25.here hx rfl (hb hby at_86) rfl k) ?_
    show own_Ends p e below F (T25.setTop (mkF m 87 #[.val (.int p1), .val (.int p2), .val (.int p3), .val (.int (1 : Int32)), .val (.int (p2 &&& (-5 : Int32))), .val (.int (p2 ||| (4 : Int32))), .val (.ref a15), .val (.ref a16), .unset, .unset] [(.int (p1 &&& (-5 : Int32))), (.int (1 : Int32)), (.ref a16)]))
    obtain ⟨cl26, Ar26, q26, S26, M26, H26, G26⟩ := (V24.other W25 (Ne.symm ne_a15_a16))
    have hin26 : ¬ ((1 : Int32) < 0 ∨ cl26.slots.size ≤ ((1 : Int32) : Int32).toNatClampNeg) := inb_of S26 ⟨by decide, by decide⟩
    obtain ⟨T26, h26, X26, e26, W26, st26⟩ := stI X25 hx hZ e25 Ar26 (j := (1 : Int32)) hin26 (g := (mkF m 87 #[.val (.int p1), .val (.int p2), .val (.int p3), .val (.int (1 : Int32)), .val (.int (p2 &&& (-5 : Int32))), .val (.int (p2 ||| (4 : Int32))), .val (.ref a15), .val (.ref a16), .unset, .unset] [(.int (p1 &&& (-5 : Int32))), (.int (1 : Int32)), (.ref a16)])) rfl rfl (hb hby at_87)
    have V26 := Arv.set Ar26 q26 S26 M26 H26 G26 rfl W26 1 rfl (Nat.le_of_ble_eq_true rfl)
    have V26 : Arv Z h26 a16 k16 .int (4 : Int32) [(.int (p2 ||| (4 : Int32))), (.int (p1 &&& (-5 : Int32))), (.int (p2 ||| (4 : Int32))), (.int (p2 ||| (4 : Int32)))] (.int (0 : Int32)) := V26
    refine own_step st26 ?_
    have N26 := Fr.snoc X26 N25 ge_a16
    have Z26 : n0 ≤ h26.size := by rw [W26.size]; exact Z25
    have SZ26 : h0.size ≤ h26.size := by rw [W26.size]; exact SZ25
    show own_Ends p e below F (T26.setTop (mkF m 88 #[.val (.int p1), .val (.int p2), .val (.int p3), .val (.int (1 : Int32)), .val (.int (p2 &&& (-5 : Int32))), .val (.int (p2 ||| (4 : Int32))), .val (.ref a15), .val (.ref a16), .unset, .unset] []))
    refine own_step (fun _ k => XS.aload X26.here hx rfl (hb hby at_88) rfl rfl k) ?_
    show own_Ends p e below F (T26.setTop (mkF m 90 #[.val (.int p1), .val (.int p2), .val (.int p3), .val (.int (1 : Int32)), .val (.int (p2 &&& (-5 : Int32))), .val (.int (p2 ||| (4 : Int32))), .val (.ref a15), .val (.ref a16), .unset, .unset] [(.ref a15)]))
    refine own_step (fun _ k => XS.iloadN X26.here hx rfl (hb hby at_90) rfl k) ?_
    show own_Ends p e below F (T26.setTop (mkF m 91 #[.val (.int p1), .val (.int p2), .val (.int p3), .val (.int (1 : Int32)), .val (.int (p2 &&& (-5 : Int32))), .val (.int (p2 ||| (4 : Int32))), .val (.ref a15), .val (.ref a16), .unset, .unset] [(.int (1 : Int32)), (.ref a15)]))
    obtain ⟨_, _, ⟨T27, L27, k27, n27⟩, -, X27, ⟨Lc27, hQ27, l27, y27, z27⟩, st27⟩ := Jvm.LawKit.callS X26 hx (y := (⟨"com/example/entitlement/entitlement/service/AclCode", "inherits", "([II)Z"⟩ : MethodName)) hown (mvT hZ (own_g hw 1 rfl)) (mvT hZ (own_g hw 2 rfl)) (mvT hZ (own_g hw 3 rfl)) (mvT hZ (own_g hw 4 rfl)) (by decide) (backOf (W := 0) (rm1 l Z a0 hw [] a15 (1 : Int32) k15 (4 : Int32) [(.int (p2 &&& (-5 : Int32))), (.int (p1 ||| (4 : Int32))), (.int (p2 &&& (-5 : Int32))), (.int (p2 &&& (-5 : Int32)))] (.int (0 : Int32)) (p1 ||| (4 : Int32)) h26 n0 Z26 (V25.other W26 ne_a15_a16) ⟨by decide, by decide⟩ rfl) hZ (own_g hw 4 rfl) (own_g hw 3 rfl) (by decide) (by decide)) (g := (mkF m 91 #[.val (.int p1), .val (.int p2), .val (.int p3), .val (.int (1 : Int32)), .val (.int (p2 &&& (-5 : Int32))), .val (.int (p2 ||| (4 : Int32))), .val (.ref a15), .val (.ref a16), .unset, .unset] [(.int (1 : Int32)), (.ref a15)])) rfl (by rw [hml]; rfl) (argsL := [(.ref a15), (.int (1 : Int32))]) (rest := []) (lenOf pd__28_5bII_29Z rfl) rfl (by show 2 * 0 + _ ≤ _; exact Nat.le_of_eq rfl) (hb hby at_91) (fun _ _ => ⟨rfl, e26, (by decide : 2 + 0 ≤ _), (by decide : 8 + 0 ≤ _)⟩)
    dsimp only [Pt.U, Pt.locs, Pt.cells, Pt.slots] at X27 l27 y27 z27 st27 hQ27
    subst l27 y27 z27
    obtain ⟨rfl, Nq27, eq27⟩ := hQ27
    have N27 := Fr.app N26 Nq27
    refine own_step st27 ?_
    show own_Ends p e below F (T27.setTop (mkF m 94 #[.val (.int p1), .val (.int p2), .val (.int p3), .val (.int (1 : Int32)), .val (.int (p2 &&& (-5 : Int32))), .val (.int (p2 ||| (4 : Int32))), .val (.ref a15), .val (.ref a16), .unset, .unset] [(.int (own_inh (p1 ||| (4 : Int32))))]))
    refine own_step (fun _ k => XS.istore X27.here hx rfl (hb hby at_94) rfl (l' := #[.val (.int p1), .val (.int p2), .val (.int p3), .val (.int (1 : Int32)), .val (.int (p2 &&& (-5 : Int32))), .val (.int (p2 ||| (4 : Int32))), .val (.ref a15), .val (.ref a16), .val (.int (own_inh (p1 ||| (4 : Int32)))), .unset]) rfl k) ?_
    show own_Ends p e below F (T27.setTop (mkF m 96 #[.val (.int p1), .val (.int p2), .val (.int p3), .val (.int (1 : Int32)), .val (.int (p2 &&& (-5 : Int32))), .val (.int (p2 ||| (4 : Int32))), .val (.ref a15), .val (.ref a16), .val (.int (own_inh (p1 ||| (4 : Int32)))), .unset] []))
    refine own_step (fun _ k => XS.aload X27.here hx rfl (hb hby at_96) rfl rfl k) ?_
    show own_Ends p e below F (T27.setTop (mkF m 98 #[.val (.int p1), .val (.int p2), .val (.int p3), .val (.int (1 : Int32)), .val (.int (p2 &&& (-5 : Int32))), .val (.int (p2 ||| (4 : Int32))), .val (.ref a15), .val (.ref a16), .val (.int (own_inh (p1 ||| (4 : Int32)))), .unset] [(.ref a16)]))
    refine own_step (fun _ k => XS.iloadN X27.here hx rfl (hb hby at_98) rfl k) ?_
    show own_Ends p e below F (T27.setTop (mkF m 99 #[.val (.int p1), .val (.int p2), .val (.int p3), .val (.int (1 : Int32)), .val (.int (p2 &&& (-5 : Int32))), .val (.int (p2 ||| (4 : Int32))), .val (.ref a15), .val (.ref a16), .val (.int (own_inh (p1 ||| (4 : Int32)))), .unset] [(.int (1 : Int32)), (.ref a16)]))
    obtain ⟨_, _, ⟨T28, L28, k28, n28⟩, -, X28, ⟨Lc28, hQ28, l28, y28, z28⟩, st28⟩ := Jvm.LawKit.callS X27 hx (y := (⟨"com/example/entitlement/entitlement/service/AclCode", "inherits", "([II)Z"⟩ : MethodName)) hown (mvT hZ (own_g hw 1 rfl)) (mvT hZ (own_g hw 2 rfl)) (mvT hZ (own_g hw 3 rfl)) (mvT hZ (own_g hw 4 rfl)) (by decide) (backOf (W := 0) (rm1 l Z a0 hw [] a16 (1 : Int32) k16 (4 : Int32) [(.int (p2 ||| (4 : Int32))), (.int (p1 &&& (-5 : Int32))), (.int (p2 ||| (4 : Int32))), (.int (p2 ||| (4 : Int32)))] (.int (0 : Int32)) (p1 &&& (-5 : Int32)) h26 n0 Z26 V26 ⟨by decide, by decide⟩ rfl) hZ (own_g hw 4 rfl) (own_g hw 3 rfl) (by decide) (by decide)) (g := (mkF m 99 #[.val (.int p1), .val (.int p2), .val (.int p3), .val (.int (1 : Int32)), .val (.int (p2 &&& (-5 : Int32))), .val (.int (p2 ||| (4 : Int32))), .val (.ref a15), .val (.ref a16), .val (.int (own_inh (p1 ||| (4 : Int32)))), .unset] [(.int (1 : Int32)), (.ref a16)])) rfl (by rw [hml]; rfl) (argsL := [(.ref a16), (.int (1 : Int32))]) (rest := []) (lenOf pd__28_5bII_29Z rfl) rfl (by show 2 * 0 + _ ≤ _; exact Nat.le_of_eq rfl) (hb hby at_99) (fun _ _ => ⟨rfl, eq27, (by decide : 2 + 0 ≤ _), (by decide : 8 + 0 ≤ _)⟩)
    dsimp only [Pt.U, Pt.locs, Pt.cells, Pt.slots] at X28 l28 y28 z28 st28 hQ28
    subst l28 y28 z28
    obtain ⟨rfl, Nq28, eq28⟩ := hQ28
    have N28 := Fr.app N27 Nq28
    refine own_step st28 ?_
    show own_Ends p e below F (T28.setTop (mkF m 102 #[.val (.int p1), .val (.int p2), .val (.int p3), .val (.int (1 : Int32)), .val (.int (p2 &&& (-5 : Int32))), .val (.int (p2 ||| (4 : Int32))), .val (.ref a15), .val (.ref a16), .val (.int (own_inh (p1 ||| (4 : Int32)))), .unset] [(.int (own_inh (p1 &&& (-5 : Int32))))]))
    refine own_step (fun _ k => XS.istore X28.here hx rfl (hb hby at_102) rfl (l' := #[.val (.int p1), .val (.int p2), .val (.int p3), .val (.int (1 : Int32)), .val (.int (p2 &&& (-5 : Int32))), .val (.int (p2 ||| (4 : Int32))), .val (.ref a15), .val (.ref a16), .val (.int (own_inh (p1 ||| (4 : Int32)))), .val (.int (own_inh (p1 &&& (-5 : Int32))))]) rfl k) ?_
    show own_Ends p e below F (T28.setTop (mkF m 104 #[.val (.int p1), .val (.int p2), .val (.int p3), .val (.int (1 : Int32)), .val (.int (p2 &&& (-5 : Int32))), .val (.int (p2 ||| (4 : Int32))), .val (.ref a15), .val (.ref a16), .val (.int (own_inh (p1 ||| (4 : Int32)))), .val (.int (own_inh (p1 &&& (-5 : Int32))))] []))
    refine own_step (fun _ k => XS.iload X28.here hx rfl (hb hby at_104) rfl k) ?_
    show own_Ends p e below F (T28.setTop (mkF m 106 #[.val (.int p1), .val (.int p2), .val (.int p3), .val (.int (1 : Int32)), .val (.int (p2 &&& (-5 : Int32))), .val (.int (p2 ||| (4 : Int32))), .val (.ref a15), .val (.ref a16), .val (.int (own_inh (p1 ||| (4 : Int32)))), .val (.int (own_inh (p1 &&& (-5 : Int32))))] [(.int (own_inh (p1 ||| (4 : Int32))))]))
    refine own_step (fun _ k => XS.ifNo X28.here hx rfl (hb hby at_106) rfl ((if0 _ _).trans (feq (own_in1 p1 : ¬ ((own_inh (p1 ||| (4 : Int32))) = (0 : Int32)))).1) k) ?_
    show own_Ends p e below F (T28.setTop (mkF m 109 #[.val (.int p1), .val (.int p2), .val (.int p3), .val (.int (1 : Int32)), .val (.int (p2 &&& (-5 : Int32))), .val (.int (p2 ||| (4 : Int32))), .val (.ref a15), .val (.ref a16), .val (.int (own_inh (p1 ||| (4 : Int32)))), .val (.int (own_inh (p1 &&& (-5 : Int32))))] []))
    refine own_step (fun _ k => XS.iload X28.here hx rfl (hb hby at_109) rfl k) ?_
    show own_Ends p e below F (T28.setTop (mkF m 111 #[.val (.int p1), .val (.int p2), .val (.int p3), .val (.int (1 : Int32)), .val (.int (p2 &&& (-5 : Int32))), .val (.int (p2 ||| (4 : Int32))), .val (.ref a15), .val (.ref a16), .val (.int (own_inh (p1 ||| (4 : Int32)))), .val (.int (own_inh (p1 &&& (-5 : Int32))))] [(.int (own_inh (p1 &&& (-5 : Int32))))]))
    refine own_step (fun _ k => XS.ifNo X28.here hx rfl (hb hby at_111) rfl ((if0 _ _).trans (teq (own_in0 p1 : (own_inh (p1 &&& (-5 : Int32))) = (0 : Int32))).2) k) ?_
    show own_Ends p e below F (T28.setTop (mkF m 114 #[.val (.int p1), .val (.int p2), .val (.int p3), .val (.int (1 : Int32)), .val (.int (p2 &&& (-5 : Int32))), .val (.int (p2 ||| (4 : Int32))), .val (.ref a15), .val (.ref a16), .val (.int (own_inh (p1 ||| (4 : Int32)))), .val (.int (own_inh (p1 &&& (-5 : Int32))))] []))
    refine own_step (fun _ k => XS.iconst X28.here hx rfl (hb hby at_114) k) ?_
    show own_Ends p e below F (T28.setTop (mkF m 115 #[.val (.int p1), .val (.int p2), .val (.int p3), .val (.int (1 : Int32)), .val (.int (p2 &&& (-5 : Int32))), .val (.int (p2 ||| (4 : Int32))), .val (.ref a15), .val (.ref a16), .val (.int (own_inh (p1 ||| (4 : Int32)))), .val (.int (own_inh (p1 &&& (-5 : Int32))))] [(.int (1 : Int32))]))
    refine own_step (fun _ k => XS.goto X28.here hx rfl (pc0 := 115) (pc' := 119) rfl (hb hby at_115) (by decide) (by decide) k) ?_
    show own_Ends p e below F (T28.setTop (mkF m 119 #[.val (.int p1), .val (.int p2), .val (.int p3), .val (.int (1 : Int32)), .val (.int (p2 &&& (-5 : Int32))), .val (.int (p2 ||| (4 : Int32))), .val (.ref a15), .val (.ref a16), .val (.int (own_inh (p1 ||| (4 : Int32)))), .val (.int (own_inh (p1 &&& (-5 : Int32))))] [(.int (1 : Int32))]))
    rw [hF]
    exact own_ret X28 (v := (some (.int (nar .boolean (1 : Int32))))) (fun h => by rw [Bd.returns] at h; cases h) Bd.notSynchronized (fun fs hr => retN X28 hx (t := .boolean) Bd.returns (by simp) (hb hby at_119) hr) (by decide) (by decide) (by rw [eq28]; exact ⟨rfl, N28⟩)
  · rw [q]
    show own_Ends p e below F (s₁.setTop (mkF m 4 #[.val (.int p1), .val (.int p2), .val (.int p3), .val (.int (2 : Int32)), .unset, .unset, .unset, .unset, .unset, .unset] []))
    refine own_step (fun _ k => XS.iloadN X0.here hx rfl (hb hby at_4) rfl k) ?_
    show own_Ends p e below F (s₁.setTop (mkF m 5 #[.val (.int p1), .val (.int p2), .val (.int p3), .val (.int (2 : Int32)), .unset, .unset, .unset, .unset, .unset, .unset] [(.int p2)]))
    refine own_step (fun _ k => XS.bipush X0.here hx rfl (hb hby at_5) k) ?_
    show own_Ends p e below F (s₁.setTop (mkF m 7 #[.val (.int p1), .val (.int p2), .val (.int p3), .val (.int (2 : Int32)), .unset, .unset, .unset, .unset, .unset, .unset] [(.int (-5 : Int32)), (.int p2)]))
    refine own_step (fun _ k => XS.iand X0.here hx rfl (hb hby at_7) rfl k) ?_
    show own_Ends p e below F (s₁.setTop (mkF m 8 #[.val (.int p1), .val (.int p2), .val (.int p3), .val (.int (2 : Int32)), .unset, .unset, .unset, .unset, .unset, .unset] [(.int (p2 &&& (-5 : Int32)))]))
    refine own_step (fun _ k => XS.istore X0.here hx rfl (hb hby at_8) rfl (l' := #[.val (.int p1), .val (.int p2), .val (.int p3), .val (.int (2 : Int32)), .val (.int (p2 &&& (-5 : Int32))), .unset, .unset, .unset, .unset, .unset]) rfl k) ?_
    show own_Ends p e below F (s₁.setTop (mkF m 10 #[.val (.int p1), .val (.int p2), .val (.int p3), .val (.int (2 : Int32)), .val (.int (p2 &&& (-5 : Int32))), .unset, .unset, .unset, .unset, .unset] []))
    refine own_step (fun _ k => XS.iloadN X0.here hx rfl (hb hby at_10) rfl k) ?_
    show own_Ends p e below F (s₁.setTop (mkF m 11 #[.val (.int p1), .val (.int p2), .val (.int p3), .val (.int (2 : Int32)), .val (.int (p2 &&& (-5 : Int32))), .unset, .unset, .unset, .unset, .unset] [(.int p2)]))
    refine own_step (fun _ k => XS.iconst X0.here hx rfl (hb hby at_11) k) ?_
    show own_Ends p e below F (s₁.setTop (mkF m 12 #[.val (.int p1), .val (.int p2), .val (.int p3), .val (.int (2 : Int32)), .val (.int (p2 &&& (-5 : Int32))), .unset, .unset, .unset, .unset, .unset] [(.int (4 : Int32)), (.int p2)]))
    refine own_step (fun _ k => XS.ior X0.here hx rfl (hb hby at_12) rfl k) ?_
    show own_Ends p e below F (s₁.setTop (mkF m 13 #[.val (.int p1), .val (.int p2), .val (.int p3), .val (.int (2 : Int32)), .val (.int (p2 &&& (-5 : Int32))), .unset, .unset, .unset, .unset, .unset] [(.int (p2 ||| (4 : Int32)))]))
    refine own_step (fun _ k => XS.istore X0.here hx rfl (hb hby at_13) rfl (l' := #[.val (.int p1), .val (.int p2), .val (.int p3), .val (.int (2 : Int32)), .val (.int (p2 &&& (-5 : Int32))), .val (.int (p2 ||| (4 : Int32))), .unset, .unset, .unset, .unset]) rfl k) ?_
    show own_Ends p e below F (s₁.setTop (mkF m 15 #[.val (.int p1), .val (.int p2), .val (.int p3), .val (.int (2 : Int32)), .val (.int (p2 &&& (-5 : Int32))), .val (.int (p2 ||| (4 : Int32))), .unset, .unset, .unset, .unset] []))
    refine own_step (fun _ k => XS.iconst X0.here hx rfl (hb hby at_15) k) ?_
    show own_Ends p e below F (s₁.setTop (mkF m 16 #[.val (.int p1), .val (.int p2), .val (.int p3), .val (.int (2 : Int32)), .val (.int (p2 &&& (-5 : Int32))), .val (.int (p2 ||| (4 : Int32))), .unset, .unset, .unset, .unset] [(.int (4 : Int32))]))
    obtain ⟨T29, h29, k29, X29, e29, E29, A29, st29⟩ := newP X0 hx hZ (own_g hw 0 rfl) e0 (g := (mkF m 16 #[.val (.int p1), .val (.int p2), .val (.int p3), .val (.int (2 : Int32)), .val (.int (p2 &&& (-5 : Int32))), .val (.int (p2 ||| (4 : Int32))), .unset, .unset, .unset, .unset] [(.int (4 : Int32))])) rfl (hb hby at_16) rfl (by decide) (cap := 4) (by decide) (by decide) (by decide) (by decide)
    obtain ⟨a29, g29⟩ : ∃ z, z = h0.size := ⟨_, rfl⟩
    rw [← g29] at A29 st29
    have ge_a29 : n0 ≤ a29 := Nat.le_trans Z0 (Nat.le_of_eq g29.symm)
    have sz_a29 : h0.size ≤ a29 := Nat.le_trans (Nat.le_refl h0.size) (Nat.le_of_eq g29.symm)
    have Z29 : n0 ≤ h29.size := Nat.le_trans Z0 E29.1
    have SZ29 : h0.size ≤ h29.size := Nat.le_trans (Nat.le_refl h0.size) E29.1
    have V29 : Arv Z h29 a29 k29 .int (4 : Int32) [(.int (0 : Int32)), (.int (0 : Int32)), (.int (0 : Int32)), (.int (0 : Int32))] (.int (0 : Int32)) := Arv.pad (Arv.new A29 (by decide)) (pad_rep [] _ 4)
    refine own_step st29 ?_
    show own_Ends p e below F (T29.setTop (mkF m 18 #[.val (.int p1), .val (.int p2), .val (.int p3), .val (.int (2 : Int32)), .val (.int (p2 &&& (-5 : Int32))), .val (.int (p2 ||| (4 : Int32))), .unset, .unset, .unset, .unset] [(.ref a29)]))
    refine own_step (fun _ k => XS.astore X29.here hx rfl (hb hby at_18) rfl rfl (l' := #[.val (.int p1), .val (.int p2), .val (.int p3), .val (.int (2 : Int32)), .val (.int (p2 &&& (-5 : Int32))), .val (.int (p2 ||| (4 : Int32))), .val (.ref a29), .unset, .unset, .unset]) rfl k) ?_
    show own_Ends p e below F (T29.setTop (mkF m 20 #[.val (.int p1), .val (.int p2), .val (.int p3), .val (.int (2 : Int32)), .val (.int (p2 &&& (-5 : Int32))), .val (.int (p2 ||| (4 : Int32))), .val (.ref a29), .unset, .unset, .unset] []))
    refine own_step (fun _ k => XS.iconst X29.here hx rfl (hb hby at_20) k) ?_
    show own_Ends p e below F (T29.setTop (mkF m 21 #[.val (.int p1), .val (.int p2), .val (.int p3), .val (.int (2 : Int32)), .val (.int (p2 &&& (-5 : Int32))), .val (.int (p2 ||| (4 : Int32))), .val (.ref a29), .unset, .unset, .unset] [(.int (4 : Int32))]))
    obtain ⟨T30, h30, k30, X30, e30, E30, A30, st30⟩ := newP X29 hx hZ (own_g hw 0 rfl) e29 (g := (mkF m 21 #[.val (.int p1), .val (.int p2), .val (.int p3), .val (.int (2 : Int32)), .val (.int (p2 &&& (-5 : Int32))), .val (.int (p2 ||| (4 : Int32))), .val (.ref a29), .unset, .unset, .unset] [(.int (4 : Int32))])) rfl (hb hby at_21) rfl (by decide) (cap := 4) (by decide) (by decide) (by decide) (by decide)
    obtain ⟨a30, g30⟩ : ∃ z, z = h29.size := ⟨_, rfl⟩
    rw [← g30] at A30 st30
    have ge_a30 : n0 ≤ a30 := Nat.le_trans Z29 (Nat.le_of_eq g30.symm)
    have sz_a30 : h0.size ≤ a30 := Nat.le_trans SZ29 (Nat.le_of_eq g30.symm)
    have ne_a29_a30 : a29 ≠ a30 := Nat.ne_of_lt (by rw [g30]; exact V29.lt)
    have Z30 : n0 ≤ h30.size := Nat.le_trans Z29 E30.1
    have SZ30 : h0.size ≤ h30.size := Nat.le_trans SZ29 E30.1
    have V30 : Arv Z h30 a30 k30 .int (4 : Int32) [(.int (0 : Int32)), (.int (0 : Int32)), (.int (0 : Int32)), (.int (0 : Int32))] (.int (0 : Int32)) := Arv.pad (Arv.new A30 (by decide)) (pad_rep [] _ 4)
    refine own_step st30 ?_
    show own_Ends p e below F (T30.setTop (mkF m 23 #[.val (.int p1), .val (.int p2), .val (.int p3), .val (.int (2 : Int32)), .val (.int (p2 &&& (-5 : Int32))), .val (.int (p2 ||| (4 : Int32))), .val (.ref a29), .unset, .unset, .unset] [(.ref a30)]))
    refine own_step (fun _ k => XS.astore X30.here hx rfl (hb hby at_23) rfl rfl (l' := #[.val (.int p1), .val (.int p2), .val (.int p3), .val (.int (2 : Int32)), .val (.int (p2 &&& (-5 : Int32))), .val (.int (p2 ||| (4 : Int32))), .val (.ref a29), .val (.ref a30), .unset, .unset]) rfl k) ?_
    show own_Ends p e below F (T30.setTop (mkF m 25 #[.val (.int p1), .val (.int p2), .val (.int p3), .val (.int (2 : Int32)), .val (.int (p2 &&& (-5 : Int32))), .val (.int (p2 ||| (4 : Int32))), .val (.ref a29), .val (.ref a30), .unset, .unset] []))
    refine own_step (fun _ k => XS.aload X30.here hx rfl (hb hby at_25) rfl rfl k) ?_
    show own_Ends p e below F (T30.setTop (mkF m 27 #[.val (.int p1), .val (.int p2), .val (.int p3), .val (.int (2 : Int32)), .val (.int (p2 &&& (-5 : Int32))), .val (.int (p2 ||| (4 : Int32))), .val (.ref a29), .val (.ref a30), .unset, .unset] [(.ref a29)]))
    refine own_step (fun _ k => XS.iconst X30.here hx rfl (hb hby at_27) k) ?_
    show own_Ends p e below F (T30.setTop (mkF m 28 #[.val (.int p1), .val (.int p2), .val (.int p3), .val (.int (2 : Int32)), .val (.int (p2 &&& (-5 : Int32))), .val (.int (p2 ||| (4 : Int32))), .val (.ref a29), .val (.ref a30), .unset, .unset] [(.int (0 : Int32)), (.ref a29)]))
    refine own_step (fun _ k => XS.iload X30.here hx rfl (hb hby at_28) rfl k) ?_
    show own_Ends p e below F (T30.setTop (mkF m 30 #[.val (.int p1), .val (.int p2), .val (.int p3), .val (.int (2 : Int32)), .val (.int (p2 &&& (-5 : Int32))), .val (.int (p2 ||| (4 : Int32))), .val (.ref a29), .val (.ref a30), .unset, .unset] [(.int (p2 &&& (-5 : Int32))), (.int (0 : Int32)), (.ref a29)]))
    obtain ⟨cl31, Ar31, q31, S31, M31, H31, G31⟩ := (V29.ext E30)
    have hin31 : ¬ ((0 : Int32) < 0 ∨ cl31.slots.size ≤ ((0 : Int32) : Int32).toNatClampNeg) := inb_of S31 ⟨by decide, by decide⟩
    obtain ⟨T31, h31, X31, e31, W31, st31⟩ := stI X30 hx hZ e30 Ar31 (j := (0 : Int32)) hin31 (g := (mkF m 30 #[.val (.int p1), .val (.int p2), .val (.int p3), .val (.int (2 : Int32)), .val (.int (p2 &&& (-5 : Int32))), .val (.int (p2 ||| (4 : Int32))), .val (.ref a29), .val (.ref a30), .unset, .unset] [(.int (p2 &&& (-5 : Int32))), (.int (0 : Int32)), (.ref a29)])) rfl rfl (hb hby at_30)
    have V31 := Arv.set Ar31 q31 S31 M31 H31 G31 rfl W31 0 rfl (Nat.le_of_ble_eq_true rfl)
    have V31 : Arv Z h31 a29 k29 .int (4 : Int32) [(.int (p2 &&& (-5 : Int32))), (.int (0 : Int32)), (.int (0 : Int32)), (.int (0 : Int32))] (.int (0 : Int32)) := V31
    refine own_step st31 ?_
    have N31 := Fr.snoc X31 N0 ge_a29
    have Z31 : n0 ≤ h31.size := by rw [W31.size]; exact Z30
    have SZ31 : h0.size ≤ h31.size := by rw [W31.size]; exact SZ30
    show own_Ends p e below F (T31.setTop (mkF m 31 #[.val (.int p1), .val (.int p2), .val (.int p3), .val (.int (2 : Int32)), .val (.int (p2 &&& (-5 : Int32))), .val (.int (p2 ||| (4 : Int32))), .val (.ref a29), .val (.ref a30), .unset, .unset] []))
    refine own_step (fun _ k => XS.aload X31.here hx rfl (hb hby at_31) rfl rfl k) ?_
    show own_Ends p e below F (T31.setTop (mkF m 33 #[.val (.int p1), .val (.int p2), .val (.int p3), .val (.int (2 : Int32)), .val (.int (p2 &&& (-5 : Int32))), .val (.int (p2 ||| (4 : Int32))), .val (.ref a29), .val (.ref a30), .unset, .unset] [(.ref a29)]))
    refine own_step (fun _ k => XS.iconst X31.here hx rfl (hb hby at_33) k) ?_
    show own_Ends p e below F (T31.setTop (mkF m 34 #[.val (.int p1), .val (.int p2), .val (.int p3), .val (.int (2 : Int32)), .val (.int (p2 &&& (-5 : Int32))), .val (.int (p2 ||| (4 : Int32))), .val (.ref a29), .val (.ref a30), .unset, .unset] [(.int (1 : Int32)), (.ref a29)]))
    refine own_step (fun _ k => XS.iload X31.here hx rfl (hb hby at_34) rfl k) ?_
    show own_Ends p e below F (T31.setTop (mkF m 36 #[.val (.int p1), .val (.int p2), .val (.int p3), .val (.int (2 : Int32)), .val (.int (p2 &&& (-5 : Int32))), .val (.int (p2 ||| (4 : Int32))), .val (.ref a29), .val (.ref a30), .unset, .unset] [(.int (p2 &&& (-5 : Int32))), (.int (1 : Int32)), (.ref a29)]))
    obtain ⟨cl32, Ar32, q32, S32, M32, H32, G32⟩ := V31
    have hin32 : ¬ ((1 : Int32) < 0 ∨ cl32.slots.size ≤ ((1 : Int32) : Int32).toNatClampNeg) := inb_of S32 ⟨by decide, by decide⟩
    obtain ⟨T32, h32, X32, e32, W32, st32⟩ := stI X31 hx hZ e31 Ar32 (j := (1 : Int32)) hin32 (g := (mkF m 36 #[.val (.int p1), .val (.int p2), .val (.int p3), .val (.int (2 : Int32)), .val (.int (p2 &&& (-5 : Int32))), .val (.int (p2 ||| (4 : Int32))), .val (.ref a29), .val (.ref a30), .unset, .unset] [(.int (p2 &&& (-5 : Int32))), (.int (1 : Int32)), (.ref a29)])) rfl rfl (hb hby at_36)
    have V32 := Arv.set Ar32 q32 S32 M32 H32 G32 rfl W32 1 rfl (Nat.le_of_ble_eq_true rfl)
    have V32 : Arv Z h32 a29 k29 .int (4 : Int32) [(.int (p2 &&& (-5 : Int32))), (.int (p2 &&& (-5 : Int32))), (.int (0 : Int32)), (.int (0 : Int32))] (.int (0 : Int32)) := V32
    refine own_step st32 ?_
    have N32 := Fr.snoc X32 N31 ge_a29
    have Z32 : n0 ≤ h32.size := by rw [W32.size]; exact Z31
    have SZ32 : h0.size ≤ h32.size := by rw [W32.size]; exact SZ31
    show own_Ends p e below F (T32.setTop (mkF m 37 #[.val (.int p1), .val (.int p2), .val (.int p3), .val (.int (2 : Int32)), .val (.int (p2 &&& (-5 : Int32))), .val (.int (p2 ||| (4 : Int32))), .val (.ref a29), .val (.ref a30), .unset, .unset] []))
    refine own_step (fun _ k => XS.aload X32.here hx rfl (hb hby at_37) rfl rfl k) ?_
    show own_Ends p e below F (T32.setTop (mkF m 39 #[.val (.int p1), .val (.int p2), .val (.int p3), .val (.int (2 : Int32)), .val (.int (p2 &&& (-5 : Int32))), .val (.int (p2 ||| (4 : Int32))), .val (.ref a29), .val (.ref a30), .unset, .unset] [(.ref a29)]))
    refine own_step (fun _ k => XS.iconst X32.here hx rfl (hb hby at_39) k) ?_
    show own_Ends p e below F (T32.setTop (mkF m 40 #[.val (.int p1), .val (.int p2), .val (.int p3), .val (.int (2 : Int32)), .val (.int (p2 &&& (-5 : Int32))), .val (.int (p2 ||| (4 : Int32))), .val (.ref a29), .val (.ref a30), .unset, .unset] [(.int (2 : Int32)), (.ref a29)]))
    refine own_step (fun _ k => XS.iload X32.here hx rfl (hb hby at_40) rfl k) ?_
    show own_Ends p e below F (T32.setTop (mkF m 42 #[.val (.int p1), .val (.int p2), .val (.int p3), .val (.int (2 : Int32)), .val (.int (p2 &&& (-5 : Int32))), .val (.int (p2 ||| (4 : Int32))), .val (.ref a29), .val (.ref a30), .unset, .unset] [(.int (p2 &&& (-5 : Int32))), (.int (2 : Int32)), (.ref a29)]))
    obtain ⟨cl33, Ar33, q33, S33, M33, H33, G33⟩ := V32
    have hin33 : ¬ ((2 : Int32) < 0 ∨ cl33.slots.size ≤ ((2 : Int32) : Int32).toNatClampNeg) := inb_of S33 ⟨by decide, by decide⟩
    obtain ⟨T33, h33, X33, e33, W33, st33⟩ := stI X32 hx hZ e32 Ar33 (j := (2 : Int32)) hin33 (g := (mkF m 42 #[.val (.int p1), .val (.int p2), .val (.int p3), .val (.int (2 : Int32)), .val (.int (p2 &&& (-5 : Int32))), .val (.int (p2 ||| (4 : Int32))), .val (.ref a29), .val (.ref a30), .unset, .unset] [(.int (p2 &&& (-5 : Int32))), (.int (2 : Int32)), (.ref a29)])) rfl rfl (hb hby at_42)
    have V33 := Arv.set Ar33 q33 S33 M33 H33 G33 rfl W33 2 rfl (Nat.le_of_ble_eq_true rfl)
    have V33 : Arv Z h33 a29 k29 .int (4 : Int32) [(.int (p2 &&& (-5 : Int32))), (.int (p2 &&& (-5 : Int32))), (.int (p2 &&& (-5 : Int32))), (.int (0 : Int32))] (.int (0 : Int32)) := V33
    refine own_step st33 ?_
    have N33 := Fr.snoc X33 N32 ge_a29
    have Z33 : n0 ≤ h33.size := by rw [W33.size]; exact Z32
    have SZ33 : h0.size ≤ h33.size := by rw [W33.size]; exact SZ32
    show own_Ends p e below F (T33.setTop (mkF m 43 #[.val (.int p1), .val (.int p2), .val (.int p3), .val (.int (2 : Int32)), .val (.int (p2 &&& (-5 : Int32))), .val (.int (p2 ||| (4 : Int32))), .val (.ref a29), .val (.ref a30), .unset, .unset] []))
    refine own_step (fun _ k => XS.aload X33.here hx rfl (hb hby at_43) rfl rfl k) ?_
    show own_Ends p e below F (T33.setTop (mkF m 45 #[.val (.int p1), .val (.int p2), .val (.int p3), .val (.int (2 : Int32)), .val (.int (p2 &&& (-5 : Int32))), .val (.int (p2 ||| (4 : Int32))), .val (.ref a29), .val (.ref a30), .unset, .unset] [(.ref a29)]))
    refine own_step (fun _ k => XS.iconst X33.here hx rfl (hb hby at_45) k) ?_
    show own_Ends p e below F (T33.setTop (mkF m 46 #[.val (.int p1), .val (.int p2), .val (.int p3), .val (.int (2 : Int32)), .val (.int (p2 &&& (-5 : Int32))), .val (.int (p2 ||| (4 : Int32))), .val (.ref a29), .val (.ref a30), .unset, .unset] [(.int (3 : Int32)), (.ref a29)]))
    refine own_step (fun _ k => XS.iload X33.here hx rfl (hb hby at_46) rfl k) ?_
    show own_Ends p e below F (T33.setTop (mkF m 48 #[.val (.int p1), .val (.int p2), .val (.int p3), .val (.int (2 : Int32)), .val (.int (p2 &&& (-5 : Int32))), .val (.int (p2 ||| (4 : Int32))), .val (.ref a29), .val (.ref a30), .unset, .unset] [(.int (p2 &&& (-5 : Int32))), (.int (3 : Int32)), (.ref a29)]))
    obtain ⟨cl34, Ar34, q34, S34, M34, H34, G34⟩ := V33
    have hin34 : ¬ ((3 : Int32) < 0 ∨ cl34.slots.size ≤ ((3 : Int32) : Int32).toNatClampNeg) := inb_of S34 ⟨by decide, by decide⟩
    obtain ⟨T34, h34, X34, e34, W34, st34⟩ := stI X33 hx hZ e33 Ar34 (j := (3 : Int32)) hin34 (g := (mkF m 48 #[.val (.int p1), .val (.int p2), .val (.int p3), .val (.int (2 : Int32)), .val (.int (p2 &&& (-5 : Int32))), .val (.int (p2 ||| (4 : Int32))), .val (.ref a29), .val (.ref a30), .unset, .unset] [(.int (p2 &&& (-5 : Int32))), (.int (3 : Int32)), (.ref a29)])) rfl rfl (hb hby at_48)
    have V34 := Arv.set Ar34 q34 S34 M34 H34 G34 rfl W34 3 rfl (Nat.le_of_ble_eq_true rfl)
    have V34 : Arv Z h34 a29 k29 .int (4 : Int32) [(.int (p2 &&& (-5 : Int32))), (.int (p2 &&& (-5 : Int32))), (.int (p2 &&& (-5 : Int32))), (.int (p2 &&& (-5 : Int32)))] (.int (0 : Int32)) := V34
    refine own_step st34 ?_
    have N34 := Fr.snoc X34 N33 ge_a29
    have Z34 : n0 ≤ h34.size := by rw [W34.size]; exact Z33
    have SZ34 : h0.size ≤ h34.size := by rw [W34.size]; exact SZ33
    show own_Ends p e below F (T34.setTop (mkF m 49 #[.val (.int p1), .val (.int p2), .val (.int p3), .val (.int (2 : Int32)), .val (.int (p2 &&& (-5 : Int32))), .val (.int (p2 ||| (4 : Int32))), .val (.ref a29), .val (.ref a30), .unset, .unset] []))
    refine own_step (fun _ k => XS.aload X34.here hx rfl (hb hby at_49) rfl rfl k) ?_
    show own_Ends p e below F (T34.setTop (mkF m 51 #[.val (.int p1), .val (.int p2), .val (.int p3), .val (.int (2 : Int32)), .val (.int (p2 &&& (-5 : Int32))), .val (.int (p2 ||| (4 : Int32))), .val (.ref a29), .val (.ref a30), .unset, .unset] [(.ref a30)]))
    refine own_step (fun _ k => XS.iconst X34.here hx rfl (hb hby at_51) k) ?_
    show own_Ends p e below F (T34.setTop (mkF m 52 #[.val (.int p1), .val (.int p2), .val (.int p3), .val (.int (2 : Int32)), .val (.int (p2 &&& (-5 : Int32))), .val (.int (p2 ||| (4 : Int32))), .val (.ref a29), .val (.ref a30), .unset, .unset] [(.int (0 : Int32)), (.ref a30)]))
    refine own_step (fun _ k => XS.iload X34.here hx rfl (hb hby at_52) rfl k) ?_
    show own_Ends p e below F (T34.setTop (mkF m 54 #[.val (.int p1), .val (.int p2), .val (.int p3), .val (.int (2 : Int32)), .val (.int (p2 &&& (-5 : Int32))), .val (.int (p2 ||| (4 : Int32))), .val (.ref a29), .val (.ref a30), .unset, .unset] [(.int (p2 ||| (4 : Int32))), (.int (0 : Int32)), (.ref a30)]))
    obtain ⟨cl35, Ar35, q35, S35, M35, H35, G35⟩ := ((((V30.other W31 (Ne.symm ne_a29_a30)).other W32 (Ne.symm ne_a29_a30)).other W33 (Ne.symm ne_a29_a30)).other W34 (Ne.symm ne_a29_a30))
    have hin35 : ¬ ((0 : Int32) < 0 ∨ cl35.slots.size ≤ ((0 : Int32) : Int32).toNatClampNeg) := inb_of S35 ⟨by decide, by decide⟩
    obtain ⟨T35, h35, X35, e35, W35, st35⟩ := stI X34 hx hZ e34 Ar35 (j := (0 : Int32)) hin35 (g := (mkF m 54 #[.val (.int p1), .val (.int p2), .val (.int p3), .val (.int (2 : Int32)), .val (.int (p2 &&& (-5 : Int32))), .val (.int (p2 ||| (4 : Int32))), .val (.ref a29), .val (.ref a30), .unset, .unset] [(.int (p2 ||| (4 : Int32))), (.int (0 : Int32)), (.ref a30)])) rfl rfl (hb hby at_54)
    have V35 := Arv.set Ar35 q35 S35 M35 H35 G35 rfl W35 0 rfl (Nat.le_of_ble_eq_true rfl)
    have V35 : Arv Z h35 a30 k30 .int (4 : Int32) [(.int (p2 ||| (4 : Int32))), (.int (0 : Int32)), (.int (0 : Int32)), (.int (0 : Int32))] (.int (0 : Int32)) := V35
    refine own_step st35 ?_
    have N35 := Fr.snoc X35 N34 ge_a30
    have Z35 : n0 ≤ h35.size := by rw [W35.size]; exact Z34
    have SZ35 : h0.size ≤ h35.size := by rw [W35.size]; exact SZ34
    show own_Ends p e below F (T35.setTop (mkF m 55 #[.val (.int p1), .val (.int p2), .val (.int p3), .val (.int (2 : Int32)), .val (.int (p2 &&& (-5 : Int32))), .val (.int (p2 ||| (4 : Int32))), .val (.ref a29), .val (.ref a30), .unset, .unset] []))
    refine own_step (fun _ k => XS.aload X35.here hx rfl (hb hby at_55) rfl rfl k) ?_
    show own_Ends p e below F (T35.setTop (mkF m 57 #[.val (.int p1), .val (.int p2), .val (.int p3), .val (.int (2 : Int32)), .val (.int (p2 &&& (-5 : Int32))), .val (.int (p2 ||| (4 : Int32))), .val (.ref a29), .val (.ref a30), .unset, .unset] [(.ref a30)]))
    refine own_step (fun _ k => XS.iconst X35.here hx rfl (hb hby at_57) k) ?_
    show own_Ends p e below F (T35.setTop (mkF m 58 #[.val (.int p1), .val (.int p2), .val (.int p3), .val (.int (2 : Int32)), .val (.int (p2 &&& (-5 : Int32))), .val (.int (p2 ||| (4 : Int32))), .val (.ref a29), .val (.ref a30), .unset, .unset] [(.int (1 : Int32)), (.ref a30)]))
    refine own_step (fun _ k => XS.iload X35.here hx rfl (hb hby at_58) rfl k) ?_
    show own_Ends p e below F (T35.setTop (mkF m 60 #[.val (.int p1), .val (.int p2), .val (.int p3), .val (.int (2 : Int32)), .val (.int (p2 &&& (-5 : Int32))), .val (.int (p2 ||| (4 : Int32))), .val (.ref a29), .val (.ref a30), .unset, .unset] [(.int (p2 ||| (4 : Int32))), (.int (1 : Int32)), (.ref a30)]))
    obtain ⟨cl36, Ar36, q36, S36, M36, H36, G36⟩ := V35
    have hin36 : ¬ ((1 : Int32) < 0 ∨ cl36.slots.size ≤ ((1 : Int32) : Int32).toNatClampNeg) := inb_of S36 ⟨by decide, by decide⟩
    obtain ⟨T36, h36, X36, e36, W36, st36⟩ := stI X35 hx hZ e35 Ar36 (j := (1 : Int32)) hin36 (g := (mkF m 60 #[.val (.int p1), .val (.int p2), .val (.int p3), .val (.int (2 : Int32)), .val (.int (p2 &&& (-5 : Int32))), .val (.int (p2 ||| (4 : Int32))), .val (.ref a29), .val (.ref a30), .unset, .unset] [(.int (p2 ||| (4 : Int32))), (.int (1 : Int32)), (.ref a30)])) rfl rfl (hb hby at_60)
    have V36 := Arv.set Ar36 q36 S36 M36 H36 G36 rfl W36 1 rfl (Nat.le_of_ble_eq_true rfl)
    have V36 : Arv Z h36 a30 k30 .int (4 : Int32) [(.int (p2 ||| (4 : Int32))), (.int (p2 ||| (4 : Int32))), (.int (0 : Int32)), (.int (0 : Int32))] (.int (0 : Int32)) := V36
    refine own_step st36 ?_
    have N36 := Fr.snoc X36 N35 ge_a30
    have Z36 : n0 ≤ h36.size := by rw [W36.size]; exact Z35
    have SZ36 : h0.size ≤ h36.size := by rw [W36.size]; exact SZ35
    show own_Ends p e below F (T36.setTop (mkF m 61 #[.val (.int p1), .val (.int p2), .val (.int p3), .val (.int (2 : Int32)), .val (.int (p2 &&& (-5 : Int32))), .val (.int (p2 ||| (4 : Int32))), .val (.ref a29), .val (.ref a30), .unset, .unset] []))
    refine own_step (fun _ k => XS.aload X36.here hx rfl (hb hby at_61) rfl rfl k) ?_
    show own_Ends p e below F (T36.setTop (mkF m 63 #[.val (.int p1), .val (.int p2), .val (.int p3), .val (.int (2 : Int32)), .val (.int (p2 &&& (-5 : Int32))), .val (.int (p2 ||| (4 : Int32))), .val (.ref a29), .val (.ref a30), .unset, .unset] [(.ref a30)]))
    refine own_step (fun _ k => XS.iconst X36.here hx rfl (hb hby at_63) k) ?_
    show own_Ends p e below F (T36.setTop (mkF m 64 #[.val (.int p1), .val (.int p2), .val (.int p3), .val (.int (2 : Int32)), .val (.int (p2 &&& (-5 : Int32))), .val (.int (p2 ||| (4 : Int32))), .val (.ref a29), .val (.ref a30), .unset, .unset] [(.int (2 : Int32)), (.ref a30)]))
    refine own_step (fun _ k => XS.iload X36.here hx rfl (hb hby at_64) rfl k) ?_
    show own_Ends p e below F (T36.setTop (mkF m 66 #[.val (.int p1), .val (.int p2), .val (.int p3), .val (.int (2 : Int32)), .val (.int (p2 &&& (-5 : Int32))), .val (.int (p2 ||| (4 : Int32))), .val (.ref a29), .val (.ref a30), .unset, .unset] [(.int (p2 ||| (4 : Int32))), (.int (2 : Int32)), (.ref a30)]))
    obtain ⟨cl37, Ar37, q37, S37, M37, H37, G37⟩ := V36
    have hin37 : ¬ ((2 : Int32) < 0 ∨ cl37.slots.size ≤ ((2 : Int32) : Int32).toNatClampNeg) := inb_of S37 ⟨by decide, by decide⟩
    obtain ⟨T37, h37, X37, e37, W37, st37⟩ := stI X36 hx hZ e36 Ar37 (j := (2 : Int32)) hin37 (g := (mkF m 66 #[.val (.int p1), .val (.int p2), .val (.int p3), .val (.int (2 : Int32)), .val (.int (p2 &&& (-5 : Int32))), .val (.int (p2 ||| (4 : Int32))), .val (.ref a29), .val (.ref a30), .unset, .unset] [(.int (p2 ||| (4 : Int32))), (.int (2 : Int32)), (.ref a30)])) rfl rfl (hb hby at_66)
    have V37 := Arv.set Ar37 q37 S37 M37 H37 G37 rfl W37 2 rfl (Nat.le_of_ble_eq_true rfl)
    have V37 : Arv Z h37 a30 k30 .int (4 : Int32) [(.int (p2 ||| (4 : Int32))), (.int (p2 ||| (4 : Int32))), (.int (p2 ||| (4 : Int32))), (.int (0 : Int32))] (.int (0 : Int32)) := V37
    refine own_step st37 ?_
    have N37 := Fr.snoc X37 N36 ge_a30
    have Z37 : n0 ≤ h37.size := by rw [W37.size]; exact Z36
    have SZ37 : h0.size ≤ h37.size := by rw [W37.size]; exact SZ36
    show own_Ends p e below F (T37.setTop (mkF m 67 #[.val (.int p1), .val (.int p2), .val (.int p3), .val (.int (2 : Int32)), .val (.int (p2 &&& (-5 : Int32))), .val (.int (p2 ||| (4 : Int32))), .val (.ref a29), .val (.ref a30), .unset, .unset] []))
    refine own_step (fun _ k => XS.aload X37.here hx rfl (hb hby at_67) rfl rfl k) ?_
    show own_Ends p e below F (T37.setTop (mkF m 69 #[.val (.int p1), .val (.int p2), .val (.int p3), .val (.int (2 : Int32)), .val (.int (p2 &&& (-5 : Int32))), .val (.int (p2 ||| (4 : Int32))), .val (.ref a29), .val (.ref a30), .unset, .unset] [(.ref a30)]))
    refine own_step (fun _ k => XS.iconst X37.here hx rfl (hb hby at_69) k) ?_
    show own_Ends p e below F (T37.setTop (mkF m 70 #[.val (.int p1), .val (.int p2), .val (.int p3), .val (.int (2 : Int32)), .val (.int (p2 &&& (-5 : Int32))), .val (.int (p2 ||| (4 : Int32))), .val (.ref a29), .val (.ref a30), .unset, .unset] [(.int (3 : Int32)), (.ref a30)]))
    refine own_step (fun _ k => XS.iload X37.here hx rfl (hb hby at_70) rfl k) ?_
    show own_Ends p e below F (T37.setTop (mkF m 72 #[.val (.int p1), .val (.int p2), .val (.int p3), .val (.int (2 : Int32)), .val (.int (p2 &&& (-5 : Int32))), .val (.int (p2 ||| (4 : Int32))), .val (.ref a29), .val (.ref a30), .unset, .unset] [(.int (p2 ||| (4 : Int32))), (.int (3 : Int32)), (.ref a30)]))
    obtain ⟨cl38, Ar38, q38, S38, M38, H38, G38⟩ := V37
    have hin38 : ¬ ((3 : Int32) < 0 ∨ cl38.slots.size ≤ ((3 : Int32) : Int32).toNatClampNeg) := inb_of S38 ⟨by decide, by decide⟩
    obtain ⟨T38, h38, X38, e38, W38, st38⟩ := stI X37 hx hZ e37 Ar38 (j := (3 : Int32)) hin38 (g := (mkF m 72 #[.val (.int p1), .val (.int p2), .val (.int p3), .val (.int (2 : Int32)), .val (.int (p2 &&& (-5 : Int32))), .val (.int (p2 ||| (4 : Int32))), .val (.ref a29), .val (.ref a30), .unset, .unset] [(.int (p2 ||| (4 : Int32))), (.int (3 : Int32)), (.ref a30)])) rfl rfl (hb hby at_72)
    have V38 := Arv.set Ar38 q38 S38 M38 H38 G38 rfl W38 3 rfl (Nat.le_of_ble_eq_true rfl)
    have V38 : Arv Z h38 a30 k30 .int (4 : Int32) [(.int (p2 ||| (4 : Int32))), (.int (p2 ||| (4 : Int32))), (.int (p2 ||| (4 : Int32))), (.int (p2 ||| (4 : Int32)))] (.int (0 : Int32)) := V38
    refine own_step st38 ?_
    have N38 := Fr.snoc X38 N37 ge_a30
    have Z38 : n0 ≤ h38.size := by rw [W38.size]; exact Z37
    have SZ38 : h0.size ≤ h38.size := by rw [W38.size]; exact SZ37
    show own_Ends p e below F (T38.setTop (mkF m 73 #[.val (.int p1), .val (.int p2), .val (.int p3), .val (.int (2 : Int32)), .val (.int (p2 &&& (-5 : Int32))), .val (.int (p2 ||| (4 : Int32))), .val (.ref a29), .val (.ref a30), .unset, .unset] []))
    refine own_step (fun _ k => XS.aload X38.here hx rfl (hb hby at_73) rfl rfl k) ?_
    show own_Ends p e below F (T38.setTop (mkF m 75 #[.val (.int p1), .val (.int p2), .val (.int p3), .val (.int (2 : Int32)), .val (.int (p2 &&& (-5 : Int32))), .val (.int (p2 ||| (4 : Int32))), .val (.ref a29), .val (.ref a30), .unset, .unset] [(.ref a29)]))
    refine own_step (fun _ k => XS.iloadN X38.here hx rfl (hb hby at_75) rfl k) ?_
    show own_Ends p e below F (T38.setTop (mkF m 76 #[.val (.int p1), .val (.int p2), .val (.int p3), .val (.int (2 : Int32)), .val (.int (p2 &&& (-5 : Int32))), .val (.int (p2 ||| (4 : Int32))), .val (.ref a29), .val (.ref a30), .unset, .unset] [(.int (2 : Int32)), (.ref a29)]))
    refine own_step (fun _ k => XS.iloadN X38.here hx rfl (hb hby at_76) rfl k) ?_
    show own_Ends p e below F (T38.setTop (mkF m 77 #[.val (.int p1), .val (.int p2), .val (.int p3), .val (.int (2 : Int32)), .val (.int (p2 &&& (-5 : Int32))), .val (.int (p2 ||| (4 : Int32))), .val (.ref a29), .val (.ref a30), .unset, .unset] [(.int p1), (.int (2 : Int32)), (.ref a29)]))
    refine own_step (fun _ k => XS.iconst X38.here hx rfl (hb hby at_77) k) ?_
    show own_Ends p e below F (T38.setTop (mkF m 78 #[.val (.int p1), .val (.int p2), .val (.int p3), .val (.int (2 : Int32)), .val (.int (p2 &&& (-5 : Int32))), .val (.int (p2 ||| (4 : Int32))), .val (.ref a29), .val (.ref a30), .unset, .unset] [(.int (4 : Int32)), (.int p1), (.int (2 : Int32)), (.ref a29)]))
    refine own_step (fun _ k => XS.ior X38.here hx rfl (hb hby at_78) rfl k) ?_
    show own_Ends p e below F (T38.setTop (mkF m 79 #[.val (.int p1), .val (.int p2), .val (.int p3), .val (.int (2 : Int32)), .val (.int (p2 &&& (-5 : Int32))), .val (.int (p2 ||| (4 : Int32))), .val (.ref a29), .val (.ref a30), .unset, .unset] [(.int (p1 ||| (4 : Int32))), (.int (2 : Int32)), (.ref a29)]))
    obtain ⟨cl39, Ar39, q39, S39, M39, H39, G39⟩ := ((((V34.other W35 ne_a29_a30).other W36 ne_a29_a30).other W37 ne_a29_a30).other W38 ne_a29_a30)
    have hin39 : ¬ ((2 : Int32) < 0 ∨ cl39.slots.size ≤ ((2 : Int32) : Int32).toNatClampNeg) := inb_of S39 ⟨by decide, by decide⟩
    obtain ⟨T39, h39, X39, e39, W39, st39⟩ := stI X38 hx hZ e38 Ar39 (j := (2 : Int32)) hin39 (g := (mkF m 79 #[.val (.int p1), .val (.int p2), .val (.int p3), .val (.int (2 : Int32)), .val (.int (p2 &&& (-5 : Int32))), .val (.int (p2 ||| (4 : Int32))), .val (.ref a29), .val (.ref a30), .unset, .unset] [(.int (p1 ||| (4 : Int32))), (.int (2 : Int32)), (.ref a29)])) rfl rfl (hb hby at_79)
    have V39 := Arv.set Ar39 q39 S39 M39 H39 G39 rfl W39 2 rfl (Nat.le_of_ble_eq_true rfl)
    have V39 : Arv Z h39 a29 k29 .int (4 : Int32) [(.int (p2 &&& (-5 : Int32))), (.int (p2 &&& (-5 : Int32))), (.int (p1 ||| (4 : Int32))), (.int (p2 &&& (-5 : Int32)))] (.int (0 : Int32)) := V39
    refine own_step st39 ?_
    have N39 := Fr.snoc X39 N38 ge_a29
    have Z39 : n0 ≤ h39.size := by rw [W39.size]; exact Z38
    have SZ39 : h0.size ≤ h39.size := by rw [W39.size]; exact SZ38
    show own_Ends p e below F (T39.setTop (mkF m 80 #[.val (.int p1), .val (.int p2), .val (.int p3), .val (.int (2 : Int32)), .val (.int (p2 &&& (-5 : Int32))), .val (.int (p2 ||| (4 : Int32))), .val (.ref a29), .val (.ref a30), .unset, .unset] []))
    refine own_step (fun _ k => XS.aload X39.here hx rfl (hb hby at_80) rfl rfl k) ?_
    show own_Ends p e below F (T39.setTop (mkF m 82 #[.val (.int p1), .val (.int p2), .val (.int p3), .val (.int (2 : Int32)), .val (.int (p2 &&& (-5 : Int32))), .val (.int (p2 ||| (4 : Int32))), .val (.ref a29), .val (.ref a30), .unset, .unset] [(.ref a30)]))
    refine own_step (fun _ k => XS.iloadN X39.here hx rfl (hb hby at_82) rfl k) ?_
    show own_Ends p e below F (T39.setTop (mkF m 83 #[.val (.int p1), .val (.int p2), .val (.int p3), .val (.int (2 : Int32)), .val (.int (p2 &&& (-5 : Int32))), .val (.int (p2 ||| (4 : Int32))), .val (.ref a29), .val (.ref a30), .unset, .unset] [(.int (2 : Int32)), (.ref a30)]))
    refine own_step (fun _ k => XS.iloadN X39.here hx rfl (hb hby at_83) rfl k) ?_
    show own_Ends p e below F (T39.setTop (mkF m 84 #[.val (.int p1), .val (.int p2), .val (.int p3), .val (.int (2 : Int32)), .val (.int (p2 &&& (-5 : Int32))), .val (.int (p2 ||| (4 : Int32))), .val (.ref a29), .val (.ref a30), .unset, .unset] [(.int p1), (.int (2 : Int32)), (.ref a30)]))
    refine own_step (fun _ k => XS.bipush X39.here hx rfl (hb hby at_84) k) ?_
    show own_Ends p e below F (T39.setTop (mkF m 86 #[.val (.int p1), .val (.int p2), .val (.int p3), .val (.int (2 : Int32)), .val (.int (p2 &&& (-5 : Int32))), .val (.int (p2 ||| (4 : Int32))), .val (.ref a29), .val (.ref a30), .unset, .unset] [(.int (-5 : Int32)), (.int p1), (.int (2 : Int32)), (.ref a30)]))
    refine own_step (fun _ k => XS.iand X39.here hx rfl (hb hby at_86) rfl k) ?_
    show own_Ends p e below F (T39.setTop (mkF m 87 #[.val (.int p1), .val (.int p2), .val (.int p3), .val (.int (2 : Int32)), .val (.int (p2 &&& (-5 : Int32))), .val (.int (p2 ||| (4 : Int32))), .val (.ref a29), .val (.ref a30), .unset, .unset] [(.int (p1 &&& (-5 : Int32))), (.int (2 : Int32)), (.ref a30)]))
    obtain ⟨cl40, Ar40, q40, S40, M40, H40, G40⟩ := (V38.other W39 (Ne.symm ne_a29_a30))
    have hin40 : ¬ ((2 : Int32) < 0 ∨ cl40.slots.size ≤ ((2 : Int32) : Int32).toNatClampNeg) := inb_of S40 ⟨by decide, by decide⟩
    obtain ⟨T40, h40, X40, e40, W40, st40⟩ := stI X39 hx hZ e39 Ar40 (j := (2 : Int32)) hin40 (g := (mkF m 87 #[.val (.int p1), .val (.int p2), .val (.int p3), .val (.int (2 : Int32)), .val (.int (p2 &&& (-5 : Int32))), .val (.int (p2 ||| (4 : Int32))), .val (.ref a29), .val (.ref a30), .unset, .unset] [(.int (p1 &&& (-5 : Int32))), (.int (2 : Int32)), (.ref a30)])) rfl rfl (hb hby at_87)
    have V40 := Arv.set Ar40 q40 S40 M40 H40 G40 rfl W40 2 rfl (Nat.le_of_ble_eq_true rfl)
    have V40 : Arv Z h40 a30 k30 .int (4 : Int32) [(.int (p2 ||| (4 : Int32))), (.int (p2 ||| (4 : Int32))), (.int (p1 &&& (-5 : Int32))), (.int (p2 ||| (4 : Int32)))] (.int (0 : Int32)) := V40
    refine own_step st40 ?_
    have N40 := Fr.snoc X40 N39 ge_a30
    have Z40 : n0 ≤ h40.size := by rw [W40.size]; exact Z39
    have SZ40 : h0.size ≤ h40.size := by rw [W40.size]; exact SZ39
    show own_Ends p e below F (T40.setTop (mkF m 88 #[.val (.int p1), .val (.int p2), .val (.int p3), .val (.int (2 : Int32)), .val (.int (p2 &&& (-5 : Int32))), .val (.int (p2 ||| (4 : Int32))), .val (.ref a29), .val (.ref a30), .unset, .unset] []))
    refine own_step (fun _ k => XS.aload X40.here hx rfl (hb hby at_88) rfl rfl k) ?_
    show own_Ends p e below F (T40.setTop (mkF m 90 #[.val (.int p1), .val (.int p2), .val (.int p3), .val (.int (2 : Int32)), .val (.int (p2 &&& (-5 : Int32))), .val (.int (p2 ||| (4 : Int32))), .val (.ref a29), .val (.ref a30), .unset, .unset] [(.ref a29)]))
    refine own_step (fun _ k => XS.iloadN X40.here hx rfl (hb hby at_90) rfl k) ?_
    show own_Ends p e below F (T40.setTop (mkF m 91 #[.val (.int p1), .val (.int p2), .val (.int p3), .val (.int (2 : Int32)), .val (.int (p2 &&& (-5 : Int32))), .val (.int (p2 ||| (4 : Int32))), .val (.ref a29), .val (.ref a30), .unset, .unset] [(.int (2 : Int32)), (.ref a29)]))
    obtain ⟨_, _, ⟨T41, L41, k41, n41⟩, -, X41, ⟨Lc41, hQ41, l41, y41, z41⟩, st41⟩ := Jvm.LawKit.callS X40 hx (y := (⟨"com/example/entitlement/entitlement/service/AclCode", "inherits", "([II)Z"⟩ : MethodName)) hown (mvT hZ (own_g hw 1 rfl)) (mvT hZ (own_g hw 2 rfl)) (mvT hZ (own_g hw 3 rfl)) (mvT hZ (own_g hw 4 rfl)) (by decide) (backOf (W := 0) (rm1 l Z a0 hw [] a29 (2 : Int32) k29 (4 : Int32) [(.int (p2 &&& (-5 : Int32))), (.int (p2 &&& (-5 : Int32))), (.int (p1 ||| (4 : Int32))), (.int (p2 &&& (-5 : Int32)))] (.int (0 : Int32)) (p1 ||| (4 : Int32)) h40 n0 Z40 (V39.other W40 ne_a29_a30) ⟨by decide, by decide⟩ rfl) hZ (own_g hw 4 rfl) (own_g hw 3 rfl) (by decide) (by decide)) (g := (mkF m 91 #[.val (.int p1), .val (.int p2), .val (.int p3), .val (.int (2 : Int32)), .val (.int (p2 &&& (-5 : Int32))), .val (.int (p2 ||| (4 : Int32))), .val (.ref a29), .val (.ref a30), .unset, .unset] [(.int (2 : Int32)), (.ref a29)])) rfl (by rw [hml]; rfl) (argsL := [(.ref a29), (.int (2 : Int32))]) (rest := []) (lenOf pd__28_5bII_29Z rfl) rfl (by show 2 * 0 + _ ≤ _; exact Nat.le_of_eq rfl) (hb hby at_91) (fun _ _ => ⟨rfl, e40, (by decide : 2 + 0 ≤ _), (by decide : 8 + 0 ≤ _)⟩)
    dsimp only [Pt.U, Pt.locs, Pt.cells, Pt.slots] at X41 l41 y41 z41 st41 hQ41
    subst l41 y41 z41
    obtain ⟨rfl, Nq41, eq41⟩ := hQ41
    have N41 := Fr.app N40 Nq41
    refine own_step st41 ?_
    show own_Ends p e below F (T41.setTop (mkF m 94 #[.val (.int p1), .val (.int p2), .val (.int p3), .val (.int (2 : Int32)), .val (.int (p2 &&& (-5 : Int32))), .val (.int (p2 ||| (4 : Int32))), .val (.ref a29), .val (.ref a30), .unset, .unset] [(.int (own_inh (p1 ||| (4 : Int32))))]))
    refine own_step (fun _ k => XS.istore X41.here hx rfl (hb hby at_94) rfl (l' := #[.val (.int p1), .val (.int p2), .val (.int p3), .val (.int (2 : Int32)), .val (.int (p2 &&& (-5 : Int32))), .val (.int (p2 ||| (4 : Int32))), .val (.ref a29), .val (.ref a30), .val (.int (own_inh (p1 ||| (4 : Int32)))), .unset]) rfl k) ?_
    show own_Ends p e below F (T41.setTop (mkF m 96 #[.val (.int p1), .val (.int p2), .val (.int p3), .val (.int (2 : Int32)), .val (.int (p2 &&& (-5 : Int32))), .val (.int (p2 ||| (4 : Int32))), .val (.ref a29), .val (.ref a30), .val (.int (own_inh (p1 ||| (4 : Int32)))), .unset] []))
    refine own_step (fun _ k => XS.aload X41.here hx rfl (hb hby at_96) rfl rfl k) ?_
    show own_Ends p e below F (T41.setTop (mkF m 98 #[.val (.int p1), .val (.int p2), .val (.int p3), .val (.int (2 : Int32)), .val (.int (p2 &&& (-5 : Int32))), .val (.int (p2 ||| (4 : Int32))), .val (.ref a29), .val (.ref a30), .val (.int (own_inh (p1 ||| (4 : Int32)))), .unset] [(.ref a30)]))
    refine own_step (fun _ k => XS.iloadN X41.here hx rfl (hb hby at_98) rfl k) ?_
    show own_Ends p e below F (T41.setTop (mkF m 99 #[.val (.int p1), .val (.int p2), .val (.int p3), .val (.int (2 : Int32)), .val (.int (p2 &&& (-5 : Int32))), .val (.int (p2 ||| (4 : Int32))), .val (.ref a29), .val (.ref a30), .val (.int (own_inh (p1 ||| (4 : Int32)))), .unset] [(.int (2 : Int32)), (.ref a30)]))
    obtain ⟨_, _, ⟨T42, L42, k42, n42⟩, -, X42, ⟨Lc42, hQ42, l42, y42, z42⟩, st42⟩ := Jvm.LawKit.callS X41 hx (y := (⟨"com/example/entitlement/entitlement/service/AclCode", "inherits", "([II)Z"⟩ : MethodName)) hown (mvT hZ (own_g hw 1 rfl)) (mvT hZ (own_g hw 2 rfl)) (mvT hZ (own_g hw 3 rfl)) (mvT hZ (own_g hw 4 rfl)) (by decide) (backOf (W := 0) (rm1 l Z a0 hw [] a30 (2 : Int32) k30 (4 : Int32) [(.int (p2 ||| (4 : Int32))), (.int (p2 ||| (4 : Int32))), (.int (p1 &&& (-5 : Int32))), (.int (p2 ||| (4 : Int32)))] (.int (0 : Int32)) (p1 &&& (-5 : Int32)) h40 n0 Z40 V40 ⟨by decide, by decide⟩ rfl) hZ (own_g hw 4 rfl) (own_g hw 3 rfl) (by decide) (by decide)) (g := (mkF m 99 #[.val (.int p1), .val (.int p2), .val (.int p3), .val (.int (2 : Int32)), .val (.int (p2 &&& (-5 : Int32))), .val (.int (p2 ||| (4 : Int32))), .val (.ref a29), .val (.ref a30), .val (.int (own_inh (p1 ||| (4 : Int32)))), .unset] [(.int (2 : Int32)), (.ref a30)])) rfl (by rw [hml]; rfl) (argsL := [(.ref a30), (.int (2 : Int32))]) (rest := []) (lenOf pd__28_5bII_29Z rfl) rfl (by show 2 * 0 + _ ≤ _; exact Nat.le_of_eq rfl) (hb hby at_99) (fun _ _ => ⟨rfl, eq41, (by decide : 2 + 0 ≤ _), (by decide : 8 + 0 ≤ _)⟩)
    dsimp only [Pt.U, Pt.locs, Pt.cells, Pt.slots] at X42 l42 y42 z42 st42 hQ42
    subst l42 y42 z42
    obtain ⟨rfl, Nq42, eq42⟩ := hQ42
    have N42 := Fr.app N41 Nq42
    refine own_step st42 ?_
    show own_Ends p e below F (T42.setTop (mkF m 102 #[.val (.int p1), .val (.int p2), .val (.int p3), .val (.int (2 : Int32)), .val (.int (p2 &&& (-5 : Int32))), .val (.int (p2 ||| (4 : Int32))), .val (.ref a29), .val (.ref a30), .val (.int (own_inh (p1 ||| (4 : Int32)))), .unset] [(.int (own_inh (p1 &&& (-5 : Int32))))]))
    refine own_step (fun _ k => XS.istore X42.here hx rfl (hb hby at_102) rfl (l' := #[.val (.int p1), .val (.int p2), .val (.int p3), .val (.int (2 : Int32)), .val (.int (p2 &&& (-5 : Int32))), .val (.int (p2 ||| (4 : Int32))), .val (.ref a29), .val (.ref a30), .val (.int (own_inh (p1 ||| (4 : Int32)))), .val (.int (own_inh (p1 &&& (-5 : Int32))))]) rfl k) ?_
    show own_Ends p e below F (T42.setTop (mkF m 104 #[.val (.int p1), .val (.int p2), .val (.int p3), .val (.int (2 : Int32)), .val (.int (p2 &&& (-5 : Int32))), .val (.int (p2 ||| (4 : Int32))), .val (.ref a29), .val (.ref a30), .val (.int (own_inh (p1 ||| (4 : Int32)))), .val (.int (own_inh (p1 &&& (-5 : Int32))))] []))
    refine own_step (fun _ k => XS.iload X42.here hx rfl (hb hby at_104) rfl k) ?_
    show own_Ends p e below F (T42.setTop (mkF m 106 #[.val (.int p1), .val (.int p2), .val (.int p3), .val (.int (2 : Int32)), .val (.int (p2 &&& (-5 : Int32))), .val (.int (p2 ||| (4 : Int32))), .val (.ref a29), .val (.ref a30), .val (.int (own_inh (p1 ||| (4 : Int32)))), .val (.int (own_inh (p1 &&& (-5 : Int32))))] [(.int (own_inh (p1 ||| (4 : Int32))))]))
    refine own_step (fun _ k => XS.ifNo X42.here hx rfl (hb hby at_106) rfl ((if0 _ _).trans (feq (own_in1 p1 : ¬ ((own_inh (p1 ||| (4 : Int32))) = (0 : Int32)))).1) k) ?_
    show own_Ends p e below F (T42.setTop (mkF m 109 #[.val (.int p1), .val (.int p2), .val (.int p3), .val (.int (2 : Int32)), .val (.int (p2 &&& (-5 : Int32))), .val (.int (p2 ||| (4 : Int32))), .val (.ref a29), .val (.ref a30), .val (.int (own_inh (p1 ||| (4 : Int32)))), .val (.int (own_inh (p1 &&& (-5 : Int32))))] []))
    refine own_step (fun _ k => XS.iload X42.here hx rfl (hb hby at_109) rfl k) ?_
    show own_Ends p e below F (T42.setTop (mkF m 111 #[.val (.int p1), .val (.int p2), .val (.int p3), .val (.int (2 : Int32)), .val (.int (p2 &&& (-5 : Int32))), .val (.int (p2 ||| (4 : Int32))), .val (.ref a29), .val (.ref a30), .val (.int (own_inh (p1 ||| (4 : Int32)))), .val (.int (own_inh (p1 &&& (-5 : Int32))))] [(.int (own_inh (p1 &&& (-5 : Int32))))]))
    refine own_step (fun _ k => XS.ifNo X42.here hx rfl (hb hby at_111) rfl ((if0 _ _).trans (teq (own_in0 p1 : (own_inh (p1 &&& (-5 : Int32))) = (0 : Int32))).2) k) ?_
    show own_Ends p e below F (T42.setTop (mkF m 114 #[.val (.int p1), .val (.int p2), .val (.int p3), .val (.int (2 : Int32)), .val (.int (p2 &&& (-5 : Int32))), .val (.int (p2 ||| (4 : Int32))), .val (.ref a29), .val (.ref a30), .val (.int (own_inh (p1 ||| (4 : Int32)))), .val (.int (own_inh (p1 &&& (-5 : Int32))))] []))
    refine own_step (fun _ k => XS.iconst X42.here hx rfl (hb hby at_114) k) ?_
    show own_Ends p e below F (T42.setTop (mkF m 115 #[.val (.int p1), .val (.int p2), .val (.int p3), .val (.int (2 : Int32)), .val (.int (p2 &&& (-5 : Int32))), .val (.int (p2 ||| (4 : Int32))), .val (.ref a29), .val (.ref a30), .val (.int (own_inh (p1 ||| (4 : Int32)))), .val (.int (own_inh (p1 &&& (-5 : Int32))))] [(.int (1 : Int32))]))
    refine own_step (fun _ k => XS.goto X42.here hx rfl (pc0 := 115) (pc' := 119) rfl (hb hby at_115) (by decide) (by decide) k) ?_
    show own_Ends p e below F (T42.setTop (mkF m 119 #[.val (.int p1), .val (.int p2), .val (.int p3), .val (.int (2 : Int32)), .val (.int (p2 &&& (-5 : Int32))), .val (.int (p2 ||| (4 : Int32))), .val (.ref a29), .val (.ref a30), .val (.int (own_inh (p1 ||| (4 : Int32)))), .val (.int (own_inh (p1 &&& (-5 : Int32))))] [(.int (1 : Int32))]))
    rw [hF]
    exact own_ret X42 (v := (some (.int (nar .boolean (1 : Int32))))) (fun h => by rw [Bd.returns] at h; cases h) Bd.notSynchronized (fun fs hr => retN X42 hx (t := .boolean) Bd.returns (by simp) (hb hby at_119) hr) (by decide) (by decide) (by rw [eq42]; exact ⟨rfl, N42⟩)
  · rw [q]
    show own_Ends p e below F (s₁.setTop (mkF m 4 #[.val (.int p1), .val (.int p2), .val (.int p3), .val (.int (3 : Int32)), .unset, .unset, .unset, .unset, .unset, .unset] []))
    refine own_step (fun _ k => XS.iloadN X0.here hx rfl (hb hby at_4) rfl k) ?_
    show own_Ends p e below F (s₁.setTop (mkF m 5 #[.val (.int p1), .val (.int p2), .val (.int p3), .val (.int (3 : Int32)), .unset, .unset, .unset, .unset, .unset, .unset] [(.int p2)]))
    refine own_step (fun _ k => XS.bipush X0.here hx rfl (hb hby at_5) k) ?_
    show own_Ends p e below F (s₁.setTop (mkF m 7 #[.val (.int p1), .val (.int p2), .val (.int p3), .val (.int (3 : Int32)), .unset, .unset, .unset, .unset, .unset, .unset] [(.int (-5 : Int32)), (.int p2)]))
    refine own_step (fun _ k => XS.iand X0.here hx rfl (hb hby at_7) rfl k) ?_
    show own_Ends p e below F (s₁.setTop (mkF m 8 #[.val (.int p1), .val (.int p2), .val (.int p3), .val (.int (3 : Int32)), .unset, .unset, .unset, .unset, .unset, .unset] [(.int (p2 &&& (-5 : Int32)))]))
    refine own_step (fun _ k => XS.istore X0.here hx rfl (hb hby at_8) rfl (l' := #[.val (.int p1), .val (.int p2), .val (.int p3), .val (.int (3 : Int32)), .val (.int (p2 &&& (-5 : Int32))), .unset, .unset, .unset, .unset, .unset]) rfl k) ?_
    show own_Ends p e below F (s₁.setTop (mkF m 10 #[.val (.int p1), .val (.int p2), .val (.int p3), .val (.int (3 : Int32)), .val (.int (p2 &&& (-5 : Int32))), .unset, .unset, .unset, .unset, .unset] []))
    refine own_step (fun _ k => XS.iloadN X0.here hx rfl (hb hby at_10) rfl k) ?_
    show own_Ends p e below F (s₁.setTop (mkF m 11 #[.val (.int p1), .val (.int p2), .val (.int p3), .val (.int (3 : Int32)), .val (.int (p2 &&& (-5 : Int32))), .unset, .unset, .unset, .unset, .unset] [(.int p2)]))
    refine own_step (fun _ k => XS.iconst X0.here hx rfl (hb hby at_11) k) ?_
    show own_Ends p e below F (s₁.setTop (mkF m 12 #[.val (.int p1), .val (.int p2), .val (.int p3), .val (.int (3 : Int32)), .val (.int (p2 &&& (-5 : Int32))), .unset, .unset, .unset, .unset, .unset] [(.int (4 : Int32)), (.int p2)]))
    refine own_step (fun _ k => XS.ior X0.here hx rfl (hb hby at_12) rfl k) ?_
    show own_Ends p e below F (s₁.setTop (mkF m 13 #[.val (.int p1), .val (.int p2), .val (.int p3), .val (.int (3 : Int32)), .val (.int (p2 &&& (-5 : Int32))), .unset, .unset, .unset, .unset, .unset] [(.int (p2 ||| (4 : Int32)))]))
    refine own_step (fun _ k => XS.istore X0.here hx rfl (hb hby at_13) rfl (l' := #[.val (.int p1), .val (.int p2), .val (.int p3), .val (.int (3 : Int32)), .val (.int (p2 &&& (-5 : Int32))), .val (.int (p2 ||| (4 : Int32))), .unset, .unset, .unset, .unset]) rfl k) ?_
    show own_Ends p e below F (s₁.setTop (mkF m 15 #[.val (.int p1), .val (.int p2), .val (.int p3), .val (.int (3 : Int32)), .val (.int (p2 &&& (-5 : Int32))), .val (.int (p2 ||| (4 : Int32))), .unset, .unset, .unset, .unset] []))
    refine own_step (fun _ k => XS.iconst X0.here hx rfl (hb hby at_15) k) ?_
    show own_Ends p e below F (s₁.setTop (mkF m 16 #[.val (.int p1), .val (.int p2), .val (.int p3), .val (.int (3 : Int32)), .val (.int (p2 &&& (-5 : Int32))), .val (.int (p2 ||| (4 : Int32))), .unset, .unset, .unset, .unset] [(.int (4 : Int32))]))
    obtain ⟨T43, h43, k43, X43, e43, E43, A43, st43⟩ := newP X0 hx hZ (own_g hw 0 rfl) e0 (g := (mkF m 16 #[.val (.int p1), .val (.int p2), .val (.int p3), .val (.int (3 : Int32)), .val (.int (p2 &&& (-5 : Int32))), .val (.int (p2 ||| (4 : Int32))), .unset, .unset, .unset, .unset] [(.int (4 : Int32))])) rfl (hb hby at_16) rfl (by decide) (cap := 4) (by decide) (by decide) (by decide) (by decide)
    obtain ⟨a43, g43⟩ : ∃ z, z = h0.size := ⟨_, rfl⟩
    rw [← g43] at A43 st43
    have ge_a43 : n0 ≤ a43 := Nat.le_trans Z0 (Nat.le_of_eq g43.symm)
    have sz_a43 : h0.size ≤ a43 := Nat.le_trans (Nat.le_refl h0.size) (Nat.le_of_eq g43.symm)
    have Z43 : n0 ≤ h43.size := Nat.le_trans Z0 E43.1
    have SZ43 : h0.size ≤ h43.size := Nat.le_trans (Nat.le_refl h0.size) E43.1
    have V43 : Arv Z h43 a43 k43 .int (4 : Int32) [(.int (0 : Int32)), (.int (0 : Int32)), (.int (0 : Int32)), (.int (0 : Int32))] (.int (0 : Int32)) := Arv.pad (Arv.new A43 (by decide)) (pad_rep [] _ 4)
    refine own_step st43 ?_
    show own_Ends p e below F (T43.setTop (mkF m 18 #[.val (.int p1), .val (.int p2), .val (.int p3), .val (.int (3 : Int32)), .val (.int (p2 &&& (-5 : Int32))), .val (.int (p2 ||| (4 : Int32))), .unset, .unset, .unset, .unset] [(.ref a43)]))
    refine own_step (fun _ k => XS.astore X43.here hx rfl (hb hby at_18) rfl rfl (l' := #[.val (.int p1), .val (.int p2), .val (.int p3), .val (.int (3 : Int32)), .val (.int (p2 &&& (-5 : Int32))), .val (.int (p2 ||| (4 : Int32))), .val (.ref a43), .unset, .unset, .unset]) rfl k) ?_
    show own_Ends p e below F (T43.setTop (mkF m 20 #[.val (.int p1), .val (.int p2), .val (.int p3), .val (.int (3 : Int32)), .val (.int (p2 &&& (-5 : Int32))), .val (.int (p2 ||| (4 : Int32))), .val (.ref a43), .unset, .unset, .unset] []))
    refine own_step (fun _ k => XS.iconst X43.here hx rfl (hb hby at_20) k) ?_
    show own_Ends p e below F (T43.setTop (mkF m 21 #[.val (.int p1), .val (.int p2), .val (.int p3), .val (.int (3 : Int32)), .val (.int (p2 &&& (-5 : Int32))), .val (.int (p2 ||| (4 : Int32))), .val (.ref a43), .unset, .unset, .unset] [(.int (4 : Int32))]))
    obtain ⟨T44, h44, k44, X44, e44, E44, A44, st44⟩ := newP X43 hx hZ (own_g hw 0 rfl) e43 (g := (mkF m 21 #[.val (.int p1), .val (.int p2), .val (.int p3), .val (.int (3 : Int32)), .val (.int (p2 &&& (-5 : Int32))), .val (.int (p2 ||| (4 : Int32))), .val (.ref a43), .unset, .unset, .unset] [(.int (4 : Int32))])) rfl (hb hby at_21) rfl (by decide) (cap := 4) (by decide) (by decide) (by decide) (by decide)
    obtain ⟨a44, g44⟩ : ∃ z, z = h43.size := ⟨_, rfl⟩
    rw [← g44] at A44 st44
    have ge_a44 : n0 ≤ a44 := Nat.le_trans Z43 (Nat.le_of_eq g44.symm)
    have sz_a44 : h0.size ≤ a44 := Nat.le_trans SZ43 (Nat.le_of_eq g44.symm)
    have ne_a43_a44 : a43 ≠ a44 := Nat.ne_of_lt (by rw [g44]; exact V43.lt)
    have Z44 : n0 ≤ h44.size := Nat.le_trans Z43 E44.1
    have SZ44 : h0.size ≤ h44.size := Nat.le_trans SZ43 E44.1
    have V44 : Arv Z h44 a44 k44 .int (4 : Int32) [(.int (0 : Int32)), (.int (0 : Int32)), (.int (0 : Int32)), (.int (0 : Int32))] (.int (0 : Int32)) := Arv.pad (Arv.new A44 (by decide)) (pad_rep [] _ 4)
    refine own_step st44 ?_
    show own_Ends p e below F (T44.setTop (mkF m 23 #[.val (.int p1), .val (.int p2), .val (.int p3), .val (.int (3 : Int32)), .val (.int (p2 &&& (-5 : Int32))), .val (.int (p2 ||| (4 : Int32))), .val (.ref a43), .unset, .unset, .unset] [(.ref a44)]))
    refine own_step (fun _ k => XS.astore X44.here hx rfl (hb hby at_23) rfl rfl (l' := #[.val (.int p1), .val (.int p2), .val (.int p3), .val (.int (3 : Int32)), .val (.int (p2 &&& (-5 : Int32))), .val (.int (p2 ||| (4 : Int32))), .val (.ref a43), .val (.ref a44), .unset, .unset]) rfl k) ?_
    show own_Ends p e below F (T44.setTop (mkF m 25 #[.val (.int p1), .val (.int p2), .val (.int p3), .val (.int (3 : Int32)), .val (.int (p2 &&& (-5 : Int32))), .val (.int (p2 ||| (4 : Int32))), .val (.ref a43), .val (.ref a44), .unset, .unset] []))
    refine own_step (fun _ k => XS.aload X44.here hx rfl (hb hby at_25) rfl rfl k) ?_
    show own_Ends p e below F (T44.setTop (mkF m 27 #[.val (.int p1), .val (.int p2), .val (.int p3), .val (.int (3 : Int32)), .val (.int (p2 &&& (-5 : Int32))), .val (.int (p2 ||| (4 : Int32))), .val (.ref a43), .val (.ref a44), .unset, .unset] [(.ref a43)]))
    refine own_step (fun _ k => XS.iconst X44.here hx rfl (hb hby at_27) k) ?_
    show own_Ends p e below F (T44.setTop (mkF m 28 #[.val (.int p1), .val (.int p2), .val (.int p3), .val (.int (3 : Int32)), .val (.int (p2 &&& (-5 : Int32))), .val (.int (p2 ||| (4 : Int32))), .val (.ref a43), .val (.ref a44), .unset, .unset] [(.int (0 : Int32)), (.ref a43)]))
    refine own_step (fun _ k => XS.iload X44.here hx rfl (hb hby at_28) rfl k) ?_
    show own_Ends p e below F (T44.setTop (mkF m 30 #[.val (.int p1), .val (.int p2), .val (.int p3), .val (.int (3 : Int32)), .val (.int (p2 &&& (-5 : Int32))), .val (.int (p2 ||| (4 : Int32))), .val (.ref a43), .val (.ref a44), .unset, .unset] [(.int (p2 &&& (-5 : Int32))), (.int (0 : Int32)), (.ref a43)]))
    obtain ⟨cl45, Ar45, q45, S45, M45, H45, G45⟩ := (V43.ext E44)
    have hin45 : ¬ ((0 : Int32) < 0 ∨ cl45.slots.size ≤ ((0 : Int32) : Int32).toNatClampNeg) := inb_of S45 ⟨by decide, by decide⟩
    obtain ⟨T45, h45, X45, e45, W45, st45⟩ := stI X44 hx hZ e44 Ar45 (j := (0 : Int32)) hin45 (g := (mkF m 30 #[.val (.int p1), .val (.int p2), .val (.int p3), .val (.int (3 : Int32)), .val (.int (p2 &&& (-5 : Int32))), .val (.int (p2 ||| (4 : Int32))), .val (.ref a43), .val (.ref a44), .unset, .unset] [(.int (p2 &&& (-5 : Int32))), (.int (0 : Int32)), (.ref a43)])) rfl rfl (hb hby at_30)
    have V45 := Arv.set Ar45 q45 S45 M45 H45 G45 rfl W45 0 rfl (Nat.le_of_ble_eq_true rfl)
    have V45 : Arv Z h45 a43 k43 .int (4 : Int32) [(.int (p2 &&& (-5 : Int32))), (.int (0 : Int32)), (.int (0 : Int32)), (.int (0 : Int32))] (.int (0 : Int32)) := V45
    refine own_step st45 ?_
    have N45 := Fr.snoc X45 N0 ge_a43
    have Z45 : n0 ≤ h45.size := by rw [W45.size]; exact Z44
    have SZ45 : h0.size ≤ h45.size := by rw [W45.size]; exact SZ44
    show own_Ends p e below F (T45.setTop (mkF m 31 #[.val (.int p1), .val (.int p2), .val (.int p3), .val (.int (3 : Int32)), .val (.int (p2 &&& (-5 : Int32))), .val (.int (p2 ||| (4 : Int32))), .val (.ref a43), .val (.ref a44), .unset, .unset] []))
    refine own_step (fun _ k => XS.aload X45.here hx rfl (hb hby at_31) rfl rfl k) ?_
    show own_Ends p e below F (T45.setTop (mkF m 33 #[.val (.int p1), .val (.int p2), .val (.int p3), .val (.int (3 : Int32)), .val (.int (p2 &&& (-5 : Int32))), .val (.int (p2 ||| (4 : Int32))), .val (.ref a43), .val (.ref a44), .unset, .unset] [(.ref a43)]))
    refine own_step (fun _ k => XS.iconst X45.here hx rfl (hb hby at_33) k) ?_
    show own_Ends p e below F (T45.setTop (mkF m 34 #[.val (.int p1), .val (.int p2), .val (.int p3), .val (.int (3 : Int32)), .val (.int (p2 &&& (-5 : Int32))), .val (.int (p2 ||| (4 : Int32))), .val (.ref a43), .val (.ref a44), .unset, .unset] [(.int (1 : Int32)), (.ref a43)]))
    refine own_step (fun _ k => XS.iload X45.here hx rfl (hb hby at_34) rfl k) ?_
    show own_Ends p e below F (T45.setTop (mkF m 36 #[.val (.int p1), .val (.int p2), .val (.int p3), .val (.int (3 : Int32)), .val (.int (p2 &&& (-5 : Int32))), .val (.int (p2 ||| (4 : Int32))), .val (.ref a43), .val (.ref a44), .unset, .unset] [(.int (p2 &&& (-5 : Int32))), (.int (1 : Int32)), (.ref a43)]))
    obtain ⟨cl46, Ar46, q46, S46, M46, H46, G46⟩ := V45
    have hin46 : ¬ ((1 : Int32) < 0 ∨ cl46.slots.size ≤ ((1 : Int32) : Int32).toNatClampNeg) := inb_of S46 ⟨by decide, by decide⟩
    obtain ⟨T46, h46, X46, e46, W46, st46⟩ := stI X45 hx hZ e45 Ar46 (j := (1 : Int32)) hin46 (g := (mkF m 36 #[.val (.int p1), .val (.int p2), .val (.int p3), .val (.int (3 : Int32)), .val (.int (p2 &&& (-5 : Int32))), .val (.int (p2 ||| (4 : Int32))), .val (.ref a43), .val (.ref a44), .unset, .unset] [(.int (p2 &&& (-5 : Int32))), (.int (1 : Int32)), (.ref a43)])) rfl rfl (hb hby at_36)
    have V46 := Arv.set Ar46 q46 S46 M46 H46 G46 rfl W46 1 rfl (Nat.le_of_ble_eq_true rfl)
    have V46 : Arv Z h46 a43 k43 .int (4 : Int32) [(.int (p2 &&& (-5 : Int32))), (.int (p2 &&& (-5 : Int32))), (.int (0 : Int32)), (.int (0 : Int32))] (.int (0 : Int32)) := V46
    refine own_step st46 ?_
    have N46 := Fr.snoc X46 N45 ge_a43
    have Z46 : n0 ≤ h46.size := by rw [W46.size]; exact Z45
    have SZ46 : h0.size ≤ h46.size := by rw [W46.size]; exact SZ45
    show own_Ends p e below F (T46.setTop (mkF m 37 #[.val (.int p1), .val (.int p2), .val (.int p3), .val (.int (3 : Int32)), .val (.int (p2 &&& (-5 : Int32))), .val (.int (p2 ||| (4 : Int32))), .val (.ref a43), .val (.ref a44), .unset, .unset] []))
    refine own_step (fun _ k => XS.aload X46.here hx rfl (hb hby at_37) rfl rfl k) ?_
    show own_Ends p e below F (T46.setTop (mkF m 39 #[.val (.int p1), .val (.int p2), .val (.int p3), .val (.int (3 : Int32)), .val (.int (p2 &&& (-5 : Int32))), .val (.int (p2 ||| (4 : Int32))), .val (.ref a43), .val (.ref a44), .unset, .unset] [(.ref a43)]))
    refine own_step (fun _ k => XS.iconst X46.here hx rfl (hb hby at_39) k) ?_
    show own_Ends p e below F (T46.setTop (mkF m 40 #[.val (.int p1), .val (.int p2), .val (.int p3), .val (.int (3 : Int32)), .val (.int (p2 &&& (-5 : Int32))), .val (.int (p2 ||| (4 : Int32))), .val (.ref a43), .val (.ref a44), .unset, .unset] [(.int (2 : Int32)), (.ref a43)]))
    refine own_step (fun _ k => XS.iload X46.here hx rfl (hb hby at_40) rfl k) ?_
    show own_Ends p e below F (T46.setTop (mkF m 42 #[.val (.int p1), .val (.int p2), .val (.int p3), .val (.int (3 : Int32)), .val (.int (p2 &&& (-5 : Int32))), .val (.int (p2 ||| (4 : Int32))), .val (.ref a43), .val (.ref a44), .unset, .unset] [(.int (p2 &&& (-5 : Int32))), (.int (2 : Int32)), (.ref a43)]))
    obtain ⟨cl47, Ar47, q47, S47, M47, H47, G47⟩ := V46
    have hin47 : ¬ ((2 : Int32) < 0 ∨ cl47.slots.size ≤ ((2 : Int32) : Int32).toNatClampNeg) := inb_of S47 ⟨by decide, by decide⟩
    obtain ⟨T47, h47, X47, e47, W47, st47⟩ := stI X46 hx hZ e46 Ar47 (j := (2 : Int32)) hin47 (g := (mkF m 42 #[.val (.int p1), .val (.int p2), .val (.int p3), .val (.int (3 : Int32)), .val (.int (p2 &&& (-5 : Int32))), .val (.int (p2 ||| (4 : Int32))), .val (.ref a43), .val (.ref a44), .unset, .unset] [(.int (p2 &&& (-5 : Int32))), (.int (2 : Int32)), (.ref a43)])) rfl rfl (hb hby at_42)
    have V47 := Arv.set Ar47 q47 S47 M47 H47 G47 rfl W47 2 rfl (Nat.le_of_ble_eq_true rfl)
    have V47 : Arv Z h47 a43 k43 .int (4 : Int32) [(.int (p2 &&& (-5 : Int32))), (.int (p2 &&& (-5 : Int32))), (.int (p2 &&& (-5 : Int32))), (.int (0 : Int32))] (.int (0 : Int32)) := V47
    refine own_step st47 ?_
    have N47 := Fr.snoc X47 N46 ge_a43
    have Z47 : n0 ≤ h47.size := by rw [W47.size]; exact Z46
    have SZ47 : h0.size ≤ h47.size := by rw [W47.size]; exact SZ46
    show own_Ends p e below F (T47.setTop (mkF m 43 #[.val (.int p1), .val (.int p2), .val (.int p3), .val (.int (3 : Int32)), .val (.int (p2 &&& (-5 : Int32))), .val (.int (p2 ||| (4 : Int32))), .val (.ref a43), .val (.ref a44), .unset, .unset] []))
    refine own_step (fun _ k => XS.aload X47.here hx rfl (hb hby at_43) rfl rfl k) ?_
    show own_Ends p e below F (T47.setTop (mkF m 45 #[.val (.int p1), .val (.int p2), .val (.int p3), .val (.int (3 : Int32)), .val (.int (p2 &&& (-5 : Int32))), .val (.int (p2 ||| (4 : Int32))), .val (.ref a43), .val (.ref a44), .unset, .unset] [(.ref a43)]))
    refine own_step (fun _ k => XS.iconst X47.here hx rfl (hb hby at_45) k) ?_
    show own_Ends p e below F (T47.setTop (mkF m 46 #[.val (.int p1), .val (.int p2), .val (.int p3), .val (.int (3 : Int32)), .val (.int (p2 &&& (-5 : Int32))), .val (.int (p2 ||| (4 : Int32))), .val (.ref a43), .val (.ref a44), .unset, .unset] [(.int (3 : Int32)), (.ref a43)]))
    refine own_step (fun _ k => XS.iload X47.here hx rfl (hb hby at_46) rfl k) ?_
    show own_Ends p e below F (T47.setTop (mkF m 48 #[.val (.int p1), .val (.int p2), .val (.int p3), .val (.int (3 : Int32)), .val (.int (p2 &&& (-5 : Int32))), .val (.int (p2 ||| (4 : Int32))), .val (.ref a43), .val (.ref a44), .unset, .unset] [(.int (p2 &&& (-5 : Int32))), (.int (3 : Int32)), (.ref a43)]))
    obtain ⟨cl48, Ar48, q48, S48, M48, H48, G48⟩ := V47
    have hin48 : ¬ ((3 : Int32) < 0 ∨ cl48.slots.size ≤ ((3 : Int32) : Int32).toNatClampNeg) := inb_of S48 ⟨by decide, by decide⟩
    obtain ⟨T48, h48, X48, e48, W48, st48⟩ := stI X47 hx hZ e47 Ar48 (j := (3 : Int32)) hin48 (g := (mkF m 48 #[.val (.int p1), .val (.int p2), .val (.int p3), .val (.int (3 : Int32)), .val (.int (p2 &&& (-5 : Int32))), .val (.int (p2 ||| (4 : Int32))), .val (.ref a43), .val (.ref a44), .unset, .unset] [(.int (p2 &&& (-5 : Int32))), (.int (3 : Int32)), (.ref a43)])) rfl rfl (hb hby at_48)
    have V48 := Arv.set Ar48 q48 S48 M48 H48 G48 rfl W48 3 rfl (Nat.le_of_ble_eq_true rfl)
    have V48 : Arv Z h48 a43 k43 .int (4 : Int32) [(.int (p2 &&& (-5 : Int32))), (.int (p2 &&& (-5 : Int32))), (.int (p2 &&& (-5 : Int32))), (.int (p2 &&& (-5 : Int32)))] (.int (0 : Int32)) := V48
    refine own_step st48 ?_
    have N48 := Fr.snoc X48 N47 ge_a43
    have Z48 : n0 ≤ h48.size := by rw [W48.size]; exact Z47
    have SZ48 : h0.size ≤ h48.size := by rw [W48.size]; exact SZ47
    show own_Ends p e below F (T48.setTop (mkF m 49 #[.val (.int p1), .val (.int p2), .val (.int p3), .val (.int (3 : Int32)), .val (.int (p2 &&& (-5 : Int32))), .val (.int (p2 ||| (4 : Int32))), .val (.ref a43), .val (.ref a44), .unset, .unset] []))
    refine own_step (fun _ k => XS.aload X48.here hx rfl (hb hby at_49) rfl rfl k) ?_
    show own_Ends p e below F (T48.setTop (mkF m 51 #[.val (.int p1), .val (.int p2), .val (.int p3), .val (.int (3 : Int32)), .val (.int (p2 &&& (-5 : Int32))), .val (.int (p2 ||| (4 : Int32))), .val (.ref a43), .val (.ref a44), .unset, .unset] [(.ref a44)]))
    refine own_step (fun _ k => XS.iconst X48.here hx rfl (hb hby at_51) k) ?_
    show own_Ends p e below F (T48.setTop (mkF m 52 #[.val (.int p1), .val (.int p2), .val (.int p3), .val (.int (3 : Int32)), .val (.int (p2 &&& (-5 : Int32))), .val (.int (p2 ||| (4 : Int32))), .val (.ref a43), .val (.ref a44), .unset, .unset] [(.int (0 : Int32)), (.ref a44)]))
    refine own_step (fun _ k => XS.iload X48.here hx rfl (hb hby at_52) rfl k) ?_
    show own_Ends p e below F (T48.setTop (mkF m 54 #[.val (.int p1), .val (.int p2), .val (.int p3), .val (.int (3 : Int32)), .val (.int (p2 &&& (-5 : Int32))), .val (.int (p2 ||| (4 : Int32))), .val (.ref a43), .val (.ref a44), .unset, .unset] [(.int (p2 ||| (4 : Int32))), (.int (0 : Int32)), (.ref a44)]))
    obtain ⟨cl49, Ar49, q49, S49, M49, H49, G49⟩ := ((((V44.other W45 (Ne.symm ne_a43_a44)).other W46 (Ne.symm ne_a43_a44)).other W47 (Ne.symm ne_a43_a44)).other W48 (Ne.symm ne_a43_a44))
    have hin49 : ¬ ((0 : Int32) < 0 ∨ cl49.slots.size ≤ ((0 : Int32) : Int32).toNatClampNeg) := inb_of S49 ⟨by decide, by decide⟩
    obtain ⟨T49, h49, X49, e49, W49, st49⟩ := stI X48 hx hZ e48 Ar49 (j := (0 : Int32)) hin49 (g := (mkF m 54 #[.val (.int p1), .val (.int p2), .val (.int p3), .val (.int (3 : Int32)), .val (.int (p2 &&& (-5 : Int32))), .val (.int (p2 ||| (4 : Int32))), .val (.ref a43), .val (.ref a44), .unset, .unset] [(.int (p2 ||| (4 : Int32))), (.int (0 : Int32)), (.ref a44)])) rfl rfl (hb hby at_54)
    have V49 := Arv.set Ar49 q49 S49 M49 H49 G49 rfl W49 0 rfl (Nat.le_of_ble_eq_true rfl)
    have V49 : Arv Z h49 a44 k44 .int (4 : Int32) [(.int (p2 ||| (4 : Int32))), (.int (0 : Int32)), (.int (0 : Int32)), (.int (0 : Int32))] (.int (0 : Int32)) := V49
    refine own_step st49 ?_
    have N49 := Fr.snoc X49 N48 ge_a44
    have Z49 : n0 ≤ h49.size := by rw [W49.size]; exact Z48
    have SZ49 : h0.size ≤ h49.size := by rw [W49.size]; exact SZ48
    show own_Ends p e below F (T49.setTop (mkF m 55 #[.val (.int p1), .val (.int p2), .val (.int p3), .val (.int (3 : Int32)), .val (.int (p2 &&& (-5 : Int32))), .val (.int (p2 ||| (4 : Int32))), .val (.ref a43), .val (.ref a44), .unset, .unset] []))
    refine own_step (fun _ k => XS.aload X49.here hx rfl (hb hby at_55) rfl rfl k) ?_
    show own_Ends p e below F (T49.setTop (mkF m 57 #[.val (.int p1), .val (.int p2), .val (.int p3), .val (.int (3 : Int32)), .val (.int (p2 &&& (-5 : Int32))), .val (.int (p2 ||| (4 : Int32))), .val (.ref a43), .val (.ref a44), .unset, .unset] [(.ref a44)]))
    refine own_step (fun _ k => XS.iconst X49.here hx rfl (hb hby at_57) k) ?_
    show own_Ends p e below F (T49.setTop (mkF m 58 #[.val (.int p1), .val (.int p2), .val (.int p3), .val (.int (3 : Int32)), .val (.int (p2 &&& (-5 : Int32))), .val (.int (p2 ||| (4 : Int32))), .val (.ref a43), .val (.ref a44), .unset, .unset] [(.int (1 : Int32)), (.ref a44)]))
    refine own_step (fun _ k => XS.iload X49.here hx rfl (hb hby at_58) rfl k) ?_
    show own_Ends p e below F (T49.setTop (mkF m 60 #[.val (.int p1), .val (.int p2), .val (.int p3), .val (.int (3 : Int32)), .val (.int (p2 &&& (-5 : Int32))), .val (.int (p2 ||| (4 : Int32))), .val (.ref a43), .val (.ref a44), .unset, .unset] [(.int (p2 ||| (4 : Int32))), (.int (1 : Int32)), (.ref a44)]))
    obtain ⟨cl50, Ar50, q50, S50, M50, H50, G50⟩ := V49
    have hin50 : ¬ ((1 : Int32) < 0 ∨ cl50.slots.size ≤ ((1 : Int32) : Int32).toNatClampNeg) := inb_of S50 ⟨by decide, by decide⟩
    obtain ⟨T50, h50, X50, e50, W50, st50⟩ := stI X49 hx hZ e49 Ar50 (j := (1 : Int32)) hin50 (g := (mkF m 60 #[.val (.int p1), .val (.int p2), .val (.int p3), .val (.int (3 : Int32)), .val (.int (p2 &&& (-5 : Int32))), .val (.int (p2 ||| (4 : Int32))), .val (.ref a43), .val (.ref a44), .unset, .unset] [(.int (p2 ||| (4 : Int32))), (.int (1 : Int32)), (.ref a44)])) rfl rfl (hb hby at_60)
    have V50 := Arv.set Ar50 q50 S50 M50 H50 G50 rfl W50 1 rfl (Nat.le_of_ble_eq_true rfl)
    have V50 : Arv Z h50 a44 k44 .int (4 : Int32) [(.int (p2 ||| (4 : Int32))), (.int (p2 ||| (4 : Int32))), (.int (0 : Int32)), (.int (0 : Int32))] (.int (0 : Int32)) := V50
    refine own_step st50 ?_
    have N50 := Fr.snoc X50 N49 ge_a44
    have Z50 : n0 ≤ h50.size := by rw [W50.size]; exact Z49
    have SZ50 : h0.size ≤ h50.size := by rw [W50.size]; exact SZ49
    show own_Ends p e below F (T50.setTop (mkF m 61 #[.val (.int p1), .val (.int p2), .val (.int p3), .val (.int (3 : Int32)), .val (.int (p2 &&& (-5 : Int32))), .val (.int (p2 ||| (4 : Int32))), .val (.ref a43), .val (.ref a44), .unset, .unset] []))
    refine own_step (fun _ k => XS.aload X50.here hx rfl (hb hby at_61) rfl rfl k) ?_
    show own_Ends p e below F (T50.setTop (mkF m 63 #[.val (.int p1), .val (.int p2), .val (.int p3), .val (.int (3 : Int32)), .val (.int (p2 &&& (-5 : Int32))), .val (.int (p2 ||| (4 : Int32))), .val (.ref a43), .val (.ref a44), .unset, .unset] [(.ref a44)]))
    refine own_step (fun _ k => XS.iconst X50.here hx rfl (hb hby at_63) k) ?_
    show own_Ends p e below F (T50.setTop (mkF m 64 #[.val (.int p1), .val (.int p2), .val (.int p3), .val (.int (3 : Int32)), .val (.int (p2 &&& (-5 : Int32))), .val (.int (p2 ||| (4 : Int32))), .val (.ref a43), .val (.ref a44), .unset, .unset] [(.int (2 : Int32)), (.ref a44)]))
    refine own_step (fun _ k => XS.iload X50.here hx rfl (hb hby at_64) rfl k) ?_
    show own_Ends p e below F (T50.setTop (mkF m 66 #[.val (.int p1), .val (.int p2), .val (.int p3), .val (.int (3 : Int32)), .val (.int (p2 &&& (-5 : Int32))), .val (.int (p2 ||| (4 : Int32))), .val (.ref a43), .val (.ref a44), .unset, .unset] [(.int (p2 ||| (4 : Int32))), (.int (2 : Int32)), (.ref a44)]))
    obtain ⟨cl51, Ar51, q51, S51, M51, H51, G51⟩ := V50
    have hin51 : ¬ ((2 : Int32) < 0 ∨ cl51.slots.size ≤ ((2 : Int32) : Int32).toNatClampNeg) := inb_of S51 ⟨by decide, by decide⟩
    obtain ⟨T51, h51, X51, e51, W51, st51⟩ := stI X50 hx hZ e50 Ar51 (j := (2 : Int32)) hin51 (g := (mkF m 66 #[.val (.int p1), .val (.int p2), .val (.int p3), .val (.int (3 : Int32)), .val (.int (p2 &&& (-5 : Int32))), .val (.int (p2 ||| (4 : Int32))), .val (.ref a43), .val (.ref a44), .unset, .unset] [(.int (p2 ||| (4 : Int32))), (.int (2 : Int32)), (.ref a44)])) rfl rfl (hb hby at_66)
    have V51 := Arv.set Ar51 q51 S51 M51 H51 G51 rfl W51 2 rfl (Nat.le_of_ble_eq_true rfl)
    have V51 : Arv Z h51 a44 k44 .int (4 : Int32) [(.int (p2 ||| (4 : Int32))), (.int (p2 ||| (4 : Int32))), (.int (p2 ||| (4 : Int32))), (.int (0 : Int32))] (.int (0 : Int32)) := V51
    refine own_step st51 ?_
    have N51 := Fr.snoc X51 N50 ge_a44
    have Z51 : n0 ≤ h51.size := by rw [W51.size]; exact Z50
    have SZ51 : h0.size ≤ h51.size := by rw [W51.size]; exact SZ50
    show own_Ends p e below F (T51.setTop (mkF m 67 #[.val (.int p1), .val (.int p2), .val (.int p3), .val (.int (3 : Int32)), .val (.int (p2 &&& (-5 : Int32))), .val (.int (p2 ||| (4 : Int32))), .val (.ref a43), .val (.ref a44), .unset, .unset] []))
    refine own_step (fun _ k => XS.aload X51.here hx rfl (hb hby at_67) rfl rfl k) ?_
    show own_Ends p e below F (T51.setTop (mkF m 69 #[.val (.int p1), .val (.int p2), .val (.int p3), .val (.int (3 : Int32)), .val (.int (p2 &&& (-5 : Int32))), .val (.int (p2 ||| (4 : Int32))), .val (.ref a43), .val (.ref a44), .unset, .unset] [(.ref a44)]))
    refine own_step (fun _ k => XS.iconst X51.here hx rfl (hb hby at_69) k) ?_
    show own_Ends p e below F (T51.setTop (mkF m 70 #[.val (.int p1), .val (.int p2), .val (.int p3), .val (.int (3 : Int32)), .val (.int (p2 &&& (-5 : Int32))), .val (.int (p2 ||| (4 : Int32))), .val (.ref a43), .val (.ref a44), .unset, .unset] [(.int (3 : Int32)), (.ref a44)]))
    refine own_step (fun _ k => XS.iload X51.here hx rfl (hb hby at_70) rfl k) ?_
    show own_Ends p e below F (T51.setTop (mkF m 72 #[.val (.int p1), .val (.int p2), .val (.int p3), .val (.int (3 : Int32)), .val (.int (p2 &&& (-5 : Int32))), .val (.int (p2 ||| (4 : Int32))), .val (.ref a43), .val (.ref a44), .unset, .unset] [(.int (p2 ||| (4 : Int32))), (.int (3 : Int32)), (.ref a44)]))
    obtain ⟨cl52, Ar52, q52, S52, M52, H52, G52⟩ := V51
    have hin52 : ¬ ((3 : Int32) < 0 ∨ cl52.slots.size ≤ ((3 : Int32) : Int32).toNatClampNeg) := inb_of S52 ⟨by decide, by decide⟩
    obtain ⟨T52, h52, X52, e52, W52, st52⟩ := stI X51 hx hZ e51 Ar52 (j := (3 : Int32)) hin52 (g := (mkF m 72 #[.val (.int p1), .val (.int p2), .val (.int p3), .val (.int (3 : Int32)), .val (.int (p2 &&& (-5 : Int32))), .val (.int (p2 ||| (4 : Int32))), .val (.ref a43), .val (.ref a44), .unset, .unset] [(.int (p2 ||| (4 : Int32))), (.int (3 : Int32)), (.ref a44)])) rfl rfl (hb hby at_72)
    have V52 := Arv.set Ar52 q52 S52 M52 H52 G52 rfl W52 3 rfl (Nat.le_of_ble_eq_true rfl)
    have V52 : Arv Z h52 a44 k44 .int (4 : Int32) [(.int (p2 ||| (4 : Int32))), (.int (p2 ||| (4 : Int32))), (.int (p2 ||| (4 : Int32))), (.int (p2 ||| (4 : Int32)))] (.int (0 : Int32)) := V52
    refine own_step st52 ?_
    have N52 := Fr.snoc X52 N51 ge_a44
    have Z52 : n0 ≤ h52.size := by rw [W52.size]; exact Z51
    have SZ52 : h0.size ≤ h52.size := by rw [W52.size]; exact SZ51
    show own_Ends p e below F (T52.setTop (mkF m 73 #[.val (.int p1), .val (.int p2), .val (.int p3), .val (.int (3 : Int32)), .val (.int (p2 &&& (-5 : Int32))), .val (.int (p2 ||| (4 : Int32))), .val (.ref a43), .val (.ref a44), .unset, .unset] []))
    refine own_step (fun _ k => XS.aload X52.here hx rfl (hb hby at_73) rfl rfl k) ?_
    show own_Ends p e below F (T52.setTop (mkF m 75 #[.val (.int p1), .val (.int p2), .val (.int p3), .val (.int (3 : Int32)), .val (.int (p2 &&& (-5 : Int32))), .val (.int (p2 ||| (4 : Int32))), .val (.ref a43), .val (.ref a44), .unset, .unset] [(.ref a43)]))
    refine own_step (fun _ k => XS.iloadN X52.here hx rfl (hb hby at_75) rfl k) ?_
    show own_Ends p e below F (T52.setTop (mkF m 76 #[.val (.int p1), .val (.int p2), .val (.int p3), .val (.int (3 : Int32)), .val (.int (p2 &&& (-5 : Int32))), .val (.int (p2 ||| (4 : Int32))), .val (.ref a43), .val (.ref a44), .unset, .unset] [(.int (3 : Int32)), (.ref a43)]))
    refine own_step (fun _ k => XS.iloadN X52.here hx rfl (hb hby at_76) rfl k) ?_
    show own_Ends p e below F (T52.setTop (mkF m 77 #[.val (.int p1), .val (.int p2), .val (.int p3), .val (.int (3 : Int32)), .val (.int (p2 &&& (-5 : Int32))), .val (.int (p2 ||| (4 : Int32))), .val (.ref a43), .val (.ref a44), .unset, .unset] [(.int p1), (.int (3 : Int32)), (.ref a43)]))
    refine own_step (fun _ k => XS.iconst X52.here hx rfl (hb hby at_77) k) ?_
    show own_Ends p e below F (T52.setTop (mkF m 78 #[.val (.int p1), .val (.int p2), .val (.int p3), .val (.int (3 : Int32)), .val (.int (p2 &&& (-5 : Int32))), .val (.int (p2 ||| (4 : Int32))), .val (.ref a43), .val (.ref a44), .unset, .unset] [(.int (4 : Int32)), (.int p1), (.int (3 : Int32)), (.ref a43)]))
    refine own_step (fun _ k => XS.ior X52.here hx rfl (hb hby at_78) rfl k) ?_
    show own_Ends p e below F (T52.setTop (mkF m 79 #[.val (.int p1), .val (.int p2), .val (.int p3), .val (.int (3 : Int32)), .val (.int (p2 &&& (-5 : Int32))), .val (.int (p2 ||| (4 : Int32))), .val (.ref a43), .val (.ref a44), .unset, .unset] [(.int (p1 ||| (4 : Int32))), (.int (3 : Int32)), (.ref a43)]))
    obtain ⟨cl53, Ar53, q53, S53, M53, H53, G53⟩ := ((((V48.other W49 ne_a43_a44).other W50 ne_a43_a44).other W51 ne_a43_a44).other W52 ne_a43_a44)
    have hin53 : ¬ ((3 : Int32) < 0 ∨ cl53.slots.size ≤ ((3 : Int32) : Int32).toNatClampNeg) := inb_of S53 ⟨by decide, by decide⟩
    obtain ⟨T53, h53, X53, e53, W53, st53⟩ := stI X52 hx hZ e52 Ar53 (j := (3 : Int32)) hin53 (g := (mkF m 79 #[.val (.int p1), .val (.int p2), .val (.int p3), .val (.int (3 : Int32)), .val (.int (p2 &&& (-5 : Int32))), .val (.int (p2 ||| (4 : Int32))), .val (.ref a43), .val (.ref a44), .unset, .unset] [(.int (p1 ||| (4 : Int32))), (.int (3 : Int32)), (.ref a43)])) rfl rfl (hb hby at_79)
    have V53 := Arv.set Ar53 q53 S53 M53 H53 G53 rfl W53 3 rfl (Nat.le_of_ble_eq_true rfl)
    have V53 : Arv Z h53 a43 k43 .int (4 : Int32) [(.int (p2 &&& (-5 : Int32))), (.int (p2 &&& (-5 : Int32))), (.int (p2 &&& (-5 : Int32))), (.int (p1 ||| (4 : Int32)))] (.int (0 : Int32)) := V53
    refine own_step st53 ?_
    have N53 := Fr.snoc X53 N52 ge_a43
    have Z53 : n0 ≤ h53.size := by rw [W53.size]; exact Z52
    have SZ53 : h0.size ≤ h53.size := by rw [W53.size]; exact SZ52
    show own_Ends p e below F (T53.setTop (mkF m 80 #[.val (.int p1), .val (.int p2), .val (.int p3), .val (.int (3 : Int32)), .val (.int (p2 &&& (-5 : Int32))), .val (.int (p2 ||| (4 : Int32))), .val (.ref a43), .val (.ref a44), .unset, .unset] []))
    refine own_step (fun _ k => XS.aload X53.here hx rfl (hb hby at_80) rfl rfl k) ?_
    show own_Ends p e below F (T53.setTop (mkF m 82 #[.val (.int p1), .val (.int p2), .val (.int p3), .val (.int (3 : Int32)), .val (.int (p2 &&& (-5 : Int32))), .val (.int (p2 ||| (4 : Int32))), .val (.ref a43), .val (.ref a44), .unset, .unset] [(.ref a44)]))
    refine own_step (fun _ k => XS.iloadN X53.here hx rfl (hb hby at_82) rfl k) ?_
    show own_Ends p e below F (T53.setTop (mkF m 83 #[.val (.int p1), .val (.int p2), .val (.int p3), .val (.int (3 : Int32)), .val (.int (p2 &&& (-5 : Int32))), .val (.int (p2 ||| (4 : Int32))), .val (.ref a43), .val (.ref a44), .unset, .unset] [(.int (3 : Int32)), (.ref a44)]))
    refine own_step (fun _ k => XS.iloadN X53.here hx rfl (hb hby at_83) rfl k) ?_
    show own_Ends p e below F (T53.setTop (mkF m 84 #[.val (.int p1), .val (.int p2), .val (.int p3), .val (.int (3 : Int32)), .val (.int (p2 &&& (-5 : Int32))), .val (.int (p2 ||| (4 : Int32))), .val (.ref a43), .val (.ref a44), .unset, .unset] [(.int p1), (.int (3 : Int32)), (.ref a44)]))
    refine own_step (fun _ k => XS.bipush X53.here hx rfl (hb hby at_84) k) ?_
    show own_Ends p e below F (T53.setTop (mkF m 86 #[.val (.int p1), .val (.int p2), .val (.int p3), .val (.int (3 : Int32)), .val (.int (p2 &&& (-5 : Int32))), .val (.int (p2 ||| (4 : Int32))), .val (.ref a43), .val (.ref a44), .unset, .unset] [(.int (-5 : Int32)), (.int p1), (.int (3 : Int32)), (.ref a44)]))
    refine own_step (fun _ k => XS.iand X53.here hx rfl (hb hby at_86) rfl k) ?_
    show own_Ends p e below F (T53.setTop (mkF m 87 #[.val (.int p1), .val (.int p2), .val (.int p3), .val (.int (3 : Int32)), .val (.int (p2 &&& (-5 : Int32))), .val (.int (p2 ||| (4 : Int32))), .val (.ref a43), .val (.ref a44), .unset, .unset] [(.int (p1 &&& (-5 : Int32))), (.int (3 : Int32)), (.ref a44)]))
    obtain ⟨cl54, Ar54, q54, S54, M54, H54, G54⟩ := (V52.other W53 (Ne.symm ne_a43_a44))
    have hin54 : ¬ ((3 : Int32) < 0 ∨ cl54.slots.size ≤ ((3 : Int32) : Int32).toNatClampNeg) := inb_of S54 ⟨by decide, by decide⟩
    obtain ⟨T54, h54, X54, e54, W54, st54⟩ := stI X53 hx hZ e53 Ar54 (j := (3 : Int32)) hin54 (g := (mkF m 87 #[.val (.int p1), .val (.int p2), .val (.int p3), .val (.int (3 : Int32)), .val (.int (p2 &&& (-5 : Int32))), .val (.int (p2 ||| (4 : Int32))), .val (.ref a43), .val (.ref a44), .unset, .unset] [(.int (p1 &&& (-5 : Int32))), (.int (3 : Int32)), (.ref a44)])) rfl rfl (hb hby at_87)
    have V54 := Arv.set Ar54 q54 S54 M54 H54 G54 rfl W54 3 rfl (Nat.le_of_ble_eq_true rfl)
    have V54 : Arv Z h54 a44 k44 .int (4 : Int32) [(.int (p2 ||| (4 : Int32))), (.int (p2 ||| (4 : Int32))), (.int (p2 ||| (4 : Int32))), (.int (p1 &&& (-5 : Int32)))] (.int (0 : Int32)) := V54
    refine own_step st54 ?_
    have N54 := Fr.snoc X54 N53 ge_a44
    have Z54 : n0 ≤ h54.size := by rw [W54.size]; exact Z53
    have SZ54 : h0.size ≤ h54.size := by rw [W54.size]; exact SZ53
    show own_Ends p e below F (T54.setTop (mkF m 88 #[.val (.int p1), .val (.int p2), .val (.int p3), .val (.int (3 : Int32)), .val (.int (p2 &&& (-5 : Int32))), .val (.int (p2 ||| (4 : Int32))), .val (.ref a43), .val (.ref a44), .unset, .unset] []))
    refine own_step (fun _ k => XS.aload X54.here hx rfl (hb hby at_88) rfl rfl k) ?_
    show own_Ends p e below F (T54.setTop (mkF m 90 #[.val (.int p1), .val (.int p2), .val (.int p3), .val (.int (3 : Int32)), .val (.int (p2 &&& (-5 : Int32))), .val (.int (p2 ||| (4 : Int32))), .val (.ref a43), .val (.ref a44), .unset, .unset] [(.ref a43)]))
    refine own_step (fun _ k => XS.iloadN X54.here hx rfl (hb hby at_90) rfl k) ?_
    show own_Ends p e below F (T54.setTop (mkF m 91 #[.val (.int p1), .val (.int p2), .val (.int p3), .val (.int (3 : Int32)), .val (.int (p2 &&& (-5 : Int32))), .val (.int (p2 ||| (4 : Int32))), .val (.ref a43), .val (.ref a44), .unset, .unset] [(.int (3 : Int32)), (.ref a43)]))
    obtain ⟨_, _, ⟨T55, L55, k55, n55⟩, -, X55, ⟨Lc55, hQ55, l55, y55, z55⟩, st55⟩ := Jvm.LawKit.callS X54 hx (y := (⟨"com/example/entitlement/entitlement/service/AclCode", "inherits", "([II)Z"⟩ : MethodName)) hown (mvT hZ (own_g hw 1 rfl)) (mvT hZ (own_g hw 2 rfl)) (mvT hZ (own_g hw 3 rfl)) (mvT hZ (own_g hw 4 rfl)) (by decide) (backOf (W := 0) (rm1 l Z a0 hw [] a43 (3 : Int32) k43 (4 : Int32) [(.int (p2 &&& (-5 : Int32))), (.int (p2 &&& (-5 : Int32))), (.int (p2 &&& (-5 : Int32))), (.int (p1 ||| (4 : Int32)))] (.int (0 : Int32)) (p1 ||| (4 : Int32)) h54 n0 Z54 (V53.other W54 ne_a43_a44) ⟨by decide, by decide⟩ rfl) hZ (own_g hw 4 rfl) (own_g hw 3 rfl) (by decide) (by decide)) (g := (mkF m 91 #[.val (.int p1), .val (.int p2), .val (.int p3), .val (.int (3 : Int32)), .val (.int (p2 &&& (-5 : Int32))), .val (.int (p2 ||| (4 : Int32))), .val (.ref a43), .val (.ref a44), .unset, .unset] [(.int (3 : Int32)), (.ref a43)])) rfl (by rw [hml]; rfl) (argsL := [(.ref a43), (.int (3 : Int32))]) (rest := []) (lenOf pd__28_5bII_29Z rfl) rfl (by show 2 * 0 + _ ≤ _; exact Nat.le_of_eq rfl) (hb hby at_91) (fun _ _ => ⟨rfl, e54, (by decide : 2 + 0 ≤ _), (by decide : 8 + 0 ≤ _)⟩)
    dsimp only [Pt.U, Pt.locs, Pt.cells, Pt.slots] at X55 l55 y55 z55 st55 hQ55
    subst l55 y55 z55
    obtain ⟨rfl, Nq55, eq55⟩ := hQ55
    have N55 := Fr.app N54 Nq55
    refine own_step st55 ?_
    show own_Ends p e below F (T55.setTop (mkF m 94 #[.val (.int p1), .val (.int p2), .val (.int p3), .val (.int (3 : Int32)), .val (.int (p2 &&& (-5 : Int32))), .val (.int (p2 ||| (4 : Int32))), .val (.ref a43), .val (.ref a44), .unset, .unset] [(.int (own_inh (p1 ||| (4 : Int32))))]))
    refine own_step (fun _ k => XS.istore X55.here hx rfl (hb hby at_94) rfl (l' := #[.val (.int p1), .val (.int p2), .val (.int p3), .val (.int (3 : Int32)), .val (.int (p2 &&& (-5 : Int32))), .val (.int (p2 ||| (4 : Int32))), .val (.ref a43), .val (.ref a44), .val (.int (own_inh (p1 ||| (4 : Int32)))), .unset]) rfl k) ?_
    show own_Ends p e below F (T55.setTop (mkF m 96 #[.val (.int p1), .val (.int p2), .val (.int p3), .val (.int (3 : Int32)), .val (.int (p2 &&& (-5 : Int32))), .val (.int (p2 ||| (4 : Int32))), .val (.ref a43), .val (.ref a44), .val (.int (own_inh (p1 ||| (4 : Int32)))), .unset] []))
    refine own_step (fun _ k => XS.aload X55.here hx rfl (hb hby at_96) rfl rfl k) ?_
    show own_Ends p e below F (T55.setTop (mkF m 98 #[.val (.int p1), .val (.int p2), .val (.int p3), .val (.int (3 : Int32)), .val (.int (p2 &&& (-5 : Int32))), .val (.int (p2 ||| (4 : Int32))), .val (.ref a43), .val (.ref a44), .val (.int (own_inh (p1 ||| (4 : Int32)))), .unset] [(.ref a44)]))
    refine own_step (fun _ k => XS.iloadN X55.here hx rfl (hb hby at_98) rfl k) ?_
    show own_Ends p e below F (T55.setTop (mkF m 99 #[.val (.int p1), .val (.int p2), .val (.int p3), .val (.int (3 : Int32)), .val (.int (p2 &&& (-5 : Int32))), .val (.int (p2 ||| (4 : Int32))), .val (.ref a43), .val (.ref a44), .val (.int (own_inh (p1 ||| (4 : Int32)))), .unset] [(.int (3 : Int32)), (.ref a44)]))
    obtain ⟨_, _, ⟨T56, L56, k56, n56⟩, -, X56, ⟨Lc56, hQ56, l56, y56, z56⟩, st56⟩ := Jvm.LawKit.callS X55 hx (y := (⟨"com/example/entitlement/entitlement/service/AclCode", "inherits", "([II)Z"⟩ : MethodName)) hown (mvT hZ (own_g hw 1 rfl)) (mvT hZ (own_g hw 2 rfl)) (mvT hZ (own_g hw 3 rfl)) (mvT hZ (own_g hw 4 rfl)) (by decide) (backOf (W := 0) (rm1 l Z a0 hw [] a44 (3 : Int32) k44 (4 : Int32) [(.int (p2 ||| (4 : Int32))), (.int (p2 ||| (4 : Int32))), (.int (p2 ||| (4 : Int32))), (.int (p1 &&& (-5 : Int32)))] (.int (0 : Int32)) (p1 &&& (-5 : Int32)) h54 n0 Z54 V54 ⟨by decide, by decide⟩ rfl) hZ (own_g hw 4 rfl) (own_g hw 3 rfl) (by decide) (by decide)) (g := (mkF m 99 #[.val (.int p1), .val (.int p2), .val (.int p3), .val (.int (3 : Int32)), .val (.int (p2 &&& (-5 : Int32))), .val (.int (p2 ||| (4 : Int32))), .val (.ref a43), .val (.ref a44), .val (.int (own_inh (p1 ||| (4 : Int32)))), .unset] [(.int (3 : Int32)), (.ref a44)])) rfl (by rw [hml]; rfl) (argsL := [(.ref a44), (.int (3 : Int32))]) (rest := []) (lenOf pd__28_5bII_29Z rfl) rfl (by show 2 * 0 + _ ≤ _; exact Nat.le_of_eq rfl) (hb hby at_99) (fun _ _ => ⟨rfl, eq55, (by decide : 2 + 0 ≤ _), (by decide : 8 + 0 ≤ _)⟩)
    dsimp only [Pt.U, Pt.locs, Pt.cells, Pt.slots] at X56 l56 y56 z56 st56 hQ56
    subst l56 y56 z56
    obtain ⟨rfl, Nq56, eq56⟩ := hQ56
    have N56 := Fr.app N55 Nq56
    refine own_step st56 ?_
    show own_Ends p e below F (T56.setTop (mkF m 102 #[.val (.int p1), .val (.int p2), .val (.int p3), .val (.int (3 : Int32)), .val (.int (p2 &&& (-5 : Int32))), .val (.int (p2 ||| (4 : Int32))), .val (.ref a43), .val (.ref a44), .val (.int (own_inh (p1 ||| (4 : Int32)))), .unset] [(.int (own_inh (p1 &&& (-5 : Int32))))]))
    refine own_step (fun _ k => XS.istore X56.here hx rfl (hb hby at_102) rfl (l' := #[.val (.int p1), .val (.int p2), .val (.int p3), .val (.int (3 : Int32)), .val (.int (p2 &&& (-5 : Int32))), .val (.int (p2 ||| (4 : Int32))), .val (.ref a43), .val (.ref a44), .val (.int (own_inh (p1 ||| (4 : Int32)))), .val (.int (own_inh (p1 &&& (-5 : Int32))))]) rfl k) ?_
    show own_Ends p e below F (T56.setTop (mkF m 104 #[.val (.int p1), .val (.int p2), .val (.int p3), .val (.int (3 : Int32)), .val (.int (p2 &&& (-5 : Int32))), .val (.int (p2 ||| (4 : Int32))), .val (.ref a43), .val (.ref a44), .val (.int (own_inh (p1 ||| (4 : Int32)))), .val (.int (own_inh (p1 &&& (-5 : Int32))))] []))
    refine own_step (fun _ k => XS.iload X56.here hx rfl (hb hby at_104) rfl k) ?_
    show own_Ends p e below F (T56.setTop (mkF m 106 #[.val (.int p1), .val (.int p2), .val (.int p3), .val (.int (3 : Int32)), .val (.int (p2 &&& (-5 : Int32))), .val (.int (p2 ||| (4 : Int32))), .val (.ref a43), .val (.ref a44), .val (.int (own_inh (p1 ||| (4 : Int32)))), .val (.int (own_inh (p1 &&& (-5 : Int32))))] [(.int (own_inh (p1 ||| (4 : Int32))))]))
    refine own_step (fun _ k => XS.ifNo X56.here hx rfl (hb hby at_106) rfl ((if0 _ _).trans (feq (own_in1 p1 : ¬ ((own_inh (p1 ||| (4 : Int32))) = (0 : Int32)))).1) k) ?_
    show own_Ends p e below F (T56.setTop (mkF m 109 #[.val (.int p1), .val (.int p2), .val (.int p3), .val (.int (3 : Int32)), .val (.int (p2 &&& (-5 : Int32))), .val (.int (p2 ||| (4 : Int32))), .val (.ref a43), .val (.ref a44), .val (.int (own_inh (p1 ||| (4 : Int32)))), .val (.int (own_inh (p1 &&& (-5 : Int32))))] []))
    refine own_step (fun _ k => XS.iload X56.here hx rfl (hb hby at_109) rfl k) ?_
    show own_Ends p e below F (T56.setTop (mkF m 111 #[.val (.int p1), .val (.int p2), .val (.int p3), .val (.int (3 : Int32)), .val (.int (p2 &&& (-5 : Int32))), .val (.int (p2 ||| (4 : Int32))), .val (.ref a43), .val (.ref a44), .val (.int (own_inh (p1 ||| (4 : Int32)))), .val (.int (own_inh (p1 &&& (-5 : Int32))))] [(.int (own_inh (p1 &&& (-5 : Int32))))]))
    refine own_step (fun _ k => XS.ifNo X56.here hx rfl (hb hby at_111) rfl ((if0 _ _).trans (teq (own_in0 p1 : (own_inh (p1 &&& (-5 : Int32))) = (0 : Int32))).2) k) ?_
    show own_Ends p e below F (T56.setTop (mkF m 114 #[.val (.int p1), .val (.int p2), .val (.int p3), .val (.int (3 : Int32)), .val (.int (p2 &&& (-5 : Int32))), .val (.int (p2 ||| (4 : Int32))), .val (.ref a43), .val (.ref a44), .val (.int (own_inh (p1 ||| (4 : Int32)))), .val (.int (own_inh (p1 &&& (-5 : Int32))))] []))
    refine own_step (fun _ k => XS.iconst X56.here hx rfl (hb hby at_114) k) ?_
    show own_Ends p e below F (T56.setTop (mkF m 115 #[.val (.int p1), .val (.int p2), .val (.int p3), .val (.int (3 : Int32)), .val (.int (p2 &&& (-5 : Int32))), .val (.int (p2 ||| (4 : Int32))), .val (.ref a43), .val (.ref a44), .val (.int (own_inh (p1 ||| (4 : Int32)))), .val (.int (own_inh (p1 &&& (-5 : Int32))))] [(.int (1 : Int32))]))
    refine own_step (fun _ k => XS.goto X56.here hx rfl (pc0 := 115) (pc' := 119) rfl (hb hby at_115) (by decide) (by decide) k) ?_
    show own_Ends p e below F (T56.setTop (mkF m 119 #[.val (.int p1), .val (.int p2), .val (.int p3), .val (.int (3 : Int32)), .val (.int (p2 &&& (-5 : Int32))), .val (.int (p2 ||| (4 : Int32))), .val (.ref a43), .val (.ref a44), .val (.int (own_inh (p1 ||| (4 : Int32)))), .val (.int (own_inh (p1 &&& (-5 : Int32))))] [(.int (1 : Int32))]))
    rw [hF]
    exact own_ret X56 (v := (some (.int (nar .boolean (1 : Int32))))) (fun h => by rw [Bd.returns] at h; cases h) Bd.notSynchronized (fun fs hr => retN X56 hx (t := .boolean) Bd.returns (by simp) (hb hby at_119) hr) (by decide) (by decide) (by rw [eq56]; exact ⟨rfl, N56⟩)

set_option maxRecDepth 65536 in
set_option maxHeartbeats 40000000 in
theorem comes_1 {Post : Tables → Env → Array Value → State → Outcome → State → Prop} (hpost : ∀ tb e args s v u, (limb_1_1.after args s (.returned v) u = true ∧ limb_1_2.after args s (.returned v) u = true ∧ True) → FrameEnd s (.returned v) u (Jvm.fieldLocs frame_1_writes args s ++ Jvm.arrayLocs frame_1_arrays args s ++ Jvm.staticLocs frame_1_statics s) 16 128 → Post tb e args s (.returned v) u) :
    ArmFor flags0 classFile x code maxLocals ret World_1 tables_1 room_1 Calls_1 rest_1 Pre_1 Post := by
  intro l hfl _ _ p e ha hc hk s m args below hf hA hF happ hP
  obtain ⟨hcalls, hrest, hpre⟩ := hP
  obtain ⟨-, -, -, hnamed, -, -, -, hat⟩ := (Spec.applies_iff hf).mp happ
  obtain ⟨hg, hn⟩ := and_e (Cond.before_iff.mp (show (Jvm.Cond.and given_1 narrow_1).before args s = true from hpre))
  obtain ⟨g0, r0⟩ := and_e hg
  obtain ⟨g1, r1⟩ := and_e r0
  obtain ⟨g2, r2⟩ := and_e r1
  have g3 := r2
  obtain ⟨w0, w1, w2, rfl⟩ : ∃ w0 w1 w2 : Value, args = #[w0, w1, w2] := by
    have hs : args.size = 3 := by simpa [Cond.value, given_1] using g0
    obtain ⟨L⟩ := args
    match L, hs with
    | [w0, w1, w2], _ => exact ⟨w0, w1, w2, rfl⟩
  have hw := fun d (hd : d ∈ tables_1) => atoms_spec (ws := Jvm.Cond.code x code maxLocals ret :: tables_1) hat d (List.mem_cons_of_mem _ hd)
  have hfit : Fit s := fun {y c} hc i hi => by
    obtain ⟨ha, rfl⟩ := Array.getElem?_eq_some_iff.mp hc
    have q := List.all_eq_true.mp ((Array.all_eq_true_iff_forall_mem.mp hF) _ (Array.getElem_mem ha)) i (List.mem_range.mpr hi)
    simpa [Array.getElem?_eq_getElem hi] using q
  obtain ⟨i0, ei0⟩ := is_v g1
  obtain rfl : w0 = (.int i0) := Option.some.inj ei0
  obtain ⟨i1, ei1⟩ := is_v g2
  obtain rfl : w1 = (.int i1) := Option.some.inj ei1
  obtain ⟨i2, ei2⟩ := is_v g3
  obtain rfl : w2 = (.int i2) := Option.some.inj ei2
  obtain ⟨n, o, h1, h2, h3, _, L, rfl, ⟨rfl, N⟩, hq⟩ := rm0 l s _ hw tables_1 i0 i1 i2  s.heap s.heap.size (Nat.le_refl _)  p e ha hc hk s m _ below hf ((Spec.applies_iff_loose hf).mp happ).1 ⟨rfl, State.Warmed39.refl s, rfl⟩ trivial
  refine ⟨n, _, h1, h2, h3, hpost _ _ _ _ _ _ ⟨Cond.after_iff.mpr rfl, Cond.after_iff.mpr (eq_i res_at (Term.int_eval (1)) rfl), trivial⟩ ⟨hq.1, hq.2.1, (hq.2.2.sift fun y hy => Or.inr (N y hy)).mono (by decide) (by decide)⟩⟩
theorem main_1_1 : Claimed_1_1 := comes_1 fun _ _ _ _ _ _ h hF => ⟨h.1, hF⟩
theorem main_1_2 : Claimed_1_2 := comes_1 fun _ _ _ _ _ _ h hF => ⟨h.2.1, hF⟩

end Jvm.Pilot.@@N@@
namespace Jvm.Pilot.@@N@@
open Jvm Jvm.ClassFile Sem Op Lib Jvm.Free Jvm.Stand Jvm.Pilot.@@N@@.Jvm.D
/-! MADE BY PROGRAM (witnessworld.py) out of the Statement's table words and the real class files: 9 classes; the members and pool entries that the words name. The judged class is class 1, her method 1. -/
namespace start1
open Jvm.ClassFile
def u (s : String) : CpInfo := .utf8 (stringToUtf16 s)
/-- a pool by its gaps: so many unusable entries, then the entry; so many at the end -/
def gap : Nat → List CpInfo → List CpInfo
  | 0, r => r
  | n + 1, r => .unusable :: gap n r
def poolList (es : List (Nat × CpInfo)) (last : Nat) : List CpInfo := es.foldr (fun e r => gap e.1 (e.2 :: r)) (gap last [])
def pool (es : List (Nat × CpInfo)) (last : Nat) : Array CpInfo := ⟨poolList es last⟩
def fileOf (pool : Array CpInfo) (this : Nat) (attrs : Array Attribute := #[]) (ms : Array MethodInfo := #[]) (fl : Nat := 33) (sup : Nat := 0) (ifs : Array Nat := #[]) (fds : Array FieldInfo := #[]) : ClassFile where
  minorVersion := 0
  majorVersion := 65
  constantPool := pool
  accessFlags := fl
  thisClass := this
  superClass := sup
  interfaces := ifs
  fields := fds
  methods := ms
  attributes := attrs
def plain (name : String) (sup : Option ClassId) : Class where
  name := name
  kind := .ordinary
  loader := none
  accessFlags := 33
  super := sup
  interfaces := #[]
  cf := none
  fields := #[]
  methods := #[]
  instanceTypes := #[]
  staticTypes := #[]
  resolved := #[]
  callSites := []
  init := .initialized
  statics := none
  mirror := none

def pool0 : Array CpInfo := pool [(5, u "<init>"), (0, u "()V"), (1, .class_ 10), (1, u "java/lang/Object")] 113

def k0m0 : Method := { name := "<init>", desc := "()V", sig := { parameters := [], returnType := none }, accessFlags := 1, code := none }
/-- java/lang/Object -/
def k0 : Class := { plain "java/lang/Object" none with
  accessFlags := 33
  interfaces := #[]
  cf := some (fileOf pool0 8 #[] #[{ accessFlags := 1, nameIndex := 5, descriptorIndex := 6, attributes := #[] }] 33 0 #[] #[])
  fields := #[]
  methods := #[k0m0]
  instanceTypes := #[]
  staticTypes := #[]
  resolved := Array.replicate 124 none
  statics := none }

def pool1 : Array CpInfo := pool [(2, .class_ 4), (1, u "java/lang/Object"), (0, u "<init>"), (0, u "()V"), (0, .methodref 8 9), (0, .class_ 10), (0, .nameAndType 11 12), (0, u "com/example/entitlement/entitlement/service/AclCode"), (0, u "inherits"), (0, u "([II)Z"), (0, .class_ 14), (0, u "com/example/entitlement/entitlement/service/AclCodeInheritsPinLaw"), (2, u "law"), (0, u "(III)Z")] 5

def k1m0 : Method := { name := "<init>", desc := "()V", sig := { parameters := [], returnType := none }, accessFlags := 1, code := none }
def k1c1 : Code := { maxStack := 4, maxLocals := 10, code := code, exceptionTable := #[], attributes := #[] }
def k1m1 : Method := { name := "law", desc := "(III)Z", sig := { parameters := [.int, .int, .int], returnType := some .boolean }, accessFlags := 9, code := some k1c1 }
/-- com/example/entitlement/entitlement/service/AclCodeInheritsPinLaw -/
def k1 : Class := { plain "com/example/entitlement/entitlement/service/AclCodeInheritsPinLaw" (some 0) with
  accessFlags := 49
  interfaces := #[]
  cf := some (fileOf pool1 13 #[] #[{ accessFlags := 1, nameIndex := 5, descriptorIndex := 6, attributes := #[] }, { accessFlags := 9, nameIndex := 17, descriptorIndex := 18, attributes := #[] }] 49 2 #[] #[])
  fields := #[]
  methods := #[k1m0, k1m1]
  instanceTypes := #[]
  staticTypes := #[]
  resolved := Array.replicate 24 none
  statics := none }

def pool2 : Array CpInfo := pool [(2, .class_ 4), (1, u "java/lang/Object"), (0, u "<init>"), (0, u "()V"), (6, .class_ 14), (0, u "com/example/entitlement/entitlement/service/AclCode"), (97, u "PUBLIC"), (0, u "I"), (2, u "ACL_ONLY"), (1, u "INHERITS"), (1, u "READERS"), (1, u "ENTRIES"), (1, u "HEADER_LENGTH"), (15, u "([II)Z"), (0, u "inherits")] 10

def k2m0 : Method := { name := "<init>", desc := "()V", sig := { parameters := [], returnType := none }, accessFlags := 2, code := none }
def k2c1 : Code := { maxStack := 2, maxLocals := 2, code := prog_41_method_6_code, exceptionTable := #[], attributes := #[] }
def k2m1 : Method := { name := "inherits", desc := "([II)Z", sig := { parameters := [(.array .int), .int], returnType := some .boolean }, accessFlags := 8, code := some k2c1 }
/-- com/example/entitlement/entitlement/service/AclCode -/
def k2 : Class := { plain "com/example/entitlement/entitlement/service/AclCode" (some 0) with
  accessFlags := 32
  interfaces := #[]
  cf := some (fileOf pool2 13 #[] #[{ accessFlags := 2, nameIndex := 5, descriptorIndex := 6, attributes := #[] }, { accessFlags := 8, nameIndex := 141, descriptorIndex := 140, attributes := #[] }] 32 2 #[] #[{ accessFlags := 26, nameIndex := 112, descriptorIndex := 113, attributes := #[] }, { accessFlags := 26, nameIndex := 116, descriptorIndex := 113, attributes := #[] }, { accessFlags := 26, nameIndex := 118, descriptorIndex := 113, attributes := #[] }, { accessFlags := 26, nameIndex := 120, descriptorIndex := 113, attributes := #[] }, { accessFlags := 26, nameIndex := 122, descriptorIndex := 113, attributes := #[] }, { accessFlags := 26, nameIndex := 124, descriptorIndex := 113, attributes := #[] }])
  fields := #[{ name := "PUBLIC", type := .int, accessFlags := 26, slot := 0, constantValue := 0 }, { name := "ACL_ONLY", type := .int, accessFlags := 26, slot := 1, constantValue := 0 }, { name := "INHERITS", type := .int, accessFlags := 26, slot := 2, constantValue := 0 }, { name := "READERS", type := .int, accessFlags := 26, slot := 3, constantValue := 0 }, { name := "ENTRIES", type := .int, accessFlags := 26, slot := 4, constantValue := 0 }, { name := "HEADER_LENGTH", type := .int, accessFlags := 26, slot := 5, constantValue := 0 }]
  methods := #[k2m0, k2m1]
  instanceTypes := #[]
  staticTypes := #[.int, .int, .int, .int, .int, .int]
  resolved := Array.replicate 152 none
  statics := none }

def pool3 : Array CpInfo := pool [(1, u "java/lang/Cloneable"), (0, .class_ 1), (0, u "java/lang/Object"), (0, .class_ 3)] 3

/-- java/lang/Cloneable -/
def k3 : Class := { plain "java/lang/Cloneable" (some 0) with
  accessFlags := 1537
  interfaces := #[]
  cf := some (fileOf pool3 2 #[] #[] 1537 4 #[] #[])
  fields := #[]
  methods := #[]
  instanceTypes := #[]
  staticTypes := #[]
  resolved := Array.replicate 8 none
  statics := none }

def pool4 : Array CpInfo := pool [(1, u "java/io/Serializable"), (0, .class_ 1), (0, u "java/lang/Object"), (0, .class_ 3)] 3

/-- java/io/Serializable -/
def k4 : Class := { plain "java/io/Serializable" (some 0) with
  accessFlags := 1537
  interfaces := #[]
  cf := some (fileOf pool4 2 #[] #[] 1537 4 #[] #[])
  fields := #[]
  methods := #[]
  instanceTypes := #[]
  staticTypes := #[]
  resolved := Array.replicate 8 none
  statics := none }

/-- the primitive byte -/
def k5 : Class := { plain "byte" none with kind := .primitive 'B', accessFlags := 0x411 }
/-- [B -/
def k6 : Class := { plain "[B" (some 0) with kind := .array 5 .byte, interfaces := #[3, 4], accessFlags := 1041 }

/-- the primitive int -/
def k7 : Class := { plain "int" none with kind := .primitive 'I', accessFlags := 0x411 }
/-- [I -/
def k8 : Class := { plain "[I" (some 0) with kind := .array 7 .int, interfaces := #[3, 4], accessFlags := 1041 }

def heap : Heap := #[]
def classes : Array Class := #[k0, k1, k2, k3, k4, k5, k6, k7, k8]
def interned : List (Array UInt16 × Addr) := []
def slotsUsed : Nat := 0
def theMethod : MethodId := ⟨1, 1⟩
def args0 : Array Value := #[.int 5, .int 6, .int 7]
def aboutOver (below : List Frame) : State where
  vm := { classes := classes, interned := interned.toArray }
  heap := heap
  slotsUsed := slotsUsed
  threads := #[{ frames := .invoking theMethod args0 :: below }]
def below0 : List Frame := [.native { method := ⟨0, 0⟩, args := #[] }]
def about1 : State := aboutOver below0
def p0 : Program := .bare "" "" ""
def e0 : Env := launch0.env 0 0 0
theorem w_frames : about1.frames = Frame.invoking theMethod args0 :: below0 := rfl
set_option maxRecDepth 65536 in
theorem w_args : argsFit about1.vm theMethod args0 = true := by decide +kernel
set_option maxRecDepth 65536 in
theorem w_heap : heapFits about1 = true := by decide +kernel
set_option maxRecDepth 65536 in
theorem w_runnable : about1.curStatus? = some .runnable := by decide +kernel
set_option maxRecDepth 65536 in
theorem w_alone : about1.alone = true := by decide +kernel
set_option maxRecDepth 65536 in
theorem w_named : about1.methodNamed? x = some theMethod := by decide +kernel
set_option maxRecDepth 65536 in
theorem w_hears : about1.hears theMethod below0 = true := by decide +kernel
set_option maxRecDepth 65536 in
theorem w_ripe : about1.ripe theMethod args0 below0 = true := by decide +kernel
theorem w_running : about1.status = .running := rfl
set_option maxRecDepth 65536 in
theorem w_room : about1.hasRoom e0.platform room_1 = true :=
  launch0.hasRoom_least _ room_1 (by decide +kernel) (by decide +kernel) (by decide +kernel) (by decide +kernel) (by decide +kernel) (by decide +kernel)
theorem allAtoms_all (ts : List Jvm.Cond) (a : Array Jvm.Value) (st : Jvm.State) : (allAtoms ts).before a st = ts.all (fun c => c.before a st) := by
  induction ts with
  | nil => rfl
  | cons c t ih =>
    show (Jvm.Cond.and c (allAtoms t)).before a st = _
    rw [Jvm.Cond.before_and, ih, List.all_cons]
def words1 : List Jvm.Cond := Jvm.Cond.code x code maxLocals ret :: tables_1
/-- a 'code' word, met by the world's own term for the bytes: nothing is compared byte by byte -/
theorem code_word {y : MethodName} {bytes : ByteArray} {mx : Nat} {rt : Option FieldType} {a : Array Value} {s : State} {m : MethodId} {meth : Method} {c : Code} (h1 : s.methodNamed? y = some m) (h2 : s.vm.method? m = some meth) (h3 : meth.code = some c) (h4 : c.code = bytes)
    (h5 : (c.maxLocals == mx && c.exceptionTable.isEmpty && decide (c.maxStack ≤ mostOperands) && decide (meth.sig.returnType = rt) && !meth.locks && decide (parseMethodDescriptor y.desc = some meth.sig)) = true) : (Jvm.Cond.code y bytes mx rt).before a s = true := by
  simp only [Bool.and_eq_true, beq_iff_eq, Bool.not_eq_true', decide_eq_true_eq] at h5
  obtain ⟨⟨⟨⟨⟨g1, g2⟩, g3⟩, g4⟩, g5⟩, g6⟩ := h5
  simp [Cond.before, Cond.holds, Cond.value, h1, h2, h3, h4, g1, g2, g3, g4, g5, g6]
def isCode : Jvm.Cond → Bool
  | .code _ _ _ _ => true
  | _ => false
theorem all_split {L : List Jvm.Cond} {P : Jvm.Cond → Bool} (h1 : L.all (fun c => isCode c || P c) = true) (h2 : ∀ c ∈ L.filter isCode, P c = true) : L.all P = true := by
  refine List.all_eq_true.mpr fun c hc => ?_
  have h := List.all_eq_true.mp h1 c hc
  rcases Bool.eq_false_or_eq_true (isCode c) with hi | hi
  · exact h2 c (List.mem_filter.mpr ⟨hc, hi⟩)
  · simpa [hi] using h
set_option maxRecDepth 65536 in
theorem w_c0 : (Jvm.Cond.code x code maxLocals ret).before args0 about1 = true := code_word (m := ⟨1, 1⟩) (meth := k1m1) (c := k1c1) (by decide +kernel) rfl rfl rfl (by decide +kernel)
set_option maxRecDepth 65536 in
theorem w_c1 : (Jvm.Cond.code ({ cls := "com/example/entitlement/entitlement/service/AclCode", name := "inherits", desc := "([II)Z" } : Jvm.MethodName) prog_41_method_6_code (2 : Nat) (Option.some Jvm.ClassFile.FieldType.boolean)).before args0 about1 = true := code_word (m := ⟨2, 1⟩) (meth := k2m1) (c := k2c1) (by decide +kernel) rfl rfl rfl (by decide +kernel)
def codes1 : List Jvm.Cond := [Jvm.Cond.code x code maxLocals ret, Jvm.Cond.code ({ cls := "com/example/entitlement/entitlement/service/AclCode", name := "inherits", desc := "([II)Z" } : Jvm.MethodName) prog_41_method_6_code (2 : Nat) (Option.some Jvm.ClassFile.FieldType.boolean)]
set_option maxRecDepth 65536 in
theorem codes_eq : words1.filter isCode = codes1 := rfl
theorem w_codes : ∀ c ∈ words1.filter isCode, c.before args0 about1 = true := by
  rw [codes_eq]
  intro c hc
  simp only [codes1, List.mem_cons, List.not_mem_nil, or_false] at hc
  rcases hc with rfl | rfl
  · exact w_c0
  · exact w_c1
set_option maxRecDepth 65536 in
theorem w_t1 : words1.all (fun c => isCode c || c.before args0 about1) = true := by decide +kernel
theorem w_tables : (allAtoms (Jvm.Cond.code x code maxLocals ret :: tables_1)).before args0 about1 = true := by
  rw [allAtoms_all]
  show words1.all (fun c => c.before args0 about1) = true
  refine all_split ?_ w_codes
  rw [w_t1]
set_option maxRecDepth 65536 in
theorem w_case : (Jvm.Cond.and given_1 narrow_1).before args0 about1 = true := by decide +kernel
theorem w_applies : (headSpec (Jvm.Cond.code x code maxLocals ret :: tables_1) room_1).applies x e0.platform about1 = true :=
  (Spec.applies_iff w_frames).mpr ⟨w_running, w_runnable, w_alone, w_named, w_hears, w_ripe, w_room, w_tables⟩
theorem atStart : AtStart classFile x code maxLocals ret World_1 tables_1 room_1 Calls_1 rest_1 Pre_1 launch0 p0 e0 about1 theMethod args0 below0 :=
  ⟨lists_1, trivial, launch0.admits_env _ _ _, launch0.least_env, fairChoices_fair.cas, fairChoices_fair.clock, w_frames, w_args, w_heap, w_applies, trivial, trivial, w_case⟩
end start1
theorem witness_1 : WitnessClaimed_1 := ⟨start1.p0, start1.e0, start1.about1, start1.theMethod, start1.args0, start1.below0, start1.atStart⟩
end Jvm.Pilot.@@N@@
