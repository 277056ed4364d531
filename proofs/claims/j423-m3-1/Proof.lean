import JvmDerived
import JvmDerived.Pilot.@@N@@Statement
import JvmDerived.Pilot.@@N@@Code
set_option linter.unusedVariables false
set_option linter.unusedSimpArgs false

namespace Jvm.RoadKit
open Sem ClassFile Op Lib Jvm.Stand Jvm.Free Jvm.LawKit
section New
variable {p : Program} {l : Launch} {e : Env} {R : Room} {s : State} {m : MethodId} {args : Array Value} {below : List Frame} {meth : Method} {c : Code} {T : State} {locs : List Loc} {cells slots : Nat}
theorem own_retI (X : Stand p l e R s m args below meth c T locs cells slots) (hx : p.tables.exec = Jvm.exec) {pc : Nat} {Ls : Array Slot} {z : Int32} {rest : List Value} (hret : meth.sig.returnType = some .int) (hd : decode c.code pc = .ok (.ireturn, 1)) {fs : List Frame}
    (hl : ∀ (f : JFrame) (acts : List Action), f.method = m → f.locked = none → f.entered = [] → (doReturn e (T.setTop f) acts (some (.int z))).1 = T.setFrames fs) : Steps p.tables e below (T.setTop (mkF m pc Ls (.int z :: rest))) (T.setFrames fs) :=
  retOut X hx (t := .int) (w := .int z) (i := .ireturn) hret rfl (Or.inl ⟨rfl, Or.inl rfl, z, rfl⟩) hd hl
end New
end Jvm.RoadKit

namespace Jvm.Pilot.@@N@@
open Jvm Jvm.ClassFile Sem Op Lib Jvm.Free Jvm.Stand Jvm.LawKit Jvm.RoadKit Bundle Jvm.Pilot.@@N@@.Jvm.D

theorem own_g {Z : State} {a0 : Array Value} (hw : ∀ d ∈ tables_1, d.before a0 Z = true) (i : Nat) {d : Jvm.Cond} (h : tables_1[i]? = some d) : d.before a0 Z = true := hw _ (List.mem_of_getElem? h)
/-- from the state T the run comes to an end that F takes -/
def own_Ends (p : Program) (e : Env) (below : List Frame) (F : Outcome → State → Prop) (T : State) : Prop :=
  ∃ s₂ o, Steps p.tables e below T s₂ ∧ s₂.status = .running ∧ Ended s₂ below o ∧ F o s₂
def own_Fin (s : State) (Q : Option Value → Heap → List Loc → Prop) (C S : Nat) (o : Outcome) (U : State) : Prop :=
  ∃ v L, o = .returned v ∧ Q v U.heap L ∧ FrameEnd s o U L C S
theorem own_Sta_keep {Z : State} {h h' : Heap} {C n d : String} {v : Value} {ws : List Addr} (F : Sta Z h C n d v) (K : Keep h h' ws) (q : ∀ x ∈ ws, ∀ c : Cell, h[x]? = some c → c.vm.isStatics = false) : Sta Z h' C n d v := by
  obtain ⟨cf, i, k, f, st, cell, h1, h2, h3, h4, h5, h6, h7⟩ := F
  exact ⟨cf, i, k, f, st, cell, h1, h2, h3, h4, K.2.1 st cell h5 (fun m => by rw [q st m cell h5] at h6; cases h6), h6, h7⟩
theorem own_ns_exa {Z : State} {h : Heap} {a : Addr} {C : String} (F : Exa Z h a C) : ∀ c : Cell, h[a]? = some c → c.vm.isStatics = false := fun c hc => by
  obtain ⟨cell, k, h1, h2, h3, h4, h5⟩ := F
  cases h1.symm.trans hc; exact h4
theorem own_ns_arv {Z : State} {h : Heap} {a : Addr} {k : ClassId} {ty : FieldType} {n : Int32} {vs : List Value} {d : Value} (F : Arv Z h a k ty n vs d) : ∀ c : Cell, h[a]? = some c → c.vm.isStatics = false := fun c hc => by
  obtain ⟨cell, A, r⟩ := F
  cases A.1.symm.trans hc; exact A.plain
section OwnSteps
variable {p : Program} {l : Launch} {e : Env} {R : Room} {s : State} {m : MethodId} {args : Array Value} {below : List Frame} {meth : Method} {c : Code} {T T' : State} {locs : List Loc} {cells slots cells' slots' : Nat} {F : Outcome → State → Prop}
theorem own_step (h : ∀ target, Steps p.tables e below T' target → Steps p.tables e below T target) (k : own_Ends p e below F T') : own_Ends p e below F T := by
  obtain ⟨s₂, o, h1, h2⟩ := k
  exact ⟨s₂, o, h _ h1, h2⟩
theorem own_trans (h : Steps p.tables e below T T') (k : own_Ends p e below F T') : own_Ends p e below F T := by
  obtain ⟨s₂, o, h1, h2⟩ := k
  exact ⟨s₂, o, h.trans h1, h2⟩
theorem own_mono (X : Stand p l e R s m args below meth c T locs cells slots) (h1 : cells ≤ cells') (h2 : slots ≤ slots') : Stand p l e R s m args below meth c T locs cells' slots' :=
  { X with same := X.same.mono h1 h2 }
theorem own_ret {Q : Option Value → Heap → List Loc → Prop} {C S : Nat} {g : JFrame} (X : Stand p l e R s m args below meth c T locs cells slots) {v : Option Value} (hv : meth.sig.returnType = none → v = none) (hlocks : meth.locks = false)
    (st : ∀ fs, (∀ (f : JFrame) (acts : List Action), f.method = m → f.locked = none → f.entered = [] → (doReturn e (T.setTop f) acts v).1 = T.setFrames fs) → Steps p.tables e below (T.setTop g) (T.setFrames fs))
    (h1 : cells ≤ C) (h2 : slots ≤ S) (hQ : Q v T.heap locs) : own_Ends p e below (own_Fin s Q C S) (T.setTop g) := by
  obtain ⟨fs, hr, hrun, hended, hW, hsame⟩ := X.leave (v := v) hv hlocks
  exact ⟨_, _, st fs hr, hrun, hended, _, _, rfl, hQ, ⟨_, rfl⟩, hW, hsame.mono h1 h2⟩
def own_FinW (s : State) (Q : Option Value → Heap → List Loc → Prop) (C S : Nat) (o : Outcome) (U : State) : Prop :=
  ∃ v L, o = .returned v ∧ Q v U.heap L ∧ ReturnedEndW s o U L C S
theorem own_retW {vm : Vm} {k : Nat} {Q : Option Value → Heap → List Loc → Prop} {C S : Nat} {g : JFrame} (X : Stand p l e R (s.setVm vm) m args below meth c T locs cells slots) (hS : s.Since vm k) (hk : k ≤ T.heap.size) {v : Option Value} (hv : meth.sig.returnType = none → v = none) (hlocks : meth.locks = false)
    (st : ∀ fs, (∀ (f : JFrame) (acts : List Action), f.method = m → f.locked = none → f.entered = [] → (doReturn e (T.setTop f) acts v).1 = T.setFrames fs) → Steps p.tables e below (T.setTop g) (T.setFrames fs))
    (h1 : cells ≤ C) (h2 : slots ≤ S) (hQ : Q v T.heap locs) : own_Ends p e below (own_FinW s Q C S) (T.setTop g) := by
  obtain ⟨fs, hr, hrun, hended, a, b, c', d'⟩ := X.leaveW hS hk (v := v) hv hlocks
  exact ⟨_, _, st fs hr, hrun, hended, _, _, rfl, hQ, a, b, c', d'.mono h1 h2⟩
theorem own_warm {Z : State} {vm0 vm1 : Vm} {k : Nat} (hZ : Z.Warmed39 vm0) (hS : (s.setVm vm0).Since vm1 k) : Z.Warmed39 vm1 := State.Warmed39.trans (t := s.setVm vm0) hZ hS.1
theorem own_find {vm0 vm1 : Vm} {k : Nat} {own : String} {c0 : ClassId} (h : vm0.findClass own = some c0) (hS : (s.setVm vm0).Since vm1 k) : vm1.findClass own = some c0 := by
  rw [hS.1.alike.findClass]; exact h
def own_FinH (Z : State) (EL : List (String × Nat)) (s : State) (Q : Option Value → Heap → List Loc → Prop) (C S : Nat) (o : Outcome) (U : State) : Prop :=
  ∃ v L, o = .returned v ∧ Q v U.heap L ∧ CHr Z EL s.vm s.heap U.vm U.heap ∧ ReturnedEndW s o U L C S
theorem own_retH {Z : State} {a0 : Array Value} {EL : List (String × Nat)} {vm : Vm} {k : Nat} {h0 h : Heap} {Q : Option Value → Heap → List Loc → Prop} {C S : Nat} {g : JFrame} (X : Stand p l e R (s.setVm vm) m args below meth c T locs cells slots) (hS : s.Since vm k) (hk : k ≤ T.heap.size) (hh : s.heap = h0) (eT : T.heap = h) (hZ : Z.Warmed39 vm) (hEL : EW Z a0 EL) (hC : CHr Z EL s.vm h0 vm h) {v : Option Value} (hv : meth.sig.returnType = none → v = none) (hlocks : meth.locks = false)
    (st : ∀ fs, (∀ (f : JFrame) (acts : List Action), f.method = m → f.locked = none → f.entered = [] → (doReturn e (T.setTop f) acts v).1 = T.setFrames fs) → Steps p.tables e below (T.setTop g) (T.setFrames fs))
    (h1 : cells ≤ C) (h2 : slots ≤ S) (hQ : Q v T.heap locs) : own_Ends p e below (own_FinH Z EL s Q C S) (T.setTop g) := by
  obtain ⟨fs, hr, hrun, hended, a, b, c', d'⟩ := X.leaveW hS hk (v := v) hv hlocks
  have q : CHr Z EL s.vm s.heap T.vm T.heap := by
    rw [hh, eT]; exact hC.trans (CHv.at X hZ hEL hC.1)
  exact ⟨_, _, st fs hr, hrun, hended, _, _, rfl, hQ, q, a, b, c', d'.mono h1 h2⟩
def own_SL (Z : State) (EL : List (String × Nat)) (vm : Vm) (h : Heap) (x : Addr) : Prop := x < h.size ∧ Safe Z EL vm h x
theorem own_SL.go {Z : State} {EL : List (String × Nat)} {vm vm1 : Vm} {h h' : Heap} {x : Addr} (F : own_SL Z EL vm h x) (A : CHr Z EL vm h vm1 h') : own_SL Z EL vm1 h' x := ⟨Nat.lt_of_lt_of_le F.1 A.2.1, A.safe F.1 F.2⟩
theorem own_SL.born {Z : State} {EL : List (String × Nat)} {vm : Vm} {h h' : Heap} {x : Addr} (H : CHv Z EL vm h) (E : Ext h h') (g : x = h.size) (lt : x < h'.size) : own_SL Z EL vm h' x := ⟨lt, Safe.ext E H (Safe.new (Nat.le_of_eq g.symm))⟩
end OwnSteps

def own_due (d k : Int64) : Int64 := if (d - (d / k) * k) = 0 then d / k else d / k + 1
theorem own_nn (x : Int64) : ¬ (x &&& 9223372036854775807) < (0 : Int64) := by
  have h := c_maskL x 9223372036854775807 63 (by decide) (by decide)
  have p : ((2 ^ 63 : Nat) : Int) = 9223372036854775808 := rfl
  have z : (0 : Int64).toInt = 0 := rfl
  rw [Int64.lt_iff_toInt_lt, h, p, z]
  omega
theorem own_least (v z : Int64) (h : z = if v < (1 : Int64) then (1 : Int64) else v) : ¬ z < (1 : Int64) := by
  subst h
  by_cases c : v < (1 : Int64)
  · rw [if_pos c]; decide
  · rw [if_neg c]; exact c
theorem own_leastI (v z : Int32) (h : z = if v < (1 : Int32) then (1 : Int32) else v) : ¬ z < (1 : Int32) := by
  subst h
  by_cases c : v < (1 : Int32)
  · rw [if_pos c]; decide
  · rw [if_neg c]; exact c
theorem own_nz (z : Int64) (h : ¬ z < (1 : Int64)) : z ≠ 0 := by rintro rfl; exact h (by decide)
theorem own_due0 (d k : Int64) (h : d = 0) : own_due d k = 0 := by
  subst h
  have e : (0 : Int64) / k = 0 := by
    apply Int64.toInt_inj.mp
    by_cases q : k = -1
    · subst q; rfl
    · rw [Int64.toInt_div_of_ne_right _ _ q]; simp
  unfold own_due
  rw [e, Int64.zero_mul, if_pos (by decide)]
theorem own_div (x k : Int64) (hx : 0 ≤ x.toInt) (hk : 1 ≤ k.toInt) : (x / k).toInt = x.toInt / k.toInt := (c_ldiv x k k.toInt rfl (by rintro rfl; exact absurd hk (by decide))).1 hx
theorem own_int (d k : Int) (hd : 0 < d) (hk : 1 ≤ k) : (d - 1) / k = if d % k = 0 then d / k - 1 else d / k := by
  have e := Int.mul_ediv_add_emod d k
  have r0 := Int.emod_nonneg d (show k ≠ 0 by omega)
  have r1 := Int.emod_lt_of_pos d (show 0 < k by omega)
  generalize d / k = q at *
  generalize d % k = r at *
  split
  · rename_i h
    have : d - 1 = (k - 1) + k * (q - 1) := by rw [Int.mul_sub]; omega
    rw [this, Int.add_mul_ediv_left _ _ (by omega), Int.ediv_eq_zero_of_lt (by omega) (by omega)]; omega
  · have : d - 1 = (r - 1) + k * q := by omega
    rw [this, Int.add_mul_ediv_left _ _ (by omega), Int.ediv_eq_zero_of_lt (by omega) (by omega)]; omega
theorem own_due1 (d k : Int64) (h : ¬ d = 0) (h0 : ¬ d < (0 : Int64)) (hk : ¬ k < (1 : Int64)) : own_due d k = ((d - (1 : Int64)) / k) + (1 : Int64) := by
  have z0 : (0 : Int64).toInt = 0 := rfl
  have z1 : (1 : Int64).toInt = 1 := rfl
  have h' : ¬ d.toInt = 0 := fun q => h (Int64.toInt_inj.mp q)
  rw [Int64.lt_iff_toInt_lt] at h0 hk
  rw [z0] at h0; rw [z1] at hk
  have s1 := c_lsub d 1
  have rd := rng64 d
  have rd1 := rng64 (d - 1)
  rw [z1] at s1
  have s2 : (d - 1).toInt = d.toInt - 1 := by omega
  have e1 := own_div d k (by omega) (by omega)
  have e2 := own_div (d - 1) k (by omega) (by omega)
  have e3 : (d - (d / k) * k).toInt = d.toInt % k.toInt := (c_lrem d k k.toInt rfl).1 (by omega)
  have e4 := own_int d.toInt k.toInt (by omega) (by omega)
  rw [s2] at e2
  have a1 := c_ladd ((d - 1) / k) 1
  have r1 := rng64 ((d - 1) / k + 1)
  have r2 := rng64 (d / k)
  rw [z1] at a1
  unfold own_due
  by_cases c : d - (d / k) * k = 0
  · rw [if_pos c]
    rw [c, z0] at e3
    rw [if_pos e3.symm] at e4
    apply Int64.toInt_inj.mp
    omega
  · rw [if_neg c]
    have c' : ¬ d.toInt % k.toInt = 0 := fun q => c (Int64.toInt_inj.mp (by rw [e3, q, z0]))
    rw [if_neg c'] at e4
    congr 1
    apply Int64.toInt_inj.mp
    omega

theorem d1_0 : decode prog_2_method_1_code 0 = .ok (.aload_n 0, 1) := by decide +kernel
theorem d1_1 : decode prog_2_method_1_code 1 = .ok (.invokespecial 1, 3) := by decide +kernel
theorem d1_4 : decode prog_2_method_1_code 4 = .ok (.lload_n 1, 1) := by decide +kernel
theorem d1_5 : decode prog_2_method_1_code 5 = .ok (.lconst 1, 1) := by decide +kernel
theorem d1_6 : decode prog_2_method_1_code 6 = .ok (.lcmp, 1) := by decide +kernel
theorem d1_7 : decode prog_2_method_1_code 7 = .ok (.ifCond .ge 17, 3) := by decide +kernel
theorem d1_24 : decode prog_2_method_1_code 24 = .ok (.iload_n 3, 1) := by decide +kernel
theorem d1_25 : decode prog_2_method_1_code 25 = .ok (.iconst 1, 1) := by decide +kernel
theorem d1_26 : decode prog_2_method_1_code 26 = .ok (.if_icmp .ge 17, 3) := by decide +kernel
theorem d1_43 : decode prog_2_method_1_code 43 = .ok (.aload_n 0, 1) := by decide +kernel
theorem d1_44 : decode prog_2_method_1_code 44 = .ok (.lload_n 1, 1) := by decide +kernel
theorem d1_45 : decode prog_2_method_1_code 45 = .ok (.putfield 19, 3) := by decide +kernel
theorem d1_48 : decode prog_2_method_1_code 48 = .ok (.aload_n 0, 1) := by decide +kernel
theorem d1_49 : decode prog_2_method_1_code 49 = .ok (.iload_n 3, 1) := by decide +kernel
theorem d1_50 : decode prog_2_method_1_code 50 = .ok (.putfield 25, 3) := by decide +kernel
theorem d1_53 : decode prog_2_method_1_code 53 = .ok (.return_, 1) := by decide +kernel
theorem pn_com_example_clock3600_clock3600_Ring : plainName "com/example/clock3600/clock3600/Ring" = true := by first | (simp [plainName, overriddenIn]; done) | decide +kernel
theorem ef_rm1 (m : MethodId) (x0 : Addr) (x1 : Int64) (x2 : Int32) : entryFrame m #[(.ref x0), (.long x1), (.int x2)] 4 = mkF m 0 #[.val (.ref x0), .val (.long x1), .second, .val (.int x2)] [] := by first | (simp [entryFrame, mkF, argsToLocals, Value.category, maxLocals]; done) | rfl
def Q1 (Z : State) (a : Addr) (p1 : Int64) (p2 : Int32) (h0 : Heap) (n0 : Nat) (v : Option Value) (h : Heap) (L : List Loc) : Prop := v = none ∧ Fr n0 L ∧ Keep h0 h [a] ∧ Exa Z h a "com/example/clock3600/clock3600/Ring" ∧ Fld Z h a "com/example/clock3600/clock3600/Ring" "tickMillis" "J" (.long p1) ∧ Fld Z h a "com/example/clock3600/clock3600/Ring" "slots" "I" (.int p2)
set_option maxRecDepth 65536 in
set_option maxHeartbeats 40000000 in
theorem rm1 (l : Launch) (Z : State) (a0 : Array Value) (hw : ∀ d ∈ tables_1, d.before a0 Z = true) (ws : List Jvm.Cond) (a : Addr) (p1 : Int64) (p2 : Int32) (h0 : Heap) (n0 : Nat) (Z0 : n0 ≤ h0.size) (EX : Exa Z h0 a "com/example/clock3600/clock3600/Ring") (ge : n0 ≤ a) (F_tickMillis : Fld Z h0 a "com/example/clock3600/clock3600/Ring" "tickMillis" "J" (.long (0 : Int64))) (F_slots : Fld Z h0 a "com/example/clock3600/clock3600/Ring" "slots" "I" (.int (0 : Int32))) (hp1 : ¬ p1 < (1 : Int64)) (hp2 : ¬ p2 < (1 : Int32)) :
    MetFree l (⟨"com/example/clock3600/clock3600/Ring", "<init>", "(JI)V"⟩ : MethodName) (head1 (Jvm.Cond.code (⟨"com/example/clock3600/clock3600/Ring", "<init>", "(JI)V"⟩ : MethodName) prog_2_method_1_code 4 none :: ws) ({ frames := 1, cells := 0, slots := 0, locals := 12 } : Room)) (fun ar U => ar = #[(.ref a), (.long p1), (.int p2)] ∧ Z.Warmed39 U.vm ∧ U.heap = h0) (fun _ _ _ _ _ => True) (fun _ U o U' => ∃ v L, o = .returned v ∧ Q1 Z a p1 p2 h0 n0 v U'.heap L ∧ FrameEnd U o U' L ({ frames := 1, cells := 0, slots := 0, locals := 12 } : Room).cells ({ frames := 1, cells := 0, slots := 0, locals := 12 } : Room).slots) := by
  refine MetFree.of_bodySF (plainFor_of_name pn_com_example_clock3600_clock3600_Ring) hisR ?_
  intro p e s m args below meth c s₁ Bd hml0 hP hK
  obtain ⟨rfl, hZ, hh⟩ := hP
  have hx := Bd.exec
  have hby := Bd.bytes
  have hml : c.maxLocals = 4 := hml0
  have hown : s.vm.findClass "com/example/clock3600/clock3600/Ring" = some m.cls := findClass_of_methodNamed Bd.named
  have hnm := (name_of_methodNamed Bd.named Bd.method).1
  have X0 : Stand p l e ({ frames := 1, cells := 0, slots := 0, locals := 12 } : Room) s m #[(.ref a), (.long p1), (.int p2)] below meth c s₁ [] 0 0 := Stand.of_body Bd
  have e0 : s₁.heap = h0 := by rw [← hh, Bd.state]; rfl
  have N0 := Fr.nil n0
  obtain ⟨F, hF⟩ : ∃ F, F = own_Fin s (Q1 Z a p1 p2 h0 n0) ({ frames := 1, cells := 0, slots := 0, locals := 12 } : Room).cells ({ frames := 1, cells := 0, slots := 0, locals := 12 } : Room).slots := ⟨_, rfl⟩
  show own_Ends p e below (own_Fin s (Q1 Z a p1 p2 h0 n0) ({ frames := 1, cells := 0, slots := 0, locals := 12 } : Room).cells ({ frames := 1, cells := 0, slots := 0, locals := 12 } : Room).slots) _
  rw [← hF, ef_rm1 m a p1 p2]
  show own_Ends p e below F (s₁.setTop (mkF m 0 #[.val (.ref a), .val (.long p1), .second, .val (.int p2)] []))
  refine own_step (fun _ k => XS.aloadN X0.here hx rfl (hb hby d1_0) rfl rfl k) ?_
  show own_Ends p e below F (s₁.setTop (mkF m 1 #[.val (.ref a), .val (.long p1), .second, .val (.int p2)] [(.ref a)]))
  obtain ⟨T1, X1, e1, st1⟩ := initO X0 hx hZ hown (own_g hw 8 rfl) (own_g hw 9 rfl) (own_g hw 10 rfl) e0 (g := (mkF m 1 #[.val (.ref a), .val (.long p1), .second, .val (.int p2)] [(.ref a)])) rfl (by rw [hml]; rfl) rfl (hb hby d1_1) (by decide) (W := 0) (by show 2 * 0 + _ ≤ _; exact Nat.le_of_eq rfl) (by decide)
  refine own_step st1 ?_
  show own_Ends p e below F (T1.setTop (mkF m 4 #[.val (.ref a), .val (.long p1), .second, .val (.int p2)] []))
  refine own_step (fun _ k => XS.lloadN X1.here hx rfl (hb hby d1_4) rfl k) ?_
  show own_Ends p e below F (T1.setTop (mkF m 5 #[.val (.ref a), .val (.long p1), .second, .val (.int p2)] [(.long p1)]))
  refine own_step (fun _ k => XS.lconst X1.here hx rfl (hb hby d1_5) k) ?_
  show own_Ends p e below F (T1.setTop (mkF m 6 #[.val (.ref a), .val (.long p1), .second, .val (.int p2)] [(.long (1 : Int64)), (.long p1)]))
  refine own_step (fun _ k => XS.lcmp X1.here hx rfl (hb hby d1_6) rfl k) ?_
  show own_Ends p e below F (T1.setTop (mkF m 7 #[.val (.ref a), .val (.long p1), .second, .val (.int p2)] [(.int (lcmpW p1 (1 : Int64)))]))
  refine own_step (fun _ k => XS.ifYes X1.here hx rfl (pc0 := 7) (pc' := 24) rfl (hb hby d1_7) rfl ((if0 _ _).trans (flt (fun q => (hp1 : ¬ (p1 < (1 : Int64))) ((lw_lt _ _).mp q))).2.1) (by decide) (by decide) k) ?_
  show own_Ends p e below F (T1.setTop (mkF m 24 #[.val (.ref a), .val (.long p1), .second, .val (.int p2)] []))
  refine own_step (fun _ k => XS.iloadN X1.here hx rfl (hb hby d1_24) rfl k) ?_
  show own_Ends p e below F (T1.setTop (mkF m 25 #[.val (.ref a), .val (.long p1), .second, .val (.int p2)] [(.int p2)]))
  refine own_step (fun _ k => XS.iconst X1.here hx rfl (hb hby d1_25) k) ?_
  show own_Ends p e below F (T1.setTop (mkF m 26 #[.val (.ref a), .val (.long p1), .second, .val (.int p2)] [(.int (1 : Int32)), (.int p2)]))
  refine own_step (fun _ k => XS.icmpYes X1.here hx rfl (pc0 := 26) (pc' := 43) rfl (hb hby d1_26) rfl (flt (hp2 : ¬ (p2 < (1 : Int32)))).2.1 (by decide) (by decide) k) ?_
  show own_Ends p e below F (T1.setTop (mkF m 43 #[.val (.ref a), .val (.long p1), .second, .val (.int p2)] []))
  refine own_step (fun _ k => XS.aloadN X1.here hx rfl (hb hby d1_43) rfl rfl k) ?_
  show own_Ends p e below F (T1.setTop (mkF m 44 #[.val (.ref a), .val (.long p1), .second, .val (.int p2)] [(.ref a)]))
  refine own_step (fun _ k => XS.lloadN X1.here hx rfl (hb hby d1_44) rfl k) ?_
  show own_Ends p e below F (T1.setTop (mkF m 45 #[.val (.ref a), .val (.long p1), .second, .val (.int p2)] [(.long p1), (.ref a)]))
  obtain ⟨T2, h2, X2, e2, W2, st2⟩ := putF X1 hx hZ hown (host := "") (Or.inl (own_g hw 11 rfl)) Via.refl e1 F_tickMillis EX (Or.inr ⟨(own_g hw 12 rfl), rfl, hnm⟩) (own_g hw 3 rfl) (ty := .long) (by decide) rfl rfl (g := (mkF m 45 #[.val (.ref a), .val (.long p1), .second, .val (.int p2)] [(.long p1), (.ref a)])) rfl rfl (hb hby d1_45)
  refine own_step st2 ?_
  have F2 := Fld.same W2 F_tickMillis
  have N2 := Fr.snoc X2 N0 ge
  have Z2 : n0 ≤ h2.size := by rw [W2.size]; exact Z0
  have SZ2 : h0.size ≤ h2.size := by rw [W2.size]; exact (Nat.le_refl h0.size)
  show own_Ends p e below F (T2.setTop (mkF m 48 #[.val (.ref a), .val (.long p1), .second, .val (.int p2)] []))
  refine own_step (fun _ k => XS.aloadN X2.here hx rfl (hb hby d1_48) rfl rfl k) ?_
  show own_Ends p e below F (T2.setTop (mkF m 49 #[.val (.ref a), .val (.long p1), .second, .val (.int p2)] [(.ref a)]))
  refine own_step (fun _ k => XS.iloadN X2.here hx rfl (hb hby d1_49) rfl k) ?_
  show own_Ends p e below F (T2.setTop (mkF m 50 #[.val (.ref a), .val (.long p1), .second, .val (.int p2)] [(.int p2), (.ref a)]))
  obtain ⟨T3, h3, X3, e3, W3, st3⟩ := putF X2 hx hZ hown (host := "") (Or.inl (own_g hw 13 rfl)) Via.refl e2 (Fld.other W2 F_slots (Or.inr (slot_ne (t := .int) (t' := .long) (Or.inr (own_g hw 14 rfl)) (Or.inr (own_g hw 12 rfl)) (by decide) (by decide) (by decide)))) (EX.wr W2) (Or.inr ⟨(own_g hw 14 rfl), rfl, hnm⟩) (own_g hw 3 rfl) (ty := .int) (by decide) rfl rfl (g := (mkF m 50 #[.val (.ref a), .val (.long p1), .second, .val (.int p2)] [(.int p2), (.ref a)])) rfl rfl (hb hby d1_50)
  refine own_step st3 ?_
  have F3 := Fld.same W3 (Fld.other W2 F_slots (Or.inr (slot_ne (t := .int) (t' := .long) (Or.inr (own_g hw 14 rfl)) (Or.inr (own_g hw 12 rfl)) (by decide) (by decide) (by decide))))
  have N3 := Fr.snoc X3 N2 ge
  have Z3 : n0 ≤ h3.size := by rw [W3.size]; exact Z2
  have SZ3 : h0.size ≤ h3.size := by rw [W3.size]; exact SZ2
  show own_Ends p e below F (T3.setTop (mkF m 53 #[.val (.ref a), .val (.long p1), .second, .val (.int p2)] []))
  rw [hF]
  exact own_ret X3 (v := none) (fun _ => rfl) Bd.notSynchronized (fun fs hr => X3.returnOut hx Bd.returns (hb hby d1_53) hr) (by decide) (by decide) (by rw [e3]; exact ⟨rfl, N3, ((Keep.wr (Keep.wr (Keep.refl _ _) W2 (Or.inl (List.mem_of_getElem? (i := 0) rfl))) W3 (Or.inl (List.mem_of_getElem? (i := 0) rfl))) : Keep h0 h3 [a]), ((EX.wr W2).wr W3), (Fld.other W3 F2 (Or.inr (slot_ne (t := .long) (t' := .int) (Or.inr (own_g hw 12 rfl)) (Or.inr (own_g hw 14 rfl)) (by decide) (by decide) (by decide)))), F3⟩)

theorem d4_0 : decode prog_2_method_7_code 0 = .ok (.lload_n 0, 1) := by decide +kernel
theorem d4_1 : decode prog_2_method_7_code 1 = .ok (.lconst 0, 1) := by decide +kernel
theorem d4_2 : decode prog_2_method_7_code 2 = .ok (.lcmp, 1) := by decide +kernel
theorem d4_3 : decode prog_2_method_7_code 3 = .ok (.ifCond .ge 18, 3) := by decide +kernel
theorem d4_21 : decode prog_2_method_7_code 21 = .ok (.return_, 1) := by decide +kernel
theorem ef_rm4 (m : MethodId) (x0 : Int64) (x1 : Addr) : entryFrame m #[(.long x0), (.ref x1)] 3 = mkF m 0 #[.val (.long x0), .second, .val (.ref x1)] [] := by first | (simp [entryFrame, mkF, argsToLocals, Value.category, maxLocals]; done) | rfl
def Q4 (Z : State) (p1 : Int64) (b : Addr) (h0 : Heap) (n0 : Nat) (v : Option Value) (h : Heap) (L : List Loc) : Prop := v = none ∧ Fr n0 L ∧ h = h0
set_option maxRecDepth 65536 in
set_option maxHeartbeats 40000000 in
theorem rm4 (l : Launch) (Z : State) (a0 : Array Value) (hw : ∀ d ∈ tables_1, d.before a0 Z = true) (ws : List Jvm.Cond) (p1 : Int64) (b : Addr) (h0 : Heap) (n0 : Nat) (Z0 : n0 ≤ h0.size) (hp : ¬ p1 < (0 : Int64)) :
    MetFree l (⟨"com/example/clock3600/clock3600/Ring", "requireNotNegative", "(JLjava/lang/String;)V"⟩ : MethodName) (head1 (Jvm.Cond.code (⟨"com/example/clock3600/clock3600/Ring", "requireNotNegative", "(JLjava/lang/String;)V"⟩ : MethodName) prog_2_method_7_code 3 none :: ws) ({ frames := 0, cells := 0, slots := 0, locals := 0 } : Room)) (fun ar U => ar = #[(.long p1), (.ref b)] ∧ Z.Warmed39 U.vm ∧ U.heap = h0) (fun _ _ _ _ _ => True) (fun _ U o U' => ∃ v L, o = .returned v ∧ Q4 Z p1 b h0 n0 v U'.heap L ∧ FrameEnd U o U' L ({ frames := 0, cells := 0, slots := 0, locals := 0 } : Room).cells ({ frames := 0, cells := 0, slots := 0, locals := 0 } : Room).slots) := by
  refine MetFree.of_bodySF (plainFor_of_name pn_com_example_clock3600_clock3600_Ring) hisR ?_
  intro p e s m args below meth c s₁ Bd hml0 hP hK
  obtain ⟨rfl, hZ, hh⟩ := hP
  have hx := Bd.exec
  have hby := Bd.bytes
  have hml : c.maxLocals = 3 := hml0
  have hown : s.vm.findClass "com/example/clock3600/clock3600/Ring" = some m.cls := findClass_of_methodNamed Bd.named
  have hnm := (name_of_methodNamed Bd.named Bd.method).1
  have X0 : Stand p l e ({ frames := 0, cells := 0, slots := 0, locals := 0 } : Room) s m #[(.long p1), (.ref b)] below meth c s₁ [] 0 0 := Stand.of_body Bd
  have e0 : s₁.heap = h0 := by rw [← hh, Bd.state]; rfl
  have N0 := Fr.nil n0
  obtain ⟨F, hF⟩ : ∃ F, F = own_Fin s (Q4 Z p1 b h0 n0) ({ frames := 0, cells := 0, slots := 0, locals := 0 } : Room).cells ({ frames := 0, cells := 0, slots := 0, locals := 0 } : Room).slots := ⟨_, rfl⟩
  show own_Ends p e below (own_Fin s (Q4 Z p1 b h0 n0) ({ frames := 0, cells := 0, slots := 0, locals := 0 } : Room).cells ({ frames := 0, cells := 0, slots := 0, locals := 0 } : Room).slots) _
  rw [← hF, ef_rm4 m p1 b]
  show own_Ends p e below F (s₁.setTop (mkF m 0 #[.val (.long p1), .second, .val (.ref b)] []))
  refine own_step (fun _ k => XS.lloadN X0.here hx rfl (hb hby d4_0) rfl k) ?_
  show own_Ends p e below F (s₁.setTop (mkF m 1 #[.val (.long p1), .second, .val (.ref b)] [(.long p1)]))
  refine own_step (fun _ k => XS.lconst X0.here hx rfl (hb hby d4_1) k) ?_
  show own_Ends p e below F (s₁.setTop (mkF m 2 #[.val (.long p1), .second, .val (.ref b)] [(.long (0 : Int64)), (.long p1)]))
  refine own_step (fun _ k => XS.lcmp X0.here hx rfl (hb hby d4_2) rfl k) ?_
  show own_Ends p e below F (s₁.setTop (mkF m 3 #[.val (.long p1), .second, .val (.ref b)] [(.int (lcmpW p1 (0 : Int64)))]))
  refine own_step (fun _ k => XS.ifYes X0.here hx rfl (pc0 := 3) (pc' := 21) rfl (hb hby d4_3) rfl ((if0 _ _).trans (flt (fun q => (hp : ¬ (p1 < (0 : Int64))) ((lw_lt _ _).mp q))).2.1) (by decide) (by decide) k) ?_
  show own_Ends p e below F (s₁.setTop (mkF m 21 #[.val (.long p1), .second, .val (.ref b)] []))
  rw [hF]
  exact own_ret X0 (v := none) (fun _ => rfl) Bd.notSynchronized (fun fs hr => X0.returnOut hx Bd.returns (hb hby d4_21) hr) (by decide) (by decide) (by rw [e0]; exact ⟨rfl, N0, rfl⟩)

theorem own_sa : ∀ d ∈ Bundle.stringAtoms, d ∈ tables_1 := by decide +kernel
theorem d3_0 : decode prog_2_method_5_code 0 = .ok (.lload_n 1, 1) := by decide +kernel
theorem d3_1 : decode prog_2_method_5_code 1 = .ok (.ldc 35, 2) := by decide +kernel
theorem d3_3 : decode prog_2_method_5_code 3 = .ok (.invokestatic 31, 3) := by decide +kernel
theorem d3_6 : decode prog_2_method_5_code 6 = .ok (.lload_n 1, 1) := by decide +kernel
theorem d3_7 : decode prog_2_method_5_code 7 = .ok (.aload_n 0, 1) := by decide +kernel
theorem d3_8 : decode prog_2_method_5_code 8 = .ok (.getfield 19, 3) := by decide +kernel
theorem d3_11 : decode prog_2_method_5_code 11 = .ok (.ldiv, 1) := by decide +kernel
theorem d3_12 : decode prog_2_method_5_code 12 = .ok (.lstore_n 3, 1) := by decide +kernel
theorem d3_13 : decode prog_2_method_5_code 13 = .ok (.lload_n 1, 1) := by decide +kernel
theorem d3_14 : decode prog_2_method_5_code 14 = .ok (.aload_n 0, 1) := by decide +kernel
theorem d3_15 : decode prog_2_method_5_code 15 = .ok (.getfield 19, 3) := by decide +kernel
theorem d3_18 : decode prog_2_method_5_code 18 = .ok (.lrem, 1) := by decide +kernel
theorem d3_19 : decode prog_2_method_5_code 19 = .ok (.lconst 0, 1) := by decide +kernel
theorem d3_20 : decode prog_2_method_5_code 20 = .ok (.lcmp, 1) := by decide +kernel
theorem d3_21 : decode prog_2_method_5_code 21 = .ok (.ifCond .ne 7, 3) := by decide +kernel
theorem d3_24 : decode prog_2_method_5_code 24 = .ok (.lload_n 3, 1) := by decide +kernel
theorem d3_25 : decode prog_2_method_5_code 25 = .ok (.goto 6, 3) := by decide +kernel
theorem d3_28 : decode prog_2_method_5_code 28 = .ok (.lload_n 3, 1) := by decide +kernel
theorem d3_29 : decode prog_2_method_5_code 29 = .ok (.lconst 1, 1) := by decide +kernel
theorem d3_30 : decode prog_2_method_5_code 30 = .ok (.ladd, 1) := by decide +kernel
theorem d3_31 : decode prog_2_method_5_code 31 = .ok (.lreturn, 1) := by decide +kernel
theorem pd__28JLjava_2flang_2fString_3b_29V : parseMethodDescriptor "(JLjava/lang/String;)V" = some ⟨[.long, (.object "java/lang/String")], none⟩ := by decide +kernel
theorem ef_rm3 (m : MethodId) (x0 : Addr) (x1 : Int64) : entryFrame m #[(.ref x0), (.long x1)] 5 = mkF m 0 #[.val (.ref x0), .val (.long x1), .second, .unset, .unset] [] := by first | (simp [entryFrame, mkF, argsToLocals, Value.category, maxLocals]; done) | rfl
def Q3 (Z : State) (a : Addr) (p1 : Int64) (kk : Int64) (h0 : Heap) (n0 : Nat) (v : Option Value) (h : Heap) (L : List Loc) : Prop := v = some (.long (own_due p1 kk)) ∧ Fr n0 L ∧ Keep h0 h []
set_option maxRecDepth 65536 in
set_option maxHeartbeats 40000000 in
theorem rm3 (l : Launch) (Z : State) (a0 : Array Value) (hw : ∀ d ∈ tables_1, d.before a0 Z = true) (ws : List Jvm.Cond) (a : Addr) (p1 : Int64) (kk : Int64) (h0 : Heap) (n0 : Nat) (Z0 : n0 ≤ h0.size) (FT : Fld Z h0 a "com/example/clock3600/clock3600/Ring" "tickMillis" "J" (.long kk)) (hp : ¬ p1 < (0 : Int64)) (hk0 : kk ≠ 0) :
    MetFree l (⟨"com/example/clock3600/clock3600/Ring", "dueTick", "(J)J"⟩ : MethodName) (head1 (Jvm.Cond.code (⟨"com/example/clock3600/clock3600/Ring", "dueTick", "(J)J"⟩ : MethodName) prog_2_method_5_code 5 (some .long) :: ws) ({ frames := 1, cells := 2, slots := 36, locals := 14 } : Room)) (fun ar U => ar = #[(.ref a), (.long p1)] ∧ Z.Warmed39 U.vm ∧ U.heap = h0) (fun _ _ _ _ _ => True) (fun _ U o U' => ∃ v L, o = .returned v ∧ Q3 Z a p1 kk h0 n0 v U'.heap L ∧ ReturnedEndW U o U' L ({ frames := 1, cells := 2, slots := 36, locals := 14 } : Room).cells ({ frames := 1, cells := 2, slots := 36, locals := 14 } : Room).slots) := by
  refine MetFree.of_bodySF (plainFor_of_name pn_com_example_clock3600_clock3600_Ring) hisR ?_
  intro p e s m args below meth c s₁ Bd hml0 hP hK
  obtain ⟨rfl, hZ, hh⟩ := hP
  have hx := Bd.exec
  have hby := Bd.bytes
  have hml : c.maxLocals = 5 := hml0
  have hown : s.vm.findClass "com/example/clock3600/clock3600/Ring" = some m.cls := findClass_of_methodNamed Bd.named
  have hnm := (name_of_methodNamed Bd.named Bd.method).1
  have X0 : Stand p l e ({ frames := 1, cells := 2, slots := 36, locals := 14 } : Room) (s.setVm s.vm) m #[(.ref a), (.long p1)] below meth c s₁ [] 0 0 := Stand.of_body Bd
  have e0 : s₁.heap = h0 := by rw [← hh, Bd.state]; rfl
  have N0 := Fr.nil n0
  have hS : s.Since s.vm h0.size := (State.WarmedH.refl s).since _
  have hk := Nat.le_refl h0.size
  obtain ⟨F, hF⟩ : ∃ F, F = own_FinW s (Q3 Z a p1 kk h0 n0) ({ frames := 1, cells := 2, slots := 36, locals := 14 } : Room).cells ({ frames := 1, cells := 2, slots := 36, locals := 14 } : Room).slots := ⟨_, rfl⟩
  show own_Ends p e below (own_FinW s (Q3 Z a p1 kk h0 n0) ({ frames := 1, cells := 2, slots := 36, locals := 14 } : Room).cells ({ frames := 1, cells := 2, slots := 36, locals := 14 } : Room).slots) _
  rw [← hF, ef_rm3 m a p1]
  show own_Ends p e below F (s₁.setTop (mkF m 0 #[.val (.ref a), .val (.long p1), .second, .unset, .unset] []))
  refine own_step (fun _ k => XS.lloadN X0.here hx rfl (hb hby d3_0) rfl k) ?_
  show own_Ends p e below F (s₁.setTop (mkF m 1 #[.val (.ref a), .val (.long p1), .second, .unset, .unset] [(.long p1)]))
  obtain ⟨a1, T1, h1, k1, X1, e1, E1, hS, hk, hZ, hown, st1⟩ := ldcS X0 hx hZ hown (own_g hw 20 rfl) (fun d hd => hw d (own_sa d hd)) e0 hS hk (g := (mkF m 1 #[.val (.ref a), .val (.long p1), .second, .unset, .unset] [(.long p1)])) rfl (hb hby d3_1) (n := 32) (by decide) (by decide) (by decide) (by decide)
  have Z1 : n0 ≤ h1.size := Nat.le_trans Z0 E1.1
  have SZ1 : h0.size ≤ h1.size := Nat.le_trans (Nat.le_refl h0.size) E1.1
  refine own_step st1 ?_
  show own_Ends p e below F (T1.setTop (mkF m 3 #[.val (.ref a), .val (.long p1), .second, .unset, .unset] [(.ref a1), (.long p1)]))
  obtain ⟨_, _, ⟨T2, L2, k2, n2⟩, -, X2, ⟨Lc2, hQ2, l2, y2, z2⟩, st2⟩ := Jvm.LawKit.callS X1 hx (y := (⟨"com/example/clock3600/clock3600/Ring", "requireNotNegative", "(JLjava/lang/String;)V"⟩ : MethodName)) hown (mvT hZ (own_g hw 28 rfl)) (mvT hZ (own_g hw 29 rfl)) (mvT hZ (own_g hw 4 rfl)) (mvT hZ (own_g hw 30 rfl)) (by decide) (backOf (W := 0) (rm4 l Z a0 hw [] p1 a1 h1 n0 Z1 hp) hZ (own_g hw 30 rfl) (own_g hw 4 rfl) (by decide) (by decide)) (g := (mkF m 3 #[.val (.ref a), .val (.long p1), .second, .unset, .unset] [(.ref a1), (.long p1)])) rfl (by rw [hml]; rfl) (argsL := [(.long p1), (.ref a1)]) (rest := []) (lenOf pd__28JLjava_2flang_2fString_3b_29V rfl) rfl (by show 2 * 0 + _ ≤ _; exact Nat.le_of_eq rfl) (hb hby d3_3) (fun _ _ => ⟨rfl, e1, (by decide : 2 + 0 ≤ _), (by decide : 36 + 0 ≤ _)⟩)
  dsimp only [Pt.U, Pt.locs, Pt.cells, Pt.slots] at X2 l2 y2 z2 st2 hQ2
  subst l2 y2 z2
  obtain ⟨rfl, Nq2, eq2⟩ := hQ2
  have N2 := Fr.app N0 Nq2
  refine own_step st2 ?_
  show own_Ends p e below F (T2.setTop (mkF m 6 #[.val (.ref a), .val (.long p1), .second, .unset, .unset] []))
  refine own_step (fun _ k => XS.lloadN X2.here hx rfl (hb hby d3_6) rfl k) ?_
  show own_Ends p e below F (T2.setTop (mkF m 7 #[.val (.ref a), .val (.long p1), .second, .unset, .unset] [(.long p1)]))
  refine own_step (fun _ k => XS.aloadN X2.here hx rfl (hb hby d3_7) rfl rfl k) ?_
  show own_Ends p e below F (T2.setTop (mkF m 8 #[.val (.ref a), .val (.long p1), .second, .unset, .unset] [(.ref a), (.long p1)]))
  obtain ⟨T3, X3, e3, st3⟩ := getF X2 hx hZ hown (host := "") (Or.inl (own_g hw 11 rfl)) Via.refl eq2 (FT.ext E1) (g := (mkF m 8 #[.val (.ref a), .val (.long p1), .second, .unset, .unset] [(.ref a), (.long p1)])) rfl rfl (hb hby d3_8)
  refine own_step st3 ?_
  show own_Ends p e below F (T3.setTop (mkF m 11 #[.val (.ref a), .val (.long p1), .second, .unset, .unset] [(.long kk), (.long p1)]))
  refine own_step (fun _ k => XS.ldiv X3.here hx rfl (hb hby d3_11) rfl hk0 k) ?_
  show own_Ends p e below F (T3.setTop (mkF m 12 #[.val (.ref a), .val (.long p1), .second, .unset, .unset] [(.long (p1 / kk))]))
  refine own_step (fun _ k => XS.lstoreN X3.here hx rfl (hb hby d3_12) rfl (l' := #[.val (.ref a), .val (.long p1), .second, .val (.long (p1 / kk)), .second]) rfl k) ?_
  show own_Ends p e below F (T3.setTop (mkF m 13 #[.val (.ref a), .val (.long p1), .second, .val (.long (p1 / kk)), .second] []))
  refine own_step (fun _ k => XS.lloadN X3.here hx rfl (hb hby d3_13) rfl k) ?_
  show own_Ends p e below F (T3.setTop (mkF m 14 #[.val (.ref a), .val (.long p1), .second, .val (.long (p1 / kk)), .second] [(.long p1)]))
  refine own_step (fun _ k => XS.aloadN X3.here hx rfl (hb hby d3_14) rfl rfl k) ?_
  show own_Ends p e below F (T3.setTop (mkF m 15 #[.val (.ref a), .val (.long p1), .second, .val (.long (p1 / kk)), .second] [(.ref a), (.long p1)]))
  obtain ⟨T4, X4, e4, st4⟩ := getF X3 hx hZ hown (host := "") (Or.inl (own_g hw 11 rfl)) Via.refl e3 (FT.ext E1) (g := (mkF m 15 #[.val (.ref a), .val (.long p1), .second, .val (.long (p1 / kk)), .second] [(.ref a), (.long p1)])) rfl rfl (hb hby d3_15)
  refine own_step st4 ?_
  show own_Ends p e below F (T4.setTop (mkF m 18 #[.val (.ref a), .val (.long p1), .second, .val (.long (p1 / kk)), .second] [(.long kk), (.long p1)]))
  refine own_step (fun _ k => XS.lrem X4.here hx rfl (hb hby d3_18) rfl hk0 k) ?_
  show own_Ends p e below F (T4.setTop (mkF m 19 #[.val (.ref a), .val (.long p1), .second, .val (.long (p1 / kk)), .second] [(.long (p1 - (p1 / kk) * kk))]))
  refine own_step (fun _ k => XS.lconst X4.here hx rfl (hb hby d3_19) k) ?_
  show own_Ends p e below F (T4.setTop (mkF m 20 #[.val (.ref a), .val (.long p1), .second, .val (.long (p1 / kk)), .second] [(.long (0 : Int64)), (.long (p1 - (p1 / kk) * kk))]))
  refine own_step (fun _ k => XS.lcmp X4.here hx rfl (hb hby d3_20) rfl k) ?_
  show own_Ends p e below F (T4.setTop (mkF m 21 #[.val (.ref a), .val (.long p1), .second, .val (.long (p1 / kk)), .second] [(.int (lcmpW (p1 - (p1 / kk) * kk) (0 : Int64)))]))
  by_cases c21_5 : (p1 - (p1 / kk) * kk) = (0 : Int64)
  · refine own_step (fun _ k => XS.ifNo X4.here hx rfl (hb hby d3_21) rfl ((if0 _ _).trans (teq ((lw_eq _ _).mpr c21_5)).2) k) ?_
    show own_Ends p e below F (T4.setTop (mkF m 24 #[.val (.ref a), .val (.long p1), .second, .val (.long (p1 / kk)), .second] []))
    refine own_step (fun _ k => XS.lloadN X4.here hx rfl (hb hby d3_24) rfl k) ?_
    show own_Ends p e below F (T4.setTop (mkF m 25 #[.val (.ref a), .val (.long p1), .second, .val (.long (p1 / kk)), .second] [(.long (p1 / kk))]))
    refine own_step (fun _ k => XS.goto X4.here hx rfl (pc0 := 25) (pc' := 31) rfl (hb hby d3_25) (by decide) (by decide) k) ?_
    show own_Ends p e below F (T4.setTop (mkF m 31 #[.val (.ref a), .val (.long p1), .second, .val (.long (p1 / kk)), .second] [(.long (p1 / kk))]))
    rw [hF]
    exact own_retW X4 hS (by rw [e4]; exact hk) (v := (some (.long (p1 / kk)))) (fun h => by rw [Bd.returns] at h; cases h) Bd.notSynchronized (fun fs hr => X4.lreturnOut hx Bd.returns (hb hby d3_31) hr) (by decide) (by decide) (by rw [e4]; exact ⟨by simp only [own_due, c21_5, if_true, if_false], N2, ((Keep.ext (Keep.refl _ _) E1) : Keep h0 h1 [])⟩)
  · refine own_step (fun _ k => XS.ifYes X4.here hx rfl (pc0 := 21) (pc' := 28) rfl (hb hby d3_21) rfl ((if0 _ _).trans (feq (fun q => c21_5 ((lw_eq _ _).mp q))).2) (by decide) (by decide) k) ?_
    show own_Ends p e below F (T4.setTop (mkF m 28 #[.val (.ref a), .val (.long p1), .second, .val (.long (p1 / kk)), .second] []))
    refine own_step (fun _ k => XS.lloadN X4.here hx rfl (hb hby d3_28) rfl k) ?_
    show own_Ends p e below F (T4.setTop (mkF m 29 #[.val (.ref a), .val (.long p1), .second, .val (.long (p1 / kk)), .second] [(.long (p1 / kk))]))
    refine own_step (fun _ k => XS.lconst X4.here hx rfl (hb hby d3_29) k) ?_
    show own_Ends p e below F (T4.setTop (mkF m 30 #[.val (.ref a), .val (.long p1), .second, .val (.long (p1 / kk)), .second] [(.long (1 : Int64)), (.long (p1 / kk))]))
    refine own_step (fun _ k => XS.ladd X4.here hx rfl (hb hby d3_30) rfl k) ?_
    show own_Ends p e below F (T4.setTop (mkF m 31 #[.val (.ref a), .val (.long p1), .second, .val (.long (p1 / kk)), .second] [(.long ((p1 / kk) + (1 : Int64)))]))
    rw [hF]
    exact own_retW X4 hS (by rw [e4]; exact hk) (v := (some (.long ((p1 / kk) + (1 : Int64))))) (fun h => by rw [Bd.returns] at h; cases h) Bd.notSynchronized (fun fs hr => X4.lreturnOut hx Bd.returns (hb hby d3_31) hr) (by decide) (by decide) (by rw [e4]; exact ⟨by simp only [own_due, c21_5, if_true, if_false], N2, ((Keep.ext (Keep.refl _ _) E1) : Keep h0 h1 [])⟩)

theorem pn_com_example_clock3600_clock3600_RingDueTickPinLaw : plainName "com/example/clock3600/clock3600/RingDueTickPinLaw" = true := by first | (simp [plainName, overriddenIn]; done) | decide +kernel
theorem pd__28JI_29V : parseMethodDescriptor "(JI)V" = some ⟨[.long, .int], none⟩ := by decide +kernel
theorem pd__28J_29J : parseMethodDescriptor "(J)J" = some ⟨[.long], some .long⟩ := by decide +kernel
theorem ef_rm0 (m : MethodId) (x0 : Int64) (x1 : Int32) (x2 : Int64) : entryFrame m #[(.long x0), (.int x1), (.long x2)] maxLocals = mkF m 0 #[.val (.long x0), .second, .val (.int x1), .val (.long x2), .second, .unset, .unset, .unset, .unset, .unset, .unset, .unset, .unset, .unset, .unset] [] := by first | (simp [entryFrame, mkF, argsToLocals, Value.category, maxLocals]; done) | rfl
def Q0 (Z : State) (p1 : Int64) (p2 : Int32) (p3 : Int64) (h0 : Heap) (n0 : Nat) (v : Option Value) (h : Heap) (L : List Loc) : Prop := v = some (.int 1) ∧ Fr n0 L
set_option maxRecDepth 65536 in
set_option maxHeartbeats 40000000 in
theorem rm0 (l : Launch) (Z : State) (a0 : Array Value) (hw : ∀ d ∈ tables_1, d.before a0 Z = true) (ws : List Jvm.Cond) (p1 : Int64) (p2 : Int32) (p3 : Int64) (h0 : Heap) (n0 : Nat) (Z0 : n0 ≤ h0.size)  :
    MetFree l x (head1 (Jvm.Cond.code x code maxLocals ret :: ws) room_1) (fun ar U => ar = #[(.long p1), (.int p2), (.long p3)] ∧ Z.Warmed39 U.vm ∧ U.heap = h0) (fun _ _ _ _ _ => True) (fun _ U o U' => ∃ v L, o = .returned v ∧ Q0 Z p1 p2 p3 h0 n0 v U'.heap L ∧ ReturnedEndW U o U' L room_1.cells room_1.slots) := by
  refine MetFree.of_bodySF (plainFor_of_name pn_com_example_clock3600_clock3600_RingDueTickPinLaw) hisR ?_
  intro p e s m args below meth c s₁ Bd hml0 hP hK
  obtain ⟨rfl, hZ, hh⟩ := hP
  have hx := Bd.exec
  have hby := Bd.bytes
  have hml : c.maxLocals = 15 := hml0
  have hown : s.vm.findClass "com/example/clock3600/clock3600/RingDueTickPinLaw" = some m.cls := findClass_of_methodNamed Bd.named
  have hnm := (name_of_methodNamed Bd.named Bd.method).1
  have X0 : Stand p l e room_1 (s.setVm s.vm) m #[(.long p1), (.int p2), (.long p3)] below meth c s₁ [] 0 0 := Stand.of_body Bd
  have e0 : s₁.heap = h0 := by rw [← hh, Bd.state]; rfl
  have N0 := Fr.nil n0
  have hS : s.Since s.vm h0.size := (State.WarmedH.refl s).since _
  have hk := Nat.le_refl h0.size
  obtain ⟨F, hF⟩ : ∃ F, F = own_FinW s (Q0 Z p1 p2 p3 h0 n0) room_1.cells room_1.slots := ⟨_, rfl⟩
  show own_Ends p e below (own_FinW s (Q0 Z p1 p2 p3 h0 n0) room_1.cells room_1.slots) _
  rw [← hF, ef_rm0 m p1 p2 p3]
  show own_Ends p e below F (s₁.setTop (mkF m 0 #[.val (.long p1), .second, .val (.int p2), .val (.long p3), .second, .unset, .unset, .unset, .unset, .unset, .unset, .unset, .unset, .unset, .unset] []))
  refine own_step (fun _ k => XS.lloadN X0.here hx rfl (hb hby at_0) rfl k) ?_
  show own_Ends p e below F (s₁.setTop (mkF m 1 #[.val (.long p1), .second, .val (.int p2), .val (.long p3), .second, .unset, .unset, .unset, .unset, .unset, .unset, .unset, .unset, .unset, .unset] [(.long p1)]))
  refine own_step (X0.ldc2Long hx hown (mvT hZ (own_g hw 0 rfl)) (g := (mkF m 1 #[.val (.long p1), .second, .val (.int p2), .val (.long p3), .second, .unset, .unset, .unset, .unset, .unset, .unset, .unset, .unset, .unset, .unset] [(.long p1)])) rfl (hb hby at_1)) ?_
  show own_Ends p e below F (s₁.setTop (mkF m 4 #[.val (.long p1), .second, .val (.int p2), .val (.long p3), .second, .unset, .unset, .unset, .unset, .unset, .unset, .unset, .unset, .unset, .unset] [(.long (9223372036854775807 : Int64)), (.long p1)]))
  refine own_step (fun _ k => XS.land X0.here hx rfl (hb hby at_4) rfl k) ?_
  show own_Ends p e below F (s₁.setTop (mkF m 5 #[.val (.long p1), .second, .val (.int p2), .val (.long p3), .second, .unset, .unset, .unset, .unset, .unset, .unset, .unset, .unset, .unset, .unset] [(.long (p1 &&& (9223372036854775807 : Int64)))]))
  obtain ⟨v1, ev1⟩ : ∃ z : Int64, z = (p1 &&& (9223372036854775807 : Int64)) := ⟨_, rfl⟩
  rw [← ev1]
  show own_Ends p e below F (s₁.setTop (mkF m 5 #[.val (.long p1), .second, .val (.int p2), .val (.long p3), .second, .unset, .unset, .unset, .unset, .unset, .unset, .unset, .unset, .unset, .unset] [(.long v1)]))
  refine own_step (fun _ k => XS.lstore X0.here hx rfl (hb hby at_5) rfl (l' := #[.val (.long p1), .second, .val (.int p2), .val (.long p3), .second, .val (.long v1), .second, .unset, .unset, .unset, .unset, .unset, .unset, .unset, .unset]) rfl k) ?_
  show own_Ends p e below F (s₁.setTop (mkF m 7 #[.val (.long p1), .second, .val (.int p2), .val (.long p3), .second, .val (.long v1), .second, .unset, .unset, .unset, .unset, .unset, .unset, .unset, .unset] []))
  refine own_step (fun _ k => XS.lload X0.here hx rfl (hb hby at_7) rfl k) ?_
  show own_Ends p e below F (s₁.setTop (mkF m 9 #[.val (.long p1), .second, .val (.int p2), .val (.long p3), .second, .val (.long v1), .second, .unset, .unset, .unset, .unset, .unset, .unset, .unset, .unset] [(.long v1)]))
  refine own_step (fun _ k => XS.lconst X0.here hx rfl (hb hby at_9) k) ?_
  show own_Ends p e below F (s₁.setTop (mkF m 10 #[.val (.long p1), .second, .val (.int p2), .val (.long p3), .second, .val (.long v1), .second, .unset, .unset, .unset, .unset, .unset, .unset, .unset, .unset] [(.long (1 : Int64)), (.long v1)]))
  refine own_step (fun _ k => XS.lcmp X0.here hx rfl (hb hby at_10) rfl k) ?_
  show own_Ends p e below F (s₁.setTop (mkF m 11 #[.val (.long p1), .second, .val (.int p2), .val (.long p3), .second, .val (.long v1), .second, .unset, .unset, .unset, .unset, .unset, .unset, .unset, .unset] [(.int (lcmpW v1 (1 : Int64)))]))
  have J11_3 : ∀ (z2 : Int64) (hz2 : z2 = (if v1 < (1 : Int64) then (1 : Int64) else v1)), own_Ends p e below F (s₁.setTop (mkF m 17 #[.val (.long p1), .second, .val (.int p2), .val (.long p3), .second, .val (.long z2), .second, .unset, .unset, .unset, .unset, .unset, .unset, .unset, .unset] [])) := by
    intro z2 hz2
    have hk1 := own_least _ _ hz2
    have hnz := own_nz _ hk1
    refine own_step (fun _ k => XS.iloadN X0.here hx rfl (hb hby at_17) rfl k) ?_
    show own_Ends p e below F (s₁.setTop (mkF m 18 #[.val (.long p1), .second, .val (.int p2), .val (.long p3), .second, .val (.long z2), .second, .unset, .unset, .unset, .unset, .unset, .unset, .unset, .unset] [(.int p2)]))
    refine own_step (X0.ldcInt hx hown (mvT hZ (own_g hw 1 rfl)) (g := (mkF m 18 #[.val (.long p1), .second, .val (.int p2), .val (.long p3), .second, .val (.long z2), .second, .unset, .unset, .unset, .unset, .unset, .unset, .unset, .unset] [(.int p2)])) rfl (hb hby at_18)) ?_
    show own_Ends p e below F (s₁.setTop (mkF m 20 #[.val (.long p1), .second, .val (.int p2), .val (.long p3), .second, .val (.long z2), .second, .unset, .unset, .unset, .unset, .unset, .unset, .unset, .unset] [(.int (2147483647 : Int32)), (.int p2)]))
    refine own_step (fun _ k => XS.iand X0.here hx rfl (hb hby at_20) rfl k) ?_
    show own_Ends p e below F (s₁.setTop (mkF m 21 #[.val (.long p1), .second, .val (.int p2), .val (.long p3), .second, .val (.long z2), .second, .unset, .unset, .unset, .unset, .unset, .unset, .unset, .unset] [(.int (p2 &&& (2147483647 : Int32)))]))
    obtain ⟨v5, ev5⟩ : ∃ z : Int32, z = (p2 &&& (2147483647 : Int32)) := ⟨_, rfl⟩
    rw [← ev5]
    show own_Ends p e below F (s₁.setTop (mkF m 21 #[.val (.long p1), .second, .val (.int p2), .val (.long p3), .second, .val (.long z2), .second, .unset, .unset, .unset, .unset, .unset, .unset, .unset, .unset] [(.int v5)]))
    refine own_step (fun _ k => XS.istore X0.here hx rfl (hb hby at_21) rfl (l' := #[.val (.long p1), .second, .val (.int p2), .val (.long p3), .second, .val (.long z2), .second, .val (.int v5), .unset, .unset, .unset, .unset, .unset, .unset, .unset]) rfl k) ?_
    show own_Ends p e below F (s₁.setTop (mkF m 23 #[.val (.long p1), .second, .val (.int p2), .val (.long p3), .second, .val (.long z2), .second, .val (.int v5), .unset, .unset, .unset, .unset, .unset, .unset, .unset] []))
    refine own_step (fun _ k => XS.iload X0.here hx rfl (hb hby at_23) rfl k) ?_
    show own_Ends p e below F (s₁.setTop (mkF m 25 #[.val (.long p1), .second, .val (.int p2), .val (.long p3), .second, .val (.long z2), .second, .val (.int v5), .unset, .unset, .unset, .unset, .unset, .unset, .unset] [(.int v5)]))
    refine own_step (fun _ k => XS.iconst X0.here hx rfl (hb hby at_25) k) ?_
    show own_Ends p e below F (s₁.setTop (mkF m 26 #[.val (.long p1), .second, .val (.int p2), .val (.long p3), .second, .val (.long z2), .second, .val (.int v5), .unset, .unset, .unset, .unset, .unset, .unset, .unset] [(.int (1 : Int32)), (.int v5)]))
    have J26_7 : ∀ (z6 : Int32) (hz6 : z6 = (if v5 < (1 : Int32) then (1 : Int32) else v5)), own_Ends p e below F (s₁.setTop (mkF m 32 #[.val (.long p1), .second, .val (.int p2), .val (.long p3), .second, .val (.long z2), .second, .val (.int z6), .unset, .unset, .unset, .unset, .unset, .unset, .unset] [])) := by
      intro z6 hz6
      have hs1 := own_leastI _ _ hz6
      refine own_step (fun _ k => XS.lloadN X0.here hx rfl (hb hby at_32) rfl k) ?_
      show own_Ends p e below F (s₁.setTop (mkF m 33 #[.val (.long p1), .second, .val (.int p2), .val (.long p3), .second, .val (.long z2), .second, .val (.int z6), .unset, .unset, .unset, .unset, .unset, .unset, .unset] [(.long p3)]))
      refine own_step (X0.ldc2Long hx hown (mvT hZ (own_g hw 0 rfl)) (g := (mkF m 33 #[.val (.long p1), .second, .val (.int p2), .val (.long p3), .second, .val (.long z2), .second, .val (.int z6), .unset, .unset, .unset, .unset, .unset, .unset, .unset] [(.long p3)])) rfl (hb hby at_33)) ?_
      show own_Ends p e below F (s₁.setTop (mkF m 36 #[.val (.long p1), .second, .val (.int p2), .val (.long p3), .second, .val (.long z2), .second, .val (.int z6), .unset, .unset, .unset, .unset, .unset, .unset, .unset] [(.long (9223372036854775807 : Int64)), (.long p3)]))
      refine own_step (fun _ k => XS.land X0.here hx rfl (hb hby at_36) rfl k) ?_
      show own_Ends p e below F (s₁.setTop (mkF m 37 #[.val (.long p1), .second, .val (.int p2), .val (.long p3), .second, .val (.long z2), .second, .val (.int z6), .unset, .unset, .unset, .unset, .unset, .unset, .unset] [(.long (p3 &&& (9223372036854775807 : Int64)))]))
      obtain ⟨v9, ev9⟩ : ∃ z : Int64, z = (p3 &&& (9223372036854775807 : Int64)) := ⟨_, rfl⟩
      rw [← ev9]
      show own_Ends p e below F (s₁.setTop (mkF m 37 #[.val (.long p1), .second, .val (.int p2), .val (.long p3), .second, .val (.long z2), .second, .val (.int z6), .unset, .unset, .unset, .unset, .unset, .unset, .unset] [(.long v9)]))
      refine own_step (fun _ k => XS.lstore X0.here hx rfl (hb hby at_37) rfl (l' := #[.val (.long p1), .second, .val (.int p2), .val (.long p3), .second, .val (.long z2), .second, .val (.int z6), .val (.long v9), .second, .unset, .unset, .unset, .unset, .unset]) rfl k) ?_
      show own_Ends p e below F (s₁.setTop (mkF m 39 #[.val (.long p1), .second, .val (.int p2), .val (.long p3), .second, .val (.long z2), .second, .val (.int z6), .val (.long v9), .second, .unset, .unset, .unset, .unset, .unset] []))
      have hd0 : ¬ v9 < (0 : Int64) := by rw [ev9]; exact own_nn p3
      obtain ⟨T10, h10, X10, e10, E10, A10, D10, -, st10⟩ := newO X0 hx hZ hown (own_g hw 2 rfl) (own_g hw 3 rfl) (own_g hw 4 rfl) e0 (g := (mkF m 39 #[.val (.long p1), .second, .val (.int p2), .val (.long p3), .second, .val (.long z2), .second, .val (.int z6), .val (.long v9), .second, .unset, .unset, .unset, .unset, .unset] [])) rfl (hb hby at_39) (by decide) (by decide)
      obtain ⟨a10, g10⟩ : ∃ z, z = h0.size := ⟨_, rfl⟩
      rw [← g10] at A10 D10 st10
      have ge_a10 : n0 ≤ a10 := Nat.le_trans Z0 (Nat.le_of_eq g10.symm)
      have sz_a10 : h0.size ≤ a10 := Nat.le_trans (Nat.le_refl h0.size) (Nat.le_of_eq g10.symm)
      have Z10 : n0 ≤ h10.size := Nat.le_trans Z0 E10.1
      have SZ10 : h0.size ≤ h10.size := Nat.le_trans (Nat.le_refl h0.size) E10.1
      have hk := Nat.le_trans hk E10.1
      have F10_tickMillis : Fld Z h10 a10 "com/example/clock3600/clock3600/Ring" "tickMillis" "J" (.long (0 : Int64)) := D10 (Or.inr (own_g hw 12 rfl)) (ty := .long) (by decide)
      have F10_slots : Fld Z h10 a10 "com/example/clock3600/clock3600/Ring" "slots" "I" (.int (0 : Int32)) := D10 (Or.inr (own_g hw 14 rfl)) (ty := .int) (by decide)
      refine own_step st10 ?_
      show own_Ends p e below F (T10.setTop (mkF m 42 #[.val (.long p1), .second, .val (.int p2), .val (.long p3), .second, .val (.long z2), .second, .val (.int z6), .val (.long v9), .second, .unset, .unset, .unset, .unset, .unset] [(.ref a10)]))
      refine own_step (fun _ k => XS.dup X10.here hx rfl (hb hby at_42) rfl rfl k) ?_
      show own_Ends p e below F (T10.setTop (mkF m 43 #[.val (.long p1), .second, .val (.int p2), .val (.long p3), .second, .val (.long z2), .second, .val (.int z6), .val (.long v9), .second, .unset, .unset, .unset, .unset, .unset] [(.ref a10), (.ref a10)]))
      refine own_step (fun _ k => XS.lload X10.here hx rfl (hb hby at_43) rfl k) ?_
      show own_Ends p e below F (T10.setTop (mkF m 45 #[.val (.long p1), .second, .val (.int p2), .val (.long p3), .second, .val (.long z2), .second, .val (.int z6), .val (.long v9), .second, .unset, .unset, .unset, .unset, .unset] [(.long z2), (.ref a10), (.ref a10)]))
      refine own_step (fun _ k => XS.iload X10.here hx rfl (hb hby at_45) rfl k) ?_
      show own_Ends p e below F (T10.setTop (mkF m 47 #[.val (.long p1), .second, .val (.int p2), .val (.long p3), .second, .val (.long z2), .second, .val (.int z6), .val (.long v9), .second, .unset, .unset, .unset, .unset, .unset] [(.int z6), (.long z2), (.ref a10), (.ref a10)]))
      obtain ⟨_, _, ⟨T11, L11, k11, n11⟩, -, X11, ⟨Lc11, hQ11, l11, y11, z11⟩, st11⟩ := X10.specialBack hx (y := (⟨"com/example/clock3600/clock3600/Ring", "<init>", "(JI)V"⟩ : MethodName)) rfl hown (mvT hZ (own_g hw 5 rfl)) (mvT hZ (own_g hw 6 rfl)) (mvT hZ (own_g hw 7 rfl)) (by decide) (backOf (W := 1) (rm1 l Z a0 hw [] a10 z2 z6 h10 n0 Z10 A10 ge_a10 F10_tickMillis F10_slots hk1 hs1) hZ (own_g hw 7 rfl) (own_g hw 4 rfl) (by decide) (by decide)) (g := (mkF m 47 #[.val (.long p1), .second, .val (.int p2), .val (.long p3), .second, .val (.long z2), .second, .val (.int z6), .val (.long v9), .second, .unset, .unset, .unset, .unset, .unset] [(.int z6), (.long z2), (.ref a10), (.ref a10)])) rfl (by rw [hml]; rfl) (Steps.refl _) (a := a10) (argsL := [(.long z2), (.int z6)]) (rest := [(.ref a10)]) (lenOf pd__28JI_29V rfl) rfl (by show 2 * 0 + _ ≤ _; exact Nat.le_of_eq rfl) (hb hby at_47) (fun _ _ => ⟨rfl, e10, (by decide : 1 + 0 ≤ _), (by decide : 2 + 0 ≤ _)⟩)
      dsimp only [Pt.U, Pt.locs, Pt.cells, Pt.slots] at X11 l11 y11 z11 st11 hQ11
      subst l11 y11 z11
      obtain ⟨rfl, Nq11, Kq11, fq0_11, fq1_11, fq2_11⟩ := hQ11
      have N11 := Fr.app N0 Nq11
      have Z11 : n0 ≤ T11.heap.size := Nat.le_trans Z10 Kq11.1
      have SZ11 : h0.size ≤ T11.heap.size := Nat.le_trans SZ10 Kq11.1
      have hk := Nat.le_trans hk Kq11.1
      refine own_trans st11 ?_
      show own_Ends p e below F (T11.setTop (mkF m 50 #[.val (.long p1), .second, .val (.int p2), .val (.long p3), .second, .val (.long z2), .second, .val (.int z6), .val (.long v9), .second, .unset, .unset, .unset, .unset, .unset] [(.ref a10)]))
      refine own_step (fun _ k => XS.astore X11.here hx rfl (hb hby at_50) rfl rfl (l' := #[.val (.long p1), .second, .val (.int p2), .val (.long p3), .second, .val (.long z2), .second, .val (.int z6), .val (.long v9), .second, .val (.ref a10), .unset, .unset, .unset, .unset]) rfl k) ?_
      show own_Ends p e below F (T11.setTop (mkF m 52 #[.val (.long p1), .second, .val (.int p2), .val (.long p3), .second, .val (.long z2), .second, .val (.int z6), .val (.long v9), .second, .val (.ref a10), .unset, .unset, .unset, .unset] []))
      refine own_step (fun _ k => XS.aload X11.here hx rfl (hb hby at_52) rfl rfl k) ?_
      show own_Ends p e below F (T11.setTop (mkF m 54 #[.val (.long p1), .second, .val (.int p2), .val (.long p3), .second, .val (.long z2), .second, .val (.int z6), .val (.long v9), .second, .val (.ref a10), .unset, .unset, .unset, .unset] [(.ref a10)]))
      refine own_step (fun _ k => XS.lload X11.here hx rfl (hb hby at_54) rfl k) ?_
      show own_Ends p e below F (T11.setTop (mkF m 56 #[.val (.long p1), .second, .val (.int p2), .val (.long p3), .second, .val (.long z2), .second, .val (.int z6), .val (.long v9), .second, .val (.ref a10), .unset, .unset, .unset, .unset] [(.long v9), (.ref a10)]))
      obtain ⟨cq12, kq12, qa12, qb12, qc12⟩ := isOf hZ rfl fq0_11
      obtain ⟨_, _, ⟨T12, L12, k12, n12⟩, -, X12, hS12, gr12, ⟨Lc12, hQ12, l12, y12, z12⟩, st12⟩ := X11.virtualBackS hx (y := (⟨"com/example/clock3600/clock3600/Ring", "dueTick", "(J)J"⟩ : MethodName)) (z := (⟨"com/example/clock3600/clock3600/Ring", "dueTick", "(J)J"⟩ : MethodName)) hown (mvT hZ (own_g hw 15 rfl)) (mvT hZ (own_g hw 16 rfl)) (notFace_of_selects (args := #[]) (mvT hZ (own_g hw 18 rfl))) (mvT hZ (own_g hw 18 rfl)) (mvT hZ (own_g hw 17 rfl)) (by decide) (backOfS (W := 0) (rm3 l Z a0 hw [] a10 v9 z2 T11.heap n0 Z11 fq1_11 hd0 hnz) hZ (own_g hw 19 rfl) (own_g hw 4 rfl) (by decide) (by decide)) qa12 qc12 (g := (mkF m 56 #[.val (.long p1), .second, .val (.int p2), .val (.long p3), .second, .val (.long z2), .second, .val (.int z6), .val (.long v9), .second, .val (.ref a10), .unset, .unset, .unset, .unset] [(.long v9), (.ref a10)])) rfl (by rw [hml]; rfl) (Steps.refl _) (argsL := [(.long v9)]) (rest := []) (lenOf pd__28J_29J rfl) rfl (by show 2 * 0 + _ ≤ _; exact Nat.le_of_eq rfl) (hb hby at_56) (fun _ _ => ⟨rfl, rfl, (by decide : 1 + 2 ≤ _), (by decide : 2 + 36 ≤ _)⟩)
      dsimp only [Pt.U, Pt.locs, Pt.cells, Pt.slots] at X12 l12 y12 z12 st12 hQ12 hS12 gr12
      subst l12 y12 z12
      obtain ⟨rfl, Nq12, Kq12⟩ := hQ12
      have N12 := Fr.app N11 Nq12
      have Z12 : n0 ≤ T12.heap.size := Nat.le_trans Z11 Kq12.1
      have SZ12 : h0.size ≤ T12.heap.size := Nat.le_trans SZ11 Kq12.1
      have hZ := own_warm hZ hS12
      have hown := own_find hown hS12
      have hS := foldS hS (by exact hk) hS12 gr12
      have hk := Nat.le_refl T12.heap.size
      refine own_trans st12 ?_
      show own_Ends p e below F (T12.setTop (mkF m 59 #[.val (.long p1), .second, .val (.int p2), .val (.long p3), .second, .val (.long z2), .second, .val (.int z6), .val (.long v9), .second, .val (.ref a10), .unset, .unset, .unset, .unset] [(.long (own_due v9 z2))]))
      refine own_step (fun _ k => XS.lstore X12.here hx rfl (hb hby at_59) rfl (l' := #[.val (.long p1), .second, .val (.int p2), .val (.long p3), .second, .val (.long z2), .second, .val (.int z6), .val (.long v9), .second, .val (.ref a10), .val (.long (own_due v9 z2)), .second, .unset, .unset]) rfl k) ?_
      show own_Ends p e below F (T12.setTop (mkF m 61 #[.val (.long p1), .second, .val (.int p2), .val (.long p3), .second, .val (.long z2), .second, .val (.int z6), .val (.long v9), .second, .val (.ref a10), .val (.long (own_due v9 z2)), .second, .unset, .unset] []))
      refine own_step (fun _ k => XS.lload X12.here hx rfl (hb hby at_61) rfl k) ?_
      show own_Ends p e below F (T12.setTop (mkF m 63 #[.val (.long p1), .second, .val (.int p2), .val (.long p3), .second, .val (.long z2), .second, .val (.int z6), .val (.long v9), .second, .val (.ref a10), .val (.long (own_due v9 z2)), .second, .unset, .unset] [(.long v9)]))
      refine own_step (fun _ k => XS.lconst X12.here hx rfl (hb hby at_63) k) ?_
      show own_Ends p e below F (T12.setTop (mkF m 64 #[.val (.long p1), .second, .val (.int p2), .val (.long p3), .second, .val (.long z2), .second, .val (.int z6), .val (.long v9), .second, .val (.ref a10), .val (.long (own_due v9 z2)), .second, .unset, .unset] [(.long (0 : Int64)), (.long v9)]))
      refine own_step (fun _ k => XS.lcmp X12.here hx rfl (hb hby at_64) rfl k) ?_
      show own_Ends p e below F (T12.setTop (mkF m 65 #[.val (.long p1), .second, .val (.int p2), .val (.long p3), .second, .val (.long z2), .second, .val (.int z6), .val (.long v9), .second, .val (.ref a10), .val (.long (own_due v9 z2)), .second, .unset, .unset] [(.int (lcmpW v9 (0 : Int64)))]))
      by_cases c65_13 : v9 = (0 : Int64)
      · refine own_step (fun _ k => XS.ifNo X12.here hx rfl (hb hby at_65) rfl ((if0 _ _).trans (teq ((lw_eq _ _).mpr c65_13)).2) k) ?_
        show own_Ends p e below F (T12.setTop (mkF m 68 #[.val (.long p1), .second, .val (.int p2), .val (.long p3), .second, .val (.long z2), .second, .val (.int z6), .val (.long v9), .second, .val (.ref a10), .val (.long (own_due v9 z2)), .second, .unset, .unset] []))
        refine own_step (fun _ k => XS.lconst X12.here hx rfl (hb hby at_68) k) ?_
        show own_Ends p e below F (T12.setTop (mkF m 69 #[.val (.long p1), .second, .val (.int p2), .val (.long p3), .second, .val (.long z2), .second, .val (.int z6), .val (.long v9), .second, .val (.ref a10), .val (.long (own_due v9 z2)), .second, .unset, .unset] [(.long (0 : Int64))]))
        refine own_step (fun _ k => XS.goto X12.here hx rfl (pc0 := 69) (pc' := 81) rfl (hb hby at_69) (by decide) (by decide) k) ?_
        show own_Ends p e below F (T12.setTop (mkF m 81 #[.val (.long p1), .second, .val (.int p2), .val (.long p3), .second, .val (.long z2), .second, .val (.int z6), .val (.long v9), .second, .val (.ref a10), .val (.long (own_due v9 z2)), .second, .unset, .unset] [(.long (0 : Int64))]))
        refine own_step (fun _ k => XS.lstore X12.here hx rfl (hb hby at_81) rfl (l' := #[.val (.long p1), .second, .val (.int p2), .val (.long p3), .second, .val (.long z2), .second, .val (.int z6), .val (.long v9), .second, .val (.ref a10), .val (.long (own_due v9 z2)), .second, .val (.long (0 : Int64)), .second]) rfl k) ?_
        show own_Ends p e below F (T12.setTop (mkF m 83 #[.val (.long p1), .second, .val (.int p2), .val (.long p3), .second, .val (.long z2), .second, .val (.int z6), .val (.long v9), .second, .val (.ref a10), .val (.long (own_due v9 z2)), .second, .val (.long (0 : Int64)), .second] []))
        refine own_step (fun _ k => XS.lload X12.here hx rfl (hb hby at_83) rfl k) ?_
        show own_Ends p e below F (T12.setTop (mkF m 85 #[.val (.long p1), .second, .val (.int p2), .val (.long p3), .second, .val (.long z2), .second, .val (.int z6), .val (.long v9), .second, .val (.ref a10), .val (.long (own_due v9 z2)), .second, .val (.long (0 : Int64)), .second] [(.long (own_due v9 z2))]))
        refine own_step (fun _ k => XS.lload X12.here hx rfl (hb hby at_85) rfl k) ?_
        show own_Ends p e below F (T12.setTop (mkF m 87 #[.val (.long p1), .second, .val (.int p2), .val (.long p3), .second, .val (.long z2), .second, .val (.int z6), .val (.long v9), .second, .val (.ref a10), .val (.long (own_due v9 z2)), .second, .val (.long (0 : Int64)), .second] [(.long (0 : Int64)), (.long (own_due v9 z2))]))
        refine own_step (fun _ k => XS.lcmp X12.here hx rfl (hb hby at_87) rfl k) ?_
        show own_Ends p e below F (T12.setTop (mkF m 88 #[.val (.long p1), .second, .val (.int p2), .val (.long p3), .second, .val (.long z2), .second, .val (.int z6), .val (.long v9), .second, .val (.ref a10), .val (.long (own_due v9 z2)), .second, .val (.long (0 : Int64)), .second] [(.int (lcmpW (own_due v9 z2) (0 : Int64)))]))
        refine own_step (fun _ k => XS.ifNo X12.here hx rfl (hb hby at_88) rfl ((if0 _ _).trans (teq ((lw_eq _ _).mpr (own_due0 _ _ c65_13 : (own_due v9 z2) = (0 : Int64)))).2) k) ?_
        show own_Ends p e below F (T12.setTop (mkF m 91 #[.val (.long p1), .second, .val (.int p2), .val (.long p3), .second, .val (.long z2), .second, .val (.int z6), .val (.long v9), .second, .val (.ref a10), .val (.long (own_due v9 z2)), .second, .val (.long (0 : Int64)), .second] []))
        refine own_step (fun _ k => XS.iconst X12.here hx rfl (hb hby at_91) k) ?_
        show own_Ends p e below F (T12.setTop (mkF m 92 #[.val (.long p1), .second, .val (.int p2), .val (.long p3), .second, .val (.long z2), .second, .val (.int z6), .val (.long v9), .second, .val (.ref a10), .val (.long (own_due v9 z2)), .second, .val (.long (0 : Int64)), .second] [(.int (1 : Int32))]))
        refine own_step (fun _ k => XS.goto X12.here hx rfl (pc0 := 92) (pc' := 96) rfl (hb hby at_92) (by decide) (by decide) k) ?_
        show own_Ends p e below F (T12.setTop (mkF m 96 #[.val (.long p1), .second, .val (.int p2), .val (.long p3), .second, .val (.long z2), .second, .val (.int z6), .val (.long v9), .second, .val (.ref a10), .val (.long (own_due v9 z2)), .second, .val (.long (0 : Int64)), .second] [(.int (1 : Int32))]))
        rw [hF]
        exact own_retW X12 hS (by exact hk) (v := (some (.int (nar .boolean (1 : Int32))))) (fun h => by rw [Bd.returns] at h; cases h) Bd.notSynchronized (fun fs hr => retN X12 hx (t := .boolean) Bd.returns (by simp) (hb hby at_96) hr) (by decide) (by decide) (by exact ⟨rfl, N12⟩)
      · refine own_step (fun _ k => XS.ifYes X12.here hx rfl (pc0 := 65) (pc' := 72) rfl (hb hby at_65) rfl ((if0 _ _).trans (feq (fun q => c65_13 ((lw_eq _ _).mp q))).2) (by decide) (by decide) k) ?_
        show own_Ends p e below F (T12.setTop (mkF m 72 #[.val (.long p1), .second, .val (.int p2), .val (.long p3), .second, .val (.long z2), .second, .val (.int z6), .val (.long v9), .second, .val (.ref a10), .val (.long (own_due v9 z2)), .second, .unset, .unset] []))
        refine own_step (fun _ k => XS.lload X12.here hx rfl (hb hby at_72) rfl k) ?_
        show own_Ends p e below F (T12.setTop (mkF m 74 #[.val (.long p1), .second, .val (.int p2), .val (.long p3), .second, .val (.long z2), .second, .val (.int z6), .val (.long v9), .second, .val (.ref a10), .val (.long (own_due v9 z2)), .second, .unset, .unset] [(.long v9)]))
        refine own_step (fun _ k => XS.lconst X12.here hx rfl (hb hby at_74) k) ?_
        show own_Ends p e below F (T12.setTop (mkF m 75 #[.val (.long p1), .second, .val (.int p2), .val (.long p3), .second, .val (.long z2), .second, .val (.int z6), .val (.long v9), .second, .val (.ref a10), .val (.long (own_due v9 z2)), .second, .unset, .unset] [(.long (1 : Int64)), (.long v9)]))
        refine own_step (fun _ k => XS.lsub X12.here hx rfl (hb hby at_75) rfl k) ?_
        show own_Ends p e below F (T12.setTop (mkF m 76 #[.val (.long p1), .second, .val (.int p2), .val (.long p3), .second, .val (.long z2), .second, .val (.int z6), .val (.long v9), .second, .val (.ref a10), .val (.long (own_due v9 z2)), .second, .unset, .unset] [(.long (v9 - (1 : Int64)))]))
        refine own_step (fun _ k => XS.lload X12.here hx rfl (hb hby at_76) rfl k) ?_
        show own_Ends p e below F (T12.setTop (mkF m 78 #[.val (.long p1), .second, .val (.int p2), .val (.long p3), .second, .val (.long z2), .second, .val (.int z6), .val (.long v9), .second, .val (.ref a10), .val (.long (own_due v9 z2)), .second, .unset, .unset] [(.long z2), (.long (v9 - (1 : Int64)))]))
        refine own_step (fun _ k => XS.ldiv X12.here hx rfl (hb hby at_78) rfl hnz k) ?_
        show own_Ends p e below F (T12.setTop (mkF m 79 #[.val (.long p1), .second, .val (.int p2), .val (.long p3), .second, .val (.long z2), .second, .val (.int z6), .val (.long v9), .second, .val (.ref a10), .val (.long (own_due v9 z2)), .second, .unset, .unset] [(.long ((v9 - (1 : Int64)) / z2))]))
        refine own_step (fun _ k => XS.lconst X12.here hx rfl (hb hby at_79) k) ?_
        show own_Ends p e below F (T12.setTop (mkF m 80 #[.val (.long p1), .second, .val (.int p2), .val (.long p3), .second, .val (.long z2), .second, .val (.int z6), .val (.long v9), .second, .val (.ref a10), .val (.long (own_due v9 z2)), .second, .unset, .unset] [(.long (1 : Int64)), (.long ((v9 - (1 : Int64)) / z2))]))
        refine own_step (fun _ k => XS.ladd X12.here hx rfl (hb hby at_80) rfl k) ?_
        show own_Ends p e below F (T12.setTop (mkF m 81 #[.val (.long p1), .second, .val (.int p2), .val (.long p3), .second, .val (.long z2), .second, .val (.int z6), .val (.long v9), .second, .val (.ref a10), .val (.long (own_due v9 z2)), .second, .unset, .unset] [(.long (((v9 - (1 : Int64)) / z2) + (1 : Int64)))]))
        refine own_step (fun _ k => XS.lstore X12.here hx rfl (hb hby at_81) rfl (l' := #[.val (.long p1), .second, .val (.int p2), .val (.long p3), .second, .val (.long z2), .second, .val (.int z6), .val (.long v9), .second, .val (.ref a10), .val (.long (own_due v9 z2)), .second, .val (.long (((v9 - (1 : Int64)) / z2) + (1 : Int64))), .second]) rfl k) ?_
        show own_Ends p e below F (T12.setTop (mkF m 83 #[.val (.long p1), .second, .val (.int p2), .val (.long p3), .second, .val (.long z2), .second, .val (.int z6), .val (.long v9), .second, .val (.ref a10), .val (.long (own_due v9 z2)), .second, .val (.long (((v9 - (1 : Int64)) / z2) + (1 : Int64))), .second] []))
        refine own_step (fun _ k => XS.lload X12.here hx rfl (hb hby at_83) rfl k) ?_
        show own_Ends p e below F (T12.setTop (mkF m 85 #[.val (.long p1), .second, .val (.int p2), .val (.long p3), .second, .val (.long z2), .second, .val (.int z6), .val (.long v9), .second, .val (.ref a10), .val (.long (own_due v9 z2)), .second, .val (.long (((v9 - (1 : Int64)) / z2) + (1 : Int64))), .second] [(.long (own_due v9 z2))]))
        refine own_step (fun _ k => XS.lload X12.here hx rfl (hb hby at_85) rfl k) ?_
        show own_Ends p e below F (T12.setTop (mkF m 87 #[.val (.long p1), .second, .val (.int p2), .val (.long p3), .second, .val (.long z2), .second, .val (.int z6), .val (.long v9), .second, .val (.ref a10), .val (.long (own_due v9 z2)), .second, .val (.long (((v9 - (1 : Int64)) / z2) + (1 : Int64))), .second] [(.long (((v9 - (1 : Int64)) / z2) + (1 : Int64))), (.long (own_due v9 z2))]))
        refine own_step (fun _ k => XS.lcmp X12.here hx rfl (hb hby at_87) rfl k) ?_
        show own_Ends p e below F (T12.setTop (mkF m 88 #[.val (.long p1), .second, .val (.int p2), .val (.long p3), .second, .val (.long z2), .second, .val (.int z6), .val (.long v9), .second, .val (.ref a10), .val (.long (own_due v9 z2)), .second, .val (.long (((v9 - (1 : Int64)) / z2) + (1 : Int64))), .second] [(.int (lcmpW (own_due v9 z2) (((v9 - (1 : Int64)) / z2) + (1 : Int64))))]))
        refine own_step (fun _ k => XS.ifNo X12.here hx rfl (hb hby at_88) rfl ((if0 _ _).trans (teq ((lw_eq _ _).mpr (own_due1 _ _ c65_13 hd0 hk1 : (own_due v9 z2) = (((v9 - (1 : Int64)) / z2) + (1 : Int64))))).2) k) ?_
        show own_Ends p e below F (T12.setTop (mkF m 91 #[.val (.long p1), .second, .val (.int p2), .val (.long p3), .second, .val (.long z2), .second, .val (.int z6), .val (.long v9), .second, .val (.ref a10), .val (.long (own_due v9 z2)), .second, .val (.long (((v9 - (1 : Int64)) / z2) + (1 : Int64))), .second] []))
        refine own_step (fun _ k => XS.iconst X12.here hx rfl (hb hby at_91) k) ?_
        show own_Ends p e below F (T12.setTop (mkF m 92 #[.val (.long p1), .second, .val (.int p2), .val (.long p3), .second, .val (.long z2), .second, .val (.int z6), .val (.long v9), .second, .val (.ref a10), .val (.long (own_due v9 z2)), .second, .val (.long (((v9 - (1 : Int64)) / z2) + (1 : Int64))), .second] [(.int (1 : Int32))]))
        refine own_step (fun _ k => XS.goto X12.here hx rfl (pc0 := 92) (pc' := 96) rfl (hb hby at_92) (by decide) (by decide) k) ?_
        show own_Ends p e below F (T12.setTop (mkF m 96 #[.val (.long p1), .second, .val (.int p2), .val (.long p3), .second, .val (.long z2), .second, .val (.int z6), .val (.long v9), .second, .val (.ref a10), .val (.long (own_due v9 z2)), .second, .val (.long (((v9 - (1 : Int64)) / z2) + (1 : Int64))), .second] [(.int (1 : Int32))]))
        rw [hF]
        exact own_retW X12 hS (by exact hk) (v := (some (.int (nar .boolean (1 : Int32))))) (fun h => by rw [Bd.returns] at h; cases h) Bd.notSynchronized (fun fs hr => retN X12 hx (t := .boolean) Bd.returns (by simp) (hb hby at_96) hr) (by decide) (by decide) (by exact ⟨rfl, N12⟩)
    by_cases c26_14 : v5 < (1 : Int32)
    · refine own_step (fun _ k => XS.icmpNo X0.here hx rfl (hb hby at_26) rfl (tlt c26_14).2.1 k) ?_
      show own_Ends p e below F (s₁.setTop (mkF m 29 #[.val (.long p1), .second, .val (.int p2), .val (.long p3), .second, .val (.long z2), .second, .val (.int v5), .unset, .unset, .unset, .unset, .unset, .unset, .unset] []))
      refine own_step (fun _ k => XS.iconst X0.here hx rfl (hb hby at_29) k) ?_
      show own_Ends p e below F (s₁.setTop (mkF m 30 #[.val (.long p1), .second, .val (.int p2), .val (.long p3), .second, .val (.long z2), .second, .val (.int v5), .unset, .unset, .unset, .unset, .unset, .unset, .unset] [(.int (1 : Int32))]))
      refine own_step (fun _ k => XS.istore X0.here hx rfl (hb hby at_30) rfl (l' := #[.val (.long p1), .second, .val (.int p2), .val (.long p3), .second, .val (.long z2), .second, .val (.int (1 : Int32)), .unset, .unset, .unset, .unset, .unset, .unset, .unset]) rfl k) ?_
      show own_Ends p e below F (s₁.setTop (mkF m 32 #[.val (.long p1), .second, .val (.int p2), .val (.long p3), .second, .val (.long z2), .second, .val (.int (1 : Int32)), .unset, .unset, .unset, .unset, .unset, .unset, .unset] []))
      exact J26_7 _ (by simp only [if_true, if_false, c26_14])
    · refine own_step (fun _ k => XS.icmpYes X0.here hx rfl (pc0 := 26) (pc' := 32) rfl (hb hby at_26) rfl (flt c26_14).2.1 (by decide) (by decide) k) ?_
      show own_Ends p e below F (s₁.setTop (mkF m 32 #[.val (.long p1), .second, .val (.int p2), .val (.long p3), .second, .val (.long z2), .second, .val (.int v5), .unset, .unset, .unset, .unset, .unset, .unset, .unset] []))
      exact J26_7 _ (by simp only [if_true, if_false, c26_14])
  by_cases c11_15 : v1 < (1 : Int64)
  · refine own_step (fun _ k => XS.ifNo X0.here hx rfl (hb hby at_11) rfl ((if0 _ _).trans (tlt ((lw_lt _ _).mpr c11_15)).2.1) k) ?_
    show own_Ends p e below F (s₁.setTop (mkF m 14 #[.val (.long p1), .second, .val (.int p2), .val (.long p3), .second, .val (.long v1), .second, .unset, .unset, .unset, .unset, .unset, .unset, .unset, .unset] []))
    refine own_step (fun _ k => XS.lconst X0.here hx rfl (hb hby at_14) k) ?_
    show own_Ends p e below F (s₁.setTop (mkF m 15 #[.val (.long p1), .second, .val (.int p2), .val (.long p3), .second, .val (.long v1), .second, .unset, .unset, .unset, .unset, .unset, .unset, .unset, .unset] [(.long (1 : Int64))]))
    refine own_step (fun _ k => XS.lstore X0.here hx rfl (hb hby at_15) rfl (l' := #[.val (.long p1), .second, .val (.int p2), .val (.long p3), .second, .val (.long (1 : Int64)), .second, .unset, .unset, .unset, .unset, .unset, .unset, .unset, .unset]) rfl k) ?_
    show own_Ends p e below F (s₁.setTop (mkF m 17 #[.val (.long p1), .second, .val (.int p2), .val (.long p3), .second, .val (.long (1 : Int64)), .second, .unset, .unset, .unset, .unset, .unset, .unset, .unset, .unset] []))
    exact J11_3 _ (by simp only [if_true, if_false, c11_15])
  · refine own_step (fun _ k => XS.ifYes X0.here hx rfl (pc0 := 11) (pc' := 17) rfl (hb hby at_11) rfl ((if0 _ _).trans (flt (fun q => c11_15 ((lw_lt _ _).mp q))).2.1) (by decide) (by decide) k) ?_
    show own_Ends p e below F (s₁.setTop (mkF m 17 #[.val (.long p1), .second, .val (.int p2), .val (.long p3), .second, .val (.long v1), .second, .unset, .unset, .unset, .unset, .unset, .unset, .unset, .unset] []))
    exact J11_3 _ (by simp only [if_true, if_false, c11_15])

set_option maxRecDepth 65536 in
set_option maxHeartbeats 40000000 in
theorem comes_1 {Post : Tables → Env → Array Value → State → Outcome → State → Prop} (hpost : ∀ tb e args s v u, (limb_1_1.after args s (.returned v) u = true ∧ limb_1_2.after args s (.returned v) u = true ∧ True) → ReturnedEndW s (.returned v) u (Jvm.fieldLocs frame_1_writes args s ++ Jvm.arrayLocs frame_1_arrays args s ++ Jvm.staticLocs frame_1_statics s) 16 1152 → Post tb e args s (.returned v) u) :
    ArmFor flags0 classFile x code maxLocals ret World_1 tables_1 room_1 Calls_1 rest_1 Pre_1 Post := by
  intro l hfl _ _ p e ha hc hk s m args below hf hA hF happ hP
  obtain ⟨hcalls, hrest, hpre⟩ := hP
  obtain ⟨-, -, -, hnamed, -, -, -, hat⟩ := (Spec.applies_iff hf).mp happ
  obtain ⟨hg, hn⟩ := and_e (Cond.before_iff.mp (show (Jvm.Cond.and given_1 narrow_1).before args s = true from hpre))
  obtain ⟨g0, r0⟩ := and_e hg
  obtain ⟨g1, r1⟩ := and_e r0
  obtain ⟨g2, r2⟩ := and_e r1
  have g3 := r2
  obtain ⟨w0, w1, w2, rfl⟩ : ∃ w0 w1 w2 : Value, args = #[w0, w1, w2] := by
    have hs : args.size = 3 := by simpa [Cond.value, given_1] using g0
    obtain ⟨L⟩ := args
    match L, hs with
    | [w0, w1, w2], _ => exact ⟨w0, w1, w2, rfl⟩
  have hw := fun d (hd : d ∈ tables_1) => atoms_spec (ws := Jvm.Cond.code x code maxLocals ret :: tables_1) hat d (List.mem_cons_of_mem _ hd)
  have hfit : Fit s := fun {y c} hc i hi => by
    obtain ⟨ha, rfl⟩ := Array.getElem?_eq_some_iff.mp hc
    have q := List.all_eq_true.mp ((Array.all_eq_true_iff_forall_mem.mp hF) _ (Array.getElem_mem ha)) i (List.mem_range.mpr hi)
    simpa [Array.getElem?_eq_getElem hi] using q
  obtain ⟨i0, ei0⟩ := isL_v g1
  obtain rfl : w0 = (.long i0) := Option.some.inj ei0
  obtain ⟨i1, ei1⟩ := is_v g2
  obtain rfl : w1 = (.int i1) := Option.some.inj ei1
  obtain ⟨i2, ei2⟩ := isL_v g3
  obtain rfl : w2 = (.long i2) := Option.some.inj ei2
  obtain ⟨n, o, h1, h2, h3, _, L, rfl, ⟨rfl, N⟩, hq⟩ := rm0 l s _ hw tables_1 i0 i1 i2  s.heap s.heap.size (Nat.le_refl _)  p e ha hc hk s m _ below hf ((Spec.applies_iff_loose hf).mp happ).1 ⟨rfl, State.Warmed39.refl s, rfl⟩ trivial
  refine ⟨n, _, h1, h2, h3, hpost _ _ _ _ _ _ ⟨Cond.after_iff.mpr rfl, Cond.after_iff.mpr (eq_i res_at (Term.int_eval (1)) rfl), trivial⟩ ⟨hq.1, hq.2.1, hq.2.2.1, (hq.2.2.2.sift fun y hy => Or.inr (N y hy)).mono (by decide) (by decide)⟩⟩
theorem main_1_1 : Claimed_1_1 := comes_1 fun _ _ _ _ _ _ h hF => ⟨h.1, hF⟩
theorem main_1_2 : Claimed_1_2 := comes_1 fun _ _ _ _ _ _ h hF => ⟨h.2.1, hF⟩

end Jvm.Pilot.@@N@@
namespace Jvm.Pilot.@@N@@
open Jvm Jvm.ClassFile Sem Op Lib Jvm.Free Jvm.Stand Jvm.Pilot.@@N@@.Jvm.D
/-! MADE BY PROGRAM (witnessworld.py) out of the Statement's table words and the real class files: 14 classes; the members and pool entries that the words name. The judged class is class 1, her method 1. -/
namespace start1
open Jvm.ClassFile
def u (s : String) : CpInfo := .utf8 (stringToUtf16 s)
/-- a pool by its gaps: so many unusable entries, then the entry; so many at the end -/
def gap : Nat → List CpInfo → List CpInfo
  | 0, r => r
  | n + 1, r => .unusable :: gap n r
def poolList (es : List (Nat × CpInfo)) (last : Nat) : List CpInfo := es.foldr (fun e r => gap e.1 (e.2 :: r)) (gap last [])
def pool (es : List (Nat × CpInfo)) (last : Nat) : Array CpInfo := ⟨poolList es last⟩
def fileOf (pool : Array CpInfo) (this : Nat) (attrs : Array Attribute := #[]) (ms : Array MethodInfo := #[]) (fl : Nat := 33) (sup : Nat := 0) (ifs : Array Nat := #[]) (fds : Array FieldInfo := #[]) : ClassFile where
  minorVersion := 0
  majorVersion := 65
  constantPool := pool
  accessFlags := fl
  thisClass := this
  superClass := sup
  interfaces := ifs
  fields := fds
  methods := ms
  attributes := attrs
def plain (name : String) (sup : Option ClassId) : Class where
  name := name
  kind := .ordinary
  loader := none
  accessFlags := 33
  super := sup
  interfaces := #[]
  cf := none
  fields := #[]
  methods := #[]
  instanceTypes := #[]
  staticTypes := #[]
  resolved := #[]
  callSites := []
  init := .initialized
  statics := none
  mirror := none

def pool0 : Array CpInfo := pool [(5, u "<init>"), (0, u "()V"), (1, .class_ 10), (1, u "java/lang/Object")] 113

def k0c0 : Code := { maxStack := 0, maxLocals := 1, code := object_method_1_code, exceptionTable := #[], attributes := #[] }
def k0m0 : Method := { name := "<init>", desc := "()V", sig := { parameters := [], returnType := none }, accessFlags := 1, code := some k0c0 }
/-- java/lang/Object -/
def k0 : Class := { plain "java/lang/Object" none with
  accessFlags := 33
  interfaces := #[]
  cf := some (fileOf pool0 8 #[] #[{ accessFlags := 1, nameIndex := 5, descriptorIndex := 6, attributes := #[] }] 33 0 #[] #[])
  fields := #[]
  methods := #[k0m0]
  instanceTypes := #[]
  staticTypes := #[]
  resolved := Array.replicate 124 none
  statics := none }

def pool1 : Array CpInfo := pool [(2, .class_ 4), (1, u "java/lang/Object"), (0, u "<init>"), (0, u "()V"), (2, .long 9223372036854775807), (1, .integer 2147483647), (0, .class_ 13), (0, u "com/example/clock3600/clock3600/Ring"), (0, .methodref 12 15), (0, .nameAndType 5 16), (0, u "(JI)V"), (0, .methodref 12 18), (0, .nameAndType 19 20), (0, u "dueTick"), (0, u "(J)J"), (0, .class_ 22), (0, u "com/example/clock3600/clock3600/RingDueTickPinLaw"), (2, u "law"), (0, u "(JIJ)Z")] 3

def k1m0 : Method := { name := "<init>", desc := "()V", sig := { parameters := [], returnType := none }, accessFlags := 1, code := none }
def k1c1 : Code := { maxStack := 5, maxLocals := 15, code := code, exceptionTable := #[], attributes := #[] }
def k1m1 : Method := { name := "law", desc := "(JIJ)Z", sig := { parameters := [.long, .int, .long], returnType := some .boolean }, accessFlags := 9, code := some k1c1 }
/-- com/example/clock3600/clock3600/RingDueTickPinLaw -/
def k1 : Class := { plain "com/example/clock3600/clock3600/RingDueTickPinLaw" (some 0) with
  accessFlags := 49
  interfaces := #[]
  cf := some (fileOf pool1 21 #[] #[{ accessFlags := 1, nameIndex := 5, descriptorIndex := 6, attributes := #[] }, { accessFlags := 9, nameIndex := 25, descriptorIndex := 26, attributes := #[] }] 49 2 #[] #[])
  fields := #[]
  methods := #[k1m0, k1m1]
  instanceTypes := #[]
  staticTypes := #[]
  resolved := Array.replicate 30 none
  statics := none }

def pool2 : Array CpInfo := pool [(1, .methodref 2 3), (0, .class_ 4), (0, .nameAndType 5 6), (0, u "java/lang/Object"), (0, u "<init>"), (0, u "()V"), (12, .fieldref 20 21), (0, .class_ 22), (0, .nameAndType 23 24), (0, u "com/example/clock3600/clock3600/Ring"), (0, u "tickMillis"), (0, u "J"), (0, .fieldref 20 26), (0, .nameAndType 27 28), (0, u "slots"), (0, u "I"), (2, .methodref 20 32), (0, .nameAndType 33 34), (0, u "requireNotNegative"), (0, u "(JLjava/lang/String;)V"), (0, .string 36), (0, u "Due time"), (5, u "(JI)V"), (6, u "(J)J"), (0, u "dueTick")] 23

def k2c0 : Code := { maxStack := 4, maxLocals := 4, code := prog_2_method_1_code, exceptionTable := #[], attributes := #[] }
def k2m0 : Method := { name := "<init>", desc := "(JI)V", sig := { parameters := [.long, .int], returnType := none }, accessFlags := 1, code := some k2c0 }
def k2c1 : Code := { maxStack := 4, maxLocals := 5, code := prog_2_method_5_code, exceptionTable := #[], attributes := #[] }
def k2m1 : Method := { name := "dueTick", desc := "(J)J", sig := { parameters := [.long], returnType := some .long }, accessFlags := 1, code := some k2c1 }
def k2c2 : Code := { maxStack := 5, maxLocals := 3, code := prog_2_method_7_code, exceptionTable := #[], attributes := #[] }
def k2m2 : Method := { name := "requireNotNegative", desc := "(JLjava/lang/String;)V", sig := { parameters := [.long, (.object "java/lang/String")], returnType := none }, accessFlags := 10, code := some k2c2 }
/-- com/example/clock3600/clock3600/Ring -/
def k2 : Class := { plain "com/example/clock3600/clock3600/Ring" (some 0) with
  accessFlags := 33
  interfaces := #[]
  cf := some (fileOf pool2 20 #[] #[{ accessFlags := 1, nameIndex := 5, descriptorIndex := 42, attributes := #[] }, { accessFlags := 1, nameIndex := 50, descriptorIndex := 49, attributes := #[] }, { accessFlags := 10, nameIndex := 33, descriptorIndex := 34, attributes := #[] }] 33 2 #[] #[{ accessFlags := 18, nameIndex := 23, descriptorIndex := 24, attributes := #[] }, { accessFlags := 18, nameIndex := 27, descriptorIndex := 28, attributes := #[] }])
  fields := #[{ name := "tickMillis", type := .long, accessFlags := 18, slot := 0, constantValue := 0 }, { name := "slots", type := .int, accessFlags := 18, slot := 1, constantValue := 0 }]
  methods := #[k2m0, k2m1, k2m2]
  instanceTypes := #[.long, .int]
  staticTypes := #[]
  resolved := Array.replicate 74 none
  statics := none }

def pool3 : Array CpInfo := pool [(1, .class_ 2), (0, u "java/io/Serializable"), (0, .class_ 4), (0, u "java/lang/Object")] 2

/-- java/io/Serializable -/
def k3 : Class := { plain "java/io/Serializable" (some 0) with
  accessFlags := 1537
  interfaces := #[]
  cf := some (fileOf pool3 1 #[] #[] 1537 3 #[] #[])
  fields := #[]
  methods := #[]
  instanceTypes := #[]
  staticTypes := #[]
  resolved := Array.replicate 7 none
  statics := none }

def pool4 : Array CpInfo := pool [(1, .class_ 2), (0, u "java/lang/Comparable"), (0, .class_ 4), (0, u "java/lang/Object")] 7

/-- java/lang/Comparable -/
def k4 : Class := { plain "java/lang/Comparable" (some 0) with
  accessFlags := 1537
  interfaces := #[]
  cf := some (fileOf pool4 1 #[] #[] 1537 3 #[] #[])
  fields := #[]
  methods := #[]
  instanceTypes := #[]
  staticTypes := #[]
  resolved := Array.replicate 12 none
  statics := none }

def pool5 : Array CpInfo := pool [(2, .class_ 4), (1, u "java/lang/CharSequence"), (42, .class_ 48), (0, u "java/lang/CharSequence$1CodePointIterator"), (10, .class_ 60), (0, u "java/lang/CharSequence$1CharIterator"), (5, .class_ 67), (0, u "java/lang/Object")] 63

/-- java/lang/CharSequence -/
def k5 : Class := { plain "java/lang/CharSequence" (some 0) with
  accessFlags := 1537
  interfaces := #[]
  cf := some (fileOf pool5 2 #[.nestMembers #[47, 59]] #[] 1537 66 #[] #[])
  fields := #[]
  methods := #[]
  instanceTypes := #[]
  staticTypes := #[]
  resolved := Array.replicate 131 none
  statics := none }

def pool6 : Array CpInfo := pool [(1, .class_ 2), (0, u "java/lang/constant/Constable"), (0, .class_ 4), (0, u "java/lang/Object")] 6

/-- java/lang/constant/Constable -/
def k6 : Class := { plain "java/lang/constant/Constable" (some 0) with
  accessFlags := 1537
  interfaces := #[]
  cf := some (fileOf pool6 1 #[] #[] 1537 3 #[] #[])
  fields := #[]
  methods := #[]
  instanceTypes := #[]
  staticTypes := #[]
  resolved := Array.replicate 11 none
  statics := none }

def pool7 : Array CpInfo := pool [(1, .class_ 2), (0, u "java/lang/constant/ConstantDesc"), (0, .class_ 4), (0, u "java/lang/Object")] 32

/-- java/lang/constant/ConstantDesc -/
def k7 : Class := { plain "java/lang/constant/ConstantDesc" (some 0) with
  accessFlags := 1537
  interfaces := #[]
  cf := some (fileOf pool7 1 #[] #[] 1537 3 #[] #[])
  fields := #[]
  methods := #[]
  instanceTypes := #[]
  staticTypes := #[]
  resolved := Array.replicate 37 none
  statics := none }

def pool8 : Array CpInfo := pool [(2, .class_ 4), (1, u "java/lang/Object"), (0, u "<init>"), (0, u "()V"), (3, .class_ 12), (1, u "java/lang/String"), (0, u "value"), (0, u "[B"), (2, u "coder"), (0, u "B"), (2, u "hash"), (0, u "I"), (2, u "hashIsZero"), (0, u "Z"), (13, u "COMPACT_STRINGS"), (534, .class_ 576), (0, u "java/lang/CharSequence"), (22, u "CASE_INSENSITIVE_ORDER"), (0, u "Ljava/util/Comparator;"), (500, u "serialPersistentFields"), (0, u "[Ljava/io/ObjectStreamField;"), (0, .class_ 1104), (0, u "java/lang/String$CaseInsensitiveComparator"), (1, .class_ 1107), (0, u "java/io/Serializable"), (0, .class_ 1109), (0, u "java/lang/Comparable"), (0, .class_ 1111), (0, u "java/lang/constant/Constable"), (0, .class_ 1113), (0, u "java/lang/constant/ConstantDesc"), (2, u "serialVersionUID"), (0, u "J"), (3, u "REPL"), (0, u "C"), (2, u "LATIN1"), (1, u "UTF16")] 323

def k8m0 : Method := { name := "<init>", desc := "()V", sig := { parameters := [], returnType := none }, accessFlags := 1, code := none }
/-- java/lang/String -/
def k8 : Class := { plain "java/lang/String" (some 0) with
  accessFlags := 49
  interfaces := #[3, 4, 5, 6, 7]
  cf := some (fileOf pool8 10 #[.nestMembers #[1103]] #[{ accessFlags := 1, nameIndex := 5, descriptorIndex := 6, attributes := #[] }] 49 2 #[1106, 1108, 575, 1110, 1112] #[{ accessFlags := 18, nameIndex := 13, descriptorIndex := 14, attributes := #[] }, { accessFlags := 18, nameIndex := 17, descriptorIndex := 18, attributes := #[] }, { accessFlags := 2, nameIndex := 21, descriptorIndex := 22, attributes := #[] }, { accessFlags := 2, nameIndex := 25, descriptorIndex := 26, attributes := #[] }, { accessFlags := 26, nameIndex := 1116, descriptorIndex := 1117, attributes := #[] }, { accessFlags := 24, nameIndex := 40, descriptorIndex := 26, attributes := #[] }, { accessFlags := 26, nameIndex := 1101, descriptorIndex := 1102, attributes := #[] }, { accessFlags := 26, nameIndex := 1121, descriptorIndex := 1122, attributes := #[] }, { accessFlags := 25, nameIndex := 599, descriptorIndex := 600, attributes := #[] }, { accessFlags := 24, nameIndex := 1125, descriptorIndex := 18, attributes := #[] }, { accessFlags := 24, nameIndex := 1127, descriptorIndex := 18, attributes := #[] }])
  fields := #[{ name := "value", type := (.array .byte), accessFlags := 18, slot := 0, constantValue := 0 }, { name := "coder", type := .byte, accessFlags := 18, slot := 1, constantValue := 0 }, { name := "hash", type := .int, accessFlags := 2, slot := 2, constantValue := 0 }, { name := "hashIsZero", type := .boolean, accessFlags := 2, slot := 3, constantValue := 0 }, { name := "serialVersionUID", type := .long, accessFlags := 26, slot := 0, constantValue := 0 }, { name := "COMPACT_STRINGS", type := .boolean, accessFlags := 24, slot := 1, constantValue := 0 }, { name := "serialPersistentFields", type := (.array (.object "java/io/ObjectStreamField")), accessFlags := 26, slot := 2, constantValue := 0 }, { name := "REPL", type := .char, accessFlags := 26, slot := 3, constantValue := 0 }, { name := "CASE_INSENSITIVE_ORDER", type := (.object "java/util/Comparator"), accessFlags := 25, slot := 4, constantValue := 0 }, { name := "LATIN1", type := .byte, accessFlags := 24, slot := 5, constantValue := 0 }, { name := "UTF16", type := .byte, accessFlags := 24, slot := 6, constantValue := 0 }]
  methods := #[k8m0]
  instanceTypes := #[(.array .byte), .byte, .int, .boolean]
  staticTypes := #[.long, .boolean, (.array (.object "java/io/ObjectStreamField")), .char, (.object "java/util/Comparator"), .byte, .byte]
  resolved := Array.replicate 1451 none
  statics := none }

def pool9 : Array CpInfo := pool [(1, u "java/lang/Cloneable"), (0, .class_ 1), (0, u "java/lang/Object"), (0, .class_ 3)] 3

/-- java/lang/Cloneable -/
def k9 : Class := { plain "java/lang/Cloneable" (some 0) with
  accessFlags := 1537
  interfaces := #[]
  cf := some (fileOf pool9 2 #[] #[] 1537 4 #[] #[])
  fields := #[]
  methods := #[]
  instanceTypes := #[]
  staticTypes := #[]
  resolved := Array.replicate 8 none
  statics := none }

/-- the primitive byte -/
def k10 : Class := { plain "byte" none with kind := .primitive 'B', accessFlags := 0x411 }
/-- [B -/
def k11 : Class := { plain "[B" (some 0) with kind := .array 10 .byte, interfaces := #[9, 3], accessFlags := 1041 }

/-- the primitive int -/
def k12 : Class := { plain "int" none with kind := .primitive 'I', accessFlags := 0x411 }
/-- [I -/
def k13 : Class := { plain "[I" (some 0) with kind := .array 12 .int, interfaces := #[9, 3], accessFlags := 1041 }

def heap : Heap := #[]
def classes : Array Class := #[k0, k1, k2, k3, k4, k5, k6, k7, k8, k9, k10, k11, k12, k13]
def interned : List (Array UInt16 × Addr) := []
def slotsUsed : Nat := 0
def theMethod : MethodId := ⟨1, 1⟩
def args0 : Array Value := #[.long 5, .int 6, .long 7]
def aboutOver (below : List Frame) : State where
  vm := { classes := classes, interned := interned.toArray }
  heap := heap
  slotsUsed := slotsUsed
  threads := #[{ frames := .invoking theMethod args0 :: below }]
def below0 : List Frame := [.native { method := ⟨0, 0⟩, args := #[] }]
def about1 : State := aboutOver below0
def p0 : Program := .bare "" "" ""
def e0 : Env := launch0.env 0 0 0
theorem w_frames : about1.frames = Frame.invoking theMethod args0 :: below0 := rfl
set_option maxRecDepth 65536 in
theorem w_args : argsFit about1.vm theMethod args0 = true := by decide +kernel
set_option maxRecDepth 65536 in
theorem w_heap : heapFits about1 = true := by decide +kernel
set_option maxRecDepth 65536 in
theorem w_runnable : about1.curStatus? = some .runnable := by decide +kernel
set_option maxRecDepth 65536 in
theorem w_alone : about1.alone = true := by decide +kernel
set_option maxRecDepth 65536 in
theorem w_named : about1.methodNamed? x = some theMethod := by decide +kernel
set_option maxRecDepth 65536 in
theorem w_hears : about1.hears theMethod below0 = true := by decide +kernel
set_option maxRecDepth 65536 in
theorem w_ripe : about1.ripe theMethod args0 below0 = true := by decide +kernel
theorem w_running : about1.status = .running := rfl
set_option maxRecDepth 65536 in
theorem w_room : about1.hasRoom e0.platform room_1 = true :=
  launch0.hasRoom_least _ room_1 (by decide +kernel) (by decide +kernel) (by decide +kernel) (by decide +kernel) (by decide +kernel) (by decide +kernel)
theorem allAtoms_all (ts : List Jvm.Cond) (a : Array Jvm.Value) (st : Jvm.State) : (allAtoms ts).before a st = ts.all (fun c => c.before a st) := by
  induction ts with
  | nil => rfl
  | cons c t ih =>
    show (Jvm.Cond.and c (allAtoms t)).before a st = _
    rw [Jvm.Cond.before_and, ih, List.all_cons]
def words1 : List Jvm.Cond := Jvm.Cond.code x code maxLocals ret :: tables_1
/-- a 'code' word, met by the world's own term for the bytes: nothing is compared byte by byte -/
theorem code_word {y : MethodName} {bytes : ByteArray} {mx : Nat} {rt : Option FieldType} {a : Array Value} {s : State} {m : MethodId} {meth : Method} {c : Code} (h1 : s.methodNamed? y = some m) (h2 : s.vm.method? m = some meth) (h3 : meth.code = some c) (h4 : c.code = bytes)
    (h5 : (c.maxLocals == mx && c.exceptionTable.isEmpty && decide (c.maxStack ≤ mostOperands) && decide (meth.sig.returnType = rt) && !meth.locks && decide (parseMethodDescriptor y.desc = some meth.sig)) = true) : (Jvm.Cond.code y bytes mx rt).before a s = true := by
  simp only [Bool.and_eq_true, beq_iff_eq, Bool.not_eq_true', decide_eq_true_eq] at h5
  obtain ⟨⟨⟨⟨⟨g1, g2⟩, g3⟩, g4⟩, g5⟩, g6⟩ := h5
  simp [Cond.before, Cond.holds, Cond.value, h1, h2, h3, h4, g1, g2, g3, g4, g5, g6]
def isCode : Jvm.Cond → Bool
  | .code _ _ _ _ => true
  | _ => false
theorem all_split {L : List Jvm.Cond} {P : Jvm.Cond → Bool} (h1 : L.all (fun c => isCode c || P c) = true) (h2 : ∀ c ∈ L.filter isCode, P c = true) : L.all P = true := by
  refine List.all_eq_true.mpr fun c hc => ?_
  have h := List.all_eq_true.mp h1 c hc
  rcases Bool.eq_false_or_eq_true (isCode c) with hi | hi
  · exact h2 c (List.mem_filter.mpr ⟨hc, hi⟩)
  · simpa [hi] using h
set_option maxRecDepth 65536 in
theorem w_c0 : (Jvm.Cond.code x code maxLocals ret).before args0 about1 = true := code_word (m := ⟨1, 1⟩) (meth := k1m1) (c := k1c1) (by decide +kernel) rfl rfl rfl (by decide +kernel)
set_option maxRecDepth 65536 in
theorem w_c1 : (Jvm.Cond.code ({ cls := "com/example/clock3600/clock3600/Ring", name := "<init>", desc := "(JI)V" } : Jvm.MethodName) prog_2_method_1_code (4 : Nat) (Option.none : Option Jvm.ClassFile.FieldType)).before args0 about1 = true := code_word (m := ⟨2, 0⟩) (meth := k2m0) (c := k2c0) (by decide +kernel) rfl rfl rfl (by decide +kernel)
set_option maxRecDepth 65536 in
theorem w_c2 : (Jvm.Cond.code ({ cls := "java/lang/Object", name := "<init>", desc := "()V" } : Jvm.MethodName) object_method_1_code (1 : Nat) (Option.none : Option Jvm.ClassFile.FieldType)).before args0 about1 = true := code_word (m := ⟨0, 0⟩) (meth := k0m0) (c := k0c0) (by decide +kernel) rfl rfl rfl (by decide +kernel)
set_option maxRecDepth 65536 in
theorem w_c3 : (Jvm.Cond.code ({ cls := "com/example/clock3600/clock3600/Ring", name := "dueTick", desc := "(J)J" } : Jvm.MethodName) prog_2_method_5_code (5 : Nat) (Option.some Jvm.ClassFile.FieldType.long)).before args0 about1 = true := code_word (m := ⟨2, 1⟩) (meth := k2m1) (c := k2c1) (by decide +kernel) rfl rfl rfl (by decide +kernel)
set_option maxRecDepth 65536 in
theorem w_c4 : (Jvm.Cond.code ({ cls := "com/example/clock3600/clock3600/Ring", name := "requireNotNegative", desc := "(JLjava/lang/String;)V" } : Jvm.MethodName) prog_2_method_7_code (3 : Nat) (Option.none : Option Jvm.ClassFile.FieldType)).before args0 about1 = true := code_word (m := ⟨2, 2⟩) (meth := k2m2) (c := k2c2) (by decide +kernel) rfl rfl rfl (by decide +kernel)
def codes1 : List Jvm.Cond := [Jvm.Cond.code x code maxLocals ret, Jvm.Cond.code ({ cls := "com/example/clock3600/clock3600/Ring", name := "<init>", desc := "(JI)V" } : Jvm.MethodName) prog_2_method_1_code (4 : Nat) (Option.none : Option Jvm.ClassFile.FieldType), Jvm.Cond.code ({ cls := "java/lang/Object", name := "<init>", desc := "()V" } : Jvm.MethodName) object_method_1_code (1 : Nat) (Option.none : Option Jvm.ClassFile.FieldType), Jvm.Cond.code ({ cls := "com/example/clock3600/clock3600/Ring", name := "dueTick", desc := "(J)J" } : Jvm.MethodName) prog_2_method_5_code (5 : Nat) (Option.some Jvm.ClassFile.FieldType.long), Jvm.Cond.code ({ cls := "com/example/clock3600/clock3600/Ring", name := "requireNotNegative", desc := "(JLjava/lang/String;)V" } : Jvm.MethodName) prog_2_method_7_code (3 : Nat) (Option.none : Option Jvm.ClassFile.FieldType)]
set_option maxRecDepth 65536 in
theorem codes_eq : words1.filter isCode = codes1 := rfl
theorem w_codes : ∀ c ∈ words1.filter isCode, c.before args0 about1 = true := by
  rw [codes_eq]
  intro c hc
  simp only [codes1, List.mem_cons, List.not_mem_nil, or_false] at hc
  rcases hc with rfl | rfl | rfl | rfl | rfl
  · exact w_c0
  · exact w_c1
  · exact w_c2
  · exact w_c3
  · exact w_c4
set_option maxRecDepth 65536 in
theorem w_t1 : (words1.take 24).all (fun c => isCode c || c.before args0 about1) = true := by decide +kernel
set_option maxRecDepth 65536 in
theorem w_t2 : (words1.drop 24).all (fun c => isCode c || c.before args0 about1) = true := by decide +kernel
theorem w_tables : (allAtoms (Jvm.Cond.code x code maxLocals ret :: tables_1)).before args0 about1 = true := by
  rw [allAtoms_all]
  show words1.all (fun c => c.before args0 about1) = true
  refine all_split ?_ w_codes
  rw [← List.take_append_drop 24 words1, List.all_append, w_t1, w_t2]
  rfl
set_option maxRecDepth 65536 in
theorem w_case : (Jvm.Cond.and given_1 narrow_1).before args0 about1 = true := by decide +kernel
theorem w_applies : (headSpec (Jvm.Cond.code x code maxLocals ret :: tables_1) room_1).applies x e0.platform about1 = true :=
  (Spec.applies_iff w_frames).mpr ⟨w_running, w_runnable, w_alone, w_named, w_hears, w_ripe, w_room, w_tables⟩
theorem atStart : AtStart classFile x code maxLocals ret World_1 tables_1 room_1 Calls_1 rest_1 Pre_1 launch0 p0 e0 about1 theMethod args0 below0 :=
  ⟨lists_1, trivial, launch0.admits_env _ _ _, launch0.least_env, fairChoices_fair.cas, fairChoices_fair.clock, w_frames, w_args, w_heap, w_applies, trivial, trivial, w_case⟩
end start1
theorem witness_1 : WitnessClaimed_1 := ⟨start1.p0, start1.e0, start1.about1, start1.theMethod, start1.args0, start1.below0, start1.atStart⟩
end Jvm.Pilot.@@N@@
