import JvmDerived
import JvmDerived.Pilot.@@N@@Statement
import JvmDerived.Pilot.@@N@@Code
set_option linter.unusedVariables false
set_option linter.unusedSimpArgs false

namespace Jvm.RoadKit
open Sem ClassFile Op Lib Jvm.Stand Jvm.Free Jvm.LawKit
section New
variable {p : Program} {l : Launch} {e : Env} {R : Room} {s : State} {m : MethodId} {args : Array Value} {below : List Frame} {meth : Method} {c : Code} {T : State} {locs : List Loc} {cells slots : Nat}
theorem own_retI (X : Stand p l e R s m args below meth c T locs cells slots) (hx : p.tables.exec = Jvm.exec) {pc : Nat} {Ls : Array Slot} {z : Int32} {rest : List Value} (hret : meth.sig.returnType = some .int) (hd : decode c.code pc = .ok (.ireturn, 1)) {fs : List Frame}
    (hl : ∀ (f : JFrame) (acts : List Action), f.method = m → f.locked = none → f.entered = [] → (doReturn e (T.setTop f) acts (some (.int z))).1 = T.setFrames fs) : Steps p.tables e below (T.setTop (mkF m pc Ls (.int z :: rest))) (T.setFrames fs) :=
  retOut X hx (t := .int) (w := .int z) (i := .ireturn) hret rfl (Or.inl ⟨rfl, Or.inl rfl, z, rfl⟩) hd hl
end New
end Jvm.RoadKit

namespace Jvm.Pilot.@@N@@
open Jvm Jvm.ClassFile Sem Op Lib Jvm.Free Jvm.Stand Jvm.LawKit Jvm.RoadKit Bundle Jvm.Pilot.@@N@@.Jvm.D

theorem own_g {Z : State} {a0 : Array Value} (hw : ∀ d ∈ tables_1, d.before a0 Z = true) (i : Nat) {d : Jvm.Cond} (h : tables_1[i]? = some d) : d.before a0 Z = true := hw _ (List.mem_of_getElem? h)
/-- from the state T the run comes to an end that F takes -/
def own_Ends (p : Program) (e : Env) (below : List Frame) (F : Outcome → State → Prop) (T : State) : Prop :=
  ∃ s₂ o, Steps p.tables e below T s₂ ∧ s₂.status = .running ∧ Ended s₂ below o ∧ F o s₂
def own_Fin (s : State) (Q : Option Value → Heap → List Loc → Prop) (C S : Nat) (o : Outcome) (U : State) : Prop :=
  ∃ v L, o = .returned v ∧ Q v U.heap L ∧ FrameEnd s o U L C S
theorem own_Sta_keep {Z : State} {h h' : Heap} {C n d : String} {v : Value} {ws : List Addr} (F : Sta Z h C n d v) (K : Keep h h' ws) (q : ∀ x ∈ ws, ∀ c : Cell, h[x]? = some c → c.vm.isStatics = false) : Sta Z h' C n d v := by
  obtain ⟨cf, i, k, f, st, cell, h1, h2, h3, h4, h5, h6, h7⟩ := F
  exact ⟨cf, i, k, f, st, cell, h1, h2, h3, h4, K.2.1 st cell h5 (fun m => by rw [q st m cell h5] at h6; cases h6), h6, h7⟩
theorem own_ns_exa {Z : State} {h : Heap} {a : Addr} {C : String} (F : Exa Z h a C) : ∀ c : Cell, h[a]? = some c → c.vm.isStatics = false := fun c hc => by
  obtain ⟨cell, k, h1, h2, h3, h4, h5⟩ := F
  cases h1.symm.trans hc; exact h4
theorem own_ns_arv {Z : State} {h : Heap} {a : Addr} {k : ClassId} {ty : FieldType} {n : Int32} {vs : List Value} {d : Value} (F : Arv Z h a k ty n vs d) : ∀ c : Cell, h[a]? = some c → c.vm.isStatics = false := fun c hc => by
  obtain ⟨cell, A, r⟩ := F
  cases A.1.symm.trans hc; exact A.plain
section OwnSteps
variable {p : Program} {l : Launch} {e : Env} {R : Room} {s : State} {m : MethodId} {args : Array Value} {below : List Frame} {meth : Method} {c : Code} {T T' : State} {locs : List Loc} {cells slots cells' slots' : Nat} {F : Outcome → State → Prop}
theorem own_step (h : ∀ target, Steps p.tables e below T' target → Steps p.tables e below T target) (k : own_Ends p e below F T') : own_Ends p e below F T := by
  obtain ⟨s₂, o, h1, h2⟩ := k
  exact ⟨s₂, o, h _ h1, h2⟩
theorem own_trans (h : Steps p.tables e below T T') (k : own_Ends p e below F T') : own_Ends p e below F T := by
  obtain ⟨s₂, o, h1, h2⟩ := k
  exact ⟨s₂, o, h.trans h1, h2⟩
theorem own_mono (X : Stand p l e R s m args below meth c T locs cells slots) (h1 : cells ≤ cells') (h2 : slots ≤ slots') : Stand p l e R s m args below meth c T locs cells' slots' :=
  { X with same := X.same.mono h1 h2 }
theorem own_ret {Q : Option Value → Heap → List Loc → Prop} {C S : Nat} {g : JFrame} (X : Stand p l e R s m args below meth c T locs cells slots) {v : Option Value} (hv : meth.sig.returnType = none → v = none) (hlocks : meth.locks = false)
    (st : ∀ fs, (∀ (f : JFrame) (acts : List Action), f.method = m → f.locked = none → f.entered = [] → (doReturn e (T.setTop f) acts v).1 = T.setFrames fs) → Steps p.tables e below (T.setTop g) (T.setFrames fs))
    (h1 : cells ≤ C) (h2 : slots ≤ S) (hQ : Q v T.heap locs) : own_Ends p e below (own_Fin s Q C S) (T.setTop g) := by
  obtain ⟨fs, hr, hrun, hended, hW, hsame⟩ := X.leave (v := v) hv hlocks
  exact ⟨_, _, st fs hr, hrun, hended, _, _, rfl, hQ, ⟨_, rfl⟩, hW, hsame.mono h1 h2⟩
def own_FinW (s : State) (Q : Option Value → Heap → List Loc → Prop) (C S : Nat) (o : Outcome) (U : State) : Prop :=
  ∃ v L, o = .returned v ∧ Q v U.heap L ∧ ReturnedEndW s o U L C S
theorem own_retW {vm : Vm} {k : Nat} {Q : Option Value → Heap → List Loc → Prop} {C S : Nat} {g : JFrame} (X : Stand p l e R (s.setVm vm) m args below meth c T locs cells slots) (hS : s.Since vm k) (hk : k ≤ T.heap.size) {v : Option Value} (hv : meth.sig.returnType = none → v = none) (hlocks : meth.locks = false)
    (st : ∀ fs, (∀ (f : JFrame) (acts : List Action), f.method = m → f.locked = none → f.entered = [] → (doReturn e (T.setTop f) acts v).1 = T.setFrames fs) → Steps p.tables e below (T.setTop g) (T.setFrames fs))
    (h1 : cells ≤ C) (h2 : slots ≤ S) (hQ : Q v T.heap locs) : own_Ends p e below (own_FinW s Q C S) (T.setTop g) := by
  obtain ⟨fs, hr, hrun, hended, a, b, c', d'⟩ := X.leaveW hS hk (v := v) hv hlocks
  exact ⟨_, _, st fs hr, hrun, hended, _, _, rfl, hQ, a, b, c', d'.mono h1 h2⟩
theorem own_warm {Z : State} {vm0 vm1 : Vm} {k : Nat} (hZ : Z.Warmed39 vm0) (hS : (s.setVm vm0).Since vm1 k) : Z.Warmed39 vm1 := State.Warmed39.trans (t := s.setVm vm0) hZ hS.1
theorem own_find {vm0 vm1 : Vm} {k : Nat} {own : String} {c0 : ClassId} (h : vm0.findClass own = some c0) (hS : (s.setVm vm0).Since vm1 k) : vm1.findClass own = some c0 := by
  rw [hS.1.alike.findClass]; exact h
def own_FinH (Z : State) (EL : List (String × Nat)) (s : State) (Q : Option Value → Heap → List Loc → Prop) (C S : Nat) (o : Outcome) (U : State) : Prop :=
  ∃ v L, o = .returned v ∧ Q v U.heap L ∧ CHr Z EL s.vm s.heap U.vm U.heap ∧ ReturnedEndW s o U L C S
theorem own_retH {Z : State} {a0 : Array Value} {EL : List (String × Nat)} {vm : Vm} {k : Nat} {h0 h : Heap} {Q : Option Value → Heap → List Loc → Prop} {C S : Nat} {g : JFrame} (X : Stand p l e R (s.setVm vm) m args below meth c T locs cells slots) (hS : s.Since vm k) (hk : k ≤ T.heap.size) (hh : s.heap = h0) (eT : T.heap = h) (hZ : Z.Warmed39 vm) (hEL : EW Z a0 EL) (hC : CHr Z EL s.vm h0 vm h) {v : Option Value} (hv : meth.sig.returnType = none → v = none) (hlocks : meth.locks = false)
    (st : ∀ fs, (∀ (f : JFrame) (acts : List Action), f.method = m → f.locked = none → f.entered = [] → (doReturn e (T.setTop f) acts v).1 = T.setFrames fs) → Steps p.tables e below (T.setTop g) (T.setFrames fs))
    (h1 : cells ≤ C) (h2 : slots ≤ S) (hQ : Q v T.heap locs) : own_Ends p e below (own_FinH Z EL s Q C S) (T.setTop g) := by
  obtain ⟨fs, hr, hrun, hended, a, b, c', d'⟩ := X.leaveW hS hk (v := v) hv hlocks
  have q : CHr Z EL s.vm s.heap T.vm T.heap := by
    rw [hh, eT]; exact hC.trans (CHv.at X hZ hEL hC.1)
  exact ⟨_, _, st fs hr, hrun, hended, _, _, rfl, hQ, q, a, b, c', d'.mono h1 h2⟩
def own_SL (Z : State) (EL : List (String × Nat)) (vm : Vm) (h : Heap) (x : Addr) : Prop := x < h.size ∧ Safe Z EL vm h x
theorem own_SL.go {Z : State} {EL : List (String × Nat)} {vm vm1 : Vm} {h h' : Heap} {x : Addr} (F : own_SL Z EL vm h x) (A : CHr Z EL vm h vm1 h') : own_SL Z EL vm1 h' x := ⟨Nat.lt_of_lt_of_le F.1 A.2.1, A.safe F.1 F.2⟩
theorem own_SL.born {Z : State} {EL : List (String × Nat)} {vm : Vm} {h h' : Heap} {x : Addr} (H : CHv Z EL vm h) (E : Ext h h') (g : x = h.size) (lt : x < h'.size) : own_SL Z EL vm h' x := ⟨lt, Safe.ext E H (Safe.new (Nat.le_of_eq g.symm))⟩
end OwnSteps

def own_key (m n : Int32) : Int64 := (m.toInt64 <<< ((32 : Int32) &&& 0x3f).toInt64) + (n.toInt64 - (-2147483648 : Int64))
def own_later (m1 n1 m2 n2 : Int32) : Int32 := if m2 < m1 then 1 else if m2 = m1 then (if n2 < n1 then 1 else 0) else 0
theorem own_key_int (m n : Int32) : (own_key m n).toInt = m.toInt * 4294967296 + n.toInt + 2147483648 := by
  have h1 := c_lshl m.toInt64 32 32 (by decide)
  have h2 := c_lsub n.toInt64 (-2147483648)
  have h3 := c_ladd (m.toInt64 <<< ((32 : Int32) &&& 0x3f).toInt64) (n.toInt64 - (-2147483648 : Int64))
  have z : (-2147483648 : Int64).toInt = -2147483648 := rfl
  have p : (2 ^ 32 : Nat) = 4294967296 := rfl
  rw [c_i2l, p] at h1
  rw [c_i2l, z] at h2
  have r1 := rng32 m
  have r2 := rng32 n
  have r3 := rng64 (own_key m n)
  have r4 := rng64 (n.toInt64 - (-2147483648 : Int64))
  have r5 := rng64 (m.toInt64 <<< ((32 : Int32) &&& 0x3f).toInt64)
  unfold own_key at *
  omega
theorem own_lt (m1 n1 m2 n2 : Int32) (h : own_key m2 n2 < own_key m1 n1) : own_later m1 n1 m2 n2 = 1 := by
  rw [Int64.lt_iff_toInt_lt, own_key_int, own_key_int] at h
  have r1 := rng32 n1
  have r2 := rng32 n2
  unfold own_later
  by_cases c1 : m2 < m1
  · rw [if_pos c1]
  · rw [Int32.lt_iff_toInt_lt] at c1
    have e : m2 = m1 := Int32.toInt_inj.mp (by omega)
    rw [if_neg (by rw [Int32.lt_iff_toInt_lt]; exact c1), if_pos e, if_pos (by rw [Int32.lt_iff_toInt_lt]; subst e; omega)]
theorem own_nlt (m1 n1 m2 n2 : Int32) (h : ¬ own_key m2 n2 < own_key m1 n1) : own_later m1 n1 m2 n2 = 0 := by
  rw [Int64.lt_iff_toInt_lt, own_key_int, own_key_int] at h
  have r1 := rng32 n1
  have r2 := rng32 n2
  unfold own_later
  by_cases c1 : m2 < m1
  · rw [Int32.lt_iff_toInt_lt] at c1
    exact absurd h (by omega)
  · rw [if_neg c1]
    by_cases e : m2 = m1
    · rw [if_pos e, if_neg (by rw [Int32.lt_iff_toInt_lt]; subst e; omega)]
    · rw [if_neg e]
theorem own_self (m n : Int32) : own_later m n m n = 0 := own_nlt m n m n (by rw [Int64.lt_iff_toInt_lt]; omega)

theorem d2_0 : decode jdk_30_method_1_code 0 = .ok (.aload_n 0, 1) := by decide +kernel
theorem d2_1 : decode jdk_30_method_1_code 1 = .ok (.invokespecial 1, 3) := by decide +kernel
theorem d2_4 : decode jdk_30_method_1_code 4 = .ok (.return_, 1) := by decide +kernel
theorem pn_java_lang_Record : plainName "java/lang/Record" = true := by first | (simp [plainName, overriddenIn]; done) | decide +kernel
theorem ef_rm2 (m : MethodId) (x0 : Addr) : entryFrame m #[(.ref x0)] 1 = mkF m 0 #[.val (.ref x0)] [] := by first | (simp [entryFrame, mkF, argsToLocals, Value.category, maxLocals]; done) | rfl
def Q2 (Z : State) (a : Addr) (h0 : Heap) (n0 : Nat) (v : Option Value) (h : Heap) (L : List Loc) : Prop := v = none ∧ Fr n0 L ∧ h = h0
set_option maxRecDepth 65536 in
set_option maxHeartbeats 40000000 in
theorem rm2 (l : Launch) (Z : State) (a0 : Array Value) (hw : ∀ d ∈ tables_1, d.before a0 Z = true) (ws : List Jvm.Cond) (a : Addr) (h0 : Heap) (n0 : Nat) (Z0 : n0 ≤ h0.size)  :
    MetFree l (⟨"java/lang/Record", "<init>", "()V"⟩ : MethodName) (head1 (Jvm.Cond.code (⟨"java/lang/Record", "<init>", "()V"⟩ : MethodName) jdk_30_method_1_code 1 none :: ws) ({ frames := 1, cells := 0, slots := 0, locals := 12 } : Room)) (fun ar U => ar = #[(.ref a)] ∧ Z.Warmed39 U.vm ∧ U.heap = h0) (fun _ _ _ _ _ => True) (fun _ U o U' => ∃ v L, o = .returned v ∧ Q2 Z a h0 n0 v U'.heap L ∧ FrameEnd U o U' L ({ frames := 1, cells := 0, slots := 0, locals := 12 } : Room).cells ({ frames := 1, cells := 0, slots := 0, locals := 12 } : Room).slots) := by
  refine MetFree.of_bodySF (plainFor_of_name pn_java_lang_Record) hisR ?_
  intro p e s m args below meth c s₁ Bd hml0 hP hK
  obtain ⟨rfl, hZ, hh⟩ := hP
  have hx := Bd.exec
  have hby := Bd.bytes
  have hml : c.maxLocals = 1 := hml0
  have hown : s.vm.findClass "java/lang/Record" = some m.cls := findClass_of_methodNamed Bd.named
  have hnm := (name_of_methodNamed Bd.named Bd.method).1
  have X0 : Stand p l e ({ frames := 1, cells := 0, slots := 0, locals := 12 } : Room) s m #[(.ref a)] below meth c s₁ [] 0 0 := Stand.of_body Bd
  have e0 : s₁.heap = h0 := by rw [← hh, Bd.state]; rfl
  have N0 := Fr.nil n0
  obtain ⟨F, hF⟩ : ∃ F, F = own_Fin s (Q2 Z a h0 n0) ({ frames := 1, cells := 0, slots := 0, locals := 12 } : Room).cells ({ frames := 1, cells := 0, slots := 0, locals := 12 } : Room).slots := ⟨_, rfl⟩
  show own_Ends p e below (own_Fin s (Q2 Z a h0 n0) ({ frames := 1, cells := 0, slots := 0, locals := 12 } : Room).cells ({ frames := 1, cells := 0, slots := 0, locals := 12 } : Room).slots) _
  rw [← hF, ef_rm2 m a]
  show own_Ends p e below F (s₁.setTop (mkF m 0 #[.val (.ref a)] []))
  refine own_step (fun _ k => XS.aloadN X0.here hx rfl (hb hby d2_0) rfl rfl k) ?_
  show own_Ends p e below F (s₁.setTop (mkF m 1 #[.val (.ref a)] [(.ref a)]))
  obtain ⟨T1, X1, e1, st1⟩ := initO X0 hx hZ hown (own_g hw 11 rfl) (own_g hw 12 rfl) (own_g hw 13 rfl) e0 (g := (mkF m 1 #[.val (.ref a)] [(.ref a)])) rfl (by rw [hml]; rfl) rfl (hb hby d2_1) (by decide) (W := 0) (by show 2 * 0 + _ ≤ _; exact Nat.le_of_eq rfl) (by decide)
  refine own_step st1 ?_
  show own_Ends p e below F (T1.setTop (mkF m 4 #[.val (.ref a)] []))
  rw [hF]
  exact own_ret X1 (v := none) (fun _ => rfl) Bd.notSynchronized (fun fs hr => X1.returnOut hx Bd.returns (hb hby d2_4) hr) (by decide) (by decide) (by rw [e1]; exact ⟨rfl, N0, rfl⟩)

theorem d1_0 : decode prog_50_method_1_code 0 = .ok (.aload_n 0, 1) := by decide +kernel
theorem d1_1 : decode prog_50_method_1_code 1 = .ok (.invokespecial 1, 3) := by decide +kernel
theorem d1_4 : decode prog_50_method_1_code 4 = .ok (.aload_n 0, 1) := by decide +kernel
theorem d1_5 : decode prog_50_method_1_code 5 = .ok (.iload_n 1, 1) := by decide +kernel
theorem d1_6 : decode prog_50_method_1_code 6 = .ok (.putfield 7, 3) := by decide +kernel
theorem d1_9 : decode prog_50_method_1_code 9 = .ok (.aload_n 0, 1) := by decide +kernel
theorem d1_10 : decode prog_50_method_1_code 10 = .ok (.iload_n 2, 1) := by decide +kernel
theorem d1_11 : decode prog_50_method_1_code 11 = .ok (.putfield 13, 3) := by decide +kernel
theorem d1_14 : decode prog_50_method_1_code 14 = .ok (.return_, 1) := by decide +kernel
theorem pn_com_example_greater_than_greaterthan_sql_Dialect_Version : plainName "com/example/greater_than/greaterthan/sql/Dialect$Version" = true := by first | (simp [plainName, overriddenIn]; done) | decide +kernel
theorem pd__28_29V : parseMethodDescriptor "()V" = some ⟨[], none⟩ := by decide +kernel
theorem ef_rm1 (m : MethodId) (x0 : Addr) (x1 : Int32) (x2 : Int32) : entryFrame m #[(.ref x0), (.int x1), (.int x2)] 3 = mkF m 0 #[.val (.ref x0), .val (.int x1), .val (.int x2)] [] := by first | (simp [entryFrame, mkF, argsToLocals, Value.category, maxLocals]; done) | rfl
def Q1 (Z : State) (a : Addr) (p1 : Int32) (p2 : Int32) (h0 : Heap) (n0 : Nat) (v : Option Value) (h : Heap) (L : List Loc) : Prop := v = none ∧ Fr n0 L ∧ Keep h0 h [a] ∧ Exa Z h a "com/example/greater_than/greaterthan/sql/Dialect$Version" ∧ Fld Z h a "com/example/greater_than/greaterthan/sql/Dialect$Version" "major" "I" (.int p1) ∧ Fld Z h a "com/example/greater_than/greaterthan/sql/Dialect$Version" "minor" "I" (.int p2)
set_option maxRecDepth 65536 in
set_option maxHeartbeats 40000000 in
theorem rm1 (l : Launch) (Z : State) (a0 : Array Value) (hw : ∀ d ∈ tables_1, d.before a0 Z = true) (ws : List Jvm.Cond) (a : Addr) (p1 : Int32) (p2 : Int32) (h0 : Heap) (n0 : Nat) (Z0 : n0 ≤ h0.size) (EX : Exa Z h0 a "com/example/greater_than/greaterthan/sql/Dialect$Version") (ge : n0 ≤ a) (F_major : Fld Z h0 a "com/example/greater_than/greaterthan/sql/Dialect$Version" "major" "I" (.int (0 : Int32))) (F_minor : Fld Z h0 a "com/example/greater_than/greaterthan/sql/Dialect$Version" "minor" "I" (.int (0 : Int32))) :
    MetFree l (⟨"com/example/greater_than/greaterthan/sql/Dialect$Version", "<init>", "(II)V"⟩ : MethodName) (head1 (Jvm.Cond.code (⟨"com/example/greater_than/greaterthan/sql/Dialect$Version", "<init>", "(II)V"⟩ : MethodName) prog_50_method_1_code 3 none :: ws) ({ frames := 2, cells := 0, slots := 0, locals := 24 } : Room)) (fun ar U => ar = #[(.ref a), (.int p1), (.int p2)] ∧ Z.Warmed39 U.vm ∧ U.heap = h0) (fun _ _ _ _ _ => True) (fun _ U o U' => ∃ v L, o = .returned v ∧ Q1 Z a p1 p2 h0 n0 v U'.heap L ∧ FrameEnd U o U' L ({ frames := 2, cells := 0, slots := 0, locals := 24 } : Room).cells ({ frames := 2, cells := 0, slots := 0, locals := 24 } : Room).slots) := by
  refine MetFree.of_bodySF (plainFor_of_name pn_com_example_greater_than_greaterthan_sql_Dialect_Version) hisR ?_
  intro p e s m args below meth c s₁ Bd hml0 hP hK
  obtain ⟨rfl, hZ, hh⟩ := hP
  have hx := Bd.exec
  have hby := Bd.bytes
  have hml : c.maxLocals = 3 := hml0
  have hown : s.vm.findClass "com/example/greater_than/greaterthan/sql/Dialect$Version" = some m.cls := findClass_of_methodNamed Bd.named
  have hnm := (name_of_methodNamed Bd.named Bd.method).1
  have X0 : Stand p l e ({ frames := 2, cells := 0, slots := 0, locals := 24 } : Room) s m #[(.ref a), (.int p1), (.int p2)] below meth c s₁ [] 0 0 := Stand.of_body Bd
  have e0 : s₁.heap = h0 := by rw [← hh, Bd.state]; rfl
  have N0 := Fr.nil n0
  obtain ⟨F, hF⟩ : ∃ F, F = own_Fin s (Q1 Z a p1 p2 h0 n0) ({ frames := 2, cells := 0, slots := 0, locals := 24 } : Room).cells ({ frames := 2, cells := 0, slots := 0, locals := 24 } : Room).slots := ⟨_, rfl⟩
  show own_Ends p e below (own_Fin s (Q1 Z a p1 p2 h0 n0) ({ frames := 2, cells := 0, slots := 0, locals := 24 } : Room).cells ({ frames := 2, cells := 0, slots := 0, locals := 24 } : Room).slots) _
  rw [← hF, ef_rm1 m a p1 p2]
  show own_Ends p e below F (s₁.setTop (mkF m 0 #[.val (.ref a), .val (.int p1), .val (.int p2)] []))
  refine own_step (fun _ k => XS.aloadN X0.here hx rfl (hb hby d1_0) rfl rfl k) ?_
  show own_Ends p e below F (s₁.setTop (mkF m 1 #[.val (.ref a), .val (.int p1), .val (.int p2)] [(.ref a)]))
  obtain ⟨_, _, ⟨T1, L1, k1, n1⟩, -, X1, ⟨Lc1, hQ1, l1, y1, z1⟩, st1⟩ := X0.specialBack hx (y := (⟨"java/lang/Record", "<init>", "()V"⟩ : MethodName)) rfl hown (mvT hZ (own_g hw 6 rfl)) (mvT hZ (own_g hw 7 rfl)) (mvT hZ (own_g hw 10 rfl)) (by decide) (backOf (W := 0) (rm2 l Z a0 hw [] a h0 n0 Z0) hZ (own_g hw 10 rfl) (own_g hw 9 rfl) (by decide) (by decide)) (g := (mkF m 1 #[.val (.ref a), .val (.int p1), .val (.int p2)] [(.ref a)])) rfl (by rw [hml]; rfl) (Steps.refl _) (a := a) (argsL := []) (rest := []) (lenOf pd__28_29V rfl) rfl (by show 2 * 0 + _ ≤ _; exact Nat.le_of_eq rfl) (hb hby d1_1) (fun _ _ => ⟨rfl, e0, (by decide : 0 + 0 ≤ _), (by decide : 0 + 0 ≤ _)⟩)
  dsimp only [Pt.U, Pt.locs, Pt.cells, Pt.slots] at X1 l1 y1 z1 st1 hQ1
  subst l1 y1 z1
  obtain ⟨rfl, Nq1, eq1⟩ := hQ1
  have N1 := Fr.app N0 Nq1
  refine own_trans st1 ?_
  show own_Ends p e below F (T1.setTop (mkF m 4 #[.val (.ref a), .val (.int p1), .val (.int p2)] []))
  refine own_step (fun _ k => XS.aloadN X1.here hx rfl (hb hby d1_4) rfl rfl k) ?_
  show own_Ends p e below F (T1.setTop (mkF m 5 #[.val (.ref a), .val (.int p1), .val (.int p2)] [(.ref a)]))
  refine own_step (fun _ k => XS.iloadN X1.here hx rfl (hb hby d1_5) rfl k) ?_
  show own_Ends p e below F (T1.setTop (mkF m 6 #[.val (.ref a), .val (.int p1), .val (.int p2)] [(.int p1), (.ref a)]))
  obtain ⟨T2, h2, X2, e2, W2, st2⟩ := putF X1 hx hZ hown (host := "") (Or.inl (own_g hw 14 rfl)) Via.refl eq1 F_major EX (Or.inr ⟨(own_g hw 15 rfl), rfl, hnm⟩) (own_g hw 1 rfl) (ty := .int) (by decide) rfl rfl (g := (mkF m 6 #[.val (.ref a), .val (.int p1), .val (.int p2)] [(.int p1), (.ref a)])) rfl rfl (hb hby d1_6)
  refine own_step st2 ?_
  have F2 := Fld.same W2 F_major
  have N2 := Fr.snoc X2 N1 ge
  have Z2 : n0 ≤ h2.size := by rw [W2.size]; exact Z0
  have SZ2 : h0.size ≤ h2.size := by rw [W2.size]; exact (Nat.le_refl h0.size)
  show own_Ends p e below F (T2.setTop (mkF m 9 #[.val (.ref a), .val (.int p1), .val (.int p2)] []))
  refine own_step (fun _ k => XS.aloadN X2.here hx rfl (hb hby d1_9) rfl rfl k) ?_
  show own_Ends p e below F (T2.setTop (mkF m 10 #[.val (.ref a), .val (.int p1), .val (.int p2)] [(.ref a)]))
  refine own_step (fun _ k => XS.iloadN X2.here hx rfl (hb hby d1_10) rfl k) ?_
  show own_Ends p e below F (T2.setTop (mkF m 11 #[.val (.ref a), .val (.int p1), .val (.int p2)] [(.int p2), (.ref a)]))
  obtain ⟨T3, h3, X3, e3, W3, st3⟩ := putF X2 hx hZ hown (host := "") (Or.inl (own_g hw 16 rfl)) Via.refl e2 (Fld.other W2 F_minor (Or.inr (slot_ne (t := .int) (t' := .int) (Or.inr (own_g hw 17 rfl)) (Or.inr (own_g hw 15 rfl)) (by decide) (by decide) (by decide)))) (EX.wr W2) (Or.inr ⟨(own_g hw 17 rfl), rfl, hnm⟩) (own_g hw 1 rfl) (ty := .int) (by decide) rfl rfl (g := (mkF m 11 #[.val (.ref a), .val (.int p1), .val (.int p2)] [(.int p2), (.ref a)])) rfl rfl (hb hby d1_11)
  refine own_step st3 ?_
  have F3 := Fld.same W3 (Fld.other W2 F_minor (Or.inr (slot_ne (t := .int) (t' := .int) (Or.inr (own_g hw 17 rfl)) (Or.inr (own_g hw 15 rfl)) (by decide) (by decide) (by decide))))
  have N3 := Fr.snoc X3 N2 ge
  have Z3 : n0 ≤ h3.size := by rw [W3.size]; exact Z2
  have SZ3 : h0.size ≤ h3.size := by rw [W3.size]; exact SZ2
  show own_Ends p e below F (T3.setTop (mkF m 14 #[.val (.ref a), .val (.int p1), .val (.int p2)] []))
  rw [hF]
  exact own_ret X3 (v := none) (fun _ => rfl) Bd.notSynchronized (fun fs hr => X3.returnOut hx Bd.returns (hb hby d1_14) hr) (by decide) (by decide) (by rw [e3]; exact ⟨rfl, N3, ((Keep.wr (Keep.wr (Keep.refl _ _) W2 (Or.inl (List.mem_of_getElem? (i := 0) rfl))) W3 (Or.inl (List.mem_of_getElem? (i := 0) rfl))) : Keep h0 h3 [a]), ((EX.wr W2).wr W3), (Fld.other W3 F2 (Or.inr (slot_ne (t := .int) (t' := .int) (Or.inr (own_g hw 15 rfl)) (Or.inr (own_g hw 17 rfl)) (by decide) (by decide) (by decide)))), F3⟩)

theorem d4_0 : decode method_2_code 0 = .ok (.iload_n 0, 1) := by decide +kernel
theorem d4_1 : decode method_2_code 1 = .ok (.i2l, 1) := by decide +kernel
theorem d4_2 : decode method_2_code 2 = .ok (.bipush 32, 2) := by decide +kernel
theorem d4_4 : decode method_2_code 4 = .ok (.lshl, 1) := by decide +kernel
theorem d4_5 : decode method_2_code 5 = .ok (.iload_n 1, 1) := by decide +kernel
theorem d4_6 : decode method_2_code 6 = .ok (.i2l, 1) := by decide +kernel
theorem d4_7 : decode method_2_code 7 = .ok (.ldc2_w 9, 3) := by decide +kernel
theorem d4_10 : decode method_2_code 10 = .ok (.lsub, 1) := by decide +kernel
theorem d4_11 : decode method_2_code 11 = .ok (.ladd, 1) := by decide +kernel
theorem d4_12 : decode method_2_code 12 = .ok (.lreturn, 1) := by decide +kernel
theorem pn_com_example_greater_than_greaterthan_sql_VersionIsLaterThanPinLaw : plainName "com/example/greater_than/greaterthan/sql/VersionIsLaterThanPinLaw" = true := by first | (simp [plainName, overriddenIn]; done) | decide +kernel
theorem ef_rm4 (m : MethodId) (x0 : Int32) (x1 : Int32) : entryFrame m #[(.int x0), (.int x1)] 2 = mkF m 0 #[.val (.int x0), .val (.int x1)] [] := by first | (simp [entryFrame, mkF, argsToLocals, Value.category, maxLocals]; done) | rfl
def Q4 (Z : State) (p1 p2 : Int32) (h0 : Heap) (n0 : Nat) (v : Option Value) (h : Heap) (L : List Loc) : Prop := v = some (.long (own_key p1 p2)) ∧ Fr n0 L ∧ h = h0
set_option maxRecDepth 65536 in
set_option maxHeartbeats 40000000 in
theorem rm4 (l : Launch) (Z : State) (a0 : Array Value) (hw : ∀ d ∈ tables_1, d.before a0 Z = true) (ws : List Jvm.Cond) (p1 p2 : Int32) (h0 : Heap) (n0 : Nat) (Z0 : n0 ≤ h0.size)  :
    MetFree l (⟨"com/example/greater_than/greaterthan/sql/VersionIsLaterThanPinLaw", "key", "(II)J"⟩ : MethodName) (head1 (Jvm.Cond.code (⟨"com/example/greater_than/greaterthan/sql/VersionIsLaterThanPinLaw", "key", "(II)J"⟩ : MethodName) method_2_code 2 (some .long) :: ws) ({ frames := 0, cells := 0, slots := 0, locals := 0 } : Room)) (fun ar U => ar = #[(.int p1), (.int p2)] ∧ Z.Warmed39 U.vm ∧ U.heap = h0) (fun _ _ _ _ _ => True) (fun _ U o U' => ∃ v L, o = .returned v ∧ Q4 Z p1 p2 h0 n0 v U'.heap L ∧ FrameEnd U o U' L ({ frames := 0, cells := 0, slots := 0, locals := 0 } : Room).cells ({ frames := 0, cells := 0, slots := 0, locals := 0 } : Room).slots) := by
  refine MetFree.of_bodySF (plainFor_of_name pn_com_example_greater_than_greaterthan_sql_VersionIsLaterThanPinLaw) hisR ?_
  intro p e s m args below meth c s₁ Bd hml0 hP hK
  obtain ⟨rfl, hZ, hh⟩ := hP
  have hx := Bd.exec
  have hby := Bd.bytes
  have hml : c.maxLocals = 2 := hml0
  have hown : s.vm.findClass "com/example/greater_than/greaterthan/sql/VersionIsLaterThanPinLaw" = some m.cls := findClass_of_methodNamed Bd.named
  have hnm := (name_of_methodNamed Bd.named Bd.method).1
  have X0 : Stand p l e ({ frames := 0, cells := 0, slots := 0, locals := 0 } : Room) s m #[(.int p1), (.int p2)] below meth c s₁ [] 0 0 := Stand.of_body Bd
  have e0 : s₁.heap = h0 := by rw [← hh, Bd.state]; rfl
  have N0 := Fr.nil n0
  obtain ⟨F, hF⟩ : ∃ F, F = own_Fin s (Q4 Z p1 p2 h0 n0) ({ frames := 0, cells := 0, slots := 0, locals := 0 } : Room).cells ({ frames := 0, cells := 0, slots := 0, locals := 0 } : Room).slots := ⟨_, rfl⟩
  show own_Ends p e below (own_Fin s (Q4 Z p1 p2 h0 n0) ({ frames := 0, cells := 0, slots := 0, locals := 0 } : Room).cells ({ frames := 0, cells := 0, slots := 0, locals := 0 } : Room).slots) _
  rw [← hF, ef_rm4 m p1 p2]
  show own_Ends p e below F (s₁.setTop (mkF m 0 #[.val (.int p1), .val (.int p2)] []))
  refine own_step (fun _ k => XS.iloadN X0.here hx rfl (hb hby d4_0) rfl k) ?_
  show own_Ends p e below F (s₁.setTop (mkF m 1 #[.val (.int p1), .val (.int p2)] [(.int p1)]))
  refine own_step (fun _ k => XS.i2l X0.here hx rfl (hb hby d4_1) rfl k) ?_
  show own_Ends p e below F (s₁.setTop (mkF m 2 #[.val (.int p1), .val (.int p2)] [(.long (p1.toInt64))]))
  refine own_step (fun _ k => XS.bipush X0.here hx rfl (hb hby d4_2) k) ?_
  show own_Ends p e below F (s₁.setTop (mkF m 4 #[.val (.int p1), .val (.int p2)] [(.int (32 : Int32)), (.long (p1.toInt64))]))
  refine own_step (fun _ k => XS.lshl X0.here hx rfl (hb hby d4_4) rfl k) ?_
  show own_Ends p e below F (s₁.setTop (mkF m 5 #[.val (.int p1), .val (.int p2)] [(.long ((p1.toInt64) <<< ((32 : Int32) &&& 0x3f).toInt64))]))
  refine own_step (fun _ k => XS.iloadN X0.here hx rfl (hb hby d4_5) rfl k) ?_
  show own_Ends p e below F (s₁.setTop (mkF m 6 #[.val (.int p1), .val (.int p2)] [(.int p2), (.long ((p1.toInt64) <<< ((32 : Int32) &&& 0x3f).toInt64))]))
  refine own_step (fun _ k => XS.i2l X0.here hx rfl (hb hby d4_6) rfl k) ?_
  show own_Ends p e below F (s₁.setTop (mkF m 7 #[.val (.int p1), .val (.int p2)] [(.long (p2.toInt64)), (.long ((p1.toInt64) <<< ((32 : Int32) &&& 0x3f).toInt64))]))
  refine own_step (X0.ldc2Long hx hown (mvT hZ (own_g hw 22 rfl)) (g := (mkF m 7 #[.val (.int p1), .val (.int p2)] [(.long (p2.toInt64)), (.long ((p1.toInt64) <<< ((32 : Int32) &&& 0x3f).toInt64))])) rfl (hb hby d4_7)) ?_
  show own_Ends p e below F (s₁.setTop (mkF m 10 #[.val (.int p1), .val (.int p2)] [(.long (-2147483648 : Int64)), (.long (p2.toInt64)), (.long ((p1.toInt64) <<< ((32 : Int32) &&& 0x3f).toInt64))]))
  refine own_step (fun _ k => XS.lsub X0.here hx rfl (hb hby d4_10) rfl k) ?_
  show own_Ends p e below F (s₁.setTop (mkF m 11 #[.val (.int p1), .val (.int p2)] [(.long ((p2.toInt64) - (-2147483648 : Int64))), (.long ((p1.toInt64) <<< ((32 : Int32) &&& 0x3f).toInt64))]))
  refine own_step (fun _ k => XS.ladd X0.here hx rfl (hb hby d4_11) rfl k) ?_
  show own_Ends p e below F (s₁.setTop (mkF m 12 #[.val (.int p1), .val (.int p2)] [(.long (((p1.toInt64) <<< ((32 : Int32) &&& 0x3f).toInt64) + ((p2.toInt64) - (-2147483648 : Int64))))]))
  rw [hF]
  exact own_ret X0 (v := (some (.long (((p1.toInt64) <<< ((32 : Int32) &&& 0x3f).toInt64) + ((p2.toInt64) - (-2147483648 : Int64)))))) (fun h => by rw [Bd.returns] at h; cases h) Bd.notSynchronized (fun fs hr => X0.lreturnOut hx Bd.returns (hb hby d4_12) hr) (by decide) (by decide) (by rw [e0]; exact ⟨rfl, N0, rfl⟩)

theorem d5_0 : decode prog_50_method_3_code 0 = .ok (.aload_n 1, 1) := by decide +kernel
theorem d5_1 : decode prog_50_method_3_code 1 = .ok (.getfield 7, 3) := by decide +kernel
theorem d5_4 : decode prog_50_method_3_code 4 = .ok (.aload_n 0, 1) := by decide +kernel
theorem d5_5 : decode prog_50_method_3_code 5 = .ok (.getfield 7, 3) := by decide +kernel
theorem d5_8 : decode prog_50_method_3_code 8 = .ok (.if_icmp .lt 25, 3) := by decide +kernel
theorem d5_11 : decode prog_50_method_3_code 11 = .ok (.aload_n 1, 1) := by decide +kernel
theorem d5_12 : decode prog_50_method_3_code 12 = .ok (.getfield 7, 3) := by decide +kernel
theorem d5_15 : decode prog_50_method_3_code 15 = .ok (.aload_n 0, 1) := by decide +kernel
theorem d5_16 : decode prog_50_method_3_code 16 = .ok (.getfield 7, 3) := by decide +kernel
theorem d5_19 : decode prog_50_method_3_code 19 = .ok (.if_icmp .ne 18, 3) := by decide +kernel
theorem d5_22 : decode prog_50_method_3_code 22 = .ok (.aload_n 1, 1) := by decide +kernel
theorem d5_23 : decode prog_50_method_3_code 23 = .ok (.getfield 13, 3) := by decide +kernel
theorem d5_26 : decode prog_50_method_3_code 26 = .ok (.aload_n 0, 1) := by decide +kernel
theorem d5_27 : decode prog_50_method_3_code 27 = .ok (.getfield 13, 3) := by decide +kernel
theorem d5_30 : decode prog_50_method_3_code 30 = .ok (.if_icmp .ge 7, 3) := by decide +kernel
theorem d5_33 : decode prog_50_method_3_code 33 = .ok (.iconst 1, 1) := by decide +kernel
theorem d5_34 : decode prog_50_method_3_code 34 = .ok (.goto 4, 3) := by decide +kernel
theorem d5_37 : decode prog_50_method_3_code 37 = .ok (.iconst 0, 1) := by decide +kernel
theorem d5_38 : decode prog_50_method_3_code 38 = .ok (.ireturn, 1) := by decide +kernel
theorem ef_rm5 (m : MethodId) (x0 : Addr) (x1 : Addr) : entryFrame m #[(.ref x0), (.ref x1)] 2 = mkF m 0 #[.val (.ref x0), .val (.ref x1)] [] := by first | (simp [entryFrame, mkF, argsToLocals, Value.category, maxLocals]; done) | rfl
def Q5 (Z : State) (a b : Addr) (m1 n1 m2 n2 : Int32) (h0 : Heap) (n0 : Nat) (v : Option Value) (h : Heap) (L : List Loc) : Prop := v = some (.int (own_later m1 n1 m2 n2)) ∧ Fr n0 L ∧ h = h0
set_option maxRecDepth 65536 in
set_option maxHeartbeats 40000000 in
theorem rm5 (l : Launch) (Z : State) (a0 : Array Value) (hw : ∀ d ∈ tables_1, d.before a0 Z = true) (ws : List Jvm.Cond) (a b : Addr) (m1 n1 m2 n2 : Int32) (h0 : Heap) (n0 : Nat) (Z0 : n0 ≤ h0.size) (F_m1 : Fld Z h0 a "com/example/greater_than/greaterthan/sql/Dialect$Version" "major" "I" (.int m1)) (F_n1 : Fld Z h0 a "com/example/greater_than/greaterthan/sql/Dialect$Version" "minor" "I" (.int n1)) (F_m2 : Fld Z h0 b "com/example/greater_than/greaterthan/sql/Dialect$Version" "major" "I" (.int m2)) (F_n2 : Fld Z h0 b "com/example/greater_than/greaterthan/sql/Dialect$Version" "minor" "I" (.int n2)) :
    MetFree l (⟨"com/example/greater_than/greaterthan/sql/Dialect$Version", "isLaterThan", "(Lcom/example/greater_than/greaterthan/sql/Dialect$Version;)Z"⟩ : MethodName) (head1 (Jvm.Cond.code (⟨"com/example/greater_than/greaterthan/sql/Dialect$Version", "isLaterThan", "(Lcom/example/greater_than/greaterthan/sql/Dialect$Version;)Z"⟩ : MethodName) prog_50_method_3_code 2 (some .boolean) :: ws) ({ frames := 0, cells := 0, slots := 0, locals := 0 } : Room)) (fun ar U => ar = #[(.ref a), (.ref b)] ∧ Z.Warmed39 U.vm ∧ U.heap = h0) (fun _ _ _ _ _ => True) (fun _ U o U' => ∃ v L, o = .returned v ∧ Q5 Z a b m1 n1 m2 n2 h0 n0 v U'.heap L ∧ FrameEnd U o U' L ({ frames := 0, cells := 0, slots := 0, locals := 0 } : Room).cells ({ frames := 0, cells := 0, slots := 0, locals := 0 } : Room).slots) := by
  refine MetFree.of_bodySF (plainFor_of_name pn_com_example_greater_than_greaterthan_sql_Dialect_Version) hisR ?_
  intro p e s m args below meth c s₁ Bd hml0 hP hK
  obtain ⟨rfl, hZ, hh⟩ := hP
  have hx := Bd.exec
  have hby := Bd.bytes
  have hml : c.maxLocals = 2 := hml0
  have hown : s.vm.findClass "com/example/greater_than/greaterthan/sql/Dialect$Version" = some m.cls := findClass_of_methodNamed Bd.named
  have hnm := (name_of_methodNamed Bd.named Bd.method).1
  have X0 : Stand p l e ({ frames := 0, cells := 0, slots := 0, locals := 0 } : Room) s m #[(.ref a), (.ref b)] below meth c s₁ [] 0 0 := Stand.of_body Bd
  have e0 : s₁.heap = h0 := by rw [← hh, Bd.state]; rfl
  have N0 := Fr.nil n0
  obtain ⟨F, hF⟩ : ∃ F, F = own_Fin s (Q5 Z a b m1 n1 m2 n2 h0 n0) ({ frames := 0, cells := 0, slots := 0, locals := 0 } : Room).cells ({ frames := 0, cells := 0, slots := 0, locals := 0 } : Room).slots := ⟨_, rfl⟩
  show own_Ends p e below (own_Fin s (Q5 Z a b m1 n1 m2 n2 h0 n0) ({ frames := 0, cells := 0, slots := 0, locals := 0 } : Room).cells ({ frames := 0, cells := 0, slots := 0, locals := 0 } : Room).slots) _
  rw [← hF, ef_rm5 m a b]
  show own_Ends p e below F (s₁.setTop (mkF m 0 #[.val (.ref a), .val (.ref b)] []))
  refine own_step (fun _ k => XS.aloadN X0.here hx rfl (hb hby d5_0) rfl rfl k) ?_
  show own_Ends p e below F (s₁.setTop (mkF m 1 #[.val (.ref a), .val (.ref b)] [(.ref b)]))
  obtain ⟨T1, X1, e1, st1⟩ := getF X0 hx hZ hown (host := "") (Or.inl (own_g hw 14 rfl)) Via.refl e0 F_m2 (g := (mkF m 1 #[.val (.ref a), .val (.ref b)] [(.ref b)])) rfl rfl (hb hby d5_1)
  refine own_step st1 ?_
  show own_Ends p e below F (T1.setTop (mkF m 4 #[.val (.ref a), .val (.ref b)] [(.int m2)]))
  refine own_step (fun _ k => XS.aloadN X1.here hx rfl (hb hby d5_4) rfl rfl k) ?_
  show own_Ends p e below F (T1.setTop (mkF m 5 #[.val (.ref a), .val (.ref b)] [(.ref a), (.int m2)]))
  obtain ⟨T2, X2, e2, st2⟩ := getF X1 hx hZ hown (host := "") (Or.inl (own_g hw 14 rfl)) Via.refl e1 F_m1 (g := (mkF m 5 #[.val (.ref a), .val (.ref b)] [(.ref a), (.int m2)])) rfl rfl (hb hby d5_5)
  refine own_step st2 ?_
  show own_Ends p e below F (T2.setTop (mkF m 8 #[.val (.ref a), .val (.ref b)] [(.int m1), (.int m2)]))
  by_cases c8_3 : m2 < m1
  · refine own_step (fun _ k => XS.icmpYes X2.here hx rfl (pc0 := 8) (pc' := 33) rfl (hb hby d5_8) rfl (tlt c8_3).1 (by decide) (by decide) k) ?_
    show own_Ends p e below F (T2.setTop (mkF m 33 #[.val (.ref a), .val (.ref b)] []))
    refine own_step (fun _ k => XS.iconst X2.here hx rfl (hb hby d5_33) k) ?_
    show own_Ends p e below F (T2.setTop (mkF m 34 #[.val (.ref a), .val (.ref b)] [(.int (1 : Int32))]))
    refine own_step (fun _ k => XS.goto X2.here hx rfl (pc0 := 34) (pc' := 38) rfl (hb hby d5_34) (by decide) (by decide) k) ?_
    show own_Ends p e below F (T2.setTop (mkF m 38 #[.val (.ref a), .val (.ref b)] [(.int (1 : Int32))]))
    rw [hF]
    exact own_ret X2 (v := (some (.int (nar .boolean (1 : Int32))))) (fun h => by rw [Bd.returns] at h; cases h) Bd.notSynchronized (fun fs hr => retN X2 hx (t := .boolean) Bd.returns (by simp) (hb hby d5_38) hr) (by decide) (by decide) (by rw [e2]; exact ⟨by simp only [own_later, c8_3, Int32.lt_irrefl, if_true, if_false]; first | done | rfl, N0, rfl⟩)
  · refine own_step (fun _ k => XS.icmpNo X2.here hx rfl (hb hby d5_8) rfl (flt c8_3).1 k) ?_
    show own_Ends p e below F (T2.setTop (mkF m 11 #[.val (.ref a), .val (.ref b)] []))
    refine own_step (fun _ k => XS.aloadN X2.here hx rfl (hb hby d5_11) rfl rfl k) ?_
    show own_Ends p e below F (T2.setTop (mkF m 12 #[.val (.ref a), .val (.ref b)] [(.ref b)]))
    obtain ⟨T4, X4, e4, st4⟩ := getF X2 hx hZ hown (host := "") (Or.inl (own_g hw 14 rfl)) Via.refl e2 F_m2 (g := (mkF m 12 #[.val (.ref a), .val (.ref b)] [(.ref b)])) rfl rfl (hb hby d5_12)
    refine own_step st4 ?_
    show own_Ends p e below F (T4.setTop (mkF m 15 #[.val (.ref a), .val (.ref b)] [(.int m2)]))
    refine own_step (fun _ k => XS.aloadN X4.here hx rfl (hb hby d5_15) rfl rfl k) ?_
    show own_Ends p e below F (T4.setTop (mkF m 16 #[.val (.ref a), .val (.ref b)] [(.ref a), (.int m2)]))
    obtain ⟨T5, X5, e5, st5⟩ := getF X4 hx hZ hown (host := "") (Or.inl (own_g hw 14 rfl)) Via.refl e4 F_m1 (g := (mkF m 16 #[.val (.ref a), .val (.ref b)] [(.ref a), (.int m2)])) rfl rfl (hb hby d5_16)
    refine own_step st5 ?_
    show own_Ends p e below F (T5.setTop (mkF m 19 #[.val (.ref a), .val (.ref b)] [(.int m1), (.int m2)]))
    by_cases c19_6 : m2 = m1
    · refine own_step (fun _ k => XS.icmpNo X5.here hx rfl (hb hby d5_19) rfl (teq c19_6).2 k) ?_
      show own_Ends p e below F (T5.setTop (mkF m 22 #[.val (.ref a), .val (.ref b)] []))
      refine own_step (fun _ k => XS.aloadN X5.here hx rfl (hb hby d5_22) rfl rfl k) ?_
      show own_Ends p e below F (T5.setTop (mkF m 23 #[.val (.ref a), .val (.ref b)] [(.ref b)]))
      obtain ⟨T7, X7, e7, st7⟩ := getF X5 hx hZ hown (host := "") (Or.inl (own_g hw 16 rfl)) Via.refl e5 F_n2 (g := (mkF m 23 #[.val (.ref a), .val (.ref b)] [(.ref b)])) rfl rfl (hb hby d5_23)
      refine own_step st7 ?_
      show own_Ends p e below F (T7.setTop (mkF m 26 #[.val (.ref a), .val (.ref b)] [(.int n2)]))
      refine own_step (fun _ k => XS.aloadN X7.here hx rfl (hb hby d5_26) rfl rfl k) ?_
      show own_Ends p e below F (T7.setTop (mkF m 27 #[.val (.ref a), .val (.ref b)] [(.ref a), (.int n2)]))
      obtain ⟨T8, X8, e8, st8⟩ := getF X7 hx hZ hown (host := "") (Or.inl (own_g hw 16 rfl)) Via.refl e7 F_n1 (g := (mkF m 27 #[.val (.ref a), .val (.ref b)] [(.ref a), (.int n2)])) rfl rfl (hb hby d5_27)
      refine own_step st8 ?_
      show own_Ends p e below F (T8.setTop (mkF m 30 #[.val (.ref a), .val (.ref b)] [(.int n1), (.int n2)]))
      by_cases c30_9 : n2 < n1
      · refine own_step (fun _ k => XS.icmpNo X8.here hx rfl (hb hby d5_30) rfl (tlt c30_9).2.1 k) ?_
        show own_Ends p e below F (T8.setTop (mkF m 33 #[.val (.ref a), .val (.ref b)] []))
        refine own_step (fun _ k => XS.iconst X8.here hx rfl (hb hby d5_33) k) ?_
        show own_Ends p e below F (T8.setTop (mkF m 34 #[.val (.ref a), .val (.ref b)] [(.int (1 : Int32))]))
        refine own_step (fun _ k => XS.goto X8.here hx rfl (pc0 := 34) (pc' := 38) rfl (hb hby d5_34) (by decide) (by decide) k) ?_
        show own_Ends p e below F (T8.setTop (mkF m 38 #[.val (.ref a), .val (.ref b)] [(.int (1 : Int32))]))
        rw [hF]
        exact own_ret X8 (v := (some (.int (nar .boolean (1 : Int32))))) (fun h => by rw [Bd.returns] at h; cases h) Bd.notSynchronized (fun fs hr => retN X8 hx (t := .boolean) Bd.returns (by simp) (hb hby d5_38) hr) (by decide) (by decide) (by rw [e8]; exact ⟨by simp only [own_later, c8_3, c19_6, c30_9, Int32.lt_irrefl, if_true, if_false]; first | done | rfl, N0, rfl⟩)
      · refine own_step (fun _ k => XS.icmpYes X8.here hx rfl (pc0 := 30) (pc' := 37) rfl (hb hby d5_30) rfl (flt c30_9).2.1 (by decide) (by decide) k) ?_
        show own_Ends p e below F (T8.setTop (mkF m 37 #[.val (.ref a), .val (.ref b)] []))
        refine own_step (fun _ k => XS.iconst X8.here hx rfl (hb hby d5_37) k) ?_
        show own_Ends p e below F (T8.setTop (mkF m 38 #[.val (.ref a), .val (.ref b)] [(.int (0 : Int32))]))
        rw [hF]
        exact own_ret X8 (v := (some (.int (nar .boolean (0 : Int32))))) (fun h => by rw [Bd.returns] at h; cases h) Bd.notSynchronized (fun fs hr => retN X8 hx (t := .boolean) Bd.returns (by simp) (hb hby d5_38) hr) (by decide) (by decide) (by rw [e8]; exact ⟨by simp only [own_later, c8_3, c19_6, c30_9, Int32.lt_irrefl, if_true, if_false]; first | done | rfl, N0, rfl⟩)
    · refine own_step (fun _ k => XS.icmpYes X5.here hx rfl (pc0 := 19) (pc' := 37) rfl (hb hby d5_19) rfl (feq c19_6).2 (by decide) (by decide) k) ?_
      show own_Ends p e below F (T5.setTop (mkF m 37 #[.val (.ref a), .val (.ref b)] []))
      refine own_step (fun _ k => XS.iconst X5.here hx rfl (hb hby d5_37) k) ?_
      show own_Ends p e below F (T5.setTop (mkF m 38 #[.val (.ref a), .val (.ref b)] [(.int (0 : Int32))]))
      rw [hF]
      exact own_ret X5 (v := (some (.int (nar .boolean (0 : Int32))))) (fun h => by rw [Bd.returns] at h; cases h) Bd.notSynchronized (fun fs hr => retN X5 hx (t := .boolean) Bd.returns (by simp) (hb hby d5_38) hr) (by decide) (by decide) (by rw [e5]; exact ⟨by simp only [own_later, c8_3, c19_6, Int32.lt_irrefl, if_true, if_false]; first | done | rfl, N0, rfl⟩)

theorem pd__28II_29V : parseMethodDescriptor "(II)V" = some ⟨[.int, .int], none⟩ := by decide +kernel
theorem pd__28II_29J : parseMethodDescriptor "(II)J" = some ⟨[.int, .int], some .long⟩ := by decide +kernel
theorem pd__28Lcom_2fexample_2fgreater_than_2fgreaterthan_2fsql_2fDialect_24Version_3b_29Z : parseMethodDescriptor "(Lcom/example/greater_than/greaterthan/sql/Dialect$Version;)Z" = some ⟨[(.object "com/example/greater_than/greaterthan/sql/Dialect$Version")], some .boolean⟩ := by decide +kernel
theorem ef_rm0 (m : MethodId) (x0 : Int32) (x1 : Int32) (x2 : Int32) (x3 : Int32) (x4 : Int32) : entryFrame m #[(.int x0), (.int x1), (.int x2), (.int x3), (.int x4)] maxLocals = mkF m 0 #[.val (.int x0), .val (.int x1), .val (.int x2), .val (.int x3), .val (.int x4), .unset, .unset, .unset, .unset, .unset, .unset, .unset, .unset] [] := by first | (simp [entryFrame, mkF, argsToLocals, Value.category, maxLocals]; done) | rfl
def Q0 (Z : State) (p1 p2 p3 p4 p5 : Int32) (h0 : Heap) (n0 : Nat) (v : Option Value) (h : Heap) (L : List Loc) : Prop := v = some (.int 1) ∧ Fr n0 L
set_option maxRecDepth 65536 in
set_option maxHeartbeats 40000000 in
theorem rm0 (l : Launch) (Z : State) (a0 : Array Value) (hw : ∀ d ∈ tables_1, d.before a0 Z = true) (ws : List Jvm.Cond) (p1 p2 p3 p4 p5 : Int32) (h0 : Heap) (n0 : Nat) (Z0 : n0 ≤ h0.size)  :
    MetFree l x (head1 (Jvm.Cond.code x code maxLocals ret :: ws) room_1) (fun ar U => ar = #[(.int p1), (.int p2), (.int p3), (.int p4), (.int p5)] ∧ Z.Warmed39 U.vm ∧ U.heap = h0) (fun _ _ _ _ _ => True) (fun _ U o U' => ∃ v L, o = .returned v ∧ Q0 Z p1 p2 p3 p4 p5 h0 n0 v U'.heap L ∧ FrameEnd U o U' L room_1.cells room_1.slots) := by
  refine MetFree.of_bodySF (plainFor_of_name pn_com_example_greater_than_greaterthan_sql_VersionIsLaterThanPinLaw) hisR ?_
  intro p e s m args below meth c s₁ Bd hml0 hP hK
  obtain ⟨rfl, hZ, hh⟩ := hP
  have hx := Bd.exec
  have hby := Bd.bytes
  have hml : c.maxLocals = 13 := hml0
  have hown : s.vm.findClass "com/example/greater_than/greaterthan/sql/VersionIsLaterThanPinLaw" = some m.cls := findClass_of_methodNamed Bd.named
  have hnm := (name_of_methodNamed Bd.named Bd.method).1
  have X0 : Stand p l e room_1 s m #[(.int p1), (.int p2), (.int p3), (.int p4), (.int p5)] below meth c s₁ [] 0 0 := Stand.of_body Bd
  have e0 : s₁.heap = h0 := by rw [← hh, Bd.state]; rfl
  have N0 := Fr.nil n0
  obtain ⟨F, hF⟩ : ∃ F, F = own_Fin s (Q0 Z p1 p2 p3 p4 p5 h0 n0) room_1.cells room_1.slots := ⟨_, rfl⟩
  show own_Ends p e below (own_Fin s (Q0 Z p1 p2 p3 p4 p5 h0 n0) room_1.cells room_1.slots) _
  rw [← hF, ef_rm0 m p1 p2 p3 p4 p5]
  show own_Ends p e below F (s₁.setTop (mkF m 0 #[.val (.int p1), .val (.int p2), .val (.int p3), .val (.int p4), .val (.int p5), .unset, .unset, .unset, .unset, .unset, .unset, .unset, .unset] []))
  refine own_step (fun _ k => XS.iload X0.here hx rfl (hb hby at_0) rfl k) ?_
  show own_Ends p e below F (s₁.setTop (mkF m 2 #[.val (.int p1), .val (.int p2), .val (.int p3), .val (.int p4), .val (.int p5), .unset, .unset, .unset, .unset, .unset, .unset, .unset, .unset] [(.int p5)]))
  refine own_step (fun _ k => XS.iconst X0.here hx rfl (hb hby at_2) k) ?_
  show own_Ends p e below F (s₁.setTop (mkF m 3 #[.val (.int p1), .val (.int p2), .val (.int p3), .val (.int p4), .val (.int p5), .unset, .unset, .unset, .unset, .unset, .unset, .unset, .unset] [(.int (1 : Int32)), (.int p5)]))
  refine own_step (fun _ k => XS.iand X0.here hx rfl (hb hby at_3) rfl k) ?_
  show own_Ends p e below F (s₁.setTop (mkF m 4 #[.val (.int p1), .val (.int p2), .val (.int p3), .val (.int p4), .val (.int p5), .unset, .unset, .unset, .unset, .unset, .unset, .unset, .unset] [(.int (p5 &&& (1 : Int32)))]))
  have J4_2 : ∀ (z1 : Int32) (hz1 : z1 = (if (p5 &&& (1 : Int32)) = (0 : Int32) then p3 else p1)), own_Ends p e below F (s₁.setTop (mkF m 12 #[.val (.int p1), .val (.int p2), .val (.int p3), .val (.int p4), .val (.int p5), .unset, .unset, .unset, .unset, .unset, .unset, .unset, .unset] [(.int z1)])) := by
    intro z1 hz1
    refine own_step (fun _ k => XS.istore X0.here hx rfl (hb hby at_12) rfl (l' := #[.val (.int p1), .val (.int p2), .val (.int p3), .val (.int p4), .val (.int p5), .val (.int z1), .unset, .unset, .unset, .unset, .unset, .unset, .unset]) rfl k) ?_
    show own_Ends p e below F (s₁.setTop (mkF m 14 #[.val (.int p1), .val (.int p2), .val (.int p3), .val (.int p4), .val (.int p5), .val (.int z1), .unset, .unset, .unset, .unset, .unset, .unset, .unset] []))
    refine own_step (fun _ k => XS.iload X0.here hx rfl (hb hby at_14) rfl k) ?_
    show own_Ends p e below F (s₁.setTop (mkF m 16 #[.val (.int p1), .val (.int p2), .val (.int p3), .val (.int p4), .val (.int p5), .val (.int z1), .unset, .unset, .unset, .unset, .unset, .unset, .unset] [(.int p5)]))
    refine own_step (fun _ k => XS.iconst X0.here hx rfl (hb hby at_16) k) ?_
    show own_Ends p e below F (s₁.setTop (mkF m 17 #[.val (.int p1), .val (.int p2), .val (.int p3), .val (.int p4), .val (.int p5), .val (.int z1), .unset, .unset, .unset, .unset, .unset, .unset, .unset] [(.int (2 : Int32)), (.int p5)]))
    refine own_step (fun _ k => XS.iand X0.here hx rfl (hb hby at_17) rfl k) ?_
    show own_Ends p e below F (s₁.setTop (mkF m 18 #[.val (.int p1), .val (.int p2), .val (.int p3), .val (.int p4), .val (.int p5), .val (.int z1), .unset, .unset, .unset, .unset, .unset, .unset, .unset] [(.int (p5 &&& (2 : Int32)))]))
    have J18_5 : ∀ (z4 : Int32) (hz4 : z4 = (if (p5 &&& (2 : Int32)) = (0 : Int32) then p4 else p2)), own_Ends p e below F (s₁.setTop (mkF m 26 #[.val (.int p1), .val (.int p2), .val (.int p3), .val (.int p4), .val (.int p5), .val (.int z1), .unset, .unset, .unset, .unset, .unset, .unset, .unset] [(.int z4)])) := by
      intro z4 hz4
      refine own_step (fun _ k => XS.istore X0.here hx rfl (hb hby at_26) rfl (l' := #[.val (.int p1), .val (.int p2), .val (.int p3), .val (.int p4), .val (.int p5), .val (.int z1), .val (.int z4), .unset, .unset, .unset, .unset, .unset, .unset]) rfl k) ?_
      show own_Ends p e below F (s₁.setTop (mkF m 28 #[.val (.int p1), .val (.int p2), .val (.int p3), .val (.int p4), .val (.int p5), .val (.int z1), .val (.int z4), .unset, .unset, .unset, .unset, .unset, .unset] []))
      obtain ⟨T7, h7, X7, e7, E7, A7, D7, -, st7⟩ := newO X0 hx hZ hown (own_g hw 0 rfl) (own_g hw 1 rfl) (own_g hw 2 rfl) e0 (g := (mkF m 28 #[.val (.int p1), .val (.int p2), .val (.int p3), .val (.int p4), .val (.int p5), .val (.int z1), .val (.int z4), .unset, .unset, .unset, .unset, .unset, .unset] [])) rfl (hb hby at_28) (by decide) (by decide)
      obtain ⟨a7, g7⟩ : ∃ z, z = h0.size := ⟨_, rfl⟩
      rw [← g7] at A7 D7 st7
      have ge_a7 : n0 ≤ a7 := Nat.le_trans Z0 (Nat.le_of_eq g7.symm)
      have sz_a7 : h0.size ≤ a7 := Nat.le_trans (Nat.le_refl h0.size) (Nat.le_of_eq g7.symm)
      have Z7 : n0 ≤ h7.size := Nat.le_trans Z0 E7.1
      have SZ7 : h0.size ≤ h7.size := Nat.le_trans (Nat.le_refl h0.size) E7.1
      have F7_major : Fld Z h7 a7 "com/example/greater_than/greaterthan/sql/Dialect$Version" "major" "I" (.int (0 : Int32)) := D7 (Or.inr (own_g hw 15 rfl)) (ty := .int) (by decide)
      have F7_minor : Fld Z h7 a7 "com/example/greater_than/greaterthan/sql/Dialect$Version" "minor" "I" (.int (0 : Int32)) := D7 (Or.inr (own_g hw 17 rfl)) (ty := .int) (by decide)
      refine own_step st7 ?_
      show own_Ends p e below F (T7.setTop (mkF m 31 #[.val (.int p1), .val (.int p2), .val (.int p3), .val (.int p4), .val (.int p5), .val (.int z1), .val (.int z4), .unset, .unset, .unset, .unset, .unset, .unset] [(.ref a7)]))
      refine own_step (fun _ k => XS.dup X7.here hx rfl (hb hby at_31) rfl rfl k) ?_
      show own_Ends p e below F (T7.setTop (mkF m 32 #[.val (.int p1), .val (.int p2), .val (.int p3), .val (.int p4), .val (.int p5), .val (.int z1), .val (.int z4), .unset, .unset, .unset, .unset, .unset, .unset] [(.ref a7), (.ref a7)]))
      refine own_step (fun _ k => XS.iloadN X7.here hx rfl (hb hby at_32) rfl k) ?_
      show own_Ends p e below F (T7.setTop (mkF m 33 #[.val (.int p1), .val (.int p2), .val (.int p3), .val (.int p4), .val (.int p5), .val (.int z1), .val (.int z4), .unset, .unset, .unset, .unset, .unset, .unset] [(.int p1), (.ref a7), (.ref a7)]))
      refine own_step (fun _ k => XS.iloadN X7.here hx rfl (hb hby at_33) rfl k) ?_
      show own_Ends p e below F (T7.setTop (mkF m 34 #[.val (.int p1), .val (.int p2), .val (.int p3), .val (.int p4), .val (.int p5), .val (.int z1), .val (.int z4), .unset, .unset, .unset, .unset, .unset, .unset] [(.int p2), (.int p1), (.ref a7), (.ref a7)]))
      obtain ⟨_, _, ⟨T8, L8, k8, n8⟩, -, X8, ⟨Lc8, hQ8, l8, y8, z8⟩, st8⟩ := X7.specialBack hx (y := (⟨"com/example/greater_than/greaterthan/sql/Dialect$Version", "<init>", "(II)V"⟩ : MethodName)) rfl hown (mvT hZ (own_g hw 3 rfl)) (mvT hZ (own_g hw 4 rfl)) (mvT hZ (own_g hw 5 rfl)) (by decide) (backOf (W := 1) (rm1 l Z a0 hw [] a7 p1 p2 h7 n0 Z7 A7 ge_a7 F7_major F7_minor) hZ (own_g hw 5 rfl) (own_g hw 2 rfl) (by decide) (by decide)) (g := (mkF m 34 #[.val (.int p1), .val (.int p2), .val (.int p3), .val (.int p4), .val (.int p5), .val (.int z1), .val (.int z4), .unset, .unset, .unset, .unset, .unset, .unset] [(.int p2), (.int p1), (.ref a7), (.ref a7)])) rfl (by rw [hml]; rfl) (Steps.refl _) (a := a7) (argsL := [(.int p1), (.int p2)]) (rest := [(.ref a7)]) (lenOf pd__28II_29V rfl) rfl (by show 2 * 0 + _ ≤ _; exact Nat.le_of_eq rfl) (hb hby at_34) (fun _ _ => ⟨rfl, e7, (by decide : 1 + 0 ≤ _), (by decide : 2 + 0 ≤ _)⟩)
      dsimp only [Pt.U, Pt.locs, Pt.cells, Pt.slots] at X8 l8 y8 z8 st8 hQ8
      subst l8 y8 z8
      obtain ⟨rfl, Nq8, Kq8, fq0_8, fq1_8, fq2_8⟩ := hQ8
      have N8 := Fr.app N0 Nq8
      have Z8 : n0 ≤ T8.heap.size := Nat.le_trans Z7 Kq8.1
      have SZ8 : h0.size ≤ T8.heap.size := Nat.le_trans SZ7 Kq8.1
      refine own_trans st8 ?_
      show own_Ends p e below F (T8.setTop (mkF m 37 #[.val (.int p1), .val (.int p2), .val (.int p3), .val (.int p4), .val (.int p5), .val (.int z1), .val (.int z4), .unset, .unset, .unset, .unset, .unset, .unset] [(.ref a7)]))
      refine own_step (fun _ k => XS.astore X8.here hx rfl (hb hby at_37) rfl rfl (l' := #[.val (.int p1), .val (.int p2), .val (.int p3), .val (.int p4), .val (.int p5), .val (.int z1), .val (.int z4), .val (.ref a7), .unset, .unset, .unset, .unset, .unset]) rfl k) ?_
      show own_Ends p e below F (T8.setTop (mkF m 39 #[.val (.int p1), .val (.int p2), .val (.int p3), .val (.int p4), .val (.int p5), .val (.int z1), .val (.int z4), .val (.ref a7), .unset, .unset, .unset, .unset, .unset] []))
      obtain ⟨T9, h9, X9, e9, E9, A9, D9, -, st9⟩ := newO X8 hx hZ hown (own_g hw 0 rfl) (own_g hw 1 rfl) (own_g hw 2 rfl) rfl (g := (mkF m 39 #[.val (.int p1), .val (.int p2), .val (.int p3), .val (.int p4), .val (.int p5), .val (.int z1), .val (.int z4), .val (.ref a7), .unset, .unset, .unset, .unset, .unset] [])) rfl (hb hby at_39) (by decide) (by decide)
      obtain ⟨a9, g9⟩ : ∃ z, z = T8.heap.size := ⟨_, rfl⟩
      rw [← g9] at A9 D9 st9
      have ge_a9 : n0 ≤ a9 := Nat.le_trans Z8 (Nat.le_of_eq g9.symm)
      have sz_a9 : h0.size ≤ a9 := Nat.le_trans SZ8 (Nat.le_of_eq g9.symm)
      have ne_a7_a9 : a7 ≠ a9 := Nat.ne_of_lt (by rw [g9]; exact fq1_8.lt)
      have Z9 : n0 ≤ h9.size := Nat.le_trans Z8 E9.1
      have SZ9 : h0.size ≤ h9.size := Nat.le_trans SZ8 E9.1
      have F9_major : Fld Z h9 a9 "com/example/greater_than/greaterthan/sql/Dialect$Version" "major" "I" (.int (0 : Int32)) := D9 (Or.inr (own_g hw 15 rfl)) (ty := .int) (by decide)
      have F9_minor : Fld Z h9 a9 "com/example/greater_than/greaterthan/sql/Dialect$Version" "minor" "I" (.int (0 : Int32)) := D9 (Or.inr (own_g hw 17 rfl)) (ty := .int) (by decide)
      refine own_step st9 ?_
      show own_Ends p e below F (T9.setTop (mkF m 42 #[.val (.int p1), .val (.int p2), .val (.int p3), .val (.int p4), .val (.int p5), .val (.int z1), .val (.int z4), .val (.ref a7), .unset, .unset, .unset, .unset, .unset] [(.ref a9)]))
      refine own_step (fun _ k => XS.dup X9.here hx rfl (hb hby at_42) rfl rfl k) ?_
      show own_Ends p e below F (T9.setTop (mkF m 43 #[.val (.int p1), .val (.int p2), .val (.int p3), .val (.int p4), .val (.int p5), .val (.int z1), .val (.int z4), .val (.ref a7), .unset, .unset, .unset, .unset, .unset] [(.ref a9), (.ref a9)]))
      refine own_step (fun _ k => XS.iload X9.here hx rfl (hb hby at_43) rfl k) ?_
      show own_Ends p e below F (T9.setTop (mkF m 45 #[.val (.int p1), .val (.int p2), .val (.int p3), .val (.int p4), .val (.int p5), .val (.int z1), .val (.int z4), .val (.ref a7), .unset, .unset, .unset, .unset, .unset] [(.int z1), (.ref a9), (.ref a9)]))
      refine own_step (fun _ k => XS.iload X9.here hx rfl (hb hby at_45) rfl k) ?_
      show own_Ends p e below F (T9.setTop (mkF m 47 #[.val (.int p1), .val (.int p2), .val (.int p3), .val (.int p4), .val (.int p5), .val (.int z1), .val (.int z4), .val (.ref a7), .unset, .unset, .unset, .unset, .unset] [(.int z4), (.int z1), (.ref a9), (.ref a9)]))
      obtain ⟨_, _, ⟨T10, L10, k10, n10⟩, -, X10, ⟨Lc10, hQ10, l10, y10, z10⟩, st10⟩ := X9.specialBack hx (y := (⟨"com/example/greater_than/greaterthan/sql/Dialect$Version", "<init>", "(II)V"⟩ : MethodName)) rfl hown (mvT hZ (own_g hw 3 rfl)) (mvT hZ (own_g hw 4 rfl)) (mvT hZ (own_g hw 5 rfl)) (by decide) (backOf (W := 1) (rm1 l Z a0 hw [] a9 z1 z4 h9 n0 Z9 A9 ge_a9 F9_major F9_minor) hZ (own_g hw 5 rfl) (own_g hw 2 rfl) (by decide) (by decide)) (g := (mkF m 47 #[.val (.int p1), .val (.int p2), .val (.int p3), .val (.int p4), .val (.int p5), .val (.int z1), .val (.int z4), .val (.ref a7), .unset, .unset, .unset, .unset, .unset] [(.int z4), (.int z1), (.ref a9), (.ref a9)])) rfl (by rw [hml]; rfl) (Steps.refl _) (a := a9) (argsL := [(.int z1), (.int z4)]) (rest := [(.ref a9)]) (lenOf pd__28II_29V rfl) rfl (by show 2 * 0 + _ ≤ _; exact Nat.le_of_eq rfl) (hb hby at_47) (fun _ _ => ⟨rfl, e9, (by decide : 2 + 0 ≤ _), (by decide : 4 + 0 ≤ _)⟩)
      dsimp only [Pt.U, Pt.locs, Pt.cells, Pt.slots] at X10 l10 y10 z10 st10 hQ10
      subst l10 y10 z10
      obtain ⟨rfl, Nq10, Kq10, fq0_10, fq1_10, fq2_10⟩ := hQ10
      have N10 := Fr.app N8 Nq10
      have Z10 : n0 ≤ T10.heap.size := Nat.le_trans Z9 Kq10.1
      have SZ10 : h0.size ≤ T10.heap.size := Nat.le_trans SZ9 Kq10.1
      refine own_trans st10 ?_
      show own_Ends p e below F (T10.setTop (mkF m 50 #[.val (.int p1), .val (.int p2), .val (.int p3), .val (.int p4), .val (.int p5), .val (.int z1), .val (.int z4), .val (.ref a7), .unset, .unset, .unset, .unset, .unset] [(.ref a9)]))
      refine own_step (fun _ k => XS.astore X10.here hx rfl (hb hby at_50) rfl rfl (l' := #[.val (.int p1), .val (.int p2), .val (.int p3), .val (.int p4), .val (.int p5), .val (.int z1), .val (.int z4), .val (.ref a7), .val (.ref a9), .unset, .unset, .unset, .unset]) rfl k) ?_
      show own_Ends p e below F (T10.setTop (mkF m 52 #[.val (.int p1), .val (.int p2), .val (.int p3), .val (.int p4), .val (.int p5), .val (.int z1), .val (.int z4), .val (.ref a7), .val (.ref a9), .unset, .unset, .unset, .unset] []))
      refine own_step (fun _ k => XS.iloadN X10.here hx rfl (hb hby at_52) rfl k) ?_
      show own_Ends p e below F (T10.setTop (mkF m 53 #[.val (.int p1), .val (.int p2), .val (.int p3), .val (.int p4), .val (.int p5), .val (.int z1), .val (.int z4), .val (.ref a7), .val (.ref a9), .unset, .unset, .unset, .unset] [(.int p1)]))
      refine own_step (fun _ k => XS.iloadN X10.here hx rfl (hb hby at_53) rfl k) ?_
      show own_Ends p e below F (T10.setTop (mkF m 54 #[.val (.int p1), .val (.int p2), .val (.int p3), .val (.int p4), .val (.int p5), .val (.int z1), .val (.int z4), .val (.ref a7), .val (.ref a9), .unset, .unset, .unset, .unset] [(.int p2), (.int p1)]))
      obtain ⟨_, _, ⟨T11, L11, k11, n11⟩, -, X11, ⟨Lc11, hQ11, l11, y11, z11⟩, st11⟩ := Jvm.LawKit.callS X10 hx (y := (⟨"com/example/greater_than/greaterthan/sql/VersionIsLaterThanPinLaw", "key", "(II)J"⟩ : MethodName)) hown (mvT hZ (own_g hw 18 rfl)) (mvT hZ (own_g hw 19 rfl)) (mvT hZ (own_g hw 20 rfl)) (mvT hZ (own_g hw 21 rfl)) (by decide) (backOf (W := 0) (rm4 l Z a0 hw [] p1 p2 T10.heap n0 Z10) hZ (own_g hw 21 rfl) (own_g hw 20 rfl) (by decide) (by decide)) (g := (mkF m 54 #[.val (.int p1), .val (.int p2), .val (.int p3), .val (.int p4), .val (.int p5), .val (.int z1), .val (.int z4), .val (.ref a7), .val (.ref a9), .unset, .unset, .unset, .unset] [(.int p2), (.int p1)])) rfl (by rw [hml]; rfl) (argsL := [(.int p1), (.int p2)]) (rest := []) (lenOf pd__28II_29J rfl) rfl (by show 2 * 0 + _ ≤ _; exact Nat.le_of_eq rfl) (hb hby at_54) (fun _ _ => ⟨rfl, rfl, (by decide : 2 + 0 ≤ _), (by decide : 4 + 0 ≤ _)⟩)
      dsimp only [Pt.U, Pt.locs, Pt.cells, Pt.slots] at X11 l11 y11 z11 st11 hQ11
      subst l11 y11 z11
      obtain ⟨rfl, Nq11, eq11⟩ := hQ11
      have N11 := Fr.app N10 Nq11
      refine own_step st11 ?_
      show own_Ends p e below F (T11.setTop (mkF m 57 #[.val (.int p1), .val (.int p2), .val (.int p3), .val (.int p4), .val (.int p5), .val (.int z1), .val (.int z4), .val (.ref a7), .val (.ref a9), .unset, .unset, .unset, .unset] [(.long (own_key p1 p2))]))
      refine own_step (fun _ k => XS.lstore X11.here hx rfl (hb hby at_57) rfl (l' := #[.val (.int p1), .val (.int p2), .val (.int p3), .val (.int p4), .val (.int p5), .val (.int z1), .val (.int z4), .val (.ref a7), .val (.ref a9), .val (.long (own_key p1 p2)), .second, .unset, .unset]) rfl k) ?_
      show own_Ends p e below F (T11.setTop (mkF m 59 #[.val (.int p1), .val (.int p2), .val (.int p3), .val (.int p4), .val (.int p5), .val (.int z1), .val (.int z4), .val (.ref a7), .val (.ref a9), .val (.long (own_key p1 p2)), .second, .unset, .unset] []))
      refine own_step (fun _ k => XS.iload X11.here hx rfl (hb hby at_59) rfl k) ?_
      show own_Ends p e below F (T11.setTop (mkF m 61 #[.val (.int p1), .val (.int p2), .val (.int p3), .val (.int p4), .val (.int p5), .val (.int z1), .val (.int z4), .val (.ref a7), .val (.ref a9), .val (.long (own_key p1 p2)), .second, .unset, .unset] [(.int z1)]))
      refine own_step (fun _ k => XS.iload X11.here hx rfl (hb hby at_61) rfl k) ?_
      show own_Ends p e below F (T11.setTop (mkF m 63 #[.val (.int p1), .val (.int p2), .val (.int p3), .val (.int p4), .val (.int p5), .val (.int z1), .val (.int z4), .val (.ref a7), .val (.ref a9), .val (.long (own_key p1 p2)), .second, .unset, .unset] [(.int z4), (.int z1)]))
      obtain ⟨_, _, ⟨T12, L12, k12, n12⟩, -, X12, ⟨Lc12, hQ12, l12, y12, z12⟩, st12⟩ := Jvm.LawKit.callS X11 hx (y := (⟨"com/example/greater_than/greaterthan/sql/VersionIsLaterThanPinLaw", "key", "(II)J"⟩ : MethodName)) hown (mvT hZ (own_g hw 18 rfl)) (mvT hZ (own_g hw 19 rfl)) (mvT hZ (own_g hw 20 rfl)) (mvT hZ (own_g hw 21 rfl)) (by decide) (backOf (W := 0) (rm4 l Z a0 hw [] z1 z4 T10.heap n0 Z10) hZ (own_g hw 21 rfl) (own_g hw 20 rfl) (by decide) (by decide)) (g := (mkF m 63 #[.val (.int p1), .val (.int p2), .val (.int p3), .val (.int p4), .val (.int p5), .val (.int z1), .val (.int z4), .val (.ref a7), .val (.ref a9), .val (.long (own_key p1 p2)), .second, .unset, .unset] [(.int z4), (.int z1)])) rfl (by rw [hml]; rfl) (argsL := [(.int z1), (.int z4)]) (rest := []) (lenOf pd__28II_29J rfl) rfl (by show 2 * 0 + _ ≤ _; exact Nat.le_of_eq rfl) (hb hby at_63) (fun _ _ => ⟨rfl, eq11, (by decide : 2 + 0 ≤ _), (by decide : 4 + 0 ≤ _)⟩)
      dsimp only [Pt.U, Pt.locs, Pt.cells, Pt.slots] at X12 l12 y12 z12 st12 hQ12
      subst l12 y12 z12
      obtain ⟨rfl, Nq12, eq12⟩ := hQ12
      have N12 := Fr.app N11 Nq12
      refine own_step st12 ?_
      show own_Ends p e below F (T12.setTop (mkF m 66 #[.val (.int p1), .val (.int p2), .val (.int p3), .val (.int p4), .val (.int p5), .val (.int z1), .val (.int z4), .val (.ref a7), .val (.ref a9), .val (.long (own_key p1 p2)), .second, .unset, .unset] [(.long (own_key z1 z4))]))
      refine own_step (fun _ k => XS.lstore X12.here hx rfl (hb hby at_66) rfl (l' := #[.val (.int p1), .val (.int p2), .val (.int p3), .val (.int p4), .val (.int p5), .val (.int z1), .val (.int z4), .val (.ref a7), .val (.ref a9), .val (.long (own_key p1 p2)), .second, .val (.long (own_key z1 z4)), .second]) rfl k) ?_
      show own_Ends p e below F (T12.setTop (mkF m 68 #[.val (.int p1), .val (.int p2), .val (.int p3), .val (.int p4), .val (.int p5), .val (.int z1), .val (.int z4), .val (.ref a7), .val (.ref a9), .val (.long (own_key p1 p2)), .second, .val (.long (own_key z1 z4)), .second] []))
      refine own_step (fun _ k => XS.aload X12.here hx rfl (hb hby at_68) rfl rfl k) ?_
      show own_Ends p e below F (T12.setTop (mkF m 70 #[.val (.int p1), .val (.int p2), .val (.int p3), .val (.int p4), .val (.int p5), .val (.int z1), .val (.int z4), .val (.ref a7), .val (.ref a9), .val (.long (own_key p1 p2)), .second, .val (.long (own_key z1 z4)), .second] [(.ref a7)]))
      refine own_step (fun _ k => XS.aload X12.here hx rfl (hb hby at_70) rfl rfl k) ?_
      show own_Ends p e below F (T12.setTop (mkF m 72 #[.val (.int p1), .val (.int p2), .val (.int p3), .val (.int p4), .val (.int p5), .val (.int z1), .val (.int z4), .val (.ref a7), .val (.ref a9), .val (.long (own_key p1 p2)), .second, .val (.long (own_key z1 z4)), .second] [(.ref a9), (.ref a7)]))
      obtain ⟨cq13, kq13, qa13, qb13, qc13⟩ := isOf hZ eq12 ((fq0_8.ext E9).keep Kq10)
      obtain ⟨_, _, ⟨T13, L13, k13, n13⟩, -, X13, ⟨Lc13, hQ13, l13, y13, z13⟩, st13⟩ := X12.virtualBack hx (y := (⟨"com/example/greater_than/greaterthan/sql/Dialect$Version", "isLaterThan", "(Lcom/example/greater_than/greaterthan/sql/Dialect$Version;)Z"⟩ : MethodName)) (z := (⟨"com/example/greater_than/greaterthan/sql/Dialect$Version", "isLaterThan", "(Lcom/example/greater_than/greaterthan/sql/Dialect$Version;)Z"⟩ : MethodName)) hown (mvT hZ (own_g hw 23 rfl)) (mvT hZ (own_g hw 24 rfl)) (notFace_of_selects (args := #[]) (mvT hZ (own_g hw 26 rfl))) (mvT hZ (own_g hw 26 rfl)) (mvT hZ (own_g hw 25 rfl)) (by decide) (backOf (W := 0) (rm5 l Z a0 hw [] a7 a9 p1 p2 z1 z4 T10.heap n0 Z10 ((fq1_8.ext E9).keep Kq10 (ninS ne_a7_a9 nin0)) ((fq2_8.ext E9).keep Kq10 (ninS ne_a7_a9 nin0)) fq1_10 fq2_10) hZ (own_g hw 27 rfl) (own_g hw 2 rfl) (by decide) (by decide)) qa13 qc13 (g := (mkF m 72 #[.val (.int p1), .val (.int p2), .val (.int p3), .val (.int p4), .val (.int p5), .val (.int z1), .val (.int z4), .val (.ref a7), .val (.ref a9), .val (.long (own_key p1 p2)), .second, .val (.long (own_key z1 z4)), .second] [(.ref a9), (.ref a7)])) rfl (by rw [hml]; rfl) (Steps.refl _) (argsL := [(.ref a9)]) (rest := []) (lenOf pd__28Lcom_2fexample_2fgreater_than_2fgreaterthan_2fsql_2fDialect_24Version_3b_29Z rfl) rfl (by show 2 * 0 + _ ≤ _; exact Nat.le_of_eq rfl) (hb hby at_72) (fun _ _ => ⟨rfl, eq12, (by decide : 2 + 0 ≤ _), (by decide : 4 + 0 ≤ _)⟩)
      dsimp only [Pt.U, Pt.locs, Pt.cells, Pt.slots] at X13 l13 y13 z13 st13 hQ13
      subst l13 y13 z13
      obtain ⟨rfl, Nq13, eq13⟩ := hQ13
      have N13 := Fr.app N12 Nq13
      refine own_trans st13 ?_
      show own_Ends p e below F (T13.setTop (mkF m 75 #[.val (.int p1), .val (.int p2), .val (.int p3), .val (.int p4), .val (.int p5), .val (.int z1), .val (.int z4), .val (.ref a7), .val (.ref a9), .val (.long (own_key p1 p2)), .second, .val (.long (own_key z1 z4)), .second] [(.int (own_later p1 p2 z1 z4))]))
      refine own_step (fun _ k => XS.lload X13.here hx rfl (hb hby at_75) rfl k) ?_
      show own_Ends p e below F (T13.setTop (mkF m 77 #[.val (.int p1), .val (.int p2), .val (.int p3), .val (.int p4), .val (.int p5), .val (.int z1), .val (.int z4), .val (.ref a7), .val (.ref a9), .val (.long (own_key p1 p2)), .second, .val (.long (own_key z1 z4)), .second] [(.long (own_key p1 p2)), (.int (own_later p1 p2 z1 z4))]))
      refine own_step (fun _ k => XS.lload X13.here hx rfl (hb hby at_77) rfl k) ?_
      show own_Ends p e below F (T13.setTop (mkF m 79 #[.val (.int p1), .val (.int p2), .val (.int p3), .val (.int p4), .val (.int p5), .val (.int z1), .val (.int z4), .val (.ref a7), .val (.ref a9), .val (.long (own_key p1 p2)), .second, .val (.long (own_key z1 z4)), .second] [(.long (own_key z1 z4)), (.long (own_key p1 p2)), (.int (own_later p1 p2 z1 z4))]))
      refine own_step (fun _ k => XS.lcmp X13.here hx rfl (hb hby at_79) rfl k) ?_
      show own_Ends p e below F (T13.setTop (mkF m 80 #[.val (.int p1), .val (.int p2), .val (.int p3), .val (.int p4), .val (.int p5), .val (.int z1), .val (.int z4), .val (.ref a7), .val (.ref a9), .val (.long (own_key p1 p2)), .second, .val (.long (own_key z1 z4)), .second] [(.int (lcmpW (own_key p1 p2) (own_key z1 z4))), (.int (own_later p1 p2 z1 z4))]))
      by_cases c80_14 : (own_key z1 z4) < (own_key p1 p2)
      · refine own_step (fun _ k => XS.ifNo X13.here hx rfl (hb hby at_80) rfl ((if0 _ _).trans (tlt ((lw_gt _ _).mpr c80_14)).2.2.2) k) ?_
        show own_Ends p e below F (T13.setTop (mkF m 83 #[.val (.int p1), .val (.int p2), .val (.int p3), .val (.int p4), .val (.int p5), .val (.int z1), .val (.int z4), .val (.ref a7), .val (.ref a9), .val (.long (own_key p1 p2)), .second, .val (.long (own_key z1 z4)), .second] [(.int (own_later p1 p2 z1 z4))]))
        refine own_step (fun _ k => XS.iconst X13.here hx rfl (hb hby at_83) k) ?_
        show own_Ends p e below F (T13.setTop (mkF m 84 #[.val (.int p1), .val (.int p2), .val (.int p3), .val (.int p4), .val (.int p5), .val (.int z1), .val (.int z4), .val (.ref a7), .val (.ref a9), .val (.long (own_key p1 p2)), .second, .val (.long (own_key z1 z4)), .second] [(.int (1 : Int32)), (.int (own_later p1 p2 z1 z4))]))
        refine own_step (fun _ k => XS.goto X13.here hx rfl (pc0 := 84) (pc' := 88) rfl (hb hby at_84) (by decide) (by decide) k) ?_
        show own_Ends p e below F (T13.setTop (mkF m 88 #[.val (.int p1), .val (.int p2), .val (.int p3), .val (.int p4), .val (.int p5), .val (.int z1), .val (.int z4), .val (.ref a7), .val (.ref a9), .val (.long (own_key p1 p2)), .second, .val (.long (own_key z1 z4)), .second] [(.int (1 : Int32)), (.int (own_later p1 p2 z1 z4))]))
        refine own_step (fun _ k => XS.icmpNo X13.here hx rfl (hb hby at_88) rfl (teq (own_lt _ _ _ _ c80_14 : (own_later p1 p2 z1 z4) = (1 : Int32))).2 k) ?_
        show own_Ends p e below F (T13.setTop (mkF m 91 #[.val (.int p1), .val (.int p2), .val (.int p3), .val (.int p4), .val (.int p5), .val (.int z1), .val (.int z4), .val (.ref a7), .val (.ref a9), .val (.long (own_key p1 p2)), .second, .val (.long (own_key z1 z4)), .second] []))
        refine own_step (fun _ k => XS.aload X13.here hx rfl (hb hby at_91) rfl rfl k) ?_
        show own_Ends p e below F (T13.setTop (mkF m 93 #[.val (.int p1), .val (.int p2), .val (.int p3), .val (.int p4), .val (.int p5), .val (.int z1), .val (.int z4), .val (.ref a7), .val (.ref a9), .val (.long (own_key p1 p2)), .second, .val (.long (own_key z1 z4)), .second] [(.ref a9)]))
        refine own_step (fun _ k => XS.aload X13.here hx rfl (hb hby at_93) rfl rfl k) ?_
        show own_Ends p e below F (T13.setTop (mkF m 95 #[.val (.int p1), .val (.int p2), .val (.int p3), .val (.int p4), .val (.int p5), .val (.int z1), .val (.int z4), .val (.ref a7), .val (.ref a9), .val (.long (own_key p1 p2)), .second, .val (.long (own_key z1 z4)), .second] [(.ref a7), (.ref a9)]))
        obtain ⟨cq15, kq15, qa15, qb15, qc15⟩ := isOf hZ eq13 fq0_10
        obtain ⟨_, _, ⟨T15, L15, k15, n15⟩, -, X15, ⟨Lc15, hQ15, l15, y15, z15⟩, st15⟩ := X13.virtualBack hx (y := (⟨"com/example/greater_than/greaterthan/sql/Dialect$Version", "isLaterThan", "(Lcom/example/greater_than/greaterthan/sql/Dialect$Version;)Z"⟩ : MethodName)) (z := (⟨"com/example/greater_than/greaterthan/sql/Dialect$Version", "isLaterThan", "(Lcom/example/greater_than/greaterthan/sql/Dialect$Version;)Z"⟩ : MethodName)) hown (mvT hZ (own_g hw 23 rfl)) (mvT hZ (own_g hw 24 rfl)) (notFace_of_selects (args := #[]) (mvT hZ (own_g hw 26 rfl))) (mvT hZ (own_g hw 26 rfl)) (mvT hZ (own_g hw 25 rfl)) (by decide) (backOf (W := 0) (rm5 l Z a0 hw [] a9 a7 z1 z4 p1 p2 T10.heap n0 Z10 fq1_10 fq2_10 ((fq1_8.ext E9).keep Kq10 (ninS ne_a7_a9 nin0)) ((fq2_8.ext E9).keep Kq10 (ninS ne_a7_a9 nin0))) hZ (own_g hw 27 rfl) (own_g hw 2 rfl) (by decide) (by decide)) qa15 qc15 (g := (mkF m 95 #[.val (.int p1), .val (.int p2), .val (.int p3), .val (.int p4), .val (.int p5), .val (.int z1), .val (.int z4), .val (.ref a7), .val (.ref a9), .val (.long (own_key p1 p2)), .second, .val (.long (own_key z1 z4)), .second] [(.ref a7), (.ref a9)])) rfl (by rw [hml]; rfl) (Steps.refl _) (argsL := [(.ref a7)]) (rest := []) (lenOf pd__28Lcom_2fexample_2fgreater_than_2fgreaterthan_2fsql_2fDialect_24Version_3b_29Z rfl) rfl (by show 2 * 0 + _ ≤ _; exact Nat.le_of_eq rfl) (hb hby at_95) (fun _ _ => ⟨rfl, eq13, (by decide : 2 + 0 ≤ _), (by decide : 4 + 0 ≤ _)⟩)
        dsimp only [Pt.U, Pt.locs, Pt.cells, Pt.slots] at X15 l15 y15 z15 st15 hQ15
        subst l15 y15 z15
        obtain ⟨rfl, Nq15, eq15⟩ := hQ15
        have N15 := Fr.app N13 Nq15
        refine own_trans st15 ?_
        show own_Ends p e below F (T15.setTop (mkF m 98 #[.val (.int p1), .val (.int p2), .val (.int p3), .val (.int p4), .val (.int p5), .val (.int z1), .val (.int z4), .val (.ref a7), .val (.ref a9), .val (.long (own_key p1 p2)), .second, .val (.long (own_key z1 z4)), .second] [(.int (own_later z1 z4 p1 p2))]))
        refine own_step (fun _ k => XS.lload X15.here hx rfl (hb hby at_98) rfl k) ?_
        show own_Ends p e below F (T15.setTop (mkF m 100 #[.val (.int p1), .val (.int p2), .val (.int p3), .val (.int p4), .val (.int p5), .val (.int z1), .val (.int z4), .val (.ref a7), .val (.ref a9), .val (.long (own_key p1 p2)), .second, .val (.long (own_key z1 z4)), .second] [(.long (own_key z1 z4)), (.int (own_later z1 z4 p1 p2))]))
        refine own_step (fun _ k => XS.lload X15.here hx rfl (hb hby at_100) rfl k) ?_
        show own_Ends p e below F (T15.setTop (mkF m 102 #[.val (.int p1), .val (.int p2), .val (.int p3), .val (.int p4), .val (.int p5), .val (.int z1), .val (.int z4), .val (.ref a7), .val (.ref a9), .val (.long (own_key p1 p2)), .second, .val (.long (own_key z1 z4)), .second] [(.long (own_key p1 p2)), (.long (own_key z1 z4)), (.int (own_later z1 z4 p1 p2))]))
        refine own_step (fun _ k => XS.lcmp X15.here hx rfl (hb hby at_102) rfl k) ?_
        show own_Ends p e below F (T15.setTop (mkF m 103 #[.val (.int p1), .val (.int p2), .val (.int p3), .val (.int p4), .val (.int p5), .val (.int z1), .val (.int z4), .val (.ref a7), .val (.ref a9), .val (.long (own_key p1 p2)), .second, .val (.long (own_key z1 z4)), .second] [(.int (lcmpW (own_key z1 z4) (own_key p1 p2))), (.int (own_later z1 z4 p1 p2))]))
        by_cases c103_16 : (own_key p1 p2) < (own_key z1 z4)
        · refine own_step (fun _ k => XS.ifNo X15.here hx rfl (hb hby at_103) rfl ((if0 _ _).trans (tlt ((lw_gt _ _).mpr c103_16)).2.2.2) k) ?_
          show own_Ends p e below F (T15.setTop (mkF m 106 #[.val (.int p1), .val (.int p2), .val (.int p3), .val (.int p4), .val (.int p5), .val (.int z1), .val (.int z4), .val (.ref a7), .val (.ref a9), .val (.long (own_key p1 p2)), .second, .val (.long (own_key z1 z4)), .second] [(.int (own_later z1 z4 p1 p2))]))
          refine own_step (fun _ k => XS.iconst X15.here hx rfl (hb hby at_106) k) ?_
          show own_Ends p e below F (T15.setTop (mkF m 107 #[.val (.int p1), .val (.int p2), .val (.int p3), .val (.int p4), .val (.int p5), .val (.int z1), .val (.int z4), .val (.ref a7), .val (.ref a9), .val (.long (own_key p1 p2)), .second, .val (.long (own_key z1 z4)), .second] [(.int (1 : Int32)), (.int (own_later z1 z4 p1 p2))]))
          refine own_step (fun _ k => XS.goto X15.here hx rfl (pc0 := 107) (pc' := 111) rfl (hb hby at_107) (by decide) (by decide) k) ?_
          show own_Ends p e below F (T15.setTop (mkF m 111 #[.val (.int p1), .val (.int p2), .val (.int p3), .val (.int p4), .val (.int p5), .val (.int z1), .val (.int z4), .val (.ref a7), .val (.ref a9), .val (.long (own_key p1 p2)), .second, .val (.long (own_key z1 z4)), .second] [(.int (1 : Int32)), (.int (own_later z1 z4 p1 p2))]))
          refine own_step (fun _ k => XS.icmpNo X15.here hx rfl (hb hby at_111) rfl (teq (own_lt _ _ _ _ c103_16 : (own_later z1 z4 p1 p2) = (1 : Int32))).2 k) ?_
          show own_Ends p e below F (T15.setTop (mkF m 114 #[.val (.int p1), .val (.int p2), .val (.int p3), .val (.int p4), .val (.int p5), .val (.int z1), .val (.int z4), .val (.ref a7), .val (.ref a9), .val (.long (own_key p1 p2)), .second, .val (.long (own_key z1 z4)), .second] []))
          refine own_step (fun _ k => XS.aload X15.here hx rfl (hb hby at_114) rfl rfl k) ?_
          show own_Ends p e below F (T15.setTop (mkF m 116 #[.val (.int p1), .val (.int p2), .val (.int p3), .val (.int p4), .val (.int p5), .val (.int z1), .val (.int z4), .val (.ref a7), .val (.ref a9), .val (.long (own_key p1 p2)), .second, .val (.long (own_key z1 z4)), .second] [(.ref a7)]))
          refine own_step (fun _ k => XS.aload X15.here hx rfl (hb hby at_116) rfl rfl k) ?_
          show own_Ends p e below F (T15.setTop (mkF m 118 #[.val (.int p1), .val (.int p2), .val (.int p3), .val (.int p4), .val (.int p5), .val (.int z1), .val (.int z4), .val (.ref a7), .val (.ref a9), .val (.long (own_key p1 p2)), .second, .val (.long (own_key z1 z4)), .second] [(.ref a7), (.ref a7)]))
          obtain ⟨cq17, kq17, qa17, qb17, qc17⟩ := isOf hZ eq15 ((fq0_8.ext E9).keep Kq10)
          obtain ⟨_, _, ⟨T17, L17, k17, n17⟩, -, X17, ⟨Lc17, hQ17, l17, y17, z17⟩, st17⟩ := X15.virtualBack hx (y := (⟨"com/example/greater_than/greaterthan/sql/Dialect$Version", "isLaterThan", "(Lcom/example/greater_than/greaterthan/sql/Dialect$Version;)Z"⟩ : MethodName)) (z := (⟨"com/example/greater_than/greaterthan/sql/Dialect$Version", "isLaterThan", "(Lcom/example/greater_than/greaterthan/sql/Dialect$Version;)Z"⟩ : MethodName)) hown (mvT hZ (own_g hw 23 rfl)) (mvT hZ (own_g hw 24 rfl)) (notFace_of_selects (args := #[]) (mvT hZ (own_g hw 26 rfl))) (mvT hZ (own_g hw 26 rfl)) (mvT hZ (own_g hw 25 rfl)) (by decide) (backOf (W := 0) (rm5 l Z a0 hw [] a7 a7 p1 p2 p1 p2 T10.heap n0 Z10 ((fq1_8.ext E9).keep Kq10 (ninS ne_a7_a9 nin0)) ((fq2_8.ext E9).keep Kq10 (ninS ne_a7_a9 nin0)) ((fq1_8.ext E9).keep Kq10 (ninS ne_a7_a9 nin0)) ((fq2_8.ext E9).keep Kq10 (ninS ne_a7_a9 nin0))) hZ (own_g hw 27 rfl) (own_g hw 2 rfl) (by decide) (by decide)) qa17 qc17 (g := (mkF m 118 #[.val (.int p1), .val (.int p2), .val (.int p3), .val (.int p4), .val (.int p5), .val (.int z1), .val (.int z4), .val (.ref a7), .val (.ref a9), .val (.long (own_key p1 p2)), .second, .val (.long (own_key z1 z4)), .second] [(.ref a7), (.ref a7)])) rfl (by rw [hml]; rfl) (Steps.refl _) (argsL := [(.ref a7)]) (rest := []) (lenOf pd__28Lcom_2fexample_2fgreater_than_2fgreaterthan_2fsql_2fDialect_24Version_3b_29Z rfl) rfl (by show 2 * 0 + _ ≤ _; exact Nat.le_of_eq rfl) (hb hby at_118) (fun _ _ => ⟨rfl, eq15, (by decide : 2 + 0 ≤ _), (by decide : 4 + 0 ≤ _)⟩)
          dsimp only [Pt.U, Pt.locs, Pt.cells, Pt.slots] at X17 l17 y17 z17 st17 hQ17
          subst l17 y17 z17
          obtain ⟨rfl, Nq17, eq17⟩ := hQ17
          have N17 := Fr.app N15 Nq17
          refine own_trans st17 ?_
          show own_Ends p e below F (T17.setTop (mkF m 121 #[.val (.int p1), .val (.int p2), .val (.int p3), .val (.int p4), .val (.int p5), .val (.int z1), .val (.int z4), .val (.ref a7), .val (.ref a9), .val (.long (own_key p1 p2)), .second, .val (.long (own_key z1 z4)), .second] [(.int (own_later p1 p2 p1 p2))]))
          refine own_step (fun _ k => XS.ifNo X17.here hx rfl (hb hby at_121) rfl ((if0 _ _).trans (teq (own_self _ _ : (own_later p1 p2 p1 p2) = (0 : Int32))).2) k) ?_
          show own_Ends p e below F (T17.setTop (mkF m 124 #[.val (.int p1), .val (.int p2), .val (.int p3), .val (.int p4), .val (.int p5), .val (.int z1), .val (.int z4), .val (.ref a7), .val (.ref a9), .val (.long (own_key p1 p2)), .second, .val (.long (own_key z1 z4)), .second] []))
          refine own_step (fun _ k => XS.iconst X17.here hx rfl (hb hby at_124) k) ?_
          show own_Ends p e below F (T17.setTop (mkF m 125 #[.val (.int p1), .val (.int p2), .val (.int p3), .val (.int p4), .val (.int p5), .val (.int z1), .val (.int z4), .val (.ref a7), .val (.ref a9), .val (.long (own_key p1 p2)), .second, .val (.long (own_key z1 z4)), .second] [(.int (1 : Int32))]))
          refine own_step (fun _ k => XS.goto X17.here hx rfl (pc0 := 125) (pc' := 129) rfl (hb hby at_125) (by decide) (by decide) k) ?_
          show own_Ends p e below F (T17.setTop (mkF m 129 #[.val (.int p1), .val (.int p2), .val (.int p3), .val (.int p4), .val (.int p5), .val (.int z1), .val (.int z4), .val (.ref a7), .val (.ref a9), .val (.long (own_key p1 p2)), .second, .val (.long (own_key z1 z4)), .second] [(.int (1 : Int32))]))
          rw [hF]
          exact own_ret X17 (v := (some (.int (nar .boolean (1 : Int32))))) (fun h => by rw [Bd.returns] at h; cases h) Bd.notSynchronized (fun fs hr => retN X17 hx (t := .boolean) Bd.returns (by simp) (hb hby at_129) hr) (by decide) (by decide) (by rw [eq17]; exact ⟨rfl, N17⟩)
        · refine own_step (fun _ k => XS.ifYes X15.here hx rfl (pc0 := 103) (pc' := 110) rfl (hb hby at_103) rfl ((if0 _ _).trans (flt (fun q => c103_16 ((lw_gt _ _).mp q))).2.2.2) (by decide) (by decide) k) ?_
          show own_Ends p e below F (T15.setTop (mkF m 110 #[.val (.int p1), .val (.int p2), .val (.int p3), .val (.int p4), .val (.int p5), .val (.int z1), .val (.int z4), .val (.ref a7), .val (.ref a9), .val (.long (own_key p1 p2)), .second, .val (.long (own_key z1 z4)), .second] [(.int (own_later z1 z4 p1 p2))]))
          refine own_step (fun _ k => XS.iconst X15.here hx rfl (hb hby at_110) k) ?_
          show own_Ends p e below F (T15.setTop (mkF m 111 #[.val (.int p1), .val (.int p2), .val (.int p3), .val (.int p4), .val (.int p5), .val (.int z1), .val (.int z4), .val (.ref a7), .val (.ref a9), .val (.long (own_key p1 p2)), .second, .val (.long (own_key z1 z4)), .second] [(.int (0 : Int32)), (.int (own_later z1 z4 p1 p2))]))
          refine own_step (fun _ k => XS.icmpNo X15.here hx rfl (hb hby at_111) rfl (teq (own_nlt _ _ _ _ c103_16 : (own_later z1 z4 p1 p2) = (0 : Int32))).2 k) ?_
          show own_Ends p e below F (T15.setTop (mkF m 114 #[.val (.int p1), .val (.int p2), .val (.int p3), .val (.int p4), .val (.int p5), .val (.int z1), .val (.int z4), .val (.ref a7), .val (.ref a9), .val (.long (own_key p1 p2)), .second, .val (.long (own_key z1 z4)), .second] []))
          refine own_step (fun _ k => XS.aload X15.here hx rfl (hb hby at_114) rfl rfl k) ?_
          show own_Ends p e below F (T15.setTop (mkF m 116 #[.val (.int p1), .val (.int p2), .val (.int p3), .val (.int p4), .val (.int p5), .val (.int z1), .val (.int z4), .val (.ref a7), .val (.ref a9), .val (.long (own_key p1 p2)), .second, .val (.long (own_key z1 z4)), .second] [(.ref a7)]))
          refine own_step (fun _ k => XS.aload X15.here hx rfl (hb hby at_116) rfl rfl k) ?_
          show own_Ends p e below F (T15.setTop (mkF m 118 #[.val (.int p1), .val (.int p2), .val (.int p3), .val (.int p4), .val (.int p5), .val (.int z1), .val (.int z4), .val (.ref a7), .val (.ref a9), .val (.long (own_key p1 p2)), .second, .val (.long (own_key z1 z4)), .second] [(.ref a7), (.ref a7)]))
          obtain ⟨cq18, kq18, qa18, qb18, qc18⟩ := isOf hZ eq15 ((fq0_8.ext E9).keep Kq10)
          obtain ⟨_, _, ⟨T18, L18, k18, n18⟩, -, X18, ⟨Lc18, hQ18, l18, y18, z18⟩, st18⟩ := X15.virtualBack hx (y := (⟨"com/example/greater_than/greaterthan/sql/Dialect$Version", "isLaterThan", "(Lcom/example/greater_than/greaterthan/sql/Dialect$Version;)Z"⟩ : MethodName)) (z := (⟨"com/example/greater_than/greaterthan/sql/Dialect$Version", "isLaterThan", "(Lcom/example/greater_than/greaterthan/sql/Dialect$Version;)Z"⟩ : MethodName)) hown (mvT hZ (own_g hw 23 rfl)) (mvT hZ (own_g hw 24 rfl)) (notFace_of_selects (args := #[]) (mvT hZ (own_g hw 26 rfl))) (mvT hZ (own_g hw 26 rfl)) (mvT hZ (own_g hw 25 rfl)) (by decide) (backOf (W := 0) (rm5 l Z a0 hw [] a7 a7 p1 p2 p1 p2 T10.heap n0 Z10 ((fq1_8.ext E9).keep Kq10 (ninS ne_a7_a9 nin0)) ((fq2_8.ext E9).keep Kq10 (ninS ne_a7_a9 nin0)) ((fq1_8.ext E9).keep Kq10 (ninS ne_a7_a9 nin0)) ((fq2_8.ext E9).keep Kq10 (ninS ne_a7_a9 nin0))) hZ (own_g hw 27 rfl) (own_g hw 2 rfl) (by decide) (by decide)) qa18 qc18 (g := (mkF m 118 #[.val (.int p1), .val (.int p2), .val (.int p3), .val (.int p4), .val (.int p5), .val (.int z1), .val (.int z4), .val (.ref a7), .val (.ref a9), .val (.long (own_key p1 p2)), .second, .val (.long (own_key z1 z4)), .second] [(.ref a7), (.ref a7)])) rfl (by rw [hml]; rfl) (Steps.refl _) (argsL := [(.ref a7)]) (rest := []) (lenOf pd__28Lcom_2fexample_2fgreater_than_2fgreaterthan_2fsql_2fDialect_24Version_3b_29Z rfl) rfl (by show 2 * 0 + _ ≤ _; exact Nat.le_of_eq rfl) (hb hby at_118) (fun _ _ => ⟨rfl, eq15, (by decide : 2 + 0 ≤ _), (by decide : 4 + 0 ≤ _)⟩)
          dsimp only [Pt.U, Pt.locs, Pt.cells, Pt.slots] at X18 l18 y18 z18 st18 hQ18
          subst l18 y18 z18
          obtain ⟨rfl, Nq18, eq18⟩ := hQ18
          have N18 := Fr.app N15 Nq18
          refine own_trans st18 ?_
          show own_Ends p e below F (T18.setTop (mkF m 121 #[.val (.int p1), .val (.int p2), .val (.int p3), .val (.int p4), .val (.int p5), .val (.int z1), .val (.int z4), .val (.ref a7), .val (.ref a9), .val (.long (own_key p1 p2)), .second, .val (.long (own_key z1 z4)), .second] [(.int (own_later p1 p2 p1 p2))]))
          refine own_step (fun _ k => XS.ifNo X18.here hx rfl (hb hby at_121) rfl ((if0 _ _).trans (teq (own_self _ _ : (own_later p1 p2 p1 p2) = (0 : Int32))).2) k) ?_
          show own_Ends p e below F (T18.setTop (mkF m 124 #[.val (.int p1), .val (.int p2), .val (.int p3), .val (.int p4), .val (.int p5), .val (.int z1), .val (.int z4), .val (.ref a7), .val (.ref a9), .val (.long (own_key p1 p2)), .second, .val (.long (own_key z1 z4)), .second] []))
          refine own_step (fun _ k => XS.iconst X18.here hx rfl (hb hby at_124) k) ?_
          show own_Ends p e below F (T18.setTop (mkF m 125 #[.val (.int p1), .val (.int p2), .val (.int p3), .val (.int p4), .val (.int p5), .val (.int z1), .val (.int z4), .val (.ref a7), .val (.ref a9), .val (.long (own_key p1 p2)), .second, .val (.long (own_key z1 z4)), .second] [(.int (1 : Int32))]))
          refine own_step (fun _ k => XS.goto X18.here hx rfl (pc0 := 125) (pc' := 129) rfl (hb hby at_125) (by decide) (by decide) k) ?_
          show own_Ends p e below F (T18.setTop (mkF m 129 #[.val (.int p1), .val (.int p2), .val (.int p3), .val (.int p4), .val (.int p5), .val (.int z1), .val (.int z4), .val (.ref a7), .val (.ref a9), .val (.long (own_key p1 p2)), .second, .val (.long (own_key z1 z4)), .second] [(.int (1 : Int32))]))
          rw [hF]
          exact own_ret X18 (v := (some (.int (nar .boolean (1 : Int32))))) (fun h => by rw [Bd.returns] at h; cases h) Bd.notSynchronized (fun fs hr => retN X18 hx (t := .boolean) Bd.returns (by simp) (hb hby at_129) hr) (by decide) (by decide) (by rw [eq18]; exact ⟨rfl, N18⟩)
      · refine own_step (fun _ k => XS.ifYes X13.here hx rfl (pc0 := 80) (pc' := 87) rfl (hb hby at_80) rfl ((if0 _ _).trans (flt (fun q => c80_14 ((lw_gt _ _).mp q))).2.2.2) (by decide) (by decide) k) ?_
        show own_Ends p e below F (T13.setTop (mkF m 87 #[.val (.int p1), .val (.int p2), .val (.int p3), .val (.int p4), .val (.int p5), .val (.int z1), .val (.int z4), .val (.ref a7), .val (.ref a9), .val (.long (own_key p1 p2)), .second, .val (.long (own_key z1 z4)), .second] [(.int (own_later p1 p2 z1 z4))]))
        refine own_step (fun _ k => XS.iconst X13.here hx rfl (hb hby at_87) k) ?_
        show own_Ends p e below F (T13.setTop (mkF m 88 #[.val (.int p1), .val (.int p2), .val (.int p3), .val (.int p4), .val (.int p5), .val (.int z1), .val (.int z4), .val (.ref a7), .val (.ref a9), .val (.long (own_key p1 p2)), .second, .val (.long (own_key z1 z4)), .second] [(.int (0 : Int32)), (.int (own_later p1 p2 z1 z4))]))
        refine own_step (fun _ k => XS.icmpNo X13.here hx rfl (hb hby at_88) rfl (teq (own_nlt _ _ _ _ c80_14 : (own_later p1 p2 z1 z4) = (0 : Int32))).2 k) ?_
        show own_Ends p e below F (T13.setTop (mkF m 91 #[.val (.int p1), .val (.int p2), .val (.int p3), .val (.int p4), .val (.int p5), .val (.int z1), .val (.int z4), .val (.ref a7), .val (.ref a9), .val (.long (own_key p1 p2)), .second, .val (.long (own_key z1 z4)), .second] []))
        refine own_step (fun _ k => XS.aload X13.here hx rfl (hb hby at_91) rfl rfl k) ?_
        show own_Ends p e below F (T13.setTop (mkF m 93 #[.val (.int p1), .val (.int p2), .val (.int p3), .val (.int p4), .val (.int p5), .val (.int z1), .val (.int z4), .val (.ref a7), .val (.ref a9), .val (.long (own_key p1 p2)), .second, .val (.long (own_key z1 z4)), .second] [(.ref a9)]))
        refine own_step (fun _ k => XS.aload X13.here hx rfl (hb hby at_93) rfl rfl k) ?_
        show own_Ends p e below F (T13.setTop (mkF m 95 #[.val (.int p1), .val (.int p2), .val (.int p3), .val (.int p4), .val (.int p5), .val (.int z1), .val (.int z4), .val (.ref a7), .val (.ref a9), .val (.long (own_key p1 p2)), .second, .val (.long (own_key z1 z4)), .second] [(.ref a7), (.ref a9)]))
        obtain ⟨cq19, kq19, qa19, qb19, qc19⟩ := isOf hZ eq13 fq0_10
        obtain ⟨_, _, ⟨T19, L19, k19, n19⟩, -, X19, ⟨Lc19, hQ19, l19, y19, z19⟩, st19⟩ := X13.virtualBack hx (y := (⟨"com/example/greater_than/greaterthan/sql/Dialect$Version", "isLaterThan", "(Lcom/example/greater_than/greaterthan/sql/Dialect$Version;)Z"⟩ : MethodName)) (z := (⟨"com/example/greater_than/greaterthan/sql/Dialect$Version", "isLaterThan", "(Lcom/example/greater_than/greaterthan/sql/Dialect$Version;)Z"⟩ : MethodName)) hown (mvT hZ (own_g hw 23 rfl)) (mvT hZ (own_g hw 24 rfl)) (notFace_of_selects (args := #[]) (mvT hZ (own_g hw 26 rfl))) (mvT hZ (own_g hw 26 rfl)) (mvT hZ (own_g hw 25 rfl)) (by decide) (backOf (W := 0) (rm5 l Z a0 hw [] a9 a7 z1 z4 p1 p2 T10.heap n0 Z10 fq1_10 fq2_10 ((fq1_8.ext E9).keep Kq10 (ninS ne_a7_a9 nin0)) ((fq2_8.ext E9).keep Kq10 (ninS ne_a7_a9 nin0))) hZ (own_g hw 27 rfl) (own_g hw 2 rfl) (by decide) (by decide)) qa19 qc19 (g := (mkF m 95 #[.val (.int p1), .val (.int p2), .val (.int p3), .val (.int p4), .val (.int p5), .val (.int z1), .val (.int z4), .val (.ref a7), .val (.ref a9), .val (.long (own_key p1 p2)), .second, .val (.long (own_key z1 z4)), .second] [(.ref a7), (.ref a9)])) rfl (by rw [hml]; rfl) (Steps.refl _) (argsL := [(.ref a7)]) (rest := []) (lenOf pd__28Lcom_2fexample_2fgreater_than_2fgreaterthan_2fsql_2fDialect_24Version_3b_29Z rfl) rfl (by show 2 * 0 + _ ≤ _; exact Nat.le_of_eq rfl) (hb hby at_95) (fun _ _ => ⟨rfl, eq13, (by decide : 2 + 0 ≤ _), (by decide : 4 + 0 ≤ _)⟩)
        dsimp only [Pt.U, Pt.locs, Pt.cells, Pt.slots] at X19 l19 y19 z19 st19 hQ19
        subst l19 y19 z19
        obtain ⟨rfl, Nq19, eq19⟩ := hQ19
        have N19 := Fr.app N13 Nq19
        refine own_trans st19 ?_
        show own_Ends p e below F (T19.setTop (mkF m 98 #[.val (.int p1), .val (.int p2), .val (.int p3), .val (.int p4), .val (.int p5), .val (.int z1), .val (.int z4), .val (.ref a7), .val (.ref a9), .val (.long (own_key p1 p2)), .second, .val (.long (own_key z1 z4)), .second] [(.int (own_later z1 z4 p1 p2))]))
        refine own_step (fun _ k => XS.lload X19.here hx rfl (hb hby at_98) rfl k) ?_
        show own_Ends p e below F (T19.setTop (mkF m 100 #[.val (.int p1), .val (.int p2), .val (.int p3), .val (.int p4), .val (.int p5), .val (.int z1), .val (.int z4), .val (.ref a7), .val (.ref a9), .val (.long (own_key p1 p2)), .second, .val (.long (own_key z1 z4)), .second] [(.long (own_key z1 z4)), (.int (own_later z1 z4 p1 p2))]))
        refine own_step (fun _ k => XS.lload X19.here hx rfl (hb hby at_100) rfl k) ?_
        show own_Ends p e below F (T19.setTop (mkF m 102 #[.val (.int p1), .val (.int p2), .val (.int p3), .val (.int p4), .val (.int p5), .val (.int z1), .val (.int z4), .val (.ref a7), .val (.ref a9), .val (.long (own_key p1 p2)), .second, .val (.long (own_key z1 z4)), .second] [(.long (own_key p1 p2)), (.long (own_key z1 z4)), (.int (own_later z1 z4 p1 p2))]))
        refine own_step (fun _ k => XS.lcmp X19.here hx rfl (hb hby at_102) rfl k) ?_
        show own_Ends p e below F (T19.setTop (mkF m 103 #[.val (.int p1), .val (.int p2), .val (.int p3), .val (.int p4), .val (.int p5), .val (.int z1), .val (.int z4), .val (.ref a7), .val (.ref a9), .val (.long (own_key p1 p2)), .second, .val (.long (own_key z1 z4)), .second] [(.int (lcmpW (own_key z1 z4) (own_key p1 p2))), (.int (own_later z1 z4 p1 p2))]))
        by_cases c103_20 : (own_key p1 p2) < (own_key z1 z4)
        · refine own_step (fun _ k => XS.ifNo X19.here hx rfl (hb hby at_103) rfl ((if0 _ _).trans (tlt ((lw_gt _ _).mpr c103_20)).2.2.2) k) ?_
          show own_Ends p e below F (T19.setTop (mkF m 106 #[.val (.int p1), .val (.int p2), .val (.int p3), .val (.int p4), .val (.int p5), .val (.int z1), .val (.int z4), .val (.ref a7), .val (.ref a9), .val (.long (own_key p1 p2)), .second, .val (.long (own_key z1 z4)), .second] [(.int (own_later z1 z4 p1 p2))]))
          refine own_step (fun _ k => XS.iconst X19.here hx rfl (hb hby at_106) k) ?_
          show own_Ends p e below F (T19.setTop (mkF m 107 #[.val (.int p1), .val (.int p2), .val (.int p3), .val (.int p4), .val (.int p5), .val (.int z1), .val (.int z4), .val (.ref a7), .val (.ref a9), .val (.long (own_key p1 p2)), .second, .val (.long (own_key z1 z4)), .second] [(.int (1 : Int32)), (.int (own_later z1 z4 p1 p2))]))
          refine own_step (fun _ k => XS.goto X19.here hx rfl (pc0 := 107) (pc' := 111) rfl (hb hby at_107) (by decide) (by decide) k) ?_
          show own_Ends p e below F (T19.setTop (mkF m 111 #[.val (.int p1), .val (.int p2), .val (.int p3), .val (.int p4), .val (.int p5), .val (.int z1), .val (.int z4), .val (.ref a7), .val (.ref a9), .val (.long (own_key p1 p2)), .second, .val (.long (own_key z1 z4)), .second] [(.int (1 : Int32)), (.int (own_later z1 z4 p1 p2))]))
          refine own_step (fun _ k => XS.icmpNo X19.here hx rfl (hb hby at_111) rfl (teq (own_lt _ _ _ _ c103_20 : (own_later z1 z4 p1 p2) = (1 : Int32))).2 k) ?_
          show own_Ends p e below F (T19.setTop (mkF m 114 #[.val (.int p1), .val (.int p2), .val (.int p3), .val (.int p4), .val (.int p5), .val (.int z1), .val (.int z4), .val (.ref a7), .val (.ref a9), .val (.long (own_key p1 p2)), .second, .val (.long (own_key z1 z4)), .second] []))
          refine own_step (fun _ k => XS.aload X19.here hx rfl (hb hby at_114) rfl rfl k) ?_
          show own_Ends p e below F (T19.setTop (mkF m 116 #[.val (.int p1), .val (.int p2), .val (.int p3), .val (.int p4), .val (.int p5), .val (.int z1), .val (.int z4), .val (.ref a7), .val (.ref a9), .val (.long (own_key p1 p2)), .second, .val (.long (own_key z1 z4)), .second] [(.ref a7)]))
          refine own_step (fun _ k => XS.aload X19.here hx rfl (hb hby at_116) rfl rfl k) ?_
          show own_Ends p e below F (T19.setTop (mkF m 118 #[.val (.int p1), .val (.int p2), .val (.int p3), .val (.int p4), .val (.int p5), .val (.int z1), .val (.int z4), .val (.ref a7), .val (.ref a9), .val (.long (own_key p1 p2)), .second, .val (.long (own_key z1 z4)), .second] [(.ref a7), (.ref a7)]))
          obtain ⟨cq21, kq21, qa21, qb21, qc21⟩ := isOf hZ eq19 ((fq0_8.ext E9).keep Kq10)
          obtain ⟨_, _, ⟨T21, L21, k21, n21⟩, -, X21, ⟨Lc21, hQ21, l21, y21, z21⟩, st21⟩ := X19.virtualBack hx (y := (⟨"com/example/greater_than/greaterthan/sql/Dialect$Version", "isLaterThan", "(Lcom/example/greater_than/greaterthan/sql/Dialect$Version;)Z"⟩ : MethodName)) (z := (⟨"com/example/greater_than/greaterthan/sql/Dialect$Version", "isLaterThan", "(Lcom/example/greater_than/greaterthan/sql/Dialect$Version;)Z"⟩ : MethodName)) hown (mvT hZ (own_g hw 23 rfl)) (mvT hZ (own_g hw 24 rfl)) (notFace_of_selects (args := #[]) (mvT hZ (own_g hw 26 rfl))) (mvT hZ (own_g hw 26 rfl)) (mvT hZ (own_g hw 25 rfl)) (by decide) (backOf (W := 0) (rm5 l Z a0 hw [] a7 a7 p1 p2 p1 p2 T10.heap n0 Z10 ((fq1_8.ext E9).keep Kq10 (ninS ne_a7_a9 nin0)) ((fq2_8.ext E9).keep Kq10 (ninS ne_a7_a9 nin0)) ((fq1_8.ext E9).keep Kq10 (ninS ne_a7_a9 nin0)) ((fq2_8.ext E9).keep Kq10 (ninS ne_a7_a9 nin0))) hZ (own_g hw 27 rfl) (own_g hw 2 rfl) (by decide) (by decide)) qa21 qc21 (g := (mkF m 118 #[.val (.int p1), .val (.int p2), .val (.int p3), .val (.int p4), .val (.int p5), .val (.int z1), .val (.int z4), .val (.ref a7), .val (.ref a9), .val (.long (own_key p1 p2)), .second, .val (.long (own_key z1 z4)), .second] [(.ref a7), (.ref a7)])) rfl (by rw [hml]; rfl) (Steps.refl _) (argsL := [(.ref a7)]) (rest := []) (lenOf pd__28Lcom_2fexample_2fgreater_than_2fgreaterthan_2fsql_2fDialect_24Version_3b_29Z rfl) rfl (by show 2 * 0 + _ ≤ _; exact Nat.le_of_eq rfl) (hb hby at_118) (fun _ _ => ⟨rfl, eq19, (by decide : 2 + 0 ≤ _), (by decide : 4 + 0 ≤ _)⟩)
          dsimp only [Pt.U, Pt.locs, Pt.cells, Pt.slots] at X21 l21 y21 z21 st21 hQ21
          subst l21 y21 z21
          obtain ⟨rfl, Nq21, eq21⟩ := hQ21
          have N21 := Fr.app N19 Nq21
          refine own_trans st21 ?_
          show own_Ends p e below F (T21.setTop (mkF m 121 #[.val (.int p1), .val (.int p2), .val (.int p3), .val (.int p4), .val (.int p5), .val (.int z1), .val (.int z4), .val (.ref a7), .val (.ref a9), .val (.long (own_key p1 p2)), .second, .val (.long (own_key z1 z4)), .second] [(.int (own_later p1 p2 p1 p2))]))
          refine own_step (fun _ k => XS.ifNo X21.here hx rfl (hb hby at_121) rfl ((if0 _ _).trans (teq (own_self _ _ : (own_later p1 p2 p1 p2) = (0 : Int32))).2) k) ?_
          show own_Ends p e below F (T21.setTop (mkF m 124 #[.val (.int p1), .val (.int p2), .val (.int p3), .val (.int p4), .val (.int p5), .val (.int z1), .val (.int z4), .val (.ref a7), .val (.ref a9), .val (.long (own_key p1 p2)), .second, .val (.long (own_key z1 z4)), .second] []))
          refine own_step (fun _ k => XS.iconst X21.here hx rfl (hb hby at_124) k) ?_
          show own_Ends p e below F (T21.setTop (mkF m 125 #[.val (.int p1), .val (.int p2), .val (.int p3), .val (.int p4), .val (.int p5), .val (.int z1), .val (.int z4), .val (.ref a7), .val (.ref a9), .val (.long (own_key p1 p2)), .second, .val (.long (own_key z1 z4)), .second] [(.int (1 : Int32))]))
          refine own_step (fun _ k => XS.goto X21.here hx rfl (pc0 := 125) (pc' := 129) rfl (hb hby at_125) (by decide) (by decide) k) ?_
          show own_Ends p e below F (T21.setTop (mkF m 129 #[.val (.int p1), .val (.int p2), .val (.int p3), .val (.int p4), .val (.int p5), .val (.int z1), .val (.int z4), .val (.ref a7), .val (.ref a9), .val (.long (own_key p1 p2)), .second, .val (.long (own_key z1 z4)), .second] [(.int (1 : Int32))]))
          rw [hF]
          exact own_ret X21 (v := (some (.int (nar .boolean (1 : Int32))))) (fun h => by rw [Bd.returns] at h; cases h) Bd.notSynchronized (fun fs hr => retN X21 hx (t := .boolean) Bd.returns (by simp) (hb hby at_129) hr) (by decide) (by decide) (by rw [eq21]; exact ⟨rfl, N21⟩)
        · refine own_step (fun _ k => XS.ifYes X19.here hx rfl (pc0 := 103) (pc' := 110) rfl (hb hby at_103) rfl ((if0 _ _).trans (flt (fun q => c103_20 ((lw_gt _ _).mp q))).2.2.2) (by decide) (by decide) k) ?_
          show own_Ends p e below F (T19.setTop (mkF m 110 #[.val (.int p1), .val (.int p2), .val (.int p3), .val (.int p4), .val (.int p5), .val (.int z1), .val (.int z4), .val (.ref a7), .val (.ref a9), .val (.long (own_key p1 p2)), .second, .val (.long (own_key z1 z4)), .second] [(.int (own_later z1 z4 p1 p2))]))
          refine own_step (fun _ k => XS.iconst X19.here hx rfl (hb hby at_110) k) ?_
          show own_Ends p e below F (T19.setTop (mkF m 111 #[.val (.int p1), .val (.int p2), .val (.int p3), .val (.int p4), .val (.int p5), .val (.int z1), .val (.int z4), .val (.ref a7), .val (.ref a9), .val (.long (own_key p1 p2)), .second, .val (.long (own_key z1 z4)), .second] [(.int (0 : Int32)), (.int (own_later z1 z4 p1 p2))]))
          refine own_step (fun _ k => XS.icmpNo X19.here hx rfl (hb hby at_111) rfl (teq (own_nlt _ _ _ _ c103_20 : (own_later z1 z4 p1 p2) = (0 : Int32))).2 k) ?_
          show own_Ends p e below F (T19.setTop (mkF m 114 #[.val (.int p1), .val (.int p2), .val (.int p3), .val (.int p4), .val (.int p5), .val (.int z1), .val (.int z4), .val (.ref a7), .val (.ref a9), .val (.long (own_key p1 p2)), .second, .val (.long (own_key z1 z4)), .second] []))
          refine own_step (fun _ k => XS.aload X19.here hx rfl (hb hby at_114) rfl rfl k) ?_
          show own_Ends p e below F (T19.setTop (mkF m 116 #[.val (.int p1), .val (.int p2), .val (.int p3), .val (.int p4), .val (.int p5), .val (.int z1), .val (.int z4), .val (.ref a7), .val (.ref a9), .val (.long (own_key p1 p2)), .second, .val (.long (own_key z1 z4)), .second] [(.ref a7)]))
          refine own_step (fun _ k => XS.aload X19.here hx rfl (hb hby at_116) rfl rfl k) ?_
          show own_Ends p e below F (T19.setTop (mkF m 118 #[.val (.int p1), .val (.int p2), .val (.int p3), .val (.int p4), .val (.int p5), .val (.int z1), .val (.int z4), .val (.ref a7), .val (.ref a9), .val (.long (own_key p1 p2)), .second, .val (.long (own_key z1 z4)), .second] [(.ref a7), (.ref a7)]))
          obtain ⟨cq22, kq22, qa22, qb22, qc22⟩ := isOf hZ eq19 ((fq0_8.ext E9).keep Kq10)
          obtain ⟨_, _, ⟨T22, L22, k22, n22⟩, -, X22, ⟨Lc22, hQ22, l22, y22, z22⟩, st22⟩ := X19.virtualBack hx (y := (⟨"com/example/greater_than/greaterthan/sql/Dialect$Version", "isLaterThan", "(Lcom/example/greater_than/greaterthan/sql/Dialect$Version;)Z"⟩ : MethodName)) (z := (⟨"com/example/greater_than/greaterthan/sql/Dialect$Version", "isLaterThan", "(Lcom/example/greater_than/greaterthan/sql/Dialect$Version;)Z"⟩ : MethodName)) hown (mvT hZ (own_g hw 23 rfl)) (mvT hZ (own_g hw 24 rfl)) (notFace_of_selects (args := #[]) (mvT hZ (own_g hw 26 rfl))) (mvT hZ (own_g hw 26 rfl)) (mvT hZ (own_g hw 25 rfl)) (by decide) (backOf (W := 0) (rm5 l Z a0 hw [] a7 a7 p1 p2 p1 p2 T10.heap n0 Z10 ((fq1_8.ext E9).keep Kq10 (ninS ne_a7_a9 nin0)) ((fq2_8.ext E9).keep Kq10 (ninS ne_a7_a9 nin0)) ((fq1_8.ext E9).keep Kq10 (ninS ne_a7_a9 nin0)) ((fq2_8.ext E9).keep Kq10 (ninS ne_a7_a9 nin0))) hZ (own_g hw 27 rfl) (own_g hw 2 rfl) (by decide) (by decide)) qa22 qc22 (g := (mkF m 118 #[.val (.int p1), .val (.int p2), .val (.int p3), .val (.int p4), .val (.int p5), .val (.int z1), .val (.int z4), .val (.ref a7), .val (.ref a9), .val (.long (own_key p1 p2)), .second, .val (.long (own_key z1 z4)), .second] [(.ref a7), (.ref a7)])) rfl (by rw [hml]; rfl) (Steps.refl _) (argsL := [(.ref a7)]) (rest := []) (lenOf pd__28Lcom_2fexample_2fgreater_than_2fgreaterthan_2fsql_2fDialect_24Version_3b_29Z rfl) rfl (by show 2 * 0 + _ ≤ _; exact Nat.le_of_eq rfl) (hb hby at_118) (fun _ _ => ⟨rfl, eq19, (by decide : 2 + 0 ≤ _), (by decide : 4 + 0 ≤ _)⟩)
          dsimp only [Pt.U, Pt.locs, Pt.cells, Pt.slots] at X22 l22 y22 z22 st22 hQ22
          subst l22 y22 z22
          obtain ⟨rfl, Nq22, eq22⟩ := hQ22
          have N22 := Fr.app N19 Nq22
          refine own_trans st22 ?_
          show own_Ends p e below F (T22.setTop (mkF m 121 #[.val (.int p1), .val (.int p2), .val (.int p3), .val (.int p4), .val (.int p5), .val (.int z1), .val (.int z4), .val (.ref a7), .val (.ref a9), .val (.long (own_key p1 p2)), .second, .val (.long (own_key z1 z4)), .second] [(.int (own_later p1 p2 p1 p2))]))
          refine own_step (fun _ k => XS.ifNo X22.here hx rfl (hb hby at_121) rfl ((if0 _ _).trans (teq (own_self _ _ : (own_later p1 p2 p1 p2) = (0 : Int32))).2) k) ?_
          show own_Ends p e below F (T22.setTop (mkF m 124 #[.val (.int p1), .val (.int p2), .val (.int p3), .val (.int p4), .val (.int p5), .val (.int z1), .val (.int z4), .val (.ref a7), .val (.ref a9), .val (.long (own_key p1 p2)), .second, .val (.long (own_key z1 z4)), .second] []))
          refine own_step (fun _ k => XS.iconst X22.here hx rfl (hb hby at_124) k) ?_
          show own_Ends p e below F (T22.setTop (mkF m 125 #[.val (.int p1), .val (.int p2), .val (.int p3), .val (.int p4), .val (.int p5), .val (.int z1), .val (.int z4), .val (.ref a7), .val (.ref a9), .val (.long (own_key p1 p2)), .second, .val (.long (own_key z1 z4)), .second] [(.int (1 : Int32))]))
          refine own_step (fun _ k => XS.goto X22.here hx rfl (pc0 := 125) (pc' := 129) rfl (hb hby at_125) (by decide) (by decide) k) ?_
          show own_Ends p e below F (T22.setTop (mkF m 129 #[.val (.int p1), .val (.int p2), .val (.int p3), .val (.int p4), .val (.int p5), .val (.int z1), .val (.int z4), .val (.ref a7), .val (.ref a9), .val (.long (own_key p1 p2)), .second, .val (.long (own_key z1 z4)), .second] [(.int (1 : Int32))]))
          rw [hF]
          exact own_ret X22 (v := (some (.int (nar .boolean (1 : Int32))))) (fun h => by rw [Bd.returns] at h; cases h) Bd.notSynchronized (fun fs hr => retN X22 hx (t := .boolean) Bd.returns (by simp) (hb hby at_129) hr) (by decide) (by decide) (by rw [eq22]; exact ⟨rfl, N22⟩)
    by_cases c18_23 : (p5 &&& (2 : Int32)) = (0 : Int32)
    · refine own_step (fun _ k => XS.ifYes X0.here hx rfl (pc0 := 18) (pc' := 25) rfl (hb hby at_18) rfl ((if0 _ _).trans (teq c18_23).1) (by decide) (by decide) k) ?_
      show own_Ends p e below F (s₁.setTop (mkF m 25 #[.val (.int p1), .val (.int p2), .val (.int p3), .val (.int p4), .val (.int p5), .val (.int z1), .unset, .unset, .unset, .unset, .unset, .unset, .unset] []))
      refine own_step (fun _ k => XS.iloadN X0.here hx rfl (hb hby at_25) rfl k) ?_
      show own_Ends p e below F (s₁.setTop (mkF m 26 #[.val (.int p1), .val (.int p2), .val (.int p3), .val (.int p4), .val (.int p5), .val (.int z1), .unset, .unset, .unset, .unset, .unset, .unset, .unset] [(.int p4)]))
      exact J18_5 _ (by simp only [if_true, if_false, c18_23])
    · refine own_step (fun _ k => XS.ifNo X0.here hx rfl (hb hby at_18) rfl ((if0 _ _).trans (feq c18_23).1) k) ?_
      show own_Ends p e below F (s₁.setTop (mkF m 21 #[.val (.int p1), .val (.int p2), .val (.int p3), .val (.int p4), .val (.int p5), .val (.int z1), .unset, .unset, .unset, .unset, .unset, .unset, .unset] []))
      refine own_step (fun _ k => XS.iloadN X0.here hx rfl (hb hby at_21) rfl k) ?_
      show own_Ends p e below F (s₁.setTop (mkF m 22 #[.val (.int p1), .val (.int p2), .val (.int p3), .val (.int p4), .val (.int p5), .val (.int z1), .unset, .unset, .unset, .unset, .unset, .unset, .unset] [(.int p2)]))
      refine own_step (fun _ k => XS.goto X0.here hx rfl (pc0 := 22) (pc' := 26) rfl (hb hby at_22) (by decide) (by decide) k) ?_
      show own_Ends p e below F (s₁.setTop (mkF m 26 #[.val (.int p1), .val (.int p2), .val (.int p3), .val (.int p4), .val (.int p5), .val (.int z1), .unset, .unset, .unset, .unset, .unset, .unset, .unset] [(.int p2)]))
      exact J18_5 _ (by simp only [if_true, if_false, c18_23])
  by_cases c4_24 : (p5 &&& (1 : Int32)) = (0 : Int32)
  · refine own_step (fun _ k => XS.ifYes X0.here hx rfl (pc0 := 4) (pc' := 11) rfl (hb hby at_4) rfl ((if0 _ _).trans (teq c4_24).1) (by decide) (by decide) k) ?_
    show own_Ends p e below F (s₁.setTop (mkF m 11 #[.val (.int p1), .val (.int p2), .val (.int p3), .val (.int p4), .val (.int p5), .unset, .unset, .unset, .unset, .unset, .unset, .unset, .unset] []))
    refine own_step (fun _ k => XS.iloadN X0.here hx rfl (hb hby at_11) rfl k) ?_
    show own_Ends p e below F (s₁.setTop (mkF m 12 #[.val (.int p1), .val (.int p2), .val (.int p3), .val (.int p4), .val (.int p5), .unset, .unset, .unset, .unset, .unset, .unset, .unset, .unset] [(.int p3)]))
    exact J4_2 _ (by simp only [if_true, if_false, c4_24])
  · refine own_step (fun _ k => XS.ifNo X0.here hx rfl (hb hby at_4) rfl ((if0 _ _).trans (feq c4_24).1) k) ?_
    show own_Ends p e below F (s₁.setTop (mkF m 7 #[.val (.int p1), .val (.int p2), .val (.int p3), .val (.int p4), .val (.int p5), .unset, .unset, .unset, .unset, .unset, .unset, .unset, .unset] []))
    refine own_step (fun _ k => XS.iloadN X0.here hx rfl (hb hby at_7) rfl k) ?_
    show own_Ends p e below F (s₁.setTop (mkF m 8 #[.val (.int p1), .val (.int p2), .val (.int p3), .val (.int p4), .val (.int p5), .unset, .unset, .unset, .unset, .unset, .unset, .unset, .unset] [(.int p1)]))
    refine own_step (fun _ k => XS.goto X0.here hx rfl (pc0 := 8) (pc' := 12) rfl (hb hby at_8) (by decide) (by decide) k) ?_
    show own_Ends p e below F (s₁.setTop (mkF m 12 #[.val (.int p1), .val (.int p2), .val (.int p3), .val (.int p4), .val (.int p5), .unset, .unset, .unset, .unset, .unset, .unset, .unset, .unset] [(.int p1)]))
    exact J4_2 _ (by simp only [if_true, if_false, c4_24])

set_option maxRecDepth 65536 in
set_option maxHeartbeats 40000000 in
theorem comes_1 {Post : Tables → Env → Array Value → State → Outcome → State → Prop} (hpost : ∀ tb e args s v u, (limb_1_1.after args s (.returned v) u = true ∧ limb_1_2.after args s (.returned v) u = true ∧ True) → FrameEnd s (.returned v) u (Jvm.fieldLocs frame_1_writes args s ++ Jvm.arrayLocs frame_1_arrays args s ++ Jvm.staticLocs frame_1_statics s) 16 128 → Post tb e args s (.returned v) u) :
    ArmFor flags0 classFile x code maxLocals ret World_1 tables_1 room_1 Calls_1 rest_1 Pre_1 Post := by
  intro l hfl _ _ p e ha hc hk s m args below hf hA hF happ hP
  obtain ⟨hcalls, hrest, hpre⟩ := hP
  obtain ⟨-, -, -, hnamed, -, -, -, hat⟩ := (Spec.applies_iff hf).mp happ
  obtain ⟨hg, hn⟩ := and_e (Cond.before_iff.mp (show (Jvm.Cond.and given_1 narrow_1).before args s = true from hpre))
  obtain ⟨g0, r0⟩ := and_e hg
  obtain ⟨g1, r1⟩ := and_e r0
  obtain ⟨g2, r2⟩ := and_e r1
  obtain ⟨g3, r3⟩ := and_e r2
  obtain ⟨g4, r4⟩ := and_e r3
  have g5 := r4
  obtain ⟨w0, w1, w2, w3, w4, rfl⟩ : ∃ w0 w1 w2 w3 w4 : Value, args = #[w0, w1, w2, w3, w4] := by
    have hs : args.size = 5 := by simpa [Cond.value, given_1] using g0
    obtain ⟨L⟩ := args
    match L, hs with
    | [w0, w1, w2, w3, w4], _ => exact ⟨w0, w1, w2, w3, w4, rfl⟩
  have hw := fun d (hd : d ∈ tables_1) => atoms_spec (ws := Jvm.Cond.code x code maxLocals ret :: tables_1) hat d (List.mem_cons_of_mem _ hd)
  have hfit : Fit s := fun {y c} hc i hi => by
    obtain ⟨ha, rfl⟩ := Array.getElem?_eq_some_iff.mp hc
    have q := List.all_eq_true.mp ((Array.all_eq_true_iff_forall_mem.mp hF) _ (Array.getElem_mem ha)) i (List.mem_range.mpr hi)
    simpa [Array.getElem?_eq_getElem hi] using q
  obtain ⟨i0, ei0⟩ := is_v g1
  obtain rfl : w0 = (.int i0) := Option.some.inj ei0
  obtain ⟨i1, ei1⟩ := is_v g2
  obtain rfl : w1 = (.int i1) := Option.some.inj ei1
  obtain ⟨i2, ei2⟩ := is_v g3
  obtain rfl : w2 = (.int i2) := Option.some.inj ei2
  obtain ⟨i3, ei3⟩ := is_v g4
  obtain rfl : w3 = (.int i3) := Option.some.inj ei3
  obtain ⟨i4, ei4⟩ := is_v g5
  obtain rfl : w4 = (.int i4) := Option.some.inj ei4
  obtain ⟨n, o, h1, h2, h3, _, L, rfl, ⟨rfl, N⟩, hq⟩ := rm0 l s _ hw tables_1 i0 i1 i2 i3 i4  s.heap s.heap.size (Nat.le_refl _)  p e ha hc hk s m _ below hf ((Spec.applies_iff_loose hf).mp happ).1 ⟨rfl, State.Warmed39.refl s, rfl⟩ trivial
  refine ⟨n, _, h1, h2, h3, hpost _ _ _ _ _ _ ⟨Cond.after_iff.mpr rfl, Cond.after_iff.mpr (eq_i res_at (Term.int_eval (1)) rfl), trivial⟩ ⟨hq.1, hq.2.1, (hq.2.2.sift fun y hy => Or.inr (N y hy)).mono (by decide) (by decide)⟩⟩
theorem main_1_1 : Claimed_1_1 := comes_1 fun _ _ _ _ _ _ h hF => ⟨h.1, hF⟩
theorem main_1_2 : Claimed_1_2 := comes_1 fun _ _ _ _ _ _ h hF => ⟨h.2.1, hF⟩

end Jvm.Pilot.@@N@@
namespace Jvm.Pilot.@@N@@
open Jvm Jvm.ClassFile Sem Op Lib Jvm.Free Jvm.Stand Jvm.Pilot.@@N@@.Jvm.D
/-! MADE BY PROGRAM (witnessworld.py) out of the Statement's table words and the real class files: 10 classes; the members and pool entries that the words name. The judged class is class 1, her method 2. -/
namespace start1
open Jvm.ClassFile
def u (s : String) : CpInfo := .utf8 (stringToUtf16 s)
/-- a pool by its gaps: so many unusable entries, then the entry; so many at the end -/
def gap : Nat → List CpInfo → List CpInfo
  | 0, r => r
  | n + 1, r => .unusable :: gap n r
def poolList (es : List (Nat × CpInfo)) (last : Nat) : List CpInfo := es.foldr (fun e r => gap e.1 (e.2 :: r)) (gap last [])
def pool (es : List (Nat × CpInfo)) (last : Nat) : Array CpInfo := ⟨poolList es last⟩
def fileOf (pool : Array CpInfo) (this : Nat) (attrs : Array Attribute := #[]) (ms : Array MethodInfo := #[]) (fl : Nat := 33) (sup : Nat := 0) (ifs : Array Nat := #[]) (fds : Array FieldInfo := #[]) : ClassFile where
  minorVersion := 0
  majorVersion := 65
  constantPool := pool
  accessFlags := fl
  thisClass := this
  superClass := sup
  interfaces := ifs
  fields := fds
  methods := ms
  attributes := attrs
def plain (name : String) (sup : Option ClassId) : Class where
  name := name
  kind := .ordinary
  loader := none
  accessFlags := 33
  super := sup
  interfaces := #[]
  cf := none
  fields := #[]
  methods := #[]
  instanceTypes := #[]
  staticTypes := #[]
  resolved := #[]
  callSites := []
  init := .initialized
  statics := none
  mirror := none

def pool0 : Array CpInfo := pool [(5, u "<init>"), (0, u "()V"), (1, .class_ 10), (1, u "java/lang/Object")] 113

def k0c0 : Code := { maxStack := 0, maxLocals := 1, code := object_method_1_code, exceptionTable := #[], attributes := #[] }
def k0m0 : Method := { name := "<init>", desc := "()V", sig := { parameters := [], returnType := none }, accessFlags := 1, code := some k0c0 }
/-- java/lang/Object -/
def k0 : Class := { plain "java/lang/Object" none with
  accessFlags := 33
  interfaces := #[]
  cf := some (fileOf pool0 8 #[] #[{ accessFlags := 1, nameIndex := 5, descriptorIndex := 6, attributes := #[] }] 33 0 #[] #[])
  fields := #[]
  methods := #[k0m0]
  instanceTypes := #[]
  staticTypes := #[]
  resolved := Array.replicate 124 none
  statics := none }

def pool1 : Array CpInfo := pool [(2, .class_ 4), (1, u "java/lang/Object"), (0, u "<init>"), (0, u "()V"), (2, .long 18446744071562067968), (1, .class_ 12), (0, u "com/example/greater_than/greaterthan/sql/Dialect$Version"), (0, .methodref 11 14), (0, .nameAndType 5 15), (0, u "(II)V"), (0, .methodref 17 18), (0, .class_ 19), (0, .nameAndType 20 21), (0, u "com/example/greater_than/greaterthan/sql/VersionIsLaterThanPinLaw"), (0, u "key"), (0, u "(II)J"), (0, .methodref 11 23), (0, .nameAndType 24 25), (0, u "isLaterThan"), (0, u "(Lcom/example/greater_than/greaterthan/sql/Dialect$Version;)Z"), (2, u "law"), (0, u "(IIIII)Z")] 7

def k1m0 : Method := { name := "<init>", desc := "()V", sig := { parameters := [], returnType := none }, accessFlags := 1, code := none }
def k1c1 : Code := { maxStack := 6, maxLocals := 2, code := method_2_code, exceptionTable := #[], attributes := #[] }
def k1m1 : Method := { name := "key", desc := "(II)J", sig := { parameters := [.int, .int], returnType := some .long }, accessFlags := 10, code := some k1c1 }
def k1c2 : Code := { maxStack := 5, maxLocals := 13, code := code, exceptionTable := #[], attributes := #[] }
def k1m2 : Method := { name := "law", desc := "(IIIII)Z", sig := { parameters := [.int, .int, .int, .int, .int], returnType := some .boolean }, accessFlags := 9, code := some k1c2 }
/-- com/example/greater_than/greaterthan/sql/VersionIsLaterThanPinLaw -/
def k1 : Class := { plain "com/example/greater_than/greaterthan/sql/VersionIsLaterThanPinLaw" (some 0) with
  accessFlags := 49
  interfaces := #[]
  cf := some (fileOf pool1 17 #[] #[{ accessFlags := 1, nameIndex := 5, descriptorIndex := 6, attributes := #[] }, { accessFlags := 10, nameIndex := 20, descriptorIndex := 21, attributes := #[] }, { accessFlags := 9, nameIndex := 28, descriptorIndex := 29, attributes := #[] }] 49 2 #[] #[])
  fields := #[]
  methods := #[k1m0, k1m1, k1m2]
  instanceTypes := #[]
  staticTypes := #[]
  resolved := Array.replicate 37 none
  statics := none }

def pool2 : Array CpInfo := pool [(1, .methodref 2 3), (0, .class_ 4), (0, .nameAndType 5 6), (0, u "java/lang/Object"), (0, u "<init>"), (0, u "()V"), (0, .class_ 8), (0, u "java/lang/Record")] 13

def k2c0 : Code := { maxStack := 1, maxLocals := 1, code := jdk_30_method_1_code, exceptionTable := #[], attributes := #[] }
def k2m0 : Method := { name := "<init>", desc := "()V", sig := { parameters := [], returnType := none }, accessFlags := 4, code := some k2c0 }
/-- java/lang/Record -/
def k2 : Class := { plain "java/lang/Record" (some 0) with
  accessFlags := 1057
  interfaces := #[]
  cf := some (fileOf pool2 7 #[] #[{ accessFlags := 4, nameIndex := 5, descriptorIndex := 6, attributes := #[] }] 1057 2 #[] #[])
  fields := #[]
  methods := #[k2m0]
  instanceTypes := #[]
  staticTypes := #[]
  resolved := Array.replicate 22 none
  statics := none }

def pool3 : Array CpInfo := pool [(1, .methodref 2 3), (0, .class_ 4), (0, .nameAndType 5 6), (0, u "java/lang/Record"), (0, u "<init>"), (0, u "()V"), (0, .fieldref 8 9), (0, .class_ 10), (0, .nameAndType 11 12), (0, u "com/example/greater_than/greaterthan/sql/Dialect$Version"), (0, u "major"), (0, u "I"), (0, .fieldref 8 14), (0, .nameAndType 15 12), (0, u "minor"), (11, u "(II)V"), (20, u "isLaterThan"), (0, u "(Lcom/example/greater_than/greaterthan/sql/Dialect$Version;)Z"), (7, .class_ 58), (0, u "com/example/greater_than/greaterthan/sql/Dialect")] 28

def k3c0 : Code := { maxStack := 2, maxLocals := 3, code := prog_50_method_1_code, exceptionTable := #[], attributes := #[] }
def k3m0 : Method := { name := "<init>", desc := "(II)V", sig := { parameters := [.int, .int], returnType := none }, accessFlags := 1, code := some k3c0 }
def k3c1 : Code := { maxStack := 2, maxLocals := 2, code := prog_50_method_3_code, exceptionTable := #[], attributes := #[] }
def k3m1 : Method := { name := "isLaterThan", desc := "(Lcom/example/greater_than/greaterthan/sql/Dialect$Version;)Z", sig := { parameters := [(.object "com/example/greater_than/greaterthan/sql/Dialect$Version")], returnType := some .boolean }, accessFlags := 0, code := some k3c1 }
/-- com/example/greater_than/greaterthan/sql/Dialect$Version -/
def k3 : Class := { plain "com/example/greater_than/greaterthan/sql/Dialect$Version" (some 2) with
  accessFlags := 49
  interfaces := #[]
  cf := some (fileOf pool3 8 #[.nestHost 57] #[{ accessFlags := 1, nameIndex := 5, descriptorIndex := 27, attributes := #[] }, { accessFlags := 0, nameIndex := 48, descriptorIndex := 49, attributes := #[] }] 49 2 #[] #[{ accessFlags := 18, nameIndex := 11, descriptorIndex := 12, attributes := #[] }, { accessFlags := 18, nameIndex := 15, descriptorIndex := 12, attributes := #[] }])
  fields := #[{ name := "major", type := .int, accessFlags := 18, slot := 0, constantValue := 0 }, { name := "minor", type := .int, accessFlags := 18, slot := 1, constantValue := 0 }]
  methods := #[k3m0, k3m1]
  instanceTypes := #[.int, .int]
  staticTypes := #[]
  resolved := Array.replicate 87 none
  statics := none }

def pool4 : Array CpInfo := pool [(1, u "java/lang/Cloneable"), (0, .class_ 1), (0, u "java/lang/Object"), (0, .class_ 3)] 3

/-- java/lang/Cloneable -/
def k4 : Class := { plain "java/lang/Cloneable" (some 0) with
  accessFlags := 1537
  interfaces := #[]
  cf := some (fileOf pool4 2 #[] #[] 1537 4 #[] #[])
  fields := #[]
  methods := #[]
  instanceTypes := #[]
  staticTypes := #[]
  resolved := Array.replicate 8 none
  statics := none }

def pool5 : Array CpInfo := pool [(1, u "java/io/Serializable"), (0, .class_ 1), (0, u "java/lang/Object"), (0, .class_ 3)] 3

/-- java/io/Serializable -/
def k5 : Class := { plain "java/io/Serializable" (some 0) with
  accessFlags := 1537
  interfaces := #[]
  cf := some (fileOf pool5 2 #[] #[] 1537 4 #[] #[])
  fields := #[]
  methods := #[]
  instanceTypes := #[]
  staticTypes := #[]
  resolved := Array.replicate 8 none
  statics := none }

/-- the primitive byte -/
def k6 : Class := { plain "byte" none with kind := .primitive 'B', accessFlags := 0x411 }
/-- [B -/
def k7 : Class := { plain "[B" (some 0) with kind := .array 6 .byte, interfaces := #[4, 5], accessFlags := 1041 }

/-- the primitive int -/
def k8 : Class := { plain "int" none with kind := .primitive 'I', accessFlags := 0x411 }
/-- [I -/
def k9 : Class := { plain "[I" (some 0) with kind := .array 8 .int, interfaces := #[4, 5], accessFlags := 1041 }

def heap : Heap := #[]
def classes : Array Class := #[k0, k1, k2, k3, k4, k5, k6, k7, k8, k9]
def interned : List (Array UInt16 × Addr) := []
def slotsUsed : Nat := 0
def theMethod : MethodId := ⟨1, 2⟩
def args0 : Array Value := #[.int 5, .int 6, .int 7, .int 8, .int 9]
def aboutOver (below : List Frame) : State where
  vm := { classes := classes, interned := interned.toArray }
  heap := heap
  slotsUsed := slotsUsed
  threads := #[{ frames := .invoking theMethod args0 :: below }]
def below0 : List Frame := [.native { method := ⟨0, 0⟩, args := #[] }]
def about1 : State := aboutOver below0
def p0 : Program := .bare "" "" ""
def e0 : Env := launch0.env 0 0 0
theorem w_frames : about1.frames = Frame.invoking theMethod args0 :: below0 := rfl
set_option maxRecDepth 65536 in
theorem w_args : argsFit about1.vm theMethod args0 = true := by decide +kernel
set_option maxRecDepth 65536 in
theorem w_heap : heapFits about1 = true := by decide +kernel
set_option maxRecDepth 65536 in
theorem w_runnable : about1.curStatus? = some .runnable := by decide +kernel
set_option maxRecDepth 65536 in
theorem w_alone : about1.alone = true := by decide +kernel
set_option maxRecDepth 65536 in
theorem w_named : about1.methodNamed? x = some theMethod := by decide +kernel
set_option maxRecDepth 65536 in
theorem w_hears : about1.hears theMethod below0 = true := by decide +kernel
set_option maxRecDepth 65536 in
theorem w_ripe : about1.ripe theMethod args0 below0 = true := by decide +kernel
theorem w_running : about1.status = .running := rfl
set_option maxRecDepth 65536 in
theorem w_room : about1.hasRoom e0.platform room_1 = true :=
  launch0.hasRoom_least _ room_1 (by decide +kernel) (by decide +kernel) (by decide +kernel) (by decide +kernel) (by decide +kernel) (by decide +kernel)
theorem allAtoms_all (ts : List Jvm.Cond) (a : Array Jvm.Value) (st : Jvm.State) : (allAtoms ts).before a st = ts.all (fun c => c.before a st) := by
  induction ts with
  | nil => rfl
  | cons c t ih =>
    show (Jvm.Cond.and c (allAtoms t)).before a st = _
    rw [Jvm.Cond.before_and, ih, List.all_cons]
def words1 : List Jvm.Cond := Jvm.Cond.code x code maxLocals ret :: tables_1
/-- a 'code' word, met by the world's own term for the bytes: nothing is compared byte by byte -/
theorem code_word {y : MethodName} {bytes : ByteArray} {mx : Nat} {rt : Option FieldType} {a : Array Value} {s : State} {m : MethodId} {meth : Method} {c : Code} (h1 : s.methodNamed? y = some m) (h2 : s.vm.method? m = some meth) (h3 : meth.code = some c) (h4 : c.code = bytes)
    (h5 : (c.maxLocals == mx && c.exceptionTable.isEmpty && decide (c.maxStack ≤ mostOperands) && decide (meth.sig.returnType = rt) && !meth.locks && decide (parseMethodDescriptor y.desc = some meth.sig)) = true) : (Jvm.Cond.code y bytes mx rt).before a s = true := by
  simp only [Bool.and_eq_true, beq_iff_eq, Bool.not_eq_true', decide_eq_true_eq] at h5
  obtain ⟨⟨⟨⟨⟨g1, g2⟩, g3⟩, g4⟩, g5⟩, g6⟩ := h5
  simp [Cond.before, Cond.holds, Cond.value, h1, h2, h3, h4, g1, g2, g3, g4, g5, g6]
def isCode : Jvm.Cond → Bool
  | .code _ _ _ _ => true
  | _ => false
theorem all_split {L : List Jvm.Cond} {P : Jvm.Cond → Bool} (h1 : L.all (fun c => isCode c || P c) = true) (h2 : ∀ c ∈ L.filter isCode, P c = true) : L.all P = true := by
  refine List.all_eq_true.mpr fun c hc => ?_
  have h := List.all_eq_true.mp h1 c hc
  rcases Bool.eq_false_or_eq_true (isCode c) with hi | hi
  · exact h2 c (List.mem_filter.mpr ⟨hc, hi⟩)
  · simpa [hi] using h
set_option maxRecDepth 65536 in
theorem w_c0 : (Jvm.Cond.code x code maxLocals ret).before args0 about1 = true := code_word (m := ⟨1, 2⟩) (meth := k1m2) (c := k1c2) (by decide +kernel) rfl rfl rfl (by decide +kernel)
set_option maxRecDepth 65536 in
theorem w_c1 : (Jvm.Cond.code ({ cls := "com/example/greater_than/greaterthan/sql/Dialect$Version", name := "<init>", desc := "(II)V" } : Jvm.MethodName) prog_50_method_1_code (3 : Nat) (Option.none : Option Jvm.ClassFile.FieldType)).before args0 about1 = true := code_word (m := ⟨3, 0⟩) (meth := k3m0) (c := k3c0) (by decide +kernel) rfl rfl rfl (by decide +kernel)
set_option maxRecDepth 65536 in
theorem w_c2 : (Jvm.Cond.code ({ cls := "java/lang/Record", name := "<init>", desc := "()V" } : Jvm.MethodName) jdk_30_method_1_code (1 : Nat) (Option.none : Option Jvm.ClassFile.FieldType)).before args0 about1 = true := code_word (m := ⟨2, 0⟩) (meth := k2m0) (c := k2c0) (by decide +kernel) rfl rfl rfl (by decide +kernel)
set_option maxRecDepth 65536 in
theorem w_c3 : (Jvm.Cond.code ({ cls := "java/lang/Object", name := "<init>", desc := "()V" } : Jvm.MethodName) object_method_1_code (1 : Nat) (Option.none : Option Jvm.ClassFile.FieldType)).before args0 about1 = true := code_word (m := ⟨0, 0⟩) (meth := k0m0) (c := k0c0) (by decide +kernel) rfl rfl rfl (by decide +kernel)
set_option maxRecDepth 65536 in
theorem w_c4 : (Jvm.Cond.code ({ cls := "com/example/greater_than/greaterthan/sql/VersionIsLaterThanPinLaw", name := "key", desc := "(II)J" } : Jvm.MethodName) method_2_code (2 : Nat) (Option.some Jvm.ClassFile.FieldType.long)).before args0 about1 = true := code_word (m := ⟨1, 1⟩) (meth := k1m1) (c := k1c1) (by decide +kernel) rfl rfl rfl (by decide +kernel)
set_option maxRecDepth 65536 in
theorem w_c5 : (Jvm.Cond.code ({ cls := "com/example/greater_than/greaterthan/sql/Dialect$Version", name := "isLaterThan", desc := "(Lcom/example/greater_than/greaterthan/sql/Dialect$Version;)Z" } : Jvm.MethodName) prog_50_method_3_code (2 : Nat) (Option.some Jvm.ClassFile.FieldType.boolean)).before args0 about1 = true := code_word (m := ⟨3, 1⟩) (meth := k3m1) (c := k3c1) (by decide +kernel) rfl rfl rfl (by decide +kernel)
def codes1 : List Jvm.Cond := [Jvm.Cond.code x code maxLocals ret, Jvm.Cond.code ({ cls := "com/example/greater_than/greaterthan/sql/Dialect$Version", name := "<init>", desc := "(II)V" } : Jvm.MethodName) prog_50_method_1_code (3 : Nat) (Option.none : Option Jvm.ClassFile.FieldType), Jvm.Cond.code ({ cls := "java/lang/Record", name := "<init>", desc := "()V" } : Jvm.MethodName) jdk_30_method_1_code (1 : Nat) (Option.none : Option Jvm.ClassFile.FieldType), Jvm.Cond.code ({ cls := "java/lang/Object", name := "<init>", desc := "()V" } : Jvm.MethodName) object_method_1_code (1 : Nat) (Option.none : Option Jvm.ClassFile.FieldType), Jvm.Cond.code ({ cls := "com/example/greater_than/greaterthan/sql/VersionIsLaterThanPinLaw", name := "key", desc := "(II)J" } : Jvm.MethodName) method_2_code (2 : Nat) (Option.some Jvm.ClassFile.FieldType.long), Jvm.Cond.code ({ cls := "com/example/greater_than/greaterthan/sql/Dialect$Version", name := "isLaterThan", desc := "(Lcom/example/greater_than/greaterthan/sql/Dialect$Version;)Z" } : Jvm.MethodName) prog_50_method_3_code (2 : Nat) (Option.some Jvm.ClassFile.FieldType.boolean)]
set_option maxRecDepth 65536 in
theorem codes_eq : words1.filter isCode = codes1 := rfl
theorem w_codes : ∀ c ∈ words1.filter isCode, c.before args0 about1 = true := by
  rw [codes_eq]
  intro c hc
  simp only [codes1, List.mem_cons, List.not_mem_nil, or_false] at hc
  rcases hc with rfl | rfl | rfl | rfl | rfl | rfl
  · exact w_c0
  · exact w_c1
  · exact w_c2
  · exact w_c3
  · exact w_c4
  · exact w_c5
set_option maxRecDepth 65536 in
theorem w_t1 : (words1.take 24).all (fun c => isCode c || c.before args0 about1) = true := by decide +kernel
set_option maxRecDepth 65536 in
theorem w_t2 : (words1.drop 24).all (fun c => isCode c || c.before args0 about1) = true := by decide +kernel
theorem w_tables : (allAtoms (Jvm.Cond.code x code maxLocals ret :: tables_1)).before args0 about1 = true := by
  rw [allAtoms_all]
  show words1.all (fun c => c.before args0 about1) = true
  refine all_split ?_ w_codes
  rw [← List.take_append_drop 24 words1, List.all_append, w_t1, w_t2]
  rfl
set_option maxRecDepth 65536 in
theorem w_case : (Jvm.Cond.and given_1 narrow_1).before args0 about1 = true := by decide +kernel
theorem w_applies : (headSpec (Jvm.Cond.code x code maxLocals ret :: tables_1) room_1).applies x e0.platform about1 = true :=
  (Spec.applies_iff w_frames).mpr ⟨w_running, w_runnable, w_alone, w_named, w_hears, w_ripe, w_room, w_tables⟩
theorem atStart : AtStart classFile x code maxLocals ret World_1 tables_1 room_1 Calls_1 rest_1 Pre_1 launch0 p0 e0 about1 theMethod args0 below0 :=
  ⟨lists_1, trivial, launch0.admits_env _ _ _, launch0.least_env, fairChoices_fair.cas, fairChoices_fair.clock, w_frames, w_args, w_heap, w_applies, trivial, trivial, w_case⟩
end start1
theorem witness_1 : WitnessClaimed_1 := ⟨start1.p0, start1.e0, start1.about1, start1.theMethod, start1.args0, start1.below0, start1.atStart⟩
end Jvm.Pilot.@@N@@
