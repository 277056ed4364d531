import JvmDerived
import JvmDerived.Pilot.@@N@@Statement
import JvmDerived.Pilot.@@N@@Code
set_option linter.unusedVariables false
set_option linter.unusedSimpArgs false

namespace Jvm.RoadKit
open Sem ClassFile Op Lib Jvm.Stand Jvm.Free Jvm.LawKit
section New
variable {p : Program} {l : Launch} {e : Env} {R : Room} {s : State} {m : MethodId} {args : Array Value} {below : List Frame} {meth : Method} {c : Code} {T : State} {locs : List Loc} {cells slots : Nat}
theorem own_retI (X : Stand p l e R s m args below meth c T locs cells slots) (hx : p.tables.exec = Jvm.exec) {pc : Nat} {Ls : Array Slot} {z : Int32} {rest : List Value} (hret : meth.sig.returnType = some .int) (hd : decode c.code pc = .ok (.ireturn, 1)) {fs : List Frame}
    (hl : ∀ (f : JFrame) (acts : List Action), f.method = m → f.locked = none → f.entered = [] → (doReturn e (T.setTop f) acts (some (.int z))).1 = T.setFrames fs) : Steps p.tables e below (T.setTop (mkF m pc Ls (.int z :: rest))) (T.setFrames fs) :=
  retOut X hx (t := .int) (w := .int z) (i := .ireturn) hret rfl (Or.inl ⟨rfl, Or.inl rfl, z, rfl⟩) hd hl
end New
end Jvm.RoadKit

/- laws to paste: Road.backV, Road.eqW, Road.codOf (cut by pick.py; bodies as the Statement names them) -/
namespace Jvm.Pilot.@@N@@
namespace StrChars
open Jvm Sem ClassFile Op Lib Jvm.Stand Jvm.Free.XT Jvm.Free.ALB Jvm.Free.JM Jvm.Free
open Jvm.Lib.Cold (StaticIs)
/-- a char array whose places are chars -/
def Ch (a : Addr) (A : Cell) (U : State) : Prop := Arr .char a A U ∧ Typed .char A
theorem Ch.mv {a : Addr} {A : Cell} {U U' : State} (h : Ch a A U) (hal : U.vm.Alike U'.vm) (hh : U'.heap = U.heap) : Ch a A U' := ⟨h.1.mv hal hh, h.2⟩
theorem Ch.keep {a : Addr} {A : Cell} {U U' : State} (h : Ch a A U) (hal : U.vm.Alike U'.vm) (hk : U'.heap[a]? = some A) : Ch a A U' := ⟨h.1.keep hal hk, h.2⟩
/-- what place i of a char[]'s cell holds -/
def cv (A : Cell) (i : Nat) : Int32 := match A.slots[i]? with | some (.int x) => x | _ => 0
theorem Ch.get {a : Addr} {A : Cell} {U : State} (h : Ch a A U) {i : Nat} (hi : i < A.slots.size) : A.slots[i]? = some (.int (cv A i)) := by
  have e := Array.getElem?_eq_getElem hi
  have f := h.2 i _ e
  unfold cv; rw [e]
  generalize A.slots[i] = v at f
  cases v <;> simp [fits] at f ⊢
/-- the byte that i2b leaves of a char -/
def lo8 (x : Int32) : Int32 := x.toInt8.toInt32
theorem fits_lo8 (y : Int32) : fits .byte (.int (lo8 y)) = true := by
  have h1 := y.toInt8.le_toInt
  have h2 := y.toInt8.toInt_lt
  simp only [lo8, fits, Bool.and_eq_true, decide_eq_true_eq, Int32.le_iff_toInt_le, Int8.toInt_toInt32, show (-128 : Int32).toInt = -128 from by decide, show (127 : Int32).toInt = 127 from by decide]
  omega
/-- A' is A but that each place j of lo .. hi - 1 holds f j -/
def Laid (A A' : Cell) (lo hi : Nat) (f : Nat → Value) : Prop := A'.cls = A.cls ∧ A'.vm = A.vm ∧ A'.slots.size = A.slots.size ∧ ∀ i, A'.slots[i]? = if lo ≤ i ∧ i < hi then some (f i) else A.slots[i]?
theorem Laid.zero (A : Cell) (lo : Nat) (f : Nat → Value) : Laid A A lo (lo + 0) f := ⟨rfl, rfl, rfl, fun i => by rw [if_neg (by omega)]⟩
theorem Laid.step {A Ak : Cell} {lo k : Nat} {f : Nat → Value} {v : Value} (h : Laid A Ak lo k f) (hlo : lo ≤ k) (hk : k < Ak.slots.size) (hv : v = f k) : Laid A (Ak.setSlot k v) lo (k + 1) f := by
  refine ⟨h.1, h.2.1, by simpa [Cell.setSlot] using h.2.2.1, fun i => ?_⟩
  by_cases e : k = i
  · subst e; rw [Cell.slots_setSlot_self v hk, if_pos (by omega), hv]
  · rw [Cell.slots_setSlot_ne v e, h.2.2.2 i]
    by_cases q : lo ≤ i ∧ i < k
    · rw [if_pos q, if_pos (by omega)]
    · rw [if_neg q, if_neg (by omega)]
def U16 : String := "java/lang/StringUTF16"
namespace Cmp5
def yN : MethodName := ⟨"java/lang/StringUTF16", "compress", "([CI[BII)I"⟩
abbrev yB : ByteArray := jdk_52_method_21_code
theorem d0 : decode yB 0 = .ok (.iconst 0, 1) := by decide +kernel
theorem d1 : decode yB 1 = .ok (.istore 5, 2) := by decide +kernel
theorem d3 : decode yB 3 = .ok (.iload 5, 2) := by decide +kernel
theorem d5 : decode yB 5 = .ok (.iload 4, 2) := by decide +kernel
theorem d7 : decode yB 7 = .ok (.if_icmp (.ge) 37, 3) := by decide +kernel
theorem d10 : decode yB 10 = .ok (.aload_n 0, 1) := by decide +kernel
theorem d11 : decode yB 11 = .ok (.iload_n 1, 1) := by decide +kernel
theorem d12 : decode yB 12 = .ok (.caload, 1) := by decide +kernel
theorem d13 : decode yB 13 = .ok (.istore 6, 2) := by decide +kernel
theorem d15 : decode yB 15 = .ok (.iload 6, 2) := by decide +kernel
theorem d17 : decode yB 17 = .ok (.sipush 255, 3) := by decide +kernel
theorem d20 : decode yB 20 = .ok (.if_icmp (.le) 6, 3) := by decide +kernel
theorem d26 : decode yB 26 = .ok (.aload_n 2, 1) := by decide +kernel
theorem d27 : decode yB 27 = .ok (.iload_n 3, 1) := by decide +kernel
theorem d28 : decode yB 28 = .ok (.iload 6, 2) := by decide +kernel
theorem d30 : decode yB 30 = .ok (.i2b, 1) := by decide +kernel
theorem d31 : decode yB 31 = .ok (.bastore, 1) := by decide +kernel
theorem d32 : decode yB 32 = .ok (.iinc 1 1, 3) := by decide +kernel
theorem d35 : decode yB 35 = .ok (.iinc 3 1, 3) := by decide +kernel
theorem d38 : decode yB 38 = .ok (.iinc 5 1, 3) := by decide +kernel
theorem d41 : decode yB 41 = .ok (.goto (-38), 3) := by decide +kernel
theorem d44 : decode yB 44 = .ok (.iload 4, 2) := by decide +kernel
theorem d46 : decode yB 46 = .ok (.ireturn, 1) := by decide +kernel
def site : List Cond := []
def tab : Cond := tabOf yN yB 7 (some .int) site
def P (b : Addr) (A : Cell) (d : Addr) (B : Cell) (o q len : Nat) (args : Array Value) (s : State) : Prop := args = #[.ref b, .int (Int32.ofNat o), .ref d, .int (Int32.ofNat q), .int (Int32.ofNat len)] ∧ Ch b A s ∧ Arr .byte d B s ∧ b ≠ d ∧ o + len ≤ A.slots.size ∧ q + len ≤ B.slots.size ∧ ∀ i, i < len → ¬ 255 < cv A (o + i)
def E (b : Addr) (A : Cell) (d : Addr) (B : Cell) (o q len : Nat) (r : Option Value) (s u : State) : Prop := r = some (.int (Int32.ofNat len)) ∧ ∃ B', Put d B' s u ∧ Laid B B' q (q + len) (fun j => Value.int (lo8 (cv A (o + (j - q)))))
/-- no char of the range above 255: len; the places written hold each char's low byte -/
theorem law (l : Launch) (b : Addr) (A : Cell) (d : Addr) (B : Cell) (o q len : Nat) : Law l yN 5 5 0 0 yB 7 (some .int) site (P b A d B o q len) (E b A d B o q len) (copyLocs d q len) 0 0 := by
  refine Law.of_walk (plainFor_of_name (by decide +kernel)) (by decide +kernel) (by decide +kernel) (by decide) (fun _ _ h => by rw [h.1]; rfl) (fun _ U U' hal hh h => ⟨h.1, h.2.1.mv hal hh, h.2.2.1.mv hal hh, h.2.2.2⟩) (fun r U U' V V' h1 hal h2 h => ⟨h.1, h.2.elim fun B' q => ⟨B', q.1.mv h1 h2, q.2⟩⟩) ?_
  intro p e s m args below meth c s₁ X0 hexec hbytes hml hret hlk hnm hown hh0 W hP
  obtain ⟨rfl, hA, hB, hne, l1, l2, hp⟩ := hP
  have c1 : Steps p.tables e below (s₁.setTop (entryFrame m #[.ref b, .int (Int32.ofNat o), .ref d, .int (Int32.ofNat q), .int (Int32.ofNat len)] 7)) (s₁.setTop (mkF m 0 #[.val (.ref b), .val (.int (Int32.ofNat o)), .val (.ref d), .val (.int (Int32.ofNat q)), .val (.int (Int32.ofNat len)), .unset, .unset] [])) := entry rfl
  have hA0 := hA.1.mv X0.warmed.alike hh0
  have hB0 := hB.mv X0.warmed.alike hh0
  have a31 := hA.1.2.2.2
  have c2 : Steps p.tables e below (s₁.setTop (entryFrame m #[.ref b, .int (Int32.ofNat o), .ref d, .int (Int32.ofNat q), .int (Int32.ofNat len)] 7)) (s₁.setTop (mkF m 3 #[.val (.ref b), .val (.int (Int32.ofNat o)), .val (.ref d), .val (.int (Int32.ofNat q)), .val (.int (Int32.ofNat len)), .val (.int 0), .unset] [])) := c1.trans (by
    refine iconstV X0.here hexec rfl 0 (hb hbytes d0) (by decide) ?_
    refine XS.istore X0.here hexec rfl (hb hbytes d1) rfl rfl ?_
    exact Steps.refl _)
  have loop : ∀ (r i : Nat), i + r = len → ∀ (z : Slot), (z = .unset ∨ ∃ w, z = .val w ∧ w.category = 1) → ∀ (Tl : State) (Bk : Cell), Stand p l e { frames := 0, locals := 0, cells := 0, slots := 0 } s m #[.ref b, .int (Int32.ofNat o), .ref d, .int (Int32.ofNat q), .int (Int32.ofNat len)] below meth c Tl ([] ++ copyLocs d q i) 0 0 → Put d Bk s₁ Tl → Laid B Bk q (q + i) (fun j => Value.int (lo8 (cv A (o + (j - q))))) →
      Steps p.tables e below (s₁.setTop (entryFrame m #[.ref b, .int (Int32.ofNat o), .ref d, .int (Int32.ofNat q), .int (Int32.ofNat len)] 7)) (Tl.setTop (mkF m 3 #[.val (.ref b), .val (.int (Int32.ofNat (o + i))), .val (.ref d), .val (.int (Int32.ofNat (q + i))), .val (.int (Int32.ofNat len)), .val (.int (Int32.ofNat i)), z] [])) → ∃ (T' : State) (B' : Cell) (z' : Slot), Stand p l e { frames := 0, locals := 0, cells := 0, slots := 0 } s m #[.ref b, .int (Int32.ofNat o), .ref d, .int (Int32.ofNat q), .int (Int32.ofNat len)] below meth c T' ([] ++ copyLocs d q len) 0 0 ∧ Put d B' s₁ T' ∧ Laid B B' q (q + len) (fun j => Value.int (lo8 (cv A (o + (j - q))))) ∧
      Steps p.tables e below (s₁.setTop (entryFrame m #[.ref b, .int (Int32.ofNat o), .ref d, .int (Int32.ofNat q), .int (Int32.ofNat len)] 7)) (T'.setTop (mkF m 3 #[.val (.ref b), .val (.int (Int32.ofNat (o + len))), .val (.ref d), .val (.int (Int32.ofNat (q + len))), .val (.int (Int32.ofNat len)), .val (.int (Int32.ofNat len)), z'] [])) := by
    intro r
    induction r with
    | zero =>
      intro i hi z hz Tl Bk Xl pl fl cl
      have hil : i = len := by omega
      rw [hil] at Xl fl cl
      exact ⟨Tl, Bk, z, Xl, pl, fl, cl⟩
    | succ r ih =>
      intro i hi z hz Tl Bk Xl pl fl cl
      have all := X0.warmed.alike.symm.trans Xl.warmed.alike
      have hAl := hA0.keep all (pl.other hne hA0.1)
      have hBk := hB0.like all pl.1 fl.1 fl.2.1 fl.2.2.1
      have hlt : q + i < Bk.slots.size := by rw [fl.2.2.1]; omega
      have c3 : Steps p.tables e below (s₁.setTop (entryFrame m #[.ref b, .int (Int32.ofNat o), .ref d, .int (Int32.ofNat q), .int (Int32.ofNat len)] 7)) (Tl.setTop (mkF m 12 #[.val (.ref b), .val (.int (Int32.ofNat (o + i))), .val (.ref d), .val (.int (Int32.ofNat (q + i))), .val (.int (Int32.ofNat len)), .val (.int (Int32.ofNat i)), z] [.int (Int32.ofNat (o + i)), .ref b])) := cl.trans (by
        refine XS.iload Xl.here hexec rfl (hb hbytes d3) rfl ?_
        refine XS.iload Xl.here hexec rfl (hb hbytes d5) rfl ?_
        refine XS.icmpNo Xl.here hexec rfl (hb hbytes d7) rfl (ii_ge_f (lt32 (by omega) (by omega))) ?_
        refine XS.aloadN Xl.here hexec rfl (hb hbytes d10) rfl rfl ?_
        refine XS.iloadN Xl.here hexec rfl (hb hbytes d11) rfl ?_
        exact Steps.refl _)
      have c4 : Steps p.tables e below (s₁.setTop (entryFrame m #[.ref b, .int (Int32.ofNat o), .ref d, .int (Int32.ofNat q), .int (Int32.ofNat len)] 7)) (Tl.setTop (mkF m 13 #[.val (.ref b), .val (.int (Int32.ofNat (o + i))), .val (.ref d), .val (.int (Int32.ofNat (q + i))), .val (.int (Int32.ofNat len)), .val (.int (Int32.ofNat i)), z] [.int (cv A (o + i))])) := c3.trans (by
        refine Xl.aget hexec hAl rfl (hA.get (i := o + i) (by omega)) rfl rfl (hb hbytes d12) ?_
        exact Steps.refl _)
      have c5 : Steps p.tables e below (s₁.setTop (entryFrame m #[.ref b, .int (Int32.ofNat o), .ref d, .int (Int32.ofNat q), .int (Int32.ofNat len)] 7)) (Tl.setTop (mkF m 15 #[.val (.ref b), .val (.int (Int32.ofNat (o + i))), .val (.ref d), .val (.int (Int32.ofNat (q + i))), .val (.int (Int32.ofNat len)), .val (.int (Int32.ofNat i)), .val (.int (cv A (o + i)))] [])) := c4.trans (by
        refine XS.istoreS Xl.here hexec rfl (hb hbytes d13) rfl rfl hz ?_
        exact Steps.refl _)
      have c6 : Steps p.tables e below (s₁.setTop (entryFrame m #[.ref b, .int (Int32.ofNat o), .ref d, .int (Int32.ofNat q), .int (Int32.ofNat len)] 7)) (Tl.setTop (mkF m 31 #[.val (.ref b), .val (.int (Int32.ofNat (o + i))), .val (.ref d), .val (.int (Int32.ofNat (q + i))), .val (.int (Int32.ofNat len)), .val (.int (Int32.ofNat i)), .val (.int (cv A (o + i)))] [.int (lo8 (cv A (o + i))), .int (Int32.ofNat (q + i)), .ref d])) := c5.trans (by
        refine XS.iload Xl.here hexec rfl (hb hbytes d15) rfl ?_
        refine sipushV Xl.here hexec rfl 255 (hb hbytes d17) (by decide) ?_
        refine XS.icmpYes Xl.here hexec rfl (pc0 := 20) rfl (hb hbytes d20) rfl (ii_le_t (hp i (by omega))) (by decide) rfl ?_
        refine XS.aloadN Xl.here hexec rfl (hb hbytes d26) rfl rfl ?_
        refine XS.iloadN Xl.here hexec rfl (hb hbytes d27) rfl ?_
        refine XS.iload Xl.here hexec rfl (hb hbytes d28) rfl ?_
        refine i2b Xl.here hexec rfl (hb hbytes d30) rfl ?_
        exact Steps.refl _)
      obtain ⟨T7, X7, p7, st7⟩ := Xl.aput hexec hBk rfl hlt rfl (fits_lo8 (cv A (o + i))) (g := (mkF m 31 #[.val (.ref b), .val (.int (Int32.ofNat (o + i))), .val (.ref d), .val (.int (Int32.ofNat (q + i))), .val (.int (Int32.ofNat len)), .val (.int (Int32.ofNat i)), .val (.int (cv A (o + i)))] [.int (lo8 (cv A (o + i))), .int (Int32.ofNat (q + i)), .ref d])) rfl (rest := []) rfl (hb hbytes d31)
      have c8 : Steps p.tables e below (s₁.setTop (entryFrame m #[.ref b, .int (Int32.ofNat o), .ref d, .int (Int32.ofNat q), .int (Int32.ofNat len)] 7)) (T7.setTop (mkF m 32 #[.val (.ref b), .val (.int (Int32.ofNat (o + i))), .val (.ref d), .val (.int (Int32.ofNat (q + i))), .val (.int (Int32.ofNat len)), .val (.int (Int32.ofNat i)), .val (.int (cv A (o + i)))] [])) := c6.trans (st7 _ (Steps.refl _))
      have c9 : Steps p.tables e below (s₁.setTop (entryFrame m #[.ref b, .int (Int32.ofNat o), .ref d, .int (Int32.ofNat q), .int (Int32.ofNat len)] 7)) (T7.setTop (mkF m 3 #[.val (.ref b), .val (.int (Int32.ofNat (o + i) + 1)), .val (.ref d), .val (.int (Int32.ofNat (q + i) + 1)), .val (.int (Int32.ofNat len)), .val (.int (Int32.ofNat i + 1)), .val (.int (cv A (o + i)))] [])) := c8.trans (by
        refine iincV X7.here hexec rfl 1 (hb hbytes d32) (by decide) rfl rfl ?_
        refine iincV X7.here hexec rfl 1 (hb hbytes d35) (by decide) rfl rfl ?_
        refine iincV X7.here hexec rfl 1 (hb hbytes d38) (by decide) rfl rfl ?_
        refine XS.goto X7.here hexec rfl (pc0 := 41) rfl (hb hbytes d41) (by decide) rfl ?_
        exact Steps.refl _)
      have c10 : Steps p.tables e below (s₁.setTop (entryFrame m #[.ref b, .int (Int32.ofNat o), .ref d, .int (Int32.ofNat q), .int (Int32.ofNat len)] 7)) (T7.setTop (mkF m 3 #[.val (.ref b), .val (.int (Int32.ofNat (o + (i + 1)))), .val (.ref d), .val (.int (Int32.ofNat (q + (i + 1)))), .val (.int (Int32.ofNat len)), .val (.int (Int32.ofNat (i + 1))), .val (.int (cv A (o + i)))] [])) := by
        have := c9
        rw [succ32, succ32, succ32] at this
        exact this
      exact ih (i + 1) (by omega) _ (Or.inr ⟨_, rfl, rfl⟩) T7 _ (by rw [copyLocs_step, ← List.append_assoc]; exact X7) (pl.trans p7) (fl.step (by omega) hlt (by simp)) c10
  obtain ⟨T9, B9, z9, X9, p9, f9, g9⟩ := loop len 0 (by omega) .unset (Or.inl rfl) s₁ B (by simpa [copyLocs] using X0) ⟨hB0.1, fun _ _ => rfl, rfl⟩ (Laid.zero _ _ _) c2
  have c11 : Steps p.tables e below (s₁.setTop (entryFrame m #[.ref b, .int (Int32.ofNat o), .ref d, .int (Int32.ofNat q), .int (Int32.ofNat len)] 7)) (T9.setTop (mkF m 46 #[.val (.ref b), .val (.int (Int32.ofNat (o + len))), .val (.ref d), .val (.int (Int32.ofNat (q + len))), .val (.int (Int32.ofNat len)), .val (.int (Int32.ofNat len)), z9] [.int (Int32.ofNat len)])) := g9.trans (by
    refine XS.iload X9.here hexec rfl (hb hbytes d3) rfl ?_
    refine XS.iload X9.here hexec rfl (hb hbytes d5) rfl ?_
    refine XS.icmpYes X9.here hexec rfl (pc0 := 7) rfl (hb hbytes d7) rfl (ii_ge_t (nlt32 (by omega) (Nat.le_refl _))) (by decide) rfl ?_
    refine XS.iload X9.here hexec rfl (hb hbytes d44) rfl ?_
    exact Steps.refl _)
  exact ⟨T9, some (.int (Int32.ofNat len)), _, _, _, X9, by simp, rfl, rfl, (fun h => by cases h), ⟨rfl, B9, p9.from hh0, f9⟩, fun fs hl => c11.trans (X9.ireturnOut hexec hret rfl (Or.inl rfl) (hb hbytes d46) hl)⟩
end Cmp5
namespace Cmp3
def yN : MethodName := ⟨"java/lang/StringUTF16", "compress", "([CII)[B"⟩
abbrev yB : ByteArray := jdk_52_method_16_code
theorem d0 : decode yB 0 = .ok (.iload_n 2, 1) := by decide +kernel
theorem d1 : decode yB 1 = .ok (.newarray .byte, 2) := by decide +kernel
theorem d3 : decode yB 3 = .ok (.astore_n 3, 1) := by decide +kernel
theorem d4 : decode yB 4 = .ok (.aload_n 0, 1) := by decide +kernel
theorem d5 : decode yB 5 = .ok (.iload_n 1, 1) := by decide +kernel
theorem d6 : decode yB 6 = .ok (.aload_n 3, 1) := by decide +kernel
theorem d7 : decode yB 7 = .ok (.iconst 0, 1) := by decide +kernel
theorem d8 : decode yB 8 = .ok (.iload_n 2, 1) := by decide +kernel
theorem d9 : decode yB 9 = .ok (.invokestatic 115, 3) := by decide +kernel
theorem d12 : decode yB 12 = .ok (.istore 4, 2) := by decide +kernel
theorem d14 : decode yB 14 = .ok (.iload 4, 2) := by decide +kernel
theorem d16 : decode yB 16 = .ok (.iload_n 2, 1) := by decide +kernel
theorem d17 : decode yB 17 = .ok (.if_icmp (.eq) 40, 3) := by decide +kernel
theorem d57 : decode yB 57 = .ok (.aload_n 3, 1) := by decide +kernel
theorem d58 : decode yB 58 = .ok (.areturn, 1) := by decide +kernel
def site : List Cond := [.arrayClass .byte, Cmp5.tab] ++ staticW U16 115 Cmp5.yN
def tab : Cond := tabOf yN yB 6 (some (.array .byte)) site
def P (b : Addr) (A : Cell) (o len : Nat) (args : Array Value) (s : State) : Prop := args = #[.ref b, .int (Int32.ofNat o), .int (Int32.ofNat len)] ∧ Ch b A s ∧ o + len ≤ A.slots.size ∧ len ≤ 536870912 ∧ ∀ i, i < len → ¬ 255 < cv A (o + i)
def E (b : Addr) (A : Cell) (o len : Nat) (r : Option Value) (s u : State) : Prop := NewArr .byte "[B" len (fun j => .int (lo8 (cv A (o + j)))) r s u ∧ u.heap.size = s.heap.size + 1
/-- no char of the range above 255: a new byte[] of their low bytes -/
theorem law (l : Launch) (b : Addr) (A : Cell) (o len : Nat) : Law l yN 3 3 1 18 yB 6 (some (.array .byte)) site (P b A o len) (E b A o len) [] 1 len := by
  refine Law.of_walk (plainFor_of_name (by decide +kernel)) (by decide +kernel) (by decide +kernel) (by decide) (fun _ _ h => by rw [h.1]; rfl) (fun _ U U' hal hh h => ⟨h.1, h.2.1.mv hal hh, h.2.2⟩) (fun r U U' V V' h1 hal h2 h => ⟨NewArr.mv r U U' V V' h1 hal h2 h.1, by rw [h1, h2]; exact h.2⟩) ?_
  intro p e s m args below meth c s₁ X0 hexec hbytes hml hret hlk hnm hown hh0 W hP
  obtain ⟨rfl, hA, l1, l2, hp⟩ := hP
  have a31 := hA.1.2.2.2
  have c1 : Steps p.tables e below (s₁.setTop (entryFrame m #[.ref b, .int (Int32.ofNat o), .int (Int32.ofNat len)] 6)) (s₁.setTop (mkF m 0 #[.val (.ref b), .val (.int (Int32.ofNat o)), .val (.int (Int32.ofNat len)), .unset, .unset, .unset] [])) := entry rfl
  have c2 : Steps p.tables e below (s₁.setTop (entryFrame m #[.ref b, .int (Int32.ofNat o), .int (Int32.ofNat len)] 6)) (s₁.setTop (mkF m 1 #[.val (.ref b), .val (.int (Int32.ofNat o)), .val (.int (Int32.ofNat len)), .unset, .unset, .unset] [.int (Int32.ofNat len)])) := c1.trans (by
    refine XS.iloadN X0.here hexec rfl (hb hbytes d0) rfl ?_
    exact Steps.refl _)
  obtain ⟨T3, B3, X3, ba3, bs3, bv3, bh3, bf3, st3⟩ := X0.anew hexec (atype := .byte) (wk W (.arrayClass .byte)) rfl (by show len * 1 ≤ _; omega) (by omega) (g := (mkF m 1 #[.val (.ref b), .val (.int (Int32.ofNat o)), .val (.int (Int32.ofNat len)), .unset, .unset, .unset] [.int (Int32.ofNat len)])) rfl (hb hbytes d1) (rest := []) rfl (Nat.le_refl _) (by show 0 + len ≤ len; omega)
  rw [hh0] at ba3 st3
  have kp3 : XT.Kept s T3 := (XT.Kept.of_eq hh0).push bh3
  have hA3 := hA.keep X3.warmed.alike (kp3 _ _ hA.1.1)
  have hne : b ≠ s.heap.size := hA.1.ne
  have c4 : Steps p.tables e below (s₁.setTop (entryFrame m #[.ref b, .int (Int32.ofNat o), .int (Int32.ofNat len)] 6)) (T3.setTop (mkF m 3 #[.val (.ref b), .val (.int (Int32.ofNat o)), .val (.int (Int32.ofNat len)), .unset, .unset, .unset] [.ref s.heap.size])) := c2.trans (st3 _ (Steps.refl _))
  have c5 : Steps p.tables e below (s₁.setTop (entryFrame m #[.ref b, .int (Int32.ofNat o), .int (Int32.ofNat len)] 6)) (T3.setTop (mkF m 9 #[.val (.ref b), .val (.int (Int32.ofNat o)), .val (.int (Int32.ofNat len)), .val (.ref s.heap.size), .unset, .unset] [.int (Int32.ofNat len), .int 0, .ref s.heap.size, .int (Int32.ofNat o), .ref b])) := c4.trans (by
    refine XS.astoreN X3.here hexec rfl (hb hbytes d3) rfl rfl rfl ?_
    refine XS.aloadN X3.here hexec rfl (hb hbytes d4) rfl rfl ?_
    refine XS.iloadN X3.here hexec rfl (hb hbytes d5) rfl ?_
    refine XS.aloadN X3.here hexec rfl (hb hbytes d6) rfl rfl ?_
    refine iconstV X3.here hexec rfl 0 (hb hbytes d7) (by decide) ?_
    refine XS.iloadN X3.here hexec rfl (hb hbytes d8) rfl ?_
    exact Steps.refl _)
  obtain ⟨v6, T6, X6, E6, g6⟩ := X3.callS hexec (Cmp5.law l b A s.heap.size B3 o 0 len) hown (wks W (staticW U16 115 Cmp5.yN)) (wk W Cmp5.tab) (W := 0) (Nat.le_of_ble_eq_true rfl) (Nat.le_of_ble_eq_true rfl) (Nat.le_refl _) (by show 0 + len + 0 ≤ len; omega) (g := (mkF m 9 #[.val (.ref b), .val (.int (Int32.ofNat o)), .val (.int (Int32.ofNat len)), .val (.ref s.heap.size), .unset, .unset] [.int (Int32.ofNat len), .int (Int32.ofNat 0), .ref s.heap.size, .int (Int32.ofNat o), .ref b])) rfl (by rw [hml]; rfl) c5 (argsL := [.ref b, .int (Int32.ofNat o), .ref s.heap.size, .int (Int32.ofNat 0), .int (Int32.ofNat len)]) (rest := []) rfl rfl (by show 2 * 0 + 0 ≤ _; decide) (hb hbytes d9) (⟨rfl, hA3, ba3, hne, l1, by rw [bs3]; simp, hp⟩)
  obtain ⟨rfl, B6, p6, f6⟩ := E6
  have c7 : Steps p.tables e below (s₁.setTop (entryFrame m #[.ref b, .int (Int32.ofNat o), .int (Int32.ofNat len)] 6)) (T6.setTop (mkF m 12 #[.val (.ref b), .val (.int (Int32.ofNat o)), .val (.int (Int32.ofNat len)), .val (.ref s.heap.size), .unset, .unset] [.int (Int32.ofNat len)])) := g6
  have c8 : Steps p.tables e below (s₁.setTop (entryFrame m #[.ref b, .int (Int32.ofNat o), .int (Int32.ofNat len)] 6)) (T6.setTop (mkF m 58 #[.val (.ref b), .val (.int (Int32.ofNat o)), .val (.int (Int32.ofNat len)), .val (.ref s.heap.size), .val (.int (Int32.ofNat len)), .unset] [.ref s.heap.size])) := c7.trans (by
    refine XS.istore X6.here hexec rfl (hb hbytes d12) rfl rfl ?_
    refine XS.iload X6.here hexec rfl (hb hbytes d14) rfl ?_
    refine XS.iloadN X6.here hexec rfl (hb hbytes d16) rfl ?_
    refine XS.icmpYes X6.here hexec rfl (pc0 := 17) rfl (hb hbytes d17) rfl (ii_eq_t rfl) (by decide) rfl ?_
    refine XS.aloadN X6.here hexec rfl (hb hbytes d57) rfl rfl ?_
    exact Steps.refl _)
  have X8 := X6.wide (L' := []) (cells' := 1) (slots' := len) (fun x hx hlt => by
    simp only [List.nil_append, copyLocs, List.mem_map, List.mem_range] at hx
    obtain ⟨i, -, rfl⟩ := hx
    exact absurd hlt (Nat.lt_irrefl _)) (Nat.le_refl _) (by omega)
  exact ⟨T6, some (.ref s.heap.size), _, _, _, X8, rfl, rfl, rfl, (fun h => by cases h), ⟨⟨rfl, B6, ba3.like (X3.warmed.alike.symm.trans X6.warmed.alike) p6.1 f6.1 f6.2.1 f6.2.2.1, f6.2.1.trans bv3, by rw [X6.warmed.alike.findClass, f6.1]; exact bf3, by rw [f6.2.2.1, bs3]; simp, fun j hj => by rw [f6.2.2.2 j, if_pos (by omega)]; rfl, kp3.put p6 (Nat.le_refl _)⟩, by rw [p6.2.2, bh3, hh0]; simp⟩, fun fs hl => c8.trans (X8.areturnOut hexec rfl hret rfl (hb hbytes d58) hl)⟩
end Cmp3
namespace CodL
def yN : MethodName := ⟨"java/lang/StringUTF16", "coderFromArrayLen", "([BI)B"⟩
abbrev yB : ByteArray := jdk_52_method_15_code
theorem d0 : decode yB 0 = .ok (.iload_n 1, 1) := by decide +kernel
theorem d1 : decode yB 1 = .ok (.aload_n 0, 1) := by decide +kernel
theorem d2 : decode yB 2 = .ok (.arraylength, 1) := by decide +kernel
theorem d3 : decode yB 3 = .ok (.isub, 1) := by decide +kernel
theorem d4 : decode yB 4 = .ok (.bipush 31, 2) := by decide +kernel
theorem d6 : decode yB 6 = .ok (.iushr, 1) := by decide +kernel
theorem d7 : decode yB 7 = .ok (.i2b, 1) := by decide +kernel
theorem d8 : decode yB 8 = .ok (.ireturn, 1) := by decide +kernel
def site : List Cond := []
def tab : Cond := tabOf yN yB 2 (some .byte) site
def P (d : Addr) (B : Cell) (args : Array Value) (s : State) : Prop := args = #[.ref d, .int (Int32.ofNat B.slots.size)] ∧ Arr .byte d B s
def E (r : Option Value) (s u : State) : Prop := XT.PureE (some (.int 0)) r s u
/-- an array as long as the number of chars: LATIN1 -/
theorem law (l : Launch) (d : Addr) (B : Cell) : Law l yN 2 2 0 0 yB 2 (some .byte) site (P d B) E [] 0 0 := by
  refine Law.of_walk (plainFor_of_name (by decide +kernel)) (by decide +kernel) (by decide +kernel) (by decide) (fun _ _ h => by rw [h.1]; rfl) (fun _ U U' hal hh h => ⟨h.1, h.2.mv hal hh⟩) (fun r U U' V V' h1 hal h2 h => XT.PureE.mv r U U' V V' h1 hal h2 h) ?_
  intro p e s m args below meth c s₁ X0 hexec hbytes hml hret hlk hnm hown hh0 W hP
  obtain ⟨rfl, hB⟩ := hP
  have hB0 := hB.mv X0.warmed.alike hh0
  have c1 : Steps p.tables e below (s₁.setTop (entryFrame m #[.ref d, .int (Int32.ofNat B.slots.size)] 2)) (s₁.setTop (mkF m 0 #[.val (.ref d), .val (.int (Int32.ofNat B.slots.size))] [])) := entry rfl
  have c2 : Steps p.tables e below (s₁.setTop (entryFrame m #[.ref d, .int (Int32.ofNat B.slots.size)] 2)) (s₁.setTop (mkF m 2 #[.val (.ref d), .val (.int (Int32.ofNat B.slots.size))] [.ref d, .int (Int32.ofNat B.slots.size)])) := c1.trans (by
    refine XS.iloadN X0.here hexec rfl (hb hbytes d0) rfl ?_
    refine XS.aloadN X0.here hexec rfl (hb hbytes d1) rfl rfl ?_
    exact Steps.refl _)
  have c3 : Steps p.tables e below (s₁.setTop (entryFrame m #[.ref d, .int (Int32.ofNat B.slots.size)] 2)) (s₁.setTop (mkF m 8 #[.val (.ref d), .val (.int (Int32.ofNat B.slots.size))] [.int (lo8 (ushr (Int32.ofNat B.slots.size - Int32.ofNat B.slots.size) 31))])) := c2.trans (by
    refine X0.alen hexec hB0 rfl rfl (hb hbytes d2) ?_
    refine XS.isub X0.here hexec rfl (hb hbytes d3) rfl ?_
    refine bipushV X0.here hexec rfl 31 (hb hbytes d4) (by decide) ?_
    refine iushr X0.here hexec rfl (hb hbytes d6) rfl ?_
    refine i2b X0.here hexec rfl (hb hbytes d7) rfl ?_
    exact Steps.refl _)
  have e0 : lo8 (ushr (Int32.ofNat B.slots.size - Int32.ofNat B.slots.size) 31) = 0 := by rw [Int32.sub_self]; decide
  rw [e0] at c3
  exact ⟨s₁, some (.int 0), _, _, _, X0, rfl, rfl, rfl, (fun h => by cases h), ⟨rfl, hh0⟩, fun fs hl => c3.trans (X0.ireturnOut hexec hret rfl (Or.inr (Or.inr (Or.inl rfl))) (hb hbytes d8) hl)⟩
end CodL
/-- the String at a is Latin-1 over a new byte[] (the heap's one new cell): the low bytes of the len chars of A from o on; every cell but a is kept -/
def Got (a : Addr) (D : Cell) (fV fC : Field) (A : Cell) (o len : Nat) (r : Option Value) (s u : State) : Prop := r = none ∧ ∃ D' V : Cell, Blank "java/lang/String" a D' u ∧ Same D D' [fV.slot, fC.slot] ∧ D'.slots[fV.slot]? = some (.ref s.heap.size) ∧ D'.slots[fC.slot]? = some (.int 0) ∧ Arr .byte s.heap.size V u ∧ V.vm = .none ∧ u.vm.findClass "[B" = some V.cls ∧ V.slots.size = len ∧ (∀ j, j < len → V.slots[j]? = some (.int (lo8 (cv A (o + j))))) ∧ (∀ (y : Addr) (c : Cell), y ≠ a → s.heap[y]? = some c → u.heap[y]? = some c) ∧ u.heap.size = s.heap.size + 1
theorem Got.mv {a : Addr} {D A : Cell} {fV fC : Field} {o len : Nat} : ∀ r (U U' V V' : State), U'.heap = U.heap → V.vm.Alike V'.vm → V'.heap = V.heap → Got a D fV fC A o len r U V → Got a D fV fC A o len r U' V' :=
  fun r U U' V V' h1 hal h2 ⟨e0, D', X, a1, a2, a3, a4, a5, a6, a7, a8, a9, a10, a11⟩ => ⟨e0, D', X, a1.mv hal h2, a2, by rw [h1]; exact a3, a4, by rw [h1]; exact a5.mv hal h2, a6, by rw [hal.findClass]; exact a7, a8, a9, by rw [h1, h2]; exact a10, by rw [h1, h2]; exact a11⟩
namespace New4
def yN : MethodName := ⟨"java/lang/String", "<init>", "([CIILjava/lang/Void;)V"⟩
abbrev yB : ByteArray := jdk_42_method_149_code
theorem d0 : decode yB 0 = .ok (.aload_n 0, 1) := by decide +kernel
theorem d1 : decode yB 1 = .ok (.invokespecial 1, 3) := by decide +kernel
theorem d4 : decode yB 4 = .ok (.iload_n 3, 1) := by decide +kernel
theorem d5 : decode yB 5 = .ok (.ifCond (.ne) 22, 3) := by decide +kernel
theorem d27 : decode yB 27 = .ok (.getstatic 38, 3) := by decide +kernel
theorem d30 : decode yB 30 = .ok (.ifCond (.eq) 28, 3) := by decide +kernel
theorem d33 : decode yB 33 = .ok (.aload_n 1, 1) := by decide +kernel
theorem d34 : decode yB 34 = .ok (.iload_n 2, 1) := by decide +kernel
theorem d35 : decode yB 35 = .ok (.iload_n 3, 1) := by decide +kernel
theorem d36 : decode yB 36 = .ok (.invokestatic 177, 3) := by decide +kernel
theorem d39 : decode yB 39 = .ok (.astore 5, 2) := by decide +kernel
theorem d41 : decode yB 41 = .ok (.aload_n 0, 1) := by decide +kernel
theorem d42 : decode yB 42 = .ok (.aload 5, 2) := by decide +kernel
theorem d44 : decode yB 44 = .ok (.iload_n 3, 1) := by decide +kernel
theorem d45 : decode yB 45 = .ok (.invokestatic 47, 3) := by decide +kernel
theorem d48 : decode yB 48 = .ok (.putfield 15, 3) := by decide +kernel
theorem d51 : decode yB 51 = .ok (.aload_n 0, 1) := by decide +kernel
theorem d52 : decode yB 52 = .ok (.aload 5, 2) := by decide +kernel
theorem d54 : decode yB 54 = .ok (.putfield 9, 3) := by decide +kernel
theorem d57 : decode yB 57 = .ok (.return_, 1) := by decide +kernel
def site : List Cond := [.fieldLink "java/lang/String" 38 "java/lang/String" "COMPACT_STRINGS" "Z", Cmp3.tab, CodL.tab, .laysFinal "java/lang/String" "java/lang/String" "value" "[B", .fieldLink "java/lang/String" 9 "java/lang/String" "value" "[B", .laysFinal "java/lang/String" "java/lang/String" "coder" "B", .fieldLink "java/lang/String" 15 "java/lang/String" "coder" "B"] ++ objW "java/lang/String" 1 ++ staticW "java/lang/String" 177 Cmp3.yN ++ staticW "java/lang/String" 47 CodL.yN
def tab : Cond := tabOf yN yB 6 none site
def P (a : Addr) (D : Cell) (fV fC : Field) (b : Addr) (A : Cell) (z : Int32) (o len : Nat) (args : Array Value) (s : State) : Prop := args = #[.ref a, .ref b, .int (Int32.ofNat o), .int (Int32.ofNat len), .null] ∧ Blank "java/lang/String" a D s ∧ Found "java/lang/String" "value" "[B" fV s ∧ Found "java/lang/String" "coder" "B" fC s ∧ Ch b A s ∧ StaticIs s "java/lang/String" "COMPACT_STRINGS" "Z" (.int z) ∧ ¬ z = 0 ∧ 0 < len ∧ o + len ≤ A.slots.size ∧ len ≤ 536870912 ∧ ∀ i, i < len → ¬ 255 < cv A (o + i)
def E (a : Addr) (D : Cell) (fV fC : Field) (A : Cell) (o len : Nat) (r : Option Value) (s u : State) : Prop := Got a D fV fC A o len r s u
/-- len > 0, no char of the range above 255: a Latin-1 String of their low bytes -/
theorem law (l : Launch) (a : Addr) (D : Cell) (fV fC : Field) (b : Addr) (A : Cell) (z : Int32) (o len : Nat) : Law l yN 5 4 2 35 yB 6 none site (P a D fV fC b A z o len) (E a D fV fC A o len) [⟨a, fC.slot⟩, ⟨a, fV.slot⟩] 1 len := by
  refine Law.of_walk (plainFor_of_name (by decide +kernel)) (by decide +kernel) (by decide +kernel) (by decide) (fun _ _ h => by rw [h.1]; rfl) (fun _ U U' hal hh h => ⟨h.1, h.2.1.mv hal hh, h.2.2.1.al hal, h.2.2.2.1.al hal, h.2.2.2.2.1.mv hal hh, h.2.2.2.2.2.1.there hal hh, h.2.2.2.2.2.2⟩) (fun r U U' V V' h1 hal h2 h => Got.mv r U U' V V' h1 hal h2 h) ?_
  intro p e s m args below meth c s₁ X0 hexec hbytes hml hret hlk hnm hown hh0 W hP
  obtain ⟨rfl, hB, f1, f2, hA, s1, hz, l0, l1, l2, hp⟩ := hP
  have a31 := hA.1.2.2.2
  have c1 : Steps p.tables e below (s₁.setTop (entryFrame m #[.ref a, .ref b, .int (Int32.ofNat o), .int (Int32.ofNat len), .null] 6)) (s₁.setTop (mkF m 0 #[.val (.ref a), .val (.ref b), .val (.int (Int32.ofNat o)), .val (.int (Int32.ofNat len)), .val .null, .unset] [])) := entry rfl
  have c2 : Steps p.tables e below (s₁.setTop (entryFrame m #[.ref a, .ref b, .int (Int32.ofNat o), .int (Int32.ofNat len), .null] 6)) (s₁.setTop (mkF m 1 #[.val (.ref a), .val (.ref b), .val (.int (Int32.ofNat o)), .val (.int (Int32.ofNat len)), .val .null, .unset] [.ref a])) := c1.trans (by
    refine XS.aloadN X0.here hexec rfl (hb hbytes d0) rfl rfl ?_
    exact Steps.refl _)
  obtain ⟨T3, X3, q3, st3⟩ := X0.oinit hexec hown (wks W (objW "java/lang/String" 1)) (g := (mkF m 1 #[.val (.ref a), .val (.ref b), .val (.int (Int32.ofNat o)), .val (.int (Int32.ofNat len)), .val .null, .unset] [.ref a])) rfl (by rw [hml]; rfl) (rest := []) rfl (hb hbytes d1) (W := 0) (by show 2 * 0 + 0 ≤ _; decide) (Nat.le_of_ble_eq_true rfl) (Nat.le_of_ble_eq_true rfl)
  have hh3 := q3.trans hh0
  have c4 : Steps p.tables e below (s₁.setTop (entryFrame m #[.ref a, .ref b, .int (Int32.ofNat o), .int (Int32.ofNat len), .null] 6)) (T3.setTop (mkF m 27 #[.val (.ref a), .val (.ref b), .val (.int (Int32.ofNat o)), .val (.int (Int32.ofNat len)), .val .null, .unset] [])) := (c2.trans (st3 _ (Steps.refl _))).trans (by
    refine XS.iloadN X3.here hexec rfl (hb hbytes d4) rfl ?_
    refine XS.ifYes X3.here hexec rfl (pc0 := 5) rfl (hb hbytes d5) rfl (i0_ne_t (nz32 (by omega) l0)) (by decide) rfl ?_
    exact Steps.refl _)
  obtain ⟨T5, X5, q5, st5⟩ := X3.sget hexec hown (wk W (.fieldLink "java/lang/String" 38 "java/lang/String" "COMPACT_STRINGS" "Z")) s1 (fun _ _ h => by rw [hh3]; exact h) (g := (mkF m 27 #[.val (.ref a), .val (.ref b), .val (.int (Int32.ofNat o)), .val (.int (Int32.ofNat len)), .val .null, .unset] [])) rfl (hb hbytes d27)
  have hh5 := q5.trans hh3
  have c6 : Steps p.tables e below (s₁.setTop (entryFrame m #[.ref a, .ref b, .int (Int32.ofNat o), .int (Int32.ofNat len), .null] 6)) (T5.setTop (mkF m 30 #[.val (.ref a), .val (.ref b), .val (.int (Int32.ofNat o)), .val (.int (Int32.ofNat len)), .val .null, .unset] [.int z])) := c4.trans (st5 _ (Steps.refl _))
  have c7 : Steps p.tables e below (s₁.setTop (entryFrame m #[.ref a, .ref b, .int (Int32.ofNat o), .int (Int32.ofNat len), .null] 6)) (T5.setTop (mkF m 36 #[.val (.ref a), .val (.ref b), .val (.int (Int32.ofNat o)), .val (.int (Int32.ofNat len)), .val .null, .unset] [.int (Int32.ofNat len), .int (Int32.ofNat o), .ref b])) := c6.trans (by
    refine XS.ifNo X5.here hexec rfl (hb hbytes d30) rfl (i0_eq_f hz) ?_
    refine XS.aloadN X5.here hexec rfl (hb hbytes d33) rfl rfl ?_
    refine XS.iloadN X5.here hexec rfl (hb hbytes d34) rfl ?_
    refine XS.iloadN X5.here hexec rfl (hb hbytes d35) rfl ?_
    exact Steps.refl _)
  obtain ⟨v8, T8, X8, E8, g8⟩ := X5.callS hexec (Cmp3.law l b A o len) hown (wks W (staticW "java/lang/String" 177 Cmp3.yN)) (wk W Cmp3.tab) (W := 0) (Nat.le_of_ble_eq_true rfl) (Nat.le_of_ble_eq_true rfl) (Nat.le_refl _) (by show 0 + len ≤ len; omega) (g := (mkF m 36 #[.val (.ref a), .val (.ref b), .val (.int (Int32.ofNat o)), .val (.int (Int32.ofNat len)), .val .null, .unset] [.int (Int32.ofNat len), .int (Int32.ofNat o), .ref b])) rfl (by rw [hml]; rfl) c7 (argsL := [.ref b, .int (Int32.ofNat o), .int (Int32.ofNat len)]) (rest := []) rfl rfl (by show 2 * 0 + 0 ≤ _; decide) (hb hbytes d36) (⟨rfl, hA.mv X5.warmed.alike hh5, l1, l2, hp⟩)
  obtain ⟨e8, z8⟩ := E8
  obtain ⟨rfl, N, n1, n2, n3, n4, n5, n6⟩ := NewArr.mv _ T5 s _ _ hh5.symm (Vm.Alike.refl _) rfl e8
  rw [hh5] at z8
  have hB1 := hB.keep X8.warmed.alike (n6 _ _ hB.1)
  have hne : s.heap.size ≠ a := (Nat.ne_of_lt (Array.getElem?_eq_some_iff.mp hB.1).1).symm
  have c9 : Steps p.tables e below (s₁.setTop (entryFrame m #[.ref a, .ref b, .int (Int32.ofNat o), .int (Int32.ofNat len), .null] 6)) (T8.setTop (mkF m 39 #[.val (.ref a), .val (.ref b), .val (.int (Int32.ofNat o)), .val (.int (Int32.ofNat len)), .val .null, .unset] [.ref s.heap.size])) := g8
  have c10 : Steps p.tables e below (s₁.setTop (entryFrame m #[.ref a, .ref b, .int (Int32.ofNat o), .int (Int32.ofNat len), .null] 6)) (T8.setTop (mkF m 45 #[.val (.ref a), .val (.ref b), .val (.int (Int32.ofNat o)), .val (.int (Int32.ofNat len)), .val .null, .val (.ref s.heap.size)] [.int (Int32.ofNat N.slots.size), .ref s.heap.size, .ref a])) := by
    have hc : Steps p.tables e below (s₁.setTop (entryFrame m #[.ref a, .ref b, .int (Int32.ofNat o), .int (Int32.ofNat len), .null] 6)) (T8.setTop (mkF m 45 #[.val (.ref a), .val (.ref b), .val (.int (Int32.ofNat o)), .val (.int (Int32.ofNat len)), .val .null, .val (.ref s.heap.size)] [.int (Int32.ofNat len), .ref s.heap.size, .ref a])) := c9.trans (by
      refine XS.astore X8.here hexec rfl (hb hbytes d39) rfl rfl rfl ?_
      refine XS.aloadN X8.here hexec rfl (hb hbytes d41) rfl rfl ?_
      refine XS.aload X8.here hexec rfl (hb hbytes d42) rfl rfl ?_
      refine XS.iloadN X8.here hexec rfl (hb hbytes d44) rfl ?_
      exact Steps.refl _)
    rw [n4]; exact hc
  obtain ⟨v11, T11, X11, E11, g11⟩ := X8.callS hexec (CodL.law l s.heap.size N) hown (wks W (staticW "java/lang/String" 47 CodL.yN)) (wk W CodL.tab) (W := 1) (Nat.le_of_ble_eq_true rfl) (Nat.le_of_ble_eq_true rfl) (Nat.le_refl _) (by show 0 + len + 0 ≤ len; omega) (g := (mkF m 45 #[.val (.ref a), .val (.ref b), .val (.int (Int32.ofNat o)), .val (.int (Int32.ofNat len)), .val .null, .val (.ref s.heap.size)] [.int (Int32.ofNat N.slots.size), .ref s.heap.size, .ref a])) rfl (by rw [hml]; rfl) c10 (argsL := [.ref s.heap.size, .int (Int32.ofNat N.slots.size)]) (rest := [.ref a]) rfl rfl (by show 2 * 0 + (1 + 0) ≤ _; decide) (hb hbytes d45) (⟨rfl, n1⟩)
  obtain ⟨rfl, q11⟩ := E11
  have hB11 := hB1.mv (X8.warmed.alike.symm.trans X11.warmed.alike) q11
  have c12 : Steps p.tables e below (s₁.setTop (entryFrame m #[.ref a, .ref b, .int (Int32.ofNat o), .int (Int32.ofNat len), .null] 6)) (T11.setTop (mkF m 48 #[.val (.ref a), .val (.ref b), .val (.int (Int32.ofNat o)), .val (.int (Int32.ofNat len)), .val .null, .val (.ref s.heap.size)] [.int 0, .ref a])) := g11
  obtain ⟨T13, X13, p13, bl13, sl13, st13⟩ := X11.finit hexec hown (wk W (.fieldLink "java/lang/String" 15 "java/lang/String" "coder" "B")) (Or.inr ⟨_, (wk W (.laysFinal "java/lang/String" "java/lang/String" "coder" "B"))⟩) (Or.inl ⟨rfl, hnm⟩) f2 (Or.inl rfl) hB11 (t := .byte) (by decide +kernel) rfl (g := (mkF m 48 #[.val (.ref a), .val (.ref b), .val (.int (Int32.ofNat o)), .val (.int (Int32.ofNat len)), .val .null, .val (.ref s.heap.size)] [.int 0, .ref a])) rfl (rest := []) rfl (hb hbytes d48)
  have c14 : Steps p.tables e below (s₁.setTop (entryFrame m #[.ref a, .ref b, .int (Int32.ofNat o), .int (Int32.ofNat len), .null] 6)) (T13.setTop (mkF m 54 #[.val (.ref a), .val (.ref b), .val (.int (Int32.ofNat o)), .val (.int (Int32.ofNat len)), .val .null, .val (.ref s.heap.size)] [.ref s.heap.size, .ref a])) := (c12.trans (st13 _ (Steps.refl _))).trans (by
    refine XS.aloadN X13.here hexec rfl (hb hbytes d51) rfl rfl ?_
    refine XS.aload X13.here hexec rfl (hb hbytes d52) rfl rfl ?_
    exact Steps.refl _)
  obtain ⟨T15, X15, p15, bl15, sl15, st15⟩ := X13.finit hexec hown (wk W (.fieldLink "java/lang/String" 9 "java/lang/String" "value" "[B")) (Or.inr ⟨_, (wk W (.laysFinal "java/lang/String" "java/lang/String" "value" "[B"))⟩) (Or.inl ⟨rfl, hnm⟩) f1 (Or.inl rfl) bl13 (t := (.array .byte)) (by decide +kernel) rfl (g := (mkF m 54 #[.val (.ref a), .val (.ref b), .val (.int (Int32.ofNat o)), .val (.int (Int32.ofNat len)), .val .null, .val (.ref s.heap.size)] [.ref s.heap.size, .ref a])) rfl (rest := []) rfl (hb hbytes d54)
  have c16 : Steps p.tables e below (s₁.setTop (entryFrame m #[.ref a, .ref b, .int (Int32.ofNat o), .int (Int32.ofNat len), .null] 6)) (T15.setTop (mkF m 57 #[.val (.ref a), .val (.ref b), .val (.int (Int32.ofNat o)), .val (.int (Int32.ofNat len)), .val .null, .val (.ref s.heap.size)] [])) := c14.trans (st15 _ (Steps.refl _))
  have ap := apart (Or.inr ⟨_, (wk W (.laysFinal "java/lang/String" "java/lang/String" "value" "[B"))⟩) (Or.inr ⟨_, (wk W (.laysFinal "java/lang/String" "java/lang/String" "coder" "B"))⟩) f1 f2 (t₁ := .array .byte) (t₂ := .byte) (by decide +kernel) (by decide +kernel) (by decide)
  have al := X8.warmed.alike.symm.trans X15.warmed.alike
  have n7 : T11.heap[s.heap.size]? = some N := by rw [q11]; exact n1.1
  exact ⟨T15, none, _, _, _, X15, by simp, rfl, by omega, (fun _ => rfl), ⟨rfl, _, N, bl15, ((Same.refl D _).set _ (by simp)).set _ (by simp), sl15, (Cell.slots_setSlot_ne _ ap).trans sl13, n1.keep al (p15.other hne (p13.other hne n7)), n2, by rw [al.findClass]; exact n3, n4, n5, fun y c h1 h2 => p15.other h1 (p13.other h1 (by rw [q11]; exact n6 y c h2)), by rw [p15.2.2, p13.2.2, q11]; exact z8⟩, fun fs hl => c16.trans (X15.returnOut hexec hret (hb hbytes d57) hl)⟩
end New4
namespace New1
def yN : MethodName := ⟨"java/lang/String", "<init>", "([C)V"⟩
abbrev yB : ByteArray := jdk_42_method_3_code
theorem d0 : decode yB 0 = .ok (.aload_n 0, 1) := by decide +kernel
theorem d1 : decode yB 1 = .ok (.aload_n 1, 1) := by decide +kernel
theorem d2 : decode yB 2 = .ok (.iconst 0, 1) := by decide +kernel
theorem d3 : decode yB 3 = .ok (.aload_n 1, 1) := by decide +kernel
theorem d4 : decode yB 4 = .ok (.arraylength, 1) := by decide +kernel
theorem d5 : decode yB 5 = .ok (.aconst_null, 1) := by decide +kernel
theorem d6 : decode yB 6 = .ok (.invokespecial 27, 3) := by decide +kernel
theorem d9 : decode yB 9 = .ok (.return_, 1) := by decide +kernel
def site : List Cond := [New4.tab] ++ initW "java/lang/String" 27 New4.yN
def tab : Cond := tabOf yN yB 2 none site
def P (a : Addr) (D : Cell) (fV fC : Field) (b : Addr) (A : Cell) (z : Int32) (args : Array Value) (s : State) : Prop := args = #[.ref a, .ref b] ∧ Blank "java/lang/String" a D s ∧ Found "java/lang/String" "value" "[B" fV s ∧ Found "java/lang/String" "coder" "B" fC s ∧ Ch b A s ∧ StaticIs s "java/lang/String" "COMPACT_STRINGS" "Z" (.int z) ∧ ¬ z = 0 ∧ 0 < A.slots.size ∧ A.slots.size ≤ 536870912 ∧ ∀ i, i < A.slots.size → ¬ 255 < cv A i
def E (a : Addr) (D : Cell) (fV fC : Field) (A : Cell) (r : Option Value) (s u : State) : Prop := Got a D fV fC A 0 A.slots.size r s u
/-- new String(chars), not empty, no char above 255: a Latin-1 String of their low bytes -/
theorem law (l : Launch) (a : Addr) (D : Cell) (fV fC : Field) (b : Addr) (A : Cell) (z : Int32) : Law l yN 2 1 3 52 yB 2 none site (P a D fV fC b A z) (E a D fV fC A) [⟨a, fC.slot⟩, ⟨a, fV.slot⟩] 1 A.slots.size := by
  refine Law.of_walk (plainFor_of_name (by decide +kernel)) (by decide +kernel) (by decide +kernel) (by decide) (fun _ _ h => by rw [h.1]; rfl) (fun _ U U' hal hh h => ⟨h.1, h.2.1.mv hal hh, h.2.2.1.al hal, h.2.2.2.1.al hal, h.2.2.2.2.1.mv hal hh, h.2.2.2.2.2.1.there hal hh, h.2.2.2.2.2.2⟩) (fun r U U' V V' h1 hal h2 h => Got.mv r U U' V V' h1 hal h2 h) ?_
  intro p e s m args below meth c s₁ X0 hexec hbytes hml hret hlk hnm hown hh0 W hP
  obtain ⟨rfl, hB, f1, f2, hA, s1, hz, l0, l2, hp⟩ := hP
  have c1 : Steps p.tables e below (s₁.setTop (entryFrame m #[.ref a, .ref b] 2)) (s₁.setTop (mkF m 0 #[.val (.ref a), .val (.ref b)] [])) := entry rfl
  have c2 : Steps p.tables e below (s₁.setTop (entryFrame m #[.ref a, .ref b] 2)) (s₁.setTop (mkF m 6 #[.val (.ref a), .val (.ref b)] [.null, .int (Int32.ofNat A.slots.size), .int 0, .ref b, .ref a])) := c1.trans (by
    refine XS.aloadN X0.here hexec rfl (hb hbytes d0) rfl rfl ?_
    refine XS.aloadN X0.here hexec rfl (hb hbytes d1) rfl rfl ?_
    refine iconstV X0.here hexec rfl 0 (hb hbytes d2) (by decide) ?_
    refine XS.aloadN X0.here hexec rfl (hb hbytes d3) rfl rfl ?_
    refine X0.alen hexec (hA.1.mv X0.warmed.alike hh0) rfl rfl (hb hbytes d4) ?_
    refine XS.aconstNull X0.here hexec rfl (hb hbytes d5) ?_
    exact Steps.refl _)
  obtain ⟨v3, T3, X3, E3, g3⟩ := X0.callN hexec (New4.law l a D fV fC b A z 0 A.slots.size) rfl hown (wks W (initW "java/lang/String" 27 New4.yN)) (W New4.tab (by simp only [site, List.mem_cons, List.mem_append, true_or, or_true])) (W := 0) (Nat.le_of_ble_eq_true rfl) (Nat.le_of_ble_eq_true rfl) (Nat.le_refl _) (by show 0 + A.slots.size ≤ A.slots.size; omega) (g := (mkF m 6 #[.val (.ref a), .val (.ref b)] [.null, .int (Int32.ofNat A.slots.size), .int (Int32.ofNat 0), .ref b, .ref a])) rfl (by rw [hml]; rfl) c2 (argsL := [.ref b, .int (Int32.ofNat 0), .int (Int32.ofNat A.slots.size), .null]) (rest := []) rfl rfl (by show 2 * 0 + 0 ≤ _; decide) (hb hbytes d6) (⟨rfl, hB.mv X0.warmed.alike hh0, f1.al X0.warmed.alike, f2.al X0.warmed.alike, hA.mv X0.warmed.alike hh0, s1.there X0.warmed.alike hh0, hz, l0, by omega, l2, fun i hi => by rw [Nat.zero_add]; exact hp i hi⟩)
  have e0 := Got.mv _ s₁ s _ _ hh0.symm (Vm.Alike.refl _) rfl E3
  obtain rfl := e0.1
  have c4 : Steps p.tables e below (s₁.setTop (entryFrame m #[.ref a, .ref b] 2)) (T3.setTop (mkF m 9 #[.val (.ref a), .val (.ref b)] [])) := g3
  exact ⟨T3, none, _, _, _, X3, by simp, rfl, by omega, (fun _ => rfl), e0, fun fs hl => c4.trans (X3.returnOut hexec hret (hb hbytes d9) hl)⟩
theorem pays {l : Launch} {R : Room} {p : Program} {e : Env} {below : List Frame} {s : State} {sargs : Array Value} {len W : Nat} (a : Addr) (D : Cell) (fV fC : Field) (b : Addr) (A : Cell) (z : Int32) (htab : tab.before sargs s = true) (hfr : 4 ≤ R.frames) (hlo : W + 65 ≤ R.locals) :
    Back l R p e below s sargs yN len W (fun A₁ a₁ => A₁.cells + 1 ≤ R.cells ∧ A₁.slots + A.slots.size ≤ R.slots ∧ P a D fV fC b A z a₁ A₁.U) (fun A₁ _ v₁ B₁ => E a D fV fC A v₁ A₁.U B₁.U ∧ B₁.locs = A₁.locs ++ [⟨a, fC.slot⟩, ⟨a, fV.slot⟩] ∧ B₁.cells = A₁.cells + 1 ∧ B₁.slots = A₁.slots + A.slots.size) :=
  (law l a D fV fC b A z).pays htab hfr (by omega)
end New1
/-- the byte, read back as charAt reads it, is the char -/
theorem lo8_mask {x : Int32} (h0 : ¬ x < 0) (h1 : ¬ 255 < x) : lo8 x &&& 255 = x := by
  have t : ∀ k : Fin 256, lo8 (Int32.ofNat k.val) &&& 255 = Int32.ofNat k.val := by decide +kernel
  rw [Int32.lt_iff_toInt_lt] at h0 h1
  have e0 : (0 : Int32).toInt = 0 := rfl
  have e1 : (255 : Int32).toInt = 255 := rfl
  obtain ⟨k, hk⟩ : ∃ k : Nat, x.toInt = k := ⟨x.toInt.toNat, by omega⟩
  have hx : x = Int32.ofNat k := Int32.toInt_inj.mp (by rw [hk, Int32.toInt_ofNat_small (by omega)])
  rw [hx]
  exact t ⟨k, by omega⟩
end StrChars
namespace StrChars.Road
open Jvm Sem ClassFile Op Lib Jvm.Stand Jvm.Free Jvm.Free.XT
open Jvm.Lib.Cold (StaticIs)
abbrev ST : String := "java/lang/String"
/-- every table word that New1's law asks, flat -/
abbrev words : List Jvm.Cond := [.code New1.yN New1.yB 2 none, .initialized ST, .methodLink ST 27 New4.yN, .instanceMethod New4.yN,
  .code New4.yN New4.yB 6 none, .fieldLink ST 38 ST "COMPACT_STRINGS" "Z", .laysFinal ST ST "value" "[B", .fieldLink ST 9 ST "value" "[B", .laysFinal ST ST "coder" "B", .fieldLink ST 15 ST "coder" "B",
  .methodLink ST 1 Lib.objectInit, .instanceMethod Lib.objectInit, .code Lib.objectInit ⟨#[0xb1]⟩ 1 none, .methodLink ST 177 Cmp3.yN, .static Cmp3.yN, .methodLink ST 47 CodL.yN, .static CodL.yN,
  .code Cmp3.yN Cmp3.yB 6 (some (.array .byte)), .initialized U16, .arrayClass .byte, .methodLink U16 115 Cmp5.yN, .static Cmp5.yN, .code Cmp5.yN Cmp5.yB 7 (some .int), .code CodL.yN CodL.yB 2 (some .byte)]
theorem tab_of {a : Array Value} {s : State} (h : ∀ w ∈ words, w.before a s = true) : New1.tab.before a s = true := by
  have h5 : Cmp5.tab.before a s = true := unparts (wk h (.code Cmp5.yN Cmp5.yB 7 (some .int))) (wks h (.initialized Cmp5.yN.cls :: Cmp5.site))
  have hc : CodL.tab.before a s = true := unparts (wk h (.code CodL.yN CodL.yB 2 (some .byte))) (wks h (.initialized CodL.yN.cls :: CodL.site))
  have q5 : ∀ w ∈ Cmp5.tab :: words, w.before a s = true := fun w hw => (List.mem_cons.mp hw).elim (fun e => e ▸ h5) (h w)
  have h3 : Cmp3.tab.before a s = true := unparts (wk q5 (.code Cmp3.yN Cmp3.yB 6 (some (.array .byte)))) (wks q5 (.initialized Cmp3.yN.cls :: Cmp3.site))
  have q3 : ∀ w ∈ Cmp3.tab :: CodL.tab :: words, w.before a s = true := fun w hw => (List.mem_cons.mp hw).elim (fun e => e ▸ h3) fun hw => (List.mem_cons.mp hw).elim (fun e => e ▸ hc) (h w)
  have h4 : New4.tab.before a s = true := unparts (wk q3 (.code New4.yN New4.yB 6 none)) (wks q3 (.initialized New4.yN.cls :: New4.site))
  have q4 : ∀ w ∈ New4.tab :: words, w.before a s = true := fun w hw => (List.mem_cons.mp hw).elim (fun e => e ▸ h4) (h w)
  exact unparts (wk q4 (.code New1.yN New1.yB 2 none)) (wks q4 (.initialized New1.yN.cls :: New1.site))
/-- the words ride from the start Z to the walk's own state -/
theorem moved {Z s : State} {a0 args : Array Value} (hZ : Z.Warmed39 s.vm) (hw : ∀ d ∈ words, d.before a0 Z = true) : ∀ d ∈ words, d.before args s = true := fun d hd => by
  have q := hw d hd
  have t : ∀ d ∈ words, d = .arrayClass .byte ∨ (d.onTables && d.keepsFace) = true := by decide +kernel
  rcases t d hd with rfl | t
  · exact RoadKit.mvA hZ q
  · exact RoadKit.mv hZ q t
/-- WHAT COMES BACK, over the tables of the start Z: h the heap at the call, h' behind it -/
def Q (Z : State) (x : Addr) (A : Cell) (h : Heap) (v : Option Value) (h' : Heap) (L : List Loc) : Prop := v = none ∧ (∀ y ∈ L, y.base = x) ∧ RoadKit.Keep h h' [x] ∧ h'.size = h.size + 1 ∧ RoadKit.Exa Z h' x ST ∧ RoadKit.Fld Z h' x ST "value" "[B" (.ref h.size) ∧ RoadKit.Fld Z h' x ST "coder" "B" (.int 0) ∧
  (∃ V : Cell, RoadKit.Arr Z h' h.size V .byte ∧ V.vm = .none ∧ Z.vm.findClass "[B" = some V.cls ∧ V.slots.size = A.slots.size ∧ ∀ j, j < A.slots.size → V.slots[j]? = some (.int (lo8 (cv A j)))) ∧
  ∀ (O n d : String) (w : Value), RoadKit.Fld Z h x O n d w → RoadKit.slotOf Z O n d ≠ RoadKit.slotOf Z ST "value" "[B" → RoadKit.slotOf Z O n d ≠ RoadKit.slotOf Z ST "coder" "B" → RoadKit.Fld Z h' x O n d w
/-- **new String(chars) AT A CALL, IN THE ROAD'S FORM**: for specialBack behind newO: x the fresh String, b the char[] with the cell A -/
theorem back {p : Program} {l : Launch} {e : Env} {R : Room} {s : State} {args : Array Value} {below : List Frame} {len W : Nat} {Z : State} {a0 : Array Value} {h : Heap} (hZ : Z.Warmed39 s.vm) (hw : ∀ d ∈ words, d.before a0 Z = true) {kI : Nat} (wi : (Jvm.Cond.instantiable ST kI).before a0 Z = true)
    {x b : Addr} {A : Cell} {z : Int32} {v0 c0 : Value} (E : RoadKit.Exa Z h x ST) (V : RoadKit.Fld Z h x ST "value" "[B" v0) (C : RoadKit.Fld Z h x ST "coder" "B" c0) (K : RoadKit.Arr Z h b A .char) (hty : Typed .char A) (S : RoadKit.Sta Z h ST "COMPACT_STRINGS" "Z" (.int z)) (hz : ¬ z = 0)
    (l0 : 0 < A.slots.size) (l2 : A.slots.size ≤ 536870912) (hp : ∀ i, i < A.slots.size → ¬ 255 < cv A i) (hfr : 4 ≤ R.frames) (hlo : W + 65 ≤ R.locals) :
    Back l R p e below s args New1.yN len W (fun P a => a = #[.ref x, .ref b] ∧ P.U.heap = h ∧ P.cells + 1 ≤ R.cells ∧ P.slots + A.slots.size ≤ R.slots)
      (fun P _ v B => ∃ L, Q Z x A h v B.U.heap L ∧ B.locs = P.locs ++ L ∧ B.cells = P.cells + 1 ∧ B.slots = P.slots + A.slots.size) := by
  intro m meth c P g ig mk a X hg hsize hdg hW hn hp'
  obtain ⟨rfl, rfl, r1, r2⟩ := hp'
  have al : Z.vm.Alike P.U.vm := hZ.alike.trans X.warmed.alike
  obtain ⟨D, cfV, kV, iV, fV, hD, gV, stV, knV, obV, asV, slV⟩ := id V
  obtain ⟨D', cfC, kC, iC, fC, hD', gC, stC, -, -, asC, slC⟩ := id C
  cases hD.symm.trans hD'
  obtain ⟨D2, kD, e1, e2, e3, e4, e5⟩ := id E
  cases hD.symm.trans e1
  obtain ⟨c2, k2, i1, i2, i3, -⟩ := Cond.instantiable_spec wi
  cases e2.symm.trans i1
  cases e3.symm.trans i2
  obtain ⟨kU, u1, u2⟩ := al.2.2 _ _ e3
  have hB : Blank ST x D P.U := ⟨hD, ⟨knV, fun q hq => by rw [hq] at obV; cases obV⟩, by rw [al.findClass]; exact e2, kU, u1, by rw [u2]; exact i3, by rw [u2]; exact e5 i3⟩
  have F1 : Found ST "value" "[B" fV P.U := ⟨SBG.found_only al ⟨cfV, kV, iV, gV⟩, stV⟩
  have F2 : Found ST "coder" "B" fC P.U := ⟨SBG.found_only al ⟨cfC, kC, iC, gC⟩, stC⟩
  have hA : Ch b A P.U := ⟨⟨K.1, State.isArrayOf_alike al K.2.1, K.2.2, by omega⟩, hty⟩
  have hS : StaticIs P.U ST "COMPACT_STRINGS" "Z" (.int z) := by
    obtain ⟨cfS, iS, kS, fS, st, cS, t1, t2, t3, t4, t5, t6, t7⟩ := S
    exact StaticIs.there (s := { Z with heap := P.U.heap }) ⟨cfS, iS, kS, fS, st, cS, t1, t2, t3, t4, t5, (fun q => by rw [q] at t6; cases t6), t7⟩ al rfl
  obtain ⟨v, B, X', ⟨⟨hv, E', V', q1, q2, q3, q4, q5, q6, q7, q8, q9, q10, q11⟩, hl, hc, hs⟩, st⟩ := New1.pays x D fV fC b A z (tab_of (moved hZ hw)) hfr hlo m meth c P g ig mk _ X hg hsize hdg hW hn ⟨r1, r2, rfl, hB, F1, F2, hA, hS, hz, l0, l2, hp⟩
  have al' : Z.vm.Alike B.U.vm := hZ.alike.trans X'.warmed.alike
  have hsz : E'.slots.size = D.slots.size := by
    obtain ⟨-, -, -, kB, w1, w2, w3⟩ := q1
    obtain ⟨kB', y1, y2⟩ := al'.2.2 _ _ e3
    rw [q2.2.1] at w1
    cases w1.symm.trans y1
    rw [w3, e5 i3, y2]
  refine ⟨v, B, X', ⟨_, ⟨hv, ?_, ⟨by omega, fun y cy hy hn' => q10 y cy (by simpa using hn') hy, fun y cy hy => ?_⟩, q11, ⟨E', _, q1.1, by rw [q2.2.1]; exact e2, by rw [q2.2.1]; exact e3, by rw [q2.1]; exact obV, fun _ => by rw [hsz]; exact e5 i3⟩,
    ⟨E', cfV, kV, iV, fV, q1.1, gV, stV, by rw [q2.1]; exact knV, by rw [q2.1]; exact obV, by rw [q2.2.1]; exact asV, q3⟩, ⟨E', cfC, kC, iC, fC, q1.1, gC, stC, by rw [q2.1]; exact knV, by rw [q2.1]; exact obV, by rw [q2.2.1]; exact asC, q4⟩,
    ⟨V', ⟨q5.1, State.isArrayOf_alike al'.symm q5.2.1, q5.2.2.1⟩, q6, by rw [← al'.findClass]; exact q7, q8, fun j hj => by have := q9 j hj; rwa [Nat.zero_add] at this⟩, fun O n d w F n1 n2 => ?_⟩, hl, hc, hs⟩, st⟩
  · intro y hy
    simp only [List.mem_cons, List.not_mem_nil, or_false] at hy
    rcases hy with rfl | rfl <;> rfl
  · by_cases q : y = x
    · subst q
      cases hD.symm.trans hy
      exact ⟨E', q1.1, q2.2.1, q2.1, hsz⟩
    · exact ⟨cy, q10 y cy q hy, rfl, rfl, rfl⟩
  · obtain ⟨D3, cf, k, i, f, g1, g2, g3, g4, g5, g6, g7⟩ := F
    cases hD.symm.trans g1
    simp only [RoadKit.slotOf, g2, gV, gC, Option.map_some, Option.getD_some] at n1 n2
    exact ⟨E', cf, k, i, f, q1.1, g2, g3, by rw [q2.1]; exact g4, by rw [q2.1]; exact g5, by rw [q2.2.1]; exact g6, by rw [q2.2.2 f.slot (by simp [n1, n2])]; exact g7⟩
end StrChars.Road
namespace StrChars.Road
open Jvm Sem ClassFile Op Lib Jvm.Stand Jvm.Free Jvm.Free.XT
/-- WHAT COMES BACK, the byte[] as a list of values -/
def QA (Z : State) (x : Addr) (zn : Int32) (cs : List Int32) (h : Heap) (v : Option Value) (h' : Heap) (L : List Loc) : Prop := v = none ∧ (∀ y ∈ L, y.base = x) ∧ RoadKit.Keep h h' [x] ∧ h'.size = h.size + 1 ∧ RoadKit.Exa Z h' x ST ∧ RoadKit.Fld Z h' x ST "value" "[B" (.ref h.size) ∧ RoadKit.Fld Z h' x ST "coder" "B" (.int 0) ∧
  (∃ kb, Z.vm.findClass "[B" = some kb ∧ RoadKit.Arv Z h' h.size kb .byte zn (cs.map fun c => .int (lo8 c)) (.int 0)) ∧
  ∀ (O n d : String) (w : Value), RoadKit.Fld Z h x O n d w → RoadKit.slotOf Z O n d ≠ RoadKit.slotOf Z ST "value" "[B" → RoadKit.slotOf Z O n d ≠ RoadKit.slotOf Z ST "coder" "B" → RoadKit.Fld Z h' x O n d w
/-- **new String(chars) AT A CALL, THE ARRAYS AS LISTS**: the char[] at b holds cs, not empty, no char above 255 -/
theorem backArv {p : Program} {l : Launch} {e : Env} {R : Room} {s : State} {args : Array Value} {below : List Frame} {len W : Nat} {Z : State} {a0 : Array Value} {h : Heap} (hZ : Z.Warmed39 s.vm) (hw : ∀ d ∈ words, d.before a0 Z = true) {kI : Nat} (wi : (Jvm.Cond.instantiable ST kI).before a0 Z = true)
    {x b : Addr} {k : ClassId} {zn z : Int32} {cs : List Int32} {dv v0 c0 : Value} (E : RoadKit.Exa Z h x ST) (V : RoadKit.Fld Z h x ST "value" "[B" v0) (C : RoadKit.Fld Z h x ST "coder" "B" c0) (K : RoadKit.Arv Z h b k .char zn (cs.map Value.int) dv) (S : RoadKit.Sta Z h ST "COMPACT_STRINGS" "Z" (.int z)) (hz : ¬ z = 0)
    (hlen : zn.toNatClampNeg = cs.length) (h0 : 0 < cs.length) (hbig : cs.length ≤ 536870912) (hall : ∀ c ∈ cs, ¬ 255 < c) (hfr : 4 ≤ R.frames) (hlo : W + 65 ≤ R.locals) :
    Back l R p e below s args New1.yN len W (fun P a => a = #[.ref x, .ref b] ∧ P.U.heap = h ∧ P.cells + 1 ≤ R.cells ∧ P.slots + cs.length ≤ R.slots)
      (fun P _ v B => ∃ L, QA Z x zn cs h v B.U.heap L ∧ B.locs = P.locs ++ L ∧ B.cells = P.cells + 1 ∧ B.slots = P.slots + cs.length) := by
  obtain ⟨A, K1, K2, K3, K4, K5, K6⟩ := K
  have e : A.slots.size = cs.length := K3.trans hlen
  have hat : ∀ (i : Nat) (hi : i < cs.length), A.slots[i]? = some (.int cs[i]) := fun i hi => by rw [K5 i (by omega)]; simp [List.getD_eq_getElem?_getD, hi]
  have hcv : ∀ (i : Nat) (hi : i < cs.length), cv A i = cs[i] := fun i hi => by unfold cv; rw [hat i hi]
  have hty : Typed .char A := fun i v hv => by
    have hi : i < A.slots.size := (Array.getElem?_eq_some_iff.mp hv).1
    have q := K5 i hi
    rw [hv] at q
    rw [Option.some.inj q]
    exact K6 i hi
  refine Back.mono (back hZ hw wi E V C K1 hty S hz (by omega) (by omega) (fun i hi => by rw [hcv i (by omega)]; exact hall _ (List.getElem_mem _)) hfr hlo) (fun P a hp => ⟨hp.1, hp.2.1, hp.2.2.1, by rw [e]; exact hp.2.2.2⟩) (fun P a v B hp hq => ?_)
  obtain ⟨L, ⟨q1, q2, q3, q4, q5, q6, q7, ⟨V', v1, v2, v3, v4, v5⟩, q9⟩, hl, hc, hs⟩ := hq
  refine ⟨L, ⟨q1, q2, q3, q4, q5, q6, q7, ⟨V'.cls, v3, V', v1, rfl, by rw [v4, e, hlen], K4, fun i hi => ?_, fun i hi => ?_⟩, q9⟩, hl, hc, by rw [hs, e]⟩
  · have hi' : i < cs.length := by omega
    rw [v5 i (by omega), hcv i hi']; simp [List.getD_eq_getElem?_getD, hi']
  · have hi' : i < cs.length := by omega
    simp only [List.getD_eq_getElem?_getD, List.getElem?_map, List.getElem?_eq_getElem hi', Option.map_some, Option.getD_some]
    exact fits_lo8 _
end StrChars.Road
namespace StrChars.Road
open Jvm Sem ClassFile Op Lib Jvm.Stand Jvm.Free Jvm.Free.XT
/-- WHAT COMES BACK, in the writer's own shape -/
def QV (Z : State) (x : Addr) (N : Int32) (bs : List Int32) (h : Heap) (n0 : Nat) (v : Option Value) (h' : Heap) (L : List Loc) : Prop := v = none ∧ RoadKit.Fr n0 L ∧ RoadKit.Keep h h' [x] ∧ RoadKit.Exa Z h' x ST ∧ RoadKit.Fld Z h' x ST "coder" "B" (.int 0) ∧
  ∃ (t : Addr) (kb : ClassId), n0 ≤ t ∧ h.size ≤ t ∧ ¬ t = x ∧ RoadKit.Fld Z h' x ST "value" "[B" (.ref t) ∧ RoadKit.Arv Z h' t kb .byte N (bs.map Value.int) (.int 0)
/-- **new String(chars) AT A CALL, FOR THE WRITER**: a char[] of n known ints, each 0 to 255 -/
theorem backV {p : Program} {l : Launch} {e : Env} {R : Room} {s : State} {args : Array Value} {below : List Frame} {len W : Nat} {Z : State} {a0 : Array Value} {h : Heap} (hZ : Z.Warmed39 s.vm) (hw : ∀ d ∈ words, d.before a0 Z = true) {kI : Nat} (wi : (Jvm.Cond.instantiable ST kI).before a0 Z = true)
    {x b : Addr} {kC : ClassId} {cs bs : List Int32} {d v0 c0 : Value} {z N : Int32} {n n0 : Nat} (hx0 : n0 ≤ x) (hh0 : n0 ≤ h.size) (E : RoadKit.Exa Z h x ST) (V : RoadKit.Fld Z h x ST "value" "[B" v0) (C : RoadKit.Fld Z h x ST "coder" "B" c0) (K : RoadKit.Arv Z h b kC .char N (cs.map Value.int) d) (S : RoadKit.Sta Z h ST "COMPACT_STRINGS" "Z" (.int z)) (hz : ¬ z = 0)
    (hn : cs.length = n) (hN : N = Int32.ofNat n) (l0 : 0 < n) (l2 : n ≤ 4000) (hp : ∀ c ∈ cs, ¬ c < 0 ∧ ¬ (255 : Int32) < c) (hb : bs = cs.map (fun c => c.toInt8.toInt32)) (hfr : 4 ≤ R.frames) (hlo : W + 65 ≤ R.locals) :
    Back l R p e below s args (⟨"java/lang/String", "<init>", "([C)V"⟩ : MethodName) len W (fun P a => a = #[.ref x, .ref b] ∧ P.U.heap = h ∧ P.cells + 1 ≤ R.cells ∧ P.slots + n ≤ R.slots)
      (fun P _ v B => ∃ L, QV Z x N bs h n0 v B.U.heap L ∧ B.locs = P.locs ++ L ∧ B.cells = P.cells + 1 ∧ B.slots = P.slots + n) := by
  subst hn hN hb
  refine Back.mono (backArv hZ hw wi E V C K S hz (n32 (by omega)) l0 (by omega) (fun c hc => (hp c hc).2) hfr hlo) (fun P a hp => hp) (fun P a v B hp hq => ?_)
  obtain ⟨L, ⟨q1, q2, q3, q4, q5, q6, q7, ⟨kb, v1, v2⟩, q9⟩, hl, hc, hs⟩ := hq
  exact ⟨L, ⟨q1, fun y hy => by rw [q2 y hy]; exact hx0, q3, q5, q7, h.size, kb, hh0, Nat.le_refl _, Nat.ne_of_gt E.lt, q6, by rw [List.map_map]; exact v2⟩, hl, hc, hs⟩
end StrChars.Road
namespace StrChars
open Jvm Sem ClassFile Op Lib Jvm.Stand Jvm.Free.XT Jvm.Free.ALB Jvm.Free.JM Jvm.Free
open Jvm.Lib.Cold (StaticIs)
def hi8 (x : Int32) : Int32 := lo8 (x >>> ((8 : Int32) &&& 31))
/-- what StringUTF16.getChar makes of two bytes -/
def pairCh (u v : Int32) : Int32 := (((u &&& 255) <<< ((0 : Int32) &&& 31)) ||| ((v &&& 255) <<< ((8 : Int32) &&& 31))).toUInt32.toUInt16.toUInt32.toInt32
theorem lo8_and (x : Int32) : (lo8 x &&& 255).toBitVec.toNat = x.toBitVec.toNat % 256 := by
  have h : (lo8 x).toBitVec = (x.toBitVec.signExtend 8).signExtend 32 := by rw [lo8, Int8.toBitVec_toInt32, Int32.toBitVec_toInt8]
  rw [Int32.toBitVec_and, BitVec.toNat_and, h]
  have e : ((x.toBitVec.signExtend 8).signExtend 32).toNat % 256 = x.toBitVec.toNat % 256 := by
    rw [BitVec.toNat_signExtend]
    have hlt := x.toBitVec.isLt
    simp only [BitVec.toNat_setWidth, BitVec.toNat_signExtend]
    split <;> split <;> omega
  rw [← e]
  exact Nat.and_two_pow_sub_one_eq_mod _ 8
theorem pair_says {c : Int32} (h0 : ¬ c < 0) (h1 : ¬ 65535 < c) : pairCh (lo8 c) (hi8 c) = c := by
  rw [Int32.lt_iff_toInt_lt] at h0 h1
  have e0 : (0 : Int32).toInt = 0 := rfl
  have e1 : (65535 : Int32).toInt = 65535 := rfl
  have hc : c.toInt = c.toBitVec.toNat := by
    have := c.toBitVec.isLt
    have e : c.toInt = c.toBitVec.toInt := rfl
    rw [e] at h0 h1
    rw [e]
    rw [BitVec.toInt_eq_toNat_cond] at h0 h1 ⊢
    split at h0 <;> split <;> omega
  have hn : c.toBitVec.toNat < 65536 := by omega
  have a1 := lo8_and c
  have a2 : (hi8 c &&& 255).toBitVec.toNat = c.toBitVec.toNat / 256 := by
    rw [hi8, lo8_and]
    have e : ((8 : Int32) &&& 31) = 8 := by decide
    rw [e, Int32.toBitVec_shiftRight]
    have e2 : ((8 : Int32).toBitVec.smod 32) = 8#32 := by decide
    rw [e2, BitVec.sshiftRight_eq', BitVec.toNat_sshiftRight_of_msb_false (by rw [BitVec.msb_eq_false_iff_two_mul_lt]; omega)]
    show c.toBitVec.toNat >>> 8 % 256 = _
    rw [Nat.shiftRight_eq_div_pow]
    omega
  unfold pairCh
  apply Int32.toBitVec_inj.mp
  apply BitVec.eq_of_toNat_eq
  have f0 : ((0 : Int32) &&& 31) = 0 := by decide
  have f8 : ((8 : Int32) &&& 31) = 8 := by decide
  rw [f0, f8]
  have g : (((lo8 c &&& 255) <<< (0 : Int32)) ||| ((hi8 c &&& 255) <<< (8 : Int32))).toBitVec.toNat = c.toBitVec.toNat := by
    rw [Int32.toBitVec_or, Int32.toBitVec_shiftLeft, Int32.toBitVec_shiftLeft]
    have s0 : ((0 : Int32).toBitVec.smod 32) = 0#32 := by decide
    have s8 : ((8 : Int32).toBitVec.smod 32) = 8#32 := by decide
    rw [s0, s8, BitVec.toNat_or]
    simp only [BitVec.shiftLeft_eq', BitVec.toNat_shiftLeft, a1, a2]
    show (c.toBitVec.toNat % 256) <<< 0 % 2 ^ 32 ||| (c.toBitVec.toNat / 256) <<< 8 % 2 ^ 32 = _
    rw [Nat.shiftLeft_zero, Nat.mod_eq_of_lt (show c.toBitVec.toNat % 256 < 2 ^ 32 by omega), Nat.mod_eq_of_lt (show (c.toBitVec.toNat / 256) <<< 8 < 2 ^ 32 by rw [Nat.shiftLeft_eq]; omega), Nat.or_comm, ← Nat.shiftLeft_add_eq_or_of_lt (by omega), Nat.shiftLeft_eq]
    omega
  show BitVec.toNat (((((lo8 c &&& 255) <<< (0 : Int32)) ||| ((hi8 c &&& 255) <<< (8 : Int32))).toBitVec.setWidth 16).setWidth 32) = _
  rw [BitVec.toNat_setWidth, BitVec.toNat_setWidth, g]
  omega
end StrChars
namespace StrChars
open Jvm Sem ClassFile Op Lib Jvm.Stand Jvm.Free.XT Jvm.Free.ALB Jvm.Free.JM Jvm.Free
open Jvm.Lib.Cold (StaticIs)
/-- the array's cell V codes the n chars f 0 .. f (n - 1) by the coder cd, as the JDK does: coder 1 just where some char is above 255 -/
def Cod (cd : Int32) (n : Nat) (f : Nat → Int32) (V : Cell) : Prop := (cd = 0 ∧ V.slots.size = n ∧ ∀ j, j < n → V.slots[j]? = some (.int (lo8 (f j))) ∧ ¬ 255 < f j) ∨ (cd = 1 ∧ V.slots.size = 2 * n ∧ (∀ j, j < n → V.slots[2 * j]? = some (.int (lo8 (f j))) ∧ V.slots[2 * j + 1]? = some (.int (hi8 (f j)))) ∧ ∃ j, j < n ∧ 255 < f j)
/-- **x is a String of the n chars f 0 .. f (n - 1)**, Latin-1 or UTF-16; its array at t has the cell V -/
def Txt (x t : Addr) (V : Cell) (cd : Int32) (n : Nat) (f : Nat → Int32) (U : State) : Prop := Exact "java/lang/String" x U ∧ Has x "java/lang/String" "value" "[B" (.ref t) U ∧ Has x "java/lang/String" "coder" "B" (.int cd) U ∧ XT.Arr .byte t V U ∧ Cod cd n f V ∧ ∀ j, j < n → ¬ f j < 0 ∧ ¬ 65535 < f j
theorem Txt.mv {x t : Addr} {V : Cell} {cd : Int32} {n : Nat} {f : Nat → Int32} {U U' : State} (h : Txt x t V cd n f U) (hal : U.vm.Alike U'.vm) (hh : U'.heap = U.heap) : Txt x t V cd n f U' := ⟨h.1.mv hal hh, h.2.1.mv hal hh, h.2.2.1.mv hal hh, h.2.2.2.1.mv hal hh, h.2.2.2.2⟩
end StrChars
namespace StrChars.Road
open Jvm Sem ClassFile Op Lib Jvm.Stand Jvm.Free Jvm.Free.XT
open Jvm.Lib.Cold (StaticIs)
theorem consq {a : Array Value} {s : State} {c : Jvm.Cond} {L : List Jvm.Cond} (h0 : c.before a s = true) (h : ∀ w ∈ L, w.before a s = true) : ∀ w ∈ c :: L, w.before a s = true := fun w hw => (List.mem_cons.mp hw).elim (fun e => e ▸ h0) (h w)
/-- the bytes of the chars cs, low before high -/
def wideBytes : List Int32 → List Value
  | [] => []
  | c :: cs => .int (lo8 c) :: .int (hi8 c) :: wideBytes cs
theorem wide_lo (d : Value) : ∀ (cs : List Int32) (j : Nat), j < cs.length → (wideBytes cs).getD (2 * j) d = .int (lo8 (cs.getD j 0))
  | [], j, h => absurd h (Nat.not_lt_zero j)
  | c :: cs, 0, _ => rfl
  | c :: cs, j + 1, h => by
    have q := wide_lo d cs j (by simpa using h)
    rw [show 2 * (j + 1) = 2 * j + 1 + 1 from by omega]
    simpa [wideBytes] using q
theorem wide_hi (d : Value) : ∀ (cs : List Int32) (j : Nat), j < cs.length → (wideBytes cs).getD (2 * j + 1) d = .int (hi8 (cs.getD j 0))
  | [], j, h => absurd h (Nat.not_lt_zero j)
  | c :: cs, 0, _ => rfl
  | c :: cs, j + 1, h => by
    have q := wide_hi d cs j (by simpa using h)
    rw [show 2 * (j + 1) + 1 = 2 * j + 1 + 1 + 1 from by omega]
    simpa [wideBytes] using q
theorem low_at (d : Value) (cs : List Int32) (j : Nat) (h : j < cs.length) : (cs.map fun c => Value.int (lo8 c)).getD j d = .int (lo8 (cs.getD j 0)) := by
  simp [List.getD_eq_getElem?_getD, h]
/-- an array of N2 bytes vs codes the chars cs by the coder cd -/
def CodA (cs : List Int32) (cd N2 : Int32) (vs : List Value) : Prop := (cd = 0 ∧ N2 = Int32.ofNat cs.length ∧ vs = (cs.map fun c => Value.int (lo8 c)) ∧ ∀ c ∈ cs, ¬ 255 < c) ∨ (cd = 1 ∧ N2 = Int32.ofNat (2 * cs.length) ∧ vs = wideBytes cs ∧ ∃ c ∈ cs, 255 < c)
theorem CodA.cod {cs : List Int32} {cd N2 : Int32} {vs : List Value} {V : Cell} (h : CodA cs cd N2 vs) (hn : 2 * cs.length < 2 ^ 31) (hs : V.slots.size = N2.toNatClampNeg) (hv : RoadKit.Has V vs (.int 0)) : Cod cd cs.length (fun j => cs.getD j 0) V := by
  rcases h with ⟨rfl, rfl, rfl, h⟩ | ⟨rfl, rfl, rfl, c, hc, hw⟩
  · rw [n32 (by omega)] at hs
    exact Or.inl ⟨rfl, hs, fun j hj => ⟨by rw [hv j (by omega), low_at _ _ _ hj], by
      have e : cs.getD j 0 = cs[j] := by simp [List.getD_eq_getElem?_getD, hj]
      show ¬ 255 < cs.getD j 0
      rw [e]; exact h _ (List.getElem_mem _)⟩⟩
  · rw [n32 (by omega)] at hs
    obtain ⟨j, hj, rfl⟩ := List.getElem_of_mem hc
    exact Or.inr ⟨rfl, hs, fun j hj => ⟨by rw [hv _ (by omega), wide_lo _ _ _ hj], by rw [hv _ (by omega), wide_hi _ _ _ hj]⟩, j, hj, by
      have e : cs.getD j 0 = cs[j] := by simp [List.getD_eq_getElem?_getD, hj]
      show 255 < cs.getD j 0
      rw [e]; exact hw⟩
/-- an object of exactly java/lang/String, its two fields found: as the laws ask it -/
theorem strObj {Z U : State} {a0 : Array Value} {kI : Nat} (wi : (Jvm.Cond.instantiable ST kI).before a0 Z = true) (al : Z.vm.Alike U.vm) {x : Addr} {v0 c0 : Value} (E : RoadKit.Exa Z U.heap x ST) (V : RoadKit.Fld Z U.heap x ST "value" "[B" v0) (C : RoadKit.Fld Z U.heap x ST "coder" "B" c0) :
    ∃ (D : Cell) (fV fC : Field), Blank ST x D U ∧ Found ST "value" "[B" fV U ∧ Found ST "coder" "B" fC U ∧ D.slots[fV.slot]? = some v0 ∧ D.slots[fC.slot]? = some c0 ∧ RoadKit.slotOf Z ST "value" "[B" = fV.slot ∧ RoadKit.slotOf Z ST "coder" "B" = fC.slot := by
  obtain ⟨D, cfV, kV, iV, fV, hD, gV, stV, knV, obV, asV, slV⟩ := V
  obtain ⟨D', cfC, kC, iC, fC, hD', gC, stC, -, -, asC, slC⟩ := C
  cases hD.symm.trans hD'
  obtain ⟨D2, kD, e1, e2, e3, e4, e5⟩ := E
  cases hD.symm.trans e1
  obtain ⟨c2, k2, i1, i2, i3, -⟩ := Cond.instantiable_spec wi
  cases e2.symm.trans i1
  cases e3.symm.trans i2
  obtain ⟨kU, u1, u2⟩ := al.2.2 _ _ e3
  exact ⟨D, fV, fC, ⟨hD, ⟨knV, fun q hq => by rw [hq] at obV; cases obV⟩, by rw [al.findClass]; exact e2, kU, u1, by rw [u2]; exact i3, by rw [u2]; exact e5 i3⟩, ⟨SBG.found_only al ⟨cfV, kV, iV, gV⟩, stV⟩, ⟨SBG.found_only al ⟨cfC, kC, iC, gC⟩, stC⟩, slV, slC, by simp [RoadKit.slotOf, gV], by simp [RoadKit.slotOf, gC]⟩
theorem sta_is {Z U : State} (al : Z.vm.Alike U.vm) {C n d : String} {v : Value} (S : RoadKit.Sta Z U.heap C n d v) : StaticIs U C n d v := by
  obtain ⟨cfS, iS, kS, fS, st, cS, t1, t2, t3, t4, t5, t6, t7⟩ := S
  exact StaticIs.there (s := { Z with heap := U.heap }) ⟨cfS, iS, kS, fS, st, cS, t1, t2, t3, t4, t5, (fun q => by rw [q] at t6; cases t6), t7⟩ al rfl
end StrChars.Road
namespace StrChars
open Jvm Sem ClassFile Op Lib Jvm.Stand Jvm.Free.XT Jvm.Free.ALB Jvm.Free.JM Jvm.Free
open Jvm.Lib.Cold (StaticIs)
/-- what place i of a byte[]'s cell holds -/
def yv (A : Cell) (i : Nat) : Int32 := match A.slots[i]? with | some (.int x) => x | _ => 0
theorem yv_get {a : Addr} {A : Cell} {U : State} (h : XT.Arr .byte a A U) (ht : Typed .byte A) {i : Nat} (hi : i < A.slots.size) : A.slots[i]? = some (.int (yv A i)) := by
  have e := Array.getElem?_eq_getElem hi
  have f := ht i _ e
  unfold yv; rw [e]
  generalize A.slots[i] = v at f
  cases v <;> simp [fits] at f ⊢
/-- the two arrays are equal, place for place -/
def EqC (A B : Cell) : Prop := A.slots.size = B.slots.size ∧ ∀ i, i < A.slots.size → yv A i = yv B i
/-- a boolean that says whether p -/
def Says01 (q : Prop) (r : Option Value) (s u : State) : Prop := ∃ v : Int32, r = some (.int v) ∧ u.heap = s.heap ∧ ((v = 1 ∧ q) ∨ (v = 0 ∧ ¬ q))
theorem Says01.mv {q : Prop} : ∀ r (U U' V V' : State), U'.heap = U.heap → V.vm.Alike V'.vm → V'.heap = V.heap → Says01 q r U V → Says01 q r U' V' :=
  fun r U U' V V' h1 _ h2 ⟨v, a, b, c⟩ => ⟨v, a, by rw [h1, h2]; exact b, c⟩
namespace LEq
def yN : MethodName := ⟨"java/lang/StringLatin1", "equals", "([B[B)Z"⟩
abbrev yB : ByteArray := jdk_43_method_13_code
theorem d0 : decode yB 0 = .ok (.aload_n 0, 1) := by decide +kernel
theorem d1 : decode yB 1 = .ok (.arraylength, 1) := by decide +kernel
theorem d2 : decode yB 2 = .ok (.aload_n 1, 1) := by decide +kernel
theorem d3 : decode yB 3 = .ok (.arraylength, 1) := by decide +kernel
theorem d4 : decode yB 4 = .ok (.if_icmp (.ne) 30, 3) := by decide +kernel
theorem d7 : decode yB 7 = .ok (.iconst 0, 1) := by decide +kernel
theorem d8 : decode yB 8 = .ok (.istore_n 2, 1) := by decide +kernel
theorem d9 : decode yB 9 = .ok (.iload_n 2, 1) := by decide +kernel
theorem d10 : decode yB 10 = .ok (.aload_n 0, 1) := by decide +kernel
theorem d11 : decode yB 11 = .ok (.arraylength, 1) := by decide +kernel
theorem d12 : decode yB 12 = .ok (.if_icmp (.ge) 20, 3) := by decide +kernel
theorem d15 : decode yB 15 = .ok (.aload_n 0, 1) := by decide +kernel
theorem d16 : decode yB 16 = .ok (.iload_n 2, 1) := by decide +kernel
theorem d17 : decode yB 17 = .ok (.baload, 1) := by decide +kernel
theorem d18 : decode yB 18 = .ok (.aload_n 1, 1) := by decide +kernel
theorem d19 : decode yB 19 = .ok (.iload_n 2, 1) := by decide +kernel
theorem d20 : decode yB 20 = .ok (.baload, 1) := by decide +kernel
theorem d21 : decode yB 21 = .ok (.if_icmp (.eq) 5, 3) := by decide +kernel
theorem d24 : decode yB 24 = .ok (.iconst 0, 1) := by decide +kernel
theorem d25 : decode yB 25 = .ok (.ireturn, 1) := by decide +kernel
theorem d26 : decode yB 26 = .ok (.iinc 2 1, 3) := by decide +kernel
theorem d29 : decode yB 29 = .ok (.goto (-20), 3) := by decide +kernel
theorem d32 : decode yB 32 = .ok (.iconst 1, 1) := by decide +kernel
theorem d33 : decode yB 33 = .ok (.ireturn, 1) := by decide +kernel
theorem d34 : decode yB 34 = .ok (.iconst 0, 1) := by decide +kernel
theorem d35 : decode yB 35 = .ok (.ireturn, 1) := by decide +kernel
def site : List Cond := []
def tab : Cond := tabOf yN yB 3 (some .boolean) site
def P (a : Addr) (A : Cell) (b : Addr) (B : Cell) (args : Array Value) (s : State) : Prop := args = #[.ref a, .ref b] ∧ XT.Arr .byte a A s ∧ Typed .byte A ∧ XT.Arr .byte b B s ∧ Typed .byte B
/-- whether two byte[] are equal, place for place -/
theorem law (l : Launch) (a : Addr) (A : Cell) (b : Addr) (B : Cell) : Law l yN 2 2 0 0 yB 3 (some .boolean) site (P a A b B) (Says01 (EqC A B)) [] 0 0 := by
  refine Law.of_walk (plainFor_of_name (by decide +kernel)) (by decide +kernel) (by decide +kernel) (by decide) (fun _ _ h => by rw [h.1]; rfl) (fun _ U U' hal hh h => ⟨h.1, h.2.1.mv hal hh, h.2.2.1, h.2.2.2.1.mv hal hh, h.2.2.2.2⟩) (fun r U U' V V' h1 hal h2 h => Says01.mv r U U' V V' h1 hal h2 h) ?_
  intro p e s m args below meth c s₁ X0 hexec hbytes hml hret hlk hnm hown hh0 W hP
  obtain ⟨rfl, hA, tA, hB, tB⟩ := hP
  have a31 := hA.2.2.2
  have b31 := hB.2.2.2
  have hA0 := hA.mv X0.warmed.alike hh0
  have hB0 := hB.mv X0.warmed.alike hh0
  have c1 : Steps p.tables e below (s₁.setTop (entryFrame m #[.ref a, .ref b] 3)) (s₁.setTop (mkF m 0 #[.val (.ref a), .val (.ref b), .unset] [])) := entry rfl
  have c2 : Steps p.tables e below (s₁.setTop (entryFrame m #[.ref a, .ref b] 3)) (s₁.setTop (mkF m 4 #[.val (.ref a), .val (.ref b), .unset] [.int (Int32.ofNat B.slots.size), .int (Int32.ofNat A.slots.size)])) := c1.trans (by
    refine XS.aloadN X0.here hexec rfl (hb hbytes d0) rfl rfl ?_
    refine X0.alen hexec hA0 rfl rfl (hb hbytes d1) ?_
    refine XS.aloadN X0.here hexec rfl (hb hbytes d2) rfl rfl ?_
    refine X0.alen hexec hB0 rfl rfl (hb hbytes d3) ?_
    exact Steps.refl _)
  by_cases hs : A.slots.size = B.slots.size
  · have c3 : Steps p.tables e below (s₁.setTop (entryFrame m #[.ref a, .ref b] 3)) (s₁.setTop (mkF m 9 #[.val (.ref a), .val (.ref b), .val (.int 0)] [])) := c2.trans (by
      refine XS.icmpNo X0.here hexec rfl (hb hbytes d4) rfl (ii_ne_f (by rw [hs])) ?_
      refine iconstV X0.here hexec rfl 0 (hb hbytes d7) (by decide) ?_
      refine XS.istoreN X0.here hexec rfl (hb hbytes d8) rfl rfl ?_
      exact Steps.refl _)
    have loop : ∀ (r i : Nat), i + r = A.slots.size → (∀ j, j < i → yv A j = yv B j) → Steps p.tables e below (s₁.setTop (entryFrame m #[.ref a, .ref b] 3)) (s₁.setTop (mkF m 9 #[.val (.ref a), .val (.ref b), .val (.int (Int32.ofNat i))] [])) → ∃ (pc : Nat) (Ls : Array Slot) (v : Int32), (pc = 25 ∨ pc = 33) ∧ ((v = 1 ∧ EqC A B) ∨ (v = 0 ∧ ¬ EqC A B)) ∧ Steps p.tables e below (s₁.setTop (entryFrame m #[.ref a, .ref b] 3)) (s₁.setTop (mkF m pc Ls [.int v])) := by
      intro r
      induction r with
      | zero =>
        intro i hi he cl
        exact ⟨33, _, 1, Or.inr rfl, Or.inl ⟨rfl, hs, fun j hj => he j (by omega)⟩, cl.trans (by
          refine XS.iloadN X0.here hexec rfl (hb hbytes d9) rfl ?_
          refine XS.aloadN X0.here hexec rfl (hb hbytes d10) rfl rfl ?_
          refine X0.alen hexec hA0 rfl rfl (hb hbytes d11) ?_
          refine XS.icmpYes X0.here hexec rfl (pc0 := 12) rfl (hb hbytes d12) rfl (ii_ge_t (nlt32 (by omega) (by omega))) (by decide) rfl ?_
          refine iconstV X0.here hexec rfl 1 (hb hbytes d32) (by decide) ?_
          exact Steps.refl _)⟩
      | succ r ih =>
        intro i hi he cl
        have c4 : Steps p.tables e below (s₁.setTop (entryFrame m #[.ref a, .ref b] 3)) (s₁.setTop (mkF m 21 #[.val (.ref a), .val (.ref b), .val (.int (Int32.ofNat i))] [.int (yv B i), .int (yv A i)])) := cl.trans (by
          refine XS.iloadN X0.here hexec rfl (hb hbytes d9) rfl ?_
          refine XS.aloadN X0.here hexec rfl (hb hbytes d10) rfl rfl ?_
          refine X0.alen hexec hA0 rfl rfl (hb hbytes d11) ?_
          refine XS.icmpNo X0.here hexec rfl (hb hbytes d12) rfl (ii_ge_f (lt32 (by omega) (by omega))) ?_
          refine XS.aloadN X0.here hexec rfl (hb hbytes d15) rfl rfl ?_
          refine XS.iloadN X0.here hexec rfl (hb hbytes d16) rfl ?_
          refine X0.aget hexec hA0 rfl (yv_get hA tA (i := i) (by omega)) rfl rfl (hb hbytes d17) ?_
          refine XS.aloadN X0.here hexec rfl (hb hbytes d18) rfl rfl ?_
          refine XS.iloadN X0.here hexec rfl (hb hbytes d19) rfl ?_
          refine X0.aget hexec hB0 rfl (yv_get hB tB (i := i) (by omega)) rfl rfl (hb hbytes d20) ?_
          exact Steps.refl _)
        by_cases hv : yv A i = yv B i
        · have c5 : Steps p.tables e below (s₁.setTop (entryFrame m #[.ref a, .ref b] 3)) (s₁.setTop (mkF m 9 #[.val (.ref a), .val (.ref b), .val (.int (Int32.ofNat i + 1))] [])) := c4.trans (by
            refine XS.icmpYes X0.here hexec rfl (pc0 := 21) rfl (hb hbytes d21) rfl (ii_eq_t hv) (by decide) rfl ?_
            refine iincV X0.here hexec rfl 1 (hb hbytes d26) (by decide) rfl rfl ?_
            refine XS.goto X0.here hexec rfl (pc0 := 29) rfl (hb hbytes d29) (by decide) rfl ?_
            exact Steps.refl _)
          rw [succ32] at c5
          exact ih (i + 1) (by omega) (fun j hj => by
            by_cases e : j = i
            · rw [e]; exact hv
            · exact he j (by omega)) c5
        · exact ⟨25, _, 0, Or.inl rfl, Or.inr ⟨rfl, fun q => hv (q.2 i (by omega))⟩, c4.trans (by
            refine XS.icmpNo X0.here hexec rfl (hb hbytes d21) rfl (ii_eq_f hv) ?_
            refine iconstV X0.here hexec rfl 0 (hb hbytes d24) (by decide) ?_
            exact Steps.refl _)⟩
    obtain ⟨pc, Ls, v, hpc, hv, cz⟩ := loop A.slots.size 0 (by omega) (fun j hj => absurd hj (Nat.not_lt_zero j)) c3
    have nv : narrow .boolean (.int v) = .int v := by rcases hv with ⟨rfl, -⟩ | ⟨rfl, -⟩ <;> rfl
    rcases hpc with rfl | rfl
    · exact ⟨s₁, some (.int v), _, _, _, X0, rfl, rfl, rfl, (fun h => by cases h), ⟨v, rfl, hh0, hv⟩, fun fs hl => cz.trans (X0.ireturnOut hexec hret nv (Or.inr (Or.inl rfl)) (hb hbytes d25) hl)⟩
    · exact ⟨s₁, some (.int v), _, _, _, X0, rfl, rfl, rfl, (fun h => by cases h), ⟨v, rfl, hh0, hv⟩, fun fs hl => cz.trans (X0.ireturnOut hexec hret nv (Or.inr (Or.inl rfl)) (hb hbytes d33) hl)⟩
  · have c3 : Steps p.tables e below (s₁.setTop (entryFrame m #[.ref a, .ref b] 3)) (s₁.setTop (mkF m 35 #[.val (.ref a), .val (.ref b), .unset] [.int 0])) := c2.trans (by
      refine XS.icmpYes X0.here hexec rfl (pc0 := 4) rfl (hb hbytes d4) rfl (ii_ne_t (ne32 a31 b31 hs)) (by decide) rfl ?_
      refine iconstV X0.here hexec rfl 0 (hb hbytes d34) (by decide) ?_
      exact Steps.refl _)
    exact ⟨s₁, some (.int 0), _, _, _, X0, rfl, rfl, rfl, (fun h => by cases h), ⟨0, rfl, hh0, Or.inr ⟨rfl, fun q => hs q.1⟩⟩, fun fs hl => c3.trans (X0.ireturnOut hexec hret rfl (Or.inr (Or.inl rfl)) (hb hbytes d35) hl)⟩
end LEq
theorem Cod.ty {cd : Int32} {n : Nat} {f : Nat → Int32} {V : Cell} (h : Cod cd n f V) : Typed .byte V := fun i v hv => by
  have hi : i < V.slots.size := (Array.getElem?_eq_some_iff.mp hv).1
  rcases h with ⟨-, k1, k2⟩ | ⟨-, k1, k2, -⟩
  · rw [(k2 i (by omega)).1] at hv; cases hv; exact fits_lo8 _
  · rcases Nat.mod_two_eq_zero_or_one i with e | e
    · obtain ⟨j, rfl⟩ : ∃ j, i = 2 * j := ⟨i / 2, by omega⟩
      rw [(k2 j (by omega)).1] at hv; cases hv; exact fits_lo8 _
    · obtain ⟨j, rfl⟩ : ∃ j, i = 2 * j + 1 := ⟨i / 2, by omega⟩
      rw [(k2 j (by omega)).2] at hv; cases hv; exact fits_lo8 _
/-- the same text -/
def SameT (n : Nat) (f : Nat → Int32) (k : Nat) (g : Nat → Int32) : Prop := n = k ∧ ∀ j, j < n → f j = g j
theorem lo8_inj {x y : Int32} (h0 : ¬ x < 0) (h1 : ¬ 255 < x) (k0 : ¬ y < 0) (k1 : ¬ 255 < y) (h : lo8 x = lo8 y) : x = y := by
  rw [← lo8_mask h0 h1, ← lo8_mask k0 k1, h]
/-- arrays coded by one coder are equal just where the texts are -/
theorem Cod.eqv {cd : Int32} {n k : Nat} {f g : Nat → Int32} {V V' : Cell} (h : Cod cd n f V) (h' : Cod cd k g V') (hf : ∀ j, j < n → ¬ f j < 0 ∧ ¬ 65535 < f j) (hg : ∀ j, j < k → ¬ g j < 0 ∧ ¬ 65535 < g j) : EqC V V' ↔ SameT n f k g := by
  have yvv : ∀ {W : Cell} {i : Nat} {x : Int32}, W.slots[i]? = some (.int x) → yv W i = x := fun q => by unfold yv; rw [q]
  rcases h with ⟨rfl, k1, k2⟩ | ⟨rfl, k1, k2, -⟩
  · rcases h' with ⟨-, m1, m2⟩ | ⟨e, -⟩
    · constructor
      · rintro ⟨e1, e2⟩
        refine ⟨by omega, fun j hj => ?_⟩
        have q := e2 j (by omega)
        rw [yvv (k2 j hj).1, yvv (m2 j (by omega)).1] at q
        exact lo8_inj (hf j hj).1 (k2 j hj).2 (hg j (by omega)).1 (m2 j (by omega)).2 q
      · rintro ⟨rfl, e2⟩
        refine ⟨by omega, fun j hj => ?_⟩
        rw [yvv (k2 j (by omega)).1, yvv (m2 j (by omega)).1, e2 j (by omega)]
    · exact absurd e (by decide)
  · rcases h' with ⟨e, -⟩ | ⟨-, m1, m2, -⟩
    · exact absurd e (by decide)
    · constructor
      · rintro ⟨e1, e2⟩
        refine ⟨by omega, fun j hj => ?_⟩
        have q1 := e2 (2 * j) (by omega)
        have q2 := e2 (2 * j + 1) (by omega)
        rw [yvv (k2 j hj).1, yvv (m2 j (by omega)).1] at q1
        rw [yvv (k2 j hj).2, yvv (m2 j (by omega)).2] at q2
        rw [← pair_says (hf j hj).1 (hf j hj).2, ← pair_says (hg j (by omega)).1 (hg j (by omega)).2, q1, q2]
      · rintro ⟨rfl, e2⟩
        refine ⟨by omega, fun i hi => ?_⟩
        rcases Nat.mod_two_eq_zero_or_one i with e | e
        · obtain ⟨j, rfl⟩ : ∃ j, i = 2 * j := ⟨i / 2, by omega⟩
          rw [yvv (k2 j (by omega)).1, yvv (m2 j (by omega)).1, e2 j (by omega)]
        · obtain ⟨j, rfl⟩ : ∃ j, i = 2 * j + 1 := ⟨i / 2, by omega⟩
          rw [yvv (k2 j (by omega)).2, yvv (m2 j (by omega)).2, e2 j (by omega)]
/-- two codings differ: so do the texts -/
theorem Cod.dif {cd cd' : Int32} {n k : Nat} {f g : Nat → Int32} {V V' : Cell} (h : Cod cd n f V) (h' : Cod cd' k g V') (hne : ¬ cd = cd') : ¬ SameT n f k g := by
  rintro ⟨rfl, e⟩
  rcases h with ⟨rfl, -, k2⟩ | ⟨rfl, -, -, j, hj, hw⟩
  · rcases h' with ⟨rfl, -⟩ | ⟨-, -, -, j, hj, hw⟩
    · exact hne rfl
    · exact (k2 j hj).2 (by rw [e j hj]; exact hw)
  · rcases h' with ⟨-, -, m2⟩ | ⟨rfl, -⟩
    · exact (m2 j hj).2 (by rw [← e j hj]; exact hw)
    · exact hne rfl
/-- an object of exactly C is an instance of C -/
theorem cinst {p : Program} {l : Launch} {e : Env} {R : Room} {s : State} {m : MethodId} {args : Array Value} {below : List Frame} {meth : Method} {c : Code} {T : State} {locs : List Loc} {cells slots : Nat} (X : Stand p l e R s m args below meth c T locs cells slots) (hexec : p.tables.exec = Jvm.exec) {own C : String} {index : Nat} (hown : s.vm.findClass own = some m.cls) (hlink : (Cond.classLink own index C).before args s = true) {a : Addr} (hE : Exact C a T)
    {g : JFrame} (hg : g.method = m) {rest : List Value} (hstack : g.stack = .ref a :: rest) (hdg : decode c.code g.pc = .ok (.instanceof index, 3)) :
    ∃ T', Stand p l e R s m args below meth c T' locs cells slots ∧ T'.heap = T.heap ∧ ∀ target, Steps p.tables e below (T'.setTop { g with pc := g.pc + 3, stack := .int 1 :: rest }) target → Steps p.tables e below (T.setTop g) target := by
  obtain ⟨cB, h1, D, h2, h3, h4⟩ := hE
  have h1' : s.vm.findClass C = some cB := by rw [← X.warmed.alike.findClass]; exact h1
  obtain ⟨vm', X', st⟩ := X.instanceofYes hexec hown hlink h2 h4 h1' (by rw [h3]; exact Jvm.Free.SB.assignable_self _ _) hg hstack hdg
  exact ⟨_, X', rfl, st⟩
theorem cself {p : Program} {l : Launch} {e : Env} {R : Room} {s : State} {m : MethodId} {args : Array Value} {below : List Frame} {meth : Method} {c : Code} {T : State} {locs : List Loc} {cells slots : Nat} (X : Stand p l e R s m args below meth c T locs cells slots) (hexec : p.tables.exec = Jvm.exec) {own C : String} {index : Nat} (hown : s.vm.findClass own = some m.cls) (hlink : (Cond.classLink own index C).before args s = true) {a : Addr} (hE : Exact C a T)
    {g : JFrame} (hg : g.method = m) {rest : List Value} (hstack : g.stack = .ref a :: rest) (hdg : decode c.code g.pc = .ok (.checkcast index, 3)) :
    ∃ T', Stand p l e R s m args below meth c T' locs cells slots ∧ T'.heap = T.heap ∧ ∀ target, Steps p.tables e below (T'.setTop { g with pc := g.pc + 3, stack := .ref a :: rest }) target → Steps p.tables e below (T.setTop g) target := by
  obtain ⟨cB, h1, D, h2, h3, h4⟩ := hE
  have h1' : s.vm.findClass C = some cB := by rw [← X.warmed.alike.findClass]; exact h1
  obtain ⟨vm', X', st⟩ := X.checkcastYes hexec hown hlink h2 h4 h1' (by rw [h3]; exact Jvm.Free.SB.assignable_self _ _) hg hstack hdg
  exact ⟨_, X', rfl, fun t h => st t (by rw [← hstack] at h; exact h)⟩
namespace SEq
def yN : MethodName := ⟨"java/lang/String", "equals", "(Ljava/lang/Object;)Z"⟩
abbrev yB : ByteArray := jdk_42_method_66_code
theorem d0 : decode yB 0 = .ok (.aload_n 0, 1) := by decide +kernel
theorem d1 : decode yB 1 = .ok (.aload_n 1, 1) := by decide +kernel
theorem d2 : decode yB 2 = .ok (.if_acmp (.ne) 5, 3) := by decide +kernel
theorem d5 : decode yB 5 = .ok (.iconst 1, 1) := by decide +kernel
theorem d6 : decode yB 6 = .ok (.ireturn, 1) := by decide +kernel
theorem d7 : decode yB 7 = .ok (.aload_n 1, 1) := by decide +kernel
theorem d8 : decode yB 8 = .ok (.instanceof 10, 3) := by decide +kernel
theorem d11 : decode yB 11 = .ok (.ifCond (.eq) 43, 3) := by decide +kernel
theorem d14 : decode yB 14 = .ok (.aload_n 1, 1) := by decide +kernel
theorem d15 : decode yB 15 = .ok (.checkcast 10, 3) := by decide +kernel
theorem d18 : decode yB 18 = .ok (.astore_n 2, 1) := by decide +kernel
theorem d19 : decode yB 19 = .ok (.getstatic 38, 3) := by decide +kernel
theorem d22 : decode yB 22 = .ok (.ifCond (.eq) 14, 3) := by decide +kernel
theorem d25 : decode yB 25 = .ok (.aload_n 0, 1) := by decide +kernel
theorem d26 : decode yB 26 = .ok (.getfield 15, 3) := by decide +kernel
theorem d29 : decode yB 29 = .ok (.aload_n 2, 1) := by decide +kernel
theorem d30 : decode yB 30 = .ok (.getfield 15, 3) := by decide +kernel
theorem d33 : decode yB 33 = .ok (.if_icmp (.ne) 21, 3) := by decide +kernel
theorem d36 : decode yB 36 = .ok (.aload_n 0, 1) := by decide +kernel
theorem d37 : decode yB 37 = .ok (.getfield 9, 3) := by decide +kernel
theorem d40 : decode yB 40 = .ok (.aload_n 2, 1) := by decide +kernel
theorem d41 : decode yB 41 = .ok (.getfield 9, 3) := by decide +kernel
theorem d44 : decode yB 44 = .ok (.invokestatic 541, 3) := by decide +kernel
theorem d47 : decode yB 47 = .ok (.ifCond (.eq) 7, 3) := by decide +kernel
theorem d50 : decode yB 50 = .ok (.iconst 1, 1) := by decide +kernel
theorem d51 : decode yB 51 = .ok (.goto 4, 3) := by decide +kernel
theorem d54 : decode yB 54 = .ok (.iconst 0, 1) := by decide +kernel
theorem d55 : decode yB 55 = .ok (.ireturn, 1) := by decide +kernel
def site : List Cond := [.classLink "java/lang/String" 10 "java/lang/String", .fieldLink "java/lang/String" 38 "java/lang/String" "COMPACT_STRINGS" "Z", .fieldLink "java/lang/String" 15 "java/lang/String" "coder" "B", .fieldLink "java/lang/String" 9 "java/lang/String" "value" "[B", LEq.tab] ++ staticW "java/lang/String" 541 LEq.yN
def tab : Cond := tabOf yN yB 3 (some .boolean) site
def P (x t : Addr) (V : Cell) (cd : Int32) (n : Nat) (f : Nat → Int32) (y t' : Addr) (V' : Cell) (cd' : Int32) (k : Nat) (g : Nat → Int32) (z : Int32) (args : Array Value) (s : State) : Prop := args = #[.ref x, .ref y] ∧ Txt x t V cd n f s ∧ Txt y t' V' cd' k g s ∧ StaticIs s "java/lang/String" "COMPACT_STRINGS" "Z" (.int z) ∧ ¬ z = 0
/-- equals(Object) of two Strings: whether the texts are the same -/
theorem law (l : Launch) (x t : Addr) (V : Cell) (cd : Int32) (n : Nat) (f : Nat → Int32) (y t' : Addr) (V' : Cell) (cd' : Int32) (k : Nat) (g : Nat → Int32) (z : Int32) : Law l yN 2 1 1 14 yB 3 (some .boolean) site (P x t V cd n f y t' V' cd' k g z) (Says01 (SameT n f k g)) [] 0 0 := by
  refine Law.of_walk (plainFor_of_name (by decide +kernel)) (by decide +kernel) (by decide +kernel) (by decide) (fun _ _ h => by rw [h.1]; rfl) (fun _ U U' hal hh h => ⟨h.1, h.2.1.mv hal hh, h.2.2.1.mv hal hh, h.2.2.2.1.there hal hh, h.2.2.2.2⟩) (fun r U U' V V' h1 hal h2 h => Says01.mv r U U' V V' h1 hal h2 h) ?_
  intro p e s m args below meth c s₁ X0 hexec hbytes hml hret hlk hnm hown hh0 W hP
  obtain ⟨rfl, hx, hy, s1, hz⟩ := hP
  have c1 : Steps p.tables e below (s₁.setTop (entryFrame m #[.ref x, .ref y] 3)) (s₁.setTop (mkF m 2 #[.val (.ref x), .val (.ref y), .unset] [.ref y, .ref x])) := Steps.trans (entry rfl) (by
    show Steps p.tables e below (s₁.setTop (mkF m 0 #[.val (.ref x), .val (.ref y), .unset] [])) _
    refine XS.aloadN X0.here hexec rfl (hb hbytes d0) rfl rfl ?_
    refine XS.aloadN X0.here hexec rfl (hb hbytes d1) rfl rfl ?_
    exact Steps.refl _)
  by_cases hxy : x = y
  · have c2 : Steps p.tables e below (s₁.setTop (entryFrame m #[.ref x, .ref y] 3)) (s₁.setTop (mkF m 6 #[.val (.ref x), .val (.ref y), .unset] [.int 1])) := c1.trans (by
      refine acmpNo X0.here hexec rfl (hb hbytes d2) rfl rfl rfl (by simp [acmp, hxy]) ?_
      refine iconstV X0.here hexec rfl 1 (hb hbytes d5) (by decide) ?_
      exact Steps.refl _)
    subst hxy
    have ec : cd = cd' := by
      obtain ⟨D, fd, a1, a2, a3⟩ := hx.2.2.1
      obtain ⟨D', fd', b1, b2, b3⟩ := hy.2.2.1
      cases a1.symm.trans b1
      obtain ⟨q1, q2, q3, q4⟩ := a2.1
      obtain ⟨r1, r2, r3, r4⟩ := b2.1
      cases q4.symm.trans r4
      cases a3.symm.trans b3; rfl
    have et : t = t' := by
      obtain ⟨D, fd, a1, a2, a3⟩ := hx.2.1
      obtain ⟨D', fd', b1, b2, b3⟩ := hy.2.1
      cases a1.symm.trans b1
      obtain ⟨q1, q2, q3, q4⟩ := a2.1
      obtain ⟨r1, r2, r3, r4⟩ := b2.1
      cases q4.symm.trans r4
      cases a3.symm.trans b3; rfl
    subst ec et
    have ev : V = V' := by cases hx.2.2.2.1.1.symm.trans hy.2.2.2.1.1; rfl
    subst ev
    have hs : SameT n f k g := (Cod.eqv hx.2.2.2.2.1 hy.2.2.2.2.1 hx.2.2.2.2.2 hy.2.2.2.2.2).mp ⟨rfl, fun _ _ => rfl⟩
    exact ⟨s₁, some (.int 1), _, _, _, X0, rfl, rfl, rfl, (fun h => by cases h), ⟨1, rfl, hh0, Or.inl ⟨rfl, hs⟩⟩, fun fs hl => c2.trans (X0.ireturnOut hexec hret rfl (Or.inr (Or.inl rfl)) (hb hbytes d6) hl)⟩
  · have c2 : Steps p.tables e below (s₁.setTop (entryFrame m #[.ref x, .ref y] 3)) (s₁.setTop (mkF m 8 #[.val (.ref x), .val (.ref y), .unset] [.ref y])) := c1.trans (by
      refine acmpYes X0.here hexec rfl (pc0 := 2) rfl (hb hbytes d2) rfl rfl rfl (by simp [acmp, hxy]) (by decide) rfl ?_
      refine XS.aloadN X0.here hexec rfl (hb hbytes d7) rfl rfl ?_
      exact Steps.refl _)
    obtain ⟨T3, X3, q3, st3⟩ := cinst X0 hexec hown (wk W (.classLink "java/lang/String" 10 "java/lang/String")) (hy.mv X0.warmed.alike hh0).1 (g := (mkF m 8 #[.val (.ref x), .val (.ref y), .unset] [.ref y])) rfl (rest := []) rfl (hb hbytes d8)
    have hh3 := q3.trans hh0
    have c4 : Steps p.tables e below (s₁.setTop (entryFrame m #[.ref x, .ref y] 3)) (T3.setTop (mkF m 15 #[.val (.ref x), .val (.ref y), .unset] [.ref y])) := (c2.trans (st3 _ (Steps.refl _))).trans (by
      refine XS.ifNo X3.here hexec rfl (hb hbytes d11) rfl (i0_eq_f (by decide)) ?_
      refine XS.aloadN X3.here hexec rfl (hb hbytes d14) rfl rfl ?_
      exact Steps.refl _)
    obtain ⟨T5, X5, q5, st5⟩ := cself X3 hexec hown (wk W (.classLink "java/lang/String" 10 "java/lang/String")) (hy.mv X3.warmed.alike hh3).1 (g := (mkF m 15 #[.val (.ref x), .val (.ref y), .unset] [.ref y])) rfl (rest := []) rfl (hb hbytes d15)
    have hh5 := q5.trans hh3
    have c6 : Steps p.tables e below (s₁.setTop (entryFrame m #[.ref x, .ref y] 3)) (T5.setTop (mkF m 19 #[.val (.ref x), .val (.ref y), .val (.ref y)] [])) := (c4.trans (st5 _ (Steps.refl _))).trans (by
      refine XS.astoreN X5.here hexec rfl (hb hbytes d18) rfl rfl rfl ?_
      exact Steps.refl _)
    obtain ⟨T7, X7, q7, st7⟩ := X5.sget hexec hown (wk W (.fieldLink "java/lang/String" 38 "java/lang/String" "COMPACT_STRINGS" "Z")) s1 (fun _ _ h => by rw [hh5]; exact h) (g := (mkF m 19 #[.val (.ref x), .val (.ref y), .val (.ref y)] [])) rfl (hb hbytes d19)
    have hh7 := q7.trans hh5
    have c8 : Steps p.tables e below (s₁.setTop (entryFrame m #[.ref x, .ref y] 3)) (T7.setTop (mkF m 26 #[.val (.ref x), .val (.ref y), .val (.ref y)] [.ref x])) := (c6.trans (st7 _ (Steps.refl _))).trans (by
      refine XS.ifNo X7.here hexec rfl (hb hbytes d22) rfl (i0_eq_f hz) ?_
      refine XS.aloadN X7.here hexec rfl (hb hbytes d25) rfl rfl ?_
      exact Steps.refl _)
    obtain ⟨T9, X9, q9, st9⟩ := X7.hget hexec hown (wk W (.fieldLink "java/lang/String" 15 "java/lang/String" "coder" "B")) (hx.mv X7.warmed.alike hh7).2.2.1 (g := (mkF m 26 #[.val (.ref x), .val (.ref y), .val (.ref y)] [.ref x])) rfl (rest := []) rfl (hb hbytes d26)
    have hh9 := q9.trans hh7
    have c10 : Steps p.tables e below (s₁.setTop (entryFrame m #[.ref x, .ref y] 3)) (T9.setTop (mkF m 30 #[.val (.ref x), .val (.ref y), .val (.ref y)] [.ref y, .int cd])) := (c8.trans (st9 _ (Steps.refl _))).trans (by
      refine XS.aloadN X9.here hexec rfl (hb hbytes d29) rfl rfl ?_
      exact Steps.refl _)
    obtain ⟨T11, X11, q11, st11⟩ := X9.hget hexec hown (wk W (.fieldLink "java/lang/String" 15 "java/lang/String" "coder" "B")) (hy.mv X9.warmed.alike hh9).2.2.1 (g := (mkF m 30 #[.val (.ref x), .val (.ref y), .val (.ref y)] [.ref y, .int cd])) rfl (rest := [.int cd]) rfl (hb hbytes d30)
    have hh11 := q11.trans hh9
    have c12 : Steps p.tables e below (s₁.setTop (entryFrame m #[.ref x, .ref y] 3)) (T11.setTop (mkF m 33 #[.val (.ref x), .val (.ref y), .val (.ref y)] [.int cd', .int cd])) := c10.trans (st11 _ (Steps.refl _))
    by_cases hcd : cd = cd'
    · subst hcd
      have c13 : Steps p.tables e below (s₁.setTop (entryFrame m #[.ref x, .ref y] 3)) (T11.setTop (mkF m 37 #[.val (.ref x), .val (.ref y), .val (.ref y)] [.ref x])) := c12.trans (by
        refine XS.icmpNo X11.here hexec rfl (hb hbytes d33) rfl (ii_ne_f rfl) ?_
        refine XS.aloadN X11.here hexec rfl (hb hbytes d36) rfl rfl ?_
        exact Steps.refl _)
      obtain ⟨T14, X14, q14, st14⟩ := X11.hget hexec hown (wk W (.fieldLink "java/lang/String" 9 "java/lang/String" "value" "[B")) (hx.mv X11.warmed.alike hh11).2.1 (g := (mkF m 37 #[.val (.ref x), .val (.ref y), .val (.ref y)] [.ref x])) rfl (rest := []) rfl (hb hbytes d37)
      have hh14 := q14.trans hh11
      have c15 : Steps p.tables e below (s₁.setTop (entryFrame m #[.ref x, .ref y] 3)) (T14.setTop (mkF m 41 #[.val (.ref x), .val (.ref y), .val (.ref y)] [.ref y, .ref t])) := (c13.trans (st14 _ (Steps.refl _))).trans (by
        refine XS.aloadN X14.here hexec rfl (hb hbytes d40) rfl rfl ?_
        exact Steps.refl _)
      obtain ⟨T16, X16, q16, st16⟩ := X14.hget hexec hown (wk W (.fieldLink "java/lang/String" 9 "java/lang/String" "value" "[B")) (hy.mv X14.warmed.alike hh14).2.1 (g := (mkF m 41 #[.val (.ref x), .val (.ref y), .val (.ref y)] [.ref y, .ref t])) rfl (rest := [.ref t]) rfl (hb hbytes d41)
      have hh16 := q16.trans hh14
      have c17 : Steps p.tables e below (s₁.setTop (entryFrame m #[.ref x, .ref y] 3)) (T16.setTop (mkF m 44 #[.val (.ref x), .val (.ref y), .val (.ref y)] [.ref t', .ref t])) := c15.trans (st16 _ (Steps.refl _))
      obtain ⟨v18, T18, X18, E18, g18⟩ := X16.callS hexec (LEq.law l t V t' V') hown (wks W (staticW "java/lang/String" 541 LEq.yN)) (wk W LEq.tab) (W := 0) (Nat.le_of_ble_eq_true rfl) (Nat.le_of_ble_eq_true rfl) (Nat.le_refl _) (Nat.le_refl _) (g := (mkF m 44 #[.val (.ref x), .val (.ref y), .val (.ref y)] [.ref t', .ref t])) rfl (by rw [hml]; rfl) c17 (argsL := [.ref t, .ref t']) (rest := []) rfl rfl (by show 2 * 0 + 0 ≤ _; decide) (hb hbytes d44) (⟨rfl, hx.2.2.2.1.mv X16.warmed.alike hh16, hx.2.2.2.2.1.ty, hy.2.2.2.1.mv X16.warmed.alike hh16, hy.2.2.2.2.1.ty⟩)
      obtain ⟨v, rfl, q18, hv⟩ := E18
      have iff := Cod.eqv hx.2.2.2.2.1 hy.2.2.2.2.1 hx.2.2.2.2.2 hy.2.2.2.2.2
      rcases hv with ⟨rfl, he⟩ | ⟨rfl, he⟩
      · have c19 : Steps p.tables e below (s₁.setTop (entryFrame m #[.ref x, .ref y] 3)) (T18.setTop (mkF m 55 #[.val (.ref x), .val (.ref y), .val (.ref y)] [.int 1])) := Steps.trans g18 (by
          refine XS.ifNo X18.here hexec rfl (hb hbytes d47) rfl (i0_eq_f (by decide)) ?_
          refine iconstV X18.here hexec rfl 1 (hb hbytes d50) (by decide) ?_
          refine XS.goto X18.here hexec rfl (pc0 := 51) rfl (hb hbytes d51) (by decide) rfl ?_
          exact Steps.refl _)
        exact ⟨T18, some (.int 1), _, _, _, X18, rfl, rfl, rfl, (fun h => by cases h), ⟨1, rfl, q18.trans hh16, Or.inl ⟨rfl, iff.mp he⟩⟩, fun fs hl => c19.trans (X18.ireturnOut hexec hret rfl (Or.inr (Or.inl rfl)) (hb hbytes d55) hl)⟩
      · have c19 : Steps p.tables e below (s₁.setTop (entryFrame m #[.ref x, .ref y] 3)) (T18.setTop (mkF m 55 #[.val (.ref x), .val (.ref y), .val (.ref y)] [.int 0])) := Steps.trans g18 (by
          refine XS.ifYes X18.here hexec rfl (pc0 := 47) rfl (hb hbytes d47) rfl (i0_eq_t rfl) (by decide) rfl ?_
          refine iconstV X18.here hexec rfl 0 (hb hbytes d54) (by decide) ?_
          exact Steps.refl _)
        exact ⟨T18, some (.int 0), _, _, _, X18, rfl, rfl, rfl, (fun h => by cases h), ⟨0, rfl, q18.trans hh16, Or.inr ⟨rfl, fun q => he (iff.mpr q)⟩⟩, fun fs hl => c19.trans (X18.ireturnOut hexec hret rfl (Or.inr (Or.inl rfl)) (hb hbytes d55) hl)⟩
    · have c13 : Steps p.tables e below (s₁.setTop (entryFrame m #[.ref x, .ref y] 3)) (T11.setTop (mkF m 55 #[.val (.ref x), .val (.ref y), .val (.ref y)] [.int 0])) := c12.trans (by
        refine XS.icmpYes X11.here hexec rfl (pc0 := 33) rfl (hb hbytes d33) rfl (ii_ne_t hcd) (by decide) rfl ?_
        refine iconstV X11.here hexec rfl 0 (hb hbytes d54) (by decide) ?_
        exact Steps.refl _)
      exact ⟨T11, some (.int 0), _, _, _, X11, rfl, rfl, rfl, (fun h => by cases h), ⟨0, rfl, hh11, Or.inr ⟨rfl, Cod.dif hx.2.2.2.2.1 hy.2.2.2.2.1 hcd⟩⟩, fun fs hl => c13.trans (X11.ireturnOut hexec hret rfl (Or.inr (Or.inl rfl)) (hb hbytes d55) hl)⟩
theorem pays {l : Launch} {R : Room} {p : Program} {e : Env} {below : List Frame} {s : State} {sargs : Array Value} {len W : Nat} (x t : Addr) (V : Cell) (cd : Int32) (n : Nat) (f : Nat → Int32) (y t' : Addr) (V' : Cell) (cd' : Int32) (k : Nat) (g : Nat → Int32) (z : Int32) (htab : tab.before sargs s = true) (hfr : 2 ≤ R.frames) (hlo : W + 28 ≤ R.locals) :
    Back l R p e below s sargs yN len W (fun A₁ a₁ => A₁.cells + 0 ≤ R.cells ∧ A₁.slots + 0 ≤ R.slots ∧ P x t V cd n f y t' V' cd' k g z a₁ A₁.U) (fun A₁ _ v₁ B₁ => Says01 (SameT n f k g) v₁ A₁.U B₁.U ∧ B₁.locs = A₁.locs ++ [] ∧ B₁.cells = A₁.cells + 0 ∧ B₁.slots = A₁.slots + 0) :=
  (law l x t V cd n f y t' V' cd' k g z).pays htab hfr (by omega)
end SEq
end StrChars
namespace StrChars.Road
open Jvm Sem ClassFile Op Lib Jvm.Stand Jvm.Free Jvm.Free.XT
open Jvm.Lib.Cold (StaticIs)
/-- the words of String.equals(Object) -/
abbrev wordsEq : List Jvm.Cond := [.code SEq.yN SEq.yB 3 (some .boolean), .initialized ST, .classLink ST 10 ST, .fieldLink ST 38 ST "COMPACT_STRINGS" "Z", .fieldLink ST 15 ST "coder" "B", .fieldLink ST 9 ST "value" "[B", .methodLink ST 541 LEq.yN, .static LEq.yN, .code LEq.yN LEq.yB 3 (some .boolean), .initialized "java/lang/StringLatin1"]
theorem tabEq_of {a : Array Value} {s : State} (h : ∀ w ∈ wordsEq, w.before a s = true) : SEq.tab.before a s = true := by
  have hl : LEq.tab.before a s = true := unparts (wk h (.code LEq.yN LEq.yB 3 (some .boolean))) (wks h (.initialized LEq.yN.cls :: LEq.site))
  have q := consq hl h
  exact unparts (wk q (.code SEq.yN SEq.yB 3 (some .boolean))) (wks q (.initialized SEq.yN.cls :: SEq.site))
theorem movedEq {Z s : State} {a0 args : Array Value} (hZ : Z.Warmed39 s.vm) (hw : ∀ d ∈ wordsEq, d.before a0 Z = true) : ∀ d ∈ wordsEq, d.before args s = true := fun d hd => by
  have t : ∀ d ∈ wordsEq, (d.onTables && d.keepsFace) = true := by decide +kernel
  exact RoadKit.mv hZ (hw d hd) (t d hd)
/-- the road's facts of a String, as the laws ask it -/
theorem txt_of {Z U : State} {a0 : Array Value} {kI : Nat} (wi : (Jvm.Cond.instantiable ST kI).before a0 Z = true) (al : Z.vm.Alike U.vm) {x t : Addr} {kb : ClassId} {cs : List Int32} {cd N2 : Int32} {vs : List Value} (E : RoadKit.Exa Z U.heap x ST) (V : RoadKit.Fld Z U.heap x ST "value" "[B" (.ref t)) (C : RoadKit.Fld Z U.heap x ST "coder" "B" (.int cd)) (K : RoadKit.Arv Z U.heap t kb .byte N2 vs (.int 0)) (hc : CodA cs cd N2 vs) (hb : ∀ c ∈ cs, ¬ c < 0 ∧ ¬ (65535 : Int32) < c) (l2 : cs.length ≤ 4000) :
    ∃ A, Txt x t A cd cs.length (fun j => cs.getD j 0) U := by
  obtain ⟨A, K1, K2, K3, K4, K5, K6⟩ := K
  have hcod := hc.cod (by omega) K3 K5
  obtain ⟨D, fV, fC, hB, F1, F2, g1, g2, -, -⟩ := strObj wi al E V C
  exact ⟨A, ⟨_, hB.2.2.1, D, hB.1, rfl, by cases q : D.vm <;> first | rfl | exact absurd q (hB.2.1.2 _)⟩, Has.of hB F1 g1, Has.of hB F2 g2, ⟨K1.1, State.isArrayOf_alike al K1.2.1, K1.2.2, by rcases hcod with ⟨-, q, -⟩ | ⟨-, q, -⟩ <;> omega⟩, hcod, fun j hj => by
    have e : cs.getD j 0 = cs[j] := by simp [List.getD_eq_getElem?_getD, hj]
    show ¬ cs.getD j 0 < 0 ∧ ¬ 65535 < cs.getD j 0
    rw [e]; exact hb _ (List.getElem_mem _)⟩
theorem same_list (cs ds : List Int32) : SameT cs.length (fun j => cs.getD j 0) ds.length (fun j => ds.getD j 0) ↔ cs = ds := by
  constructor
  · rintro ⟨e, q⟩
    refine List.ext_getElem e fun j h1 h2 => ?_
    have := q j h1
    simpa [List.getD_eq_getElem?_getD, h1, h2] using this
  · rintro rfl
    exact ⟨rfl, fun _ _ => rfl⟩
/-- **equals(Object) OF TWO SUCH STRINGS**: 1 just where the chars are the same -/
theorem eqW {p : Program} {l : Launch} {e : Env} {R : Room} {s : State} {args : Array Value} {below : List Frame} {len W : Nat} {Z : State} {a0 : Array Value} {h : Heap} (hZ : Z.Warmed39 s.vm) (hw : ∀ d ∈ wordsEq, d.before a0 Z = true) {kI : Nat} (wi : (Jvm.Cond.instantiable ST kI).before a0 Z = true)
    {x t : Addr} {kb : ClassId} {cs : List Int32} {cd N2 : Int32} {vs : List Value} (E : RoadKit.Exa Z h x ST) (V : RoadKit.Fld Z h x ST "value" "[B" (.ref t)) (C : RoadKit.Fld Z h x ST "coder" "B" (.int cd)) (K : RoadKit.Arv Z h t kb .byte N2 vs (.int 0)) (hc : CodA cs cd N2 vs) (hb : ∀ c ∈ cs, ¬ c < 0 ∧ ¬ (65535 : Int32) < c) (l2 : cs.length ≤ 4000)
    {y t' : Addr} {kb' : ClassId} {ds : List Int32} {cd' N2' : Int32} {vs' : List Value} (E' : RoadKit.Exa Z h y ST) (V' : RoadKit.Fld Z h y ST "value" "[B" (.ref t')) (C' : RoadKit.Fld Z h y ST "coder" "B" (.int cd')) (K' : RoadKit.Arv Z h t' kb' .byte N2' vs' (.int 0)) (hc' : CodA ds cd' N2' vs') (hb' : ∀ c ∈ ds, ¬ c < 0 ∧ ¬ (65535 : Int32) < c) (l2' : ds.length ≤ 4000)
    {z : Int32} (S : RoadKit.Sta Z h ST "COMPACT_STRINGS" "Z" (.int z)) (hz : ¬ z = 0) (hfr : 2 ≤ R.frames) (hlo : W + 28 ≤ R.locals) :
    Back l R p e below s args (⟨"java/lang/String", "equals", "(Ljava/lang/Object;)Z"⟩ : MethodName) len W (fun P a => a = #[.ref x, .ref y] ∧ P.U.heap = h ∧ P.cells + 0 ≤ R.cells ∧ P.slots + 0 ≤ R.slots)
      (fun P _ v B => ∃ L, (((v = some (.int 1) ∧ cs = ds) ∨ (v = some (.int 0) ∧ ¬ cs = ds)) ∧ L = [] ∧ B.U.heap = h) ∧ B.locs = P.locs ++ L ∧ B.cells = P.cells + 0 ∧ B.slots = P.slots + 0) := by
  intro m meth c P g ig mk a X hg hsize hdg hW hn hp'
  obtain ⟨rfl, rfl, r1, r2⟩ := hp'
  have al : Z.vm.Alike P.U.vm := hZ.alike.trans X.warmed.alike
  obtain ⟨A, hx⟩ := txt_of wi al E V C K hc hb l2
  obtain ⟨A', hy⟩ := txt_of wi al E' V' C' K' hc' hb' l2'
  obtain ⟨v, B, X', ⟨⟨w, hv, hh, hq⟩, hl, hk, hs⟩, st⟩ := SEq.pays x t A cd cs.length (fun j => cs.getD j 0) y t' A' cd' ds.length (fun j => ds.getD j 0) z (tabEq_of (movedEq hZ hw)) hfr hlo m meth c P g ig mk _ X hg hsize hdg hW hn ⟨r1, r2, rfl, hx, hy, sta_is al S, hz⟩
  refine ⟨v, B, X', ⟨[], ⟨?_, rfl, hh⟩, hl, hk, hs⟩, st⟩
  rcases hq with ⟨rfl, q⟩ | ⟨rfl, q⟩
  · exact Or.inl ⟨hv, (same_list cs ds).mp q⟩
  · exact Or.inr ⟨hv, fun e => q ((same_list cs ds).mpr e)⟩
end StrChars.Road
namespace StrChars.Road
open Jvm Sem ClassFile Op Lib Jvm.Stand Jvm.Free Jvm.Free.XT
open Jvm.Lib.Cold (StaticIs)
/-- what backV says of its String, as the contracts of this text ask it: cs's low bytes, coder 0 -/
theorem codOf {cs : List Int32} {n : Nat} (hn : cs.length = n) (hb : ∀ c ∈ cs, ¬ 255 < c) : CodA cs 0 (Int32.ofNat n) ((cs.map lo8).map Value.int) := Or.inl ⟨rfl, by rw [hn], by simp [List.map_map, Function.comp_def], hb⟩
end StrChars.Road
end Jvm.Pilot.@@N@@

namespace Jvm.Pilot.@@N@@
open Jvm Jvm.ClassFile Sem Op Lib Jvm.Free Jvm.Stand Jvm.LawKit Jvm.RoadKit Bundle Jvm.Pilot.@@N@@.Jvm.D

theorem own_g {Z : State} {a0 : Array Value} (hw : ∀ d ∈ tables_1, d.before a0 Z = true) (i : Nat) {d : Jvm.Cond} (h : tables_1[i]? = some d) : d.before a0 Z = true := hw _ (List.mem_of_getElem? h)
/-- from the state T the run comes to an end that F takes -/
def own_Ends (p : Program) (e : Env) (below : List Frame) (F : Outcome → State → Prop) (T : State) : Prop :=
  ∃ s₂ o, Steps p.tables e below T s₂ ∧ s₂.status = .running ∧ Ended s₂ below o ∧ F o s₂
def own_Fin (s : State) (Q : Option Value → Heap → List Loc → Prop) (C S : Nat) (o : Outcome) (U : State) : Prop :=
  ∃ v L, o = .returned v ∧ Q v U.heap L ∧ FrameEnd s o U L C S
theorem own_Sta_keep {Z : State} {h h' : Heap} {C n d : String} {v : Value} {ws : List Addr} (F : Sta Z h C n d v) (K : Keep h h' ws) (q : ∀ x ∈ ws, ∀ c : Cell, h[x]? = some c → c.vm.isStatics = false) : Sta Z h' C n d v := by
  obtain ⟨cf, i, k, f, st, cell, h1, h2, h3, h4, h5, h6, h7⟩ := F
  exact ⟨cf, i, k, f, st, cell, h1, h2, h3, h4, K.2.1 st cell h5 (fun m => by rw [q st m cell h5] at h6; cases h6), h6, h7⟩
theorem own_ns_exa {Z : State} {h : Heap} {a : Addr} {C : String} (F : Exa Z h a C) : ∀ c : Cell, h[a]? = some c → c.vm.isStatics = false := fun c hc => by
  obtain ⟨cell, k, h1, h2, h3, h4, h5⟩ := F
  cases h1.symm.trans hc; exact h4
theorem own_ns_arv {Z : State} {h : Heap} {a : Addr} {k : ClassId} {ty : FieldType} {n : Int32} {vs : List Value} {d : Value} (F : Arv Z h a k ty n vs d) : ∀ c : Cell, h[a]? = some c → c.vm.isStatics = false := fun c hc => by
  obtain ⟨cell, A, r⟩ := F
  cases A.1.symm.trans hc; exact A.plain
section OwnSteps
variable {p : Program} {l : Launch} {e : Env} {R : Room} {s : State} {m : MethodId} {args : Array Value} {below : List Frame} {meth : Method} {c : Code} {T T' : State} {locs : List Loc} {cells slots cells' slots' : Nat} {F : Outcome → State → Prop}
theorem own_step (h : ∀ target, Steps p.tables e below T' target → Steps p.tables e below T target) (k : own_Ends p e below F T') : own_Ends p e below F T := by
  obtain ⟨s₂, o, h1, h2⟩ := k
  exact ⟨s₂, o, h _ h1, h2⟩
theorem own_trans (h : Steps p.tables e below T T') (k : own_Ends p e below F T') : own_Ends p e below F T := by
  obtain ⟨s₂, o, h1, h2⟩ := k
  exact ⟨s₂, o, h.trans h1, h2⟩
theorem own_mono (X : Stand p l e R s m args below meth c T locs cells slots) (h1 : cells ≤ cells') (h2 : slots ≤ slots') : Stand p l e R s m args below meth c T locs cells' slots' :=
  { X with same := X.same.mono h1 h2 }
theorem own_ret {Q : Option Value → Heap → List Loc → Prop} {C S : Nat} {g : JFrame} (X : Stand p l e R s m args below meth c T locs cells slots) {v : Option Value} (hv : meth.sig.returnType = none → v = none) (hlocks : meth.locks = false)
    (st : ∀ fs, (∀ (f : JFrame) (acts : List Action), f.method = m → f.locked = none → f.entered = [] → (doReturn e (T.setTop f) acts v).1 = T.setFrames fs) → Steps p.tables e below (T.setTop g) (T.setFrames fs))
    (h1 : cells ≤ C) (h2 : slots ≤ S) (hQ : Q v T.heap locs) : own_Ends p e below (own_Fin s Q C S) (T.setTop g) := by
  obtain ⟨fs, hr, hrun, hended, hW, hsame⟩ := X.leave (v := v) hv hlocks
  exact ⟨_, _, st fs hr, hrun, hended, _, _, rfl, hQ, ⟨_, rfl⟩, hW, hsame.mono h1 h2⟩
def own_FinW (s : State) (Q : Option Value → Heap → List Loc → Prop) (C S : Nat) (o : Outcome) (U : State) : Prop :=
  ∃ v L, o = .returned v ∧ Q v U.heap L ∧ ReturnedEndW s o U L C S
theorem own_retW {vm : Vm} {k : Nat} {Q : Option Value → Heap → List Loc → Prop} {C S : Nat} {g : JFrame} (X : Stand p l e R (s.setVm vm) m args below meth c T locs cells slots) (hS : s.Since vm k) (hk : k ≤ T.heap.size) {v : Option Value} (hv : meth.sig.returnType = none → v = none) (hlocks : meth.locks = false)
    (st : ∀ fs, (∀ (f : JFrame) (acts : List Action), f.method = m → f.locked = none → f.entered = [] → (doReturn e (T.setTop f) acts v).1 = T.setFrames fs) → Steps p.tables e below (T.setTop g) (T.setFrames fs))
    (h1 : cells ≤ C) (h2 : slots ≤ S) (hQ : Q v T.heap locs) : own_Ends p e below (own_FinW s Q C S) (T.setTop g) := by
  obtain ⟨fs, hr, hrun, hended, a, b, c', d'⟩ := X.leaveW hS hk (v := v) hv hlocks
  exact ⟨_, _, st fs hr, hrun, hended, _, _, rfl, hQ, a, b, c', d'.mono h1 h2⟩
theorem own_warm {Z : State} {vm0 vm1 : Vm} {k : Nat} (hZ : Z.Warmed39 vm0) (hS : (s.setVm vm0).Since vm1 k) : Z.Warmed39 vm1 := State.Warmed39.trans (t := s.setVm vm0) hZ hS.1
theorem own_find {vm0 vm1 : Vm} {k : Nat} {own : String} {c0 : ClassId} (h : vm0.findClass own = some c0) (hS : (s.setVm vm0).Since vm1 k) : vm1.findClass own = some c0 := by
  rw [hS.1.alike.findClass]; exact h
def own_FinH (Z : State) (EL : List (String × Nat)) (s : State) (Q : Option Value → Heap → List Loc → Prop) (C S : Nat) (o : Outcome) (U : State) : Prop :=
  ∃ v L, o = .returned v ∧ Q v U.heap L ∧ CHr Z EL s.vm s.heap U.vm U.heap ∧ ReturnedEndW s o U L C S
theorem own_retH {Z : State} {a0 : Array Value} {EL : List (String × Nat)} {vm : Vm} {k : Nat} {h0 h : Heap} {Q : Option Value → Heap → List Loc → Prop} {C S : Nat} {g : JFrame} (X : Stand p l e R (s.setVm vm) m args below meth c T locs cells slots) (hS : s.Since vm k) (hk : k ≤ T.heap.size) (hh : s.heap = h0) (eT : T.heap = h) (hZ : Z.Warmed39 vm) (hEL : EW Z a0 EL) (hC : CHr Z EL s.vm h0 vm h) {v : Option Value} (hv : meth.sig.returnType = none → v = none) (hlocks : meth.locks = false)
    (st : ∀ fs, (∀ (f : JFrame) (acts : List Action), f.method = m → f.locked = none → f.entered = [] → (doReturn e (T.setTop f) acts v).1 = T.setFrames fs) → Steps p.tables e below (T.setTop g) (T.setFrames fs))
    (h1 : cells ≤ C) (h2 : slots ≤ S) (hQ : Q v T.heap locs) : own_Ends p e below (own_FinH Z EL s Q C S) (T.setTop g) := by
  obtain ⟨fs, hr, hrun, hended, a, b, c', d'⟩ := X.leaveW hS hk (v := v) hv hlocks
  have q : CHr Z EL s.vm s.heap T.vm T.heap := by
    rw [hh, eT]; exact hC.trans (CHv.at X hZ hEL hC.1)
  exact ⟨_, _, st fs hr, hrun, hended, _, _, rfl, hQ, q, a, b, c', d'.mono h1 h2⟩
def own_SL (Z : State) (EL : List (String × Nat)) (vm : Vm) (h : Heap) (x : Addr) : Prop := x < h.size ∧ Safe Z EL vm h x
theorem own_SL.go {Z : State} {EL : List (String × Nat)} {vm vm1 : Vm} {h h' : Heap} {x : Addr} (F : own_SL Z EL vm h x) (A : CHr Z EL vm h vm1 h') : own_SL Z EL vm1 h' x := ⟨Nat.lt_of_lt_of_le F.1 A.2.1, A.safe F.1 F.2⟩
theorem own_SL.born {Z : State} {EL : List (String × Nat)} {vm : Vm} {h h' : Heap} {x : Addr} (H : CHv Z EL vm h) (E : Ext h h') (g : x = h.size) (lt : x < h'.size) : own_SL Z EL vm h' x := ⟨lt, Safe.ext E H (Safe.new (Nat.le_of_eq g.symm))⟩
end OwnSteps

/-- the String x of h spells the chars cs (each 0 to 255); it and its bytes lie below B -/
def own_Str (Z : State) (h : Heap) (B : Nat) (x : Addr) (cs : List Int32) : Prop := ∃ (t : Addr) (kb : ClassId), Exa Z h x "java/lang/String" ∧ Fld Z h x "java/lang/String" "coder" "B" (.int 0) ∧ Fld Z h x "java/lang/String" "value" "[B" (.ref t) ∧ Arv Z h t kb .byte (Int32.ofNat cs.length) ((cs.map (fun c => c.toInt8.toInt32)).map Value.int) (.int 0) ∧ (∀ c ∈ cs, ¬ c < 0 ∧ ¬ (255 : Int32) < c) ∧ x < B ∧ t < B
section OwnStr
variable {Z : State} {h h' : Heap} {B B' : Nat} {x : Addr} {cs ds : List Int32} {ws : List Addr}
theorem own_Str.exa (F : own_Str Z h B x cs) : Exa Z h x "java/lang/String" := by obtain ⟨t, kb, E, -⟩ := F; exact E
theorem own_Str.lt (F : own_Str Z h B x cs) : x < h.size := F.exa.lt
theorem own_Str.ext (F : own_Str Z h B x cs) (E : Ext h h') : own_Str Z h' B x cs := by
  obtain ⟨t, kb, f1, f2, f3, f4, f5⟩ := F
  exact ⟨t, kb, f1.ext E, f2.ext E, f3.ext E, f4.ext E, f5⟩
theorem own_Str.keep (F : own_Str Z h B x cs) (K : Keep h h' ws) (q : ∀ w ∈ ws, B ≤ w) : own_Str Z h' B x cs := by
  obtain ⟨t, kb, f1, f2, f3, f4, f5, f6, f7⟩ := F
  have n1 : x ∉ ws := fun m => absurd (q x m) (Nat.not_le.mpr f6)
  have n2 : t ∉ ws := fun m => absurd (q t m) (Nat.not_le.mpr f7)
  exact ⟨t, kb, f1.keep K, f2.keep K n1, f3.keep K n1, f4.keep K n2, f5, f6, f7⟩
theorem own_Str.keepN (F : own_Str Z h B x cs) (K : Keep h h' ws) (q : ∀ w ∈ ws, B ≤ w ∨ ∃ (C : String) (n : Nat) (a0 : Array Value), Exa Z h w C ∧ C ≠ "java/lang/String" ∧ (Jvm.Cond.instantiable C n).before a0 Z = true) : own_Str Z h' B x cs := by
  obtain ⟨t, kb, f1, f2, f3, f4, f5, f6, f7⟩ := F
  have n1 : x ∉ ws := fun m => by
    rcases q x m with g | ⟨C, n, a0, g, g2, g3⟩
    · exact absurd g (Nat.not_le.mpr f6)
    · exact g.ne f1 g2 rfl
  have n2 : t ∉ ws := fun m => by
    rcases q t m with g | ⟨C, n, a0, g, g2, g3⟩
    · exact absurd g (Nat.not_le.mpr f7)
    · exact g.neArv f4 g3 rfl
  exact ⟨t, kb, f1.keep K, f2.keep K n1, f3.keep K n1, f4.keep K n2, f5, f6, f7⟩
theorem own_Str.mono (F : own_Str Z h B x cs) (q : B ≤ B') : own_Str Z h B' x cs := by
  obtain ⟨t, kb, f1, f2, f3, f4, f5, f6, f7⟩ := F
  exact ⟨t, kb, f1, f2, f3, f4, f5, Nat.lt_of_lt_of_le f6 q, Nat.lt_of_lt_of_le f7 q⟩
theorem own_Str.top (F : own_Str Z h B x cs) : own_Str Z h h.size x cs := by
  obtain ⟨t, kb, f1, f2, f3, f4, f5, f6, f7⟩ := F
  exact ⟨t, kb, f1, f2, f3, f4, f5, f1.lt, f4.lt⟩
theorem own_Str.mk {t : Addr} {kb : ClassId} {N : Int32} {vs : List Value} (f1 : Exa Z h x "java/lang/String") (f2 : Fld Z h x "java/lang/String" "coder" "B" (.int 0)) (f3 : Fld Z h x "java/lang/String" "value" "[B" (.ref t)) (f4 : Arv Z h t kb .byte N vs (.int 0)) (e1 : N = Int32.ofNat cs.length) (e2 : vs = (cs.map (fun c => c.toInt8.toInt32)).map Value.int) (f5 : ∀ c ∈ cs, ¬ c < 0 ∧ ¬ (255 : Int32) < c) : own_Str Z h h.size x cs := by
  subst e1 e2
  exact ⟨t, kb, f1, f2, f3, f4, f5, f1.lt, f4.lt⟩
def own_eqv (cs ds : List Int32) : Int32 := if cs = ds then 1 else 0
theorem own_hi {c : Int32} (q : ¬ (255 : Int32) < c) : ¬ (65535 : Int32) < c := fun z => q (by
  rw [Int32.lt_iff_toInt_lt] at z ⊢
  have e1 : (255 : Int32).toInt = 255 := rfl
  have e2 : (65535 : Int32).toInt = 65535 := rfl
  omega)
end OwnStr

theorem own_eqB {p : Program} {l : Launch} {e : Env} {R : Room} {s : State} {args : Array Value} {below : List Frame} {len W : Nat} {Z : State} {a0 : Array Value} {h : Heap} (hZ : Z.Warmed39 s.vm) (hw : ∀ d ∈ tables_1, d.before a0 Z = true) (wi : (Jvm.Cond.instantiable "java/lang/String" 4).before a0 Z = true) {B B' : Nat} {x y : Addr} {cs ds : List Int32} (F : own_Str Z h B x cs) (G : own_Str Z h B' y ds) {z : Int32} (S : Sta Z h "java/lang/String" "COMPACT_STRINGS" "Z" (.int z)) (hz : ¬ z = 0) (l1 : cs.length ≤ 4000) (l2 : ds.length ≤ 4000) (hfr : 2 ≤ R.frames) (hlo : W + 28 ≤ R.locals) :
    Back l R p e below s args (⟨"java/lang/String", "equals", "(Ljava/lang/Object;)Z"⟩ : MethodName) len W (fun P a => a = #[.ref x, .ref y] ∧ P.U.heap = h ∧ P.cells + 0 ≤ R.cells ∧ P.slots + 0 ≤ R.slots)
      (fun P _ v B => ∃ L, (v = some (.int (own_eqv cs ds)) ∧ (∀ k, Fr k L) ∧ B.U.heap = h) ∧ B.locs = P.locs ++ L ∧ B.cells = P.cells + 0 ∧ B.slots = P.slots + 0) := by
  obtain ⟨t, kb, f1, f2, f3, f4, f5, -⟩ := F
  obtain ⟨t', kb', g1, g2, g3, g4, g5, -⟩ := G
  refine Back.mono (StrChars.Road.eqW hZ (fun d hd => hw d ((by decide +kernel : ∀ d ∈ StrChars.Road.wordsEq, d ∈ tables_1) d hd)) wi f1 f3 f2 f4 (StrChars.Road.codOf rfl (fun c hc => (f5 c hc).2)) (fun c hc => ⟨(f5 c hc).1, own_hi (f5 c hc).2⟩) l1 g1 g3 g2 g4 (StrChars.Road.codOf rfl (fun c hc => (g5 c hc).2)) (fun c hc => ⟨(g5 c hc).1, own_hi (g5 c hc).2⟩) l2 S hz hfr hlo) (fun _ _ q => q) (fun P a v B _ q => ?_)
  obtain ⟨L, ⟨q1, q2, q3⟩, r⟩ := q
  refine ⟨L, ⟨?_, by subst q2; exact fun k => Fr.nil k, q3⟩, r⟩
  unfold own_eqv
  rcases q1 with ⟨rfl, q⟩ | ⟨rfl, q⟩
  · rw [if_pos q]
  · rw [if_neg q]

theorem own_c0 {P : Int32 → Prop} : ∀ c ∈ ([] : List Int32), P c := fun _ q => nomatch q
theorem own_cS {P : Int32 → Prop} {y : Int32} {L : List Int32} (q : P y) (r : ∀ c ∈ L, P c) : ∀ c ∈ y :: L, P c := fun c z => (List.mem_cons.mp z).elim (fun u => u ▸ q) (r c)
theorem own_rng {v : Int32} (h : 0 ≤ v.toInt ∧ v.toInt ≤ 255) : ¬ v < 0 ∧ ¬ (255 : Int32) < v := by
  have e0 : (0 : Int32).toInt = 0 := rfl
  have e1 : (255 : Int32).toInt = 255 := rfl
  rw [Int32.lt_iff_toInt_lt, Int32.lt_iff_toInt_lt, e0, e1]; omega
theorem own_rng' {v : Int32} (h : ¬ v < 0 ∧ ¬ (255 : Int32) < v) : 0 ≤ v.toInt ∧ v.toInt ≤ 255 := by
  have e0 : (0 : Int32).toInt = 0 := rfl
  have e1 : (255 : Int32).toInt = 255 := rfl
  rw [Int32.lt_iff_toInt_lt, Int32.lt_iff_toInt_lt, e0, e1] at h; omega
theorem own_c8 {v x : Int32} (e : v = (x &&& (255 : Int32)).toUInt32.toUInt16.toUInt32.toInt32) : ¬ v < 0 ∧ ¬ (255 : Int32) < v := by
  rw [e, i2c_mask]
  have h := c_and x 255 (by decide)
  have e1 : (255 : Int32).toInt = 255 := rfl
  rw [e1] at h
  exact own_rng h
theorem own_narC {v : Int32} (h : ¬ v < 0 ∧ ¬ (255 : Int32) < v) : nar .char v = v := by
  have r := own_rng' h
  have q := c_i2c v
  apply Int32.toInt_inj.mp
  show v.toUInt32.toUInt16.toUInt32.toInt32.toInt = v.toInt
  omega
theorem own_fitC {v : Int32} (h : ¬ v < 0 ∧ ¬ (255 : Int32) < v) : fits .char (.int v) = true := by rw [← own_narC h]; exact fits_nar_char v
theorem own_i2c {v : Int32} (h : ¬ v < 0 ∧ ¬ (255 : Int32) < v) : v.toUInt32.toUInt16.toUInt32.toInt32 = v := own_narC h
theorem own_nar8 (x : Int32) : nar .byte (x.toInt8.toInt32) = x.toInt8.toInt32 := by
  show (x.toInt8.toInt32).toInt8.toInt32 = x.toInt8.toInt32
  rw [Int8.toInt8_toInt32]
theorem own_no {Z : State} {a0 : Array Value} {C S K : String} {n : Nat} (w : (Jvm.Cond.superclass C S).before a0 Z = true) (w0 : (Jvm.Cond.noSuperclass S).before a0 Z = true) (wk : (Jvm.Cond.instantiable K n).before a0 Z = true) (hn : C ≠ K) (hn2 : S ≠ K) : ∃ c t, Z.vm.findClass C = some c ∧ Z.vm.findClass K = some t ∧ Z.vm.assignable c t = false := by
  obtain ⟨t, k', g1, g2, g3, g4, -⟩ := Cond.instantiable_spec wk
  obtain ⟨c0, k0, r1, r2, r3, -, -⟩ := Cond.noSuperclass_spec w0
  obtain ⟨c, h0⟩ := found_sup w
  obtain ⟨p, k, kp, h1, h2, h3, h4, h5, -, h7⟩ := Cond.superclass_spec h0 w
  cases h1.symm.trans r1
  have ne := ids_ne h0 g1 hn
  have ne2 := ids_ne r1 g1 hn2
  refine ⟨c, t, h0, g1, ?_⟩
  simp only [Bool.or_eq_false_iff] at g4
  have n3 : ∀ fuel, Z.vm.isSubclassAux fuel c t = false := fun fuel => by
    cases fuel with
    | zero => rfl
    | succ f =>
      cases f with
      | zero => simp [Vm.isSubclassAux, ne, h2, h4]
      | succ f => simp [Vm.isSubclassAux, ne, h2, h4, ne2, r2, r3]
  show Z.vm.assignableAux (255 + 1) c t = false
  simp [Vm.assignableAux, ne, h2, g2, h5, g3, g4.1, Vm.isSubclass, n3]

theorem d2_0 : decode jdk_43_method_3_code 0 = .ok (.iload_n 0, 1) := by decide +kernel
theorem d2_1 : decode jdk_43_method_3_code 1 = .ok (.sipush 255, 3) := by decide +kernel
theorem d2_4 : decode jdk_43_method_3_code 4 = .ok (.if_icmp .gt 7, 3) := by decide +kernel
theorem d2_7 : decode jdk_43_method_3_code 7 = .ok (.iconst 1, 1) := by decide +kernel
theorem d2_8 : decode jdk_43_method_3_code 8 = .ok (.goto 4, 3) := by decide +kernel
theorem d2_12 : decode jdk_43_method_3_code 12 = .ok (.ireturn, 1) := by decide +kernel
theorem pn_java_lang_StringLatin1 : plainName "java/lang/StringLatin1" = true := by first | (simp [plainName, overriddenIn]; done) | decide +kernel
theorem ef_rm2 (m : MethodId) (x0 : Int32) : entryFrame m #[(.int x0)] 1 = mkF m 0 #[.val (.int x0)] [] := by first | (simp [entryFrame, mkF, argsToLocals, Value.category, maxLocals]; done) | rfl
def Q2 (Z : State) (p1 : Int32) (h0 : Heap) (n0 : Nat) (v : Option Value) (h : Heap) (L : List Loc) : Prop := v = some (.int 1) ∧ Fr n0 L ∧ h = h0
set_option maxRecDepth 65536 in
set_option maxHeartbeats 40000000 in
theorem rm2 (l : Launch) (Z : State) (a0 : Array Value) (hw : ∀ d ∈ tables_1, d.before a0 Z = true) (ws : List Jvm.Cond) (p1 : Int32) (h0 : Heap) (n0 : Nat) (Z0 : n0 ≤ h0.size) (hp : ¬ p1 < 0 ∧ ¬ (255 : Int32) < p1) :
    MetFree l (⟨"java/lang/StringLatin1", "canEncode", "(C)Z"⟩ : MethodName) (head1 (Jvm.Cond.code (⟨"java/lang/StringLatin1", "canEncode", "(C)Z"⟩ : MethodName) jdk_43_method_3_code 1 (some .boolean) :: ws) ({ frames := 0, cells := 0, slots := 0, locals := 0 } : Room)) (fun ar U => ar = #[(.int p1)] ∧ Z.Warmed39 U.vm ∧ U.heap = h0) (fun _ _ _ _ _ => True) (fun _ U o U' => ∃ v L, o = .returned v ∧ Q2 Z p1 h0 n0 v U'.heap L ∧ FrameEnd U o U' L ({ frames := 0, cells := 0, slots := 0, locals := 0 } : Room).cells ({ frames := 0, cells := 0, slots := 0, locals := 0 } : Room).slots) := by
  refine MetFree.of_bodySF (plainFor_of_name pn_java_lang_StringLatin1) hisR ?_
  intro p e s m args below meth c s₁ Bd hml0 hP hK
  obtain ⟨rfl, hZ, hh⟩ := hP
  have hx := Bd.exec
  have hby := Bd.bytes
  have hml : c.maxLocals = 1 := hml0
  have hown : s.vm.findClass "java/lang/StringLatin1" = some m.cls := findClass_of_methodNamed Bd.named
  have hnm := (name_of_methodNamed Bd.named Bd.method).1
  have X0 : Stand p l e ({ frames := 0, cells := 0, slots := 0, locals := 0 } : Room) s m #[(.int p1)] below meth c s₁ [] 0 0 := Stand.of_body Bd
  have e0 : s₁.heap = h0 := by rw [← hh, Bd.state]; rfl
  have N0 := Fr.nil n0
  obtain ⟨F, hF⟩ : ∃ F, F = own_Fin s (Q2 Z p1 h0 n0) ({ frames := 0, cells := 0, slots := 0, locals := 0 } : Room).cells ({ frames := 0, cells := 0, slots := 0, locals := 0 } : Room).slots := ⟨_, rfl⟩
  show own_Ends p e below (own_Fin s (Q2 Z p1 h0 n0) ({ frames := 0, cells := 0, slots := 0, locals := 0 } : Room).cells ({ frames := 0, cells := 0, slots := 0, locals := 0 } : Room).slots) _
  rw [← hF, ef_rm2 m p1]
  show own_Ends p e below F (s₁.setTop (mkF m 0 #[.val (.int p1)] []))
  refine own_step (fun _ k => XS.iloadN X0.here hx rfl (hb hby d2_0) rfl k) ?_
  show own_Ends p e below F (s₁.setTop (mkF m 1 #[.val (.int p1)] [(.int p1)]))
  refine own_step (fun _ k => XS.sipush X0.here hx rfl (hb hby d2_1) k) ?_
  show own_Ends p e below F (s₁.setTop (mkF m 4 #[.val (.int p1)] [(.int (255 : Int32)), (.int p1)]))
  refine own_step (fun _ k => XS.icmpNo X0.here hx rfl (hb hby d2_4) rfl (flt (hp.2 : ¬ ((255 : Int32) < p1))).2.2.1 k) ?_
  show own_Ends p e below F (s₁.setTop (mkF m 7 #[.val (.int p1)] []))
  refine own_step (fun _ k => XS.iconst X0.here hx rfl (hb hby d2_7) k) ?_
  show own_Ends p e below F (s₁.setTop (mkF m 8 #[.val (.int p1)] [(.int (1 : Int32))]))
  refine own_step (fun _ k => XS.goto X0.here hx rfl (pc0 := 8) (pc' := 12) rfl (hb hby d2_8) (by decide) (by decide) k) ?_
  show own_Ends p e below F (s₁.setTop (mkF m 12 #[.val (.int p1)] [(.int (1 : Int32))]))
  rw [hF]
  exact own_ret X0 (v := (some (.int (nar .boolean (1 : Int32))))) (fun h => by rw [Bd.returns] at h; cases h) Bd.notSynchronized (fun fs hr => retN X0 hx (t := .boolean) Bd.returns (by simp) (hb hby d2_12) hr) (by decide) (by decide) (by rw [e0]; exact ⟨rfl, N0, rfl⟩)

theorem d3_0 : decode jdk_43_method_46_code 0 = .ok (.iconst 1, 1) := by decide +kernel
theorem d3_1 : decode jdk_43_method_46_code 1 = .ok (.newarray .byte, 2) := by decide +kernel
theorem d3_3 : decode jdk_43_method_46_code 3 = .ok (.dup, 1) := by decide +kernel
theorem d3_4 : decode jdk_43_method_46_code 4 = .ok (.iconst 0, 1) := by decide +kernel
theorem d3_5 : decode jdk_43_method_46_code 5 = .ok (.iload_n 0, 1) := by decide +kernel
theorem d3_6 : decode jdk_43_method_46_code 6 = .ok (.i2b, 1) := by decide +kernel
theorem d3_7 : decode jdk_43_method_46_code 7 = .ok (.bastore, 1) := by decide +kernel
theorem d3_8 : decode jdk_43_method_46_code 8 = .ok (.areturn, 1) := by decide +kernel
theorem ef_rm3 (m : MethodId) (x0 : Int32) : entryFrame m #[(.int x0)] 1 = mkF m 0 #[.val (.int x0)] [] := by first | (simp [entryFrame, mkF, argsToLocals, Value.category, maxLocals]; done) | rfl
def Q3 (Z : State) (p1 : Int32) (h0 : Heap) (n0 : Nat) (v : Option Value) (h : Heap) (L : List Loc) : Prop := ∃ c k, v = some (.ref c) ∧ Fr n0 L ∧ Keep h0 h [] ∧ h0.size ≤ c ∧ Arv Z h c k .byte (1 : Int32) [(.int (p1.toInt8.toInt32))] (.int (0 : Int32))
set_option maxRecDepth 65536 in
set_option maxHeartbeats 40000000 in
theorem rm3 (l : Launch) (Z : State) (a0 : Array Value) (hw : ∀ d ∈ tables_1, d.before a0 Z = true) (ws : List Jvm.Cond) (p1 : Int32) (h0 : Heap) (n0 : Nat) (Z0 : n0 ≤ h0.size)  :
    MetFree l (⟨"java/lang/StringLatin1", "toBytes", "(C)[B"⟩ : MethodName) (head1 (Jvm.Cond.code (⟨"java/lang/StringLatin1", "toBytes", "(C)[B"⟩ : MethodName) jdk_43_method_46_code 1 (some (.array .byte)) :: ws) ({ frames := 0, cells := 1, slots := 1, locals := 0 } : Room)) (fun ar U => ar = #[(.int p1)] ∧ Z.Warmed39 U.vm ∧ U.heap = h0) (fun _ _ _ _ _ => True) (fun _ U o U' => ∃ v L, o = .returned v ∧ Q3 Z p1 h0 n0 v U'.heap L ∧ FrameEnd U o U' L ({ frames := 0, cells := 1, slots := 1, locals := 0 } : Room).cells ({ frames := 0, cells := 1, slots := 1, locals := 0 } : Room).slots) := by
  refine MetFree.of_bodySF (plainFor_of_name pn_java_lang_StringLatin1) hisR ?_
  intro p e s m args below meth c s₁ Bd hml0 hP hK
  obtain ⟨rfl, hZ, hh⟩ := hP
  have hx := Bd.exec
  have hby := Bd.bytes
  have hml : c.maxLocals = 1 := hml0
  have hown : s.vm.findClass "java/lang/StringLatin1" = some m.cls := findClass_of_methodNamed Bd.named
  have hnm := (name_of_methodNamed Bd.named Bd.method).1
  have X0 : Stand p l e ({ frames := 0, cells := 1, slots := 1, locals := 0 } : Room) s m #[(.int p1)] below meth c s₁ [] 0 0 := Stand.of_body Bd
  have e0 : s₁.heap = h0 := by rw [← hh, Bd.state]; rfl
  have N0 := Fr.nil n0
  obtain ⟨F, hF⟩ : ∃ F, F = own_Fin s (Q3 Z p1 h0 n0) ({ frames := 0, cells := 1, slots := 1, locals := 0 } : Room).cells ({ frames := 0, cells := 1, slots := 1, locals := 0 } : Room).slots := ⟨_, rfl⟩
  show own_Ends p e below (own_Fin s (Q3 Z p1 h0 n0) ({ frames := 0, cells := 1, slots := 1, locals := 0 } : Room).cells ({ frames := 0, cells := 1, slots := 1, locals := 0 } : Room).slots) _
  rw [← hF, ef_rm3 m p1]
  show own_Ends p e below F (s₁.setTop (mkF m 0 #[.val (.int p1)] []))
  refine own_step (fun _ k => XS.iconst X0.here hx rfl (hb hby d3_0) k) ?_
  show own_Ends p e below F (s₁.setTop (mkF m 1 #[.val (.int p1)] [(.int (1 : Int32))]))
  obtain ⟨T1, h1, k1, X1, e1, E1, A1, st1⟩ := newP X0 hx hZ (own_g hw 16 rfl) e0 (g := (mkF m 1 #[.val (.int p1)] [(.int (1 : Int32))])) rfl (hb hby d3_1) rfl (by decide) (cap := 1) (by decide) (by decide) (by decide) (by decide)
  obtain ⟨a1, g1⟩ : ∃ z, z = h0.size := ⟨_, rfl⟩
  rw [← g1] at A1 st1
  have ge_a1 : n0 ≤ a1 := Nat.le_trans Z0 (Nat.le_of_eq g1.symm)
  have sz_a1 : h0.size ≤ a1 := Nat.le_trans (Nat.le_refl h0.size) (Nat.le_of_eq g1.symm)
  have Z1 : n0 ≤ h1.size := Nat.le_trans Z0 E1.1
  have SZ1 : h0.size ≤ h1.size := Nat.le_trans (Nat.le_refl h0.size) E1.1
  have V1 : Arv Z h1 a1 k1 .byte (1 : Int32) [(.int (0 : Int32))] (.int (0 : Int32)) := Arv.pad (Arv.new A1 (by decide)) (pad_rep [] _ 1)
  refine own_step st1 ?_
  show own_Ends p e below F (T1.setTop (mkF m 3 #[.val (.int p1)] [(.ref a1)]))
  refine own_step (fun _ k => XS.dup X1.here hx rfl (hb hby d3_3) rfl rfl k) ?_
  show own_Ends p e below F (T1.setTop (mkF m 4 #[.val (.int p1)] [(.ref a1), (.ref a1)]))
  refine own_step (fun _ k => XS.iconst X1.here hx rfl (hb hby d3_4) k) ?_
  show own_Ends p e below F (T1.setTop (mkF m 5 #[.val (.int p1)] [(.int (0 : Int32)), (.ref a1), (.ref a1)]))
  refine own_step (fun _ k => XS.iloadN X1.here hx rfl (hb hby d3_5) rfl k) ?_
  show own_Ends p e below F (T1.setTop (mkF m 6 #[.val (.int p1)] [(.int p1), (.int (0 : Int32)), (.ref a1), (.ref a1)]))
  refine own_step (fun _ k => XS.i2b X1.here hx rfl (hb hby d3_6) rfl k) ?_
  show own_Ends p e below F (T1.setTop (mkF m 7 #[.val (.int p1)] [(.int (p1.toInt8.toInt32)), (.int (0 : Int32)), (.ref a1), (.ref a1)]))
  obtain ⟨cl2, Ar2, q2, S2, M2, H2, G2⟩ := id V1
  have hin2 : ¬ ((0 : Int32) < 0 ∨ cl2.slots.size ≤ ((0 : Int32) : Int32).toNatClampNeg) := inb_of S2 ⟨by decide, by decide⟩
  obtain ⟨T2, h2, X2, e2, W2, st2⟩ := stB X1 hx hZ e1 Ar2 (j := (0 : Int32)) hin2 (g := (mkF m 7 #[.val (.int p1)] [(.int (p1.toInt8.toInt32)), (.int (0 : Int32)), (.ref a1), (.ref a1)])) rfl rfl (hb hby d3_7)
  rw [own_nar8 p1] at W2
  have V2 := Arv.set Ar2 q2 S2 M2 H2 G2 (fits_nar_byte p1) W2 0 rfl (Nat.le_of_ble_eq_true rfl)
  have V2 : Arv Z h2 a1 k1 .byte (1 : Int32) [(.int (p1.toInt8.toInt32))] (.int (0 : Int32)) := V2
  refine own_step st2 ?_
  have N2 := Fr.snoc X2 N0 ge_a1
  have Z2 : n0 ≤ h2.size := by rw [W2.size]; exact Z1
  have SZ2 : h0.size ≤ h2.size := by rw [W2.size]; exact SZ1
  show own_Ends p e below F (T2.setTop (mkF m 8 #[.val (.int p1)] [(.ref a1)]))
  rw [hF]
  exact own_ret X2 (v := (some (.ref a1))) (fun h => by rw [Bd.returns] at h; cases h) Bd.notSynchronized (fun fs hr => retOut X2 hx (t := (.array .byte)) (w := (.ref a1)) (i := .areturn) Bd.returns rfl (Or.inr (Or.inr (Or.inr (Or.inr ⟨rfl, rfl, rfl⟩)))) (hb hby d3_8) hr) (by decide) (by decide) (by rw [e2]; exact ⟨_, _, rfl, N2, ((Keep.wr (Keep.ext (Keep.refl _ _) E1) W2 (Or.inr sz_a1)) : Keep h0 h2 []), sz_a1, V2⟩)

theorem d4_0 : decode jdk_42_method_151_code 0 = .ok (.aload_n 0, 1) := by decide +kernel
theorem d4_1 : decode jdk_42_method_151_code 1 = .ok (.invokespecial 1, 3) := by decide +kernel
theorem d4_4 : decode jdk_42_method_151_code 4 = .ok (.aload_n 0, 1) := by decide +kernel
theorem d4_5 : decode jdk_42_method_151_code 5 = .ok (.aload_n 1, 1) := by decide +kernel
theorem d4_6 : decode jdk_42_method_151_code 6 = .ok (.putfield 9, 3) := by decide +kernel
theorem d4_9 : decode jdk_42_method_151_code 9 = .ok (.aload_n 0, 1) := by decide +kernel
theorem d4_10 : decode jdk_42_method_151_code 10 = .ok (.iload_n 2, 1) := by decide +kernel
theorem d4_11 : decode jdk_42_method_151_code 11 = .ok (.putfield 15, 3) := by decide +kernel
theorem d4_14 : decode jdk_42_method_151_code 14 = .ok (.return_, 1) := by decide +kernel
theorem pn_java_lang_String : plainName "java/lang/String" = true := by first | (simp [plainName, overriddenIn]; done) | decide +kernel
theorem ef_rm4 (m : MethodId) (x0 : Addr) (x1 : Addr) (x2 : Int32) : entryFrame m #[(.ref x0), (.ref x1), (.int x2)] 3 = mkF m 0 #[.val (.ref x0), .val (.ref x1), .val (.int x2)] [] := by first | (simp [entryFrame, mkF, argsToLocals, Value.category, maxLocals]; done) | rfl
def Q4 (Z : State) (a : Addr) (p1 : Addr) (h0 : Heap) (n0 : Nat) (v : Option Value) (h : Heap) (L : List Loc) : Prop := v = none ∧ Fr n0 L ∧ Keep h0 h [a] ∧ Exa Z h a "java/lang/String" ∧ Fld Z h a "java/lang/String" "value" "[B" (.ref p1) ∧ Fld Z h a "java/lang/String" "coder" "B" (.int (0 : Int32))
set_option maxRecDepth 65536 in
set_option maxHeartbeats 40000000 in
theorem rm4 (l : Launch) (Z : State) (a0 : Array Value) (hw : ∀ d ∈ tables_1, d.before a0 Z = true) (ws : List Jvm.Cond) (a : Addr) (p1 : Addr) (h0 : Heap) (n0 : Nat) (Z0 : n0 ≤ h0.size) (EX : Exa Z h0 a "java/lang/String") (ge : n0 ≤ a) (F_value : Fld Z h0 a "java/lang/String" "value" "[B" .null) (F_coder : Fld Z h0 a "java/lang/String" "coder" "B" (.int (0 : Int32))) :
    MetFree l (⟨"java/lang/String", "<init>", "([BB)V"⟩ : MethodName) (head1 (Jvm.Cond.code (⟨"java/lang/String", "<init>", "([BB)V"⟩ : MethodName) jdk_42_method_151_code 3 none :: ws) ({ frames := 1, cells := 0, slots := 0, locals := 12 } : Room)) (fun ar U => ar = #[(.ref a), (.ref p1), (.int (0 : Int32))] ∧ Z.Warmed39 U.vm ∧ U.heap = h0) (fun _ _ _ _ _ => True) (fun _ U o U' => ∃ v L, o = .returned v ∧ Q4 Z a p1 h0 n0 v U'.heap L ∧ FrameEnd U o U' L ({ frames := 1, cells := 0, slots := 0, locals := 12 } : Room).cells ({ frames := 1, cells := 0, slots := 0, locals := 12 } : Room).slots) := by
  refine MetFree.of_bodySF (plainFor_of_name pn_java_lang_String) hisR ?_
  intro p e s m args below meth c s₁ Bd hml0 hP hK
  obtain ⟨rfl, hZ, hh⟩ := hP
  have hx := Bd.exec
  have hby := Bd.bytes
  have hml : c.maxLocals = 3 := hml0
  have hown : s.vm.findClass "java/lang/String" = some m.cls := findClass_of_methodNamed Bd.named
  have hnm := (name_of_methodNamed Bd.named Bd.method).1
  have X0 : Stand p l e ({ frames := 1, cells := 0, slots := 0, locals := 12 } : Room) s m #[(.ref a), (.ref p1), (.int (0 : Int32))] below meth c s₁ [] 0 0 := Stand.of_body Bd
  have e0 : s₁.heap = h0 := by rw [← hh, Bd.state]; rfl
  have N0 := Fr.nil n0
  obtain ⟨F, hF⟩ : ∃ F, F = own_Fin s (Q4 Z a p1 h0 n0) ({ frames := 1, cells := 0, slots := 0, locals := 12 } : Room).cells ({ frames := 1, cells := 0, slots := 0, locals := 12 } : Room).slots := ⟨_, rfl⟩
  show own_Ends p e below (own_Fin s (Q4 Z a p1 h0 n0) ({ frames := 1, cells := 0, slots := 0, locals := 12 } : Room).cells ({ frames := 1, cells := 0, slots := 0, locals := 12 } : Room).slots) _
  rw [← hF, ef_rm4 m a p1 (0 : Int32)]
  show own_Ends p e below F (s₁.setTop (mkF m 0 #[.val (.ref a), .val (.ref p1), .val (.int (0 : Int32))] []))
  refine own_step (fun _ k => XS.aloadN X0.here hx rfl (hb hby d4_0) rfl rfl k) ?_
  show own_Ends p e below F (s₁.setTop (mkF m 1 #[.val (.ref a), .val (.ref p1), .val (.int (0 : Int32))] [(.ref a)]))
  obtain ⟨T1, X1, e1, st1⟩ := initO X0 hx hZ hown (own_g hw 21 rfl) (own_g hw 22 rfl) (own_g hw 23 rfl) e0 (g := (mkF m 1 #[.val (.ref a), .val (.ref p1), .val (.int (0 : Int32))] [(.ref a)])) rfl (by rw [hml]; rfl) rfl (hb hby d4_1) (by decide) (W := 0) (by show 2 * 0 + _ ≤ _; exact Nat.le_of_eq rfl) (by decide)
  refine own_step st1 ?_
  show own_Ends p e below F (T1.setTop (mkF m 4 #[.val (.ref a), .val (.ref p1), .val (.int (0 : Int32))] []))
  refine own_step (fun _ k => XS.aloadN X1.here hx rfl (hb hby d4_4) rfl rfl k) ?_
  show own_Ends p e below F (T1.setTop (mkF m 5 #[.val (.ref a), .val (.ref p1), .val (.int (0 : Int32))] [(.ref a)]))
  refine own_step (fun _ k => XS.aloadN X1.here hx rfl (hb hby d4_5) rfl rfl k) ?_
  show own_Ends p e below F (T1.setTop (mkF m 6 #[.val (.ref a), .val (.ref p1), .val (.int (0 : Int32))] [(.ref p1), (.ref a)]))
  obtain ⟨T2, h2, X2, e2, W2, st2⟩ := putF X1 hx hZ hown (host := "") (Or.inl (own_g hw 24 rfl)) Via.refl e1 F_value EX (Or.inr ⟨(own_g hw 25 rfl), rfl, hnm⟩) (own_g hw 12 rfl) (ty := (.array .byte)) (by decide) rfl rfl (g := (mkF m 6 #[.val (.ref a), .val (.ref p1), .val (.int (0 : Int32))] [(.ref p1), (.ref a)])) rfl rfl (hb hby d4_6)
  refine own_step st2 ?_
  have F2 := Fld.same W2 F_value
  have N2 := Fr.snoc X2 N0 ge
  have Z2 : n0 ≤ h2.size := by rw [W2.size]; exact Z0
  have SZ2 : h0.size ≤ h2.size := by rw [W2.size]; exact (Nat.le_refl h0.size)
  show own_Ends p e below F (T2.setTop (mkF m 9 #[.val (.ref a), .val (.ref p1), .val (.int (0 : Int32))] []))
  refine own_step (fun _ k => XS.aloadN X2.here hx rfl (hb hby d4_9) rfl rfl k) ?_
  show own_Ends p e below F (T2.setTop (mkF m 10 #[.val (.ref a), .val (.ref p1), .val (.int (0 : Int32))] [(.ref a)]))
  refine own_step (fun _ k => XS.iloadN X2.here hx rfl (hb hby d4_10) rfl k) ?_
  show own_Ends p e below F (T2.setTop (mkF m 11 #[.val (.ref a), .val (.ref p1), .val (.int (0 : Int32))] [(.int (0 : Int32)), (.ref a)]))
  obtain ⟨T3, h3, X3, e3, W3, st3⟩ := putFN X2 hx hZ hown (own_g hw 26 rfl) Via.refl e2 (Fld.other W2 F_coder (Or.inr (slot_ne (t := .byte) (t' := (.array .byte)) (Or.inr (own_g hw 27 rfl)) (Or.inr (own_g hw 25 rfl)) (by decide) (by decide) (by decide)))) (EX.wr W2) (Or.inr ⟨(own_g hw 27 rfl), rfl, hnm⟩) (own_g hw 12 rfl) (ty := .byte) (v' := (.int (0 : Int32))) (by decide) rfl rfl (g := (mkF m 11 #[.val (.ref a), .val (.ref p1), .val (.int (0 : Int32))] [(.int (0 : Int32)), (.ref a)])) rfl rfl (hb hby d4_11)
  refine own_step st3 ?_
  have F3 := Fld.same W3 (Fld.other W2 F_coder (Or.inr (slot_ne (t := .byte) (t' := (.array .byte)) (Or.inr (own_g hw 27 rfl)) (Or.inr (own_g hw 25 rfl)) (by decide) (by decide) (by decide))))
  have N3 := Fr.snoc X3 N2 ge
  have Z3 : n0 ≤ h3.size := by rw [W3.size]; exact Z2
  have SZ3 : h0.size ≤ h3.size := by rw [W3.size]; exact SZ2
  show own_Ends p e below F (T3.setTop (mkF m 14 #[.val (.ref a), .val (.ref p1), .val (.int (0 : Int32))] []))
  rw [hF]
  exact own_ret X3 (v := none) (fun _ => rfl) Bd.notSynchronized (fun fs hr => X3.returnOut hx Bd.returns (hb hby d4_14) hr) (by decide) (by decide) (by rw [e3]; exact ⟨rfl, N3, ((Keep.wr (Keep.wr (Keep.refl _ _) W2 (Or.inl (List.mem_of_getElem? (i := 0) rfl))) W3 (Or.inl (List.mem_of_getElem? (i := 0) rfl))) : Keep h0 h3 [a]), ((EX.wr W2).wr W3), (Fld.other W3 F2 (Or.inr (slot_ne (t := (.array .byte)) (t' := .byte) (Or.inr (own_g hw 25 rfl)) (Or.inr (own_g hw 27 rfl)) (by decide) (by decide) (by decide)))), F3⟩)

theorem d1_0 : decode jdk_42_method_139_code 0 = .ok (.getstatic 38, 3) := by decide +kernel
theorem d1_3 : decode jdk_42_method_139_code 3 = .ok (.ifCond .eq 23, 3) := by decide +kernel
theorem d1_6 : decode jdk_42_method_139_code 6 = .ok (.iload_n 0, 1) := by decide +kernel
theorem d1_7 : decode jdk_42_method_139_code 7 = .ok (.invokestatic 1015, 3) := by decide +kernel
theorem d1_10 : decode jdk_42_method_139_code 10 = .ok (.ifCond .eq 16, 3) := by decide +kernel
theorem d1_13 : decode jdk_42_method_139_code 13 = .ok (.new 10, 3) := by decide +kernel
theorem d1_16 : decode jdk_42_method_139_code 16 = .ok (.dup, 1) := by decide +kernel
theorem d1_17 : decode jdk_42_method_139_code 17 = .ok (.iload_n 0, 1) := by decide +kernel
theorem d1_18 : decode jdk_42_method_139_code 18 = .ok (.invokestatic 1018, 3) := by decide +kernel
theorem d1_21 : decode jdk_42_method_139_code 21 = .ok (.iconst 0, 1) := by decide +kernel
theorem d1_22 : decode jdk_42_method_139_code 22 = .ok (.invokespecial 209, 3) := by decide +kernel
theorem d1_25 : decode jdk_42_method_139_code 25 = .ok (.areturn, 1) := by decide +kernel
theorem pd__28C_29Z : parseMethodDescriptor "(C)Z" = some ⟨[.char], some .boolean⟩ := by decide +kernel
theorem pd__28C_29_5bB : parseMethodDescriptor "(C)[B" = some ⟨[.char], some (.array .byte)⟩ := by decide +kernel
theorem pd__28_5bBB_29V : parseMethodDescriptor "([BB)V" = some ⟨[(.array .byte), .byte], none⟩ := by decide +kernel
theorem ef_rm1 (m : MethodId) (x0 : Int32) : entryFrame m #[(.int x0)] 1 = mkF m 0 #[.val (.int x0)] [] := by first | (simp [entryFrame, mkF, argsToLocals, Value.category, maxLocals]; done) | rfl
def Q1 (Z : State) (p1 zc : Int32) (h0 : Heap) (n0 : Nat) (v : Option Value) (h : Heap) (L : List Loc) : Prop := ∃ c, v = some (.ref c) ∧ Fr n0 L ∧ Keep h0 h [] ∧ h0.size ≤ c ∧ own_Str Z h h.size c [p1]
set_option maxRecDepth 65536 in
set_option maxHeartbeats 40000000 in
theorem rm1 (l : Launch) (Z : State) (a0 : Array Value) (hw : ∀ d ∈ tables_1, d.before a0 Z = true) (ws : List Jvm.Cond) (p1 zc : Int32) (h0 : Heap) (n0 : Nat) (Z0 : n0 ≤ h0.size) (SC : Sta Z h0 "java/lang/String" "COMPACT_STRINGS" "Z" (.int zc)) (hz : ¬ zc = 0) (hp : ¬ p1 < 0 ∧ ¬ (255 : Int32) < p1) :
    MetFree l (⟨"java/lang/String", "valueOf", "(C)Ljava/lang/String;"⟩ : MethodName) (head1 (Jvm.Cond.code (⟨"java/lang/String", "valueOf", "(C)Ljava/lang/String;"⟩ : MethodName) jdk_42_method_139_code 1 (some (.object "java/lang/String")) :: ws) ({ frames := 2, cells := 2, slots := 5, locals := 27 } : Room)) (fun ar U => ar = #[(.int p1)] ∧ Z.Warmed39 U.vm ∧ U.heap = h0) (fun _ _ _ _ _ => True) (fun _ U o U' => ∃ v L, o = .returned v ∧ Q1 Z p1 zc h0 n0 v U'.heap L ∧ FrameEnd U o U' L ({ frames := 2, cells := 2, slots := 5, locals := 27 } : Room).cells ({ frames := 2, cells := 2, slots := 5, locals := 27 } : Room).slots) := by
  refine MetFree.of_bodySF (plainFor_of_name pn_java_lang_String) hisR ?_
  intro p e s m args below meth c s₁ Bd hml0 hP hK
  obtain ⟨rfl, hZ, hh⟩ := hP
  have hx := Bd.exec
  have hby := Bd.bytes
  have hml : c.maxLocals = 1 := hml0
  have hown : s.vm.findClass "java/lang/String" = some m.cls := findClass_of_methodNamed Bd.named
  have hnm := (name_of_methodNamed Bd.named Bd.method).1
  have X0 : Stand p l e ({ frames := 2, cells := 2, slots := 5, locals := 27 } : Room) s m #[(.int p1)] below meth c s₁ [] 0 0 := Stand.of_body Bd
  have e0 : s₁.heap = h0 := by rw [← hh, Bd.state]; rfl
  have N0 := Fr.nil n0
  obtain ⟨F, hF⟩ : ∃ F, F = own_Fin s (Q1 Z p1 zc h0 n0) ({ frames := 2, cells := 2, slots := 5, locals := 27 } : Room).cells ({ frames := 2, cells := 2, slots := 5, locals := 27 } : Room).slots := ⟨_, rfl⟩
  show own_Ends p e below (own_Fin s (Q1 Z p1 zc h0 n0) ({ frames := 2, cells := 2, slots := 5, locals := 27 } : Room).cells ({ frames := 2, cells := 2, slots := 5, locals := 27 } : Room).slots) _
  rw [← hF, ef_rm1 m p1]
  show own_Ends p e below F (s₁.setTop (mkF m 0 #[.val (.int p1)] []))
  obtain ⟨T1, X1, e1, st1⟩ := getS2 X0 hx hZ hown (host := "") (Or.inl (own_g hw 6 rfl)) Via.refl e0 SC (g := (mkF m 0 #[.val (.int p1)] [])) rfl (hb hby d1_0)
  refine own_step st1 ?_
  show own_Ends p e below F (T1.setTop (mkF m 3 #[.val (.int p1)] [(.int zc)]))
  refine own_step (fun _ k => XS.ifNo X1.here hx rfl (hb hby d1_3) rfl ((if0 _ _).trans (feq (hz : ¬ (zc = (0 : Int32)))).1) k) ?_
  show own_Ends p e below F (T1.setTop (mkF m 6 #[.val (.int p1)] []))
  refine own_step (fun _ k => XS.iloadN X1.here hx rfl (hb hby d1_6) rfl k) ?_
  show own_Ends p e below F (T1.setTop (mkF m 7 #[.val (.int p1)] [(.int p1)]))
  obtain ⟨_, _, ⟨T2, L2, k2, n2⟩, -, X2, ⟨Lc2, hQ2, l2, y2, z2⟩, st2⟩ := Jvm.LawKit.callS X1 hx (y := (⟨"java/lang/StringLatin1", "canEncode", "(C)Z"⟩ : MethodName)) hown (mvT hZ (own_g hw 7 rfl)) (mvT hZ (own_g hw 8 rfl)) (mvT hZ (own_g hw 9 rfl)) (mvT hZ (own_g hw 10 rfl)) (by decide) (backOf (W := 0) (rm2 l Z a0 hw [] p1 h0 n0 Z0 hp) hZ (own_g hw 10 rfl) (own_g hw 9 rfl) (by decide) (by decide)) (g := (mkF m 7 #[.val (.int p1)] [(.int p1)])) rfl (by rw [hml]; rfl) (argsL := [(.int p1)]) (rest := []) (lenOf pd__28C_29Z rfl) rfl (by show 2 * 0 + _ ≤ _; exact Nat.le_of_eq rfl) (hb hby d1_7) (fun _ _ => ⟨rfl, e1, (by decide : 0 + 0 ≤ _), (by decide : 0 + 0 ≤ _)⟩)
  dsimp only [Pt.U, Pt.locs, Pt.cells, Pt.slots] at X2 l2 y2 z2 st2 hQ2
  subst l2 y2 z2
  obtain ⟨rfl, Nq2, eq2⟩ := hQ2
  have N2 := Fr.app N0 Nq2
  refine own_step st2 ?_
  show own_Ends p e below F (T2.setTop (mkF m 10 #[.val (.int p1)] [(.int (1 : Int32))]))
  refine own_step (fun _ k => XS.ifNo X2.here hx rfl (hb hby d1_10) rfl ((if0 _ _).trans (feq (by decide : ¬ ((1 : Int32) = (0 : Int32)))).1) k) ?_
  show own_Ends p e below F (T2.setTop (mkF m 13 #[.val (.int p1)] []))
  obtain ⟨T3, h3, X3, e3, E3, A3, D3, -, st3⟩ := newO X2 hx hZ hown (own_g hw 11 rfl) (own_g hw 12 rfl) (own_g hw 4 rfl) eq2 (g := (mkF m 13 #[.val (.int p1)] [])) rfl (hb hby d1_13) (by decide) (by decide)
  obtain ⟨a3, g3⟩ : ∃ z, z = h0.size := ⟨_, rfl⟩
  rw [← g3] at A3 D3 st3
  have ge_a3 : n0 ≤ a3 := Nat.le_trans Z0 (Nat.le_of_eq g3.symm)
  have sz_a3 : h0.size ≤ a3 := Nat.le_trans (Nat.le_refl h0.size) (Nat.le_of_eq g3.symm)
  have Z3 : n0 ≤ h3.size := Nat.le_trans Z0 E3.1
  have SZ3 : h0.size ≤ h3.size := Nat.le_trans (Nat.le_refl h0.size) E3.1
  have F3_value : Fld Z h3 a3 "java/lang/String" "value" "[B" .null := D3 (Or.inr (own_g hw 25 rfl)) (ty := (.array .byte)) (by decide)
  have F3_coder : Fld Z h3 a3 "java/lang/String" "coder" "B" (.int (0 : Int32)) := D3 (Or.inr (own_g hw 27 rfl)) (ty := .byte) (by decide)
  refine own_step st3 ?_
  show own_Ends p e below F (T3.setTop (mkF m 16 #[.val (.int p1)] [(.ref a3)]))
  refine own_step (fun _ k => XS.dup X3.here hx rfl (hb hby d1_16) rfl rfl k) ?_
  show own_Ends p e below F (T3.setTop (mkF m 17 #[.val (.int p1)] [(.ref a3), (.ref a3)]))
  refine own_step (fun _ k => XS.iloadN X3.here hx rfl (hb hby d1_17) rfl k) ?_
  show own_Ends p e below F (T3.setTop (mkF m 18 #[.val (.int p1)] [(.int p1), (.ref a3), (.ref a3)]))
  obtain ⟨_, _, ⟨T4, L4, k4, n4⟩, -, X4, ⟨Lc4, hQ4, l4, y4, z4⟩, st4⟩ := Jvm.LawKit.callS X3 hx (y := (⟨"java/lang/StringLatin1", "toBytes", "(C)[B"⟩ : MethodName)) hown (mvT hZ (own_g hw 13 rfl)) (mvT hZ (own_g hw 14 rfl)) (mvT hZ (own_g hw 9 rfl)) (mvT hZ (own_g hw 15 rfl)) (by decide) (backOf (W := 2) (rm3 l Z a0 hw [] p1 h3 n0 Z3) hZ (own_g hw 15 rfl) (own_g hw 9 rfl) (by decide) (by decide)) (g := (mkF m 18 #[.val (.int p1)] [(.int p1), (.ref a3), (.ref a3)])) rfl (by rw [hml]; rfl) (argsL := [(.int p1)]) (rest := [(.ref a3), (.ref a3)]) (lenOf pd__28C_29_5bB rfl) rfl (by show 2 * 0 + _ ≤ _; exact Nat.le_of_eq rfl) (hb hby d1_18) (fun _ _ => ⟨rfl, e3, (by decide : 1 + 1 ≤ _), (by decide : 4 + 1 ≤ _)⟩)
  dsimp only [Pt.U, Pt.locs, Pt.cells, Pt.slots] at X4 l4 y4 z4 st4 hQ4
  subst l4 y4 z4
  obtain ⟨c4, kc4, rfl, Nq4, Kq4, fq0_4, fq1_4⟩ := hQ4
  have N4 := Fr.app N2 Nq4
  have Z4 : n0 ≤ T4.heap.size := Nat.le_trans Z3 Kq4.1
  have SZ4 : h0.size ≤ T4.heap.size := Nat.le_trans SZ3 Kq4.1
  have S0_4 := own_Sta_keep (Sta.ext E3 SC) Kq4 all0
  have ne_a3_c4 : a3 ≠ c4 := Nat.ne_of_lt (Nat.lt_of_lt_of_le (F3_value).lt fq0_4)
  have ge_c4 : n0 ≤ c4 := Nat.le_trans Z3 fq0_4
  have sz_c4 : h0.size ≤ c4 := Nat.le_trans SZ3 fq0_4
  refine own_step st4 ?_
  show own_Ends p e below F (T4.setTop (mkF m 21 #[.val (.int p1)] [(.ref c4), (.ref a3), (.ref a3)]))
  refine own_step (fun _ k => XS.iconst X4.here hx rfl (hb hby d1_21) k) ?_
  show own_Ends p e below F (T4.setTop (mkF m 22 #[.val (.int p1)] [(.int (0 : Int32)), (.ref c4), (.ref a3), (.ref a3)]))
  obtain ⟨_, _, ⟨T5, L5, k5, n5⟩, -, X5, ⟨Lc5, hQ5, l5, y5, z5⟩, st5⟩ := X4.specialBack hx (y := (⟨"java/lang/String", "<init>", "([BB)V"⟩ : MethodName)) rfl hown (mvT hZ (own_g hw 17 rfl)) (mvT hZ (own_g hw 18 rfl)) (mvT hZ (own_g hw 20 rfl)) (by decide) (backOf (W := 1) (rm4 l Z a0 hw [] a3 c4 T4.heap n0 Z4 (A3.keep Kq4) ge_a3 (F3_value.keep Kq4 nin0) (F3_coder.keep Kq4 nin0)) hZ (own_g hw 20 rfl) (own_g hw 4 rfl) (by decide) (by decide)) (g := (mkF m 22 #[.val (.int p1)] [(.int (0 : Int32)), (.ref c4), (.ref a3), (.ref a3)])) rfl (by rw [hml]; rfl) (Steps.refl _) (a := a3) (argsL := [(.ref c4), (.int (0 : Int32))]) (rest := [(.ref a3)]) (lenOf pd__28_5bBB_29V rfl) rfl (by show 2 * 0 + _ ≤ _; exact Nat.le_of_eq rfl) (hb hby d1_22) (fun _ _ => ⟨rfl, rfl, (by decide : 2 + 0 ≤ _), (by decide : 5 + 0 ≤ _)⟩)
  dsimp only [Pt.U, Pt.locs, Pt.cells, Pt.slots] at X5 l5 y5 z5 st5 hQ5
  subst l5 y5 z5
  obtain ⟨rfl, Nq5, Kq5, fq0_5, fq1_5, fq2_5⟩ := hQ5
  have N5 := Fr.app N4 Nq5
  have Z5 : n0 ≤ T5.heap.size := Nat.le_trans Z4 Kq5.1
  have SZ5 : h0.size ≤ T5.heap.size := Nat.le_trans SZ4 Kq5.1
  have S0_5 := own_Sta_keep S0_4 Kq5 (allS (own_ns_exa (A3.keep Kq4)) all0)
  refine own_trans st5 ?_
  show own_Ends p e below F (T5.setTop (mkF m 25 #[.val (.int p1)] [(.ref a3)]))
  rw [hF]
  exact own_ret X5 (v := (some (.ref a3))) (fun h => by rw [Bd.returns] at h; cases h) Bd.notSynchronized (fun fs hr => retOut X5 hx (t := (.object "java/lang/String")) (w := (.ref a3)) (i := .areturn) Bd.returns rfl (Or.inr (Or.inr (Or.inr (Or.inr ⟨rfl, rfl, rfl⟩)))) (hb hby d1_25) hr) (by decide) (by decide) (by exact ⟨_, rfl, N5, ((Keep.trans (Keep.trans (Keep.ext (Keep.refl _ _) E3) Kq4 all0) Kq5 (allS (Or.inr sz_a3) all0)) : Keep h0 T5.heap []), sz_a3, own_Str.mk (cs := [p1]) fq0_5 fq2_5 fq1_5 (fq1_4.keep Kq5 (ninS (Ne.symm ne_a3_c4) nin0)) rfl rfl (own_cS hp own_c0)⟩)

theorem d7_0 : decode jdk_31_method_11_code 0 = .ok (.aload_n 0, 1) := by decide +kernel
theorem d7_1 : decode jdk_31_method_11_code 1 = .ok (.ifnonnull 12, 3) := by decide +kernel
theorem d7_13 : decode jdk_31_method_11_code 13 = .ok (.aload_n 0, 1) := by decide +kernel
theorem d7_14 : decode jdk_31_method_11_code 14 = .ok (.areturn, 1) := by decide +kernel
theorem pn_java_util_Objects : plainName "java/util/Objects" = true := by first | (simp [plainName, overriddenIn]; done) | decide +kernel
theorem ef_rm7 (m : MethodId) (x0 : Addr) (x1 : Addr) : entryFrame m #[(.ref x0), (.ref x1)] 2 = mkF m 0 #[.val (.ref x0), .val (.ref x1)] [] := by first | (simp [entryFrame, mkF, argsToLocals, Value.category, maxLocals]; done) | rfl
def Q7 (Z : State) (a b : Addr) (h0 : Heap) (n0 : Nat) (v : Option Value) (h : Heap) (L : List Loc) : Prop := v = some (.ref a) ∧ Fr n0 L ∧ h = h0
set_option maxRecDepth 65536 in
set_option maxHeartbeats 40000000 in
theorem rm7 (l : Launch) (Z : State) (a0 : Array Value) (hw : ∀ d ∈ tables_1, d.before a0 Z = true) (ws : List Jvm.Cond) (a b : Addr) (h0 : Heap) (n0 : Nat) (Z0 : n0 ≤ h0.size)  :
    MetFree l (⟨"java/util/Objects", "requireNonNull", "(Ljava/lang/Object;Ljava/lang/String;)Ljava/lang/Object;"⟩ : MethodName) (head1 (Jvm.Cond.code (⟨"java/util/Objects", "requireNonNull", "(Ljava/lang/Object;Ljava/lang/String;)Ljava/lang/Object;"⟩ : MethodName) jdk_31_method_11_code 2 (some (.object "java/lang/Object")) :: ws) ({ frames := 0, cells := 0, slots := 0, locals := 0 } : Room)) (fun ar U => ar = #[(.ref a), (.ref b)] ∧ Z.Warmed39 U.vm ∧ U.heap = h0) (fun _ _ _ _ _ => True) (fun _ U o U' => ∃ v L, o = .returned v ∧ Q7 Z a b h0 n0 v U'.heap L ∧ FrameEnd U o U' L ({ frames := 0, cells := 0, slots := 0, locals := 0 } : Room).cells ({ frames := 0, cells := 0, slots := 0, locals := 0 } : Room).slots) := by
  refine MetFree.of_bodySF (plainFor_of_name pn_java_util_Objects) hisR ?_
  intro p e s m args below meth c s₁ Bd hml0 hP hK
  obtain ⟨rfl, hZ, hh⟩ := hP
  have hx := Bd.exec
  have hby := Bd.bytes
  have hml : c.maxLocals = 2 := hml0
  have hown : s.vm.findClass "java/util/Objects" = some m.cls := findClass_of_methodNamed Bd.named
  have hnm := (name_of_methodNamed Bd.named Bd.method).1
  have X0 : Stand p l e ({ frames := 0, cells := 0, slots := 0, locals := 0 } : Room) s m #[(.ref a), (.ref b)] below meth c s₁ [] 0 0 := Stand.of_body Bd
  have e0 : s₁.heap = h0 := by rw [← hh, Bd.state]; rfl
  have N0 := Fr.nil n0
  obtain ⟨F, hF⟩ : ∃ F, F = own_Fin s (Q7 Z a b h0 n0) ({ frames := 0, cells := 0, slots := 0, locals := 0 } : Room).cells ({ frames := 0, cells := 0, slots := 0, locals := 0 } : Room).slots := ⟨_, rfl⟩
  show own_Ends p e below (own_Fin s (Q7 Z a b h0 n0) ({ frames := 0, cells := 0, slots := 0, locals := 0 } : Room).cells ({ frames := 0, cells := 0, slots := 0, locals := 0 } : Room).slots) _
  rw [← hF, ef_rm7 m a b]
  show own_Ends p e below F (s₁.setTop (mkF m 0 #[.val (.ref a), .val (.ref b)] []))
  refine own_step (fun _ k => XS.aloadN X0.here hx rfl (hb hby d7_0) rfl rfl k) ?_
  show own_Ends p e below F (s₁.setTop (mkF m 1 #[.val (.ref a), .val (.ref b)] [(.ref a)]))
  refine own_step (fun _ k => XS.ifnonnullYes X0.here hx rfl (pc0 := 1) (pc' := 13) rfl (hb hby d7_1) rfl (by decide) (by decide) k) ?_
  show own_Ends p e below F (s₁.setTop (mkF m 13 #[.val (.ref a), .val (.ref b)] []))
  refine own_step (fun _ k => XS.aloadN X0.here hx rfl (hb hby d7_13) rfl rfl k) ?_
  show own_Ends p e below F (s₁.setTop (mkF m 14 #[.val (.ref a), .val (.ref b)] [(.ref a)]))
  rw [hF]
  exact own_ret X0 (v := (some (.ref a))) (fun h => by rw [Bd.returns] at h; cases h) Bd.notSynchronized (fun fs hr => retOut X0 hx (t := (.object "java/lang/Object")) (w := (.ref a)) (i := .areturn) Bd.returns rfl (Or.inr (Or.inr (Or.inr (Or.inr ⟨rfl, rfl, rfl⟩)))) (hb hby d7_14) hr) (by decide) (by decide) (by rw [e0]; exact ⟨rfl, N0, rfl⟩)

theorem own_sa : ∀ d ∈ Bundle.stringAtoms, d ∈ tables_1 := by decide +kernel
theorem d6_0 : decode prog_17_method_1_code 0 = .ok (.aload_n 0, 1) := by decide +kernel
theorem d6_1 : decode prog_17_method_1_code 1 = .ok (.invokespecial 1, 3) := by decide +kernel
theorem d6_4 : decode prog_17_method_1_code 4 = .ok (.aload_n 0, 1) := by decide +kernel
theorem d6_5 : decode prog_17_method_1_code 5 = .ok (.aload_n 1, 1) := by decide +kernel
theorem d6_6 : decode prog_17_method_1_code 6 = .ok (.ldc 7, 2) := by decide +kernel
theorem d6_8 : decode prog_17_method_1_code 8 = .ok (.invokestatic 9, 3) := by decide +kernel
theorem d6_11 : decode prog_17_method_1_code 11 = .ok (.checkcast 15, 3) := by decide +kernel
theorem d6_14 : decode prog_17_method_1_code 14 = .ok (.putfield 17, 3) := by decide +kernel
theorem d6_17 : decode prog_17_method_1_code 17 = .ok (.aload_n 0, 1) := by decide +kernel
theorem d6_18 : decode prog_17_method_1_code 18 = .ok (.aload_n 2, 1) := by decide +kernel
theorem d6_19 : decode prog_17_method_1_code 19 = .ok (.ldc 22, 2) := by decide +kernel
theorem d6_21 : decode prog_17_method_1_code 21 = .ok (.invokestatic 9, 3) := by decide +kernel
theorem d6_24 : decode prog_17_method_1_code 24 = .ok (.checkcast 15, 3) := by decide +kernel
theorem d6_27 : decode prog_17_method_1_code 27 = .ok (.putfield 24, 3) := by decide +kernel
theorem d6_30 : decode prog_17_method_1_code 30 = .ok (.aload_n 0, 1) := by decide +kernel
theorem d6_31 : decode prog_17_method_1_code 31 = .ok (.lload_n 3, 1) := by decide +kernel
theorem d6_32 : decode prog_17_method_1_code 32 = .ok (.putfield 26, 3) := by decide +kernel
theorem d6_35 : decode prog_17_method_1_code 35 = .ok (.aload_n 0, 1) := by decide +kernel
theorem d6_36 : decode prog_17_method_1_code 36 = .ok (.aload 5, 2) := by decide +kernel
theorem d6_38 : decode prog_17_method_1_code 38 = .ok (.ldc 30, 2) := by decide +kernel
theorem d6_40 : decode prog_17_method_1_code 40 = .ok (.invokestatic 9, 3) := by decide +kernel
theorem d6_43 : decode prog_17_method_1_code 43 = .ok (.checkcast 15, 3) := by decide +kernel
theorem d6_46 : decode prog_17_method_1_code 46 = .ok (.putfield 32, 3) := by decide +kernel
theorem d6_49 : decode prog_17_method_1_code 49 = .ok (.aload_n 0, 1) := by decide +kernel
theorem d6_50 : decode prog_17_method_1_code 50 = .ok (.iload 6, 2) := by decide +kernel
theorem d6_52 : decode prog_17_method_1_code 52 = .ok (.putfield 34, 3) := by decide +kernel
theorem d6_55 : decode prog_17_method_1_code 55 = .ok (.aload_n 0, 1) := by decide +kernel
theorem d6_56 : decode prog_17_method_1_code 56 = .ok (.lload 7, 2) := by decide +kernel
theorem d6_58 : decode prog_17_method_1_code 58 = .ok (.putfield 38, 3) := by decide +kernel
theorem d6_61 : decode prog_17_method_1_code 61 = .ok (.aload_n 0, 1) := by decide +kernel
theorem d6_62 : decode prog_17_method_1_code 62 = .ok (.lload 9, 2) := by decide +kernel
theorem d6_64 : decode prog_17_method_1_code 64 = .ok (.putfield 41, 3) := by decide +kernel
theorem d6_67 : decode prog_17_method_1_code 67 = .ok (.return_, 1) := by decide +kernel
theorem pn_com_example_clock3600_clock3600_queue_StoredTask : plainName "com/example/clock3600/clock3600/queue/StoredTask" = true := by first | (simp [plainName, overriddenIn]; done) | decide +kernel
theorem pd__28Ljava_2flang_2fObject_3bLjava_2flang_2fString_3b_29Ljava_2flang_2fObject_3b : parseMethodDescriptor "(Ljava/lang/Object;Ljava/lang/String;)Ljava/lang/Object;" = some ⟨[(.object "java/lang/Object"), (.object "java/lang/String")], some (.object "java/lang/Object")⟩ := by decide +kernel
theorem ef_rm6 (m : MethodId) (x0 : Addr) (x1 : Addr) (x2 : Addr) (x3 : Int64) (x4 : Addr) (x5 : Int32) (x6 : Int64) (x7 : Int64) : entryFrame m #[(.ref x0), (.ref x1), (.ref x2), (.long x3), (.ref x4), (.int x5), (.long x6), (.long x7)] 11 = mkF m 0 #[.val (.ref x0), .val (.ref x1), .val (.ref x2), .val (.long x3), .second, .val (.ref x4), .val (.int x5), .val (.long x6), .second, .val (.long x7), .second] [] := by first | (simp [entryFrame, mkF, argsToLocals, Value.category, maxLocals]; done) | rfl
def Q6 (Z : State) (a : Addr) (p1 : Addr) (p2 : Addr) (p3 : Int64) (p4 : Addr) (p5 : Int32) (p6 : Int64) (p7 : Int64) (h0 : Heap) (n0 : Nat) (v : Option Value) (h : Heap) (L : List Loc) : Prop := v = none ∧ Fr n0 L ∧ Keep h0 h [a] ∧ Exa Z h a "com/example/clock3600/clock3600/queue/StoredTask" ∧ Fld Z h a "com/example/clock3600/clock3600/queue/StoredTask" "queue" "Ljava/lang/String;" (.ref p1) ∧ Fld Z h a "com/example/clock3600/clock3600/queue/StoredTask" "id" "Ljava/lang/String;" (.ref p2) ∧ Fld Z h a "com/example/clock3600/clock3600/queue/StoredTask" "dueAtMillis" "J" (.long p3) ∧ Fld Z h a "com/example/clock3600/clock3600/queue/StoredTask" "payload" "Ljava/lang/String;" (.ref p4) ∧ Fld Z h a "com/example/clock3600/clock3600/queue/StoredTask" "attempts" "I" (.int p5) ∧ Fld Z h a "com/example/clock3600/clock3600/queue/StoredTask" "leaseEndMillis" "J" (.long p6) ∧ Fld Z h a "com/example/clock3600/clock3600/queue/StoredTask" "order" "J" (.long p7)
set_option maxRecDepth 65536 in
set_option maxHeartbeats 40000000 in
theorem rm6 (l : Launch) (Z : State) (a0 : Array Value) (hw : ∀ d ∈ tables_1, d.before a0 Z = true) (ws : List Jvm.Cond) (a : Addr) (p1 : Addr) (p2 : Addr) (p3 : Int64) (p4 : Addr) (p5 : Int32) (p6 : Int64) (p7 : Int64) (h0 : Heap) (n0 : Nat) (Z0 : n0 ≤ h0.size) (EX : Exa Z h0 a "com/example/clock3600/clock3600/queue/StoredTask") (ge : n0 ≤ a) (F_queue : Fld Z h0 a "com/example/clock3600/clock3600/queue/StoredTask" "queue" "Ljava/lang/String;" .null) (F_id : Fld Z h0 a "com/example/clock3600/clock3600/queue/StoredTask" "id" "Ljava/lang/String;" .null) (F_dueAtMillis : Fld Z h0 a "com/example/clock3600/clock3600/queue/StoredTask" "dueAtMillis" "J" (.long (0 : Int64))) (F_payload : Fld Z h0 a "com/example/clock3600/clock3600/queue/StoredTask" "payload" "Ljava/lang/String;" .null) (F_attempts : Fld Z h0 a "com/example/clock3600/clock3600/queue/StoredTask" "attempts" "I" (.int (0 : Int32))) (F_leaseEndMillis : Fld Z h0 a "com/example/clock3600/clock3600/queue/StoredTask" "leaseEndMillis" "J" (.long (0 : Int64))) (F_order : Fld Z h0 a "com/example/clock3600/clock3600/queue/StoredTask" "order" "J" (.long (0 : Int64))) (EX1 : Exa Z h0 p1 "java/lang/String") (EX2 : Exa Z h0 p2 "java/lang/String") (EX4 : Exa Z h0 p4 "java/lang/String") :
    MetFree l (⟨"com/example/clock3600/clock3600/queue/StoredTask", "<init>", "(Ljava/lang/String;Ljava/lang/String;JLjava/lang/String;IJJ)V"⟩ : MethodName) (head1 (Jvm.Cond.code (⟨"com/example/clock3600/clock3600/queue/StoredTask", "<init>", "(Ljava/lang/String;Ljava/lang/String;JLjava/lang/String;IJJ)V"⟩ : MethodName) prog_17_method_1_code 11 none :: ws) ({ frames := 1, cells := 6, slots := 68, locals := 14 } : Room)) (fun ar U => ar = #[(.ref a), (.ref p1), (.ref p2), (.long p3), (.ref p4), (.int p5), (.long p6), (.long p7)] ∧ Z.Warmed39 U.vm ∧ U.heap = h0) (fun _ _ _ _ _ => True) (fun _ U o U' => ∃ v L, o = .returned v ∧ Q6 Z a p1 p2 p3 p4 p5 p6 p7 h0 n0 v U'.heap L ∧ ReturnedEndW U o U' L ({ frames := 1, cells := 6, slots := 68, locals := 14 } : Room).cells ({ frames := 1, cells := 6, slots := 68, locals := 14 } : Room).slots) := by
  refine MetFree.of_bodySF (plainFor_of_name pn_com_example_clock3600_clock3600_queue_StoredTask) hisR ?_
  intro p e s m args below meth c s₁ Bd hml0 hP hK
  obtain ⟨rfl, hZ, hh⟩ := hP
  have hx := Bd.exec
  have hby := Bd.bytes
  have hml : c.maxLocals = 11 := hml0
  have hown : s.vm.findClass "com/example/clock3600/clock3600/queue/StoredTask" = some m.cls := findClass_of_methodNamed Bd.named
  have hnm := (name_of_methodNamed Bd.named Bd.method).1
  have X0 : Stand p l e ({ frames := 1, cells := 6, slots := 68, locals := 14 } : Room) (s.setVm s.vm) m #[(.ref a), (.ref p1), (.ref p2), (.long p3), (.ref p4), (.int p5), (.long p6), (.long p7)] below meth c s₁ [] 0 0 := Stand.of_body Bd
  have e0 : s₁.heap = h0 := by rw [← hh, Bd.state]; rfl
  have N0 := Fr.nil n0
  have hS : s.Since s.vm h0.size := (State.WarmedH.refl s).since _
  have hk := Nat.le_refl h0.size
  obtain ⟨F, hF⟩ : ∃ F, F = own_FinW s (Q6 Z a p1 p2 p3 p4 p5 p6 p7 h0 n0) ({ frames := 1, cells := 6, slots := 68, locals := 14 } : Room).cells ({ frames := 1, cells := 6, slots := 68, locals := 14 } : Room).slots := ⟨_, rfl⟩
  show own_Ends p e below (own_FinW s (Q6 Z a p1 p2 p3 p4 p5 p6 p7 h0 n0) ({ frames := 1, cells := 6, slots := 68, locals := 14 } : Room).cells ({ frames := 1, cells := 6, slots := 68, locals := 14 } : Room).slots) _
  rw [← hF, ef_rm6 m a p1 p2 p3 p4 p5 p6 p7]
  show own_Ends p e below F (s₁.setTop (mkF m 0 #[.val (.ref a), .val (.ref p1), .val (.ref p2), .val (.long p3), .second, .val (.ref p4), .val (.int p5), .val (.long p6), .second, .val (.long p7), .second] []))
  refine own_step (fun _ k => XS.aloadN X0.here hx rfl (hb hby d6_0) rfl rfl k) ?_
  show own_Ends p e below F (s₁.setTop (mkF m 1 #[.val (.ref a), .val (.ref p1), .val (.ref p2), .val (.long p3), .second, .val (.ref p4), .val (.int p5), .val (.long p6), .second, .val (.long p7), .second] [(.ref a)]))
  obtain ⟨T1, X1, e1, st1⟩ := initO X0 hx hZ hown (own_g hw 34 rfl) (own_g hw 22 rfl) (own_g hw 23 rfl) e0 (g := (mkF m 1 #[.val (.ref a), .val (.ref p1), .val (.ref p2), .val (.long p3), .second, .val (.ref p4), .val (.int p5), .val (.long p6), .second, .val (.long p7), .second] [(.ref a)])) rfl (by rw [hml]; rfl) rfl (hb hby d6_1) (by decide) (W := 0) (by show 2 * 0 + _ ≤ _; exact Nat.le_of_eq rfl) (by decide)
  refine own_step st1 ?_
  show own_Ends p e below F (T1.setTop (mkF m 4 #[.val (.ref a), .val (.ref p1), .val (.ref p2), .val (.long p3), .second, .val (.ref p4), .val (.int p5), .val (.long p6), .second, .val (.long p7), .second] []))
  refine own_step (fun _ k => XS.aloadN X1.here hx rfl (hb hby d6_4) rfl rfl k) ?_
  show own_Ends p e below F (T1.setTop (mkF m 5 #[.val (.ref a), .val (.ref p1), .val (.ref p2), .val (.long p3), .second, .val (.ref p4), .val (.int p5), .val (.long p6), .second, .val (.long p7), .second] [(.ref a)]))
  refine own_step (fun _ k => XS.aloadN X1.here hx rfl (hb hby d6_5) rfl rfl k) ?_
  show own_Ends p e below F (T1.setTop (mkF m 6 #[.val (.ref a), .val (.ref p1), .val (.ref p2), .val (.long p3), .second, .val (.ref p4), .val (.int p5), .val (.long p6), .second, .val (.long p7), .second] [(.ref p1), (.ref a)]))
  obtain ⟨a2, T2, h2, k2, X2, e2, E2, hS, hk, hZ, hown, st2⟩ := ldcS X1 hx hZ hown (own_g hw 35 rfl) (fun d hd => hw d (own_sa d hd)) e1 hS hk (g := (mkF m 6 #[.val (.ref a), .val (.ref p1), .val (.ref p2), .val (.long p3), .second, .val (.ref p4), .val (.int p5), .val (.long p6), .second, .val (.long p7), .second] [(.ref p1), (.ref a)])) rfl (hb hby d6_6) (n := 20) (by decide) (by decide) (by decide) (by decide)
  have Z2 : n0 ≤ h2.size := Nat.le_trans Z0 E2.1
  have SZ2 : h0.size ≤ h2.size := Nat.le_trans (Nat.le_refl h0.size) E2.1
  refine own_step st2 ?_
  show own_Ends p e below F (T2.setTop (mkF m 8 #[.val (.ref a), .val (.ref p1), .val (.ref p2), .val (.long p3), .second, .val (.ref p4), .val (.int p5), .val (.long p6), .second, .val (.long p7), .second] [(.ref a2), (.ref p1), (.ref a)]))
  obtain ⟨_, _, ⟨T3, L3, k3, n3⟩, -, X3, ⟨Lc3, hQ3, l3, y3, z3⟩, st3⟩ := Jvm.LawKit.callS X2 hx (y := (⟨"java/util/Objects", "requireNonNull", "(Ljava/lang/Object;Ljava/lang/String;)Ljava/lang/Object;"⟩ : MethodName)) hown (mvT hZ (own_g hw 38 rfl)) (mvT hZ (own_g hw 39 rfl)) (mvT hZ (own_g hw 40 rfl)) (mvT hZ (own_g hw 41 rfl)) (by decide) (backOf (W := 1) (rm7 l Z a0 hw [] p1 a2 h2 n0 Z2) hZ (own_g hw 41 rfl) (own_g hw 40 rfl) (by decide) (by decide)) (g := (mkF m 8 #[.val (.ref a), .val (.ref p1), .val (.ref p2), .val (.long p3), .second, .val (.ref p4), .val (.int p5), .val (.long p6), .second, .val (.long p7), .second] [(.ref a2), (.ref p1), (.ref a)])) rfl (by rw [hml]; rfl) (argsL := [(.ref p1), (.ref a2)]) (rest := [(.ref a)]) (lenOf pd__28Ljava_2flang_2fObject_3bLjava_2flang_2fString_3b_29Ljava_2flang_2fObject_3b rfl) rfl (by show 2 * 0 + _ ≤ _; exact Nat.le_of_eq rfl) (hb hby d6_8) (fun _ _ => ⟨rfl, e2, (by decide : 2 + 0 ≤ _), (by decide : 24 + 0 ≤ _)⟩)
  dsimp only [Pt.U, Pt.locs, Pt.cells, Pt.slots] at X3 l3 y3 z3 st3 hQ3
  subst l3 y3 z3
  obtain ⟨rfl, Nq3, eq3⟩ := hQ3
  have N3 := Fr.app N0 Nq3
  refine own_step st3 ?_
  show own_Ends p e below F (T3.setTop (mkF m 11 #[.val (.ref a), .val (.ref p1), .val (.ref p2), .val (.long p3), .second, .val (.ref p4), .val (.int p5), .val (.long p6), .second, .val (.long p7), .second] [(.ref p1), (.ref a)]))
  obtain ⟨T4, X4, e4, st4⟩ := castY X3 hx hZ hown (own_g hw 42 rfl) eq3 (Ins.self (EX1.ext E2)) (g := (mkF m 11 #[.val (.ref a), .val (.ref p1), .val (.ref p2), .val (.long p3), .second, .val (.ref p4), .val (.int p5), .val (.long p6), .second, .val (.long p7), .second] [(.ref p1), (.ref a)])) rfl rfl (hb hby d6_11)
  refine own_step st4 ?_
  show own_Ends p e below F (T4.setTop (mkF m 14 #[.val (.ref a), .val (.ref p1), .val (.ref p2), .val (.long p3), .second, .val (.ref p4), .val (.int p5), .val (.long p6), .second, .val (.long p7), .second] [(.ref p1), (.ref a)]))
  obtain ⟨T5, h5, X5, e5, W5, st5⟩ := putF X4 hx hZ hown (host := "") (Or.inl (own_g hw 43 rfl)) Via.refl e4 (F_queue.ext E2) (EX.ext E2) (Or.inr ⟨(own_g hw 44 rfl), rfl, hnm⟩) (own_g hw 29 rfl) (ty := (.object "java/lang/String")) (by decide) rfl rfl (g := (mkF m 14 #[.val (.ref a), .val (.ref p1), .val (.ref p2), .val (.long p3), .second, .val (.ref p4), .val (.int p5), .val (.long p6), .second, .val (.long p7), .second] [(.ref p1), (.ref a)])) rfl rfl (hb hby d6_14)
  refine own_step st5 ?_
  have F5 := Fld.same W5 (F_queue.ext E2)
  have N5 := Fr.snoc X5 N3 ge
  have Z5 : n0 ≤ h5.size := by rw [W5.size]; exact Z2
  have SZ5 : h0.size ≤ h5.size := by rw [W5.size]; exact SZ2
  have hk := (W5.size.symm ▸ hk : _ ≤ h5.size)
  show own_Ends p e below F (T5.setTop (mkF m 17 #[.val (.ref a), .val (.ref p1), .val (.ref p2), .val (.long p3), .second, .val (.ref p4), .val (.int p5), .val (.long p6), .second, .val (.long p7), .second] []))
  refine own_step (fun _ k => XS.aloadN X5.here hx rfl (hb hby d6_17) rfl rfl k) ?_
  show own_Ends p e below F (T5.setTop (mkF m 18 #[.val (.ref a), .val (.ref p1), .val (.ref p2), .val (.long p3), .second, .val (.ref p4), .val (.int p5), .val (.long p6), .second, .val (.long p7), .second] [(.ref a)]))
  refine own_step (fun _ k => XS.aloadN X5.here hx rfl (hb hby d6_18) rfl rfl k) ?_
  show own_Ends p e below F (T5.setTop (mkF m 19 #[.val (.ref a), .val (.ref p1), .val (.ref p2), .val (.long p3), .second, .val (.ref p4), .val (.int p5), .val (.long p6), .second, .val (.long p7), .second] [(.ref p2), (.ref a)]))
  obtain ⟨a6, T6, h6, k6, X6, e6, E6, hS, hk, hZ, hown, st6⟩ := ldcS X5 hx hZ hown (own_g hw 45 rfl) (fun d hd => hw d (own_sa d hd)) e5 hS hk (g := (mkF m 19 #[.val (.ref a), .val (.ref p1), .val (.ref p2), .val (.long p3), .second, .val (.ref p4), .val (.int p5), .val (.long p6), .second, .val (.long p7), .second] [(.ref p2), (.ref a)])) rfl (hb hby d6_19) (n := 8) (by decide) (by decide) (by decide) (by decide)
  have Z6 : n0 ≤ h6.size := Nat.le_trans Z5 E6.1
  have SZ6 : h0.size ≤ h6.size := Nat.le_trans SZ5 E6.1
  refine own_step st6 ?_
  show own_Ends p e below F (T6.setTop (mkF m 21 #[.val (.ref a), .val (.ref p1), .val (.ref p2), .val (.long p3), .second, .val (.ref p4), .val (.int p5), .val (.long p6), .second, .val (.long p7), .second] [(.ref a6), (.ref p2), (.ref a)]))
  obtain ⟨_, _, ⟨T7, L7, k7, n7⟩, -, X7, ⟨Lc7, hQ7, l7, y7, z7⟩, st7⟩ := Jvm.LawKit.callS X6 hx (y := (⟨"java/util/Objects", "requireNonNull", "(Ljava/lang/Object;Ljava/lang/String;)Ljava/lang/Object;"⟩ : MethodName)) hown (mvT hZ (own_g hw 38 rfl)) (mvT hZ (own_g hw 39 rfl)) (mvT hZ (own_g hw 40 rfl)) (mvT hZ (own_g hw 41 rfl)) (by decide) (backOf (W := 1) (rm7 l Z a0 hw [] p2 a6 h6 n0 Z6) hZ (own_g hw 41 rfl) (own_g hw 40 rfl) (by decide) (by decide)) (g := (mkF m 21 #[.val (.ref a), .val (.ref p1), .val (.ref p2), .val (.long p3), .second, .val (.ref p4), .val (.int p5), .val (.long p6), .second, .val (.long p7), .second] [(.ref a6), (.ref p2), (.ref a)])) rfl (by rw [hml]; rfl) (argsL := [(.ref p2), (.ref a6)]) (rest := [(.ref a)]) (lenOf pd__28Ljava_2flang_2fObject_3bLjava_2flang_2fString_3b_29Ljava_2flang_2fObject_3b rfl) rfl (by show 2 * 0 + _ ≤ _; exact Nat.le_of_eq rfl) (hb hby d6_21) (fun _ _ => ⟨rfl, e6, (by decide : 4 + 0 ≤ _), (by decide : 36 + 0 ≤ _)⟩)
  dsimp only [Pt.U, Pt.locs, Pt.cells, Pt.slots] at X7 l7 y7 z7 st7 hQ7
  subst l7 y7 z7
  obtain ⟨rfl, Nq7, eq7⟩ := hQ7
  have N7 := Fr.app N5 Nq7
  refine own_step st7 ?_
  show own_Ends p e below F (T7.setTop (mkF m 24 #[.val (.ref a), .val (.ref p1), .val (.ref p2), .val (.long p3), .second, .val (.ref p4), .val (.int p5), .val (.long p6), .second, .val (.long p7), .second] [(.ref p2), (.ref a)]))
  obtain ⟨T8, X8, e8, st8⟩ := castY X7 hx hZ hown (own_g hw 42 rfl) eq7 (Ins.self (((EX2.ext E2).wr W5).ext E6)) (g := (mkF m 24 #[.val (.ref a), .val (.ref p1), .val (.ref p2), .val (.long p3), .second, .val (.ref p4), .val (.int p5), .val (.long p6), .second, .val (.long p7), .second] [(.ref p2), (.ref a)])) rfl rfl (hb hby d6_24)
  refine own_step st8 ?_
  show own_Ends p e below F (T8.setTop (mkF m 27 #[.val (.ref a), .val (.ref p1), .val (.ref p2), .val (.long p3), .second, .val (.ref p4), .val (.int p5), .val (.long p6), .second, .val (.long p7), .second] [(.ref p2), (.ref a)]))
  obtain ⟨T9, h9, X9, e9, W9, st9⟩ := putF X8 hx hZ hown (host := "") (Or.inl (own_g hw 46 rfl)) Via.refl e8 ((Fld.other W5 (F_id.ext E2) (Or.inr (slot_ne (t := (.object "java/lang/String")) (t' := (.object "java/lang/String")) (Or.inr (own_g hw 47 rfl)) (Or.inr (own_g hw 44 rfl)) (by decide) (by decide) (by decide)))).ext E6) (((EX.ext E2).wr W5).ext E6) (Or.inr ⟨(own_g hw 47 rfl), rfl, hnm⟩) (own_g hw 29 rfl) (ty := (.object "java/lang/String")) (by decide) rfl rfl (g := (mkF m 27 #[.val (.ref a), .val (.ref p1), .val (.ref p2), .val (.long p3), .second, .val (.ref p4), .val (.int p5), .val (.long p6), .second, .val (.long p7), .second] [(.ref p2), (.ref a)])) rfl rfl (hb hby d6_27)
  refine own_step st9 ?_
  have F9 := Fld.same W9 ((Fld.other W5 (F_id.ext E2) (Or.inr (slot_ne (t := (.object "java/lang/String")) (t' := (.object "java/lang/String")) (Or.inr (own_g hw 47 rfl)) (Or.inr (own_g hw 44 rfl)) (by decide) (by decide) (by decide)))).ext E6)
  have N9 := Fr.snoc X9 N7 ge
  have Z9 : n0 ≤ h9.size := by rw [W9.size]; exact Z6
  have SZ9 : h0.size ≤ h9.size := by rw [W9.size]; exact SZ6
  have hk := (W9.size.symm ▸ hk : _ ≤ h9.size)
  show own_Ends p e below F (T9.setTop (mkF m 30 #[.val (.ref a), .val (.ref p1), .val (.ref p2), .val (.long p3), .second, .val (.ref p4), .val (.int p5), .val (.long p6), .second, .val (.long p7), .second] []))
  refine own_step (fun _ k => XS.aloadN X9.here hx rfl (hb hby d6_30) rfl rfl k) ?_
  show own_Ends p e below F (T9.setTop (mkF m 31 #[.val (.ref a), .val (.ref p1), .val (.ref p2), .val (.long p3), .second, .val (.ref p4), .val (.int p5), .val (.long p6), .second, .val (.long p7), .second] [(.ref a)]))
  refine own_step (fun _ k => XS.lloadN X9.here hx rfl (hb hby d6_31) rfl k) ?_
  show own_Ends p e below F (T9.setTop (mkF m 32 #[.val (.ref a), .val (.ref p1), .val (.ref p2), .val (.long p3), .second, .val (.ref p4), .val (.int p5), .val (.long p6), .second, .val (.long p7), .second] [(.long p3), (.ref a)]))
  obtain ⟨T10, h10, X10, e10, W10, st10⟩ := putF X9 hx hZ hown (host := "") (Or.inl (own_g hw 48 rfl)) Via.refl e9 (Fld.other W9 ((Fld.other W5 (F_dueAtMillis.ext E2) (Or.inr (slot_ne (t := .long) (t' := (.object "java/lang/String")) (Or.inr (own_g hw 49 rfl)) (Or.inr (own_g hw 44 rfl)) (by decide) (by decide) (by decide)))).ext E6) (Or.inr (slot_ne (t := .long) (t' := (.object "java/lang/String")) (Or.inr (own_g hw 49 rfl)) (Or.inr (own_g hw 47 rfl)) (by decide) (by decide) (by decide)))) ((((EX.ext E2).wr W5).ext E6).wr W9) (Or.inr ⟨(own_g hw 49 rfl), rfl, hnm⟩) (own_g hw 29 rfl) (ty := .long) (by decide) rfl rfl (g := (mkF m 32 #[.val (.ref a), .val (.ref p1), .val (.ref p2), .val (.long p3), .second, .val (.ref p4), .val (.int p5), .val (.long p6), .second, .val (.long p7), .second] [(.long p3), (.ref a)])) rfl rfl (hb hby d6_32)
  refine own_step st10 ?_
  have F10 := Fld.same W10 (Fld.other W9 ((Fld.other W5 (F_dueAtMillis.ext E2) (Or.inr (slot_ne (t := .long) (t' := (.object "java/lang/String")) (Or.inr (own_g hw 49 rfl)) (Or.inr (own_g hw 44 rfl)) (by decide) (by decide) (by decide)))).ext E6) (Or.inr (slot_ne (t := .long) (t' := (.object "java/lang/String")) (Or.inr (own_g hw 49 rfl)) (Or.inr (own_g hw 47 rfl)) (by decide) (by decide) (by decide))))
  have N10 := Fr.snoc X10 N9 ge
  have Z10 : n0 ≤ h10.size := by rw [W10.size]; exact Z9
  have SZ10 : h0.size ≤ h10.size := by rw [W10.size]; exact SZ9
  have hk := (W10.size.symm ▸ hk : _ ≤ h10.size)
  show own_Ends p e below F (T10.setTop (mkF m 35 #[.val (.ref a), .val (.ref p1), .val (.ref p2), .val (.long p3), .second, .val (.ref p4), .val (.int p5), .val (.long p6), .second, .val (.long p7), .second] []))
  refine own_step (fun _ k => XS.aloadN X10.here hx rfl (hb hby d6_35) rfl rfl k) ?_
  show own_Ends p e below F (T10.setTop (mkF m 36 #[.val (.ref a), .val (.ref p1), .val (.ref p2), .val (.long p3), .second, .val (.ref p4), .val (.int p5), .val (.long p6), .second, .val (.long p7), .second] [(.ref a)]))
  refine own_step (fun _ k => XS.aload X10.here hx rfl (hb hby d6_36) rfl rfl k) ?_
  show own_Ends p e below F (T10.setTop (mkF m 38 #[.val (.ref a), .val (.ref p1), .val (.ref p2), .val (.long p3), .second, .val (.ref p4), .val (.int p5), .val (.long p6), .second, .val (.long p7), .second] [(.ref p4), (.ref a)]))
  obtain ⟨a11, T11, h11, k11, X11, e11, E11, hS, hk, hZ, hown, st11⟩ := ldcS X10 hx hZ hown (own_g hw 50 rfl) (fun d hd => hw d (own_sa d hd)) e10 hS hk (g := (mkF m 38 #[.val (.ref a), .val (.ref p1), .val (.ref p2), .val (.long p3), .second, .val (.ref p4), .val (.int p5), .val (.long p6), .second, .val (.long p7), .second] [(.ref p4), (.ref a)])) rfl (hb hby d6_38) (n := 28) (by decide) (by decide) (by decide) (by decide)
  have Z11 : n0 ≤ h11.size := Nat.le_trans Z10 E11.1
  have SZ11 : h0.size ≤ h11.size := Nat.le_trans SZ10 E11.1
  refine own_step st11 ?_
  show own_Ends p e below F (T11.setTop (mkF m 40 #[.val (.ref a), .val (.ref p1), .val (.ref p2), .val (.long p3), .second, .val (.ref p4), .val (.int p5), .val (.long p6), .second, .val (.long p7), .second] [(.ref a11), (.ref p4), (.ref a)]))
  obtain ⟨_, _, ⟨T12, L12, k12, n12⟩, -, X12, ⟨Lc12, hQ12, l12, y12, z12⟩, st12⟩ := Jvm.LawKit.callS X11 hx (y := (⟨"java/util/Objects", "requireNonNull", "(Ljava/lang/Object;Ljava/lang/String;)Ljava/lang/Object;"⟩ : MethodName)) hown (mvT hZ (own_g hw 38 rfl)) (mvT hZ (own_g hw 39 rfl)) (mvT hZ (own_g hw 40 rfl)) (mvT hZ (own_g hw 41 rfl)) (by decide) (backOf (W := 1) (rm7 l Z a0 hw [] p4 a11 h11 n0 Z11) hZ (own_g hw 41 rfl) (own_g hw 40 rfl) (by decide) (by decide)) (g := (mkF m 40 #[.val (.ref a), .val (.ref p1), .val (.ref p2), .val (.long p3), .second, .val (.ref p4), .val (.int p5), .val (.long p6), .second, .val (.long p7), .second] [(.ref a11), (.ref p4), (.ref a)])) rfl (by rw [hml]; rfl) (argsL := [(.ref p4), (.ref a11)]) (rest := [(.ref a)]) (lenOf pd__28Ljava_2flang_2fObject_3bLjava_2flang_2fString_3b_29Ljava_2flang_2fObject_3b rfl) rfl (by show 2 * 0 + _ ≤ _; exact Nat.le_of_eq rfl) (hb hby d6_40) (fun _ _ => ⟨rfl, e11, (by decide : 6 + 0 ≤ _), (by decide : 68 + 0 ≤ _)⟩)
  dsimp only [Pt.U, Pt.locs, Pt.cells, Pt.slots] at X12 l12 y12 z12 st12 hQ12
  subst l12 y12 z12
  obtain ⟨rfl, Nq12, eq12⟩ := hQ12
  have N12 := Fr.app N10 Nq12
  refine own_step st12 ?_
  show own_Ends p e below F (T12.setTop (mkF m 43 #[.val (.ref a), .val (.ref p1), .val (.ref p2), .val (.long p3), .second, .val (.ref p4), .val (.int p5), .val (.long p6), .second, .val (.long p7), .second] [(.ref p4), (.ref a)]))
  obtain ⟨T13, X13, e13, st13⟩ := castY X12 hx hZ hown (own_g hw 42 rfl) eq12 (Ins.self ((((((EX4.ext E2).wr W5).ext E6).wr W9).wr W10).ext E11)) (g := (mkF m 43 #[.val (.ref a), .val (.ref p1), .val (.ref p2), .val (.long p3), .second, .val (.ref p4), .val (.int p5), .val (.long p6), .second, .val (.long p7), .second] [(.ref p4), (.ref a)])) rfl rfl (hb hby d6_43)
  refine own_step st13 ?_
  show own_Ends p e below F (T13.setTop (mkF m 46 #[.val (.ref a), .val (.ref p1), .val (.ref p2), .val (.long p3), .second, .val (.ref p4), .val (.int p5), .val (.long p6), .second, .val (.long p7), .second] [(.ref p4), (.ref a)]))
  obtain ⟨T14, h14, X14, e14, W14, st14⟩ := putF X13 hx hZ hown (host := "") (Or.inl (own_g hw 51 rfl)) Via.refl e13 ((Fld.other W10 (Fld.other W9 ((Fld.other W5 (F_payload.ext E2) (Or.inr (slot_ne (t := (.object "java/lang/String")) (t' := (.object "java/lang/String")) (Or.inr (own_g hw 52 rfl)) (Or.inr (own_g hw 44 rfl)) (by decide) (by decide) (by decide)))).ext E6) (Or.inr (slot_ne (t := (.object "java/lang/String")) (t' := (.object "java/lang/String")) (Or.inr (own_g hw 52 rfl)) (Or.inr (own_g hw 47 rfl)) (by decide) (by decide) (by decide)))) (Or.inr (slot_ne (t := (.object "java/lang/String")) (t' := .long) (Or.inr (own_g hw 52 rfl)) (Or.inr (own_g hw 49 rfl)) (by decide) (by decide) (by decide)))).ext E11) ((((((EX.ext E2).wr W5).ext E6).wr W9).wr W10).ext E11) (Or.inr ⟨(own_g hw 52 rfl), rfl, hnm⟩) (own_g hw 29 rfl) (ty := (.object "java/lang/String")) (by decide) rfl rfl (g := (mkF m 46 #[.val (.ref a), .val (.ref p1), .val (.ref p2), .val (.long p3), .second, .val (.ref p4), .val (.int p5), .val (.long p6), .second, .val (.long p7), .second] [(.ref p4), (.ref a)])) rfl rfl (hb hby d6_46)
  refine own_step st14 ?_
  have F14 := Fld.same W14 ((Fld.other W10 (Fld.other W9 ((Fld.other W5 (F_payload.ext E2) (Or.inr (slot_ne (t := (.object "java/lang/String")) (t' := (.object "java/lang/String")) (Or.inr (own_g hw 52 rfl)) (Or.inr (own_g hw 44 rfl)) (by decide) (by decide) (by decide)))).ext E6) (Or.inr (slot_ne (t := (.object "java/lang/String")) (t' := (.object "java/lang/String")) (Or.inr (own_g hw 52 rfl)) (Or.inr (own_g hw 47 rfl)) (by decide) (by decide) (by decide)))) (Or.inr (slot_ne (t := (.object "java/lang/String")) (t' := .long) (Or.inr (own_g hw 52 rfl)) (Or.inr (own_g hw 49 rfl)) (by decide) (by decide) (by decide)))).ext E11)
  have N14 := Fr.snoc X14 N12 ge
  have Z14 : n0 ≤ h14.size := by rw [W14.size]; exact Z11
  have SZ14 : h0.size ≤ h14.size := by rw [W14.size]; exact SZ11
  have hk := (W14.size.symm ▸ hk : _ ≤ h14.size)
  show own_Ends p e below F (T14.setTop (mkF m 49 #[.val (.ref a), .val (.ref p1), .val (.ref p2), .val (.long p3), .second, .val (.ref p4), .val (.int p5), .val (.long p6), .second, .val (.long p7), .second] []))
  refine own_step (fun _ k => XS.aloadN X14.here hx rfl (hb hby d6_49) rfl rfl k) ?_
  show own_Ends p e below F (T14.setTop (mkF m 50 #[.val (.ref a), .val (.ref p1), .val (.ref p2), .val (.long p3), .second, .val (.ref p4), .val (.int p5), .val (.long p6), .second, .val (.long p7), .second] [(.ref a)]))
  refine own_step (fun _ k => XS.iload X14.here hx rfl (hb hby d6_50) rfl k) ?_
  show own_Ends p e below F (T14.setTop (mkF m 52 #[.val (.ref a), .val (.ref p1), .val (.ref p2), .val (.long p3), .second, .val (.ref p4), .val (.int p5), .val (.long p6), .second, .val (.long p7), .second] [(.int p5), (.ref a)]))
  obtain ⟨T15, h15, X15, e15, W15, st15⟩ := putF X14 hx hZ hown (host := "") (Or.inl (own_g hw 53 rfl)) Via.refl e14 (Fld.other W14 ((Fld.other W10 (Fld.other W9 ((Fld.other W5 (F_attempts.ext E2) (Or.inr (slot_ne (t := .int) (t' := (.object "java/lang/String")) (Or.inr (own_g hw 54 rfl)) (Or.inr (own_g hw 44 rfl)) (by decide) (by decide) (by decide)))).ext E6) (Or.inr (slot_ne (t := .int) (t' := (.object "java/lang/String")) (Or.inr (own_g hw 54 rfl)) (Or.inr (own_g hw 47 rfl)) (by decide) (by decide) (by decide)))) (Or.inr (slot_ne (t := .int) (t' := .long) (Or.inr (own_g hw 54 rfl)) (Or.inr (own_g hw 49 rfl)) (by decide) (by decide) (by decide)))).ext E11) (Or.inr (slot_ne (t := .int) (t' := (.object "java/lang/String")) (Or.inr (own_g hw 54 rfl)) (Or.inr (own_g hw 52 rfl)) (by decide) (by decide) (by decide)))) (((((((EX.ext E2).wr W5).ext E6).wr W9).wr W10).ext E11).wr W14) (Or.inr ⟨(own_g hw 54 rfl), rfl, hnm⟩) (own_g hw 29 rfl) (ty := .int) (by decide) rfl rfl (g := (mkF m 52 #[.val (.ref a), .val (.ref p1), .val (.ref p2), .val (.long p3), .second, .val (.ref p4), .val (.int p5), .val (.long p6), .second, .val (.long p7), .second] [(.int p5), (.ref a)])) rfl rfl (hb hby d6_52)
  refine own_step st15 ?_
  have F15 := Fld.same W15 (Fld.other W14 ((Fld.other W10 (Fld.other W9 ((Fld.other W5 (F_attempts.ext E2) (Or.inr (slot_ne (t := .int) (t' := (.object "java/lang/String")) (Or.inr (own_g hw 54 rfl)) (Or.inr (own_g hw 44 rfl)) (by decide) (by decide) (by decide)))).ext E6) (Or.inr (slot_ne (t := .int) (t' := (.object "java/lang/String")) (Or.inr (own_g hw 54 rfl)) (Or.inr (own_g hw 47 rfl)) (by decide) (by decide) (by decide)))) (Or.inr (slot_ne (t := .int) (t' := .long) (Or.inr (own_g hw 54 rfl)) (Or.inr (own_g hw 49 rfl)) (by decide) (by decide) (by decide)))).ext E11) (Or.inr (slot_ne (t := .int) (t' := (.object "java/lang/String")) (Or.inr (own_g hw 54 rfl)) (Or.inr (own_g hw 52 rfl)) (by decide) (by decide) (by decide))))
  have N15 := Fr.snoc X15 N14 ge
  have Z15 : n0 ≤ h15.size := by rw [W15.size]; exact Z14
  have SZ15 : h0.size ≤ h15.size := by rw [W15.size]; exact SZ14
  have hk := (W15.size.symm ▸ hk : _ ≤ h15.size)
  show own_Ends p e below F (T15.setTop (mkF m 55 #[.val (.ref a), .val (.ref p1), .val (.ref p2), .val (.long p3), .second, .val (.ref p4), .val (.int p5), .val (.long p6), .second, .val (.long p7), .second] []))
  refine own_step (fun _ k => XS.aloadN X15.here hx rfl (hb hby d6_55) rfl rfl k) ?_
  show own_Ends p e below F (T15.setTop (mkF m 56 #[.val (.ref a), .val (.ref p1), .val (.ref p2), .val (.long p3), .second, .val (.ref p4), .val (.int p5), .val (.long p6), .second, .val (.long p7), .second] [(.ref a)]))
  refine own_step (fun _ k => XS.lload X15.here hx rfl (hb hby d6_56) rfl k) ?_
  show own_Ends p e below F (T15.setTop (mkF m 58 #[.val (.ref a), .val (.ref p1), .val (.ref p2), .val (.long p3), .second, .val (.ref p4), .val (.int p5), .val (.long p6), .second, .val (.long p7), .second] [(.long p6), (.ref a)]))
  obtain ⟨T16, h16, X16, e16, W16, st16⟩ := putF X15 hx hZ hown (host := "") (Or.inl (own_g hw 55 rfl)) Via.refl e15 (Fld.other W15 (Fld.other W14 ((Fld.other W10 (Fld.other W9 ((Fld.other W5 (F_leaseEndMillis.ext E2) (Or.inr (slot_ne (t := .long) (t' := (.object "java/lang/String")) (Or.inr (own_g hw 56 rfl)) (Or.inr (own_g hw 44 rfl)) (by decide) (by decide) (by decide)))).ext E6) (Or.inr (slot_ne (t := .long) (t' := (.object "java/lang/String")) (Or.inr (own_g hw 56 rfl)) (Or.inr (own_g hw 47 rfl)) (by decide) (by decide) (by decide)))) (Or.inr (slot_ne (t := .long) (t' := .long) (Or.inr (own_g hw 56 rfl)) (Or.inr (own_g hw 49 rfl)) (by decide) (by decide) (by decide)))).ext E11) (Or.inr (slot_ne (t := .long) (t' := (.object "java/lang/String")) (Or.inr (own_g hw 56 rfl)) (Or.inr (own_g hw 52 rfl)) (by decide) (by decide) (by decide)))) (Or.inr (slot_ne (t := .long) (t' := .int) (Or.inr (own_g hw 56 rfl)) (Or.inr (own_g hw 54 rfl)) (by decide) (by decide) (by decide)))) ((((((((EX.ext E2).wr W5).ext E6).wr W9).wr W10).ext E11).wr W14).wr W15) (Or.inr ⟨(own_g hw 56 rfl), rfl, hnm⟩) (own_g hw 29 rfl) (ty := .long) (by decide) rfl rfl (g := (mkF m 58 #[.val (.ref a), .val (.ref p1), .val (.ref p2), .val (.long p3), .second, .val (.ref p4), .val (.int p5), .val (.long p6), .second, .val (.long p7), .second] [(.long p6), (.ref a)])) rfl rfl (hb hby d6_58)
  refine own_step st16 ?_
  have F16 := Fld.same W16 (Fld.other W15 (Fld.other W14 ((Fld.other W10 (Fld.other W9 ((Fld.other W5 (F_leaseEndMillis.ext E2) (Or.inr (slot_ne (t := .long) (t' := (.object "java/lang/String")) (Or.inr (own_g hw 56 rfl)) (Or.inr (own_g hw 44 rfl)) (by decide) (by decide) (by decide)))).ext E6) (Or.inr (slot_ne (t := .long) (t' := (.object "java/lang/String")) (Or.inr (own_g hw 56 rfl)) (Or.inr (own_g hw 47 rfl)) (by decide) (by decide) (by decide)))) (Or.inr (slot_ne (t := .long) (t' := .long) (Or.inr (own_g hw 56 rfl)) (Or.inr (own_g hw 49 rfl)) (by decide) (by decide) (by decide)))).ext E11) (Or.inr (slot_ne (t := .long) (t' := (.object "java/lang/String")) (Or.inr (own_g hw 56 rfl)) (Or.inr (own_g hw 52 rfl)) (by decide) (by decide) (by decide)))) (Or.inr (slot_ne (t := .long) (t' := .int) (Or.inr (own_g hw 56 rfl)) (Or.inr (own_g hw 54 rfl)) (by decide) (by decide) (by decide))))
  have N16 := Fr.snoc X16 N15 ge
  have Z16 : n0 ≤ h16.size := by rw [W16.size]; exact Z15
  have SZ16 : h0.size ≤ h16.size := by rw [W16.size]; exact SZ15
  have hk := (W16.size.symm ▸ hk : _ ≤ h16.size)
  show own_Ends p e below F (T16.setTop (mkF m 61 #[.val (.ref a), .val (.ref p1), .val (.ref p2), .val (.long p3), .second, .val (.ref p4), .val (.int p5), .val (.long p6), .second, .val (.long p7), .second] []))
  refine own_step (fun _ k => XS.aloadN X16.here hx rfl (hb hby d6_61) rfl rfl k) ?_
  show own_Ends p e below F (T16.setTop (mkF m 62 #[.val (.ref a), .val (.ref p1), .val (.ref p2), .val (.long p3), .second, .val (.ref p4), .val (.int p5), .val (.long p6), .second, .val (.long p7), .second] [(.ref a)]))
  refine own_step (fun _ k => XS.lload X16.here hx rfl (hb hby d6_62) rfl k) ?_
  show own_Ends p e below F (T16.setTop (mkF m 64 #[.val (.ref a), .val (.ref p1), .val (.ref p2), .val (.long p3), .second, .val (.ref p4), .val (.int p5), .val (.long p6), .second, .val (.long p7), .second] [(.long p7), (.ref a)]))
  obtain ⟨T17, h17, X17, e17, W17, st17⟩ := putF X16 hx hZ hown (host := "") (Or.inl (own_g hw 57 rfl)) Via.refl e16 (Fld.other W16 (Fld.other W15 (Fld.other W14 ((Fld.other W10 (Fld.other W9 ((Fld.other W5 (F_order.ext E2) (Or.inr (slot_ne (t := .long) (t' := (.object "java/lang/String")) (Or.inr (own_g hw 58 rfl)) (Or.inr (own_g hw 44 rfl)) (by decide) (by decide) (by decide)))).ext E6) (Or.inr (slot_ne (t := .long) (t' := (.object "java/lang/String")) (Or.inr (own_g hw 58 rfl)) (Or.inr (own_g hw 47 rfl)) (by decide) (by decide) (by decide)))) (Or.inr (slot_ne (t := .long) (t' := .long) (Or.inr (own_g hw 58 rfl)) (Or.inr (own_g hw 49 rfl)) (by decide) (by decide) (by decide)))).ext E11) (Or.inr (slot_ne (t := .long) (t' := (.object "java/lang/String")) (Or.inr (own_g hw 58 rfl)) (Or.inr (own_g hw 52 rfl)) (by decide) (by decide) (by decide)))) (Or.inr (slot_ne (t := .long) (t' := .int) (Or.inr (own_g hw 58 rfl)) (Or.inr (own_g hw 54 rfl)) (by decide) (by decide) (by decide)))) (Or.inr (slot_ne (t := .long) (t' := .long) (Or.inr (own_g hw 58 rfl)) (Or.inr (own_g hw 56 rfl)) (by decide) (by decide) (by decide)))) (((((((((EX.ext E2).wr W5).ext E6).wr W9).wr W10).ext E11).wr W14).wr W15).wr W16) (Or.inr ⟨(own_g hw 58 rfl), rfl, hnm⟩) (own_g hw 29 rfl) (ty := .long) (by decide) rfl rfl (g := (mkF m 64 #[.val (.ref a), .val (.ref p1), .val (.ref p2), .val (.long p3), .second, .val (.ref p4), .val (.int p5), .val (.long p6), .second, .val (.long p7), .second] [(.long p7), (.ref a)])) rfl rfl (hb hby d6_64)
  refine own_step st17 ?_
  have F17 := Fld.same W17 (Fld.other W16 (Fld.other W15 (Fld.other W14 ((Fld.other W10 (Fld.other W9 ((Fld.other W5 (F_order.ext E2) (Or.inr (slot_ne (t := .long) (t' := (.object "java/lang/String")) (Or.inr (own_g hw 58 rfl)) (Or.inr (own_g hw 44 rfl)) (by decide) (by decide) (by decide)))).ext E6) (Or.inr (slot_ne (t := .long) (t' := (.object "java/lang/String")) (Or.inr (own_g hw 58 rfl)) (Or.inr (own_g hw 47 rfl)) (by decide) (by decide) (by decide)))) (Or.inr (slot_ne (t := .long) (t' := .long) (Or.inr (own_g hw 58 rfl)) (Or.inr (own_g hw 49 rfl)) (by decide) (by decide) (by decide)))).ext E11) (Or.inr (slot_ne (t := .long) (t' := (.object "java/lang/String")) (Or.inr (own_g hw 58 rfl)) (Or.inr (own_g hw 52 rfl)) (by decide) (by decide) (by decide)))) (Or.inr (slot_ne (t := .long) (t' := .int) (Or.inr (own_g hw 58 rfl)) (Or.inr (own_g hw 54 rfl)) (by decide) (by decide) (by decide)))) (Or.inr (slot_ne (t := .long) (t' := .long) (Or.inr (own_g hw 58 rfl)) (Or.inr (own_g hw 56 rfl)) (by decide) (by decide) (by decide))))
  have N17 := Fr.snoc X17 N16 ge
  have Z17 : n0 ≤ h17.size := by rw [W17.size]; exact Z16
  have SZ17 : h0.size ≤ h17.size := by rw [W17.size]; exact SZ16
  have hk := (W17.size.symm ▸ hk : _ ≤ h17.size)
  show own_Ends p e below F (T17.setTop (mkF m 67 #[.val (.ref a), .val (.ref p1), .val (.ref p2), .val (.long p3), .second, .val (.ref p4), .val (.int p5), .val (.long p6), .second, .val (.long p7), .second] []))
  rw [hF]
  exact own_retW X17 hS (by rw [e17]; exact hk) (v := none) (fun _ => rfl) Bd.notSynchronized (fun fs hr => X17.returnOut hx Bd.returns (hb hby d6_67) hr) (by decide) (by decide) (by rw [e17]; exact ⟨rfl, N17, ((Keep.wr (Keep.wr (Keep.wr (Keep.wr (Keep.ext (Keep.wr (Keep.wr (Keep.ext (Keep.wr (Keep.ext (Keep.refl _ _) E2) W5 (Or.inl (List.mem_of_getElem? (i := 0) rfl))) E6) W9 (Or.inl (List.mem_of_getElem? (i := 0) rfl))) W10 (Or.inl (List.mem_of_getElem? (i := 0) rfl))) E11) W14 (Or.inl (List.mem_of_getElem? (i := 0) rfl))) W15 (Or.inl (List.mem_of_getElem? (i := 0) rfl))) W16 (Or.inl (List.mem_of_getElem? (i := 0) rfl))) W17 (Or.inl (List.mem_of_getElem? (i := 0) rfl))) : Keep h0 h17 [a]), ((((((((((EX.ext E2).wr W5).ext E6).wr W9).wr W10).ext E11).wr W14).wr W15).wr W16).wr W17), (Fld.other W17 (Fld.other W16 (Fld.other W15 (Fld.other W14 ((Fld.other W10 (Fld.other W9 (F5.ext E6) (Or.inr (slot_ne (t := (.object "java/lang/String")) (t' := (.object "java/lang/String")) (Or.inr (own_g hw 44 rfl)) (Or.inr (own_g hw 47 rfl)) (by decide) (by decide) (by decide)))) (Or.inr (slot_ne (t := (.object "java/lang/String")) (t' := .long) (Or.inr (own_g hw 44 rfl)) (Or.inr (own_g hw 49 rfl)) (by decide) (by decide) (by decide)))).ext E11) (Or.inr (slot_ne (t := (.object "java/lang/String")) (t' := (.object "java/lang/String")) (Or.inr (own_g hw 44 rfl)) (Or.inr (own_g hw 52 rfl)) (by decide) (by decide) (by decide)))) (Or.inr (slot_ne (t := (.object "java/lang/String")) (t' := .int) (Or.inr (own_g hw 44 rfl)) (Or.inr (own_g hw 54 rfl)) (by decide) (by decide) (by decide)))) (Or.inr (slot_ne (t := (.object "java/lang/String")) (t' := .long) (Or.inr (own_g hw 44 rfl)) (Or.inr (own_g hw 56 rfl)) (by decide) (by decide) (by decide)))) (Or.inr (slot_ne (t := (.object "java/lang/String")) (t' := .long) (Or.inr (own_g hw 44 rfl)) (Or.inr (own_g hw 58 rfl)) (by decide) (by decide) (by decide)))), (Fld.other W17 (Fld.other W16 (Fld.other W15 (Fld.other W14 ((Fld.other W10 F9 (Or.inr (slot_ne (t := (.object "java/lang/String")) (t' := .long) (Or.inr (own_g hw 47 rfl)) (Or.inr (own_g hw 49 rfl)) (by decide) (by decide) (by decide)))).ext E11) (Or.inr (slot_ne (t := (.object "java/lang/String")) (t' := (.object "java/lang/String")) (Or.inr (own_g hw 47 rfl)) (Or.inr (own_g hw 52 rfl)) (by decide) (by decide) (by decide)))) (Or.inr (slot_ne (t := (.object "java/lang/String")) (t' := .int) (Or.inr (own_g hw 47 rfl)) (Or.inr (own_g hw 54 rfl)) (by decide) (by decide) (by decide)))) (Or.inr (slot_ne (t := (.object "java/lang/String")) (t' := .long) (Or.inr (own_g hw 47 rfl)) (Or.inr (own_g hw 56 rfl)) (by decide) (by decide) (by decide)))) (Or.inr (slot_ne (t := (.object "java/lang/String")) (t' := .long) (Or.inr (own_g hw 47 rfl)) (Or.inr (own_g hw 58 rfl)) (by decide) (by decide) (by decide)))), (Fld.other W17 (Fld.other W16 (Fld.other W15 (Fld.other W14 (F10.ext E11) (Or.inr (slot_ne (t := .long) (t' := (.object "java/lang/String")) (Or.inr (own_g hw 49 rfl)) (Or.inr (own_g hw 52 rfl)) (by decide) (by decide) (by decide)))) (Or.inr (slot_ne (t := .long) (t' := .int) (Or.inr (own_g hw 49 rfl)) (Or.inr (own_g hw 54 rfl)) (by decide) (by decide) (by decide)))) (Or.inr (slot_ne (t := .long) (t' := .long) (Or.inr (own_g hw 49 rfl)) (Or.inr (own_g hw 56 rfl)) (by decide) (by decide) (by decide)))) (Or.inr (slot_ne (t := .long) (t' := .long) (Or.inr (own_g hw 49 rfl)) (Or.inr (own_g hw 58 rfl)) (by decide) (by decide) (by decide)))), (Fld.other W17 (Fld.other W16 (Fld.other W15 F14 (Or.inr (slot_ne (t := (.object "java/lang/String")) (t' := .int) (Or.inr (own_g hw 52 rfl)) (Or.inr (own_g hw 54 rfl)) (by decide) (by decide) (by decide)))) (Or.inr (slot_ne (t := (.object "java/lang/String")) (t' := .long) (Or.inr (own_g hw 52 rfl)) (Or.inr (own_g hw 56 rfl)) (by decide) (by decide) (by decide)))) (Or.inr (slot_ne (t := (.object "java/lang/String")) (t' := .long) (Or.inr (own_g hw 52 rfl)) (Or.inr (own_g hw 58 rfl)) (by decide) (by decide) (by decide)))), (Fld.other W17 (Fld.other W16 F15 (Or.inr (slot_ne (t := .int) (t' := .long) (Or.inr (own_g hw 54 rfl)) (Or.inr (own_g hw 56 rfl)) (by decide) (by decide) (by decide)))) (Or.inr (slot_ne (t := .int) (t' := .long) (Or.inr (own_g hw 54 rfl)) (Or.inr (own_g hw 58 rfl)) (by decide) (by decide) (by decide)))), (Fld.other W17 F16 (Or.inr (slot_ne (t := .long) (t' := .long) (Or.inr (own_g hw 56 rfl)) (Or.inr (own_g hw 58 rfl)) (by decide) (by decide) (by decide)))), F17⟩)

theorem d8_0 : decode prog_17_method_9_code 0 = .ok (.aload_n 0, 1) := by decide +kernel
theorem d8_1 : decode prog_17_method_9_code 1 = .ok (.aload_n 1, 1) := by decide +kernel
theorem d8_2 : decode prog_17_method_9_code 2 = .ok (.if_acmp .ne 5, 3) := by decide +kernel
theorem d8_5 : decode prog_17_method_9_code 5 = .ok (.iconst 1, 1) := by decide +kernel
theorem d8_6 : decode prog_17_method_9_code 6 = .ok (.ireturn, 1) := by decide +kernel
theorem ef_rm8a (m : MethodId) (x0 : Addr) (x1 : Addr) : entryFrame m #[(.ref x0), (.ref x1)] 3 = mkF m 0 #[.val (.ref x0), .val (.ref x1), .unset] [] := by first | (simp [entryFrame, mkF, argsToLocals, Value.category, maxLocals]; done) | rfl
def Q8a (Z : State) (a : Addr) (h0 : Heap) (n0 : Nat) (v : Option Value) (h : Heap) (L : List Loc) : Prop := v = some (.int 1) ∧ Fr n0 L ∧ h = h0
set_option maxRecDepth 65536 in
set_option maxHeartbeats 40000000 in
theorem rm8a (l : Launch) (Z : State) (a0 : Array Value) (hw : ∀ d ∈ tables_1, d.before a0 Z = true) (ws : List Jvm.Cond) (a : Addr) (h0 : Heap) (n0 : Nat) (Z0 : n0 ≤ h0.size)  :
    MetFree l (⟨"com/example/clock3600/clock3600/queue/StoredTask", "equals", "(Ljava/lang/Object;)Z"⟩ : MethodName) (head1 (Jvm.Cond.code (⟨"com/example/clock3600/clock3600/queue/StoredTask", "equals", "(Ljava/lang/Object;)Z"⟩ : MethodName) prog_17_method_9_code 3 (some .boolean) :: ws) ({ frames := 0, cells := 0, slots := 0, locals := 0 } : Room)) (fun ar U => ar = #[(.ref a), (.ref a)] ∧ Z.Warmed39 U.vm ∧ U.heap = h0) (fun _ _ _ _ _ => True) (fun _ U o U' => ∃ v L, o = .returned v ∧ Q8a Z a h0 n0 v U'.heap L ∧ FrameEnd U o U' L ({ frames := 0, cells := 0, slots := 0, locals := 0 } : Room).cells ({ frames := 0, cells := 0, slots := 0, locals := 0 } : Room).slots) := by
  refine MetFree.of_bodySF (plainFor_of_name pn_com_example_clock3600_clock3600_queue_StoredTask) hisR ?_
  intro p e s m args below meth c s₁ Bd hml0 hP hK
  obtain ⟨rfl, hZ, hh⟩ := hP
  have hx := Bd.exec
  have hby := Bd.bytes
  have hml : c.maxLocals = 3 := hml0
  have hown : s.vm.findClass "com/example/clock3600/clock3600/queue/StoredTask" = some m.cls := findClass_of_methodNamed Bd.named
  have hnm := (name_of_methodNamed Bd.named Bd.method).1
  have X0 : Stand p l e ({ frames := 0, cells := 0, slots := 0, locals := 0 } : Room) s m #[(.ref a), (.ref a)] below meth c s₁ [] 0 0 := Stand.of_body Bd
  have e0 : s₁.heap = h0 := by rw [← hh, Bd.state]; rfl
  have N0 := Fr.nil n0
  obtain ⟨F, hF⟩ : ∃ F, F = own_Fin s (Q8a Z a h0 n0) ({ frames := 0, cells := 0, slots := 0, locals := 0 } : Room).cells ({ frames := 0, cells := 0, slots := 0, locals := 0 } : Room).slots := ⟨_, rfl⟩
  show own_Ends p e below (own_Fin s (Q8a Z a h0 n0) ({ frames := 0, cells := 0, slots := 0, locals := 0 } : Room).cells ({ frames := 0, cells := 0, slots := 0, locals := 0 } : Room).slots) _
  rw [← hF, ef_rm8a m a a]
  show own_Ends p e below F (s₁.setTop (mkF m 0 #[.val (.ref a), .val (.ref a), .unset] []))
  refine own_step (fun _ k => XS.aloadN X0.here hx rfl (hb hby d8_0) rfl rfl k) ?_
  show own_Ends p e below F (s₁.setTop (mkF m 1 #[.val (.ref a), .val (.ref a), .unset] [(.ref a)]))
  refine own_step (fun _ k => XS.aloadN X0.here hx rfl (hb hby d8_1) rfl rfl k) ?_
  show own_Ends p e below F (s₁.setTop (mkF m 2 #[.val (.ref a), .val (.ref a), .unset] [(.ref a), (.ref a)]))
  refine own_step (fun _ k => Jvm.RoadKit.acmp (below := below) (g := (mkF m 2 #[.val (.ref a), .val (.ref a), .unset] [(.ref a), (.ref a)])) X0 hx rfl rfl rfl (pc0 := 2) (pc' := 5) (same := true) rfl (hb hby d8_2) rfl (decide_eq_true rfl) (by decide) (by decide) k) ?_
  show own_Ends p e below F (s₁.setTop (mkF m 5 #[.val (.ref a), .val (.ref a), .unset] []))
  refine own_step (fun _ k => XS.iconst X0.here hx rfl (hb hby d8_5) k) ?_
  show own_Ends p e below F (s₁.setTop (mkF m 6 #[.val (.ref a), .val (.ref a), .unset] [(.int (1 : Int32))]))
  rw [hF]
  exact own_ret X0 (v := (some (.int (nar .boolean (1 : Int32))))) (fun h => by rw [Bd.returns] at h; cases h) Bd.notSynchronized (fun fs hr => retN X0 hx (t := .boolean) Bd.returns (by simp) (hb hby d8_6) hr) (by decide) (by decide) (by rw [e0]; exact ⟨rfl, N0, rfl⟩)

theorem d8_7 : decode prog_17_method_9_code 7 = .ok (.aload_n 1, 1) := by decide +kernel
theorem d8_8 : decode prog_17_method_9_code 8 = .ok (.instanceof 18, 3) := by decide +kernel
theorem d8_11 : decode prog_17_method_9_code 11 = .ok (.ifCond .ne 5, 3) := by decide +kernel
theorem d8_14 : decode prog_17_method_9_code 14 = .ok (.iconst 0, 1) := by decide +kernel
theorem d8_15 : decode prog_17_method_9_code 15 = .ok (.ireturn, 1) := by decide +kernel
theorem ef_rm8b (m : MethodId) (x0 : Addr) : entryFrame m #[(.ref x0), .null] 3 = mkF m 0 #[.val (.ref x0), .val .null, .unset] [] := by first | (simp [entryFrame, mkF, argsToLocals, Value.category, maxLocals]; done) | rfl
def Q8b (Z : State) (a : Addr) (h0 : Heap) (n0 : Nat) (v : Option Value) (h : Heap) (L : List Loc) : Prop := v = some (.int 0) ∧ Fr n0 L ∧ h = h0
set_option maxRecDepth 65536 in
set_option maxHeartbeats 40000000 in
theorem rm8b (l : Launch) (Z : State) (a0 : Array Value) (hw : ∀ d ∈ tables_1, d.before a0 Z = true) (ws : List Jvm.Cond) (a : Addr) (h0 : Heap) (n0 : Nat) (Z0 : n0 ≤ h0.size)  :
    MetFree l (⟨"com/example/clock3600/clock3600/queue/StoredTask", "equals", "(Ljava/lang/Object;)Z"⟩ : MethodName) (head1 (Jvm.Cond.code (⟨"com/example/clock3600/clock3600/queue/StoredTask", "equals", "(Ljava/lang/Object;)Z"⟩ : MethodName) prog_17_method_9_code 3 (some .boolean) :: ws) ({ frames := 0, cells := 0, slots := 0, locals := 0 } : Room)) (fun ar U => ar = #[(.ref a), .null] ∧ Z.Warmed39 U.vm ∧ U.heap = h0) (fun _ _ _ _ _ => True) (fun _ U o U' => ∃ v L, o = .returned v ∧ Q8b Z a h0 n0 v U'.heap L ∧ FrameEnd U o U' L ({ frames := 0, cells := 0, slots := 0, locals := 0 } : Room).cells ({ frames := 0, cells := 0, slots := 0, locals := 0 } : Room).slots) := by
  refine MetFree.of_bodySF (plainFor_of_name pn_com_example_clock3600_clock3600_queue_StoredTask) hisR ?_
  intro p e s m args below meth c s₁ Bd hml0 hP hK
  obtain ⟨rfl, hZ, hh⟩ := hP
  have hx := Bd.exec
  have hby := Bd.bytes
  have hml : c.maxLocals = 3 := hml0
  have hown : s.vm.findClass "com/example/clock3600/clock3600/queue/StoredTask" = some m.cls := findClass_of_methodNamed Bd.named
  have hnm := (name_of_methodNamed Bd.named Bd.method).1
  have X0 : Stand p l e ({ frames := 0, cells := 0, slots := 0, locals := 0 } : Room) s m #[(.ref a), .null] below meth c s₁ [] 0 0 := Stand.of_body Bd
  have e0 : s₁.heap = h0 := by rw [← hh, Bd.state]; rfl
  have N0 := Fr.nil n0
  obtain ⟨F, hF⟩ : ∃ F, F = own_Fin s (Q8b Z a h0 n0) ({ frames := 0, cells := 0, slots := 0, locals := 0 } : Room).cells ({ frames := 0, cells := 0, slots := 0, locals := 0 } : Room).slots := ⟨_, rfl⟩
  show own_Ends p e below (own_Fin s (Q8b Z a h0 n0) ({ frames := 0, cells := 0, slots := 0, locals := 0 } : Room).cells ({ frames := 0, cells := 0, slots := 0, locals := 0 } : Room).slots) _
  rw [← hF, ef_rm8b m a]
  show own_Ends p e below F (s₁.setTop (mkF m 0 #[.val (.ref a), .val .null, .unset] []))
  refine own_step (fun _ k => XS.aloadN X0.here hx rfl (hb hby d8_0) rfl rfl k) ?_
  show own_Ends p e below F (s₁.setTop (mkF m 1 #[.val (.ref a), .val .null, .unset] [(.ref a)]))
  refine own_step (fun _ k => XS.aloadN X0.here hx rfl (hb hby d8_1) rfl rfl k) ?_
  show own_Ends p e below F (s₁.setTop (mkF m 2 #[.val (.ref a), .val .null, .unset] [.null, (.ref a)]))
  refine own_step (fun _ k => Jvm.RoadKit.acmp (below := below) (g := (mkF m 2 #[.val (.ref a), .val .null, .unset] [.null, (.ref a)])) X0 hx rfl rfl rfl (pc0 := 2) (pc' := 7) (same := false) rfl (hb hby d8_2) rfl (decide_eq_false nofun) (by decide) (by decide) k) ?_
  show own_Ends p e below F (s₁.setTop (mkF m 7 #[.val (.ref a), .val .null, .unset] []))
  refine own_step (fun _ k => XS.aloadN X0.here hx rfl (hb hby d8_7) rfl rfl k) ?_
  show own_Ends p e below F (s₁.setTop (mkF m 8 #[.val (.ref a), .val .null, .unset] [.null]))
  refine own_step (X0.instanceofNull hx (g := (mkF m 8 #[.val (.ref a), .val .null, .unset] [.null])) rfl rfl (hb hby d8_8)) ?_
  show own_Ends p e below F (s₁.setTop (mkF m 11 #[.val (.ref a), .val .null, .unset] [(.int (0 : Int32))]))
  refine own_step (fun _ k => XS.ifNo X0.here hx rfl (hb hby d8_11) rfl ((if0 _ _).trans (teq (by decide : (0 : Int32) = (0 : Int32))).2) k) ?_
  show own_Ends p e below F (s₁.setTop (mkF m 14 #[.val (.ref a), .val .null, .unset] []))
  refine own_step (fun _ k => XS.iconst X0.here hx rfl (hb hby d8_14) k) ?_
  show own_Ends p e below F (s₁.setTop (mkF m 15 #[.val (.ref a), .val .null, .unset] [(.int (0 : Int32))]))
  rw [hF]
  exact own_ret X0 (v := (some (.int (nar .boolean (0 : Int32))))) (fun h => by rw [Bd.returns] at h; cases h) Bd.notSynchronized (fun fs hr => retN X0 hx (t := .boolean) Bd.returns (by simp) (hb hby d8_15) hr) (by decide) (by decide) (by rw [e0]; exact ⟨rfl, N0, rfl⟩)

theorem ef_rm8c (m : MethodId) (x0 : Addr) (x1 : Addr) : entryFrame m #[(.ref x0), (.ref x1)] 3 = mkF m 0 #[.val (.ref x0), .val (.ref x1), .unset] [] := by first | (simp [entryFrame, mkF, argsToLocals, Value.category, maxLocals]; done) | rfl
def Q8c (Z : State) (a b : Addr) (h0 : Heap) (n0 : Nat) (v : Option Value) (h : Heap) (L : List Loc) : Prop := v = some (.int 0) ∧ Fr n0 L ∧ h = h0
set_option maxRecDepth 65536 in
set_option maxHeartbeats 40000000 in
theorem rm8c (l : Launch) (Z : State) (a0 : Array Value) (hw : ∀ d ∈ tables_1, d.before a0 Z = true) (ws : List Jvm.Cond) (a b : Addr) (h0 : Heap) (n0 : Nat) (Z0 : n0 ≤ h0.size) (EB : Exa Z h0 b "java/lang/String") (ne : a ≠ b) :
    MetFree l (⟨"com/example/clock3600/clock3600/queue/StoredTask", "equals", "(Ljava/lang/Object;)Z"⟩ : MethodName) (head1 (Jvm.Cond.code (⟨"com/example/clock3600/clock3600/queue/StoredTask", "equals", "(Ljava/lang/Object;)Z"⟩ : MethodName) prog_17_method_9_code 3 (some .boolean) :: ws) ({ frames := 0, cells := 0, slots := 0, locals := 0 } : Room)) (fun ar U => ar = #[(.ref a), (.ref b)] ∧ Z.Warmed39 U.vm ∧ U.heap = h0) (fun _ _ _ _ _ => True) (fun _ U o U' => ∃ v L, o = .returned v ∧ Q8c Z a b h0 n0 v U'.heap L ∧ FrameEnd U o U' L ({ frames := 0, cells := 0, slots := 0, locals := 0 } : Room).cells ({ frames := 0, cells := 0, slots := 0, locals := 0 } : Room).slots) := by
  refine MetFree.of_bodySF (plainFor_of_name pn_com_example_clock3600_clock3600_queue_StoredTask) hisR ?_
  intro p e s m args below meth c s₁ Bd hml0 hP hK
  obtain ⟨rfl, hZ, hh⟩ := hP
  have hx := Bd.exec
  have hby := Bd.bytes
  have hml : c.maxLocals = 3 := hml0
  have hown : s.vm.findClass "com/example/clock3600/clock3600/queue/StoredTask" = some m.cls := findClass_of_methodNamed Bd.named
  have hnm := (name_of_methodNamed Bd.named Bd.method).1
  have X0 : Stand p l e ({ frames := 0, cells := 0, slots := 0, locals := 0 } : Room) s m #[(.ref a), (.ref b)] below meth c s₁ [] 0 0 := Stand.of_body Bd
  have e0 : s₁.heap = h0 := by rw [← hh, Bd.state]; rfl
  have N0 := Fr.nil n0
  obtain ⟨F, hF⟩ : ∃ F, F = own_Fin s (Q8c Z a b h0 n0) ({ frames := 0, cells := 0, slots := 0, locals := 0 } : Room).cells ({ frames := 0, cells := 0, slots := 0, locals := 0 } : Room).slots := ⟨_, rfl⟩
  show own_Ends p e below (own_Fin s (Q8c Z a b h0 n0) ({ frames := 0, cells := 0, slots := 0, locals := 0 } : Room).cells ({ frames := 0, cells := 0, slots := 0, locals := 0 } : Room).slots) _
  rw [← hF, ef_rm8c m a b]
  show own_Ends p e below F (s₁.setTop (mkF m 0 #[.val (.ref a), .val (.ref b), .unset] []))
  refine own_step (fun _ k => XS.aloadN X0.here hx rfl (hb hby d8_0) rfl rfl k) ?_
  show own_Ends p e below F (s₁.setTop (mkF m 1 #[.val (.ref a), .val (.ref b), .unset] [(.ref a)]))
  refine own_step (fun _ k => XS.aloadN X0.here hx rfl (hb hby d8_1) rfl rfl k) ?_
  show own_Ends p e below F (s₁.setTop (mkF m 2 #[.val (.ref a), .val (.ref b), .unset] [(.ref b), (.ref a)]))
  refine own_step (fun _ k => Jvm.RoadKit.acmp (below := below) (g := (mkF m 2 #[.val (.ref a), .val (.ref b), .unset] [(.ref b), (.ref a)])) X0 hx rfl rfl rfl (pc0 := 2) (pc' := 7) (same := false) rfl (hb hby d8_2) rfl (decide_eq_false fun q => ne (Value.ref.inj q)) (by decide) (by decide) k) ?_
  show own_Ends p e below F (s₁.setTop (mkF m 7 #[.val (.ref a), .val (.ref b), .unset] []))
  refine own_step (fun _ k => XS.aloadN X0.here hx rfl (hb hby d8_7) rfl rfl k) ?_
  show own_Ends p e below F (s₁.setTop (mkF m 8 #[.val (.ref a), .val (.ref b), .unset] [(.ref b)]))
  obtain ⟨T1, X1, e1, st1⟩ := instNo X0 hx hZ hown (own_g hw 64 rfl) e0 EB (own_no (own_g hw 74 rfl) (own_g hw 75 rfl) (own_g hw 29 rfl) (by decide) (by decide)) (g := (mkF m 8 #[.val (.ref a), .val (.ref b), .unset] [(.ref b)])) rfl rfl (hb hby d8_8)
  refine own_step st1 ?_
  show own_Ends p e below F (T1.setTop (mkF m 11 #[.val (.ref a), .val (.ref b), .unset] [(.int (0 : Int32))]))
  refine own_step (fun _ k => XS.ifNo X1.here hx rfl (hb hby d8_11) rfl ((if0 _ _).trans (teq (by decide : (0 : Int32) = (0 : Int32))).2) k) ?_
  show own_Ends p e below F (T1.setTop (mkF m 14 #[.val (.ref a), .val (.ref b), .unset] []))
  refine own_step (fun _ k => XS.iconst X1.here hx rfl (hb hby d8_14) k) ?_
  show own_Ends p e below F (T1.setTop (mkF m 15 #[.val (.ref a), .val (.ref b), .unset] [(.int (0 : Int32))]))
  rw [hF]
  exact own_ret X1 (v := (some (.int (nar .boolean (0 : Int32))))) (fun h => by rw [Bd.returns] at h; cases h) Bd.notSynchronized (fun fs hr => retN X1 hx (t := .boolean) Bd.returns (by simp) (hb hby d8_15) hr) (by decide) (by decide) (by rw [e1]; exact ⟨rfl, N0, rfl⟩)

def own_teq (da db : Int64) (ta tb : Int32) (ua ub oa ob : Int64) (qa qb ia ib ya yb : List Int32) : Int32 :=
  if da = db then (if ta = tb then (if ua = ub then (if oa = ob then (if own_eqv qa qb = 0 then 0 else if own_eqv ia ib = 0 then 0 else if own_eqv ya yb = 0 then 0 else 1) else 0) else 0) else 0) else 0
theorem d8_16 : decode prog_17_method_9_code 16 = .ok (.aload_n 1, 1) := by decide +kernel
theorem d8_17 : decode prog_17_method_9_code 17 = .ok (.checkcast 18, 3) := by decide +kernel
theorem d8_20 : decode prog_17_method_9_code 20 = .ok (.astore_n 2, 1) := by decide +kernel
theorem d8_21 : decode prog_17_method_9_code 21 = .ok (.aload_n 0, 1) := by decide +kernel
theorem d8_22 : decode prog_17_method_9_code 22 = .ok (.getfield 26, 3) := by decide +kernel
theorem d8_25 : decode prog_17_method_9_code 25 = .ok (.aload_n 2, 1) := by decide +kernel
theorem d8_26 : decode prog_17_method_9_code 26 = .ok (.getfield 26, 3) := by decide +kernel
theorem d8_29 : decode prog_17_method_9_code 29 = .ok (.lcmp, 1) := by decide +kernel
theorem d8_30 : decode prog_17_method_9_code 30 = .ok (.ifCond .ne 84, 3) := by decide +kernel
theorem d8_33 : decode prog_17_method_9_code 33 = .ok (.aload_n 0, 1) := by decide +kernel
theorem d8_34 : decode prog_17_method_9_code 34 = .ok (.getfield 34, 3) := by decide +kernel
theorem d8_37 : decode prog_17_method_9_code 37 = .ok (.aload_n 2, 1) := by decide +kernel
theorem d8_38 : decode prog_17_method_9_code 38 = .ok (.getfield 34, 3) := by decide +kernel
theorem d8_41 : decode prog_17_method_9_code 41 = .ok (.if_icmp .ne 73, 3) := by decide +kernel
theorem d8_44 : decode prog_17_method_9_code 44 = .ok (.aload_n 0, 1) := by decide +kernel
theorem d8_45 : decode prog_17_method_9_code 45 = .ok (.getfield 38, 3) := by decide +kernel
theorem d8_48 : decode prog_17_method_9_code 48 = .ok (.aload_n 2, 1) := by decide +kernel
theorem d8_49 : decode prog_17_method_9_code 49 = .ok (.getfield 38, 3) := by decide +kernel
theorem d8_52 : decode prog_17_method_9_code 52 = .ok (.lcmp, 1) := by decide +kernel
theorem d8_53 : decode prog_17_method_9_code 53 = .ok (.ifCond .ne 61, 3) := by decide +kernel
theorem d8_56 : decode prog_17_method_9_code 56 = .ok (.aload_n 0, 1) := by decide +kernel
theorem d8_57 : decode prog_17_method_9_code 57 = .ok (.getfield 41, 3) := by decide +kernel
theorem d8_60 : decode prog_17_method_9_code 60 = .ok (.aload_n 2, 1) := by decide +kernel
theorem d8_61 : decode prog_17_method_9_code 61 = .ok (.getfield 41, 3) := by decide +kernel
theorem d8_64 : decode prog_17_method_9_code 64 = .ok (.lcmp, 1) := by decide +kernel
theorem d8_65 : decode prog_17_method_9_code 65 = .ok (.ifCond .ne 49, 3) := by decide +kernel
theorem d8_68 : decode prog_17_method_9_code 68 = .ok (.aload_n 0, 1) := by decide +kernel
theorem d8_69 : decode prog_17_method_9_code 69 = .ok (.getfield 17, 3) := by decide +kernel
theorem d8_72 : decode prog_17_method_9_code 72 = .ok (.aload_n 2, 1) := by decide +kernel
theorem d8_73 : decode prog_17_method_9_code 73 = .ok (.getfield 17, 3) := by decide +kernel
theorem d8_76 : decode prog_17_method_9_code 76 = .ok (.invokevirtual 44, 3) := by decide +kernel
theorem d8_79 : decode prog_17_method_9_code 79 = .ok (.ifCond .eq 35, 3) := by decide +kernel
theorem d8_82 : decode prog_17_method_9_code 82 = .ok (.aload_n 0, 1) := by decide +kernel
theorem d8_83 : decode prog_17_method_9_code 83 = .ok (.getfield 24, 3) := by decide +kernel
theorem d8_86 : decode prog_17_method_9_code 86 = .ok (.aload_n 2, 1) := by decide +kernel
theorem d8_87 : decode prog_17_method_9_code 87 = .ok (.getfield 24, 3) := by decide +kernel
theorem d8_90 : decode prog_17_method_9_code 90 = .ok (.invokevirtual 44, 3) := by decide +kernel
theorem d8_93 : decode prog_17_method_9_code 93 = .ok (.ifCond .eq 21, 3) := by decide +kernel
theorem d8_96 : decode prog_17_method_9_code 96 = .ok (.aload_n 0, 1) := by decide +kernel
theorem d8_97 : decode prog_17_method_9_code 97 = .ok (.getfield 32, 3) := by decide +kernel
theorem d8_100 : decode prog_17_method_9_code 100 = .ok (.aload_n 2, 1) := by decide +kernel
theorem d8_101 : decode prog_17_method_9_code 101 = .ok (.getfield 32, 3) := by decide +kernel
theorem d8_104 : decode prog_17_method_9_code 104 = .ok (.invokevirtual 44, 3) := by decide +kernel
theorem d8_107 : decode prog_17_method_9_code 107 = .ok (.ifCond .eq 7, 3) := by decide +kernel
theorem d8_110 : decode prog_17_method_9_code 110 = .ok (.iconst 1, 1) := by decide +kernel
theorem d8_111 : decode prog_17_method_9_code 111 = .ok (.goto 4, 3) := by decide +kernel
theorem d8_114 : decode prog_17_method_9_code 114 = .ok (.iconst 0, 1) := by decide +kernel
theorem d8_115 : decode prog_17_method_9_code 115 = .ok (.ireturn, 1) := by decide +kernel
theorem pd__28Ljava_2flang_2fObject_3b_29Z : parseMethodDescriptor "(Ljava/lang/Object;)Z" = some ⟨[(.object "java/lang/Object")], some .boolean⟩ := by decide +kernel
theorem ef_rm8d (m : MethodId) (x0 : Addr) (x1 : Addr) : entryFrame m #[(.ref x0), (.ref x1)] 3 = mkF m 0 #[.val (.ref x0), .val (.ref x1), .unset] [] := by first | (simp [entryFrame, mkF, argsToLocals, Value.category, maxLocals]; done) | rfl
def Q8d (Z : State) (a b : Addr) (da db : Int64) (ta tb : Int32) (ua ub oa ob : Int64) (sqa sqb sia sib sya syb : Addr) (qa qb ia ib ya yb : List Int32) (Bq : Nat) (zc : Int32) (h0 : Heap) (n0 : Nat) (v : Option Value) (h : Heap) (L : List Loc) : Prop := v = some (.int (own_teq da db ta tb ua ub oa ob qa qb ia ib ya yb)) ∧ Fr n0 L ∧ h = h0
set_option maxRecDepth 65536 in
set_option maxHeartbeats 40000000 in
theorem rm8d (l : Launch) (Z : State) (a0 : Array Value) (hw : ∀ d ∈ tables_1, d.before a0 Z = true) (ws : List Jvm.Cond) (a b : Addr) (da db : Int64) (ta tb : Int32) (ua ub oa ob : Int64) (sqa sqb sia sib sya syb : Addr) (qa qb ia ib ya yb : List Int32) (Bq : Nat) (zc : Int32) (h0 : Heap) (n0 : Nat) (Z0 : n0 ≤ h0.size) (EB : Exa Z h0 b "com/example/clock3600/clock3600/queue/StoredTask") (ne : a ≠ b) (SC : Sta Z h0 "java/lang/String" "COMPACT_STRINGS" "Z" (.int zc)) (hz : ¬ zc = 0) (Fda : Fld Z h0 a "com/example/clock3600/clock3600/queue/StoredTask" "dueAtMillis" "J" (.long da)) (Fta : Fld Z h0 a "com/example/clock3600/clock3600/queue/StoredTask" "attempts" "I" (.int ta)) (Fua : Fld Z h0 a "com/example/clock3600/clock3600/queue/StoredTask" "leaseEndMillis" "J" (.long ua)) (Foa : Fld Z h0 a "com/example/clock3600/clock3600/queue/StoredTask" "order" "J" (.long oa)) (Fqa : Fld Z h0 a "com/example/clock3600/clock3600/queue/StoredTask" "queue" "Ljava/lang/String;" (.ref sqa)) (Tqa : own_Str Z h0 Bq sqa qa) (Lqa : qa.length ≤ 4000) (Fia : Fld Z h0 a "com/example/clock3600/clock3600/queue/StoredTask" "id" "Ljava/lang/String;" (.ref sia)) (Tia : own_Str Z h0 Bq sia ia) (Lia : ia.length ≤ 4000) (Fya : Fld Z h0 a "com/example/clock3600/clock3600/queue/StoredTask" "payload" "Ljava/lang/String;" (.ref sya)) (Tya : own_Str Z h0 Bq sya ya) (Lya : ya.length ≤ 4000) (Fdb : Fld Z h0 b "com/example/clock3600/clock3600/queue/StoredTask" "dueAtMillis" "J" (.long db)) (Ftb : Fld Z h0 b "com/example/clock3600/clock3600/queue/StoredTask" "attempts" "I" (.int tb)) (Fub : Fld Z h0 b "com/example/clock3600/clock3600/queue/StoredTask" "leaseEndMillis" "J" (.long ub)) (Fob : Fld Z h0 b "com/example/clock3600/clock3600/queue/StoredTask" "order" "J" (.long ob)) (Fqb : Fld Z h0 b "com/example/clock3600/clock3600/queue/StoredTask" "queue" "Ljava/lang/String;" (.ref sqb)) (Tqb : own_Str Z h0 Bq sqb qb) (Lqb : qb.length ≤ 4000) (Fib : Fld Z h0 b "com/example/clock3600/clock3600/queue/StoredTask" "id" "Ljava/lang/String;" (.ref sib)) (Tib : own_Str Z h0 Bq sib ib) (Lib : ib.length ≤ 4000) (Fyb : Fld Z h0 b "com/example/clock3600/clock3600/queue/StoredTask" "payload" "Ljava/lang/String;" (.ref syb)) (Tyb : own_Str Z h0 Bq syb yb) (Lyb : yb.length ≤ 4000) :
    MetFree l (⟨"com/example/clock3600/clock3600/queue/StoredTask", "equals", "(Ljava/lang/Object;)Z"⟩ : MethodName) (head1 (Jvm.Cond.code (⟨"com/example/clock3600/clock3600/queue/StoredTask", "equals", "(Ljava/lang/Object;)Z"⟩ : MethodName) prog_17_method_9_code 3 (some .boolean) :: ws) ({ frames := 2, cells := 0, slots := 0, locals := 28 } : Room)) (fun ar U => ar = #[(.ref a), (.ref b)] ∧ Z.Warmed39 U.vm ∧ U.heap = h0) (fun _ _ _ _ _ => True) (fun _ U o U' => ∃ v L, o = .returned v ∧ Q8d Z a b da db ta tb ua ub oa ob sqa sqb sia sib sya syb qa qb ia ib ya yb Bq zc h0 n0 v U'.heap L ∧ FrameEnd U o U' L ({ frames := 2, cells := 0, slots := 0, locals := 28 } : Room).cells ({ frames := 2, cells := 0, slots := 0, locals := 28 } : Room).slots) := by
  refine MetFree.of_bodySF (plainFor_of_name pn_com_example_clock3600_clock3600_queue_StoredTask) hisR ?_
  intro p e s m args below meth c s₁ Bd hml0 hP hK
  obtain ⟨rfl, hZ, hh⟩ := hP
  have hx := Bd.exec
  have hby := Bd.bytes
  have hml : c.maxLocals = 3 := hml0
  have hown : s.vm.findClass "com/example/clock3600/clock3600/queue/StoredTask" = some m.cls := findClass_of_methodNamed Bd.named
  have hnm := (name_of_methodNamed Bd.named Bd.method).1
  have X0 : Stand p l e ({ frames := 2, cells := 0, slots := 0, locals := 28 } : Room) s m #[(.ref a), (.ref b)] below meth c s₁ [] 0 0 := Stand.of_body Bd
  have e0 : s₁.heap = h0 := by rw [← hh, Bd.state]; rfl
  have N0 := Fr.nil n0
  obtain ⟨F, hF⟩ : ∃ F, F = own_Fin s (Q8d Z a b da db ta tb ua ub oa ob sqa sqb sia sib sya syb qa qb ia ib ya yb Bq zc h0 n0) ({ frames := 2, cells := 0, slots := 0, locals := 28 } : Room).cells ({ frames := 2, cells := 0, slots := 0, locals := 28 } : Room).slots := ⟨_, rfl⟩
  show own_Ends p e below (own_Fin s (Q8d Z a b da db ta tb ua ub oa ob sqa sqb sia sib sya syb qa qb ia ib ya yb Bq zc h0 n0) ({ frames := 2, cells := 0, slots := 0, locals := 28 } : Room).cells ({ frames := 2, cells := 0, slots := 0, locals := 28 } : Room).slots) _
  rw [← hF, ef_rm8d m a b]
  show own_Ends p e below F (s₁.setTop (mkF m 0 #[.val (.ref a), .val (.ref b), .unset] []))
  refine own_step (fun _ k => XS.aloadN X0.here hx rfl (hb hby d8_0) rfl rfl k) ?_
  show own_Ends p e below F (s₁.setTop (mkF m 1 #[.val (.ref a), .val (.ref b), .unset] [(.ref a)]))
  refine own_step (fun _ k => XS.aloadN X0.here hx rfl (hb hby d8_1) rfl rfl k) ?_
  show own_Ends p e below F (s₁.setTop (mkF m 2 #[.val (.ref a), .val (.ref b), .unset] [(.ref b), (.ref a)]))
  refine own_step (fun _ k => Jvm.RoadKit.acmp (below := below) (g := (mkF m 2 #[.val (.ref a), .val (.ref b), .unset] [(.ref b), (.ref a)])) X0 hx rfl rfl rfl (pc0 := 2) (pc' := 7) (same := false) rfl (hb hby d8_2) rfl (decide_eq_false fun q => ne (Value.ref.inj q)) (by decide) (by decide) k) ?_
  show own_Ends p e below F (s₁.setTop (mkF m 7 #[.val (.ref a), .val (.ref b), .unset] []))
  refine own_step (fun _ k => XS.aloadN X0.here hx rfl (hb hby d8_7) rfl rfl k) ?_
  show own_Ends p e below F (s₁.setTop (mkF m 8 #[.val (.ref a), .val (.ref b), .unset] [(.ref b)]))
  obtain ⟨T1, X1, e1, st1⟩ := instY X0 hx hZ hown (own_g hw 64 rfl) e0 (Ins.self EB) (g := (mkF m 8 #[.val (.ref a), .val (.ref b), .unset] [(.ref b)])) rfl rfl (hb hby d8_8)
  refine own_step st1 ?_
  show own_Ends p e below F (T1.setTop (mkF m 11 #[.val (.ref a), .val (.ref b), .unset] [(.int (1 : Int32))]))
  refine own_step (fun _ k => XS.ifYes X1.here hx rfl (pc0 := 11) (pc' := 16) rfl (hb hby d8_11) rfl ((if0 _ _).trans (feq (by decide : ¬ ((1 : Int32) = (0 : Int32)))).2) (by decide) (by decide) k) ?_
  show own_Ends p e below F (T1.setTop (mkF m 16 #[.val (.ref a), .val (.ref b), .unset] []))
  refine own_step (fun _ k => XS.aloadN X1.here hx rfl (hb hby d8_16) rfl rfl k) ?_
  show own_Ends p e below F (T1.setTop (mkF m 17 #[.val (.ref a), .val (.ref b), .unset] [(.ref b)]))
  obtain ⟨T2, X2, e2, st2⟩ := castY X1 hx hZ hown (own_g hw 64 rfl) e1 (Ins.self EB) (g := (mkF m 17 #[.val (.ref a), .val (.ref b), .unset] [(.ref b)])) rfl rfl (hb hby d8_17)
  refine own_step st2 ?_
  show own_Ends p e below F (T2.setTop (mkF m 20 #[.val (.ref a), .val (.ref b), .unset] [(.ref b)]))
  refine own_step (fun _ k => XS.astoreN X2.here hx rfl (hb hby d8_20) rfl rfl (l' := #[.val (.ref a), .val (.ref b), .val (.ref b)]) rfl k) ?_
  show own_Ends p e below F (T2.setTop (mkF m 21 #[.val (.ref a), .val (.ref b), .val (.ref b)] []))
  refine own_step (fun _ k => XS.aloadN X2.here hx rfl (hb hby d8_21) rfl rfl k) ?_
  show own_Ends p e below F (T2.setTop (mkF m 22 #[.val (.ref a), .val (.ref b), .val (.ref b)] [(.ref a)]))
  obtain ⟨T3, X3, e3, st3⟩ := getF X2 hx hZ hown (host := "") (Or.inl (own_g hw 48 rfl)) Via.refl e2 Fda (g := (mkF m 22 #[.val (.ref a), .val (.ref b), .val (.ref b)] [(.ref a)])) rfl rfl (hb hby d8_22)
  refine own_step st3 ?_
  show own_Ends p e below F (T3.setTop (mkF m 25 #[.val (.ref a), .val (.ref b), .val (.ref b)] [(.long da)]))
  refine own_step (fun _ k => XS.aloadN X3.here hx rfl (hb hby d8_25) rfl rfl k) ?_
  show own_Ends p e below F (T3.setTop (mkF m 26 #[.val (.ref a), .val (.ref b), .val (.ref b)] [(.ref b), (.long da)]))
  obtain ⟨T4, X4, e4, st4⟩ := getF X3 hx hZ hown (host := "") (Or.inl (own_g hw 48 rfl)) Via.refl e3 Fdb (g := (mkF m 26 #[.val (.ref a), .val (.ref b), .val (.ref b)] [(.ref b), (.long da)])) rfl rfl (hb hby d8_26)
  refine own_step st4 ?_
  show own_Ends p e below F (T4.setTop (mkF m 29 #[.val (.ref a), .val (.ref b), .val (.ref b)] [(.long db), (.long da)]))
  refine own_step (fun _ k => XS.lcmp X4.here hx rfl (hb hby d8_29) rfl k) ?_
  show own_Ends p e below F (T4.setTop (mkF m 30 #[.val (.ref a), .val (.ref b), .val (.ref b)] [(.int (lcmpW da db))]))
  by_cases c30_5 : da = db
  · refine own_step (fun _ k => XS.ifNo X4.here hx rfl (hb hby d8_30) rfl ((if0 _ _).trans (teq ((lw_eq _ _).mpr c30_5)).2) k) ?_
    show own_Ends p e below F (T4.setTop (mkF m 33 #[.val (.ref a), .val (.ref b), .val (.ref b)] []))
    refine own_step (fun _ k => XS.aloadN X4.here hx rfl (hb hby d8_33) rfl rfl k) ?_
    show own_Ends p e below F (T4.setTop (mkF m 34 #[.val (.ref a), .val (.ref b), .val (.ref b)] [(.ref a)]))
    obtain ⟨T6, X6, e6, st6⟩ := getF X4 hx hZ hown (host := "") (Or.inl (own_g hw 53 rfl)) Via.refl e4 Fta (g := (mkF m 34 #[.val (.ref a), .val (.ref b), .val (.ref b)] [(.ref a)])) rfl rfl (hb hby d8_34)
    refine own_step st6 ?_
    show own_Ends p e below F (T6.setTop (mkF m 37 #[.val (.ref a), .val (.ref b), .val (.ref b)] [(.int ta)]))
    refine own_step (fun _ k => XS.aloadN X6.here hx rfl (hb hby d8_37) rfl rfl k) ?_
    show own_Ends p e below F (T6.setTop (mkF m 38 #[.val (.ref a), .val (.ref b), .val (.ref b)] [(.ref b), (.int ta)]))
    obtain ⟨T7, X7, e7, st7⟩ := getF X6 hx hZ hown (host := "") (Or.inl (own_g hw 53 rfl)) Via.refl e6 Ftb (g := (mkF m 38 #[.val (.ref a), .val (.ref b), .val (.ref b)] [(.ref b), (.int ta)])) rfl rfl (hb hby d8_38)
    refine own_step st7 ?_
    show own_Ends p e below F (T7.setTop (mkF m 41 #[.val (.ref a), .val (.ref b), .val (.ref b)] [(.int tb), (.int ta)]))
    by_cases c41_8 : ta = tb
    · refine own_step (fun _ k => XS.icmpNo X7.here hx rfl (hb hby d8_41) rfl (teq c41_8).2 k) ?_
      show own_Ends p e below F (T7.setTop (mkF m 44 #[.val (.ref a), .val (.ref b), .val (.ref b)] []))
      refine own_step (fun _ k => XS.aloadN X7.here hx rfl (hb hby d8_44) rfl rfl k) ?_
      show own_Ends p e below F (T7.setTop (mkF m 45 #[.val (.ref a), .val (.ref b), .val (.ref b)] [(.ref a)]))
      obtain ⟨T9, X9, e9, st9⟩ := getF X7 hx hZ hown (host := "") (Or.inl (own_g hw 55 rfl)) Via.refl e7 Fua (g := (mkF m 45 #[.val (.ref a), .val (.ref b), .val (.ref b)] [(.ref a)])) rfl rfl (hb hby d8_45)
      refine own_step st9 ?_
      show own_Ends p e below F (T9.setTop (mkF m 48 #[.val (.ref a), .val (.ref b), .val (.ref b)] [(.long ua)]))
      refine own_step (fun _ k => XS.aloadN X9.here hx rfl (hb hby d8_48) rfl rfl k) ?_
      show own_Ends p e below F (T9.setTop (mkF m 49 #[.val (.ref a), .val (.ref b), .val (.ref b)] [(.ref b), (.long ua)]))
      obtain ⟨T10, X10, e10, st10⟩ := getF X9 hx hZ hown (host := "") (Or.inl (own_g hw 55 rfl)) Via.refl e9 Fub (g := (mkF m 49 #[.val (.ref a), .val (.ref b), .val (.ref b)] [(.ref b), (.long ua)])) rfl rfl (hb hby d8_49)
      refine own_step st10 ?_
      show own_Ends p e below F (T10.setTop (mkF m 52 #[.val (.ref a), .val (.ref b), .val (.ref b)] [(.long ub), (.long ua)]))
      refine own_step (fun _ k => XS.lcmp X10.here hx rfl (hb hby d8_52) rfl k) ?_
      show own_Ends p e below F (T10.setTop (mkF m 53 #[.val (.ref a), .val (.ref b), .val (.ref b)] [(.int (lcmpW ua ub))]))
      by_cases c53_11 : ua = ub
      · refine own_step (fun _ k => XS.ifNo X10.here hx rfl (hb hby d8_53) rfl ((if0 _ _).trans (teq ((lw_eq _ _).mpr c53_11)).2) k) ?_
        show own_Ends p e below F (T10.setTop (mkF m 56 #[.val (.ref a), .val (.ref b), .val (.ref b)] []))
        refine own_step (fun _ k => XS.aloadN X10.here hx rfl (hb hby d8_56) rfl rfl k) ?_
        show own_Ends p e below F (T10.setTop (mkF m 57 #[.val (.ref a), .val (.ref b), .val (.ref b)] [(.ref a)]))
        obtain ⟨T12, X12, e12, st12⟩ := getF X10 hx hZ hown (host := "") (Or.inl (own_g hw 57 rfl)) Via.refl e10 Foa (g := (mkF m 57 #[.val (.ref a), .val (.ref b), .val (.ref b)] [(.ref a)])) rfl rfl (hb hby d8_57)
        refine own_step st12 ?_
        show own_Ends p e below F (T12.setTop (mkF m 60 #[.val (.ref a), .val (.ref b), .val (.ref b)] [(.long oa)]))
        refine own_step (fun _ k => XS.aloadN X12.here hx rfl (hb hby d8_60) rfl rfl k) ?_
        show own_Ends p e below F (T12.setTop (mkF m 61 #[.val (.ref a), .val (.ref b), .val (.ref b)] [(.ref b), (.long oa)]))
        obtain ⟨T13, X13, e13, st13⟩ := getF X12 hx hZ hown (host := "") (Or.inl (own_g hw 57 rfl)) Via.refl e12 Fob (g := (mkF m 61 #[.val (.ref a), .val (.ref b), .val (.ref b)] [(.ref b), (.long oa)])) rfl rfl (hb hby d8_61)
        refine own_step st13 ?_
        show own_Ends p e below F (T13.setTop (mkF m 64 #[.val (.ref a), .val (.ref b), .val (.ref b)] [(.long ob), (.long oa)]))
        refine own_step (fun _ k => XS.lcmp X13.here hx rfl (hb hby d8_64) rfl k) ?_
        show own_Ends p e below F (T13.setTop (mkF m 65 #[.val (.ref a), .val (.ref b), .val (.ref b)] [(.int (lcmpW oa ob))]))
        by_cases c65_14 : oa = ob
        · refine own_step (fun _ k => XS.ifNo X13.here hx rfl (hb hby d8_65) rfl ((if0 _ _).trans (teq ((lw_eq _ _).mpr c65_14)).2) k) ?_
          show own_Ends p e below F (T13.setTop (mkF m 68 #[.val (.ref a), .val (.ref b), .val (.ref b)] []))
          refine own_step (fun _ k => XS.aloadN X13.here hx rfl (hb hby d8_68) rfl rfl k) ?_
          show own_Ends p e below F (T13.setTop (mkF m 69 #[.val (.ref a), .val (.ref b), .val (.ref b)] [(.ref a)]))
          obtain ⟨T15, X15, e15, st15⟩ := getF X13 hx hZ hown (host := "") (Or.inl (own_g hw 43 rfl)) Via.refl e13 Fqa (g := (mkF m 69 #[.val (.ref a), .val (.ref b), .val (.ref b)] [(.ref a)])) rfl rfl (hb hby d8_69)
          refine own_step st15 ?_
          show own_Ends p e below F (T15.setTop (mkF m 72 #[.val (.ref a), .val (.ref b), .val (.ref b)] [(.ref sqa)]))
          refine own_step (fun _ k => XS.aloadN X15.here hx rfl (hb hby d8_72) rfl rfl k) ?_
          show own_Ends p e below F (T15.setTop (mkF m 73 #[.val (.ref a), .val (.ref b), .val (.ref b)] [(.ref b), (.ref sqa)]))
          obtain ⟨T16, X16, e16, st16⟩ := getF X15 hx hZ hown (host := "") (Or.inl (own_g hw 43 rfl)) Via.refl e15 Fqb (g := (mkF m 73 #[.val (.ref a), .val (.ref b), .val (.ref b)] [(.ref b), (.ref sqa)])) rfl rfl (hb hby d8_73)
          refine own_step st16 ?_
          show own_Ends p e below F (T16.setTop (mkF m 76 #[.val (.ref a), .val (.ref b), .val (.ref b)] [(.ref sqb), (.ref sqa)]))
          obtain ⟨cq17, kq17, qa17, qb17, qc17⟩ := isOf hZ e16 Tqa.exa
          obtain ⟨_, _, ⟨T17, L17, k17, n17⟩, -, X17, ⟨Lc17, hQ17, l17, y17, z17⟩, st17⟩ := X16.virtualBack hx (y := (⟨"java/lang/String", "equals", "(Ljava/lang/Object;)Z"⟩ : MethodName)) (z := (⟨"java/lang/String", "equals", "(Ljava/lang/Object;)Z"⟩ : MethodName)) hown (mvT hZ (own_g hw 66 rfl)) (mvT hZ (own_g hw 67 rfl)) (notFace_of_selects (args := #[]) (mvT hZ (own_g hw 69 rfl))) (mvT hZ (own_g hw 69 rfl)) (mvT hZ (own_g hw 68 rfl)) (by decide) (own_eqB (W := 0) hZ hw (own_g hw 12 rfl) Tqa Tqb SC hz Lqa Lqb (by decide) (by decide)) qa17 qc17 (g := (mkF m 76 #[.val (.ref a), .val (.ref b), .val (.ref b)] [(.ref sqb), (.ref sqa)])) rfl (by rw [hml]; rfl) (Steps.refl _) (argsL := [(.ref sqb)]) (rest := []) (lenOf pd__28Ljava_2flang_2fObject_3b_29Z rfl) rfl (by show 2 * 0 + _ ≤ _; exact Nat.le_of_eq rfl) (hb hby d8_76) (fun _ _ => ⟨rfl, e16, (by decide : 0 + 0 ≤ _), (by decide : 0 + 0 ≤ _)⟩)
          dsimp only [Pt.U, Pt.locs, Pt.cells, Pt.slots] at X17 l17 y17 z17 st17 hQ17
          subst l17 y17 z17
          obtain ⟨rfl, Nr17, eq17⟩ := hQ17
          have N17 := Fr.app N0 (Nr17 n0)
          refine own_trans st17 ?_
          show own_Ends p e below F (T17.setTop (mkF m 79 #[.val (.ref a), .val (.ref b), .val (.ref b)] [(.int (own_eqv qa qb))]))
          by_cases c79_18 : (own_eqv qa qb) = (0 : Int32)
          · refine own_step (fun _ k => XS.ifYes X17.here hx rfl (pc0 := 79) (pc' := 114) rfl (hb hby d8_79) rfl ((if0 _ _).trans (teq c79_18).1) (by decide) (by decide) k) ?_
            show own_Ends p e below F (T17.setTop (mkF m 114 #[.val (.ref a), .val (.ref b), .val (.ref b)] []))
            refine own_step (fun _ k => XS.iconst X17.here hx rfl (hb hby d8_114) k) ?_
            show own_Ends p e below F (T17.setTop (mkF m 115 #[.val (.ref a), .val (.ref b), .val (.ref b)] [(.int (0 : Int32))]))
            rw [hF]
            exact own_ret X17 (v := (some (.int (nar .boolean (0 : Int32))))) (fun h => by rw [Bd.returns] at h; cases h) Bd.notSynchronized (fun fs hr => retN X17 hx (t := .boolean) Bd.returns (by simp) (hb hby d8_115) hr) (by decide) (by decide) (by rw [eq17]; exact ⟨by simp only [own_teq, c30_5, c41_8, c53_11, c65_14, c79_18, if_true, if_false]; rfl, N17, rfl⟩)
          · refine own_step (fun _ k => XS.ifNo X17.here hx rfl (hb hby d8_79) rfl ((if0 _ _).trans (feq c79_18).1) k) ?_
            show own_Ends p e below F (T17.setTop (mkF m 82 #[.val (.ref a), .val (.ref b), .val (.ref b)] []))
            refine own_step (fun _ k => XS.aloadN X17.here hx rfl (hb hby d8_82) rfl rfl k) ?_
            show own_Ends p e below F (T17.setTop (mkF m 83 #[.val (.ref a), .val (.ref b), .val (.ref b)] [(.ref a)]))
            obtain ⟨T19, X19, e19, st19⟩ := getF X17 hx hZ hown (host := "") (Or.inl (own_g hw 46 rfl)) Via.refl eq17 Fia (g := (mkF m 83 #[.val (.ref a), .val (.ref b), .val (.ref b)] [(.ref a)])) rfl rfl (hb hby d8_83)
            refine own_step st19 ?_
            show own_Ends p e below F (T19.setTop (mkF m 86 #[.val (.ref a), .val (.ref b), .val (.ref b)] [(.ref sia)]))
            refine own_step (fun _ k => XS.aloadN X19.here hx rfl (hb hby d8_86) rfl rfl k) ?_
            show own_Ends p e below F (T19.setTop (mkF m 87 #[.val (.ref a), .val (.ref b), .val (.ref b)] [(.ref b), (.ref sia)]))
            obtain ⟨T20, X20, e20, st20⟩ := getF X19 hx hZ hown (host := "") (Or.inl (own_g hw 46 rfl)) Via.refl e19 Fib (g := (mkF m 87 #[.val (.ref a), .val (.ref b), .val (.ref b)] [(.ref b), (.ref sia)])) rfl rfl (hb hby d8_87)
            refine own_step st20 ?_
            show own_Ends p e below F (T20.setTop (mkF m 90 #[.val (.ref a), .val (.ref b), .val (.ref b)] [(.ref sib), (.ref sia)]))
            obtain ⟨cq21, kq21, qa21, qb21, qc21⟩ := isOf hZ e20 Tia.exa
            obtain ⟨_, _, ⟨T21, L21, k21, n21⟩, -, X21, ⟨Lc21, hQ21, l21, y21, z21⟩, st21⟩ := X20.virtualBack hx (y := (⟨"java/lang/String", "equals", "(Ljava/lang/Object;)Z"⟩ : MethodName)) (z := (⟨"java/lang/String", "equals", "(Ljava/lang/Object;)Z"⟩ : MethodName)) hown (mvT hZ (own_g hw 66 rfl)) (mvT hZ (own_g hw 67 rfl)) (notFace_of_selects (args := #[]) (mvT hZ (own_g hw 69 rfl))) (mvT hZ (own_g hw 69 rfl)) (mvT hZ (own_g hw 68 rfl)) (by decide) (own_eqB (W := 0) hZ hw (own_g hw 12 rfl) Tia Tib SC hz Lia Lib (by decide) (by decide)) qa21 qc21 (g := (mkF m 90 #[.val (.ref a), .val (.ref b), .val (.ref b)] [(.ref sib), (.ref sia)])) rfl (by rw [hml]; rfl) (Steps.refl _) (argsL := [(.ref sib)]) (rest := []) (lenOf pd__28Ljava_2flang_2fObject_3b_29Z rfl) rfl (by show 2 * 0 + _ ≤ _; exact Nat.le_of_eq rfl) (hb hby d8_90) (fun _ _ => ⟨rfl, e20, (by decide : 0 + 0 ≤ _), (by decide : 0 + 0 ≤ _)⟩)
            dsimp only [Pt.U, Pt.locs, Pt.cells, Pt.slots] at X21 l21 y21 z21 st21 hQ21
            subst l21 y21 z21
            obtain ⟨rfl, Nr21, eq21⟩ := hQ21
            have N21 := Fr.app N17 (Nr21 n0)
            refine own_trans st21 ?_
            show own_Ends p e below F (T21.setTop (mkF m 93 #[.val (.ref a), .val (.ref b), .val (.ref b)] [(.int (own_eqv ia ib))]))
            by_cases c93_22 : (own_eqv ia ib) = (0 : Int32)
            · refine own_step (fun _ k => XS.ifYes X21.here hx rfl (pc0 := 93) (pc' := 114) rfl (hb hby d8_93) rfl ((if0 _ _).trans (teq c93_22).1) (by decide) (by decide) k) ?_
              show own_Ends p e below F (T21.setTop (mkF m 114 #[.val (.ref a), .val (.ref b), .val (.ref b)] []))
              refine own_step (fun _ k => XS.iconst X21.here hx rfl (hb hby d8_114) k) ?_
              show own_Ends p e below F (T21.setTop (mkF m 115 #[.val (.ref a), .val (.ref b), .val (.ref b)] [(.int (0 : Int32))]))
              rw [hF]
              exact own_ret X21 (v := (some (.int (nar .boolean (0 : Int32))))) (fun h => by rw [Bd.returns] at h; cases h) Bd.notSynchronized (fun fs hr => retN X21 hx (t := .boolean) Bd.returns (by simp) (hb hby d8_115) hr) (by decide) (by decide) (by rw [eq21]; exact ⟨by simp only [own_teq, c30_5, c41_8, c53_11, c65_14, c79_18, c93_22, if_true, if_false]; rfl, N21, rfl⟩)
            · refine own_step (fun _ k => XS.ifNo X21.here hx rfl (hb hby d8_93) rfl ((if0 _ _).trans (feq c93_22).1) k) ?_
              show own_Ends p e below F (T21.setTop (mkF m 96 #[.val (.ref a), .val (.ref b), .val (.ref b)] []))
              refine own_step (fun _ k => XS.aloadN X21.here hx rfl (hb hby d8_96) rfl rfl k) ?_
              show own_Ends p e below F (T21.setTop (mkF m 97 #[.val (.ref a), .val (.ref b), .val (.ref b)] [(.ref a)]))
              obtain ⟨T23, X23, e23, st23⟩ := getF X21 hx hZ hown (host := "") (Or.inl (own_g hw 51 rfl)) Via.refl eq21 Fya (g := (mkF m 97 #[.val (.ref a), .val (.ref b), .val (.ref b)] [(.ref a)])) rfl rfl (hb hby d8_97)
              refine own_step st23 ?_
              show own_Ends p e below F (T23.setTop (mkF m 100 #[.val (.ref a), .val (.ref b), .val (.ref b)] [(.ref sya)]))
              refine own_step (fun _ k => XS.aloadN X23.here hx rfl (hb hby d8_100) rfl rfl k) ?_
              show own_Ends p e below F (T23.setTop (mkF m 101 #[.val (.ref a), .val (.ref b), .val (.ref b)] [(.ref b), (.ref sya)]))
              obtain ⟨T24, X24, e24, st24⟩ := getF X23 hx hZ hown (host := "") (Or.inl (own_g hw 51 rfl)) Via.refl e23 Fyb (g := (mkF m 101 #[.val (.ref a), .val (.ref b), .val (.ref b)] [(.ref b), (.ref sya)])) rfl rfl (hb hby d8_101)
              refine own_step st24 ?_
              show own_Ends p e below F (T24.setTop (mkF m 104 #[.val (.ref a), .val (.ref b), .val (.ref b)] [(.ref syb), (.ref sya)]))
              obtain ⟨cq25, kq25, qa25, qb25, qc25⟩ := isOf hZ e24 Tya.exa
              obtain ⟨_, _, ⟨T25, L25, k25, n25⟩, -, X25, ⟨Lc25, hQ25, l25, y25, z25⟩, st25⟩ := X24.virtualBack hx (y := (⟨"java/lang/String", "equals", "(Ljava/lang/Object;)Z"⟩ : MethodName)) (z := (⟨"java/lang/String", "equals", "(Ljava/lang/Object;)Z"⟩ : MethodName)) hown (mvT hZ (own_g hw 66 rfl)) (mvT hZ (own_g hw 67 rfl)) (notFace_of_selects (args := #[]) (mvT hZ (own_g hw 69 rfl))) (mvT hZ (own_g hw 69 rfl)) (mvT hZ (own_g hw 68 rfl)) (by decide) (own_eqB (W := 0) hZ hw (own_g hw 12 rfl) Tya Tyb SC hz Lya Lyb (by decide) (by decide)) qa25 qc25 (g := (mkF m 104 #[.val (.ref a), .val (.ref b), .val (.ref b)] [(.ref syb), (.ref sya)])) rfl (by rw [hml]; rfl) (Steps.refl _) (argsL := [(.ref syb)]) (rest := []) (lenOf pd__28Ljava_2flang_2fObject_3b_29Z rfl) rfl (by show 2 * 0 + _ ≤ _; exact Nat.le_of_eq rfl) (hb hby d8_104) (fun _ _ => ⟨rfl, e24, (by decide : 0 + 0 ≤ _), (by decide : 0 + 0 ≤ _)⟩)
              dsimp only [Pt.U, Pt.locs, Pt.cells, Pt.slots] at X25 l25 y25 z25 st25 hQ25
              subst l25 y25 z25
              obtain ⟨rfl, Nr25, eq25⟩ := hQ25
              have N25 := Fr.app N21 (Nr25 n0)
              refine own_trans st25 ?_
              show own_Ends p e below F (T25.setTop (mkF m 107 #[.val (.ref a), .val (.ref b), .val (.ref b)] [(.int (own_eqv ya yb))]))
              by_cases c107_26 : (own_eqv ya yb) = (0 : Int32)
              · refine own_step (fun _ k => XS.ifYes X25.here hx rfl (pc0 := 107) (pc' := 114) rfl (hb hby d8_107) rfl ((if0 _ _).trans (teq c107_26).1) (by decide) (by decide) k) ?_
                show own_Ends p e below F (T25.setTop (mkF m 114 #[.val (.ref a), .val (.ref b), .val (.ref b)] []))
                refine own_step (fun _ k => XS.iconst X25.here hx rfl (hb hby d8_114) k) ?_
                show own_Ends p e below F (T25.setTop (mkF m 115 #[.val (.ref a), .val (.ref b), .val (.ref b)] [(.int (0 : Int32))]))
                rw [hF]
                exact own_ret X25 (v := (some (.int (nar .boolean (0 : Int32))))) (fun h => by rw [Bd.returns] at h; cases h) Bd.notSynchronized (fun fs hr => retN X25 hx (t := .boolean) Bd.returns (by simp) (hb hby d8_115) hr) (by decide) (by decide) (by rw [eq25]; exact ⟨by simp only [own_teq, c30_5, c41_8, c53_11, c65_14, c79_18, c93_22, c107_26, if_true, if_false]; rfl, N25, rfl⟩)
              · refine own_step (fun _ k => XS.ifNo X25.here hx rfl (hb hby d8_107) rfl ((if0 _ _).trans (feq c107_26).1) k) ?_
                show own_Ends p e below F (T25.setTop (mkF m 110 #[.val (.ref a), .val (.ref b), .val (.ref b)] []))
                refine own_step (fun _ k => XS.iconst X25.here hx rfl (hb hby d8_110) k) ?_
                show own_Ends p e below F (T25.setTop (mkF m 111 #[.val (.ref a), .val (.ref b), .val (.ref b)] [(.int (1 : Int32))]))
                refine own_step (fun _ k => XS.goto X25.here hx rfl (pc0 := 111) (pc' := 115) rfl (hb hby d8_111) (by decide) (by decide) k) ?_
                show own_Ends p e below F (T25.setTop (mkF m 115 #[.val (.ref a), .val (.ref b), .val (.ref b)] [(.int (1 : Int32))]))
                rw [hF]
                exact own_ret X25 (v := (some (.int (nar .boolean (1 : Int32))))) (fun h => by rw [Bd.returns] at h; cases h) Bd.notSynchronized (fun fs hr => retN X25 hx (t := .boolean) Bd.returns (by simp) (hb hby d8_115) hr) (by decide) (by decide) (by rw [eq25]; exact ⟨by simp only [own_teq, c30_5, c41_8, c53_11, c65_14, c79_18, c93_22, c107_26, if_true, if_false]; rfl, N25, rfl⟩)
        · refine own_step (fun _ k => XS.ifYes X13.here hx rfl (pc0 := 65) (pc' := 114) rfl (hb hby d8_65) rfl ((if0 _ _).trans (feq (fun q => c65_14 ((lw_eq _ _).mp q))).2) (by decide) (by decide) k) ?_
          show own_Ends p e below F (T13.setTop (mkF m 114 #[.val (.ref a), .val (.ref b), .val (.ref b)] []))
          refine own_step (fun _ k => XS.iconst X13.here hx rfl (hb hby d8_114) k) ?_
          show own_Ends p e below F (T13.setTop (mkF m 115 #[.val (.ref a), .val (.ref b), .val (.ref b)] [(.int (0 : Int32))]))
          rw [hF]
          exact own_ret X13 (v := (some (.int (nar .boolean (0 : Int32))))) (fun h => by rw [Bd.returns] at h; cases h) Bd.notSynchronized (fun fs hr => retN X13 hx (t := .boolean) Bd.returns (by simp) (hb hby d8_115) hr) (by decide) (by decide) (by rw [e13]; exact ⟨by simp only [own_teq, c30_5, c41_8, c53_11, c65_14, if_true, if_false]; rfl, N0, rfl⟩)
      · refine own_step (fun _ k => XS.ifYes X10.here hx rfl (pc0 := 53) (pc' := 114) rfl (hb hby d8_53) rfl ((if0 _ _).trans (feq (fun q => c53_11 ((lw_eq _ _).mp q))).2) (by decide) (by decide) k) ?_
        show own_Ends p e below F (T10.setTop (mkF m 114 #[.val (.ref a), .val (.ref b), .val (.ref b)] []))
        refine own_step (fun _ k => XS.iconst X10.here hx rfl (hb hby d8_114) k) ?_
        show own_Ends p e below F (T10.setTop (mkF m 115 #[.val (.ref a), .val (.ref b), .val (.ref b)] [(.int (0 : Int32))]))
        rw [hF]
        exact own_ret X10 (v := (some (.int (nar .boolean (0 : Int32))))) (fun h => by rw [Bd.returns] at h; cases h) Bd.notSynchronized (fun fs hr => retN X10 hx (t := .boolean) Bd.returns (by simp) (hb hby d8_115) hr) (by decide) (by decide) (by rw [e10]; exact ⟨by simp only [own_teq, c30_5, c41_8, c53_11, if_true, if_false]; rfl, N0, rfl⟩)
    · refine own_step (fun _ k => XS.icmpYes X7.here hx rfl (pc0 := 41) (pc' := 114) rfl (hb hby d8_41) rfl (feq c41_8).2 (by decide) (by decide) k) ?_
      show own_Ends p e below F (T7.setTop (mkF m 114 #[.val (.ref a), .val (.ref b), .val (.ref b)] []))
      refine own_step (fun _ k => XS.iconst X7.here hx rfl (hb hby d8_114) k) ?_
      show own_Ends p e below F (T7.setTop (mkF m 115 #[.val (.ref a), .val (.ref b), .val (.ref b)] [(.int (0 : Int32))]))
      rw [hF]
      exact own_ret X7 (v := (some (.int (nar .boolean (0 : Int32))))) (fun h => by rw [Bd.returns] at h; cases h) Bd.notSynchronized (fun fs hr => retN X7 hx (t := .boolean) Bd.returns (by simp) (hb hby d8_115) hr) (by decide) (by decide) (by rw [e7]; exact ⟨by simp only [own_teq, c30_5, c41_8, if_true, if_false]; rfl, N0, rfl⟩)
  · refine own_step (fun _ k => XS.ifYes X4.here hx rfl (pc0 := 30) (pc' := 114) rfl (hb hby d8_30) rfl ((if0 _ _).trans (feq (fun q => c30_5 ((lw_eq _ _).mp q))).2) (by decide) (by decide) k) ?_
    show own_Ends p e below F (T4.setTop (mkF m 114 #[.val (.ref a), .val (.ref b), .val (.ref b)] []))
    refine own_step (fun _ k => XS.iconst X4.here hx rfl (hb hby d8_114) k) ?_
    show own_Ends p e below F (T4.setTop (mkF m 115 #[.val (.ref a), .val (.ref b), .val (.ref b)] [(.int (0 : Int32))]))
    rw [hF]
    exact own_ret X4 (v := (some (.int (nar .boolean (0 : Int32))))) (fun h => by rw [Bd.returns] at h; cases h) Bd.notSynchronized (fun fs hr => retN X4 hx (t := .boolean) Bd.returns (by simp) (hb hby d8_115) hr) (by decide) (by decide) (by rw [e4]; exact ⟨by simp only [own_teq, c30_5, if_true, if_false]; rfl, N0, rfl⟩)

def own_alt (z w : Int32) : List Int32 := if z = (0 : Int32) then [w] else [w, w]
theorem own_altlen (z w : Int32) : (own_alt z w).length ≤ 4000 := by unfold own_alt; split <;> exact Nat.le_of_ble_eq_true rfl
theorem own_klen {s k z w q : Int32} {c : List Int32} (e : c = if s = k then own_alt z w else [q]) : c.length ≤ 4000 := by
  subst e; split
  · exact own_altlen z w
  · exact Nat.le_of_ble_eq_true rfl
theorem own_c8L {v : Int32} {x : Int64} (e : v = ((x &&& (255 : Int64)).toInt32).toUInt32.toUInt16.toUInt32.toInt32) : ¬ v < 0 ∧ ¬ (255 : Int32) < v := by
  have h := c_maskL x 255 8 (by decide) (by decide)
  have p : ((2 ^ 8 : Nat) : Int) = 256 := rfl
  rw [p] at h
  have h2 := c_l2i (x &&& (255 : Int64))
  have r := rng32 (x &&& (255 : Int64)).toInt32
  have h3 := c_i2c ((x &&& (255 : Int64)).toInt32)
  rw [e]
  apply own_rng
  omega
theorem own_sel5 {Z : State} {h : Heap} {B : Nat} {z x y : Addr} {s z1 w q : Int32} {c : List Int32} (ec : c = if s = (5 : Int32) then own_alt z1 w else [q]) (e : z = if s = (1 : Int32) then y else (if s = (2 : Int32) then y else (if s = (3 : Int32) then y else (if s = (4 : Int32) then y else (if s = (5 : Int32) then x else y))))) (F : own_Str Z h B x (own_alt z1 w)) (G : own_Str Z h B y [q]) : own_Str Z h B z c := by
  subst ec
  by_cases k : s = 5
  · subst k; rw [if_pos rfl]; rw [if_neg (by decide), if_neg (by decide), if_neg (by decide), if_neg (by decide), if_pos rfl] at e; subst e; exact F
  · rw [if_neg k]; have : z = y := by rw [e]; simp only [k, if_false, ite_self]
    subst this; exact G
theorem own_sel6 {Z : State} {h : Heap} {B : Nat} {z x y : Addr} {s z1 w q : Int32} {c : List Int32} (ec : c = if s = (6 : Int32) then own_alt z1 w else [q]) (e : z = if s = (1 : Int32) then y else (if s = (2 : Int32) then y else (if s = (3 : Int32) then y else (if s = (4 : Int32) then y else (if s = (5 : Int32) then y else (if s = (6 : Int32) then x else y)))))) (F : own_Str Z h B x (own_alt z1 w)) (G : own_Str Z h B y [q]) : own_Str Z h B z c := by
  subst ec
  by_cases k : s = 6
  · subst k; rw [if_pos rfl]; rw [if_neg (by decide), if_neg (by decide), if_neg (by decide), if_neg (by decide), if_neg (by decide), if_pos rfl] at e; subst e; exact F
  · rw [if_neg k]; have : z = y := by rw [e]; simp only [k, if_false, ite_self]
    subst this; exact G
theorem own_sel7 {Z : State} {h : Heap} {B : Nat} {z x y : Addr} {s z1 w q : Int32} {c : List Int32} (ec : c = if s = (7 : Int32) then own_alt z1 w else [q]) (e : z = if s = (1 : Int32) then y else (if s = (2 : Int32) then y else (if s = (3 : Int32) then y else (if s = (4 : Int32) then y else (if s = (5 : Int32) then y else (if s = (6 : Int32) then y else (if s = (7 : Int32) then x else y))))))) (F : own_Str Z h B x (own_alt z1 w)) (G : own_Str Z h B y [q]) : own_Str Z h B z c := by
  subst ec
  by_cases k : s = 7
  · subst k; rw [if_pos rfl]; rw [if_neg (by decide), if_neg (by decide), if_neg (by decide), if_neg (by decide), if_neg (by decide), if_neg (by decide), if_pos rfl] at e; subst e; exact F
  · rw [if_neg k]; have : z = y := by rw [e]; simp only [k, if_false, ite_self]
    subst this; exact G
theorem own_eqr (c : List Int32) : own_eqv c c = 1 := by unfold own_eqv; rw [if_pos rfl]
theorem own_eqs (c d : List Int32) : own_eqv c d = own_eqv d c := by
  unfold own_eqv
  by_cases h : c = d
  · rw [if_pos h, if_pos h.symm]
  · rw [if_neg h, if_neg (Ne.symm h)]
theorem own_eqalt (q z w : Int32) : own_eqv [q] (own_alt z w) = if z = 0 then (if w = q then 1 else 0) else 0 := by
  unfold own_eqv own_alt
  by_cases h : z = 0
  · rw [if_pos h, if_pos h]
    by_cases g : w = q
    · rw [if_pos g, if_pos (by rw [g])]
    · rw [if_neg g, if_neg (fun k => g (List.cons.inj k).1.symm)]
  · rw [if_neg h, if_neg h, if_neg (show ¬ [q] = [w, w] from fun k => nomatch (List.cons.inj k).2)]
theorem own_ifs {α β : Type} [DecidableEq α] (a b : α) (x y : β) : (if a = b then x else y) = if b = a then x else y := by
  by_cases h : a = b
  · rw [if_pos h, if_pos h.symm]
  · rw [if_neg h, if_neg (Ne.symm h)]
theorem own_teqs (da db : Int64) (ta tb : Int32) (ua ub oa ob : Int64) (qa qb ia ib ya yb : List Int32) : own_teq da db ta tb ua ub oa ob qa qb ia ib ya yb = own_teq db da tb ta ub ua ob oa qb qa ib ia yb ya := by
  unfold own_teq
  rw [own_ifs da db, own_ifs ta tb, own_ifs ua ub, own_ifs oa ob, own_eqs qa qb, own_eqs ia ib, own_eqs ya yb]
theorem own_i10 {P : Prop} [Decidable P] : (if (if P then (1 : Int32) else 0) = 0 then (0 : Int32) else 1) = if P then 1 else 0 := by
  by_cases h : P
  · rw [if_pos h]; rfl
  · rw [if_neg h]; rfl
theorem own_main1 {s z w v2 v4 v6 : Int32} {k1 k2 k3 : List Int32} {d d' l l' o o' w6 : Int64} {t t' x : Int32} (e1 : k1 = if s = (5 : Int32) then own_alt z w else [v2]) (e2 : k2 = if s = (6 : Int32) then own_alt z w else [v4]) (e3 : k3 = if s = (7 : Int32) then own_alt z w else [v6])
    (hd : d' = if s = (1 : Int32) then w6 else d) (ht : t' = if s = (1 : Int32) then t else (if s = (2 : Int32) then (w6.toInt32) else t)) (hl : l' = if s = (1 : Int32) then l else (if s = (2 : Int32) then l else (if s = (3 : Int32) then w6 else l))) (ho : o' = if s = (1 : Int32) then o else (if s = (2 : Int32) then o else (if s = (3 : Int32) then o else (if s = (4 : Int32) then w6 else o))))
    (hx : x = (if s = (1 : Int32) then (if w6 = d then (1 : Int32) else (0 : Int32)) else (if s = (2 : Int32) then (if (w6.toInt32) = t then (1 : Int32) else (0 : Int32)) else (if s = (3 : Int32) then (if w6 = l then (1 : Int32) else (0 : Int32)) else (if s = (4 : Int32) then (if w6 = o then (1 : Int32) else (0 : Int32)) else (if s = (5 : Int32) then (if z = (0 : Int32) then (if w = v2 then (1 : Int32) else (0 : Int32)) else (0 : Int32)) else (if s = (6 : Int32) then (if z = (0 : Int32) then (if w = v4 then (1 : Int32) else (0 : Int32)) else (0 : Int32)) else (if s = (7 : Int32) then (if z = (0 : Int32) then (if w = v6 then (1 : Int32) else (0 : Int32)) else (0 : Int32)) else (1 : Int32))))))))) :
    own_teq d d' t t' l l' o o' [v2] k1 [v4] k2 [v6] k3 = x := by
  have i1 : ¬ (1 : Int32) = 0 := by decide
  have alt : ∀ v : Int32, (if own_eqv [v] (own_alt z w) = 0 then (0 : Int32) else 1) = (if z = (0 : Int32) then (if w = v then (1 : Int32) else (0 : Int32)) else (0 : Int32)) := fun v => by
    rw [own_eqalt]
    by_cases h : z = 0
    · rw [if_pos h, own_i10]
    · rw [if_neg h]; first | done | rfl
  by_cases h1 : s = 1
  · subst h1
    simp +decide only [if_true, if_false, ↓reduceIte] at e1 e2 e3 hd ht hl ho hx
    subst e1 e2 e3 hd ht hl ho hx
    unfold own_teq
    simp only [own_eqr, i1, if_true, if_false, ↓reduceIte]
    exact own_ifs _ _ _ _
  by_cases h2 : s = 2
  · subst h2
    simp +decide only [if_true, if_false, ↓reduceIte] at e1 e2 e3 hd ht hl ho hx
    subst e1 e2 e3 hd ht hl ho hx
    unfold own_teq
    simp only [own_eqr, i1, if_true, if_false, ↓reduceIte]
    exact own_ifs _ _ _ _
  by_cases h3 : s = 3
  · subst h3
    simp +decide only [if_true, if_false, ↓reduceIte] at e1 e2 e3 hd ht hl ho hx
    subst e1 e2 e3 hd ht hl ho hx
    unfold own_teq
    simp only [own_eqr, i1, if_true, if_false, ↓reduceIte]
    exact own_ifs _ _ _ _
  by_cases h4 : s = 4
  · subst h4
    simp +decide only [if_true, if_false, ↓reduceIte] at e1 e2 e3 hd ht hl ho hx
    subst e1 e2 e3 hd ht hl ho hx
    unfold own_teq
    simp only [own_eqr, i1, if_true, if_false, ↓reduceIte]
    exact own_ifs _ _ _ _
  by_cases h5 : s = 5
  · subst h5
    simp +decide only [if_true, if_false, ↓reduceIte] at e1 e2 e3 hd ht hl ho hx
    subst e1 e2 e3 hd ht hl ho hx
    unfold own_teq
    simp only [own_eqr, i1, if_true, if_false, ↓reduceIte]
    exact alt _
  by_cases h6 : s = 6
  · subst h6
    simp +decide only [if_true, if_false, ↓reduceIte] at e1 e2 e3 hd ht hl ho hx
    subst e1 e2 e3 hd ht hl ho hx
    unfold own_teq
    simp only [own_eqr, i1, if_true, if_false, ↓reduceIte]
    exact alt _
  by_cases h7 : s = 7
  · subst h7
    simp +decide only [if_true, if_false, ↓reduceIte] at e1 e2 e3 hd ht hl ho hx
    subst e1 e2 e3 hd ht hl ho hx
    unfold own_teq
    simp only [own_eqr, i1, if_true, if_false, ↓reduceIte]
    exact alt _
  simp only [h1, h2, h3, h4, h5, h6, h7, if_false, ↓reduceIte] at e1 e2 e3 hd ht hl ho hx
  subst e1 e2 e3 hd ht hl ho hx
  unfold own_teq
  simp only [own_eqr, i1, if_true, if_false, ↓reduceIte]
theorem own_main2 {s z w v2 v4 v6 : Int32} {k1 k2 k3 : List Int32} {d d' l l' o o' w6 : Int64} {t t' x : Int32} (e1 : k1 = if s = (5 : Int32) then own_alt z w else [v2]) (e2 : k2 = if s = (6 : Int32) then own_alt z w else [v4]) (e3 : k3 = if s = (7 : Int32) then own_alt z w else [v6])
    (hd : d' = if s = (1 : Int32) then w6 else d) (ht : t' = if s = (1 : Int32) then t else (if s = (2 : Int32) then (w6.toInt32) else t)) (hl : l' = if s = (1 : Int32) then l else (if s = (2 : Int32) then l else (if s = (3 : Int32) then w6 else l))) (ho : o' = if s = (1 : Int32) then o else (if s = (2 : Int32) then o else (if s = (3 : Int32) then o else (if s = (4 : Int32) then w6 else o))))
    (hx : x = (if s = (1 : Int32) then (if w6 = d then (1 : Int32) else (0 : Int32)) else (if s = (2 : Int32) then (if (w6.toInt32) = t then (1 : Int32) else (0 : Int32)) else (if s = (3 : Int32) then (if w6 = l then (1 : Int32) else (0 : Int32)) else (if s = (4 : Int32) then (if w6 = o then (1 : Int32) else (0 : Int32)) else (if s = (5 : Int32) then (if z = (0 : Int32) then (if w = v2 then (1 : Int32) else (0 : Int32)) else (0 : Int32)) else (if s = (6 : Int32) then (if z = (0 : Int32) then (if w = v4 then (1 : Int32) else (0 : Int32)) else (0 : Int32)) else (if s = (7 : Int32) then (if z = (0 : Int32) then (if w = v6 then (1 : Int32) else (0 : Int32)) else (0 : Int32)) else (1 : Int32))))))))) :
    own_teq d' d t' t l' l o' o k1 [v2] k2 [v4] k3 [v6] = x := (own_teqs _ _ _ _ _ _ _ _ _ _ _ _ _ _).trans (own_main1 e1 e2 e3 hd ht hl ho hx)

theorem pn_com_example_clock3600_clock3600_queue_StoredTaskEqualsPinLaw : plainName "com/example/clock3600/clock3600/queue/StoredTaskEqualsPinLaw" = true := by first | (simp [plainName, overriddenIn]; done) | decide +kernel
theorem pd__28C_29Ljava_2flang_2fString_3b : parseMethodDescriptor "(C)Ljava/lang/String;" = some ⟨[.char], some (.object "java/lang/String")⟩ := by decide +kernel
theorem pd__28_5bC_29V : parseMethodDescriptor "([C)V" = some ⟨[(.array .char)], none⟩ := by decide +kernel
theorem pd__28Ljava_2flang_2fString_3bLjava_2flang_2fString_3bJLjava_2flang_2fString_3bIJJ_29V : parseMethodDescriptor "(Ljava/lang/String;Ljava/lang/String;JLjava/lang/String;IJJ)V" = some ⟨[(.object "java/lang/String"), (.object "java/lang/String"), .long, (.object "java/lang/String"), .int, .long, .long], none⟩ := by decide +kernel
theorem ef_rm0 (m : MethodId) (x0 : Int64) (x1 : Int64) (x2 : Int64) (x3 : Int32) (x4 : Int32) (x5 : Int64) : entryFrame m #[(.long x0), (.long x1), (.long x2), (.int x3), (.int x4), (.long x5)] maxLocals = mkF m 0 #[.val (.long x0), .second, .val (.long x1), .second, .val (.long x2), .second, .val (.int x3), .val (.int x4), .val (.long x5), .second, .unset, .unset, .unset, .unset, .unset, .unset, .unset, .unset, .unset, .unset, .unset, .unset, .unset, .unset, .unset, .unset, .unset, .unset, .unset, .unset, .unset, .unset, .unset, .unset, .unset] [] := by first | (simp [entryFrame, mkF, argsToLocals, Value.category, maxLocals]; done) | rfl
def Q0 (Z : State) (p1 p2 p3 : Int64) (p4 p5 : Int32) (p6 : Int64) (zc : Int32) (h0 : Heap) (n0 : Nat) (v : Option Value) (h : Heap) (L : List Loc) : Prop := v = some (.int 1) ∧ Fr n0 L
set_option maxRecDepth 65536 in
set_option maxHeartbeats 40000000 in
theorem rm0 (l : Launch) (Z : State) (a0 : Array Value) (hw : ∀ d ∈ tables_1, d.before a0 Z = true) (ws : List Jvm.Cond) (p1 p2 p3 : Int64) (p4 p5 : Int32) (p6 : Int64) (zc : Int32) (h0 : Heap) (n0 : Nat) (Z0 : n0 ≤ h0.size) (SC : Sta Z h0 "java/lang/String" "COMPACT_STRINGS" "Z" (.int zc)) (hz : ¬ zc = 0) :
    MetFree l x (head1 (Jvm.Cond.code x code maxLocals ret :: ws) room_1) (fun ar U => ar = #[(.long p1), (.long p2), (.long p3), (.int p4), (.int p5), (.long p6)] ∧ Z.Warmed39 U.vm ∧ U.heap = h0) (fun _ _ _ _ _ => True) (fun _ U o U' => ∃ v L, o = .returned v ∧ Q0 Z p1 p2 p3 p4 p5 p6 zc h0 n0 v U'.heap L ∧ ReturnedEndW U o U' L room_1.cells room_1.slots) := by
  refine MetFree.of_bodySF (plainFor_of_name pn_com_example_clock3600_clock3600_queue_StoredTaskEqualsPinLaw) hisR ?_
  intro p e s m args below meth c s₁ Bd hml0 hP hK
  obtain ⟨rfl, hZ, hh⟩ := hP
  have hx := Bd.exec
  have hby := Bd.bytes
  have hml : c.maxLocals = 35 := hml0
  have hown : s.vm.findClass "com/example/clock3600/clock3600/queue/StoredTaskEqualsPinLaw" = some m.cls := findClass_of_methodNamed Bd.named
  have hnm := (name_of_methodNamed Bd.named Bd.method).1
  have X0 : Stand p l e room_1 (s.setVm s.vm) m #[(.long p1), (.long p2), (.long p3), (.int p4), (.int p5), (.long p6)] below meth c s₁ [] 0 0 := Stand.of_body Bd
  have e0 : s₁.heap = h0 := by rw [← hh, Bd.state]; rfl
  have N0 := Fr.nil n0
  have hS : s.Since s.vm h0.size := (State.WarmedH.refl s).since _
  have hk := Nat.le_refl h0.size
  obtain ⟨F, hF⟩ : ∃ F, F = own_FinW s (Q0 Z p1 p2 p3 p4 p5 p6 zc h0 n0) room_1.cells room_1.slots := ⟨_, rfl⟩
  show own_Ends p e below (own_FinW s (Q0 Z p1 p2 p3 p4 p5 p6 zc h0 n0) room_1.cells room_1.slots) _
  rw [← hF, ef_rm0 m p1 p2 p3 p4 p5 p6]
  show own_Ends p e below F (s₁.setTop (mkF m 0 #[.val (.long p1), .second, .val (.long p2), .second, .val (.long p3), .second, .val (.int p4), .val (.int p5), .val (.long p6), .second, .unset, .unset, .unset, .unset, .unset, .unset, .unset, .unset, .unset, .unset, .unset, .unset, .unset, .unset, .unset, .unset, .unset, .unset, .unset, .unset, .unset, .unset, .unset, .unset, .unset] []))
  obtain ⟨A1, hA1⟩ : ∃ z : Array Slot, z = #[.val (.long p1), .second, .val (.long p2), .second, .val (.long p3), .second, .val (.int p4), .val (.int p5), .val (.long p6), .second, .unset, .unset, .unset, .unset, .unset, .unset, .unset, .unset, .unset, .unset, .unset, .unset, .unset, .unset, .unset, .unset, .unset, .unset, .unset, .unset, .unset, .unset, .unset, .unset, .unset] := ⟨_, rfl⟩
  rw [← hA1]
  show own_Ends p e below F (s₁.setTop (mkF m 0 A1 []))
  refine own_step (fun _ k => XS.iload X0.here hx rfl (hb hby at_0) (by rw [hA1]; rfl) k) ?_
  show own_Ends p e below F (s₁.setTop (mkF m 2 A1 [(.int p5)]))
  refine own_step (fun _ k => XS.sipush X0.here hx rfl (hb hby at_2) k) ?_
  show own_Ends p e below F (s₁.setTop (mkF m 5 A1 [(.int (255 : Int32)), (.int p5)]))
  refine own_step (fun _ k => XS.iand X0.here hx rfl (hb hby at_5) rfl k) ?_
  show own_Ends p e below F (s₁.setTop (mkF m 6 A1 [(.int (p5 &&& (255 : Int32)))]))
  refine own_step (fun _ k => XS.i2c X0.here hx rfl (hb hby at_6) rfl k) ?_
  show own_Ends p e below F (s₁.setTop (mkF m 7 A1 [(.int ((p5 &&& (255 : Int32)).toUInt32.toUInt16.toUInt32.toInt32))]))
  obtain ⟨v2, ev2⟩ : ∃ z : Int32, z = ((p5 &&& (255 : Int32)).toUInt32.toUInt16.toUInt32.toInt32) := ⟨_, rfl⟩
  rw [← ev2]
  show own_Ends p e below F (s₁.setTop (mkF m 7 A1 [(.int v2)]))
  obtain ⟨A3, hA3⟩ : ∃ z : Array Slot, z = #[.val (.long p1), .second, .val (.long p2), .second, .val (.long p3), .second, .val (.int p4), .val (.int p5), .val (.long p6), .second, .val (.int v2), .unset, .unset, .unset, .unset, .unset, .unset, .unset, .unset, .unset, .unset, .unset, .unset, .unset, .unset, .unset, .unset, .unset, .unset, .unset, .unset, .unset, .unset, .unset, .unset] := ⟨_, rfl⟩
  refine own_step (fun _ k => XS.istore X0.here hx rfl (hb hby at_7) rfl (l' := A3) (by rw [hA1, hA3]; exact rfl) k) ?_
  show own_Ends p e below F (s₁.setTop (mkF m 9 A3 []))
  have ch10 := own_c8 ev2
  refine own_step (fun _ k => XS.iload X0.here hx rfl (hb hby at_9) (by rw [hA3]; rfl) k) ?_
  show own_Ends p e below F (s₁.setTop (mkF m 11 A3 [(.int p5)]))
  refine own_step (fun _ k => XS.bipush X0.here hx rfl (hb hby at_11) k) ?_
  show own_Ends p e below F (s₁.setTop (mkF m 13 A3 [(.int (8 : Int32)), (.int p5)]))
  refine own_step (fun _ k => XS.iushr X0.here hx rfl (hb hby at_13) rfl k) ?_
  show own_Ends p e below F (s₁.setTop (mkF m 14 A3 [(.int ((p5.toUInt32 >>> ((8 : Int32) &&& 31).toUInt32).toInt32))]))
  refine own_step (fun _ k => XS.sipush X0.here hx rfl (hb hby at_14) k) ?_
  show own_Ends p e below F (s₁.setTop (mkF m 17 A3 [(.int (255 : Int32)), (.int ((p5.toUInt32 >>> ((8 : Int32) &&& 31).toUInt32).toInt32))]))
  refine own_step (fun _ k => XS.iand X0.here hx rfl (hb hby at_17) rfl k) ?_
  show own_Ends p e below F (s₁.setTop (mkF m 18 A3 [(.int (((p5.toUInt32 >>> ((8 : Int32) &&& 31).toUInt32).toInt32) &&& (255 : Int32)))]))
  refine own_step (fun _ k => XS.i2c X0.here hx rfl (hb hby at_18) rfl k) ?_
  show own_Ends p e below F (s₁.setTop (mkF m 19 A3 [(.int ((((p5.toUInt32 >>> ((8 : Int32) &&& 31).toUInt32).toInt32) &&& (255 : Int32)).toUInt32.toUInt16.toUInt32.toInt32))]))
  obtain ⟨v4, ev4⟩ : ∃ z : Int32, z = ((((p5.toUInt32 >>> ((8 : Int32) &&& 31).toUInt32).toInt32) &&& (255 : Int32)).toUInt32.toUInt16.toUInt32.toInt32) := ⟨_, rfl⟩
  rw [← ev4]
  show own_Ends p e below F (s₁.setTop (mkF m 19 A3 [(.int v4)]))
  obtain ⟨A5, hA5⟩ : ∃ z : Array Slot, z = #[.val (.long p1), .second, .val (.long p2), .second, .val (.long p3), .second, .val (.int p4), .val (.int p5), .val (.long p6), .second, .val (.int v2), .val (.int v4), .unset, .unset, .unset, .unset, .unset, .unset, .unset, .unset, .unset, .unset, .unset, .unset, .unset, .unset, .unset, .unset, .unset, .unset, .unset, .unset, .unset, .unset, .unset] := ⟨_, rfl⟩
  refine own_step (fun _ k => XS.istore X0.here hx rfl (hb hby at_19) rfl (l' := A5) (by rw [hA3, hA5]; exact rfl) k) ?_
  show own_Ends p e below F (s₁.setTop (mkF m 21 A5 []))
  have ch11 := own_c8 ev4
  refine own_step (fun _ k => XS.iload X0.here hx rfl (hb hby at_21) (by rw [hA5]; rfl) k) ?_
  show own_Ends p e below F (s₁.setTop (mkF m 23 A5 [(.int p5)]))
  refine own_step (fun _ k => XS.bipush X0.here hx rfl (hb hby at_23) k) ?_
  show own_Ends p e below F (s₁.setTop (mkF m 25 A5 [(.int (16 : Int32)), (.int p5)]))
  refine own_step (fun _ k => XS.iushr X0.here hx rfl (hb hby at_25) rfl k) ?_
  show own_Ends p e below F (s₁.setTop (mkF m 26 A5 [(.int ((p5.toUInt32 >>> ((16 : Int32) &&& 31).toUInt32).toInt32))]))
  refine own_step (fun _ k => XS.sipush X0.here hx rfl (hb hby at_26) k) ?_
  show own_Ends p e below F (s₁.setTop (mkF m 29 A5 [(.int (255 : Int32)), (.int ((p5.toUInt32 >>> ((16 : Int32) &&& 31).toUInt32).toInt32))]))
  refine own_step (fun _ k => XS.iand X0.here hx rfl (hb hby at_29) rfl k) ?_
  show own_Ends p e below F (s₁.setTop (mkF m 30 A5 [(.int (((p5.toUInt32 >>> ((16 : Int32) &&& 31).toUInt32).toInt32) &&& (255 : Int32)))]))
  refine own_step (fun _ k => XS.i2c X0.here hx rfl (hb hby at_30) rfl k) ?_
  show own_Ends p e below F (s₁.setTop (mkF m 31 A5 [(.int ((((p5.toUInt32 >>> ((16 : Int32) &&& 31).toUInt32).toInt32) &&& (255 : Int32)).toUInt32.toUInt16.toUInt32.toInt32))]))
  obtain ⟨v6, ev6⟩ : ∃ z : Int32, z = ((((p5.toUInt32 >>> ((16 : Int32) &&& 31).toUInt32).toInt32) &&& (255 : Int32)).toUInt32.toUInt16.toUInt32.toInt32) := ⟨_, rfl⟩
  rw [← ev6]
  show own_Ends p e below F (s₁.setTop (mkF m 31 A5 [(.int v6)]))
  obtain ⟨A7, hA7⟩ : ∃ z : Array Slot, z = #[.val (.long p1), .second, .val (.long p2), .second, .val (.long p3), .second, .val (.int p4), .val (.int p5), .val (.long p6), .second, .val (.int v2), .val (.int v4), .val (.int v6), .unset, .unset, .unset, .unset, .unset, .unset, .unset, .unset, .unset, .unset, .unset, .unset, .unset, .unset, .unset, .unset, .unset, .unset, .unset, .unset, .unset, .unset] := ⟨_, rfl⟩
  refine own_step (fun _ k => XS.istore X0.here hx rfl (hb hby at_31) rfl (l' := A7) (by rw [hA5, hA7]; exact rfl) k) ?_
  show own_Ends p e below F (s₁.setTop (mkF m 33 A7 []))
  have ch12 := own_c8 ev6
  refine own_step (fun _ k => XS.iload X0.here hx rfl (hb hby at_33) (by rw [hA7]; rfl) k) ?_
  show own_Ends p e below F (s₁.setTop (mkF m 35 A7 [(.int p5)]))
  refine own_step (fun _ k => XS.bipush X0.here hx rfl (hb hby at_35) k) ?_
  show own_Ends p e below F (s₁.setTop (mkF m 37 A7 [(.int (24 : Int32)), (.int p5)]))
  refine own_step (fun _ k => XS.iushr X0.here hx rfl (hb hby at_37) rfl k) ?_
  show own_Ends p e below F (s₁.setTop (mkF m 38 A7 [(.int ((p5.toUInt32 >>> ((24 : Int32) &&& 31).toUInt32).toInt32))]))
  refine own_step (fun _ k => XS.bipush X0.here hx rfl (hb hby at_38) k) ?_
  show own_Ends p e below F (s₁.setTop (mkF m 40 A7 [(.int (7 : Int32)), (.int ((p5.toUInt32 >>> ((24 : Int32) &&& 31).toUInt32).toInt32))]))
  refine own_step (fun _ k => XS.iand X0.here hx rfl (hb hby at_40) rfl k) ?_
  show own_Ends p e below F (s₁.setTop (mkF m 41 A7 [(.int (((p5.toUInt32 >>> ((24 : Int32) &&& 31).toUInt32).toInt32) &&& (7 : Int32)))]))
  obtain ⟨v8, ev8⟩ : ∃ z : Int32, z = (((p5.toUInt32 >>> ((24 : Int32) &&& 31).toUInt32).toInt32) &&& (7 : Int32)) := ⟨_, rfl⟩
  rw [← ev8]
  show own_Ends p e below F (s₁.setTop (mkF m 41 A7 [(.int v8)]))
  obtain ⟨A9, hA9⟩ : ∃ z : Array Slot, z = #[.val (.long p1), .second, .val (.long p2), .second, .val (.long p3), .second, .val (.int p4), .val (.int p5), .val (.long p6), .second, .val (.int v2), .val (.int v4), .val (.int v6), .val (.int v8), .unset, .unset, .unset, .unset, .unset, .unset, .unset, .unset, .unset, .unset, .unset, .unset, .unset, .unset, .unset, .unset, .unset, .unset, .unset, .unset, .unset] := ⟨_, rfl⟩
  refine own_step (fun _ k => XS.istore X0.here hx rfl (hb hby at_41) rfl (l' := A9) (by rw [hA7, hA9]; exact rfl) k) ?_
  show own_Ends p e below F (s₁.setTop (mkF m 43 A9 []))
  refine own_step (fun _ k => XS.lload X0.here hx rfl (hb hby at_43) (by rw [hA9]; rfl) k) ?_
  show own_Ends p e below F (s₁.setTop (mkF m 45 A9 [(.long p6)]))
  refine own_step (X0.ldc2Long hx hown (mvT hZ (own_g hw 0 rfl)) (g := (mkF m 45 A9 [(.long p6)])) rfl (hb hby at_45)) ?_
  show own_Ends p e below F (s₁.setTop (mkF m 48 A9 [(.long (255 : Int64)), (.long p6)]))
  refine own_step (fun _ k => XS.land X0.here hx rfl (hb hby at_48) rfl k) ?_
  show own_Ends p e below F (s₁.setTop (mkF m 49 A9 [(.long (p6 &&& (255 : Int64)))]))
  refine own_step (fun _ k => XS.l2i X0.here hx rfl (hb hby at_49) rfl k) ?_
  show own_Ends p e below F (s₁.setTop (mkF m 50 A9 [(.int ((p6 &&& (255 : Int64)).toInt32))]))
  refine own_step (fun _ k => XS.i2c X0.here hx rfl (hb hby at_50) rfl k) ?_
  show own_Ends p e below F (s₁.setTop (mkF m 51 A9 [(.int (((p6 &&& (255 : Int64)).toInt32).toUInt32.toUInt16.toUInt32.toInt32))]))
  obtain ⟨v10, ev10⟩ : ∃ z : Int32, z = (((p6 &&& (255 : Int64)).toInt32).toUInt32.toUInt16.toUInt32.toInt32) := ⟨_, rfl⟩
  rw [← ev10]
  show own_Ends p e below F (s₁.setTop (mkF m 51 A9 [(.int v10)]))
  obtain ⟨A11, hA11⟩ : ∃ z : Array Slot, z = #[.val (.long p1), .second, .val (.long p2), .second, .val (.long p3), .second, .val (.int p4), .val (.int p5), .val (.long p6), .second, .val (.int v2), .val (.int v4), .val (.int v6), .val (.int v8), .val (.int v10), .unset, .unset, .unset, .unset, .unset, .unset, .unset, .unset, .unset, .unset, .unset, .unset, .unset, .unset, .unset, .unset, .unset, .unset, .unset, .unset] := ⟨_, rfl⟩
  refine own_step (fun _ k => XS.istore X0.here hx rfl (hb hby at_51) rfl (l' := A11) (by rw [hA9, hA11]; exact rfl) k) ?_
  show own_Ends p e below F (s₁.setTop (mkF m 53 A11 []))
  have ch14 := own_c8L ev10
  refine own_step (fun _ k => XS.lload X0.here hx rfl (hb hby at_53) (by rw [hA11]; rfl) k) ?_
  show own_Ends p e below F (s₁.setTop (mkF m 55 A11 [(.long p6)]))
  refine own_step (fun _ k => XS.bipush X0.here hx rfl (hb hby at_55) k) ?_
  show own_Ends p e below F (s₁.setTop (mkF m 57 A11 [(.int (8 : Int32)), (.long p6)]))
  refine own_step (fun _ k => XS.lushr X0.here hx rfl (hb hby at_57) rfl k) ?_
  show own_Ends p e below F (s₁.setTop (mkF m 58 A11 [(.long ((p6.toUInt64 >>> ((8 : Int32) &&& 0x3f).toInt64.toUInt64).toInt64))]))
  refine own_step (fun _ k => XS.lconst X0.here hx rfl (hb hby at_58) k) ?_
  show own_Ends p e below F (s₁.setTop (mkF m 59 A11 [(.long (1 : Int64)), (.long ((p6.toUInt64 >>> ((8 : Int32) &&& 0x3f).toInt64.toUInt64).toInt64))]))
  refine own_step (fun _ k => XS.land X0.here hx rfl (hb hby at_59) rfl k) ?_
  show own_Ends p e below F (s₁.setTop (mkF m 60 A11 [(.long (((p6.toUInt64 >>> ((8 : Int32) &&& 0x3f).toInt64.toUInt64).toInt64) &&& (1 : Int64)))]))
  refine own_step (fun _ k => XS.lconst X0.here hx rfl (hb hby at_60) k) ?_
  show own_Ends p e below F (s₁.setTop (mkF m 61 A11 [(.long (0 : Int64)), (.long (((p6.toUInt64 >>> ((8 : Int32) &&& 0x3f).toInt64.toUInt64).toInt64) &&& (1 : Int64)))]))
  refine own_step (fun _ k => XS.lcmp X0.here hx rfl (hb hby at_61) rfl k) ?_
  show own_Ends p e below F (s₁.setTop (mkF m 62 A11 [(.int (lcmpW (((p6.toUInt64 >>> ((8 : Int32) &&& 0x3f).toInt64.toUInt64).toInt64) &&& (1 : Int64)) (0 : Int64)))]))
  have J62_13 : ∀ (z12 : Int32) (hz12 : z12 = (if (((p6.toUInt64 >>> ((8 : Int32) &&& 0x3f).toInt64.toUInt64).toInt64) &&& (1 : Int64)) = (0 : Int64) then (0 : Int32) else (1 : Int32))), own_Ends p e below F (s₁.setTop (mkF m 70 #[.val (.long p1), .second, .val (.long p2), .second, .val (.long p3), .second, .val (.int p4), .val (.int p5), .val (.long p6), .second, .val (.int v2), .val (.int v4), .val (.int v6), .val (.int v8), .val (.int v10), .unset, .unset, .unset, .unset, .unset, .unset, .unset, .unset, .unset, .unset, .unset, .unset, .unset, .unset, .unset, .unset, .unset, .unset, .unset, .unset] [(.int z12)])) := by
    intro z12 hz12
    obtain ⟨A15, hA15⟩ : ∃ z : Array Slot, z = #[.val (.long p1), .second, .val (.long p2), .second, .val (.long p3), .second, .val (.int p4), .val (.int p5), .val (.long p6), .second, .val (.int v2), .val (.int v4), .val (.int v6), .val (.int v8), .val (.int v10), .unset, .unset, .unset, .unset, .unset, .unset, .unset, .unset, .unset, .unset, .unset, .unset, .unset, .unset, .unset, .unset, .unset, .unset, .unset, .unset] := ⟨_, rfl⟩
    rw [← hA15]
    show own_Ends p e below F (s₁.setTop (mkF m 70 A15 [(.int z12)]))
    obtain ⟨A16, hA16⟩ : ∃ z : Array Slot, z = #[.val (.long p1), .second, .val (.long p2), .second, .val (.long p3), .second, .val (.int p4), .val (.int p5), .val (.long p6), .second, .val (.int v2), .val (.int v4), .val (.int v6), .val (.int v8), .val (.int v10), .val (.int z12), .unset, .unset, .unset, .unset, .unset, .unset, .unset, .unset, .unset, .unset, .unset, .unset, .unset, .unset, .unset, .unset, .unset, .unset, .unset] := ⟨_, rfl⟩
    refine own_step (fun _ k => XS.istore X0.here hx rfl (hb hby at_70) rfl (l' := A16) (by rw [hA15, hA16]; exact rfl) k) ?_
    show own_Ends p e below F (s₁.setTop (mkF m 72 A16 []))
    refine own_step (fun _ k => XS.iconst X0.here hx rfl (hb hby at_72) k) ?_
    show own_Ends p e below F (s₁.setTop (mkF m 73 A16 [(.int (2 : Int32))]))
    obtain ⟨T17, h17, k17, X17, e17, E17, A17, st17⟩ := newP X0 hx hZ (own_g hw 1 rfl) e0 (g := (mkF m 73 A16 [(.int (2 : Int32))])) rfl (hb hby at_73) rfl (by decide) (cap := 2) (by decide) (by decide) (by decide) (by decide)
    obtain ⟨a17, g17⟩ : ∃ z, z = h0.size := ⟨_, rfl⟩
    rw [← g17] at A17 st17
    have ge_a17 : n0 ≤ a17 := Nat.le_trans Z0 (Nat.le_of_eq g17.symm)
    have sz_a17 : h0.size ≤ a17 := Nat.le_trans (Nat.le_refl h0.size) (Nat.le_of_eq g17.symm)
    have Z17 : n0 ≤ h17.size := Nat.le_trans Z0 E17.1
    have SZ17 : h0.size ≤ h17.size := Nat.le_trans (Nat.le_refl h0.size) E17.1
    have hk := Nat.le_trans hk E17.1
    have V17 : Arv Z h17 a17 k17 .char (2 : Int32) [(.int (0 : Int32)), (.int (0 : Int32))] (.int (0 : Int32)) := Arv.pad (Arv.new A17 (by decide)) (pad_rep [] _ 2)
    refine own_step st17 ?_
    show own_Ends p e below F (T17.setTop (mkF m 75 A16 [(.ref a17)]))
    obtain ⟨A18, hA18⟩ : ∃ z : Array Slot, z = #[.val (.long p1), .second, .val (.long p2), .second, .val (.long p3), .second, .val (.int p4), .val (.int p5), .val (.long p6), .second, .val (.int v2), .val (.int v4), .val (.int v6), .val (.int v8), .val (.int v10), .val (.int z12), .val (.ref a17), .unset, .unset, .unset, .unset, .unset, .unset, .unset, .unset, .unset, .unset, .unset, .unset, .unset, .unset, .unset, .unset, .unset, .unset] := ⟨_, rfl⟩
    refine own_step (fun _ k => XS.astore X17.here hx rfl (hb hby at_75) rfl rfl (l' := A18) (by rw [hA16, hA18]; exact rfl) k) ?_
    show own_Ends p e below F (T17.setTop (mkF m 77 A18 []))
    refine own_step (fun _ k => XS.aload X17.here hx rfl (hb hby at_77) (by rw [hA18]; rfl) rfl k) ?_
    show own_Ends p e below F (T17.setTop (mkF m 79 A18 [(.ref a17)]))
    refine own_step (fun _ k => XS.iconst X17.here hx rfl (hb hby at_79) k) ?_
    show own_Ends p e below F (T17.setTop (mkF m 80 A18 [(.int (0 : Int32)), (.ref a17)]))
    refine own_step (fun _ k => XS.iload X17.here hx rfl (hb hby at_80) (by rw [hA18]; rfl) k) ?_
    show own_Ends p e below F (T17.setTop (mkF m 82 A18 [(.int v10), (.int (0 : Int32)), (.ref a17)]))
    obtain ⟨cl19, Ar19, q19, S19, M19, H19, G19⟩ := id V17
    have hin19 : ¬ ((0 : Int32) < 0 ∨ cl19.slots.size ≤ ((0 : Int32) : Int32).toNatClampNeg) := inb_of S19 ⟨by decide, by decide⟩
    obtain ⟨T19, h19, X19, e19, W19, st19⟩ := stC X17 hx hZ e17 Ar19 (j := (0 : Int32)) hin19 (g := (mkF m 82 A18 [(.int v10), (.int (0 : Int32)), (.ref a17)])) rfl rfl (hb hby at_82)
    rw [own_narC ch14] at W19
    have V19 := Arv.set Ar19 q19 S19 M19 H19 G19 (own_fitC ch14) W19 0 rfl (Nat.le_of_ble_eq_true rfl)
    have V19 : Arv Z h19 a17 k17 .char (2 : Int32) [(.int v10), (.int (0 : Int32))] (.int (0 : Int32)) := V19
    refine own_step st19 ?_
    have N19 := Fr.snoc X19 N0 ge_a17
    have Z19 : n0 ≤ h19.size := by rw [W19.size]; exact Z17
    have SZ19 : h0.size ≤ h19.size := by rw [W19.size]; exact SZ17
    have hk := (W19.size.symm ▸ hk : _ ≤ h19.size)
    show own_Ends p e below F (T19.setTop (mkF m 83 A18 []))
    refine own_step (fun _ k => XS.aload X19.here hx rfl (hb hby at_83) (by rw [hA18]; rfl) rfl k) ?_
    show own_Ends p e below F (T19.setTop (mkF m 85 A18 [(.ref a17)]))
    refine own_step (fun _ k => XS.iconst X19.here hx rfl (hb hby at_85) k) ?_
    show own_Ends p e below F (T19.setTop (mkF m 86 A18 [(.int (1 : Int32)), (.ref a17)]))
    refine own_step (fun _ k => XS.iload X19.here hx rfl (hb hby at_86) (by rw [hA18]; rfl) k) ?_
    show own_Ends p e below F (T19.setTop (mkF m 88 A18 [(.int v10), (.int (1 : Int32)), (.ref a17)]))
    obtain ⟨cl20, Ar20, q20, S20, M20, H20, G20⟩ := id V19
    have hin20 : ¬ ((1 : Int32) < 0 ∨ cl20.slots.size ≤ ((1 : Int32) : Int32).toNatClampNeg) := inb_of S20 ⟨by decide, by decide⟩
    obtain ⟨T20, h20, X20, e20, W20, st20⟩ := stC X19 hx hZ e19 Ar20 (j := (1 : Int32)) hin20 (g := (mkF m 88 A18 [(.int v10), (.int (1 : Int32)), (.ref a17)])) rfl rfl (hb hby at_88)
    rw [own_narC ch14] at W20
    have V20 := Arv.set Ar20 q20 S20 M20 H20 G20 (own_fitC ch14) W20 1 rfl (Nat.le_of_ble_eq_true rfl)
    have V20 : Arv Z h20 a17 k17 .char (2 : Int32) [(.int v10), (.int v10)] (.int (0 : Int32)) := V20
    refine own_step st20 ?_
    have N20 := Fr.snoc X20 N19 ge_a17
    have Z20 : n0 ≤ h20.size := by rw [W20.size]; exact Z19
    have SZ20 : h0.size ≤ h20.size := by rw [W20.size]; exact SZ19
    have hk := (W20.size.symm ▸ hk : _ ≤ h20.size)
    show own_Ends p e below F (T20.setTop (mkF m 89 A18 []))
    refine own_step (fun _ k => XS.iload X20.here hx rfl (hb hby at_89) (by rw [hA18]; rfl) k) ?_
    show own_Ends p e below F (T20.setTop (mkF m 91 A18 [(.int z12)]))
    have J91_22 : ∀ (T23 : State) (l23 : List Loc) (h23 : Heap) (X23 : Stand p l e room_1 (s.setVm s.vm) m #[(.long p1), (.long p2), (.long p3), (.int p4), (.int p5), (.long p6)] below meth c T23 l23 3 8) (e23 : T23.heap = h23) (N23 : Fr n0 l23) (z21 : Addr) (hz21 : True) (Z23 : n0 ≤ h23.size) (SZ23 : h0.size ≤ h23.size) (kk23 : Nat) (hS : s.Since ((s.setVm s.vm)).vm kk23) (hk : kk23 ≤ h23.size) (SC23 : Sta Z h23 "java/lang/String" "COMPACT_STRINGS" "Z" (.int zc)) (str23 : own_Str Z h23 h23.size z21 (own_alt z12 v10)), own_Ends p e below F (T23.setTop (mkF m 111 #[.val (.long p1), .second, .val (.long p2), .second, .val (.long p3), .second, .val (.int p4), .val (.int p5), .val (.long p6), .second, .val (.int v2), .val (.int v4), .val (.int v6), .val (.int v8), .val (.int v10), .val (.int z12), .val (.ref a17), .unset, .unset, .unset, .unset, .unset, .unset, .unset, .unset, .unset, .unset, .unset, .unset, .unset, .unset, .unset, .unset, .unset, .unset] [(.ref z21)])) := by
      intro T23 l23 h23 X23 e23 N23 z21 hz21 Z23 SZ23 kk23 hS hk SC23 str23
      obtain ⟨A24, hA24⟩ : ∃ z : Array Slot, z = #[.val (.long p1), .second, .val (.long p2), .second, .val (.long p3), .second, .val (.int p4), .val (.int p5), .val (.long p6), .second, .val (.int v2), .val (.int v4), .val (.int v6), .val (.int v8), .val (.int v10), .val (.int z12), .val (.ref a17), .unset, .unset, .unset, .unset, .unset, .unset, .unset, .unset, .unset, .unset, .unset, .unset, .unset, .unset, .unset, .unset, .unset, .unset] := ⟨_, rfl⟩
      rw [← hA24]
      show own_Ends p e below F (T23.setTop (mkF m 111 A24 [(.ref z21)]))
      obtain ⟨A25, hA25⟩ : ∃ z : Array Slot, z = #[.val (.long p1), .second, .val (.long p2), .second, .val (.long p3), .second, .val (.int p4), .val (.int p5), .val (.long p6), .second, .val (.int v2), .val (.int v4), .val (.int v6), .val (.int v8), .val (.int v10), .val (.int z12), .val (.ref a17), .val (.ref z21), .unset, .unset, .unset, .unset, .unset, .unset, .unset, .unset, .unset, .unset, .unset, .unset, .unset, .unset, .unset, .unset, .unset] := ⟨_, rfl⟩
      refine own_step (fun _ k => XS.astore X23.here hx rfl (hb hby at_111) rfl rfl (l' := A25) (by rw [hA24, hA25]; exact rfl) k) ?_
      show own_Ends p e below F (T23.setTop (mkF m 113 A25 []))
      refine own_step (fun _ k => XS.iload X23.here hx rfl (hb hby at_113) (by rw [hA25]; rfl) k) ?_
      show own_Ends p e below F (T23.setTop (mkF m 115 A25 [(.int v2)]))
      obtain ⟨_, _, ⟨T26, L26, k26, n26⟩, -, X26, ⟨Lc26, hQ26, l26, y26, z26⟩, st26⟩ := Jvm.LawKit.callS X23 hx (y := (⟨"java/lang/String", "valueOf", "(C)Ljava/lang/String;"⟩ : MethodName)) hown (mvT hZ (own_g hw 2 rfl)) (mvT hZ (own_g hw 3 rfl)) (mvT hZ (own_g hw 4 rfl)) (mvT hZ (own_g hw 5 rfl)) (by decide) (backOf (W := 0) (rm1 l Z a0 hw [] v2 zc h23 n0 Z23 SC23 hz ch10) hZ (own_g hw 5 rfl) (own_g hw 4 rfl) (by decide) (by decide)) (g := (mkF m 115 A25 [(.int v2)])) rfl (by rw [hml]; show A25.size = _; rw [hA25]; rfl) (argsL := [(.int v2)]) (rest := []) (lenOf pd__28C_29Ljava_2flang_2fString_3b rfl) rfl (by show 2 * 0 + _ ≤ _; exact Nat.le_of_eq rfl) (hb hby at_115) (fun _ _ => ⟨rfl, e23, (by decide : 3 + 2 ≤ _), (by decide : 8 + 5 ≤ _)⟩)
      dsimp only [Pt.U, Pt.locs, Pt.cells, Pt.slots] at X26 l26 y26 z26 st26 hQ26
      subst l26 y26 z26
      obtain ⟨c26, rfl, Nq26, Kq26, fq0_26, fq1_26⟩ := hQ26
      have N26 := Fr.app N23 Nq26
      have Z26 : n0 ≤ T26.heap.size := Nat.le_trans Z23 Kq26.1
      have SZ26 : h0.size ≤ T26.heap.size := Nat.le_trans SZ23 Kq26.1
      have S0_26 := own_Sta_keep SC23 Kq26 all0
      have bd26_c26_h23_size : h23.size ≤ c26 := Nat.le_trans (Nat.le_refl _) fq0_26
      have ne_z21_c26 : z21 ≠ c26 := Nat.ne_of_lt (Nat.lt_of_lt_of_le (str23).lt fq0_26)
      have ge_c26 : n0 ≤ c26 := Nat.le_trans Z23 fq0_26
      have sz_c26 : h0.size ≤ c26 := Nat.le_trans SZ23 fq0_26
      have str26 := fq1_26
      have fe26 := str26.exa
      have hk := Nat.le_trans hk Kq26.1
      refine own_step st26 ?_
      show own_Ends p e below F (T26.setTop (mkF m 118 A25 [(.ref c26)]))
      obtain ⟨A27, hA27⟩ : ∃ z : Array Slot, z = #[.val (.long p1), .second, .val (.long p2), .second, .val (.long p3), .second, .val (.int p4), .val (.int p5), .val (.long p6), .second, .val (.int v2), .val (.int v4), .val (.int v6), .val (.int v8), .val (.int v10), .val (.int z12), .val (.ref a17), .val (.ref z21), .val (.ref c26), .unset, .unset, .unset, .unset, .unset, .unset, .unset, .unset, .unset, .unset, .unset, .unset, .unset, .unset, .unset, .unset] := ⟨_, rfl⟩
      refine own_step (fun _ k => XS.astore X26.here hx rfl (hb hby at_118) rfl rfl (l' := A27) (by rw [hA25, hA27]; exact rfl) k) ?_
      show own_Ends p e below F (T26.setTop (mkF m 120 A27 []))
      refine own_step (fun _ k => XS.iload X26.here hx rfl (hb hby at_120) (by rw [hA27]; rfl) k) ?_
      show own_Ends p e below F (T26.setTop (mkF m 122 A27 [(.int v4)]))
      obtain ⟨_, _, ⟨T28, L28, k28, n28⟩, -, X28, ⟨Lc28, hQ28, l28, y28, z28⟩, st28⟩ := Jvm.LawKit.callS X26 hx (y := (⟨"java/lang/String", "valueOf", "(C)Ljava/lang/String;"⟩ : MethodName)) hown (mvT hZ (own_g hw 2 rfl)) (mvT hZ (own_g hw 3 rfl)) (mvT hZ (own_g hw 4 rfl)) (mvT hZ (own_g hw 5 rfl)) (by decide) (backOf (W := 0) (rm1 l Z a0 hw [] v4 zc T26.heap n0 Z26 S0_26 hz ch11) hZ (own_g hw 5 rfl) (own_g hw 4 rfl) (by decide) (by decide)) (g := (mkF m 122 A27 [(.int v4)])) rfl (by rw [hml]; show A27.size = _; rw [hA27]; rfl) (argsL := [(.int v4)]) (rest := []) (lenOf pd__28C_29Ljava_2flang_2fString_3b rfl) rfl (by show 2 * 0 + _ ≤ _; exact Nat.le_of_eq rfl) (hb hby at_122) (fun _ _ => ⟨rfl, rfl, (by decide : 5 + 2 ≤ _), (by decide : 13 + 5 ≤ _)⟩)
      dsimp only [Pt.U, Pt.locs, Pt.cells, Pt.slots] at X28 l28 y28 z28 st28 hQ28
      subst l28 y28 z28
      obtain ⟨c28, rfl, Nq28, Kq28, fq0_28, fq1_28⟩ := hQ28
      have N28 := Fr.app N26 Nq28
      have Z28 : n0 ≤ T28.heap.size := Nat.le_trans Z26 Kq28.1
      have SZ28 : h0.size ≤ T28.heap.size := Nat.le_trans SZ26 Kq28.1
      have S0_28 := own_Sta_keep S0_26 Kq28 all0
      have bd28_c28_h23_size : h23.size ≤ c28 := Nat.le_trans (Nat.le_trans (Nat.le_refl _) Kq26.1) fq0_28
      have bd28_c28_T26_heap_size : T26.heap.size ≤ c28 := Nat.le_trans (Nat.le_refl T26.heap.size) fq0_28
      have ne_z21_c28 : z21 ≠ c28 := Nat.ne_of_lt (Nat.lt_of_lt_of_le ((own_Str.keep str23 Kq26 all0)).lt fq0_28)
      have ne_c26_c28 : c26 ≠ c28 := Nat.ne_of_lt (Nat.lt_of_lt_of_le (str26).lt fq0_28)
      have ge_c28 : n0 ≤ c28 := Nat.le_trans Z26 fq0_28
      have sz_c28 : h0.size ≤ c28 := Nat.le_trans SZ26 fq0_28
      have str28 := fq1_28
      have fe28 := str28.exa
      have hk := Nat.le_trans hk Kq28.1
      refine own_step st28 ?_
      show own_Ends p e below F (T28.setTop (mkF m 125 A27 [(.ref c28)]))
      obtain ⟨A29, hA29⟩ : ∃ z : Array Slot, z = #[.val (.long p1), .second, .val (.long p2), .second, .val (.long p3), .second, .val (.int p4), .val (.int p5), .val (.long p6), .second, .val (.int v2), .val (.int v4), .val (.int v6), .val (.int v8), .val (.int v10), .val (.int z12), .val (.ref a17), .val (.ref z21), .val (.ref c26), .val (.ref c28), .unset, .unset, .unset, .unset, .unset, .unset, .unset, .unset, .unset, .unset, .unset, .unset, .unset, .unset, .unset] := ⟨_, rfl⟩
      refine own_step (fun _ k => XS.astore X28.here hx rfl (hb hby at_125) rfl rfl (l' := A29) (by rw [hA27, hA29]; exact rfl) k) ?_
      show own_Ends p e below F (T28.setTop (mkF m 127 A29 []))
      refine own_step (fun _ k => XS.iload X28.here hx rfl (hb hby at_127) (by rw [hA29]; rfl) k) ?_
      show own_Ends p e below F (T28.setTop (mkF m 129 A29 [(.int v6)]))
      obtain ⟨_, _, ⟨T30, L30, k30, n30⟩, -, X30, ⟨Lc30, hQ30, l30, y30, z30⟩, st30⟩ := Jvm.LawKit.callS X28 hx (y := (⟨"java/lang/String", "valueOf", "(C)Ljava/lang/String;"⟩ : MethodName)) hown (mvT hZ (own_g hw 2 rfl)) (mvT hZ (own_g hw 3 rfl)) (mvT hZ (own_g hw 4 rfl)) (mvT hZ (own_g hw 5 rfl)) (by decide) (backOf (W := 0) (rm1 l Z a0 hw [] v6 zc T28.heap n0 Z28 S0_28 hz ch12) hZ (own_g hw 5 rfl) (own_g hw 4 rfl) (by decide) (by decide)) (g := (mkF m 129 A29 [(.int v6)])) rfl (by rw [hml]; show A29.size = _; rw [hA29]; rfl) (argsL := [(.int v6)]) (rest := []) (lenOf pd__28C_29Ljava_2flang_2fString_3b rfl) rfl (by show 2 * 0 + _ ≤ _; exact Nat.le_of_eq rfl) (hb hby at_129) (fun _ _ => ⟨rfl, rfl, (by decide : 7 + 2 ≤ _), (by decide : 18 + 5 ≤ _)⟩)
      dsimp only [Pt.U, Pt.locs, Pt.cells, Pt.slots] at X30 l30 y30 z30 st30 hQ30
      subst l30 y30 z30
      obtain ⟨c30, rfl, Nq30, Kq30, fq0_30, fq1_30⟩ := hQ30
      have N30 := Fr.app N28 Nq30
      have Z30 : n0 ≤ T30.heap.size := Nat.le_trans Z28 Kq30.1
      have SZ30 : h0.size ≤ T30.heap.size := Nat.le_trans SZ28 Kq30.1
      have S0_30 := own_Sta_keep S0_28 Kq30 all0
      have bd30_c30_h23_size : h23.size ≤ c30 := Nat.le_trans (Nat.le_trans (Nat.le_trans (Nat.le_refl _) Kq26.1) Kq28.1) fq0_30
      have bd30_c30_T26_heap_size : T26.heap.size ≤ c30 := Nat.le_trans (Nat.le_trans (Nat.le_refl T26.heap.size) Kq28.1) fq0_30
      have bd30_c30_T28_heap_size : T28.heap.size ≤ c30 := Nat.le_trans (Nat.le_refl T28.heap.size) fq0_30
      have ne_z21_c30 : z21 ≠ c30 := Nat.ne_of_lt (Nat.lt_of_lt_of_le ((own_Str.keep (own_Str.keep str23 Kq26 all0) Kq28 all0)).lt fq0_30)
      have ne_c26_c30 : c26 ≠ c30 := Nat.ne_of_lt (Nat.lt_of_lt_of_le ((own_Str.keep str26 Kq28 all0)).lt fq0_30)
      have ne_c28_c30 : c28 ≠ c30 := Nat.ne_of_lt (Nat.lt_of_lt_of_le (str28).lt fq0_30)
      have ge_c30 : n0 ≤ c30 := Nat.le_trans Z28 fq0_30
      have sz_c30 : h0.size ≤ c30 := Nat.le_trans SZ28 fq0_30
      have str30 := fq1_30
      have fe30 := str30.exa
      have hk := Nat.le_trans hk Kq30.1
      refine own_step st30 ?_
      show own_Ends p e below F (T30.setTop (mkF m 132 A29 [(.ref c30)]))
      obtain ⟨A31, hA31⟩ : ∃ z : Array Slot, z = #[.val (.long p1), .second, .val (.long p2), .second, .val (.long p3), .second, .val (.int p4), .val (.int p5), .val (.long p6), .second, .val (.int v2), .val (.int v4), .val (.int v6), .val (.int v8), .val (.int v10), .val (.int z12), .val (.ref a17), .val (.ref z21), .val (.ref c26), .val (.ref c28), .val (.ref c30), .unset, .unset, .unset, .unset, .unset, .unset, .unset, .unset, .unset, .unset, .unset, .unset, .unset, .unset] := ⟨_, rfl⟩
      refine own_step (fun _ k => XS.astore X30.here hx rfl (hb hby at_132) rfl rfl (l' := A31) (by rw [hA29, hA31]; exact rfl) k) ?_
      show own_Ends p e below F (T30.setTop (mkF m 134 A31 []))
      refine own_step (fun _ k => XS.iload X30.here hx rfl (hb hby at_134) (by rw [hA31]; rfl) k) ?_
      show own_Ends p e below F (T30.setTop (mkF m 136 A31 [(.int v2)]))
      obtain ⟨_, _, ⟨T32, L32, k32, n32⟩, -, X32, ⟨Lc32, hQ32, l32, y32, z32⟩, st32⟩ := Jvm.LawKit.callS X30 hx (y := (⟨"java/lang/String", "valueOf", "(C)Ljava/lang/String;"⟩ : MethodName)) hown (mvT hZ (own_g hw 2 rfl)) (mvT hZ (own_g hw 3 rfl)) (mvT hZ (own_g hw 4 rfl)) (mvT hZ (own_g hw 5 rfl)) (by decide) (backOf (W := 0) (rm1 l Z a0 hw [] v2 zc T30.heap n0 Z30 S0_30 hz ch10) hZ (own_g hw 5 rfl) (own_g hw 4 rfl) (by decide) (by decide)) (g := (mkF m 136 A31 [(.int v2)])) rfl (by rw [hml]; show A31.size = _; rw [hA31]; rfl) (argsL := [(.int v2)]) (rest := []) (lenOf pd__28C_29Ljava_2flang_2fString_3b rfl) rfl (by show 2 * 0 + _ ≤ _; exact Nat.le_of_eq rfl) (hb hby at_136) (fun _ _ => ⟨rfl, rfl, (by decide : 9 + 2 ≤ _), (by decide : 23 + 5 ≤ _)⟩)
      dsimp only [Pt.U, Pt.locs, Pt.cells, Pt.slots] at X32 l32 y32 z32 st32 hQ32
      subst l32 y32 z32
      obtain ⟨c32, rfl, Nq32, Kq32, fq0_32, fq1_32⟩ := hQ32
      have N32 := Fr.app N30 Nq32
      have Z32 : n0 ≤ T32.heap.size := Nat.le_trans Z30 Kq32.1
      have SZ32 : h0.size ≤ T32.heap.size := Nat.le_trans SZ30 Kq32.1
      have S0_32 := own_Sta_keep S0_30 Kq32 all0
      have bd32_c32_h23_size : h23.size ≤ c32 := Nat.le_trans (Nat.le_trans (Nat.le_trans (Nat.le_trans (Nat.le_refl _) Kq26.1) Kq28.1) Kq30.1) fq0_32
      have bd32_c32_T26_heap_size : T26.heap.size ≤ c32 := Nat.le_trans (Nat.le_trans (Nat.le_trans (Nat.le_refl T26.heap.size) Kq28.1) Kq30.1) fq0_32
      have bd32_c32_T28_heap_size : T28.heap.size ≤ c32 := Nat.le_trans (Nat.le_trans (Nat.le_refl T28.heap.size) Kq30.1) fq0_32
      have bd32_c32_T30_heap_size : T30.heap.size ≤ c32 := Nat.le_trans (Nat.le_refl T30.heap.size) fq0_32
      have ne_z21_c32 : z21 ≠ c32 := Nat.ne_of_lt (Nat.lt_of_lt_of_le ((own_Str.keep (own_Str.keep (own_Str.keep str23 Kq26 all0) Kq28 all0) Kq30 all0)).lt fq0_32)
      have ne_c26_c32 : c26 ≠ c32 := Nat.ne_of_lt (Nat.lt_of_lt_of_le ((own_Str.keep (own_Str.keep str26 Kq28 all0) Kq30 all0)).lt fq0_32)
      have ne_c28_c32 : c28 ≠ c32 := Nat.ne_of_lt (Nat.lt_of_lt_of_le ((own_Str.keep str28 Kq30 all0)).lt fq0_32)
      have ne_c30_c32 : c30 ≠ c32 := Nat.ne_of_lt (Nat.lt_of_lt_of_le (str30).lt fq0_32)
      have ge_c32 : n0 ≤ c32 := Nat.le_trans Z30 fq0_32
      have sz_c32 : h0.size ≤ c32 := Nat.le_trans SZ30 fq0_32
      have str32 := fq1_32
      have fe32 := str32.exa
      have hk := Nat.le_trans hk Kq32.1
      refine own_step st32 ?_
      show own_Ends p e below F (T32.setTop (mkF m 139 A31 [(.ref c32)]))
      obtain ⟨A33, hA33⟩ : ∃ z : Array Slot, z = #[.val (.long p1), .second, .val (.long p2), .second, .val (.long p3), .second, .val (.int p4), .val (.int p5), .val (.long p6), .second, .val (.int v2), .val (.int v4), .val (.int v6), .val (.int v8), .val (.int v10), .val (.int z12), .val (.ref a17), .val (.ref z21), .val (.ref c26), .val (.ref c28), .val (.ref c30), .val (.ref c32), .unset, .unset, .unset, .unset, .unset, .unset, .unset, .unset, .unset, .unset, .unset, .unset, .unset] := ⟨_, rfl⟩
      refine own_step (fun _ k => XS.astore X32.here hx rfl (hb hby at_139) rfl rfl (l' := A33) (by rw [hA31, hA33]; exact rfl) k) ?_
      show own_Ends p e below F (T32.setTop (mkF m 141 A33 []))
      refine own_step (fun _ k => XS.iload X32.here hx rfl (hb hby at_141) (by rw [hA33]; rfl) k) ?_
      show own_Ends p e below F (T32.setTop (mkF m 143 A33 [(.int v4)]))
      obtain ⟨_, _, ⟨T34, L34, k34, n34⟩, -, X34, ⟨Lc34, hQ34, l34, y34, z34⟩, st34⟩ := Jvm.LawKit.callS X32 hx (y := (⟨"java/lang/String", "valueOf", "(C)Ljava/lang/String;"⟩ : MethodName)) hown (mvT hZ (own_g hw 2 rfl)) (mvT hZ (own_g hw 3 rfl)) (mvT hZ (own_g hw 4 rfl)) (mvT hZ (own_g hw 5 rfl)) (by decide) (backOf (W := 0) (rm1 l Z a0 hw [] v4 zc T32.heap n0 Z32 S0_32 hz ch11) hZ (own_g hw 5 rfl) (own_g hw 4 rfl) (by decide) (by decide)) (g := (mkF m 143 A33 [(.int v4)])) rfl (by rw [hml]; show A33.size = _; rw [hA33]; rfl) (argsL := [(.int v4)]) (rest := []) (lenOf pd__28C_29Ljava_2flang_2fString_3b rfl) rfl (by show 2 * 0 + _ ≤ _; exact Nat.le_of_eq rfl) (hb hby at_143) (fun _ _ => ⟨rfl, rfl, (by decide : 11 + 2 ≤ _), (by decide : 28 + 5 ≤ _)⟩)
      dsimp only [Pt.U, Pt.locs, Pt.cells, Pt.slots] at X34 l34 y34 z34 st34 hQ34
      subst l34 y34 z34
      obtain ⟨c34, rfl, Nq34, Kq34, fq0_34, fq1_34⟩ := hQ34
      have N34 := Fr.app N32 Nq34
      have Z34 : n0 ≤ T34.heap.size := Nat.le_trans Z32 Kq34.1
      have SZ34 : h0.size ≤ T34.heap.size := Nat.le_trans SZ32 Kq34.1
      have S0_34 := own_Sta_keep S0_32 Kq34 all0
      have bd34_c34_h23_size : h23.size ≤ c34 := Nat.le_trans (Nat.le_trans (Nat.le_trans (Nat.le_trans (Nat.le_trans (Nat.le_refl _) Kq26.1) Kq28.1) Kq30.1) Kq32.1) fq0_34
      have bd34_c34_T26_heap_size : T26.heap.size ≤ c34 := Nat.le_trans (Nat.le_trans (Nat.le_trans (Nat.le_trans (Nat.le_refl T26.heap.size) Kq28.1) Kq30.1) Kq32.1) fq0_34
      have bd34_c34_T28_heap_size : T28.heap.size ≤ c34 := Nat.le_trans (Nat.le_trans (Nat.le_trans (Nat.le_refl T28.heap.size) Kq30.1) Kq32.1) fq0_34
      have bd34_c34_T30_heap_size : T30.heap.size ≤ c34 := Nat.le_trans (Nat.le_trans (Nat.le_refl T30.heap.size) Kq32.1) fq0_34
      have bd34_c34_T32_heap_size : T32.heap.size ≤ c34 := Nat.le_trans (Nat.le_refl T32.heap.size) fq0_34
      have ne_z21_c34 : z21 ≠ c34 := Nat.ne_of_lt (Nat.lt_of_lt_of_le ((own_Str.keep (own_Str.keep (own_Str.keep (own_Str.keep str23 Kq26 all0) Kq28 all0) Kq30 all0) Kq32 all0)).lt fq0_34)
      have ne_c26_c34 : c26 ≠ c34 := Nat.ne_of_lt (Nat.lt_of_lt_of_le ((own_Str.keep (own_Str.keep (own_Str.keep str26 Kq28 all0) Kq30 all0) Kq32 all0)).lt fq0_34)
      have ne_c28_c34 : c28 ≠ c34 := Nat.ne_of_lt (Nat.lt_of_lt_of_le ((own_Str.keep (own_Str.keep str28 Kq30 all0) Kq32 all0)).lt fq0_34)
      have ne_c30_c34 : c30 ≠ c34 := Nat.ne_of_lt (Nat.lt_of_lt_of_le ((own_Str.keep str30 Kq32 all0)).lt fq0_34)
      have ne_c32_c34 : c32 ≠ c34 := Nat.ne_of_lt (Nat.lt_of_lt_of_le (str32).lt fq0_34)
      have ge_c34 : n0 ≤ c34 := Nat.le_trans Z32 fq0_34
      have sz_c34 : h0.size ≤ c34 := Nat.le_trans SZ32 fq0_34
      have str34 := fq1_34
      have fe34 := str34.exa
      have hk := Nat.le_trans hk Kq34.1
      refine own_step st34 ?_
      show own_Ends p e below F (T34.setTop (mkF m 146 A33 [(.ref c34)]))
      obtain ⟨A35, hA35⟩ : ∃ z : Array Slot, z = #[.val (.long p1), .second, .val (.long p2), .second, .val (.long p3), .second, .val (.int p4), .val (.int p5), .val (.long p6), .second, .val (.int v2), .val (.int v4), .val (.int v6), .val (.int v8), .val (.int v10), .val (.int z12), .val (.ref a17), .val (.ref z21), .val (.ref c26), .val (.ref c28), .val (.ref c30), .val (.ref c32), .val (.ref c34), .unset, .unset, .unset, .unset, .unset, .unset, .unset, .unset, .unset, .unset, .unset, .unset] := ⟨_, rfl⟩
      refine own_step (fun _ k => XS.astore X34.here hx rfl (hb hby at_146) rfl rfl (l' := A35) (by rw [hA33, hA35]; exact rfl) k) ?_
      show own_Ends p e below F (T34.setTop (mkF m 148 A35 []))
      refine own_step (fun _ k => XS.iload X34.here hx rfl (hb hby at_148) (by rw [hA35]; rfl) k) ?_
      show own_Ends p e below F (T34.setTop (mkF m 150 A35 [(.int v6)]))
      obtain ⟨_, _, ⟨T36, L36, k36, n36⟩, -, X36, ⟨Lc36, hQ36, l36, y36, z36⟩, st36⟩ := Jvm.LawKit.callS X34 hx (y := (⟨"java/lang/String", "valueOf", "(C)Ljava/lang/String;"⟩ : MethodName)) hown (mvT hZ (own_g hw 2 rfl)) (mvT hZ (own_g hw 3 rfl)) (mvT hZ (own_g hw 4 rfl)) (mvT hZ (own_g hw 5 rfl)) (by decide) (backOf (W := 0) (rm1 l Z a0 hw [] v6 zc T34.heap n0 Z34 S0_34 hz ch12) hZ (own_g hw 5 rfl) (own_g hw 4 rfl) (by decide) (by decide)) (g := (mkF m 150 A35 [(.int v6)])) rfl (by rw [hml]; show A35.size = _; rw [hA35]; rfl) (argsL := [(.int v6)]) (rest := []) (lenOf pd__28C_29Ljava_2flang_2fString_3b rfl) rfl (by show 2 * 0 + _ ≤ _; exact Nat.le_of_eq rfl) (hb hby at_150) (fun _ _ => ⟨rfl, rfl, (by decide : 13 + 2 ≤ _), (by decide : 33 + 5 ≤ _)⟩)
      dsimp only [Pt.U, Pt.locs, Pt.cells, Pt.slots] at X36 l36 y36 z36 st36 hQ36
      subst l36 y36 z36
      obtain ⟨c36, rfl, Nq36, Kq36, fq0_36, fq1_36⟩ := hQ36
      have N36 := Fr.app N34 Nq36
      have Z36 : n0 ≤ T36.heap.size := Nat.le_trans Z34 Kq36.1
      have SZ36 : h0.size ≤ T36.heap.size := Nat.le_trans SZ34 Kq36.1
      have S0_36 := own_Sta_keep S0_34 Kq36 all0
      have bd36_c36_h23_size : h23.size ≤ c36 := Nat.le_trans (Nat.le_trans (Nat.le_trans (Nat.le_trans (Nat.le_trans (Nat.le_trans (Nat.le_refl _) Kq26.1) Kq28.1) Kq30.1) Kq32.1) Kq34.1) fq0_36
      have bd36_c36_T26_heap_size : T26.heap.size ≤ c36 := Nat.le_trans (Nat.le_trans (Nat.le_trans (Nat.le_trans (Nat.le_trans (Nat.le_refl T26.heap.size) Kq28.1) Kq30.1) Kq32.1) Kq34.1) fq0_36
      have bd36_c36_T28_heap_size : T28.heap.size ≤ c36 := Nat.le_trans (Nat.le_trans (Nat.le_trans (Nat.le_trans (Nat.le_refl T28.heap.size) Kq30.1) Kq32.1) Kq34.1) fq0_36
      have bd36_c36_T30_heap_size : T30.heap.size ≤ c36 := Nat.le_trans (Nat.le_trans (Nat.le_trans (Nat.le_refl T30.heap.size) Kq32.1) Kq34.1) fq0_36
      have bd36_c36_T32_heap_size : T32.heap.size ≤ c36 := Nat.le_trans (Nat.le_trans (Nat.le_refl T32.heap.size) Kq34.1) fq0_36
      have bd36_c36_T34_heap_size : T34.heap.size ≤ c36 := Nat.le_trans (Nat.le_refl T34.heap.size) fq0_36
      have ne_z21_c36 : z21 ≠ c36 := Nat.ne_of_lt (Nat.lt_of_lt_of_le ((own_Str.keep (own_Str.keep (own_Str.keep (own_Str.keep (own_Str.keep str23 Kq26 all0) Kq28 all0) Kq30 all0) Kq32 all0) Kq34 all0)).lt fq0_36)
      have ne_c26_c36 : c26 ≠ c36 := Nat.ne_of_lt (Nat.lt_of_lt_of_le ((own_Str.keep (own_Str.keep (own_Str.keep (own_Str.keep str26 Kq28 all0) Kq30 all0) Kq32 all0) Kq34 all0)).lt fq0_36)
      have ne_c28_c36 : c28 ≠ c36 := Nat.ne_of_lt (Nat.lt_of_lt_of_le ((own_Str.keep (own_Str.keep (own_Str.keep str28 Kq30 all0) Kq32 all0) Kq34 all0)).lt fq0_36)
      have ne_c30_c36 : c30 ≠ c36 := Nat.ne_of_lt (Nat.lt_of_lt_of_le ((own_Str.keep (own_Str.keep str30 Kq32 all0) Kq34 all0)).lt fq0_36)
      have ne_c32_c36 : c32 ≠ c36 := Nat.ne_of_lt (Nat.lt_of_lt_of_le ((own_Str.keep str32 Kq34 all0)).lt fq0_36)
      have ne_c34_c36 : c34 ≠ c36 := Nat.ne_of_lt (Nat.lt_of_lt_of_le (str34).lt fq0_36)
      have ge_c36 : n0 ≤ c36 := Nat.le_trans Z34 fq0_36
      have sz_c36 : h0.size ≤ c36 := Nat.le_trans SZ34 fq0_36
      have str36 := fq1_36
      have fe36 := str36.exa
      have hk := Nat.le_trans hk Kq36.1
      refine own_step st36 ?_
      show own_Ends p e below F (T36.setTop (mkF m 153 A35 [(.ref c36)]))
      obtain ⟨A37, hA37⟩ : ∃ z : Array Slot, z = #[.val (.long p1), .second, .val (.long p2), .second, .val (.long p3), .second, .val (.int p4), .val (.int p5), .val (.long p6), .second, .val (.int v2), .val (.int v4), .val (.int v6), .val (.int v8), .val (.int v10), .val (.int z12), .val (.ref a17), .val (.ref z21), .val (.ref c26), .val (.ref c28), .val (.ref c30), .val (.ref c32), .val (.ref c34), .val (.ref c36), .unset, .unset, .unset, .unset, .unset, .unset, .unset, .unset, .unset, .unset, .unset] := ⟨_, rfl⟩
      refine own_step (fun _ k => XS.astore X36.here hx rfl (hb hby at_153) rfl rfl (l' := A37) (by rw [hA35, hA37]; exact rfl) k) ?_
      show own_Ends p e below F (T36.setTop (mkF m 155 A37 []))
      refine own_step (fun _ k => XS.lloadN X36.here hx rfl (hb hby at_155) (by rw [hA37]; rfl) k) ?_
      show own_Ends p e below F (T36.setTop (mkF m 156 A37 [(.long p1)]))
      obtain ⟨A38, hA38⟩ : ∃ z : Array Slot, z = #[.val (.long p1), .second, .val (.long p2), .second, .val (.long p3), .second, .val (.int p4), .val (.int p5), .val (.long p6), .second, .val (.int v2), .val (.int v4), .val (.int v6), .val (.int v8), .val (.int v10), .val (.int z12), .val (.ref a17), .val (.ref z21), .val (.ref c26), .val (.ref c28), .val (.ref c30), .val (.ref c32), .val (.ref c34), .val (.ref c36), .val (.long p1), .second, .unset, .unset, .unset, .unset, .unset, .unset, .unset, .unset, .unset] := ⟨_, rfl⟩
      refine own_step (fun _ k => XS.lstore X36.here hx rfl (hb hby at_156) rfl (l' := A38) (by rw [hA37, hA38]; exact rfl) k) ?_
      show own_Ends p e below F (T36.setTop (mkF m 158 A38 []))
      refine own_step (fun _ k => XS.lloadN X36.here hx rfl (hb hby at_158) (by rw [hA38]; rfl) k) ?_
      show own_Ends p e below F (T36.setTop (mkF m 159 A38 [(.long p2)]))
      obtain ⟨A39, hA39⟩ : ∃ z : Array Slot, z = #[.val (.long p1), .second, .val (.long p2), .second, .val (.long p3), .second, .val (.int p4), .val (.int p5), .val (.long p6), .second, .val (.int v2), .val (.int v4), .val (.int v6), .val (.int v8), .val (.int v10), .val (.int z12), .val (.ref a17), .val (.ref z21), .val (.ref c26), .val (.ref c28), .val (.ref c30), .val (.ref c32), .val (.ref c34), .val (.ref c36), .val (.long p1), .second, .val (.long p2), .second, .unset, .unset, .unset, .unset, .unset, .unset, .unset] := ⟨_, rfl⟩
      refine own_step (fun _ k => XS.lstore X36.here hx rfl (hb hby at_159) rfl (l' := A39) (by rw [hA38, hA39]; exact rfl) k) ?_
      show own_Ends p e below F (T36.setTop (mkF m 161 A39 []))
      refine own_step (fun _ k => XS.lload X36.here hx rfl (hb hby at_161) (by rw [hA39]; rfl) k) ?_
      show own_Ends p e below F (T36.setTop (mkF m 163 A39 [(.long p3)]))
      obtain ⟨A40, hA40⟩ : ∃ z : Array Slot, z = #[.val (.long p1), .second, .val (.long p2), .second, .val (.long p3), .second, .val (.int p4), .val (.int p5), .val (.long p6), .second, .val (.int v2), .val (.int v4), .val (.int v6), .val (.int v8), .val (.int v10), .val (.int z12), .val (.ref a17), .val (.ref z21), .val (.ref c26), .val (.ref c28), .val (.ref c30), .val (.ref c32), .val (.ref c34), .val (.ref c36), .val (.long p1), .second, .val (.long p2), .second, .val (.long p3), .second, .unset, .unset, .unset, .unset, .unset] := ⟨_, rfl⟩
      refine own_step (fun _ k => XS.lstore X36.here hx rfl (hb hby at_163) rfl (l' := A40) (by rw [hA39, hA40]; exact rfl) k) ?_
      show own_Ends p e below F (T36.setTop (mkF m 165 A40 []))
      refine own_step (fun _ k => XS.iload X36.here hx rfl (hb hby at_165) (by rw [hA40]; rfl) k) ?_
      show own_Ends p e below F (T36.setTop (mkF m 167 A40 [(.int p4)]))
      obtain ⟨A41, hA41⟩ : ∃ z : Array Slot, z = #[.val (.long p1), .second, .val (.long p2), .second, .val (.long p3), .second, .val (.int p4), .val (.int p5), .val (.long p6), .second, .val (.int v2), .val (.int v4), .val (.int v6), .val (.int v8), .val (.int v10), .val (.int z12), .val (.ref a17), .val (.ref z21), .val (.ref c26), .val (.ref c28), .val (.ref c30), .val (.ref c32), .val (.ref c34), .val (.ref c36), .val (.long p1), .second, .val (.long p2), .second, .val (.long p3), .second, .val (.int p4), .unset, .unset, .unset, .unset] := ⟨_, rfl⟩
      refine own_step (fun _ k => XS.istore X36.here hx rfl (hb hby at_167) rfl (l' := A41) (by rw [hA40, hA41]; exact rfl) k) ?_
      show own_Ends p e below F (T36.setTop (mkF m 169 A41 []))
      refine own_step (fun _ k => XS.iconst X36.here hx rfl (hb hby at_169) k) ?_
      show own_Ends p e below F (T36.setTop (mkF m 170 A41 [(.int (1 : Int32))]))
      obtain ⟨A42, hA42⟩ : ∃ z : Array Slot, z = #[.val (.long p1), .second, .val (.long p2), .second, .val (.long p3), .second, .val (.int p4), .val (.int p5), .val (.long p6), .second, .val (.int v2), .val (.int v4), .val (.int v6), .val (.int v8), .val (.int v10), .val (.int z12), .val (.ref a17), .val (.ref z21), .val (.ref c26), .val (.ref c28), .val (.ref c30), .val (.ref c32), .val (.ref c34), .val (.ref c36), .val (.long p1), .second, .val (.long p2), .second, .val (.long p3), .second, .val (.int p4), .val (.int (1 : Int32)), .unset, .unset, .unset] := ⟨_, rfl⟩
      refine own_step (fun _ k => XS.istore X36.here hx rfl (hb hby at_170) rfl (l' := A42) (by rw [hA41, hA42]; exact rfl) k) ?_
      show own_Ends p e below F (T36.setTop (mkF m 172 A42 []))
      refine own_step (fun _ k => XS.iload X36.here hx rfl (hb hby at_172) (by rw [hA42]; rfl) k) ?_
      show own_Ends p e below F (T36.setTop (mkF m 174 A42 [(.int v8)]))
      refine own_step (fun _ k => XS.iconst X36.here hx rfl (hb hby at_174) k) ?_
      show own_Ends p e below F (T36.setTop (mkF m 175 A42 [(.int (1 : Int32)), (.int v8)]))
      have J175_51 : ∀ (z43 : Addr) (z44 : Addr) (z45 : Addr) (z46 : Int64) (z47 : Int64) (z48 : Int64) (z49 : Int32) (z50 : Int32) (hz43 : z43 = (if v8 = (1 : Int32) then c32 else (if v8 = (2 : Int32) then c32 else (if v8 = (3 : Int32) then c32 else (if v8 = (4 : Int32) then c32 else (if v8 = (5 : Int32) then z21 else c32)))))) (hz44 : z44 = (if v8 = (1 : Int32) then c34 else (if v8 = (2 : Int32) then c34 else (if v8 = (3 : Int32) then c34 else (if v8 = (4 : Int32) then c34 else (if v8 = (5 : Int32) then c34 else (if v8 = (6 : Int32) then z21 else c34))))))) (hz45 : z45 = (if v8 = (1 : Int32) then c36 else (if v8 = (2 : Int32) then c36 else (if v8 = (3 : Int32) then c36 else (if v8 = (4 : Int32) then c36 else (if v8 = (5 : Int32) then c36 else (if v8 = (6 : Int32) then c36 else (if v8 = (7 : Int32) then z21 else c36)))))))) (hz46 : z46 = (if v8 = (1 : Int32) then p6 else p1)) (hz47 : z47 = (if v8 = (1 : Int32) then p2 else (if v8 = (2 : Int32) then p2 else (if v8 = (3 : Int32) then p6 else p2)))) (hz48 : z48 = (if v8 = (1 : Int32) then p3 else (if v8 = (2 : Int32) then p3 else (if v8 = (3 : Int32) then p3 else (if v8 = (4 : Int32) then p6 else p3))))) (hz49 : z49 = (if v8 = (1 : Int32) then p4 else (if v8 = (2 : Int32) then (p6.toInt32) else p4))) (hz50 : z50 = (if v8 = (1 : Int32) then (if p6 = p1 then (1 : Int32) else (0 : Int32)) else (if v8 = (2 : Int32) then (if (p6.toInt32) = p4 then (1 : Int32) else (0 : Int32)) else (if v8 = (3 : Int32) then (if p6 = p2 then (1 : Int32) else (0 : Int32)) else (if v8 = (4 : Int32) then (if p6 = p3 then (1 : Int32) else (0 : Int32)) else (if v8 = (5 : Int32) then (if z12 = (0 : Int32) then (if v10 = v2 then (1 : Int32) else (0 : Int32)) else (0 : Int32)) else (if v8 = (6 : Int32) then (if z12 = (0 : Int32) then (if v10 = v4 then (1 : Int32) else (0 : Int32)) else (0 : Int32)) else (if v8 = (7 : Int32) then (if z12 = (0 : Int32) then (if v10 = v6 then (1 : Int32) else (0 : Int32)) else (0 : Int32)) else (1 : Int32))))))))), own_Ends p e below F (T36.setTop (mkF m 378 #[.val (.long p1), .second, .val (.long p2), .second, .val (.long p3), .second, .val (.int p4), .val (.int p5), .val (.long p6), .second, .val (.int v2), .val (.int v4), .val (.int v6), .val (.int v8), .val (.int v10), .val (.int z12), .val (.ref a17), .val (.ref z21), .val (.ref c26), .val (.ref c28), .val (.ref c30), .val (.ref z43), .val (.ref z44), .val (.ref z45), .val (.long z46), .second, .val (.long z47), .second, .val (.long z48), .second, .val (.int z49), .val (.int z50), .unset, .unset, .unset] [])) := by
        intro z43 z44 z45 z46 z47 z48 z49 z50 hz43 hz44 hz45 hz46 hz47 hz48 hz49 hz50
        obtain ⟨A53, hA53⟩ : ∃ z : Array Slot, z = #[.val (.long p1), .second, .val (.long p2), .second, .val (.long p3), .second, .val (.int p4), .val (.int p5), .val (.long p6), .second, .val (.int v2), .val (.int v4), .val (.int v6), .val (.int v8), .val (.int v10), .val (.int z12), .val (.ref a17), .val (.ref z21), .val (.ref c26), .val (.ref c28), .val (.ref c30), .val (.ref z43), .val (.ref z44), .val (.ref z45), .val (.long z46), .second, .val (.long z47), .second, .val (.long z48), .second, .val (.int z49), .val (.int z50), .unset, .unset, .unset] := ⟨_, rfl⟩
        rw [← hA53]
        show own_Ends p e below F (T36.setTop (mkF m 378 A53 []))
        obtain ⟨k21, ek21⟩ : ∃ c : List Int32, c = if v8 = (5 : Int32) then own_alt z12 v10 else [v2] := ⟨_, rfl⟩
        have Tk21 : own_Str Z T36.heap T36.heap.size z43 k21 := own_sel5 ek21 hz43 ((own_Str.keep (own_Str.keep (own_Str.keep (own_Str.keep (own_Str.keep (own_Str.keep str23 Kq26 all0) Kq28 all0) Kq30 all0) Kq32 all0) Kq34 all0) Kq36 all0)).top ((own_Str.keep (own_Str.keep str32 Kq34 all0) Kq36 all0)).top
        obtain ⟨k22, ek22⟩ : ∃ c : List Int32, c = if v8 = (6 : Int32) then own_alt z12 v10 else [v4] := ⟨_, rfl⟩
        have Tk22 : own_Str Z T36.heap T36.heap.size z44 k22 := own_sel6 ek22 hz44 ((own_Str.keep (own_Str.keep (own_Str.keep (own_Str.keep (own_Str.keep (own_Str.keep str23 Kq26 all0) Kq28 all0) Kq30 all0) Kq32 all0) Kq34 all0) Kq36 all0)).top ((own_Str.keep str34 Kq36 all0)).top
        obtain ⟨k23, ek23⟩ : ∃ c : List Int32, c = if v8 = (7 : Int32) then own_alt z12 v10 else [v6] := ⟨_, rfl⟩
        have Tk23 : own_Str Z T36.heap T36.heap.size z45 k23 := own_sel7 ek23 hz45 ((own_Str.keep (own_Str.keep (own_Str.keep (own_Str.keep (own_Str.keep (own_Str.keep str23 Kq26 all0) Kq28 all0) Kq30 all0) Kq32 all0) Kq34 all0) Kq36 all0)).top (str36).top
        obtain ⟨T54, h54, X54, e54, E54, A54, D54, -, st54⟩ := newO X36 hx hZ hown (own_g hw 28 rfl) (own_g hw 29 rfl) (own_g hw 30 rfl) rfl (g := (mkF m 378 A53 [])) rfl (hb hby at_378) (by decide) (by decide)
        obtain ⟨a54, g54⟩ : ∃ z, z = T36.heap.size := ⟨_, rfl⟩
        rw [← g54] at A54 D54 st54
        have ge_a54 : n0 ≤ a54 := Nat.le_trans Z36 (Nat.le_of_eq g54.symm)
        have sz_a54 : h0.size ≤ a54 := Nat.le_trans SZ36 (Nat.le_of_eq g54.symm)
        have ne_z21_a54 : z21 ≠ a54 := Nat.ne_of_lt (by rw [g54]; exact (own_Str.keep (own_Str.keep (own_Str.keep (own_Str.keep (own_Str.keep (own_Str.keep str23 Kq26 all0) Kq28 all0) Kq30 all0) Kq32 all0) Kq34 all0) Kq36 all0).lt)
        have ne_c26_a54 : c26 ≠ a54 := Nat.ne_of_lt (by rw [g54]; exact (own_Str.keep (own_Str.keep (own_Str.keep (own_Str.keep (own_Str.keep str26 Kq28 all0) Kq30 all0) Kq32 all0) Kq34 all0) Kq36 all0).lt)
        have ne_c28_a54 : c28 ≠ a54 := Nat.ne_of_lt (by rw [g54]; exact (own_Str.keep (own_Str.keep (own_Str.keep (own_Str.keep str28 Kq30 all0) Kq32 all0) Kq34 all0) Kq36 all0).lt)
        have ne_c30_a54 : c30 ≠ a54 := Nat.ne_of_lt (by rw [g54]; exact (own_Str.keep (own_Str.keep (own_Str.keep str30 Kq32 all0) Kq34 all0) Kq36 all0).lt)
        have ne_c32_a54 : c32 ≠ a54 := Nat.ne_of_lt (by rw [g54]; exact (own_Str.keep (own_Str.keep str32 Kq34 all0) Kq36 all0).lt)
        have ne_c34_a54 : c34 ≠ a54 := Nat.ne_of_lt (by rw [g54]; exact (own_Str.keep str34 Kq36 all0).lt)
        have ne_c36_a54 : c36 ≠ a54 := Nat.ne_of_lt (by rw [g54]; exact str36.lt)
        have ne_z43_a54 : z43 ≠ a54 := Nat.ne_of_lt (by rw [g54]; exact Tk21.lt)
        have ne_z44_a54 : z44 ≠ a54 := Nat.ne_of_lt (by rw [g54]; exact Tk22.lt)
        have ne_z45_a54 : z45 ≠ a54 := Nat.ne_of_lt (by rw [g54]; exact Tk23.lt)
        have bd54_h23_size : h23.size ≤ a54 := by rw [g54]; exact (Nat.le_trans (Nat.le_trans (Nat.le_trans (Nat.le_trans (Nat.le_trans (Nat.le_trans (Nat.le_refl _) Kq26.1) Kq28.1) Kq30.1) Kq32.1) Kq34.1) Kq36.1)
        have bd54_T26_heap_size : T26.heap.size ≤ a54 := by rw [g54]; exact (Nat.le_trans (Nat.le_trans (Nat.le_trans (Nat.le_trans (Nat.le_trans (Nat.le_refl T26.heap.size) Kq28.1) Kq30.1) Kq32.1) Kq34.1) Kq36.1)
        have bd54_T28_heap_size : T28.heap.size ≤ a54 := by rw [g54]; exact (Nat.le_trans (Nat.le_trans (Nat.le_trans (Nat.le_trans (Nat.le_refl T28.heap.size) Kq30.1) Kq32.1) Kq34.1) Kq36.1)
        have bd54_T30_heap_size : T30.heap.size ≤ a54 := by rw [g54]; exact (Nat.le_trans (Nat.le_trans (Nat.le_trans (Nat.le_refl T30.heap.size) Kq32.1) Kq34.1) Kq36.1)
        have bd54_T32_heap_size : T32.heap.size ≤ a54 := by rw [g54]; exact (Nat.le_trans (Nat.le_trans (Nat.le_refl T32.heap.size) Kq34.1) Kq36.1)
        have bd54_T34_heap_size : T34.heap.size ≤ a54 := by rw [g54]; exact (Nat.le_trans (Nat.le_refl T34.heap.size) Kq36.1)
        have bd54_T36_heap_size : T36.heap.size ≤ a54 := by rw [g54]; exact (Nat.le_refl _)
        have Z54 : n0 ≤ h54.size := Nat.le_trans Z36 E54.1
        have SZ54 : h0.size ≤ h54.size := Nat.le_trans SZ36 E54.1
        have hk := Nat.le_trans hk E54.1
        have F54_queue : Fld Z h54 a54 "com/example/clock3600/clock3600/queue/StoredTask" "queue" "Ljava/lang/String;" .null := D54 (Or.inr (own_g hw 44 rfl)) (ty := (.object "java/lang/String")) (by decide)
        have F54_id : Fld Z h54 a54 "com/example/clock3600/clock3600/queue/StoredTask" "id" "Ljava/lang/String;" .null := D54 (Or.inr (own_g hw 47 rfl)) (ty := (.object "java/lang/String")) (by decide)
        have F54_dueAtMillis : Fld Z h54 a54 "com/example/clock3600/clock3600/queue/StoredTask" "dueAtMillis" "J" (.long (0 : Int64)) := D54 (Or.inr (own_g hw 49 rfl)) (ty := .long) (by decide)
        have F54_payload : Fld Z h54 a54 "com/example/clock3600/clock3600/queue/StoredTask" "payload" "Ljava/lang/String;" .null := D54 (Or.inr (own_g hw 52 rfl)) (ty := (.object "java/lang/String")) (by decide)
        have F54_attempts : Fld Z h54 a54 "com/example/clock3600/clock3600/queue/StoredTask" "attempts" "I" (.int (0 : Int32)) := D54 (Or.inr (own_g hw 54 rfl)) (ty := .int) (by decide)
        have F54_leaseEndMillis : Fld Z h54 a54 "com/example/clock3600/clock3600/queue/StoredTask" "leaseEndMillis" "J" (.long (0 : Int64)) := D54 (Or.inr (own_g hw 56 rfl)) (ty := .long) (by decide)
        have F54_order : Fld Z h54 a54 "com/example/clock3600/clock3600/queue/StoredTask" "order" "J" (.long (0 : Int64)) := D54 (Or.inr (own_g hw 58 rfl)) (ty := .long) (by decide)
        refine own_step st54 ?_
        show own_Ends p e below F (T54.setTop (mkF m 381 A53 [(.ref a54)]))
        refine own_step (fun _ k => XS.dup X54.here hx rfl (hb hby at_381) rfl rfl k) ?_
        show own_Ends p e below F (T54.setTop (mkF m 382 A53 [(.ref a54), (.ref a54)]))
        refine own_step (fun _ k => XS.aload X54.here hx rfl (hb hby at_382) (by rw [hA53]; rfl) rfl k) ?_
        show own_Ends p e below F (T54.setTop (mkF m 384 A53 [(.ref c26), (.ref a54), (.ref a54)]))
        refine own_step (fun _ k => XS.aload X54.here hx rfl (hb hby at_384) (by rw [hA53]; rfl) rfl k) ?_
        show own_Ends p e below F (T54.setTop (mkF m 386 A53 [(.ref c28), (.ref c26), (.ref a54), (.ref a54)]))
        refine own_step (fun _ k => XS.lloadN X54.here hx rfl (hb hby at_386) (by rw [hA53]; rfl) k) ?_
        show own_Ends p e below F (T54.setTop (mkF m 387 A53 [(.long p1), (.ref c28), (.ref c26), (.ref a54), (.ref a54)]))
        refine own_step (fun _ k => XS.aload X54.here hx rfl (hb hby at_387) (by rw [hA53]; rfl) rfl k) ?_
        show own_Ends p e below F (T54.setTop (mkF m 389 A53 [(.ref c30), (.long p1), (.ref c28), (.ref c26), (.ref a54), (.ref a54)]))
        refine own_step (fun _ k => XS.iload X54.here hx rfl (hb hby at_389) (by rw [hA53]; rfl) k) ?_
        show own_Ends p e below F (T54.setTop (mkF m 391 A53 [(.int p4), (.ref c30), (.long p1), (.ref c28), (.ref c26), (.ref a54), (.ref a54)]))
        refine own_step (fun _ k => XS.lloadN X54.here hx rfl (hb hby at_391) (by rw [hA53]; rfl) k) ?_
        show own_Ends p e below F (T54.setTop (mkF m 392 A53 [(.long p2), (.int p4), (.ref c30), (.long p1), (.ref c28), (.ref c26), (.ref a54), (.ref a54)]))
        refine own_step (fun _ k => XS.lload X54.here hx rfl (hb hby at_392) (by rw [hA53]; rfl) k) ?_
        show own_Ends p e below F (T54.setTop (mkF m 394 A53 [(.long p3), (.long p2), (.int p4), (.ref c30), (.long p1), (.ref c28), (.ref c26), (.ref a54), (.ref a54)]))
        obtain ⟨_, _, ⟨T55, L55, k55, n55⟩, -, X55, hS55, gr55, ⟨Lc55, hQ55, l55, y55, z55⟩, st55⟩ := X54.specialBackS hx (y := (⟨"com/example/clock3600/clock3600/queue/StoredTask", "<init>", "(Ljava/lang/String;Ljava/lang/String;JLjava/lang/String;IJJ)V"⟩ : MethodName)) rfl hown (mvT hZ (own_g hw 31 rfl)) (mvT hZ (own_g hw 32 rfl)) (mvT hZ (own_g hw 33 rfl)) (by decide) (backOfS (W := 1) (rm6 l Z a0 hw [] a54 c26 c28 p1 c30 p4 p2 p3 h54 n0 Z54 A54 ge_a54 F54_queue F54_id F54_dueAtMillis F54_payload F54_attempts F54_leaseEndMillis F54_order ((((((fe26.keep Kq28).keep Kq30).keep Kq32).keep Kq34).keep Kq36).ext E54) (((((fe28.keep Kq30).keep Kq32).keep Kq34).keep Kq36).ext E54) ((((fe30.keep Kq32).keep Kq34).keep Kq36).ext E54)) hZ (own_g hw 33 rfl) (own_g hw 30 rfl) (by decide) (by decide)) (g := (mkF m 394 A53 [(.long p3), (.long p2), (.int p4), (.ref c30), (.long p1), (.ref c28), (.ref c26), (.ref a54), (.ref a54)])) rfl (by rw [hml]; show A53.size = _; rw [hA53]; rfl) (Steps.refl _) (a := a54) (argsL := [(.ref c26), (.ref c28), (.long p1), (.ref c30), (.int p4), (.long p2), (.long p3)]) (rest := [(.ref a54)]) (lenOf pd__28Ljava_2flang_2fString_3bLjava_2flang_2fString_3bJLjava_2flang_2fString_3bIJJ_29V rfl) rfl (by show 2 * 0 + _ ≤ _; exact Nat.le_of_eq rfl) (hb hby at_394) (fun _ _ => ⟨rfl, e54, (by decide : 16 + 6 ≤ _), (by decide : 45 + 68 ≤ _)⟩)
        dsimp only [Pt.U, Pt.locs, Pt.cells, Pt.slots] at X55 l55 y55 z55 st55 hQ55 hS55 gr55
        subst l55 y55 z55
        obtain ⟨rfl, Nq55, Kq55, fq0_55, fq1_55, fq2_55, fq3_55, fq4_55, fq5_55, fq6_55, fq7_55⟩ := hQ55
        have N55 := Fr.app N36 Nq55
        have Z55 : n0 ≤ T55.heap.size := Nat.le_trans Z54 Kq55.1
        have SZ55 : h0.size ≤ T55.heap.size := Nat.le_trans SZ54 Kq55.1
        have S0_55 := own_Sta_keep (Sta.ext E54 S0_36) Kq55 (allS (own_ns_exa A54) all0)
        have hZ := own_warm hZ hS55
        have hown := own_find hown hS55
        have hS := foldS hS (by rw [e54]; exact hk) hS55 gr55
        have hk := Nat.le_refl T55.heap.size
        refine own_trans st55 ?_
        show own_Ends p e below F (T55.setTop (mkF m 397 A53 [(.ref a54)]))
        obtain ⟨A56, hA56⟩ : ∃ z : Array Slot, z = #[.val (.long p1), .second, .val (.long p2), .second, .val (.long p3), .second, .val (.int p4), .val (.int p5), .val (.long p6), .second, .val (.int v2), .val (.int v4), .val (.int v6), .val (.int v8), .val (.int v10), .val (.int z12), .val (.ref a17), .val (.ref z21), .val (.ref c26), .val (.ref c28), .val (.ref c30), .val (.ref z43), .val (.ref z44), .val (.ref z45), .val (.long z46), .second, .val (.long z47), .second, .val (.long z48), .second, .val (.int z49), .val (.int z50), .val (.ref a54), .unset, .unset] := ⟨_, rfl⟩
        refine own_step (fun _ k => XS.astore X55.here hx rfl (hb hby at_397) rfl rfl (l' := A56) (by rw [hA53, hA56]; exact rfl) k) ?_
        show own_Ends p e below F (T55.setTop (mkF m 399 A56 []))
        obtain ⟨T57, h57, X57, e57, E57, A57, D57, -, st57⟩ := newO X55 hx hZ hown (own_g hw 28 rfl) (own_g hw 29 rfl) (own_g hw 30 rfl) rfl (g := (mkF m 399 A56 [])) rfl (hb hby at_399) (by decide) (by decide)
        obtain ⟨a57, g57⟩ : ∃ z, z = T55.heap.size := ⟨_, rfl⟩
        rw [← g57] at A57 D57 st57
        have ge_a57 : n0 ≤ a57 := Nat.le_trans Z55 (Nat.le_of_eq g57.symm)
        have sz_a57 : h0.size ≤ a57 := Nat.le_trans SZ55 (Nat.le_of_eq g57.symm)
        have ne_z21_a57 : z21 ≠ a57 := Nat.ne_of_lt (by rw [g57]; exact (own_Str.keep ((own_Str.keep (own_Str.keep (own_Str.keep (own_Str.keep (own_Str.keep (own_Str.keep str23 Kq26 all0) Kq28 all0) Kq30 all0) Kq32 all0) Kq34 all0) Kq36 all0).ext E54) Kq55 (allS bd54_h23_size all0)).lt)
        have ne_c26_a57 : c26 ≠ a57 := Nat.ne_of_lt (by rw [g57]; exact (own_Str.keep ((own_Str.keep (own_Str.keep (own_Str.keep (own_Str.keep (own_Str.keep str26 Kq28 all0) Kq30 all0) Kq32 all0) Kq34 all0) Kq36 all0).ext E54) Kq55 (allS bd54_T26_heap_size all0)).lt)
        have ne_c28_a57 : c28 ≠ a57 := Nat.ne_of_lt (by rw [g57]; exact (own_Str.keep ((own_Str.keep (own_Str.keep (own_Str.keep (own_Str.keep str28 Kq30 all0) Kq32 all0) Kq34 all0) Kq36 all0).ext E54) Kq55 (allS bd54_T28_heap_size all0)).lt)
        have ne_c30_a57 : c30 ≠ a57 := Nat.ne_of_lt (by rw [g57]; exact (own_Str.keep ((own_Str.keep (own_Str.keep (own_Str.keep str30 Kq32 all0) Kq34 all0) Kq36 all0).ext E54) Kq55 (allS bd54_T30_heap_size all0)).lt)
        have ne_c32_a57 : c32 ≠ a57 := Nat.ne_of_lt (by rw [g57]; exact (own_Str.keep ((own_Str.keep (own_Str.keep str32 Kq34 all0) Kq36 all0).ext E54) Kq55 (allS bd54_T32_heap_size all0)).lt)
        have ne_c34_a57 : c34 ≠ a57 := Nat.ne_of_lt (by rw [g57]; exact (own_Str.keep ((own_Str.keep str34 Kq36 all0).ext E54) Kq55 (allS bd54_T34_heap_size all0)).lt)
        have ne_c36_a57 : c36 ≠ a57 := Nat.ne_of_lt (by rw [g57]; exact (own_Str.keep (str36.ext E54) Kq55 (allS bd54_T36_heap_size all0)).lt)
        have ne_z43_a57 : z43 ≠ a57 := Nat.ne_of_lt (by rw [g57]; exact (own_Str.keep (Tk21.ext E54) Kq55 (allS bd54_T36_heap_size all0)).lt)
        have ne_z44_a57 : z44 ≠ a57 := Nat.ne_of_lt (by rw [g57]; exact (own_Str.keep (Tk22.ext E54) Kq55 (allS bd54_T36_heap_size all0)).lt)
        have ne_z45_a57 : z45 ≠ a57 := Nat.ne_of_lt (by rw [g57]; exact (own_Str.keep (Tk23.ext E54) Kq55 (allS bd54_T36_heap_size all0)).lt)
        have ne_a54_a57 : a54 ≠ a57 := Nat.ne_of_lt (by rw [g57]; exact fq1_55.lt)
        have bd57_h23_size : h23.size ≤ a57 := by rw [g57]; exact (Nat.le_trans (Nat.le_trans (Nat.le_trans (Nat.le_trans (Nat.le_trans (Nat.le_trans (Nat.le_trans (Nat.le_trans (Nat.le_refl _) Kq26.1) Kq28.1) Kq30.1) Kq32.1) Kq34.1) Kq36.1) E54.1) Kq55.1)
        have bd57_T26_heap_size : T26.heap.size ≤ a57 := by rw [g57]; exact (Nat.le_trans (Nat.le_trans (Nat.le_trans (Nat.le_trans (Nat.le_trans (Nat.le_trans (Nat.le_trans (Nat.le_refl T26.heap.size) Kq28.1) Kq30.1) Kq32.1) Kq34.1) Kq36.1) E54.1) Kq55.1)
        have bd57_T28_heap_size : T28.heap.size ≤ a57 := by rw [g57]; exact (Nat.le_trans (Nat.le_trans (Nat.le_trans (Nat.le_trans (Nat.le_trans (Nat.le_trans (Nat.le_refl T28.heap.size) Kq30.1) Kq32.1) Kq34.1) Kq36.1) E54.1) Kq55.1)
        have bd57_T30_heap_size : T30.heap.size ≤ a57 := by rw [g57]; exact (Nat.le_trans (Nat.le_trans (Nat.le_trans (Nat.le_trans (Nat.le_trans (Nat.le_refl T30.heap.size) Kq32.1) Kq34.1) Kq36.1) E54.1) Kq55.1)
        have bd57_T32_heap_size : T32.heap.size ≤ a57 := by rw [g57]; exact (Nat.le_trans (Nat.le_trans (Nat.le_trans (Nat.le_trans (Nat.le_refl T32.heap.size) Kq34.1) Kq36.1) E54.1) Kq55.1)
        have bd57_T34_heap_size : T34.heap.size ≤ a57 := by rw [g57]; exact (Nat.le_trans (Nat.le_trans (Nat.le_trans (Nat.le_refl T34.heap.size) Kq36.1) E54.1) Kq55.1)
        have bd57_T36_heap_size : T36.heap.size ≤ a57 := by rw [g57]; exact (Nat.le_trans (Nat.le_trans (Nat.le_refl _) E54.1) Kq55.1)
        have Z57 : n0 ≤ h57.size := Nat.le_trans Z55 E57.1
        have SZ57 : h0.size ≤ h57.size := Nat.le_trans SZ55 E57.1
        have hk := Nat.le_trans hk E57.1
        have F57_queue : Fld Z h57 a57 "com/example/clock3600/clock3600/queue/StoredTask" "queue" "Ljava/lang/String;" .null := D57 (Or.inr (own_g hw 44 rfl)) (ty := (.object "java/lang/String")) (by decide)
        have F57_id : Fld Z h57 a57 "com/example/clock3600/clock3600/queue/StoredTask" "id" "Ljava/lang/String;" .null := D57 (Or.inr (own_g hw 47 rfl)) (ty := (.object "java/lang/String")) (by decide)
        have F57_dueAtMillis : Fld Z h57 a57 "com/example/clock3600/clock3600/queue/StoredTask" "dueAtMillis" "J" (.long (0 : Int64)) := D57 (Or.inr (own_g hw 49 rfl)) (ty := .long) (by decide)
        have F57_payload : Fld Z h57 a57 "com/example/clock3600/clock3600/queue/StoredTask" "payload" "Ljava/lang/String;" .null := D57 (Or.inr (own_g hw 52 rfl)) (ty := (.object "java/lang/String")) (by decide)
        have F57_attempts : Fld Z h57 a57 "com/example/clock3600/clock3600/queue/StoredTask" "attempts" "I" (.int (0 : Int32)) := D57 (Or.inr (own_g hw 54 rfl)) (ty := .int) (by decide)
        have F57_leaseEndMillis : Fld Z h57 a57 "com/example/clock3600/clock3600/queue/StoredTask" "leaseEndMillis" "J" (.long (0 : Int64)) := D57 (Or.inr (own_g hw 56 rfl)) (ty := .long) (by decide)
        have F57_order : Fld Z h57 a57 "com/example/clock3600/clock3600/queue/StoredTask" "order" "J" (.long (0 : Int64)) := D57 (Or.inr (own_g hw 58 rfl)) (ty := .long) (by decide)
        refine own_step st57 ?_
        show own_Ends p e below F (T57.setTop (mkF m 402 A56 [(.ref a57)]))
        refine own_step (fun _ k => XS.dup X57.here hx rfl (hb hby at_402) rfl rfl k) ?_
        show own_Ends p e below F (T57.setTop (mkF m 403 A56 [(.ref a57), (.ref a57)]))
        refine own_step (fun _ k => XS.aload X57.here hx rfl (hb hby at_403) (by rw [hA56]; rfl) rfl k) ?_
        show own_Ends p e below F (T57.setTop (mkF m 405 A56 [(.ref z43), (.ref a57), (.ref a57)]))
        refine own_step (fun _ k => XS.aload X57.here hx rfl (hb hby at_405) (by rw [hA56]; rfl) rfl k) ?_
        show own_Ends p e below F (T57.setTop (mkF m 407 A56 [(.ref z44), (.ref z43), (.ref a57), (.ref a57)]))
        refine own_step (fun _ k => XS.lload X57.here hx rfl (hb hby at_407) (by rw [hA56]; rfl) k) ?_
        show own_Ends p e below F (T57.setTop (mkF m 409 A56 [(.long z46), (.ref z44), (.ref z43), (.ref a57), (.ref a57)]))
        refine own_step (fun _ k => XS.aload X57.here hx rfl (hb hby at_409) (by rw [hA56]; rfl) rfl k) ?_
        show own_Ends p e below F (T57.setTop (mkF m 411 A56 [(.ref z45), (.long z46), (.ref z44), (.ref z43), (.ref a57), (.ref a57)]))
        refine own_step (fun _ k => XS.iload X57.here hx rfl (hb hby at_411) (by rw [hA56]; rfl) k) ?_
        show own_Ends p e below F (T57.setTop (mkF m 413 A56 [(.int z49), (.ref z45), (.long z46), (.ref z44), (.ref z43), (.ref a57), (.ref a57)]))
        refine own_step (fun _ k => XS.lload X57.here hx rfl (hb hby at_413) (by rw [hA56]; rfl) k) ?_
        show own_Ends p e below F (T57.setTop (mkF m 415 A56 [(.long z47), (.int z49), (.ref z45), (.long z46), (.ref z44), (.ref z43), (.ref a57), (.ref a57)]))
        refine own_step (fun _ k => XS.lload X57.here hx rfl (hb hby at_415) (by rw [hA56]; rfl) k) ?_
        show own_Ends p e below F (T57.setTop (mkF m 417 A56 [(.long z48), (.long z47), (.int z49), (.ref z45), (.long z46), (.ref z44), (.ref z43), (.ref a57), (.ref a57)]))
        obtain ⟨_, _, ⟨T58, L58, k58, n58⟩, -, X58, hS58, gr58, ⟨Lc58, hQ58, l58, y58, z58⟩, st58⟩ := X57.specialBackS hx (y := (⟨"com/example/clock3600/clock3600/queue/StoredTask", "<init>", "(Ljava/lang/String;Ljava/lang/String;JLjava/lang/String;IJJ)V"⟩ : MethodName)) rfl hown (mvT hZ (own_g hw 31 rfl)) (mvT hZ (own_g hw 32 rfl)) (mvT hZ (own_g hw 33 rfl)) (by decide) (backOfS (W := 1) (rm6 l Z a0 hw [] a57 z43 z44 z46 z45 z49 z47 z48 h57 n0 Z57 A57 ge_a57 F57_queue F57_id F57_dueAtMillis F57_payload F57_attempts F57_leaseEndMillis F57_order (((Tk21.exa.ext E54).keep Kq55).ext E57) (((Tk22.exa.ext E54).keep Kq55).ext E57) (((Tk23.exa.ext E54).keep Kq55).ext E57)) hZ (own_g hw 33 rfl) (own_g hw 30 rfl) (by decide) (by decide)) (g := (mkF m 417 A56 [(.long z48), (.long z47), (.int z49), (.ref z45), (.long z46), (.ref z44), (.ref z43), (.ref a57), (.ref a57)])) rfl (by rw [hml]; show A56.size = _; rw [hA56]; rfl) (Steps.refl _) (a := a57) (argsL := [(.ref z43), (.ref z44), (.long z46), (.ref z45), (.int z49), (.long z47), (.long z48)]) (rest := [(.ref a57)]) (lenOf pd__28Ljava_2flang_2fString_3bLjava_2flang_2fString_3bJLjava_2flang_2fString_3bIJJ_29V rfl) rfl (by show 2 * 0 + _ ≤ _; exact Nat.le_of_eq rfl) (hb hby at_417) (fun _ _ => ⟨rfl, e57, (by decide : 23 + 6 ≤ _), (by decide : 120 + 68 ≤ _)⟩)
        dsimp only [Pt.U, Pt.locs, Pt.cells, Pt.slots] at X58 l58 y58 z58 st58 hQ58 hS58 gr58
        subst l58 y58 z58
        obtain ⟨rfl, Nq58, Kq58, fq0_58, fq1_58, fq2_58, fq3_58, fq4_58, fq5_58, fq6_58, fq7_58⟩ := hQ58
        have N58 := Fr.app N55 Nq58
        have Z58 : n0 ≤ T58.heap.size := Nat.le_trans Z57 Kq58.1
        have SZ58 : h0.size ≤ T58.heap.size := Nat.le_trans SZ57 Kq58.1
        have S0_58 := own_Sta_keep (Sta.ext E57 S0_55) Kq58 (allS (own_ns_exa A57) all0)
        have hZ := own_warm hZ hS58
        have hown := own_find hown hS58
        have hS := foldS hS (by rw [e57]; exact hk) hS58 gr58
        have hk := Nat.le_refl T58.heap.size
        refine own_trans st58 ?_
        show own_Ends p e below F (T58.setTop (mkF m 420 A56 [(.ref a57)]))
        obtain ⟨A59, hA59⟩ : ∃ z : Array Slot, z = #[.val (.long p1), .second, .val (.long p2), .second, .val (.long p3), .second, .val (.int p4), .val (.int p5), .val (.long p6), .second, .val (.int v2), .val (.int v4), .val (.int v6), .val (.int v8), .val (.int v10), .val (.int z12), .val (.ref a17), .val (.ref z21), .val (.ref c26), .val (.ref c28), .val (.ref c30), .val (.ref z43), .val (.ref z44), .val (.ref z45), .val (.long z46), .second, .val (.long z47), .second, .val (.long z48), .second, .val (.int z49), .val (.int z50), .val (.ref a54), .val (.ref a57), .unset] := ⟨_, rfl⟩
        refine own_step (fun _ k => XS.astore X58.here hx rfl (hb hby at_420) rfl rfl (l' := A59) (by rw [hA56, hA59]; exact rfl) k) ?_
        show own_Ends p e below F (T58.setTop (mkF m 422 A59 []))
        refine own_step (fun _ k => XS.aload X58.here hx rfl (hb hby at_422) (by rw [hA59]; rfl) rfl k) ?_
        show own_Ends p e below F (T58.setTop (mkF m 424 A59 [(.ref c26)]))
        obtain ⟨A60, hA60⟩ : ∃ z : Array Slot, z = #[.val (.long p1), .second, .val (.long p2), .second, .val (.long p3), .second, .val (.int p4), .val (.int p5), .val (.long p6), .second, .val (.int v2), .val (.int v4), .val (.int v6), .val (.int v8), .val (.int v10), .val (.int z12), .val (.ref a17), .val (.ref z21), .val (.ref c26), .val (.ref c28), .val (.ref c30), .val (.ref z43), .val (.ref z44), .val (.ref z45), .val (.long z46), .second, .val (.long z47), .second, .val (.long z48), .second, .val (.int z49), .val (.int z50), .val (.ref a54), .val (.ref a57), .val (.ref c26)] := ⟨_, rfl⟩
        refine own_step (fun _ k => XS.astore X58.here hx rfl (hb hby at_424) rfl rfl (l' := A60) (by rw [hA59, hA60]; exact rfl) k) ?_
        show own_Ends p e below F (T58.setTop (mkF m 426 A60 []))
        refine own_step (fun _ k => XS.aload X58.here hx rfl (hb hby at_426) (by rw [hA60]; rfl) rfl k) ?_
        show own_Ends p e below F (T58.setTop (mkF m 428 A60 [(.ref a54)]))
        refine own_step (fun _ k => XS.aload X58.here hx rfl (hb hby at_428) (by rw [hA60]; rfl) rfl k) ?_
        show own_Ends p e below F (T58.setTop (mkF m 430 A60 [(.ref a57), (.ref a54)]))
        obtain ⟨cq61, kq61, qa61, qb61, qc61⟩ := isOf hZ rfl ((fq0_55.ext E57).keep Kq58)
        obtain ⟨_, _, ⟨T61, L61, k61, n61⟩, -, X61, ⟨Lc61, hQ61, l61, y61, z61⟩, st61⟩ := X58.virtualBack hx (y := (⟨"com/example/clock3600/clock3600/queue/StoredTask", "equals", "(Ljava/lang/Object;)Z"⟩ : MethodName)) (z := (⟨"com/example/clock3600/clock3600/queue/StoredTask", "equals", "(Ljava/lang/Object;)Z"⟩ : MethodName)) hown (mvT hZ (own_g hw 59 rfl)) (mvT hZ (own_g hw 60 rfl)) (notFace_of_selects (args := #[]) (mvT hZ (own_g hw 62 rfl))) (mvT hZ (own_g hw 62 rfl)) (mvT hZ (own_g hw 61 rfl)) (by decide) (backOf (W := 0) (rm8d l Z a0 hw [] a54 a57 p1 z46 p4 z49 p2 z47 p3 z48 c26 z43 c28 z44 c30 z45 [v2] k21 [v4] k22 [v6] k23 T58.heap.size zc T58.heap n0 Z58 fq0_58 ne_a54_a57 S0_58 hz ((fq3_55.ext E57).keep Kq58 (ninS ne_a54_a57 nin0)) ((fq5_55.ext E57).keep Kq58 (ninS ne_a54_a57 nin0)) ((fq6_55.ext E57).keep Kq58 (ninS ne_a54_a57 nin0)) ((fq7_55.ext E57).keep Kq58 (ninS ne_a54_a57 nin0)) ((fq1_55.ext E57).keep Kq58 (ninS ne_a54_a57 nin0)) (own_Str.top (own_Str.keep ((own_Str.keep ((own_Str.keep (own_Str.keep (own_Str.keep (own_Str.keep (own_Str.keep str26 Kq28 all0) Kq30 all0) Kq32 all0) Kq34 all0) Kq36 all0).ext E54) Kq55 (allS bd54_T26_heap_size all0)).ext E57) Kq58 (allS bd57_T26_heap_size all0))) (Nat.le_of_ble_eq_true rfl) ((fq2_55.ext E57).keep Kq58 (ninS ne_a54_a57 nin0)) (own_Str.top (own_Str.keep ((own_Str.keep ((own_Str.keep (own_Str.keep (own_Str.keep (own_Str.keep str28 Kq30 all0) Kq32 all0) Kq34 all0) Kq36 all0).ext E54) Kq55 (allS bd54_T28_heap_size all0)).ext E57) Kq58 (allS bd57_T28_heap_size all0))) (Nat.le_of_ble_eq_true rfl) ((fq4_55.ext E57).keep Kq58 (ninS ne_a54_a57 nin0)) (own_Str.top (own_Str.keep ((own_Str.keep ((own_Str.keep (own_Str.keep (own_Str.keep str30 Kq32 all0) Kq34 all0) Kq36 all0).ext E54) Kq55 (allS bd54_T30_heap_size all0)).ext E57) Kq58 (allS bd57_T30_heap_size all0))) (Nat.le_of_ble_eq_true rfl) fq3_58 fq5_58 fq6_58 fq7_58 fq1_58 (own_Str.top (own_Str.keep ((own_Str.keep (Tk21.ext E54) Kq55 (allS bd54_T36_heap_size all0)).ext E57) Kq58 (allS bd57_T36_heap_size all0))) (own_klen ek21) fq2_58 (own_Str.top (own_Str.keep ((own_Str.keep (Tk22.ext E54) Kq55 (allS bd54_T36_heap_size all0)).ext E57) Kq58 (allS bd57_T36_heap_size all0))) (own_klen ek22) fq4_58 (own_Str.top (own_Str.keep ((own_Str.keep (Tk23.ext E54) Kq55 (allS bd54_T36_heap_size all0)).ext E57) Kq58 (allS bd57_T36_heap_size all0))) (own_klen ek23)) hZ (own_g hw 63 rfl) (own_g hw 30 rfl) (by decide) (by decide)) qa61 qc61 (g := (mkF m 430 A60 [(.ref a57), (.ref a54)])) rfl (by rw [hml]; show A60.size = _; rw [hA60]; rfl) (Steps.refl _) (argsL := [(.ref a57)]) (rest := []) (lenOf pd__28Ljava_2flang_2fObject_3b_29Z rfl) rfl (by show 2 * 0 + _ ≤ _; exact Nat.le_of_eq rfl) (hb hby at_430) (fun _ _ => ⟨rfl, rfl, (by decide : 29 + 0 ≤ _), (by decide : 188 + 0 ≤ _)⟩)
        dsimp only [Pt.U, Pt.locs, Pt.cells, Pt.slots] at X61 l61 y61 z61 st61 hQ61
        subst l61 y61 z61
        obtain ⟨rfl, Nq61, eq61⟩ := hQ61
        have N61 := Fr.app N58 Nq61
        refine own_trans st61 ?_
        show own_Ends p e below F (T61.setTop (mkF m 433 A60 [(.int (own_teq p1 z46 p4 z49 p2 z47 p3 z48 [v2] k21 [v4] k22 [v6] k23))]))
        refine own_step (fun _ k => XS.iload X61.here hx rfl (hb hby at_433) (by rw [hA60]; rfl) k) ?_
        show own_Ends p e below F (T61.setTop (mkF m 435 A60 [(.int z50), (.int (own_teq p1 z46 p4 z49 p2 z47 p3 z48 [v2] k21 [v4] k22 [v6] k23))]))
        refine own_step (fun _ k => XS.icmpNo X61.here hx rfl (hb hby at_435) rfl (teq (own_main1 ek21 ek22 ek23 hz46 hz49 hz47 hz48 hz50 : (own_teq p1 z46 p4 z49 p2 z47 p3 z48 [v2] k21 [v4] k22 [v6] k23) = z50)).2 k) ?_
        show own_Ends p e below F (T61.setTop (mkF m 438 A60 []))
        refine own_step (fun _ k => XS.aload X61.here hx rfl (hb hby at_438) (by rw [hA60]; rfl) rfl k) ?_
        show own_Ends p e below F (T61.setTop (mkF m 440 A60 [(.ref a57)]))
        refine own_step (fun _ k => XS.aload X61.here hx rfl (hb hby at_440) (by rw [hA60]; rfl) rfl k) ?_
        show own_Ends p e below F (T61.setTop (mkF m 442 A60 [(.ref a54), (.ref a57)]))
        obtain ⟨cq62, kq62, qa62, qb62, qc62⟩ := isOf hZ eq61 fq0_58
        obtain ⟨_, _, ⟨T62, L62, k62, n62⟩, -, X62, ⟨Lc62, hQ62, l62, y62, z62⟩, st62⟩ := X61.virtualBack hx (y := (⟨"com/example/clock3600/clock3600/queue/StoredTask", "equals", "(Ljava/lang/Object;)Z"⟩ : MethodName)) (z := (⟨"com/example/clock3600/clock3600/queue/StoredTask", "equals", "(Ljava/lang/Object;)Z"⟩ : MethodName)) hown (mvT hZ (own_g hw 59 rfl)) (mvT hZ (own_g hw 60 rfl)) (notFace_of_selects (args := #[]) (mvT hZ (own_g hw 62 rfl))) (mvT hZ (own_g hw 62 rfl)) (mvT hZ (own_g hw 61 rfl)) (by decide) (backOf (W := 0) (rm8d l Z a0 hw [] a57 a54 z46 p1 z49 p4 z47 p2 z48 p3 z43 c26 z44 c28 z45 c30 k21 [v2] k22 [v4] k23 [v6] T58.heap.size zc T58.heap n0 Z58 ((fq0_55.ext E57).keep Kq58) (Ne.symm ne_a54_a57) S0_58 hz fq3_58 fq5_58 fq6_58 fq7_58 fq1_58 (own_Str.top (own_Str.keep ((own_Str.keep (Tk21.ext E54) Kq55 (allS bd54_T36_heap_size all0)).ext E57) Kq58 (allS bd57_T36_heap_size all0))) (own_klen ek21) fq2_58 (own_Str.top (own_Str.keep ((own_Str.keep (Tk22.ext E54) Kq55 (allS bd54_T36_heap_size all0)).ext E57) Kq58 (allS bd57_T36_heap_size all0))) (own_klen ek22) fq4_58 (own_Str.top (own_Str.keep ((own_Str.keep (Tk23.ext E54) Kq55 (allS bd54_T36_heap_size all0)).ext E57) Kq58 (allS bd57_T36_heap_size all0))) (own_klen ek23) ((fq3_55.ext E57).keep Kq58 (ninS ne_a54_a57 nin0)) ((fq5_55.ext E57).keep Kq58 (ninS ne_a54_a57 nin0)) ((fq6_55.ext E57).keep Kq58 (ninS ne_a54_a57 nin0)) ((fq7_55.ext E57).keep Kq58 (ninS ne_a54_a57 nin0)) ((fq1_55.ext E57).keep Kq58 (ninS ne_a54_a57 nin0)) (own_Str.top (own_Str.keep ((own_Str.keep ((own_Str.keep (own_Str.keep (own_Str.keep (own_Str.keep (own_Str.keep str26 Kq28 all0) Kq30 all0) Kq32 all0) Kq34 all0) Kq36 all0).ext E54) Kq55 (allS bd54_T26_heap_size all0)).ext E57) Kq58 (allS bd57_T26_heap_size all0))) (Nat.le_of_ble_eq_true rfl) ((fq2_55.ext E57).keep Kq58 (ninS ne_a54_a57 nin0)) (own_Str.top (own_Str.keep ((own_Str.keep ((own_Str.keep (own_Str.keep (own_Str.keep (own_Str.keep str28 Kq30 all0) Kq32 all0) Kq34 all0) Kq36 all0).ext E54) Kq55 (allS bd54_T28_heap_size all0)).ext E57) Kq58 (allS bd57_T28_heap_size all0))) (Nat.le_of_ble_eq_true rfl) ((fq4_55.ext E57).keep Kq58 (ninS ne_a54_a57 nin0)) (own_Str.top (own_Str.keep ((own_Str.keep ((own_Str.keep (own_Str.keep (own_Str.keep str30 Kq32 all0) Kq34 all0) Kq36 all0).ext E54) Kq55 (allS bd54_T30_heap_size all0)).ext E57) Kq58 (allS bd57_T30_heap_size all0))) (Nat.le_of_ble_eq_true rfl)) hZ (own_g hw 63 rfl) (own_g hw 30 rfl) (by decide) (by decide)) qa62 qc62 (g := (mkF m 442 A60 [(.ref a54), (.ref a57)])) rfl (by rw [hml]; show A60.size = _; rw [hA60]; rfl) (Steps.refl _) (argsL := [(.ref a54)]) (rest := []) (lenOf pd__28Ljava_2flang_2fObject_3b_29Z rfl) rfl (by show 2 * 0 + _ ≤ _; exact Nat.le_of_eq rfl) (hb hby at_442) (fun _ _ => ⟨rfl, eq61, (by decide : 29 + 0 ≤ _), (by decide : 188 + 0 ≤ _)⟩)
        dsimp only [Pt.U, Pt.locs, Pt.cells, Pt.slots] at X62 l62 y62 z62 st62 hQ62
        subst l62 y62 z62
        obtain ⟨rfl, Nq62, eq62⟩ := hQ62
        have N62 := Fr.app N61 Nq62
        refine own_trans st62 ?_
        show own_Ends p e below F (T62.setTop (mkF m 445 A60 [(.int (own_teq z46 p1 z49 p4 z47 p2 z48 p3 k21 [v2] k22 [v4] k23 [v6]))]))
        refine own_step (fun _ k => XS.iload X62.here hx rfl (hb hby at_445) (by rw [hA60]; rfl) k) ?_
        show own_Ends p e below F (T62.setTop (mkF m 447 A60 [(.int z50), (.int (own_teq z46 p1 z49 p4 z47 p2 z48 p3 k21 [v2] k22 [v4] k23 [v6]))]))
        refine own_step (fun _ k => XS.icmpNo X62.here hx rfl (hb hby at_447) rfl (teq (own_main2 ek21 ek22 ek23 hz46 hz49 hz47 hz48 hz50 : (own_teq z46 p1 z49 p4 z47 p2 z48 p3 k21 [v2] k22 [v4] k23 [v6]) = z50)).2 k) ?_
        show own_Ends p e below F (T62.setTop (mkF m 450 A60 []))
        refine own_step (fun _ k => XS.aload X62.here hx rfl (hb hby at_450) (by rw [hA60]; rfl) rfl k) ?_
        show own_Ends p e below F (T62.setTop (mkF m 452 A60 [(.ref a54)]))
        refine own_step (fun _ k => XS.aload X62.here hx rfl (hb hby at_452) (by rw [hA60]; rfl) rfl k) ?_
        show own_Ends p e below F (T62.setTop (mkF m 454 A60 [(.ref a54), (.ref a54)]))
        obtain ⟨cq63, kq63, qa63, qb63, qc63⟩ := isOf hZ eq62 ((fq0_55.ext E57).keep Kq58)
        obtain ⟨_, _, ⟨T63, L63, k63, n63⟩, -, X63, ⟨Lc63, hQ63, l63, y63, z63⟩, st63⟩ := X62.virtualBack hx (y := (⟨"com/example/clock3600/clock3600/queue/StoredTask", "equals", "(Ljava/lang/Object;)Z"⟩ : MethodName)) (z := (⟨"com/example/clock3600/clock3600/queue/StoredTask", "equals", "(Ljava/lang/Object;)Z"⟩ : MethodName)) hown (mvT hZ (own_g hw 59 rfl)) (mvT hZ (own_g hw 60 rfl)) (notFace_of_selects (args := #[]) (mvT hZ (own_g hw 62 rfl))) (mvT hZ (own_g hw 62 rfl)) (mvT hZ (own_g hw 61 rfl)) (by decide) (backOf (W := 0) (rm8a l Z a0 hw [] a54 T58.heap n0 Z58) hZ (own_g hw 63 rfl) (own_g hw 30 rfl) (by decide) (by decide)) qa63 qc63 (g := (mkF m 454 A60 [(.ref a54), (.ref a54)])) rfl (by rw [hml]; show A60.size = _; rw [hA60]; rfl) (Steps.refl _) (argsL := [(.ref a54)]) (rest := []) (lenOf pd__28Ljava_2flang_2fObject_3b_29Z rfl) rfl (by show 2 * 0 + _ ≤ _; exact Nat.le_of_eq rfl) (hb hby at_454) (fun _ _ => ⟨rfl, eq62, (by decide : 29 + 0 ≤ _), (by decide : 188 + 0 ≤ _)⟩)
        dsimp only [Pt.U, Pt.locs, Pt.cells, Pt.slots] at X63 l63 y63 z63 st63 hQ63
        subst l63 y63 z63
        obtain ⟨rfl, Nq63, eq63⟩ := hQ63
        have N63 := Fr.app N62 Nq63
        refine own_trans st63 ?_
        show own_Ends p e below F (T63.setTop (mkF m 457 A60 [(.int (1 : Int32))]))
        refine own_step (fun _ k => XS.ifNo X63.here hx rfl (hb hby at_457) rfl ((if0 _ _).trans (feq (by decide : ¬ ((1 : Int32) = (0 : Int32)))).1) k) ?_
        show own_Ends p e below F (T63.setTop (mkF m 460 A60 []))
        refine own_step (fun _ k => XS.aload X63.here hx rfl (hb hby at_460) (by rw [hA60]; rfl) rfl k) ?_
        show own_Ends p e below F (T63.setTop (mkF m 462 A60 [(.ref a54)]))
        refine own_step (fun _ k => XS.aconstNull X63.here hx rfl (hb hby at_462) k) ?_
        show own_Ends p e below F (T63.setTop (mkF m 463 A60 [.null, (.ref a54)]))
        obtain ⟨cq64, kq64, qa64, qb64, qc64⟩ := isOf hZ eq63 ((fq0_55.ext E57).keep Kq58)
        obtain ⟨_, _, ⟨T64, L64, k64, n64⟩, -, X64, ⟨Lc64, hQ64, l64, y64, z64⟩, st64⟩ := X63.virtualBack hx (y := (⟨"com/example/clock3600/clock3600/queue/StoredTask", "equals", "(Ljava/lang/Object;)Z"⟩ : MethodName)) (z := (⟨"com/example/clock3600/clock3600/queue/StoredTask", "equals", "(Ljava/lang/Object;)Z"⟩ : MethodName)) hown (mvT hZ (own_g hw 59 rfl)) (mvT hZ (own_g hw 60 rfl)) (notFace_of_selects (args := #[]) (mvT hZ (own_g hw 62 rfl))) (mvT hZ (own_g hw 62 rfl)) (mvT hZ (own_g hw 61 rfl)) (by decide) (backOf (W := 0) (rm8b l Z a0 hw [] a54 T58.heap n0 Z58) hZ (own_g hw 63 rfl) (own_g hw 30 rfl) (by decide) (by decide)) qa64 qc64 (g := (mkF m 463 A60 [.null, (.ref a54)])) rfl (by rw [hml]; show A60.size = _; rw [hA60]; rfl) (Steps.refl _) (argsL := [.null]) (rest := []) (lenOf pd__28Ljava_2flang_2fObject_3b_29Z rfl) rfl (by show 2 * 0 + _ ≤ _; exact Nat.le_of_eq rfl) (hb hby at_463) (fun _ _ => ⟨rfl, eq63, (by decide : 29 + 0 ≤ _), (by decide : 188 + 0 ≤ _)⟩)
        dsimp only [Pt.U, Pt.locs, Pt.cells, Pt.slots] at X64 l64 y64 z64 st64 hQ64
        subst l64 y64 z64
        obtain ⟨rfl, Nq64, eq64⟩ := hQ64
        have N64 := Fr.app N63 Nq64
        refine own_trans st64 ?_
        show own_Ends p e below F (T64.setTop (mkF m 466 A60 [(.int (0 : Int32))]))
        refine own_step (fun _ k => XS.ifNo X64.here hx rfl (hb hby at_466) rfl ((if0 _ _).trans (teq (by decide : (0 : Int32) = (0 : Int32))).2) k) ?_
        show own_Ends p e below F (T64.setTop (mkF m 469 A60 []))
        refine own_step (fun _ k => XS.aload X64.here hx rfl (hb hby at_469) (by rw [hA60]; rfl) rfl k) ?_
        show own_Ends p e below F (T64.setTop (mkF m 471 A60 [(.ref a54)]))
        refine own_step (fun _ k => XS.aload X64.here hx rfl (hb hby at_471) (by rw [hA60]; rfl) rfl k) ?_
        show own_Ends p e below F (T64.setTop (mkF m 473 A60 [(.ref c26), (.ref a54)]))
        obtain ⟨cq65, kq65, qa65, qb65, qc65⟩ := isOf hZ eq64 ((fq0_55.ext E57).keep Kq58)
        obtain ⟨_, _, ⟨T65, L65, k65, n65⟩, -, X65, ⟨Lc65, hQ65, l65, y65, z65⟩, st65⟩ := X64.virtualBack hx (y := (⟨"com/example/clock3600/clock3600/queue/StoredTask", "equals", "(Ljava/lang/Object;)Z"⟩ : MethodName)) (z := (⟨"com/example/clock3600/clock3600/queue/StoredTask", "equals", "(Ljava/lang/Object;)Z"⟩ : MethodName)) hown (mvT hZ (own_g hw 59 rfl)) (mvT hZ (own_g hw 60 rfl)) (notFace_of_selects (args := #[]) (mvT hZ (own_g hw 62 rfl))) (mvT hZ (own_g hw 62 rfl)) (mvT hZ (own_g hw 61 rfl)) (by decide) (backOf (W := 0) (rm8c l Z a0 hw [] a54 c26 T58.heap n0 Z58 (((((((((fe26.keep Kq28).keep Kq30).keep Kq32).keep Kq34).keep Kq36).ext E54).keep Kq55).ext E57).keep Kq58) (Ne.symm ne_c26_a54)) hZ (own_g hw 63 rfl) (own_g hw 30 rfl) (by decide) (by decide)) qa65 qc65 (g := (mkF m 473 A60 [(.ref c26), (.ref a54)])) rfl (by rw [hml]; show A60.size = _; rw [hA60]; rfl) (Steps.refl _) (argsL := [(.ref c26)]) (rest := []) (lenOf pd__28Ljava_2flang_2fObject_3b_29Z rfl) rfl (by show 2 * 0 + _ ≤ _; exact Nat.le_of_eq rfl) (hb hby at_473) (fun _ _ => ⟨rfl, eq64, (by decide : 29 + 0 ≤ _), (by decide : 188 + 0 ≤ _)⟩)
        dsimp only [Pt.U, Pt.locs, Pt.cells, Pt.slots] at X65 l65 y65 z65 st65 hQ65
        subst l65 y65 z65
        obtain ⟨rfl, Nq65, eq65⟩ := hQ65
        have N65 := Fr.app N64 Nq65
        refine own_trans st65 ?_
        show own_Ends p e below F (T65.setTop (mkF m 476 A60 [(.int (0 : Int32))]))
        refine own_step (fun _ k => XS.ifNo X65.here hx rfl (hb hby at_476) rfl ((if0 _ _).trans (teq (by decide : (0 : Int32) = (0 : Int32))).2) k) ?_
        show own_Ends p e below F (T65.setTop (mkF m 479 A60 []))
        refine own_step (fun _ k => XS.iconst X65.here hx rfl (hb hby at_479) k) ?_
        show own_Ends p e below F (T65.setTop (mkF m 480 A60 [(.int (1 : Int32))]))
        refine own_step (fun _ k => XS.goto X65.here hx rfl (pc0 := 480) (pc' := 484) rfl (hb hby at_480) (by decide) (by decide) k) ?_
        show own_Ends p e below F (T65.setTop (mkF m 484 A60 [(.int (1 : Int32))]))
        rw [hF]
        exact own_retW X65 hS (by rw [eq65]; exact hk) (v := (some (.int (nar .boolean (1 : Int32))))) (fun h => by rw [Bd.returns] at h; cases h) Bd.notSynchronized (fun fs hr => retN X65 hx (t := .boolean) Bd.returns (by simp) (hb hby at_484) hr) (by decide) (by decide) (by rw [eq65]; exact ⟨rfl, N65⟩)
      by_cases c175_66 : v8 = (1 : Int32)
      · refine own_step (fun _ k => XS.icmpNo X36.here hx rfl (hb hby at_175) rfl (teq c175_66).2 k) ?_
        show own_Ends p e below F (T36.setTop (mkF m 178 A42 []))
        refine own_step (fun _ k => XS.lload X36.here hx rfl (hb hby at_178) (by rw [hA42]; rfl) k) ?_
        show own_Ends p e below F (T36.setTop (mkF m 180 A42 [(.long p6)]))
        obtain ⟨A67, hA67⟩ : ∃ z : Array Slot, z = #[.val (.long p1), .second, .val (.long p2), .second, .val (.long p3), .second, .val (.int p4), .val (.int p5), .val (.long p6), .second, .val (.int v2), .val (.int v4), .val (.int v6), .val (.int v8), .val (.int v10), .val (.int z12), .val (.ref a17), .val (.ref z21), .val (.ref c26), .val (.ref c28), .val (.ref c30), .val (.ref c32), .val (.ref c34), .val (.ref c36), .val (.long p6), .second, .val (.long p2), .second, .val (.long p3), .second, .val (.int p4), .val (.int (1 : Int32)), .unset, .unset, .unset] := ⟨_, rfl⟩
        refine own_step (fun _ k => XS.lstore X36.here hx rfl (hb hby at_180) rfl (l' := A67) (by rw [hA42, hA67]; exact rfl) k) ?_
        show own_Ends p e below F (T36.setTop (mkF m 182 A67 []))
        refine own_step (fun _ k => XS.lload X36.here hx rfl (hb hby at_182) (by rw [hA67]; rfl) k) ?_
        show own_Ends p e below F (T36.setTop (mkF m 184 A67 [(.long p6)]))
        refine own_step (fun _ k => XS.lloadN X36.here hx rfl (hb hby at_184) (by rw [hA67]; rfl) k) ?_
        show own_Ends p e below F (T36.setTop (mkF m 185 A67 [(.long p1), (.long p6)]))
        refine own_step (fun _ k => XS.lcmp X36.here hx rfl (hb hby at_185) rfl k) ?_
        show own_Ends p e below F (T36.setTop (mkF m 186 A67 [(.int (lcmpW p6 p1))]))
        by_cases c186_68 : p6 = p1
        · refine own_step (fun _ k => XS.ifNo X36.here hx rfl (hb hby at_186) rfl ((if0 _ _).trans (teq ((lw_eq _ _).mpr c186_68)).2) k) ?_
          show own_Ends p e below F (T36.setTop (mkF m 189 A67 []))
          refine own_step (fun _ k => XS.iconst X36.here hx rfl (hb hby at_189) k) ?_
          show own_Ends p e below F (T36.setTop (mkF m 190 A67 [(.int (1 : Int32))]))
          refine own_step (fun _ k => XS.goto X36.here hx rfl (pc0 := 190) (pc' := 194) rfl (hb hby at_190) (by decide) (by decide) k) ?_
          show own_Ends p e below F (T36.setTop (mkF m 194 A67 [(.int (1 : Int32))]))
          obtain ⟨A69, hA69⟩ : ∃ z : Array Slot, z = #[.val (.long p1), .second, .val (.long p2), .second, .val (.long p3), .second, .val (.int p4), .val (.int p5), .val (.long p6), .second, .val (.int v2), .val (.int v4), .val (.int v6), .val (.int v8), .val (.int v10), .val (.int z12), .val (.ref a17), .val (.ref z21), .val (.ref c26), .val (.ref c28), .val (.ref c30), .val (.ref c32), .val (.ref c34), .val (.ref c36), .val (.long p6), .second, .val (.long p2), .second, .val (.long p3), .second, .val (.int p4), .val (.int (1 : Int32)), .unset, .unset, .unset] := ⟨_, rfl⟩
          refine own_step (fun _ k => XS.istore X36.here hx rfl (hb hby at_194) rfl (l' := A69) (by rw [hA67, hA69]; exact rfl) k) ?_
          show own_Ends p e below F (T36.setTop (mkF m 196 A69 []))
          refine own_step (fun _ k => XS.goto X36.here hx rfl (pc0 := 196) (pc' := 378) rfl (hb hby at_196) (by decide) (by decide) k) ?_
          show own_Ends p e below F (T36.setTop (mkF m 378 A69 []))
          rw [hA69]
          exact J175_51 _ _ _ _ _ _ _ _ (by first | (simp only [if_true, if_false, c175_66, c186_68]; done) | ((first | rw [if_pos c175_66] | rw [if_neg c175_66] | skip); (first | rw [if_pos c186_68] | rw [if_neg c186_68] | skip))) (by first | (simp only [if_true, if_false, c175_66, c186_68]; done) | ((first | rw [if_pos c175_66] | rw [if_neg c175_66] | skip); (first | rw [if_pos c186_68] | rw [if_neg c186_68] | skip))) (by first | (simp only [if_true, if_false, c175_66, c186_68]; done) | ((first | rw [if_pos c175_66] | rw [if_neg c175_66] | skip); (first | rw [if_pos c186_68] | rw [if_neg c186_68] | skip))) (by first | (simp only [if_true, if_false, c175_66, c186_68]; done) | ((first | rw [if_pos c175_66] | rw [if_neg c175_66] | skip); (first | rw [if_pos c186_68] | rw [if_neg c186_68] | skip))) (by first | (simp only [if_true, if_false, c175_66, c186_68]; done) | ((first | rw [if_pos c175_66] | rw [if_neg c175_66] | skip); (first | rw [if_pos c186_68] | rw [if_neg c186_68] | skip))) (by first | (simp only [if_true, if_false, c175_66, c186_68]; done) | ((first | rw [if_pos c175_66] | rw [if_neg c175_66] | skip); (first | rw [if_pos c186_68] | rw [if_neg c186_68] | skip))) (by first | (simp only [if_true, if_false, c175_66, c186_68]; done) | ((first | rw [if_pos c175_66] | rw [if_neg c175_66] | skip); (first | rw [if_pos c186_68] | rw [if_neg c186_68] | skip))) (by first | (simp only [if_true, if_false, c175_66, c186_68]; done) | ((first | rw [if_pos c175_66] | rw [if_neg c175_66] | skip); (first | rw [if_pos c186_68] | rw [if_neg c186_68] | skip)))
        · refine own_step (fun _ k => XS.ifYes X36.here hx rfl (pc0 := 186) (pc' := 193) rfl (hb hby at_186) rfl ((if0 _ _).trans (feq (fun q => c186_68 ((lw_eq _ _).mp q))).2) (by decide) (by decide) k) ?_
          show own_Ends p e below F (T36.setTop (mkF m 193 A67 []))
          refine own_step (fun _ k => XS.iconst X36.here hx rfl (hb hby at_193) k) ?_
          show own_Ends p e below F (T36.setTop (mkF m 194 A67 [(.int (0 : Int32))]))
          obtain ⟨A70, hA70⟩ : ∃ z : Array Slot, z = #[.val (.long p1), .second, .val (.long p2), .second, .val (.long p3), .second, .val (.int p4), .val (.int p5), .val (.long p6), .second, .val (.int v2), .val (.int v4), .val (.int v6), .val (.int v8), .val (.int v10), .val (.int z12), .val (.ref a17), .val (.ref z21), .val (.ref c26), .val (.ref c28), .val (.ref c30), .val (.ref c32), .val (.ref c34), .val (.ref c36), .val (.long p6), .second, .val (.long p2), .second, .val (.long p3), .second, .val (.int p4), .val (.int (0 : Int32)), .unset, .unset, .unset] := ⟨_, rfl⟩
          refine own_step (fun _ k => XS.istore X36.here hx rfl (hb hby at_194) rfl (l' := A70) (by rw [hA67, hA70]; exact rfl) k) ?_
          show own_Ends p e below F (T36.setTop (mkF m 196 A70 []))
          refine own_step (fun _ k => XS.goto X36.here hx rfl (pc0 := 196) (pc' := 378) rfl (hb hby at_196) (by decide) (by decide) k) ?_
          show own_Ends p e below F (T36.setTop (mkF m 378 A70 []))
          rw [hA70]
          exact J175_51 _ _ _ _ _ _ _ _ (by first | (simp only [if_true, if_false, c175_66, c186_68]; done) | ((first | rw [if_pos c175_66] | rw [if_neg c175_66] | skip); (first | rw [if_pos c186_68] | rw [if_neg c186_68] | skip))) (by first | (simp only [if_true, if_false, c175_66, c186_68]; done) | ((first | rw [if_pos c175_66] | rw [if_neg c175_66] | skip); (first | rw [if_pos c186_68] | rw [if_neg c186_68] | skip))) (by first | (simp only [if_true, if_false, c175_66, c186_68]; done) | ((first | rw [if_pos c175_66] | rw [if_neg c175_66] | skip); (first | rw [if_pos c186_68] | rw [if_neg c186_68] | skip))) (by first | (simp only [if_true, if_false, c175_66, c186_68]; done) | ((first | rw [if_pos c175_66] | rw [if_neg c175_66] | skip); (first | rw [if_pos c186_68] | rw [if_neg c186_68] | skip))) (by first | (simp only [if_true, if_false, c175_66, c186_68]; done) | ((first | rw [if_pos c175_66] | rw [if_neg c175_66] | skip); (first | rw [if_pos c186_68] | rw [if_neg c186_68] | skip))) (by first | (simp only [if_true, if_false, c175_66, c186_68]; done) | ((first | rw [if_pos c175_66] | rw [if_neg c175_66] | skip); (first | rw [if_pos c186_68] | rw [if_neg c186_68] | skip))) (by first | (simp only [if_true, if_false, c175_66, c186_68]; done) | ((first | rw [if_pos c175_66] | rw [if_neg c175_66] | skip); (first | rw [if_pos c186_68] | rw [if_neg c186_68] | skip))) (by first | (simp only [if_true, if_false, c175_66, c186_68]; done) | ((first | rw [if_pos c175_66] | rw [if_neg c175_66] | skip); (first | rw [if_pos c186_68] | rw [if_neg c186_68] | skip)))
      · refine own_step (fun _ k => XS.icmpYes X36.here hx rfl (pc0 := 175) (pc' := 199) rfl (hb hby at_175) rfl (feq c175_66).2 (by decide) (by decide) k) ?_
        show own_Ends p e below F (T36.setTop (mkF m 199 A42 []))
        refine own_step (fun _ k => XS.iload X36.here hx rfl (hb hby at_199) (by rw [hA42]; rfl) k) ?_
        show own_Ends p e below F (T36.setTop (mkF m 201 A42 [(.int v8)]))
        refine own_step (fun _ k => XS.iconst X36.here hx rfl (hb hby at_201) k) ?_
        show own_Ends p e below F (T36.setTop (mkF m 202 A42 [(.int (2 : Int32)), (.int v8)]))
        by_cases c202_71 : v8 = (2 : Int32)
        · refine own_step (fun _ k => XS.icmpNo X36.here hx rfl (hb hby at_202) rfl (teq c202_71).2 k) ?_
          show own_Ends p e below F (T36.setTop (mkF m 205 A42 []))
          refine own_step (fun _ k => XS.lload X36.here hx rfl (hb hby at_205) (by rw [hA42]; rfl) k) ?_
          show own_Ends p e below F (T36.setTop (mkF m 207 A42 [(.long p6)]))
          refine own_step (fun _ k => XS.l2i X36.here hx rfl (hb hby at_207) rfl k) ?_
          show own_Ends p e below F (T36.setTop (mkF m 208 A42 [(.int (p6.toInt32))]))
          obtain ⟨A72, hA72⟩ : ∃ z : Array Slot, z = #[.val (.long p1), .second, .val (.long p2), .second, .val (.long p3), .second, .val (.int p4), .val (.int p5), .val (.long p6), .second, .val (.int v2), .val (.int v4), .val (.int v6), .val (.int v8), .val (.int v10), .val (.int z12), .val (.ref a17), .val (.ref z21), .val (.ref c26), .val (.ref c28), .val (.ref c30), .val (.ref c32), .val (.ref c34), .val (.ref c36), .val (.long p1), .second, .val (.long p2), .second, .val (.long p3), .second, .val (.int (p6.toInt32)), .val (.int (1 : Int32)), .unset, .unset, .unset] := ⟨_, rfl⟩
          refine own_step (fun _ k => XS.istore X36.here hx rfl (hb hby at_208) rfl (l' := A72) (by rw [hA42, hA72]; exact rfl) k) ?_
          show own_Ends p e below F (T36.setTop (mkF m 210 A72 []))
          refine own_step (fun _ k => XS.lload X36.here hx rfl (hb hby at_210) (by rw [hA72]; rfl) k) ?_
          show own_Ends p e below F (T36.setTop (mkF m 212 A72 [(.long p6)]))
          refine own_step (fun _ k => XS.l2i X36.here hx rfl (hb hby at_212) rfl k) ?_
          show own_Ends p e below F (T36.setTop (mkF m 213 A72 [(.int (p6.toInt32))]))
          refine own_step (fun _ k => XS.iload X36.here hx rfl (hb hby at_213) (by rw [hA72]; rfl) k) ?_
          show own_Ends p e below F (T36.setTop (mkF m 215 A72 [(.int p4), (.int (p6.toInt32))]))
          by_cases c215_73 : (p6.toInt32) = p4
          · refine own_step (fun _ k => XS.icmpNo X36.here hx rfl (hb hby at_215) rfl (teq c215_73).2 k) ?_
            show own_Ends p e below F (T36.setTop (mkF m 218 A72 []))
            refine own_step (fun _ k => XS.iconst X36.here hx rfl (hb hby at_218) k) ?_
            show own_Ends p e below F (T36.setTop (mkF m 219 A72 [(.int (1 : Int32))]))
            refine own_step (fun _ k => XS.goto X36.here hx rfl (pc0 := 219) (pc' := 223) rfl (hb hby at_219) (by decide) (by decide) k) ?_
            show own_Ends p e below F (T36.setTop (mkF m 223 A72 [(.int (1 : Int32))]))
            obtain ⟨A74, hA74⟩ : ∃ z : Array Slot, z = #[.val (.long p1), .second, .val (.long p2), .second, .val (.long p3), .second, .val (.int p4), .val (.int p5), .val (.long p6), .second, .val (.int v2), .val (.int v4), .val (.int v6), .val (.int v8), .val (.int v10), .val (.int z12), .val (.ref a17), .val (.ref z21), .val (.ref c26), .val (.ref c28), .val (.ref c30), .val (.ref c32), .val (.ref c34), .val (.ref c36), .val (.long p1), .second, .val (.long p2), .second, .val (.long p3), .second, .val (.int (p6.toInt32)), .val (.int (1 : Int32)), .unset, .unset, .unset] := ⟨_, rfl⟩
            refine own_step (fun _ k => XS.istore X36.here hx rfl (hb hby at_223) rfl (l' := A74) (by rw [hA72, hA74]; exact rfl) k) ?_
            show own_Ends p e below F (T36.setTop (mkF m 225 A74 []))
            refine own_step (fun _ k => XS.goto X36.here hx rfl (pc0 := 225) (pc' := 378) rfl (hb hby at_225) (by decide) (by decide) k) ?_
            show own_Ends p e below F (T36.setTop (mkF m 378 A74 []))
            rw [hA74]
            exact J175_51 _ _ _ _ _ _ _ _ (by first | (simp only [if_true, if_false, c175_66, c202_71, c215_73]; done) | ((first | rw [if_pos c175_66] | rw [if_neg c175_66] | skip); (first | rw [if_pos c202_71] | rw [if_neg c202_71] | skip); (first | rw [if_pos c215_73] | rw [if_neg c215_73] | skip))) (by first | (simp only [if_true, if_false, c175_66, c202_71, c215_73]; done) | ((first | rw [if_pos c175_66] | rw [if_neg c175_66] | skip); (first | rw [if_pos c202_71] | rw [if_neg c202_71] | skip); (first | rw [if_pos c215_73] | rw [if_neg c215_73] | skip))) (by first | (simp only [if_true, if_false, c175_66, c202_71, c215_73]; done) | ((first | rw [if_pos c175_66] | rw [if_neg c175_66] | skip); (first | rw [if_pos c202_71] | rw [if_neg c202_71] | skip); (first | rw [if_pos c215_73] | rw [if_neg c215_73] | skip))) (by first | (simp only [if_true, if_false, c175_66, c202_71, c215_73]; done) | ((first | rw [if_pos c175_66] | rw [if_neg c175_66] | skip); (first | rw [if_pos c202_71] | rw [if_neg c202_71] | skip); (first | rw [if_pos c215_73] | rw [if_neg c215_73] | skip))) (by first | (simp only [if_true, if_false, c175_66, c202_71, c215_73]; done) | ((first | rw [if_pos c175_66] | rw [if_neg c175_66] | skip); (first | rw [if_pos c202_71] | rw [if_neg c202_71] | skip); (first | rw [if_pos c215_73] | rw [if_neg c215_73] | skip))) (by first | (simp only [if_true, if_false, c175_66, c202_71, c215_73]; done) | ((first | rw [if_pos c175_66] | rw [if_neg c175_66] | skip); (first | rw [if_pos c202_71] | rw [if_neg c202_71] | skip); (first | rw [if_pos c215_73] | rw [if_neg c215_73] | skip))) (by first | (simp only [if_true, if_false, c175_66, c202_71, c215_73]; done) | ((first | rw [if_pos c175_66] | rw [if_neg c175_66] | skip); (first | rw [if_pos c202_71] | rw [if_neg c202_71] | skip); (first | rw [if_pos c215_73] | rw [if_neg c215_73] | skip))) (by first | (simp only [if_true, if_false, c175_66, c202_71, c215_73]; done) | ((first | rw [if_pos c175_66] | rw [if_neg c175_66] | skip); (first | rw [if_pos c202_71] | rw [if_neg c202_71] | skip); (first | rw [if_pos c215_73] | rw [if_neg c215_73] | skip)))
          · refine own_step (fun _ k => XS.icmpYes X36.here hx rfl (pc0 := 215) (pc' := 222) rfl (hb hby at_215) rfl (feq c215_73).2 (by decide) (by decide) k) ?_
            show own_Ends p e below F (T36.setTop (mkF m 222 A72 []))
            refine own_step (fun _ k => XS.iconst X36.here hx rfl (hb hby at_222) k) ?_
            show own_Ends p e below F (T36.setTop (mkF m 223 A72 [(.int (0 : Int32))]))
            obtain ⟨A75, hA75⟩ : ∃ z : Array Slot, z = #[.val (.long p1), .second, .val (.long p2), .second, .val (.long p3), .second, .val (.int p4), .val (.int p5), .val (.long p6), .second, .val (.int v2), .val (.int v4), .val (.int v6), .val (.int v8), .val (.int v10), .val (.int z12), .val (.ref a17), .val (.ref z21), .val (.ref c26), .val (.ref c28), .val (.ref c30), .val (.ref c32), .val (.ref c34), .val (.ref c36), .val (.long p1), .second, .val (.long p2), .second, .val (.long p3), .second, .val (.int (p6.toInt32)), .val (.int (0 : Int32)), .unset, .unset, .unset] := ⟨_, rfl⟩
            refine own_step (fun _ k => XS.istore X36.here hx rfl (hb hby at_223) rfl (l' := A75) (by rw [hA72, hA75]; exact rfl) k) ?_
            show own_Ends p e below F (T36.setTop (mkF m 225 A75 []))
            refine own_step (fun _ k => XS.goto X36.here hx rfl (pc0 := 225) (pc' := 378) rfl (hb hby at_225) (by decide) (by decide) k) ?_
            show own_Ends p e below F (T36.setTop (mkF m 378 A75 []))
            rw [hA75]
            exact J175_51 _ _ _ _ _ _ _ _ (by first | (simp only [if_true, if_false, c175_66, c202_71, c215_73]; done) | ((first | rw [if_pos c175_66] | rw [if_neg c175_66] | skip); (first | rw [if_pos c202_71] | rw [if_neg c202_71] | skip); (first | rw [if_pos c215_73] | rw [if_neg c215_73] | skip))) (by first | (simp only [if_true, if_false, c175_66, c202_71, c215_73]; done) | ((first | rw [if_pos c175_66] | rw [if_neg c175_66] | skip); (first | rw [if_pos c202_71] | rw [if_neg c202_71] | skip); (first | rw [if_pos c215_73] | rw [if_neg c215_73] | skip))) (by first | (simp only [if_true, if_false, c175_66, c202_71, c215_73]; done) | ((first | rw [if_pos c175_66] | rw [if_neg c175_66] | skip); (first | rw [if_pos c202_71] | rw [if_neg c202_71] | skip); (first | rw [if_pos c215_73] | rw [if_neg c215_73] | skip))) (by first | (simp only [if_true, if_false, c175_66, c202_71, c215_73]; done) | ((first | rw [if_pos c175_66] | rw [if_neg c175_66] | skip); (first | rw [if_pos c202_71] | rw [if_neg c202_71] | skip); (first | rw [if_pos c215_73] | rw [if_neg c215_73] | skip))) (by first | (simp only [if_true, if_false, c175_66, c202_71, c215_73]; done) | ((first | rw [if_pos c175_66] | rw [if_neg c175_66] | skip); (first | rw [if_pos c202_71] | rw [if_neg c202_71] | skip); (first | rw [if_pos c215_73] | rw [if_neg c215_73] | skip))) (by first | (simp only [if_true, if_false, c175_66, c202_71, c215_73]; done) | ((first | rw [if_pos c175_66] | rw [if_neg c175_66] | skip); (first | rw [if_pos c202_71] | rw [if_neg c202_71] | skip); (first | rw [if_pos c215_73] | rw [if_neg c215_73] | skip))) (by first | (simp only [if_true, if_false, c175_66, c202_71, c215_73]; done) | ((first | rw [if_pos c175_66] | rw [if_neg c175_66] | skip); (first | rw [if_pos c202_71] | rw [if_neg c202_71] | skip); (first | rw [if_pos c215_73] | rw [if_neg c215_73] | skip))) (by first | (simp only [if_true, if_false, c175_66, c202_71, c215_73]; done) | ((first | rw [if_pos c175_66] | rw [if_neg c175_66] | skip); (first | rw [if_pos c202_71] | rw [if_neg c202_71] | skip); (first | rw [if_pos c215_73] | rw [if_neg c215_73] | skip)))
        · refine own_step (fun _ k => XS.icmpYes X36.here hx rfl (pc0 := 202) (pc' := 228) rfl (hb hby at_202) rfl (feq c202_71).2 (by decide) (by decide) k) ?_
          show own_Ends p e below F (T36.setTop (mkF m 228 A42 []))
          refine own_step (fun _ k => XS.iload X36.here hx rfl (hb hby at_228) (by rw [hA42]; rfl) k) ?_
          show own_Ends p e below F (T36.setTop (mkF m 230 A42 [(.int v8)]))
          refine own_step (fun _ k => XS.iconst X36.here hx rfl (hb hby at_230) k) ?_
          show own_Ends p e below F (T36.setTop (mkF m 231 A42 [(.int (3 : Int32)), (.int v8)]))
          by_cases c231_76 : v8 = (3 : Int32)
          · refine own_step (fun _ k => XS.icmpNo X36.here hx rfl (hb hby at_231) rfl (teq c231_76).2 k) ?_
            show own_Ends p e below F (T36.setTop (mkF m 234 A42 []))
            refine own_step (fun _ k => XS.lload X36.here hx rfl (hb hby at_234) (by rw [hA42]; rfl) k) ?_
            show own_Ends p e below F (T36.setTop (mkF m 236 A42 [(.long p6)]))
            obtain ⟨A77, hA77⟩ : ∃ z : Array Slot, z = #[.val (.long p1), .second, .val (.long p2), .second, .val (.long p3), .second, .val (.int p4), .val (.int p5), .val (.long p6), .second, .val (.int v2), .val (.int v4), .val (.int v6), .val (.int v8), .val (.int v10), .val (.int z12), .val (.ref a17), .val (.ref z21), .val (.ref c26), .val (.ref c28), .val (.ref c30), .val (.ref c32), .val (.ref c34), .val (.ref c36), .val (.long p1), .second, .val (.long p6), .second, .val (.long p3), .second, .val (.int p4), .val (.int (1 : Int32)), .unset, .unset, .unset] := ⟨_, rfl⟩
            refine own_step (fun _ k => XS.lstore X36.here hx rfl (hb hby at_236) rfl (l' := A77) (by rw [hA42, hA77]; exact rfl) k) ?_
            show own_Ends p e below F (T36.setTop (mkF m 238 A77 []))
            refine own_step (fun _ k => XS.lload X36.here hx rfl (hb hby at_238) (by rw [hA77]; rfl) k) ?_
            show own_Ends p e below F (T36.setTop (mkF m 240 A77 [(.long p6)]))
            refine own_step (fun _ k => XS.lloadN X36.here hx rfl (hb hby at_240) (by rw [hA77]; rfl) k) ?_
            show own_Ends p e below F (T36.setTop (mkF m 241 A77 [(.long p2), (.long p6)]))
            refine own_step (fun _ k => XS.lcmp X36.here hx rfl (hb hby at_241) rfl k) ?_
            show own_Ends p e below F (T36.setTop (mkF m 242 A77 [(.int (lcmpW p6 p2))]))
            by_cases c242_78 : p6 = p2
            · refine own_step (fun _ k => XS.ifNo X36.here hx rfl (hb hby at_242) rfl ((if0 _ _).trans (teq ((lw_eq _ _).mpr c242_78)).2) k) ?_
              show own_Ends p e below F (T36.setTop (mkF m 245 A77 []))
              refine own_step (fun _ k => XS.iconst X36.here hx rfl (hb hby at_245) k) ?_
              show own_Ends p e below F (T36.setTop (mkF m 246 A77 [(.int (1 : Int32))]))
              refine own_step (fun _ k => XS.goto X36.here hx rfl (pc0 := 246) (pc' := 250) rfl (hb hby at_246) (by decide) (by decide) k) ?_
              show own_Ends p e below F (T36.setTop (mkF m 250 A77 [(.int (1 : Int32))]))
              obtain ⟨A79, hA79⟩ : ∃ z : Array Slot, z = #[.val (.long p1), .second, .val (.long p2), .second, .val (.long p3), .second, .val (.int p4), .val (.int p5), .val (.long p6), .second, .val (.int v2), .val (.int v4), .val (.int v6), .val (.int v8), .val (.int v10), .val (.int z12), .val (.ref a17), .val (.ref z21), .val (.ref c26), .val (.ref c28), .val (.ref c30), .val (.ref c32), .val (.ref c34), .val (.ref c36), .val (.long p1), .second, .val (.long p6), .second, .val (.long p3), .second, .val (.int p4), .val (.int (1 : Int32)), .unset, .unset, .unset] := ⟨_, rfl⟩
              refine own_step (fun _ k => XS.istore X36.here hx rfl (hb hby at_250) rfl (l' := A79) (by rw [hA77, hA79]; exact rfl) k) ?_
              show own_Ends p e below F (T36.setTop (mkF m 252 A79 []))
              refine own_step (fun _ k => XS.goto X36.here hx rfl (pc0 := 252) (pc' := 378) rfl (hb hby at_252) (by decide) (by decide) k) ?_
              show own_Ends p e below F (T36.setTop (mkF m 378 A79 []))
              rw [hA79]
              exact J175_51 _ _ _ _ _ _ _ _ (by first | (simp only [if_true, if_false, c175_66, c202_71, c231_76, c242_78]; done) | ((first | rw [if_pos c175_66] | rw [if_neg c175_66] | skip); (first | rw [if_pos c202_71] | rw [if_neg c202_71] | skip); (first | rw [if_pos c231_76] | rw [if_neg c231_76] | skip); (first | rw [if_pos c242_78] | rw [if_neg c242_78] | skip))) (by first | (simp only [if_true, if_false, c175_66, c202_71, c231_76, c242_78]; done) | ((first | rw [if_pos c175_66] | rw [if_neg c175_66] | skip); (first | rw [if_pos c202_71] | rw [if_neg c202_71] | skip); (first | rw [if_pos c231_76] | rw [if_neg c231_76] | skip); (first | rw [if_pos c242_78] | rw [if_neg c242_78] | skip))) (by first | (simp only [if_true, if_false, c175_66, c202_71, c231_76, c242_78]; done) | ((first | rw [if_pos c175_66] | rw [if_neg c175_66] | skip); (first | rw [if_pos c202_71] | rw [if_neg c202_71] | skip); (first | rw [if_pos c231_76] | rw [if_neg c231_76] | skip); (first | rw [if_pos c242_78] | rw [if_neg c242_78] | skip))) (by first | (simp only [if_true, if_false, c175_66, c202_71, c231_76, c242_78]; done) | ((first | rw [if_pos c175_66] | rw [if_neg c175_66] | skip); (first | rw [if_pos c202_71] | rw [if_neg c202_71] | skip); (first | rw [if_pos c231_76] | rw [if_neg c231_76] | skip); (first | rw [if_pos c242_78] | rw [if_neg c242_78] | skip))) (by first | (simp only [if_true, if_false, c175_66, c202_71, c231_76, c242_78]; done) | ((first | rw [if_pos c175_66] | rw [if_neg c175_66] | skip); (first | rw [if_pos c202_71] | rw [if_neg c202_71] | skip); (first | rw [if_pos c231_76] | rw [if_neg c231_76] | skip); (first | rw [if_pos c242_78] | rw [if_neg c242_78] | skip))) (by first | (simp only [if_true, if_false, c175_66, c202_71, c231_76, c242_78]; done) | ((first | rw [if_pos c175_66] | rw [if_neg c175_66] | skip); (first | rw [if_pos c202_71] | rw [if_neg c202_71] | skip); (first | rw [if_pos c231_76] | rw [if_neg c231_76] | skip); (first | rw [if_pos c242_78] | rw [if_neg c242_78] | skip))) (by first | (simp only [if_true, if_false, c175_66, c202_71, c231_76, c242_78]; done) | ((first | rw [if_pos c175_66] | rw [if_neg c175_66] | skip); (first | rw [if_pos c202_71] | rw [if_neg c202_71] | skip); (first | rw [if_pos c231_76] | rw [if_neg c231_76] | skip); (first | rw [if_pos c242_78] | rw [if_neg c242_78] | skip))) (by first | (simp only [if_true, if_false, c175_66, c202_71, c231_76, c242_78]; done) | ((first | rw [if_pos c175_66] | rw [if_neg c175_66] | skip); (first | rw [if_pos c202_71] | rw [if_neg c202_71] | skip); (first | rw [if_pos c231_76] | rw [if_neg c231_76] | skip); (first | rw [if_pos c242_78] | rw [if_neg c242_78] | skip)))
            · refine own_step (fun _ k => XS.ifYes X36.here hx rfl (pc0 := 242) (pc' := 249) rfl (hb hby at_242) rfl ((if0 _ _).trans (feq (fun q => c242_78 ((lw_eq _ _).mp q))).2) (by decide) (by decide) k) ?_
              show own_Ends p e below F (T36.setTop (mkF m 249 A77 []))
              refine own_step (fun _ k => XS.iconst X36.here hx rfl (hb hby at_249) k) ?_
              show own_Ends p e below F (T36.setTop (mkF m 250 A77 [(.int (0 : Int32))]))
              obtain ⟨A80, hA80⟩ : ∃ z : Array Slot, z = #[.val (.long p1), .second, .val (.long p2), .second, .val (.long p3), .second, .val (.int p4), .val (.int p5), .val (.long p6), .second, .val (.int v2), .val (.int v4), .val (.int v6), .val (.int v8), .val (.int v10), .val (.int z12), .val (.ref a17), .val (.ref z21), .val (.ref c26), .val (.ref c28), .val (.ref c30), .val (.ref c32), .val (.ref c34), .val (.ref c36), .val (.long p1), .second, .val (.long p6), .second, .val (.long p3), .second, .val (.int p4), .val (.int (0 : Int32)), .unset, .unset, .unset] := ⟨_, rfl⟩
              refine own_step (fun _ k => XS.istore X36.here hx rfl (hb hby at_250) rfl (l' := A80) (by rw [hA77, hA80]; exact rfl) k) ?_
              show own_Ends p e below F (T36.setTop (mkF m 252 A80 []))
              refine own_step (fun _ k => XS.goto X36.here hx rfl (pc0 := 252) (pc' := 378) rfl (hb hby at_252) (by decide) (by decide) k) ?_
              show own_Ends p e below F (T36.setTop (mkF m 378 A80 []))
              rw [hA80]
              exact J175_51 _ _ _ _ _ _ _ _ (by first | (simp only [if_true, if_false, c175_66, c202_71, c231_76, c242_78]; done) | ((first | rw [if_pos c175_66] | rw [if_neg c175_66] | skip); (first | rw [if_pos c202_71] | rw [if_neg c202_71] | skip); (first | rw [if_pos c231_76] | rw [if_neg c231_76] | skip); (first | rw [if_pos c242_78] | rw [if_neg c242_78] | skip))) (by first | (simp only [if_true, if_false, c175_66, c202_71, c231_76, c242_78]; done) | ((first | rw [if_pos c175_66] | rw [if_neg c175_66] | skip); (first | rw [if_pos c202_71] | rw [if_neg c202_71] | skip); (first | rw [if_pos c231_76] | rw [if_neg c231_76] | skip); (first | rw [if_pos c242_78] | rw [if_neg c242_78] | skip))) (by first | (simp only [if_true, if_false, c175_66, c202_71, c231_76, c242_78]; done) | ((first | rw [if_pos c175_66] | rw [if_neg c175_66] | skip); (first | rw [if_pos c202_71] | rw [if_neg c202_71] | skip); (first | rw [if_pos c231_76] | rw [if_neg c231_76] | skip); (first | rw [if_pos c242_78] | rw [if_neg c242_78] | skip))) (by first | (simp only [if_true, if_false, c175_66, c202_71, c231_76, c242_78]; done) | ((first | rw [if_pos c175_66] | rw [if_neg c175_66] | skip); (first | rw [if_pos c202_71] | rw [if_neg c202_71] | skip); (first | rw [if_pos c231_76] | rw [if_neg c231_76] | skip); (first | rw [if_pos c242_78] | rw [if_neg c242_78] | skip))) (by first | (simp only [if_true, if_false, c175_66, c202_71, c231_76, c242_78]; done) | ((first | rw [if_pos c175_66] | rw [if_neg c175_66] | skip); (first | rw [if_pos c202_71] | rw [if_neg c202_71] | skip); (first | rw [if_pos c231_76] | rw [if_neg c231_76] | skip); (first | rw [if_pos c242_78] | rw [if_neg c242_78] | skip))) (by first | (simp only [if_true, if_false, c175_66, c202_71, c231_76, c242_78]; done) | ((first | rw [if_pos c175_66] | rw [if_neg c175_66] | skip); (first | rw [if_pos c202_71] | rw [if_neg c202_71] | skip); (first | rw [if_pos c231_76] | rw [if_neg c231_76] | skip); (first | rw [if_pos c242_78] | rw [if_neg c242_78] | skip))) (by first | (simp only [if_true, if_false, c175_66, c202_71, c231_76, c242_78]; done) | ((first | rw [if_pos c175_66] | rw [if_neg c175_66] | skip); (first | rw [if_pos c202_71] | rw [if_neg c202_71] | skip); (first | rw [if_pos c231_76] | rw [if_neg c231_76] | skip); (first | rw [if_pos c242_78] | rw [if_neg c242_78] | skip))) (by first | (simp only [if_true, if_false, c175_66, c202_71, c231_76, c242_78]; done) | ((first | rw [if_pos c175_66] | rw [if_neg c175_66] | skip); (first | rw [if_pos c202_71] | rw [if_neg c202_71] | skip); (first | rw [if_pos c231_76] | rw [if_neg c231_76] | skip); (first | rw [if_pos c242_78] | rw [if_neg c242_78] | skip)))
          · refine own_step (fun _ k => XS.icmpYes X36.here hx rfl (pc0 := 231) (pc' := 255) rfl (hb hby at_231) rfl (feq c231_76).2 (by decide) (by decide) k) ?_
            show own_Ends p e below F (T36.setTop (mkF m 255 A42 []))
            refine own_step (fun _ k => XS.iload X36.here hx rfl (hb hby at_255) (by rw [hA42]; rfl) k) ?_
            show own_Ends p e below F (T36.setTop (mkF m 257 A42 [(.int v8)]))
            refine own_step (fun _ k => XS.iconst X36.here hx rfl (hb hby at_257) k) ?_
            show own_Ends p e below F (T36.setTop (mkF m 258 A42 [(.int (4 : Int32)), (.int v8)]))
            by_cases c258_81 : v8 = (4 : Int32)
            · refine own_step (fun _ k => XS.icmpNo X36.here hx rfl (hb hby at_258) rfl (teq c258_81).2 k) ?_
              show own_Ends p e below F (T36.setTop (mkF m 261 A42 []))
              refine own_step (fun _ k => XS.lload X36.here hx rfl (hb hby at_261) (by rw [hA42]; rfl) k) ?_
              show own_Ends p e below F (T36.setTop (mkF m 263 A42 [(.long p6)]))
              obtain ⟨A82, hA82⟩ : ∃ z : Array Slot, z = #[.val (.long p1), .second, .val (.long p2), .second, .val (.long p3), .second, .val (.int p4), .val (.int p5), .val (.long p6), .second, .val (.int v2), .val (.int v4), .val (.int v6), .val (.int v8), .val (.int v10), .val (.int z12), .val (.ref a17), .val (.ref z21), .val (.ref c26), .val (.ref c28), .val (.ref c30), .val (.ref c32), .val (.ref c34), .val (.ref c36), .val (.long p1), .second, .val (.long p2), .second, .val (.long p6), .second, .val (.int p4), .val (.int (1 : Int32)), .unset, .unset, .unset] := ⟨_, rfl⟩
              refine own_step (fun _ k => XS.lstore X36.here hx rfl (hb hby at_263) rfl (l' := A82) (by rw [hA42, hA82]; exact rfl) k) ?_
              show own_Ends p e below F (T36.setTop (mkF m 265 A82 []))
              refine own_step (fun _ k => XS.lload X36.here hx rfl (hb hby at_265) (by rw [hA82]; rfl) k) ?_
              show own_Ends p e below F (T36.setTop (mkF m 267 A82 [(.long p6)]))
              refine own_step (fun _ k => XS.lload X36.here hx rfl (hb hby at_267) (by rw [hA82]; rfl) k) ?_
              show own_Ends p e below F (T36.setTop (mkF m 269 A82 [(.long p3), (.long p6)]))
              refine own_step (fun _ k => XS.lcmp X36.here hx rfl (hb hby at_269) rfl k) ?_
              show own_Ends p e below F (T36.setTop (mkF m 270 A82 [(.int (lcmpW p6 p3))]))
              by_cases c270_83 : p6 = p3
              · refine own_step (fun _ k => XS.ifNo X36.here hx rfl (hb hby at_270) rfl ((if0 _ _).trans (teq ((lw_eq _ _).mpr c270_83)).2) k) ?_
                show own_Ends p e below F (T36.setTop (mkF m 273 A82 []))
                refine own_step (fun _ k => XS.iconst X36.here hx rfl (hb hby at_273) k) ?_
                show own_Ends p e below F (T36.setTop (mkF m 274 A82 [(.int (1 : Int32))]))
                refine own_step (fun _ k => XS.goto X36.here hx rfl (pc0 := 274) (pc' := 278) rfl (hb hby at_274) (by decide) (by decide) k) ?_
                show own_Ends p e below F (T36.setTop (mkF m 278 A82 [(.int (1 : Int32))]))
                obtain ⟨A84, hA84⟩ : ∃ z : Array Slot, z = #[.val (.long p1), .second, .val (.long p2), .second, .val (.long p3), .second, .val (.int p4), .val (.int p5), .val (.long p6), .second, .val (.int v2), .val (.int v4), .val (.int v6), .val (.int v8), .val (.int v10), .val (.int z12), .val (.ref a17), .val (.ref z21), .val (.ref c26), .val (.ref c28), .val (.ref c30), .val (.ref c32), .val (.ref c34), .val (.ref c36), .val (.long p1), .second, .val (.long p2), .second, .val (.long p6), .second, .val (.int p4), .val (.int (1 : Int32)), .unset, .unset, .unset] := ⟨_, rfl⟩
                refine own_step (fun _ k => XS.istore X36.here hx rfl (hb hby at_278) rfl (l' := A84) (by rw [hA82, hA84]; exact rfl) k) ?_
                show own_Ends p e below F (T36.setTop (mkF m 280 A84 []))
                refine own_step (fun _ k => XS.goto X36.here hx rfl (pc0 := 280) (pc' := 378) rfl (hb hby at_280) (by decide) (by decide) k) ?_
                show own_Ends p e below F (T36.setTop (mkF m 378 A84 []))
                rw [hA84]
                exact J175_51 _ _ _ _ _ _ _ _ (by first | (simp only [if_true, if_false, c175_66, c202_71, c231_76, c258_81, c270_83]; done) | ((first | rw [if_pos c175_66] | rw [if_neg c175_66] | skip); (first | rw [if_pos c202_71] | rw [if_neg c202_71] | skip); (first | rw [if_pos c231_76] | rw [if_neg c231_76] | skip); (first | rw [if_pos c258_81] | rw [if_neg c258_81] | skip); (first | rw [if_pos c270_83] | rw [if_neg c270_83] | skip))) (by first | (simp only [if_true, if_false, c175_66, c202_71, c231_76, c258_81, c270_83]; done) | ((first | rw [if_pos c175_66] | rw [if_neg c175_66] | skip); (first | rw [if_pos c202_71] | rw [if_neg c202_71] | skip); (first | rw [if_pos c231_76] | rw [if_neg c231_76] | skip); (first | rw [if_pos c258_81] | rw [if_neg c258_81] | skip); (first | rw [if_pos c270_83] | rw [if_neg c270_83] | skip))) (by first | (simp only [if_true, if_false, c175_66, c202_71, c231_76, c258_81, c270_83]; done) | ((first | rw [if_pos c175_66] | rw [if_neg c175_66] | skip); (first | rw [if_pos c202_71] | rw [if_neg c202_71] | skip); (first | rw [if_pos c231_76] | rw [if_neg c231_76] | skip); (first | rw [if_pos c258_81] | rw [if_neg c258_81] | skip); (first | rw [if_pos c270_83] | rw [if_neg c270_83] | skip))) (by first | (simp only [if_true, if_false, c175_66, c202_71, c231_76, c258_81, c270_83]; done) | ((first | rw [if_pos c175_66] | rw [if_neg c175_66] | skip); (first | rw [if_pos c202_71] | rw [if_neg c202_71] | skip); (first | rw [if_pos c231_76] | rw [if_neg c231_76] | skip); (first | rw [if_pos c258_81] | rw [if_neg c258_81] | skip); (first | rw [if_pos c270_83] | rw [if_neg c270_83] | skip))) (by first | (simp only [if_true, if_false, c175_66, c202_71, c231_76, c258_81, c270_83]; done) | ((first | rw [if_pos c175_66] | rw [if_neg c175_66] | skip); (first | rw [if_pos c202_71] | rw [if_neg c202_71] | skip); (first | rw [if_pos c231_76] | rw [if_neg c231_76] | skip); (first | rw [if_pos c258_81] | rw [if_neg c258_81] | skip); (first | rw [if_pos c270_83] | rw [if_neg c270_83] | skip))) (by first | (simp only [if_true, if_false, c175_66, c202_71, c231_76, c258_81, c270_83]; done) | ((first | rw [if_pos c175_66] | rw [if_neg c175_66] | skip); (first | rw [if_pos c202_71] | rw [if_neg c202_71] | skip); (first | rw [if_pos c231_76] | rw [if_neg c231_76] | skip); (first | rw [if_pos c258_81] | rw [if_neg c258_81] | skip); (first | rw [if_pos c270_83] | rw [if_neg c270_83] | skip))) (by first | (simp only [if_true, if_false, c175_66, c202_71, c231_76, c258_81, c270_83]; done) | ((first | rw [if_pos c175_66] | rw [if_neg c175_66] | skip); (first | rw [if_pos c202_71] | rw [if_neg c202_71] | skip); (first | rw [if_pos c231_76] | rw [if_neg c231_76] | skip); (first | rw [if_pos c258_81] | rw [if_neg c258_81] | skip); (first | rw [if_pos c270_83] | rw [if_neg c270_83] | skip))) (by first | (simp only [if_true, if_false, c175_66, c202_71, c231_76, c258_81, c270_83]; done) | ((first | rw [if_pos c175_66] | rw [if_neg c175_66] | skip); (first | rw [if_pos c202_71] | rw [if_neg c202_71] | skip); (first | rw [if_pos c231_76] | rw [if_neg c231_76] | skip); (first | rw [if_pos c258_81] | rw [if_neg c258_81] | skip); (first | rw [if_pos c270_83] | rw [if_neg c270_83] | skip)))
              · refine own_step (fun _ k => XS.ifYes X36.here hx rfl (pc0 := 270) (pc' := 277) rfl (hb hby at_270) rfl ((if0 _ _).trans (feq (fun q => c270_83 ((lw_eq _ _).mp q))).2) (by decide) (by decide) k) ?_
                show own_Ends p e below F (T36.setTop (mkF m 277 A82 []))
                refine own_step (fun _ k => XS.iconst X36.here hx rfl (hb hby at_277) k) ?_
                show own_Ends p e below F (T36.setTop (mkF m 278 A82 [(.int (0 : Int32))]))
                obtain ⟨A85, hA85⟩ : ∃ z : Array Slot, z = #[.val (.long p1), .second, .val (.long p2), .second, .val (.long p3), .second, .val (.int p4), .val (.int p5), .val (.long p6), .second, .val (.int v2), .val (.int v4), .val (.int v6), .val (.int v8), .val (.int v10), .val (.int z12), .val (.ref a17), .val (.ref z21), .val (.ref c26), .val (.ref c28), .val (.ref c30), .val (.ref c32), .val (.ref c34), .val (.ref c36), .val (.long p1), .second, .val (.long p2), .second, .val (.long p6), .second, .val (.int p4), .val (.int (0 : Int32)), .unset, .unset, .unset] := ⟨_, rfl⟩
                refine own_step (fun _ k => XS.istore X36.here hx rfl (hb hby at_278) rfl (l' := A85) (by rw [hA82, hA85]; exact rfl) k) ?_
                show own_Ends p e below F (T36.setTop (mkF m 280 A85 []))
                refine own_step (fun _ k => XS.goto X36.here hx rfl (pc0 := 280) (pc' := 378) rfl (hb hby at_280) (by decide) (by decide) k) ?_
                show own_Ends p e below F (T36.setTop (mkF m 378 A85 []))
                rw [hA85]
                exact J175_51 _ _ _ _ _ _ _ _ (by first | (simp only [if_true, if_false, c175_66, c202_71, c231_76, c258_81, c270_83]; done) | ((first | rw [if_pos c175_66] | rw [if_neg c175_66] | skip); (first | rw [if_pos c202_71] | rw [if_neg c202_71] | skip); (first | rw [if_pos c231_76] | rw [if_neg c231_76] | skip); (first | rw [if_pos c258_81] | rw [if_neg c258_81] | skip); (first | rw [if_pos c270_83] | rw [if_neg c270_83] | skip))) (by first | (simp only [if_true, if_false, c175_66, c202_71, c231_76, c258_81, c270_83]; done) | ((first | rw [if_pos c175_66] | rw [if_neg c175_66] | skip); (first | rw [if_pos c202_71] | rw [if_neg c202_71] | skip); (first | rw [if_pos c231_76] | rw [if_neg c231_76] | skip); (first | rw [if_pos c258_81] | rw [if_neg c258_81] | skip); (first | rw [if_pos c270_83] | rw [if_neg c270_83] | skip))) (by first | (simp only [if_true, if_false, c175_66, c202_71, c231_76, c258_81, c270_83]; done) | ((first | rw [if_pos c175_66] | rw [if_neg c175_66] | skip); (first | rw [if_pos c202_71] | rw [if_neg c202_71] | skip); (first | rw [if_pos c231_76] | rw [if_neg c231_76] | skip); (first | rw [if_pos c258_81] | rw [if_neg c258_81] | skip); (first | rw [if_pos c270_83] | rw [if_neg c270_83] | skip))) (by first | (simp only [if_true, if_false, c175_66, c202_71, c231_76, c258_81, c270_83]; done) | ((first | rw [if_pos c175_66] | rw [if_neg c175_66] | skip); (first | rw [if_pos c202_71] | rw [if_neg c202_71] | skip); (first | rw [if_pos c231_76] | rw [if_neg c231_76] | skip); (first | rw [if_pos c258_81] | rw [if_neg c258_81] | skip); (first | rw [if_pos c270_83] | rw [if_neg c270_83] | skip))) (by first | (simp only [if_true, if_false, c175_66, c202_71, c231_76, c258_81, c270_83]; done) | ((first | rw [if_pos c175_66] | rw [if_neg c175_66] | skip); (first | rw [if_pos c202_71] | rw [if_neg c202_71] | skip); (first | rw [if_pos c231_76] | rw [if_neg c231_76] | skip); (first | rw [if_pos c258_81] | rw [if_neg c258_81] | skip); (first | rw [if_pos c270_83] | rw [if_neg c270_83] | skip))) (by first | (simp only [if_true, if_false, c175_66, c202_71, c231_76, c258_81, c270_83]; done) | ((first | rw [if_pos c175_66] | rw [if_neg c175_66] | skip); (first | rw [if_pos c202_71] | rw [if_neg c202_71] | skip); (first | rw [if_pos c231_76] | rw [if_neg c231_76] | skip); (first | rw [if_pos c258_81] | rw [if_neg c258_81] | skip); (first | rw [if_pos c270_83] | rw [if_neg c270_83] | skip))) (by first | (simp only [if_true, if_false, c175_66, c202_71, c231_76, c258_81, c270_83]; done) | ((first | rw [if_pos c175_66] | rw [if_neg c175_66] | skip); (first | rw [if_pos c202_71] | rw [if_neg c202_71] | skip); (first | rw [if_pos c231_76] | rw [if_neg c231_76] | skip); (first | rw [if_pos c258_81] | rw [if_neg c258_81] | skip); (first | rw [if_pos c270_83] | rw [if_neg c270_83] | skip))) (by first | (simp only [if_true, if_false, c175_66, c202_71, c231_76, c258_81, c270_83]; done) | ((first | rw [if_pos c175_66] | rw [if_neg c175_66] | skip); (first | rw [if_pos c202_71] | rw [if_neg c202_71] | skip); (first | rw [if_pos c231_76] | rw [if_neg c231_76] | skip); (first | rw [if_pos c258_81] | rw [if_neg c258_81] | skip); (first | rw [if_pos c270_83] | rw [if_neg c270_83] | skip)))
            · refine own_step (fun _ k => XS.icmpYes X36.here hx rfl (pc0 := 258) (pc' := 283) rfl (hb hby at_258) rfl (feq c258_81).2 (by decide) (by decide) k) ?_
              show own_Ends p e below F (T36.setTop (mkF m 283 A42 []))
              refine own_step (fun _ k => XS.iload X36.here hx rfl (hb hby at_283) (by rw [hA42]; rfl) k) ?_
              show own_Ends p e below F (T36.setTop (mkF m 285 A42 [(.int v8)]))
              refine own_step (fun _ k => XS.iconst X36.here hx rfl (hb hby at_285) k) ?_
              show own_Ends p e below F (T36.setTop (mkF m 286 A42 [(.int (5 : Int32)), (.int v8)]))
              by_cases c286_86 : v8 = (5 : Int32)
              · refine own_step (fun _ k => XS.icmpNo X36.here hx rfl (hb hby at_286) rfl (teq c286_86).2 k) ?_
                show own_Ends p e below F (T36.setTop (mkF m 289 A42 []))
                refine own_step (fun _ k => XS.aload X36.here hx rfl (hb hby at_289) (by rw [hA42]; rfl) rfl k) ?_
                show own_Ends p e below F (T36.setTop (mkF m 291 A42 [(.ref z21)]))
                obtain ⟨A87, hA87⟩ : ∃ z : Array Slot, z = #[.val (.long p1), .second, .val (.long p2), .second, .val (.long p3), .second, .val (.int p4), .val (.int p5), .val (.long p6), .second, .val (.int v2), .val (.int v4), .val (.int v6), .val (.int v8), .val (.int v10), .val (.int z12), .val (.ref a17), .val (.ref z21), .val (.ref c26), .val (.ref c28), .val (.ref c30), .val (.ref z21), .val (.ref c34), .val (.ref c36), .val (.long p1), .second, .val (.long p2), .second, .val (.long p3), .second, .val (.int p4), .val (.int (1 : Int32)), .unset, .unset, .unset] := ⟨_, rfl⟩
                refine own_step (fun _ k => XS.astore X36.here hx rfl (hb hby at_291) rfl rfl (l' := A87) (by rw [hA42, hA87]; exact rfl) k) ?_
                show own_Ends p e below F (T36.setTop (mkF m 293 A87 []))
                refine own_step (fun _ k => XS.iload X36.here hx rfl (hb hby at_293) (by rw [hA87]; rfl) k) ?_
                show own_Ends p e below F (T36.setTop (mkF m 295 A87 [(.int z12)]))
                by_cases c295_88 : z12 = (0 : Int32)
                · refine own_step (fun _ k => XS.ifNo X36.here hx rfl (hb hby at_295) rfl ((if0 _ _).trans (teq c295_88).2) k) ?_
                  show own_Ends p e below F (T36.setTop (mkF m 298 A87 []))
                  refine own_step (fun _ k => XS.iload X36.here hx rfl (hb hby at_298) (by rw [hA87]; rfl) k) ?_
                  show own_Ends p e below F (T36.setTop (mkF m 300 A87 [(.int v10)]))
                  refine own_step (fun _ k => XS.iload X36.here hx rfl (hb hby at_300) (by rw [hA87]; rfl) k) ?_
                  show own_Ends p e below F (T36.setTop (mkF m 302 A87 [(.int v2), (.int v10)]))
                  by_cases c302_89 : v10 = v2
                  · refine own_step (fun _ k => XS.icmpNo X36.here hx rfl (hb hby at_302) rfl (teq c302_89).2 k) ?_
                    show own_Ends p e below F (T36.setTop (mkF m 305 A87 []))
                    refine own_step (fun _ k => XS.iconst X36.here hx rfl (hb hby at_305) k) ?_
                    show own_Ends p e below F (T36.setTop (mkF m 306 A87 [(.int (1 : Int32))]))
                    refine own_step (fun _ k => XS.goto X36.here hx rfl (pc0 := 306) (pc' := 310) rfl (hb hby at_306) (by decide) (by decide) k) ?_
                    show own_Ends p e below F (T36.setTop (mkF m 310 A87 [(.int (1 : Int32))]))
                    obtain ⟨A90, hA90⟩ : ∃ z : Array Slot, z = #[.val (.long p1), .second, .val (.long p2), .second, .val (.long p3), .second, .val (.int p4), .val (.int p5), .val (.long p6), .second, .val (.int v2), .val (.int v4), .val (.int v6), .val (.int v8), .val (.int v10), .val (.int z12), .val (.ref a17), .val (.ref z21), .val (.ref c26), .val (.ref c28), .val (.ref c30), .val (.ref z21), .val (.ref c34), .val (.ref c36), .val (.long p1), .second, .val (.long p2), .second, .val (.long p3), .second, .val (.int p4), .val (.int (1 : Int32)), .unset, .unset, .unset] := ⟨_, rfl⟩
                    refine own_step (fun _ k => XS.istore X36.here hx rfl (hb hby at_310) rfl (l' := A90) (by rw [hA87, hA90]; exact rfl) k) ?_
                    show own_Ends p e below F (T36.setTop (mkF m 312 A90 []))
                    refine own_step (fun _ k => XS.goto X36.here hx rfl (pc0 := 312) (pc' := 378) rfl (hb hby at_312) (by decide) (by decide) k) ?_
                    show own_Ends p e below F (T36.setTop (mkF m 378 A90 []))
                    rw [hA90]
                    exact J175_51 _ _ _ _ _ _ _ _ (by first | (simp only [if_true, if_false, c175_66, c202_71, c231_76, c258_81, c286_86, c295_88, c302_89]; done) | ((first | rw [if_pos c175_66] | rw [if_neg c175_66] | skip); (first | rw [if_pos c202_71] | rw [if_neg c202_71] | skip); (first | rw [if_pos c231_76] | rw [if_neg c231_76] | skip); (first | rw [if_pos c258_81] | rw [if_neg c258_81] | skip); (first | rw [if_pos c286_86] | rw [if_neg c286_86] | skip); (first | rw [if_pos c295_88] | rw [if_neg c295_88] | skip); (first | rw [if_pos c302_89] | rw [if_neg c302_89] | skip))) (by first | (simp only [if_true, if_false, c175_66, c202_71, c231_76, c258_81, c286_86, c295_88, c302_89]; done) | ((first | rw [if_pos c175_66] | rw [if_neg c175_66] | skip); (first | rw [if_pos c202_71] | rw [if_neg c202_71] | skip); (first | rw [if_pos c231_76] | rw [if_neg c231_76] | skip); (first | rw [if_pos c258_81] | rw [if_neg c258_81] | skip); (first | rw [if_pos c286_86] | rw [if_neg c286_86] | skip); (first | rw [if_pos c295_88] | rw [if_neg c295_88] | skip); (first | rw [if_pos c302_89] | rw [if_neg c302_89] | skip))) (by first | (simp only [if_true, if_false, c175_66, c202_71, c231_76, c258_81, c286_86, c295_88, c302_89]; done) | ((first | rw [if_pos c175_66] | rw [if_neg c175_66] | skip); (first | rw [if_pos c202_71] | rw [if_neg c202_71] | skip); (first | rw [if_pos c231_76] | rw [if_neg c231_76] | skip); (first | rw [if_pos c258_81] | rw [if_neg c258_81] | skip); (first | rw [if_pos c286_86] | rw [if_neg c286_86] | skip); (first | rw [if_pos c295_88] | rw [if_neg c295_88] | skip); (first | rw [if_pos c302_89] | rw [if_neg c302_89] | skip))) (by first | (simp only [if_true, if_false, c175_66, c202_71, c231_76, c258_81, c286_86, c295_88, c302_89]; done) | ((first | rw [if_pos c175_66] | rw [if_neg c175_66] | skip); (first | rw [if_pos c202_71] | rw [if_neg c202_71] | skip); (first | rw [if_pos c231_76] | rw [if_neg c231_76] | skip); (first | rw [if_pos c258_81] | rw [if_neg c258_81] | skip); (first | rw [if_pos c286_86] | rw [if_neg c286_86] | skip); (first | rw [if_pos c295_88] | rw [if_neg c295_88] | skip); (first | rw [if_pos c302_89] | rw [if_neg c302_89] | skip))) (by first | (simp only [if_true, if_false, c175_66, c202_71, c231_76, c258_81, c286_86, c295_88, c302_89]; done) | ((first | rw [if_pos c175_66] | rw [if_neg c175_66] | skip); (first | rw [if_pos c202_71] | rw [if_neg c202_71] | skip); (first | rw [if_pos c231_76] | rw [if_neg c231_76] | skip); (first | rw [if_pos c258_81] | rw [if_neg c258_81] | skip); (first | rw [if_pos c286_86] | rw [if_neg c286_86] | skip); (first | rw [if_pos c295_88] | rw [if_neg c295_88] | skip); (first | rw [if_pos c302_89] | rw [if_neg c302_89] | skip))) (by first | (simp only [if_true, if_false, c175_66, c202_71, c231_76, c258_81, c286_86, c295_88, c302_89]; done) | ((first | rw [if_pos c175_66] | rw [if_neg c175_66] | skip); (first | rw [if_pos c202_71] | rw [if_neg c202_71] | skip); (first | rw [if_pos c231_76] | rw [if_neg c231_76] | skip); (first | rw [if_pos c258_81] | rw [if_neg c258_81] | skip); (first | rw [if_pos c286_86] | rw [if_neg c286_86] | skip); (first | rw [if_pos c295_88] | rw [if_neg c295_88] | skip); (first | rw [if_pos c302_89] | rw [if_neg c302_89] | skip))) (by first | (simp only [if_true, if_false, c175_66, c202_71, c231_76, c258_81, c286_86, c295_88, c302_89]; done) | ((first | rw [if_pos c175_66] | rw [if_neg c175_66] | skip); (first | rw [if_pos c202_71] | rw [if_neg c202_71] | skip); (first | rw [if_pos c231_76] | rw [if_neg c231_76] | skip); (first | rw [if_pos c258_81] | rw [if_neg c258_81] | skip); (first | rw [if_pos c286_86] | rw [if_neg c286_86] | skip); (first | rw [if_pos c295_88] | rw [if_neg c295_88] | skip); (first | rw [if_pos c302_89] | rw [if_neg c302_89] | skip))) (by first | (simp only [if_true, if_false, c175_66, c202_71, c231_76, c258_81, c286_86, c295_88, c302_89]; done) | ((first | rw [if_pos c175_66] | rw [if_neg c175_66] | skip); (first | rw [if_pos c202_71] | rw [if_neg c202_71] | skip); (first | rw [if_pos c231_76] | rw [if_neg c231_76] | skip); (first | rw [if_pos c258_81] | rw [if_neg c258_81] | skip); (first | rw [if_pos c286_86] | rw [if_neg c286_86] | skip); (first | rw [if_pos c295_88] | rw [if_neg c295_88] | skip); (first | rw [if_pos c302_89] | rw [if_neg c302_89] | skip)))
                  · refine own_step (fun _ k => XS.icmpYes X36.here hx rfl (pc0 := 302) (pc' := 309) rfl (hb hby at_302) rfl (feq c302_89).2 (by decide) (by decide) k) ?_
                    show own_Ends p e below F (T36.setTop (mkF m 309 A87 []))
                    refine own_step (fun _ k => XS.iconst X36.here hx rfl (hb hby at_309) k) ?_
                    show own_Ends p e below F (T36.setTop (mkF m 310 A87 [(.int (0 : Int32))]))
                    obtain ⟨A91, hA91⟩ : ∃ z : Array Slot, z = #[.val (.long p1), .second, .val (.long p2), .second, .val (.long p3), .second, .val (.int p4), .val (.int p5), .val (.long p6), .second, .val (.int v2), .val (.int v4), .val (.int v6), .val (.int v8), .val (.int v10), .val (.int z12), .val (.ref a17), .val (.ref z21), .val (.ref c26), .val (.ref c28), .val (.ref c30), .val (.ref z21), .val (.ref c34), .val (.ref c36), .val (.long p1), .second, .val (.long p2), .second, .val (.long p3), .second, .val (.int p4), .val (.int (0 : Int32)), .unset, .unset, .unset] := ⟨_, rfl⟩
                    refine own_step (fun _ k => XS.istore X36.here hx rfl (hb hby at_310) rfl (l' := A91) (by rw [hA87, hA91]; exact rfl) k) ?_
                    show own_Ends p e below F (T36.setTop (mkF m 312 A91 []))
                    refine own_step (fun _ k => XS.goto X36.here hx rfl (pc0 := 312) (pc' := 378) rfl (hb hby at_312) (by decide) (by decide) k) ?_
                    show own_Ends p e below F (T36.setTop (mkF m 378 A91 []))
                    rw [hA91]
                    exact J175_51 _ _ _ _ _ _ _ _ (by first | (simp only [if_true, if_false, c175_66, c202_71, c231_76, c258_81, c286_86, c295_88, c302_89]; done) | ((first | rw [if_pos c175_66] | rw [if_neg c175_66] | skip); (first | rw [if_pos c202_71] | rw [if_neg c202_71] | skip); (first | rw [if_pos c231_76] | rw [if_neg c231_76] | skip); (first | rw [if_pos c258_81] | rw [if_neg c258_81] | skip); (first | rw [if_pos c286_86] | rw [if_neg c286_86] | skip); (first | rw [if_pos c295_88] | rw [if_neg c295_88] | skip); (first | rw [if_pos c302_89] | rw [if_neg c302_89] | skip))) (by first | (simp only [if_true, if_false, c175_66, c202_71, c231_76, c258_81, c286_86, c295_88, c302_89]; done) | ((first | rw [if_pos c175_66] | rw [if_neg c175_66] | skip); (first | rw [if_pos c202_71] | rw [if_neg c202_71] | skip); (first | rw [if_pos c231_76] | rw [if_neg c231_76] | skip); (first | rw [if_pos c258_81] | rw [if_neg c258_81] | skip); (first | rw [if_pos c286_86] | rw [if_neg c286_86] | skip); (first | rw [if_pos c295_88] | rw [if_neg c295_88] | skip); (first | rw [if_pos c302_89] | rw [if_neg c302_89] | skip))) (by first | (simp only [if_true, if_false, c175_66, c202_71, c231_76, c258_81, c286_86, c295_88, c302_89]; done) | ((first | rw [if_pos c175_66] | rw [if_neg c175_66] | skip); (first | rw [if_pos c202_71] | rw [if_neg c202_71] | skip); (first | rw [if_pos c231_76] | rw [if_neg c231_76] | skip); (first | rw [if_pos c258_81] | rw [if_neg c258_81] | skip); (first | rw [if_pos c286_86] | rw [if_neg c286_86] | skip); (first | rw [if_pos c295_88] | rw [if_neg c295_88] | skip); (first | rw [if_pos c302_89] | rw [if_neg c302_89] | skip))) (by first | (simp only [if_true, if_false, c175_66, c202_71, c231_76, c258_81, c286_86, c295_88, c302_89]; done) | ((first | rw [if_pos c175_66] | rw [if_neg c175_66] | skip); (first | rw [if_pos c202_71] | rw [if_neg c202_71] | skip); (first | rw [if_pos c231_76] | rw [if_neg c231_76] | skip); (first | rw [if_pos c258_81] | rw [if_neg c258_81] | skip); (first | rw [if_pos c286_86] | rw [if_neg c286_86] | skip); (first | rw [if_pos c295_88] | rw [if_neg c295_88] | skip); (first | rw [if_pos c302_89] | rw [if_neg c302_89] | skip))) (by first | (simp only [if_true, if_false, c175_66, c202_71, c231_76, c258_81, c286_86, c295_88, c302_89]; done) | ((first | rw [if_pos c175_66] | rw [if_neg c175_66] | skip); (first | rw [if_pos c202_71] | rw [if_neg c202_71] | skip); (first | rw [if_pos c231_76] | rw [if_neg c231_76] | skip); (first | rw [if_pos c258_81] | rw [if_neg c258_81] | skip); (first | rw [if_pos c286_86] | rw [if_neg c286_86] | skip); (first | rw [if_pos c295_88] | rw [if_neg c295_88] | skip); (first | rw [if_pos c302_89] | rw [if_neg c302_89] | skip))) (by first | (simp only [if_true, if_false, c175_66, c202_71, c231_76, c258_81, c286_86, c295_88, c302_89]; done) | ((first | rw [if_pos c175_66] | rw [if_neg c175_66] | skip); (first | rw [if_pos c202_71] | rw [if_neg c202_71] | skip); (first | rw [if_pos c231_76] | rw [if_neg c231_76] | skip); (first | rw [if_pos c258_81] | rw [if_neg c258_81] | skip); (first | rw [if_pos c286_86] | rw [if_neg c286_86] | skip); (first | rw [if_pos c295_88] | rw [if_neg c295_88] | skip); (first | rw [if_pos c302_89] | rw [if_neg c302_89] | skip))) (by first | (simp only [if_true, if_false, c175_66, c202_71, c231_76, c258_81, c286_86, c295_88, c302_89]; done) | ((first | rw [if_pos c175_66] | rw [if_neg c175_66] | skip); (first | rw [if_pos c202_71] | rw [if_neg c202_71] | skip); (first | rw [if_pos c231_76] | rw [if_neg c231_76] | skip); (first | rw [if_pos c258_81] | rw [if_neg c258_81] | skip); (first | rw [if_pos c286_86] | rw [if_neg c286_86] | skip); (first | rw [if_pos c295_88] | rw [if_neg c295_88] | skip); (first | rw [if_pos c302_89] | rw [if_neg c302_89] | skip))) (by first | (simp only [if_true, if_false, c175_66, c202_71, c231_76, c258_81, c286_86, c295_88, c302_89]; done) | ((first | rw [if_pos c175_66] | rw [if_neg c175_66] | skip); (first | rw [if_pos c202_71] | rw [if_neg c202_71] | skip); (first | rw [if_pos c231_76] | rw [if_neg c231_76] | skip); (first | rw [if_pos c258_81] | rw [if_neg c258_81] | skip); (first | rw [if_pos c286_86] | rw [if_neg c286_86] | skip); (first | rw [if_pos c295_88] | rw [if_neg c295_88] | skip); (first | rw [if_pos c302_89] | rw [if_neg c302_89] | skip)))
                · refine own_step (fun _ k => XS.ifYes X36.here hx rfl (pc0 := 295) (pc' := 309) rfl (hb hby at_295) rfl ((if0 _ _).trans (feq c295_88).2) (by decide) (by decide) k) ?_
                  show own_Ends p e below F (T36.setTop (mkF m 309 A87 []))
                  refine own_step (fun _ k => XS.iconst X36.here hx rfl (hb hby at_309) k) ?_
                  show own_Ends p e below F (T36.setTop (mkF m 310 A87 [(.int (0 : Int32))]))
                  obtain ⟨A92, hA92⟩ : ∃ z : Array Slot, z = #[.val (.long p1), .second, .val (.long p2), .second, .val (.long p3), .second, .val (.int p4), .val (.int p5), .val (.long p6), .second, .val (.int v2), .val (.int v4), .val (.int v6), .val (.int v8), .val (.int v10), .val (.int z12), .val (.ref a17), .val (.ref z21), .val (.ref c26), .val (.ref c28), .val (.ref c30), .val (.ref z21), .val (.ref c34), .val (.ref c36), .val (.long p1), .second, .val (.long p2), .second, .val (.long p3), .second, .val (.int p4), .val (.int (0 : Int32)), .unset, .unset, .unset] := ⟨_, rfl⟩
                  refine own_step (fun _ k => XS.istore X36.here hx rfl (hb hby at_310) rfl (l' := A92) (by rw [hA87, hA92]; exact rfl) k) ?_
                  show own_Ends p e below F (T36.setTop (mkF m 312 A92 []))
                  refine own_step (fun _ k => XS.goto X36.here hx rfl (pc0 := 312) (pc' := 378) rfl (hb hby at_312) (by decide) (by decide) k) ?_
                  show own_Ends p e below F (T36.setTop (mkF m 378 A92 []))
                  rw [hA92]
                  exact J175_51 _ _ _ _ _ _ _ _ (by first | (simp only [if_true, if_false, c175_66, c202_71, c231_76, c258_81, c286_86, c295_88]; done) | ((first | rw [if_pos c175_66] | rw [if_neg c175_66] | skip); (first | rw [if_pos c202_71] | rw [if_neg c202_71] | skip); (first | rw [if_pos c231_76] | rw [if_neg c231_76] | skip); (first | rw [if_pos c258_81] | rw [if_neg c258_81] | skip); (first | rw [if_pos c286_86] | rw [if_neg c286_86] | skip); (first | rw [if_pos c295_88] | rw [if_neg c295_88] | skip))) (by first | (simp only [if_true, if_false, c175_66, c202_71, c231_76, c258_81, c286_86, c295_88]; done) | ((first | rw [if_pos c175_66] | rw [if_neg c175_66] | skip); (first | rw [if_pos c202_71] | rw [if_neg c202_71] | skip); (first | rw [if_pos c231_76] | rw [if_neg c231_76] | skip); (first | rw [if_pos c258_81] | rw [if_neg c258_81] | skip); (first | rw [if_pos c286_86] | rw [if_neg c286_86] | skip); (first | rw [if_pos c295_88] | rw [if_neg c295_88] | skip))) (by first | (simp only [if_true, if_false, c175_66, c202_71, c231_76, c258_81, c286_86, c295_88]; done) | ((first | rw [if_pos c175_66] | rw [if_neg c175_66] | skip); (first | rw [if_pos c202_71] | rw [if_neg c202_71] | skip); (first | rw [if_pos c231_76] | rw [if_neg c231_76] | skip); (first | rw [if_pos c258_81] | rw [if_neg c258_81] | skip); (first | rw [if_pos c286_86] | rw [if_neg c286_86] | skip); (first | rw [if_pos c295_88] | rw [if_neg c295_88] | skip))) (by first | (simp only [if_true, if_false, c175_66, c202_71, c231_76, c258_81, c286_86, c295_88]; done) | ((first | rw [if_pos c175_66] | rw [if_neg c175_66] | skip); (first | rw [if_pos c202_71] | rw [if_neg c202_71] | skip); (first | rw [if_pos c231_76] | rw [if_neg c231_76] | skip); (first | rw [if_pos c258_81] | rw [if_neg c258_81] | skip); (first | rw [if_pos c286_86] | rw [if_neg c286_86] | skip); (first | rw [if_pos c295_88] | rw [if_neg c295_88] | skip))) (by first | (simp only [if_true, if_false, c175_66, c202_71, c231_76, c258_81, c286_86, c295_88]; done) | ((first | rw [if_pos c175_66] | rw [if_neg c175_66] | skip); (first | rw [if_pos c202_71] | rw [if_neg c202_71] | skip); (first | rw [if_pos c231_76] | rw [if_neg c231_76] | skip); (first | rw [if_pos c258_81] | rw [if_neg c258_81] | skip); (first | rw [if_pos c286_86] | rw [if_neg c286_86] | skip); (first | rw [if_pos c295_88] | rw [if_neg c295_88] | skip))) (by first | (simp only [if_true, if_false, c175_66, c202_71, c231_76, c258_81, c286_86, c295_88]; done) | ((first | rw [if_pos c175_66] | rw [if_neg c175_66] | skip); (first | rw [if_pos c202_71] | rw [if_neg c202_71] | skip); (first | rw [if_pos c231_76] | rw [if_neg c231_76] | skip); (first | rw [if_pos c258_81] | rw [if_neg c258_81] | skip); (first | rw [if_pos c286_86] | rw [if_neg c286_86] | skip); (first | rw [if_pos c295_88] | rw [if_neg c295_88] | skip))) (by first | (simp only [if_true, if_false, c175_66, c202_71, c231_76, c258_81, c286_86, c295_88]; done) | ((first | rw [if_pos c175_66] | rw [if_neg c175_66] | skip); (first | rw [if_pos c202_71] | rw [if_neg c202_71] | skip); (first | rw [if_pos c231_76] | rw [if_neg c231_76] | skip); (first | rw [if_pos c258_81] | rw [if_neg c258_81] | skip); (first | rw [if_pos c286_86] | rw [if_neg c286_86] | skip); (first | rw [if_pos c295_88] | rw [if_neg c295_88] | skip))) (by first | (simp only [if_true, if_false, c175_66, c202_71, c231_76, c258_81, c286_86, c295_88]; done) | ((first | rw [if_pos c175_66] | rw [if_neg c175_66] | skip); (first | rw [if_pos c202_71] | rw [if_neg c202_71] | skip); (first | rw [if_pos c231_76] | rw [if_neg c231_76] | skip); (first | rw [if_pos c258_81] | rw [if_neg c258_81] | skip); (first | rw [if_pos c286_86] | rw [if_neg c286_86] | skip); (first | rw [if_pos c295_88] | rw [if_neg c295_88] | skip)))
              · refine own_step (fun _ k => XS.icmpYes X36.here hx rfl (pc0 := 286) (pc' := 315) rfl (hb hby at_286) rfl (feq c286_86).2 (by decide) (by decide) k) ?_
                show own_Ends p e below F (T36.setTop (mkF m 315 A42 []))
                refine own_step (fun _ k => XS.iload X36.here hx rfl (hb hby at_315) (by rw [hA42]; rfl) k) ?_
                show own_Ends p e below F (T36.setTop (mkF m 317 A42 [(.int v8)]))
                refine own_step (fun _ k => XS.bipush X36.here hx rfl (hb hby at_317) k) ?_
                show own_Ends p e below F (T36.setTop (mkF m 319 A42 [(.int (6 : Int32)), (.int v8)]))
                by_cases c319_93 : v8 = (6 : Int32)
                · refine own_step (fun _ k => XS.icmpNo X36.here hx rfl (hb hby at_319) rfl (teq c319_93).2 k) ?_
                  show own_Ends p e below F (T36.setTop (mkF m 322 A42 []))
                  refine own_step (fun _ k => XS.aload X36.here hx rfl (hb hby at_322) (by rw [hA42]; rfl) rfl k) ?_
                  show own_Ends p e below F (T36.setTop (mkF m 324 A42 [(.ref z21)]))
                  obtain ⟨A94, hA94⟩ : ∃ z : Array Slot, z = #[.val (.long p1), .second, .val (.long p2), .second, .val (.long p3), .second, .val (.int p4), .val (.int p5), .val (.long p6), .second, .val (.int v2), .val (.int v4), .val (.int v6), .val (.int v8), .val (.int v10), .val (.int z12), .val (.ref a17), .val (.ref z21), .val (.ref c26), .val (.ref c28), .val (.ref c30), .val (.ref c32), .val (.ref z21), .val (.ref c36), .val (.long p1), .second, .val (.long p2), .second, .val (.long p3), .second, .val (.int p4), .val (.int (1 : Int32)), .unset, .unset, .unset] := ⟨_, rfl⟩
                  refine own_step (fun _ k => XS.astore X36.here hx rfl (hb hby at_324) rfl rfl (l' := A94) (by rw [hA42, hA94]; exact rfl) k) ?_
                  show own_Ends p e below F (T36.setTop (mkF m 326 A94 []))
                  refine own_step (fun _ k => XS.iload X36.here hx rfl (hb hby at_326) (by rw [hA94]; rfl) k) ?_
                  show own_Ends p e below F (T36.setTop (mkF m 328 A94 [(.int z12)]))
                  by_cases c328_95 : z12 = (0 : Int32)
                  · refine own_step (fun _ k => XS.ifNo X36.here hx rfl (hb hby at_328) rfl ((if0 _ _).trans (teq c328_95).2) k) ?_
                    show own_Ends p e below F (T36.setTop (mkF m 331 A94 []))
                    refine own_step (fun _ k => XS.iload X36.here hx rfl (hb hby at_331) (by rw [hA94]; rfl) k) ?_
                    show own_Ends p e below F (T36.setTop (mkF m 333 A94 [(.int v10)]))
                    refine own_step (fun _ k => XS.iload X36.here hx rfl (hb hby at_333) (by rw [hA94]; rfl) k) ?_
                    show own_Ends p e below F (T36.setTop (mkF m 335 A94 [(.int v4), (.int v10)]))
                    by_cases c335_96 : v10 = v4
                    · refine own_step (fun _ k => XS.icmpNo X36.here hx rfl (hb hby at_335) rfl (teq c335_96).2 k) ?_
                      show own_Ends p e below F (T36.setTop (mkF m 338 A94 []))
                      refine own_step (fun _ k => XS.iconst X36.here hx rfl (hb hby at_338) k) ?_
                      show own_Ends p e below F (T36.setTop (mkF m 339 A94 [(.int (1 : Int32))]))
                      refine own_step (fun _ k => XS.goto X36.here hx rfl (pc0 := 339) (pc' := 343) rfl (hb hby at_339) (by decide) (by decide) k) ?_
                      show own_Ends p e below F (T36.setTop (mkF m 343 A94 [(.int (1 : Int32))]))
                      obtain ⟨A97, hA97⟩ : ∃ z : Array Slot, z = #[.val (.long p1), .second, .val (.long p2), .second, .val (.long p3), .second, .val (.int p4), .val (.int p5), .val (.long p6), .second, .val (.int v2), .val (.int v4), .val (.int v6), .val (.int v8), .val (.int v10), .val (.int z12), .val (.ref a17), .val (.ref z21), .val (.ref c26), .val (.ref c28), .val (.ref c30), .val (.ref c32), .val (.ref z21), .val (.ref c36), .val (.long p1), .second, .val (.long p2), .second, .val (.long p3), .second, .val (.int p4), .val (.int (1 : Int32)), .unset, .unset, .unset] := ⟨_, rfl⟩
                      refine own_step (fun _ k => XS.istore X36.here hx rfl (hb hby at_343) rfl (l' := A97) (by rw [hA94, hA97]; exact rfl) k) ?_
                      show own_Ends p e below F (T36.setTop (mkF m 345 A97 []))
                      refine own_step (fun _ k => XS.goto X36.here hx rfl (pc0 := 345) (pc' := 378) rfl (hb hby at_345) (by decide) (by decide) k) ?_
                      show own_Ends p e below F (T36.setTop (mkF m 378 A97 []))
                      rw [hA97]
                      exact J175_51 _ _ _ _ _ _ _ _ (by first | (simp only [if_true, if_false, c175_66, c202_71, c231_76, c258_81, c286_86, c319_93, c328_95, c335_96]; done) | ((first | rw [if_pos c175_66] | rw [if_neg c175_66] | skip); (first | rw [if_pos c202_71] | rw [if_neg c202_71] | skip); (first | rw [if_pos c231_76] | rw [if_neg c231_76] | skip); (first | rw [if_pos c258_81] | rw [if_neg c258_81] | skip); (first | rw [if_pos c286_86] | rw [if_neg c286_86] | skip); (first | rw [if_pos c319_93] | rw [if_neg c319_93] | skip); (first | rw [if_pos c328_95] | rw [if_neg c328_95] | skip); (first | rw [if_pos c335_96] | rw [if_neg c335_96] | skip))) (by first | (simp only [if_true, if_false, c175_66, c202_71, c231_76, c258_81, c286_86, c319_93, c328_95, c335_96]; done) | ((first | rw [if_pos c175_66] | rw [if_neg c175_66] | skip); (first | rw [if_pos c202_71] | rw [if_neg c202_71] | skip); (first | rw [if_pos c231_76] | rw [if_neg c231_76] | skip); (first | rw [if_pos c258_81] | rw [if_neg c258_81] | skip); (first | rw [if_pos c286_86] | rw [if_neg c286_86] | skip); (first | rw [if_pos c319_93] | rw [if_neg c319_93] | skip); (first | rw [if_pos c328_95] | rw [if_neg c328_95] | skip); (first | rw [if_pos c335_96] | rw [if_neg c335_96] | skip))) (by first | (simp only [if_true, if_false, c175_66, c202_71, c231_76, c258_81, c286_86, c319_93, c328_95, c335_96]; done) | ((first | rw [if_pos c175_66] | rw [if_neg c175_66] | skip); (first | rw [if_pos c202_71] | rw [if_neg c202_71] | skip); (first | rw [if_pos c231_76] | rw [if_neg c231_76] | skip); (first | rw [if_pos c258_81] | rw [if_neg c258_81] | skip); (first | rw [if_pos c286_86] | rw [if_neg c286_86] | skip); (first | rw [if_pos c319_93] | rw [if_neg c319_93] | skip); (first | rw [if_pos c328_95] | rw [if_neg c328_95] | skip); (first | rw [if_pos c335_96] | rw [if_neg c335_96] | skip))) (by first | (simp only [if_true, if_false, c175_66, c202_71, c231_76, c258_81, c286_86, c319_93, c328_95, c335_96]; done) | ((first | rw [if_pos c175_66] | rw [if_neg c175_66] | skip); (first | rw [if_pos c202_71] | rw [if_neg c202_71] | skip); (first | rw [if_pos c231_76] | rw [if_neg c231_76] | skip); (first | rw [if_pos c258_81] | rw [if_neg c258_81] | skip); (first | rw [if_pos c286_86] | rw [if_neg c286_86] | skip); (first | rw [if_pos c319_93] | rw [if_neg c319_93] | skip); (first | rw [if_pos c328_95] | rw [if_neg c328_95] | skip); (first | rw [if_pos c335_96] | rw [if_neg c335_96] | skip))) (by first | (simp only [if_true, if_false, c175_66, c202_71, c231_76, c258_81, c286_86, c319_93, c328_95, c335_96]; done) | ((first | rw [if_pos c175_66] | rw [if_neg c175_66] | skip); (first | rw [if_pos c202_71] | rw [if_neg c202_71] | skip); (first | rw [if_pos c231_76] | rw [if_neg c231_76] | skip); (first | rw [if_pos c258_81] | rw [if_neg c258_81] | skip); (first | rw [if_pos c286_86] | rw [if_neg c286_86] | skip); (first | rw [if_pos c319_93] | rw [if_neg c319_93] | skip); (first | rw [if_pos c328_95] | rw [if_neg c328_95] | skip); (first | rw [if_pos c335_96] | rw [if_neg c335_96] | skip))) (by first | (simp only [if_true, if_false, c175_66, c202_71, c231_76, c258_81, c286_86, c319_93, c328_95, c335_96]; done) | ((first | rw [if_pos c175_66] | rw [if_neg c175_66] | skip); (first | rw [if_pos c202_71] | rw [if_neg c202_71] | skip); (first | rw [if_pos c231_76] | rw [if_neg c231_76] | skip); (first | rw [if_pos c258_81] | rw [if_neg c258_81] | skip); (first | rw [if_pos c286_86] | rw [if_neg c286_86] | skip); (first | rw [if_pos c319_93] | rw [if_neg c319_93] | skip); (first | rw [if_pos c328_95] | rw [if_neg c328_95] | skip); (first | rw [if_pos c335_96] | rw [if_neg c335_96] | skip))) (by first | (simp only [if_true, if_false, c175_66, c202_71, c231_76, c258_81, c286_86, c319_93, c328_95, c335_96]; done) | ((first | rw [if_pos c175_66] | rw [if_neg c175_66] | skip); (first | rw [if_pos c202_71] | rw [if_neg c202_71] | skip); (first | rw [if_pos c231_76] | rw [if_neg c231_76] | skip); (first | rw [if_pos c258_81] | rw [if_neg c258_81] | skip); (first | rw [if_pos c286_86] | rw [if_neg c286_86] | skip); (first | rw [if_pos c319_93] | rw [if_neg c319_93] | skip); (first | rw [if_pos c328_95] | rw [if_neg c328_95] | skip); (first | rw [if_pos c335_96] | rw [if_neg c335_96] | skip))) (by first | (simp only [if_true, if_false, c175_66, c202_71, c231_76, c258_81, c286_86, c319_93, c328_95, c335_96]; done) | ((first | rw [if_pos c175_66] | rw [if_neg c175_66] | skip); (first | rw [if_pos c202_71] | rw [if_neg c202_71] | skip); (first | rw [if_pos c231_76] | rw [if_neg c231_76] | skip); (first | rw [if_pos c258_81] | rw [if_neg c258_81] | skip); (first | rw [if_pos c286_86] | rw [if_neg c286_86] | skip); (first | rw [if_pos c319_93] | rw [if_neg c319_93] | skip); (first | rw [if_pos c328_95] | rw [if_neg c328_95] | skip); (first | rw [if_pos c335_96] | rw [if_neg c335_96] | skip)))
                    · refine own_step (fun _ k => XS.icmpYes X36.here hx rfl (pc0 := 335) (pc' := 342) rfl (hb hby at_335) rfl (feq c335_96).2 (by decide) (by decide) k) ?_
                      show own_Ends p e below F (T36.setTop (mkF m 342 A94 []))
                      refine own_step (fun _ k => XS.iconst X36.here hx rfl (hb hby at_342) k) ?_
                      show own_Ends p e below F (T36.setTop (mkF m 343 A94 [(.int (0 : Int32))]))
                      obtain ⟨A98, hA98⟩ : ∃ z : Array Slot, z = #[.val (.long p1), .second, .val (.long p2), .second, .val (.long p3), .second, .val (.int p4), .val (.int p5), .val (.long p6), .second, .val (.int v2), .val (.int v4), .val (.int v6), .val (.int v8), .val (.int v10), .val (.int z12), .val (.ref a17), .val (.ref z21), .val (.ref c26), .val (.ref c28), .val (.ref c30), .val (.ref c32), .val (.ref z21), .val (.ref c36), .val (.long p1), .second, .val (.long p2), .second, .val (.long p3), .second, .val (.int p4), .val (.int (0 : Int32)), .unset, .unset, .unset] := ⟨_, rfl⟩
                      refine own_step (fun _ k => XS.istore X36.here hx rfl (hb hby at_343) rfl (l' := A98) (by rw [hA94, hA98]; exact rfl) k) ?_
                      show own_Ends p e below F (T36.setTop (mkF m 345 A98 []))
                      refine own_step (fun _ k => XS.goto X36.here hx rfl (pc0 := 345) (pc' := 378) rfl (hb hby at_345) (by decide) (by decide) k) ?_
                      show own_Ends p e below F (T36.setTop (mkF m 378 A98 []))
                      rw [hA98]
                      exact J175_51 _ _ _ _ _ _ _ _ (by first | (simp only [if_true, if_false, c175_66, c202_71, c231_76, c258_81, c286_86, c319_93, c328_95, c335_96]; done) | ((first | rw [if_pos c175_66] | rw [if_neg c175_66] | skip); (first | rw [if_pos c202_71] | rw [if_neg c202_71] | skip); (first | rw [if_pos c231_76] | rw [if_neg c231_76] | skip); (first | rw [if_pos c258_81] | rw [if_neg c258_81] | skip); (first | rw [if_pos c286_86] | rw [if_neg c286_86] | skip); (first | rw [if_pos c319_93] | rw [if_neg c319_93] | skip); (first | rw [if_pos c328_95] | rw [if_neg c328_95] | skip); (first | rw [if_pos c335_96] | rw [if_neg c335_96] | skip))) (by first | (simp only [if_true, if_false, c175_66, c202_71, c231_76, c258_81, c286_86, c319_93, c328_95, c335_96]; done) | ((first | rw [if_pos c175_66] | rw [if_neg c175_66] | skip); (first | rw [if_pos c202_71] | rw [if_neg c202_71] | skip); (first | rw [if_pos c231_76] | rw [if_neg c231_76] | skip); (first | rw [if_pos c258_81] | rw [if_neg c258_81] | skip); (first | rw [if_pos c286_86] | rw [if_neg c286_86] | skip); (first | rw [if_pos c319_93] | rw [if_neg c319_93] | skip); (first | rw [if_pos c328_95] | rw [if_neg c328_95] | skip); (first | rw [if_pos c335_96] | rw [if_neg c335_96] | skip))) (by first | (simp only [if_true, if_false, c175_66, c202_71, c231_76, c258_81, c286_86, c319_93, c328_95, c335_96]; done) | ((first | rw [if_pos c175_66] | rw [if_neg c175_66] | skip); (first | rw [if_pos c202_71] | rw [if_neg c202_71] | skip); (first | rw [if_pos c231_76] | rw [if_neg c231_76] | skip); (first | rw [if_pos c258_81] | rw [if_neg c258_81] | skip); (first | rw [if_pos c286_86] | rw [if_neg c286_86] | skip); (first | rw [if_pos c319_93] | rw [if_neg c319_93] | skip); (first | rw [if_pos c328_95] | rw [if_neg c328_95] | skip); (first | rw [if_pos c335_96] | rw [if_neg c335_96] | skip))) (by first | (simp only [if_true, if_false, c175_66, c202_71, c231_76, c258_81, c286_86, c319_93, c328_95, c335_96]; done) | ((first | rw [if_pos c175_66] | rw [if_neg c175_66] | skip); (first | rw [if_pos c202_71] | rw [if_neg c202_71] | skip); (first | rw [if_pos c231_76] | rw [if_neg c231_76] | skip); (first | rw [if_pos c258_81] | rw [if_neg c258_81] | skip); (first | rw [if_pos c286_86] | rw [if_neg c286_86] | skip); (first | rw [if_pos c319_93] | rw [if_neg c319_93] | skip); (first | rw [if_pos c328_95] | rw [if_neg c328_95] | skip); (first | rw [if_pos c335_96] | rw [if_neg c335_96] | skip))) (by first | (simp only [if_true, if_false, c175_66, c202_71, c231_76, c258_81, c286_86, c319_93, c328_95, c335_96]; done) | ((first | rw [if_pos c175_66] | rw [if_neg c175_66] | skip); (first | rw [if_pos c202_71] | rw [if_neg c202_71] | skip); (first | rw [if_pos c231_76] | rw [if_neg c231_76] | skip); (first | rw [if_pos c258_81] | rw [if_neg c258_81] | skip); (first | rw [if_pos c286_86] | rw [if_neg c286_86] | skip); (first | rw [if_pos c319_93] | rw [if_neg c319_93] | skip); (first | rw [if_pos c328_95] | rw [if_neg c328_95] | skip); (first | rw [if_pos c335_96] | rw [if_neg c335_96] | skip))) (by first | (simp only [if_true, if_false, c175_66, c202_71, c231_76, c258_81, c286_86, c319_93, c328_95, c335_96]; done) | ((first | rw [if_pos c175_66] | rw [if_neg c175_66] | skip); (first | rw [if_pos c202_71] | rw [if_neg c202_71] | skip); (first | rw [if_pos c231_76] | rw [if_neg c231_76] | skip); (first | rw [if_pos c258_81] | rw [if_neg c258_81] | skip); (first | rw [if_pos c286_86] | rw [if_neg c286_86] | skip); (first | rw [if_pos c319_93] | rw [if_neg c319_93] | skip); (first | rw [if_pos c328_95] | rw [if_neg c328_95] | skip); (first | rw [if_pos c335_96] | rw [if_neg c335_96] | skip))) (by first | (simp only [if_true, if_false, c175_66, c202_71, c231_76, c258_81, c286_86, c319_93, c328_95, c335_96]; done) | ((first | rw [if_pos c175_66] | rw [if_neg c175_66] | skip); (first | rw [if_pos c202_71] | rw [if_neg c202_71] | skip); (first | rw [if_pos c231_76] | rw [if_neg c231_76] | skip); (first | rw [if_pos c258_81] | rw [if_neg c258_81] | skip); (first | rw [if_pos c286_86] | rw [if_neg c286_86] | skip); (first | rw [if_pos c319_93] | rw [if_neg c319_93] | skip); (first | rw [if_pos c328_95] | rw [if_neg c328_95] | skip); (first | rw [if_pos c335_96] | rw [if_neg c335_96] | skip))) (by first | (simp only [if_true, if_false, c175_66, c202_71, c231_76, c258_81, c286_86, c319_93, c328_95, c335_96]; done) | ((first | rw [if_pos c175_66] | rw [if_neg c175_66] | skip); (first | rw [if_pos c202_71] | rw [if_neg c202_71] | skip); (first | rw [if_pos c231_76] | rw [if_neg c231_76] | skip); (first | rw [if_pos c258_81] | rw [if_neg c258_81] | skip); (first | rw [if_pos c286_86] | rw [if_neg c286_86] | skip); (first | rw [if_pos c319_93] | rw [if_neg c319_93] | skip); (first | rw [if_pos c328_95] | rw [if_neg c328_95] | skip); (first | rw [if_pos c335_96] | rw [if_neg c335_96] | skip)))
                  · refine own_step (fun _ k => XS.ifYes X36.here hx rfl (pc0 := 328) (pc' := 342) rfl (hb hby at_328) rfl ((if0 _ _).trans (feq c328_95).2) (by decide) (by decide) k) ?_
                    show own_Ends p e below F (T36.setTop (mkF m 342 A94 []))
                    refine own_step (fun _ k => XS.iconst X36.here hx rfl (hb hby at_342) k) ?_
                    show own_Ends p e below F (T36.setTop (mkF m 343 A94 [(.int (0 : Int32))]))
                    obtain ⟨A99, hA99⟩ : ∃ z : Array Slot, z = #[.val (.long p1), .second, .val (.long p2), .second, .val (.long p3), .second, .val (.int p4), .val (.int p5), .val (.long p6), .second, .val (.int v2), .val (.int v4), .val (.int v6), .val (.int v8), .val (.int v10), .val (.int z12), .val (.ref a17), .val (.ref z21), .val (.ref c26), .val (.ref c28), .val (.ref c30), .val (.ref c32), .val (.ref z21), .val (.ref c36), .val (.long p1), .second, .val (.long p2), .second, .val (.long p3), .second, .val (.int p4), .val (.int (0 : Int32)), .unset, .unset, .unset] := ⟨_, rfl⟩
                    refine own_step (fun _ k => XS.istore X36.here hx rfl (hb hby at_343) rfl (l' := A99) (by rw [hA94, hA99]; exact rfl) k) ?_
                    show own_Ends p e below F (T36.setTop (mkF m 345 A99 []))
                    refine own_step (fun _ k => XS.goto X36.here hx rfl (pc0 := 345) (pc' := 378) rfl (hb hby at_345) (by decide) (by decide) k) ?_
                    show own_Ends p e below F (T36.setTop (mkF m 378 A99 []))
                    rw [hA99]
                    exact J175_51 _ _ _ _ _ _ _ _ (by first | (simp only [if_true, if_false, c175_66, c202_71, c231_76, c258_81, c286_86, c319_93, c328_95]; done) | ((first | rw [if_pos c175_66] | rw [if_neg c175_66] | skip); (first | rw [if_pos c202_71] | rw [if_neg c202_71] | skip); (first | rw [if_pos c231_76] | rw [if_neg c231_76] | skip); (first | rw [if_pos c258_81] | rw [if_neg c258_81] | skip); (first | rw [if_pos c286_86] | rw [if_neg c286_86] | skip); (first | rw [if_pos c319_93] | rw [if_neg c319_93] | skip); (first | rw [if_pos c328_95] | rw [if_neg c328_95] | skip))) (by first | (simp only [if_true, if_false, c175_66, c202_71, c231_76, c258_81, c286_86, c319_93, c328_95]; done) | ((first | rw [if_pos c175_66] | rw [if_neg c175_66] | skip); (first | rw [if_pos c202_71] | rw [if_neg c202_71] | skip); (first | rw [if_pos c231_76] | rw [if_neg c231_76] | skip); (first | rw [if_pos c258_81] | rw [if_neg c258_81] | skip); (first | rw [if_pos c286_86] | rw [if_neg c286_86] | skip); (first | rw [if_pos c319_93] | rw [if_neg c319_93] | skip); (first | rw [if_pos c328_95] | rw [if_neg c328_95] | skip))) (by first | (simp only [if_true, if_false, c175_66, c202_71, c231_76, c258_81, c286_86, c319_93, c328_95]; done) | ((first | rw [if_pos c175_66] | rw [if_neg c175_66] | skip); (first | rw [if_pos c202_71] | rw [if_neg c202_71] | skip); (first | rw [if_pos c231_76] | rw [if_neg c231_76] | skip); (first | rw [if_pos c258_81] | rw [if_neg c258_81] | skip); (first | rw [if_pos c286_86] | rw [if_neg c286_86] | skip); (first | rw [if_pos c319_93] | rw [if_neg c319_93] | skip); (first | rw [if_pos c328_95] | rw [if_neg c328_95] | skip))) (by first | (simp only [if_true, if_false, c175_66, c202_71, c231_76, c258_81, c286_86, c319_93, c328_95]; done) | ((first | rw [if_pos c175_66] | rw [if_neg c175_66] | skip); (first | rw [if_pos c202_71] | rw [if_neg c202_71] | skip); (first | rw [if_pos c231_76] | rw [if_neg c231_76] | skip); (first | rw [if_pos c258_81] | rw [if_neg c258_81] | skip); (first | rw [if_pos c286_86] | rw [if_neg c286_86] | skip); (first | rw [if_pos c319_93] | rw [if_neg c319_93] | skip); (first | rw [if_pos c328_95] | rw [if_neg c328_95] | skip))) (by first | (simp only [if_true, if_false, c175_66, c202_71, c231_76, c258_81, c286_86, c319_93, c328_95]; done) | ((first | rw [if_pos c175_66] | rw [if_neg c175_66] | skip); (first | rw [if_pos c202_71] | rw [if_neg c202_71] | skip); (first | rw [if_pos c231_76] | rw [if_neg c231_76] | skip); (first | rw [if_pos c258_81] | rw [if_neg c258_81] | skip); (first | rw [if_pos c286_86] | rw [if_neg c286_86] | skip); (first | rw [if_pos c319_93] | rw [if_neg c319_93] | skip); (first | rw [if_pos c328_95] | rw [if_neg c328_95] | skip))) (by first | (simp only [if_true, if_false, c175_66, c202_71, c231_76, c258_81, c286_86, c319_93, c328_95]; done) | ((first | rw [if_pos c175_66] | rw [if_neg c175_66] | skip); (first | rw [if_pos c202_71] | rw [if_neg c202_71] | skip); (first | rw [if_pos c231_76] | rw [if_neg c231_76] | skip); (first | rw [if_pos c258_81] | rw [if_neg c258_81] | skip); (first | rw [if_pos c286_86] | rw [if_neg c286_86] | skip); (first | rw [if_pos c319_93] | rw [if_neg c319_93] | skip); (first | rw [if_pos c328_95] | rw [if_neg c328_95] | skip))) (by first | (simp only [if_true, if_false, c175_66, c202_71, c231_76, c258_81, c286_86, c319_93, c328_95]; done) | ((first | rw [if_pos c175_66] | rw [if_neg c175_66] | skip); (first | rw [if_pos c202_71] | rw [if_neg c202_71] | skip); (first | rw [if_pos c231_76] | rw [if_neg c231_76] | skip); (first | rw [if_pos c258_81] | rw [if_neg c258_81] | skip); (first | rw [if_pos c286_86] | rw [if_neg c286_86] | skip); (first | rw [if_pos c319_93] | rw [if_neg c319_93] | skip); (first | rw [if_pos c328_95] | rw [if_neg c328_95] | skip))) (by first | (simp only [if_true, if_false, c175_66, c202_71, c231_76, c258_81, c286_86, c319_93, c328_95]; done) | ((first | rw [if_pos c175_66] | rw [if_neg c175_66] | skip); (first | rw [if_pos c202_71] | rw [if_neg c202_71] | skip); (first | rw [if_pos c231_76] | rw [if_neg c231_76] | skip); (first | rw [if_pos c258_81] | rw [if_neg c258_81] | skip); (first | rw [if_pos c286_86] | rw [if_neg c286_86] | skip); (first | rw [if_pos c319_93] | rw [if_neg c319_93] | skip); (first | rw [if_pos c328_95] | rw [if_neg c328_95] | skip)))
                · refine own_step (fun _ k => XS.icmpYes X36.here hx rfl (pc0 := 319) (pc' := 348) rfl (hb hby at_319) rfl (feq c319_93).2 (by decide) (by decide) k) ?_
                  show own_Ends p e below F (T36.setTop (mkF m 348 A42 []))
                  refine own_step (fun _ k => XS.iload X36.here hx rfl (hb hby at_348) (by rw [hA42]; rfl) k) ?_
                  show own_Ends p e below F (T36.setTop (mkF m 350 A42 [(.int v8)]))
                  refine own_step (fun _ k => XS.bipush X36.here hx rfl (hb hby at_350) k) ?_
                  show own_Ends p e below F (T36.setTop (mkF m 352 A42 [(.int (7 : Int32)), (.int v8)]))
                  by_cases c352_100 : v8 = (7 : Int32)
                  · refine own_step (fun _ k => XS.icmpNo X36.here hx rfl (hb hby at_352) rfl (teq c352_100).2 k) ?_
                    show own_Ends p e below F (T36.setTop (mkF m 355 A42 []))
                    refine own_step (fun _ k => XS.aload X36.here hx rfl (hb hby at_355) (by rw [hA42]; rfl) rfl k) ?_
                    show own_Ends p e below F (T36.setTop (mkF m 357 A42 [(.ref z21)]))
                    obtain ⟨A101, hA101⟩ : ∃ z : Array Slot, z = #[.val (.long p1), .second, .val (.long p2), .second, .val (.long p3), .second, .val (.int p4), .val (.int p5), .val (.long p6), .second, .val (.int v2), .val (.int v4), .val (.int v6), .val (.int v8), .val (.int v10), .val (.int z12), .val (.ref a17), .val (.ref z21), .val (.ref c26), .val (.ref c28), .val (.ref c30), .val (.ref c32), .val (.ref c34), .val (.ref z21), .val (.long p1), .second, .val (.long p2), .second, .val (.long p3), .second, .val (.int p4), .val (.int (1 : Int32)), .unset, .unset, .unset] := ⟨_, rfl⟩
                    refine own_step (fun _ k => XS.astore X36.here hx rfl (hb hby at_357) rfl rfl (l' := A101) (by rw [hA42, hA101]; exact rfl) k) ?_
                    show own_Ends p e below F (T36.setTop (mkF m 359 A101 []))
                    refine own_step (fun _ k => XS.iload X36.here hx rfl (hb hby at_359) (by rw [hA101]; rfl) k) ?_
                    show own_Ends p e below F (T36.setTop (mkF m 361 A101 [(.int z12)]))
                    by_cases c361_102 : z12 = (0 : Int32)
                    · refine own_step (fun _ k => XS.ifNo X36.here hx rfl (hb hby at_361) rfl ((if0 _ _).trans (teq c361_102).2) k) ?_
                      show own_Ends p e below F (T36.setTop (mkF m 364 A101 []))
                      refine own_step (fun _ k => XS.iload X36.here hx rfl (hb hby at_364) (by rw [hA101]; rfl) k) ?_
                      show own_Ends p e below F (T36.setTop (mkF m 366 A101 [(.int v10)]))
                      refine own_step (fun _ k => XS.iload X36.here hx rfl (hb hby at_366) (by rw [hA101]; rfl) k) ?_
                      show own_Ends p e below F (T36.setTop (mkF m 368 A101 [(.int v6), (.int v10)]))
                      by_cases c368_103 : v10 = v6
                      · refine own_step (fun _ k => XS.icmpNo X36.here hx rfl (hb hby at_368) rfl (teq c368_103).2 k) ?_
                        show own_Ends p e below F (T36.setTop (mkF m 371 A101 []))
                        refine own_step (fun _ k => XS.iconst X36.here hx rfl (hb hby at_371) k) ?_
                        show own_Ends p e below F (T36.setTop (mkF m 372 A101 [(.int (1 : Int32))]))
                        refine own_step (fun _ k => XS.goto X36.here hx rfl (pc0 := 372) (pc' := 376) rfl (hb hby at_372) (by decide) (by decide) k) ?_
                        show own_Ends p e below F (T36.setTop (mkF m 376 A101 [(.int (1 : Int32))]))
                        obtain ⟨A104, hA104⟩ : ∃ z : Array Slot, z = #[.val (.long p1), .second, .val (.long p2), .second, .val (.long p3), .second, .val (.int p4), .val (.int p5), .val (.long p6), .second, .val (.int v2), .val (.int v4), .val (.int v6), .val (.int v8), .val (.int v10), .val (.int z12), .val (.ref a17), .val (.ref z21), .val (.ref c26), .val (.ref c28), .val (.ref c30), .val (.ref c32), .val (.ref c34), .val (.ref z21), .val (.long p1), .second, .val (.long p2), .second, .val (.long p3), .second, .val (.int p4), .val (.int (1 : Int32)), .unset, .unset, .unset] := ⟨_, rfl⟩
                        refine own_step (fun _ k => XS.istore X36.here hx rfl (hb hby at_376) rfl (l' := A104) (by rw [hA101, hA104]; exact rfl) k) ?_
                        show own_Ends p e below F (T36.setTop (mkF m 378 A104 []))
                        rw [hA104]
                        exact J175_51 _ _ _ _ _ _ _ _ (by first | (simp only [if_true, if_false, c175_66, c202_71, c231_76, c258_81, c286_86, c319_93, c352_100, c361_102, c368_103]; done) | ((first | rw [if_pos c175_66] | rw [if_neg c175_66] | skip); (first | rw [if_pos c202_71] | rw [if_neg c202_71] | skip); (first | rw [if_pos c231_76] | rw [if_neg c231_76] | skip); (first | rw [if_pos c258_81] | rw [if_neg c258_81] | skip); (first | rw [if_pos c286_86] | rw [if_neg c286_86] | skip); (first | rw [if_pos c319_93] | rw [if_neg c319_93] | skip); (first | rw [if_pos c352_100] | rw [if_neg c352_100] | skip); (first | rw [if_pos c361_102] | rw [if_neg c361_102] | skip); (first | rw [if_pos c368_103] | rw [if_neg c368_103] | skip))) (by first | (simp only [if_true, if_false, c175_66, c202_71, c231_76, c258_81, c286_86, c319_93, c352_100, c361_102, c368_103]; done) | ((first | rw [if_pos c175_66] | rw [if_neg c175_66] | skip); (first | rw [if_pos c202_71] | rw [if_neg c202_71] | skip); (first | rw [if_pos c231_76] | rw [if_neg c231_76] | skip); (first | rw [if_pos c258_81] | rw [if_neg c258_81] | skip); (first | rw [if_pos c286_86] | rw [if_neg c286_86] | skip); (first | rw [if_pos c319_93] | rw [if_neg c319_93] | skip); (first | rw [if_pos c352_100] | rw [if_neg c352_100] | skip); (first | rw [if_pos c361_102] | rw [if_neg c361_102] | skip); (first | rw [if_pos c368_103] | rw [if_neg c368_103] | skip))) (by first | (simp only [if_true, if_false, c175_66, c202_71, c231_76, c258_81, c286_86, c319_93, c352_100, c361_102, c368_103]; done) | ((first | rw [if_pos c175_66] | rw [if_neg c175_66] | skip); (first | rw [if_pos c202_71] | rw [if_neg c202_71] | skip); (first | rw [if_pos c231_76] | rw [if_neg c231_76] | skip); (first | rw [if_pos c258_81] | rw [if_neg c258_81] | skip); (first | rw [if_pos c286_86] | rw [if_neg c286_86] | skip); (first | rw [if_pos c319_93] | rw [if_neg c319_93] | skip); (first | rw [if_pos c352_100] | rw [if_neg c352_100] | skip); (first | rw [if_pos c361_102] | rw [if_neg c361_102] | skip); (first | rw [if_pos c368_103] | rw [if_neg c368_103] | skip))) (by first | (simp only [if_true, if_false, c175_66, c202_71, c231_76, c258_81, c286_86, c319_93, c352_100, c361_102, c368_103]; done) | ((first | rw [if_pos c175_66] | rw [if_neg c175_66] | skip); (first | rw [if_pos c202_71] | rw [if_neg c202_71] | skip); (first | rw [if_pos c231_76] | rw [if_neg c231_76] | skip); (first | rw [if_pos c258_81] | rw [if_neg c258_81] | skip); (first | rw [if_pos c286_86] | rw [if_neg c286_86] | skip); (first | rw [if_pos c319_93] | rw [if_neg c319_93] | skip); (first | rw [if_pos c352_100] | rw [if_neg c352_100] | skip); (first | rw [if_pos c361_102] | rw [if_neg c361_102] | skip); (first | rw [if_pos c368_103] | rw [if_neg c368_103] | skip))) (by first | (simp only [if_true, if_false, c175_66, c202_71, c231_76, c258_81, c286_86, c319_93, c352_100, c361_102, c368_103]; done) | ((first | rw [if_pos c175_66] | rw [if_neg c175_66] | skip); (first | rw [if_pos c202_71] | rw [if_neg c202_71] | skip); (first | rw [if_pos c231_76] | rw [if_neg c231_76] | skip); (first | rw [if_pos c258_81] | rw [if_neg c258_81] | skip); (first | rw [if_pos c286_86] | rw [if_neg c286_86] | skip); (first | rw [if_pos c319_93] | rw [if_neg c319_93] | skip); (first | rw [if_pos c352_100] | rw [if_neg c352_100] | skip); (first | rw [if_pos c361_102] | rw [if_neg c361_102] | skip); (first | rw [if_pos c368_103] | rw [if_neg c368_103] | skip))) (by first | (simp only [if_true, if_false, c175_66, c202_71, c231_76, c258_81, c286_86, c319_93, c352_100, c361_102, c368_103]; done) | ((first | rw [if_pos c175_66] | rw [if_neg c175_66] | skip); (first | rw [if_pos c202_71] | rw [if_neg c202_71] | skip); (first | rw [if_pos c231_76] | rw [if_neg c231_76] | skip); (first | rw [if_pos c258_81] | rw [if_neg c258_81] | skip); (first | rw [if_pos c286_86] | rw [if_neg c286_86] | skip); (first | rw [if_pos c319_93] | rw [if_neg c319_93] | skip); (first | rw [if_pos c352_100] | rw [if_neg c352_100] | skip); (first | rw [if_pos c361_102] | rw [if_neg c361_102] | skip); (first | rw [if_pos c368_103] | rw [if_neg c368_103] | skip))) (by first | (simp only [if_true, if_false, c175_66, c202_71, c231_76, c258_81, c286_86, c319_93, c352_100, c361_102, c368_103]; done) | ((first | rw [if_pos c175_66] | rw [if_neg c175_66] | skip); (first | rw [if_pos c202_71] | rw [if_neg c202_71] | skip); (first | rw [if_pos c231_76] | rw [if_neg c231_76] | skip); (first | rw [if_pos c258_81] | rw [if_neg c258_81] | skip); (first | rw [if_pos c286_86] | rw [if_neg c286_86] | skip); (first | rw [if_pos c319_93] | rw [if_neg c319_93] | skip); (first | rw [if_pos c352_100] | rw [if_neg c352_100] | skip); (first | rw [if_pos c361_102] | rw [if_neg c361_102] | skip); (first | rw [if_pos c368_103] | rw [if_neg c368_103] | skip))) (by first | (simp only [if_true, if_false, c175_66, c202_71, c231_76, c258_81, c286_86, c319_93, c352_100, c361_102, c368_103]; done) | ((first | rw [if_pos c175_66] | rw [if_neg c175_66] | skip); (first | rw [if_pos c202_71] | rw [if_neg c202_71] | skip); (first | rw [if_pos c231_76] | rw [if_neg c231_76] | skip); (first | rw [if_pos c258_81] | rw [if_neg c258_81] | skip); (first | rw [if_pos c286_86] | rw [if_neg c286_86] | skip); (first | rw [if_pos c319_93] | rw [if_neg c319_93] | skip); (first | rw [if_pos c352_100] | rw [if_neg c352_100] | skip); (first | rw [if_pos c361_102] | rw [if_neg c361_102] | skip); (first | rw [if_pos c368_103] | rw [if_neg c368_103] | skip)))
                      · refine own_step (fun _ k => XS.icmpYes X36.here hx rfl (pc0 := 368) (pc' := 375) rfl (hb hby at_368) rfl (feq c368_103).2 (by decide) (by decide) k) ?_
                        show own_Ends p e below F (T36.setTop (mkF m 375 A101 []))
                        refine own_step (fun _ k => XS.iconst X36.here hx rfl (hb hby at_375) k) ?_
                        show own_Ends p e below F (T36.setTop (mkF m 376 A101 [(.int (0 : Int32))]))
                        obtain ⟨A105, hA105⟩ : ∃ z : Array Slot, z = #[.val (.long p1), .second, .val (.long p2), .second, .val (.long p3), .second, .val (.int p4), .val (.int p5), .val (.long p6), .second, .val (.int v2), .val (.int v4), .val (.int v6), .val (.int v8), .val (.int v10), .val (.int z12), .val (.ref a17), .val (.ref z21), .val (.ref c26), .val (.ref c28), .val (.ref c30), .val (.ref c32), .val (.ref c34), .val (.ref z21), .val (.long p1), .second, .val (.long p2), .second, .val (.long p3), .second, .val (.int p4), .val (.int (0 : Int32)), .unset, .unset, .unset] := ⟨_, rfl⟩
                        refine own_step (fun _ k => XS.istore X36.here hx rfl (hb hby at_376) rfl (l' := A105) (by rw [hA101, hA105]; exact rfl) k) ?_
                        show own_Ends p e below F (T36.setTop (mkF m 378 A105 []))
                        rw [hA105]
                        exact J175_51 _ _ _ _ _ _ _ _ (by first | (simp only [if_true, if_false, c175_66, c202_71, c231_76, c258_81, c286_86, c319_93, c352_100, c361_102, c368_103]; done) | ((first | rw [if_pos c175_66] | rw [if_neg c175_66] | skip); (first | rw [if_pos c202_71] | rw [if_neg c202_71] | skip); (first | rw [if_pos c231_76] | rw [if_neg c231_76] | skip); (first | rw [if_pos c258_81] | rw [if_neg c258_81] | skip); (first | rw [if_pos c286_86] | rw [if_neg c286_86] | skip); (first | rw [if_pos c319_93] | rw [if_neg c319_93] | skip); (first | rw [if_pos c352_100] | rw [if_neg c352_100] | skip); (first | rw [if_pos c361_102] | rw [if_neg c361_102] | skip); (first | rw [if_pos c368_103] | rw [if_neg c368_103] | skip))) (by first | (simp only [if_true, if_false, c175_66, c202_71, c231_76, c258_81, c286_86, c319_93, c352_100, c361_102, c368_103]; done) | ((first | rw [if_pos c175_66] | rw [if_neg c175_66] | skip); (first | rw [if_pos c202_71] | rw [if_neg c202_71] | skip); (first | rw [if_pos c231_76] | rw [if_neg c231_76] | skip); (first | rw [if_pos c258_81] | rw [if_neg c258_81] | skip); (first | rw [if_pos c286_86] | rw [if_neg c286_86] | skip); (first | rw [if_pos c319_93] | rw [if_neg c319_93] | skip); (first | rw [if_pos c352_100] | rw [if_neg c352_100] | skip); (first | rw [if_pos c361_102] | rw [if_neg c361_102] | skip); (first | rw [if_pos c368_103] | rw [if_neg c368_103] | skip))) (by first | (simp only [if_true, if_false, c175_66, c202_71, c231_76, c258_81, c286_86, c319_93, c352_100, c361_102, c368_103]; done) | ((first | rw [if_pos c175_66] | rw [if_neg c175_66] | skip); (first | rw [if_pos c202_71] | rw [if_neg c202_71] | skip); (first | rw [if_pos c231_76] | rw [if_neg c231_76] | skip); (first | rw [if_pos c258_81] | rw [if_neg c258_81] | skip); (first | rw [if_pos c286_86] | rw [if_neg c286_86] | skip); (first | rw [if_pos c319_93] | rw [if_neg c319_93] | skip); (first | rw [if_pos c352_100] | rw [if_neg c352_100] | skip); (first | rw [if_pos c361_102] | rw [if_neg c361_102] | skip); (first | rw [if_pos c368_103] | rw [if_neg c368_103] | skip))) (by first | (simp only [if_true, if_false, c175_66, c202_71, c231_76, c258_81, c286_86, c319_93, c352_100, c361_102, c368_103]; done) | ((first | rw [if_pos c175_66] | rw [if_neg c175_66] | skip); (first | rw [if_pos c202_71] | rw [if_neg c202_71] | skip); (first | rw [if_pos c231_76] | rw [if_neg c231_76] | skip); (first | rw [if_pos c258_81] | rw [if_neg c258_81] | skip); (first | rw [if_pos c286_86] | rw [if_neg c286_86] | skip); (first | rw [if_pos c319_93] | rw [if_neg c319_93] | skip); (first | rw [if_pos c352_100] | rw [if_neg c352_100] | skip); (first | rw [if_pos c361_102] | rw [if_neg c361_102] | skip); (first | rw [if_pos c368_103] | rw [if_neg c368_103] | skip))) (by first | (simp only [if_true, if_false, c175_66, c202_71, c231_76, c258_81, c286_86, c319_93, c352_100, c361_102, c368_103]; done) | ((first | rw [if_pos c175_66] | rw [if_neg c175_66] | skip); (first | rw [if_pos c202_71] | rw [if_neg c202_71] | skip); (first | rw [if_pos c231_76] | rw [if_neg c231_76] | skip); (first | rw [if_pos c258_81] | rw [if_neg c258_81] | skip); (first | rw [if_pos c286_86] | rw [if_neg c286_86] | skip); (first | rw [if_pos c319_93] | rw [if_neg c319_93] | skip); (first | rw [if_pos c352_100] | rw [if_neg c352_100] | skip); (first | rw [if_pos c361_102] | rw [if_neg c361_102] | skip); (first | rw [if_pos c368_103] | rw [if_neg c368_103] | skip))) (by first | (simp only [if_true, if_false, c175_66, c202_71, c231_76, c258_81, c286_86, c319_93, c352_100, c361_102, c368_103]; done) | ((first | rw [if_pos c175_66] | rw [if_neg c175_66] | skip); (first | rw [if_pos c202_71] | rw [if_neg c202_71] | skip); (first | rw [if_pos c231_76] | rw [if_neg c231_76] | skip); (first | rw [if_pos c258_81] | rw [if_neg c258_81] | skip); (first | rw [if_pos c286_86] | rw [if_neg c286_86] | skip); (first | rw [if_pos c319_93] | rw [if_neg c319_93] | skip); (first | rw [if_pos c352_100] | rw [if_neg c352_100] | skip); (first | rw [if_pos c361_102] | rw [if_neg c361_102] | skip); (first | rw [if_pos c368_103] | rw [if_neg c368_103] | skip))) (by first | (simp only [if_true, if_false, c175_66, c202_71, c231_76, c258_81, c286_86, c319_93, c352_100, c361_102, c368_103]; done) | ((first | rw [if_pos c175_66] | rw [if_neg c175_66] | skip); (first | rw [if_pos c202_71] | rw [if_neg c202_71] | skip); (first | rw [if_pos c231_76] | rw [if_neg c231_76] | skip); (first | rw [if_pos c258_81] | rw [if_neg c258_81] | skip); (first | rw [if_pos c286_86] | rw [if_neg c286_86] | skip); (first | rw [if_pos c319_93] | rw [if_neg c319_93] | skip); (first | rw [if_pos c352_100] | rw [if_neg c352_100] | skip); (first | rw [if_pos c361_102] | rw [if_neg c361_102] | skip); (first | rw [if_pos c368_103] | rw [if_neg c368_103] | skip))) (by first | (simp only [if_true, if_false, c175_66, c202_71, c231_76, c258_81, c286_86, c319_93, c352_100, c361_102, c368_103]; done) | ((first | rw [if_pos c175_66] | rw [if_neg c175_66] | skip); (first | rw [if_pos c202_71] | rw [if_neg c202_71] | skip); (first | rw [if_pos c231_76] | rw [if_neg c231_76] | skip); (first | rw [if_pos c258_81] | rw [if_neg c258_81] | skip); (first | rw [if_pos c286_86] | rw [if_neg c286_86] | skip); (first | rw [if_pos c319_93] | rw [if_neg c319_93] | skip); (first | rw [if_pos c352_100] | rw [if_neg c352_100] | skip); (first | rw [if_pos c361_102] | rw [if_neg c361_102] | skip); (first | rw [if_pos c368_103] | rw [if_neg c368_103] | skip)))
                    · refine own_step (fun _ k => XS.ifYes X36.here hx rfl (pc0 := 361) (pc' := 375) rfl (hb hby at_361) rfl ((if0 _ _).trans (feq c361_102).2) (by decide) (by decide) k) ?_
                      show own_Ends p e below F (T36.setTop (mkF m 375 A101 []))
                      refine own_step (fun _ k => XS.iconst X36.here hx rfl (hb hby at_375) k) ?_
                      show own_Ends p e below F (T36.setTop (mkF m 376 A101 [(.int (0 : Int32))]))
                      obtain ⟨A106, hA106⟩ : ∃ z : Array Slot, z = #[.val (.long p1), .second, .val (.long p2), .second, .val (.long p3), .second, .val (.int p4), .val (.int p5), .val (.long p6), .second, .val (.int v2), .val (.int v4), .val (.int v6), .val (.int v8), .val (.int v10), .val (.int z12), .val (.ref a17), .val (.ref z21), .val (.ref c26), .val (.ref c28), .val (.ref c30), .val (.ref c32), .val (.ref c34), .val (.ref z21), .val (.long p1), .second, .val (.long p2), .second, .val (.long p3), .second, .val (.int p4), .val (.int (0 : Int32)), .unset, .unset, .unset] := ⟨_, rfl⟩
                      refine own_step (fun _ k => XS.istore X36.here hx rfl (hb hby at_376) rfl (l' := A106) (by rw [hA101, hA106]; exact rfl) k) ?_
                      show own_Ends p e below F (T36.setTop (mkF m 378 A106 []))
                      rw [hA106]
                      exact J175_51 _ _ _ _ _ _ _ _ (by first | (simp only [if_true, if_false, c175_66, c202_71, c231_76, c258_81, c286_86, c319_93, c352_100, c361_102]; done) | ((first | rw [if_pos c175_66] | rw [if_neg c175_66] | skip); (first | rw [if_pos c202_71] | rw [if_neg c202_71] | skip); (first | rw [if_pos c231_76] | rw [if_neg c231_76] | skip); (first | rw [if_pos c258_81] | rw [if_neg c258_81] | skip); (first | rw [if_pos c286_86] | rw [if_neg c286_86] | skip); (first | rw [if_pos c319_93] | rw [if_neg c319_93] | skip); (first | rw [if_pos c352_100] | rw [if_neg c352_100] | skip); (first | rw [if_pos c361_102] | rw [if_neg c361_102] | skip))) (by first | (simp only [if_true, if_false, c175_66, c202_71, c231_76, c258_81, c286_86, c319_93, c352_100, c361_102]; done) | ((first | rw [if_pos c175_66] | rw [if_neg c175_66] | skip); (first | rw [if_pos c202_71] | rw [if_neg c202_71] | skip); (first | rw [if_pos c231_76] | rw [if_neg c231_76] | skip); (first | rw [if_pos c258_81] | rw [if_neg c258_81] | skip); (first | rw [if_pos c286_86] | rw [if_neg c286_86] | skip); (first | rw [if_pos c319_93] | rw [if_neg c319_93] | skip); (first | rw [if_pos c352_100] | rw [if_neg c352_100] | skip); (first | rw [if_pos c361_102] | rw [if_neg c361_102] | skip))) (by first | (simp only [if_true, if_false, c175_66, c202_71, c231_76, c258_81, c286_86, c319_93, c352_100, c361_102]; done) | ((first | rw [if_pos c175_66] | rw [if_neg c175_66] | skip); (first | rw [if_pos c202_71] | rw [if_neg c202_71] | skip); (first | rw [if_pos c231_76] | rw [if_neg c231_76] | skip); (first | rw [if_pos c258_81] | rw [if_neg c258_81] | skip); (first | rw [if_pos c286_86] | rw [if_neg c286_86] | skip); (first | rw [if_pos c319_93] | rw [if_neg c319_93] | skip); (first | rw [if_pos c352_100] | rw [if_neg c352_100] | skip); (first | rw [if_pos c361_102] | rw [if_neg c361_102] | skip))) (by first | (simp only [if_true, if_false, c175_66, c202_71, c231_76, c258_81, c286_86, c319_93, c352_100, c361_102]; done) | ((first | rw [if_pos c175_66] | rw [if_neg c175_66] | skip); (first | rw [if_pos c202_71] | rw [if_neg c202_71] | skip); (first | rw [if_pos c231_76] | rw [if_neg c231_76] | skip); (first | rw [if_pos c258_81] | rw [if_neg c258_81] | skip); (first | rw [if_pos c286_86] | rw [if_neg c286_86] | skip); (first | rw [if_pos c319_93] | rw [if_neg c319_93] | skip); (first | rw [if_pos c352_100] | rw [if_neg c352_100] | skip); (first | rw [if_pos c361_102] | rw [if_neg c361_102] | skip))) (by first | (simp only [if_true, if_false, c175_66, c202_71, c231_76, c258_81, c286_86, c319_93, c352_100, c361_102]; done) | ((first | rw [if_pos c175_66] | rw [if_neg c175_66] | skip); (first | rw [if_pos c202_71] | rw [if_neg c202_71] | skip); (first | rw [if_pos c231_76] | rw [if_neg c231_76] | skip); (first | rw [if_pos c258_81] | rw [if_neg c258_81] | skip); (first | rw [if_pos c286_86] | rw [if_neg c286_86] | skip); (first | rw [if_pos c319_93] | rw [if_neg c319_93] | skip); (first | rw [if_pos c352_100] | rw [if_neg c352_100] | skip); (first | rw [if_pos c361_102] | rw [if_neg c361_102] | skip))) (by first | (simp only [if_true, if_false, c175_66, c202_71, c231_76, c258_81, c286_86, c319_93, c352_100, c361_102]; done) | ((first | rw [if_pos c175_66] | rw [if_neg c175_66] | skip); (first | rw [if_pos c202_71] | rw [if_neg c202_71] | skip); (first | rw [if_pos c231_76] | rw [if_neg c231_76] | skip); (first | rw [if_pos c258_81] | rw [if_neg c258_81] | skip); (first | rw [if_pos c286_86] | rw [if_neg c286_86] | skip); (first | rw [if_pos c319_93] | rw [if_neg c319_93] | skip); (first | rw [if_pos c352_100] | rw [if_neg c352_100] | skip); (first | rw [if_pos c361_102] | rw [if_neg c361_102] | skip))) (by first | (simp only [if_true, if_false, c175_66, c202_71, c231_76, c258_81, c286_86, c319_93, c352_100, c361_102]; done) | ((first | rw [if_pos c175_66] | rw [if_neg c175_66] | skip); (first | rw [if_pos c202_71] | rw [if_neg c202_71] | skip); (first | rw [if_pos c231_76] | rw [if_neg c231_76] | skip); (first | rw [if_pos c258_81] | rw [if_neg c258_81] | skip); (first | rw [if_pos c286_86] | rw [if_neg c286_86] | skip); (first | rw [if_pos c319_93] | rw [if_neg c319_93] | skip); (first | rw [if_pos c352_100] | rw [if_neg c352_100] | skip); (first | rw [if_pos c361_102] | rw [if_neg c361_102] | skip))) (by first | (simp only [if_true, if_false, c175_66, c202_71, c231_76, c258_81, c286_86, c319_93, c352_100, c361_102]; done) | ((first | rw [if_pos c175_66] | rw [if_neg c175_66] | skip); (first | rw [if_pos c202_71] | rw [if_neg c202_71] | skip); (first | rw [if_pos c231_76] | rw [if_neg c231_76] | skip); (first | rw [if_pos c258_81] | rw [if_neg c258_81] | skip); (first | rw [if_pos c286_86] | rw [if_neg c286_86] | skip); (first | rw [if_pos c319_93] | rw [if_neg c319_93] | skip); (first | rw [if_pos c352_100] | rw [if_neg c352_100] | skip); (first | rw [if_pos c361_102] | rw [if_neg c361_102] | skip)))
                  · refine own_step (fun _ k => XS.icmpYes X36.here hx rfl (pc0 := 352) (pc' := 378) rfl (hb hby at_352) rfl (feq c352_100).2 (by decide) (by decide) k) ?_
                    show own_Ends p e below F (T36.setTop (mkF m 378 A42 []))
                    rw [hA42]
                    exact J175_51 _ _ _ _ _ _ _ _ (by first | (simp only [if_true, if_false, c175_66, c202_71, c231_76, c258_81, c286_86, c319_93, c352_100]; done) | ((first | rw [if_pos c175_66] | rw [if_neg c175_66] | skip); (first | rw [if_pos c202_71] | rw [if_neg c202_71] | skip); (first | rw [if_pos c231_76] | rw [if_neg c231_76] | skip); (first | rw [if_pos c258_81] | rw [if_neg c258_81] | skip); (first | rw [if_pos c286_86] | rw [if_neg c286_86] | skip); (first | rw [if_pos c319_93] | rw [if_neg c319_93] | skip); (first | rw [if_pos c352_100] | rw [if_neg c352_100] | skip))) (by first | (simp only [if_true, if_false, c175_66, c202_71, c231_76, c258_81, c286_86, c319_93, c352_100]; done) | ((first | rw [if_pos c175_66] | rw [if_neg c175_66] | skip); (first | rw [if_pos c202_71] | rw [if_neg c202_71] | skip); (first | rw [if_pos c231_76] | rw [if_neg c231_76] | skip); (first | rw [if_pos c258_81] | rw [if_neg c258_81] | skip); (first | rw [if_pos c286_86] | rw [if_neg c286_86] | skip); (first | rw [if_pos c319_93] | rw [if_neg c319_93] | skip); (first | rw [if_pos c352_100] | rw [if_neg c352_100] | skip))) (by first | (simp only [if_true, if_false, c175_66, c202_71, c231_76, c258_81, c286_86, c319_93, c352_100]; done) | ((first | rw [if_pos c175_66] | rw [if_neg c175_66] | skip); (first | rw [if_pos c202_71] | rw [if_neg c202_71] | skip); (first | rw [if_pos c231_76] | rw [if_neg c231_76] | skip); (first | rw [if_pos c258_81] | rw [if_neg c258_81] | skip); (first | rw [if_pos c286_86] | rw [if_neg c286_86] | skip); (first | rw [if_pos c319_93] | rw [if_neg c319_93] | skip); (first | rw [if_pos c352_100] | rw [if_neg c352_100] | skip))) (by first | (simp only [if_true, if_false, c175_66, c202_71, c231_76, c258_81, c286_86, c319_93, c352_100]; done) | ((first | rw [if_pos c175_66] | rw [if_neg c175_66] | skip); (first | rw [if_pos c202_71] | rw [if_neg c202_71] | skip); (first | rw [if_pos c231_76] | rw [if_neg c231_76] | skip); (first | rw [if_pos c258_81] | rw [if_neg c258_81] | skip); (first | rw [if_pos c286_86] | rw [if_neg c286_86] | skip); (first | rw [if_pos c319_93] | rw [if_neg c319_93] | skip); (first | rw [if_pos c352_100] | rw [if_neg c352_100] | skip))) (by first | (simp only [if_true, if_false, c175_66, c202_71, c231_76, c258_81, c286_86, c319_93, c352_100]; done) | ((first | rw [if_pos c175_66] | rw [if_neg c175_66] | skip); (first | rw [if_pos c202_71] | rw [if_neg c202_71] | skip); (first | rw [if_pos c231_76] | rw [if_neg c231_76] | skip); (first | rw [if_pos c258_81] | rw [if_neg c258_81] | skip); (first | rw [if_pos c286_86] | rw [if_neg c286_86] | skip); (first | rw [if_pos c319_93] | rw [if_neg c319_93] | skip); (first | rw [if_pos c352_100] | rw [if_neg c352_100] | skip))) (by first | (simp only [if_true, if_false, c175_66, c202_71, c231_76, c258_81, c286_86, c319_93, c352_100]; done) | ((first | rw [if_pos c175_66] | rw [if_neg c175_66] | skip); (first | rw [if_pos c202_71] | rw [if_neg c202_71] | skip); (first | rw [if_pos c231_76] | rw [if_neg c231_76] | skip); (first | rw [if_pos c258_81] | rw [if_neg c258_81] | skip); (first | rw [if_pos c286_86] | rw [if_neg c286_86] | skip); (first | rw [if_pos c319_93] | rw [if_neg c319_93] | skip); (first | rw [if_pos c352_100] | rw [if_neg c352_100] | skip))) (by first | (simp only [if_true, if_false, c175_66, c202_71, c231_76, c258_81, c286_86, c319_93, c352_100]; done) | ((first | rw [if_pos c175_66] | rw [if_neg c175_66] | skip); (first | rw [if_pos c202_71] | rw [if_neg c202_71] | skip); (first | rw [if_pos c231_76] | rw [if_neg c231_76] | skip); (first | rw [if_pos c258_81] | rw [if_neg c258_81] | skip); (first | rw [if_pos c286_86] | rw [if_neg c286_86] | skip); (first | rw [if_pos c319_93] | rw [if_neg c319_93] | skip); (first | rw [if_pos c352_100] | rw [if_neg c352_100] | skip))) (by first | (simp only [if_true, if_false, c175_66, c202_71, c231_76, c258_81, c286_86, c319_93, c352_100]; done) | ((first | rw [if_pos c175_66] | rw [if_neg c175_66] | skip); (first | rw [if_pos c202_71] | rw [if_neg c202_71] | skip); (first | rw [if_pos c231_76] | rw [if_neg c231_76] | skip); (first | rw [if_pos c258_81] | rw [if_neg c258_81] | skip); (first | rw [if_pos c286_86] | rw [if_neg c286_86] | skip); (first | rw [if_pos c319_93] | rw [if_neg c319_93] | skip); (first | rw [if_pos c352_100] | rw [if_neg c352_100] | skip)))
    by_cases c91_107 : z12 = (0 : Int32)
    · refine own_step (fun _ k => XS.ifYes X20.here hx rfl (pc0 := 91) (pc' := 106) rfl (hb hby at_91) rfl ((if0 _ _).trans (teq c91_107).1) (by decide) (by decide) k) ?_
      show own_Ends p e below F (T20.setTop (mkF m 106 A18 []))
      refine own_step (fun _ k => XS.iload X20.here hx rfl (hb hby at_106) (by rw [hA18]; rfl) k) ?_
      show own_Ends p e below F (T20.setTop (mkF m 108 A18 [(.int v10)]))
      obtain ⟨_, _, ⟨T108, L108, k108, n108⟩, -, X108, ⟨Lc108, hQ108, l108, y108, z108⟩, st108⟩ := Jvm.LawKit.callS X20 hx (y := (⟨"java/lang/String", "valueOf", "(C)Ljava/lang/String;"⟩ : MethodName)) hown (mvT hZ (own_g hw 2 rfl)) (mvT hZ (own_g hw 3 rfl)) (mvT hZ (own_g hw 4 rfl)) (mvT hZ (own_g hw 5 rfl)) (by decide) (backOf (W := 0) (rm1 l Z a0 hw [] v10 zc h20 n0 Z20 (Sta.wr W20 (Sta.wr W19 (Sta.ext E17 SC))) hz ch14) hZ (own_g hw 5 rfl) (own_g hw 4 rfl) (by decide) (by decide)) (g := (mkF m 108 A18 [(.int v10)])) rfl (by rw [hml]; show A18.size = _; rw [hA18]; rfl) (argsL := [(.int v10)]) (rest := []) (lenOf pd__28C_29Ljava_2flang_2fString_3b rfl) rfl (by show 2 * 0 + _ ≤ _; exact Nat.le_of_eq rfl) (hb hby at_108) (fun _ _ => ⟨rfl, e20, (by decide : 1 + 2 ≤ _), (by decide : 2 + 5 ≤ _)⟩)
      dsimp only [Pt.U, Pt.locs, Pt.cells, Pt.slots] at X108 l108 y108 z108 st108 hQ108
      subst l108 y108 z108
      obtain ⟨c108, rfl, Nq108, Kq108, fq0_108, fq1_108⟩ := hQ108
      have N108 := Fr.app N20 Nq108
      have Z108 : n0 ≤ T108.heap.size := Nat.le_trans Z20 Kq108.1
      have SZ108 : h0.size ≤ T108.heap.size := Nat.le_trans SZ20 Kq108.1
      have S0_108 := own_Sta_keep (Sta.wr W20 (Sta.wr W19 (Sta.ext E17 SC))) Kq108 all0
      have ne_a17_c108 : a17 ≠ c108 := Nat.ne_of_lt (Nat.lt_of_lt_of_le (V20).lt fq0_108)
      have ge_c108 : n0 ≤ c108 := Nat.le_trans Z20 fq0_108
      have sz_c108 : h0.size ≤ c108 := Nat.le_trans SZ20 fq0_108
      have str108 := fq1_108
      have fe108 := str108.exa
      have hk := Nat.le_trans hk Kq108.1
      refine own_step st108 ?_
      show own_Ends p e below F (T108.setTop (mkF m 111 A18 [(.ref c108)]))
      rw [hA18]
      exact J91_22 _ _ _ (own_mono X108 (by decide) (by decide)) rfl N108 _ trivial Z108 SZ108 _ hS hk S0_108 (by unfold own_alt; rw [if_pos c91_107]; exact (str108).top)
    · refine own_step (fun _ k => XS.ifNo X20.here hx rfl (hb hby at_91) rfl ((if0 _ _).trans (feq c91_107).1) k) ?_
      show own_Ends p e below F (T20.setTop (mkF m 94 A18 []))
      obtain ⟨T109, h109, X109, e109, E109, A109, D109, -, st109⟩ := newO X20 hx hZ hown (own_g hw 76 rfl) (own_g hw 12 rfl) (own_g hw 4 rfl) e20 (g := (mkF m 94 A18 [])) rfl (hb hby at_94) (by decide) (by decide)
      obtain ⟨a109, g109⟩ : ∃ z, z = h20.size := ⟨_, rfl⟩
      rw [← g109] at A109 D109 st109
      have ge_a109 : n0 ≤ a109 := Nat.le_trans Z20 (Nat.le_of_eq g109.symm)
      have sz_a109 : h0.size ≤ a109 := Nat.le_trans SZ20 (Nat.le_of_eq g109.symm)
      have ne_a17_a109 : a17 ≠ a109 := Nat.ne_of_lt (by rw [g109]; exact V20.lt)
      have Z109 : n0 ≤ h109.size := Nat.le_trans Z20 E109.1
      have SZ109 : h0.size ≤ h109.size := Nat.le_trans SZ20 E109.1
      have hk := Nat.le_trans hk E109.1
      have F109_value : Fld Z h109 a109 "java/lang/String" "value" "[B" .null := D109 (Or.inr (own_g hw 25 rfl)) (ty := (.array .byte)) (by decide)
      have F109_coder : Fld Z h109 a109 "java/lang/String" "coder" "B" (.int (0 : Int32)) := D109 (Or.inr (own_g hw 27 rfl)) (ty := .byte) (by decide)
      refine own_step st109 ?_
      show own_Ends p e below F (T109.setTop (mkF m 97 A18 [(.ref a109)]))
      refine own_step (fun _ k => XS.dup X109.here hx rfl (hb hby at_97) rfl rfl k) ?_
      show own_Ends p e below F (T109.setTop (mkF m 98 A18 [(.ref a109), (.ref a109)]))
      refine own_step (fun _ k => XS.aload X109.here hx rfl (hb hby at_98) (by rw [hA18]; rfl) rfl k) ?_
      show own_Ends p e below F (T109.setTop (mkF m 100 A18 [(.ref a17), (.ref a109), (.ref a109)]))
      obtain ⟨_, _, ⟨T110, L110, k110, n110⟩, -, X110, ⟨Lc110, hQ110, l110, y110, z110⟩, st110⟩ := X109.specialBack hx (y := (⟨"java/lang/String", "<init>", "([C)V"⟩ : MethodName)) rfl hown (mvT hZ (own_g hw 77 rfl)) (mvT hZ (own_g hw 78 rfl)) (mvT hZ (own_g hw 79 rfl)) (by decide) (StrChars.Road.backV (W := 1) hZ (fun d hd => hw d ((by decide +kernel : ∀ d ∈ StrChars.Road.words, d ∈ tables_1) d hd)) (kI := 4) (own_g hw 12 rfl) (cs := ([v10, v10] : List Int32)) (bs := ([v10, v10] : List Int32).map (fun c => c.toInt8.toInt32)) (n := 2) ge_a109 Z109 A109 F109_value F109_coder (V20.ext E109) (Sta.ext E109 (Sta.wr W20 (Sta.wr W19 (Sta.ext E17 SC)))) hz rfl rfl (by decide) (by decide) (own_cS ch14 (own_cS ch14 own_c0)) rfl (by decide) (by decide)) (g := (mkF m 100 A18 [(.ref a17), (.ref a109), (.ref a109)])) rfl (by rw [hml]; show A18.size = _; rw [hA18]; rfl) (Steps.refl _) (a := a109) (argsL := [(.ref a17)]) (rest := [(.ref a109)]) (lenOf pd__28_5bC_29V rfl) rfl (by show 2 * 0 + _ ≤ _; exact Nat.le_of_eq rfl) (hb hby at_100) (fun _ _ => ⟨rfl, e109, (by decide : 2 + 1 ≤ _), (by decide : 6 + 2 ≤ _)⟩)
      dsimp only [Pt.U, Pt.locs, Pt.cells, Pt.slots] at X110 l110 y110 z110 st110 hQ110
      subst l110 y110 z110
      obtain ⟨rfl, Nq110, Kq110, fe110, fc110, tt110, kt110, -, -, -, fv110, fa110⟩ := hQ110
      have N110 := Fr.app N20 Nq110
      have Z110 : n0 ≤ T110.heap.size := Nat.le_trans Z109 Kq110.1
      have SZ110 : h0.size ≤ T110.heap.size := Nat.le_trans SZ109 Kq110.1
      have S0_110 := own_Sta_keep (Sta.ext E109 (Sta.wr W20 (Sta.wr W19 (Sta.ext E17 SC)))) Kq110 (allS (own_ns_exa A109) all0)
      have str110 : own_Str Z T110.heap T110.heap.size a109 ([v10, v10] : List Int32) := own_Str.mk fe110 fc110 fv110 fa110 rfl rfl (own_cS ch14 (own_cS ch14 own_c0))
      have hk := Nat.le_trans hk Kq110.1
      refine own_trans st110 ?_
      show own_Ends p e below F (T110.setTop (mkF m 103 A18 [(.ref a109)]))
      refine own_step (fun _ k => XS.goto X110.here hx rfl (pc0 := 103) (pc' := 111) rfl (hb hby at_103) (by decide) (by decide) k) ?_
      show own_Ends p e below F (T110.setTop (mkF m 111 A18 [(.ref a109)]))
      rw [hA18]
      exact J91_22 _ _ _ X110 rfl N110 _ trivial Z110 SZ110 _ hS hk S0_110 (by unfold own_alt; rw [if_neg c91_107]; exact (str110).top)
  by_cases c62_111 : (((p6.toUInt64 >>> ((8 : Int32) &&& 0x3f).toInt64.toUInt64).toInt64) &&& (1 : Int64)) = (0 : Int64)
  · refine own_step (fun _ k => XS.ifYes X0.here hx rfl (pc0 := 62) (pc' := 69) rfl (hb hby at_62) rfl ((if0 _ _).trans (teq ((lw_eq _ _).mpr c62_111)).1) (by decide) (by decide) k) ?_
    show own_Ends p e below F (s₁.setTop (mkF m 69 A11 []))
    refine own_step (fun _ k => XS.iconst X0.here hx rfl (hb hby at_69) k) ?_
    show own_Ends p e below F (s₁.setTop (mkF m 70 A11 [(.int (0 : Int32))]))
    rw [hA11]
    exact J62_13 _ (by simp only [if_true, if_false, c62_111])
  · refine own_step (fun _ k => XS.ifNo X0.here hx rfl (hb hby at_62) rfl ((if0 _ _).trans (feq (fun q => c62_111 ((lw_eq _ _).mp q))).1) k) ?_
    show own_Ends p e below F (s₁.setTop (mkF m 65 A11 []))
    refine own_step (fun _ k => XS.iconst X0.here hx rfl (hb hby at_65) k) ?_
    show own_Ends p e below F (s₁.setTop (mkF m 66 A11 [(.int (1 : Int32))]))
    refine own_step (fun _ k => XS.goto X0.here hx rfl (pc0 := 66) (pc' := 70) rfl (hb hby at_66) (by decide) (by decide) k) ?_
    show own_Ends p e below F (s₁.setTop (mkF m 70 A11 [(.int (1 : Int32))]))
    rw [hA11]
    exact J62_13 _ (by simp only [if_true, if_false, c62_111])

theorem own_scstart {Z : State} {args : Array Value} (h1 : (Jvm.Cond.initializedFor "java/lang/String" "COMPACT_STRINGS" "Z").before args Z = true) (h2 : (Jvm.Cond.isInt (Jvm.Term.static "java/lang/String" "COMPACT_STRINGS" "Z")).before args Z = true) (h3 : (Jvm.Cond.not (Jvm.Cond.eq (Jvm.Term.static "java/lang/String" "COMPACT_STRINGS" "Z") (Jvm.Term.int (0 : Int32)))).before args Z = true) : ∃ z : Int32, Sta Z Z.heap "java/lang/String" "COMPACT_STRINGS" "Z" (.int z) ∧ ¬ z = 0 := by
  obtain ⟨z, e⟩ := is_v (Cond.before_iff.mp h2)
  refine ⟨z, Sta.start e (Or.inl h1), ?_⟩
  have q := not_v (Cond.before_iff.mp h3)
  have q2 : (Jvm.Cond.eq (Jvm.Term.static "java/lang/String" "COMPACT_STRINGS" "Z") (Jvm.Term.int (0 : Int32))).value args Z none Z [] = some (decide (z = 0)) := by simp only [Cond.value, e]; first | done | rfl
  exact gotF q2 q

set_option maxRecDepth 65536 in
set_option maxHeartbeats 40000000 in
theorem comes_1 {Post : Tables → Env → Array Value → State → Outcome → State → Prop} (hpost : ∀ tb e args s v u, (limb_1_1.after args s (.returned v) u = true ∧ limb_1_2.after args s (.returned v) u = true ∧ True) → ReturnedEndW s (.returned v) u (Jvm.fieldLocs frame_1_writes args s ++ Jvm.arrayLocs frame_1_arrays args s ++ Jvm.staticLocs frame_1_statics s) 48 3264 → Post tb e args s (.returned v) u) :
    ArmFor flags0 classFile x code maxLocals ret World_1 tables_1 room_1 Calls_1 rest_1 Pre_1 Post := by
  intro l hfl _ _ p e ha hc hk s m args below hf hA hF happ hP
  obtain ⟨hcalls, hrest, hpre⟩ := hP
  obtain ⟨-, -, -, hnamed, -, -, -, hat⟩ := (Spec.applies_iff hf).mp happ
  obtain ⟨hg, hn⟩ := and_e (Cond.before_iff.mp (show (Jvm.Cond.and given_1 narrow_1).before args s = true from hpre))
  obtain ⟨g0, r0⟩ := and_e hg
  obtain ⟨g1, r1⟩ := and_e r0
  obtain ⟨g2, r2⟩ := and_e r1
  obtain ⟨g3, r3⟩ := and_e r2
  obtain ⟨g4, r4⟩ := and_e r3
  obtain ⟨g5, r5⟩ := and_e r4
  have g6 := r5
  obtain ⟨w0, w1, w2, w3, w4, w5, rfl⟩ : ∃ w0 w1 w2 w3 w4 w5 : Value, args = #[w0, w1, w2, w3, w4, w5] := by
    have hs : args.size = 6 := by simpa [Cond.value, given_1] using g0
    obtain ⟨L⟩ := args
    match L, hs with
    | [w0, w1, w2, w3, w4, w5], _ => exact ⟨w0, w1, w2, w3, w4, w5, rfl⟩
  have hw := fun d (hd : d ∈ tables_1) => atoms_spec (ws := Jvm.Cond.code x code maxLocals ret :: tables_1) hat d (List.mem_cons_of_mem _ hd)
  have hfit : Fit s := fun {y c} hc i hi => by
    obtain ⟨ha, rfl⟩ := Array.getElem?_eq_some_iff.mp hc
    have q := List.all_eq_true.mp ((Array.all_eq_true_iff_forall_mem.mp hF) _ (Array.getElem_mem ha)) i (List.mem_range.mpr hi)
    simpa [Array.getElem?_eq_getElem hi] using q
  obtain ⟨i0, ei0⟩ := isL_v g1
  obtain rfl : w0 = (.long i0) := Option.some.inj ei0
  obtain ⟨i1, ei1⟩ := isL_v g2
  obtain rfl : w1 = (.long i1) := Option.some.inj ei1
  obtain ⟨i2, ei2⟩ := isL_v g3
  obtain rfl : w2 = (.long i2) := Option.some.inj ei2
  obtain ⟨i3, ei3⟩ := is_v g4
  obtain rfl : w3 = (.int i3) := Option.some.inj ei3
  obtain ⟨i4, ei4⟩ := is_v g5
  obtain rfl : w4 = (.int i4) := Option.some.inj ei4
  obtain ⟨i5, ei5⟩ := isL_v g6
  obtain rfl : w5 = (.long i5) := Option.some.inj ei5
  obtain ⟨hst, -⟩ := atoms_of (own := restOwn_1) jdkStatics_1 (by rw [← rest_1_c_eq]; exact hrest)
  obtain ⟨zc, SC, hz⟩ := own_scstart (hst _ (List.mem_of_getElem? (i := 0) rfl)) (hst _ (List.mem_of_getElem? (i := 1) rfl)) (hst _ (List.mem_of_getElem? (i := 2) rfl))
  obtain ⟨n, o, h1, h2, h3, _, L, rfl, ⟨rfl, N⟩, hq⟩ := rm0 l s _ hw tables_1 i0 i1 i2 i3 i4 i5 zc s.heap s.heap.size (Nat.le_refl _) SC hz p e ha hc hk s m _ below hf ((Spec.applies_iff_loose hf).mp happ).1 ⟨rfl, State.Warmed39.refl s, rfl⟩ trivial
  refine ⟨n, _, h1, h2, h3, hpost _ _ _ _ _ _ ⟨Cond.after_iff.mpr rfl, Cond.after_iff.mpr (eq_i res_at (Term.int_eval (1)) rfl), trivial⟩ ⟨hq.1, hq.2.1, hq.2.2.1, (hq.2.2.2.sift fun y hy => Or.inr (N y hy)).mono (by decide) (by decide)⟩⟩
theorem main_1_1 : Claimed_1_1 := comes_1 fun _ _ _ _ _ _ h hF => ⟨h.1, hF⟩
theorem main_1_2 : Claimed_1_2 := comes_1 fun _ _ _ _ _ _ h hF => ⟨h.2.1, hF⟩

end Jvm.Pilot.@@N@@
namespace Jvm.Pilot.@@N@@
open Jvm Jvm.ClassFile Sem Op Lib Jvm.Free Jvm.Stand Jvm.Pilot.@@N@@.Jvm.D
/-! MADE BY PROGRAM (witnessworld.py) out of the Statement's table words and the real class files: 21 classes; the members and pool entries that the words name. The judged class is class 1, her method 1. -/
namespace start1
open Jvm.ClassFile
def u (s : String) : CpInfo := .utf8 (stringToUtf16 s)
/-- a pool by its gaps: so many unusable entries, then the entry; so many at the end -/
def gap : Nat → List CpInfo → List CpInfo
  | 0, r => r
  | n + 1, r => .unusable :: gap n r
def poolList (es : List (Nat × CpInfo)) (last : Nat) : List CpInfo := es.foldr (fun e r => gap e.1 (e.2 :: r)) (gap last [])
def pool (es : List (Nat × CpInfo)) (last : Nat) : Array CpInfo := ⟨poolList es last⟩
def fileOf (pool : Array CpInfo) (this : Nat) (attrs : Array Attribute := #[]) (ms : Array MethodInfo := #[]) (fl : Nat := 33) (sup : Nat := 0) (ifs : Array Nat := #[]) (fds : Array FieldInfo := #[]) : ClassFile where
  minorVersion := 0
  majorVersion := 65
  constantPool := pool
  accessFlags := fl
  thisClass := this
  superClass := sup
  interfaces := ifs
  fields := fds
  methods := ms
  attributes := attrs
def plain (name : String) (sup : Option ClassId) : Class where
  name := name
  kind := .ordinary
  loader := none
  accessFlags := 33
  super := sup
  interfaces := #[]
  cf := none
  fields := #[]
  methods := #[]
  instanceTypes := #[]
  staticTypes := #[]
  resolved := #[]
  callSites := []
  init := .initialized
  statics := none
  mirror := none

def pool0 : Array CpInfo := pool [(5, u "<init>"), (0, u "()V"), (1, .class_ 10), (1, u "java/lang/Object")] 113

def k0c0 : Code := { maxStack := 0, maxLocals := 1, code := object_method_1_code, exceptionTable := #[], attributes := #[] }
def k0m0 : Method := { name := "<init>", desc := "()V", sig := { parameters := [], returnType := none }, accessFlags := 1, code := some k0c0 }
/-- java/lang/Object -/
def k0 : Class := { plain "java/lang/Object" none with
  accessFlags := 33
  interfaces := #[]
  cf := some (fileOf pool0 8 #[] #[{ accessFlags := 1, nameIndex := 5, descriptorIndex := 6, attributes := #[] }] 33 0 #[] #[])
  fields := #[]
  methods := #[k0m0]
  instanceTypes := #[]
  staticTypes := #[]
  resolved := Array.replicate 124 none
  statics := none }

def pool1 : Array CpInfo := pool [(2, .class_ 4), (1, u "java/lang/Object"), (0, u "<init>"), (0, u "()V"), (0, .long 255), (1, .class_ 10), (0, u "java/lang/String"), (0, .methodref 9 12), (0, .nameAndType 5 13), (0, u "([C)V"), (0, .methodref 9 15), (0, .nameAndType 16 17), (0, u "valueOf"), (0, u "(C)Ljava/lang/String;"), (0, .class_ 19), (0, u "com/example/clock3600/clock3600/queue/StoredTask"), (0, .methodref 18 21), (0, .nameAndType 5 22), (0, u "(Ljava/lang/String;Ljava/lang/String;JLjava/lang/String;IJJ)V"), (0, .methodref 18 24), (0, .nameAndType 25 26), (0, u "equals"), (0, u "(Ljava/lang/Object;)Z"), (0, .class_ 28), (0, u "com/example/clock3600/clock3600/queue/StoredTaskEqualsPinLaw"), (2, u "law"), (0, u "(JJJIIJ)Z")] 5

def k1m0 : Method := { name := "<init>", desc := "()V", sig := { parameters := [], returnType := none }, accessFlags := 1, code := none }
def k1c1 : Code := { maxStack := 12, maxLocals := 35, code := code, exceptionTable := #[], attributes := #[] }
def k1m1 : Method := { name := "law", desc := "(JJJIIJ)Z", sig := { parameters := [.long, .long, .long, .int, .int, .long], returnType := some .boolean }, accessFlags := 9, code := some k1c1 }
/-- com/example/clock3600/clock3600/queue/StoredTaskEqualsPinLaw -/
def k1 : Class := { plain "com/example/clock3600/clock3600/queue/StoredTaskEqualsPinLaw" (some 0) with
  accessFlags := 49
  interfaces := #[]
  cf := some (fileOf pool1 27 #[] #[{ accessFlags := 1, nameIndex := 5, descriptorIndex := 6, attributes := #[] }, { accessFlags := 9, nameIndex := 31, descriptorIndex := 32, attributes := #[] }] 49 2 #[] #[])
  fields := #[]
  methods := #[k1m0, k1m1]
  instanceTypes := #[]
  staticTypes := #[]
  resolved := Array.replicate 38 none
  statics := none }

def pool2 : Array CpInfo := pool [(1, .class_ 2), (0, u "java/io/Serializable"), (0, .class_ 4), (0, u "java/lang/Object")] 2

/-- java/io/Serializable -/
def k2 : Class := { plain "java/io/Serializable" (some 0) with
  accessFlags := 1537
  interfaces := #[]
  cf := some (fileOf pool2 1 #[] #[] 1537 3 #[] #[])
  fields := #[]
  methods := #[]
  instanceTypes := #[]
  staticTypes := #[]
  resolved := Array.replicate 7 none
  statics := none }

def pool3 : Array CpInfo := pool [(1, .class_ 2), (0, u "java/lang/Comparable"), (0, .class_ 4), (0, u "java/lang/Object")] 7

/-- java/lang/Comparable -/
def k3 : Class := { plain "java/lang/Comparable" (some 0) with
  accessFlags := 1537
  interfaces := #[]
  cf := some (fileOf pool3 1 #[] #[] 1537 3 #[] #[])
  fields := #[]
  methods := #[]
  instanceTypes := #[]
  staticTypes := #[]
  resolved := Array.replicate 12 none
  statics := none }

def pool4 : Array CpInfo := pool [(2, .class_ 4), (1, u "java/lang/CharSequence"), (42, .class_ 48), (0, u "java/lang/CharSequence$1CodePointIterator"), (10, .class_ 60), (0, u "java/lang/CharSequence$1CharIterator"), (5, .class_ 67), (0, u "java/lang/Object")] 63

/-- java/lang/CharSequence -/
def k4 : Class := { plain "java/lang/CharSequence" (some 0) with
  accessFlags := 1537
  interfaces := #[]
  cf := some (fileOf pool4 2 #[.nestMembers #[47, 59]] #[] 1537 66 #[] #[])
  fields := #[]
  methods := #[]
  instanceTypes := #[]
  staticTypes := #[]
  resolved := Array.replicate 131 none
  statics := none }

def pool5 : Array CpInfo := pool [(1, .class_ 2), (0, u "java/lang/constant/Constable"), (0, .class_ 4), (0, u "java/lang/Object")] 6

/-- java/lang/constant/Constable -/
def k5 : Class := { plain "java/lang/constant/Constable" (some 0) with
  accessFlags := 1537
  interfaces := #[]
  cf := some (fileOf pool5 1 #[] #[] 1537 3 #[] #[])
  fields := #[]
  methods := #[]
  instanceTypes := #[]
  staticTypes := #[]
  resolved := Array.replicate 11 none
  statics := none }

def pool6 : Array CpInfo := pool [(1, .class_ 2), (0, u "java/lang/constant/ConstantDesc"), (0, .class_ 4), (0, u "java/lang/Object")] 32

/-- java/lang/constant/ConstantDesc -/
def k6 : Class := { plain "java/lang/constant/ConstantDesc" (some 0) with
  accessFlags := 1537
  interfaces := #[]
  cf := some (fileOf pool6 1 #[] #[] 1537 3 #[] #[])
  fields := #[]
  methods := #[]
  instanceTypes := #[]
  staticTypes := #[]
  resolved := Array.replicate 37 none
  statics := none }

def pool7 : Array CpInfo := pool [(1, .methodref 2 3), (0, .class_ 4), (0, .nameAndType 5 6), (0, u "java/lang/Object"), (0, u "<init>"), (0, u "()V"), (2, .fieldref 10 11), (0, .class_ 12), (0, .nameAndType 13 14), (0, u "java/lang/String"), (0, u "value"), (0, u "[B"), (0, .fieldref 10 16), (0, .nameAndType 17 18), (0, u "coder"), (0, u "B"), (2, u "hash"), (0, u "I"), (2, u "hashIsZero"), (0, u "Z"), (0, .methodref 10 28), (0, .nameAndType 5 29), (0, u "([CIILjava/lang/Void;)V"), (8, .fieldref 10 39), (0, .nameAndType 40 26), (0, u "COMPACT_STRINGS"), (1, .class_ 44), (1, u "java/lang/StringUTF16"), (0, u "compress"), (1, .methodref 42 48), (0, .nameAndType 49 50), (0, u "coderFromArrayLen"), (0, u "([BI)B"), (2, u "toBytes"), (53, .class_ 109), (1, u "java/lang/StringLatin1"), (67, .methodref 42 178), (0, .nameAndType 45 179), (0, u "([CII)[B"), (29, .methodref 10 210), (0, .nameAndType 5 211), (0, u "([BB)V"), (157, u "(C)Z"), (171, .methodref 107 542), (0, .nameAndType 543 544), (0, u "equals"), (0, u "([B[B)Z"), (28, u "(Ljava/lang/Object;)Z"), (1, .class_ 576), (0, u "java/lang/CharSequence"), (22, u "CASE_INSENSITIVE_ORDER"), (0, u "Ljava/util/Comparator;"), (181, u "valueOf"), (0, u "(C)Ljava/lang/String;"), (226, u "([C)V"), (4, .methodref 107 1016), (0, .nameAndType 1017 369), (0, u "canEncode"), (0, .methodref 107 1019), (0, .nameAndType 53 1020), (0, u "(C)[B"), (80, u "serialPersistentFields"), (0, u "[Ljava/io/ObjectStreamField;"), (0, .class_ 1104), (0, u "java/lang/String$CaseInsensitiveComparator"), (1, .class_ 1107), (0, u "java/io/Serializable"), (0, .class_ 1109), (0, u "java/lang/Comparable"), (0, .class_ 1111), (0, u "java/lang/constant/Constable"), (0, .class_ 1113), (0, u "java/lang/constant/ConstantDesc"), (2, u "serialVersionUID"), (0, u "J"), (3, u "REPL"), (0, u "C"), (2, u "LATIN1"), (1, u "UTF16")] 323

def k7m0 : Method := { name := "<init>", desc := "()V", sig := { parameters := [], returnType := none }, accessFlags := 1, code := none }
def k7c1 : Code := { maxStack := 5, maxLocals := 2, code := jdk_42_method_3_code, exceptionTable := #[], attributes := #[] }
def k7m1 : Method := { name := "<init>", desc := "([C)V", sig := { parameters := [(.array .char)], returnType := none }, accessFlags := 1, code := some k7c1 }
def k7c2 : Code := { maxStack := 2, maxLocals := 3, code := jdk_42_method_66_code, exceptionTable := #[], attributes := #[] }
def k7m2 : Method := { name := "equals", desc := "(Ljava/lang/Object;)Z", sig := { parameters := [(.object "java/lang/Object")], returnType := some .boolean }, accessFlags := 1, code := some k7c2 }
def k7c3 : Code := { maxStack := 4, maxLocals := 1, code := jdk_42_method_139_code, exceptionTable := #[], attributes := #[] }
def k7m3 : Method := { name := "valueOf", desc := "(C)Ljava/lang/String;", sig := { parameters := [.char], returnType := some (.object "java/lang/String") }, accessFlags := 9, code := some k7c3 }
def k7c4 : Code := { maxStack := 4, maxLocals := 6, code := jdk_42_method_149_code, exceptionTable := #[], attributes := #[] }
def k7m4 : Method := { name := "<init>", desc := "([CIILjava/lang/Void;)V", sig := { parameters := [(.array .char), .int, .int, (.object "java/lang/Void")], returnType := none }, accessFlags := 2, code := some k7c4 }
def k7c5 : Code := { maxStack := 2, maxLocals := 3, code := jdk_42_method_151_code, exceptionTable := #[], attributes := #[] }
def k7m5 : Method := { name := "<init>", desc := "([BB)V", sig := { parameters := [(.array .byte), .byte], returnType := none }, accessFlags := 0, code := some k7c5 }
/-- java/lang/String -/
def k7 : Class := { plain "java/lang/String" (some 0) with
  accessFlags := 49
  interfaces := #[2, 3, 4, 5, 6]
  cf := some (fileOf pool7 10 #[.nestMembers #[1103]] #[{ accessFlags := 1, nameIndex := 5, descriptorIndex := 6, attributes := #[] }, { accessFlags := 1, nameIndex := 5, descriptorIndex := 1010, attributes := #[] }, { accessFlags := 1, nameIndex := 543, descriptorIndex := 573, attributes := #[] }, { accessFlags := 9, nameIndex := 782, descriptorIndex := 783, attributes := #[] }, { accessFlags := 2, nameIndex := 5, descriptorIndex := 29, attributes := #[] }, { accessFlags := 0, nameIndex := 5, descriptorIndex := 211, attributes := #[] }] 49 2 #[1106, 1108, 575, 1110, 1112] #[{ accessFlags := 18, nameIndex := 13, descriptorIndex := 14, attributes := #[] }, { accessFlags := 18, nameIndex := 17, descriptorIndex := 18, attributes := #[] }, { accessFlags := 2, nameIndex := 21, descriptorIndex := 22, attributes := #[] }, { accessFlags := 2, nameIndex := 25, descriptorIndex := 26, attributes := #[] }, { accessFlags := 26, nameIndex := 1116, descriptorIndex := 1117, attributes := #[] }, { accessFlags := 24, nameIndex := 40, descriptorIndex := 26, attributes := #[] }, { accessFlags := 26, nameIndex := 1101, descriptorIndex := 1102, attributes := #[] }, { accessFlags := 26, nameIndex := 1121, descriptorIndex := 1122, attributes := #[] }, { accessFlags := 25, nameIndex := 599, descriptorIndex := 600, attributes := #[] }, { accessFlags := 24, nameIndex := 1125, descriptorIndex := 18, attributes := #[] }, { accessFlags := 24, nameIndex := 1127, descriptorIndex := 18, attributes := #[] }])
  fields := #[{ name := "value", type := (.array .byte), accessFlags := 18, slot := 0, constantValue := 0 }, { name := "coder", type := .byte, accessFlags := 18, slot := 1, constantValue := 0 }, { name := "hash", type := .int, accessFlags := 2, slot := 2, constantValue := 0 }, { name := "hashIsZero", type := .boolean, accessFlags := 2, slot := 3, constantValue := 0 }, { name := "serialVersionUID", type := .long, accessFlags := 26, slot := 0, constantValue := 0 }, { name := "COMPACT_STRINGS", type := .boolean, accessFlags := 24, slot := 1, constantValue := 0 }, { name := "serialPersistentFields", type := (.array (.object "java/io/ObjectStreamField")), accessFlags := 26, slot := 2, constantValue := 0 }, { name := "REPL", type := .char, accessFlags := 26, slot := 3, constantValue := 0 }, { name := "CASE_INSENSITIVE_ORDER", type := (.object "java/util/Comparator"), accessFlags := 25, slot := 4, constantValue := 0 }, { name := "LATIN1", type := .byte, accessFlags := 24, slot := 5, constantValue := 0 }, { name := "UTF16", type := .byte, accessFlags := 24, slot := 6, constantValue := 0 }]
  methods := #[k7m0, k7m1, k7m2, k7m3, k7m4, k7m5]
  instanceTypes := #[(.array .byte), .byte, .int, .boolean]
  staticTypes := #[.long, .boolean, (.array (.object "java/io/ObjectStreamField")), .char, (.object "java/util/Comparator"), .byte, .byte]
  resolved := Array.replicate 1451 none
  statics := some 0 }

def pool8 : Array CpInfo := pool [(4, .class_ 6), (1, u "java/lang/Object"), (0, u "<init>"), (0, u "()V"), (5, .class_ 16), (1, u "java/lang/StringLatin1"), (73, u "canEncode"), (14, u "(C)Z"), (15, u "$assertionsDisabled"), (0, u "Z"), (98, .class_ 223), (1, u "java/lang/StringLatin1$LinesSpliterator"), (57, u "equals"), (0, u "([B[B)Z"), (97, u "toBytes"), (1, u "(C)[B"), (7, .class_ 391), (0, u "java/lang/StringLatin1$CharsSpliterator")] 3

def k8m0 : Method := { name := "<init>", desc := "()V", sig := { parameters := [], returnType := none }, accessFlags := 0, code := none }
def k8c1 : Code := { maxStack := 2, maxLocals := 1, code := jdk_43_method_3_code, exceptionTable := #[], attributes := #[] }
def k8m1 : Method := { name := "canEncode", desc := "(C)Z", sig := { parameters := [.char], returnType := some .boolean }, accessFlags := 9, code := some k8c1 }
def k8c2 : Code := { maxStack := 3, maxLocals := 3, code := jdk_43_method_13_code, exceptionTable := #[], attributes := #[] }
def k8m2 : Method := { name := "equals", desc := "([B[B)Z", sig := { parameters := [(.array .byte), (.array .byte)], returnType := some .boolean }, accessFlags := 9, code := some k8c2 }
def k8c3 : Code := { maxStack := 4, maxLocals := 1, code := jdk_43_method_46_code, exceptionTable := #[], attributes := #[] }
def k8m3 : Method := { name := "toBytes", desc := "(C)[B", sig := { parameters := [.char], returnType := some (.array .byte) }, accessFlags := 9, code := some k8c3 }
/-- java/lang/StringLatin1 -/
def k8 : Class := { plain "java/lang/StringLatin1" (some 0) with
  accessFlags := 48
  interfaces := #[]
  cf := some (fileOf pool8 14 #[.nestMembers #[390, 221]] #[{ accessFlags := 0, nameIndex := 7, descriptorIndex := 8, attributes := #[] }, { accessFlags := 9, nameIndex := 90, descriptorIndex := 105, attributes := #[] }, { accessFlags := 9, nameIndex := 281, descriptorIndex := 282, attributes := #[] }, { accessFlags := 9, nameIndex := 380, descriptorIndex := 382, attributes := #[] }] 48 4 #[] #[{ accessFlags := 4120, nameIndex := 121, descriptorIndex := 122, attributes := #[] }])
  fields := #[{ name := "$assertionsDisabled", type := .boolean, accessFlags := 4120, slot := 0, constantValue := 0 }]
  methods := #[k8m0, k8m1, k8m2, k8m3]
  instanceTypes := #[]
  staticTypes := #[.boolean]
  resolved := Array.replicate 395 none
  statics := none }

def pool9 : Array CpInfo := pool [(1, .methodref 2 3), (0, .class_ 4), (0, .nameAndType 5 6), (0, u "java/lang/Object"), (0, u "<init>"), (0, u "()V"), (0, .string 8), (0, u "queue"), (0, .methodref 10 11), (0, .class_ 12), (0, .nameAndType 13 14), (0, u "java/util/Objects"), (0, u "requireNonNull"), (0, u "(Ljava/lang/Object;Ljava/lang/String;)Ljava/lang/Object;"), (0, .class_ 16), (0, u "java/lang/String"), (0, .fieldref 18 19), (0, .class_ 20), (0, .nameAndType 8 21), (0, u "com/example/clock3600/clock3600/queue/StoredTask"), (0, u "Ljava/lang/String;"), (0, .string 23), (0, u "id"), (0, .fieldref 18 25), (0, .nameAndType 23 21), (0, .fieldref 18 27), (0, .nameAndType 28 29), (0, u "dueAtMillis"), (0, u "J"), (0, .string 31), (0, u "payload"), (0, .fieldref 18 33), (0, .nameAndType 31 21), (0, .fieldref 18 35), (0, .nameAndType 36 37), (0, u "attempts"), (0, u "I"), (0, .fieldref 18 39), (0, .nameAndType 40 29), (0, u "leaseEndMillis"), (0, .fieldref 18 42), (0, .nameAndType 43 29), (0, u "order"), (0, .methodref 15 45), (0, .nameAndType 46 47), (0, u "equals"), (0, u "(Ljava/lang/Object;)Z"), (21, u "(Ljava/lang/String;Ljava/lang/String;JLjava/lang/String;IJJ)V")] 10

def k9c0 : Code := { maxStack := 3, maxLocals := 11, code := prog_17_method_1_code, exceptionTable := #[], attributes := #[] }
def k9m0 : Method := { name := "<init>", desc := "(Ljava/lang/String;Ljava/lang/String;JLjava/lang/String;IJJ)V", sig := { parameters := [(.object "java/lang/String"), (.object "java/lang/String"), .long, (.object "java/lang/String"), .int, .long, .long], returnType := none }, accessFlags := 1, code := some k9c0 }
def k9c1 : Code := { maxStack := 4, maxLocals := 3, code := prog_17_method_9_code, exceptionTable := #[], attributes := #[] }
def k9m1 : Method := { name := "equals", desc := "(Ljava/lang/Object;)Z", sig := { parameters := [(.object "java/lang/Object")], returnType := some .boolean }, accessFlags := 1, code := some k9c1 }
/-- com/example/clock3600/clock3600/queue/StoredTask -/
def k9 : Class := { plain "com/example/clock3600/clock3600/queue/StoredTask" (some 0) with
  accessFlags := 33
  interfaces := #[]
  cf := some (fileOf pool9 18 #[] #[{ accessFlags := 1, nameIndex := 5, descriptorIndex := 69, attributes := #[] }, { accessFlags := 1, nameIndex := 46, descriptorIndex := 47, attributes := #[] }] 33 2 #[] #[{ accessFlags := 18, nameIndex := 8, descriptorIndex := 21, attributes := #[] }, { accessFlags := 18, nameIndex := 23, descriptorIndex := 21, attributes := #[] }, { accessFlags := 18, nameIndex := 28, descriptorIndex := 29, attributes := #[] }, { accessFlags := 18, nameIndex := 31, descriptorIndex := 21, attributes := #[] }, { accessFlags := 18, nameIndex := 36, descriptorIndex := 37, attributes := #[] }, { accessFlags := 18, nameIndex := 40, descriptorIndex := 29, attributes := #[] }, { accessFlags := 18, nameIndex := 43, descriptorIndex := 29, attributes := #[] }])
  fields := #[{ name := "queue", type := (.object "java/lang/String"), accessFlags := 18, slot := 0, constantValue := 0 }, { name := "id", type := (.object "java/lang/String"), accessFlags := 18, slot := 1, constantValue := 0 }, { name := "dueAtMillis", type := .long, accessFlags := 18, slot := 2, constantValue := 0 }, { name := "payload", type := (.object "java/lang/String"), accessFlags := 18, slot := 3, constantValue := 0 }, { name := "attempts", type := .int, accessFlags := 18, slot := 4, constantValue := 0 }, { name := "leaseEndMillis", type := .long, accessFlags := 18, slot := 5, constantValue := 0 }, { name := "order", type := .long, accessFlags := 18, slot := 6, constantValue := 0 }]
  methods := #[k9m0, k9m1]
  instanceTypes := #[(.object "java/lang/String"), (.object "java/lang/String"), .long, (.object "java/lang/String"), .int, .long, .long]
  staticTypes := #[]
  resolved := Array.replicate 80 none
  statics := none }

def pool10 : Array CpInfo := pool [(2, .class_ 4), (1, u "java/lang/Object"), (0, u "<init>"), (0, u "()V"), (35, .class_ 44), (1, u "java/util/Objects"), (0, u "requireNonNull"), (48, u "(Ljava/lang/Object;Ljava/lang/String;)Ljava/lang/Object;")] 89

def k10m0 : Method := { name := "<init>", desc := "()V", sig := { parameters := [], returnType := none }, accessFlags := 2, code := none }
def k10c1 : Code := { maxStack := 3, maxLocals := 2, code := jdk_31_method_11_code, exceptionTable := #[], attributes := #[] }
def k10m1 : Method := { name := "requireNonNull", desc := "(Ljava/lang/Object;Ljava/lang/String;)Ljava/lang/Object;", sig := { parameters := [(.object "java/lang/Object"), (.object "java/lang/String")], returnType := some (.object "java/lang/Object") }, accessFlags := 9, code := some k10c1 }
/-- java/util/Objects -/
def k10 : Class := { plain "java/util/Objects" (some 0) with
  accessFlags := 49
  interfaces := #[]
  cf := some (fileOf pool10 42 #[] #[{ accessFlags := 2, nameIndex := 5, descriptorIndex := 6, attributes := #[] }, { accessFlags := 9, nameIndex := 45, descriptorIndex := 94, attributes := #[] }] 49 2 #[] #[])
  fields := #[]
  methods := #[k10m0, k10m1]
  instanceTypes := #[]
  staticTypes := #[]
  resolved := Array.replicate 184 none
  statics := none }

def pool11 : Array CpInfo := pool [(6, .class_ 8), (1, u "java/lang/Object"), (0, u "<init>"), (0, u "()V"), (1, .class_ 14), (1, u "java/lang/StringUTF16"), (31, u "$assertionsDisabled"), (0, u "Z"), (13, u "HI_BYTE_SHIFT"), (0, u "I"), (2, u "LO_BYTE_SHIFT"), (49, .methodref 12 116), (0, .nameAndType 117 118), (0, u "compress"), (0, u "([CI[BII)I"), (3, u "([CII)[B"), (138, u "coderFromArrayLen"), (0, u "([BI)B"), (106, .class_ 371), (1, u "java/lang/StringUTF16$LinesSpliterator"), (58, u "MAX_LENGTH"), (196, .class_ 628), (0, u "java/lang/StringUTF16$CodePointsSpliterator"), (0, .class_ 630), (0, u "java/lang/StringUTF16$CharsSpliterator")] 4

def k11m0 : Method := { name := "<init>", desc := "()V", sig := { parameters := [], returnType := none }, accessFlags := 0, code := none }
def k11c1 : Code := { maxStack := 2, maxLocals := 2, code := jdk_52_method_15_code, exceptionTable := #[], attributes := #[] }
def k11m1 : Method := { name := "coderFromArrayLen", desc := "([BI)B", sig := { parameters := [(.array .byte), .int], returnType := some .byte }, accessFlags := 8, code := some k11c1 }
def k11c2 : Code := { maxStack := 5, maxLocals := 6, code := jdk_52_method_16_code, exceptionTable := #[], attributes := #[] }
def k11m2 : Method := { name := "compress", desc := "([CII)[B", sig := { parameters := [(.array .char), .int, .int], returnType := some (.array .byte) }, accessFlags := 9, code := some k11c2 }
def k11c3 : Code := { maxStack := 3, maxLocals := 7, code := jdk_52_method_21_code, exceptionTable := #[], attributes := #[] }
def k11m3 : Method := { name := "compress", desc := "([CI[BII)I", sig := { parameters := [(.array .char), .int, (.array .byte), .int, .int], returnType := some .int }, accessFlags := 9, code := some k11c3 }
/-- java/lang/StringUTF16 -/
def k11 : Class := { plain "java/lang/StringUTF16" (some 0) with
  accessFlags := 48
  interfaces := #[]
  cf := some (fileOf pool11 12 #[.nestMembers #[627, 629, 369]] #[{ accessFlags := 0, nameIndex := 9, descriptorIndex := 10, attributes := #[] }, { accessFlags := 8, nameIndex := 261, descriptorIndex := 262, attributes := #[] }, { accessFlags := 9, nameIndex := 117, descriptorIndex := 122, attributes := #[] }, { accessFlags := 9, nameIndex := 117, descriptorIndex := 118, attributes := #[] }] 48 6 #[] #[{ accessFlags := 26, nameIndex := 61, descriptorIndex := 62, attributes := #[] }, { accessFlags := 26, nameIndex := 65, descriptorIndex := 62, attributes := #[] }, { accessFlags := 24, nameIndex := 430, descriptorIndex := 62, attributes := #[] }, { accessFlags := 4120, nameIndex := 46, descriptorIndex := 47, attributes := #[] }])
  fields := #[{ name := "HI_BYTE_SHIFT", type := .int, accessFlags := 26, slot := 0, constantValue := 0 }, { name := "LO_BYTE_SHIFT", type := .int, accessFlags := 26, slot := 1, constantValue := 0 }, { name := "MAX_LENGTH", type := .int, accessFlags := 24, slot := 2, constantValue := 0 }, { name := "$assertionsDisabled", type := .boolean, accessFlags := 4120, slot := 3, constantValue := 0 }]
  methods := #[k11m0, k11m1, k11m2, k11m3]
  instanceTypes := #[]
  staticTypes := #[.int, .int, .int, .boolean]
  resolved := Array.replicate 635 none
  statics := none }

def pool12 : Array CpInfo := pool [(2, .class_ 4), (1, u "java/lang/Object"), (0, u "<init>"), (0, u "()V"), (17, .class_ 26), (1, u "jdk/internal/util/Preconditions"), (28, .class_ 56), (0, u "jdk/internal/util/Preconditions$4"), (57, .class_ 115), (0, u "jdk/internal/util/Preconditions$1"), (7, u "SIOOBE_FORMATTER"), (0, u "Ljava/util/function/BiFunction;"), (0, .class_ 126), (0, u "jdk/internal/util/Preconditions$2"), (3, u "AIOOBE_FORMATTER"), (0, .class_ 132), (0, u "jdk/internal/util/Preconditions$3"), (3, u "IOOBE_FORMATTER")] 57

def k12m0 : Method := { name := "<init>", desc := "()V", sig := { parameters := [], returnType := none }, accessFlags := 1, code := none }
/-- jdk/internal/util/Preconditions -/
def k12 : Class := { plain "jdk/internal/util/Preconditions" (some 0) with
  accessFlags := 33
  interfaces := #[]
  cf := some (fileOf pool12 24 #[.nestMembers #[55, 131, 125, 114]] #[{ accessFlags := 1, nameIndex := 5, descriptorIndex := 6, attributes := #[] }] 33 2 #[] #[{ accessFlags := 25, nameIndex := 123, descriptorIndex := 124, attributes := #[] }, { accessFlags := 25, nameIndex := 130, descriptorIndex := 124, attributes := #[] }, { accessFlags := 25, nameIndex := 136, descriptorIndex := 124, attributes := #[] }])
  fields := #[{ name := "SIOOBE_FORMATTER", type := (.object "java/util/function/BiFunction"), accessFlags := 25, slot := 0, constantValue := 0 }, { name := "AIOOBE_FORMATTER", type := (.object "java/util/function/BiFunction"), accessFlags := 25, slot := 1, constantValue := 0 }, { name := "IOOBE_FORMATTER", type := (.object "java/util/function/BiFunction"), accessFlags := 25, slot := 2, constantValue := 0 }]
  methods := #[k12m0]
  instanceTypes := #[]
  staticTypes := #[(.object "java/util/function/BiFunction"), (.object "java/util/function/BiFunction"), (.object "java/util/function/BiFunction")]
  resolved := Array.replicate 194 none
  statics := some 1 }

def pool13 : Array CpInfo := pool [(9, u "<init>"), (6, .class_ 18), (1, u "java/lang/Object"), (0, u "()V"), (1, .class_ 23), (1, u "jdk/internal/util/ArraysSupport"), (0, u "LOG2_ARRAY_LONG_INDEX_SCALE"), (0, u "I"), (2, u "U"), (0, u "Ljdk/internal/misc/Unsafe;"), (8, u "BIG_ENDIAN"), (0, u "Z"), (8, u "LOG2_BYTE_BIT_SIZE"), (4, u "LOG2_ARRAY_INT_INDEX_SCALE"), (54, u "JLA"), (0, u "Ljdk/internal/access/JavaLangAccess;"), (11, u "LOG2_ARRAY_BOOLEAN_INDEX_SCALE"), (9, u "LOG2_ARRAY_BYTE_INDEX_SCALE"), (5, u "LOG2_ARRAY_CHAR_INDEX_SCALE"), (5, u "LOG2_ARRAY_SHORT_INDEX_SCALE"), (18, u "LOG2_ARRAY_FLOAT_INDEX_SCALE"), (24, u "LOG2_ARRAY_DOUBLE_INDEX_SCALE"), (89, u "T_BOOLEAN"), (2, u "T_CHAR"), (1, u "T_FLOAT"), (1, u "T_DOUBLE"), (1, u "T_BYTE"), (1, u "T_SHORT"), (1, u "T_INT"), (1, u "T_LONG"), (1, u "SOFT_MAX_ARRAY_LENGTH")] 83

def k13m0 : Method := { name := "<init>", desc := "()V", sig := { parameters := [], returnType := none }, accessFlags := 2, code := none }
/-- jdk/internal/util/ArraysSupport -/
def k13 : Class := { plain "jdk/internal/util/ArraysSupport" (some 0) with
  accessFlags := 33
  interfaces := #[]
  cf := some (fileOf pool13 21 #[] #[{ accessFlags := 2, nameIndex := 9, descriptorIndex := 19, attributes := #[] }] 33 16 #[] #[{ accessFlags := 24, nameIndex := 28, descriptorIndex := 29, attributes := #[] }, { accessFlags := 26, nameIndex := 38, descriptorIndex := 39, attributes := #[] }, { accessFlags := 25, nameIndex := 121, descriptorIndex := 25, attributes := #[] }, { accessFlags := 25, nameIndex := 131, descriptorIndex := 25, attributes := #[] }, { accessFlags := 25, nameIndex := 137, descriptorIndex := 25, attributes := #[] }, { accessFlags := 25, nameIndex := 143, descriptorIndex := 25, attributes := #[] }, { accessFlags := 25, nameIndex := 53, descriptorIndex := 25, attributes := #[] }, { accessFlags := 25, nameIndex := 24, descriptorIndex := 25, attributes := #[] }, { accessFlags := 25, nameIndex := 162, descriptorIndex := 25, attributes := #[] }, { accessFlags := 25, nameIndex := 187, descriptorIndex := 25, attributes := #[] }, { accessFlags := 26, nameIndex := 48, descriptorIndex := 25, attributes := #[] }, { accessFlags := 25, nameIndex := 277, descriptorIndex := 25, attributes := #[] }, { accessFlags := 25, nameIndex := 280, descriptorIndex := 25, attributes := #[] }, { accessFlags := 25, nameIndex := 282, descriptorIndex := 25, attributes := #[] }, { accessFlags := 25, nameIndex := 284, descriptorIndex := 25, attributes := #[] }, { accessFlags := 25, nameIndex := 286, descriptorIndex := 25, attributes := #[] }, { accessFlags := 25, nameIndex := 288, descriptorIndex := 25, attributes := #[] }, { accessFlags := 25, nameIndex := 290, descriptorIndex := 25, attributes := #[] }, { accessFlags := 25, nameIndex := 292, descriptorIndex := 25, attributes := #[] }, { accessFlags := 26, nameIndex := 108, descriptorIndex := 109, attributes := #[] }, { accessFlags := 25, nameIndex := 294, descriptorIndex := 25, attributes := #[] }])
  fields := #[{ name := "U", type := (.object "jdk/internal/misc/Unsafe"), accessFlags := 24, slot := 0, constantValue := 0 }, { name := "BIG_ENDIAN", type := .boolean, accessFlags := 26, slot := 1, constantValue := 0 }, { name := "LOG2_ARRAY_BOOLEAN_INDEX_SCALE", type := .int, accessFlags := 25, slot := 2, constantValue := 0 }, { name := "LOG2_ARRAY_BYTE_INDEX_SCALE", type := .int, accessFlags := 25, slot := 3, constantValue := 0 }, { name := "LOG2_ARRAY_CHAR_INDEX_SCALE", type := .int, accessFlags := 25, slot := 4, constantValue := 0 }, { name := "LOG2_ARRAY_SHORT_INDEX_SCALE", type := .int, accessFlags := 25, slot := 5, constantValue := 0 }, { name := "LOG2_ARRAY_INT_INDEX_SCALE", type := .int, accessFlags := 25, slot := 6, constantValue := 0 }, { name := "LOG2_ARRAY_LONG_INDEX_SCALE", type := .int, accessFlags := 25, slot := 7, constantValue := 0 }, { name := "LOG2_ARRAY_FLOAT_INDEX_SCALE", type := .int, accessFlags := 25, slot := 8, constantValue := 0 }, { name := "LOG2_ARRAY_DOUBLE_INDEX_SCALE", type := .int, accessFlags := 25, slot := 9, constantValue := 0 }, { name := "LOG2_BYTE_BIT_SIZE", type := .int, accessFlags := 26, slot := 10, constantValue := 0 }, { name := "T_BOOLEAN", type := .int, accessFlags := 25, slot := 11, constantValue := 0 }, { name := "T_CHAR", type := .int, accessFlags := 25, slot := 12, constantValue := 0 }, { name := "T_FLOAT", type := .int, accessFlags := 25, slot := 13, constantValue := 0 }, { name := "T_DOUBLE", type := .int, accessFlags := 25, slot := 14, constantValue := 0 }, { name := "T_BYTE", type := .int, accessFlags := 25, slot := 15, constantValue := 0 }, { name := "T_SHORT", type := .int, accessFlags := 25, slot := 16, constantValue := 0 }, { name := "T_INT", type := .int, accessFlags := 25, slot := 17, constantValue := 0 }, { name := "T_LONG", type := .int, accessFlags := 25, slot := 18, constantValue := 0 }, { name := "JLA", type := (.object "jdk/internal/access/JavaLangAccess"), accessFlags := 26, slot := 19, constantValue := 0 }, { name := "SOFT_MAX_ARRAY_LENGTH", type := .int, accessFlags := 25, slot := 20, constantValue := 0 }]
  methods := #[k13m0]
  instanceTypes := #[]
  staticTypes := #[(.object "jdk/internal/misc/Unsafe"), .boolean, .int, .int, .int, .int, .int, .int, .int, .int, .int, .int, .int, .int, .int, .int, .int, .int, .int, (.object "jdk/internal/access/JavaLangAccess"), .int]
  resolved := Array.replicate 378 none
  statics := none }

def pool14 : Array CpInfo := pool [(1, u "java/lang/Cloneable"), (0, .class_ 1), (0, u "java/lang/Object"), (0, .class_ 3)] 3

/-- java/lang/Cloneable -/
def k14 : Class := { plain "java/lang/Cloneable" (some 0) with
  accessFlags := 1537
  interfaces := #[]
  cf := some (fileOf pool14 2 #[] #[] 1537 4 #[] #[])
  fields := #[]
  methods := #[]
  instanceTypes := #[]
  staticTypes := #[]
  resolved := Array.replicate 8 none
  statics := none }

/-- the primitive byte -/
def k15 : Class := { plain "byte" none with kind := .primitive 'B', accessFlags := 0x411 }
/-- [B -/
def k16 : Class := { plain "[B" (some 0) with kind := .array 15 .byte, interfaces := #[14, 2], accessFlags := 1041 }

/-- the primitive char -/
def k17 : Class := { plain "char" none with kind := .primitive 'C', accessFlags := 0x411 }
/-- [C -/
def k18 : Class := { plain "[C" (some 0) with kind := .array 17 .char, interfaces := #[14, 2], accessFlags := 1041 }

/-- the primitive int -/
def k19 : Class := { plain "int" none with kind := .primitive 'I', accessFlags := 0x411 }
/-- [I -/
def k20 : Class := { plain "[I" (some 0) with kind := .array 19 .int, interfaces := #[14, 2], accessFlags := 1041 }

def heap : Heap := #[{ cls := 7, slots := #[.long 0, .int 1, .null, .int 0, .null, .int 0, .int 0], vm := .statics 7 },
  { cls := 12, slots := #[.null, .null, .null], vm := .statics 12 }]
def classes : Array Class := #[k0, k1, k2, k3, k4, k5, k6, k7, k8, k9, k10, k11, k12, k13, k14, k15, k16, k17, k18, k19, k20]
def interned : List (Array UInt16 × Addr) := []
def slotsUsed : Nat := 10
def theMethod : MethodId := ⟨1, 1⟩
def args0 : Array Value := #[.long 5, .long 6, .long 7, .int 8, .int 9, .long 10]
def aboutOver (below : List Frame) : State where
  vm := { classes := classes, interned := interned.toArray }
  heap := heap
  slotsUsed := slotsUsed
  threads := #[{ frames := .invoking theMethod args0 :: below }]
def below0 : List Frame := [.native { method := ⟨0, 0⟩, args := #[] }]
def about1 : State := aboutOver below0
def p0 : Program := .bare "" "" ""
def e0 : Env := launch0.env 0 0 0
theorem w_frames : about1.frames = Frame.invoking theMethod args0 :: below0 := rfl
set_option maxRecDepth 65536 in
theorem w_args : argsFit about1.vm theMethod args0 = true := by decide +kernel
set_option maxRecDepth 65536 in
theorem w_heap : heapFits about1 = true := by decide +kernel
set_option maxRecDepth 65536 in
theorem w_runnable : about1.curStatus? = some .runnable := by decide +kernel
set_option maxRecDepth 65536 in
theorem w_alone : about1.alone = true := by decide +kernel
set_option maxRecDepth 65536 in
theorem w_named : about1.methodNamed? x = some theMethod := by decide +kernel
set_option maxRecDepth 65536 in
theorem w_hears : about1.hears theMethod below0 = true := by decide +kernel
set_option maxRecDepth 65536 in
theorem w_ripe : about1.ripe theMethod args0 below0 = true := by decide +kernel
theorem w_running : about1.status = .running := rfl
set_option maxRecDepth 65536 in
theorem w_room : about1.hasRoom e0.platform room_1 = true :=
  launch0.hasRoom_least _ room_1 (by decide +kernel) (by decide +kernel) (by decide +kernel) (by decide +kernel) (by decide +kernel) (by decide +kernel)
theorem allAtoms_all (ts : List Jvm.Cond) (a : Array Jvm.Value) (st : Jvm.State) : (allAtoms ts).before a st = ts.all (fun c => c.before a st) := by
  induction ts with
  | nil => rfl
  | cons c t ih =>
    show (Jvm.Cond.and c (allAtoms t)).before a st = _
    rw [Jvm.Cond.before_and, ih, List.all_cons]
def words1 : List Jvm.Cond := Jvm.Cond.code x code maxLocals ret :: tables_1
/-- a 'code' word, met by the world's own term for the bytes: nothing is compared byte by byte -/
theorem code_word {y : MethodName} {bytes : ByteArray} {mx : Nat} {rt : Option FieldType} {a : Array Value} {s : State} {m : MethodId} {meth : Method} {c : Code} (h1 : s.methodNamed? y = some m) (h2 : s.vm.method? m = some meth) (h3 : meth.code = some c) (h4 : c.code = bytes)
    (h5 : (c.maxLocals == mx && c.exceptionTable.isEmpty && decide (c.maxStack ≤ mostOperands) && decide (meth.sig.returnType = rt) && !meth.locks && decide (parseMethodDescriptor y.desc = some meth.sig)) = true) : (Jvm.Cond.code y bytes mx rt).before a s = true := by
  simp only [Bool.and_eq_true, beq_iff_eq, Bool.not_eq_true', decide_eq_true_eq] at h5
  obtain ⟨⟨⟨⟨⟨g1, g2⟩, g3⟩, g4⟩, g5⟩, g6⟩ := h5
  simp [Cond.before, Cond.holds, Cond.value, h1, h2, h3, h4, g1, g2, g3, g4, g5, g6]
def isCode : Jvm.Cond → Bool
  | .code _ _ _ _ => true
  | _ => false
theorem all_split {L : List Jvm.Cond} {P : Jvm.Cond → Bool} (h1 : L.all (fun c => isCode c || P c) = true) (h2 : ∀ c ∈ L.filter isCode, P c = true) : L.all P = true := by
  refine List.all_eq_true.mpr fun c hc => ?_
  have h := List.all_eq_true.mp h1 c hc
  rcases Bool.eq_false_or_eq_true (isCode c) with hi | hi
  · exact h2 c (List.mem_filter.mpr ⟨hc, hi⟩)
  · simpa [hi] using h
set_option maxRecDepth 65536 in
theorem w_c0 : (Jvm.Cond.code x code maxLocals ret).before args0 about1 = true := code_word (m := ⟨1, 1⟩) (meth := k1m1) (c := k1c1) (by decide +kernel) rfl rfl rfl (by decide +kernel)
set_option maxRecDepth 65536 in
theorem w_c1 : (Jvm.Cond.code ({ cls := "java/lang/String", name := "valueOf", desc := "(C)Ljava/lang/String;" } : Jvm.MethodName) jdk_42_method_139_code (1 : Nat) (Option.some (Jvm.ClassFile.FieldType.object "java/lang/String"))).before args0 about1 = true := code_word (m := ⟨7, 3⟩) (meth := k7m3) (c := k7c3) (by decide +kernel) rfl rfl rfl (by decide +kernel)
set_option maxRecDepth 65536 in
theorem w_c2 : (Jvm.Cond.code ({ cls := "java/lang/StringLatin1", name := "canEncode", desc := "(C)Z" } : Jvm.MethodName) jdk_43_method_3_code (1 : Nat) (Option.some Jvm.ClassFile.FieldType.boolean)).before args0 about1 = true := code_word (m := ⟨8, 1⟩) (meth := k8m1) (c := k8c1) (by decide +kernel) rfl rfl rfl (by decide +kernel)
set_option maxRecDepth 65536 in
theorem w_c3 : (Jvm.Cond.code ({ cls := "java/lang/StringLatin1", name := "toBytes", desc := "(C)[B" } : Jvm.MethodName) jdk_43_method_46_code (1 : Nat) (Option.some (Jvm.ClassFile.FieldType.array Jvm.ClassFile.FieldType.byte))).before args0 about1 = true := code_word (m := ⟨8, 3⟩) (meth := k8m3) (c := k8c3) (by decide +kernel) rfl rfl rfl (by decide +kernel)
set_option maxRecDepth 65536 in
theorem w_c4 : (Jvm.Cond.code ({ cls := "java/lang/String", name := "<init>", desc := "([BB)V" } : Jvm.MethodName) jdk_42_method_151_code (3 : Nat) (Option.none : Option Jvm.ClassFile.FieldType)).before args0 about1 = true := code_word (m := ⟨7, 5⟩) (meth := k7m5) (c := k7c5) (by decide +kernel) rfl rfl rfl (by decide +kernel)
set_option maxRecDepth 65536 in
theorem w_c5 : (Jvm.Cond.code ({ cls := "java/lang/Object", name := "<init>", desc := "()V" } : Jvm.MethodName) object_method_1_code (1 : Nat) (Option.none : Option Jvm.ClassFile.FieldType)).before args0 about1 = true := code_word (m := ⟨0, 0⟩) (meth := k0m0) (c := k0c0) (by decide +kernel) rfl rfl rfl (by decide +kernel)
set_option maxRecDepth 65536 in
theorem w_c6 : (Jvm.Cond.code ({ cls := "com/example/clock3600/clock3600/queue/StoredTask", name := "<init>", desc := "(Ljava/lang/String;Ljava/lang/String;JLjava/lang/String;IJJ)V" } : Jvm.MethodName) prog_17_method_1_code (11 : Nat) (Option.none : Option Jvm.ClassFile.FieldType)).before args0 about1 = true := code_word (m := ⟨9, 0⟩) (meth := k9m0) (c := k9c0) (by decide +kernel) rfl rfl rfl (by decide +kernel)
set_option maxRecDepth 65536 in
theorem w_c7 : (Jvm.Cond.code ({ cls := "java/util/Objects", name := "requireNonNull", desc := "(Ljava/lang/Object;Ljava/lang/String;)Ljava/lang/Object;" } : Jvm.MethodName) jdk_31_method_11_code (2 : Nat) (Option.some (Jvm.ClassFile.FieldType.object "java/lang/Object"))).before args0 about1 = true := code_word (m := ⟨10, 1⟩) (meth := k10m1) (c := k10c1) (by decide +kernel) rfl rfl rfl (by decide +kernel)
set_option maxRecDepth 65536 in
theorem w_c8 : (Jvm.Cond.code ({ cls := "com/example/clock3600/clock3600/queue/StoredTask", name := "equals", desc := "(Ljava/lang/Object;)Z" } : Jvm.MethodName) prog_17_method_9_code (3 : Nat) (Option.some Jvm.ClassFile.FieldType.boolean)).before args0 about1 = true := code_word (m := ⟨9, 1⟩) (meth := k9m1) (c := k9c1) (by decide +kernel) rfl rfl rfl (by decide +kernel)
set_option maxRecDepth 65536 in
theorem w_c9 : (Jvm.Cond.code ({ cls := "java/lang/String", name := "equals", desc := "(Ljava/lang/Object;)Z" } : Jvm.MethodName) jdk_42_method_66_code (3 : Nat) (Option.some Jvm.ClassFile.FieldType.boolean)).before args0 about1 = true := code_word (m := ⟨7, 2⟩) (meth := k7m2) (c := k7c2) (by decide +kernel) rfl rfl rfl (by decide +kernel)
set_option maxRecDepth 65536 in
theorem w_c10 : (Jvm.Cond.code ({ cls := "java/lang/StringLatin1", name := "equals", desc := "([B[B)Z" } : Jvm.MethodName) jdk_43_method_13_code (3 : Nat) (Option.some Jvm.ClassFile.FieldType.boolean)).before args0 about1 = true := code_word (m := ⟨8, 2⟩) (meth := k8m2) (c := k8c2) (by decide +kernel) rfl rfl rfl (by decide +kernel)
set_option maxRecDepth 65536 in
theorem w_c11 : (Jvm.Cond.code ({ cls := "java/lang/String", name := "<init>", desc := "([C)V" } : Jvm.MethodName) jdk_42_method_3_code (2 : Nat) (Option.none : Option Jvm.ClassFile.FieldType)).before args0 about1 = true := code_word (m := ⟨7, 1⟩) (meth := k7m1) (c := k7c1) (by decide +kernel) rfl rfl rfl (by decide +kernel)
set_option maxRecDepth 65536 in
theorem w_c12 : (Jvm.Cond.code ({ cls := "java/lang/String", name := "<init>", desc := "([CIILjava/lang/Void;)V" } : Jvm.MethodName) jdk_42_method_149_code (6 : Nat) (Option.none : Option Jvm.ClassFile.FieldType)).before args0 about1 = true := code_word (m := ⟨7, 4⟩) (meth := k7m4) (c := k7c4) (by decide +kernel) rfl rfl rfl (by decide +kernel)
set_option maxRecDepth 65536 in
theorem w_c13 : (Jvm.Cond.code ({ cls := "java/lang/StringUTF16", name := "compress", desc := "([CII)[B" } : Jvm.MethodName) jdk_52_method_16_code (6 : Nat) (Option.some (Jvm.ClassFile.FieldType.array Jvm.ClassFile.FieldType.byte))).before args0 about1 = true := code_word (m := ⟨11, 2⟩) (meth := k11m2) (c := k11c2) (by decide +kernel) rfl rfl rfl (by decide +kernel)
set_option maxRecDepth 65536 in
theorem w_c14 : (Jvm.Cond.code ({ cls := "java/lang/StringUTF16", name := "compress", desc := "([CI[BII)I" } : Jvm.MethodName) jdk_52_method_21_code (7 : Nat) (Option.some Jvm.ClassFile.FieldType.int)).before args0 about1 = true := code_word (m := ⟨11, 3⟩) (meth := k11m3) (c := k11c3) (by decide +kernel) rfl rfl rfl (by decide +kernel)
set_option maxRecDepth 65536 in
theorem w_c15 : (Jvm.Cond.code ({ cls := "java/lang/StringUTF16", name := "coderFromArrayLen", desc := "([BI)B" } : Jvm.MethodName) jdk_52_method_15_code (2 : Nat) (Option.some Jvm.ClassFile.FieldType.byte)).before args0 about1 = true := code_word (m := ⟨11, 1⟩) (meth := k11m1) (c := k11c1) (by decide +kernel) rfl rfl rfl (by decide +kernel)
def codes1 : List Jvm.Cond := [Jvm.Cond.code x code maxLocals ret, Jvm.Cond.code ({ cls := "java/lang/String", name := "valueOf", desc := "(C)Ljava/lang/String;" } : Jvm.MethodName) jdk_42_method_139_code (1 : Nat) (Option.some (Jvm.ClassFile.FieldType.object "java/lang/String")), Jvm.Cond.code ({ cls := "java/lang/StringLatin1", name := "canEncode", desc := "(C)Z" } : Jvm.MethodName) jdk_43_method_3_code (1 : Nat) (Option.some Jvm.ClassFile.FieldType.boolean), Jvm.Cond.code ({ cls := "java/lang/StringLatin1", name := "toBytes", desc := "(C)[B" } : Jvm.MethodName) jdk_43_method_46_code (1 : Nat) (Option.some (Jvm.ClassFile.FieldType.array Jvm.ClassFile.FieldType.byte)), Jvm.Cond.code ({ cls := "java/lang/String", name := "<init>", desc := "([BB)V" } : Jvm.MethodName) jdk_42_method_151_code (3 : Nat) (Option.none : Option Jvm.ClassFile.FieldType), Jvm.Cond.code ({ cls := "java/lang/Object", name := "<init>", desc := "()V" } : Jvm.MethodName) object_method_1_code (1 : Nat) (Option.none : Option Jvm.ClassFile.FieldType), Jvm.Cond.code ({ cls := "com/example/clock3600/clock3600/queue/StoredTask", name := "<init>", desc := "(Ljava/lang/String;Ljava/lang/String;JLjava/lang/String;IJJ)V" } : Jvm.MethodName) prog_17_method_1_code (11 : Nat) (Option.none : Option Jvm.ClassFile.FieldType), Jvm.Cond.code ({ cls := "java/util/Objects", name := "requireNonNull", desc := "(Ljava/lang/Object;Ljava/lang/String;)Ljava/lang/Object;" } : Jvm.MethodName) jdk_31_method_11_code (2 : Nat) (Option.some (Jvm.ClassFile.FieldType.object "java/lang/Object")), Jvm.Cond.code ({ cls := "com/example/clock3600/clock3600/queue/StoredTask", name := "equals", desc := "(Ljava/lang/Object;)Z" } : Jvm.MethodName) prog_17_method_9_code (3 : Nat) (Option.some Jvm.ClassFile.FieldType.boolean), Jvm.Cond.code ({ cls := "java/lang/String", name := "equals", desc := "(Ljava/lang/Object;)Z" } : Jvm.MethodName) jdk_42_method_66_code (3 : Nat) (Option.some Jvm.ClassFile.FieldType.boolean), Jvm.Cond.code ({ cls := "java/lang/StringLatin1", name := "equals", desc := "([B[B)Z" } : Jvm.MethodName) jdk_43_method_13_code (3 : Nat) (Option.some Jvm.ClassFile.FieldType.boolean), Jvm.Cond.code ({ cls := "java/lang/String", name := "<init>", desc := "([C)V" } : Jvm.MethodName) jdk_42_method_3_code (2 : Nat) (Option.none : Option Jvm.ClassFile.FieldType), Jvm.Cond.code ({ cls := "java/lang/String", name := "<init>", desc := "([CIILjava/lang/Void;)V" } : Jvm.MethodName) jdk_42_method_149_code (6 : Nat) (Option.none : Option Jvm.ClassFile.FieldType), Jvm.Cond.code ({ cls := "java/lang/StringUTF16", name := "compress", desc := "([CII)[B" } : Jvm.MethodName) jdk_52_method_16_code (6 : Nat) (Option.some (Jvm.ClassFile.FieldType.array Jvm.ClassFile.FieldType.byte)), Jvm.Cond.code ({ cls := "java/lang/StringUTF16", name := "compress", desc := "([CI[BII)I" } : Jvm.MethodName) jdk_52_method_21_code (7 : Nat) (Option.some Jvm.ClassFile.FieldType.int), Jvm.Cond.code ({ cls := "java/lang/StringUTF16", name := "coderFromArrayLen", desc := "([BI)B" } : Jvm.MethodName) jdk_52_method_15_code (2 : Nat) (Option.some Jvm.ClassFile.FieldType.byte)]
set_option maxRecDepth 65536 in
theorem codes_eq : words1.filter isCode = codes1 := rfl
theorem w_codes : ∀ c ∈ words1.filter isCode, c.before args0 about1 = true := by
  rw [codes_eq]
  intro c hc
  simp only [codes1, List.mem_cons, List.not_mem_nil, or_false] at hc
  rcases hc with rfl | rfl | rfl | rfl | rfl | rfl | rfl | rfl | rfl | rfl | rfl | rfl | rfl | rfl | rfl | rfl
  · exact w_c0
  · exact w_c1
  · exact w_c2
  · exact w_c3
  · exact w_c4
  · exact w_c5
  · exact w_c6
  · exact w_c7
  · exact w_c8
  · exact w_c9
  · exact w_c10
  · exact w_c11
  · exact w_c12
  · exact w_c13
  · exact w_c14
  · exact w_c15
set_option maxRecDepth 65536 in
theorem w_t1 : (words1.take 24).all (fun c => isCode c || c.before args0 about1) = true := by decide +kernel
set_option maxRecDepth 65536 in
theorem w_t2 : ((words1.drop 24).take 24).all (fun c => isCode c || c.before args0 about1) = true := by decide +kernel
set_option maxRecDepth 65536 in
theorem w_t3 : (((words1.drop 24).drop 24).take 24).all (fun c => isCode c || c.before args0 about1) = true := by decide +kernel
set_option maxRecDepth 65536 in
theorem w_t4 : (((words1.drop 24).drop 24).drop 24).all (fun c => isCode c || c.before args0 about1) = true := by decide +kernel
theorem w_tables : (allAtoms (Jvm.Cond.code x code maxLocals ret :: tables_1)).before args0 about1 = true := by
  rw [allAtoms_all]
  show words1.all (fun c => c.before args0 about1) = true
  refine all_split ?_ w_codes
  rw [← List.take_append_drop 24 words1, List.all_append, w_t1, ← List.take_append_drop 24 (words1.drop 24), List.all_append, w_t2, ← List.take_append_drop 24 ((words1.drop 24).drop 24), List.all_append, w_t3, w_t4]
  rfl
set_option maxRecDepth 65536 in
theorem w_rest : rest_1_c.before args0 about1 = true := by decide +kernel
set_option maxRecDepth 65536 in
theorem w_case : (Jvm.Cond.and given_1 narrow_1).before args0 about1 = true := by decide +kernel
theorem w_applies : (headSpec (Jvm.Cond.code x code maxLocals ret :: tables_1) room_1).applies x e0.platform about1 = true :=
  (Spec.applies_iff w_frames).mpr ⟨w_running, w_runnable, w_alone, w_named, w_hears, w_ripe, w_room, w_tables⟩
theorem atStart : AtStart classFile x code maxLocals ret World_1 tables_1 room_1 Calls_1 rest_1 Pre_1 launch0 p0 e0 about1 theMethod args0 below0 :=
  ⟨lists_1, trivial, launch0.admits_env _ _ _, launch0.least_env, fairChoices_fair.cas, fairChoices_fair.clock, w_frames, w_args, w_heap, w_applies, trivial, w_rest, w_case⟩
end start1
theorem witness_1 : WitnessClaimed_1 := ⟨start1.p0, start1.e0, start1.about1, start1.theMethod, start1.args0, start1.below0, start1.atStart⟩
end Jvm.Pilot.@@N@@
