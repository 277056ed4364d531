import JvmDerived
import JvmDerived.Pilot.@@N@@Statement
import JvmDerived.Pilot.@@N@@Code
set_option linter.unusedVariables false
set_option linter.unusedSimpArgs false

namespace Jvm.RoadKit
open Sem ClassFile Op Lib Jvm.Stand Jvm.Free Jvm.LawKit
section New
variable {p : Program} {l : Launch} {e : Env} {R : Room} {s : State} {m : MethodId} {args : Array Value} {below : List Frame} {meth : Method} {c : Code} {T : State} {locs : List Loc} {cells slots : Nat}
theorem own_retI (X : Stand p l e R s m args below meth c T locs cells slots) (hx : p.tables.exec = Jvm.exec) {pc : Nat} {Ls : Array Slot} {z : Int32} {rest : List Value} (hret : meth.sig.returnType = some .int) (hd : decode c.code pc = .ok (.ireturn, 1)) {fs : List Frame}
    (hl : ∀ (f : JFrame) (acts : List Action), f.method = m → f.locked = none → f.entered = [] → (doReturn e (T.setTop f) acts (some (.int z))).1 = T.setFrames fs) : Steps p.tables e below (T.setTop (mkF m pc Ls (.int z :: rest))) (T.setFrames fs) :=
  retOut X hx (t := .int) (w := .int z) (i := .ireturn) hret rfl (Or.inl ⟨rfl, Or.inl rfl, z, rfl⟩) hd hl
end New
end Jvm.RoadKit

/- laws to paste: Road.backV, Road.codOf (cut by pick.py; bodies as the Statement names them) -/
namespace Jvm.Pilot.@@N@@
namespace StrChars
open Jvm Sem ClassFile Op Lib Jvm.Stand Jvm.Free.XT Jvm.Free.ALB Jvm.Free.JM Jvm.Free
open Jvm.Lib.Cold (StaticIs)
/-- a char array whose places are chars -/
def Ch (a : Addr) (A : Cell) (U : State) : Prop := Arr .char a A U ∧ Typed .char A
theorem Ch.mv {a : Addr} {A : Cell} {U U' : State} (h : Ch a A U) (hal : U.vm.Alike U'.vm) (hh : U'.heap = U.heap) : Ch a A U' := ⟨h.1.mv hal hh, h.2⟩
theorem Ch.keep {a : Addr} {A : Cell} {U U' : State} (h : Ch a A U) (hal : U.vm.Alike U'.vm) (hk : U'.heap[a]? = some A) : Ch a A U' := ⟨h.1.keep hal hk, h.2⟩
/-- what place i of a char[]'s cell holds -/
def cv (A : Cell) (i : Nat) : Int32 := match A.slots[i]? with | some (.int x) => x | _ => 0
theorem Ch.get {a : Addr} {A : Cell} {U : State} (h : Ch a A U) {i : Nat} (hi : i < A.slots.size) : A.slots[i]? = some (.int (cv A i)) := by
  have e := Array.getElem?_eq_getElem hi
  have f := h.2 i _ e
  unfold cv; rw [e]
  generalize A.slots[i] = v at f
  cases v <;> simp [fits] at f ⊢
/-- the byte that i2b leaves of a char -/
def lo8 (x : Int32) : Int32 := x.toInt8.toInt32
theorem fits_lo8 (y : Int32) : fits .byte (.int (lo8 y)) = true := by
  have h1 := y.toInt8.le_toInt
  have h2 := y.toInt8.toInt_lt
  simp only [lo8, fits, Bool.and_eq_true, decide_eq_true_eq, Int32.le_iff_toInt_le, Int8.toInt_toInt32, show (-128 : Int32).toInt = -128 from by decide, show (127 : Int32).toInt = 127 from by decide]
  omega
/-- A' is A but that each place j of lo .. hi - 1 holds f j -/
def Laid (A A' : Cell) (lo hi : Nat) (f : Nat → Value) : Prop := A'.cls = A.cls ∧ A'.vm = A.vm ∧ A'.slots.size = A.slots.size ∧ ∀ i, A'.slots[i]? = if lo ≤ i ∧ i < hi then some (f i) else A.slots[i]?
theorem Laid.zero (A : Cell) (lo : Nat) (f : Nat → Value) : Laid A A lo (lo + 0) f := ⟨rfl, rfl, rfl, fun i => by rw [if_neg (by omega)]⟩
theorem Laid.step {A Ak : Cell} {lo k : Nat} {f : Nat → Value} {v : Value} (h : Laid A Ak lo k f) (hlo : lo ≤ k) (hk : k < Ak.slots.size) (hv : v = f k) : Laid A (Ak.setSlot k v) lo (k + 1) f := by
  refine ⟨h.1, h.2.1, by simpa [Cell.setSlot] using h.2.2.1, fun i => ?_⟩
  by_cases e : k = i
  · subst e; rw [Cell.slots_setSlot_self v hk, if_pos (by omega), hv]
  · rw [Cell.slots_setSlot_ne v e, h.2.2.2 i]
    by_cases q : lo ≤ i ∧ i < k
    · rw [if_pos q, if_pos (by omega)]
    · rw [if_neg q, if_neg (by omega)]
def U16 : String := "java/lang/StringUTF16"
namespace Cmp5
def yN : MethodName := ⟨"java/lang/StringUTF16", "compress", "([CI[BII)I"⟩
abbrev yB : ByteArray := jdk_52_method_21_code
theorem d0 : decode yB 0 = .ok (.iconst 0, 1) := by decide +kernel
theorem d1 : decode yB 1 = .ok (.istore 5, 2) := by decide +kernel
theorem d3 : decode yB 3 = .ok (.iload 5, 2) := by decide +kernel
theorem d5 : decode yB 5 = .ok (.iload 4, 2) := by decide +kernel
theorem d7 : decode yB 7 = .ok (.if_icmp (.ge) 37, 3) := by decide +kernel
theorem d10 : decode yB 10 = .ok (.aload_n 0, 1) := by decide +kernel
theorem d11 : decode yB 11 = .ok (.iload_n 1, 1) := by decide +kernel
theorem d12 : decode yB 12 = .ok (.caload, 1) := by decide +kernel
theorem d13 : decode yB 13 = .ok (.istore 6, 2) := by decide +kernel
theorem d15 : decode yB 15 = .ok (.iload 6, 2) := by decide +kernel
theorem d17 : decode yB 17 = .ok (.sipush 255, 3) := by decide +kernel
theorem d20 : decode yB 20 = .ok (.if_icmp (.le) 6, 3) := by decide +kernel
theorem d26 : decode yB 26 = .ok (.aload_n 2, 1) := by decide +kernel
theorem d27 : decode yB 27 = .ok (.iload_n 3, 1) := by decide +kernel
theorem d28 : decode yB 28 = .ok (.iload 6, 2) := by decide +kernel
theorem d30 : decode yB 30 = .ok (.i2b, 1) := by decide +kernel
theorem d31 : decode yB 31 = .ok (.bastore, 1) := by decide +kernel
theorem d32 : decode yB 32 = .ok (.iinc 1 1, 3) := by decide +kernel
theorem d35 : decode yB 35 = .ok (.iinc 3 1, 3) := by decide +kernel
theorem d38 : decode yB 38 = .ok (.iinc 5 1, 3) := by decide +kernel
theorem d41 : decode yB 41 = .ok (.goto (-38), 3) := by decide +kernel
theorem d44 : decode yB 44 = .ok (.iload 4, 2) := by decide +kernel
theorem d46 : decode yB 46 = .ok (.ireturn, 1) := by decide +kernel
def site : List Cond := []
def tab : Cond := tabOf yN yB 7 (some .int) site
def P (b : Addr) (A : Cell) (d : Addr) (B : Cell) (o q len : Nat) (args : Array Value) (s : State) : Prop := args = #[.ref b, .int (Int32.ofNat o), .ref d, .int (Int32.ofNat q), .int (Int32.ofNat len)] ∧ Ch b A s ∧ Arr .byte d B s ∧ b ≠ d ∧ o + len ≤ A.slots.size ∧ q + len ≤ B.slots.size ∧ ∀ i, i < len → ¬ 255 < cv A (o + i)
def E (b : Addr) (A : Cell) (d : Addr) (B : Cell) (o q len : Nat) (r : Option Value) (s u : State) : Prop := r = some (.int (Int32.ofNat len)) ∧ ∃ B', Put d B' s u ∧ Laid B B' q (q + len) (fun j => Value.int (lo8 (cv A (o + (j - q)))))
/-- no char of the range above 255: len; the places written hold each char's low byte -/
theorem law (l : Launch) (b : Addr) (A : Cell) (d : Addr) (B : Cell) (o q len : Nat) : Law l yN 5 5 0 0 yB 7 (some .int) site (P b A d B o q len) (E b A d B o q len) (copyLocs d q len) 0 0 := by
  refine Law.of_walk (plainFor_of_name (by decide +kernel)) (by decide +kernel) (by decide +kernel) (by decide) (fun _ _ h => by rw [h.1]; rfl) (fun _ U U' hal hh h => ⟨h.1, h.2.1.mv hal hh, h.2.2.1.mv hal hh, h.2.2.2⟩) (fun r U U' V V' h1 hal h2 h => ⟨h.1, h.2.elim fun B' q => ⟨B', q.1.mv h1 h2, q.2⟩⟩) ?_
  intro p e s m args below meth c s₁ X0 hexec hbytes hml hret hlk hnm hown hh0 W hP
  obtain ⟨rfl, hA, hB, hne, l1, l2, hp⟩ := hP
  have c1 : Steps p.tables e below (s₁.setTop (entryFrame m #[.ref b, .int (Int32.ofNat o), .ref d, .int (Int32.ofNat q), .int (Int32.ofNat len)] 7)) (s₁.setTop (mkF m 0 #[.val (.ref b), .val (.int (Int32.ofNat o)), .val (.ref d), .val (.int (Int32.ofNat q)), .val (.int (Int32.ofNat len)), .unset, .unset] [])) := entry rfl
  have hA0 := hA.1.mv X0.warmed.alike hh0
  have hB0 := hB.mv X0.warmed.alike hh0
  have a31 := hA.1.2.2.2
  have c2 : Steps p.tables e below (s₁.setTop (entryFrame m #[.ref b, .int (Int32.ofNat o), .ref d, .int (Int32.ofNat q), .int (Int32.ofNat len)] 7)) (s₁.setTop (mkF m 3 #[.val (.ref b), .val (.int (Int32.ofNat o)), .val (.ref d), .val (.int (Int32.ofNat q)), .val (.int (Int32.ofNat len)), .val (.int 0), .unset] [])) := c1.trans (by
    refine iconstV X0.here hexec rfl 0 (hb hbytes d0) (by decide) ?_
    refine XS.istore X0.here hexec rfl (hb hbytes d1) rfl rfl ?_
    exact Steps.refl _)
  have loop : ∀ (r i : Nat), i + r = len → ∀ (z : Slot), (z = .unset ∨ ∃ w, z = .val w ∧ w.category = 1) → ∀ (Tl : State) (Bk : Cell), Stand p l e { frames := 0, locals := 0, cells := 0, slots := 0 } s m #[.ref b, .int (Int32.ofNat o), .ref d, .int (Int32.ofNat q), .int (Int32.ofNat len)] below meth c Tl ([] ++ copyLocs d q i) 0 0 → Put d Bk s₁ Tl → Laid B Bk q (q + i) (fun j => Value.int (lo8 (cv A (o + (j - q))))) →
      Steps p.tables e below (s₁.setTop (entryFrame m #[.ref b, .int (Int32.ofNat o), .ref d, .int (Int32.ofNat q), .int (Int32.ofNat len)] 7)) (Tl.setTop (mkF m 3 #[.val (.ref b), .val (.int (Int32.ofNat (o + i))), .val (.ref d), .val (.int (Int32.ofNat (q + i))), .val (.int (Int32.ofNat len)), .val (.int (Int32.ofNat i)), z] [])) → ∃ (T' : State) (B' : Cell) (z' : Slot), Stand p l e { frames := 0, locals := 0, cells := 0, slots := 0 } s m #[.ref b, .int (Int32.ofNat o), .ref d, .int (Int32.ofNat q), .int (Int32.ofNat len)] below meth c T' ([] ++ copyLocs d q len) 0 0 ∧ Put d B' s₁ T' ∧ Laid B B' q (q + len) (fun j => Value.int (lo8 (cv A (o + (j - q))))) ∧
      Steps p.tables e below (s₁.setTop (entryFrame m #[.ref b, .int (Int32.ofNat o), .ref d, .int (Int32.ofNat q), .int (Int32.ofNat len)] 7)) (T'.setTop (mkF m 3 #[.val (.ref b), .val (.int (Int32.ofNat (o + len))), .val (.ref d), .val (.int (Int32.ofNat (q + len))), .val (.int (Int32.ofNat len)), .val (.int (Int32.ofNat len)), z'] [])) := by
    intro r
    induction r with
    | zero =>
      intro i hi z hz Tl Bk Xl pl fl cl
      have hil : i = len := by omega
      rw [hil] at Xl fl cl
      exact ⟨Tl, Bk, z, Xl, pl, fl, cl⟩
    | succ r ih =>
      intro i hi z hz Tl Bk Xl pl fl cl
      have all := X0.warmed.alike.symm.trans Xl.warmed.alike
      have hAl := hA0.keep all (pl.other hne hA0.1)
      have hBk := hB0.like all pl.1 fl.1 fl.2.1 fl.2.2.1
      have hlt : q + i < Bk.slots.size := by rw [fl.2.2.1]; omega
      have c3 : Steps p.tables e below (s₁.setTop (entryFrame m #[.ref b, .int (Int32.ofNat o), .ref d, .int (Int32.ofNat q), .int (Int32.ofNat len)] 7)) (Tl.setTop (mkF m 12 #[.val (.ref b), .val (.int (Int32.ofNat (o + i))), .val (.ref d), .val (.int (Int32.ofNat (q + i))), .val (.int (Int32.ofNat len)), .val (.int (Int32.ofNat i)), z] [.int (Int32.ofNat (o + i)), .ref b])) := cl.trans (by
        refine XS.iload Xl.here hexec rfl (hb hbytes d3) rfl ?_
        refine XS.iload Xl.here hexec rfl (hb hbytes d5) rfl ?_
        refine XS.icmpNo Xl.here hexec rfl (hb hbytes d7) rfl (ii_ge_f (lt32 (by omega) (by omega))) ?_
        refine XS.aloadN Xl.here hexec rfl (hb hbytes d10) rfl rfl ?_
        refine XS.iloadN Xl.here hexec rfl (hb hbytes d11) rfl ?_
        exact Steps.refl _)
      have c4 : Steps p.tables e below (s₁.setTop (entryFrame m #[.ref b, .int (Int32.ofNat o), .ref d, .int (Int32.ofNat q), .int (Int32.ofNat len)] 7)) (Tl.setTop (mkF m 13 #[.val (.ref b), .val (.int (Int32.ofNat (o + i))), .val (.ref d), .val (.int (Int32.ofNat (q + i))), .val (.int (Int32.ofNat len)), .val (.int (Int32.ofNat i)), z] [.int (cv A (o + i))])) := c3.trans (by
        refine Xl.aget hexec hAl rfl (hA.get (i := o + i) (by omega)) rfl rfl (hb hbytes d12) ?_
        exact Steps.refl _)
      have c5 : Steps p.tables e below (s₁.setTop (entryFrame m #[.ref b, .int (Int32.ofNat o), .ref d, .int (Int32.ofNat q), .int (Int32.ofNat len)] 7)) (Tl.setTop (mkF m 15 #[.val (.ref b), .val (.int (Int32.ofNat (o + i))), .val (.ref d), .val (.int (Int32.ofNat (q + i))), .val (.int (Int32.ofNat len)), .val (.int (Int32.ofNat i)), .val (.int (cv A (o + i)))] [])) := c4.trans (by
        refine XS.istoreS Xl.here hexec rfl (hb hbytes d13) rfl rfl hz ?_
        exact Steps.refl _)
      have c6 : Steps p.tables e below (s₁.setTop (entryFrame m #[.ref b, .int (Int32.ofNat o), .ref d, .int (Int32.ofNat q), .int (Int32.ofNat len)] 7)) (Tl.setTop (mkF m 31 #[.val (.ref b), .val (.int (Int32.ofNat (o + i))), .val (.ref d), .val (.int (Int32.ofNat (q + i))), .val (.int (Int32.ofNat len)), .val (.int (Int32.ofNat i)), .val (.int (cv A (o + i)))] [.int (lo8 (cv A (o + i))), .int (Int32.ofNat (q + i)), .ref d])) := c5.trans (by
        refine XS.iload Xl.here hexec rfl (hb hbytes d15) rfl ?_
        refine sipushV Xl.here hexec rfl 255 (hb hbytes d17) (by decide) ?_
        refine XS.icmpYes Xl.here hexec rfl (pc0 := 20) rfl (hb hbytes d20) rfl (ii_le_t (hp i (by omega))) (by decide) rfl ?_
        refine XS.aloadN Xl.here hexec rfl (hb hbytes d26) rfl rfl ?_
        refine XS.iloadN Xl.here hexec rfl (hb hbytes d27) rfl ?_
        refine XS.iload Xl.here hexec rfl (hb hbytes d28) rfl ?_
        refine i2b Xl.here hexec rfl (hb hbytes d30) rfl ?_
        exact Steps.refl _)
      obtain ⟨T7, X7, p7, st7⟩ := Xl.aput hexec hBk rfl hlt rfl (fits_lo8 (cv A (o + i))) (g := (mkF m 31 #[.val (.ref b), .val (.int (Int32.ofNat (o + i))), .val (.ref d), .val (.int (Int32.ofNat (q + i))), .val (.int (Int32.ofNat len)), .val (.int (Int32.ofNat i)), .val (.int (cv A (o + i)))] [.int (lo8 (cv A (o + i))), .int (Int32.ofNat (q + i)), .ref d])) rfl (rest := []) rfl (hb hbytes d31)
      have c8 : Steps p.tables e below (s₁.setTop (entryFrame m #[.ref b, .int (Int32.ofNat o), .ref d, .int (Int32.ofNat q), .int (Int32.ofNat len)] 7)) (T7.setTop (mkF m 32 #[.val (.ref b), .val (.int (Int32.ofNat (o + i))), .val (.ref d), .val (.int (Int32.ofNat (q + i))), .val (.int (Int32.ofNat len)), .val (.int (Int32.ofNat i)), .val (.int (cv A (o + i)))] [])) := c6.trans (st7 _ (Steps.refl _))
      have c9 : Steps p.tables e below (s₁.setTop (entryFrame m #[.ref b, .int (Int32.ofNat o), .ref d, .int (Int32.ofNat q), .int (Int32.ofNat len)] 7)) (T7.setTop (mkF m 3 #[.val (.ref b), .val (.int (Int32.ofNat (o + i) + 1)), .val (.ref d), .val (.int (Int32.ofNat (q + i) + 1)), .val (.int (Int32.ofNat len)), .val (.int (Int32.ofNat i + 1)), .val (.int (cv A (o + i)))] [])) := c8.trans (by
        refine iincV X7.here hexec rfl 1 (hb hbytes d32) (by decide) rfl rfl ?_
        refine iincV X7.here hexec rfl 1 (hb hbytes d35) (by decide) rfl rfl ?_
        refine iincV X7.here hexec rfl 1 (hb hbytes d38) (by decide) rfl rfl ?_
        refine XS.goto X7.here hexec rfl (pc0 := 41) rfl (hb hbytes d41) (by decide) rfl ?_
        exact Steps.refl _)
      have c10 : Steps p.tables e below (s₁.setTop (entryFrame m #[.ref b, .int (Int32.ofNat o), .ref d, .int (Int32.ofNat q), .int (Int32.ofNat len)] 7)) (T7.setTop (mkF m 3 #[.val (.ref b), .val (.int (Int32.ofNat (o + (i + 1)))), .val (.ref d), .val (.int (Int32.ofNat (q + (i + 1)))), .val (.int (Int32.ofNat len)), .val (.int (Int32.ofNat (i + 1))), .val (.int (cv A (o + i)))] [])) := by
        have := c9
        rw [succ32, succ32, succ32] at this
        exact this
      exact ih (i + 1) (by omega) _ (Or.inr ⟨_, rfl, rfl⟩) T7 _ (by rw [copyLocs_step, ← List.append_assoc]; exact X7) (pl.trans p7) (fl.step (by omega) hlt (by simp)) c10
  obtain ⟨T9, B9, z9, X9, p9, f9, g9⟩ := loop len 0 (by omega) .unset (Or.inl rfl) s₁ B (by simpa [copyLocs] using X0) ⟨hB0.1, fun _ _ => rfl, rfl⟩ (Laid.zero _ _ _) c2
  have c11 : Steps p.tables e below (s₁.setTop (entryFrame m #[.ref b, .int (Int32.ofNat o), .ref d, .int (Int32.ofNat q), .int (Int32.ofNat len)] 7)) (T9.setTop (mkF m 46 #[.val (.ref b), .val (.int (Int32.ofNat (o + len))), .val (.ref d), .val (.int (Int32.ofNat (q + len))), .val (.int (Int32.ofNat len)), .val (.int (Int32.ofNat len)), z9] [.int (Int32.ofNat len)])) := g9.trans (by
    refine XS.iload X9.here hexec rfl (hb hbytes d3) rfl ?_
    refine XS.iload X9.here hexec rfl (hb hbytes d5) rfl ?_
    refine XS.icmpYes X9.here hexec rfl (pc0 := 7) rfl (hb hbytes d7) rfl (ii_ge_t (nlt32 (by omega) (Nat.le_refl _))) (by decide) rfl ?_
    refine XS.iload X9.here hexec rfl (hb hbytes d44) rfl ?_
    exact Steps.refl _)
  exact ⟨T9, some (.int (Int32.ofNat len)), _, _, _, X9, by simp, rfl, rfl, (fun h => by cases h), ⟨rfl, B9, p9.from hh0, f9⟩, fun fs hl => c11.trans (X9.ireturnOut hexec hret rfl (Or.inl rfl) (hb hbytes d46) hl)⟩
end Cmp5
namespace Cmp3
def yN : MethodName := ⟨"java/lang/StringUTF16", "compress", "([CII)[B"⟩
abbrev yB : ByteArray := jdk_52_method_16_code
theorem d0 : decode yB 0 = .ok (.iload_n 2, 1) := by decide +kernel
theorem d1 : decode yB 1 = .ok (.newarray .byte, 2) := by decide +kernel
theorem d3 : decode yB 3 = .ok (.astore_n 3, 1) := by decide +kernel
theorem d4 : decode yB 4 = .ok (.aload_n 0, 1) := by decide +kernel
theorem d5 : decode yB 5 = .ok (.iload_n 1, 1) := by decide +kernel
theorem d6 : decode yB 6 = .ok (.aload_n 3, 1) := by decide +kernel
theorem d7 : decode yB 7 = .ok (.iconst 0, 1) := by decide +kernel
theorem d8 : decode yB 8 = .ok (.iload_n 2, 1) := by decide +kernel
theorem d9 : decode yB 9 = .ok (.invokestatic 115, 3) := by decide +kernel
theorem d12 : decode yB 12 = .ok (.istore 4, 2) := by decide +kernel
theorem d14 : decode yB 14 = .ok (.iload 4, 2) := by decide +kernel
theorem d16 : decode yB 16 = .ok (.iload_n 2, 1) := by decide +kernel
theorem d17 : decode yB 17 = .ok (.if_icmp (.eq) 40, 3) := by decide +kernel
theorem d57 : decode yB 57 = .ok (.aload_n 3, 1) := by decide +kernel
theorem d58 : decode yB 58 = .ok (.areturn, 1) := by decide +kernel
def site : List Cond := [.arrayClass .byte, Cmp5.tab] ++ staticW U16 115 Cmp5.yN
def tab : Cond := tabOf yN yB 6 (some (.array .byte)) site
def P (b : Addr) (A : Cell) (o len : Nat) (args : Array Value) (s : State) : Prop := args = #[.ref b, .int (Int32.ofNat o), .int (Int32.ofNat len)] ∧ Ch b A s ∧ o + len ≤ A.slots.size ∧ len ≤ 536870912 ∧ ∀ i, i < len → ¬ 255 < cv A (o + i)
def E (b : Addr) (A : Cell) (o len : Nat) (r : Option Value) (s u : State) : Prop := NewArr .byte "[B" len (fun j => .int (lo8 (cv A (o + j)))) r s u ∧ u.heap.size = s.heap.size + 1
/-- no char of the range above 255: a new byte[] of their low bytes -/
theorem law (l : Launch) (b : Addr) (A : Cell) (o len : Nat) : Law l yN 3 3 1 18 yB 6 (some (.array .byte)) site (P b A o len) (E b A o len) [] 1 len := by
  refine Law.of_walk (plainFor_of_name (by decide +kernel)) (by decide +kernel) (by decide +kernel) (by decide) (fun _ _ h => by rw [h.1]; rfl) (fun _ U U' hal hh h => ⟨h.1, h.2.1.mv hal hh, h.2.2⟩) (fun r U U' V V' h1 hal h2 h => ⟨NewArr.mv r U U' V V' h1 hal h2 h.1, by rw [h1, h2]; exact h.2⟩) ?_
  intro p e s m args below meth c s₁ X0 hexec hbytes hml hret hlk hnm hown hh0 W hP
  obtain ⟨rfl, hA, l1, l2, hp⟩ := hP
  have a31 := hA.1.2.2.2
  have c1 : Steps p.tables e below (s₁.setTop (entryFrame m #[.ref b, .int (Int32.ofNat o), .int (Int32.ofNat len)] 6)) (s₁.setTop (mkF m 0 #[.val (.ref b), .val (.int (Int32.ofNat o)), .val (.int (Int32.ofNat len)), .unset, .unset, .unset] [])) := entry rfl
  have c2 : Steps p.tables e below (s₁.setTop (entryFrame m #[.ref b, .int (Int32.ofNat o), .int (Int32.ofNat len)] 6)) (s₁.setTop (mkF m 1 #[.val (.ref b), .val (.int (Int32.ofNat o)), .val (.int (Int32.ofNat len)), .unset, .unset, .unset] [.int (Int32.ofNat len)])) := c1.trans (by
    refine XS.iloadN X0.here hexec rfl (hb hbytes d0) rfl ?_
    exact Steps.refl _)
  obtain ⟨T3, B3, X3, ba3, bs3, bv3, bh3, bf3, st3⟩ := X0.anew hexec (atype := .byte) (wk W (.arrayClass .byte)) rfl (by show len * 1 ≤ _; omega) (by omega) (g := (mkF m 1 #[.val (.ref b), .val (.int (Int32.ofNat o)), .val (.int (Int32.ofNat len)), .unset, .unset, .unset] [.int (Int32.ofNat len)])) rfl (hb hbytes d1) (rest := []) rfl (Nat.le_refl _) (by show 0 + len ≤ len; omega)
  rw [hh0] at ba3 st3
  have kp3 : XT.Kept s T3 := (XT.Kept.of_eq hh0).push bh3
  have hA3 := hA.keep X3.warmed.alike (kp3 _ _ hA.1.1)
  have hne : b ≠ s.heap.size := hA.1.ne
  have c4 : Steps p.tables e below (s₁.setTop (entryFrame m #[.ref b, .int (Int32.ofNat o), .int (Int32.ofNat len)] 6)) (T3.setTop (mkF m 3 #[.val (.ref b), .val (.int (Int32.ofNat o)), .val (.int (Int32.ofNat len)), .unset, .unset, .unset] [.ref s.heap.size])) := c2.trans (st3 _ (Steps.refl _))
  have c5 : Steps p.tables e below (s₁.setTop (entryFrame m #[.ref b, .int (Int32.ofNat o), .int (Int32.ofNat len)] 6)) (T3.setTop (mkF m 9 #[.val (.ref b), .val (.int (Int32.ofNat o)), .val (.int (Int32.ofNat len)), .val (.ref s.heap.size), .unset, .unset] [.int (Int32.ofNat len), .int 0, .ref s.heap.size, .int (Int32.ofNat o), .ref b])) := c4.trans (by
    refine XS.astoreN X3.here hexec rfl (hb hbytes d3) rfl rfl rfl ?_
    refine XS.aloadN X3.here hexec rfl (hb hbytes d4) rfl rfl ?_
    refine XS.iloadN X3.here hexec rfl (hb hbytes d5) rfl ?_
    refine XS.aloadN X3.here hexec rfl (hb hbytes d6) rfl rfl ?_
    refine iconstV X3.here hexec rfl 0 (hb hbytes d7) (by decide) ?_
    refine XS.iloadN X3.here hexec rfl (hb hbytes d8) rfl ?_
    exact Steps.refl _)
  obtain ⟨v6, T6, X6, E6, g6⟩ := X3.callS hexec (Cmp5.law l b A s.heap.size B3 o 0 len) hown (wks W (staticW U16 115 Cmp5.yN)) (wk W Cmp5.tab) (W := 0) (Nat.le_of_ble_eq_true rfl) (Nat.le_of_ble_eq_true rfl) (Nat.le_refl _) (by show 0 + len + 0 ≤ len; omega) (g := (mkF m 9 #[.val (.ref b), .val (.int (Int32.ofNat o)), .val (.int (Int32.ofNat len)), .val (.ref s.heap.size), .unset, .unset] [.int (Int32.ofNat len), .int (Int32.ofNat 0), .ref s.heap.size, .int (Int32.ofNat o), .ref b])) rfl (by rw [hml]; rfl) c5 (argsL := [.ref b, .int (Int32.ofNat o), .ref s.heap.size, .int (Int32.ofNat 0), .int (Int32.ofNat len)]) (rest := []) rfl rfl (by show 2 * 0 + 0 ≤ _; decide) (hb hbytes d9) (⟨rfl, hA3, ba3, hne, l1, by rw [bs3]; simp, hp⟩)
  obtain ⟨rfl, B6, p6, f6⟩ := E6
  have c7 : Steps p.tables e below (s₁.setTop (entryFrame m #[.ref b, .int (Int32.ofNat o), .int (Int32.ofNat len)] 6)) (T6.setTop (mkF m 12 #[.val (.ref b), .val (.int (Int32.ofNat o)), .val (.int (Int32.ofNat len)), .val (.ref s.heap.size), .unset, .unset] [.int (Int32.ofNat len)])) := g6
  have c8 : Steps p.tables e below (s₁.setTop (entryFrame m #[.ref b, .int (Int32.ofNat o), .int (Int32.ofNat len)] 6)) (T6.setTop (mkF m 58 #[.val (.ref b), .val (.int (Int32.ofNat o)), .val (.int (Int32.ofNat len)), .val (.ref s.heap.size), .val (.int (Int32.ofNat len)), .unset] [.ref s.heap.size])) := c7.trans (by
    refine XS.istore X6.here hexec rfl (hb hbytes d12) rfl rfl ?_
    refine XS.iload X6.here hexec rfl (hb hbytes d14) rfl ?_
    refine XS.iloadN X6.here hexec rfl (hb hbytes d16) rfl ?_
    refine XS.icmpYes X6.here hexec rfl (pc0 := 17) rfl (hb hbytes d17) rfl (ii_eq_t rfl) (by decide) rfl ?_
    refine XS.aloadN X6.here hexec rfl (hb hbytes d57) rfl rfl ?_
    exact Steps.refl _)
  have X8 := X6.wide (L' := []) (cells' := 1) (slots' := len) (fun x hx hlt => by
    simp only [List.nil_append, copyLocs, List.mem_map, List.mem_range] at hx
    obtain ⟨i, -, rfl⟩ := hx
    exact absurd hlt (Nat.lt_irrefl _)) (Nat.le_refl _) (by omega)
  exact ⟨T6, some (.ref s.heap.size), _, _, _, X8, rfl, rfl, rfl, (fun h => by cases h), ⟨⟨rfl, B6, ba3.like (X3.warmed.alike.symm.trans X6.warmed.alike) p6.1 f6.1 f6.2.1 f6.2.2.1, f6.2.1.trans bv3, by rw [X6.warmed.alike.findClass, f6.1]; exact bf3, by rw [f6.2.2.1, bs3]; simp, fun j hj => by rw [f6.2.2.2 j, if_pos (by omega)]; rfl, kp3.put p6 (Nat.le_refl _)⟩, by rw [p6.2.2, bh3, hh0]; simp⟩, fun fs hl => c8.trans (X8.areturnOut hexec rfl hret rfl (hb hbytes d58) hl)⟩
end Cmp3
namespace CodL
def yN : MethodName := ⟨"java/lang/StringUTF16", "coderFromArrayLen", "([BI)B"⟩
abbrev yB : ByteArray := jdk_52_method_15_code
theorem d0 : decode yB 0 = .ok (.iload_n 1, 1) := by decide +kernel
theorem d1 : decode yB 1 = .ok (.aload_n 0, 1) := by decide +kernel
theorem d2 : decode yB 2 = .ok (.arraylength, 1) := by decide +kernel
theorem d3 : decode yB 3 = .ok (.isub, 1) := by decide +kernel
theorem d4 : decode yB 4 = .ok (.bipush 31, 2) := by decide +kernel
theorem d6 : decode yB 6 = .ok (.iushr, 1) := by decide +kernel
theorem d7 : decode yB 7 = .ok (.i2b, 1) := by decide +kernel
theorem d8 : decode yB 8 = .ok (.ireturn, 1) := by decide +kernel
def site : List Cond := []
def tab : Cond := tabOf yN yB 2 (some .byte) site
def P (d : Addr) (B : Cell) (args : Array Value) (s : State) : Prop := args = #[.ref d, .int (Int32.ofNat B.slots.size)] ∧ Arr .byte d B s
def E (r : Option Value) (s u : State) : Prop := XT.PureE (some (.int 0)) r s u
/-- an array as long as the number of chars: LATIN1 -/
theorem law (l : Launch) (d : Addr) (B : Cell) : Law l yN 2 2 0 0 yB 2 (some .byte) site (P d B) E [] 0 0 := by
  refine Law.of_walk (plainFor_of_name (by decide +kernel)) (by decide +kernel) (by decide +kernel) (by decide) (fun _ _ h => by rw [h.1]; rfl) (fun _ U U' hal hh h => ⟨h.1, h.2.mv hal hh⟩) (fun r U U' V V' h1 hal h2 h => XT.PureE.mv r U U' V V' h1 hal h2 h) ?_
  intro p e s m args below meth c s₁ X0 hexec hbytes hml hret hlk hnm hown hh0 W hP
  obtain ⟨rfl, hB⟩ := hP
  have hB0 := hB.mv X0.warmed.alike hh0
  have c1 : Steps p.tables e below (s₁.setTop (entryFrame m #[.ref d, .int (Int32.ofNat B.slots.size)] 2)) (s₁.setTop (mkF m 0 #[.val (.ref d), .val (.int (Int32.ofNat B.slots.size))] [])) := entry rfl
  have c2 : Steps p.tables e below (s₁.setTop (entryFrame m #[.ref d, .int (Int32.ofNat B.slots.size)] 2)) (s₁.setTop (mkF m 2 #[.val (.ref d), .val (.int (Int32.ofNat B.slots.size))] [.ref d, .int (Int32.ofNat B.slots.size)])) := c1.trans (by
    refine XS.iloadN X0.here hexec rfl (hb hbytes d0) rfl ?_
    refine XS.aloadN X0.here hexec rfl (hb hbytes d1) rfl rfl ?_
    exact Steps.refl _)
  have c3 : Steps p.tables e below (s₁.setTop (entryFrame m #[.ref d, .int (Int32.ofNat B.slots.size)] 2)) (s₁.setTop (mkF m 8 #[.val (.ref d), .val (.int (Int32.ofNat B.slots.size))] [.int (lo8 (ushr (Int32.ofNat B.slots.size - Int32.ofNat B.slots.size) 31))])) := c2.trans (by
    refine X0.alen hexec hB0 rfl rfl (hb hbytes d2) ?_
    refine XS.isub X0.here hexec rfl (hb hbytes d3) rfl ?_
    refine bipushV X0.here hexec rfl 31 (hb hbytes d4) (by decide) ?_
    refine iushr X0.here hexec rfl (hb hbytes d6) rfl ?_
    refine i2b X0.here hexec rfl (hb hbytes d7) rfl ?_
    exact Steps.refl _)
  have e0 : lo8 (ushr (Int32.ofNat B.slots.size - Int32.ofNat B.slots.size) 31) = 0 := by rw [Int32.sub_self]; decide
  rw [e0] at c3
  exact ⟨s₁, some (.int 0), _, _, _, X0, rfl, rfl, rfl, (fun h => by cases h), ⟨rfl, hh0⟩, fun fs hl => c3.trans (X0.ireturnOut hexec hret rfl (Or.inr (Or.inr (Or.inl rfl))) (hb hbytes d8) hl)⟩
end CodL
/-- the String at a is Latin-1 over a new byte[] (the heap's one new cell): the low bytes of the len chars of A from o on; every cell but a is kept -/
def Got (a : Addr) (D : Cell) (fV fC : Field) (A : Cell) (o len : Nat) (r : Option Value) (s u : State) : Prop := r = none ∧ ∃ D' V : Cell, Blank "java/lang/String" a D' u ∧ Same D D' [fV.slot, fC.slot] ∧ D'.slots[fV.slot]? = some (.ref s.heap.size) ∧ D'.slots[fC.slot]? = some (.int 0) ∧ Arr .byte s.heap.size V u ∧ V.vm = .none ∧ u.vm.findClass "[B" = some V.cls ∧ V.slots.size = len ∧ (∀ j, j < len → V.slots[j]? = some (.int (lo8 (cv A (o + j))))) ∧ (∀ (y : Addr) (c : Cell), y ≠ a → s.heap[y]? = some c → u.heap[y]? = some c) ∧ u.heap.size = s.heap.size + 1
theorem Got.mv {a : Addr} {D A : Cell} {fV fC : Field} {o len : Nat} : ∀ r (U U' V V' : State), U'.heap = U.heap → V.vm.Alike V'.vm → V'.heap = V.heap → Got a D fV fC A o len r U V → Got a D fV fC A o len r U' V' :=
  fun r U U' V V' h1 hal h2 ⟨e0, D', X, a1, a2, a3, a4, a5, a6, a7, a8, a9, a10, a11⟩ => ⟨e0, D', X, a1.mv hal h2, a2, by rw [h1]; exact a3, a4, by rw [h1]; exact a5.mv hal h2, a6, by rw [hal.findClass]; exact a7, a8, a9, by rw [h1, h2]; exact a10, by rw [h1, h2]; exact a11⟩
namespace New4
def yN : MethodName := ⟨"java/lang/String", "<init>", "([CIILjava/lang/Void;)V"⟩
abbrev yB : ByteArray := jdk_42_method_149_code
theorem d0 : decode yB 0 = .ok (.aload_n 0, 1) := by decide +kernel
theorem d1 : decode yB 1 = .ok (.invokespecial 1, 3) := by decide +kernel
theorem d4 : decode yB 4 = .ok (.iload_n 3, 1) := by decide +kernel
theorem d5 : decode yB 5 = .ok (.ifCond (.ne) 22, 3) := by decide +kernel
theorem d27 : decode yB 27 = .ok (.getstatic 38, 3) := by decide +kernel
theorem d30 : decode yB 30 = .ok (.ifCond (.eq) 28, 3) := by decide +kernel
theorem d33 : decode yB 33 = .ok (.aload_n 1, 1) := by decide +kernel
theorem d34 : decode yB 34 = .ok (.iload_n 2, 1) := by decide +kernel
theorem d35 : decode yB 35 = .ok (.iload_n 3, 1) := by decide +kernel
theorem d36 : decode yB 36 = .ok (.invokestatic 177, 3) := by decide +kernel
theorem d39 : decode yB 39 = .ok (.astore 5, 2) := by decide +kernel
theorem d41 : decode yB 41 = .ok (.aload_n 0, 1) := by decide +kernel
theorem d42 : decode yB 42 = .ok (.aload 5, 2) := by decide +kernel
theorem d44 : decode yB 44 = .ok (.iload_n 3, 1) := by decide +kernel
theorem d45 : decode yB 45 = .ok (.invokestatic 47, 3) := by decide +kernel
theorem d48 : decode yB 48 = .ok (.putfield 15, 3) := by decide +kernel
theorem d51 : decode yB 51 = .ok (.aload_n 0, 1) := by decide +kernel
theorem d52 : decode yB 52 = .ok (.aload 5, 2) := by decide +kernel
theorem d54 : decode yB 54 = .ok (.putfield 9, 3) := by decide +kernel
theorem d57 : decode yB 57 = .ok (.return_, 1) := by decide +kernel
def site : List Cond := [.fieldLink "java/lang/String" 38 "java/lang/String" "COMPACT_STRINGS" "Z", Cmp3.tab, CodL.tab, .laysFinal "java/lang/String" "java/lang/String" "value" "[B", .fieldLink "java/lang/String" 9 "java/lang/String" "value" "[B", .laysFinal "java/lang/String" "java/lang/String" "coder" "B", .fieldLink "java/lang/String" 15 "java/lang/String" "coder" "B"] ++ objW "java/lang/String" 1 ++ staticW "java/lang/String" 177 Cmp3.yN ++ staticW "java/lang/String" 47 CodL.yN
def tab : Cond := tabOf yN yB 6 none site
def P (a : Addr) (D : Cell) (fV fC : Field) (b : Addr) (A : Cell) (z : Int32) (o len : Nat) (args : Array Value) (s : State) : Prop := args = #[.ref a, .ref b, .int (Int32.ofNat o), .int (Int32.ofNat len), .null] ∧ Blank "java/lang/String" a D s ∧ Found "java/lang/String" "value" "[B" fV s ∧ Found "java/lang/String" "coder" "B" fC s ∧ Ch b A s ∧ StaticIs s "java/lang/String" "COMPACT_STRINGS" "Z" (.int z) ∧ ¬ z = 0 ∧ 0 < len ∧ o + len ≤ A.slots.size ∧ len ≤ 536870912 ∧ ∀ i, i < len → ¬ 255 < cv A (o + i)
def E (a : Addr) (D : Cell) (fV fC : Field) (A : Cell) (o len : Nat) (r : Option Value) (s u : State) : Prop := Got a D fV fC A o len r s u
/-- len > 0, no char of the range above 255: a Latin-1 String of their low bytes -/
theorem law (l : Launch) (a : Addr) (D : Cell) (fV fC : Field) (b : Addr) (A : Cell) (z : Int32) (o len : Nat) : Law l yN 5 4 2 35 yB 6 none site (P a D fV fC b A z o len) (E a D fV fC A o len) [⟨a, fC.slot⟩, ⟨a, fV.slot⟩] 1 len := by
  refine Law.of_walk (plainFor_of_name (by decide +kernel)) (by decide +kernel) (by decide +kernel) (by decide) (fun _ _ h => by rw [h.1]; rfl) (fun _ U U' hal hh h => ⟨h.1, h.2.1.mv hal hh, h.2.2.1.al hal, h.2.2.2.1.al hal, h.2.2.2.2.1.mv hal hh, h.2.2.2.2.2.1.there hal hh, h.2.2.2.2.2.2⟩) (fun r U U' V V' h1 hal h2 h => Got.mv r U U' V V' h1 hal h2 h) ?_
  intro p e s m args below meth c s₁ X0 hexec hbytes hml hret hlk hnm hown hh0 W hP
  obtain ⟨rfl, hB, f1, f2, hA, s1, hz, l0, l1, l2, hp⟩ := hP
  have a31 := hA.1.2.2.2
  have c1 : Steps p.tables e below (s₁.setTop (entryFrame m #[.ref a, .ref b, .int (Int32.ofNat o), .int (Int32.ofNat len), .null] 6)) (s₁.setTop (mkF m 0 #[.val (.ref a), .val (.ref b), .val (.int (Int32.ofNat o)), .val (.int (Int32.ofNat len)), .val .null, .unset] [])) := entry rfl
  have c2 : Steps p.tables e below (s₁.setTop (entryFrame m #[.ref a, .ref b, .int (Int32.ofNat o), .int (Int32.ofNat len), .null] 6)) (s₁.setTop (mkF m 1 #[.val (.ref a), .val (.ref b), .val (.int (Int32.ofNat o)), .val (.int (Int32.ofNat len)), .val .null, .unset] [.ref a])) := c1.trans (by
    refine XS.aloadN X0.here hexec rfl (hb hbytes d0) rfl rfl ?_
    exact Steps.refl _)
  obtain ⟨T3, X3, q3, st3⟩ := X0.oinit hexec hown (wks W (objW "java/lang/String" 1)) (g := (mkF m 1 #[.val (.ref a), .val (.ref b), .val (.int (Int32.ofNat o)), .val (.int (Int32.ofNat len)), .val .null, .unset] [.ref a])) rfl (by rw [hml]; rfl) (rest := []) rfl (hb hbytes d1) (W := 0) (by show 2 * 0 + 0 ≤ _; decide) (Nat.le_of_ble_eq_true rfl) (Nat.le_of_ble_eq_true rfl)
  have hh3 := q3.trans hh0
  have c4 : Steps p.tables e below (s₁.setTop (entryFrame m #[.ref a, .ref b, .int (Int32.ofNat o), .int (Int32.ofNat len), .null] 6)) (T3.setTop (mkF m 27 #[.val (.ref a), .val (.ref b), .val (.int (Int32.ofNat o)), .val (.int (Int32.ofNat len)), .val .null, .unset] [])) := (c2.trans (st3 _ (Steps.refl _))).trans (by
    refine XS.iloadN X3.here hexec rfl (hb hbytes d4) rfl ?_
    refine XS.ifYes X3.here hexec rfl (pc0 := 5) rfl (hb hbytes d5) rfl (i0_ne_t (nz32 (by omega) l0)) (by decide) rfl ?_
    exact Steps.refl _)
  obtain ⟨T5, X5, q5, st5⟩ := X3.sget hexec hown (wk W (.fieldLink "java/lang/String" 38 "java/lang/String" "COMPACT_STRINGS" "Z")) s1 (fun _ _ h => by rw [hh3]; exact h) (g := (mkF m 27 #[.val (.ref a), .val (.ref b), .val (.int (Int32.ofNat o)), .val (.int (Int32.ofNat len)), .val .null, .unset] [])) rfl (hb hbytes d27)
  have hh5 := q5.trans hh3
  have c6 : Steps p.tables e below (s₁.setTop (entryFrame m #[.ref a, .ref b, .int (Int32.ofNat o), .int (Int32.ofNat len), .null] 6)) (T5.setTop (mkF m 30 #[.val (.ref a), .val (.ref b), .val (.int (Int32.ofNat o)), .val (.int (Int32.ofNat len)), .val .null, .unset] [.int z])) := c4.trans (st5 _ (Steps.refl _))
  have c7 : Steps p.tables e below (s₁.setTop (entryFrame m #[.ref a, .ref b, .int (Int32.ofNat o), .int (Int32.ofNat len), .null] 6)) (T5.setTop (mkF m 36 #[.val (.ref a), .val (.ref b), .val (.int (Int32.ofNat o)), .val (.int (Int32.ofNat len)), .val .null, .unset] [.int (Int32.ofNat len), .int (Int32.ofNat o), .ref b])) := c6.trans (by
    refine XS.ifNo X5.here hexec rfl (hb hbytes d30) rfl (i0_eq_f hz) ?_
    refine XS.aloadN X5.here hexec rfl (hb hbytes d33) rfl rfl ?_
    refine XS.iloadN X5.here hexec rfl (hb hbytes d34) rfl ?_
    refine XS.iloadN X5.here hexec rfl (hb hbytes d35) rfl ?_
    exact Steps.refl _)
  obtain ⟨v8, T8, X8, E8, g8⟩ := X5.callS hexec (Cmp3.law l b A o len) hown (wks W (staticW "java/lang/String" 177 Cmp3.yN)) (wk W Cmp3.tab) (W := 0) (Nat.le_of_ble_eq_true rfl) (Nat.le_of_ble_eq_true rfl) (Nat.le_refl _) (by show 0 + len ≤ len; omega) (g := (mkF m 36 #[.val (.ref a), .val (.ref b), .val (.int (Int32.ofNat o)), .val (.int (Int32.ofNat len)), .val .null, .unset] [.int (Int32.ofNat len), .int (Int32.ofNat o), .ref b])) rfl (by rw [hml]; rfl) c7 (argsL := [.ref b, .int (Int32.ofNat o), .int (Int32.ofNat len)]) (rest := []) rfl rfl (by show 2 * 0 + 0 ≤ _; decide) (hb hbytes d36) (⟨rfl, hA.mv X5.warmed.alike hh5, l1, l2, hp⟩)
  obtain ⟨e8, z8⟩ := E8
  obtain ⟨rfl, N, n1, n2, n3, n4, n5, n6⟩ := NewArr.mv _ T5 s _ _ hh5.symm (Vm.Alike.refl _) rfl e8
  rw [hh5] at z8
  have hB1 := hB.keep X8.warmed.alike (n6 _ _ hB.1)
  have hne : s.heap.size ≠ a := (Nat.ne_of_lt (Array.getElem?_eq_some_iff.mp hB.1).1).symm
  have c9 : Steps p.tables e below (s₁.setTop (entryFrame m #[.ref a, .ref b, .int (Int32.ofNat o), .int (Int32.ofNat len), .null] 6)) (T8.setTop (mkF m 39 #[.val (.ref a), .val (.ref b), .val (.int (Int32.ofNat o)), .val (.int (Int32.ofNat len)), .val .null, .unset] [.ref s.heap.size])) := g8
  have c10 : Steps p.tables e below (s₁.setTop (entryFrame m #[.ref a, .ref b, .int (Int32.ofNat o), .int (Int32.ofNat len), .null] 6)) (T8.setTop (mkF m 45 #[.val (.ref a), .val (.ref b), .val (.int (Int32.ofNat o)), .val (.int (Int32.ofNat len)), .val .null, .val (.ref s.heap.size)] [.int (Int32.ofNat N.slots.size), .ref s.heap.size, .ref a])) := by
    have hc : Steps p.tables e below (s₁.setTop (entryFrame m #[.ref a, .ref b, .int (Int32.ofNat o), .int (Int32.ofNat len), .null] 6)) (T8.setTop (mkF m 45 #[.val (.ref a), .val (.ref b), .val (.int (Int32.ofNat o)), .val (.int (Int32.ofNat len)), .val .null, .val (.ref s.heap.size)] [.int (Int32.ofNat len), .ref s.heap.size, .ref a])) := c9.trans (by
      refine XS.astore X8.here hexec rfl (hb hbytes d39) rfl rfl rfl ?_
      refine XS.aloadN X8.here hexec rfl (hb hbytes d41) rfl rfl ?_
      refine XS.aload X8.here hexec rfl (hb hbytes d42) rfl rfl ?_
      refine XS.iloadN X8.here hexec rfl (hb hbytes d44) rfl ?_
      exact Steps.refl _)
    rw [n4]; exact hc
  obtain ⟨v11, T11, X11, E11, g11⟩ := X8.callS hexec (CodL.law l s.heap.size N) hown (wks W (staticW "java/lang/String" 47 CodL.yN)) (wk W CodL.tab) (W := 1) (Nat.le_of_ble_eq_true rfl) (Nat.le_of_ble_eq_true rfl) (Nat.le_refl _) (by show 0 + len + 0 ≤ len; omega) (g := (mkF m 45 #[.val (.ref a), .val (.ref b), .val (.int (Int32.ofNat o)), .val (.int (Int32.ofNat len)), .val .null, .val (.ref s.heap.size)] [.int (Int32.ofNat N.slots.size), .ref s.heap.size, .ref a])) rfl (by rw [hml]; rfl) c10 (argsL := [.ref s.heap.size, .int (Int32.ofNat N.slots.size)]) (rest := [.ref a]) rfl rfl (by show 2 * 0 + (1 + 0) ≤ _; decide) (hb hbytes d45) (⟨rfl, n1⟩)
  obtain ⟨rfl, q11⟩ := E11
  have hB11 := hB1.mv (X8.warmed.alike.symm.trans X11.warmed.alike) q11
  have c12 : Steps p.tables e below (s₁.setTop (entryFrame m #[.ref a, .ref b, .int (Int32.ofNat o), .int (Int32.ofNat len), .null] 6)) (T11.setTop (mkF m 48 #[.val (.ref a), .val (.ref b), .val (.int (Int32.ofNat o)), .val (.int (Int32.ofNat len)), .val .null, .val (.ref s.heap.size)] [.int 0, .ref a])) := g11
  obtain ⟨T13, X13, p13, bl13, sl13, st13⟩ := X11.finit hexec hown (wk W (.fieldLink "java/lang/String" 15 "java/lang/String" "coder" "B")) (Or.inr ⟨_, (wk W (.laysFinal "java/lang/String" "java/lang/String" "coder" "B"))⟩) (Or.inl ⟨rfl, hnm⟩) f2 (Or.inl rfl) hB11 (t := .byte) (by decide +kernel) rfl (g := (mkF m 48 #[.val (.ref a), .val (.ref b), .val (.int (Int32.ofNat o)), .val (.int (Int32.ofNat len)), .val .null, .val (.ref s.heap.size)] [.int 0, .ref a])) rfl (rest := []) rfl (hb hbytes d48)
  have c14 : Steps p.tables e below (s₁.setTop (entryFrame m #[.ref a, .ref b, .int (Int32.ofNat o), .int (Int32.ofNat len), .null] 6)) (T13.setTop (mkF m 54 #[.val (.ref a), .val (.ref b), .val (.int (Int32.ofNat o)), .val (.int (Int32.ofNat len)), .val .null, .val (.ref s.heap.size)] [.ref s.heap.size, .ref a])) := (c12.trans (st13 _ (Steps.refl _))).trans (by
    refine XS.aloadN X13.here hexec rfl (hb hbytes d51) rfl rfl ?_
    refine XS.aload X13.here hexec rfl (hb hbytes d52) rfl rfl ?_
    exact Steps.refl _)
  obtain ⟨T15, X15, p15, bl15, sl15, st15⟩ := X13.finit hexec hown (wk W (.fieldLink "java/lang/String" 9 "java/lang/String" "value" "[B")) (Or.inr ⟨_, (wk W (.laysFinal "java/lang/String" "java/lang/String" "value" "[B"))⟩) (Or.inl ⟨rfl, hnm⟩) f1 (Or.inl rfl) bl13 (t := (.array .byte)) (by decide +kernel) rfl (g := (mkF m 54 #[.val (.ref a), .val (.ref b), .val (.int (Int32.ofNat o)), .val (.int (Int32.ofNat len)), .val .null, .val (.ref s.heap.size)] [.ref s.heap.size, .ref a])) rfl (rest := []) rfl (hb hbytes d54)
  have c16 : Steps p.tables e below (s₁.setTop (entryFrame m #[.ref a, .ref b, .int (Int32.ofNat o), .int (Int32.ofNat len), .null] 6)) (T15.setTop (mkF m 57 #[.val (.ref a), .val (.ref b), .val (.int (Int32.ofNat o)), .val (.int (Int32.ofNat len)), .val .null, .val (.ref s.heap.size)] [])) := c14.trans (st15 _ (Steps.refl _))
  have ap := apart (Or.inr ⟨_, (wk W (.laysFinal "java/lang/String" "java/lang/String" "value" "[B"))⟩) (Or.inr ⟨_, (wk W (.laysFinal "java/lang/String" "java/lang/String" "coder" "B"))⟩) f1 f2 (t₁ := .array .byte) (t₂ := .byte) (by decide +kernel) (by decide +kernel) (by decide)
  have al := X8.warmed.alike.symm.trans X15.warmed.alike
  have n7 : T11.heap[s.heap.size]? = some N := by rw [q11]; exact n1.1
  exact ⟨T15, none, _, _, _, X15, by simp, rfl, by omega, (fun _ => rfl), ⟨rfl, _, N, bl15, ((Same.refl D _).set _ (by simp)).set _ (by simp), sl15, (Cell.slots_setSlot_ne _ ap).trans sl13, n1.keep al (p15.other hne (p13.other hne n7)), n2, by rw [al.findClass]; exact n3, n4, n5, fun y c h1 h2 => p15.other h1 (p13.other h1 (by rw [q11]; exact n6 y c h2)), by rw [p15.2.2, p13.2.2, q11]; exact z8⟩, fun fs hl => c16.trans (X15.returnOut hexec hret (hb hbytes d57) hl)⟩
end New4
namespace New1
def yN : MethodName := ⟨"java/lang/String", "<init>", "([C)V"⟩
abbrev yB : ByteArray := jdk_42_method_3_code
theorem d0 : decode yB 0 = .ok (.aload_n 0, 1) := by decide +kernel
theorem d1 : decode yB 1 = .ok (.aload_n 1, 1) := by decide +kernel
theorem d2 : decode yB 2 = .ok (.iconst 0, 1) := by decide +kernel
theorem d3 : decode yB 3 = .ok (.aload_n 1, 1) := by decide +kernel
theorem d4 : decode yB 4 = .ok (.arraylength, 1) := by decide +kernel
theorem d5 : decode yB 5 = .ok (.aconst_null, 1) := by decide +kernel
theorem d6 : decode yB 6 = .ok (.invokespecial 27, 3) := by decide +kernel
theorem d9 : decode yB 9 = .ok (.return_, 1) := by decide +kernel
def site : List Cond := [New4.tab] ++ initW "java/lang/String" 27 New4.yN
def tab : Cond := tabOf yN yB 2 none site
def P (a : Addr) (D : Cell) (fV fC : Field) (b : Addr) (A : Cell) (z : Int32) (args : Array Value) (s : State) : Prop := args = #[.ref a, .ref b] ∧ Blank "java/lang/String" a D s ∧ Found "java/lang/String" "value" "[B" fV s ∧ Found "java/lang/String" "coder" "B" fC s ∧ Ch b A s ∧ StaticIs s "java/lang/String" "COMPACT_STRINGS" "Z" (.int z) ∧ ¬ z = 0 ∧ 0 < A.slots.size ∧ A.slots.size ≤ 536870912 ∧ ∀ i, i < A.slots.size → ¬ 255 < cv A i
def E (a : Addr) (D : Cell) (fV fC : Field) (A : Cell) (r : Option Value) (s u : State) : Prop := Got a D fV fC A 0 A.slots.size r s u
/-- new String(chars), not empty, no char above 255: a Latin-1 String of their low bytes -/
theorem law (l : Launch) (a : Addr) (D : Cell) (fV fC : Field) (b : Addr) (A : Cell) (z : Int32) : Law l yN 2 1 3 52 yB 2 none site (P a D fV fC b A z) (E a D fV fC A) [⟨a, fC.slot⟩, ⟨a, fV.slot⟩] 1 A.slots.size := by
  refine Law.of_walk (plainFor_of_name (by decide +kernel)) (by decide +kernel) (by decide +kernel) (by decide) (fun _ _ h => by rw [h.1]; rfl) (fun _ U U' hal hh h => ⟨h.1, h.2.1.mv hal hh, h.2.2.1.al hal, h.2.2.2.1.al hal, h.2.2.2.2.1.mv hal hh, h.2.2.2.2.2.1.there hal hh, h.2.2.2.2.2.2⟩) (fun r U U' V V' h1 hal h2 h => Got.mv r U U' V V' h1 hal h2 h) ?_
  intro p e s m args below meth c s₁ X0 hexec hbytes hml hret hlk hnm hown hh0 W hP
  obtain ⟨rfl, hB, f1, f2, hA, s1, hz, l0, l2, hp⟩ := hP
  have c1 : Steps p.tables e below (s₁.setTop (entryFrame m #[.ref a, .ref b] 2)) (s₁.setTop (mkF m 0 #[.val (.ref a), .val (.ref b)] [])) := entry rfl
  have c2 : Steps p.tables e below (s₁.setTop (entryFrame m #[.ref a, .ref b] 2)) (s₁.setTop (mkF m 6 #[.val (.ref a), .val (.ref b)] [.null, .int (Int32.ofNat A.slots.size), .int 0, .ref b, .ref a])) := c1.trans (by
    refine XS.aloadN X0.here hexec rfl (hb hbytes d0) rfl rfl ?_
    refine XS.aloadN X0.here hexec rfl (hb hbytes d1) rfl rfl ?_
    refine iconstV X0.here hexec rfl 0 (hb hbytes d2) (by decide) ?_
    refine XS.aloadN X0.here hexec rfl (hb hbytes d3) rfl rfl ?_
    refine X0.alen hexec (hA.1.mv X0.warmed.alike hh0) rfl rfl (hb hbytes d4) ?_
    refine XS.aconstNull X0.here hexec rfl (hb hbytes d5) ?_
    exact Steps.refl _)
  obtain ⟨v3, T3, X3, E3, g3⟩ := X0.callN hexec (New4.law l a D fV fC b A z 0 A.slots.size) rfl hown (wks W (initW "java/lang/String" 27 New4.yN)) (W New4.tab (by simp only [site, List.mem_cons, List.mem_append, true_or, or_true])) (W := 0) (Nat.le_of_ble_eq_true rfl) (Nat.le_of_ble_eq_true rfl) (Nat.le_refl _) (by show 0 + A.slots.size ≤ A.slots.size; omega) (g := (mkF m 6 #[.val (.ref a), .val (.ref b)] [.null, .int (Int32.ofNat A.slots.size), .int (Int32.ofNat 0), .ref b, .ref a])) rfl (by rw [hml]; rfl) c2 (argsL := [.ref b, .int (Int32.ofNat 0), .int (Int32.ofNat A.slots.size), .null]) (rest := []) rfl rfl (by show 2 * 0 + 0 ≤ _; decide) (hb hbytes d6) (⟨rfl, hB.mv X0.warmed.alike hh0, f1.al X0.warmed.alike, f2.al X0.warmed.alike, hA.mv X0.warmed.alike hh0, s1.there X0.warmed.alike hh0, hz, l0, by omega, l2, fun i hi => by rw [Nat.zero_add]; exact hp i hi⟩)
  have e0 := Got.mv _ s₁ s _ _ hh0.symm (Vm.Alike.refl _) rfl E3
  obtain rfl := e0.1
  have c4 : Steps p.tables e below (s₁.setTop (entryFrame m #[.ref a, .ref b] 2)) (T3.setTop (mkF m 9 #[.val (.ref a), .val (.ref b)] [])) := g3
  exact ⟨T3, none, _, _, _, X3, by simp, rfl, by omega, (fun _ => rfl), e0, fun fs hl => c4.trans (X3.returnOut hexec hret (hb hbytes d9) hl)⟩
theorem pays {l : Launch} {R : Room} {p : Program} {e : Env} {below : List Frame} {s : State} {sargs : Array Value} {len W : Nat} (a : Addr) (D : Cell) (fV fC : Field) (b : Addr) (A : Cell) (z : Int32) (htab : tab.before sargs s = true) (hfr : 4 ≤ R.frames) (hlo : W + 65 ≤ R.locals) :
    Back l R p e below s sargs yN len W (fun A₁ a₁ => A₁.cells + 1 ≤ R.cells ∧ A₁.slots + A.slots.size ≤ R.slots ∧ P a D fV fC b A z a₁ A₁.U) (fun A₁ _ v₁ B₁ => E a D fV fC A v₁ A₁.U B₁.U ∧ B₁.locs = A₁.locs ++ [⟨a, fC.slot⟩, ⟨a, fV.slot⟩] ∧ B₁.cells = A₁.cells + 1 ∧ B₁.slots = A₁.slots + A.slots.size) :=
  (law l a D fV fC b A z).pays htab hfr (by omega)
end New1
end StrChars
namespace StrChars.Road
open Jvm Sem ClassFile Op Lib Jvm.Stand Jvm.Free Jvm.Free.XT
open Jvm.Lib.Cold (StaticIs)
abbrev ST : String := "java/lang/String"
/-- every table word that New1's law asks, flat -/
abbrev words : List Jvm.Cond := [.code New1.yN New1.yB 2 none, .initialized ST, .methodLink ST 27 New4.yN, .instanceMethod New4.yN,
  .code New4.yN New4.yB 6 none, .fieldLink ST 38 ST "COMPACT_STRINGS" "Z", .laysFinal ST ST "value" "[B", .fieldLink ST 9 ST "value" "[B", .laysFinal ST ST "coder" "B", .fieldLink ST 15 ST "coder" "B",
  .methodLink ST 1 Lib.objectInit, .instanceMethod Lib.objectInit, .code Lib.objectInit ⟨#[0xb1]⟩ 1 none, .methodLink ST 177 Cmp3.yN, .static Cmp3.yN, .methodLink ST 47 CodL.yN, .static CodL.yN,
  .code Cmp3.yN Cmp3.yB 6 (some (.array .byte)), .initialized U16, .arrayClass .byte, .methodLink U16 115 Cmp5.yN, .static Cmp5.yN, .code Cmp5.yN Cmp5.yB 7 (some .int), .code CodL.yN CodL.yB 2 (some .byte)]
theorem tab_of {a : Array Value} {s : State} (h : ∀ w ∈ words, w.before a s = true) : New1.tab.before a s = true := by
  have h5 : Cmp5.tab.before a s = true := unparts (wk h (.code Cmp5.yN Cmp5.yB 7 (some .int))) (wks h (.initialized Cmp5.yN.cls :: Cmp5.site))
  have hc : CodL.tab.before a s = true := unparts (wk h (.code CodL.yN CodL.yB 2 (some .byte))) (wks h (.initialized CodL.yN.cls :: CodL.site))
  have q5 : ∀ w ∈ Cmp5.tab :: words, w.before a s = true := fun w hw => (List.mem_cons.mp hw).elim (fun e => e ▸ h5) (h w)
  have h3 : Cmp3.tab.before a s = true := unparts (wk q5 (.code Cmp3.yN Cmp3.yB 6 (some (.array .byte)))) (wks q5 (.initialized Cmp3.yN.cls :: Cmp3.site))
  have q3 : ∀ w ∈ Cmp3.tab :: CodL.tab :: words, w.before a s = true := fun w hw => (List.mem_cons.mp hw).elim (fun e => e ▸ h3) fun hw => (List.mem_cons.mp hw).elim (fun e => e ▸ hc) (h w)
  have h4 : New4.tab.before a s = true := unparts (wk q3 (.code New4.yN New4.yB 6 none)) (wks q3 (.initialized New4.yN.cls :: New4.site))
  have q4 : ∀ w ∈ New4.tab :: words, w.before a s = true := fun w hw => (List.mem_cons.mp hw).elim (fun e => e ▸ h4) (h w)
  exact unparts (wk q4 (.code New1.yN New1.yB 2 none)) (wks q4 (.initialized New1.yN.cls :: New1.site))
/-- the words ride from the start Z to the walk's own state -/
theorem moved {Z s : State} {a0 args : Array Value} (hZ : Z.Warmed39 s.vm) (hw : ∀ d ∈ words, d.before a0 Z = true) : ∀ d ∈ words, d.before args s = true := fun d hd => by
  have q := hw d hd
  have t : ∀ d ∈ words, d = .arrayClass .byte ∨ (d.onTables && d.keepsFace) = true := by decide +kernel
  rcases t d hd with rfl | t
  · exact RoadKit.mvA hZ q
  · exact RoadKit.mv hZ q t
/-- WHAT COMES BACK, over the tables of the start Z: h the heap at the call, h' behind it -/
def Q (Z : State) (x : Addr) (A : Cell) (h : Heap) (v : Option Value) (h' : Heap) (L : List Loc) : Prop := v = none ∧ (∀ y ∈ L, y.base = x) ∧ RoadKit.Keep h h' [x] ∧ h'.size = h.size + 1 ∧ RoadKit.Exa Z h' x ST ∧ RoadKit.Fld Z h' x ST "value" "[B" (.ref h.size) ∧ RoadKit.Fld Z h' x ST "coder" "B" (.int 0) ∧
  (∃ V : Cell, RoadKit.Arr Z h' h.size V .byte ∧ V.vm = .none ∧ Z.vm.findClass "[B" = some V.cls ∧ V.slots.size = A.slots.size ∧ ∀ j, j < A.slots.size → V.slots[j]? = some (.int (lo8 (cv A j)))) ∧
  ∀ (O n d : String) (w : Value), RoadKit.Fld Z h x O n d w → RoadKit.slotOf Z O n d ≠ RoadKit.slotOf Z ST "value" "[B" → RoadKit.slotOf Z O n d ≠ RoadKit.slotOf Z ST "coder" "B" → RoadKit.Fld Z h' x O n d w
/-- **new String(chars) AT A CALL, IN THE ROAD'S FORM**: for specialBack behind newO: x the fresh String, b the char[] with the cell A -/
theorem back {p : Program} {l : Launch} {e : Env} {R : Room} {s : State} {args : Array Value} {below : List Frame} {len W : Nat} {Z : State} {a0 : Array Value} {h : Heap} (hZ : Z.Warmed39 s.vm) (hw : ∀ d ∈ words, d.before a0 Z = true) {kI : Nat} (wi : (Jvm.Cond.instantiable ST kI).before a0 Z = true)
    {x b : Addr} {A : Cell} {z : Int32} {v0 c0 : Value} (E : RoadKit.Exa Z h x ST) (V : RoadKit.Fld Z h x ST "value" "[B" v0) (C : RoadKit.Fld Z h x ST "coder" "B" c0) (K : RoadKit.Arr Z h b A .char) (hty : Typed .char A) (S : RoadKit.Sta Z h ST "COMPACT_STRINGS" "Z" (.int z)) (hz : ¬ z = 0)
    (l0 : 0 < A.slots.size) (l2 : A.slots.size ≤ 536870912) (hp : ∀ i, i < A.slots.size → ¬ 255 < cv A i) (hfr : 4 ≤ R.frames) (hlo : W + 65 ≤ R.locals) :
    Back l R p e below s args New1.yN len W (fun P a => a = #[.ref x, .ref b] ∧ P.U.heap = h ∧ P.cells + 1 ≤ R.cells ∧ P.slots + A.slots.size ≤ R.slots)
      (fun P _ v B => ∃ L, Q Z x A h v B.U.heap L ∧ B.locs = P.locs ++ L ∧ B.cells = P.cells + 1 ∧ B.slots = P.slots + A.slots.size) := by
  intro m meth c P g ig mk a X hg hsize hdg hW hn hp'
  obtain ⟨rfl, rfl, r1, r2⟩ := hp'
  have al : Z.vm.Alike P.U.vm := hZ.alike.trans X.warmed.alike
  obtain ⟨D, cfV, kV, iV, fV, hD, gV, stV, knV, obV, asV, slV⟩ := id V
  obtain ⟨D', cfC, kC, iC, fC, hD', gC, stC, -, -, asC, slC⟩ := id C
  cases hD.symm.trans hD'
  obtain ⟨D2, kD, e1, e2, e3, e4, e5⟩ := id E
  cases hD.symm.trans e1
  obtain ⟨c2, k2, i1, i2, i3, -⟩ := Cond.instantiable_spec wi
  cases e2.symm.trans i1
  cases e3.symm.trans i2
  obtain ⟨kU, u1, u2⟩ := al.2.2 _ _ e3
  have hB : Blank ST x D P.U := ⟨hD, ⟨knV, fun q hq => by rw [hq] at obV; cases obV⟩, by rw [al.findClass]; exact e2, kU, u1, by rw [u2]; exact i3, by rw [u2]; exact e5 i3⟩
  have F1 : Found ST "value" "[B" fV P.U := ⟨SBG.found_only al ⟨cfV, kV, iV, gV⟩, stV⟩
  have F2 : Found ST "coder" "B" fC P.U := ⟨SBG.found_only al ⟨cfC, kC, iC, gC⟩, stC⟩
  have hA : Ch b A P.U := ⟨⟨K.1, State.isArrayOf_alike al K.2.1, K.2.2, by omega⟩, hty⟩
  have hS : StaticIs P.U ST "COMPACT_STRINGS" "Z" (.int z) := by
    obtain ⟨cfS, iS, kS, fS, st, cS, t1, t2, t3, t4, t5, t6, t7⟩ := S
    exact StaticIs.there (s := { Z with heap := P.U.heap }) ⟨cfS, iS, kS, fS, st, cS, t1, t2, t3, t4, t5, (fun q => by rw [q] at t6; cases t6), t7⟩ al rfl
  obtain ⟨v, B, X', ⟨⟨hv, E', V', q1, q2, q3, q4, q5, q6, q7, q8, q9, q10, q11⟩, hl, hc, hs⟩, st⟩ := New1.pays x D fV fC b A z (tab_of (moved hZ hw)) hfr hlo m meth c P g ig mk _ X hg hsize hdg hW hn ⟨r1, r2, rfl, hB, F1, F2, hA, hS, hz, l0, l2, hp⟩
  have al' : Z.vm.Alike B.U.vm := hZ.alike.trans X'.warmed.alike
  have hsz : E'.slots.size = D.slots.size := by
    obtain ⟨-, -, -, kB, w1, w2, w3⟩ := q1
    obtain ⟨kB', y1, y2⟩ := al'.2.2 _ _ e3
    rw [q2.2.1] at w1
    cases w1.symm.trans y1
    rw [w3, e5 i3, y2]
  refine ⟨v, B, X', ⟨_, ⟨hv, ?_, ⟨by omega, fun y cy hy hn' => q10 y cy (by simpa using hn') hy, fun y cy hy => ?_⟩, q11, ⟨E', _, q1.1, by rw [q2.2.1]; exact e2, by rw [q2.2.1]; exact e3, by rw [q2.1]; exact obV, fun _ => by rw [hsz]; exact e5 i3⟩,
    ⟨E', cfV, kV, iV, fV, q1.1, gV, stV, by rw [q2.1]; exact knV, by rw [q2.1]; exact obV, by rw [q2.2.1]; exact asV, q3⟩, ⟨E', cfC, kC, iC, fC, q1.1, gC, stC, by rw [q2.1]; exact knV, by rw [q2.1]; exact obV, by rw [q2.2.1]; exact asC, q4⟩,
    ⟨V', ⟨q5.1, State.isArrayOf_alike al'.symm q5.2.1, q5.2.2.1⟩, q6, by rw [← al'.findClass]; exact q7, q8, fun j hj => by have := q9 j hj; rwa [Nat.zero_add] at this⟩, fun O n d w F n1 n2 => ?_⟩, hl, hc, hs⟩, st⟩
  · intro y hy
    simp only [List.mem_cons, List.not_mem_nil, or_false] at hy
    rcases hy with rfl | rfl <;> rfl
  · by_cases q : y = x
    · subst q
      cases hD.symm.trans hy
      exact ⟨E', q1.1, q2.2.1, q2.1, hsz⟩
    · exact ⟨cy, q10 y cy q hy, rfl, rfl, rfl⟩
  · obtain ⟨D3, cf, k, i, f, g1, g2, g3, g4, g5, g6, g7⟩ := F
    cases hD.symm.trans g1
    simp only [RoadKit.slotOf, g2, gV, gC, Option.map_some, Option.getD_some] at n1 n2
    exact ⟨E', cf, k, i, f, q1.1, g2, g3, by rw [q2.1]; exact g4, by rw [q2.1]; exact g5, by rw [q2.2.1]; exact g6, by rw [q2.2.2 f.slot (by simp [n1, n2])]; exact g7⟩
end StrChars.Road
namespace StrChars.Road
open Jvm Sem ClassFile Op Lib Jvm.Stand Jvm.Free Jvm.Free.XT
/-- WHAT COMES BACK, the byte[] as a list of values -/
def QA (Z : State) (x : Addr) (zn : Int32) (cs : List Int32) (h : Heap) (v : Option Value) (h' : Heap) (L : List Loc) : Prop := v = none ∧ (∀ y ∈ L, y.base = x) ∧ RoadKit.Keep h h' [x] ∧ h'.size = h.size + 1 ∧ RoadKit.Exa Z h' x ST ∧ RoadKit.Fld Z h' x ST "value" "[B" (.ref h.size) ∧ RoadKit.Fld Z h' x ST "coder" "B" (.int 0) ∧
  (∃ kb, Z.vm.findClass "[B" = some kb ∧ RoadKit.Arv Z h' h.size kb .byte zn (cs.map fun c => .int (lo8 c)) (.int 0)) ∧
  ∀ (O n d : String) (w : Value), RoadKit.Fld Z h x O n d w → RoadKit.slotOf Z O n d ≠ RoadKit.slotOf Z ST "value" "[B" → RoadKit.slotOf Z O n d ≠ RoadKit.slotOf Z ST "coder" "B" → RoadKit.Fld Z h' x O n d w
/-- **new String(chars) AT A CALL, THE ARRAYS AS LISTS**: the char[] at b holds cs, not empty, no char above 255 -/
theorem backArv {p : Program} {l : Launch} {e : Env} {R : Room} {s : State} {args : Array Value} {below : List Frame} {len W : Nat} {Z : State} {a0 : Array Value} {h : Heap} (hZ : Z.Warmed39 s.vm) (hw : ∀ d ∈ words, d.before a0 Z = true) {kI : Nat} (wi : (Jvm.Cond.instantiable ST kI).before a0 Z = true)
    {x b : Addr} {k : ClassId} {zn z : Int32} {cs : List Int32} {dv v0 c0 : Value} (E : RoadKit.Exa Z h x ST) (V : RoadKit.Fld Z h x ST "value" "[B" v0) (C : RoadKit.Fld Z h x ST "coder" "B" c0) (K : RoadKit.Arv Z h b k .char zn (cs.map Value.int) dv) (S : RoadKit.Sta Z h ST "COMPACT_STRINGS" "Z" (.int z)) (hz : ¬ z = 0)
    (hlen : zn.toNatClampNeg = cs.length) (h0 : 0 < cs.length) (hbig : cs.length ≤ 536870912) (hall : ∀ c ∈ cs, ¬ 255 < c) (hfr : 4 ≤ R.frames) (hlo : W + 65 ≤ R.locals) :
    Back l R p e below s args New1.yN len W (fun P a => a = #[.ref x, .ref b] ∧ P.U.heap = h ∧ P.cells + 1 ≤ R.cells ∧ P.slots + cs.length ≤ R.slots)
      (fun P _ v B => ∃ L, QA Z x zn cs h v B.U.heap L ∧ B.locs = P.locs ++ L ∧ B.cells = P.cells + 1 ∧ B.slots = P.slots + cs.length) := by
  obtain ⟨A, K1, K2, K3, K4, K5, K6⟩ := K
  have e : A.slots.size = cs.length := K3.trans hlen
  have hat : ∀ (i : Nat) (hi : i < cs.length), A.slots[i]? = some (.int cs[i]) := fun i hi => by rw [K5 i (by omega)]; simp [List.getD_eq_getElem?_getD, hi]
  have hcv : ∀ (i : Nat) (hi : i < cs.length), cv A i = cs[i] := fun i hi => by unfold cv; rw [hat i hi]
  have hty : Typed .char A := fun i v hv => by
    have hi : i < A.slots.size := (Array.getElem?_eq_some_iff.mp hv).1
    have q := K5 i hi
    rw [hv] at q
    rw [Option.some.inj q]
    exact K6 i hi
  refine Back.mono (back hZ hw wi E V C K1 hty S hz (by omega) (by omega) (fun i hi => by rw [hcv i (by omega)]; exact hall _ (List.getElem_mem _)) hfr hlo) (fun P a hp => ⟨hp.1, hp.2.1, hp.2.2.1, by rw [e]; exact hp.2.2.2⟩) (fun P a v B hp hq => ?_)
  obtain ⟨L, ⟨q1, q2, q3, q4, q5, q6, q7, ⟨V', v1, v2, v3, v4, v5⟩, q9⟩, hl, hc, hs⟩ := hq
  refine ⟨L, ⟨q1, q2, q3, q4, q5, q6, q7, ⟨V'.cls, v3, V', v1, rfl, by rw [v4, e, hlen], K4, fun i hi => ?_, fun i hi => ?_⟩, q9⟩, hl, hc, by rw [hs, e]⟩
  · have hi' : i < cs.length := by omega
    rw [v5 i (by omega), hcv i hi']; simp [List.getD_eq_getElem?_getD, hi']
  · have hi' : i < cs.length := by omega
    simp only [List.getD_eq_getElem?_getD, List.getElem?_map, List.getElem?_eq_getElem hi', Option.map_some, Option.getD_some]
    exact fits_lo8 _
end StrChars.Road
namespace StrChars.Road
open Jvm Sem ClassFile Op Lib Jvm.Stand Jvm.Free Jvm.Free.XT
/-- WHAT COMES BACK, in the writer's own shape -/
def QV (Z : State) (x : Addr) (N : Int32) (bs : List Int32) (h : Heap) (n0 : Nat) (v : Option Value) (h' : Heap) (L : List Loc) : Prop := v = none ∧ RoadKit.Fr n0 L ∧ RoadKit.Keep h h' [x] ∧ RoadKit.Exa Z h' x ST ∧ RoadKit.Fld Z h' x ST "coder" "B" (.int 0) ∧
  ∃ (t : Addr) (kb : ClassId), n0 ≤ t ∧ h.size ≤ t ∧ ¬ t = x ∧ RoadKit.Fld Z h' x ST "value" "[B" (.ref t) ∧ RoadKit.Arv Z h' t kb .byte N (bs.map Value.int) (.int 0)
/-- **new String(chars) AT A CALL, FOR THE WRITER**: a char[] of n known ints, each 0 to 255 -/
theorem backV {p : Program} {l : Launch} {e : Env} {R : Room} {s : State} {args : Array Value} {below : List Frame} {len W : Nat} {Z : State} {a0 : Array Value} {h : Heap} (hZ : Z.Warmed39 s.vm) (hw : ∀ d ∈ words, d.before a0 Z = true) {kI : Nat} (wi : (Jvm.Cond.instantiable ST kI).before a0 Z = true)
    {x b : Addr} {kC : ClassId} {cs bs : List Int32} {d v0 c0 : Value} {z N : Int32} {n n0 : Nat} (hx0 : n0 ≤ x) (hh0 : n0 ≤ h.size) (E : RoadKit.Exa Z h x ST) (V : RoadKit.Fld Z h x ST "value" "[B" v0) (C : RoadKit.Fld Z h x ST "coder" "B" c0) (K : RoadKit.Arv Z h b kC .char N (cs.map Value.int) d) (S : RoadKit.Sta Z h ST "COMPACT_STRINGS" "Z" (.int z)) (hz : ¬ z = 0)
    (hn : cs.length = n) (hN : N = Int32.ofNat n) (l0 : 0 < n) (l2 : n ≤ 4000) (hp : ∀ c ∈ cs, ¬ c < 0 ∧ ¬ (255 : Int32) < c) (hb : bs = cs.map (fun c => c.toInt8.toInt32)) (hfr : 4 ≤ R.frames) (hlo : W + 65 ≤ R.locals) :
    Back l R p e below s args (⟨"java/lang/String", "<init>", "([C)V"⟩ : MethodName) len W (fun P a => a = #[.ref x, .ref b] ∧ P.U.heap = h ∧ P.cells + 1 ≤ R.cells ∧ P.slots + n ≤ R.slots)
      (fun P _ v B => ∃ L, QV Z x N bs h n0 v B.U.heap L ∧ B.locs = P.locs ++ L ∧ B.cells = P.cells + 1 ∧ B.slots = P.slots + n) := by
  subst hn hN hb
  refine Back.mono (backArv hZ hw wi E V C K S hz (n32 (by omega)) l0 (by omega) (fun c hc => (hp c hc).2) hfr hlo) (fun P a hp => hp) (fun P a v B hp hq => ?_)
  obtain ⟨L, ⟨q1, q2, q3, q4, q5, q6, q7, ⟨kb, v1, v2⟩, q9⟩, hl, hc, hs⟩ := hq
  exact ⟨L, ⟨q1, fun y hy => by rw [q2 y hy]; exact hx0, q3, q5, q7, h.size, kb, hh0, Nat.le_refl _, Nat.ne_of_gt E.lt, q6, by rw [List.map_map]; exact v2⟩, hl, hc, hs⟩
end StrChars.Road
namespace StrChars
open Jvm Sem ClassFile Op Lib Jvm.Stand Jvm.Free.XT Jvm.Free.ALB Jvm.Free.JM Jvm.Free
open Jvm.Lib.Cold (StaticIs)
def hi8 (x : Int32) : Int32 := lo8 (x >>> ((8 : Int32) &&& 31))
end StrChars
namespace StrChars.Road
open Jvm Sem ClassFile Op Lib Jvm.Stand Jvm.Free Jvm.Free.XT
open Jvm.Lib.Cold (StaticIs)
/-- the bytes of the chars cs, low before high -/
def wideBytes : List Int32 → List Value
  | [] => []
  | c :: cs => .int (lo8 c) :: .int (hi8 c) :: wideBytes cs
/-- an array of N2 bytes vs codes the chars cs by the coder cd -/
def CodA (cs : List Int32) (cd N2 : Int32) (vs : List Value) : Prop := (cd = 0 ∧ N2 = Int32.ofNat cs.length ∧ vs = (cs.map fun c => Value.int (lo8 c)) ∧ ∀ c ∈ cs, ¬ 255 < c) ∨ (cd = 1 ∧ N2 = Int32.ofNat (2 * cs.length) ∧ vs = wideBytes cs ∧ ∃ c ∈ cs, 255 < c)
end StrChars.Road
namespace StrChars.Road
open Jvm Sem ClassFile Op Lib Jvm.Stand Jvm.Free Jvm.Free.XT
open Jvm.Lib.Cold (StaticIs)
/-- what backV says of its String, as the contracts of this text ask it: cs's low bytes, coder 0 -/
theorem codOf {cs : List Int32} {n : Nat} (hn : cs.length = n) (hb : ∀ c ∈ cs, ¬ 255 < c) : CodA cs 0 (Int32.ofNat n) ((cs.map lo8).map Value.int) := Or.inl ⟨rfl, by rw [hn], by simp [List.map_map, Function.comp_def], hb⟩
end StrChars.Road
end Jvm.Pilot.@@N@@

namespace Jvm.Pilot.@@N@@
open Jvm Jvm.ClassFile Sem Op Lib Jvm.Free Jvm.Stand Jvm.LawKit Jvm.RoadKit Bundle Jvm.Pilot.@@N@@.Jvm.D

theorem own_g {Z : State} {a0 : Array Value} (hw : ∀ d ∈ tables_1, d.before a0 Z = true) (i : Nat) {d : Jvm.Cond} (h : tables_1[i]? = some d) : d.before a0 Z = true := hw _ (List.mem_of_getElem? h)
/-- from the state T the run comes to an end that F takes -/
def own_Ends (p : Program) (e : Env) (below : List Frame) (F : Outcome → State → Prop) (T : State) : Prop :=
  ∃ s₂ o, Steps p.tables e below T s₂ ∧ s₂.status = .running ∧ Ended s₂ below o ∧ F o s₂
def own_Fin (s : State) (Q : Option Value → Heap → List Loc → Prop) (C S : Nat) (o : Outcome) (U : State) : Prop :=
  ∃ v L, o = .returned v ∧ Q v U.heap L ∧ FrameEnd s o U L C S
theorem own_Sta_keep {Z : State} {h h' : Heap} {C n d : String} {v : Value} {ws : List Addr} (F : Sta Z h C n d v) (K : Keep h h' ws) (q : ∀ x ∈ ws, ∀ c : Cell, h[x]? = some c → c.vm.isStatics = false) : Sta Z h' C n d v := by
  obtain ⟨cf, i, k, f, st, cell, h1, h2, h3, h4, h5, h6, h7⟩ := F
  exact ⟨cf, i, k, f, st, cell, h1, h2, h3, h4, K.2.1 st cell h5 (fun m => by rw [q st m cell h5] at h6; cases h6), h6, h7⟩
theorem own_ns_exa {Z : State} {h : Heap} {a : Addr} {C : String} (F : Exa Z h a C) : ∀ c : Cell, h[a]? = some c → c.vm.isStatics = false := fun c hc => by
  obtain ⟨cell, k, h1, h2, h3, h4, h5⟩ := F
  cases h1.symm.trans hc; exact h4
theorem own_ns_arv {Z : State} {h : Heap} {a : Addr} {k : ClassId} {ty : FieldType} {n : Int32} {vs : List Value} {d : Value} (F : Arv Z h a k ty n vs d) : ∀ c : Cell, h[a]? = some c → c.vm.isStatics = false := fun c hc => by
  obtain ⟨cell, A, r⟩ := F
  cases A.1.symm.trans hc; exact A.plain
section OwnSteps
variable {p : Program} {l : Launch} {e : Env} {R : Room} {s : State} {m : MethodId} {args : Array Value} {below : List Frame} {meth : Method} {c : Code} {T T' : State} {locs : List Loc} {cells slots cells' slots' : Nat} {F : Outcome → State → Prop}
theorem own_step (h : ∀ target, Steps p.tables e below T' target → Steps p.tables e below T target) (k : own_Ends p e below F T') : own_Ends p e below F T := by
  obtain ⟨s₂, o, h1, h2⟩ := k
  exact ⟨s₂, o, h _ h1, h2⟩
theorem own_trans (h : Steps p.tables e below T T') (k : own_Ends p e below F T') : own_Ends p e below F T := by
  obtain ⟨s₂, o, h1, h2⟩ := k
  exact ⟨s₂, o, h.trans h1, h2⟩
theorem own_mono (X : Stand p l e R s m args below meth c T locs cells slots) (h1 : cells ≤ cells') (h2 : slots ≤ slots') : Stand p l e R s m args below meth c T locs cells' slots' :=
  { X with same := X.same.mono h1 h2 }
theorem own_ret {Q : Option Value → Heap → List Loc → Prop} {C S : Nat} {g : JFrame} (X : Stand p l e R s m args below meth c T locs cells slots) {v : Option Value} (hv : meth.sig.returnType = none → v = none) (hlocks : meth.locks = false)
    (st : ∀ fs, (∀ (f : JFrame) (acts : List Action), f.method = m → f.locked = none → f.entered = [] → (doReturn e (T.setTop f) acts v).1 = T.setFrames fs) → Steps p.tables e below (T.setTop g) (T.setFrames fs))
    (h1 : cells ≤ C) (h2 : slots ≤ S) (hQ : Q v T.heap locs) : own_Ends p e below (own_Fin s Q C S) (T.setTop g) := by
  obtain ⟨fs, hr, hrun, hended, hW, hsame⟩ := X.leave (v := v) hv hlocks
  exact ⟨_, _, st fs hr, hrun, hended, _, _, rfl, hQ, ⟨_, rfl⟩, hW, hsame.mono h1 h2⟩
def own_FinW (s : State) (Q : Option Value → Heap → List Loc → Prop) (C S : Nat) (o : Outcome) (U : State) : Prop :=
  ∃ v L, o = .returned v ∧ Q v U.heap L ∧ ReturnedEndW s o U L C S
theorem own_retW {vm : Vm} {k : Nat} {Q : Option Value → Heap → List Loc → Prop} {C S : Nat} {g : JFrame} (X : Stand p l e R (s.setVm vm) m args below meth c T locs cells slots) (hS : s.Since vm k) (hk : k ≤ T.heap.size) {v : Option Value} (hv : meth.sig.returnType = none → v = none) (hlocks : meth.locks = false)
    (st : ∀ fs, (∀ (f : JFrame) (acts : List Action), f.method = m → f.locked = none → f.entered = [] → (doReturn e (T.setTop f) acts v).1 = T.setFrames fs) → Steps p.tables e below (T.setTop g) (T.setFrames fs))
    (h1 : cells ≤ C) (h2 : slots ≤ S) (hQ : Q v T.heap locs) : own_Ends p e below (own_FinW s Q C S) (T.setTop g) := by
  obtain ⟨fs, hr, hrun, hended, a, b, c', d'⟩ := X.leaveW hS hk (v := v) hv hlocks
  exact ⟨_, _, st fs hr, hrun, hended, _, _, rfl, hQ, a, b, c', d'.mono h1 h2⟩
theorem own_warm {Z : State} {vm0 vm1 : Vm} {k : Nat} (hZ : Z.Warmed39 vm0) (hS : (s.setVm vm0).Since vm1 k) : Z.Warmed39 vm1 := State.Warmed39.trans (t := s.setVm vm0) hZ hS.1
theorem own_find {vm0 vm1 : Vm} {k : Nat} {own : String} {c0 : ClassId} (h : vm0.findClass own = some c0) (hS : (s.setVm vm0).Since vm1 k) : vm1.findClass own = some c0 := by
  rw [hS.1.alike.findClass]; exact h
def own_FinH (Z : State) (EL : List (String × Nat)) (s : State) (Q : Option Value → Heap → List Loc → Prop) (C S : Nat) (o : Outcome) (U : State) : Prop :=
  ∃ v L, o = .returned v ∧ Q v U.heap L ∧ CHr Z EL s.vm s.heap U.vm U.heap ∧ ReturnedEndW s o U L C S
theorem own_retH {Z : State} {a0 : Array Value} {EL : List (String × Nat)} {vm : Vm} {k : Nat} {h0 h : Heap} {Q : Option Value → Heap → List Loc → Prop} {C S : Nat} {g : JFrame} (X : Stand p l e R (s.setVm vm) m args below meth c T locs cells slots) (hS : s.Since vm k) (hk : k ≤ T.heap.size) (hh : s.heap = h0) (eT : T.heap = h) (hZ : Z.Warmed39 vm) (hEL : EW Z a0 EL) (hC : CHr Z EL s.vm h0 vm h) {v : Option Value} (hv : meth.sig.returnType = none → v = none) (hlocks : meth.locks = false)
    (st : ∀ fs, (∀ (f : JFrame) (acts : List Action), f.method = m → f.locked = none → f.entered = [] → (doReturn e (T.setTop f) acts v).1 = T.setFrames fs) → Steps p.tables e below (T.setTop g) (T.setFrames fs))
    (h1 : cells ≤ C) (h2 : slots ≤ S) (hQ : Q v T.heap locs) : own_Ends p e below (own_FinH Z EL s Q C S) (T.setTop g) := by
  obtain ⟨fs, hr, hrun, hended, a, b, c', d'⟩ := X.leaveW hS hk (v := v) hv hlocks
  have q : CHr Z EL s.vm s.heap T.vm T.heap := by
    rw [hh, eT]; exact hC.trans (CHv.at X hZ hEL hC.1)
  exact ⟨_, _, st fs hr, hrun, hended, _, _, rfl, hQ, q, a, b, c', d'.mono h1 h2⟩
def own_SL (Z : State) (EL : List (String × Nat)) (vm : Vm) (h : Heap) (x : Addr) : Prop := x < h.size ∧ Safe Z EL vm h x
theorem own_SL.go {Z : State} {EL : List (String × Nat)} {vm vm1 : Vm} {h h' : Heap} {x : Addr} (F : own_SL Z EL vm h x) (A : CHr Z EL vm h vm1 h') : own_SL Z EL vm1 h' x := ⟨Nat.lt_of_lt_of_le F.1 A.2.1, A.safe F.1 F.2⟩
theorem own_SL.born {Z : State} {EL : List (String × Nat)} {vm : Vm} {h h' : Heap} {x : Addr} (H : CHv Z EL vm h) (E : Ext h h') (g : x = h.size) (lt : x < h'.size) : own_SL Z EL vm h' x := ⟨lt, Safe.ext E H (Safe.new (Nat.le_of_eq g.symm))⟩
end OwnSteps
theorem own_efold (L : List Value) (h : ∀ v ∈ L, v.category = 1) : ∀ acc : Array Slot, L.foldl (fun acc v => if v.category = 2 then (acc.push (.val v)).push .second else acc.push (.val v)) acc = acc ++ (L.map Slot.val).toArray := by
  induction L with
  | nil => intro acc; simp
  | cons v L ih =>
    intro acc
    have hv : ¬ v.category = 2 := by rw [h v (List.mem_cons_self)]; decide
    rw [List.foldl_cons, if_neg hv, ih (fun w hw => h w (List.mem_cons_of_mem _ hw))]
    simp
theorem own_efl (m : MethodId) (L : List Value) (n : Nat) (h : ∀ v ∈ L, v.category = 1) (hn : L.length = n) : entryFrame m L.toArray n = mkF m 0 (L.map Slot.val).toArray [] := by
  have e : argsToLocals L.toArray n = (L.map Slot.val).toArray := by
    simp only [argsToLocals, List.foldl_toArray, own_efold L h]
    subst hn; simp
  simp only [entryFrame, mkF, e]

/-- the String x of h spells the chars cs (each 0 to 255); it and its bytes lie below B -/
def own_Str (Z : State) (h : Heap) (B : Nat) (x : Addr) (cs : List Int32) : Prop := ∃ (t : Addr) (kb : ClassId), Exa Z h x "java/lang/String" ∧ Fld Z h x "java/lang/String" "coder" "B" (.int 0) ∧ Fld Z h x "java/lang/String" "value" "[B" (.ref t) ∧ Arv Z h t kb .byte (Int32.ofNat cs.length) ((cs.map (fun c => c.toInt8.toInt32)).map Value.int) (.int 0) ∧ (∀ c ∈ cs, ¬ c < 0 ∧ ¬ (255 : Int32) < c) ∧ x < B ∧ t < B
section OwnStr
variable {Z : State} {h h' : Heap} {B B' : Nat} {x : Addr} {cs ds : List Int32} {ws : List Addr}
theorem own_Str.exa (F : own_Str Z h B x cs) : Exa Z h x "java/lang/String" := by obtain ⟨t, kb, E, -⟩ := F; exact E
theorem own_Str.lt (F : own_Str Z h B x cs) : x < h.size := F.exa.lt
theorem own_Str.ext (F : own_Str Z h B x cs) (E : Ext h h') : own_Str Z h' B x cs := by
  obtain ⟨t, kb, f1, f2, f3, f4, f5⟩ := F
  exact ⟨t, kb, f1.ext E, f2.ext E, f3.ext E, f4.ext E, f5⟩
theorem own_Str.keep (F : own_Str Z h B x cs) (K : Keep h h' ws) (q : ∀ w ∈ ws, B ≤ w) : own_Str Z h' B x cs := by
  obtain ⟨t, kb, f1, f2, f3, f4, f5, f6, f7⟩ := F
  have n1 : x ∉ ws := fun m => absurd (q x m) (Nat.not_le.mpr f6)
  have n2 : t ∉ ws := fun m => absurd (q t m) (Nat.not_le.mpr f7)
  exact ⟨t, kb, f1.keep K, f2.keep K n1, f3.keep K n1, f4.keep K n2, f5, f6, f7⟩
theorem own_Str.keepN (F : own_Str Z h B x cs) (K : Keep h h' ws) (q : ∀ w ∈ ws, B ≤ w ∨ ∃ (C : String) (n : Nat) (a0 : Array Value), Exa Z h w C ∧ C ≠ "java/lang/String" ∧ (Jvm.Cond.instantiable C n).before a0 Z = true) : own_Str Z h' B x cs := by
  obtain ⟨t, kb, f1, f2, f3, f4, f5, f6, f7⟩ := F
  have n1 : x ∉ ws := fun m => by
    rcases q x m with g | ⟨C, n, a0, g, g2, g3⟩
    · exact absurd g (Nat.not_le.mpr f6)
    · exact g.ne f1 g2 rfl
  have n2 : t ∉ ws := fun m => by
    rcases q t m with g | ⟨C, n, a0, g, g2, g3⟩
    · exact absurd g (Nat.not_le.mpr f7)
    · exact g.neArv f4 g3 rfl
  exact ⟨t, kb, f1.keep K, f2.keep K n1, f3.keep K n1, f4.keep K n2, f5, f6, f7⟩
theorem own_Str.mono (F : own_Str Z h B x cs) (q : B ≤ B') : own_Str Z h B' x cs := by
  obtain ⟨t, kb, f1, f2, f3, f4, f5, f6, f7⟩ := F
  exact ⟨t, kb, f1, f2, f3, f4, f5, Nat.lt_of_lt_of_le f6 q, Nat.lt_of_lt_of_le f7 q⟩
theorem own_Str.top (F : own_Str Z h B x cs) : own_Str Z h h.size x cs := by
  obtain ⟨t, kb, f1, f2, f3, f4, f5, f6, f7⟩ := F
  exact ⟨t, kb, f1, f2, f3, f4, f5, f1.lt, f4.lt⟩
theorem own_Str.mk {t : Addr} {kb : ClassId} {N : Int32} {vs : List Value} (f1 : Exa Z h x "java/lang/String") (f2 : Fld Z h x "java/lang/String" "coder" "B" (.int 0)) (f3 : Fld Z h x "java/lang/String" "value" "[B" (.ref t)) (f4 : Arv Z h t kb .byte N vs (.int 0)) (e1 : N = Int32.ofNat cs.length) (e2 : vs = (cs.map (fun c => c.toInt8.toInt32)).map Value.int) (f5 : ∀ c ∈ cs, ¬ c < 0 ∧ ¬ (255 : Int32) < c) : own_Str Z h h.size x cs := by
  subst e1 e2
  exact ⟨t, kb, f1, f2, f3, f4, f5, f1.lt, f4.lt⟩
def own_eqv (cs ds : List Int32) : Int32 := if cs = ds then 1 else 0
theorem own_hi {c : Int32} (q : ¬ (255 : Int32) < c) : ¬ (65535 : Int32) < c := fun z => q (by
  rw [Int32.lt_iff_toInt_lt] at z ⊢
  have e1 : (255 : Int32).toInt = 255 := rfl
  have e2 : (65535 : Int32).toInt = 65535 := rfl
  omega)
end OwnStr

theorem own_c0 {P : Int32 → Prop} : ∀ c ∈ ([] : List Int32), P c := fun _ q => nomatch q
theorem own_cS {P : Int32 → Prop} {y : Int32} {L : List Int32} (q : P y) (r : ∀ c ∈ L, P c) : ∀ c ∈ y :: L, P c := fun c z => (List.mem_cons.mp z).elim (fun u => u ▸ q) (r c)
theorem own_rng {v : Int32} (h : 0 ≤ v.toInt ∧ v.toInt ≤ 255) : ¬ v < 0 ∧ ¬ (255 : Int32) < v := by
  have e0 : (0 : Int32).toInt = 0 := rfl
  have e1 : (255 : Int32).toInt = 255 := rfl
  rw [Int32.lt_iff_toInt_lt, Int32.lt_iff_toInt_lt, e0, e1]; omega
theorem own_rng' {v : Int32} (h : ¬ v < 0 ∧ ¬ (255 : Int32) < v) : 0 ≤ v.toInt ∧ v.toInt ≤ 255 := by
  have e0 : (0 : Int32).toInt = 0 := rfl
  have e1 : (255 : Int32).toInt = 255 := rfl
  rw [Int32.lt_iff_toInt_lt, Int32.lt_iff_toInt_lt, e0, e1] at h; omega
theorem own_c8 {v x : Int32} (e : v = (x &&& (255 : Int32)).toUInt32.toUInt16.toUInt32.toInt32) : ¬ v < 0 ∧ ¬ (255 : Int32) < v := by
  rw [e, i2c_mask]
  have h := c_and x 255 (by decide)
  have e1 : (255 : Int32).toInt = 255 := rfl
  rw [e1] at h
  exact own_rng h
theorem own_narC {v : Int32} (h : ¬ v < 0 ∧ ¬ (255 : Int32) < v) : nar .char v = v := by
  have r := own_rng' h
  have q := c_i2c v
  apply Int32.toInt_inj.mp
  show v.toUInt32.toUInt16.toUInt32.toInt32.toInt = v.toInt
  omega
theorem own_fitC {v : Int32} (h : ¬ v < 0 ∧ ¬ (255 : Int32) < v) : fits .char (.int v) = true := by rw [← own_narC h]; exact fits_nar_char v
theorem own_i2c {v : Int32} (h : ¬ v < 0 ∧ ¬ (255 : Int32) < v) : v.toUInt32.toUInt16.toUInt32.toInt32 = v := own_narC h
theorem own_nar8 (x : Int32) : nar .byte (x.toInt8.toInt32) = x.toInt8.toInt32 := by
  show (x.toInt8.toInt32).toInt8.toInt32 = x.toInt8.toInt32
  rw [Int8.toInt8_toInt32]
theorem own_no {Z : State} {a0 : Array Value} {C S K : String} {n : Nat} (w : (Jvm.Cond.superclass C S).before a0 Z = true) (w0 : (Jvm.Cond.noSuperclass S).before a0 Z = true) (wk : (Jvm.Cond.instantiable K n).before a0 Z = true) (hn : C ≠ K) (hn2 : S ≠ K) : ∃ c t, Z.vm.findClass C = some c ∧ Z.vm.findClass K = some t ∧ Z.vm.assignable c t = false := by
  obtain ⟨t, k', g1, g2, g3, g4, -⟩ := Cond.instantiable_spec wk
  obtain ⟨c0, k0, r1, r2, r3, -, -⟩ := Cond.noSuperclass_spec w0
  obtain ⟨c, h0⟩ := found_sup w
  obtain ⟨p, k, kp, h1, h2, h3, h4, h5, -, h7⟩ := Cond.superclass_spec h0 w
  cases h1.symm.trans r1
  have ne := ids_ne h0 g1 hn
  have ne2 := ids_ne r1 g1 hn2
  refine ⟨c, t, h0, g1, ?_⟩
  simp only [Bool.or_eq_false_iff] at g4
  have n3 : ∀ fuel, Z.vm.isSubclassAux fuel c t = false := fun fuel => by
    cases fuel with
    | zero => rfl
    | succ f =>
      cases f with
      | zero => simp [Vm.isSubclassAux, ne, h2, h4]
      | succ f => simp [Vm.isSubclassAux, ne, h2, h4, ne2, r2, r3]
  show Z.vm.assignableAux (255 + 1) c t = false
  simp [Vm.assignableAux, ne, h2, g2, h5, g3, g4.1, Vm.isSubclass, n3]

theorem own_catR {v : Value} (h : v.isRef = true) : Value.category v = 1 := by cases v <;> simp_all [Value.isRef, Value.category]

/-- a value that any Object[] takes -/
def own_Ob (Z : State) (h : Heap) (v : Value) : Prop := v = .null ∨ ∃ (y : Addr) (C : String) (a0 : Array Value), v = .ref y ∧ Exa Z h y C ∧ (Jvm.Cond.castable C "java/lang/Object").before a0 Z = true
theorem own_Ob.ext {Z : State} {h h' : Heap} {v : Value} (F : own_Ob Z h v) (E : Ext h h') : own_Ob Z h' v := F.imp id fun ⟨y, C, a0, q, X, w⟩ => ⟨y, C, a0, q, X.ext E, w⟩
theorem own_Ob.keep {Z : State} {h h' : Heap} {v : Value} {ws : List Addr} (F : own_Ob Z h v) (K : Keep h h' ws) : own_Ob Z h' v := F.imp id fun ⟨y, C, a0, q, X, w⟩ => ⟨y, C, a0, q, X.keep K, w⟩
theorem own_Ob.wr {Z : State} {h h' : Heap} {v w' : Value} {a : Addr} {sl : Nat} (F : own_Ob Z h v) (W : Wr h h' a sl w') : own_Ob Z h' v := F.imp id fun ⟨y, C, a0, q, X, w⟩ => ⟨y, C, a0, q, X.wr W, w⟩
theorem own_Ob.isref {Z : State} {h : Heap} {v : Value} (F : own_Ob Z h v) : v.isRef = true := by rcases F with rfl | ⟨y, C, a0, rfl, -⟩ <;> rfl
theorem own_Ob.cat {Z : State} {h : Heap} {v : Value} (F : own_Ob Z h v) : Value.category v = 1 := by rcases F with rfl | ⟨y, C, a0, rfl, -⟩ <;> rfl
theorem own_Ob.fit {Z : State} {h : Heap} {v : Value} (F : own_Ob Z h v) : fits (.object "java/lang/Object") v = true := by rcases F with rfl | ⟨y, C, a0, rfl, -⟩ <;> rfl
theorem own_Ob.sto {Z : State} {h : Heap} {v : Value} {a : Addr} {cl : Cell} {k : ClassId} {ty : FieldType} (F : own_Ob Z h v) (A : Arr Z h a cl ty) (q : cl.cls = k) (O : Ovr Z k "java/lang/Object") : Sto Z h a v := by
  rcases F with rfl | ⟨y, C, a0, rfl, X, w⟩
  · exact Or.inl rfl
  · exact Sto.ofV A q O (Ins.of_exa X w)

theorem own_len0 {Z : State} {args : Array Value} {t : Term} {a : Addr} {c : Cell} {ty : FieldType} {k : Int32} (ev : t.eval args Z none [] Z = some (.ref a)) (A : Arr Z Z.heap a c ty) (h : (Jvm.Cond.eq (Jvm.Term.length t) (Jvm.Term.int k)).value args Z none Z [] = some true) : c.slots.size < 2 ^ 31 ∧ c.slots.size.toInt32 = k := by
  have ha : Z.arrayAt? a = some c := A.fin (Vm.Alike.refl _)
  by_cases q : c.slots.size < 2 ^ 31
  · refine ⟨q, ?_⟩
    have q2 : c.slots.size < 2147483648 := q
    simpa [Cond.value, Term.eval, ev, ha, q2] using h
  · simp [Cond.value, Term.eval, ev, ha, q] at h

section OwnMir
variable {p : Program} {l : Launch} {e : Env} {R : Room} {s : State} {m : MethodId} {args : Array Value} {below : List Frame} {meth : Method} {c : Code} {T : State} {locs : List Loc} {cells slots : Nat} {Z : State} {a0 : Array Value} {h : Heap} {a : Addr}
theorem own_gc (X : Stand p l e R s m args below meth c T locs cells slots) (hx : p.tables.exec = Jvm.exec) (hZ : Z.Warmed39 s.vm) {own C : String} {index : Nat} (hown : s.vm.findClass own = some m.cls)
    (w1 : (Cond.methodLink own index ⟨"java/lang/Object", "getClass", "()Ljava/lang/Class;"⟩).before a0 Z = true) (w2 : (Cond.declares ⟨"java/lang/Object", "getClass", "()Ljava/lang/Class;"⟩).before a0 Z = true) (w4 : (Cond.selects C ⟨"java/lang/Object", "getClass", "()Ljava/lang/Class;"⟩ ⟨"java/lang/Object", "getClass", "()Ljava/lang/Class;"⟩).before a0 Z = true)
    (w5 : (Cond.instanceMethod ⟨"java/lang/Object", "getClass", "()Ljava/lang/Class;"⟩).before a0 Z = true) (w6 : (Cond.native ⟨"java/lang/Object", "getClass", "()Ljava/lang/Class;"⟩).before a0 Z = true) (eT : T.heap = h) (E : Exa Z h a C) {mr : Addr} (M : Mir Z C mr)
    {g : JFrame} (hg : g.method = m) (hsize : g.locals.size = c.maxLocals) {rest : List Value} (hs : g.stack = .ref a :: rest) (hd : decode c.code g.pc = .ok (.invokevirtual index, 3)) (hf : 1 ≤ R.frames) {W : Nat} (hW : 2 * g.monitorRoom + (rest.map fun v => v.category).sum ≤ W) (hl : W + (nativeFrameWords "java/lang/Object" "getClass" 1 + 11) ≤ R.locals) :
    ∃ T', Stand p l e R s m args below meth c T' locs cells slots ∧ T'.heap = h ∧ ∀ target, Steps p.tables e below (T'.setTop { g with pc := g.pc + 3, stack := .ref mr :: rest }) target → Steps p.tables e below (T.setTop g) target := by
  obtain ⟨cB, kB, i1, i2, i3⟩ := isOf hZ eT E
  obtain ⟨cc, kc, m1, m2, m3, -⟩ := M
  rw [hZ.alike.findClass] at i1
  cases i1.symm.trans m1
  obtain ⟨k', q, ek⟩ := hZ.alike.2.2 _ _ m2
  obtain ⟨vm', X', st⟩ := X.getClassOf hx hown (mvT hZ w1) (mvT hZ w2) (notFace_of_selects (args := #[]) (mvT hZ w4)) (mvT hZ w4) (mvT hZ w5) (mvT hZ w6) (by rw [hZ.alike.findClass]; exact m1) i3 q (by rw [ek]; exact m3) hg hsize hs hd hf (by omega)
  exact ⟨_, X', eT, st⟩
theorem own_gcI (X : Stand p l e R s m args below meth c T locs cells slots) (hx : p.tables.exec = Jvm.exec) (hZ : Z.Warmed39 s.vm) {own C : String} {index count : Nat} {xi : MethodName} (hown : s.vm.findClass own = some m.cls)
    (w1 : (Cond.methodLink own index xi).before a0 Z = true) (w2 : (Cond.declares ⟨"java/lang/Object", "getClass", "()Ljava/lang/Class;"⟩).before a0 Z = true) (w3 : (Cond.interfaceMethod xi.cls "java/lang/Object" xi.name xi.desc).before a0 Z = true) (w4 : (Cond.selects C xi ⟨"java/lang/Object", "getClass", "()Ljava/lang/Class;"⟩).before a0 Z = true)
    (w5 : (Cond.instanceMethod ⟨"java/lang/Object", "getClass", "()Ljava/lang/Class;"⟩).before a0 Z = true) (w7 : (Cond.publicMethod ⟨"java/lang/Object", "getClass", "()Ljava/lang/Class;"⟩).before a0 Z = true) (w8 : (Cond.unhidden C xi.name xi.desc).before a0 Z = true) (w9 : (Cond.castable C xi.cls).before a0 Z = true) (w6 : (Cond.native ⟨"java/lang/Object", "getClass", "()Ljava/lang/Class;"⟩).before a0 Z = true)
    (hxi : xi.cls ≠ "java/lang/invoke/MethodHandle" ∧ xi.cls ≠ "java/lang/invoke/VarHandle") (hxo : xi.cls ≠ "java/lang/Object") (hname : xi.name = "getClass") (hdesc : xi.desc = "()Ljava/lang/Class;") (eT : T.heap = h) (E : Exa Z h a C) {mr : Addr} (M : Mir Z C mr)
    {g : JFrame} (hg : g.method = m) (hsize : g.locals.size = c.maxLocals) {rest : List Value} (hs : g.stack = .ref a :: rest) (hd : decode c.code g.pc = .ok (.invokeinterface index count, 5)) (hf : 1 ≤ R.frames) {W : Nat} (hW : 2 * g.monitorRoom + (rest.map fun v => v.category).sum ≤ W) (hl : W + (nativeFrameWords "java/lang/Object" "getClass" 1 + 11) ≤ R.locals) :
    ∃ T', Stand p l e R s m args below meth c T' locs cells slots ∧ T'.heap = h ∧ ∀ target, Steps p.tables e below (T'.setTop { g with pc := g.pc + 5, stack := .ref mr :: rest }) target → Steps p.tables e below (T.setTop g) target := by
  obtain ⟨cB, kB, i1, i2, i3⟩ := isOf hZ eT E
  obtain ⟨cc, kc, m1, m2, m3, -⟩ := M
  rw [hZ.alike.findClass] at i1
  cases i1.symm.trans m1
  obtain ⟨k', q, ek⟩ := hZ.alike.2.2 _ _ m2
  obtain ⟨vm', X', st⟩ := X.getClassOfI hx hown (mvT hZ w1) (mvT hZ w2) (Jvm.Free.ULB.iface_rides hZ.alike w3) (mvT hZ w4) (mvT hZ w5) (mvT hZ w7) (mvT hZ w8) (mvT hZ w9) (mvT hZ w6) hxi hxo hname hdesc (by rw [hZ.alike.findClass]; exact m1) q i3 (by rw [ek]; exact m3) hg hsize hs hd hf (by omega)
  exact ⟨_, X', eT, st⟩
theorem own_ldcM (X : Stand p l e R s m args below meth c T locs cells slots) (hx : p.tables.exec = Jvm.exec) (hZ : Z.Warmed39 s.vm) {own C : String} {index : Nat} (hown : s.vm.findClass own = some m.cls) (w : (Cond.classLink own index C).before a0 Z = true) (eT : T.heap = h) {mr : Addr} (M : Mir Z C mr)
    {g : JFrame} (hg : g.method = m) (hd : decode c.code g.pc = .ok (.ldc index, 2)) :
    ∃ T', Stand p l e R s m args below meth c T' locs cells slots ∧ T'.heap = h ∧ ∀ target, Steps p.tables e below (T'.setTop { g with pc := g.pc + 2, stack := .ref mr :: g.stack }) target → Steps p.tables e below (T.setTop g) target := by
  obtain ⟨cc, kc, m1, m2, m3, -⟩ := M
  obtain ⟨k', q, ek⟩ := hZ.alike.2.2 _ _ m2
  have m3' : k'.mirror = some mr := by rw [ek]; exact m3
  have m1' : s.vm.findClass C = some cc := by rw [hZ.alike.findClass]; exact m1
  obtain ⟨vm', X', st⟩ := X.ldcMirror hx hown (mv hZ w) (by simp [Term.eval, m1', q, m3'] : (Term.mirror C).eval args s none [] s = some (.ref mr)) hg hd
  exact ⟨_, X', eT, st⟩
end OwnMir
/-- the box table at a: each element a box -/
def own_Bx (Z : State) (h : Heap) (a : Addr) : Prop := ∃ c : Cell, Arr Z h a c (.object "java/lang/Integer") ∧ c.slots.size = 256 ∧ ∀ j, j < 256 → ∃ b, c.slots[j]? = some (.ref b) ∧ Exa Z h b "java/lang/Integer"
theorem own_Bx.lt {Z : State} {h : Heap} {a : Addr} (F : own_Bx Z h a) : a < h.size := by obtain ⟨c, A, -⟩ := F; exact A.lt
theorem own_Bx.ext {Z : State} {h h' : Heap} {a : Addr} (F : own_Bx Z h a) (E : Ext h h') : own_Bx Z h' a := by obtain ⟨c, A, S, G⟩ := F; exact ⟨c, A.ext E, S, fun j hj => (G j hj).imp fun b q => ⟨q.1, q.2.ext E⟩⟩
theorem own_Bx.other {Z : State} {h h' : Heap} {a b : Addr} {sl : Nat} {v : Value} (F : own_Bx Z h b) (W : Wr h h' a sl v) (q : b ≠ a) : own_Bx Z h' b := by obtain ⟨c, A, S, G⟩ := F; exact ⟨c, A.other W q, S, fun j hj => (G j hj).imp fun b q => ⟨q.1, q.2.wr W⟩⟩
theorem own_Bx.keep {Z : State} {h h' : Heap} {a : Addr} {ws : List Addr} (F : own_Bx Z h a) (K : Keep h h' ws) (q : a ∉ ws) : own_Bx Z h' a := by obtain ⟨c, A, S, G⟩ := F; exact ⟨c, ⟨K.2.1 a c A.1 q, A.2⟩, S, fun j hj => (G j hj).imp fun b q => ⟨q.1, q.2.keep K⟩⟩
theorem own_bxj {x : Int32} (h1 : ¬ x < (-128 : Int32)) (h2 : ¬ (127 : Int32) < x) : ¬ (x + (128 : Int32)) < 0 ∧ (x + (128 : Int32)).toNatClampNeg < 256 := by
  rw [Int32.lt_iff_toInt_lt] at h1 h2 ⊢
  have e0 : (0 : Int32).toInt = 0 := rfl
  have e1 : (-128 : Int32).toInt = -128 := rfl
  have e2 : (127 : Int32).toInt = 127 := rfl
  have e3 : (128 : Int32).toInt = 128 := rfl
  have q := c_iadd x 128
  have r := rng32 (x + 128)
  simp only [Int32.toNatClampNeg]
  omega
theorem own_nvR {v : Value} {C : String} (h : v.isRef = true) : narrow (.object C) v = v := by rcases ref_cases h with rfl | ⟨a, rfl⟩ <;> rfl
theorem own_fvR {v : Value} {C : String} (h : v.isRef = true) : fits (.object C) v = true := by rcases ref_cases h with rfl | ⟨a, rfl⟩ <;> rfl

theorem own_m3 (x : Int32) : x &&& 3 = 0 ∨ x &&& 3 = 1 ∨ x &&& 3 = 2 ∨ x &&& 3 = 3 := by
  have h := c_mask x 3 2 (by decide) (by decide)
  have e : ∀ k : Int32, (x &&& 3).toInt = k.toInt → x &&& 3 = k := fun k q => Int32.toInt_inj.mp q
  have p : ((2 ^ 2 : Nat) : Int) = 4 := rfl
  rw [p] at h
  have h4 : x.toInt % 4 = 0 ∨ x.toInt % 4 = 1 ∨ x.toInt % 4 = 2 ∨ x.toInt % 4 = 3 := by omega
  rcases h4 with q | q | q | q <;> rw [q] at h
  · exact Or.inl (e 0 h)
  · exact Or.inr (Or.inl (e 1 h))
  · exact Or.inr (Or.inr (Or.inl (e 2 h)))
  · exact Or.inr (Or.inr (Or.inr (e 3 h)))

theorem own_m3e {v x : Int32} (e : v = x &&& (3 : Int32)) : v = 0 ∨ v = 1 ∨ v = 2 ∨ v = 3 := by rw [e]; exact own_m3 x
theorem own_Bx.start {Z : State} {a : Addr} {c : Cell} {val : Int32 → Value} (F : Bxs Z a c "java/lang/Integer" "I" (256 : Int32) val) : own_Bx Z Z.heap a := by
  obtain ⟨A, S, -, G⟩ := F
  have S' : c.slots.size = 256 := S
  refine ⟨c, A, S', fun j hj => ?_⟩
  have ej : (Int32.ofNat j).toNatClampNeg = j := by
    simp only [Int32.toNatClampNeg, Int32.toInt_ofNat_of_lt (Nat.lt_trans hj (by decide))]; rfl
  have nj : ¬ (Int32.ofNat j) < 0 := by
    rw [Int32.lt_iff_toInt_lt, Int32.toInt_ofNat_of_lt (Nat.lt_trans hj (by decide))]
    show ¬ (j : Int) < 0
    omega
  obtain ⟨b, h1, h2, -⟩ := G (Int32.ofNat j) (by rw [ej, S']; intro q; rcases q with q | q; exact nj q; omega)
  rw [ej] at h1
  exact ⟨b, h1, h2⟩

theorem d3_0 : decode jdk_22_method_1_code 0 = .ok (.aload_n 0, 1) := by decide +kernel
theorem d3_1 : decode jdk_22_method_1_code 1 = .ok (.invokespecial 1, 3) := by decide +kernel
theorem d3_4 : decode jdk_22_method_1_code 4 = .ok (.return_, 1) := by decide +kernel
theorem pn_java_util_AbstractCollection : plainName "java/util/AbstractCollection" = true := by first | (simp [plainName, overriddenIn]; done) | decide +kernel
theorem ef_rm3 (m : MethodId) (x0 : Addr) : entryFrame m #[(.ref x0)] 1 = mkF m 0 #[.val (.ref x0)] [] := by first | (simp [entryFrame, mkF, argsToLocals, Value.category, maxLocals]; done) | rfl
def Q3 (Z : State) (a : Addr) (h0 : Heap) (n0 : Nat) (v : Option Value) (h : Heap) (L : List Loc) : Prop := v = none ∧ Fr n0 L ∧ h = h0
set_option maxRecDepth 65536 in
set_option maxHeartbeats 40000000 in
theorem rm3 (l : Launch) (Z : State) (a0 : Array Value) (hw : ∀ d ∈ tables_1, d.before a0 Z = true) (ws : List Jvm.Cond) (a : Addr) (h0 : Heap) (n0 : Nat) (Z0 : n0 ≤ h0.size)  :
    MetFree l (⟨"java/util/AbstractCollection", "<init>", "()V"⟩ : MethodName) (head1 (Jvm.Cond.code (⟨"java/util/AbstractCollection", "<init>", "()V"⟩ : MethodName) jdk_22_method_1_code 1 none :: ws) ({ frames := 1, cells := 0, slots := 0, locals := 12 } : Room)) (fun ar U => ar = #[(.ref a)] ∧ Z.Warmed39 U.vm ∧ U.heap = h0) (fun _ _ _ _ _ => True) (fun _ U o U' => ∃ v L, o = .returned v ∧ Q3 Z a h0 n0 v U'.heap L ∧ FrameEnd U o U' L ({ frames := 1, cells := 0, slots := 0, locals := 12 } : Room).cells ({ frames := 1, cells := 0, slots := 0, locals := 12 } : Room).slots) := by
  refine MetFree.of_bodySF (plainFor_of_name pn_java_util_AbstractCollection) hisR ?_
  intro p e s m args below meth c s₁ Bd hml0 hP hK
  obtain ⟨rfl, hZ, hh⟩ := hP
  have hx := Bd.exec
  have hby := Bd.bytes
  have hml : c.maxLocals = 1 := hml0
  have hown : s.vm.findClass "java/util/AbstractCollection" = some m.cls := findClass_of_methodNamed Bd.named
  have hnm := (name_of_methodNamed Bd.named Bd.method).1
  have X0 : Stand p l e ({ frames := 1, cells := 0, slots := 0, locals := 12 } : Room) s m #[(.ref a)] below meth c s₁ [] 0 0 := Stand.of_body Bd
  have e0 : s₁.heap = h0 := by rw [← hh, Bd.state]; rfl
  have N0 := Fr.nil n0
  obtain ⟨F, hF⟩ : ∃ F, F = own_Fin s (Q3 Z a h0 n0) ({ frames := 1, cells := 0, slots := 0, locals := 12 } : Room).cells ({ frames := 1, cells := 0, slots := 0, locals := 12 } : Room).slots := ⟨_, rfl⟩
  show own_Ends p e below (own_Fin s (Q3 Z a h0 n0) ({ frames := 1, cells := 0, slots := 0, locals := 12 } : Room).cells ({ frames := 1, cells := 0, slots := 0, locals := 12 } : Room).slots) _
  rw [← hF, ef_rm3 m a]
  show own_Ends p e below F (s₁.setTop (mkF m 0 #[.val (.ref a)] []))
  refine own_step (fun _ k => XS.aloadN X0.here hx rfl (hb hby d3_0) rfl rfl k) ?_
  show own_Ends p e below F (s₁.setTop (mkF m 1 #[.val (.ref a)] [(.ref a)]))
  obtain ⟨T1, X1, e1, st1⟩ := initO X0 hx hZ hown (own_g hw 18 rfl) (own_g hw 19 rfl) (own_g hw 20 rfl) e0 (g := (mkF m 1 #[.val (.ref a)] [(.ref a)])) rfl (by rw [hml]; rfl) rfl (hb hby d3_1) (by decide) (W := 0) (by show 2 * 0 + _ ≤ _; exact Nat.le_of_eq rfl) (by decide)
  refine own_step st1 ?_
  show own_Ends p e below F (T1.setTop (mkF m 4 #[.val (.ref a)] []))
  rw [hF]
  exact own_ret X1 (v := none) (fun _ => rfl) Bd.notSynchronized (fun fs hr => X1.returnOut hx Bd.returns (hb hby d3_4) hr) (by decide) (by decide) (by rw [e1]; exact ⟨rfl, N0, rfl⟩)

theorem d2_0 : decode jdk_39_method_1_code 0 = .ok (.aload_n 0, 1) := by decide +kernel
theorem d2_1 : decode jdk_39_method_1_code 1 = .ok (.invokespecial 1, 3) := by decide +kernel
theorem d2_4 : decode jdk_39_method_1_code 4 = .ok (.aload_n 0, 1) := by decide +kernel
theorem d2_5 : decode jdk_39_method_1_code 5 = .ok (.iconst 0, 1) := by decide +kernel
theorem d2_6 : decode jdk_39_method_1_code 6 = .ok (.putfield 7, 3) := by decide +kernel
theorem d2_9 : decode jdk_39_method_1_code 9 = .ok (.return_, 1) := by decide +kernel
theorem pn_java_util_AbstractList : plainName "java/util/AbstractList" = true := by first | (simp [plainName, overriddenIn]; done) | decide +kernel
theorem pd__28_29V : parseMethodDescriptor "()V" = some ⟨[], none⟩ := by decide +kernel
theorem ef_rm2 (m : MethodId) (x0 : Addr) : entryFrame m #[(.ref x0)] 1 = mkF m 0 #[.val (.ref x0)] [] := by first | (simp [entryFrame, mkF, argsToLocals, Value.category, maxLocals]; done) | rfl
def Q2 (Z : State) (a : Addr) (h0 : Heap) (n0 : Nat) (v : Option Value) (h : Heap) (L : List Loc) : Prop := v = none ∧ Fr n0 L ∧ Keep h0 h [a] ∧ Exa Z h a "java/util/ArrayList" ∧ Fld Z h a "java/util/AbstractList" "modCount" "I" (.int (0 : Int32)) ∧ Fld Z h a "java/util/ArrayList" "elementData" "[Ljava/lang/Object;" .null ∧ Fld Z h a "java/util/ArrayList" "size" "I" (.int (0 : Int32))
set_option maxRecDepth 65536 in
set_option maxHeartbeats 40000000 in
theorem rm2 (l : Launch) (Z : State) (a0 : Array Value) (hw : ∀ d ∈ tables_1, d.before a0 Z = true) (ws : List Jvm.Cond) (a : Addr) (h0 : Heap) (n0 : Nat) (Z0 : n0 ≤ h0.size) (EX : Exa Z h0 a "java/util/ArrayList") (ge : n0 ≤ a) (F_modCount : Fld Z h0 a "java/util/AbstractList" "modCount" "I" (.int (0 : Int32))) (F_elementData : Fld Z h0 a "java/util/ArrayList" "elementData" "[Ljava/lang/Object;" .null) (F_size : Fld Z h0 a "java/util/ArrayList" "size" "I" (.int (0 : Int32))) :
    MetFree l (⟨"java/util/AbstractList", "<init>", "()V"⟩ : MethodName) (head1 (Jvm.Cond.code (⟨"java/util/AbstractList", "<init>", "()V"⟩ : MethodName) jdk_39_method_1_code 1 none :: ws) ({ frames := 2, cells := 0, slots := 0, locals := 24 } : Room)) (fun ar U => ar = #[(.ref a)] ∧ Z.Warmed39 U.vm ∧ U.heap = h0) (fun _ _ _ _ _ => True) (fun _ U o U' => ∃ v L, o = .returned v ∧ Q2 Z a h0 n0 v U'.heap L ∧ FrameEnd U o U' L ({ frames := 2, cells := 0, slots := 0, locals := 24 } : Room).cells ({ frames := 2, cells := 0, slots := 0, locals := 24 } : Room).slots) := by
  refine MetFree.of_bodySF (plainFor_of_name pn_java_util_AbstractList) hisR ?_
  intro p e s m args below meth c s₁ Bd hml0 hP hK
  obtain ⟨rfl, hZ, hh⟩ := hP
  have hx := Bd.exec
  have hby := Bd.bytes
  have hml : c.maxLocals = 1 := hml0
  have hown : s.vm.findClass "java/util/AbstractList" = some m.cls := findClass_of_methodNamed Bd.named
  have hnm := (name_of_methodNamed Bd.named Bd.method).1
  have X0 : Stand p l e ({ frames := 2, cells := 0, slots := 0, locals := 24 } : Room) s m #[(.ref a)] below meth c s₁ [] 0 0 := Stand.of_body Bd
  have e0 : s₁.heap = h0 := by rw [← hh, Bd.state]; rfl
  have N0 := Fr.nil n0
  obtain ⟨F, hF⟩ : ∃ F, F = own_Fin s (Q2 Z a h0 n0) ({ frames := 2, cells := 0, slots := 0, locals := 24 } : Room).cells ({ frames := 2, cells := 0, slots := 0, locals := 24 } : Room).slots := ⟨_, rfl⟩
  show own_Ends p e below (own_Fin s (Q2 Z a h0 n0) ({ frames := 2, cells := 0, slots := 0, locals := 24 } : Room).cells ({ frames := 2, cells := 0, slots := 0, locals := 24 } : Room).slots) _
  rw [← hF, ef_rm2 m a]
  show own_Ends p e below F (s₁.setTop (mkF m 0 #[.val (.ref a)] []))
  refine own_step (fun _ k => XS.aloadN X0.here hx rfl (hb hby d2_0) rfl rfl k) ?_
  show own_Ends p e below F (s₁.setTop (mkF m 1 #[.val (.ref a)] [(.ref a)]))
  obtain ⟨_, _, ⟨T1, L1, k1, n1⟩, -, X1, ⟨Lc1, hQ1, l1, y1, z1⟩, st1⟩ := X0.specialBack hx (y := (⟨"java/util/AbstractCollection", "<init>", "()V"⟩ : MethodName)) rfl hown (mvT hZ (own_g hw 12 rfl)) (mvT hZ (own_g hw 13 rfl)) (mvT hZ (own_g hw 17 rfl)) (by decide) (backOf (W := 0) (rm3 l Z a0 hw [] a h0 n0 Z0) hZ (own_g hw 17 rfl) (own_g hw 16 rfl) (by decide) (by decide)) (g := (mkF m 1 #[.val (.ref a)] [(.ref a)])) rfl (by rw [hml]; rfl) (Steps.refl _) (a := a) (argsL := []) (rest := []) (lenOf pd__28_29V rfl) rfl (by show 2 * 0 + _ ≤ _; exact Nat.le_of_eq rfl) (hb hby d2_1) (fun _ _ => ⟨rfl, e0, (by decide : 0 + 0 ≤ _), (by decide : 0 + 0 ≤ _)⟩)
  dsimp only [Pt.U, Pt.locs, Pt.cells, Pt.slots] at X1 l1 y1 z1 st1 hQ1
  subst l1 y1 z1
  obtain ⟨rfl, Nq1, eq1⟩ := hQ1
  have N1 := Fr.app N0 Nq1
  refine own_trans st1 ?_
  show own_Ends p e below F (T1.setTop (mkF m 4 #[.val (.ref a)] []))
  refine own_step (fun _ k => XS.aloadN X1.here hx rfl (hb hby d2_4) rfl rfl k) ?_
  show own_Ends p e below F (T1.setTop (mkF m 5 #[.val (.ref a)] [(.ref a)]))
  refine own_step (fun _ k => XS.iconst X1.here hx rfl (hb hby d2_5) k) ?_
  show own_Ends p e below F (T1.setTop (mkF m 6 #[.val (.ref a)] [(.int (0 : Int32)), (.ref a)]))
  obtain ⟨T2, h2, X2, e2, W2, st2⟩ := putF X1 hx hZ hown (host := "") (Or.inl (own_g hw 21 rfl)) Via.refl eq1 F_modCount EX (Or.inl (own_g hw 22 rfl)) (own_g hw 1 rfl) (ty := .int) (by decide) rfl rfl (g := (mkF m 6 #[.val (.ref a)] [(.int (0 : Int32)), (.ref a)])) rfl rfl (hb hby d2_6)
  refine own_step st2 ?_
  have F2 := Fld.same W2 F_modCount
  have N2 := Fr.snoc X2 N1 ge
  have Z2 : n0 ≤ h2.size := by rw [W2.size]; exact Z0
  have SZ2 : h0.size ≤ h2.size := by rw [W2.size]; exact (Nat.le_refl h0.size)
  show own_Ends p e below F (T2.setTop (mkF m 9 #[.val (.ref a)] []))
  rw [hF]
  exact own_ret X2 (v := none) (fun _ => rfl) Bd.notSynchronized (fun fs hr => X2.returnOut hx Bd.returns (hb hby d2_9) hr) (by decide) (by decide) (by rw [e2]; exact ⟨rfl, N2, ((Keep.wr (Keep.refl _ _) W2 (Or.inl (List.mem_of_getElem? (i := 0) rfl))) : Keep h0 h2 [a]), (EX.wr W2), F2, (Fld.other W2 F_elementData (Or.inr (slot_ne (t := (.array (.object "java/lang/Object"))) (t' := .int) (Or.inl (own_g hw 25 rfl)) (Or.inl (own_g hw 22 rfl)) (by decide) (by decide) (by decide)))), (Fld.other W2 F_size (Or.inr (slot_ne (t := .int) (t' := .int) (Or.inl (own_g hw 79 rfl)) (Or.inl (own_g hw 22 rfl)) (by decide) (by decide) (by decide))))⟩)

theorem d1_0 : decode jdk_38_method_2_code 0 = .ok (.aload_n 0, 1) := by decide +kernel
theorem d1_1 : decode jdk_38_method_2_code 1 = .ok (.invokespecial 1, 3) := by decide +kernel
theorem d1_4 : decode jdk_38_method_2_code 4 = .ok (.aload_n 0, 1) := by decide +kernel
theorem d1_5 : decode jdk_38_method_2_code 5 = .ok (.getstatic 39, 3) := by decide +kernel
theorem d1_8 : decode jdk_38_method_2_code 8 = .ok (.putfield 9, 3) := by decide +kernel
theorem d1_11 : decode jdk_38_method_2_code 11 = .ok (.return_, 1) := by decide +kernel
theorem pn_java_util_ArrayList : plainName "java/util/ArrayList" = true := by first | (simp [plainName, overriddenIn]; done) | decide +kernel
theorem ef_rm1 (m : MethodId) (x0 : Addr) : entryFrame m #[(.ref x0)] 1 = mkF m 0 #[.val (.ref x0)] [] := by first | (simp [entryFrame, mkF, argsToLocals, Value.category, maxLocals]; done) | rfl
def Q1 (Z : State) (a dd : Addr) (h0 : Heap) (n0 : Nat) (v : Option Value) (h : Heap) (L : List Loc) : Prop := v = none ∧ Fr n0 L ∧ Keep h0 h [a] ∧ Exa Z h a "java/util/ArrayList" ∧ Fld Z h a "java/util/AbstractList" "modCount" "I" (.int (0 : Int32)) ∧ Fld Z h a "java/util/ArrayList" "elementData" "[Ljava/lang/Object;" (.ref dd) ∧ Fld Z h a "java/util/ArrayList" "size" "I" (.int (0 : Int32))
set_option maxRecDepth 65536 in
set_option maxHeartbeats 40000000 in
theorem rm1 (l : Launch) (Z : State) (a0 : Array Value) (hw : ∀ d ∈ tables_1, d.before a0 Z = true) (ws : List Jvm.Cond) (a dd : Addr) (h0 : Heap) (n0 : Nat) (Z0 : n0 ≤ h0.size) (EX : Exa Z h0 a "java/util/ArrayList") (ge : n0 ≤ a) (F_modCount : Fld Z h0 a "java/util/AbstractList" "modCount" "I" (.int (0 : Int32))) (F_elementData : Fld Z h0 a "java/util/ArrayList" "elementData" "[Ljava/lang/Object;" .null) (F_size : Fld Z h0 a "java/util/ArrayList" "size" "I" (.int (0 : Int32))) (SD : Sta Z h0 "java/util/ArrayList" "DEFAULTCAPACITY_EMPTY_ELEMENTDATA" "[Ljava/lang/Object;" (.ref dd)) :
    MetFree l (⟨"java/util/ArrayList", "<init>", "()V"⟩ : MethodName) (head1 (Jvm.Cond.code (⟨"java/util/ArrayList", "<init>", "()V"⟩ : MethodName) jdk_38_method_2_code 1 none :: ws) ({ frames := 3, cells := 0, slots := 0, locals := 36 } : Room)) (fun ar U => ar = #[(.ref a)] ∧ Z.Warmed39 U.vm ∧ U.heap = h0) (fun _ _ _ _ _ => True) (fun _ U o U' => ∃ v L, o = .returned v ∧ Q1 Z a dd h0 n0 v U'.heap L ∧ FrameEnd U o U' L ({ frames := 3, cells := 0, slots := 0, locals := 36 } : Room).cells ({ frames := 3, cells := 0, slots := 0, locals := 36 } : Room).slots) := by
  refine MetFree.of_bodySF (plainFor_of_name pn_java_util_ArrayList) hisR ?_
  intro p e s m args below meth c s₁ Bd hml0 hP hK
  obtain ⟨rfl, hZ, hh⟩ := hP
  have hx := Bd.exec
  have hby := Bd.bytes
  have hml : c.maxLocals = 1 := hml0
  have hown : s.vm.findClass "java/util/ArrayList" = some m.cls := findClass_of_methodNamed Bd.named
  have hnm := (name_of_methodNamed Bd.named Bd.method).1
  have X0 : Stand p l e ({ frames := 3, cells := 0, slots := 0, locals := 36 } : Room) s m #[(.ref a)] below meth c s₁ [] 0 0 := Stand.of_body Bd
  have e0 : s₁.heap = h0 := by rw [← hh, Bd.state]; rfl
  have N0 := Fr.nil n0
  obtain ⟨F, hF⟩ : ∃ F, F = own_Fin s (Q1 Z a dd h0 n0) ({ frames := 3, cells := 0, slots := 0, locals := 36 } : Room).cells ({ frames := 3, cells := 0, slots := 0, locals := 36 } : Room).slots := ⟨_, rfl⟩
  show own_Ends p e below (own_Fin s (Q1 Z a dd h0 n0) ({ frames := 3, cells := 0, slots := 0, locals := 36 } : Room).cells ({ frames := 3, cells := 0, slots := 0, locals := 36 } : Room).slots) _
  rw [← hF, ef_rm1 m a]
  show own_Ends p e below F (s₁.setTop (mkF m 0 #[.val (.ref a)] []))
  refine own_step (fun _ k => XS.aloadN X0.here hx rfl (hb hby d1_0) rfl rfl k) ?_
  show own_Ends p e below F (s₁.setTop (mkF m 1 #[.val (.ref a)] [(.ref a)]))
  obtain ⟨_, _, ⟨T1, L1, k1, n1⟩, -, X1, ⟨Lc1, hQ1, l1, y1, z1⟩, st1⟩ := X0.specialBack hx (y := (⟨"java/util/AbstractList", "<init>", "()V"⟩ : MethodName)) rfl hown (mvT hZ (own_g hw 6 rfl)) (mvT hZ (own_g hw 7 rfl)) (mvT hZ (own_g hw 11 rfl)) (by decide) (backOf (W := 0) (rm2 l Z a0 hw [] a  h0 n0 Z0 EX ge F_modCount F_elementData F_size ) hZ (own_g hw 11 rfl) (own_g hw 10 rfl) (by decide) (by decide)) (g := (mkF m 1 #[.val (.ref a)] [(.ref a)])) rfl (by rw [hml]; rfl) (Steps.refl _) (a := a) (argsL := []) (rest := []) (lenOf pd__28_29V rfl) rfl (by show 2 * 0 + _ ≤ _; exact Nat.le_of_eq rfl) (hb hby d1_1) (fun _ _ => ⟨rfl, e0, (by decide : 0 + 0 ≤ _), (by decide : 0 + 0 ≤ _)⟩)
  dsimp only [Pt.U, Pt.locs, Pt.cells, Pt.slots] at X1 l1 y1 z1 st1 hQ1
  subst l1 y1 z1
  obtain ⟨rfl, Nq1, Kq1, fq0_1, fq1_1, fq2_1, fq3_1⟩ := hQ1
  have N1 := Fr.app N0 Nq1
  have Z1 : n0 ≤ T1.heap.size := Nat.le_trans Z0 Kq1.1
  have SZ1 : h0.size ≤ T1.heap.size := Nat.le_trans (Nat.le_refl h0.size) Kq1.1
  have S0_1 := own_Sta_keep SD Kq1 (allS (own_ns_exa EX) all0)
  refine own_trans st1 ?_
  show own_Ends p e below F (T1.setTop (mkF m 4 #[.val (.ref a)] []))
  refine own_step (fun _ k => XS.aloadN X1.here hx rfl (hb hby d1_4) rfl rfl k) ?_
  show own_Ends p e below F (T1.setTop (mkF m 5 #[.val (.ref a)] [(.ref a)]))
  obtain ⟨T2, X2, e2, st2⟩ := getS2 X1 hx hZ hown (host := "") (Or.inl (own_g hw 23 rfl)) Via.refl rfl S0_1 (g := (mkF m 5 #[.val (.ref a)] [(.ref a)])) rfl (hb hby d1_5)
  refine own_step st2 ?_
  show own_Ends p e below F (T2.setTop (mkF m 8 #[.val (.ref a)] [(.ref dd), (.ref a)]))
  obtain ⟨T3, h3, X3, e3, W3, st3⟩ := putF X2 hx hZ hown (host := "") (Or.inl (own_g hw 24 rfl)) Via.refl e2 fq2_1 fq0_1 (Or.inl (own_g hw 25 rfl)) (own_g hw 1 rfl) (ty := (.array (.object "java/lang/Object"))) (by decide) rfl rfl (g := (mkF m 8 #[.val (.ref a)] [(.ref dd), (.ref a)])) rfl rfl (hb hby d1_8)
  refine own_step st3 ?_
  have F3 := Fld.same W3 fq2_1
  have N3 := Fr.snoc X3 N1 ge
  have Z3 : n0 ≤ h3.size := by rw [W3.size]; exact Z1
  have SZ3 : h0.size ≤ h3.size := by rw [W3.size]; exact SZ1
  show own_Ends p e below F (T3.setTop (mkF m 11 #[.val (.ref a)] []))
  rw [hF]
  exact own_ret X3 (v := none) (fun _ => rfl) Bd.notSynchronized (fun fs hr => X3.returnOut hx Bd.returns (hb hby d1_11) hr) (by decide) (by decide) (by rw [e3]; exact ⟨rfl, N3, ((Keep.wr (Keep.trans (Keep.refl _ _) Kq1 (allS (Or.inl (List.mem_of_getElem? (i := 0) rfl)) all0)) W3 (Or.inl (List.mem_of_getElem? (i := 0) rfl))) : Keep h0 h3 [a]), (fq0_1.wr W3), (Fld.other W3 fq1_1 (Or.inr (slot_ne (t := .int) (t' := (.array (.object "java/lang/Object"))) (Or.inl (own_g hw 22 rfl)) (Or.inl (own_g hw 25 rfl)) (by decide) (by decide) (by decide)))), F3, (Fld.other W3 fq3_1 (Or.inr (slot_ne (t := .int) (t' := (.array (.object "java/lang/Object"))) (Or.inl (own_g hw 79 rfl)) (Or.inl (own_g hw 25 rfl)) (by decide) (by decide) (by decide))))⟩)

theorem d26_0 : decode jdk_29_method_65_code 0 = .ok (.iload_n 0, 1) := by decide +kernel
theorem d26_1 : decode jdk_29_method_65_code 1 = .ok (.iload_n 1, 1) := by decide +kernel
theorem d26_2 : decode jdk_29_method_65_code 2 = .ok (.if_icmp .lt 7, 3) := by decide +kernel
theorem d26_5 : decode jdk_29_method_65_code 5 = .ok (.iload_n 0, 1) := by decide +kernel
theorem d26_6 : decode jdk_29_method_65_code 6 = .ok (.goto 4, 3) := by decide +kernel
theorem d26_9 : decode jdk_29_method_65_code 9 = .ok (.iload_n 1, 1) := by decide +kernel
theorem d26_10 : decode jdk_29_method_65_code 10 = .ok (.ireturn, 1) := by decide +kernel
theorem ef_rm26 (m : MethodId) (x0 : Int32) (x1 : Int32) : entryFrame m #[(.int x0), (.int x1)] 2 = mkF m 0 #[.val (.int x0), .val (.int x1)] [] := by first | (simp [entryFrame, mkF, argsToLocals, Value.category, maxLocals]; done) | rfl
def Q26 (Z : State) (p1 p2 : Int32) (h0 : Heap) (n0 : Nat) (v : Option Value) (h : Heap) (L : List Loc) : Prop := v = some (.int (if p1 < p2 then p2 else p1)) ∧ Fr n0 L ∧ h = h0
set_option maxRecDepth 65536 in
set_option maxHeartbeats 40000000 in
theorem rm26 (l : Launch) (Z : State) (a0 : Array Value) (hw : ∀ d ∈ tables_1, d.before a0 Z = true) (ws : List Jvm.Cond) (p1 p2 : Int32) (h0 : Heap) (n0 : Nat) (Z0 : n0 ≤ h0.size)  :
    MetFree l (⟨"java/lang/Math", "max", "(II)I"⟩ : MethodName) (head1 (Jvm.Cond.code (⟨"java/lang/Math", "max", "(II)I"⟩ : MethodName) jdk_29_method_65_code 2 (some .int) :: ws) ({ frames := 0, cells := 0, slots := 0, locals := 0 } : Room)) (fun ar U => ar = #[(.int p1), (.int p2)] ∧ Z.Warmed39 U.vm ∧ U.heap = h0) (fun _ _ _ _ _ => True) (fun _ U o U' => ∃ v L, o = .returned v ∧ Q26 Z p1 p2 h0 n0 v U'.heap L ∧ FrameEnd U o U' L ({ frames := 0, cells := 0, slots := 0, locals := 0 } : Room).cells ({ frames := 0, cells := 0, slots := 0, locals := 0 } : Room).slots) := by
  refine MetFree.of_bodySF (Jvm.Free.JP.mathPlain rfl (by decide +kernel)) hisR ?_
  intro p e s m args below meth c s₁ Bd hml0 hP hK
  obtain ⟨rfl, hZ, hh⟩ := hP
  have hx := Bd.exec
  have hby := Bd.bytes
  have hml : c.maxLocals = 2 := hml0
  have hown : s.vm.findClass "java/lang/Math" = some m.cls := findClass_of_methodNamed Bd.named
  have hnm := (name_of_methodNamed Bd.named Bd.method).1
  have X0 : Stand p l e ({ frames := 0, cells := 0, slots := 0, locals := 0 } : Room) s m #[(.int p1), (.int p2)] below meth c s₁ [] 0 0 := Stand.of_body Bd
  have e0 : s₁.heap = h0 := by rw [← hh, Bd.state]; rfl
  have N0 := Fr.nil n0
  obtain ⟨F, hF⟩ : ∃ F, F = own_Fin s (Q26 Z p1 p2 h0 n0) ({ frames := 0, cells := 0, slots := 0, locals := 0 } : Room).cells ({ frames := 0, cells := 0, slots := 0, locals := 0 } : Room).slots := ⟨_, rfl⟩
  show own_Ends p e below (own_Fin s (Q26 Z p1 p2 h0 n0) ({ frames := 0, cells := 0, slots := 0, locals := 0 } : Room).cells ({ frames := 0, cells := 0, slots := 0, locals := 0 } : Room).slots) _
  rw [← hF, ef_rm26 m p1 p2]
  show own_Ends p e below F (s₁.setTop (mkF m 0 #[.val (.int p1), .val (.int p2)] []))
  refine own_step (fun _ k => XS.iloadN X0.here hx rfl (hb hby d26_0) rfl k) ?_
  show own_Ends p e below F (s₁.setTop (mkF m 1 #[.val (.int p1), .val (.int p2)] [(.int p1)]))
  refine own_step (fun _ k => XS.iloadN X0.here hx rfl (hb hby d26_1) rfl k) ?_
  show own_Ends p e below F (s₁.setTop (mkF m 2 #[.val (.int p1), .val (.int p2)] [(.int p2), (.int p1)]))
  by_cases c2_1 : p1 < p2
  · refine own_step (fun _ k => XS.icmpYes X0.here hx rfl (pc0 := 2) (pc' := 9) rfl (hb hby d26_2) rfl (tlt c2_1).1 (by decide) (by decide) k) ?_
    show own_Ends p e below F (s₁.setTop (mkF m 9 #[.val (.int p1), .val (.int p2)] []))
    refine own_step (fun _ k => XS.iloadN X0.here hx rfl (hb hby d26_9) rfl k) ?_
    show own_Ends p e below F (s₁.setTop (mkF m 10 #[.val (.int p1), .val (.int p2)] [(.int p2)]))
    rw [hF]
    exact own_ret X0 (v := (some (.int p2))) (fun h => by rw [Bd.returns] at h; cases h) Bd.notSynchronized (fun fs hr => own_retI X0 hx Bd.returns (hb hby d26_10) hr) (by decide) (by decide) (by rw [e0]; exact ⟨by simp only [c2_1, if_true, if_false], N0, rfl⟩)
  · refine own_step (fun _ k => XS.icmpNo X0.here hx rfl (hb hby d26_2) rfl (flt c2_1).1 k) ?_
    show own_Ends p e below F (s₁.setTop (mkF m 5 #[.val (.int p1), .val (.int p2)] []))
    refine own_step (fun _ k => XS.iloadN X0.here hx rfl (hb hby d26_5) rfl k) ?_
    show own_Ends p e below F (s₁.setTop (mkF m 6 #[.val (.int p1), .val (.int p2)] [(.int p1)]))
    refine own_step (fun _ k => XS.goto X0.here hx rfl (pc0 := 6) (pc' := 10) rfl (hb hby d26_6) (by decide) (by decide) k) ?_
    show own_Ends p e below F (s₁.setTop (mkF m 10 #[.val (.int p1), .val (.int p2)] [(.int p1)]))
    rw [hF]
    exact own_ret X0 (v := (some (.int p1))) (fun h => by rw [Bd.returns] at h; cases h) Bd.notSynchronized (fun fs hr => own_retI X0 hx Bd.returns (hb hby d26_10) hr) (by decide) (by decide) (by rw [e0]; exact ⟨by simp only [c2_1, if_true, if_false], N0, rfl⟩)

theorem d25_0 : decode jdk_38_method_6_code 0 = .ok (.aload_n 0, 1) := by decide +kernel
theorem d25_1 : decode jdk_38_method_6_code 1 = .ok (.getfield 9, 3) := by decide +kernel
theorem d25_4 : decode jdk_38_method_6_code 4 = .ok (.arraylength, 1) := by decide +kernel
theorem d25_5 : decode jdk_38_method_6_code 5 = .ok (.istore_n 2, 1) := by decide +kernel
theorem d25_6 : decode jdk_38_method_6_code 6 = .ok (.iload_n 2, 1) := by decide +kernel
theorem d25_7 : decode jdk_38_method_6_code 7 = .ok (.ifCond .gt 13, 3) := by decide +kernel
theorem d25_10 : decode jdk_38_method_6_code 10 = .ok (.aload_n 0, 1) := by decide +kernel
theorem d25_11 : decode jdk_38_method_6_code 11 = .ok (.getfield 9, 3) := by decide +kernel
theorem d25_14 : decode jdk_38_method_6_code 14 = .ok (.getstatic 39, 3) := by decide +kernel
theorem d25_17 : decode jdk_38_method_6_code 17 = .ok (.if_acmp .eq 28, 3) := by decide +kernel
theorem d25_45 : decode jdk_38_method_6_code 45 = .ok (.aload_n 0, 1) := by decide +kernel
theorem d25_46 : decode jdk_38_method_6_code 46 = .ok (.bipush 10, 2) := by decide +kernel
theorem d25_48 : decode jdk_38_method_6_code 48 = .ok (.iload_n 1, 1) := by decide +kernel
theorem d25_49 : decode jdk_38_method_6_code 49 = .ok (.invokestatic 79, 3) := by decide +kernel
theorem d25_52 : decode jdk_38_method_6_code 52 = .ok (.anewarray 7, 3) := by decide +kernel
theorem d25_55 : decode jdk_38_method_6_code 55 = .ok (.dup_x1, 1) := by decide +kernel
theorem d25_56 : decode jdk_38_method_6_code 56 = .ok (.putfield 9, 3) := by decide +kernel
theorem d25_59 : decode jdk_38_method_6_code 59 = .ok (.areturn, 1) := by decide +kernel
theorem pd__28II_29I : parseMethodDescriptor "(II)I" = some ⟨[.int, .int], some .int⟩ := by decide +kernel
theorem ef_rm25 (m : MethodId) (x0 : Addr) (x1 : Int32) : entryFrame m #[(.ref x0), (.int x1)] 4 = mkF m 0 #[.val (.ref x0), .val (.int x1), .unset, .unset] [] := by first | (simp [entryFrame, mkF, argsToLocals, Value.category, maxLocals]; done) | rfl
def Q25 (Z : State) (a dd : Addr) (kd : ClassId) (h0 : Heap) (n0 : Nat) (v : Option Value) (h : Heap) (L : List Loc) : Prop := ∃ c k, v = some (.ref c) ∧ Fr n0 L ∧ Keep h0 h [a] ∧ h0.size ≤ c ∧ Exa Z h a "java/util/ArrayList" ∧ Fld Z h a "java/util/AbstractList" "modCount" "I" (.int (1 : Int32)) ∧ Fld Z h a "java/util/ArrayList" "elementData" "[Ljava/lang/Object;" (.ref c) ∧ Fld Z h a "java/util/ArrayList" "size" "I" (.int (0 : Int32)) ∧ Arv Z h c k (.object "java/lang/Object") (10 : Int32) [.null, .null, .null, .null, .null, .null, .null, .null, .null, .null] .null ∧ Ovr Z k "java/lang/Object" ∧ Exa Z h c "[Ljava/lang/Object;"
set_option maxRecDepth 65536 in
set_option maxHeartbeats 40000000 in
theorem rm25 (l : Launch) (Z : State) (a0 : Array Value) (hw : ∀ d ∈ tables_1, d.before a0 Z = true) (ws : List Jvm.Cond) (a dd : Addr) (kd : ClassId) (h0 : Heap) (n0 : Nat) (Z0 : n0 ≤ h0.size) (EX : Exa Z h0 a "java/util/ArrayList") (ge : n0 ≤ a) (F_modCount : Fld Z h0 a "java/util/AbstractList" "modCount" "I" (.int (1 : Int32))) (F_elementData : Fld Z h0 a "java/util/ArrayList" "elementData" "[Ljava/lang/Object;" (.ref dd)) (F_size : Fld Z h0 a "java/util/ArrayList" "size" "I" (.int (0 : Int32))) (SD : Sta Z h0 "java/util/ArrayList" "DEFAULTCAPACITY_EMPTY_ELEMENTDATA" "[Ljava/lang/Object;" (.ref dd)) (VD : Arv Z h0 dd kd (.object "java/lang/Object") (0 : Int32) [] .null) :
    MetFree l (⟨"java/util/ArrayList", "grow", "(I)[Ljava/lang/Object;"⟩ : MethodName) (head1 (Jvm.Cond.code (⟨"java/util/ArrayList", "grow", "(I)[Ljava/lang/Object;"⟩ : MethodName) jdk_38_method_6_code 4 (some (.array (.object "java/lang/Object"))) :: ws) ({ frames := 1, cells := 1, slots := 10, locals := 14 } : Room)) (fun ar U => ar = #[(.ref a), (.int (1 : Int32))] ∧ Z.Warmed39 U.vm ∧ U.heap = h0) (fun _ _ _ _ _ => True) (fun _ U o U' => ∃ v L, o = .returned v ∧ Q25 Z a dd kd h0 n0 v U'.heap L ∧ FrameEnd U o U' L ({ frames := 1, cells := 1, slots := 10, locals := 14 } : Room).cells ({ frames := 1, cells := 1, slots := 10, locals := 14 } : Room).slots) := by
  refine MetFree.of_bodySF (plainFor_of_name pn_java_util_ArrayList) hisR ?_
  intro p e s m args below meth c s₁ Bd hml0 hP hK
  obtain ⟨rfl, hZ, hh⟩ := hP
  have hx := Bd.exec
  have hby := Bd.bytes
  have hml : c.maxLocals = 4 := hml0
  have hown : s.vm.findClass "java/util/ArrayList" = some m.cls := findClass_of_methodNamed Bd.named
  have hnm := (name_of_methodNamed Bd.named Bd.method).1
  have X0 : Stand p l e ({ frames := 1, cells := 1, slots := 10, locals := 14 } : Room) s m #[(.ref a), (.int (1 : Int32))] below meth c s₁ [] 0 0 := Stand.of_body Bd
  have e0 : s₁.heap = h0 := by rw [← hh, Bd.state]; rfl
  have N0 := Fr.nil n0
  obtain ⟨F, hF⟩ : ∃ F, F = own_Fin s (Q25 Z a dd kd h0 n0) ({ frames := 1, cells := 1, slots := 10, locals := 14 } : Room).cells ({ frames := 1, cells := 1, slots := 10, locals := 14 } : Room).slots := ⟨_, rfl⟩
  show own_Ends p e below (own_Fin s (Q25 Z a dd kd h0 n0) ({ frames := 1, cells := 1, slots := 10, locals := 14 } : Room).cells ({ frames := 1, cells := 1, slots := 10, locals := 14 } : Room).slots) _
  rw [← hF, ef_rm25 m a (1 : Int32)]
  show own_Ends p e below F (s₁.setTop (mkF m 0 #[.val (.ref a), .val (.int (1 : Int32)), .unset, .unset] []))
  refine own_step (fun _ k => XS.aloadN X0.here hx rfl (hb hby d25_0) rfl rfl k) ?_
  show own_Ends p e below F (s₁.setTop (mkF m 1 #[.val (.ref a), .val (.int (1 : Int32)), .unset, .unset] [(.ref a)]))
  obtain ⟨T1, X1, e1, st1⟩ := getF X0 hx hZ hown (host := "") (Or.inl (own_g hw 24 rfl)) Via.refl e0 F_elementData (g := (mkF m 1 #[.val (.ref a), .val (.int (1 : Int32)), .unset, .unset] [(.ref a)])) rfl rfl (hb hby d25_1)
  refine own_step st1 ?_
  show own_Ends p e below F (T1.setTop (mkF m 4 #[.val (.ref a), .val (.int (1 : Int32)), .unset, .unset] [(.ref dd)]))
  obtain ⟨cl2, Ar2, q2, S2, M2, H2, G2⟩ := id VD
  have al2 := X1.arraylength hx (by rw [e1]; exact Ar2.1) (State.isArrayOf_alike hZ.alike Ar2.2.1) (g := (mkF m 4 #[.val (.ref a), .val (.int (1 : Int32)), .unset, .unset] [(.ref dd)])) rfl rfl (hb hby d25_4)
  rw [len_of S2 M2] at al2
  refine own_step al2 ?_
  show own_Ends p e below F (T1.setTop (mkF m 5 #[.val (.ref a), .val (.int (1 : Int32)), .unset, .unset] [(.int (0 : Int32))]))
  refine own_step (fun _ k => XS.istoreN X1.here hx rfl (hb hby d25_5) rfl (l' := #[.val (.ref a), .val (.int (1 : Int32)), .val (.int (0 : Int32)), .unset]) rfl k) ?_
  show own_Ends p e below F (T1.setTop (mkF m 6 #[.val (.ref a), .val (.int (1 : Int32)), .val (.int (0 : Int32)), .unset] []))
  refine own_step (fun _ k => XS.iloadN X1.here hx rfl (hb hby d25_6) rfl k) ?_
  show own_Ends p e below F (T1.setTop (mkF m 7 #[.val (.ref a), .val (.int (1 : Int32)), .val (.int (0 : Int32)), .unset] [(.int (0 : Int32))]))
  refine own_step (fun _ k => XS.ifNo X1.here hx rfl (hb hby d25_7) rfl ((if0 _ _).trans (flt (by decide : ¬ ((0 : Int32) < (0 : Int32)))).2.2.1) k) ?_
  show own_Ends p e below F (T1.setTop (mkF m 10 #[.val (.ref a), .val (.int (1 : Int32)), .val (.int (0 : Int32)), .unset] []))
  refine own_step (fun _ k => XS.aloadN X1.here hx rfl (hb hby d25_10) rfl rfl k) ?_
  show own_Ends p e below F (T1.setTop (mkF m 11 #[.val (.ref a), .val (.int (1 : Int32)), .val (.int (0 : Int32)), .unset] [(.ref a)]))
  obtain ⟨T3, X3, e3, st3⟩ := getF X1 hx hZ hown (host := "") (Or.inl (own_g hw 24 rfl)) Via.refl e1 F_elementData (g := (mkF m 11 #[.val (.ref a), .val (.int (1 : Int32)), .val (.int (0 : Int32)), .unset] [(.ref a)])) rfl rfl (hb hby d25_11)
  refine own_step st3 ?_
  show own_Ends p e below F (T3.setTop (mkF m 14 #[.val (.ref a), .val (.int (1 : Int32)), .val (.int (0 : Int32)), .unset] [(.ref dd)]))
  obtain ⟨T4, X4, e4, st4⟩ := getS2 X3 hx hZ hown (host := "") (Or.inl (own_g hw 23 rfl)) Via.refl e3 SD (g := (mkF m 14 #[.val (.ref a), .val (.int (1 : Int32)), .val (.int (0 : Int32)), .unset] [(.ref dd)])) rfl (hb hby d25_14)
  refine own_step st4 ?_
  show own_Ends p e below F (T4.setTop (mkF m 17 #[.val (.ref a), .val (.int (1 : Int32)), .val (.int (0 : Int32)), .unset] [(.ref dd), (.ref dd)]))
  refine own_step (fun _ k => Jvm.RoadKit.acmp (below := below) (g := (mkF m 17 #[.val (.ref a), .val (.int (1 : Int32)), .val (.int (0 : Int32)), .unset] [(.ref dd), (.ref dd)])) X4 hx rfl rfl rfl (pc0 := 17) (pc' := 45) (same := true) rfl (hb hby d25_17) rfl (decide_eq_true rfl) (by decide) (by decide) k) ?_
  show own_Ends p e below F (T4.setTop (mkF m 45 #[.val (.ref a), .val (.int (1 : Int32)), .val (.int (0 : Int32)), .unset] []))
  refine own_step (fun _ k => XS.aloadN X4.here hx rfl (hb hby d25_45) rfl rfl k) ?_
  show own_Ends p e below F (T4.setTop (mkF m 46 #[.val (.ref a), .val (.int (1 : Int32)), .val (.int (0 : Int32)), .unset] [(.ref a)]))
  refine own_step (fun _ k => XS.bipush X4.here hx rfl (hb hby d25_46) k) ?_
  show own_Ends p e below F (T4.setTop (mkF m 48 #[.val (.ref a), .val (.int (1 : Int32)), .val (.int (0 : Int32)), .unset] [(.int (10 : Int32)), (.ref a)]))
  refine own_step (fun _ k => XS.iloadN X4.here hx rfl (hb hby d25_48) rfl k) ?_
  show own_Ends p e below F (T4.setTop (mkF m 49 #[.val (.ref a), .val (.int (1 : Int32)), .val (.int (0 : Int32)), .unset] [(.int (1 : Int32)), (.int (10 : Int32)), (.ref a)]))
  obtain ⟨_, _, ⟨T5, L5, k5, n5⟩, -, X5, ⟨Lc5, hQ5, l5, y5, z5⟩, st5⟩ := Jvm.LawKit.callS X4 hx (y := (⟨"java/lang/Math", "max", "(II)I"⟩ : MethodName)) hown (mvT hZ (own_g hw 181 rfl)) (mvT hZ (own_g hw 182 rfl)) (mvT hZ (own_g hw 98 rfl)) (mvT hZ (own_g hw 183 rfl)) (by decide) (backOf (W := 1) (rm26 l Z a0 hw [] (10 : Int32) (1 : Int32) h0 n0 Z0) hZ (own_g hw 183 rfl) (own_g hw 98 rfl) (by decide) (by decide)) (g := (mkF m 49 #[.val (.ref a), .val (.int (1 : Int32)), .val (.int (0 : Int32)), .unset] [(.int (1 : Int32)), (.int (10 : Int32)), (.ref a)])) rfl (by rw [hml]; rfl) (argsL := [(.int (10 : Int32)), (.int (1 : Int32))]) (rest := [(.ref a)]) (lenOf pd__28II_29I rfl) rfl (by show 2 * 0 + _ ≤ _; exact Nat.le_of_eq rfl) (hb hby d25_49) (fun _ _ => ⟨rfl, e4, (by decide : 0 + 0 ≤ _), (by decide : 0 + 0 ≤ _)⟩)
  dsimp only [Pt.U, Pt.locs, Pt.cells, Pt.slots] at X5 l5 y5 z5 st5 hQ5
  subst l5 y5 z5
  obtain ⟨rfl, Nq5, eq5⟩ := hQ5
  have N5 := Fr.app N0 Nq5
  refine own_step st5 ?_
  show own_Ends p e below F (T5.setTop (mkF m 52 #[.val (.ref a), .val (.int (1 : Int32)), .val (.int (0 : Int32)), .unset] [(.int (if (10 : Int32) < (1 : Int32) then (1 : Int32) else (10 : Int32))), (.ref a)]))
  rw [show (if (10 : Int32) < (1 : Int32) then (1 : Int32) else (10 : Int32)) = (10 : Int32) from (by first | rfl | decide)]
  show own_Ends p e below F (T5.setTop (mkF m 52 #[.val (.ref a), .val (.int (1 : Int32)), .val (.int (0 : Int32)), .unset] [(.int (10 : Int32)), (.ref a)]))
  obtain ⟨T6, h6, k6, X6, e6, E6, A6, EA6, O6, st6⟩ := newRE X5 hx hZ hown (own_g hw 184 rfl) (own_g hw 95 rfl) eq5 (g := (mkF m 52 #[.val (.ref a), .val (.int (1 : Int32)), .val (.int (0 : Int32)), .unset] [(.int (10 : Int32)), (.ref a)])) rfl (hb hby d25_52) rfl (by decide) (cap := 10) (by decide) (by decide) (by decide) (by decide) (ad := "[Ljava/lang/Object;") (by decide)
  obtain ⟨a6, g6⟩ : ∃ z, z = h0.size := ⟨_, rfl⟩
  rw [← g6] at A6 EA6 st6
  have ge_a6 : n0 ≤ a6 := Nat.le_trans Z0 (Nat.le_of_eq g6.symm)
  have sz_a6 : h0.size ≤ a6 := Nat.le_trans (Nat.le_refl h0.size) (Nat.le_of_eq g6.symm)
  have ne_a_a6 : a ≠ a6 := Nat.ne_of_lt (by rw [g6]; exact EX.lt)
  have ne_dd_a6 : dd ≠ a6 := Nat.ne_of_lt (by rw [g6]; exact VD.lt)
  have Z6 : n0 ≤ h6.size := Nat.le_trans Z0 E6.1
  have SZ6 : h0.size ≤ h6.size := Nat.le_trans (Nat.le_refl h0.size) E6.1
  have V6 : Arv Z h6 a6 k6 (.object "java/lang/Object") (10 : Int32) [.null, .null, .null, .null, .null, .null, .null, .null, .null, .null] .null := Arv.pad (Arv.new A6 (by decide)) (pad_rep [] _ 10)
  refine own_step st6 ?_
  show own_Ends p e below F (T6.setTop (mkF m 55 #[.val (.ref a), .val (.int (1 : Int32)), .val (.int (0 : Int32)), .unset] [(.ref a6), (.ref a)]))
  refine own_step (fun _ k => XS.dupX1 X6.here hx rfl (hb hby d25_55) rfl rfl rfl k) ?_
  show own_Ends p e below F (T6.setTop (mkF m 56 #[.val (.ref a), .val (.int (1 : Int32)), .val (.int (0 : Int32)), .unset] [(.ref a6), (.ref a), (.ref a6)]))
  obtain ⟨T7, h7, X7, e7, W7, st7⟩ := putF X6 hx hZ hown (host := "") (Or.inl (own_g hw 24 rfl)) Via.refl e6 (F_elementData.ext E6) (EX.ext E6) (Or.inl (own_g hw 25 rfl)) (own_g hw 1 rfl) (ty := (.array (.object "java/lang/Object"))) (by decide) rfl rfl (g := (mkF m 56 #[.val (.ref a), .val (.int (1 : Int32)), .val (.int (0 : Int32)), .unset] [(.ref a6), (.ref a), (.ref a6)])) rfl rfl (hb hby d25_56)
  refine own_step st7 ?_
  have F7 := Fld.same W7 (F_elementData.ext E6)
  have N7 := Fr.snoc X7 N5 ge
  have Z7 : n0 ≤ h7.size := by rw [W7.size]; exact Z6
  have SZ7 : h0.size ≤ h7.size := by rw [W7.size]; exact SZ6
  show own_Ends p e below F (T7.setTop (mkF m 59 #[.val (.ref a), .val (.int (1 : Int32)), .val (.int (0 : Int32)), .unset] [(.ref a6)]))
  rw [hF]
  exact own_ret X7 (v := (some (.ref a6))) (fun h => by rw [Bd.returns] at h; cases h) Bd.notSynchronized (fun fs hr => retOut X7 hx (t := (.array (.object "java/lang/Object"))) (w := (.ref a6)) (i := .areturn) Bd.returns rfl (Or.inr (Or.inr (Or.inr (Or.inr ⟨rfl, rfl, rfl⟩)))) (hb hby d25_59) hr) (by decide) (by decide) (by rw [e7]; exact ⟨_, _, rfl, N7, ((Keep.wr (Keep.ext (Keep.refl _ _) E6) W7 (Or.inl (List.mem_of_getElem? (i := 0) rfl))) : Keep h0 h7 [a]), sz_a6, ((EX.ext E6).wr W7), (Fld.other W7 (F_modCount.ext E6) (Or.inr (slot_ne (t := .int) (t' := (.array (.object "java/lang/Object"))) (Or.inl (own_g hw 22 rfl)) (Or.inl (own_g hw 25 rfl)) (by decide) (by decide) (by decide)))), F7, (Fld.other W7 (F_size.ext E6) (Or.inr (slot_ne (t := .int) (t' := (.array (.object "java/lang/Object"))) (Or.inl (own_g hw 79 rfl)) (Or.inl (own_g hw 25 rfl)) (by decide) (by decide) (by decide)))), (V6.other W7 (Ne.symm ne_a_a6)), O6, (EA6.wr W7)⟩)

theorem d24_0 : decode jdk_38_method_7_code 0 = .ok (.aload_n 0, 1) := by decide +kernel
theorem d24_1 : decode jdk_38_method_7_code 1 = .ok (.aload_n 0, 1) := by decide +kernel
theorem d24_2 : decode jdk_38_method_7_code 2 = .ok (.getfield 48, 3) := by decide +kernel
theorem d24_5 : decode jdk_38_method_7_code 5 = .ok (.iconst 1, 1) := by decide +kernel
theorem d24_6 : decode jdk_38_method_7_code 6 = .ok (.iadd, 1) := by decide +kernel
theorem d24_7 : decode jdk_38_method_7_code 7 = .ok (.invokevirtual 69, 3) := by decide +kernel
theorem d24_10 : decode jdk_38_method_7_code 10 = .ok (.areturn, 1) := by decide +kernel
theorem pd__28I_29_5bLjava_2flang_2fObject_3b : parseMethodDescriptor "(I)[Ljava/lang/Object;" = some ⟨[.int], some (.array (.object "java/lang/Object"))⟩ := by decide +kernel
theorem ef_rm24 (m : MethodId) (x0 : Addr) : entryFrame m #[(.ref x0)] 1 = mkF m 0 #[.val (.ref x0)] [] := by first | (simp [entryFrame, mkF, argsToLocals, Value.category, maxLocals]; done) | rfl
def Q24 (Z : State) (a dd : Addr) (kd : ClassId) (h0 : Heap) (n0 : Nat) (v : Option Value) (h : Heap) (L : List Loc) : Prop := ∃ c k, v = some (.ref c) ∧ Fr n0 L ∧ Keep h0 h [a] ∧ h0.size ≤ c ∧ Exa Z h a "java/util/ArrayList" ∧ Fld Z h a "java/util/AbstractList" "modCount" "I" (.int (1 : Int32)) ∧ Fld Z h a "java/util/ArrayList" "elementData" "[Ljava/lang/Object;" (.ref c) ∧ Fld Z h a "java/util/ArrayList" "size" "I" (.int (0 : Int32)) ∧ Arv Z h c k (.object "java/lang/Object") (10 : Int32) [.null, .null, .null, .null, .null, .null, .null, .null, .null, .null] .null ∧ Ovr Z k "java/lang/Object" ∧ Exa Z h c "[Ljava/lang/Object;"
set_option maxRecDepth 65536 in
set_option maxHeartbeats 40000000 in
theorem rm24 (l : Launch) (Z : State) (a0 : Array Value) (hw : ∀ d ∈ tables_1, d.before a0 Z = true) (ws : List Jvm.Cond) (a dd : Addr) (kd : ClassId) (h0 : Heap) (n0 : Nat) (Z0 : n0 ≤ h0.size) (EX : Exa Z h0 a "java/util/ArrayList") (ge : n0 ≤ a) (F_modCount : Fld Z h0 a "java/util/AbstractList" "modCount" "I" (.int (1 : Int32))) (F_elementData : Fld Z h0 a "java/util/ArrayList" "elementData" "[Ljava/lang/Object;" (.ref dd)) (F_size : Fld Z h0 a "java/util/ArrayList" "size" "I" (.int (0 : Int32))) (SD : Sta Z h0 "java/util/ArrayList" "DEFAULTCAPACITY_EMPTY_ELEMENTDATA" "[Ljava/lang/Object;" (.ref dd)) (VD : Arv Z h0 dd kd (.object "java/lang/Object") (0 : Int32) [] .null) :
    MetFree l (⟨"java/util/ArrayList", "grow", "()[Ljava/lang/Object;"⟩ : MethodName) (head1 (Jvm.Cond.code (⟨"java/util/ArrayList", "grow", "()[Ljava/lang/Object;"⟩ : MethodName) jdk_38_method_7_code 1 (some (.array (.object "java/lang/Object"))) :: ws) ({ frames := 2, cells := 1, slots := 10, locals := 29 } : Room)) (fun ar U => ar = #[(.ref a)] ∧ Z.Warmed39 U.vm ∧ U.heap = h0) (fun _ _ _ _ _ => True) (fun _ U o U' => ∃ v L, o = .returned v ∧ Q24 Z a dd kd h0 n0 v U'.heap L ∧ FrameEnd U o U' L ({ frames := 2, cells := 1, slots := 10, locals := 29 } : Room).cells ({ frames := 2, cells := 1, slots := 10, locals := 29 } : Room).slots) := by
  refine MetFree.of_bodySF (plainFor_of_name pn_java_util_ArrayList) hisR ?_
  intro p e s m args below meth c s₁ Bd hml0 hP hK
  obtain ⟨rfl, hZ, hh⟩ := hP
  have hx := Bd.exec
  have hby := Bd.bytes
  have hml : c.maxLocals = 1 := hml0
  have hown : s.vm.findClass "java/util/ArrayList" = some m.cls := findClass_of_methodNamed Bd.named
  have hnm := (name_of_methodNamed Bd.named Bd.method).1
  have X0 : Stand p l e ({ frames := 2, cells := 1, slots := 10, locals := 29 } : Room) s m #[(.ref a)] below meth c s₁ [] 0 0 := Stand.of_body Bd
  have e0 : s₁.heap = h0 := by rw [← hh, Bd.state]; rfl
  have N0 := Fr.nil n0
  obtain ⟨F, hF⟩ : ∃ F, F = own_Fin s (Q24 Z a dd kd h0 n0) ({ frames := 2, cells := 1, slots := 10, locals := 29 } : Room).cells ({ frames := 2, cells := 1, slots := 10, locals := 29 } : Room).slots := ⟨_, rfl⟩
  show own_Ends p e below (own_Fin s (Q24 Z a dd kd h0 n0) ({ frames := 2, cells := 1, slots := 10, locals := 29 } : Room).cells ({ frames := 2, cells := 1, slots := 10, locals := 29 } : Room).slots) _
  rw [← hF, ef_rm24 m a]
  show own_Ends p e below F (s₁.setTop (mkF m 0 #[.val (.ref a)] []))
  refine own_step (fun _ k => XS.aloadN X0.here hx rfl (hb hby d24_0) rfl rfl k) ?_
  show own_Ends p e below F (s₁.setTop (mkF m 1 #[.val (.ref a)] [(.ref a)]))
  refine own_step (fun _ k => XS.aloadN X0.here hx rfl (hb hby d24_1) rfl rfl k) ?_
  show own_Ends p e below F (s₁.setTop (mkF m 2 #[.val (.ref a)] [(.ref a), (.ref a)]))
  obtain ⟨T1, X1, e1, st1⟩ := getF X0 hx hZ hown (host := "") (Or.inl (own_g hw 78 rfl)) Via.refl e0 F_size (g := (mkF m 2 #[.val (.ref a)] [(.ref a), (.ref a)])) rfl rfl (hb hby d24_2)
  refine own_step st1 ?_
  show own_Ends p e below F (T1.setTop (mkF m 5 #[.val (.ref a)] [(.int (0 : Int32)), (.ref a)]))
  refine own_step (fun _ k => XS.iconst X1.here hx rfl (hb hby d24_5) k) ?_
  show own_Ends p e below F (T1.setTop (mkF m 6 #[.val (.ref a)] [(.int (1 : Int32)), (.int (0 : Int32)), (.ref a)]))
  refine own_step (fun _ k => XS.iadd X1.here hx rfl (hb hby d24_6) rfl k) ?_
  show own_Ends p e below F (T1.setTop (mkF m 7 #[.val (.ref a)] [(.int (1 : Int32)), (.ref a)]))
  obtain ⟨cq2, q2, q2'⟩ := (EX).cell
  obtain ⟨_, _, ⟨T2, L2, k2, n2⟩, -, X2, ⟨Lc2, hQ2, l2, y2, z2⟩, st2⟩ := X1.privateBack hx (y := (⟨"java/util/ArrayList", "grow", "(I)[Ljava/lang/Object;"⟩ : MethodName)) hown (mvT hZ (own_g hw 176 rfl)) (mvT hZ (own_g hw 177 rfl)) (mvT hZ (own_g hw 179 rfl)) (Cond.privateMethod_at (mvP hZ (own_g hw 178 rfl) (args := #[]))) (mvT hZ (own_g hw 180 rfl)) (by decide) (backOf (W := 0) (rm25 l Z a0 hw [] a dd kd h0 n0 Z0 EX ge F_modCount F_elementData F_size SD VD) hZ (own_g hw 180 rfl) (own_g hw 2 rfl) (by decide) (by decide)) (g := (mkF m 7 #[.val (.ref a)] [(.int (1 : Int32)), (.ref a)])) rfl (by rw [hml]; rfl) (Steps.refl _) (a := a) (by rw [e1]; exact q2) q2' (argsL := [(.int (1 : Int32))]) (rest := []) (lenOf pd__28I_29_5bLjava_2flang_2fObject_3b rfl) rfl (by show 2 * 0 + _ ≤ _; exact Nat.le_of_eq rfl) (hb hby d24_7) (fun _ _ => ⟨rfl, e1, (by decide : 0 + 1 ≤ _), (by decide : 0 + 10 ≤ _)⟩)
  dsimp only [Pt.U, Pt.locs, Pt.cells, Pt.slots] at X2 l2 y2 z2 st2 hQ2
  subst l2 y2 z2
  obtain ⟨c2, kc2, rfl, Nq2, Kq2, fq0_2, fq1_2, fq2_2, fq3_2, fq4_2, fq5_2, fq6_2, fq7_2⟩ := hQ2
  have N2 := Fr.app N0 Nq2
  have Z2 : n0 ≤ T2.heap.size := Nat.le_trans Z0 Kq2.1
  have SZ2 : h0.size ≤ T2.heap.size := Nat.le_trans (Nat.le_refl h0.size) Kq2.1
  have S0_2 := own_Sta_keep SD Kq2 (allS (own_ns_exa EX) all0)
  have ne_a_c2 : a ≠ c2 := Nat.ne_of_lt (Nat.lt_of_lt_of_le (EX).lt fq0_2)
  have ne_dd_c2 : dd ≠ c2 := Nat.ne_of_lt (Nat.lt_of_lt_of_le (VD).lt fq0_2)
  have ge_c2 : n0 ≤ c2 := Nat.le_trans Z0 fq0_2
  have sz_c2 : h0.size ≤ c2 := Nat.le_trans (Nat.le_refl h0.size) fq0_2
  refine own_trans st2 ?_
  show own_Ends p e below F (T2.setTop (mkF m 10 #[.val (.ref a)] [(.ref c2)]))
  rw [hF]
  exact own_ret X2 (v := (some (.ref c2))) (fun h => by rw [Bd.returns] at h; cases h) Bd.notSynchronized (fun fs hr => retOut X2 hx (t := (.array (.object "java/lang/Object"))) (w := (.ref c2)) (i := .areturn) Bd.returns rfl (Or.inr (Or.inr (Or.inr (Or.inr ⟨rfl, rfl, rfl⟩)))) (hb hby d24_10) hr) (by decide) (by decide) (by exact ⟨_, _, rfl, N2, ((Keep.trans (Keep.refl _ _) Kq2 (allS (Or.inl (List.mem_of_getElem? (i := 0) rfl)) all0)) : Keep h0 T2.heap [a]), sz_c2, fq1_2, fq2_2, fq3_2, fq4_2, fq5_2, fq6_2, fq7_2⟩)

theorem d23_0 : decode jdk_38_method_24_code 0 = .ok (.iload_n 3, 1) := by decide +kernel
theorem d23_1 : decode jdk_38_method_24_code 1 = .ok (.aload_n 2, 1) := by decide +kernel
theorem d23_2 : decode jdk_38_method_24_code 2 = .ok (.arraylength, 1) := by decide +kernel
theorem d23_3 : decode jdk_38_method_24_code 3 = .ok (.if_icmp .ne 8, 3) := by decide +kernel
theorem d23_6 : decode jdk_38_method_24_code 6 = .ok (.aload_n 0, 1) := by decide +kernel
theorem d23_7 : decode jdk_38_method_24_code 7 = .ok (.invokevirtual 129, 3) := by decide +kernel
theorem d23_10 : decode jdk_38_method_24_code 10 = .ok (.astore_n 2, 1) := by decide +kernel
theorem d23_11 : decode jdk_38_method_24_code 11 = .ok (.aload_n 2, 1) := by decide +kernel
theorem d23_12 : decode jdk_38_method_24_code 12 = .ok (.iload_n 3, 1) := by decide +kernel
theorem d23_13 : decode jdk_38_method_24_code 13 = .ok (.aload_n 1, 1) := by decide +kernel
theorem d23_14 : decode jdk_38_method_24_code 14 = .ok (.aastore, 1) := by decide +kernel
theorem d23_15 : decode jdk_38_method_24_code 15 = .ok (.aload_n 0, 1) := by decide +kernel
theorem d23_16 : decode jdk_38_method_24_code 16 = .ok (.iload_n 3, 1) := by decide +kernel
theorem d23_17 : decode jdk_38_method_24_code 17 = .ok (.iconst 1, 1) := by decide +kernel
theorem d23_18 : decode jdk_38_method_24_code 18 = .ok (.iadd, 1) := by decide +kernel
theorem d23_19 : decode jdk_38_method_24_code 19 = .ok (.putfield 48, 3) := by decide +kernel
theorem d23_22 : decode jdk_38_method_24_code 22 = .ok (.return_, 1) := by decide +kernel
theorem pd__28_29_5bLjava_2flang_2fObject_3b : parseMethodDescriptor "()[Ljava/lang/Object;" = some ⟨[], some (.array (.object "java/lang/Object"))⟩ := by decide +kernel
theorem ef_rm23_0 (m : MethodId) (x0 : Addr) (x1 : Value) (x2 : Addr) (x3 : Int32) (c1 : Value.category x1 = 1) : entryFrame m #[(.ref x0), x1, (.ref x2), (.int x3)] 4 = mkF m 0 #[.val (.ref x0), .val x1, .val (.ref x2), .val (.int x3)] [] := by exact own_efl m [_, _, _, _] 4 (by intro v hv; simp only [List.mem_cons, List.not_mem_nil, or_false] at hv; rcases hv with rfl | rfl | rfl | rfl <;> first | rfl | assumption) rfl
def Q23_0 (Z : State) (a dd : Addr) (kd : ClassId) (eV : Value) (h0 : Heap) (n0 : Nat) (v : Option Value) (h : Heap) (L : List Loc) : Prop := ∃ c k, v = none ∧ Fr n0 L ∧ Keep h0 h [a] ∧ h0.size ≤ c ∧ Exa Z h a "java/util/ArrayList" ∧ Fld Z h a "java/util/AbstractList" "modCount" "I" (.int (1 : Int32)) ∧ Fld Z h a "java/util/ArrayList" "elementData" "[Ljava/lang/Object;" (.ref c) ∧ Fld Z h a "java/util/ArrayList" "size" "I" (.int (1 : Int32)) ∧ Arv Z h c k (.object "java/lang/Object") (10 : Int32) [eV, .null, .null, .null, .null, .null, .null, .null, .null, .null] .null ∧ Ovr Z k "java/lang/Object" ∧ Exa Z h c "[Ljava/lang/Object;"
set_option maxRecDepth 65536 in
set_option maxHeartbeats 40000000 in
theorem rm23_0 (l : Launch) (Z : State) (a0 : Array Value) (hw : ∀ d ∈ tables_1, d.before a0 Z = true) (ws : List Jvm.Cond) (a dd : Addr) (kd : ClassId) (eV : Value) (h0 : Heap) (n0 : Nat) (Z0 : n0 ≤ h0.size) (EX : Exa Z h0 a "java/util/ArrayList") (ge : n0 ≤ a) (F_modCount : Fld Z h0 a "java/util/AbstractList" "modCount" "I" (.int (1 : Int32))) (F_elementData : Fld Z h0 a "java/util/ArrayList" "elementData" "[Ljava/lang/Object;" (.ref dd)) (F_size : Fld Z h0 a "java/util/ArrayList" "size" "I" (.int (0 : Int32))) (HE : own_Ob Z h0 eV) (SD : Sta Z h0 "java/util/ArrayList" "DEFAULTCAPACITY_EMPTY_ELEMENTDATA" "[Ljava/lang/Object;" (.ref dd)) (VD : Arv Z h0 dd kd (.object "java/lang/Object") (0 : Int32) [] .null) :
    MetFree l (⟨"java/util/ArrayList", "add", "(Ljava/lang/Object;[Ljava/lang/Object;I)V"⟩ : MethodName) (head1 (Jvm.Cond.code (⟨"java/util/ArrayList", "add", "(Ljava/lang/Object;[Ljava/lang/Object;I)V"⟩ : MethodName) jdk_38_method_24_code 4 none :: ws) ({ frames := 3, cells := 1, slots := 10, locals := 41 } : Room)) (fun ar U => ar = #[(.ref a), eV, (.ref dd), (.int (0 : Int32))] ∧ Z.Warmed39 U.vm ∧ U.heap = h0) (fun _ _ _ _ _ => True) (fun _ U o U' => ∃ v L, o = .returned v ∧ Q23_0 Z a dd kd eV h0 n0 v U'.heap L ∧ FrameEnd U o U' L ({ frames := 3, cells := 1, slots := 10, locals := 41 } : Room).cells ({ frames := 3, cells := 1, slots := 10, locals := 41 } : Room).slots) := by
  refine MetFree.of_bodySF (plainFor_of_name pn_java_util_ArrayList) hisR ?_
  intro p e s m args below meth c s₁ Bd hml0 hP hK
  obtain ⟨rfl, hZ, hh⟩ := hP
  have hx := Bd.exec
  have hby := Bd.bytes
  have hml : c.maxLocals = 4 := hml0
  have hown : s.vm.findClass "java/util/ArrayList" = some m.cls := findClass_of_methodNamed Bd.named
  have hnm := (name_of_methodNamed Bd.named Bd.method).1
  have X0 : Stand p l e ({ frames := 3, cells := 1, slots := 10, locals := 41 } : Room) s m #[(.ref a), eV, (.ref dd), (.int (0 : Int32))] below meth c s₁ [] 0 0 := Stand.of_body Bd
  have e0 : s₁.heap = h0 := by rw [← hh, Bd.state]; rfl
  have N0 := Fr.nil n0
  obtain ⟨F, hF⟩ : ∃ F, F = own_Fin s (Q23_0 Z a dd kd eV h0 n0) ({ frames := 3, cells := 1, slots := 10, locals := 41 } : Room).cells ({ frames := 3, cells := 1, slots := 10, locals := 41 } : Room).slots := ⟨_, rfl⟩
  show own_Ends p e below (own_Fin s (Q23_0 Z a dd kd eV h0 n0) ({ frames := 3, cells := 1, slots := 10, locals := 41 } : Room).cells ({ frames := 3, cells := 1, slots := 10, locals := 41 } : Room).slots) _
  rw [← hF, ef_rm23_0 m a eV dd (0 : Int32) HE.cat]
  show own_Ends p e below F (s₁.setTop (mkF m 0 #[.val (.ref a), .val eV, .val (.ref dd), .val (.int (0 : Int32))] []))
  refine own_step (fun _ k => XS.iloadN X0.here hx rfl (hb hby d23_0) rfl k) ?_
  show own_Ends p e below F (s₁.setTop (mkF m 1 #[.val (.ref a), .val eV, .val (.ref dd), .val (.int (0 : Int32))] [(.int (0 : Int32))]))
  refine own_step (fun _ k => XS.aloadN X0.here hx rfl (hb hby d23_1) rfl rfl k) ?_
  show own_Ends p e below F (s₁.setTop (mkF m 2 #[.val (.ref a), .val eV, .val (.ref dd), .val (.int (0 : Int32))] [(.ref dd), (.int (0 : Int32))]))
  obtain ⟨cl1, Ar1, q1, S1, M1, H1, G1⟩ := id VD
  have al1 := X0.arraylength hx (by rw [e0]; exact Ar1.1) (State.isArrayOf_alike hZ.alike Ar1.2.1) (g := (mkF m 2 #[.val (.ref a), .val eV, .val (.ref dd), .val (.int (0 : Int32))] [(.ref dd), (.int (0 : Int32))])) rfl rfl (hb hby d23_2)
  rw [len_of S1 M1] at al1
  refine own_step al1 ?_
  show own_Ends p e below F (s₁.setTop (mkF m 3 #[.val (.ref a), .val eV, .val (.ref dd), .val (.int (0 : Int32))] [(.int (0 : Int32)), (.int (0 : Int32))]))
  refine own_step (fun _ k => XS.icmpNo X0.here hx rfl (hb hby d23_3) rfl (teq (by decide : (0 : Int32) = (0 : Int32))).2 k) ?_
  show own_Ends p e below F (s₁.setTop (mkF m 6 #[.val (.ref a), .val eV, .val (.ref dd), .val (.int (0 : Int32))] []))
  refine own_step (fun _ k => XS.aloadN X0.here hx rfl (hb hby d23_6) rfl rfl k) ?_
  show own_Ends p e below F (s₁.setTop (mkF m 7 #[.val (.ref a), .val eV, .val (.ref dd), .val (.int (0 : Int32))] [(.ref a)]))
  obtain ⟨cq2, q2, q2'⟩ := (EX).cell
  obtain ⟨_, _, ⟨T2, L2, k2, n2⟩, -, X2, ⟨Lc2, hQ2, l2, y2, z2⟩, st2⟩ := X0.privateBack hx (y := (⟨"java/util/ArrayList", "grow", "()[Ljava/lang/Object;"⟩ : MethodName)) hown (mvT hZ (own_g hw 171 rfl)) (mvT hZ (own_g hw 172 rfl)) (mvT hZ (own_g hw 174 rfl)) (Cond.privateMethod_at (mvP hZ (own_g hw 173 rfl) (args := #[]))) (mvT hZ (own_g hw 175 rfl)) (by decide) (backOf (W := 0) (rm24 l Z a0 hw [] a dd kd h0 n0 Z0 EX ge F_modCount F_elementData F_size SD VD) hZ (own_g hw 175 rfl) (own_g hw 2 rfl) (by decide) (by decide)) (g := (mkF m 7 #[.val (.ref a), .val eV, .val (.ref dd), .val (.int (0 : Int32))] [(.ref a)])) rfl (by rw [hml]; rfl) (Steps.refl _) (a := a) (by rw [e0]; exact q2) q2' (argsL := []) (rest := []) (lenOf pd__28_29_5bLjava_2flang_2fObject_3b rfl) rfl (by show 2 * 0 + _ ≤ _; exact Nat.le_of_eq rfl) (hb hby d23_7) (fun _ _ => ⟨rfl, e0, (by decide : 0 + 1 ≤ _), (by decide : 0 + 10 ≤ _)⟩)
  dsimp only [Pt.U, Pt.locs, Pt.cells, Pt.slots] at X2 l2 y2 z2 st2 hQ2
  subst l2 y2 z2
  obtain ⟨c2, kc2, rfl, Nq2, Kq2, fq0_2, fq1_2, fq2_2, fq3_2, fq4_2, fq5_2, fq6_2, fq7_2⟩ := hQ2
  have N2 := Fr.app N0 Nq2
  have Z2 : n0 ≤ T2.heap.size := Nat.le_trans Z0 Kq2.1
  have SZ2 : h0.size ≤ T2.heap.size := Nat.le_trans (Nat.le_refl h0.size) Kq2.1
  have S0_2 := own_Sta_keep SD Kq2 (allS (own_ns_exa EX) all0)
  have ne_a_c2 : a ≠ c2 := Nat.ne_of_lt (Nat.lt_of_lt_of_le (EX).lt fq0_2)
  have ne_dd_c2 : dd ≠ c2 := Nat.ne_of_lt (Nat.lt_of_lt_of_le (VD).lt fq0_2)
  have ge_c2 : n0 ≤ c2 := Nat.le_trans Z0 fq0_2
  have sz_c2 : h0.size ≤ c2 := Nat.le_trans (Nat.le_refl h0.size) fq0_2
  refine own_trans st2 ?_
  show own_Ends p e below F (T2.setTop (mkF m 10 #[.val (.ref a), .val eV, .val (.ref dd), .val (.int (0 : Int32))] [(.ref c2)]))
  refine own_step (fun _ k => XS.astoreN X2.here hx rfl (hb hby d23_10) rfl rfl (l' := #[.val (.ref a), .val eV, .val (.ref c2), .val (.int (0 : Int32))]) rfl k) ?_
  show own_Ends p e below F (T2.setTop (mkF m 11 #[.val (.ref a), .val eV, .val (.ref c2), .val (.int (0 : Int32))] []))
  refine own_step (fun _ k => XS.aloadN X2.here hx rfl (hb hby d23_11) rfl rfl k) ?_
  show own_Ends p e below F (T2.setTop (mkF m 12 #[.val (.ref a), .val eV, .val (.ref c2), .val (.int (0 : Int32))] [(.ref c2)]))
  refine own_step (fun _ k => XS.iloadN X2.here hx rfl (hb hby d23_12) rfl k) ?_
  show own_Ends p e below F (T2.setTop (mkF m 13 #[.val (.ref a), .val eV, .val (.ref c2), .val (.int (0 : Int32))] [(.int (0 : Int32)), (.ref c2)]))
  refine own_step (fun _ k => XS.aloadN X2.here hx rfl (hb hby d23_13) rfl HE.isref k) ?_
  show own_Ends p e below F (T2.setTop (mkF m 14 #[.val (.ref a), .val eV, .val (.ref c2), .val (.int (0 : Int32))] [eV, (.int (0 : Int32)), (.ref c2)]))
  obtain ⟨cl3, Ar3, q3, S3, M3, H3, G3⟩ := id fq5_2
  have hin3 : ¬ ((0 : Int32) < 0 ∨ cl3.slots.size ≤ ((0 : Int32) : Int32).toNatClampNeg) := inb_of S3 ⟨by decide, by decide⟩
  obtain ⟨T3, h3, X3, e3, W3, st3⟩ := stR X2 hx hZ rfl Ar3 (j := (0 : Int32)) hin3 rfl (own_Ob.sto (HE.keep Kq2) Ar3 q3 fq6_2) (g := (mkF m 14 #[.val (.ref a), .val eV, .val (.ref c2), .val (.int (0 : Int32))] [eV, (.int (0 : Int32)), (.ref c2)])) rfl rfl (hb hby d23_14)
  have V3 := Arv.set Ar3 q3 S3 M3 H3 G3 HE.fit W3 0 rfl (Nat.le_of_ble_eq_true rfl)
  have V3 : Arv Z h3 c2 kc2 (.object "java/lang/Object") (10 : Int32) [eV, .null, .null, .null, .null, .null, .null, .null, .null, .null] .null := V3
  refine own_step st3 ?_
  have N3 := Fr.snoc X3 N2 ge_c2
  have Z3 : n0 ≤ h3.size := by rw [W3.size]; exact Z2
  have SZ3 : h0.size ≤ h3.size := by rw [W3.size]; exact SZ2
  show own_Ends p e below F (T3.setTop (mkF m 15 #[.val (.ref a), .val eV, .val (.ref c2), .val (.int (0 : Int32))] []))
  refine own_step (fun _ k => XS.aloadN X3.here hx rfl (hb hby d23_15) rfl rfl k) ?_
  show own_Ends p e below F (T3.setTop (mkF m 16 #[.val (.ref a), .val eV, .val (.ref c2), .val (.int (0 : Int32))] [(.ref a)]))
  refine own_step (fun _ k => XS.iloadN X3.here hx rfl (hb hby d23_16) rfl k) ?_
  show own_Ends p e below F (T3.setTop (mkF m 17 #[.val (.ref a), .val eV, .val (.ref c2), .val (.int (0 : Int32))] [(.int (0 : Int32)), (.ref a)]))
  refine own_step (fun _ k => XS.iconst X3.here hx rfl (hb hby d23_17) k) ?_
  show own_Ends p e below F (T3.setTop (mkF m 18 #[.val (.ref a), .val eV, .val (.ref c2), .val (.int (0 : Int32))] [(.int (1 : Int32)), (.int (0 : Int32)), (.ref a)]))
  refine own_step (fun _ k => XS.iadd X3.here hx rfl (hb hby d23_18) rfl k) ?_
  show own_Ends p e below F (T3.setTop (mkF m 19 #[.val (.ref a), .val eV, .val (.ref c2), .val (.int (0 : Int32))] [(.int (1 : Int32)), (.ref a)]))
  obtain ⟨T4, h4, X4, e4, W4, st4⟩ := putF X3 hx hZ hown (host := "") (Or.inl (own_g hw 78 rfl)) Via.refl e3 (Fld.other W3 fq4_2 (Or.inl ne_a_c2)) (fq1_2.wr W3) (Or.inl (own_g hw 79 rfl)) (own_g hw 1 rfl) (ty := .int) (by decide) rfl rfl (g := (mkF m 19 #[.val (.ref a), .val eV, .val (.ref c2), .val (.int (0 : Int32))] [(.int (1 : Int32)), (.ref a)])) rfl rfl (hb hby d23_19)
  refine own_step st4 ?_
  have F4 := Fld.same W4 (Fld.other W3 fq4_2 (Or.inl ne_a_c2))
  have N4 := Fr.snoc X4 N3 ge
  have Z4 : n0 ≤ h4.size := by rw [W4.size]; exact Z3
  have SZ4 : h0.size ≤ h4.size := by rw [W4.size]; exact SZ3
  show own_Ends p e below F (T4.setTop (mkF m 22 #[.val (.ref a), .val eV, .val (.ref c2), .val (.int (0 : Int32))] []))
  rw [hF]
  exact own_ret X4 (v := none) (fun _ => rfl) Bd.notSynchronized (fun fs hr => X4.returnOut hx Bd.returns (hb hby d23_22) hr) (by decide) (by decide) (by rw [e4]; exact ⟨_, _, rfl, N4, ((Keep.wr (Keep.wr (Keep.trans (Keep.refl _ _) Kq2 (allS (Or.inl (List.mem_of_getElem? (i := 0) rfl)) all0)) W3 (Or.inr sz_c2)) W4 (Or.inl (List.mem_of_getElem? (i := 0) rfl))) : Keep h0 h4 [a]), sz_c2, ((fq1_2.wr W3).wr W4), (Fld.other W4 (Fld.other W3 fq2_2 (Or.inl ne_a_c2)) (Or.inr (slot_ne (t := .int) (t' := .int) (Or.inl (own_g hw 22 rfl)) (Or.inl (own_g hw 79 rfl)) (by decide) (by decide) (by decide)))), (Fld.other W4 (Fld.other W3 fq3_2 (Or.inl ne_a_c2)) (Or.inr (slot_ne (t := (.array (.object "java/lang/Object"))) (t' := .int) (Or.inl (own_g hw 25 rfl)) (Or.inl (own_g hw 79 rfl)) (by decide) (by decide) (by decide)))), F4, (V3.other W4 (Ne.symm ne_a_c2)), fq6_2, ((fq7_2.wr W3).wr W4)⟩)

theorem d22_0 : decode jdk_38_method_25_code 0 = .ok (.aload_n 0, 1) := by decide +kernel
theorem d22_1 : decode jdk_38_method_25_code 1 = .ok (.dup, 1) := by decide +kernel
theorem d22_2 : decode jdk_38_method_25_code 2 = .ok (.getfield 63, 3) := by decide +kernel
theorem d22_5 : decode jdk_38_method_25_code 5 = .ok (.iconst 1, 1) := by decide +kernel
theorem d22_6 : decode jdk_38_method_25_code 6 = .ok (.iadd, 1) := by decide +kernel
theorem d22_7 : decode jdk_38_method_25_code 7 = .ok (.putfield 63, 3) := by decide +kernel
theorem d22_10 : decode jdk_38_method_25_code 10 = .ok (.aload_n 0, 1) := by decide +kernel
theorem d22_11 : decode jdk_38_method_25_code 11 = .ok (.aload_n 1, 1) := by decide +kernel
theorem d22_12 : decode jdk_38_method_25_code 12 = .ok (.aload_n 0, 1) := by decide +kernel
theorem d22_13 : decode jdk_38_method_25_code 13 = .ok (.getfield 9, 3) := by decide +kernel
theorem d22_16 : decode jdk_38_method_25_code 16 = .ok (.aload_n 0, 1) := by decide +kernel
theorem d22_17 : decode jdk_38_method_25_code 17 = .ok (.getfield 48, 3) := by decide +kernel
theorem d22_20 : decode jdk_38_method_25_code 20 = .ok (.invokevirtual 131, 3) := by decide +kernel
theorem d22_23 : decode jdk_38_method_25_code 23 = .ok (.iconst 1, 1) := by decide +kernel
theorem d22_24 : decode jdk_38_method_25_code 24 = .ok (.ireturn, 1) := by decide +kernel
theorem pd__28Ljava_2flang_2fObject_3b_5bLjava_2flang_2fObject_3bI_29V : parseMethodDescriptor "(Ljava/lang/Object;[Ljava/lang/Object;I)V" = some ⟨[(.object "java/lang/Object"), (.array (.object "java/lang/Object")), .int], none⟩ := by decide +kernel
theorem ef_rm22_0 (m : MethodId) (x0 : Addr) (x1 : Value) (c1 : Value.category x1 = 1) : entryFrame m #[(.ref x0), x1] 2 = mkF m 0 #[.val (.ref x0), .val x1] [] := by exact own_efl m [_, _] 2 (by intro v hv; simp only [List.mem_cons, List.not_mem_nil, or_false] at hv; rcases hv with rfl | rfl <;> first | rfl | assumption) rfl
def Q22_0 (Z : State) (a dd : Addr) (kd : ClassId) (eV : Value) (h0 : Heap) (n0 : Nat) (v : Option Value) (h : Heap) (L : List Loc) : Prop := ∃ c k, v = some (.int 1) ∧ Fr n0 L ∧ Keep h0 h [a] ∧ h0.size ≤ c ∧ Exa Z h a "java/util/ArrayList" ∧ Fld Z h a "java/util/AbstractList" "modCount" "I" (.int (1 : Int32)) ∧ Fld Z h a "java/util/ArrayList" "elementData" "[Ljava/lang/Object;" (.ref c) ∧ Fld Z h a "java/util/ArrayList" "size" "I" (.int (1 : Int32)) ∧ Arv Z h c k (.object "java/lang/Object") (10 : Int32) [eV, .null, .null, .null, .null, .null, .null, .null, .null, .null] .null ∧ Ovr Z k "java/lang/Object" ∧ Exa Z h c "[Ljava/lang/Object;"
set_option maxRecDepth 65536 in
set_option maxHeartbeats 40000000 in
theorem rm22_0 (l : Launch) (Z : State) (a0 : Array Value) (hw : ∀ d ∈ tables_1, d.before a0 Z = true) (ws : List Jvm.Cond) (a dd : Addr) (kd : ClassId) (eV : Value) (h0 : Heap) (n0 : Nat) (Z0 : n0 ≤ h0.size) (EX : Exa Z h0 a "java/util/ArrayList") (ge : n0 ≤ a) (F_modCount : Fld Z h0 a "java/util/AbstractList" "modCount" "I" (.int (0 : Int32))) (F_elementData : Fld Z h0 a "java/util/ArrayList" "elementData" "[Ljava/lang/Object;" (.ref dd)) (F_size : Fld Z h0 a "java/util/ArrayList" "size" "I" (.int (0 : Int32))) (HE : own_Ob Z h0 eV) (SD : Sta Z h0 "java/util/ArrayList" "DEFAULTCAPACITY_EMPTY_ELEMENTDATA" "[Ljava/lang/Object;" (.ref dd)) (VD : Arv Z h0 dd kd (.object "java/lang/Object") (0 : Int32) [] .null) :
    MetFree l (⟨"java/util/ArrayList", "add", "(Ljava/lang/Object;)Z"⟩ : MethodName) (head1 (Jvm.Cond.code (⟨"java/util/ArrayList", "add", "(Ljava/lang/Object;)Z"⟩ : MethodName) jdk_38_method_25_code 2 (some .boolean) :: ws) ({ frames := 4, cells := 1, slots := 10, locals := 56 } : Room)) (fun ar U => ar = #[(.ref a), eV] ∧ Z.Warmed39 U.vm ∧ U.heap = h0) (fun _ _ _ _ _ => True) (fun _ U o U' => ∃ v L, o = .returned v ∧ Q22_0 Z a dd kd eV h0 n0 v U'.heap L ∧ FrameEnd U o U' L ({ frames := 4, cells := 1, slots := 10, locals := 56 } : Room).cells ({ frames := 4, cells := 1, slots := 10, locals := 56 } : Room).slots) := by
  refine MetFree.of_bodySF (plainFor_of_name pn_java_util_ArrayList) hisR ?_
  intro p e s m args below meth c s₁ Bd hml0 hP hK
  obtain ⟨rfl, hZ, hh⟩ := hP
  have hx := Bd.exec
  have hby := Bd.bytes
  have hml : c.maxLocals = 2 := hml0
  have hown : s.vm.findClass "java/util/ArrayList" = some m.cls := findClass_of_methodNamed Bd.named
  have hnm := (name_of_methodNamed Bd.named Bd.method).1
  have X0 : Stand p l e ({ frames := 4, cells := 1, slots := 10, locals := 56 } : Room) s m #[(.ref a), eV] below meth c s₁ [] 0 0 := Stand.of_body Bd
  have e0 : s₁.heap = h0 := by rw [← hh, Bd.state]; rfl
  have N0 := Fr.nil n0
  obtain ⟨F, hF⟩ : ∃ F, F = own_Fin s (Q22_0 Z a dd kd eV h0 n0) ({ frames := 4, cells := 1, slots := 10, locals := 56 } : Room).cells ({ frames := 4, cells := 1, slots := 10, locals := 56 } : Room).slots := ⟨_, rfl⟩
  show own_Ends p e below (own_Fin s (Q22_0 Z a dd kd eV h0 n0) ({ frames := 4, cells := 1, slots := 10, locals := 56 } : Room).cells ({ frames := 4, cells := 1, slots := 10, locals := 56 } : Room).slots) _
  rw [← hF, ef_rm22_0 m a eV HE.cat]
  show own_Ends p e below F (s₁.setTop (mkF m 0 #[.val (.ref a), .val eV] []))
  refine own_step (fun _ k => XS.aloadN X0.here hx rfl (hb hby d22_0) rfl rfl k) ?_
  show own_Ends p e below F (s₁.setTop (mkF m 1 #[.val (.ref a), .val eV] [(.ref a)]))
  refine own_step (fun _ k => XS.dup X0.here hx rfl (hb hby d22_1) rfl rfl k) ?_
  show own_Ends p e below F (s₁.setTop (mkF m 2 #[.val (.ref a), .val eV] [(.ref a), (.ref a)]))
  obtain ⟨T1, X1, e1, st1⟩ := getF X0 hx hZ hown (host := "") (Or.inl (own_g hw 164 rfl)) (Via.of (own_g hw 165 rfl)) e0 F_modCount (g := (mkF m 2 #[.val (.ref a), .val eV] [(.ref a), (.ref a)])) rfl rfl (hb hby d22_2)
  refine own_step st1 ?_
  show own_Ends p e below F (T1.setTop (mkF m 5 #[.val (.ref a), .val eV] [(.int (0 : Int32)), (.ref a)]))
  refine own_step (fun _ k => XS.iconst X1.here hx rfl (hb hby d22_5) k) ?_
  show own_Ends p e below F (T1.setTop (mkF m 6 #[.val (.ref a), .val eV] [(.int (1 : Int32)), (.int (0 : Int32)), (.ref a)]))
  refine own_step (fun _ k => XS.iadd X1.here hx rfl (hb hby d22_6) rfl k) ?_
  show own_Ends p e below F (T1.setTop (mkF m 7 #[.val (.ref a), .val eV] [(.int (1 : Int32)), (.ref a)]))
  obtain ⟨T2, h2, X2, e2, W2, st2⟩ := putF X1 hx hZ hown (host := "") (Or.inl (own_g hw 164 rfl)) (Via.of (own_g hw 165 rfl)) e1 F_modCount EX (Or.inl (own_g hw 22 rfl)) (own_g hw 1 rfl) (ty := .int) (by decide) rfl rfl (g := (mkF m 7 #[.val (.ref a), .val eV] [(.int (1 : Int32)), (.ref a)])) rfl rfl (hb hby d22_7)
  refine own_step st2 ?_
  have F2 := Fld.same W2 F_modCount
  have N2 := Fr.snoc X2 N0 ge
  have Z2 : n0 ≤ h2.size := by rw [W2.size]; exact Z0
  have SZ2 : h0.size ≤ h2.size := by rw [W2.size]; exact (Nat.le_refl h0.size)
  show own_Ends p e below F (T2.setTop (mkF m 10 #[.val (.ref a), .val eV] []))
  refine own_step (fun _ k => XS.aloadN X2.here hx rfl (hb hby d22_10) rfl rfl k) ?_
  show own_Ends p e below F (T2.setTop (mkF m 11 #[.val (.ref a), .val eV] [(.ref a)]))
  refine own_step (fun _ k => XS.aloadN X2.here hx rfl (hb hby d22_11) rfl HE.isref k) ?_
  show own_Ends p e below F (T2.setTop (mkF m 12 #[.val (.ref a), .val eV] [eV, (.ref a)]))
  refine own_step (fun _ k => XS.aloadN X2.here hx rfl (hb hby d22_12) rfl rfl k) ?_
  show own_Ends p e below F (T2.setTop (mkF m 13 #[.val (.ref a), .val eV] [(.ref a), eV, (.ref a)]))
  obtain ⟨T3, X3, e3, st3⟩ := getF X2 hx hZ hown (host := "") (Or.inl (own_g hw 24 rfl)) Via.refl e2 (Fld.other W2 F_elementData (Or.inr (slot_ne (t := (.array (.object "java/lang/Object"))) (t' := .int) (Or.inl (own_g hw 25 rfl)) (Or.inl (own_g hw 22 rfl)) (by decide) (by decide) (by decide)))) (g := (mkF m 13 #[.val (.ref a), .val eV] [(.ref a), eV, (.ref a)])) rfl rfl (hb hby d22_13)
  refine own_step st3 ?_
  show own_Ends p e below F (T3.setTop (mkF m 16 #[.val (.ref a), .val eV] [(.ref dd), eV, (.ref a)]))
  refine own_step (fun _ k => XS.aloadN X3.here hx rfl (hb hby d22_16) rfl rfl k) ?_
  show own_Ends p e below F (T3.setTop (mkF m 17 #[.val (.ref a), .val eV] [(.ref a), (.ref dd), eV, (.ref a)]))
  obtain ⟨T4, X4, e4, st4⟩ := getF X3 hx hZ hown (host := "") (Or.inl (own_g hw 78 rfl)) Via.refl e3 (Fld.other W2 F_size (Or.inr (slot_ne (t := .int) (t' := .int) (Or.inl (own_g hw 79 rfl)) (Or.inl (own_g hw 22 rfl)) (by decide) (by decide) (by decide)))) (g := (mkF m 17 #[.val (.ref a), .val eV] [(.ref a), (.ref dd), eV, (.ref a)])) rfl rfl (hb hby d22_17)
  refine own_step st4 ?_
  show own_Ends p e below F (T4.setTop (mkF m 20 #[.val (.ref a), .val eV] [(.int (0 : Int32)), (.ref dd), eV, (.ref a)]))
  obtain ⟨cq5, q5, q5'⟩ := ((EX.wr W2)).cell
  obtain ⟨_, _, ⟨T5, L5, k5, n5⟩, -, X5, ⟨Lc5, hQ5, l5, y5, z5⟩, st5⟩ := X4.privateBack hx (y := (⟨"java/util/ArrayList", "add", "(Ljava/lang/Object;[Ljava/lang/Object;I)V"⟩ : MethodName)) hown (mvT hZ (own_g hw 166 rfl)) (mvT hZ (own_g hw 167 rfl)) (mvT hZ (own_g hw 169 rfl)) (Cond.privateMethod_at (mvP hZ (own_g hw 168 rfl) (args := #[]))) (mvT hZ (own_g hw 170 rfl)) (by decide) (backOf (W := 0) (rm23_0 l Z a0 hw [] a dd kd eV h2 n0 Z2 (EX.wr W2) ge F2 (Fld.other W2 F_elementData (Or.inr (slot_ne (t := (.array (.object "java/lang/Object"))) (t' := .int) (Or.inl (own_g hw 25 rfl)) (Or.inl (own_g hw 22 rfl)) (by decide) (by decide) (by decide)))) (Fld.other W2 F_size (Or.inr (slot_ne (t := .int) (t' := .int) (Or.inl (own_g hw 79 rfl)) (Or.inl (own_g hw 22 rfl)) (by decide) (by decide) (by decide)))) (HE.wr W2) (Sta.wr W2 SD) (VD.other W2 (Ne.symm (EX.neArv VD (own_g hw 1 rfl))))) hZ (own_g hw 170 rfl) (own_g hw 2 rfl) (by decide) (by decide)) (g := (mkF m 20 #[.val (.ref a), .val eV] [(.int (0 : Int32)), (.ref dd), eV, (.ref a)])) rfl (by rw [hml]; rfl) (Steps.refl _) (a := a) (by rw [e4]; exact q5) q5' (argsL := [eV, (.ref dd), (.int (0 : Int32))]) (rest := []) (lenOf pd__28Ljava_2flang_2fObject_3b_5bLjava_2flang_2fObject_3bI_29V rfl) rfl (by show 2 * 0 + _ ≤ _; exact Nat.le_of_eq rfl) (hb hby d22_20) (fun _ _ => ⟨rfl, e4, (by decide : 0 + 1 ≤ _), (by decide : 0 + 10 ≤ _)⟩)
  dsimp only [Pt.U, Pt.locs, Pt.cells, Pt.slots] at X5 l5 y5 z5 st5 hQ5
  subst l5 y5 z5
  obtain ⟨c5, kc5, rfl, Nq5, Kq5, fq0_5, fq1_5, fq2_5, fq3_5, fq4_5, fq5_5, fq6_5, fq7_5⟩ := hQ5
  have N5 := Fr.app N2 Nq5
  have Z5 : n0 ≤ T5.heap.size := Nat.le_trans Z2 Kq5.1
  have SZ5 : h0.size ≤ T5.heap.size := Nat.le_trans SZ2 Kq5.1
  have S0_5 := own_Sta_keep (Sta.wr W2 SD) Kq5 (allS (own_ns_exa (EX.wr W2)) all0)
  have ne_a_c5 : a ≠ c5 := Nat.ne_of_lt (Nat.lt_of_lt_of_le ((EX.wr W2)).lt fq0_5)
  have ne_dd_c5 : dd ≠ c5 := Nat.ne_of_lt (Nat.lt_of_lt_of_le ((VD.other W2 (Ne.symm (EX.neArv VD (own_g hw 1 rfl))))).lt fq0_5)
  have ge_c5 : n0 ≤ c5 := Nat.le_trans Z2 fq0_5
  have sz_c5 : h0.size ≤ c5 := Nat.le_trans SZ2 fq0_5
  refine own_trans st5 ?_
  show own_Ends p e below F (T5.setTop (mkF m 23 #[.val (.ref a), .val eV] []))
  refine own_step (fun _ k => XS.iconst X5.here hx rfl (hb hby d22_23) k) ?_
  show own_Ends p e below F (T5.setTop (mkF m 24 #[.val (.ref a), .val eV] [(.int (1 : Int32))]))
  rw [hF]
  exact own_ret X5 (v := (some (.int (nar .boolean (1 : Int32))))) (fun h => by rw [Bd.returns] at h; cases h) Bd.notSynchronized (fun fs hr => retN X5 hx (t := .boolean) Bd.returns (by simp) (hb hby d22_24) hr) (by decide) (by decide) (by exact ⟨_, _, rfl, N5, ((Keep.trans (Keep.wr (Keep.refl _ _) W2 (Or.inl (List.mem_of_getElem? (i := 0) rfl))) Kq5 (allS (Or.inl (List.mem_of_getElem? (i := 0) rfl)) all0)) : Keep h0 T5.heap [a]), sz_c5, fq1_5, fq2_5, fq3_5, fq4_5, fq5_5, fq6_5, fq7_5⟩)

theorem ef_rm23_1 (m : MethodId) (x0 : Addr) (x1 : Value) (x2 : Addr) (x3 : Int32) (c1 : Value.category x1 = 1) : entryFrame m #[(.ref x0), x1, (.ref x2), (.int x3)] 4 = mkF m 0 #[.val (.ref x0), .val x1, .val (.ref x2), .val (.int x3)] [] := by exact own_efl m [_, _, _, _] 4 (by intro v hv; simp only [List.mem_cons, List.not_mem_nil, or_false] at hv; rcases hv with rfl | rfl | rfl | rfl <;> first | rfl | assumption) rfl
def Q23_1 (Z : State) (a b : Addr) (kb : ClassId) (eV w0 : Value) (h0 : Heap) (n0 : Nat) (v : Option Value) (h : Heap) (L : List Loc) : Prop := v = none ∧ Fr n0 L ∧ Keep h0 h [a, b] ∧ Exa Z h a "java/util/ArrayList" ∧ Fld Z h a "java/util/AbstractList" "modCount" "I" (.int (2 : Int32)) ∧ Fld Z h a "java/util/ArrayList" "elementData" "[Ljava/lang/Object;" (.ref b) ∧ Fld Z h a "java/util/ArrayList" "size" "I" (.int (2 : Int32)) ∧ Arv Z h b kb (.object "java/lang/Object") (10 : Int32) [w0, eV, .null, .null, .null, .null, .null, .null, .null, .null] .null
set_option maxRecDepth 65536 in
set_option maxHeartbeats 40000000 in
theorem rm23_1 (l : Launch) (Z : State) (a0 : Array Value) (hw : ∀ d ∈ tables_1, d.before a0 Z = true) (ws : List Jvm.Cond) (a b : Addr) (kb : ClassId) (eV w0 : Value) (h0 : Heap) (n0 : Nat) (Z0 : n0 ≤ h0.size) (EX : Exa Z h0 a "java/util/ArrayList") (ge : n0 ≤ a) (F_modCount : Fld Z h0 a "java/util/AbstractList" "modCount" "I" (.int (2 : Int32))) (F_elementData : Fld Z h0 a "java/util/ArrayList" "elementData" "[Ljava/lang/Object;" (.ref b)) (F_size : Fld Z h0 a "java/util/ArrayList" "size" "I" (.int (1 : Int32))) (HE : own_Ob Z h0 eV) (VB : Arv Z h0 b kb (.object "java/lang/Object") (10 : Int32) [w0, .null, .null, .null, .null, .null, .null, .null, .null, .null] .null) (OB : Ovr Z kb "java/lang/Object") (geb : n0 ≤ b) :
    MetFree l (⟨"java/util/ArrayList", "add", "(Ljava/lang/Object;[Ljava/lang/Object;I)V"⟩ : MethodName) (head1 (Jvm.Cond.code (⟨"java/util/ArrayList", "add", "(Ljava/lang/Object;[Ljava/lang/Object;I)V"⟩ : MethodName) jdk_38_method_24_code 4 none :: ws) ({ frames := 0, cells := 0, slots := 0, locals := 0 } : Room)) (fun ar U => ar = #[(.ref a), eV, (.ref b), (.int (1 : Int32))] ∧ Z.Warmed39 U.vm ∧ U.heap = h0) (fun _ _ _ _ _ => True) (fun _ U o U' => ∃ v L, o = .returned v ∧ Q23_1 Z a b kb eV w0 h0 n0 v U'.heap L ∧ FrameEnd U o U' L ({ frames := 0, cells := 0, slots := 0, locals := 0 } : Room).cells ({ frames := 0, cells := 0, slots := 0, locals := 0 } : Room).slots) := by
  refine MetFree.of_bodySF (plainFor_of_name pn_java_util_ArrayList) hisR ?_
  intro p e s m args below meth c s₁ Bd hml0 hP hK
  obtain ⟨rfl, hZ, hh⟩ := hP
  have hx := Bd.exec
  have hby := Bd.bytes
  have hml : c.maxLocals = 4 := hml0
  have hown : s.vm.findClass "java/util/ArrayList" = some m.cls := findClass_of_methodNamed Bd.named
  have hnm := (name_of_methodNamed Bd.named Bd.method).1
  have X0 : Stand p l e ({ frames := 0, cells := 0, slots := 0, locals := 0 } : Room) s m #[(.ref a), eV, (.ref b), (.int (1 : Int32))] below meth c s₁ [] 0 0 := Stand.of_body Bd
  have e0 : s₁.heap = h0 := by rw [← hh, Bd.state]; rfl
  have N0 := Fr.nil n0
  obtain ⟨F, hF⟩ : ∃ F, F = own_Fin s (Q23_1 Z a b kb eV w0 h0 n0) ({ frames := 0, cells := 0, slots := 0, locals := 0 } : Room).cells ({ frames := 0, cells := 0, slots := 0, locals := 0 } : Room).slots := ⟨_, rfl⟩
  show own_Ends p e below (own_Fin s (Q23_1 Z a b kb eV w0 h0 n0) ({ frames := 0, cells := 0, slots := 0, locals := 0 } : Room).cells ({ frames := 0, cells := 0, slots := 0, locals := 0 } : Room).slots) _
  rw [← hF, ef_rm23_1 m a eV b (1 : Int32) HE.cat]
  show own_Ends p e below F (s₁.setTop (mkF m 0 #[.val (.ref a), .val eV, .val (.ref b), .val (.int (1 : Int32))] []))
  refine own_step (fun _ k => XS.iloadN X0.here hx rfl (hb hby d23_0) rfl k) ?_
  show own_Ends p e below F (s₁.setTop (mkF m 1 #[.val (.ref a), .val eV, .val (.ref b), .val (.int (1 : Int32))] [(.int (1 : Int32))]))
  refine own_step (fun _ k => XS.aloadN X0.here hx rfl (hb hby d23_1) rfl rfl k) ?_
  show own_Ends p e below F (s₁.setTop (mkF m 2 #[.val (.ref a), .val eV, .val (.ref b), .val (.int (1 : Int32))] [(.ref b), (.int (1 : Int32))]))
  obtain ⟨cl1, Ar1, q1, S1, M1, H1, G1⟩ := id VB
  have al1 := X0.arraylength hx (by rw [e0]; exact Ar1.1) (State.isArrayOf_alike hZ.alike Ar1.2.1) (g := (mkF m 2 #[.val (.ref a), .val eV, .val (.ref b), .val (.int (1 : Int32))] [(.ref b), (.int (1 : Int32))])) rfl rfl (hb hby d23_2)
  rw [len_of S1 M1] at al1
  refine own_step al1 ?_
  show own_Ends p e below F (s₁.setTop (mkF m 3 #[.val (.ref a), .val eV, .val (.ref b), .val (.int (1 : Int32))] [(.int (10 : Int32)), (.int (1 : Int32))]))
  refine own_step (fun _ k => XS.icmpYes X0.here hx rfl (pc0 := 3) (pc' := 11) rfl (hb hby d23_3) rfl (feq (by decide : ¬ ((1 : Int32) = (10 : Int32)))).2 (by decide) (by decide) k) ?_
  show own_Ends p e below F (s₁.setTop (mkF m 11 #[.val (.ref a), .val eV, .val (.ref b), .val (.int (1 : Int32))] []))
  refine own_step (fun _ k => XS.aloadN X0.here hx rfl (hb hby d23_11) rfl rfl k) ?_
  show own_Ends p e below F (s₁.setTop (mkF m 12 #[.val (.ref a), .val eV, .val (.ref b), .val (.int (1 : Int32))] [(.ref b)]))
  refine own_step (fun _ k => XS.iloadN X0.here hx rfl (hb hby d23_12) rfl k) ?_
  show own_Ends p e below F (s₁.setTop (mkF m 13 #[.val (.ref a), .val eV, .val (.ref b), .val (.int (1 : Int32))] [(.int (1 : Int32)), (.ref b)]))
  refine own_step (fun _ k => XS.aloadN X0.here hx rfl (hb hby d23_13) rfl HE.isref k) ?_
  show own_Ends p e below F (s₁.setTop (mkF m 14 #[.val (.ref a), .val eV, .val (.ref b), .val (.int (1 : Int32))] [eV, (.int (1 : Int32)), (.ref b)]))
  obtain ⟨cl2, Ar2, q2, S2, M2, H2, G2⟩ := id VB
  have hin2 : ¬ ((1 : Int32) < 0 ∨ cl2.slots.size ≤ ((1 : Int32) : Int32).toNatClampNeg) := inb_of S2 ⟨by decide, by decide⟩
  obtain ⟨T2, h2, X2, e2, W2, st2⟩ := stR X0 hx hZ e0 Ar2 (j := (1 : Int32)) hin2 rfl (own_Ob.sto HE Ar2 q2 OB) (g := (mkF m 14 #[.val (.ref a), .val eV, .val (.ref b), .val (.int (1 : Int32))] [eV, (.int (1 : Int32)), (.ref b)])) rfl rfl (hb hby d23_14)
  have V2 := Arv.set Ar2 q2 S2 M2 H2 G2 HE.fit W2 1 rfl (Nat.le_of_ble_eq_true rfl)
  have V2 : Arv Z h2 b kb (.object "java/lang/Object") (10 : Int32) [w0, eV, .null, .null, .null, .null, .null, .null, .null, .null] .null := V2
  refine own_step st2 ?_
  have N2 := Fr.snoc X2 N0 geb
  have Z2 : n0 ≤ h2.size := by rw [W2.size]; exact Z0
  have SZ2 : h0.size ≤ h2.size := by rw [W2.size]; exact (Nat.le_refl h0.size)
  show own_Ends p e below F (T2.setTop (mkF m 15 #[.val (.ref a), .val eV, .val (.ref b), .val (.int (1 : Int32))] []))
  refine own_step (fun _ k => XS.aloadN X2.here hx rfl (hb hby d23_15) rfl rfl k) ?_
  show own_Ends p e below F (T2.setTop (mkF m 16 #[.val (.ref a), .val eV, .val (.ref b), .val (.int (1 : Int32))] [(.ref a)]))
  refine own_step (fun _ k => XS.iloadN X2.here hx rfl (hb hby d23_16) rfl k) ?_
  show own_Ends p e below F (T2.setTop (mkF m 17 #[.val (.ref a), .val eV, .val (.ref b), .val (.int (1 : Int32))] [(.int (1 : Int32)), (.ref a)]))
  refine own_step (fun _ k => XS.iconst X2.here hx rfl (hb hby d23_17) k) ?_
  show own_Ends p e below F (T2.setTop (mkF m 18 #[.val (.ref a), .val eV, .val (.ref b), .val (.int (1 : Int32))] [(.int (1 : Int32)), (.int (1 : Int32)), (.ref a)]))
  refine own_step (fun _ k => XS.iadd X2.here hx rfl (hb hby d23_18) rfl k) ?_
  show own_Ends p e below F (T2.setTop (mkF m 19 #[.val (.ref a), .val eV, .val (.ref b), .val (.int (1 : Int32))] [(.int (2 : Int32)), (.ref a)]))
  obtain ⟨T3, h3, X3, e3, W3, st3⟩ := putF X2 hx hZ hown (host := "") (Or.inl (own_g hw 78 rfl)) Via.refl e2 (Fld.other W2 F_size (Or.inl (EX.neArv VB (own_g hw 1 rfl)))) (EX.wr W2) (Or.inl (own_g hw 79 rfl)) (own_g hw 1 rfl) (ty := .int) (by decide) rfl rfl (g := (mkF m 19 #[.val (.ref a), .val eV, .val (.ref b), .val (.int (1 : Int32))] [(.int (2 : Int32)), (.ref a)])) rfl rfl (hb hby d23_19)
  refine own_step st3 ?_
  have F3 := Fld.same W3 (Fld.other W2 F_size (Or.inl (EX.neArv VB (own_g hw 1 rfl))))
  have N3 := Fr.snoc X3 N2 ge
  have Z3 : n0 ≤ h3.size := by rw [W3.size]; exact Z2
  have SZ3 : h0.size ≤ h3.size := by rw [W3.size]; exact SZ2
  show own_Ends p e below F (T3.setTop (mkF m 22 #[.val (.ref a), .val eV, .val (.ref b), .val (.int (1 : Int32))] []))
  rw [hF]
  exact own_ret X3 (v := none) (fun _ => rfl) Bd.notSynchronized (fun fs hr => X3.returnOut hx Bd.returns (hb hby d23_22) hr) (by decide) (by decide) (by rw [e3]; exact ⟨rfl, N3, ((Keep.wr (Keep.wr (Keep.refl _ _) W2 (Or.inl (List.mem_of_getElem? (i := 1) rfl))) W3 (Or.inl (List.mem_of_getElem? (i := 0) rfl))) : Keep h0 h3 [a, b]), ((EX.wr W2).wr W3), (Fld.other W3 (Fld.other W2 F_modCount (Or.inl (EX.neArv VB (own_g hw 1 rfl)))) (Or.inr (slot_ne (t := .int) (t' := .int) (Or.inl (own_g hw 22 rfl)) (Or.inl (own_g hw 79 rfl)) (by decide) (by decide) (by decide)))), (Fld.other W3 (Fld.other W2 F_elementData (Or.inl (EX.neArv VB (own_g hw 1 rfl)))) (Or.inr (slot_ne (t := (.array (.object "java/lang/Object"))) (t' := .int) (Or.inl (own_g hw 25 rfl)) (Or.inl (own_g hw 79 rfl)) (by decide) (by decide) (by decide)))), F3, (V2.other W3 (Ne.symm (EX.neArv VB (own_g hw 1 rfl))))⟩)

theorem ef_rm22_1 (m : MethodId) (x0 : Addr) (x1 : Value) (c1 : Value.category x1 = 1) : entryFrame m #[(.ref x0), x1] 2 = mkF m 0 #[.val (.ref x0), .val x1] [] := by exact own_efl m [_, _] 2 (by intro v hv; simp only [List.mem_cons, List.not_mem_nil, or_false] at hv; rcases hv with rfl | rfl <;> first | rfl | assumption) rfl
def Q22_1 (Z : State) (a b : Addr) (kb : ClassId) (eV w0 : Value) (h0 : Heap) (n0 : Nat) (v : Option Value) (h : Heap) (L : List Loc) : Prop := v = some (.int 1) ∧ Fr n0 L ∧ Keep h0 h [a, b] ∧ Exa Z h a "java/util/ArrayList" ∧ Fld Z h a "java/util/AbstractList" "modCount" "I" (.int (2 : Int32)) ∧ Fld Z h a "java/util/ArrayList" "elementData" "[Ljava/lang/Object;" (.ref b) ∧ Fld Z h a "java/util/ArrayList" "size" "I" (.int (2 : Int32)) ∧ Arv Z h b kb (.object "java/lang/Object") (10 : Int32) [w0, eV, .null, .null, .null, .null, .null, .null, .null, .null] .null
set_option maxRecDepth 65536 in
set_option maxHeartbeats 40000000 in
theorem rm22_1 (l : Launch) (Z : State) (a0 : Array Value) (hw : ∀ d ∈ tables_1, d.before a0 Z = true) (ws : List Jvm.Cond) (a b : Addr) (kb : ClassId) (eV w0 : Value) (h0 : Heap) (n0 : Nat) (Z0 : n0 ≤ h0.size) (EX : Exa Z h0 a "java/util/ArrayList") (ge : n0 ≤ a) (F_modCount : Fld Z h0 a "java/util/AbstractList" "modCount" "I" (.int (1 : Int32))) (F_elementData : Fld Z h0 a "java/util/ArrayList" "elementData" "[Ljava/lang/Object;" (.ref b)) (F_size : Fld Z h0 a "java/util/ArrayList" "size" "I" (.int (1 : Int32))) (HE : own_Ob Z h0 eV) (VB : Arv Z h0 b kb (.object "java/lang/Object") (10 : Int32) [w0, .null, .null, .null, .null, .null, .null, .null, .null, .null] .null) (OB : Ovr Z kb "java/lang/Object") (geb : n0 ≤ b) :
    MetFree l (⟨"java/util/ArrayList", "add", "(Ljava/lang/Object;)Z"⟩ : MethodName) (head1 (Jvm.Cond.code (⟨"java/util/ArrayList", "add", "(Ljava/lang/Object;)Z"⟩ : MethodName) jdk_38_method_25_code 2 (some .boolean) :: ws) ({ frames := 1, cells := 0, slots := 0, locals := 15 } : Room)) (fun ar U => ar = #[(.ref a), eV] ∧ Z.Warmed39 U.vm ∧ U.heap = h0) (fun _ _ _ _ _ => True) (fun _ U o U' => ∃ v L, o = .returned v ∧ Q22_1 Z a b kb eV w0 h0 n0 v U'.heap L ∧ FrameEnd U o U' L ({ frames := 1, cells := 0, slots := 0, locals := 15 } : Room).cells ({ frames := 1, cells := 0, slots := 0, locals := 15 } : Room).slots) := by
  refine MetFree.of_bodySF (plainFor_of_name pn_java_util_ArrayList) hisR ?_
  intro p e s m args below meth c s₁ Bd hml0 hP hK
  obtain ⟨rfl, hZ, hh⟩ := hP
  have hx := Bd.exec
  have hby := Bd.bytes
  have hml : c.maxLocals = 2 := hml0
  have hown : s.vm.findClass "java/util/ArrayList" = some m.cls := findClass_of_methodNamed Bd.named
  have hnm := (name_of_methodNamed Bd.named Bd.method).1
  have X0 : Stand p l e ({ frames := 1, cells := 0, slots := 0, locals := 15 } : Room) s m #[(.ref a), eV] below meth c s₁ [] 0 0 := Stand.of_body Bd
  have e0 : s₁.heap = h0 := by rw [← hh, Bd.state]; rfl
  have N0 := Fr.nil n0
  obtain ⟨F, hF⟩ : ∃ F, F = own_Fin s (Q22_1 Z a b kb eV w0 h0 n0) ({ frames := 1, cells := 0, slots := 0, locals := 15 } : Room).cells ({ frames := 1, cells := 0, slots := 0, locals := 15 } : Room).slots := ⟨_, rfl⟩
  show own_Ends p e below (own_Fin s (Q22_1 Z a b kb eV w0 h0 n0) ({ frames := 1, cells := 0, slots := 0, locals := 15 } : Room).cells ({ frames := 1, cells := 0, slots := 0, locals := 15 } : Room).slots) _
  rw [← hF, ef_rm22_1 m a eV HE.cat]
  show own_Ends p e below F (s₁.setTop (mkF m 0 #[.val (.ref a), .val eV] []))
  refine own_step (fun _ k => XS.aloadN X0.here hx rfl (hb hby d22_0) rfl rfl k) ?_
  show own_Ends p e below F (s₁.setTop (mkF m 1 #[.val (.ref a), .val eV] [(.ref a)]))
  refine own_step (fun _ k => XS.dup X0.here hx rfl (hb hby d22_1) rfl rfl k) ?_
  show own_Ends p e below F (s₁.setTop (mkF m 2 #[.val (.ref a), .val eV] [(.ref a), (.ref a)]))
  obtain ⟨T1, X1, e1, st1⟩ := getF X0 hx hZ hown (host := "") (Or.inl (own_g hw 164 rfl)) (Via.of (own_g hw 165 rfl)) e0 F_modCount (g := (mkF m 2 #[.val (.ref a), .val eV] [(.ref a), (.ref a)])) rfl rfl (hb hby d22_2)
  refine own_step st1 ?_
  show own_Ends p e below F (T1.setTop (mkF m 5 #[.val (.ref a), .val eV] [(.int (1 : Int32)), (.ref a)]))
  refine own_step (fun _ k => XS.iconst X1.here hx rfl (hb hby d22_5) k) ?_
  show own_Ends p e below F (T1.setTop (mkF m 6 #[.val (.ref a), .val eV] [(.int (1 : Int32)), (.int (1 : Int32)), (.ref a)]))
  refine own_step (fun _ k => XS.iadd X1.here hx rfl (hb hby d22_6) rfl k) ?_
  show own_Ends p e below F (T1.setTop (mkF m 7 #[.val (.ref a), .val eV] [(.int (2 : Int32)), (.ref a)]))
  obtain ⟨T2, h2, X2, e2, W2, st2⟩ := putF X1 hx hZ hown (host := "") (Or.inl (own_g hw 164 rfl)) (Via.of (own_g hw 165 rfl)) e1 F_modCount EX (Or.inl (own_g hw 22 rfl)) (own_g hw 1 rfl) (ty := .int) (by decide) rfl rfl (g := (mkF m 7 #[.val (.ref a), .val eV] [(.int (2 : Int32)), (.ref a)])) rfl rfl (hb hby d22_7)
  refine own_step st2 ?_
  have F2 := Fld.same W2 F_modCount
  have N2 := Fr.snoc X2 N0 ge
  have Z2 : n0 ≤ h2.size := by rw [W2.size]; exact Z0
  have SZ2 : h0.size ≤ h2.size := by rw [W2.size]; exact (Nat.le_refl h0.size)
  show own_Ends p e below F (T2.setTop (mkF m 10 #[.val (.ref a), .val eV] []))
  refine own_step (fun _ k => XS.aloadN X2.here hx rfl (hb hby d22_10) rfl rfl k) ?_
  show own_Ends p e below F (T2.setTop (mkF m 11 #[.val (.ref a), .val eV] [(.ref a)]))
  refine own_step (fun _ k => XS.aloadN X2.here hx rfl (hb hby d22_11) rfl HE.isref k) ?_
  show own_Ends p e below F (T2.setTop (mkF m 12 #[.val (.ref a), .val eV] [eV, (.ref a)]))
  refine own_step (fun _ k => XS.aloadN X2.here hx rfl (hb hby d22_12) rfl rfl k) ?_
  show own_Ends p e below F (T2.setTop (mkF m 13 #[.val (.ref a), .val eV] [(.ref a), eV, (.ref a)]))
  obtain ⟨T3, X3, e3, st3⟩ := getF X2 hx hZ hown (host := "") (Or.inl (own_g hw 24 rfl)) Via.refl e2 (Fld.other W2 F_elementData (Or.inr (slot_ne (t := (.array (.object "java/lang/Object"))) (t' := .int) (Or.inl (own_g hw 25 rfl)) (Or.inl (own_g hw 22 rfl)) (by decide) (by decide) (by decide)))) (g := (mkF m 13 #[.val (.ref a), .val eV] [(.ref a), eV, (.ref a)])) rfl rfl (hb hby d22_13)
  refine own_step st3 ?_
  show own_Ends p e below F (T3.setTop (mkF m 16 #[.val (.ref a), .val eV] [(.ref b), eV, (.ref a)]))
  refine own_step (fun _ k => XS.aloadN X3.here hx rfl (hb hby d22_16) rfl rfl k) ?_
  show own_Ends p e below F (T3.setTop (mkF m 17 #[.val (.ref a), .val eV] [(.ref a), (.ref b), eV, (.ref a)]))
  obtain ⟨T4, X4, e4, st4⟩ := getF X3 hx hZ hown (host := "") (Or.inl (own_g hw 78 rfl)) Via.refl e3 (Fld.other W2 F_size (Or.inr (slot_ne (t := .int) (t' := .int) (Or.inl (own_g hw 79 rfl)) (Or.inl (own_g hw 22 rfl)) (by decide) (by decide) (by decide)))) (g := (mkF m 17 #[.val (.ref a), .val eV] [(.ref a), (.ref b), eV, (.ref a)])) rfl rfl (hb hby d22_17)
  refine own_step st4 ?_
  show own_Ends p e below F (T4.setTop (mkF m 20 #[.val (.ref a), .val eV] [(.int (1 : Int32)), (.ref b), eV, (.ref a)]))
  obtain ⟨cq5, q5, q5'⟩ := ((EX.wr W2)).cell
  obtain ⟨_, _, ⟨T5, L5, k5, n5⟩, -, X5, ⟨Lc5, hQ5, l5, y5, z5⟩, st5⟩ := X4.privateBack hx (y := (⟨"java/util/ArrayList", "add", "(Ljava/lang/Object;[Ljava/lang/Object;I)V"⟩ : MethodName)) hown (mvT hZ (own_g hw 166 rfl)) (mvT hZ (own_g hw 167 rfl)) (mvT hZ (own_g hw 169 rfl)) (Cond.privateMethod_at (mvP hZ (own_g hw 168 rfl) (args := #[]))) (mvT hZ (own_g hw 170 rfl)) (by decide) (backOf (W := 0) (rm23_1 l Z a0 hw [] a b kb eV w0 h2 n0 Z2 (EX.wr W2) ge F2 (Fld.other W2 F_elementData (Or.inr (slot_ne (t := (.array (.object "java/lang/Object"))) (t' := .int) (Or.inl (own_g hw 25 rfl)) (Or.inl (own_g hw 22 rfl)) (by decide) (by decide) (by decide)))) (Fld.other W2 F_size (Or.inr (slot_ne (t := .int) (t' := .int) (Or.inl (own_g hw 79 rfl)) (Or.inl (own_g hw 22 rfl)) (by decide) (by decide) (by decide)))) (HE.wr W2) (VB.other W2 (Ne.symm (EX.neArv VB (own_g hw 1 rfl)))) OB geb) hZ (own_g hw 170 rfl) (own_g hw 2 rfl) (by decide) (by decide)) (g := (mkF m 20 #[.val (.ref a), .val eV] [(.int (1 : Int32)), (.ref b), eV, (.ref a)])) rfl (by rw [hml]; rfl) (Steps.refl _) (a := a) (by rw [e4]; exact q5) q5' (argsL := [eV, (.ref b), (.int (1 : Int32))]) (rest := []) (lenOf pd__28Ljava_2flang_2fObject_3b_5bLjava_2flang_2fObject_3bI_29V rfl) rfl (by show 2 * 0 + _ ≤ _; exact Nat.le_of_eq rfl) (hb hby d22_20) (fun _ _ => ⟨rfl, e4, (by decide : 0 + 0 ≤ _), (by decide : 0 + 0 ≤ _)⟩)
  dsimp only [Pt.U, Pt.locs, Pt.cells, Pt.slots] at X5 l5 y5 z5 st5 hQ5
  subst l5 y5 z5
  obtain ⟨rfl, Nq5, Kq5, fq0_5, fq1_5, fq2_5, fq3_5, fq4_5⟩ := hQ5
  have N5 := Fr.app N2 Nq5
  have Z5 : n0 ≤ T5.heap.size := Nat.le_trans Z2 Kq5.1
  have SZ5 : h0.size ≤ T5.heap.size := Nat.le_trans SZ2 Kq5.1
  refine own_trans st5 ?_
  show own_Ends p e below F (T5.setTop (mkF m 23 #[.val (.ref a), .val eV] []))
  refine own_step (fun _ k => XS.iconst X5.here hx rfl (hb hby d22_23) k) ?_
  show own_Ends p e below F (T5.setTop (mkF m 24 #[.val (.ref a), .val eV] [(.int (1 : Int32))]))
  rw [hF]
  exact own_ret X5 (v := (some (.int (nar .boolean (1 : Int32))))) (fun h => by rw [Bd.returns] at h; cases h) Bd.notSynchronized (fun fs hr => retN X5 hx (t := .boolean) Bd.returns (by simp) (hb hby d22_24) hr) (by decide) (by decide) (by exact ⟨rfl, N5, ((Keep.trans (Keep.wr (Keep.refl _ _) W2 (Or.inl (List.mem_of_getElem? (i := 0) rfl))) Kq5 (allS (Or.inl (List.mem_of_getElem? (i := 0) rfl)) (allS (Or.inl (List.mem_of_getElem? (i := 1) rfl)) all0))) : Keep h0 T5.heap [a, b]), fq0_5, fq1_5, fq2_5, fq3_5, fq4_5⟩)

theorem ef_rm23_2 (m : MethodId) (x0 : Addr) (x1 : Value) (x2 : Addr) (x3 : Int32) (c1 : Value.category x1 = 1) : entryFrame m #[(.ref x0), x1, (.ref x2), (.int x3)] 4 = mkF m 0 #[.val (.ref x0), .val x1, .val (.ref x2), .val (.int x3)] [] := by exact own_efl m [_, _, _, _] 4 (by intro v hv; simp only [List.mem_cons, List.not_mem_nil, or_false] at hv; rcases hv with rfl | rfl | rfl | rfl <;> first | rfl | assumption) rfl
def Q23_2 (Z : State) (a b : Addr) (kb : ClassId) (eV w0 w1 : Value) (h0 : Heap) (n0 : Nat) (v : Option Value) (h : Heap) (L : List Loc) : Prop := v = none ∧ Fr n0 L ∧ Keep h0 h [a, b] ∧ Exa Z h a "java/util/ArrayList" ∧ Fld Z h a "java/util/AbstractList" "modCount" "I" (.int (3 : Int32)) ∧ Fld Z h a "java/util/ArrayList" "elementData" "[Ljava/lang/Object;" (.ref b) ∧ Fld Z h a "java/util/ArrayList" "size" "I" (.int (3 : Int32)) ∧ Arv Z h b kb (.object "java/lang/Object") (10 : Int32) [w0, w1, eV, .null, .null, .null, .null, .null, .null, .null] .null
set_option maxRecDepth 65536 in
set_option maxHeartbeats 40000000 in
theorem rm23_2 (l : Launch) (Z : State) (a0 : Array Value) (hw : ∀ d ∈ tables_1, d.before a0 Z = true) (ws : List Jvm.Cond) (a b : Addr) (kb : ClassId) (eV w0 w1 : Value) (h0 : Heap) (n0 : Nat) (Z0 : n0 ≤ h0.size) (EX : Exa Z h0 a "java/util/ArrayList") (ge : n0 ≤ a) (F_modCount : Fld Z h0 a "java/util/AbstractList" "modCount" "I" (.int (3 : Int32))) (F_elementData : Fld Z h0 a "java/util/ArrayList" "elementData" "[Ljava/lang/Object;" (.ref b)) (F_size : Fld Z h0 a "java/util/ArrayList" "size" "I" (.int (2 : Int32))) (HE : own_Ob Z h0 eV) (VB : Arv Z h0 b kb (.object "java/lang/Object") (10 : Int32) [w0, w1, .null, .null, .null, .null, .null, .null, .null, .null] .null) (OB : Ovr Z kb "java/lang/Object") (geb : n0 ≤ b) :
    MetFree l (⟨"java/util/ArrayList", "add", "(Ljava/lang/Object;[Ljava/lang/Object;I)V"⟩ : MethodName) (head1 (Jvm.Cond.code (⟨"java/util/ArrayList", "add", "(Ljava/lang/Object;[Ljava/lang/Object;I)V"⟩ : MethodName) jdk_38_method_24_code 4 none :: ws) ({ frames := 0, cells := 0, slots := 0, locals := 0 } : Room)) (fun ar U => ar = #[(.ref a), eV, (.ref b), (.int (2 : Int32))] ∧ Z.Warmed39 U.vm ∧ U.heap = h0) (fun _ _ _ _ _ => True) (fun _ U o U' => ∃ v L, o = .returned v ∧ Q23_2 Z a b kb eV w0 w1 h0 n0 v U'.heap L ∧ FrameEnd U o U' L ({ frames := 0, cells := 0, slots := 0, locals := 0 } : Room).cells ({ frames := 0, cells := 0, slots := 0, locals := 0 } : Room).slots) := by
  refine MetFree.of_bodySF (plainFor_of_name pn_java_util_ArrayList) hisR ?_
  intro p e s m args below meth c s₁ Bd hml0 hP hK
  obtain ⟨rfl, hZ, hh⟩ := hP
  have hx := Bd.exec
  have hby := Bd.bytes
  have hml : c.maxLocals = 4 := hml0
  have hown : s.vm.findClass "java/util/ArrayList" = some m.cls := findClass_of_methodNamed Bd.named
  have hnm := (name_of_methodNamed Bd.named Bd.method).1
  have X0 : Stand p l e ({ frames := 0, cells := 0, slots := 0, locals := 0 } : Room) s m #[(.ref a), eV, (.ref b), (.int (2 : Int32))] below meth c s₁ [] 0 0 := Stand.of_body Bd
  have e0 : s₁.heap = h0 := by rw [← hh, Bd.state]; rfl
  have N0 := Fr.nil n0
  obtain ⟨F, hF⟩ : ∃ F, F = own_Fin s (Q23_2 Z a b kb eV w0 w1 h0 n0) ({ frames := 0, cells := 0, slots := 0, locals := 0 } : Room).cells ({ frames := 0, cells := 0, slots := 0, locals := 0 } : Room).slots := ⟨_, rfl⟩
  show own_Ends p e below (own_Fin s (Q23_2 Z a b kb eV w0 w1 h0 n0) ({ frames := 0, cells := 0, slots := 0, locals := 0 } : Room).cells ({ frames := 0, cells := 0, slots := 0, locals := 0 } : Room).slots) _
  rw [← hF, ef_rm23_2 m a eV b (2 : Int32) HE.cat]
  show own_Ends p e below F (s₁.setTop (mkF m 0 #[.val (.ref a), .val eV, .val (.ref b), .val (.int (2 : Int32))] []))
  refine own_step (fun _ k => XS.iloadN X0.here hx rfl (hb hby d23_0) rfl k) ?_
  show own_Ends p e below F (s₁.setTop (mkF m 1 #[.val (.ref a), .val eV, .val (.ref b), .val (.int (2 : Int32))] [(.int (2 : Int32))]))
  refine own_step (fun _ k => XS.aloadN X0.here hx rfl (hb hby d23_1) rfl rfl k) ?_
  show own_Ends p e below F (s₁.setTop (mkF m 2 #[.val (.ref a), .val eV, .val (.ref b), .val (.int (2 : Int32))] [(.ref b), (.int (2 : Int32))]))
  obtain ⟨cl1, Ar1, q1, S1, M1, H1, G1⟩ := id VB
  have al1 := X0.arraylength hx (by rw [e0]; exact Ar1.1) (State.isArrayOf_alike hZ.alike Ar1.2.1) (g := (mkF m 2 #[.val (.ref a), .val eV, .val (.ref b), .val (.int (2 : Int32))] [(.ref b), (.int (2 : Int32))])) rfl rfl (hb hby d23_2)
  rw [len_of S1 M1] at al1
  refine own_step al1 ?_
  show own_Ends p e below F (s₁.setTop (mkF m 3 #[.val (.ref a), .val eV, .val (.ref b), .val (.int (2 : Int32))] [(.int (10 : Int32)), (.int (2 : Int32))]))
  refine own_step (fun _ k => XS.icmpYes X0.here hx rfl (pc0 := 3) (pc' := 11) rfl (hb hby d23_3) rfl (feq (by decide : ¬ ((2 : Int32) = (10 : Int32)))).2 (by decide) (by decide) k) ?_
  show own_Ends p e below F (s₁.setTop (mkF m 11 #[.val (.ref a), .val eV, .val (.ref b), .val (.int (2 : Int32))] []))
  refine own_step (fun _ k => XS.aloadN X0.here hx rfl (hb hby d23_11) rfl rfl k) ?_
  show own_Ends p e below F (s₁.setTop (mkF m 12 #[.val (.ref a), .val eV, .val (.ref b), .val (.int (2 : Int32))] [(.ref b)]))
  refine own_step (fun _ k => XS.iloadN X0.here hx rfl (hb hby d23_12) rfl k) ?_
  show own_Ends p e below F (s₁.setTop (mkF m 13 #[.val (.ref a), .val eV, .val (.ref b), .val (.int (2 : Int32))] [(.int (2 : Int32)), (.ref b)]))
  refine own_step (fun _ k => XS.aloadN X0.here hx rfl (hb hby d23_13) rfl HE.isref k) ?_
  show own_Ends p e below F (s₁.setTop (mkF m 14 #[.val (.ref a), .val eV, .val (.ref b), .val (.int (2 : Int32))] [eV, (.int (2 : Int32)), (.ref b)]))
  obtain ⟨cl2, Ar2, q2, S2, M2, H2, G2⟩ := id VB
  have hin2 : ¬ ((2 : Int32) < 0 ∨ cl2.slots.size ≤ ((2 : Int32) : Int32).toNatClampNeg) := inb_of S2 ⟨by decide, by decide⟩
  obtain ⟨T2, h2, X2, e2, W2, st2⟩ := stR X0 hx hZ e0 Ar2 (j := (2 : Int32)) hin2 rfl (own_Ob.sto HE Ar2 q2 OB) (g := (mkF m 14 #[.val (.ref a), .val eV, .val (.ref b), .val (.int (2 : Int32))] [eV, (.int (2 : Int32)), (.ref b)])) rfl rfl (hb hby d23_14)
  have V2 := Arv.set Ar2 q2 S2 M2 H2 G2 HE.fit W2 2 rfl (Nat.le_of_ble_eq_true rfl)
  have V2 : Arv Z h2 b kb (.object "java/lang/Object") (10 : Int32) [w0, w1, eV, .null, .null, .null, .null, .null, .null, .null] .null := V2
  refine own_step st2 ?_
  have N2 := Fr.snoc X2 N0 geb
  have Z2 : n0 ≤ h2.size := by rw [W2.size]; exact Z0
  have SZ2 : h0.size ≤ h2.size := by rw [W2.size]; exact (Nat.le_refl h0.size)
  show own_Ends p e below F (T2.setTop (mkF m 15 #[.val (.ref a), .val eV, .val (.ref b), .val (.int (2 : Int32))] []))
  refine own_step (fun _ k => XS.aloadN X2.here hx rfl (hb hby d23_15) rfl rfl k) ?_
  show own_Ends p e below F (T2.setTop (mkF m 16 #[.val (.ref a), .val eV, .val (.ref b), .val (.int (2 : Int32))] [(.ref a)]))
  refine own_step (fun _ k => XS.iloadN X2.here hx rfl (hb hby d23_16) rfl k) ?_
  show own_Ends p e below F (T2.setTop (mkF m 17 #[.val (.ref a), .val eV, .val (.ref b), .val (.int (2 : Int32))] [(.int (2 : Int32)), (.ref a)]))
  refine own_step (fun _ k => XS.iconst X2.here hx rfl (hb hby d23_17) k) ?_
  show own_Ends p e below F (T2.setTop (mkF m 18 #[.val (.ref a), .val eV, .val (.ref b), .val (.int (2 : Int32))] [(.int (1 : Int32)), (.int (2 : Int32)), (.ref a)]))
  refine own_step (fun _ k => XS.iadd X2.here hx rfl (hb hby d23_18) rfl k) ?_
  show own_Ends p e below F (T2.setTop (mkF m 19 #[.val (.ref a), .val eV, .val (.ref b), .val (.int (2 : Int32))] [(.int (3 : Int32)), (.ref a)]))
  obtain ⟨T3, h3, X3, e3, W3, st3⟩ := putF X2 hx hZ hown (host := "") (Or.inl (own_g hw 78 rfl)) Via.refl e2 (Fld.other W2 F_size (Or.inl (EX.neArv VB (own_g hw 1 rfl)))) (EX.wr W2) (Or.inl (own_g hw 79 rfl)) (own_g hw 1 rfl) (ty := .int) (by decide) rfl rfl (g := (mkF m 19 #[.val (.ref a), .val eV, .val (.ref b), .val (.int (2 : Int32))] [(.int (3 : Int32)), (.ref a)])) rfl rfl (hb hby d23_19)
  refine own_step st3 ?_
  have F3 := Fld.same W3 (Fld.other W2 F_size (Or.inl (EX.neArv VB (own_g hw 1 rfl))))
  have N3 := Fr.snoc X3 N2 ge
  have Z3 : n0 ≤ h3.size := by rw [W3.size]; exact Z2
  have SZ3 : h0.size ≤ h3.size := by rw [W3.size]; exact SZ2
  show own_Ends p e below F (T3.setTop (mkF m 22 #[.val (.ref a), .val eV, .val (.ref b), .val (.int (2 : Int32))] []))
  rw [hF]
  exact own_ret X3 (v := none) (fun _ => rfl) Bd.notSynchronized (fun fs hr => X3.returnOut hx Bd.returns (hb hby d23_22) hr) (by decide) (by decide) (by rw [e3]; exact ⟨rfl, N3, ((Keep.wr (Keep.wr (Keep.refl _ _) W2 (Or.inl (List.mem_of_getElem? (i := 1) rfl))) W3 (Or.inl (List.mem_of_getElem? (i := 0) rfl))) : Keep h0 h3 [a, b]), ((EX.wr W2).wr W3), (Fld.other W3 (Fld.other W2 F_modCount (Or.inl (EX.neArv VB (own_g hw 1 rfl)))) (Or.inr (slot_ne (t := .int) (t' := .int) (Or.inl (own_g hw 22 rfl)) (Or.inl (own_g hw 79 rfl)) (by decide) (by decide) (by decide)))), (Fld.other W3 (Fld.other W2 F_elementData (Or.inl (EX.neArv VB (own_g hw 1 rfl)))) (Or.inr (slot_ne (t := (.array (.object "java/lang/Object"))) (t' := .int) (Or.inl (own_g hw 25 rfl)) (Or.inl (own_g hw 79 rfl)) (by decide) (by decide) (by decide)))), F3, (V2.other W3 (Ne.symm (EX.neArv VB (own_g hw 1 rfl))))⟩)

theorem ef_rm22_2 (m : MethodId) (x0 : Addr) (x1 : Value) (c1 : Value.category x1 = 1) : entryFrame m #[(.ref x0), x1] 2 = mkF m 0 #[.val (.ref x0), .val x1] [] := by exact own_efl m [_, _] 2 (by intro v hv; simp only [List.mem_cons, List.not_mem_nil, or_false] at hv; rcases hv with rfl | rfl <;> first | rfl | assumption) rfl
def Q22_2 (Z : State) (a b : Addr) (kb : ClassId) (eV w0 w1 : Value) (h0 : Heap) (n0 : Nat) (v : Option Value) (h : Heap) (L : List Loc) : Prop := v = some (.int 1) ∧ Fr n0 L ∧ Keep h0 h [a, b] ∧ Exa Z h a "java/util/ArrayList" ∧ Fld Z h a "java/util/AbstractList" "modCount" "I" (.int (3 : Int32)) ∧ Fld Z h a "java/util/ArrayList" "elementData" "[Ljava/lang/Object;" (.ref b) ∧ Fld Z h a "java/util/ArrayList" "size" "I" (.int (3 : Int32)) ∧ Arv Z h b kb (.object "java/lang/Object") (10 : Int32) [w0, w1, eV, .null, .null, .null, .null, .null, .null, .null] .null
set_option maxRecDepth 65536 in
set_option maxHeartbeats 40000000 in
theorem rm22_2 (l : Launch) (Z : State) (a0 : Array Value) (hw : ∀ d ∈ tables_1, d.before a0 Z = true) (ws : List Jvm.Cond) (a b : Addr) (kb : ClassId) (eV w0 w1 : Value) (h0 : Heap) (n0 : Nat) (Z0 : n0 ≤ h0.size) (EX : Exa Z h0 a "java/util/ArrayList") (ge : n0 ≤ a) (F_modCount : Fld Z h0 a "java/util/AbstractList" "modCount" "I" (.int (2 : Int32))) (F_elementData : Fld Z h0 a "java/util/ArrayList" "elementData" "[Ljava/lang/Object;" (.ref b)) (F_size : Fld Z h0 a "java/util/ArrayList" "size" "I" (.int (2 : Int32))) (HE : own_Ob Z h0 eV) (VB : Arv Z h0 b kb (.object "java/lang/Object") (10 : Int32) [w0, w1, .null, .null, .null, .null, .null, .null, .null, .null] .null) (OB : Ovr Z kb "java/lang/Object") (geb : n0 ≤ b) :
    MetFree l (⟨"java/util/ArrayList", "add", "(Ljava/lang/Object;)Z"⟩ : MethodName) (head1 (Jvm.Cond.code (⟨"java/util/ArrayList", "add", "(Ljava/lang/Object;)Z"⟩ : MethodName) jdk_38_method_25_code 2 (some .boolean) :: ws) ({ frames := 1, cells := 0, slots := 0, locals := 15 } : Room)) (fun ar U => ar = #[(.ref a), eV] ∧ Z.Warmed39 U.vm ∧ U.heap = h0) (fun _ _ _ _ _ => True) (fun _ U o U' => ∃ v L, o = .returned v ∧ Q22_2 Z a b kb eV w0 w1 h0 n0 v U'.heap L ∧ FrameEnd U o U' L ({ frames := 1, cells := 0, slots := 0, locals := 15 } : Room).cells ({ frames := 1, cells := 0, slots := 0, locals := 15 } : Room).slots) := by
  refine MetFree.of_bodySF (plainFor_of_name pn_java_util_ArrayList) hisR ?_
  intro p e s m args below meth c s₁ Bd hml0 hP hK
  obtain ⟨rfl, hZ, hh⟩ := hP
  have hx := Bd.exec
  have hby := Bd.bytes
  have hml : c.maxLocals = 2 := hml0
  have hown : s.vm.findClass "java/util/ArrayList" = some m.cls := findClass_of_methodNamed Bd.named
  have hnm := (name_of_methodNamed Bd.named Bd.method).1
  have X0 : Stand p l e ({ frames := 1, cells := 0, slots := 0, locals := 15 } : Room) s m #[(.ref a), eV] below meth c s₁ [] 0 0 := Stand.of_body Bd
  have e0 : s₁.heap = h0 := by rw [← hh, Bd.state]; rfl
  have N0 := Fr.nil n0
  obtain ⟨F, hF⟩ : ∃ F, F = own_Fin s (Q22_2 Z a b kb eV w0 w1 h0 n0) ({ frames := 1, cells := 0, slots := 0, locals := 15 } : Room).cells ({ frames := 1, cells := 0, slots := 0, locals := 15 } : Room).slots := ⟨_, rfl⟩
  show own_Ends p e below (own_Fin s (Q22_2 Z a b kb eV w0 w1 h0 n0) ({ frames := 1, cells := 0, slots := 0, locals := 15 } : Room).cells ({ frames := 1, cells := 0, slots := 0, locals := 15 } : Room).slots) _
  rw [← hF, ef_rm22_2 m a eV HE.cat]
  show own_Ends p e below F (s₁.setTop (mkF m 0 #[.val (.ref a), .val eV] []))
  refine own_step (fun _ k => XS.aloadN X0.here hx rfl (hb hby d22_0) rfl rfl k) ?_
  show own_Ends p e below F (s₁.setTop (mkF m 1 #[.val (.ref a), .val eV] [(.ref a)]))
  refine own_step (fun _ k => XS.dup X0.here hx rfl (hb hby d22_1) rfl rfl k) ?_
  show own_Ends p e below F (s₁.setTop (mkF m 2 #[.val (.ref a), .val eV] [(.ref a), (.ref a)]))
  obtain ⟨T1, X1, e1, st1⟩ := getF X0 hx hZ hown (host := "") (Or.inl (own_g hw 164 rfl)) (Via.of (own_g hw 165 rfl)) e0 F_modCount (g := (mkF m 2 #[.val (.ref a), .val eV] [(.ref a), (.ref a)])) rfl rfl (hb hby d22_2)
  refine own_step st1 ?_
  show own_Ends p e below F (T1.setTop (mkF m 5 #[.val (.ref a), .val eV] [(.int (2 : Int32)), (.ref a)]))
  refine own_step (fun _ k => XS.iconst X1.here hx rfl (hb hby d22_5) k) ?_
  show own_Ends p e below F (T1.setTop (mkF m 6 #[.val (.ref a), .val eV] [(.int (1 : Int32)), (.int (2 : Int32)), (.ref a)]))
  refine own_step (fun _ k => XS.iadd X1.here hx rfl (hb hby d22_6) rfl k) ?_
  show own_Ends p e below F (T1.setTop (mkF m 7 #[.val (.ref a), .val eV] [(.int (3 : Int32)), (.ref a)]))
  obtain ⟨T2, h2, X2, e2, W2, st2⟩ := putF X1 hx hZ hown (host := "") (Or.inl (own_g hw 164 rfl)) (Via.of (own_g hw 165 rfl)) e1 F_modCount EX (Or.inl (own_g hw 22 rfl)) (own_g hw 1 rfl) (ty := .int) (by decide) rfl rfl (g := (mkF m 7 #[.val (.ref a), .val eV] [(.int (3 : Int32)), (.ref a)])) rfl rfl (hb hby d22_7)
  refine own_step st2 ?_
  have F2 := Fld.same W2 F_modCount
  have N2 := Fr.snoc X2 N0 ge
  have Z2 : n0 ≤ h2.size := by rw [W2.size]; exact Z0
  have SZ2 : h0.size ≤ h2.size := by rw [W2.size]; exact (Nat.le_refl h0.size)
  show own_Ends p e below F (T2.setTop (mkF m 10 #[.val (.ref a), .val eV] []))
  refine own_step (fun _ k => XS.aloadN X2.here hx rfl (hb hby d22_10) rfl rfl k) ?_
  show own_Ends p e below F (T2.setTop (mkF m 11 #[.val (.ref a), .val eV] [(.ref a)]))
  refine own_step (fun _ k => XS.aloadN X2.here hx rfl (hb hby d22_11) rfl HE.isref k) ?_
  show own_Ends p e below F (T2.setTop (mkF m 12 #[.val (.ref a), .val eV] [eV, (.ref a)]))
  refine own_step (fun _ k => XS.aloadN X2.here hx rfl (hb hby d22_12) rfl rfl k) ?_
  show own_Ends p e below F (T2.setTop (mkF m 13 #[.val (.ref a), .val eV] [(.ref a), eV, (.ref a)]))
  obtain ⟨T3, X3, e3, st3⟩ := getF X2 hx hZ hown (host := "") (Or.inl (own_g hw 24 rfl)) Via.refl e2 (Fld.other W2 F_elementData (Or.inr (slot_ne (t := (.array (.object "java/lang/Object"))) (t' := .int) (Or.inl (own_g hw 25 rfl)) (Or.inl (own_g hw 22 rfl)) (by decide) (by decide) (by decide)))) (g := (mkF m 13 #[.val (.ref a), .val eV] [(.ref a), eV, (.ref a)])) rfl rfl (hb hby d22_13)
  refine own_step st3 ?_
  show own_Ends p e below F (T3.setTop (mkF m 16 #[.val (.ref a), .val eV] [(.ref b), eV, (.ref a)]))
  refine own_step (fun _ k => XS.aloadN X3.here hx rfl (hb hby d22_16) rfl rfl k) ?_
  show own_Ends p e below F (T3.setTop (mkF m 17 #[.val (.ref a), .val eV] [(.ref a), (.ref b), eV, (.ref a)]))
  obtain ⟨T4, X4, e4, st4⟩ := getF X3 hx hZ hown (host := "") (Or.inl (own_g hw 78 rfl)) Via.refl e3 (Fld.other W2 F_size (Or.inr (slot_ne (t := .int) (t' := .int) (Or.inl (own_g hw 79 rfl)) (Or.inl (own_g hw 22 rfl)) (by decide) (by decide) (by decide)))) (g := (mkF m 17 #[.val (.ref a), .val eV] [(.ref a), (.ref b), eV, (.ref a)])) rfl rfl (hb hby d22_17)
  refine own_step st4 ?_
  show own_Ends p e below F (T4.setTop (mkF m 20 #[.val (.ref a), .val eV] [(.int (2 : Int32)), (.ref b), eV, (.ref a)]))
  obtain ⟨cq5, q5, q5'⟩ := ((EX.wr W2)).cell
  obtain ⟨_, _, ⟨T5, L5, k5, n5⟩, -, X5, ⟨Lc5, hQ5, l5, y5, z5⟩, st5⟩ := X4.privateBack hx (y := (⟨"java/util/ArrayList", "add", "(Ljava/lang/Object;[Ljava/lang/Object;I)V"⟩ : MethodName)) hown (mvT hZ (own_g hw 166 rfl)) (mvT hZ (own_g hw 167 rfl)) (mvT hZ (own_g hw 169 rfl)) (Cond.privateMethod_at (mvP hZ (own_g hw 168 rfl) (args := #[]))) (mvT hZ (own_g hw 170 rfl)) (by decide) (backOf (W := 0) (rm23_2 l Z a0 hw [] a b kb eV w0 w1 h2 n0 Z2 (EX.wr W2) ge F2 (Fld.other W2 F_elementData (Or.inr (slot_ne (t := (.array (.object "java/lang/Object"))) (t' := .int) (Or.inl (own_g hw 25 rfl)) (Or.inl (own_g hw 22 rfl)) (by decide) (by decide) (by decide)))) (Fld.other W2 F_size (Or.inr (slot_ne (t := .int) (t' := .int) (Or.inl (own_g hw 79 rfl)) (Or.inl (own_g hw 22 rfl)) (by decide) (by decide) (by decide)))) (HE.wr W2) (VB.other W2 (Ne.symm (EX.neArv VB (own_g hw 1 rfl)))) OB geb) hZ (own_g hw 170 rfl) (own_g hw 2 rfl) (by decide) (by decide)) (g := (mkF m 20 #[.val (.ref a), .val eV] [(.int (2 : Int32)), (.ref b), eV, (.ref a)])) rfl (by rw [hml]; rfl) (Steps.refl _) (a := a) (by rw [e4]; exact q5) q5' (argsL := [eV, (.ref b), (.int (2 : Int32))]) (rest := []) (lenOf pd__28Ljava_2flang_2fObject_3b_5bLjava_2flang_2fObject_3bI_29V rfl) rfl (by show 2 * 0 + _ ≤ _; exact Nat.le_of_eq rfl) (hb hby d22_20) (fun _ _ => ⟨rfl, e4, (by decide : 0 + 0 ≤ _), (by decide : 0 + 0 ≤ _)⟩)
  dsimp only [Pt.U, Pt.locs, Pt.cells, Pt.slots] at X5 l5 y5 z5 st5 hQ5
  subst l5 y5 z5
  obtain ⟨rfl, Nq5, Kq5, fq0_5, fq1_5, fq2_5, fq3_5, fq4_5⟩ := hQ5
  have N5 := Fr.app N2 Nq5
  have Z5 : n0 ≤ T5.heap.size := Nat.le_trans Z2 Kq5.1
  have SZ5 : h0.size ≤ T5.heap.size := Nat.le_trans SZ2 Kq5.1
  refine own_trans st5 ?_
  show own_Ends p e below F (T5.setTop (mkF m 23 #[.val (.ref a), .val eV] []))
  refine own_step (fun _ k => XS.iconst X5.here hx rfl (hb hby d22_23) k) ?_
  show own_Ends p e below F (T5.setTop (mkF m 24 #[.val (.ref a), .val eV] [(.int (1 : Int32))]))
  rw [hF]
  exact own_ret X5 (v := (some (.int (nar .boolean (1 : Int32))))) (fun h => by rw [Bd.returns] at h; cases h) Bd.notSynchronized (fun fs hr => retN X5 hx (t := .boolean) Bd.returns (by simp) (hb hby d22_24) hr) (by decide) (by decide) (by exact ⟨rfl, N5, ((Keep.trans (Keep.wr (Keep.refl _ _) W2 (Or.inl (List.mem_of_getElem? (i := 0) rfl))) Kq5 (allS (Or.inl (List.mem_of_getElem? (i := 0) rfl)) (allS (Or.inl (List.mem_of_getElem? (i := 1) rfl)) all0))) : Keep h0 T5.heap [a, b]), fq0_5, fq1_5, fq2_5, fq3_5, fq4_5⟩)

theorem d29_0 : decode jdk_18_method_1_code 0 = .ok (.aload_n 0, 1) := by decide +kernel
theorem d29_1 : decode jdk_18_method_1_code 1 = .ok (.invokespecial 1, 3) := by decide +kernel
theorem d29_4 : decode jdk_18_method_1_code 4 = .ok (.return_, 1) := by decide +kernel
theorem pn_java_lang_Number : plainName "java/lang/Number" = true := by first | (simp [plainName, overriddenIn]; done) | decide +kernel
theorem ef_rm29 (m : MethodId) (x0 : Addr) : entryFrame m #[(.ref x0)] 1 = mkF m 0 #[.val (.ref x0)] [] := by first | (simp [entryFrame, mkF, argsToLocals, Value.category, maxLocals]; done) | rfl
def Q29 (Z : State) (a : Addr) (h0 : Heap) (n0 : Nat) (v : Option Value) (h : Heap) (L : List Loc) : Prop := v = none ∧ Fr n0 L ∧ h = h0
set_option maxRecDepth 65536 in
set_option maxHeartbeats 40000000 in
theorem rm29 (l : Launch) (Z : State) (a0 : Array Value) (hw : ∀ d ∈ tables_1, d.before a0 Z = true) (ws : List Jvm.Cond) (a : Addr) (h0 : Heap) (n0 : Nat) (Z0 : n0 ≤ h0.size)  :
    MetFree l (⟨"java/lang/Number", "<init>", "()V"⟩ : MethodName) (head1 (Jvm.Cond.code (⟨"java/lang/Number", "<init>", "()V"⟩ : MethodName) jdk_18_method_1_code 1 none :: ws) ({ frames := 1, cells := 0, slots := 0, locals := 12 } : Room)) (fun ar U => ar = #[(.ref a)] ∧ Z.Warmed39 U.vm ∧ U.heap = h0) (fun _ _ _ _ _ => True) (fun _ U o U' => ∃ v L, o = .returned v ∧ Q29 Z a h0 n0 v U'.heap L ∧ FrameEnd U o U' L ({ frames := 1, cells := 0, slots := 0, locals := 12 } : Room).cells ({ frames := 1, cells := 0, slots := 0, locals := 12 } : Room).slots) := by
  refine MetFree.of_bodySF (plainFor_of_name pn_java_lang_Number) hisR ?_
  intro p e s m args below meth c s₁ Bd hml0 hP hK
  obtain ⟨rfl, hZ, hh⟩ := hP
  have hx := Bd.exec
  have hby := Bd.bytes
  have hml : c.maxLocals = 1 := hml0
  have hown : s.vm.findClass "java/lang/Number" = some m.cls := findClass_of_methodNamed Bd.named
  have hnm := (name_of_methodNamed Bd.named Bd.method).1
  have X0 : Stand p l e ({ frames := 1, cells := 0, slots := 0, locals := 12 } : Room) s m #[(.ref a)] below meth c s₁ [] 0 0 := Stand.of_body Bd
  have e0 : s₁.heap = h0 := by rw [← hh, Bd.state]; rfl
  have N0 := Fr.nil n0
  obtain ⟨F, hF⟩ : ∃ F, F = own_Fin s (Q29 Z a h0 n0) ({ frames := 1, cells := 0, slots := 0, locals := 12 } : Room).cells ({ frames := 1, cells := 0, slots := 0, locals := 12 } : Room).slots := ⟨_, rfl⟩
  show own_Ends p e below (own_Fin s (Q29 Z a h0 n0) ({ frames := 1, cells := 0, slots := 0, locals := 12 } : Room).cells ({ frames := 1, cells := 0, slots := 0, locals := 12 } : Room).slots) _
  rw [← hF, ef_rm29 m a]
  show own_Ends p e below F (s₁.setTop (mkF m 0 #[.val (.ref a)] []))
  refine own_step (fun _ k => XS.aloadN X0.here hx rfl (hb hby d29_0) rfl rfl k) ?_
  show own_Ends p e below F (s₁.setTop (mkF m 1 #[.val (.ref a)] [(.ref a)]))
  obtain ⟨T1, X1, e1, st1⟩ := initO X0 hx hZ hown (own_g hw 207 rfl) (own_g hw 19 rfl) (own_g hw 20 rfl) e0 (g := (mkF m 1 #[.val (.ref a)] [(.ref a)])) rfl (by rw [hml]; rfl) rfl (hb hby d29_1) (by decide) (W := 0) (by show 2 * 0 + _ ≤ _; exact Nat.le_of_eq rfl) (by decide)
  refine own_step st1 ?_
  show own_Ends p e below F (T1.setTop (mkF m 4 #[.val (.ref a)] []))
  rw [hF]
  exact own_ret X1 (v := none) (fun _ => rfl) Bd.notSynchronized (fun fs hr => X1.returnOut hx Bd.returns (hb hby d29_4) hr) (by decide) (by decide) (by rw [e1]; exact ⟨rfl, N0, rfl⟩)

theorem d28_0 : decode jdk_33_method_23_code 0 = .ok (.aload_n 0, 1) := by decide +kernel
theorem d28_1 : decode jdk_33_method_23_code 1 = .ok (.invokespecial 202, 3) := by decide +kernel
theorem d28_4 : decode jdk_33_method_23_code 4 = .ok (.aload_n 0, 1) := by decide +kernel
theorem d28_5 : decode jdk_33_method_23_code 5 = .ok (.iload_n 1, 1) := by decide +kernel
theorem d28_6 : decode jdk_33_method_23_code 6 = .ok (.putfield 205, 3) := by decide +kernel
theorem d28_9 : decode jdk_33_method_23_code 9 = .ok (.return_, 1) := by decide +kernel
theorem pn_java_lang_Integer : plainName "java/lang/Integer" = true := by first | (simp [plainName, overriddenIn]; done) | decide +kernel
theorem ef_rm28 (m : MethodId) (x0 : Addr) (x1 : Int32) : entryFrame m #[(.ref x0), (.int x1)] 2 = mkF m 0 #[.val (.ref x0), .val (.int x1)] [] := by first | (simp [entryFrame, mkF, argsToLocals, Value.category, maxLocals]; done) | rfl
def Q28 (Z : State) (a : Addr) (p1 : Int32) (h0 : Heap) (n0 : Nat) (v : Option Value) (h : Heap) (L : List Loc) : Prop := v = none ∧ Fr n0 L ∧ Keep h0 h [a] ∧ Exa Z h a "java/lang/Integer" ∧ Fld Z h a "java/lang/Integer" "value" "I" (.int p1)
set_option maxRecDepth 65536 in
set_option maxHeartbeats 40000000 in
theorem rm28 (l : Launch) (Z : State) (a0 : Array Value) (hw : ∀ d ∈ tables_1, d.before a0 Z = true) (ws : List Jvm.Cond) (a : Addr) (p1 : Int32) (h0 : Heap) (n0 : Nat) (Z0 : n0 ≤ h0.size) (EX : Exa Z h0 a "java/lang/Integer") (ge : n0 ≤ a) (F_value : Fld Z h0 a "java/lang/Integer" "value" "I" (.int (0 : Int32))) :
    MetFree l (⟨"java/lang/Integer", "<init>", "(I)V"⟩ : MethodName) (head1 (Jvm.Cond.code (⟨"java/lang/Integer", "<init>", "(I)V"⟩ : MethodName) jdk_33_method_23_code 2 none :: ws) ({ frames := 2, cells := 0, slots := 0, locals := 24 } : Room)) (fun ar U => ar = #[(.ref a), (.int p1)] ∧ Z.Warmed39 U.vm ∧ U.heap = h0) (fun _ _ _ _ _ => True) (fun _ U o U' => ∃ v L, o = .returned v ∧ Q28 Z a p1 h0 n0 v U'.heap L ∧ FrameEnd U o U' L ({ frames := 2, cells := 0, slots := 0, locals := 24 } : Room).cells ({ frames := 2, cells := 0, slots := 0, locals := 24 } : Room).slots) := by
  refine MetFree.of_bodySF (plainFor_of_name pn_java_lang_Integer) hisR ?_
  intro p e s m args below meth c s₁ Bd hml0 hP hK
  obtain ⟨rfl, hZ, hh⟩ := hP
  have hx := Bd.exec
  have hby := Bd.bytes
  have hml : c.maxLocals = 2 := hml0
  have hown : s.vm.findClass "java/lang/Integer" = some m.cls := findClass_of_methodNamed Bd.named
  have hnm := (name_of_methodNamed Bd.named Bd.method).1
  have X0 : Stand p l e ({ frames := 2, cells := 0, slots := 0, locals := 24 } : Room) s m #[(.ref a), (.int p1)] below meth c s₁ [] 0 0 := Stand.of_body Bd
  have e0 : s₁.heap = h0 := by rw [← hh, Bd.state]; rfl
  have N0 := Fr.nil n0
  obtain ⟨F, hF⟩ : ∃ F, F = own_Fin s (Q28 Z a p1 h0 n0) ({ frames := 2, cells := 0, slots := 0, locals := 24 } : Room).cells ({ frames := 2, cells := 0, slots := 0, locals := 24 } : Room).slots := ⟨_, rfl⟩
  show own_Ends p e below (own_Fin s (Q28 Z a p1 h0 n0) ({ frames := 2, cells := 0, slots := 0, locals := 24 } : Room).cells ({ frames := 2, cells := 0, slots := 0, locals := 24 } : Room).slots) _
  rw [← hF, ef_rm28 m a p1]
  show own_Ends p e below F (s₁.setTop (mkF m 0 #[.val (.ref a), .val (.int p1)] []))
  refine own_step (fun _ k => XS.aloadN X0.here hx rfl (hb hby d28_0) rfl rfl k) ?_
  show own_Ends p e below F (s₁.setTop (mkF m 1 #[.val (.ref a), .val (.int p1)] [(.ref a)]))
  obtain ⟨_, _, ⟨T1, L1, k1, n1⟩, -, X1, ⟨Lc1, hQ1, l1, y1, z1⟩, st1⟩ := X0.specialBack hx (y := (⟨"java/lang/Number", "<init>", "()V"⟩ : MethodName)) rfl hown (mvT hZ (own_g hw 201 rfl)) (mvT hZ (own_g hw 202 rfl)) (mvT hZ (own_g hw 206 rfl)) (by decide) (backOf (W := 0) (rm29 l Z a0 hw [] a h0 n0 Z0) hZ (own_g hw 206 rfl) (own_g hw 205 rfl) (by decide) (by decide)) (g := (mkF m 1 #[.val (.ref a), .val (.int p1)] [(.ref a)])) rfl (by rw [hml]; rfl) (Steps.refl _) (a := a) (argsL := []) (rest := []) (lenOf pd__28_29V rfl) rfl (by show 2 * 0 + _ ≤ _; exact Nat.le_of_eq rfl) (hb hby d28_1) (fun _ _ => ⟨rfl, e0, (by decide : 0 + 0 ≤ _), (by decide : 0 + 0 ≤ _)⟩)
  dsimp only [Pt.U, Pt.locs, Pt.cells, Pt.slots] at X1 l1 y1 z1 st1 hQ1
  subst l1 y1 z1
  obtain ⟨rfl, Nq1, eq1⟩ := hQ1
  have N1 := Fr.app N0 Nq1
  refine own_trans st1 ?_
  show own_Ends p e below F (T1.setTop (mkF m 4 #[.val (.ref a), .val (.int p1)] []))
  refine own_step (fun _ k => XS.aloadN X1.here hx rfl (hb hby d28_4) rfl rfl k) ?_
  show own_Ends p e below F (T1.setTop (mkF m 5 #[.val (.ref a), .val (.int p1)] [(.ref a)]))
  refine own_step (fun _ k => XS.iloadN X1.here hx rfl (hb hby d28_5) rfl k) ?_
  show own_Ends p e below F (T1.setTop (mkF m 6 #[.val (.ref a), .val (.int p1)] [(.int p1), (.ref a)]))
  obtain ⟨T2, h2, X2, e2, W2, st2⟩ := putF X1 hx hZ hown (host := "") (Or.inl (own_g hw 208 rfl)) Via.refl eq1 F_value EX (Or.inr ⟨(own_g hw 209 rfl), rfl, hnm⟩) (own_g hw 196 rfl) (ty := .int) (by decide) rfl rfl (g := (mkF m 6 #[.val (.ref a), .val (.int p1)] [(.int p1), (.ref a)])) rfl rfl (hb hby d28_6)
  refine own_step st2 ?_
  have F2 := Fld.same W2 F_value
  have N2 := Fr.snoc X2 N1 ge
  have Z2 : n0 ≤ h2.size := by rw [W2.size]; exact Z0
  have SZ2 : h0.size ≤ h2.size := by rw [W2.size]; exact (Nat.le_refl h0.size)
  show own_Ends p e below F (T2.setTop (mkF m 9 #[.val (.ref a), .val (.int p1)] []))
  rw [hF]
  exact own_ret X2 (v := none) (fun _ => rfl) Bd.notSynchronized (fun fs hr => X2.returnOut hx Bd.returns (hb hby d28_9) hr) (by decide) (by decide) (by rw [e2]; exact ⟨rfl, N2, ((Keep.wr (Keep.refl _ _) W2 (Or.inl (List.mem_of_getElem? (i := 0) rfl))) : Keep h0 h2 [a]), (EX.wr W2), F2⟩)

theorem d27_0 : decode jdk_33_method_22_code 0 = .ok (.iload_n 0, 1) := by decide +kernel
theorem d27_1 : decode jdk_33_method_22_code 1 = .ok (.bipush (-128), 2) := by decide +kernel
theorem d27_3 : decode jdk_33_method_22_code 3 = .ok (.if_icmp .lt 20, 3) := by decide +kernel
theorem d27_6 : decode jdk_33_method_22_code 6 = .ok (.iload_n 0, 1) := by decide +kernel
theorem d27_7 : decode jdk_33_method_22_code 7 = .ok (.getstatic 191, 3) := by decide +kernel
theorem d27_10 : decode jdk_33_method_22_code 10 = .ok (.if_icmp .gt 13, 3) := by decide +kernel
theorem d27_13 : decode jdk_33_method_22_code 13 = .ok (.getstatic 195, 3) := by decide +kernel
theorem d27_16 : decode jdk_33_method_22_code 16 = .ok (.iload_n 0, 1) := by decide +kernel
theorem d27_17 : decode jdk_33_method_22_code 17 = .ok (.sipush 128, 3) := by decide +kernel
theorem d27_20 : decode jdk_33_method_22_code 20 = .ok (.iadd, 1) := by decide +kernel
theorem d27_21 : decode jdk_33_method_22_code 21 = .ok (.aaload, 1) := by decide +kernel
theorem d27_22 : decode jdk_33_method_22_code 22 = .ok (.areturn, 1) := by decide +kernel
theorem d27_23 : decode jdk_33_method_22_code 23 = .ok (.new 1, 3) := by decide +kernel
theorem d27_26 : decode jdk_33_method_22_code 26 = .ok (.dup, 1) := by decide +kernel
theorem d27_27 : decode jdk_33_method_22_code 27 = .ok (.iload_n 0, 1) := by decide +kernel
theorem d27_28 : decode jdk_33_method_22_code 28 = .ok (.invokespecial 199, 3) := by decide +kernel
theorem d27_31 : decode jdk_33_method_22_code 31 = .ok (.areturn, 1) := by decide +kernel
theorem pd__28I_29V : parseMethodDescriptor "(I)V" = some ⟨[.int], none⟩ := by decide +kernel
theorem ef_rm27 (m : MethodId) (x0 : Int32) : entryFrame m #[(.int x0)] 1 = mkF m 0 #[.val (.int x0)] [] := by first | (simp [entryFrame, mkF, argsToLocals, Value.category, maxLocals]; done) | rfl
def Q27 (Z : State) (p1 : Int32) (cc : Addr) (h0 : Heap) (n0 : Nat) (v : Option Value) (h : Heap) (L : List Loc) : Prop := ∃ c, v = some (.ref c) ∧ Fr n0 L ∧ Keep h0 h [] ∧ Exa Z h c "java/lang/Integer"
set_option maxRecDepth 65536 in
set_option maxHeartbeats 40000000 in
theorem rm27 (l : Launch) (Z : State) (a0 : Array Value) (hw : ∀ d ∈ tables_1, d.before a0 Z = true) (ws : List Jvm.Cond) (p1 : Int32) (cc : Addr) (h0 : Heap) (n0 : Nat) (Z0 : n0 ≤ h0.size) (SH : Sta Z h0 "java/lang/Integer$IntegerCache" "high" "I" (.int (127 : Int32))) (SK : Sta Z h0 "java/lang/Integer$IntegerCache" "cache" "[Ljava/lang/Integer;" (.ref cc)) (BC : own_Bx Z h0 cc) :
    MetFree l (⟨"java/lang/Integer", "valueOf", "(I)Ljava/lang/Integer;"⟩ : MethodName) (head1 (Jvm.Cond.code (⟨"java/lang/Integer", "valueOf", "(I)Ljava/lang/Integer;"⟩ : MethodName) jdk_33_method_22_code 1 (some (.object "java/lang/Integer")) :: ws) ({ frames := 3, cells := 1, slots := 1, locals := 38 } : Room)) (fun ar U => ar = #[(.int p1)] ∧ Z.Warmed39 U.vm ∧ U.heap = h0) (fun _ _ _ _ _ => True) (fun _ U o U' => ∃ v L, o = .returned v ∧ Q27 Z p1 cc h0 n0 v U'.heap L ∧ FrameEnd U o U' L ({ frames := 3, cells := 1, slots := 1, locals := 38 } : Room).cells ({ frames := 3, cells := 1, slots := 1, locals := 38 } : Room).slots) := by
  refine MetFree.of_bodySF (plainFor_of_name pn_java_lang_Integer) hisR ?_
  intro p e s m args below meth c s₁ Bd hml0 hP hK
  obtain ⟨rfl, hZ, hh⟩ := hP
  have hx := Bd.exec
  have hby := Bd.bytes
  have hml : c.maxLocals = 1 := hml0
  have hown : s.vm.findClass "java/lang/Integer" = some m.cls := findClass_of_methodNamed Bd.named
  have hnm := (name_of_methodNamed Bd.named Bd.method).1
  have X0 : Stand p l e ({ frames := 3, cells := 1, slots := 1, locals := 38 } : Room) s m #[(.int p1)] below meth c s₁ [] 0 0 := Stand.of_body Bd
  have e0 : s₁.heap = h0 := by rw [← hh, Bd.state]; rfl
  have N0 := Fr.nil n0
  obtain ⟨F, hF⟩ : ∃ F, F = own_Fin s (Q27 Z p1 cc h0 n0) ({ frames := 3, cells := 1, slots := 1, locals := 38 } : Room).cells ({ frames := 3, cells := 1, slots := 1, locals := 38 } : Room).slots := ⟨_, rfl⟩
  show own_Ends p e below (own_Fin s (Q27 Z p1 cc h0 n0) ({ frames := 3, cells := 1, slots := 1, locals := 38 } : Room).cells ({ frames := 3, cells := 1, slots := 1, locals := 38 } : Room).slots) _
  rw [← hF, ef_rm27 m p1]
  show own_Ends p e below F (s₁.setTop (mkF m 0 #[.val (.int p1)] []))
  refine own_step (fun _ k => XS.iloadN X0.here hx rfl (hb hby d27_0) rfl k) ?_
  show own_Ends p e below F (s₁.setTop (mkF m 1 #[.val (.int p1)] [(.int p1)]))
  refine own_step (fun _ k => XS.bipush X0.here hx rfl (hb hby d27_1) k) ?_
  show own_Ends p e below F (s₁.setTop (mkF m 3 #[.val (.int p1)] [(.int (-128 : Int32)), (.int p1)]))
  by_cases c3_1 : p1 < (-128 : Int32)
  · refine own_step (fun _ k => XS.icmpYes X0.here hx rfl (pc0 := 3) (pc' := 23) rfl (hb hby d27_3) rfl (tlt c3_1).1 (by decide) (by decide) k) ?_
    show own_Ends p e below F (s₁.setTop (mkF m 23 #[.val (.int p1)] []))
    obtain ⟨T2, h2, X2, e2, E2, A2, D2, -, st2⟩ := newO X0 hx hZ hown (own_g hw 195 rfl) (own_g hw 196 rfl) (own_g hw 191 rfl) e0 (g := (mkF m 23 #[.val (.int p1)] [])) rfl (hb hby d27_23) (by decide) (by decide)
    obtain ⟨a2, g2⟩ : ∃ z, z = h0.size := ⟨_, rfl⟩
    rw [← g2] at A2 D2 st2
    have ge_a2 : n0 ≤ a2 := Nat.le_trans Z0 (Nat.le_of_eq g2.symm)
    have sz_a2 : h0.size ≤ a2 := Nat.le_trans (Nat.le_refl h0.size) (Nat.le_of_eq g2.symm)
    have ne_cc_a2 : cc ≠ a2 := Nat.ne_of_lt (by rw [g2]; exact BC.lt)
    have Z2 : n0 ≤ h2.size := Nat.le_trans Z0 E2.1
    have SZ2 : h0.size ≤ h2.size := Nat.le_trans (Nat.le_refl h0.size) E2.1
    have F2_value : Fld Z h2 a2 "java/lang/Integer" "value" "I" (.int (0 : Int32)) := D2 (Or.inr (own_g hw 209 rfl)) (ty := .int) (by decide)
    refine own_step st2 ?_
    show own_Ends p e below F (T2.setTop (mkF m 26 #[.val (.int p1)] [(.ref a2)]))
    refine own_step (fun _ k => XS.dup X2.here hx rfl (hb hby d27_26) rfl rfl k) ?_
    show own_Ends p e below F (T2.setTop (mkF m 27 #[.val (.int p1)] [(.ref a2), (.ref a2)]))
    refine own_step (fun _ k => XS.iloadN X2.here hx rfl (hb hby d27_27) rfl k) ?_
    show own_Ends p e below F (T2.setTop (mkF m 28 #[.val (.int p1)] [(.int p1), (.ref a2), (.ref a2)]))
    obtain ⟨_, _, ⟨T3, L3, k3, n3⟩, -, X3, ⟨Lc3, hQ3, l3, y3, z3⟩, st3⟩ := X2.specialBack hx (y := (⟨"java/lang/Integer", "<init>", "(I)V"⟩ : MethodName)) rfl hown (mvT hZ (own_g hw 197 rfl)) (mvT hZ (own_g hw 198 rfl)) (mvT hZ (own_g hw 200 rfl)) (by decide) (backOf (W := 1) (rm28 l Z a0 hw [] a2 p1 h2 n0 Z2 A2 ge_a2 F2_value) hZ (own_g hw 200 rfl) (own_g hw 191 rfl) (by decide) (by decide)) (g := (mkF m 28 #[.val (.int p1)] [(.int p1), (.ref a2), (.ref a2)])) rfl (by rw [hml]; rfl) (Steps.refl _) (a := a2) (argsL := [(.int p1)]) (rest := [(.ref a2)]) (lenOf pd__28I_29V rfl) rfl (by show 2 * 0 + _ ≤ _; exact Nat.le_of_eq rfl) (hb hby d27_28) (fun _ _ => ⟨rfl, e2, (by decide : 1 + 0 ≤ _), (by decide : 1 + 0 ≤ _)⟩)
    dsimp only [Pt.U, Pt.locs, Pt.cells, Pt.slots] at X3 l3 y3 z3 st3 hQ3
    subst l3 y3 z3
    obtain ⟨rfl, Nq3, Kq3, fq0_3, fq1_3⟩ := hQ3
    have N3 := Fr.app N0 Nq3
    have Z3 : n0 ≤ T3.heap.size := Nat.le_trans Z2 Kq3.1
    have SZ3 : h0.size ≤ T3.heap.size := Nat.le_trans SZ2 Kq3.1
    have S0_3 := own_Sta_keep (Sta.ext E2 SH) Kq3 (allS (own_ns_exa A2) all0)
    have S1_3 := own_Sta_keep (Sta.ext E2 SK) Kq3 (allS (own_ns_exa A2) all0)
    refine own_trans st3 ?_
    show own_Ends p e below F (T3.setTop (mkF m 31 #[.val (.int p1)] [(.ref a2)]))
    rw [hF]
    exact own_ret X3 (v := (some (.ref a2))) (fun h => by rw [Bd.returns] at h; cases h) Bd.notSynchronized (fun fs hr => retOut X3 hx (t := (.object "java/lang/Integer")) (w := (.ref a2)) (i := .areturn) Bd.returns rfl (Or.inr (Or.inr (Or.inr (Or.inr ⟨rfl, rfl, rfl⟩)))) (hb hby d27_31) hr) (by decide) (by decide) (by exact ⟨_, rfl, N3, ((Keep.trans (Keep.ext (Keep.refl _ _) E2) Kq3 (allS (Or.inr sz_a2) all0)) : Keep h0 T3.heap []), fq0_3⟩)
  · refine own_step (fun _ k => XS.icmpNo X0.here hx rfl (hb hby d27_3) rfl (flt c3_1).1 k) ?_
    show own_Ends p e below F (s₁.setTop (mkF m 6 #[.val (.int p1)] []))
    refine own_step (fun _ k => XS.iloadN X0.here hx rfl (hb hby d27_6) rfl k) ?_
    show own_Ends p e below F (s₁.setTop (mkF m 7 #[.val (.int p1)] [(.int p1)]))
    obtain ⟨T4, X4, e4, st4⟩ := getS2 X0 hx hZ hown (host := "") (Or.inl (own_g hw 193 rfl)) Via.refl e0 SH (g := (mkF m 7 #[.val (.int p1)] [(.int p1)])) rfl (hb hby d27_7)
    refine own_step st4 ?_
    show own_Ends p e below F (T4.setTop (mkF m 10 #[.val (.int p1)] [(.int (127 : Int32)), (.int p1)]))
    by_cases c10_5 : (127 : Int32) < p1
    · refine own_step (fun _ k => XS.icmpYes X4.here hx rfl (pc0 := 10) (pc' := 23) rfl (hb hby d27_10) rfl (tlt c10_5).2.2.1 (by decide) (by decide) k) ?_
      show own_Ends p e below F (T4.setTop (mkF m 23 #[.val (.int p1)] []))
      obtain ⟨T6, h6, X6, e6, E6, A6, D6, -, st6⟩ := newO X4 hx hZ hown (own_g hw 195 rfl) (own_g hw 196 rfl) (own_g hw 191 rfl) e4 (g := (mkF m 23 #[.val (.int p1)] [])) rfl (hb hby d27_23) (by decide) (by decide)
      obtain ⟨a6, g6⟩ : ∃ z, z = h0.size := ⟨_, rfl⟩
      rw [← g6] at A6 D6 st6
      have ge_a6 : n0 ≤ a6 := Nat.le_trans Z0 (Nat.le_of_eq g6.symm)
      have sz_a6 : h0.size ≤ a6 := Nat.le_trans (Nat.le_refl h0.size) (Nat.le_of_eq g6.symm)
      have ne_cc_a6 : cc ≠ a6 := Nat.ne_of_lt (by rw [g6]; exact BC.lt)
      have Z6 : n0 ≤ h6.size := Nat.le_trans Z0 E6.1
      have SZ6 : h0.size ≤ h6.size := Nat.le_trans (Nat.le_refl h0.size) E6.1
      have F6_value : Fld Z h6 a6 "java/lang/Integer" "value" "I" (.int (0 : Int32)) := D6 (Or.inr (own_g hw 209 rfl)) (ty := .int) (by decide)
      refine own_step st6 ?_
      show own_Ends p e below F (T6.setTop (mkF m 26 #[.val (.int p1)] [(.ref a6)]))
      refine own_step (fun _ k => XS.dup X6.here hx rfl (hb hby d27_26) rfl rfl k) ?_
      show own_Ends p e below F (T6.setTop (mkF m 27 #[.val (.int p1)] [(.ref a6), (.ref a6)]))
      refine own_step (fun _ k => XS.iloadN X6.here hx rfl (hb hby d27_27) rfl k) ?_
      show own_Ends p e below F (T6.setTop (mkF m 28 #[.val (.int p1)] [(.int p1), (.ref a6), (.ref a6)]))
      obtain ⟨_, _, ⟨T7, L7, k7, n7⟩, -, X7, ⟨Lc7, hQ7, l7, y7, z7⟩, st7⟩ := X6.specialBack hx (y := (⟨"java/lang/Integer", "<init>", "(I)V"⟩ : MethodName)) rfl hown (mvT hZ (own_g hw 197 rfl)) (mvT hZ (own_g hw 198 rfl)) (mvT hZ (own_g hw 200 rfl)) (by decide) (backOf (W := 1) (rm28 l Z a0 hw [] a6 p1 h6 n0 Z6 A6 ge_a6 F6_value) hZ (own_g hw 200 rfl) (own_g hw 191 rfl) (by decide) (by decide)) (g := (mkF m 28 #[.val (.int p1)] [(.int p1), (.ref a6), (.ref a6)])) rfl (by rw [hml]; rfl) (Steps.refl _) (a := a6) (argsL := [(.int p1)]) (rest := [(.ref a6)]) (lenOf pd__28I_29V rfl) rfl (by show 2 * 0 + _ ≤ _; exact Nat.le_of_eq rfl) (hb hby d27_28) (fun _ _ => ⟨rfl, e6, (by decide : 1 + 0 ≤ _), (by decide : 1 + 0 ≤ _)⟩)
      dsimp only [Pt.U, Pt.locs, Pt.cells, Pt.slots] at X7 l7 y7 z7 st7 hQ7
      subst l7 y7 z7
      obtain ⟨rfl, Nq7, Kq7, fq0_7, fq1_7⟩ := hQ7
      have N7 := Fr.app N0 Nq7
      have Z7 : n0 ≤ T7.heap.size := Nat.le_trans Z6 Kq7.1
      have SZ7 : h0.size ≤ T7.heap.size := Nat.le_trans SZ6 Kq7.1
      have S0_7 := own_Sta_keep (Sta.ext E6 SH) Kq7 (allS (own_ns_exa A6) all0)
      have S1_7 := own_Sta_keep (Sta.ext E6 SK) Kq7 (allS (own_ns_exa A6) all0)
      refine own_trans st7 ?_
      show own_Ends p e below F (T7.setTop (mkF m 31 #[.val (.int p1)] [(.ref a6)]))
      rw [hF]
      exact own_ret X7 (v := (some (.ref a6))) (fun h => by rw [Bd.returns] at h; cases h) Bd.notSynchronized (fun fs hr => retOut X7 hx (t := (.object "java/lang/Integer")) (w := (.ref a6)) (i := .areturn) Bd.returns rfl (Or.inr (Or.inr (Or.inr (Or.inr ⟨rfl, rfl, rfl⟩)))) (hb hby d27_31) hr) (by decide) (by decide) (by exact ⟨_, rfl, N7, ((Keep.trans (Keep.ext (Keep.refl _ _) E6) Kq7 (allS (Or.inr sz_a6) all0)) : Keep h0 T7.heap []), fq0_7⟩)
    · refine own_step (fun _ k => XS.icmpNo X4.here hx rfl (hb hby d27_10) rfl (flt c10_5).2.2.1 k) ?_
      show own_Ends p e below F (T4.setTop (mkF m 13 #[.val (.int p1)] []))
      obtain ⟨T8, X8, e8, st8⟩ := getS2 X4 hx hZ hown (host := "") (Or.inl (own_g hw 211 rfl)) Via.refl e4 SK (g := (mkF m 13 #[.val (.int p1)] [])) rfl (hb hby d27_13)
      refine own_step st8 ?_
      show own_Ends p e below F (T8.setTop (mkF m 16 #[.val (.int p1)] [(.ref cc)]))
      refine own_step (fun _ k => XS.iloadN X8.here hx rfl (hb hby d27_16) rfl k) ?_
      show own_Ends p e below F (T8.setTop (mkF m 17 #[.val (.int p1)] [(.int p1), (.ref cc)]))
      refine own_step (fun _ k => XS.sipush X8.here hx rfl (hb hby d27_17) k) ?_
      show own_Ends p e below F (T8.setTop (mkF m 20 #[.val (.int p1)] [(.int (128 : Int32)), (.int p1), (.ref cc)]))
      refine own_step (fun _ k => XS.iadd X8.here hx rfl (hb hby d27_20) rfl k) ?_
      show own_Ends p e below F (T8.setTop (mkF m 21 #[.val (.int p1)] [(.int (p1 + (128 : Int32))), (.ref cc)]))
      obtain ⟨cl, Ar, Sz, G⟩ := BC
      have hj := own_bxj c3_1 c10_5
      obtain ⟨bb, hat, EB⟩ := G _ hj.2
      refine own_step (X8.aaload hx (j := (p1 + (128 : Int32))) (v := (.ref bb)) (by rw [e8]; exact Ar.1) (State.isArrayOf_alike hZ.alike Ar.2.1) rfl Ar.2.2 (fun q => q.elim hj.1 (fun q => absurd hj.2 (by rw [← Sz]; exact Nat.not_lt.mpr q))) hat (g := (mkF m 21 #[.val (.int p1)] [(.int (p1 + (128 : Int32))), (.ref cc)])) rfl rfl (hb hby d27_21)) ?_
      show own_Ends p e below F (T8.setTop (mkF m 22 #[.val (.int p1)] [(.ref bb)]))
      rw [hF]
      exact own_ret X8 (v := (some (.ref bb))) (fun h => by rw [Bd.returns] at h; cases h) Bd.notSynchronized (fun fs hr => retOut X8 hx (t := (.object "java/lang/Integer")) (w := (.ref bb)) (i := .areturn) Bd.returns rfl (Or.inr (Or.inr (Or.inr (Or.inr ⟨rfl, rfl, rfl⟩)))) (hb hby d27_22) hr) (by decide) (by decide) (by rw [e8]; exact ⟨_, rfl, N0, ((Keep.refl _ _) : Keep h0 h0 []), EB⟩)

theorem d16_0 : decode jdk_29_method_69_code 0 = .ok (.iload_n 0, 1) := by decide +kernel
theorem d16_1 : decode jdk_29_method_69_code 1 = .ok (.iload_n 1, 1) := by decide +kernel
theorem d16_2 : decode jdk_29_method_69_code 2 = .ok (.if_icmp .gt 7, 3) := by decide +kernel
theorem d16_5 : decode jdk_29_method_69_code 5 = .ok (.iload_n 0, 1) := by decide +kernel
theorem d16_6 : decode jdk_29_method_69_code 6 = .ok (.goto 4, 3) := by decide +kernel
theorem d16_9 : decode jdk_29_method_69_code 9 = .ok (.iload_n 1, 1) := by decide +kernel
theorem d16_10 : decode jdk_29_method_69_code 10 = .ok (.ireturn, 1) := by decide +kernel
theorem ef_rm16 (m : MethodId) (x0 : Int32) (x1 : Int32) : entryFrame m #[(.int x0), (.int x1)] 2 = mkF m 0 #[.val (.int x0), .val (.int x1)] [] := by first | (simp [entryFrame, mkF, argsToLocals, Value.category, maxLocals]; done) | rfl
def Q16 (Z : State) (p1 p2 : Int32) (h0 : Heap) (n0 : Nat) (v : Option Value) (h : Heap) (L : List Loc) : Prop := v = some (.int (if p2 < p1 then p2 else p1)) ∧ Fr n0 L ∧ h = h0
set_option maxRecDepth 65536 in
set_option maxHeartbeats 40000000 in
theorem rm16 (l : Launch) (Z : State) (a0 : Array Value) (hw : ∀ d ∈ tables_1, d.before a0 Z = true) (ws : List Jvm.Cond) (p1 p2 : Int32) (h0 : Heap) (n0 : Nat) (Z0 : n0 ≤ h0.size)  :
    MetFree l (⟨"java/lang/Math", "min", "(II)I"⟩ : MethodName) (head1 (Jvm.Cond.code (⟨"java/lang/Math", "min", "(II)I"⟩ : MethodName) jdk_29_method_69_code 2 (some .int) :: ws) ({ frames := 0, cells := 0, slots := 0, locals := 0 } : Room)) (fun ar U => ar = #[(.int p1), (.int p2)] ∧ Z.Warmed39 U.vm ∧ U.heap = h0) (fun _ _ _ _ _ => True) (fun _ U o U' => ∃ v L, o = .returned v ∧ Q16 Z p1 p2 h0 n0 v U'.heap L ∧ FrameEnd U o U' L ({ frames := 0, cells := 0, slots := 0, locals := 0 } : Room).cells ({ frames := 0, cells := 0, slots := 0, locals := 0 } : Room).slots) := by
  refine MetFree.of_bodySF (Jvm.Free.JP.mathPlain rfl (by decide +kernel)) hisR ?_
  intro p e s m args below meth c s₁ Bd hml0 hP hK
  obtain ⟨rfl, hZ, hh⟩ := hP
  have hx := Bd.exec
  have hby := Bd.bytes
  have hml : c.maxLocals = 2 := hml0
  have hown : s.vm.findClass "java/lang/Math" = some m.cls := findClass_of_methodNamed Bd.named
  have hnm := (name_of_methodNamed Bd.named Bd.method).1
  have X0 : Stand p l e ({ frames := 0, cells := 0, slots := 0, locals := 0 } : Room) s m #[(.int p1), (.int p2)] below meth c s₁ [] 0 0 := Stand.of_body Bd
  have e0 : s₁.heap = h0 := by rw [← hh, Bd.state]; rfl
  have N0 := Fr.nil n0
  obtain ⟨F, hF⟩ : ∃ F, F = own_Fin s (Q16 Z p1 p2 h0 n0) ({ frames := 0, cells := 0, slots := 0, locals := 0 } : Room).cells ({ frames := 0, cells := 0, slots := 0, locals := 0 } : Room).slots := ⟨_, rfl⟩
  show own_Ends p e below (own_Fin s (Q16 Z p1 p2 h0 n0) ({ frames := 0, cells := 0, slots := 0, locals := 0 } : Room).cells ({ frames := 0, cells := 0, slots := 0, locals := 0 } : Room).slots) _
  rw [← hF, ef_rm16 m p1 p2]
  show own_Ends p e below F (s₁.setTop (mkF m 0 #[.val (.int p1), .val (.int p2)] []))
  refine own_step (fun _ k => XS.iloadN X0.here hx rfl (hb hby d16_0) rfl k) ?_
  show own_Ends p e below F (s₁.setTop (mkF m 1 #[.val (.int p1), .val (.int p2)] [(.int p1)]))
  refine own_step (fun _ k => XS.iloadN X0.here hx rfl (hb hby d16_1) rfl k) ?_
  show own_Ends p e below F (s₁.setTop (mkF m 2 #[.val (.int p1), .val (.int p2)] [(.int p2), (.int p1)]))
  by_cases c2_1 : p2 < p1
  · refine own_step (fun _ k => XS.icmpYes X0.here hx rfl (pc0 := 2) (pc' := 9) rfl (hb hby d16_2) rfl (tlt c2_1).2.2.1 (by decide) (by decide) k) ?_
    show own_Ends p e below F (s₁.setTop (mkF m 9 #[.val (.int p1), .val (.int p2)] []))
    refine own_step (fun _ k => XS.iloadN X0.here hx rfl (hb hby d16_9) rfl k) ?_
    show own_Ends p e below F (s₁.setTop (mkF m 10 #[.val (.int p1), .val (.int p2)] [(.int p2)]))
    rw [hF]
    exact own_ret X0 (v := (some (.int p2))) (fun h => by rw [Bd.returns] at h; cases h) Bd.notSynchronized (fun fs hr => own_retI X0 hx Bd.returns (hb hby d16_10) hr) (by decide) (by decide) (by rw [e0]; exact ⟨by simp only [c2_1, if_true, if_false], N0, rfl⟩)
  · refine own_step (fun _ k => XS.icmpNo X0.here hx rfl (hb hby d16_2) rfl (flt c2_1).2.2.1 k) ?_
    show own_Ends p e below F (s₁.setTop (mkF m 5 #[.val (.int p1), .val (.int p2)] []))
    refine own_step (fun _ k => XS.iloadN X0.here hx rfl (hb hby d16_5) rfl k) ?_
    show own_Ends p e below F (s₁.setTop (mkF m 6 #[.val (.int p1), .val (.int p2)] [(.int p1)]))
    refine own_step (fun _ k => XS.goto X0.here hx rfl (pc0 := 6) (pc' := 10) rfl (hb hby d16_6) (by decide) (by decide) k) ?_
    show own_Ends p e below F (s₁.setTop (mkF m 10 #[.val (.int p1), .val (.int p2)] [(.int p1)]))
    rw [hF]
    exact own_ret X0 (v := (some (.int p1))) (fun h => by rw [Bd.returns] at h; cases h) Bd.notSynchronized (fun fs hr => own_retI X0 hx Bd.returns (hb hby d16_10) hr) (by decide) (by decide) (by rw [e0]; exact ⟨by simp only [c2_1, if_true, if_false], N0, rfl⟩)

theorem d15_0 : decode jdk_65_method_120_code 0 = .ok (.aload_n 2, 1) := by decide +kernel
theorem d15_1 : decode jdk_65_method_120_code 1 = .ok (.ldc 110, 2) := by decide +kernel
theorem d15_3 : decode jdk_65_method_120_code 3 = .ok (.if_acmp .ne 10, 3) := by decide +kernel
theorem d15_6 : decode jdk_65_method_120_code 6 = .ok (.iload_n 1, 1) := by decide +kernel
theorem d15_7 : decode jdk_65_method_120_code 7 = .ok (.anewarray 2, 3) := by decide +kernel
theorem d15_10 : decode jdk_65_method_120_code 10 = .ok (.goto 14, 3) := by decide +kernel
theorem d15_24 : decode jdk_65_method_120_code 24 = .ok (.astore_n 3, 1) := by decide +kernel
theorem d15_25 : decode jdk_65_method_120_code 25 = .ok (.aload_n 0, 1) := by decide +kernel
theorem d15_26 : decode jdk_65_method_120_code 26 = .ok (.iconst 0, 1) := by decide +kernel
theorem d15_27 : decode jdk_65_method_120_code 27 = .ok (.aload_n 3, 1) := by decide +kernel
theorem d15_28 : decode jdk_65_method_120_code 28 = .ok (.iconst 0, 1) := by decide +kernel
theorem d15_29 : decode jdk_65_method_120_code 29 = .ok (.aload_n 0, 1) := by decide +kernel
theorem d15_30 : decode jdk_65_method_120_code 30 = .ok (.arraylength, 1) := by decide +kernel
theorem d15_31 : decode jdk_65_method_120_code 31 = .ok (.iload_n 1, 1) := by decide +kernel
theorem d15_32 : decode jdk_65_method_120_code 32 = .ok (.invokestatic 304, 3) := by decide +kernel
theorem d15_35 : decode jdk_65_method_120_code 35 = .ok (.invokestatic 150, 3) := by decide +kernel
theorem d15_38 : decode jdk_65_method_120_code 38 = .ok (.aload_n 3, 1) := by decide +kernel
theorem d15_39 : decode jdk_65_method_120_code 39 = .ok (.areturn, 1) := by decide +kernel
theorem pn_java_util_Arrays : plainName "java/util/Arrays" = true := by first | (simp [plainName, overriddenIn]; done) | decide +kernel
theorem ef_rm15_0 (m : MethodId) (x0 : Addr) (x1 : Int32) (x2 : Addr) : entryFrame m #[(.ref x0), (.int x1), (.ref x2)] 4 = mkF m 0 #[.val (.ref x0), .val (.int x1), .val (.ref x2), .unset] [] := by first | (simp [entryFrame, mkF, argsToLocals, Value.category, maxLocals]; done) | rfl
def Q15_0 (Z : State) (b : Addr) (kb : ClassId) (mo : Addr) (h0 : Heap) (n0 : Nat) (v : Option Value) (h : Heap) (L : List Loc) : Prop := ∃ c k, v = some (.ref c) ∧ Fr n0 L ∧ Keep h0 h [] ∧ h0.size ≤ c ∧ Arv Z h c k (.object "java/lang/Object") (0 : Int32) [] .null
set_option maxRecDepth 65536 in
set_option maxHeartbeats 40000000 in
theorem rm15_0 (l : Launch) (Z : State) (a0 : Array Value) (hw : ∀ d ∈ tables_1, d.before a0 Z = true) (ws : List Jvm.Cond) (b : Addr) (kb : ClassId) (mo : Addr) (h0 : Heap) (n0 : Nat) (Z0 : n0 ≤ h0.size) (VB : Arv Z h0 b kb (.object "java/lang/Object") (0 : Int32) [] .null) (XB : Exa Z h0 b "[Ljava/lang/Object;") (M_mo : Mir Z "[Ljava/lang/Object;" mo) :
    MetFree l (⟨"java/util/Arrays", "copyOf", "([Ljava/lang/Object;ILjava/lang/Class;)[Ljava/lang/Object;"⟩ : MethodName) (head1 (Jvm.Cond.code (⟨"java/util/Arrays", "copyOf", "([Ljava/lang/Object;ILjava/lang/Class;)[Ljava/lang/Object;"⟩ : MethodName) jdk_65_method_120_code 4 (some (.array (.object "java/lang/Object"))) :: ws) ({ frames := 1, cells := 1, slots := 0, locals := 18 } : Room)) (fun ar U => ar = #[(.ref b), (.int (0 : Int32)), (.ref mo)] ∧ Z.Warmed39 U.vm ∧ U.heap = h0) (fun _ _ _ _ _ => True) (fun _ U o U' => ∃ v L, o = .returned v ∧ Q15_0 Z b kb mo h0 n0 v U'.heap L ∧ FrameEnd U o U' L ({ frames := 1, cells := 1, slots := 0, locals := 18 } : Room).cells ({ frames := 1, cells := 1, slots := 0, locals := 18 } : Room).slots) := by
  refine MetFree.of_bodySF (plainFor_of_name pn_java_util_Arrays) hisR ?_
  intro p e s m args below meth c s₁ Bd hml0 hP hK
  obtain ⟨rfl, hZ, hh⟩ := hP
  have hx := Bd.exec
  have hby := Bd.bytes
  have hml : c.maxLocals = 4 := hml0
  have hown : s.vm.findClass "java/util/Arrays" = some m.cls := findClass_of_methodNamed Bd.named
  have hnm := (name_of_methodNamed Bd.named Bd.method).1
  have X0 : Stand p l e ({ frames := 1, cells := 1, slots := 0, locals := 18 } : Room) s m #[(.ref b), (.int (0 : Int32)), (.ref mo)] below meth c s₁ [] 0 0 := Stand.of_body Bd
  have e0 : s₁.heap = h0 := by rw [← hh, Bd.state]; rfl
  have N0 := Fr.nil n0
  obtain ⟨F, hF⟩ : ∃ F, F = own_Fin s (Q15_0 Z b kb mo h0 n0) ({ frames := 1, cells := 1, slots := 0, locals := 18 } : Room).cells ({ frames := 1, cells := 1, slots := 0, locals := 18 } : Room).slots := ⟨_, rfl⟩
  show own_Ends p e below (own_Fin s (Q15_0 Z b kb mo h0 n0) ({ frames := 1, cells := 1, slots := 0, locals := 18 } : Room).cells ({ frames := 1, cells := 1, slots := 0, locals := 18 } : Room).slots) _
  rw [← hF, ef_rm15_0 m b (0 : Int32) mo]
  show own_Ends p e below F (s₁.setTop (mkF m 0 #[.val (.ref b), .val (.int (0 : Int32)), .val (.ref mo), .unset] []))
  refine own_step (fun _ k => XS.aloadN X0.here hx rfl (hb hby d15_0) rfl rfl k) ?_
  show own_Ends p e below F (s₁.setTop (mkF m 1 #[.val (.ref b), .val (.int (0 : Int32)), .val (.ref mo), .unset] [(.ref mo)]))
  obtain ⟨T1, X1, e1, st1⟩ := own_ldcM X0 hx hZ hown (own_g hw 93 rfl) e0 M_mo (g := (mkF m 1 #[.val (.ref b), .val (.int (0 : Int32)), .val (.ref mo), .unset] [(.ref mo)])) rfl (hb hby d15_1)
  refine own_step st1 ?_
  show own_Ends p e below F (T1.setTop (mkF m 3 #[.val (.ref b), .val (.int (0 : Int32)), .val (.ref mo), .unset] [(.ref mo), (.ref mo)]))
  refine own_step (fun _ k => Jvm.RoadKit.acmp (below := below) (g := (mkF m 3 #[.val (.ref b), .val (.int (0 : Int32)), .val (.ref mo), .unset] [(.ref mo), (.ref mo)])) X1 hx rfl rfl rfl (pc0 := 3) (pc' := 6) (same := true) rfl (hb hby d15_3) rfl (decide_eq_true rfl) (by decide) (by decide) k) ?_
  show own_Ends p e below F (T1.setTop (mkF m 6 #[.val (.ref b), .val (.int (0 : Int32)), .val (.ref mo), .unset] []))
  refine own_step (fun _ k => XS.iloadN X1.here hx rfl (hb hby d15_6) rfl k) ?_
  show own_Ends p e below F (T1.setTop (mkF m 7 #[.val (.ref b), .val (.int (0 : Int32)), .val (.ref mo), .unset] [(.int (0 : Int32))]))
  obtain ⟨T2, h2, k2, X2, e2, E2, A2, EA2, O2, st2⟩ := newRE X1 hx hZ hown (own_g hw 94 rfl) (own_g hw 95 rfl) e1 (g := (mkF m 7 #[.val (.ref b), .val (.int (0 : Int32)), .val (.ref mo), .unset] [(.int (0 : Int32))])) rfl (hb hby d15_7) rfl (by decide) (cap := 0) (by decide) (by decide) (by decide) (by decide) (ad := "[Ljava/lang/Object;") (by decide)
  obtain ⟨a2, g2⟩ : ∃ z, z = h0.size := ⟨_, rfl⟩
  rw [← g2] at A2 EA2 st2
  have ge_a2 : n0 ≤ a2 := Nat.le_trans Z0 (Nat.le_of_eq g2.symm)
  have sz_a2 : h0.size ≤ a2 := Nat.le_trans (Nat.le_refl h0.size) (Nat.le_of_eq g2.symm)
  have ne_b_a2 : b ≠ a2 := Nat.ne_of_lt (by rw [g2]; exact VB.lt)
  have Z2 : n0 ≤ h2.size := Nat.le_trans Z0 E2.1
  have SZ2 : h0.size ≤ h2.size := Nat.le_trans (Nat.le_refl h0.size) E2.1
  have V2 : Arv Z h2 a2 k2 (.object "java/lang/Object") (0 : Int32) [] .null := Arv.pad (Arv.new A2 (by decide)) (pad_rep [] _ 0)
  refine own_step st2 ?_
  show own_Ends p e below F (T2.setTop (mkF m 10 #[.val (.ref b), .val (.int (0 : Int32)), .val (.ref mo), .unset] [(.ref a2)]))
  refine own_step (fun _ k => XS.goto X2.here hx rfl (pc0 := 10) (pc' := 24) rfl (hb hby d15_10) (by decide) (by decide) k) ?_
  show own_Ends p e below F (T2.setTop (mkF m 24 #[.val (.ref b), .val (.int (0 : Int32)), .val (.ref mo), .unset] [(.ref a2)]))
  refine own_step (fun _ k => XS.astoreN X2.here hx rfl (hb hby d15_24) rfl rfl (l' := #[.val (.ref b), .val (.int (0 : Int32)), .val (.ref mo), .val (.ref a2)]) rfl k) ?_
  show own_Ends p e below F (T2.setTop (mkF m 25 #[.val (.ref b), .val (.int (0 : Int32)), .val (.ref mo), .val (.ref a2)] []))
  refine own_step (fun _ k => XS.aloadN X2.here hx rfl (hb hby d15_25) rfl rfl k) ?_
  show own_Ends p e below F (T2.setTop (mkF m 26 #[.val (.ref b), .val (.int (0 : Int32)), .val (.ref mo), .val (.ref a2)] [(.ref b)]))
  refine own_step (fun _ k => XS.iconst X2.here hx rfl (hb hby d15_26) k) ?_
  show own_Ends p e below F (T2.setTop (mkF m 27 #[.val (.ref b), .val (.int (0 : Int32)), .val (.ref mo), .val (.ref a2)] [(.int (0 : Int32)), (.ref b)]))
  refine own_step (fun _ k => XS.aloadN X2.here hx rfl (hb hby d15_27) rfl rfl k) ?_
  show own_Ends p e below F (T2.setTop (mkF m 28 #[.val (.ref b), .val (.int (0 : Int32)), .val (.ref mo), .val (.ref a2)] [(.ref a2), (.int (0 : Int32)), (.ref b)]))
  refine own_step (fun _ k => XS.iconst X2.here hx rfl (hb hby d15_28) k) ?_
  show own_Ends p e below F (T2.setTop (mkF m 29 #[.val (.ref b), .val (.int (0 : Int32)), .val (.ref mo), .val (.ref a2)] [(.int (0 : Int32)), (.ref a2), (.int (0 : Int32)), (.ref b)]))
  refine own_step (fun _ k => XS.aloadN X2.here hx rfl (hb hby d15_29) rfl rfl k) ?_
  show own_Ends p e below F (T2.setTop (mkF m 30 #[.val (.ref b), .val (.int (0 : Int32)), .val (.ref mo), .val (.ref a2)] [(.ref b), (.int (0 : Int32)), (.ref a2), (.int (0 : Int32)), (.ref b)]))
  obtain ⟨cl3, Ar3, q3, S3, M3, H3, G3⟩ := id (VB.ext E2)
  have al3 := X2.arraylength hx (by rw [e2]; exact Ar3.1) (State.isArrayOf_alike hZ.alike Ar3.2.1) (g := (mkF m 30 #[.val (.ref b), .val (.int (0 : Int32)), .val (.ref mo), .val (.ref a2)] [(.ref b), (.int (0 : Int32)), (.ref a2), (.int (0 : Int32)), (.ref b)])) rfl rfl (hb hby d15_30)
  rw [len_of S3 M3] at al3
  refine own_step al3 ?_
  show own_Ends p e below F (T2.setTop (mkF m 31 #[.val (.ref b), .val (.int (0 : Int32)), .val (.ref mo), .val (.ref a2)] [(.int (0 : Int32)), (.int (0 : Int32)), (.ref a2), (.int (0 : Int32)), (.ref b)]))
  refine own_step (fun _ k => XS.iloadN X2.here hx rfl (hb hby d15_31) rfl k) ?_
  show own_Ends p e below F (T2.setTop (mkF m 32 #[.val (.ref b), .val (.int (0 : Int32)), .val (.ref mo), .val (.ref a2)] [(.int (0 : Int32)), (.int (0 : Int32)), (.int (0 : Int32)), (.ref a2), (.int (0 : Int32)), (.ref b)]))
  obtain ⟨_, _, ⟨T4, L4, k4, n4⟩, -, X4, ⟨Lc4, hQ4, l4, y4, z4⟩, st4⟩ := Jvm.LawKit.callS X2 hx (y := (⟨"java/lang/Math", "min", "(II)I"⟩ : MethodName)) hown (mvT hZ (own_g hw 96 rfl)) (mvT hZ (own_g hw 97 rfl)) (mvT hZ (own_g hw 98 rfl)) (mvT hZ (own_g hw 99 rfl)) (by decide) (backOf (W := 4) (rm16 l Z a0 hw [] (0 : Int32) (0 : Int32) h2 n0 Z2) hZ (own_g hw 99 rfl) (own_g hw 98 rfl) (by decide) (by decide)) (g := (mkF m 32 #[.val (.ref b), .val (.int (0 : Int32)), .val (.ref mo), .val (.ref a2)] [(.int (0 : Int32)), (.int (0 : Int32)), (.int (0 : Int32)), (.ref a2), (.int (0 : Int32)), (.ref b)])) rfl (by rw [hml]; rfl) (argsL := [(.int (0 : Int32)), (.int (0 : Int32))]) (rest := [(.int (0 : Int32)), (.ref a2), (.int (0 : Int32)), (.ref b)]) (lenOf pd__28II_29I rfl) rfl (by show 2 * 0 + _ ≤ _; exact Nat.le_of_eq rfl) (hb hby d15_32) (fun _ _ => ⟨rfl, e2, (by decide : 1 + 0 ≤ _), (by decide : 0 + 0 ≤ _)⟩)
  dsimp only [Pt.U, Pt.locs, Pt.cells, Pt.slots] at X4 l4 y4 z4 st4 hQ4
  subst l4 y4 z4
  obtain ⟨rfl, Nq4, eq4⟩ := hQ4
  have N4 := Fr.app N0 Nq4
  refine own_step st4 ?_
  show own_Ends p e below F (T4.setTop (mkF m 35 #[.val (.ref b), .val (.int (0 : Int32)), .val (.ref mo), .val (.ref a2)] [(.int (if (0 : Int32) < (0 : Int32) then (0 : Int32) else (0 : Int32))), (.int (0 : Int32)), (.ref a2), (.int (0 : Int32)), (.ref b)]))
  rw [show (if (0 : Int32) < (0 : Int32) then (0 : Int32) else (0 : Int32)) = (0 : Int32) from (by first | rfl | decide)]
  show own_Ends p e below F (T4.setTop (mkF m 35 #[.val (.ref b), .val (.int (0 : Int32)), .val (.ref mo), .val (.ref a2)] [(.int (0 : Int32)), (.int (0 : Int32)), (.ref a2), (.int (0 : Int32)), (.ref b)]))
  obtain ⟨cl5, Ar5, q5, -⟩ := id V2
  obtain ⟨T5, h5, L5, X5, e5, N5, K5, V5, st5⟩ := cpA X4 hx hZ hown (own_g hw 100 rfl) (own_g hw 103 rfl) (own_g hw 101 rfl) (own_g hw 102 rfl) eq4 (VB.ext E2) V2 (us := []) (Or.inr ⟨rfl, rfl, trivial⟩) (by decide) (by decide) (by decide) (by decide) (by decide) rfl (by decide) N4 ge_a2 (g := (mkF m 35 #[.val (.ref b), .val (.int (0 : Int32)), .val (.ref mo), .val (.ref a2)] [(.int (0 : Int32)), (.int (0 : Int32)), (.ref a2), (.int (0 : Int32)), (.ref b)])) rfl (by rw [hml]; rfl) (rest := []) rfl (hb hby d15_35) (by decide) (W := 0) (by show 2 * 0 + _ ≤ _; exact Nat.le_of_eq rfl) (by decide)
  have V5 : Arv Z h5 a2 k2 (.object "java/lang/Object") (0 : Int32) [] .null := V5
  have Z5 : n0 ≤ h5.size := Nat.le_trans Z2 K5.1
  have SZ5 : h0.size ≤ h5.size := Nat.le_trans SZ2 K5.1
  refine own_step st5 ?_
  show own_Ends p e below F (T5.setTop (mkF m 38 #[.val (.ref b), .val (.int (0 : Int32)), .val (.ref mo), .val (.ref a2)] []))
  refine own_step (fun _ k => XS.aloadN X5.here hx rfl (hb hby d15_38) rfl rfl k) ?_
  show own_Ends p e below F (T5.setTop (mkF m 39 #[.val (.ref b), .val (.int (0 : Int32)), .val (.ref mo), .val (.ref a2)] [(.ref a2)]))
  rw [hF]
  exact own_ret X5 (v := (some (.ref a2))) (fun h => by rw [Bd.returns] at h; cases h) Bd.notSynchronized (fun fs hr => retOut X5 hx (t := (.array (.object "java/lang/Object"))) (w := (.ref a2)) (i := .areturn) Bd.returns rfl (Or.inr (Or.inr (Or.inr (Or.inr ⟨rfl, rfl, rfl⟩)))) (hb hby d15_39) hr) (by decide) (by decide) (by rw [e5]; exact ⟨_, _, rfl, N5, ((Keep.trans (Keep.ext (Keep.refl _ _) E2) K5 (allS (Or.inr sz_a2) all0)) : Keep h0 h5 []), sz_a2, V5⟩)

theorem d14_0 : decode jdk_65_method_119_code 0 = .ok (.aload_n 0, 1) := by decide +kernel
theorem d14_1 : decode jdk_65_method_119_code 1 = .ok (.iload_n 1, 1) := by decide +kernel
theorem d14_2 : decode jdk_65_method_119_code 2 = .ok (.aload_n 0, 1) := by decide +kernel
theorem d14_3 : decode jdk_65_method_119_code 3 = .ok (.invokevirtual 86, 3) := by decide +kernel
theorem d14_6 : decode jdk_65_method_119_code 6 = .ok (.invokestatic 300, 3) := by decide +kernel
theorem d14_9 : decode jdk_65_method_119_code 9 = .ok (.areturn, 1) := by decide +kernel
theorem pd__28_5bLjava_2flang_2fObject_3bILjava_2flang_2fClass_3b_29_5bLjava_2flang_2fObject_3b : parseMethodDescriptor "([Ljava/lang/Object;ILjava/lang/Class;)[Ljava/lang/Object;" = some ⟨[(.array (.object "java/lang/Object")), .int, (.object "java/lang/Class")], some (.array (.object "java/lang/Object"))⟩ := by decide +kernel
theorem ef_rm14_0 (m : MethodId) (x0 : Addr) (x1 : Int32) : entryFrame m #[(.ref x0), (.int x1)] 2 = mkF m 0 #[.val (.ref x0), .val (.int x1)] [] := by first | (simp [entryFrame, mkF, argsToLocals, Value.category, maxLocals]; done) | rfl
def Q14_0 (Z : State) (b : Addr) (kb : ClassId) (mo : Addr) (h0 : Heap) (n0 : Nat) (v : Option Value) (h : Heap) (L : List Loc) : Prop := ∃ c k, v = some (.ref c) ∧ Fr n0 L ∧ Keep h0 h [] ∧ h0.size ≤ c ∧ Arv Z h c k (.object "java/lang/Object") (0 : Int32) [] .null
set_option maxRecDepth 65536 in
set_option maxHeartbeats 40000000 in
theorem rm14_0 (l : Launch) (Z : State) (a0 : Array Value) (hw : ∀ d ∈ tables_1, d.before a0 Z = true) (ws : List Jvm.Cond) (b : Addr) (kb : ClassId) (mo : Addr) (h0 : Heap) (n0 : Nat) (Z0 : n0 ≤ h0.size) (VB : Arv Z h0 b kb (.object "java/lang/Object") (0 : Int32) [] .null) (XB : Exa Z h0 b "[Ljava/lang/Object;") (M_mo : Mir Z "[Ljava/lang/Object;" mo) :
    MetFree l (⟨"java/util/Arrays", "copyOf", "([Ljava/lang/Object;I)[Ljava/lang/Object;"⟩ : MethodName) (head1 (Jvm.Cond.code (⟨"java/util/Arrays", "copyOf", "([Ljava/lang/Object;I)[Ljava/lang/Object;"⟩ : MethodName) jdk_65_method_119_code 2 (some (.array (.object "java/lang/Object"))) :: ws) ({ frames := 2, cells := 1, slots := 0, locals := 33 } : Room)) (fun ar U => ar = #[(.ref b), (.int (0 : Int32))] ∧ Z.Warmed39 U.vm ∧ U.heap = h0) (fun _ _ _ _ _ => True) (fun _ U o U' => ∃ v L, o = .returned v ∧ Q14_0 Z b kb mo h0 n0 v U'.heap L ∧ FrameEnd U o U' L ({ frames := 2, cells := 1, slots := 0, locals := 33 } : Room).cells ({ frames := 2, cells := 1, slots := 0, locals := 33 } : Room).slots) := by
  refine MetFree.of_bodySF (plainFor_of_name pn_java_util_Arrays) hisR ?_
  intro p e s m args below meth c s₁ Bd hml0 hP hK
  obtain ⟨rfl, hZ, hh⟩ := hP
  have hx := Bd.exec
  have hby := Bd.bytes
  have hml : c.maxLocals = 2 := hml0
  have hown : s.vm.findClass "java/util/Arrays" = some m.cls := findClass_of_methodNamed Bd.named
  have hnm := (name_of_methodNamed Bd.named Bd.method).1
  have X0 : Stand p l e ({ frames := 2, cells := 1, slots := 0, locals := 33 } : Room) s m #[(.ref b), (.int (0 : Int32))] below meth c s₁ [] 0 0 := Stand.of_body Bd
  have e0 : s₁.heap = h0 := by rw [← hh, Bd.state]; rfl
  have N0 := Fr.nil n0
  obtain ⟨F, hF⟩ : ∃ F, F = own_Fin s (Q14_0 Z b kb mo h0 n0) ({ frames := 2, cells := 1, slots := 0, locals := 33 } : Room).cells ({ frames := 2, cells := 1, slots := 0, locals := 33 } : Room).slots := ⟨_, rfl⟩
  show own_Ends p e below (own_Fin s (Q14_0 Z b kb mo h0 n0) ({ frames := 2, cells := 1, slots := 0, locals := 33 } : Room).cells ({ frames := 2, cells := 1, slots := 0, locals := 33 } : Room).slots) _
  rw [← hF, ef_rm14_0 m b (0 : Int32)]
  show own_Ends p e below F (s₁.setTop (mkF m 0 #[.val (.ref b), .val (.int (0 : Int32))] []))
  refine own_step (fun _ k => XS.aloadN X0.here hx rfl (hb hby d14_0) rfl rfl k) ?_
  show own_Ends p e below F (s₁.setTop (mkF m 1 #[.val (.ref b), .val (.int (0 : Int32))] [(.ref b)]))
  refine own_step (fun _ k => XS.iloadN X0.here hx rfl (hb hby d14_1) rfl k) ?_
  show own_Ends p e below F (s₁.setTop (mkF m 2 #[.val (.ref b), .val (.int (0 : Int32))] [(.int (0 : Int32)), (.ref b)]))
  refine own_step (fun _ k => XS.aloadN X0.here hx rfl (hb hby d14_2) rfl rfl k) ?_
  show own_Ends p e below F (s₁.setTop (mkF m 3 #[.val (.ref b), .val (.int (0 : Int32))] [(.ref b), (.int (0 : Int32)), (.ref b)]))
  obtain ⟨T1, X1, e1, st1⟩ := own_gc X0 hx hZ hown (own_g hw 84 rfl) (own_g hw 85 rfl) (own_g hw 87 rfl) (own_g hw 86 rfl) (own_g hw 88 rfl) e0 XB M_mo (g := (mkF m 3 #[.val (.ref b), .val (.int (0 : Int32))] [(.ref b), (.int (0 : Int32)), (.ref b)])) rfl (by rw [hml]; rfl) (rest := [(.int (0 : Int32)), (.ref b)]) rfl (hb hby d14_3) (by decide) (W := 2) (by show 2 * 0 + _ ≤ _; exact Nat.le_of_eq rfl) (by decide)
  refine own_step st1 ?_
  show own_Ends p e below F (T1.setTop (mkF m 6 #[.val (.ref b), .val (.int (0 : Int32))] [(.ref mo), (.int (0 : Int32)), (.ref b)]))
  obtain ⟨_, _, ⟨T2, L2, k2, n2⟩, -, X2, ⟨Lc2, hQ2, l2, y2, z2⟩, st2⟩ := Jvm.LawKit.callS X1 hx (y := (⟨"java/util/Arrays", "copyOf", "([Ljava/lang/Object;ILjava/lang/Class;)[Ljava/lang/Object;"⟩ : MethodName)) hown (mvT hZ (own_g hw 90 rfl)) (mvT hZ (own_g hw 91 rfl)) (mvT hZ (own_g hw 82 rfl)) (mvT hZ (own_g hw 92 rfl)) (by decide) (backOf (W := 0) (rm15_0 l Z a0 hw [] b kb  mo h0 n0 Z0 VB XB M_mo) hZ (own_g hw 92 rfl) (own_g hw 82 rfl) (by decide) (by decide)) (g := (mkF m 6 #[.val (.ref b), .val (.int (0 : Int32))] [(.ref mo), (.int (0 : Int32)), (.ref b)])) rfl (by rw [hml]; rfl) (argsL := [(.ref b), (.int (0 : Int32)), (.ref mo)]) (rest := []) (lenOf pd__28_5bLjava_2flang_2fObject_3bILjava_2flang_2fClass_3b_29_5bLjava_2flang_2fObject_3b rfl) rfl (by show 2 * 0 + _ ≤ _; exact Nat.le_of_eq rfl) (hb hby d14_6) (fun _ _ => ⟨rfl, e1, (by decide : 0 + 1 ≤ _), (by decide : 0 + 0 ≤ _)⟩)
  dsimp only [Pt.U, Pt.locs, Pt.cells, Pt.slots] at X2 l2 y2 z2 st2 hQ2
  subst l2 y2 z2
  obtain ⟨c2, kc2, rfl, Nq2, Kq2, fq0_2, fq1_2⟩ := hQ2
  have N2 := Fr.app N0 Nq2
  have Z2 : n0 ≤ T2.heap.size := Nat.le_trans Z0 Kq2.1
  have SZ2 : h0.size ≤ T2.heap.size := Nat.le_trans (Nat.le_refl h0.size) Kq2.1
  have ne_b_c2 : b ≠ c2 := Nat.ne_of_lt (Nat.lt_of_lt_of_le (VB).lt fq0_2)
  have ge_c2 : n0 ≤ c2 := Nat.le_trans Z0 fq0_2
  have sz_c2 : h0.size ≤ c2 := Nat.le_trans (Nat.le_refl h0.size) fq0_2
  refine own_step st2 ?_
  show own_Ends p e below F (T2.setTop (mkF m 9 #[.val (.ref b), .val (.int (0 : Int32))] [(.ref c2)]))
  rw [hF]
  exact own_ret X2 (v := (some (.ref c2))) (fun h => by rw [Bd.returns] at h; cases h) Bd.notSynchronized (fun fs hr => retOut X2 hx (t := (.array (.object "java/lang/Object"))) (w := (.ref c2)) (i := .areturn) Bd.returns rfl (Or.inr (Or.inr (Or.inr (Or.inr ⟨rfl, rfl, rfl⟩)))) (hb hby d14_9) hr) (by decide) (by decide) (by exact ⟨_, _, rfl, N2, ((Keep.trans (Keep.refl _ _) Kq2 all0) : Keep h0 T2.heap []), sz_c2, fq1_2⟩)

theorem d13_0 : decode jdk_38_method_16_code 0 = .ok (.aload_n 0, 1) := by decide +kernel
theorem d13_1 : decode jdk_38_method_16_code 1 = .ok (.getfield 9, 3) := by decide +kernel
theorem d13_4 : decode jdk_38_method_16_code 4 = .ok (.aload_n 0, 1) := by decide +kernel
theorem d13_5 : decode jdk_38_method_16_code 5 = .ok (.getfield 48, 3) := by decide +kernel
theorem d13_8 : decode jdk_38_method_16_code 8 = .ok (.invokestatic 66, 3) := by decide +kernel
theorem d13_11 : decode jdk_38_method_16_code 11 = .ok (.areturn, 1) := by decide +kernel
theorem pd__28_5bLjava_2flang_2fObject_3bI_29_5bLjava_2flang_2fObject_3b : parseMethodDescriptor "([Ljava/lang/Object;I)[Ljava/lang/Object;" = some ⟨[(.array (.object "java/lang/Object")), .int], some (.array (.object "java/lang/Object"))⟩ := by decide +kernel
theorem ef_rm13_0 (m : MethodId) (x0 : Addr) : entryFrame m #[(.ref x0)] 1 = mkF m 0 #[.val (.ref x0)] [] := by first | (simp [entryFrame, mkF, argsToLocals, Value.category, maxLocals]; done) | rfl
def Q13_0 (Z : State) (bl : Addr) (b : Addr) (kb : ClassId) (mo : Addr) (h0 : Heap) (n0 : Nat) (v : Option Value) (h : Heap) (L : List Loc) : Prop := ∃ c k, v = some (.ref c) ∧ Fr n0 L ∧ Keep h0 h [] ∧ h0.size ≤ c ∧ Arv Z h c k (.object "java/lang/Object") (0 : Int32) [] .null
set_option maxRecDepth 65536 in
set_option maxHeartbeats 40000000 in
theorem rm13_0 (l : Launch) (Z : State) (a0 : Array Value) (hw : ∀ d ∈ tables_1, d.before a0 Z = true) (ws : List Jvm.Cond) (bl : Addr) (b : Addr) (kb : ClassId) (mo : Addr) (h0 : Heap) (n0 : Nat) (Z0 : n0 ≤ h0.size) (VB : Arv Z h0 b kb (.object "java/lang/Object") (0 : Int32) [] .null) (XB : Exa Z h0 b "[Ljava/lang/Object;") (M_mo : Mir Z "[Ljava/lang/Object;" mo) (EL : Exa Z h0 bl "java/util/ArrayList") (FE : Fld Z h0 bl "java/util/ArrayList" "elementData" "[Ljava/lang/Object;" (.ref b)) (FZ : Fld Z h0 bl "java/util/ArrayList" "size" "I" (.int (0 : Int32))) :
    MetFree l (⟨"java/util/ArrayList", "toArray", "()[Ljava/lang/Object;"⟩ : MethodName) (head1 (Jvm.Cond.code (⟨"java/util/ArrayList", "toArray", "()[Ljava/lang/Object;"⟩ : MethodName) jdk_38_method_16_code 1 (some (.array (.object "java/lang/Object"))) :: ws) ({ frames := 3, cells := 1, slots := 0, locals := 46 } : Room)) (fun ar U => ar = #[(.ref bl)] ∧ Z.Warmed39 U.vm ∧ U.heap = h0) (fun _ _ _ _ _ => True) (fun _ U o U' => ∃ v L, o = .returned v ∧ Q13_0 Z bl b kb mo h0 n0 v U'.heap L ∧ FrameEnd U o U' L ({ frames := 3, cells := 1, slots := 0, locals := 46 } : Room).cells ({ frames := 3, cells := 1, slots := 0, locals := 46 } : Room).slots) := by
  refine MetFree.of_bodySF (plainFor_of_name pn_java_util_ArrayList) hisR ?_
  intro p e s m args below meth c s₁ Bd hml0 hP hK
  obtain ⟨rfl, hZ, hh⟩ := hP
  have hx := Bd.exec
  have hby := Bd.bytes
  have hml : c.maxLocals = 1 := hml0
  have hown : s.vm.findClass "java/util/ArrayList" = some m.cls := findClass_of_methodNamed Bd.named
  have hnm := (name_of_methodNamed Bd.named Bd.method).1
  have X0 : Stand p l e ({ frames := 3, cells := 1, slots := 0, locals := 46 } : Room) s m #[(.ref bl)] below meth c s₁ [] 0 0 := Stand.of_body Bd
  have e0 : s₁.heap = h0 := by rw [← hh, Bd.state]; rfl
  have N0 := Fr.nil n0
  obtain ⟨F, hF⟩ : ∃ F, F = own_Fin s (Q13_0 Z bl b kb mo h0 n0) ({ frames := 3, cells := 1, slots := 0, locals := 46 } : Room).cells ({ frames := 3, cells := 1, slots := 0, locals := 46 } : Room).slots := ⟨_, rfl⟩
  show own_Ends p e below (own_Fin s (Q13_0 Z bl b kb mo h0 n0) ({ frames := 3, cells := 1, slots := 0, locals := 46 } : Room).cells ({ frames := 3, cells := 1, slots := 0, locals := 46 } : Room).slots) _
  rw [← hF, ef_rm13_0 m bl]
  show own_Ends p e below F (s₁.setTop (mkF m 0 #[.val (.ref bl)] []))
  refine own_step (fun _ k => XS.aloadN X0.here hx rfl (hb hby d13_0) rfl rfl k) ?_
  show own_Ends p e below F (s₁.setTop (mkF m 1 #[.val (.ref bl)] [(.ref bl)]))
  obtain ⟨T1, X1, e1, st1⟩ := getF X0 hx hZ hown (host := "") (Or.inl (own_g hw 24 rfl)) Via.refl e0 FE (g := (mkF m 1 #[.val (.ref bl)] [(.ref bl)])) rfl rfl (hb hby d13_1)
  refine own_step st1 ?_
  show own_Ends p e below F (T1.setTop (mkF m 4 #[.val (.ref bl)] [(.ref b)]))
  refine own_step (fun _ k => XS.aloadN X1.here hx rfl (hb hby d13_4) rfl rfl k) ?_
  show own_Ends p e below F (T1.setTop (mkF m 5 #[.val (.ref bl)] [(.ref bl), (.ref b)]))
  obtain ⟨T2, X2, e2, st2⟩ := getF X1 hx hZ hown (host := "") (Or.inl (own_g hw 78 rfl)) Via.refl e1 FZ (g := (mkF m 5 #[.val (.ref bl)] [(.ref bl), (.ref b)])) rfl rfl (hb hby d13_5)
  refine own_step st2 ?_
  show own_Ends p e below F (T2.setTop (mkF m 8 #[.val (.ref bl)] [(.int (0 : Int32)), (.ref b)]))
  obtain ⟨_, _, ⟨T3, L3, k3, n3⟩, -, X3, ⟨Lc3, hQ3, l3, y3, z3⟩, st3⟩ := Jvm.LawKit.callS X2 hx (y := (⟨"java/util/Arrays", "copyOf", "([Ljava/lang/Object;I)[Ljava/lang/Object;"⟩ : MethodName)) hown (mvT hZ (own_g hw 80 rfl)) (mvT hZ (own_g hw 81 rfl)) (mvT hZ (own_g hw 82 rfl)) (mvT hZ (own_g hw 83 rfl)) (by decide) (backOf (W := 0) (rm14_0 l Z a0 hw [] b kb  mo h0 n0 Z0 VB XB M_mo) hZ (own_g hw 83 rfl) (own_g hw 82 rfl) (by decide) (by decide)) (g := (mkF m 8 #[.val (.ref bl)] [(.int (0 : Int32)), (.ref b)])) rfl (by rw [hml]; rfl) (argsL := [(.ref b), (.int (0 : Int32))]) (rest := []) (lenOf pd__28_5bLjava_2flang_2fObject_3bI_29_5bLjava_2flang_2fObject_3b rfl) rfl (by show 2 * 0 + _ ≤ _; exact Nat.le_of_eq rfl) (hb hby d13_8) (fun _ _ => ⟨rfl, e2, (by decide : 0 + 1 ≤ _), (by decide : 0 + 0 ≤ _)⟩)
  dsimp only [Pt.U, Pt.locs, Pt.cells, Pt.slots] at X3 l3 y3 z3 st3 hQ3
  subst l3 y3 z3
  obtain ⟨c3, kc3, rfl, Nq3, Kq3, fq0_3, fq1_3⟩ := hQ3
  have N3 := Fr.app N0 Nq3
  have Z3 : n0 ≤ T3.heap.size := Nat.le_trans Z0 Kq3.1
  have SZ3 : h0.size ≤ T3.heap.size := Nat.le_trans (Nat.le_refl h0.size) Kq3.1
  have ne_b_c3 : b ≠ c3 := Nat.ne_of_lt (Nat.lt_of_lt_of_le (VB).lt fq0_3)
  have ne_bl_c3 : bl ≠ c3 := Nat.ne_of_lt (Nat.lt_of_lt_of_le (EL).lt fq0_3)
  have ge_c3 : n0 ≤ c3 := Nat.le_trans Z0 fq0_3
  have sz_c3 : h0.size ≤ c3 := Nat.le_trans (Nat.le_refl h0.size) fq0_3
  refine own_step st3 ?_
  show own_Ends p e below F (T3.setTop (mkF m 11 #[.val (.ref bl)] [(.ref c3)]))
  rw [hF]
  exact own_ret X3 (v := (some (.ref c3))) (fun h => by rw [Bd.returns] at h; cases h) Bd.notSynchronized (fun fs hr => retOut X3 hx (t := (.array (.object "java/lang/Object"))) (w := (.ref c3)) (i := .areturn) Bd.returns rfl (Or.inr (Or.inr (Or.inr (Or.inr ⟨rfl, rfl, rfl⟩)))) (hb hby d13_11) hr) (by decide) (by decide) (by exact ⟨_, _, rfl, N3, ((Keep.trans (Keep.refl _ _) Kq3 all0) : Keep h0 T3.heap []), sz_c3, fq1_3⟩)

theorem d12_0 : decode jdk_38_method_3_code 0 = .ok (.aload_n 0, 1) := by decide +kernel
theorem d12_1 : decode jdk_38_method_3_code 1 = .ok (.invokespecial 1, 3) := by decide +kernel
theorem d12_4 : decode jdk_38_method_3_code 4 = .ok (.aload_n 1, 1) := by decide +kernel
theorem d12_5 : decode jdk_38_method_3_code 5 = .ok (.invokeinterface 42 1, 5) := by decide +kernel
theorem d12_10 : decode jdk_38_method_3_code 10 = .ok (.astore_n 2, 1) := by decide +kernel
theorem d12_11 : decode jdk_38_method_3_code 11 = .ok (.aload_n 0, 1) := by decide +kernel
theorem d12_12 : decode jdk_38_method_3_code 12 = .ok (.aload_n 2, 1) := by decide +kernel
theorem d12_13 : decode jdk_38_method_3_code 13 = .ok (.arraylength, 1) := by decide +kernel
theorem d12_14 : decode jdk_38_method_3_code 14 = .ok (.dup_x1, 1) := by decide +kernel
theorem d12_15 : decode jdk_38_method_3_code 15 = .ok (.putfield 48, 3) := by decide +kernel
theorem d12_18 : decode jdk_38_method_3_code 18 = .ok (.ifCond .eq 39, 3) := by decide +kernel
theorem d12_57 : decode jdk_38_method_3_code 57 = .ok (.aload_n 0, 1) := by decide +kernel
theorem d12_58 : decode jdk_38_method_3_code 58 = .ok (.getstatic 15, 3) := by decide +kernel
theorem d12_61 : decode jdk_38_method_3_code 61 = .ok (.putfield 9, 3) := by decide +kernel
theorem d12_64 : decode jdk_38_method_3_code 64 = .ok (.return_, 1) := by decide +kernel
theorem ef_rm12_0 (m : MethodId) (x0 : Addr) (x1 : Addr) : entryFrame m #[(.ref x0), (.ref x1)] 3 = mkF m 0 #[.val (.ref x0), .val (.ref x1), .unset] [] := by first | (simp [entryFrame, mkF, argsToLocals, Value.category, maxLocals]; done) | rfl
def Q12_0 (Z : State) (a bl : Addr) (b : Addr) (kb : ClassId) (mo : Addr) (ee ma : Addr) (h0 : Heap) (n0 : Nat) (v : Option Value) (h : Heap) (L : List Loc) : Prop := v = none ∧ Fr n0 L ∧ Keep h0 h [a] ∧ Exa Z h a "java/util/ArrayList"
set_option maxRecDepth 65536 in
set_option maxHeartbeats 40000000 in
theorem rm12_0 (l : Launch) (Z : State) (a0 : Array Value) (hw : ∀ d ∈ tables_1, d.before a0 Z = true) (ws : List Jvm.Cond) (a bl : Addr) (b : Addr) (kb : ClassId) (mo : Addr) (ee ma : Addr) (h0 : Heap) (n0 : Nat) (Z0 : n0 ≤ h0.size) (EX : Exa Z h0 a "java/util/ArrayList") (ge : n0 ≤ a) (F_modCount : Fld Z h0 a "java/util/AbstractList" "modCount" "I" (.int (0 : Int32))) (F_elementData : Fld Z h0 a "java/util/ArrayList" "elementData" "[Ljava/lang/Object;" .null) (F_size : Fld Z h0 a "java/util/ArrayList" "size" "I" (.int (0 : Int32))) (VB : Arv Z h0 b kb (.object "java/lang/Object") (0 : Int32) [] .null) (XB : Exa Z h0 b "[Ljava/lang/Object;") (M_mo : Mir Z "[Ljava/lang/Object;" mo) (EL : Exa Z h0 bl "java/util/ArrayList") (FE : Fld Z h0 bl "java/util/ArrayList" "elementData" "[Ljava/lang/Object;" (.ref b)) (FZ : Fld Z h0 bl "java/util/ArrayList" "size" "I" (.int (0 : Int32))) (SE : Sta Z h0 "java/util/ArrayList" "EMPTY_ELEMENTDATA" "[Ljava/lang/Object;" (.ref ee)) (M_ma : Mir Z "java/util/ArrayList" ma) (nab : a ≠ bl) (nav : a ≠ b) :
    MetFree l (⟨"java/util/ArrayList", "<init>", "(Ljava/util/Collection;)V"⟩ : MethodName) (head1 (Jvm.Cond.code (⟨"java/util/ArrayList", "<init>", "(Ljava/util/Collection;)V"⟩ : MethodName) jdk_38_method_3_code 3 none :: ws) ({ frames := 4, cells := 1, slots := 0, locals := 58 } : Room)) (fun ar U => ar = #[(.ref a), (.ref bl)] ∧ Z.Warmed39 U.vm ∧ U.heap = h0) (fun _ _ _ _ _ => True) (fun _ U o U' => ∃ v L, o = .returned v ∧ Q12_0 Z a bl b kb mo ee ma h0 n0 v U'.heap L ∧ FrameEnd U o U' L ({ frames := 4, cells := 1, slots := 0, locals := 58 } : Room).cells ({ frames := 4, cells := 1, slots := 0, locals := 58 } : Room).slots) := by
  refine MetFree.of_bodySF (plainFor_of_name pn_java_util_ArrayList) hisR ?_
  intro p e s m args below meth c s₁ Bd hml0 hP hK
  obtain ⟨rfl, hZ, hh⟩ := hP
  have hx := Bd.exec
  have hby := Bd.bytes
  have hml : c.maxLocals = 3 := hml0
  have hown : s.vm.findClass "java/util/ArrayList" = some m.cls := findClass_of_methodNamed Bd.named
  have hnm := (name_of_methodNamed Bd.named Bd.method).1
  have X0 : Stand p l e ({ frames := 4, cells := 1, slots := 0, locals := 58 } : Room) s m #[(.ref a), (.ref bl)] below meth c s₁ [] 0 0 := Stand.of_body Bd
  have e0 : s₁.heap = h0 := by rw [← hh, Bd.state]; rfl
  have N0 := Fr.nil n0
  obtain ⟨F, hF⟩ : ∃ F, F = own_Fin s (Q12_0 Z a bl b kb mo ee ma h0 n0) ({ frames := 4, cells := 1, slots := 0, locals := 58 } : Room).cells ({ frames := 4, cells := 1, slots := 0, locals := 58 } : Room).slots := ⟨_, rfl⟩
  show own_Ends p e below (own_Fin s (Q12_0 Z a bl b kb mo ee ma h0 n0) ({ frames := 4, cells := 1, slots := 0, locals := 58 } : Room).cells ({ frames := 4, cells := 1, slots := 0, locals := 58 } : Room).slots) _
  rw [← hF, ef_rm12_0 m a bl]
  show own_Ends p e below F (s₁.setTop (mkF m 0 #[.val (.ref a), .val (.ref bl), .unset] []))
  refine own_step (fun _ k => XS.aloadN X0.here hx rfl (hb hby d12_0) rfl rfl k) ?_
  show own_Ends p e below F (s₁.setTop (mkF m 1 #[.val (.ref a), .val (.ref bl), .unset] [(.ref a)]))
  obtain ⟨_, _, ⟨T1, L1, k1, n1⟩, -, X1, ⟨Lc1, hQ1, l1, y1, z1⟩, st1⟩ := X0.specialBack hx (y := (⟨"java/util/AbstractList", "<init>", "()V"⟩ : MethodName)) rfl hown (mvT hZ (own_g hw 6 rfl)) (mvT hZ (own_g hw 7 rfl)) (mvT hZ (own_g hw 11 rfl)) (by decide) (backOf (W := 0) (rm2 l Z a0 hw [] a  h0 n0 Z0 EX ge F_modCount F_elementData F_size ) hZ (own_g hw 11 rfl) (own_g hw 10 rfl) (by decide) (by decide)) (g := (mkF m 1 #[.val (.ref a), .val (.ref bl), .unset] [(.ref a)])) rfl (by rw [hml]; rfl) (Steps.refl _) (a := a) (argsL := []) (rest := []) (lenOf pd__28_29V rfl) rfl (by show 2 * 0 + _ ≤ _; exact Nat.le_of_eq rfl) (hb hby d12_1) (fun _ _ => ⟨rfl, e0, (by decide : 0 + 0 ≤ _), (by decide : 0 + 0 ≤ _)⟩)
  dsimp only [Pt.U, Pt.locs, Pt.cells, Pt.slots] at X1 l1 y1 z1 st1 hQ1
  subst l1 y1 z1
  obtain ⟨rfl, Nq1, Kq1, fq0_1, fq1_1, fq2_1, fq3_1⟩ := hQ1
  have N1 := Fr.app N0 Nq1
  have Z1 : n0 ≤ T1.heap.size := Nat.le_trans Z0 Kq1.1
  have SZ1 : h0.size ≤ T1.heap.size := Nat.le_trans (Nat.le_refl h0.size) Kq1.1
  have S0_1 := own_Sta_keep SE Kq1 (allS (own_ns_exa EX) all0)
  refine own_trans st1 ?_
  show own_Ends p e below F (T1.setTop (mkF m 4 #[.val (.ref a), .val (.ref bl), .unset] []))
  refine own_step (fun _ k => XS.aloadN X1.here hx rfl (hb hby d12_4) rfl rfl k) ?_
  show own_Ends p e below F (T1.setTop (mkF m 5 #[.val (.ref a), .val (.ref bl), .unset] [(.ref bl)]))
  obtain ⟨cq2, kq2, qa2, qb2, qc2⟩ := isOf (s := s) (T := T1) hZ rfl (EL.keep Kq1)
  obtain ⟨_, _, ⟨T2, L2, k2, n2⟩, -, X2, ⟨Lc2, hQ2, l2, y2, z2⟩, st2⟩ := X1.interfaceBack hx (xi := (⟨"java/util/Collection", "toArray", "()[Ljava/lang/Object;"⟩ : MethodName)) (y := (⟨"java/util/ArrayList", "toArray", "()[Ljava/lang/Object;"⟩ : MethodName)) hown (mvT hZ (own_g hw 69 rfl)) (mvT hZ (own_g hw 70 rfl)) (mvT hZ (own_g hw 71 rfl)) (mvT hZ (own_g hw 72 rfl)) (mvT hZ (own_g hw 73 rfl)) (mvT hZ (own_g hw 74 rfl)) (mvT hZ (own_g hw 75 rfl)) (mvT hZ (own_g hw 76 rfl)) (by decide) (backOf (W := 0) (rm13_0 l Z a0 hw [] bl b kb  mo T1.heap n0 Z1 (VB.keep Kq1 (ninS (Ne.symm nav) nin0)) (XB.keep Kq1) M_mo (EL.keep Kq1) (FE.keep Kq1 (ninS (Ne.symm nab) nin0)) (FZ.keep Kq1 (ninS (Ne.symm nab) nin0))) hZ (own_g hw 77 rfl) (own_g hw 2 rfl) (by decide) (by decide)) qa2 qb2 qc2 (g := (mkF m 5 #[.val (.ref a), .val (.ref bl), .unset] [(.ref bl)])) rfl (by rw [hml]; rfl) (Steps.refl _) (argsL := []) (rest := []) (lenOf pd__28_29_5bLjava_2flang_2fObject_3b rfl) rfl (by show 2 * 0 + _ ≤ _; exact Nat.le_of_eq rfl) (hb hby d12_5) (fun _ _ => ⟨rfl, rfl, (by decide : 0 + 1 ≤ _), (by decide : 0 + 0 ≤ _)⟩)
  dsimp only [Pt.U, Pt.locs, Pt.cells, Pt.slots] at X2 l2 y2 z2 st2 hQ2
  subst l2 y2 z2
  obtain ⟨c2, kc2, rfl, Nq2, Kq2, fq0_2, fq1_2⟩ := hQ2
  have N2 := Fr.app N1 Nq2
  have Z2 : n0 ≤ T2.heap.size := Nat.le_trans Z1 Kq2.1
  have SZ2 : h0.size ≤ T2.heap.size := Nat.le_trans SZ1 Kq2.1
  have S0_2 := own_Sta_keep S0_1 Kq2 all0
  have ne_a_c2 : a ≠ c2 := Nat.ne_of_lt (Nat.lt_of_lt_of_le (fq0_1).lt fq0_2)
  have ne_b_c2 : b ≠ c2 := Nat.ne_of_lt (Nat.lt_of_lt_of_le ((VB.keep Kq1 (ninS (Ne.symm nav) nin0))).lt fq0_2)
  have ne_bl_c2 : bl ≠ c2 := Nat.ne_of_lt (Nat.lt_of_lt_of_le ((EL.keep Kq1)).lt fq0_2)
  have ge_c2 : n0 ≤ c2 := Nat.le_trans Z1 fq0_2
  have sz_c2 : h0.size ≤ c2 := Nat.le_trans SZ1 fq0_2
  refine own_trans st2 ?_
  show own_Ends p e below F (T2.setTop (mkF m 10 #[.val (.ref a), .val (.ref bl), .unset] [(.ref c2)]))
  refine own_step (fun _ k => XS.astoreN X2.here hx rfl (hb hby d12_10) rfl rfl (l' := #[.val (.ref a), .val (.ref bl), .val (.ref c2)]) rfl k) ?_
  show own_Ends p e below F (T2.setTop (mkF m 11 #[.val (.ref a), .val (.ref bl), .val (.ref c2)] []))
  refine own_step (fun _ k => XS.aloadN X2.here hx rfl (hb hby d12_11) rfl rfl k) ?_
  show own_Ends p e below F (T2.setTop (mkF m 12 #[.val (.ref a), .val (.ref bl), .val (.ref c2)] [(.ref a)]))
  refine own_step (fun _ k => XS.aloadN X2.here hx rfl (hb hby d12_12) rfl rfl k) ?_
  show own_Ends p e below F (T2.setTop (mkF m 13 #[.val (.ref a), .val (.ref bl), .val (.ref c2)] [(.ref c2), (.ref a)]))
  obtain ⟨cl3, Ar3, q3, S3, M3, H3, G3⟩ := id fq1_2
  have al3 := X2.arraylength hx (by exact Ar3.1) (State.isArrayOf_alike hZ.alike Ar3.2.1) (g := (mkF m 13 #[.val (.ref a), .val (.ref bl), .val (.ref c2)] [(.ref c2), (.ref a)])) rfl rfl (hb hby d12_13)
  rw [len_of S3 M3] at al3
  refine own_step al3 ?_
  show own_Ends p e below F (T2.setTop (mkF m 14 #[.val (.ref a), .val (.ref bl), .val (.ref c2)] [(.int (0 : Int32)), (.ref a)]))
  refine own_step (fun _ k => XS.dupX1 X2.here hx rfl (hb hby d12_14) rfl rfl rfl k) ?_
  show own_Ends p e below F (T2.setTop (mkF m 15 #[.val (.ref a), .val (.ref bl), .val (.ref c2)] [(.int (0 : Int32)), (.ref a), (.int (0 : Int32))]))
  obtain ⟨T4, h4, X4, e4, W4, st4⟩ := putF X2 hx hZ hown (host := "") (Or.inl (own_g hw 78 rfl)) Via.refl rfl (fq3_1.keep Kq2 nin0) (fq0_1.keep Kq2) (Or.inl (own_g hw 79 rfl)) (own_g hw 1 rfl) (ty := .int) (by decide) rfl rfl (g := (mkF m 15 #[.val (.ref a), .val (.ref bl), .val (.ref c2)] [(.int (0 : Int32)), (.ref a), (.int (0 : Int32))])) rfl rfl (hb hby d12_15)
  refine own_step st4 ?_
  have F4 := Fld.same W4 (fq3_1.keep Kq2 nin0)
  have N4 := Fr.snoc X4 N2 ge
  have Z4 : n0 ≤ h4.size := by rw [W4.size]; exact Z2
  have SZ4 : h0.size ≤ h4.size := by rw [W4.size]; exact SZ2
  show own_Ends p e below F (T4.setTop (mkF m 18 #[.val (.ref a), .val (.ref bl), .val (.ref c2)] [(.int (0 : Int32))]))
  refine own_step (fun _ k => XS.ifYes X4.here hx rfl (pc0 := 18) (pc' := 57) rfl (hb hby d12_18) rfl ((if0 _ _).trans (teq (by decide : (0 : Int32) = (0 : Int32))).1) (by decide) (by decide) k) ?_
  show own_Ends p e below F (T4.setTop (mkF m 57 #[.val (.ref a), .val (.ref bl), .val (.ref c2)] []))
  refine own_step (fun _ k => XS.aloadN X4.here hx rfl (hb hby d12_57) rfl rfl k) ?_
  show own_Ends p e below F (T4.setTop (mkF m 58 #[.val (.ref a), .val (.ref bl), .val (.ref c2)] [(.ref a)]))
  obtain ⟨T5, X5, e5, st5⟩ := getS2 X4 hx hZ hown (host := "") (Or.inl (own_g hw 104 rfl)) Via.refl e4 (Sta.wr W4 S0_2) (g := (mkF m 58 #[.val (.ref a), .val (.ref bl), .val (.ref c2)] [(.ref a)])) rfl (hb hby d12_58)
  refine own_step st5 ?_
  show own_Ends p e below F (T5.setTop (mkF m 61 #[.val (.ref a), .val (.ref bl), .val (.ref c2)] [(.ref ee), (.ref a)]))
  obtain ⟨T6, h6, X6, e6, W6, st6⟩ := putF X5 hx hZ hown (host := "") (Or.inl (own_g hw 24 rfl)) Via.refl e5 (Fld.other W4 (fq2_1.keep Kq2 nin0) (Or.inr (slot_ne (t := (.array (.object "java/lang/Object"))) (t' := .int) (Or.inl (own_g hw 25 rfl)) (Or.inl (own_g hw 79 rfl)) (by decide) (by decide) (by decide)))) ((fq0_1.keep Kq2).wr W4) (Or.inl (own_g hw 25 rfl)) (own_g hw 1 rfl) (ty := (.array (.object "java/lang/Object"))) (by decide) rfl rfl (g := (mkF m 61 #[.val (.ref a), .val (.ref bl), .val (.ref c2)] [(.ref ee), (.ref a)])) rfl rfl (hb hby d12_61)
  refine own_step st6 ?_
  have F6 := Fld.same W6 (Fld.other W4 (fq2_1.keep Kq2 nin0) (Or.inr (slot_ne (t := (.array (.object "java/lang/Object"))) (t' := .int) (Or.inl (own_g hw 25 rfl)) (Or.inl (own_g hw 79 rfl)) (by decide) (by decide) (by decide))))
  have N6 := Fr.snoc X6 N4 ge
  have Z6 : n0 ≤ h6.size := by rw [W6.size]; exact Z4
  have SZ6 : h0.size ≤ h6.size := by rw [W6.size]; exact SZ4
  show own_Ends p e below F (T6.setTop (mkF m 64 #[.val (.ref a), .val (.ref bl), .val (.ref c2)] []))
  rw [hF]
  exact own_ret X6 (v := none) (fun _ => rfl) Bd.notSynchronized (fun fs hr => X6.returnOut hx Bd.returns (hb hby d12_64) hr) (by decide) (by decide) (by rw [e6]; exact ⟨rfl, N6, ((Keep.wr (Keep.wr (Keep.trans (Keep.trans (Keep.refl _ _) Kq1 (allS (Or.inl (List.mem_of_getElem? (i := 0) rfl)) all0)) Kq2 all0) W4 (Or.inl (List.mem_of_getElem? (i := 0) rfl))) W6 (Or.inl (List.mem_of_getElem? (i := 0) rfl))) : Keep h0 h6 [a]), (((fq0_1.keep Kq2).wr W4).wr W6)⟩)

theorem ef_rm15_1 (m : MethodId) (x0 : Addr) (x1 : Int32) (x2 : Addr) : entryFrame m #[(.ref x0), (.int x1), (.ref x2)] 4 = mkF m 0 #[.val (.ref x0), .val (.int x1), .val (.ref x2), .unset] [] := by first | (simp [entryFrame, mkF, argsToLocals, Value.category, maxLocals]; done) | rfl
def Q15_1 (Z : State) (b : Addr) (kb : ClassId) (w0 : Value) (mo : Addr) (h0 : Heap) (n0 : Nat) (v : Option Value) (h : Heap) (L : List Loc) : Prop := ∃ c k, v = some (.ref c) ∧ Fr n0 L ∧ Keep h0 h [] ∧ h0.size ≤ c ∧ Arv Z h c k (.object "java/lang/Object") (1 : Int32) [w0] .null
set_option maxRecDepth 65536 in
set_option maxHeartbeats 40000000 in
theorem rm15_1 (l : Launch) (Z : State) (a0 : Array Value) (hw : ∀ d ∈ tables_1, d.before a0 Z = true) (ws : List Jvm.Cond) (b : Addr) (kb : ClassId) (w0 : Value) (mo : Addr) (h0 : Heap) (n0 : Nat) (Z0 : n0 ≤ h0.size) (VB : Arv Z h0 b kb (.object "java/lang/Object") (10 : Int32) [w0, .null, .null, .null, .null, .null, .null, .null, .null, .null] .null) (XB : Exa Z h0 b "[Ljava/lang/Object;") (Hw0 : own_Ob Z h0 w0) (M_mo : Mir Z "[Ljava/lang/Object;" mo) :
    MetFree l (⟨"java/util/Arrays", "copyOf", "([Ljava/lang/Object;ILjava/lang/Class;)[Ljava/lang/Object;"⟩ : MethodName) (head1 (Jvm.Cond.code (⟨"java/util/Arrays", "copyOf", "([Ljava/lang/Object;ILjava/lang/Class;)[Ljava/lang/Object;"⟩ : MethodName) jdk_65_method_120_code 4 (some (.array (.object "java/lang/Object"))) :: ws) ({ frames := 1, cells := 1, slots := 1, locals := 18 } : Room)) (fun ar U => ar = #[(.ref b), (.int (1 : Int32)), (.ref mo)] ∧ Z.Warmed39 U.vm ∧ U.heap = h0) (fun _ _ _ _ _ => True) (fun _ U o U' => ∃ v L, o = .returned v ∧ Q15_1 Z b kb w0 mo h0 n0 v U'.heap L ∧ FrameEnd U o U' L ({ frames := 1, cells := 1, slots := 1, locals := 18 } : Room).cells ({ frames := 1, cells := 1, slots := 1, locals := 18 } : Room).slots) := by
  refine MetFree.of_bodySF (plainFor_of_name pn_java_util_Arrays) hisR ?_
  intro p e s m args below meth c s₁ Bd hml0 hP hK
  obtain ⟨rfl, hZ, hh⟩ := hP
  have hx := Bd.exec
  have hby := Bd.bytes
  have hml : c.maxLocals = 4 := hml0
  have hown : s.vm.findClass "java/util/Arrays" = some m.cls := findClass_of_methodNamed Bd.named
  have hnm := (name_of_methodNamed Bd.named Bd.method).1
  have X0 : Stand p l e ({ frames := 1, cells := 1, slots := 1, locals := 18 } : Room) s m #[(.ref b), (.int (1 : Int32)), (.ref mo)] below meth c s₁ [] 0 0 := Stand.of_body Bd
  have e0 : s₁.heap = h0 := by rw [← hh, Bd.state]; rfl
  have N0 := Fr.nil n0
  obtain ⟨F, hF⟩ : ∃ F, F = own_Fin s (Q15_1 Z b kb w0 mo h0 n0) ({ frames := 1, cells := 1, slots := 1, locals := 18 } : Room).cells ({ frames := 1, cells := 1, slots := 1, locals := 18 } : Room).slots := ⟨_, rfl⟩
  show own_Ends p e below (own_Fin s (Q15_1 Z b kb w0 mo h0 n0) ({ frames := 1, cells := 1, slots := 1, locals := 18 } : Room).cells ({ frames := 1, cells := 1, slots := 1, locals := 18 } : Room).slots) _
  rw [← hF, ef_rm15_1 m b (1 : Int32) mo]
  show own_Ends p e below F (s₁.setTop (mkF m 0 #[.val (.ref b), .val (.int (1 : Int32)), .val (.ref mo), .unset] []))
  refine own_step (fun _ k => XS.aloadN X0.here hx rfl (hb hby d15_0) rfl rfl k) ?_
  show own_Ends p e below F (s₁.setTop (mkF m 1 #[.val (.ref b), .val (.int (1 : Int32)), .val (.ref mo), .unset] [(.ref mo)]))
  obtain ⟨T1, X1, e1, st1⟩ := own_ldcM X0 hx hZ hown (own_g hw 93 rfl) e0 M_mo (g := (mkF m 1 #[.val (.ref b), .val (.int (1 : Int32)), .val (.ref mo), .unset] [(.ref mo)])) rfl (hb hby d15_1)
  refine own_step st1 ?_
  show own_Ends p e below F (T1.setTop (mkF m 3 #[.val (.ref b), .val (.int (1 : Int32)), .val (.ref mo), .unset] [(.ref mo), (.ref mo)]))
  refine own_step (fun _ k => Jvm.RoadKit.acmp (below := below) (g := (mkF m 3 #[.val (.ref b), .val (.int (1 : Int32)), .val (.ref mo), .unset] [(.ref mo), (.ref mo)])) X1 hx rfl rfl rfl (pc0 := 3) (pc' := 6) (same := true) rfl (hb hby d15_3) rfl (decide_eq_true rfl) (by decide) (by decide) k) ?_
  show own_Ends p e below F (T1.setTop (mkF m 6 #[.val (.ref b), .val (.int (1 : Int32)), .val (.ref mo), .unset] []))
  refine own_step (fun _ k => XS.iloadN X1.here hx rfl (hb hby d15_6) rfl k) ?_
  show own_Ends p e below F (T1.setTop (mkF m 7 #[.val (.ref b), .val (.int (1 : Int32)), .val (.ref mo), .unset] [(.int (1 : Int32))]))
  obtain ⟨T2, h2, k2, X2, e2, E2, A2, EA2, O2, st2⟩ := newRE X1 hx hZ hown (own_g hw 94 rfl) (own_g hw 95 rfl) e1 (g := (mkF m 7 #[.val (.ref b), .val (.int (1 : Int32)), .val (.ref mo), .unset] [(.int (1 : Int32))])) rfl (hb hby d15_7) rfl (by decide) (cap := 1) (by decide) (by decide) (by decide) (by decide) (ad := "[Ljava/lang/Object;") (by decide)
  obtain ⟨a2, g2⟩ : ∃ z, z = h0.size := ⟨_, rfl⟩
  rw [← g2] at A2 EA2 st2
  have ge_a2 : n0 ≤ a2 := Nat.le_trans Z0 (Nat.le_of_eq g2.symm)
  have sz_a2 : h0.size ≤ a2 := Nat.le_trans (Nat.le_refl h0.size) (Nat.le_of_eq g2.symm)
  have ne_b_a2 : b ≠ a2 := Nat.ne_of_lt (by rw [g2]; exact VB.lt)
  have Z2 : n0 ≤ h2.size := Nat.le_trans Z0 E2.1
  have SZ2 : h0.size ≤ h2.size := Nat.le_trans (Nat.le_refl h0.size) E2.1
  have V2 : Arv Z h2 a2 k2 (.object "java/lang/Object") (1 : Int32) [.null] .null := Arv.pad (Arv.new A2 (by decide)) (pad_rep [] _ 1)
  refine own_step st2 ?_
  show own_Ends p e below F (T2.setTop (mkF m 10 #[.val (.ref b), .val (.int (1 : Int32)), .val (.ref mo), .unset] [(.ref a2)]))
  refine own_step (fun _ k => XS.goto X2.here hx rfl (pc0 := 10) (pc' := 24) rfl (hb hby d15_10) (by decide) (by decide) k) ?_
  show own_Ends p e below F (T2.setTop (mkF m 24 #[.val (.ref b), .val (.int (1 : Int32)), .val (.ref mo), .unset] [(.ref a2)]))
  refine own_step (fun _ k => XS.astoreN X2.here hx rfl (hb hby d15_24) rfl rfl (l' := #[.val (.ref b), .val (.int (1 : Int32)), .val (.ref mo), .val (.ref a2)]) rfl k) ?_
  show own_Ends p e below F (T2.setTop (mkF m 25 #[.val (.ref b), .val (.int (1 : Int32)), .val (.ref mo), .val (.ref a2)] []))
  refine own_step (fun _ k => XS.aloadN X2.here hx rfl (hb hby d15_25) rfl rfl k) ?_
  show own_Ends p e below F (T2.setTop (mkF m 26 #[.val (.ref b), .val (.int (1 : Int32)), .val (.ref mo), .val (.ref a2)] [(.ref b)]))
  refine own_step (fun _ k => XS.iconst X2.here hx rfl (hb hby d15_26) k) ?_
  show own_Ends p e below F (T2.setTop (mkF m 27 #[.val (.ref b), .val (.int (1 : Int32)), .val (.ref mo), .val (.ref a2)] [(.int (0 : Int32)), (.ref b)]))
  refine own_step (fun _ k => XS.aloadN X2.here hx rfl (hb hby d15_27) rfl rfl k) ?_
  show own_Ends p e below F (T2.setTop (mkF m 28 #[.val (.ref b), .val (.int (1 : Int32)), .val (.ref mo), .val (.ref a2)] [(.ref a2), (.int (0 : Int32)), (.ref b)]))
  refine own_step (fun _ k => XS.iconst X2.here hx rfl (hb hby d15_28) k) ?_
  show own_Ends p e below F (T2.setTop (mkF m 29 #[.val (.ref b), .val (.int (1 : Int32)), .val (.ref mo), .val (.ref a2)] [(.int (0 : Int32)), (.ref a2), (.int (0 : Int32)), (.ref b)]))
  refine own_step (fun _ k => XS.aloadN X2.here hx rfl (hb hby d15_29) rfl rfl k) ?_
  show own_Ends p e below F (T2.setTop (mkF m 30 #[.val (.ref b), .val (.int (1 : Int32)), .val (.ref mo), .val (.ref a2)] [(.ref b), (.int (0 : Int32)), (.ref a2), (.int (0 : Int32)), (.ref b)]))
  obtain ⟨cl3, Ar3, q3, S3, M3, H3, G3⟩ := id (VB.ext E2)
  have al3 := X2.arraylength hx (by rw [e2]; exact Ar3.1) (State.isArrayOf_alike hZ.alike Ar3.2.1) (g := (mkF m 30 #[.val (.ref b), .val (.int (1 : Int32)), .val (.ref mo), .val (.ref a2)] [(.ref b), (.int (0 : Int32)), (.ref a2), (.int (0 : Int32)), (.ref b)])) rfl rfl (hb hby d15_30)
  rw [len_of S3 M3] at al3
  refine own_step al3 ?_
  show own_Ends p e below F (T2.setTop (mkF m 31 #[.val (.ref b), .val (.int (1 : Int32)), .val (.ref mo), .val (.ref a2)] [(.int (10 : Int32)), (.int (0 : Int32)), (.ref a2), (.int (0 : Int32)), (.ref b)]))
  refine own_step (fun _ k => XS.iloadN X2.here hx rfl (hb hby d15_31) rfl k) ?_
  show own_Ends p e below F (T2.setTop (mkF m 32 #[.val (.ref b), .val (.int (1 : Int32)), .val (.ref mo), .val (.ref a2)] [(.int (1 : Int32)), (.int (10 : Int32)), (.int (0 : Int32)), (.ref a2), (.int (0 : Int32)), (.ref b)]))
  obtain ⟨_, _, ⟨T4, L4, k4, n4⟩, -, X4, ⟨Lc4, hQ4, l4, y4, z4⟩, st4⟩ := Jvm.LawKit.callS X2 hx (y := (⟨"java/lang/Math", "min", "(II)I"⟩ : MethodName)) hown (mvT hZ (own_g hw 96 rfl)) (mvT hZ (own_g hw 97 rfl)) (mvT hZ (own_g hw 98 rfl)) (mvT hZ (own_g hw 99 rfl)) (by decide) (backOf (W := 4) (rm16 l Z a0 hw [] (10 : Int32) (1 : Int32) h2 n0 Z2) hZ (own_g hw 99 rfl) (own_g hw 98 rfl) (by decide) (by decide)) (g := (mkF m 32 #[.val (.ref b), .val (.int (1 : Int32)), .val (.ref mo), .val (.ref a2)] [(.int (1 : Int32)), (.int (10 : Int32)), (.int (0 : Int32)), (.ref a2), (.int (0 : Int32)), (.ref b)])) rfl (by rw [hml]; rfl) (argsL := [(.int (10 : Int32)), (.int (1 : Int32))]) (rest := [(.int (0 : Int32)), (.ref a2), (.int (0 : Int32)), (.ref b)]) (lenOf pd__28II_29I rfl) rfl (by show 2 * 0 + _ ≤ _; exact Nat.le_of_eq rfl) (hb hby d15_32) (fun _ _ => ⟨rfl, e2, (by decide : 1 + 0 ≤ _), (by decide : 1 + 0 ≤ _)⟩)
  dsimp only [Pt.U, Pt.locs, Pt.cells, Pt.slots] at X4 l4 y4 z4 st4 hQ4
  subst l4 y4 z4
  obtain ⟨rfl, Nq4, eq4⟩ := hQ4
  have N4 := Fr.app N0 Nq4
  refine own_step st4 ?_
  show own_Ends p e below F (T4.setTop (mkF m 35 #[.val (.ref b), .val (.int (1 : Int32)), .val (.ref mo), .val (.ref a2)] [(.int (if (1 : Int32) < (10 : Int32) then (1 : Int32) else (10 : Int32))), (.int (0 : Int32)), (.ref a2), (.int (0 : Int32)), (.ref b)]))
  rw [show (if (1 : Int32) < (10 : Int32) then (1 : Int32) else (10 : Int32)) = (1 : Int32) from (by first | rfl | decide)]
  show own_Ends p e below F (T4.setTop (mkF m 35 #[.val (.ref b), .val (.int (1 : Int32)), .val (.ref mo), .val (.ref a2)] [(.int (1 : Int32)), (.int (0 : Int32)), (.ref a2), (.int (0 : Int32)), (.ref b)]))
  obtain ⟨cl5, Ar5, q5, -⟩ := id V2
  obtain ⟨T5, h5, L5, X5, e5, N5, K5, V5, st5⟩ := cpA X4 hx hZ hown (own_g hw 100 rfl) (own_g hw 103 rfl) (own_g hw 101 rfl) (own_g hw 102 rfl) eq4 (VB.ext E2) V2 (us := [w0]) (Or.inr ⟨rfl, rfl, ⟨(own_Ob.sto (Hw0.ext E2) Ar5 q5 O2), trivial⟩⟩) (by decide) (by decide) (by decide) (by decide) (by decide) rfl (by decide) N4 ge_a2 (g := (mkF m 35 #[.val (.ref b), .val (.int (1 : Int32)), .val (.ref mo), .val (.ref a2)] [(.int (1 : Int32)), (.int (0 : Int32)), (.ref a2), (.int (0 : Int32)), (.ref b)])) rfl (by rw [hml]; rfl) (rest := []) rfl (hb hby d15_35) (by decide) (W := 0) (by show 2 * 0 + _ ≤ _; exact Nat.le_of_eq rfl) (by decide)
  have V5 : Arv Z h5 a2 k2 (.object "java/lang/Object") (1 : Int32) [w0] .null := V5
  have Z5 : n0 ≤ h5.size := Nat.le_trans Z2 K5.1
  have SZ5 : h0.size ≤ h5.size := Nat.le_trans SZ2 K5.1
  refine own_step st5 ?_
  show own_Ends p e below F (T5.setTop (mkF m 38 #[.val (.ref b), .val (.int (1 : Int32)), .val (.ref mo), .val (.ref a2)] []))
  refine own_step (fun _ k => XS.aloadN X5.here hx rfl (hb hby d15_38) rfl rfl k) ?_
  show own_Ends p e below F (T5.setTop (mkF m 39 #[.val (.ref b), .val (.int (1 : Int32)), .val (.ref mo), .val (.ref a2)] [(.ref a2)]))
  rw [hF]
  exact own_ret X5 (v := (some (.ref a2))) (fun h => by rw [Bd.returns] at h; cases h) Bd.notSynchronized (fun fs hr => retOut X5 hx (t := (.array (.object "java/lang/Object"))) (w := (.ref a2)) (i := .areturn) Bd.returns rfl (Or.inr (Or.inr (Or.inr (Or.inr ⟨rfl, rfl, rfl⟩)))) (hb hby d15_39) hr) (by decide) (by decide) (by rw [e5]; exact ⟨_, _, rfl, N5, ((Keep.trans (Keep.ext (Keep.refl _ _) E2) K5 (allS (Or.inr sz_a2) all0)) : Keep h0 h5 []), sz_a2, V5⟩)

theorem ef_rm14_1 (m : MethodId) (x0 : Addr) (x1 : Int32) : entryFrame m #[(.ref x0), (.int x1)] 2 = mkF m 0 #[.val (.ref x0), .val (.int x1)] [] := by first | (simp [entryFrame, mkF, argsToLocals, Value.category, maxLocals]; done) | rfl
def Q14_1 (Z : State) (b : Addr) (kb : ClassId) (w0 : Value) (mo : Addr) (h0 : Heap) (n0 : Nat) (v : Option Value) (h : Heap) (L : List Loc) : Prop := ∃ c k, v = some (.ref c) ∧ Fr n0 L ∧ Keep h0 h [] ∧ h0.size ≤ c ∧ Arv Z h c k (.object "java/lang/Object") (1 : Int32) [w0] .null
set_option maxRecDepth 65536 in
set_option maxHeartbeats 40000000 in
theorem rm14_1 (l : Launch) (Z : State) (a0 : Array Value) (hw : ∀ d ∈ tables_1, d.before a0 Z = true) (ws : List Jvm.Cond) (b : Addr) (kb : ClassId) (w0 : Value) (mo : Addr) (h0 : Heap) (n0 : Nat) (Z0 : n0 ≤ h0.size) (VB : Arv Z h0 b kb (.object "java/lang/Object") (10 : Int32) [w0, .null, .null, .null, .null, .null, .null, .null, .null, .null] .null) (XB : Exa Z h0 b "[Ljava/lang/Object;") (Hw0 : own_Ob Z h0 w0) (M_mo : Mir Z "[Ljava/lang/Object;" mo) :
    MetFree l (⟨"java/util/Arrays", "copyOf", "([Ljava/lang/Object;I)[Ljava/lang/Object;"⟩ : MethodName) (head1 (Jvm.Cond.code (⟨"java/util/Arrays", "copyOf", "([Ljava/lang/Object;I)[Ljava/lang/Object;"⟩ : MethodName) jdk_65_method_119_code 2 (some (.array (.object "java/lang/Object"))) :: ws) ({ frames := 2, cells := 1, slots := 1, locals := 33 } : Room)) (fun ar U => ar = #[(.ref b), (.int (1 : Int32))] ∧ Z.Warmed39 U.vm ∧ U.heap = h0) (fun _ _ _ _ _ => True) (fun _ U o U' => ∃ v L, o = .returned v ∧ Q14_1 Z b kb w0 mo h0 n0 v U'.heap L ∧ FrameEnd U o U' L ({ frames := 2, cells := 1, slots := 1, locals := 33 } : Room).cells ({ frames := 2, cells := 1, slots := 1, locals := 33 } : Room).slots) := by
  refine MetFree.of_bodySF (plainFor_of_name pn_java_util_Arrays) hisR ?_
  intro p e s m args below meth c s₁ Bd hml0 hP hK
  obtain ⟨rfl, hZ, hh⟩ := hP
  have hx := Bd.exec
  have hby := Bd.bytes
  have hml : c.maxLocals = 2 := hml0
  have hown : s.vm.findClass "java/util/Arrays" = some m.cls := findClass_of_methodNamed Bd.named
  have hnm := (name_of_methodNamed Bd.named Bd.method).1
  have X0 : Stand p l e ({ frames := 2, cells := 1, slots := 1, locals := 33 } : Room) s m #[(.ref b), (.int (1 : Int32))] below meth c s₁ [] 0 0 := Stand.of_body Bd
  have e0 : s₁.heap = h0 := by rw [← hh, Bd.state]; rfl
  have N0 := Fr.nil n0
  obtain ⟨F, hF⟩ : ∃ F, F = own_Fin s (Q14_1 Z b kb w0 mo h0 n0) ({ frames := 2, cells := 1, slots := 1, locals := 33 } : Room).cells ({ frames := 2, cells := 1, slots := 1, locals := 33 } : Room).slots := ⟨_, rfl⟩
  show own_Ends p e below (own_Fin s (Q14_1 Z b kb w0 mo h0 n0) ({ frames := 2, cells := 1, slots := 1, locals := 33 } : Room).cells ({ frames := 2, cells := 1, slots := 1, locals := 33 } : Room).slots) _
  rw [← hF, ef_rm14_1 m b (1 : Int32)]
  show own_Ends p e below F (s₁.setTop (mkF m 0 #[.val (.ref b), .val (.int (1 : Int32))] []))
  refine own_step (fun _ k => XS.aloadN X0.here hx rfl (hb hby d14_0) rfl rfl k) ?_
  show own_Ends p e below F (s₁.setTop (mkF m 1 #[.val (.ref b), .val (.int (1 : Int32))] [(.ref b)]))
  refine own_step (fun _ k => XS.iloadN X0.here hx rfl (hb hby d14_1) rfl k) ?_
  show own_Ends p e below F (s₁.setTop (mkF m 2 #[.val (.ref b), .val (.int (1 : Int32))] [(.int (1 : Int32)), (.ref b)]))
  refine own_step (fun _ k => XS.aloadN X0.here hx rfl (hb hby d14_2) rfl rfl k) ?_
  show own_Ends p e below F (s₁.setTop (mkF m 3 #[.val (.ref b), .val (.int (1 : Int32))] [(.ref b), (.int (1 : Int32)), (.ref b)]))
  obtain ⟨T1, X1, e1, st1⟩ := own_gc X0 hx hZ hown (own_g hw 84 rfl) (own_g hw 85 rfl) (own_g hw 87 rfl) (own_g hw 86 rfl) (own_g hw 88 rfl) e0 XB M_mo (g := (mkF m 3 #[.val (.ref b), .val (.int (1 : Int32))] [(.ref b), (.int (1 : Int32)), (.ref b)])) rfl (by rw [hml]; rfl) (rest := [(.int (1 : Int32)), (.ref b)]) rfl (hb hby d14_3) (by decide) (W := 2) (by show 2 * 0 + _ ≤ _; exact Nat.le_of_eq rfl) (by decide)
  refine own_step st1 ?_
  show own_Ends p e below F (T1.setTop (mkF m 6 #[.val (.ref b), .val (.int (1 : Int32))] [(.ref mo), (.int (1 : Int32)), (.ref b)]))
  obtain ⟨_, _, ⟨T2, L2, k2, n2⟩, -, X2, ⟨Lc2, hQ2, l2, y2, z2⟩, st2⟩ := Jvm.LawKit.callS X1 hx (y := (⟨"java/util/Arrays", "copyOf", "([Ljava/lang/Object;ILjava/lang/Class;)[Ljava/lang/Object;"⟩ : MethodName)) hown (mvT hZ (own_g hw 90 rfl)) (mvT hZ (own_g hw 91 rfl)) (mvT hZ (own_g hw 82 rfl)) (mvT hZ (own_g hw 92 rfl)) (by decide) (backOf (W := 0) (rm15_1 l Z a0 hw [] b kb w0 mo h0 n0 Z0 VB XB Hw0 M_mo) hZ (own_g hw 92 rfl) (own_g hw 82 rfl) (by decide) (by decide)) (g := (mkF m 6 #[.val (.ref b), .val (.int (1 : Int32))] [(.ref mo), (.int (1 : Int32)), (.ref b)])) rfl (by rw [hml]; rfl) (argsL := [(.ref b), (.int (1 : Int32)), (.ref mo)]) (rest := []) (lenOf pd__28_5bLjava_2flang_2fObject_3bILjava_2flang_2fClass_3b_29_5bLjava_2flang_2fObject_3b rfl) rfl (by show 2 * 0 + _ ≤ _; exact Nat.le_of_eq rfl) (hb hby d14_6) (fun _ _ => ⟨rfl, e1, (by decide : 0 + 1 ≤ _), (by decide : 0 + 1 ≤ _)⟩)
  dsimp only [Pt.U, Pt.locs, Pt.cells, Pt.slots] at X2 l2 y2 z2 st2 hQ2
  subst l2 y2 z2
  obtain ⟨c2, kc2, rfl, Nq2, Kq2, fq0_2, fq1_2⟩ := hQ2
  have N2 := Fr.app N0 Nq2
  have Z2 : n0 ≤ T2.heap.size := Nat.le_trans Z0 Kq2.1
  have SZ2 : h0.size ≤ T2.heap.size := Nat.le_trans (Nat.le_refl h0.size) Kq2.1
  have ne_b_c2 : b ≠ c2 := Nat.ne_of_lt (Nat.lt_of_lt_of_le (VB).lt fq0_2)
  have ge_c2 : n0 ≤ c2 := Nat.le_trans Z0 fq0_2
  have sz_c2 : h0.size ≤ c2 := Nat.le_trans (Nat.le_refl h0.size) fq0_2
  refine own_step st2 ?_
  show own_Ends p e below F (T2.setTop (mkF m 9 #[.val (.ref b), .val (.int (1 : Int32))] [(.ref c2)]))
  rw [hF]
  exact own_ret X2 (v := (some (.ref c2))) (fun h => by rw [Bd.returns] at h; cases h) Bd.notSynchronized (fun fs hr => retOut X2 hx (t := (.array (.object "java/lang/Object"))) (w := (.ref c2)) (i := .areturn) Bd.returns rfl (Or.inr (Or.inr (Or.inr (Or.inr ⟨rfl, rfl, rfl⟩)))) (hb hby d14_9) hr) (by decide) (by decide) (by exact ⟨_, _, rfl, N2, ((Keep.trans (Keep.refl _ _) Kq2 all0) : Keep h0 T2.heap []), sz_c2, fq1_2⟩)

theorem ef_rm13_1 (m : MethodId) (x0 : Addr) : entryFrame m #[(.ref x0)] 1 = mkF m 0 #[.val (.ref x0)] [] := by first | (simp [entryFrame, mkF, argsToLocals, Value.category, maxLocals]; done) | rfl
def Q13_1 (Z : State) (bl : Addr) (b : Addr) (kb : ClassId) (w0 : Value) (mo : Addr) (h0 : Heap) (n0 : Nat) (v : Option Value) (h : Heap) (L : List Loc) : Prop := ∃ c k, v = some (.ref c) ∧ Fr n0 L ∧ Keep h0 h [] ∧ h0.size ≤ c ∧ Arv Z h c k (.object "java/lang/Object") (1 : Int32) [w0] .null
set_option maxRecDepth 65536 in
set_option maxHeartbeats 40000000 in
theorem rm13_1 (l : Launch) (Z : State) (a0 : Array Value) (hw : ∀ d ∈ tables_1, d.before a0 Z = true) (ws : List Jvm.Cond) (bl : Addr) (b : Addr) (kb : ClassId) (w0 : Value) (mo : Addr) (h0 : Heap) (n0 : Nat) (Z0 : n0 ≤ h0.size) (VB : Arv Z h0 b kb (.object "java/lang/Object") (10 : Int32) [w0, .null, .null, .null, .null, .null, .null, .null, .null, .null] .null) (XB : Exa Z h0 b "[Ljava/lang/Object;") (Hw0 : own_Ob Z h0 w0) (M_mo : Mir Z "[Ljava/lang/Object;" mo) (EL : Exa Z h0 bl "java/util/ArrayList") (FE : Fld Z h0 bl "java/util/ArrayList" "elementData" "[Ljava/lang/Object;" (.ref b)) (FZ : Fld Z h0 bl "java/util/ArrayList" "size" "I" (.int (1 : Int32))) :
    MetFree l (⟨"java/util/ArrayList", "toArray", "()[Ljava/lang/Object;"⟩ : MethodName) (head1 (Jvm.Cond.code (⟨"java/util/ArrayList", "toArray", "()[Ljava/lang/Object;"⟩ : MethodName) jdk_38_method_16_code 1 (some (.array (.object "java/lang/Object"))) :: ws) ({ frames := 3, cells := 1, slots := 1, locals := 46 } : Room)) (fun ar U => ar = #[(.ref bl)] ∧ Z.Warmed39 U.vm ∧ U.heap = h0) (fun _ _ _ _ _ => True) (fun _ U o U' => ∃ v L, o = .returned v ∧ Q13_1 Z bl b kb w0 mo h0 n0 v U'.heap L ∧ FrameEnd U o U' L ({ frames := 3, cells := 1, slots := 1, locals := 46 } : Room).cells ({ frames := 3, cells := 1, slots := 1, locals := 46 } : Room).slots) := by
  refine MetFree.of_bodySF (plainFor_of_name pn_java_util_ArrayList) hisR ?_
  intro p e s m args below meth c s₁ Bd hml0 hP hK
  obtain ⟨rfl, hZ, hh⟩ := hP
  have hx := Bd.exec
  have hby := Bd.bytes
  have hml : c.maxLocals = 1 := hml0
  have hown : s.vm.findClass "java/util/ArrayList" = some m.cls := findClass_of_methodNamed Bd.named
  have hnm := (name_of_methodNamed Bd.named Bd.method).1
  have X0 : Stand p l e ({ frames := 3, cells := 1, slots := 1, locals := 46 } : Room) s m #[(.ref bl)] below meth c s₁ [] 0 0 := Stand.of_body Bd
  have e0 : s₁.heap = h0 := by rw [← hh, Bd.state]; rfl
  have N0 := Fr.nil n0
  obtain ⟨F, hF⟩ : ∃ F, F = own_Fin s (Q13_1 Z bl b kb w0 mo h0 n0) ({ frames := 3, cells := 1, slots := 1, locals := 46 } : Room).cells ({ frames := 3, cells := 1, slots := 1, locals := 46 } : Room).slots := ⟨_, rfl⟩
  show own_Ends p e below (own_Fin s (Q13_1 Z bl b kb w0 mo h0 n0) ({ frames := 3, cells := 1, slots := 1, locals := 46 } : Room).cells ({ frames := 3, cells := 1, slots := 1, locals := 46 } : Room).slots) _
  rw [← hF, ef_rm13_1 m bl]
  show own_Ends p e below F (s₁.setTop (mkF m 0 #[.val (.ref bl)] []))
  refine own_step (fun _ k => XS.aloadN X0.here hx rfl (hb hby d13_0) rfl rfl k) ?_
  show own_Ends p e below F (s₁.setTop (mkF m 1 #[.val (.ref bl)] [(.ref bl)]))
  obtain ⟨T1, X1, e1, st1⟩ := getF X0 hx hZ hown (host := "") (Or.inl (own_g hw 24 rfl)) Via.refl e0 FE (g := (mkF m 1 #[.val (.ref bl)] [(.ref bl)])) rfl rfl (hb hby d13_1)
  refine own_step st1 ?_
  show own_Ends p e below F (T1.setTop (mkF m 4 #[.val (.ref bl)] [(.ref b)]))
  refine own_step (fun _ k => XS.aloadN X1.here hx rfl (hb hby d13_4) rfl rfl k) ?_
  show own_Ends p e below F (T1.setTop (mkF m 5 #[.val (.ref bl)] [(.ref bl), (.ref b)]))
  obtain ⟨T2, X2, e2, st2⟩ := getF X1 hx hZ hown (host := "") (Or.inl (own_g hw 78 rfl)) Via.refl e1 FZ (g := (mkF m 5 #[.val (.ref bl)] [(.ref bl), (.ref b)])) rfl rfl (hb hby d13_5)
  refine own_step st2 ?_
  show own_Ends p e below F (T2.setTop (mkF m 8 #[.val (.ref bl)] [(.int (1 : Int32)), (.ref b)]))
  obtain ⟨_, _, ⟨T3, L3, k3, n3⟩, -, X3, ⟨Lc3, hQ3, l3, y3, z3⟩, st3⟩ := Jvm.LawKit.callS X2 hx (y := (⟨"java/util/Arrays", "copyOf", "([Ljava/lang/Object;I)[Ljava/lang/Object;"⟩ : MethodName)) hown (mvT hZ (own_g hw 80 rfl)) (mvT hZ (own_g hw 81 rfl)) (mvT hZ (own_g hw 82 rfl)) (mvT hZ (own_g hw 83 rfl)) (by decide) (backOf (W := 0) (rm14_1 l Z a0 hw [] b kb w0 mo h0 n0 Z0 VB XB Hw0 M_mo) hZ (own_g hw 83 rfl) (own_g hw 82 rfl) (by decide) (by decide)) (g := (mkF m 8 #[.val (.ref bl)] [(.int (1 : Int32)), (.ref b)])) rfl (by rw [hml]; rfl) (argsL := [(.ref b), (.int (1 : Int32))]) (rest := []) (lenOf pd__28_5bLjava_2flang_2fObject_3bI_29_5bLjava_2flang_2fObject_3b rfl) rfl (by show 2 * 0 + _ ≤ _; exact Nat.le_of_eq rfl) (hb hby d13_8) (fun _ _ => ⟨rfl, e2, (by decide : 0 + 1 ≤ _), (by decide : 0 + 1 ≤ _)⟩)
  dsimp only [Pt.U, Pt.locs, Pt.cells, Pt.slots] at X3 l3 y3 z3 st3 hQ3
  subst l3 y3 z3
  obtain ⟨c3, kc3, rfl, Nq3, Kq3, fq0_3, fq1_3⟩ := hQ3
  have N3 := Fr.app N0 Nq3
  have Z3 : n0 ≤ T3.heap.size := Nat.le_trans Z0 Kq3.1
  have SZ3 : h0.size ≤ T3.heap.size := Nat.le_trans (Nat.le_refl h0.size) Kq3.1
  have ne_b_c3 : b ≠ c3 := Nat.ne_of_lt (Nat.lt_of_lt_of_le (VB).lt fq0_3)
  have ne_bl_c3 : bl ≠ c3 := Nat.ne_of_lt (Nat.lt_of_lt_of_le (EL).lt fq0_3)
  have ge_c3 : n0 ≤ c3 := Nat.le_trans Z0 fq0_3
  have sz_c3 : h0.size ≤ c3 := Nat.le_trans (Nat.le_refl h0.size) fq0_3
  refine own_step st3 ?_
  show own_Ends p e below F (T3.setTop (mkF m 11 #[.val (.ref bl)] [(.ref c3)]))
  rw [hF]
  exact own_ret X3 (v := (some (.ref c3))) (fun h => by rw [Bd.returns] at h; cases h) Bd.notSynchronized (fun fs hr => retOut X3 hx (t := (.array (.object "java/lang/Object"))) (w := (.ref c3)) (i := .areturn) Bd.returns rfl (Or.inr (Or.inr (Or.inr (Or.inr ⟨rfl, rfl, rfl⟩)))) (hb hby d13_11) hr) (by decide) (by decide) (by exact ⟨_, _, rfl, N3, ((Keep.trans (Keep.refl _ _) Kq3 all0) : Keep h0 T3.heap []), sz_c3, fq1_3⟩)

theorem d12_21 : decode jdk_38_method_3_code 21 = .ok (.aload_n 1, 1) := by decide +kernel
theorem d12_22 : decode jdk_38_method_3_code 22 = .ok (.invokeinterface 52 1, 5) := by decide +kernel
theorem d12_27 : decode jdk_38_method_3_code 27 = .ok (.ldc 10, 2) := by decide +kernel
theorem d12_29 : decode jdk_38_method_3_code 29 = .ok (.if_acmp .ne 11, 3) := by decide +kernel
theorem d12_32 : decode jdk_38_method_3_code 32 = .ok (.aload_n 0, 1) := by decide +kernel
theorem d12_33 : decode jdk_38_method_3_code 33 = .ok (.aload_n 2, 1) := by decide +kernel
theorem d12_34 : decode jdk_38_method_3_code 34 = .ok (.putfield 9, 3) := by decide +kernel
theorem d12_37 : decode jdk_38_method_3_code 37 = .ok (.goto 27, 3) := by decide +kernel
theorem ef_rm12_1 (m : MethodId) (x0 : Addr) (x1 : Addr) : entryFrame m #[(.ref x0), (.ref x1)] 3 = mkF m 0 #[.val (.ref x0), .val (.ref x1), .unset] [] := by first | (simp [entryFrame, mkF, argsToLocals, Value.category, maxLocals]; done) | rfl
def Q12_1 (Z : State) (a bl : Addr) (b : Addr) (kb : ClassId) (w0 : Value) (mo : Addr) (ee ma : Addr) (h0 : Heap) (n0 : Nat) (v : Option Value) (h : Heap) (L : List Loc) : Prop := v = none ∧ Fr n0 L ∧ Keep h0 h [a] ∧ Exa Z h a "java/util/ArrayList"
set_option maxRecDepth 65536 in
set_option maxHeartbeats 40000000 in
theorem rm12_1 (l : Launch) (Z : State) (a0 : Array Value) (hw : ∀ d ∈ tables_1, d.before a0 Z = true) (ws : List Jvm.Cond) (a bl : Addr) (b : Addr) (kb : ClassId) (w0 : Value) (mo : Addr) (ee ma : Addr) (h0 : Heap) (n0 : Nat) (Z0 : n0 ≤ h0.size) (EX : Exa Z h0 a "java/util/ArrayList") (ge : n0 ≤ a) (F_modCount : Fld Z h0 a "java/util/AbstractList" "modCount" "I" (.int (0 : Int32))) (F_elementData : Fld Z h0 a "java/util/ArrayList" "elementData" "[Ljava/lang/Object;" .null) (F_size : Fld Z h0 a "java/util/ArrayList" "size" "I" (.int (0 : Int32))) (VB : Arv Z h0 b kb (.object "java/lang/Object") (10 : Int32) [w0, .null, .null, .null, .null, .null, .null, .null, .null, .null] .null) (XB : Exa Z h0 b "[Ljava/lang/Object;") (Hw0 : own_Ob Z h0 w0) (M_mo : Mir Z "[Ljava/lang/Object;" mo) (EL : Exa Z h0 bl "java/util/ArrayList") (FE : Fld Z h0 bl "java/util/ArrayList" "elementData" "[Ljava/lang/Object;" (.ref b)) (FZ : Fld Z h0 bl "java/util/ArrayList" "size" "I" (.int (1 : Int32))) (SE : Sta Z h0 "java/util/ArrayList" "EMPTY_ELEMENTDATA" "[Ljava/lang/Object;" (.ref ee)) (M_ma : Mir Z "java/util/ArrayList" ma) (nab : a ≠ bl) (nav : a ≠ b) :
    MetFree l (⟨"java/util/ArrayList", "<init>", "(Ljava/util/Collection;)V"⟩ : MethodName) (head1 (Jvm.Cond.code (⟨"java/util/ArrayList", "<init>", "(Ljava/util/Collection;)V"⟩ : MethodName) jdk_38_method_3_code 3 none :: ws) ({ frames := 4, cells := 1, slots := 1, locals := 58 } : Room)) (fun ar U => ar = #[(.ref a), (.ref bl)] ∧ Z.Warmed39 U.vm ∧ U.heap = h0) (fun _ _ _ _ _ => True) (fun _ U o U' => ∃ v L, o = .returned v ∧ Q12_1 Z a bl b kb w0 mo ee ma h0 n0 v U'.heap L ∧ FrameEnd U o U' L ({ frames := 4, cells := 1, slots := 1, locals := 58 } : Room).cells ({ frames := 4, cells := 1, slots := 1, locals := 58 } : Room).slots) := by
  refine MetFree.of_bodySF (plainFor_of_name pn_java_util_ArrayList) hisR ?_
  intro p e s m args below meth c s₁ Bd hml0 hP hK
  obtain ⟨rfl, hZ, hh⟩ := hP
  have hx := Bd.exec
  have hby := Bd.bytes
  have hml : c.maxLocals = 3 := hml0
  have hown : s.vm.findClass "java/util/ArrayList" = some m.cls := findClass_of_methodNamed Bd.named
  have hnm := (name_of_methodNamed Bd.named Bd.method).1
  have X0 : Stand p l e ({ frames := 4, cells := 1, slots := 1, locals := 58 } : Room) s m #[(.ref a), (.ref bl)] below meth c s₁ [] 0 0 := Stand.of_body Bd
  have e0 : s₁.heap = h0 := by rw [← hh, Bd.state]; rfl
  have N0 := Fr.nil n0
  obtain ⟨F, hF⟩ : ∃ F, F = own_Fin s (Q12_1 Z a bl b kb w0 mo ee ma h0 n0) ({ frames := 4, cells := 1, slots := 1, locals := 58 } : Room).cells ({ frames := 4, cells := 1, slots := 1, locals := 58 } : Room).slots := ⟨_, rfl⟩
  show own_Ends p e below (own_Fin s (Q12_1 Z a bl b kb w0 mo ee ma h0 n0) ({ frames := 4, cells := 1, slots := 1, locals := 58 } : Room).cells ({ frames := 4, cells := 1, slots := 1, locals := 58 } : Room).slots) _
  rw [← hF, ef_rm12_1 m a bl]
  show own_Ends p e below F (s₁.setTop (mkF m 0 #[.val (.ref a), .val (.ref bl), .unset] []))
  refine own_step (fun _ k => XS.aloadN X0.here hx rfl (hb hby d12_0) rfl rfl k) ?_
  show own_Ends p e below F (s₁.setTop (mkF m 1 #[.val (.ref a), .val (.ref bl), .unset] [(.ref a)]))
  obtain ⟨_, _, ⟨T1, L1, k1, n1⟩, -, X1, ⟨Lc1, hQ1, l1, y1, z1⟩, st1⟩ := X0.specialBack hx (y := (⟨"java/util/AbstractList", "<init>", "()V"⟩ : MethodName)) rfl hown (mvT hZ (own_g hw 6 rfl)) (mvT hZ (own_g hw 7 rfl)) (mvT hZ (own_g hw 11 rfl)) (by decide) (backOf (W := 0) (rm2 l Z a0 hw [] a  h0 n0 Z0 EX ge F_modCount F_elementData F_size ) hZ (own_g hw 11 rfl) (own_g hw 10 rfl) (by decide) (by decide)) (g := (mkF m 1 #[.val (.ref a), .val (.ref bl), .unset] [(.ref a)])) rfl (by rw [hml]; rfl) (Steps.refl _) (a := a) (argsL := []) (rest := []) (lenOf pd__28_29V rfl) rfl (by show 2 * 0 + _ ≤ _; exact Nat.le_of_eq rfl) (hb hby d12_1) (fun _ _ => ⟨rfl, e0, (by decide : 0 + 0 ≤ _), (by decide : 0 + 0 ≤ _)⟩)
  dsimp only [Pt.U, Pt.locs, Pt.cells, Pt.slots] at X1 l1 y1 z1 st1 hQ1
  subst l1 y1 z1
  obtain ⟨rfl, Nq1, Kq1, fq0_1, fq1_1, fq2_1, fq3_1⟩ := hQ1
  have N1 := Fr.app N0 Nq1
  have Z1 : n0 ≤ T1.heap.size := Nat.le_trans Z0 Kq1.1
  have SZ1 : h0.size ≤ T1.heap.size := Nat.le_trans (Nat.le_refl h0.size) Kq1.1
  have S0_1 := own_Sta_keep SE Kq1 (allS (own_ns_exa EX) all0)
  refine own_trans st1 ?_
  show own_Ends p e below F (T1.setTop (mkF m 4 #[.val (.ref a), .val (.ref bl), .unset] []))
  refine own_step (fun _ k => XS.aloadN X1.here hx rfl (hb hby d12_4) rfl rfl k) ?_
  show own_Ends p e below F (T1.setTop (mkF m 5 #[.val (.ref a), .val (.ref bl), .unset] [(.ref bl)]))
  obtain ⟨cq2, kq2, qa2, qb2, qc2⟩ := isOf (s := s) (T := T1) hZ rfl (EL.keep Kq1)
  obtain ⟨_, _, ⟨T2, L2, k2, n2⟩, -, X2, ⟨Lc2, hQ2, l2, y2, z2⟩, st2⟩ := X1.interfaceBack hx (xi := (⟨"java/util/Collection", "toArray", "()[Ljava/lang/Object;"⟩ : MethodName)) (y := (⟨"java/util/ArrayList", "toArray", "()[Ljava/lang/Object;"⟩ : MethodName)) hown (mvT hZ (own_g hw 69 rfl)) (mvT hZ (own_g hw 70 rfl)) (mvT hZ (own_g hw 71 rfl)) (mvT hZ (own_g hw 72 rfl)) (mvT hZ (own_g hw 73 rfl)) (mvT hZ (own_g hw 74 rfl)) (mvT hZ (own_g hw 75 rfl)) (mvT hZ (own_g hw 76 rfl)) (by decide) (backOf (W := 0) (rm13_1 l Z a0 hw [] bl b kb w0 mo T1.heap n0 Z1 (VB.keep Kq1 (ninS (Ne.symm nav) nin0)) (XB.keep Kq1) (Hw0.keep Kq1) M_mo (EL.keep Kq1) (FE.keep Kq1 (ninS (Ne.symm nab) nin0)) (FZ.keep Kq1 (ninS (Ne.symm nab) nin0))) hZ (own_g hw 77 rfl) (own_g hw 2 rfl) (by decide) (by decide)) qa2 qb2 qc2 (g := (mkF m 5 #[.val (.ref a), .val (.ref bl), .unset] [(.ref bl)])) rfl (by rw [hml]; rfl) (Steps.refl _) (argsL := []) (rest := []) (lenOf pd__28_29_5bLjava_2flang_2fObject_3b rfl) rfl (by show 2 * 0 + _ ≤ _; exact Nat.le_of_eq rfl) (hb hby d12_5) (fun _ _ => ⟨rfl, rfl, (by decide : 0 + 1 ≤ _), (by decide : 0 + 1 ≤ _)⟩)
  dsimp only [Pt.U, Pt.locs, Pt.cells, Pt.slots] at X2 l2 y2 z2 st2 hQ2
  subst l2 y2 z2
  obtain ⟨c2, kc2, rfl, Nq2, Kq2, fq0_2, fq1_2⟩ := hQ2
  have N2 := Fr.app N1 Nq2
  have Z2 : n0 ≤ T2.heap.size := Nat.le_trans Z1 Kq2.1
  have SZ2 : h0.size ≤ T2.heap.size := Nat.le_trans SZ1 Kq2.1
  have S0_2 := own_Sta_keep S0_1 Kq2 all0
  have ne_a_c2 : a ≠ c2 := Nat.ne_of_lt (Nat.lt_of_lt_of_le (fq0_1).lt fq0_2)
  have ne_b_c2 : b ≠ c2 := Nat.ne_of_lt (Nat.lt_of_lt_of_le ((VB.keep Kq1 (ninS (Ne.symm nav) nin0))).lt fq0_2)
  have ne_bl_c2 : bl ≠ c2 := Nat.ne_of_lt (Nat.lt_of_lt_of_le ((EL.keep Kq1)).lt fq0_2)
  have ge_c2 : n0 ≤ c2 := Nat.le_trans Z1 fq0_2
  have sz_c2 : h0.size ≤ c2 := Nat.le_trans SZ1 fq0_2
  refine own_trans st2 ?_
  show own_Ends p e below F (T2.setTop (mkF m 10 #[.val (.ref a), .val (.ref bl), .unset] [(.ref c2)]))
  refine own_step (fun _ k => XS.astoreN X2.here hx rfl (hb hby d12_10) rfl rfl (l' := #[.val (.ref a), .val (.ref bl), .val (.ref c2)]) rfl k) ?_
  show own_Ends p e below F (T2.setTop (mkF m 11 #[.val (.ref a), .val (.ref bl), .val (.ref c2)] []))
  refine own_step (fun _ k => XS.aloadN X2.here hx rfl (hb hby d12_11) rfl rfl k) ?_
  show own_Ends p e below F (T2.setTop (mkF m 12 #[.val (.ref a), .val (.ref bl), .val (.ref c2)] [(.ref a)]))
  refine own_step (fun _ k => XS.aloadN X2.here hx rfl (hb hby d12_12) rfl rfl k) ?_
  show own_Ends p e below F (T2.setTop (mkF m 13 #[.val (.ref a), .val (.ref bl), .val (.ref c2)] [(.ref c2), (.ref a)]))
  obtain ⟨cl3, Ar3, q3, S3, M3, H3, G3⟩ := id fq1_2
  have al3 := X2.arraylength hx (by exact Ar3.1) (State.isArrayOf_alike hZ.alike Ar3.2.1) (g := (mkF m 13 #[.val (.ref a), .val (.ref bl), .val (.ref c2)] [(.ref c2), (.ref a)])) rfl rfl (hb hby d12_13)
  rw [len_of S3 M3] at al3
  refine own_step al3 ?_
  show own_Ends p e below F (T2.setTop (mkF m 14 #[.val (.ref a), .val (.ref bl), .val (.ref c2)] [(.int (1 : Int32)), (.ref a)]))
  refine own_step (fun _ k => XS.dupX1 X2.here hx rfl (hb hby d12_14) rfl rfl rfl k) ?_
  show own_Ends p e below F (T2.setTop (mkF m 15 #[.val (.ref a), .val (.ref bl), .val (.ref c2)] [(.int (1 : Int32)), (.ref a), (.int (1 : Int32))]))
  obtain ⟨T4, h4, X4, e4, W4, st4⟩ := putF X2 hx hZ hown (host := "") (Or.inl (own_g hw 78 rfl)) Via.refl rfl (fq3_1.keep Kq2 nin0) (fq0_1.keep Kq2) (Or.inl (own_g hw 79 rfl)) (own_g hw 1 rfl) (ty := .int) (by decide) rfl rfl (g := (mkF m 15 #[.val (.ref a), .val (.ref bl), .val (.ref c2)] [(.int (1 : Int32)), (.ref a), (.int (1 : Int32))])) rfl rfl (hb hby d12_15)
  refine own_step st4 ?_
  have F4 := Fld.same W4 (fq3_1.keep Kq2 nin0)
  have N4 := Fr.snoc X4 N2 ge
  have Z4 : n0 ≤ h4.size := by rw [W4.size]; exact Z2
  have SZ4 : h0.size ≤ h4.size := by rw [W4.size]; exact SZ2
  show own_Ends p e below F (T4.setTop (mkF m 18 #[.val (.ref a), .val (.ref bl), .val (.ref c2)] [(.int (1 : Int32))]))
  refine own_step (fun _ k => XS.ifNo X4.here hx rfl (hb hby d12_18) rfl ((if0 _ _).trans (feq (by decide : ¬ ((1 : Int32) = (0 : Int32)))).1) k) ?_
  show own_Ends p e below F (T4.setTop (mkF m 21 #[.val (.ref a), .val (.ref bl), .val (.ref c2)] []))
  refine own_step (fun _ k => XS.aloadN X4.here hx rfl (hb hby d12_21) rfl rfl k) ?_
  show own_Ends p e below F (T4.setTop (mkF m 22 #[.val (.ref a), .val (.ref bl), .val (.ref c2)] [(.ref bl)]))
  obtain ⟨T5, X5, e5, st5⟩ := own_gcI X4 hx hZ (xi := (⟨"java/util/Collection", "getClass", "()Ljava/lang/Class;"⟩ : MethodName)) hown (own_g hw 185 rfl) (own_g hw 85 rfl) (own_g hw 186 rfl) (own_g hw 187 rfl) (own_g hw 86 rfl) (own_g hw 112 rfl) (own_g hw 113 rfl) (own_g hw 76 rfl) (own_g hw 88 rfl) (by decide) (by decide) rfl rfl e4 (((EL.keep Kq1).keep Kq2).wr W4) M_ma (g := (mkF m 22 #[.val (.ref a), .val (.ref bl), .val (.ref c2)] [(.ref bl)])) rfl (by rw [hml]; rfl) (rest := []) rfl (hb hby d12_22) (by decide) (W := 0) (by show 2 * 0 + _ ≤ _; exact Nat.le_of_eq rfl) (by decide)
  refine own_step st5 ?_
  show own_Ends p e below F (T5.setTop (mkF m 27 #[.val (.ref a), .val (.ref bl), .val (.ref c2)] [(.ref ma)]))
  obtain ⟨T6, X6, e6, st6⟩ := own_ldcM X5 hx hZ hown (own_g hw 188 rfl) e5 M_ma (g := (mkF m 27 #[.val (.ref a), .val (.ref bl), .val (.ref c2)] [(.ref ma)])) rfl (hb hby d12_27)
  refine own_step st6 ?_
  show own_Ends p e below F (T6.setTop (mkF m 29 #[.val (.ref a), .val (.ref bl), .val (.ref c2)] [(.ref ma), (.ref ma)]))
  refine own_step (fun _ k => Jvm.RoadKit.acmp (below := below) (g := (mkF m 29 #[.val (.ref a), .val (.ref bl), .val (.ref c2)] [(.ref ma), (.ref ma)])) X6 hx rfl rfl rfl (pc0 := 29) (pc' := 32) (same := true) rfl (hb hby d12_29) rfl (decide_eq_true rfl) (by decide) (by decide) k) ?_
  show own_Ends p e below F (T6.setTop (mkF m 32 #[.val (.ref a), .val (.ref bl), .val (.ref c2)] []))
  refine own_step (fun _ k => XS.aloadN X6.here hx rfl (hb hby d12_32) rfl rfl k) ?_
  show own_Ends p e below F (T6.setTop (mkF m 33 #[.val (.ref a), .val (.ref bl), .val (.ref c2)] [(.ref a)]))
  refine own_step (fun _ k => XS.aloadN X6.here hx rfl (hb hby d12_33) rfl rfl k) ?_
  show own_Ends p e below F (T6.setTop (mkF m 34 #[.val (.ref a), .val (.ref bl), .val (.ref c2)] [(.ref c2), (.ref a)]))
  obtain ⟨T7, h7, X7, e7, W7, st7⟩ := putF X6 hx hZ hown (host := "") (Or.inl (own_g hw 24 rfl)) Via.refl e6 (Fld.other W4 (fq2_1.keep Kq2 nin0) (Or.inr (slot_ne (t := (.array (.object "java/lang/Object"))) (t' := .int) (Or.inl (own_g hw 25 rfl)) (Or.inl (own_g hw 79 rfl)) (by decide) (by decide) (by decide)))) ((fq0_1.keep Kq2).wr W4) (Or.inl (own_g hw 25 rfl)) (own_g hw 1 rfl) (ty := (.array (.object "java/lang/Object"))) (by decide) rfl rfl (g := (mkF m 34 #[.val (.ref a), .val (.ref bl), .val (.ref c2)] [(.ref c2), (.ref a)])) rfl rfl (hb hby d12_34)
  refine own_step st7 ?_
  have F7 := Fld.same W7 (Fld.other W4 (fq2_1.keep Kq2 nin0) (Or.inr (slot_ne (t := (.array (.object "java/lang/Object"))) (t' := .int) (Or.inl (own_g hw 25 rfl)) (Or.inl (own_g hw 79 rfl)) (by decide) (by decide) (by decide))))
  have N7 := Fr.snoc X7 N4 ge
  have Z7 : n0 ≤ h7.size := by rw [W7.size]; exact Z4
  have SZ7 : h0.size ≤ h7.size := by rw [W7.size]; exact SZ4
  show own_Ends p e below F (T7.setTop (mkF m 37 #[.val (.ref a), .val (.ref bl), .val (.ref c2)] []))
  refine own_step (fun _ k => XS.goto X7.here hx rfl (pc0 := 37) (pc' := 64) rfl (hb hby d12_37) (by decide) (by decide) k) ?_
  show own_Ends p e below F (T7.setTop (mkF m 64 #[.val (.ref a), .val (.ref bl), .val (.ref c2)] []))
  rw [hF]
  exact own_ret X7 (v := none) (fun _ => rfl) Bd.notSynchronized (fun fs hr => X7.returnOut hx Bd.returns (hb hby d12_64) hr) (by decide) (by decide) (by rw [e7]; exact ⟨rfl, N7, ((Keep.wr (Keep.wr (Keep.trans (Keep.trans (Keep.refl _ _) Kq1 (allS (Or.inl (List.mem_of_getElem? (i := 0) rfl)) all0)) Kq2 all0) W4 (Or.inl (List.mem_of_getElem? (i := 0) rfl))) W7 (Or.inl (List.mem_of_getElem? (i := 0) rfl))) : Keep h0 h7 [a]), (((fq0_1.keep Kq2).wr W4).wr W7)⟩)

theorem ef_rm15_2 (m : MethodId) (x0 : Addr) (x1 : Int32) (x2 : Addr) : entryFrame m #[(.ref x0), (.int x1), (.ref x2)] 4 = mkF m 0 #[.val (.ref x0), .val (.int x1), .val (.ref x2), .unset] [] := by first | (simp [entryFrame, mkF, argsToLocals, Value.category, maxLocals]; done) | rfl
def Q15_2 (Z : State) (b : Addr) (kb : ClassId) (w0 : Value) (w1 : Value) (mo : Addr) (h0 : Heap) (n0 : Nat) (v : Option Value) (h : Heap) (L : List Loc) : Prop := ∃ c k, v = some (.ref c) ∧ Fr n0 L ∧ Keep h0 h [] ∧ h0.size ≤ c ∧ Arv Z h c k (.object "java/lang/Object") (2 : Int32) [w0, w1] .null
set_option maxRecDepth 65536 in
set_option maxHeartbeats 40000000 in
theorem rm15_2 (l : Launch) (Z : State) (a0 : Array Value) (hw : ∀ d ∈ tables_1, d.before a0 Z = true) (ws : List Jvm.Cond) (b : Addr) (kb : ClassId) (w0 : Value) (w1 : Value) (mo : Addr) (h0 : Heap) (n0 : Nat) (Z0 : n0 ≤ h0.size) (VB : Arv Z h0 b kb (.object "java/lang/Object") (10 : Int32) [w0, w1, .null, .null, .null, .null, .null, .null, .null, .null] .null) (XB : Exa Z h0 b "[Ljava/lang/Object;") (Hw0 : own_Ob Z h0 w0) (Hw1 : own_Ob Z h0 w1) (M_mo : Mir Z "[Ljava/lang/Object;" mo) :
    MetFree l (⟨"java/util/Arrays", "copyOf", "([Ljava/lang/Object;ILjava/lang/Class;)[Ljava/lang/Object;"⟩ : MethodName) (head1 (Jvm.Cond.code (⟨"java/util/Arrays", "copyOf", "([Ljava/lang/Object;ILjava/lang/Class;)[Ljava/lang/Object;"⟩ : MethodName) jdk_65_method_120_code 4 (some (.array (.object "java/lang/Object"))) :: ws) ({ frames := 1, cells := 1, slots := 2, locals := 18 } : Room)) (fun ar U => ar = #[(.ref b), (.int (2 : Int32)), (.ref mo)] ∧ Z.Warmed39 U.vm ∧ U.heap = h0) (fun _ _ _ _ _ => True) (fun _ U o U' => ∃ v L, o = .returned v ∧ Q15_2 Z b kb w0 w1 mo h0 n0 v U'.heap L ∧ FrameEnd U o U' L ({ frames := 1, cells := 1, slots := 2, locals := 18 } : Room).cells ({ frames := 1, cells := 1, slots := 2, locals := 18 } : Room).slots) := by
  refine MetFree.of_bodySF (plainFor_of_name pn_java_util_Arrays) hisR ?_
  intro p e s m args below meth c s₁ Bd hml0 hP hK
  obtain ⟨rfl, hZ, hh⟩ := hP
  have hx := Bd.exec
  have hby := Bd.bytes
  have hml : c.maxLocals = 4 := hml0
  have hown : s.vm.findClass "java/util/Arrays" = some m.cls := findClass_of_methodNamed Bd.named
  have hnm := (name_of_methodNamed Bd.named Bd.method).1
  have X0 : Stand p l e ({ frames := 1, cells := 1, slots := 2, locals := 18 } : Room) s m #[(.ref b), (.int (2 : Int32)), (.ref mo)] below meth c s₁ [] 0 0 := Stand.of_body Bd
  have e0 : s₁.heap = h0 := by rw [← hh, Bd.state]; rfl
  have N0 := Fr.nil n0
  obtain ⟨F, hF⟩ : ∃ F, F = own_Fin s (Q15_2 Z b kb w0 w1 mo h0 n0) ({ frames := 1, cells := 1, slots := 2, locals := 18 } : Room).cells ({ frames := 1, cells := 1, slots := 2, locals := 18 } : Room).slots := ⟨_, rfl⟩
  show own_Ends p e below (own_Fin s (Q15_2 Z b kb w0 w1 mo h0 n0) ({ frames := 1, cells := 1, slots := 2, locals := 18 } : Room).cells ({ frames := 1, cells := 1, slots := 2, locals := 18 } : Room).slots) _
  rw [← hF, ef_rm15_2 m b (2 : Int32) mo]
  show own_Ends p e below F (s₁.setTop (mkF m 0 #[.val (.ref b), .val (.int (2 : Int32)), .val (.ref mo), .unset] []))
  refine own_step (fun _ k => XS.aloadN X0.here hx rfl (hb hby d15_0) rfl rfl k) ?_
  show own_Ends p e below F (s₁.setTop (mkF m 1 #[.val (.ref b), .val (.int (2 : Int32)), .val (.ref mo), .unset] [(.ref mo)]))
  obtain ⟨T1, X1, e1, st1⟩ := own_ldcM X0 hx hZ hown (own_g hw 93 rfl) e0 M_mo (g := (mkF m 1 #[.val (.ref b), .val (.int (2 : Int32)), .val (.ref mo), .unset] [(.ref mo)])) rfl (hb hby d15_1)
  refine own_step st1 ?_
  show own_Ends p e below F (T1.setTop (mkF m 3 #[.val (.ref b), .val (.int (2 : Int32)), .val (.ref mo), .unset] [(.ref mo), (.ref mo)]))
  refine own_step (fun _ k => Jvm.RoadKit.acmp (below := below) (g := (mkF m 3 #[.val (.ref b), .val (.int (2 : Int32)), .val (.ref mo), .unset] [(.ref mo), (.ref mo)])) X1 hx rfl rfl rfl (pc0 := 3) (pc' := 6) (same := true) rfl (hb hby d15_3) rfl (decide_eq_true rfl) (by decide) (by decide) k) ?_
  show own_Ends p e below F (T1.setTop (mkF m 6 #[.val (.ref b), .val (.int (2 : Int32)), .val (.ref mo), .unset] []))
  refine own_step (fun _ k => XS.iloadN X1.here hx rfl (hb hby d15_6) rfl k) ?_
  show own_Ends p e below F (T1.setTop (mkF m 7 #[.val (.ref b), .val (.int (2 : Int32)), .val (.ref mo), .unset] [(.int (2 : Int32))]))
  obtain ⟨T2, h2, k2, X2, e2, E2, A2, EA2, O2, st2⟩ := newRE X1 hx hZ hown (own_g hw 94 rfl) (own_g hw 95 rfl) e1 (g := (mkF m 7 #[.val (.ref b), .val (.int (2 : Int32)), .val (.ref mo), .unset] [(.int (2 : Int32))])) rfl (hb hby d15_7) rfl (by decide) (cap := 2) (by decide) (by decide) (by decide) (by decide) (ad := "[Ljava/lang/Object;") (by decide)
  obtain ⟨a2, g2⟩ : ∃ z, z = h0.size := ⟨_, rfl⟩
  rw [← g2] at A2 EA2 st2
  have ge_a2 : n0 ≤ a2 := Nat.le_trans Z0 (Nat.le_of_eq g2.symm)
  have sz_a2 : h0.size ≤ a2 := Nat.le_trans (Nat.le_refl h0.size) (Nat.le_of_eq g2.symm)
  have ne_b_a2 : b ≠ a2 := Nat.ne_of_lt (by rw [g2]; exact VB.lt)
  have Z2 : n0 ≤ h2.size := Nat.le_trans Z0 E2.1
  have SZ2 : h0.size ≤ h2.size := Nat.le_trans (Nat.le_refl h0.size) E2.1
  have V2 : Arv Z h2 a2 k2 (.object "java/lang/Object") (2 : Int32) [.null, .null] .null := Arv.pad (Arv.new A2 (by decide)) (pad_rep [] _ 2)
  refine own_step st2 ?_
  show own_Ends p e below F (T2.setTop (mkF m 10 #[.val (.ref b), .val (.int (2 : Int32)), .val (.ref mo), .unset] [(.ref a2)]))
  refine own_step (fun _ k => XS.goto X2.here hx rfl (pc0 := 10) (pc' := 24) rfl (hb hby d15_10) (by decide) (by decide) k) ?_
  show own_Ends p e below F (T2.setTop (mkF m 24 #[.val (.ref b), .val (.int (2 : Int32)), .val (.ref mo), .unset] [(.ref a2)]))
  refine own_step (fun _ k => XS.astoreN X2.here hx rfl (hb hby d15_24) rfl rfl (l' := #[.val (.ref b), .val (.int (2 : Int32)), .val (.ref mo), .val (.ref a2)]) rfl k) ?_
  show own_Ends p e below F (T2.setTop (mkF m 25 #[.val (.ref b), .val (.int (2 : Int32)), .val (.ref mo), .val (.ref a2)] []))
  refine own_step (fun _ k => XS.aloadN X2.here hx rfl (hb hby d15_25) rfl rfl k) ?_
  show own_Ends p e below F (T2.setTop (mkF m 26 #[.val (.ref b), .val (.int (2 : Int32)), .val (.ref mo), .val (.ref a2)] [(.ref b)]))
  refine own_step (fun _ k => XS.iconst X2.here hx rfl (hb hby d15_26) k) ?_
  show own_Ends p e below F (T2.setTop (mkF m 27 #[.val (.ref b), .val (.int (2 : Int32)), .val (.ref mo), .val (.ref a2)] [(.int (0 : Int32)), (.ref b)]))
  refine own_step (fun _ k => XS.aloadN X2.here hx rfl (hb hby d15_27) rfl rfl k) ?_
  show own_Ends p e below F (T2.setTop (mkF m 28 #[.val (.ref b), .val (.int (2 : Int32)), .val (.ref mo), .val (.ref a2)] [(.ref a2), (.int (0 : Int32)), (.ref b)]))
  refine own_step (fun _ k => XS.iconst X2.here hx rfl (hb hby d15_28) k) ?_
  show own_Ends p e below F (T2.setTop (mkF m 29 #[.val (.ref b), .val (.int (2 : Int32)), .val (.ref mo), .val (.ref a2)] [(.int (0 : Int32)), (.ref a2), (.int (0 : Int32)), (.ref b)]))
  refine own_step (fun _ k => XS.aloadN X2.here hx rfl (hb hby d15_29) rfl rfl k) ?_
  show own_Ends p e below F (T2.setTop (mkF m 30 #[.val (.ref b), .val (.int (2 : Int32)), .val (.ref mo), .val (.ref a2)] [(.ref b), (.int (0 : Int32)), (.ref a2), (.int (0 : Int32)), (.ref b)]))
  obtain ⟨cl3, Ar3, q3, S3, M3, H3, G3⟩ := id (VB.ext E2)
  have al3 := X2.arraylength hx (by rw [e2]; exact Ar3.1) (State.isArrayOf_alike hZ.alike Ar3.2.1) (g := (mkF m 30 #[.val (.ref b), .val (.int (2 : Int32)), .val (.ref mo), .val (.ref a2)] [(.ref b), (.int (0 : Int32)), (.ref a2), (.int (0 : Int32)), (.ref b)])) rfl rfl (hb hby d15_30)
  rw [len_of S3 M3] at al3
  refine own_step al3 ?_
  show own_Ends p e below F (T2.setTop (mkF m 31 #[.val (.ref b), .val (.int (2 : Int32)), .val (.ref mo), .val (.ref a2)] [(.int (10 : Int32)), (.int (0 : Int32)), (.ref a2), (.int (0 : Int32)), (.ref b)]))
  refine own_step (fun _ k => XS.iloadN X2.here hx rfl (hb hby d15_31) rfl k) ?_
  show own_Ends p e below F (T2.setTop (mkF m 32 #[.val (.ref b), .val (.int (2 : Int32)), .val (.ref mo), .val (.ref a2)] [(.int (2 : Int32)), (.int (10 : Int32)), (.int (0 : Int32)), (.ref a2), (.int (0 : Int32)), (.ref b)]))
  obtain ⟨_, _, ⟨T4, L4, k4, n4⟩, -, X4, ⟨Lc4, hQ4, l4, y4, z4⟩, st4⟩ := Jvm.LawKit.callS X2 hx (y := (⟨"java/lang/Math", "min", "(II)I"⟩ : MethodName)) hown (mvT hZ (own_g hw 96 rfl)) (mvT hZ (own_g hw 97 rfl)) (mvT hZ (own_g hw 98 rfl)) (mvT hZ (own_g hw 99 rfl)) (by decide) (backOf (W := 4) (rm16 l Z a0 hw [] (10 : Int32) (2 : Int32) h2 n0 Z2) hZ (own_g hw 99 rfl) (own_g hw 98 rfl) (by decide) (by decide)) (g := (mkF m 32 #[.val (.ref b), .val (.int (2 : Int32)), .val (.ref mo), .val (.ref a2)] [(.int (2 : Int32)), (.int (10 : Int32)), (.int (0 : Int32)), (.ref a2), (.int (0 : Int32)), (.ref b)])) rfl (by rw [hml]; rfl) (argsL := [(.int (10 : Int32)), (.int (2 : Int32))]) (rest := [(.int (0 : Int32)), (.ref a2), (.int (0 : Int32)), (.ref b)]) (lenOf pd__28II_29I rfl) rfl (by show 2 * 0 + _ ≤ _; exact Nat.le_of_eq rfl) (hb hby d15_32) (fun _ _ => ⟨rfl, e2, (by decide : 1 + 0 ≤ _), (by decide : 2 + 0 ≤ _)⟩)
  dsimp only [Pt.U, Pt.locs, Pt.cells, Pt.slots] at X4 l4 y4 z4 st4 hQ4
  subst l4 y4 z4
  obtain ⟨rfl, Nq4, eq4⟩ := hQ4
  have N4 := Fr.app N0 Nq4
  refine own_step st4 ?_
  show own_Ends p e below F (T4.setTop (mkF m 35 #[.val (.ref b), .val (.int (2 : Int32)), .val (.ref mo), .val (.ref a2)] [(.int (if (2 : Int32) < (10 : Int32) then (2 : Int32) else (10 : Int32))), (.int (0 : Int32)), (.ref a2), (.int (0 : Int32)), (.ref b)]))
  rw [show (if (2 : Int32) < (10 : Int32) then (2 : Int32) else (10 : Int32)) = (2 : Int32) from (by first | rfl | decide)]
  show own_Ends p e below F (T4.setTop (mkF m 35 #[.val (.ref b), .val (.int (2 : Int32)), .val (.ref mo), .val (.ref a2)] [(.int (2 : Int32)), (.int (0 : Int32)), (.ref a2), (.int (0 : Int32)), (.ref b)]))
  obtain ⟨cl5, Ar5, q5, -⟩ := id V2
  obtain ⟨T5, h5, L5, X5, e5, N5, K5, V5, st5⟩ := cpA X4 hx hZ hown (own_g hw 100 rfl) (own_g hw 103 rfl) (own_g hw 101 rfl) (own_g hw 102 rfl) eq4 (VB.ext E2) V2 (us := [w0, w1]) (Or.inr ⟨rfl, rfl, ⟨(own_Ob.sto (Hw0.ext E2) Ar5 q5 O2), ⟨(own_Ob.sto (Hw1.ext E2) Ar5 q5 O2), trivial⟩⟩⟩) (by decide) (by decide) (by decide) (by decide) (by decide) rfl (by decide) N4 ge_a2 (g := (mkF m 35 #[.val (.ref b), .val (.int (2 : Int32)), .val (.ref mo), .val (.ref a2)] [(.int (2 : Int32)), (.int (0 : Int32)), (.ref a2), (.int (0 : Int32)), (.ref b)])) rfl (by rw [hml]; rfl) (rest := []) rfl (hb hby d15_35) (by decide) (W := 0) (by show 2 * 0 + _ ≤ _; exact Nat.le_of_eq rfl) (by decide)
  have V5 : Arv Z h5 a2 k2 (.object "java/lang/Object") (2 : Int32) [w0, w1] .null := V5
  have Z5 : n0 ≤ h5.size := Nat.le_trans Z2 K5.1
  have SZ5 : h0.size ≤ h5.size := Nat.le_trans SZ2 K5.1
  refine own_step st5 ?_
  show own_Ends p e below F (T5.setTop (mkF m 38 #[.val (.ref b), .val (.int (2 : Int32)), .val (.ref mo), .val (.ref a2)] []))
  refine own_step (fun _ k => XS.aloadN X5.here hx rfl (hb hby d15_38) rfl rfl k) ?_
  show own_Ends p e below F (T5.setTop (mkF m 39 #[.val (.ref b), .val (.int (2 : Int32)), .val (.ref mo), .val (.ref a2)] [(.ref a2)]))
  rw [hF]
  exact own_ret X5 (v := (some (.ref a2))) (fun h => by rw [Bd.returns] at h; cases h) Bd.notSynchronized (fun fs hr => retOut X5 hx (t := (.array (.object "java/lang/Object"))) (w := (.ref a2)) (i := .areturn) Bd.returns rfl (Or.inr (Or.inr (Or.inr (Or.inr ⟨rfl, rfl, rfl⟩)))) (hb hby d15_39) hr) (by decide) (by decide) (by rw [e5]; exact ⟨_, _, rfl, N5, ((Keep.trans (Keep.ext (Keep.refl _ _) E2) K5 (allS (Or.inr sz_a2) all0)) : Keep h0 h5 []), sz_a2, V5⟩)

theorem ef_rm14_2 (m : MethodId) (x0 : Addr) (x1 : Int32) : entryFrame m #[(.ref x0), (.int x1)] 2 = mkF m 0 #[.val (.ref x0), .val (.int x1)] [] := by first | (simp [entryFrame, mkF, argsToLocals, Value.category, maxLocals]; done) | rfl
def Q14_2 (Z : State) (b : Addr) (kb : ClassId) (w0 : Value) (w1 : Value) (mo : Addr) (h0 : Heap) (n0 : Nat) (v : Option Value) (h : Heap) (L : List Loc) : Prop := ∃ c k, v = some (.ref c) ∧ Fr n0 L ∧ Keep h0 h [] ∧ h0.size ≤ c ∧ Arv Z h c k (.object "java/lang/Object") (2 : Int32) [w0, w1] .null
set_option maxRecDepth 65536 in
set_option maxHeartbeats 40000000 in
theorem rm14_2 (l : Launch) (Z : State) (a0 : Array Value) (hw : ∀ d ∈ tables_1, d.before a0 Z = true) (ws : List Jvm.Cond) (b : Addr) (kb : ClassId) (w0 : Value) (w1 : Value) (mo : Addr) (h0 : Heap) (n0 : Nat) (Z0 : n0 ≤ h0.size) (VB : Arv Z h0 b kb (.object "java/lang/Object") (10 : Int32) [w0, w1, .null, .null, .null, .null, .null, .null, .null, .null] .null) (XB : Exa Z h0 b "[Ljava/lang/Object;") (Hw0 : own_Ob Z h0 w0) (Hw1 : own_Ob Z h0 w1) (M_mo : Mir Z "[Ljava/lang/Object;" mo) :
    MetFree l (⟨"java/util/Arrays", "copyOf", "([Ljava/lang/Object;I)[Ljava/lang/Object;"⟩ : MethodName) (head1 (Jvm.Cond.code (⟨"java/util/Arrays", "copyOf", "([Ljava/lang/Object;I)[Ljava/lang/Object;"⟩ : MethodName) jdk_65_method_119_code 2 (some (.array (.object "java/lang/Object"))) :: ws) ({ frames := 2, cells := 1, slots := 2, locals := 33 } : Room)) (fun ar U => ar = #[(.ref b), (.int (2 : Int32))] ∧ Z.Warmed39 U.vm ∧ U.heap = h0) (fun _ _ _ _ _ => True) (fun _ U o U' => ∃ v L, o = .returned v ∧ Q14_2 Z b kb w0 w1 mo h0 n0 v U'.heap L ∧ FrameEnd U o U' L ({ frames := 2, cells := 1, slots := 2, locals := 33 } : Room).cells ({ frames := 2, cells := 1, slots := 2, locals := 33 } : Room).slots) := by
  refine MetFree.of_bodySF (plainFor_of_name pn_java_util_Arrays) hisR ?_
  intro p e s m args below meth c s₁ Bd hml0 hP hK
  obtain ⟨rfl, hZ, hh⟩ := hP
  have hx := Bd.exec
  have hby := Bd.bytes
  have hml : c.maxLocals = 2 := hml0
  have hown : s.vm.findClass "java/util/Arrays" = some m.cls := findClass_of_methodNamed Bd.named
  have hnm := (name_of_methodNamed Bd.named Bd.method).1
  have X0 : Stand p l e ({ frames := 2, cells := 1, slots := 2, locals := 33 } : Room) s m #[(.ref b), (.int (2 : Int32))] below meth c s₁ [] 0 0 := Stand.of_body Bd
  have e0 : s₁.heap = h0 := by rw [← hh, Bd.state]; rfl
  have N0 := Fr.nil n0
  obtain ⟨F, hF⟩ : ∃ F, F = own_Fin s (Q14_2 Z b kb w0 w1 mo h0 n0) ({ frames := 2, cells := 1, slots := 2, locals := 33 } : Room).cells ({ frames := 2, cells := 1, slots := 2, locals := 33 } : Room).slots := ⟨_, rfl⟩
  show own_Ends p e below (own_Fin s (Q14_2 Z b kb w0 w1 mo h0 n0) ({ frames := 2, cells := 1, slots := 2, locals := 33 } : Room).cells ({ frames := 2, cells := 1, slots := 2, locals := 33 } : Room).slots) _
  rw [← hF, ef_rm14_2 m b (2 : Int32)]
  show own_Ends p e below F (s₁.setTop (mkF m 0 #[.val (.ref b), .val (.int (2 : Int32))] []))
  refine own_step (fun _ k => XS.aloadN X0.here hx rfl (hb hby d14_0) rfl rfl k) ?_
  show own_Ends p e below F (s₁.setTop (mkF m 1 #[.val (.ref b), .val (.int (2 : Int32))] [(.ref b)]))
  refine own_step (fun _ k => XS.iloadN X0.here hx rfl (hb hby d14_1) rfl k) ?_
  show own_Ends p e below F (s₁.setTop (mkF m 2 #[.val (.ref b), .val (.int (2 : Int32))] [(.int (2 : Int32)), (.ref b)]))
  refine own_step (fun _ k => XS.aloadN X0.here hx rfl (hb hby d14_2) rfl rfl k) ?_
  show own_Ends p e below F (s₁.setTop (mkF m 3 #[.val (.ref b), .val (.int (2 : Int32))] [(.ref b), (.int (2 : Int32)), (.ref b)]))
  obtain ⟨T1, X1, e1, st1⟩ := own_gc X0 hx hZ hown (own_g hw 84 rfl) (own_g hw 85 rfl) (own_g hw 87 rfl) (own_g hw 86 rfl) (own_g hw 88 rfl) e0 XB M_mo (g := (mkF m 3 #[.val (.ref b), .val (.int (2 : Int32))] [(.ref b), (.int (2 : Int32)), (.ref b)])) rfl (by rw [hml]; rfl) (rest := [(.int (2 : Int32)), (.ref b)]) rfl (hb hby d14_3) (by decide) (W := 2) (by show 2 * 0 + _ ≤ _; exact Nat.le_of_eq rfl) (by decide)
  refine own_step st1 ?_
  show own_Ends p e below F (T1.setTop (mkF m 6 #[.val (.ref b), .val (.int (2 : Int32))] [(.ref mo), (.int (2 : Int32)), (.ref b)]))
  obtain ⟨_, _, ⟨T2, L2, k2, n2⟩, -, X2, ⟨Lc2, hQ2, l2, y2, z2⟩, st2⟩ := Jvm.LawKit.callS X1 hx (y := (⟨"java/util/Arrays", "copyOf", "([Ljava/lang/Object;ILjava/lang/Class;)[Ljava/lang/Object;"⟩ : MethodName)) hown (mvT hZ (own_g hw 90 rfl)) (mvT hZ (own_g hw 91 rfl)) (mvT hZ (own_g hw 82 rfl)) (mvT hZ (own_g hw 92 rfl)) (by decide) (backOf (W := 0) (rm15_2 l Z a0 hw [] b kb w0 w1 mo h0 n0 Z0 VB XB Hw0 Hw1 M_mo) hZ (own_g hw 92 rfl) (own_g hw 82 rfl) (by decide) (by decide)) (g := (mkF m 6 #[.val (.ref b), .val (.int (2 : Int32))] [(.ref mo), (.int (2 : Int32)), (.ref b)])) rfl (by rw [hml]; rfl) (argsL := [(.ref b), (.int (2 : Int32)), (.ref mo)]) (rest := []) (lenOf pd__28_5bLjava_2flang_2fObject_3bILjava_2flang_2fClass_3b_29_5bLjava_2flang_2fObject_3b rfl) rfl (by show 2 * 0 + _ ≤ _; exact Nat.le_of_eq rfl) (hb hby d14_6) (fun _ _ => ⟨rfl, e1, (by decide : 0 + 1 ≤ _), (by decide : 0 + 2 ≤ _)⟩)
  dsimp only [Pt.U, Pt.locs, Pt.cells, Pt.slots] at X2 l2 y2 z2 st2 hQ2
  subst l2 y2 z2
  obtain ⟨c2, kc2, rfl, Nq2, Kq2, fq0_2, fq1_2⟩ := hQ2
  have N2 := Fr.app N0 Nq2
  have Z2 : n0 ≤ T2.heap.size := Nat.le_trans Z0 Kq2.1
  have SZ2 : h0.size ≤ T2.heap.size := Nat.le_trans (Nat.le_refl h0.size) Kq2.1
  have ne_b_c2 : b ≠ c2 := Nat.ne_of_lt (Nat.lt_of_lt_of_le (VB).lt fq0_2)
  have ge_c2 : n0 ≤ c2 := Nat.le_trans Z0 fq0_2
  have sz_c2 : h0.size ≤ c2 := Nat.le_trans (Nat.le_refl h0.size) fq0_2
  refine own_step st2 ?_
  show own_Ends p e below F (T2.setTop (mkF m 9 #[.val (.ref b), .val (.int (2 : Int32))] [(.ref c2)]))
  rw [hF]
  exact own_ret X2 (v := (some (.ref c2))) (fun h => by rw [Bd.returns] at h; cases h) Bd.notSynchronized (fun fs hr => retOut X2 hx (t := (.array (.object "java/lang/Object"))) (w := (.ref c2)) (i := .areturn) Bd.returns rfl (Or.inr (Or.inr (Or.inr (Or.inr ⟨rfl, rfl, rfl⟩)))) (hb hby d14_9) hr) (by decide) (by decide) (by exact ⟨_, _, rfl, N2, ((Keep.trans (Keep.refl _ _) Kq2 all0) : Keep h0 T2.heap []), sz_c2, fq1_2⟩)

theorem ef_rm13_2 (m : MethodId) (x0 : Addr) : entryFrame m #[(.ref x0)] 1 = mkF m 0 #[.val (.ref x0)] [] := by first | (simp [entryFrame, mkF, argsToLocals, Value.category, maxLocals]; done) | rfl
def Q13_2 (Z : State) (bl : Addr) (b : Addr) (kb : ClassId) (w0 : Value) (w1 : Value) (mo : Addr) (h0 : Heap) (n0 : Nat) (v : Option Value) (h : Heap) (L : List Loc) : Prop := ∃ c k, v = some (.ref c) ∧ Fr n0 L ∧ Keep h0 h [] ∧ h0.size ≤ c ∧ Arv Z h c k (.object "java/lang/Object") (2 : Int32) [w0, w1] .null
set_option maxRecDepth 65536 in
set_option maxHeartbeats 40000000 in
theorem rm13_2 (l : Launch) (Z : State) (a0 : Array Value) (hw : ∀ d ∈ tables_1, d.before a0 Z = true) (ws : List Jvm.Cond) (bl : Addr) (b : Addr) (kb : ClassId) (w0 : Value) (w1 : Value) (mo : Addr) (h0 : Heap) (n0 : Nat) (Z0 : n0 ≤ h0.size) (VB : Arv Z h0 b kb (.object "java/lang/Object") (10 : Int32) [w0, w1, .null, .null, .null, .null, .null, .null, .null, .null] .null) (XB : Exa Z h0 b "[Ljava/lang/Object;") (Hw0 : own_Ob Z h0 w0) (Hw1 : own_Ob Z h0 w1) (M_mo : Mir Z "[Ljava/lang/Object;" mo) (EL : Exa Z h0 bl "java/util/ArrayList") (FE : Fld Z h0 bl "java/util/ArrayList" "elementData" "[Ljava/lang/Object;" (.ref b)) (FZ : Fld Z h0 bl "java/util/ArrayList" "size" "I" (.int (2 : Int32))) :
    MetFree l (⟨"java/util/ArrayList", "toArray", "()[Ljava/lang/Object;"⟩ : MethodName) (head1 (Jvm.Cond.code (⟨"java/util/ArrayList", "toArray", "()[Ljava/lang/Object;"⟩ : MethodName) jdk_38_method_16_code 1 (some (.array (.object "java/lang/Object"))) :: ws) ({ frames := 3, cells := 1, slots := 2, locals := 46 } : Room)) (fun ar U => ar = #[(.ref bl)] ∧ Z.Warmed39 U.vm ∧ U.heap = h0) (fun _ _ _ _ _ => True) (fun _ U o U' => ∃ v L, o = .returned v ∧ Q13_2 Z bl b kb w0 w1 mo h0 n0 v U'.heap L ∧ FrameEnd U o U' L ({ frames := 3, cells := 1, slots := 2, locals := 46 } : Room).cells ({ frames := 3, cells := 1, slots := 2, locals := 46 } : Room).slots) := by
  refine MetFree.of_bodySF (plainFor_of_name pn_java_util_ArrayList) hisR ?_
  intro p e s m args below meth c s₁ Bd hml0 hP hK
  obtain ⟨rfl, hZ, hh⟩ := hP
  have hx := Bd.exec
  have hby := Bd.bytes
  have hml : c.maxLocals = 1 := hml0
  have hown : s.vm.findClass "java/util/ArrayList" = some m.cls := findClass_of_methodNamed Bd.named
  have hnm := (name_of_methodNamed Bd.named Bd.method).1
  have X0 : Stand p l e ({ frames := 3, cells := 1, slots := 2, locals := 46 } : Room) s m #[(.ref bl)] below meth c s₁ [] 0 0 := Stand.of_body Bd
  have e0 : s₁.heap = h0 := by rw [← hh, Bd.state]; rfl
  have N0 := Fr.nil n0
  obtain ⟨F, hF⟩ : ∃ F, F = own_Fin s (Q13_2 Z bl b kb w0 w1 mo h0 n0) ({ frames := 3, cells := 1, slots := 2, locals := 46 } : Room).cells ({ frames := 3, cells := 1, slots := 2, locals := 46 } : Room).slots := ⟨_, rfl⟩
  show own_Ends p e below (own_Fin s (Q13_2 Z bl b kb w0 w1 mo h0 n0) ({ frames := 3, cells := 1, slots := 2, locals := 46 } : Room).cells ({ frames := 3, cells := 1, slots := 2, locals := 46 } : Room).slots) _
  rw [← hF, ef_rm13_2 m bl]
  show own_Ends p e below F (s₁.setTop (mkF m 0 #[.val (.ref bl)] []))
  refine own_step (fun _ k => XS.aloadN X0.here hx rfl (hb hby d13_0) rfl rfl k) ?_
  show own_Ends p e below F (s₁.setTop (mkF m 1 #[.val (.ref bl)] [(.ref bl)]))
  obtain ⟨T1, X1, e1, st1⟩ := getF X0 hx hZ hown (host := "") (Or.inl (own_g hw 24 rfl)) Via.refl e0 FE (g := (mkF m 1 #[.val (.ref bl)] [(.ref bl)])) rfl rfl (hb hby d13_1)
  refine own_step st1 ?_
  show own_Ends p e below F (T1.setTop (mkF m 4 #[.val (.ref bl)] [(.ref b)]))
  refine own_step (fun _ k => XS.aloadN X1.here hx rfl (hb hby d13_4) rfl rfl k) ?_
  show own_Ends p e below F (T1.setTop (mkF m 5 #[.val (.ref bl)] [(.ref bl), (.ref b)]))
  obtain ⟨T2, X2, e2, st2⟩ := getF X1 hx hZ hown (host := "") (Or.inl (own_g hw 78 rfl)) Via.refl e1 FZ (g := (mkF m 5 #[.val (.ref bl)] [(.ref bl), (.ref b)])) rfl rfl (hb hby d13_5)
  refine own_step st2 ?_
  show own_Ends p e below F (T2.setTop (mkF m 8 #[.val (.ref bl)] [(.int (2 : Int32)), (.ref b)]))
  obtain ⟨_, _, ⟨T3, L3, k3, n3⟩, -, X3, ⟨Lc3, hQ3, l3, y3, z3⟩, st3⟩ := Jvm.LawKit.callS X2 hx (y := (⟨"java/util/Arrays", "copyOf", "([Ljava/lang/Object;I)[Ljava/lang/Object;"⟩ : MethodName)) hown (mvT hZ (own_g hw 80 rfl)) (mvT hZ (own_g hw 81 rfl)) (mvT hZ (own_g hw 82 rfl)) (mvT hZ (own_g hw 83 rfl)) (by decide) (backOf (W := 0) (rm14_2 l Z a0 hw [] b kb w0 w1 mo h0 n0 Z0 VB XB Hw0 Hw1 M_mo) hZ (own_g hw 83 rfl) (own_g hw 82 rfl) (by decide) (by decide)) (g := (mkF m 8 #[.val (.ref bl)] [(.int (2 : Int32)), (.ref b)])) rfl (by rw [hml]; rfl) (argsL := [(.ref b), (.int (2 : Int32))]) (rest := []) (lenOf pd__28_5bLjava_2flang_2fObject_3bI_29_5bLjava_2flang_2fObject_3b rfl) rfl (by show 2 * 0 + _ ≤ _; exact Nat.le_of_eq rfl) (hb hby d13_8) (fun _ _ => ⟨rfl, e2, (by decide : 0 + 1 ≤ _), (by decide : 0 + 2 ≤ _)⟩)
  dsimp only [Pt.U, Pt.locs, Pt.cells, Pt.slots] at X3 l3 y3 z3 st3 hQ3
  subst l3 y3 z3
  obtain ⟨c3, kc3, rfl, Nq3, Kq3, fq0_3, fq1_3⟩ := hQ3
  have N3 := Fr.app N0 Nq3
  have Z3 : n0 ≤ T3.heap.size := Nat.le_trans Z0 Kq3.1
  have SZ3 : h0.size ≤ T3.heap.size := Nat.le_trans (Nat.le_refl h0.size) Kq3.1
  have ne_b_c3 : b ≠ c3 := Nat.ne_of_lt (Nat.lt_of_lt_of_le (VB).lt fq0_3)
  have ne_bl_c3 : bl ≠ c3 := Nat.ne_of_lt (Nat.lt_of_lt_of_le (EL).lt fq0_3)
  have ge_c3 : n0 ≤ c3 := Nat.le_trans Z0 fq0_3
  have sz_c3 : h0.size ≤ c3 := Nat.le_trans (Nat.le_refl h0.size) fq0_3
  refine own_step st3 ?_
  show own_Ends p e below F (T3.setTop (mkF m 11 #[.val (.ref bl)] [(.ref c3)]))
  rw [hF]
  exact own_ret X3 (v := (some (.ref c3))) (fun h => by rw [Bd.returns] at h; cases h) Bd.notSynchronized (fun fs hr => retOut X3 hx (t := (.array (.object "java/lang/Object"))) (w := (.ref c3)) (i := .areturn) Bd.returns rfl (Or.inr (Or.inr (Or.inr (Or.inr ⟨rfl, rfl, rfl⟩)))) (hb hby d13_11) hr) (by decide) (by decide) (by exact ⟨_, _, rfl, N3, ((Keep.trans (Keep.refl _ _) Kq3 all0) : Keep h0 T3.heap []), sz_c3, fq1_3⟩)

theorem ef_rm12_2 (m : MethodId) (x0 : Addr) (x1 : Addr) : entryFrame m #[(.ref x0), (.ref x1)] 3 = mkF m 0 #[.val (.ref x0), .val (.ref x1), .unset] [] := by first | (simp [entryFrame, mkF, argsToLocals, Value.category, maxLocals]; done) | rfl
def Q12_2 (Z : State) (a bl : Addr) (b : Addr) (kb : ClassId) (w0 : Value) (w1 : Value) (mo : Addr) (ee ma : Addr) (h0 : Heap) (n0 : Nat) (v : Option Value) (h : Heap) (L : List Loc) : Prop := v = none ∧ Fr n0 L ∧ Keep h0 h [a] ∧ Exa Z h a "java/util/ArrayList"
set_option maxRecDepth 65536 in
set_option maxHeartbeats 40000000 in
theorem rm12_2 (l : Launch) (Z : State) (a0 : Array Value) (hw : ∀ d ∈ tables_1, d.before a0 Z = true) (ws : List Jvm.Cond) (a bl : Addr) (b : Addr) (kb : ClassId) (w0 : Value) (w1 : Value) (mo : Addr) (ee ma : Addr) (h0 : Heap) (n0 : Nat) (Z0 : n0 ≤ h0.size) (EX : Exa Z h0 a "java/util/ArrayList") (ge : n0 ≤ a) (F_modCount : Fld Z h0 a "java/util/AbstractList" "modCount" "I" (.int (0 : Int32))) (F_elementData : Fld Z h0 a "java/util/ArrayList" "elementData" "[Ljava/lang/Object;" .null) (F_size : Fld Z h0 a "java/util/ArrayList" "size" "I" (.int (0 : Int32))) (VB : Arv Z h0 b kb (.object "java/lang/Object") (10 : Int32) [w0, w1, .null, .null, .null, .null, .null, .null, .null, .null] .null) (XB : Exa Z h0 b "[Ljava/lang/Object;") (Hw0 : own_Ob Z h0 w0) (Hw1 : own_Ob Z h0 w1) (M_mo : Mir Z "[Ljava/lang/Object;" mo) (EL : Exa Z h0 bl "java/util/ArrayList") (FE : Fld Z h0 bl "java/util/ArrayList" "elementData" "[Ljava/lang/Object;" (.ref b)) (FZ : Fld Z h0 bl "java/util/ArrayList" "size" "I" (.int (2 : Int32))) (SE : Sta Z h0 "java/util/ArrayList" "EMPTY_ELEMENTDATA" "[Ljava/lang/Object;" (.ref ee)) (M_ma : Mir Z "java/util/ArrayList" ma) (nab : a ≠ bl) (nav : a ≠ b) :
    MetFree l (⟨"java/util/ArrayList", "<init>", "(Ljava/util/Collection;)V"⟩ : MethodName) (head1 (Jvm.Cond.code (⟨"java/util/ArrayList", "<init>", "(Ljava/util/Collection;)V"⟩ : MethodName) jdk_38_method_3_code 3 none :: ws) ({ frames := 4, cells := 1, slots := 2, locals := 58 } : Room)) (fun ar U => ar = #[(.ref a), (.ref bl)] ∧ Z.Warmed39 U.vm ∧ U.heap = h0) (fun _ _ _ _ _ => True) (fun _ U o U' => ∃ v L, o = .returned v ∧ Q12_2 Z a bl b kb w0 w1 mo ee ma h0 n0 v U'.heap L ∧ FrameEnd U o U' L ({ frames := 4, cells := 1, slots := 2, locals := 58 } : Room).cells ({ frames := 4, cells := 1, slots := 2, locals := 58 } : Room).slots) := by
  refine MetFree.of_bodySF (plainFor_of_name pn_java_util_ArrayList) hisR ?_
  intro p e s m args below meth c s₁ Bd hml0 hP hK
  obtain ⟨rfl, hZ, hh⟩ := hP
  have hx := Bd.exec
  have hby := Bd.bytes
  have hml : c.maxLocals = 3 := hml0
  have hown : s.vm.findClass "java/util/ArrayList" = some m.cls := findClass_of_methodNamed Bd.named
  have hnm := (name_of_methodNamed Bd.named Bd.method).1
  have X0 : Stand p l e ({ frames := 4, cells := 1, slots := 2, locals := 58 } : Room) s m #[(.ref a), (.ref bl)] below meth c s₁ [] 0 0 := Stand.of_body Bd
  have e0 : s₁.heap = h0 := by rw [← hh, Bd.state]; rfl
  have N0 := Fr.nil n0
  obtain ⟨F, hF⟩ : ∃ F, F = own_Fin s (Q12_2 Z a bl b kb w0 w1 mo ee ma h0 n0) ({ frames := 4, cells := 1, slots := 2, locals := 58 } : Room).cells ({ frames := 4, cells := 1, slots := 2, locals := 58 } : Room).slots := ⟨_, rfl⟩
  show own_Ends p e below (own_Fin s (Q12_2 Z a bl b kb w0 w1 mo ee ma h0 n0) ({ frames := 4, cells := 1, slots := 2, locals := 58 } : Room).cells ({ frames := 4, cells := 1, slots := 2, locals := 58 } : Room).slots) _
  rw [← hF, ef_rm12_2 m a bl]
  show own_Ends p e below F (s₁.setTop (mkF m 0 #[.val (.ref a), .val (.ref bl), .unset] []))
  refine own_step (fun _ k => XS.aloadN X0.here hx rfl (hb hby d12_0) rfl rfl k) ?_
  show own_Ends p e below F (s₁.setTop (mkF m 1 #[.val (.ref a), .val (.ref bl), .unset] [(.ref a)]))
  obtain ⟨_, _, ⟨T1, L1, k1, n1⟩, -, X1, ⟨Lc1, hQ1, l1, y1, z1⟩, st1⟩ := X0.specialBack hx (y := (⟨"java/util/AbstractList", "<init>", "()V"⟩ : MethodName)) rfl hown (mvT hZ (own_g hw 6 rfl)) (mvT hZ (own_g hw 7 rfl)) (mvT hZ (own_g hw 11 rfl)) (by decide) (backOf (W := 0) (rm2 l Z a0 hw [] a  h0 n0 Z0 EX ge F_modCount F_elementData F_size ) hZ (own_g hw 11 rfl) (own_g hw 10 rfl) (by decide) (by decide)) (g := (mkF m 1 #[.val (.ref a), .val (.ref bl), .unset] [(.ref a)])) rfl (by rw [hml]; rfl) (Steps.refl _) (a := a) (argsL := []) (rest := []) (lenOf pd__28_29V rfl) rfl (by show 2 * 0 + _ ≤ _; exact Nat.le_of_eq rfl) (hb hby d12_1) (fun _ _ => ⟨rfl, e0, (by decide : 0 + 0 ≤ _), (by decide : 0 + 0 ≤ _)⟩)
  dsimp only [Pt.U, Pt.locs, Pt.cells, Pt.slots] at X1 l1 y1 z1 st1 hQ1
  subst l1 y1 z1
  obtain ⟨rfl, Nq1, Kq1, fq0_1, fq1_1, fq2_1, fq3_1⟩ := hQ1
  have N1 := Fr.app N0 Nq1
  have Z1 : n0 ≤ T1.heap.size := Nat.le_trans Z0 Kq1.1
  have SZ1 : h0.size ≤ T1.heap.size := Nat.le_trans (Nat.le_refl h0.size) Kq1.1
  have S0_1 := own_Sta_keep SE Kq1 (allS (own_ns_exa EX) all0)
  refine own_trans st1 ?_
  show own_Ends p e below F (T1.setTop (mkF m 4 #[.val (.ref a), .val (.ref bl), .unset] []))
  refine own_step (fun _ k => XS.aloadN X1.here hx rfl (hb hby d12_4) rfl rfl k) ?_
  show own_Ends p e below F (T1.setTop (mkF m 5 #[.val (.ref a), .val (.ref bl), .unset] [(.ref bl)]))
  obtain ⟨cq2, kq2, qa2, qb2, qc2⟩ := isOf (s := s) (T := T1) hZ rfl (EL.keep Kq1)
  obtain ⟨_, _, ⟨T2, L2, k2, n2⟩, -, X2, ⟨Lc2, hQ2, l2, y2, z2⟩, st2⟩ := X1.interfaceBack hx (xi := (⟨"java/util/Collection", "toArray", "()[Ljava/lang/Object;"⟩ : MethodName)) (y := (⟨"java/util/ArrayList", "toArray", "()[Ljava/lang/Object;"⟩ : MethodName)) hown (mvT hZ (own_g hw 69 rfl)) (mvT hZ (own_g hw 70 rfl)) (mvT hZ (own_g hw 71 rfl)) (mvT hZ (own_g hw 72 rfl)) (mvT hZ (own_g hw 73 rfl)) (mvT hZ (own_g hw 74 rfl)) (mvT hZ (own_g hw 75 rfl)) (mvT hZ (own_g hw 76 rfl)) (by decide) (backOf (W := 0) (rm13_2 l Z a0 hw [] bl b kb w0 w1 mo T1.heap n0 Z1 (VB.keep Kq1 (ninS (Ne.symm nav) nin0)) (XB.keep Kq1) (Hw0.keep Kq1) (Hw1.keep Kq1) M_mo (EL.keep Kq1) (FE.keep Kq1 (ninS (Ne.symm nab) nin0)) (FZ.keep Kq1 (ninS (Ne.symm nab) nin0))) hZ (own_g hw 77 rfl) (own_g hw 2 rfl) (by decide) (by decide)) qa2 qb2 qc2 (g := (mkF m 5 #[.val (.ref a), .val (.ref bl), .unset] [(.ref bl)])) rfl (by rw [hml]; rfl) (Steps.refl _) (argsL := []) (rest := []) (lenOf pd__28_29_5bLjava_2flang_2fObject_3b rfl) rfl (by show 2 * 0 + _ ≤ _; exact Nat.le_of_eq rfl) (hb hby d12_5) (fun _ _ => ⟨rfl, rfl, (by decide : 0 + 1 ≤ _), (by decide : 0 + 2 ≤ _)⟩)
  dsimp only [Pt.U, Pt.locs, Pt.cells, Pt.slots] at X2 l2 y2 z2 st2 hQ2
  subst l2 y2 z2
  obtain ⟨c2, kc2, rfl, Nq2, Kq2, fq0_2, fq1_2⟩ := hQ2
  have N2 := Fr.app N1 Nq2
  have Z2 : n0 ≤ T2.heap.size := Nat.le_trans Z1 Kq2.1
  have SZ2 : h0.size ≤ T2.heap.size := Nat.le_trans SZ1 Kq2.1
  have S0_2 := own_Sta_keep S0_1 Kq2 all0
  have ne_a_c2 : a ≠ c2 := Nat.ne_of_lt (Nat.lt_of_lt_of_le (fq0_1).lt fq0_2)
  have ne_b_c2 : b ≠ c2 := Nat.ne_of_lt (Nat.lt_of_lt_of_le ((VB.keep Kq1 (ninS (Ne.symm nav) nin0))).lt fq0_2)
  have ne_bl_c2 : bl ≠ c2 := Nat.ne_of_lt (Nat.lt_of_lt_of_le ((EL.keep Kq1)).lt fq0_2)
  have ge_c2 : n0 ≤ c2 := Nat.le_trans Z1 fq0_2
  have sz_c2 : h0.size ≤ c2 := Nat.le_trans SZ1 fq0_2
  refine own_trans st2 ?_
  show own_Ends p e below F (T2.setTop (mkF m 10 #[.val (.ref a), .val (.ref bl), .unset] [(.ref c2)]))
  refine own_step (fun _ k => XS.astoreN X2.here hx rfl (hb hby d12_10) rfl rfl (l' := #[.val (.ref a), .val (.ref bl), .val (.ref c2)]) rfl k) ?_
  show own_Ends p e below F (T2.setTop (mkF m 11 #[.val (.ref a), .val (.ref bl), .val (.ref c2)] []))
  refine own_step (fun _ k => XS.aloadN X2.here hx rfl (hb hby d12_11) rfl rfl k) ?_
  show own_Ends p e below F (T2.setTop (mkF m 12 #[.val (.ref a), .val (.ref bl), .val (.ref c2)] [(.ref a)]))
  refine own_step (fun _ k => XS.aloadN X2.here hx rfl (hb hby d12_12) rfl rfl k) ?_
  show own_Ends p e below F (T2.setTop (mkF m 13 #[.val (.ref a), .val (.ref bl), .val (.ref c2)] [(.ref c2), (.ref a)]))
  obtain ⟨cl3, Ar3, q3, S3, M3, H3, G3⟩ := id fq1_2
  have al3 := X2.arraylength hx (by exact Ar3.1) (State.isArrayOf_alike hZ.alike Ar3.2.1) (g := (mkF m 13 #[.val (.ref a), .val (.ref bl), .val (.ref c2)] [(.ref c2), (.ref a)])) rfl rfl (hb hby d12_13)
  rw [len_of S3 M3] at al3
  refine own_step al3 ?_
  show own_Ends p e below F (T2.setTop (mkF m 14 #[.val (.ref a), .val (.ref bl), .val (.ref c2)] [(.int (2 : Int32)), (.ref a)]))
  refine own_step (fun _ k => XS.dupX1 X2.here hx rfl (hb hby d12_14) rfl rfl rfl k) ?_
  show own_Ends p e below F (T2.setTop (mkF m 15 #[.val (.ref a), .val (.ref bl), .val (.ref c2)] [(.int (2 : Int32)), (.ref a), (.int (2 : Int32))]))
  obtain ⟨T4, h4, X4, e4, W4, st4⟩ := putF X2 hx hZ hown (host := "") (Or.inl (own_g hw 78 rfl)) Via.refl rfl (fq3_1.keep Kq2 nin0) (fq0_1.keep Kq2) (Or.inl (own_g hw 79 rfl)) (own_g hw 1 rfl) (ty := .int) (by decide) rfl rfl (g := (mkF m 15 #[.val (.ref a), .val (.ref bl), .val (.ref c2)] [(.int (2 : Int32)), (.ref a), (.int (2 : Int32))])) rfl rfl (hb hby d12_15)
  refine own_step st4 ?_
  have F4 := Fld.same W4 (fq3_1.keep Kq2 nin0)
  have N4 := Fr.snoc X4 N2 ge
  have Z4 : n0 ≤ h4.size := by rw [W4.size]; exact Z2
  have SZ4 : h0.size ≤ h4.size := by rw [W4.size]; exact SZ2
  show own_Ends p e below F (T4.setTop (mkF m 18 #[.val (.ref a), .val (.ref bl), .val (.ref c2)] [(.int (2 : Int32))]))
  refine own_step (fun _ k => XS.ifNo X4.here hx rfl (hb hby d12_18) rfl ((if0 _ _).trans (feq (by decide : ¬ ((2 : Int32) = (0 : Int32)))).1) k) ?_
  show own_Ends p e below F (T4.setTop (mkF m 21 #[.val (.ref a), .val (.ref bl), .val (.ref c2)] []))
  refine own_step (fun _ k => XS.aloadN X4.here hx rfl (hb hby d12_21) rfl rfl k) ?_
  show own_Ends p e below F (T4.setTop (mkF m 22 #[.val (.ref a), .val (.ref bl), .val (.ref c2)] [(.ref bl)]))
  obtain ⟨T5, X5, e5, st5⟩ := own_gcI X4 hx hZ (xi := (⟨"java/util/Collection", "getClass", "()Ljava/lang/Class;"⟩ : MethodName)) hown (own_g hw 185 rfl) (own_g hw 85 rfl) (own_g hw 186 rfl) (own_g hw 187 rfl) (own_g hw 86 rfl) (own_g hw 112 rfl) (own_g hw 113 rfl) (own_g hw 76 rfl) (own_g hw 88 rfl) (by decide) (by decide) rfl rfl e4 (((EL.keep Kq1).keep Kq2).wr W4) M_ma (g := (mkF m 22 #[.val (.ref a), .val (.ref bl), .val (.ref c2)] [(.ref bl)])) rfl (by rw [hml]; rfl) (rest := []) rfl (hb hby d12_22) (by decide) (W := 0) (by show 2 * 0 + _ ≤ _; exact Nat.le_of_eq rfl) (by decide)
  refine own_step st5 ?_
  show own_Ends p e below F (T5.setTop (mkF m 27 #[.val (.ref a), .val (.ref bl), .val (.ref c2)] [(.ref ma)]))
  obtain ⟨T6, X6, e6, st6⟩ := own_ldcM X5 hx hZ hown (own_g hw 188 rfl) e5 M_ma (g := (mkF m 27 #[.val (.ref a), .val (.ref bl), .val (.ref c2)] [(.ref ma)])) rfl (hb hby d12_27)
  refine own_step st6 ?_
  show own_Ends p e below F (T6.setTop (mkF m 29 #[.val (.ref a), .val (.ref bl), .val (.ref c2)] [(.ref ma), (.ref ma)]))
  refine own_step (fun _ k => Jvm.RoadKit.acmp (below := below) (g := (mkF m 29 #[.val (.ref a), .val (.ref bl), .val (.ref c2)] [(.ref ma), (.ref ma)])) X6 hx rfl rfl rfl (pc0 := 29) (pc' := 32) (same := true) rfl (hb hby d12_29) rfl (decide_eq_true rfl) (by decide) (by decide) k) ?_
  show own_Ends p e below F (T6.setTop (mkF m 32 #[.val (.ref a), .val (.ref bl), .val (.ref c2)] []))
  refine own_step (fun _ k => XS.aloadN X6.here hx rfl (hb hby d12_32) rfl rfl k) ?_
  show own_Ends p e below F (T6.setTop (mkF m 33 #[.val (.ref a), .val (.ref bl), .val (.ref c2)] [(.ref a)]))
  refine own_step (fun _ k => XS.aloadN X6.here hx rfl (hb hby d12_33) rfl rfl k) ?_
  show own_Ends p e below F (T6.setTop (mkF m 34 #[.val (.ref a), .val (.ref bl), .val (.ref c2)] [(.ref c2), (.ref a)]))
  obtain ⟨T7, h7, X7, e7, W7, st7⟩ := putF X6 hx hZ hown (host := "") (Or.inl (own_g hw 24 rfl)) Via.refl e6 (Fld.other W4 (fq2_1.keep Kq2 nin0) (Or.inr (slot_ne (t := (.array (.object "java/lang/Object"))) (t' := .int) (Or.inl (own_g hw 25 rfl)) (Or.inl (own_g hw 79 rfl)) (by decide) (by decide) (by decide)))) ((fq0_1.keep Kq2).wr W4) (Or.inl (own_g hw 25 rfl)) (own_g hw 1 rfl) (ty := (.array (.object "java/lang/Object"))) (by decide) rfl rfl (g := (mkF m 34 #[.val (.ref a), .val (.ref bl), .val (.ref c2)] [(.ref c2), (.ref a)])) rfl rfl (hb hby d12_34)
  refine own_step st7 ?_
  have F7 := Fld.same W7 (Fld.other W4 (fq2_1.keep Kq2 nin0) (Or.inr (slot_ne (t := (.array (.object "java/lang/Object"))) (t' := .int) (Or.inl (own_g hw 25 rfl)) (Or.inl (own_g hw 79 rfl)) (by decide) (by decide) (by decide))))
  have N7 := Fr.snoc X7 N4 ge
  have Z7 : n0 ≤ h7.size := by rw [W7.size]; exact Z4
  have SZ7 : h0.size ≤ h7.size := by rw [W7.size]; exact SZ4
  show own_Ends p e below F (T7.setTop (mkF m 37 #[.val (.ref a), .val (.ref bl), .val (.ref c2)] []))
  refine own_step (fun _ k => XS.goto X7.here hx rfl (pc0 := 37) (pc' := 64) rfl (hb hby d12_37) (by decide) (by decide) k) ?_
  show own_Ends p e below F (T7.setTop (mkF m 64 #[.val (.ref a), .val (.ref bl), .val (.ref c2)] []))
  rw [hF]
  exact own_ret X7 (v := none) (fun _ => rfl) Bd.notSynchronized (fun fs hr => X7.returnOut hx Bd.returns (hb hby d12_64) hr) (by decide) (by decide) (by rw [e7]; exact ⟨rfl, N7, ((Keep.wr (Keep.wr (Keep.trans (Keep.trans (Keep.refl _ _) Kq1 (allS (Or.inl (List.mem_of_getElem? (i := 0) rfl)) all0)) Kq2 all0) W4 (Or.inl (List.mem_of_getElem? (i := 0) rfl))) W7 (Or.inl (List.mem_of_getElem? (i := 0) rfl))) : Keep h0 h7 [a]), (((fq0_1.keep Kq2).wr W4).wr W7)⟩)

theorem ef_rm15_3 (m : MethodId) (x0 : Addr) (x1 : Int32) (x2 : Addr) : entryFrame m #[(.ref x0), (.int x1), (.ref x2)] 4 = mkF m 0 #[.val (.ref x0), .val (.int x1), .val (.ref x2), .unset] [] := by first | (simp [entryFrame, mkF, argsToLocals, Value.category, maxLocals]; done) | rfl
def Q15_3 (Z : State) (b : Addr) (kb : ClassId) (w0 : Value) (w1 : Value) (w2 : Value) (mo : Addr) (h0 : Heap) (n0 : Nat) (v : Option Value) (h : Heap) (L : List Loc) : Prop := ∃ c k, v = some (.ref c) ∧ Fr n0 L ∧ Keep h0 h [] ∧ h0.size ≤ c ∧ Arv Z h c k (.object "java/lang/Object") (3 : Int32) [w0, w1, w2] .null
set_option maxRecDepth 65536 in
set_option maxHeartbeats 40000000 in
theorem rm15_3 (l : Launch) (Z : State) (a0 : Array Value) (hw : ∀ d ∈ tables_1, d.before a0 Z = true) (ws : List Jvm.Cond) (b : Addr) (kb : ClassId) (w0 : Value) (w1 : Value) (w2 : Value) (mo : Addr) (h0 : Heap) (n0 : Nat) (Z0 : n0 ≤ h0.size) (VB : Arv Z h0 b kb (.object "java/lang/Object") (10 : Int32) [w0, w1, w2, .null, .null, .null, .null, .null, .null, .null] .null) (XB : Exa Z h0 b "[Ljava/lang/Object;") (Hw0 : own_Ob Z h0 w0) (Hw1 : own_Ob Z h0 w1) (Hw2 : own_Ob Z h0 w2) (M_mo : Mir Z "[Ljava/lang/Object;" mo) :
    MetFree l (⟨"java/util/Arrays", "copyOf", "([Ljava/lang/Object;ILjava/lang/Class;)[Ljava/lang/Object;"⟩ : MethodName) (head1 (Jvm.Cond.code (⟨"java/util/Arrays", "copyOf", "([Ljava/lang/Object;ILjava/lang/Class;)[Ljava/lang/Object;"⟩ : MethodName) jdk_65_method_120_code 4 (some (.array (.object "java/lang/Object"))) :: ws) ({ frames := 1, cells := 1, slots := 3, locals := 18 } : Room)) (fun ar U => ar = #[(.ref b), (.int (3 : Int32)), (.ref mo)] ∧ Z.Warmed39 U.vm ∧ U.heap = h0) (fun _ _ _ _ _ => True) (fun _ U o U' => ∃ v L, o = .returned v ∧ Q15_3 Z b kb w0 w1 w2 mo h0 n0 v U'.heap L ∧ FrameEnd U o U' L ({ frames := 1, cells := 1, slots := 3, locals := 18 } : Room).cells ({ frames := 1, cells := 1, slots := 3, locals := 18 } : Room).slots) := by
  refine MetFree.of_bodySF (plainFor_of_name pn_java_util_Arrays) hisR ?_
  intro p e s m args below meth c s₁ Bd hml0 hP hK
  obtain ⟨rfl, hZ, hh⟩ := hP
  have hx := Bd.exec
  have hby := Bd.bytes
  have hml : c.maxLocals = 4 := hml0
  have hown : s.vm.findClass "java/util/Arrays" = some m.cls := findClass_of_methodNamed Bd.named
  have hnm := (name_of_methodNamed Bd.named Bd.method).1
  have X0 : Stand p l e ({ frames := 1, cells := 1, slots := 3, locals := 18 } : Room) s m #[(.ref b), (.int (3 : Int32)), (.ref mo)] below meth c s₁ [] 0 0 := Stand.of_body Bd
  have e0 : s₁.heap = h0 := by rw [← hh, Bd.state]; rfl
  have N0 := Fr.nil n0
  obtain ⟨F, hF⟩ : ∃ F, F = own_Fin s (Q15_3 Z b kb w0 w1 w2 mo h0 n0) ({ frames := 1, cells := 1, slots := 3, locals := 18 } : Room).cells ({ frames := 1, cells := 1, slots := 3, locals := 18 } : Room).slots := ⟨_, rfl⟩
  show own_Ends p e below (own_Fin s (Q15_3 Z b kb w0 w1 w2 mo h0 n0) ({ frames := 1, cells := 1, slots := 3, locals := 18 } : Room).cells ({ frames := 1, cells := 1, slots := 3, locals := 18 } : Room).slots) _
  rw [← hF, ef_rm15_3 m b (3 : Int32) mo]
  show own_Ends p e below F (s₁.setTop (mkF m 0 #[.val (.ref b), .val (.int (3 : Int32)), .val (.ref mo), .unset] []))
  refine own_step (fun _ k => XS.aloadN X0.here hx rfl (hb hby d15_0) rfl rfl k) ?_
  show own_Ends p e below F (s₁.setTop (mkF m 1 #[.val (.ref b), .val (.int (3 : Int32)), .val (.ref mo), .unset] [(.ref mo)]))
  obtain ⟨T1, X1, e1, st1⟩ := own_ldcM X0 hx hZ hown (own_g hw 93 rfl) e0 M_mo (g := (mkF m 1 #[.val (.ref b), .val (.int (3 : Int32)), .val (.ref mo), .unset] [(.ref mo)])) rfl (hb hby d15_1)
  refine own_step st1 ?_
  show own_Ends p e below F (T1.setTop (mkF m 3 #[.val (.ref b), .val (.int (3 : Int32)), .val (.ref mo), .unset] [(.ref mo), (.ref mo)]))
  refine own_step (fun _ k => Jvm.RoadKit.acmp (below := below) (g := (mkF m 3 #[.val (.ref b), .val (.int (3 : Int32)), .val (.ref mo), .unset] [(.ref mo), (.ref mo)])) X1 hx rfl rfl rfl (pc0 := 3) (pc' := 6) (same := true) rfl (hb hby d15_3) rfl (decide_eq_true rfl) (by decide) (by decide) k) ?_
  show own_Ends p e below F (T1.setTop (mkF m 6 #[.val (.ref b), .val (.int (3 : Int32)), .val (.ref mo), .unset] []))
  refine own_step (fun _ k => XS.iloadN X1.here hx rfl (hb hby d15_6) rfl k) ?_
  show own_Ends p e below F (T1.setTop (mkF m 7 #[.val (.ref b), .val (.int (3 : Int32)), .val (.ref mo), .unset] [(.int (3 : Int32))]))
  obtain ⟨T2, h2, k2, X2, e2, E2, A2, EA2, O2, st2⟩ := newRE X1 hx hZ hown (own_g hw 94 rfl) (own_g hw 95 rfl) e1 (g := (mkF m 7 #[.val (.ref b), .val (.int (3 : Int32)), .val (.ref mo), .unset] [(.int (3 : Int32))])) rfl (hb hby d15_7) rfl (by decide) (cap := 3) (by decide) (by decide) (by decide) (by decide) (ad := "[Ljava/lang/Object;") (by decide)
  obtain ⟨a2, g2⟩ : ∃ z, z = h0.size := ⟨_, rfl⟩
  rw [← g2] at A2 EA2 st2
  have ge_a2 : n0 ≤ a2 := Nat.le_trans Z0 (Nat.le_of_eq g2.symm)
  have sz_a2 : h0.size ≤ a2 := Nat.le_trans (Nat.le_refl h0.size) (Nat.le_of_eq g2.symm)
  have ne_b_a2 : b ≠ a2 := Nat.ne_of_lt (by rw [g2]; exact VB.lt)
  have Z2 : n0 ≤ h2.size := Nat.le_trans Z0 E2.1
  have SZ2 : h0.size ≤ h2.size := Nat.le_trans (Nat.le_refl h0.size) E2.1
  have V2 : Arv Z h2 a2 k2 (.object "java/lang/Object") (3 : Int32) [.null, .null, .null] .null := Arv.pad (Arv.new A2 (by decide)) (pad_rep [] _ 3)
  refine own_step st2 ?_
  show own_Ends p e below F (T2.setTop (mkF m 10 #[.val (.ref b), .val (.int (3 : Int32)), .val (.ref mo), .unset] [(.ref a2)]))
  refine own_step (fun _ k => XS.goto X2.here hx rfl (pc0 := 10) (pc' := 24) rfl (hb hby d15_10) (by decide) (by decide) k) ?_
  show own_Ends p e below F (T2.setTop (mkF m 24 #[.val (.ref b), .val (.int (3 : Int32)), .val (.ref mo), .unset] [(.ref a2)]))
  refine own_step (fun _ k => XS.astoreN X2.here hx rfl (hb hby d15_24) rfl rfl (l' := #[.val (.ref b), .val (.int (3 : Int32)), .val (.ref mo), .val (.ref a2)]) rfl k) ?_
  show own_Ends p e below F (T2.setTop (mkF m 25 #[.val (.ref b), .val (.int (3 : Int32)), .val (.ref mo), .val (.ref a2)] []))
  refine own_step (fun _ k => XS.aloadN X2.here hx rfl (hb hby d15_25) rfl rfl k) ?_
  show own_Ends p e below F (T2.setTop (mkF m 26 #[.val (.ref b), .val (.int (3 : Int32)), .val (.ref mo), .val (.ref a2)] [(.ref b)]))
  refine own_step (fun _ k => XS.iconst X2.here hx rfl (hb hby d15_26) k) ?_
  show own_Ends p e below F (T2.setTop (mkF m 27 #[.val (.ref b), .val (.int (3 : Int32)), .val (.ref mo), .val (.ref a2)] [(.int (0 : Int32)), (.ref b)]))
  refine own_step (fun _ k => XS.aloadN X2.here hx rfl (hb hby d15_27) rfl rfl k) ?_
  show own_Ends p e below F (T2.setTop (mkF m 28 #[.val (.ref b), .val (.int (3 : Int32)), .val (.ref mo), .val (.ref a2)] [(.ref a2), (.int (0 : Int32)), (.ref b)]))
  refine own_step (fun _ k => XS.iconst X2.here hx rfl (hb hby d15_28) k) ?_
  show own_Ends p e below F (T2.setTop (mkF m 29 #[.val (.ref b), .val (.int (3 : Int32)), .val (.ref mo), .val (.ref a2)] [(.int (0 : Int32)), (.ref a2), (.int (0 : Int32)), (.ref b)]))
  refine own_step (fun _ k => XS.aloadN X2.here hx rfl (hb hby d15_29) rfl rfl k) ?_
  show own_Ends p e below F (T2.setTop (mkF m 30 #[.val (.ref b), .val (.int (3 : Int32)), .val (.ref mo), .val (.ref a2)] [(.ref b), (.int (0 : Int32)), (.ref a2), (.int (0 : Int32)), (.ref b)]))
  obtain ⟨cl3, Ar3, q3, S3, M3, H3, G3⟩ := id (VB.ext E2)
  have al3 := X2.arraylength hx (by rw [e2]; exact Ar3.1) (State.isArrayOf_alike hZ.alike Ar3.2.1) (g := (mkF m 30 #[.val (.ref b), .val (.int (3 : Int32)), .val (.ref mo), .val (.ref a2)] [(.ref b), (.int (0 : Int32)), (.ref a2), (.int (0 : Int32)), (.ref b)])) rfl rfl (hb hby d15_30)
  rw [len_of S3 M3] at al3
  refine own_step al3 ?_
  show own_Ends p e below F (T2.setTop (mkF m 31 #[.val (.ref b), .val (.int (3 : Int32)), .val (.ref mo), .val (.ref a2)] [(.int (10 : Int32)), (.int (0 : Int32)), (.ref a2), (.int (0 : Int32)), (.ref b)]))
  refine own_step (fun _ k => XS.iloadN X2.here hx rfl (hb hby d15_31) rfl k) ?_
  show own_Ends p e below F (T2.setTop (mkF m 32 #[.val (.ref b), .val (.int (3 : Int32)), .val (.ref mo), .val (.ref a2)] [(.int (3 : Int32)), (.int (10 : Int32)), (.int (0 : Int32)), (.ref a2), (.int (0 : Int32)), (.ref b)]))
  obtain ⟨_, _, ⟨T4, L4, k4, n4⟩, -, X4, ⟨Lc4, hQ4, l4, y4, z4⟩, st4⟩ := Jvm.LawKit.callS X2 hx (y := (⟨"java/lang/Math", "min", "(II)I"⟩ : MethodName)) hown (mvT hZ (own_g hw 96 rfl)) (mvT hZ (own_g hw 97 rfl)) (mvT hZ (own_g hw 98 rfl)) (mvT hZ (own_g hw 99 rfl)) (by decide) (backOf (W := 4) (rm16 l Z a0 hw [] (10 : Int32) (3 : Int32) h2 n0 Z2) hZ (own_g hw 99 rfl) (own_g hw 98 rfl) (by decide) (by decide)) (g := (mkF m 32 #[.val (.ref b), .val (.int (3 : Int32)), .val (.ref mo), .val (.ref a2)] [(.int (3 : Int32)), (.int (10 : Int32)), (.int (0 : Int32)), (.ref a2), (.int (0 : Int32)), (.ref b)])) rfl (by rw [hml]; rfl) (argsL := [(.int (10 : Int32)), (.int (3 : Int32))]) (rest := [(.int (0 : Int32)), (.ref a2), (.int (0 : Int32)), (.ref b)]) (lenOf pd__28II_29I rfl) rfl (by show 2 * 0 + _ ≤ _; exact Nat.le_of_eq rfl) (hb hby d15_32) (fun _ _ => ⟨rfl, e2, (by decide : 1 + 0 ≤ _), (by decide : 3 + 0 ≤ _)⟩)
  dsimp only [Pt.U, Pt.locs, Pt.cells, Pt.slots] at X4 l4 y4 z4 st4 hQ4
  subst l4 y4 z4
  obtain ⟨rfl, Nq4, eq4⟩ := hQ4
  have N4 := Fr.app N0 Nq4
  refine own_step st4 ?_
  show own_Ends p e below F (T4.setTop (mkF m 35 #[.val (.ref b), .val (.int (3 : Int32)), .val (.ref mo), .val (.ref a2)] [(.int (if (3 : Int32) < (10 : Int32) then (3 : Int32) else (10 : Int32))), (.int (0 : Int32)), (.ref a2), (.int (0 : Int32)), (.ref b)]))
  rw [show (if (3 : Int32) < (10 : Int32) then (3 : Int32) else (10 : Int32)) = (3 : Int32) from (by first | rfl | decide)]
  show own_Ends p e below F (T4.setTop (mkF m 35 #[.val (.ref b), .val (.int (3 : Int32)), .val (.ref mo), .val (.ref a2)] [(.int (3 : Int32)), (.int (0 : Int32)), (.ref a2), (.int (0 : Int32)), (.ref b)]))
  obtain ⟨cl5, Ar5, q5, -⟩ := id V2
  obtain ⟨T5, h5, L5, X5, e5, N5, K5, V5, st5⟩ := cpA X4 hx hZ hown (own_g hw 100 rfl) (own_g hw 103 rfl) (own_g hw 101 rfl) (own_g hw 102 rfl) eq4 (VB.ext E2) V2 (us := [w0, w1, w2]) (Or.inr ⟨rfl, rfl, ⟨(own_Ob.sto (Hw0.ext E2) Ar5 q5 O2), ⟨(own_Ob.sto (Hw1.ext E2) Ar5 q5 O2), ⟨(own_Ob.sto (Hw2.ext E2) Ar5 q5 O2), trivial⟩⟩⟩⟩) (by decide) (by decide) (by decide) (by decide) (by decide) rfl (by decide) N4 ge_a2 (g := (mkF m 35 #[.val (.ref b), .val (.int (3 : Int32)), .val (.ref mo), .val (.ref a2)] [(.int (3 : Int32)), (.int (0 : Int32)), (.ref a2), (.int (0 : Int32)), (.ref b)])) rfl (by rw [hml]; rfl) (rest := []) rfl (hb hby d15_35) (by decide) (W := 0) (by show 2 * 0 + _ ≤ _; exact Nat.le_of_eq rfl) (by decide)
  have V5 : Arv Z h5 a2 k2 (.object "java/lang/Object") (3 : Int32) [w0, w1, w2] .null := V5
  have Z5 : n0 ≤ h5.size := Nat.le_trans Z2 K5.1
  have SZ5 : h0.size ≤ h5.size := Nat.le_trans SZ2 K5.1
  refine own_step st5 ?_
  show own_Ends p e below F (T5.setTop (mkF m 38 #[.val (.ref b), .val (.int (3 : Int32)), .val (.ref mo), .val (.ref a2)] []))
  refine own_step (fun _ k => XS.aloadN X5.here hx rfl (hb hby d15_38) rfl rfl k) ?_
  show own_Ends p e below F (T5.setTop (mkF m 39 #[.val (.ref b), .val (.int (3 : Int32)), .val (.ref mo), .val (.ref a2)] [(.ref a2)]))
  rw [hF]
  exact own_ret X5 (v := (some (.ref a2))) (fun h => by rw [Bd.returns] at h; cases h) Bd.notSynchronized (fun fs hr => retOut X5 hx (t := (.array (.object "java/lang/Object"))) (w := (.ref a2)) (i := .areturn) Bd.returns rfl (Or.inr (Or.inr (Or.inr (Or.inr ⟨rfl, rfl, rfl⟩)))) (hb hby d15_39) hr) (by decide) (by decide) (by rw [e5]; exact ⟨_, _, rfl, N5, ((Keep.trans (Keep.ext (Keep.refl _ _) E2) K5 (allS (Or.inr sz_a2) all0)) : Keep h0 h5 []), sz_a2, V5⟩)

theorem ef_rm14_3 (m : MethodId) (x0 : Addr) (x1 : Int32) : entryFrame m #[(.ref x0), (.int x1)] 2 = mkF m 0 #[.val (.ref x0), .val (.int x1)] [] := by first | (simp [entryFrame, mkF, argsToLocals, Value.category, maxLocals]; done) | rfl
def Q14_3 (Z : State) (b : Addr) (kb : ClassId) (w0 : Value) (w1 : Value) (w2 : Value) (mo : Addr) (h0 : Heap) (n0 : Nat) (v : Option Value) (h : Heap) (L : List Loc) : Prop := ∃ c k, v = some (.ref c) ∧ Fr n0 L ∧ Keep h0 h [] ∧ h0.size ≤ c ∧ Arv Z h c k (.object "java/lang/Object") (3 : Int32) [w0, w1, w2] .null
set_option maxRecDepth 65536 in
set_option maxHeartbeats 40000000 in
theorem rm14_3 (l : Launch) (Z : State) (a0 : Array Value) (hw : ∀ d ∈ tables_1, d.before a0 Z = true) (ws : List Jvm.Cond) (b : Addr) (kb : ClassId) (w0 : Value) (w1 : Value) (w2 : Value) (mo : Addr) (h0 : Heap) (n0 : Nat) (Z0 : n0 ≤ h0.size) (VB : Arv Z h0 b kb (.object "java/lang/Object") (10 : Int32) [w0, w1, w2, .null, .null, .null, .null, .null, .null, .null] .null) (XB : Exa Z h0 b "[Ljava/lang/Object;") (Hw0 : own_Ob Z h0 w0) (Hw1 : own_Ob Z h0 w1) (Hw2 : own_Ob Z h0 w2) (M_mo : Mir Z "[Ljava/lang/Object;" mo) :
    MetFree l (⟨"java/util/Arrays", "copyOf", "([Ljava/lang/Object;I)[Ljava/lang/Object;"⟩ : MethodName) (head1 (Jvm.Cond.code (⟨"java/util/Arrays", "copyOf", "([Ljava/lang/Object;I)[Ljava/lang/Object;"⟩ : MethodName) jdk_65_method_119_code 2 (some (.array (.object "java/lang/Object"))) :: ws) ({ frames := 2, cells := 1, slots := 3, locals := 33 } : Room)) (fun ar U => ar = #[(.ref b), (.int (3 : Int32))] ∧ Z.Warmed39 U.vm ∧ U.heap = h0) (fun _ _ _ _ _ => True) (fun _ U o U' => ∃ v L, o = .returned v ∧ Q14_3 Z b kb w0 w1 w2 mo h0 n0 v U'.heap L ∧ FrameEnd U o U' L ({ frames := 2, cells := 1, slots := 3, locals := 33 } : Room).cells ({ frames := 2, cells := 1, slots := 3, locals := 33 } : Room).slots) := by
  refine MetFree.of_bodySF (plainFor_of_name pn_java_util_Arrays) hisR ?_
  intro p e s m args below meth c s₁ Bd hml0 hP hK
  obtain ⟨rfl, hZ, hh⟩ := hP
  have hx := Bd.exec
  have hby := Bd.bytes
  have hml : c.maxLocals = 2 := hml0
  have hown : s.vm.findClass "java/util/Arrays" = some m.cls := findClass_of_methodNamed Bd.named
  have hnm := (name_of_methodNamed Bd.named Bd.method).1
  have X0 : Stand p l e ({ frames := 2, cells := 1, slots := 3, locals := 33 } : Room) s m #[(.ref b), (.int (3 : Int32))] below meth c s₁ [] 0 0 := Stand.of_body Bd
  have e0 : s₁.heap = h0 := by rw [← hh, Bd.state]; rfl
  have N0 := Fr.nil n0
  obtain ⟨F, hF⟩ : ∃ F, F = own_Fin s (Q14_3 Z b kb w0 w1 w2 mo h0 n0) ({ frames := 2, cells := 1, slots := 3, locals := 33 } : Room).cells ({ frames := 2, cells := 1, slots := 3, locals := 33 } : Room).slots := ⟨_, rfl⟩
  show own_Ends p e below (own_Fin s (Q14_3 Z b kb w0 w1 w2 mo h0 n0) ({ frames := 2, cells := 1, slots := 3, locals := 33 } : Room).cells ({ frames := 2, cells := 1, slots := 3, locals := 33 } : Room).slots) _
  rw [← hF, ef_rm14_3 m b (3 : Int32)]
  show own_Ends p e below F (s₁.setTop (mkF m 0 #[.val (.ref b), .val (.int (3 : Int32))] []))
  refine own_step (fun _ k => XS.aloadN X0.here hx rfl (hb hby d14_0) rfl rfl k) ?_
  show own_Ends p e below F (s₁.setTop (mkF m 1 #[.val (.ref b), .val (.int (3 : Int32))] [(.ref b)]))
  refine own_step (fun _ k => XS.iloadN X0.here hx rfl (hb hby d14_1) rfl k) ?_
  show own_Ends p e below F (s₁.setTop (mkF m 2 #[.val (.ref b), .val (.int (3 : Int32))] [(.int (3 : Int32)), (.ref b)]))
  refine own_step (fun _ k => XS.aloadN X0.here hx rfl (hb hby d14_2) rfl rfl k) ?_
  show own_Ends p e below F (s₁.setTop (mkF m 3 #[.val (.ref b), .val (.int (3 : Int32))] [(.ref b), (.int (3 : Int32)), (.ref b)]))
  obtain ⟨T1, X1, e1, st1⟩ := own_gc X0 hx hZ hown (own_g hw 84 rfl) (own_g hw 85 rfl) (own_g hw 87 rfl) (own_g hw 86 rfl) (own_g hw 88 rfl) e0 XB M_mo (g := (mkF m 3 #[.val (.ref b), .val (.int (3 : Int32))] [(.ref b), (.int (3 : Int32)), (.ref b)])) rfl (by rw [hml]; rfl) (rest := [(.int (3 : Int32)), (.ref b)]) rfl (hb hby d14_3) (by decide) (W := 2) (by show 2 * 0 + _ ≤ _; exact Nat.le_of_eq rfl) (by decide)
  refine own_step st1 ?_
  show own_Ends p e below F (T1.setTop (mkF m 6 #[.val (.ref b), .val (.int (3 : Int32))] [(.ref mo), (.int (3 : Int32)), (.ref b)]))
  obtain ⟨_, _, ⟨T2, L2, k2, n2⟩, -, X2, ⟨Lc2, hQ2, l2, y2, z2⟩, st2⟩ := Jvm.LawKit.callS X1 hx (y := (⟨"java/util/Arrays", "copyOf", "([Ljava/lang/Object;ILjava/lang/Class;)[Ljava/lang/Object;"⟩ : MethodName)) hown (mvT hZ (own_g hw 90 rfl)) (mvT hZ (own_g hw 91 rfl)) (mvT hZ (own_g hw 82 rfl)) (mvT hZ (own_g hw 92 rfl)) (by decide) (backOf (W := 0) (rm15_3 l Z a0 hw [] b kb w0 w1 w2 mo h0 n0 Z0 VB XB Hw0 Hw1 Hw2 M_mo) hZ (own_g hw 92 rfl) (own_g hw 82 rfl) (by decide) (by decide)) (g := (mkF m 6 #[.val (.ref b), .val (.int (3 : Int32))] [(.ref mo), (.int (3 : Int32)), (.ref b)])) rfl (by rw [hml]; rfl) (argsL := [(.ref b), (.int (3 : Int32)), (.ref mo)]) (rest := []) (lenOf pd__28_5bLjava_2flang_2fObject_3bILjava_2flang_2fClass_3b_29_5bLjava_2flang_2fObject_3b rfl) rfl (by show 2 * 0 + _ ≤ _; exact Nat.le_of_eq rfl) (hb hby d14_6) (fun _ _ => ⟨rfl, e1, (by decide : 0 + 1 ≤ _), (by decide : 0 + 3 ≤ _)⟩)
  dsimp only [Pt.U, Pt.locs, Pt.cells, Pt.slots] at X2 l2 y2 z2 st2 hQ2
  subst l2 y2 z2
  obtain ⟨c2, kc2, rfl, Nq2, Kq2, fq0_2, fq1_2⟩ := hQ2
  have N2 := Fr.app N0 Nq2
  have Z2 : n0 ≤ T2.heap.size := Nat.le_trans Z0 Kq2.1
  have SZ2 : h0.size ≤ T2.heap.size := Nat.le_trans (Nat.le_refl h0.size) Kq2.1
  have ne_b_c2 : b ≠ c2 := Nat.ne_of_lt (Nat.lt_of_lt_of_le (VB).lt fq0_2)
  have ge_c2 : n0 ≤ c2 := Nat.le_trans Z0 fq0_2
  have sz_c2 : h0.size ≤ c2 := Nat.le_trans (Nat.le_refl h0.size) fq0_2
  refine own_step st2 ?_
  show own_Ends p e below F (T2.setTop (mkF m 9 #[.val (.ref b), .val (.int (3 : Int32))] [(.ref c2)]))
  rw [hF]
  exact own_ret X2 (v := (some (.ref c2))) (fun h => by rw [Bd.returns] at h; cases h) Bd.notSynchronized (fun fs hr => retOut X2 hx (t := (.array (.object "java/lang/Object"))) (w := (.ref c2)) (i := .areturn) Bd.returns rfl (Or.inr (Or.inr (Or.inr (Or.inr ⟨rfl, rfl, rfl⟩)))) (hb hby d14_9) hr) (by decide) (by decide) (by exact ⟨_, _, rfl, N2, ((Keep.trans (Keep.refl _ _) Kq2 all0) : Keep h0 T2.heap []), sz_c2, fq1_2⟩)

theorem ef_rm13_3 (m : MethodId) (x0 : Addr) : entryFrame m #[(.ref x0)] 1 = mkF m 0 #[.val (.ref x0)] [] := by first | (simp [entryFrame, mkF, argsToLocals, Value.category, maxLocals]; done) | rfl
def Q13_3 (Z : State) (bl : Addr) (b : Addr) (kb : ClassId) (w0 : Value) (w1 : Value) (w2 : Value) (mo : Addr) (h0 : Heap) (n0 : Nat) (v : Option Value) (h : Heap) (L : List Loc) : Prop := ∃ c k, v = some (.ref c) ∧ Fr n0 L ∧ Keep h0 h [] ∧ h0.size ≤ c ∧ Arv Z h c k (.object "java/lang/Object") (3 : Int32) [w0, w1, w2] .null
set_option maxRecDepth 65536 in
set_option maxHeartbeats 40000000 in
theorem rm13_3 (l : Launch) (Z : State) (a0 : Array Value) (hw : ∀ d ∈ tables_1, d.before a0 Z = true) (ws : List Jvm.Cond) (bl : Addr) (b : Addr) (kb : ClassId) (w0 : Value) (w1 : Value) (w2 : Value) (mo : Addr) (h0 : Heap) (n0 : Nat) (Z0 : n0 ≤ h0.size) (VB : Arv Z h0 b kb (.object "java/lang/Object") (10 : Int32) [w0, w1, w2, .null, .null, .null, .null, .null, .null, .null] .null) (XB : Exa Z h0 b "[Ljava/lang/Object;") (Hw0 : own_Ob Z h0 w0) (Hw1 : own_Ob Z h0 w1) (Hw2 : own_Ob Z h0 w2) (M_mo : Mir Z "[Ljava/lang/Object;" mo) (EL : Exa Z h0 bl "java/util/ArrayList") (FE : Fld Z h0 bl "java/util/ArrayList" "elementData" "[Ljava/lang/Object;" (.ref b)) (FZ : Fld Z h0 bl "java/util/ArrayList" "size" "I" (.int (3 : Int32))) :
    MetFree l (⟨"java/util/ArrayList", "toArray", "()[Ljava/lang/Object;"⟩ : MethodName) (head1 (Jvm.Cond.code (⟨"java/util/ArrayList", "toArray", "()[Ljava/lang/Object;"⟩ : MethodName) jdk_38_method_16_code 1 (some (.array (.object "java/lang/Object"))) :: ws) ({ frames := 3, cells := 1, slots := 3, locals := 46 } : Room)) (fun ar U => ar = #[(.ref bl)] ∧ Z.Warmed39 U.vm ∧ U.heap = h0) (fun _ _ _ _ _ => True) (fun _ U o U' => ∃ v L, o = .returned v ∧ Q13_3 Z bl b kb w0 w1 w2 mo h0 n0 v U'.heap L ∧ FrameEnd U o U' L ({ frames := 3, cells := 1, slots := 3, locals := 46 } : Room).cells ({ frames := 3, cells := 1, slots := 3, locals := 46 } : Room).slots) := by
  refine MetFree.of_bodySF (plainFor_of_name pn_java_util_ArrayList) hisR ?_
  intro p e s m args below meth c s₁ Bd hml0 hP hK
  obtain ⟨rfl, hZ, hh⟩ := hP
  have hx := Bd.exec
  have hby := Bd.bytes
  have hml : c.maxLocals = 1 := hml0
  have hown : s.vm.findClass "java/util/ArrayList" = some m.cls := findClass_of_methodNamed Bd.named
  have hnm := (name_of_methodNamed Bd.named Bd.method).1
  have X0 : Stand p l e ({ frames := 3, cells := 1, slots := 3, locals := 46 } : Room) s m #[(.ref bl)] below meth c s₁ [] 0 0 := Stand.of_body Bd
  have e0 : s₁.heap = h0 := by rw [← hh, Bd.state]; rfl
  have N0 := Fr.nil n0
  obtain ⟨F, hF⟩ : ∃ F, F = own_Fin s (Q13_3 Z bl b kb w0 w1 w2 mo h0 n0) ({ frames := 3, cells := 1, slots := 3, locals := 46 } : Room).cells ({ frames := 3, cells := 1, slots := 3, locals := 46 } : Room).slots := ⟨_, rfl⟩
  show own_Ends p e below (own_Fin s (Q13_3 Z bl b kb w0 w1 w2 mo h0 n0) ({ frames := 3, cells := 1, slots := 3, locals := 46 } : Room).cells ({ frames := 3, cells := 1, slots := 3, locals := 46 } : Room).slots) _
  rw [← hF, ef_rm13_3 m bl]
  show own_Ends p e below F (s₁.setTop (mkF m 0 #[.val (.ref bl)] []))
  refine own_step (fun _ k => XS.aloadN X0.here hx rfl (hb hby d13_0) rfl rfl k) ?_
  show own_Ends p e below F (s₁.setTop (mkF m 1 #[.val (.ref bl)] [(.ref bl)]))
  obtain ⟨T1, X1, e1, st1⟩ := getF X0 hx hZ hown (host := "") (Or.inl (own_g hw 24 rfl)) Via.refl e0 FE (g := (mkF m 1 #[.val (.ref bl)] [(.ref bl)])) rfl rfl (hb hby d13_1)
  refine own_step st1 ?_
  show own_Ends p e below F (T1.setTop (mkF m 4 #[.val (.ref bl)] [(.ref b)]))
  refine own_step (fun _ k => XS.aloadN X1.here hx rfl (hb hby d13_4) rfl rfl k) ?_
  show own_Ends p e below F (T1.setTop (mkF m 5 #[.val (.ref bl)] [(.ref bl), (.ref b)]))
  obtain ⟨T2, X2, e2, st2⟩ := getF X1 hx hZ hown (host := "") (Or.inl (own_g hw 78 rfl)) Via.refl e1 FZ (g := (mkF m 5 #[.val (.ref bl)] [(.ref bl), (.ref b)])) rfl rfl (hb hby d13_5)
  refine own_step st2 ?_
  show own_Ends p e below F (T2.setTop (mkF m 8 #[.val (.ref bl)] [(.int (3 : Int32)), (.ref b)]))
  obtain ⟨_, _, ⟨T3, L3, k3, n3⟩, -, X3, ⟨Lc3, hQ3, l3, y3, z3⟩, st3⟩ := Jvm.LawKit.callS X2 hx (y := (⟨"java/util/Arrays", "copyOf", "([Ljava/lang/Object;I)[Ljava/lang/Object;"⟩ : MethodName)) hown (mvT hZ (own_g hw 80 rfl)) (mvT hZ (own_g hw 81 rfl)) (mvT hZ (own_g hw 82 rfl)) (mvT hZ (own_g hw 83 rfl)) (by decide) (backOf (W := 0) (rm14_3 l Z a0 hw [] b kb w0 w1 w2 mo h0 n0 Z0 VB XB Hw0 Hw1 Hw2 M_mo) hZ (own_g hw 83 rfl) (own_g hw 82 rfl) (by decide) (by decide)) (g := (mkF m 8 #[.val (.ref bl)] [(.int (3 : Int32)), (.ref b)])) rfl (by rw [hml]; rfl) (argsL := [(.ref b), (.int (3 : Int32))]) (rest := []) (lenOf pd__28_5bLjava_2flang_2fObject_3bI_29_5bLjava_2flang_2fObject_3b rfl) rfl (by show 2 * 0 + _ ≤ _; exact Nat.le_of_eq rfl) (hb hby d13_8) (fun _ _ => ⟨rfl, e2, (by decide : 0 + 1 ≤ _), (by decide : 0 + 3 ≤ _)⟩)
  dsimp only [Pt.U, Pt.locs, Pt.cells, Pt.slots] at X3 l3 y3 z3 st3 hQ3
  subst l3 y3 z3
  obtain ⟨c3, kc3, rfl, Nq3, Kq3, fq0_3, fq1_3⟩ := hQ3
  have N3 := Fr.app N0 Nq3
  have Z3 : n0 ≤ T3.heap.size := Nat.le_trans Z0 Kq3.1
  have SZ3 : h0.size ≤ T3.heap.size := Nat.le_trans (Nat.le_refl h0.size) Kq3.1
  have ne_b_c3 : b ≠ c3 := Nat.ne_of_lt (Nat.lt_of_lt_of_le (VB).lt fq0_3)
  have ne_bl_c3 : bl ≠ c3 := Nat.ne_of_lt (Nat.lt_of_lt_of_le (EL).lt fq0_3)
  have ge_c3 : n0 ≤ c3 := Nat.le_trans Z0 fq0_3
  have sz_c3 : h0.size ≤ c3 := Nat.le_trans (Nat.le_refl h0.size) fq0_3
  refine own_step st3 ?_
  show own_Ends p e below F (T3.setTop (mkF m 11 #[.val (.ref bl)] [(.ref c3)]))
  rw [hF]
  exact own_ret X3 (v := (some (.ref c3))) (fun h => by rw [Bd.returns] at h; cases h) Bd.notSynchronized (fun fs hr => retOut X3 hx (t := (.array (.object "java/lang/Object"))) (w := (.ref c3)) (i := .areturn) Bd.returns rfl (Or.inr (Or.inr (Or.inr (Or.inr ⟨rfl, rfl, rfl⟩)))) (hb hby d13_11) hr) (by decide) (by decide) (by exact ⟨_, _, rfl, N3, ((Keep.trans (Keep.refl _ _) Kq3 all0) : Keep h0 T3.heap []), sz_c3, fq1_3⟩)

theorem ef_rm12_3 (m : MethodId) (x0 : Addr) (x1 : Addr) : entryFrame m #[(.ref x0), (.ref x1)] 3 = mkF m 0 #[.val (.ref x0), .val (.ref x1), .unset] [] := by first | (simp [entryFrame, mkF, argsToLocals, Value.category, maxLocals]; done) | rfl
def Q12_3 (Z : State) (a bl : Addr) (b : Addr) (kb : ClassId) (w0 : Value) (w1 : Value) (w2 : Value) (mo : Addr) (ee ma : Addr) (h0 : Heap) (n0 : Nat) (v : Option Value) (h : Heap) (L : List Loc) : Prop := v = none ∧ Fr n0 L ∧ Keep h0 h [a] ∧ Exa Z h a "java/util/ArrayList"
set_option maxRecDepth 65536 in
set_option maxHeartbeats 40000000 in
theorem rm12_3 (l : Launch) (Z : State) (a0 : Array Value) (hw : ∀ d ∈ tables_1, d.before a0 Z = true) (ws : List Jvm.Cond) (a bl : Addr) (b : Addr) (kb : ClassId) (w0 : Value) (w1 : Value) (w2 : Value) (mo : Addr) (ee ma : Addr) (h0 : Heap) (n0 : Nat) (Z0 : n0 ≤ h0.size) (EX : Exa Z h0 a "java/util/ArrayList") (ge : n0 ≤ a) (F_modCount : Fld Z h0 a "java/util/AbstractList" "modCount" "I" (.int (0 : Int32))) (F_elementData : Fld Z h0 a "java/util/ArrayList" "elementData" "[Ljava/lang/Object;" .null) (F_size : Fld Z h0 a "java/util/ArrayList" "size" "I" (.int (0 : Int32))) (VB : Arv Z h0 b kb (.object "java/lang/Object") (10 : Int32) [w0, w1, w2, .null, .null, .null, .null, .null, .null, .null] .null) (XB : Exa Z h0 b "[Ljava/lang/Object;") (Hw0 : own_Ob Z h0 w0) (Hw1 : own_Ob Z h0 w1) (Hw2 : own_Ob Z h0 w2) (M_mo : Mir Z "[Ljava/lang/Object;" mo) (EL : Exa Z h0 bl "java/util/ArrayList") (FE : Fld Z h0 bl "java/util/ArrayList" "elementData" "[Ljava/lang/Object;" (.ref b)) (FZ : Fld Z h0 bl "java/util/ArrayList" "size" "I" (.int (3 : Int32))) (SE : Sta Z h0 "java/util/ArrayList" "EMPTY_ELEMENTDATA" "[Ljava/lang/Object;" (.ref ee)) (M_ma : Mir Z "java/util/ArrayList" ma) (nab : a ≠ bl) (nav : a ≠ b) :
    MetFree l (⟨"java/util/ArrayList", "<init>", "(Ljava/util/Collection;)V"⟩ : MethodName) (head1 (Jvm.Cond.code (⟨"java/util/ArrayList", "<init>", "(Ljava/util/Collection;)V"⟩ : MethodName) jdk_38_method_3_code 3 none :: ws) ({ frames := 4, cells := 1, slots := 3, locals := 58 } : Room)) (fun ar U => ar = #[(.ref a), (.ref bl)] ∧ Z.Warmed39 U.vm ∧ U.heap = h0) (fun _ _ _ _ _ => True) (fun _ U o U' => ∃ v L, o = .returned v ∧ Q12_3 Z a bl b kb w0 w1 w2 mo ee ma h0 n0 v U'.heap L ∧ FrameEnd U o U' L ({ frames := 4, cells := 1, slots := 3, locals := 58 } : Room).cells ({ frames := 4, cells := 1, slots := 3, locals := 58 } : Room).slots) := by
  refine MetFree.of_bodySF (plainFor_of_name pn_java_util_ArrayList) hisR ?_
  intro p e s m args below meth c s₁ Bd hml0 hP hK
  obtain ⟨rfl, hZ, hh⟩ := hP
  have hx := Bd.exec
  have hby := Bd.bytes
  have hml : c.maxLocals = 3 := hml0
  have hown : s.vm.findClass "java/util/ArrayList" = some m.cls := findClass_of_methodNamed Bd.named
  have hnm := (name_of_methodNamed Bd.named Bd.method).1
  have X0 : Stand p l e ({ frames := 4, cells := 1, slots := 3, locals := 58 } : Room) s m #[(.ref a), (.ref bl)] below meth c s₁ [] 0 0 := Stand.of_body Bd
  have e0 : s₁.heap = h0 := by rw [← hh, Bd.state]; rfl
  have N0 := Fr.nil n0
  obtain ⟨F, hF⟩ : ∃ F, F = own_Fin s (Q12_3 Z a bl b kb w0 w1 w2 mo ee ma h0 n0) ({ frames := 4, cells := 1, slots := 3, locals := 58 } : Room).cells ({ frames := 4, cells := 1, slots := 3, locals := 58 } : Room).slots := ⟨_, rfl⟩
  show own_Ends p e below (own_Fin s (Q12_3 Z a bl b kb w0 w1 w2 mo ee ma h0 n0) ({ frames := 4, cells := 1, slots := 3, locals := 58 } : Room).cells ({ frames := 4, cells := 1, slots := 3, locals := 58 } : Room).slots) _
  rw [← hF, ef_rm12_3 m a bl]
  show own_Ends p e below F (s₁.setTop (mkF m 0 #[.val (.ref a), .val (.ref bl), .unset] []))
  refine own_step (fun _ k => XS.aloadN X0.here hx rfl (hb hby d12_0) rfl rfl k) ?_
  show own_Ends p e below F (s₁.setTop (mkF m 1 #[.val (.ref a), .val (.ref bl), .unset] [(.ref a)]))
  obtain ⟨_, _, ⟨T1, L1, k1, n1⟩, -, X1, ⟨Lc1, hQ1, l1, y1, z1⟩, st1⟩ := X0.specialBack hx (y := (⟨"java/util/AbstractList", "<init>", "()V"⟩ : MethodName)) rfl hown (mvT hZ (own_g hw 6 rfl)) (mvT hZ (own_g hw 7 rfl)) (mvT hZ (own_g hw 11 rfl)) (by decide) (backOf (W := 0) (rm2 l Z a0 hw [] a  h0 n0 Z0 EX ge F_modCount F_elementData F_size ) hZ (own_g hw 11 rfl) (own_g hw 10 rfl) (by decide) (by decide)) (g := (mkF m 1 #[.val (.ref a), .val (.ref bl), .unset] [(.ref a)])) rfl (by rw [hml]; rfl) (Steps.refl _) (a := a) (argsL := []) (rest := []) (lenOf pd__28_29V rfl) rfl (by show 2 * 0 + _ ≤ _; exact Nat.le_of_eq rfl) (hb hby d12_1) (fun _ _ => ⟨rfl, e0, (by decide : 0 + 0 ≤ _), (by decide : 0 + 0 ≤ _)⟩)
  dsimp only [Pt.U, Pt.locs, Pt.cells, Pt.slots] at X1 l1 y1 z1 st1 hQ1
  subst l1 y1 z1
  obtain ⟨rfl, Nq1, Kq1, fq0_1, fq1_1, fq2_1, fq3_1⟩ := hQ1
  have N1 := Fr.app N0 Nq1
  have Z1 : n0 ≤ T1.heap.size := Nat.le_trans Z0 Kq1.1
  have SZ1 : h0.size ≤ T1.heap.size := Nat.le_trans (Nat.le_refl h0.size) Kq1.1
  have S0_1 := own_Sta_keep SE Kq1 (allS (own_ns_exa EX) all0)
  refine own_trans st1 ?_
  show own_Ends p e below F (T1.setTop (mkF m 4 #[.val (.ref a), .val (.ref bl), .unset] []))
  refine own_step (fun _ k => XS.aloadN X1.here hx rfl (hb hby d12_4) rfl rfl k) ?_
  show own_Ends p e below F (T1.setTop (mkF m 5 #[.val (.ref a), .val (.ref bl), .unset] [(.ref bl)]))
  obtain ⟨cq2, kq2, qa2, qb2, qc2⟩ := isOf (s := s) (T := T1) hZ rfl (EL.keep Kq1)
  obtain ⟨_, _, ⟨T2, L2, k2, n2⟩, -, X2, ⟨Lc2, hQ2, l2, y2, z2⟩, st2⟩ := X1.interfaceBack hx (xi := (⟨"java/util/Collection", "toArray", "()[Ljava/lang/Object;"⟩ : MethodName)) (y := (⟨"java/util/ArrayList", "toArray", "()[Ljava/lang/Object;"⟩ : MethodName)) hown (mvT hZ (own_g hw 69 rfl)) (mvT hZ (own_g hw 70 rfl)) (mvT hZ (own_g hw 71 rfl)) (mvT hZ (own_g hw 72 rfl)) (mvT hZ (own_g hw 73 rfl)) (mvT hZ (own_g hw 74 rfl)) (mvT hZ (own_g hw 75 rfl)) (mvT hZ (own_g hw 76 rfl)) (by decide) (backOf (W := 0) (rm13_3 l Z a0 hw [] bl b kb w0 w1 w2 mo T1.heap n0 Z1 (VB.keep Kq1 (ninS (Ne.symm nav) nin0)) (XB.keep Kq1) (Hw0.keep Kq1) (Hw1.keep Kq1) (Hw2.keep Kq1) M_mo (EL.keep Kq1) (FE.keep Kq1 (ninS (Ne.symm nab) nin0)) (FZ.keep Kq1 (ninS (Ne.symm nab) nin0))) hZ (own_g hw 77 rfl) (own_g hw 2 rfl) (by decide) (by decide)) qa2 qb2 qc2 (g := (mkF m 5 #[.val (.ref a), .val (.ref bl), .unset] [(.ref bl)])) rfl (by rw [hml]; rfl) (Steps.refl _) (argsL := []) (rest := []) (lenOf pd__28_29_5bLjava_2flang_2fObject_3b rfl) rfl (by show 2 * 0 + _ ≤ _; exact Nat.le_of_eq rfl) (hb hby d12_5) (fun _ _ => ⟨rfl, rfl, (by decide : 0 + 1 ≤ _), (by decide : 0 + 3 ≤ _)⟩)
  dsimp only [Pt.U, Pt.locs, Pt.cells, Pt.slots] at X2 l2 y2 z2 st2 hQ2
  subst l2 y2 z2
  obtain ⟨c2, kc2, rfl, Nq2, Kq2, fq0_2, fq1_2⟩ := hQ2
  have N2 := Fr.app N1 Nq2
  have Z2 : n0 ≤ T2.heap.size := Nat.le_trans Z1 Kq2.1
  have SZ2 : h0.size ≤ T2.heap.size := Nat.le_trans SZ1 Kq2.1
  have S0_2 := own_Sta_keep S0_1 Kq2 all0
  have ne_a_c2 : a ≠ c2 := Nat.ne_of_lt (Nat.lt_of_lt_of_le (fq0_1).lt fq0_2)
  have ne_b_c2 : b ≠ c2 := Nat.ne_of_lt (Nat.lt_of_lt_of_le ((VB.keep Kq1 (ninS (Ne.symm nav) nin0))).lt fq0_2)
  have ne_bl_c2 : bl ≠ c2 := Nat.ne_of_lt (Nat.lt_of_lt_of_le ((EL.keep Kq1)).lt fq0_2)
  have ge_c2 : n0 ≤ c2 := Nat.le_trans Z1 fq0_2
  have sz_c2 : h0.size ≤ c2 := Nat.le_trans SZ1 fq0_2
  refine own_trans st2 ?_
  show own_Ends p e below F (T2.setTop (mkF m 10 #[.val (.ref a), .val (.ref bl), .unset] [(.ref c2)]))
  refine own_step (fun _ k => XS.astoreN X2.here hx rfl (hb hby d12_10) rfl rfl (l' := #[.val (.ref a), .val (.ref bl), .val (.ref c2)]) rfl k) ?_
  show own_Ends p e below F (T2.setTop (mkF m 11 #[.val (.ref a), .val (.ref bl), .val (.ref c2)] []))
  refine own_step (fun _ k => XS.aloadN X2.here hx rfl (hb hby d12_11) rfl rfl k) ?_
  show own_Ends p e below F (T2.setTop (mkF m 12 #[.val (.ref a), .val (.ref bl), .val (.ref c2)] [(.ref a)]))
  refine own_step (fun _ k => XS.aloadN X2.here hx rfl (hb hby d12_12) rfl rfl k) ?_
  show own_Ends p e below F (T2.setTop (mkF m 13 #[.val (.ref a), .val (.ref bl), .val (.ref c2)] [(.ref c2), (.ref a)]))
  obtain ⟨cl3, Ar3, q3, S3, M3, H3, G3⟩ := id fq1_2
  have al3 := X2.arraylength hx (by exact Ar3.1) (State.isArrayOf_alike hZ.alike Ar3.2.1) (g := (mkF m 13 #[.val (.ref a), .val (.ref bl), .val (.ref c2)] [(.ref c2), (.ref a)])) rfl rfl (hb hby d12_13)
  rw [len_of S3 M3] at al3
  refine own_step al3 ?_
  show own_Ends p e below F (T2.setTop (mkF m 14 #[.val (.ref a), .val (.ref bl), .val (.ref c2)] [(.int (3 : Int32)), (.ref a)]))
  refine own_step (fun _ k => XS.dupX1 X2.here hx rfl (hb hby d12_14) rfl rfl rfl k) ?_
  show own_Ends p e below F (T2.setTop (mkF m 15 #[.val (.ref a), .val (.ref bl), .val (.ref c2)] [(.int (3 : Int32)), (.ref a), (.int (3 : Int32))]))
  obtain ⟨T4, h4, X4, e4, W4, st4⟩ := putF X2 hx hZ hown (host := "") (Or.inl (own_g hw 78 rfl)) Via.refl rfl (fq3_1.keep Kq2 nin0) (fq0_1.keep Kq2) (Or.inl (own_g hw 79 rfl)) (own_g hw 1 rfl) (ty := .int) (by decide) rfl rfl (g := (mkF m 15 #[.val (.ref a), .val (.ref bl), .val (.ref c2)] [(.int (3 : Int32)), (.ref a), (.int (3 : Int32))])) rfl rfl (hb hby d12_15)
  refine own_step st4 ?_
  have F4 := Fld.same W4 (fq3_1.keep Kq2 nin0)
  have N4 := Fr.snoc X4 N2 ge
  have Z4 : n0 ≤ h4.size := by rw [W4.size]; exact Z2
  have SZ4 : h0.size ≤ h4.size := by rw [W4.size]; exact SZ2
  show own_Ends p e below F (T4.setTop (mkF m 18 #[.val (.ref a), .val (.ref bl), .val (.ref c2)] [(.int (3 : Int32))]))
  refine own_step (fun _ k => XS.ifNo X4.here hx rfl (hb hby d12_18) rfl ((if0 _ _).trans (feq (by decide : ¬ ((3 : Int32) = (0 : Int32)))).1) k) ?_
  show own_Ends p e below F (T4.setTop (mkF m 21 #[.val (.ref a), .val (.ref bl), .val (.ref c2)] []))
  refine own_step (fun _ k => XS.aloadN X4.here hx rfl (hb hby d12_21) rfl rfl k) ?_
  show own_Ends p e below F (T4.setTop (mkF m 22 #[.val (.ref a), .val (.ref bl), .val (.ref c2)] [(.ref bl)]))
  obtain ⟨T5, X5, e5, st5⟩ := own_gcI X4 hx hZ (xi := (⟨"java/util/Collection", "getClass", "()Ljava/lang/Class;"⟩ : MethodName)) hown (own_g hw 185 rfl) (own_g hw 85 rfl) (own_g hw 186 rfl) (own_g hw 187 rfl) (own_g hw 86 rfl) (own_g hw 112 rfl) (own_g hw 113 rfl) (own_g hw 76 rfl) (own_g hw 88 rfl) (by decide) (by decide) rfl rfl e4 (((EL.keep Kq1).keep Kq2).wr W4) M_ma (g := (mkF m 22 #[.val (.ref a), .val (.ref bl), .val (.ref c2)] [(.ref bl)])) rfl (by rw [hml]; rfl) (rest := []) rfl (hb hby d12_22) (by decide) (W := 0) (by show 2 * 0 + _ ≤ _; exact Nat.le_of_eq rfl) (by decide)
  refine own_step st5 ?_
  show own_Ends p e below F (T5.setTop (mkF m 27 #[.val (.ref a), .val (.ref bl), .val (.ref c2)] [(.ref ma)]))
  obtain ⟨T6, X6, e6, st6⟩ := own_ldcM X5 hx hZ hown (own_g hw 188 rfl) e5 M_ma (g := (mkF m 27 #[.val (.ref a), .val (.ref bl), .val (.ref c2)] [(.ref ma)])) rfl (hb hby d12_27)
  refine own_step st6 ?_
  show own_Ends p e below F (T6.setTop (mkF m 29 #[.val (.ref a), .val (.ref bl), .val (.ref c2)] [(.ref ma), (.ref ma)]))
  refine own_step (fun _ k => Jvm.RoadKit.acmp (below := below) (g := (mkF m 29 #[.val (.ref a), .val (.ref bl), .val (.ref c2)] [(.ref ma), (.ref ma)])) X6 hx rfl rfl rfl (pc0 := 29) (pc' := 32) (same := true) rfl (hb hby d12_29) rfl (decide_eq_true rfl) (by decide) (by decide) k) ?_
  show own_Ends p e below F (T6.setTop (mkF m 32 #[.val (.ref a), .val (.ref bl), .val (.ref c2)] []))
  refine own_step (fun _ k => XS.aloadN X6.here hx rfl (hb hby d12_32) rfl rfl k) ?_
  show own_Ends p e below F (T6.setTop (mkF m 33 #[.val (.ref a), .val (.ref bl), .val (.ref c2)] [(.ref a)]))
  refine own_step (fun _ k => XS.aloadN X6.here hx rfl (hb hby d12_33) rfl rfl k) ?_
  show own_Ends p e below F (T6.setTop (mkF m 34 #[.val (.ref a), .val (.ref bl), .val (.ref c2)] [(.ref c2), (.ref a)]))
  obtain ⟨T7, h7, X7, e7, W7, st7⟩ := putF X6 hx hZ hown (host := "") (Or.inl (own_g hw 24 rfl)) Via.refl e6 (Fld.other W4 (fq2_1.keep Kq2 nin0) (Or.inr (slot_ne (t := (.array (.object "java/lang/Object"))) (t' := .int) (Or.inl (own_g hw 25 rfl)) (Or.inl (own_g hw 79 rfl)) (by decide) (by decide) (by decide)))) ((fq0_1.keep Kq2).wr W4) (Or.inl (own_g hw 25 rfl)) (own_g hw 1 rfl) (ty := (.array (.object "java/lang/Object"))) (by decide) rfl rfl (g := (mkF m 34 #[.val (.ref a), .val (.ref bl), .val (.ref c2)] [(.ref c2), (.ref a)])) rfl rfl (hb hby d12_34)
  refine own_step st7 ?_
  have F7 := Fld.same W7 (Fld.other W4 (fq2_1.keep Kq2 nin0) (Or.inr (slot_ne (t := (.array (.object "java/lang/Object"))) (t' := .int) (Or.inl (own_g hw 25 rfl)) (Or.inl (own_g hw 79 rfl)) (by decide) (by decide) (by decide))))
  have N7 := Fr.snoc X7 N4 ge
  have Z7 : n0 ≤ h7.size := by rw [W7.size]; exact Z4
  have SZ7 : h0.size ≤ h7.size := by rw [W7.size]; exact SZ4
  show own_Ends p e below F (T7.setTop (mkF m 37 #[.val (.ref a), .val (.ref bl), .val (.ref c2)] []))
  refine own_step (fun _ k => XS.goto X7.here hx rfl (pc0 := 37) (pc' := 64) rfl (hb hby d12_37) (by decide) (by decide) k) ?_
  show own_Ends p e below F (T7.setTop (mkF m 64 #[.val (.ref a), .val (.ref bl), .val (.ref c2)] []))
  rw [hF]
  exact own_ret X7 (v := none) (fun _ => rfl) Bd.notSynchronized (fun fs hr => X7.returnOut hx Bd.returns (hb hby d12_64) hr) (by decide) (by decide) (by rw [e7]; exact ⟨rfl, N7, ((Keep.wr (Keep.wr (Keep.trans (Keep.trans (Keep.refl _ _) Kq1 (allS (Or.inl (List.mem_of_getElem? (i := 0) rfl)) all0)) Kq2 all0) W4 (Or.inl (List.mem_of_getElem? (i := 0) rfl))) W7 (Or.inl (List.mem_of_getElem? (i := 0) rfl))) : Keep h0 h7 [a]), (((fq0_1.keep Kq2).wr W4).wr W7)⟩)

theorem d20_0 : decode jdk_119_method_1_code 0 = .ok (.aload_n 0, 1) := by decide +kernel
theorem d20_1 : decode jdk_119_method_1_code 1 = .ok (.invokespecial 1, 3) := by decide +kernel
theorem d20_4 : decode jdk_119_method_1_code 4 = .ok (.aload_n 1, 1) := by decide +kernel
theorem d20_5 : decode jdk_119_method_1_code 5 = .ok (.ifnonnull 11, 3) := by decide +kernel
theorem d20_16 : decode jdk_119_method_1_code 16 = .ok (.aload_n 0, 1) := by decide +kernel
theorem d20_17 : decode jdk_119_method_1_code 17 = .ok (.aload_n 1, 1) := by decide +kernel
theorem d20_18 : decode jdk_119_method_1_code 18 = .ok (.putfield 10, 3) := by decide +kernel
theorem d20_21 : decode jdk_119_method_1_code 21 = .ok (.return_, 1) := by decide +kernel
theorem pn_java_util_Collections_UnmodifiableCollection : plainName "java/util/Collections$UnmodifiableCollection" = true := by first | (simp [plainName, overriddenIn]; done) | decide +kernel
theorem ef_rm20 (m : MethodId) (x0 : Addr) (x1 : Addr) : entryFrame m #[(.ref x0), (.ref x1)] 2 = mkF m 0 #[.val (.ref x0), .val (.ref x1)] [] := by first | (simp [entryFrame, mkF, argsToLocals, Value.category, maxLocals]; done) | rfl
def Q20 (Z : State) (a p1 : Addr) (h0 : Heap) (n0 : Nat) (v : Option Value) (h : Heap) (L : List Loc) : Prop := v = none ∧ Fr n0 L ∧ Keep h0 h [a] ∧ Exa Z h a "java/util/Collections$UnmodifiableRandomAccessList" ∧ Fld Z h a "java/util/Collections$UnmodifiableCollection" "c" "Ljava/util/Collection;" (.ref p1) ∧ Fld Z h a "java/util/Collections$UnmodifiableList" "list" "Ljava/util/List;" .null
set_option maxRecDepth 65536 in
set_option maxHeartbeats 40000000 in
theorem rm20 (l : Launch) (Z : State) (a0 : Array Value) (hw : ∀ d ∈ tables_1, d.before a0 Z = true) (ws : List Jvm.Cond) (a p1 : Addr) (h0 : Heap) (n0 : Nat) (Z0 : n0 ≤ h0.size) (EX : Exa Z h0 a "java/util/Collections$UnmodifiableRandomAccessList") (ge : n0 ≤ a) (F_c : Fld Z h0 a "java/util/Collections$UnmodifiableCollection" "c" "Ljava/util/Collection;" .null) (F_list : Fld Z h0 a "java/util/Collections$UnmodifiableList" "list" "Ljava/util/List;" .null) :
    MetFree l (⟨"java/util/Collections$UnmodifiableCollection", "<init>", "(Ljava/util/Collection;)V"⟩ : MethodName) (head1 (Jvm.Cond.code (⟨"java/util/Collections$UnmodifiableCollection", "<init>", "(Ljava/util/Collection;)V"⟩ : MethodName) jdk_119_method_1_code 2 none :: ws) ({ frames := 1, cells := 0, slots := 0, locals := 12 } : Room)) (fun ar U => ar = #[(.ref a), (.ref p1)] ∧ Z.Warmed39 U.vm ∧ U.heap = h0) (fun _ _ _ _ _ => True) (fun _ U o U' => ∃ v L, o = .returned v ∧ Q20 Z a p1 h0 n0 v U'.heap L ∧ FrameEnd U o U' L ({ frames := 1, cells := 0, slots := 0, locals := 12 } : Room).cells ({ frames := 1, cells := 0, slots := 0, locals := 12 } : Room).slots) := by
  refine MetFree.of_bodySF (plainFor_of_name pn_java_util_Collections_UnmodifiableCollection) hisR ?_
  intro p e s m args below meth c s₁ Bd hml0 hP hK
  obtain ⟨rfl, hZ, hh⟩ := hP
  have hx := Bd.exec
  have hby := Bd.bytes
  have hml : c.maxLocals = 2 := hml0
  have hown : s.vm.findClass "java/util/Collections$UnmodifiableCollection" = some m.cls := findClass_of_methodNamed Bd.named
  have hnm := (name_of_methodNamed Bd.named Bd.method).1
  have X0 : Stand p l e ({ frames := 1, cells := 0, slots := 0, locals := 12 } : Room) s m #[(.ref a), (.ref p1)] below meth c s₁ [] 0 0 := Stand.of_body Bd
  have e0 : s₁.heap = h0 := by rw [← hh, Bd.state]; rfl
  have N0 := Fr.nil n0
  obtain ⟨F, hF⟩ : ∃ F, F = own_Fin s (Q20 Z a p1 h0 n0) ({ frames := 1, cells := 0, slots := 0, locals := 12 } : Room).cells ({ frames := 1, cells := 0, slots := 0, locals := 12 } : Room).slots := ⟨_, rfl⟩
  show own_Ends p e below (own_Fin s (Q20 Z a p1 h0 n0) ({ frames := 1, cells := 0, slots := 0, locals := 12 } : Room).cells ({ frames := 1, cells := 0, slots := 0, locals := 12 } : Room).slots) _
  rw [← hF, ef_rm20 m a p1]
  show own_Ends p e below F (s₁.setTop (mkF m 0 #[.val (.ref a), .val (.ref p1)] []))
  refine own_step (fun _ k => XS.aloadN X0.here hx rfl (hb hby d20_0) rfl rfl k) ?_
  show own_Ends p e below F (s₁.setTop (mkF m 1 #[.val (.ref a), .val (.ref p1)] [(.ref a)]))
  obtain ⟨T1, X1, e1, st1⟩ := initO X0 hx hZ hown (own_g hw 140 rfl) (own_g hw 19 rfl) (own_g hw 20 rfl) e0 (g := (mkF m 1 #[.val (.ref a), .val (.ref p1)] [(.ref a)])) rfl (by rw [hml]; rfl) rfl (hb hby d20_1) (by decide) (W := 0) (by show 2 * 0 + _ ≤ _; exact Nat.le_of_eq rfl) (by decide)
  refine own_step st1 ?_
  show own_Ends p e below F (T1.setTop (mkF m 4 #[.val (.ref a), .val (.ref p1)] []))
  refine own_step (fun _ k => XS.aloadN X1.here hx rfl (hb hby d20_4) rfl rfl k) ?_
  show own_Ends p e below F (T1.setTop (mkF m 5 #[.val (.ref a), .val (.ref p1)] [(.ref p1)]))
  refine own_step (fun _ k => XS.ifnonnullYes X1.here hx rfl (pc0 := 5) (pc' := 16) rfl (hb hby d20_5) rfl (by decide) (by decide) k) ?_
  show own_Ends p e below F (T1.setTop (mkF m 16 #[.val (.ref a), .val (.ref p1)] []))
  refine own_step (fun _ k => XS.aloadN X1.here hx rfl (hb hby d20_16) rfl rfl k) ?_
  show own_Ends p e below F (T1.setTop (mkF m 17 #[.val (.ref a), .val (.ref p1)] [(.ref a)]))
  refine own_step (fun _ k => XS.aloadN X1.here hx rfl (hb hby d20_17) rfl rfl k) ?_
  show own_Ends p e below F (T1.setTop (mkF m 18 #[.val (.ref a), .val (.ref p1)] [(.ref p1), (.ref a)]))
  obtain ⟨T2, h2, X2, e2, W2, st2⟩ := putF X1 hx hZ hown (host := "") (Or.inl (own_g hw 141 rfl)) Via.refl e1 F_c EX (Or.inr ⟨(own_g hw 142 rfl), rfl, hnm⟩) (own_g hw 123 rfl) (ty := (.object "java/util/Collection")) (by decide) rfl rfl (g := (mkF m 18 #[.val (.ref a), .val (.ref p1)] [(.ref p1), (.ref a)])) rfl rfl (hb hby d20_18)
  refine own_step st2 ?_
  have F2 := Fld.same W2 F_c
  have N2 := Fr.snoc X2 N0 ge
  have Z2 : n0 ≤ h2.size := by rw [W2.size]; exact Z0
  have SZ2 : h0.size ≤ h2.size := by rw [W2.size]; exact (Nat.le_refl h0.size)
  show own_Ends p e below F (T2.setTop (mkF m 21 #[.val (.ref a), .val (.ref p1)] []))
  rw [hF]
  exact own_ret X2 (v := none) (fun _ => rfl) Bd.notSynchronized (fun fs hr => X2.returnOut hx Bd.returns (hb hby d20_21) hr) (by decide) (by decide) (by rw [e2]; exact ⟨rfl, N2, ((Keep.wr (Keep.refl _ _) W2 (Or.inl (List.mem_of_getElem? (i := 0) rfl))) : Keep h0 h2 [a]), (EX.wr W2), F2, (Fld.other W2 F_list (Or.inr (slot_ne (t := (.object "java/util/List")) (t' := (.object "java/util/Collection")) (Or.inr (own_g hw 144 rfl)) (Or.inr (own_g hw 142 rfl)) (by decide) (by decide) (by decide))))⟩)

theorem d19_0 : decode jdk_120_method_1_code 0 = .ok (.aload_n 0, 1) := by decide +kernel
theorem d19_1 : decode jdk_120_method_1_code 1 = .ok (.aload_n 1, 1) := by decide +kernel
theorem d19_2 : decode jdk_120_method_1_code 2 = .ok (.invokespecial 1, 3) := by decide +kernel
theorem d19_5 : decode jdk_120_method_1_code 5 = .ok (.aload_n 0, 1) := by decide +kernel
theorem d19_6 : decode jdk_120_method_1_code 6 = .ok (.aload_n 1, 1) := by decide +kernel
theorem d19_7 : decode jdk_120_method_1_code 7 = .ok (.putfield 7, 3) := by decide +kernel
theorem d19_10 : decode jdk_120_method_1_code 10 = .ok (.return_, 1) := by decide +kernel
theorem pn_java_util_Collections_UnmodifiableList : plainName "java/util/Collections$UnmodifiableList" = true := by first | (simp [plainName, overriddenIn]; done) | decide +kernel
theorem pd__28Ljava_2futil_2fCollection_3b_29V : parseMethodDescriptor "(Ljava/util/Collection;)V" = some ⟨[(.object "java/util/Collection")], none⟩ := by decide +kernel
theorem ef_rm19 (m : MethodId) (x0 : Addr) (x1 : Addr) : entryFrame m #[(.ref x0), (.ref x1)] 2 = mkF m 0 #[.val (.ref x0), .val (.ref x1)] [] := by first | (simp [entryFrame, mkF, argsToLocals, Value.category, maxLocals]; done) | rfl
def Q19 (Z : State) (a p1 : Addr) (h0 : Heap) (n0 : Nat) (v : Option Value) (h : Heap) (L : List Loc) : Prop := v = none ∧ Fr n0 L ∧ Keep h0 h [a] ∧ Exa Z h a "java/util/Collections$UnmodifiableRandomAccessList" ∧ Fld Z h a "java/util/Collections$UnmodifiableCollection" "c" "Ljava/util/Collection;" (.ref p1) ∧ Fld Z h a "java/util/Collections$UnmodifiableList" "list" "Ljava/util/List;" (.ref p1)
set_option maxRecDepth 65536 in
set_option maxHeartbeats 40000000 in
theorem rm19 (l : Launch) (Z : State) (a0 : Array Value) (hw : ∀ d ∈ tables_1, d.before a0 Z = true) (ws : List Jvm.Cond) (a p1 : Addr) (h0 : Heap) (n0 : Nat) (Z0 : n0 ≤ h0.size) (EX : Exa Z h0 a "java/util/Collections$UnmodifiableRandomAccessList") (ge : n0 ≤ a) (F_c : Fld Z h0 a "java/util/Collections$UnmodifiableCollection" "c" "Ljava/util/Collection;" .null) (F_list : Fld Z h0 a "java/util/Collections$UnmodifiableList" "list" "Ljava/util/List;" .null) :
    MetFree l (⟨"java/util/Collections$UnmodifiableList", "<init>", "(Ljava/util/List;)V"⟩ : MethodName) (head1 (Jvm.Cond.code (⟨"java/util/Collections$UnmodifiableList", "<init>", "(Ljava/util/List;)V"⟩ : MethodName) jdk_120_method_1_code 2 none :: ws) ({ frames := 2, cells := 0, slots := 0, locals := 25 } : Room)) (fun ar U => ar = #[(.ref a), (.ref p1)] ∧ Z.Warmed39 U.vm ∧ U.heap = h0) (fun _ _ _ _ _ => True) (fun _ U o U' => ∃ v L, o = .returned v ∧ Q19 Z a p1 h0 n0 v U'.heap L ∧ FrameEnd U o U' L ({ frames := 2, cells := 0, slots := 0, locals := 25 } : Room).cells ({ frames := 2, cells := 0, slots := 0, locals := 25 } : Room).slots) := by
  refine MetFree.of_bodySF (plainFor_of_name pn_java_util_Collections_UnmodifiableList) hisR ?_
  intro p e s m args below meth c s₁ Bd hml0 hP hK
  obtain ⟨rfl, hZ, hh⟩ := hP
  have hx := Bd.exec
  have hby := Bd.bytes
  have hml : c.maxLocals = 2 := hml0
  have hown : s.vm.findClass "java/util/Collections$UnmodifiableList" = some m.cls := findClass_of_methodNamed Bd.named
  have hnm := (name_of_methodNamed Bd.named Bd.method).1
  have X0 : Stand p l e ({ frames := 2, cells := 0, slots := 0, locals := 25 } : Room) s m #[(.ref a), (.ref p1)] below meth c s₁ [] 0 0 := Stand.of_body Bd
  have e0 : s₁.heap = h0 := by rw [← hh, Bd.state]; rfl
  have N0 := Fr.nil n0
  obtain ⟨F, hF⟩ : ∃ F, F = own_Fin s (Q19 Z a p1 h0 n0) ({ frames := 2, cells := 0, slots := 0, locals := 25 } : Room).cells ({ frames := 2, cells := 0, slots := 0, locals := 25 } : Room).slots := ⟨_, rfl⟩
  show own_Ends p e below (own_Fin s (Q19 Z a p1 h0 n0) ({ frames := 2, cells := 0, slots := 0, locals := 25 } : Room).cells ({ frames := 2, cells := 0, slots := 0, locals := 25 } : Room).slots) _
  rw [← hF, ef_rm19 m a p1]
  show own_Ends p e below F (s₁.setTop (mkF m 0 #[.val (.ref a), .val (.ref p1)] []))
  refine own_step (fun _ k => XS.aloadN X0.here hx rfl (hb hby d19_0) rfl rfl k) ?_
  show own_Ends p e below F (s₁.setTop (mkF m 1 #[.val (.ref a), .val (.ref p1)] [(.ref a)]))
  refine own_step (fun _ k => XS.aloadN X0.here hx rfl (hb hby d19_1) rfl rfl k) ?_
  show own_Ends p e below F (s₁.setTop (mkF m 2 #[.val (.ref a), .val (.ref p1)] [(.ref p1), (.ref a)]))
  obtain ⟨_, _, ⟨T1, L1, k1, n1⟩, -, X1, ⟨Lc1, hQ1, l1, y1, z1⟩, st1⟩ := X0.specialBack hx (y := (⟨"java/util/Collections$UnmodifiableCollection", "<init>", "(Ljava/util/Collection;)V"⟩ : MethodName)) rfl hown (mvT hZ (own_g hw 134 rfl)) (mvT hZ (own_g hw 135 rfl)) (mvT hZ (own_g hw 139 rfl)) (by decide) (backOf (W := 0) (rm20 l Z a0 hw [] a p1 h0 n0 Z0 EX ge F_c F_list) hZ (own_g hw 139 rfl) (own_g hw 138 rfl) (by decide) (by decide)) (g := (mkF m 2 #[.val (.ref a), .val (.ref p1)] [(.ref p1), (.ref a)])) rfl (by rw [hml]; rfl) (Steps.refl _) (a := a) (argsL := [(.ref p1)]) (rest := []) (lenOf pd__28Ljava_2futil_2fCollection_3b_29V rfl) rfl (by show 2 * 0 + _ ≤ _; exact Nat.le_of_eq rfl) (hb hby d19_2) (fun _ _ => ⟨rfl, e0, (by decide : 0 + 0 ≤ _), (by decide : 0 + 0 ≤ _)⟩)
  dsimp only [Pt.U, Pt.locs, Pt.cells, Pt.slots] at X1 l1 y1 z1 st1 hQ1
  subst l1 y1 z1
  obtain ⟨rfl, Nq1, Kq1, fq0_1, fq1_1, fq2_1⟩ := hQ1
  have N1 := Fr.app N0 Nq1
  have Z1 : n0 ≤ T1.heap.size := Nat.le_trans Z0 Kq1.1
  have SZ1 : h0.size ≤ T1.heap.size := Nat.le_trans (Nat.le_refl h0.size) Kq1.1
  refine own_trans st1 ?_
  show own_Ends p e below F (T1.setTop (mkF m 5 #[.val (.ref a), .val (.ref p1)] []))
  refine own_step (fun _ k => XS.aloadN X1.here hx rfl (hb hby d19_5) rfl rfl k) ?_
  show own_Ends p e below F (T1.setTop (mkF m 6 #[.val (.ref a), .val (.ref p1)] [(.ref a)]))
  refine own_step (fun _ k => XS.aloadN X1.here hx rfl (hb hby d19_6) rfl rfl k) ?_
  show own_Ends p e below F (T1.setTop (mkF m 7 #[.val (.ref a), .val (.ref p1)] [(.ref p1), (.ref a)]))
  obtain ⟨T2, h2, X2, e2, W2, st2⟩ := putF X1 hx hZ hown (host := "") (Or.inl (own_g hw 143 rfl)) Via.refl rfl fq2_1 fq0_1 (Or.inr ⟨(own_g hw 144 rfl), rfl, hnm⟩) (own_g hw 123 rfl) (ty := (.object "java/util/List")) (by decide) rfl rfl (g := (mkF m 7 #[.val (.ref a), .val (.ref p1)] [(.ref p1), (.ref a)])) rfl rfl (hb hby d19_7)
  refine own_step st2 ?_
  have F2 := Fld.same W2 fq2_1
  have N2 := Fr.snoc X2 N1 ge
  have Z2 : n0 ≤ h2.size := by rw [W2.size]; exact Z1
  have SZ2 : h0.size ≤ h2.size := by rw [W2.size]; exact SZ1
  show own_Ends p e below F (T2.setTop (mkF m 10 #[.val (.ref a), .val (.ref p1)] []))
  rw [hF]
  exact own_ret X2 (v := none) (fun _ => rfl) Bd.notSynchronized (fun fs hr => X2.returnOut hx Bd.returns (hb hby d19_10) hr) (by decide) (by decide) (by rw [e2]; exact ⟨rfl, N2, ((Keep.wr (Keep.trans (Keep.refl _ _) Kq1 (allS (Or.inl (List.mem_of_getElem? (i := 0) rfl)) all0)) W2 (Or.inl (List.mem_of_getElem? (i := 0) rfl))) : Keep h0 h2 [a]), (fq0_1.wr W2), (Fld.other W2 fq1_1 (Or.inr (slot_ne (t := (.object "java/util/Collection")) (t' := (.object "java/util/List")) (Or.inr (own_g hw 142 rfl)) (Or.inr (own_g hw 144 rfl)) (by decide) (by decide) (by decide)))), F2⟩)

theorem d18_0 : decode jdk_121_method_1_code 0 = .ok (.aload_n 0, 1) := by decide +kernel
theorem d18_1 : decode jdk_121_method_1_code 1 = .ok (.aload_n 1, 1) := by decide +kernel
theorem d18_2 : decode jdk_121_method_1_code 2 = .ok (.invokespecial 1, 3) := by decide +kernel
theorem d18_5 : decode jdk_121_method_1_code 5 = .ok (.return_, 1) := by decide +kernel
theorem pn_java_util_Collections_UnmodifiableRandomAccessList : plainName "java/util/Collections$UnmodifiableRandomAccessList" = true := by first | (simp [plainName, overriddenIn]; done) | decide +kernel
theorem pd__28Ljava_2futil_2fList_3b_29V : parseMethodDescriptor "(Ljava/util/List;)V" = some ⟨[(.object "java/util/List")], none⟩ := by decide +kernel
theorem ef_rm18 (m : MethodId) (x0 : Addr) (x1 : Addr) : entryFrame m #[(.ref x0), (.ref x1)] 2 = mkF m 0 #[.val (.ref x0), .val (.ref x1)] [] := by first | (simp [entryFrame, mkF, argsToLocals, Value.category, maxLocals]; done) | rfl
def Q18 (Z : State) (a p1 : Addr) (h0 : Heap) (n0 : Nat) (v : Option Value) (h : Heap) (L : List Loc) : Prop := v = none ∧ Fr n0 L ∧ Keep h0 h [a] ∧ Exa Z h a "java/util/Collections$UnmodifiableRandomAccessList" ∧ Fld Z h a "java/util/Collections$UnmodifiableCollection" "c" "Ljava/util/Collection;" (.ref p1) ∧ Fld Z h a "java/util/Collections$UnmodifiableList" "list" "Ljava/util/List;" (.ref p1)
set_option maxRecDepth 65536 in
set_option maxHeartbeats 40000000 in
theorem rm18 (l : Launch) (Z : State) (a0 : Array Value) (hw : ∀ d ∈ tables_1, d.before a0 Z = true) (ws : List Jvm.Cond) (a p1 : Addr) (h0 : Heap) (n0 : Nat) (Z0 : n0 ≤ h0.size) (EX : Exa Z h0 a "java/util/Collections$UnmodifiableRandomAccessList") (ge : n0 ≤ a) (F_c : Fld Z h0 a "java/util/Collections$UnmodifiableCollection" "c" "Ljava/util/Collection;" .null) (F_list : Fld Z h0 a "java/util/Collections$UnmodifiableList" "list" "Ljava/util/List;" .null) :
    MetFree l (⟨"java/util/Collections$UnmodifiableRandomAccessList", "<init>", "(Ljava/util/List;)V"⟩ : MethodName) (head1 (Jvm.Cond.code (⟨"java/util/Collections$UnmodifiableRandomAccessList", "<init>", "(Ljava/util/List;)V"⟩ : MethodName) jdk_121_method_1_code 2 none :: ws) ({ frames := 3, cells := 0, slots := 0, locals := 38 } : Room)) (fun ar U => ar = #[(.ref a), (.ref p1)] ∧ Z.Warmed39 U.vm ∧ U.heap = h0) (fun _ _ _ _ _ => True) (fun _ U o U' => ∃ v L, o = .returned v ∧ Q18 Z a p1 h0 n0 v U'.heap L ∧ FrameEnd U o U' L ({ frames := 3, cells := 0, slots := 0, locals := 38 } : Room).cells ({ frames := 3, cells := 0, slots := 0, locals := 38 } : Room).slots) := by
  refine MetFree.of_bodySF (plainFor_of_name pn_java_util_Collections_UnmodifiableRandomAccessList) hisR ?_
  intro p e s m args below meth c s₁ Bd hml0 hP hK
  obtain ⟨rfl, hZ, hh⟩ := hP
  have hx := Bd.exec
  have hby := Bd.bytes
  have hml : c.maxLocals = 2 := hml0
  have hown : s.vm.findClass "java/util/Collections$UnmodifiableRandomAccessList" = some m.cls := findClass_of_methodNamed Bd.named
  have hnm := (name_of_methodNamed Bd.named Bd.method).1
  have X0 : Stand p l e ({ frames := 3, cells := 0, slots := 0, locals := 38 } : Room) s m #[(.ref a), (.ref p1)] below meth c s₁ [] 0 0 := Stand.of_body Bd
  have e0 : s₁.heap = h0 := by rw [← hh, Bd.state]; rfl
  have N0 := Fr.nil n0
  obtain ⟨F, hF⟩ : ∃ F, F = own_Fin s (Q18 Z a p1 h0 n0) ({ frames := 3, cells := 0, slots := 0, locals := 38 } : Room).cells ({ frames := 3, cells := 0, slots := 0, locals := 38 } : Room).slots := ⟨_, rfl⟩
  show own_Ends p e below (own_Fin s (Q18 Z a p1 h0 n0) ({ frames := 3, cells := 0, slots := 0, locals := 38 } : Room).cells ({ frames := 3, cells := 0, slots := 0, locals := 38 } : Room).slots) _
  rw [← hF, ef_rm18 m a p1]
  show own_Ends p e below F (s₁.setTop (mkF m 0 #[.val (.ref a), .val (.ref p1)] []))
  refine own_step (fun _ k => XS.aloadN X0.here hx rfl (hb hby d18_0) rfl rfl k) ?_
  show own_Ends p e below F (s₁.setTop (mkF m 1 #[.val (.ref a), .val (.ref p1)] [(.ref a)]))
  refine own_step (fun _ k => XS.aloadN X0.here hx rfl (hb hby d18_1) rfl rfl k) ?_
  show own_Ends p e below F (s₁.setTop (mkF m 2 #[.val (.ref a), .val (.ref p1)] [(.ref p1), (.ref a)]))
  obtain ⟨_, _, ⟨T1, L1, k1, n1⟩, -, X1, ⟨Lc1, hQ1, l1, y1, z1⟩, st1⟩ := X0.specialBack hx (y := (⟨"java/util/Collections$UnmodifiableList", "<init>", "(Ljava/util/List;)V"⟩ : MethodName)) rfl hown (mvT hZ (own_g hw 128 rfl)) (mvT hZ (own_g hw 129 rfl)) (mvT hZ (own_g hw 133 rfl)) (by decide) (backOf (W := 0) (rm19 l Z a0 hw [] a p1 h0 n0 Z0 EX ge F_c F_list) hZ (own_g hw 133 rfl) (own_g hw 132 rfl) (by decide) (by decide)) (g := (mkF m 2 #[.val (.ref a), .val (.ref p1)] [(.ref p1), (.ref a)])) rfl (by rw [hml]; rfl) (Steps.refl _) (a := a) (argsL := [(.ref p1)]) (rest := []) (lenOf pd__28Ljava_2futil_2fList_3b_29V rfl) rfl (by show 2 * 0 + _ ≤ _; exact Nat.le_of_eq rfl) (hb hby d18_2) (fun _ _ => ⟨rfl, e0, (by decide : 0 + 0 ≤ _), (by decide : 0 + 0 ≤ _)⟩)
  dsimp only [Pt.U, Pt.locs, Pt.cells, Pt.slots] at X1 l1 y1 z1 st1 hQ1
  subst l1 y1 z1
  obtain ⟨rfl, Nq1, Kq1, fq0_1, fq1_1, fq2_1⟩ := hQ1
  have N1 := Fr.app N0 Nq1
  have Z1 : n0 ≤ T1.heap.size := Nat.le_trans Z0 Kq1.1
  have SZ1 : h0.size ≤ T1.heap.size := Nat.le_trans (Nat.le_refl h0.size) Kq1.1
  refine own_trans st1 ?_
  show own_Ends p e below F (T1.setTop (mkF m 5 #[.val (.ref a), .val (.ref p1)] []))
  rw [hF]
  exact own_ret X1 (v := none) (fun _ => rfl) Bd.notSynchronized (fun fs hr => X1.returnOut hx Bd.returns (hb hby d18_5) hr) (by decide) (by decide) (by exact ⟨rfl, N1, ((Keep.trans (Keep.refl _ _) Kq1 (allS (Or.inl (List.mem_of_getElem? (i := 0) rfl)) all0)) : Keep h0 T1.heap [a]), fq0_1, fq1_1, fq2_1⟩)

theorem d17_0 : decode jdk_79_method_35_code 0 = .ok (.aload_n 0, 1) := by decide +kernel
theorem d17_1 : decode jdk_79_method_35_code 1 = .ok (.invokeinterface 211 1, 5) := by decide +kernel
theorem d17_6 : decode jdk_79_method_35_code 6 = .ok (.ldc 212, 2) := by decide +kernel
theorem d17_8 : decode jdk_79_method_35_code 8 = .ok (.if_acmp .eq 14, 3) := by decide +kernel
theorem d17_11 : decode jdk_79_method_35_code 11 = .ok (.aload_n 0, 1) := by decide +kernel
theorem d17_12 : decode jdk_79_method_35_code 12 = .ok (.invokeinterface 214 1, 5) := by decide +kernel
theorem d17_17 : decode jdk_79_method_35_code 17 = .ok (.ldc 215, 2) := by decide +kernel
theorem d17_19 : decode jdk_79_method_35_code 19 = .ok (.if_acmp .ne 5, 3) := by decide +kernel
theorem d17_24 : decode jdk_79_method_35_code 24 = .ok (.aload_n 0, 1) := by decide +kernel
theorem d17_25 : decode jdk_79_method_35_code 25 = .ok (.instanceof 13, 3) := by decide +kernel
theorem d17_28 : decode jdk_79_method_35_code 28 = .ok (.ifCond .eq 14, 3) := by decide +kernel
theorem d17_31 : decode jdk_79_method_35_code 31 = .ok (.new 215, 3) := by decide +kernel
theorem d17_34 : decode jdk_79_method_35_code 34 = .ok (.dup, 1) := by decide +kernel
theorem d17_35 : decode jdk_79_method_35_code 35 = .ok (.aload_n 0, 1) := by decide +kernel
theorem d17_36 : decode jdk_79_method_35_code 36 = .ok (.invokespecial 217, 3) := by decide +kernel
theorem d17_39 : decode jdk_79_method_35_code 39 = .ok (.goto 11, 3) := by decide +kernel
theorem d17_50 : decode jdk_79_method_35_code 50 = .ok (.areturn, 1) := by decide +kernel
theorem pn_java_util_Collections : plainName "java/util/Collections" = true := by first | (simp [plainName, overriddenIn]; done) | decide +kernel
theorem ef_rm17 (m : MethodId) (x0 : Addr) : entryFrame m #[(.ref x0)] 1 = mkF m 0 #[.val (.ref x0)] [] := by first | (simp [entryFrame, mkF, argsToLocals, Value.category, maxLocals]; done) | rfl
def Q17 (Z : State) (b ma mu mv : Addr) (h0 : Heap) (n0 : Nat) (v : Option Value) (h : Heap) (L : List Loc) : Prop := ∃ c, v = some (.ref c) ∧ Fr n0 L ∧ Keep h0 h []
set_option maxRecDepth 65536 in
set_option maxHeartbeats 40000000 in
theorem rm17 (l : Launch) (Z : State) (a0 : Array Value) (hw : ∀ d ∈ tables_1, d.before a0 Z = true) (ws : List Jvm.Cond) (b ma mu mv : Addr) (h0 : Heap) (n0 : Nat) (Z0 : n0 ≤ h0.size) (EB : Exa Z h0 b "java/util/ArrayList") (M_ma : Mir Z "java/util/ArrayList" ma) (M_mu : Mir Z "java/util/Collections$UnmodifiableList" mu) (M_mv : Mir Z "java/util/Collections$UnmodifiableRandomAccessList" mv) :
    MetFree l (⟨"java/util/Collections", "unmodifiableList", "(Ljava/util/List;)Ljava/util/List;"⟩ : MethodName) (head1 (Jvm.Cond.code (⟨"java/util/Collections", "unmodifiableList", "(Ljava/util/List;)Ljava/util/List;"⟩ : MethodName) jdk_79_method_35_code 1 (some (.object "java/util/List")) :: ws) ({ frames := 4, cells := 1, slots := 2, locals := 52 } : Room)) (fun ar U => ar = #[(.ref b)] ∧ Z.Warmed39 U.vm ∧ U.heap = h0) (fun _ _ _ _ _ => True) (fun _ U o U' => ∃ v L, o = .returned v ∧ Q17 Z b ma mu mv h0 n0 v U'.heap L ∧ FrameEnd U o U' L ({ frames := 4, cells := 1, slots := 2, locals := 52 } : Room).cells ({ frames := 4, cells := 1, slots := 2, locals := 52 } : Room).slots) := by
  refine MetFree.of_bodySF (plainFor_of_name pn_java_util_Collections) hisR ?_
  intro p e s m args below meth c s₁ Bd hml0 hP hK
  obtain ⟨rfl, hZ, hh⟩ := hP
  have hx := Bd.exec
  have hby := Bd.bytes
  have hml : c.maxLocals = 1 := hml0
  have hown : s.vm.findClass "java/util/Collections" = some m.cls := findClass_of_methodNamed Bd.named
  have hnm := (name_of_methodNamed Bd.named Bd.method).1
  have X0 : Stand p l e ({ frames := 4, cells := 1, slots := 2, locals := 52 } : Room) s m #[(.ref b)] below meth c s₁ [] 0 0 := Stand.of_body Bd
  have e0 : s₁.heap = h0 := by rw [← hh, Bd.state]; rfl
  have N0 := Fr.nil n0
  obtain ⟨F, hF⟩ : ∃ F, F = own_Fin s (Q17 Z b ma mu mv h0 n0) ({ frames := 4, cells := 1, slots := 2, locals := 52 } : Room).cells ({ frames := 4, cells := 1, slots := 2, locals := 52 } : Room).slots := ⟨_, rfl⟩
  show own_Ends p e below (own_Fin s (Q17 Z b ma mu mv h0 n0) ({ frames := 4, cells := 1, slots := 2, locals := 52 } : Room).cells ({ frames := 4, cells := 1, slots := 2, locals := 52 } : Room).slots) _
  rw [← hF, ef_rm17 m b]
  show own_Ends p e below F (s₁.setTop (mkF m 0 #[.val (.ref b)] []))
  refine own_step (fun _ k => XS.aloadN X0.here hx rfl (hb hby d17_0) rfl rfl k) ?_
  show own_Ends p e below F (s₁.setTop (mkF m 1 #[.val (.ref b)] [(.ref b)]))
  obtain ⟨T1, X1, e1, st1⟩ := own_gcI X0 hx hZ (xi := (⟨"java/util/List", "getClass", "()Ljava/lang/Class;"⟩ : MethodName)) hown (own_g hw 109 rfl) (own_g hw 85 rfl) (own_g hw 110 rfl) (own_g hw 111 rfl) (own_g hw 86 rfl) (own_g hw 112 rfl) (own_g hw 113 rfl) (own_g hw 114 rfl) (own_g hw 88 rfl) (by decide) (by decide) rfl rfl e0 EB M_ma (g := (mkF m 1 #[.val (.ref b)] [(.ref b)])) rfl (by rw [hml]; rfl) (rest := []) rfl (hb hby d17_1) (by decide) (W := 0) (by show 2 * 0 + _ ≤ _; exact Nat.le_of_eq rfl) (by decide)
  refine own_step st1 ?_
  show own_Ends p e below F (T1.setTop (mkF m 6 #[.val (.ref b)] [(.ref ma)]))
  obtain ⟨T2, X2, e2, st2⟩ := own_ldcM X1 hx hZ hown (own_g hw 116 rfl) e1 M_mu (g := (mkF m 6 #[.val (.ref b)] [(.ref ma)])) rfl (hb hby d17_6)
  refine own_step st2 ?_
  show own_Ends p e below F (T2.setTop (mkF m 8 #[.val (.ref b)] [(.ref mu), (.ref ma)]))
  refine own_step (fun _ k => Jvm.RoadKit.acmp (below := below) (g := (mkF m 8 #[.val (.ref b)] [(.ref mu), (.ref ma)])) X2 hx rfl rfl rfl (pc0 := 8) (pc' := 11) (same := false) rfl (hb hby d17_8) rfl (decide_eq_false fun q => Mir.ne M_ma M_mu (by decide) (Value.ref.inj q)) (by decide) (by decide) k) ?_
  show own_Ends p e below F (T2.setTop (mkF m 11 #[.val (.ref b)] []))
  refine own_step (fun _ k => XS.aloadN X2.here hx rfl (hb hby d17_11) rfl rfl k) ?_
  show own_Ends p e below F (T2.setTop (mkF m 12 #[.val (.ref b)] [(.ref b)]))
  obtain ⟨T3, X3, e3, st3⟩ := own_gcI X2 hx hZ (xi := (⟨"java/util/List", "getClass", "()Ljava/lang/Class;"⟩ : MethodName)) hown (own_g hw 118 rfl) (own_g hw 85 rfl) (own_g hw 110 rfl) (own_g hw 111 rfl) (own_g hw 86 rfl) (own_g hw 112 rfl) (own_g hw 113 rfl) (own_g hw 114 rfl) (own_g hw 88 rfl) (by decide) (by decide) rfl rfl e2 EB M_ma (g := (mkF m 12 #[.val (.ref b)] [(.ref b)])) rfl (by rw [hml]; rfl) (rest := []) rfl (hb hby d17_12) (by decide) (W := 0) (by show 2 * 0 + _ ≤ _; exact Nat.le_of_eq rfl) (by decide)
  refine own_step st3 ?_
  show own_Ends p e below F (T3.setTop (mkF m 17 #[.val (.ref b)] [(.ref ma)]))
  obtain ⟨T4, X4, e4, st4⟩ := own_ldcM X3 hx hZ hown (own_g hw 119 rfl) e3 M_mv (g := (mkF m 17 #[.val (.ref b)] [(.ref ma)])) rfl (hb hby d17_17)
  refine own_step st4 ?_
  show own_Ends p e below F (T4.setTop (mkF m 19 #[.val (.ref b)] [(.ref mv), (.ref ma)]))
  refine own_step (fun _ k => Jvm.RoadKit.acmp (below := below) (g := (mkF m 19 #[.val (.ref b)] [(.ref mv), (.ref ma)])) X4 hx rfl rfl rfl (pc0 := 19) (pc' := 24) (same := false) rfl (hb hby d17_19) rfl (decide_eq_false fun q => Mir.ne M_ma M_mv (by decide) (Value.ref.inj q)) (by decide) (by decide) k) ?_
  show own_Ends p e below F (T4.setTop (mkF m 24 #[.val (.ref b)] []))
  refine own_step (fun _ k => XS.aloadN X4.here hx rfl (hb hby d17_24) rfl rfl k) ?_
  show own_Ends p e below F (T4.setTop (mkF m 25 #[.val (.ref b)] [(.ref b)]))
  obtain ⟨T5, X5, e5, st5⟩ := instY X4 hx hZ hown (own_g hw 121 rfl) e4 (Ins.of_exa EB (own_g hw 122 rfl)) (g := (mkF m 25 #[.val (.ref b)] [(.ref b)])) rfl rfl (hb hby d17_25)
  refine own_step st5 ?_
  show own_Ends p e below F (T5.setTop (mkF m 28 #[.val (.ref b)] [(.int (1 : Int32))]))
  refine own_step (fun _ k => XS.ifNo X5.here hx rfl (hb hby d17_28) rfl ((if0 _ _).trans (feq (by decide : ¬ ((1 : Int32) = (0 : Int32)))).1) k) ?_
  show own_Ends p e below F (T5.setTop (mkF m 31 #[.val (.ref b)] []))
  obtain ⟨T6, h6, X6, e6, E6, A6, D6, -, st6⟩ := newO X5 hx hZ hown (own_g hw 119 rfl) (own_g hw 123 rfl) (own_g hw 124 rfl) e5 (g := (mkF m 31 #[.val (.ref b)] [])) rfl (hb hby d17_31) (by decide) (by decide)
  obtain ⟨a6, g6⟩ : ∃ z, z = h0.size := ⟨_, rfl⟩
  rw [← g6] at A6 D6 st6
  have ge_a6 : n0 ≤ a6 := Nat.le_trans Z0 (Nat.le_of_eq g6.symm)
  have sz_a6 : h0.size ≤ a6 := Nat.le_trans (Nat.le_refl h0.size) (Nat.le_of_eq g6.symm)
  have ne_b_a6 : b ≠ a6 := Nat.ne_of_lt (by rw [g6]; exact EB.lt)
  have Z6 : n0 ≤ h6.size := Nat.le_trans Z0 E6.1
  have SZ6 : h0.size ≤ h6.size := Nat.le_trans (Nat.le_refl h0.size) E6.1
  have F6_c : Fld Z h6 a6 "java/util/Collections$UnmodifiableCollection" "c" "Ljava/util/Collection;" .null := D6 (Or.inr (own_g hw 142 rfl)) (ty := (.object "java/util/Collection")) (by decide)
  have F6_list : Fld Z h6 a6 "java/util/Collections$UnmodifiableList" "list" "Ljava/util/List;" .null := D6 (Or.inr (own_g hw 144 rfl)) (ty := (.object "java/util/List")) (by decide)
  refine own_step st6 ?_
  show own_Ends p e below F (T6.setTop (mkF m 34 #[.val (.ref b)] [(.ref a6)]))
  refine own_step (fun _ k => XS.dup X6.here hx rfl (hb hby d17_34) rfl rfl k) ?_
  show own_Ends p e below F (T6.setTop (mkF m 35 #[.val (.ref b)] [(.ref a6), (.ref a6)]))
  refine own_step (fun _ k => XS.aloadN X6.here hx rfl (hb hby d17_35) rfl rfl k) ?_
  show own_Ends p e below F (T6.setTop (mkF m 36 #[.val (.ref b)] [(.ref b), (.ref a6), (.ref a6)]))
  obtain ⟨_, _, ⟨T7, L7, k7, n7⟩, -, X7, ⟨Lc7, hQ7, l7, y7, z7⟩, st7⟩ := X6.specialBack hx (y := (⟨"java/util/Collections$UnmodifiableRandomAccessList", "<init>", "(Ljava/util/List;)V"⟩ : MethodName)) rfl hown (mvT hZ (own_g hw 125 rfl)) (mvT hZ (own_g hw 126 rfl)) (mvT hZ (own_g hw 127 rfl)) (by decide) (backOf (W := 1) (rm18 l Z a0 hw [] a6 b h6 n0 Z6 A6 ge_a6 F6_c F6_list) hZ (own_g hw 127 rfl) (own_g hw 124 rfl) (by decide) (by decide)) (g := (mkF m 36 #[.val (.ref b)] [(.ref b), (.ref a6), (.ref a6)])) rfl (by rw [hml]; rfl) (Steps.refl _) (a := a6) (argsL := [(.ref b)]) (rest := [(.ref a6)]) (lenOf pd__28Ljava_2futil_2fList_3b_29V rfl) rfl (by show 2 * 0 + _ ≤ _; exact Nat.le_of_eq rfl) (hb hby d17_36) (fun _ _ => ⟨rfl, e6, (by decide : 1 + 0 ≤ _), (by decide : 2 + 0 ≤ _)⟩)
  dsimp only [Pt.U, Pt.locs, Pt.cells, Pt.slots] at X7 l7 y7 z7 st7 hQ7
  subst l7 y7 z7
  obtain ⟨rfl, Nq7, Kq7, fq0_7, fq1_7, fq2_7⟩ := hQ7
  have N7 := Fr.app N0 Nq7
  have Z7 : n0 ≤ T7.heap.size := Nat.le_trans Z6 Kq7.1
  have SZ7 : h0.size ≤ T7.heap.size := Nat.le_trans SZ6 Kq7.1
  refine own_trans st7 ?_
  show own_Ends p e below F (T7.setTop (mkF m 39 #[.val (.ref b)] [(.ref a6)]))
  refine own_step (fun _ k => XS.goto X7.here hx rfl (pc0 := 39) (pc' := 50) rfl (hb hby d17_39) (by decide) (by decide) k) ?_
  show own_Ends p e below F (T7.setTop (mkF m 50 #[.val (.ref b)] [(.ref a6)]))
  rw [hF]
  exact own_ret X7 (v := (some (.ref a6))) (fun h => by rw [Bd.returns] at h; cases h) Bd.notSynchronized (fun fs hr => retOut X7 hx (t := (.object "java/util/List")) (w := (.ref a6)) (i := .areturn) Bd.returns rfl (Or.inr (Or.inr (Or.inr (Or.inr ⟨rfl, rfl, rfl⟩)))) (hb hby d17_50) hr) (by decide) (by decide) (by exact ⟨_, rfl, N7, ((Keep.trans (Keep.ext (Keep.refl _ _) E6) Kq7 (allS (Or.inr sz_a6) all0)) : Keep h0 T7.heap [])⟩)

theorem d11_0 : decode prog_39_method_1_code 0 = .ok (.aload_n 0, 1) := by decide +kernel
theorem d11_1 : decode prog_39_method_1_code 1 = .ok (.invokespecial 1, 3) := by decide +kernel
theorem d11_4 : decode prog_39_method_1_code 4 = .ok (.aload_n 0, 1) := by decide +kernel
theorem d11_5 : decode prog_39_method_1_code 5 = .ok (.new 7, 3) := by decide +kernel
theorem d11_8 : decode prog_39_method_1_code 8 = .ok (.dup, 1) := by decide +kernel
theorem d11_9 : decode prog_39_method_1_code 9 = .ok (.aload_n 1, 1) := by decide +kernel
theorem d11_10 : decode prog_39_method_1_code 10 = .ok (.invokespecial 9, 3) := by decide +kernel
theorem d11_13 : decode prog_39_method_1_code 13 = .ok (.invokestatic 12, 3) := by decide +kernel
theorem d11_16 : decode prog_39_method_1_code 16 = .ok (.putfield 18, 3) := by decide +kernel
theorem d11_19 : decode prog_39_method_1_code 19 = .ok (.aload_n 0, 1) := by decide +kernel
theorem d11_20 : decode prog_39_method_1_code 20 = .ok (.aload_n 2, 1) := by decide +kernel
theorem d11_21 : decode prog_39_method_1_code 21 = .ok (.putfield 24, 3) := by decide +kernel
theorem d11_24 : decode prog_39_method_1_code 24 = .ok (.aload_n 0, 1) := by decide +kernel
theorem d11_25 : decode prog_39_method_1_code 25 = .ok (.aload_n 3, 1) := by decide +kernel
theorem d11_26 : decode prog_39_method_1_code 26 = .ok (.putfield 28, 3) := by decide +kernel
theorem d11_29 : decode prog_39_method_1_code 29 = .ok (.return_, 1) := by decide +kernel
theorem pn_com_example_greater_than_greaterthan_page_Page : plainName "com/example/greater_than/greaterthan/page/Page" = true := by first | (simp [plainName, overriddenIn]; done) | decide +kernel
theorem pd__28Ljava_2futil_2fList_3b_29Ljava_2futil_2fList_3b : parseMethodDescriptor "(Ljava/util/List;)Ljava/util/List;" = some ⟨[(.object "java/util/List")], some (.object "java/util/List")⟩ := by decide +kernel
theorem ef_rm11_0 (m : MethodId) (x0 : Addr) (x1 : Addr) (x2 : Value) (x3 : Value) (c2 : Value.category x2 = 1) (c3 : Value.category x3 = 1) : entryFrame m #[(.ref x0), (.ref x1), x2, x3] 4 = mkF m 0 #[.val (.ref x0), .val (.ref x1), .val x2, .val x3] [] := by exact own_efl m [_, _, _, _] 4 (by intro v hv; simp only [List.mem_cons, List.not_mem_nil, or_false] at hv; rcases hv with rfl | rfl | rfl | rfl <;> first | rfl | assumption) rfl
def Q11_0 (Z : State) (a bl b : Addr) (kb : ClassId) (u1 u2 : Value) (ee ma mu mv mo : Addr) (h0 : Heap) (n0 : Nat) (v : Option Value) (h : Heap) (L : List Loc) : Prop := v = none ∧ Fr n0 L ∧ Keep h0 h [a] ∧ Exa Z h a "com/example/greater_than/greaterthan/page/Page" ∧ Fld Z h a "com/example/greater_than/greaterthan/page/Page" "previousCursor" "Ljava/lang/String;" u1 ∧ Fld Z h a "com/example/greater_than/greaterthan/page/Page" "nextCursor" "Ljava/lang/String;" u2
set_option maxRecDepth 65536 in
set_option maxHeartbeats 40000000 in
theorem rm11_0 (l : Launch) (Z : State) (a0 : Array Value) (hw : ∀ d ∈ tables_1, d.before a0 Z = true) (ws : List Jvm.Cond) (a bl b : Addr) (kb : ClassId) (u1 u2 : Value) (ee ma mu mv mo : Addr) (h0 : Heap) (n0 : Nat) (Z0 : n0 ≤ h0.size) (EX : Exa Z h0 a "com/example/greater_than/greaterthan/page/Page") (ge : n0 ≤ a) (F_rows : Fld Z h0 a "com/example/greater_than/greaterthan/page/Page" "rows" "Ljava/util/List;" .null) (F_previousCursor : Fld Z h0 a "com/example/greater_than/greaterthan/page/Page" "previousCursor" "Ljava/lang/String;" .null) (F_nextCursor : Fld Z h0 a "com/example/greater_than/greaterthan/page/Page" "nextCursor" "Ljava/lang/String;" .null) (VB : Arv Z h0 b kb (.object "java/lang/Object") (0 : Int32) [] .null) (XB : Exa Z h0 b "[Ljava/lang/Object;") (EL : Exa Z h0 bl "java/util/ArrayList") (FE : Fld Z h0 bl "java/util/ArrayList" "elementData" "[Ljava/lang/Object;" (.ref b)) (FZ : Fld Z h0 bl "java/util/ArrayList" "size" "I" (.int (0 : Int32))) (SE : Sta Z h0 "java/util/ArrayList" "EMPTY_ELEMENTDATA" "[Ljava/lang/Object;" (.ref ee)) (M_ma : Mir Z "java/util/ArrayList" ma) (M_mu : Mir Z "java/util/Collections$UnmodifiableList" mu) (M_mv : Mir Z "java/util/Collections$UnmodifiableRandomAccessList" mv) (M_mo : Mir Z "[Ljava/lang/Object;" mo) (r1 : u1.isRef = true) (r2 : u2.isRef = true) :
    MetFree l (⟨"com/example/greater_than/greaterthan/page/Page", "<init>", "(Ljava/util/List;Ljava/lang/String;Ljava/lang/String;)V"⟩ : MethodName) (head1 (Jvm.Cond.code (⟨"com/example/greater_than/greaterthan/page/Page", "<init>", "(Ljava/util/List;Ljava/lang/String;Ljava/lang/String;)V"⟩ : MethodName) prog_39_method_1_code 4 none :: ws) ({ frames := 5, cells := 3, slots := 5, locals := 74 } : Room)) (fun ar U => ar = #[(.ref a), (.ref bl), u1, u2] ∧ Z.Warmed39 U.vm ∧ U.heap = h0) (fun _ _ _ _ _ => True) (fun _ U o U' => ∃ v L, o = .returned v ∧ Q11_0 Z a bl b kb u1 u2 ee ma mu mv mo h0 n0 v U'.heap L ∧ FrameEnd U o U' L ({ frames := 5, cells := 3, slots := 5, locals := 74 } : Room).cells ({ frames := 5, cells := 3, slots := 5, locals := 74 } : Room).slots) := by
  refine MetFree.of_bodySF (plainFor_of_name pn_com_example_greater_than_greaterthan_page_Page) hisR ?_
  intro p e s m args below meth c s₁ Bd hml0 hP hK
  obtain ⟨rfl, hZ, hh⟩ := hP
  have hx := Bd.exec
  have hby := Bd.bytes
  have hml : c.maxLocals = 4 := hml0
  have hown : s.vm.findClass "com/example/greater_than/greaterthan/page/Page" = some m.cls := findClass_of_methodNamed Bd.named
  have hnm := (name_of_methodNamed Bd.named Bd.method).1
  have X0 : Stand p l e ({ frames := 5, cells := 3, slots := 5, locals := 74 } : Room) s m #[(.ref a), (.ref bl), u1, u2] below meth c s₁ [] 0 0 := Stand.of_body Bd
  have e0 : s₁.heap = h0 := by rw [← hh, Bd.state]; rfl
  have N0 := Fr.nil n0
  obtain ⟨F, hF⟩ : ∃ F, F = own_Fin s (Q11_0 Z a bl b kb u1 u2 ee ma mu mv mo h0 n0) ({ frames := 5, cells := 3, slots := 5, locals := 74 } : Room).cells ({ frames := 5, cells := 3, slots := 5, locals := 74 } : Room).slots := ⟨_, rfl⟩
  show own_Ends p e below (own_Fin s (Q11_0 Z a bl b kb u1 u2 ee ma mu mv mo h0 n0) ({ frames := 5, cells := 3, slots := 5, locals := 74 } : Room).cells ({ frames := 5, cells := 3, slots := 5, locals := 74 } : Room).slots) _
  rw [← hF, ef_rm11_0 m a bl u1 u2 (own_catR r1) (own_catR r2)]
  show own_Ends p e below F (s₁.setTop (mkF m 0 #[.val (.ref a), .val (.ref bl), .val u1, .val u2] []))
  refine own_step (fun _ k => XS.aloadN X0.here hx rfl (hb hby d11_0) rfl rfl k) ?_
  show own_Ends p e below F (s₁.setTop (mkF m 1 #[.val (.ref a), .val (.ref bl), .val u1, .val u2] [(.ref a)]))
  obtain ⟨T1, X1, e1, st1⟩ := initO X0 hx hZ hown (own_g hw 64 rfl) (own_g hw 19 rfl) (own_g hw 20 rfl) e0 (g := (mkF m 1 #[.val (.ref a), .val (.ref bl), .val u1, .val u2] [(.ref a)])) rfl (by rw [hml]; rfl) rfl (hb hby d11_1) (by decide) (W := 0) (by show 2 * 0 + _ ≤ _; exact Nat.le_of_eq rfl) (by decide)
  refine own_step st1 ?_
  show own_Ends p e below F (T1.setTop (mkF m 4 #[.val (.ref a), .val (.ref bl), .val u1, .val u2] []))
  refine own_step (fun _ k => XS.aloadN X1.here hx rfl (hb hby d11_4) rfl rfl k) ?_
  show own_Ends p e below F (T1.setTop (mkF m 5 #[.val (.ref a), .val (.ref bl), .val u1, .val u2] [(.ref a)]))
  obtain ⟨T2, h2, X2, e2, E2, A2, D2, -, st2⟩ := newO X1 hx hZ hown (own_g hw 65 rfl) (own_g hw 1 rfl) (own_g hw 2 rfl) e1 (g := (mkF m 5 #[.val (.ref a), .val (.ref bl), .val u1, .val u2] [(.ref a)])) rfl (hb hby d11_5) (by decide) (by decide)
  obtain ⟨a2, g2⟩ : ∃ z, z = h0.size := ⟨_, rfl⟩
  rw [← g2] at A2 D2 st2
  have ge_a2 : n0 ≤ a2 := Nat.le_trans Z0 (Nat.le_of_eq g2.symm)
  have sz_a2 : h0.size ≤ a2 := Nat.le_trans (Nat.le_refl h0.size) (Nat.le_of_eq g2.symm)
  have ne_a_a2 : a ≠ a2 := Nat.ne_of_lt (by rw [g2]; exact EX.lt)
  have ne_b_a2 : b ≠ a2 := Nat.ne_of_lt (by rw [g2]; exact VB.lt)
  have ne_bl_a2 : bl ≠ a2 := Nat.ne_of_lt (by rw [g2]; exact EL.lt)
  have Z2 : n0 ≤ h2.size := Nat.le_trans Z0 E2.1
  have SZ2 : h0.size ≤ h2.size := Nat.le_trans (Nat.le_refl h0.size) E2.1
  have F2_modCount : Fld Z h2 a2 "java/util/AbstractList" "modCount" "I" (.int (0 : Int32)) := D2 (Or.inl (own_g hw 22 rfl)) (ty := .int) (by decide)
  have F2_elementData : Fld Z h2 a2 "java/util/ArrayList" "elementData" "[Ljava/lang/Object;" .null := D2 (Or.inl (own_g hw 25 rfl)) (ty := (.array (.object "java/lang/Object"))) (by decide)
  have F2_size : Fld Z h2 a2 "java/util/ArrayList" "size" "I" (.int (0 : Int32)) := D2 (Or.inl (own_g hw 79 rfl)) (ty := .int) (by decide)
  refine own_step st2 ?_
  show own_Ends p e below F (T2.setTop (mkF m 8 #[.val (.ref a), .val (.ref bl), .val u1, .val u2] [(.ref a2), (.ref a)]))
  refine own_step (fun _ k => XS.dup X2.here hx rfl (hb hby d11_8) rfl rfl k) ?_
  show own_Ends p e below F (T2.setTop (mkF m 9 #[.val (.ref a), .val (.ref bl), .val u1, .val u2] [(.ref a2), (.ref a2), (.ref a)]))
  refine own_step (fun _ k => XS.aloadN X2.here hx rfl (hb hby d11_9) rfl rfl k) ?_
  show own_Ends p e below F (T2.setTop (mkF m 10 #[.val (.ref a), .val (.ref bl), .val u1, .val u2] [(.ref bl), (.ref a2), (.ref a2), (.ref a)]))
  obtain ⟨_, _, ⟨T3, L3, k3, n3⟩, -, X3, ⟨Lc3, hQ3, l3, y3, z3⟩, st3⟩ := X2.specialBack hx (y := (⟨"java/util/ArrayList", "<init>", "(Ljava/util/Collection;)V"⟩ : MethodName)) rfl hown (mvT hZ (own_g hw 66 rfl)) (mvT hZ (own_g hw 67 rfl)) (mvT hZ (own_g hw 68 rfl)) (by decide) (backOf (W := 2) (rm12_0 l Z a0 hw [] a2 bl b kb  mo ee ma h2 n0 Z2 A2 ge_a2 F2_modCount F2_elementData F2_size (VB.ext E2) (XB.ext E2) M_mo (EL.ext E2) (FE.ext E2) (FZ.ext E2) (Sta.ext E2 SE) M_ma (Ne.symm ne_bl_a2) (Ne.symm ne_b_a2)) hZ (own_g hw 68 rfl) (own_g hw 2 rfl) (by decide) (by decide)) (g := (mkF m 10 #[.val (.ref a), .val (.ref bl), .val u1, .val u2] [(.ref bl), (.ref a2), (.ref a2), (.ref a)])) rfl (by rw [hml]; rfl) (Steps.refl _) (a := a2) (argsL := [(.ref bl)]) (rest := [(.ref a2), (.ref a)]) (lenOf pd__28Ljava_2futil_2fCollection_3b_29V rfl) rfl (by show 2 * 0 + _ ≤ _; exact Nat.le_of_eq rfl) (hb hby d11_10) (fun _ _ => ⟨rfl, e2, (by decide : 1 + 1 ≤ _), (by decide : 3 + 0 ≤ _)⟩)
  dsimp only [Pt.U, Pt.locs, Pt.cells, Pt.slots] at X3 l3 y3 z3 st3 hQ3
  subst l3 y3 z3
  obtain ⟨rfl, Nq3, Kq3, fq0_3⟩ := hQ3
  have N3 := Fr.app N0 Nq3
  have Z3 : n0 ≤ T3.heap.size := Nat.le_trans Z2 Kq3.1
  have SZ3 : h0.size ≤ T3.heap.size := Nat.le_trans SZ2 Kq3.1
  have S0_3 := own_Sta_keep (Sta.ext E2 SE) Kq3 (allS (own_ns_exa A2) all0)
  refine own_trans st3 ?_
  show own_Ends p e below F (T3.setTop (mkF m 13 #[.val (.ref a), .val (.ref bl), .val u1, .val u2] [(.ref a2), (.ref a)]))
  obtain ⟨_, _, ⟨T4, L4, k4, n4⟩, -, X4, ⟨Lc4, hQ4, l4, y4, z4⟩, st4⟩ := Jvm.LawKit.callS X3 hx (y := (⟨"java/util/Collections", "unmodifiableList", "(Ljava/util/List;)Ljava/util/List;"⟩ : MethodName)) hown (mvT hZ (own_g hw 105 rfl)) (mvT hZ (own_g hw 106 rfl)) (mvT hZ (own_g hw 107 rfl)) (mvT hZ (own_g hw 108 rfl)) (by decide) (backOf (W := 1) (rm17 l Z a0 hw [] a2 ma mu mv T3.heap n0 Z3 fq0_3 M_ma M_mu M_mv) hZ (own_g hw 108 rfl) (own_g hw 107 rfl) (by decide) (by decide)) (g := (mkF m 13 #[.val (.ref a), .val (.ref bl), .val u1, .val u2] [(.ref a2), (.ref a)])) rfl (by rw [hml]; rfl) (argsL := [(.ref a2)]) (rest := [(.ref a)]) (lenOf pd__28Ljava_2futil_2fList_3b_29Ljava_2futil_2fList_3b rfl) rfl (by show 2 * 0 + _ ≤ _; exact Nat.le_of_eq rfl) (hb hby d11_13) (fun _ _ => ⟨rfl, rfl, (by decide : 2 + 1 ≤ _), (by decide : 3 + 2 ≤ _)⟩)
  dsimp only [Pt.U, Pt.locs, Pt.cells, Pt.slots] at X4 l4 y4 z4 st4 hQ4
  subst l4 y4 z4
  obtain ⟨c4, rfl, Nq4, Kq4⟩ := hQ4
  have N4 := Fr.app N3 Nq4
  have Z4 : n0 ≤ T4.heap.size := Nat.le_trans Z3 Kq4.1
  have SZ4 : h0.size ≤ T4.heap.size := Nat.le_trans SZ3 Kq4.1
  have S0_4 := own_Sta_keep S0_3 Kq4 all0
  refine own_step st4 ?_
  show own_Ends p e below F (T4.setTop (mkF m 16 #[.val (.ref a), .val (.ref bl), .val u1, .val u2] [(.ref c4), (.ref a)]))
  obtain ⟨T5, h5, X5, e5, W5, st5⟩ := putF X4 hx hZ hown (host := "") (Or.inl (own_g hw 145 rfl)) Via.refl rfl (((F_rows.ext E2).keep Kq3 (ninS ne_a_a2 nin0)).keep Kq4 nin0) (((EX.ext E2).keep Kq3).keep Kq4) (Or.inr ⟨(own_g hw 146 rfl), rfl, hnm⟩) (own_g hw 59 rfl) (ty := (.object "java/util/List")) (by decide) rfl rfl (g := (mkF m 16 #[.val (.ref a), .val (.ref bl), .val u1, .val u2] [(.ref c4), (.ref a)])) rfl rfl (hb hby d11_16)
  refine own_step st5 ?_
  have F5 := Fld.same W5 (((F_rows.ext E2).keep Kq3 (ninS ne_a_a2 nin0)).keep Kq4 nin0)
  have N5 := Fr.snoc X5 N4 ge
  have Z5 : n0 ≤ h5.size := by rw [W5.size]; exact Z4
  have SZ5 : h0.size ≤ h5.size := by rw [W5.size]; exact SZ4
  show own_Ends p e below F (T5.setTop (mkF m 19 #[.val (.ref a), .val (.ref bl), .val u1, .val u2] []))
  refine own_step (fun _ k => XS.aloadN X5.here hx rfl (hb hby d11_19) rfl rfl k) ?_
  show own_Ends p e below F (T5.setTop (mkF m 20 #[.val (.ref a), .val (.ref bl), .val u1, .val u2] [(.ref a)]))
  refine own_step (fun _ k => XS.aloadN X5.here hx rfl (hb hby d11_20) rfl r1 k) ?_
  show own_Ends p e below F (T5.setTop (mkF m 21 #[.val (.ref a), .val (.ref bl), .val u1, .val u2] [u1, (.ref a)]))
  obtain ⟨T6, h6, X6, e6, W6, st6⟩ := putF X5 hx hZ hown (host := "") (Or.inl (own_g hw 147 rfl)) Via.refl e5 (Fld.other W5 (((F_previousCursor.ext E2).keep Kq3 (ninS ne_a_a2 nin0)).keep Kq4 nin0) (Or.inr (slot_ne (t := (.object "java/lang/String")) (t' := (.object "java/util/List")) (Or.inr (own_g hw 148 rfl)) (Or.inr (own_g hw 146 rfl)) (by decide) (by decide) (by decide)))) ((((EX.ext E2).keep Kq3).keep Kq4).wr W5) (Or.inr ⟨(own_g hw 148 rfl), rfl, hnm⟩) (own_g hw 59 rfl) (ty := (.object "java/lang/String")) (by decide) (own_nvR r1) (own_fvR r1) (g := (mkF m 21 #[.val (.ref a), .val (.ref bl), .val u1, .val u2] [u1, (.ref a)])) rfl rfl (hb hby d11_21)
  refine own_step st6 ?_
  have F6 := Fld.same W6 (Fld.other W5 (((F_previousCursor.ext E2).keep Kq3 (ninS ne_a_a2 nin0)).keep Kq4 nin0) (Or.inr (slot_ne (t := (.object "java/lang/String")) (t' := (.object "java/util/List")) (Or.inr (own_g hw 148 rfl)) (Or.inr (own_g hw 146 rfl)) (by decide) (by decide) (by decide))))
  have N6 := Fr.snoc X6 N5 ge
  have Z6 : n0 ≤ h6.size := by rw [W6.size]; exact Z5
  have SZ6 : h0.size ≤ h6.size := by rw [W6.size]; exact SZ5
  show own_Ends p e below F (T6.setTop (mkF m 24 #[.val (.ref a), .val (.ref bl), .val u1, .val u2] []))
  refine own_step (fun _ k => XS.aloadN X6.here hx rfl (hb hby d11_24) rfl rfl k) ?_
  show own_Ends p e below F (T6.setTop (mkF m 25 #[.val (.ref a), .val (.ref bl), .val u1, .val u2] [(.ref a)]))
  refine own_step (fun _ k => XS.aloadN X6.here hx rfl (hb hby d11_25) rfl r2 k) ?_
  show own_Ends p e below F (T6.setTop (mkF m 26 #[.val (.ref a), .val (.ref bl), .val u1, .val u2] [u2, (.ref a)]))
  obtain ⟨T7, h7, X7, e7, W7, st7⟩ := putF X6 hx hZ hown (host := "") (Or.inl (own_g hw 149 rfl)) Via.refl e6 (Fld.other W6 (Fld.other W5 (((F_nextCursor.ext E2).keep Kq3 (ninS ne_a_a2 nin0)).keep Kq4 nin0) (Or.inr (slot_ne (t := (.object "java/lang/String")) (t' := (.object "java/util/List")) (Or.inr (own_g hw 150 rfl)) (Or.inr (own_g hw 146 rfl)) (by decide) (by decide) (by decide)))) (Or.inr (slot_ne (t := (.object "java/lang/String")) (t' := (.object "java/lang/String")) (Or.inr (own_g hw 150 rfl)) (Or.inr (own_g hw 148 rfl)) (by decide) (by decide) (by decide)))) (((((EX.ext E2).keep Kq3).keep Kq4).wr W5).wr W6) (Or.inr ⟨(own_g hw 150 rfl), rfl, hnm⟩) (own_g hw 59 rfl) (ty := (.object "java/lang/String")) (by decide) (own_nvR r2) (own_fvR r2) (g := (mkF m 26 #[.val (.ref a), .val (.ref bl), .val u1, .val u2] [u2, (.ref a)])) rfl rfl (hb hby d11_26)
  refine own_step st7 ?_
  have F7 := Fld.same W7 (Fld.other W6 (Fld.other W5 (((F_nextCursor.ext E2).keep Kq3 (ninS ne_a_a2 nin0)).keep Kq4 nin0) (Or.inr (slot_ne (t := (.object "java/lang/String")) (t' := (.object "java/util/List")) (Or.inr (own_g hw 150 rfl)) (Or.inr (own_g hw 146 rfl)) (by decide) (by decide) (by decide)))) (Or.inr (slot_ne (t := (.object "java/lang/String")) (t' := (.object "java/lang/String")) (Or.inr (own_g hw 150 rfl)) (Or.inr (own_g hw 148 rfl)) (by decide) (by decide) (by decide))))
  have N7 := Fr.snoc X7 N6 ge
  have Z7 : n0 ≤ h7.size := by rw [W7.size]; exact Z6
  have SZ7 : h0.size ≤ h7.size := by rw [W7.size]; exact SZ6
  show own_Ends p e below F (T7.setTop (mkF m 29 #[.val (.ref a), .val (.ref bl), .val u1, .val u2] []))
  rw [hF]
  exact own_ret X7 (v := none) (fun _ => rfl) Bd.notSynchronized (fun fs hr => X7.returnOut hx Bd.returns (hb hby d11_29) hr) (by decide) (by decide) (by rw [e7]; exact ⟨rfl, N7, ((Keep.wr (Keep.wr (Keep.wr (Keep.trans (Keep.trans (Keep.ext (Keep.refl _ _) E2) Kq3 (allS (Or.inr sz_a2) all0)) Kq4 all0) W5 (Or.inl (List.mem_of_getElem? (i := 0) rfl))) W6 (Or.inl (List.mem_of_getElem? (i := 0) rfl))) W7 (Or.inl (List.mem_of_getElem? (i := 0) rfl))) : Keep h0 h7 [a]), ((((((EX.ext E2).keep Kq3).keep Kq4).wr W5).wr W6).wr W7), (Fld.other W7 F6 (Or.inr (slot_ne (t := (.object "java/lang/String")) (t' := (.object "java/lang/String")) (Or.inr (own_g hw 148 rfl)) (Or.inr (own_g hw 150 rfl)) (by decide) (by decide) (by decide)))), F7⟩)

theorem ef_rm11_1 (m : MethodId) (x0 : Addr) (x1 : Addr) (x2 : Value) (x3 : Value) (c2 : Value.category x2 = 1) (c3 : Value.category x3 = 1) : entryFrame m #[(.ref x0), (.ref x1), x2, x3] 4 = mkF m 0 #[.val (.ref x0), .val (.ref x1), .val x2, .val x3] [] := by exact own_efl m [_, _, _, _] 4 (by intro v hv; simp only [List.mem_cons, List.not_mem_nil, or_false] at hv; rcases hv with rfl | rfl | rfl | rfl <;> first | rfl | assumption) rfl
def Q11_1 (Z : State) (a bl b : Addr) (kb : ClassId) (w0 : Value) (u1 u2 : Value) (ee ma mu mv mo : Addr) (h0 : Heap) (n0 : Nat) (v : Option Value) (h : Heap) (L : List Loc) : Prop := v = none ∧ Fr n0 L ∧ Keep h0 h [a] ∧ Exa Z h a "com/example/greater_than/greaterthan/page/Page" ∧ Fld Z h a "com/example/greater_than/greaterthan/page/Page" "previousCursor" "Ljava/lang/String;" u1 ∧ Fld Z h a "com/example/greater_than/greaterthan/page/Page" "nextCursor" "Ljava/lang/String;" u2
set_option maxRecDepth 65536 in
set_option maxHeartbeats 40000000 in
theorem rm11_1 (l : Launch) (Z : State) (a0 : Array Value) (hw : ∀ d ∈ tables_1, d.before a0 Z = true) (ws : List Jvm.Cond) (a bl b : Addr) (kb : ClassId) (w0 : Value) (u1 u2 : Value) (ee ma mu mv mo : Addr) (h0 : Heap) (n0 : Nat) (Z0 : n0 ≤ h0.size) (EX : Exa Z h0 a "com/example/greater_than/greaterthan/page/Page") (ge : n0 ≤ a) (F_rows : Fld Z h0 a "com/example/greater_than/greaterthan/page/Page" "rows" "Ljava/util/List;" .null) (F_previousCursor : Fld Z h0 a "com/example/greater_than/greaterthan/page/Page" "previousCursor" "Ljava/lang/String;" .null) (F_nextCursor : Fld Z h0 a "com/example/greater_than/greaterthan/page/Page" "nextCursor" "Ljava/lang/String;" .null) (VB : Arv Z h0 b kb (.object "java/lang/Object") (10 : Int32) [w0, .null, .null, .null, .null, .null, .null, .null, .null, .null] .null) (XB : Exa Z h0 b "[Ljava/lang/Object;") (Hw0 : own_Ob Z h0 w0) (EL : Exa Z h0 bl "java/util/ArrayList") (FE : Fld Z h0 bl "java/util/ArrayList" "elementData" "[Ljava/lang/Object;" (.ref b)) (FZ : Fld Z h0 bl "java/util/ArrayList" "size" "I" (.int (1 : Int32))) (SE : Sta Z h0 "java/util/ArrayList" "EMPTY_ELEMENTDATA" "[Ljava/lang/Object;" (.ref ee)) (M_ma : Mir Z "java/util/ArrayList" ma) (M_mu : Mir Z "java/util/Collections$UnmodifiableList" mu) (M_mv : Mir Z "java/util/Collections$UnmodifiableRandomAccessList" mv) (M_mo : Mir Z "[Ljava/lang/Object;" mo) (r1 : u1.isRef = true) (r2 : u2.isRef = true) :
    MetFree l (⟨"com/example/greater_than/greaterthan/page/Page", "<init>", "(Ljava/util/List;Ljava/lang/String;Ljava/lang/String;)V"⟩ : MethodName) (head1 (Jvm.Cond.code (⟨"com/example/greater_than/greaterthan/page/Page", "<init>", "(Ljava/util/List;Ljava/lang/String;Ljava/lang/String;)V"⟩ : MethodName) prog_39_method_1_code 4 none :: ws) ({ frames := 5, cells := 3, slots := 6, locals := 74 } : Room)) (fun ar U => ar = #[(.ref a), (.ref bl), u1, u2] ∧ Z.Warmed39 U.vm ∧ U.heap = h0) (fun _ _ _ _ _ => True) (fun _ U o U' => ∃ v L, o = .returned v ∧ Q11_1 Z a bl b kb w0 u1 u2 ee ma mu mv mo h0 n0 v U'.heap L ∧ FrameEnd U o U' L ({ frames := 5, cells := 3, slots := 6, locals := 74 } : Room).cells ({ frames := 5, cells := 3, slots := 6, locals := 74 } : Room).slots) := by
  refine MetFree.of_bodySF (plainFor_of_name pn_com_example_greater_than_greaterthan_page_Page) hisR ?_
  intro p e s m args below meth c s₁ Bd hml0 hP hK
  obtain ⟨rfl, hZ, hh⟩ := hP
  have hx := Bd.exec
  have hby := Bd.bytes
  have hml : c.maxLocals = 4 := hml0
  have hown : s.vm.findClass "com/example/greater_than/greaterthan/page/Page" = some m.cls := findClass_of_methodNamed Bd.named
  have hnm := (name_of_methodNamed Bd.named Bd.method).1
  have X0 : Stand p l e ({ frames := 5, cells := 3, slots := 6, locals := 74 } : Room) s m #[(.ref a), (.ref bl), u1, u2] below meth c s₁ [] 0 0 := Stand.of_body Bd
  have e0 : s₁.heap = h0 := by rw [← hh, Bd.state]; rfl
  have N0 := Fr.nil n0
  obtain ⟨F, hF⟩ : ∃ F, F = own_Fin s (Q11_1 Z a bl b kb w0 u1 u2 ee ma mu mv mo h0 n0) ({ frames := 5, cells := 3, slots := 6, locals := 74 } : Room).cells ({ frames := 5, cells := 3, slots := 6, locals := 74 } : Room).slots := ⟨_, rfl⟩
  show own_Ends p e below (own_Fin s (Q11_1 Z a bl b kb w0 u1 u2 ee ma mu mv mo h0 n0) ({ frames := 5, cells := 3, slots := 6, locals := 74 } : Room).cells ({ frames := 5, cells := 3, slots := 6, locals := 74 } : Room).slots) _
  rw [← hF, ef_rm11_1 m a bl u1 u2 (own_catR r1) (own_catR r2)]
  show own_Ends p e below F (s₁.setTop (mkF m 0 #[.val (.ref a), .val (.ref bl), .val u1, .val u2] []))
  refine own_step (fun _ k => XS.aloadN X0.here hx rfl (hb hby d11_0) rfl rfl k) ?_
  show own_Ends p e below F (s₁.setTop (mkF m 1 #[.val (.ref a), .val (.ref bl), .val u1, .val u2] [(.ref a)]))
  obtain ⟨T1, X1, e1, st1⟩ := initO X0 hx hZ hown (own_g hw 64 rfl) (own_g hw 19 rfl) (own_g hw 20 rfl) e0 (g := (mkF m 1 #[.val (.ref a), .val (.ref bl), .val u1, .val u2] [(.ref a)])) rfl (by rw [hml]; rfl) rfl (hb hby d11_1) (by decide) (W := 0) (by show 2 * 0 + _ ≤ _; exact Nat.le_of_eq rfl) (by decide)
  refine own_step st1 ?_
  show own_Ends p e below F (T1.setTop (mkF m 4 #[.val (.ref a), .val (.ref bl), .val u1, .val u2] []))
  refine own_step (fun _ k => XS.aloadN X1.here hx rfl (hb hby d11_4) rfl rfl k) ?_
  show own_Ends p e below F (T1.setTop (mkF m 5 #[.val (.ref a), .val (.ref bl), .val u1, .val u2] [(.ref a)]))
  obtain ⟨T2, h2, X2, e2, E2, A2, D2, -, st2⟩ := newO X1 hx hZ hown (own_g hw 65 rfl) (own_g hw 1 rfl) (own_g hw 2 rfl) e1 (g := (mkF m 5 #[.val (.ref a), .val (.ref bl), .val u1, .val u2] [(.ref a)])) rfl (hb hby d11_5) (by decide) (by decide)
  obtain ⟨a2, g2⟩ : ∃ z, z = h0.size := ⟨_, rfl⟩
  rw [← g2] at A2 D2 st2
  have ge_a2 : n0 ≤ a2 := Nat.le_trans Z0 (Nat.le_of_eq g2.symm)
  have sz_a2 : h0.size ≤ a2 := Nat.le_trans (Nat.le_refl h0.size) (Nat.le_of_eq g2.symm)
  have ne_a_a2 : a ≠ a2 := Nat.ne_of_lt (by rw [g2]; exact EX.lt)
  have ne_b_a2 : b ≠ a2 := Nat.ne_of_lt (by rw [g2]; exact VB.lt)
  have ne_bl_a2 : bl ≠ a2 := Nat.ne_of_lt (by rw [g2]; exact EL.lt)
  have Z2 : n0 ≤ h2.size := Nat.le_trans Z0 E2.1
  have SZ2 : h0.size ≤ h2.size := Nat.le_trans (Nat.le_refl h0.size) E2.1
  have F2_modCount : Fld Z h2 a2 "java/util/AbstractList" "modCount" "I" (.int (0 : Int32)) := D2 (Or.inl (own_g hw 22 rfl)) (ty := .int) (by decide)
  have F2_elementData : Fld Z h2 a2 "java/util/ArrayList" "elementData" "[Ljava/lang/Object;" .null := D2 (Or.inl (own_g hw 25 rfl)) (ty := (.array (.object "java/lang/Object"))) (by decide)
  have F2_size : Fld Z h2 a2 "java/util/ArrayList" "size" "I" (.int (0 : Int32)) := D2 (Or.inl (own_g hw 79 rfl)) (ty := .int) (by decide)
  refine own_step st2 ?_
  show own_Ends p e below F (T2.setTop (mkF m 8 #[.val (.ref a), .val (.ref bl), .val u1, .val u2] [(.ref a2), (.ref a)]))
  refine own_step (fun _ k => XS.dup X2.here hx rfl (hb hby d11_8) rfl rfl k) ?_
  show own_Ends p e below F (T2.setTop (mkF m 9 #[.val (.ref a), .val (.ref bl), .val u1, .val u2] [(.ref a2), (.ref a2), (.ref a)]))
  refine own_step (fun _ k => XS.aloadN X2.here hx rfl (hb hby d11_9) rfl rfl k) ?_
  show own_Ends p e below F (T2.setTop (mkF m 10 #[.val (.ref a), .val (.ref bl), .val u1, .val u2] [(.ref bl), (.ref a2), (.ref a2), (.ref a)]))
  obtain ⟨_, _, ⟨T3, L3, k3, n3⟩, -, X3, ⟨Lc3, hQ3, l3, y3, z3⟩, st3⟩ := X2.specialBack hx (y := (⟨"java/util/ArrayList", "<init>", "(Ljava/util/Collection;)V"⟩ : MethodName)) rfl hown (mvT hZ (own_g hw 66 rfl)) (mvT hZ (own_g hw 67 rfl)) (mvT hZ (own_g hw 68 rfl)) (by decide) (backOf (W := 2) (rm12_1 l Z a0 hw [] a2 bl b kb w0 mo ee ma h2 n0 Z2 A2 ge_a2 F2_modCount F2_elementData F2_size (VB.ext E2) (XB.ext E2) (Hw0.ext E2) M_mo (EL.ext E2) (FE.ext E2) (FZ.ext E2) (Sta.ext E2 SE) M_ma (Ne.symm ne_bl_a2) (Ne.symm ne_b_a2)) hZ (own_g hw 68 rfl) (own_g hw 2 rfl) (by decide) (by decide)) (g := (mkF m 10 #[.val (.ref a), .val (.ref bl), .val u1, .val u2] [(.ref bl), (.ref a2), (.ref a2), (.ref a)])) rfl (by rw [hml]; rfl) (Steps.refl _) (a := a2) (argsL := [(.ref bl)]) (rest := [(.ref a2), (.ref a)]) (lenOf pd__28Ljava_2futil_2fCollection_3b_29V rfl) rfl (by show 2 * 0 + _ ≤ _; exact Nat.le_of_eq rfl) (hb hby d11_10) (fun _ _ => ⟨rfl, e2, (by decide : 1 + 1 ≤ _), (by decide : 3 + 1 ≤ _)⟩)
  dsimp only [Pt.U, Pt.locs, Pt.cells, Pt.slots] at X3 l3 y3 z3 st3 hQ3
  subst l3 y3 z3
  obtain ⟨rfl, Nq3, Kq3, fq0_3⟩ := hQ3
  have N3 := Fr.app N0 Nq3
  have Z3 : n0 ≤ T3.heap.size := Nat.le_trans Z2 Kq3.1
  have SZ3 : h0.size ≤ T3.heap.size := Nat.le_trans SZ2 Kq3.1
  have S0_3 := own_Sta_keep (Sta.ext E2 SE) Kq3 (allS (own_ns_exa A2) all0)
  refine own_trans st3 ?_
  show own_Ends p e below F (T3.setTop (mkF m 13 #[.val (.ref a), .val (.ref bl), .val u1, .val u2] [(.ref a2), (.ref a)]))
  obtain ⟨_, _, ⟨T4, L4, k4, n4⟩, -, X4, ⟨Lc4, hQ4, l4, y4, z4⟩, st4⟩ := Jvm.LawKit.callS X3 hx (y := (⟨"java/util/Collections", "unmodifiableList", "(Ljava/util/List;)Ljava/util/List;"⟩ : MethodName)) hown (mvT hZ (own_g hw 105 rfl)) (mvT hZ (own_g hw 106 rfl)) (mvT hZ (own_g hw 107 rfl)) (mvT hZ (own_g hw 108 rfl)) (by decide) (backOf (W := 1) (rm17 l Z a0 hw [] a2 ma mu mv T3.heap n0 Z3 fq0_3 M_ma M_mu M_mv) hZ (own_g hw 108 rfl) (own_g hw 107 rfl) (by decide) (by decide)) (g := (mkF m 13 #[.val (.ref a), .val (.ref bl), .val u1, .val u2] [(.ref a2), (.ref a)])) rfl (by rw [hml]; rfl) (argsL := [(.ref a2)]) (rest := [(.ref a)]) (lenOf pd__28Ljava_2futil_2fList_3b_29Ljava_2futil_2fList_3b rfl) rfl (by show 2 * 0 + _ ≤ _; exact Nat.le_of_eq rfl) (hb hby d11_13) (fun _ _ => ⟨rfl, rfl, (by decide : 2 + 1 ≤ _), (by decide : 4 + 2 ≤ _)⟩)
  dsimp only [Pt.U, Pt.locs, Pt.cells, Pt.slots] at X4 l4 y4 z4 st4 hQ4
  subst l4 y4 z4
  obtain ⟨c4, rfl, Nq4, Kq4⟩ := hQ4
  have N4 := Fr.app N3 Nq4
  have Z4 : n0 ≤ T4.heap.size := Nat.le_trans Z3 Kq4.1
  have SZ4 : h0.size ≤ T4.heap.size := Nat.le_trans SZ3 Kq4.1
  have S0_4 := own_Sta_keep S0_3 Kq4 all0
  refine own_step st4 ?_
  show own_Ends p e below F (T4.setTop (mkF m 16 #[.val (.ref a), .val (.ref bl), .val u1, .val u2] [(.ref c4), (.ref a)]))
  obtain ⟨T5, h5, X5, e5, W5, st5⟩ := putF X4 hx hZ hown (host := "") (Or.inl (own_g hw 145 rfl)) Via.refl rfl (((F_rows.ext E2).keep Kq3 (ninS ne_a_a2 nin0)).keep Kq4 nin0) (((EX.ext E2).keep Kq3).keep Kq4) (Or.inr ⟨(own_g hw 146 rfl), rfl, hnm⟩) (own_g hw 59 rfl) (ty := (.object "java/util/List")) (by decide) rfl rfl (g := (mkF m 16 #[.val (.ref a), .val (.ref bl), .val u1, .val u2] [(.ref c4), (.ref a)])) rfl rfl (hb hby d11_16)
  refine own_step st5 ?_
  have F5 := Fld.same W5 (((F_rows.ext E2).keep Kq3 (ninS ne_a_a2 nin0)).keep Kq4 nin0)
  have N5 := Fr.snoc X5 N4 ge
  have Z5 : n0 ≤ h5.size := by rw [W5.size]; exact Z4
  have SZ5 : h0.size ≤ h5.size := by rw [W5.size]; exact SZ4
  show own_Ends p e below F (T5.setTop (mkF m 19 #[.val (.ref a), .val (.ref bl), .val u1, .val u2] []))
  refine own_step (fun _ k => XS.aloadN X5.here hx rfl (hb hby d11_19) rfl rfl k) ?_
  show own_Ends p e below F (T5.setTop (mkF m 20 #[.val (.ref a), .val (.ref bl), .val u1, .val u2] [(.ref a)]))
  refine own_step (fun _ k => XS.aloadN X5.here hx rfl (hb hby d11_20) rfl r1 k) ?_
  show own_Ends p e below F (T5.setTop (mkF m 21 #[.val (.ref a), .val (.ref bl), .val u1, .val u2] [u1, (.ref a)]))
  obtain ⟨T6, h6, X6, e6, W6, st6⟩ := putF X5 hx hZ hown (host := "") (Or.inl (own_g hw 147 rfl)) Via.refl e5 (Fld.other W5 (((F_previousCursor.ext E2).keep Kq3 (ninS ne_a_a2 nin0)).keep Kq4 nin0) (Or.inr (slot_ne (t := (.object "java/lang/String")) (t' := (.object "java/util/List")) (Or.inr (own_g hw 148 rfl)) (Or.inr (own_g hw 146 rfl)) (by decide) (by decide) (by decide)))) ((((EX.ext E2).keep Kq3).keep Kq4).wr W5) (Or.inr ⟨(own_g hw 148 rfl), rfl, hnm⟩) (own_g hw 59 rfl) (ty := (.object "java/lang/String")) (by decide) (own_nvR r1) (own_fvR r1) (g := (mkF m 21 #[.val (.ref a), .val (.ref bl), .val u1, .val u2] [u1, (.ref a)])) rfl rfl (hb hby d11_21)
  refine own_step st6 ?_
  have F6 := Fld.same W6 (Fld.other W5 (((F_previousCursor.ext E2).keep Kq3 (ninS ne_a_a2 nin0)).keep Kq4 nin0) (Or.inr (slot_ne (t := (.object "java/lang/String")) (t' := (.object "java/util/List")) (Or.inr (own_g hw 148 rfl)) (Or.inr (own_g hw 146 rfl)) (by decide) (by decide) (by decide))))
  have N6 := Fr.snoc X6 N5 ge
  have Z6 : n0 ≤ h6.size := by rw [W6.size]; exact Z5
  have SZ6 : h0.size ≤ h6.size := by rw [W6.size]; exact SZ5
  show own_Ends p e below F (T6.setTop (mkF m 24 #[.val (.ref a), .val (.ref bl), .val u1, .val u2] []))
  refine own_step (fun _ k => XS.aloadN X6.here hx rfl (hb hby d11_24) rfl rfl k) ?_
  show own_Ends p e below F (T6.setTop (mkF m 25 #[.val (.ref a), .val (.ref bl), .val u1, .val u2] [(.ref a)]))
  refine own_step (fun _ k => XS.aloadN X6.here hx rfl (hb hby d11_25) rfl r2 k) ?_
  show own_Ends p e below F (T6.setTop (mkF m 26 #[.val (.ref a), .val (.ref bl), .val u1, .val u2] [u2, (.ref a)]))
  obtain ⟨T7, h7, X7, e7, W7, st7⟩ := putF X6 hx hZ hown (host := "") (Or.inl (own_g hw 149 rfl)) Via.refl e6 (Fld.other W6 (Fld.other W5 (((F_nextCursor.ext E2).keep Kq3 (ninS ne_a_a2 nin0)).keep Kq4 nin0) (Or.inr (slot_ne (t := (.object "java/lang/String")) (t' := (.object "java/util/List")) (Or.inr (own_g hw 150 rfl)) (Or.inr (own_g hw 146 rfl)) (by decide) (by decide) (by decide)))) (Or.inr (slot_ne (t := (.object "java/lang/String")) (t' := (.object "java/lang/String")) (Or.inr (own_g hw 150 rfl)) (Or.inr (own_g hw 148 rfl)) (by decide) (by decide) (by decide)))) (((((EX.ext E2).keep Kq3).keep Kq4).wr W5).wr W6) (Or.inr ⟨(own_g hw 150 rfl), rfl, hnm⟩) (own_g hw 59 rfl) (ty := (.object "java/lang/String")) (by decide) (own_nvR r2) (own_fvR r2) (g := (mkF m 26 #[.val (.ref a), .val (.ref bl), .val u1, .val u2] [u2, (.ref a)])) rfl rfl (hb hby d11_26)
  refine own_step st7 ?_
  have F7 := Fld.same W7 (Fld.other W6 (Fld.other W5 (((F_nextCursor.ext E2).keep Kq3 (ninS ne_a_a2 nin0)).keep Kq4 nin0) (Or.inr (slot_ne (t := (.object "java/lang/String")) (t' := (.object "java/util/List")) (Or.inr (own_g hw 150 rfl)) (Or.inr (own_g hw 146 rfl)) (by decide) (by decide) (by decide)))) (Or.inr (slot_ne (t := (.object "java/lang/String")) (t' := (.object "java/lang/String")) (Or.inr (own_g hw 150 rfl)) (Or.inr (own_g hw 148 rfl)) (by decide) (by decide) (by decide))))
  have N7 := Fr.snoc X7 N6 ge
  have Z7 : n0 ≤ h7.size := by rw [W7.size]; exact Z6
  have SZ7 : h0.size ≤ h7.size := by rw [W7.size]; exact SZ6
  show own_Ends p e below F (T7.setTop (mkF m 29 #[.val (.ref a), .val (.ref bl), .val u1, .val u2] []))
  rw [hF]
  exact own_ret X7 (v := none) (fun _ => rfl) Bd.notSynchronized (fun fs hr => X7.returnOut hx Bd.returns (hb hby d11_29) hr) (by decide) (by decide) (by rw [e7]; exact ⟨rfl, N7, ((Keep.wr (Keep.wr (Keep.wr (Keep.trans (Keep.trans (Keep.ext (Keep.refl _ _) E2) Kq3 (allS (Or.inr sz_a2) all0)) Kq4 all0) W5 (Or.inl (List.mem_of_getElem? (i := 0) rfl))) W6 (Or.inl (List.mem_of_getElem? (i := 0) rfl))) W7 (Or.inl (List.mem_of_getElem? (i := 0) rfl))) : Keep h0 h7 [a]), ((((((EX.ext E2).keep Kq3).keep Kq4).wr W5).wr W6).wr W7), (Fld.other W7 F6 (Or.inr (slot_ne (t := (.object "java/lang/String")) (t' := (.object "java/lang/String")) (Or.inr (own_g hw 148 rfl)) (Or.inr (own_g hw 150 rfl)) (by decide) (by decide) (by decide)))), F7⟩)

theorem ef_rm11_2 (m : MethodId) (x0 : Addr) (x1 : Addr) (x2 : Value) (x3 : Value) (c2 : Value.category x2 = 1) (c3 : Value.category x3 = 1) : entryFrame m #[(.ref x0), (.ref x1), x2, x3] 4 = mkF m 0 #[.val (.ref x0), .val (.ref x1), .val x2, .val x3] [] := by exact own_efl m [_, _, _, _] 4 (by intro v hv; simp only [List.mem_cons, List.not_mem_nil, or_false] at hv; rcases hv with rfl | rfl | rfl | rfl <;> first | rfl | assumption) rfl
def Q11_2 (Z : State) (a bl b : Addr) (kb : ClassId) (w0 : Value) (w1 : Value) (u1 u2 : Value) (ee ma mu mv mo : Addr) (h0 : Heap) (n0 : Nat) (v : Option Value) (h : Heap) (L : List Loc) : Prop := v = none ∧ Fr n0 L ∧ Keep h0 h [a] ∧ Exa Z h a "com/example/greater_than/greaterthan/page/Page" ∧ Fld Z h a "com/example/greater_than/greaterthan/page/Page" "previousCursor" "Ljava/lang/String;" u1 ∧ Fld Z h a "com/example/greater_than/greaterthan/page/Page" "nextCursor" "Ljava/lang/String;" u2
set_option maxRecDepth 65536 in
set_option maxHeartbeats 40000000 in
theorem rm11_2 (l : Launch) (Z : State) (a0 : Array Value) (hw : ∀ d ∈ tables_1, d.before a0 Z = true) (ws : List Jvm.Cond) (a bl b : Addr) (kb : ClassId) (w0 : Value) (w1 : Value) (u1 u2 : Value) (ee ma mu mv mo : Addr) (h0 : Heap) (n0 : Nat) (Z0 : n0 ≤ h0.size) (EX : Exa Z h0 a "com/example/greater_than/greaterthan/page/Page") (ge : n0 ≤ a) (F_rows : Fld Z h0 a "com/example/greater_than/greaterthan/page/Page" "rows" "Ljava/util/List;" .null) (F_previousCursor : Fld Z h0 a "com/example/greater_than/greaterthan/page/Page" "previousCursor" "Ljava/lang/String;" .null) (F_nextCursor : Fld Z h0 a "com/example/greater_than/greaterthan/page/Page" "nextCursor" "Ljava/lang/String;" .null) (VB : Arv Z h0 b kb (.object "java/lang/Object") (10 : Int32) [w0, w1, .null, .null, .null, .null, .null, .null, .null, .null] .null) (XB : Exa Z h0 b "[Ljava/lang/Object;") (Hw0 : own_Ob Z h0 w0) (Hw1 : own_Ob Z h0 w1) (EL : Exa Z h0 bl "java/util/ArrayList") (FE : Fld Z h0 bl "java/util/ArrayList" "elementData" "[Ljava/lang/Object;" (.ref b)) (FZ : Fld Z h0 bl "java/util/ArrayList" "size" "I" (.int (2 : Int32))) (SE : Sta Z h0 "java/util/ArrayList" "EMPTY_ELEMENTDATA" "[Ljava/lang/Object;" (.ref ee)) (M_ma : Mir Z "java/util/ArrayList" ma) (M_mu : Mir Z "java/util/Collections$UnmodifiableList" mu) (M_mv : Mir Z "java/util/Collections$UnmodifiableRandomAccessList" mv) (M_mo : Mir Z "[Ljava/lang/Object;" mo) (r1 : u1.isRef = true) (r2 : u2.isRef = true) :
    MetFree l (⟨"com/example/greater_than/greaterthan/page/Page", "<init>", "(Ljava/util/List;Ljava/lang/String;Ljava/lang/String;)V"⟩ : MethodName) (head1 (Jvm.Cond.code (⟨"com/example/greater_than/greaterthan/page/Page", "<init>", "(Ljava/util/List;Ljava/lang/String;Ljava/lang/String;)V"⟩ : MethodName) prog_39_method_1_code 4 none :: ws) ({ frames := 5, cells := 3, slots := 7, locals := 74 } : Room)) (fun ar U => ar = #[(.ref a), (.ref bl), u1, u2] ∧ Z.Warmed39 U.vm ∧ U.heap = h0) (fun _ _ _ _ _ => True) (fun _ U o U' => ∃ v L, o = .returned v ∧ Q11_2 Z a bl b kb w0 w1 u1 u2 ee ma mu mv mo h0 n0 v U'.heap L ∧ FrameEnd U o U' L ({ frames := 5, cells := 3, slots := 7, locals := 74 } : Room).cells ({ frames := 5, cells := 3, slots := 7, locals := 74 } : Room).slots) := by
  refine MetFree.of_bodySF (plainFor_of_name pn_com_example_greater_than_greaterthan_page_Page) hisR ?_
  intro p e s m args below meth c s₁ Bd hml0 hP hK
  obtain ⟨rfl, hZ, hh⟩ := hP
  have hx := Bd.exec
  have hby := Bd.bytes
  have hml : c.maxLocals = 4 := hml0
  have hown : s.vm.findClass "com/example/greater_than/greaterthan/page/Page" = some m.cls := findClass_of_methodNamed Bd.named
  have hnm := (name_of_methodNamed Bd.named Bd.method).1
  have X0 : Stand p l e ({ frames := 5, cells := 3, slots := 7, locals := 74 } : Room) s m #[(.ref a), (.ref bl), u1, u2] below meth c s₁ [] 0 0 := Stand.of_body Bd
  have e0 : s₁.heap = h0 := by rw [← hh, Bd.state]; rfl
  have N0 := Fr.nil n0
  obtain ⟨F, hF⟩ : ∃ F, F = own_Fin s (Q11_2 Z a bl b kb w0 w1 u1 u2 ee ma mu mv mo h0 n0) ({ frames := 5, cells := 3, slots := 7, locals := 74 } : Room).cells ({ frames := 5, cells := 3, slots := 7, locals := 74 } : Room).slots := ⟨_, rfl⟩
  show own_Ends p e below (own_Fin s (Q11_2 Z a bl b kb w0 w1 u1 u2 ee ma mu mv mo h0 n0) ({ frames := 5, cells := 3, slots := 7, locals := 74 } : Room).cells ({ frames := 5, cells := 3, slots := 7, locals := 74 } : Room).slots) _
  rw [← hF, ef_rm11_2 m a bl u1 u2 (own_catR r1) (own_catR r2)]
  show own_Ends p e below F (s₁.setTop (mkF m 0 #[.val (.ref a), .val (.ref bl), .val u1, .val u2] []))
  refine own_step (fun _ k => XS.aloadN X0.here hx rfl (hb hby d11_0) rfl rfl k) ?_
  show own_Ends p e below F (s₁.setTop (mkF m 1 #[.val (.ref a), .val (.ref bl), .val u1, .val u2] [(.ref a)]))
  obtain ⟨T1, X1, e1, st1⟩ := initO X0 hx hZ hown (own_g hw 64 rfl) (own_g hw 19 rfl) (own_g hw 20 rfl) e0 (g := (mkF m 1 #[.val (.ref a), .val (.ref bl), .val u1, .val u2] [(.ref a)])) rfl (by rw [hml]; rfl) rfl (hb hby d11_1) (by decide) (W := 0) (by show 2 * 0 + _ ≤ _; exact Nat.le_of_eq rfl) (by decide)
  refine own_step st1 ?_
  show own_Ends p e below F (T1.setTop (mkF m 4 #[.val (.ref a), .val (.ref bl), .val u1, .val u2] []))
  refine own_step (fun _ k => XS.aloadN X1.here hx rfl (hb hby d11_4) rfl rfl k) ?_
  show own_Ends p e below F (T1.setTop (mkF m 5 #[.val (.ref a), .val (.ref bl), .val u1, .val u2] [(.ref a)]))
  obtain ⟨T2, h2, X2, e2, E2, A2, D2, -, st2⟩ := newO X1 hx hZ hown (own_g hw 65 rfl) (own_g hw 1 rfl) (own_g hw 2 rfl) e1 (g := (mkF m 5 #[.val (.ref a), .val (.ref bl), .val u1, .val u2] [(.ref a)])) rfl (hb hby d11_5) (by decide) (by decide)
  obtain ⟨a2, g2⟩ : ∃ z, z = h0.size := ⟨_, rfl⟩
  rw [← g2] at A2 D2 st2
  have ge_a2 : n0 ≤ a2 := Nat.le_trans Z0 (Nat.le_of_eq g2.symm)
  have sz_a2 : h0.size ≤ a2 := Nat.le_trans (Nat.le_refl h0.size) (Nat.le_of_eq g2.symm)
  have ne_a_a2 : a ≠ a2 := Nat.ne_of_lt (by rw [g2]; exact EX.lt)
  have ne_b_a2 : b ≠ a2 := Nat.ne_of_lt (by rw [g2]; exact VB.lt)
  have ne_bl_a2 : bl ≠ a2 := Nat.ne_of_lt (by rw [g2]; exact EL.lt)
  have Z2 : n0 ≤ h2.size := Nat.le_trans Z0 E2.1
  have SZ2 : h0.size ≤ h2.size := Nat.le_trans (Nat.le_refl h0.size) E2.1
  have F2_modCount : Fld Z h2 a2 "java/util/AbstractList" "modCount" "I" (.int (0 : Int32)) := D2 (Or.inl (own_g hw 22 rfl)) (ty := .int) (by decide)
  have F2_elementData : Fld Z h2 a2 "java/util/ArrayList" "elementData" "[Ljava/lang/Object;" .null := D2 (Or.inl (own_g hw 25 rfl)) (ty := (.array (.object "java/lang/Object"))) (by decide)
  have F2_size : Fld Z h2 a2 "java/util/ArrayList" "size" "I" (.int (0 : Int32)) := D2 (Or.inl (own_g hw 79 rfl)) (ty := .int) (by decide)
  refine own_step st2 ?_
  show own_Ends p e below F (T2.setTop (mkF m 8 #[.val (.ref a), .val (.ref bl), .val u1, .val u2] [(.ref a2), (.ref a)]))
  refine own_step (fun _ k => XS.dup X2.here hx rfl (hb hby d11_8) rfl rfl k) ?_
  show own_Ends p e below F (T2.setTop (mkF m 9 #[.val (.ref a), .val (.ref bl), .val u1, .val u2] [(.ref a2), (.ref a2), (.ref a)]))
  refine own_step (fun _ k => XS.aloadN X2.here hx rfl (hb hby d11_9) rfl rfl k) ?_
  show own_Ends p e below F (T2.setTop (mkF m 10 #[.val (.ref a), .val (.ref bl), .val u1, .val u2] [(.ref bl), (.ref a2), (.ref a2), (.ref a)]))
  obtain ⟨_, _, ⟨T3, L3, k3, n3⟩, -, X3, ⟨Lc3, hQ3, l3, y3, z3⟩, st3⟩ := X2.specialBack hx (y := (⟨"java/util/ArrayList", "<init>", "(Ljava/util/Collection;)V"⟩ : MethodName)) rfl hown (mvT hZ (own_g hw 66 rfl)) (mvT hZ (own_g hw 67 rfl)) (mvT hZ (own_g hw 68 rfl)) (by decide) (backOf (W := 2) (rm12_2 l Z a0 hw [] a2 bl b kb w0 w1 mo ee ma h2 n0 Z2 A2 ge_a2 F2_modCount F2_elementData F2_size (VB.ext E2) (XB.ext E2) (Hw0.ext E2) (Hw1.ext E2) M_mo (EL.ext E2) (FE.ext E2) (FZ.ext E2) (Sta.ext E2 SE) M_ma (Ne.symm ne_bl_a2) (Ne.symm ne_b_a2)) hZ (own_g hw 68 rfl) (own_g hw 2 rfl) (by decide) (by decide)) (g := (mkF m 10 #[.val (.ref a), .val (.ref bl), .val u1, .val u2] [(.ref bl), (.ref a2), (.ref a2), (.ref a)])) rfl (by rw [hml]; rfl) (Steps.refl _) (a := a2) (argsL := [(.ref bl)]) (rest := [(.ref a2), (.ref a)]) (lenOf pd__28Ljava_2futil_2fCollection_3b_29V rfl) rfl (by show 2 * 0 + _ ≤ _; exact Nat.le_of_eq rfl) (hb hby d11_10) (fun _ _ => ⟨rfl, e2, (by decide : 1 + 1 ≤ _), (by decide : 3 + 2 ≤ _)⟩)
  dsimp only [Pt.U, Pt.locs, Pt.cells, Pt.slots] at X3 l3 y3 z3 st3 hQ3
  subst l3 y3 z3
  obtain ⟨rfl, Nq3, Kq3, fq0_3⟩ := hQ3
  have N3 := Fr.app N0 Nq3
  have Z3 : n0 ≤ T3.heap.size := Nat.le_trans Z2 Kq3.1
  have SZ3 : h0.size ≤ T3.heap.size := Nat.le_trans SZ2 Kq3.1
  have S0_3 := own_Sta_keep (Sta.ext E2 SE) Kq3 (allS (own_ns_exa A2) all0)
  refine own_trans st3 ?_
  show own_Ends p e below F (T3.setTop (mkF m 13 #[.val (.ref a), .val (.ref bl), .val u1, .val u2] [(.ref a2), (.ref a)]))
  obtain ⟨_, _, ⟨T4, L4, k4, n4⟩, -, X4, ⟨Lc4, hQ4, l4, y4, z4⟩, st4⟩ := Jvm.LawKit.callS X3 hx (y := (⟨"java/util/Collections", "unmodifiableList", "(Ljava/util/List;)Ljava/util/List;"⟩ : MethodName)) hown (mvT hZ (own_g hw 105 rfl)) (mvT hZ (own_g hw 106 rfl)) (mvT hZ (own_g hw 107 rfl)) (mvT hZ (own_g hw 108 rfl)) (by decide) (backOf (W := 1) (rm17 l Z a0 hw [] a2 ma mu mv T3.heap n0 Z3 fq0_3 M_ma M_mu M_mv) hZ (own_g hw 108 rfl) (own_g hw 107 rfl) (by decide) (by decide)) (g := (mkF m 13 #[.val (.ref a), .val (.ref bl), .val u1, .val u2] [(.ref a2), (.ref a)])) rfl (by rw [hml]; rfl) (argsL := [(.ref a2)]) (rest := [(.ref a)]) (lenOf pd__28Ljava_2futil_2fList_3b_29Ljava_2futil_2fList_3b rfl) rfl (by show 2 * 0 + _ ≤ _; exact Nat.le_of_eq rfl) (hb hby d11_13) (fun _ _ => ⟨rfl, rfl, (by decide : 2 + 1 ≤ _), (by decide : 5 + 2 ≤ _)⟩)
  dsimp only [Pt.U, Pt.locs, Pt.cells, Pt.slots] at X4 l4 y4 z4 st4 hQ4
  subst l4 y4 z4
  obtain ⟨c4, rfl, Nq4, Kq4⟩ := hQ4
  have N4 := Fr.app N3 Nq4
  have Z4 : n0 ≤ T4.heap.size := Nat.le_trans Z3 Kq4.1
  have SZ4 : h0.size ≤ T4.heap.size := Nat.le_trans SZ3 Kq4.1
  have S0_4 := own_Sta_keep S0_3 Kq4 all0
  refine own_step st4 ?_
  show own_Ends p e below F (T4.setTop (mkF m 16 #[.val (.ref a), .val (.ref bl), .val u1, .val u2] [(.ref c4), (.ref a)]))
  obtain ⟨T5, h5, X5, e5, W5, st5⟩ := putF X4 hx hZ hown (host := "") (Or.inl (own_g hw 145 rfl)) Via.refl rfl (((F_rows.ext E2).keep Kq3 (ninS ne_a_a2 nin0)).keep Kq4 nin0) (((EX.ext E2).keep Kq3).keep Kq4) (Or.inr ⟨(own_g hw 146 rfl), rfl, hnm⟩) (own_g hw 59 rfl) (ty := (.object "java/util/List")) (by decide) rfl rfl (g := (mkF m 16 #[.val (.ref a), .val (.ref bl), .val u1, .val u2] [(.ref c4), (.ref a)])) rfl rfl (hb hby d11_16)
  refine own_step st5 ?_
  have F5 := Fld.same W5 (((F_rows.ext E2).keep Kq3 (ninS ne_a_a2 nin0)).keep Kq4 nin0)
  have N5 := Fr.snoc X5 N4 ge
  have Z5 : n0 ≤ h5.size := by rw [W5.size]; exact Z4
  have SZ5 : h0.size ≤ h5.size := by rw [W5.size]; exact SZ4
  show own_Ends p e below F (T5.setTop (mkF m 19 #[.val (.ref a), .val (.ref bl), .val u1, .val u2] []))
  refine own_step (fun _ k => XS.aloadN X5.here hx rfl (hb hby d11_19) rfl rfl k) ?_
  show own_Ends p e below F (T5.setTop (mkF m 20 #[.val (.ref a), .val (.ref bl), .val u1, .val u2] [(.ref a)]))
  refine own_step (fun _ k => XS.aloadN X5.here hx rfl (hb hby d11_20) rfl r1 k) ?_
  show own_Ends p e below F (T5.setTop (mkF m 21 #[.val (.ref a), .val (.ref bl), .val u1, .val u2] [u1, (.ref a)]))
  obtain ⟨T6, h6, X6, e6, W6, st6⟩ := putF X5 hx hZ hown (host := "") (Or.inl (own_g hw 147 rfl)) Via.refl e5 (Fld.other W5 (((F_previousCursor.ext E2).keep Kq3 (ninS ne_a_a2 nin0)).keep Kq4 nin0) (Or.inr (slot_ne (t := (.object "java/lang/String")) (t' := (.object "java/util/List")) (Or.inr (own_g hw 148 rfl)) (Or.inr (own_g hw 146 rfl)) (by decide) (by decide) (by decide)))) ((((EX.ext E2).keep Kq3).keep Kq4).wr W5) (Or.inr ⟨(own_g hw 148 rfl), rfl, hnm⟩) (own_g hw 59 rfl) (ty := (.object "java/lang/String")) (by decide) (own_nvR r1) (own_fvR r1) (g := (mkF m 21 #[.val (.ref a), .val (.ref bl), .val u1, .val u2] [u1, (.ref a)])) rfl rfl (hb hby d11_21)
  refine own_step st6 ?_
  have F6 := Fld.same W6 (Fld.other W5 (((F_previousCursor.ext E2).keep Kq3 (ninS ne_a_a2 nin0)).keep Kq4 nin0) (Or.inr (slot_ne (t := (.object "java/lang/String")) (t' := (.object "java/util/List")) (Or.inr (own_g hw 148 rfl)) (Or.inr (own_g hw 146 rfl)) (by decide) (by decide) (by decide))))
  have N6 := Fr.snoc X6 N5 ge
  have Z6 : n0 ≤ h6.size := by rw [W6.size]; exact Z5
  have SZ6 : h0.size ≤ h6.size := by rw [W6.size]; exact SZ5
  show own_Ends p e below F (T6.setTop (mkF m 24 #[.val (.ref a), .val (.ref bl), .val u1, .val u2] []))
  refine own_step (fun _ k => XS.aloadN X6.here hx rfl (hb hby d11_24) rfl rfl k) ?_
  show own_Ends p e below F (T6.setTop (mkF m 25 #[.val (.ref a), .val (.ref bl), .val u1, .val u2] [(.ref a)]))
  refine own_step (fun _ k => XS.aloadN X6.here hx rfl (hb hby d11_25) rfl r2 k) ?_
  show own_Ends p e below F (T6.setTop (mkF m 26 #[.val (.ref a), .val (.ref bl), .val u1, .val u2] [u2, (.ref a)]))
  obtain ⟨T7, h7, X7, e7, W7, st7⟩ := putF X6 hx hZ hown (host := "") (Or.inl (own_g hw 149 rfl)) Via.refl e6 (Fld.other W6 (Fld.other W5 (((F_nextCursor.ext E2).keep Kq3 (ninS ne_a_a2 nin0)).keep Kq4 nin0) (Or.inr (slot_ne (t := (.object "java/lang/String")) (t' := (.object "java/util/List")) (Or.inr (own_g hw 150 rfl)) (Or.inr (own_g hw 146 rfl)) (by decide) (by decide) (by decide)))) (Or.inr (slot_ne (t := (.object "java/lang/String")) (t' := (.object "java/lang/String")) (Or.inr (own_g hw 150 rfl)) (Or.inr (own_g hw 148 rfl)) (by decide) (by decide) (by decide)))) (((((EX.ext E2).keep Kq3).keep Kq4).wr W5).wr W6) (Or.inr ⟨(own_g hw 150 rfl), rfl, hnm⟩) (own_g hw 59 rfl) (ty := (.object "java/lang/String")) (by decide) (own_nvR r2) (own_fvR r2) (g := (mkF m 26 #[.val (.ref a), .val (.ref bl), .val u1, .val u2] [u2, (.ref a)])) rfl rfl (hb hby d11_26)
  refine own_step st7 ?_
  have F7 := Fld.same W7 (Fld.other W6 (Fld.other W5 (((F_nextCursor.ext E2).keep Kq3 (ninS ne_a_a2 nin0)).keep Kq4 nin0) (Or.inr (slot_ne (t := (.object "java/lang/String")) (t' := (.object "java/util/List")) (Or.inr (own_g hw 150 rfl)) (Or.inr (own_g hw 146 rfl)) (by decide) (by decide) (by decide)))) (Or.inr (slot_ne (t := (.object "java/lang/String")) (t' := (.object "java/lang/String")) (Or.inr (own_g hw 150 rfl)) (Or.inr (own_g hw 148 rfl)) (by decide) (by decide) (by decide))))
  have N7 := Fr.snoc X7 N6 ge
  have Z7 : n0 ≤ h7.size := by rw [W7.size]; exact Z6
  have SZ7 : h0.size ≤ h7.size := by rw [W7.size]; exact SZ6
  show own_Ends p e below F (T7.setTop (mkF m 29 #[.val (.ref a), .val (.ref bl), .val u1, .val u2] []))
  rw [hF]
  exact own_ret X7 (v := none) (fun _ => rfl) Bd.notSynchronized (fun fs hr => X7.returnOut hx Bd.returns (hb hby d11_29) hr) (by decide) (by decide) (by rw [e7]; exact ⟨rfl, N7, ((Keep.wr (Keep.wr (Keep.wr (Keep.trans (Keep.trans (Keep.ext (Keep.refl _ _) E2) Kq3 (allS (Or.inr sz_a2) all0)) Kq4 all0) W5 (Or.inl (List.mem_of_getElem? (i := 0) rfl))) W6 (Or.inl (List.mem_of_getElem? (i := 0) rfl))) W7 (Or.inl (List.mem_of_getElem? (i := 0) rfl))) : Keep h0 h7 [a]), ((((((EX.ext E2).keep Kq3).keep Kq4).wr W5).wr W6).wr W7), (Fld.other W7 F6 (Or.inr (slot_ne (t := (.object "java/lang/String")) (t' := (.object "java/lang/String")) (Or.inr (own_g hw 148 rfl)) (Or.inr (own_g hw 150 rfl)) (by decide) (by decide) (by decide)))), F7⟩)

theorem ef_rm11_3 (m : MethodId) (x0 : Addr) (x1 : Addr) (x2 : Value) (x3 : Value) (c2 : Value.category x2 = 1) (c3 : Value.category x3 = 1) : entryFrame m #[(.ref x0), (.ref x1), x2, x3] 4 = mkF m 0 #[.val (.ref x0), .val (.ref x1), .val x2, .val x3] [] := by exact own_efl m [_, _, _, _] 4 (by intro v hv; simp only [List.mem_cons, List.not_mem_nil, or_false] at hv; rcases hv with rfl | rfl | rfl | rfl <;> first | rfl | assumption) rfl
def Q11_3 (Z : State) (a bl b : Addr) (kb : ClassId) (w0 : Value) (w1 : Value) (w2 : Value) (u1 u2 : Value) (ee ma mu mv mo : Addr) (h0 : Heap) (n0 : Nat) (v : Option Value) (h : Heap) (L : List Loc) : Prop := v = none ∧ Fr n0 L ∧ Keep h0 h [a] ∧ Exa Z h a "com/example/greater_than/greaterthan/page/Page" ∧ Fld Z h a "com/example/greater_than/greaterthan/page/Page" "previousCursor" "Ljava/lang/String;" u1 ∧ Fld Z h a "com/example/greater_than/greaterthan/page/Page" "nextCursor" "Ljava/lang/String;" u2
set_option maxRecDepth 65536 in
set_option maxHeartbeats 40000000 in
theorem rm11_3 (l : Launch) (Z : State) (a0 : Array Value) (hw : ∀ d ∈ tables_1, d.before a0 Z = true) (ws : List Jvm.Cond) (a bl b : Addr) (kb : ClassId) (w0 : Value) (w1 : Value) (w2 : Value) (u1 u2 : Value) (ee ma mu mv mo : Addr) (h0 : Heap) (n0 : Nat) (Z0 : n0 ≤ h0.size) (EX : Exa Z h0 a "com/example/greater_than/greaterthan/page/Page") (ge : n0 ≤ a) (F_rows : Fld Z h0 a "com/example/greater_than/greaterthan/page/Page" "rows" "Ljava/util/List;" .null) (F_previousCursor : Fld Z h0 a "com/example/greater_than/greaterthan/page/Page" "previousCursor" "Ljava/lang/String;" .null) (F_nextCursor : Fld Z h0 a "com/example/greater_than/greaterthan/page/Page" "nextCursor" "Ljava/lang/String;" .null) (VB : Arv Z h0 b kb (.object "java/lang/Object") (10 : Int32) [w0, w1, w2, .null, .null, .null, .null, .null, .null, .null] .null) (XB : Exa Z h0 b "[Ljava/lang/Object;") (Hw0 : own_Ob Z h0 w0) (Hw1 : own_Ob Z h0 w1) (Hw2 : own_Ob Z h0 w2) (EL : Exa Z h0 bl "java/util/ArrayList") (FE : Fld Z h0 bl "java/util/ArrayList" "elementData" "[Ljava/lang/Object;" (.ref b)) (FZ : Fld Z h0 bl "java/util/ArrayList" "size" "I" (.int (3 : Int32))) (SE : Sta Z h0 "java/util/ArrayList" "EMPTY_ELEMENTDATA" "[Ljava/lang/Object;" (.ref ee)) (M_ma : Mir Z "java/util/ArrayList" ma) (M_mu : Mir Z "java/util/Collections$UnmodifiableList" mu) (M_mv : Mir Z "java/util/Collections$UnmodifiableRandomAccessList" mv) (M_mo : Mir Z "[Ljava/lang/Object;" mo) (r1 : u1.isRef = true) (r2 : u2.isRef = true) :
    MetFree l (⟨"com/example/greater_than/greaterthan/page/Page", "<init>", "(Ljava/util/List;Ljava/lang/String;Ljava/lang/String;)V"⟩ : MethodName) (head1 (Jvm.Cond.code (⟨"com/example/greater_than/greaterthan/page/Page", "<init>", "(Ljava/util/List;Ljava/lang/String;Ljava/lang/String;)V"⟩ : MethodName) prog_39_method_1_code 4 none :: ws) ({ frames := 5, cells := 3, slots := 8, locals := 74 } : Room)) (fun ar U => ar = #[(.ref a), (.ref bl), u1, u2] ∧ Z.Warmed39 U.vm ∧ U.heap = h0) (fun _ _ _ _ _ => True) (fun _ U o U' => ∃ v L, o = .returned v ∧ Q11_3 Z a bl b kb w0 w1 w2 u1 u2 ee ma mu mv mo h0 n0 v U'.heap L ∧ FrameEnd U o U' L ({ frames := 5, cells := 3, slots := 8, locals := 74 } : Room).cells ({ frames := 5, cells := 3, slots := 8, locals := 74 } : Room).slots) := by
  refine MetFree.of_bodySF (plainFor_of_name pn_com_example_greater_than_greaterthan_page_Page) hisR ?_
  intro p e s m args below meth c s₁ Bd hml0 hP hK
  obtain ⟨rfl, hZ, hh⟩ := hP
  have hx := Bd.exec
  have hby := Bd.bytes
  have hml : c.maxLocals = 4 := hml0
  have hown : s.vm.findClass "com/example/greater_than/greaterthan/page/Page" = some m.cls := findClass_of_methodNamed Bd.named
  have hnm := (name_of_methodNamed Bd.named Bd.method).1
  have X0 : Stand p l e ({ frames := 5, cells := 3, slots := 8, locals := 74 } : Room) s m #[(.ref a), (.ref bl), u1, u2] below meth c s₁ [] 0 0 := Stand.of_body Bd
  have e0 : s₁.heap = h0 := by rw [← hh, Bd.state]; rfl
  have N0 := Fr.nil n0
  obtain ⟨F, hF⟩ : ∃ F, F = own_Fin s (Q11_3 Z a bl b kb w0 w1 w2 u1 u2 ee ma mu mv mo h0 n0) ({ frames := 5, cells := 3, slots := 8, locals := 74 } : Room).cells ({ frames := 5, cells := 3, slots := 8, locals := 74 } : Room).slots := ⟨_, rfl⟩
  show own_Ends p e below (own_Fin s (Q11_3 Z a bl b kb w0 w1 w2 u1 u2 ee ma mu mv mo h0 n0) ({ frames := 5, cells := 3, slots := 8, locals := 74 } : Room).cells ({ frames := 5, cells := 3, slots := 8, locals := 74 } : Room).slots) _
  rw [← hF, ef_rm11_3 m a bl u1 u2 (own_catR r1) (own_catR r2)]
  show own_Ends p e below F (s₁.setTop (mkF m 0 #[.val (.ref a), .val (.ref bl), .val u1, .val u2] []))
  refine own_step (fun _ k => XS.aloadN X0.here hx rfl (hb hby d11_0) rfl rfl k) ?_
  show own_Ends p e below F (s₁.setTop (mkF m 1 #[.val (.ref a), .val (.ref bl), .val u1, .val u2] [(.ref a)]))
  obtain ⟨T1, X1, e1, st1⟩ := initO X0 hx hZ hown (own_g hw 64 rfl) (own_g hw 19 rfl) (own_g hw 20 rfl) e0 (g := (mkF m 1 #[.val (.ref a), .val (.ref bl), .val u1, .val u2] [(.ref a)])) rfl (by rw [hml]; rfl) rfl (hb hby d11_1) (by decide) (W := 0) (by show 2 * 0 + _ ≤ _; exact Nat.le_of_eq rfl) (by decide)
  refine own_step st1 ?_
  show own_Ends p e below F (T1.setTop (mkF m 4 #[.val (.ref a), .val (.ref bl), .val u1, .val u2] []))
  refine own_step (fun _ k => XS.aloadN X1.here hx rfl (hb hby d11_4) rfl rfl k) ?_
  show own_Ends p e below F (T1.setTop (mkF m 5 #[.val (.ref a), .val (.ref bl), .val u1, .val u2] [(.ref a)]))
  obtain ⟨T2, h2, X2, e2, E2, A2, D2, -, st2⟩ := newO X1 hx hZ hown (own_g hw 65 rfl) (own_g hw 1 rfl) (own_g hw 2 rfl) e1 (g := (mkF m 5 #[.val (.ref a), .val (.ref bl), .val u1, .val u2] [(.ref a)])) rfl (hb hby d11_5) (by decide) (by decide)
  obtain ⟨a2, g2⟩ : ∃ z, z = h0.size := ⟨_, rfl⟩
  rw [← g2] at A2 D2 st2
  have ge_a2 : n0 ≤ a2 := Nat.le_trans Z0 (Nat.le_of_eq g2.symm)
  have sz_a2 : h0.size ≤ a2 := Nat.le_trans (Nat.le_refl h0.size) (Nat.le_of_eq g2.symm)
  have ne_a_a2 : a ≠ a2 := Nat.ne_of_lt (by rw [g2]; exact EX.lt)
  have ne_b_a2 : b ≠ a2 := Nat.ne_of_lt (by rw [g2]; exact VB.lt)
  have ne_bl_a2 : bl ≠ a2 := Nat.ne_of_lt (by rw [g2]; exact EL.lt)
  have Z2 : n0 ≤ h2.size := Nat.le_trans Z0 E2.1
  have SZ2 : h0.size ≤ h2.size := Nat.le_trans (Nat.le_refl h0.size) E2.1
  have F2_modCount : Fld Z h2 a2 "java/util/AbstractList" "modCount" "I" (.int (0 : Int32)) := D2 (Or.inl (own_g hw 22 rfl)) (ty := .int) (by decide)
  have F2_elementData : Fld Z h2 a2 "java/util/ArrayList" "elementData" "[Ljava/lang/Object;" .null := D2 (Or.inl (own_g hw 25 rfl)) (ty := (.array (.object "java/lang/Object"))) (by decide)
  have F2_size : Fld Z h2 a2 "java/util/ArrayList" "size" "I" (.int (0 : Int32)) := D2 (Or.inl (own_g hw 79 rfl)) (ty := .int) (by decide)
  refine own_step st2 ?_
  show own_Ends p e below F (T2.setTop (mkF m 8 #[.val (.ref a), .val (.ref bl), .val u1, .val u2] [(.ref a2), (.ref a)]))
  refine own_step (fun _ k => XS.dup X2.here hx rfl (hb hby d11_8) rfl rfl k) ?_
  show own_Ends p e below F (T2.setTop (mkF m 9 #[.val (.ref a), .val (.ref bl), .val u1, .val u2] [(.ref a2), (.ref a2), (.ref a)]))
  refine own_step (fun _ k => XS.aloadN X2.here hx rfl (hb hby d11_9) rfl rfl k) ?_
  show own_Ends p e below F (T2.setTop (mkF m 10 #[.val (.ref a), .val (.ref bl), .val u1, .val u2] [(.ref bl), (.ref a2), (.ref a2), (.ref a)]))
  obtain ⟨_, _, ⟨T3, L3, k3, n3⟩, -, X3, ⟨Lc3, hQ3, l3, y3, z3⟩, st3⟩ := X2.specialBack hx (y := (⟨"java/util/ArrayList", "<init>", "(Ljava/util/Collection;)V"⟩ : MethodName)) rfl hown (mvT hZ (own_g hw 66 rfl)) (mvT hZ (own_g hw 67 rfl)) (mvT hZ (own_g hw 68 rfl)) (by decide) (backOf (W := 2) (rm12_3 l Z a0 hw [] a2 bl b kb w0 w1 w2 mo ee ma h2 n0 Z2 A2 ge_a2 F2_modCount F2_elementData F2_size (VB.ext E2) (XB.ext E2) (Hw0.ext E2) (Hw1.ext E2) (Hw2.ext E2) M_mo (EL.ext E2) (FE.ext E2) (FZ.ext E2) (Sta.ext E2 SE) M_ma (Ne.symm ne_bl_a2) (Ne.symm ne_b_a2)) hZ (own_g hw 68 rfl) (own_g hw 2 rfl) (by decide) (by decide)) (g := (mkF m 10 #[.val (.ref a), .val (.ref bl), .val u1, .val u2] [(.ref bl), (.ref a2), (.ref a2), (.ref a)])) rfl (by rw [hml]; rfl) (Steps.refl _) (a := a2) (argsL := [(.ref bl)]) (rest := [(.ref a2), (.ref a)]) (lenOf pd__28Ljava_2futil_2fCollection_3b_29V rfl) rfl (by show 2 * 0 + _ ≤ _; exact Nat.le_of_eq rfl) (hb hby d11_10) (fun _ _ => ⟨rfl, e2, (by decide : 1 + 1 ≤ _), (by decide : 3 + 3 ≤ _)⟩)
  dsimp only [Pt.U, Pt.locs, Pt.cells, Pt.slots] at X3 l3 y3 z3 st3 hQ3
  subst l3 y3 z3
  obtain ⟨rfl, Nq3, Kq3, fq0_3⟩ := hQ3
  have N3 := Fr.app N0 Nq3
  have Z3 : n0 ≤ T3.heap.size := Nat.le_trans Z2 Kq3.1
  have SZ3 : h0.size ≤ T3.heap.size := Nat.le_trans SZ2 Kq3.1
  have S0_3 := own_Sta_keep (Sta.ext E2 SE) Kq3 (allS (own_ns_exa A2) all0)
  refine own_trans st3 ?_
  show own_Ends p e below F (T3.setTop (mkF m 13 #[.val (.ref a), .val (.ref bl), .val u1, .val u2] [(.ref a2), (.ref a)]))
  obtain ⟨_, _, ⟨T4, L4, k4, n4⟩, -, X4, ⟨Lc4, hQ4, l4, y4, z4⟩, st4⟩ := Jvm.LawKit.callS X3 hx (y := (⟨"java/util/Collections", "unmodifiableList", "(Ljava/util/List;)Ljava/util/List;"⟩ : MethodName)) hown (mvT hZ (own_g hw 105 rfl)) (mvT hZ (own_g hw 106 rfl)) (mvT hZ (own_g hw 107 rfl)) (mvT hZ (own_g hw 108 rfl)) (by decide) (backOf (W := 1) (rm17 l Z a0 hw [] a2 ma mu mv T3.heap n0 Z3 fq0_3 M_ma M_mu M_mv) hZ (own_g hw 108 rfl) (own_g hw 107 rfl) (by decide) (by decide)) (g := (mkF m 13 #[.val (.ref a), .val (.ref bl), .val u1, .val u2] [(.ref a2), (.ref a)])) rfl (by rw [hml]; rfl) (argsL := [(.ref a2)]) (rest := [(.ref a)]) (lenOf pd__28Ljava_2futil_2fList_3b_29Ljava_2futil_2fList_3b rfl) rfl (by show 2 * 0 + _ ≤ _; exact Nat.le_of_eq rfl) (hb hby d11_13) (fun _ _ => ⟨rfl, rfl, (by decide : 2 + 1 ≤ _), (by decide : 6 + 2 ≤ _)⟩)
  dsimp only [Pt.U, Pt.locs, Pt.cells, Pt.slots] at X4 l4 y4 z4 st4 hQ4
  subst l4 y4 z4
  obtain ⟨c4, rfl, Nq4, Kq4⟩ := hQ4
  have N4 := Fr.app N3 Nq4
  have Z4 : n0 ≤ T4.heap.size := Nat.le_trans Z3 Kq4.1
  have SZ4 : h0.size ≤ T4.heap.size := Nat.le_trans SZ3 Kq4.1
  have S0_4 := own_Sta_keep S0_3 Kq4 all0
  refine own_step st4 ?_
  show own_Ends p e below F (T4.setTop (mkF m 16 #[.val (.ref a), .val (.ref bl), .val u1, .val u2] [(.ref c4), (.ref a)]))
  obtain ⟨T5, h5, X5, e5, W5, st5⟩ := putF X4 hx hZ hown (host := "") (Or.inl (own_g hw 145 rfl)) Via.refl rfl (((F_rows.ext E2).keep Kq3 (ninS ne_a_a2 nin0)).keep Kq4 nin0) (((EX.ext E2).keep Kq3).keep Kq4) (Or.inr ⟨(own_g hw 146 rfl), rfl, hnm⟩) (own_g hw 59 rfl) (ty := (.object "java/util/List")) (by decide) rfl rfl (g := (mkF m 16 #[.val (.ref a), .val (.ref bl), .val u1, .val u2] [(.ref c4), (.ref a)])) rfl rfl (hb hby d11_16)
  refine own_step st5 ?_
  have F5 := Fld.same W5 (((F_rows.ext E2).keep Kq3 (ninS ne_a_a2 nin0)).keep Kq4 nin0)
  have N5 := Fr.snoc X5 N4 ge
  have Z5 : n0 ≤ h5.size := by rw [W5.size]; exact Z4
  have SZ5 : h0.size ≤ h5.size := by rw [W5.size]; exact SZ4
  show own_Ends p e below F (T5.setTop (mkF m 19 #[.val (.ref a), .val (.ref bl), .val u1, .val u2] []))
  refine own_step (fun _ k => XS.aloadN X5.here hx rfl (hb hby d11_19) rfl rfl k) ?_
  show own_Ends p e below F (T5.setTop (mkF m 20 #[.val (.ref a), .val (.ref bl), .val u1, .val u2] [(.ref a)]))
  refine own_step (fun _ k => XS.aloadN X5.here hx rfl (hb hby d11_20) rfl r1 k) ?_
  show own_Ends p e below F (T5.setTop (mkF m 21 #[.val (.ref a), .val (.ref bl), .val u1, .val u2] [u1, (.ref a)]))
  obtain ⟨T6, h6, X6, e6, W6, st6⟩ := putF X5 hx hZ hown (host := "") (Or.inl (own_g hw 147 rfl)) Via.refl e5 (Fld.other W5 (((F_previousCursor.ext E2).keep Kq3 (ninS ne_a_a2 nin0)).keep Kq4 nin0) (Or.inr (slot_ne (t := (.object "java/lang/String")) (t' := (.object "java/util/List")) (Or.inr (own_g hw 148 rfl)) (Or.inr (own_g hw 146 rfl)) (by decide) (by decide) (by decide)))) ((((EX.ext E2).keep Kq3).keep Kq4).wr W5) (Or.inr ⟨(own_g hw 148 rfl), rfl, hnm⟩) (own_g hw 59 rfl) (ty := (.object "java/lang/String")) (by decide) (own_nvR r1) (own_fvR r1) (g := (mkF m 21 #[.val (.ref a), .val (.ref bl), .val u1, .val u2] [u1, (.ref a)])) rfl rfl (hb hby d11_21)
  refine own_step st6 ?_
  have F6 := Fld.same W6 (Fld.other W5 (((F_previousCursor.ext E2).keep Kq3 (ninS ne_a_a2 nin0)).keep Kq4 nin0) (Or.inr (slot_ne (t := (.object "java/lang/String")) (t' := (.object "java/util/List")) (Or.inr (own_g hw 148 rfl)) (Or.inr (own_g hw 146 rfl)) (by decide) (by decide) (by decide))))
  have N6 := Fr.snoc X6 N5 ge
  have Z6 : n0 ≤ h6.size := by rw [W6.size]; exact Z5
  have SZ6 : h0.size ≤ h6.size := by rw [W6.size]; exact SZ5
  show own_Ends p e below F (T6.setTop (mkF m 24 #[.val (.ref a), .val (.ref bl), .val u1, .val u2] []))
  refine own_step (fun _ k => XS.aloadN X6.here hx rfl (hb hby d11_24) rfl rfl k) ?_
  show own_Ends p e below F (T6.setTop (mkF m 25 #[.val (.ref a), .val (.ref bl), .val u1, .val u2] [(.ref a)]))
  refine own_step (fun _ k => XS.aloadN X6.here hx rfl (hb hby d11_25) rfl r2 k) ?_
  show own_Ends p e below F (T6.setTop (mkF m 26 #[.val (.ref a), .val (.ref bl), .val u1, .val u2] [u2, (.ref a)]))
  obtain ⟨T7, h7, X7, e7, W7, st7⟩ := putF X6 hx hZ hown (host := "") (Or.inl (own_g hw 149 rfl)) Via.refl e6 (Fld.other W6 (Fld.other W5 (((F_nextCursor.ext E2).keep Kq3 (ninS ne_a_a2 nin0)).keep Kq4 nin0) (Or.inr (slot_ne (t := (.object "java/lang/String")) (t' := (.object "java/util/List")) (Or.inr (own_g hw 150 rfl)) (Or.inr (own_g hw 146 rfl)) (by decide) (by decide) (by decide)))) (Or.inr (slot_ne (t := (.object "java/lang/String")) (t' := (.object "java/lang/String")) (Or.inr (own_g hw 150 rfl)) (Or.inr (own_g hw 148 rfl)) (by decide) (by decide) (by decide)))) (((((EX.ext E2).keep Kq3).keep Kq4).wr W5).wr W6) (Or.inr ⟨(own_g hw 150 rfl), rfl, hnm⟩) (own_g hw 59 rfl) (ty := (.object "java/lang/String")) (by decide) (own_nvR r2) (own_fvR r2) (g := (mkF m 26 #[.val (.ref a), .val (.ref bl), .val u1, .val u2] [u2, (.ref a)])) rfl rfl (hb hby d11_26)
  refine own_step st7 ?_
  have F7 := Fld.same W7 (Fld.other W6 (Fld.other W5 (((F_nextCursor.ext E2).keep Kq3 (ninS ne_a_a2 nin0)).keep Kq4 nin0) (Or.inr (slot_ne (t := (.object "java/lang/String")) (t' := (.object "java/util/List")) (Or.inr (own_g hw 150 rfl)) (Or.inr (own_g hw 146 rfl)) (by decide) (by decide) (by decide)))) (Or.inr (slot_ne (t := (.object "java/lang/String")) (t' := (.object "java/lang/String")) (Or.inr (own_g hw 150 rfl)) (Or.inr (own_g hw 148 rfl)) (by decide) (by decide) (by decide))))
  have N7 := Fr.snoc X7 N6 ge
  have Z7 : n0 ≤ h7.size := by rw [W7.size]; exact Z6
  have SZ7 : h0.size ≤ h7.size := by rw [W7.size]; exact SZ6
  show own_Ends p e below F (T7.setTop (mkF m 29 #[.val (.ref a), .val (.ref bl), .val u1, .val u2] []))
  rw [hF]
  exact own_ret X7 (v := none) (fun _ => rfl) Bd.notSynchronized (fun fs hr => X7.returnOut hx Bd.returns (hb hby d11_29) hr) (by decide) (by decide) (by rw [e7]; exact ⟨rfl, N7, ((Keep.wr (Keep.wr (Keep.wr (Keep.trans (Keep.trans (Keep.ext (Keep.refl _ _) E2) Kq3 (allS (Or.inr sz_a2) all0)) Kq4 all0) W5 (Or.inl (List.mem_of_getElem? (i := 0) rfl))) W6 (Or.inl (List.mem_of_getElem? (i := 0) rfl))) W7 (Or.inl (List.mem_of_getElem? (i := 0) rfl))) : Keep h0 h7 [a]), ((((((EX.ext E2).keep Kq3).keep Kq4).wr W5).wr W6).wr W7), (Fld.other W7 F6 (Or.inr (slot_ne (t := (.object "java/lang/String")) (t' := (.object "java/lang/String")) (Or.inr (own_g hw 148 rfl)) (Or.inr (own_g hw 150 rfl)) (by decide) (by decide) (by decide)))), F7⟩)

theorem d21_0 : decode prog_39_method_6_code 0 = .ok (.aload_n 0, 1) := by decide +kernel
theorem d21_1 : decode prog_39_method_6_code 1 = .ok (.getfield 28, 3) := by decide +kernel
theorem d21_4 : decode prog_39_method_6_code 4 = .ok (.ifnull 7, 3) := by decide +kernel
theorem d21_11 : decode prog_39_method_6_code 11 = .ok (.iconst 0, 1) := by decide +kernel
theorem d21_12 : decode prog_39_method_6_code 12 = .ok (.ireturn, 1) := by decide +kernel
theorem ef_rm21n (m : MethodId) (x0 : Addr) : entryFrame m #[(.ref x0)] 1 = mkF m 0 #[.val (.ref x0)] [] := by first | (simp [entryFrame, mkF, argsToLocals, Value.category, maxLocals]; done) | rfl
def Q21n (Z : State) (a : Addr) (h0 : Heap) (n0 : Nat) (v : Option Value) (h : Heap) (L : List Loc) : Prop := v = some (.int 0) ∧ Fr n0 L ∧ h = h0
set_option maxRecDepth 65536 in
set_option maxHeartbeats 40000000 in
theorem rm21n (l : Launch) (Z : State) (a0 : Array Value) (hw : ∀ d ∈ tables_1, d.before a0 Z = true) (ws : List Jvm.Cond) (a : Addr) (h0 : Heap) (n0 : Nat) (Z0 : n0 ≤ h0.size) (FG : Fld Z h0 a "com/example/greater_than/greaterthan/page/Page" "nextCursor" "Ljava/lang/String;" .null) :
    MetFree l (⟨"com/example/greater_than/greaterthan/page/Page", "hasNext", "()Z"⟩ : MethodName) (head1 (Jvm.Cond.code (⟨"com/example/greater_than/greaterthan/page/Page", "hasNext", "()Z"⟩ : MethodName) prog_39_method_6_code 1 (some .boolean) :: ws) ({ frames := 0, cells := 0, slots := 0, locals := 0 } : Room)) (fun ar U => ar = #[(.ref a)] ∧ Z.Warmed39 U.vm ∧ U.heap = h0) (fun _ _ _ _ _ => True) (fun _ U o U' => ∃ v L, o = .returned v ∧ Q21n Z a h0 n0 v U'.heap L ∧ FrameEnd U o U' L ({ frames := 0, cells := 0, slots := 0, locals := 0 } : Room).cells ({ frames := 0, cells := 0, slots := 0, locals := 0 } : Room).slots) := by
  refine MetFree.of_bodySF (plainFor_of_name pn_com_example_greater_than_greaterthan_page_Page) hisR ?_
  intro p e s m args below meth c s₁ Bd hml0 hP hK
  obtain ⟨rfl, hZ, hh⟩ := hP
  have hx := Bd.exec
  have hby := Bd.bytes
  have hml : c.maxLocals = 1 := hml0
  have hown : s.vm.findClass "com/example/greater_than/greaterthan/page/Page" = some m.cls := findClass_of_methodNamed Bd.named
  have hnm := (name_of_methodNamed Bd.named Bd.method).1
  have X0 : Stand p l e ({ frames := 0, cells := 0, slots := 0, locals := 0 } : Room) s m #[(.ref a)] below meth c s₁ [] 0 0 := Stand.of_body Bd
  have e0 : s₁.heap = h0 := by rw [← hh, Bd.state]; rfl
  have N0 := Fr.nil n0
  obtain ⟨F, hF⟩ : ∃ F, F = own_Fin s (Q21n Z a h0 n0) ({ frames := 0, cells := 0, slots := 0, locals := 0 } : Room).cells ({ frames := 0, cells := 0, slots := 0, locals := 0 } : Room).slots := ⟨_, rfl⟩
  show own_Ends p e below (own_Fin s (Q21n Z a h0 n0) ({ frames := 0, cells := 0, slots := 0, locals := 0 } : Room).cells ({ frames := 0, cells := 0, slots := 0, locals := 0 } : Room).slots) _
  rw [← hF, ef_rm21n m a]
  show own_Ends p e below F (s₁.setTop (mkF m 0 #[.val (.ref a)] []))
  refine own_step (fun _ k => XS.aloadN X0.here hx rfl (hb hby d21_0) rfl rfl k) ?_
  show own_Ends p e below F (s₁.setTop (mkF m 1 #[.val (.ref a)] [(.ref a)]))
  obtain ⟨T1, X1, e1, st1⟩ := getF X0 hx hZ hown (host := "") (Or.inl (own_g hw 149 rfl)) Via.refl e0 FG (g := (mkF m 1 #[.val (.ref a)] [(.ref a)])) rfl rfl (hb hby d21_1)
  refine own_step st1 ?_
  show own_Ends p e below F (T1.setTop (mkF m 4 #[.val (.ref a)] [.null]))
  refine own_step (fun _ k => XS.ifnullYes X1.here hx rfl (pc0 := 4) (pc' := 11) rfl (hb hby d21_4) rfl (by decide) (by decide) k) ?_
  show own_Ends p e below F (T1.setTop (mkF m 11 #[.val (.ref a)] []))
  refine own_step (fun _ k => XS.iconst X1.here hx rfl (hb hby d21_11) k) ?_
  show own_Ends p e below F (T1.setTop (mkF m 12 #[.val (.ref a)] [(.int (0 : Int32))]))
  rw [hF]
  exact own_ret X1 (v := (some (.int (nar .boolean (0 : Int32))))) (fun h => by rw [Bd.returns] at h; cases h) Bd.notSynchronized (fun fs hr => retN X1 hx (t := .boolean) Bd.returns (by simp) (hb hby d21_12) hr) (by decide) (by decide) (by rw [e1]; exact ⟨rfl, N0, rfl⟩)

theorem d21_7 : decode prog_39_method_6_code 7 = .ok (.iconst 1, 1) := by decide +kernel
theorem d21_8 : decode prog_39_method_6_code 8 = .ok (.goto 4, 3) := by decide +kernel
theorem ef_rm21r (m : MethodId) (x0 : Addr) : entryFrame m #[(.ref x0)] 1 = mkF m 0 #[.val (.ref x0)] [] := by first | (simp [entryFrame, mkF, argsToLocals, Value.category, maxLocals]; done) | rfl
def Q21r (Z : State) (a b : Addr) (h0 : Heap) (n0 : Nat) (v : Option Value) (h : Heap) (L : List Loc) : Prop := v = some (.int 1) ∧ Fr n0 L ∧ h = h0
set_option maxRecDepth 65536 in
set_option maxHeartbeats 40000000 in
theorem rm21r (l : Launch) (Z : State) (a0 : Array Value) (hw : ∀ d ∈ tables_1, d.before a0 Z = true) (ws : List Jvm.Cond) (a b : Addr) (h0 : Heap) (n0 : Nat) (Z0 : n0 ≤ h0.size) (FG : Fld Z h0 a "com/example/greater_than/greaterthan/page/Page" "nextCursor" "Ljava/lang/String;" (.ref b)) :
    MetFree l (⟨"com/example/greater_than/greaterthan/page/Page", "hasNext", "()Z"⟩ : MethodName) (head1 (Jvm.Cond.code (⟨"com/example/greater_than/greaterthan/page/Page", "hasNext", "()Z"⟩ : MethodName) prog_39_method_6_code 1 (some .boolean) :: ws) ({ frames := 0, cells := 0, slots := 0, locals := 0 } : Room)) (fun ar U => ar = #[(.ref a)] ∧ Z.Warmed39 U.vm ∧ U.heap = h0) (fun _ _ _ _ _ => True) (fun _ U o U' => ∃ v L, o = .returned v ∧ Q21r Z a b h0 n0 v U'.heap L ∧ FrameEnd U o U' L ({ frames := 0, cells := 0, slots := 0, locals := 0 } : Room).cells ({ frames := 0, cells := 0, slots := 0, locals := 0 } : Room).slots) := by
  refine MetFree.of_bodySF (plainFor_of_name pn_com_example_greater_than_greaterthan_page_Page) hisR ?_
  intro p e s m args below meth c s₁ Bd hml0 hP hK
  obtain ⟨rfl, hZ, hh⟩ := hP
  have hx := Bd.exec
  have hby := Bd.bytes
  have hml : c.maxLocals = 1 := hml0
  have hown : s.vm.findClass "com/example/greater_than/greaterthan/page/Page" = some m.cls := findClass_of_methodNamed Bd.named
  have hnm := (name_of_methodNamed Bd.named Bd.method).1
  have X0 : Stand p l e ({ frames := 0, cells := 0, slots := 0, locals := 0 } : Room) s m #[(.ref a)] below meth c s₁ [] 0 0 := Stand.of_body Bd
  have e0 : s₁.heap = h0 := by rw [← hh, Bd.state]; rfl
  have N0 := Fr.nil n0
  obtain ⟨F, hF⟩ : ∃ F, F = own_Fin s (Q21r Z a b h0 n0) ({ frames := 0, cells := 0, slots := 0, locals := 0 } : Room).cells ({ frames := 0, cells := 0, slots := 0, locals := 0 } : Room).slots := ⟨_, rfl⟩
  show own_Ends p e below (own_Fin s (Q21r Z a b h0 n0) ({ frames := 0, cells := 0, slots := 0, locals := 0 } : Room).cells ({ frames := 0, cells := 0, slots := 0, locals := 0 } : Room).slots) _
  rw [← hF, ef_rm21r m a]
  show own_Ends p e below F (s₁.setTop (mkF m 0 #[.val (.ref a)] []))
  refine own_step (fun _ k => XS.aloadN X0.here hx rfl (hb hby d21_0) rfl rfl k) ?_
  show own_Ends p e below F (s₁.setTop (mkF m 1 #[.val (.ref a)] [(.ref a)]))
  obtain ⟨T1, X1, e1, st1⟩ := getF X0 hx hZ hown (host := "") (Or.inl (own_g hw 149 rfl)) Via.refl e0 FG (g := (mkF m 1 #[.val (.ref a)] [(.ref a)])) rfl rfl (hb hby d21_1)
  refine own_step st1 ?_
  show own_Ends p e below F (T1.setTop (mkF m 4 #[.val (.ref a)] [(.ref b)]))
  refine own_step (fun _ k => XS.ifnullNo X1.here hx rfl (hb hby d21_4) rfl k) ?_
  show own_Ends p e below F (T1.setTop (mkF m 7 #[.val (.ref a)] []))
  refine own_step (fun _ k => XS.iconst X1.here hx rfl (hb hby d21_7) k) ?_
  show own_Ends p e below F (T1.setTop (mkF m 8 #[.val (.ref a)] [(.int (1 : Int32))]))
  refine own_step (fun _ k => XS.goto X1.here hx rfl (pc0 := 8) (pc' := 12) rfl (hb hby d21_8) (by decide) (by decide) k) ?_
  show own_Ends p e below F (T1.setTop (mkF m 12 #[.val (.ref a)] [(.int (1 : Int32))]))
  rw [hF]
  exact own_ret X1 (v := (some (.int (nar .boolean (1 : Int32))))) (fun h => by rw [Bd.returns] at h; cases h) Bd.notSynchronized (fun fs hr => retN X1 hx (t := .boolean) Bd.returns (by simp) (hb hby d21_12) hr) (by decide) (by decide) (by rw [e1]; exact ⟨rfl, N0, rfl⟩)

theorem own_sa : ∀ d ∈ Bundle.stringAtoms, d ∈ tables_1 := by decide +kernel
theorem d5_0 : decode method_2_code 0 = .ok (.iload_n 0, 1) := by decide +kernel
theorem d5_1 : decode method_2_code 1 = .ok (.ifCond .eq 5, 3) := by decide +kernel
theorem d5_4 : decode method_2_code 4 = .ok (.aconst_null, 1) := by decide +kernel
theorem d5_5 : decode method_2_code 5 = .ok (.areturn, 1) := by decide +kernel
theorem d5_6 : decode method_2_code 6 = .ok (.iload_n 1, 1) := by decide +kernel
theorem d5_7 : decode method_2_code 7 = .ok (.ifCond .eq 6, 3) := by decide +kernel
theorem d5_10 : decode method_2_code 10 = .ok (.ldc 7, 2) := by decide +kernel
theorem d5_12 : decode method_2_code 12 = .ok (.areturn, 1) := by decide +kernel
theorem d5_13 : decode method_2_code 13 = .ok (.iconst 2, 1) := by decide +kernel
theorem d5_14 : decode method_2_code 14 = .ok (.newarray .char, 2) := by decide +kernel
theorem d5_16 : decode method_2_code 16 = .ok (.astore 4, 2) := by decide +kernel
theorem d5_18 : decode method_2_code 18 = .ok (.aload 4, 2) := by decide +kernel
theorem d5_20 : decode method_2_code 20 = .ok (.iconst 0, 1) := by decide +kernel
theorem d5_21 : decode method_2_code 21 = .ok (.iload_n 2, 1) := by decide +kernel
theorem d5_22 : decode method_2_code 22 = .ok (.sipush 255, 3) := by decide +kernel
theorem d5_25 : decode method_2_code 25 = .ok (.iand, 1) := by decide +kernel
theorem d5_26 : decode method_2_code 26 = .ok (.i2c, 1) := by decide +kernel
theorem d5_27 : decode method_2_code 27 = .ok (.castore, 1) := by decide +kernel
theorem d5_28 : decode method_2_code 28 = .ok (.aload 4, 2) := by decide +kernel
theorem d5_30 : decode method_2_code 30 = .ok (.iconst 1, 1) := by decide +kernel
theorem d5_31 : decode method_2_code 31 = .ok (.iload_n 3, 1) := by decide +kernel
theorem d5_32 : decode method_2_code 32 = .ok (.sipush 255, 3) := by decide +kernel
theorem d5_35 : decode method_2_code 35 = .ok (.iand, 1) := by decide +kernel
theorem d5_36 : decode method_2_code 36 = .ok (.i2c, 1) := by decide +kernel
theorem d5_37 : decode method_2_code 37 = .ok (.castore, 1) := by decide +kernel
theorem d5_38 : decode method_2_code 38 = .ok (.new 9, 3) := by decide +kernel
theorem d5_41 : decode method_2_code 41 = .ok (.dup, 1) := by decide +kernel
theorem d5_42 : decode method_2_code 42 = .ok (.aload 4, 2) := by decide +kernel
theorem d5_44 : decode method_2_code 44 = .ok (.invokespecial 11, 3) := by decide +kernel
theorem d5_47 : decode method_2_code 47 = .ok (.areturn, 1) := by decide +kernel
theorem pn_com_example_greater_than_greaterthan_page_PageHasNextPinLaw : plainName "com/example/greater_than/greaterthan/page/PageHasNextPinLaw" = true := by first | (simp [plainName, overriddenIn]; done) | decide +kernel
theorem pd__28_5bC_29V : parseMethodDescriptor "([C)V" = some ⟨[(.array .char)], none⟩ := by decide +kernel
theorem ef_rm5 (m : MethodId) (x0 : Int32) (x1 : Int32) (x2 : Int32) (x3 : Int32) : entryFrame m #[(.int x0), (.int x1), (.int x2), (.int x3)] 5 = mkF m 0 #[.val (.int x0), .val (.int x1), .val (.int x2), .val (.int x3), .unset] [] := by first | (simp [entryFrame, mkF, argsToLocals, Value.category, maxLocals]; done) | rfl
def Q5 (Z : State) (p1 p2 p3 p4 zc : Int32) (h0 : Heap) (n0 : Nat) (v : Option Value) (h : Heap) (L : List Loc) : Prop := ∃ u : Value, v = some u ∧ Fr n0 L ∧ Keep h0 h [] ∧ u.isRef = true
set_option maxRecDepth 65536 in
set_option maxHeartbeats 40000000 in
theorem rm5 (l : Launch) (Z : State) (a0 : Array Value) (hw : ∀ d ∈ tables_1, d.before a0 Z = true) (ws : List Jvm.Cond) (p1 p2 p3 p4 zc : Int32) (h0 : Heap) (n0 : Nat) (Z0 : n0 ≤ h0.size) (SC : Sta Z h0 "java/lang/String" "COMPACT_STRINGS" "Z" (.int zc)) (hz : ¬ zc = 0) :
    MetFree l (⟨"com/example/greater_than/greaterthan/page/PageHasNextPinLaw", "cursor", "(ZZII)Ljava/lang/String;"⟩ : MethodName) (head1 (Jvm.Cond.code (⟨"com/example/greater_than/greaterthan/page/PageHasNextPinLaw", "cursor", "(ZZII)Ljava/lang/String;"⟩ : MethodName) method_2_code 5 (some (.object "java/lang/String")) :: ws) ({ frames := 4, cells := 3, slots := 8, locals := 66 } : Room)) (fun ar U => ar = #[(.int p1), (.int p2), (.int p3), (.int p4)] ∧ Z.Warmed39 U.vm ∧ U.heap = h0) (fun _ _ _ _ _ => True) (fun _ U o U' => ∃ v L, o = .returned v ∧ Q5 Z p1 p2 p3 p4 zc h0 n0 v U'.heap L ∧ ReturnedEndW U o U' L ({ frames := 4, cells := 3, slots := 8, locals := 66 } : Room).cells ({ frames := 4, cells := 3, slots := 8, locals := 66 } : Room).slots) := by
  refine MetFree.of_bodySF (plainFor_of_name pn_com_example_greater_than_greaterthan_page_PageHasNextPinLaw) hisR ?_
  intro p e s m args below meth c s₁ Bd hml0 hP hK
  obtain ⟨rfl, hZ, hh⟩ := hP
  have hx := Bd.exec
  have hby := Bd.bytes
  have hml : c.maxLocals = 5 := hml0
  have hown : s.vm.findClass "com/example/greater_than/greaterthan/page/PageHasNextPinLaw" = some m.cls := findClass_of_methodNamed Bd.named
  have hnm := (name_of_methodNamed Bd.named Bd.method).1
  have X0 : Stand p l e ({ frames := 4, cells := 3, slots := 8, locals := 66 } : Room) (s.setVm s.vm) m #[(.int p1), (.int p2), (.int p3), (.int p4)] below meth c s₁ [] 0 0 := Stand.of_body Bd
  have e0 : s₁.heap = h0 := by rw [← hh, Bd.state]; rfl
  have N0 := Fr.nil n0
  have hS : s.Since s.vm h0.size := (State.WarmedH.refl s).since _
  have hk := Nat.le_refl h0.size
  obtain ⟨F, hF⟩ : ∃ F, F = own_FinW s (Q5 Z p1 p2 p3 p4 zc h0 n0) ({ frames := 4, cells := 3, slots := 8, locals := 66 } : Room).cells ({ frames := 4, cells := 3, slots := 8, locals := 66 } : Room).slots := ⟨_, rfl⟩
  show own_Ends p e below (own_FinW s (Q5 Z p1 p2 p3 p4 zc h0 n0) ({ frames := 4, cells := 3, slots := 8, locals := 66 } : Room).cells ({ frames := 4, cells := 3, slots := 8, locals := 66 } : Room).slots) _
  rw [← hF, ef_rm5 m p1 p2 p3 p4]
  show own_Ends p e below F (s₁.setTop (mkF m 0 #[.val (.int p1), .val (.int p2), .val (.int p3), .val (.int p4), .unset] []))
  refine own_step (fun _ k => XS.iloadN X0.here hx rfl (hb hby d5_0) rfl k) ?_
  show own_Ends p e below F (s₁.setTop (mkF m 1 #[.val (.int p1), .val (.int p2), .val (.int p3), .val (.int p4), .unset] [(.int p1)]))
  by_cases c1_1 : p1 = (0 : Int32)
  · refine own_step (fun _ k => XS.ifYes X0.here hx rfl (pc0 := 1) (pc' := 6) rfl (hb hby d5_1) rfl ((if0 _ _).trans (teq c1_1).1) (by decide) (by decide) k) ?_
    show own_Ends p e below F (s₁.setTop (mkF m 6 #[.val (.int p1), .val (.int p2), .val (.int p3), .val (.int p4), .unset] []))
    refine own_step (fun _ k => XS.iloadN X0.here hx rfl (hb hby d5_6) rfl k) ?_
    show own_Ends p e below F (s₁.setTop (mkF m 7 #[.val (.int p1), .val (.int p2), .val (.int p3), .val (.int p4), .unset] [(.int p2)]))
    by_cases c7_2 : p2 = (0 : Int32)
    · refine own_step (fun _ k => XS.ifYes X0.here hx rfl (pc0 := 7) (pc' := 13) rfl (hb hby d5_7) rfl ((if0 _ _).trans (teq c7_2).1) (by decide) (by decide) k) ?_
      show own_Ends p e below F (s₁.setTop (mkF m 13 #[.val (.int p1), .val (.int p2), .val (.int p3), .val (.int p4), .unset] []))
      refine own_step (fun _ k => XS.iconst X0.here hx rfl (hb hby d5_13) k) ?_
      show own_Ends p e below F (s₁.setTop (mkF m 14 #[.val (.int p1), .val (.int p2), .val (.int p3), .val (.int p4), .unset] [(.int (2 : Int32))]))
      obtain ⟨T3, h3, k3, X3, e3, E3, A3, st3⟩ := newP X0 hx hZ (own_g hw 30 rfl) e0 (g := (mkF m 14 #[.val (.int p1), .val (.int p2), .val (.int p3), .val (.int p4), .unset] [(.int (2 : Int32))])) rfl (hb hby d5_14) rfl (by decide) (cap := 2) (by decide) (by decide) (by decide) (by decide)
      obtain ⟨a3, g3⟩ : ∃ z, z = h0.size := ⟨_, rfl⟩
      rw [← g3] at A3 st3
      have ge_a3 : n0 ≤ a3 := Nat.le_trans Z0 (Nat.le_of_eq g3.symm)
      have sz_a3 : h0.size ≤ a3 := Nat.le_trans (Nat.le_refl h0.size) (Nat.le_of_eq g3.symm)
      have Z3 : n0 ≤ h3.size := Nat.le_trans Z0 E3.1
      have SZ3 : h0.size ≤ h3.size := Nat.le_trans (Nat.le_refl h0.size) E3.1
      have hk := Nat.le_trans hk E3.1
      have V3 : Arv Z h3 a3 k3 .char (2 : Int32) [(.int (0 : Int32)), (.int (0 : Int32))] (.int (0 : Int32)) := Arv.pad (Arv.new A3 (by decide)) (pad_rep [] _ 2)
      refine own_step st3 ?_
      show own_Ends p e below F (T3.setTop (mkF m 16 #[.val (.int p1), .val (.int p2), .val (.int p3), .val (.int p4), .unset] [(.ref a3)]))
      refine own_step (fun _ k => XS.astore X3.here hx rfl (hb hby d5_16) rfl rfl (l' := #[.val (.int p1), .val (.int p2), .val (.int p3), .val (.int p4), .val (.ref a3)]) rfl k) ?_
      show own_Ends p e below F (T3.setTop (mkF m 18 #[.val (.int p1), .val (.int p2), .val (.int p3), .val (.int p4), .val (.ref a3)] []))
      refine own_step (fun _ k => XS.aload X3.here hx rfl (hb hby d5_18) rfl rfl k) ?_
      show own_Ends p e below F (T3.setTop (mkF m 20 #[.val (.int p1), .val (.int p2), .val (.int p3), .val (.int p4), .val (.ref a3)] [(.ref a3)]))
      refine own_step (fun _ k => XS.iconst X3.here hx rfl (hb hby d5_20) k) ?_
      show own_Ends p e below F (T3.setTop (mkF m 21 #[.val (.int p1), .val (.int p2), .val (.int p3), .val (.int p4), .val (.ref a3)] [(.int (0 : Int32)), (.ref a3)]))
      refine own_step (fun _ k => XS.iloadN X3.here hx rfl (hb hby d5_21) rfl k) ?_
      show own_Ends p e below F (T3.setTop (mkF m 22 #[.val (.int p1), .val (.int p2), .val (.int p3), .val (.int p4), .val (.ref a3)] [(.int p3), (.int (0 : Int32)), (.ref a3)]))
      refine own_step (fun _ k => XS.sipush X3.here hx rfl (hb hby d5_22) k) ?_
      show own_Ends p e below F (T3.setTop (mkF m 25 #[.val (.int p1), .val (.int p2), .val (.int p3), .val (.int p4), .val (.ref a3)] [(.int (255 : Int32)), (.int p3), (.int (0 : Int32)), (.ref a3)]))
      refine own_step (fun _ k => XS.iand X3.here hx rfl (hb hby d5_25) rfl k) ?_
      show own_Ends p e below F (T3.setTop (mkF m 26 #[.val (.int p1), .val (.int p2), .val (.int p3), .val (.int p4), .val (.ref a3)] [(.int (p3 &&& (255 : Int32))), (.int (0 : Int32)), (.ref a3)]))
      refine own_step (fun _ k => XS.i2c X3.here hx rfl (hb hby d5_26) rfl k) ?_
      show own_Ends p e below F (T3.setTop (mkF m 27 #[.val (.int p1), .val (.int p2), .val (.int p3), .val (.int p4), .val (.ref a3)] [(.int ((p3 &&& (255 : Int32)).toUInt32.toUInt16.toUInt32.toInt32)), (.int (0 : Int32)), (.ref a3)]))
      obtain ⟨v4, ev4⟩ : ∃ z : Int32, z = ((p3 &&& (255 : Int32)).toUInt32.toUInt16.toUInt32.toInt32) := ⟨_, rfl⟩
      rw [← ev4]
      show own_Ends p e below F (T3.setTop (mkF m 27 #[.val (.int p1), .val (.int p2), .val (.int p3), .val (.int p4), .val (.ref a3)] [(.int v4), (.int (0 : Int32)), (.ref a3)]))
      have ch_v4 := own_c8 ev4
      obtain ⟨cl5, Ar5, q5, S5, M5, H5, G5⟩ := id V3
      have hin5 : ¬ ((0 : Int32) < 0 ∨ cl5.slots.size ≤ ((0 : Int32) : Int32).toNatClampNeg) := inb_of S5 ⟨by decide, by decide⟩
      obtain ⟨T5, h5, X5, e5, W5, st5⟩ := stC X3 hx hZ e3 Ar5 (j := (0 : Int32)) hin5 (g := (mkF m 27 #[.val (.int p1), .val (.int p2), .val (.int p3), .val (.int p4), .val (.ref a3)] [(.int v4), (.int (0 : Int32)), (.ref a3)])) rfl rfl (hb hby d5_27)
      rw [own_narC ch_v4] at W5
      have V5 := Arv.set Ar5 q5 S5 M5 H5 G5 (own_fitC ch_v4) W5 0 rfl (Nat.le_of_ble_eq_true rfl)
      have V5 : Arv Z h5 a3 k3 .char (2 : Int32) [(.int v4), (.int (0 : Int32))] (.int (0 : Int32)) := V5
      refine own_step st5 ?_
      have N5 := Fr.snoc X5 N0 ge_a3
      have Z5 : n0 ≤ h5.size := by rw [W5.size]; exact Z3
      have SZ5 : h0.size ≤ h5.size := by rw [W5.size]; exact SZ3
      have hk := (W5.size.symm ▸ hk : _ ≤ h5.size)
      show own_Ends p e below F (T5.setTop (mkF m 28 #[.val (.int p1), .val (.int p2), .val (.int p3), .val (.int p4), .val (.ref a3)] []))
      refine own_step (fun _ k => XS.aload X5.here hx rfl (hb hby d5_28) rfl rfl k) ?_
      show own_Ends p e below F (T5.setTop (mkF m 30 #[.val (.int p1), .val (.int p2), .val (.int p3), .val (.int p4), .val (.ref a3)] [(.ref a3)]))
      refine own_step (fun _ k => XS.iconst X5.here hx rfl (hb hby d5_30) k) ?_
      show own_Ends p e below F (T5.setTop (mkF m 31 #[.val (.int p1), .val (.int p2), .val (.int p3), .val (.int p4), .val (.ref a3)] [(.int (1 : Int32)), (.ref a3)]))
      refine own_step (fun _ k => XS.iloadN X5.here hx rfl (hb hby d5_31) rfl k) ?_
      show own_Ends p e below F (T5.setTop (mkF m 32 #[.val (.int p1), .val (.int p2), .val (.int p3), .val (.int p4), .val (.ref a3)] [(.int p4), (.int (1 : Int32)), (.ref a3)]))
      refine own_step (fun _ k => XS.sipush X5.here hx rfl (hb hby d5_32) k) ?_
      show own_Ends p e below F (T5.setTop (mkF m 35 #[.val (.int p1), .val (.int p2), .val (.int p3), .val (.int p4), .val (.ref a3)] [(.int (255 : Int32)), (.int p4), (.int (1 : Int32)), (.ref a3)]))
      refine own_step (fun _ k => XS.iand X5.here hx rfl (hb hby d5_35) rfl k) ?_
      show own_Ends p e below F (T5.setTop (mkF m 36 #[.val (.int p1), .val (.int p2), .val (.int p3), .val (.int p4), .val (.ref a3)] [(.int (p4 &&& (255 : Int32))), (.int (1 : Int32)), (.ref a3)]))
      refine own_step (fun _ k => XS.i2c X5.here hx rfl (hb hby d5_36) rfl k) ?_
      show own_Ends p e below F (T5.setTop (mkF m 37 #[.val (.int p1), .val (.int p2), .val (.int p3), .val (.int p4), .val (.ref a3)] [(.int ((p4 &&& (255 : Int32)).toUInt32.toUInt16.toUInt32.toInt32)), (.int (1 : Int32)), (.ref a3)]))
      obtain ⟨v6, ev6⟩ : ∃ z : Int32, z = ((p4 &&& (255 : Int32)).toUInt32.toUInt16.toUInt32.toInt32) := ⟨_, rfl⟩
      rw [← ev6]
      show own_Ends p e below F (T5.setTop (mkF m 37 #[.val (.int p1), .val (.int p2), .val (.int p3), .val (.int p4), .val (.ref a3)] [(.int v6), (.int (1 : Int32)), (.ref a3)]))
      have ch_v6 := own_c8 ev6
      obtain ⟨cl7, Ar7, q7, S7, M7, H7, G7⟩ := id V5
      have hin7 : ¬ ((1 : Int32) < 0 ∨ cl7.slots.size ≤ ((1 : Int32) : Int32).toNatClampNeg) := inb_of S7 ⟨by decide, by decide⟩
      obtain ⟨T7, h7, X7, e7, W7, st7⟩ := stC X5 hx hZ e5 Ar7 (j := (1 : Int32)) hin7 (g := (mkF m 37 #[.val (.int p1), .val (.int p2), .val (.int p3), .val (.int p4), .val (.ref a3)] [(.int v6), (.int (1 : Int32)), (.ref a3)])) rfl rfl (hb hby d5_37)
      rw [own_narC ch_v6] at W7
      have V7 := Arv.set Ar7 q7 S7 M7 H7 G7 (own_fitC ch_v6) W7 1 rfl (Nat.le_of_ble_eq_true rfl)
      have V7 : Arv Z h7 a3 k3 .char (2 : Int32) [(.int v4), (.int v6)] (.int (0 : Int32)) := V7
      refine own_step st7 ?_
      have N7 := Fr.snoc X7 N5 ge_a3
      have Z7 : n0 ≤ h7.size := by rw [W7.size]; exact Z5
      have SZ7 : h0.size ≤ h7.size := by rw [W7.size]; exact SZ5
      have hk := (W7.size.symm ▸ hk : _ ≤ h7.size)
      show own_Ends p e below F (T7.setTop (mkF m 38 #[.val (.int p1), .val (.int p2), .val (.int p3), .val (.int p4), .val (.ref a3)] []))
      obtain ⟨T8, h8, X8, e8, E8, A8, D8, -, st8⟩ := newO X7 hx hZ hown (own_g hw 31 rfl) (own_g hw 32 rfl) (own_g hw 33 rfl) e7 (g := (mkF m 38 #[.val (.int p1), .val (.int p2), .val (.int p3), .val (.int p4), .val (.ref a3)] [])) rfl (hb hby d5_38) (by decide) (by decide)
      obtain ⟨a8, g8⟩ : ∃ z, z = h7.size := ⟨_, rfl⟩
      rw [← g8] at A8 D8 st8
      have ge_a8 : n0 ≤ a8 := Nat.le_trans Z7 (Nat.le_of_eq g8.symm)
      have sz_a8 : h0.size ≤ a8 := Nat.le_trans SZ7 (Nat.le_of_eq g8.symm)
      have ne_a3_a8 : a3 ≠ a8 := Nat.ne_of_lt (by rw [g8]; exact V7.lt)
      have Z8 : n0 ≤ h8.size := Nat.le_trans Z7 E8.1
      have SZ8 : h0.size ≤ h8.size := Nat.le_trans SZ7 E8.1
      have hk := Nat.le_trans hk E8.1
      have F8_coder : Fld Z h8 a8 "java/lang/String" "coder" "B" (.int (0 : Int32)) := D8 (Or.inr (own_g hw 55 rfl)) (ty := .byte) (by decide)
      have F8_value : Fld Z h8 a8 "java/lang/String" "value" "[B" .null := D8 (Or.inr (own_g hw 57 rfl)) (ty := (.array .byte)) (by decide)
      refine own_step st8 ?_
      show own_Ends p e below F (T8.setTop (mkF m 41 #[.val (.int p1), .val (.int p2), .val (.int p3), .val (.int p4), .val (.ref a3)] [(.ref a8)]))
      refine own_step (fun _ k => XS.dup X8.here hx rfl (hb hby d5_41) rfl rfl k) ?_
      show own_Ends p e below F (T8.setTop (mkF m 42 #[.val (.int p1), .val (.int p2), .val (.int p3), .val (.int p4), .val (.ref a3)] [(.ref a8), (.ref a8)]))
      refine own_step (fun _ k => XS.aload X8.here hx rfl (hb hby d5_42) rfl rfl k) ?_
      show own_Ends p e below F (T8.setTop (mkF m 44 #[.val (.int p1), .val (.int p2), .val (.int p3), .val (.int p4), .val (.ref a3)] [(.ref a3), (.ref a8), (.ref a8)]))
      obtain ⟨_, _, ⟨T9, L9, k9, n9⟩, -, X9, ⟨Lc9, hQ9, l9, y9, z9⟩, st9⟩ := X8.specialBack hx (y := (⟨"java/lang/String", "<init>", "([C)V"⟩ : MethodName)) rfl hown (mvT hZ (own_g hw 34 rfl)) (mvT hZ (own_g hw 35 rfl)) (mvT hZ (own_g hw 36 rfl)) (by decide) (StrChars.Road.backV (W := 1) hZ (fun d hd => hw d ((by decide +kernel : ∀ d ∈ StrChars.Road.words, d ∈ tables_1) d hd)) (kI := 4) (own_g hw 32 rfl) (cs := ([v4, v6] : List Int32)) (bs := ([v4, v6] : List Int32).map (fun c => c.toInt8.toInt32)) (n := 2) ge_a8 Z8 A8 F8_value F8_coder (V7.ext E8) (Sta.ext E8 (Sta.wr W7 (Sta.wr W5 (Sta.ext E3 SC)))) hz rfl rfl (by decide) (by decide) (own_cS ch_v4 (own_cS ch_v6 own_c0)) rfl (by decide) (by decide)) (g := (mkF m 44 #[.val (.int p1), .val (.int p2), .val (.int p3), .val (.int p4), .val (.ref a3)] [(.ref a3), (.ref a8), (.ref a8)])) rfl (by rw [hml]; rfl) (Steps.refl _) (a := a8) (argsL := [(.ref a3)]) (rest := [(.ref a8)]) (lenOf pd__28_5bC_29V rfl) rfl (by show 2 * 0 + _ ≤ _; exact Nat.le_of_eq rfl) (hb hby d5_44) (fun _ _ => ⟨rfl, e8, (by decide : 2 + 1 ≤ _), (by decide : 6 + 2 ≤ _)⟩)
      dsimp only [Pt.U, Pt.locs, Pt.cells, Pt.slots] at X9 l9 y9 z9 st9 hQ9
      subst l9 y9 z9
      obtain ⟨rfl, Nq9, Kq9, fe9, fc9, tt9, kt9, -, -, -, fv9, fa9⟩ := hQ9
      have N9 := Fr.app N7 Nq9
      have Z9 : n0 ≤ T9.heap.size := Nat.le_trans Z8 Kq9.1
      have SZ9 : h0.size ≤ T9.heap.size := Nat.le_trans SZ8 Kq9.1
      have S0_9 := own_Sta_keep (Sta.ext E8 (Sta.wr W7 (Sta.wr W5 (Sta.ext E3 SC)))) Kq9 (allS (own_ns_exa A8) all0)
      have str9 : own_Str Z T9.heap T9.heap.size a8 ([v4, v6] : List Int32) := own_Str.mk fe9 fc9 fv9 fa9 rfl rfl (own_cS ch_v4 (own_cS ch_v6 own_c0))
      have hk := Nat.le_trans hk Kq9.1
      refine own_trans st9 ?_
      show own_Ends p e below F (T9.setTop (mkF m 47 #[.val (.int p1), .val (.int p2), .val (.int p3), .val (.int p4), .val (.ref a3)] [(.ref a8)]))
      rw [hF]
      exact own_retW X9 hS (by exact hk) (v := (some (.ref a8))) (fun h => by rw [Bd.returns] at h; cases h) Bd.notSynchronized (fun fs hr => retOut X9 hx (t := (.object "java/lang/String")) (w := (.ref a8)) (i := .areturn) Bd.returns rfl (Or.inr (Or.inr (Or.inr (Or.inr ⟨rfl, rfl, rfl⟩)))) (hb hby d5_47) hr) (by decide) (by decide) (by exact ⟨_, rfl, N9, ((Keep.trans (Keep.ext (Keep.wr (Keep.wr (Keep.ext (Keep.refl _ _) E3) W5 (Or.inr sz_a3)) W7 (Or.inr sz_a3)) E8) Kq9 (allS (Or.inr sz_a8) all0)) : Keep h0 T9.heap []), rfl⟩)
    · refine own_step (fun _ k => XS.ifNo X0.here hx rfl (hb hby d5_7) rfl ((if0 _ _).trans (feq c7_2).1) k) ?_
      show own_Ends p e below F (s₁.setTop (mkF m 10 #[.val (.int p1), .val (.int p2), .val (.int p3), .val (.int p4), .unset] []))
      obtain ⟨a10, T10, h10, k10, X10, e10, E10, hS, hk, hZ, hown, st10⟩ := ldcS X0 hx hZ hown (own_g hw 156 rfl) (fun d hd => hw d (own_sa d hd)) e0 hS hk (g := (mkF m 10 #[.val (.int p1), .val (.int p2), .val (.int p3), .val (.int p4), .unset] [])) rfl (hb hby d5_10) (n := 0) (by decide) (by decide) (by decide) (by decide)
      have Z10 : n0 ≤ h10.size := Nat.le_trans Z0 E10.1
      have SZ10 : h0.size ≤ h10.size := Nat.le_trans (Nat.le_refl h0.size) E10.1
      refine own_step st10 ?_
      show own_Ends p e below F (T10.setTop (mkF m 12 #[.val (.int p1), .val (.int p2), .val (.int p3), .val (.int p4), .unset] [(.ref a10)]))
      rw [hF]
      exact own_retW X10 hS (by rw [e10]; exact hk) (v := (some (.ref a10))) (fun h => by rw [Bd.returns] at h; cases h) Bd.notSynchronized (fun fs hr => retOut X10 hx (t := (.object "java/lang/String")) (w := (.ref a10)) (i := .areturn) Bd.returns rfl (Or.inr (Or.inr (Or.inr (Or.inr ⟨rfl, rfl, rfl⟩)))) (hb hby d5_12) hr) (by decide) (by decide) (by rw [e10]; exact ⟨_, rfl, N0, ((Keep.ext (Keep.refl _ _) E10) : Keep h0 h10 []), rfl⟩)
  · refine own_step (fun _ k => XS.ifNo X0.here hx rfl (hb hby d5_1) rfl ((if0 _ _).trans (feq c1_1).1) k) ?_
    show own_Ends p e below F (s₁.setTop (mkF m 4 #[.val (.int p1), .val (.int p2), .val (.int p3), .val (.int p4), .unset] []))
    refine own_step (fun _ k => XS.aconstNull X0.here hx rfl (hb hby d5_4) k) ?_
    show own_Ends p e below F (s₁.setTop (mkF m 5 #[.val (.int p1), .val (.int p2), .val (.int p3), .val (.int p4), .unset] [.null]))
    rw [hF]
    exact own_retW X0 hS (by rw [e0]; exact hk) (v := (some .null)) (fun h => by rw [Bd.returns] at h; cases h) Bd.notSynchronized (fun fs hr => retOut X0 hx (t := (.object "java/lang/String")) (w := .null) (i := .areturn) Bd.returns rfl (Or.inr (Or.inr (Or.inr (Or.inr ⟨rfl, rfl, rfl⟩)))) (hb hby d5_5) hr) (by decide) (by decide) (by rw [e0]; exact ⟨_, rfl, N0, ((Keep.refl _ _) : Keep h0 h0 []), rfl⟩)

theorem pd__28ZZII_29Ljava_2flang_2fString_3b : parseMethodDescriptor "(ZZII)Ljava/lang/String;" = some ⟨[.boolean, .boolean, .int, .int], some (.object "java/lang/String")⟩ := by decide +kernel
theorem pd__28Ljava_2futil_2fList_3bLjava_2flang_2fString_3bLjava_2flang_2fString_3b_29V : parseMethodDescriptor "(Ljava/util/List;Ljava/lang/String;Ljava/lang/String;)V" = some ⟨[(.object "java/util/List"), (.object "java/lang/String"), (.object "java/lang/String")], none⟩ := by decide +kernel
theorem pd__28_29Z : parseMethodDescriptor "()Z" = some ⟨[], some .boolean⟩ := by decide +kernel
theorem pd__28I_29Ljava_2flang_2fInteger_3b : parseMethodDescriptor "(I)Ljava/lang/Integer;" = some ⟨[.int], some (.object "java/lang/Integer")⟩ := by decide +kernel
theorem pd__28Ljava_2flang_2fObject_3b_29Z : parseMethodDescriptor "(Ljava/lang/Object;)Z" = some ⟨[(.object "java/lang/Object")], some .boolean⟩ := by decide +kernel
theorem ef_rm0 (m : MethodId) (x0 : Int32) (x1 : Int32) (x2 : Int32) (x3 : Int32) (x4 : Int32) (x5 : Int32) : entryFrame m #[(.int x0), (.int x1), (.int x2), (.int x3), (.int x4), (.int x5)] maxLocals = mkF m 0 #[.val (.int x0), .val (.int x1), .val (.int x2), .val (.int x3), .val (.int x4), .val (.int x5), .unset, .unset, .unset, .unset, .unset, .unset, .unset, .unset, .unset, .unset] [] := by first | (simp [entryFrame, mkF, argsToLocals, Value.category, maxLocals]; done) | rfl
def Q0 (Z : State) (p1 p2 p3 p4 p5 p6 : Int32) (zc : Int32) (dd : Addr) (kd : ClassId) (ee cc ma mu mv mo : Addr) (h0 : Heap) (n0 : Nat) (v : Option Value) (h : Heap) (L : List Loc) : Prop := v = some (.int 1) ∧ Fr n0 L
set_option maxRecDepth 65536 in
set_option maxHeartbeats 40000000 in
theorem rm0 (l : Launch) (Z : State) (a0 : Array Value) (hw : ∀ d ∈ tables_1, d.before a0 Z = true) (ws : List Jvm.Cond) (p1 p2 p3 p4 p5 p6 : Int32) (zc : Int32) (dd : Addr) (kd : ClassId) (ee cc ma mu mv mo : Addr) (h0 : Heap) (n0 : Nat) (Z0 : n0 ≤ h0.size) (SC : Sta Z h0 "java/lang/String" "COMPACT_STRINGS" "Z" (.int zc)) (hz : ¬ zc = 0) (SD : Sta Z h0 "java/util/ArrayList" "DEFAULTCAPACITY_EMPTY_ELEMENTDATA" "[Ljava/lang/Object;" (.ref dd)) (VD : Arv Z h0 dd kd (.object "java/lang/Object") (0 : Int32) [] .null) (XD : Exa Z h0 dd "[Ljava/lang/Object;") (SE : Sta Z h0 "java/util/ArrayList" "EMPTY_ELEMENTDATA" "[Ljava/lang/Object;" (.ref ee)) (SH : Sta Z h0 "java/lang/Integer$IntegerCache" "high" "I" (.int (127 : Int32))) (SK : Sta Z h0 "java/lang/Integer$IntegerCache" "cache" "[Ljava/lang/Integer;" (.ref cc)) (BC : own_Bx Z h0 cc) (M_ma : Mir Z "java/util/ArrayList" ma) (M_mu : Mir Z "java/util/Collections$UnmodifiableList" mu) (M_mv : Mir Z "java/util/Collections$UnmodifiableRandomAccessList" mv) (M_mo : Mir Z "[Ljava/lang/Object;" mo) :
    MetFree l x (head1 (Jvm.Cond.code x code maxLocals ret :: ws) room_1) (fun ar U => ar = #[(.int p1), (.int p2), (.int p3), (.int p4), (.int p5), (.int p6)] ∧ Z.Warmed39 U.vm ∧ U.heap = h0) (fun _ _ _ _ _ => True) (fun _ U o U' => ∃ v L, o = .returned v ∧ Q0 Z p1 p2 p3 p4 p5 p6 zc dd kd ee cc ma mu mv mo h0 n0 v U'.heap L ∧ ReturnedEndW U o U' L room_1.cells room_1.slots) := by
  refine MetFree.of_bodySF (plainFor_of_name pn_com_example_greater_than_greaterthan_page_PageHasNextPinLaw) hisR ?_
  intro p e s m args below meth c s₁ Bd hml0 hP hK
  obtain ⟨rfl, hZ, hh⟩ := hP
  have hx := Bd.exec
  have hby := Bd.bytes
  have hml : c.maxLocals = 16 := hml0
  have hown : s.vm.findClass "com/example/greater_than/greaterthan/page/PageHasNextPinLaw" = some m.cls := findClass_of_methodNamed Bd.named
  have hnm := (name_of_methodNamed Bd.named Bd.method).1
  have X0 : Stand p l e room_1 (s.setVm s.vm) m #[(.int p1), (.int p2), (.int p3), (.int p4), (.int p5), (.int p6)] below meth c s₁ [] 0 0 := Stand.of_body Bd
  have e0 : s₁.heap = h0 := by rw [← hh, Bd.state]; rfl
  have N0 := Fr.nil n0
  have hS : s.Since s.vm h0.size := (State.WarmedH.refl s).since _
  have hk := Nat.le_refl h0.size
  obtain ⟨F, hF⟩ : ∃ F, F = own_FinW s (Q0 Z p1 p2 p3 p4 p5 p6 zc dd kd ee cc ma mu mv mo h0 n0) room_1.cells room_1.slots := ⟨_, rfl⟩
  show own_Ends p e below (own_FinW s (Q0 Z p1 p2 p3 p4 p5 p6 zc dd kd ee cc ma mu mv mo h0 n0) room_1.cells room_1.slots) _
  rw [← hF, ef_rm0 m p1 p2 p3 p4 p5 p6]
  show own_Ends p e below F (s₁.setTop (mkF m 0 #[.val (.int p1), .val (.int p2), .val (.int p3), .val (.int p4), .val (.int p5), .val (.int p6), .unset, .unset, .unset, .unset, .unset, .unset, .unset, .unset, .unset, .unset] []))
  obtain ⟨A1, hA1⟩ : ∃ z : Array Slot, z = #[.val (.int p1), .val (.int p2), .val (.int p3), .val (.int p4), .val (.int p5), .val (.int p6), .unset, .unset, .unset, .unset, .unset, .unset, .unset, .unset, .unset, .unset] := ⟨_, rfl⟩
  rw [← hA1]
  show own_Ends p e below F (s₁.setTop (mkF m 0 A1 []))
  refine own_step (fun _ k => XS.iloadN X0.here hx rfl (hb hby at_0) (by rw [hA1]; rfl) k) ?_
  show own_Ends p e below F (s₁.setTop (mkF m 1 A1 [(.int p1)]))
  refine own_step (fun _ k => XS.iconst X0.here hx rfl (hb hby at_1) k) ?_
  show own_Ends p e below F (s₁.setTop (mkF m 2 A1 [(.int (1 : Int32)), (.int p1)]))
  refine own_step (fun _ k => XS.iand X0.here hx rfl (hb hby at_2) rfl k) ?_
  show own_Ends p e below F (s₁.setTop (mkF m 3 A1 [(.int (p1 &&& (1 : Int32)))]))
  have J3_3 : ∀ (z2 : Int32) (hz2 : z2 = (if (p1 &&& (1 : Int32)) = (0 : Int32) then (0 : Int32) else (1 : Int32))), own_Ends p e below F (s₁.setTop (mkF m 11 #[.val (.int p1), .val (.int p2), .val (.int p3), .val (.int p4), .val (.int p5), .val (.int p6), .unset, .unset, .unset, .unset, .unset, .unset, .unset, .unset, .unset, .unset] [(.int z2)])) := by
    intro z2 hz2
    obtain ⟨A5, hA5⟩ : ∃ z : Array Slot, z = #[.val (.int p1), .val (.int p2), .val (.int p3), .val (.int p4), .val (.int p5), .val (.int p6), .unset, .unset, .unset, .unset, .unset, .unset, .unset, .unset, .unset, .unset] := ⟨_, rfl⟩
    rw [← hA5]
    show own_Ends p e below F (s₁.setTop (mkF m 11 A5 [(.int z2)]))
    obtain ⟨A6, hA6⟩ : ∃ z : Array Slot, z = #[.val (.int p1), .val (.int p2), .val (.int p3), .val (.int p4), .val (.int p5), .val (.int p6), .val (.int z2), .unset, .unset, .unset, .unset, .unset, .unset, .unset, .unset, .unset] := ⟨_, rfl⟩
    refine own_step (fun _ k => XS.istore X0.here hx rfl (hb hby at_11) rfl (l' := A6) (by rw [hA5, hA6]; exact rfl) k) ?_
    show own_Ends p e below F (s₁.setTop (mkF m 13 A6 []))
    refine own_step (fun _ k => XS.iloadN X0.here hx rfl (hb hby at_13) (by rw [hA6]; rfl) k) ?_
    show own_Ends p e below F (s₁.setTop (mkF m 14 A6 [(.int p1)]))
    refine own_step (fun _ k => XS.iconst X0.here hx rfl (hb hby at_14) k) ?_
    show own_Ends p e below F (s₁.setTop (mkF m 15 A6 [(.int (2 : Int32)), (.int p1)]))
    refine own_step (fun _ k => XS.iand X0.here hx rfl (hb hby at_15) rfl k) ?_
    show own_Ends p e below F (s₁.setTop (mkF m 16 A6 [(.int (p1 &&& (2 : Int32)))]))
    have J16_8 : ∀ (z7 : Int32) (hz7 : z7 = (if (p1 &&& (2 : Int32)) = (0 : Int32) then (0 : Int32) else (1 : Int32))), own_Ends p e below F (s₁.setTop (mkF m 24 #[.val (.int p1), .val (.int p2), .val (.int p3), .val (.int p4), .val (.int p5), .val (.int p6), .val (.int z2), .unset, .unset, .unset, .unset, .unset, .unset, .unset, .unset, .unset] [(.int z7)])) := by
      intro z7 hz7
      obtain ⟨A10, hA10⟩ : ∃ z : Array Slot, z = #[.val (.int p1), .val (.int p2), .val (.int p3), .val (.int p4), .val (.int p5), .val (.int p6), .val (.int z2), .unset, .unset, .unset, .unset, .unset, .unset, .unset, .unset, .unset] := ⟨_, rfl⟩
      rw [← hA10]
      show own_Ends p e below F (s₁.setTop (mkF m 24 A10 [(.int z7)]))
      obtain ⟨A11, hA11⟩ : ∃ z : Array Slot, z = #[.val (.int p1), .val (.int p2), .val (.int p3), .val (.int p4), .val (.int p5), .val (.int p6), .val (.int z2), .val (.int z7), .unset, .unset, .unset, .unset, .unset, .unset, .unset, .unset] := ⟨_, rfl⟩
      refine own_step (fun _ k => XS.istore X0.here hx rfl (hb hby at_24) rfl (l' := A11) (by rw [hA10, hA11]; exact rfl) k) ?_
      show own_Ends p e below F (s₁.setTop (mkF m 26 A11 []))
      refine own_step (fun _ k => XS.iloadN X0.here hx rfl (hb hby at_26) (by rw [hA11]; rfl) k) ?_
      show own_Ends p e below F (s₁.setTop (mkF m 27 A11 [(.int p1)]))
      refine own_step (fun _ k => XS.iconst X0.here hx rfl (hb hby at_27) k) ?_
      show own_Ends p e below F (s₁.setTop (mkF m 28 A11 [(.int (4 : Int32)), (.int p1)]))
      refine own_step (fun _ k => XS.iand X0.here hx rfl (hb hby at_28) rfl k) ?_
      show own_Ends p e below F (s₁.setTop (mkF m 29 A11 [(.int (p1 &&& (4 : Int32)))]))
      have J29_13 : ∀ (z12 : Int32) (hz12 : z12 = (if (p1 &&& (4 : Int32)) = (0 : Int32) then (0 : Int32) else (1 : Int32))), own_Ends p e below F (s₁.setTop (mkF m 37 #[.val (.int p1), .val (.int p2), .val (.int p3), .val (.int p4), .val (.int p5), .val (.int p6), .val (.int z2), .val (.int z7), .unset, .unset, .unset, .unset, .unset, .unset, .unset, .unset] [(.int z12)])) := by
        intro z12 hz12
        obtain ⟨A15, hA15⟩ : ∃ z : Array Slot, z = #[.val (.int p1), .val (.int p2), .val (.int p3), .val (.int p4), .val (.int p5), .val (.int p6), .val (.int z2), .val (.int z7), .unset, .unset, .unset, .unset, .unset, .unset, .unset, .unset] := ⟨_, rfl⟩
        rw [← hA15]
        show own_Ends p e below F (s₁.setTop (mkF m 37 A15 [(.int z12)]))
        obtain ⟨A16, hA16⟩ : ∃ z : Array Slot, z = #[.val (.int p1), .val (.int p2), .val (.int p3), .val (.int p4), .val (.int p5), .val (.int p6), .val (.int z2), .val (.int z7), .val (.int z12), .unset, .unset, .unset, .unset, .unset, .unset, .unset] := ⟨_, rfl⟩
        refine own_step (fun _ k => XS.istore X0.here hx rfl (hb hby at_37) rfl (l' := A16) (by rw [hA15, hA16]; exact rfl) k) ?_
        show own_Ends p e below F (s₁.setTop (mkF m 39 A16 []))
        refine own_step (fun _ k => XS.iloadN X0.here hx rfl (hb hby at_39) (by rw [hA16]; rfl) k) ?_
        show own_Ends p e below F (s₁.setTop (mkF m 40 A16 [(.int p1)]))
        refine own_step (fun _ k => XS.bipush X0.here hx rfl (hb hby at_40) k) ?_
        show own_Ends p e below F (s₁.setTop (mkF m 42 A16 [(.int (8 : Int32)), (.int p1)]))
        refine own_step (fun _ k => XS.iand X0.here hx rfl (hb hby at_42) rfl k) ?_
        show own_Ends p e below F (s₁.setTop (mkF m 43 A16 [(.int (p1 &&& (8 : Int32)))]))
        have J43_18 : ∀ (z17 : Int32) (hz17 : z17 = (if (p1 &&& (8 : Int32)) = (0 : Int32) then (0 : Int32) else (1 : Int32))), own_Ends p e below F (s₁.setTop (mkF m 51 #[.val (.int p1), .val (.int p2), .val (.int p3), .val (.int p4), .val (.int p5), .val (.int p6), .val (.int z2), .val (.int z7), .val (.int z12), .unset, .unset, .unset, .unset, .unset, .unset, .unset] [(.int z17)])) := by
          intro z17 hz17
          obtain ⟨A20, hA20⟩ : ∃ z : Array Slot, z = #[.val (.int p1), .val (.int p2), .val (.int p3), .val (.int p4), .val (.int p5), .val (.int p6), .val (.int z2), .val (.int z7), .val (.int z12), .unset, .unset, .unset, .unset, .unset, .unset, .unset] := ⟨_, rfl⟩
          rw [← hA20]
          show own_Ends p e below F (s₁.setTop (mkF m 51 A20 [(.int z17)]))
          obtain ⟨A21, hA21⟩ : ∃ z : Array Slot, z = #[.val (.int p1), .val (.int p2), .val (.int p3), .val (.int p4), .val (.int p5), .val (.int p6), .val (.int z2), .val (.int z7), .val (.int z12), .val (.int z17), .unset, .unset, .unset, .unset, .unset, .unset] := ⟨_, rfl⟩
          refine own_step (fun _ k => XS.istore X0.here hx rfl (hb hby at_51) rfl (l' := A21) (by rw [hA20, hA21]; exact rfl) k) ?_
          show own_Ends p e below F (s₁.setTop (mkF m 53 A21 []))
          refine own_step (fun _ k => XS.iloadN X0.here hx rfl (hb hby at_53) (by rw [hA21]; rfl) k) ?_
          show own_Ends p e below F (s₁.setTop (mkF m 54 A21 [(.int p1)]))
          refine own_step (fun _ k => XS.iconst X0.here hx rfl (hb hby at_54) k) ?_
          show own_Ends p e below F (s₁.setTop (mkF m 55 A21 [(.int (4 : Int32)), (.int p1)]))
          refine own_step (fun _ k => XS.iushr X0.here hx rfl (hb hby at_55) rfl k) ?_
          show own_Ends p e below F (s₁.setTop (mkF m 56 A21 [(.int ((p1.toUInt32 >>> ((4 : Int32) &&& 31).toUInt32).toInt32))]))
          refine own_step (fun _ k => XS.iconst X0.here hx rfl (hb hby at_56) k) ?_
          show own_Ends p e below F (s₁.setTop (mkF m 57 A21 [(.int (3 : Int32)), (.int ((p1.toUInt32 >>> ((4 : Int32) &&& 31).toUInt32).toInt32))]))
          refine own_step (fun _ k => XS.iand X0.here hx rfl (hb hby at_57) rfl k) ?_
          show own_Ends p e below F (s₁.setTop (mkF m 58 A21 [(.int (((p1.toUInt32 >>> ((4 : Int32) &&& 31).toUInt32).toInt32) &&& (3 : Int32)))]))
          obtain ⟨v22, ev22⟩ : ∃ z : Int32, z = (((p1.toUInt32 >>> ((4 : Int32) &&& 31).toUInt32).toInt32) &&& (3 : Int32)) := ⟨_, rfl⟩
          rw [← ev22]
          show own_Ends p e below F (s₁.setTop (mkF m 58 A21 [(.int v22)]))
          obtain ⟨A23, hA23⟩ : ∃ z : Array Slot, z = #[.val (.int p1), .val (.int p2), .val (.int p3), .val (.int p4), .val (.int p5), .val (.int p6), .val (.int z2), .val (.int z7), .val (.int z12), .val (.int z17), .val (.int v22), .unset, .unset, .unset, .unset, .unset] := ⟨_, rfl⟩
          refine own_step (fun _ k => XS.istore X0.here hx rfl (hb hby at_58) rfl (l' := A23) (by rw [hA21, hA23]; exact rfl) k) ?_
          show own_Ends p e below F (s₁.setTop (mkF m 60 A23 []))
          refine own_step (fun _ k => XS.iloadN X0.here hx rfl (hb hby at_60) (by rw [hA23]; rfl) k) ?_
          show own_Ends p e below F (s₁.setTop (mkF m 61 A23 [(.int p1)]))
          refine own_step (fun _ k => XS.bipush X0.here hx rfl (hb hby at_61) k) ?_
          show own_Ends p e below F (s₁.setTop (mkF m 63 A23 [(.int (64 : Int32)), (.int p1)]))
          refine own_step (fun _ k => XS.iand X0.here hx rfl (hb hby at_63) rfl k) ?_
          show own_Ends p e below F (s₁.setTop (mkF m 64 A23 [(.int (p1 &&& (64 : Int32)))]))
          have J64_25 : ∀ (z24 : Int32) (hz24 : z24 = (if (p1 &&& (64 : Int32)) = (0 : Int32) then (0 : Int32) else (1 : Int32))), own_Ends p e below F (s₁.setTop (mkF m 72 #[.val (.int p1), .val (.int p2), .val (.int p3), .val (.int p4), .val (.int p5), .val (.int p6), .val (.int z2), .val (.int z7), .val (.int z12), .val (.int z17), .val (.int v22), .unset, .unset, .unset, .unset, .unset] [(.int z24)])) := by
            intro z24 hz24
            obtain ⟨A27, hA27⟩ : ∃ z : Array Slot, z = #[.val (.int p1), .val (.int p2), .val (.int p3), .val (.int p4), .val (.int p5), .val (.int p6), .val (.int z2), .val (.int z7), .val (.int z12), .val (.int z17), .val (.int v22), .unset, .unset, .unset, .unset, .unset] := ⟨_, rfl⟩
            rw [← hA27]
            show own_Ends p e below F (s₁.setTop (mkF m 72 A27 [(.int z24)]))
            obtain ⟨A28, hA28⟩ : ∃ z : Array Slot, z = #[.val (.int p1), .val (.int p2), .val (.int p3), .val (.int p4), .val (.int p5), .val (.int p6), .val (.int z2), .val (.int z7), .val (.int z12), .val (.int z17), .val (.int v22), .val (.int z24), .unset, .unset, .unset, .unset] := ⟨_, rfl⟩
            refine own_step (fun _ k => XS.istore X0.here hx rfl (hb hby at_72) rfl (l' := A28) (by rw [hA27, hA28]; exact rfl) k) ?_
            show own_Ends p e below F (s₁.setTop (mkF m 74 A28 []))
            obtain ⟨T29, h29, X29, e29, E29, A29, D29, -, st29⟩ := newO X0 hx hZ hown (own_g hw 0 rfl) (own_g hw 1 rfl) (own_g hw 2 rfl) e0 (g := (mkF m 74 A28 [])) rfl (hb hby at_74) (by decide) (by decide)
            obtain ⟨a29, g29⟩ : ∃ z, z = h0.size := ⟨_, rfl⟩
            rw [← g29] at A29 D29 st29
            have ge_a29 : n0 ≤ a29 := Nat.le_trans Z0 (Nat.le_of_eq g29.symm)
            have sz_a29 : h0.size ≤ a29 := Nat.le_trans (Nat.le_refl h0.size) (Nat.le_of_eq g29.symm)
            have ne_dd_a29 : dd ≠ a29 := Nat.ne_of_lt (by rw [g29]; exact VD.lt)
            have ne_cc_a29 : cc ≠ a29 := Nat.ne_of_lt (by rw [g29]; exact BC.lt)
            have Z29 : n0 ≤ h29.size := Nat.le_trans Z0 E29.1
            have SZ29 : h0.size ≤ h29.size := Nat.le_trans (Nat.le_refl h0.size) E29.1
            have hk := Nat.le_trans hk E29.1
            have F29_modCount : Fld Z h29 a29 "java/util/AbstractList" "modCount" "I" (.int (0 : Int32)) := D29 (Or.inl (own_g hw 22 rfl)) (ty := .int) (by decide)
            have F29_elementData : Fld Z h29 a29 "java/util/ArrayList" "elementData" "[Ljava/lang/Object;" .null := D29 (Or.inl (own_g hw 25 rfl)) (ty := (.array (.object "java/lang/Object"))) (by decide)
            have F29_size : Fld Z h29 a29 "java/util/ArrayList" "size" "I" (.int (0 : Int32)) := D29 (Or.inl (own_g hw 79 rfl)) (ty := .int) (by decide)
            refine own_step st29 ?_
            show own_Ends p e below F (T29.setTop (mkF m 77 A28 [(.ref a29)]))
            refine own_step (fun _ k => XS.dup X29.here hx rfl (hb hby at_77) rfl rfl k) ?_
            show own_Ends p e below F (T29.setTop (mkF m 78 A28 [(.ref a29), (.ref a29)]))
            obtain ⟨_, _, ⟨T30, L30, k30, n30⟩, -, X30, ⟨Lc30, hQ30, l30, y30, z30⟩, st30⟩ := X29.specialBack hx (y := (⟨"java/util/ArrayList", "<init>", "()V"⟩ : MethodName)) rfl hown (mvT hZ (own_g hw 3 rfl)) (mvT hZ (own_g hw 4 rfl)) (mvT hZ (own_g hw 5 rfl)) (by decide) (backOf (W := 1) (rm1 l Z a0 hw [] a29 dd h29 n0 Z29 A29 ge_a29 F29_modCount F29_elementData F29_size (Sta.ext E29 SD)) hZ (own_g hw 5 rfl) (own_g hw 2 rfl) (by decide) (by decide)) (g := (mkF m 78 A28 [(.ref a29), (.ref a29)])) rfl (by rw [hml]; show A28.size = _; rw [hA28]; rfl) (Steps.refl _) (a := a29) (argsL := []) (rest := [(.ref a29)]) (lenOf pd__28_29V rfl) rfl (by show 2 * 0 + _ ≤ _; exact Nat.le_of_eq rfl) (hb hby at_78) (fun _ _ => ⟨rfl, e29, (by decide : 1 + 0 ≤ _), (by decide : 3 + 0 ≤ _)⟩)
            dsimp only [Pt.U, Pt.locs, Pt.cells, Pt.slots] at X30 l30 y30 z30 st30 hQ30
            subst l30 y30 z30
            obtain ⟨rfl, Nq30, Kq30, fq0_30, fq1_30, fq2_30, fq3_30⟩ := hQ30
            have N30 := Fr.app N0 Nq30
            have Z30 : n0 ≤ T30.heap.size := Nat.le_trans Z29 Kq30.1
            have SZ30 : h0.size ≤ T30.heap.size := Nat.le_trans SZ29 Kq30.1
            have S0_30 := own_Sta_keep (Sta.ext E29 SC) Kq30 (allS (own_ns_exa A29) all0)
            have S1_30 := own_Sta_keep (Sta.ext E29 SD) Kq30 (allS (own_ns_exa A29) all0)
            have S2_30 := own_Sta_keep (Sta.ext E29 SE) Kq30 (allS (own_ns_exa A29) all0)
            have S3_30 := own_Sta_keep (Sta.ext E29 SH) Kq30 (allS (own_ns_exa A29) all0)
            have S4_30 := own_Sta_keep (Sta.ext E29 SK) Kq30 (allS (own_ns_exa A29) all0)
            have hk := Nat.le_trans hk Kq30.1
            refine own_trans st30 ?_
            show own_Ends p e below F (T30.setTop (mkF m 81 A28 [(.ref a29)]))
            obtain ⟨A31, hA31⟩ : ∃ z : Array Slot, z = #[.val (.int p1), .val (.int p2), .val (.int p3), .val (.int p4), .val (.int p5), .val (.int p6), .val (.int z2), .val (.int z7), .val (.int z12), .val (.int z17), .val (.int v22), .val (.int z24), .val (.ref a29), .unset, .unset, .unset] := ⟨_, rfl⟩
            refine own_step (fun _ k => XS.astore X30.here hx rfl (hb hby at_81) rfl rfl (l' := A31) (by rw [hA28, hA31]; exact rfl) k) ?_
            show own_Ends p e below F (T30.setTop (mkF m 83 A31 []))
            rcases own_m3e ev22 with rfl | rfl | rfl | rfl
            · show own_Ends p e below F (T30.setTop (mkF m 83 A31 []))
              refine own_step (fun _ k => XS.iload X30.here hx rfl (hb hby at_83) (by rw [hA31]; rfl) k) ?_
              show own_Ends p e below F (T30.setTop (mkF m 85 A31 [(.int (0 : Int32))]))
              refine own_step (fun _ k => XS.iconst X30.here hx rfl (hb hby at_85) k) ?_
              show own_Ends p e below F (T30.setTop (mkF m 86 A31 [(.int (1 : Int32)), (.int (0 : Int32))]))
              refine own_step (fun _ k => XS.icmpYes X30.here hx rfl (pc0 := 86) (pc' := 109) rfl (hb hby at_86) rfl (tlt (by decide : (0 : Int32) < (1 : Int32))).1 (by decide) (by decide) k) ?_
              show own_Ends p e below F (T30.setTop (mkF m 109 A31 []))
              refine own_step (fun _ k => XS.iload X30.here hx rfl (hb hby at_109) (by rw [hA31]; rfl) k) ?_
              show own_Ends p e below F (T30.setTop (mkF m 111 A31 [(.int (0 : Int32))]))
              refine own_step (fun _ k => XS.iconst X30.here hx rfl (hb hby at_111) k) ?_
              show own_Ends p e below F (T30.setTop (mkF m 112 A31 [(.int (2 : Int32)), (.int (0 : Int32))]))
              refine own_step (fun _ k => XS.icmpYes X30.here hx rfl (pc0 := 112) (pc' := 126) rfl (hb hby at_112) rfl (tlt (by decide : (0 : Int32) < (2 : Int32))).1 (by decide) (by decide) k) ?_
              show own_Ends p e below F (T30.setTop (mkF m 126 A31 []))
              refine own_step (fun _ k => XS.iload X30.here hx rfl (hb hby at_126) (by rw [hA31]; rfl) k) ?_
              show own_Ends p e below F (T30.setTop (mkF m 128 A31 [(.int (0 : Int32))]))
              refine own_step (fun _ k => XS.iconst X30.here hx rfl (hb hby at_128) k) ?_
              show own_Ends p e below F (T30.setTop (mkF m 129 A31 [(.int (3 : Int32)), (.int (0 : Int32))]))
              refine own_step (fun _ k => XS.icmpYes X30.here hx rfl (pc0 := 129) (pc' := 142) rfl (hb hby at_129) rfl (tlt (by decide : (0 : Int32) < (3 : Int32))).1 (by decide) (by decide) k) ?_
              show own_Ends p e below F (T30.setTop (mkF m 142 A31 []))
              refine own_step (fun _ k => XS.iload X30.here hx rfl (hb hby at_142) (by rw [hA31]; rfl) k) ?_
              show own_Ends p e below F (T30.setTop (mkF m 144 A31 [(.int z2)]))
              refine own_step (fun _ k => XS.iload X30.here hx rfl (hb hby at_144) (by rw [hA31]; rfl) k) ?_
              show own_Ends p e below F (T30.setTop (mkF m 146 A31 [(.int z12), (.int z2)]))
              refine own_step (fun _ k => XS.iloadN X30.here hx rfl (hb hby at_146) (by rw [hA31]; rfl) k) ?_
              show own_Ends p e below F (T30.setTop (mkF m 147 A31 [(.int p2), (.int z12), (.int z2)]))
              refine own_step (fun _ k => XS.iloadN X30.here hx rfl (hb hby at_147) (by rw [hA31]; rfl) k) ?_
              show own_Ends p e below F (T30.setTop (mkF m 148 A31 [(.int p3), (.int p2), (.int z12), (.int z2)]))
              obtain ⟨_, _, ⟨T32, L32, k32, n32⟩, -, X32, hS32, gr32, ⟨Lc32, hQ32, l32, y32, z32⟩, st32⟩ := callSS X30 hx (y := (⟨"com/example/greater_than/greaterthan/page/PageHasNextPinLaw", "cursor", "(ZZII)Ljava/lang/String;"⟩ : MethodName)) hown (mvT hZ (own_g hw 26 rfl)) (mvT hZ (own_g hw 27 rfl)) (mvT hZ (own_g hw 28 rfl)) (mvT hZ (own_g hw 29 rfl)) (by decide) (backOfS (W := 0) (rm5 l Z a0 hw [] z2 z12 p2 p3 zc T30.heap n0 Z30 S0_30 hz) hZ (own_g hw 29 rfl) (own_g hw 28 rfl) (by decide) (by decide)) (g := (mkF m 148 A31 [(.int p3), (.int p2), (.int z12), (.int z2)])) rfl (by rw [hml]; show A31.size = _; rw [hA31]; rfl) (argsL := [(.int z2), (.int z12), (.int p2), (.int p3)]) (rest := []) (lenOf pd__28ZZII_29Ljava_2flang_2fString_3b rfl) rfl (by show 2 * 0 + _ ≤ _; exact Nat.le_of_eq rfl) (hb hby at_148) (fun _ _ => ⟨rfl, rfl, (by decide : 1 + 3 ≤ _), (by decide : 3 + 8 ≤ _)⟩)
              dsimp only [Pt.U, Pt.locs, Pt.cells, Pt.slots] at X32 l32 y32 z32 st32 hQ32 hS32 gr32
              subst l32 y32 z32
              obtain ⟨u32, rfl, Nq32, Kq32, fq0_32⟩ := hQ32
              have N32 := Fr.app N30 Nq32
              have Z32 : n0 ≤ T32.heap.size := Nat.le_trans Z30 Kq32.1
              have SZ32 : h0.size ≤ T32.heap.size := Nat.le_trans SZ30 Kq32.1
              have S0_32 := own_Sta_keep S0_30 Kq32 all0
              have S1_32 := own_Sta_keep S1_30 Kq32 all0
              have S2_32 := own_Sta_keep S2_30 Kq32 all0
              have S3_32 := own_Sta_keep S3_30 Kq32 all0
              have S4_32 := own_Sta_keep S4_30 Kq32 all0
              have hZ := own_warm hZ hS32
              have hown := own_find hown hS32
              have hS := foldS hS (by exact hk) hS32 gr32
              have hk := Nat.le_refl T32.heap.size
              refine own_trans st32 ?_
              show own_Ends p e below F (T32.setTop (mkF m 151 A31 [u32]))
              rcases ref_cases fq0_32 with rfl | ⟨cu, rfl⟩
              · show own_Ends p e below F (T32.setTop (mkF m 151 A31 [.null]))
                obtain ⟨A33, hA33⟩ : ∃ z : Array Slot, z = #[.val (.int p1), .val (.int p2), .val (.int p3), .val (.int p4), .val (.int p5), .val (.int p6), .val (.int z2), .val (.int z7), .val (.int z12), .val (.int z17), .val (.int (0 : Int32)), .val (.int z24), .val (.ref a29), .val .null, .unset, .unset] := ⟨_, rfl⟩
                refine own_step (fun _ k => XS.astore X32.here hx rfl (hb hby at_151) rfl rfl (l' := A33) (by rw [hA31, hA33]; exact rfl) k) ?_
                show own_Ends p e below F (T32.setTop (mkF m 153 A33 []))
                refine own_step (fun _ k => XS.iload X32.here hx rfl (hb hby at_153) (by rw [hA33]; rfl) k) ?_
                show own_Ends p e below F (T32.setTop (mkF m 155 A33 [(.int z7)]))
                refine own_step (fun _ k => XS.iload X32.here hx rfl (hb hby at_155) (by rw [hA33]; rfl) k) ?_
                show own_Ends p e below F (T32.setTop (mkF m 157 A33 [(.int z17), (.int z7)]))
                refine own_step (fun _ k => XS.iloadN X32.here hx rfl (hb hby at_157) (by rw [hA33]; rfl) k) ?_
                show own_Ends p e below F (T32.setTop (mkF m 158 A33 [(.int p4), (.int z17), (.int z7)]))
                refine own_step (fun _ k => XS.iload X32.here hx rfl (hb hby at_158) (by rw [hA33]; rfl) k) ?_
                show own_Ends p e below F (T32.setTop (mkF m 160 A33 [(.int p5), (.int p4), (.int z17), (.int z7)]))
                obtain ⟨_, _, ⟨T34, L34, k34, n34⟩, -, X34, hS34, gr34, ⟨Lc34, hQ34, l34, y34, z34⟩, st34⟩ := callSS X32 hx (y := (⟨"com/example/greater_than/greaterthan/page/PageHasNextPinLaw", "cursor", "(ZZII)Ljava/lang/String;"⟩ : MethodName)) hown (mvT hZ (own_g hw 26 rfl)) (mvT hZ (own_g hw 27 rfl)) (mvT hZ (own_g hw 28 rfl)) (mvT hZ (own_g hw 29 rfl)) (by decide) (backOfS (W := 0) (rm5 l Z a0 hw [] z7 z17 p4 p5 zc T32.heap n0 Z32 S0_32 hz) hZ (own_g hw 29 rfl) (own_g hw 28 rfl) (by decide) (by decide)) (g := (mkF m 160 A33 [(.int p5), (.int p4), (.int z17), (.int z7)])) rfl (by rw [hml]; show A33.size = _; rw [hA33]; rfl) (argsL := [(.int z7), (.int z17), (.int p4), (.int p5)]) (rest := []) (lenOf pd__28ZZII_29Ljava_2flang_2fString_3b rfl) rfl (by show 2 * 0 + _ ≤ _; exact Nat.le_of_eq rfl) (hb hby at_160) (fun _ _ => ⟨rfl, rfl, (by decide : 4 + 3 ≤ _), (by decide : 11 + 8 ≤ _)⟩)
                dsimp only [Pt.U, Pt.locs, Pt.cells, Pt.slots] at X34 l34 y34 z34 st34 hQ34 hS34 gr34
                subst l34 y34 z34
                obtain ⟨u34, rfl, Nq34, Kq34, fq0_34⟩ := hQ34
                have N34 := Fr.app N32 Nq34
                have Z34 : n0 ≤ T34.heap.size := Nat.le_trans Z32 Kq34.1
                have SZ34 : h0.size ≤ T34.heap.size := Nat.le_trans SZ32 Kq34.1
                have S0_34 := own_Sta_keep S0_32 Kq34 all0
                have S1_34 := own_Sta_keep S1_32 Kq34 all0
                have S2_34 := own_Sta_keep S2_32 Kq34 all0
                have S3_34 := own_Sta_keep S3_32 Kq34 all0
                have S4_34 := own_Sta_keep S4_32 Kq34 all0
                have hZ := own_warm hZ hS34
                have hown := own_find hown hS34
                have hS := foldS hS (by exact hk) hS34 gr34
                have hk := Nat.le_refl T34.heap.size
                refine own_trans st34 ?_
                show own_Ends p e below F (T34.setTop (mkF m 163 A33 [u34]))
                obtain ⟨A35, hA35⟩ : ∃ z : Array Slot, z = #[.val (.int p1), .val (.int p2), .val (.int p3), .val (.int p4), .val (.int p5), .val (.int p6), .val (.int z2), .val (.int z7), .val (.int z12), .val (.int z17), .val (.int (0 : Int32)), .val (.int z24), .val (.ref a29), .val .null, .val u34, .unset] := ⟨_, rfl⟩
                refine own_step (fun _ k => XS.astore X34.here hx rfl (hb hby at_163) rfl fq0_34 (l' := A35) (by rw [hA33, hA35]; exact (XS.store1 (o := .unset) rfl (Or.inl rfl) (own_catR fq0_34))) k) ?_
                show own_Ends p e below F (T34.setTop (mkF m 165 A35 []))
                obtain ⟨T36, h36, X36, e36, E36, A36, D36, -, st36⟩ := newO X34 hx hZ hown (own_g hw 58 rfl) (own_g hw 59 rfl) (own_g hw 60 rfl) rfl (g := (mkF m 165 A35 [])) rfl (hb hby at_165) (by decide) (by decide)
                obtain ⟨a36, g36⟩ : ∃ z, z = T34.heap.size := ⟨_, rfl⟩
                rw [← g36] at A36 D36 st36
                have ge_a36 : n0 ≤ a36 := Nat.le_trans Z34 (Nat.le_of_eq g36.symm)
                have sz_a36 : h0.size ≤ a36 := Nat.le_trans SZ34 (Nat.le_of_eq g36.symm)
                have ne_dd_a36 : dd ≠ a36 := Nat.ne_of_lt (by rw [g36]; exact ((((VD.ext E29).keep Kq30 (ninS ne_dd_a29 nin0)).keep Kq32 nin0).keep Kq34 nin0).lt)
                have ne_cc_a36 : cc ≠ a36 := Nat.ne_of_lt (by rw [g36]; exact ((((BC.ext E29).keep Kq30 (ninS ne_cc_a29 nin0)).keep Kq32 nin0).keep Kq34 nin0).lt)
                have ne_a29_a36 : a29 ≠ a36 := Nat.ne_of_lt (by rw [g36]; exact ((fq1_30.keep Kq32 nin0).keep Kq34 nin0).lt)
                have Z36 : n0 ≤ h36.size := Nat.le_trans Z34 E36.1
                have SZ36 : h0.size ≤ h36.size := Nat.le_trans SZ34 E36.1
                have hk := Nat.le_trans hk E36.1
                have F36_rows : Fld Z h36 a36 "com/example/greater_than/greaterthan/page/Page" "rows" "Ljava/util/List;" .null := D36 (Or.inr (own_g hw 146 rfl)) (ty := (.object "java/util/List")) (by decide)
                have F36_previousCursor : Fld Z h36 a36 "com/example/greater_than/greaterthan/page/Page" "previousCursor" "Ljava/lang/String;" .null := D36 (Or.inr (own_g hw 148 rfl)) (ty := (.object "java/lang/String")) (by decide)
                have F36_nextCursor : Fld Z h36 a36 "com/example/greater_than/greaterthan/page/Page" "nextCursor" "Ljava/lang/String;" .null := D36 (Or.inr (own_g hw 150 rfl)) (ty := (.object "java/lang/String")) (by decide)
                refine own_step st36 ?_
                show own_Ends p e below F (T36.setTop (mkF m 168 A35 [(.ref a36)]))
                refine own_step (fun _ k => XS.dup X36.here hx rfl (hb hby at_168) rfl rfl k) ?_
                show own_Ends p e below F (T36.setTop (mkF m 169 A35 [(.ref a36), (.ref a36)]))
                refine own_step (fun _ k => XS.aload X36.here hx rfl (hb hby at_169) (by rw [hA35]; rfl) rfl k) ?_
                show own_Ends p e below F (T36.setTop (mkF m 171 A35 [(.ref a29), (.ref a36), (.ref a36)]))
                refine own_step (fun _ k => XS.aload X36.here hx rfl (hb hby at_171) (by rw [hA35]; rfl) fq0_34 k) ?_
                show own_Ends p e below F (T36.setTop (mkF m 173 A35 [u34, (.ref a29), (.ref a36), (.ref a36)]))
                refine own_step (fun _ k => XS.aload X36.here hx rfl (hb hby at_173) (by rw [hA35]; rfl) rfl k) ?_
                show own_Ends p e below F (T36.setTop (mkF m 175 A35 [.null, u34, (.ref a29), (.ref a36), (.ref a36)]))
                obtain ⟨_, _, ⟨T37, L37, k37, n37⟩, -, X37, ⟨Lc37, hQ37, l37, y37, z37⟩, st37⟩ := X36.specialBack hx (y := (⟨"com/example/greater_than/greaterthan/page/Page", "<init>", "(Ljava/util/List;Ljava/lang/String;Ljava/lang/String;)V"⟩ : MethodName)) rfl hown (mvT hZ (own_g hw 61 rfl)) (mvT hZ (own_g hw 62 rfl)) (mvT hZ (own_g hw 63 rfl)) (by decide) (backOf (W := 1) (rm11_0 l Z a0 hw [] a36 a29 dd kd  u34 .null ee ma mu mv mo h36 n0 Z36 A36 ge_a36 F36_rows F36_previousCursor F36_nextCursor (((((VD.ext E29).keep Kq30 (ninS ne_dd_a29 nin0)).keep Kq32 nin0).keep Kq34 nin0).ext E36) (((((XD.ext E29).keep Kq30).keep Kq32).keep Kq34).ext E36) (((fq0_30.keep Kq32).keep Kq34).ext E36) (((fq2_30.keep Kq32 nin0).keep Kq34 nin0).ext E36) (((fq3_30.keep Kq32 nin0).keep Kq34 nin0).ext E36) (Sta.ext E36 S2_34) M_ma M_mu M_mv M_mo fq0_34 rfl) hZ (own_g hw 63 rfl) (own_g hw 60 rfl) (by decide) (by decide)) (g := (mkF m 175 A35 [.null, u34, (.ref a29), (.ref a36), (.ref a36)])) rfl (by rw [hml]; show A35.size = _; rw [hA35]; rfl) (Steps.refl _) (a := a36) (argsL := [(.ref a29), u34, .null]) (rest := [(.ref a36)]) (lenOf pd__28Ljava_2futil_2fList_3bLjava_2flang_2fString_3bLjava_2flang_2fString_3b_29V rfl) rfl (by show 2 * 0 + _ ≤ _; exact Nat.le_of_eq rfl) (hb hby at_175) (fun _ _ => ⟨rfl, e36, (by decide : 8 + 3 ≤ _), (by decide : 22 + 5 ≤ _)⟩)
                dsimp only [Pt.U, Pt.locs, Pt.cells, Pt.slots] at X37 l37 y37 z37 st37 hQ37
                subst l37 y37 z37
                obtain ⟨rfl, Nq37, Kq37, fq0_37, fq1_37, fq2_37⟩ := hQ37
                have N37 := Fr.app N34 Nq37
                have Z37 : n0 ≤ T37.heap.size := Nat.le_trans Z36 Kq37.1
                have SZ37 : h0.size ≤ T37.heap.size := Nat.le_trans SZ36 Kq37.1
                have S0_37 := own_Sta_keep (Sta.ext E36 S0_34) Kq37 (allS (own_ns_exa A36) all0)
                have S1_37 := own_Sta_keep (Sta.ext E36 S1_34) Kq37 (allS (own_ns_exa A36) all0)
                have S2_37 := own_Sta_keep (Sta.ext E36 S2_34) Kq37 (allS (own_ns_exa A36) all0)
                have S3_37 := own_Sta_keep (Sta.ext E36 S3_34) Kq37 (allS (own_ns_exa A36) all0)
                have S4_37 := own_Sta_keep (Sta.ext E36 S4_34) Kq37 (allS (own_ns_exa A36) all0)
                have hk := Nat.le_trans hk Kq37.1
                refine own_trans st37 ?_
                show own_Ends p e below F (T37.setTop (mkF m 178 A35 [(.ref a36)]))
                obtain ⟨A38, hA38⟩ : ∃ z : Array Slot, z = #[.val (.int p1), .val (.int p2), .val (.int p3), .val (.int p4), .val (.int p5), .val (.int p6), .val (.int z2), .val (.int z7), .val (.int z12), .val (.int z17), .val (.int (0 : Int32)), .val (.int z24), .val (.ref a29), .val .null, .val u34, .val (.ref a36)] := ⟨_, rfl⟩
                refine own_step (fun _ k => XS.astore X37.here hx rfl (hb hby at_178) rfl rfl (l' := A38) (by rw [hA35, hA38]; exact rfl) k) ?_
                show own_Ends p e below F (T37.setTop (mkF m 180 A38 []))
                refine own_step (fun _ k => XS.aload X37.here hx rfl (hb hby at_180) (by rw [hA38]; rfl) rfl k) ?_
                show own_Ends p e below F (T37.setTop (mkF m 182 A38 [(.ref a36)]))
                obtain ⟨cq39, kq39, qa39, qb39, qc39⟩ := isOf (s := (s.setVm T34.vm)) (T := T37) hZ rfl fq0_37
                obtain ⟨_, _, ⟨T39, L39, k39, n39⟩, -, X39, ⟨Lc39, hQ39, l39, y39, z39⟩, st39⟩ := X37.virtualBack hx (y := (⟨"com/example/greater_than/greaterthan/page/Page", "hasNext", "()Z"⟩ : MethodName)) (z := (⟨"com/example/greater_than/greaterthan/page/Page", "hasNext", "()Z"⟩ : MethodName)) hown (mvT hZ (own_g hw 151 rfl)) (mvT hZ (own_g hw 152 rfl)) (notFace_of_selects (args := #[]) (mvT hZ (own_g hw 154 rfl))) (mvT hZ (own_g hw 154 rfl)) (mvT hZ (own_g hw 153 rfl)) (by decide) (backOf (W := 0) (rm21n l Z a0 hw [] a36 T37.heap n0 Z37 fq2_37) hZ (own_g hw 155 rfl) (own_g hw 60 rfl) (by decide) (by decide)) qa39 qc39 (g := (mkF m 182 A38 [(.ref a36)])) rfl (by rw [hml]; show A38.size = _; rw [hA38]; rfl) (Steps.refl _) (argsL := []) (rest := []) (lenOf pd__28_29Z rfl) rfl (by show 2 * 0 + _ ≤ _; exact Nat.le_of_eq rfl) (hb hby at_182) (fun _ _ => ⟨rfl, rfl, (by decide : 11 + 0 ≤ _), (by decide : 27 + 0 ≤ _)⟩)
                dsimp only [Pt.U, Pt.locs, Pt.cells, Pt.slots] at X39 l39 y39 z39 st39 hQ39
                subst l39 y39 z39
                obtain ⟨rfl, Nq39, eq39⟩ := hQ39
                have N39 := Fr.app N37 Nq39
                refine own_trans st39 ?_
                show own_Ends p e below F (T39.setTop (mkF m 185 A38 [(.int (0 : Int32))]))
                refine own_step (fun _ k => XS.aload X39.here hx rfl (hb hby at_185) (by rw [hA38]; rfl) rfl k) ?_
                show own_Ends p e below F (T39.setTop (mkF m 187 A38 [.null, (.int (0 : Int32))]))
                refine own_step (fun _ k => XS.ifnullYes X39.here hx rfl (pc0 := 187) (pc' := 194) rfl (hb hby at_187) rfl (by decide) (by decide) k) ?_
                show own_Ends p e below F (T39.setTop (mkF m 194 A38 [(.int (0 : Int32))]))
                refine own_step (fun _ k => XS.iconst X39.here hx rfl (hb hby at_194) k) ?_
                show own_Ends p e below F (T39.setTop (mkF m 195 A38 [(.int (0 : Int32)), (.int (0 : Int32))]))
                refine own_step (fun _ k => XS.icmpNo X39.here hx rfl (hb hby at_195) rfl (teq (by decide : (0 : Int32) = (0 : Int32))).2 k) ?_
                show own_Ends p e below F (T39.setTop (mkF m 198 A38 []))
                refine own_step (fun _ k => XS.iconst X39.here hx rfl (hb hby at_198) k) ?_
                show own_Ends p e below F (T39.setTop (mkF m 199 A38 [(.int (1 : Int32))]))
                refine own_step (fun _ k => XS.goto X39.here hx rfl (pc0 := 199) (pc' := 203) rfl (hb hby at_199) (by decide) (by decide) k) ?_
                show own_Ends p e below F (T39.setTop (mkF m 203 A38 [(.int (1 : Int32))]))
                rw [hF]
                exact own_retW X39 hS (by rw [eq39]; exact hk) (v := (some (.int (nar .boolean (1 : Int32))))) (fun h => by rw [Bd.returns] at h; cases h) Bd.notSynchronized (fun fs hr => retN X39 hx (t := .boolean) Bd.returns (by simp) (hb hby at_203) hr) (by decide) (by decide) (by rw [eq39]; exact ⟨rfl, N39⟩)
              · show own_Ends p e below F (T32.setTop (mkF m 151 A31 [(.ref cu)]))
                obtain ⟨A40, hA40⟩ : ∃ z : Array Slot, z = #[.val (.int p1), .val (.int p2), .val (.int p3), .val (.int p4), .val (.int p5), .val (.int p6), .val (.int z2), .val (.int z7), .val (.int z12), .val (.int z17), .val (.int (0 : Int32)), .val (.int z24), .val (.ref a29), .val (.ref cu), .unset, .unset] := ⟨_, rfl⟩
                refine own_step (fun _ k => XS.astore X32.here hx rfl (hb hby at_151) rfl rfl (l' := A40) (by rw [hA31, hA40]; exact rfl) k) ?_
                show own_Ends p e below F (T32.setTop (mkF m 153 A40 []))
                refine own_step (fun _ k => XS.iload X32.here hx rfl (hb hby at_153) (by rw [hA40]; rfl) k) ?_
                show own_Ends p e below F (T32.setTop (mkF m 155 A40 [(.int z7)]))
                refine own_step (fun _ k => XS.iload X32.here hx rfl (hb hby at_155) (by rw [hA40]; rfl) k) ?_
                show own_Ends p e below F (T32.setTop (mkF m 157 A40 [(.int z17), (.int z7)]))
                refine own_step (fun _ k => XS.iloadN X32.here hx rfl (hb hby at_157) (by rw [hA40]; rfl) k) ?_
                show own_Ends p e below F (T32.setTop (mkF m 158 A40 [(.int p4), (.int z17), (.int z7)]))
                refine own_step (fun _ k => XS.iload X32.here hx rfl (hb hby at_158) (by rw [hA40]; rfl) k) ?_
                show own_Ends p e below F (T32.setTop (mkF m 160 A40 [(.int p5), (.int p4), (.int z17), (.int z7)]))
                obtain ⟨_, _, ⟨T41, L41, k41, n41⟩, -, X41, hS41, gr41, ⟨Lc41, hQ41, l41, y41, z41⟩, st41⟩ := callSS X32 hx (y := (⟨"com/example/greater_than/greaterthan/page/PageHasNextPinLaw", "cursor", "(ZZII)Ljava/lang/String;"⟩ : MethodName)) hown (mvT hZ (own_g hw 26 rfl)) (mvT hZ (own_g hw 27 rfl)) (mvT hZ (own_g hw 28 rfl)) (mvT hZ (own_g hw 29 rfl)) (by decide) (backOfS (W := 0) (rm5 l Z a0 hw [] z7 z17 p4 p5 zc T32.heap n0 Z32 S0_32 hz) hZ (own_g hw 29 rfl) (own_g hw 28 rfl) (by decide) (by decide)) (g := (mkF m 160 A40 [(.int p5), (.int p4), (.int z17), (.int z7)])) rfl (by rw [hml]; show A40.size = _; rw [hA40]; rfl) (argsL := [(.int z7), (.int z17), (.int p4), (.int p5)]) (rest := []) (lenOf pd__28ZZII_29Ljava_2flang_2fString_3b rfl) rfl (by show 2 * 0 + _ ≤ _; exact Nat.le_of_eq rfl) (hb hby at_160) (fun _ _ => ⟨rfl, rfl, (by decide : 4 + 3 ≤ _), (by decide : 11 + 8 ≤ _)⟩)
                dsimp only [Pt.U, Pt.locs, Pt.cells, Pt.slots] at X41 l41 y41 z41 st41 hQ41 hS41 gr41
                subst l41 y41 z41
                obtain ⟨u41, rfl, Nq41, Kq41, fq0_41⟩ := hQ41
                have N41 := Fr.app N32 Nq41
                have Z41 : n0 ≤ T41.heap.size := Nat.le_trans Z32 Kq41.1
                have SZ41 : h0.size ≤ T41.heap.size := Nat.le_trans SZ32 Kq41.1
                have S0_41 := own_Sta_keep S0_32 Kq41 all0
                have S1_41 := own_Sta_keep S1_32 Kq41 all0
                have S2_41 := own_Sta_keep S2_32 Kq41 all0
                have S3_41 := own_Sta_keep S3_32 Kq41 all0
                have S4_41 := own_Sta_keep S4_32 Kq41 all0
                have hZ := own_warm hZ hS41
                have hown := own_find hown hS41
                have hS := foldS hS (by exact hk) hS41 gr41
                have hk := Nat.le_refl T41.heap.size
                refine own_trans st41 ?_
                show own_Ends p e below F (T41.setTop (mkF m 163 A40 [u41]))
                obtain ⟨A42, hA42⟩ : ∃ z : Array Slot, z = #[.val (.int p1), .val (.int p2), .val (.int p3), .val (.int p4), .val (.int p5), .val (.int p6), .val (.int z2), .val (.int z7), .val (.int z12), .val (.int z17), .val (.int (0 : Int32)), .val (.int z24), .val (.ref a29), .val (.ref cu), .val u41, .unset] := ⟨_, rfl⟩
                refine own_step (fun _ k => XS.astore X41.here hx rfl (hb hby at_163) rfl fq0_41 (l' := A42) (by rw [hA40, hA42]; exact (XS.store1 (o := .unset) rfl (Or.inl rfl) (own_catR fq0_41))) k) ?_
                show own_Ends p e below F (T41.setTop (mkF m 165 A42 []))
                obtain ⟨T43, h43, X43, e43, E43, A43, D43, -, st43⟩ := newO X41 hx hZ hown (own_g hw 58 rfl) (own_g hw 59 rfl) (own_g hw 60 rfl) rfl (g := (mkF m 165 A42 [])) rfl (hb hby at_165) (by decide) (by decide)
                obtain ⟨a43, g43⟩ : ∃ z, z = T41.heap.size := ⟨_, rfl⟩
                rw [← g43] at A43 D43 st43
                have ge_a43 : n0 ≤ a43 := Nat.le_trans Z41 (Nat.le_of_eq g43.symm)
                have sz_a43 : h0.size ≤ a43 := Nat.le_trans SZ41 (Nat.le_of_eq g43.symm)
                have ne_dd_a43 : dd ≠ a43 := Nat.ne_of_lt (by rw [g43]; exact ((((VD.ext E29).keep Kq30 (ninS ne_dd_a29 nin0)).keep Kq32 nin0).keep Kq41 nin0).lt)
                have ne_cc_a43 : cc ≠ a43 := Nat.ne_of_lt (by rw [g43]; exact ((((BC.ext E29).keep Kq30 (ninS ne_cc_a29 nin0)).keep Kq32 nin0).keep Kq41 nin0).lt)
                have ne_a29_a43 : a29 ≠ a43 := Nat.ne_of_lt (by rw [g43]; exact ((fq1_30.keep Kq32 nin0).keep Kq41 nin0).lt)
                have Z43 : n0 ≤ h43.size := Nat.le_trans Z41 E43.1
                have SZ43 : h0.size ≤ h43.size := Nat.le_trans SZ41 E43.1
                have hk := Nat.le_trans hk E43.1
                have F43_rows : Fld Z h43 a43 "com/example/greater_than/greaterthan/page/Page" "rows" "Ljava/util/List;" .null := D43 (Or.inr (own_g hw 146 rfl)) (ty := (.object "java/util/List")) (by decide)
                have F43_previousCursor : Fld Z h43 a43 "com/example/greater_than/greaterthan/page/Page" "previousCursor" "Ljava/lang/String;" .null := D43 (Or.inr (own_g hw 148 rfl)) (ty := (.object "java/lang/String")) (by decide)
                have F43_nextCursor : Fld Z h43 a43 "com/example/greater_than/greaterthan/page/Page" "nextCursor" "Ljava/lang/String;" .null := D43 (Or.inr (own_g hw 150 rfl)) (ty := (.object "java/lang/String")) (by decide)
                refine own_step st43 ?_
                show own_Ends p e below F (T43.setTop (mkF m 168 A42 [(.ref a43)]))
                refine own_step (fun _ k => XS.dup X43.here hx rfl (hb hby at_168) rfl rfl k) ?_
                show own_Ends p e below F (T43.setTop (mkF m 169 A42 [(.ref a43), (.ref a43)]))
                refine own_step (fun _ k => XS.aload X43.here hx rfl (hb hby at_169) (by rw [hA42]; rfl) rfl k) ?_
                show own_Ends p e below F (T43.setTop (mkF m 171 A42 [(.ref a29), (.ref a43), (.ref a43)]))
                refine own_step (fun _ k => XS.aload X43.here hx rfl (hb hby at_171) (by rw [hA42]; rfl) fq0_41 k) ?_
                show own_Ends p e below F (T43.setTop (mkF m 173 A42 [u41, (.ref a29), (.ref a43), (.ref a43)]))
                refine own_step (fun _ k => XS.aload X43.here hx rfl (hb hby at_173) (by rw [hA42]; rfl) rfl k) ?_
                show own_Ends p e below F (T43.setTop (mkF m 175 A42 [(.ref cu), u41, (.ref a29), (.ref a43), (.ref a43)]))
                obtain ⟨_, _, ⟨T44, L44, k44, n44⟩, -, X44, ⟨Lc44, hQ44, l44, y44, z44⟩, st44⟩ := X43.specialBack hx (y := (⟨"com/example/greater_than/greaterthan/page/Page", "<init>", "(Ljava/util/List;Ljava/lang/String;Ljava/lang/String;)V"⟩ : MethodName)) rfl hown (mvT hZ (own_g hw 61 rfl)) (mvT hZ (own_g hw 62 rfl)) (mvT hZ (own_g hw 63 rfl)) (by decide) (backOf (W := 1) (rm11_0 l Z a0 hw [] a43 a29 dd kd  u41 (.ref cu) ee ma mu mv mo h43 n0 Z43 A43 ge_a43 F43_rows F43_previousCursor F43_nextCursor (((((VD.ext E29).keep Kq30 (ninS ne_dd_a29 nin0)).keep Kq32 nin0).keep Kq41 nin0).ext E43) (((((XD.ext E29).keep Kq30).keep Kq32).keep Kq41).ext E43) (((fq0_30.keep Kq32).keep Kq41).ext E43) (((fq2_30.keep Kq32 nin0).keep Kq41 nin0).ext E43) (((fq3_30.keep Kq32 nin0).keep Kq41 nin0).ext E43) (Sta.ext E43 S2_41) M_ma M_mu M_mv M_mo fq0_41 rfl) hZ (own_g hw 63 rfl) (own_g hw 60 rfl) (by decide) (by decide)) (g := (mkF m 175 A42 [(.ref cu), u41, (.ref a29), (.ref a43), (.ref a43)])) rfl (by rw [hml]; show A42.size = _; rw [hA42]; rfl) (Steps.refl _) (a := a43) (argsL := [(.ref a29), u41, (.ref cu)]) (rest := [(.ref a43)]) (lenOf pd__28Ljava_2futil_2fList_3bLjava_2flang_2fString_3bLjava_2flang_2fString_3b_29V rfl) rfl (by show 2 * 0 + _ ≤ _; exact Nat.le_of_eq rfl) (hb hby at_175) (fun _ _ => ⟨rfl, e43, (by decide : 8 + 3 ≤ _), (by decide : 22 + 5 ≤ _)⟩)
                dsimp only [Pt.U, Pt.locs, Pt.cells, Pt.slots] at X44 l44 y44 z44 st44 hQ44
                subst l44 y44 z44
                obtain ⟨rfl, Nq44, Kq44, fq0_44, fq1_44, fq2_44⟩ := hQ44
                have N44 := Fr.app N41 Nq44
                have Z44 : n0 ≤ T44.heap.size := Nat.le_trans Z43 Kq44.1
                have SZ44 : h0.size ≤ T44.heap.size := Nat.le_trans SZ43 Kq44.1
                have S0_44 := own_Sta_keep (Sta.ext E43 S0_41) Kq44 (allS (own_ns_exa A43) all0)
                have S1_44 := own_Sta_keep (Sta.ext E43 S1_41) Kq44 (allS (own_ns_exa A43) all0)
                have S2_44 := own_Sta_keep (Sta.ext E43 S2_41) Kq44 (allS (own_ns_exa A43) all0)
                have S3_44 := own_Sta_keep (Sta.ext E43 S3_41) Kq44 (allS (own_ns_exa A43) all0)
                have S4_44 := own_Sta_keep (Sta.ext E43 S4_41) Kq44 (allS (own_ns_exa A43) all0)
                have hk := Nat.le_trans hk Kq44.1
                refine own_trans st44 ?_
                show own_Ends p e below F (T44.setTop (mkF m 178 A42 [(.ref a43)]))
                obtain ⟨A45, hA45⟩ : ∃ z : Array Slot, z = #[.val (.int p1), .val (.int p2), .val (.int p3), .val (.int p4), .val (.int p5), .val (.int p6), .val (.int z2), .val (.int z7), .val (.int z12), .val (.int z17), .val (.int (0 : Int32)), .val (.int z24), .val (.ref a29), .val (.ref cu), .val u41, .val (.ref a43)] := ⟨_, rfl⟩
                refine own_step (fun _ k => XS.astore X44.here hx rfl (hb hby at_178) rfl rfl (l' := A45) (by rw [hA42, hA45]; exact rfl) k) ?_
                show own_Ends p e below F (T44.setTop (mkF m 180 A45 []))
                refine own_step (fun _ k => XS.aload X44.here hx rfl (hb hby at_180) (by rw [hA45]; rfl) rfl k) ?_
                show own_Ends p e below F (T44.setTop (mkF m 182 A45 [(.ref a43)]))
                obtain ⟨cq46, kq46, qa46, qb46, qc46⟩ := isOf (s := (s.setVm T41.vm)) (T := T44) hZ rfl fq0_44
                obtain ⟨_, _, ⟨T46, L46, k46, n46⟩, -, X46, ⟨Lc46, hQ46, l46, y46, z46⟩, st46⟩ := X44.virtualBack hx (y := (⟨"com/example/greater_than/greaterthan/page/Page", "hasNext", "()Z"⟩ : MethodName)) (z := (⟨"com/example/greater_than/greaterthan/page/Page", "hasNext", "()Z"⟩ : MethodName)) hown (mvT hZ (own_g hw 151 rfl)) (mvT hZ (own_g hw 152 rfl)) (notFace_of_selects (args := #[]) (mvT hZ (own_g hw 154 rfl))) (mvT hZ (own_g hw 154 rfl)) (mvT hZ (own_g hw 153 rfl)) (by decide) (backOf (W := 0) (rm21r l Z a0 hw [] a43 cu T44.heap n0 Z44 fq2_44) hZ (own_g hw 155 rfl) (own_g hw 60 rfl) (by decide) (by decide)) qa46 qc46 (g := (mkF m 182 A45 [(.ref a43)])) rfl (by rw [hml]; show A45.size = _; rw [hA45]; rfl) (Steps.refl _) (argsL := []) (rest := []) (lenOf pd__28_29Z rfl) rfl (by show 2 * 0 + _ ≤ _; exact Nat.le_of_eq rfl) (hb hby at_182) (fun _ _ => ⟨rfl, rfl, (by decide : 11 + 0 ≤ _), (by decide : 27 + 0 ≤ _)⟩)
                dsimp only [Pt.U, Pt.locs, Pt.cells, Pt.slots] at X46 l46 y46 z46 st46 hQ46
                subst l46 y46 z46
                obtain ⟨rfl, Nq46, eq46⟩ := hQ46
                have N46 := Fr.app N44 Nq46
                refine own_trans st46 ?_
                show own_Ends p e below F (T46.setTop (mkF m 185 A45 [(.int (1 : Int32))]))
                refine own_step (fun _ k => XS.aload X46.here hx rfl (hb hby at_185) (by rw [hA45]; rfl) rfl k) ?_
                show own_Ends p e below F (T46.setTop (mkF m 187 A45 [(.ref cu), (.int (1 : Int32))]))
                refine own_step (fun _ k => XS.ifnullNo X46.here hx rfl (hb hby at_187) rfl k) ?_
                show own_Ends p e below F (T46.setTop (mkF m 190 A45 [(.int (1 : Int32))]))
                refine own_step (fun _ k => XS.iconst X46.here hx rfl (hb hby at_190) k) ?_
                show own_Ends p e below F (T46.setTop (mkF m 191 A45 [(.int (1 : Int32)), (.int (1 : Int32))]))
                refine own_step (fun _ k => XS.goto X46.here hx rfl (pc0 := 191) (pc' := 195) rfl (hb hby at_191) (by decide) (by decide) k) ?_
                show own_Ends p e below F (T46.setTop (mkF m 195 A45 [(.int (1 : Int32)), (.int (1 : Int32))]))
                refine own_step (fun _ k => XS.icmpNo X46.here hx rfl (hb hby at_195) rfl (teq (by decide : (1 : Int32) = (1 : Int32))).2 k) ?_
                show own_Ends p e below F (T46.setTop (mkF m 198 A45 []))
                refine own_step (fun _ k => XS.iconst X46.here hx rfl (hb hby at_198) k) ?_
                show own_Ends p e below F (T46.setTop (mkF m 199 A45 [(.int (1 : Int32))]))
                refine own_step (fun _ k => XS.goto X46.here hx rfl (pc0 := 199) (pc' := 203) rfl (hb hby at_199) (by decide) (by decide) k) ?_
                show own_Ends p e below F (T46.setTop (mkF m 203 A45 [(.int (1 : Int32))]))
                rw [hF]
                exact own_retW X46 hS (by rw [eq46]; exact hk) (v := (some (.int (nar .boolean (1 : Int32))))) (fun h => by rw [Bd.returns] at h; cases h) Bd.notSynchronized (fun fs hr => retN X46 hx (t := .boolean) Bd.returns (by simp) (hb hby at_203) hr) (by decide) (by decide) (by rw [eq46]; exact ⟨rfl, N46⟩)
            · show own_Ends p e below F (T30.setTop (mkF m 83 A31 []))
              refine own_step (fun _ k => XS.iload X30.here hx rfl (hb hby at_83) (by rw [hA31]; rfl) k) ?_
              show own_Ends p e below F (T30.setTop (mkF m 85 A31 [(.int (1 : Int32))]))
              refine own_step (fun _ k => XS.iconst X30.here hx rfl (hb hby at_85) k) ?_
              show own_Ends p e below F (T30.setTop (mkF m 86 A31 [(.int (1 : Int32)), (.int (1 : Int32))]))
              refine own_step (fun _ k => XS.icmpNo X30.here hx rfl (hb hby at_86) rfl (flt (by decide : ¬ ((1 : Int32) < (1 : Int32)))).1 k) ?_
              show own_Ends p e below F (T30.setTop (mkF m 89 A31 []))
              refine own_step (fun _ k => XS.aload X30.here hx rfl (hb hby at_89) (by rw [hA31]; rfl) rfl k) ?_
              show own_Ends p e below F (T30.setTop (mkF m 91 A31 [(.ref a29)]))
              refine own_step (fun _ k => XS.iload X30.here hx rfl (hb hby at_91) (by rw [hA31]; rfl) k) ?_
              show own_Ends p e below F (T30.setTop (mkF m 93 A31 [(.int z24), (.ref a29)]))
              by_cases c93_47 : z24 = (0 : Int32)
              · refine own_step (fun _ k => XS.ifYes X30.here hx rfl (pc0 := 93) (pc' := 100) rfl (hb hby at_93) rfl ((if0 _ _).trans (teq c93_47).1) (by decide) (by decide) k) ?_
                show own_Ends p e below F (T30.setTop (mkF m 100 A31 [(.ref a29)]))
                refine own_step (fun _ k => XS.iload X30.here hx rfl (hb hby at_100) (by rw [hA31]; rfl) k) ?_
                show own_Ends p e below F (T30.setTop (mkF m 102 A31 [(.int p6), (.ref a29)]))
                obtain ⟨_, _, ⟨T48, L48, k48, n48⟩, -, X48, ⟨Lc48, hQ48, l48, y48, z48⟩, st48⟩ := Jvm.LawKit.callS X30 hx (y := (⟨"java/lang/Integer", "valueOf", "(I)Ljava/lang/Integer;"⟩ : MethodName)) hown (mvT hZ (own_g hw 189 rfl)) (mvT hZ (own_g hw 190 rfl)) (mvT hZ (own_g hw 191 rfl)) (mvT hZ (own_g hw 192 rfl)) (by decide) (backOf (W := 1) (rm27 l Z a0 hw [] p6 cc T30.heap n0 Z30 S3_30 S4_30 ((BC.ext E29).keep Kq30 (ninS ne_cc_a29 nin0))) hZ (own_g hw 192 rfl) (own_g hw 191 rfl) (by decide) (by decide)) (g := (mkF m 102 A31 [(.int p6), (.ref a29)])) rfl (by rw [hml]; show A31.size = _; rw [hA31]; rfl) (argsL := [(.int p6)]) (rest := [(.ref a29)]) (lenOf pd__28I_29Ljava_2flang_2fInteger_3b rfl) rfl (by show 2 * 0 + _ ≤ _; exact Nat.le_of_eq rfl) (hb hby at_102) (fun _ _ => ⟨rfl, rfl, (by decide : 1 + 1 ≤ _), (by decide : 3 + 1 ≤ _)⟩)
                dsimp only [Pt.U, Pt.locs, Pt.cells, Pt.slots] at X48 l48 y48 z48 st48 hQ48
                subst l48 y48 z48
                obtain ⟨c48, rfl, Nq48, Kq48, fq0_48⟩ := hQ48
                have N48 := Fr.app N30 Nq48
                have Z48 : n0 ≤ T48.heap.size := Nat.le_trans Z30 Kq48.1
                have SZ48 : h0.size ≤ T48.heap.size := Nat.le_trans SZ30 Kq48.1
                have S0_48 := own_Sta_keep S0_30 Kq48 all0
                have S1_48 := own_Sta_keep S1_30 Kq48 all0
                have S2_48 := own_Sta_keep S2_30 Kq48 all0
                have S3_48 := own_Sta_keep S3_30 Kq48 all0
                have S4_48 := own_Sta_keep S4_30 Kq48 all0
                have hk := Nat.le_trans hk Kq48.1
                refine own_step st48 ?_
                show own_Ends p e below F (T48.setTop (mkF m 105 A31 [(.ref c48), (.ref a29)]))
                obtain ⟨cq49, kq49, qa49, qb49, qc49⟩ := isOf (s := (s.setVm s.vm)) (T := T48) hZ rfl (fq0_30.keep Kq48)
                obtain ⟨_, _, ⟨T49, L49, k49, n49⟩, -, X49, ⟨Lc49, hQ49, l49, y49, z49⟩, st49⟩ := X48.virtualBack hx (y := (⟨"java/util/ArrayList", "add", "(Ljava/lang/Object;)Z"⟩ : MethodName)) (z := (⟨"java/util/ArrayList", "add", "(Ljava/lang/Object;)Z"⟩ : MethodName)) hown (mvT hZ (own_g hw 159 rfl)) (mvT hZ (own_g hw 160 rfl)) (notFace_of_selects (args := #[]) (mvT hZ (own_g hw 162 rfl))) (mvT hZ (own_g hw 162 rfl)) (mvT hZ (own_g hw 161 rfl)) (by decide) (backOf (W := 0) (rm22_0 l Z a0 hw [] a29 dd kd (.ref c48) T48.heap n0 Z48 (fq0_30.keep Kq48) ge_a29 (fq1_30.keep Kq48 nin0) (fq2_30.keep Kq48 nin0) (fq3_30.keep Kq48 nin0) (Or.inr ⟨_, _, _, rfl, fq0_48, (own_g hw 210 rfl)⟩) S1_48 (((VD.ext E29).keep Kq30 (ninS ne_dd_a29 nin0)).keep Kq48 nin0)) hZ (own_g hw 163 rfl) (own_g hw 2 rfl) (by decide) (by decide)) qa49 qc49 (g := (mkF m 105 A31 [(.ref c48), (.ref a29)])) rfl (by rw [hml]; show A31.size = _; rw [hA31]; rfl) (Steps.refl _) (argsL := [(.ref c48)]) (rest := []) (lenOf pd__28Ljava_2flang_2fObject_3b_29Z rfl) rfl (by show 2 * 0 + _ ≤ _; exact Nat.le_of_eq rfl) (hb hby at_105) (fun _ _ => ⟨rfl, rfl, (by decide : 2 + 1 ≤ _), (by decide : 4 + 10 ≤ _)⟩)
                dsimp only [Pt.U, Pt.locs, Pt.cells, Pt.slots] at X49 l49 y49 z49 st49 hQ49
                subst l49 y49 z49
                obtain ⟨c49, kc49, rfl, Nq49, Kq49, fq0_49, fq1_49, fq2_49, fq3_49, fq4_49, fq5_49, fq6_49, fq7_49⟩ := hQ49
                have N49 := Fr.app N48 Nq49
                have Z49 : n0 ≤ T49.heap.size := Nat.le_trans Z48 Kq49.1
                have SZ49 : h0.size ≤ T49.heap.size := Nat.le_trans SZ48 Kq49.1
                have S0_49 := own_Sta_keep S0_48 Kq49 (allS (own_ns_exa (fq0_30.keep Kq48)) all0)
                have S1_49 := own_Sta_keep S1_48 Kq49 (allS (own_ns_exa (fq0_30.keep Kq48)) all0)
                have S2_49 := own_Sta_keep S2_48 Kq49 (allS (own_ns_exa (fq0_30.keep Kq48)) all0)
                have S3_49 := own_Sta_keep S3_48 Kq49 (allS (own_ns_exa (fq0_30.keep Kq48)) all0)
                have S4_49 := own_Sta_keep S4_48 Kq49 (allS (own_ns_exa (fq0_30.keep Kq48)) all0)
                have ne_dd_c49 : dd ≠ c49 := Nat.ne_of_lt (Nat.lt_of_lt_of_le ((((VD.ext E29).keep Kq30 (ninS ne_dd_a29 nin0)).keep Kq48 nin0)).lt fq0_49)
                have ne_cc_c49 : cc ≠ c49 := Nat.ne_of_lt (Nat.lt_of_lt_of_le ((((BC.ext E29).keep Kq30 (ninS ne_cc_a29 nin0)).keep Kq48 nin0)).lt fq0_49)
                have ne_a29_c49 : a29 ≠ c49 := Nat.ne_of_lt (Nat.lt_of_lt_of_le ((fq1_30.keep Kq48 nin0)).lt fq0_49)
                have ne_c48_c49 : c48 ≠ c49 := Nat.ne_of_lt (Nat.lt_of_lt_of_le (fq0_48).lt fq0_49)
                have ge_c49 : n0 ≤ c49 := Nat.le_trans Z48 fq0_49
                have sz_c49 : h0.size ≤ c49 := Nat.le_trans SZ48 fq0_49
                have hk := Nat.le_trans hk Kq49.1
                refine own_trans st49 ?_
                show own_Ends p e below F (T49.setTop (mkF m 108 A31 [(.int (1 : Int32))]))
                refine own_step (fun _ k => XS.pop X49.here hx rfl (hb hby at_108) rfl rfl k) ?_
                show own_Ends p e below F (T49.setTop (mkF m 109 A31 []))
                refine own_step (fun _ k => XS.iload X49.here hx rfl (hb hby at_109) (by rw [hA31]; rfl) k) ?_
                show own_Ends p e below F (T49.setTop (mkF m 111 A31 [(.int (1 : Int32))]))
                refine own_step (fun _ k => XS.iconst X49.here hx rfl (hb hby at_111) k) ?_
                show own_Ends p e below F (T49.setTop (mkF m 112 A31 [(.int (2 : Int32)), (.int (1 : Int32))]))
                refine own_step (fun _ k => XS.icmpYes X49.here hx rfl (pc0 := 112) (pc' := 126) rfl (hb hby at_112) rfl (tlt (by decide : (1 : Int32) < (2 : Int32))).1 (by decide) (by decide) k) ?_
                show own_Ends p e below F (T49.setTop (mkF m 126 A31 []))
                refine own_step (fun _ k => XS.iload X49.here hx rfl (hb hby at_126) (by rw [hA31]; rfl) k) ?_
                show own_Ends p e below F (T49.setTop (mkF m 128 A31 [(.int (1 : Int32))]))
                refine own_step (fun _ k => XS.iconst X49.here hx rfl (hb hby at_128) k) ?_
                show own_Ends p e below F (T49.setTop (mkF m 129 A31 [(.int (3 : Int32)), (.int (1 : Int32))]))
                refine own_step (fun _ k => XS.icmpYes X49.here hx rfl (pc0 := 129) (pc' := 142) rfl (hb hby at_129) rfl (tlt (by decide : (1 : Int32) < (3 : Int32))).1 (by decide) (by decide) k) ?_
                show own_Ends p e below F (T49.setTop (mkF m 142 A31 []))
                refine own_step (fun _ k => XS.iload X49.here hx rfl (hb hby at_142) (by rw [hA31]; rfl) k) ?_
                show own_Ends p e below F (T49.setTop (mkF m 144 A31 [(.int z2)]))
                refine own_step (fun _ k => XS.iload X49.here hx rfl (hb hby at_144) (by rw [hA31]; rfl) k) ?_
                show own_Ends p e below F (T49.setTop (mkF m 146 A31 [(.int z12), (.int z2)]))
                refine own_step (fun _ k => XS.iloadN X49.here hx rfl (hb hby at_146) (by rw [hA31]; rfl) k) ?_
                show own_Ends p e below F (T49.setTop (mkF m 147 A31 [(.int p2), (.int z12), (.int z2)]))
                refine own_step (fun _ k => XS.iloadN X49.here hx rfl (hb hby at_147) (by rw [hA31]; rfl) k) ?_
                show own_Ends p e below F (T49.setTop (mkF m 148 A31 [(.int p3), (.int p2), (.int z12), (.int z2)]))
                obtain ⟨_, _, ⟨T50, L50, k50, n50⟩, -, X50, hS50, gr50, ⟨Lc50, hQ50, l50, y50, z50⟩, st50⟩ := callSS X49 hx (y := (⟨"com/example/greater_than/greaterthan/page/PageHasNextPinLaw", "cursor", "(ZZII)Ljava/lang/String;"⟩ : MethodName)) hown (mvT hZ (own_g hw 26 rfl)) (mvT hZ (own_g hw 27 rfl)) (mvT hZ (own_g hw 28 rfl)) (mvT hZ (own_g hw 29 rfl)) (by decide) (backOfS (W := 0) (rm5 l Z a0 hw [] z2 z12 p2 p3 zc T49.heap n0 Z49 S0_49 hz) hZ (own_g hw 29 rfl) (own_g hw 28 rfl) (by decide) (by decide)) (g := (mkF m 148 A31 [(.int p3), (.int p2), (.int z12), (.int z2)])) rfl (by rw [hml]; show A31.size = _; rw [hA31]; rfl) (argsL := [(.int z2), (.int z12), (.int p2), (.int p3)]) (rest := []) (lenOf pd__28ZZII_29Ljava_2flang_2fString_3b rfl) rfl (by show 2 * 0 + _ ≤ _; exact Nat.le_of_eq rfl) (hb hby at_148) (fun _ _ => ⟨rfl, rfl, (by decide : 3 + 3 ≤ _), (by decide : 14 + 8 ≤ _)⟩)
                dsimp only [Pt.U, Pt.locs, Pt.cells, Pt.slots] at X50 l50 y50 z50 st50 hQ50 hS50 gr50
                subst l50 y50 z50
                obtain ⟨u50, rfl, Nq50, Kq50, fq0_50⟩ := hQ50
                have N50 := Fr.app N49 Nq50
                have Z50 : n0 ≤ T50.heap.size := Nat.le_trans Z49 Kq50.1
                have SZ50 : h0.size ≤ T50.heap.size := Nat.le_trans SZ49 Kq50.1
                have S0_50 := own_Sta_keep S0_49 Kq50 all0
                have S1_50 := own_Sta_keep S1_49 Kq50 all0
                have S2_50 := own_Sta_keep S2_49 Kq50 all0
                have S3_50 := own_Sta_keep S3_49 Kq50 all0
                have S4_50 := own_Sta_keep S4_49 Kq50 all0
                have hZ := own_warm hZ hS50
                have hown := own_find hown hS50
                have hS := foldS hS (by exact hk) hS50 gr50
                have hk := Nat.le_refl T50.heap.size
                refine own_trans st50 ?_
                show own_Ends p e below F (T50.setTop (mkF m 151 A31 [u50]))
                rcases ref_cases fq0_50 with rfl | ⟨cu, rfl⟩
                · show own_Ends p e below F (T50.setTop (mkF m 151 A31 [.null]))
                  obtain ⟨A51, hA51⟩ : ∃ z : Array Slot, z = #[.val (.int p1), .val (.int p2), .val (.int p3), .val (.int p4), .val (.int p5), .val (.int p6), .val (.int z2), .val (.int z7), .val (.int z12), .val (.int z17), .val (.int (1 : Int32)), .val (.int z24), .val (.ref a29), .val .null, .unset, .unset] := ⟨_, rfl⟩
                  refine own_step (fun _ k => XS.astore X50.here hx rfl (hb hby at_151) rfl rfl (l' := A51) (by rw [hA31, hA51]; exact rfl) k) ?_
                  show own_Ends p e below F (T50.setTop (mkF m 153 A51 []))
                  refine own_step (fun _ k => XS.iload X50.here hx rfl (hb hby at_153) (by rw [hA51]; rfl) k) ?_
                  show own_Ends p e below F (T50.setTop (mkF m 155 A51 [(.int z7)]))
                  refine own_step (fun _ k => XS.iload X50.here hx rfl (hb hby at_155) (by rw [hA51]; rfl) k) ?_
                  show own_Ends p e below F (T50.setTop (mkF m 157 A51 [(.int z17), (.int z7)]))
                  refine own_step (fun _ k => XS.iloadN X50.here hx rfl (hb hby at_157) (by rw [hA51]; rfl) k) ?_
                  show own_Ends p e below F (T50.setTop (mkF m 158 A51 [(.int p4), (.int z17), (.int z7)]))
                  refine own_step (fun _ k => XS.iload X50.here hx rfl (hb hby at_158) (by rw [hA51]; rfl) k) ?_
                  show own_Ends p e below F (T50.setTop (mkF m 160 A51 [(.int p5), (.int p4), (.int z17), (.int z7)]))
                  obtain ⟨_, _, ⟨T52, L52, k52, n52⟩, -, X52, hS52, gr52, ⟨Lc52, hQ52, l52, y52, z52⟩, st52⟩ := callSS X50 hx (y := (⟨"com/example/greater_than/greaterthan/page/PageHasNextPinLaw", "cursor", "(ZZII)Ljava/lang/String;"⟩ : MethodName)) hown (mvT hZ (own_g hw 26 rfl)) (mvT hZ (own_g hw 27 rfl)) (mvT hZ (own_g hw 28 rfl)) (mvT hZ (own_g hw 29 rfl)) (by decide) (backOfS (W := 0) (rm5 l Z a0 hw [] z7 z17 p4 p5 zc T50.heap n0 Z50 S0_50 hz) hZ (own_g hw 29 rfl) (own_g hw 28 rfl) (by decide) (by decide)) (g := (mkF m 160 A51 [(.int p5), (.int p4), (.int z17), (.int z7)])) rfl (by rw [hml]; show A51.size = _; rw [hA51]; rfl) (argsL := [(.int z7), (.int z17), (.int p4), (.int p5)]) (rest := []) (lenOf pd__28ZZII_29Ljava_2flang_2fString_3b rfl) rfl (by show 2 * 0 + _ ≤ _; exact Nat.le_of_eq rfl) (hb hby at_160) (fun _ _ => ⟨rfl, rfl, (by decide : 6 + 3 ≤ _), (by decide : 22 + 8 ≤ _)⟩)
                  dsimp only [Pt.U, Pt.locs, Pt.cells, Pt.slots] at X52 l52 y52 z52 st52 hQ52 hS52 gr52
                  subst l52 y52 z52
                  obtain ⟨u52, rfl, Nq52, Kq52, fq0_52⟩ := hQ52
                  have N52 := Fr.app N50 Nq52
                  have Z52 : n0 ≤ T52.heap.size := Nat.le_trans Z50 Kq52.1
                  have SZ52 : h0.size ≤ T52.heap.size := Nat.le_trans SZ50 Kq52.1
                  have S0_52 := own_Sta_keep S0_50 Kq52 all0
                  have S1_52 := own_Sta_keep S1_50 Kq52 all0
                  have S2_52 := own_Sta_keep S2_50 Kq52 all0
                  have S3_52 := own_Sta_keep S3_50 Kq52 all0
                  have S4_52 := own_Sta_keep S4_50 Kq52 all0
                  have hZ := own_warm hZ hS52
                  have hown := own_find hown hS52
                  have hS := foldS hS (by exact hk) hS52 gr52
                  have hk := Nat.le_refl T52.heap.size
                  refine own_trans st52 ?_
                  show own_Ends p e below F (T52.setTop (mkF m 163 A51 [u52]))
                  obtain ⟨A53, hA53⟩ : ∃ z : Array Slot, z = #[.val (.int p1), .val (.int p2), .val (.int p3), .val (.int p4), .val (.int p5), .val (.int p6), .val (.int z2), .val (.int z7), .val (.int z12), .val (.int z17), .val (.int (1 : Int32)), .val (.int z24), .val (.ref a29), .val .null, .val u52, .unset] := ⟨_, rfl⟩
                  refine own_step (fun _ k => XS.astore X52.here hx rfl (hb hby at_163) rfl fq0_52 (l' := A53) (by rw [hA51, hA53]; exact (XS.store1 (o := .unset) rfl (Or.inl rfl) (own_catR fq0_52))) k) ?_
                  show own_Ends p e below F (T52.setTop (mkF m 165 A53 []))
                  obtain ⟨T54, h54, X54, e54, E54, A54, D54, -, st54⟩ := newO X52 hx hZ hown (own_g hw 58 rfl) (own_g hw 59 rfl) (own_g hw 60 rfl) rfl (g := (mkF m 165 A53 [])) rfl (hb hby at_165) (by decide) (by decide)
                  obtain ⟨a54, g54⟩ : ∃ z, z = T52.heap.size := ⟨_, rfl⟩
                  rw [← g54] at A54 D54 st54
                  have ge_a54 : n0 ≤ a54 := Nat.le_trans Z52 (Nat.le_of_eq g54.symm)
                  have sz_a54 : h0.size ≤ a54 := Nat.le_trans SZ52 (Nat.le_of_eq g54.symm)
                  have ne_dd_a54 : dd ≠ a54 := Nat.ne_of_lt (by rw [g54]; exact ((((((VD.ext E29).keep Kq30 (ninS ne_dd_a29 nin0)).keep Kq48 nin0).keep Kq49 (ninS ne_dd_a29 nin0)).keep Kq50 nin0).keep Kq52 nin0).lt)
                  have ne_cc_a54 : cc ≠ a54 := Nat.ne_of_lt (by rw [g54]; exact ((((((BC.ext E29).keep Kq30 (ninS ne_cc_a29 nin0)).keep Kq48 nin0).keep Kq49 (ninS ne_cc_a29 nin0)).keep Kq50 nin0).keep Kq52 nin0).lt)
                  have ne_a29_a54 : a29 ≠ a54 := Nat.ne_of_lt (by rw [g54]; exact ((fq2_49.keep Kq50 nin0).keep Kq52 nin0).lt)
                  have ne_c48_a54 : c48 ≠ a54 := Nat.ne_of_lt (by rw [g54]; exact (((fq0_48.keep Kq49).keep Kq50).keep Kq52).lt)
                  have ne_c49_a54 : c49 ≠ a54 := Nat.ne_of_lt (by rw [g54]; exact ((fq5_49.keep Kq50 nin0).keep Kq52 nin0).lt)
                  have Z54 : n0 ≤ h54.size := Nat.le_trans Z52 E54.1
                  have SZ54 : h0.size ≤ h54.size := Nat.le_trans SZ52 E54.1
                  have hk := Nat.le_trans hk E54.1
                  have F54_rows : Fld Z h54 a54 "com/example/greater_than/greaterthan/page/Page" "rows" "Ljava/util/List;" .null := D54 (Or.inr (own_g hw 146 rfl)) (ty := (.object "java/util/List")) (by decide)
                  have F54_previousCursor : Fld Z h54 a54 "com/example/greater_than/greaterthan/page/Page" "previousCursor" "Ljava/lang/String;" .null := D54 (Or.inr (own_g hw 148 rfl)) (ty := (.object "java/lang/String")) (by decide)
                  have F54_nextCursor : Fld Z h54 a54 "com/example/greater_than/greaterthan/page/Page" "nextCursor" "Ljava/lang/String;" .null := D54 (Or.inr (own_g hw 150 rfl)) (ty := (.object "java/lang/String")) (by decide)
                  refine own_step st54 ?_
                  show own_Ends p e below F (T54.setTop (mkF m 168 A53 [(.ref a54)]))
                  refine own_step (fun _ k => XS.dup X54.here hx rfl (hb hby at_168) rfl rfl k) ?_
                  show own_Ends p e below F (T54.setTop (mkF m 169 A53 [(.ref a54), (.ref a54)]))
                  refine own_step (fun _ k => XS.aload X54.here hx rfl (hb hby at_169) (by rw [hA53]; rfl) rfl k) ?_
                  show own_Ends p e below F (T54.setTop (mkF m 171 A53 [(.ref a29), (.ref a54), (.ref a54)]))
                  refine own_step (fun _ k => XS.aload X54.here hx rfl (hb hby at_171) (by rw [hA53]; rfl) fq0_52 k) ?_
                  show own_Ends p e below F (T54.setTop (mkF m 173 A53 [u52, (.ref a29), (.ref a54), (.ref a54)]))
                  refine own_step (fun _ k => XS.aload X54.here hx rfl (hb hby at_173) (by rw [hA53]; rfl) rfl k) ?_
                  show own_Ends p e below F (T54.setTop (mkF m 175 A53 [.null, u52, (.ref a29), (.ref a54), (.ref a54)]))
                  obtain ⟨_, _, ⟨T55, L55, k55, n55⟩, -, X55, ⟨Lc55, hQ55, l55, y55, z55⟩, st55⟩ := X54.specialBack hx (y := (⟨"com/example/greater_than/greaterthan/page/Page", "<init>", "(Ljava/util/List;Ljava/lang/String;Ljava/lang/String;)V"⟩ : MethodName)) rfl hown (mvT hZ (own_g hw 61 rfl)) (mvT hZ (own_g hw 62 rfl)) (mvT hZ (own_g hw 63 rfl)) (by decide) (backOf (W := 1) (rm11_1 l Z a0 hw [] a54 a29 c49 kc49 (.ref c48) u52 .null ee ma mu mv mo h54 n0 Z54 A54 ge_a54 F54_rows F54_previousCursor F54_nextCursor (((fq5_49.keep Kq50 nin0).keep Kq52 nin0).ext E54) (((fq7_49.keep Kq50).keep Kq52).ext E54) (Or.inr ⟨_, _, _, rfl, ((((fq0_48.keep Kq49).keep Kq50).keep Kq52).ext E54), (own_g hw 210 rfl)⟩) (((fq1_49.keep Kq50).keep Kq52).ext E54) (((fq3_49.keep Kq50 nin0).keep Kq52 nin0).ext E54) (((fq4_49.keep Kq50 nin0).keep Kq52 nin0).ext E54) (Sta.ext E54 S2_52) M_ma M_mu M_mv M_mo fq0_52 rfl) hZ (own_g hw 63 rfl) (own_g hw 60 rfl) (by decide) (by decide)) (g := (mkF m 175 A53 [.null, u52, (.ref a29), (.ref a54), (.ref a54)])) rfl (by rw [hml]; show A53.size = _; rw [hA53]; rfl) (Steps.refl _) (a := a54) (argsL := [(.ref a29), u52, .null]) (rest := [(.ref a54)]) (lenOf pd__28Ljava_2futil_2fList_3bLjava_2flang_2fString_3bLjava_2flang_2fString_3b_29V rfl) rfl (by show 2 * 0 + _ ≤ _; exact Nat.le_of_eq rfl) (hb hby at_175) (fun _ _ => ⟨rfl, e54, (by decide : 10 + 3 ≤ _), (by decide : 33 + 6 ≤ _)⟩)
                  dsimp only [Pt.U, Pt.locs, Pt.cells, Pt.slots] at X55 l55 y55 z55 st55 hQ55
                  subst l55 y55 z55
                  obtain ⟨rfl, Nq55, Kq55, fq0_55, fq1_55, fq2_55⟩ := hQ55
                  have N55 := Fr.app N52 Nq55
                  have Z55 : n0 ≤ T55.heap.size := Nat.le_trans Z54 Kq55.1
                  have SZ55 : h0.size ≤ T55.heap.size := Nat.le_trans SZ54 Kq55.1
                  have S0_55 := own_Sta_keep (Sta.ext E54 S0_52) Kq55 (allS (own_ns_exa A54) all0)
                  have S1_55 := own_Sta_keep (Sta.ext E54 S1_52) Kq55 (allS (own_ns_exa A54) all0)
                  have S2_55 := own_Sta_keep (Sta.ext E54 S2_52) Kq55 (allS (own_ns_exa A54) all0)
                  have S3_55 := own_Sta_keep (Sta.ext E54 S3_52) Kq55 (allS (own_ns_exa A54) all0)
                  have S4_55 := own_Sta_keep (Sta.ext E54 S4_52) Kq55 (allS (own_ns_exa A54) all0)
                  have hk := Nat.le_trans hk Kq55.1
                  refine own_trans st55 ?_
                  show own_Ends p e below F (T55.setTop (mkF m 178 A53 [(.ref a54)]))
                  obtain ⟨A56, hA56⟩ : ∃ z : Array Slot, z = #[.val (.int p1), .val (.int p2), .val (.int p3), .val (.int p4), .val (.int p5), .val (.int p6), .val (.int z2), .val (.int z7), .val (.int z12), .val (.int z17), .val (.int (1 : Int32)), .val (.int z24), .val (.ref a29), .val .null, .val u52, .val (.ref a54)] := ⟨_, rfl⟩
                  refine own_step (fun _ k => XS.astore X55.here hx rfl (hb hby at_178) rfl rfl (l' := A56) (by rw [hA53, hA56]; exact rfl) k) ?_
                  show own_Ends p e below F (T55.setTop (mkF m 180 A56 []))
                  refine own_step (fun _ k => XS.aload X55.here hx rfl (hb hby at_180) (by rw [hA56]; rfl) rfl k) ?_
                  show own_Ends p e below F (T55.setTop (mkF m 182 A56 [(.ref a54)]))
                  obtain ⟨cq57, kq57, qa57, qb57, qc57⟩ := isOf (s := (s.setVm T52.vm)) (T := T55) hZ rfl fq0_55
                  obtain ⟨_, _, ⟨T57, L57, k57, n57⟩, -, X57, ⟨Lc57, hQ57, l57, y57, z57⟩, st57⟩ := X55.virtualBack hx (y := (⟨"com/example/greater_than/greaterthan/page/Page", "hasNext", "()Z"⟩ : MethodName)) (z := (⟨"com/example/greater_than/greaterthan/page/Page", "hasNext", "()Z"⟩ : MethodName)) hown (mvT hZ (own_g hw 151 rfl)) (mvT hZ (own_g hw 152 rfl)) (notFace_of_selects (args := #[]) (mvT hZ (own_g hw 154 rfl))) (mvT hZ (own_g hw 154 rfl)) (mvT hZ (own_g hw 153 rfl)) (by decide) (backOf (W := 0) (rm21n l Z a0 hw [] a54 T55.heap n0 Z55 fq2_55) hZ (own_g hw 155 rfl) (own_g hw 60 rfl) (by decide) (by decide)) qa57 qc57 (g := (mkF m 182 A56 [(.ref a54)])) rfl (by rw [hml]; show A56.size = _; rw [hA56]; rfl) (Steps.refl _) (argsL := []) (rest := []) (lenOf pd__28_29Z rfl) rfl (by show 2 * 0 + _ ≤ _; exact Nat.le_of_eq rfl) (hb hby at_182) (fun _ _ => ⟨rfl, rfl, (by decide : 13 + 0 ≤ _), (by decide : 39 + 0 ≤ _)⟩)
                  dsimp only [Pt.U, Pt.locs, Pt.cells, Pt.slots] at X57 l57 y57 z57 st57 hQ57
                  subst l57 y57 z57
                  obtain ⟨rfl, Nq57, eq57⟩ := hQ57
                  have N57 := Fr.app N55 Nq57
                  refine own_trans st57 ?_
                  show own_Ends p e below F (T57.setTop (mkF m 185 A56 [(.int (0 : Int32))]))
                  refine own_step (fun _ k => XS.aload X57.here hx rfl (hb hby at_185) (by rw [hA56]; rfl) rfl k) ?_
                  show own_Ends p e below F (T57.setTop (mkF m 187 A56 [.null, (.int (0 : Int32))]))
                  refine own_step (fun _ k => XS.ifnullYes X57.here hx rfl (pc0 := 187) (pc' := 194) rfl (hb hby at_187) rfl (by decide) (by decide) k) ?_
                  show own_Ends p e below F (T57.setTop (mkF m 194 A56 [(.int (0 : Int32))]))
                  refine own_step (fun _ k => XS.iconst X57.here hx rfl (hb hby at_194) k) ?_
                  show own_Ends p e below F (T57.setTop (mkF m 195 A56 [(.int (0 : Int32)), (.int (0 : Int32))]))
                  refine own_step (fun _ k => XS.icmpNo X57.here hx rfl (hb hby at_195) rfl (teq (by decide : (0 : Int32) = (0 : Int32))).2 k) ?_
                  show own_Ends p e below F (T57.setTop (mkF m 198 A56 []))
                  refine own_step (fun _ k => XS.iconst X57.here hx rfl (hb hby at_198) k) ?_
                  show own_Ends p e below F (T57.setTop (mkF m 199 A56 [(.int (1 : Int32))]))
                  refine own_step (fun _ k => XS.goto X57.here hx rfl (pc0 := 199) (pc' := 203) rfl (hb hby at_199) (by decide) (by decide) k) ?_
                  show own_Ends p e below F (T57.setTop (mkF m 203 A56 [(.int (1 : Int32))]))
                  rw [hF]
                  exact own_retW X57 hS (by rw [eq57]; exact hk) (v := (some (.int (nar .boolean (1 : Int32))))) (fun h => by rw [Bd.returns] at h; cases h) Bd.notSynchronized (fun fs hr => retN X57 hx (t := .boolean) Bd.returns (by simp) (hb hby at_203) hr) (by decide) (by decide) (by rw [eq57]; exact ⟨rfl, N57⟩)
                · show own_Ends p e below F (T50.setTop (mkF m 151 A31 [(.ref cu)]))
                  obtain ⟨A58, hA58⟩ : ∃ z : Array Slot, z = #[.val (.int p1), .val (.int p2), .val (.int p3), .val (.int p4), .val (.int p5), .val (.int p6), .val (.int z2), .val (.int z7), .val (.int z12), .val (.int z17), .val (.int (1 : Int32)), .val (.int z24), .val (.ref a29), .val (.ref cu), .unset, .unset] := ⟨_, rfl⟩
                  refine own_step (fun _ k => XS.astore X50.here hx rfl (hb hby at_151) rfl rfl (l' := A58) (by rw [hA31, hA58]; exact rfl) k) ?_
                  show own_Ends p e below F (T50.setTop (mkF m 153 A58 []))
                  refine own_step (fun _ k => XS.iload X50.here hx rfl (hb hby at_153) (by rw [hA58]; rfl) k) ?_
                  show own_Ends p e below F (T50.setTop (mkF m 155 A58 [(.int z7)]))
                  refine own_step (fun _ k => XS.iload X50.here hx rfl (hb hby at_155) (by rw [hA58]; rfl) k) ?_
                  show own_Ends p e below F (T50.setTop (mkF m 157 A58 [(.int z17), (.int z7)]))
                  refine own_step (fun _ k => XS.iloadN X50.here hx rfl (hb hby at_157) (by rw [hA58]; rfl) k) ?_
                  show own_Ends p e below F (T50.setTop (mkF m 158 A58 [(.int p4), (.int z17), (.int z7)]))
                  refine own_step (fun _ k => XS.iload X50.here hx rfl (hb hby at_158) (by rw [hA58]; rfl) k) ?_
                  show own_Ends p e below F (T50.setTop (mkF m 160 A58 [(.int p5), (.int p4), (.int z17), (.int z7)]))
                  obtain ⟨_, _, ⟨T59, L59, k59, n59⟩, -, X59, hS59, gr59, ⟨Lc59, hQ59, l59, y59, z59⟩, st59⟩ := callSS X50 hx (y := (⟨"com/example/greater_than/greaterthan/page/PageHasNextPinLaw", "cursor", "(ZZII)Ljava/lang/String;"⟩ : MethodName)) hown (mvT hZ (own_g hw 26 rfl)) (mvT hZ (own_g hw 27 rfl)) (mvT hZ (own_g hw 28 rfl)) (mvT hZ (own_g hw 29 rfl)) (by decide) (backOfS (W := 0) (rm5 l Z a0 hw [] z7 z17 p4 p5 zc T50.heap n0 Z50 S0_50 hz) hZ (own_g hw 29 rfl) (own_g hw 28 rfl) (by decide) (by decide)) (g := (mkF m 160 A58 [(.int p5), (.int p4), (.int z17), (.int z7)])) rfl (by rw [hml]; show A58.size = _; rw [hA58]; rfl) (argsL := [(.int z7), (.int z17), (.int p4), (.int p5)]) (rest := []) (lenOf pd__28ZZII_29Ljava_2flang_2fString_3b rfl) rfl (by show 2 * 0 + _ ≤ _; exact Nat.le_of_eq rfl) (hb hby at_160) (fun _ _ => ⟨rfl, rfl, (by decide : 6 + 3 ≤ _), (by decide : 22 + 8 ≤ _)⟩)
                  dsimp only [Pt.U, Pt.locs, Pt.cells, Pt.slots] at X59 l59 y59 z59 st59 hQ59 hS59 gr59
                  subst l59 y59 z59
                  obtain ⟨u59, rfl, Nq59, Kq59, fq0_59⟩ := hQ59
                  have N59 := Fr.app N50 Nq59
                  have Z59 : n0 ≤ T59.heap.size := Nat.le_trans Z50 Kq59.1
                  have SZ59 : h0.size ≤ T59.heap.size := Nat.le_trans SZ50 Kq59.1
                  have S0_59 := own_Sta_keep S0_50 Kq59 all0
                  have S1_59 := own_Sta_keep S1_50 Kq59 all0
                  have S2_59 := own_Sta_keep S2_50 Kq59 all0
                  have S3_59 := own_Sta_keep S3_50 Kq59 all0
                  have S4_59 := own_Sta_keep S4_50 Kq59 all0
                  have hZ := own_warm hZ hS59
                  have hown := own_find hown hS59
                  have hS := foldS hS (by exact hk) hS59 gr59
                  have hk := Nat.le_refl T59.heap.size
                  refine own_trans st59 ?_
                  show own_Ends p e below F (T59.setTop (mkF m 163 A58 [u59]))
                  obtain ⟨A60, hA60⟩ : ∃ z : Array Slot, z = #[.val (.int p1), .val (.int p2), .val (.int p3), .val (.int p4), .val (.int p5), .val (.int p6), .val (.int z2), .val (.int z7), .val (.int z12), .val (.int z17), .val (.int (1 : Int32)), .val (.int z24), .val (.ref a29), .val (.ref cu), .val u59, .unset] := ⟨_, rfl⟩
                  refine own_step (fun _ k => XS.astore X59.here hx rfl (hb hby at_163) rfl fq0_59 (l' := A60) (by rw [hA58, hA60]; exact (XS.store1 (o := .unset) rfl (Or.inl rfl) (own_catR fq0_59))) k) ?_
                  show own_Ends p e below F (T59.setTop (mkF m 165 A60 []))
                  obtain ⟨T61, h61, X61, e61, E61, A61, D61, -, st61⟩ := newO X59 hx hZ hown (own_g hw 58 rfl) (own_g hw 59 rfl) (own_g hw 60 rfl) rfl (g := (mkF m 165 A60 [])) rfl (hb hby at_165) (by decide) (by decide)
                  obtain ⟨a61, g61⟩ : ∃ z, z = T59.heap.size := ⟨_, rfl⟩
                  rw [← g61] at A61 D61 st61
                  have ge_a61 : n0 ≤ a61 := Nat.le_trans Z59 (Nat.le_of_eq g61.symm)
                  have sz_a61 : h0.size ≤ a61 := Nat.le_trans SZ59 (Nat.le_of_eq g61.symm)
                  have ne_dd_a61 : dd ≠ a61 := Nat.ne_of_lt (by rw [g61]; exact ((((((VD.ext E29).keep Kq30 (ninS ne_dd_a29 nin0)).keep Kq48 nin0).keep Kq49 (ninS ne_dd_a29 nin0)).keep Kq50 nin0).keep Kq59 nin0).lt)
                  have ne_cc_a61 : cc ≠ a61 := Nat.ne_of_lt (by rw [g61]; exact ((((((BC.ext E29).keep Kq30 (ninS ne_cc_a29 nin0)).keep Kq48 nin0).keep Kq49 (ninS ne_cc_a29 nin0)).keep Kq50 nin0).keep Kq59 nin0).lt)
                  have ne_a29_a61 : a29 ≠ a61 := Nat.ne_of_lt (by rw [g61]; exact ((fq2_49.keep Kq50 nin0).keep Kq59 nin0).lt)
                  have ne_c48_a61 : c48 ≠ a61 := Nat.ne_of_lt (by rw [g61]; exact (((fq0_48.keep Kq49).keep Kq50).keep Kq59).lt)
                  have ne_c49_a61 : c49 ≠ a61 := Nat.ne_of_lt (by rw [g61]; exact ((fq5_49.keep Kq50 nin0).keep Kq59 nin0).lt)
                  have Z61 : n0 ≤ h61.size := Nat.le_trans Z59 E61.1
                  have SZ61 : h0.size ≤ h61.size := Nat.le_trans SZ59 E61.1
                  have hk := Nat.le_trans hk E61.1
                  have F61_rows : Fld Z h61 a61 "com/example/greater_than/greaterthan/page/Page" "rows" "Ljava/util/List;" .null := D61 (Or.inr (own_g hw 146 rfl)) (ty := (.object "java/util/List")) (by decide)
                  have F61_previousCursor : Fld Z h61 a61 "com/example/greater_than/greaterthan/page/Page" "previousCursor" "Ljava/lang/String;" .null := D61 (Or.inr (own_g hw 148 rfl)) (ty := (.object "java/lang/String")) (by decide)
                  have F61_nextCursor : Fld Z h61 a61 "com/example/greater_than/greaterthan/page/Page" "nextCursor" "Ljava/lang/String;" .null := D61 (Or.inr (own_g hw 150 rfl)) (ty := (.object "java/lang/String")) (by decide)
                  refine own_step st61 ?_
                  show own_Ends p e below F (T61.setTop (mkF m 168 A60 [(.ref a61)]))
                  refine own_step (fun _ k => XS.dup X61.here hx rfl (hb hby at_168) rfl rfl k) ?_
                  show own_Ends p e below F (T61.setTop (mkF m 169 A60 [(.ref a61), (.ref a61)]))
                  refine own_step (fun _ k => XS.aload X61.here hx rfl (hb hby at_169) (by rw [hA60]; rfl) rfl k) ?_
                  show own_Ends p e below F (T61.setTop (mkF m 171 A60 [(.ref a29), (.ref a61), (.ref a61)]))
                  refine own_step (fun _ k => XS.aload X61.here hx rfl (hb hby at_171) (by rw [hA60]; rfl) fq0_59 k) ?_
                  show own_Ends p e below F (T61.setTop (mkF m 173 A60 [u59, (.ref a29), (.ref a61), (.ref a61)]))
                  refine own_step (fun _ k => XS.aload X61.here hx rfl (hb hby at_173) (by rw [hA60]; rfl) rfl k) ?_
                  show own_Ends p e below F (T61.setTop (mkF m 175 A60 [(.ref cu), u59, (.ref a29), (.ref a61), (.ref a61)]))
                  obtain ⟨_, _, ⟨T62, L62, k62, n62⟩, -, X62, ⟨Lc62, hQ62, l62, y62, z62⟩, st62⟩ := X61.specialBack hx (y := (⟨"com/example/greater_than/greaterthan/page/Page", "<init>", "(Ljava/util/List;Ljava/lang/String;Ljava/lang/String;)V"⟩ : MethodName)) rfl hown (mvT hZ (own_g hw 61 rfl)) (mvT hZ (own_g hw 62 rfl)) (mvT hZ (own_g hw 63 rfl)) (by decide) (backOf (W := 1) (rm11_1 l Z a0 hw [] a61 a29 c49 kc49 (.ref c48) u59 (.ref cu) ee ma mu mv mo h61 n0 Z61 A61 ge_a61 F61_rows F61_previousCursor F61_nextCursor (((fq5_49.keep Kq50 nin0).keep Kq59 nin0).ext E61) (((fq7_49.keep Kq50).keep Kq59).ext E61) (Or.inr ⟨_, _, _, rfl, ((((fq0_48.keep Kq49).keep Kq50).keep Kq59).ext E61), (own_g hw 210 rfl)⟩) (((fq1_49.keep Kq50).keep Kq59).ext E61) (((fq3_49.keep Kq50 nin0).keep Kq59 nin0).ext E61) (((fq4_49.keep Kq50 nin0).keep Kq59 nin0).ext E61) (Sta.ext E61 S2_59) M_ma M_mu M_mv M_mo fq0_59 rfl) hZ (own_g hw 63 rfl) (own_g hw 60 rfl) (by decide) (by decide)) (g := (mkF m 175 A60 [(.ref cu), u59, (.ref a29), (.ref a61), (.ref a61)])) rfl (by rw [hml]; show A60.size = _; rw [hA60]; rfl) (Steps.refl _) (a := a61) (argsL := [(.ref a29), u59, (.ref cu)]) (rest := [(.ref a61)]) (lenOf pd__28Ljava_2futil_2fList_3bLjava_2flang_2fString_3bLjava_2flang_2fString_3b_29V rfl) rfl (by show 2 * 0 + _ ≤ _; exact Nat.le_of_eq rfl) (hb hby at_175) (fun _ _ => ⟨rfl, e61, (by decide : 10 + 3 ≤ _), (by decide : 33 + 6 ≤ _)⟩)
                  dsimp only [Pt.U, Pt.locs, Pt.cells, Pt.slots] at X62 l62 y62 z62 st62 hQ62
                  subst l62 y62 z62
                  obtain ⟨rfl, Nq62, Kq62, fq0_62, fq1_62, fq2_62⟩ := hQ62
                  have N62 := Fr.app N59 Nq62
                  have Z62 : n0 ≤ T62.heap.size := Nat.le_trans Z61 Kq62.1
                  have SZ62 : h0.size ≤ T62.heap.size := Nat.le_trans SZ61 Kq62.1
                  have S0_62 := own_Sta_keep (Sta.ext E61 S0_59) Kq62 (allS (own_ns_exa A61) all0)
                  have S1_62 := own_Sta_keep (Sta.ext E61 S1_59) Kq62 (allS (own_ns_exa A61) all0)
                  have S2_62 := own_Sta_keep (Sta.ext E61 S2_59) Kq62 (allS (own_ns_exa A61) all0)
                  have S3_62 := own_Sta_keep (Sta.ext E61 S3_59) Kq62 (allS (own_ns_exa A61) all0)
                  have S4_62 := own_Sta_keep (Sta.ext E61 S4_59) Kq62 (allS (own_ns_exa A61) all0)
                  have hk := Nat.le_trans hk Kq62.1
                  refine own_trans st62 ?_
                  show own_Ends p e below F (T62.setTop (mkF m 178 A60 [(.ref a61)]))
                  obtain ⟨A63, hA63⟩ : ∃ z : Array Slot, z = #[.val (.int p1), .val (.int p2), .val (.int p3), .val (.int p4), .val (.int p5), .val (.int p6), .val (.int z2), .val (.int z7), .val (.int z12), .val (.int z17), .val (.int (1 : Int32)), .val (.int z24), .val (.ref a29), .val (.ref cu), .val u59, .val (.ref a61)] := ⟨_, rfl⟩
                  refine own_step (fun _ k => XS.astore X62.here hx rfl (hb hby at_178) rfl rfl (l' := A63) (by rw [hA60, hA63]; exact rfl) k) ?_
                  show own_Ends p e below F (T62.setTop (mkF m 180 A63 []))
                  refine own_step (fun _ k => XS.aload X62.here hx rfl (hb hby at_180) (by rw [hA63]; rfl) rfl k) ?_
                  show own_Ends p e below F (T62.setTop (mkF m 182 A63 [(.ref a61)]))
                  obtain ⟨cq64, kq64, qa64, qb64, qc64⟩ := isOf (s := (s.setVm T59.vm)) (T := T62) hZ rfl fq0_62
                  obtain ⟨_, _, ⟨T64, L64, k64, n64⟩, -, X64, ⟨Lc64, hQ64, l64, y64, z64⟩, st64⟩ := X62.virtualBack hx (y := (⟨"com/example/greater_than/greaterthan/page/Page", "hasNext", "()Z"⟩ : MethodName)) (z := (⟨"com/example/greater_than/greaterthan/page/Page", "hasNext", "()Z"⟩ : MethodName)) hown (mvT hZ (own_g hw 151 rfl)) (mvT hZ (own_g hw 152 rfl)) (notFace_of_selects (args := #[]) (mvT hZ (own_g hw 154 rfl))) (mvT hZ (own_g hw 154 rfl)) (mvT hZ (own_g hw 153 rfl)) (by decide) (backOf (W := 0) (rm21r l Z a0 hw [] a61 cu T62.heap n0 Z62 fq2_62) hZ (own_g hw 155 rfl) (own_g hw 60 rfl) (by decide) (by decide)) qa64 qc64 (g := (mkF m 182 A63 [(.ref a61)])) rfl (by rw [hml]; show A63.size = _; rw [hA63]; rfl) (Steps.refl _) (argsL := []) (rest := []) (lenOf pd__28_29Z rfl) rfl (by show 2 * 0 + _ ≤ _; exact Nat.le_of_eq rfl) (hb hby at_182) (fun _ _ => ⟨rfl, rfl, (by decide : 13 + 0 ≤ _), (by decide : 39 + 0 ≤ _)⟩)
                  dsimp only [Pt.U, Pt.locs, Pt.cells, Pt.slots] at X64 l64 y64 z64 st64 hQ64
                  subst l64 y64 z64
                  obtain ⟨rfl, Nq64, eq64⟩ := hQ64
                  have N64 := Fr.app N62 Nq64
                  refine own_trans st64 ?_
                  show own_Ends p e below F (T64.setTop (mkF m 185 A63 [(.int (1 : Int32))]))
                  refine own_step (fun _ k => XS.aload X64.here hx rfl (hb hby at_185) (by rw [hA63]; rfl) rfl k) ?_
                  show own_Ends p e below F (T64.setTop (mkF m 187 A63 [(.ref cu), (.int (1 : Int32))]))
                  refine own_step (fun _ k => XS.ifnullNo X64.here hx rfl (hb hby at_187) rfl k) ?_
                  show own_Ends p e below F (T64.setTop (mkF m 190 A63 [(.int (1 : Int32))]))
                  refine own_step (fun _ k => XS.iconst X64.here hx rfl (hb hby at_190) k) ?_
                  show own_Ends p e below F (T64.setTop (mkF m 191 A63 [(.int (1 : Int32)), (.int (1 : Int32))]))
                  refine own_step (fun _ k => XS.goto X64.here hx rfl (pc0 := 191) (pc' := 195) rfl (hb hby at_191) (by decide) (by decide) k) ?_
                  show own_Ends p e below F (T64.setTop (mkF m 195 A63 [(.int (1 : Int32)), (.int (1 : Int32))]))
                  refine own_step (fun _ k => XS.icmpNo X64.here hx rfl (hb hby at_195) rfl (teq (by decide : (1 : Int32) = (1 : Int32))).2 k) ?_
                  show own_Ends p e below F (T64.setTop (mkF m 198 A63 []))
                  refine own_step (fun _ k => XS.iconst X64.here hx rfl (hb hby at_198) k) ?_
                  show own_Ends p e below F (T64.setTop (mkF m 199 A63 [(.int (1 : Int32))]))
                  refine own_step (fun _ k => XS.goto X64.here hx rfl (pc0 := 199) (pc' := 203) rfl (hb hby at_199) (by decide) (by decide) k) ?_
                  show own_Ends p e below F (T64.setTop (mkF m 203 A63 [(.int (1 : Int32))]))
                  rw [hF]
                  exact own_retW X64 hS (by rw [eq64]; exact hk) (v := (some (.int (nar .boolean (1 : Int32))))) (fun h => by rw [Bd.returns] at h; cases h) Bd.notSynchronized (fun fs hr => retN X64 hx (t := .boolean) Bd.returns (by simp) (hb hby at_203) hr) (by decide) (by decide) (by rw [eq64]; exact ⟨rfl, N64⟩)
              · refine own_step (fun _ k => XS.ifNo X30.here hx rfl (hb hby at_93) rfl ((if0 _ _).trans (feq c93_47).1) k) ?_
                show own_Ends p e below F (T30.setTop (mkF m 96 A31 [(.ref a29)]))
                refine own_step (fun _ k => XS.aconstNull X30.here hx rfl (hb hby at_96) k) ?_
                show own_Ends p e below F (T30.setTop (mkF m 97 A31 [.null, (.ref a29)]))
                refine own_step (fun _ k => XS.goto X30.here hx rfl (pc0 := 97) (pc' := 105) rfl (hb hby at_97) (by decide) (by decide) k) ?_
                show own_Ends p e below F (T30.setTop (mkF m 105 A31 [.null, (.ref a29)]))
                obtain ⟨cq65, kq65, qa65, qb65, qc65⟩ := isOf (s := (s.setVm s.vm)) (T := T30) hZ rfl fq0_30
                obtain ⟨_, _, ⟨T65, L65, k65, n65⟩, -, X65, ⟨Lc65, hQ65, l65, y65, z65⟩, st65⟩ := X30.virtualBack hx (y := (⟨"java/util/ArrayList", "add", "(Ljava/lang/Object;)Z"⟩ : MethodName)) (z := (⟨"java/util/ArrayList", "add", "(Ljava/lang/Object;)Z"⟩ : MethodName)) hown (mvT hZ (own_g hw 159 rfl)) (mvT hZ (own_g hw 160 rfl)) (notFace_of_selects (args := #[]) (mvT hZ (own_g hw 162 rfl))) (mvT hZ (own_g hw 162 rfl)) (mvT hZ (own_g hw 161 rfl)) (by decide) (backOf (W := 0) (rm22_0 l Z a0 hw [] a29 dd kd .null T30.heap n0 Z30 fq0_30 ge_a29 fq1_30 fq2_30 fq3_30 (Or.inl rfl) S1_30 ((VD.ext E29).keep Kq30 (ninS ne_dd_a29 nin0))) hZ (own_g hw 163 rfl) (own_g hw 2 rfl) (by decide) (by decide)) qa65 qc65 (g := (mkF m 105 A31 [.null, (.ref a29)])) rfl (by rw [hml]; show A31.size = _; rw [hA31]; rfl) (Steps.refl _) (argsL := [.null]) (rest := []) (lenOf pd__28Ljava_2flang_2fObject_3b_29Z rfl) rfl (by show 2 * 0 + _ ≤ _; exact Nat.le_of_eq rfl) (hb hby at_105) (fun _ _ => ⟨rfl, rfl, (by decide : 1 + 1 ≤ _), (by decide : 3 + 10 ≤ _)⟩)
                dsimp only [Pt.U, Pt.locs, Pt.cells, Pt.slots] at X65 l65 y65 z65 st65 hQ65
                subst l65 y65 z65
                obtain ⟨c65, kc65, rfl, Nq65, Kq65, fq0_65, fq1_65, fq2_65, fq3_65, fq4_65, fq5_65, fq6_65, fq7_65⟩ := hQ65
                have N65 := Fr.app N30 Nq65
                have Z65 : n0 ≤ T65.heap.size := Nat.le_trans Z30 Kq65.1
                have SZ65 : h0.size ≤ T65.heap.size := Nat.le_trans SZ30 Kq65.1
                have S0_65 := own_Sta_keep S0_30 Kq65 (allS (own_ns_exa fq0_30) all0)
                have S1_65 := own_Sta_keep S1_30 Kq65 (allS (own_ns_exa fq0_30) all0)
                have S2_65 := own_Sta_keep S2_30 Kq65 (allS (own_ns_exa fq0_30) all0)
                have S3_65 := own_Sta_keep S3_30 Kq65 (allS (own_ns_exa fq0_30) all0)
                have S4_65 := own_Sta_keep S4_30 Kq65 (allS (own_ns_exa fq0_30) all0)
                have ne_dd_c65 : dd ≠ c65 := Nat.ne_of_lt (Nat.lt_of_lt_of_le (((VD.ext E29).keep Kq30 (ninS ne_dd_a29 nin0))).lt fq0_65)
                have ne_cc_c65 : cc ≠ c65 := Nat.ne_of_lt (Nat.lt_of_lt_of_le (((BC.ext E29).keep Kq30 (ninS ne_cc_a29 nin0))).lt fq0_65)
                have ne_a29_c65 : a29 ≠ c65 := Nat.ne_of_lt (Nat.lt_of_lt_of_le (fq1_30).lt fq0_65)
                have ge_c65 : n0 ≤ c65 := Nat.le_trans Z30 fq0_65
                have sz_c65 : h0.size ≤ c65 := Nat.le_trans SZ30 fq0_65
                have hk := Nat.le_trans hk Kq65.1
                refine own_trans st65 ?_
                show own_Ends p e below F (T65.setTop (mkF m 108 A31 [(.int (1 : Int32))]))
                refine own_step (fun _ k => XS.pop X65.here hx rfl (hb hby at_108) rfl rfl k) ?_
                show own_Ends p e below F (T65.setTop (mkF m 109 A31 []))
                refine own_step (fun _ k => XS.iload X65.here hx rfl (hb hby at_109) (by rw [hA31]; rfl) k) ?_
                show own_Ends p e below F (T65.setTop (mkF m 111 A31 [(.int (1 : Int32))]))
                refine own_step (fun _ k => XS.iconst X65.here hx rfl (hb hby at_111) k) ?_
                show own_Ends p e below F (T65.setTop (mkF m 112 A31 [(.int (2 : Int32)), (.int (1 : Int32))]))
                refine own_step (fun _ k => XS.icmpYes X65.here hx rfl (pc0 := 112) (pc' := 126) rfl (hb hby at_112) rfl (tlt (by decide : (1 : Int32) < (2 : Int32))).1 (by decide) (by decide) k) ?_
                show own_Ends p e below F (T65.setTop (mkF m 126 A31 []))
                refine own_step (fun _ k => XS.iload X65.here hx rfl (hb hby at_126) (by rw [hA31]; rfl) k) ?_
                show own_Ends p e below F (T65.setTop (mkF m 128 A31 [(.int (1 : Int32))]))
                refine own_step (fun _ k => XS.iconst X65.here hx rfl (hb hby at_128) k) ?_
                show own_Ends p e below F (T65.setTop (mkF m 129 A31 [(.int (3 : Int32)), (.int (1 : Int32))]))
                refine own_step (fun _ k => XS.icmpYes X65.here hx rfl (pc0 := 129) (pc' := 142) rfl (hb hby at_129) rfl (tlt (by decide : (1 : Int32) < (3 : Int32))).1 (by decide) (by decide) k) ?_
                show own_Ends p e below F (T65.setTop (mkF m 142 A31 []))
                refine own_step (fun _ k => XS.iload X65.here hx rfl (hb hby at_142) (by rw [hA31]; rfl) k) ?_
                show own_Ends p e below F (T65.setTop (mkF m 144 A31 [(.int z2)]))
                refine own_step (fun _ k => XS.iload X65.here hx rfl (hb hby at_144) (by rw [hA31]; rfl) k) ?_
                show own_Ends p e below F (T65.setTop (mkF m 146 A31 [(.int z12), (.int z2)]))
                refine own_step (fun _ k => XS.iloadN X65.here hx rfl (hb hby at_146) (by rw [hA31]; rfl) k) ?_
                show own_Ends p e below F (T65.setTop (mkF m 147 A31 [(.int p2), (.int z12), (.int z2)]))
                refine own_step (fun _ k => XS.iloadN X65.here hx rfl (hb hby at_147) (by rw [hA31]; rfl) k) ?_
                show own_Ends p e below F (T65.setTop (mkF m 148 A31 [(.int p3), (.int p2), (.int z12), (.int z2)]))
                obtain ⟨_, _, ⟨T66, L66, k66, n66⟩, -, X66, hS66, gr66, ⟨Lc66, hQ66, l66, y66, z66⟩, st66⟩ := callSS X65 hx (y := (⟨"com/example/greater_than/greaterthan/page/PageHasNextPinLaw", "cursor", "(ZZII)Ljava/lang/String;"⟩ : MethodName)) hown (mvT hZ (own_g hw 26 rfl)) (mvT hZ (own_g hw 27 rfl)) (mvT hZ (own_g hw 28 rfl)) (mvT hZ (own_g hw 29 rfl)) (by decide) (backOfS (W := 0) (rm5 l Z a0 hw [] z2 z12 p2 p3 zc T65.heap n0 Z65 S0_65 hz) hZ (own_g hw 29 rfl) (own_g hw 28 rfl) (by decide) (by decide)) (g := (mkF m 148 A31 [(.int p3), (.int p2), (.int z12), (.int z2)])) rfl (by rw [hml]; show A31.size = _; rw [hA31]; rfl) (argsL := [(.int z2), (.int z12), (.int p2), (.int p3)]) (rest := []) (lenOf pd__28ZZII_29Ljava_2flang_2fString_3b rfl) rfl (by show 2 * 0 + _ ≤ _; exact Nat.le_of_eq rfl) (hb hby at_148) (fun _ _ => ⟨rfl, rfl, (by decide : 2 + 3 ≤ _), (by decide : 13 + 8 ≤ _)⟩)
                dsimp only [Pt.U, Pt.locs, Pt.cells, Pt.slots] at X66 l66 y66 z66 st66 hQ66 hS66 gr66
                subst l66 y66 z66
                obtain ⟨u66, rfl, Nq66, Kq66, fq0_66⟩ := hQ66
                have N66 := Fr.app N65 Nq66
                have Z66 : n0 ≤ T66.heap.size := Nat.le_trans Z65 Kq66.1
                have SZ66 : h0.size ≤ T66.heap.size := Nat.le_trans SZ65 Kq66.1
                have S0_66 := own_Sta_keep S0_65 Kq66 all0
                have S1_66 := own_Sta_keep S1_65 Kq66 all0
                have S2_66 := own_Sta_keep S2_65 Kq66 all0
                have S3_66 := own_Sta_keep S3_65 Kq66 all0
                have S4_66 := own_Sta_keep S4_65 Kq66 all0
                have hZ := own_warm hZ hS66
                have hown := own_find hown hS66
                have hS := foldS hS (by exact hk) hS66 gr66
                have hk := Nat.le_refl T66.heap.size
                refine own_trans st66 ?_
                show own_Ends p e below F (T66.setTop (mkF m 151 A31 [u66]))
                rcases ref_cases fq0_66 with rfl | ⟨cu, rfl⟩
                · show own_Ends p e below F (T66.setTop (mkF m 151 A31 [.null]))
                  obtain ⟨A67, hA67⟩ : ∃ z : Array Slot, z = #[.val (.int p1), .val (.int p2), .val (.int p3), .val (.int p4), .val (.int p5), .val (.int p6), .val (.int z2), .val (.int z7), .val (.int z12), .val (.int z17), .val (.int (1 : Int32)), .val (.int z24), .val (.ref a29), .val .null, .unset, .unset] := ⟨_, rfl⟩
                  refine own_step (fun _ k => XS.astore X66.here hx rfl (hb hby at_151) rfl rfl (l' := A67) (by rw [hA31, hA67]; exact rfl) k) ?_
                  show own_Ends p e below F (T66.setTop (mkF m 153 A67 []))
                  refine own_step (fun _ k => XS.iload X66.here hx rfl (hb hby at_153) (by rw [hA67]; rfl) k) ?_
                  show own_Ends p e below F (T66.setTop (mkF m 155 A67 [(.int z7)]))
                  refine own_step (fun _ k => XS.iload X66.here hx rfl (hb hby at_155) (by rw [hA67]; rfl) k) ?_
                  show own_Ends p e below F (T66.setTop (mkF m 157 A67 [(.int z17), (.int z7)]))
                  refine own_step (fun _ k => XS.iloadN X66.here hx rfl (hb hby at_157) (by rw [hA67]; rfl) k) ?_
                  show own_Ends p e below F (T66.setTop (mkF m 158 A67 [(.int p4), (.int z17), (.int z7)]))
                  refine own_step (fun _ k => XS.iload X66.here hx rfl (hb hby at_158) (by rw [hA67]; rfl) k) ?_
                  show own_Ends p e below F (T66.setTop (mkF m 160 A67 [(.int p5), (.int p4), (.int z17), (.int z7)]))
                  obtain ⟨_, _, ⟨T68, L68, k68, n68⟩, -, X68, hS68, gr68, ⟨Lc68, hQ68, l68, y68, z68⟩, st68⟩ := callSS X66 hx (y := (⟨"com/example/greater_than/greaterthan/page/PageHasNextPinLaw", "cursor", "(ZZII)Ljava/lang/String;"⟩ : MethodName)) hown (mvT hZ (own_g hw 26 rfl)) (mvT hZ (own_g hw 27 rfl)) (mvT hZ (own_g hw 28 rfl)) (mvT hZ (own_g hw 29 rfl)) (by decide) (backOfS (W := 0) (rm5 l Z a0 hw [] z7 z17 p4 p5 zc T66.heap n0 Z66 S0_66 hz) hZ (own_g hw 29 rfl) (own_g hw 28 rfl) (by decide) (by decide)) (g := (mkF m 160 A67 [(.int p5), (.int p4), (.int z17), (.int z7)])) rfl (by rw [hml]; show A67.size = _; rw [hA67]; rfl) (argsL := [(.int z7), (.int z17), (.int p4), (.int p5)]) (rest := []) (lenOf pd__28ZZII_29Ljava_2flang_2fString_3b rfl) rfl (by show 2 * 0 + _ ≤ _; exact Nat.le_of_eq rfl) (hb hby at_160) (fun _ _ => ⟨rfl, rfl, (by decide : 5 + 3 ≤ _), (by decide : 21 + 8 ≤ _)⟩)
                  dsimp only [Pt.U, Pt.locs, Pt.cells, Pt.slots] at X68 l68 y68 z68 st68 hQ68 hS68 gr68
                  subst l68 y68 z68
                  obtain ⟨u68, rfl, Nq68, Kq68, fq0_68⟩ := hQ68
                  have N68 := Fr.app N66 Nq68
                  have Z68 : n0 ≤ T68.heap.size := Nat.le_trans Z66 Kq68.1
                  have SZ68 : h0.size ≤ T68.heap.size := Nat.le_trans SZ66 Kq68.1
                  have S0_68 := own_Sta_keep S0_66 Kq68 all0
                  have S1_68 := own_Sta_keep S1_66 Kq68 all0
                  have S2_68 := own_Sta_keep S2_66 Kq68 all0
                  have S3_68 := own_Sta_keep S3_66 Kq68 all0
                  have S4_68 := own_Sta_keep S4_66 Kq68 all0
                  have hZ := own_warm hZ hS68
                  have hown := own_find hown hS68
                  have hS := foldS hS (by exact hk) hS68 gr68
                  have hk := Nat.le_refl T68.heap.size
                  refine own_trans st68 ?_
                  show own_Ends p e below F (T68.setTop (mkF m 163 A67 [u68]))
                  obtain ⟨A69, hA69⟩ : ∃ z : Array Slot, z = #[.val (.int p1), .val (.int p2), .val (.int p3), .val (.int p4), .val (.int p5), .val (.int p6), .val (.int z2), .val (.int z7), .val (.int z12), .val (.int z17), .val (.int (1 : Int32)), .val (.int z24), .val (.ref a29), .val .null, .val u68, .unset] := ⟨_, rfl⟩
                  refine own_step (fun _ k => XS.astore X68.here hx rfl (hb hby at_163) rfl fq0_68 (l' := A69) (by rw [hA67, hA69]; exact (XS.store1 (o := .unset) rfl (Or.inl rfl) (own_catR fq0_68))) k) ?_
                  show own_Ends p e below F (T68.setTop (mkF m 165 A69 []))
                  obtain ⟨T70, h70, X70, e70, E70, A70, D70, -, st70⟩ := newO X68 hx hZ hown (own_g hw 58 rfl) (own_g hw 59 rfl) (own_g hw 60 rfl) rfl (g := (mkF m 165 A69 [])) rfl (hb hby at_165) (by decide) (by decide)
                  obtain ⟨a70, g70⟩ : ∃ z, z = T68.heap.size := ⟨_, rfl⟩
                  rw [← g70] at A70 D70 st70
                  have ge_a70 : n0 ≤ a70 := Nat.le_trans Z68 (Nat.le_of_eq g70.symm)
                  have sz_a70 : h0.size ≤ a70 := Nat.le_trans SZ68 (Nat.le_of_eq g70.symm)
                  have ne_dd_a70 : dd ≠ a70 := Nat.ne_of_lt (by rw [g70]; exact (((((VD.ext E29).keep Kq30 (ninS ne_dd_a29 nin0)).keep Kq65 (ninS ne_dd_a29 nin0)).keep Kq66 nin0).keep Kq68 nin0).lt)
                  have ne_cc_a70 : cc ≠ a70 := Nat.ne_of_lt (by rw [g70]; exact (((((BC.ext E29).keep Kq30 (ninS ne_cc_a29 nin0)).keep Kq65 (ninS ne_cc_a29 nin0)).keep Kq66 nin0).keep Kq68 nin0).lt)
                  have ne_a29_a70 : a29 ≠ a70 := Nat.ne_of_lt (by rw [g70]; exact ((fq2_65.keep Kq66 nin0).keep Kq68 nin0).lt)
                  have ne_c65_a70 : c65 ≠ a70 := Nat.ne_of_lt (by rw [g70]; exact ((fq5_65.keep Kq66 nin0).keep Kq68 nin0).lt)
                  have Z70 : n0 ≤ h70.size := Nat.le_trans Z68 E70.1
                  have SZ70 : h0.size ≤ h70.size := Nat.le_trans SZ68 E70.1
                  have hk := Nat.le_trans hk E70.1
                  have F70_rows : Fld Z h70 a70 "com/example/greater_than/greaterthan/page/Page" "rows" "Ljava/util/List;" .null := D70 (Or.inr (own_g hw 146 rfl)) (ty := (.object "java/util/List")) (by decide)
                  have F70_previousCursor : Fld Z h70 a70 "com/example/greater_than/greaterthan/page/Page" "previousCursor" "Ljava/lang/String;" .null := D70 (Or.inr (own_g hw 148 rfl)) (ty := (.object "java/lang/String")) (by decide)
                  have F70_nextCursor : Fld Z h70 a70 "com/example/greater_than/greaterthan/page/Page" "nextCursor" "Ljava/lang/String;" .null := D70 (Or.inr (own_g hw 150 rfl)) (ty := (.object "java/lang/String")) (by decide)
                  refine own_step st70 ?_
                  show own_Ends p e below F (T70.setTop (mkF m 168 A69 [(.ref a70)]))
                  refine own_step (fun _ k => XS.dup X70.here hx rfl (hb hby at_168) rfl rfl k) ?_
                  show own_Ends p e below F (T70.setTop (mkF m 169 A69 [(.ref a70), (.ref a70)]))
                  refine own_step (fun _ k => XS.aload X70.here hx rfl (hb hby at_169) (by rw [hA69]; rfl) rfl k) ?_
                  show own_Ends p e below F (T70.setTop (mkF m 171 A69 [(.ref a29), (.ref a70), (.ref a70)]))
                  refine own_step (fun _ k => XS.aload X70.here hx rfl (hb hby at_171) (by rw [hA69]; rfl) fq0_68 k) ?_
                  show own_Ends p e below F (T70.setTop (mkF m 173 A69 [u68, (.ref a29), (.ref a70), (.ref a70)]))
                  refine own_step (fun _ k => XS.aload X70.here hx rfl (hb hby at_173) (by rw [hA69]; rfl) rfl k) ?_
                  show own_Ends p e below F (T70.setTop (mkF m 175 A69 [.null, u68, (.ref a29), (.ref a70), (.ref a70)]))
                  obtain ⟨_, _, ⟨T71, L71, k71, n71⟩, -, X71, ⟨Lc71, hQ71, l71, y71, z71⟩, st71⟩ := X70.specialBack hx (y := (⟨"com/example/greater_than/greaterthan/page/Page", "<init>", "(Ljava/util/List;Ljava/lang/String;Ljava/lang/String;)V"⟩ : MethodName)) rfl hown (mvT hZ (own_g hw 61 rfl)) (mvT hZ (own_g hw 62 rfl)) (mvT hZ (own_g hw 63 rfl)) (by decide) (backOf (W := 1) (rm11_1 l Z a0 hw [] a70 a29 c65 kc65 .null u68 .null ee ma mu mv mo h70 n0 Z70 A70 ge_a70 F70_rows F70_previousCursor F70_nextCursor (((fq5_65.keep Kq66 nin0).keep Kq68 nin0).ext E70) (((fq7_65.keep Kq66).keep Kq68).ext E70) (Or.inl rfl) (((fq1_65.keep Kq66).keep Kq68).ext E70) (((fq3_65.keep Kq66 nin0).keep Kq68 nin0).ext E70) (((fq4_65.keep Kq66 nin0).keep Kq68 nin0).ext E70) (Sta.ext E70 S2_68) M_ma M_mu M_mv M_mo fq0_68 rfl) hZ (own_g hw 63 rfl) (own_g hw 60 rfl) (by decide) (by decide)) (g := (mkF m 175 A69 [.null, u68, (.ref a29), (.ref a70), (.ref a70)])) rfl (by rw [hml]; show A69.size = _; rw [hA69]; rfl) (Steps.refl _) (a := a70) (argsL := [(.ref a29), u68, .null]) (rest := [(.ref a70)]) (lenOf pd__28Ljava_2futil_2fList_3bLjava_2flang_2fString_3bLjava_2flang_2fString_3b_29V rfl) rfl (by show 2 * 0 + _ ≤ _; exact Nat.le_of_eq rfl) (hb hby at_175) (fun _ _ => ⟨rfl, e70, (by decide : 9 + 3 ≤ _), (by decide : 32 + 6 ≤ _)⟩)
                  dsimp only [Pt.U, Pt.locs, Pt.cells, Pt.slots] at X71 l71 y71 z71 st71 hQ71
                  subst l71 y71 z71
                  obtain ⟨rfl, Nq71, Kq71, fq0_71, fq1_71, fq2_71⟩ := hQ71
                  have N71 := Fr.app N68 Nq71
                  have Z71 : n0 ≤ T71.heap.size := Nat.le_trans Z70 Kq71.1
                  have SZ71 : h0.size ≤ T71.heap.size := Nat.le_trans SZ70 Kq71.1
                  have S0_71 := own_Sta_keep (Sta.ext E70 S0_68) Kq71 (allS (own_ns_exa A70) all0)
                  have S1_71 := own_Sta_keep (Sta.ext E70 S1_68) Kq71 (allS (own_ns_exa A70) all0)
                  have S2_71 := own_Sta_keep (Sta.ext E70 S2_68) Kq71 (allS (own_ns_exa A70) all0)
                  have S3_71 := own_Sta_keep (Sta.ext E70 S3_68) Kq71 (allS (own_ns_exa A70) all0)
                  have S4_71 := own_Sta_keep (Sta.ext E70 S4_68) Kq71 (allS (own_ns_exa A70) all0)
                  have hk := Nat.le_trans hk Kq71.1
                  refine own_trans st71 ?_
                  show own_Ends p e below F (T71.setTop (mkF m 178 A69 [(.ref a70)]))
                  obtain ⟨A72, hA72⟩ : ∃ z : Array Slot, z = #[.val (.int p1), .val (.int p2), .val (.int p3), .val (.int p4), .val (.int p5), .val (.int p6), .val (.int z2), .val (.int z7), .val (.int z12), .val (.int z17), .val (.int (1 : Int32)), .val (.int z24), .val (.ref a29), .val .null, .val u68, .val (.ref a70)] := ⟨_, rfl⟩
                  refine own_step (fun _ k => XS.astore X71.here hx rfl (hb hby at_178) rfl rfl (l' := A72) (by rw [hA69, hA72]; exact rfl) k) ?_
                  show own_Ends p e below F (T71.setTop (mkF m 180 A72 []))
                  refine own_step (fun _ k => XS.aload X71.here hx rfl (hb hby at_180) (by rw [hA72]; rfl) rfl k) ?_
                  show own_Ends p e below F (T71.setTop (mkF m 182 A72 [(.ref a70)]))
                  obtain ⟨cq73, kq73, qa73, qb73, qc73⟩ := isOf (s := (s.setVm T68.vm)) (T := T71) hZ rfl fq0_71
                  obtain ⟨_, _, ⟨T73, L73, k73, n73⟩, -, X73, ⟨Lc73, hQ73, l73, y73, z73⟩, st73⟩ := X71.virtualBack hx (y := (⟨"com/example/greater_than/greaterthan/page/Page", "hasNext", "()Z"⟩ : MethodName)) (z := (⟨"com/example/greater_than/greaterthan/page/Page", "hasNext", "()Z"⟩ : MethodName)) hown (mvT hZ (own_g hw 151 rfl)) (mvT hZ (own_g hw 152 rfl)) (notFace_of_selects (args := #[]) (mvT hZ (own_g hw 154 rfl))) (mvT hZ (own_g hw 154 rfl)) (mvT hZ (own_g hw 153 rfl)) (by decide) (backOf (W := 0) (rm21n l Z a0 hw [] a70 T71.heap n0 Z71 fq2_71) hZ (own_g hw 155 rfl) (own_g hw 60 rfl) (by decide) (by decide)) qa73 qc73 (g := (mkF m 182 A72 [(.ref a70)])) rfl (by rw [hml]; show A72.size = _; rw [hA72]; rfl) (Steps.refl _) (argsL := []) (rest := []) (lenOf pd__28_29Z rfl) rfl (by show 2 * 0 + _ ≤ _; exact Nat.le_of_eq rfl) (hb hby at_182) (fun _ _ => ⟨rfl, rfl, (by decide : 12 + 0 ≤ _), (by decide : 38 + 0 ≤ _)⟩)
                  dsimp only [Pt.U, Pt.locs, Pt.cells, Pt.slots] at X73 l73 y73 z73 st73 hQ73
                  subst l73 y73 z73
                  obtain ⟨rfl, Nq73, eq73⟩ := hQ73
                  have N73 := Fr.app N71 Nq73
                  refine own_trans st73 ?_
                  show own_Ends p e below F (T73.setTop (mkF m 185 A72 [(.int (0 : Int32))]))
                  refine own_step (fun _ k => XS.aload X73.here hx rfl (hb hby at_185) (by rw [hA72]; rfl) rfl k) ?_
                  show own_Ends p e below F (T73.setTop (mkF m 187 A72 [.null, (.int (0 : Int32))]))
                  refine own_step (fun _ k => XS.ifnullYes X73.here hx rfl (pc0 := 187) (pc' := 194) rfl (hb hby at_187) rfl (by decide) (by decide) k) ?_
                  show own_Ends p e below F (T73.setTop (mkF m 194 A72 [(.int (0 : Int32))]))
                  refine own_step (fun _ k => XS.iconst X73.here hx rfl (hb hby at_194) k) ?_
                  show own_Ends p e below F (T73.setTop (mkF m 195 A72 [(.int (0 : Int32)), (.int (0 : Int32))]))
                  refine own_step (fun _ k => XS.icmpNo X73.here hx rfl (hb hby at_195) rfl (teq (by decide : (0 : Int32) = (0 : Int32))).2 k) ?_
                  show own_Ends p e below F (T73.setTop (mkF m 198 A72 []))
                  refine own_step (fun _ k => XS.iconst X73.here hx rfl (hb hby at_198) k) ?_
                  show own_Ends p e below F (T73.setTop (mkF m 199 A72 [(.int (1 : Int32))]))
                  refine own_step (fun _ k => XS.goto X73.here hx rfl (pc0 := 199) (pc' := 203) rfl (hb hby at_199) (by decide) (by decide) k) ?_
                  show own_Ends p e below F (T73.setTop (mkF m 203 A72 [(.int (1 : Int32))]))
                  rw [hF]
                  exact own_retW X73 hS (by rw [eq73]; exact hk) (v := (some (.int (nar .boolean (1 : Int32))))) (fun h => by rw [Bd.returns] at h; cases h) Bd.notSynchronized (fun fs hr => retN X73 hx (t := .boolean) Bd.returns (by simp) (hb hby at_203) hr) (by decide) (by decide) (by rw [eq73]; exact ⟨rfl, N73⟩)
                · show own_Ends p e below F (T66.setTop (mkF m 151 A31 [(.ref cu)]))
                  obtain ⟨A74, hA74⟩ : ∃ z : Array Slot, z = #[.val (.int p1), .val (.int p2), .val (.int p3), .val (.int p4), .val (.int p5), .val (.int p6), .val (.int z2), .val (.int z7), .val (.int z12), .val (.int z17), .val (.int (1 : Int32)), .val (.int z24), .val (.ref a29), .val (.ref cu), .unset, .unset] := ⟨_, rfl⟩
                  refine own_step (fun _ k => XS.astore X66.here hx rfl (hb hby at_151) rfl rfl (l' := A74) (by rw [hA31, hA74]; exact rfl) k) ?_
                  show own_Ends p e below F (T66.setTop (mkF m 153 A74 []))
                  refine own_step (fun _ k => XS.iload X66.here hx rfl (hb hby at_153) (by rw [hA74]; rfl) k) ?_
                  show own_Ends p e below F (T66.setTop (mkF m 155 A74 [(.int z7)]))
                  refine own_step (fun _ k => XS.iload X66.here hx rfl (hb hby at_155) (by rw [hA74]; rfl) k) ?_
                  show own_Ends p e below F (T66.setTop (mkF m 157 A74 [(.int z17), (.int z7)]))
                  refine own_step (fun _ k => XS.iloadN X66.here hx rfl (hb hby at_157) (by rw [hA74]; rfl) k) ?_
                  show own_Ends p e below F (T66.setTop (mkF m 158 A74 [(.int p4), (.int z17), (.int z7)]))
                  refine own_step (fun _ k => XS.iload X66.here hx rfl (hb hby at_158) (by rw [hA74]; rfl) k) ?_
                  show own_Ends p e below F (T66.setTop (mkF m 160 A74 [(.int p5), (.int p4), (.int z17), (.int z7)]))
                  obtain ⟨_, _, ⟨T75, L75, k75, n75⟩, -, X75, hS75, gr75, ⟨Lc75, hQ75, l75, y75, z75⟩, st75⟩ := callSS X66 hx (y := (⟨"com/example/greater_than/greaterthan/page/PageHasNextPinLaw", "cursor", "(ZZII)Ljava/lang/String;"⟩ : MethodName)) hown (mvT hZ (own_g hw 26 rfl)) (mvT hZ (own_g hw 27 rfl)) (mvT hZ (own_g hw 28 rfl)) (mvT hZ (own_g hw 29 rfl)) (by decide) (backOfS (W := 0) (rm5 l Z a0 hw [] z7 z17 p4 p5 zc T66.heap n0 Z66 S0_66 hz) hZ (own_g hw 29 rfl) (own_g hw 28 rfl) (by decide) (by decide)) (g := (mkF m 160 A74 [(.int p5), (.int p4), (.int z17), (.int z7)])) rfl (by rw [hml]; show A74.size = _; rw [hA74]; rfl) (argsL := [(.int z7), (.int z17), (.int p4), (.int p5)]) (rest := []) (lenOf pd__28ZZII_29Ljava_2flang_2fString_3b rfl) rfl (by show 2 * 0 + _ ≤ _; exact Nat.le_of_eq rfl) (hb hby at_160) (fun _ _ => ⟨rfl, rfl, (by decide : 5 + 3 ≤ _), (by decide : 21 + 8 ≤ _)⟩)
                  dsimp only [Pt.U, Pt.locs, Pt.cells, Pt.slots] at X75 l75 y75 z75 st75 hQ75 hS75 gr75
                  subst l75 y75 z75
                  obtain ⟨u75, rfl, Nq75, Kq75, fq0_75⟩ := hQ75
                  have N75 := Fr.app N66 Nq75
                  have Z75 : n0 ≤ T75.heap.size := Nat.le_trans Z66 Kq75.1
                  have SZ75 : h0.size ≤ T75.heap.size := Nat.le_trans SZ66 Kq75.1
                  have S0_75 := own_Sta_keep S0_66 Kq75 all0
                  have S1_75 := own_Sta_keep S1_66 Kq75 all0
                  have S2_75 := own_Sta_keep S2_66 Kq75 all0
                  have S3_75 := own_Sta_keep S3_66 Kq75 all0
                  have S4_75 := own_Sta_keep S4_66 Kq75 all0
                  have hZ := own_warm hZ hS75
                  have hown := own_find hown hS75
                  have hS := foldS hS (by exact hk) hS75 gr75
                  have hk := Nat.le_refl T75.heap.size
                  refine own_trans st75 ?_
                  show own_Ends p e below F (T75.setTop (mkF m 163 A74 [u75]))
                  obtain ⟨A76, hA76⟩ : ∃ z : Array Slot, z = #[.val (.int p1), .val (.int p2), .val (.int p3), .val (.int p4), .val (.int p5), .val (.int p6), .val (.int z2), .val (.int z7), .val (.int z12), .val (.int z17), .val (.int (1 : Int32)), .val (.int z24), .val (.ref a29), .val (.ref cu), .val u75, .unset] := ⟨_, rfl⟩
                  refine own_step (fun _ k => XS.astore X75.here hx rfl (hb hby at_163) rfl fq0_75 (l' := A76) (by rw [hA74, hA76]; exact (XS.store1 (o := .unset) rfl (Or.inl rfl) (own_catR fq0_75))) k) ?_
                  show own_Ends p e below F (T75.setTop (mkF m 165 A76 []))
                  obtain ⟨T77, h77, X77, e77, E77, A77, D77, -, st77⟩ := newO X75 hx hZ hown (own_g hw 58 rfl) (own_g hw 59 rfl) (own_g hw 60 rfl) rfl (g := (mkF m 165 A76 [])) rfl (hb hby at_165) (by decide) (by decide)
                  obtain ⟨a77, g77⟩ : ∃ z, z = T75.heap.size := ⟨_, rfl⟩
                  rw [← g77] at A77 D77 st77
                  have ge_a77 : n0 ≤ a77 := Nat.le_trans Z75 (Nat.le_of_eq g77.symm)
                  have sz_a77 : h0.size ≤ a77 := Nat.le_trans SZ75 (Nat.le_of_eq g77.symm)
                  have ne_dd_a77 : dd ≠ a77 := Nat.ne_of_lt (by rw [g77]; exact (((((VD.ext E29).keep Kq30 (ninS ne_dd_a29 nin0)).keep Kq65 (ninS ne_dd_a29 nin0)).keep Kq66 nin0).keep Kq75 nin0).lt)
                  have ne_cc_a77 : cc ≠ a77 := Nat.ne_of_lt (by rw [g77]; exact (((((BC.ext E29).keep Kq30 (ninS ne_cc_a29 nin0)).keep Kq65 (ninS ne_cc_a29 nin0)).keep Kq66 nin0).keep Kq75 nin0).lt)
                  have ne_a29_a77 : a29 ≠ a77 := Nat.ne_of_lt (by rw [g77]; exact ((fq2_65.keep Kq66 nin0).keep Kq75 nin0).lt)
                  have ne_c65_a77 : c65 ≠ a77 := Nat.ne_of_lt (by rw [g77]; exact ((fq5_65.keep Kq66 nin0).keep Kq75 nin0).lt)
                  have Z77 : n0 ≤ h77.size := Nat.le_trans Z75 E77.1
                  have SZ77 : h0.size ≤ h77.size := Nat.le_trans SZ75 E77.1
                  have hk := Nat.le_trans hk E77.1
                  have F77_rows : Fld Z h77 a77 "com/example/greater_than/greaterthan/page/Page" "rows" "Ljava/util/List;" .null := D77 (Or.inr (own_g hw 146 rfl)) (ty := (.object "java/util/List")) (by decide)
                  have F77_previousCursor : Fld Z h77 a77 "com/example/greater_than/greaterthan/page/Page" "previousCursor" "Ljava/lang/String;" .null := D77 (Or.inr (own_g hw 148 rfl)) (ty := (.object "java/lang/String")) (by decide)
                  have F77_nextCursor : Fld Z h77 a77 "com/example/greater_than/greaterthan/page/Page" "nextCursor" "Ljava/lang/String;" .null := D77 (Or.inr (own_g hw 150 rfl)) (ty := (.object "java/lang/String")) (by decide)
                  refine own_step st77 ?_
                  show own_Ends p e below F (T77.setTop (mkF m 168 A76 [(.ref a77)]))
                  refine own_step (fun _ k => XS.dup X77.here hx rfl (hb hby at_168) rfl rfl k) ?_
                  show own_Ends p e below F (T77.setTop (mkF m 169 A76 [(.ref a77), (.ref a77)]))
                  refine own_step (fun _ k => XS.aload X77.here hx rfl (hb hby at_169) (by rw [hA76]; rfl) rfl k) ?_
                  show own_Ends p e below F (T77.setTop (mkF m 171 A76 [(.ref a29), (.ref a77), (.ref a77)]))
                  refine own_step (fun _ k => XS.aload X77.here hx rfl (hb hby at_171) (by rw [hA76]; rfl) fq0_75 k) ?_
                  show own_Ends p e below F (T77.setTop (mkF m 173 A76 [u75, (.ref a29), (.ref a77), (.ref a77)]))
                  refine own_step (fun _ k => XS.aload X77.here hx rfl (hb hby at_173) (by rw [hA76]; rfl) rfl k) ?_
                  show own_Ends p e below F (T77.setTop (mkF m 175 A76 [(.ref cu), u75, (.ref a29), (.ref a77), (.ref a77)]))
                  obtain ⟨_, _, ⟨T78, L78, k78, n78⟩, -, X78, ⟨Lc78, hQ78, l78, y78, z78⟩, st78⟩ := X77.specialBack hx (y := (⟨"com/example/greater_than/greaterthan/page/Page", "<init>", "(Ljava/util/List;Ljava/lang/String;Ljava/lang/String;)V"⟩ : MethodName)) rfl hown (mvT hZ (own_g hw 61 rfl)) (mvT hZ (own_g hw 62 rfl)) (mvT hZ (own_g hw 63 rfl)) (by decide) (backOf (W := 1) (rm11_1 l Z a0 hw [] a77 a29 c65 kc65 .null u75 (.ref cu) ee ma mu mv mo h77 n0 Z77 A77 ge_a77 F77_rows F77_previousCursor F77_nextCursor (((fq5_65.keep Kq66 nin0).keep Kq75 nin0).ext E77) (((fq7_65.keep Kq66).keep Kq75).ext E77) (Or.inl rfl) (((fq1_65.keep Kq66).keep Kq75).ext E77) (((fq3_65.keep Kq66 nin0).keep Kq75 nin0).ext E77) (((fq4_65.keep Kq66 nin0).keep Kq75 nin0).ext E77) (Sta.ext E77 S2_75) M_ma M_mu M_mv M_mo fq0_75 rfl) hZ (own_g hw 63 rfl) (own_g hw 60 rfl) (by decide) (by decide)) (g := (mkF m 175 A76 [(.ref cu), u75, (.ref a29), (.ref a77), (.ref a77)])) rfl (by rw [hml]; show A76.size = _; rw [hA76]; rfl) (Steps.refl _) (a := a77) (argsL := [(.ref a29), u75, (.ref cu)]) (rest := [(.ref a77)]) (lenOf pd__28Ljava_2futil_2fList_3bLjava_2flang_2fString_3bLjava_2flang_2fString_3b_29V rfl) rfl (by show 2 * 0 + _ ≤ _; exact Nat.le_of_eq rfl) (hb hby at_175) (fun _ _ => ⟨rfl, e77, (by decide : 9 + 3 ≤ _), (by decide : 32 + 6 ≤ _)⟩)
                  dsimp only [Pt.U, Pt.locs, Pt.cells, Pt.slots] at X78 l78 y78 z78 st78 hQ78
                  subst l78 y78 z78
                  obtain ⟨rfl, Nq78, Kq78, fq0_78, fq1_78, fq2_78⟩ := hQ78
                  have N78 := Fr.app N75 Nq78
                  have Z78 : n0 ≤ T78.heap.size := Nat.le_trans Z77 Kq78.1
                  have SZ78 : h0.size ≤ T78.heap.size := Nat.le_trans SZ77 Kq78.1
                  have S0_78 := own_Sta_keep (Sta.ext E77 S0_75) Kq78 (allS (own_ns_exa A77) all0)
                  have S1_78 := own_Sta_keep (Sta.ext E77 S1_75) Kq78 (allS (own_ns_exa A77) all0)
                  have S2_78 := own_Sta_keep (Sta.ext E77 S2_75) Kq78 (allS (own_ns_exa A77) all0)
                  have S3_78 := own_Sta_keep (Sta.ext E77 S3_75) Kq78 (allS (own_ns_exa A77) all0)
                  have S4_78 := own_Sta_keep (Sta.ext E77 S4_75) Kq78 (allS (own_ns_exa A77) all0)
                  have hk := Nat.le_trans hk Kq78.1
                  refine own_trans st78 ?_
                  show own_Ends p e below F (T78.setTop (mkF m 178 A76 [(.ref a77)]))
                  obtain ⟨A79, hA79⟩ : ∃ z : Array Slot, z = #[.val (.int p1), .val (.int p2), .val (.int p3), .val (.int p4), .val (.int p5), .val (.int p6), .val (.int z2), .val (.int z7), .val (.int z12), .val (.int z17), .val (.int (1 : Int32)), .val (.int z24), .val (.ref a29), .val (.ref cu), .val u75, .val (.ref a77)] := ⟨_, rfl⟩
                  refine own_step (fun _ k => XS.astore X78.here hx rfl (hb hby at_178) rfl rfl (l' := A79) (by rw [hA76, hA79]; exact rfl) k) ?_
                  show own_Ends p e below F (T78.setTop (mkF m 180 A79 []))
                  refine own_step (fun _ k => XS.aload X78.here hx rfl (hb hby at_180) (by rw [hA79]; rfl) rfl k) ?_
                  show own_Ends p e below F (T78.setTop (mkF m 182 A79 [(.ref a77)]))
                  obtain ⟨cq80, kq80, qa80, qb80, qc80⟩ := isOf (s := (s.setVm T75.vm)) (T := T78) hZ rfl fq0_78
                  obtain ⟨_, _, ⟨T80, L80, k80, n80⟩, -, X80, ⟨Lc80, hQ80, l80, y80, z80⟩, st80⟩ := X78.virtualBack hx (y := (⟨"com/example/greater_than/greaterthan/page/Page", "hasNext", "()Z"⟩ : MethodName)) (z := (⟨"com/example/greater_than/greaterthan/page/Page", "hasNext", "()Z"⟩ : MethodName)) hown (mvT hZ (own_g hw 151 rfl)) (mvT hZ (own_g hw 152 rfl)) (notFace_of_selects (args := #[]) (mvT hZ (own_g hw 154 rfl))) (mvT hZ (own_g hw 154 rfl)) (mvT hZ (own_g hw 153 rfl)) (by decide) (backOf (W := 0) (rm21r l Z a0 hw [] a77 cu T78.heap n0 Z78 fq2_78) hZ (own_g hw 155 rfl) (own_g hw 60 rfl) (by decide) (by decide)) qa80 qc80 (g := (mkF m 182 A79 [(.ref a77)])) rfl (by rw [hml]; show A79.size = _; rw [hA79]; rfl) (Steps.refl _) (argsL := []) (rest := []) (lenOf pd__28_29Z rfl) rfl (by show 2 * 0 + _ ≤ _; exact Nat.le_of_eq rfl) (hb hby at_182) (fun _ _ => ⟨rfl, rfl, (by decide : 12 + 0 ≤ _), (by decide : 38 + 0 ≤ _)⟩)
                  dsimp only [Pt.U, Pt.locs, Pt.cells, Pt.slots] at X80 l80 y80 z80 st80 hQ80
                  subst l80 y80 z80
                  obtain ⟨rfl, Nq80, eq80⟩ := hQ80
                  have N80 := Fr.app N78 Nq80
                  refine own_trans st80 ?_
                  show own_Ends p e below F (T80.setTop (mkF m 185 A79 [(.int (1 : Int32))]))
                  refine own_step (fun _ k => XS.aload X80.here hx rfl (hb hby at_185) (by rw [hA79]; rfl) rfl k) ?_
                  show own_Ends p e below F (T80.setTop (mkF m 187 A79 [(.ref cu), (.int (1 : Int32))]))
                  refine own_step (fun _ k => XS.ifnullNo X80.here hx rfl (hb hby at_187) rfl k) ?_
                  show own_Ends p e below F (T80.setTop (mkF m 190 A79 [(.int (1 : Int32))]))
                  refine own_step (fun _ k => XS.iconst X80.here hx rfl (hb hby at_190) k) ?_
                  show own_Ends p e below F (T80.setTop (mkF m 191 A79 [(.int (1 : Int32)), (.int (1 : Int32))]))
                  refine own_step (fun _ k => XS.goto X80.here hx rfl (pc0 := 191) (pc' := 195) rfl (hb hby at_191) (by decide) (by decide) k) ?_
                  show own_Ends p e below F (T80.setTop (mkF m 195 A79 [(.int (1 : Int32)), (.int (1 : Int32))]))
                  refine own_step (fun _ k => XS.icmpNo X80.here hx rfl (hb hby at_195) rfl (teq (by decide : (1 : Int32) = (1 : Int32))).2 k) ?_
                  show own_Ends p e below F (T80.setTop (mkF m 198 A79 []))
                  refine own_step (fun _ k => XS.iconst X80.here hx rfl (hb hby at_198) k) ?_
                  show own_Ends p e below F (T80.setTop (mkF m 199 A79 [(.int (1 : Int32))]))
                  refine own_step (fun _ k => XS.goto X80.here hx rfl (pc0 := 199) (pc' := 203) rfl (hb hby at_199) (by decide) (by decide) k) ?_
                  show own_Ends p e below F (T80.setTop (mkF m 203 A79 [(.int (1 : Int32))]))
                  rw [hF]
                  exact own_retW X80 hS (by rw [eq80]; exact hk) (v := (some (.int (nar .boolean (1 : Int32))))) (fun h => by rw [Bd.returns] at h; cases h) Bd.notSynchronized (fun fs hr => retN X80 hx (t := .boolean) Bd.returns (by simp) (hb hby at_203) hr) (by decide) (by decide) (by rw [eq80]; exact ⟨rfl, N80⟩)
            · show own_Ends p e below F (T30.setTop (mkF m 83 A31 []))
              refine own_step (fun _ k => XS.iload X30.here hx rfl (hb hby at_83) (by rw [hA31]; rfl) k) ?_
              show own_Ends p e below F (T30.setTop (mkF m 85 A31 [(.int (2 : Int32))]))
              refine own_step (fun _ k => XS.iconst X30.here hx rfl (hb hby at_85) k) ?_
              show own_Ends p e below F (T30.setTop (mkF m 86 A31 [(.int (1 : Int32)), (.int (2 : Int32))]))
              refine own_step (fun _ k => XS.icmpNo X30.here hx rfl (hb hby at_86) rfl (flt (by decide : ¬ ((2 : Int32) < (1 : Int32)))).1 k) ?_
              show own_Ends p e below F (T30.setTop (mkF m 89 A31 []))
              refine own_step (fun _ k => XS.aload X30.here hx rfl (hb hby at_89) (by rw [hA31]; rfl) rfl k) ?_
              show own_Ends p e below F (T30.setTop (mkF m 91 A31 [(.ref a29)]))
              refine own_step (fun _ k => XS.iload X30.here hx rfl (hb hby at_91) (by rw [hA31]; rfl) k) ?_
              show own_Ends p e below F (T30.setTop (mkF m 93 A31 [(.int z24), (.ref a29)]))
              by_cases c93_81 : z24 = (0 : Int32)
              · refine own_step (fun _ k => XS.ifYes X30.here hx rfl (pc0 := 93) (pc' := 100) rfl (hb hby at_93) rfl ((if0 _ _).trans (teq c93_81).1) (by decide) (by decide) k) ?_
                show own_Ends p e below F (T30.setTop (mkF m 100 A31 [(.ref a29)]))
                refine own_step (fun _ k => XS.iload X30.here hx rfl (hb hby at_100) (by rw [hA31]; rfl) k) ?_
                show own_Ends p e below F (T30.setTop (mkF m 102 A31 [(.int p6), (.ref a29)]))
                obtain ⟨_, _, ⟨T82, L82, k82, n82⟩, -, X82, ⟨Lc82, hQ82, l82, y82, z82⟩, st82⟩ := Jvm.LawKit.callS X30 hx (y := (⟨"java/lang/Integer", "valueOf", "(I)Ljava/lang/Integer;"⟩ : MethodName)) hown (mvT hZ (own_g hw 189 rfl)) (mvT hZ (own_g hw 190 rfl)) (mvT hZ (own_g hw 191 rfl)) (mvT hZ (own_g hw 192 rfl)) (by decide) (backOf (W := 1) (rm27 l Z a0 hw [] p6 cc T30.heap n0 Z30 S3_30 S4_30 ((BC.ext E29).keep Kq30 (ninS ne_cc_a29 nin0))) hZ (own_g hw 192 rfl) (own_g hw 191 rfl) (by decide) (by decide)) (g := (mkF m 102 A31 [(.int p6), (.ref a29)])) rfl (by rw [hml]; show A31.size = _; rw [hA31]; rfl) (argsL := [(.int p6)]) (rest := [(.ref a29)]) (lenOf pd__28I_29Ljava_2flang_2fInteger_3b rfl) rfl (by show 2 * 0 + _ ≤ _; exact Nat.le_of_eq rfl) (hb hby at_102) (fun _ _ => ⟨rfl, rfl, (by decide : 1 + 1 ≤ _), (by decide : 3 + 1 ≤ _)⟩)
                dsimp only [Pt.U, Pt.locs, Pt.cells, Pt.slots] at X82 l82 y82 z82 st82 hQ82
                subst l82 y82 z82
                obtain ⟨c82, rfl, Nq82, Kq82, fq0_82⟩ := hQ82
                have N82 := Fr.app N30 Nq82
                have Z82 : n0 ≤ T82.heap.size := Nat.le_trans Z30 Kq82.1
                have SZ82 : h0.size ≤ T82.heap.size := Nat.le_trans SZ30 Kq82.1
                have S0_82 := own_Sta_keep S0_30 Kq82 all0
                have S1_82 := own_Sta_keep S1_30 Kq82 all0
                have S2_82 := own_Sta_keep S2_30 Kq82 all0
                have S3_82 := own_Sta_keep S3_30 Kq82 all0
                have S4_82 := own_Sta_keep S4_30 Kq82 all0
                have hk := Nat.le_trans hk Kq82.1
                refine own_step st82 ?_
                show own_Ends p e below F (T82.setTop (mkF m 105 A31 [(.ref c82), (.ref a29)]))
                obtain ⟨cq83, kq83, qa83, qb83, qc83⟩ := isOf (s := (s.setVm s.vm)) (T := T82) hZ rfl (fq0_30.keep Kq82)
                obtain ⟨_, _, ⟨T83, L83, k83, n83⟩, -, X83, ⟨Lc83, hQ83, l83, y83, z83⟩, st83⟩ := X82.virtualBack hx (y := (⟨"java/util/ArrayList", "add", "(Ljava/lang/Object;)Z"⟩ : MethodName)) (z := (⟨"java/util/ArrayList", "add", "(Ljava/lang/Object;)Z"⟩ : MethodName)) hown (mvT hZ (own_g hw 159 rfl)) (mvT hZ (own_g hw 160 rfl)) (notFace_of_selects (args := #[]) (mvT hZ (own_g hw 162 rfl))) (mvT hZ (own_g hw 162 rfl)) (mvT hZ (own_g hw 161 rfl)) (by decide) (backOf (W := 0) (rm22_0 l Z a0 hw [] a29 dd kd (.ref c82) T82.heap n0 Z82 (fq0_30.keep Kq82) ge_a29 (fq1_30.keep Kq82 nin0) (fq2_30.keep Kq82 nin0) (fq3_30.keep Kq82 nin0) (Or.inr ⟨_, _, _, rfl, fq0_82, (own_g hw 210 rfl)⟩) S1_82 (((VD.ext E29).keep Kq30 (ninS ne_dd_a29 nin0)).keep Kq82 nin0)) hZ (own_g hw 163 rfl) (own_g hw 2 rfl) (by decide) (by decide)) qa83 qc83 (g := (mkF m 105 A31 [(.ref c82), (.ref a29)])) rfl (by rw [hml]; show A31.size = _; rw [hA31]; rfl) (Steps.refl _) (argsL := [(.ref c82)]) (rest := []) (lenOf pd__28Ljava_2flang_2fObject_3b_29Z rfl) rfl (by show 2 * 0 + _ ≤ _; exact Nat.le_of_eq rfl) (hb hby at_105) (fun _ _ => ⟨rfl, rfl, (by decide : 2 + 1 ≤ _), (by decide : 4 + 10 ≤ _)⟩)
                dsimp only [Pt.U, Pt.locs, Pt.cells, Pt.slots] at X83 l83 y83 z83 st83 hQ83
                subst l83 y83 z83
                obtain ⟨c83, kc83, rfl, Nq83, Kq83, fq0_83, fq1_83, fq2_83, fq3_83, fq4_83, fq5_83, fq6_83, fq7_83⟩ := hQ83
                have N83 := Fr.app N82 Nq83
                have Z83 : n0 ≤ T83.heap.size := Nat.le_trans Z82 Kq83.1
                have SZ83 : h0.size ≤ T83.heap.size := Nat.le_trans SZ82 Kq83.1
                have S0_83 := own_Sta_keep S0_82 Kq83 (allS (own_ns_exa (fq0_30.keep Kq82)) all0)
                have S1_83 := own_Sta_keep S1_82 Kq83 (allS (own_ns_exa (fq0_30.keep Kq82)) all0)
                have S2_83 := own_Sta_keep S2_82 Kq83 (allS (own_ns_exa (fq0_30.keep Kq82)) all0)
                have S3_83 := own_Sta_keep S3_82 Kq83 (allS (own_ns_exa (fq0_30.keep Kq82)) all0)
                have S4_83 := own_Sta_keep S4_82 Kq83 (allS (own_ns_exa (fq0_30.keep Kq82)) all0)
                have ne_dd_c83 : dd ≠ c83 := Nat.ne_of_lt (Nat.lt_of_lt_of_le ((((VD.ext E29).keep Kq30 (ninS ne_dd_a29 nin0)).keep Kq82 nin0)).lt fq0_83)
                have ne_cc_c83 : cc ≠ c83 := Nat.ne_of_lt (Nat.lt_of_lt_of_le ((((BC.ext E29).keep Kq30 (ninS ne_cc_a29 nin0)).keep Kq82 nin0)).lt fq0_83)
                have ne_a29_c83 : a29 ≠ c83 := Nat.ne_of_lt (Nat.lt_of_lt_of_le ((fq1_30.keep Kq82 nin0)).lt fq0_83)
                have ne_c82_c83 : c82 ≠ c83 := Nat.ne_of_lt (Nat.lt_of_lt_of_le (fq0_82).lt fq0_83)
                have ge_c83 : n0 ≤ c83 := Nat.le_trans Z82 fq0_83
                have sz_c83 : h0.size ≤ c83 := Nat.le_trans SZ82 fq0_83
                have hk := Nat.le_trans hk Kq83.1
                refine own_trans st83 ?_
                show own_Ends p e below F (T83.setTop (mkF m 108 A31 [(.int (1 : Int32))]))
                refine own_step (fun _ k => XS.pop X83.here hx rfl (hb hby at_108) rfl rfl k) ?_
                show own_Ends p e below F (T83.setTop (mkF m 109 A31 []))
                refine own_step (fun _ k => XS.iload X83.here hx rfl (hb hby at_109) (by rw [hA31]; rfl) k) ?_
                show own_Ends p e below F (T83.setTop (mkF m 111 A31 [(.int (2 : Int32))]))
                refine own_step (fun _ k => XS.iconst X83.here hx rfl (hb hby at_111) k) ?_
                show own_Ends p e below F (T83.setTop (mkF m 112 A31 [(.int (2 : Int32)), (.int (2 : Int32))]))
                refine own_step (fun _ k => XS.icmpNo X83.here hx rfl (hb hby at_112) rfl (flt (by decide : ¬ ((2 : Int32) < (2 : Int32)))).1 k) ?_
                show own_Ends p e below F (T83.setTop (mkF m 115 A31 []))
                refine own_step (fun _ k => XS.aload X83.here hx rfl (hb hby at_115) (by rw [hA31]; rfl) rfl k) ?_
                show own_Ends p e below F (T83.setTop (mkF m 117 A31 [(.ref a29)]))
                refine own_step (fun _ k => XS.iload X83.here hx rfl (hb hby at_117) (by rw [hA31]; rfl) k) ?_
                show own_Ends p e below F (T83.setTop (mkF m 119 A31 [(.int p6), (.ref a29)]))
                obtain ⟨_, _, ⟨T84, L84, k84, n84⟩, -, X84, ⟨Lc84, hQ84, l84, y84, z84⟩, st84⟩ := Jvm.LawKit.callS X83 hx (y := (⟨"java/lang/Integer", "valueOf", "(I)Ljava/lang/Integer;"⟩ : MethodName)) hown (mvT hZ (own_g hw 189 rfl)) (mvT hZ (own_g hw 190 rfl)) (mvT hZ (own_g hw 191 rfl)) (mvT hZ (own_g hw 192 rfl)) (by decide) (backOf (W := 1) (rm27 l Z a0 hw [] p6 cc T83.heap n0 Z83 S3_83 S4_83 ((((BC.ext E29).keep Kq30 (ninS ne_cc_a29 nin0)).keep Kq82 nin0).keep Kq83 (ninS ne_cc_a29 nin0))) hZ (own_g hw 192 rfl) (own_g hw 191 rfl) (by decide) (by decide)) (g := (mkF m 119 A31 [(.int p6), (.ref a29)])) rfl (by rw [hml]; show A31.size = _; rw [hA31]; rfl) (argsL := [(.int p6)]) (rest := [(.ref a29)]) (lenOf pd__28I_29Ljava_2flang_2fInteger_3b rfl) rfl (by show 2 * 0 + _ ≤ _; exact Nat.le_of_eq rfl) (hb hby at_119) (fun _ _ => ⟨rfl, rfl, (by decide : 3 + 1 ≤ _), (by decide : 14 + 1 ≤ _)⟩)
                dsimp only [Pt.U, Pt.locs, Pt.cells, Pt.slots] at X84 l84 y84 z84 st84 hQ84
                subst l84 y84 z84
                obtain ⟨c84, rfl, Nq84, Kq84, fq0_84⟩ := hQ84
                have N84 := Fr.app N83 Nq84
                have Z84 : n0 ≤ T84.heap.size := Nat.le_trans Z83 Kq84.1
                have SZ84 : h0.size ≤ T84.heap.size := Nat.le_trans SZ83 Kq84.1
                have S0_84 := own_Sta_keep S0_83 Kq84 all0
                have S1_84 := own_Sta_keep S1_83 Kq84 all0
                have S2_84 := own_Sta_keep S2_83 Kq84 all0
                have S3_84 := own_Sta_keep S3_83 Kq84 all0
                have S4_84 := own_Sta_keep S4_83 Kq84 all0
                have hk := Nat.le_trans hk Kq84.1
                refine own_step st84 ?_
                show own_Ends p e below F (T84.setTop (mkF m 122 A31 [(.ref c84), (.ref a29)]))
                obtain ⟨cq85, kq85, qa85, qb85, qc85⟩ := isOf (s := (s.setVm s.vm)) (T := T84) hZ rfl (fq1_83.keep Kq84)
                obtain ⟨_, _, ⟨T85, L85, k85, n85⟩, -, X85, ⟨Lc85, hQ85, l85, y85, z85⟩, st85⟩ := X84.virtualBack hx (y := (⟨"java/util/ArrayList", "add", "(Ljava/lang/Object;)Z"⟩ : MethodName)) (z := (⟨"java/util/ArrayList", "add", "(Ljava/lang/Object;)Z"⟩ : MethodName)) hown (mvT hZ (own_g hw 159 rfl)) (mvT hZ (own_g hw 160 rfl)) (notFace_of_selects (args := #[]) (mvT hZ (own_g hw 162 rfl))) (mvT hZ (own_g hw 162 rfl)) (mvT hZ (own_g hw 161 rfl)) (by decide) (backOf (W := 0) (rm22_1 l Z a0 hw [] a29 c83 kc83 (.ref c84) (.ref c82) T84.heap n0 Z84 (fq1_83.keep Kq84) ge_a29 (fq2_83.keep Kq84 nin0) (fq3_83.keep Kq84 nin0) (fq4_83.keep Kq84 nin0) (Or.inr ⟨_, _, _, rfl, fq0_84, (own_g hw 210 rfl)⟩) (fq5_83.keep Kq84 nin0) fq6_83 ge_c83) hZ (own_g hw 163 rfl) (own_g hw 2 rfl) (by decide) (by decide)) qa85 qc85 (g := (mkF m 122 A31 [(.ref c84), (.ref a29)])) rfl (by rw [hml]; show A31.size = _; rw [hA31]; rfl) (Steps.refl _) (argsL := [(.ref c84)]) (rest := []) (lenOf pd__28Ljava_2flang_2fObject_3b_29Z rfl) rfl (by show 2 * 0 + _ ≤ _; exact Nat.le_of_eq rfl) (hb hby at_122) (fun _ _ => ⟨rfl, rfl, (by decide : 4 + 0 ≤ _), (by decide : 15 + 0 ≤ _)⟩)
                dsimp only [Pt.U, Pt.locs, Pt.cells, Pt.slots] at X85 l85 y85 z85 st85 hQ85
                subst l85 y85 z85
                obtain ⟨rfl, Nq85, Kq85, fq0_85, fq1_85, fq2_85, fq3_85, fq4_85⟩ := hQ85
                have N85 := Fr.app N84 Nq85
                have Z85 : n0 ≤ T85.heap.size := Nat.le_trans Z84 Kq85.1
                have SZ85 : h0.size ≤ T85.heap.size := Nat.le_trans SZ84 Kq85.1
                have S0_85 := own_Sta_keep S0_84 Kq85 (allS (own_ns_exa (fq1_83.keep Kq84)) (allS (own_ns_exa (fq7_83.keep Kq84)) all0))
                have S1_85 := own_Sta_keep S1_84 Kq85 (allS (own_ns_exa (fq1_83.keep Kq84)) (allS (own_ns_exa (fq7_83.keep Kq84)) all0))
                have S2_85 := own_Sta_keep S2_84 Kq85 (allS (own_ns_exa (fq1_83.keep Kq84)) (allS (own_ns_exa (fq7_83.keep Kq84)) all0))
                have S3_85 := own_Sta_keep S3_84 Kq85 (allS (own_ns_exa (fq1_83.keep Kq84)) (allS (own_ns_exa (fq7_83.keep Kq84)) all0))
                have S4_85 := own_Sta_keep S4_84 Kq85 (allS (own_ns_exa (fq1_83.keep Kq84)) (allS (own_ns_exa (fq7_83.keep Kq84)) all0))
                have hk := Nat.le_trans hk Kq85.1
                refine own_trans st85 ?_
                show own_Ends p e below F (T85.setTop (mkF m 125 A31 [(.int (1 : Int32))]))
                refine own_step (fun _ k => XS.pop X85.here hx rfl (hb hby at_125) rfl rfl k) ?_
                show own_Ends p e below F (T85.setTop (mkF m 126 A31 []))
                refine own_step (fun _ k => XS.iload X85.here hx rfl (hb hby at_126) (by rw [hA31]; rfl) k) ?_
                show own_Ends p e below F (T85.setTop (mkF m 128 A31 [(.int (2 : Int32))]))
                refine own_step (fun _ k => XS.iconst X85.here hx rfl (hb hby at_128) k) ?_
                show own_Ends p e below F (T85.setTop (mkF m 129 A31 [(.int (3 : Int32)), (.int (2 : Int32))]))
                refine own_step (fun _ k => XS.icmpYes X85.here hx rfl (pc0 := 129) (pc' := 142) rfl (hb hby at_129) rfl (tlt (by decide : (2 : Int32) < (3 : Int32))).1 (by decide) (by decide) k) ?_
                show own_Ends p e below F (T85.setTop (mkF m 142 A31 []))
                refine own_step (fun _ k => XS.iload X85.here hx rfl (hb hby at_142) (by rw [hA31]; rfl) k) ?_
                show own_Ends p e below F (T85.setTop (mkF m 144 A31 [(.int z2)]))
                refine own_step (fun _ k => XS.iload X85.here hx rfl (hb hby at_144) (by rw [hA31]; rfl) k) ?_
                show own_Ends p e below F (T85.setTop (mkF m 146 A31 [(.int z12), (.int z2)]))
                refine own_step (fun _ k => XS.iloadN X85.here hx rfl (hb hby at_146) (by rw [hA31]; rfl) k) ?_
                show own_Ends p e below F (T85.setTop (mkF m 147 A31 [(.int p2), (.int z12), (.int z2)]))
                refine own_step (fun _ k => XS.iloadN X85.here hx rfl (hb hby at_147) (by rw [hA31]; rfl) k) ?_
                show own_Ends p e below F (T85.setTop (mkF m 148 A31 [(.int p3), (.int p2), (.int z12), (.int z2)]))
                obtain ⟨_, _, ⟨T86, L86, k86, n86⟩, -, X86, hS86, gr86, ⟨Lc86, hQ86, l86, y86, z86⟩, st86⟩ := callSS X85 hx (y := (⟨"com/example/greater_than/greaterthan/page/PageHasNextPinLaw", "cursor", "(ZZII)Ljava/lang/String;"⟩ : MethodName)) hown (mvT hZ (own_g hw 26 rfl)) (mvT hZ (own_g hw 27 rfl)) (mvT hZ (own_g hw 28 rfl)) (mvT hZ (own_g hw 29 rfl)) (by decide) (backOfS (W := 0) (rm5 l Z a0 hw [] z2 z12 p2 p3 zc T85.heap n0 Z85 S0_85 hz) hZ (own_g hw 29 rfl) (own_g hw 28 rfl) (by decide) (by decide)) (g := (mkF m 148 A31 [(.int p3), (.int p2), (.int z12), (.int z2)])) rfl (by rw [hml]; show A31.size = _; rw [hA31]; rfl) (argsL := [(.int z2), (.int z12), (.int p2), (.int p3)]) (rest := []) (lenOf pd__28ZZII_29Ljava_2flang_2fString_3b rfl) rfl (by show 2 * 0 + _ ≤ _; exact Nat.le_of_eq rfl) (hb hby at_148) (fun _ _ => ⟨rfl, rfl, (by decide : 4 + 3 ≤ _), (by decide : 15 + 8 ≤ _)⟩)
                dsimp only [Pt.U, Pt.locs, Pt.cells, Pt.slots] at X86 l86 y86 z86 st86 hQ86 hS86 gr86
                subst l86 y86 z86
                obtain ⟨u86, rfl, Nq86, Kq86, fq0_86⟩ := hQ86
                have N86 := Fr.app N85 Nq86
                have Z86 : n0 ≤ T86.heap.size := Nat.le_trans Z85 Kq86.1
                have SZ86 : h0.size ≤ T86.heap.size := Nat.le_trans SZ85 Kq86.1
                have S0_86 := own_Sta_keep S0_85 Kq86 all0
                have S1_86 := own_Sta_keep S1_85 Kq86 all0
                have S2_86 := own_Sta_keep S2_85 Kq86 all0
                have S3_86 := own_Sta_keep S3_85 Kq86 all0
                have S4_86 := own_Sta_keep S4_85 Kq86 all0
                have hZ := own_warm hZ hS86
                have hown := own_find hown hS86
                have hS := foldS hS (by exact hk) hS86 gr86
                have hk := Nat.le_refl T86.heap.size
                refine own_trans st86 ?_
                show own_Ends p e below F (T86.setTop (mkF m 151 A31 [u86]))
                rcases ref_cases fq0_86 with rfl | ⟨cu, rfl⟩
                · show own_Ends p e below F (T86.setTop (mkF m 151 A31 [.null]))
                  obtain ⟨A87, hA87⟩ : ∃ z : Array Slot, z = #[.val (.int p1), .val (.int p2), .val (.int p3), .val (.int p4), .val (.int p5), .val (.int p6), .val (.int z2), .val (.int z7), .val (.int z12), .val (.int z17), .val (.int (2 : Int32)), .val (.int z24), .val (.ref a29), .val .null, .unset, .unset] := ⟨_, rfl⟩
                  refine own_step (fun _ k => XS.astore X86.here hx rfl (hb hby at_151) rfl rfl (l' := A87) (by rw [hA31, hA87]; exact rfl) k) ?_
                  show own_Ends p e below F (T86.setTop (mkF m 153 A87 []))
                  refine own_step (fun _ k => XS.iload X86.here hx rfl (hb hby at_153) (by rw [hA87]; rfl) k) ?_
                  show own_Ends p e below F (T86.setTop (mkF m 155 A87 [(.int z7)]))
                  refine own_step (fun _ k => XS.iload X86.here hx rfl (hb hby at_155) (by rw [hA87]; rfl) k) ?_
                  show own_Ends p e below F (T86.setTop (mkF m 157 A87 [(.int z17), (.int z7)]))
                  refine own_step (fun _ k => XS.iloadN X86.here hx rfl (hb hby at_157) (by rw [hA87]; rfl) k) ?_
                  show own_Ends p e below F (T86.setTop (mkF m 158 A87 [(.int p4), (.int z17), (.int z7)]))
                  refine own_step (fun _ k => XS.iload X86.here hx rfl (hb hby at_158) (by rw [hA87]; rfl) k) ?_
                  show own_Ends p e below F (T86.setTop (mkF m 160 A87 [(.int p5), (.int p4), (.int z17), (.int z7)]))
                  obtain ⟨_, _, ⟨T88, L88, k88, n88⟩, -, X88, hS88, gr88, ⟨Lc88, hQ88, l88, y88, z88⟩, st88⟩ := callSS X86 hx (y := (⟨"com/example/greater_than/greaterthan/page/PageHasNextPinLaw", "cursor", "(ZZII)Ljava/lang/String;"⟩ : MethodName)) hown (mvT hZ (own_g hw 26 rfl)) (mvT hZ (own_g hw 27 rfl)) (mvT hZ (own_g hw 28 rfl)) (mvT hZ (own_g hw 29 rfl)) (by decide) (backOfS (W := 0) (rm5 l Z a0 hw [] z7 z17 p4 p5 zc T86.heap n0 Z86 S0_86 hz) hZ (own_g hw 29 rfl) (own_g hw 28 rfl) (by decide) (by decide)) (g := (mkF m 160 A87 [(.int p5), (.int p4), (.int z17), (.int z7)])) rfl (by rw [hml]; show A87.size = _; rw [hA87]; rfl) (argsL := [(.int z7), (.int z17), (.int p4), (.int p5)]) (rest := []) (lenOf pd__28ZZII_29Ljava_2flang_2fString_3b rfl) rfl (by show 2 * 0 + _ ≤ _; exact Nat.le_of_eq rfl) (hb hby at_160) (fun _ _ => ⟨rfl, rfl, (by decide : 7 + 3 ≤ _), (by decide : 23 + 8 ≤ _)⟩)
                  dsimp only [Pt.U, Pt.locs, Pt.cells, Pt.slots] at X88 l88 y88 z88 st88 hQ88 hS88 gr88
                  subst l88 y88 z88
                  obtain ⟨u88, rfl, Nq88, Kq88, fq0_88⟩ := hQ88
                  have N88 := Fr.app N86 Nq88
                  have Z88 : n0 ≤ T88.heap.size := Nat.le_trans Z86 Kq88.1
                  have SZ88 : h0.size ≤ T88.heap.size := Nat.le_trans SZ86 Kq88.1
                  have S0_88 := own_Sta_keep S0_86 Kq88 all0
                  have S1_88 := own_Sta_keep S1_86 Kq88 all0
                  have S2_88 := own_Sta_keep S2_86 Kq88 all0
                  have S3_88 := own_Sta_keep S3_86 Kq88 all0
                  have S4_88 := own_Sta_keep S4_86 Kq88 all0
                  have hZ := own_warm hZ hS88
                  have hown := own_find hown hS88
                  have hS := foldS hS (by exact hk) hS88 gr88
                  have hk := Nat.le_refl T88.heap.size
                  refine own_trans st88 ?_
                  show own_Ends p e below F (T88.setTop (mkF m 163 A87 [u88]))
                  obtain ⟨A89, hA89⟩ : ∃ z : Array Slot, z = #[.val (.int p1), .val (.int p2), .val (.int p3), .val (.int p4), .val (.int p5), .val (.int p6), .val (.int z2), .val (.int z7), .val (.int z12), .val (.int z17), .val (.int (2 : Int32)), .val (.int z24), .val (.ref a29), .val .null, .val u88, .unset] := ⟨_, rfl⟩
                  refine own_step (fun _ k => XS.astore X88.here hx rfl (hb hby at_163) rfl fq0_88 (l' := A89) (by rw [hA87, hA89]; exact (XS.store1 (o := .unset) rfl (Or.inl rfl) (own_catR fq0_88))) k) ?_
                  show own_Ends p e below F (T88.setTop (mkF m 165 A89 []))
                  obtain ⟨T90, h90, X90, e90, E90, A90, D90, -, st90⟩ := newO X88 hx hZ hown (own_g hw 58 rfl) (own_g hw 59 rfl) (own_g hw 60 rfl) rfl (g := (mkF m 165 A89 [])) rfl (hb hby at_165) (by decide) (by decide)
                  obtain ⟨a90, g90⟩ : ∃ z, z = T88.heap.size := ⟨_, rfl⟩
                  rw [← g90] at A90 D90 st90
                  have ge_a90 : n0 ≤ a90 := Nat.le_trans Z88 (Nat.le_of_eq g90.symm)
                  have sz_a90 : h0.size ≤ a90 := Nat.le_trans SZ88 (Nat.le_of_eq g90.symm)
                  have ne_dd_a90 : dd ≠ a90 := Nat.ne_of_lt (by rw [g90]; exact ((((((((VD.ext E29).keep Kq30 (ninS ne_dd_a29 nin0)).keep Kq82 nin0).keep Kq83 (ninS ne_dd_a29 nin0)).keep Kq84 nin0).keep Kq85 (ninS ne_dd_a29 (ninS ne_dd_c83 nin0))).keep Kq86 nin0).keep Kq88 nin0).lt)
                  have ne_cc_a90 : cc ≠ a90 := Nat.ne_of_lt (by rw [g90]; exact ((((((((BC.ext E29).keep Kq30 (ninS ne_cc_a29 nin0)).keep Kq82 nin0).keep Kq83 (ninS ne_cc_a29 nin0)).keep Kq84 nin0).keep Kq85 (ninS ne_cc_a29 (ninS ne_cc_c83 nin0))).keep Kq86 nin0).keep Kq88 nin0).lt)
                  have ne_a29_a90 : a29 ≠ a90 := Nat.ne_of_lt (by rw [g90]; exact ((fq1_85.keep Kq86 nin0).keep Kq88 nin0).lt)
                  have ne_c82_a90 : c82 ≠ a90 := Nat.ne_of_lt (by rw [g90]; exact (((((fq0_82.keep Kq83).keep Kq84).keep Kq85).keep Kq86).keep Kq88).lt)
                  have ne_c83_a90 : c83 ≠ a90 := Nat.ne_of_lt (by rw [g90]; exact ((fq4_85.keep Kq86 nin0).keep Kq88 nin0).lt)
                  have ne_c84_a90 : c84 ≠ a90 := Nat.ne_of_lt (by rw [g90]; exact (((fq0_84.keep Kq85).keep Kq86).keep Kq88).lt)
                  have Z90 : n0 ≤ h90.size := Nat.le_trans Z88 E90.1
                  have SZ90 : h0.size ≤ h90.size := Nat.le_trans SZ88 E90.1
                  have hk := Nat.le_trans hk E90.1
                  have F90_rows : Fld Z h90 a90 "com/example/greater_than/greaterthan/page/Page" "rows" "Ljava/util/List;" .null := D90 (Or.inr (own_g hw 146 rfl)) (ty := (.object "java/util/List")) (by decide)
                  have F90_previousCursor : Fld Z h90 a90 "com/example/greater_than/greaterthan/page/Page" "previousCursor" "Ljava/lang/String;" .null := D90 (Or.inr (own_g hw 148 rfl)) (ty := (.object "java/lang/String")) (by decide)
                  have F90_nextCursor : Fld Z h90 a90 "com/example/greater_than/greaterthan/page/Page" "nextCursor" "Ljava/lang/String;" .null := D90 (Or.inr (own_g hw 150 rfl)) (ty := (.object "java/lang/String")) (by decide)
                  refine own_step st90 ?_
                  show own_Ends p e below F (T90.setTop (mkF m 168 A89 [(.ref a90)]))
                  refine own_step (fun _ k => XS.dup X90.here hx rfl (hb hby at_168) rfl rfl k) ?_
                  show own_Ends p e below F (T90.setTop (mkF m 169 A89 [(.ref a90), (.ref a90)]))
                  refine own_step (fun _ k => XS.aload X90.here hx rfl (hb hby at_169) (by rw [hA89]; rfl) rfl k) ?_
                  show own_Ends p e below F (T90.setTop (mkF m 171 A89 [(.ref a29), (.ref a90), (.ref a90)]))
                  refine own_step (fun _ k => XS.aload X90.here hx rfl (hb hby at_171) (by rw [hA89]; rfl) fq0_88 k) ?_
                  show own_Ends p e below F (T90.setTop (mkF m 173 A89 [u88, (.ref a29), (.ref a90), (.ref a90)]))
                  refine own_step (fun _ k => XS.aload X90.here hx rfl (hb hby at_173) (by rw [hA89]; rfl) rfl k) ?_
                  show own_Ends p e below F (T90.setTop (mkF m 175 A89 [.null, u88, (.ref a29), (.ref a90), (.ref a90)]))
                  obtain ⟨_, _, ⟨T91, L91, k91, n91⟩, -, X91, ⟨Lc91, hQ91, l91, y91, z91⟩, st91⟩ := X90.specialBack hx (y := (⟨"com/example/greater_than/greaterthan/page/Page", "<init>", "(Ljava/util/List;Ljava/lang/String;Ljava/lang/String;)V"⟩ : MethodName)) rfl hown (mvT hZ (own_g hw 61 rfl)) (mvT hZ (own_g hw 62 rfl)) (mvT hZ (own_g hw 63 rfl)) (by decide) (backOf (W := 1) (rm11_2 l Z a0 hw [] a90 a29 c83 kc83 (.ref c82) (.ref c84) u88 .null ee ma mu mv mo h90 n0 Z90 A90 ge_a90 F90_rows F90_previousCursor F90_nextCursor (((fq4_85.keep Kq86 nin0).keep Kq88 nin0).ext E90) (((((fq7_83.keep Kq84).keep Kq85).keep Kq86).keep Kq88).ext E90) (Or.inr ⟨_, _, _, rfl, ((((((fq0_82.keep Kq83).keep Kq84).keep Kq85).keep Kq86).keep Kq88).ext E90), (own_g hw 210 rfl)⟩) (Or.inr ⟨_, _, _, rfl, ((((fq0_84.keep Kq85).keep Kq86).keep Kq88).ext E90), (own_g hw 210 rfl)⟩) (((fq0_85.keep Kq86).keep Kq88).ext E90) (((fq2_85.keep Kq86 nin0).keep Kq88 nin0).ext E90) (((fq3_85.keep Kq86 nin0).keep Kq88 nin0).ext E90) (Sta.ext E90 S2_88) M_ma M_mu M_mv M_mo fq0_88 rfl) hZ (own_g hw 63 rfl) (own_g hw 60 rfl) (by decide) (by decide)) (g := (mkF m 175 A89 [.null, u88, (.ref a29), (.ref a90), (.ref a90)])) rfl (by rw [hml]; show A89.size = _; rw [hA89]; rfl) (Steps.refl _) (a := a90) (argsL := [(.ref a29), u88, .null]) (rest := [(.ref a90)]) (lenOf pd__28Ljava_2futil_2fList_3bLjava_2flang_2fString_3bLjava_2flang_2fString_3b_29V rfl) rfl (by show 2 * 0 + _ ≤ _; exact Nat.le_of_eq rfl) (hb hby at_175) (fun _ _ => ⟨rfl, e90, (by decide : 11 + 3 ≤ _), (by decide : 34 + 7 ≤ _)⟩)
                  dsimp only [Pt.U, Pt.locs, Pt.cells, Pt.slots] at X91 l91 y91 z91 st91 hQ91
                  subst l91 y91 z91
                  obtain ⟨rfl, Nq91, Kq91, fq0_91, fq1_91, fq2_91⟩ := hQ91
                  have N91 := Fr.app N88 Nq91
                  have Z91 : n0 ≤ T91.heap.size := Nat.le_trans Z90 Kq91.1
                  have SZ91 : h0.size ≤ T91.heap.size := Nat.le_trans SZ90 Kq91.1
                  have S0_91 := own_Sta_keep (Sta.ext E90 S0_88) Kq91 (allS (own_ns_exa A90) all0)
                  have S1_91 := own_Sta_keep (Sta.ext E90 S1_88) Kq91 (allS (own_ns_exa A90) all0)
                  have S2_91 := own_Sta_keep (Sta.ext E90 S2_88) Kq91 (allS (own_ns_exa A90) all0)
                  have S3_91 := own_Sta_keep (Sta.ext E90 S3_88) Kq91 (allS (own_ns_exa A90) all0)
                  have S4_91 := own_Sta_keep (Sta.ext E90 S4_88) Kq91 (allS (own_ns_exa A90) all0)
                  have hk := Nat.le_trans hk Kq91.1
                  refine own_trans st91 ?_
                  show own_Ends p e below F (T91.setTop (mkF m 178 A89 [(.ref a90)]))
                  obtain ⟨A92, hA92⟩ : ∃ z : Array Slot, z = #[.val (.int p1), .val (.int p2), .val (.int p3), .val (.int p4), .val (.int p5), .val (.int p6), .val (.int z2), .val (.int z7), .val (.int z12), .val (.int z17), .val (.int (2 : Int32)), .val (.int z24), .val (.ref a29), .val .null, .val u88, .val (.ref a90)] := ⟨_, rfl⟩
                  refine own_step (fun _ k => XS.astore X91.here hx rfl (hb hby at_178) rfl rfl (l' := A92) (by rw [hA89, hA92]; exact rfl) k) ?_
                  show own_Ends p e below F (T91.setTop (mkF m 180 A92 []))
                  refine own_step (fun _ k => XS.aload X91.here hx rfl (hb hby at_180) (by rw [hA92]; rfl) rfl k) ?_
                  show own_Ends p e below F (T91.setTop (mkF m 182 A92 [(.ref a90)]))
                  obtain ⟨cq93, kq93, qa93, qb93, qc93⟩ := isOf (s := (s.setVm T88.vm)) (T := T91) hZ rfl fq0_91
                  obtain ⟨_, _, ⟨T93, L93, k93, n93⟩, -, X93, ⟨Lc93, hQ93, l93, y93, z93⟩, st93⟩ := X91.virtualBack hx (y := (⟨"com/example/greater_than/greaterthan/page/Page", "hasNext", "()Z"⟩ : MethodName)) (z := (⟨"com/example/greater_than/greaterthan/page/Page", "hasNext", "()Z"⟩ : MethodName)) hown (mvT hZ (own_g hw 151 rfl)) (mvT hZ (own_g hw 152 rfl)) (notFace_of_selects (args := #[]) (mvT hZ (own_g hw 154 rfl))) (mvT hZ (own_g hw 154 rfl)) (mvT hZ (own_g hw 153 rfl)) (by decide) (backOf (W := 0) (rm21n l Z a0 hw [] a90 T91.heap n0 Z91 fq2_91) hZ (own_g hw 155 rfl) (own_g hw 60 rfl) (by decide) (by decide)) qa93 qc93 (g := (mkF m 182 A92 [(.ref a90)])) rfl (by rw [hml]; show A92.size = _; rw [hA92]; rfl) (Steps.refl _) (argsL := []) (rest := []) (lenOf pd__28_29Z rfl) rfl (by show 2 * 0 + _ ≤ _; exact Nat.le_of_eq rfl) (hb hby at_182) (fun _ _ => ⟨rfl, rfl, (by decide : 14 + 0 ≤ _), (by decide : 41 + 0 ≤ _)⟩)
                  dsimp only [Pt.U, Pt.locs, Pt.cells, Pt.slots] at X93 l93 y93 z93 st93 hQ93
                  subst l93 y93 z93
                  obtain ⟨rfl, Nq93, eq93⟩ := hQ93
                  have N93 := Fr.app N91 Nq93
                  refine own_trans st93 ?_
                  show own_Ends p e below F (T93.setTop (mkF m 185 A92 [(.int (0 : Int32))]))
                  refine own_step (fun _ k => XS.aload X93.here hx rfl (hb hby at_185) (by rw [hA92]; rfl) rfl k) ?_
                  show own_Ends p e below F (T93.setTop (mkF m 187 A92 [.null, (.int (0 : Int32))]))
                  refine own_step (fun _ k => XS.ifnullYes X93.here hx rfl (pc0 := 187) (pc' := 194) rfl (hb hby at_187) rfl (by decide) (by decide) k) ?_
                  show own_Ends p e below F (T93.setTop (mkF m 194 A92 [(.int (0 : Int32))]))
                  refine own_step (fun _ k => XS.iconst X93.here hx rfl (hb hby at_194) k) ?_
                  show own_Ends p e below F (T93.setTop (mkF m 195 A92 [(.int (0 : Int32)), (.int (0 : Int32))]))
                  refine own_step (fun _ k => XS.icmpNo X93.here hx rfl (hb hby at_195) rfl (teq (by decide : (0 : Int32) = (0 : Int32))).2 k) ?_
                  show own_Ends p e below F (T93.setTop (mkF m 198 A92 []))
                  refine own_step (fun _ k => XS.iconst X93.here hx rfl (hb hby at_198) k) ?_
                  show own_Ends p e below F (T93.setTop (mkF m 199 A92 [(.int (1 : Int32))]))
                  refine own_step (fun _ k => XS.goto X93.here hx rfl (pc0 := 199) (pc' := 203) rfl (hb hby at_199) (by decide) (by decide) k) ?_
                  show own_Ends p e below F (T93.setTop (mkF m 203 A92 [(.int (1 : Int32))]))
                  rw [hF]
                  exact own_retW X93 hS (by rw [eq93]; exact hk) (v := (some (.int (nar .boolean (1 : Int32))))) (fun h => by rw [Bd.returns] at h; cases h) Bd.notSynchronized (fun fs hr => retN X93 hx (t := .boolean) Bd.returns (by simp) (hb hby at_203) hr) (by decide) (by decide) (by rw [eq93]; exact ⟨rfl, N93⟩)
                · show own_Ends p e below F (T86.setTop (mkF m 151 A31 [(.ref cu)]))
                  obtain ⟨A94, hA94⟩ : ∃ z : Array Slot, z = #[.val (.int p1), .val (.int p2), .val (.int p3), .val (.int p4), .val (.int p5), .val (.int p6), .val (.int z2), .val (.int z7), .val (.int z12), .val (.int z17), .val (.int (2 : Int32)), .val (.int z24), .val (.ref a29), .val (.ref cu), .unset, .unset] := ⟨_, rfl⟩
                  refine own_step (fun _ k => XS.astore X86.here hx rfl (hb hby at_151) rfl rfl (l' := A94) (by rw [hA31, hA94]; exact rfl) k) ?_
                  show own_Ends p e below F (T86.setTop (mkF m 153 A94 []))
                  refine own_step (fun _ k => XS.iload X86.here hx rfl (hb hby at_153) (by rw [hA94]; rfl) k) ?_
                  show own_Ends p e below F (T86.setTop (mkF m 155 A94 [(.int z7)]))
                  refine own_step (fun _ k => XS.iload X86.here hx rfl (hb hby at_155) (by rw [hA94]; rfl) k) ?_
                  show own_Ends p e below F (T86.setTop (mkF m 157 A94 [(.int z17), (.int z7)]))
                  refine own_step (fun _ k => XS.iloadN X86.here hx rfl (hb hby at_157) (by rw [hA94]; rfl) k) ?_
                  show own_Ends p e below F (T86.setTop (mkF m 158 A94 [(.int p4), (.int z17), (.int z7)]))
                  refine own_step (fun _ k => XS.iload X86.here hx rfl (hb hby at_158) (by rw [hA94]; rfl) k) ?_
                  show own_Ends p e below F (T86.setTop (mkF m 160 A94 [(.int p5), (.int p4), (.int z17), (.int z7)]))
                  obtain ⟨_, _, ⟨T95, L95, k95, n95⟩, -, X95, hS95, gr95, ⟨Lc95, hQ95, l95, y95, z95⟩, st95⟩ := callSS X86 hx (y := (⟨"com/example/greater_than/greaterthan/page/PageHasNextPinLaw", "cursor", "(ZZII)Ljava/lang/String;"⟩ : MethodName)) hown (mvT hZ (own_g hw 26 rfl)) (mvT hZ (own_g hw 27 rfl)) (mvT hZ (own_g hw 28 rfl)) (mvT hZ (own_g hw 29 rfl)) (by decide) (backOfS (W := 0) (rm5 l Z a0 hw [] z7 z17 p4 p5 zc T86.heap n0 Z86 S0_86 hz) hZ (own_g hw 29 rfl) (own_g hw 28 rfl) (by decide) (by decide)) (g := (mkF m 160 A94 [(.int p5), (.int p4), (.int z17), (.int z7)])) rfl (by rw [hml]; show A94.size = _; rw [hA94]; rfl) (argsL := [(.int z7), (.int z17), (.int p4), (.int p5)]) (rest := []) (lenOf pd__28ZZII_29Ljava_2flang_2fString_3b rfl) rfl (by show 2 * 0 + _ ≤ _; exact Nat.le_of_eq rfl) (hb hby at_160) (fun _ _ => ⟨rfl, rfl, (by decide : 7 + 3 ≤ _), (by decide : 23 + 8 ≤ _)⟩)
                  dsimp only [Pt.U, Pt.locs, Pt.cells, Pt.slots] at X95 l95 y95 z95 st95 hQ95 hS95 gr95
                  subst l95 y95 z95
                  obtain ⟨u95, rfl, Nq95, Kq95, fq0_95⟩ := hQ95
                  have N95 := Fr.app N86 Nq95
                  have Z95 : n0 ≤ T95.heap.size := Nat.le_trans Z86 Kq95.1
                  have SZ95 : h0.size ≤ T95.heap.size := Nat.le_trans SZ86 Kq95.1
                  have S0_95 := own_Sta_keep S0_86 Kq95 all0
                  have S1_95 := own_Sta_keep S1_86 Kq95 all0
                  have S2_95 := own_Sta_keep S2_86 Kq95 all0
                  have S3_95 := own_Sta_keep S3_86 Kq95 all0
                  have S4_95 := own_Sta_keep S4_86 Kq95 all0
                  have hZ := own_warm hZ hS95
                  have hown := own_find hown hS95
                  have hS := foldS hS (by exact hk) hS95 gr95
                  have hk := Nat.le_refl T95.heap.size
                  refine own_trans st95 ?_
                  show own_Ends p e below F (T95.setTop (mkF m 163 A94 [u95]))
                  obtain ⟨A96, hA96⟩ : ∃ z : Array Slot, z = #[.val (.int p1), .val (.int p2), .val (.int p3), .val (.int p4), .val (.int p5), .val (.int p6), .val (.int z2), .val (.int z7), .val (.int z12), .val (.int z17), .val (.int (2 : Int32)), .val (.int z24), .val (.ref a29), .val (.ref cu), .val u95, .unset] := ⟨_, rfl⟩
                  refine own_step (fun _ k => XS.astore X95.here hx rfl (hb hby at_163) rfl fq0_95 (l' := A96) (by rw [hA94, hA96]; exact (XS.store1 (o := .unset) rfl (Or.inl rfl) (own_catR fq0_95))) k) ?_
                  show own_Ends p e below F (T95.setTop (mkF m 165 A96 []))
                  obtain ⟨T97, h97, X97, e97, E97, A97, D97, -, st97⟩ := newO X95 hx hZ hown (own_g hw 58 rfl) (own_g hw 59 rfl) (own_g hw 60 rfl) rfl (g := (mkF m 165 A96 [])) rfl (hb hby at_165) (by decide) (by decide)
                  obtain ⟨a97, g97⟩ : ∃ z, z = T95.heap.size := ⟨_, rfl⟩
                  rw [← g97] at A97 D97 st97
                  have ge_a97 : n0 ≤ a97 := Nat.le_trans Z95 (Nat.le_of_eq g97.symm)
                  have sz_a97 : h0.size ≤ a97 := Nat.le_trans SZ95 (Nat.le_of_eq g97.symm)
                  have ne_dd_a97 : dd ≠ a97 := Nat.ne_of_lt (by rw [g97]; exact ((((((((VD.ext E29).keep Kq30 (ninS ne_dd_a29 nin0)).keep Kq82 nin0).keep Kq83 (ninS ne_dd_a29 nin0)).keep Kq84 nin0).keep Kq85 (ninS ne_dd_a29 (ninS ne_dd_c83 nin0))).keep Kq86 nin0).keep Kq95 nin0).lt)
                  have ne_cc_a97 : cc ≠ a97 := Nat.ne_of_lt (by rw [g97]; exact ((((((((BC.ext E29).keep Kq30 (ninS ne_cc_a29 nin0)).keep Kq82 nin0).keep Kq83 (ninS ne_cc_a29 nin0)).keep Kq84 nin0).keep Kq85 (ninS ne_cc_a29 (ninS ne_cc_c83 nin0))).keep Kq86 nin0).keep Kq95 nin0).lt)
                  have ne_a29_a97 : a29 ≠ a97 := Nat.ne_of_lt (by rw [g97]; exact ((fq1_85.keep Kq86 nin0).keep Kq95 nin0).lt)
                  have ne_c82_a97 : c82 ≠ a97 := Nat.ne_of_lt (by rw [g97]; exact (((((fq0_82.keep Kq83).keep Kq84).keep Kq85).keep Kq86).keep Kq95).lt)
                  have ne_c83_a97 : c83 ≠ a97 := Nat.ne_of_lt (by rw [g97]; exact ((fq4_85.keep Kq86 nin0).keep Kq95 nin0).lt)
                  have ne_c84_a97 : c84 ≠ a97 := Nat.ne_of_lt (by rw [g97]; exact (((fq0_84.keep Kq85).keep Kq86).keep Kq95).lt)
                  have Z97 : n0 ≤ h97.size := Nat.le_trans Z95 E97.1
                  have SZ97 : h0.size ≤ h97.size := Nat.le_trans SZ95 E97.1
                  have hk := Nat.le_trans hk E97.1
                  have F97_rows : Fld Z h97 a97 "com/example/greater_than/greaterthan/page/Page" "rows" "Ljava/util/List;" .null := D97 (Or.inr (own_g hw 146 rfl)) (ty := (.object "java/util/List")) (by decide)
                  have F97_previousCursor : Fld Z h97 a97 "com/example/greater_than/greaterthan/page/Page" "previousCursor" "Ljava/lang/String;" .null := D97 (Or.inr (own_g hw 148 rfl)) (ty := (.object "java/lang/String")) (by decide)
                  have F97_nextCursor : Fld Z h97 a97 "com/example/greater_than/greaterthan/page/Page" "nextCursor" "Ljava/lang/String;" .null := D97 (Or.inr (own_g hw 150 rfl)) (ty := (.object "java/lang/String")) (by decide)
                  refine own_step st97 ?_
                  show own_Ends p e below F (T97.setTop (mkF m 168 A96 [(.ref a97)]))
                  refine own_step (fun _ k => XS.dup X97.here hx rfl (hb hby at_168) rfl rfl k) ?_
                  show own_Ends p e below F (T97.setTop (mkF m 169 A96 [(.ref a97), (.ref a97)]))
                  refine own_step (fun _ k => XS.aload X97.here hx rfl (hb hby at_169) (by rw [hA96]; rfl) rfl k) ?_
                  show own_Ends p e below F (T97.setTop (mkF m 171 A96 [(.ref a29), (.ref a97), (.ref a97)]))
                  refine own_step (fun _ k => XS.aload X97.here hx rfl (hb hby at_171) (by rw [hA96]; rfl) fq0_95 k) ?_
                  show own_Ends p e below F (T97.setTop (mkF m 173 A96 [u95, (.ref a29), (.ref a97), (.ref a97)]))
                  refine own_step (fun _ k => XS.aload X97.here hx rfl (hb hby at_173) (by rw [hA96]; rfl) rfl k) ?_
                  show own_Ends p e below F (T97.setTop (mkF m 175 A96 [(.ref cu), u95, (.ref a29), (.ref a97), (.ref a97)]))
                  obtain ⟨_, _, ⟨T98, L98, k98, n98⟩, -, X98, ⟨Lc98, hQ98, l98, y98, z98⟩, st98⟩ := X97.specialBack hx (y := (⟨"com/example/greater_than/greaterthan/page/Page", "<init>", "(Ljava/util/List;Ljava/lang/String;Ljava/lang/String;)V"⟩ : MethodName)) rfl hown (mvT hZ (own_g hw 61 rfl)) (mvT hZ (own_g hw 62 rfl)) (mvT hZ (own_g hw 63 rfl)) (by decide) (backOf (W := 1) (rm11_2 l Z a0 hw [] a97 a29 c83 kc83 (.ref c82) (.ref c84) u95 (.ref cu) ee ma mu mv mo h97 n0 Z97 A97 ge_a97 F97_rows F97_previousCursor F97_nextCursor (((fq4_85.keep Kq86 nin0).keep Kq95 nin0).ext E97) (((((fq7_83.keep Kq84).keep Kq85).keep Kq86).keep Kq95).ext E97) (Or.inr ⟨_, _, _, rfl, ((((((fq0_82.keep Kq83).keep Kq84).keep Kq85).keep Kq86).keep Kq95).ext E97), (own_g hw 210 rfl)⟩) (Or.inr ⟨_, _, _, rfl, ((((fq0_84.keep Kq85).keep Kq86).keep Kq95).ext E97), (own_g hw 210 rfl)⟩) (((fq0_85.keep Kq86).keep Kq95).ext E97) (((fq2_85.keep Kq86 nin0).keep Kq95 nin0).ext E97) (((fq3_85.keep Kq86 nin0).keep Kq95 nin0).ext E97) (Sta.ext E97 S2_95) M_ma M_mu M_mv M_mo fq0_95 rfl) hZ (own_g hw 63 rfl) (own_g hw 60 rfl) (by decide) (by decide)) (g := (mkF m 175 A96 [(.ref cu), u95, (.ref a29), (.ref a97), (.ref a97)])) rfl (by rw [hml]; show A96.size = _; rw [hA96]; rfl) (Steps.refl _) (a := a97) (argsL := [(.ref a29), u95, (.ref cu)]) (rest := [(.ref a97)]) (lenOf pd__28Ljava_2futil_2fList_3bLjava_2flang_2fString_3bLjava_2flang_2fString_3b_29V rfl) rfl (by show 2 * 0 + _ ≤ _; exact Nat.le_of_eq rfl) (hb hby at_175) (fun _ _ => ⟨rfl, e97, (by decide : 11 + 3 ≤ _), (by decide : 34 + 7 ≤ _)⟩)
                  dsimp only [Pt.U, Pt.locs, Pt.cells, Pt.slots] at X98 l98 y98 z98 st98 hQ98
                  subst l98 y98 z98
                  obtain ⟨rfl, Nq98, Kq98, fq0_98, fq1_98, fq2_98⟩ := hQ98
                  have N98 := Fr.app N95 Nq98
                  have Z98 : n0 ≤ T98.heap.size := Nat.le_trans Z97 Kq98.1
                  have SZ98 : h0.size ≤ T98.heap.size := Nat.le_trans SZ97 Kq98.1
                  have S0_98 := own_Sta_keep (Sta.ext E97 S0_95) Kq98 (allS (own_ns_exa A97) all0)
                  have S1_98 := own_Sta_keep (Sta.ext E97 S1_95) Kq98 (allS (own_ns_exa A97) all0)
                  have S2_98 := own_Sta_keep (Sta.ext E97 S2_95) Kq98 (allS (own_ns_exa A97) all0)
                  have S3_98 := own_Sta_keep (Sta.ext E97 S3_95) Kq98 (allS (own_ns_exa A97) all0)
                  have S4_98 := own_Sta_keep (Sta.ext E97 S4_95) Kq98 (allS (own_ns_exa A97) all0)
                  have hk := Nat.le_trans hk Kq98.1
                  refine own_trans st98 ?_
                  show own_Ends p e below F (T98.setTop (mkF m 178 A96 [(.ref a97)]))
                  obtain ⟨A99, hA99⟩ : ∃ z : Array Slot, z = #[.val (.int p1), .val (.int p2), .val (.int p3), .val (.int p4), .val (.int p5), .val (.int p6), .val (.int z2), .val (.int z7), .val (.int z12), .val (.int z17), .val (.int (2 : Int32)), .val (.int z24), .val (.ref a29), .val (.ref cu), .val u95, .val (.ref a97)] := ⟨_, rfl⟩
                  refine own_step (fun _ k => XS.astore X98.here hx rfl (hb hby at_178) rfl rfl (l' := A99) (by rw [hA96, hA99]; exact rfl) k) ?_
                  show own_Ends p e below F (T98.setTop (mkF m 180 A99 []))
                  refine own_step (fun _ k => XS.aload X98.here hx rfl (hb hby at_180) (by rw [hA99]; rfl) rfl k) ?_
                  show own_Ends p e below F (T98.setTop (mkF m 182 A99 [(.ref a97)]))
                  obtain ⟨cq100, kq100, qa100, qb100, qc100⟩ := isOf (s := (s.setVm T95.vm)) (T := T98) hZ rfl fq0_98
                  obtain ⟨_, _, ⟨T100, L100, k100, n100⟩, -, X100, ⟨Lc100, hQ100, l100, y100, z100⟩, st100⟩ := X98.virtualBack hx (y := (⟨"com/example/greater_than/greaterthan/page/Page", "hasNext", "()Z"⟩ : MethodName)) (z := (⟨"com/example/greater_than/greaterthan/page/Page", "hasNext", "()Z"⟩ : MethodName)) hown (mvT hZ (own_g hw 151 rfl)) (mvT hZ (own_g hw 152 rfl)) (notFace_of_selects (args := #[]) (mvT hZ (own_g hw 154 rfl))) (mvT hZ (own_g hw 154 rfl)) (mvT hZ (own_g hw 153 rfl)) (by decide) (backOf (W := 0) (rm21r l Z a0 hw [] a97 cu T98.heap n0 Z98 fq2_98) hZ (own_g hw 155 rfl) (own_g hw 60 rfl) (by decide) (by decide)) qa100 qc100 (g := (mkF m 182 A99 [(.ref a97)])) rfl (by rw [hml]; show A99.size = _; rw [hA99]; rfl) (Steps.refl _) (argsL := []) (rest := []) (lenOf pd__28_29Z rfl) rfl (by show 2 * 0 + _ ≤ _; exact Nat.le_of_eq rfl) (hb hby at_182) (fun _ _ => ⟨rfl, rfl, (by decide : 14 + 0 ≤ _), (by decide : 41 + 0 ≤ _)⟩)
                  dsimp only [Pt.U, Pt.locs, Pt.cells, Pt.slots] at X100 l100 y100 z100 st100 hQ100
                  subst l100 y100 z100
                  obtain ⟨rfl, Nq100, eq100⟩ := hQ100
                  have N100 := Fr.app N98 Nq100
                  refine own_trans st100 ?_
                  show own_Ends p e below F (T100.setTop (mkF m 185 A99 [(.int (1 : Int32))]))
                  refine own_step (fun _ k => XS.aload X100.here hx rfl (hb hby at_185) (by rw [hA99]; rfl) rfl k) ?_
                  show own_Ends p e below F (T100.setTop (mkF m 187 A99 [(.ref cu), (.int (1 : Int32))]))
                  refine own_step (fun _ k => XS.ifnullNo X100.here hx rfl (hb hby at_187) rfl k) ?_
                  show own_Ends p e below F (T100.setTop (mkF m 190 A99 [(.int (1 : Int32))]))
                  refine own_step (fun _ k => XS.iconst X100.here hx rfl (hb hby at_190) k) ?_
                  show own_Ends p e below F (T100.setTop (mkF m 191 A99 [(.int (1 : Int32)), (.int (1 : Int32))]))
                  refine own_step (fun _ k => XS.goto X100.here hx rfl (pc0 := 191) (pc' := 195) rfl (hb hby at_191) (by decide) (by decide) k) ?_
                  show own_Ends p e below F (T100.setTop (mkF m 195 A99 [(.int (1 : Int32)), (.int (1 : Int32))]))
                  refine own_step (fun _ k => XS.icmpNo X100.here hx rfl (hb hby at_195) rfl (teq (by decide : (1 : Int32) = (1 : Int32))).2 k) ?_
                  show own_Ends p e below F (T100.setTop (mkF m 198 A99 []))
                  refine own_step (fun _ k => XS.iconst X100.here hx rfl (hb hby at_198) k) ?_
                  show own_Ends p e below F (T100.setTop (mkF m 199 A99 [(.int (1 : Int32))]))
                  refine own_step (fun _ k => XS.goto X100.here hx rfl (pc0 := 199) (pc' := 203) rfl (hb hby at_199) (by decide) (by decide) k) ?_
                  show own_Ends p e below F (T100.setTop (mkF m 203 A99 [(.int (1 : Int32))]))
                  rw [hF]
                  exact own_retW X100 hS (by rw [eq100]; exact hk) (v := (some (.int (nar .boolean (1 : Int32))))) (fun h => by rw [Bd.returns] at h; cases h) Bd.notSynchronized (fun fs hr => retN X100 hx (t := .boolean) Bd.returns (by simp) (hb hby at_203) hr) (by decide) (by decide) (by rw [eq100]; exact ⟨rfl, N100⟩)
              · refine own_step (fun _ k => XS.ifNo X30.here hx rfl (hb hby at_93) rfl ((if0 _ _).trans (feq c93_81).1) k) ?_
                show own_Ends p e below F (T30.setTop (mkF m 96 A31 [(.ref a29)]))
                refine own_step (fun _ k => XS.aconstNull X30.here hx rfl (hb hby at_96) k) ?_
                show own_Ends p e below F (T30.setTop (mkF m 97 A31 [.null, (.ref a29)]))
                refine own_step (fun _ k => XS.goto X30.here hx rfl (pc0 := 97) (pc' := 105) rfl (hb hby at_97) (by decide) (by decide) k) ?_
                show own_Ends p e below F (T30.setTop (mkF m 105 A31 [.null, (.ref a29)]))
                obtain ⟨cq101, kq101, qa101, qb101, qc101⟩ := isOf (s := (s.setVm s.vm)) (T := T30) hZ rfl fq0_30
                obtain ⟨_, _, ⟨T101, L101, k101, n101⟩, -, X101, ⟨Lc101, hQ101, l101, y101, z101⟩, st101⟩ := X30.virtualBack hx (y := (⟨"java/util/ArrayList", "add", "(Ljava/lang/Object;)Z"⟩ : MethodName)) (z := (⟨"java/util/ArrayList", "add", "(Ljava/lang/Object;)Z"⟩ : MethodName)) hown (mvT hZ (own_g hw 159 rfl)) (mvT hZ (own_g hw 160 rfl)) (notFace_of_selects (args := #[]) (mvT hZ (own_g hw 162 rfl))) (mvT hZ (own_g hw 162 rfl)) (mvT hZ (own_g hw 161 rfl)) (by decide) (backOf (W := 0) (rm22_0 l Z a0 hw [] a29 dd kd .null T30.heap n0 Z30 fq0_30 ge_a29 fq1_30 fq2_30 fq3_30 (Or.inl rfl) S1_30 ((VD.ext E29).keep Kq30 (ninS ne_dd_a29 nin0))) hZ (own_g hw 163 rfl) (own_g hw 2 rfl) (by decide) (by decide)) qa101 qc101 (g := (mkF m 105 A31 [.null, (.ref a29)])) rfl (by rw [hml]; show A31.size = _; rw [hA31]; rfl) (Steps.refl _) (argsL := [.null]) (rest := []) (lenOf pd__28Ljava_2flang_2fObject_3b_29Z rfl) rfl (by show 2 * 0 + _ ≤ _; exact Nat.le_of_eq rfl) (hb hby at_105) (fun _ _ => ⟨rfl, rfl, (by decide : 1 + 1 ≤ _), (by decide : 3 + 10 ≤ _)⟩)
                dsimp only [Pt.U, Pt.locs, Pt.cells, Pt.slots] at X101 l101 y101 z101 st101 hQ101
                subst l101 y101 z101
                obtain ⟨c101, kc101, rfl, Nq101, Kq101, fq0_101, fq1_101, fq2_101, fq3_101, fq4_101, fq5_101, fq6_101, fq7_101⟩ := hQ101
                have N101 := Fr.app N30 Nq101
                have Z101 : n0 ≤ T101.heap.size := Nat.le_trans Z30 Kq101.1
                have SZ101 : h0.size ≤ T101.heap.size := Nat.le_trans SZ30 Kq101.1
                have S0_101 := own_Sta_keep S0_30 Kq101 (allS (own_ns_exa fq0_30) all0)
                have S1_101 := own_Sta_keep S1_30 Kq101 (allS (own_ns_exa fq0_30) all0)
                have S2_101 := own_Sta_keep S2_30 Kq101 (allS (own_ns_exa fq0_30) all0)
                have S3_101 := own_Sta_keep S3_30 Kq101 (allS (own_ns_exa fq0_30) all0)
                have S4_101 := own_Sta_keep S4_30 Kq101 (allS (own_ns_exa fq0_30) all0)
                have ne_dd_c101 : dd ≠ c101 := Nat.ne_of_lt (Nat.lt_of_lt_of_le (((VD.ext E29).keep Kq30 (ninS ne_dd_a29 nin0))).lt fq0_101)
                have ne_cc_c101 : cc ≠ c101 := Nat.ne_of_lt (Nat.lt_of_lt_of_le (((BC.ext E29).keep Kq30 (ninS ne_cc_a29 nin0))).lt fq0_101)
                have ne_a29_c101 : a29 ≠ c101 := Nat.ne_of_lt (Nat.lt_of_lt_of_le (fq1_30).lt fq0_101)
                have ge_c101 : n0 ≤ c101 := Nat.le_trans Z30 fq0_101
                have sz_c101 : h0.size ≤ c101 := Nat.le_trans SZ30 fq0_101
                have hk := Nat.le_trans hk Kq101.1
                refine own_trans st101 ?_
                show own_Ends p e below F (T101.setTop (mkF m 108 A31 [(.int (1 : Int32))]))
                refine own_step (fun _ k => XS.pop X101.here hx rfl (hb hby at_108) rfl rfl k) ?_
                show own_Ends p e below F (T101.setTop (mkF m 109 A31 []))
                refine own_step (fun _ k => XS.iload X101.here hx rfl (hb hby at_109) (by rw [hA31]; rfl) k) ?_
                show own_Ends p e below F (T101.setTop (mkF m 111 A31 [(.int (2 : Int32))]))
                refine own_step (fun _ k => XS.iconst X101.here hx rfl (hb hby at_111) k) ?_
                show own_Ends p e below F (T101.setTop (mkF m 112 A31 [(.int (2 : Int32)), (.int (2 : Int32))]))
                refine own_step (fun _ k => XS.icmpNo X101.here hx rfl (hb hby at_112) rfl (flt (by decide : ¬ ((2 : Int32) < (2 : Int32)))).1 k) ?_
                show own_Ends p e below F (T101.setTop (mkF m 115 A31 []))
                refine own_step (fun _ k => XS.aload X101.here hx rfl (hb hby at_115) (by rw [hA31]; rfl) rfl k) ?_
                show own_Ends p e below F (T101.setTop (mkF m 117 A31 [(.ref a29)]))
                refine own_step (fun _ k => XS.iload X101.here hx rfl (hb hby at_117) (by rw [hA31]; rfl) k) ?_
                show own_Ends p e below F (T101.setTop (mkF m 119 A31 [(.int p6), (.ref a29)]))
                obtain ⟨_, _, ⟨T102, L102, k102, n102⟩, -, X102, ⟨Lc102, hQ102, l102, y102, z102⟩, st102⟩ := Jvm.LawKit.callS X101 hx (y := (⟨"java/lang/Integer", "valueOf", "(I)Ljava/lang/Integer;"⟩ : MethodName)) hown (mvT hZ (own_g hw 189 rfl)) (mvT hZ (own_g hw 190 rfl)) (mvT hZ (own_g hw 191 rfl)) (mvT hZ (own_g hw 192 rfl)) (by decide) (backOf (W := 1) (rm27 l Z a0 hw [] p6 cc T101.heap n0 Z101 S3_101 S4_101 (((BC.ext E29).keep Kq30 (ninS ne_cc_a29 nin0)).keep Kq101 (ninS ne_cc_a29 nin0))) hZ (own_g hw 192 rfl) (own_g hw 191 rfl) (by decide) (by decide)) (g := (mkF m 119 A31 [(.int p6), (.ref a29)])) rfl (by rw [hml]; show A31.size = _; rw [hA31]; rfl) (argsL := [(.int p6)]) (rest := [(.ref a29)]) (lenOf pd__28I_29Ljava_2flang_2fInteger_3b rfl) rfl (by show 2 * 0 + _ ≤ _; exact Nat.le_of_eq rfl) (hb hby at_119) (fun _ _ => ⟨rfl, rfl, (by decide : 2 + 1 ≤ _), (by decide : 13 + 1 ≤ _)⟩)
                dsimp only [Pt.U, Pt.locs, Pt.cells, Pt.slots] at X102 l102 y102 z102 st102 hQ102
                subst l102 y102 z102
                obtain ⟨c102, rfl, Nq102, Kq102, fq0_102⟩ := hQ102
                have N102 := Fr.app N101 Nq102
                have Z102 : n0 ≤ T102.heap.size := Nat.le_trans Z101 Kq102.1
                have SZ102 : h0.size ≤ T102.heap.size := Nat.le_trans SZ101 Kq102.1
                have S0_102 := own_Sta_keep S0_101 Kq102 all0
                have S1_102 := own_Sta_keep S1_101 Kq102 all0
                have S2_102 := own_Sta_keep S2_101 Kq102 all0
                have S3_102 := own_Sta_keep S3_101 Kq102 all0
                have S4_102 := own_Sta_keep S4_101 Kq102 all0
                have hk := Nat.le_trans hk Kq102.1
                refine own_step st102 ?_
                show own_Ends p e below F (T102.setTop (mkF m 122 A31 [(.ref c102), (.ref a29)]))
                obtain ⟨cq103, kq103, qa103, qb103, qc103⟩ := isOf (s := (s.setVm s.vm)) (T := T102) hZ rfl (fq1_101.keep Kq102)
                obtain ⟨_, _, ⟨T103, L103, k103, n103⟩, -, X103, ⟨Lc103, hQ103, l103, y103, z103⟩, st103⟩ := X102.virtualBack hx (y := (⟨"java/util/ArrayList", "add", "(Ljava/lang/Object;)Z"⟩ : MethodName)) (z := (⟨"java/util/ArrayList", "add", "(Ljava/lang/Object;)Z"⟩ : MethodName)) hown (mvT hZ (own_g hw 159 rfl)) (mvT hZ (own_g hw 160 rfl)) (notFace_of_selects (args := #[]) (mvT hZ (own_g hw 162 rfl))) (mvT hZ (own_g hw 162 rfl)) (mvT hZ (own_g hw 161 rfl)) (by decide) (backOf (W := 0) (rm22_1 l Z a0 hw [] a29 c101 kc101 (.ref c102) .null T102.heap n0 Z102 (fq1_101.keep Kq102) ge_a29 (fq2_101.keep Kq102 nin0) (fq3_101.keep Kq102 nin0) (fq4_101.keep Kq102 nin0) (Or.inr ⟨_, _, _, rfl, fq0_102, (own_g hw 210 rfl)⟩) (fq5_101.keep Kq102 nin0) fq6_101 ge_c101) hZ (own_g hw 163 rfl) (own_g hw 2 rfl) (by decide) (by decide)) qa103 qc103 (g := (mkF m 122 A31 [(.ref c102), (.ref a29)])) rfl (by rw [hml]; show A31.size = _; rw [hA31]; rfl) (Steps.refl _) (argsL := [(.ref c102)]) (rest := []) (lenOf pd__28Ljava_2flang_2fObject_3b_29Z rfl) rfl (by show 2 * 0 + _ ≤ _; exact Nat.le_of_eq rfl) (hb hby at_122) (fun _ _ => ⟨rfl, rfl, (by decide : 3 + 0 ≤ _), (by decide : 14 + 0 ≤ _)⟩)
                dsimp only [Pt.U, Pt.locs, Pt.cells, Pt.slots] at X103 l103 y103 z103 st103 hQ103
                subst l103 y103 z103
                obtain ⟨rfl, Nq103, Kq103, fq0_103, fq1_103, fq2_103, fq3_103, fq4_103⟩ := hQ103
                have N103 := Fr.app N102 Nq103
                have Z103 : n0 ≤ T103.heap.size := Nat.le_trans Z102 Kq103.1
                have SZ103 : h0.size ≤ T103.heap.size := Nat.le_trans SZ102 Kq103.1
                have S0_103 := own_Sta_keep S0_102 Kq103 (allS (own_ns_exa (fq1_101.keep Kq102)) (allS (own_ns_exa (fq7_101.keep Kq102)) all0))
                have S1_103 := own_Sta_keep S1_102 Kq103 (allS (own_ns_exa (fq1_101.keep Kq102)) (allS (own_ns_exa (fq7_101.keep Kq102)) all0))
                have S2_103 := own_Sta_keep S2_102 Kq103 (allS (own_ns_exa (fq1_101.keep Kq102)) (allS (own_ns_exa (fq7_101.keep Kq102)) all0))
                have S3_103 := own_Sta_keep S3_102 Kq103 (allS (own_ns_exa (fq1_101.keep Kq102)) (allS (own_ns_exa (fq7_101.keep Kq102)) all0))
                have S4_103 := own_Sta_keep S4_102 Kq103 (allS (own_ns_exa (fq1_101.keep Kq102)) (allS (own_ns_exa (fq7_101.keep Kq102)) all0))
                have hk := Nat.le_trans hk Kq103.1
                refine own_trans st103 ?_
                show own_Ends p e below F (T103.setTop (mkF m 125 A31 [(.int (1 : Int32))]))
                refine own_step (fun _ k => XS.pop X103.here hx rfl (hb hby at_125) rfl rfl k) ?_
                show own_Ends p e below F (T103.setTop (mkF m 126 A31 []))
                refine own_step (fun _ k => XS.iload X103.here hx rfl (hb hby at_126) (by rw [hA31]; rfl) k) ?_
                show own_Ends p e below F (T103.setTop (mkF m 128 A31 [(.int (2 : Int32))]))
                refine own_step (fun _ k => XS.iconst X103.here hx rfl (hb hby at_128) k) ?_
                show own_Ends p e below F (T103.setTop (mkF m 129 A31 [(.int (3 : Int32)), (.int (2 : Int32))]))
                refine own_step (fun _ k => XS.icmpYes X103.here hx rfl (pc0 := 129) (pc' := 142) rfl (hb hby at_129) rfl (tlt (by decide : (2 : Int32) < (3 : Int32))).1 (by decide) (by decide) k) ?_
                show own_Ends p e below F (T103.setTop (mkF m 142 A31 []))
                refine own_step (fun _ k => XS.iload X103.here hx rfl (hb hby at_142) (by rw [hA31]; rfl) k) ?_
                show own_Ends p e below F (T103.setTop (mkF m 144 A31 [(.int z2)]))
                refine own_step (fun _ k => XS.iload X103.here hx rfl (hb hby at_144) (by rw [hA31]; rfl) k) ?_
                show own_Ends p e below F (T103.setTop (mkF m 146 A31 [(.int z12), (.int z2)]))
                refine own_step (fun _ k => XS.iloadN X103.here hx rfl (hb hby at_146) (by rw [hA31]; rfl) k) ?_
                show own_Ends p e below F (T103.setTop (mkF m 147 A31 [(.int p2), (.int z12), (.int z2)]))
                refine own_step (fun _ k => XS.iloadN X103.here hx rfl (hb hby at_147) (by rw [hA31]; rfl) k) ?_
                show own_Ends p e below F (T103.setTop (mkF m 148 A31 [(.int p3), (.int p2), (.int z12), (.int z2)]))
                obtain ⟨_, _, ⟨T104, L104, k104, n104⟩, -, X104, hS104, gr104, ⟨Lc104, hQ104, l104, y104, z104⟩, st104⟩ := callSS X103 hx (y := (⟨"com/example/greater_than/greaterthan/page/PageHasNextPinLaw", "cursor", "(ZZII)Ljava/lang/String;"⟩ : MethodName)) hown (mvT hZ (own_g hw 26 rfl)) (mvT hZ (own_g hw 27 rfl)) (mvT hZ (own_g hw 28 rfl)) (mvT hZ (own_g hw 29 rfl)) (by decide) (backOfS (W := 0) (rm5 l Z a0 hw [] z2 z12 p2 p3 zc T103.heap n0 Z103 S0_103 hz) hZ (own_g hw 29 rfl) (own_g hw 28 rfl) (by decide) (by decide)) (g := (mkF m 148 A31 [(.int p3), (.int p2), (.int z12), (.int z2)])) rfl (by rw [hml]; show A31.size = _; rw [hA31]; rfl) (argsL := [(.int z2), (.int z12), (.int p2), (.int p3)]) (rest := []) (lenOf pd__28ZZII_29Ljava_2flang_2fString_3b rfl) rfl (by show 2 * 0 + _ ≤ _; exact Nat.le_of_eq rfl) (hb hby at_148) (fun _ _ => ⟨rfl, rfl, (by decide : 3 + 3 ≤ _), (by decide : 14 + 8 ≤ _)⟩)
                dsimp only [Pt.U, Pt.locs, Pt.cells, Pt.slots] at X104 l104 y104 z104 st104 hQ104 hS104 gr104
                subst l104 y104 z104
                obtain ⟨u104, rfl, Nq104, Kq104, fq0_104⟩ := hQ104
                have N104 := Fr.app N103 Nq104
                have Z104 : n0 ≤ T104.heap.size := Nat.le_trans Z103 Kq104.1
                have SZ104 : h0.size ≤ T104.heap.size := Nat.le_trans SZ103 Kq104.1
                have S0_104 := own_Sta_keep S0_103 Kq104 all0
                have S1_104 := own_Sta_keep S1_103 Kq104 all0
                have S2_104 := own_Sta_keep S2_103 Kq104 all0
                have S3_104 := own_Sta_keep S3_103 Kq104 all0
                have S4_104 := own_Sta_keep S4_103 Kq104 all0
                have hZ := own_warm hZ hS104
                have hown := own_find hown hS104
                have hS := foldS hS (by exact hk) hS104 gr104
                have hk := Nat.le_refl T104.heap.size
                refine own_trans st104 ?_
                show own_Ends p e below F (T104.setTop (mkF m 151 A31 [u104]))
                rcases ref_cases fq0_104 with rfl | ⟨cu, rfl⟩
                · show own_Ends p e below F (T104.setTop (mkF m 151 A31 [.null]))
                  obtain ⟨A105, hA105⟩ : ∃ z : Array Slot, z = #[.val (.int p1), .val (.int p2), .val (.int p3), .val (.int p4), .val (.int p5), .val (.int p6), .val (.int z2), .val (.int z7), .val (.int z12), .val (.int z17), .val (.int (2 : Int32)), .val (.int z24), .val (.ref a29), .val .null, .unset, .unset] := ⟨_, rfl⟩
                  refine own_step (fun _ k => XS.astore X104.here hx rfl (hb hby at_151) rfl rfl (l' := A105) (by rw [hA31, hA105]; exact rfl) k) ?_
                  show own_Ends p e below F (T104.setTop (mkF m 153 A105 []))
                  refine own_step (fun _ k => XS.iload X104.here hx rfl (hb hby at_153) (by rw [hA105]; rfl) k) ?_
                  show own_Ends p e below F (T104.setTop (mkF m 155 A105 [(.int z7)]))
                  refine own_step (fun _ k => XS.iload X104.here hx rfl (hb hby at_155) (by rw [hA105]; rfl) k) ?_
                  show own_Ends p e below F (T104.setTop (mkF m 157 A105 [(.int z17), (.int z7)]))
                  refine own_step (fun _ k => XS.iloadN X104.here hx rfl (hb hby at_157) (by rw [hA105]; rfl) k) ?_
                  show own_Ends p e below F (T104.setTop (mkF m 158 A105 [(.int p4), (.int z17), (.int z7)]))
                  refine own_step (fun _ k => XS.iload X104.here hx rfl (hb hby at_158) (by rw [hA105]; rfl) k) ?_
                  show own_Ends p e below F (T104.setTop (mkF m 160 A105 [(.int p5), (.int p4), (.int z17), (.int z7)]))
                  obtain ⟨_, _, ⟨T106, L106, k106, n106⟩, -, X106, hS106, gr106, ⟨Lc106, hQ106, l106, y106, z106⟩, st106⟩ := callSS X104 hx (y := (⟨"com/example/greater_than/greaterthan/page/PageHasNextPinLaw", "cursor", "(ZZII)Ljava/lang/String;"⟩ : MethodName)) hown (mvT hZ (own_g hw 26 rfl)) (mvT hZ (own_g hw 27 rfl)) (mvT hZ (own_g hw 28 rfl)) (mvT hZ (own_g hw 29 rfl)) (by decide) (backOfS (W := 0) (rm5 l Z a0 hw [] z7 z17 p4 p5 zc T104.heap n0 Z104 S0_104 hz) hZ (own_g hw 29 rfl) (own_g hw 28 rfl) (by decide) (by decide)) (g := (mkF m 160 A105 [(.int p5), (.int p4), (.int z17), (.int z7)])) rfl (by rw [hml]; show A105.size = _; rw [hA105]; rfl) (argsL := [(.int z7), (.int z17), (.int p4), (.int p5)]) (rest := []) (lenOf pd__28ZZII_29Ljava_2flang_2fString_3b rfl) rfl (by show 2 * 0 + _ ≤ _; exact Nat.le_of_eq rfl) (hb hby at_160) (fun _ _ => ⟨rfl, rfl, (by decide : 6 + 3 ≤ _), (by decide : 22 + 8 ≤ _)⟩)
                  dsimp only [Pt.U, Pt.locs, Pt.cells, Pt.slots] at X106 l106 y106 z106 st106 hQ106 hS106 gr106
                  subst l106 y106 z106
                  obtain ⟨u106, rfl, Nq106, Kq106, fq0_106⟩ := hQ106
                  have N106 := Fr.app N104 Nq106
                  have Z106 : n0 ≤ T106.heap.size := Nat.le_trans Z104 Kq106.1
                  have SZ106 : h0.size ≤ T106.heap.size := Nat.le_trans SZ104 Kq106.1
                  have S0_106 := own_Sta_keep S0_104 Kq106 all0
                  have S1_106 := own_Sta_keep S1_104 Kq106 all0
                  have S2_106 := own_Sta_keep S2_104 Kq106 all0
                  have S3_106 := own_Sta_keep S3_104 Kq106 all0
                  have S4_106 := own_Sta_keep S4_104 Kq106 all0
                  have hZ := own_warm hZ hS106
                  have hown := own_find hown hS106
                  have hS := foldS hS (by exact hk) hS106 gr106
                  have hk := Nat.le_refl T106.heap.size
                  refine own_trans st106 ?_
                  show own_Ends p e below F (T106.setTop (mkF m 163 A105 [u106]))
                  obtain ⟨A107, hA107⟩ : ∃ z : Array Slot, z = #[.val (.int p1), .val (.int p2), .val (.int p3), .val (.int p4), .val (.int p5), .val (.int p6), .val (.int z2), .val (.int z7), .val (.int z12), .val (.int z17), .val (.int (2 : Int32)), .val (.int z24), .val (.ref a29), .val .null, .val u106, .unset] := ⟨_, rfl⟩
                  refine own_step (fun _ k => XS.astore X106.here hx rfl (hb hby at_163) rfl fq0_106 (l' := A107) (by rw [hA105, hA107]; exact (XS.store1 (o := .unset) rfl (Or.inl rfl) (own_catR fq0_106))) k) ?_
                  show own_Ends p e below F (T106.setTop (mkF m 165 A107 []))
                  obtain ⟨T108, h108, X108, e108, E108, A108, D108, -, st108⟩ := newO X106 hx hZ hown (own_g hw 58 rfl) (own_g hw 59 rfl) (own_g hw 60 rfl) rfl (g := (mkF m 165 A107 [])) rfl (hb hby at_165) (by decide) (by decide)
                  obtain ⟨a108, g108⟩ : ∃ z, z = T106.heap.size := ⟨_, rfl⟩
                  rw [← g108] at A108 D108 st108
                  have ge_a108 : n0 ≤ a108 := Nat.le_trans Z106 (Nat.le_of_eq g108.symm)
                  have sz_a108 : h0.size ≤ a108 := Nat.le_trans SZ106 (Nat.le_of_eq g108.symm)
                  have ne_dd_a108 : dd ≠ a108 := Nat.ne_of_lt (by rw [g108]; exact (((((((VD.ext E29).keep Kq30 (ninS ne_dd_a29 nin0)).keep Kq101 (ninS ne_dd_a29 nin0)).keep Kq102 nin0).keep Kq103 (ninS ne_dd_a29 (ninS ne_dd_c101 nin0))).keep Kq104 nin0).keep Kq106 nin0).lt)
                  have ne_cc_a108 : cc ≠ a108 := Nat.ne_of_lt (by rw [g108]; exact (((((((BC.ext E29).keep Kq30 (ninS ne_cc_a29 nin0)).keep Kq101 (ninS ne_cc_a29 nin0)).keep Kq102 nin0).keep Kq103 (ninS ne_cc_a29 (ninS ne_cc_c101 nin0))).keep Kq104 nin0).keep Kq106 nin0).lt)
                  have ne_a29_a108 : a29 ≠ a108 := Nat.ne_of_lt (by rw [g108]; exact ((fq1_103.keep Kq104 nin0).keep Kq106 nin0).lt)
                  have ne_c101_a108 : c101 ≠ a108 := Nat.ne_of_lt (by rw [g108]; exact ((fq4_103.keep Kq104 nin0).keep Kq106 nin0).lt)
                  have ne_c102_a108 : c102 ≠ a108 := Nat.ne_of_lt (by rw [g108]; exact (((fq0_102.keep Kq103).keep Kq104).keep Kq106).lt)
                  have Z108 : n0 ≤ h108.size := Nat.le_trans Z106 E108.1
                  have SZ108 : h0.size ≤ h108.size := Nat.le_trans SZ106 E108.1
                  have hk := Nat.le_trans hk E108.1
                  have F108_rows : Fld Z h108 a108 "com/example/greater_than/greaterthan/page/Page" "rows" "Ljava/util/List;" .null := D108 (Or.inr (own_g hw 146 rfl)) (ty := (.object "java/util/List")) (by decide)
                  have F108_previousCursor : Fld Z h108 a108 "com/example/greater_than/greaterthan/page/Page" "previousCursor" "Ljava/lang/String;" .null := D108 (Or.inr (own_g hw 148 rfl)) (ty := (.object "java/lang/String")) (by decide)
                  have F108_nextCursor : Fld Z h108 a108 "com/example/greater_than/greaterthan/page/Page" "nextCursor" "Ljava/lang/String;" .null := D108 (Or.inr (own_g hw 150 rfl)) (ty := (.object "java/lang/String")) (by decide)
                  refine own_step st108 ?_
                  show own_Ends p e below F (T108.setTop (mkF m 168 A107 [(.ref a108)]))
                  refine own_step (fun _ k => XS.dup X108.here hx rfl (hb hby at_168) rfl rfl k) ?_
                  show own_Ends p e below F (T108.setTop (mkF m 169 A107 [(.ref a108), (.ref a108)]))
                  refine own_step (fun _ k => XS.aload X108.here hx rfl (hb hby at_169) (by rw [hA107]; rfl) rfl k) ?_
                  show own_Ends p e below F (T108.setTop (mkF m 171 A107 [(.ref a29), (.ref a108), (.ref a108)]))
                  refine own_step (fun _ k => XS.aload X108.here hx rfl (hb hby at_171) (by rw [hA107]; rfl) fq0_106 k) ?_
                  show own_Ends p e below F (T108.setTop (mkF m 173 A107 [u106, (.ref a29), (.ref a108), (.ref a108)]))
                  refine own_step (fun _ k => XS.aload X108.here hx rfl (hb hby at_173) (by rw [hA107]; rfl) rfl k) ?_
                  show own_Ends p e below F (T108.setTop (mkF m 175 A107 [.null, u106, (.ref a29), (.ref a108), (.ref a108)]))
                  obtain ⟨_, _, ⟨T109, L109, k109, n109⟩, -, X109, ⟨Lc109, hQ109, l109, y109, z109⟩, st109⟩ := X108.specialBack hx (y := (⟨"com/example/greater_than/greaterthan/page/Page", "<init>", "(Ljava/util/List;Ljava/lang/String;Ljava/lang/String;)V"⟩ : MethodName)) rfl hown (mvT hZ (own_g hw 61 rfl)) (mvT hZ (own_g hw 62 rfl)) (mvT hZ (own_g hw 63 rfl)) (by decide) (backOf (W := 1) (rm11_2 l Z a0 hw [] a108 a29 c101 kc101 .null (.ref c102) u106 .null ee ma mu mv mo h108 n0 Z108 A108 ge_a108 F108_rows F108_previousCursor F108_nextCursor (((fq4_103.keep Kq104 nin0).keep Kq106 nin0).ext E108) (((((fq7_101.keep Kq102).keep Kq103).keep Kq104).keep Kq106).ext E108) (Or.inl rfl) (Or.inr ⟨_, _, _, rfl, ((((fq0_102.keep Kq103).keep Kq104).keep Kq106).ext E108), (own_g hw 210 rfl)⟩) (((fq0_103.keep Kq104).keep Kq106).ext E108) (((fq2_103.keep Kq104 nin0).keep Kq106 nin0).ext E108) (((fq3_103.keep Kq104 nin0).keep Kq106 nin0).ext E108) (Sta.ext E108 S2_106) M_ma M_mu M_mv M_mo fq0_106 rfl) hZ (own_g hw 63 rfl) (own_g hw 60 rfl) (by decide) (by decide)) (g := (mkF m 175 A107 [.null, u106, (.ref a29), (.ref a108), (.ref a108)])) rfl (by rw [hml]; show A107.size = _; rw [hA107]; rfl) (Steps.refl _) (a := a108) (argsL := [(.ref a29), u106, .null]) (rest := [(.ref a108)]) (lenOf pd__28Ljava_2futil_2fList_3bLjava_2flang_2fString_3bLjava_2flang_2fString_3b_29V rfl) rfl (by show 2 * 0 + _ ≤ _; exact Nat.le_of_eq rfl) (hb hby at_175) (fun _ _ => ⟨rfl, e108, (by decide : 10 + 3 ≤ _), (by decide : 33 + 7 ≤ _)⟩)
                  dsimp only [Pt.U, Pt.locs, Pt.cells, Pt.slots] at X109 l109 y109 z109 st109 hQ109
                  subst l109 y109 z109
                  obtain ⟨rfl, Nq109, Kq109, fq0_109, fq1_109, fq2_109⟩ := hQ109
                  have N109 := Fr.app N106 Nq109
                  have Z109 : n0 ≤ T109.heap.size := Nat.le_trans Z108 Kq109.1
                  have SZ109 : h0.size ≤ T109.heap.size := Nat.le_trans SZ108 Kq109.1
                  have S0_109 := own_Sta_keep (Sta.ext E108 S0_106) Kq109 (allS (own_ns_exa A108) all0)
                  have S1_109 := own_Sta_keep (Sta.ext E108 S1_106) Kq109 (allS (own_ns_exa A108) all0)
                  have S2_109 := own_Sta_keep (Sta.ext E108 S2_106) Kq109 (allS (own_ns_exa A108) all0)
                  have S3_109 := own_Sta_keep (Sta.ext E108 S3_106) Kq109 (allS (own_ns_exa A108) all0)
                  have S4_109 := own_Sta_keep (Sta.ext E108 S4_106) Kq109 (allS (own_ns_exa A108) all0)
                  have hk := Nat.le_trans hk Kq109.1
                  refine own_trans st109 ?_
                  show own_Ends p e below F (T109.setTop (mkF m 178 A107 [(.ref a108)]))
                  obtain ⟨A110, hA110⟩ : ∃ z : Array Slot, z = #[.val (.int p1), .val (.int p2), .val (.int p3), .val (.int p4), .val (.int p5), .val (.int p6), .val (.int z2), .val (.int z7), .val (.int z12), .val (.int z17), .val (.int (2 : Int32)), .val (.int z24), .val (.ref a29), .val .null, .val u106, .val (.ref a108)] := ⟨_, rfl⟩
                  refine own_step (fun _ k => XS.astore X109.here hx rfl (hb hby at_178) rfl rfl (l' := A110) (by rw [hA107, hA110]; exact rfl) k) ?_
                  show own_Ends p e below F (T109.setTop (mkF m 180 A110 []))
                  refine own_step (fun _ k => XS.aload X109.here hx rfl (hb hby at_180) (by rw [hA110]; rfl) rfl k) ?_
                  show own_Ends p e below F (T109.setTop (mkF m 182 A110 [(.ref a108)]))
                  obtain ⟨cq111, kq111, qa111, qb111, qc111⟩ := isOf (s := (s.setVm T106.vm)) (T := T109) hZ rfl fq0_109
                  obtain ⟨_, _, ⟨T111, L111, k111, n111⟩, -, X111, ⟨Lc111, hQ111, l111, y111, z111⟩, st111⟩ := X109.virtualBack hx (y := (⟨"com/example/greater_than/greaterthan/page/Page", "hasNext", "()Z"⟩ : MethodName)) (z := (⟨"com/example/greater_than/greaterthan/page/Page", "hasNext", "()Z"⟩ : MethodName)) hown (mvT hZ (own_g hw 151 rfl)) (mvT hZ (own_g hw 152 rfl)) (notFace_of_selects (args := #[]) (mvT hZ (own_g hw 154 rfl))) (mvT hZ (own_g hw 154 rfl)) (mvT hZ (own_g hw 153 rfl)) (by decide) (backOf (W := 0) (rm21n l Z a0 hw [] a108 T109.heap n0 Z109 fq2_109) hZ (own_g hw 155 rfl) (own_g hw 60 rfl) (by decide) (by decide)) qa111 qc111 (g := (mkF m 182 A110 [(.ref a108)])) rfl (by rw [hml]; show A110.size = _; rw [hA110]; rfl) (Steps.refl _) (argsL := []) (rest := []) (lenOf pd__28_29Z rfl) rfl (by show 2 * 0 + _ ≤ _; exact Nat.le_of_eq rfl) (hb hby at_182) (fun _ _ => ⟨rfl, rfl, (by decide : 13 + 0 ≤ _), (by decide : 40 + 0 ≤ _)⟩)
                  dsimp only [Pt.U, Pt.locs, Pt.cells, Pt.slots] at X111 l111 y111 z111 st111 hQ111
                  subst l111 y111 z111
                  obtain ⟨rfl, Nq111, eq111⟩ := hQ111
                  have N111 := Fr.app N109 Nq111
                  refine own_trans st111 ?_
                  show own_Ends p e below F (T111.setTop (mkF m 185 A110 [(.int (0 : Int32))]))
                  refine own_step (fun _ k => XS.aload X111.here hx rfl (hb hby at_185) (by rw [hA110]; rfl) rfl k) ?_
                  show own_Ends p e below F (T111.setTop (mkF m 187 A110 [.null, (.int (0 : Int32))]))
                  refine own_step (fun _ k => XS.ifnullYes X111.here hx rfl (pc0 := 187) (pc' := 194) rfl (hb hby at_187) rfl (by decide) (by decide) k) ?_
                  show own_Ends p e below F (T111.setTop (mkF m 194 A110 [(.int (0 : Int32))]))
                  refine own_step (fun _ k => XS.iconst X111.here hx rfl (hb hby at_194) k) ?_
                  show own_Ends p e below F (T111.setTop (mkF m 195 A110 [(.int (0 : Int32)), (.int (0 : Int32))]))
                  refine own_step (fun _ k => XS.icmpNo X111.here hx rfl (hb hby at_195) rfl (teq (by decide : (0 : Int32) = (0 : Int32))).2 k) ?_
                  show own_Ends p e below F (T111.setTop (mkF m 198 A110 []))
                  refine own_step (fun _ k => XS.iconst X111.here hx rfl (hb hby at_198) k) ?_
                  show own_Ends p e below F (T111.setTop (mkF m 199 A110 [(.int (1 : Int32))]))
                  refine own_step (fun _ k => XS.goto X111.here hx rfl (pc0 := 199) (pc' := 203) rfl (hb hby at_199) (by decide) (by decide) k) ?_
                  show own_Ends p e below F (T111.setTop (mkF m 203 A110 [(.int (1 : Int32))]))
                  rw [hF]
                  exact own_retW X111 hS (by rw [eq111]; exact hk) (v := (some (.int (nar .boolean (1 : Int32))))) (fun h => by rw [Bd.returns] at h; cases h) Bd.notSynchronized (fun fs hr => retN X111 hx (t := .boolean) Bd.returns (by simp) (hb hby at_203) hr) (by decide) (by decide) (by rw [eq111]; exact ⟨rfl, N111⟩)
                · show own_Ends p e below F (T104.setTop (mkF m 151 A31 [(.ref cu)]))
                  obtain ⟨A112, hA112⟩ : ∃ z : Array Slot, z = #[.val (.int p1), .val (.int p2), .val (.int p3), .val (.int p4), .val (.int p5), .val (.int p6), .val (.int z2), .val (.int z7), .val (.int z12), .val (.int z17), .val (.int (2 : Int32)), .val (.int z24), .val (.ref a29), .val (.ref cu), .unset, .unset] := ⟨_, rfl⟩
                  refine own_step (fun _ k => XS.astore X104.here hx rfl (hb hby at_151) rfl rfl (l' := A112) (by rw [hA31, hA112]; exact rfl) k) ?_
                  show own_Ends p e below F (T104.setTop (mkF m 153 A112 []))
                  refine own_step (fun _ k => XS.iload X104.here hx rfl (hb hby at_153) (by rw [hA112]; rfl) k) ?_
                  show own_Ends p e below F (T104.setTop (mkF m 155 A112 [(.int z7)]))
                  refine own_step (fun _ k => XS.iload X104.here hx rfl (hb hby at_155) (by rw [hA112]; rfl) k) ?_
                  show own_Ends p e below F (T104.setTop (mkF m 157 A112 [(.int z17), (.int z7)]))
                  refine own_step (fun _ k => XS.iloadN X104.here hx rfl (hb hby at_157) (by rw [hA112]; rfl) k) ?_
                  show own_Ends p e below F (T104.setTop (mkF m 158 A112 [(.int p4), (.int z17), (.int z7)]))
                  refine own_step (fun _ k => XS.iload X104.here hx rfl (hb hby at_158) (by rw [hA112]; rfl) k) ?_
                  show own_Ends p e below F (T104.setTop (mkF m 160 A112 [(.int p5), (.int p4), (.int z17), (.int z7)]))
                  obtain ⟨_, _, ⟨T113, L113, k113, n113⟩, -, X113, hS113, gr113, ⟨Lc113, hQ113, l113, y113, z113⟩, st113⟩ := callSS X104 hx (y := (⟨"com/example/greater_than/greaterthan/page/PageHasNextPinLaw", "cursor", "(ZZII)Ljava/lang/String;"⟩ : MethodName)) hown (mvT hZ (own_g hw 26 rfl)) (mvT hZ (own_g hw 27 rfl)) (mvT hZ (own_g hw 28 rfl)) (mvT hZ (own_g hw 29 rfl)) (by decide) (backOfS (W := 0) (rm5 l Z a0 hw [] z7 z17 p4 p5 zc T104.heap n0 Z104 S0_104 hz) hZ (own_g hw 29 rfl) (own_g hw 28 rfl) (by decide) (by decide)) (g := (mkF m 160 A112 [(.int p5), (.int p4), (.int z17), (.int z7)])) rfl (by rw [hml]; show A112.size = _; rw [hA112]; rfl) (argsL := [(.int z7), (.int z17), (.int p4), (.int p5)]) (rest := []) (lenOf pd__28ZZII_29Ljava_2flang_2fString_3b rfl) rfl (by show 2 * 0 + _ ≤ _; exact Nat.le_of_eq rfl) (hb hby at_160) (fun _ _ => ⟨rfl, rfl, (by decide : 6 + 3 ≤ _), (by decide : 22 + 8 ≤ _)⟩)
                  dsimp only [Pt.U, Pt.locs, Pt.cells, Pt.slots] at X113 l113 y113 z113 st113 hQ113 hS113 gr113
                  subst l113 y113 z113
                  obtain ⟨u113, rfl, Nq113, Kq113, fq0_113⟩ := hQ113
                  have N113 := Fr.app N104 Nq113
                  have Z113 : n0 ≤ T113.heap.size := Nat.le_trans Z104 Kq113.1
                  have SZ113 : h0.size ≤ T113.heap.size := Nat.le_trans SZ104 Kq113.1
                  have S0_113 := own_Sta_keep S0_104 Kq113 all0
                  have S1_113 := own_Sta_keep S1_104 Kq113 all0
                  have S2_113 := own_Sta_keep S2_104 Kq113 all0
                  have S3_113 := own_Sta_keep S3_104 Kq113 all0
                  have S4_113 := own_Sta_keep S4_104 Kq113 all0
                  have hZ := own_warm hZ hS113
                  have hown := own_find hown hS113
                  have hS := foldS hS (by exact hk) hS113 gr113
                  have hk := Nat.le_refl T113.heap.size
                  refine own_trans st113 ?_
                  show own_Ends p e below F (T113.setTop (mkF m 163 A112 [u113]))
                  obtain ⟨A114, hA114⟩ : ∃ z : Array Slot, z = #[.val (.int p1), .val (.int p2), .val (.int p3), .val (.int p4), .val (.int p5), .val (.int p6), .val (.int z2), .val (.int z7), .val (.int z12), .val (.int z17), .val (.int (2 : Int32)), .val (.int z24), .val (.ref a29), .val (.ref cu), .val u113, .unset] := ⟨_, rfl⟩
                  refine own_step (fun _ k => XS.astore X113.here hx rfl (hb hby at_163) rfl fq0_113 (l' := A114) (by rw [hA112, hA114]; exact (XS.store1 (o := .unset) rfl (Or.inl rfl) (own_catR fq0_113))) k) ?_
                  show own_Ends p e below F (T113.setTop (mkF m 165 A114 []))
                  obtain ⟨T115, h115, X115, e115, E115, A115, D115, -, st115⟩ := newO X113 hx hZ hown (own_g hw 58 rfl) (own_g hw 59 rfl) (own_g hw 60 rfl) rfl (g := (mkF m 165 A114 [])) rfl (hb hby at_165) (by decide) (by decide)
                  obtain ⟨a115, g115⟩ : ∃ z, z = T113.heap.size := ⟨_, rfl⟩
                  rw [← g115] at A115 D115 st115
                  have ge_a115 : n0 ≤ a115 := Nat.le_trans Z113 (Nat.le_of_eq g115.symm)
                  have sz_a115 : h0.size ≤ a115 := Nat.le_trans SZ113 (Nat.le_of_eq g115.symm)
                  have ne_dd_a115 : dd ≠ a115 := Nat.ne_of_lt (by rw [g115]; exact (((((((VD.ext E29).keep Kq30 (ninS ne_dd_a29 nin0)).keep Kq101 (ninS ne_dd_a29 nin0)).keep Kq102 nin0).keep Kq103 (ninS ne_dd_a29 (ninS ne_dd_c101 nin0))).keep Kq104 nin0).keep Kq113 nin0).lt)
                  have ne_cc_a115 : cc ≠ a115 := Nat.ne_of_lt (by rw [g115]; exact (((((((BC.ext E29).keep Kq30 (ninS ne_cc_a29 nin0)).keep Kq101 (ninS ne_cc_a29 nin0)).keep Kq102 nin0).keep Kq103 (ninS ne_cc_a29 (ninS ne_cc_c101 nin0))).keep Kq104 nin0).keep Kq113 nin0).lt)
                  have ne_a29_a115 : a29 ≠ a115 := Nat.ne_of_lt (by rw [g115]; exact ((fq1_103.keep Kq104 nin0).keep Kq113 nin0).lt)
                  have ne_c101_a115 : c101 ≠ a115 := Nat.ne_of_lt (by rw [g115]; exact ((fq4_103.keep Kq104 nin0).keep Kq113 nin0).lt)
                  have ne_c102_a115 : c102 ≠ a115 := Nat.ne_of_lt (by rw [g115]; exact (((fq0_102.keep Kq103).keep Kq104).keep Kq113).lt)
                  have Z115 : n0 ≤ h115.size := Nat.le_trans Z113 E115.1
                  have SZ115 : h0.size ≤ h115.size := Nat.le_trans SZ113 E115.1
                  have hk := Nat.le_trans hk E115.1
                  have F115_rows : Fld Z h115 a115 "com/example/greater_than/greaterthan/page/Page" "rows" "Ljava/util/List;" .null := D115 (Or.inr (own_g hw 146 rfl)) (ty := (.object "java/util/List")) (by decide)
                  have F115_previousCursor : Fld Z h115 a115 "com/example/greater_than/greaterthan/page/Page" "previousCursor" "Ljava/lang/String;" .null := D115 (Or.inr (own_g hw 148 rfl)) (ty := (.object "java/lang/String")) (by decide)
                  have F115_nextCursor : Fld Z h115 a115 "com/example/greater_than/greaterthan/page/Page" "nextCursor" "Ljava/lang/String;" .null := D115 (Or.inr (own_g hw 150 rfl)) (ty := (.object "java/lang/String")) (by decide)
                  refine own_step st115 ?_
                  show own_Ends p e below F (T115.setTop (mkF m 168 A114 [(.ref a115)]))
                  refine own_step (fun _ k => XS.dup X115.here hx rfl (hb hby at_168) rfl rfl k) ?_
                  show own_Ends p e below F (T115.setTop (mkF m 169 A114 [(.ref a115), (.ref a115)]))
                  refine own_step (fun _ k => XS.aload X115.here hx rfl (hb hby at_169) (by rw [hA114]; rfl) rfl k) ?_
                  show own_Ends p e below F (T115.setTop (mkF m 171 A114 [(.ref a29), (.ref a115), (.ref a115)]))
                  refine own_step (fun _ k => XS.aload X115.here hx rfl (hb hby at_171) (by rw [hA114]; rfl) fq0_113 k) ?_
                  show own_Ends p e below F (T115.setTop (mkF m 173 A114 [u113, (.ref a29), (.ref a115), (.ref a115)]))
                  refine own_step (fun _ k => XS.aload X115.here hx rfl (hb hby at_173) (by rw [hA114]; rfl) rfl k) ?_
                  show own_Ends p e below F (T115.setTop (mkF m 175 A114 [(.ref cu), u113, (.ref a29), (.ref a115), (.ref a115)]))
                  obtain ⟨_, _, ⟨T116, L116, k116, n116⟩, -, X116, ⟨Lc116, hQ116, l116, y116, z116⟩, st116⟩ := X115.specialBack hx (y := (⟨"com/example/greater_than/greaterthan/page/Page", "<init>", "(Ljava/util/List;Ljava/lang/String;Ljava/lang/String;)V"⟩ : MethodName)) rfl hown (mvT hZ (own_g hw 61 rfl)) (mvT hZ (own_g hw 62 rfl)) (mvT hZ (own_g hw 63 rfl)) (by decide) (backOf (W := 1) (rm11_2 l Z a0 hw [] a115 a29 c101 kc101 .null (.ref c102) u113 (.ref cu) ee ma mu mv mo h115 n0 Z115 A115 ge_a115 F115_rows F115_previousCursor F115_nextCursor (((fq4_103.keep Kq104 nin0).keep Kq113 nin0).ext E115) (((((fq7_101.keep Kq102).keep Kq103).keep Kq104).keep Kq113).ext E115) (Or.inl rfl) (Or.inr ⟨_, _, _, rfl, ((((fq0_102.keep Kq103).keep Kq104).keep Kq113).ext E115), (own_g hw 210 rfl)⟩) (((fq0_103.keep Kq104).keep Kq113).ext E115) (((fq2_103.keep Kq104 nin0).keep Kq113 nin0).ext E115) (((fq3_103.keep Kq104 nin0).keep Kq113 nin0).ext E115) (Sta.ext E115 S2_113) M_ma M_mu M_mv M_mo fq0_113 rfl) hZ (own_g hw 63 rfl) (own_g hw 60 rfl) (by decide) (by decide)) (g := (mkF m 175 A114 [(.ref cu), u113, (.ref a29), (.ref a115), (.ref a115)])) rfl (by rw [hml]; show A114.size = _; rw [hA114]; rfl) (Steps.refl _) (a := a115) (argsL := [(.ref a29), u113, (.ref cu)]) (rest := [(.ref a115)]) (lenOf pd__28Ljava_2futil_2fList_3bLjava_2flang_2fString_3bLjava_2flang_2fString_3b_29V rfl) rfl (by show 2 * 0 + _ ≤ _; exact Nat.le_of_eq rfl) (hb hby at_175) (fun _ _ => ⟨rfl, e115, (by decide : 10 + 3 ≤ _), (by decide : 33 + 7 ≤ _)⟩)
                  dsimp only [Pt.U, Pt.locs, Pt.cells, Pt.slots] at X116 l116 y116 z116 st116 hQ116
                  subst l116 y116 z116
                  obtain ⟨rfl, Nq116, Kq116, fq0_116, fq1_116, fq2_116⟩ := hQ116
                  have N116 := Fr.app N113 Nq116
                  have Z116 : n0 ≤ T116.heap.size := Nat.le_trans Z115 Kq116.1
                  have SZ116 : h0.size ≤ T116.heap.size := Nat.le_trans SZ115 Kq116.1
                  have S0_116 := own_Sta_keep (Sta.ext E115 S0_113) Kq116 (allS (own_ns_exa A115) all0)
                  have S1_116 := own_Sta_keep (Sta.ext E115 S1_113) Kq116 (allS (own_ns_exa A115) all0)
                  have S2_116 := own_Sta_keep (Sta.ext E115 S2_113) Kq116 (allS (own_ns_exa A115) all0)
                  have S3_116 := own_Sta_keep (Sta.ext E115 S3_113) Kq116 (allS (own_ns_exa A115) all0)
                  have S4_116 := own_Sta_keep (Sta.ext E115 S4_113) Kq116 (allS (own_ns_exa A115) all0)
                  have hk := Nat.le_trans hk Kq116.1
                  refine own_trans st116 ?_
                  show own_Ends p e below F (T116.setTop (mkF m 178 A114 [(.ref a115)]))
                  obtain ⟨A117, hA117⟩ : ∃ z : Array Slot, z = #[.val (.int p1), .val (.int p2), .val (.int p3), .val (.int p4), .val (.int p5), .val (.int p6), .val (.int z2), .val (.int z7), .val (.int z12), .val (.int z17), .val (.int (2 : Int32)), .val (.int z24), .val (.ref a29), .val (.ref cu), .val u113, .val (.ref a115)] := ⟨_, rfl⟩
                  refine own_step (fun _ k => XS.astore X116.here hx rfl (hb hby at_178) rfl rfl (l' := A117) (by rw [hA114, hA117]; exact rfl) k) ?_
                  show own_Ends p e below F (T116.setTop (mkF m 180 A117 []))
                  refine own_step (fun _ k => XS.aload X116.here hx rfl (hb hby at_180) (by rw [hA117]; rfl) rfl k) ?_
                  show own_Ends p e below F (T116.setTop (mkF m 182 A117 [(.ref a115)]))
                  obtain ⟨cq118, kq118, qa118, qb118, qc118⟩ := isOf (s := (s.setVm T113.vm)) (T := T116) hZ rfl fq0_116
                  obtain ⟨_, _, ⟨T118, L118, k118, n118⟩, -, X118, ⟨Lc118, hQ118, l118, y118, z118⟩, st118⟩ := X116.virtualBack hx (y := (⟨"com/example/greater_than/greaterthan/page/Page", "hasNext", "()Z"⟩ : MethodName)) (z := (⟨"com/example/greater_than/greaterthan/page/Page", "hasNext", "()Z"⟩ : MethodName)) hown (mvT hZ (own_g hw 151 rfl)) (mvT hZ (own_g hw 152 rfl)) (notFace_of_selects (args := #[]) (mvT hZ (own_g hw 154 rfl))) (mvT hZ (own_g hw 154 rfl)) (mvT hZ (own_g hw 153 rfl)) (by decide) (backOf (W := 0) (rm21r l Z a0 hw [] a115 cu T116.heap n0 Z116 fq2_116) hZ (own_g hw 155 rfl) (own_g hw 60 rfl) (by decide) (by decide)) qa118 qc118 (g := (mkF m 182 A117 [(.ref a115)])) rfl (by rw [hml]; show A117.size = _; rw [hA117]; rfl) (Steps.refl _) (argsL := []) (rest := []) (lenOf pd__28_29Z rfl) rfl (by show 2 * 0 + _ ≤ _; exact Nat.le_of_eq rfl) (hb hby at_182) (fun _ _ => ⟨rfl, rfl, (by decide : 13 + 0 ≤ _), (by decide : 40 + 0 ≤ _)⟩)
                  dsimp only [Pt.U, Pt.locs, Pt.cells, Pt.slots] at X118 l118 y118 z118 st118 hQ118
                  subst l118 y118 z118
                  obtain ⟨rfl, Nq118, eq118⟩ := hQ118
                  have N118 := Fr.app N116 Nq118
                  refine own_trans st118 ?_
                  show own_Ends p e below F (T118.setTop (mkF m 185 A117 [(.int (1 : Int32))]))
                  refine own_step (fun _ k => XS.aload X118.here hx rfl (hb hby at_185) (by rw [hA117]; rfl) rfl k) ?_
                  show own_Ends p e below F (T118.setTop (mkF m 187 A117 [(.ref cu), (.int (1 : Int32))]))
                  refine own_step (fun _ k => XS.ifnullNo X118.here hx rfl (hb hby at_187) rfl k) ?_
                  show own_Ends p e below F (T118.setTop (mkF m 190 A117 [(.int (1 : Int32))]))
                  refine own_step (fun _ k => XS.iconst X118.here hx rfl (hb hby at_190) k) ?_
                  show own_Ends p e below F (T118.setTop (mkF m 191 A117 [(.int (1 : Int32)), (.int (1 : Int32))]))
                  refine own_step (fun _ k => XS.goto X118.here hx rfl (pc0 := 191) (pc' := 195) rfl (hb hby at_191) (by decide) (by decide) k) ?_
                  show own_Ends p e below F (T118.setTop (mkF m 195 A117 [(.int (1 : Int32)), (.int (1 : Int32))]))
                  refine own_step (fun _ k => XS.icmpNo X118.here hx rfl (hb hby at_195) rfl (teq (by decide : (1 : Int32) = (1 : Int32))).2 k) ?_
                  show own_Ends p e below F (T118.setTop (mkF m 198 A117 []))
                  refine own_step (fun _ k => XS.iconst X118.here hx rfl (hb hby at_198) k) ?_
                  show own_Ends p e below F (T118.setTop (mkF m 199 A117 [(.int (1 : Int32))]))
                  refine own_step (fun _ k => XS.goto X118.here hx rfl (pc0 := 199) (pc' := 203) rfl (hb hby at_199) (by decide) (by decide) k) ?_
                  show own_Ends p e below F (T118.setTop (mkF m 203 A117 [(.int (1 : Int32))]))
                  rw [hF]
                  exact own_retW X118 hS (by rw [eq118]; exact hk) (v := (some (.int (nar .boolean (1 : Int32))))) (fun h => by rw [Bd.returns] at h; cases h) Bd.notSynchronized (fun fs hr => retN X118 hx (t := .boolean) Bd.returns (by simp) (hb hby at_203) hr) (by decide) (by decide) (by rw [eq118]; exact ⟨rfl, N118⟩)
            · show own_Ends p e below F (T30.setTop (mkF m 83 A31 []))
              refine own_step (fun _ k => XS.iload X30.here hx rfl (hb hby at_83) (by rw [hA31]; rfl) k) ?_
              show own_Ends p e below F (T30.setTop (mkF m 85 A31 [(.int (3 : Int32))]))
              refine own_step (fun _ k => XS.iconst X30.here hx rfl (hb hby at_85) k) ?_
              show own_Ends p e below F (T30.setTop (mkF m 86 A31 [(.int (1 : Int32)), (.int (3 : Int32))]))
              refine own_step (fun _ k => XS.icmpNo X30.here hx rfl (hb hby at_86) rfl (flt (by decide : ¬ ((3 : Int32) < (1 : Int32)))).1 k) ?_
              show own_Ends p e below F (T30.setTop (mkF m 89 A31 []))
              refine own_step (fun _ k => XS.aload X30.here hx rfl (hb hby at_89) (by rw [hA31]; rfl) rfl k) ?_
              show own_Ends p e below F (T30.setTop (mkF m 91 A31 [(.ref a29)]))
              refine own_step (fun _ k => XS.iload X30.here hx rfl (hb hby at_91) (by rw [hA31]; rfl) k) ?_
              show own_Ends p e below F (T30.setTop (mkF m 93 A31 [(.int z24), (.ref a29)]))
              by_cases c93_119 : z24 = (0 : Int32)
              · refine own_step (fun _ k => XS.ifYes X30.here hx rfl (pc0 := 93) (pc' := 100) rfl (hb hby at_93) rfl ((if0 _ _).trans (teq c93_119).1) (by decide) (by decide) k) ?_
                show own_Ends p e below F (T30.setTop (mkF m 100 A31 [(.ref a29)]))
                refine own_step (fun _ k => XS.iload X30.here hx rfl (hb hby at_100) (by rw [hA31]; rfl) k) ?_
                show own_Ends p e below F (T30.setTop (mkF m 102 A31 [(.int p6), (.ref a29)]))
                obtain ⟨_, _, ⟨T120, L120, k120, n120⟩, -, X120, ⟨Lc120, hQ120, l120, y120, z120⟩, st120⟩ := Jvm.LawKit.callS X30 hx (y := (⟨"java/lang/Integer", "valueOf", "(I)Ljava/lang/Integer;"⟩ : MethodName)) hown (mvT hZ (own_g hw 189 rfl)) (mvT hZ (own_g hw 190 rfl)) (mvT hZ (own_g hw 191 rfl)) (mvT hZ (own_g hw 192 rfl)) (by decide) (backOf (W := 1) (rm27 l Z a0 hw [] p6 cc T30.heap n0 Z30 S3_30 S4_30 ((BC.ext E29).keep Kq30 (ninS ne_cc_a29 nin0))) hZ (own_g hw 192 rfl) (own_g hw 191 rfl) (by decide) (by decide)) (g := (mkF m 102 A31 [(.int p6), (.ref a29)])) rfl (by rw [hml]; show A31.size = _; rw [hA31]; rfl) (argsL := [(.int p6)]) (rest := [(.ref a29)]) (lenOf pd__28I_29Ljava_2flang_2fInteger_3b rfl) rfl (by show 2 * 0 + _ ≤ _; exact Nat.le_of_eq rfl) (hb hby at_102) (fun _ _ => ⟨rfl, rfl, (by decide : 1 + 1 ≤ _), (by decide : 3 + 1 ≤ _)⟩)
                dsimp only [Pt.U, Pt.locs, Pt.cells, Pt.slots] at X120 l120 y120 z120 st120 hQ120
                subst l120 y120 z120
                obtain ⟨c120, rfl, Nq120, Kq120, fq0_120⟩ := hQ120
                have N120 := Fr.app N30 Nq120
                have Z120 : n0 ≤ T120.heap.size := Nat.le_trans Z30 Kq120.1
                have SZ120 : h0.size ≤ T120.heap.size := Nat.le_trans SZ30 Kq120.1
                have S0_120 := own_Sta_keep S0_30 Kq120 all0
                have S1_120 := own_Sta_keep S1_30 Kq120 all0
                have S2_120 := own_Sta_keep S2_30 Kq120 all0
                have S3_120 := own_Sta_keep S3_30 Kq120 all0
                have S4_120 := own_Sta_keep S4_30 Kq120 all0
                have hk := Nat.le_trans hk Kq120.1
                refine own_step st120 ?_
                show own_Ends p e below F (T120.setTop (mkF m 105 A31 [(.ref c120), (.ref a29)]))
                obtain ⟨cq121, kq121, qa121, qb121, qc121⟩ := isOf (s := (s.setVm s.vm)) (T := T120) hZ rfl (fq0_30.keep Kq120)
                obtain ⟨_, _, ⟨T121, L121, k121, n121⟩, -, X121, ⟨Lc121, hQ121, l121, y121, z121⟩, st121⟩ := X120.virtualBack hx (y := (⟨"java/util/ArrayList", "add", "(Ljava/lang/Object;)Z"⟩ : MethodName)) (z := (⟨"java/util/ArrayList", "add", "(Ljava/lang/Object;)Z"⟩ : MethodName)) hown (mvT hZ (own_g hw 159 rfl)) (mvT hZ (own_g hw 160 rfl)) (notFace_of_selects (args := #[]) (mvT hZ (own_g hw 162 rfl))) (mvT hZ (own_g hw 162 rfl)) (mvT hZ (own_g hw 161 rfl)) (by decide) (backOf (W := 0) (rm22_0 l Z a0 hw [] a29 dd kd (.ref c120) T120.heap n0 Z120 (fq0_30.keep Kq120) ge_a29 (fq1_30.keep Kq120 nin0) (fq2_30.keep Kq120 nin0) (fq3_30.keep Kq120 nin0) (Or.inr ⟨_, _, _, rfl, fq0_120, (own_g hw 210 rfl)⟩) S1_120 (((VD.ext E29).keep Kq30 (ninS ne_dd_a29 nin0)).keep Kq120 nin0)) hZ (own_g hw 163 rfl) (own_g hw 2 rfl) (by decide) (by decide)) qa121 qc121 (g := (mkF m 105 A31 [(.ref c120), (.ref a29)])) rfl (by rw [hml]; show A31.size = _; rw [hA31]; rfl) (Steps.refl _) (argsL := [(.ref c120)]) (rest := []) (lenOf pd__28Ljava_2flang_2fObject_3b_29Z rfl) rfl (by show 2 * 0 + _ ≤ _; exact Nat.le_of_eq rfl) (hb hby at_105) (fun _ _ => ⟨rfl, rfl, (by decide : 2 + 1 ≤ _), (by decide : 4 + 10 ≤ _)⟩)
                dsimp only [Pt.U, Pt.locs, Pt.cells, Pt.slots] at X121 l121 y121 z121 st121 hQ121
                subst l121 y121 z121
                obtain ⟨c121, kc121, rfl, Nq121, Kq121, fq0_121, fq1_121, fq2_121, fq3_121, fq4_121, fq5_121, fq6_121, fq7_121⟩ := hQ121
                have N121 := Fr.app N120 Nq121
                have Z121 : n0 ≤ T121.heap.size := Nat.le_trans Z120 Kq121.1
                have SZ121 : h0.size ≤ T121.heap.size := Nat.le_trans SZ120 Kq121.1
                have S0_121 := own_Sta_keep S0_120 Kq121 (allS (own_ns_exa (fq0_30.keep Kq120)) all0)
                have S1_121 := own_Sta_keep S1_120 Kq121 (allS (own_ns_exa (fq0_30.keep Kq120)) all0)
                have S2_121 := own_Sta_keep S2_120 Kq121 (allS (own_ns_exa (fq0_30.keep Kq120)) all0)
                have S3_121 := own_Sta_keep S3_120 Kq121 (allS (own_ns_exa (fq0_30.keep Kq120)) all0)
                have S4_121 := own_Sta_keep S4_120 Kq121 (allS (own_ns_exa (fq0_30.keep Kq120)) all0)
                have ne_dd_c121 : dd ≠ c121 := Nat.ne_of_lt (Nat.lt_of_lt_of_le ((((VD.ext E29).keep Kq30 (ninS ne_dd_a29 nin0)).keep Kq120 nin0)).lt fq0_121)
                have ne_cc_c121 : cc ≠ c121 := Nat.ne_of_lt (Nat.lt_of_lt_of_le ((((BC.ext E29).keep Kq30 (ninS ne_cc_a29 nin0)).keep Kq120 nin0)).lt fq0_121)
                have ne_a29_c121 : a29 ≠ c121 := Nat.ne_of_lt (Nat.lt_of_lt_of_le ((fq1_30.keep Kq120 nin0)).lt fq0_121)
                have ne_c120_c121 : c120 ≠ c121 := Nat.ne_of_lt (Nat.lt_of_lt_of_le (fq0_120).lt fq0_121)
                have ge_c121 : n0 ≤ c121 := Nat.le_trans Z120 fq0_121
                have sz_c121 : h0.size ≤ c121 := Nat.le_trans SZ120 fq0_121
                have hk := Nat.le_trans hk Kq121.1
                refine own_trans st121 ?_
                show own_Ends p e below F (T121.setTop (mkF m 108 A31 [(.int (1 : Int32))]))
                refine own_step (fun _ k => XS.pop X121.here hx rfl (hb hby at_108) rfl rfl k) ?_
                show own_Ends p e below F (T121.setTop (mkF m 109 A31 []))
                refine own_step (fun _ k => XS.iload X121.here hx rfl (hb hby at_109) (by rw [hA31]; rfl) k) ?_
                show own_Ends p e below F (T121.setTop (mkF m 111 A31 [(.int (3 : Int32))]))
                refine own_step (fun _ k => XS.iconst X121.here hx rfl (hb hby at_111) k) ?_
                show own_Ends p e below F (T121.setTop (mkF m 112 A31 [(.int (2 : Int32)), (.int (3 : Int32))]))
                refine own_step (fun _ k => XS.icmpNo X121.here hx rfl (hb hby at_112) rfl (flt (by decide : ¬ ((3 : Int32) < (2 : Int32)))).1 k) ?_
                show own_Ends p e below F (T121.setTop (mkF m 115 A31 []))
                refine own_step (fun _ k => XS.aload X121.here hx rfl (hb hby at_115) (by rw [hA31]; rfl) rfl k) ?_
                show own_Ends p e below F (T121.setTop (mkF m 117 A31 [(.ref a29)]))
                refine own_step (fun _ k => XS.iload X121.here hx rfl (hb hby at_117) (by rw [hA31]; rfl) k) ?_
                show own_Ends p e below F (T121.setTop (mkF m 119 A31 [(.int p6), (.ref a29)]))
                obtain ⟨_, _, ⟨T122, L122, k122, n122⟩, -, X122, ⟨Lc122, hQ122, l122, y122, z122⟩, st122⟩ := Jvm.LawKit.callS X121 hx (y := (⟨"java/lang/Integer", "valueOf", "(I)Ljava/lang/Integer;"⟩ : MethodName)) hown (mvT hZ (own_g hw 189 rfl)) (mvT hZ (own_g hw 190 rfl)) (mvT hZ (own_g hw 191 rfl)) (mvT hZ (own_g hw 192 rfl)) (by decide) (backOf (W := 1) (rm27 l Z a0 hw [] p6 cc T121.heap n0 Z121 S3_121 S4_121 ((((BC.ext E29).keep Kq30 (ninS ne_cc_a29 nin0)).keep Kq120 nin0).keep Kq121 (ninS ne_cc_a29 nin0))) hZ (own_g hw 192 rfl) (own_g hw 191 rfl) (by decide) (by decide)) (g := (mkF m 119 A31 [(.int p6), (.ref a29)])) rfl (by rw [hml]; show A31.size = _; rw [hA31]; rfl) (argsL := [(.int p6)]) (rest := [(.ref a29)]) (lenOf pd__28I_29Ljava_2flang_2fInteger_3b rfl) rfl (by show 2 * 0 + _ ≤ _; exact Nat.le_of_eq rfl) (hb hby at_119) (fun _ _ => ⟨rfl, rfl, (by decide : 3 + 1 ≤ _), (by decide : 14 + 1 ≤ _)⟩)
                dsimp only [Pt.U, Pt.locs, Pt.cells, Pt.slots] at X122 l122 y122 z122 st122 hQ122
                subst l122 y122 z122
                obtain ⟨c122, rfl, Nq122, Kq122, fq0_122⟩ := hQ122
                have N122 := Fr.app N121 Nq122
                have Z122 : n0 ≤ T122.heap.size := Nat.le_trans Z121 Kq122.1
                have SZ122 : h0.size ≤ T122.heap.size := Nat.le_trans SZ121 Kq122.1
                have S0_122 := own_Sta_keep S0_121 Kq122 all0
                have S1_122 := own_Sta_keep S1_121 Kq122 all0
                have S2_122 := own_Sta_keep S2_121 Kq122 all0
                have S3_122 := own_Sta_keep S3_121 Kq122 all0
                have S4_122 := own_Sta_keep S4_121 Kq122 all0
                have hk := Nat.le_trans hk Kq122.1
                refine own_step st122 ?_
                show own_Ends p e below F (T122.setTop (mkF m 122 A31 [(.ref c122), (.ref a29)]))
                obtain ⟨cq123, kq123, qa123, qb123, qc123⟩ := isOf (s := (s.setVm s.vm)) (T := T122) hZ rfl (fq1_121.keep Kq122)
                obtain ⟨_, _, ⟨T123, L123, k123, n123⟩, -, X123, ⟨Lc123, hQ123, l123, y123, z123⟩, st123⟩ := X122.virtualBack hx (y := (⟨"java/util/ArrayList", "add", "(Ljava/lang/Object;)Z"⟩ : MethodName)) (z := (⟨"java/util/ArrayList", "add", "(Ljava/lang/Object;)Z"⟩ : MethodName)) hown (mvT hZ (own_g hw 159 rfl)) (mvT hZ (own_g hw 160 rfl)) (notFace_of_selects (args := #[]) (mvT hZ (own_g hw 162 rfl))) (mvT hZ (own_g hw 162 rfl)) (mvT hZ (own_g hw 161 rfl)) (by decide) (backOf (W := 0) (rm22_1 l Z a0 hw [] a29 c121 kc121 (.ref c122) (.ref c120) T122.heap n0 Z122 (fq1_121.keep Kq122) ge_a29 (fq2_121.keep Kq122 nin0) (fq3_121.keep Kq122 nin0) (fq4_121.keep Kq122 nin0) (Or.inr ⟨_, _, _, rfl, fq0_122, (own_g hw 210 rfl)⟩) (fq5_121.keep Kq122 nin0) fq6_121 ge_c121) hZ (own_g hw 163 rfl) (own_g hw 2 rfl) (by decide) (by decide)) qa123 qc123 (g := (mkF m 122 A31 [(.ref c122), (.ref a29)])) rfl (by rw [hml]; show A31.size = _; rw [hA31]; rfl) (Steps.refl _) (argsL := [(.ref c122)]) (rest := []) (lenOf pd__28Ljava_2flang_2fObject_3b_29Z rfl) rfl (by show 2 * 0 + _ ≤ _; exact Nat.le_of_eq rfl) (hb hby at_122) (fun _ _ => ⟨rfl, rfl, (by decide : 4 + 0 ≤ _), (by decide : 15 + 0 ≤ _)⟩)
                dsimp only [Pt.U, Pt.locs, Pt.cells, Pt.slots] at X123 l123 y123 z123 st123 hQ123
                subst l123 y123 z123
                obtain ⟨rfl, Nq123, Kq123, fq0_123, fq1_123, fq2_123, fq3_123, fq4_123⟩ := hQ123
                have N123 := Fr.app N122 Nq123
                have Z123 : n0 ≤ T123.heap.size := Nat.le_trans Z122 Kq123.1
                have SZ123 : h0.size ≤ T123.heap.size := Nat.le_trans SZ122 Kq123.1
                have S0_123 := own_Sta_keep S0_122 Kq123 (allS (own_ns_exa (fq1_121.keep Kq122)) (allS (own_ns_exa (fq7_121.keep Kq122)) all0))
                have S1_123 := own_Sta_keep S1_122 Kq123 (allS (own_ns_exa (fq1_121.keep Kq122)) (allS (own_ns_exa (fq7_121.keep Kq122)) all0))
                have S2_123 := own_Sta_keep S2_122 Kq123 (allS (own_ns_exa (fq1_121.keep Kq122)) (allS (own_ns_exa (fq7_121.keep Kq122)) all0))
                have S3_123 := own_Sta_keep S3_122 Kq123 (allS (own_ns_exa (fq1_121.keep Kq122)) (allS (own_ns_exa (fq7_121.keep Kq122)) all0))
                have S4_123 := own_Sta_keep S4_122 Kq123 (allS (own_ns_exa (fq1_121.keep Kq122)) (allS (own_ns_exa (fq7_121.keep Kq122)) all0))
                have hk := Nat.le_trans hk Kq123.1
                refine own_trans st123 ?_
                show own_Ends p e below F (T123.setTop (mkF m 125 A31 [(.int (1 : Int32))]))
                refine own_step (fun _ k => XS.pop X123.here hx rfl (hb hby at_125) rfl rfl k) ?_
                show own_Ends p e below F (T123.setTop (mkF m 126 A31 []))
                refine own_step (fun _ k => XS.iload X123.here hx rfl (hb hby at_126) (by rw [hA31]; rfl) k) ?_
                show own_Ends p e below F (T123.setTop (mkF m 128 A31 [(.int (3 : Int32))]))
                refine own_step (fun _ k => XS.iconst X123.here hx rfl (hb hby at_128) k) ?_
                show own_Ends p e below F (T123.setTop (mkF m 129 A31 [(.int (3 : Int32)), (.int (3 : Int32))]))
                refine own_step (fun _ k => XS.icmpNo X123.here hx rfl (hb hby at_129) rfl (flt (by decide : ¬ ((3 : Int32) < (3 : Int32)))).1 k) ?_
                show own_Ends p e below F (T123.setTop (mkF m 132 A31 []))
                refine own_step (fun _ k => XS.aload X123.here hx rfl (hb hby at_132) (by rw [hA31]; rfl) rfl k) ?_
                show own_Ends p e below F (T123.setTop (mkF m 134 A31 [(.ref a29)]))
                refine own_step (fun _ k => XS.iloadN X123.here hx rfl (hb hby at_134) (by rw [hA31]; rfl) k) ?_
                show own_Ends p e below F (T123.setTop (mkF m 135 A31 [(.int p4), (.ref a29)]))
                obtain ⟨_, _, ⟨T124, L124, k124, n124⟩, -, X124, ⟨Lc124, hQ124, l124, y124, z124⟩, st124⟩ := Jvm.LawKit.callS X123 hx (y := (⟨"java/lang/Integer", "valueOf", "(I)Ljava/lang/Integer;"⟩ : MethodName)) hown (mvT hZ (own_g hw 189 rfl)) (mvT hZ (own_g hw 190 rfl)) (mvT hZ (own_g hw 191 rfl)) (mvT hZ (own_g hw 192 rfl)) (by decide) (backOf (W := 1) (rm27 l Z a0 hw [] p4 cc T123.heap n0 Z123 S3_123 S4_123 ((((((BC.ext E29).keep Kq30 (ninS ne_cc_a29 nin0)).keep Kq120 nin0).keep Kq121 (ninS ne_cc_a29 nin0)).keep Kq122 nin0).keep Kq123 (ninS ne_cc_a29 (ninS ne_cc_c121 nin0)))) hZ (own_g hw 192 rfl) (own_g hw 191 rfl) (by decide) (by decide)) (g := (mkF m 135 A31 [(.int p4), (.ref a29)])) rfl (by rw [hml]; show A31.size = _; rw [hA31]; rfl) (argsL := [(.int p4)]) (rest := [(.ref a29)]) (lenOf pd__28I_29Ljava_2flang_2fInteger_3b rfl) rfl (by show 2 * 0 + _ ≤ _; exact Nat.le_of_eq rfl) (hb hby at_135) (fun _ _ => ⟨rfl, rfl, (by decide : 4 + 1 ≤ _), (by decide : 15 + 1 ≤ _)⟩)
                dsimp only [Pt.U, Pt.locs, Pt.cells, Pt.slots] at X124 l124 y124 z124 st124 hQ124
                subst l124 y124 z124
                obtain ⟨c124, rfl, Nq124, Kq124, fq0_124⟩ := hQ124
                have N124 := Fr.app N123 Nq124
                have Z124 : n0 ≤ T124.heap.size := Nat.le_trans Z123 Kq124.1
                have SZ124 : h0.size ≤ T124.heap.size := Nat.le_trans SZ123 Kq124.1
                have S0_124 := own_Sta_keep S0_123 Kq124 all0
                have S1_124 := own_Sta_keep S1_123 Kq124 all0
                have S2_124 := own_Sta_keep S2_123 Kq124 all0
                have S3_124 := own_Sta_keep S3_123 Kq124 all0
                have S4_124 := own_Sta_keep S4_123 Kq124 all0
                have hk := Nat.le_trans hk Kq124.1
                refine own_step st124 ?_
                show own_Ends p e below F (T124.setTop (mkF m 138 A31 [(.ref c124), (.ref a29)]))
                obtain ⟨cq125, kq125, qa125, qb125, qc125⟩ := isOf (s := (s.setVm s.vm)) (T := T124) hZ rfl (fq0_123.keep Kq124)
                obtain ⟨_, _, ⟨T125, L125, k125, n125⟩, -, X125, ⟨Lc125, hQ125, l125, y125, z125⟩, st125⟩ := X124.virtualBack hx (y := (⟨"java/util/ArrayList", "add", "(Ljava/lang/Object;)Z"⟩ : MethodName)) (z := (⟨"java/util/ArrayList", "add", "(Ljava/lang/Object;)Z"⟩ : MethodName)) hown (mvT hZ (own_g hw 159 rfl)) (mvT hZ (own_g hw 160 rfl)) (notFace_of_selects (args := #[]) (mvT hZ (own_g hw 162 rfl))) (mvT hZ (own_g hw 162 rfl)) (mvT hZ (own_g hw 161 rfl)) (by decide) (backOf (W := 0) (rm22_2 l Z a0 hw [] a29 c121 kc121 (.ref c124) (.ref c120) (.ref c122) T124.heap n0 Z124 (fq0_123.keep Kq124) ge_a29 (fq1_123.keep Kq124 nin0) (fq2_123.keep Kq124 nin0) (fq3_123.keep Kq124 nin0) (Or.inr ⟨_, _, _, rfl, fq0_124, (own_g hw 210 rfl)⟩) (fq4_123.keep Kq124 nin0) fq6_121 ge_c121) hZ (own_g hw 163 rfl) (own_g hw 2 rfl) (by decide) (by decide)) qa125 qc125 (g := (mkF m 138 A31 [(.ref c124), (.ref a29)])) rfl (by rw [hml]; show A31.size = _; rw [hA31]; rfl) (Steps.refl _) (argsL := [(.ref c124)]) (rest := []) (lenOf pd__28Ljava_2flang_2fObject_3b_29Z rfl) rfl (by show 2 * 0 + _ ≤ _; exact Nat.le_of_eq rfl) (hb hby at_138) (fun _ _ => ⟨rfl, rfl, (by decide : 5 + 0 ≤ _), (by decide : 16 + 0 ≤ _)⟩)
                dsimp only [Pt.U, Pt.locs, Pt.cells, Pt.slots] at X125 l125 y125 z125 st125 hQ125
                subst l125 y125 z125
                obtain ⟨rfl, Nq125, Kq125, fq0_125, fq1_125, fq2_125, fq3_125, fq4_125⟩ := hQ125
                have N125 := Fr.app N124 Nq125
                have Z125 : n0 ≤ T125.heap.size := Nat.le_trans Z124 Kq125.1
                have SZ125 : h0.size ≤ T125.heap.size := Nat.le_trans SZ124 Kq125.1
                have S0_125 := own_Sta_keep S0_124 Kq125 (allS (own_ns_exa (fq0_123.keep Kq124)) (allS (own_ns_exa (((fq7_121.keep Kq122).keep Kq123).keep Kq124)) all0))
                have S1_125 := own_Sta_keep S1_124 Kq125 (allS (own_ns_exa (fq0_123.keep Kq124)) (allS (own_ns_exa (((fq7_121.keep Kq122).keep Kq123).keep Kq124)) all0))
                have S2_125 := own_Sta_keep S2_124 Kq125 (allS (own_ns_exa (fq0_123.keep Kq124)) (allS (own_ns_exa (((fq7_121.keep Kq122).keep Kq123).keep Kq124)) all0))
                have S3_125 := own_Sta_keep S3_124 Kq125 (allS (own_ns_exa (fq0_123.keep Kq124)) (allS (own_ns_exa (((fq7_121.keep Kq122).keep Kq123).keep Kq124)) all0))
                have S4_125 := own_Sta_keep S4_124 Kq125 (allS (own_ns_exa (fq0_123.keep Kq124)) (allS (own_ns_exa (((fq7_121.keep Kq122).keep Kq123).keep Kq124)) all0))
                have hk := Nat.le_trans hk Kq125.1
                refine own_trans st125 ?_
                show own_Ends p e below F (T125.setTop (mkF m 141 A31 [(.int (1 : Int32))]))
                refine own_step (fun _ k => XS.pop X125.here hx rfl (hb hby at_141) rfl rfl k) ?_
                show own_Ends p e below F (T125.setTop (mkF m 142 A31 []))
                refine own_step (fun _ k => XS.iload X125.here hx rfl (hb hby at_142) (by rw [hA31]; rfl) k) ?_
                show own_Ends p e below F (T125.setTop (mkF m 144 A31 [(.int z2)]))
                refine own_step (fun _ k => XS.iload X125.here hx rfl (hb hby at_144) (by rw [hA31]; rfl) k) ?_
                show own_Ends p e below F (T125.setTop (mkF m 146 A31 [(.int z12), (.int z2)]))
                refine own_step (fun _ k => XS.iloadN X125.here hx rfl (hb hby at_146) (by rw [hA31]; rfl) k) ?_
                show own_Ends p e below F (T125.setTop (mkF m 147 A31 [(.int p2), (.int z12), (.int z2)]))
                refine own_step (fun _ k => XS.iloadN X125.here hx rfl (hb hby at_147) (by rw [hA31]; rfl) k) ?_
                show own_Ends p e below F (T125.setTop (mkF m 148 A31 [(.int p3), (.int p2), (.int z12), (.int z2)]))
                obtain ⟨_, _, ⟨T126, L126, k126, n126⟩, -, X126, hS126, gr126, ⟨Lc126, hQ126, l126, y126, z126⟩, st126⟩ := callSS X125 hx (y := (⟨"com/example/greater_than/greaterthan/page/PageHasNextPinLaw", "cursor", "(ZZII)Ljava/lang/String;"⟩ : MethodName)) hown (mvT hZ (own_g hw 26 rfl)) (mvT hZ (own_g hw 27 rfl)) (mvT hZ (own_g hw 28 rfl)) (mvT hZ (own_g hw 29 rfl)) (by decide) (backOfS (W := 0) (rm5 l Z a0 hw [] z2 z12 p2 p3 zc T125.heap n0 Z125 S0_125 hz) hZ (own_g hw 29 rfl) (own_g hw 28 rfl) (by decide) (by decide)) (g := (mkF m 148 A31 [(.int p3), (.int p2), (.int z12), (.int z2)])) rfl (by rw [hml]; show A31.size = _; rw [hA31]; rfl) (argsL := [(.int z2), (.int z12), (.int p2), (.int p3)]) (rest := []) (lenOf pd__28ZZII_29Ljava_2flang_2fString_3b rfl) rfl (by show 2 * 0 + _ ≤ _; exact Nat.le_of_eq rfl) (hb hby at_148) (fun _ _ => ⟨rfl, rfl, (by decide : 5 + 3 ≤ _), (by decide : 16 + 8 ≤ _)⟩)
                dsimp only [Pt.U, Pt.locs, Pt.cells, Pt.slots] at X126 l126 y126 z126 st126 hQ126 hS126 gr126
                subst l126 y126 z126
                obtain ⟨u126, rfl, Nq126, Kq126, fq0_126⟩ := hQ126
                have N126 := Fr.app N125 Nq126
                have Z126 : n0 ≤ T126.heap.size := Nat.le_trans Z125 Kq126.1
                have SZ126 : h0.size ≤ T126.heap.size := Nat.le_trans SZ125 Kq126.1
                have S0_126 := own_Sta_keep S0_125 Kq126 all0
                have S1_126 := own_Sta_keep S1_125 Kq126 all0
                have S2_126 := own_Sta_keep S2_125 Kq126 all0
                have S3_126 := own_Sta_keep S3_125 Kq126 all0
                have S4_126 := own_Sta_keep S4_125 Kq126 all0
                have hZ := own_warm hZ hS126
                have hown := own_find hown hS126
                have hS := foldS hS (by exact hk) hS126 gr126
                have hk := Nat.le_refl T126.heap.size
                refine own_trans st126 ?_
                show own_Ends p e below F (T126.setTop (mkF m 151 A31 [u126]))
                rcases ref_cases fq0_126 with rfl | ⟨cu, rfl⟩
                · show own_Ends p e below F (T126.setTop (mkF m 151 A31 [.null]))
                  obtain ⟨A127, hA127⟩ : ∃ z : Array Slot, z = #[.val (.int p1), .val (.int p2), .val (.int p3), .val (.int p4), .val (.int p5), .val (.int p6), .val (.int z2), .val (.int z7), .val (.int z12), .val (.int z17), .val (.int (3 : Int32)), .val (.int z24), .val (.ref a29), .val .null, .unset, .unset] := ⟨_, rfl⟩
                  refine own_step (fun _ k => XS.astore X126.here hx rfl (hb hby at_151) rfl rfl (l' := A127) (by rw [hA31, hA127]; exact rfl) k) ?_
                  show own_Ends p e below F (T126.setTop (mkF m 153 A127 []))
                  refine own_step (fun _ k => XS.iload X126.here hx rfl (hb hby at_153) (by rw [hA127]; rfl) k) ?_
                  show own_Ends p e below F (T126.setTop (mkF m 155 A127 [(.int z7)]))
                  refine own_step (fun _ k => XS.iload X126.here hx rfl (hb hby at_155) (by rw [hA127]; rfl) k) ?_
                  show own_Ends p e below F (T126.setTop (mkF m 157 A127 [(.int z17), (.int z7)]))
                  refine own_step (fun _ k => XS.iloadN X126.here hx rfl (hb hby at_157) (by rw [hA127]; rfl) k) ?_
                  show own_Ends p e below F (T126.setTop (mkF m 158 A127 [(.int p4), (.int z17), (.int z7)]))
                  refine own_step (fun _ k => XS.iload X126.here hx rfl (hb hby at_158) (by rw [hA127]; rfl) k) ?_
                  show own_Ends p e below F (T126.setTop (mkF m 160 A127 [(.int p5), (.int p4), (.int z17), (.int z7)]))
                  obtain ⟨_, _, ⟨T128, L128, k128, n128⟩, -, X128, hS128, gr128, ⟨Lc128, hQ128, l128, y128, z128⟩, st128⟩ := callSS X126 hx (y := (⟨"com/example/greater_than/greaterthan/page/PageHasNextPinLaw", "cursor", "(ZZII)Ljava/lang/String;"⟩ : MethodName)) hown (mvT hZ (own_g hw 26 rfl)) (mvT hZ (own_g hw 27 rfl)) (mvT hZ (own_g hw 28 rfl)) (mvT hZ (own_g hw 29 rfl)) (by decide) (backOfS (W := 0) (rm5 l Z a0 hw [] z7 z17 p4 p5 zc T126.heap n0 Z126 S0_126 hz) hZ (own_g hw 29 rfl) (own_g hw 28 rfl) (by decide) (by decide)) (g := (mkF m 160 A127 [(.int p5), (.int p4), (.int z17), (.int z7)])) rfl (by rw [hml]; show A127.size = _; rw [hA127]; rfl) (argsL := [(.int z7), (.int z17), (.int p4), (.int p5)]) (rest := []) (lenOf pd__28ZZII_29Ljava_2flang_2fString_3b rfl) rfl (by show 2 * 0 + _ ≤ _; exact Nat.le_of_eq rfl) (hb hby at_160) (fun _ _ => ⟨rfl, rfl, (by decide : 8 + 3 ≤ _), (by decide : 24 + 8 ≤ _)⟩)
                  dsimp only [Pt.U, Pt.locs, Pt.cells, Pt.slots] at X128 l128 y128 z128 st128 hQ128 hS128 gr128
                  subst l128 y128 z128
                  obtain ⟨u128, rfl, Nq128, Kq128, fq0_128⟩ := hQ128
                  have N128 := Fr.app N126 Nq128
                  have Z128 : n0 ≤ T128.heap.size := Nat.le_trans Z126 Kq128.1
                  have SZ128 : h0.size ≤ T128.heap.size := Nat.le_trans SZ126 Kq128.1
                  have S0_128 := own_Sta_keep S0_126 Kq128 all0
                  have S1_128 := own_Sta_keep S1_126 Kq128 all0
                  have S2_128 := own_Sta_keep S2_126 Kq128 all0
                  have S3_128 := own_Sta_keep S3_126 Kq128 all0
                  have S4_128 := own_Sta_keep S4_126 Kq128 all0
                  have hZ := own_warm hZ hS128
                  have hown := own_find hown hS128
                  have hS := foldS hS (by exact hk) hS128 gr128
                  have hk := Nat.le_refl T128.heap.size
                  refine own_trans st128 ?_
                  show own_Ends p e below F (T128.setTop (mkF m 163 A127 [u128]))
                  obtain ⟨A129, hA129⟩ : ∃ z : Array Slot, z = #[.val (.int p1), .val (.int p2), .val (.int p3), .val (.int p4), .val (.int p5), .val (.int p6), .val (.int z2), .val (.int z7), .val (.int z12), .val (.int z17), .val (.int (3 : Int32)), .val (.int z24), .val (.ref a29), .val .null, .val u128, .unset] := ⟨_, rfl⟩
                  refine own_step (fun _ k => XS.astore X128.here hx rfl (hb hby at_163) rfl fq0_128 (l' := A129) (by rw [hA127, hA129]; exact (XS.store1 (o := .unset) rfl (Or.inl rfl) (own_catR fq0_128))) k) ?_
                  show own_Ends p e below F (T128.setTop (mkF m 165 A129 []))
                  obtain ⟨T130, h130, X130, e130, E130, A130, D130, -, st130⟩ := newO X128 hx hZ hown (own_g hw 58 rfl) (own_g hw 59 rfl) (own_g hw 60 rfl) rfl (g := (mkF m 165 A129 [])) rfl (hb hby at_165) (by decide) (by decide)
                  obtain ⟨a130, g130⟩ : ∃ z, z = T128.heap.size := ⟨_, rfl⟩
                  rw [← g130] at A130 D130 st130
                  have ge_a130 : n0 ≤ a130 := Nat.le_trans Z128 (Nat.le_of_eq g130.symm)
                  have sz_a130 : h0.size ≤ a130 := Nat.le_trans SZ128 (Nat.le_of_eq g130.symm)
                  have ne_dd_a130 : dd ≠ a130 := Nat.ne_of_lt (by rw [g130]; exact ((((((((((VD.ext E29).keep Kq30 (ninS ne_dd_a29 nin0)).keep Kq120 nin0).keep Kq121 (ninS ne_dd_a29 nin0)).keep Kq122 nin0).keep Kq123 (ninS ne_dd_a29 (ninS ne_dd_c121 nin0))).keep Kq124 nin0).keep Kq125 (ninS ne_dd_a29 (ninS ne_dd_c121 nin0))).keep Kq126 nin0).keep Kq128 nin0).lt)
                  have ne_cc_a130 : cc ≠ a130 := Nat.ne_of_lt (by rw [g130]; exact ((((((((((BC.ext E29).keep Kq30 (ninS ne_cc_a29 nin0)).keep Kq120 nin0).keep Kq121 (ninS ne_cc_a29 nin0)).keep Kq122 nin0).keep Kq123 (ninS ne_cc_a29 (ninS ne_cc_c121 nin0))).keep Kq124 nin0).keep Kq125 (ninS ne_cc_a29 (ninS ne_cc_c121 nin0))).keep Kq126 nin0).keep Kq128 nin0).lt)
                  have ne_a29_a130 : a29 ≠ a130 := Nat.ne_of_lt (by rw [g130]; exact ((fq1_125.keep Kq126 nin0).keep Kq128 nin0).lt)
                  have ne_c120_a130 : c120 ≠ a130 := Nat.ne_of_lt (by rw [g130]; exact (((((((fq0_120.keep Kq121).keep Kq122).keep Kq123).keep Kq124).keep Kq125).keep Kq126).keep Kq128).lt)
                  have ne_c121_a130 : c121 ≠ a130 := Nat.ne_of_lt (by rw [g130]; exact ((fq4_125.keep Kq126 nin0).keep Kq128 nin0).lt)
                  have ne_c122_a130 : c122 ≠ a130 := Nat.ne_of_lt (by rw [g130]; exact (((((fq0_122.keep Kq123).keep Kq124).keep Kq125).keep Kq126).keep Kq128).lt)
                  have ne_c124_a130 : c124 ≠ a130 := Nat.ne_of_lt (by rw [g130]; exact (((fq0_124.keep Kq125).keep Kq126).keep Kq128).lt)
                  have Z130 : n0 ≤ h130.size := Nat.le_trans Z128 E130.1
                  have SZ130 : h0.size ≤ h130.size := Nat.le_trans SZ128 E130.1
                  have hk := Nat.le_trans hk E130.1
                  have F130_rows : Fld Z h130 a130 "com/example/greater_than/greaterthan/page/Page" "rows" "Ljava/util/List;" .null := D130 (Or.inr (own_g hw 146 rfl)) (ty := (.object "java/util/List")) (by decide)
                  have F130_previousCursor : Fld Z h130 a130 "com/example/greater_than/greaterthan/page/Page" "previousCursor" "Ljava/lang/String;" .null := D130 (Or.inr (own_g hw 148 rfl)) (ty := (.object "java/lang/String")) (by decide)
                  have F130_nextCursor : Fld Z h130 a130 "com/example/greater_than/greaterthan/page/Page" "nextCursor" "Ljava/lang/String;" .null := D130 (Or.inr (own_g hw 150 rfl)) (ty := (.object "java/lang/String")) (by decide)
                  refine own_step st130 ?_
                  show own_Ends p e below F (T130.setTop (mkF m 168 A129 [(.ref a130)]))
                  refine own_step (fun _ k => XS.dup X130.here hx rfl (hb hby at_168) rfl rfl k) ?_
                  show own_Ends p e below F (T130.setTop (mkF m 169 A129 [(.ref a130), (.ref a130)]))
                  refine own_step (fun _ k => XS.aload X130.here hx rfl (hb hby at_169) (by rw [hA129]; rfl) rfl k) ?_
                  show own_Ends p e below F (T130.setTop (mkF m 171 A129 [(.ref a29), (.ref a130), (.ref a130)]))
                  refine own_step (fun _ k => XS.aload X130.here hx rfl (hb hby at_171) (by rw [hA129]; rfl) fq0_128 k) ?_
                  show own_Ends p e below F (T130.setTop (mkF m 173 A129 [u128, (.ref a29), (.ref a130), (.ref a130)]))
                  refine own_step (fun _ k => XS.aload X130.here hx rfl (hb hby at_173) (by rw [hA129]; rfl) rfl k) ?_
                  show own_Ends p e below F (T130.setTop (mkF m 175 A129 [.null, u128, (.ref a29), (.ref a130), (.ref a130)]))
                  obtain ⟨_, _, ⟨T131, L131, k131, n131⟩, -, X131, ⟨Lc131, hQ131, l131, y131, z131⟩, st131⟩ := X130.specialBack hx (y := (⟨"com/example/greater_than/greaterthan/page/Page", "<init>", "(Ljava/util/List;Ljava/lang/String;Ljava/lang/String;)V"⟩ : MethodName)) rfl hown (mvT hZ (own_g hw 61 rfl)) (mvT hZ (own_g hw 62 rfl)) (mvT hZ (own_g hw 63 rfl)) (by decide) (backOf (W := 1) (rm11_3 l Z a0 hw [] a130 a29 c121 kc121 (.ref c120) (.ref c122) (.ref c124) u128 .null ee ma mu mv mo h130 n0 Z130 A130 ge_a130 F130_rows F130_previousCursor F130_nextCursor (((fq4_125.keep Kq126 nin0).keep Kq128 nin0).ext E130) (((((((fq7_121.keep Kq122).keep Kq123).keep Kq124).keep Kq125).keep Kq126).keep Kq128).ext E130) (Or.inr ⟨_, _, _, rfl, ((((((((fq0_120.keep Kq121).keep Kq122).keep Kq123).keep Kq124).keep Kq125).keep Kq126).keep Kq128).ext E130), (own_g hw 210 rfl)⟩) (Or.inr ⟨_, _, _, rfl, ((((((fq0_122.keep Kq123).keep Kq124).keep Kq125).keep Kq126).keep Kq128).ext E130), (own_g hw 210 rfl)⟩) (Or.inr ⟨_, _, _, rfl, ((((fq0_124.keep Kq125).keep Kq126).keep Kq128).ext E130), (own_g hw 210 rfl)⟩) (((fq0_125.keep Kq126).keep Kq128).ext E130) (((fq2_125.keep Kq126 nin0).keep Kq128 nin0).ext E130) (((fq3_125.keep Kq126 nin0).keep Kq128 nin0).ext E130) (Sta.ext E130 S2_128) M_ma M_mu M_mv M_mo fq0_128 rfl) hZ (own_g hw 63 rfl) (own_g hw 60 rfl) (by decide) (by decide)) (g := (mkF m 175 A129 [.null, u128, (.ref a29), (.ref a130), (.ref a130)])) rfl (by rw [hml]; show A129.size = _; rw [hA129]; rfl) (Steps.refl _) (a := a130) (argsL := [(.ref a29), u128, .null]) (rest := [(.ref a130)]) (lenOf pd__28Ljava_2futil_2fList_3bLjava_2flang_2fString_3bLjava_2flang_2fString_3b_29V rfl) rfl (by show 2 * 0 + _ ≤ _; exact Nat.le_of_eq rfl) (hb hby at_175) (fun _ _ => ⟨rfl, e130, (by decide : 12 + 3 ≤ _), (by decide : 35 + 8 ≤ _)⟩)
                  dsimp only [Pt.U, Pt.locs, Pt.cells, Pt.slots] at X131 l131 y131 z131 st131 hQ131
                  subst l131 y131 z131
                  obtain ⟨rfl, Nq131, Kq131, fq0_131, fq1_131, fq2_131⟩ := hQ131
                  have N131 := Fr.app N128 Nq131
                  have Z131 : n0 ≤ T131.heap.size := Nat.le_trans Z130 Kq131.1
                  have SZ131 : h0.size ≤ T131.heap.size := Nat.le_trans SZ130 Kq131.1
                  have S0_131 := own_Sta_keep (Sta.ext E130 S0_128) Kq131 (allS (own_ns_exa A130) all0)
                  have S1_131 := own_Sta_keep (Sta.ext E130 S1_128) Kq131 (allS (own_ns_exa A130) all0)
                  have S2_131 := own_Sta_keep (Sta.ext E130 S2_128) Kq131 (allS (own_ns_exa A130) all0)
                  have S3_131 := own_Sta_keep (Sta.ext E130 S3_128) Kq131 (allS (own_ns_exa A130) all0)
                  have S4_131 := own_Sta_keep (Sta.ext E130 S4_128) Kq131 (allS (own_ns_exa A130) all0)
                  have hk := Nat.le_trans hk Kq131.1
                  refine own_trans st131 ?_
                  show own_Ends p e below F (T131.setTop (mkF m 178 A129 [(.ref a130)]))
                  obtain ⟨A132, hA132⟩ : ∃ z : Array Slot, z = #[.val (.int p1), .val (.int p2), .val (.int p3), .val (.int p4), .val (.int p5), .val (.int p6), .val (.int z2), .val (.int z7), .val (.int z12), .val (.int z17), .val (.int (3 : Int32)), .val (.int z24), .val (.ref a29), .val .null, .val u128, .val (.ref a130)] := ⟨_, rfl⟩
                  refine own_step (fun _ k => XS.astore X131.here hx rfl (hb hby at_178) rfl rfl (l' := A132) (by rw [hA129, hA132]; exact rfl) k) ?_
                  show own_Ends p e below F (T131.setTop (mkF m 180 A132 []))
                  refine own_step (fun _ k => XS.aload X131.here hx rfl (hb hby at_180) (by rw [hA132]; rfl) rfl k) ?_
                  show own_Ends p e below F (T131.setTop (mkF m 182 A132 [(.ref a130)]))
                  obtain ⟨cq133, kq133, qa133, qb133, qc133⟩ := isOf (s := (s.setVm T128.vm)) (T := T131) hZ rfl fq0_131
                  obtain ⟨_, _, ⟨T133, L133, k133, n133⟩, -, X133, ⟨Lc133, hQ133, l133, y133, z133⟩, st133⟩ := X131.virtualBack hx (y := (⟨"com/example/greater_than/greaterthan/page/Page", "hasNext", "()Z"⟩ : MethodName)) (z := (⟨"com/example/greater_than/greaterthan/page/Page", "hasNext", "()Z"⟩ : MethodName)) hown (mvT hZ (own_g hw 151 rfl)) (mvT hZ (own_g hw 152 rfl)) (notFace_of_selects (args := #[]) (mvT hZ (own_g hw 154 rfl))) (mvT hZ (own_g hw 154 rfl)) (mvT hZ (own_g hw 153 rfl)) (by decide) (backOf (W := 0) (rm21n l Z a0 hw [] a130 T131.heap n0 Z131 fq2_131) hZ (own_g hw 155 rfl) (own_g hw 60 rfl) (by decide) (by decide)) qa133 qc133 (g := (mkF m 182 A132 [(.ref a130)])) rfl (by rw [hml]; show A132.size = _; rw [hA132]; rfl) (Steps.refl _) (argsL := []) (rest := []) (lenOf pd__28_29Z rfl) rfl (by show 2 * 0 + _ ≤ _; exact Nat.le_of_eq rfl) (hb hby at_182) (fun _ _ => ⟨rfl, rfl, (by decide : 15 + 0 ≤ _), (by decide : 43 + 0 ≤ _)⟩)
                  dsimp only [Pt.U, Pt.locs, Pt.cells, Pt.slots] at X133 l133 y133 z133 st133 hQ133
                  subst l133 y133 z133
                  obtain ⟨rfl, Nq133, eq133⟩ := hQ133
                  have N133 := Fr.app N131 Nq133
                  refine own_trans st133 ?_
                  show own_Ends p e below F (T133.setTop (mkF m 185 A132 [(.int (0 : Int32))]))
                  refine own_step (fun _ k => XS.aload X133.here hx rfl (hb hby at_185) (by rw [hA132]; rfl) rfl k) ?_
                  show own_Ends p e below F (T133.setTop (mkF m 187 A132 [.null, (.int (0 : Int32))]))
                  refine own_step (fun _ k => XS.ifnullYes X133.here hx rfl (pc0 := 187) (pc' := 194) rfl (hb hby at_187) rfl (by decide) (by decide) k) ?_
                  show own_Ends p e below F (T133.setTop (mkF m 194 A132 [(.int (0 : Int32))]))
                  refine own_step (fun _ k => XS.iconst X133.here hx rfl (hb hby at_194) k) ?_
                  show own_Ends p e below F (T133.setTop (mkF m 195 A132 [(.int (0 : Int32)), (.int (0 : Int32))]))
                  refine own_step (fun _ k => XS.icmpNo X133.here hx rfl (hb hby at_195) rfl (teq (by decide : (0 : Int32) = (0 : Int32))).2 k) ?_
                  show own_Ends p e below F (T133.setTop (mkF m 198 A132 []))
                  refine own_step (fun _ k => XS.iconst X133.here hx rfl (hb hby at_198) k) ?_
                  show own_Ends p e below F (T133.setTop (mkF m 199 A132 [(.int (1 : Int32))]))
                  refine own_step (fun _ k => XS.goto X133.here hx rfl (pc0 := 199) (pc' := 203) rfl (hb hby at_199) (by decide) (by decide) k) ?_
                  show own_Ends p e below F (T133.setTop (mkF m 203 A132 [(.int (1 : Int32))]))
                  rw [hF]
                  exact own_retW X133 hS (by rw [eq133]; exact hk) (v := (some (.int (nar .boolean (1 : Int32))))) (fun h => by rw [Bd.returns] at h; cases h) Bd.notSynchronized (fun fs hr => retN X133 hx (t := .boolean) Bd.returns (by simp) (hb hby at_203) hr) (by decide) (by decide) (by rw [eq133]; exact ⟨rfl, N133⟩)
                · show own_Ends p e below F (T126.setTop (mkF m 151 A31 [(.ref cu)]))
                  obtain ⟨A134, hA134⟩ : ∃ z : Array Slot, z = #[.val (.int p1), .val (.int p2), .val (.int p3), .val (.int p4), .val (.int p5), .val (.int p6), .val (.int z2), .val (.int z7), .val (.int z12), .val (.int z17), .val (.int (3 : Int32)), .val (.int z24), .val (.ref a29), .val (.ref cu), .unset, .unset] := ⟨_, rfl⟩
                  refine own_step (fun _ k => XS.astore X126.here hx rfl (hb hby at_151) rfl rfl (l' := A134) (by rw [hA31, hA134]; exact rfl) k) ?_
                  show own_Ends p e below F (T126.setTop (mkF m 153 A134 []))
                  refine own_step (fun _ k => XS.iload X126.here hx rfl (hb hby at_153) (by rw [hA134]; rfl) k) ?_
                  show own_Ends p e below F (T126.setTop (mkF m 155 A134 [(.int z7)]))
                  refine own_step (fun _ k => XS.iload X126.here hx rfl (hb hby at_155) (by rw [hA134]; rfl) k) ?_
                  show own_Ends p e below F (T126.setTop (mkF m 157 A134 [(.int z17), (.int z7)]))
                  refine own_step (fun _ k => XS.iloadN X126.here hx rfl (hb hby at_157) (by rw [hA134]; rfl) k) ?_
                  show own_Ends p e below F (T126.setTop (mkF m 158 A134 [(.int p4), (.int z17), (.int z7)]))
                  refine own_step (fun _ k => XS.iload X126.here hx rfl (hb hby at_158) (by rw [hA134]; rfl) k) ?_
                  show own_Ends p e below F (T126.setTop (mkF m 160 A134 [(.int p5), (.int p4), (.int z17), (.int z7)]))
                  obtain ⟨_, _, ⟨T135, L135, k135, n135⟩, -, X135, hS135, gr135, ⟨Lc135, hQ135, l135, y135, z135⟩, st135⟩ := callSS X126 hx (y := (⟨"com/example/greater_than/greaterthan/page/PageHasNextPinLaw", "cursor", "(ZZII)Ljava/lang/String;"⟩ : MethodName)) hown (mvT hZ (own_g hw 26 rfl)) (mvT hZ (own_g hw 27 rfl)) (mvT hZ (own_g hw 28 rfl)) (mvT hZ (own_g hw 29 rfl)) (by decide) (backOfS (W := 0) (rm5 l Z a0 hw [] z7 z17 p4 p5 zc T126.heap n0 Z126 S0_126 hz) hZ (own_g hw 29 rfl) (own_g hw 28 rfl) (by decide) (by decide)) (g := (mkF m 160 A134 [(.int p5), (.int p4), (.int z17), (.int z7)])) rfl (by rw [hml]; show A134.size = _; rw [hA134]; rfl) (argsL := [(.int z7), (.int z17), (.int p4), (.int p5)]) (rest := []) (lenOf pd__28ZZII_29Ljava_2flang_2fString_3b rfl) rfl (by show 2 * 0 + _ ≤ _; exact Nat.le_of_eq rfl) (hb hby at_160) (fun _ _ => ⟨rfl, rfl, (by decide : 8 + 3 ≤ _), (by decide : 24 + 8 ≤ _)⟩)
                  dsimp only [Pt.U, Pt.locs, Pt.cells, Pt.slots] at X135 l135 y135 z135 st135 hQ135 hS135 gr135
                  subst l135 y135 z135
                  obtain ⟨u135, rfl, Nq135, Kq135, fq0_135⟩ := hQ135
                  have N135 := Fr.app N126 Nq135
                  have Z135 : n0 ≤ T135.heap.size := Nat.le_trans Z126 Kq135.1
                  have SZ135 : h0.size ≤ T135.heap.size := Nat.le_trans SZ126 Kq135.1
                  have S0_135 := own_Sta_keep S0_126 Kq135 all0
                  have S1_135 := own_Sta_keep S1_126 Kq135 all0
                  have S2_135 := own_Sta_keep S2_126 Kq135 all0
                  have S3_135 := own_Sta_keep S3_126 Kq135 all0
                  have S4_135 := own_Sta_keep S4_126 Kq135 all0
                  have hZ := own_warm hZ hS135
                  have hown := own_find hown hS135
                  have hS := foldS hS (by exact hk) hS135 gr135
                  have hk := Nat.le_refl T135.heap.size
                  refine own_trans st135 ?_
                  show own_Ends p e below F (T135.setTop (mkF m 163 A134 [u135]))
                  obtain ⟨A136, hA136⟩ : ∃ z : Array Slot, z = #[.val (.int p1), .val (.int p2), .val (.int p3), .val (.int p4), .val (.int p5), .val (.int p6), .val (.int z2), .val (.int z7), .val (.int z12), .val (.int z17), .val (.int (3 : Int32)), .val (.int z24), .val (.ref a29), .val (.ref cu), .val u135, .unset] := ⟨_, rfl⟩
                  refine own_step (fun _ k => XS.astore X135.here hx rfl (hb hby at_163) rfl fq0_135 (l' := A136) (by rw [hA134, hA136]; exact (XS.store1 (o := .unset) rfl (Or.inl rfl) (own_catR fq0_135))) k) ?_
                  show own_Ends p e below F (T135.setTop (mkF m 165 A136 []))
                  obtain ⟨T137, h137, X137, e137, E137, A137, D137, -, st137⟩ := newO X135 hx hZ hown (own_g hw 58 rfl) (own_g hw 59 rfl) (own_g hw 60 rfl) rfl (g := (mkF m 165 A136 [])) rfl (hb hby at_165) (by decide) (by decide)
                  obtain ⟨a137, g137⟩ : ∃ z, z = T135.heap.size := ⟨_, rfl⟩
                  rw [← g137] at A137 D137 st137
                  have ge_a137 : n0 ≤ a137 := Nat.le_trans Z135 (Nat.le_of_eq g137.symm)
                  have sz_a137 : h0.size ≤ a137 := Nat.le_trans SZ135 (Nat.le_of_eq g137.symm)
                  have ne_dd_a137 : dd ≠ a137 := Nat.ne_of_lt (by rw [g137]; exact ((((((((((VD.ext E29).keep Kq30 (ninS ne_dd_a29 nin0)).keep Kq120 nin0).keep Kq121 (ninS ne_dd_a29 nin0)).keep Kq122 nin0).keep Kq123 (ninS ne_dd_a29 (ninS ne_dd_c121 nin0))).keep Kq124 nin0).keep Kq125 (ninS ne_dd_a29 (ninS ne_dd_c121 nin0))).keep Kq126 nin0).keep Kq135 nin0).lt)
                  have ne_cc_a137 : cc ≠ a137 := Nat.ne_of_lt (by rw [g137]; exact ((((((((((BC.ext E29).keep Kq30 (ninS ne_cc_a29 nin0)).keep Kq120 nin0).keep Kq121 (ninS ne_cc_a29 nin0)).keep Kq122 nin0).keep Kq123 (ninS ne_cc_a29 (ninS ne_cc_c121 nin0))).keep Kq124 nin0).keep Kq125 (ninS ne_cc_a29 (ninS ne_cc_c121 nin0))).keep Kq126 nin0).keep Kq135 nin0).lt)
                  have ne_a29_a137 : a29 ≠ a137 := Nat.ne_of_lt (by rw [g137]; exact ((fq1_125.keep Kq126 nin0).keep Kq135 nin0).lt)
                  have ne_c120_a137 : c120 ≠ a137 := Nat.ne_of_lt (by rw [g137]; exact (((((((fq0_120.keep Kq121).keep Kq122).keep Kq123).keep Kq124).keep Kq125).keep Kq126).keep Kq135).lt)
                  have ne_c121_a137 : c121 ≠ a137 := Nat.ne_of_lt (by rw [g137]; exact ((fq4_125.keep Kq126 nin0).keep Kq135 nin0).lt)
                  have ne_c122_a137 : c122 ≠ a137 := Nat.ne_of_lt (by rw [g137]; exact (((((fq0_122.keep Kq123).keep Kq124).keep Kq125).keep Kq126).keep Kq135).lt)
                  have ne_c124_a137 : c124 ≠ a137 := Nat.ne_of_lt (by rw [g137]; exact (((fq0_124.keep Kq125).keep Kq126).keep Kq135).lt)
                  have Z137 : n0 ≤ h137.size := Nat.le_trans Z135 E137.1
                  have SZ137 : h0.size ≤ h137.size := Nat.le_trans SZ135 E137.1
                  have hk := Nat.le_trans hk E137.1
                  have F137_rows : Fld Z h137 a137 "com/example/greater_than/greaterthan/page/Page" "rows" "Ljava/util/List;" .null := D137 (Or.inr (own_g hw 146 rfl)) (ty := (.object "java/util/List")) (by decide)
                  have F137_previousCursor : Fld Z h137 a137 "com/example/greater_than/greaterthan/page/Page" "previousCursor" "Ljava/lang/String;" .null := D137 (Or.inr (own_g hw 148 rfl)) (ty := (.object "java/lang/String")) (by decide)
                  have F137_nextCursor : Fld Z h137 a137 "com/example/greater_than/greaterthan/page/Page" "nextCursor" "Ljava/lang/String;" .null := D137 (Or.inr (own_g hw 150 rfl)) (ty := (.object "java/lang/String")) (by decide)
                  refine own_step st137 ?_
                  show own_Ends p e below F (T137.setTop (mkF m 168 A136 [(.ref a137)]))
                  refine own_step (fun _ k => XS.dup X137.here hx rfl (hb hby at_168) rfl rfl k) ?_
                  show own_Ends p e below F (T137.setTop (mkF m 169 A136 [(.ref a137), (.ref a137)]))
                  refine own_step (fun _ k => XS.aload X137.here hx rfl (hb hby at_169) (by rw [hA136]; rfl) rfl k) ?_
                  show own_Ends p e below F (T137.setTop (mkF m 171 A136 [(.ref a29), (.ref a137), (.ref a137)]))
                  refine own_step (fun _ k => XS.aload X137.here hx rfl (hb hby at_171) (by rw [hA136]; rfl) fq0_135 k) ?_
                  show own_Ends p e below F (T137.setTop (mkF m 173 A136 [u135, (.ref a29), (.ref a137), (.ref a137)]))
                  refine own_step (fun _ k => XS.aload X137.here hx rfl (hb hby at_173) (by rw [hA136]; rfl) rfl k) ?_
                  show own_Ends p e below F (T137.setTop (mkF m 175 A136 [(.ref cu), u135, (.ref a29), (.ref a137), (.ref a137)]))
                  obtain ⟨_, _, ⟨T138, L138, k138, n138⟩, -, X138, ⟨Lc138, hQ138, l138, y138, z138⟩, st138⟩ := X137.specialBack hx (y := (⟨"com/example/greater_than/greaterthan/page/Page", "<init>", "(Ljava/util/List;Ljava/lang/String;Ljava/lang/String;)V"⟩ : MethodName)) rfl hown (mvT hZ (own_g hw 61 rfl)) (mvT hZ (own_g hw 62 rfl)) (mvT hZ (own_g hw 63 rfl)) (by decide) (backOf (W := 1) (rm11_3 l Z a0 hw [] a137 a29 c121 kc121 (.ref c120) (.ref c122) (.ref c124) u135 (.ref cu) ee ma mu mv mo h137 n0 Z137 A137 ge_a137 F137_rows F137_previousCursor F137_nextCursor (((fq4_125.keep Kq126 nin0).keep Kq135 nin0).ext E137) (((((((fq7_121.keep Kq122).keep Kq123).keep Kq124).keep Kq125).keep Kq126).keep Kq135).ext E137) (Or.inr ⟨_, _, _, rfl, ((((((((fq0_120.keep Kq121).keep Kq122).keep Kq123).keep Kq124).keep Kq125).keep Kq126).keep Kq135).ext E137), (own_g hw 210 rfl)⟩) (Or.inr ⟨_, _, _, rfl, ((((((fq0_122.keep Kq123).keep Kq124).keep Kq125).keep Kq126).keep Kq135).ext E137), (own_g hw 210 rfl)⟩) (Or.inr ⟨_, _, _, rfl, ((((fq0_124.keep Kq125).keep Kq126).keep Kq135).ext E137), (own_g hw 210 rfl)⟩) (((fq0_125.keep Kq126).keep Kq135).ext E137) (((fq2_125.keep Kq126 nin0).keep Kq135 nin0).ext E137) (((fq3_125.keep Kq126 nin0).keep Kq135 nin0).ext E137) (Sta.ext E137 S2_135) M_ma M_mu M_mv M_mo fq0_135 rfl) hZ (own_g hw 63 rfl) (own_g hw 60 rfl) (by decide) (by decide)) (g := (mkF m 175 A136 [(.ref cu), u135, (.ref a29), (.ref a137), (.ref a137)])) rfl (by rw [hml]; show A136.size = _; rw [hA136]; rfl) (Steps.refl _) (a := a137) (argsL := [(.ref a29), u135, (.ref cu)]) (rest := [(.ref a137)]) (lenOf pd__28Ljava_2futil_2fList_3bLjava_2flang_2fString_3bLjava_2flang_2fString_3b_29V rfl) rfl (by show 2 * 0 + _ ≤ _; exact Nat.le_of_eq rfl) (hb hby at_175) (fun _ _ => ⟨rfl, e137, (by decide : 12 + 3 ≤ _), (by decide : 35 + 8 ≤ _)⟩)
                  dsimp only [Pt.U, Pt.locs, Pt.cells, Pt.slots] at X138 l138 y138 z138 st138 hQ138
                  subst l138 y138 z138
                  obtain ⟨rfl, Nq138, Kq138, fq0_138, fq1_138, fq2_138⟩ := hQ138
                  have N138 := Fr.app N135 Nq138
                  have Z138 : n0 ≤ T138.heap.size := Nat.le_trans Z137 Kq138.1
                  have SZ138 : h0.size ≤ T138.heap.size := Nat.le_trans SZ137 Kq138.1
                  have S0_138 := own_Sta_keep (Sta.ext E137 S0_135) Kq138 (allS (own_ns_exa A137) all0)
                  have S1_138 := own_Sta_keep (Sta.ext E137 S1_135) Kq138 (allS (own_ns_exa A137) all0)
                  have S2_138 := own_Sta_keep (Sta.ext E137 S2_135) Kq138 (allS (own_ns_exa A137) all0)
                  have S3_138 := own_Sta_keep (Sta.ext E137 S3_135) Kq138 (allS (own_ns_exa A137) all0)
                  have S4_138 := own_Sta_keep (Sta.ext E137 S4_135) Kq138 (allS (own_ns_exa A137) all0)
                  have hk := Nat.le_trans hk Kq138.1
                  refine own_trans st138 ?_
                  show own_Ends p e below F (T138.setTop (mkF m 178 A136 [(.ref a137)]))
                  obtain ⟨A139, hA139⟩ : ∃ z : Array Slot, z = #[.val (.int p1), .val (.int p2), .val (.int p3), .val (.int p4), .val (.int p5), .val (.int p6), .val (.int z2), .val (.int z7), .val (.int z12), .val (.int z17), .val (.int (3 : Int32)), .val (.int z24), .val (.ref a29), .val (.ref cu), .val u135, .val (.ref a137)] := ⟨_, rfl⟩
                  refine own_step (fun _ k => XS.astore X138.here hx rfl (hb hby at_178) rfl rfl (l' := A139) (by rw [hA136, hA139]; exact rfl) k) ?_
                  show own_Ends p e below F (T138.setTop (mkF m 180 A139 []))
                  refine own_step (fun _ k => XS.aload X138.here hx rfl (hb hby at_180) (by rw [hA139]; rfl) rfl k) ?_
                  show own_Ends p e below F (T138.setTop (mkF m 182 A139 [(.ref a137)]))
                  obtain ⟨cq140, kq140, qa140, qb140, qc140⟩ := isOf (s := (s.setVm T135.vm)) (T := T138) hZ rfl fq0_138
                  obtain ⟨_, _, ⟨T140, L140, k140, n140⟩, -, X140, ⟨Lc140, hQ140, l140, y140, z140⟩, st140⟩ := X138.virtualBack hx (y := (⟨"com/example/greater_than/greaterthan/page/Page", "hasNext", "()Z"⟩ : MethodName)) (z := (⟨"com/example/greater_than/greaterthan/page/Page", "hasNext", "()Z"⟩ : MethodName)) hown (mvT hZ (own_g hw 151 rfl)) (mvT hZ (own_g hw 152 rfl)) (notFace_of_selects (args := #[]) (mvT hZ (own_g hw 154 rfl))) (mvT hZ (own_g hw 154 rfl)) (mvT hZ (own_g hw 153 rfl)) (by decide) (backOf (W := 0) (rm21r l Z a0 hw [] a137 cu T138.heap n0 Z138 fq2_138) hZ (own_g hw 155 rfl) (own_g hw 60 rfl) (by decide) (by decide)) qa140 qc140 (g := (mkF m 182 A139 [(.ref a137)])) rfl (by rw [hml]; show A139.size = _; rw [hA139]; rfl) (Steps.refl _) (argsL := []) (rest := []) (lenOf pd__28_29Z rfl) rfl (by show 2 * 0 + _ ≤ _; exact Nat.le_of_eq rfl) (hb hby at_182) (fun _ _ => ⟨rfl, rfl, (by decide : 15 + 0 ≤ _), (by decide : 43 + 0 ≤ _)⟩)
                  dsimp only [Pt.U, Pt.locs, Pt.cells, Pt.slots] at X140 l140 y140 z140 st140 hQ140
                  subst l140 y140 z140
                  obtain ⟨rfl, Nq140, eq140⟩ := hQ140
                  have N140 := Fr.app N138 Nq140
                  refine own_trans st140 ?_
                  show own_Ends p e below F (T140.setTop (mkF m 185 A139 [(.int (1 : Int32))]))
                  refine own_step (fun _ k => XS.aload X140.here hx rfl (hb hby at_185) (by rw [hA139]; rfl) rfl k) ?_
                  show own_Ends p e below F (T140.setTop (mkF m 187 A139 [(.ref cu), (.int (1 : Int32))]))
                  refine own_step (fun _ k => XS.ifnullNo X140.here hx rfl (hb hby at_187) rfl k) ?_
                  show own_Ends p e below F (T140.setTop (mkF m 190 A139 [(.int (1 : Int32))]))
                  refine own_step (fun _ k => XS.iconst X140.here hx rfl (hb hby at_190) k) ?_
                  show own_Ends p e below F (T140.setTop (mkF m 191 A139 [(.int (1 : Int32)), (.int (1 : Int32))]))
                  refine own_step (fun _ k => XS.goto X140.here hx rfl (pc0 := 191) (pc' := 195) rfl (hb hby at_191) (by decide) (by decide) k) ?_
                  show own_Ends p e below F (T140.setTop (mkF m 195 A139 [(.int (1 : Int32)), (.int (1 : Int32))]))
                  refine own_step (fun _ k => XS.icmpNo X140.here hx rfl (hb hby at_195) rfl (teq (by decide : (1 : Int32) = (1 : Int32))).2 k) ?_
                  show own_Ends p e below F (T140.setTop (mkF m 198 A139 []))
                  refine own_step (fun _ k => XS.iconst X140.here hx rfl (hb hby at_198) k) ?_
                  show own_Ends p e below F (T140.setTop (mkF m 199 A139 [(.int (1 : Int32))]))
                  refine own_step (fun _ k => XS.goto X140.here hx rfl (pc0 := 199) (pc' := 203) rfl (hb hby at_199) (by decide) (by decide) k) ?_
                  show own_Ends p e below F (T140.setTop (mkF m 203 A139 [(.int (1 : Int32))]))
                  rw [hF]
                  exact own_retW X140 hS (by rw [eq140]; exact hk) (v := (some (.int (nar .boolean (1 : Int32))))) (fun h => by rw [Bd.returns] at h; cases h) Bd.notSynchronized (fun fs hr => retN X140 hx (t := .boolean) Bd.returns (by simp) (hb hby at_203) hr) (by decide) (by decide) (by rw [eq140]; exact ⟨rfl, N140⟩)
              · refine own_step (fun _ k => XS.ifNo X30.here hx rfl (hb hby at_93) rfl ((if0 _ _).trans (feq c93_119).1) k) ?_
                show own_Ends p e below F (T30.setTop (mkF m 96 A31 [(.ref a29)]))
                refine own_step (fun _ k => XS.aconstNull X30.here hx rfl (hb hby at_96) k) ?_
                show own_Ends p e below F (T30.setTop (mkF m 97 A31 [.null, (.ref a29)]))
                refine own_step (fun _ k => XS.goto X30.here hx rfl (pc0 := 97) (pc' := 105) rfl (hb hby at_97) (by decide) (by decide) k) ?_
                show own_Ends p e below F (T30.setTop (mkF m 105 A31 [.null, (.ref a29)]))
                obtain ⟨cq141, kq141, qa141, qb141, qc141⟩ := isOf (s := (s.setVm s.vm)) (T := T30) hZ rfl fq0_30
                obtain ⟨_, _, ⟨T141, L141, k141, n141⟩, -, X141, ⟨Lc141, hQ141, l141, y141, z141⟩, st141⟩ := X30.virtualBack hx (y := (⟨"java/util/ArrayList", "add", "(Ljava/lang/Object;)Z"⟩ : MethodName)) (z := (⟨"java/util/ArrayList", "add", "(Ljava/lang/Object;)Z"⟩ : MethodName)) hown (mvT hZ (own_g hw 159 rfl)) (mvT hZ (own_g hw 160 rfl)) (notFace_of_selects (args := #[]) (mvT hZ (own_g hw 162 rfl))) (mvT hZ (own_g hw 162 rfl)) (mvT hZ (own_g hw 161 rfl)) (by decide) (backOf (W := 0) (rm22_0 l Z a0 hw [] a29 dd kd .null T30.heap n0 Z30 fq0_30 ge_a29 fq1_30 fq2_30 fq3_30 (Or.inl rfl) S1_30 ((VD.ext E29).keep Kq30 (ninS ne_dd_a29 nin0))) hZ (own_g hw 163 rfl) (own_g hw 2 rfl) (by decide) (by decide)) qa141 qc141 (g := (mkF m 105 A31 [.null, (.ref a29)])) rfl (by rw [hml]; show A31.size = _; rw [hA31]; rfl) (Steps.refl _) (argsL := [.null]) (rest := []) (lenOf pd__28Ljava_2flang_2fObject_3b_29Z rfl) rfl (by show 2 * 0 + _ ≤ _; exact Nat.le_of_eq rfl) (hb hby at_105) (fun _ _ => ⟨rfl, rfl, (by decide : 1 + 1 ≤ _), (by decide : 3 + 10 ≤ _)⟩)
                dsimp only [Pt.U, Pt.locs, Pt.cells, Pt.slots] at X141 l141 y141 z141 st141 hQ141
                subst l141 y141 z141
                obtain ⟨c141, kc141, rfl, Nq141, Kq141, fq0_141, fq1_141, fq2_141, fq3_141, fq4_141, fq5_141, fq6_141, fq7_141⟩ := hQ141
                have N141 := Fr.app N30 Nq141
                have Z141 : n0 ≤ T141.heap.size := Nat.le_trans Z30 Kq141.1
                have SZ141 : h0.size ≤ T141.heap.size := Nat.le_trans SZ30 Kq141.1
                have S0_141 := own_Sta_keep S0_30 Kq141 (allS (own_ns_exa fq0_30) all0)
                have S1_141 := own_Sta_keep S1_30 Kq141 (allS (own_ns_exa fq0_30) all0)
                have S2_141 := own_Sta_keep S2_30 Kq141 (allS (own_ns_exa fq0_30) all0)
                have S3_141 := own_Sta_keep S3_30 Kq141 (allS (own_ns_exa fq0_30) all0)
                have S4_141 := own_Sta_keep S4_30 Kq141 (allS (own_ns_exa fq0_30) all0)
                have ne_dd_c141 : dd ≠ c141 := Nat.ne_of_lt (Nat.lt_of_lt_of_le (((VD.ext E29).keep Kq30 (ninS ne_dd_a29 nin0))).lt fq0_141)
                have ne_cc_c141 : cc ≠ c141 := Nat.ne_of_lt (Nat.lt_of_lt_of_le (((BC.ext E29).keep Kq30 (ninS ne_cc_a29 nin0))).lt fq0_141)
                have ne_a29_c141 : a29 ≠ c141 := Nat.ne_of_lt (Nat.lt_of_lt_of_le (fq1_30).lt fq0_141)
                have ge_c141 : n0 ≤ c141 := Nat.le_trans Z30 fq0_141
                have sz_c141 : h0.size ≤ c141 := Nat.le_trans SZ30 fq0_141
                have hk := Nat.le_trans hk Kq141.1
                refine own_trans st141 ?_
                show own_Ends p e below F (T141.setTop (mkF m 108 A31 [(.int (1 : Int32))]))
                refine own_step (fun _ k => XS.pop X141.here hx rfl (hb hby at_108) rfl rfl k) ?_
                show own_Ends p e below F (T141.setTop (mkF m 109 A31 []))
                refine own_step (fun _ k => XS.iload X141.here hx rfl (hb hby at_109) (by rw [hA31]; rfl) k) ?_
                show own_Ends p e below F (T141.setTop (mkF m 111 A31 [(.int (3 : Int32))]))
                refine own_step (fun _ k => XS.iconst X141.here hx rfl (hb hby at_111) k) ?_
                show own_Ends p e below F (T141.setTop (mkF m 112 A31 [(.int (2 : Int32)), (.int (3 : Int32))]))
                refine own_step (fun _ k => XS.icmpNo X141.here hx rfl (hb hby at_112) rfl (flt (by decide : ¬ ((3 : Int32) < (2 : Int32)))).1 k) ?_
                show own_Ends p e below F (T141.setTop (mkF m 115 A31 []))
                refine own_step (fun _ k => XS.aload X141.here hx rfl (hb hby at_115) (by rw [hA31]; rfl) rfl k) ?_
                show own_Ends p e below F (T141.setTop (mkF m 117 A31 [(.ref a29)]))
                refine own_step (fun _ k => XS.iload X141.here hx rfl (hb hby at_117) (by rw [hA31]; rfl) k) ?_
                show own_Ends p e below F (T141.setTop (mkF m 119 A31 [(.int p6), (.ref a29)]))
                obtain ⟨_, _, ⟨T142, L142, k142, n142⟩, -, X142, ⟨Lc142, hQ142, l142, y142, z142⟩, st142⟩ := Jvm.LawKit.callS X141 hx (y := (⟨"java/lang/Integer", "valueOf", "(I)Ljava/lang/Integer;"⟩ : MethodName)) hown (mvT hZ (own_g hw 189 rfl)) (mvT hZ (own_g hw 190 rfl)) (mvT hZ (own_g hw 191 rfl)) (mvT hZ (own_g hw 192 rfl)) (by decide) (backOf (W := 1) (rm27 l Z a0 hw [] p6 cc T141.heap n0 Z141 S3_141 S4_141 (((BC.ext E29).keep Kq30 (ninS ne_cc_a29 nin0)).keep Kq141 (ninS ne_cc_a29 nin0))) hZ (own_g hw 192 rfl) (own_g hw 191 rfl) (by decide) (by decide)) (g := (mkF m 119 A31 [(.int p6), (.ref a29)])) rfl (by rw [hml]; show A31.size = _; rw [hA31]; rfl) (argsL := [(.int p6)]) (rest := [(.ref a29)]) (lenOf pd__28I_29Ljava_2flang_2fInteger_3b rfl) rfl (by show 2 * 0 + _ ≤ _; exact Nat.le_of_eq rfl) (hb hby at_119) (fun _ _ => ⟨rfl, rfl, (by decide : 2 + 1 ≤ _), (by decide : 13 + 1 ≤ _)⟩)
                dsimp only [Pt.U, Pt.locs, Pt.cells, Pt.slots] at X142 l142 y142 z142 st142 hQ142
                subst l142 y142 z142
                obtain ⟨c142, rfl, Nq142, Kq142, fq0_142⟩ := hQ142
                have N142 := Fr.app N141 Nq142
                have Z142 : n0 ≤ T142.heap.size := Nat.le_trans Z141 Kq142.1
                have SZ142 : h0.size ≤ T142.heap.size := Nat.le_trans SZ141 Kq142.1
                have S0_142 := own_Sta_keep S0_141 Kq142 all0
                have S1_142 := own_Sta_keep S1_141 Kq142 all0
                have S2_142 := own_Sta_keep S2_141 Kq142 all0
                have S3_142 := own_Sta_keep S3_141 Kq142 all0
                have S4_142 := own_Sta_keep S4_141 Kq142 all0
                have hk := Nat.le_trans hk Kq142.1
                refine own_step st142 ?_
                show own_Ends p e below F (T142.setTop (mkF m 122 A31 [(.ref c142), (.ref a29)]))
                obtain ⟨cq143, kq143, qa143, qb143, qc143⟩ := isOf (s := (s.setVm s.vm)) (T := T142) hZ rfl (fq1_141.keep Kq142)
                obtain ⟨_, _, ⟨T143, L143, k143, n143⟩, -, X143, ⟨Lc143, hQ143, l143, y143, z143⟩, st143⟩ := X142.virtualBack hx (y := (⟨"java/util/ArrayList", "add", "(Ljava/lang/Object;)Z"⟩ : MethodName)) (z := (⟨"java/util/ArrayList", "add", "(Ljava/lang/Object;)Z"⟩ : MethodName)) hown (mvT hZ (own_g hw 159 rfl)) (mvT hZ (own_g hw 160 rfl)) (notFace_of_selects (args := #[]) (mvT hZ (own_g hw 162 rfl))) (mvT hZ (own_g hw 162 rfl)) (mvT hZ (own_g hw 161 rfl)) (by decide) (backOf (W := 0) (rm22_1 l Z a0 hw [] a29 c141 kc141 (.ref c142) .null T142.heap n0 Z142 (fq1_141.keep Kq142) ge_a29 (fq2_141.keep Kq142 nin0) (fq3_141.keep Kq142 nin0) (fq4_141.keep Kq142 nin0) (Or.inr ⟨_, _, _, rfl, fq0_142, (own_g hw 210 rfl)⟩) (fq5_141.keep Kq142 nin0) fq6_141 ge_c141) hZ (own_g hw 163 rfl) (own_g hw 2 rfl) (by decide) (by decide)) qa143 qc143 (g := (mkF m 122 A31 [(.ref c142), (.ref a29)])) rfl (by rw [hml]; show A31.size = _; rw [hA31]; rfl) (Steps.refl _) (argsL := [(.ref c142)]) (rest := []) (lenOf pd__28Ljava_2flang_2fObject_3b_29Z rfl) rfl (by show 2 * 0 + _ ≤ _; exact Nat.le_of_eq rfl) (hb hby at_122) (fun _ _ => ⟨rfl, rfl, (by decide : 3 + 0 ≤ _), (by decide : 14 + 0 ≤ _)⟩)
                dsimp only [Pt.U, Pt.locs, Pt.cells, Pt.slots] at X143 l143 y143 z143 st143 hQ143
                subst l143 y143 z143
                obtain ⟨rfl, Nq143, Kq143, fq0_143, fq1_143, fq2_143, fq3_143, fq4_143⟩ := hQ143
                have N143 := Fr.app N142 Nq143
                have Z143 : n0 ≤ T143.heap.size := Nat.le_trans Z142 Kq143.1
                have SZ143 : h0.size ≤ T143.heap.size := Nat.le_trans SZ142 Kq143.1
                have S0_143 := own_Sta_keep S0_142 Kq143 (allS (own_ns_exa (fq1_141.keep Kq142)) (allS (own_ns_exa (fq7_141.keep Kq142)) all0))
                have S1_143 := own_Sta_keep S1_142 Kq143 (allS (own_ns_exa (fq1_141.keep Kq142)) (allS (own_ns_exa (fq7_141.keep Kq142)) all0))
                have S2_143 := own_Sta_keep S2_142 Kq143 (allS (own_ns_exa (fq1_141.keep Kq142)) (allS (own_ns_exa (fq7_141.keep Kq142)) all0))
                have S3_143 := own_Sta_keep S3_142 Kq143 (allS (own_ns_exa (fq1_141.keep Kq142)) (allS (own_ns_exa (fq7_141.keep Kq142)) all0))
                have S4_143 := own_Sta_keep S4_142 Kq143 (allS (own_ns_exa (fq1_141.keep Kq142)) (allS (own_ns_exa (fq7_141.keep Kq142)) all0))
                have hk := Nat.le_trans hk Kq143.1
                refine own_trans st143 ?_
                show own_Ends p e below F (T143.setTop (mkF m 125 A31 [(.int (1 : Int32))]))
                refine own_step (fun _ k => XS.pop X143.here hx rfl (hb hby at_125) rfl rfl k) ?_
                show own_Ends p e below F (T143.setTop (mkF m 126 A31 []))
                refine own_step (fun _ k => XS.iload X143.here hx rfl (hb hby at_126) (by rw [hA31]; rfl) k) ?_
                show own_Ends p e below F (T143.setTop (mkF m 128 A31 [(.int (3 : Int32))]))
                refine own_step (fun _ k => XS.iconst X143.here hx rfl (hb hby at_128) k) ?_
                show own_Ends p e below F (T143.setTop (mkF m 129 A31 [(.int (3 : Int32)), (.int (3 : Int32))]))
                refine own_step (fun _ k => XS.icmpNo X143.here hx rfl (hb hby at_129) rfl (flt (by decide : ¬ ((3 : Int32) < (3 : Int32)))).1 k) ?_
                show own_Ends p e below F (T143.setTop (mkF m 132 A31 []))
                refine own_step (fun _ k => XS.aload X143.here hx rfl (hb hby at_132) (by rw [hA31]; rfl) rfl k) ?_
                show own_Ends p e below F (T143.setTop (mkF m 134 A31 [(.ref a29)]))
                refine own_step (fun _ k => XS.iloadN X143.here hx rfl (hb hby at_134) (by rw [hA31]; rfl) k) ?_
                show own_Ends p e below F (T143.setTop (mkF m 135 A31 [(.int p4), (.ref a29)]))
                obtain ⟨_, _, ⟨T144, L144, k144, n144⟩, -, X144, ⟨Lc144, hQ144, l144, y144, z144⟩, st144⟩ := Jvm.LawKit.callS X143 hx (y := (⟨"java/lang/Integer", "valueOf", "(I)Ljava/lang/Integer;"⟩ : MethodName)) hown (mvT hZ (own_g hw 189 rfl)) (mvT hZ (own_g hw 190 rfl)) (mvT hZ (own_g hw 191 rfl)) (mvT hZ (own_g hw 192 rfl)) (by decide) (backOf (W := 1) (rm27 l Z a0 hw [] p4 cc T143.heap n0 Z143 S3_143 S4_143 (((((BC.ext E29).keep Kq30 (ninS ne_cc_a29 nin0)).keep Kq141 (ninS ne_cc_a29 nin0)).keep Kq142 nin0).keep Kq143 (ninS ne_cc_a29 (ninS ne_cc_c141 nin0)))) hZ (own_g hw 192 rfl) (own_g hw 191 rfl) (by decide) (by decide)) (g := (mkF m 135 A31 [(.int p4), (.ref a29)])) rfl (by rw [hml]; show A31.size = _; rw [hA31]; rfl) (argsL := [(.int p4)]) (rest := [(.ref a29)]) (lenOf pd__28I_29Ljava_2flang_2fInteger_3b rfl) rfl (by show 2 * 0 + _ ≤ _; exact Nat.le_of_eq rfl) (hb hby at_135) (fun _ _ => ⟨rfl, rfl, (by decide : 3 + 1 ≤ _), (by decide : 14 + 1 ≤ _)⟩)
                dsimp only [Pt.U, Pt.locs, Pt.cells, Pt.slots] at X144 l144 y144 z144 st144 hQ144
                subst l144 y144 z144
                obtain ⟨c144, rfl, Nq144, Kq144, fq0_144⟩ := hQ144
                have N144 := Fr.app N143 Nq144
                have Z144 : n0 ≤ T144.heap.size := Nat.le_trans Z143 Kq144.1
                have SZ144 : h0.size ≤ T144.heap.size := Nat.le_trans SZ143 Kq144.1
                have S0_144 := own_Sta_keep S0_143 Kq144 all0
                have S1_144 := own_Sta_keep S1_143 Kq144 all0
                have S2_144 := own_Sta_keep S2_143 Kq144 all0
                have S3_144 := own_Sta_keep S3_143 Kq144 all0
                have S4_144 := own_Sta_keep S4_143 Kq144 all0
                have hk := Nat.le_trans hk Kq144.1
                refine own_step st144 ?_
                show own_Ends p e below F (T144.setTop (mkF m 138 A31 [(.ref c144), (.ref a29)]))
                obtain ⟨cq145, kq145, qa145, qb145, qc145⟩ := isOf (s := (s.setVm s.vm)) (T := T144) hZ rfl (fq0_143.keep Kq144)
                obtain ⟨_, _, ⟨T145, L145, k145, n145⟩, -, X145, ⟨Lc145, hQ145, l145, y145, z145⟩, st145⟩ := X144.virtualBack hx (y := (⟨"java/util/ArrayList", "add", "(Ljava/lang/Object;)Z"⟩ : MethodName)) (z := (⟨"java/util/ArrayList", "add", "(Ljava/lang/Object;)Z"⟩ : MethodName)) hown (mvT hZ (own_g hw 159 rfl)) (mvT hZ (own_g hw 160 rfl)) (notFace_of_selects (args := #[]) (mvT hZ (own_g hw 162 rfl))) (mvT hZ (own_g hw 162 rfl)) (mvT hZ (own_g hw 161 rfl)) (by decide) (backOf (W := 0) (rm22_2 l Z a0 hw [] a29 c141 kc141 (.ref c144) .null (.ref c142) T144.heap n0 Z144 (fq0_143.keep Kq144) ge_a29 (fq1_143.keep Kq144 nin0) (fq2_143.keep Kq144 nin0) (fq3_143.keep Kq144 nin0) (Or.inr ⟨_, _, _, rfl, fq0_144, (own_g hw 210 rfl)⟩) (fq4_143.keep Kq144 nin0) fq6_141 ge_c141) hZ (own_g hw 163 rfl) (own_g hw 2 rfl) (by decide) (by decide)) qa145 qc145 (g := (mkF m 138 A31 [(.ref c144), (.ref a29)])) rfl (by rw [hml]; show A31.size = _; rw [hA31]; rfl) (Steps.refl _) (argsL := [(.ref c144)]) (rest := []) (lenOf pd__28Ljava_2flang_2fObject_3b_29Z rfl) rfl (by show 2 * 0 + _ ≤ _; exact Nat.le_of_eq rfl) (hb hby at_138) (fun _ _ => ⟨rfl, rfl, (by decide : 4 + 0 ≤ _), (by decide : 15 + 0 ≤ _)⟩)
                dsimp only [Pt.U, Pt.locs, Pt.cells, Pt.slots] at X145 l145 y145 z145 st145 hQ145
                subst l145 y145 z145
                obtain ⟨rfl, Nq145, Kq145, fq0_145, fq1_145, fq2_145, fq3_145, fq4_145⟩ := hQ145
                have N145 := Fr.app N144 Nq145
                have Z145 : n0 ≤ T145.heap.size := Nat.le_trans Z144 Kq145.1
                have SZ145 : h0.size ≤ T145.heap.size := Nat.le_trans SZ144 Kq145.1
                have S0_145 := own_Sta_keep S0_144 Kq145 (allS (own_ns_exa (fq0_143.keep Kq144)) (allS (own_ns_exa (((fq7_141.keep Kq142).keep Kq143).keep Kq144)) all0))
                have S1_145 := own_Sta_keep S1_144 Kq145 (allS (own_ns_exa (fq0_143.keep Kq144)) (allS (own_ns_exa (((fq7_141.keep Kq142).keep Kq143).keep Kq144)) all0))
                have S2_145 := own_Sta_keep S2_144 Kq145 (allS (own_ns_exa (fq0_143.keep Kq144)) (allS (own_ns_exa (((fq7_141.keep Kq142).keep Kq143).keep Kq144)) all0))
                have S3_145 := own_Sta_keep S3_144 Kq145 (allS (own_ns_exa (fq0_143.keep Kq144)) (allS (own_ns_exa (((fq7_141.keep Kq142).keep Kq143).keep Kq144)) all0))
                have S4_145 := own_Sta_keep S4_144 Kq145 (allS (own_ns_exa (fq0_143.keep Kq144)) (allS (own_ns_exa (((fq7_141.keep Kq142).keep Kq143).keep Kq144)) all0))
                have hk := Nat.le_trans hk Kq145.1
                refine own_trans st145 ?_
                show own_Ends p e below F (T145.setTop (mkF m 141 A31 [(.int (1 : Int32))]))
                refine own_step (fun _ k => XS.pop X145.here hx rfl (hb hby at_141) rfl rfl k) ?_
                show own_Ends p e below F (T145.setTop (mkF m 142 A31 []))
                refine own_step (fun _ k => XS.iload X145.here hx rfl (hb hby at_142) (by rw [hA31]; rfl) k) ?_
                show own_Ends p e below F (T145.setTop (mkF m 144 A31 [(.int z2)]))
                refine own_step (fun _ k => XS.iload X145.here hx rfl (hb hby at_144) (by rw [hA31]; rfl) k) ?_
                show own_Ends p e below F (T145.setTop (mkF m 146 A31 [(.int z12), (.int z2)]))
                refine own_step (fun _ k => XS.iloadN X145.here hx rfl (hb hby at_146) (by rw [hA31]; rfl) k) ?_
                show own_Ends p e below F (T145.setTop (mkF m 147 A31 [(.int p2), (.int z12), (.int z2)]))
                refine own_step (fun _ k => XS.iloadN X145.here hx rfl (hb hby at_147) (by rw [hA31]; rfl) k) ?_
                show own_Ends p e below F (T145.setTop (mkF m 148 A31 [(.int p3), (.int p2), (.int z12), (.int z2)]))
                obtain ⟨_, _, ⟨T146, L146, k146, n146⟩, -, X146, hS146, gr146, ⟨Lc146, hQ146, l146, y146, z146⟩, st146⟩ := callSS X145 hx (y := (⟨"com/example/greater_than/greaterthan/page/PageHasNextPinLaw", "cursor", "(ZZII)Ljava/lang/String;"⟩ : MethodName)) hown (mvT hZ (own_g hw 26 rfl)) (mvT hZ (own_g hw 27 rfl)) (mvT hZ (own_g hw 28 rfl)) (mvT hZ (own_g hw 29 rfl)) (by decide) (backOfS (W := 0) (rm5 l Z a0 hw [] z2 z12 p2 p3 zc T145.heap n0 Z145 S0_145 hz) hZ (own_g hw 29 rfl) (own_g hw 28 rfl) (by decide) (by decide)) (g := (mkF m 148 A31 [(.int p3), (.int p2), (.int z12), (.int z2)])) rfl (by rw [hml]; show A31.size = _; rw [hA31]; rfl) (argsL := [(.int z2), (.int z12), (.int p2), (.int p3)]) (rest := []) (lenOf pd__28ZZII_29Ljava_2flang_2fString_3b rfl) rfl (by show 2 * 0 + _ ≤ _; exact Nat.le_of_eq rfl) (hb hby at_148) (fun _ _ => ⟨rfl, rfl, (by decide : 4 + 3 ≤ _), (by decide : 15 + 8 ≤ _)⟩)
                dsimp only [Pt.U, Pt.locs, Pt.cells, Pt.slots] at X146 l146 y146 z146 st146 hQ146 hS146 gr146
                subst l146 y146 z146
                obtain ⟨u146, rfl, Nq146, Kq146, fq0_146⟩ := hQ146
                have N146 := Fr.app N145 Nq146
                have Z146 : n0 ≤ T146.heap.size := Nat.le_trans Z145 Kq146.1
                have SZ146 : h0.size ≤ T146.heap.size := Nat.le_trans SZ145 Kq146.1
                have S0_146 := own_Sta_keep S0_145 Kq146 all0
                have S1_146 := own_Sta_keep S1_145 Kq146 all0
                have S2_146 := own_Sta_keep S2_145 Kq146 all0
                have S3_146 := own_Sta_keep S3_145 Kq146 all0
                have S4_146 := own_Sta_keep S4_145 Kq146 all0
                have hZ := own_warm hZ hS146
                have hown := own_find hown hS146
                have hS := foldS hS (by exact hk) hS146 gr146
                have hk := Nat.le_refl T146.heap.size
                refine own_trans st146 ?_
                show own_Ends p e below F (T146.setTop (mkF m 151 A31 [u146]))
                rcases ref_cases fq0_146 with rfl | ⟨cu, rfl⟩
                · show own_Ends p e below F (T146.setTop (mkF m 151 A31 [.null]))
                  obtain ⟨A147, hA147⟩ : ∃ z : Array Slot, z = #[.val (.int p1), .val (.int p2), .val (.int p3), .val (.int p4), .val (.int p5), .val (.int p6), .val (.int z2), .val (.int z7), .val (.int z12), .val (.int z17), .val (.int (3 : Int32)), .val (.int z24), .val (.ref a29), .val .null, .unset, .unset] := ⟨_, rfl⟩
                  refine own_step (fun _ k => XS.astore X146.here hx rfl (hb hby at_151) rfl rfl (l' := A147) (by rw [hA31, hA147]; exact rfl) k) ?_
                  show own_Ends p e below F (T146.setTop (mkF m 153 A147 []))
                  refine own_step (fun _ k => XS.iload X146.here hx rfl (hb hby at_153) (by rw [hA147]; rfl) k) ?_
                  show own_Ends p e below F (T146.setTop (mkF m 155 A147 [(.int z7)]))
                  refine own_step (fun _ k => XS.iload X146.here hx rfl (hb hby at_155) (by rw [hA147]; rfl) k) ?_
                  show own_Ends p e below F (T146.setTop (mkF m 157 A147 [(.int z17), (.int z7)]))
                  refine own_step (fun _ k => XS.iloadN X146.here hx rfl (hb hby at_157) (by rw [hA147]; rfl) k) ?_
                  show own_Ends p e below F (T146.setTop (mkF m 158 A147 [(.int p4), (.int z17), (.int z7)]))
                  refine own_step (fun _ k => XS.iload X146.here hx rfl (hb hby at_158) (by rw [hA147]; rfl) k) ?_
                  show own_Ends p e below F (T146.setTop (mkF m 160 A147 [(.int p5), (.int p4), (.int z17), (.int z7)]))
                  obtain ⟨_, _, ⟨T148, L148, k148, n148⟩, -, X148, hS148, gr148, ⟨Lc148, hQ148, l148, y148, z148⟩, st148⟩ := callSS X146 hx (y := (⟨"com/example/greater_than/greaterthan/page/PageHasNextPinLaw", "cursor", "(ZZII)Ljava/lang/String;"⟩ : MethodName)) hown (mvT hZ (own_g hw 26 rfl)) (mvT hZ (own_g hw 27 rfl)) (mvT hZ (own_g hw 28 rfl)) (mvT hZ (own_g hw 29 rfl)) (by decide) (backOfS (W := 0) (rm5 l Z a0 hw [] z7 z17 p4 p5 zc T146.heap n0 Z146 S0_146 hz) hZ (own_g hw 29 rfl) (own_g hw 28 rfl) (by decide) (by decide)) (g := (mkF m 160 A147 [(.int p5), (.int p4), (.int z17), (.int z7)])) rfl (by rw [hml]; show A147.size = _; rw [hA147]; rfl) (argsL := [(.int z7), (.int z17), (.int p4), (.int p5)]) (rest := []) (lenOf pd__28ZZII_29Ljava_2flang_2fString_3b rfl) rfl (by show 2 * 0 + _ ≤ _; exact Nat.le_of_eq rfl) (hb hby at_160) (fun _ _ => ⟨rfl, rfl, (by decide : 7 + 3 ≤ _), (by decide : 23 + 8 ≤ _)⟩)
                  dsimp only [Pt.U, Pt.locs, Pt.cells, Pt.slots] at X148 l148 y148 z148 st148 hQ148 hS148 gr148
                  subst l148 y148 z148
                  obtain ⟨u148, rfl, Nq148, Kq148, fq0_148⟩ := hQ148
                  have N148 := Fr.app N146 Nq148
                  have Z148 : n0 ≤ T148.heap.size := Nat.le_trans Z146 Kq148.1
                  have SZ148 : h0.size ≤ T148.heap.size := Nat.le_trans SZ146 Kq148.1
                  have S0_148 := own_Sta_keep S0_146 Kq148 all0
                  have S1_148 := own_Sta_keep S1_146 Kq148 all0
                  have S2_148 := own_Sta_keep S2_146 Kq148 all0
                  have S3_148 := own_Sta_keep S3_146 Kq148 all0
                  have S4_148 := own_Sta_keep S4_146 Kq148 all0
                  have hZ := own_warm hZ hS148
                  have hown := own_find hown hS148
                  have hS := foldS hS (by exact hk) hS148 gr148
                  have hk := Nat.le_refl T148.heap.size
                  refine own_trans st148 ?_
                  show own_Ends p e below F (T148.setTop (mkF m 163 A147 [u148]))
                  obtain ⟨A149, hA149⟩ : ∃ z : Array Slot, z = #[.val (.int p1), .val (.int p2), .val (.int p3), .val (.int p4), .val (.int p5), .val (.int p6), .val (.int z2), .val (.int z7), .val (.int z12), .val (.int z17), .val (.int (3 : Int32)), .val (.int z24), .val (.ref a29), .val .null, .val u148, .unset] := ⟨_, rfl⟩
                  refine own_step (fun _ k => XS.astore X148.here hx rfl (hb hby at_163) rfl fq0_148 (l' := A149) (by rw [hA147, hA149]; exact (XS.store1 (o := .unset) rfl (Or.inl rfl) (own_catR fq0_148))) k) ?_
                  show own_Ends p e below F (T148.setTop (mkF m 165 A149 []))
                  obtain ⟨T150, h150, X150, e150, E150, A150, D150, -, st150⟩ := newO X148 hx hZ hown (own_g hw 58 rfl) (own_g hw 59 rfl) (own_g hw 60 rfl) rfl (g := (mkF m 165 A149 [])) rfl (hb hby at_165) (by decide) (by decide)
                  obtain ⟨a150, g150⟩ : ∃ z, z = T148.heap.size := ⟨_, rfl⟩
                  rw [← g150] at A150 D150 st150
                  have ge_a150 : n0 ≤ a150 := Nat.le_trans Z148 (Nat.le_of_eq g150.symm)
                  have sz_a150 : h0.size ≤ a150 := Nat.le_trans SZ148 (Nat.le_of_eq g150.symm)
                  have ne_dd_a150 : dd ≠ a150 := Nat.ne_of_lt (by rw [g150]; exact (((((((((VD.ext E29).keep Kq30 (ninS ne_dd_a29 nin0)).keep Kq141 (ninS ne_dd_a29 nin0)).keep Kq142 nin0).keep Kq143 (ninS ne_dd_a29 (ninS ne_dd_c141 nin0))).keep Kq144 nin0).keep Kq145 (ninS ne_dd_a29 (ninS ne_dd_c141 nin0))).keep Kq146 nin0).keep Kq148 nin0).lt)
                  have ne_cc_a150 : cc ≠ a150 := Nat.ne_of_lt (by rw [g150]; exact (((((((((BC.ext E29).keep Kq30 (ninS ne_cc_a29 nin0)).keep Kq141 (ninS ne_cc_a29 nin0)).keep Kq142 nin0).keep Kq143 (ninS ne_cc_a29 (ninS ne_cc_c141 nin0))).keep Kq144 nin0).keep Kq145 (ninS ne_cc_a29 (ninS ne_cc_c141 nin0))).keep Kq146 nin0).keep Kq148 nin0).lt)
                  have ne_a29_a150 : a29 ≠ a150 := Nat.ne_of_lt (by rw [g150]; exact ((fq1_145.keep Kq146 nin0).keep Kq148 nin0).lt)
                  have ne_c141_a150 : c141 ≠ a150 := Nat.ne_of_lt (by rw [g150]; exact ((fq4_145.keep Kq146 nin0).keep Kq148 nin0).lt)
                  have ne_c142_a150 : c142 ≠ a150 := Nat.ne_of_lt (by rw [g150]; exact (((((fq0_142.keep Kq143).keep Kq144).keep Kq145).keep Kq146).keep Kq148).lt)
                  have ne_c144_a150 : c144 ≠ a150 := Nat.ne_of_lt (by rw [g150]; exact (((fq0_144.keep Kq145).keep Kq146).keep Kq148).lt)
                  have Z150 : n0 ≤ h150.size := Nat.le_trans Z148 E150.1
                  have SZ150 : h0.size ≤ h150.size := Nat.le_trans SZ148 E150.1
                  have hk := Nat.le_trans hk E150.1
                  have F150_rows : Fld Z h150 a150 "com/example/greater_than/greaterthan/page/Page" "rows" "Ljava/util/List;" .null := D150 (Or.inr (own_g hw 146 rfl)) (ty := (.object "java/util/List")) (by decide)
                  have F150_previousCursor : Fld Z h150 a150 "com/example/greater_than/greaterthan/page/Page" "previousCursor" "Ljava/lang/String;" .null := D150 (Or.inr (own_g hw 148 rfl)) (ty := (.object "java/lang/String")) (by decide)
                  have F150_nextCursor : Fld Z h150 a150 "com/example/greater_than/greaterthan/page/Page" "nextCursor" "Ljava/lang/String;" .null := D150 (Or.inr (own_g hw 150 rfl)) (ty := (.object "java/lang/String")) (by decide)
                  refine own_step st150 ?_
                  show own_Ends p e below F (T150.setTop (mkF m 168 A149 [(.ref a150)]))
                  refine own_step (fun _ k => XS.dup X150.here hx rfl (hb hby at_168) rfl rfl k) ?_
                  show own_Ends p e below F (T150.setTop (mkF m 169 A149 [(.ref a150), (.ref a150)]))
                  refine own_step (fun _ k => XS.aload X150.here hx rfl (hb hby at_169) (by rw [hA149]; rfl) rfl k) ?_
                  show own_Ends p e below F (T150.setTop (mkF m 171 A149 [(.ref a29), (.ref a150), (.ref a150)]))
                  refine own_step (fun _ k => XS.aload X150.here hx rfl (hb hby at_171) (by rw [hA149]; rfl) fq0_148 k) ?_
                  show own_Ends p e below F (T150.setTop (mkF m 173 A149 [u148, (.ref a29), (.ref a150), (.ref a150)]))
                  refine own_step (fun _ k => XS.aload X150.here hx rfl (hb hby at_173) (by rw [hA149]; rfl) rfl k) ?_
                  show own_Ends p e below F (T150.setTop (mkF m 175 A149 [.null, u148, (.ref a29), (.ref a150), (.ref a150)]))
                  obtain ⟨_, _, ⟨T151, L151, k151, n151⟩, -, X151, ⟨Lc151, hQ151, l151, y151, z151⟩, st151⟩ := X150.specialBack hx (y := (⟨"com/example/greater_than/greaterthan/page/Page", "<init>", "(Ljava/util/List;Ljava/lang/String;Ljava/lang/String;)V"⟩ : MethodName)) rfl hown (mvT hZ (own_g hw 61 rfl)) (mvT hZ (own_g hw 62 rfl)) (mvT hZ (own_g hw 63 rfl)) (by decide) (backOf (W := 1) (rm11_3 l Z a0 hw [] a150 a29 c141 kc141 .null (.ref c142) (.ref c144) u148 .null ee ma mu mv mo h150 n0 Z150 A150 ge_a150 F150_rows F150_previousCursor F150_nextCursor (((fq4_145.keep Kq146 nin0).keep Kq148 nin0).ext E150) (((((((fq7_141.keep Kq142).keep Kq143).keep Kq144).keep Kq145).keep Kq146).keep Kq148).ext E150) (Or.inl rfl) (Or.inr ⟨_, _, _, rfl, ((((((fq0_142.keep Kq143).keep Kq144).keep Kq145).keep Kq146).keep Kq148).ext E150), (own_g hw 210 rfl)⟩) (Or.inr ⟨_, _, _, rfl, ((((fq0_144.keep Kq145).keep Kq146).keep Kq148).ext E150), (own_g hw 210 rfl)⟩) (((fq0_145.keep Kq146).keep Kq148).ext E150) (((fq2_145.keep Kq146 nin0).keep Kq148 nin0).ext E150) (((fq3_145.keep Kq146 nin0).keep Kq148 nin0).ext E150) (Sta.ext E150 S2_148) M_ma M_mu M_mv M_mo fq0_148 rfl) hZ (own_g hw 63 rfl) (own_g hw 60 rfl) (by decide) (by decide)) (g := (mkF m 175 A149 [.null, u148, (.ref a29), (.ref a150), (.ref a150)])) rfl (by rw [hml]; show A149.size = _; rw [hA149]; rfl) (Steps.refl _) (a := a150) (argsL := [(.ref a29), u148, .null]) (rest := [(.ref a150)]) (lenOf pd__28Ljava_2futil_2fList_3bLjava_2flang_2fString_3bLjava_2flang_2fString_3b_29V rfl) rfl (by show 2 * 0 + _ ≤ _; exact Nat.le_of_eq rfl) (hb hby at_175) (fun _ _ => ⟨rfl, e150, (by decide : 11 + 3 ≤ _), (by decide : 34 + 8 ≤ _)⟩)
                  dsimp only [Pt.U, Pt.locs, Pt.cells, Pt.slots] at X151 l151 y151 z151 st151 hQ151
                  subst l151 y151 z151
                  obtain ⟨rfl, Nq151, Kq151, fq0_151, fq1_151, fq2_151⟩ := hQ151
                  have N151 := Fr.app N148 Nq151
                  have Z151 : n0 ≤ T151.heap.size := Nat.le_trans Z150 Kq151.1
                  have SZ151 : h0.size ≤ T151.heap.size := Nat.le_trans SZ150 Kq151.1
                  have S0_151 := own_Sta_keep (Sta.ext E150 S0_148) Kq151 (allS (own_ns_exa A150) all0)
                  have S1_151 := own_Sta_keep (Sta.ext E150 S1_148) Kq151 (allS (own_ns_exa A150) all0)
                  have S2_151 := own_Sta_keep (Sta.ext E150 S2_148) Kq151 (allS (own_ns_exa A150) all0)
                  have S3_151 := own_Sta_keep (Sta.ext E150 S3_148) Kq151 (allS (own_ns_exa A150) all0)
                  have S4_151 := own_Sta_keep (Sta.ext E150 S4_148) Kq151 (allS (own_ns_exa A150) all0)
                  have hk := Nat.le_trans hk Kq151.1
                  refine own_trans st151 ?_
                  show own_Ends p e below F (T151.setTop (mkF m 178 A149 [(.ref a150)]))
                  obtain ⟨A152, hA152⟩ : ∃ z : Array Slot, z = #[.val (.int p1), .val (.int p2), .val (.int p3), .val (.int p4), .val (.int p5), .val (.int p6), .val (.int z2), .val (.int z7), .val (.int z12), .val (.int z17), .val (.int (3 : Int32)), .val (.int z24), .val (.ref a29), .val .null, .val u148, .val (.ref a150)] := ⟨_, rfl⟩
                  refine own_step (fun _ k => XS.astore X151.here hx rfl (hb hby at_178) rfl rfl (l' := A152) (by rw [hA149, hA152]; exact rfl) k) ?_
                  show own_Ends p e below F (T151.setTop (mkF m 180 A152 []))
                  refine own_step (fun _ k => XS.aload X151.here hx rfl (hb hby at_180) (by rw [hA152]; rfl) rfl k) ?_
                  show own_Ends p e below F (T151.setTop (mkF m 182 A152 [(.ref a150)]))
                  obtain ⟨cq153, kq153, qa153, qb153, qc153⟩ := isOf (s := (s.setVm T148.vm)) (T := T151) hZ rfl fq0_151
                  obtain ⟨_, _, ⟨T153, L153, k153, n153⟩, -, X153, ⟨Lc153, hQ153, l153, y153, z153⟩, st153⟩ := X151.virtualBack hx (y := (⟨"com/example/greater_than/greaterthan/page/Page", "hasNext", "()Z"⟩ : MethodName)) (z := (⟨"com/example/greater_than/greaterthan/page/Page", "hasNext", "()Z"⟩ : MethodName)) hown (mvT hZ (own_g hw 151 rfl)) (mvT hZ (own_g hw 152 rfl)) (notFace_of_selects (args := #[]) (mvT hZ (own_g hw 154 rfl))) (mvT hZ (own_g hw 154 rfl)) (mvT hZ (own_g hw 153 rfl)) (by decide) (backOf (W := 0) (rm21n l Z a0 hw [] a150 T151.heap n0 Z151 fq2_151) hZ (own_g hw 155 rfl) (own_g hw 60 rfl) (by decide) (by decide)) qa153 qc153 (g := (mkF m 182 A152 [(.ref a150)])) rfl (by rw [hml]; show A152.size = _; rw [hA152]; rfl) (Steps.refl _) (argsL := []) (rest := []) (lenOf pd__28_29Z rfl) rfl (by show 2 * 0 + _ ≤ _; exact Nat.le_of_eq rfl) (hb hby at_182) (fun _ _ => ⟨rfl, rfl, (by decide : 14 + 0 ≤ _), (by decide : 42 + 0 ≤ _)⟩)
                  dsimp only [Pt.U, Pt.locs, Pt.cells, Pt.slots] at X153 l153 y153 z153 st153 hQ153
                  subst l153 y153 z153
                  obtain ⟨rfl, Nq153, eq153⟩ := hQ153
                  have N153 := Fr.app N151 Nq153
                  refine own_trans st153 ?_
                  show own_Ends p e below F (T153.setTop (mkF m 185 A152 [(.int (0 : Int32))]))
                  refine own_step (fun _ k => XS.aload X153.here hx rfl (hb hby at_185) (by rw [hA152]; rfl) rfl k) ?_
                  show own_Ends p e below F (T153.setTop (mkF m 187 A152 [.null, (.int (0 : Int32))]))
                  refine own_step (fun _ k => XS.ifnullYes X153.here hx rfl (pc0 := 187) (pc' := 194) rfl (hb hby at_187) rfl (by decide) (by decide) k) ?_
                  show own_Ends p e below F (T153.setTop (mkF m 194 A152 [(.int (0 : Int32))]))
                  refine own_step (fun _ k => XS.iconst X153.here hx rfl (hb hby at_194) k) ?_
                  show own_Ends p e below F (T153.setTop (mkF m 195 A152 [(.int (0 : Int32)), (.int (0 : Int32))]))
                  refine own_step (fun _ k => XS.icmpNo X153.here hx rfl (hb hby at_195) rfl (teq (by decide : (0 : Int32) = (0 : Int32))).2 k) ?_
                  show own_Ends p e below F (T153.setTop (mkF m 198 A152 []))
                  refine own_step (fun _ k => XS.iconst X153.here hx rfl (hb hby at_198) k) ?_
                  show own_Ends p e below F (T153.setTop (mkF m 199 A152 [(.int (1 : Int32))]))
                  refine own_step (fun _ k => XS.goto X153.here hx rfl (pc0 := 199) (pc' := 203) rfl (hb hby at_199) (by decide) (by decide) k) ?_
                  show own_Ends p e below F (T153.setTop (mkF m 203 A152 [(.int (1 : Int32))]))
                  rw [hF]
                  exact own_retW X153 hS (by rw [eq153]; exact hk) (v := (some (.int (nar .boolean (1 : Int32))))) (fun h => by rw [Bd.returns] at h; cases h) Bd.notSynchronized (fun fs hr => retN X153 hx (t := .boolean) Bd.returns (by simp) (hb hby at_203) hr) (by decide) (by decide) (by rw [eq153]; exact ⟨rfl, N153⟩)
                · show own_Ends p e below F (T146.setTop (mkF m 151 A31 [(.ref cu)]))
                  obtain ⟨A154, hA154⟩ : ∃ z : Array Slot, z = #[.val (.int p1), .val (.int p2), .val (.int p3), .val (.int p4), .val (.int p5), .val (.int p6), .val (.int z2), .val (.int z7), .val (.int z12), .val (.int z17), .val (.int (3 : Int32)), .val (.int z24), .val (.ref a29), .val (.ref cu), .unset, .unset] := ⟨_, rfl⟩
                  refine own_step (fun _ k => XS.astore X146.here hx rfl (hb hby at_151) rfl rfl (l' := A154) (by rw [hA31, hA154]; exact rfl) k) ?_
                  show own_Ends p e below F (T146.setTop (mkF m 153 A154 []))
                  refine own_step (fun _ k => XS.iload X146.here hx rfl (hb hby at_153) (by rw [hA154]; rfl) k) ?_
                  show own_Ends p e below F (T146.setTop (mkF m 155 A154 [(.int z7)]))
                  refine own_step (fun _ k => XS.iload X146.here hx rfl (hb hby at_155) (by rw [hA154]; rfl) k) ?_
                  show own_Ends p e below F (T146.setTop (mkF m 157 A154 [(.int z17), (.int z7)]))
                  refine own_step (fun _ k => XS.iloadN X146.here hx rfl (hb hby at_157) (by rw [hA154]; rfl) k) ?_
                  show own_Ends p e below F (T146.setTop (mkF m 158 A154 [(.int p4), (.int z17), (.int z7)]))
                  refine own_step (fun _ k => XS.iload X146.here hx rfl (hb hby at_158) (by rw [hA154]; rfl) k) ?_
                  show own_Ends p e below F (T146.setTop (mkF m 160 A154 [(.int p5), (.int p4), (.int z17), (.int z7)]))
                  obtain ⟨_, _, ⟨T155, L155, k155, n155⟩, -, X155, hS155, gr155, ⟨Lc155, hQ155, l155, y155, z155⟩, st155⟩ := callSS X146 hx (y := (⟨"com/example/greater_than/greaterthan/page/PageHasNextPinLaw", "cursor", "(ZZII)Ljava/lang/String;"⟩ : MethodName)) hown (mvT hZ (own_g hw 26 rfl)) (mvT hZ (own_g hw 27 rfl)) (mvT hZ (own_g hw 28 rfl)) (mvT hZ (own_g hw 29 rfl)) (by decide) (backOfS (W := 0) (rm5 l Z a0 hw [] z7 z17 p4 p5 zc T146.heap n0 Z146 S0_146 hz) hZ (own_g hw 29 rfl) (own_g hw 28 rfl) (by decide) (by decide)) (g := (mkF m 160 A154 [(.int p5), (.int p4), (.int z17), (.int z7)])) rfl (by rw [hml]; show A154.size = _; rw [hA154]; rfl) (argsL := [(.int z7), (.int z17), (.int p4), (.int p5)]) (rest := []) (lenOf pd__28ZZII_29Ljava_2flang_2fString_3b rfl) rfl (by show 2 * 0 + _ ≤ _; exact Nat.le_of_eq rfl) (hb hby at_160) (fun _ _ => ⟨rfl, rfl, (by decide : 7 + 3 ≤ _), (by decide : 23 + 8 ≤ _)⟩)
                  dsimp only [Pt.U, Pt.locs, Pt.cells, Pt.slots] at X155 l155 y155 z155 st155 hQ155 hS155 gr155
                  subst l155 y155 z155
                  obtain ⟨u155, rfl, Nq155, Kq155, fq0_155⟩ := hQ155
                  have N155 := Fr.app N146 Nq155
                  have Z155 : n0 ≤ T155.heap.size := Nat.le_trans Z146 Kq155.1
                  have SZ155 : h0.size ≤ T155.heap.size := Nat.le_trans SZ146 Kq155.1
                  have S0_155 := own_Sta_keep S0_146 Kq155 all0
                  have S1_155 := own_Sta_keep S1_146 Kq155 all0
                  have S2_155 := own_Sta_keep S2_146 Kq155 all0
                  have S3_155 := own_Sta_keep S3_146 Kq155 all0
                  have S4_155 := own_Sta_keep S4_146 Kq155 all0
                  have hZ := own_warm hZ hS155
                  have hown := own_find hown hS155
                  have hS := foldS hS (by exact hk) hS155 gr155
                  have hk := Nat.le_refl T155.heap.size
                  refine own_trans st155 ?_
                  show own_Ends p e below F (T155.setTop (mkF m 163 A154 [u155]))
                  obtain ⟨A156, hA156⟩ : ∃ z : Array Slot, z = #[.val (.int p1), .val (.int p2), .val (.int p3), .val (.int p4), .val (.int p5), .val (.int p6), .val (.int z2), .val (.int z7), .val (.int z12), .val (.int z17), .val (.int (3 : Int32)), .val (.int z24), .val (.ref a29), .val (.ref cu), .val u155, .unset] := ⟨_, rfl⟩
                  refine own_step (fun _ k => XS.astore X155.here hx rfl (hb hby at_163) rfl fq0_155 (l' := A156) (by rw [hA154, hA156]; exact (XS.store1 (o := .unset) rfl (Or.inl rfl) (own_catR fq0_155))) k) ?_
                  show own_Ends p e below F (T155.setTop (mkF m 165 A156 []))
                  obtain ⟨T157, h157, X157, e157, E157, A157, D157, -, st157⟩ := newO X155 hx hZ hown (own_g hw 58 rfl) (own_g hw 59 rfl) (own_g hw 60 rfl) rfl (g := (mkF m 165 A156 [])) rfl (hb hby at_165) (by decide) (by decide)
                  obtain ⟨a157, g157⟩ : ∃ z, z = T155.heap.size := ⟨_, rfl⟩
                  rw [← g157] at A157 D157 st157
                  have ge_a157 : n0 ≤ a157 := Nat.le_trans Z155 (Nat.le_of_eq g157.symm)
                  have sz_a157 : h0.size ≤ a157 := Nat.le_trans SZ155 (Nat.le_of_eq g157.symm)
                  have ne_dd_a157 : dd ≠ a157 := Nat.ne_of_lt (by rw [g157]; exact (((((((((VD.ext E29).keep Kq30 (ninS ne_dd_a29 nin0)).keep Kq141 (ninS ne_dd_a29 nin0)).keep Kq142 nin0).keep Kq143 (ninS ne_dd_a29 (ninS ne_dd_c141 nin0))).keep Kq144 nin0).keep Kq145 (ninS ne_dd_a29 (ninS ne_dd_c141 nin0))).keep Kq146 nin0).keep Kq155 nin0).lt)
                  have ne_cc_a157 : cc ≠ a157 := Nat.ne_of_lt (by rw [g157]; exact (((((((((BC.ext E29).keep Kq30 (ninS ne_cc_a29 nin0)).keep Kq141 (ninS ne_cc_a29 nin0)).keep Kq142 nin0).keep Kq143 (ninS ne_cc_a29 (ninS ne_cc_c141 nin0))).keep Kq144 nin0).keep Kq145 (ninS ne_cc_a29 (ninS ne_cc_c141 nin0))).keep Kq146 nin0).keep Kq155 nin0).lt)
                  have ne_a29_a157 : a29 ≠ a157 := Nat.ne_of_lt (by rw [g157]; exact ((fq1_145.keep Kq146 nin0).keep Kq155 nin0).lt)
                  have ne_c141_a157 : c141 ≠ a157 := Nat.ne_of_lt (by rw [g157]; exact ((fq4_145.keep Kq146 nin0).keep Kq155 nin0).lt)
                  have ne_c142_a157 : c142 ≠ a157 := Nat.ne_of_lt (by rw [g157]; exact (((((fq0_142.keep Kq143).keep Kq144).keep Kq145).keep Kq146).keep Kq155).lt)
                  have ne_c144_a157 : c144 ≠ a157 := Nat.ne_of_lt (by rw [g157]; exact (((fq0_144.keep Kq145).keep Kq146).keep Kq155).lt)
                  have Z157 : n0 ≤ h157.size := Nat.le_trans Z155 E157.1
                  have SZ157 : h0.size ≤ h157.size := Nat.le_trans SZ155 E157.1
                  have hk := Nat.le_trans hk E157.1
                  have F157_rows : Fld Z h157 a157 "com/example/greater_than/greaterthan/page/Page" "rows" "Ljava/util/List;" .null := D157 (Or.inr (own_g hw 146 rfl)) (ty := (.object "java/util/List")) (by decide)
                  have F157_previousCursor : Fld Z h157 a157 "com/example/greater_than/greaterthan/page/Page" "previousCursor" "Ljava/lang/String;" .null := D157 (Or.inr (own_g hw 148 rfl)) (ty := (.object "java/lang/String")) (by decide)
                  have F157_nextCursor : Fld Z h157 a157 "com/example/greater_than/greaterthan/page/Page" "nextCursor" "Ljava/lang/String;" .null := D157 (Or.inr (own_g hw 150 rfl)) (ty := (.object "java/lang/String")) (by decide)
                  refine own_step st157 ?_
                  show own_Ends p e below F (T157.setTop (mkF m 168 A156 [(.ref a157)]))
                  refine own_step (fun _ k => XS.dup X157.here hx rfl (hb hby at_168) rfl rfl k) ?_
                  show own_Ends p e below F (T157.setTop (mkF m 169 A156 [(.ref a157), (.ref a157)]))
                  refine own_step (fun _ k => XS.aload X157.here hx rfl (hb hby at_169) (by rw [hA156]; rfl) rfl k) ?_
                  show own_Ends p e below F (T157.setTop (mkF m 171 A156 [(.ref a29), (.ref a157), (.ref a157)]))
                  refine own_step (fun _ k => XS.aload X157.here hx rfl (hb hby at_171) (by rw [hA156]; rfl) fq0_155 k) ?_
                  show own_Ends p e below F (T157.setTop (mkF m 173 A156 [u155, (.ref a29), (.ref a157), (.ref a157)]))
                  refine own_step (fun _ k => XS.aload X157.here hx rfl (hb hby at_173) (by rw [hA156]; rfl) rfl k) ?_
                  show own_Ends p e below F (T157.setTop (mkF m 175 A156 [(.ref cu), u155, (.ref a29), (.ref a157), (.ref a157)]))
                  obtain ⟨_, _, ⟨T158, L158, k158, n158⟩, -, X158, ⟨Lc158, hQ158, l158, y158, z158⟩, st158⟩ := X157.specialBack hx (y := (⟨"com/example/greater_than/greaterthan/page/Page", "<init>", "(Ljava/util/List;Ljava/lang/String;Ljava/lang/String;)V"⟩ : MethodName)) rfl hown (mvT hZ (own_g hw 61 rfl)) (mvT hZ (own_g hw 62 rfl)) (mvT hZ (own_g hw 63 rfl)) (by decide) (backOf (W := 1) (rm11_3 l Z a0 hw [] a157 a29 c141 kc141 .null (.ref c142) (.ref c144) u155 (.ref cu) ee ma mu mv mo h157 n0 Z157 A157 ge_a157 F157_rows F157_previousCursor F157_nextCursor (((fq4_145.keep Kq146 nin0).keep Kq155 nin0).ext E157) (((((((fq7_141.keep Kq142).keep Kq143).keep Kq144).keep Kq145).keep Kq146).keep Kq155).ext E157) (Or.inl rfl) (Or.inr ⟨_, _, _, rfl, ((((((fq0_142.keep Kq143).keep Kq144).keep Kq145).keep Kq146).keep Kq155).ext E157), (own_g hw 210 rfl)⟩) (Or.inr ⟨_, _, _, rfl, ((((fq0_144.keep Kq145).keep Kq146).keep Kq155).ext E157), (own_g hw 210 rfl)⟩) (((fq0_145.keep Kq146).keep Kq155).ext E157) (((fq2_145.keep Kq146 nin0).keep Kq155 nin0).ext E157) (((fq3_145.keep Kq146 nin0).keep Kq155 nin0).ext E157) (Sta.ext E157 S2_155) M_ma M_mu M_mv M_mo fq0_155 rfl) hZ (own_g hw 63 rfl) (own_g hw 60 rfl) (by decide) (by decide)) (g := (mkF m 175 A156 [(.ref cu), u155, (.ref a29), (.ref a157), (.ref a157)])) rfl (by rw [hml]; show A156.size = _; rw [hA156]; rfl) (Steps.refl _) (a := a157) (argsL := [(.ref a29), u155, (.ref cu)]) (rest := [(.ref a157)]) (lenOf pd__28Ljava_2futil_2fList_3bLjava_2flang_2fString_3bLjava_2flang_2fString_3b_29V rfl) rfl (by show 2 * 0 + _ ≤ _; exact Nat.le_of_eq rfl) (hb hby at_175) (fun _ _ => ⟨rfl, e157, (by decide : 11 + 3 ≤ _), (by decide : 34 + 8 ≤ _)⟩)
                  dsimp only [Pt.U, Pt.locs, Pt.cells, Pt.slots] at X158 l158 y158 z158 st158 hQ158
                  subst l158 y158 z158
                  obtain ⟨rfl, Nq158, Kq158, fq0_158, fq1_158, fq2_158⟩ := hQ158
                  have N158 := Fr.app N155 Nq158
                  have Z158 : n0 ≤ T158.heap.size := Nat.le_trans Z157 Kq158.1
                  have SZ158 : h0.size ≤ T158.heap.size := Nat.le_trans SZ157 Kq158.1
                  have S0_158 := own_Sta_keep (Sta.ext E157 S0_155) Kq158 (allS (own_ns_exa A157) all0)
                  have S1_158 := own_Sta_keep (Sta.ext E157 S1_155) Kq158 (allS (own_ns_exa A157) all0)
                  have S2_158 := own_Sta_keep (Sta.ext E157 S2_155) Kq158 (allS (own_ns_exa A157) all0)
                  have S3_158 := own_Sta_keep (Sta.ext E157 S3_155) Kq158 (allS (own_ns_exa A157) all0)
                  have S4_158 := own_Sta_keep (Sta.ext E157 S4_155) Kq158 (allS (own_ns_exa A157) all0)
                  have hk := Nat.le_trans hk Kq158.1
                  refine own_trans st158 ?_
                  show own_Ends p e below F (T158.setTop (mkF m 178 A156 [(.ref a157)]))
                  obtain ⟨A159, hA159⟩ : ∃ z : Array Slot, z = #[.val (.int p1), .val (.int p2), .val (.int p3), .val (.int p4), .val (.int p5), .val (.int p6), .val (.int z2), .val (.int z7), .val (.int z12), .val (.int z17), .val (.int (3 : Int32)), .val (.int z24), .val (.ref a29), .val (.ref cu), .val u155, .val (.ref a157)] := ⟨_, rfl⟩
                  refine own_step (fun _ k => XS.astore X158.here hx rfl (hb hby at_178) rfl rfl (l' := A159) (by rw [hA156, hA159]; exact rfl) k) ?_
                  show own_Ends p e below F (T158.setTop (mkF m 180 A159 []))
                  refine own_step (fun _ k => XS.aload X158.here hx rfl (hb hby at_180) (by rw [hA159]; rfl) rfl k) ?_
                  show own_Ends p e below F (T158.setTop (mkF m 182 A159 [(.ref a157)]))
                  obtain ⟨cq160, kq160, qa160, qb160, qc160⟩ := isOf (s := (s.setVm T155.vm)) (T := T158) hZ rfl fq0_158
                  obtain ⟨_, _, ⟨T160, L160, k160, n160⟩, -, X160, ⟨Lc160, hQ160, l160, y160, z160⟩, st160⟩ := X158.virtualBack hx (y := (⟨"com/example/greater_than/greaterthan/page/Page", "hasNext", "()Z"⟩ : MethodName)) (z := (⟨"com/example/greater_than/greaterthan/page/Page", "hasNext", "()Z"⟩ : MethodName)) hown (mvT hZ (own_g hw 151 rfl)) (mvT hZ (own_g hw 152 rfl)) (notFace_of_selects (args := #[]) (mvT hZ (own_g hw 154 rfl))) (mvT hZ (own_g hw 154 rfl)) (mvT hZ (own_g hw 153 rfl)) (by decide) (backOf (W := 0) (rm21r l Z a0 hw [] a157 cu T158.heap n0 Z158 fq2_158) hZ (own_g hw 155 rfl) (own_g hw 60 rfl) (by decide) (by decide)) qa160 qc160 (g := (mkF m 182 A159 [(.ref a157)])) rfl (by rw [hml]; show A159.size = _; rw [hA159]; rfl) (Steps.refl _) (argsL := []) (rest := []) (lenOf pd__28_29Z rfl) rfl (by show 2 * 0 + _ ≤ _; exact Nat.le_of_eq rfl) (hb hby at_182) (fun _ _ => ⟨rfl, rfl, (by decide : 14 + 0 ≤ _), (by decide : 42 + 0 ≤ _)⟩)
                  dsimp only [Pt.U, Pt.locs, Pt.cells, Pt.slots] at X160 l160 y160 z160 st160 hQ160
                  subst l160 y160 z160
                  obtain ⟨rfl, Nq160, eq160⟩ := hQ160
                  have N160 := Fr.app N158 Nq160
                  refine own_trans st160 ?_
                  show own_Ends p e below F (T160.setTop (mkF m 185 A159 [(.int (1 : Int32))]))
                  refine own_step (fun _ k => XS.aload X160.here hx rfl (hb hby at_185) (by rw [hA159]; rfl) rfl k) ?_
                  show own_Ends p e below F (T160.setTop (mkF m 187 A159 [(.ref cu), (.int (1 : Int32))]))
                  refine own_step (fun _ k => XS.ifnullNo X160.here hx rfl (hb hby at_187) rfl k) ?_
                  show own_Ends p e below F (T160.setTop (mkF m 190 A159 [(.int (1 : Int32))]))
                  refine own_step (fun _ k => XS.iconst X160.here hx rfl (hb hby at_190) k) ?_
                  show own_Ends p e below F (T160.setTop (mkF m 191 A159 [(.int (1 : Int32)), (.int (1 : Int32))]))
                  refine own_step (fun _ k => XS.goto X160.here hx rfl (pc0 := 191) (pc' := 195) rfl (hb hby at_191) (by decide) (by decide) k) ?_
                  show own_Ends p e below F (T160.setTop (mkF m 195 A159 [(.int (1 : Int32)), (.int (1 : Int32))]))
                  refine own_step (fun _ k => XS.icmpNo X160.here hx rfl (hb hby at_195) rfl (teq (by decide : (1 : Int32) = (1 : Int32))).2 k) ?_
                  show own_Ends p e below F (T160.setTop (mkF m 198 A159 []))
                  refine own_step (fun _ k => XS.iconst X160.here hx rfl (hb hby at_198) k) ?_
                  show own_Ends p e below F (T160.setTop (mkF m 199 A159 [(.int (1 : Int32))]))
                  refine own_step (fun _ k => XS.goto X160.here hx rfl (pc0 := 199) (pc' := 203) rfl (hb hby at_199) (by decide) (by decide) k) ?_
                  show own_Ends p e below F (T160.setTop (mkF m 203 A159 [(.int (1 : Int32))]))
                  rw [hF]
                  exact own_retW X160 hS (by rw [eq160]; exact hk) (v := (some (.int (nar .boolean (1 : Int32))))) (fun h => by rw [Bd.returns] at h; cases h) Bd.notSynchronized (fun fs hr => retN X160 hx (t := .boolean) Bd.returns (by simp) (hb hby at_203) hr) (by decide) (by decide) (by rw [eq160]; exact ⟨rfl, N160⟩)
          by_cases c64_161 : (p1 &&& (64 : Int32)) = (0 : Int32)
          · refine own_step (fun _ k => XS.ifYes X0.here hx rfl (pc0 := 64) (pc' := 71) rfl (hb hby at_64) rfl ((if0 _ _).trans (teq c64_161).1) (by decide) (by decide) k) ?_
            show own_Ends p e below F (s₁.setTop (mkF m 71 A23 []))
            refine own_step (fun _ k => XS.iconst X0.here hx rfl (hb hby at_71) k) ?_
            show own_Ends p e below F (s₁.setTop (mkF m 72 A23 [(.int (0 : Int32))]))
            rw [hA23]
            exact J64_25 _ (by simp only [if_true, if_false, c64_161])
          · refine own_step (fun _ k => XS.ifNo X0.here hx rfl (hb hby at_64) rfl ((if0 _ _).trans (feq c64_161).1) k) ?_
            show own_Ends p e below F (s₁.setTop (mkF m 67 A23 []))
            refine own_step (fun _ k => XS.iconst X0.here hx rfl (hb hby at_67) k) ?_
            show own_Ends p e below F (s₁.setTop (mkF m 68 A23 [(.int (1 : Int32))]))
            refine own_step (fun _ k => XS.goto X0.here hx rfl (pc0 := 68) (pc' := 72) rfl (hb hby at_68) (by decide) (by decide) k) ?_
            show own_Ends p e below F (s₁.setTop (mkF m 72 A23 [(.int (1 : Int32))]))
            rw [hA23]
            exact J64_25 _ (by simp only [if_true, if_false, c64_161])
        by_cases c43_162 : (p1 &&& (8 : Int32)) = (0 : Int32)
        · refine own_step (fun _ k => XS.ifYes X0.here hx rfl (pc0 := 43) (pc' := 50) rfl (hb hby at_43) rfl ((if0 _ _).trans (teq c43_162).1) (by decide) (by decide) k) ?_
          show own_Ends p e below F (s₁.setTop (mkF m 50 A16 []))
          refine own_step (fun _ k => XS.iconst X0.here hx rfl (hb hby at_50) k) ?_
          show own_Ends p e below F (s₁.setTop (mkF m 51 A16 [(.int (0 : Int32))]))
          rw [hA16]
          exact J43_18 _ (by simp only [if_true, if_false, c43_162])
        · refine own_step (fun _ k => XS.ifNo X0.here hx rfl (hb hby at_43) rfl ((if0 _ _).trans (feq c43_162).1) k) ?_
          show own_Ends p e below F (s₁.setTop (mkF m 46 A16 []))
          refine own_step (fun _ k => XS.iconst X0.here hx rfl (hb hby at_46) k) ?_
          show own_Ends p e below F (s₁.setTop (mkF m 47 A16 [(.int (1 : Int32))]))
          refine own_step (fun _ k => XS.goto X0.here hx rfl (pc0 := 47) (pc' := 51) rfl (hb hby at_47) (by decide) (by decide) k) ?_
          show own_Ends p e below F (s₁.setTop (mkF m 51 A16 [(.int (1 : Int32))]))
          rw [hA16]
          exact J43_18 _ (by simp only [if_true, if_false, c43_162])
      by_cases c29_163 : (p1 &&& (4 : Int32)) = (0 : Int32)
      · refine own_step (fun _ k => XS.ifYes X0.here hx rfl (pc0 := 29) (pc' := 36) rfl (hb hby at_29) rfl ((if0 _ _).trans (teq c29_163).1) (by decide) (by decide) k) ?_
        show own_Ends p e below F (s₁.setTop (mkF m 36 A11 []))
        refine own_step (fun _ k => XS.iconst X0.here hx rfl (hb hby at_36) k) ?_
        show own_Ends p e below F (s₁.setTop (mkF m 37 A11 [(.int (0 : Int32))]))
        rw [hA11]
        exact J29_13 _ (by simp only [if_true, if_false, c29_163])
      · refine own_step (fun _ k => XS.ifNo X0.here hx rfl (hb hby at_29) rfl ((if0 _ _).trans (feq c29_163).1) k) ?_
        show own_Ends p e below F (s₁.setTop (mkF m 32 A11 []))
        refine own_step (fun _ k => XS.iconst X0.here hx rfl (hb hby at_32) k) ?_
        show own_Ends p e below F (s₁.setTop (mkF m 33 A11 [(.int (1 : Int32))]))
        refine own_step (fun _ k => XS.goto X0.here hx rfl (pc0 := 33) (pc' := 37) rfl (hb hby at_33) (by decide) (by decide) k) ?_
        show own_Ends p e below F (s₁.setTop (mkF m 37 A11 [(.int (1 : Int32))]))
        rw [hA11]
        exact J29_13 _ (by simp only [if_true, if_false, c29_163])
    by_cases c16_164 : (p1 &&& (2 : Int32)) = (0 : Int32)
    · refine own_step (fun _ k => XS.ifYes X0.here hx rfl (pc0 := 16) (pc' := 23) rfl (hb hby at_16) rfl ((if0 _ _).trans (teq c16_164).1) (by decide) (by decide) k) ?_
      show own_Ends p e below F (s₁.setTop (mkF m 23 A6 []))
      refine own_step (fun _ k => XS.iconst X0.here hx rfl (hb hby at_23) k) ?_
      show own_Ends p e below F (s₁.setTop (mkF m 24 A6 [(.int (0 : Int32))]))
      rw [hA6]
      exact J16_8 _ (by simp only [if_true, if_false, c16_164])
    · refine own_step (fun _ k => XS.ifNo X0.here hx rfl (hb hby at_16) rfl ((if0 _ _).trans (feq c16_164).1) k) ?_
      show own_Ends p e below F (s₁.setTop (mkF m 19 A6 []))
      refine own_step (fun _ k => XS.iconst X0.here hx rfl (hb hby at_19) k) ?_
      show own_Ends p e below F (s₁.setTop (mkF m 20 A6 [(.int (1 : Int32))]))
      refine own_step (fun _ k => XS.goto X0.here hx rfl (pc0 := 20) (pc' := 24) rfl (hb hby at_20) (by decide) (by decide) k) ?_
      show own_Ends p e below F (s₁.setTop (mkF m 24 A6 [(.int (1 : Int32))]))
      rw [hA6]
      exact J16_8 _ (by simp only [if_true, if_false, c16_164])
  by_cases c3_165 : (p1 &&& (1 : Int32)) = (0 : Int32)
  · refine own_step (fun _ k => XS.ifYes X0.here hx rfl (pc0 := 3) (pc' := 10) rfl (hb hby at_3) rfl ((if0 _ _).trans (teq c3_165).1) (by decide) (by decide) k) ?_
    show own_Ends p e below F (s₁.setTop (mkF m 10 A1 []))
    refine own_step (fun _ k => XS.iconst X0.here hx rfl (hb hby at_10) k) ?_
    show own_Ends p e below F (s₁.setTop (mkF m 11 A1 [(.int (0 : Int32))]))
    rw [hA1]
    exact J3_3 _ (by simp only [if_true, if_false, c3_165])
  · refine own_step (fun _ k => XS.ifNo X0.here hx rfl (hb hby at_3) rfl ((if0 _ _).trans (feq c3_165).1) k) ?_
    show own_Ends p e below F (s₁.setTop (mkF m 6 A1 []))
    refine own_step (fun _ k => XS.iconst X0.here hx rfl (hb hby at_6) k) ?_
    show own_Ends p e below F (s₁.setTop (mkF m 7 A1 [(.int (1 : Int32))]))
    refine own_step (fun _ k => XS.goto X0.here hx rfl (pc0 := 7) (pc' := 11) rfl (hb hby at_7) (by decide) (by decide) k) ?_
    show own_Ends p e below F (s₁.setTop (mkF m 11 A1 [(.int (1 : Int32))]))
    rw [hA1]
    exact J3_3 _ (by simp only [if_true, if_false, c3_165])

theorem own_scstart {Z : State} {args : Array Value} (h1 : (Jvm.Cond.initializedFor "java/lang/String" "COMPACT_STRINGS" "Z").before args Z = true) (h2 : (Jvm.Cond.isInt (Jvm.Term.static "java/lang/String" "COMPACT_STRINGS" "Z")).before args Z = true) (h3 : (Jvm.Cond.not (Jvm.Cond.eq (Jvm.Term.static "java/lang/String" "COMPACT_STRINGS" "Z") (Jvm.Term.int (0 : Int32)))).before args Z = true) : ∃ z : Int32, Sta Z Z.heap "java/lang/String" "COMPACT_STRINGS" "Z" (.int z) ∧ ¬ z = 0 := by
  obtain ⟨z, e⟩ := is_v (Cond.before_iff.mp h2)
  refine ⟨z, Sta.start e (Or.inl h1), ?_⟩
  have q := not_v (Cond.before_iff.mp h3)
  have q2 : (Jvm.Cond.eq (Jvm.Term.static "java/lang/String" "COMPACT_STRINGS" "Z") (Jvm.Term.int (0 : Int32))).value args Z none Z [] = some (decide (z = 0)) := by simp only [Cond.value, e]; first | done | rfl
  exact gotF q2 q

theorem own_mir {tb : Tables} {e : Env} {args : Array Value} {Z : State} {C : String} (h : pmirrorMade C tb e args Z) : ∃ m, Mir Z C m := by
  obtain ⟨c, k, m, h1, h2, h3, h4⟩ := h
  exact ⟨m, c, k, h1, h2, h3, h4⟩

set_option maxRecDepth 65536 in
set_option maxHeartbeats 40000000 in
theorem comes_1 {Post : Tables → Env → Array Value → State → Outcome → State → Prop} (hpost : ∀ tb e args s v u, (limb_1_1.after args s (.returned v) u = true ∧ limb_1_2.after args s (.returned v) u = true ∧ True) → ReturnedEndW s (.returned v) u (Jvm.fieldLocs frame_1_writes args s ++ Jvm.arrayLocs frame_1_arrays args s ++ Jvm.staticLocs frame_1_statics s) 40 1216 → Post tb e args s (.returned v) u) :
    ArmFor flags0 classFile x code maxLocals ret World_1 tables_1 room_1 Calls_1 rest_1 Pre_1 Post := by
  intro l hfl _ _ p e ha hc hk s m args below hf hA hF happ hP
  obtain ⟨hcalls, hrest, hpre⟩ := hP
  obtain ⟨-, -, -, hnamed, -, -, -, hat⟩ := (Spec.applies_iff hf).mp happ
  obtain ⟨hg, hn⟩ := and_e (Cond.before_iff.mp (show (Jvm.Cond.and given_1 narrow_1).before args s = true from hpre))
  obtain ⟨g0, r0⟩ := and_e hg
  obtain ⟨g1, r1⟩ := and_e r0
  obtain ⟨g2, r2⟩ := and_e r1
  obtain ⟨g3, r3⟩ := and_e r2
  obtain ⟨g4, r4⟩ := and_e r3
  obtain ⟨g5, r5⟩ := and_e r4
  have g6 := r5
  obtain ⟨w0, w1, w2, w3, w4, w5, rfl⟩ : ∃ w0 w1 w2 w3 w4 w5 : Value, args = #[w0, w1, w2, w3, w4, w5] := by
    have hs : args.size = 6 := by simpa [Cond.value, given_1] using g0
    obtain ⟨L⟩ := args
    match L, hs with
    | [w0, w1, w2, w3, w4, w5], _ => exact ⟨w0, w1, w2, w3, w4, w5, rfl⟩
  have hw := fun d (hd : d ∈ tables_1) => atoms_spec (ws := Jvm.Cond.code x code maxLocals ret :: tables_1) hat d (List.mem_cons_of_mem _ hd)
  have hfit : Fit s := fun {y c} hc i hi => by
    obtain ⟨ha, rfl⟩ := Array.getElem?_eq_some_iff.mp hc
    have q := List.all_eq_true.mp ((Array.all_eq_true_iff_forall_mem.mp hF) _ (Array.getElem_mem ha)) i (List.mem_range.mpr hi)
    simpa [Array.getElem?_eq_getElem hi] using q
  obtain ⟨i0, ei0⟩ := is_v g1
  obtain rfl : w0 = (.int i0) := Option.some.inj ei0
  obtain ⟨i1, ei1⟩ := is_v g2
  obtain rfl : w1 = (.int i1) := Option.some.inj ei1
  obtain ⟨i2, ei2⟩ := is_v g3
  obtain rfl : w2 = (.int i2) := Option.some.inj ei2
  obtain ⟨i3, ei3⟩ := is_v g4
  obtain rfl : w3 = (.int i3) := Option.some.inj ei3
  obtain ⟨i4, ei4⟩ := is_v g5
  obtain rfl : w4 = (.int i4) := Option.some.inj ei4
  obtain ⟨i5, ei5⟩ := is_v g6
  obtain rfl : w5 = (.int i5) := Option.some.inj ei5
  obtain ⟨hst, -⟩ := atoms_of (own := restOwn_1) jdkStatics_1 (by rw [← rest_1_c_eq]; exact hrest)
  obtain ⟨zc, SC, hz⟩ := own_scstart (hst _ (List.mem_of_getElem? (i := 9) rfl)) (hst _ (List.mem_of_getElem? (i := 10) rfl)) (hst _ (List.mem_of_getElem? (i := 11) rfl))
  obtain ⟨dd, edd⟩ := arr_v (Cond.before_iff.mp (hst _ (List.mem_of_getElem? (i := 6) rfl)))
  obtain ⟨cd, AD⟩ := Arr.start edd (Cond.before_iff.mp (hst _ (List.mem_of_getElem? (i := 6) rfl)))
  obtain ⟨qd, zd⟩ := own_len0 edd AD (Cond.before_iff.mp (hst _ (List.mem_of_getElem? (i := 8) rfl)))
  have SD : Sta s s.heap "java/util/ArrayList" "DEFAULTCAPACITY_EMPTY_ELEMENTDATA" "[Ljava/lang/Object;" (.ref dd) := Sta.start edd (Or.inr ⟨(own_g hw 2 rfl), hst _ (List.mem_of_getElem? (i := 2) rfl)⟩)
  have VD : Arv s s.heap dd cd.cls (.object "java/lang/Object") (0 : Int32) [] .null := Arv.start hfit AD qd zd (by decide) rfl trivial
  have XD : Exa s s.heap dd "[Ljava/lang/Object;" := Exa.start edd (Cond.before_iff.mp (hst _ (List.mem_of_getElem? (i := 7) rfl)))
  obtain ⟨ee, eee⟩ := exa_v (Cond.before_iff.mp (hst _ (List.mem_of_getElem? (i := 4) rfl)))
  have SE : Sta s s.heap "java/util/ArrayList" "EMPTY_ELEMENTDATA" "[Ljava/lang/Object;" (.ref ee) := Sta.start eee (Or.inl (hst _ (List.mem_of_getElem? (i := 1) rfl)))
  have SH : Sta s s.heap "java/lang/Integer$IntegerCache" "high" "I" (.int (127 : Int32)) := Sta.start (eqv_i (Term.int_eval (127)) (Cond.before_iff.mp (hst _ (List.mem_of_getElem? (i := 21) rfl)))) (Or.inl (hst _ (List.mem_of_getElem? (i := 19) rfl)))
  obtain ⟨cc, ecc⟩ := arr_v (Cond.before_iff.mp (hst _ (List.mem_of_getElem? (i := 22) rfl)))
  obtain ⟨cK, AK⟩ := Arr.start ecc (Cond.before_iff.mp (hst _ (List.mem_of_getElem? (i := 22) rfl)))
  obtain ⟨qK, zK⟩ := own_len0 ecc AK (Cond.before_iff.mp (hst _ (List.mem_of_getElem? (i := 24) rfl)))
  have SK : Sta s s.heap "java/lang/Integer$IntegerCache" "cache" "[Ljava/lang/Integer;" (.ref cc) := Sta.start ecc (Or.inr ⟨(own_g hw 194 rfl), (hst _ (List.mem_of_getElem? (i := 20) rfl))⟩)
  have BC : own_Bx s s.heap cc := own_Bx.start (val := fun j => .int (j - 128)) (Bxs.start (fun _ => ecc) AK qK zK (by decide) (Cond.before_iff.mp (hst _ (List.mem_of_getElem? (i := 25) rfl))) (fun X j hj hq => eqv_i (by simp [Term.eval, idx_at hj, (back32 hj).1]) hq))
  obtain ⟨mo, M_mo⟩ := own_mir hcalls.1
  obtain ⟨ma, M_ma⟩ := own_mir hcalls.2.1
  obtain ⟨mu, M_mu⟩ := own_mir hcalls.2.2.1
  obtain ⟨mv, M_mv⟩ := own_mir hcalls.2.2.2.1
  obtain ⟨n, o, h1, h2, h3, _, L, rfl, ⟨rfl, N⟩, hq⟩ := rm0 l s _ hw tables_1 i0 i1 i2 i3 i4 i5 zc dd _ ee cc ma mu mv mo s.heap s.heap.size (Nat.le_refl _) SC hz SD VD XD SE SH SK BC M_ma M_mu M_mv M_mo p e ha hc hk s m _ below hf ((Spec.applies_iff_loose hf).mp happ).1 ⟨rfl, State.Warmed39.refl s, rfl⟩ trivial
  refine ⟨n, _, h1, h2, h3, hpost _ _ _ _ _ _ ⟨Cond.after_iff.mpr rfl, Cond.after_iff.mpr (eq_i res_at (Term.int_eval (1)) rfl), trivial⟩ ⟨hq.1, hq.2.1, hq.2.2.1, (hq.2.2.2.sift fun y hy => Or.inr (N y hy)).mono (by decide) (by decide)⟩⟩
theorem main_1_1 : Claimed_1_1 := comes_1 fun _ _ _ _ _ _ h hF => ⟨h.1, hF⟩
theorem main_1_2 : Claimed_1_2 := comes_1 fun _ _ _ _ _ _ h hF => ⟨h.2.1, hF⟩

end Jvm.Pilot.@@N@@
namespace Jvm.Pilot.@@N@@
open Jvm Jvm.ClassFile Sem Op Lib Jvm.Free Jvm.Stand Jvm.Pilot.@@N@@.Jvm.D
/-! MADE BY PROGRAM (witnessworld.py) out of the Statement's table words and the real class files: 41 classes; the members and pool entries that the words name. The judged class is class 1, her method 2. -/
namespace start1
open Jvm.ClassFile
def u (s : String) : CpInfo := .utf8 (stringToUtf16 s)
/-- a pool by its gaps: so many unusable entries, then the entry; so many at the end -/
def gap : Nat → List CpInfo → List CpInfo
  | 0, r => r
  | n + 1, r => .unusable :: gap n r
def poolList (es : List (Nat × CpInfo)) (last : Nat) : List CpInfo := es.foldr (fun e r => gap e.1 (e.2 :: r)) (gap last [])
def pool (es : List (Nat × CpInfo)) (last : Nat) : Array CpInfo := ⟨poolList es last⟩
def fileOf (pool : Array CpInfo) (this : Nat) (attrs : Array Attribute := #[]) (ms : Array MethodInfo := #[]) (fl : Nat := 33) (sup : Nat := 0) (ifs : Array Nat := #[]) (fds : Array FieldInfo := #[]) : ClassFile where
  minorVersion := 0
  majorVersion := 65
  constantPool := pool
  accessFlags := fl
  thisClass := this
  superClass := sup
  interfaces := ifs
  fields := fds
  methods := ms
  attributes := attrs
def plain (name : String) (sup : Option ClassId) : Class where
  name := name
  kind := .ordinary
  loader := none
  accessFlags := 33
  super := sup
  interfaces := #[]
  cf := none
  fields := #[]
  methods := #[]
  instanceTypes := #[]
  staticTypes := #[]
  resolved := #[]
  callSites := []
  init := .initialized
  statics := none
  mirror := none

def pool0 : Array CpInfo := pool [(5, u "<init>"), (0, u "()V"), (1, .class_ 10), (1, u "java/lang/Object"), (0, u "getClass"), (0, u "()Ljava/lang/Class;")] 111

def k0c0 : Code := { maxStack := 0, maxLocals := 1, code := object_method_1_code, exceptionTable := #[], attributes := #[] }
def k0m0 : Method := { name := "<init>", desc := "()V", sig := { parameters := [], returnType := none }, accessFlags := 1, code := some k0c0 }
def k0m1 : Method := { name := "getClass", desc := "()Ljava/lang/Class;", sig := { parameters := [], returnType := some (.object "java/lang/Class") }, accessFlags := 273, code := none }
/-- java/lang/Object -/
def k0 : Class := { plain "java/lang/Object" none with
  accessFlags := 33
  interfaces := #[]
  cf := some (fileOf pool0 8 #[] #[{ accessFlags := 1, nameIndex := 5, descriptorIndex := 6, attributes := #[] }, { accessFlags := 273, nameIndex := 11, descriptorIndex := 12, attributes := #[] }] 33 0 #[] #[])
  fields := #[]
  methods := #[k0m0, k0m1]
  instanceTypes := #[]
  staticTypes := #[]
  resolved := Array.replicate 124 none
  statics := none }

def pool1 : Array CpInfo := pool [(2, .class_ 4), (0, .nameAndType 5 6), (0, u "java/lang/Object"), (0, u "<init>"), (0, u "()V"), (0, .string 8), (0, u ""), (0, .class_ 10), (0, u "java/lang/String"), (0, .methodref 9 12), (0, .nameAndType 5 13), (0, u "([C)V"), (0, .class_ 15), (0, u "java/util/ArrayList"), (0, .methodref 14 3), (0, .methodref 18 19), (0, .class_ 20), (0, .nameAndType 21 22), (0, u "java/lang/Integer"), (0, u "valueOf"), (0, u "(I)Ljava/lang/Integer;"), (0, .methodref 14 24), (0, .nameAndType 25 26), (0, u "add"), (0, u "(Ljava/lang/Object;)Z"), (0, .methodref 28 29), (0, .class_ 30), (0, .nameAndType 31 32), (0, u "com/example/greater_than/greaterthan/page/PageHasNextPinLaw"), (0, u "cursor"), (0, u "(ZZII)Ljava/lang/String;"), (0, .class_ 34), (0, u "com/example/greater_than/greaterthan/page/Page"), (0, .methodref 33 36), (0, .nameAndType 5 37), (0, u "(Ljava/util/List;Ljava/lang/String;Ljava/lang/String;)V"), (0, .methodref 33 39), (0, .nameAndType 40 41), (0, u "hasNext"), (0, u "()Z"), (3, u "law"), (0, u "(IIIIII)Z")] 2

def k1m0 : Method := { name := "<init>", desc := "()V", sig := { parameters := [], returnType := none }, accessFlags := 1, code := none }
def k1c1 : Code := { maxStack := 4, maxLocals := 5, code := method_2_code, exceptionTable := #[], attributes := #[] }
def k1m1 : Method := { name := "cursor", desc := "(ZZII)Ljava/lang/String;", sig := { parameters := [.boolean, .boolean, .int, .int], returnType := some (.object "java/lang/String") }, accessFlags := 10, code := some k1c1 }
def k1c2 : Code := { maxStack := 5, maxLocals := 16, code := code, exceptionTable := #[], attributes := #[] }
def k1m2 : Method := { name := "law", desc := "(IIIIII)Z", sig := { parameters := [.int, .int, .int, .int, .int, .int], returnType := some .boolean }, accessFlags := 9, code := some k1c2 }
/-- com/example/greater_than/greaterthan/page/PageHasNextPinLaw -/
def k1 : Class := { plain "com/example/greater_than/greaterthan/page/PageHasNextPinLaw" (some 0) with
  accessFlags := 49
  interfaces := #[]
  cf := some (fileOf pool1 28 #[] #[{ accessFlags := 1, nameIndex := 5, descriptorIndex := 6, attributes := #[] }, { accessFlags := 10, nameIndex := 31, descriptorIndex := 32, attributes := #[] }, { accessFlags := 9, nameIndex := 45, descriptorIndex := 46, attributes := #[] }] 49 2 #[] #[])
  fields := #[]
  methods := #[k1m0, k1m1, k1m2]
  instanceTypes := #[]
  staticTypes := #[]
  resolved := Array.replicate 49 none
  statics := none }

def pool2 : Array CpInfo := pool [(8, .class_ 10), (1, u "java/lang/Iterable"), (24, .class_ 36), (0, u "java/lang/Object")] 25

/-- java/lang/Iterable -/
def k2 : Class := { plain "java/lang/Iterable" (some 0) with
  accessFlags := 1537
  interfaces := #[]
  cf := some (fileOf pool2 8 #[] #[] 1537 35 #[] #[])
  fields := #[]
  methods := #[]
  instanceTypes := #[]
  staticTypes := #[]
  resolved := Array.replicate 62 none
  statics := none }

def pool3 : Array CpInfo := pool [(10, .class_ 12), (1, u "java/util/Collection"), (0, u "toArray"), (46, .class_ 61), (0, u "java/lang/Object"), (0, .class_ 63), (0, u "java/lang/Iterable"), (6, u "()[Ljava/lang/Object;")] 44

def k3m0 : Method := { name := "toArray", desc := "()[Ljava/lang/Object;", sig := { parameters := [], returnType := some (.array (.object "java/lang/Object")) }, accessFlags := 1025, code := none }
/-- java/util/Collection -/
def k3 : Class := { plain "java/util/Collection" (some 0) with
  accessFlags := 1537
  interfaces := #[2]
  cf := some (fileOf pool3 10 #[] #[{ accessFlags := 1025, nameIndex := 13, descriptorIndex := 70, attributes := #[] }] 1537 60 #[62] #[])
  fields := #[]
  methods := #[k3m0]
  instanceTypes := #[]
  staticTypes := #[]
  resolved := Array.replicate 115 none
  statics := none }

def pool4 : Array CpInfo := pool [(1, .methodref 2 3), (0, .class_ 4), (0, .nameAndType 5 6), (0, u "java/lang/Object"), (0, u "<init>"), (0, u "()V"), (1, .class_ 10), (1, u "java/util/AbstractCollection"), (66, .class_ 78), (0, u "java/util/Collection")] 81

def k4c0 : Code := { maxStack := 1, maxLocals := 1, code := jdk_22_method_1_code, exceptionTable := #[], attributes := #[] }
def k4m0 : Method := { name := "<init>", desc := "()V", sig := { parameters := [], returnType := none }, accessFlags := 4, code := some k4c0 }
/-- java/util/AbstractCollection -/
def k4 : Class := { plain "java/util/AbstractCollection" (some 0) with
  accessFlags := 1057
  interfaces := #[3]
  cf := some (fileOf pool4 8 #[] #[{ accessFlags := 4, nameIndex := 5, descriptorIndex := 6, attributes := #[] }] 1057 2 #[77] #[])
  fields := #[]
  methods := #[k4m0]
  instanceTypes := #[]
  staticTypes := #[]
  resolved := Array.replicate 160 none
  statics := none }

def pool5 : Array CpInfo := pool [(8, .class_ 10), (1, u "java/util/SequencedCollection"), (15, .class_ 27), (0, u "java/lang/Object"), (0, .class_ 29), (0, u "java/util/Collection")] 27

/-- java/util/SequencedCollection -/
def k5 : Class := { plain "java/util/SequencedCollection" (some 0) with
  accessFlags := 1537
  interfaces := #[3]
  cf := some (fileOf pool5 8 #[] #[] 1537 26 #[28] #[])
  fields := #[]
  methods := #[]
  instanceTypes := #[]
  staticTypes := #[]
  resolved := Array.replicate 57 none
  statics := none }

def pool6 : Array CpInfo := pool [(8, .class_ 10), (1, u "java/util/List"), (92, .class_ 104), (0, u "java/lang/Object"), (15, .class_ 121), (0, u "java/util/SequencedCollection")] 129

/-- java/util/List -/
def k6 : Class := { plain "java/util/List" (some 0) with
  accessFlags := 1537
  interfaces := #[5]
  cf := some (fileOf pool6 8 #[] #[] 1537 103 #[120] #[])
  fields := #[]
  methods := #[]
  instanceTypes := #[]
  staticTypes := #[]
  resolved := Array.replicate 251 none
  statics := none }

def pool7 : Array CpInfo := pool [(1, .methodref 2 3), (0, .class_ 4), (0, .nameAndType 5 6), (0, u "java/util/AbstractCollection"), (0, u "<init>"), (0, u "()V"), (0, .fieldref 8 9), (0, .class_ 10), (0, .nameAndType 11 12), (0, u "java/util/AbstractList"), (0, u "modCount"), (0, u "I"), (64, .class_ 78), (0, u "java/util/AbstractList$Itr"), (3, .class_ 83), (0, u "java/util/AbstractList$ListItr"), (9, .class_ 94), (0, u "java/util/AbstractList$RandomAccessSubList"), (3, .class_ 99), (0, u "java/util/AbstractList$SubList"), (33, .class_ 134), (0, u "java/util/List"), (73, .class_ 209), (0, u "java/util/AbstractList$SubList$1"), (0, .class_ 211), (0, u "java/util/AbstractList$RandomAccessSpliterator")] 6

def k7c0 : Code := { maxStack := 2, maxLocals := 1, code := jdk_39_method_1_code, exceptionTable := #[], attributes := #[] }
def k7m0 : Method := { name := "<init>", desc := "()V", sig := { parameters := [], returnType := none }, accessFlags := 4, code := some k7c0 }
/-- java/util/AbstractList -/
def k7 : Class := { plain "java/util/AbstractList" (some 4) with
  accessFlags := 1057
  interfaces := #[6]
  cf := some (fileOf pool7 8 #[.nestMembers #[93, 98, 208, 210, 82, 77]] #[{ accessFlags := 4, nameIndex := 5, descriptorIndex := 6, attributes := #[] }] 1057 2 #[133] #[{ accessFlags := 132, nameIndex := 11, descriptorIndex := 12, attributes := #[] }])
  fields := #[{ name := "modCount", type := .int, accessFlags := 132, slot := 0, constantValue := 0 }]
  methods := #[k7m0]
  instanceTypes := #[.int]
  staticTypes := #[]
  resolved := Array.replicate 218 none
  statics := none }

def pool8 : Array CpInfo := pool [(1, .class_ 2), (0, u "java/util/RandomAccess"), (0, .class_ 4), (0, u "java/lang/Object")] 2

/-- java/util/RandomAccess -/
def k8 : Class := { plain "java/util/RandomAccess" (some 0) with
  accessFlags := 1537
  interfaces := #[]
  cf := some (fileOf pool8 1 #[] #[] 1537 3 #[] #[])
  fields := #[]
  methods := #[]
  instanceTypes := #[]
  staticTypes := #[]
  resolved := Array.replicate 7 none
  statics := none }

def pool9 : Array CpInfo := pool [(1, .class_ 2), (0, u "java/lang/Cloneable"), (0, .class_ 4), (0, u "java/lang/Object")] 2

/-- java/lang/Cloneable -/
def k9 : Class := { plain "java/lang/Cloneable" (some 0) with
  accessFlags := 1537
  interfaces := #[]
  cf := some (fileOf pool9 1 #[] #[] 1537 3 #[] #[])
  fields := #[]
  methods := #[]
  instanceTypes := #[]
  staticTypes := #[]
  resolved := Array.replicate 7 none
  statics := none }

def pool10 : Array CpInfo := pool [(1, .class_ 2), (0, u "java/io/Serializable"), (0, .class_ 4), (0, u "java/lang/Object")] 2

/-- java/io/Serializable -/
def k10 : Class := { plain "java/io/Serializable" (some 0) with
  accessFlags := 1537
  interfaces := #[]
  cf := some (fileOf pool10 1 #[] #[] 1537 3 #[] #[])
  fields := #[]
  methods := #[]
  instanceTypes := #[]
  staticTypes := #[]
  resolved := Array.replicate 7 none
  statics := none }

def pool11 : Array CpInfo := pool [(1, .methodref 2 3), (0, .class_ 4), (0, .nameAndType 5 6), (0, u "java/util/AbstractList"), (0, u "<init>"), (0, u "()V"), (0, .class_ 8), (0, u "java/lang/Object"), (0, .fieldref 10 11), (0, .class_ 12), (0, .nameAndType 13 14), (0, u "java/util/ArrayList"), (0, u "elementData"), (0, u "[Ljava/lang/Object;"), (0, .fieldref 10 16), (0, .nameAndType 17 14), (0, u "EMPTY_ELEMENTDATA"), (21, .fieldref 10 40), (0, .nameAndType 41 14), (0, u "DEFAULTCAPACITY_EMPTY_ELEMENTDATA"), (0, .interfaceMethodref 43 44), (0, .class_ 45), (0, .nameAndType 46 47), (0, u "java/util/Collection"), (0, u "toArray"), (0, u "()[Ljava/lang/Object;"), (0, .fieldref 10 49), (0, .nameAndType 50 51), (0, u "size"), (0, u "I"), (0, .interfaceMethodref 43 53), (0, .nameAndType 54 55), (0, u "getClass"), (0, u "()Ljava/lang/Class;"), (2, .class_ 60), (1, u "java/util/Arrays"), (0, u "copyOf"), (1, .fieldref 10 64), (0, .nameAndType 65 51), (0, u "modCount"), (0, .methodref 58 67), (0, .nameAndType 61 68), (0, u "([Ljava/lang/Object;I)[Ljava/lang/Object;"), (0, .methodref 10 70), (0, .nameAndType 71 72), (0, u "grow"), (0, u "(I)[Ljava/lang/Object;"), (6, .methodref 80 81), (0, .class_ 82), (0, .nameAndType 83 84), (0, u "java/lang/Math"), (0, u "max"), (0, u "(II)I"), (11, u "(Ljava/lang/Object;)Z"), (32, .methodref 10 130), (0, .nameAndType 71 47), (0, .methodref 10 132), (0, .nameAndType 133 134), (0, u "add"), (0, u "(Ljava/lang/Object;[Ljava/lang/Object;I)V"), (13, .class_ 149), (0, u "java/util/List"), (112, .class_ 263), (0, u "java/util/ArrayList$ListItr"), (3, .class_ 268), (0, u "java/util/ArrayList$Itr"), (7, .class_ 277), (0, u "java/util/ArrayList$SubList"), (12, .class_ 291), (0, u "java/util/ArrayList$ArrayListSpliterator"), (37, .class_ 330), (0, u "java/util/RandomAccess"), (0, .class_ 332), (0, u "java/lang/Cloneable"), (0, .class_ 334), (0, u "java/io/Serializable"), (0, u "serialVersionUID"), (0, u "J"), (3, u "DEFAULT_CAPACITY"), (10, u "(Ljava/util/Collection;)V"), (148, .class_ 501), (0, u "java/util/ArrayList$SubList$2"), (0, .class_ 503), (0, u "java/util/ArrayList$SubList$1")] 5

def k11c0 : Code := { maxStack := 2, maxLocals := 1, code := jdk_38_method_2_code, exceptionTable := #[], attributes := #[] }
def k11m0 : Method := { name := "<init>", desc := "()V", sig := { parameters := [], returnType := none }, accessFlags := 1, code := some k11c0 }
def k11c1 : Code := { maxStack := 4, maxLocals := 3, code := jdk_38_method_3_code, exceptionTable := #[], attributes := #[] }
def k11m1 : Method := { name := "<init>", desc := "(Ljava/util/Collection;)V", sig := { parameters := [(.object "java/util/Collection")], returnType := none }, accessFlags := 1, code := some k11c1 }
def k11c2 : Code := { maxStack := 4, maxLocals := 4, code := jdk_38_method_6_code, exceptionTable := #[], attributes := #[] }
def k11m2 : Method := { name := "grow", desc := "(I)[Ljava/lang/Object;", sig := { parameters := [.int], returnType := some (.array (.object "java/lang/Object")) }, accessFlags := 2, code := some k11c2 }
def k11c3 : Code := { maxStack := 3, maxLocals := 1, code := jdk_38_method_7_code, exceptionTable := #[], attributes := #[] }
def k11m3 : Method := { name := "grow", desc := "()[Ljava/lang/Object;", sig := { parameters := [], returnType := some (.array (.object "java/lang/Object")) }, accessFlags := 2, code := some k11c3 }
def k11c4 : Code := { maxStack := 2, maxLocals := 1, code := jdk_38_method_16_code, exceptionTable := #[], attributes := #[] }
def k11m4 : Method := { name := "toArray", desc := "()[Ljava/lang/Object;", sig := { parameters := [], returnType := some (.array (.object "java/lang/Object")) }, accessFlags := 1, code := some k11c4 }
def k11c5 : Code := { maxStack := 3, maxLocals := 4, code := jdk_38_method_24_code, exceptionTable := #[], attributes := #[] }
def k11m5 : Method := { name := "add", desc := "(Ljava/lang/Object;[Ljava/lang/Object;I)V", sig := { parameters := [(.object "java/lang/Object"), (.array (.object "java/lang/Object")), .int], returnType := none }, accessFlags := 2, code := some k11c5 }
def k11c6 : Code := { maxStack := 4, maxLocals := 2, code := jdk_38_method_25_code, exceptionTable := #[], attributes := #[] }
def k11m6 : Method := { name := "add", desc := "(Ljava/lang/Object;)Z", sig := { parameters := [(.object "java/lang/Object")], returnType := some .boolean }, accessFlags := 1, code := some k11c6 }
/-- java/util/ArrayList -/
def k11 : Class := { plain "java/util/ArrayList" (some 7) with
  accessFlags := 33
  interfaces := #[6, 8, 9, 10]
  cf := some (fileOf pool11 10 #[.nestMembers #[290, 276, 500, 502, 262, 267]] #[{ accessFlags := 1, nameIndex := 5, descriptorIndex := 6, attributes := #[] }, { accessFlags := 1, nameIndex := 5, descriptorIndex := 351, attributes := #[] }, { accessFlags := 2, nameIndex := 71, descriptorIndex := 72, attributes := #[] }, { accessFlags := 2, nameIndex := 71, descriptorIndex := 47, attributes := #[] }, { accessFlags := 1, nameIndex := 46, descriptorIndex := 47, attributes := #[] }, { accessFlags := 2, nameIndex := 133, descriptorIndex := 134, attributes := #[] }, { accessFlags := 1, nameIndex := 133, descriptorIndex := 96, attributes := #[] }] 33 2 #[148, 329, 331, 333] #[{ accessFlags := 26, nameIndex := 335, descriptorIndex := 336, attributes := #[] }, { accessFlags := 26, nameIndex := 340, descriptorIndex := 51, attributes := #[] }, { accessFlags := 26, nameIndex := 17, descriptorIndex := 14, attributes := #[] }, { accessFlags := 26, nameIndex := 41, descriptorIndex := 14, attributes := #[] }, { accessFlags := 128, nameIndex := 13, descriptorIndex := 14, attributes := #[] }, { accessFlags := 2, nameIndex := 50, descriptorIndex := 51, attributes := #[] }])
  fields := #[{ name := "serialVersionUID", type := .long, accessFlags := 26, slot := 0, constantValue := 0 }, { name := "DEFAULT_CAPACITY", type := .int, accessFlags := 26, slot := 1, constantValue := 0 }, { name := "EMPTY_ELEMENTDATA", type := (.array (.object "java/lang/Object")), accessFlags := 26, slot := 2, constantValue := 0 }, { name := "DEFAULTCAPACITY_EMPTY_ELEMENTDATA", type := (.array (.object "java/lang/Object")), accessFlags := 26, slot := 3, constantValue := 0 }, { name := "elementData", type := (.array (.object "java/lang/Object")), accessFlags := 128, slot := 1, constantValue := 0 }, { name := "size", type := .int, accessFlags := 2, slot := 2, constantValue := 0 }]
  methods := #[k11m0, k11m1, k11m2, k11m3, k11m4, k11m5, k11m6]
  instanceTypes := #[.int, (.array (.object "java/lang/Object")), .int]
  staticTypes := #[.long, .int, (.array (.object "java/lang/Object")), (.array (.object "java/lang/Object"))]
  resolved := Array.replicate 509 none
  mirror := some 5
  statics := some 0 }

def pool12 : Array CpInfo := pool [(1, .class_ 2), (0, u "java/lang/Comparable"), (0, .class_ 4), (0, u "java/lang/Object")] 7

/-- java/lang/Comparable -/
def k12 : Class := { plain "java/lang/Comparable" (some 0) with
  accessFlags := 1537
  interfaces := #[]
  cf := some (fileOf pool12 1 #[] #[] 1537 3 #[] #[])
  fields := #[]
  methods := #[]
  instanceTypes := #[]
  staticTypes := #[]
  resolved := Array.replicate 12 none
  statics := none }

def pool13 : Array CpInfo := pool [(2, .class_ 4), (1, u "java/lang/CharSequence"), (42, .class_ 48), (0, u "java/lang/CharSequence$1CodePointIterator"), (10, .class_ 60), (0, u "java/lang/CharSequence$1CharIterator"), (5, .class_ 67), (0, u "java/lang/Object")] 63

/-- java/lang/CharSequence -/
def k13 : Class := { plain "java/lang/CharSequence" (some 0) with
  accessFlags := 1537
  interfaces := #[]
  cf := some (fileOf pool13 2 #[.nestMembers #[47, 59]] #[] 1537 66 #[] #[])
  fields := #[]
  methods := #[]
  instanceTypes := #[]
  staticTypes := #[]
  resolved := Array.replicate 131 none
  statics := none }

def pool14 : Array CpInfo := pool [(1, .class_ 2), (0, u "java/lang/constant/Constable"), (0, .class_ 4), (0, u "java/lang/Object")] 6

/-- java/lang/constant/Constable -/
def k14 : Class := { plain "java/lang/constant/Constable" (some 0) with
  accessFlags := 1537
  interfaces := #[]
  cf := some (fileOf pool14 1 #[] #[] 1537 3 #[] #[])
  fields := #[]
  methods := #[]
  instanceTypes := #[]
  staticTypes := #[]
  resolved := Array.replicate 11 none
  statics := none }

def pool15 : Array CpInfo := pool [(1, .class_ 2), (0, u "java/lang/constant/ConstantDesc"), (0, .class_ 4), (0, u "java/lang/Object")] 32

/-- java/lang/constant/ConstantDesc -/
def k15 : Class := { plain "java/lang/constant/ConstantDesc" (some 0) with
  accessFlags := 1537
  interfaces := #[]
  cf := some (fileOf pool15 1 #[] #[] 1537 3 #[] #[])
  fields := #[]
  methods := #[]
  instanceTypes := #[]
  staticTypes := #[]
  resolved := Array.replicate 37 none
  statics := none }

def pool16 : Array CpInfo := pool [(1, .methodref 2 3), (0, .class_ 4), (0, .nameAndType 5 6), (0, u "java/lang/Object"), (0, u "<init>"), (0, u "()V"), (2, .fieldref 10 11), (0, .class_ 12), (0, .nameAndType 13 14), (0, u "java/lang/String"), (0, u "value"), (0, u "[B"), (0, .fieldref 10 16), (0, .nameAndType 17 18), (0, u "coder"), (0, u "B"), (2, u "hash"), (0, u "I"), (2, u "hashIsZero"), (0, u "Z"), (0, .methodref 10 28), (0, .nameAndType 5 29), (0, u "([CIILjava/lang/Void;)V"), (8, .fieldref 10 39), (0, .nameAndType 40 26), (0, u "COMPACT_STRINGS"), (1, .class_ 44), (1, u "java/lang/StringUTF16"), (0, u "compress"), (1, .methodref 42 48), (0, .nameAndType 49 50), (0, u "coderFromArrayLen"), (0, u "([BI)B"), (126, .methodref 42 178), (0, .nameAndType 45 179), (0, u "([CII)[B"), (395, .class_ 576), (0, u "java/lang/CharSequence"), (22, u "CASE_INSENSITIVE_ORDER"), (0, u "Ljava/util/Comparator;"), (409, u "([C)V"), (90, u "serialPersistentFields"), (0, u "[Ljava/io/ObjectStreamField;"), (0, .class_ 1104), (0, u "java/lang/String$CaseInsensitiveComparator"), (1, .class_ 1107), (0, u "java/io/Serializable"), (0, .class_ 1109), (0, u "java/lang/Comparable"), (0, .class_ 1111), (0, u "java/lang/constant/Constable"), (0, .class_ 1113), (0, u "java/lang/constant/ConstantDesc"), (2, u "serialVersionUID"), (0, u "J"), (3, u "REPL"), (0, u "C"), (2, u "LATIN1"), (1, u "UTF16")] 323

def k16m0 : Method := { name := "<init>", desc := "()V", sig := { parameters := [], returnType := none }, accessFlags := 1, code := none }
def k16c1 : Code := { maxStack := 5, maxLocals := 2, code := jdk_42_method_3_code, exceptionTable := #[], attributes := #[] }
def k16m1 : Method := { name := "<init>", desc := "([C)V", sig := { parameters := [(.array .char)], returnType := none }, accessFlags := 1, code := some k16c1 }
def k16c2 : Code := { maxStack := 4, maxLocals := 6, code := jdk_42_method_149_code, exceptionTable := #[], attributes := #[] }
def k16m2 : Method := { name := "<init>", desc := "([CIILjava/lang/Void;)V", sig := { parameters := [(.array .char), .int, .int, (.object "java/lang/Void")], returnType := none }, accessFlags := 2, code := some k16c2 }
/-- java/lang/String -/
def k16 : Class := { plain "java/lang/String" (some 0) with
  accessFlags := 49
  interfaces := #[10, 12, 13, 14, 15]
  cf := some (fileOf pool16 10 #[.nestMembers #[1103]] #[{ accessFlags := 1, nameIndex := 5, descriptorIndex := 6, attributes := #[] }, { accessFlags := 1, nameIndex := 5, descriptorIndex := 1010, attributes := #[] }, { accessFlags := 2, nameIndex := 5, descriptorIndex := 29, attributes := #[] }] 49 2 #[1106, 1108, 575, 1110, 1112] #[{ accessFlags := 18, nameIndex := 13, descriptorIndex := 14, attributes := #[] }, { accessFlags := 18, nameIndex := 17, descriptorIndex := 18, attributes := #[] }, { accessFlags := 2, nameIndex := 21, descriptorIndex := 22, attributes := #[] }, { accessFlags := 2, nameIndex := 25, descriptorIndex := 26, attributes := #[] }, { accessFlags := 26, nameIndex := 1116, descriptorIndex := 1117, attributes := #[] }, { accessFlags := 24, nameIndex := 40, descriptorIndex := 26, attributes := #[] }, { accessFlags := 26, nameIndex := 1101, descriptorIndex := 1102, attributes := #[] }, { accessFlags := 26, nameIndex := 1121, descriptorIndex := 1122, attributes := #[] }, { accessFlags := 25, nameIndex := 599, descriptorIndex := 600, attributes := #[] }, { accessFlags := 24, nameIndex := 1125, descriptorIndex := 18, attributes := #[] }, { accessFlags := 24, nameIndex := 1127, descriptorIndex := 18, attributes := #[] }])
  fields := #[{ name := "value", type := (.array .byte), accessFlags := 18, slot := 0, constantValue := 0 }, { name := "coder", type := .byte, accessFlags := 18, slot := 1, constantValue := 0 }, { name := "hash", type := .int, accessFlags := 2, slot := 2, constantValue := 0 }, { name := "hashIsZero", type := .boolean, accessFlags := 2, slot := 3, constantValue := 0 }, { name := "serialVersionUID", type := .long, accessFlags := 26, slot := 0, constantValue := 0 }, { name := "COMPACT_STRINGS", type := .boolean, accessFlags := 24, slot := 1, constantValue := 0 }, { name := "serialPersistentFields", type := (.array (.object "java/io/ObjectStreamField")), accessFlags := 26, slot := 2, constantValue := 0 }, { name := "REPL", type := .char, accessFlags := 26, slot := 3, constantValue := 0 }, { name := "CASE_INSENSITIVE_ORDER", type := (.object "java/util/Comparator"), accessFlags := 25, slot := 4, constantValue := 0 }, { name := "LATIN1", type := .byte, accessFlags := 24, slot := 5, constantValue := 0 }, { name := "UTF16", type := .byte, accessFlags := 24, slot := 6, constantValue := 0 }]
  methods := #[k16m0, k16m1, k16m2]
  instanceTypes := #[(.array .byte), .byte, .int, .boolean]
  staticTypes := #[.long, .boolean, (.array (.object "java/io/ObjectStreamField")), .char, (.object "java/util/Comparator"), .byte, .byte]
  resolved := Array.replicate 1451 none
  statics := some 1 }

def pool17 : Array CpInfo := pool [(6, .class_ 8), (1, u "java/lang/Object"), (0, u "<init>"), (0, u "()V"), (1, .class_ 14), (1, u "java/lang/StringUTF16"), (31, u "$assertionsDisabled"), (0, u "Z"), (13, u "HI_BYTE_SHIFT"), (0, u "I"), (2, u "LO_BYTE_SHIFT"), (49, .methodref 12 116), (0, .nameAndType 117 118), (0, u "compress"), (0, u "([CI[BII)I"), (3, u "([CII)[B"), (138, u "coderFromArrayLen"), (0, u "([BI)B"), (106, .class_ 371), (1, u "java/lang/StringUTF16$LinesSpliterator"), (58, u "MAX_LENGTH"), (196, .class_ 628), (0, u "java/lang/StringUTF16$CodePointsSpliterator"), (0, .class_ 630), (0, u "java/lang/StringUTF16$CharsSpliterator")] 4

def k17m0 : Method := { name := "<init>", desc := "()V", sig := { parameters := [], returnType := none }, accessFlags := 0, code := none }
def k17c1 : Code := { maxStack := 2, maxLocals := 2, code := jdk_52_method_15_code, exceptionTable := #[], attributes := #[] }
def k17m1 : Method := { name := "coderFromArrayLen", desc := "([BI)B", sig := { parameters := [(.array .byte), .int], returnType := some .byte }, accessFlags := 8, code := some k17c1 }
def k17c2 : Code := { maxStack := 5, maxLocals := 6, code := jdk_52_method_16_code, exceptionTable := #[], attributes := #[] }
def k17m2 : Method := { name := "compress", desc := "([CII)[B", sig := { parameters := [(.array .char), .int, .int], returnType := some (.array .byte) }, accessFlags := 9, code := some k17c2 }
def k17c3 : Code := { maxStack := 3, maxLocals := 7, code := jdk_52_method_21_code, exceptionTable := #[], attributes := #[] }
def k17m3 : Method := { name := "compress", desc := "([CI[BII)I", sig := { parameters := [(.array .char), .int, (.array .byte), .int, .int], returnType := some .int }, accessFlags := 9, code := some k17c3 }
/-- java/lang/StringUTF16 -/
def k17 : Class := { plain "java/lang/StringUTF16" (some 0) with
  accessFlags := 48
  interfaces := #[]
  cf := some (fileOf pool17 12 #[.nestMembers #[627, 629, 369]] #[{ accessFlags := 0, nameIndex := 9, descriptorIndex := 10, attributes := #[] }, { accessFlags := 8, nameIndex := 261, descriptorIndex := 262, attributes := #[] }, { accessFlags := 9, nameIndex := 117, descriptorIndex := 122, attributes := #[] }, { accessFlags := 9, nameIndex := 117, descriptorIndex := 118, attributes := #[] }] 48 6 #[] #[{ accessFlags := 26, nameIndex := 61, descriptorIndex := 62, attributes := #[] }, { accessFlags := 26, nameIndex := 65, descriptorIndex := 62, attributes := #[] }, { accessFlags := 24, nameIndex := 430, descriptorIndex := 62, attributes := #[] }, { accessFlags := 4120, nameIndex := 46, descriptorIndex := 47, attributes := #[] }])
  fields := #[{ name := "HI_BYTE_SHIFT", type := .int, accessFlags := 26, slot := 0, constantValue := 0 }, { name := "LO_BYTE_SHIFT", type := .int, accessFlags := 26, slot := 1, constantValue := 0 }, { name := "MAX_LENGTH", type := .int, accessFlags := 24, slot := 2, constantValue := 0 }, { name := "$assertionsDisabled", type := .boolean, accessFlags := 4120, slot := 3, constantValue := 0 }]
  methods := #[k17m0, k17m1, k17m2, k17m3]
  instanceTypes := #[]
  staticTypes := #[.int, .int, .int, .boolean]
  resolved := Array.replicate 635 none
  statics := none }

def pool18 : Array CpInfo := pool [(1, .methodref 2 3), (0, .class_ 4), (0, .nameAndType 5 6), (0, u "java/lang/Object"), (0, u "<init>"), (0, u "()V"), (0, .class_ 8), (0, u "java/util/ArrayList"), (0, .methodref 7 10), (0, .nameAndType 5 11), (0, u "(Ljava/util/Collection;)V"), (0, .methodref 13 14), (0, .class_ 15), (0, .nameAndType 16 17), (0, u "java/util/Collections"), (0, u "unmodifiableList"), (0, u "(Ljava/util/List;)Ljava/util/List;"), (0, .fieldref 19 20), (0, .class_ 21), (0, .nameAndType 22 23), (0, u "com/example/greater_than/greaterthan/page/Page"), (0, u "rows"), (0, u "Ljava/util/List;"), (0, .fieldref 19 25), (0, .nameAndType 26 27), (0, u "previousCursor"), (0, u "Ljava/lang/String;"), (0, .fieldref 19 29), (0, .nameAndType 30 27), (0, u "nextCursor"), (8, u "(Ljava/util/List;Ljava/lang/String;Ljava/lang/String;)V"), (8, u "()Z"), (1, u "hasNext")] 3

def k18c0 : Code := { maxStack := 4, maxLocals := 4, code := prog_39_method_1_code, exceptionTable := #[], attributes := #[] }
def k18m0 : Method := { name := "<init>", desc := "(Ljava/util/List;Ljava/lang/String;Ljava/lang/String;)V", sig := { parameters := [(.object "java/util/List"), (.object "java/lang/String"), (.object "java/lang/String")], returnType := none }, accessFlags := 1, code := some k18c0 }
def k18c1 : Code := { maxStack := 1, maxLocals := 1, code := prog_39_method_6_code, exceptionTable := #[], attributes := #[] }
def k18m1 : Method := { name := "hasNext", desc := "()Z", sig := { parameters := [], returnType := some .boolean }, accessFlags := 1, code := some k18c1 }
/-- com/example/greater_than/greaterthan/page/Page -/
def k18 : Class := { plain "com/example/greater_than/greaterthan/page/Page" (some 0) with
  accessFlags := 49
  interfaces := #[]
  cf := some (fileOf pool18 19 #[] #[{ accessFlags := 1, nameIndex := 5, descriptorIndex := 39, attributes := #[] }, { accessFlags := 1, nameIndex := 50, descriptorIndex := 48, attributes := #[] }] 49 2 #[] #[{ accessFlags := 18, nameIndex := 22, descriptorIndex := 23, attributes := #[] }, { accessFlags := 18, nameIndex := 26, descriptorIndex := 27, attributes := #[] }, { accessFlags := 18, nameIndex := 30, descriptorIndex := 27, attributes := #[] }])
  fields := #[{ name := "rows", type := (.object "java/util/List"), accessFlags := 18, slot := 0, constantValue := 0 }, { name := "previousCursor", type := (.object "java/lang/String"), accessFlags := 18, slot := 1, constantValue := 0 }, { name := "nextCursor", type := (.object "java/lang/String"), accessFlags := 18, slot := 2, constantValue := 0 }]
  methods := #[k18m0, k18m1]
  instanceTypes := #[(.object "java/util/List"), (.object "java/lang/String"), (.object "java/lang/String")]
  staticTypes := #[]
  resolved := Array.replicate 54 none
  statics := none }

def pool19 : Array CpInfo := pool [(2, .class_ 4), (1, u "java/lang/Object"), (0, u "<init>"), (0, u "()V"), (7, .class_ 16), (1, u "java/util/Arrays"), (57, .class_ 76), (1, u "java/util/Arrays$NaturalOrder"), (9, .methodref 2 87), (0, .nameAndType 88 89), (0, u "getClass"), (0, u "()Ljava/lang/Class;"), (20, .class_ 111), (0, u "[Ljava/lang/Object;"), (1, .class_ 115), (1, u "java/util/Arrays$LegacyMergeSort"), (1, u "Z"), (32, .methodref 151 152), (0, .class_ 153), (0, .nameAndType 154 155), (0, u "java/lang/System"), (0, u "arraycopy"), (0, u "(Ljava/lang/Object;ILjava/lang/Object;II)V"), (144, .methodref 14 301), (0, .nameAndType 302 303), (0, u "copyOf"), (0, u "([Ljava/lang/Object;ILjava/lang/Class;)[Ljava/lang/Object;"), (0, .methodref 305 306), (0, .class_ 307), (0, .nameAndType 308 309), (0, u "java/lang/Math"), (0, u "min"), (0, u "(II)I"), (65, .class_ 376), (0, u "java/util/Arrays$ArrayList"), (68, u "$assertionsDisabled"), (269, u "MIN_ARRAY_SORT_GRAN"), (0, u "I"), (2, u "INSERTIONSORT_THRESHOLD"), (140, u "([Ljava/lang/Object;I)[Ljava/lang/Object;"), (114, .class_ 976), (0, u "java/util/Arrays$ArrayItr")] 52

def k19m0 : Method := { name := "<init>", desc := "()V", sig := { parameters := [], returnType := none }, accessFlags := 2, code := none }
def k19c1 : Code := { maxStack := 3, maxLocals := 2, code := jdk_65_method_119_code, exceptionTable := #[], attributes := #[] }
def k19m1 : Method := { name := "copyOf", desc := "([Ljava/lang/Object;I)[Ljava/lang/Object;", sig := { parameters := [(.array (.object "java/lang/Object")), .int], returnType := some (.array (.object "java/lang/Object")) }, accessFlags := 9, code := some k19c1 }
def k19c2 : Code := { maxStack := 6, maxLocals := 4, code := jdk_65_method_120_code, exceptionTable := #[], attributes := #[] }
def k19m2 : Method := { name := "copyOf", desc := "([Ljava/lang/Object;ILjava/lang/Class;)[Ljava/lang/Object;", sig := { parameters := [(.array (.object "java/lang/Object")), .int, (.object "java/lang/Class")], returnType := some (.array (.object "java/lang/Object")) }, accessFlags := 9, code := some k19c2 }
/-- java/util/Arrays -/
def k19 : Class := { plain "java/util/Arrays" (some 0) with
  accessFlags := 49
  interfaces := #[]
  cf := some (fileOf pool19 14 #[.nestMembers #[975, 375, 113, 74]] #[{ accessFlags := 2, nameIndex := 5, descriptorIndex := 6, attributes := #[] }, { accessFlags := 9, nameIndex := 302, descriptorIndex := 860, attributes := #[] }, { accessFlags := 9, nameIndex := 302, descriptorIndex := 303, attributes := #[] }] 49 2 #[] #[{ accessFlags := 26, nameIndex := 715, descriptorIndex := 716, attributes := #[] }, { accessFlags := 26, nameIndex := 719, descriptorIndex := 716, attributes := #[] }, { accessFlags := 4120, nameIndex := 445, descriptorIndex := 117, attributes := #[] }])
  fields := #[{ name := "MIN_ARRAY_SORT_GRAN", type := .int, accessFlags := 26, slot := 0, constantValue := 0 }, { name := "INSERTIONSORT_THRESHOLD", type := .int, accessFlags := 26, slot := 1, constantValue := 0 }, { name := "$assertionsDisabled", type := .boolean, accessFlags := 4120, slot := 2, constantValue := 0 }]
  methods := #[k19m0, k19m1, k19m2]
  instanceTypes := #[]
  staticTypes := #[.int, .int, .boolean]
  resolved := Array.replicate 1029 none
  statics := none }

def pool20 : Array CpInfo := pool [(1, .class_ 2), (0, u "java/lang/Math"), (1, .class_ 6), (1, u "java/lang/Object"), (0, u "<init>"), (0, u "()V"), (89, .class_ 100), (1, u "java/lang/Math$RandomNumberGeneratorHolder"), (71, u "negativeZeroFloatBits"), (0, u "J"), (2, u "negativeZeroDoubleBits"), (21, u "max"), (2, u "min"), (43, u "$assertionsDisabled"), (0, u "Z"), (88, u "(II)I"), (2, u "twoToTheDoubleScaleDown"), (0, u "D"), (4, u "twoToTheDoubleScaleUp"), (9, u "E"), (3, u "PI"), (2, u "TAU"), (2, u "DEGREES_TO_RADIANS"), (0, u "RADIANS_TO_DEGREES")] 94

def k20m0 : Method := { name := "<init>", desc := "()V", sig := { parameters := [], returnType := none }, accessFlags := 2, code := none }
def k20c1 : Code := { maxStack := 2, maxLocals := 2, code := jdk_29_method_65_code, exceptionTable := #[], attributes := #[] }
def k20m1 : Method := { name := "max", desc := "(II)I", sig := { parameters := [.int, .int], returnType := some .int }, accessFlags := 9, code := some k20c1 }
def k20c2 : Code := { maxStack := 2, maxLocals := 2, code := jdk_29_method_69_code, exceptionTable := #[], attributes := #[] }
def k20m2 : Method := { name := "min", desc := "(II)I", sig := { parameters := [.int, .int], returnType := some .int }, accessFlags := 9, code := some k20c2 }
/-- java/lang/Math -/
def k20 : Class := { plain "java/lang/Math" (some 0) with
  accessFlags := 49
  interfaces := #[]
  cf := some (fileOf pool20 1 #[.nestMembers #[98]] #[{ accessFlags := 2, nameIndex := 7, descriptorIndex := 8, attributes := #[] }, { accessFlags := 9, nameIndex := 198, descriptorIndex := 335, attributes := #[] }, { accessFlags := 9, nameIndex := 201, descriptorIndex := 335, attributes := #[] }] 49 4 #[] #[{ accessFlags := 25, nameIndex := 354, descriptorIndex := 339, attributes := #[] }, { accessFlags := 25, nameIndex := 358, descriptorIndex := 339, attributes := #[] }, { accessFlags := 25, nameIndex := 361, descriptorIndex := 339, attributes := #[] }, { accessFlags := 26, nameIndex := 364, descriptorIndex := 339, attributes := #[] }, { accessFlags := 26, nameIndex := 365, descriptorIndex := 339, attributes := #[] }, { accessFlags := 26, nameIndex := 172, descriptorIndex := 173, attributes := #[] }, { accessFlags := 26, nameIndex := 176, descriptorIndex := 173, attributes := #[] }, { accessFlags := 8, nameIndex := 344, descriptorIndex := 339, attributes := #[] }, { accessFlags := 8, nameIndex := 338, descriptorIndex := 339, attributes := #[] }, { accessFlags := 4120, nameIndex := 245, descriptorIndex := 246, attributes := #[] }])
  fields := #[{ name := "E", type := .double, accessFlags := 25, slot := 0, constantValue := 0 }, { name := "PI", type := .double, accessFlags := 25, slot := 1, constantValue := 0 }, { name := "TAU", type := .double, accessFlags := 25, slot := 2, constantValue := 0 }, { name := "DEGREES_TO_RADIANS", type := .double, accessFlags := 26, slot := 3, constantValue := 0 }, { name := "RADIANS_TO_DEGREES", type := .double, accessFlags := 26, slot := 4, constantValue := 0 }, { name := "negativeZeroFloatBits", type := .long, accessFlags := 26, slot := 5, constantValue := 0 }, { name := "negativeZeroDoubleBits", type := .long, accessFlags := 26, slot := 6, constantValue := 0 }, { name := "twoToTheDoubleScaleUp", type := .double, accessFlags := 8, slot := 7, constantValue := 0 }, { name := "twoToTheDoubleScaleDown", type := .double, accessFlags := 8, slot := 8, constantValue := 0 }, { name := "$assertionsDisabled", type := .boolean, accessFlags := 4120, slot := 9, constantValue := 0 }]
  methods := #[k20m0, k20m1, k20m2]
  instanceTypes := #[]
  staticTypes := #[.double, .double, .double, .double, .double, .long, .long, .double, .double, .boolean]
  resolved := Array.replicate 460 none
  statics := none }

def pool21 : Array CpInfo := pool [(2, .class_ 4), (1, u "java/lang/Object"), (0, u "<init>"), (0, u "()V"), (1, .class_ 10), (1, u "java/lang/System"), (0, u "allowSecurityManager"), (0, u "I"), (16, u "cons"), (0, u "Ljava/io/Console;"), (77, .class_ 110), (1, u "java/lang/System$CallersHolder"), (43, u "initialErrStream"), (0, u "Ljava/io/PrintStream;"), (19, u "security"), (0, u "Ljava/lang/SecurityManager;"), (31, .class_ 209), (0, u "java/lang/System$1"), (7, u "props"), (0, u "Ljava/util/Properties;"), (2, u "lineSeparator"), (0, u "Ljava/lang/String;"), (96, .class_ 321), (1, u "java/lang/System$LoggerFinder"), (5, .class_ 328), (0, u "java/lang/System$Logger"), (67, u "err"), (2, u "out"), (91, u "notSupportedJnuEncoding"), (15, u "in"), (17, u "initialIn"), (0, u "Ljava/io/InputStream;"), (35, u "bootLayer"), (0, u "Ljava/lang/ModuleLayer;"), (99, .class_ 664), (0, u "java/lang/System$2"), (9, u "NEVER"), (2, u "MAYBE"), (49, u "arraycopy"), (0, u "(Ljava/lang/Object;ILjava/lang/Object;II)V"), (72, .class_ 802), (0, u "java/lang/System$Logger$Level")] 31

def k21m0 : Method := { name := "<init>", desc := "()V", sig := { parameters := [], returnType := none }, accessFlags := 2, code := none }
def k21m1 : Method := { name := "arraycopy", desc := "(Ljava/lang/Object;ILjava/lang/Object;II)V", sig := { parameters := [(.object "java/lang/Object"), .int, (.object "java/lang/Object"), .int, .int], returnType := none }, accessFlags := 265, code := none }
/-- java/lang/System -/
def k21 : Class := { plain "java/lang/System" (some 0) with
  accessFlags := 49
  interfaces := #[]
  cf := some (fileOf pool21 8 #[.nestMembers #[319, 327, 801, 108, 663, 208]] #[{ accessFlags := 2, nameIndex := 5, descriptorIndex := 6, attributes := #[] }, { accessFlags := 265, nameIndex := 727, descriptorIndex := 728, attributes := #[] }] 49 2 #[] #[{ accessFlags := 25, nameIndex := 507, descriptorIndex := 526, attributes := #[] }, { accessFlags := 25, nameIndex := 399, descriptorIndex := 155, attributes := #[] }, { accessFlags := 25, nameIndex := 396, descriptorIndex := 155, attributes := #[] }, { accessFlags := 10, nameIndex := 525, descriptorIndex := 526, attributes := #[] }, { accessFlags := 26, nameIndex := 674, descriptorIndex := 12, attributes := #[] }, { accessFlags := 26, nameIndex := 677, descriptorIndex := 12, attributes := #[] }, { accessFlags := 10, nameIndex := 11, descriptorIndex := 12, attributes := #[] }, { accessFlags := 74, nameIndex := 175, descriptorIndex := 176, attributes := #[] }, { accessFlags := 10, nameIndex := 491, descriptorIndex := 222, attributes := #[] }, { accessFlags := 74, nameIndex := 29, descriptorIndex := 30, attributes := #[] }, { accessFlags := 74, nameIndex := 154, descriptorIndex := 155, attributes := #[] }, { accessFlags := 10, nameIndex := 217, descriptorIndex := 218, attributes := #[] }, { accessFlags := 10, nameIndex := 221, descriptorIndex := 222, attributes := #[] }, { accessFlags := 8, nameIndex := 562, descriptorIndex := 563, attributes := #[] }])
  fields := #[{ name := "in", type := (.object "java/io/InputStream"), accessFlags := 25, slot := 0, constantValue := 0 }, { name := "out", type := (.object "java/io/PrintStream"), accessFlags := 25, slot := 1, constantValue := 0 }, { name := "err", type := (.object "java/io/PrintStream"), accessFlags := 25, slot := 2, constantValue := 0 }, { name := "initialIn", type := (.object "java/io/InputStream"), accessFlags := 10, slot := 3, constantValue := 0 }, { name := "NEVER", type := .int, accessFlags := 26, slot := 4, constantValue := 0 }, { name := "MAYBE", type := .int, accessFlags := 26, slot := 5, constantValue := 0 }, { name := "allowSecurityManager", type := .int, accessFlags := 10, slot := 6, constantValue := 0 }, { name := "security", type := (.object "java/lang/SecurityManager"), accessFlags := 74, slot := 7, constantValue := 0 }, { name := "notSupportedJnuEncoding", type := (.object "java/lang/String"), accessFlags := 10, slot := 8, constantValue := 0 }, { name := "cons", type := (.object "java/io/Console"), accessFlags := 74, slot := 9, constantValue := 0 }, { name := "initialErrStream", type := (.object "java/io/PrintStream"), accessFlags := 74, slot := 10, constantValue := 0 }, { name := "props", type := (.object "java/util/Properties"), accessFlags := 10, slot := 11, constantValue := 0 }, { name := "lineSeparator", type := (.object "java/lang/String"), accessFlags := 10, slot := 12, constantValue := 0 }, { name := "bootLayer", type := (.object "java/lang/ModuleLayer"), accessFlags := 8, slot := 13, constantValue := 0 }]
  methods := #[k21m0, k21m1]
  instanceTypes := #[]
  staticTypes := #[(.object "java/io/InputStream"), (.object "java/io/PrintStream"), (.object "java/io/PrintStream"), (.object "java/io/InputStream"), .int, .int, .int, (.object "java/lang/SecurityManager"), (.object "java/lang/String"), (.object "java/io/Console"), (.object "java/io/PrintStream"), (.object "java/util/Properties"), (.object "java/lang/String"), (.object "java/lang/ModuleLayer")]
  resolved := Array.replicate 834 none
  statics := none }

def pool22 : Array CpInfo := pool [(2, .class_ 4), (1, u "java/lang/Object"), (0, u "<init>"), (0, u "()V"), (1, .class_ 10), (1, u "java/util/List"), (2, .class_ 14), (0, u "java/util/RandomAccess"), (4, .class_ 20), (0, u "java/util/Collections"), (63, u "r"), (0, u "Ljava/util/Random;"), (67, u "(Ljava/util/List;)V"), (9, .nameAndType 164 165), (0, u "getClass"), (0, u "()Ljava/lang/Class;"), (0, .class_ 167), (0, u "java/util/Collections$UnmodifiableCollection"), (6, .class_ 175), (0, u "java/util/Collections$UnmodifiableSequencedCollection"), (6, .class_ 183), (0, u "java/util/Collections$UnmodifiableSet"), (6, .class_ 191), (0, u "java/util/Collections$UnmodifiableSequencedSet"), (6, .class_ 199), (0, u "java/util/Collections$UnmodifiableSortedSet"), (6, .class_ 207), (0, u "java/util/Collections$UnmodifiableNavigableSet"), (3, .interfaceMethodref 8 163), (0, .class_ 213), (0, u "java/util/Collections$UnmodifiableList"), (0, .interfaceMethodref 8 163), (0, .class_ 216), (0, u "java/util/Collections$UnmodifiableRandomAccessList"), (0, .methodref 215 218), (0, .nameAndType 5 153), (4, .class_ 224), (0, u "java/util/Collections$UnmodifiableMap"), (6, .class_ 232), (0, u "java/util/Collections$UnmodifiableSequencedMap"), (4, .class_ 238), (0, u "java/util/Collections$UnmodifiableSortedMap"), (6, .class_ 246), (0, u "java/util/Collections$UnmodifiableNavigableMap"), (3, .class_ 251), (0, u "java/util/Collections$SynchronizedCollection"), (4, .class_ 257), (0, u "java/util/Collections$SynchronizedSet"), (4, .class_ 263), (0, u "java/util/Collections$SynchronizedSortedSet"), (1, .class_ 266), (0, u "java/util/Collections$SynchronizedNavigableSet"), (1, .class_ 269), (0, u "java/util/Collections$SynchronizedRandomAccessList"), (1, .class_ 272), (0, u "java/util/Collections$SynchronizedList"), (5, .class_ 279), (0, u "java/util/Collections$SynchronizedMap"), (1, .class_ 282), (0, u "java/util/Collections$SynchronizedSortedMap"), (1, .class_ 285), (0, u "java/util/Collections$SynchronizedNavigableMap"), (1, .class_ 288), (0, u "java/util/Collections$CheckedCollection"), (11, .class_ 301), (0, u "java/util/Collections$CheckedQueue"), (3, .class_ 306), (0, u "java/util/Collections$CheckedSet"), (3, .class_ 311), (0, u "java/util/Collections$CheckedSortedSet"), (3, .class_ 316), (0, u "java/util/Collections$CheckedNavigableSet"), (3, .class_ 321), (0, u "java/util/Collections$CheckedRandomAccessList"), (3, .class_ 326), (0, u "java/util/Collections$CheckedList"), (1, .class_ 329), (0, u "java/util/Collections$CheckedMap"), (3, .class_ 334), (0, u "java/util/Collections$CheckedSortedMap"), (3, .class_ 339), (0, u "java/util/Collections$CheckedNavigableMap"), (4, .class_ 346), (1, u "java/util/Collections$EmptyIterator"), (3, .class_ 352), (1, u "java/util/Collections$EmptyListIterator"), (2, .class_ 357), (1, u "java/util/Collections$EmptyEnumeration"), (4, u "EMPTY_SET"), (0, u "Ljava/util/Set;"), (6, u "EMPTY_LIST"), (0, u "Ljava/util/List;"), (2, u "EMPTY_MAP"), (0, u "Ljava/util/Map;"), (4, .class_ 381), (0, u "java/util/Collections$SingletonSet"), (2, .class_ 385), (0, u "java/util/Collections$1"), (1, .class_ 388), (0, u "java/util/Collections$2"), (1, .class_ 391), (0, u "java/util/Collections$SingletonList"), (1, .class_ 394), (0, u "java/util/Collections$SingletonMap"), (22, .class_ 418), (0, u "java/util/Collections$CopiesList"), (4, .class_ 425), (1, u "java/util/Collections$ReverseComparator"), (8, .class_ 435), (0, u "java/util/Collections$ReverseComparator2"), (6, .class_ 443), (0, u "java/util/Collections$3"), (25, .class_ 470), (0, u "java/util/Collections$SetFromMap"), (2, .class_ 474), (0, u "java/util/Collections$SequencedSetFromMap"), (3, .class_ 479), (0, u "java/util/Collections$AsLIFOQueue"), (11, .class_ 492), (0, u "java/util/Collections$EmptySet"), (1, .class_ 495), (0, u "java/util/Collections$EmptyList"), (1, .class_ 498), (0, u "java/util/Collections$EmptyMap"), (1, u "BINARYSEARCH_THRESHOLD"), (0, u "I"), (2, u "REVERSE_THRESHOLD"), (1, u "SHUFFLE_THRESHOLD"), (1, u "FILL_THRESHOLD"), (1, u "ROTATE_THRESHOLD"), (1, u "COPY_THRESHOLD"), (1, u "REPLACEALL_THRESHOLD"), (1, u "INDEXOFSUBLIST_THRESHOLD"), (129, u "unmodifiableList"), (0, u "(Ljava/util/List;)Ljava/util/List;"), (202, .class_ 851), (0, u "java/util/Collections$CheckedMap$CheckedEntrySet"), (0, .class_ 853), (0, u "java/util/Collections$CheckedMap$CheckedEntrySet$CheckedEntry"), (0, .class_ 855), (0, u "java/util/Collections$CheckedMap$CheckedEntrySet$1"), (0, .class_ 857), (0, u "java/util/Collections$CheckedList$1"), (0, .class_ 859), (0, u "java/util/Collections$CheckedCollection$1"), (0, .class_ 861), (0, u "java/util/Collections$UnmodifiableNavigableMap$EmptyNavigableMap"), (0, .class_ 863), (0, u "java/util/Collections$UnmodifiableMap$UnmodifiableEntrySet"), (0, .class_ 865), (0, u "java/util/Collections$UnmodifiableMap$UnmodifiableEntrySet$UnmodifiableEntry"), (0, .class_ 867), (0, u "java/util/Collections$UnmodifiableMap$UnmodifiableEntrySet$UnmodifiableEntrySetSpliterator"), (0, .class_ 869), (0, u "java/util/Collections$UnmodifiableMap$UnmodifiableEntrySet$1"), (0, .class_ 871), (0, u "java/util/Collections$UnmodifiableList$1"), (0, .class_ 873), (0, u "java/util/Collections$UnmodifiableNavigableSet$EmptyNavigableSet"), (0, .class_ 875), (0, u "java/util/Collections$UnmodifiableCollection$1")] 57

def k22m0 : Method := { name := "<init>", desc := "()V", sig := { parameters := [], returnType := none }, accessFlags := 2, code := none }
def k22c1 : Code := { maxStack := 3, maxLocals := 1, code := jdk_79_method_35_code, exceptionTable := #[], attributes := #[] }
def k22m1 : Method := { name := "unmodifiableList", desc := "(Ljava/util/List;)Ljava/util/List;", sig := { parameters := [(.object "java/util/List")], returnType := some (.object "java/util/List") }, accessFlags := 9, code := some k22c1 }
/-- java/util/Collections -/
def k22 : Class := { plain "java/util/Collections" (some 0) with
  accessFlags := 33
  interfaces := #[]
  cf := some (fileOf pool22 19 #[.nestMembers #[478, 473, 469, 434, 423, 417, 393, 390, 380, 497, 494, 491, 355, 350, 344, 338, 333, 328, 850, 852, 854, 320, 325, 856, 315, 310, 305, 300, 287, 858, 284, 281, 278, 268, 271, 265, 262, 256, 250, 245, 860, 237, 231, 223, 862, 864, 866, 868, 215, 212, 870, 206, 872, 198, 190, 182, 174, 166, 874, 442, 387, 384]] #[{ accessFlags := 2, nameIndex := 5, descriptorIndex := 6, attributes := #[] }, { accessFlags := 9, nameIndex := 646, descriptorIndex := 647, attributes := #[] }] 33 2 #[] #[{ accessFlags := 26, nameIndex := 500, descriptorIndex := 501, attributes := #[] }, { accessFlags := 26, nameIndex := 504, descriptorIndex := 501, attributes := #[] }, { accessFlags := 26, nameIndex := 506, descriptorIndex := 501, attributes := #[] }, { accessFlags := 26, nameIndex := 508, descriptorIndex := 501, attributes := #[] }, { accessFlags := 26, nameIndex := 510, descriptorIndex := 501, attributes := #[] }, { accessFlags := 26, nameIndex := 512, descriptorIndex := 501, attributes := #[] }, { accessFlags := 26, nameIndex := 514, descriptorIndex := 501, attributes := #[] }, { accessFlags := 26, nameIndex := 516, descriptorIndex := 501, attributes := #[] }, { accessFlags := 10, nameIndex := 84, descriptorIndex := 85, attributes := #[] }, { accessFlags := 25, nameIndex := 362, descriptorIndex := 363, attributes := #[] }, { accessFlags := 25, nameIndex := 370, descriptorIndex := 371, attributes := #[] }, { accessFlags := 25, nameIndex := 374, descriptorIndex := 375, attributes := #[] }])
  fields := #[{ name := "BINARYSEARCH_THRESHOLD", type := .int, accessFlags := 26, slot := 0, constantValue := 0 }, { name := "REVERSE_THRESHOLD", type := .int, accessFlags := 26, slot := 1, constantValue := 0 }, { name := "SHUFFLE_THRESHOLD", type := .int, accessFlags := 26, slot := 2, constantValue := 0 }, { name := "FILL_THRESHOLD", type := .int, accessFlags := 26, slot := 3, constantValue := 0 }, { name := "ROTATE_THRESHOLD", type := .int, accessFlags := 26, slot := 4, constantValue := 0 }, { name := "COPY_THRESHOLD", type := .int, accessFlags := 26, slot := 5, constantValue := 0 }, { name := "REPLACEALL_THRESHOLD", type := .int, accessFlags := 26, slot := 6, constantValue := 0 }, { name := "INDEXOFSUBLIST_THRESHOLD", type := .int, accessFlags := 26, slot := 7, constantValue := 0 }, { name := "r", type := (.object "java/util/Random"), accessFlags := 10, slot := 8, constantValue := 0 }, { name := "EMPTY_SET", type := (.object "java/util/Set"), accessFlags := 25, slot := 9, constantValue := 0 }, { name := "EMPTY_LIST", type := (.object "java/util/List"), accessFlags := 25, slot := 10, constantValue := 0 }, { name := "EMPTY_MAP", type := (.object "java/util/Map"), accessFlags := 25, slot := 11, constantValue := 0 }]
  methods := #[k22m0, k22m1]
  instanceTypes := #[]
  staticTypes := #[.int, .int, .int, .int, .int, .int, .int, .int, (.object "java/util/Random"), (.object "java/util/Set"), (.object "java/util/List"), (.object "java/util/Map")]
  resolved := Array.replicate 933 none
  statics := none }

def pool23 : Array CpInfo := pool [(1, .methodref 2 3), (0, .class_ 4), (0, .nameAndType 5 6), (0, u "java/lang/Object"), (0, u "<init>"), (0, u "()V"), (3, .fieldref 11 12), (0, .class_ 13), (0, .nameAndType 14 15), (0, u "java/util/Collections$UnmodifiableCollection"), (0, u "c"), (0, u "Ljava/util/Collection;"), (1, .class_ 19), (1, u "java/util/Collection"), (51, .class_ 72), (0, u "java/io/Serializable"), (0, u "serialVersionUID"), (0, u "J"), (5, u "(Ljava/util/Collection;)V"), (51, .class_ 133), (0, u "java/util/Collections")] 2

def k23c0 : Code := { maxStack := 2, maxLocals := 2, code := jdk_119_method_1_code, exceptionTable := #[], attributes := #[] }
def k23m0 : Method := { name := "<init>", desc := "(Ljava/util/Collection;)V", sig := { parameters := [(.object "java/util/Collection")], returnType := none }, accessFlags := 0, code := some k23c0 }
/-- java/util/Collections$UnmodifiableCollection -/
def k23 : Class := { plain "java/util/Collections$UnmodifiableCollection" (some 0) with
  accessFlags := 32
  interfaces := #[3, 10]
  cf := some (fileOf pool23 11 #[.nestHost 132] #[{ accessFlags := 0, nameIndex := 5, descriptorIndex := 80, attributes := #[] }] 32 2 #[17, 71] #[{ accessFlags := 26, nameIndex := 73, descriptorIndex := 74, attributes := #[] }, { accessFlags := 16, nameIndex := 14, descriptorIndex := 15, attributes := #[] }])
  fields := #[{ name := "serialVersionUID", type := .long, accessFlags := 26, slot := 0, constantValue := 0 }, { name := "c", type := (.object "java/util/Collection"), accessFlags := 16, slot := 0, constantValue := 0 }]
  methods := #[k23m0]
  instanceTypes := #[(.object "java/util/Collection")]
  staticTypes := #[.long]
  resolved := Array.replicate 136 none
  statics := none }

def pool24 : Array CpInfo := pool [(1, .methodref 2 3), (0, .class_ 4), (0, .nameAndType 5 6), (0, u "java/util/Collections$UnmodifiableCollection"), (0, u "<init>"), (0, u "(Ljava/util/Collection;)V"), (0, .fieldref 8 9), (0, .class_ 10), (0, .nameAndType 11 12), (0, u "java/util/Collections$UnmodifiableList"), (0, u "list"), (0, u "Ljava/util/List;"), (1, .class_ 16), (1, u "java/util/List"), (37, u "(Ljava/util/List;)V"), (5, u "serialVersionUID"), (0, u "J"), (59, .class_ 122), (0, u "java/util/Collections")] 4

def k24c0 : Code := { maxStack := 2, maxLocals := 2, code := jdk_120_method_1_code, exceptionTable := #[], attributes := #[] }
def k24m0 : Method := { name := "<init>", desc := "(Ljava/util/List;)V", sig := { parameters := [(.object "java/util/List")], returnType := none }, accessFlags := 0, code := some k24c0 }
/-- java/util/Collections$UnmodifiableList -/
def k24 : Class := { plain "java/util/Collections$UnmodifiableList" (some 23) with
  accessFlags := 32
  interfaces := #[6]
  cf := some (fileOf pool24 8 #[.nestHost 121] #[{ accessFlags := 0, nameIndex := 5, descriptorIndex := 54, attributes := #[] }] 32 2 #[14] #[{ accessFlags := 26, nameIndex := 60, descriptorIndex := 61, attributes := #[] }, { accessFlags := 16, nameIndex := 11, descriptorIndex := 12, attributes := #[] }])
  fields := #[{ name := "serialVersionUID", type := .long, accessFlags := 26, slot := 0, constantValue := 0 }, { name := "list", type := (.object "java/util/List"), accessFlags := 16, slot := 1, constantValue := 0 }]
  methods := #[k24m0]
  instanceTypes := #[(.object "java/util/Collection"), (.object "java/util/List")]
  staticTypes := #[.long]
  resolved := Array.replicate 127 none
  mirror := some 6
  statics := none }

def pool25 : Array CpInfo := pool [(1, .methodref 2 3), (0, .class_ 4), (0, .nameAndType 5 6), (0, u "java/util/Collections$UnmodifiableList"), (0, u "<init>"), (0, u "(Ljava/util/List;)V"), (0, .class_ 8), (0, u "java/util/Collections$UnmodifiableRandomAccessList"), (11, .class_ 21), (0, u "java/util/RandomAccess"), (0, u "serialVersionUID"), (0, u "J"), (23, .class_ 48), (0, u "java/util/Collections")] 3

def k25c0 : Code := { maxStack := 2, maxLocals := 2, code := jdk_121_method_1_code, exceptionTable := #[], attributes := #[] }
def k25m0 : Method := { name := "<init>", desc := "(Ljava/util/List;)V", sig := { parameters := [(.object "java/util/List")], returnType := none }, accessFlags := 0, code := some k25c0 }
/-- java/util/Collections$UnmodifiableRandomAccessList -/
def k25 : Class := { plain "java/util/Collections$UnmodifiableRandomAccessList" (some 24) with
  accessFlags := 32
  interfaces := #[8]
  cf := some (fileOf pool25 7 #[.nestHost 47] #[{ accessFlags := 0, nameIndex := 5, descriptorIndex := 6, attributes := #[] }] 32 2 #[20] #[{ accessFlags := 26, nameIndex := 22, descriptorIndex := 23, attributes := #[] }])
  fields := #[{ name := "serialVersionUID", type := .long, accessFlags := 26, slot := 0, constantValue := 0 }]
  methods := #[k25m0]
  instanceTypes := #[(.object "java/util/Collection"), (.object "java/util/List")]
  staticTypes := #[.long]
  resolved := Array.replicate 52 none
  mirror := some 7
  statics := none }

def pool26 : Array CpInfo := pool [(1, .methodref 2 3), (0, .class_ 4), (0, .nameAndType 5 6), (0, u "java/lang/Object"), (0, u "<init>"), (0, u "()V"), (1, .class_ 10), (1, u "java/lang/Number"), (2, .class_ 14), (0, u "java/io/Serializable"), (0, u "serialVersionUID"), (0, u "J")] 20

def k26c0 : Code := { maxStack := 1, maxLocals := 1, code := jdk_18_method_1_code, exceptionTable := #[], attributes := #[] }
def k26m0 : Method := { name := "<init>", desc := "()V", sig := { parameters := [], returnType := none }, accessFlags := 1, code := some k26c0 }
/-- java/lang/Number -/
def k26 : Class := { plain "java/lang/Number" (some 0) with
  accessFlags := 1057
  interfaces := #[10]
  cf := some (fileOf pool26 8 #[] #[{ accessFlags := 1, nameIndex := 5, descriptorIndex := 6, attributes := #[] }] 1057 2 #[13] #[{ accessFlags := 26, nameIndex := 15, descriptorIndex := 16, attributes := #[] }])
  fields := #[{ name := "serialVersionUID", type := .long, accessFlags := 26, slot := 0, constantValue := 0 }]
  methods := #[k26m0]
  instanceTypes := #[]
  staticTypes := #[.long]
  resolved := Array.replicate 37 none
  statics := none }

def pool27 : Array CpInfo := pool [(1, .class_ 2), (0, u "java/lang/Integer"), (16, u "digits"), (0, u "[C"), (46, u "<init>"), (17, u "DigitOnes"), (0, u "[B"), (2, u "DigitTens"), (10, .nameAndType 67 101), (0, u "()V"), (85, u "valueOf"), (0, u "(I)Ljava/lang/Integer;"), (0, .class_ 190), (0, u "java/lang/Integer$IntegerCache"), (0, .fieldref 189 192), (0, .nameAndType 193 194), (0, u "high"), (0, u "I"), (0, .fieldref 189 196), (0, .nameAndType 197 198), (0, u "cache"), (0, u "[Ljava/lang/Integer;"), (0, .methodref 1 200), (0, .nameAndType 67 201), (0, u "(I)V"), (0, .methodref 203 100), (0, .class_ 204), (0, u "java/lang/Number"), (0, .fieldref 1 206), (0, .nameAndType 207 194), (0, u "value"), (94, u "TYPE"), (0, u "Ljava/lang/Class;"), (0, .class_ 305), (0, u "java/lang/Comparable"), (0, .class_ 307), (0, u "java/lang/constant/Constable"), (0, .class_ 309), (0, u "java/lang/constant/ConstantDesc"), (0, u "MIN_VALUE"), (1, u "MAX_VALUE"), (3, u "SIZE"), (1, u "BYTES"), (1, u "serialVersionUID"), (0, u "J")] 131

def k27c0 : Code := { maxStack := 3, maxLocals := 1, code := jdk_33_method_22_code, exceptionTable := #[], attributes := #[] }
def k27m0 : Method := { name := "valueOf", desc := "(I)Ljava/lang/Integer;", sig := { parameters := [.int], returnType := some (.object "java/lang/Integer") }, accessFlags := 9, code := some k27c0 }
def k27c1 : Code := { maxStack := 2, maxLocals := 2, code := jdk_33_method_23_code, exceptionTable := #[], attributes := #[] }
def k27m1 : Method := { name := "<init>", desc := "(I)V", sig := { parameters := [.int], returnType := none }, accessFlags := 1, code := some k27c1 }
/-- java/lang/Integer -/
def k27 : Class := { plain "java/lang/Integer" (some 26) with
  accessFlags := 49
  interfaces := #[12, 14, 15]
  cf := some (fileOf pool27 1 #[.nestMembers #[189]] #[{ accessFlags := 9, nameIndex := 187, descriptorIndex := 188, attributes := #[] }, { accessFlags := 1, nameIndex := 67, descriptorIndex := 201, attributes := #[] }] 49 203 #[304, 306, 308] #[{ accessFlags := 25, nameIndex := 310, descriptorIndex := 194, attributes := #[] }, { accessFlags := 25, nameIndex := 312, descriptorIndex := 194, attributes := #[] }, { accessFlags := 25, nameIndex := 302, descriptorIndex := 303, attributes := #[] }, { accessFlags := 24, nameIndex := 19, descriptorIndex := 20, attributes := #[] }, { accessFlags := 24, nameIndex := 89, descriptorIndex := 86, attributes := #[] }, { accessFlags := 24, nameIndex := 85, descriptorIndex := 86, attributes := #[] }, { accessFlags := 18, nameIndex := 207, descriptorIndex := 194, attributes := #[] }, { accessFlags := 25, nameIndex := 316, descriptorIndex := 194, attributes := #[] }, { accessFlags := 25, nameIndex := 318, descriptorIndex := 194, attributes := #[] }, { accessFlags := 26, nameIndex := 320, descriptorIndex := 321, attributes := #[] }])
  fields := #[{ name := "MIN_VALUE", type := .int, accessFlags := 25, slot := 0, constantValue := 0 }, { name := "MAX_VALUE", type := .int, accessFlags := 25, slot := 1, constantValue := 0 }, { name := "TYPE", type := (.object "java/lang/Class"), accessFlags := 25, slot := 2, constantValue := 0 }, { name := "digits", type := (.array .char), accessFlags := 24, slot := 3, constantValue := 0 }, { name := "DigitTens", type := (.array .byte), accessFlags := 24, slot := 4, constantValue := 0 }, { name := "DigitOnes", type := (.array .byte), accessFlags := 24, slot := 5, constantValue := 0 }, { name := "value", type := .int, accessFlags := 18, slot := 0, constantValue := 0 }, { name := "SIZE", type := .int, accessFlags := 25, slot := 6, constantValue := 0 }, { name := "BYTES", type := .int, accessFlags := 25, slot := 7, constantValue := 0 }, { name := "serialVersionUID", type := .long, accessFlags := 26, slot := 8, constantValue := 0 }]
  methods := #[k27m0, k27m1]
  instanceTypes := #[.int]
  staticTypes := #[.int, .int, (.object "java/lang/Class"), (.array .char), (.array .byte), (.array .byte), .int, .int, .long]
  resolved := Array.replicate 453 none
  statics := none }

def pool28 : Array CpInfo := pool [(2, .class_ 4), (1, u "java/lang/Object"), (0, u "<init>"), (0, u "()V"), (0, .class_ 8), (0, u "java/lang/Integer"), (7, .class_ 18), (1, u "java/lang/Integer$IntegerCache"), (0, u "$assertionsDisabled"), (0, u "Z"), (26, u "high"), (0, u "I"), (8, u "archivedCache"), (0, u "[Ljava/lang/Integer;"), (12, u "cache"), (0, u "low")] 27

def k28m0 : Method := { name := "<init>", desc := "()V", sig := { parameters := [], returnType := none }, accessFlags := 2, code := none }
/-- java/lang/Integer$IntegerCache -/
def k28 : Class := { plain "java/lang/Integer$IntegerCache" (some 0) with
  accessFlags := 48
  interfaces := #[]
  cf := some (fileOf pool28 16 #[.nestHost 7] #[{ accessFlags := 2, nameIndex := 5, descriptorIndex := 6, attributes := #[] }] 48 2 #[] #[{ accessFlags := 24, nameIndex := 72, descriptorIndex := 48, attributes := #[] }, { accessFlags := 24, nameIndex := 47, descriptorIndex := 48, attributes := #[] }, { accessFlags := 24, nameIndex := 71, descriptorIndex := 58, attributes := #[] }, { accessFlags := 8, nameIndex := 57, descriptorIndex := 58, attributes := #[] }, { accessFlags := 4120, nameIndex := 19, descriptorIndex := 20, attributes := #[] }])
  fields := #[{ name := "low", type := .int, accessFlags := 24, slot := 0, constantValue := 0 }, { name := "high", type := .int, accessFlags := 24, slot := 1, constantValue := 0 }, { name := "cache", type := (.array (.object "java/lang/Integer")), accessFlags := 24, slot := 2, constantValue := 0 }, { name := "archivedCache", type := (.array (.object "java/lang/Integer")), accessFlags := 8, slot := 3, constantValue := 0 }, { name := "$assertionsDisabled", type := .boolean, accessFlags := 4120, slot := 4, constantValue := 0 }]
  methods := #[k28m0]
  instanceTypes := #[]
  staticTypes := #[.int, .int, (.array (.object "java/lang/Integer")), (.array (.object "java/lang/Integer")), .boolean]
  resolved := Array.replicate 100 none
  statics := some 2 }

def pool29 : Array CpInfo := pool [(4, .class_ 6), (1, u "java/lang/Object"), (0, u "<init>"), (0, u "()V"), (5, .class_ 16), (1, u "java/lang/StringLatin1"), (104, u "$assertionsDisabled"), (0, u "Z"), (98, .class_ 223), (1, u "java/lang/StringLatin1$LinesSpliterator"), (166, .class_ 391), (0, u "java/lang/StringLatin1$CharsSpliterator")] 3

def k29m0 : Method := { name := "<init>", desc := "()V", sig := { parameters := [], returnType := none }, accessFlags := 0, code := none }
/-- java/lang/StringLatin1 -/
def k29 : Class := { plain "java/lang/StringLatin1" (some 0) with
  accessFlags := 48
  interfaces := #[]
  cf := some (fileOf pool29 14 #[.nestMembers #[390, 221]] #[{ accessFlags := 0, nameIndex := 7, descriptorIndex := 8, attributes := #[] }] 48 4 #[] #[{ accessFlags := 4120, nameIndex := 121, descriptorIndex := 122, attributes := #[] }])
  fields := #[{ name := "$assertionsDisabled", type := .boolean, accessFlags := 4120, slot := 0, constantValue := 0 }]
  methods := #[k29m0]
  instanceTypes := #[]
  staticTypes := #[.boolean]
  resolved := Array.replicate 395 none
  statics := none }

def pool30 : Array CpInfo := pool [(2, .class_ 4), (1, u "java/lang/Object"), (0, u "<init>"), (0, u "()V"), (17, .class_ 26), (1, u "jdk/internal/util/Preconditions"), (28, .class_ 56), (0, u "jdk/internal/util/Preconditions$4"), (57, .class_ 115), (0, u "jdk/internal/util/Preconditions$1"), (7, u "SIOOBE_FORMATTER"), (0, u "Ljava/util/function/BiFunction;"), (0, .class_ 126), (0, u "jdk/internal/util/Preconditions$2"), (3, u "AIOOBE_FORMATTER"), (0, .class_ 132), (0, u "jdk/internal/util/Preconditions$3"), (3, u "IOOBE_FORMATTER")] 57

def k30m0 : Method := { name := "<init>", desc := "()V", sig := { parameters := [], returnType := none }, accessFlags := 1, code := none }
/-- jdk/internal/util/Preconditions -/
def k30 : Class := { plain "jdk/internal/util/Preconditions" (some 0) with
  accessFlags := 33
  interfaces := #[]
  cf := some (fileOf pool30 24 #[.nestMembers #[55, 131, 125, 114]] #[{ accessFlags := 1, nameIndex := 5, descriptorIndex := 6, attributes := #[] }] 33 2 #[] #[{ accessFlags := 25, nameIndex := 123, descriptorIndex := 124, attributes := #[] }, { accessFlags := 25, nameIndex := 130, descriptorIndex := 124, attributes := #[] }, { accessFlags := 25, nameIndex := 136, descriptorIndex := 124, attributes := #[] }])
  fields := #[{ name := "SIOOBE_FORMATTER", type := (.object "java/util/function/BiFunction"), accessFlags := 25, slot := 0, constantValue := 0 }, { name := "AIOOBE_FORMATTER", type := (.object "java/util/function/BiFunction"), accessFlags := 25, slot := 1, constantValue := 0 }, { name := "IOOBE_FORMATTER", type := (.object "java/util/function/BiFunction"), accessFlags := 25, slot := 2, constantValue := 0 }]
  methods := #[k30m0]
  instanceTypes := #[]
  staticTypes := #[(.object "java/util/function/BiFunction"), (.object "java/util/function/BiFunction"), (.object "java/util/function/BiFunction")]
  resolved := Array.replicate 194 none
  statics := some 3 }

def pool31 : Array CpInfo := pool [(9, u "<init>"), (6, .class_ 18), (1, u "java/lang/Object"), (0, u "()V"), (1, .class_ 23), (1, u "jdk/internal/util/ArraysSupport"), (0, u "LOG2_ARRAY_LONG_INDEX_SCALE"), (0, u "I"), (2, u "U"), (0, u "Ljdk/internal/misc/Unsafe;"), (8, u "BIG_ENDIAN"), (0, u "Z"), (8, u "LOG2_BYTE_BIT_SIZE"), (4, u "LOG2_ARRAY_INT_INDEX_SCALE"), (54, u "JLA"), (0, u "Ljdk/internal/access/JavaLangAccess;"), (11, u "LOG2_ARRAY_BOOLEAN_INDEX_SCALE"), (9, u "LOG2_ARRAY_BYTE_INDEX_SCALE"), (5, u "LOG2_ARRAY_CHAR_INDEX_SCALE"), (5, u "LOG2_ARRAY_SHORT_INDEX_SCALE"), (18, u "LOG2_ARRAY_FLOAT_INDEX_SCALE"), (24, u "LOG2_ARRAY_DOUBLE_INDEX_SCALE"), (89, u "T_BOOLEAN"), (2, u "T_CHAR"), (1, u "T_FLOAT"), (1, u "T_DOUBLE"), (1, u "T_BYTE"), (1, u "T_SHORT"), (1, u "T_INT"), (1, u "T_LONG"), (1, u "SOFT_MAX_ARRAY_LENGTH")] 83

def k31m0 : Method := { name := "<init>", desc := "()V", sig := { parameters := [], returnType := none }, accessFlags := 2, code := none }
/-- jdk/internal/util/ArraysSupport -/
def k31 : Class := { plain "jdk/internal/util/ArraysSupport" (some 0) with
  accessFlags := 33
  interfaces := #[]
  cf := some (fileOf pool31 21 #[] #[{ accessFlags := 2, nameIndex := 9, descriptorIndex := 19, attributes := #[] }] 33 16 #[] #[{ accessFlags := 24, nameIndex := 28, descriptorIndex := 29, attributes := #[] }, { accessFlags := 26, nameIndex := 38, descriptorIndex := 39, attributes := #[] }, { accessFlags := 25, nameIndex := 121, descriptorIndex := 25, attributes := #[] }, { accessFlags := 25, nameIndex := 131, descriptorIndex := 25, attributes := #[] }, { accessFlags := 25, nameIndex := 137, descriptorIndex := 25, attributes := #[] }, { accessFlags := 25, nameIndex := 143, descriptorIndex := 25, attributes := #[] }, { accessFlags := 25, nameIndex := 53, descriptorIndex := 25, attributes := #[] }, { accessFlags := 25, nameIndex := 24, descriptorIndex := 25, attributes := #[] }, { accessFlags := 25, nameIndex := 162, descriptorIndex := 25, attributes := #[] }, { accessFlags := 25, nameIndex := 187, descriptorIndex := 25, attributes := #[] }, { accessFlags := 26, nameIndex := 48, descriptorIndex := 25, attributes := #[] }, { accessFlags := 25, nameIndex := 277, descriptorIndex := 25, attributes := #[] }, { accessFlags := 25, nameIndex := 280, descriptorIndex := 25, attributes := #[] }, { accessFlags := 25, nameIndex := 282, descriptorIndex := 25, attributes := #[] }, { accessFlags := 25, nameIndex := 284, descriptorIndex := 25, attributes := #[] }, { accessFlags := 25, nameIndex := 286, descriptorIndex := 25, attributes := #[] }, { accessFlags := 25, nameIndex := 288, descriptorIndex := 25, attributes := #[] }, { accessFlags := 25, nameIndex := 290, descriptorIndex := 25, attributes := #[] }, { accessFlags := 25, nameIndex := 292, descriptorIndex := 25, attributes := #[] }, { accessFlags := 26, nameIndex := 108, descriptorIndex := 109, attributes := #[] }, { accessFlags := 25, nameIndex := 294, descriptorIndex := 25, attributes := #[] }])
  fields := #[{ name := "U", type := (.object "jdk/internal/misc/Unsafe"), accessFlags := 24, slot := 0, constantValue := 0 }, { name := "BIG_ENDIAN", type := .boolean, accessFlags := 26, slot := 1, constantValue := 0 }, { name := "LOG2_ARRAY_BOOLEAN_INDEX_SCALE", type := .int, accessFlags := 25, slot := 2, constantValue := 0 }, { name := "LOG2_ARRAY_BYTE_INDEX_SCALE", type := .int, accessFlags := 25, slot := 3, constantValue := 0 }, { name := "LOG2_ARRAY_CHAR_INDEX_SCALE", type := .int, accessFlags := 25, slot := 4, constantValue := 0 }, { name := "LOG2_ARRAY_SHORT_INDEX_SCALE", type := .int, accessFlags := 25, slot := 5, constantValue := 0 }, { name := "LOG2_ARRAY_INT_INDEX_SCALE", type := .int, accessFlags := 25, slot := 6, constantValue := 0 }, { name := "LOG2_ARRAY_LONG_INDEX_SCALE", type := .int, accessFlags := 25, slot := 7, constantValue := 0 }, { name := "LOG2_ARRAY_FLOAT_INDEX_SCALE", type := .int, accessFlags := 25, slot := 8, constantValue := 0 }, { name := "LOG2_ARRAY_DOUBLE_INDEX_SCALE", type := .int, accessFlags := 25, slot := 9, constantValue := 0 }, { name := "LOG2_BYTE_BIT_SIZE", type := .int, accessFlags := 26, slot := 10, constantValue := 0 }, { name := "T_BOOLEAN", type := .int, accessFlags := 25, slot := 11, constantValue := 0 }, { name := "T_CHAR", type := .int, accessFlags := 25, slot := 12, constantValue := 0 }, { name := "T_FLOAT", type := .int, accessFlags := 25, slot := 13, constantValue := 0 }, { name := "T_DOUBLE", type := .int, accessFlags := 25, slot := 14, constantValue := 0 }, { name := "T_BYTE", type := .int, accessFlags := 25, slot := 15, constantValue := 0 }, { name := "T_SHORT", type := .int, accessFlags := 25, slot := 16, constantValue := 0 }, { name := "T_INT", type := .int, accessFlags := 25, slot := 17, constantValue := 0 }, { name := "T_LONG", type := .int, accessFlags := 25, slot := 18, constantValue := 0 }, { name := "JLA", type := (.object "jdk/internal/access/JavaLangAccess"), accessFlags := 26, slot := 19, constantValue := 0 }, { name := "SOFT_MAX_ARRAY_LENGTH", type := .int, accessFlags := 25, slot := 20, constantValue := 0 }]
  methods := #[k31m0]
  instanceTypes := #[]
  staticTypes := #[(.object "jdk/internal/misc/Unsafe"), .boolean, .int, .int, .int, .int, .int, .int, .int, .int, .int, .int, .int, .int, .int, .int, .int, .int, .int, (.object "jdk/internal/access/JavaLangAccess"), .int]
  resolved := Array.replicate 378 none
  statics := none }

def pool32 : Array CpInfo := pool [(1, u "java/lang/Class"), (0, .class_ 1), (0, u "java/lang/Object"), (0, .class_ 3)] 0

/-- java/lang/Class -/
def k32 : Class := { plain "java/lang/Class" (some 0) with
  accessFlags := 49
  interfaces := #[]
  cf := some (fileOf pool32 2 #[] #[] 49 4 #[] #[])
  fields := #[]
  methods := #[]
  instanceTypes := #[]
  staticTypes := #[]
  resolved := Array.replicate 5 none
  statics := none }

/-- the primitive byte -/
def k33 : Class := { plain "byte" none with kind := .primitive 'B', accessFlags := 0x411 }
/-- [B -/
def k34 : Class := { plain "[B" (some 0) with kind := .array 33 .byte, interfaces := #[9, 10], accessFlags := 1041 }

/-- the primitive char -/
def k35 : Class := { plain "char" none with kind := .primitive 'C', accessFlags := 0x411 }
/-- [C -/
def k36 : Class := { plain "[C" (some 0) with kind := .array 35 .char, interfaces := #[9, 10], accessFlags := 1041 }

/-- the primitive int -/
def k37 : Class := { plain "int" none with kind := .primitive 'I', accessFlags := 0x411 }
/-- [I -/
def k38 : Class := { plain "[I" (some 0) with kind := .array 37 .int, interfaces := #[9, 10], accessFlags := 1041 }

/-- [Ljava/lang/Integer; -/
def k39 : Class := { plain "[Ljava/lang/Integer;" (some 0) with kind := .array 27 (.object "java/lang/Integer"), interfaces := #[9, 10], accessFlags := 1041 }

/-- [Ljava/lang/Object; -/
def k40 : Class := { plain "[Ljava/lang/Object;" (some 0) with kind := .array 0 (.object "java/lang/Object"), interfaces := #[9, 10], accessFlags := 1041, mirror := some 4 }

def heap : Heap := #[{ cls := 11, slots := #[.long 0, .int 0, .ref 265, .ref 266], vm := .statics 11 },
  { cls := 16, slots := #[.long 0, .int 1, .null, .int 0, .null, .int 0, .int 0], vm := .statics 16 },
  { cls := 28, slots := #[.int 0, .int 127, .ref 8, .null, .int 0], vm := .statics 28 },
  { cls := 30, slots := #[.null, .null, .null], vm := .statics 30 },
  { cls := 32, slots := #[], vm := .mirror 40 },
  { cls := 32, slots := #[], vm := .mirror 11 },
  { cls := 32, slots := #[], vm := .mirror 24 },
  { cls := 32, slots := #[], vm := .mirror 25 },
  { cls := 39, slots := #[.ref 9, .ref 10, .ref 11, .ref 12, .ref 13, .ref 14, .ref 15, .ref 16, .ref 17, .ref 18, .ref 19, .ref 20, .ref 21, .ref 22, .ref 23, .ref 24, .ref 25, .ref 26, .ref 27, .ref 28, .ref 29, .ref 30, .ref 31, .ref 32, .ref 33, .ref 34, .ref 35, .ref 36, .ref 37, .ref 38, .ref 39, .ref 40, .ref 41, .ref 42, .ref 43, .ref 44, .ref 45, .ref 46, .ref 47, .ref 48, .ref 49, .ref 50, .ref 51, .ref 52, .ref 53, .ref 54, .ref 55, .ref 56, .ref 57, .ref 58, .ref 59, .ref 60, .ref 61, .ref 62, .ref 63, .ref 64, .ref 65, .ref 66, .ref 67, .ref 68, .ref 69, .ref 70, .ref 71, .ref 72, .ref 73, .ref 74, .ref 75, .ref 76, .ref 77, .ref 78, .ref 79, .ref 80, .ref 81, .ref 82, .ref 83, .ref 84, .ref 85, .ref 86, .ref 87, .ref 88, .ref 89, .ref 90, .ref 91, .ref 92, .ref 93, .ref 94, .ref 95, .ref 96, .ref 97, .ref 98, .ref 99, .ref 100, .ref 101, .ref 102, .ref 103, .ref 104, .ref 105, .ref 106, .ref 107, .ref 108, .ref 109, .ref 110, .ref 111, .ref 112, .ref 113, .ref 114, .ref 115, .ref 116, .ref 117, .ref 118, .ref 119, .ref 120, .ref 121, .ref 122, .ref 123, .ref 124, .ref 125, .ref 126, .ref 127, .ref 128, .ref 129, .ref 130, .ref 131, .ref 132, .ref 133, .ref 134, .ref 135, .ref 136, .ref 137, .ref 138, .ref 139, .ref 140, .ref 141, .ref 142, .ref 143, .ref 144, .ref 145, .ref 146, .ref 147, .ref 148, .ref 149, .ref 150, .ref 151, .ref 152, .ref 153, .ref 154, .ref 155, .ref 156, .ref 157, .ref 158, .ref 159, .ref 160, .ref 161, .ref 162, .ref 163, .ref 164, .ref 165, .ref 166, .ref 167, .ref 168, .ref 169, .ref 170, .ref 171, .ref 172, .ref 173, .ref 174, .ref 175, .ref 176, .ref 177, .ref 178, .ref 179, .ref 180, .ref 181, .ref 182, .ref 183, .ref 184, .ref 185, .ref 186, .ref 187, .ref 188, .ref 189, .ref 190, .ref 191, .ref 192, .ref 193, .ref 194, .ref 195, .ref 196, .ref 197, .ref 198, .ref 199, .ref 200, .ref 201, .ref 202, .ref 203, .ref 204, .ref 205, .ref 206, .ref 207, .ref 208, .ref 209, .ref 210, .ref 211, .ref 212, .ref 213, .ref 214, .ref 215, .ref 216, .ref 217, .ref 218, .ref 219, .ref 220, .ref 221, .ref 222, .ref 223, .ref 224, .ref 225, .ref 226, .ref 227, .ref 228, .ref 229, .ref 230, .ref 231, .ref 232, .ref 233, .ref 234, .ref 235, .ref 236, .ref 237, .ref 238, .ref 239, .ref 240, .ref 241, .ref 242, .ref 243, .ref 244, .ref 245, .ref 246, .ref 247, .ref 248, .ref 249, .ref 250, .ref 251, .ref 252, .ref 253, .ref 254, .ref 255, .ref 256, .ref 257, .ref 258, .ref 259, .ref 260, .ref 261, .ref 262, .ref 263, .ref 264], vm := .none },
  { cls := 27, slots := #[.int (-128)], vm := .none },
  { cls := 27, slots := #[.int (-127)], vm := .none },
  { cls := 27, slots := #[.int (-126)], vm := .none },
  { cls := 27, slots := #[.int (-125)], vm := .none },
  { cls := 27, slots := #[.int (-124)], vm := .none },
  { cls := 27, slots := #[.int (-123)], vm := .none },
  { cls := 27, slots := #[.int (-122)], vm := .none },
  { cls := 27, slots := #[.int (-121)], vm := .none },
  { cls := 27, slots := #[.int (-120)], vm := .none },
  { cls := 27, slots := #[.int (-119)], vm := .none },
  { cls := 27, slots := #[.int (-118)], vm := .none },
  { cls := 27, slots := #[.int (-117)], vm := .none },
  { cls := 27, slots := #[.int (-116)], vm := .none },
  { cls := 27, slots := #[.int (-115)], vm := .none },
  { cls := 27, slots := #[.int (-114)], vm := .none },
  { cls := 27, slots := #[.int (-113)], vm := .none },
  { cls := 27, slots := #[.int (-112)], vm := .none },
  { cls := 27, slots := #[.int (-111)], vm := .none },
  { cls := 27, slots := #[.int (-110)], vm := .none },
  { cls := 27, slots := #[.int (-109)], vm := .none },
  { cls := 27, slots := #[.int (-108)], vm := .none },
  { cls := 27, slots := #[.int (-107)], vm := .none },
  { cls := 27, slots := #[.int (-106)], vm := .none },
  { cls := 27, slots := #[.int (-105)], vm := .none },
  { cls := 27, slots := #[.int (-104)], vm := .none },
  { cls := 27, slots := #[.int (-103)], vm := .none },
  { cls := 27, slots := #[.int (-102)], vm := .none },
  { cls := 27, slots := #[.int (-101)], vm := .none },
  { cls := 27, slots := #[.int (-100)], vm := .none },
  { cls := 27, slots := #[.int (-99)], vm := .none },
  { cls := 27, slots := #[.int (-98)], vm := .none },
  { cls := 27, slots := #[.int (-97)], vm := .none },
  { cls := 27, slots := #[.int (-96)], vm := .none },
  { cls := 27, slots := #[.int (-95)], vm := .none },
  { cls := 27, slots := #[.int (-94)], vm := .none },
  { cls := 27, slots := #[.int (-93)], vm := .none },
  { cls := 27, slots := #[.int (-92)], vm := .none },
  { cls := 27, slots := #[.int (-91)], vm := .none },
  { cls := 27, slots := #[.int (-90)], vm := .none },
  { cls := 27, slots := #[.int (-89)], vm := .none },
  { cls := 27, slots := #[.int (-88)], vm := .none },
  { cls := 27, slots := #[.int (-87)], vm := .none },
  { cls := 27, slots := #[.int (-86)], vm := .none },
  { cls := 27, slots := #[.int (-85)], vm := .none },
  { cls := 27, slots := #[.int (-84)], vm := .none },
  { cls := 27, slots := #[.int (-83)], vm := .none },
  { cls := 27, slots := #[.int (-82)], vm := .none },
  { cls := 27, slots := #[.int (-81)], vm := .none },
  { cls := 27, slots := #[.int (-80)], vm := .none },
  { cls := 27, slots := #[.int (-79)], vm := .none },
  { cls := 27, slots := #[.int (-78)], vm := .none },
  { cls := 27, slots := #[.int (-77)], vm := .none },
  { cls := 27, slots := #[.int (-76)], vm := .none },
  { cls := 27, slots := #[.int (-75)], vm := .none },
  { cls := 27, slots := #[.int (-74)], vm := .none },
  { cls := 27, slots := #[.int (-73)], vm := .none },
  { cls := 27, slots := #[.int (-72)], vm := .none },
  { cls := 27, slots := #[.int (-71)], vm := .none },
  { cls := 27, slots := #[.int (-70)], vm := .none },
  { cls := 27, slots := #[.int (-69)], vm := .none },
  { cls := 27, slots := #[.int (-68)], vm := .none },
  { cls := 27, slots := #[.int (-67)], vm := .none },
  { cls := 27, slots := #[.int (-66)], vm := .none },
  { cls := 27, slots := #[.int (-65)], vm := .none },
  { cls := 27, slots := #[.int (-64)], vm := .none },
  { cls := 27, slots := #[.int (-63)], vm := .none },
  { cls := 27, slots := #[.int (-62)], vm := .none },
  { cls := 27, slots := #[.int (-61)], vm := .none },
  { cls := 27, slots := #[.int (-60)], vm := .none },
  { cls := 27, slots := #[.int (-59)], vm := .none },
  { cls := 27, slots := #[.int (-58)], vm := .none },
  { cls := 27, slots := #[.int (-57)], vm := .none },
  { cls := 27, slots := #[.int (-56)], vm := .none },
  { cls := 27, slots := #[.int (-55)], vm := .none },
  { cls := 27, slots := #[.int (-54)], vm := .none },
  { cls := 27, slots := #[.int (-53)], vm := .none },
  { cls := 27, slots := #[.int (-52)], vm := .none },
  { cls := 27, slots := #[.int (-51)], vm := .none },
  { cls := 27, slots := #[.int (-50)], vm := .none },
  { cls := 27, slots := #[.int (-49)], vm := .none },
  { cls := 27, slots := #[.int (-48)], vm := .none },
  { cls := 27, slots := #[.int (-47)], vm := .none },
  { cls := 27, slots := #[.int (-46)], vm := .none },
  { cls := 27, slots := #[.int (-45)], vm := .none },
  { cls := 27, slots := #[.int (-44)], vm := .none },
  { cls := 27, slots := #[.int (-43)], vm := .none },
  { cls := 27, slots := #[.int (-42)], vm := .none },
  { cls := 27, slots := #[.int (-41)], vm := .none },
  { cls := 27, slots := #[.int (-40)], vm := .none },
  { cls := 27, slots := #[.int (-39)], vm := .none },
  { cls := 27, slots := #[.int (-38)], vm := .none },
  { cls := 27, slots := #[.int (-37)], vm := .none },
  { cls := 27, slots := #[.int (-36)], vm := .none },
  { cls := 27, slots := #[.int (-35)], vm := .none },
  { cls := 27, slots := #[.int (-34)], vm := .none },
  { cls := 27, slots := #[.int (-33)], vm := .none },
  { cls := 27, slots := #[.int (-32)], vm := .none },
  { cls := 27, slots := #[.int (-31)], vm := .none },
  { cls := 27, slots := #[.int (-30)], vm := .none },
  { cls := 27, slots := #[.int (-29)], vm := .none },
  { cls := 27, slots := #[.int (-28)], vm := .none },
  { cls := 27, slots := #[.int (-27)], vm := .none },
  { cls := 27, slots := #[.int (-26)], vm := .none },
  { cls := 27, slots := #[.int (-25)], vm := .none },
  { cls := 27, slots := #[.int (-24)], vm := .none },
  { cls := 27, slots := #[.int (-23)], vm := .none },
  { cls := 27, slots := #[.int (-22)], vm := .none },
  { cls := 27, slots := #[.int (-21)], vm := .none },
  { cls := 27, slots := #[.int (-20)], vm := .none },
  { cls := 27, slots := #[.int (-19)], vm := .none },
  { cls := 27, slots := #[.int (-18)], vm := .none },
  { cls := 27, slots := #[.int (-17)], vm := .none },
  { cls := 27, slots := #[.int (-16)], vm := .none },
  { cls := 27, slots := #[.int (-15)], vm := .none },
  { cls := 27, slots := #[.int (-14)], vm := .none },
  { cls := 27, slots := #[.int (-13)], vm := .none },
  { cls := 27, slots := #[.int (-12)], vm := .none },
  { cls := 27, slots := #[.int (-11)], vm := .none },
  { cls := 27, slots := #[.int (-10)], vm := .none },
  { cls := 27, slots := #[.int (-9)], vm := .none },
  { cls := 27, slots := #[.int (-8)], vm := .none },
  { cls := 27, slots := #[.int (-7)], vm := .none },
  { cls := 27, slots := #[.int (-6)], vm := .none },
  { cls := 27, slots := #[.int (-5)], vm := .none },
  { cls := 27, slots := #[.int (-4)], vm := .none },
  { cls := 27, slots := #[.int (-3)], vm := .none },
  { cls := 27, slots := #[.int (-2)], vm := .none },
  { cls := 27, slots := #[.int (-1)], vm := .none },
  { cls := 27, slots := #[.int (0)], vm := .none },
  { cls := 27, slots := #[.int (1)], vm := .none },
  { cls := 27, slots := #[.int (2)], vm := .none },
  { cls := 27, slots := #[.int (3)], vm := .none },
  { cls := 27, slots := #[.int (4)], vm := .none },
  { cls := 27, slots := #[.int (5)], vm := .none },
  { cls := 27, slots := #[.int (6)], vm := .none },
  { cls := 27, slots := #[.int (7)], vm := .none },
  { cls := 27, slots := #[.int (8)], vm := .none },
  { cls := 27, slots := #[.int (9)], vm := .none },
  { cls := 27, slots := #[.int (10)], vm := .none },
  { cls := 27, slots := #[.int (11)], vm := .none },
  { cls := 27, slots := #[.int (12)], vm := .none },
  { cls := 27, slots := #[.int (13)], vm := .none },
  { cls := 27, slots := #[.int (14)], vm := .none },
  { cls := 27, slots := #[.int (15)], vm := .none },
  { cls := 27, slots := #[.int (16)], vm := .none },
  { cls := 27, slots := #[.int (17)], vm := .none },
  { cls := 27, slots := #[.int (18)], vm := .none },
  { cls := 27, slots := #[.int (19)], vm := .none },
  { cls := 27, slots := #[.int (20)], vm := .none },
  { cls := 27, slots := #[.int (21)], vm := .none },
  { cls := 27, slots := #[.int (22)], vm := .none },
  { cls := 27, slots := #[.int (23)], vm := .none },
  { cls := 27, slots := #[.int (24)], vm := .none },
  { cls := 27, slots := #[.int (25)], vm := .none },
  { cls := 27, slots := #[.int (26)], vm := .none },
  { cls := 27, slots := #[.int (27)], vm := .none },
  { cls := 27, slots := #[.int (28)], vm := .none },
  { cls := 27, slots := #[.int (29)], vm := .none },
  { cls := 27, slots := #[.int (30)], vm := .none },
  { cls := 27, slots := #[.int (31)], vm := .none },
  { cls := 27, slots := #[.int (32)], vm := .none },
  { cls := 27, slots := #[.int (33)], vm := .none },
  { cls := 27, slots := #[.int (34)], vm := .none },
  { cls := 27, slots := #[.int (35)], vm := .none },
  { cls := 27, slots := #[.int (36)], vm := .none },
  { cls := 27, slots := #[.int (37)], vm := .none },
  { cls := 27, slots := #[.int (38)], vm := .none },
  { cls := 27, slots := #[.int (39)], vm := .none },
  { cls := 27, slots := #[.int (40)], vm := .none },
  { cls := 27, slots := #[.int (41)], vm := .none },
  { cls := 27, slots := #[.int (42)], vm := .none },
  { cls := 27, slots := #[.int (43)], vm := .none },
  { cls := 27, slots := #[.int (44)], vm := .none },
  { cls := 27, slots := #[.int (45)], vm := .none },
  { cls := 27, slots := #[.int (46)], vm := .none },
  { cls := 27, slots := #[.int (47)], vm := .none },
  { cls := 27, slots := #[.int (48)], vm := .none },
  { cls := 27, slots := #[.int (49)], vm := .none },
  { cls := 27, slots := #[.int (50)], vm := .none },
  { cls := 27, slots := #[.int (51)], vm := .none },
  { cls := 27, slots := #[.int (52)], vm := .none },
  { cls := 27, slots := #[.int (53)], vm := .none },
  { cls := 27, slots := #[.int (54)], vm := .none },
  { cls := 27, slots := #[.int (55)], vm := .none },
  { cls := 27, slots := #[.int (56)], vm := .none },
  { cls := 27, slots := #[.int (57)], vm := .none },
  { cls := 27, slots := #[.int (58)], vm := .none },
  { cls := 27, slots := #[.int (59)], vm := .none },
  { cls := 27, slots := #[.int (60)], vm := .none },
  { cls := 27, slots := #[.int (61)], vm := .none },
  { cls := 27, slots := #[.int (62)], vm := .none },
  { cls := 27, slots := #[.int (63)], vm := .none },
  { cls := 27, slots := #[.int (64)], vm := .none },
  { cls := 27, slots := #[.int (65)], vm := .none },
  { cls := 27, slots := #[.int (66)], vm := .none },
  { cls := 27, slots := #[.int (67)], vm := .none },
  { cls := 27, slots := #[.int (68)], vm := .none },
  { cls := 27, slots := #[.int (69)], vm := .none },
  { cls := 27, slots := #[.int (70)], vm := .none },
  { cls := 27, slots := #[.int (71)], vm := .none },
  { cls := 27, slots := #[.int (72)], vm := .none },
  { cls := 27, slots := #[.int (73)], vm := .none },
  { cls := 27, slots := #[.int (74)], vm := .none },
  { cls := 27, slots := #[.int (75)], vm := .none },
  { cls := 27, slots := #[.int (76)], vm := .none },
  { cls := 27, slots := #[.int (77)], vm := .none },
  { cls := 27, slots := #[.int (78)], vm := .none },
  { cls := 27, slots := #[.int (79)], vm := .none },
  { cls := 27, slots := #[.int (80)], vm := .none },
  { cls := 27, slots := #[.int (81)], vm := .none },
  { cls := 27, slots := #[.int (82)], vm := .none },
  { cls := 27, slots := #[.int (83)], vm := .none },
  { cls := 27, slots := #[.int (84)], vm := .none },
  { cls := 27, slots := #[.int (85)], vm := .none },
  { cls := 27, slots := #[.int (86)], vm := .none },
  { cls := 27, slots := #[.int (87)], vm := .none },
  { cls := 27, slots := #[.int (88)], vm := .none },
  { cls := 27, slots := #[.int (89)], vm := .none },
  { cls := 27, slots := #[.int (90)], vm := .none },
  { cls := 27, slots := #[.int (91)], vm := .none },
  { cls := 27, slots := #[.int (92)], vm := .none },
  { cls := 27, slots := #[.int (93)], vm := .none },
  { cls := 27, slots := #[.int (94)], vm := .none },
  { cls := 27, slots := #[.int (95)], vm := .none },
  { cls := 27, slots := #[.int (96)], vm := .none },
  { cls := 27, slots := #[.int (97)], vm := .none },
  { cls := 27, slots := #[.int (98)], vm := .none },
  { cls := 27, slots := #[.int (99)], vm := .none },
  { cls := 27, slots := #[.int (100)], vm := .none },
  { cls := 27, slots := #[.int (101)], vm := .none },
  { cls := 27, slots := #[.int (102)], vm := .none },
  { cls := 27, slots := #[.int (103)], vm := .none },
  { cls := 27, slots := #[.int (104)], vm := .none },
  { cls := 27, slots := #[.int (105)], vm := .none },
  { cls := 27, slots := #[.int (106)], vm := .none },
  { cls := 27, slots := #[.int (107)], vm := .none },
  { cls := 27, slots := #[.int (108)], vm := .none },
  { cls := 27, slots := #[.int (109)], vm := .none },
  { cls := 27, slots := #[.int (110)], vm := .none },
  { cls := 27, slots := #[.int (111)], vm := .none },
  { cls := 27, slots := #[.int (112)], vm := .none },
  { cls := 27, slots := #[.int (113)], vm := .none },
  { cls := 27, slots := #[.int (114)], vm := .none },
  { cls := 27, slots := #[.int (115)], vm := .none },
  { cls := 27, slots := #[.int (116)], vm := .none },
  { cls := 27, slots := #[.int (117)], vm := .none },
  { cls := 27, slots := #[.int (118)], vm := .none },
  { cls := 27, slots := #[.int (119)], vm := .none },
  { cls := 27, slots := #[.int (120)], vm := .none },
  { cls := 27, slots := #[.int (121)], vm := .none },
  { cls := 27, slots := #[.int (122)], vm := .none },
  { cls := 27, slots := #[.int (123)], vm := .none },
  { cls := 27, slots := #[.int (124)], vm := .none },
  { cls := 27, slots := #[.int (125)], vm := .none },
  { cls := 27, slots := #[.int (126)], vm := .none },
  { cls := 27, slots := #[.int (127)], vm := .none },
  { cls := 40, slots := #[], vm := .none },
  { cls := 40, slots := #[], vm := .none }]
def classes : Array Class := #[k0, k1, k2, k3, k4, k5, k6, k7, k8, k9, k10, k11, k12, k13, k14, k15, k16, k17, k18, k19, k20, k21, k22, k23, k24, k25, k26, k27, k28, k29, k30, k31, k32, k33, k34, k35, k36, k37, k38, k39, k40]
def interned : List (Array UInt16 × Addr) := []
def slotsUsed : Nat := 531
def theMethod : MethodId := ⟨1, 2⟩
def args0 : Array Value := #[.int 5, .int 5, .int 5, .int 5, .int 5, .int 5]
def aboutOver (below : List Frame) : State where
  vm := { classes := classes, interned := interned.toArray }
  heap := heap
  slotsUsed := slotsUsed
  threads := #[{ frames := .invoking theMethod args0 :: below }]
def below0 : List Frame := [.native { method := ⟨0, 0⟩, args := #[] }]
def about1 : State := aboutOver below0
def p0 : Program := .bare "" "" ""
def e0 : Env := launch0.env 0 0 0
theorem w_frames : about1.frames = Frame.invoking theMethod args0 :: below0 := rfl
set_option maxRecDepth 65536 in
theorem w_args : argsFit about1.vm theMethod args0 = true := by decide +kernel
set_option maxRecDepth 65536 in
theorem w_heap : heapFits about1 = true := by decide +kernel
set_option maxRecDepth 65536 in
theorem w_runnable : about1.curStatus? = some .runnable := by decide +kernel
set_option maxRecDepth 65536 in
theorem w_alone : about1.alone = true := by decide +kernel
set_option maxRecDepth 65536 in
theorem w_named : about1.methodNamed? x = some theMethod := by decide +kernel
set_option maxRecDepth 65536 in
theorem w_hears : about1.hears theMethod below0 = true := by decide +kernel
set_option maxRecDepth 65536 in
theorem w_ripe : about1.ripe theMethod args0 below0 = true := by decide +kernel
theorem w_running : about1.status = .running := rfl
set_option maxRecDepth 65536 in
theorem w_room : about1.hasRoom e0.platform room_1 = true :=
  launch0.hasRoom_least _ room_1 (by decide +kernel) (by decide +kernel) (by decide +kernel) (by decide +kernel) (by decide +kernel) (by decide +kernel)
theorem allAtoms_all (ts : List Jvm.Cond) (a : Array Jvm.Value) (st : Jvm.State) : (allAtoms ts).before a st = ts.all (fun c => c.before a st) := by
  induction ts with
  | nil => rfl
  | cons c t ih =>
    show (Jvm.Cond.and c (allAtoms t)).before a st = _
    rw [Jvm.Cond.before_and, ih, List.all_cons]
def words1 : List Jvm.Cond := Jvm.Cond.code x code maxLocals ret :: tables_1
/-- a 'code' word, met by the world's own term for the bytes: nothing is compared byte by byte -/
theorem code_word {y : MethodName} {bytes : ByteArray} {mx : Nat} {rt : Option FieldType} {a : Array Value} {s : State} {m : MethodId} {meth : Method} {c : Code} (h1 : s.methodNamed? y = some m) (h2 : s.vm.method? m = some meth) (h3 : meth.code = some c) (h4 : c.code = bytes)
    (h5 : (c.maxLocals == mx && c.exceptionTable.isEmpty && decide (c.maxStack ≤ mostOperands) && decide (meth.sig.returnType = rt) && !meth.locks && decide (parseMethodDescriptor y.desc = some meth.sig)) = true) : (Jvm.Cond.code y bytes mx rt).before a s = true := by
  simp only [Bool.and_eq_true, beq_iff_eq, Bool.not_eq_true', decide_eq_true_eq] at h5
  obtain ⟨⟨⟨⟨⟨g1, g2⟩, g3⟩, g4⟩, g5⟩, g6⟩ := h5
  simp [Cond.before, Cond.holds, Cond.value, h1, h2, h3, h4, g1, g2, g3, g4, g5, g6]
def isCode : Jvm.Cond → Bool
  | .code _ _ _ _ => true
  | _ => false
theorem all_split {L : List Jvm.Cond} {P : Jvm.Cond → Bool} (h1 : L.all (fun c => isCode c || P c) = true) (h2 : ∀ c ∈ L.filter isCode, P c = true) : L.all P = true := by
  refine List.all_eq_true.mpr fun c hc => ?_
  have h := List.all_eq_true.mp h1 c hc
  rcases Bool.eq_false_or_eq_true (isCode c) with hi | hi
  · exact h2 c (List.mem_filter.mpr ⟨hc, hi⟩)
  · simpa [hi] using h
set_option maxRecDepth 65536 in
theorem w_c0 : (Jvm.Cond.code x code maxLocals ret).before args0 about1 = true := code_word (m := ⟨1, 2⟩) (meth := k1m2) (c := k1c2) (by decide +kernel) rfl rfl rfl (by decide +kernel)
set_option maxRecDepth 65536 in
theorem w_c1 : (Jvm.Cond.code ({ cls := "java/util/ArrayList", name := "<init>", desc := "()V" } : Jvm.MethodName) jdk_38_method_2_code (1 : Nat) (Option.none : Option Jvm.ClassFile.FieldType)).before args0 about1 = true := code_word (m := ⟨11, 0⟩) (meth := k11m0) (c := k11c0) (by decide +kernel) rfl rfl rfl (by decide +kernel)
set_option maxRecDepth 65536 in
theorem w_c2 : (Jvm.Cond.code ({ cls := "java/util/AbstractList", name := "<init>", desc := "()V" } : Jvm.MethodName) jdk_39_method_1_code (1 : Nat) (Option.none : Option Jvm.ClassFile.FieldType)).before args0 about1 = true := code_word (m := ⟨7, 0⟩) (meth := k7m0) (c := k7c0) (by decide +kernel) rfl rfl rfl (by decide +kernel)
set_option maxRecDepth 65536 in
theorem w_c3 : (Jvm.Cond.code ({ cls := "java/util/AbstractCollection", name := "<init>", desc := "()V" } : Jvm.MethodName) jdk_22_method_1_code (1 : Nat) (Option.none : Option Jvm.ClassFile.FieldType)).before args0 about1 = true := code_word (m := ⟨4, 0⟩) (meth := k4m0) (c := k4c0) (by decide +kernel) rfl rfl rfl (by decide +kernel)
set_option maxRecDepth 65536 in
theorem w_c4 : (Jvm.Cond.code ({ cls := "java/lang/Object", name := "<init>", desc := "()V" } : Jvm.MethodName) object_method_1_code (1 : Nat) (Option.none : Option Jvm.ClassFile.FieldType)).before args0 about1 = true := code_word (m := ⟨0, 0⟩) (meth := k0m0) (c := k0c0) (by decide +kernel) rfl rfl rfl (by decide +kernel)
set_option maxRecDepth 65536 in
theorem w_c5 : (Jvm.Cond.code ({ cls := "com/example/greater_than/greaterthan/page/PageHasNextPinLaw", name := "cursor", desc := "(ZZII)Ljava/lang/String;" } : Jvm.MethodName) method_2_code (5 : Nat) (Option.some (Jvm.ClassFile.FieldType.object "java/lang/String"))).before args0 about1 = true := code_word (m := ⟨1, 1⟩) (meth := k1m1) (c := k1c1) (by decide +kernel) rfl rfl rfl (by decide +kernel)
set_option maxRecDepth 65536 in
theorem w_c6 : (Jvm.Cond.code ({ cls := "java/lang/String", name := "<init>", desc := "([C)V" } : Jvm.MethodName) jdk_42_method_3_code (2 : Nat) (Option.none : Option Jvm.ClassFile.FieldType)).before args0 about1 = true := code_word (m := ⟨16, 1⟩) (meth := k16m1) (c := k16c1) (by decide +kernel) rfl rfl rfl (by decide +kernel)
set_option maxRecDepth 65536 in
theorem w_c7 : (Jvm.Cond.code ({ cls := "java/lang/String", name := "<init>", desc := "([CIILjava/lang/Void;)V" } : Jvm.MethodName) jdk_42_method_149_code (6 : Nat) (Option.none : Option Jvm.ClassFile.FieldType)).before args0 about1 = true := code_word (m := ⟨16, 2⟩) (meth := k16m2) (c := k16c2) (by decide +kernel) rfl rfl rfl (by decide +kernel)
set_option maxRecDepth 65536 in
theorem w_c8 : (Jvm.Cond.code ({ cls := "java/lang/StringUTF16", name := "compress", desc := "([CII)[B" } : Jvm.MethodName) jdk_52_method_16_code (6 : Nat) (Option.some (Jvm.ClassFile.FieldType.array Jvm.ClassFile.FieldType.byte))).before args0 about1 = true := code_word (m := ⟨17, 2⟩) (meth := k17m2) (c := k17c2) (by decide +kernel) rfl rfl rfl (by decide +kernel)
set_option maxRecDepth 65536 in
theorem w_c9 : (Jvm.Cond.code ({ cls := "java/lang/StringUTF16", name := "compress", desc := "([CI[BII)I" } : Jvm.MethodName) jdk_52_method_21_code (7 : Nat) (Option.some Jvm.ClassFile.FieldType.int)).before args0 about1 = true := code_word (m := ⟨17, 3⟩) (meth := k17m3) (c := k17c3) (by decide +kernel) rfl rfl rfl (by decide +kernel)
set_option maxRecDepth 65536 in
theorem w_c10 : (Jvm.Cond.code ({ cls := "java/lang/StringUTF16", name := "coderFromArrayLen", desc := "([BI)B" } : Jvm.MethodName) jdk_52_method_15_code (2 : Nat) (Option.some Jvm.ClassFile.FieldType.byte)).before args0 about1 = true := code_word (m := ⟨17, 1⟩) (meth := k17m1) (c := k17c1) (by decide +kernel) rfl rfl rfl (by decide +kernel)
set_option maxRecDepth 65536 in
theorem w_c11 : (Jvm.Cond.code ({ cls := "com/example/greater_than/greaterthan/page/Page", name := "<init>", desc := "(Ljava/util/List;Ljava/lang/String;Ljava/lang/String;)V" } : Jvm.MethodName) prog_39_method_1_code (4 : Nat) (Option.none : Option Jvm.ClassFile.FieldType)).before args0 about1 = true := code_word (m := ⟨18, 0⟩) (meth := k18m0) (c := k18c0) (by decide +kernel) rfl rfl rfl (by decide +kernel)
set_option maxRecDepth 65536 in
theorem w_c12 : (Jvm.Cond.code ({ cls := "java/util/ArrayList", name := "<init>", desc := "(Ljava/util/Collection;)V" } : Jvm.MethodName) jdk_38_method_3_code (3 : Nat) (Option.none : Option Jvm.ClassFile.FieldType)).before args0 about1 = true := code_word (m := ⟨11, 1⟩) (meth := k11m1) (c := k11c1) (by decide +kernel) rfl rfl rfl (by decide +kernel)
set_option maxRecDepth 65536 in
theorem w_c13 : (Jvm.Cond.code ({ cls := "java/util/ArrayList", name := "toArray", desc := "()[Ljava/lang/Object;" } : Jvm.MethodName) jdk_38_method_16_code (1 : Nat) (Option.some (Jvm.ClassFile.FieldType.array (Jvm.ClassFile.FieldType.object "java/lang/Object")))).before args0 about1 = true := code_word (m := ⟨11, 4⟩) (meth := k11m4) (c := k11c4) (by decide +kernel) rfl rfl rfl (by decide +kernel)
set_option maxRecDepth 65536 in
theorem w_c14 : (Jvm.Cond.code ({ cls := "java/util/Arrays", name := "copyOf", desc := "([Ljava/lang/Object;I)[Ljava/lang/Object;" } : Jvm.MethodName) jdk_65_method_119_code (2 : Nat) (Option.some (Jvm.ClassFile.FieldType.array (Jvm.ClassFile.FieldType.object "java/lang/Object")))).before args0 about1 = true := code_word (m := ⟨19, 1⟩) (meth := k19m1) (c := k19c1) (by decide +kernel) rfl rfl rfl (by decide +kernel)
set_option maxRecDepth 65536 in
theorem w_c15 : (Jvm.Cond.code ({ cls := "java/util/Arrays", name := "copyOf", desc := "([Ljava/lang/Object;ILjava/lang/Class;)[Ljava/lang/Object;" } : Jvm.MethodName) jdk_65_method_120_code (4 : Nat) (Option.some (Jvm.ClassFile.FieldType.array (Jvm.ClassFile.FieldType.object "java/lang/Object")))).before args0 about1 = true := code_word (m := ⟨19, 2⟩) (meth := k19m2) (c := k19c2) (by decide +kernel) rfl rfl rfl (by decide +kernel)
set_option maxRecDepth 65536 in
theorem w_c16 : (Jvm.Cond.code ({ cls := "java/lang/Math", name := "min", desc := "(II)I" } : Jvm.MethodName) jdk_29_method_69_code (2 : Nat) (Option.some Jvm.ClassFile.FieldType.int)).before args0 about1 = true := code_word (m := ⟨20, 2⟩) (meth := k20m2) (c := k20c2) (by decide +kernel) rfl rfl rfl (by decide +kernel)
set_option maxRecDepth 65536 in
theorem w_c17 : (Jvm.Cond.code ({ cls := "java/util/Collections", name := "unmodifiableList", desc := "(Ljava/util/List;)Ljava/util/List;" } : Jvm.MethodName) jdk_79_method_35_code (1 : Nat) (Option.some (Jvm.ClassFile.FieldType.object "java/util/List"))).before args0 about1 = true := code_word (m := ⟨22, 1⟩) (meth := k22m1) (c := k22c1) (by decide +kernel) rfl rfl rfl (by decide +kernel)
set_option maxRecDepth 65536 in
theorem w_c18 : (Jvm.Cond.code ({ cls := "java/util/Collections$UnmodifiableRandomAccessList", name := "<init>", desc := "(Ljava/util/List;)V" } : Jvm.MethodName) jdk_121_method_1_code (2 : Nat) (Option.none : Option Jvm.ClassFile.FieldType)).before args0 about1 = true := code_word (m := ⟨25, 0⟩) (meth := k25m0) (c := k25c0) (by decide +kernel) rfl rfl rfl (by decide +kernel)
set_option maxRecDepth 65536 in
theorem w_c19 : (Jvm.Cond.code ({ cls := "java/util/Collections$UnmodifiableList", name := "<init>", desc := "(Ljava/util/List;)V" } : Jvm.MethodName) jdk_120_method_1_code (2 : Nat) (Option.none : Option Jvm.ClassFile.FieldType)).before args0 about1 = true := code_word (m := ⟨24, 0⟩) (meth := k24m0) (c := k24c0) (by decide +kernel) rfl rfl rfl (by decide +kernel)
set_option maxRecDepth 65536 in
theorem w_c20 : (Jvm.Cond.code ({ cls := "java/util/Collections$UnmodifiableCollection", name := "<init>", desc := "(Ljava/util/Collection;)V" } : Jvm.MethodName) jdk_119_method_1_code (2 : Nat) (Option.none : Option Jvm.ClassFile.FieldType)).before args0 about1 = true := code_word (m := ⟨23, 0⟩) (meth := k23m0) (c := k23c0) (by decide +kernel) rfl rfl rfl (by decide +kernel)
set_option maxRecDepth 65536 in
theorem w_c21 : (Jvm.Cond.code ({ cls := "com/example/greater_than/greaterthan/page/Page", name := "hasNext", desc := "()Z" } : Jvm.MethodName) prog_39_method_6_code (1 : Nat) (Option.some Jvm.ClassFile.FieldType.boolean)).before args0 about1 = true := code_word (m := ⟨18, 1⟩) (meth := k18m1) (c := k18c1) (by decide +kernel) rfl rfl rfl (by decide +kernel)
set_option maxRecDepth 65536 in
theorem w_c22 : (Jvm.Cond.code ({ cls := "java/util/ArrayList", name := "add", desc := "(Ljava/lang/Object;)Z" } : Jvm.MethodName) jdk_38_method_25_code (2 : Nat) (Option.some Jvm.ClassFile.FieldType.boolean)).before args0 about1 = true := code_word (m := ⟨11, 6⟩) (meth := k11m6) (c := k11c6) (by decide +kernel) rfl rfl rfl (by decide +kernel)
set_option maxRecDepth 65536 in
theorem w_c23 : (Jvm.Cond.code ({ cls := "java/util/ArrayList", name := "add", desc := "(Ljava/lang/Object;[Ljava/lang/Object;I)V" } : Jvm.MethodName) jdk_38_method_24_code (4 : Nat) (Option.none : Option Jvm.ClassFile.FieldType)).before args0 about1 = true := code_word (m := ⟨11, 5⟩) (meth := k11m5) (c := k11c5) (by decide +kernel) rfl rfl rfl (by decide +kernel)
set_option maxRecDepth 65536 in
theorem w_c24 : (Jvm.Cond.code ({ cls := "java/util/ArrayList", name := "grow", desc := "()[Ljava/lang/Object;" } : Jvm.MethodName) jdk_38_method_7_code (1 : Nat) (Option.some (Jvm.ClassFile.FieldType.array (Jvm.ClassFile.FieldType.object "java/lang/Object")))).before args0 about1 = true := code_word (m := ⟨11, 3⟩) (meth := k11m3) (c := k11c3) (by decide +kernel) rfl rfl rfl (by decide +kernel)
set_option maxRecDepth 65536 in
theorem w_c25 : (Jvm.Cond.code ({ cls := "java/util/ArrayList", name := "grow", desc := "(I)[Ljava/lang/Object;" } : Jvm.MethodName) jdk_38_method_6_code (4 : Nat) (Option.some (Jvm.ClassFile.FieldType.array (Jvm.ClassFile.FieldType.object "java/lang/Object")))).before args0 about1 = true := code_word (m := ⟨11, 2⟩) (meth := k11m2) (c := k11c2) (by decide +kernel) rfl rfl rfl (by decide +kernel)
set_option maxRecDepth 65536 in
theorem w_c26 : (Jvm.Cond.code ({ cls := "java/lang/Math", name := "max", desc := "(II)I" } : Jvm.MethodName) jdk_29_method_65_code (2 : Nat) (Option.some Jvm.ClassFile.FieldType.int)).before args0 about1 = true := code_word (m := ⟨20, 1⟩) (meth := k20m1) (c := k20c1) (by decide +kernel) rfl rfl rfl (by decide +kernel)
set_option maxRecDepth 65536 in
theorem w_c27 : (Jvm.Cond.code ({ cls := "java/lang/Integer", name := "valueOf", desc := "(I)Ljava/lang/Integer;" } : Jvm.MethodName) jdk_33_method_22_code (1 : Nat) (Option.some (Jvm.ClassFile.FieldType.object "java/lang/Integer"))).before args0 about1 = true := code_word (m := ⟨27, 0⟩) (meth := k27m0) (c := k27c0) (by decide +kernel) rfl rfl rfl (by decide +kernel)
set_option maxRecDepth 65536 in
theorem w_c28 : (Jvm.Cond.code ({ cls := "java/lang/Integer", name := "<init>", desc := "(I)V" } : Jvm.MethodName) jdk_33_method_23_code (2 : Nat) (Option.none : Option Jvm.ClassFile.FieldType)).before args0 about1 = true := code_word (m := ⟨27, 1⟩) (meth := k27m1) (c := k27c1) (by decide +kernel) rfl rfl rfl (by decide +kernel)
set_option maxRecDepth 65536 in
theorem w_c29 : (Jvm.Cond.code ({ cls := "java/lang/Number", name := "<init>", desc := "()V" } : Jvm.MethodName) jdk_18_method_1_code (1 : Nat) (Option.none : Option Jvm.ClassFile.FieldType)).before args0 about1 = true := code_word (m := ⟨26, 0⟩) (meth := k26m0) (c := k26c0) (by decide +kernel) rfl rfl rfl (by decide +kernel)
def codes1 : List Jvm.Cond := [Jvm.Cond.code x code maxLocals ret, Jvm.Cond.code ({ cls := "java/util/ArrayList", name := "<init>", desc := "()V" } : Jvm.MethodName) jdk_38_method_2_code (1 : Nat) (Option.none : Option Jvm.ClassFile.FieldType), Jvm.Cond.code ({ cls := "java/util/AbstractList", name := "<init>", desc := "()V" } : Jvm.MethodName) jdk_39_method_1_code (1 : Nat) (Option.none : Option Jvm.ClassFile.FieldType), Jvm.Cond.code ({ cls := "java/util/AbstractCollection", name := "<init>", desc := "()V" } : Jvm.MethodName) jdk_22_method_1_code (1 : Nat) (Option.none : Option Jvm.ClassFile.FieldType), Jvm.Cond.code ({ cls := "java/lang/Object", name := "<init>", desc := "()V" } : Jvm.MethodName) object_method_1_code (1 : Nat) (Option.none : Option Jvm.ClassFile.FieldType), Jvm.Cond.code ({ cls := "com/example/greater_than/greaterthan/page/PageHasNextPinLaw", name := "cursor", desc := "(ZZII)Ljava/lang/String;" } : Jvm.MethodName) method_2_code (5 : Nat) (Option.some (Jvm.ClassFile.FieldType.object "java/lang/String")), Jvm.Cond.code ({ cls := "java/lang/String", name := "<init>", desc := "([C)V" } : Jvm.MethodName) jdk_42_method_3_code (2 : Nat) (Option.none : Option Jvm.ClassFile.FieldType), Jvm.Cond.code ({ cls := "java/lang/String", name := "<init>", desc := "([CIILjava/lang/Void;)V" } : Jvm.MethodName) jdk_42_method_149_code (6 : Nat) (Option.none : Option Jvm.ClassFile.FieldType), Jvm.Cond.code ({ cls := "java/lang/StringUTF16", name := "compress", desc := "([CII)[B" } : Jvm.MethodName) jdk_52_method_16_code (6 : Nat) (Option.some (Jvm.ClassFile.FieldType.array Jvm.ClassFile.FieldType.byte)), Jvm.Cond.code ({ cls := "java/lang/StringUTF16", name := "compress", desc := "([CI[BII)I" } : Jvm.MethodName) jdk_52_method_21_code (7 : Nat) (Option.some Jvm.ClassFile.FieldType.int), Jvm.Cond.code ({ cls := "java/lang/StringUTF16", name := "coderFromArrayLen", desc := "([BI)B" } : Jvm.MethodName) jdk_52_method_15_code (2 : Nat) (Option.some Jvm.ClassFile.FieldType.byte), Jvm.Cond.code ({ cls := "com/example/greater_than/greaterthan/page/Page", name := "<init>", desc := "(Ljava/util/List;Ljava/lang/String;Ljava/lang/String;)V" } : Jvm.MethodName) prog_39_method_1_code (4 : Nat) (Option.none : Option Jvm.ClassFile.FieldType), Jvm.Cond.code ({ cls := "java/util/ArrayList", name := "<init>", desc := "(Ljava/util/Collection;)V" } : Jvm.MethodName) jdk_38_method_3_code (3 : Nat) (Option.none : Option Jvm.ClassFile.FieldType), Jvm.Cond.code ({ cls := "java/util/ArrayList", name := "toArray", desc := "()[Ljava/lang/Object;" } : Jvm.MethodName) jdk_38_method_16_code (1 : Nat) (Option.some (Jvm.ClassFile.FieldType.array (Jvm.ClassFile.FieldType.object "java/lang/Object"))), Jvm.Cond.code ({ cls := "java/util/Arrays", name := "copyOf", desc := "([Ljava/lang/Object;I)[Ljava/lang/Object;" } : Jvm.MethodName) jdk_65_method_119_code (2 : Nat) (Option.some (Jvm.ClassFile.FieldType.array (Jvm.ClassFile.FieldType.object "java/lang/Object"))), Jvm.Cond.code ({ cls := "java/util/Arrays", name := "copyOf", desc := "([Ljava/lang/Object;ILjava/lang/Class;)[Ljava/lang/Object;" } : Jvm.MethodName) jdk_65_method_120_code (4 : Nat) (Option.some (Jvm.ClassFile.FieldType.array (Jvm.ClassFile.FieldType.object "java/lang/Object"))), Jvm.Cond.code ({ cls := "java/lang/Math", name := "min", desc := "(II)I" } : Jvm.MethodName) jdk_29_method_69_code (2 : Nat) (Option.some Jvm.ClassFile.FieldType.int), Jvm.Cond.code ({ cls := "java/util/Collections", name := "unmodifiableList", desc := "(Ljava/util/List;)Ljava/util/List;" } : Jvm.MethodName) jdk_79_method_35_code (1 : Nat) (Option.some (Jvm.ClassFile.FieldType.object "java/util/List")), Jvm.Cond.code ({ cls := "java/util/Collections$UnmodifiableRandomAccessList", name := "<init>", desc := "(Ljava/util/List;)V" } : Jvm.MethodName) jdk_121_method_1_code (2 : Nat) (Option.none : Option Jvm.ClassFile.FieldType), Jvm.Cond.code ({ cls := "java/util/Collections$UnmodifiableList", name := "<init>", desc := "(Ljava/util/List;)V" } : Jvm.MethodName) jdk_120_method_1_code (2 : Nat) (Option.none : Option Jvm.ClassFile.FieldType), Jvm.Cond.code ({ cls := "java/util/Collections$UnmodifiableCollection", name := "<init>", desc := "(Ljava/util/Collection;)V" } : Jvm.MethodName) jdk_119_method_1_code (2 : Nat) (Option.none : Option Jvm.ClassFile.FieldType), Jvm.Cond.code ({ cls := "com/example/greater_than/greaterthan/page/Page", name := "hasNext", desc := "()Z" } : Jvm.MethodName) prog_39_method_6_code (1 : Nat) (Option.some Jvm.ClassFile.FieldType.boolean), Jvm.Cond.code ({ cls := "java/util/ArrayList", name := "add", desc := "(Ljava/lang/Object;)Z" } : Jvm.MethodName) jdk_38_method_25_code (2 : Nat) (Option.some Jvm.ClassFile.FieldType.boolean), Jvm.Cond.code ({ cls := "java/util/ArrayList", name := "add", desc := "(Ljava/lang/Object;[Ljava/lang/Object;I)V" } : Jvm.MethodName) jdk_38_method_24_code (4 : Nat) (Option.none : Option Jvm.ClassFile.FieldType), Jvm.Cond.code ({ cls := "java/util/ArrayList", name := "grow", desc := "()[Ljava/lang/Object;" } : Jvm.MethodName) jdk_38_method_7_code (1 : Nat) (Option.some (Jvm.ClassFile.FieldType.array (Jvm.ClassFile.FieldType.object "java/lang/Object"))), Jvm.Cond.code ({ cls := "java/util/ArrayList", name := "grow", desc := "(I)[Ljava/lang/Object;" } : Jvm.MethodName) jdk_38_method_6_code (4 : Nat) (Option.some (Jvm.ClassFile.FieldType.array (Jvm.ClassFile.FieldType.object "java/lang/Object"))), Jvm.Cond.code ({ cls := "java/lang/Math", name := "max", desc := "(II)I" } : Jvm.MethodName) jdk_29_method_65_code (2 : Nat) (Option.some Jvm.ClassFile.FieldType.int), Jvm.Cond.code ({ cls := "java/lang/Integer", name := "valueOf", desc := "(I)Ljava/lang/Integer;" } : Jvm.MethodName) jdk_33_method_22_code (1 : Nat) (Option.some (Jvm.ClassFile.FieldType.object "java/lang/Integer")), Jvm.Cond.code ({ cls := "java/lang/Integer", name := "<init>", desc := "(I)V" } : Jvm.MethodName) jdk_33_method_23_code (2 : Nat) (Option.none : Option Jvm.ClassFile.FieldType), Jvm.Cond.code ({ cls := "java/lang/Number", name := "<init>", desc := "()V" } : Jvm.MethodName) jdk_18_method_1_code (1 : Nat) (Option.none : Option Jvm.ClassFile.FieldType)]
set_option maxRecDepth 65536 in
theorem codes_eq : words1.filter isCode = codes1 := rfl
theorem w_codes : ∀ c ∈ words1.filter isCode, c.before args0 about1 = true := by
  rw [codes_eq]
  intro c hc
  simp only [codes1, List.mem_cons, List.not_mem_nil, or_false] at hc
  rcases hc with rfl | rfl | rfl | rfl | rfl | rfl | rfl | rfl | rfl | rfl | rfl | rfl | rfl | rfl | rfl | rfl | rfl | rfl | rfl | rfl | rfl | rfl | rfl | rfl | rfl | rfl | rfl | rfl | rfl | rfl
  · exact w_c0
  · exact w_c1
  · exact w_c2
  · exact w_c3
  · exact w_c4
  · exact w_c5
  · exact w_c6
  · exact w_c7
  · exact w_c8
  · exact w_c9
  · exact w_c10
  · exact w_c11
  · exact w_c12
  · exact w_c13
  · exact w_c14
  · exact w_c15
  · exact w_c16
  · exact w_c17
  · exact w_c18
  · exact w_c19
  · exact w_c20
  · exact w_c21
  · exact w_c22
  · exact w_c23
  · exact w_c24
  · exact w_c25
  · exact w_c26
  · exact w_c27
  · exact w_c28
  · exact w_c29
set_option maxRecDepth 65536 in
theorem w_t1 : (words1.take 24).all (fun c => isCode c || c.before args0 about1) = true := by decide +kernel
set_option maxRecDepth 65536 in
theorem w_t2 : ((words1.drop 24).take 24).all (fun c => isCode c || c.before args0 about1) = true := by decide +kernel
set_option maxRecDepth 65536 in
theorem w_t3 : (((words1.drop 24).drop 24).take 24).all (fun c => isCode c || c.before args0 about1) = true := by decide +kernel
set_option maxRecDepth 65536 in
theorem w_t4 : ((((words1.drop 24).drop 24).drop 24).take 24).all (fun c => isCode c || c.before args0 about1) = true := by decide +kernel
set_option maxRecDepth 65536 in
theorem w_t5 : (((((words1.drop 24).drop 24).drop 24).drop 24).take 24).all (fun c => isCode c || c.before args0 about1) = true := by decide +kernel
set_option maxRecDepth 65536 in
theorem w_t6 : ((((((words1.drop 24).drop 24).drop 24).drop 24).drop 24).take 24).all (fun c => isCode c || c.before args0 about1) = true := by decide +kernel
set_option maxRecDepth 65536 in
theorem w_t7 : (((((((words1.drop 24).drop 24).drop 24).drop 24).drop 24).drop 24).take 24).all (fun c => isCode c || c.before args0 about1) = true := by decide +kernel
set_option maxRecDepth 65536 in
theorem w_t8 : ((((((((words1.drop 24).drop 24).drop 24).drop 24).drop 24).drop 24).drop 24).take 24).all (fun c => isCode c || c.before args0 about1) = true := by decide +kernel
set_option maxRecDepth 65536 in
theorem w_t9 : ((((((((words1.drop 24).drop 24).drop 24).drop 24).drop 24).drop 24).drop 24).drop 24).all (fun c => isCode c || c.before args0 about1) = true := by decide +kernel
theorem w_tables : (allAtoms (Jvm.Cond.code x code maxLocals ret :: tables_1)).before args0 about1 = true := by
  rw [allAtoms_all]
  show words1.all (fun c => c.before args0 about1) = true
  refine all_split ?_ w_codes
  rw [← List.take_append_drop 24 words1, List.all_append, w_t1, ← List.take_append_drop 24 (words1.drop 24), List.all_append, w_t2, ← List.take_append_drop 24 ((words1.drop 24).drop 24), List.all_append, w_t3, ← List.take_append_drop 24 (((words1.drop 24).drop 24).drop 24), List.all_append, w_t4, ← List.take_append_drop 24 ((((words1.drop 24).drop 24).drop 24).drop 24), List.all_append, w_t5, ← List.take_append_drop 24 (((((words1.drop 24).drop 24).drop 24).drop 24).drop 24), List.all_append, w_t6, ← List.take_append_drop 24 ((((((words1.drop 24).drop 24).drop 24).drop 24).drop 24).drop 24), List.all_append, w_t7, ← List.take_append_drop 24 (((((((words1.drop 24).drop 24).drop 24).drop 24).drop 24).drop 24).drop 24), List.all_append, w_t8, w_t9]
  rfl
set_option maxRecDepth 65536 in
theorem w_rest : rest_1_c.before args0 about1 = true := by decide +kernel
set_option maxRecDepth 65536 in
theorem w_case : (Jvm.Cond.and given_1 narrow_1).before args0 about1 = true := by decide +kernel
theorem w_applies : (headSpec (Jvm.Cond.code x code maxLocals ret :: tables_1) room_1).applies x e0.platform about1 = true :=
  (Spec.applies_iff w_frames).mpr ⟨w_running, w_runnable, w_alone, w_named, w_hears, w_ripe, w_room, w_tables⟩
set_option maxRecDepth 65536 in
theorem atStart : AtStart classFile x code maxLocals ret World_1 tables_1 room_1 Calls_1 rest_1 Pre_1 launch0 p0 e0 about1 theMethod args0 below0 :=
  ⟨lists_1, trivial, launch0.admits_env _ _ _, launch0.least_env, fairChoices_fair.cas, fairChoices_fair.clock, w_frames, w_args, w_heap, w_applies, ⟨⟨40, k40, 4, by decide +kernel, rfl, rfl, _, rfl, rfl⟩, ⟨⟨11, k11, 5, by decide +kernel, rfl, rfl, _, rfl, rfl⟩, ⟨⟨24, k24, 6, by decide +kernel, rfl, rfl, _, rfl, rfl⟩, ⟨⟨25, k25, 7, by decide +kernel, rfl, rfl, _, rfl, rfl⟩, trivial⟩⟩⟩⟩, w_rest, w_case⟩
end start1
theorem witness_1 : WitnessClaimed_1 := ⟨start1.p0, start1.e0, start1.about1, start1.theMethod, start1.args0, start1.below0, start1.atStart⟩
end Jvm.Pilot.@@N@@
