import JvmDerived
import JvmDerived.Pilot.@@N@@Statement
import JvmDerived.Pilot.@@N@@Code
set_option linter.unusedVariables false
set_option linter.unusedSimpArgs false

namespace Jvm.RoadKit
open Sem ClassFile Op Lib Jvm.Stand Jvm.Free Jvm.LawKit
section New
variable {p : Program} {l : Launch} {e : Env} {R : Room} {s : State} {m : MethodId} {args : Array Value} {below : List Frame} {meth : Method} {c : Code} {T : State} {locs : List Loc} {cells slots : Nat}
theorem own_retI (X : Stand p l e R s m args below meth c T locs cells slots) (hx : p.tables.exec = Jvm.exec) {pc : Nat} {Ls : Array Slot} {z : Int32} {rest : List Value} (hret : meth.sig.returnType = some .int) (hd : decode c.code pc = .ok (.ireturn, 1)) {fs : List Frame}
    (hl : ∀ (f : JFrame) (acts : List Action), f.method = m → f.locked = none → f.entered = [] → (doReturn e (T.setTop f) acts (some (.int z))).1 = T.setFrames fs) : Steps p.tables e below (T.setTop (mkF m pc Ls (.int z :: rest))) (T.setFrames fs) :=
  retOut X hx (t := .int) (w := .int z) (i := .ireturn) hret rfl (Or.inl ⟨rfl, Or.inl rfl, z, rfl⟩) hd hl
end New
end Jvm.RoadKit

/- laws to paste: Road.backV, Road.codOf (cut by pick.py; bodies as the Statement names them) -/
namespace Jvm.Pilot.@@N@@
namespace StrChars
open Jvm Sem ClassFile Op Lib Jvm.Stand Jvm.Free.XT Jvm.Free.ALB Jvm.Free.JM Jvm.Free
open Jvm.Lib.Cold (StaticIs)
/-- a char array whose places are chars -/
def Ch (a : Addr) (A : Cell) (U : State) : Prop := Arr .char a A U ∧ Typed .char A
theorem Ch.mv {a : Addr} {A : Cell} {U U' : State} (h : Ch a A U) (hal : U.vm.Alike U'.vm) (hh : U'.heap = U.heap) : Ch a A U' := ⟨h.1.mv hal hh, h.2⟩
theorem Ch.keep {a : Addr} {A : Cell} {U U' : State} (h : Ch a A U) (hal : U.vm.Alike U'.vm) (hk : U'.heap[a]? = some A) : Ch a A U' := ⟨h.1.keep hal hk, h.2⟩
/-- what place i of a char[]'s cell holds -/
def cv (A : Cell) (i : Nat) : Int32 := match A.slots[i]? with | some (.int x) => x | _ => 0
theorem Ch.get {a : Addr} {A : Cell} {U : State} (h : Ch a A U) {i : Nat} (hi : i < A.slots.size) : A.slots[i]? = some (.int (cv A i)) := by
  have e := Array.getElem?_eq_getElem hi
  have f := h.2 i _ e
  unfold cv; rw [e]
  generalize A.slots[i] = v at f
  cases v <;> simp [fits] at f ⊢
/-- the byte that i2b leaves of a char -/
def lo8 (x : Int32) : Int32 := x.toInt8.toInt32
theorem fits_lo8 (y : Int32) : fits .byte (.int (lo8 y)) = true := by
  have h1 := y.toInt8.le_toInt
  have h2 := y.toInt8.toInt_lt
  simp only [lo8, fits, Bool.and_eq_true, decide_eq_true_eq, Int32.le_iff_toInt_le, Int8.toInt_toInt32, show (-128 : Int32).toInt = -128 from by decide, show (127 : Int32).toInt = 127 from by decide]
  omega
/-- A' is A but that each place j of lo .. hi - 1 holds f j -/
def Laid (A A' : Cell) (lo hi : Nat) (f : Nat → Value) : Prop := A'.cls = A.cls ∧ A'.vm = A.vm ∧ A'.slots.size = A.slots.size ∧ ∀ i, A'.slots[i]? = if lo ≤ i ∧ i < hi then some (f i) else A.slots[i]?
theorem Laid.zero (A : Cell) (lo : Nat) (f : Nat → Value) : Laid A A lo (lo + 0) f := ⟨rfl, rfl, rfl, fun i => by rw [if_neg (by omega)]⟩
theorem Laid.step {A Ak : Cell} {lo k : Nat} {f : Nat → Value} {v : Value} (h : Laid A Ak lo k f) (hlo : lo ≤ k) (hk : k < Ak.slots.size) (hv : v = f k) : Laid A (Ak.setSlot k v) lo (k + 1) f := by
  refine ⟨h.1, h.2.1, by simpa [Cell.setSlot] using h.2.2.1, fun i => ?_⟩
  by_cases e : k = i
  · subst e; rw [Cell.slots_setSlot_self v hk, if_pos (by omega), hv]
  · rw [Cell.slots_setSlot_ne v e, h.2.2.2 i]
    by_cases q : lo ≤ i ∧ i < k
    · rw [if_pos q, if_pos (by omega)]
    · rw [if_neg q, if_neg (by omega)]
def U16 : String := "java/lang/StringUTF16"
namespace Cmp5
def yN : MethodName := ⟨"java/lang/StringUTF16", "compress", "([CI[BII)I"⟩
abbrev yB : ByteArray := jdk_52_method_21_code
theorem d0 : decode yB 0 = .ok (.iconst 0, 1) := by decide +kernel
theorem d1 : decode yB 1 = .ok (.istore 5, 2) := by decide +kernel
theorem d3 : decode yB 3 = .ok (.iload 5, 2) := by decide +kernel
theorem d5 : decode yB 5 = .ok (.iload 4, 2) := by decide +kernel
theorem d7 : decode yB 7 = .ok (.if_icmp (.ge) 37, 3) := by decide +kernel
theorem d10 : decode yB 10 = .ok (.aload_n 0, 1) := by decide +kernel
theorem d11 : decode yB 11 = .ok (.iload_n 1, 1) := by decide +kernel
theorem d12 : decode yB 12 = .ok (.caload, 1) := by decide +kernel
theorem d13 : decode yB 13 = .ok (.istore 6, 2) := by decide +kernel
theorem d15 : decode yB 15 = .ok (.iload 6, 2) := by decide +kernel
theorem d17 : decode yB 17 = .ok (.sipush 255, 3) := by decide +kernel
theorem d20 : decode yB 20 = .ok (.if_icmp (.le) 6, 3) := by decide +kernel
theorem d26 : decode yB 26 = .ok (.aload_n 2, 1) := by decide +kernel
theorem d27 : decode yB 27 = .ok (.iload_n 3, 1) := by decide +kernel
theorem d28 : decode yB 28 = .ok (.iload 6, 2) := by decide +kernel
theorem d30 : decode yB 30 = .ok (.i2b, 1) := by decide +kernel
theorem d31 : decode yB 31 = .ok (.bastore, 1) := by decide +kernel
theorem d32 : decode yB 32 = .ok (.iinc 1 1, 3) := by decide +kernel
theorem d35 : decode yB 35 = .ok (.iinc 3 1, 3) := by decide +kernel
theorem d38 : decode yB 38 = .ok (.iinc 5 1, 3) := by decide +kernel
theorem d41 : decode yB 41 = .ok (.goto (-38), 3) := by decide +kernel
theorem d44 : decode yB 44 = .ok (.iload 4, 2) := by decide +kernel
theorem d46 : decode yB 46 = .ok (.ireturn, 1) := by decide +kernel
def site : List Cond := []
def tab : Cond := tabOf yN yB 7 (some .int) site
def P (b : Addr) (A : Cell) (d : Addr) (B : Cell) (o q len : Nat) (args : Array Value) (s : State) : Prop := args = #[.ref b, .int (Int32.ofNat o), .ref d, .int (Int32.ofNat q), .int (Int32.ofNat len)] ∧ Ch b A s ∧ Arr .byte d B s ∧ b ≠ d ∧ o + len ≤ A.slots.size ∧ q + len ≤ B.slots.size ∧ ∀ i, i < len → ¬ 255 < cv A (o + i)
def E (b : Addr) (A : Cell) (d : Addr) (B : Cell) (o q len : Nat) (r : Option Value) (s u : State) : Prop := r = some (.int (Int32.ofNat len)) ∧ ∃ B', Put d B' s u ∧ Laid B B' q (q + len) (fun j => Value.int (lo8 (cv A (o + (j - q)))))
/-- no char of the range above 255: len; the places written hold each char's low byte -/
theorem law (l : Launch) (b : Addr) (A : Cell) (d : Addr) (B : Cell) (o q len : Nat) : Law l yN 5 5 0 0 yB 7 (some .int) site (P b A d B o q len) (E b A d B o q len) (copyLocs d q len) 0 0 := by
  refine Law.of_walk (plainFor_of_name (by decide +kernel)) (by decide +kernel) (by decide +kernel) (by decide) (fun _ _ h => by rw [h.1]; rfl) (fun _ U U' hal hh h => ⟨h.1, h.2.1.mv hal hh, h.2.2.1.mv hal hh, h.2.2.2⟩) (fun r U U' V V' h1 hal h2 h => ⟨h.1, h.2.elim fun B' q => ⟨B', q.1.mv h1 h2, q.2⟩⟩) ?_
  intro p e s m args below meth c s₁ X0 hexec hbytes hml hret hlk hnm hown hh0 W hP
  obtain ⟨rfl, hA, hB, hne, l1, l2, hp⟩ := hP
  have c1 : Steps p.tables e below (s₁.setTop (entryFrame m #[.ref b, .int (Int32.ofNat o), .ref d, .int (Int32.ofNat q), .int (Int32.ofNat len)] 7)) (s₁.setTop (mkF m 0 #[.val (.ref b), .val (.int (Int32.ofNat o)), .val (.ref d), .val (.int (Int32.ofNat q)), .val (.int (Int32.ofNat len)), .unset, .unset] [])) := entry rfl
  have hA0 := hA.1.mv X0.warmed.alike hh0
  have hB0 := hB.mv X0.warmed.alike hh0
  have a31 := hA.1.2.2.2
  have c2 : Steps p.tables e below (s₁.setTop (entryFrame m #[.ref b, .int (Int32.ofNat o), .ref d, .int (Int32.ofNat q), .int (Int32.ofNat len)] 7)) (s₁.setTop (mkF m 3 #[.val (.ref b), .val (.int (Int32.ofNat o)), .val (.ref d), .val (.int (Int32.ofNat q)), .val (.int (Int32.ofNat len)), .val (.int 0), .unset] [])) := c1.trans (by
    refine iconstV X0.here hexec rfl 0 (hb hbytes d0) (by decide) ?_
    refine XS.istore X0.here hexec rfl (hb hbytes d1) rfl rfl ?_
    exact Steps.refl _)
  have loop : ∀ (r i : Nat), i + r = len → ∀ (z : Slot), (z = .unset ∨ ∃ w, z = .val w ∧ w.category = 1) → ∀ (Tl : State) (Bk : Cell), Stand p l e { frames := 0, locals := 0, cells := 0, slots := 0 } s m #[.ref b, .int (Int32.ofNat o), .ref d, .int (Int32.ofNat q), .int (Int32.ofNat len)] below meth c Tl ([] ++ copyLocs d q i) 0 0 → Put d Bk s₁ Tl → Laid B Bk q (q + i) (fun j => Value.int (lo8 (cv A (o + (j - q))))) →
      Steps p.tables e below (s₁.setTop (entryFrame m #[.ref b, .int (Int32.ofNat o), .ref d, .int (Int32.ofNat q), .int (Int32.ofNat len)] 7)) (Tl.setTop (mkF m 3 #[.val (.ref b), .val (.int (Int32.ofNat (o + i))), .val (.ref d), .val (.int (Int32.ofNat (q + i))), .val (.int (Int32.ofNat len)), .val (.int (Int32.ofNat i)), z] [])) → ∃ (T' : State) (B' : Cell) (z' : Slot), Stand p l e { frames := 0, locals := 0, cells := 0, slots := 0 } s m #[.ref b, .int (Int32.ofNat o), .ref d, .int (Int32.ofNat q), .int (Int32.ofNat len)] below meth c T' ([] ++ copyLocs d q len) 0 0 ∧ Put d B' s₁ T' ∧ Laid B B' q (q + len) (fun j => Value.int (lo8 (cv A (o + (j - q))))) ∧
      Steps p.tables e below (s₁.setTop (entryFrame m #[.ref b, .int (Int32.ofNat o), .ref d, .int (Int32.ofNat q), .int (Int32.ofNat len)] 7)) (T'.setTop (mkF m 3 #[.val (.ref b), .val (.int (Int32.ofNat (o + len))), .val (.ref d), .val (.int (Int32.ofNat (q + len))), .val (.int (Int32.ofNat len)), .val (.int (Int32.ofNat len)), z'] [])) := by
    intro r
    induction r with
    | zero =>
      intro i hi z hz Tl Bk Xl pl fl cl
      have hil : i = len := by omega
      rw [hil] at Xl fl cl
      exact ⟨Tl, Bk, z, Xl, pl, fl, cl⟩
    | succ r ih =>
      intro i hi z hz Tl Bk Xl pl fl cl
      have all := X0.warmed.alike.symm.trans Xl.warmed.alike
      have hAl := hA0.keep all (pl.other hne hA0.1)
      have hBk := hB0.like all pl.1 fl.1 fl.2.1 fl.2.2.1
      have hlt : q + i < Bk.slots.size := by rw [fl.2.2.1]; omega
      have c3 : Steps p.tables e below (s₁.setTop (entryFrame m #[.ref b, .int (Int32.ofNat o), .ref d, .int (Int32.ofNat q), .int (Int32.ofNat len)] 7)) (Tl.setTop (mkF m 12 #[.val (.ref b), .val (.int (Int32.ofNat (o + i))), .val (.ref d), .val (.int (Int32.ofNat (q + i))), .val (.int (Int32.ofNat len)), .val (.int (Int32.ofNat i)), z] [.int (Int32.ofNat (o + i)), .ref b])) := cl.trans (by
        refine XS.iload Xl.here hexec rfl (hb hbytes d3) rfl ?_
        refine XS.iload Xl.here hexec rfl (hb hbytes d5) rfl ?_
        refine XS.icmpNo Xl.here hexec rfl (hb hbytes d7) rfl (ii_ge_f (lt32 (by omega) (by omega))) ?_
        refine XS.aloadN Xl.here hexec rfl (hb hbytes d10) rfl rfl ?_
        refine XS.iloadN Xl.here hexec rfl (hb hbytes d11) rfl ?_
        exact Steps.refl _)
      have c4 : Steps p.tables e below (s₁.setTop (entryFrame m #[.ref b, .int (Int32.ofNat o), .ref d, .int (Int32.ofNat q), .int (Int32.ofNat len)] 7)) (Tl.setTop (mkF m 13 #[.val (.ref b), .val (.int (Int32.ofNat (o + i))), .val (.ref d), .val (.int (Int32.ofNat (q + i))), .val (.int (Int32.ofNat len)), .val (.int (Int32.ofNat i)), z] [.int (cv A (o + i))])) := c3.trans (by
        refine Xl.aget hexec hAl rfl (hA.get (i := o + i) (by omega)) rfl rfl (hb hbytes d12) ?_
        exact Steps.refl _)
      have c5 : Steps p.tables e below (s₁.setTop (entryFrame m #[.ref b, .int (Int32.ofNat o), .ref d, .int (Int32.ofNat q), .int (Int32.ofNat len)] 7)) (Tl.setTop (mkF m 15 #[.val (.ref b), .val (.int (Int32.ofNat (o + i))), .val (.ref d), .val (.int (Int32.ofNat (q + i))), .val (.int (Int32.ofNat len)), .val (.int (Int32.ofNat i)), .val (.int (cv A (o + i)))] [])) := c4.trans (by
        refine XS.istoreS Xl.here hexec rfl (hb hbytes d13) rfl rfl hz ?_
        exact Steps.refl _)
      have c6 : Steps p.tables e below (s₁.setTop (entryFrame m #[.ref b, .int (Int32.ofNat o), .ref d, .int (Int32.ofNat q), .int (Int32.ofNat len)] 7)) (Tl.setTop (mkF m 31 #[.val (.ref b), .val (.int (Int32.ofNat (o + i))), .val (.ref d), .val (.int (Int32.ofNat (q + i))), .val (.int (Int32.ofNat len)), .val (.int (Int32.ofNat i)), .val (.int (cv A (o + i)))] [.int (lo8 (cv A (o + i))), .int (Int32.ofNat (q + i)), .ref d])) := c5.trans (by
        refine XS.iload Xl.here hexec rfl (hb hbytes d15) rfl ?_
        refine sipushV Xl.here hexec rfl 255 (hb hbytes d17) (by decide) ?_
        refine XS.icmpYes Xl.here hexec rfl (pc0 := 20) rfl (hb hbytes d20) rfl (ii_le_t (hp i (by omega))) (by decide) rfl ?_
        refine XS.aloadN Xl.here hexec rfl (hb hbytes d26) rfl rfl ?_
        refine XS.iloadN Xl.here hexec rfl (hb hbytes d27) rfl ?_
        refine XS.iload Xl.here hexec rfl (hb hbytes d28) rfl ?_
        refine i2b Xl.here hexec rfl (hb hbytes d30) rfl ?_
        exact Steps.refl _)
      obtain ⟨T7, X7, p7, st7⟩ := Xl.aput hexec hBk rfl hlt rfl (fits_lo8 (cv A (o + i))) (g := (mkF m 31 #[.val (.ref b), .val (.int (Int32.ofNat (o + i))), .val (.ref d), .val (.int (Int32.ofNat (q + i))), .val (.int (Int32.ofNat len)), .val (.int (Int32.ofNat i)), .val (.int (cv A (o + i)))] [.int (lo8 (cv A (o + i))), .int (Int32.ofNat (q + i)), .ref d])) rfl (rest := []) rfl (hb hbytes d31)
      have c8 : Steps p.tables e below (s₁.setTop (entryFrame m #[.ref b, .int (Int32.ofNat o), .ref d, .int (Int32.ofNat q), .int (Int32.ofNat len)] 7)) (T7.setTop (mkF m 32 #[.val (.ref b), .val (.int (Int32.ofNat (o + i))), .val (.ref d), .val (.int (Int32.ofNat (q + i))), .val (.int (Int32.ofNat len)), .val (.int (Int32.ofNat i)), .val (.int (cv A (o + i)))] [])) := c6.trans (st7 _ (Steps.refl _))
      have c9 : Steps p.tables e below (s₁.setTop (entryFrame m #[.ref b, .int (Int32.ofNat o), .ref d, .int (Int32.ofNat q), .int (Int32.ofNat len)] 7)) (T7.setTop (mkF m 3 #[.val (.ref b), .val (.int (Int32.ofNat (o + i) + 1)), .val (.ref d), .val (.int (Int32.ofNat (q + i) + 1)), .val (.int (Int32.ofNat len)), .val (.int (Int32.ofNat i + 1)), .val (.int (cv A (o + i)))] [])) := c8.trans (by
        refine iincV X7.here hexec rfl 1 (hb hbytes d32) (by decide) rfl rfl ?_
        refine iincV X7.here hexec rfl 1 (hb hbytes d35) (by decide) rfl rfl ?_
        refine iincV X7.here hexec rfl 1 (hb hbytes d38) (by decide) rfl rfl ?_
        refine XS.goto X7.here hexec rfl (pc0 := 41) rfl (hb hbytes d41) (by decide) rfl ?_
        exact Steps.refl _)
      have c10 : Steps p.tables e below (s₁.setTop (entryFrame m #[.ref b, .int (Int32.ofNat o), .ref d, .int (Int32.ofNat q), .int (Int32.ofNat len)] 7)) (T7.setTop (mkF m 3 #[.val (.ref b), .val (.int (Int32.ofNat (o + (i + 1)))), .val (.ref d), .val (.int (Int32.ofNat (q + (i + 1)))), .val (.int (Int32.ofNat len)), .val (.int (Int32.ofNat (i + 1))), .val (.int (cv A (o + i)))] [])) := by
        have := c9
        rw [succ32, succ32, succ32] at this
        exact this
      exact ih (i + 1) (by omega) _ (Or.inr ⟨_, rfl, rfl⟩) T7 _ (by rw [copyLocs_step, ← List.append_assoc]; exact X7) (pl.trans p7) (fl.step (by omega) hlt (by simp)) c10
  obtain ⟨T9, B9, z9, X9, p9, f9, g9⟩ := loop len 0 (by omega) .unset (Or.inl rfl) s₁ B (by simpa [copyLocs] using X0) ⟨hB0.1, fun _ _ => rfl, rfl⟩ (Laid.zero _ _ _) c2
  have c11 : Steps p.tables e below (s₁.setTop (entryFrame m #[.ref b, .int (Int32.ofNat o), .ref d, .int (Int32.ofNat q), .int (Int32.ofNat len)] 7)) (T9.setTop (mkF m 46 #[.val (.ref b), .val (.int (Int32.ofNat (o + len))), .val (.ref d), .val (.int (Int32.ofNat (q + len))), .val (.int (Int32.ofNat len)), .val (.int (Int32.ofNat len)), z9] [.int (Int32.ofNat len)])) := g9.trans (by
    refine XS.iload X9.here hexec rfl (hb hbytes d3) rfl ?_
    refine XS.iload X9.here hexec rfl (hb hbytes d5) rfl ?_
    refine XS.icmpYes X9.here hexec rfl (pc0 := 7) rfl (hb hbytes d7) rfl (ii_ge_t (nlt32 (by omega) (Nat.le_refl _))) (by decide) rfl ?_
    refine XS.iload X9.here hexec rfl (hb hbytes d44) rfl ?_
    exact Steps.refl _)
  exact ⟨T9, some (.int (Int32.ofNat len)), _, _, _, X9, by simp, rfl, rfl, (fun h => by cases h), ⟨rfl, B9, p9.from hh0, f9⟩, fun fs hl => c11.trans (X9.ireturnOut hexec hret rfl (Or.inl rfl) (hb hbytes d46) hl)⟩
end Cmp5
namespace Cmp3
def yN : MethodName := ⟨"java/lang/StringUTF16", "compress", "([CII)[B"⟩
abbrev yB : ByteArray := jdk_52_method_16_code
theorem d0 : decode yB 0 = .ok (.iload_n 2, 1) := by decide +kernel
theorem d1 : decode yB 1 = .ok (.newarray .byte, 2) := by decide +kernel
theorem d3 : decode yB 3 = .ok (.astore_n 3, 1) := by decide +kernel
theorem d4 : decode yB 4 = .ok (.aload_n 0, 1) := by decide +kernel
theorem d5 : decode yB 5 = .ok (.iload_n 1, 1) := by decide +kernel
theorem d6 : decode yB 6 = .ok (.aload_n 3, 1) := by decide +kernel
theorem d7 : decode yB 7 = .ok (.iconst 0, 1) := by decide +kernel
theorem d8 : decode yB 8 = .ok (.iload_n 2, 1) := by decide +kernel
theorem d9 : decode yB 9 = .ok (.invokestatic 115, 3) := by decide +kernel
theorem d12 : decode yB 12 = .ok (.istore 4, 2) := by decide +kernel
theorem d14 : decode yB 14 = .ok (.iload 4, 2) := by decide +kernel
theorem d16 : decode yB 16 = .ok (.iload_n 2, 1) := by decide +kernel
theorem d17 : decode yB 17 = .ok (.if_icmp (.eq) 40, 3) := by decide +kernel
theorem d57 : decode yB 57 = .ok (.aload_n 3, 1) := by decide +kernel
theorem d58 : decode yB 58 = .ok (.areturn, 1) := by decide +kernel
def site : List Cond := [.arrayClass .byte, Cmp5.tab] ++ staticW U16 115 Cmp5.yN
def tab : Cond := tabOf yN yB 6 (some (.array .byte)) site
def P (b : Addr) (A : Cell) (o len : Nat) (args : Array Value) (s : State) : Prop := args = #[.ref b, .int (Int32.ofNat o), .int (Int32.ofNat len)] ∧ Ch b A s ∧ o + len ≤ A.slots.size ∧ len ≤ 536870912 ∧ ∀ i, i < len → ¬ 255 < cv A (o + i)
def E (b : Addr) (A : Cell) (o len : Nat) (r : Option Value) (s u : State) : Prop := NewArr .byte "[B" len (fun j => .int (lo8 (cv A (o + j)))) r s u ∧ u.heap.size = s.heap.size + 1
/-- no char of the range above 255: a new byte[] of their low bytes -/
theorem law (l : Launch) (b : Addr) (A : Cell) (o len : Nat) : Law l yN 3 3 1 18 yB 6 (some (.array .byte)) site (P b A o len) (E b A o len) [] 1 len := by
  refine Law.of_walk (plainFor_of_name (by decide +kernel)) (by decide +kernel) (by decide +kernel) (by decide) (fun _ _ h => by rw [h.1]; rfl) (fun _ U U' hal hh h => ⟨h.1, h.2.1.mv hal hh, h.2.2⟩) (fun r U U' V V' h1 hal h2 h => ⟨NewArr.mv r U U' V V' h1 hal h2 h.1, by rw [h1, h2]; exact h.2⟩) ?_
  intro p e s m args below meth c s₁ X0 hexec hbytes hml hret hlk hnm hown hh0 W hP
  obtain ⟨rfl, hA, l1, l2, hp⟩ := hP
  have a31 := hA.1.2.2.2
  have c1 : Steps p.tables e below (s₁.setTop (entryFrame m #[.ref b, .int (Int32.ofNat o), .int (Int32.ofNat len)] 6)) (s₁.setTop (mkF m 0 #[.val (.ref b), .val (.int (Int32.ofNat o)), .val (.int (Int32.ofNat len)), .unset, .unset, .unset] [])) := entry rfl
  have c2 : Steps p.tables e below (s₁.setTop (entryFrame m #[.ref b, .int (Int32.ofNat o), .int (Int32.ofNat len)] 6)) (s₁.setTop (mkF m 1 #[.val (.ref b), .val (.int (Int32.ofNat o)), .val (.int (Int32.ofNat len)), .unset, .unset, .unset] [.int (Int32.ofNat len)])) := c1.trans (by
    refine XS.iloadN X0.here hexec rfl (hb hbytes d0) rfl ?_
    exact Steps.refl _)
  obtain ⟨T3, B3, X3, ba3, bs3, bv3, bh3, bf3, st3⟩ := X0.anew hexec (atype := .byte) (wk W (.arrayClass .byte)) rfl (by show len * 1 ≤ _; omega) (by omega) (g := (mkF m 1 #[.val (.ref b), .val (.int (Int32.ofNat o)), .val (.int (Int32.ofNat len)), .unset, .unset, .unset] [.int (Int32.ofNat len)])) rfl (hb hbytes d1) (rest := []) rfl (Nat.le_refl _) (by show 0 + len ≤ len; omega)
  rw [hh0] at ba3 st3
  have kp3 : XT.Kept s T3 := (XT.Kept.of_eq hh0).push bh3
  have hA3 := hA.keep X3.warmed.alike (kp3 _ _ hA.1.1)
  have hne : b ≠ s.heap.size := hA.1.ne
  have c4 : Steps p.tables e below (s₁.setTop (entryFrame m #[.ref b, .int (Int32.ofNat o), .int (Int32.ofNat len)] 6)) (T3.setTop (mkF m 3 #[.val (.ref b), .val (.int (Int32.ofNat o)), .val (.int (Int32.ofNat len)), .unset, .unset, .unset] [.ref s.heap.size])) := c2.trans (st3 _ (Steps.refl _))
  have c5 : Steps p.tables e below (s₁.setTop (entryFrame m #[.ref b, .int (Int32.ofNat o), .int (Int32.ofNat len)] 6)) (T3.setTop (mkF m 9 #[.val (.ref b), .val (.int (Int32.ofNat o)), .val (.int (Int32.ofNat len)), .val (.ref s.heap.size), .unset, .unset] [.int (Int32.ofNat len), .int 0, .ref s.heap.size, .int (Int32.ofNat o), .ref b])) := c4.trans (by
    refine XS.astoreN X3.here hexec rfl (hb hbytes d3) rfl rfl rfl ?_
    refine XS.aloadN X3.here hexec rfl (hb hbytes d4) rfl rfl ?_
    refine XS.iloadN X3.here hexec rfl (hb hbytes d5) rfl ?_
    refine XS.aloadN X3.here hexec rfl (hb hbytes d6) rfl rfl ?_
    refine iconstV X3.here hexec rfl 0 (hb hbytes d7) (by decide) ?_
    refine XS.iloadN X3.here hexec rfl (hb hbytes d8) rfl ?_
    exact Steps.refl _)
  obtain ⟨v6, T6, X6, E6, g6⟩ := X3.callS hexec (Cmp5.law l b A s.heap.size B3 o 0 len) hown (wks W (staticW U16 115 Cmp5.yN)) (wk W Cmp5.tab) (W := 0) (Nat.le_of_ble_eq_true rfl) (Nat.le_of_ble_eq_true rfl) (Nat.le_refl _) (by show 0 + len + 0 ≤ len; omega) (g := (mkF m 9 #[.val (.ref b), .val (.int (Int32.ofNat o)), .val (.int (Int32.ofNat len)), .val (.ref s.heap.size), .unset, .unset] [.int (Int32.ofNat len), .int (Int32.ofNat 0), .ref s.heap.size, .int (Int32.ofNat o), .ref b])) rfl (by rw [hml]; rfl) c5 (argsL := [.ref b, .int (Int32.ofNat o), .ref s.heap.size, .int (Int32.ofNat 0), .int (Int32.ofNat len)]) (rest := []) rfl rfl (by show 2 * 0 + 0 ≤ _; decide) (hb hbytes d9) (⟨rfl, hA3, ba3, hne, l1, by rw [bs3]; simp, hp⟩)
  obtain ⟨rfl, B6, p6, f6⟩ := E6
  have c7 : Steps p.tables e below (s₁.setTop (entryFrame m #[.ref b, .int (Int32.ofNat o), .int (Int32.ofNat len)] 6)) (T6.setTop (mkF m 12 #[.val (.ref b), .val (.int (Int32.ofNat o)), .val (.int (Int32.ofNat len)), .val (.ref s.heap.size), .unset, .unset] [.int (Int32.ofNat len)])) := g6
  have c8 : Steps p.tables e below (s₁.setTop (entryFrame m #[.ref b, .int (Int32.ofNat o), .int (Int32.ofNat len)] 6)) (T6.setTop (mkF m 58 #[.val (.ref b), .val (.int (Int32.ofNat o)), .val (.int (Int32.ofNat len)), .val (.ref s.heap.size), .val (.int (Int32.ofNat len)), .unset] [.ref s.heap.size])) := c7.trans (by
    refine XS.istore X6.here hexec rfl (hb hbytes d12) rfl rfl ?_
    refine XS.iload X6.here hexec rfl (hb hbytes d14) rfl ?_
    refine XS.iloadN X6.here hexec rfl (hb hbytes d16) rfl ?_
    refine XS.icmpYes X6.here hexec rfl (pc0 := 17) rfl (hb hbytes d17) rfl (ii_eq_t rfl) (by decide) rfl ?_
    refine XS.aloadN X6.here hexec rfl (hb hbytes d57) rfl rfl ?_
    exact Steps.refl _)
  have X8 := X6.wide (L' := []) (cells' := 1) (slots' := len) (fun x hx hlt => by
    simp only [List.nil_append, copyLocs, List.mem_map, List.mem_range] at hx
    obtain ⟨i, -, rfl⟩ := hx
    exact absurd hlt (Nat.lt_irrefl _)) (Nat.le_refl _) (by omega)
  exact ⟨T6, some (.ref s.heap.size), _, _, _, X8, rfl, rfl, rfl, (fun h => by cases h), ⟨⟨rfl, B6, ba3.like (X3.warmed.alike.symm.trans X6.warmed.alike) p6.1 f6.1 f6.2.1 f6.2.2.1, f6.2.1.trans bv3, by rw [X6.warmed.alike.findClass, f6.1]; exact bf3, by rw [f6.2.2.1, bs3]; simp, fun j hj => by rw [f6.2.2.2 j, if_pos (by omega)]; rfl, kp3.put p6 (Nat.le_refl _)⟩, by rw [p6.2.2, bh3, hh0]; simp⟩, fun fs hl => c8.trans (X8.areturnOut hexec rfl hret rfl (hb hbytes d58) hl)⟩
end Cmp3
namespace CodL
def yN : MethodName := ⟨"java/lang/StringUTF16", "coderFromArrayLen", "([BI)B"⟩
abbrev yB : ByteArray := jdk_52_method_15_code
theorem d0 : decode yB 0 = .ok (.iload_n 1, 1) := by decide +kernel
theorem d1 : decode yB 1 = .ok (.aload_n 0, 1) := by decide +kernel
theorem d2 : decode yB 2 = .ok (.arraylength, 1) := by decide +kernel
theorem d3 : decode yB 3 = .ok (.isub, 1) := by decide +kernel
theorem d4 : decode yB 4 = .ok (.bipush 31, 2) := by decide +kernel
theorem d6 : decode yB 6 = .ok (.iushr, 1) := by decide +kernel
theorem d7 : decode yB 7 = .ok (.i2b, 1) := by decide +kernel
theorem d8 : decode yB 8 = .ok (.ireturn, 1) := by decide +kernel
def site : List Cond := []
def tab : Cond := tabOf yN yB 2 (some .byte) site
def P (d : Addr) (B : Cell) (args : Array Value) (s : State) : Prop := args = #[.ref d, .int (Int32.ofNat B.slots.size)] ∧ Arr .byte d B s
def E (r : Option Value) (s u : State) : Prop := XT.PureE (some (.int 0)) r s u
/-- an array as long as the number of chars: LATIN1 -/
theorem law (l : Launch) (d : Addr) (B : Cell) : Law l yN 2 2 0 0 yB 2 (some .byte) site (P d B) E [] 0 0 := by
  refine Law.of_walk (plainFor_of_name (by decide +kernel)) (by decide +kernel) (by decide +kernel) (by decide) (fun _ _ h => by rw [h.1]; rfl) (fun _ U U' hal hh h => ⟨h.1, h.2.mv hal hh⟩) (fun r U U' V V' h1 hal h2 h => XT.PureE.mv r U U' V V' h1 hal h2 h) ?_
  intro p e s m args below meth c s₁ X0 hexec hbytes hml hret hlk hnm hown hh0 W hP
  obtain ⟨rfl, hB⟩ := hP
  have hB0 := hB.mv X0.warmed.alike hh0
  have c1 : Steps p.tables e below (s₁.setTop (entryFrame m #[.ref d, .int (Int32.ofNat B.slots.size)] 2)) (s₁.setTop (mkF m 0 #[.val (.ref d), .val (.int (Int32.ofNat B.slots.size))] [])) := entry rfl
  have c2 : Steps p.tables e below (s₁.setTop (entryFrame m #[.ref d, .int (Int32.ofNat B.slots.size)] 2)) (s₁.setTop (mkF m 2 #[.val (.ref d), .val (.int (Int32.ofNat B.slots.size))] [.ref d, .int (Int32.ofNat B.slots.size)])) := c1.trans (by
    refine XS.iloadN X0.here hexec rfl (hb hbytes d0) rfl ?_
    refine XS.aloadN X0.here hexec rfl (hb hbytes d1) rfl rfl ?_
    exact Steps.refl _)
  have c3 : Steps p.tables e below (s₁.setTop (entryFrame m #[.ref d, .int (Int32.ofNat B.slots.size)] 2)) (s₁.setTop (mkF m 8 #[.val (.ref d), .val (.int (Int32.ofNat B.slots.size))] [.int (lo8 (ushr (Int32.ofNat B.slots.size - Int32.ofNat B.slots.size) 31))])) := c2.trans (by
    refine X0.alen hexec hB0 rfl rfl (hb hbytes d2) ?_
    refine XS.isub X0.here hexec rfl (hb hbytes d3) rfl ?_
    refine bipushV X0.here hexec rfl 31 (hb hbytes d4) (by decide) ?_
    refine iushr X0.here hexec rfl (hb hbytes d6) rfl ?_
    refine i2b X0.here hexec rfl (hb hbytes d7) rfl ?_
    exact Steps.refl _)
  have e0 : lo8 (ushr (Int32.ofNat B.slots.size - Int32.ofNat B.slots.size) 31) = 0 := by rw [Int32.sub_self]; decide
  rw [e0] at c3
  exact ⟨s₁, some (.int 0), _, _, _, X0, rfl, rfl, rfl, (fun h => by cases h), ⟨rfl, hh0⟩, fun fs hl => c3.trans (X0.ireturnOut hexec hret rfl (Or.inr (Or.inr (Or.inl rfl))) (hb hbytes d8) hl)⟩
end CodL
/-- the String at a is Latin-1 over a new byte[] (the heap's one new cell): the low bytes of the len chars of A from o on; every cell but a is kept -/
def Got (a : Addr) (D : Cell) (fV fC : Field) (A : Cell) (o len : Nat) (r : Option Value) (s u : State) : Prop := r = none ∧ ∃ D' V : Cell, Blank "java/lang/String" a D' u ∧ Same D D' [fV.slot, fC.slot] ∧ D'.slots[fV.slot]? = some (.ref s.heap.size) ∧ D'.slots[fC.slot]? = some (.int 0) ∧ Arr .byte s.heap.size V u ∧ V.vm = .none ∧ u.vm.findClass "[B" = some V.cls ∧ V.slots.size = len ∧ (∀ j, j < len → V.slots[j]? = some (.int (lo8 (cv A (o + j))))) ∧ (∀ (y : Addr) (c : Cell), y ≠ a → s.heap[y]? = some c → u.heap[y]? = some c) ∧ u.heap.size = s.heap.size + 1
theorem Got.mv {a : Addr} {D A : Cell} {fV fC : Field} {o len : Nat} : ∀ r (U U' V V' : State), U'.heap = U.heap → V.vm.Alike V'.vm → V'.heap = V.heap → Got a D fV fC A o len r U V → Got a D fV fC A o len r U' V' :=
  fun r U U' V V' h1 hal h2 ⟨e0, D', X, a1, a2, a3, a4, a5, a6, a7, a8, a9, a10, a11⟩ => ⟨e0, D', X, a1.mv hal h2, a2, by rw [h1]; exact a3, a4, by rw [h1]; exact a5.mv hal h2, a6, by rw [hal.findClass]; exact a7, a8, a9, by rw [h1, h2]; exact a10, by rw [h1, h2]; exact a11⟩
namespace New4
def yN : MethodName := ⟨"java/lang/String", "<init>", "([CIILjava/lang/Void;)V"⟩
abbrev yB : ByteArray := jdk_42_method_149_code
theorem d0 : decode yB 0 = .ok (.aload_n 0, 1) := by decide +kernel
theorem d1 : decode yB 1 = .ok (.invokespecial 1, 3) := by decide +kernel
theorem d4 : decode yB 4 = .ok (.iload_n 3, 1) := by decide +kernel
theorem d5 : decode yB 5 = .ok (.ifCond (.ne) 22, 3) := by decide +kernel
theorem d27 : decode yB 27 = .ok (.getstatic 38, 3) := by decide +kernel
theorem d30 : decode yB 30 = .ok (.ifCond (.eq) 28, 3) := by decide +kernel
theorem d33 : decode yB 33 = .ok (.aload_n 1, 1) := by decide +kernel
theorem d34 : decode yB 34 = .ok (.iload_n 2, 1) := by decide +kernel
theorem d35 : decode yB 35 = .ok (.iload_n 3, 1) := by decide +kernel
theorem d36 : decode yB 36 = .ok (.invokestatic 177, 3) := by decide +kernel
theorem d39 : decode yB 39 = .ok (.astore 5, 2) := by decide +kernel
theorem d41 : decode yB 41 = .ok (.aload_n 0, 1) := by decide +kernel
theorem d42 : decode yB 42 = .ok (.aload 5, 2) := by decide +kernel
theorem d44 : decode yB 44 = .ok (.iload_n 3, 1) := by decide +kernel
theorem d45 : decode yB 45 = .ok (.invokestatic 47, 3) := by decide +kernel
theorem d48 : decode yB 48 = .ok (.putfield 15, 3) := by decide +kernel
theorem d51 : decode yB 51 = .ok (.aload_n 0, 1) := by decide +kernel
theorem d52 : decode yB 52 = .ok (.aload 5, 2) := by decide +kernel
theorem d54 : decode yB 54 = .ok (.putfield 9, 3) := by decide +kernel
theorem d57 : decode yB 57 = .ok (.return_, 1) := by decide +kernel
def site : List Cond := [.fieldLink "java/lang/String" 38 "java/lang/String" "COMPACT_STRINGS" "Z", Cmp3.tab, CodL.tab, .laysFinal "java/lang/String" "java/lang/String" "value" "[B", .fieldLink "java/lang/String" 9 "java/lang/String" "value" "[B", .laysFinal "java/lang/String" "java/lang/String" "coder" "B", .fieldLink "java/lang/String" 15 "java/lang/String" "coder" "B"] ++ objW "java/lang/String" 1 ++ staticW "java/lang/String" 177 Cmp3.yN ++ staticW "java/lang/String" 47 CodL.yN
def tab : Cond := tabOf yN yB 6 none site
def P (a : Addr) (D : Cell) (fV fC : Field) (b : Addr) (A : Cell) (z : Int32) (o len : Nat) (args : Array Value) (s : State) : Prop := args = #[.ref a, .ref b, .int (Int32.ofNat o), .int (Int32.ofNat len), .null] ∧ Blank "java/lang/String" a D s ∧ Found "java/lang/String" "value" "[B" fV s ∧ Found "java/lang/String" "coder" "B" fC s ∧ Ch b A s ∧ StaticIs s "java/lang/String" "COMPACT_STRINGS" "Z" (.int z) ∧ ¬ z = 0 ∧ 0 < len ∧ o + len ≤ A.slots.size ∧ len ≤ 536870912 ∧ ∀ i, i < len → ¬ 255 < cv A (o + i)
def E (a : Addr) (D : Cell) (fV fC : Field) (A : Cell) (o len : Nat) (r : Option Value) (s u : State) : Prop := Got a D fV fC A o len r s u
/-- len > 0, no char of the range above 255: a Latin-1 String of their low bytes -/
theorem law (l : Launch) (a : Addr) (D : Cell) (fV fC : Field) (b : Addr) (A : Cell) (z : Int32) (o len : Nat) : Law l yN 5 4 2 35 yB 6 none site (P a D fV fC b A z o len) (E a D fV fC A o len) [⟨a, fC.slot⟩, ⟨a, fV.slot⟩] 1 len := by
  refine Law.of_walk (plainFor_of_name (by decide +kernel)) (by decide +kernel) (by decide +kernel) (by decide) (fun _ _ h => by rw [h.1]; rfl) (fun _ U U' hal hh h => ⟨h.1, h.2.1.mv hal hh, h.2.2.1.al hal, h.2.2.2.1.al hal, h.2.2.2.2.1.mv hal hh, h.2.2.2.2.2.1.there hal hh, h.2.2.2.2.2.2⟩) (fun r U U' V V' h1 hal h2 h => Got.mv r U U' V V' h1 hal h2 h) ?_
  intro p e s m args below meth c s₁ X0 hexec hbytes hml hret hlk hnm hown hh0 W hP
  obtain ⟨rfl, hB, f1, f2, hA, s1, hz, l0, l1, l2, hp⟩ := hP
  have a31 := hA.1.2.2.2
  have c1 : Steps p.tables e below (s₁.setTop (entryFrame m #[.ref a, .ref b, .int (Int32.ofNat o), .int (Int32.ofNat len), .null] 6)) (s₁.setTop (mkF m 0 #[.val (.ref a), .val (.ref b), .val (.int (Int32.ofNat o)), .val (.int (Int32.ofNat len)), .val .null, .unset] [])) := entry rfl
  have c2 : Steps p.tables e below (s₁.setTop (entryFrame m #[.ref a, .ref b, .int (Int32.ofNat o), .int (Int32.ofNat len), .null] 6)) (s₁.setTop (mkF m 1 #[.val (.ref a), .val (.ref b), .val (.int (Int32.ofNat o)), .val (.int (Int32.ofNat len)), .val .null, .unset] [.ref a])) := c1.trans (by
    refine XS.aloadN X0.here hexec rfl (hb hbytes d0) rfl rfl ?_
    exact Steps.refl _)
  obtain ⟨T3, X3, q3, st3⟩ := X0.oinit hexec hown (wks W (objW "java/lang/String" 1)) (g := (mkF m 1 #[.val (.ref a), .val (.ref b), .val (.int (Int32.ofNat o)), .val (.int (Int32.ofNat len)), .val .null, .unset] [.ref a])) rfl (by rw [hml]; rfl) (rest := []) rfl (hb hbytes d1) (W := 0) (by show 2 * 0 + 0 ≤ _; decide) (Nat.le_of_ble_eq_true rfl) (Nat.le_of_ble_eq_true rfl)
  have hh3 := q3.trans hh0
  have c4 : Steps p.tables e below (s₁.setTop (entryFrame m #[.ref a, .ref b, .int (Int32.ofNat o), .int (Int32.ofNat len), .null] 6)) (T3.setTop (mkF m 27 #[.val (.ref a), .val (.ref b), .val (.int (Int32.ofNat o)), .val (.int (Int32.ofNat len)), .val .null, .unset] [])) := (c2.trans (st3 _ (Steps.refl _))).trans (by
    refine XS.iloadN X3.here hexec rfl (hb hbytes d4) rfl ?_
    refine XS.ifYes X3.here hexec rfl (pc0 := 5) rfl (hb hbytes d5) rfl (i0_ne_t (nz32 (by omega) l0)) (by decide) rfl ?_
    exact Steps.refl _)
  obtain ⟨T5, X5, q5, st5⟩ := X3.sget hexec hown (wk W (.fieldLink "java/lang/String" 38 "java/lang/String" "COMPACT_STRINGS" "Z")) s1 (fun _ _ h => by rw [hh3]; exact h) (g := (mkF m 27 #[.val (.ref a), .val (.ref b), .val (.int (Int32.ofNat o)), .val (.int (Int32.ofNat len)), .val .null, .unset] [])) rfl (hb hbytes d27)
  have hh5 := q5.trans hh3
  have c6 : Steps p.tables e below (s₁.setTop (entryFrame m #[.ref a, .ref b, .int (Int32.ofNat o), .int (Int32.ofNat len), .null] 6)) (T5.setTop (mkF m 30 #[.val (.ref a), .val (.ref b), .val (.int (Int32.ofNat o)), .val (.int (Int32.ofNat len)), .val .null, .unset] [.int z])) := c4.trans (st5 _ (Steps.refl _))
  have c7 : Steps p.tables e below (s₁.setTop (entryFrame m #[.ref a, .ref b, .int (Int32.ofNat o), .int (Int32.ofNat len), .null] 6)) (T5.setTop (mkF m 36 #[.val (.ref a), .val (.ref b), .val (.int (Int32.ofNat o)), .val (.int (Int32.ofNat len)), .val .null, .unset] [.int (Int32.ofNat len), .int (Int32.ofNat o), .ref b])) := c6.trans (by
    refine XS.ifNo X5.here hexec rfl (hb hbytes d30) rfl (i0_eq_f hz) ?_
    refine XS.aloadN X5.here hexec rfl (hb hbytes d33) rfl rfl ?_
    refine XS.iloadN X5.here hexec rfl (hb hbytes d34) rfl ?_
    refine XS.iloadN X5.here hexec rfl (hb hbytes d35) rfl ?_
    exact Steps.refl _)
  obtain ⟨v8, T8, X8, E8, g8⟩ := X5.callS hexec (Cmp3.law l b A o len) hown (wks W (staticW "java/lang/String" 177 Cmp3.yN)) (wk W Cmp3.tab) (W := 0) (Nat.le_of_ble_eq_true rfl) (Nat.le_of_ble_eq_true rfl) (Nat.le_refl _) (by show 0 + len ≤ len; omega) (g := (mkF m 36 #[.val (.ref a), .val (.ref b), .val (.int (Int32.ofNat o)), .val (.int (Int32.ofNat len)), .val .null, .unset] [.int (Int32.ofNat len), .int (Int32.ofNat o), .ref b])) rfl (by rw [hml]; rfl) c7 (argsL := [.ref b, .int (Int32.ofNat o), .int (Int32.ofNat len)]) (rest := []) rfl rfl (by show 2 * 0 + 0 ≤ _; decide) (hb hbytes d36) (⟨rfl, hA.mv X5.warmed.alike hh5, l1, l2, hp⟩)
  obtain ⟨e8, z8⟩ := E8
  obtain ⟨rfl, N, n1, n2, n3, n4, n5, n6⟩ := NewArr.mv _ T5 s _ _ hh5.symm (Vm.Alike.refl _) rfl e8
  rw [hh5] at z8
  have hB1 := hB.keep X8.warmed.alike (n6 _ _ hB.1)
  have hne : s.heap.size ≠ a := (Nat.ne_of_lt (Array.getElem?_eq_some_iff.mp hB.1).1).symm
  have c9 : Steps p.tables e below (s₁.setTop (entryFrame m #[.ref a, .ref b, .int (Int32.ofNat o), .int (Int32.ofNat len), .null] 6)) (T8.setTop (mkF m 39 #[.val (.ref a), .val (.ref b), .val (.int (Int32.ofNat o)), .val (.int (Int32.ofNat len)), .val .null, .unset] [.ref s.heap.size])) := g8
  have c10 : Steps p.tables e below (s₁.setTop (entryFrame m #[.ref a, .ref b, .int (Int32.ofNat o), .int (Int32.ofNat len), .null] 6)) (T8.setTop (mkF m 45 #[.val (.ref a), .val (.ref b), .val (.int (Int32.ofNat o)), .val (.int (Int32.ofNat len)), .val .null, .val (.ref s.heap.size)] [.int (Int32.ofNat N.slots.size), .ref s.heap.size, .ref a])) := by
    have hc : Steps p.tables e below (s₁.setTop (entryFrame m #[.ref a, .ref b, .int (Int32.ofNat o), .int (Int32.ofNat len), .null] 6)) (T8.setTop (mkF m 45 #[.val (.ref a), .val (.ref b), .val (.int (Int32.ofNat o)), .val (.int (Int32.ofNat len)), .val .null, .val (.ref s.heap.size)] [.int (Int32.ofNat len), .ref s.heap.size, .ref a])) := c9.trans (by
      refine XS.astore X8.here hexec rfl (hb hbytes d39) rfl rfl rfl ?_
      refine XS.aloadN X8.here hexec rfl (hb hbytes d41) rfl rfl ?_
      refine XS.aload X8.here hexec rfl (hb hbytes d42) rfl rfl ?_
      refine XS.iloadN X8.here hexec rfl (hb hbytes d44) rfl ?_
      exact Steps.refl _)
    rw [n4]; exact hc
  obtain ⟨v11, T11, X11, E11, g11⟩ := X8.callS hexec (CodL.law l s.heap.size N) hown (wks W (staticW "java/lang/String" 47 CodL.yN)) (wk W CodL.tab) (W := 1) (Nat.le_of_ble_eq_true rfl) (Nat.le_of_ble_eq_true rfl) (Nat.le_refl _) (by show 0 + len + 0 ≤ len; omega) (g := (mkF m 45 #[.val (.ref a), .val (.ref b), .val (.int (Int32.ofNat o)), .val (.int (Int32.ofNat len)), .val .null, .val (.ref s.heap.size)] [.int (Int32.ofNat N.slots.size), .ref s.heap.size, .ref a])) rfl (by rw [hml]; rfl) c10 (argsL := [.ref s.heap.size, .int (Int32.ofNat N.slots.size)]) (rest := [.ref a]) rfl rfl (by show 2 * 0 + (1 + 0) ≤ _; decide) (hb hbytes d45) (⟨rfl, n1⟩)
  obtain ⟨rfl, q11⟩ := E11
  have hB11 := hB1.mv (X8.warmed.alike.symm.trans X11.warmed.alike) q11
  have c12 : Steps p.tables e below (s₁.setTop (entryFrame m #[.ref a, .ref b, .int (Int32.ofNat o), .int (Int32.ofNat len), .null] 6)) (T11.setTop (mkF m 48 #[.val (.ref a), .val (.ref b), .val (.int (Int32.ofNat o)), .val (.int (Int32.ofNat len)), .val .null, .val (.ref s.heap.size)] [.int 0, .ref a])) := g11
  obtain ⟨T13, X13, p13, bl13, sl13, st13⟩ := X11.finit hexec hown (wk W (.fieldLink "java/lang/String" 15 "java/lang/String" "coder" "B")) (Or.inr ⟨_, (wk W (.laysFinal "java/lang/String" "java/lang/String" "coder" "B"))⟩) (Or.inl ⟨rfl, hnm⟩) f2 (Or.inl rfl) hB11 (t := .byte) (by decide +kernel) rfl (g := (mkF m 48 #[.val (.ref a), .val (.ref b), .val (.int (Int32.ofNat o)), .val (.int (Int32.ofNat len)), .val .null, .val (.ref s.heap.size)] [.int 0, .ref a])) rfl (rest := []) rfl (hb hbytes d48)
  have c14 : Steps p.tables e below (s₁.setTop (entryFrame m #[.ref a, .ref b, .int (Int32.ofNat o), .int (Int32.ofNat len), .null] 6)) (T13.setTop (mkF m 54 #[.val (.ref a), .val (.ref b), .val (.int (Int32.ofNat o)), .val (.int (Int32.ofNat len)), .val .null, .val (.ref s.heap.size)] [.ref s.heap.size, .ref a])) := (c12.trans (st13 _ (Steps.refl _))).trans (by
    refine XS.aloadN X13.here hexec rfl (hb hbytes d51) rfl rfl ?_
    refine XS.aload X13.here hexec rfl (hb hbytes d52) rfl rfl ?_
    exact Steps.refl _)
  obtain ⟨T15, X15, p15, bl15, sl15, st15⟩ := X13.finit hexec hown (wk W (.fieldLink "java/lang/String" 9 "java/lang/String" "value" "[B")) (Or.inr ⟨_, (wk W (.laysFinal "java/lang/String" "java/lang/String" "value" "[B"))⟩) (Or.inl ⟨rfl, hnm⟩) f1 (Or.inl rfl) bl13 (t := (.array .byte)) (by decide +kernel) rfl (g := (mkF m 54 #[.val (.ref a), .val (.ref b), .val (.int (Int32.ofNat o)), .val (.int (Int32.ofNat len)), .val .null, .val (.ref s.heap.size)] [.ref s.heap.size, .ref a])) rfl (rest := []) rfl (hb hbytes d54)
  have c16 : Steps p.tables e below (s₁.setTop (entryFrame m #[.ref a, .ref b, .int (Int32.ofNat o), .int (Int32.ofNat len), .null] 6)) (T15.setTop (mkF m 57 #[.val (.ref a), .val (.ref b), .val (.int (Int32.ofNat o)), .val (.int (Int32.ofNat len)), .val .null, .val (.ref s.heap.size)] [])) := c14.trans (st15 _ (Steps.refl _))
  have ap := apart (Or.inr ⟨_, (wk W (.laysFinal "java/lang/String" "java/lang/String" "value" "[B"))⟩) (Or.inr ⟨_, (wk W (.laysFinal "java/lang/String" "java/lang/String" "coder" "B"))⟩) f1 f2 (t₁ := .array .byte) (t₂ := .byte) (by decide +kernel) (by decide +kernel) (by decide)
  have al := X8.warmed.alike.symm.trans X15.warmed.alike
  have n7 : T11.heap[s.heap.size]? = some N := by rw [q11]; exact n1.1
  exact ⟨T15, none, _, _, _, X15, by simp, rfl, by omega, (fun _ => rfl), ⟨rfl, _, N, bl15, ((Same.refl D _).set _ (by simp)).set _ (by simp), sl15, (Cell.slots_setSlot_ne _ ap).trans sl13, n1.keep al (p15.other hne (p13.other hne n7)), n2, by rw [al.findClass]; exact n3, n4, n5, fun y c h1 h2 => p15.other h1 (p13.other h1 (by rw [q11]; exact n6 y c h2)), by rw [p15.2.2, p13.2.2, q11]; exact z8⟩, fun fs hl => c16.trans (X15.returnOut hexec hret (hb hbytes d57) hl)⟩
end New4
namespace New1
def yN : MethodName := ⟨"java/lang/String", "<init>", "([C)V"⟩
abbrev yB : ByteArray := jdk_42_method_3_code
theorem d0 : decode yB 0 = .ok (.aload_n 0, 1) := by decide +kernel
theorem d1 : decode yB 1 = .ok (.aload_n 1, 1) := by decide +kernel
theorem d2 : decode yB 2 = .ok (.iconst 0, 1) := by decide +kernel
theorem d3 : decode yB 3 = .ok (.aload_n 1, 1) := by decide +kernel
theorem d4 : decode yB 4 = .ok (.arraylength, 1) := by decide +kernel
theorem d5 : decode yB 5 = .ok (.aconst_null, 1) := by decide +kernel
theorem d6 : decode yB 6 = .ok (.invokespecial 27, 3) := by decide +kernel
theorem d9 : decode yB 9 = .ok (.return_, 1) := by decide +kernel
def site : List Cond := [New4.tab] ++ initW "java/lang/String" 27 New4.yN
def tab : Cond := tabOf yN yB 2 none site
def P (a : Addr) (D : Cell) (fV fC : Field) (b : Addr) (A : Cell) (z : Int32) (args : Array Value) (s : State) : Prop := args = #[.ref a, .ref b] ∧ Blank "java/lang/String" a D s ∧ Found "java/lang/String" "value" "[B" fV s ∧ Found "java/lang/String" "coder" "B" fC s ∧ Ch b A s ∧ StaticIs s "java/lang/String" "COMPACT_STRINGS" "Z" (.int z) ∧ ¬ z = 0 ∧ 0 < A.slots.size ∧ A.slots.size ≤ 536870912 ∧ ∀ i, i < A.slots.size → ¬ 255 < cv A i
def E (a : Addr) (D : Cell) (fV fC : Field) (A : Cell) (r : Option Value) (s u : State) : Prop := Got a D fV fC A 0 A.slots.size r s u
/-- new String(chars), not empty, no char above 255: a Latin-1 String of their low bytes -/
theorem law (l : Launch) (a : Addr) (D : Cell) (fV fC : Field) (b : Addr) (A : Cell) (z : Int32) : Law l yN 2 1 3 52 yB 2 none site (P a D fV fC b A z) (E a D fV fC A) [⟨a, fC.slot⟩, ⟨a, fV.slot⟩] 1 A.slots.size := by
  refine Law.of_walk (plainFor_of_name (by decide +kernel)) (by decide +kernel) (by decide +kernel) (by decide) (fun _ _ h => by rw [h.1]; rfl) (fun _ U U' hal hh h => ⟨h.1, h.2.1.mv hal hh, h.2.2.1.al hal, h.2.2.2.1.al hal, h.2.2.2.2.1.mv hal hh, h.2.2.2.2.2.1.there hal hh, h.2.2.2.2.2.2⟩) (fun r U U' V V' h1 hal h2 h => Got.mv r U U' V V' h1 hal h2 h) ?_
  intro p e s m args below meth c s₁ X0 hexec hbytes hml hret hlk hnm hown hh0 W hP
  obtain ⟨rfl, hB, f1, f2, hA, s1, hz, l0, l2, hp⟩ := hP
  have c1 : Steps p.tables e below (s₁.setTop (entryFrame m #[.ref a, .ref b] 2)) (s₁.setTop (mkF m 0 #[.val (.ref a), .val (.ref b)] [])) := entry rfl
  have c2 : Steps p.tables e below (s₁.setTop (entryFrame m #[.ref a, .ref b] 2)) (s₁.setTop (mkF m 6 #[.val (.ref a), .val (.ref b)] [.null, .int (Int32.ofNat A.slots.size), .int 0, .ref b, .ref a])) := c1.trans (by
    refine XS.aloadN X0.here hexec rfl (hb hbytes d0) rfl rfl ?_
    refine XS.aloadN X0.here hexec rfl (hb hbytes d1) rfl rfl ?_
    refine iconstV X0.here hexec rfl 0 (hb hbytes d2) (by decide) ?_
    refine XS.aloadN X0.here hexec rfl (hb hbytes d3) rfl rfl ?_
    refine X0.alen hexec (hA.1.mv X0.warmed.alike hh0) rfl rfl (hb hbytes d4) ?_
    refine XS.aconstNull X0.here hexec rfl (hb hbytes d5) ?_
    exact Steps.refl _)
  obtain ⟨v3, T3, X3, E3, g3⟩ := X0.callN hexec (New4.law l a D fV fC b A z 0 A.slots.size) rfl hown (wks W (initW "java/lang/String" 27 New4.yN)) (W New4.tab (by simp only [site, List.mem_cons, List.mem_append, true_or, or_true])) (W := 0) (Nat.le_of_ble_eq_true rfl) (Nat.le_of_ble_eq_true rfl) (Nat.le_refl _) (by show 0 + A.slots.size ≤ A.slots.size; omega) (g := (mkF m 6 #[.val (.ref a), .val (.ref b)] [.null, .int (Int32.ofNat A.slots.size), .int (Int32.ofNat 0), .ref b, .ref a])) rfl (by rw [hml]; rfl) c2 (argsL := [.ref b, .int (Int32.ofNat 0), .int (Int32.ofNat A.slots.size), .null]) (rest := []) rfl rfl (by show 2 * 0 + 0 ≤ _; decide) (hb hbytes d6) (⟨rfl, hB.mv X0.warmed.alike hh0, f1.al X0.warmed.alike, f2.al X0.warmed.alike, hA.mv X0.warmed.alike hh0, s1.there X0.warmed.alike hh0, hz, l0, by omega, l2, fun i hi => by rw [Nat.zero_add]; exact hp i hi⟩)
  have e0 := Got.mv _ s₁ s _ _ hh0.symm (Vm.Alike.refl _) rfl E3
  obtain rfl := e0.1
  have c4 : Steps p.tables e below (s₁.setTop (entryFrame m #[.ref a, .ref b] 2)) (T3.setTop (mkF m 9 #[.val (.ref a), .val (.ref b)] [])) := g3
  exact ⟨T3, none, _, _, _, X3, by simp, rfl, by omega, (fun _ => rfl), e0, fun fs hl => c4.trans (X3.returnOut hexec hret (hb hbytes d9) hl)⟩
theorem pays {l : Launch} {R : Room} {p : Program} {e : Env} {below : List Frame} {s : State} {sargs : Array Value} {len W : Nat} (a : Addr) (D : Cell) (fV fC : Field) (b : Addr) (A : Cell) (z : Int32) (htab : tab.before sargs s = true) (hfr : 4 ≤ R.frames) (hlo : W + 65 ≤ R.locals) :
    Back l R p e below s sargs yN len W (fun A₁ a₁ => A₁.cells + 1 ≤ R.cells ∧ A₁.slots + A.slots.size ≤ R.slots ∧ P a D fV fC b A z a₁ A₁.U) (fun A₁ _ v₁ B₁ => E a D fV fC A v₁ A₁.U B₁.U ∧ B₁.locs = A₁.locs ++ [⟨a, fC.slot⟩, ⟨a, fV.slot⟩] ∧ B₁.cells = A₁.cells + 1 ∧ B₁.slots = A₁.slots + A.slots.size) :=
  (law l a D fV fC b A z).pays htab hfr (by omega)
end New1
end StrChars
namespace StrChars.Road
open Jvm Sem ClassFile Op Lib Jvm.Stand Jvm.Free Jvm.Free.XT
open Jvm.Lib.Cold (StaticIs)
abbrev ST : String := "java/lang/String"
/-- every table word that New1's law asks, flat -/
abbrev words : List Jvm.Cond := [.code New1.yN New1.yB 2 none, .initialized ST, .methodLink ST 27 New4.yN, .instanceMethod New4.yN,
  .code New4.yN New4.yB 6 none, .fieldLink ST 38 ST "COMPACT_STRINGS" "Z", .laysFinal ST ST "value" "[B", .fieldLink ST 9 ST "value" "[B", .laysFinal ST ST "coder" "B", .fieldLink ST 15 ST "coder" "B",
  .methodLink ST 1 Lib.objectInit, .instanceMethod Lib.objectInit, .code Lib.objectInit ⟨#[0xb1]⟩ 1 none, .methodLink ST 177 Cmp3.yN, .static Cmp3.yN, .methodLink ST 47 CodL.yN, .static CodL.yN,
  .code Cmp3.yN Cmp3.yB 6 (some (.array .byte)), .initialized U16, .arrayClass .byte, .methodLink U16 115 Cmp5.yN, .static Cmp5.yN, .code Cmp5.yN Cmp5.yB 7 (some .int), .code CodL.yN CodL.yB 2 (some .byte)]
theorem tab_of {a : Array Value} {s : State} (h : ∀ w ∈ words, w.before a s = true) : New1.tab.before a s = true := by
  have h5 : Cmp5.tab.before a s = true := unparts (wk h (.code Cmp5.yN Cmp5.yB 7 (some .int))) (wks h (.initialized Cmp5.yN.cls :: Cmp5.site))
  have hc : CodL.tab.before a s = true := unparts (wk h (.code CodL.yN CodL.yB 2 (some .byte))) (wks h (.initialized CodL.yN.cls :: CodL.site))
  have q5 : ∀ w ∈ Cmp5.tab :: words, w.before a s = true := fun w hw => (List.mem_cons.mp hw).elim (fun e => e ▸ h5) (h w)
  have h3 : Cmp3.tab.before a s = true := unparts (wk q5 (.code Cmp3.yN Cmp3.yB 6 (some (.array .byte)))) (wks q5 (.initialized Cmp3.yN.cls :: Cmp3.site))
  have q3 : ∀ w ∈ Cmp3.tab :: CodL.tab :: words, w.before a s = true := fun w hw => (List.mem_cons.mp hw).elim (fun e => e ▸ h3) fun hw => (List.mem_cons.mp hw).elim (fun e => e ▸ hc) (h w)
  have h4 : New4.tab.before a s = true := unparts (wk q3 (.code New4.yN New4.yB 6 none)) (wks q3 (.initialized New4.yN.cls :: New4.site))
  have q4 : ∀ w ∈ New4.tab :: words, w.before a s = true := fun w hw => (List.mem_cons.mp hw).elim (fun e => e ▸ h4) (h w)
  exact unparts (wk q4 (.code New1.yN New1.yB 2 none)) (wks q4 (.initialized New1.yN.cls :: New1.site))
/-- the words ride from the start Z to the walk's own state -/
theorem moved {Z s : State} {a0 args : Array Value} (hZ : Z.Warmed39 s.vm) (hw : ∀ d ∈ words, d.before a0 Z = true) : ∀ d ∈ words, d.before args s = true := fun d hd => by
  have q := hw d hd
  have t : ∀ d ∈ words, d = .arrayClass .byte ∨ (d.onTables && d.keepsFace) = true := by decide +kernel
  rcases t d hd with rfl | t
  · exact RoadKit.mvA hZ q
  · exact RoadKit.mv hZ q t
/-- WHAT COMES BACK, over the tables of the start Z: h the heap at the call, h' behind it -/
def Q (Z : State) (x : Addr) (A : Cell) (h : Heap) (v : Option Value) (h' : Heap) (L : List Loc) : Prop := v = none ∧ (∀ y ∈ L, y.base = x) ∧ RoadKit.Keep h h' [x] ∧ h'.size = h.size + 1 ∧ RoadKit.Exa Z h' x ST ∧ RoadKit.Fld Z h' x ST "value" "[B" (.ref h.size) ∧ RoadKit.Fld Z h' x ST "coder" "B" (.int 0) ∧
  (∃ V : Cell, RoadKit.Arr Z h' h.size V .byte ∧ V.vm = .none ∧ Z.vm.findClass "[B" = some V.cls ∧ V.slots.size = A.slots.size ∧ ∀ j, j < A.slots.size → V.slots[j]? = some (.int (lo8 (cv A j)))) ∧
  ∀ (O n d : String) (w : Value), RoadKit.Fld Z h x O n d w → RoadKit.slotOf Z O n d ≠ RoadKit.slotOf Z ST "value" "[B" → RoadKit.slotOf Z O n d ≠ RoadKit.slotOf Z ST "coder" "B" → RoadKit.Fld Z h' x O n d w
/-- **new String(chars) AT A CALL, IN THE ROAD'S FORM**: for specialBack behind newO: x the fresh String, b the char[] with the cell A -/
theorem back {p : Program} {l : Launch} {e : Env} {R : Room} {s : State} {args : Array Value} {below : List Frame} {len W : Nat} {Z : State} {a0 : Array Value} {h : Heap} (hZ : Z.Warmed39 s.vm) (hw : ∀ d ∈ words, d.before a0 Z = true) {kI : Nat} (wi : (Jvm.Cond.instantiable ST kI).before a0 Z = true)
    {x b : Addr} {A : Cell} {z : Int32} {v0 c0 : Value} (E : RoadKit.Exa Z h x ST) (V : RoadKit.Fld Z h x ST "value" "[B" v0) (C : RoadKit.Fld Z h x ST "coder" "B" c0) (K : RoadKit.Arr Z h b A .char) (hty : Typed .char A) (S : RoadKit.Sta Z h ST "COMPACT_STRINGS" "Z" (.int z)) (hz : ¬ z = 0)
    (l0 : 0 < A.slots.size) (l2 : A.slots.size ≤ 536870912) (hp : ∀ i, i < A.slots.size → ¬ 255 < cv A i) (hfr : 4 ≤ R.frames) (hlo : W + 65 ≤ R.locals) :
    Back l R p e below s args New1.yN len W (fun P a => a = #[.ref x, .ref b] ∧ P.U.heap = h ∧ P.cells + 1 ≤ R.cells ∧ P.slots + A.slots.size ≤ R.slots)
      (fun P _ v B => ∃ L, Q Z x A h v B.U.heap L ∧ B.locs = P.locs ++ L ∧ B.cells = P.cells + 1 ∧ B.slots = P.slots + A.slots.size) := by
  intro m meth c P g ig mk a X hg hsize hdg hW hn hp'
  obtain ⟨rfl, rfl, r1, r2⟩ := hp'
  have al : Z.vm.Alike P.U.vm := hZ.alike.trans X.warmed.alike
  obtain ⟨D, cfV, kV, iV, fV, hD, gV, stV, knV, obV, asV, slV⟩ := id V
  obtain ⟨D', cfC, kC, iC, fC, hD', gC, stC, -, -, asC, slC⟩ := id C
  cases hD.symm.trans hD'
  obtain ⟨D2, kD, e1, e2, e3, e4, e5⟩ := id E
  cases hD.symm.trans e1
  obtain ⟨c2, k2, i1, i2, i3, -⟩ := Cond.instantiable_spec wi
  cases e2.symm.trans i1
  cases e3.symm.trans i2
  obtain ⟨kU, u1, u2⟩ := al.2.2 _ _ e3
  have hB : Blank ST x D P.U := ⟨hD, ⟨knV, fun q hq => by rw [hq] at obV; cases obV⟩, by rw [al.findClass]; exact e2, kU, u1, by rw [u2]; exact i3, by rw [u2]; exact e5 i3⟩
  have F1 : Found ST "value" "[B" fV P.U := ⟨SBG.found_only al ⟨cfV, kV, iV, gV⟩, stV⟩
  have F2 : Found ST "coder" "B" fC P.U := ⟨SBG.found_only al ⟨cfC, kC, iC, gC⟩, stC⟩
  have hA : Ch b A P.U := ⟨⟨K.1, State.isArrayOf_alike al K.2.1, K.2.2, by omega⟩, hty⟩
  have hS : StaticIs P.U ST "COMPACT_STRINGS" "Z" (.int z) := by
    obtain ⟨cfS, iS, kS, fS, st, cS, t1, t2, t3, t4, t5, t6, t7⟩ := S
    exact StaticIs.there (s := { Z with heap := P.U.heap }) ⟨cfS, iS, kS, fS, st, cS, t1, t2, t3, t4, t5, (fun q => by rw [q] at t6; cases t6), t7⟩ al rfl
  obtain ⟨v, B, X', ⟨⟨hv, E', V', q1, q2, q3, q4, q5, q6, q7, q8, q9, q10, q11⟩, hl, hc, hs⟩, st⟩ := New1.pays x D fV fC b A z (tab_of (moved hZ hw)) hfr hlo m meth c P g ig mk _ X hg hsize hdg hW hn ⟨r1, r2, rfl, hB, F1, F2, hA, hS, hz, l0, l2, hp⟩
  have al' : Z.vm.Alike B.U.vm := hZ.alike.trans X'.warmed.alike
  have hsz : E'.slots.size = D.slots.size := by
    obtain ⟨-, -, -, kB, w1, w2, w3⟩ := q1
    obtain ⟨kB', y1, y2⟩ := al'.2.2 _ _ e3
    rw [q2.2.1] at w1
    cases w1.symm.trans y1
    rw [w3, e5 i3, y2]
  refine ⟨v, B, X', ⟨_, ⟨hv, ?_, ⟨by omega, fun y cy hy hn' => q10 y cy (by simpa using hn') hy, fun y cy hy => ?_⟩, q11, ⟨E', _, q1.1, by rw [q2.2.1]; exact e2, by rw [q2.2.1]; exact e3, by rw [q2.1]; exact obV, fun _ => by rw [hsz]; exact e5 i3⟩,
    ⟨E', cfV, kV, iV, fV, q1.1, gV, stV, by rw [q2.1]; exact knV, by rw [q2.1]; exact obV, by rw [q2.2.1]; exact asV, q3⟩, ⟨E', cfC, kC, iC, fC, q1.1, gC, stC, by rw [q2.1]; exact knV, by rw [q2.1]; exact obV, by rw [q2.2.1]; exact asC, q4⟩,
    ⟨V', ⟨q5.1, State.isArrayOf_alike al'.symm q5.2.1, q5.2.2.1⟩, q6, by rw [← al'.findClass]; exact q7, q8, fun j hj => by have := q9 j hj; rwa [Nat.zero_add] at this⟩, fun O n d w F n1 n2 => ?_⟩, hl, hc, hs⟩, st⟩
  · intro y hy
    simp only [List.mem_cons, List.not_mem_nil, or_false] at hy
    rcases hy with rfl | rfl <;> rfl
  · by_cases q : y = x
    · subst q
      cases hD.symm.trans hy
      exact ⟨E', q1.1, q2.2.1, q2.1, hsz⟩
    · exact ⟨cy, q10 y cy q hy, rfl, rfl, rfl⟩
  · obtain ⟨D3, cf, k, i, f, g1, g2, g3, g4, g5, g6, g7⟩ := F
    cases hD.symm.trans g1
    simp only [RoadKit.slotOf, g2, gV, gC, Option.map_some, Option.getD_some] at n1 n2
    exact ⟨E', cf, k, i, f, q1.1, g2, g3, by rw [q2.1]; exact g4, by rw [q2.1]; exact g5, by rw [q2.2.1]; exact g6, by rw [q2.2.2 f.slot (by simp [n1, n2])]; exact g7⟩
end StrChars.Road
namespace StrChars.Road
open Jvm Sem ClassFile Op Lib Jvm.Stand Jvm.Free Jvm.Free.XT
/-- WHAT COMES BACK, the byte[] as a list of values -/
def QA (Z : State) (x : Addr) (zn : Int32) (cs : List Int32) (h : Heap) (v : Option Value) (h' : Heap) (L : List Loc) : Prop := v = none ∧ (∀ y ∈ L, y.base = x) ∧ RoadKit.Keep h h' [x] ∧ h'.size = h.size + 1 ∧ RoadKit.Exa Z h' x ST ∧ RoadKit.Fld Z h' x ST "value" "[B" (.ref h.size) ∧ RoadKit.Fld Z h' x ST "coder" "B" (.int 0) ∧
  (∃ kb, Z.vm.findClass "[B" = some kb ∧ RoadKit.Arv Z h' h.size kb .byte zn (cs.map fun c => .int (lo8 c)) (.int 0)) ∧
  ∀ (O n d : String) (w : Value), RoadKit.Fld Z h x O n d w → RoadKit.slotOf Z O n d ≠ RoadKit.slotOf Z ST "value" "[B" → RoadKit.slotOf Z O n d ≠ RoadKit.slotOf Z ST "coder" "B" → RoadKit.Fld Z h' x O n d w
/-- **new String(chars) AT A CALL, THE ARRAYS AS LISTS**: the char[] at b holds cs, not empty, no char above 255 -/
theorem backArv {p : Program} {l : Launch} {e : Env} {R : Room} {s : State} {args : Array Value} {below : List Frame} {len W : Nat} {Z : State} {a0 : Array Value} {h : Heap} (hZ : Z.Warmed39 s.vm) (hw : ∀ d ∈ words, d.before a0 Z = true) {kI : Nat} (wi : (Jvm.Cond.instantiable ST kI).before a0 Z = true)
    {x b : Addr} {k : ClassId} {zn z : Int32} {cs : List Int32} {dv v0 c0 : Value} (E : RoadKit.Exa Z h x ST) (V : RoadKit.Fld Z h x ST "value" "[B" v0) (C : RoadKit.Fld Z h x ST "coder" "B" c0) (K : RoadKit.Arv Z h b k .char zn (cs.map Value.int) dv) (S : RoadKit.Sta Z h ST "COMPACT_STRINGS" "Z" (.int z)) (hz : ¬ z = 0)
    (hlen : zn.toNatClampNeg = cs.length) (h0 : 0 < cs.length) (hbig : cs.length ≤ 536870912) (hall : ∀ c ∈ cs, ¬ 255 < c) (hfr : 4 ≤ R.frames) (hlo : W + 65 ≤ R.locals) :
    Back l R p e below s args New1.yN len W (fun P a => a = #[.ref x, .ref b] ∧ P.U.heap = h ∧ P.cells + 1 ≤ R.cells ∧ P.slots + cs.length ≤ R.slots)
      (fun P _ v B => ∃ L, QA Z x zn cs h v B.U.heap L ∧ B.locs = P.locs ++ L ∧ B.cells = P.cells + 1 ∧ B.slots = P.slots + cs.length) := by
  obtain ⟨A, K1, K2, K3, K4, K5, K6⟩ := K
  have e : A.slots.size = cs.length := K3.trans hlen
  have hat : ∀ (i : Nat) (hi : i < cs.length), A.slots[i]? = some (.int cs[i]) := fun i hi => by rw [K5 i (by omega)]; simp [List.getD_eq_getElem?_getD, hi]
  have hcv : ∀ (i : Nat) (hi : i < cs.length), cv A i = cs[i] := fun i hi => by unfold cv; rw [hat i hi]
  have hty : Typed .char A := fun i v hv => by
    have hi : i < A.slots.size := (Array.getElem?_eq_some_iff.mp hv).1
    have q := K5 i hi
    rw [hv] at q
    rw [Option.some.inj q]
    exact K6 i hi
  refine Back.mono (back hZ hw wi E V C K1 hty S hz (by omega) (by omega) (fun i hi => by rw [hcv i (by omega)]; exact hall _ (List.getElem_mem _)) hfr hlo) (fun P a hp => ⟨hp.1, hp.2.1, hp.2.2.1, by rw [e]; exact hp.2.2.2⟩) (fun P a v B hp hq => ?_)
  obtain ⟨L, ⟨q1, q2, q3, q4, q5, q6, q7, ⟨V', v1, v2, v3, v4, v5⟩, q9⟩, hl, hc, hs⟩ := hq
  refine ⟨L, ⟨q1, q2, q3, q4, q5, q6, q7, ⟨V'.cls, v3, V', v1, rfl, by rw [v4, e, hlen], K4, fun i hi => ?_, fun i hi => ?_⟩, q9⟩, hl, hc, by rw [hs, e]⟩
  · have hi' : i < cs.length := by omega
    rw [v5 i (by omega), hcv i hi']; simp [List.getD_eq_getElem?_getD, hi']
  · have hi' : i < cs.length := by omega
    simp only [List.getD_eq_getElem?_getD, List.getElem?_map, List.getElem?_eq_getElem hi', Option.map_some, Option.getD_some]
    exact fits_lo8 _
end StrChars.Road
namespace StrChars.Road
open Jvm Sem ClassFile Op Lib Jvm.Stand Jvm.Free Jvm.Free.XT
/-- WHAT COMES BACK, in the writer's own shape -/
def QV (Z : State) (x : Addr) (N : Int32) (bs : List Int32) (h : Heap) (n0 : Nat) (v : Option Value) (h' : Heap) (L : List Loc) : Prop := v = none ∧ RoadKit.Fr n0 L ∧ RoadKit.Keep h h' [x] ∧ RoadKit.Exa Z h' x ST ∧ RoadKit.Fld Z h' x ST "coder" "B" (.int 0) ∧
  ∃ (t : Addr) (kb : ClassId), n0 ≤ t ∧ h.size ≤ t ∧ ¬ t = x ∧ RoadKit.Fld Z h' x ST "value" "[B" (.ref t) ∧ RoadKit.Arv Z h' t kb .byte N (bs.map Value.int) (.int 0)
/-- **new String(chars) AT A CALL, FOR THE WRITER**: a char[] of n known ints, each 0 to 255 -/
theorem backV {p : Program} {l : Launch} {e : Env} {R : Room} {s : State} {args : Array Value} {below : List Frame} {len W : Nat} {Z : State} {a0 : Array Value} {h : Heap} (hZ : Z.Warmed39 s.vm) (hw : ∀ d ∈ words, d.before a0 Z = true) {kI : Nat} (wi : (Jvm.Cond.instantiable ST kI).before a0 Z = true)
    {x b : Addr} {kC : ClassId} {cs bs : List Int32} {d v0 c0 : Value} {z N : Int32} {n n0 : Nat} (hx0 : n0 ≤ x) (hh0 : n0 ≤ h.size) (E : RoadKit.Exa Z h x ST) (V : RoadKit.Fld Z h x ST "value" "[B" v0) (C : RoadKit.Fld Z h x ST "coder" "B" c0) (K : RoadKit.Arv Z h b kC .char N (cs.map Value.int) d) (S : RoadKit.Sta Z h ST "COMPACT_STRINGS" "Z" (.int z)) (hz : ¬ z = 0)
    (hn : cs.length = n) (hN : N = Int32.ofNat n) (l0 : 0 < n) (l2 : n ≤ 4000) (hp : ∀ c ∈ cs, ¬ c < 0 ∧ ¬ (255 : Int32) < c) (hb : bs = cs.map (fun c => c.toInt8.toInt32)) (hfr : 4 ≤ R.frames) (hlo : W + 65 ≤ R.locals) :
    Back l R p e below s args (⟨"java/lang/String", "<init>", "([C)V"⟩ : MethodName) len W (fun P a => a = #[.ref x, .ref b] ∧ P.U.heap = h ∧ P.cells + 1 ≤ R.cells ∧ P.slots + n ≤ R.slots)
      (fun P _ v B => ∃ L, QV Z x N bs h n0 v B.U.heap L ∧ B.locs = P.locs ++ L ∧ B.cells = P.cells + 1 ∧ B.slots = P.slots + n) := by
  subst hn hN hb
  refine Back.mono (backArv hZ hw wi E V C K S hz (n32 (by omega)) l0 (by omega) (fun c hc => (hp c hc).2) hfr hlo) (fun P a hp => hp) (fun P a v B hp hq => ?_)
  obtain ⟨L, ⟨q1, q2, q3, q4, q5, q6, q7, ⟨kb, v1, v2⟩, q9⟩, hl, hc, hs⟩ := hq
  exact ⟨L, ⟨q1, fun y hy => by rw [q2 y hy]; exact hx0, q3, q5, q7, h.size, kb, hh0, Nat.le_refl _, Nat.ne_of_gt E.lt, q6, by rw [List.map_map]; exact v2⟩, hl, hc, hs⟩
end StrChars.Road
namespace StrChars
open Jvm Sem ClassFile Op Lib Jvm.Stand Jvm.Free.XT Jvm.Free.ALB Jvm.Free.JM Jvm.Free
open Jvm.Lib.Cold (StaticIs)
def hi8 (x : Int32) : Int32 := lo8 (x >>> ((8 : Int32) &&& 31))
end StrChars
namespace StrChars.Road
open Jvm Sem ClassFile Op Lib Jvm.Stand Jvm.Free Jvm.Free.XT
open Jvm.Lib.Cold (StaticIs)
/-- the bytes of the chars cs, low before high -/
def wideBytes : List Int32 → List Value
  | [] => []
  | c :: cs => .int (lo8 c) :: .int (hi8 c) :: wideBytes cs
/-- an array of N2 bytes vs codes the chars cs by the coder cd -/
def CodA (cs : List Int32) (cd N2 : Int32) (vs : List Value) : Prop := (cd = 0 ∧ N2 = Int32.ofNat cs.length ∧ vs = (cs.map fun c => Value.int (lo8 c)) ∧ ∀ c ∈ cs, ¬ 255 < c) ∨ (cd = 1 ∧ N2 = Int32.ofNat (2 * cs.length) ∧ vs = wideBytes cs ∧ ∃ c ∈ cs, 255 < c)
end StrChars.Road
namespace StrChars.Road
open Jvm Sem ClassFile Op Lib Jvm.Stand Jvm.Free Jvm.Free.XT
open Jvm.Lib.Cold (StaticIs)
/-- what backV says of its String, as the contracts of this text ask it: cs's low bytes, coder 0 -/
theorem codOf {cs : List Int32} {n : Nat} (hn : cs.length = n) (hb : ∀ c ∈ cs, ¬ 255 < c) : CodA cs 0 (Int32.ofNat n) ((cs.map lo8).map Value.int) := Or.inl ⟨rfl, by rw [hn], by simp [List.map_map, Function.comp_def], hb⟩
end StrChars.Road
end Jvm.Pilot.@@N@@

namespace Jvm.Pilot.@@N@@
open Jvm Jvm.ClassFile Sem Op Lib Jvm.Free Jvm.Stand Jvm.LawKit Jvm.RoadKit Bundle Jvm.Pilot.@@N@@.Jvm.D

theorem own_g {Z : State} {a0 : Array Value} (hw : ∀ d ∈ tables_1, d.before a0 Z = true) (i : Nat) {d : Jvm.Cond} (h : tables_1[i]? = some d) : d.before a0 Z = true := hw _ (List.mem_of_getElem? h)
/-- from the state T the run comes to an end that F takes -/
def own_Ends (p : Program) (e : Env) (below : List Frame) (F : Outcome → State → Prop) (T : State) : Prop :=
  ∃ s₂ o, Steps p.tables e below T s₂ ∧ s₂.status = .running ∧ Ended s₂ below o ∧ F o s₂
def own_Fin (s : State) (Q : Option Value → Heap → List Loc → Prop) (C S : Nat) (o : Outcome) (U : State) : Prop :=
  ∃ v L, o = .returned v ∧ Q v U.heap L ∧ FrameEnd s o U L C S
theorem own_Sta_keep {Z : State} {h h' : Heap} {C n d : String} {v : Value} {ws : List Addr} (F : Sta Z h C n d v) (K : Keep h h' ws) (q : ∀ x ∈ ws, ∀ c : Cell, h[x]? = some c → c.vm.isStatics = false) : Sta Z h' C n d v := by
  obtain ⟨cf, i, k, f, st, cell, h1, h2, h3, h4, h5, h6, h7⟩ := F
  exact ⟨cf, i, k, f, st, cell, h1, h2, h3, h4, K.2.1 st cell h5 (fun m => by rw [q st m cell h5] at h6; cases h6), h6, h7⟩
theorem own_ns_exa {Z : State} {h : Heap} {a : Addr} {C : String} (F : Exa Z h a C) : ∀ c : Cell, h[a]? = some c → c.vm.isStatics = false := fun c hc => by
  obtain ⟨cell, k, h1, h2, h3, h4, h5⟩ := F
  cases h1.symm.trans hc; exact h4
theorem own_ns_arv {Z : State} {h : Heap} {a : Addr} {k : ClassId} {ty : FieldType} {n : Int32} {vs : List Value} {d : Value} (F : Arv Z h a k ty n vs d) : ∀ c : Cell, h[a]? = some c → c.vm.isStatics = false := fun c hc => by
  obtain ⟨cell, A, r⟩ := F
  cases A.1.symm.trans hc; exact A.plain
section OwnSteps
variable {p : Program} {l : Launch} {e : Env} {R : Room} {s : State} {m : MethodId} {args : Array Value} {below : List Frame} {meth : Method} {c : Code} {T T' : State} {locs : List Loc} {cells slots cells' slots' : Nat} {F : Outcome → State → Prop}
theorem own_step (h : ∀ target, Steps p.tables e below T' target → Steps p.tables e below T target) (k : own_Ends p e below F T') : own_Ends p e below F T := by
  obtain ⟨s₂, o, h1, h2⟩ := k
  exact ⟨s₂, o, h _ h1, h2⟩
theorem own_trans (h : Steps p.tables e below T T') (k : own_Ends p e below F T') : own_Ends p e below F T := by
  obtain ⟨s₂, o, h1, h2⟩ := k
  exact ⟨s₂, o, h.trans h1, h2⟩
theorem own_mono (X : Stand p l e R s m args below meth c T locs cells slots) (h1 : cells ≤ cells') (h2 : slots ≤ slots') : Stand p l e R s m args below meth c T locs cells' slots' :=
  { X with same := X.same.mono h1 h2 }
theorem own_ret {Q : Option Value → Heap → List Loc → Prop} {C S : Nat} {g : JFrame} (X : Stand p l e R s m args below meth c T locs cells slots) {v : Option Value} (hv : meth.sig.returnType = none → v = none) (hlocks : meth.locks = false)
    (st : ∀ fs, (∀ (f : JFrame) (acts : List Action), f.method = m → f.locked = none → f.entered = [] → (doReturn e (T.setTop f) acts v).1 = T.setFrames fs) → Steps p.tables e below (T.setTop g) (T.setFrames fs))
    (h1 : cells ≤ C) (h2 : slots ≤ S) (hQ : Q v T.heap locs) : own_Ends p e below (own_Fin s Q C S) (T.setTop g) := by
  obtain ⟨fs, hr, hrun, hended, hW, hsame⟩ := X.leave (v := v) hv hlocks
  exact ⟨_, _, st fs hr, hrun, hended, _, _, rfl, hQ, ⟨_, rfl⟩, hW, hsame.mono h1 h2⟩
def own_FinW (s : State) (Q : Option Value → Heap → List Loc → Prop) (C S : Nat) (o : Outcome) (U : State) : Prop :=
  ∃ v L, o = .returned v ∧ Q v U.heap L ∧ ReturnedEndW s o U L C S
theorem own_retW {vm : Vm} {k : Nat} {Q : Option Value → Heap → List Loc → Prop} {C S : Nat} {g : JFrame} (X : Stand p l e R (s.setVm vm) m args below meth c T locs cells slots) (hS : s.Since vm k) (hk : k ≤ T.heap.size) {v : Option Value} (hv : meth.sig.returnType = none → v = none) (hlocks : meth.locks = false)
    (st : ∀ fs, (∀ (f : JFrame) (acts : List Action), f.method = m → f.locked = none → f.entered = [] → (doReturn e (T.setTop f) acts v).1 = T.setFrames fs) → Steps p.tables e below (T.setTop g) (T.setFrames fs))
    (h1 : cells ≤ C) (h2 : slots ≤ S) (hQ : Q v T.heap locs) : own_Ends p e below (own_FinW s Q C S) (T.setTop g) := by
  obtain ⟨fs, hr, hrun, hended, a, b, c', d'⟩ := X.leaveW hS hk (v := v) hv hlocks
  exact ⟨_, _, st fs hr, hrun, hended, _, _, rfl, hQ, a, b, c', d'.mono h1 h2⟩
theorem own_warm {Z : State} {vm0 vm1 : Vm} {k : Nat} (hZ : Z.Warmed39 vm0) (hS : (s.setVm vm0).Since vm1 k) : Z.Warmed39 vm1 := State.Warmed39.trans (t := s.setVm vm0) hZ hS.1
theorem own_find {vm0 vm1 : Vm} {k : Nat} {own : String} {c0 : ClassId} (h : vm0.findClass own = some c0) (hS : (s.setVm vm0).Since vm1 k) : vm1.findClass own = some c0 := by
  rw [hS.1.alike.findClass]; exact h
def own_FinH (Z : State) (EL : List (String × Nat)) (s : State) (Q : Option Value → Heap → List Loc → Prop) (C S : Nat) (o : Outcome) (U : State) : Prop :=
  ∃ v L, o = .returned v ∧ Q v U.heap L ∧ CHr Z EL s.vm s.heap U.vm U.heap ∧ ReturnedEndW s o U L C S
theorem own_retH {Z : State} {a0 : Array Value} {EL : List (String × Nat)} {vm : Vm} {k : Nat} {h0 h : Heap} {Q : Option Value → Heap → List Loc → Prop} {C S : Nat} {g : JFrame} (X : Stand p l e R (s.setVm vm) m args below meth c T locs cells slots) (hS : s.Since vm k) (hk : k ≤ T.heap.size) (hh : s.heap = h0) (eT : T.heap = h) (hZ : Z.Warmed39 vm) (hEL : EW Z a0 EL) (hC : CHr Z EL s.vm h0 vm h) {v : Option Value} (hv : meth.sig.returnType = none → v = none) (hlocks : meth.locks = false)
    (st : ∀ fs, (∀ (f : JFrame) (acts : List Action), f.method = m → f.locked = none → f.entered = [] → (doReturn e (T.setTop f) acts v).1 = T.setFrames fs) → Steps p.tables e below (T.setTop g) (T.setFrames fs))
    (h1 : cells ≤ C) (h2 : slots ≤ S) (hQ : Q v T.heap locs) : own_Ends p e below (own_FinH Z EL s Q C S) (T.setTop g) := by
  obtain ⟨fs, hr, hrun, hended, a, b, c', d'⟩ := X.leaveW hS hk (v := v) hv hlocks
  have q : CHr Z EL s.vm s.heap T.vm T.heap := by
    rw [hh, eT]; exact hC.trans (CHv.at X hZ hEL hC.1)
  exact ⟨_, _, st fs hr, hrun, hended, _, _, rfl, hQ, q, a, b, c', d'.mono h1 h2⟩
def own_SL (Z : State) (EL : List (String × Nat)) (vm : Vm) (h : Heap) (x : Addr) : Prop := x < h.size ∧ Safe Z EL vm h x
theorem own_SL.go {Z : State} {EL : List (String × Nat)} {vm vm1 : Vm} {h h' : Heap} {x : Addr} (F : own_SL Z EL vm h x) (A : CHr Z EL vm h vm1 h') : own_SL Z EL vm1 h' x := ⟨Nat.lt_of_lt_of_le F.1 A.2.1, A.safe F.1 F.2⟩
theorem own_SL.born {Z : State} {EL : List (String × Nat)} {vm : Vm} {h h' : Heap} {x : Addr} (H : CHv Z EL vm h) (E : Ext h h') (g : x = h.size) (lt : x < h'.size) : own_SL Z EL vm h' x := ⟨lt, Safe.ext E H (Safe.new (Nat.le_of_eq g.symm))⟩
end OwnSteps
theorem own_efold (L : List Value) (h : ∀ v ∈ L, v.category = 1) : ∀ acc : Array Slot, L.foldl (fun acc v => if v.category = 2 then (acc.push (.val v)).push .second else acc.push (.val v)) acc = acc ++ (L.map Slot.val).toArray := by
  induction L with
  | nil => intro acc; simp
  | cons v L ih =>
    intro acc
    have hv : ¬ v.category = 2 := by rw [h v (List.mem_cons_self)]; decide
    rw [List.foldl_cons, if_neg hv, ih (fun w hw => h w (List.mem_cons_of_mem _ hw))]
    simp
theorem own_efl (m : MethodId) (L : List Value) (n : Nat) (h : ∀ v ∈ L, v.category = 1) (hn : L.length = n) : entryFrame m L.toArray n = mkF m 0 (L.map Slot.val).toArray [] := by
  have e : argsToLocals L.toArray n = (L.map Slot.val).toArray := by
    simp only [argsToLocals, List.foldl_toArray, own_efold L h]
    subst hn; simp
  simp only [entryFrame, mkF, e]

/-- the String x of h spells the chars cs (each 0 to 255); it and its bytes lie below B -/
def own_Str (Z : State) (h : Heap) (B : Nat) (x : Addr) (cs : List Int32) : Prop := ∃ (t : Addr) (kb : ClassId), Exa Z h x "java/lang/String" ∧ Fld Z h x "java/lang/String" "coder" "B" (.int 0) ∧ Fld Z h x "java/lang/String" "value" "[B" (.ref t) ∧ Arv Z h t kb .byte (Int32.ofNat cs.length) ((cs.map (fun c => c.toInt8.toInt32)).map Value.int) (.int 0) ∧ (∀ c ∈ cs, ¬ c < 0 ∧ ¬ (255 : Int32) < c) ∧ x < B ∧ t < B
section OwnStr
variable {Z : State} {h h' : Heap} {B B' : Nat} {x : Addr} {cs ds : List Int32} {ws : List Addr}
theorem own_Str.exa (F : own_Str Z h B x cs) : Exa Z h x "java/lang/String" := by obtain ⟨t, kb, E, -⟩ := F; exact E
theorem own_Str.lt (F : own_Str Z h B x cs) : x < h.size := F.exa.lt
theorem own_Str.ext (F : own_Str Z h B x cs) (E : Ext h h') : own_Str Z h' B x cs := by
  obtain ⟨t, kb, f1, f2, f3, f4, f5⟩ := F
  exact ⟨t, kb, f1.ext E, f2.ext E, f3.ext E, f4.ext E, f5⟩
theorem own_Str.keep (F : own_Str Z h B x cs) (K : Keep h h' ws) (q : ∀ w ∈ ws, B ≤ w) : own_Str Z h' B x cs := by
  obtain ⟨t, kb, f1, f2, f3, f4, f5, f6, f7⟩ := F
  have n1 : x ∉ ws := fun m => absurd (q x m) (Nat.not_le.mpr f6)
  have n2 : t ∉ ws := fun m => absurd (q t m) (Nat.not_le.mpr f7)
  exact ⟨t, kb, f1.keep K, f2.keep K n1, f3.keep K n1, f4.keep K n2, f5, f6, f7⟩
theorem own_Str.keepN (F : own_Str Z h B x cs) (K : Keep h h' ws) (q : ∀ w ∈ ws, B ≤ w ∨ ∃ (C : String) (n : Nat) (a0 : Array Value), Exa Z h w C ∧ C ≠ "java/lang/String" ∧ (Jvm.Cond.instantiable C n).before a0 Z = true) : own_Str Z h' B x cs := by
  obtain ⟨t, kb, f1, f2, f3, f4, f5, f6, f7⟩ := F
  have n1 : x ∉ ws := fun m => by
    rcases q x m with g | ⟨C, n, a0, g, g2, g3⟩
    · exact absurd g (Nat.not_le.mpr f6)
    · exact g.ne f1 g2 rfl
  have n2 : t ∉ ws := fun m => by
    rcases q t m with g | ⟨C, n, a0, g, g2, g3⟩
    · exact absurd g (Nat.not_le.mpr f7)
    · exact g.neArv f4 g3 rfl
  exact ⟨t, kb, f1.keep K, f2.keep K n1, f3.keep K n1, f4.keep K n2, f5, f6, f7⟩
theorem own_Str.mono (F : own_Str Z h B x cs) (q : B ≤ B') : own_Str Z h B' x cs := by
  obtain ⟨t, kb, f1, f2, f3, f4, f5, f6, f7⟩ := F
  exact ⟨t, kb, f1, f2, f3, f4, f5, Nat.lt_of_lt_of_le f6 q, Nat.lt_of_lt_of_le f7 q⟩
theorem own_Str.top (F : own_Str Z h B x cs) : own_Str Z h h.size x cs := by
  obtain ⟨t, kb, f1, f2, f3, f4, f5, f6, f7⟩ := F
  exact ⟨t, kb, f1, f2, f3, f4, f5, f1.lt, f4.lt⟩
theorem own_Str.mk {t : Addr} {kb : ClassId} {N : Int32} {vs : List Value} (f1 : Exa Z h x "java/lang/String") (f2 : Fld Z h x "java/lang/String" "coder" "B" (.int 0)) (f3 : Fld Z h x "java/lang/String" "value" "[B" (.ref t)) (f4 : Arv Z h t kb .byte N vs (.int 0)) (e1 : N = Int32.ofNat cs.length) (e2 : vs = (cs.map (fun c => c.toInt8.toInt32)).map Value.int) (f5 : ∀ c ∈ cs, ¬ c < 0 ∧ ¬ (255 : Int32) < c) : own_Str Z h h.size x cs := by
  subst e1 e2
  exact ⟨t, kb, f1, f2, f3, f4, f5, f1.lt, f4.lt⟩
def own_eqv (cs ds : List Int32) : Int32 := if cs = ds then 1 else 0
theorem own_hi {c : Int32} (q : ¬ (255 : Int32) < c) : ¬ (65535 : Int32) < c := fun z => q (by
  rw [Int32.lt_iff_toInt_lt] at z ⊢
  have e1 : (255 : Int32).toInt = 255 := rfl
  have e2 : (65535 : Int32).toInt = 65535 := rfl
  omega)
end OwnStr

theorem own_c0 {P : Int32 → Prop} : ∀ c ∈ ([] : List Int32), P c := fun _ q => nomatch q
theorem own_cS {P : Int32 → Prop} {y : Int32} {L : List Int32} (q : P y) (r : ∀ c ∈ L, P c) : ∀ c ∈ y :: L, P c := fun c z => (List.mem_cons.mp z).elim (fun u => u ▸ q) (r c)
theorem own_rng {v : Int32} (h : 0 ≤ v.toInt ∧ v.toInt ≤ 255) : ¬ v < 0 ∧ ¬ (255 : Int32) < v := by
  have e0 : (0 : Int32).toInt = 0 := rfl
  have e1 : (255 : Int32).toInt = 255 := rfl
  rw [Int32.lt_iff_toInt_lt, Int32.lt_iff_toInt_lt, e0, e1]; omega
theorem own_rng' {v : Int32} (h : ¬ v < 0 ∧ ¬ (255 : Int32) < v) : 0 ≤ v.toInt ∧ v.toInt ≤ 255 := by
  have e0 : (0 : Int32).toInt = 0 := rfl
  have e1 : (255 : Int32).toInt = 255 := rfl
  rw [Int32.lt_iff_toInt_lt, Int32.lt_iff_toInt_lt, e0, e1] at h; omega
theorem own_c8 {v x : Int32} (e : v = (x &&& (255 : Int32)).toUInt32.toUInt16.toUInt32.toInt32) : ¬ v < 0 ∧ ¬ (255 : Int32) < v := by
  rw [e, i2c_mask]
  have h := c_and x 255 (by decide)
  have e1 : (255 : Int32).toInt = 255 := rfl
  rw [e1] at h
  exact own_rng h
theorem own_narC {v : Int32} (h : ¬ v < 0 ∧ ¬ (255 : Int32) < v) : nar .char v = v := by
  have r := own_rng' h
  have q := c_i2c v
  apply Int32.toInt_inj.mp
  show v.toUInt32.toUInt16.toUInt32.toInt32.toInt = v.toInt
  omega
theorem own_fitC {v : Int32} (h : ¬ v < 0 ∧ ¬ (255 : Int32) < v) : fits .char (.int v) = true := by rw [← own_narC h]; exact fits_nar_char v
theorem own_i2c {v : Int32} (h : ¬ v < 0 ∧ ¬ (255 : Int32) < v) : v.toUInt32.toUInt16.toUInt32.toInt32 = v := own_narC h
theorem own_nar8 (x : Int32) : nar .byte (x.toInt8.toInt32) = x.toInt8.toInt32 := by
  show (x.toInt8.toInt32).toInt8.toInt32 = x.toInt8.toInt32
  rw [Int8.toInt8_toInt32]
theorem own_no {Z : State} {a0 : Array Value} {C S K : String} {n : Nat} (w : (Jvm.Cond.superclass C S).before a0 Z = true) (w0 : (Jvm.Cond.noSuperclass S).before a0 Z = true) (wk : (Jvm.Cond.instantiable K n).before a0 Z = true) (hn : C ≠ K) (hn2 : S ≠ K) : ∃ c t, Z.vm.findClass C = some c ∧ Z.vm.findClass K = some t ∧ Z.vm.assignable c t = false := by
  obtain ⟨t, k', g1, g2, g3, g4, -⟩ := Cond.instantiable_spec wk
  obtain ⟨c0, k0, r1, r2, r3, -, -⟩ := Cond.noSuperclass_spec w0
  obtain ⟨c, h0⟩ := found_sup w
  obtain ⟨p, k, kp, h1, h2, h3, h4, h5, -, h7⟩ := Cond.superclass_spec h0 w
  cases h1.symm.trans r1
  have ne := ids_ne h0 g1 hn
  have ne2 := ids_ne r1 g1 hn2
  refine ⟨c, t, h0, g1, ?_⟩
  simp only [Bool.or_eq_false_iff] at g4
  have n3 : ∀ fuel, Z.vm.isSubclassAux fuel c t = false := fun fuel => by
    cases fuel with
    | zero => rfl
    | succ f =>
      cases f with
      | zero => simp [Vm.isSubclassAux, ne, h2, h4]
      | succ f => simp [Vm.isSubclassAux, ne, h2, h4, ne2, r2, r3]
  show Z.vm.assignableAux (255 + 1) c t = false
  simp [Vm.assignableAux, ne, h2, g2, h5, g3, g4.1, Vm.isSubclass, n3]

theorem own_catR {v : Value} (h : v.isRef = true) : Value.category v = 1 := by cases v <;> simp_all [Value.isRef, Value.category]

/-- a value that any Object[] takes -/
def own_Ob (Z : State) (h : Heap) (v : Value) : Prop := v = .null ∨ ∃ (y : Addr) (C : String) (a0 : Array Value), v = .ref y ∧ Exa Z h y C ∧ (Jvm.Cond.castable C "java/lang/Object").before a0 Z = true
theorem own_Ob.ext {Z : State} {h h' : Heap} {v : Value} (F : own_Ob Z h v) (E : Ext h h') : own_Ob Z h' v := F.imp id fun ⟨y, C, a0, q, X, w⟩ => ⟨y, C, a0, q, X.ext E, w⟩
theorem own_Ob.keep {Z : State} {h h' : Heap} {v : Value} {ws : List Addr} (F : own_Ob Z h v) (K : Keep h h' ws) : own_Ob Z h' v := F.imp id fun ⟨y, C, a0, q, X, w⟩ => ⟨y, C, a0, q, X.keep K, w⟩
theorem own_Ob.wr {Z : State} {h h' : Heap} {v w' : Value} {a : Addr} {sl : Nat} (F : own_Ob Z h v) (W : Wr h h' a sl w') : own_Ob Z h' v := F.imp id fun ⟨y, C, a0, q, X, w⟩ => ⟨y, C, a0, q, X.wr W, w⟩
theorem own_Ob.isref {Z : State} {h : Heap} {v : Value} (F : own_Ob Z h v) : v.isRef = true := by rcases F with rfl | ⟨y, C, a0, rfl, -⟩ <;> rfl
theorem own_Ob.cat {Z : State} {h : Heap} {v : Value} (F : own_Ob Z h v) : Value.category v = 1 := by rcases F with rfl | ⟨y, C, a0, rfl, -⟩ <;> rfl
theorem own_Ob.fit {Z : State} {h : Heap} {v : Value} (F : own_Ob Z h v) : fits (.object "java/lang/Object") v = true := by rcases F with rfl | ⟨y, C, a0, rfl, -⟩ <;> rfl
theorem own_Ob.sto {Z : State} {h : Heap} {v : Value} {a : Addr} {cl : Cell} {k : ClassId} {ty : FieldType} (F : own_Ob Z h v) (A : Arr Z h a cl ty) (q : cl.cls = k) (O : Ovr Z k "java/lang/Object") : Sto Z h a v := by
  rcases F with rfl | ⟨y, C, a0, rfl, X, w⟩
  · exact Or.inl rfl
  · exact Sto.ofV A q O (Ins.of_exa X w)

theorem own_len0 {Z : State} {args : Array Value} {t : Term} {a : Addr} {c : Cell} {ty : FieldType} {k : Int32} (ev : t.eval args Z none [] Z = some (.ref a)) (A : Arr Z Z.heap a c ty) (h : (Jvm.Cond.eq (Jvm.Term.length t) (Jvm.Term.int k)).value args Z none Z [] = some true) : c.slots.size < 2 ^ 31 ∧ c.slots.size.toInt32 = k := by
  have ha : Z.arrayAt? a = some c := A.fin (Vm.Alike.refl _)
  by_cases q : c.slots.size < 2 ^ 31
  · refine ⟨q, ?_⟩
    have q2 : c.slots.size < 2147483648 := q
    simpa [Cond.value, Term.eval, ev, ha, q2] using h
  · simp [Cond.value, Term.eval, ev, ha, q] at h

section OwnMir
variable {p : Program} {l : Launch} {e : Env} {R : Room} {s : State} {m : MethodId} {args : Array Value} {below : List Frame} {meth : Method} {c : Code} {T : State} {locs : List Loc} {cells slots : Nat} {Z : State} {a0 : Array Value} {h : Heap} {a : Addr}
theorem own_gc (X : Stand p l e R s m args below meth c T locs cells slots) (hx : p.tables.exec = Jvm.exec) (hZ : Z.Warmed39 s.vm) {own C : String} {index : Nat} (hown : s.vm.findClass own = some m.cls)
    (w1 : (Cond.methodLink own index ⟨"java/lang/Object", "getClass", "()Ljava/lang/Class;"⟩).before a0 Z = true) (w2 : (Cond.declares ⟨"java/lang/Object", "getClass", "()Ljava/lang/Class;"⟩).before a0 Z = true) (w4 : (Cond.selects C ⟨"java/lang/Object", "getClass", "()Ljava/lang/Class;"⟩ ⟨"java/lang/Object", "getClass", "()Ljava/lang/Class;"⟩).before a0 Z = true)
    (w5 : (Cond.instanceMethod ⟨"java/lang/Object", "getClass", "()Ljava/lang/Class;"⟩).before a0 Z = true) (w6 : (Cond.native ⟨"java/lang/Object", "getClass", "()Ljava/lang/Class;"⟩).before a0 Z = true) (eT : T.heap = h) (E : Exa Z h a C) {mr : Addr} (M : Mir Z C mr)
    {g : JFrame} (hg : g.method = m) (hsize : g.locals.size = c.maxLocals) {rest : List Value} (hs : g.stack = .ref a :: rest) (hd : decode c.code g.pc = .ok (.invokevirtual index, 3)) (hf : 1 ≤ R.frames) {W : Nat} (hW : 2 * g.monitorRoom + (rest.map fun v => v.category).sum ≤ W) (hl : W + (nativeFrameWords "java/lang/Object" "getClass" 1 + 11) ≤ R.locals) :
    ∃ T', Stand p l e R s m args below meth c T' locs cells slots ∧ T'.heap = h ∧ ∀ target, Steps p.tables e below (T'.setTop { g with pc := g.pc + 3, stack := .ref mr :: rest }) target → Steps p.tables e below (T.setTop g) target := by
  obtain ⟨cB, kB, i1, i2, i3⟩ := isOf hZ eT E
  obtain ⟨cc, kc, m1, m2, m3, -⟩ := M
  rw [hZ.alike.findClass] at i1
  cases i1.symm.trans m1
  obtain ⟨k', q, ek⟩ := hZ.alike.2.2 _ _ m2
  obtain ⟨vm', X', st⟩ := X.getClassOf hx hown (mvT hZ w1) (mvT hZ w2) (notFace_of_selects (args := #[]) (mvT hZ w4)) (mvT hZ w4) (mvT hZ w5) (mvT hZ w6) (by rw [hZ.alike.findClass]; exact m1) i3 q (by rw [ek]; exact m3) hg hsize hs hd hf (by omega)
  exact ⟨_, X', eT, st⟩
theorem own_gcI (X : Stand p l e R s m args below meth c T locs cells slots) (hx : p.tables.exec = Jvm.exec) (hZ : Z.Warmed39 s.vm) {own C : String} {index count : Nat} {xi : MethodName} (hown : s.vm.findClass own = some m.cls)
    (w1 : (Cond.methodLink own index xi).before a0 Z = true) (w2 : (Cond.declares ⟨"java/lang/Object", "getClass", "()Ljava/lang/Class;"⟩).before a0 Z = true) (w3 : (Cond.interfaceMethod xi.cls "java/lang/Object" xi.name xi.desc).before a0 Z = true) (w4 : (Cond.selects C xi ⟨"java/lang/Object", "getClass", "()Ljava/lang/Class;"⟩).before a0 Z = true)
    (w5 : (Cond.instanceMethod ⟨"java/lang/Object", "getClass", "()Ljava/lang/Class;"⟩).before a0 Z = true) (w7 : (Cond.publicMethod ⟨"java/lang/Object", "getClass", "()Ljava/lang/Class;"⟩).before a0 Z = true) (w8 : (Cond.unhidden C xi.name xi.desc).before a0 Z = true) (w9 : (Cond.castable C xi.cls).before a0 Z = true) (w6 : (Cond.native ⟨"java/lang/Object", "getClass", "()Ljava/lang/Class;"⟩).before a0 Z = true)
    (hxi : xi.cls ≠ "java/lang/invoke/MethodHandle" ∧ xi.cls ≠ "java/lang/invoke/VarHandle") (hxo : xi.cls ≠ "java/lang/Object") (hname : xi.name = "getClass") (hdesc : xi.desc = "()Ljava/lang/Class;") (eT : T.heap = h) (E : Exa Z h a C) {mr : Addr} (M : Mir Z C mr)
    {g : JFrame} (hg : g.method = m) (hsize : g.locals.size = c.maxLocals) {rest : List Value} (hs : g.stack = .ref a :: rest) (hd : decode c.code g.pc = .ok (.invokeinterface index count, 5)) (hf : 1 ≤ R.frames) {W : Nat} (hW : 2 * g.monitorRoom + (rest.map fun v => v.category).sum ≤ W) (hl : W + (nativeFrameWords "java/lang/Object" "getClass" 1 + 11) ≤ R.locals) :
    ∃ T', Stand p l e R s m args below meth c T' locs cells slots ∧ T'.heap = h ∧ ∀ target, Steps p.tables e below (T'.setTop { g with pc := g.pc + 5, stack := .ref mr :: rest }) target → Steps p.tables e below (T.setTop g) target := by
  obtain ⟨cB, kB, i1, i2, i3⟩ := isOf hZ eT E
  obtain ⟨cc, kc, m1, m2, m3, -⟩ := M
  rw [hZ.alike.findClass] at i1
  cases i1.symm.trans m1
  obtain ⟨k', q, ek⟩ := hZ.alike.2.2 _ _ m2
  obtain ⟨vm', X', st⟩ := X.getClassOfI hx hown (mvT hZ w1) (mvT hZ w2) (Jvm.Free.ULB.iface_rides hZ.alike w3) (mvT hZ w4) (mvT hZ w5) (mvT hZ w7) (mvT hZ w8) (mvT hZ w9) (mvT hZ w6) hxi hxo hname hdesc (by rw [hZ.alike.findClass]; exact m1) q i3 (by rw [ek]; exact m3) hg hsize hs hd hf (by omega)
  exact ⟨_, X', eT, st⟩
theorem own_ldcM (X : Stand p l e R s m args below meth c T locs cells slots) (hx : p.tables.exec = Jvm.exec) (hZ : Z.Warmed39 s.vm) {own C : String} {index : Nat} (hown : s.vm.findClass own = some m.cls) (w : (Cond.classLink own index C).before a0 Z = true) (eT : T.heap = h) {mr : Addr} (M : Mir Z C mr)
    {g : JFrame} (hg : g.method = m) (hd : decode c.code g.pc = .ok (.ldc index, 2)) :
    ∃ T', Stand p l e R s m args below meth c T' locs cells slots ∧ T'.heap = h ∧ ∀ target, Steps p.tables e below (T'.setTop { g with pc := g.pc + 2, stack := .ref mr :: g.stack }) target → Steps p.tables e below (T.setTop g) target := by
  obtain ⟨cc, kc, m1, m2, m3, -⟩ := M
  obtain ⟨k', q, ek⟩ := hZ.alike.2.2 _ _ m2
  have m3' : k'.mirror = some mr := by rw [ek]; exact m3
  have m1' : s.vm.findClass C = some cc := by rw [hZ.alike.findClass]; exact m1
  obtain ⟨vm', X', st⟩ := X.ldcMirror hx hown (mv hZ w) (by simp [Term.eval, m1', q, m3'] : (Term.mirror C).eval args s none [] s = some (.ref mr)) hg hd
  exact ⟨_, X', eT, st⟩
end OwnMir
/-- the box table at a: each element a box -/
def own_Bx (Z : State) (h : Heap) (a : Addr) : Prop := ∃ c : Cell, Arr Z h a c (.object "java/lang/Integer") ∧ c.slots.size = 256 ∧ ∀ j, j < 256 → ∃ b, c.slots[j]? = some (.ref b) ∧ Exa Z h b "java/lang/Integer"
theorem own_Bx.lt {Z : State} {h : Heap} {a : Addr} (F : own_Bx Z h a) : a < h.size := by obtain ⟨c, A, -⟩ := F; exact A.lt
theorem own_Bx.ext {Z : State} {h h' : Heap} {a : Addr} (F : own_Bx Z h a) (E : Ext h h') : own_Bx Z h' a := by obtain ⟨c, A, S, G⟩ := F; exact ⟨c, A.ext E, S, fun j hj => (G j hj).imp fun b q => ⟨q.1, q.2.ext E⟩⟩
theorem own_Bx.other {Z : State} {h h' : Heap} {a b : Addr} {sl : Nat} {v : Value} (F : own_Bx Z h b) (W : Wr h h' a sl v) (q : b ≠ a) : own_Bx Z h' b := by obtain ⟨c, A, S, G⟩ := F; exact ⟨c, A.other W q, S, fun j hj => (G j hj).imp fun b q => ⟨q.1, q.2.wr W⟩⟩
theorem own_Bx.keep {Z : State} {h h' : Heap} {a : Addr} {ws : List Addr} (F : own_Bx Z h a) (K : Keep h h' ws) (q : a ∉ ws) : own_Bx Z h' a := by obtain ⟨c, A, S, G⟩ := F; exact ⟨c, ⟨K.2.1 a c A.1 q, A.2⟩, S, fun j hj => (G j hj).imp fun b q => ⟨q.1, q.2.keep K⟩⟩
theorem own_bxj {x : Int32} (h1 : ¬ x < (-128 : Int32)) (h2 : ¬ (127 : Int32) < x) : ¬ (x + (128 : Int32)) < 0 ∧ (x + (128 : Int32)).toNatClampNeg < 256 := by
  rw [Int32.lt_iff_toInt_lt] at h1 h2 ⊢
  have e0 : (0 : Int32).toInt = 0 := rfl
  have e1 : (-128 : Int32).toInt = -128 := rfl
  have e2 : (127 : Int32).toInt = 127 := rfl
  have e3 : (128 : Int32).toInt = 128 := rfl
  have q := c_iadd x 128
  have r := rng32 (x + 128)
  simp only [Int32.toNatClampNeg]
  omega
theorem own_nvR {v : Value} {C : String} (h : v.isRef = true) : narrow (.object C) v = v := by rcases ref_cases h with rfl | ⟨a, rfl⟩ <;> rfl
theorem own_fvR {v : Value} {C : String} (h : v.isRef = true) : fits (.object C) v = true := by rcases ref_cases h with rfl | ⟨a, rfl⟩ <;> rfl

theorem own_m3 (x : Int32) : x &&& 3 = 0 ∨ x &&& 3 = 1 ∨ x &&& 3 = 2 ∨ x &&& 3 = 3 := by
  have h := c_mask x 3 2 (by decide) (by decide)
  have e : ∀ k : Int32, (x &&& 3).toInt = k.toInt → x &&& 3 = k := fun k q => Int32.toInt_inj.mp q
  have p : ((2 ^ 2 : Nat) : Int) = 4 := rfl
  rw [p] at h
  have h4 : x.toInt % 4 = 0 ∨ x.toInt % 4 = 1 ∨ x.toInt % 4 = 2 ∨ x.toInt % 4 = 3 := by omega
  rcases h4 with q | q | q | q <;> rw [q] at h
  · exact Or.inl (e 0 h)
  · exact Or.inr (Or.inl (e 1 h))
  · exact Or.inr (Or.inr (Or.inl (e 2 h)))
  · exact Or.inr (Or.inr (Or.inr (e 3 h)))

theorem own_m3e {v x : Int32} (e : v = x &&& (3 : Int32)) : v = 0 ∨ v = 1 ∨ v = 2 ∨ v = 3 := by rw [e]; exact own_m3 x
theorem own_Bx.start {Z : State} {a : Addr} {c : Cell} {val : Int32 → Value} (F : Bxs Z a c "java/lang/Integer" "I" (256 : Int32) val) : own_Bx Z Z.heap a := by
  obtain ⟨A, S, -, G⟩ := F
  have S' : c.slots.size = 256 := S
  refine ⟨c, A, S', fun j hj => ?_⟩
  have ej : (Int32.ofNat j).toNatClampNeg = j := by
    simp only [Int32.toNatClampNeg, Int32.toInt_ofNat_of_lt (Nat.lt_trans hj (by decide))]; rfl
  have nj : ¬ (Int32.ofNat j) < 0 := by
    rw [Int32.lt_iff_toInt_lt, Int32.toInt_ofNat_of_lt (Nat.lt_trans hj (by decide))]
    show ¬ (j : Int) < 0
    omega
  obtain ⟨b, h1, h2, -⟩ := G (Int32.ofNat j) (by rw [ej, S']; intro q; rcases q with q | q; exact nj q; omega)
  rw [ej] at h1
  exact ⟨b, h1, h2⟩

theorem d3_0 : decode jdk_22_method_1_code 0 = .ok (.aload_n 0, 1) := by decide +kernel
theorem d3_1 : decode jdk_22_method_1_code 1 = .ok (.invokespecial 1, 3) := by decide +kernel
theorem d3_4 : decode jdk_22_method_1_code 4 = .ok (.return_, 1) := by decide +kernel
theorem pn_java_util_AbstractCollection : plainName "java/util/AbstractCollection" = true := by first | (simp [plainName, overriddenIn]; done) | decide +kernel
theorem ef_rm3 (m : MethodId) (x0 : Addr) : entryFrame m #[(.ref x0)] 1 = mkF m 0 #[.val (.ref x0)] [] := by first | (simp [entryFrame, mkF, argsToLocals, Value.category, maxLocals]; done) | rfl
def Q3 (Z : State) (a : Addr) (h0 : Heap) (n0 : Nat) (v : Option Value) (h : Heap) (L : List Loc) : Prop := v = none ∧ Fr n0 L ∧ h = h0
set_option maxRecDepth 65536 in
set_option maxHeartbeats 40000000 in
theorem rm3 (l : Launch) (Z : State) (a0 : Array Value) (hw : ∀ d ∈ tables_1, d.before a0 Z = true) (ws : List Jvm.Cond) (a : Addr) (h0 : Heap) (n0 : Nat) (Z0 : n0 ≤ h0.size)  :
    MetFree l (⟨"java/util/AbstractCollection", "<init>", "()V"⟩ : MethodName) (head1 (Jvm.Cond.code (⟨"java/util/AbstractCollection", "<init>", "()V"⟩ : MethodName) jdk_22_method_1_code 1 none :: ws) ({ frames := 1, cells := 0, slots := 0, locals := 12 } : Room)) (fun ar U => ar = #[(.ref a)] ∧ Z.Warmed39 U.vm ∧ U.heap = h0) (fun _ _ _ _ _ => True) (fun _ U o U' => ∃ v L, o = .returned v ∧ Q3 Z a h0 n0 v U'.heap L ∧ FrameEnd U o U' L ({ frames := 1, cells := 0, slots := 0, locals := 12 } : Room).cells ({ frames := 1, cells := 0, slots := 0, locals := 12 } : Room).slots) := by
  refine MetFree.of_bodySF (plainFor_of_name pn_java_util_AbstractCollection) hisR ?_
  intro p e s m args below meth c s₁ Bd hml0 hP hK
  obtain ⟨rfl, hZ, hh⟩ := hP
  have hx := Bd.exec
  have hby := Bd.bytes
  have hml : c.maxLocals = 1 := hml0
  have hown : s.vm.findClass "java/util/AbstractCollection" = some m.cls := findClass_of_methodNamed Bd.named
  have hnm := (name_of_methodNamed Bd.named Bd.method).1
  have X0 : Stand p l e ({ frames := 1, cells := 0, slots := 0, locals := 12 } : Room) s m #[(.ref a)] below meth c s₁ [] 0 0 := Stand.of_body Bd
  have e0 : s₁.heap = h0 := by rw [← hh, Bd.state]; rfl
  have N0 := Fr.nil n0
  obtain ⟨F, hF⟩ : ∃ F, F = own_Fin s (Q3 Z a h0 n0) ({ frames := 1, cells := 0, slots := 0, locals := 12 } : Room).cells ({ frames := 1, cells := 0, slots := 0, locals := 12 } : Room).slots := ⟨_, rfl⟩
  show own_Ends p e below (own_Fin s (Q3 Z a h0 n0) ({ frames := 1, cells := 0, slots := 0, locals := 12 } : Room).cells ({ frames := 1, cells := 0, slots := 0, locals := 12 } : Room).slots) _
  rw [← hF, ef_rm3 m a]
  show own_Ends p e below F (s₁.setTop (mkF m 0 #[.val (.ref a)] []))
  refine own_step (fun _ k => XS.aloadN X0.here hx rfl (hb hby d3_0) rfl rfl k) ?_
  show own_Ends p e below F (s₁.setTop (mkF m 1 #[.val (.ref a)] [(.ref a)]))
  obtain ⟨T1, X1, e1, st1⟩ := initO X0 hx hZ hown (own_g hw 18 rfl) (own_g hw 19 rfl) (own_g hw 20 rfl) e0 (g := (mkF m 1 #[.val (.ref a)] [(.ref a)])) rfl (by rw [hml]; rfl) rfl (hb hby d3_1) (by decide) (W := 0) (by show 2 * 0 + _ ≤ _; exact Nat.le_of_eq rfl) (by decide)
  refine own_step st1 ?_
  show own_Ends p e below F (T1.setTop (mkF m 4 #[.val (.ref a)] []))
  rw [hF]
  exact own_ret X1 (v := none) (fun _ => rfl) Bd.notSynchronized (fun fs hr => X1.returnOut hx Bd.returns (hb hby d3_4) hr) (by decide) (by decide) (by rw [e1]; exact ⟨rfl, N0, rfl⟩)

theorem d2_0 : decode jdk_39_method_1_code 0 = .ok (.aload_n 0, 1) := by decide +kernel
theorem d2_1 : decode jdk_39_method_1_code 1 = .ok (.invokespecial 1, 3) := by decide +kernel
theorem d2_4 : decode jdk_39_method_1_code 4 = .ok (.aload_n 0, 1) := by decide +kernel
theorem d2_5 : decode jdk_39_method_1_code 5 = .ok (.iconst 0, 1) := by decide +kernel
theorem d2_6 : decode jdk_39_method_1_code 6 = .ok (.putfield 7, 3) := by decide +kernel
theorem d2_9 : decode jdk_39_method_1_code 9 = .ok (.return_, 1) := by decide +kernel
theorem pn_java_util_AbstractList : plainName "java/util/AbstractList" = true := by first | (simp [plainName, overriddenIn]; done) | decide +kernel
theorem pd__28_29V : parseMethodDescriptor "()V" = some ⟨[], none⟩ := by decide +kernel
theorem ef_rm2 (m : MethodId) (x0 : Addr) : entryFrame m #[(.ref x0)] 1 = mkF m 0 #[.val (.ref x0)] [] := by first | (simp [entryFrame, mkF, argsToLocals, Value.category, maxLocals]; done) | rfl
def Q2 (Z : State) (a : Addr) (h0 : Heap) (n0 : Nat) (v : Option Value) (h : Heap) (L : List Loc) : Prop := v = none ∧ Fr n0 L ∧ Keep h0 h [a] ∧ Exa Z h a "java/util/ArrayList" ∧ Fld Z h a "java/util/AbstractList" "modCount" "I" (.int (0 : Int32)) ∧ Fld Z h a "java/util/ArrayList" "elementData" "[Ljava/lang/Object;" .null ∧ Fld Z h a "java/util/ArrayList" "size" "I" (.int (0 : Int32))
set_option maxRecDepth 65536 in
set_option maxHeartbeats 40000000 in
theorem rm2 (l : Launch) (Z : State) (a0 : Array Value) (hw : ∀ d ∈ tables_1, d.before a0 Z = true) (ws : List Jvm.Cond) (a : Addr) (h0 : Heap) (n0 : Nat) (Z0 : n0 ≤ h0.size) (EX : Exa Z h0 a "java/util/ArrayList") (ge : n0 ≤ a) (F_modCount : Fld Z h0 a "java/util/AbstractList" "modCount" "I" (.int (0 : Int32))) (F_elementData : Fld Z h0 a "java/util/ArrayList" "elementData" "[Ljava/lang/Object;" .null) (F_size : Fld Z h0 a "java/util/ArrayList" "size" "I" (.int (0 : Int32))) :
    MetFree l (⟨"java/util/AbstractList", "<init>", "()V"⟩ : MethodName) (head1 (Jvm.Cond.code (⟨"java/util/AbstractList", "<init>", "()V"⟩ : MethodName) jdk_39_method_1_code 1 none :: ws) ({ frames := 2, cells := 0, slots := 0, locals := 24 } : Room)) (fun ar U => ar = #[(.ref a)] ∧ Z.Warmed39 U.vm ∧ U.heap = h0) (fun _ _ _ _ _ => True) (fun _ U o U' => ∃ v L, o = .returned v ∧ Q2 Z a h0 n0 v U'.heap L ∧ FrameEnd U o U' L ({ frames := 2, cells := 0, slots := 0, locals := 24 } : Room).cells ({ frames := 2, cells := 0, slots := 0, locals := 24 } : Room).slots) := by
  refine MetFree.of_bodySF (plainFor_of_name pn_java_util_AbstractList) hisR ?_
  intro p e s m args below meth c s₁ Bd hml0 hP hK
  obtain ⟨rfl, hZ, hh⟩ := hP
  have hx := Bd.exec
  have hby := Bd.bytes
  have hml : c.maxLocals = 1 := hml0
  have hown : s.vm.findClass "java/util/AbstractList" = some m.cls := findClass_of_methodNamed Bd.named
  have hnm := (name_of_methodNamed Bd.named Bd.method).1
  have X0 : Stand p l e ({ frames := 2, cells := 0, slots := 0, locals := 24 } : Room) s m #[(.ref a)] below meth c s₁ [] 0 0 := Stand.of_body Bd
  have e0 : s₁.heap = h0 := by rw [← hh, Bd.state]; rfl
  have N0 := Fr.nil n0
  obtain ⟨F, hF⟩ : ∃ F, F = own_Fin s (Q2 Z a h0 n0) ({ frames := 2, cells := 0, slots := 0, locals := 24 } : Room).cells ({ frames := 2, cells := 0, slots := 0, locals := 24 } : Room).slots := ⟨_, rfl⟩
  show own_Ends p e below (own_Fin s (Q2 Z a h0 n0) ({ frames := 2, cells := 0, slots := 0, locals := 24 } : Room).cells ({ frames := 2, cells := 0, slots := 0, locals := 24 } : Room).slots) _
  rw [← hF, ef_rm2 m a]
  show own_Ends p e below F (s₁.setTop (mkF m 0 #[.val (.ref a)] []))
  refine own_step (fun _ k => XS.aloadN X0.here hx rfl (hb hby d2_0) rfl rfl k) ?_
  show own_Ends p e below F (s₁.setTop (mkF m 1 #[.val (.ref a)] [(.ref a)]))
  obtain ⟨_, _, ⟨T1, L1, k1, n1⟩, -, X1, ⟨Lc1, hQ1, l1, y1, z1⟩, st1⟩ := X0.specialBack hx (y := (⟨"java/util/AbstractCollection", "<init>", "()V"⟩ : MethodName)) rfl hown (mvT hZ (own_g hw 12 rfl)) (mvT hZ (own_g hw 13 rfl)) (mvT hZ (own_g hw 17 rfl)) (by decide) (backOf (W := 0) (rm3 l Z a0 hw [] a h0 n0 Z0) hZ (own_g hw 17 rfl) (own_g hw 16 rfl) (by decide) (by decide)) (g := (mkF m 1 #[.val (.ref a)] [(.ref a)])) rfl (by rw [hml]; rfl) (Steps.refl _) (a := a) (argsL := []) (rest := []) (lenOf pd__28_29V rfl) rfl (by show 2 * 0 + _ ≤ _; exact Nat.le_of_eq rfl) (hb hby d2_1) (fun _ _ => ⟨rfl, e0, (by decide : 0 + 0 ≤ _), (by decide : 0 + 0 ≤ _)⟩)
  dsimp only [Pt.U, Pt.locs, Pt.cells, Pt.slots] at X1 l1 y1 z1 st1 hQ1
  subst l1 y1 z1
  obtain ⟨rfl, Nq1, eq1⟩ := hQ1
  have N1 := Fr.app N0 Nq1
  refine own_trans st1 ?_
  show own_Ends p e below F (T1.setTop (mkF m 4 #[.val (.ref a)] []))
  refine own_step (fun _ k => XS.aloadN X1.here hx rfl (hb hby d2_4) rfl rfl k) ?_
  show own_Ends p e below F (T1.setTop (mkF m 5 #[.val (.ref a)] [(.ref a)]))
  refine own_step (fun _ k => XS.iconst X1.here hx rfl (hb hby d2_5) k) ?_
  show own_Ends p e below F (T1.setTop (mkF m 6 #[.val (.ref a)] [(.int (0 : Int32)), (.ref a)]))
  obtain ⟨T2, h2, X2, e2, W2, st2⟩ := putF X1 hx hZ hown (host := "") (Or.inl (own_g hw 21 rfl)) Via.refl eq1 F_modCount EX (Or.inl (own_g hw 22 rfl)) (own_g hw 1 rfl) (ty := .int) (by decide) rfl rfl (g := (mkF m 6 #[.val (.ref a)] [(.int (0 : Int32)), (.ref a)])) rfl rfl (hb hby d2_6)
  refine own_step st2 ?_
  have F2 := Fld.same W2 F_modCount
  have N2 := Fr.snoc X2 N1 ge
  have Z2 : n0 ≤ h2.size := by rw [W2.size]; exact Z0
  have SZ2 : h0.size ≤ h2.size := by rw [W2.size]; exact (Nat.le_refl h0.size)
  show own_Ends p e below F (T2.setTop (mkF m 9 #[.val (.ref a)] []))
  rw [hF]
  exact own_ret X2 (v := none) (fun _ => rfl) Bd.notSynchronized (fun fs hr => X2.returnOut hx Bd.returns (hb hby d2_9) hr) (by decide) (by decide) (by rw [e2]; exact ⟨rfl, N2, ((Keep.wr (Keep.refl _ _) W2 (Or.inl (List.mem_of_getElem? (i := 0) rfl))) : Keep h0 h2 [a]), (EX.wr W2), F2, (Fld.other W2 F_elementData (Or.inr (slot_ne (t := (.array (.object "java/lang/Object"))) (t' := .int) (Or.inl (own_g hw 25 rfl)) (Or.inl (own_g hw 22 rfl)) (by decide) (by decide) (by decide)))), (Fld.other W2 F_size (Or.inr (slot_ne (t := .int) (t' := .int) (Or.inl (own_g hw 47 rfl)) (Or.inl (own_g hw 22 rfl)) (by decide) (by decide) (by decide))))⟩)

theorem d1_0 : decode jdk_38_method_2_code 0 = .ok (.aload_n 0, 1) := by decide +kernel
theorem d1_1 : decode jdk_38_method_2_code 1 = .ok (.invokespecial 1, 3) := by decide +kernel
theorem d1_4 : decode jdk_38_method_2_code 4 = .ok (.aload_n 0, 1) := by decide +kernel
theorem d1_5 : decode jdk_38_method_2_code 5 = .ok (.getstatic 39, 3) := by decide +kernel
theorem d1_8 : decode jdk_38_method_2_code 8 = .ok (.putfield 9, 3) := by decide +kernel
theorem d1_11 : decode jdk_38_method_2_code 11 = .ok (.return_, 1) := by decide +kernel
theorem pn_java_util_ArrayList : plainName "java/util/ArrayList" = true := by first | (simp [plainName, overriddenIn]; done) | decide +kernel
theorem ef_rm1 (m : MethodId) (x0 : Addr) : entryFrame m #[(.ref x0)] 1 = mkF m 0 #[.val (.ref x0)] [] := by first | (simp [entryFrame, mkF, argsToLocals, Value.category, maxLocals]; done) | rfl
def Q1 (Z : State) (a dd : Addr) (h0 : Heap) (n0 : Nat) (v : Option Value) (h : Heap) (L : List Loc) : Prop := v = none ∧ Fr n0 L ∧ Keep h0 h [a] ∧ Exa Z h a "java/util/ArrayList" ∧ Fld Z h a "java/util/AbstractList" "modCount" "I" (.int (0 : Int32)) ∧ Fld Z h a "java/util/ArrayList" "elementData" "[Ljava/lang/Object;" (.ref dd) ∧ Fld Z h a "java/util/ArrayList" "size" "I" (.int (0 : Int32))
set_option maxRecDepth 65536 in
set_option maxHeartbeats 40000000 in
theorem rm1 (l : Launch) (Z : State) (a0 : Array Value) (hw : ∀ d ∈ tables_1, d.before a0 Z = true) (ws : List Jvm.Cond) (a dd : Addr) (h0 : Heap) (n0 : Nat) (Z0 : n0 ≤ h0.size) (EX : Exa Z h0 a "java/util/ArrayList") (ge : n0 ≤ a) (F_modCount : Fld Z h0 a "java/util/AbstractList" "modCount" "I" (.int (0 : Int32))) (F_elementData : Fld Z h0 a "java/util/ArrayList" "elementData" "[Ljava/lang/Object;" .null) (F_size : Fld Z h0 a "java/util/ArrayList" "size" "I" (.int (0 : Int32))) (SD : Sta Z h0 "java/util/ArrayList" "DEFAULTCAPACITY_EMPTY_ELEMENTDATA" "[Ljava/lang/Object;" (.ref dd)) :
    MetFree l (⟨"java/util/ArrayList", "<init>", "()V"⟩ : MethodName) (head1 (Jvm.Cond.code (⟨"java/util/ArrayList", "<init>", "()V"⟩ : MethodName) jdk_38_method_2_code 1 none :: ws) ({ frames := 3, cells := 0, slots := 0, locals := 36 } : Room)) (fun ar U => ar = #[(.ref a)] ∧ Z.Warmed39 U.vm ∧ U.heap = h0) (fun _ _ _ _ _ => True) (fun _ U o U' => ∃ v L, o = .returned v ∧ Q1 Z a dd h0 n0 v U'.heap L ∧ FrameEnd U o U' L ({ frames := 3, cells := 0, slots := 0, locals := 36 } : Room).cells ({ frames := 3, cells := 0, slots := 0, locals := 36 } : Room).slots) := by
  refine MetFree.of_bodySF (plainFor_of_name pn_java_util_ArrayList) hisR ?_
  intro p e s m args below meth c s₁ Bd hml0 hP hK
  obtain ⟨rfl, hZ, hh⟩ := hP
  have hx := Bd.exec
  have hby := Bd.bytes
  have hml : c.maxLocals = 1 := hml0
  have hown : s.vm.findClass "java/util/ArrayList" = some m.cls := findClass_of_methodNamed Bd.named
  have hnm := (name_of_methodNamed Bd.named Bd.method).1
  have X0 : Stand p l e ({ frames := 3, cells := 0, slots := 0, locals := 36 } : Room) s m #[(.ref a)] below meth c s₁ [] 0 0 := Stand.of_body Bd
  have e0 : s₁.heap = h0 := by rw [← hh, Bd.state]; rfl
  have N0 := Fr.nil n0
  obtain ⟨F, hF⟩ : ∃ F, F = own_Fin s (Q1 Z a dd h0 n0) ({ frames := 3, cells := 0, slots := 0, locals := 36 } : Room).cells ({ frames := 3, cells := 0, slots := 0, locals := 36 } : Room).slots := ⟨_, rfl⟩
  show own_Ends p e below (own_Fin s (Q1 Z a dd h0 n0) ({ frames := 3, cells := 0, slots := 0, locals := 36 } : Room).cells ({ frames := 3, cells := 0, slots := 0, locals := 36 } : Room).slots) _
  rw [← hF, ef_rm1 m a]
  show own_Ends p e below F (s₁.setTop (mkF m 0 #[.val (.ref a)] []))
  refine own_step (fun _ k => XS.aloadN X0.here hx rfl (hb hby d1_0) rfl rfl k) ?_
  show own_Ends p e below F (s₁.setTop (mkF m 1 #[.val (.ref a)] [(.ref a)]))
  obtain ⟨_, _, ⟨T1, L1, k1, n1⟩, -, X1, ⟨Lc1, hQ1, l1, y1, z1⟩, st1⟩ := X0.specialBack hx (y := (⟨"java/util/AbstractList", "<init>", "()V"⟩ : MethodName)) rfl hown (mvT hZ (own_g hw 6 rfl)) (mvT hZ (own_g hw 7 rfl)) (mvT hZ (own_g hw 11 rfl)) (by decide) (backOf (W := 0) (rm2 l Z a0 hw [] a  h0 n0 Z0 EX ge F_modCount F_elementData F_size ) hZ (own_g hw 11 rfl) (own_g hw 10 rfl) (by decide) (by decide)) (g := (mkF m 1 #[.val (.ref a)] [(.ref a)])) rfl (by rw [hml]; rfl) (Steps.refl _) (a := a) (argsL := []) (rest := []) (lenOf pd__28_29V rfl) rfl (by show 2 * 0 + _ ≤ _; exact Nat.le_of_eq rfl) (hb hby d1_1) (fun _ _ => ⟨rfl, e0, (by decide : 0 + 0 ≤ _), (by decide : 0 + 0 ≤ _)⟩)
  dsimp only [Pt.U, Pt.locs, Pt.cells, Pt.slots] at X1 l1 y1 z1 st1 hQ1
  subst l1 y1 z1
  obtain ⟨rfl, Nq1, Kq1, fq0_1, fq1_1, fq2_1, fq3_1⟩ := hQ1
  have N1 := Fr.app N0 Nq1
  have Z1 : n0 ≤ T1.heap.size := Nat.le_trans Z0 Kq1.1
  have SZ1 : h0.size ≤ T1.heap.size := Nat.le_trans (Nat.le_refl h0.size) Kq1.1
  have S0_1 := own_Sta_keep SD Kq1 (allS (own_ns_exa EX) all0)
  refine own_trans st1 ?_
  show own_Ends p e below F (T1.setTop (mkF m 4 #[.val (.ref a)] []))
  refine own_step (fun _ k => XS.aloadN X1.here hx rfl (hb hby d1_4) rfl rfl k) ?_
  show own_Ends p e below F (T1.setTop (mkF m 5 #[.val (.ref a)] [(.ref a)]))
  obtain ⟨T2, X2, e2, st2⟩ := getS2 X1 hx hZ hown (host := "") (Or.inl (own_g hw 23 rfl)) Via.refl rfl S0_1 (g := (mkF m 5 #[.val (.ref a)] [(.ref a)])) rfl (hb hby d1_5)
  refine own_step st2 ?_
  show own_Ends p e below F (T2.setTop (mkF m 8 #[.val (.ref a)] [(.ref dd), (.ref a)]))
  obtain ⟨T3, h3, X3, e3, W3, st3⟩ := putF X2 hx hZ hown (host := "") (Or.inl (own_g hw 24 rfl)) Via.refl e2 fq2_1 fq0_1 (Or.inl (own_g hw 25 rfl)) (own_g hw 1 rfl) (ty := (.array (.object "java/lang/Object"))) (by decide) rfl rfl (g := (mkF m 8 #[.val (.ref a)] [(.ref dd), (.ref a)])) rfl rfl (hb hby d1_8)
  refine own_step st3 ?_
  have F3 := Fld.same W3 fq2_1
  have N3 := Fr.snoc X3 N1 ge
  have Z3 : n0 ≤ h3.size := by rw [W3.size]; exact Z1
  have SZ3 : h0.size ≤ h3.size := by rw [W3.size]; exact SZ1
  show own_Ends p e below F (T3.setTop (mkF m 11 #[.val (.ref a)] []))
  rw [hF]
  exact own_ret X3 (v := none) (fun _ => rfl) Bd.notSynchronized (fun fs hr => X3.returnOut hx Bd.returns (hb hby d1_11) hr) (by decide) (by decide) (by rw [e3]; exact ⟨rfl, N3, ((Keep.wr (Keep.trans (Keep.refl _ _) Kq1 (allS (Or.inl (List.mem_of_getElem? (i := 0) rfl)) all0)) W3 (Or.inl (List.mem_of_getElem? (i := 0) rfl))) : Keep h0 h3 [a]), (fq0_1.wr W3), (Fld.other W3 fq1_1 (Or.inr (slot_ne (t := .int) (t' := (.array (.object "java/lang/Object"))) (Or.inl (own_g hw 22 rfl)) (Or.inl (own_g hw 25 rfl)) (by decide) (by decide) (by decide)))), F3, (Fld.other W3 fq3_1 (Or.inr (slot_ne (t := .int) (t' := (.array (.object "java/lang/Object"))) (Or.inl (own_g hw 47 rfl)) (Or.inl (own_g hw 25 rfl)) (by decide) (by decide) (by decide))))⟩)

theorem d24_0 : decode jdk_29_method_65_code 0 = .ok (.iload_n 0, 1) := by decide +kernel
theorem d24_1 : decode jdk_29_method_65_code 1 = .ok (.iload_n 1, 1) := by decide +kernel
theorem d24_2 : decode jdk_29_method_65_code 2 = .ok (.if_icmp .lt 7, 3) := by decide +kernel
theorem d24_5 : decode jdk_29_method_65_code 5 = .ok (.iload_n 0, 1) := by decide +kernel
theorem d24_6 : decode jdk_29_method_65_code 6 = .ok (.goto 4, 3) := by decide +kernel
theorem d24_9 : decode jdk_29_method_65_code 9 = .ok (.iload_n 1, 1) := by decide +kernel
theorem d24_10 : decode jdk_29_method_65_code 10 = .ok (.ireturn, 1) := by decide +kernel
theorem ef_rm24 (m : MethodId) (x0 : Int32) (x1 : Int32) : entryFrame m #[(.int x0), (.int x1)] 2 = mkF m 0 #[.val (.int x0), .val (.int x1)] [] := by first | (simp [entryFrame, mkF, argsToLocals, Value.category, maxLocals]; done) | rfl
def Q24 (Z : State) (p1 p2 : Int32) (h0 : Heap) (n0 : Nat) (v : Option Value) (h : Heap) (L : List Loc) : Prop := v = some (.int (if p1 < p2 then p2 else p1)) ∧ Fr n0 L ∧ h = h0
set_option maxRecDepth 65536 in
set_option maxHeartbeats 40000000 in
theorem rm24 (l : Launch) (Z : State) (a0 : Array Value) (hw : ∀ d ∈ tables_1, d.before a0 Z = true) (ws : List Jvm.Cond) (p1 p2 : Int32) (h0 : Heap) (n0 : Nat) (Z0 : n0 ≤ h0.size)  :
    MetFree l (⟨"java/lang/Math", "max", "(II)I"⟩ : MethodName) (head1 (Jvm.Cond.code (⟨"java/lang/Math", "max", "(II)I"⟩ : MethodName) jdk_29_method_65_code 2 (some .int) :: ws) ({ frames := 0, cells := 0, slots := 0, locals := 0 } : Room)) (fun ar U => ar = #[(.int p1), (.int p2)] ∧ Z.Warmed39 U.vm ∧ U.heap = h0) (fun _ _ _ _ _ => True) (fun _ U o U' => ∃ v L, o = .returned v ∧ Q24 Z p1 p2 h0 n0 v U'.heap L ∧ FrameEnd U o U' L ({ frames := 0, cells := 0, slots := 0, locals := 0 } : Room).cells ({ frames := 0, cells := 0, slots := 0, locals := 0 } : Room).slots) := by
  refine MetFree.of_bodySF (Jvm.Free.JP.mathPlain rfl (by decide +kernel)) hisR ?_
  intro p e s m args below meth c s₁ Bd hml0 hP hK
  obtain ⟨rfl, hZ, hh⟩ := hP
  have hx := Bd.exec
  have hby := Bd.bytes
  have hml : c.maxLocals = 2 := hml0
  have hown : s.vm.findClass "java/lang/Math" = some m.cls := findClass_of_methodNamed Bd.named
  have hnm := (name_of_methodNamed Bd.named Bd.method).1
  have X0 : Stand p l e ({ frames := 0, cells := 0, slots := 0, locals := 0 } : Room) s m #[(.int p1), (.int p2)] below meth c s₁ [] 0 0 := Stand.of_body Bd
  have e0 : s₁.heap = h0 := by rw [← hh, Bd.state]; rfl
  have N0 := Fr.nil n0
  obtain ⟨F, hF⟩ : ∃ F, F = own_Fin s (Q24 Z p1 p2 h0 n0) ({ frames := 0, cells := 0, slots := 0, locals := 0 } : Room).cells ({ frames := 0, cells := 0, slots := 0, locals := 0 } : Room).slots := ⟨_, rfl⟩
  show own_Ends p e below (own_Fin s (Q24 Z p1 p2 h0 n0) ({ frames := 0, cells := 0, slots := 0, locals := 0 } : Room).cells ({ frames := 0, cells := 0, slots := 0, locals := 0 } : Room).slots) _
  rw [← hF, ef_rm24 m p1 p2]
  show own_Ends p e below F (s₁.setTop (mkF m 0 #[.val (.int p1), .val (.int p2)] []))
  refine own_step (fun _ k => XS.iloadN X0.here hx rfl (hb hby d24_0) rfl k) ?_
  show own_Ends p e below F (s₁.setTop (mkF m 1 #[.val (.int p1), .val (.int p2)] [(.int p1)]))
  refine own_step (fun _ k => XS.iloadN X0.here hx rfl (hb hby d24_1) rfl k) ?_
  show own_Ends p e below F (s₁.setTop (mkF m 2 #[.val (.int p1), .val (.int p2)] [(.int p2), (.int p1)]))
  by_cases c2_1 : p1 < p2
  · refine own_step (fun _ k => XS.icmpYes X0.here hx rfl (pc0 := 2) (pc' := 9) rfl (hb hby d24_2) rfl (tlt c2_1).1 (by decide) (by decide) k) ?_
    show own_Ends p e below F (s₁.setTop (mkF m 9 #[.val (.int p1), .val (.int p2)] []))
    refine own_step (fun _ k => XS.iloadN X0.here hx rfl (hb hby d24_9) rfl k) ?_
    show own_Ends p e below F (s₁.setTop (mkF m 10 #[.val (.int p1), .val (.int p2)] [(.int p2)]))
    rw [hF]
    exact own_ret X0 (v := (some (.int p2))) (fun h => by rw [Bd.returns] at h; cases h) Bd.notSynchronized (fun fs hr => own_retI X0 hx Bd.returns (hb hby d24_10) hr) (by decide) (by decide) (by rw [e0]; exact ⟨by simp only [c2_1, if_true, if_false], N0, rfl⟩)
  · refine own_step (fun _ k => XS.icmpNo X0.here hx rfl (hb hby d24_2) rfl (flt c2_1).1 k) ?_
    show own_Ends p e below F (s₁.setTop (mkF m 5 #[.val (.int p1), .val (.int p2)] []))
    refine own_step (fun _ k => XS.iloadN X0.here hx rfl (hb hby d24_5) rfl k) ?_
    show own_Ends p e below F (s₁.setTop (mkF m 6 #[.val (.int p1), .val (.int p2)] [(.int p1)]))
    refine own_step (fun _ k => XS.goto X0.here hx rfl (pc0 := 6) (pc' := 10) rfl (hb hby d24_6) (by decide) (by decide) k) ?_
    show own_Ends p e below F (s₁.setTop (mkF m 10 #[.val (.int p1), .val (.int p2)] [(.int p1)]))
    rw [hF]
    exact own_ret X0 (v := (some (.int p1))) (fun h => by rw [Bd.returns] at h; cases h) Bd.notSynchronized (fun fs hr => own_retI X0 hx Bd.returns (hb hby d24_10) hr) (by decide) (by decide) (by rw [e0]; exact ⟨by simp only [c2_1, if_true, if_false], N0, rfl⟩)

theorem d23_0 : decode jdk_38_method_6_code 0 = .ok (.aload_n 0, 1) := by decide +kernel
theorem d23_1 : decode jdk_38_method_6_code 1 = .ok (.getfield 9, 3) := by decide +kernel
theorem d23_4 : decode jdk_38_method_6_code 4 = .ok (.arraylength, 1) := by decide +kernel
theorem d23_5 : decode jdk_38_method_6_code 5 = .ok (.istore_n 2, 1) := by decide +kernel
theorem d23_6 : decode jdk_38_method_6_code 6 = .ok (.iload_n 2, 1) := by decide +kernel
theorem d23_7 : decode jdk_38_method_6_code 7 = .ok (.ifCond .gt 13, 3) := by decide +kernel
theorem d23_10 : decode jdk_38_method_6_code 10 = .ok (.aload_n 0, 1) := by decide +kernel
theorem d23_11 : decode jdk_38_method_6_code 11 = .ok (.getfield 9, 3) := by decide +kernel
theorem d23_14 : decode jdk_38_method_6_code 14 = .ok (.getstatic 39, 3) := by decide +kernel
theorem d23_17 : decode jdk_38_method_6_code 17 = .ok (.if_acmp .eq 28, 3) := by decide +kernel
theorem d23_45 : decode jdk_38_method_6_code 45 = .ok (.aload_n 0, 1) := by decide +kernel
theorem d23_46 : decode jdk_38_method_6_code 46 = .ok (.bipush 10, 2) := by decide +kernel
theorem d23_48 : decode jdk_38_method_6_code 48 = .ok (.iload_n 1, 1) := by decide +kernel
theorem d23_49 : decode jdk_38_method_6_code 49 = .ok (.invokestatic 79, 3) := by decide +kernel
theorem d23_52 : decode jdk_38_method_6_code 52 = .ok (.anewarray 7, 3) := by decide +kernel
theorem d23_55 : decode jdk_38_method_6_code 55 = .ok (.dup_x1, 1) := by decide +kernel
theorem d23_56 : decode jdk_38_method_6_code 56 = .ok (.putfield 9, 3) := by decide +kernel
theorem d23_59 : decode jdk_38_method_6_code 59 = .ok (.areturn, 1) := by decide +kernel
theorem pd__28II_29I : parseMethodDescriptor "(II)I" = some ⟨[.int, .int], some .int⟩ := by decide +kernel
theorem ef_rm23 (m : MethodId) (x0 : Addr) (x1 : Int32) : entryFrame m #[(.ref x0), (.int x1)] 4 = mkF m 0 #[.val (.ref x0), .val (.int x1), .unset, .unset] [] := by first | (simp [entryFrame, mkF, argsToLocals, Value.category, maxLocals]; done) | rfl
def Q23 (Z : State) (a dd : Addr) (kd : ClassId) (h0 : Heap) (n0 : Nat) (v : Option Value) (h : Heap) (L : List Loc) : Prop := ∃ c k, v = some (.ref c) ∧ Fr n0 L ∧ Keep h0 h [a] ∧ h0.size ≤ c ∧ Exa Z h a "java/util/ArrayList" ∧ Fld Z h a "java/util/AbstractList" "modCount" "I" (.int (1 : Int32)) ∧ Fld Z h a "java/util/ArrayList" "elementData" "[Ljava/lang/Object;" (.ref c) ∧ Fld Z h a "java/util/ArrayList" "size" "I" (.int (0 : Int32)) ∧ Arv Z h c k (.object "java/lang/Object") (10 : Int32) [.null, .null, .null, .null, .null, .null, .null, .null, .null, .null] .null ∧ Ovr Z k "java/lang/Object" ∧ Exa Z h c "[Ljava/lang/Object;"
set_option maxRecDepth 65536 in
set_option maxHeartbeats 40000000 in
theorem rm23 (l : Launch) (Z : State) (a0 : Array Value) (hw : ∀ d ∈ tables_1, d.before a0 Z = true) (ws : List Jvm.Cond) (a dd : Addr) (kd : ClassId) (h0 : Heap) (n0 : Nat) (Z0 : n0 ≤ h0.size) (EX : Exa Z h0 a "java/util/ArrayList") (ge : n0 ≤ a) (F_modCount : Fld Z h0 a "java/util/AbstractList" "modCount" "I" (.int (1 : Int32))) (F_elementData : Fld Z h0 a "java/util/ArrayList" "elementData" "[Ljava/lang/Object;" (.ref dd)) (F_size : Fld Z h0 a "java/util/ArrayList" "size" "I" (.int (0 : Int32))) (SD : Sta Z h0 "java/util/ArrayList" "DEFAULTCAPACITY_EMPTY_ELEMENTDATA" "[Ljava/lang/Object;" (.ref dd)) (VD : Arv Z h0 dd kd (.object "java/lang/Object") (0 : Int32) [] .null) :
    MetFree l (⟨"java/util/ArrayList", "grow", "(I)[Ljava/lang/Object;"⟩ : MethodName) (head1 (Jvm.Cond.code (⟨"java/util/ArrayList", "grow", "(I)[Ljava/lang/Object;"⟩ : MethodName) jdk_38_method_6_code 4 (some (.array (.object "java/lang/Object"))) :: ws) ({ frames := 1, cells := 1, slots := 10, locals := 14 } : Room)) (fun ar U => ar = #[(.ref a), (.int (1 : Int32))] ∧ Z.Warmed39 U.vm ∧ U.heap = h0) (fun _ _ _ _ _ => True) (fun _ U o U' => ∃ v L, o = .returned v ∧ Q23 Z a dd kd h0 n0 v U'.heap L ∧ FrameEnd U o U' L ({ frames := 1, cells := 1, slots := 10, locals := 14 } : Room).cells ({ frames := 1, cells := 1, slots := 10, locals := 14 } : Room).slots) := by
  refine MetFree.of_bodySF (plainFor_of_name pn_java_util_ArrayList) hisR ?_
  intro p e s m args below meth c s₁ Bd hml0 hP hK
  obtain ⟨rfl, hZ, hh⟩ := hP
  have hx := Bd.exec
  have hby := Bd.bytes
  have hml : c.maxLocals = 4 := hml0
  have hown : s.vm.findClass "java/util/ArrayList" = some m.cls := findClass_of_methodNamed Bd.named
  have hnm := (name_of_methodNamed Bd.named Bd.method).1
  have X0 : Stand p l e ({ frames := 1, cells := 1, slots := 10, locals := 14 } : Room) s m #[(.ref a), (.int (1 : Int32))] below meth c s₁ [] 0 0 := Stand.of_body Bd
  have e0 : s₁.heap = h0 := by rw [← hh, Bd.state]; rfl
  have N0 := Fr.nil n0
  obtain ⟨F, hF⟩ : ∃ F, F = own_Fin s (Q23 Z a dd kd h0 n0) ({ frames := 1, cells := 1, slots := 10, locals := 14 } : Room).cells ({ frames := 1, cells := 1, slots := 10, locals := 14 } : Room).slots := ⟨_, rfl⟩
  show own_Ends p e below (own_Fin s (Q23 Z a dd kd h0 n0) ({ frames := 1, cells := 1, slots := 10, locals := 14 } : Room).cells ({ frames := 1, cells := 1, slots := 10, locals := 14 } : Room).slots) _
  rw [← hF, ef_rm23 m a (1 : Int32)]
  show own_Ends p e below F (s₁.setTop (mkF m 0 #[.val (.ref a), .val (.int (1 : Int32)), .unset, .unset] []))
  refine own_step (fun _ k => XS.aloadN X0.here hx rfl (hb hby d23_0) rfl rfl k) ?_
  show own_Ends p e below F (s₁.setTop (mkF m 1 #[.val (.ref a), .val (.int (1 : Int32)), .unset, .unset] [(.ref a)]))
  obtain ⟨T1, X1, e1, st1⟩ := getF X0 hx hZ hown (host := "") (Or.inl (own_g hw 24 rfl)) Via.refl e0 F_elementData (g := (mkF m 1 #[.val (.ref a), .val (.int (1 : Int32)), .unset, .unset] [(.ref a)])) rfl rfl (hb hby d23_1)
  refine own_step st1 ?_
  show own_Ends p e below F (T1.setTop (mkF m 4 #[.val (.ref a), .val (.int (1 : Int32)), .unset, .unset] [(.ref dd)]))
  obtain ⟨cl2, Ar2, q2, S2, M2, H2, G2⟩ := id VD
  have al2 := X1.arraylength hx (by rw [e1]; exact Ar2.1) (State.isArrayOf_alike hZ.alike Ar2.2.1) (g := (mkF m 4 #[.val (.ref a), .val (.int (1 : Int32)), .unset, .unset] [(.ref dd)])) rfl rfl (hb hby d23_4)
  rw [len_of S2 M2] at al2
  refine own_step al2 ?_
  show own_Ends p e below F (T1.setTop (mkF m 5 #[.val (.ref a), .val (.int (1 : Int32)), .unset, .unset] [(.int (0 : Int32))]))
  refine own_step (fun _ k => XS.istoreN X1.here hx rfl (hb hby d23_5) rfl (l' := #[.val (.ref a), .val (.int (1 : Int32)), .val (.int (0 : Int32)), .unset]) rfl k) ?_
  show own_Ends p e below F (T1.setTop (mkF m 6 #[.val (.ref a), .val (.int (1 : Int32)), .val (.int (0 : Int32)), .unset] []))
  refine own_step (fun _ k => XS.iloadN X1.here hx rfl (hb hby d23_6) rfl k) ?_
  show own_Ends p e below F (T1.setTop (mkF m 7 #[.val (.ref a), .val (.int (1 : Int32)), .val (.int (0 : Int32)), .unset] [(.int (0 : Int32))]))
  refine own_step (fun _ k => XS.ifNo X1.here hx rfl (hb hby d23_7) rfl ((if0 _ _).trans (flt (by decide : ¬ ((0 : Int32) < (0 : Int32)))).2.2.1) k) ?_
  show own_Ends p e below F (T1.setTop (mkF m 10 #[.val (.ref a), .val (.int (1 : Int32)), .val (.int (0 : Int32)), .unset] []))
  refine own_step (fun _ k => XS.aloadN X1.here hx rfl (hb hby d23_10) rfl rfl k) ?_
  show own_Ends p e below F (T1.setTop (mkF m 11 #[.val (.ref a), .val (.int (1 : Int32)), .val (.int (0 : Int32)), .unset] [(.ref a)]))
  obtain ⟨T3, X3, e3, st3⟩ := getF X1 hx hZ hown (host := "") (Or.inl (own_g hw 24 rfl)) Via.refl e1 F_elementData (g := (mkF m 11 #[.val (.ref a), .val (.int (1 : Int32)), .val (.int (0 : Int32)), .unset] [(.ref a)])) rfl rfl (hb hby d23_11)
  refine own_step st3 ?_
  show own_Ends p e below F (T3.setTop (mkF m 14 #[.val (.ref a), .val (.int (1 : Int32)), .val (.int (0 : Int32)), .unset] [(.ref dd)]))
  obtain ⟨T4, X4, e4, st4⟩ := getS2 X3 hx hZ hown (host := "") (Or.inl (own_g hw 23 rfl)) Via.refl e3 SD (g := (mkF m 14 #[.val (.ref a), .val (.int (1 : Int32)), .val (.int (0 : Int32)), .unset] [(.ref dd)])) rfl (hb hby d23_14)
  refine own_step st4 ?_
  show own_Ends p e below F (T4.setTop (mkF m 17 #[.val (.ref a), .val (.int (1 : Int32)), .val (.int (0 : Int32)), .unset] [(.ref dd), (.ref dd)]))
  refine own_step (fun _ k => Jvm.RoadKit.acmp (below := below) (g := (mkF m 17 #[.val (.ref a), .val (.int (1 : Int32)), .val (.int (0 : Int32)), .unset] [(.ref dd), (.ref dd)])) X4 hx rfl rfl rfl (pc0 := 17) (pc' := 45) (same := true) rfl (hb hby d23_17) rfl (decide_eq_true rfl) (by decide) (by decide) k) ?_
  show own_Ends p e below F (T4.setTop (mkF m 45 #[.val (.ref a), .val (.int (1 : Int32)), .val (.int (0 : Int32)), .unset] []))
  refine own_step (fun _ k => XS.aloadN X4.here hx rfl (hb hby d23_45) rfl rfl k) ?_
  show own_Ends p e below F (T4.setTop (mkF m 46 #[.val (.ref a), .val (.int (1 : Int32)), .val (.int (0 : Int32)), .unset] [(.ref a)]))
  refine own_step (fun _ k => XS.bipush X4.here hx rfl (hb hby d23_46) k) ?_
  show own_Ends p e below F (T4.setTop (mkF m 48 #[.val (.ref a), .val (.int (1 : Int32)), .val (.int (0 : Int32)), .unset] [(.int (10 : Int32)), (.ref a)]))
  refine own_step (fun _ k => XS.iloadN X4.here hx rfl (hb hby d23_48) rfl k) ?_
  show own_Ends p e below F (T4.setTop (mkF m 49 #[.val (.ref a), .val (.int (1 : Int32)), .val (.int (0 : Int32)), .unset] [(.int (1 : Int32)), (.int (10 : Int32)), (.ref a)]))
  obtain ⟨_, _, ⟨T5, L5, k5, n5⟩, -, X5, ⟨Lc5, hQ5, l5, y5, z5⟩, st5⟩ := Jvm.LawKit.callS X4 hx (y := (⟨"java/lang/Math", "max", "(II)I"⟩ : MethodName)) hown (mvT hZ (own_g hw 179 rfl)) (mvT hZ (own_g hw 180 rfl)) (mvT hZ (own_g hw 66 rfl)) (mvT hZ (own_g hw 181 rfl)) (by decide) (backOf (W := 1) (rm24 l Z a0 hw [] (10 : Int32) (1 : Int32) h0 n0 Z0) hZ (own_g hw 181 rfl) (own_g hw 66 rfl) (by decide) (by decide)) (g := (mkF m 49 #[.val (.ref a), .val (.int (1 : Int32)), .val (.int (0 : Int32)), .unset] [(.int (1 : Int32)), (.int (10 : Int32)), (.ref a)])) rfl (by rw [hml]; rfl) (argsL := [(.int (10 : Int32)), (.int (1 : Int32))]) (rest := [(.ref a)]) (lenOf pd__28II_29I rfl) rfl (by show 2 * 0 + _ ≤ _; exact Nat.le_of_eq rfl) (hb hby d23_49) (fun _ _ => ⟨rfl, e4, (by decide : 0 + 0 ≤ _), (by decide : 0 + 0 ≤ _)⟩)
  dsimp only [Pt.U, Pt.locs, Pt.cells, Pt.slots] at X5 l5 y5 z5 st5 hQ5
  subst l5 y5 z5
  obtain ⟨rfl, Nq5, eq5⟩ := hQ5
  have N5 := Fr.app N0 Nq5
  refine own_step st5 ?_
  show own_Ends p e below F (T5.setTop (mkF m 52 #[.val (.ref a), .val (.int (1 : Int32)), .val (.int (0 : Int32)), .unset] [(.int (if (10 : Int32) < (1 : Int32) then (1 : Int32) else (10 : Int32))), (.ref a)]))
  rw [show (if (10 : Int32) < (1 : Int32) then (1 : Int32) else (10 : Int32)) = (10 : Int32) from (by first | rfl | decide)]
  show own_Ends p e below F (T5.setTop (mkF m 52 #[.val (.ref a), .val (.int (1 : Int32)), .val (.int (0 : Int32)), .unset] [(.int (10 : Int32)), (.ref a)]))
  obtain ⟨T6, h6, k6, X6, e6, E6, A6, EA6, O6, st6⟩ := newRE X5 hx hZ hown (own_g hw 182 rfl) (own_g hw 63 rfl) eq5 (g := (mkF m 52 #[.val (.ref a), .val (.int (1 : Int32)), .val (.int (0 : Int32)), .unset] [(.int (10 : Int32)), (.ref a)])) rfl (hb hby d23_52) rfl (by decide) (cap := 10) (by decide) (by decide) (by decide) (by decide) (ad := "[Ljava/lang/Object;") (by decide)
  obtain ⟨a6, g6⟩ : ∃ z, z = h0.size := ⟨_, rfl⟩
  rw [← g6] at A6 EA6 st6
  have ge_a6 : n0 ≤ a6 := Nat.le_trans Z0 (Nat.le_of_eq g6.symm)
  have sz_a6 : h0.size ≤ a6 := Nat.le_trans (Nat.le_refl h0.size) (Nat.le_of_eq g6.symm)
  have ne_a_a6 : a ≠ a6 := Nat.ne_of_lt (by rw [g6]; exact EX.lt)
  have ne_dd_a6 : dd ≠ a6 := Nat.ne_of_lt (by rw [g6]; exact VD.lt)
  have Z6 : n0 ≤ h6.size := Nat.le_trans Z0 E6.1
  have SZ6 : h0.size ≤ h6.size := Nat.le_trans (Nat.le_refl h0.size) E6.1
  have V6 : Arv Z h6 a6 k6 (.object "java/lang/Object") (10 : Int32) [.null, .null, .null, .null, .null, .null, .null, .null, .null, .null] .null := Arv.pad (Arv.new A6 (by decide)) (pad_rep [] _ 10)
  refine own_step st6 ?_
  show own_Ends p e below F (T6.setTop (mkF m 55 #[.val (.ref a), .val (.int (1 : Int32)), .val (.int (0 : Int32)), .unset] [(.ref a6), (.ref a)]))
  refine own_step (fun _ k => XS.dupX1 X6.here hx rfl (hb hby d23_55) rfl rfl rfl k) ?_
  show own_Ends p e below F (T6.setTop (mkF m 56 #[.val (.ref a), .val (.int (1 : Int32)), .val (.int (0 : Int32)), .unset] [(.ref a6), (.ref a), (.ref a6)]))
  obtain ⟨T7, h7, X7, e7, W7, st7⟩ := putF X6 hx hZ hown (host := "") (Or.inl (own_g hw 24 rfl)) Via.refl e6 (F_elementData.ext E6) (EX.ext E6) (Or.inl (own_g hw 25 rfl)) (own_g hw 1 rfl) (ty := (.array (.object "java/lang/Object"))) (by decide) rfl rfl (g := (mkF m 56 #[.val (.ref a), .val (.int (1 : Int32)), .val (.int (0 : Int32)), .unset] [(.ref a6), (.ref a), (.ref a6)])) rfl rfl (hb hby d23_56)
  refine own_step st7 ?_
  have F7 := Fld.same W7 (F_elementData.ext E6)
  have N7 := Fr.snoc X7 N5 ge
  have Z7 : n0 ≤ h7.size := by rw [W7.size]; exact Z6
  have SZ7 : h0.size ≤ h7.size := by rw [W7.size]; exact SZ6
  show own_Ends p e below F (T7.setTop (mkF m 59 #[.val (.ref a), .val (.int (1 : Int32)), .val (.int (0 : Int32)), .unset] [(.ref a6)]))
  rw [hF]
  exact own_ret X7 (v := (some (.ref a6))) (fun h => by rw [Bd.returns] at h; cases h) Bd.notSynchronized (fun fs hr => retOut X7 hx (t := (.array (.object "java/lang/Object"))) (w := (.ref a6)) (i := .areturn) Bd.returns rfl (Or.inr (Or.inr (Or.inr (Or.inr ⟨rfl, rfl, rfl⟩)))) (hb hby d23_59) hr) (by decide) (by decide) (by rw [e7]; exact ⟨_, _, rfl, N7, ((Keep.wr (Keep.ext (Keep.refl _ _) E6) W7 (Or.inl (List.mem_of_getElem? (i := 0) rfl))) : Keep h0 h7 [a]), sz_a6, ((EX.ext E6).wr W7), (Fld.other W7 (F_modCount.ext E6) (Or.inr (slot_ne (t := .int) (t' := (.array (.object "java/lang/Object"))) (Or.inl (own_g hw 22 rfl)) (Or.inl (own_g hw 25 rfl)) (by decide) (by decide) (by decide)))), F7, (Fld.other W7 (F_size.ext E6) (Or.inr (slot_ne (t := .int) (t' := (.array (.object "java/lang/Object"))) (Or.inl (own_g hw 47 rfl)) (Or.inl (own_g hw 25 rfl)) (by decide) (by decide) (by decide)))), (V6.other W7 (Ne.symm ne_a_a6)), O6, (EA6.wr W7)⟩)

theorem d22_0 : decode jdk_38_method_7_code 0 = .ok (.aload_n 0, 1) := by decide +kernel
theorem d22_1 : decode jdk_38_method_7_code 1 = .ok (.aload_n 0, 1) := by decide +kernel
theorem d22_2 : decode jdk_38_method_7_code 2 = .ok (.getfield 48, 3) := by decide +kernel
theorem d22_5 : decode jdk_38_method_7_code 5 = .ok (.iconst 1, 1) := by decide +kernel
theorem d22_6 : decode jdk_38_method_7_code 6 = .ok (.iadd, 1) := by decide +kernel
theorem d22_7 : decode jdk_38_method_7_code 7 = .ok (.invokevirtual 69, 3) := by decide +kernel
theorem d22_10 : decode jdk_38_method_7_code 10 = .ok (.areturn, 1) := by decide +kernel
theorem pd__28I_29_5bLjava_2flang_2fObject_3b : parseMethodDescriptor "(I)[Ljava/lang/Object;" = some ⟨[.int], some (.array (.object "java/lang/Object"))⟩ := by decide +kernel
theorem ef_rm22 (m : MethodId) (x0 : Addr) : entryFrame m #[(.ref x0)] 1 = mkF m 0 #[.val (.ref x0)] [] := by first | (simp [entryFrame, mkF, argsToLocals, Value.category, maxLocals]; done) | rfl
def Q22 (Z : State) (a dd : Addr) (kd : ClassId) (h0 : Heap) (n0 : Nat) (v : Option Value) (h : Heap) (L : List Loc) : Prop := ∃ c k, v = some (.ref c) ∧ Fr n0 L ∧ Keep h0 h [a] ∧ h0.size ≤ c ∧ Exa Z h a "java/util/ArrayList" ∧ Fld Z h a "java/util/AbstractList" "modCount" "I" (.int (1 : Int32)) ∧ Fld Z h a "java/util/ArrayList" "elementData" "[Ljava/lang/Object;" (.ref c) ∧ Fld Z h a "java/util/ArrayList" "size" "I" (.int (0 : Int32)) ∧ Arv Z h c k (.object "java/lang/Object") (10 : Int32) [.null, .null, .null, .null, .null, .null, .null, .null, .null, .null] .null ∧ Ovr Z k "java/lang/Object" ∧ Exa Z h c "[Ljava/lang/Object;"
set_option maxRecDepth 65536 in
set_option maxHeartbeats 40000000 in
theorem rm22 (l : Launch) (Z : State) (a0 : Array Value) (hw : ∀ d ∈ tables_1, d.before a0 Z = true) (ws : List Jvm.Cond) (a dd : Addr) (kd : ClassId) (h0 : Heap) (n0 : Nat) (Z0 : n0 ≤ h0.size) (EX : Exa Z h0 a "java/util/ArrayList") (ge : n0 ≤ a) (F_modCount : Fld Z h0 a "java/util/AbstractList" "modCount" "I" (.int (1 : Int32))) (F_elementData : Fld Z h0 a "java/util/ArrayList" "elementData" "[Ljava/lang/Object;" (.ref dd)) (F_size : Fld Z h0 a "java/util/ArrayList" "size" "I" (.int (0 : Int32))) (SD : Sta Z h0 "java/util/ArrayList" "DEFAULTCAPACITY_EMPTY_ELEMENTDATA" "[Ljava/lang/Object;" (.ref dd)) (VD : Arv Z h0 dd kd (.object "java/lang/Object") (0 : Int32) [] .null) :
    MetFree l (⟨"java/util/ArrayList", "grow", "()[Ljava/lang/Object;"⟩ : MethodName) (head1 (Jvm.Cond.code (⟨"java/util/ArrayList", "grow", "()[Ljava/lang/Object;"⟩ : MethodName) jdk_38_method_7_code 1 (some (.array (.object "java/lang/Object"))) :: ws) ({ frames := 2, cells := 1, slots := 10, locals := 29 } : Room)) (fun ar U => ar = #[(.ref a)] ∧ Z.Warmed39 U.vm ∧ U.heap = h0) (fun _ _ _ _ _ => True) (fun _ U o U' => ∃ v L, o = .returned v ∧ Q22 Z a dd kd h0 n0 v U'.heap L ∧ FrameEnd U o U' L ({ frames := 2, cells := 1, slots := 10, locals := 29 } : Room).cells ({ frames := 2, cells := 1, slots := 10, locals := 29 } : Room).slots) := by
  refine MetFree.of_bodySF (plainFor_of_name pn_java_util_ArrayList) hisR ?_
  intro p e s m args below meth c s₁ Bd hml0 hP hK
  obtain ⟨rfl, hZ, hh⟩ := hP
  have hx := Bd.exec
  have hby := Bd.bytes
  have hml : c.maxLocals = 1 := hml0
  have hown : s.vm.findClass "java/util/ArrayList" = some m.cls := findClass_of_methodNamed Bd.named
  have hnm := (name_of_methodNamed Bd.named Bd.method).1
  have X0 : Stand p l e ({ frames := 2, cells := 1, slots := 10, locals := 29 } : Room) s m #[(.ref a)] below meth c s₁ [] 0 0 := Stand.of_body Bd
  have e0 : s₁.heap = h0 := by rw [← hh, Bd.state]; rfl
  have N0 := Fr.nil n0
  obtain ⟨F, hF⟩ : ∃ F, F = own_Fin s (Q22 Z a dd kd h0 n0) ({ frames := 2, cells := 1, slots := 10, locals := 29 } : Room).cells ({ frames := 2, cells := 1, slots := 10, locals := 29 } : Room).slots := ⟨_, rfl⟩
  show own_Ends p e below (own_Fin s (Q22 Z a dd kd h0 n0) ({ frames := 2, cells := 1, slots := 10, locals := 29 } : Room).cells ({ frames := 2, cells := 1, slots := 10, locals := 29 } : Room).slots) _
  rw [← hF, ef_rm22 m a]
  show own_Ends p e below F (s₁.setTop (mkF m 0 #[.val (.ref a)] []))
  refine own_step (fun _ k => XS.aloadN X0.here hx rfl (hb hby d22_0) rfl rfl k) ?_
  show own_Ends p e below F (s₁.setTop (mkF m 1 #[.val (.ref a)] [(.ref a)]))
  refine own_step (fun _ k => XS.aloadN X0.here hx rfl (hb hby d22_1) rfl rfl k) ?_
  show own_Ends p e below F (s₁.setTop (mkF m 2 #[.val (.ref a)] [(.ref a), (.ref a)]))
  obtain ⟨T1, X1, e1, st1⟩ := getF X0 hx hZ hown (host := "") (Or.inl (own_g hw 46 rfl)) Via.refl e0 F_size (g := (mkF m 2 #[.val (.ref a)] [(.ref a), (.ref a)])) rfl rfl (hb hby d22_2)
  refine own_step st1 ?_
  show own_Ends p e below F (T1.setTop (mkF m 5 #[.val (.ref a)] [(.int (0 : Int32)), (.ref a)]))
  refine own_step (fun _ k => XS.iconst X1.here hx rfl (hb hby d22_5) k) ?_
  show own_Ends p e below F (T1.setTop (mkF m 6 #[.val (.ref a)] [(.int (1 : Int32)), (.int (0 : Int32)), (.ref a)]))
  refine own_step (fun _ k => XS.iadd X1.here hx rfl (hb hby d22_6) rfl k) ?_
  show own_Ends p e below F (T1.setTop (mkF m 7 #[.val (.ref a)] [(.int (1 : Int32)), (.ref a)]))
  obtain ⟨cq2, q2, q2'⟩ := (EX).cell
  obtain ⟨_, _, ⟨T2, L2, k2, n2⟩, -, X2, ⟨Lc2, hQ2, l2, y2, z2⟩, st2⟩ := X1.privateBack hx (y := (⟨"java/util/ArrayList", "grow", "(I)[Ljava/lang/Object;"⟩ : MethodName)) hown (mvT hZ (own_g hw 174 rfl)) (mvT hZ (own_g hw 175 rfl)) (mvT hZ (own_g hw 177 rfl)) (Cond.privateMethod_at (mvP hZ (own_g hw 176 rfl) (args := #[]))) (mvT hZ (own_g hw 178 rfl)) (by decide) (backOf (W := 0) (rm23 l Z a0 hw [] a dd kd h0 n0 Z0 EX ge F_modCount F_elementData F_size SD VD) hZ (own_g hw 178 rfl) (own_g hw 2 rfl) (by decide) (by decide)) (g := (mkF m 7 #[.val (.ref a)] [(.int (1 : Int32)), (.ref a)])) rfl (by rw [hml]; rfl) (Steps.refl _) (a := a) (by rw [e1]; exact q2) q2' (argsL := [(.int (1 : Int32))]) (rest := []) (lenOf pd__28I_29_5bLjava_2flang_2fObject_3b rfl) rfl (by show 2 * 0 + _ ≤ _; exact Nat.le_of_eq rfl) (hb hby d22_7) (fun _ _ => ⟨rfl, e1, (by decide : 0 + 1 ≤ _), (by decide : 0 + 10 ≤ _)⟩)
  dsimp only [Pt.U, Pt.locs, Pt.cells, Pt.slots] at X2 l2 y2 z2 st2 hQ2
  subst l2 y2 z2
  obtain ⟨c2, kc2, rfl, Nq2, Kq2, fq0_2, fq1_2, fq2_2, fq3_2, fq4_2, fq5_2, fq6_2, fq7_2⟩ := hQ2
  have N2 := Fr.app N0 Nq2
  have Z2 : n0 ≤ T2.heap.size := Nat.le_trans Z0 Kq2.1
  have SZ2 : h0.size ≤ T2.heap.size := Nat.le_trans (Nat.le_refl h0.size) Kq2.1
  have S0_2 := own_Sta_keep SD Kq2 (allS (own_ns_exa EX) all0)
  have ne_a_c2 : a ≠ c2 := Nat.ne_of_lt (Nat.lt_of_lt_of_le (EX).lt fq0_2)
  have ne_dd_c2 : dd ≠ c2 := Nat.ne_of_lt (Nat.lt_of_lt_of_le (VD).lt fq0_2)
  have ge_c2 : n0 ≤ c2 := Nat.le_trans Z0 fq0_2
  have sz_c2 : h0.size ≤ c2 := Nat.le_trans (Nat.le_refl h0.size) fq0_2
  refine own_trans st2 ?_
  show own_Ends p e below F (T2.setTop (mkF m 10 #[.val (.ref a)] [(.ref c2)]))
  rw [hF]
  exact own_ret X2 (v := (some (.ref c2))) (fun h => by rw [Bd.returns] at h; cases h) Bd.notSynchronized (fun fs hr => retOut X2 hx (t := (.array (.object "java/lang/Object"))) (w := (.ref c2)) (i := .areturn) Bd.returns rfl (Or.inr (Or.inr (Or.inr (Or.inr ⟨rfl, rfl, rfl⟩)))) (hb hby d22_10) hr) (by decide) (by decide) (by exact ⟨_, _, rfl, N2, ((Keep.trans (Keep.refl _ _) Kq2 (allS (Or.inl (List.mem_of_getElem? (i := 0) rfl)) all0)) : Keep h0 T2.heap [a]), sz_c2, fq1_2, fq2_2, fq3_2, fq4_2, fq5_2, fq6_2, fq7_2⟩)

theorem d21_0 : decode jdk_38_method_24_code 0 = .ok (.iload_n 3, 1) := by decide +kernel
theorem d21_1 : decode jdk_38_method_24_code 1 = .ok (.aload_n 2, 1) := by decide +kernel
theorem d21_2 : decode jdk_38_method_24_code 2 = .ok (.arraylength, 1) := by decide +kernel
theorem d21_3 : decode jdk_38_method_24_code 3 = .ok (.if_icmp .ne 8, 3) := by decide +kernel
theorem d21_6 : decode jdk_38_method_24_code 6 = .ok (.aload_n 0, 1) := by decide +kernel
theorem d21_7 : decode jdk_38_method_24_code 7 = .ok (.invokevirtual 129, 3) := by decide +kernel
theorem d21_10 : decode jdk_38_method_24_code 10 = .ok (.astore_n 2, 1) := by decide +kernel
theorem d21_11 : decode jdk_38_method_24_code 11 = .ok (.aload_n 2, 1) := by decide +kernel
theorem d21_12 : decode jdk_38_method_24_code 12 = .ok (.iload_n 3, 1) := by decide +kernel
theorem d21_13 : decode jdk_38_method_24_code 13 = .ok (.aload_n 1, 1) := by decide +kernel
theorem d21_14 : decode jdk_38_method_24_code 14 = .ok (.aastore, 1) := by decide +kernel
theorem d21_15 : decode jdk_38_method_24_code 15 = .ok (.aload_n 0, 1) := by decide +kernel
theorem d21_16 : decode jdk_38_method_24_code 16 = .ok (.iload_n 3, 1) := by decide +kernel
theorem d21_17 : decode jdk_38_method_24_code 17 = .ok (.iconst 1, 1) := by decide +kernel
theorem d21_18 : decode jdk_38_method_24_code 18 = .ok (.iadd, 1) := by decide +kernel
theorem d21_19 : decode jdk_38_method_24_code 19 = .ok (.putfield 48, 3) := by decide +kernel
theorem d21_22 : decode jdk_38_method_24_code 22 = .ok (.return_, 1) := by decide +kernel
theorem pd__28_29_5bLjava_2flang_2fObject_3b : parseMethodDescriptor "()[Ljava/lang/Object;" = some ⟨[], some (.array (.object "java/lang/Object"))⟩ := by decide +kernel
theorem ef_rm21_0 (m : MethodId) (x0 : Addr) (x1 : Value) (x2 : Addr) (x3 : Int32) (c1 : Value.category x1 = 1) : entryFrame m #[(.ref x0), x1, (.ref x2), (.int x3)] 4 = mkF m 0 #[.val (.ref x0), .val x1, .val (.ref x2), .val (.int x3)] [] := by exact own_efl m [_, _, _, _] 4 (by intro v hv; simp only [List.mem_cons, List.not_mem_nil, or_false] at hv; rcases hv with rfl | rfl | rfl | rfl <;> first | rfl | assumption) rfl
def Q21_0 (Z : State) (a dd : Addr) (kd : ClassId) (eV : Value) (h0 : Heap) (n0 : Nat) (v : Option Value) (h : Heap) (L : List Loc) : Prop := ∃ c k, v = none ∧ Fr n0 L ∧ Keep h0 h [a] ∧ h0.size ≤ c ∧ Exa Z h a "java/util/ArrayList" ∧ Fld Z h a "java/util/AbstractList" "modCount" "I" (.int (1 : Int32)) ∧ Fld Z h a "java/util/ArrayList" "elementData" "[Ljava/lang/Object;" (.ref c) ∧ Fld Z h a "java/util/ArrayList" "size" "I" (.int (1 : Int32)) ∧ Arv Z h c k (.object "java/lang/Object") (10 : Int32) [eV, .null, .null, .null, .null, .null, .null, .null, .null, .null] .null ∧ Ovr Z k "java/lang/Object" ∧ Exa Z h c "[Ljava/lang/Object;"
set_option maxRecDepth 65536 in
set_option maxHeartbeats 40000000 in
theorem rm21_0 (l : Launch) (Z : State) (a0 : Array Value) (hw : ∀ d ∈ tables_1, d.before a0 Z = true) (ws : List Jvm.Cond) (a dd : Addr) (kd : ClassId) (eV : Value) (h0 : Heap) (n0 : Nat) (Z0 : n0 ≤ h0.size) (EX : Exa Z h0 a "java/util/ArrayList") (ge : n0 ≤ a) (F_modCount : Fld Z h0 a "java/util/AbstractList" "modCount" "I" (.int (1 : Int32))) (F_elementData : Fld Z h0 a "java/util/ArrayList" "elementData" "[Ljava/lang/Object;" (.ref dd)) (F_size : Fld Z h0 a "java/util/ArrayList" "size" "I" (.int (0 : Int32))) (HE : own_Ob Z h0 eV) (SD : Sta Z h0 "java/util/ArrayList" "DEFAULTCAPACITY_EMPTY_ELEMENTDATA" "[Ljava/lang/Object;" (.ref dd)) (VD : Arv Z h0 dd kd (.object "java/lang/Object") (0 : Int32) [] .null) :
    MetFree l (⟨"java/util/ArrayList", "add", "(Ljava/lang/Object;[Ljava/lang/Object;I)V"⟩ : MethodName) (head1 (Jvm.Cond.code (⟨"java/util/ArrayList", "add", "(Ljava/lang/Object;[Ljava/lang/Object;I)V"⟩ : MethodName) jdk_38_method_24_code 4 none :: ws) ({ frames := 3, cells := 1, slots := 10, locals := 41 } : Room)) (fun ar U => ar = #[(.ref a), eV, (.ref dd), (.int (0 : Int32))] ∧ Z.Warmed39 U.vm ∧ U.heap = h0) (fun _ _ _ _ _ => True) (fun _ U o U' => ∃ v L, o = .returned v ∧ Q21_0 Z a dd kd eV h0 n0 v U'.heap L ∧ FrameEnd U o U' L ({ frames := 3, cells := 1, slots := 10, locals := 41 } : Room).cells ({ frames := 3, cells := 1, slots := 10, locals := 41 } : Room).slots) := by
  refine MetFree.of_bodySF (plainFor_of_name pn_java_util_ArrayList) hisR ?_
  intro p e s m args below meth c s₁ Bd hml0 hP hK
  obtain ⟨rfl, hZ, hh⟩ := hP
  have hx := Bd.exec
  have hby := Bd.bytes
  have hml : c.maxLocals = 4 := hml0
  have hown : s.vm.findClass "java/util/ArrayList" = some m.cls := findClass_of_methodNamed Bd.named
  have hnm := (name_of_methodNamed Bd.named Bd.method).1
  have X0 : Stand p l e ({ frames := 3, cells := 1, slots := 10, locals := 41 } : Room) s m #[(.ref a), eV, (.ref dd), (.int (0 : Int32))] below meth c s₁ [] 0 0 := Stand.of_body Bd
  have e0 : s₁.heap = h0 := by rw [← hh, Bd.state]; rfl
  have N0 := Fr.nil n0
  obtain ⟨F, hF⟩ : ∃ F, F = own_Fin s (Q21_0 Z a dd kd eV h0 n0) ({ frames := 3, cells := 1, slots := 10, locals := 41 } : Room).cells ({ frames := 3, cells := 1, slots := 10, locals := 41 } : Room).slots := ⟨_, rfl⟩
  show own_Ends p e below (own_Fin s (Q21_0 Z a dd kd eV h0 n0) ({ frames := 3, cells := 1, slots := 10, locals := 41 } : Room).cells ({ frames := 3, cells := 1, slots := 10, locals := 41 } : Room).slots) _
  rw [← hF, ef_rm21_0 m a eV dd (0 : Int32) HE.cat]
  show own_Ends p e below F (s₁.setTop (mkF m 0 #[.val (.ref a), .val eV, .val (.ref dd), .val (.int (0 : Int32))] []))
  refine own_step (fun _ k => XS.iloadN X0.here hx rfl (hb hby d21_0) rfl k) ?_
  show own_Ends p e below F (s₁.setTop (mkF m 1 #[.val (.ref a), .val eV, .val (.ref dd), .val (.int (0 : Int32))] [(.int (0 : Int32))]))
  refine own_step (fun _ k => XS.aloadN X0.here hx rfl (hb hby d21_1) rfl rfl k) ?_
  show own_Ends p e below F (s₁.setTop (mkF m 2 #[.val (.ref a), .val eV, .val (.ref dd), .val (.int (0 : Int32))] [(.ref dd), (.int (0 : Int32))]))
  obtain ⟨cl1, Ar1, q1, S1, M1, H1, G1⟩ := id VD
  have al1 := X0.arraylength hx (by rw [e0]; exact Ar1.1) (State.isArrayOf_alike hZ.alike Ar1.2.1) (g := (mkF m 2 #[.val (.ref a), .val eV, .val (.ref dd), .val (.int (0 : Int32))] [(.ref dd), (.int (0 : Int32))])) rfl rfl (hb hby d21_2)
  rw [len_of S1 M1] at al1
  refine own_step al1 ?_
  show own_Ends p e below F (s₁.setTop (mkF m 3 #[.val (.ref a), .val eV, .val (.ref dd), .val (.int (0 : Int32))] [(.int (0 : Int32)), (.int (0 : Int32))]))
  refine own_step (fun _ k => XS.icmpNo X0.here hx rfl (hb hby d21_3) rfl (teq (by decide : (0 : Int32) = (0 : Int32))).2 k) ?_
  show own_Ends p e below F (s₁.setTop (mkF m 6 #[.val (.ref a), .val eV, .val (.ref dd), .val (.int (0 : Int32))] []))
  refine own_step (fun _ k => XS.aloadN X0.here hx rfl (hb hby d21_6) rfl rfl k) ?_
  show own_Ends p e below F (s₁.setTop (mkF m 7 #[.val (.ref a), .val eV, .val (.ref dd), .val (.int (0 : Int32))] [(.ref a)]))
  obtain ⟨cq2, q2, q2'⟩ := (EX).cell
  obtain ⟨_, _, ⟨T2, L2, k2, n2⟩, -, X2, ⟨Lc2, hQ2, l2, y2, z2⟩, st2⟩ := X0.privateBack hx (y := (⟨"java/util/ArrayList", "grow", "()[Ljava/lang/Object;"⟩ : MethodName)) hown (mvT hZ (own_g hw 169 rfl)) (mvT hZ (own_g hw 170 rfl)) (mvT hZ (own_g hw 172 rfl)) (Cond.privateMethod_at (mvP hZ (own_g hw 171 rfl) (args := #[]))) (mvT hZ (own_g hw 173 rfl)) (by decide) (backOf (W := 0) (rm22 l Z a0 hw [] a dd kd h0 n0 Z0 EX ge F_modCount F_elementData F_size SD VD) hZ (own_g hw 173 rfl) (own_g hw 2 rfl) (by decide) (by decide)) (g := (mkF m 7 #[.val (.ref a), .val eV, .val (.ref dd), .val (.int (0 : Int32))] [(.ref a)])) rfl (by rw [hml]; rfl) (Steps.refl _) (a := a) (by rw [e0]; exact q2) q2' (argsL := []) (rest := []) (lenOf pd__28_29_5bLjava_2flang_2fObject_3b rfl) rfl (by show 2 * 0 + _ ≤ _; exact Nat.le_of_eq rfl) (hb hby d21_7) (fun _ _ => ⟨rfl, e0, (by decide : 0 + 1 ≤ _), (by decide : 0 + 10 ≤ _)⟩)
  dsimp only [Pt.U, Pt.locs, Pt.cells, Pt.slots] at X2 l2 y2 z2 st2 hQ2
  subst l2 y2 z2
  obtain ⟨c2, kc2, rfl, Nq2, Kq2, fq0_2, fq1_2, fq2_2, fq3_2, fq4_2, fq5_2, fq6_2, fq7_2⟩ := hQ2
  have N2 := Fr.app N0 Nq2
  have Z2 : n0 ≤ T2.heap.size := Nat.le_trans Z0 Kq2.1
  have SZ2 : h0.size ≤ T2.heap.size := Nat.le_trans (Nat.le_refl h0.size) Kq2.1
  have S0_2 := own_Sta_keep SD Kq2 (allS (own_ns_exa EX) all0)
  have ne_a_c2 : a ≠ c2 := Nat.ne_of_lt (Nat.lt_of_lt_of_le (EX).lt fq0_2)
  have ne_dd_c2 : dd ≠ c2 := Nat.ne_of_lt (Nat.lt_of_lt_of_le (VD).lt fq0_2)
  have ge_c2 : n0 ≤ c2 := Nat.le_trans Z0 fq0_2
  have sz_c2 : h0.size ≤ c2 := Nat.le_trans (Nat.le_refl h0.size) fq0_2
  refine own_trans st2 ?_
  show own_Ends p e below F (T2.setTop (mkF m 10 #[.val (.ref a), .val eV, .val (.ref dd), .val (.int (0 : Int32))] [(.ref c2)]))
  refine own_step (fun _ k => XS.astoreN X2.here hx rfl (hb hby d21_10) rfl rfl (l' := #[.val (.ref a), .val eV, .val (.ref c2), .val (.int (0 : Int32))]) rfl k) ?_
  show own_Ends p e below F (T2.setTop (mkF m 11 #[.val (.ref a), .val eV, .val (.ref c2), .val (.int (0 : Int32))] []))
  refine own_step (fun _ k => XS.aloadN X2.here hx rfl (hb hby d21_11) rfl rfl k) ?_
  show own_Ends p e below F (T2.setTop (mkF m 12 #[.val (.ref a), .val eV, .val (.ref c2), .val (.int (0 : Int32))] [(.ref c2)]))
  refine own_step (fun _ k => XS.iloadN X2.here hx rfl (hb hby d21_12) rfl k) ?_
  show own_Ends p e below F (T2.setTop (mkF m 13 #[.val (.ref a), .val eV, .val (.ref c2), .val (.int (0 : Int32))] [(.int (0 : Int32)), (.ref c2)]))
  refine own_step (fun _ k => XS.aloadN X2.here hx rfl (hb hby d21_13) rfl HE.isref k) ?_
  show own_Ends p e below F (T2.setTop (mkF m 14 #[.val (.ref a), .val eV, .val (.ref c2), .val (.int (0 : Int32))] [eV, (.int (0 : Int32)), (.ref c2)]))
  obtain ⟨cl3, Ar3, q3, S3, M3, H3, G3⟩ := id fq5_2
  have hin3 : ¬ ((0 : Int32) < 0 ∨ cl3.slots.size ≤ ((0 : Int32) : Int32).toNatClampNeg) := inb_of S3 ⟨by decide, by decide⟩
  obtain ⟨T3, h3, X3, e3, W3, st3⟩ := stR X2 hx hZ rfl Ar3 (j := (0 : Int32)) hin3 rfl (own_Ob.sto (HE.keep Kq2) Ar3 q3 fq6_2) (g := (mkF m 14 #[.val (.ref a), .val eV, .val (.ref c2), .val (.int (0 : Int32))] [eV, (.int (0 : Int32)), (.ref c2)])) rfl rfl (hb hby d21_14)
  have V3 := Arv.set Ar3 q3 S3 M3 H3 G3 HE.fit W3 0 rfl (Nat.le_of_ble_eq_true rfl)
  have V3 : Arv Z h3 c2 kc2 (.object "java/lang/Object") (10 : Int32) [eV, .null, .null, .null, .null, .null, .null, .null, .null, .null] .null := V3
  refine own_step st3 ?_
  have N3 := Fr.snoc X3 N2 ge_c2
  have Z3 : n0 ≤ h3.size := by rw [W3.size]; exact Z2
  have SZ3 : h0.size ≤ h3.size := by rw [W3.size]; exact SZ2
  show own_Ends p e below F (T3.setTop (mkF m 15 #[.val (.ref a), .val eV, .val (.ref c2), .val (.int (0 : Int32))] []))
  refine own_step (fun _ k => XS.aloadN X3.here hx rfl (hb hby d21_15) rfl rfl k) ?_
  show own_Ends p e below F (T3.setTop (mkF m 16 #[.val (.ref a), .val eV, .val (.ref c2), .val (.int (0 : Int32))] [(.ref a)]))
  refine own_step (fun _ k => XS.iloadN X3.here hx rfl (hb hby d21_16) rfl k) ?_
  show own_Ends p e below F (T3.setTop (mkF m 17 #[.val (.ref a), .val eV, .val (.ref c2), .val (.int (0 : Int32))] [(.int (0 : Int32)), (.ref a)]))
  refine own_step (fun _ k => XS.iconst X3.here hx rfl (hb hby d21_17) k) ?_
  show own_Ends p e below F (T3.setTop (mkF m 18 #[.val (.ref a), .val eV, .val (.ref c2), .val (.int (0 : Int32))] [(.int (1 : Int32)), (.int (0 : Int32)), (.ref a)]))
  refine own_step (fun _ k => XS.iadd X3.here hx rfl (hb hby d21_18) rfl k) ?_
  show own_Ends p e below F (T3.setTop (mkF m 19 #[.val (.ref a), .val eV, .val (.ref c2), .val (.int (0 : Int32))] [(.int (1 : Int32)), (.ref a)]))
  obtain ⟨T4, h4, X4, e4, W4, st4⟩ := putF X3 hx hZ hown (host := "") (Or.inl (own_g hw 46 rfl)) Via.refl e3 (Fld.other W3 fq4_2 (Or.inl ne_a_c2)) (fq1_2.wr W3) (Or.inl (own_g hw 47 rfl)) (own_g hw 1 rfl) (ty := .int) (by decide) rfl rfl (g := (mkF m 19 #[.val (.ref a), .val eV, .val (.ref c2), .val (.int (0 : Int32))] [(.int (1 : Int32)), (.ref a)])) rfl rfl (hb hby d21_19)
  refine own_step st4 ?_
  have F4 := Fld.same W4 (Fld.other W3 fq4_2 (Or.inl ne_a_c2))
  have N4 := Fr.snoc X4 N3 ge
  have Z4 : n0 ≤ h4.size := by rw [W4.size]; exact Z3
  have SZ4 : h0.size ≤ h4.size := by rw [W4.size]; exact SZ3
  show own_Ends p e below F (T4.setTop (mkF m 22 #[.val (.ref a), .val eV, .val (.ref c2), .val (.int (0 : Int32))] []))
  rw [hF]
  exact own_ret X4 (v := none) (fun _ => rfl) Bd.notSynchronized (fun fs hr => X4.returnOut hx Bd.returns (hb hby d21_22) hr) (by decide) (by decide) (by rw [e4]; exact ⟨_, _, rfl, N4, ((Keep.wr (Keep.wr (Keep.trans (Keep.refl _ _) Kq2 (allS (Or.inl (List.mem_of_getElem? (i := 0) rfl)) all0)) W3 (Or.inr sz_c2)) W4 (Or.inl (List.mem_of_getElem? (i := 0) rfl))) : Keep h0 h4 [a]), sz_c2, ((fq1_2.wr W3).wr W4), (Fld.other W4 (Fld.other W3 fq2_2 (Or.inl ne_a_c2)) (Or.inr (slot_ne (t := .int) (t' := .int) (Or.inl (own_g hw 22 rfl)) (Or.inl (own_g hw 47 rfl)) (by decide) (by decide) (by decide)))), (Fld.other W4 (Fld.other W3 fq3_2 (Or.inl ne_a_c2)) (Or.inr (slot_ne (t := (.array (.object "java/lang/Object"))) (t' := .int) (Or.inl (own_g hw 25 rfl)) (Or.inl (own_g hw 47 rfl)) (by decide) (by decide) (by decide)))), F4, (V3.other W4 (Ne.symm ne_a_c2)), fq6_2, ((fq7_2.wr W3).wr W4)⟩)

theorem d20_0 : decode jdk_38_method_25_code 0 = .ok (.aload_n 0, 1) := by decide +kernel
theorem d20_1 : decode jdk_38_method_25_code 1 = .ok (.dup, 1) := by decide +kernel
theorem d20_2 : decode jdk_38_method_25_code 2 = .ok (.getfield 63, 3) := by decide +kernel
theorem d20_5 : decode jdk_38_method_25_code 5 = .ok (.iconst 1, 1) := by decide +kernel
theorem d20_6 : decode jdk_38_method_25_code 6 = .ok (.iadd, 1) := by decide +kernel
theorem d20_7 : decode jdk_38_method_25_code 7 = .ok (.putfield 63, 3) := by decide +kernel
theorem d20_10 : decode jdk_38_method_25_code 10 = .ok (.aload_n 0, 1) := by decide +kernel
theorem d20_11 : decode jdk_38_method_25_code 11 = .ok (.aload_n 1, 1) := by decide +kernel
theorem d20_12 : decode jdk_38_method_25_code 12 = .ok (.aload_n 0, 1) := by decide +kernel
theorem d20_13 : decode jdk_38_method_25_code 13 = .ok (.getfield 9, 3) := by decide +kernel
theorem d20_16 : decode jdk_38_method_25_code 16 = .ok (.aload_n 0, 1) := by decide +kernel
theorem d20_17 : decode jdk_38_method_25_code 17 = .ok (.getfield 48, 3) := by decide +kernel
theorem d20_20 : decode jdk_38_method_25_code 20 = .ok (.invokevirtual 131, 3) := by decide +kernel
theorem d20_23 : decode jdk_38_method_25_code 23 = .ok (.iconst 1, 1) := by decide +kernel
theorem d20_24 : decode jdk_38_method_25_code 24 = .ok (.ireturn, 1) := by decide +kernel
theorem pd__28Ljava_2flang_2fObject_3b_5bLjava_2flang_2fObject_3bI_29V : parseMethodDescriptor "(Ljava/lang/Object;[Ljava/lang/Object;I)V" = some ⟨[(.object "java/lang/Object"), (.array (.object "java/lang/Object")), .int], none⟩ := by decide +kernel
theorem ef_rm20_0 (m : MethodId) (x0 : Addr) (x1 : Value) (c1 : Value.category x1 = 1) : entryFrame m #[(.ref x0), x1] 2 = mkF m 0 #[.val (.ref x0), .val x1] [] := by exact own_efl m [_, _] 2 (by intro v hv; simp only [List.mem_cons, List.not_mem_nil, or_false] at hv; rcases hv with rfl | rfl <;> first | rfl | assumption) rfl
def Q20_0 (Z : State) (a dd : Addr) (kd : ClassId) (eV : Value) (h0 : Heap) (n0 : Nat) (v : Option Value) (h : Heap) (L : List Loc) : Prop := ∃ c k, v = some (.int 1) ∧ Fr n0 L ∧ Keep h0 h [a] ∧ h0.size ≤ c ∧ Exa Z h a "java/util/ArrayList" ∧ Fld Z h a "java/util/AbstractList" "modCount" "I" (.int (1 : Int32)) ∧ Fld Z h a "java/util/ArrayList" "elementData" "[Ljava/lang/Object;" (.ref c) ∧ Fld Z h a "java/util/ArrayList" "size" "I" (.int (1 : Int32)) ∧ Arv Z h c k (.object "java/lang/Object") (10 : Int32) [eV, .null, .null, .null, .null, .null, .null, .null, .null, .null] .null ∧ Ovr Z k "java/lang/Object" ∧ Exa Z h c "[Ljava/lang/Object;"
set_option maxRecDepth 65536 in
set_option maxHeartbeats 40000000 in
theorem rm20_0 (l : Launch) (Z : State) (a0 : Array Value) (hw : ∀ d ∈ tables_1, d.before a0 Z = true) (ws : List Jvm.Cond) (a dd : Addr) (kd : ClassId) (eV : Value) (h0 : Heap) (n0 : Nat) (Z0 : n0 ≤ h0.size) (EX : Exa Z h0 a "java/util/ArrayList") (ge : n0 ≤ a) (F_modCount : Fld Z h0 a "java/util/AbstractList" "modCount" "I" (.int (0 : Int32))) (F_elementData : Fld Z h0 a "java/util/ArrayList" "elementData" "[Ljava/lang/Object;" (.ref dd)) (F_size : Fld Z h0 a "java/util/ArrayList" "size" "I" (.int (0 : Int32))) (HE : own_Ob Z h0 eV) (SD : Sta Z h0 "java/util/ArrayList" "DEFAULTCAPACITY_EMPTY_ELEMENTDATA" "[Ljava/lang/Object;" (.ref dd)) (VD : Arv Z h0 dd kd (.object "java/lang/Object") (0 : Int32) [] .null) :
    MetFree l (⟨"java/util/ArrayList", "add", "(Ljava/lang/Object;)Z"⟩ : MethodName) (head1 (Jvm.Cond.code (⟨"java/util/ArrayList", "add", "(Ljava/lang/Object;)Z"⟩ : MethodName) jdk_38_method_25_code 2 (some .boolean) :: ws) ({ frames := 4, cells := 1, slots := 10, locals := 56 } : Room)) (fun ar U => ar = #[(.ref a), eV] ∧ Z.Warmed39 U.vm ∧ U.heap = h0) (fun _ _ _ _ _ => True) (fun _ U o U' => ∃ v L, o = .returned v ∧ Q20_0 Z a dd kd eV h0 n0 v U'.heap L ∧ FrameEnd U o U' L ({ frames := 4, cells := 1, slots := 10, locals := 56 } : Room).cells ({ frames := 4, cells := 1, slots := 10, locals := 56 } : Room).slots) := by
  refine MetFree.of_bodySF (plainFor_of_name pn_java_util_ArrayList) hisR ?_
  intro p e s m args below meth c s₁ Bd hml0 hP hK
  obtain ⟨rfl, hZ, hh⟩ := hP
  have hx := Bd.exec
  have hby := Bd.bytes
  have hml : c.maxLocals = 2 := hml0
  have hown : s.vm.findClass "java/util/ArrayList" = some m.cls := findClass_of_methodNamed Bd.named
  have hnm := (name_of_methodNamed Bd.named Bd.method).1
  have X0 : Stand p l e ({ frames := 4, cells := 1, slots := 10, locals := 56 } : Room) s m #[(.ref a), eV] below meth c s₁ [] 0 0 := Stand.of_body Bd
  have e0 : s₁.heap = h0 := by rw [← hh, Bd.state]; rfl
  have N0 := Fr.nil n0
  obtain ⟨F, hF⟩ : ∃ F, F = own_Fin s (Q20_0 Z a dd kd eV h0 n0) ({ frames := 4, cells := 1, slots := 10, locals := 56 } : Room).cells ({ frames := 4, cells := 1, slots := 10, locals := 56 } : Room).slots := ⟨_, rfl⟩
  show own_Ends p e below (own_Fin s (Q20_0 Z a dd kd eV h0 n0) ({ frames := 4, cells := 1, slots := 10, locals := 56 } : Room).cells ({ frames := 4, cells := 1, slots := 10, locals := 56 } : Room).slots) _
  rw [← hF, ef_rm20_0 m a eV HE.cat]
  show own_Ends p e below F (s₁.setTop (mkF m 0 #[.val (.ref a), .val eV] []))
  refine own_step (fun _ k => XS.aloadN X0.here hx rfl (hb hby d20_0) rfl rfl k) ?_
  show own_Ends p e below F (s₁.setTop (mkF m 1 #[.val (.ref a), .val eV] [(.ref a)]))
  refine own_step (fun _ k => XS.dup X0.here hx rfl (hb hby d20_1) rfl rfl k) ?_
  show own_Ends p e below F (s₁.setTop (mkF m 2 #[.val (.ref a), .val eV] [(.ref a), (.ref a)]))
  obtain ⟨T1, X1, e1, st1⟩ := getF X0 hx hZ hown (host := "") (Or.inl (own_g hw 162 rfl)) (Via.of (own_g hw 163 rfl)) e0 F_modCount (g := (mkF m 2 #[.val (.ref a), .val eV] [(.ref a), (.ref a)])) rfl rfl (hb hby d20_2)
  refine own_step st1 ?_
  show own_Ends p e below F (T1.setTop (mkF m 5 #[.val (.ref a), .val eV] [(.int (0 : Int32)), (.ref a)]))
  refine own_step (fun _ k => XS.iconst X1.here hx rfl (hb hby d20_5) k) ?_
  show own_Ends p e below F (T1.setTop (mkF m 6 #[.val (.ref a), .val eV] [(.int (1 : Int32)), (.int (0 : Int32)), (.ref a)]))
  refine own_step (fun _ k => XS.iadd X1.here hx rfl (hb hby d20_6) rfl k) ?_
  show own_Ends p e below F (T1.setTop (mkF m 7 #[.val (.ref a), .val eV] [(.int (1 : Int32)), (.ref a)]))
  obtain ⟨T2, h2, X2, e2, W2, st2⟩ := putF X1 hx hZ hown (host := "") (Or.inl (own_g hw 162 rfl)) (Via.of (own_g hw 163 rfl)) e1 F_modCount EX (Or.inl (own_g hw 22 rfl)) (own_g hw 1 rfl) (ty := .int) (by decide) rfl rfl (g := (mkF m 7 #[.val (.ref a), .val eV] [(.int (1 : Int32)), (.ref a)])) rfl rfl (hb hby d20_7)
  refine own_step st2 ?_
  have F2 := Fld.same W2 F_modCount
  have N2 := Fr.snoc X2 N0 ge
  have Z2 : n0 ≤ h2.size := by rw [W2.size]; exact Z0
  have SZ2 : h0.size ≤ h2.size := by rw [W2.size]; exact (Nat.le_refl h0.size)
  show own_Ends p e below F (T2.setTop (mkF m 10 #[.val (.ref a), .val eV] []))
  refine own_step (fun _ k => XS.aloadN X2.here hx rfl (hb hby d20_10) rfl rfl k) ?_
  show own_Ends p e below F (T2.setTop (mkF m 11 #[.val (.ref a), .val eV] [(.ref a)]))
  refine own_step (fun _ k => XS.aloadN X2.here hx rfl (hb hby d20_11) rfl HE.isref k) ?_
  show own_Ends p e below F (T2.setTop (mkF m 12 #[.val (.ref a), .val eV] [eV, (.ref a)]))
  refine own_step (fun _ k => XS.aloadN X2.here hx rfl (hb hby d20_12) rfl rfl k) ?_
  show own_Ends p e below F (T2.setTop (mkF m 13 #[.val (.ref a), .val eV] [(.ref a), eV, (.ref a)]))
  obtain ⟨T3, X3, e3, st3⟩ := getF X2 hx hZ hown (host := "") (Or.inl (own_g hw 24 rfl)) Via.refl e2 (Fld.other W2 F_elementData (Or.inr (slot_ne (t := (.array (.object "java/lang/Object"))) (t' := .int) (Or.inl (own_g hw 25 rfl)) (Or.inl (own_g hw 22 rfl)) (by decide) (by decide) (by decide)))) (g := (mkF m 13 #[.val (.ref a), .val eV] [(.ref a), eV, (.ref a)])) rfl rfl (hb hby d20_13)
  refine own_step st3 ?_
  show own_Ends p e below F (T3.setTop (mkF m 16 #[.val (.ref a), .val eV] [(.ref dd), eV, (.ref a)]))
  refine own_step (fun _ k => XS.aloadN X3.here hx rfl (hb hby d20_16) rfl rfl k) ?_
  show own_Ends p e below F (T3.setTop (mkF m 17 #[.val (.ref a), .val eV] [(.ref a), (.ref dd), eV, (.ref a)]))
  obtain ⟨T4, X4, e4, st4⟩ := getF X3 hx hZ hown (host := "") (Or.inl (own_g hw 46 rfl)) Via.refl e3 (Fld.other W2 F_size (Or.inr (slot_ne (t := .int) (t' := .int) (Or.inl (own_g hw 47 rfl)) (Or.inl (own_g hw 22 rfl)) (by decide) (by decide) (by decide)))) (g := (mkF m 17 #[.val (.ref a), .val eV] [(.ref a), (.ref dd), eV, (.ref a)])) rfl rfl (hb hby d20_17)
  refine own_step st4 ?_
  show own_Ends p e below F (T4.setTop (mkF m 20 #[.val (.ref a), .val eV] [(.int (0 : Int32)), (.ref dd), eV, (.ref a)]))
  obtain ⟨cq5, q5, q5'⟩ := ((EX.wr W2)).cell
  obtain ⟨_, _, ⟨T5, L5, k5, n5⟩, -, X5, ⟨Lc5, hQ5, l5, y5, z5⟩, st5⟩ := X4.privateBack hx (y := (⟨"java/util/ArrayList", "add", "(Ljava/lang/Object;[Ljava/lang/Object;I)V"⟩ : MethodName)) hown (mvT hZ (own_g hw 164 rfl)) (mvT hZ (own_g hw 165 rfl)) (mvT hZ (own_g hw 167 rfl)) (Cond.privateMethod_at (mvP hZ (own_g hw 166 rfl) (args := #[]))) (mvT hZ (own_g hw 168 rfl)) (by decide) (backOf (W := 0) (rm21_0 l Z a0 hw [] a dd kd eV h2 n0 Z2 (EX.wr W2) ge F2 (Fld.other W2 F_elementData (Or.inr (slot_ne (t := (.array (.object "java/lang/Object"))) (t' := .int) (Or.inl (own_g hw 25 rfl)) (Or.inl (own_g hw 22 rfl)) (by decide) (by decide) (by decide)))) (Fld.other W2 F_size (Or.inr (slot_ne (t := .int) (t' := .int) (Or.inl (own_g hw 47 rfl)) (Or.inl (own_g hw 22 rfl)) (by decide) (by decide) (by decide)))) (HE.wr W2) (Sta.wr W2 SD) (VD.other W2 (Ne.symm (EX.neArv VD (own_g hw 1 rfl))))) hZ (own_g hw 168 rfl) (own_g hw 2 rfl) (by decide) (by decide)) (g := (mkF m 20 #[.val (.ref a), .val eV] [(.int (0 : Int32)), (.ref dd), eV, (.ref a)])) rfl (by rw [hml]; rfl) (Steps.refl _) (a := a) (by rw [e4]; exact q5) q5' (argsL := [eV, (.ref dd), (.int (0 : Int32))]) (rest := []) (lenOf pd__28Ljava_2flang_2fObject_3b_5bLjava_2flang_2fObject_3bI_29V rfl) rfl (by show 2 * 0 + _ ≤ _; exact Nat.le_of_eq rfl) (hb hby d20_20) (fun _ _ => ⟨rfl, e4, (by decide : 0 + 1 ≤ _), (by decide : 0 + 10 ≤ _)⟩)
  dsimp only [Pt.U, Pt.locs, Pt.cells, Pt.slots] at X5 l5 y5 z5 st5 hQ5
  subst l5 y5 z5
  obtain ⟨c5, kc5, rfl, Nq5, Kq5, fq0_5, fq1_5, fq2_5, fq3_5, fq4_5, fq5_5, fq6_5, fq7_5⟩ := hQ5
  have N5 := Fr.app N2 Nq5
  have Z5 : n0 ≤ T5.heap.size := Nat.le_trans Z2 Kq5.1
  have SZ5 : h0.size ≤ T5.heap.size := Nat.le_trans SZ2 Kq5.1
  have S0_5 := own_Sta_keep (Sta.wr W2 SD) Kq5 (allS (own_ns_exa (EX.wr W2)) all0)
  have ne_a_c5 : a ≠ c5 := Nat.ne_of_lt (Nat.lt_of_lt_of_le ((EX.wr W2)).lt fq0_5)
  have ne_dd_c5 : dd ≠ c5 := Nat.ne_of_lt (Nat.lt_of_lt_of_le ((VD.other W2 (Ne.symm (EX.neArv VD (own_g hw 1 rfl))))).lt fq0_5)
  have ge_c5 : n0 ≤ c5 := Nat.le_trans Z2 fq0_5
  have sz_c5 : h0.size ≤ c5 := Nat.le_trans SZ2 fq0_5
  refine own_trans st5 ?_
  show own_Ends p e below F (T5.setTop (mkF m 23 #[.val (.ref a), .val eV] []))
  refine own_step (fun _ k => XS.iconst X5.here hx rfl (hb hby d20_23) k) ?_
  show own_Ends p e below F (T5.setTop (mkF m 24 #[.val (.ref a), .val eV] [(.int (1 : Int32))]))
  rw [hF]
  exact own_ret X5 (v := (some (.int (nar .boolean (1 : Int32))))) (fun h => by rw [Bd.returns] at h; cases h) Bd.notSynchronized (fun fs hr => retN X5 hx (t := .boolean) Bd.returns (by simp) (hb hby d20_24) hr) (by decide) (by decide) (by exact ⟨_, _, rfl, N5, ((Keep.trans (Keep.wr (Keep.refl _ _) W2 (Or.inl (List.mem_of_getElem? (i := 0) rfl))) Kq5 (allS (Or.inl (List.mem_of_getElem? (i := 0) rfl)) all0)) : Keep h0 T5.heap [a]), sz_c5, fq1_5, fq2_5, fq3_5, fq4_5, fq5_5, fq6_5, fq7_5⟩)

theorem ef_rm21_1 (m : MethodId) (x0 : Addr) (x1 : Value) (x2 : Addr) (x3 : Int32) (c1 : Value.category x1 = 1) : entryFrame m #[(.ref x0), x1, (.ref x2), (.int x3)] 4 = mkF m 0 #[.val (.ref x0), .val x1, .val (.ref x2), .val (.int x3)] [] := by exact own_efl m [_, _, _, _] 4 (by intro v hv; simp only [List.mem_cons, List.not_mem_nil, or_false] at hv; rcases hv with rfl | rfl | rfl | rfl <;> first | rfl | assumption) rfl
def Q21_1 (Z : State) (a b : Addr) (kb : ClassId) (eV w0 : Value) (h0 : Heap) (n0 : Nat) (v : Option Value) (h : Heap) (L : List Loc) : Prop := v = none ∧ Fr n0 L ∧ Keep h0 h [a, b] ∧ Exa Z h a "java/util/ArrayList" ∧ Fld Z h a "java/util/AbstractList" "modCount" "I" (.int (2 : Int32)) ∧ Fld Z h a "java/util/ArrayList" "elementData" "[Ljava/lang/Object;" (.ref b) ∧ Fld Z h a "java/util/ArrayList" "size" "I" (.int (2 : Int32)) ∧ Arv Z h b kb (.object "java/lang/Object") (10 : Int32) [w0, eV, .null, .null, .null, .null, .null, .null, .null, .null] .null
set_option maxRecDepth 65536 in
set_option maxHeartbeats 40000000 in
theorem rm21_1 (l : Launch) (Z : State) (a0 : Array Value) (hw : ∀ d ∈ tables_1, d.before a0 Z = true) (ws : List Jvm.Cond) (a b : Addr) (kb : ClassId) (eV w0 : Value) (h0 : Heap) (n0 : Nat) (Z0 : n0 ≤ h0.size) (EX : Exa Z h0 a "java/util/ArrayList") (ge : n0 ≤ a) (F_modCount : Fld Z h0 a "java/util/AbstractList" "modCount" "I" (.int (2 : Int32))) (F_elementData : Fld Z h0 a "java/util/ArrayList" "elementData" "[Ljava/lang/Object;" (.ref b)) (F_size : Fld Z h0 a "java/util/ArrayList" "size" "I" (.int (1 : Int32))) (HE : own_Ob Z h0 eV) (VB : Arv Z h0 b kb (.object "java/lang/Object") (10 : Int32) [w0, .null, .null, .null, .null, .null, .null, .null, .null, .null] .null) (OB : Ovr Z kb "java/lang/Object") (geb : n0 ≤ b) :
    MetFree l (⟨"java/util/ArrayList", "add", "(Ljava/lang/Object;[Ljava/lang/Object;I)V"⟩ : MethodName) (head1 (Jvm.Cond.code (⟨"java/util/ArrayList", "add", "(Ljava/lang/Object;[Ljava/lang/Object;I)V"⟩ : MethodName) jdk_38_method_24_code 4 none :: ws) ({ frames := 0, cells := 0, slots := 0, locals := 0 } : Room)) (fun ar U => ar = #[(.ref a), eV, (.ref b), (.int (1 : Int32))] ∧ Z.Warmed39 U.vm ∧ U.heap = h0) (fun _ _ _ _ _ => True) (fun _ U o U' => ∃ v L, o = .returned v ∧ Q21_1 Z a b kb eV w0 h0 n0 v U'.heap L ∧ FrameEnd U o U' L ({ frames := 0, cells := 0, slots := 0, locals := 0 } : Room).cells ({ frames := 0, cells := 0, slots := 0, locals := 0 } : Room).slots) := by
  refine MetFree.of_bodySF (plainFor_of_name pn_java_util_ArrayList) hisR ?_
  intro p e s m args below meth c s₁ Bd hml0 hP hK
  obtain ⟨rfl, hZ, hh⟩ := hP
  have hx := Bd.exec
  have hby := Bd.bytes
  have hml : c.maxLocals = 4 := hml0
  have hown : s.vm.findClass "java/util/ArrayList" = some m.cls := findClass_of_methodNamed Bd.named
  have hnm := (name_of_methodNamed Bd.named Bd.method).1
  have X0 : Stand p l e ({ frames := 0, cells := 0, slots := 0, locals := 0 } : Room) s m #[(.ref a), eV, (.ref b), (.int (1 : Int32))] below meth c s₁ [] 0 0 := Stand.of_body Bd
  have e0 : s₁.heap = h0 := by rw [← hh, Bd.state]; rfl
  have N0 := Fr.nil n0
  obtain ⟨F, hF⟩ : ∃ F, F = own_Fin s (Q21_1 Z a b kb eV w0 h0 n0) ({ frames := 0, cells := 0, slots := 0, locals := 0 } : Room).cells ({ frames := 0, cells := 0, slots := 0, locals := 0 } : Room).slots := ⟨_, rfl⟩
  show own_Ends p e below (own_Fin s (Q21_1 Z a b kb eV w0 h0 n0) ({ frames := 0, cells := 0, slots := 0, locals := 0 } : Room).cells ({ frames := 0, cells := 0, slots := 0, locals := 0 } : Room).slots) _
  rw [← hF, ef_rm21_1 m a eV b (1 : Int32) HE.cat]
  show own_Ends p e below F (s₁.setTop (mkF m 0 #[.val (.ref a), .val eV, .val (.ref b), .val (.int (1 : Int32))] []))
  refine own_step (fun _ k => XS.iloadN X0.here hx rfl (hb hby d21_0) rfl k) ?_
  show own_Ends p e below F (s₁.setTop (mkF m 1 #[.val (.ref a), .val eV, .val (.ref b), .val (.int (1 : Int32))] [(.int (1 : Int32))]))
  refine own_step (fun _ k => XS.aloadN X0.here hx rfl (hb hby d21_1) rfl rfl k) ?_
  show own_Ends p e below F (s₁.setTop (mkF m 2 #[.val (.ref a), .val eV, .val (.ref b), .val (.int (1 : Int32))] [(.ref b), (.int (1 : Int32))]))
  obtain ⟨cl1, Ar1, q1, S1, M1, H1, G1⟩ := id VB
  have al1 := X0.arraylength hx (by rw [e0]; exact Ar1.1) (State.isArrayOf_alike hZ.alike Ar1.2.1) (g := (mkF m 2 #[.val (.ref a), .val eV, .val (.ref b), .val (.int (1 : Int32))] [(.ref b), (.int (1 : Int32))])) rfl rfl (hb hby d21_2)
  rw [len_of S1 M1] at al1
  refine own_step al1 ?_
  show own_Ends p e below F (s₁.setTop (mkF m 3 #[.val (.ref a), .val eV, .val (.ref b), .val (.int (1 : Int32))] [(.int (10 : Int32)), (.int (1 : Int32))]))
  refine own_step (fun _ k => XS.icmpYes X0.here hx rfl (pc0 := 3) (pc' := 11) rfl (hb hby d21_3) rfl (feq (by decide : ¬ ((1 : Int32) = (10 : Int32)))).2 (by decide) (by decide) k) ?_
  show own_Ends p e below F (s₁.setTop (mkF m 11 #[.val (.ref a), .val eV, .val (.ref b), .val (.int (1 : Int32))] []))
  refine own_step (fun _ k => XS.aloadN X0.here hx rfl (hb hby d21_11) rfl rfl k) ?_
  show own_Ends p e below F (s₁.setTop (mkF m 12 #[.val (.ref a), .val eV, .val (.ref b), .val (.int (1 : Int32))] [(.ref b)]))
  refine own_step (fun _ k => XS.iloadN X0.here hx rfl (hb hby d21_12) rfl k) ?_
  show own_Ends p e below F (s₁.setTop (mkF m 13 #[.val (.ref a), .val eV, .val (.ref b), .val (.int (1 : Int32))] [(.int (1 : Int32)), (.ref b)]))
  refine own_step (fun _ k => XS.aloadN X0.here hx rfl (hb hby d21_13) rfl HE.isref k) ?_
  show own_Ends p e below F (s₁.setTop (mkF m 14 #[.val (.ref a), .val eV, .val (.ref b), .val (.int (1 : Int32))] [eV, (.int (1 : Int32)), (.ref b)]))
  obtain ⟨cl2, Ar2, q2, S2, M2, H2, G2⟩ := id VB
  have hin2 : ¬ ((1 : Int32) < 0 ∨ cl2.slots.size ≤ ((1 : Int32) : Int32).toNatClampNeg) := inb_of S2 ⟨by decide, by decide⟩
  obtain ⟨T2, h2, X2, e2, W2, st2⟩ := stR X0 hx hZ e0 Ar2 (j := (1 : Int32)) hin2 rfl (own_Ob.sto HE Ar2 q2 OB) (g := (mkF m 14 #[.val (.ref a), .val eV, .val (.ref b), .val (.int (1 : Int32))] [eV, (.int (1 : Int32)), (.ref b)])) rfl rfl (hb hby d21_14)
  have V2 := Arv.set Ar2 q2 S2 M2 H2 G2 HE.fit W2 1 rfl (Nat.le_of_ble_eq_true rfl)
  have V2 : Arv Z h2 b kb (.object "java/lang/Object") (10 : Int32) [w0, eV, .null, .null, .null, .null, .null, .null, .null, .null] .null := V2
  refine own_step st2 ?_
  have N2 := Fr.snoc X2 N0 geb
  have Z2 : n0 ≤ h2.size := by rw [W2.size]; exact Z0
  have SZ2 : h0.size ≤ h2.size := by rw [W2.size]; exact (Nat.le_refl h0.size)
  show own_Ends p e below F (T2.setTop (mkF m 15 #[.val (.ref a), .val eV, .val (.ref b), .val (.int (1 : Int32))] []))
  refine own_step (fun _ k => XS.aloadN X2.here hx rfl (hb hby d21_15) rfl rfl k) ?_
  show own_Ends p e below F (T2.setTop (mkF m 16 #[.val (.ref a), .val eV, .val (.ref b), .val (.int (1 : Int32))] [(.ref a)]))
  refine own_step (fun _ k => XS.iloadN X2.here hx rfl (hb hby d21_16) rfl k) ?_
  show own_Ends p e below F (T2.setTop (mkF m 17 #[.val (.ref a), .val eV, .val (.ref b), .val (.int (1 : Int32))] [(.int (1 : Int32)), (.ref a)]))
  refine own_step (fun _ k => XS.iconst X2.here hx rfl (hb hby d21_17) k) ?_
  show own_Ends p e below F (T2.setTop (mkF m 18 #[.val (.ref a), .val eV, .val (.ref b), .val (.int (1 : Int32))] [(.int (1 : Int32)), (.int (1 : Int32)), (.ref a)]))
  refine own_step (fun _ k => XS.iadd X2.here hx rfl (hb hby d21_18) rfl k) ?_
  show own_Ends p e below F (T2.setTop (mkF m 19 #[.val (.ref a), .val eV, .val (.ref b), .val (.int (1 : Int32))] [(.int (2 : Int32)), (.ref a)]))
  obtain ⟨T3, h3, X3, e3, W3, st3⟩ := putF X2 hx hZ hown (host := "") (Or.inl (own_g hw 46 rfl)) Via.refl e2 (Fld.other W2 F_size (Or.inl (EX.neArv VB (own_g hw 1 rfl)))) (EX.wr W2) (Or.inl (own_g hw 47 rfl)) (own_g hw 1 rfl) (ty := .int) (by decide) rfl rfl (g := (mkF m 19 #[.val (.ref a), .val eV, .val (.ref b), .val (.int (1 : Int32))] [(.int (2 : Int32)), (.ref a)])) rfl rfl (hb hby d21_19)
  refine own_step st3 ?_
  have F3 := Fld.same W3 (Fld.other W2 F_size (Or.inl (EX.neArv VB (own_g hw 1 rfl))))
  have N3 := Fr.snoc X3 N2 ge
  have Z3 : n0 ≤ h3.size := by rw [W3.size]; exact Z2
  have SZ3 : h0.size ≤ h3.size := by rw [W3.size]; exact SZ2
  show own_Ends p e below F (T3.setTop (mkF m 22 #[.val (.ref a), .val eV, .val (.ref b), .val (.int (1 : Int32))] []))
  rw [hF]
  exact own_ret X3 (v := none) (fun _ => rfl) Bd.notSynchronized (fun fs hr => X3.returnOut hx Bd.returns (hb hby d21_22) hr) (by decide) (by decide) (by rw [e3]; exact ⟨rfl, N3, ((Keep.wr (Keep.wr (Keep.refl _ _) W2 (Or.inl (List.mem_of_getElem? (i := 1) rfl))) W3 (Or.inl (List.mem_of_getElem? (i := 0) rfl))) : Keep h0 h3 [a, b]), ((EX.wr W2).wr W3), (Fld.other W3 (Fld.other W2 F_modCount (Or.inl (EX.neArv VB (own_g hw 1 rfl)))) (Or.inr (slot_ne (t := .int) (t' := .int) (Or.inl (own_g hw 22 rfl)) (Or.inl (own_g hw 47 rfl)) (by decide) (by decide) (by decide)))), (Fld.other W3 (Fld.other W2 F_elementData (Or.inl (EX.neArv VB (own_g hw 1 rfl)))) (Or.inr (slot_ne (t := (.array (.object "java/lang/Object"))) (t' := .int) (Or.inl (own_g hw 25 rfl)) (Or.inl (own_g hw 47 rfl)) (by decide) (by decide) (by decide)))), F3, (V2.other W3 (Ne.symm (EX.neArv VB (own_g hw 1 rfl))))⟩)

theorem ef_rm20_1 (m : MethodId) (x0 : Addr) (x1 : Value) (c1 : Value.category x1 = 1) : entryFrame m #[(.ref x0), x1] 2 = mkF m 0 #[.val (.ref x0), .val x1] [] := by exact own_efl m [_, _] 2 (by intro v hv; simp only [List.mem_cons, List.not_mem_nil, or_false] at hv; rcases hv with rfl | rfl <;> first | rfl | assumption) rfl
def Q20_1 (Z : State) (a b : Addr) (kb : ClassId) (eV w0 : Value) (h0 : Heap) (n0 : Nat) (v : Option Value) (h : Heap) (L : List Loc) : Prop := v = some (.int 1) ∧ Fr n0 L ∧ Keep h0 h [a, b] ∧ Exa Z h a "java/util/ArrayList" ∧ Fld Z h a "java/util/AbstractList" "modCount" "I" (.int (2 : Int32)) ∧ Fld Z h a "java/util/ArrayList" "elementData" "[Ljava/lang/Object;" (.ref b) ∧ Fld Z h a "java/util/ArrayList" "size" "I" (.int (2 : Int32)) ∧ Arv Z h b kb (.object "java/lang/Object") (10 : Int32) [w0, eV, .null, .null, .null, .null, .null, .null, .null, .null] .null
set_option maxRecDepth 65536 in
set_option maxHeartbeats 40000000 in
theorem rm20_1 (l : Launch) (Z : State) (a0 : Array Value) (hw : ∀ d ∈ tables_1, d.before a0 Z = true) (ws : List Jvm.Cond) (a b : Addr) (kb : ClassId) (eV w0 : Value) (h0 : Heap) (n0 : Nat) (Z0 : n0 ≤ h0.size) (EX : Exa Z h0 a "java/util/ArrayList") (ge : n0 ≤ a) (F_modCount : Fld Z h0 a "java/util/AbstractList" "modCount" "I" (.int (1 : Int32))) (F_elementData : Fld Z h0 a "java/util/ArrayList" "elementData" "[Ljava/lang/Object;" (.ref b)) (F_size : Fld Z h0 a "java/util/ArrayList" "size" "I" (.int (1 : Int32))) (HE : own_Ob Z h0 eV) (VB : Arv Z h0 b kb (.object "java/lang/Object") (10 : Int32) [w0, .null, .null, .null, .null, .null, .null, .null, .null, .null] .null) (OB : Ovr Z kb "java/lang/Object") (geb : n0 ≤ b) :
    MetFree l (⟨"java/util/ArrayList", "add", "(Ljava/lang/Object;)Z"⟩ : MethodName) (head1 (Jvm.Cond.code (⟨"java/util/ArrayList", "add", "(Ljava/lang/Object;)Z"⟩ : MethodName) jdk_38_method_25_code 2 (some .boolean) :: ws) ({ frames := 1, cells := 0, slots := 0, locals := 15 } : Room)) (fun ar U => ar = #[(.ref a), eV] ∧ Z.Warmed39 U.vm ∧ U.heap = h0) (fun _ _ _ _ _ => True) (fun _ U o U' => ∃ v L, o = .returned v ∧ Q20_1 Z a b kb eV w0 h0 n0 v U'.heap L ∧ FrameEnd U o U' L ({ frames := 1, cells := 0, slots := 0, locals := 15 } : Room).cells ({ frames := 1, cells := 0, slots := 0, locals := 15 } : Room).slots) := by
  refine MetFree.of_bodySF (plainFor_of_name pn_java_util_ArrayList) hisR ?_
  intro p e s m args below meth c s₁ Bd hml0 hP hK
  obtain ⟨rfl, hZ, hh⟩ := hP
  have hx := Bd.exec
  have hby := Bd.bytes
  have hml : c.maxLocals = 2 := hml0
  have hown : s.vm.findClass "java/util/ArrayList" = some m.cls := findClass_of_methodNamed Bd.named
  have hnm := (name_of_methodNamed Bd.named Bd.method).1
  have X0 : Stand p l e ({ frames := 1, cells := 0, slots := 0, locals := 15 } : Room) s m #[(.ref a), eV] below meth c s₁ [] 0 0 := Stand.of_body Bd
  have e0 : s₁.heap = h0 := by rw [← hh, Bd.state]; rfl
  have N0 := Fr.nil n0
  obtain ⟨F, hF⟩ : ∃ F, F = own_Fin s (Q20_1 Z a b kb eV w0 h0 n0) ({ frames := 1, cells := 0, slots := 0, locals := 15 } : Room).cells ({ frames := 1, cells := 0, slots := 0, locals := 15 } : Room).slots := ⟨_, rfl⟩
  show own_Ends p e below (own_Fin s (Q20_1 Z a b kb eV w0 h0 n0) ({ frames := 1, cells := 0, slots := 0, locals := 15 } : Room).cells ({ frames := 1, cells := 0, slots := 0, locals := 15 } : Room).slots) _
  rw [← hF, ef_rm20_1 m a eV HE.cat]
  show own_Ends p e below F (s₁.setTop (mkF m 0 #[.val (.ref a), .val eV] []))
  refine own_step (fun _ k => XS.aloadN X0.here hx rfl (hb hby d20_0) rfl rfl k) ?_
  show own_Ends p e below F (s₁.setTop (mkF m 1 #[.val (.ref a), .val eV] [(.ref a)]))
  refine own_step (fun _ k => XS.dup X0.here hx rfl (hb hby d20_1) rfl rfl k) ?_
  show own_Ends p e below F (s₁.setTop (mkF m 2 #[.val (.ref a), .val eV] [(.ref a), (.ref a)]))
  obtain ⟨T1, X1, e1, st1⟩ := getF X0 hx hZ hown (host := "") (Or.inl (own_g hw 162 rfl)) (Via.of (own_g hw 163 rfl)) e0 F_modCount (g := (mkF m 2 #[.val (.ref a), .val eV] [(.ref a), (.ref a)])) rfl rfl (hb hby d20_2)
  refine own_step st1 ?_
  show own_Ends p e below F (T1.setTop (mkF m 5 #[.val (.ref a), .val eV] [(.int (1 : Int32)), (.ref a)]))
  refine own_step (fun _ k => XS.iconst X1.here hx rfl (hb hby d20_5) k) ?_
  show own_Ends p e below F (T1.setTop (mkF m 6 #[.val (.ref a), .val eV] [(.int (1 : Int32)), (.int (1 : Int32)), (.ref a)]))
  refine own_step (fun _ k => XS.iadd X1.here hx rfl (hb hby d20_6) rfl k) ?_
  show own_Ends p e below F (T1.setTop (mkF m 7 #[.val (.ref a), .val eV] [(.int (2 : Int32)), (.ref a)]))
  obtain ⟨T2, h2, X2, e2, W2, st2⟩ := putF X1 hx hZ hown (host := "") (Or.inl (own_g hw 162 rfl)) (Via.of (own_g hw 163 rfl)) e1 F_modCount EX (Or.inl (own_g hw 22 rfl)) (own_g hw 1 rfl) (ty := .int) (by decide) rfl rfl (g := (mkF m 7 #[.val (.ref a), .val eV] [(.int (2 : Int32)), (.ref a)])) rfl rfl (hb hby d20_7)
  refine own_step st2 ?_
  have F2 := Fld.same W2 F_modCount
  have N2 := Fr.snoc X2 N0 ge
  have Z2 : n0 ≤ h2.size := by rw [W2.size]; exact Z0
  have SZ2 : h0.size ≤ h2.size := by rw [W2.size]; exact (Nat.le_refl h0.size)
  show own_Ends p e below F (T2.setTop (mkF m 10 #[.val (.ref a), .val eV] []))
  refine own_step (fun _ k => XS.aloadN X2.here hx rfl (hb hby d20_10) rfl rfl k) ?_
  show own_Ends p e below F (T2.setTop (mkF m 11 #[.val (.ref a), .val eV] [(.ref a)]))
  refine own_step (fun _ k => XS.aloadN X2.here hx rfl (hb hby d20_11) rfl HE.isref k) ?_
  show own_Ends p e below F (T2.setTop (mkF m 12 #[.val (.ref a), .val eV] [eV, (.ref a)]))
  refine own_step (fun _ k => XS.aloadN X2.here hx rfl (hb hby d20_12) rfl rfl k) ?_
  show own_Ends p e below F (T2.setTop (mkF m 13 #[.val (.ref a), .val eV] [(.ref a), eV, (.ref a)]))
  obtain ⟨T3, X3, e3, st3⟩ := getF X2 hx hZ hown (host := "") (Or.inl (own_g hw 24 rfl)) Via.refl e2 (Fld.other W2 F_elementData (Or.inr (slot_ne (t := (.array (.object "java/lang/Object"))) (t' := .int) (Or.inl (own_g hw 25 rfl)) (Or.inl (own_g hw 22 rfl)) (by decide) (by decide) (by decide)))) (g := (mkF m 13 #[.val (.ref a), .val eV] [(.ref a), eV, (.ref a)])) rfl rfl (hb hby d20_13)
  refine own_step st3 ?_
  show own_Ends p e below F (T3.setTop (mkF m 16 #[.val (.ref a), .val eV] [(.ref b), eV, (.ref a)]))
  refine own_step (fun _ k => XS.aloadN X3.here hx rfl (hb hby d20_16) rfl rfl k) ?_
  show own_Ends p e below F (T3.setTop (mkF m 17 #[.val (.ref a), .val eV] [(.ref a), (.ref b), eV, (.ref a)]))
  obtain ⟨T4, X4, e4, st4⟩ := getF X3 hx hZ hown (host := "") (Or.inl (own_g hw 46 rfl)) Via.refl e3 (Fld.other W2 F_size (Or.inr (slot_ne (t := .int) (t' := .int) (Or.inl (own_g hw 47 rfl)) (Or.inl (own_g hw 22 rfl)) (by decide) (by decide) (by decide)))) (g := (mkF m 17 #[.val (.ref a), .val eV] [(.ref a), (.ref b), eV, (.ref a)])) rfl rfl (hb hby d20_17)
  refine own_step st4 ?_
  show own_Ends p e below F (T4.setTop (mkF m 20 #[.val (.ref a), .val eV] [(.int (1 : Int32)), (.ref b), eV, (.ref a)]))
  obtain ⟨cq5, q5, q5'⟩ := ((EX.wr W2)).cell
  obtain ⟨_, _, ⟨T5, L5, k5, n5⟩, -, X5, ⟨Lc5, hQ5, l5, y5, z5⟩, st5⟩ := X4.privateBack hx (y := (⟨"java/util/ArrayList", "add", "(Ljava/lang/Object;[Ljava/lang/Object;I)V"⟩ : MethodName)) hown (mvT hZ (own_g hw 164 rfl)) (mvT hZ (own_g hw 165 rfl)) (mvT hZ (own_g hw 167 rfl)) (Cond.privateMethod_at (mvP hZ (own_g hw 166 rfl) (args := #[]))) (mvT hZ (own_g hw 168 rfl)) (by decide) (backOf (W := 0) (rm21_1 l Z a0 hw [] a b kb eV w0 h2 n0 Z2 (EX.wr W2) ge F2 (Fld.other W2 F_elementData (Or.inr (slot_ne (t := (.array (.object "java/lang/Object"))) (t' := .int) (Or.inl (own_g hw 25 rfl)) (Or.inl (own_g hw 22 rfl)) (by decide) (by decide) (by decide)))) (Fld.other W2 F_size (Or.inr (slot_ne (t := .int) (t' := .int) (Or.inl (own_g hw 47 rfl)) (Or.inl (own_g hw 22 rfl)) (by decide) (by decide) (by decide)))) (HE.wr W2) (VB.other W2 (Ne.symm (EX.neArv VB (own_g hw 1 rfl)))) OB geb) hZ (own_g hw 168 rfl) (own_g hw 2 rfl) (by decide) (by decide)) (g := (mkF m 20 #[.val (.ref a), .val eV] [(.int (1 : Int32)), (.ref b), eV, (.ref a)])) rfl (by rw [hml]; rfl) (Steps.refl _) (a := a) (by rw [e4]; exact q5) q5' (argsL := [eV, (.ref b), (.int (1 : Int32))]) (rest := []) (lenOf pd__28Ljava_2flang_2fObject_3b_5bLjava_2flang_2fObject_3bI_29V rfl) rfl (by show 2 * 0 + _ ≤ _; exact Nat.le_of_eq rfl) (hb hby d20_20) (fun _ _ => ⟨rfl, e4, (by decide : 0 + 0 ≤ _), (by decide : 0 + 0 ≤ _)⟩)
  dsimp only [Pt.U, Pt.locs, Pt.cells, Pt.slots] at X5 l5 y5 z5 st5 hQ5
  subst l5 y5 z5
  obtain ⟨rfl, Nq5, Kq5, fq0_5, fq1_5, fq2_5, fq3_5, fq4_5⟩ := hQ5
  have N5 := Fr.app N2 Nq5
  have Z5 : n0 ≤ T5.heap.size := Nat.le_trans Z2 Kq5.1
  have SZ5 : h0.size ≤ T5.heap.size := Nat.le_trans SZ2 Kq5.1
  refine own_trans st5 ?_
  show own_Ends p e below F (T5.setTop (mkF m 23 #[.val (.ref a), .val eV] []))
  refine own_step (fun _ k => XS.iconst X5.here hx rfl (hb hby d20_23) k) ?_
  show own_Ends p e below F (T5.setTop (mkF m 24 #[.val (.ref a), .val eV] [(.int (1 : Int32))]))
  rw [hF]
  exact own_ret X5 (v := (some (.int (nar .boolean (1 : Int32))))) (fun h => by rw [Bd.returns] at h; cases h) Bd.notSynchronized (fun fs hr => retN X5 hx (t := .boolean) Bd.returns (by simp) (hb hby d20_24) hr) (by decide) (by decide) (by exact ⟨rfl, N5, ((Keep.trans (Keep.wr (Keep.refl _ _) W2 (Or.inl (List.mem_of_getElem? (i := 0) rfl))) Kq5 (allS (Or.inl (List.mem_of_getElem? (i := 0) rfl)) (allS (Or.inl (List.mem_of_getElem? (i := 1) rfl)) all0))) : Keep h0 T5.heap [a, b]), fq0_5, fq1_5, fq2_5, fq3_5, fq4_5⟩)

theorem ef_rm21_2 (m : MethodId) (x0 : Addr) (x1 : Value) (x2 : Addr) (x3 : Int32) (c1 : Value.category x1 = 1) : entryFrame m #[(.ref x0), x1, (.ref x2), (.int x3)] 4 = mkF m 0 #[.val (.ref x0), .val x1, .val (.ref x2), .val (.int x3)] [] := by exact own_efl m [_, _, _, _] 4 (by intro v hv; simp only [List.mem_cons, List.not_mem_nil, or_false] at hv; rcases hv with rfl | rfl | rfl | rfl <;> first | rfl | assumption) rfl
def Q21_2 (Z : State) (a b : Addr) (kb : ClassId) (eV w0 w1 : Value) (h0 : Heap) (n0 : Nat) (v : Option Value) (h : Heap) (L : List Loc) : Prop := v = none ∧ Fr n0 L ∧ Keep h0 h [a, b] ∧ Exa Z h a "java/util/ArrayList" ∧ Fld Z h a "java/util/AbstractList" "modCount" "I" (.int (3 : Int32)) ∧ Fld Z h a "java/util/ArrayList" "elementData" "[Ljava/lang/Object;" (.ref b) ∧ Fld Z h a "java/util/ArrayList" "size" "I" (.int (3 : Int32)) ∧ Arv Z h b kb (.object "java/lang/Object") (10 : Int32) [w0, w1, eV, .null, .null, .null, .null, .null, .null, .null] .null
set_option maxRecDepth 65536 in
set_option maxHeartbeats 40000000 in
theorem rm21_2 (l : Launch) (Z : State) (a0 : Array Value) (hw : ∀ d ∈ tables_1, d.before a0 Z = true) (ws : List Jvm.Cond) (a b : Addr) (kb : ClassId) (eV w0 w1 : Value) (h0 : Heap) (n0 : Nat) (Z0 : n0 ≤ h0.size) (EX : Exa Z h0 a "java/util/ArrayList") (ge : n0 ≤ a) (F_modCount : Fld Z h0 a "java/util/AbstractList" "modCount" "I" (.int (3 : Int32))) (F_elementData : Fld Z h0 a "java/util/ArrayList" "elementData" "[Ljava/lang/Object;" (.ref b)) (F_size : Fld Z h0 a "java/util/ArrayList" "size" "I" (.int (2 : Int32))) (HE : own_Ob Z h0 eV) (VB : Arv Z h0 b kb (.object "java/lang/Object") (10 : Int32) [w0, w1, .null, .null, .null, .null, .null, .null, .null, .null] .null) (OB : Ovr Z kb "java/lang/Object") (geb : n0 ≤ b) :
    MetFree l (⟨"java/util/ArrayList", "add", "(Ljava/lang/Object;[Ljava/lang/Object;I)V"⟩ : MethodName) (head1 (Jvm.Cond.code (⟨"java/util/ArrayList", "add", "(Ljava/lang/Object;[Ljava/lang/Object;I)V"⟩ : MethodName) jdk_38_method_24_code 4 none :: ws) ({ frames := 0, cells := 0, slots := 0, locals := 0 } : Room)) (fun ar U => ar = #[(.ref a), eV, (.ref b), (.int (2 : Int32))] ∧ Z.Warmed39 U.vm ∧ U.heap = h0) (fun _ _ _ _ _ => True) (fun _ U o U' => ∃ v L, o = .returned v ∧ Q21_2 Z a b kb eV w0 w1 h0 n0 v U'.heap L ∧ FrameEnd U o U' L ({ frames := 0, cells := 0, slots := 0, locals := 0 } : Room).cells ({ frames := 0, cells := 0, slots := 0, locals := 0 } : Room).slots) := by
  refine MetFree.of_bodySF (plainFor_of_name pn_java_util_ArrayList) hisR ?_
  intro p e s m args below meth c s₁ Bd hml0 hP hK
  obtain ⟨rfl, hZ, hh⟩ := hP
  have hx := Bd.exec
  have hby := Bd.bytes
  have hml : c.maxLocals = 4 := hml0
  have hown : s.vm.findClass "java/util/ArrayList" = some m.cls := findClass_of_methodNamed Bd.named
  have hnm := (name_of_methodNamed Bd.named Bd.method).1
  have X0 : Stand p l e ({ frames := 0, cells := 0, slots := 0, locals := 0 } : Room) s m #[(.ref a), eV, (.ref b), (.int (2 : Int32))] below meth c s₁ [] 0 0 := Stand.of_body Bd
  have e0 : s₁.heap = h0 := by rw [← hh, Bd.state]; rfl
  have N0 := Fr.nil n0
  obtain ⟨F, hF⟩ : ∃ F, F = own_Fin s (Q21_2 Z a b kb eV w0 w1 h0 n0) ({ frames := 0, cells := 0, slots := 0, locals := 0 } : Room).cells ({ frames := 0, cells := 0, slots := 0, locals := 0 } : Room).slots := ⟨_, rfl⟩
  show own_Ends p e below (own_Fin s (Q21_2 Z a b kb eV w0 w1 h0 n0) ({ frames := 0, cells := 0, slots := 0, locals := 0 } : Room).cells ({ frames := 0, cells := 0, slots := 0, locals := 0 } : Room).slots) _
  rw [← hF, ef_rm21_2 m a eV b (2 : Int32) HE.cat]
  show own_Ends p e below F (s₁.setTop (mkF m 0 #[.val (.ref a), .val eV, .val (.ref b), .val (.int (2 : Int32))] []))
  refine own_step (fun _ k => XS.iloadN X0.here hx rfl (hb hby d21_0) rfl k) ?_
  show own_Ends p e below F (s₁.setTop (mkF m 1 #[.val (.ref a), .val eV, .val (.ref b), .val (.int (2 : Int32))] [(.int (2 : Int32))]))
  refine own_step (fun _ k => XS.aloadN X0.here hx rfl (hb hby d21_1) rfl rfl k) ?_
  show own_Ends p e below F (s₁.setTop (mkF m 2 #[.val (.ref a), .val eV, .val (.ref b), .val (.int (2 : Int32))] [(.ref b), (.int (2 : Int32))]))
  obtain ⟨cl1, Ar1, q1, S1, M1, H1, G1⟩ := id VB
  have al1 := X0.arraylength hx (by rw [e0]; exact Ar1.1) (State.isArrayOf_alike hZ.alike Ar1.2.1) (g := (mkF m 2 #[.val (.ref a), .val eV, .val (.ref b), .val (.int (2 : Int32))] [(.ref b), (.int (2 : Int32))])) rfl rfl (hb hby d21_2)
  rw [len_of S1 M1] at al1
  refine own_step al1 ?_
  show own_Ends p e below F (s₁.setTop (mkF m 3 #[.val (.ref a), .val eV, .val (.ref b), .val (.int (2 : Int32))] [(.int (10 : Int32)), (.int (2 : Int32))]))
  refine own_step (fun _ k => XS.icmpYes X0.here hx rfl (pc0 := 3) (pc' := 11) rfl (hb hby d21_3) rfl (feq (by decide : ¬ ((2 : Int32) = (10 : Int32)))).2 (by decide) (by decide) k) ?_
  show own_Ends p e below F (s₁.setTop (mkF m 11 #[.val (.ref a), .val eV, .val (.ref b), .val (.int (2 : Int32))] []))
  refine own_step (fun _ k => XS.aloadN X0.here hx rfl (hb hby d21_11) rfl rfl k) ?_
  show own_Ends p e below F (s₁.setTop (mkF m 12 #[.val (.ref a), .val eV, .val (.ref b), .val (.int (2 : Int32))] [(.ref b)]))
  refine own_step (fun _ k => XS.iloadN X0.here hx rfl (hb hby d21_12) rfl k) ?_
  show own_Ends p e below F (s₁.setTop (mkF m 13 #[.val (.ref a), .val eV, .val (.ref b), .val (.int (2 : Int32))] [(.int (2 : Int32)), (.ref b)]))
  refine own_step (fun _ k => XS.aloadN X0.here hx rfl (hb hby d21_13) rfl HE.isref k) ?_
  show own_Ends p e below F (s₁.setTop (mkF m 14 #[.val (.ref a), .val eV, .val (.ref b), .val (.int (2 : Int32))] [eV, (.int (2 : Int32)), (.ref b)]))
  obtain ⟨cl2, Ar2, q2, S2, M2, H2, G2⟩ := id VB
  have hin2 : ¬ ((2 : Int32) < 0 ∨ cl2.slots.size ≤ ((2 : Int32) : Int32).toNatClampNeg) := inb_of S2 ⟨by decide, by decide⟩
  obtain ⟨T2, h2, X2, e2, W2, st2⟩ := stR X0 hx hZ e0 Ar2 (j := (2 : Int32)) hin2 rfl (own_Ob.sto HE Ar2 q2 OB) (g := (mkF m 14 #[.val (.ref a), .val eV, .val (.ref b), .val (.int (2 : Int32))] [eV, (.int (2 : Int32)), (.ref b)])) rfl rfl (hb hby d21_14)
  have V2 := Arv.set Ar2 q2 S2 M2 H2 G2 HE.fit W2 2 rfl (Nat.le_of_ble_eq_true rfl)
  have V2 : Arv Z h2 b kb (.object "java/lang/Object") (10 : Int32) [w0, w1, eV, .null, .null, .null, .null, .null, .null, .null] .null := V2
  refine own_step st2 ?_
  have N2 := Fr.snoc X2 N0 geb
  have Z2 : n0 ≤ h2.size := by rw [W2.size]; exact Z0
  have SZ2 : h0.size ≤ h2.size := by rw [W2.size]; exact (Nat.le_refl h0.size)
  show own_Ends p e below F (T2.setTop (mkF m 15 #[.val (.ref a), .val eV, .val (.ref b), .val (.int (2 : Int32))] []))
  refine own_step (fun _ k => XS.aloadN X2.here hx rfl (hb hby d21_15) rfl rfl k) ?_
  show own_Ends p e below F (T2.setTop (mkF m 16 #[.val (.ref a), .val eV, .val (.ref b), .val (.int (2 : Int32))] [(.ref a)]))
  refine own_step (fun _ k => XS.iloadN X2.here hx rfl (hb hby d21_16) rfl k) ?_
  show own_Ends p e below F (T2.setTop (mkF m 17 #[.val (.ref a), .val eV, .val (.ref b), .val (.int (2 : Int32))] [(.int (2 : Int32)), (.ref a)]))
  refine own_step (fun _ k => XS.iconst X2.here hx rfl (hb hby d21_17) k) ?_
  show own_Ends p e below F (T2.setTop (mkF m 18 #[.val (.ref a), .val eV, .val (.ref b), .val (.int (2 : Int32))] [(.int (1 : Int32)), (.int (2 : Int32)), (.ref a)]))
  refine own_step (fun _ k => XS.iadd X2.here hx rfl (hb hby d21_18) rfl k) ?_
  show own_Ends p e below F (T2.setTop (mkF m 19 #[.val (.ref a), .val eV, .val (.ref b), .val (.int (2 : Int32))] [(.int (3 : Int32)), (.ref a)]))
  obtain ⟨T3, h3, X3, e3, W3, st3⟩ := putF X2 hx hZ hown (host := "") (Or.inl (own_g hw 46 rfl)) Via.refl e2 (Fld.other W2 F_size (Or.inl (EX.neArv VB (own_g hw 1 rfl)))) (EX.wr W2) (Or.inl (own_g hw 47 rfl)) (own_g hw 1 rfl) (ty := .int) (by decide) rfl rfl (g := (mkF m 19 #[.val (.ref a), .val eV, .val (.ref b), .val (.int (2 : Int32))] [(.int (3 : Int32)), (.ref a)])) rfl rfl (hb hby d21_19)
  refine own_step st3 ?_
  have F3 := Fld.same W3 (Fld.other W2 F_size (Or.inl (EX.neArv VB (own_g hw 1 rfl))))
  have N3 := Fr.snoc X3 N2 ge
  have Z3 : n0 ≤ h3.size := by rw [W3.size]; exact Z2
  have SZ3 : h0.size ≤ h3.size := by rw [W3.size]; exact SZ2
  show own_Ends p e below F (T3.setTop (mkF m 22 #[.val (.ref a), .val eV, .val (.ref b), .val (.int (2 : Int32))] []))
  rw [hF]
  exact own_ret X3 (v := none) (fun _ => rfl) Bd.notSynchronized (fun fs hr => X3.returnOut hx Bd.returns (hb hby d21_22) hr) (by decide) (by decide) (by rw [e3]; exact ⟨rfl, N3, ((Keep.wr (Keep.wr (Keep.refl _ _) W2 (Or.inl (List.mem_of_getElem? (i := 1) rfl))) W3 (Or.inl (List.mem_of_getElem? (i := 0) rfl))) : Keep h0 h3 [a, b]), ((EX.wr W2).wr W3), (Fld.other W3 (Fld.other W2 F_modCount (Or.inl (EX.neArv VB (own_g hw 1 rfl)))) (Or.inr (slot_ne (t := .int) (t' := .int) (Or.inl (own_g hw 22 rfl)) (Or.inl (own_g hw 47 rfl)) (by decide) (by decide) (by decide)))), (Fld.other W3 (Fld.other W2 F_elementData (Or.inl (EX.neArv VB (own_g hw 1 rfl)))) (Or.inr (slot_ne (t := (.array (.object "java/lang/Object"))) (t' := .int) (Or.inl (own_g hw 25 rfl)) (Or.inl (own_g hw 47 rfl)) (by decide) (by decide) (by decide)))), F3, (V2.other W3 (Ne.symm (EX.neArv VB (own_g hw 1 rfl))))⟩)

theorem ef_rm20_2 (m : MethodId) (x0 : Addr) (x1 : Value) (c1 : Value.category x1 = 1) : entryFrame m #[(.ref x0), x1] 2 = mkF m 0 #[.val (.ref x0), .val x1] [] := by exact own_efl m [_, _] 2 (by intro v hv; simp only [List.mem_cons, List.not_mem_nil, or_false] at hv; rcases hv with rfl | rfl <;> first | rfl | assumption) rfl
def Q20_2 (Z : State) (a b : Addr) (kb : ClassId) (eV w0 w1 : Value) (h0 : Heap) (n0 : Nat) (v : Option Value) (h : Heap) (L : List Loc) : Prop := v = some (.int 1) ∧ Fr n0 L ∧ Keep h0 h [a, b] ∧ Exa Z h a "java/util/ArrayList" ∧ Fld Z h a "java/util/AbstractList" "modCount" "I" (.int (3 : Int32)) ∧ Fld Z h a "java/util/ArrayList" "elementData" "[Ljava/lang/Object;" (.ref b) ∧ Fld Z h a "java/util/ArrayList" "size" "I" (.int (3 : Int32)) ∧ Arv Z h b kb (.object "java/lang/Object") (10 : Int32) [w0, w1, eV, .null, .null, .null, .null, .null, .null, .null] .null
set_option maxRecDepth 65536 in
set_option maxHeartbeats 40000000 in
theorem rm20_2 (l : Launch) (Z : State) (a0 : Array Value) (hw : ∀ d ∈ tables_1, d.before a0 Z = true) (ws : List Jvm.Cond) (a b : Addr) (kb : ClassId) (eV w0 w1 : Value) (h0 : Heap) (n0 : Nat) (Z0 : n0 ≤ h0.size) (EX : Exa Z h0 a "java/util/ArrayList") (ge : n0 ≤ a) (F_modCount : Fld Z h0 a "java/util/AbstractList" "modCount" "I" (.int (2 : Int32))) (F_elementData : Fld Z h0 a "java/util/ArrayList" "elementData" "[Ljava/lang/Object;" (.ref b)) (F_size : Fld Z h0 a "java/util/ArrayList" "size" "I" (.int (2 : Int32))) (HE : own_Ob Z h0 eV) (VB : Arv Z h0 b kb (.object "java/lang/Object") (10 : Int32) [w0, w1, .null, .null, .null, .null, .null, .null, .null, .null] .null) (OB : Ovr Z kb "java/lang/Object") (geb : n0 ≤ b) :
    MetFree l (⟨"java/util/ArrayList", "add", "(Ljava/lang/Object;)Z"⟩ : MethodName) (head1 (Jvm.Cond.code (⟨"java/util/ArrayList", "add", "(Ljava/lang/Object;)Z"⟩ : MethodName) jdk_38_method_25_code 2 (some .boolean) :: ws) ({ frames := 1, cells := 0, slots := 0, locals := 15 } : Room)) (fun ar U => ar = #[(.ref a), eV] ∧ Z.Warmed39 U.vm ∧ U.heap = h0) (fun _ _ _ _ _ => True) (fun _ U o U' => ∃ v L, o = .returned v ∧ Q20_2 Z a b kb eV w0 w1 h0 n0 v U'.heap L ∧ FrameEnd U o U' L ({ frames := 1, cells := 0, slots := 0, locals := 15 } : Room).cells ({ frames := 1, cells := 0, slots := 0, locals := 15 } : Room).slots) := by
  refine MetFree.of_bodySF (plainFor_of_name pn_java_util_ArrayList) hisR ?_
  intro p e s m args below meth c s₁ Bd hml0 hP hK
  obtain ⟨rfl, hZ, hh⟩ := hP
  have hx := Bd.exec
  have hby := Bd.bytes
  have hml : c.maxLocals = 2 := hml0
  have hown : s.vm.findClass "java/util/ArrayList" = some m.cls := findClass_of_methodNamed Bd.named
  have hnm := (name_of_methodNamed Bd.named Bd.method).1
  have X0 : Stand p l e ({ frames := 1, cells := 0, slots := 0, locals := 15 } : Room) s m #[(.ref a), eV] below meth c s₁ [] 0 0 := Stand.of_body Bd
  have e0 : s₁.heap = h0 := by rw [← hh, Bd.state]; rfl
  have N0 := Fr.nil n0
  obtain ⟨F, hF⟩ : ∃ F, F = own_Fin s (Q20_2 Z a b kb eV w0 w1 h0 n0) ({ frames := 1, cells := 0, slots := 0, locals := 15 } : Room).cells ({ frames := 1, cells := 0, slots := 0, locals := 15 } : Room).slots := ⟨_, rfl⟩
  show own_Ends p e below (own_Fin s (Q20_2 Z a b kb eV w0 w1 h0 n0) ({ frames := 1, cells := 0, slots := 0, locals := 15 } : Room).cells ({ frames := 1, cells := 0, slots := 0, locals := 15 } : Room).slots) _
  rw [← hF, ef_rm20_2 m a eV HE.cat]
  show own_Ends p e below F (s₁.setTop (mkF m 0 #[.val (.ref a), .val eV] []))
  refine own_step (fun _ k => XS.aloadN X0.here hx rfl (hb hby d20_0) rfl rfl k) ?_
  show own_Ends p e below F (s₁.setTop (mkF m 1 #[.val (.ref a), .val eV] [(.ref a)]))
  refine own_step (fun _ k => XS.dup X0.here hx rfl (hb hby d20_1) rfl rfl k) ?_
  show own_Ends p e below F (s₁.setTop (mkF m 2 #[.val (.ref a), .val eV] [(.ref a), (.ref a)]))
  obtain ⟨T1, X1, e1, st1⟩ := getF X0 hx hZ hown (host := "") (Or.inl (own_g hw 162 rfl)) (Via.of (own_g hw 163 rfl)) e0 F_modCount (g := (mkF m 2 #[.val (.ref a), .val eV] [(.ref a), (.ref a)])) rfl rfl (hb hby d20_2)
  refine own_step st1 ?_
  show own_Ends p e below F (T1.setTop (mkF m 5 #[.val (.ref a), .val eV] [(.int (2 : Int32)), (.ref a)]))
  refine own_step (fun _ k => XS.iconst X1.here hx rfl (hb hby d20_5) k) ?_
  show own_Ends p e below F (T1.setTop (mkF m 6 #[.val (.ref a), .val eV] [(.int (1 : Int32)), (.int (2 : Int32)), (.ref a)]))
  refine own_step (fun _ k => XS.iadd X1.here hx rfl (hb hby d20_6) rfl k) ?_
  show own_Ends p e below F (T1.setTop (mkF m 7 #[.val (.ref a), .val eV] [(.int (3 : Int32)), (.ref a)]))
  obtain ⟨T2, h2, X2, e2, W2, st2⟩ := putF X1 hx hZ hown (host := "") (Or.inl (own_g hw 162 rfl)) (Via.of (own_g hw 163 rfl)) e1 F_modCount EX (Or.inl (own_g hw 22 rfl)) (own_g hw 1 rfl) (ty := .int) (by decide) rfl rfl (g := (mkF m 7 #[.val (.ref a), .val eV] [(.int (3 : Int32)), (.ref a)])) rfl rfl (hb hby d20_7)
  refine own_step st2 ?_
  have F2 := Fld.same W2 F_modCount
  have N2 := Fr.snoc X2 N0 ge
  have Z2 : n0 ≤ h2.size := by rw [W2.size]; exact Z0
  have SZ2 : h0.size ≤ h2.size := by rw [W2.size]; exact (Nat.le_refl h0.size)
  show own_Ends p e below F (T2.setTop (mkF m 10 #[.val (.ref a), .val eV] []))
  refine own_step (fun _ k => XS.aloadN X2.here hx rfl (hb hby d20_10) rfl rfl k) ?_
  show own_Ends p e below F (T2.setTop (mkF m 11 #[.val (.ref a), .val eV] [(.ref a)]))
  refine own_step (fun _ k => XS.aloadN X2.here hx rfl (hb hby d20_11) rfl HE.isref k) ?_
  show own_Ends p e below F (T2.setTop (mkF m 12 #[.val (.ref a), .val eV] [eV, (.ref a)]))
  refine own_step (fun _ k => XS.aloadN X2.here hx rfl (hb hby d20_12) rfl rfl k) ?_
  show own_Ends p e below F (T2.setTop (mkF m 13 #[.val (.ref a), .val eV] [(.ref a), eV, (.ref a)]))
  obtain ⟨T3, X3, e3, st3⟩ := getF X2 hx hZ hown (host := "") (Or.inl (own_g hw 24 rfl)) Via.refl e2 (Fld.other W2 F_elementData (Or.inr (slot_ne (t := (.array (.object "java/lang/Object"))) (t' := .int) (Or.inl (own_g hw 25 rfl)) (Or.inl (own_g hw 22 rfl)) (by decide) (by decide) (by decide)))) (g := (mkF m 13 #[.val (.ref a), .val eV] [(.ref a), eV, (.ref a)])) rfl rfl (hb hby d20_13)
  refine own_step st3 ?_
  show own_Ends p e below F (T3.setTop (mkF m 16 #[.val (.ref a), .val eV] [(.ref b), eV, (.ref a)]))
  refine own_step (fun _ k => XS.aloadN X3.here hx rfl (hb hby d20_16) rfl rfl k) ?_
  show own_Ends p e below F (T3.setTop (mkF m 17 #[.val (.ref a), .val eV] [(.ref a), (.ref b), eV, (.ref a)]))
  obtain ⟨T4, X4, e4, st4⟩ := getF X3 hx hZ hown (host := "") (Or.inl (own_g hw 46 rfl)) Via.refl e3 (Fld.other W2 F_size (Or.inr (slot_ne (t := .int) (t' := .int) (Or.inl (own_g hw 47 rfl)) (Or.inl (own_g hw 22 rfl)) (by decide) (by decide) (by decide)))) (g := (mkF m 17 #[.val (.ref a), .val eV] [(.ref a), (.ref b), eV, (.ref a)])) rfl rfl (hb hby d20_17)
  refine own_step st4 ?_
  show own_Ends p e below F (T4.setTop (mkF m 20 #[.val (.ref a), .val eV] [(.int (2 : Int32)), (.ref b), eV, (.ref a)]))
  obtain ⟨cq5, q5, q5'⟩ := ((EX.wr W2)).cell
  obtain ⟨_, _, ⟨T5, L5, k5, n5⟩, -, X5, ⟨Lc5, hQ5, l5, y5, z5⟩, st5⟩ := X4.privateBack hx (y := (⟨"java/util/ArrayList", "add", "(Ljava/lang/Object;[Ljava/lang/Object;I)V"⟩ : MethodName)) hown (mvT hZ (own_g hw 164 rfl)) (mvT hZ (own_g hw 165 rfl)) (mvT hZ (own_g hw 167 rfl)) (Cond.privateMethod_at (mvP hZ (own_g hw 166 rfl) (args := #[]))) (mvT hZ (own_g hw 168 rfl)) (by decide) (backOf (W := 0) (rm21_2 l Z a0 hw [] a b kb eV w0 w1 h2 n0 Z2 (EX.wr W2) ge F2 (Fld.other W2 F_elementData (Or.inr (slot_ne (t := (.array (.object "java/lang/Object"))) (t' := .int) (Or.inl (own_g hw 25 rfl)) (Or.inl (own_g hw 22 rfl)) (by decide) (by decide) (by decide)))) (Fld.other W2 F_size (Or.inr (slot_ne (t := .int) (t' := .int) (Or.inl (own_g hw 47 rfl)) (Or.inl (own_g hw 22 rfl)) (by decide) (by decide) (by decide)))) (HE.wr W2) (VB.other W2 (Ne.symm (EX.neArv VB (own_g hw 1 rfl)))) OB geb) hZ (own_g hw 168 rfl) (own_g hw 2 rfl) (by decide) (by decide)) (g := (mkF m 20 #[.val (.ref a), .val eV] [(.int (2 : Int32)), (.ref b), eV, (.ref a)])) rfl (by rw [hml]; rfl) (Steps.refl _) (a := a) (by rw [e4]; exact q5) q5' (argsL := [eV, (.ref b), (.int (2 : Int32))]) (rest := []) (lenOf pd__28Ljava_2flang_2fObject_3b_5bLjava_2flang_2fObject_3bI_29V rfl) rfl (by show 2 * 0 + _ ≤ _; exact Nat.le_of_eq rfl) (hb hby d20_20) (fun _ _ => ⟨rfl, e4, (by decide : 0 + 0 ≤ _), (by decide : 0 + 0 ≤ _)⟩)
  dsimp only [Pt.U, Pt.locs, Pt.cells, Pt.slots] at X5 l5 y5 z5 st5 hQ5
  subst l5 y5 z5
  obtain ⟨rfl, Nq5, Kq5, fq0_5, fq1_5, fq2_5, fq3_5, fq4_5⟩ := hQ5
  have N5 := Fr.app N2 Nq5
  have Z5 : n0 ≤ T5.heap.size := Nat.le_trans Z2 Kq5.1
  have SZ5 : h0.size ≤ T5.heap.size := Nat.le_trans SZ2 Kq5.1
  refine own_trans st5 ?_
  show own_Ends p e below F (T5.setTop (mkF m 23 #[.val (.ref a), .val eV] []))
  refine own_step (fun _ k => XS.iconst X5.here hx rfl (hb hby d20_23) k) ?_
  show own_Ends p e below F (T5.setTop (mkF m 24 #[.val (.ref a), .val eV] [(.int (1 : Int32))]))
  rw [hF]
  exact own_ret X5 (v := (some (.int (nar .boolean (1 : Int32))))) (fun h => by rw [Bd.returns] at h; cases h) Bd.notSynchronized (fun fs hr => retN X5 hx (t := .boolean) Bd.returns (by simp) (hb hby d20_24) hr) (by decide) (by decide) (by exact ⟨rfl, N5, ((Keep.trans (Keep.wr (Keep.refl _ _) W2 (Or.inl (List.mem_of_getElem? (i := 0) rfl))) Kq5 (allS (Or.inl (List.mem_of_getElem? (i := 0) rfl)) (allS (Or.inl (List.mem_of_getElem? (i := 1) rfl)) all0))) : Keep h0 T5.heap [a, b]), fq0_5, fq1_5, fq2_5, fq3_5, fq4_5⟩)

theorem d19_0 : decode jdk_18_method_1_code 0 = .ok (.aload_n 0, 1) := by decide +kernel
theorem d19_1 : decode jdk_18_method_1_code 1 = .ok (.invokespecial 1, 3) := by decide +kernel
theorem d19_4 : decode jdk_18_method_1_code 4 = .ok (.return_, 1) := by decide +kernel
theorem pn_java_lang_Number : plainName "java/lang/Number" = true := by first | (simp [plainName, overriddenIn]; done) | decide +kernel
theorem ef_rm19 (m : MethodId) (x0 : Addr) : entryFrame m #[(.ref x0)] 1 = mkF m 0 #[.val (.ref x0)] [] := by first | (simp [entryFrame, mkF, argsToLocals, Value.category, maxLocals]; done) | rfl
def Q19 (Z : State) (a : Addr) (h0 : Heap) (n0 : Nat) (v : Option Value) (h : Heap) (L : List Loc) : Prop := v = none ∧ Fr n0 L ∧ h = h0
set_option maxRecDepth 65536 in
set_option maxHeartbeats 40000000 in
theorem rm19 (l : Launch) (Z : State) (a0 : Array Value) (hw : ∀ d ∈ tables_1, d.before a0 Z = true) (ws : List Jvm.Cond) (a : Addr) (h0 : Heap) (n0 : Nat) (Z0 : n0 ≤ h0.size)  :
    MetFree l (⟨"java/lang/Number", "<init>", "()V"⟩ : MethodName) (head1 (Jvm.Cond.code (⟨"java/lang/Number", "<init>", "()V"⟩ : MethodName) jdk_18_method_1_code 1 none :: ws) ({ frames := 1, cells := 0, slots := 0, locals := 12 } : Room)) (fun ar U => ar = #[(.ref a)] ∧ Z.Warmed39 U.vm ∧ U.heap = h0) (fun _ _ _ _ _ => True) (fun _ U o U' => ∃ v L, o = .returned v ∧ Q19 Z a h0 n0 v U'.heap L ∧ FrameEnd U o U' L ({ frames := 1, cells := 0, slots := 0, locals := 12 } : Room).cells ({ frames := 1, cells := 0, slots := 0, locals := 12 } : Room).slots) := by
  refine MetFree.of_bodySF (plainFor_of_name pn_java_lang_Number) hisR ?_
  intro p e s m args below meth c s₁ Bd hml0 hP hK
  obtain ⟨rfl, hZ, hh⟩ := hP
  have hx := Bd.exec
  have hby := Bd.bytes
  have hml : c.maxLocals = 1 := hml0
  have hown : s.vm.findClass "java/lang/Number" = some m.cls := findClass_of_methodNamed Bd.named
  have hnm := (name_of_methodNamed Bd.named Bd.method).1
  have X0 : Stand p l e ({ frames := 1, cells := 0, slots := 0, locals := 12 } : Room) s m #[(.ref a)] below meth c s₁ [] 0 0 := Stand.of_body Bd
  have e0 : s₁.heap = h0 := by rw [← hh, Bd.state]; rfl
  have N0 := Fr.nil n0
  obtain ⟨F, hF⟩ : ∃ F, F = own_Fin s (Q19 Z a h0 n0) ({ frames := 1, cells := 0, slots := 0, locals := 12 } : Room).cells ({ frames := 1, cells := 0, slots := 0, locals := 12 } : Room).slots := ⟨_, rfl⟩
  show own_Ends p e below (own_Fin s (Q19 Z a h0 n0) ({ frames := 1, cells := 0, slots := 0, locals := 12 } : Room).cells ({ frames := 1, cells := 0, slots := 0, locals := 12 } : Room).slots) _
  rw [← hF, ef_rm19 m a]
  show own_Ends p e below F (s₁.setTop (mkF m 0 #[.val (.ref a)] []))
  refine own_step (fun _ k => XS.aloadN X0.here hx rfl (hb hby d19_0) rfl rfl k) ?_
  show own_Ends p e below F (s₁.setTop (mkF m 1 #[.val (.ref a)] [(.ref a)]))
  obtain ⟨T1, X1, e1, st1⟩ := initO X0 hx hZ hown (own_g hw 154 rfl) (own_g hw 19 rfl) (own_g hw 20 rfl) e0 (g := (mkF m 1 #[.val (.ref a)] [(.ref a)])) rfl (by rw [hml]; rfl) rfl (hb hby d19_1) (by decide) (W := 0) (by show 2 * 0 + _ ≤ _; exact Nat.le_of_eq rfl) (by decide)
  refine own_step st1 ?_
  show own_Ends p e below F (T1.setTop (mkF m 4 #[.val (.ref a)] []))
  rw [hF]
  exact own_ret X1 (v := none) (fun _ => rfl) Bd.notSynchronized (fun fs hr => X1.returnOut hx Bd.returns (hb hby d19_4) hr) (by decide) (by decide) (by rw [e1]; exact ⟨rfl, N0, rfl⟩)

theorem d18_0 : decode jdk_33_method_23_code 0 = .ok (.aload_n 0, 1) := by decide +kernel
theorem d18_1 : decode jdk_33_method_23_code 1 = .ok (.invokespecial 202, 3) := by decide +kernel
theorem d18_4 : decode jdk_33_method_23_code 4 = .ok (.aload_n 0, 1) := by decide +kernel
theorem d18_5 : decode jdk_33_method_23_code 5 = .ok (.iload_n 1, 1) := by decide +kernel
theorem d18_6 : decode jdk_33_method_23_code 6 = .ok (.putfield 205, 3) := by decide +kernel
theorem d18_9 : decode jdk_33_method_23_code 9 = .ok (.return_, 1) := by decide +kernel
theorem pn_java_lang_Integer : plainName "java/lang/Integer" = true := by first | (simp [plainName, overriddenIn]; done) | decide +kernel
theorem ef_rm18 (m : MethodId) (x0 : Addr) (x1 : Int32) : entryFrame m #[(.ref x0), (.int x1)] 2 = mkF m 0 #[.val (.ref x0), .val (.int x1)] [] := by first | (simp [entryFrame, mkF, argsToLocals, Value.category, maxLocals]; done) | rfl
def Q18 (Z : State) (a : Addr) (p1 : Int32) (h0 : Heap) (n0 : Nat) (v : Option Value) (h : Heap) (L : List Loc) : Prop := v = none ∧ Fr n0 L ∧ Keep h0 h [a] ∧ Exa Z h a "java/lang/Integer" ∧ Fld Z h a "java/lang/Integer" "value" "I" (.int p1)
set_option maxRecDepth 65536 in
set_option maxHeartbeats 40000000 in
theorem rm18 (l : Launch) (Z : State) (a0 : Array Value) (hw : ∀ d ∈ tables_1, d.before a0 Z = true) (ws : List Jvm.Cond) (a : Addr) (p1 : Int32) (h0 : Heap) (n0 : Nat) (Z0 : n0 ≤ h0.size) (EX : Exa Z h0 a "java/lang/Integer") (ge : n0 ≤ a) (F_value : Fld Z h0 a "java/lang/Integer" "value" "I" (.int (0 : Int32))) :
    MetFree l (⟨"java/lang/Integer", "<init>", "(I)V"⟩ : MethodName) (head1 (Jvm.Cond.code (⟨"java/lang/Integer", "<init>", "(I)V"⟩ : MethodName) jdk_33_method_23_code 2 none :: ws) ({ frames := 2, cells := 0, slots := 0, locals := 24 } : Room)) (fun ar U => ar = #[(.ref a), (.int p1)] ∧ Z.Warmed39 U.vm ∧ U.heap = h0) (fun _ _ _ _ _ => True) (fun _ U o U' => ∃ v L, o = .returned v ∧ Q18 Z a p1 h0 n0 v U'.heap L ∧ FrameEnd U o U' L ({ frames := 2, cells := 0, slots := 0, locals := 24 } : Room).cells ({ frames := 2, cells := 0, slots := 0, locals := 24 } : Room).slots) := by
  refine MetFree.of_bodySF (plainFor_of_name pn_java_lang_Integer) hisR ?_
  intro p e s m args below meth c s₁ Bd hml0 hP hK
  obtain ⟨rfl, hZ, hh⟩ := hP
  have hx := Bd.exec
  have hby := Bd.bytes
  have hml : c.maxLocals = 2 := hml0
  have hown : s.vm.findClass "java/lang/Integer" = some m.cls := findClass_of_methodNamed Bd.named
  have hnm := (name_of_methodNamed Bd.named Bd.method).1
  have X0 : Stand p l e ({ frames := 2, cells := 0, slots := 0, locals := 24 } : Room) s m #[(.ref a), (.int p1)] below meth c s₁ [] 0 0 := Stand.of_body Bd
  have e0 : s₁.heap = h0 := by rw [← hh, Bd.state]; rfl
  have N0 := Fr.nil n0
  obtain ⟨F, hF⟩ : ∃ F, F = own_Fin s (Q18 Z a p1 h0 n0) ({ frames := 2, cells := 0, slots := 0, locals := 24 } : Room).cells ({ frames := 2, cells := 0, slots := 0, locals := 24 } : Room).slots := ⟨_, rfl⟩
  show own_Ends p e below (own_Fin s (Q18 Z a p1 h0 n0) ({ frames := 2, cells := 0, slots := 0, locals := 24 } : Room).cells ({ frames := 2, cells := 0, slots := 0, locals := 24 } : Room).slots) _
  rw [← hF, ef_rm18 m a p1]
  show own_Ends p e below F (s₁.setTop (mkF m 0 #[.val (.ref a), .val (.int p1)] []))
  refine own_step (fun _ k => XS.aloadN X0.here hx rfl (hb hby d18_0) rfl rfl k) ?_
  show own_Ends p e below F (s₁.setTop (mkF m 1 #[.val (.ref a), .val (.int p1)] [(.ref a)]))
  obtain ⟨_, _, ⟨T1, L1, k1, n1⟩, -, X1, ⟨Lc1, hQ1, l1, y1, z1⟩, st1⟩ := X0.specialBack hx (y := (⟨"java/lang/Number", "<init>", "()V"⟩ : MethodName)) rfl hown (mvT hZ (own_g hw 148 rfl)) (mvT hZ (own_g hw 149 rfl)) (mvT hZ (own_g hw 153 rfl)) (by decide) (backOf (W := 0) (rm19 l Z a0 hw [] a h0 n0 Z0) hZ (own_g hw 153 rfl) (own_g hw 152 rfl) (by decide) (by decide)) (g := (mkF m 1 #[.val (.ref a), .val (.int p1)] [(.ref a)])) rfl (by rw [hml]; rfl) (Steps.refl _) (a := a) (argsL := []) (rest := []) (lenOf pd__28_29V rfl) rfl (by show 2 * 0 + _ ≤ _; exact Nat.le_of_eq rfl) (hb hby d18_1) (fun _ _ => ⟨rfl, e0, (by decide : 0 + 0 ≤ _), (by decide : 0 + 0 ≤ _)⟩)
  dsimp only [Pt.U, Pt.locs, Pt.cells, Pt.slots] at X1 l1 y1 z1 st1 hQ1
  subst l1 y1 z1
  obtain ⟨rfl, Nq1, eq1⟩ := hQ1
  have N1 := Fr.app N0 Nq1
  refine own_trans st1 ?_
  show own_Ends p e below F (T1.setTop (mkF m 4 #[.val (.ref a), .val (.int p1)] []))
  refine own_step (fun _ k => XS.aloadN X1.here hx rfl (hb hby d18_4) rfl rfl k) ?_
  show own_Ends p e below F (T1.setTop (mkF m 5 #[.val (.ref a), .val (.int p1)] [(.ref a)]))
  refine own_step (fun _ k => XS.iloadN X1.here hx rfl (hb hby d18_5) rfl k) ?_
  show own_Ends p e below F (T1.setTop (mkF m 6 #[.val (.ref a), .val (.int p1)] [(.int p1), (.ref a)]))
  obtain ⟨T2, h2, X2, e2, W2, st2⟩ := putF X1 hx hZ hown (host := "") (Or.inl (own_g hw 155 rfl)) Via.refl eq1 F_value EX (Or.inr ⟨(own_g hw 156 rfl), rfl, hnm⟩) (own_g hw 143 rfl) (ty := .int) (by decide) rfl rfl (g := (mkF m 6 #[.val (.ref a), .val (.int p1)] [(.int p1), (.ref a)])) rfl rfl (hb hby d18_6)
  refine own_step st2 ?_
  have F2 := Fld.same W2 F_value
  have N2 := Fr.snoc X2 N1 ge
  have Z2 : n0 ≤ h2.size := by rw [W2.size]; exact Z0
  have SZ2 : h0.size ≤ h2.size := by rw [W2.size]; exact (Nat.le_refl h0.size)
  show own_Ends p e below F (T2.setTop (mkF m 9 #[.val (.ref a), .val (.int p1)] []))
  rw [hF]
  exact own_ret X2 (v := none) (fun _ => rfl) Bd.notSynchronized (fun fs hr => X2.returnOut hx Bd.returns (hb hby d18_9) hr) (by decide) (by decide) (by rw [e2]; exact ⟨rfl, N2, ((Keep.wr (Keep.refl _ _) W2 (Or.inl (List.mem_of_getElem? (i := 0) rfl))) : Keep h0 h2 [a]), (EX.wr W2), F2⟩)

theorem d17_0 : decode jdk_33_method_22_code 0 = .ok (.iload_n 0, 1) := by decide +kernel
theorem d17_1 : decode jdk_33_method_22_code 1 = .ok (.bipush (-128), 2) := by decide +kernel
theorem d17_3 : decode jdk_33_method_22_code 3 = .ok (.if_icmp .lt 20, 3) := by decide +kernel
theorem d17_6 : decode jdk_33_method_22_code 6 = .ok (.iload_n 0, 1) := by decide +kernel
theorem d17_7 : decode jdk_33_method_22_code 7 = .ok (.getstatic 191, 3) := by decide +kernel
theorem d17_10 : decode jdk_33_method_22_code 10 = .ok (.if_icmp .gt 13, 3) := by decide +kernel
theorem d17_13 : decode jdk_33_method_22_code 13 = .ok (.getstatic 195, 3) := by decide +kernel
theorem d17_16 : decode jdk_33_method_22_code 16 = .ok (.iload_n 0, 1) := by decide +kernel
theorem d17_17 : decode jdk_33_method_22_code 17 = .ok (.sipush 128, 3) := by decide +kernel
theorem d17_20 : decode jdk_33_method_22_code 20 = .ok (.iadd, 1) := by decide +kernel
theorem d17_21 : decode jdk_33_method_22_code 21 = .ok (.aaload, 1) := by decide +kernel
theorem d17_22 : decode jdk_33_method_22_code 22 = .ok (.areturn, 1) := by decide +kernel
theorem d17_23 : decode jdk_33_method_22_code 23 = .ok (.new 1, 3) := by decide +kernel
theorem d17_26 : decode jdk_33_method_22_code 26 = .ok (.dup, 1) := by decide +kernel
theorem d17_27 : decode jdk_33_method_22_code 27 = .ok (.iload_n 0, 1) := by decide +kernel
theorem d17_28 : decode jdk_33_method_22_code 28 = .ok (.invokespecial 199, 3) := by decide +kernel
theorem d17_31 : decode jdk_33_method_22_code 31 = .ok (.areturn, 1) := by decide +kernel
theorem pd__28I_29V : parseMethodDescriptor "(I)V" = some ⟨[.int], none⟩ := by decide +kernel
theorem ef_rm17 (m : MethodId) (x0 : Int32) : entryFrame m #[(.int x0)] 1 = mkF m 0 #[.val (.int x0)] [] := by first | (simp [entryFrame, mkF, argsToLocals, Value.category, maxLocals]; done) | rfl
def Q17 (Z : State) (p1 : Int32) (cc : Addr) (h0 : Heap) (n0 : Nat) (v : Option Value) (h : Heap) (L : List Loc) : Prop := ∃ c, v = some (.ref c) ∧ Fr n0 L ∧ Keep h0 h [] ∧ Exa Z h c "java/lang/Integer"
set_option maxRecDepth 65536 in
set_option maxHeartbeats 40000000 in
theorem rm17 (l : Launch) (Z : State) (a0 : Array Value) (hw : ∀ d ∈ tables_1, d.before a0 Z = true) (ws : List Jvm.Cond) (p1 : Int32) (cc : Addr) (h0 : Heap) (n0 : Nat) (Z0 : n0 ≤ h0.size) (SH : Sta Z h0 "java/lang/Integer$IntegerCache" "high" "I" (.int (127 : Int32))) (SK : Sta Z h0 "java/lang/Integer$IntegerCache" "cache" "[Ljava/lang/Integer;" (.ref cc)) (BC : own_Bx Z h0 cc) :
    MetFree l (⟨"java/lang/Integer", "valueOf", "(I)Ljava/lang/Integer;"⟩ : MethodName) (head1 (Jvm.Cond.code (⟨"java/lang/Integer", "valueOf", "(I)Ljava/lang/Integer;"⟩ : MethodName) jdk_33_method_22_code 1 (some (.object "java/lang/Integer")) :: ws) ({ frames := 3, cells := 1, slots := 1, locals := 38 } : Room)) (fun ar U => ar = #[(.int p1)] ∧ Z.Warmed39 U.vm ∧ U.heap = h0) (fun _ _ _ _ _ => True) (fun _ U o U' => ∃ v L, o = .returned v ∧ Q17 Z p1 cc h0 n0 v U'.heap L ∧ FrameEnd U o U' L ({ frames := 3, cells := 1, slots := 1, locals := 38 } : Room).cells ({ frames := 3, cells := 1, slots := 1, locals := 38 } : Room).slots) := by
  refine MetFree.of_bodySF (plainFor_of_name pn_java_lang_Integer) hisR ?_
  intro p e s m args below meth c s₁ Bd hml0 hP hK
  obtain ⟨rfl, hZ, hh⟩ := hP
  have hx := Bd.exec
  have hby := Bd.bytes
  have hml : c.maxLocals = 1 := hml0
  have hown : s.vm.findClass "java/lang/Integer" = some m.cls := findClass_of_methodNamed Bd.named
  have hnm := (name_of_methodNamed Bd.named Bd.method).1
  have X0 : Stand p l e ({ frames := 3, cells := 1, slots := 1, locals := 38 } : Room) s m #[(.int p1)] below meth c s₁ [] 0 0 := Stand.of_body Bd
  have e0 : s₁.heap = h0 := by rw [← hh, Bd.state]; rfl
  have N0 := Fr.nil n0
  obtain ⟨F, hF⟩ : ∃ F, F = own_Fin s (Q17 Z p1 cc h0 n0) ({ frames := 3, cells := 1, slots := 1, locals := 38 } : Room).cells ({ frames := 3, cells := 1, slots := 1, locals := 38 } : Room).slots := ⟨_, rfl⟩
  show own_Ends p e below (own_Fin s (Q17 Z p1 cc h0 n0) ({ frames := 3, cells := 1, slots := 1, locals := 38 } : Room).cells ({ frames := 3, cells := 1, slots := 1, locals := 38 } : Room).slots) _
  rw [← hF, ef_rm17 m p1]
  show own_Ends p e below F (s₁.setTop (mkF m 0 #[.val (.int p1)] []))
  refine own_step (fun _ k => XS.iloadN X0.here hx rfl (hb hby d17_0) rfl k) ?_
  show own_Ends p e below F (s₁.setTop (mkF m 1 #[.val (.int p1)] [(.int p1)]))
  refine own_step (fun _ k => XS.bipush X0.here hx rfl (hb hby d17_1) k) ?_
  show own_Ends p e below F (s₁.setTop (mkF m 3 #[.val (.int p1)] [(.int (-128 : Int32)), (.int p1)]))
  by_cases c3_1 : p1 < (-128 : Int32)
  · refine own_step (fun _ k => XS.icmpYes X0.here hx rfl (pc0 := 3) (pc' := 23) rfl (hb hby d17_3) rfl (tlt c3_1).1 (by decide) (by decide) k) ?_
    show own_Ends p e below F (s₁.setTop (mkF m 23 #[.val (.int p1)] []))
    obtain ⟨T2, h2, X2, e2, E2, A2, D2, -, st2⟩ := newO X0 hx hZ hown (own_g hw 142 rfl) (own_g hw 143 rfl) (own_g hw 138 rfl) e0 (g := (mkF m 23 #[.val (.int p1)] [])) rfl (hb hby d17_23) (by decide) (by decide)
    obtain ⟨a2, g2⟩ : ∃ z, z = h0.size := ⟨_, rfl⟩
    rw [← g2] at A2 D2 st2
    have ge_a2 : n0 ≤ a2 := Nat.le_trans Z0 (Nat.le_of_eq g2.symm)
    have sz_a2 : h0.size ≤ a2 := Nat.le_trans (Nat.le_refl h0.size) (Nat.le_of_eq g2.symm)
    have ne_cc_a2 : cc ≠ a2 := Nat.ne_of_lt (by rw [g2]; exact BC.lt)
    have Z2 : n0 ≤ h2.size := Nat.le_trans Z0 E2.1
    have SZ2 : h0.size ≤ h2.size := Nat.le_trans (Nat.le_refl h0.size) E2.1
    have F2_value : Fld Z h2 a2 "java/lang/Integer" "value" "I" (.int (0 : Int32)) := D2 (Or.inr (own_g hw 156 rfl)) (ty := .int) (by decide)
    refine own_step st2 ?_
    show own_Ends p e below F (T2.setTop (mkF m 26 #[.val (.int p1)] [(.ref a2)]))
    refine own_step (fun _ k => XS.dup X2.here hx rfl (hb hby d17_26) rfl rfl k) ?_
    show own_Ends p e below F (T2.setTop (mkF m 27 #[.val (.int p1)] [(.ref a2), (.ref a2)]))
    refine own_step (fun _ k => XS.iloadN X2.here hx rfl (hb hby d17_27) rfl k) ?_
    show own_Ends p e below F (T2.setTop (mkF m 28 #[.val (.int p1)] [(.int p1), (.ref a2), (.ref a2)]))
    obtain ⟨_, _, ⟨T3, L3, k3, n3⟩, -, X3, ⟨Lc3, hQ3, l3, y3, z3⟩, st3⟩ := X2.specialBack hx (y := (⟨"java/lang/Integer", "<init>", "(I)V"⟩ : MethodName)) rfl hown (mvT hZ (own_g hw 144 rfl)) (mvT hZ (own_g hw 145 rfl)) (mvT hZ (own_g hw 147 rfl)) (by decide) (backOf (W := 1) (rm18 l Z a0 hw [] a2 p1 h2 n0 Z2 A2 ge_a2 F2_value) hZ (own_g hw 147 rfl) (own_g hw 138 rfl) (by decide) (by decide)) (g := (mkF m 28 #[.val (.int p1)] [(.int p1), (.ref a2), (.ref a2)])) rfl (by rw [hml]; rfl) (Steps.refl _) (a := a2) (argsL := [(.int p1)]) (rest := [(.ref a2)]) (lenOf pd__28I_29V rfl) rfl (by show 2 * 0 + _ ≤ _; exact Nat.le_of_eq rfl) (hb hby d17_28) (fun _ _ => ⟨rfl, e2, (by decide : 1 + 0 ≤ _), (by decide : 1 + 0 ≤ _)⟩)
    dsimp only [Pt.U, Pt.locs, Pt.cells, Pt.slots] at X3 l3 y3 z3 st3 hQ3
    subst l3 y3 z3
    obtain ⟨rfl, Nq3, Kq3, fq0_3, fq1_3⟩ := hQ3
    have N3 := Fr.app N0 Nq3
    have Z3 : n0 ≤ T3.heap.size := Nat.le_trans Z2 Kq3.1
    have SZ3 : h0.size ≤ T3.heap.size := Nat.le_trans SZ2 Kq3.1
    have S0_3 := own_Sta_keep (Sta.ext E2 SH) Kq3 (allS (own_ns_exa A2) all0)
    have S1_3 := own_Sta_keep (Sta.ext E2 SK) Kq3 (allS (own_ns_exa A2) all0)
    refine own_trans st3 ?_
    show own_Ends p e below F (T3.setTop (mkF m 31 #[.val (.int p1)] [(.ref a2)]))
    rw [hF]
    exact own_ret X3 (v := (some (.ref a2))) (fun h => by rw [Bd.returns] at h; cases h) Bd.notSynchronized (fun fs hr => retOut X3 hx (t := (.object "java/lang/Integer")) (w := (.ref a2)) (i := .areturn) Bd.returns rfl (Or.inr (Or.inr (Or.inr (Or.inr ⟨rfl, rfl, rfl⟩)))) (hb hby d17_31) hr) (by decide) (by decide) (by exact ⟨_, rfl, N3, ((Keep.trans (Keep.ext (Keep.refl _ _) E2) Kq3 (allS (Or.inr sz_a2) all0)) : Keep h0 T3.heap []), fq0_3⟩)
  · refine own_step (fun _ k => XS.icmpNo X0.here hx rfl (hb hby d17_3) rfl (flt c3_1).1 k) ?_
    show own_Ends p e below F (s₁.setTop (mkF m 6 #[.val (.int p1)] []))
    refine own_step (fun _ k => XS.iloadN X0.here hx rfl (hb hby d17_6) rfl k) ?_
    show own_Ends p e below F (s₁.setTop (mkF m 7 #[.val (.int p1)] [(.int p1)]))
    obtain ⟨T4, X4, e4, st4⟩ := getS2 X0 hx hZ hown (host := "") (Or.inl (own_g hw 140 rfl)) Via.refl e0 SH (g := (mkF m 7 #[.val (.int p1)] [(.int p1)])) rfl (hb hby d17_7)
    refine own_step st4 ?_
    show own_Ends p e below F (T4.setTop (mkF m 10 #[.val (.int p1)] [(.int (127 : Int32)), (.int p1)]))
    by_cases c10_5 : (127 : Int32) < p1
    · refine own_step (fun _ k => XS.icmpYes X4.here hx rfl (pc0 := 10) (pc' := 23) rfl (hb hby d17_10) rfl (tlt c10_5).2.2.1 (by decide) (by decide) k) ?_
      show own_Ends p e below F (T4.setTop (mkF m 23 #[.val (.int p1)] []))
      obtain ⟨T6, h6, X6, e6, E6, A6, D6, -, st6⟩ := newO X4 hx hZ hown (own_g hw 142 rfl) (own_g hw 143 rfl) (own_g hw 138 rfl) e4 (g := (mkF m 23 #[.val (.int p1)] [])) rfl (hb hby d17_23) (by decide) (by decide)
      obtain ⟨a6, g6⟩ : ∃ z, z = h0.size := ⟨_, rfl⟩
      rw [← g6] at A6 D6 st6
      have ge_a6 : n0 ≤ a6 := Nat.le_trans Z0 (Nat.le_of_eq g6.symm)
      have sz_a6 : h0.size ≤ a6 := Nat.le_trans (Nat.le_refl h0.size) (Nat.le_of_eq g6.symm)
      have ne_cc_a6 : cc ≠ a6 := Nat.ne_of_lt (by rw [g6]; exact BC.lt)
      have Z6 : n0 ≤ h6.size := Nat.le_trans Z0 E6.1
      have SZ6 : h0.size ≤ h6.size := Nat.le_trans (Nat.le_refl h0.size) E6.1
      have F6_value : Fld Z h6 a6 "java/lang/Integer" "value" "I" (.int (0 : Int32)) := D6 (Or.inr (own_g hw 156 rfl)) (ty := .int) (by decide)
      refine own_step st6 ?_
      show own_Ends p e below F (T6.setTop (mkF m 26 #[.val (.int p1)] [(.ref a6)]))
      refine own_step (fun _ k => XS.dup X6.here hx rfl (hb hby d17_26) rfl rfl k) ?_
      show own_Ends p e below F (T6.setTop (mkF m 27 #[.val (.int p1)] [(.ref a6), (.ref a6)]))
      refine own_step (fun _ k => XS.iloadN X6.here hx rfl (hb hby d17_27) rfl k) ?_
      show own_Ends p e below F (T6.setTop (mkF m 28 #[.val (.int p1)] [(.int p1), (.ref a6), (.ref a6)]))
      obtain ⟨_, _, ⟨T7, L7, k7, n7⟩, -, X7, ⟨Lc7, hQ7, l7, y7, z7⟩, st7⟩ := X6.specialBack hx (y := (⟨"java/lang/Integer", "<init>", "(I)V"⟩ : MethodName)) rfl hown (mvT hZ (own_g hw 144 rfl)) (mvT hZ (own_g hw 145 rfl)) (mvT hZ (own_g hw 147 rfl)) (by decide) (backOf (W := 1) (rm18 l Z a0 hw [] a6 p1 h6 n0 Z6 A6 ge_a6 F6_value) hZ (own_g hw 147 rfl) (own_g hw 138 rfl) (by decide) (by decide)) (g := (mkF m 28 #[.val (.int p1)] [(.int p1), (.ref a6), (.ref a6)])) rfl (by rw [hml]; rfl) (Steps.refl _) (a := a6) (argsL := [(.int p1)]) (rest := [(.ref a6)]) (lenOf pd__28I_29V rfl) rfl (by show 2 * 0 + _ ≤ _; exact Nat.le_of_eq rfl) (hb hby d17_28) (fun _ _ => ⟨rfl, e6, (by decide : 1 + 0 ≤ _), (by decide : 1 + 0 ≤ _)⟩)
      dsimp only [Pt.U, Pt.locs, Pt.cells, Pt.slots] at X7 l7 y7 z7 st7 hQ7
      subst l7 y7 z7
      obtain ⟨rfl, Nq7, Kq7, fq0_7, fq1_7⟩ := hQ7
      have N7 := Fr.app N0 Nq7
      have Z7 : n0 ≤ T7.heap.size := Nat.le_trans Z6 Kq7.1
      have SZ7 : h0.size ≤ T7.heap.size := Nat.le_trans SZ6 Kq7.1
      have S0_7 := own_Sta_keep (Sta.ext E6 SH) Kq7 (allS (own_ns_exa A6) all0)
      have S1_7 := own_Sta_keep (Sta.ext E6 SK) Kq7 (allS (own_ns_exa A6) all0)
      refine own_trans st7 ?_
      show own_Ends p e below F (T7.setTop (mkF m 31 #[.val (.int p1)] [(.ref a6)]))
      rw [hF]
      exact own_ret X7 (v := (some (.ref a6))) (fun h => by rw [Bd.returns] at h; cases h) Bd.notSynchronized (fun fs hr => retOut X7 hx (t := (.object "java/lang/Integer")) (w := (.ref a6)) (i := .areturn) Bd.returns rfl (Or.inr (Or.inr (Or.inr (Or.inr ⟨rfl, rfl, rfl⟩)))) (hb hby d17_31) hr) (by decide) (by decide) (by exact ⟨_, rfl, N7, ((Keep.trans (Keep.ext (Keep.refl _ _) E6) Kq7 (allS (Or.inr sz_a6) all0)) : Keep h0 T7.heap []), fq0_7⟩)
    · refine own_step (fun _ k => XS.icmpNo X4.here hx rfl (hb hby d17_10) rfl (flt c10_5).2.2.1 k) ?_
      show own_Ends p e below F (T4.setTop (mkF m 13 #[.val (.int p1)] []))
      obtain ⟨T8, X8, e8, st8⟩ := getS2 X4 hx hZ hown (host := "") (Or.inl (own_g hw 188 rfl)) Via.refl e4 SK (g := (mkF m 13 #[.val (.int p1)] [])) rfl (hb hby d17_13)
      refine own_step st8 ?_
      show own_Ends p e below F (T8.setTop (mkF m 16 #[.val (.int p1)] [(.ref cc)]))
      refine own_step (fun _ k => XS.iloadN X8.here hx rfl (hb hby d17_16) rfl k) ?_
      show own_Ends p e below F (T8.setTop (mkF m 17 #[.val (.int p1)] [(.int p1), (.ref cc)]))
      refine own_step (fun _ k => XS.sipush X8.here hx rfl (hb hby d17_17) k) ?_
      show own_Ends p e below F (T8.setTop (mkF m 20 #[.val (.int p1)] [(.int (128 : Int32)), (.int p1), (.ref cc)]))
      refine own_step (fun _ k => XS.iadd X8.here hx rfl (hb hby d17_20) rfl k) ?_
      show own_Ends p e below F (T8.setTop (mkF m 21 #[.val (.int p1)] [(.int (p1 + (128 : Int32))), (.ref cc)]))
      obtain ⟨cl, Ar, Sz, G⟩ := BC
      have hj := own_bxj c3_1 c10_5
      obtain ⟨bb, hat, EB⟩ := G _ hj.2
      refine own_step (X8.aaload hx (j := (p1 + (128 : Int32))) (v := (.ref bb)) (by rw [e8]; exact Ar.1) (State.isArrayOf_alike hZ.alike Ar.2.1) rfl Ar.2.2 (fun q => q.elim hj.1 (fun q => absurd hj.2 (by rw [← Sz]; exact Nat.not_lt.mpr q))) hat (g := (mkF m 21 #[.val (.int p1)] [(.int (p1 + (128 : Int32))), (.ref cc)])) rfl rfl (hb hby d17_21)) ?_
      show own_Ends p e below F (T8.setTop (mkF m 22 #[.val (.int p1)] [(.ref bb)]))
      rw [hF]
      exact own_ret X8 (v := (some (.ref bb))) (fun h => by rw [Bd.returns] at h; cases h) Bd.notSynchronized (fun fs hr => retOut X8 hx (t := (.object "java/lang/Integer")) (w := (.ref bb)) (i := .areturn) Bd.returns rfl (Or.inr (Or.inr (Or.inr (Or.inr ⟨rfl, rfl, rfl⟩)))) (hb hby d17_22) hr) (by decide) (by decide) (by rw [e8]; exact ⟨_, rfl, N0, ((Keep.refl _ _) : Keep h0 h0 []), EB⟩)

theorem d10_0 : decode jdk_29_method_69_code 0 = .ok (.iload_n 0, 1) := by decide +kernel
theorem d10_1 : decode jdk_29_method_69_code 1 = .ok (.iload_n 1, 1) := by decide +kernel
theorem d10_2 : decode jdk_29_method_69_code 2 = .ok (.if_icmp .gt 7, 3) := by decide +kernel
theorem d10_5 : decode jdk_29_method_69_code 5 = .ok (.iload_n 0, 1) := by decide +kernel
theorem d10_6 : decode jdk_29_method_69_code 6 = .ok (.goto 4, 3) := by decide +kernel
theorem d10_9 : decode jdk_29_method_69_code 9 = .ok (.iload_n 1, 1) := by decide +kernel
theorem d10_10 : decode jdk_29_method_69_code 10 = .ok (.ireturn, 1) := by decide +kernel
theorem ef_rm10 (m : MethodId) (x0 : Int32) (x1 : Int32) : entryFrame m #[(.int x0), (.int x1)] 2 = mkF m 0 #[.val (.int x0), .val (.int x1)] [] := by first | (simp [entryFrame, mkF, argsToLocals, Value.category, maxLocals]; done) | rfl
def Q10 (Z : State) (p1 p2 : Int32) (h0 : Heap) (n0 : Nat) (v : Option Value) (h : Heap) (L : List Loc) : Prop := v = some (.int (if p2 < p1 then p2 else p1)) ∧ Fr n0 L ∧ h = h0
set_option maxRecDepth 65536 in
set_option maxHeartbeats 40000000 in
theorem rm10 (l : Launch) (Z : State) (a0 : Array Value) (hw : ∀ d ∈ tables_1, d.before a0 Z = true) (ws : List Jvm.Cond) (p1 p2 : Int32) (h0 : Heap) (n0 : Nat) (Z0 : n0 ≤ h0.size)  :
    MetFree l (⟨"java/lang/Math", "min", "(II)I"⟩ : MethodName) (head1 (Jvm.Cond.code (⟨"java/lang/Math", "min", "(II)I"⟩ : MethodName) jdk_29_method_69_code 2 (some .int) :: ws) ({ frames := 0, cells := 0, slots := 0, locals := 0 } : Room)) (fun ar U => ar = #[(.int p1), (.int p2)] ∧ Z.Warmed39 U.vm ∧ U.heap = h0) (fun _ _ _ _ _ => True) (fun _ U o U' => ∃ v L, o = .returned v ∧ Q10 Z p1 p2 h0 n0 v U'.heap L ∧ FrameEnd U o U' L ({ frames := 0, cells := 0, slots := 0, locals := 0 } : Room).cells ({ frames := 0, cells := 0, slots := 0, locals := 0 } : Room).slots) := by
  refine MetFree.of_bodySF (Jvm.Free.JP.mathPlain rfl (by decide +kernel)) hisR ?_
  intro p e s m args below meth c s₁ Bd hml0 hP hK
  obtain ⟨rfl, hZ, hh⟩ := hP
  have hx := Bd.exec
  have hby := Bd.bytes
  have hml : c.maxLocals = 2 := hml0
  have hown : s.vm.findClass "java/lang/Math" = some m.cls := findClass_of_methodNamed Bd.named
  have hnm := (name_of_methodNamed Bd.named Bd.method).1
  have X0 : Stand p l e ({ frames := 0, cells := 0, slots := 0, locals := 0 } : Room) s m #[(.int p1), (.int p2)] below meth c s₁ [] 0 0 := Stand.of_body Bd
  have e0 : s₁.heap = h0 := by rw [← hh, Bd.state]; rfl
  have N0 := Fr.nil n0
  obtain ⟨F, hF⟩ : ∃ F, F = own_Fin s (Q10 Z p1 p2 h0 n0) ({ frames := 0, cells := 0, slots := 0, locals := 0 } : Room).cells ({ frames := 0, cells := 0, slots := 0, locals := 0 } : Room).slots := ⟨_, rfl⟩
  show own_Ends p e below (own_Fin s (Q10 Z p1 p2 h0 n0) ({ frames := 0, cells := 0, slots := 0, locals := 0 } : Room).cells ({ frames := 0, cells := 0, slots := 0, locals := 0 } : Room).slots) _
  rw [← hF, ef_rm10 m p1 p2]
  show own_Ends p e below F (s₁.setTop (mkF m 0 #[.val (.int p1), .val (.int p2)] []))
  refine own_step (fun _ k => XS.iloadN X0.here hx rfl (hb hby d10_0) rfl k) ?_
  show own_Ends p e below F (s₁.setTop (mkF m 1 #[.val (.int p1), .val (.int p2)] [(.int p1)]))
  refine own_step (fun _ k => XS.iloadN X0.here hx rfl (hb hby d10_1) rfl k) ?_
  show own_Ends p e below F (s₁.setTop (mkF m 2 #[.val (.int p1), .val (.int p2)] [(.int p2), (.int p1)]))
  by_cases c2_1 : p2 < p1
  · refine own_step (fun _ k => XS.icmpYes X0.here hx rfl (pc0 := 2) (pc' := 9) rfl (hb hby d10_2) rfl (tlt c2_1).2.2.1 (by decide) (by decide) k) ?_
    show own_Ends p e below F (s₁.setTop (mkF m 9 #[.val (.int p1), .val (.int p2)] []))
    refine own_step (fun _ k => XS.iloadN X0.here hx rfl (hb hby d10_9) rfl k) ?_
    show own_Ends p e below F (s₁.setTop (mkF m 10 #[.val (.int p1), .val (.int p2)] [(.int p2)]))
    rw [hF]
    exact own_ret X0 (v := (some (.int p2))) (fun h => by rw [Bd.returns] at h; cases h) Bd.notSynchronized (fun fs hr => own_retI X0 hx Bd.returns (hb hby d10_10) hr) (by decide) (by decide) (by rw [e0]; exact ⟨by simp only [c2_1, if_true, if_false], N0, rfl⟩)
  · refine own_step (fun _ k => XS.icmpNo X0.here hx rfl (hb hby d10_2) rfl (flt c2_1).2.2.1 k) ?_
    show own_Ends p e below F (s₁.setTop (mkF m 5 #[.val (.int p1), .val (.int p2)] []))
    refine own_step (fun _ k => XS.iloadN X0.here hx rfl (hb hby d10_5) rfl k) ?_
    show own_Ends p e below F (s₁.setTop (mkF m 6 #[.val (.int p1), .val (.int p2)] [(.int p1)]))
    refine own_step (fun _ k => XS.goto X0.here hx rfl (pc0 := 6) (pc' := 10) rfl (hb hby d10_6) (by decide) (by decide) k) ?_
    show own_Ends p e below F (s₁.setTop (mkF m 10 #[.val (.int p1), .val (.int p2)] [(.int p1)]))
    rw [hF]
    exact own_ret X0 (v := (some (.int p1))) (fun h => by rw [Bd.returns] at h; cases h) Bd.notSynchronized (fun fs hr => own_retI X0 hx Bd.returns (hb hby d10_10) hr) (by decide) (by decide) (by rw [e0]; exact ⟨by simp only [c2_1, if_true, if_false], N0, rfl⟩)

theorem d9_0 : decode jdk_65_method_120_code 0 = .ok (.aload_n 2, 1) := by decide +kernel
theorem d9_1 : decode jdk_65_method_120_code 1 = .ok (.ldc 110, 2) := by decide +kernel
theorem d9_3 : decode jdk_65_method_120_code 3 = .ok (.if_acmp .ne 10, 3) := by decide +kernel
theorem d9_6 : decode jdk_65_method_120_code 6 = .ok (.iload_n 1, 1) := by decide +kernel
theorem d9_7 : decode jdk_65_method_120_code 7 = .ok (.anewarray 2, 3) := by decide +kernel
theorem d9_10 : decode jdk_65_method_120_code 10 = .ok (.goto 14, 3) := by decide +kernel
theorem d9_24 : decode jdk_65_method_120_code 24 = .ok (.astore_n 3, 1) := by decide +kernel
theorem d9_25 : decode jdk_65_method_120_code 25 = .ok (.aload_n 0, 1) := by decide +kernel
theorem d9_26 : decode jdk_65_method_120_code 26 = .ok (.iconst 0, 1) := by decide +kernel
theorem d9_27 : decode jdk_65_method_120_code 27 = .ok (.aload_n 3, 1) := by decide +kernel
theorem d9_28 : decode jdk_65_method_120_code 28 = .ok (.iconst 0, 1) := by decide +kernel
theorem d9_29 : decode jdk_65_method_120_code 29 = .ok (.aload_n 0, 1) := by decide +kernel
theorem d9_30 : decode jdk_65_method_120_code 30 = .ok (.arraylength, 1) := by decide +kernel
theorem d9_31 : decode jdk_65_method_120_code 31 = .ok (.iload_n 1, 1) := by decide +kernel
theorem d9_32 : decode jdk_65_method_120_code 32 = .ok (.invokestatic 304, 3) := by decide +kernel
theorem d9_35 : decode jdk_65_method_120_code 35 = .ok (.invokestatic 150, 3) := by decide +kernel
theorem d9_38 : decode jdk_65_method_120_code 38 = .ok (.aload_n 3, 1) := by decide +kernel
theorem d9_39 : decode jdk_65_method_120_code 39 = .ok (.areturn, 1) := by decide +kernel
theorem pn_java_util_Arrays : plainName "java/util/Arrays" = true := by first | (simp [plainName, overriddenIn]; done) | decide +kernel
theorem ef_rm9_0 (m : MethodId) (x0 : Addr) (x1 : Int32) (x2 : Addr) : entryFrame m #[(.ref x0), (.int x1), (.ref x2)] 4 = mkF m 0 #[.val (.ref x0), .val (.int x1), .val (.ref x2), .unset] [] := by first | (simp [entryFrame, mkF, argsToLocals, Value.category, maxLocals]; done) | rfl
def Q9_0 (Z : State) (b : Addr) (kb : ClassId) (mo : Addr) (h0 : Heap) (n0 : Nat) (v : Option Value) (h : Heap) (L : List Loc) : Prop := ∃ c k, v = some (.ref c) ∧ Fr n0 L ∧ Keep h0 h [] ∧ h0.size ≤ c ∧ Arv Z h c k (.object "java/lang/Object") (0 : Int32) [] .null
set_option maxRecDepth 65536 in
set_option maxHeartbeats 40000000 in
theorem rm9_0 (l : Launch) (Z : State) (a0 : Array Value) (hw : ∀ d ∈ tables_1, d.before a0 Z = true) (ws : List Jvm.Cond) (b : Addr) (kb : ClassId) (mo : Addr) (h0 : Heap) (n0 : Nat) (Z0 : n0 ≤ h0.size) (VB : Arv Z h0 b kb (.object "java/lang/Object") (0 : Int32) [] .null) (XB : Exa Z h0 b "[Ljava/lang/Object;") (M_mo : Mir Z "[Ljava/lang/Object;" mo) :
    MetFree l (⟨"java/util/Arrays", "copyOf", "([Ljava/lang/Object;ILjava/lang/Class;)[Ljava/lang/Object;"⟩ : MethodName) (head1 (Jvm.Cond.code (⟨"java/util/Arrays", "copyOf", "([Ljava/lang/Object;ILjava/lang/Class;)[Ljava/lang/Object;"⟩ : MethodName) jdk_65_method_120_code 4 (some (.array (.object "java/lang/Object"))) :: ws) ({ frames := 1, cells := 1, slots := 0, locals := 18 } : Room)) (fun ar U => ar = #[(.ref b), (.int (0 : Int32)), (.ref mo)] ∧ Z.Warmed39 U.vm ∧ U.heap = h0) (fun _ _ _ _ _ => True) (fun _ U o U' => ∃ v L, o = .returned v ∧ Q9_0 Z b kb mo h0 n0 v U'.heap L ∧ FrameEnd U o U' L ({ frames := 1, cells := 1, slots := 0, locals := 18 } : Room).cells ({ frames := 1, cells := 1, slots := 0, locals := 18 } : Room).slots) := by
  refine MetFree.of_bodySF (plainFor_of_name pn_java_util_Arrays) hisR ?_
  intro p e s m args below meth c s₁ Bd hml0 hP hK
  obtain ⟨rfl, hZ, hh⟩ := hP
  have hx := Bd.exec
  have hby := Bd.bytes
  have hml : c.maxLocals = 4 := hml0
  have hown : s.vm.findClass "java/util/Arrays" = some m.cls := findClass_of_methodNamed Bd.named
  have hnm := (name_of_methodNamed Bd.named Bd.method).1
  have X0 : Stand p l e ({ frames := 1, cells := 1, slots := 0, locals := 18 } : Room) s m #[(.ref b), (.int (0 : Int32)), (.ref mo)] below meth c s₁ [] 0 0 := Stand.of_body Bd
  have e0 : s₁.heap = h0 := by rw [← hh, Bd.state]; rfl
  have N0 := Fr.nil n0
  obtain ⟨F, hF⟩ : ∃ F, F = own_Fin s (Q9_0 Z b kb mo h0 n0) ({ frames := 1, cells := 1, slots := 0, locals := 18 } : Room).cells ({ frames := 1, cells := 1, slots := 0, locals := 18 } : Room).slots := ⟨_, rfl⟩
  show own_Ends p e below (own_Fin s (Q9_0 Z b kb mo h0 n0) ({ frames := 1, cells := 1, slots := 0, locals := 18 } : Room).cells ({ frames := 1, cells := 1, slots := 0, locals := 18 } : Room).slots) _
  rw [← hF, ef_rm9_0 m b (0 : Int32) mo]
  show own_Ends p e below F (s₁.setTop (mkF m 0 #[.val (.ref b), .val (.int (0 : Int32)), .val (.ref mo), .unset] []))
  refine own_step (fun _ k => XS.aloadN X0.here hx rfl (hb hby d9_0) rfl rfl k) ?_
  show own_Ends p e below F (s₁.setTop (mkF m 1 #[.val (.ref b), .val (.int (0 : Int32)), .val (.ref mo), .unset] [(.ref mo)]))
  obtain ⟨T1, X1, e1, st1⟩ := own_ldcM X0 hx hZ hown (own_g hw 61 rfl) e0 M_mo (g := (mkF m 1 #[.val (.ref b), .val (.int (0 : Int32)), .val (.ref mo), .unset] [(.ref mo)])) rfl (hb hby d9_1)
  refine own_step st1 ?_
  show own_Ends p e below F (T1.setTop (mkF m 3 #[.val (.ref b), .val (.int (0 : Int32)), .val (.ref mo), .unset] [(.ref mo), (.ref mo)]))
  refine own_step (fun _ k => Jvm.RoadKit.acmp (below := below) (g := (mkF m 3 #[.val (.ref b), .val (.int (0 : Int32)), .val (.ref mo), .unset] [(.ref mo), (.ref mo)])) X1 hx rfl rfl rfl (pc0 := 3) (pc' := 6) (same := true) rfl (hb hby d9_3) rfl (decide_eq_true rfl) (by decide) (by decide) k) ?_
  show own_Ends p e below F (T1.setTop (mkF m 6 #[.val (.ref b), .val (.int (0 : Int32)), .val (.ref mo), .unset] []))
  refine own_step (fun _ k => XS.iloadN X1.here hx rfl (hb hby d9_6) rfl k) ?_
  show own_Ends p e below F (T1.setTop (mkF m 7 #[.val (.ref b), .val (.int (0 : Int32)), .val (.ref mo), .unset] [(.int (0 : Int32))]))
  obtain ⟨T2, h2, k2, X2, e2, E2, A2, EA2, O2, st2⟩ := newRE X1 hx hZ hown (own_g hw 62 rfl) (own_g hw 63 rfl) e1 (g := (mkF m 7 #[.val (.ref b), .val (.int (0 : Int32)), .val (.ref mo), .unset] [(.int (0 : Int32))])) rfl (hb hby d9_7) rfl (by decide) (cap := 0) (by decide) (by decide) (by decide) (by decide) (ad := "[Ljava/lang/Object;") (by decide)
  obtain ⟨a2, g2⟩ : ∃ z, z = h0.size := ⟨_, rfl⟩
  rw [← g2] at A2 EA2 st2
  have ge_a2 : n0 ≤ a2 := Nat.le_trans Z0 (Nat.le_of_eq g2.symm)
  have sz_a2 : h0.size ≤ a2 := Nat.le_trans (Nat.le_refl h0.size) (Nat.le_of_eq g2.symm)
  have ne_b_a2 : b ≠ a2 := Nat.ne_of_lt (by rw [g2]; exact VB.lt)
  have Z2 : n0 ≤ h2.size := Nat.le_trans Z0 E2.1
  have SZ2 : h0.size ≤ h2.size := Nat.le_trans (Nat.le_refl h0.size) E2.1
  have V2 : Arv Z h2 a2 k2 (.object "java/lang/Object") (0 : Int32) [] .null := Arv.pad (Arv.new A2 (by decide)) (pad_rep [] _ 0)
  refine own_step st2 ?_
  show own_Ends p e below F (T2.setTop (mkF m 10 #[.val (.ref b), .val (.int (0 : Int32)), .val (.ref mo), .unset] [(.ref a2)]))
  refine own_step (fun _ k => XS.goto X2.here hx rfl (pc0 := 10) (pc' := 24) rfl (hb hby d9_10) (by decide) (by decide) k) ?_
  show own_Ends p e below F (T2.setTop (mkF m 24 #[.val (.ref b), .val (.int (0 : Int32)), .val (.ref mo), .unset] [(.ref a2)]))
  refine own_step (fun _ k => XS.astoreN X2.here hx rfl (hb hby d9_24) rfl rfl (l' := #[.val (.ref b), .val (.int (0 : Int32)), .val (.ref mo), .val (.ref a2)]) rfl k) ?_
  show own_Ends p e below F (T2.setTop (mkF m 25 #[.val (.ref b), .val (.int (0 : Int32)), .val (.ref mo), .val (.ref a2)] []))
  refine own_step (fun _ k => XS.aloadN X2.here hx rfl (hb hby d9_25) rfl rfl k) ?_
  show own_Ends p e below F (T2.setTop (mkF m 26 #[.val (.ref b), .val (.int (0 : Int32)), .val (.ref mo), .val (.ref a2)] [(.ref b)]))
  refine own_step (fun _ k => XS.iconst X2.here hx rfl (hb hby d9_26) k) ?_
  show own_Ends p e below F (T2.setTop (mkF m 27 #[.val (.ref b), .val (.int (0 : Int32)), .val (.ref mo), .val (.ref a2)] [(.int (0 : Int32)), (.ref b)]))
  refine own_step (fun _ k => XS.aloadN X2.here hx rfl (hb hby d9_27) rfl rfl k) ?_
  show own_Ends p e below F (T2.setTop (mkF m 28 #[.val (.ref b), .val (.int (0 : Int32)), .val (.ref mo), .val (.ref a2)] [(.ref a2), (.int (0 : Int32)), (.ref b)]))
  refine own_step (fun _ k => XS.iconst X2.here hx rfl (hb hby d9_28) k) ?_
  show own_Ends p e below F (T2.setTop (mkF m 29 #[.val (.ref b), .val (.int (0 : Int32)), .val (.ref mo), .val (.ref a2)] [(.int (0 : Int32)), (.ref a2), (.int (0 : Int32)), (.ref b)]))
  refine own_step (fun _ k => XS.aloadN X2.here hx rfl (hb hby d9_29) rfl rfl k) ?_
  show own_Ends p e below F (T2.setTop (mkF m 30 #[.val (.ref b), .val (.int (0 : Int32)), .val (.ref mo), .val (.ref a2)] [(.ref b), (.int (0 : Int32)), (.ref a2), (.int (0 : Int32)), (.ref b)]))
  obtain ⟨cl3, Ar3, q3, S3, M3, H3, G3⟩ := id (VB.ext E2)
  have al3 := X2.arraylength hx (by rw [e2]; exact Ar3.1) (State.isArrayOf_alike hZ.alike Ar3.2.1) (g := (mkF m 30 #[.val (.ref b), .val (.int (0 : Int32)), .val (.ref mo), .val (.ref a2)] [(.ref b), (.int (0 : Int32)), (.ref a2), (.int (0 : Int32)), (.ref b)])) rfl rfl (hb hby d9_30)
  rw [len_of S3 M3] at al3
  refine own_step al3 ?_
  show own_Ends p e below F (T2.setTop (mkF m 31 #[.val (.ref b), .val (.int (0 : Int32)), .val (.ref mo), .val (.ref a2)] [(.int (0 : Int32)), (.int (0 : Int32)), (.ref a2), (.int (0 : Int32)), (.ref b)]))
  refine own_step (fun _ k => XS.iloadN X2.here hx rfl (hb hby d9_31) rfl k) ?_
  show own_Ends p e below F (T2.setTop (mkF m 32 #[.val (.ref b), .val (.int (0 : Int32)), .val (.ref mo), .val (.ref a2)] [(.int (0 : Int32)), (.int (0 : Int32)), (.int (0 : Int32)), (.ref a2), (.int (0 : Int32)), (.ref b)]))
  obtain ⟨_, _, ⟨T4, L4, k4, n4⟩, -, X4, ⟨Lc4, hQ4, l4, y4, z4⟩, st4⟩ := Jvm.LawKit.callS X2 hx (y := (⟨"java/lang/Math", "min", "(II)I"⟩ : MethodName)) hown (mvT hZ (own_g hw 64 rfl)) (mvT hZ (own_g hw 65 rfl)) (mvT hZ (own_g hw 66 rfl)) (mvT hZ (own_g hw 67 rfl)) (by decide) (backOf (W := 4) (rm10 l Z a0 hw [] (0 : Int32) (0 : Int32) h2 n0 Z2) hZ (own_g hw 67 rfl) (own_g hw 66 rfl) (by decide) (by decide)) (g := (mkF m 32 #[.val (.ref b), .val (.int (0 : Int32)), .val (.ref mo), .val (.ref a2)] [(.int (0 : Int32)), (.int (0 : Int32)), (.int (0 : Int32)), (.ref a2), (.int (0 : Int32)), (.ref b)])) rfl (by rw [hml]; rfl) (argsL := [(.int (0 : Int32)), (.int (0 : Int32))]) (rest := [(.int (0 : Int32)), (.ref a2), (.int (0 : Int32)), (.ref b)]) (lenOf pd__28II_29I rfl) rfl (by show 2 * 0 + _ ≤ _; exact Nat.le_of_eq rfl) (hb hby d9_32) (fun _ _ => ⟨rfl, e2, (by decide : 1 + 0 ≤ _), (by decide : 0 + 0 ≤ _)⟩)
  dsimp only [Pt.U, Pt.locs, Pt.cells, Pt.slots] at X4 l4 y4 z4 st4 hQ4
  subst l4 y4 z4
  obtain ⟨rfl, Nq4, eq4⟩ := hQ4
  have N4 := Fr.app N0 Nq4
  refine own_step st4 ?_
  show own_Ends p e below F (T4.setTop (mkF m 35 #[.val (.ref b), .val (.int (0 : Int32)), .val (.ref mo), .val (.ref a2)] [(.int (if (0 : Int32) < (0 : Int32) then (0 : Int32) else (0 : Int32))), (.int (0 : Int32)), (.ref a2), (.int (0 : Int32)), (.ref b)]))
  rw [show (if (0 : Int32) < (0 : Int32) then (0 : Int32) else (0 : Int32)) = (0 : Int32) from (by first | rfl | decide)]
  show own_Ends p e below F (T4.setTop (mkF m 35 #[.val (.ref b), .val (.int (0 : Int32)), .val (.ref mo), .val (.ref a2)] [(.int (0 : Int32)), (.int (0 : Int32)), (.ref a2), (.int (0 : Int32)), (.ref b)]))
  obtain ⟨cl5, Ar5, q5, -⟩ := id V2
  obtain ⟨T5, h5, L5, X5, e5, N5, K5, V5, st5⟩ := cpA X4 hx hZ hown (own_g hw 68 rfl) (own_g hw 71 rfl) (own_g hw 69 rfl) (own_g hw 70 rfl) eq4 (VB.ext E2) V2 (us := []) (Or.inr ⟨rfl, rfl, trivial⟩) (by decide) (by decide) (by decide) (by decide) (by decide) rfl (by decide) N4 ge_a2 (g := (mkF m 35 #[.val (.ref b), .val (.int (0 : Int32)), .val (.ref mo), .val (.ref a2)] [(.int (0 : Int32)), (.int (0 : Int32)), (.ref a2), (.int (0 : Int32)), (.ref b)])) rfl (by rw [hml]; rfl) (rest := []) rfl (hb hby d9_35) (by decide) (W := 0) (by show 2 * 0 + _ ≤ _; exact Nat.le_of_eq rfl) (by decide)
  have V5 : Arv Z h5 a2 k2 (.object "java/lang/Object") (0 : Int32) [] .null := V5
  have Z5 : n0 ≤ h5.size := Nat.le_trans Z2 K5.1
  have SZ5 : h0.size ≤ h5.size := Nat.le_trans SZ2 K5.1
  refine own_step st5 ?_
  show own_Ends p e below F (T5.setTop (mkF m 38 #[.val (.ref b), .val (.int (0 : Int32)), .val (.ref mo), .val (.ref a2)] []))
  refine own_step (fun _ k => XS.aloadN X5.here hx rfl (hb hby d9_38) rfl rfl k) ?_
  show own_Ends p e below F (T5.setTop (mkF m 39 #[.val (.ref b), .val (.int (0 : Int32)), .val (.ref mo), .val (.ref a2)] [(.ref a2)]))
  rw [hF]
  exact own_ret X5 (v := (some (.ref a2))) (fun h => by rw [Bd.returns] at h; cases h) Bd.notSynchronized (fun fs hr => retOut X5 hx (t := (.array (.object "java/lang/Object"))) (w := (.ref a2)) (i := .areturn) Bd.returns rfl (Or.inr (Or.inr (Or.inr (Or.inr ⟨rfl, rfl, rfl⟩)))) (hb hby d9_39) hr) (by decide) (by decide) (by rw [e5]; exact ⟨_, _, rfl, N5, ((Keep.trans (Keep.ext (Keep.refl _ _) E2) K5 (allS (Or.inr sz_a2) all0)) : Keep h0 h5 []), sz_a2, V5⟩)

theorem d8_0 : decode jdk_65_method_119_code 0 = .ok (.aload_n 0, 1) := by decide +kernel
theorem d8_1 : decode jdk_65_method_119_code 1 = .ok (.iload_n 1, 1) := by decide +kernel
theorem d8_2 : decode jdk_65_method_119_code 2 = .ok (.aload_n 0, 1) := by decide +kernel
theorem d8_3 : decode jdk_65_method_119_code 3 = .ok (.invokevirtual 86, 3) := by decide +kernel
theorem d8_6 : decode jdk_65_method_119_code 6 = .ok (.invokestatic 300, 3) := by decide +kernel
theorem d8_9 : decode jdk_65_method_119_code 9 = .ok (.areturn, 1) := by decide +kernel
theorem pd__28_5bLjava_2flang_2fObject_3bILjava_2flang_2fClass_3b_29_5bLjava_2flang_2fObject_3b : parseMethodDescriptor "([Ljava/lang/Object;ILjava/lang/Class;)[Ljava/lang/Object;" = some ⟨[(.array (.object "java/lang/Object")), .int, (.object "java/lang/Class")], some (.array (.object "java/lang/Object"))⟩ := by decide +kernel
theorem ef_rm8_0 (m : MethodId) (x0 : Addr) (x1 : Int32) : entryFrame m #[(.ref x0), (.int x1)] 2 = mkF m 0 #[.val (.ref x0), .val (.int x1)] [] := by first | (simp [entryFrame, mkF, argsToLocals, Value.category, maxLocals]; done) | rfl
def Q8_0 (Z : State) (b : Addr) (kb : ClassId) (mo : Addr) (h0 : Heap) (n0 : Nat) (v : Option Value) (h : Heap) (L : List Loc) : Prop := ∃ c k, v = some (.ref c) ∧ Fr n0 L ∧ Keep h0 h [] ∧ h0.size ≤ c ∧ Arv Z h c k (.object "java/lang/Object") (0 : Int32) [] .null
set_option maxRecDepth 65536 in
set_option maxHeartbeats 40000000 in
theorem rm8_0 (l : Launch) (Z : State) (a0 : Array Value) (hw : ∀ d ∈ tables_1, d.before a0 Z = true) (ws : List Jvm.Cond) (b : Addr) (kb : ClassId) (mo : Addr) (h0 : Heap) (n0 : Nat) (Z0 : n0 ≤ h0.size) (VB : Arv Z h0 b kb (.object "java/lang/Object") (0 : Int32) [] .null) (XB : Exa Z h0 b "[Ljava/lang/Object;") (M_mo : Mir Z "[Ljava/lang/Object;" mo) :
    MetFree l (⟨"java/util/Arrays", "copyOf", "([Ljava/lang/Object;I)[Ljava/lang/Object;"⟩ : MethodName) (head1 (Jvm.Cond.code (⟨"java/util/Arrays", "copyOf", "([Ljava/lang/Object;I)[Ljava/lang/Object;"⟩ : MethodName) jdk_65_method_119_code 2 (some (.array (.object "java/lang/Object"))) :: ws) ({ frames := 2, cells := 1, slots := 0, locals := 33 } : Room)) (fun ar U => ar = #[(.ref b), (.int (0 : Int32))] ∧ Z.Warmed39 U.vm ∧ U.heap = h0) (fun _ _ _ _ _ => True) (fun _ U o U' => ∃ v L, o = .returned v ∧ Q8_0 Z b kb mo h0 n0 v U'.heap L ∧ FrameEnd U o U' L ({ frames := 2, cells := 1, slots := 0, locals := 33 } : Room).cells ({ frames := 2, cells := 1, slots := 0, locals := 33 } : Room).slots) := by
  refine MetFree.of_bodySF (plainFor_of_name pn_java_util_Arrays) hisR ?_
  intro p e s m args below meth c s₁ Bd hml0 hP hK
  obtain ⟨rfl, hZ, hh⟩ := hP
  have hx := Bd.exec
  have hby := Bd.bytes
  have hml : c.maxLocals = 2 := hml0
  have hown : s.vm.findClass "java/util/Arrays" = some m.cls := findClass_of_methodNamed Bd.named
  have hnm := (name_of_methodNamed Bd.named Bd.method).1
  have X0 : Stand p l e ({ frames := 2, cells := 1, slots := 0, locals := 33 } : Room) s m #[(.ref b), (.int (0 : Int32))] below meth c s₁ [] 0 0 := Stand.of_body Bd
  have e0 : s₁.heap = h0 := by rw [← hh, Bd.state]; rfl
  have N0 := Fr.nil n0
  obtain ⟨F, hF⟩ : ∃ F, F = own_Fin s (Q8_0 Z b kb mo h0 n0) ({ frames := 2, cells := 1, slots := 0, locals := 33 } : Room).cells ({ frames := 2, cells := 1, slots := 0, locals := 33 } : Room).slots := ⟨_, rfl⟩
  show own_Ends p e below (own_Fin s (Q8_0 Z b kb mo h0 n0) ({ frames := 2, cells := 1, slots := 0, locals := 33 } : Room).cells ({ frames := 2, cells := 1, slots := 0, locals := 33 } : Room).slots) _
  rw [← hF, ef_rm8_0 m b (0 : Int32)]
  show own_Ends p e below F (s₁.setTop (mkF m 0 #[.val (.ref b), .val (.int (0 : Int32))] []))
  refine own_step (fun _ k => XS.aloadN X0.here hx rfl (hb hby d8_0) rfl rfl k) ?_
  show own_Ends p e below F (s₁.setTop (mkF m 1 #[.val (.ref b), .val (.int (0 : Int32))] [(.ref b)]))
  refine own_step (fun _ k => XS.iloadN X0.here hx rfl (hb hby d8_1) rfl k) ?_
  show own_Ends p e below F (s₁.setTop (mkF m 2 #[.val (.ref b), .val (.int (0 : Int32))] [(.int (0 : Int32)), (.ref b)]))
  refine own_step (fun _ k => XS.aloadN X0.here hx rfl (hb hby d8_2) rfl rfl k) ?_
  show own_Ends p e below F (s₁.setTop (mkF m 3 #[.val (.ref b), .val (.int (0 : Int32))] [(.ref b), (.int (0 : Int32)), (.ref b)]))
  obtain ⟨T1, X1, e1, st1⟩ := own_gc X0 hx hZ hown (own_g hw 52 rfl) (own_g hw 53 rfl) (own_g hw 55 rfl) (own_g hw 54 rfl) (own_g hw 56 rfl) e0 XB M_mo (g := (mkF m 3 #[.val (.ref b), .val (.int (0 : Int32))] [(.ref b), (.int (0 : Int32)), (.ref b)])) rfl (by rw [hml]; rfl) (rest := [(.int (0 : Int32)), (.ref b)]) rfl (hb hby d8_3) (by decide) (W := 2) (by show 2 * 0 + _ ≤ _; exact Nat.le_of_eq rfl) (by decide)
  refine own_step st1 ?_
  show own_Ends p e below F (T1.setTop (mkF m 6 #[.val (.ref b), .val (.int (0 : Int32))] [(.ref mo), (.int (0 : Int32)), (.ref b)]))
  obtain ⟨_, _, ⟨T2, L2, k2, n2⟩, -, X2, ⟨Lc2, hQ2, l2, y2, z2⟩, st2⟩ := Jvm.LawKit.callS X1 hx (y := (⟨"java/util/Arrays", "copyOf", "([Ljava/lang/Object;ILjava/lang/Class;)[Ljava/lang/Object;"⟩ : MethodName)) hown (mvT hZ (own_g hw 58 rfl)) (mvT hZ (own_g hw 59 rfl)) (mvT hZ (own_g hw 50 rfl)) (mvT hZ (own_g hw 60 rfl)) (by decide) (backOf (W := 0) (rm9_0 l Z a0 hw [] b kb  mo h0 n0 Z0 VB XB M_mo) hZ (own_g hw 60 rfl) (own_g hw 50 rfl) (by decide) (by decide)) (g := (mkF m 6 #[.val (.ref b), .val (.int (0 : Int32))] [(.ref mo), (.int (0 : Int32)), (.ref b)])) rfl (by rw [hml]; rfl) (argsL := [(.ref b), (.int (0 : Int32)), (.ref mo)]) (rest := []) (lenOf pd__28_5bLjava_2flang_2fObject_3bILjava_2flang_2fClass_3b_29_5bLjava_2flang_2fObject_3b rfl) rfl (by show 2 * 0 + _ ≤ _; exact Nat.le_of_eq rfl) (hb hby d8_6) (fun _ _ => ⟨rfl, e1, (by decide : 0 + 1 ≤ _), (by decide : 0 + 0 ≤ _)⟩)
  dsimp only [Pt.U, Pt.locs, Pt.cells, Pt.slots] at X2 l2 y2 z2 st2 hQ2
  subst l2 y2 z2
  obtain ⟨c2, kc2, rfl, Nq2, Kq2, fq0_2, fq1_2⟩ := hQ2
  have N2 := Fr.app N0 Nq2
  have Z2 : n0 ≤ T2.heap.size := Nat.le_trans Z0 Kq2.1
  have SZ2 : h0.size ≤ T2.heap.size := Nat.le_trans (Nat.le_refl h0.size) Kq2.1
  have ne_b_c2 : b ≠ c2 := Nat.ne_of_lt (Nat.lt_of_lt_of_le (VB).lt fq0_2)
  have ge_c2 : n0 ≤ c2 := Nat.le_trans Z0 fq0_2
  have sz_c2 : h0.size ≤ c2 := Nat.le_trans (Nat.le_refl h0.size) fq0_2
  refine own_step st2 ?_
  show own_Ends p e below F (T2.setTop (mkF m 9 #[.val (.ref b), .val (.int (0 : Int32))] [(.ref c2)]))
  rw [hF]
  exact own_ret X2 (v := (some (.ref c2))) (fun h => by rw [Bd.returns] at h; cases h) Bd.notSynchronized (fun fs hr => retOut X2 hx (t := (.array (.object "java/lang/Object"))) (w := (.ref c2)) (i := .areturn) Bd.returns rfl (Or.inr (Or.inr (Or.inr (Or.inr ⟨rfl, rfl, rfl⟩)))) (hb hby d8_9) hr) (by decide) (by decide) (by exact ⟨_, _, rfl, N2, ((Keep.trans (Keep.refl _ _) Kq2 all0) : Keep h0 T2.heap []), sz_c2, fq1_2⟩)

theorem d7_0 : decode jdk_38_method_16_code 0 = .ok (.aload_n 0, 1) := by decide +kernel
theorem d7_1 : decode jdk_38_method_16_code 1 = .ok (.getfield 9, 3) := by decide +kernel
theorem d7_4 : decode jdk_38_method_16_code 4 = .ok (.aload_n 0, 1) := by decide +kernel
theorem d7_5 : decode jdk_38_method_16_code 5 = .ok (.getfield 48, 3) := by decide +kernel
theorem d7_8 : decode jdk_38_method_16_code 8 = .ok (.invokestatic 66, 3) := by decide +kernel
theorem d7_11 : decode jdk_38_method_16_code 11 = .ok (.areturn, 1) := by decide +kernel
theorem pd__28_5bLjava_2flang_2fObject_3bI_29_5bLjava_2flang_2fObject_3b : parseMethodDescriptor "([Ljava/lang/Object;I)[Ljava/lang/Object;" = some ⟨[(.array (.object "java/lang/Object")), .int], some (.array (.object "java/lang/Object"))⟩ := by decide +kernel
theorem ef_rm7_0 (m : MethodId) (x0 : Addr) : entryFrame m #[(.ref x0)] 1 = mkF m 0 #[.val (.ref x0)] [] := by first | (simp [entryFrame, mkF, argsToLocals, Value.category, maxLocals]; done) | rfl
def Q7_0 (Z : State) (bl : Addr) (b : Addr) (kb : ClassId) (mo : Addr) (h0 : Heap) (n0 : Nat) (v : Option Value) (h : Heap) (L : List Loc) : Prop := ∃ c k, v = some (.ref c) ∧ Fr n0 L ∧ Keep h0 h [] ∧ h0.size ≤ c ∧ Arv Z h c k (.object "java/lang/Object") (0 : Int32) [] .null
set_option maxRecDepth 65536 in
set_option maxHeartbeats 40000000 in
theorem rm7_0 (l : Launch) (Z : State) (a0 : Array Value) (hw : ∀ d ∈ tables_1, d.before a0 Z = true) (ws : List Jvm.Cond) (bl : Addr) (b : Addr) (kb : ClassId) (mo : Addr) (h0 : Heap) (n0 : Nat) (Z0 : n0 ≤ h0.size) (VB : Arv Z h0 b kb (.object "java/lang/Object") (0 : Int32) [] .null) (XB : Exa Z h0 b "[Ljava/lang/Object;") (M_mo : Mir Z "[Ljava/lang/Object;" mo) (EL : Exa Z h0 bl "java/util/ArrayList") (FE : Fld Z h0 bl "java/util/ArrayList" "elementData" "[Ljava/lang/Object;" (.ref b)) (FZ : Fld Z h0 bl "java/util/ArrayList" "size" "I" (.int (0 : Int32))) :
    MetFree l (⟨"java/util/ArrayList", "toArray", "()[Ljava/lang/Object;"⟩ : MethodName) (head1 (Jvm.Cond.code (⟨"java/util/ArrayList", "toArray", "()[Ljava/lang/Object;"⟩ : MethodName) jdk_38_method_16_code 1 (some (.array (.object "java/lang/Object"))) :: ws) ({ frames := 3, cells := 1, slots := 0, locals := 46 } : Room)) (fun ar U => ar = #[(.ref bl)] ∧ Z.Warmed39 U.vm ∧ U.heap = h0) (fun _ _ _ _ _ => True) (fun _ U o U' => ∃ v L, o = .returned v ∧ Q7_0 Z bl b kb mo h0 n0 v U'.heap L ∧ FrameEnd U o U' L ({ frames := 3, cells := 1, slots := 0, locals := 46 } : Room).cells ({ frames := 3, cells := 1, slots := 0, locals := 46 } : Room).slots) := by
  refine MetFree.of_bodySF (plainFor_of_name pn_java_util_ArrayList) hisR ?_
  intro p e s m args below meth c s₁ Bd hml0 hP hK
  obtain ⟨rfl, hZ, hh⟩ := hP
  have hx := Bd.exec
  have hby := Bd.bytes
  have hml : c.maxLocals = 1 := hml0
  have hown : s.vm.findClass "java/util/ArrayList" = some m.cls := findClass_of_methodNamed Bd.named
  have hnm := (name_of_methodNamed Bd.named Bd.method).1
  have X0 : Stand p l e ({ frames := 3, cells := 1, slots := 0, locals := 46 } : Room) s m #[(.ref bl)] below meth c s₁ [] 0 0 := Stand.of_body Bd
  have e0 : s₁.heap = h0 := by rw [← hh, Bd.state]; rfl
  have N0 := Fr.nil n0
  obtain ⟨F, hF⟩ : ∃ F, F = own_Fin s (Q7_0 Z bl b kb mo h0 n0) ({ frames := 3, cells := 1, slots := 0, locals := 46 } : Room).cells ({ frames := 3, cells := 1, slots := 0, locals := 46 } : Room).slots := ⟨_, rfl⟩
  show own_Ends p e below (own_Fin s (Q7_0 Z bl b kb mo h0 n0) ({ frames := 3, cells := 1, slots := 0, locals := 46 } : Room).cells ({ frames := 3, cells := 1, slots := 0, locals := 46 } : Room).slots) _
  rw [← hF, ef_rm7_0 m bl]
  show own_Ends p e below F (s₁.setTop (mkF m 0 #[.val (.ref bl)] []))
  refine own_step (fun _ k => XS.aloadN X0.here hx rfl (hb hby d7_0) rfl rfl k) ?_
  show own_Ends p e below F (s₁.setTop (mkF m 1 #[.val (.ref bl)] [(.ref bl)]))
  obtain ⟨T1, X1, e1, st1⟩ := getF X0 hx hZ hown (host := "") (Or.inl (own_g hw 24 rfl)) Via.refl e0 FE (g := (mkF m 1 #[.val (.ref bl)] [(.ref bl)])) rfl rfl (hb hby d7_1)
  refine own_step st1 ?_
  show own_Ends p e below F (T1.setTop (mkF m 4 #[.val (.ref bl)] [(.ref b)]))
  refine own_step (fun _ k => XS.aloadN X1.here hx rfl (hb hby d7_4) rfl rfl k) ?_
  show own_Ends p e below F (T1.setTop (mkF m 5 #[.val (.ref bl)] [(.ref bl), (.ref b)]))
  obtain ⟨T2, X2, e2, st2⟩ := getF X1 hx hZ hown (host := "") (Or.inl (own_g hw 46 rfl)) Via.refl e1 FZ (g := (mkF m 5 #[.val (.ref bl)] [(.ref bl), (.ref b)])) rfl rfl (hb hby d7_5)
  refine own_step st2 ?_
  show own_Ends p e below F (T2.setTop (mkF m 8 #[.val (.ref bl)] [(.int (0 : Int32)), (.ref b)]))
  obtain ⟨_, _, ⟨T3, L3, k3, n3⟩, -, X3, ⟨Lc3, hQ3, l3, y3, z3⟩, st3⟩ := Jvm.LawKit.callS X2 hx (y := (⟨"java/util/Arrays", "copyOf", "([Ljava/lang/Object;I)[Ljava/lang/Object;"⟩ : MethodName)) hown (mvT hZ (own_g hw 48 rfl)) (mvT hZ (own_g hw 49 rfl)) (mvT hZ (own_g hw 50 rfl)) (mvT hZ (own_g hw 51 rfl)) (by decide) (backOf (W := 0) (rm8_0 l Z a0 hw [] b kb  mo h0 n0 Z0 VB XB M_mo) hZ (own_g hw 51 rfl) (own_g hw 50 rfl) (by decide) (by decide)) (g := (mkF m 8 #[.val (.ref bl)] [(.int (0 : Int32)), (.ref b)])) rfl (by rw [hml]; rfl) (argsL := [(.ref b), (.int (0 : Int32))]) (rest := []) (lenOf pd__28_5bLjava_2flang_2fObject_3bI_29_5bLjava_2flang_2fObject_3b rfl) rfl (by show 2 * 0 + _ ≤ _; exact Nat.le_of_eq rfl) (hb hby d7_8) (fun _ _ => ⟨rfl, e2, (by decide : 0 + 1 ≤ _), (by decide : 0 + 0 ≤ _)⟩)
  dsimp only [Pt.U, Pt.locs, Pt.cells, Pt.slots] at X3 l3 y3 z3 st3 hQ3
  subst l3 y3 z3
  obtain ⟨c3, kc3, rfl, Nq3, Kq3, fq0_3, fq1_3⟩ := hQ3
  have N3 := Fr.app N0 Nq3
  have Z3 : n0 ≤ T3.heap.size := Nat.le_trans Z0 Kq3.1
  have SZ3 : h0.size ≤ T3.heap.size := Nat.le_trans (Nat.le_refl h0.size) Kq3.1
  have ne_b_c3 : b ≠ c3 := Nat.ne_of_lt (Nat.lt_of_lt_of_le (VB).lt fq0_3)
  have ne_bl_c3 : bl ≠ c3 := Nat.ne_of_lt (Nat.lt_of_lt_of_le (EL).lt fq0_3)
  have ge_c3 : n0 ≤ c3 := Nat.le_trans Z0 fq0_3
  have sz_c3 : h0.size ≤ c3 := Nat.le_trans (Nat.le_refl h0.size) fq0_3
  refine own_step st3 ?_
  show own_Ends p e below F (T3.setTop (mkF m 11 #[.val (.ref bl)] [(.ref c3)]))
  rw [hF]
  exact own_ret X3 (v := (some (.ref c3))) (fun h => by rw [Bd.returns] at h; cases h) Bd.notSynchronized (fun fs hr => retOut X3 hx (t := (.array (.object "java/lang/Object"))) (w := (.ref c3)) (i := .areturn) Bd.returns rfl (Or.inr (Or.inr (Or.inr (Or.inr ⟨rfl, rfl, rfl⟩)))) (hb hby d7_11) hr) (by decide) (by decide) (by exact ⟨_, _, rfl, N3, ((Keep.trans (Keep.refl _ _) Kq3 all0) : Keep h0 T3.heap []), sz_c3, fq1_3⟩)

theorem d6_0 : decode jdk_38_method_3_code 0 = .ok (.aload_n 0, 1) := by decide +kernel
theorem d6_1 : decode jdk_38_method_3_code 1 = .ok (.invokespecial 1, 3) := by decide +kernel
theorem d6_4 : decode jdk_38_method_3_code 4 = .ok (.aload_n 1, 1) := by decide +kernel
theorem d6_5 : decode jdk_38_method_3_code 5 = .ok (.invokeinterface 42 1, 5) := by decide +kernel
theorem d6_10 : decode jdk_38_method_3_code 10 = .ok (.astore_n 2, 1) := by decide +kernel
theorem d6_11 : decode jdk_38_method_3_code 11 = .ok (.aload_n 0, 1) := by decide +kernel
theorem d6_12 : decode jdk_38_method_3_code 12 = .ok (.aload_n 2, 1) := by decide +kernel
theorem d6_13 : decode jdk_38_method_3_code 13 = .ok (.arraylength, 1) := by decide +kernel
theorem d6_14 : decode jdk_38_method_3_code 14 = .ok (.dup_x1, 1) := by decide +kernel
theorem d6_15 : decode jdk_38_method_3_code 15 = .ok (.putfield 48, 3) := by decide +kernel
theorem d6_18 : decode jdk_38_method_3_code 18 = .ok (.ifCond .eq 39, 3) := by decide +kernel
theorem d6_57 : decode jdk_38_method_3_code 57 = .ok (.aload_n 0, 1) := by decide +kernel
theorem d6_58 : decode jdk_38_method_3_code 58 = .ok (.getstatic 15, 3) := by decide +kernel
theorem d6_61 : decode jdk_38_method_3_code 61 = .ok (.putfield 9, 3) := by decide +kernel
theorem d6_64 : decode jdk_38_method_3_code 64 = .ok (.return_, 1) := by decide +kernel
theorem ef_rm6_0 (m : MethodId) (x0 : Addr) (x1 : Addr) : entryFrame m #[(.ref x0), (.ref x1)] 3 = mkF m 0 #[.val (.ref x0), .val (.ref x1), .unset] [] := by first | (simp [entryFrame, mkF, argsToLocals, Value.category, maxLocals]; done) | rfl
def Q6_0 (Z : State) (a bl : Addr) (b : Addr) (kb : ClassId) (mo : Addr) (ee ma : Addr) (h0 : Heap) (n0 : Nat) (v : Option Value) (h : Heap) (L : List Loc) : Prop := v = none ∧ Fr n0 L ∧ Keep h0 h [a] ∧ Exa Z h a "java/util/ArrayList"
set_option maxRecDepth 65536 in
set_option maxHeartbeats 40000000 in
theorem rm6_0 (l : Launch) (Z : State) (a0 : Array Value) (hw : ∀ d ∈ tables_1, d.before a0 Z = true) (ws : List Jvm.Cond) (a bl : Addr) (b : Addr) (kb : ClassId) (mo : Addr) (ee ma : Addr) (h0 : Heap) (n0 : Nat) (Z0 : n0 ≤ h0.size) (EX : Exa Z h0 a "java/util/ArrayList") (ge : n0 ≤ a) (F_modCount : Fld Z h0 a "java/util/AbstractList" "modCount" "I" (.int (0 : Int32))) (F_elementData : Fld Z h0 a "java/util/ArrayList" "elementData" "[Ljava/lang/Object;" .null) (F_size : Fld Z h0 a "java/util/ArrayList" "size" "I" (.int (0 : Int32))) (VB : Arv Z h0 b kb (.object "java/lang/Object") (0 : Int32) [] .null) (XB : Exa Z h0 b "[Ljava/lang/Object;") (M_mo : Mir Z "[Ljava/lang/Object;" mo) (EL : Exa Z h0 bl "java/util/ArrayList") (FE : Fld Z h0 bl "java/util/ArrayList" "elementData" "[Ljava/lang/Object;" (.ref b)) (FZ : Fld Z h0 bl "java/util/ArrayList" "size" "I" (.int (0 : Int32))) (SE : Sta Z h0 "java/util/ArrayList" "EMPTY_ELEMENTDATA" "[Ljava/lang/Object;" (.ref ee)) (M_ma : Mir Z "java/util/ArrayList" ma) (nab : a ≠ bl) (nav : a ≠ b) :
    MetFree l (⟨"java/util/ArrayList", "<init>", "(Ljava/util/Collection;)V"⟩ : MethodName) (head1 (Jvm.Cond.code (⟨"java/util/ArrayList", "<init>", "(Ljava/util/Collection;)V"⟩ : MethodName) jdk_38_method_3_code 3 none :: ws) ({ frames := 4, cells := 1, slots := 0, locals := 58 } : Room)) (fun ar U => ar = #[(.ref a), (.ref bl)] ∧ Z.Warmed39 U.vm ∧ U.heap = h0) (fun _ _ _ _ _ => True) (fun _ U o U' => ∃ v L, o = .returned v ∧ Q6_0 Z a bl b kb mo ee ma h0 n0 v U'.heap L ∧ FrameEnd U o U' L ({ frames := 4, cells := 1, slots := 0, locals := 58 } : Room).cells ({ frames := 4, cells := 1, slots := 0, locals := 58 } : Room).slots) := by
  refine MetFree.of_bodySF (plainFor_of_name pn_java_util_ArrayList) hisR ?_
  intro p e s m args below meth c s₁ Bd hml0 hP hK
  obtain ⟨rfl, hZ, hh⟩ := hP
  have hx := Bd.exec
  have hby := Bd.bytes
  have hml : c.maxLocals = 3 := hml0
  have hown : s.vm.findClass "java/util/ArrayList" = some m.cls := findClass_of_methodNamed Bd.named
  have hnm := (name_of_methodNamed Bd.named Bd.method).1
  have X0 : Stand p l e ({ frames := 4, cells := 1, slots := 0, locals := 58 } : Room) s m #[(.ref a), (.ref bl)] below meth c s₁ [] 0 0 := Stand.of_body Bd
  have e0 : s₁.heap = h0 := by rw [← hh, Bd.state]; rfl
  have N0 := Fr.nil n0
  obtain ⟨F, hF⟩ : ∃ F, F = own_Fin s (Q6_0 Z a bl b kb mo ee ma h0 n0) ({ frames := 4, cells := 1, slots := 0, locals := 58 } : Room).cells ({ frames := 4, cells := 1, slots := 0, locals := 58 } : Room).slots := ⟨_, rfl⟩
  show own_Ends p e below (own_Fin s (Q6_0 Z a bl b kb mo ee ma h0 n0) ({ frames := 4, cells := 1, slots := 0, locals := 58 } : Room).cells ({ frames := 4, cells := 1, slots := 0, locals := 58 } : Room).slots) _
  rw [← hF, ef_rm6_0 m a bl]
  show own_Ends p e below F (s₁.setTop (mkF m 0 #[.val (.ref a), .val (.ref bl), .unset] []))
  refine own_step (fun _ k => XS.aloadN X0.here hx rfl (hb hby d6_0) rfl rfl k) ?_
  show own_Ends p e below F (s₁.setTop (mkF m 1 #[.val (.ref a), .val (.ref bl), .unset] [(.ref a)]))
  obtain ⟨_, _, ⟨T1, L1, k1, n1⟩, -, X1, ⟨Lc1, hQ1, l1, y1, z1⟩, st1⟩ := X0.specialBack hx (y := (⟨"java/util/AbstractList", "<init>", "()V"⟩ : MethodName)) rfl hown (mvT hZ (own_g hw 6 rfl)) (mvT hZ (own_g hw 7 rfl)) (mvT hZ (own_g hw 11 rfl)) (by decide) (backOf (W := 0) (rm2 l Z a0 hw [] a  h0 n0 Z0 EX ge F_modCount F_elementData F_size ) hZ (own_g hw 11 rfl) (own_g hw 10 rfl) (by decide) (by decide)) (g := (mkF m 1 #[.val (.ref a), .val (.ref bl), .unset] [(.ref a)])) rfl (by rw [hml]; rfl) (Steps.refl _) (a := a) (argsL := []) (rest := []) (lenOf pd__28_29V rfl) rfl (by show 2 * 0 + _ ≤ _; exact Nat.le_of_eq rfl) (hb hby d6_1) (fun _ _ => ⟨rfl, e0, (by decide : 0 + 0 ≤ _), (by decide : 0 + 0 ≤ _)⟩)
  dsimp only [Pt.U, Pt.locs, Pt.cells, Pt.slots] at X1 l1 y1 z1 st1 hQ1
  subst l1 y1 z1
  obtain ⟨rfl, Nq1, Kq1, fq0_1, fq1_1, fq2_1, fq3_1⟩ := hQ1
  have N1 := Fr.app N0 Nq1
  have Z1 : n0 ≤ T1.heap.size := Nat.le_trans Z0 Kq1.1
  have SZ1 : h0.size ≤ T1.heap.size := Nat.le_trans (Nat.le_refl h0.size) Kq1.1
  have S0_1 := own_Sta_keep SE Kq1 (allS (own_ns_exa EX) all0)
  refine own_trans st1 ?_
  show own_Ends p e below F (T1.setTop (mkF m 4 #[.val (.ref a), .val (.ref bl), .unset] []))
  refine own_step (fun _ k => XS.aloadN X1.here hx rfl (hb hby d6_4) rfl rfl k) ?_
  show own_Ends p e below F (T1.setTop (mkF m 5 #[.val (.ref a), .val (.ref bl), .unset] [(.ref bl)]))
  obtain ⟨cq2, kq2, qa2, qb2, qc2⟩ := isOf (s := s) (T := T1) hZ rfl (EL.keep Kq1)
  obtain ⟨_, _, ⟨T2, L2, k2, n2⟩, -, X2, ⟨Lc2, hQ2, l2, y2, z2⟩, st2⟩ := X1.interfaceBack hx (xi := (⟨"java/util/Collection", "toArray", "()[Ljava/lang/Object;"⟩ : MethodName)) (y := (⟨"java/util/ArrayList", "toArray", "()[Ljava/lang/Object;"⟩ : MethodName)) hown (mvT hZ (own_g hw 37 rfl)) (mvT hZ (own_g hw 38 rfl)) (mvT hZ (own_g hw 39 rfl)) (mvT hZ (own_g hw 40 rfl)) (mvT hZ (own_g hw 41 rfl)) (mvT hZ (own_g hw 42 rfl)) (mvT hZ (own_g hw 43 rfl)) (mvT hZ (own_g hw 44 rfl)) (by decide) (backOf (W := 0) (rm7_0 l Z a0 hw [] bl b kb  mo T1.heap n0 Z1 (VB.keep Kq1 (ninS (Ne.symm nav) nin0)) (XB.keep Kq1) M_mo (EL.keep Kq1) (FE.keep Kq1 (ninS (Ne.symm nab) nin0)) (FZ.keep Kq1 (ninS (Ne.symm nab) nin0))) hZ (own_g hw 45 rfl) (own_g hw 2 rfl) (by decide) (by decide)) qa2 qb2 qc2 (g := (mkF m 5 #[.val (.ref a), .val (.ref bl), .unset] [(.ref bl)])) rfl (by rw [hml]; rfl) (Steps.refl _) (argsL := []) (rest := []) (lenOf pd__28_29_5bLjava_2flang_2fObject_3b rfl) rfl (by show 2 * 0 + _ ≤ _; exact Nat.le_of_eq rfl) (hb hby d6_5) (fun _ _ => ⟨rfl, rfl, (by decide : 0 + 1 ≤ _), (by decide : 0 + 0 ≤ _)⟩)
  dsimp only [Pt.U, Pt.locs, Pt.cells, Pt.slots] at X2 l2 y2 z2 st2 hQ2
  subst l2 y2 z2
  obtain ⟨c2, kc2, rfl, Nq2, Kq2, fq0_2, fq1_2⟩ := hQ2
  have N2 := Fr.app N1 Nq2
  have Z2 : n0 ≤ T2.heap.size := Nat.le_trans Z1 Kq2.1
  have SZ2 : h0.size ≤ T2.heap.size := Nat.le_trans SZ1 Kq2.1
  have S0_2 := own_Sta_keep S0_1 Kq2 all0
  have ne_a_c2 : a ≠ c2 := Nat.ne_of_lt (Nat.lt_of_lt_of_le (fq0_1).lt fq0_2)
  have ne_b_c2 : b ≠ c2 := Nat.ne_of_lt (Nat.lt_of_lt_of_le ((VB.keep Kq1 (ninS (Ne.symm nav) nin0))).lt fq0_2)
  have ne_bl_c2 : bl ≠ c2 := Nat.ne_of_lt (Nat.lt_of_lt_of_le ((EL.keep Kq1)).lt fq0_2)
  have ge_c2 : n0 ≤ c2 := Nat.le_trans Z1 fq0_2
  have sz_c2 : h0.size ≤ c2 := Nat.le_trans SZ1 fq0_2
  refine own_trans st2 ?_
  show own_Ends p e below F (T2.setTop (mkF m 10 #[.val (.ref a), .val (.ref bl), .unset] [(.ref c2)]))
  refine own_step (fun _ k => XS.astoreN X2.here hx rfl (hb hby d6_10) rfl rfl (l' := #[.val (.ref a), .val (.ref bl), .val (.ref c2)]) rfl k) ?_
  show own_Ends p e below F (T2.setTop (mkF m 11 #[.val (.ref a), .val (.ref bl), .val (.ref c2)] []))
  refine own_step (fun _ k => XS.aloadN X2.here hx rfl (hb hby d6_11) rfl rfl k) ?_
  show own_Ends p e below F (T2.setTop (mkF m 12 #[.val (.ref a), .val (.ref bl), .val (.ref c2)] [(.ref a)]))
  refine own_step (fun _ k => XS.aloadN X2.here hx rfl (hb hby d6_12) rfl rfl k) ?_
  show own_Ends p e below F (T2.setTop (mkF m 13 #[.val (.ref a), .val (.ref bl), .val (.ref c2)] [(.ref c2), (.ref a)]))
  obtain ⟨cl3, Ar3, q3, S3, M3, H3, G3⟩ := id fq1_2
  have al3 := X2.arraylength hx (by exact Ar3.1) (State.isArrayOf_alike hZ.alike Ar3.2.1) (g := (mkF m 13 #[.val (.ref a), .val (.ref bl), .val (.ref c2)] [(.ref c2), (.ref a)])) rfl rfl (hb hby d6_13)
  rw [len_of S3 M3] at al3
  refine own_step al3 ?_
  show own_Ends p e below F (T2.setTop (mkF m 14 #[.val (.ref a), .val (.ref bl), .val (.ref c2)] [(.int (0 : Int32)), (.ref a)]))
  refine own_step (fun _ k => XS.dupX1 X2.here hx rfl (hb hby d6_14) rfl rfl rfl k) ?_
  show own_Ends p e below F (T2.setTop (mkF m 15 #[.val (.ref a), .val (.ref bl), .val (.ref c2)] [(.int (0 : Int32)), (.ref a), (.int (0 : Int32))]))
  obtain ⟨T4, h4, X4, e4, W4, st4⟩ := putF X2 hx hZ hown (host := "") (Or.inl (own_g hw 46 rfl)) Via.refl rfl (fq3_1.keep Kq2 nin0) (fq0_1.keep Kq2) (Or.inl (own_g hw 47 rfl)) (own_g hw 1 rfl) (ty := .int) (by decide) rfl rfl (g := (mkF m 15 #[.val (.ref a), .val (.ref bl), .val (.ref c2)] [(.int (0 : Int32)), (.ref a), (.int (0 : Int32))])) rfl rfl (hb hby d6_15)
  refine own_step st4 ?_
  have F4 := Fld.same W4 (fq3_1.keep Kq2 nin0)
  have N4 := Fr.snoc X4 N2 ge
  have Z4 : n0 ≤ h4.size := by rw [W4.size]; exact Z2
  have SZ4 : h0.size ≤ h4.size := by rw [W4.size]; exact SZ2
  show own_Ends p e below F (T4.setTop (mkF m 18 #[.val (.ref a), .val (.ref bl), .val (.ref c2)] [(.int (0 : Int32))]))
  refine own_step (fun _ k => XS.ifYes X4.here hx rfl (pc0 := 18) (pc' := 57) rfl (hb hby d6_18) rfl ((if0 _ _).trans (teq (by decide : (0 : Int32) = (0 : Int32))).1) (by decide) (by decide) k) ?_
  show own_Ends p e below F (T4.setTop (mkF m 57 #[.val (.ref a), .val (.ref bl), .val (.ref c2)] []))
  refine own_step (fun _ k => XS.aloadN X4.here hx rfl (hb hby d6_57) rfl rfl k) ?_
  show own_Ends p e below F (T4.setTop (mkF m 58 #[.val (.ref a), .val (.ref bl), .val (.ref c2)] [(.ref a)]))
  obtain ⟨T5, X5, e5, st5⟩ := getS2 X4 hx hZ hown (host := "") (Or.inl (own_g hw 72 rfl)) Via.refl e4 (Sta.wr W4 S0_2) (g := (mkF m 58 #[.val (.ref a), .val (.ref bl), .val (.ref c2)] [(.ref a)])) rfl (hb hby d6_58)
  refine own_step st5 ?_
  show own_Ends p e below F (T5.setTop (mkF m 61 #[.val (.ref a), .val (.ref bl), .val (.ref c2)] [(.ref ee), (.ref a)]))
  obtain ⟨T6, h6, X6, e6, W6, st6⟩ := putF X5 hx hZ hown (host := "") (Or.inl (own_g hw 24 rfl)) Via.refl e5 (Fld.other W4 (fq2_1.keep Kq2 nin0) (Or.inr (slot_ne (t := (.array (.object "java/lang/Object"))) (t' := .int) (Or.inl (own_g hw 25 rfl)) (Or.inl (own_g hw 47 rfl)) (by decide) (by decide) (by decide)))) ((fq0_1.keep Kq2).wr W4) (Or.inl (own_g hw 25 rfl)) (own_g hw 1 rfl) (ty := (.array (.object "java/lang/Object"))) (by decide) rfl rfl (g := (mkF m 61 #[.val (.ref a), .val (.ref bl), .val (.ref c2)] [(.ref ee), (.ref a)])) rfl rfl (hb hby d6_61)
  refine own_step st6 ?_
  have F6 := Fld.same W6 (Fld.other W4 (fq2_1.keep Kq2 nin0) (Or.inr (slot_ne (t := (.array (.object "java/lang/Object"))) (t' := .int) (Or.inl (own_g hw 25 rfl)) (Or.inl (own_g hw 47 rfl)) (by decide) (by decide) (by decide))))
  have N6 := Fr.snoc X6 N4 ge
  have Z6 : n0 ≤ h6.size := by rw [W6.size]; exact Z4
  have SZ6 : h0.size ≤ h6.size := by rw [W6.size]; exact SZ4
  show own_Ends p e below F (T6.setTop (mkF m 64 #[.val (.ref a), .val (.ref bl), .val (.ref c2)] []))
  rw [hF]
  exact own_ret X6 (v := none) (fun _ => rfl) Bd.notSynchronized (fun fs hr => X6.returnOut hx Bd.returns (hb hby d6_64) hr) (by decide) (by decide) (by rw [e6]; exact ⟨rfl, N6, ((Keep.wr (Keep.wr (Keep.trans (Keep.trans (Keep.refl _ _) Kq1 (allS (Or.inl (List.mem_of_getElem? (i := 0) rfl)) all0)) Kq2 all0) W4 (Or.inl (List.mem_of_getElem? (i := 0) rfl))) W6 (Or.inl (List.mem_of_getElem? (i := 0) rfl))) : Keep h0 h6 [a]), (((fq0_1.keep Kq2).wr W4).wr W6)⟩)

theorem ef_rm9_1 (m : MethodId) (x0 : Addr) (x1 : Int32) (x2 : Addr) : entryFrame m #[(.ref x0), (.int x1), (.ref x2)] 4 = mkF m 0 #[.val (.ref x0), .val (.int x1), .val (.ref x2), .unset] [] := by first | (simp [entryFrame, mkF, argsToLocals, Value.category, maxLocals]; done) | rfl
def Q9_1 (Z : State) (b : Addr) (kb : ClassId) (w0 : Value) (mo : Addr) (h0 : Heap) (n0 : Nat) (v : Option Value) (h : Heap) (L : List Loc) : Prop := ∃ c k, v = some (.ref c) ∧ Fr n0 L ∧ Keep h0 h [] ∧ h0.size ≤ c ∧ Arv Z h c k (.object "java/lang/Object") (1 : Int32) [w0] .null
set_option maxRecDepth 65536 in
set_option maxHeartbeats 40000000 in
theorem rm9_1 (l : Launch) (Z : State) (a0 : Array Value) (hw : ∀ d ∈ tables_1, d.before a0 Z = true) (ws : List Jvm.Cond) (b : Addr) (kb : ClassId) (w0 : Value) (mo : Addr) (h0 : Heap) (n0 : Nat) (Z0 : n0 ≤ h0.size) (VB : Arv Z h0 b kb (.object "java/lang/Object") (10 : Int32) [w0, .null, .null, .null, .null, .null, .null, .null, .null, .null] .null) (XB : Exa Z h0 b "[Ljava/lang/Object;") (Hw0 : own_Ob Z h0 w0) (M_mo : Mir Z "[Ljava/lang/Object;" mo) :
    MetFree l (⟨"java/util/Arrays", "copyOf", "([Ljava/lang/Object;ILjava/lang/Class;)[Ljava/lang/Object;"⟩ : MethodName) (head1 (Jvm.Cond.code (⟨"java/util/Arrays", "copyOf", "([Ljava/lang/Object;ILjava/lang/Class;)[Ljava/lang/Object;"⟩ : MethodName) jdk_65_method_120_code 4 (some (.array (.object "java/lang/Object"))) :: ws) ({ frames := 1, cells := 1, slots := 1, locals := 18 } : Room)) (fun ar U => ar = #[(.ref b), (.int (1 : Int32)), (.ref mo)] ∧ Z.Warmed39 U.vm ∧ U.heap = h0) (fun _ _ _ _ _ => True) (fun _ U o U' => ∃ v L, o = .returned v ∧ Q9_1 Z b kb w0 mo h0 n0 v U'.heap L ∧ FrameEnd U o U' L ({ frames := 1, cells := 1, slots := 1, locals := 18 } : Room).cells ({ frames := 1, cells := 1, slots := 1, locals := 18 } : Room).slots) := by
  refine MetFree.of_bodySF (plainFor_of_name pn_java_util_Arrays) hisR ?_
  intro p e s m args below meth c s₁ Bd hml0 hP hK
  obtain ⟨rfl, hZ, hh⟩ := hP
  have hx := Bd.exec
  have hby := Bd.bytes
  have hml : c.maxLocals = 4 := hml0
  have hown : s.vm.findClass "java/util/Arrays" = some m.cls := findClass_of_methodNamed Bd.named
  have hnm := (name_of_methodNamed Bd.named Bd.method).1
  have X0 : Stand p l e ({ frames := 1, cells := 1, slots := 1, locals := 18 } : Room) s m #[(.ref b), (.int (1 : Int32)), (.ref mo)] below meth c s₁ [] 0 0 := Stand.of_body Bd
  have e0 : s₁.heap = h0 := by rw [← hh, Bd.state]; rfl
  have N0 := Fr.nil n0
  obtain ⟨F, hF⟩ : ∃ F, F = own_Fin s (Q9_1 Z b kb w0 mo h0 n0) ({ frames := 1, cells := 1, slots := 1, locals := 18 } : Room).cells ({ frames := 1, cells := 1, slots := 1, locals := 18 } : Room).slots := ⟨_, rfl⟩
  show own_Ends p e below (own_Fin s (Q9_1 Z b kb w0 mo h0 n0) ({ frames := 1, cells := 1, slots := 1, locals := 18 } : Room).cells ({ frames := 1, cells := 1, slots := 1, locals := 18 } : Room).slots) _
  rw [← hF, ef_rm9_1 m b (1 : Int32) mo]
  show own_Ends p e below F (s₁.setTop (mkF m 0 #[.val (.ref b), .val (.int (1 : Int32)), .val (.ref mo), .unset] []))
  refine own_step (fun _ k => XS.aloadN X0.here hx rfl (hb hby d9_0) rfl rfl k) ?_
  show own_Ends p e below F (s₁.setTop (mkF m 1 #[.val (.ref b), .val (.int (1 : Int32)), .val (.ref mo), .unset] [(.ref mo)]))
  obtain ⟨T1, X1, e1, st1⟩ := own_ldcM X0 hx hZ hown (own_g hw 61 rfl) e0 M_mo (g := (mkF m 1 #[.val (.ref b), .val (.int (1 : Int32)), .val (.ref mo), .unset] [(.ref mo)])) rfl (hb hby d9_1)
  refine own_step st1 ?_
  show own_Ends p e below F (T1.setTop (mkF m 3 #[.val (.ref b), .val (.int (1 : Int32)), .val (.ref mo), .unset] [(.ref mo), (.ref mo)]))
  refine own_step (fun _ k => Jvm.RoadKit.acmp (below := below) (g := (mkF m 3 #[.val (.ref b), .val (.int (1 : Int32)), .val (.ref mo), .unset] [(.ref mo), (.ref mo)])) X1 hx rfl rfl rfl (pc0 := 3) (pc' := 6) (same := true) rfl (hb hby d9_3) rfl (decide_eq_true rfl) (by decide) (by decide) k) ?_
  show own_Ends p e below F (T1.setTop (mkF m 6 #[.val (.ref b), .val (.int (1 : Int32)), .val (.ref mo), .unset] []))
  refine own_step (fun _ k => XS.iloadN X1.here hx rfl (hb hby d9_6) rfl k) ?_
  show own_Ends p e below F (T1.setTop (mkF m 7 #[.val (.ref b), .val (.int (1 : Int32)), .val (.ref mo), .unset] [(.int (1 : Int32))]))
  obtain ⟨T2, h2, k2, X2, e2, E2, A2, EA2, O2, st2⟩ := newRE X1 hx hZ hown (own_g hw 62 rfl) (own_g hw 63 rfl) e1 (g := (mkF m 7 #[.val (.ref b), .val (.int (1 : Int32)), .val (.ref mo), .unset] [(.int (1 : Int32))])) rfl (hb hby d9_7) rfl (by decide) (cap := 1) (by decide) (by decide) (by decide) (by decide) (ad := "[Ljava/lang/Object;") (by decide)
  obtain ⟨a2, g2⟩ : ∃ z, z = h0.size := ⟨_, rfl⟩
  rw [← g2] at A2 EA2 st2
  have ge_a2 : n0 ≤ a2 := Nat.le_trans Z0 (Nat.le_of_eq g2.symm)
  have sz_a2 : h0.size ≤ a2 := Nat.le_trans (Nat.le_refl h0.size) (Nat.le_of_eq g2.symm)
  have ne_b_a2 : b ≠ a2 := Nat.ne_of_lt (by rw [g2]; exact VB.lt)
  have Z2 : n0 ≤ h2.size := Nat.le_trans Z0 E2.1
  have SZ2 : h0.size ≤ h2.size := Nat.le_trans (Nat.le_refl h0.size) E2.1
  have V2 : Arv Z h2 a2 k2 (.object "java/lang/Object") (1 : Int32) [.null] .null := Arv.pad (Arv.new A2 (by decide)) (pad_rep [] _ 1)
  refine own_step st2 ?_
  show own_Ends p e below F (T2.setTop (mkF m 10 #[.val (.ref b), .val (.int (1 : Int32)), .val (.ref mo), .unset] [(.ref a2)]))
  refine own_step (fun _ k => XS.goto X2.here hx rfl (pc0 := 10) (pc' := 24) rfl (hb hby d9_10) (by decide) (by decide) k) ?_
  show own_Ends p e below F (T2.setTop (mkF m 24 #[.val (.ref b), .val (.int (1 : Int32)), .val (.ref mo), .unset] [(.ref a2)]))
  refine own_step (fun _ k => XS.astoreN X2.here hx rfl (hb hby d9_24) rfl rfl (l' := #[.val (.ref b), .val (.int (1 : Int32)), .val (.ref mo), .val (.ref a2)]) rfl k) ?_
  show own_Ends p e below F (T2.setTop (mkF m 25 #[.val (.ref b), .val (.int (1 : Int32)), .val (.ref mo), .val (.ref a2)] []))
  refine own_step (fun _ k => XS.aloadN X2.here hx rfl (hb hby d9_25) rfl rfl k) ?_
  show own_Ends p e below F (T2.setTop (mkF m 26 #[.val (.ref b), .val (.int (1 : Int32)), .val (.ref mo), .val (.ref a2)] [(.ref b)]))
  refine own_step (fun _ k => XS.iconst X2.here hx rfl (hb hby d9_26) k) ?_
  show own_Ends p e below F (T2.setTop (mkF m 27 #[.val (.ref b), .val (.int (1 : Int32)), .val (.ref mo), .val (.ref a2)] [(.int (0 : Int32)), (.ref b)]))
  refine own_step (fun _ k => XS.aloadN X2.here hx rfl (hb hby d9_27) rfl rfl k) ?_
  show own_Ends p e below F (T2.setTop (mkF m 28 #[.val (.ref b), .val (.int (1 : Int32)), .val (.ref mo), .val (.ref a2)] [(.ref a2), (.int (0 : Int32)), (.ref b)]))
  refine own_step (fun _ k => XS.iconst X2.here hx rfl (hb hby d9_28) k) ?_
  show own_Ends p e below F (T2.setTop (mkF m 29 #[.val (.ref b), .val (.int (1 : Int32)), .val (.ref mo), .val (.ref a2)] [(.int (0 : Int32)), (.ref a2), (.int (0 : Int32)), (.ref b)]))
  refine own_step (fun _ k => XS.aloadN X2.here hx rfl (hb hby d9_29) rfl rfl k) ?_
  show own_Ends p e below F (T2.setTop (mkF m 30 #[.val (.ref b), .val (.int (1 : Int32)), .val (.ref mo), .val (.ref a2)] [(.ref b), (.int (0 : Int32)), (.ref a2), (.int (0 : Int32)), (.ref b)]))
  obtain ⟨cl3, Ar3, q3, S3, M3, H3, G3⟩ := id (VB.ext E2)
  have al3 := X2.arraylength hx (by rw [e2]; exact Ar3.1) (State.isArrayOf_alike hZ.alike Ar3.2.1) (g := (mkF m 30 #[.val (.ref b), .val (.int (1 : Int32)), .val (.ref mo), .val (.ref a2)] [(.ref b), (.int (0 : Int32)), (.ref a2), (.int (0 : Int32)), (.ref b)])) rfl rfl (hb hby d9_30)
  rw [len_of S3 M3] at al3
  refine own_step al3 ?_
  show own_Ends p e below F (T2.setTop (mkF m 31 #[.val (.ref b), .val (.int (1 : Int32)), .val (.ref mo), .val (.ref a2)] [(.int (10 : Int32)), (.int (0 : Int32)), (.ref a2), (.int (0 : Int32)), (.ref b)]))
  refine own_step (fun _ k => XS.iloadN X2.here hx rfl (hb hby d9_31) rfl k) ?_
  show own_Ends p e below F (T2.setTop (mkF m 32 #[.val (.ref b), .val (.int (1 : Int32)), .val (.ref mo), .val (.ref a2)] [(.int (1 : Int32)), (.int (10 : Int32)), (.int (0 : Int32)), (.ref a2), (.int (0 : Int32)), (.ref b)]))
  obtain ⟨_, _, ⟨T4, L4, k4, n4⟩, -, X4, ⟨Lc4, hQ4, l4, y4, z4⟩, st4⟩ := Jvm.LawKit.callS X2 hx (y := (⟨"java/lang/Math", "min", "(II)I"⟩ : MethodName)) hown (mvT hZ (own_g hw 64 rfl)) (mvT hZ (own_g hw 65 rfl)) (mvT hZ (own_g hw 66 rfl)) (mvT hZ (own_g hw 67 rfl)) (by decide) (backOf (W := 4) (rm10 l Z a0 hw [] (10 : Int32) (1 : Int32) h2 n0 Z2) hZ (own_g hw 67 rfl) (own_g hw 66 rfl) (by decide) (by decide)) (g := (mkF m 32 #[.val (.ref b), .val (.int (1 : Int32)), .val (.ref mo), .val (.ref a2)] [(.int (1 : Int32)), (.int (10 : Int32)), (.int (0 : Int32)), (.ref a2), (.int (0 : Int32)), (.ref b)])) rfl (by rw [hml]; rfl) (argsL := [(.int (10 : Int32)), (.int (1 : Int32))]) (rest := [(.int (0 : Int32)), (.ref a2), (.int (0 : Int32)), (.ref b)]) (lenOf pd__28II_29I rfl) rfl (by show 2 * 0 + _ ≤ _; exact Nat.le_of_eq rfl) (hb hby d9_32) (fun _ _ => ⟨rfl, e2, (by decide : 1 + 0 ≤ _), (by decide : 1 + 0 ≤ _)⟩)
  dsimp only [Pt.U, Pt.locs, Pt.cells, Pt.slots] at X4 l4 y4 z4 st4 hQ4
  subst l4 y4 z4
  obtain ⟨rfl, Nq4, eq4⟩ := hQ4
  have N4 := Fr.app N0 Nq4
  refine own_step st4 ?_
  show own_Ends p e below F (T4.setTop (mkF m 35 #[.val (.ref b), .val (.int (1 : Int32)), .val (.ref mo), .val (.ref a2)] [(.int (if (1 : Int32) < (10 : Int32) then (1 : Int32) else (10 : Int32))), (.int (0 : Int32)), (.ref a2), (.int (0 : Int32)), (.ref b)]))
  rw [show (if (1 : Int32) < (10 : Int32) then (1 : Int32) else (10 : Int32)) = (1 : Int32) from (by first | rfl | decide)]
  show own_Ends p e below F (T4.setTop (mkF m 35 #[.val (.ref b), .val (.int (1 : Int32)), .val (.ref mo), .val (.ref a2)] [(.int (1 : Int32)), (.int (0 : Int32)), (.ref a2), (.int (0 : Int32)), (.ref b)]))
  obtain ⟨cl5, Ar5, q5, -⟩ := id V2
  obtain ⟨T5, h5, L5, X5, e5, N5, K5, V5, st5⟩ := cpA X4 hx hZ hown (own_g hw 68 rfl) (own_g hw 71 rfl) (own_g hw 69 rfl) (own_g hw 70 rfl) eq4 (VB.ext E2) V2 (us := [w0]) (Or.inr ⟨rfl, rfl, ⟨(own_Ob.sto (Hw0.ext E2) Ar5 q5 O2), trivial⟩⟩) (by decide) (by decide) (by decide) (by decide) (by decide) rfl (by decide) N4 ge_a2 (g := (mkF m 35 #[.val (.ref b), .val (.int (1 : Int32)), .val (.ref mo), .val (.ref a2)] [(.int (1 : Int32)), (.int (0 : Int32)), (.ref a2), (.int (0 : Int32)), (.ref b)])) rfl (by rw [hml]; rfl) (rest := []) rfl (hb hby d9_35) (by decide) (W := 0) (by show 2 * 0 + _ ≤ _; exact Nat.le_of_eq rfl) (by decide)
  have V5 : Arv Z h5 a2 k2 (.object "java/lang/Object") (1 : Int32) [w0] .null := V5
  have Z5 : n0 ≤ h5.size := Nat.le_trans Z2 K5.1
  have SZ5 : h0.size ≤ h5.size := Nat.le_trans SZ2 K5.1
  refine own_step st5 ?_
  show own_Ends p e below F (T5.setTop (mkF m 38 #[.val (.ref b), .val (.int (1 : Int32)), .val (.ref mo), .val (.ref a2)] []))
  refine own_step (fun _ k => XS.aloadN X5.here hx rfl (hb hby d9_38) rfl rfl k) ?_
  show own_Ends p e below F (T5.setTop (mkF m 39 #[.val (.ref b), .val (.int (1 : Int32)), .val (.ref mo), .val (.ref a2)] [(.ref a2)]))
  rw [hF]
  exact own_ret X5 (v := (some (.ref a2))) (fun h => by rw [Bd.returns] at h; cases h) Bd.notSynchronized (fun fs hr => retOut X5 hx (t := (.array (.object "java/lang/Object"))) (w := (.ref a2)) (i := .areturn) Bd.returns rfl (Or.inr (Or.inr (Or.inr (Or.inr ⟨rfl, rfl, rfl⟩)))) (hb hby d9_39) hr) (by decide) (by decide) (by rw [e5]; exact ⟨_, _, rfl, N5, ((Keep.trans (Keep.ext (Keep.refl _ _) E2) K5 (allS (Or.inr sz_a2) all0)) : Keep h0 h5 []), sz_a2, V5⟩)

theorem ef_rm8_1 (m : MethodId) (x0 : Addr) (x1 : Int32) : entryFrame m #[(.ref x0), (.int x1)] 2 = mkF m 0 #[.val (.ref x0), .val (.int x1)] [] := by first | (simp [entryFrame, mkF, argsToLocals, Value.category, maxLocals]; done) | rfl
def Q8_1 (Z : State) (b : Addr) (kb : ClassId) (w0 : Value) (mo : Addr) (h0 : Heap) (n0 : Nat) (v : Option Value) (h : Heap) (L : List Loc) : Prop := ∃ c k, v = some (.ref c) ∧ Fr n0 L ∧ Keep h0 h [] ∧ h0.size ≤ c ∧ Arv Z h c k (.object "java/lang/Object") (1 : Int32) [w0] .null
set_option maxRecDepth 65536 in
set_option maxHeartbeats 40000000 in
theorem rm8_1 (l : Launch) (Z : State) (a0 : Array Value) (hw : ∀ d ∈ tables_1, d.before a0 Z = true) (ws : List Jvm.Cond) (b : Addr) (kb : ClassId) (w0 : Value) (mo : Addr) (h0 : Heap) (n0 : Nat) (Z0 : n0 ≤ h0.size) (VB : Arv Z h0 b kb (.object "java/lang/Object") (10 : Int32) [w0, .null, .null, .null, .null, .null, .null, .null, .null, .null] .null) (XB : Exa Z h0 b "[Ljava/lang/Object;") (Hw0 : own_Ob Z h0 w0) (M_mo : Mir Z "[Ljava/lang/Object;" mo) :
    MetFree l (⟨"java/util/Arrays", "copyOf", "([Ljava/lang/Object;I)[Ljava/lang/Object;"⟩ : MethodName) (head1 (Jvm.Cond.code (⟨"java/util/Arrays", "copyOf", "([Ljava/lang/Object;I)[Ljava/lang/Object;"⟩ : MethodName) jdk_65_method_119_code 2 (some (.array (.object "java/lang/Object"))) :: ws) ({ frames := 2, cells := 1, slots := 1, locals := 33 } : Room)) (fun ar U => ar = #[(.ref b), (.int (1 : Int32))] ∧ Z.Warmed39 U.vm ∧ U.heap = h0) (fun _ _ _ _ _ => True) (fun _ U o U' => ∃ v L, o = .returned v ∧ Q8_1 Z b kb w0 mo h0 n0 v U'.heap L ∧ FrameEnd U o U' L ({ frames := 2, cells := 1, slots := 1, locals := 33 } : Room).cells ({ frames := 2, cells := 1, slots := 1, locals := 33 } : Room).slots) := by
  refine MetFree.of_bodySF (plainFor_of_name pn_java_util_Arrays) hisR ?_
  intro p e s m args below meth c s₁ Bd hml0 hP hK
  obtain ⟨rfl, hZ, hh⟩ := hP
  have hx := Bd.exec
  have hby := Bd.bytes
  have hml : c.maxLocals = 2 := hml0
  have hown : s.vm.findClass "java/util/Arrays" = some m.cls := findClass_of_methodNamed Bd.named
  have hnm := (name_of_methodNamed Bd.named Bd.method).1
  have X0 : Stand p l e ({ frames := 2, cells := 1, slots := 1, locals := 33 } : Room) s m #[(.ref b), (.int (1 : Int32))] below meth c s₁ [] 0 0 := Stand.of_body Bd
  have e0 : s₁.heap = h0 := by rw [← hh, Bd.state]; rfl
  have N0 := Fr.nil n0
  obtain ⟨F, hF⟩ : ∃ F, F = own_Fin s (Q8_1 Z b kb w0 mo h0 n0) ({ frames := 2, cells := 1, slots := 1, locals := 33 } : Room).cells ({ frames := 2, cells := 1, slots := 1, locals := 33 } : Room).slots := ⟨_, rfl⟩
  show own_Ends p e below (own_Fin s (Q8_1 Z b kb w0 mo h0 n0) ({ frames := 2, cells := 1, slots := 1, locals := 33 } : Room).cells ({ frames := 2, cells := 1, slots := 1, locals := 33 } : Room).slots) _
  rw [← hF, ef_rm8_1 m b (1 : Int32)]
  show own_Ends p e below F (s₁.setTop (mkF m 0 #[.val (.ref b), .val (.int (1 : Int32))] []))
  refine own_step (fun _ k => XS.aloadN X0.here hx rfl (hb hby d8_0) rfl rfl k) ?_
  show own_Ends p e below F (s₁.setTop (mkF m 1 #[.val (.ref b), .val (.int (1 : Int32))] [(.ref b)]))
  refine own_step (fun _ k => XS.iloadN X0.here hx rfl (hb hby d8_1) rfl k) ?_
  show own_Ends p e below F (s₁.setTop (mkF m 2 #[.val (.ref b), .val (.int (1 : Int32))] [(.int (1 : Int32)), (.ref b)]))
  refine own_step (fun _ k => XS.aloadN X0.here hx rfl (hb hby d8_2) rfl rfl k) ?_
  show own_Ends p e below F (s₁.setTop (mkF m 3 #[.val (.ref b), .val (.int (1 : Int32))] [(.ref b), (.int (1 : Int32)), (.ref b)]))
  obtain ⟨T1, X1, e1, st1⟩ := own_gc X0 hx hZ hown (own_g hw 52 rfl) (own_g hw 53 rfl) (own_g hw 55 rfl) (own_g hw 54 rfl) (own_g hw 56 rfl) e0 XB M_mo (g := (mkF m 3 #[.val (.ref b), .val (.int (1 : Int32))] [(.ref b), (.int (1 : Int32)), (.ref b)])) rfl (by rw [hml]; rfl) (rest := [(.int (1 : Int32)), (.ref b)]) rfl (hb hby d8_3) (by decide) (W := 2) (by show 2 * 0 + _ ≤ _; exact Nat.le_of_eq rfl) (by decide)
  refine own_step st1 ?_
  show own_Ends p e below F (T1.setTop (mkF m 6 #[.val (.ref b), .val (.int (1 : Int32))] [(.ref mo), (.int (1 : Int32)), (.ref b)]))
  obtain ⟨_, _, ⟨T2, L2, k2, n2⟩, -, X2, ⟨Lc2, hQ2, l2, y2, z2⟩, st2⟩ := Jvm.LawKit.callS X1 hx (y := (⟨"java/util/Arrays", "copyOf", "([Ljava/lang/Object;ILjava/lang/Class;)[Ljava/lang/Object;"⟩ : MethodName)) hown (mvT hZ (own_g hw 58 rfl)) (mvT hZ (own_g hw 59 rfl)) (mvT hZ (own_g hw 50 rfl)) (mvT hZ (own_g hw 60 rfl)) (by decide) (backOf (W := 0) (rm9_1 l Z a0 hw [] b kb w0 mo h0 n0 Z0 VB XB Hw0 M_mo) hZ (own_g hw 60 rfl) (own_g hw 50 rfl) (by decide) (by decide)) (g := (mkF m 6 #[.val (.ref b), .val (.int (1 : Int32))] [(.ref mo), (.int (1 : Int32)), (.ref b)])) rfl (by rw [hml]; rfl) (argsL := [(.ref b), (.int (1 : Int32)), (.ref mo)]) (rest := []) (lenOf pd__28_5bLjava_2flang_2fObject_3bILjava_2flang_2fClass_3b_29_5bLjava_2flang_2fObject_3b rfl) rfl (by show 2 * 0 + _ ≤ _; exact Nat.le_of_eq rfl) (hb hby d8_6) (fun _ _ => ⟨rfl, e1, (by decide : 0 + 1 ≤ _), (by decide : 0 + 1 ≤ _)⟩)
  dsimp only [Pt.U, Pt.locs, Pt.cells, Pt.slots] at X2 l2 y2 z2 st2 hQ2
  subst l2 y2 z2
  obtain ⟨c2, kc2, rfl, Nq2, Kq2, fq0_2, fq1_2⟩ := hQ2
  have N2 := Fr.app N0 Nq2
  have Z2 : n0 ≤ T2.heap.size := Nat.le_trans Z0 Kq2.1
  have SZ2 : h0.size ≤ T2.heap.size := Nat.le_trans (Nat.le_refl h0.size) Kq2.1
  have ne_b_c2 : b ≠ c2 := Nat.ne_of_lt (Nat.lt_of_lt_of_le (VB).lt fq0_2)
  have ge_c2 : n0 ≤ c2 := Nat.le_trans Z0 fq0_2
  have sz_c2 : h0.size ≤ c2 := Nat.le_trans (Nat.le_refl h0.size) fq0_2
  refine own_step st2 ?_
  show own_Ends p e below F (T2.setTop (mkF m 9 #[.val (.ref b), .val (.int (1 : Int32))] [(.ref c2)]))
  rw [hF]
  exact own_ret X2 (v := (some (.ref c2))) (fun h => by rw [Bd.returns] at h; cases h) Bd.notSynchronized (fun fs hr => retOut X2 hx (t := (.array (.object "java/lang/Object"))) (w := (.ref c2)) (i := .areturn) Bd.returns rfl (Or.inr (Or.inr (Or.inr (Or.inr ⟨rfl, rfl, rfl⟩)))) (hb hby d8_9) hr) (by decide) (by decide) (by exact ⟨_, _, rfl, N2, ((Keep.trans (Keep.refl _ _) Kq2 all0) : Keep h0 T2.heap []), sz_c2, fq1_2⟩)

theorem ef_rm7_1 (m : MethodId) (x0 : Addr) : entryFrame m #[(.ref x0)] 1 = mkF m 0 #[.val (.ref x0)] [] := by first | (simp [entryFrame, mkF, argsToLocals, Value.category, maxLocals]; done) | rfl
def Q7_1 (Z : State) (bl : Addr) (b : Addr) (kb : ClassId) (w0 : Value) (mo : Addr) (h0 : Heap) (n0 : Nat) (v : Option Value) (h : Heap) (L : List Loc) : Prop := ∃ c k, v = some (.ref c) ∧ Fr n0 L ∧ Keep h0 h [] ∧ h0.size ≤ c ∧ Arv Z h c k (.object "java/lang/Object") (1 : Int32) [w0] .null
set_option maxRecDepth 65536 in
set_option maxHeartbeats 40000000 in
theorem rm7_1 (l : Launch) (Z : State) (a0 : Array Value) (hw : ∀ d ∈ tables_1, d.before a0 Z = true) (ws : List Jvm.Cond) (bl : Addr) (b : Addr) (kb : ClassId) (w0 : Value) (mo : Addr) (h0 : Heap) (n0 : Nat) (Z0 : n0 ≤ h0.size) (VB : Arv Z h0 b kb (.object "java/lang/Object") (10 : Int32) [w0, .null, .null, .null, .null, .null, .null, .null, .null, .null] .null) (XB : Exa Z h0 b "[Ljava/lang/Object;") (Hw0 : own_Ob Z h0 w0) (M_mo : Mir Z "[Ljava/lang/Object;" mo) (EL : Exa Z h0 bl "java/util/ArrayList") (FE : Fld Z h0 bl "java/util/ArrayList" "elementData" "[Ljava/lang/Object;" (.ref b)) (FZ : Fld Z h0 bl "java/util/ArrayList" "size" "I" (.int (1 : Int32))) :
    MetFree l (⟨"java/util/ArrayList", "toArray", "()[Ljava/lang/Object;"⟩ : MethodName) (head1 (Jvm.Cond.code (⟨"java/util/ArrayList", "toArray", "()[Ljava/lang/Object;"⟩ : MethodName) jdk_38_method_16_code 1 (some (.array (.object "java/lang/Object"))) :: ws) ({ frames := 3, cells := 1, slots := 1, locals := 46 } : Room)) (fun ar U => ar = #[(.ref bl)] ∧ Z.Warmed39 U.vm ∧ U.heap = h0) (fun _ _ _ _ _ => True) (fun _ U o U' => ∃ v L, o = .returned v ∧ Q7_1 Z bl b kb w0 mo h0 n0 v U'.heap L ∧ FrameEnd U o U' L ({ frames := 3, cells := 1, slots := 1, locals := 46 } : Room).cells ({ frames := 3, cells := 1, slots := 1, locals := 46 } : Room).slots) := by
  refine MetFree.of_bodySF (plainFor_of_name pn_java_util_ArrayList) hisR ?_
  intro p e s m args below meth c s₁ Bd hml0 hP hK
  obtain ⟨rfl, hZ, hh⟩ := hP
  have hx := Bd.exec
  have hby := Bd.bytes
  have hml : c.maxLocals = 1 := hml0
  have hown : s.vm.findClass "java/util/ArrayList" = some m.cls := findClass_of_methodNamed Bd.named
  have hnm := (name_of_methodNamed Bd.named Bd.method).1
  have X0 : Stand p l e ({ frames := 3, cells := 1, slots := 1, locals := 46 } : Room) s m #[(.ref bl)] below meth c s₁ [] 0 0 := Stand.of_body Bd
  have e0 : s₁.heap = h0 := by rw [← hh, Bd.state]; rfl
  have N0 := Fr.nil n0
  obtain ⟨F, hF⟩ : ∃ F, F = own_Fin s (Q7_1 Z bl b kb w0 mo h0 n0) ({ frames := 3, cells := 1, slots := 1, locals := 46 } : Room).cells ({ frames := 3, cells := 1, slots := 1, locals := 46 } : Room).slots := ⟨_, rfl⟩
  show own_Ends p e below (own_Fin s (Q7_1 Z bl b kb w0 mo h0 n0) ({ frames := 3, cells := 1, slots := 1, locals := 46 } : Room).cells ({ frames := 3, cells := 1, slots := 1, locals := 46 } : Room).slots) _
  rw [← hF, ef_rm7_1 m bl]
  show own_Ends p e below F (s₁.setTop (mkF m 0 #[.val (.ref bl)] []))
  refine own_step (fun _ k => XS.aloadN X0.here hx rfl (hb hby d7_0) rfl rfl k) ?_
  show own_Ends p e below F (s₁.setTop (mkF m 1 #[.val (.ref bl)] [(.ref bl)]))
  obtain ⟨T1, X1, e1, st1⟩ := getF X0 hx hZ hown (host := "") (Or.inl (own_g hw 24 rfl)) Via.refl e0 FE (g := (mkF m 1 #[.val (.ref bl)] [(.ref bl)])) rfl rfl (hb hby d7_1)
  refine own_step st1 ?_
  show own_Ends p e below F (T1.setTop (mkF m 4 #[.val (.ref bl)] [(.ref b)]))
  refine own_step (fun _ k => XS.aloadN X1.here hx rfl (hb hby d7_4) rfl rfl k) ?_
  show own_Ends p e below F (T1.setTop (mkF m 5 #[.val (.ref bl)] [(.ref bl), (.ref b)]))
  obtain ⟨T2, X2, e2, st2⟩ := getF X1 hx hZ hown (host := "") (Or.inl (own_g hw 46 rfl)) Via.refl e1 FZ (g := (mkF m 5 #[.val (.ref bl)] [(.ref bl), (.ref b)])) rfl rfl (hb hby d7_5)
  refine own_step st2 ?_
  show own_Ends p e below F (T2.setTop (mkF m 8 #[.val (.ref bl)] [(.int (1 : Int32)), (.ref b)]))
  obtain ⟨_, _, ⟨T3, L3, k3, n3⟩, -, X3, ⟨Lc3, hQ3, l3, y3, z3⟩, st3⟩ := Jvm.LawKit.callS X2 hx (y := (⟨"java/util/Arrays", "copyOf", "([Ljava/lang/Object;I)[Ljava/lang/Object;"⟩ : MethodName)) hown (mvT hZ (own_g hw 48 rfl)) (mvT hZ (own_g hw 49 rfl)) (mvT hZ (own_g hw 50 rfl)) (mvT hZ (own_g hw 51 rfl)) (by decide) (backOf (W := 0) (rm8_1 l Z a0 hw [] b kb w0 mo h0 n0 Z0 VB XB Hw0 M_mo) hZ (own_g hw 51 rfl) (own_g hw 50 rfl) (by decide) (by decide)) (g := (mkF m 8 #[.val (.ref bl)] [(.int (1 : Int32)), (.ref b)])) rfl (by rw [hml]; rfl) (argsL := [(.ref b), (.int (1 : Int32))]) (rest := []) (lenOf pd__28_5bLjava_2flang_2fObject_3bI_29_5bLjava_2flang_2fObject_3b rfl) rfl (by show 2 * 0 + _ ≤ _; exact Nat.le_of_eq rfl) (hb hby d7_8) (fun _ _ => ⟨rfl, e2, (by decide : 0 + 1 ≤ _), (by decide : 0 + 1 ≤ _)⟩)
  dsimp only [Pt.U, Pt.locs, Pt.cells, Pt.slots] at X3 l3 y3 z3 st3 hQ3
  subst l3 y3 z3
  obtain ⟨c3, kc3, rfl, Nq3, Kq3, fq0_3, fq1_3⟩ := hQ3
  have N3 := Fr.app N0 Nq3
  have Z3 : n0 ≤ T3.heap.size := Nat.le_trans Z0 Kq3.1
  have SZ3 : h0.size ≤ T3.heap.size := Nat.le_trans (Nat.le_refl h0.size) Kq3.1
  have ne_b_c3 : b ≠ c3 := Nat.ne_of_lt (Nat.lt_of_lt_of_le (VB).lt fq0_3)
  have ne_bl_c3 : bl ≠ c3 := Nat.ne_of_lt (Nat.lt_of_lt_of_le (EL).lt fq0_3)
  have ge_c3 : n0 ≤ c3 := Nat.le_trans Z0 fq0_3
  have sz_c3 : h0.size ≤ c3 := Nat.le_trans (Nat.le_refl h0.size) fq0_3
  refine own_step st3 ?_
  show own_Ends p e below F (T3.setTop (mkF m 11 #[.val (.ref bl)] [(.ref c3)]))
  rw [hF]
  exact own_ret X3 (v := (some (.ref c3))) (fun h => by rw [Bd.returns] at h; cases h) Bd.notSynchronized (fun fs hr => retOut X3 hx (t := (.array (.object "java/lang/Object"))) (w := (.ref c3)) (i := .areturn) Bd.returns rfl (Or.inr (Or.inr (Or.inr (Or.inr ⟨rfl, rfl, rfl⟩)))) (hb hby d7_11) hr) (by decide) (by decide) (by exact ⟨_, _, rfl, N3, ((Keep.trans (Keep.refl _ _) Kq3 all0) : Keep h0 T3.heap []), sz_c3, fq1_3⟩)

theorem d6_21 : decode jdk_38_method_3_code 21 = .ok (.aload_n 1, 1) := by decide +kernel
theorem d6_22 : decode jdk_38_method_3_code 22 = .ok (.invokeinterface 52 1, 5) := by decide +kernel
theorem d6_27 : decode jdk_38_method_3_code 27 = .ok (.ldc 10, 2) := by decide +kernel
theorem d6_29 : decode jdk_38_method_3_code 29 = .ok (.if_acmp .ne 11, 3) := by decide +kernel
theorem d6_32 : decode jdk_38_method_3_code 32 = .ok (.aload_n 0, 1) := by decide +kernel
theorem d6_33 : decode jdk_38_method_3_code 33 = .ok (.aload_n 2, 1) := by decide +kernel
theorem d6_34 : decode jdk_38_method_3_code 34 = .ok (.putfield 9, 3) := by decide +kernel
theorem d6_37 : decode jdk_38_method_3_code 37 = .ok (.goto 27, 3) := by decide +kernel
theorem ef_rm6_1 (m : MethodId) (x0 : Addr) (x1 : Addr) : entryFrame m #[(.ref x0), (.ref x1)] 3 = mkF m 0 #[.val (.ref x0), .val (.ref x1), .unset] [] := by first | (simp [entryFrame, mkF, argsToLocals, Value.category, maxLocals]; done) | rfl
def Q6_1 (Z : State) (a bl : Addr) (b : Addr) (kb : ClassId) (w0 : Value) (mo : Addr) (ee ma : Addr) (h0 : Heap) (n0 : Nat) (v : Option Value) (h : Heap) (L : List Loc) : Prop := v = none ∧ Fr n0 L ∧ Keep h0 h [a] ∧ Exa Z h a "java/util/ArrayList"
set_option maxRecDepth 65536 in
set_option maxHeartbeats 40000000 in
theorem rm6_1 (l : Launch) (Z : State) (a0 : Array Value) (hw : ∀ d ∈ tables_1, d.before a0 Z = true) (ws : List Jvm.Cond) (a bl : Addr) (b : Addr) (kb : ClassId) (w0 : Value) (mo : Addr) (ee ma : Addr) (h0 : Heap) (n0 : Nat) (Z0 : n0 ≤ h0.size) (EX : Exa Z h0 a "java/util/ArrayList") (ge : n0 ≤ a) (F_modCount : Fld Z h0 a "java/util/AbstractList" "modCount" "I" (.int (0 : Int32))) (F_elementData : Fld Z h0 a "java/util/ArrayList" "elementData" "[Ljava/lang/Object;" .null) (F_size : Fld Z h0 a "java/util/ArrayList" "size" "I" (.int (0 : Int32))) (VB : Arv Z h0 b kb (.object "java/lang/Object") (10 : Int32) [w0, .null, .null, .null, .null, .null, .null, .null, .null, .null] .null) (XB : Exa Z h0 b "[Ljava/lang/Object;") (Hw0 : own_Ob Z h0 w0) (M_mo : Mir Z "[Ljava/lang/Object;" mo) (EL : Exa Z h0 bl "java/util/ArrayList") (FE : Fld Z h0 bl "java/util/ArrayList" "elementData" "[Ljava/lang/Object;" (.ref b)) (FZ : Fld Z h0 bl "java/util/ArrayList" "size" "I" (.int (1 : Int32))) (SE : Sta Z h0 "java/util/ArrayList" "EMPTY_ELEMENTDATA" "[Ljava/lang/Object;" (.ref ee)) (M_ma : Mir Z "java/util/ArrayList" ma) (nab : a ≠ bl) (nav : a ≠ b) :
    MetFree l (⟨"java/util/ArrayList", "<init>", "(Ljava/util/Collection;)V"⟩ : MethodName) (head1 (Jvm.Cond.code (⟨"java/util/ArrayList", "<init>", "(Ljava/util/Collection;)V"⟩ : MethodName) jdk_38_method_3_code 3 none :: ws) ({ frames := 4, cells := 1, slots := 1, locals := 58 } : Room)) (fun ar U => ar = #[(.ref a), (.ref bl)] ∧ Z.Warmed39 U.vm ∧ U.heap = h0) (fun _ _ _ _ _ => True) (fun _ U o U' => ∃ v L, o = .returned v ∧ Q6_1 Z a bl b kb w0 mo ee ma h0 n0 v U'.heap L ∧ FrameEnd U o U' L ({ frames := 4, cells := 1, slots := 1, locals := 58 } : Room).cells ({ frames := 4, cells := 1, slots := 1, locals := 58 } : Room).slots) := by
  refine MetFree.of_bodySF (plainFor_of_name pn_java_util_ArrayList) hisR ?_
  intro p e s m args below meth c s₁ Bd hml0 hP hK
  obtain ⟨rfl, hZ, hh⟩ := hP
  have hx := Bd.exec
  have hby := Bd.bytes
  have hml : c.maxLocals = 3 := hml0
  have hown : s.vm.findClass "java/util/ArrayList" = some m.cls := findClass_of_methodNamed Bd.named
  have hnm := (name_of_methodNamed Bd.named Bd.method).1
  have X0 : Stand p l e ({ frames := 4, cells := 1, slots := 1, locals := 58 } : Room) s m #[(.ref a), (.ref bl)] below meth c s₁ [] 0 0 := Stand.of_body Bd
  have e0 : s₁.heap = h0 := by rw [← hh, Bd.state]; rfl
  have N0 := Fr.nil n0
  obtain ⟨F, hF⟩ : ∃ F, F = own_Fin s (Q6_1 Z a bl b kb w0 mo ee ma h0 n0) ({ frames := 4, cells := 1, slots := 1, locals := 58 } : Room).cells ({ frames := 4, cells := 1, slots := 1, locals := 58 } : Room).slots := ⟨_, rfl⟩
  show own_Ends p e below (own_Fin s (Q6_1 Z a bl b kb w0 mo ee ma h0 n0) ({ frames := 4, cells := 1, slots := 1, locals := 58 } : Room).cells ({ frames := 4, cells := 1, slots := 1, locals := 58 } : Room).slots) _
  rw [← hF, ef_rm6_1 m a bl]
  show own_Ends p e below F (s₁.setTop (mkF m 0 #[.val (.ref a), .val (.ref bl), .unset] []))
  refine own_step (fun _ k => XS.aloadN X0.here hx rfl (hb hby d6_0) rfl rfl k) ?_
  show own_Ends p e below F (s₁.setTop (mkF m 1 #[.val (.ref a), .val (.ref bl), .unset] [(.ref a)]))
  obtain ⟨_, _, ⟨T1, L1, k1, n1⟩, -, X1, ⟨Lc1, hQ1, l1, y1, z1⟩, st1⟩ := X0.specialBack hx (y := (⟨"java/util/AbstractList", "<init>", "()V"⟩ : MethodName)) rfl hown (mvT hZ (own_g hw 6 rfl)) (mvT hZ (own_g hw 7 rfl)) (mvT hZ (own_g hw 11 rfl)) (by decide) (backOf (W := 0) (rm2 l Z a0 hw [] a  h0 n0 Z0 EX ge F_modCount F_elementData F_size ) hZ (own_g hw 11 rfl) (own_g hw 10 rfl) (by decide) (by decide)) (g := (mkF m 1 #[.val (.ref a), .val (.ref bl), .unset] [(.ref a)])) rfl (by rw [hml]; rfl) (Steps.refl _) (a := a) (argsL := []) (rest := []) (lenOf pd__28_29V rfl) rfl (by show 2 * 0 + _ ≤ _; exact Nat.le_of_eq rfl) (hb hby d6_1) (fun _ _ => ⟨rfl, e0, (by decide : 0 + 0 ≤ _), (by decide : 0 + 0 ≤ _)⟩)
  dsimp only [Pt.U, Pt.locs, Pt.cells, Pt.slots] at X1 l1 y1 z1 st1 hQ1
  subst l1 y1 z1
  obtain ⟨rfl, Nq1, Kq1, fq0_1, fq1_1, fq2_1, fq3_1⟩ := hQ1
  have N1 := Fr.app N0 Nq1
  have Z1 : n0 ≤ T1.heap.size := Nat.le_trans Z0 Kq1.1
  have SZ1 : h0.size ≤ T1.heap.size := Nat.le_trans (Nat.le_refl h0.size) Kq1.1
  have S0_1 := own_Sta_keep SE Kq1 (allS (own_ns_exa EX) all0)
  refine own_trans st1 ?_
  show own_Ends p e below F (T1.setTop (mkF m 4 #[.val (.ref a), .val (.ref bl), .unset] []))
  refine own_step (fun _ k => XS.aloadN X1.here hx rfl (hb hby d6_4) rfl rfl k) ?_
  show own_Ends p e below F (T1.setTop (mkF m 5 #[.val (.ref a), .val (.ref bl), .unset] [(.ref bl)]))
  obtain ⟨cq2, kq2, qa2, qb2, qc2⟩ := isOf (s := s) (T := T1) hZ rfl (EL.keep Kq1)
  obtain ⟨_, _, ⟨T2, L2, k2, n2⟩, -, X2, ⟨Lc2, hQ2, l2, y2, z2⟩, st2⟩ := X1.interfaceBack hx (xi := (⟨"java/util/Collection", "toArray", "()[Ljava/lang/Object;"⟩ : MethodName)) (y := (⟨"java/util/ArrayList", "toArray", "()[Ljava/lang/Object;"⟩ : MethodName)) hown (mvT hZ (own_g hw 37 rfl)) (mvT hZ (own_g hw 38 rfl)) (mvT hZ (own_g hw 39 rfl)) (mvT hZ (own_g hw 40 rfl)) (mvT hZ (own_g hw 41 rfl)) (mvT hZ (own_g hw 42 rfl)) (mvT hZ (own_g hw 43 rfl)) (mvT hZ (own_g hw 44 rfl)) (by decide) (backOf (W := 0) (rm7_1 l Z a0 hw [] bl b kb w0 mo T1.heap n0 Z1 (VB.keep Kq1 (ninS (Ne.symm nav) nin0)) (XB.keep Kq1) (Hw0.keep Kq1) M_mo (EL.keep Kq1) (FE.keep Kq1 (ninS (Ne.symm nab) nin0)) (FZ.keep Kq1 (ninS (Ne.symm nab) nin0))) hZ (own_g hw 45 rfl) (own_g hw 2 rfl) (by decide) (by decide)) qa2 qb2 qc2 (g := (mkF m 5 #[.val (.ref a), .val (.ref bl), .unset] [(.ref bl)])) rfl (by rw [hml]; rfl) (Steps.refl _) (argsL := []) (rest := []) (lenOf pd__28_29_5bLjava_2flang_2fObject_3b rfl) rfl (by show 2 * 0 + _ ≤ _; exact Nat.le_of_eq rfl) (hb hby d6_5) (fun _ _ => ⟨rfl, rfl, (by decide : 0 + 1 ≤ _), (by decide : 0 + 1 ≤ _)⟩)
  dsimp only [Pt.U, Pt.locs, Pt.cells, Pt.slots] at X2 l2 y2 z2 st2 hQ2
  subst l2 y2 z2
  obtain ⟨c2, kc2, rfl, Nq2, Kq2, fq0_2, fq1_2⟩ := hQ2
  have N2 := Fr.app N1 Nq2
  have Z2 : n0 ≤ T2.heap.size := Nat.le_trans Z1 Kq2.1
  have SZ2 : h0.size ≤ T2.heap.size := Nat.le_trans SZ1 Kq2.1
  have S0_2 := own_Sta_keep S0_1 Kq2 all0
  have ne_a_c2 : a ≠ c2 := Nat.ne_of_lt (Nat.lt_of_lt_of_le (fq0_1).lt fq0_2)
  have ne_b_c2 : b ≠ c2 := Nat.ne_of_lt (Nat.lt_of_lt_of_le ((VB.keep Kq1 (ninS (Ne.symm nav) nin0))).lt fq0_2)
  have ne_bl_c2 : bl ≠ c2 := Nat.ne_of_lt (Nat.lt_of_lt_of_le ((EL.keep Kq1)).lt fq0_2)
  have ge_c2 : n0 ≤ c2 := Nat.le_trans Z1 fq0_2
  have sz_c2 : h0.size ≤ c2 := Nat.le_trans SZ1 fq0_2
  refine own_trans st2 ?_
  show own_Ends p e below F (T2.setTop (mkF m 10 #[.val (.ref a), .val (.ref bl), .unset] [(.ref c2)]))
  refine own_step (fun _ k => XS.astoreN X2.here hx rfl (hb hby d6_10) rfl rfl (l' := #[.val (.ref a), .val (.ref bl), .val (.ref c2)]) rfl k) ?_
  show own_Ends p e below F (T2.setTop (mkF m 11 #[.val (.ref a), .val (.ref bl), .val (.ref c2)] []))
  refine own_step (fun _ k => XS.aloadN X2.here hx rfl (hb hby d6_11) rfl rfl k) ?_
  show own_Ends p e below F (T2.setTop (mkF m 12 #[.val (.ref a), .val (.ref bl), .val (.ref c2)] [(.ref a)]))
  refine own_step (fun _ k => XS.aloadN X2.here hx rfl (hb hby d6_12) rfl rfl k) ?_
  show own_Ends p e below F (T2.setTop (mkF m 13 #[.val (.ref a), .val (.ref bl), .val (.ref c2)] [(.ref c2), (.ref a)]))
  obtain ⟨cl3, Ar3, q3, S3, M3, H3, G3⟩ := id fq1_2
  have al3 := X2.arraylength hx (by exact Ar3.1) (State.isArrayOf_alike hZ.alike Ar3.2.1) (g := (mkF m 13 #[.val (.ref a), .val (.ref bl), .val (.ref c2)] [(.ref c2), (.ref a)])) rfl rfl (hb hby d6_13)
  rw [len_of S3 M3] at al3
  refine own_step al3 ?_
  show own_Ends p e below F (T2.setTop (mkF m 14 #[.val (.ref a), .val (.ref bl), .val (.ref c2)] [(.int (1 : Int32)), (.ref a)]))
  refine own_step (fun _ k => XS.dupX1 X2.here hx rfl (hb hby d6_14) rfl rfl rfl k) ?_
  show own_Ends p e below F (T2.setTop (mkF m 15 #[.val (.ref a), .val (.ref bl), .val (.ref c2)] [(.int (1 : Int32)), (.ref a), (.int (1 : Int32))]))
  obtain ⟨T4, h4, X4, e4, W4, st4⟩ := putF X2 hx hZ hown (host := "") (Or.inl (own_g hw 46 rfl)) Via.refl rfl (fq3_1.keep Kq2 nin0) (fq0_1.keep Kq2) (Or.inl (own_g hw 47 rfl)) (own_g hw 1 rfl) (ty := .int) (by decide) rfl rfl (g := (mkF m 15 #[.val (.ref a), .val (.ref bl), .val (.ref c2)] [(.int (1 : Int32)), (.ref a), (.int (1 : Int32))])) rfl rfl (hb hby d6_15)
  refine own_step st4 ?_
  have F4 := Fld.same W4 (fq3_1.keep Kq2 nin0)
  have N4 := Fr.snoc X4 N2 ge
  have Z4 : n0 ≤ h4.size := by rw [W4.size]; exact Z2
  have SZ4 : h0.size ≤ h4.size := by rw [W4.size]; exact SZ2
  show own_Ends p e below F (T4.setTop (mkF m 18 #[.val (.ref a), .val (.ref bl), .val (.ref c2)] [(.int (1 : Int32))]))
  refine own_step (fun _ k => XS.ifNo X4.here hx rfl (hb hby d6_18) rfl ((if0 _ _).trans (feq (by decide : ¬ ((1 : Int32) = (0 : Int32)))).1) k) ?_
  show own_Ends p e below F (T4.setTop (mkF m 21 #[.val (.ref a), .val (.ref bl), .val (.ref c2)] []))
  refine own_step (fun _ k => XS.aloadN X4.here hx rfl (hb hby d6_21) rfl rfl k) ?_
  show own_Ends p e below F (T4.setTop (mkF m 22 #[.val (.ref a), .val (.ref bl), .val (.ref c2)] [(.ref bl)]))
  obtain ⟨T5, X5, e5, st5⟩ := own_gcI X4 hx hZ (xi := (⟨"java/util/Collection", "getClass", "()Ljava/lang/Class;"⟩ : MethodName)) hown (own_g hw 184 rfl) (own_g hw 53 rfl) (own_g hw 185 rfl) (own_g hw 186 rfl) (own_g hw 54 rfl) (own_g hw 80 rfl) (own_g hw 81 rfl) (own_g hw 44 rfl) (own_g hw 56 rfl) (by decide) (by decide) rfl rfl e4 (((EL.keep Kq1).keep Kq2).wr W4) M_ma (g := (mkF m 22 #[.val (.ref a), .val (.ref bl), .val (.ref c2)] [(.ref bl)])) rfl (by rw [hml]; rfl) (rest := []) rfl (hb hby d6_22) (by decide) (W := 0) (by show 2 * 0 + _ ≤ _; exact Nat.le_of_eq rfl) (by decide)
  refine own_step st5 ?_
  show own_Ends p e below F (T5.setTop (mkF m 27 #[.val (.ref a), .val (.ref bl), .val (.ref c2)] [(.ref ma)]))
  obtain ⟨T6, X6, e6, st6⟩ := own_ldcM X5 hx hZ hown (own_g hw 187 rfl) e5 M_ma (g := (mkF m 27 #[.val (.ref a), .val (.ref bl), .val (.ref c2)] [(.ref ma)])) rfl (hb hby d6_27)
  refine own_step st6 ?_
  show own_Ends p e below F (T6.setTop (mkF m 29 #[.val (.ref a), .val (.ref bl), .val (.ref c2)] [(.ref ma), (.ref ma)]))
  refine own_step (fun _ k => Jvm.RoadKit.acmp (below := below) (g := (mkF m 29 #[.val (.ref a), .val (.ref bl), .val (.ref c2)] [(.ref ma), (.ref ma)])) X6 hx rfl rfl rfl (pc0 := 29) (pc' := 32) (same := true) rfl (hb hby d6_29) rfl (decide_eq_true rfl) (by decide) (by decide) k) ?_
  show own_Ends p e below F (T6.setTop (mkF m 32 #[.val (.ref a), .val (.ref bl), .val (.ref c2)] []))
  refine own_step (fun _ k => XS.aloadN X6.here hx rfl (hb hby d6_32) rfl rfl k) ?_
  show own_Ends p e below F (T6.setTop (mkF m 33 #[.val (.ref a), .val (.ref bl), .val (.ref c2)] [(.ref a)]))
  refine own_step (fun _ k => XS.aloadN X6.here hx rfl (hb hby d6_33) rfl rfl k) ?_
  show own_Ends p e below F (T6.setTop (mkF m 34 #[.val (.ref a), .val (.ref bl), .val (.ref c2)] [(.ref c2), (.ref a)]))
  obtain ⟨T7, h7, X7, e7, W7, st7⟩ := putF X6 hx hZ hown (host := "") (Or.inl (own_g hw 24 rfl)) Via.refl e6 (Fld.other W4 (fq2_1.keep Kq2 nin0) (Or.inr (slot_ne (t := (.array (.object "java/lang/Object"))) (t' := .int) (Or.inl (own_g hw 25 rfl)) (Or.inl (own_g hw 47 rfl)) (by decide) (by decide) (by decide)))) ((fq0_1.keep Kq2).wr W4) (Or.inl (own_g hw 25 rfl)) (own_g hw 1 rfl) (ty := (.array (.object "java/lang/Object"))) (by decide) rfl rfl (g := (mkF m 34 #[.val (.ref a), .val (.ref bl), .val (.ref c2)] [(.ref c2), (.ref a)])) rfl rfl (hb hby d6_34)
  refine own_step st7 ?_
  have F7 := Fld.same W7 (Fld.other W4 (fq2_1.keep Kq2 nin0) (Or.inr (slot_ne (t := (.array (.object "java/lang/Object"))) (t' := .int) (Or.inl (own_g hw 25 rfl)) (Or.inl (own_g hw 47 rfl)) (by decide) (by decide) (by decide))))
  have N7 := Fr.snoc X7 N4 ge
  have Z7 : n0 ≤ h7.size := by rw [W7.size]; exact Z4
  have SZ7 : h0.size ≤ h7.size := by rw [W7.size]; exact SZ4
  show own_Ends p e below F (T7.setTop (mkF m 37 #[.val (.ref a), .val (.ref bl), .val (.ref c2)] []))
  refine own_step (fun _ k => XS.goto X7.here hx rfl (pc0 := 37) (pc' := 64) rfl (hb hby d6_37) (by decide) (by decide) k) ?_
  show own_Ends p e below F (T7.setTop (mkF m 64 #[.val (.ref a), .val (.ref bl), .val (.ref c2)] []))
  rw [hF]
  exact own_ret X7 (v := none) (fun _ => rfl) Bd.notSynchronized (fun fs hr => X7.returnOut hx Bd.returns (hb hby d6_64) hr) (by decide) (by decide) (by rw [e7]; exact ⟨rfl, N7, ((Keep.wr (Keep.wr (Keep.trans (Keep.trans (Keep.refl _ _) Kq1 (allS (Or.inl (List.mem_of_getElem? (i := 0) rfl)) all0)) Kq2 all0) W4 (Or.inl (List.mem_of_getElem? (i := 0) rfl))) W7 (Or.inl (List.mem_of_getElem? (i := 0) rfl))) : Keep h0 h7 [a]), (((fq0_1.keep Kq2).wr W4).wr W7)⟩)

theorem ef_rm9_2 (m : MethodId) (x0 : Addr) (x1 : Int32) (x2 : Addr) : entryFrame m #[(.ref x0), (.int x1), (.ref x2)] 4 = mkF m 0 #[.val (.ref x0), .val (.int x1), .val (.ref x2), .unset] [] := by first | (simp [entryFrame, mkF, argsToLocals, Value.category, maxLocals]; done) | rfl
def Q9_2 (Z : State) (b : Addr) (kb : ClassId) (w0 : Value) (w1 : Value) (mo : Addr) (h0 : Heap) (n0 : Nat) (v : Option Value) (h : Heap) (L : List Loc) : Prop := ∃ c k, v = some (.ref c) ∧ Fr n0 L ∧ Keep h0 h [] ∧ h0.size ≤ c ∧ Arv Z h c k (.object "java/lang/Object") (2 : Int32) [w0, w1] .null
set_option maxRecDepth 65536 in
set_option maxHeartbeats 40000000 in
theorem rm9_2 (l : Launch) (Z : State) (a0 : Array Value) (hw : ∀ d ∈ tables_1, d.before a0 Z = true) (ws : List Jvm.Cond) (b : Addr) (kb : ClassId) (w0 : Value) (w1 : Value) (mo : Addr) (h0 : Heap) (n0 : Nat) (Z0 : n0 ≤ h0.size) (VB : Arv Z h0 b kb (.object "java/lang/Object") (10 : Int32) [w0, w1, .null, .null, .null, .null, .null, .null, .null, .null] .null) (XB : Exa Z h0 b "[Ljava/lang/Object;") (Hw0 : own_Ob Z h0 w0) (Hw1 : own_Ob Z h0 w1) (M_mo : Mir Z "[Ljava/lang/Object;" mo) :
    MetFree l (⟨"java/util/Arrays", "copyOf", "([Ljava/lang/Object;ILjava/lang/Class;)[Ljava/lang/Object;"⟩ : MethodName) (head1 (Jvm.Cond.code (⟨"java/util/Arrays", "copyOf", "([Ljava/lang/Object;ILjava/lang/Class;)[Ljava/lang/Object;"⟩ : MethodName) jdk_65_method_120_code 4 (some (.array (.object "java/lang/Object"))) :: ws) ({ frames := 1, cells := 1, slots := 2, locals := 18 } : Room)) (fun ar U => ar = #[(.ref b), (.int (2 : Int32)), (.ref mo)] ∧ Z.Warmed39 U.vm ∧ U.heap = h0) (fun _ _ _ _ _ => True) (fun _ U o U' => ∃ v L, o = .returned v ∧ Q9_2 Z b kb w0 w1 mo h0 n0 v U'.heap L ∧ FrameEnd U o U' L ({ frames := 1, cells := 1, slots := 2, locals := 18 } : Room).cells ({ frames := 1, cells := 1, slots := 2, locals := 18 } : Room).slots) := by
  refine MetFree.of_bodySF (plainFor_of_name pn_java_util_Arrays) hisR ?_
  intro p e s m args below meth c s₁ Bd hml0 hP hK
  obtain ⟨rfl, hZ, hh⟩ := hP
  have hx := Bd.exec
  have hby := Bd.bytes
  have hml : c.maxLocals = 4 := hml0
  have hown : s.vm.findClass "java/util/Arrays" = some m.cls := findClass_of_methodNamed Bd.named
  have hnm := (name_of_methodNamed Bd.named Bd.method).1
  have X0 : Stand p l e ({ frames := 1, cells := 1, slots := 2, locals := 18 } : Room) s m #[(.ref b), (.int (2 : Int32)), (.ref mo)] below meth c s₁ [] 0 0 := Stand.of_body Bd
  have e0 : s₁.heap = h0 := by rw [← hh, Bd.state]; rfl
  have N0 := Fr.nil n0
  obtain ⟨F, hF⟩ : ∃ F, F = own_Fin s (Q9_2 Z b kb w0 w1 mo h0 n0) ({ frames := 1, cells := 1, slots := 2, locals := 18 } : Room).cells ({ frames := 1, cells := 1, slots := 2, locals := 18 } : Room).slots := ⟨_, rfl⟩
  show own_Ends p e below (own_Fin s (Q9_2 Z b kb w0 w1 mo h0 n0) ({ frames := 1, cells := 1, slots := 2, locals := 18 } : Room).cells ({ frames := 1, cells := 1, slots := 2, locals := 18 } : Room).slots) _
  rw [← hF, ef_rm9_2 m b (2 : Int32) mo]
  show own_Ends p e below F (s₁.setTop (mkF m 0 #[.val (.ref b), .val (.int (2 : Int32)), .val (.ref mo), .unset] []))
  refine own_step (fun _ k => XS.aloadN X0.here hx rfl (hb hby d9_0) rfl rfl k) ?_
  show own_Ends p e below F (s₁.setTop (mkF m 1 #[.val (.ref b), .val (.int (2 : Int32)), .val (.ref mo), .unset] [(.ref mo)]))
  obtain ⟨T1, X1, e1, st1⟩ := own_ldcM X0 hx hZ hown (own_g hw 61 rfl) e0 M_mo (g := (mkF m 1 #[.val (.ref b), .val (.int (2 : Int32)), .val (.ref mo), .unset] [(.ref mo)])) rfl (hb hby d9_1)
  refine own_step st1 ?_
  show own_Ends p e below F (T1.setTop (mkF m 3 #[.val (.ref b), .val (.int (2 : Int32)), .val (.ref mo), .unset] [(.ref mo), (.ref mo)]))
  refine own_step (fun _ k => Jvm.RoadKit.acmp (below := below) (g := (mkF m 3 #[.val (.ref b), .val (.int (2 : Int32)), .val (.ref mo), .unset] [(.ref mo), (.ref mo)])) X1 hx rfl rfl rfl (pc0 := 3) (pc' := 6) (same := true) rfl (hb hby d9_3) rfl (decide_eq_true rfl) (by decide) (by decide) k) ?_
  show own_Ends p e below F (T1.setTop (mkF m 6 #[.val (.ref b), .val (.int (2 : Int32)), .val (.ref mo), .unset] []))
  refine own_step (fun _ k => XS.iloadN X1.here hx rfl (hb hby d9_6) rfl k) ?_
  show own_Ends p e below F (T1.setTop (mkF m 7 #[.val (.ref b), .val (.int (2 : Int32)), .val (.ref mo), .unset] [(.int (2 : Int32))]))
  obtain ⟨T2, h2, k2, X2, e2, E2, A2, EA2, O2, st2⟩ := newRE X1 hx hZ hown (own_g hw 62 rfl) (own_g hw 63 rfl) e1 (g := (mkF m 7 #[.val (.ref b), .val (.int (2 : Int32)), .val (.ref mo), .unset] [(.int (2 : Int32))])) rfl (hb hby d9_7) rfl (by decide) (cap := 2) (by decide) (by decide) (by decide) (by decide) (ad := "[Ljava/lang/Object;") (by decide)
  obtain ⟨a2, g2⟩ : ∃ z, z = h0.size := ⟨_, rfl⟩
  rw [← g2] at A2 EA2 st2
  have ge_a2 : n0 ≤ a2 := Nat.le_trans Z0 (Nat.le_of_eq g2.symm)
  have sz_a2 : h0.size ≤ a2 := Nat.le_trans (Nat.le_refl h0.size) (Nat.le_of_eq g2.symm)
  have ne_b_a2 : b ≠ a2 := Nat.ne_of_lt (by rw [g2]; exact VB.lt)
  have Z2 : n0 ≤ h2.size := Nat.le_trans Z0 E2.1
  have SZ2 : h0.size ≤ h2.size := Nat.le_trans (Nat.le_refl h0.size) E2.1
  have V2 : Arv Z h2 a2 k2 (.object "java/lang/Object") (2 : Int32) [.null, .null] .null := Arv.pad (Arv.new A2 (by decide)) (pad_rep [] _ 2)
  refine own_step st2 ?_
  show own_Ends p e below F (T2.setTop (mkF m 10 #[.val (.ref b), .val (.int (2 : Int32)), .val (.ref mo), .unset] [(.ref a2)]))
  refine own_step (fun _ k => XS.goto X2.here hx rfl (pc0 := 10) (pc' := 24) rfl (hb hby d9_10) (by decide) (by decide) k) ?_
  show own_Ends p e below F (T2.setTop (mkF m 24 #[.val (.ref b), .val (.int (2 : Int32)), .val (.ref mo), .unset] [(.ref a2)]))
  refine own_step (fun _ k => XS.astoreN X2.here hx rfl (hb hby d9_24) rfl rfl (l' := #[.val (.ref b), .val (.int (2 : Int32)), .val (.ref mo), .val (.ref a2)]) rfl k) ?_
  show own_Ends p e below F (T2.setTop (mkF m 25 #[.val (.ref b), .val (.int (2 : Int32)), .val (.ref mo), .val (.ref a2)] []))
  refine own_step (fun _ k => XS.aloadN X2.here hx rfl (hb hby d9_25) rfl rfl k) ?_
  show own_Ends p e below F (T2.setTop (mkF m 26 #[.val (.ref b), .val (.int (2 : Int32)), .val (.ref mo), .val (.ref a2)] [(.ref b)]))
  refine own_step (fun _ k => XS.iconst X2.here hx rfl (hb hby d9_26) k) ?_
  show own_Ends p e below F (T2.setTop (mkF m 27 #[.val (.ref b), .val (.int (2 : Int32)), .val (.ref mo), .val (.ref a2)] [(.int (0 : Int32)), (.ref b)]))
  refine own_step (fun _ k => XS.aloadN X2.here hx rfl (hb hby d9_27) rfl rfl k) ?_
  show own_Ends p e below F (T2.setTop (mkF m 28 #[.val (.ref b), .val (.int (2 : Int32)), .val (.ref mo), .val (.ref a2)] [(.ref a2), (.int (0 : Int32)), (.ref b)]))
  refine own_step (fun _ k => XS.iconst X2.here hx rfl (hb hby d9_28) k) ?_
  show own_Ends p e below F (T2.setTop (mkF m 29 #[.val (.ref b), .val (.int (2 : Int32)), .val (.ref mo), .val (.ref a2)] [(.int (0 : Int32)), (.ref a2), (.int (0 : Int32)), (.ref b)]))
  refine own_step (fun _ k => XS.aloadN X2.here hx rfl (hb hby d9_29) rfl rfl k) ?_
  show own_Ends p e below F (T2.setTop (mkF m 30 #[.val (.ref b), .val (.int (2 : Int32)), .val (.ref mo), .val (.ref a2)] [(.ref b), (.int (0 : Int32)), (.ref a2), (.int (0 : Int32)), (.ref b)]))
  obtain ⟨cl3, Ar3, q3, S3, M3, H3, G3⟩ := id (VB.ext E2)
  have al3 := X2.arraylength hx (by rw [e2]; exact Ar3.1) (State.isArrayOf_alike hZ.alike Ar3.2.1) (g := (mkF m 30 #[.val (.ref b), .val (.int (2 : Int32)), .val (.ref mo), .val (.ref a2)] [(.ref b), (.int (0 : Int32)), (.ref a2), (.int (0 : Int32)), (.ref b)])) rfl rfl (hb hby d9_30)
  rw [len_of S3 M3] at al3
  refine own_step al3 ?_
  show own_Ends p e below F (T2.setTop (mkF m 31 #[.val (.ref b), .val (.int (2 : Int32)), .val (.ref mo), .val (.ref a2)] [(.int (10 : Int32)), (.int (0 : Int32)), (.ref a2), (.int (0 : Int32)), (.ref b)]))
  refine own_step (fun _ k => XS.iloadN X2.here hx rfl (hb hby d9_31) rfl k) ?_
  show own_Ends p e below F (T2.setTop (mkF m 32 #[.val (.ref b), .val (.int (2 : Int32)), .val (.ref mo), .val (.ref a2)] [(.int (2 : Int32)), (.int (10 : Int32)), (.int (0 : Int32)), (.ref a2), (.int (0 : Int32)), (.ref b)]))
  obtain ⟨_, _, ⟨T4, L4, k4, n4⟩, -, X4, ⟨Lc4, hQ4, l4, y4, z4⟩, st4⟩ := Jvm.LawKit.callS X2 hx (y := (⟨"java/lang/Math", "min", "(II)I"⟩ : MethodName)) hown (mvT hZ (own_g hw 64 rfl)) (mvT hZ (own_g hw 65 rfl)) (mvT hZ (own_g hw 66 rfl)) (mvT hZ (own_g hw 67 rfl)) (by decide) (backOf (W := 4) (rm10 l Z a0 hw [] (10 : Int32) (2 : Int32) h2 n0 Z2) hZ (own_g hw 67 rfl) (own_g hw 66 rfl) (by decide) (by decide)) (g := (mkF m 32 #[.val (.ref b), .val (.int (2 : Int32)), .val (.ref mo), .val (.ref a2)] [(.int (2 : Int32)), (.int (10 : Int32)), (.int (0 : Int32)), (.ref a2), (.int (0 : Int32)), (.ref b)])) rfl (by rw [hml]; rfl) (argsL := [(.int (10 : Int32)), (.int (2 : Int32))]) (rest := [(.int (0 : Int32)), (.ref a2), (.int (0 : Int32)), (.ref b)]) (lenOf pd__28II_29I rfl) rfl (by show 2 * 0 + _ ≤ _; exact Nat.le_of_eq rfl) (hb hby d9_32) (fun _ _ => ⟨rfl, e2, (by decide : 1 + 0 ≤ _), (by decide : 2 + 0 ≤ _)⟩)
  dsimp only [Pt.U, Pt.locs, Pt.cells, Pt.slots] at X4 l4 y4 z4 st4 hQ4
  subst l4 y4 z4
  obtain ⟨rfl, Nq4, eq4⟩ := hQ4
  have N4 := Fr.app N0 Nq4
  refine own_step st4 ?_
  show own_Ends p e below F (T4.setTop (mkF m 35 #[.val (.ref b), .val (.int (2 : Int32)), .val (.ref mo), .val (.ref a2)] [(.int (if (2 : Int32) < (10 : Int32) then (2 : Int32) else (10 : Int32))), (.int (0 : Int32)), (.ref a2), (.int (0 : Int32)), (.ref b)]))
  rw [show (if (2 : Int32) < (10 : Int32) then (2 : Int32) else (10 : Int32)) = (2 : Int32) from (by first | rfl | decide)]
  show own_Ends p e below F (T4.setTop (mkF m 35 #[.val (.ref b), .val (.int (2 : Int32)), .val (.ref mo), .val (.ref a2)] [(.int (2 : Int32)), (.int (0 : Int32)), (.ref a2), (.int (0 : Int32)), (.ref b)]))
  obtain ⟨cl5, Ar5, q5, -⟩ := id V2
  obtain ⟨T5, h5, L5, X5, e5, N5, K5, V5, st5⟩ := cpA X4 hx hZ hown (own_g hw 68 rfl) (own_g hw 71 rfl) (own_g hw 69 rfl) (own_g hw 70 rfl) eq4 (VB.ext E2) V2 (us := [w0, w1]) (Or.inr ⟨rfl, rfl, ⟨(own_Ob.sto (Hw0.ext E2) Ar5 q5 O2), ⟨(own_Ob.sto (Hw1.ext E2) Ar5 q5 O2), trivial⟩⟩⟩) (by decide) (by decide) (by decide) (by decide) (by decide) rfl (by decide) N4 ge_a2 (g := (mkF m 35 #[.val (.ref b), .val (.int (2 : Int32)), .val (.ref mo), .val (.ref a2)] [(.int (2 : Int32)), (.int (0 : Int32)), (.ref a2), (.int (0 : Int32)), (.ref b)])) rfl (by rw [hml]; rfl) (rest := []) rfl (hb hby d9_35) (by decide) (W := 0) (by show 2 * 0 + _ ≤ _; exact Nat.le_of_eq rfl) (by decide)
  have V5 : Arv Z h5 a2 k2 (.object "java/lang/Object") (2 : Int32) [w0, w1] .null := V5
  have Z5 : n0 ≤ h5.size := Nat.le_trans Z2 K5.1
  have SZ5 : h0.size ≤ h5.size := Nat.le_trans SZ2 K5.1
  refine own_step st5 ?_
  show own_Ends p e below F (T5.setTop (mkF m 38 #[.val (.ref b), .val (.int (2 : Int32)), .val (.ref mo), .val (.ref a2)] []))
  refine own_step (fun _ k => XS.aloadN X5.here hx rfl (hb hby d9_38) rfl rfl k) ?_
  show own_Ends p e below F (T5.setTop (mkF m 39 #[.val (.ref b), .val (.int (2 : Int32)), .val (.ref mo), .val (.ref a2)] [(.ref a2)]))
  rw [hF]
  exact own_ret X5 (v := (some (.ref a2))) (fun h => by rw [Bd.returns] at h; cases h) Bd.notSynchronized (fun fs hr => retOut X5 hx (t := (.array (.object "java/lang/Object"))) (w := (.ref a2)) (i := .areturn) Bd.returns rfl (Or.inr (Or.inr (Or.inr (Or.inr ⟨rfl, rfl, rfl⟩)))) (hb hby d9_39) hr) (by decide) (by decide) (by rw [e5]; exact ⟨_, _, rfl, N5, ((Keep.trans (Keep.ext (Keep.refl _ _) E2) K5 (allS (Or.inr sz_a2) all0)) : Keep h0 h5 []), sz_a2, V5⟩)

theorem ef_rm8_2 (m : MethodId) (x0 : Addr) (x1 : Int32) : entryFrame m #[(.ref x0), (.int x1)] 2 = mkF m 0 #[.val (.ref x0), .val (.int x1)] [] := by first | (simp [entryFrame, mkF, argsToLocals, Value.category, maxLocals]; done) | rfl
def Q8_2 (Z : State) (b : Addr) (kb : ClassId) (w0 : Value) (w1 : Value) (mo : Addr) (h0 : Heap) (n0 : Nat) (v : Option Value) (h : Heap) (L : List Loc) : Prop := ∃ c k, v = some (.ref c) ∧ Fr n0 L ∧ Keep h0 h [] ∧ h0.size ≤ c ∧ Arv Z h c k (.object "java/lang/Object") (2 : Int32) [w0, w1] .null
set_option maxRecDepth 65536 in
set_option maxHeartbeats 40000000 in
theorem rm8_2 (l : Launch) (Z : State) (a0 : Array Value) (hw : ∀ d ∈ tables_1, d.before a0 Z = true) (ws : List Jvm.Cond) (b : Addr) (kb : ClassId) (w0 : Value) (w1 : Value) (mo : Addr) (h0 : Heap) (n0 : Nat) (Z0 : n0 ≤ h0.size) (VB : Arv Z h0 b kb (.object "java/lang/Object") (10 : Int32) [w0, w1, .null, .null, .null, .null, .null, .null, .null, .null] .null) (XB : Exa Z h0 b "[Ljava/lang/Object;") (Hw0 : own_Ob Z h0 w0) (Hw1 : own_Ob Z h0 w1) (M_mo : Mir Z "[Ljava/lang/Object;" mo) :
    MetFree l (⟨"java/util/Arrays", "copyOf", "([Ljava/lang/Object;I)[Ljava/lang/Object;"⟩ : MethodName) (head1 (Jvm.Cond.code (⟨"java/util/Arrays", "copyOf", "([Ljava/lang/Object;I)[Ljava/lang/Object;"⟩ : MethodName) jdk_65_method_119_code 2 (some (.array (.object "java/lang/Object"))) :: ws) ({ frames := 2, cells := 1, slots := 2, locals := 33 } : Room)) (fun ar U => ar = #[(.ref b), (.int (2 : Int32))] ∧ Z.Warmed39 U.vm ∧ U.heap = h0) (fun _ _ _ _ _ => True) (fun _ U o U' => ∃ v L, o = .returned v ∧ Q8_2 Z b kb w0 w1 mo h0 n0 v U'.heap L ∧ FrameEnd U o U' L ({ frames := 2, cells := 1, slots := 2, locals := 33 } : Room).cells ({ frames := 2, cells := 1, slots := 2, locals := 33 } : Room).slots) := by
  refine MetFree.of_bodySF (plainFor_of_name pn_java_util_Arrays) hisR ?_
  intro p e s m args below meth c s₁ Bd hml0 hP hK
  obtain ⟨rfl, hZ, hh⟩ := hP
  have hx := Bd.exec
  have hby := Bd.bytes
  have hml : c.maxLocals = 2 := hml0
  have hown : s.vm.findClass "java/util/Arrays" = some m.cls := findClass_of_methodNamed Bd.named
  have hnm := (name_of_methodNamed Bd.named Bd.method).1
  have X0 : Stand p l e ({ frames := 2, cells := 1, slots := 2, locals := 33 } : Room) s m #[(.ref b), (.int (2 : Int32))] below meth c s₁ [] 0 0 := Stand.of_body Bd
  have e0 : s₁.heap = h0 := by rw [← hh, Bd.state]; rfl
  have N0 := Fr.nil n0
  obtain ⟨F, hF⟩ : ∃ F, F = own_Fin s (Q8_2 Z b kb w0 w1 mo h0 n0) ({ frames := 2, cells := 1, slots := 2, locals := 33 } : Room).cells ({ frames := 2, cells := 1, slots := 2, locals := 33 } : Room).slots := ⟨_, rfl⟩
  show own_Ends p e below (own_Fin s (Q8_2 Z b kb w0 w1 mo h0 n0) ({ frames := 2, cells := 1, slots := 2, locals := 33 } : Room).cells ({ frames := 2, cells := 1, slots := 2, locals := 33 } : Room).slots) _
  rw [← hF, ef_rm8_2 m b (2 : Int32)]
  show own_Ends p e below F (s₁.setTop (mkF m 0 #[.val (.ref b), .val (.int (2 : Int32))] []))
  refine own_step (fun _ k => XS.aloadN X0.here hx rfl (hb hby d8_0) rfl rfl k) ?_
  show own_Ends p e below F (s₁.setTop (mkF m 1 #[.val (.ref b), .val (.int (2 : Int32))] [(.ref b)]))
  refine own_step (fun _ k => XS.iloadN X0.here hx rfl (hb hby d8_1) rfl k) ?_
  show own_Ends p e below F (s₁.setTop (mkF m 2 #[.val (.ref b), .val (.int (2 : Int32))] [(.int (2 : Int32)), (.ref b)]))
  refine own_step (fun _ k => XS.aloadN X0.here hx rfl (hb hby d8_2) rfl rfl k) ?_
  show own_Ends p e below F (s₁.setTop (mkF m 3 #[.val (.ref b), .val (.int (2 : Int32))] [(.ref b), (.int (2 : Int32)), (.ref b)]))
  obtain ⟨T1, X1, e1, st1⟩ := own_gc X0 hx hZ hown (own_g hw 52 rfl) (own_g hw 53 rfl) (own_g hw 55 rfl) (own_g hw 54 rfl) (own_g hw 56 rfl) e0 XB M_mo (g := (mkF m 3 #[.val (.ref b), .val (.int (2 : Int32))] [(.ref b), (.int (2 : Int32)), (.ref b)])) rfl (by rw [hml]; rfl) (rest := [(.int (2 : Int32)), (.ref b)]) rfl (hb hby d8_3) (by decide) (W := 2) (by show 2 * 0 + _ ≤ _; exact Nat.le_of_eq rfl) (by decide)
  refine own_step st1 ?_
  show own_Ends p e below F (T1.setTop (mkF m 6 #[.val (.ref b), .val (.int (2 : Int32))] [(.ref mo), (.int (2 : Int32)), (.ref b)]))
  obtain ⟨_, _, ⟨T2, L2, k2, n2⟩, -, X2, ⟨Lc2, hQ2, l2, y2, z2⟩, st2⟩ := Jvm.LawKit.callS X1 hx (y := (⟨"java/util/Arrays", "copyOf", "([Ljava/lang/Object;ILjava/lang/Class;)[Ljava/lang/Object;"⟩ : MethodName)) hown (mvT hZ (own_g hw 58 rfl)) (mvT hZ (own_g hw 59 rfl)) (mvT hZ (own_g hw 50 rfl)) (mvT hZ (own_g hw 60 rfl)) (by decide) (backOf (W := 0) (rm9_2 l Z a0 hw [] b kb w0 w1 mo h0 n0 Z0 VB XB Hw0 Hw1 M_mo) hZ (own_g hw 60 rfl) (own_g hw 50 rfl) (by decide) (by decide)) (g := (mkF m 6 #[.val (.ref b), .val (.int (2 : Int32))] [(.ref mo), (.int (2 : Int32)), (.ref b)])) rfl (by rw [hml]; rfl) (argsL := [(.ref b), (.int (2 : Int32)), (.ref mo)]) (rest := []) (lenOf pd__28_5bLjava_2flang_2fObject_3bILjava_2flang_2fClass_3b_29_5bLjava_2flang_2fObject_3b rfl) rfl (by show 2 * 0 + _ ≤ _; exact Nat.le_of_eq rfl) (hb hby d8_6) (fun _ _ => ⟨rfl, e1, (by decide : 0 + 1 ≤ _), (by decide : 0 + 2 ≤ _)⟩)
  dsimp only [Pt.U, Pt.locs, Pt.cells, Pt.slots] at X2 l2 y2 z2 st2 hQ2
  subst l2 y2 z2
  obtain ⟨c2, kc2, rfl, Nq2, Kq2, fq0_2, fq1_2⟩ := hQ2
  have N2 := Fr.app N0 Nq2
  have Z2 : n0 ≤ T2.heap.size := Nat.le_trans Z0 Kq2.1
  have SZ2 : h0.size ≤ T2.heap.size := Nat.le_trans (Nat.le_refl h0.size) Kq2.1
  have ne_b_c2 : b ≠ c2 := Nat.ne_of_lt (Nat.lt_of_lt_of_le (VB).lt fq0_2)
  have ge_c2 : n0 ≤ c2 := Nat.le_trans Z0 fq0_2
  have sz_c2 : h0.size ≤ c2 := Nat.le_trans (Nat.le_refl h0.size) fq0_2
  refine own_step st2 ?_
  show own_Ends p e below F (T2.setTop (mkF m 9 #[.val (.ref b), .val (.int (2 : Int32))] [(.ref c2)]))
  rw [hF]
  exact own_ret X2 (v := (some (.ref c2))) (fun h => by rw [Bd.returns] at h; cases h) Bd.notSynchronized (fun fs hr => retOut X2 hx (t := (.array (.object "java/lang/Object"))) (w := (.ref c2)) (i := .areturn) Bd.returns rfl (Or.inr (Or.inr (Or.inr (Or.inr ⟨rfl, rfl, rfl⟩)))) (hb hby d8_9) hr) (by decide) (by decide) (by exact ⟨_, _, rfl, N2, ((Keep.trans (Keep.refl _ _) Kq2 all0) : Keep h0 T2.heap []), sz_c2, fq1_2⟩)

theorem ef_rm7_2 (m : MethodId) (x0 : Addr) : entryFrame m #[(.ref x0)] 1 = mkF m 0 #[.val (.ref x0)] [] := by first | (simp [entryFrame, mkF, argsToLocals, Value.category, maxLocals]; done) | rfl
def Q7_2 (Z : State) (bl : Addr) (b : Addr) (kb : ClassId) (w0 : Value) (w1 : Value) (mo : Addr) (h0 : Heap) (n0 : Nat) (v : Option Value) (h : Heap) (L : List Loc) : Prop := ∃ c k, v = some (.ref c) ∧ Fr n0 L ∧ Keep h0 h [] ∧ h0.size ≤ c ∧ Arv Z h c k (.object "java/lang/Object") (2 : Int32) [w0, w1] .null
set_option maxRecDepth 65536 in
set_option maxHeartbeats 40000000 in
theorem rm7_2 (l : Launch) (Z : State) (a0 : Array Value) (hw : ∀ d ∈ tables_1, d.before a0 Z = true) (ws : List Jvm.Cond) (bl : Addr) (b : Addr) (kb : ClassId) (w0 : Value) (w1 : Value) (mo : Addr) (h0 : Heap) (n0 : Nat) (Z0 : n0 ≤ h0.size) (VB : Arv Z h0 b kb (.object "java/lang/Object") (10 : Int32) [w0, w1, .null, .null, .null, .null, .null, .null, .null, .null] .null) (XB : Exa Z h0 b "[Ljava/lang/Object;") (Hw0 : own_Ob Z h0 w0) (Hw1 : own_Ob Z h0 w1) (M_mo : Mir Z "[Ljava/lang/Object;" mo) (EL : Exa Z h0 bl "java/util/ArrayList") (FE : Fld Z h0 bl "java/util/ArrayList" "elementData" "[Ljava/lang/Object;" (.ref b)) (FZ : Fld Z h0 bl "java/util/ArrayList" "size" "I" (.int (2 : Int32))) :
    MetFree l (⟨"java/util/ArrayList", "toArray", "()[Ljava/lang/Object;"⟩ : MethodName) (head1 (Jvm.Cond.code (⟨"java/util/ArrayList", "toArray", "()[Ljava/lang/Object;"⟩ : MethodName) jdk_38_method_16_code 1 (some (.array (.object "java/lang/Object"))) :: ws) ({ frames := 3, cells := 1, slots := 2, locals := 46 } : Room)) (fun ar U => ar = #[(.ref bl)] ∧ Z.Warmed39 U.vm ∧ U.heap = h0) (fun _ _ _ _ _ => True) (fun _ U o U' => ∃ v L, o = .returned v ∧ Q7_2 Z bl b kb w0 w1 mo h0 n0 v U'.heap L ∧ FrameEnd U o U' L ({ frames := 3, cells := 1, slots := 2, locals := 46 } : Room).cells ({ frames := 3, cells := 1, slots := 2, locals := 46 } : Room).slots) := by
  refine MetFree.of_bodySF (plainFor_of_name pn_java_util_ArrayList) hisR ?_
  intro p e s m args below meth c s₁ Bd hml0 hP hK
  obtain ⟨rfl, hZ, hh⟩ := hP
  have hx := Bd.exec
  have hby := Bd.bytes
  have hml : c.maxLocals = 1 := hml0
  have hown : s.vm.findClass "java/util/ArrayList" = some m.cls := findClass_of_methodNamed Bd.named
  have hnm := (name_of_methodNamed Bd.named Bd.method).1
  have X0 : Stand p l e ({ frames := 3, cells := 1, slots := 2, locals := 46 } : Room) s m #[(.ref bl)] below meth c s₁ [] 0 0 := Stand.of_body Bd
  have e0 : s₁.heap = h0 := by rw [← hh, Bd.state]; rfl
  have N0 := Fr.nil n0
  obtain ⟨F, hF⟩ : ∃ F, F = own_Fin s (Q7_2 Z bl b kb w0 w1 mo h0 n0) ({ frames := 3, cells := 1, slots := 2, locals := 46 } : Room).cells ({ frames := 3, cells := 1, slots := 2, locals := 46 } : Room).slots := ⟨_, rfl⟩
  show own_Ends p e below (own_Fin s (Q7_2 Z bl b kb w0 w1 mo h0 n0) ({ frames := 3, cells := 1, slots := 2, locals := 46 } : Room).cells ({ frames := 3, cells := 1, slots := 2, locals := 46 } : Room).slots) _
  rw [← hF, ef_rm7_2 m bl]
  show own_Ends p e below F (s₁.setTop (mkF m 0 #[.val (.ref bl)] []))
  refine own_step (fun _ k => XS.aloadN X0.here hx rfl (hb hby d7_0) rfl rfl k) ?_
  show own_Ends p e below F (s₁.setTop (mkF m 1 #[.val (.ref bl)] [(.ref bl)]))
  obtain ⟨T1, X1, e1, st1⟩ := getF X0 hx hZ hown (host := "") (Or.inl (own_g hw 24 rfl)) Via.refl e0 FE (g := (mkF m 1 #[.val (.ref bl)] [(.ref bl)])) rfl rfl (hb hby d7_1)
  refine own_step st1 ?_
  show own_Ends p e below F (T1.setTop (mkF m 4 #[.val (.ref bl)] [(.ref b)]))
  refine own_step (fun _ k => XS.aloadN X1.here hx rfl (hb hby d7_4) rfl rfl k) ?_
  show own_Ends p e below F (T1.setTop (mkF m 5 #[.val (.ref bl)] [(.ref bl), (.ref b)]))
  obtain ⟨T2, X2, e2, st2⟩ := getF X1 hx hZ hown (host := "") (Or.inl (own_g hw 46 rfl)) Via.refl e1 FZ (g := (mkF m 5 #[.val (.ref bl)] [(.ref bl), (.ref b)])) rfl rfl (hb hby d7_5)
  refine own_step st2 ?_
  show own_Ends p e below F (T2.setTop (mkF m 8 #[.val (.ref bl)] [(.int (2 : Int32)), (.ref b)]))
  obtain ⟨_, _, ⟨T3, L3, k3, n3⟩, -, X3, ⟨Lc3, hQ3, l3, y3, z3⟩, st3⟩ := Jvm.LawKit.callS X2 hx (y := (⟨"java/util/Arrays", "copyOf", "([Ljava/lang/Object;I)[Ljava/lang/Object;"⟩ : MethodName)) hown (mvT hZ (own_g hw 48 rfl)) (mvT hZ (own_g hw 49 rfl)) (mvT hZ (own_g hw 50 rfl)) (mvT hZ (own_g hw 51 rfl)) (by decide) (backOf (W := 0) (rm8_2 l Z a0 hw [] b kb w0 w1 mo h0 n0 Z0 VB XB Hw0 Hw1 M_mo) hZ (own_g hw 51 rfl) (own_g hw 50 rfl) (by decide) (by decide)) (g := (mkF m 8 #[.val (.ref bl)] [(.int (2 : Int32)), (.ref b)])) rfl (by rw [hml]; rfl) (argsL := [(.ref b), (.int (2 : Int32))]) (rest := []) (lenOf pd__28_5bLjava_2flang_2fObject_3bI_29_5bLjava_2flang_2fObject_3b rfl) rfl (by show 2 * 0 + _ ≤ _; exact Nat.le_of_eq rfl) (hb hby d7_8) (fun _ _ => ⟨rfl, e2, (by decide : 0 + 1 ≤ _), (by decide : 0 + 2 ≤ _)⟩)
  dsimp only [Pt.U, Pt.locs, Pt.cells, Pt.slots] at X3 l3 y3 z3 st3 hQ3
  subst l3 y3 z3
  obtain ⟨c3, kc3, rfl, Nq3, Kq3, fq0_3, fq1_3⟩ := hQ3
  have N3 := Fr.app N0 Nq3
  have Z3 : n0 ≤ T3.heap.size := Nat.le_trans Z0 Kq3.1
  have SZ3 : h0.size ≤ T3.heap.size := Nat.le_trans (Nat.le_refl h0.size) Kq3.1
  have ne_b_c3 : b ≠ c3 := Nat.ne_of_lt (Nat.lt_of_lt_of_le (VB).lt fq0_3)
  have ne_bl_c3 : bl ≠ c3 := Nat.ne_of_lt (Nat.lt_of_lt_of_le (EL).lt fq0_3)
  have ge_c3 : n0 ≤ c3 := Nat.le_trans Z0 fq0_3
  have sz_c3 : h0.size ≤ c3 := Nat.le_trans (Nat.le_refl h0.size) fq0_3
  refine own_step st3 ?_
  show own_Ends p e below F (T3.setTop (mkF m 11 #[.val (.ref bl)] [(.ref c3)]))
  rw [hF]
  exact own_ret X3 (v := (some (.ref c3))) (fun h => by rw [Bd.returns] at h; cases h) Bd.notSynchronized (fun fs hr => retOut X3 hx (t := (.array (.object "java/lang/Object"))) (w := (.ref c3)) (i := .areturn) Bd.returns rfl (Or.inr (Or.inr (Or.inr (Or.inr ⟨rfl, rfl, rfl⟩)))) (hb hby d7_11) hr) (by decide) (by decide) (by exact ⟨_, _, rfl, N3, ((Keep.trans (Keep.refl _ _) Kq3 all0) : Keep h0 T3.heap []), sz_c3, fq1_3⟩)

theorem ef_rm6_2 (m : MethodId) (x0 : Addr) (x1 : Addr) : entryFrame m #[(.ref x0), (.ref x1)] 3 = mkF m 0 #[.val (.ref x0), .val (.ref x1), .unset] [] := by first | (simp [entryFrame, mkF, argsToLocals, Value.category, maxLocals]; done) | rfl
def Q6_2 (Z : State) (a bl : Addr) (b : Addr) (kb : ClassId) (w0 : Value) (w1 : Value) (mo : Addr) (ee ma : Addr) (h0 : Heap) (n0 : Nat) (v : Option Value) (h : Heap) (L : List Loc) : Prop := v = none ∧ Fr n0 L ∧ Keep h0 h [a] ∧ Exa Z h a "java/util/ArrayList"
set_option maxRecDepth 65536 in
set_option maxHeartbeats 40000000 in
theorem rm6_2 (l : Launch) (Z : State) (a0 : Array Value) (hw : ∀ d ∈ tables_1, d.before a0 Z = true) (ws : List Jvm.Cond) (a bl : Addr) (b : Addr) (kb : ClassId) (w0 : Value) (w1 : Value) (mo : Addr) (ee ma : Addr) (h0 : Heap) (n0 : Nat) (Z0 : n0 ≤ h0.size) (EX : Exa Z h0 a "java/util/ArrayList") (ge : n0 ≤ a) (F_modCount : Fld Z h0 a "java/util/AbstractList" "modCount" "I" (.int (0 : Int32))) (F_elementData : Fld Z h0 a "java/util/ArrayList" "elementData" "[Ljava/lang/Object;" .null) (F_size : Fld Z h0 a "java/util/ArrayList" "size" "I" (.int (0 : Int32))) (VB : Arv Z h0 b kb (.object "java/lang/Object") (10 : Int32) [w0, w1, .null, .null, .null, .null, .null, .null, .null, .null] .null) (XB : Exa Z h0 b "[Ljava/lang/Object;") (Hw0 : own_Ob Z h0 w0) (Hw1 : own_Ob Z h0 w1) (M_mo : Mir Z "[Ljava/lang/Object;" mo) (EL : Exa Z h0 bl "java/util/ArrayList") (FE : Fld Z h0 bl "java/util/ArrayList" "elementData" "[Ljava/lang/Object;" (.ref b)) (FZ : Fld Z h0 bl "java/util/ArrayList" "size" "I" (.int (2 : Int32))) (SE : Sta Z h0 "java/util/ArrayList" "EMPTY_ELEMENTDATA" "[Ljava/lang/Object;" (.ref ee)) (M_ma : Mir Z "java/util/ArrayList" ma) (nab : a ≠ bl) (nav : a ≠ b) :
    MetFree l (⟨"java/util/ArrayList", "<init>", "(Ljava/util/Collection;)V"⟩ : MethodName) (head1 (Jvm.Cond.code (⟨"java/util/ArrayList", "<init>", "(Ljava/util/Collection;)V"⟩ : MethodName) jdk_38_method_3_code 3 none :: ws) ({ frames := 4, cells := 1, slots := 2, locals := 58 } : Room)) (fun ar U => ar = #[(.ref a), (.ref bl)] ∧ Z.Warmed39 U.vm ∧ U.heap = h0) (fun _ _ _ _ _ => True) (fun _ U o U' => ∃ v L, o = .returned v ∧ Q6_2 Z a bl b kb w0 w1 mo ee ma h0 n0 v U'.heap L ∧ FrameEnd U o U' L ({ frames := 4, cells := 1, slots := 2, locals := 58 } : Room).cells ({ frames := 4, cells := 1, slots := 2, locals := 58 } : Room).slots) := by
  refine MetFree.of_bodySF (plainFor_of_name pn_java_util_ArrayList) hisR ?_
  intro p e s m args below meth c s₁ Bd hml0 hP hK
  obtain ⟨rfl, hZ, hh⟩ := hP
  have hx := Bd.exec
  have hby := Bd.bytes
  have hml : c.maxLocals = 3 := hml0
  have hown : s.vm.findClass "java/util/ArrayList" = some m.cls := findClass_of_methodNamed Bd.named
  have hnm := (name_of_methodNamed Bd.named Bd.method).1
  have X0 : Stand p l e ({ frames := 4, cells := 1, slots := 2, locals := 58 } : Room) s m #[(.ref a), (.ref bl)] below meth c s₁ [] 0 0 := Stand.of_body Bd
  have e0 : s₁.heap = h0 := by rw [← hh, Bd.state]; rfl
  have N0 := Fr.nil n0
  obtain ⟨F, hF⟩ : ∃ F, F = own_Fin s (Q6_2 Z a bl b kb w0 w1 mo ee ma h0 n0) ({ frames := 4, cells := 1, slots := 2, locals := 58 } : Room).cells ({ frames := 4, cells := 1, slots := 2, locals := 58 } : Room).slots := ⟨_, rfl⟩
  show own_Ends p e below (own_Fin s (Q6_2 Z a bl b kb w0 w1 mo ee ma h0 n0) ({ frames := 4, cells := 1, slots := 2, locals := 58 } : Room).cells ({ frames := 4, cells := 1, slots := 2, locals := 58 } : Room).slots) _
  rw [← hF, ef_rm6_2 m a bl]
  show own_Ends p e below F (s₁.setTop (mkF m 0 #[.val (.ref a), .val (.ref bl), .unset] []))
  refine own_step (fun _ k => XS.aloadN X0.here hx rfl (hb hby d6_0) rfl rfl k) ?_
  show own_Ends p e below F (s₁.setTop (mkF m 1 #[.val (.ref a), .val (.ref bl), .unset] [(.ref a)]))
  obtain ⟨_, _, ⟨T1, L1, k1, n1⟩, -, X1, ⟨Lc1, hQ1, l1, y1, z1⟩, st1⟩ := X0.specialBack hx (y := (⟨"java/util/AbstractList", "<init>", "()V"⟩ : MethodName)) rfl hown (mvT hZ (own_g hw 6 rfl)) (mvT hZ (own_g hw 7 rfl)) (mvT hZ (own_g hw 11 rfl)) (by decide) (backOf (W := 0) (rm2 l Z a0 hw [] a  h0 n0 Z0 EX ge F_modCount F_elementData F_size ) hZ (own_g hw 11 rfl) (own_g hw 10 rfl) (by decide) (by decide)) (g := (mkF m 1 #[.val (.ref a), .val (.ref bl), .unset] [(.ref a)])) rfl (by rw [hml]; rfl) (Steps.refl _) (a := a) (argsL := []) (rest := []) (lenOf pd__28_29V rfl) rfl (by show 2 * 0 + _ ≤ _; exact Nat.le_of_eq rfl) (hb hby d6_1) (fun _ _ => ⟨rfl, e0, (by decide : 0 + 0 ≤ _), (by decide : 0 + 0 ≤ _)⟩)
  dsimp only [Pt.U, Pt.locs, Pt.cells, Pt.slots] at X1 l1 y1 z1 st1 hQ1
  subst l1 y1 z1
  obtain ⟨rfl, Nq1, Kq1, fq0_1, fq1_1, fq2_1, fq3_1⟩ := hQ1
  have N1 := Fr.app N0 Nq1
  have Z1 : n0 ≤ T1.heap.size := Nat.le_trans Z0 Kq1.1
  have SZ1 : h0.size ≤ T1.heap.size := Nat.le_trans (Nat.le_refl h0.size) Kq1.1
  have S0_1 := own_Sta_keep SE Kq1 (allS (own_ns_exa EX) all0)
  refine own_trans st1 ?_
  show own_Ends p e below F (T1.setTop (mkF m 4 #[.val (.ref a), .val (.ref bl), .unset] []))
  refine own_step (fun _ k => XS.aloadN X1.here hx rfl (hb hby d6_4) rfl rfl k) ?_
  show own_Ends p e below F (T1.setTop (mkF m 5 #[.val (.ref a), .val (.ref bl), .unset] [(.ref bl)]))
  obtain ⟨cq2, kq2, qa2, qb2, qc2⟩ := isOf (s := s) (T := T1) hZ rfl (EL.keep Kq1)
  obtain ⟨_, _, ⟨T2, L2, k2, n2⟩, -, X2, ⟨Lc2, hQ2, l2, y2, z2⟩, st2⟩ := X1.interfaceBack hx (xi := (⟨"java/util/Collection", "toArray", "()[Ljava/lang/Object;"⟩ : MethodName)) (y := (⟨"java/util/ArrayList", "toArray", "()[Ljava/lang/Object;"⟩ : MethodName)) hown (mvT hZ (own_g hw 37 rfl)) (mvT hZ (own_g hw 38 rfl)) (mvT hZ (own_g hw 39 rfl)) (mvT hZ (own_g hw 40 rfl)) (mvT hZ (own_g hw 41 rfl)) (mvT hZ (own_g hw 42 rfl)) (mvT hZ (own_g hw 43 rfl)) (mvT hZ (own_g hw 44 rfl)) (by decide) (backOf (W := 0) (rm7_2 l Z a0 hw [] bl b kb w0 w1 mo T1.heap n0 Z1 (VB.keep Kq1 (ninS (Ne.symm nav) nin0)) (XB.keep Kq1) (Hw0.keep Kq1) (Hw1.keep Kq1) M_mo (EL.keep Kq1) (FE.keep Kq1 (ninS (Ne.symm nab) nin0)) (FZ.keep Kq1 (ninS (Ne.symm nab) nin0))) hZ (own_g hw 45 rfl) (own_g hw 2 rfl) (by decide) (by decide)) qa2 qb2 qc2 (g := (mkF m 5 #[.val (.ref a), .val (.ref bl), .unset] [(.ref bl)])) rfl (by rw [hml]; rfl) (Steps.refl _) (argsL := []) (rest := []) (lenOf pd__28_29_5bLjava_2flang_2fObject_3b rfl) rfl (by show 2 * 0 + _ ≤ _; exact Nat.le_of_eq rfl) (hb hby d6_5) (fun _ _ => ⟨rfl, rfl, (by decide : 0 + 1 ≤ _), (by decide : 0 + 2 ≤ _)⟩)
  dsimp only [Pt.U, Pt.locs, Pt.cells, Pt.slots] at X2 l2 y2 z2 st2 hQ2
  subst l2 y2 z2
  obtain ⟨c2, kc2, rfl, Nq2, Kq2, fq0_2, fq1_2⟩ := hQ2
  have N2 := Fr.app N1 Nq2
  have Z2 : n0 ≤ T2.heap.size := Nat.le_trans Z1 Kq2.1
  have SZ2 : h0.size ≤ T2.heap.size := Nat.le_trans SZ1 Kq2.1
  have S0_2 := own_Sta_keep S0_1 Kq2 all0
  have ne_a_c2 : a ≠ c2 := Nat.ne_of_lt (Nat.lt_of_lt_of_le (fq0_1).lt fq0_2)
  have ne_b_c2 : b ≠ c2 := Nat.ne_of_lt (Nat.lt_of_lt_of_le ((VB.keep Kq1 (ninS (Ne.symm nav) nin0))).lt fq0_2)
  have ne_bl_c2 : bl ≠ c2 := Nat.ne_of_lt (Nat.lt_of_lt_of_le ((EL.keep Kq1)).lt fq0_2)
  have ge_c2 : n0 ≤ c2 := Nat.le_trans Z1 fq0_2
  have sz_c2 : h0.size ≤ c2 := Nat.le_trans SZ1 fq0_2
  refine own_trans st2 ?_
  show own_Ends p e below F (T2.setTop (mkF m 10 #[.val (.ref a), .val (.ref bl), .unset] [(.ref c2)]))
  refine own_step (fun _ k => XS.astoreN X2.here hx rfl (hb hby d6_10) rfl rfl (l' := #[.val (.ref a), .val (.ref bl), .val (.ref c2)]) rfl k) ?_
  show own_Ends p e below F (T2.setTop (mkF m 11 #[.val (.ref a), .val (.ref bl), .val (.ref c2)] []))
  refine own_step (fun _ k => XS.aloadN X2.here hx rfl (hb hby d6_11) rfl rfl k) ?_
  show own_Ends p e below F (T2.setTop (mkF m 12 #[.val (.ref a), .val (.ref bl), .val (.ref c2)] [(.ref a)]))
  refine own_step (fun _ k => XS.aloadN X2.here hx rfl (hb hby d6_12) rfl rfl k) ?_
  show own_Ends p e below F (T2.setTop (mkF m 13 #[.val (.ref a), .val (.ref bl), .val (.ref c2)] [(.ref c2), (.ref a)]))
  obtain ⟨cl3, Ar3, q3, S3, M3, H3, G3⟩ := id fq1_2
  have al3 := X2.arraylength hx (by exact Ar3.1) (State.isArrayOf_alike hZ.alike Ar3.2.1) (g := (mkF m 13 #[.val (.ref a), .val (.ref bl), .val (.ref c2)] [(.ref c2), (.ref a)])) rfl rfl (hb hby d6_13)
  rw [len_of S3 M3] at al3
  refine own_step al3 ?_
  show own_Ends p e below F (T2.setTop (mkF m 14 #[.val (.ref a), .val (.ref bl), .val (.ref c2)] [(.int (2 : Int32)), (.ref a)]))
  refine own_step (fun _ k => XS.dupX1 X2.here hx rfl (hb hby d6_14) rfl rfl rfl k) ?_
  show own_Ends p e below F (T2.setTop (mkF m 15 #[.val (.ref a), .val (.ref bl), .val (.ref c2)] [(.int (2 : Int32)), (.ref a), (.int (2 : Int32))]))
  obtain ⟨T4, h4, X4, e4, W4, st4⟩ := putF X2 hx hZ hown (host := "") (Or.inl (own_g hw 46 rfl)) Via.refl rfl (fq3_1.keep Kq2 nin0) (fq0_1.keep Kq2) (Or.inl (own_g hw 47 rfl)) (own_g hw 1 rfl) (ty := .int) (by decide) rfl rfl (g := (mkF m 15 #[.val (.ref a), .val (.ref bl), .val (.ref c2)] [(.int (2 : Int32)), (.ref a), (.int (2 : Int32))])) rfl rfl (hb hby d6_15)
  refine own_step st4 ?_
  have F4 := Fld.same W4 (fq3_1.keep Kq2 nin0)
  have N4 := Fr.snoc X4 N2 ge
  have Z4 : n0 ≤ h4.size := by rw [W4.size]; exact Z2
  have SZ4 : h0.size ≤ h4.size := by rw [W4.size]; exact SZ2
  show own_Ends p e below F (T4.setTop (mkF m 18 #[.val (.ref a), .val (.ref bl), .val (.ref c2)] [(.int (2 : Int32))]))
  refine own_step (fun _ k => XS.ifNo X4.here hx rfl (hb hby d6_18) rfl ((if0 _ _).trans (feq (by decide : ¬ ((2 : Int32) = (0 : Int32)))).1) k) ?_
  show own_Ends p e below F (T4.setTop (mkF m 21 #[.val (.ref a), .val (.ref bl), .val (.ref c2)] []))
  refine own_step (fun _ k => XS.aloadN X4.here hx rfl (hb hby d6_21) rfl rfl k) ?_
  show own_Ends p e below F (T4.setTop (mkF m 22 #[.val (.ref a), .val (.ref bl), .val (.ref c2)] [(.ref bl)]))
  obtain ⟨T5, X5, e5, st5⟩ := own_gcI X4 hx hZ (xi := (⟨"java/util/Collection", "getClass", "()Ljava/lang/Class;"⟩ : MethodName)) hown (own_g hw 184 rfl) (own_g hw 53 rfl) (own_g hw 185 rfl) (own_g hw 186 rfl) (own_g hw 54 rfl) (own_g hw 80 rfl) (own_g hw 81 rfl) (own_g hw 44 rfl) (own_g hw 56 rfl) (by decide) (by decide) rfl rfl e4 (((EL.keep Kq1).keep Kq2).wr W4) M_ma (g := (mkF m 22 #[.val (.ref a), .val (.ref bl), .val (.ref c2)] [(.ref bl)])) rfl (by rw [hml]; rfl) (rest := []) rfl (hb hby d6_22) (by decide) (W := 0) (by show 2 * 0 + _ ≤ _; exact Nat.le_of_eq rfl) (by decide)
  refine own_step st5 ?_
  show own_Ends p e below F (T5.setTop (mkF m 27 #[.val (.ref a), .val (.ref bl), .val (.ref c2)] [(.ref ma)]))
  obtain ⟨T6, X6, e6, st6⟩ := own_ldcM X5 hx hZ hown (own_g hw 187 rfl) e5 M_ma (g := (mkF m 27 #[.val (.ref a), .val (.ref bl), .val (.ref c2)] [(.ref ma)])) rfl (hb hby d6_27)
  refine own_step st6 ?_
  show own_Ends p e below F (T6.setTop (mkF m 29 #[.val (.ref a), .val (.ref bl), .val (.ref c2)] [(.ref ma), (.ref ma)]))
  refine own_step (fun _ k => Jvm.RoadKit.acmp (below := below) (g := (mkF m 29 #[.val (.ref a), .val (.ref bl), .val (.ref c2)] [(.ref ma), (.ref ma)])) X6 hx rfl rfl rfl (pc0 := 29) (pc' := 32) (same := true) rfl (hb hby d6_29) rfl (decide_eq_true rfl) (by decide) (by decide) k) ?_
  show own_Ends p e below F (T6.setTop (mkF m 32 #[.val (.ref a), .val (.ref bl), .val (.ref c2)] []))
  refine own_step (fun _ k => XS.aloadN X6.here hx rfl (hb hby d6_32) rfl rfl k) ?_
  show own_Ends p e below F (T6.setTop (mkF m 33 #[.val (.ref a), .val (.ref bl), .val (.ref c2)] [(.ref a)]))
  refine own_step (fun _ k => XS.aloadN X6.here hx rfl (hb hby d6_33) rfl rfl k) ?_
  show own_Ends p e below F (T6.setTop (mkF m 34 #[.val (.ref a), .val (.ref bl), .val (.ref c2)] [(.ref c2), (.ref a)]))
  obtain ⟨T7, h7, X7, e7, W7, st7⟩ := putF X6 hx hZ hown (host := "") (Or.inl (own_g hw 24 rfl)) Via.refl e6 (Fld.other W4 (fq2_1.keep Kq2 nin0) (Or.inr (slot_ne (t := (.array (.object "java/lang/Object"))) (t' := .int) (Or.inl (own_g hw 25 rfl)) (Or.inl (own_g hw 47 rfl)) (by decide) (by decide) (by decide)))) ((fq0_1.keep Kq2).wr W4) (Or.inl (own_g hw 25 rfl)) (own_g hw 1 rfl) (ty := (.array (.object "java/lang/Object"))) (by decide) rfl rfl (g := (mkF m 34 #[.val (.ref a), .val (.ref bl), .val (.ref c2)] [(.ref c2), (.ref a)])) rfl rfl (hb hby d6_34)
  refine own_step st7 ?_
  have F7 := Fld.same W7 (Fld.other W4 (fq2_1.keep Kq2 nin0) (Or.inr (slot_ne (t := (.array (.object "java/lang/Object"))) (t' := .int) (Or.inl (own_g hw 25 rfl)) (Or.inl (own_g hw 47 rfl)) (by decide) (by decide) (by decide))))
  have N7 := Fr.snoc X7 N4 ge
  have Z7 : n0 ≤ h7.size := by rw [W7.size]; exact Z4
  have SZ7 : h0.size ≤ h7.size := by rw [W7.size]; exact SZ4
  show own_Ends p e below F (T7.setTop (mkF m 37 #[.val (.ref a), .val (.ref bl), .val (.ref c2)] []))
  refine own_step (fun _ k => XS.goto X7.here hx rfl (pc0 := 37) (pc' := 64) rfl (hb hby d6_37) (by decide) (by decide) k) ?_
  show own_Ends p e below F (T7.setTop (mkF m 64 #[.val (.ref a), .val (.ref bl), .val (.ref c2)] []))
  rw [hF]
  exact own_ret X7 (v := none) (fun _ => rfl) Bd.notSynchronized (fun fs hr => X7.returnOut hx Bd.returns (hb hby d6_64) hr) (by decide) (by decide) (by rw [e7]; exact ⟨rfl, N7, ((Keep.wr (Keep.wr (Keep.trans (Keep.trans (Keep.refl _ _) Kq1 (allS (Or.inl (List.mem_of_getElem? (i := 0) rfl)) all0)) Kq2 all0) W4 (Or.inl (List.mem_of_getElem? (i := 0) rfl))) W7 (Or.inl (List.mem_of_getElem? (i := 0) rfl))) : Keep h0 h7 [a]), (((fq0_1.keep Kq2).wr W4).wr W7)⟩)

theorem ef_rm9_3 (m : MethodId) (x0 : Addr) (x1 : Int32) (x2 : Addr) : entryFrame m #[(.ref x0), (.int x1), (.ref x2)] 4 = mkF m 0 #[.val (.ref x0), .val (.int x1), .val (.ref x2), .unset] [] := by first | (simp [entryFrame, mkF, argsToLocals, Value.category, maxLocals]; done) | rfl
def Q9_3 (Z : State) (b : Addr) (kb : ClassId) (w0 : Value) (w1 : Value) (w2 : Value) (mo : Addr) (h0 : Heap) (n0 : Nat) (v : Option Value) (h : Heap) (L : List Loc) : Prop := ∃ c k, v = some (.ref c) ∧ Fr n0 L ∧ Keep h0 h [] ∧ h0.size ≤ c ∧ Arv Z h c k (.object "java/lang/Object") (3 : Int32) [w0, w1, w2] .null
set_option maxRecDepth 65536 in
set_option maxHeartbeats 40000000 in
theorem rm9_3 (l : Launch) (Z : State) (a0 : Array Value) (hw : ∀ d ∈ tables_1, d.before a0 Z = true) (ws : List Jvm.Cond) (b : Addr) (kb : ClassId) (w0 : Value) (w1 : Value) (w2 : Value) (mo : Addr) (h0 : Heap) (n0 : Nat) (Z0 : n0 ≤ h0.size) (VB : Arv Z h0 b kb (.object "java/lang/Object") (10 : Int32) [w0, w1, w2, .null, .null, .null, .null, .null, .null, .null] .null) (XB : Exa Z h0 b "[Ljava/lang/Object;") (Hw0 : own_Ob Z h0 w0) (Hw1 : own_Ob Z h0 w1) (Hw2 : own_Ob Z h0 w2) (M_mo : Mir Z "[Ljava/lang/Object;" mo) :
    MetFree l (⟨"java/util/Arrays", "copyOf", "([Ljava/lang/Object;ILjava/lang/Class;)[Ljava/lang/Object;"⟩ : MethodName) (head1 (Jvm.Cond.code (⟨"java/util/Arrays", "copyOf", "([Ljava/lang/Object;ILjava/lang/Class;)[Ljava/lang/Object;"⟩ : MethodName) jdk_65_method_120_code 4 (some (.array (.object "java/lang/Object"))) :: ws) ({ frames := 1, cells := 1, slots := 3, locals := 18 } : Room)) (fun ar U => ar = #[(.ref b), (.int (3 : Int32)), (.ref mo)] ∧ Z.Warmed39 U.vm ∧ U.heap = h0) (fun _ _ _ _ _ => True) (fun _ U o U' => ∃ v L, o = .returned v ∧ Q9_3 Z b kb w0 w1 w2 mo h0 n0 v U'.heap L ∧ FrameEnd U o U' L ({ frames := 1, cells := 1, slots := 3, locals := 18 } : Room).cells ({ frames := 1, cells := 1, slots := 3, locals := 18 } : Room).slots) := by
  refine MetFree.of_bodySF (plainFor_of_name pn_java_util_Arrays) hisR ?_
  intro p e s m args below meth c s₁ Bd hml0 hP hK
  obtain ⟨rfl, hZ, hh⟩ := hP
  have hx := Bd.exec
  have hby := Bd.bytes
  have hml : c.maxLocals = 4 := hml0
  have hown : s.vm.findClass "java/util/Arrays" = some m.cls := findClass_of_methodNamed Bd.named
  have hnm := (name_of_methodNamed Bd.named Bd.method).1
  have X0 : Stand p l e ({ frames := 1, cells := 1, slots := 3, locals := 18 } : Room) s m #[(.ref b), (.int (3 : Int32)), (.ref mo)] below meth c s₁ [] 0 0 := Stand.of_body Bd
  have e0 : s₁.heap = h0 := by rw [← hh, Bd.state]; rfl
  have N0 := Fr.nil n0
  obtain ⟨F, hF⟩ : ∃ F, F = own_Fin s (Q9_3 Z b kb w0 w1 w2 mo h0 n0) ({ frames := 1, cells := 1, slots := 3, locals := 18 } : Room).cells ({ frames := 1, cells := 1, slots := 3, locals := 18 } : Room).slots := ⟨_, rfl⟩
  show own_Ends p e below (own_Fin s (Q9_3 Z b kb w0 w1 w2 mo h0 n0) ({ frames := 1, cells := 1, slots := 3, locals := 18 } : Room).cells ({ frames := 1, cells := 1, slots := 3, locals := 18 } : Room).slots) _
  rw [← hF, ef_rm9_3 m b (3 : Int32) mo]
  show own_Ends p e below F (s₁.setTop (mkF m 0 #[.val (.ref b), .val (.int (3 : Int32)), .val (.ref mo), .unset] []))
  refine own_step (fun _ k => XS.aloadN X0.here hx rfl (hb hby d9_0) rfl rfl k) ?_
  show own_Ends p e below F (s₁.setTop (mkF m 1 #[.val (.ref b), .val (.int (3 : Int32)), .val (.ref mo), .unset] [(.ref mo)]))
  obtain ⟨T1, X1, e1, st1⟩ := own_ldcM X0 hx hZ hown (own_g hw 61 rfl) e0 M_mo (g := (mkF m 1 #[.val (.ref b), .val (.int (3 : Int32)), .val (.ref mo), .unset] [(.ref mo)])) rfl (hb hby d9_1)
  refine own_step st1 ?_
  show own_Ends p e below F (T1.setTop (mkF m 3 #[.val (.ref b), .val (.int (3 : Int32)), .val (.ref mo), .unset] [(.ref mo), (.ref mo)]))
  refine own_step (fun _ k => Jvm.RoadKit.acmp (below := below) (g := (mkF m 3 #[.val (.ref b), .val (.int (3 : Int32)), .val (.ref mo), .unset] [(.ref mo), (.ref mo)])) X1 hx rfl rfl rfl (pc0 := 3) (pc' := 6) (same := true) rfl (hb hby d9_3) rfl (decide_eq_true rfl) (by decide) (by decide) k) ?_
  show own_Ends p e below F (T1.setTop (mkF m 6 #[.val (.ref b), .val (.int (3 : Int32)), .val (.ref mo), .unset] []))
  refine own_step (fun _ k => XS.iloadN X1.here hx rfl (hb hby d9_6) rfl k) ?_
  show own_Ends p e below F (T1.setTop (mkF m 7 #[.val (.ref b), .val (.int (3 : Int32)), .val (.ref mo), .unset] [(.int (3 : Int32))]))
  obtain ⟨T2, h2, k2, X2, e2, E2, A2, EA2, O2, st2⟩ := newRE X1 hx hZ hown (own_g hw 62 rfl) (own_g hw 63 rfl) e1 (g := (mkF m 7 #[.val (.ref b), .val (.int (3 : Int32)), .val (.ref mo), .unset] [(.int (3 : Int32))])) rfl (hb hby d9_7) rfl (by decide) (cap := 3) (by decide) (by decide) (by decide) (by decide) (ad := "[Ljava/lang/Object;") (by decide)
  obtain ⟨a2, g2⟩ : ∃ z, z = h0.size := ⟨_, rfl⟩
  rw [← g2] at A2 EA2 st2
  have ge_a2 : n0 ≤ a2 := Nat.le_trans Z0 (Nat.le_of_eq g2.symm)
  have sz_a2 : h0.size ≤ a2 := Nat.le_trans (Nat.le_refl h0.size) (Nat.le_of_eq g2.symm)
  have ne_b_a2 : b ≠ a2 := Nat.ne_of_lt (by rw [g2]; exact VB.lt)
  have Z2 : n0 ≤ h2.size := Nat.le_trans Z0 E2.1
  have SZ2 : h0.size ≤ h2.size := Nat.le_trans (Nat.le_refl h0.size) E2.1
  have V2 : Arv Z h2 a2 k2 (.object "java/lang/Object") (3 : Int32) [.null, .null, .null] .null := Arv.pad (Arv.new A2 (by decide)) (pad_rep [] _ 3)
  refine own_step st2 ?_
  show own_Ends p e below F (T2.setTop (mkF m 10 #[.val (.ref b), .val (.int (3 : Int32)), .val (.ref mo), .unset] [(.ref a2)]))
  refine own_step (fun _ k => XS.goto X2.here hx rfl (pc0 := 10) (pc' := 24) rfl (hb hby d9_10) (by decide) (by decide) k) ?_
  show own_Ends p e below F (T2.setTop (mkF m 24 #[.val (.ref b), .val (.int (3 : Int32)), .val (.ref mo), .unset] [(.ref a2)]))
  refine own_step (fun _ k => XS.astoreN X2.here hx rfl (hb hby d9_24) rfl rfl (l' := #[.val (.ref b), .val (.int (3 : Int32)), .val (.ref mo), .val (.ref a2)]) rfl k) ?_
  show own_Ends p e below F (T2.setTop (mkF m 25 #[.val (.ref b), .val (.int (3 : Int32)), .val (.ref mo), .val (.ref a2)] []))
  refine own_step (fun _ k => XS.aloadN X2.here hx rfl (hb hby d9_25) rfl rfl k) ?_
  show own_Ends p e below F (T2.setTop (mkF m 26 #[.val (.ref b), .val (.int (3 : Int32)), .val (.ref mo), .val (.ref a2)] [(.ref b)]))
  refine own_step (fun _ k => XS.iconst X2.here hx rfl (hb hby d9_26) k) ?_
  show own_Ends p e below F (T2.setTop (mkF m 27 #[.val (.ref b), .val (.int (3 : Int32)), .val (.ref mo), .val (.ref a2)] [(.int (0 : Int32)), (.ref b)]))
  refine own_step (fun _ k => XS.aloadN X2.here hx rfl (hb hby d9_27) rfl rfl k) ?_
  show own_Ends p e below F (T2.setTop (mkF m 28 #[.val (.ref b), .val (.int (3 : Int32)), .val (.ref mo), .val (.ref a2)] [(.ref a2), (.int (0 : Int32)), (.ref b)]))
  refine own_step (fun _ k => XS.iconst X2.here hx rfl (hb hby d9_28) k) ?_
  show own_Ends p e below F (T2.setTop (mkF m 29 #[.val (.ref b), .val (.int (3 : Int32)), .val (.ref mo), .val (.ref a2)] [(.int (0 : Int32)), (.ref a2), (.int (0 : Int32)), (.ref b)]))
  refine own_step (fun _ k => XS.aloadN X2.here hx rfl (hb hby d9_29) rfl rfl k) ?_
  show own_Ends p e below F (T2.setTop (mkF m 30 #[.val (.ref b), .val (.int (3 : Int32)), .val (.ref mo), .val (.ref a2)] [(.ref b), (.int (0 : Int32)), (.ref a2), (.int (0 : Int32)), (.ref b)]))
  obtain ⟨cl3, Ar3, q3, S3, M3, H3, G3⟩ := id (VB.ext E2)
  have al3 := X2.arraylength hx (by rw [e2]; exact Ar3.1) (State.isArrayOf_alike hZ.alike Ar3.2.1) (g := (mkF m 30 #[.val (.ref b), .val (.int (3 : Int32)), .val (.ref mo), .val (.ref a2)] [(.ref b), (.int (0 : Int32)), (.ref a2), (.int (0 : Int32)), (.ref b)])) rfl rfl (hb hby d9_30)
  rw [len_of S3 M3] at al3
  refine own_step al3 ?_
  show own_Ends p e below F (T2.setTop (mkF m 31 #[.val (.ref b), .val (.int (3 : Int32)), .val (.ref mo), .val (.ref a2)] [(.int (10 : Int32)), (.int (0 : Int32)), (.ref a2), (.int (0 : Int32)), (.ref b)]))
  refine own_step (fun _ k => XS.iloadN X2.here hx rfl (hb hby d9_31) rfl k) ?_
  show own_Ends p e below F (T2.setTop (mkF m 32 #[.val (.ref b), .val (.int (3 : Int32)), .val (.ref mo), .val (.ref a2)] [(.int (3 : Int32)), (.int (10 : Int32)), (.int (0 : Int32)), (.ref a2), (.int (0 : Int32)), (.ref b)]))
  obtain ⟨_, _, ⟨T4, L4, k4, n4⟩, -, X4, ⟨Lc4, hQ4, l4, y4, z4⟩, st4⟩ := Jvm.LawKit.callS X2 hx (y := (⟨"java/lang/Math", "min", "(II)I"⟩ : MethodName)) hown (mvT hZ (own_g hw 64 rfl)) (mvT hZ (own_g hw 65 rfl)) (mvT hZ (own_g hw 66 rfl)) (mvT hZ (own_g hw 67 rfl)) (by decide) (backOf (W := 4) (rm10 l Z a0 hw [] (10 : Int32) (3 : Int32) h2 n0 Z2) hZ (own_g hw 67 rfl) (own_g hw 66 rfl) (by decide) (by decide)) (g := (mkF m 32 #[.val (.ref b), .val (.int (3 : Int32)), .val (.ref mo), .val (.ref a2)] [(.int (3 : Int32)), (.int (10 : Int32)), (.int (0 : Int32)), (.ref a2), (.int (0 : Int32)), (.ref b)])) rfl (by rw [hml]; rfl) (argsL := [(.int (10 : Int32)), (.int (3 : Int32))]) (rest := [(.int (0 : Int32)), (.ref a2), (.int (0 : Int32)), (.ref b)]) (lenOf pd__28II_29I rfl) rfl (by show 2 * 0 + _ ≤ _; exact Nat.le_of_eq rfl) (hb hby d9_32) (fun _ _ => ⟨rfl, e2, (by decide : 1 + 0 ≤ _), (by decide : 3 + 0 ≤ _)⟩)
  dsimp only [Pt.U, Pt.locs, Pt.cells, Pt.slots] at X4 l4 y4 z4 st4 hQ4
  subst l4 y4 z4
  obtain ⟨rfl, Nq4, eq4⟩ := hQ4
  have N4 := Fr.app N0 Nq4
  refine own_step st4 ?_
  show own_Ends p e below F (T4.setTop (mkF m 35 #[.val (.ref b), .val (.int (3 : Int32)), .val (.ref mo), .val (.ref a2)] [(.int (if (3 : Int32) < (10 : Int32) then (3 : Int32) else (10 : Int32))), (.int (0 : Int32)), (.ref a2), (.int (0 : Int32)), (.ref b)]))
  rw [show (if (3 : Int32) < (10 : Int32) then (3 : Int32) else (10 : Int32)) = (3 : Int32) from (by first | rfl | decide)]
  show own_Ends p e below F (T4.setTop (mkF m 35 #[.val (.ref b), .val (.int (3 : Int32)), .val (.ref mo), .val (.ref a2)] [(.int (3 : Int32)), (.int (0 : Int32)), (.ref a2), (.int (0 : Int32)), (.ref b)]))
  obtain ⟨cl5, Ar5, q5, -⟩ := id V2
  obtain ⟨T5, h5, L5, X5, e5, N5, K5, V5, st5⟩ := cpA X4 hx hZ hown (own_g hw 68 rfl) (own_g hw 71 rfl) (own_g hw 69 rfl) (own_g hw 70 rfl) eq4 (VB.ext E2) V2 (us := [w0, w1, w2]) (Or.inr ⟨rfl, rfl, ⟨(own_Ob.sto (Hw0.ext E2) Ar5 q5 O2), ⟨(own_Ob.sto (Hw1.ext E2) Ar5 q5 O2), ⟨(own_Ob.sto (Hw2.ext E2) Ar5 q5 O2), trivial⟩⟩⟩⟩) (by decide) (by decide) (by decide) (by decide) (by decide) rfl (by decide) N4 ge_a2 (g := (mkF m 35 #[.val (.ref b), .val (.int (3 : Int32)), .val (.ref mo), .val (.ref a2)] [(.int (3 : Int32)), (.int (0 : Int32)), (.ref a2), (.int (0 : Int32)), (.ref b)])) rfl (by rw [hml]; rfl) (rest := []) rfl (hb hby d9_35) (by decide) (W := 0) (by show 2 * 0 + _ ≤ _; exact Nat.le_of_eq rfl) (by decide)
  have V5 : Arv Z h5 a2 k2 (.object "java/lang/Object") (3 : Int32) [w0, w1, w2] .null := V5
  have Z5 : n0 ≤ h5.size := Nat.le_trans Z2 K5.1
  have SZ5 : h0.size ≤ h5.size := Nat.le_trans SZ2 K5.1
  refine own_step st5 ?_
  show own_Ends p e below F (T5.setTop (mkF m 38 #[.val (.ref b), .val (.int (3 : Int32)), .val (.ref mo), .val (.ref a2)] []))
  refine own_step (fun _ k => XS.aloadN X5.here hx rfl (hb hby d9_38) rfl rfl k) ?_
  show own_Ends p e below F (T5.setTop (mkF m 39 #[.val (.ref b), .val (.int (3 : Int32)), .val (.ref mo), .val (.ref a2)] [(.ref a2)]))
  rw [hF]
  exact own_ret X5 (v := (some (.ref a2))) (fun h => by rw [Bd.returns] at h; cases h) Bd.notSynchronized (fun fs hr => retOut X5 hx (t := (.array (.object "java/lang/Object"))) (w := (.ref a2)) (i := .areturn) Bd.returns rfl (Or.inr (Or.inr (Or.inr (Or.inr ⟨rfl, rfl, rfl⟩)))) (hb hby d9_39) hr) (by decide) (by decide) (by rw [e5]; exact ⟨_, _, rfl, N5, ((Keep.trans (Keep.ext (Keep.refl _ _) E2) K5 (allS (Or.inr sz_a2) all0)) : Keep h0 h5 []), sz_a2, V5⟩)

theorem ef_rm8_3 (m : MethodId) (x0 : Addr) (x1 : Int32) : entryFrame m #[(.ref x0), (.int x1)] 2 = mkF m 0 #[.val (.ref x0), .val (.int x1)] [] := by first | (simp [entryFrame, mkF, argsToLocals, Value.category, maxLocals]; done) | rfl
def Q8_3 (Z : State) (b : Addr) (kb : ClassId) (w0 : Value) (w1 : Value) (w2 : Value) (mo : Addr) (h0 : Heap) (n0 : Nat) (v : Option Value) (h : Heap) (L : List Loc) : Prop := ∃ c k, v = some (.ref c) ∧ Fr n0 L ∧ Keep h0 h [] ∧ h0.size ≤ c ∧ Arv Z h c k (.object "java/lang/Object") (3 : Int32) [w0, w1, w2] .null
set_option maxRecDepth 65536 in
set_option maxHeartbeats 40000000 in
theorem rm8_3 (l : Launch) (Z : State) (a0 : Array Value) (hw : ∀ d ∈ tables_1, d.before a0 Z = true) (ws : List Jvm.Cond) (b : Addr) (kb : ClassId) (w0 : Value) (w1 : Value) (w2 : Value) (mo : Addr) (h0 : Heap) (n0 : Nat) (Z0 : n0 ≤ h0.size) (VB : Arv Z h0 b kb (.object "java/lang/Object") (10 : Int32) [w0, w1, w2, .null, .null, .null, .null, .null, .null, .null] .null) (XB : Exa Z h0 b "[Ljava/lang/Object;") (Hw0 : own_Ob Z h0 w0) (Hw1 : own_Ob Z h0 w1) (Hw2 : own_Ob Z h0 w2) (M_mo : Mir Z "[Ljava/lang/Object;" mo) :
    MetFree l (⟨"java/util/Arrays", "copyOf", "([Ljava/lang/Object;I)[Ljava/lang/Object;"⟩ : MethodName) (head1 (Jvm.Cond.code (⟨"java/util/Arrays", "copyOf", "([Ljava/lang/Object;I)[Ljava/lang/Object;"⟩ : MethodName) jdk_65_method_119_code 2 (some (.array (.object "java/lang/Object"))) :: ws) ({ frames := 2, cells := 1, slots := 3, locals := 33 } : Room)) (fun ar U => ar = #[(.ref b), (.int (3 : Int32))] ∧ Z.Warmed39 U.vm ∧ U.heap = h0) (fun _ _ _ _ _ => True) (fun _ U o U' => ∃ v L, o = .returned v ∧ Q8_3 Z b kb w0 w1 w2 mo h0 n0 v U'.heap L ∧ FrameEnd U o U' L ({ frames := 2, cells := 1, slots := 3, locals := 33 } : Room).cells ({ frames := 2, cells := 1, slots := 3, locals := 33 } : Room).slots) := by
  refine MetFree.of_bodySF (plainFor_of_name pn_java_util_Arrays) hisR ?_
  intro p e s m args below meth c s₁ Bd hml0 hP hK
  obtain ⟨rfl, hZ, hh⟩ := hP
  have hx := Bd.exec
  have hby := Bd.bytes
  have hml : c.maxLocals = 2 := hml0
  have hown : s.vm.findClass "java/util/Arrays" = some m.cls := findClass_of_methodNamed Bd.named
  have hnm := (name_of_methodNamed Bd.named Bd.method).1
  have X0 : Stand p l e ({ frames := 2, cells := 1, slots := 3, locals := 33 } : Room) s m #[(.ref b), (.int (3 : Int32))] below meth c s₁ [] 0 0 := Stand.of_body Bd
  have e0 : s₁.heap = h0 := by rw [← hh, Bd.state]; rfl
  have N0 := Fr.nil n0
  obtain ⟨F, hF⟩ : ∃ F, F = own_Fin s (Q8_3 Z b kb w0 w1 w2 mo h0 n0) ({ frames := 2, cells := 1, slots := 3, locals := 33 } : Room).cells ({ frames := 2, cells := 1, slots := 3, locals := 33 } : Room).slots := ⟨_, rfl⟩
  show own_Ends p e below (own_Fin s (Q8_3 Z b kb w0 w1 w2 mo h0 n0) ({ frames := 2, cells := 1, slots := 3, locals := 33 } : Room).cells ({ frames := 2, cells := 1, slots := 3, locals := 33 } : Room).slots) _
  rw [← hF, ef_rm8_3 m b (3 : Int32)]
  show own_Ends p e below F (s₁.setTop (mkF m 0 #[.val (.ref b), .val (.int (3 : Int32))] []))
  refine own_step (fun _ k => XS.aloadN X0.here hx rfl (hb hby d8_0) rfl rfl k) ?_
  show own_Ends p e below F (s₁.setTop (mkF m 1 #[.val (.ref b), .val (.int (3 : Int32))] [(.ref b)]))
  refine own_step (fun _ k => XS.iloadN X0.here hx rfl (hb hby d8_1) rfl k) ?_
  show own_Ends p e below F (s₁.setTop (mkF m 2 #[.val (.ref b), .val (.int (3 : Int32))] [(.int (3 : Int32)), (.ref b)]))
  refine own_step (fun _ k => XS.aloadN X0.here hx rfl (hb hby d8_2) rfl rfl k) ?_
  show own_Ends p e below F (s₁.setTop (mkF m 3 #[.val (.ref b), .val (.int (3 : Int32))] [(.ref b), (.int (3 : Int32)), (.ref b)]))
  obtain ⟨T1, X1, e1, st1⟩ := own_gc X0 hx hZ hown (own_g hw 52 rfl) (own_g hw 53 rfl) (own_g hw 55 rfl) (own_g hw 54 rfl) (own_g hw 56 rfl) e0 XB M_mo (g := (mkF m 3 #[.val (.ref b), .val (.int (3 : Int32))] [(.ref b), (.int (3 : Int32)), (.ref b)])) rfl (by rw [hml]; rfl) (rest := [(.int (3 : Int32)), (.ref b)]) rfl (hb hby d8_3) (by decide) (W := 2) (by show 2 * 0 + _ ≤ _; exact Nat.le_of_eq rfl) (by decide)
  refine own_step st1 ?_
  show own_Ends p e below F (T1.setTop (mkF m 6 #[.val (.ref b), .val (.int (3 : Int32))] [(.ref mo), (.int (3 : Int32)), (.ref b)]))
  obtain ⟨_, _, ⟨T2, L2, k2, n2⟩, -, X2, ⟨Lc2, hQ2, l2, y2, z2⟩, st2⟩ := Jvm.LawKit.callS X1 hx (y := (⟨"java/util/Arrays", "copyOf", "([Ljava/lang/Object;ILjava/lang/Class;)[Ljava/lang/Object;"⟩ : MethodName)) hown (mvT hZ (own_g hw 58 rfl)) (mvT hZ (own_g hw 59 rfl)) (mvT hZ (own_g hw 50 rfl)) (mvT hZ (own_g hw 60 rfl)) (by decide) (backOf (W := 0) (rm9_3 l Z a0 hw [] b kb w0 w1 w2 mo h0 n0 Z0 VB XB Hw0 Hw1 Hw2 M_mo) hZ (own_g hw 60 rfl) (own_g hw 50 rfl) (by decide) (by decide)) (g := (mkF m 6 #[.val (.ref b), .val (.int (3 : Int32))] [(.ref mo), (.int (3 : Int32)), (.ref b)])) rfl (by rw [hml]; rfl) (argsL := [(.ref b), (.int (3 : Int32)), (.ref mo)]) (rest := []) (lenOf pd__28_5bLjava_2flang_2fObject_3bILjava_2flang_2fClass_3b_29_5bLjava_2flang_2fObject_3b rfl) rfl (by show 2 * 0 + _ ≤ _; exact Nat.le_of_eq rfl) (hb hby d8_6) (fun _ _ => ⟨rfl, e1, (by decide : 0 + 1 ≤ _), (by decide : 0 + 3 ≤ _)⟩)
  dsimp only [Pt.U, Pt.locs, Pt.cells, Pt.slots] at X2 l2 y2 z2 st2 hQ2
  subst l2 y2 z2
  obtain ⟨c2, kc2, rfl, Nq2, Kq2, fq0_2, fq1_2⟩ := hQ2
  have N2 := Fr.app N0 Nq2
  have Z2 : n0 ≤ T2.heap.size := Nat.le_trans Z0 Kq2.1
  have SZ2 : h0.size ≤ T2.heap.size := Nat.le_trans (Nat.le_refl h0.size) Kq2.1
  have ne_b_c2 : b ≠ c2 := Nat.ne_of_lt (Nat.lt_of_lt_of_le (VB).lt fq0_2)
  have ge_c2 : n0 ≤ c2 := Nat.le_trans Z0 fq0_2
  have sz_c2 : h0.size ≤ c2 := Nat.le_trans (Nat.le_refl h0.size) fq0_2
  refine own_step st2 ?_
  show own_Ends p e below F (T2.setTop (mkF m 9 #[.val (.ref b), .val (.int (3 : Int32))] [(.ref c2)]))
  rw [hF]
  exact own_ret X2 (v := (some (.ref c2))) (fun h => by rw [Bd.returns] at h; cases h) Bd.notSynchronized (fun fs hr => retOut X2 hx (t := (.array (.object "java/lang/Object"))) (w := (.ref c2)) (i := .areturn) Bd.returns rfl (Or.inr (Or.inr (Or.inr (Or.inr ⟨rfl, rfl, rfl⟩)))) (hb hby d8_9) hr) (by decide) (by decide) (by exact ⟨_, _, rfl, N2, ((Keep.trans (Keep.refl _ _) Kq2 all0) : Keep h0 T2.heap []), sz_c2, fq1_2⟩)

theorem ef_rm7_3 (m : MethodId) (x0 : Addr) : entryFrame m #[(.ref x0)] 1 = mkF m 0 #[.val (.ref x0)] [] := by first | (simp [entryFrame, mkF, argsToLocals, Value.category, maxLocals]; done) | rfl
def Q7_3 (Z : State) (bl : Addr) (b : Addr) (kb : ClassId) (w0 : Value) (w1 : Value) (w2 : Value) (mo : Addr) (h0 : Heap) (n0 : Nat) (v : Option Value) (h : Heap) (L : List Loc) : Prop := ∃ c k, v = some (.ref c) ∧ Fr n0 L ∧ Keep h0 h [] ∧ h0.size ≤ c ∧ Arv Z h c k (.object "java/lang/Object") (3 : Int32) [w0, w1, w2] .null
set_option maxRecDepth 65536 in
set_option maxHeartbeats 40000000 in
theorem rm7_3 (l : Launch) (Z : State) (a0 : Array Value) (hw : ∀ d ∈ tables_1, d.before a0 Z = true) (ws : List Jvm.Cond) (bl : Addr) (b : Addr) (kb : ClassId) (w0 : Value) (w1 : Value) (w2 : Value) (mo : Addr) (h0 : Heap) (n0 : Nat) (Z0 : n0 ≤ h0.size) (VB : Arv Z h0 b kb (.object "java/lang/Object") (10 : Int32) [w0, w1, w2, .null, .null, .null, .null, .null, .null, .null] .null) (XB : Exa Z h0 b "[Ljava/lang/Object;") (Hw0 : own_Ob Z h0 w0) (Hw1 : own_Ob Z h0 w1) (Hw2 : own_Ob Z h0 w2) (M_mo : Mir Z "[Ljava/lang/Object;" mo) (EL : Exa Z h0 bl "java/util/ArrayList") (FE : Fld Z h0 bl "java/util/ArrayList" "elementData" "[Ljava/lang/Object;" (.ref b)) (FZ : Fld Z h0 bl "java/util/ArrayList" "size" "I" (.int (3 : Int32))) :
    MetFree l (⟨"java/util/ArrayList", "toArray", "()[Ljava/lang/Object;"⟩ : MethodName) (head1 (Jvm.Cond.code (⟨"java/util/ArrayList", "toArray", "()[Ljava/lang/Object;"⟩ : MethodName) jdk_38_method_16_code 1 (some (.array (.object "java/lang/Object"))) :: ws) ({ frames := 3, cells := 1, slots := 3, locals := 46 } : Room)) (fun ar U => ar = #[(.ref bl)] ∧ Z.Warmed39 U.vm ∧ U.heap = h0) (fun _ _ _ _ _ => True) (fun _ U o U' => ∃ v L, o = .returned v ∧ Q7_3 Z bl b kb w0 w1 w2 mo h0 n0 v U'.heap L ∧ FrameEnd U o U' L ({ frames := 3, cells := 1, slots := 3, locals := 46 } : Room).cells ({ frames := 3, cells := 1, slots := 3, locals := 46 } : Room).slots) := by
  refine MetFree.of_bodySF (plainFor_of_name pn_java_util_ArrayList) hisR ?_
  intro p e s m args below meth c s₁ Bd hml0 hP hK
  obtain ⟨rfl, hZ, hh⟩ := hP
  have hx := Bd.exec
  have hby := Bd.bytes
  have hml : c.maxLocals = 1 := hml0
  have hown : s.vm.findClass "java/util/ArrayList" = some m.cls := findClass_of_methodNamed Bd.named
  have hnm := (name_of_methodNamed Bd.named Bd.method).1
  have X0 : Stand p l e ({ frames := 3, cells := 1, slots := 3, locals := 46 } : Room) s m #[(.ref bl)] below meth c s₁ [] 0 0 := Stand.of_body Bd
  have e0 : s₁.heap = h0 := by rw [← hh, Bd.state]; rfl
  have N0 := Fr.nil n0
  obtain ⟨F, hF⟩ : ∃ F, F = own_Fin s (Q7_3 Z bl b kb w0 w1 w2 mo h0 n0) ({ frames := 3, cells := 1, slots := 3, locals := 46 } : Room).cells ({ frames := 3, cells := 1, slots := 3, locals := 46 } : Room).slots := ⟨_, rfl⟩
  show own_Ends p e below (own_Fin s (Q7_3 Z bl b kb w0 w1 w2 mo h0 n0) ({ frames := 3, cells := 1, slots := 3, locals := 46 } : Room).cells ({ frames := 3, cells := 1, slots := 3, locals := 46 } : Room).slots) _
  rw [← hF, ef_rm7_3 m bl]
  show own_Ends p e below F (s₁.setTop (mkF m 0 #[.val (.ref bl)] []))
  refine own_step (fun _ k => XS.aloadN X0.here hx rfl (hb hby d7_0) rfl rfl k) ?_
  show own_Ends p e below F (s₁.setTop (mkF m 1 #[.val (.ref bl)] [(.ref bl)]))
  obtain ⟨T1, X1, e1, st1⟩ := getF X0 hx hZ hown (host := "") (Or.inl (own_g hw 24 rfl)) Via.refl e0 FE (g := (mkF m 1 #[.val (.ref bl)] [(.ref bl)])) rfl rfl (hb hby d7_1)
  refine own_step st1 ?_
  show own_Ends p e below F (T1.setTop (mkF m 4 #[.val (.ref bl)] [(.ref b)]))
  refine own_step (fun _ k => XS.aloadN X1.here hx rfl (hb hby d7_4) rfl rfl k) ?_
  show own_Ends p e below F (T1.setTop (mkF m 5 #[.val (.ref bl)] [(.ref bl), (.ref b)]))
  obtain ⟨T2, X2, e2, st2⟩ := getF X1 hx hZ hown (host := "") (Or.inl (own_g hw 46 rfl)) Via.refl e1 FZ (g := (mkF m 5 #[.val (.ref bl)] [(.ref bl), (.ref b)])) rfl rfl (hb hby d7_5)
  refine own_step st2 ?_
  show own_Ends p e below F (T2.setTop (mkF m 8 #[.val (.ref bl)] [(.int (3 : Int32)), (.ref b)]))
  obtain ⟨_, _, ⟨T3, L3, k3, n3⟩, -, X3, ⟨Lc3, hQ3, l3, y3, z3⟩, st3⟩ := Jvm.LawKit.callS X2 hx (y := (⟨"java/util/Arrays", "copyOf", "([Ljava/lang/Object;I)[Ljava/lang/Object;"⟩ : MethodName)) hown (mvT hZ (own_g hw 48 rfl)) (mvT hZ (own_g hw 49 rfl)) (mvT hZ (own_g hw 50 rfl)) (mvT hZ (own_g hw 51 rfl)) (by decide) (backOf (W := 0) (rm8_3 l Z a0 hw [] b kb w0 w1 w2 mo h0 n0 Z0 VB XB Hw0 Hw1 Hw2 M_mo) hZ (own_g hw 51 rfl) (own_g hw 50 rfl) (by decide) (by decide)) (g := (mkF m 8 #[.val (.ref bl)] [(.int (3 : Int32)), (.ref b)])) rfl (by rw [hml]; rfl) (argsL := [(.ref b), (.int (3 : Int32))]) (rest := []) (lenOf pd__28_5bLjava_2flang_2fObject_3bI_29_5bLjava_2flang_2fObject_3b rfl) rfl (by show 2 * 0 + _ ≤ _; exact Nat.le_of_eq rfl) (hb hby d7_8) (fun _ _ => ⟨rfl, e2, (by decide : 0 + 1 ≤ _), (by decide : 0 + 3 ≤ _)⟩)
  dsimp only [Pt.U, Pt.locs, Pt.cells, Pt.slots] at X3 l3 y3 z3 st3 hQ3
  subst l3 y3 z3
  obtain ⟨c3, kc3, rfl, Nq3, Kq3, fq0_3, fq1_3⟩ := hQ3
  have N3 := Fr.app N0 Nq3
  have Z3 : n0 ≤ T3.heap.size := Nat.le_trans Z0 Kq3.1
  have SZ3 : h0.size ≤ T3.heap.size := Nat.le_trans (Nat.le_refl h0.size) Kq3.1
  have ne_b_c3 : b ≠ c3 := Nat.ne_of_lt (Nat.lt_of_lt_of_le (VB).lt fq0_3)
  have ne_bl_c3 : bl ≠ c3 := Nat.ne_of_lt (Nat.lt_of_lt_of_le (EL).lt fq0_3)
  have ge_c3 : n0 ≤ c3 := Nat.le_trans Z0 fq0_3
  have sz_c3 : h0.size ≤ c3 := Nat.le_trans (Nat.le_refl h0.size) fq0_3
  refine own_step st3 ?_
  show own_Ends p e below F (T3.setTop (mkF m 11 #[.val (.ref bl)] [(.ref c3)]))
  rw [hF]
  exact own_ret X3 (v := (some (.ref c3))) (fun h => by rw [Bd.returns] at h; cases h) Bd.notSynchronized (fun fs hr => retOut X3 hx (t := (.array (.object "java/lang/Object"))) (w := (.ref c3)) (i := .areturn) Bd.returns rfl (Or.inr (Or.inr (Or.inr (Or.inr ⟨rfl, rfl, rfl⟩)))) (hb hby d7_11) hr) (by decide) (by decide) (by exact ⟨_, _, rfl, N3, ((Keep.trans (Keep.refl _ _) Kq3 all0) : Keep h0 T3.heap []), sz_c3, fq1_3⟩)

theorem ef_rm6_3 (m : MethodId) (x0 : Addr) (x1 : Addr) : entryFrame m #[(.ref x0), (.ref x1)] 3 = mkF m 0 #[.val (.ref x0), .val (.ref x1), .unset] [] := by first | (simp [entryFrame, mkF, argsToLocals, Value.category, maxLocals]; done) | rfl
def Q6_3 (Z : State) (a bl : Addr) (b : Addr) (kb : ClassId) (w0 : Value) (w1 : Value) (w2 : Value) (mo : Addr) (ee ma : Addr) (h0 : Heap) (n0 : Nat) (v : Option Value) (h : Heap) (L : List Loc) : Prop := v = none ∧ Fr n0 L ∧ Keep h0 h [a] ∧ Exa Z h a "java/util/ArrayList"
set_option maxRecDepth 65536 in
set_option maxHeartbeats 40000000 in
theorem rm6_3 (l : Launch) (Z : State) (a0 : Array Value) (hw : ∀ d ∈ tables_1, d.before a0 Z = true) (ws : List Jvm.Cond) (a bl : Addr) (b : Addr) (kb : ClassId) (w0 : Value) (w1 : Value) (w2 : Value) (mo : Addr) (ee ma : Addr) (h0 : Heap) (n0 : Nat) (Z0 : n0 ≤ h0.size) (EX : Exa Z h0 a "java/util/ArrayList") (ge : n0 ≤ a) (F_modCount : Fld Z h0 a "java/util/AbstractList" "modCount" "I" (.int (0 : Int32))) (F_elementData : Fld Z h0 a "java/util/ArrayList" "elementData" "[Ljava/lang/Object;" .null) (F_size : Fld Z h0 a "java/util/ArrayList" "size" "I" (.int (0 : Int32))) (VB : Arv Z h0 b kb (.object "java/lang/Object") (10 : Int32) [w0, w1, w2, .null, .null, .null, .null, .null, .null, .null] .null) (XB : Exa Z h0 b "[Ljava/lang/Object;") (Hw0 : own_Ob Z h0 w0) (Hw1 : own_Ob Z h0 w1) (Hw2 : own_Ob Z h0 w2) (M_mo : Mir Z "[Ljava/lang/Object;" mo) (EL : Exa Z h0 bl "java/util/ArrayList") (FE : Fld Z h0 bl "java/util/ArrayList" "elementData" "[Ljava/lang/Object;" (.ref b)) (FZ : Fld Z h0 bl "java/util/ArrayList" "size" "I" (.int (3 : Int32))) (SE : Sta Z h0 "java/util/ArrayList" "EMPTY_ELEMENTDATA" "[Ljava/lang/Object;" (.ref ee)) (M_ma : Mir Z "java/util/ArrayList" ma) (nab : a ≠ bl) (nav : a ≠ b) :
    MetFree l (⟨"java/util/ArrayList", "<init>", "(Ljava/util/Collection;)V"⟩ : MethodName) (head1 (Jvm.Cond.code (⟨"java/util/ArrayList", "<init>", "(Ljava/util/Collection;)V"⟩ : MethodName) jdk_38_method_3_code 3 none :: ws) ({ frames := 4, cells := 1, slots := 3, locals := 58 } : Room)) (fun ar U => ar = #[(.ref a), (.ref bl)] ∧ Z.Warmed39 U.vm ∧ U.heap = h0) (fun _ _ _ _ _ => True) (fun _ U o U' => ∃ v L, o = .returned v ∧ Q6_3 Z a bl b kb w0 w1 w2 mo ee ma h0 n0 v U'.heap L ∧ FrameEnd U o U' L ({ frames := 4, cells := 1, slots := 3, locals := 58 } : Room).cells ({ frames := 4, cells := 1, slots := 3, locals := 58 } : Room).slots) := by
  refine MetFree.of_bodySF (plainFor_of_name pn_java_util_ArrayList) hisR ?_
  intro p e s m args below meth c s₁ Bd hml0 hP hK
  obtain ⟨rfl, hZ, hh⟩ := hP
  have hx := Bd.exec
  have hby := Bd.bytes
  have hml : c.maxLocals = 3 := hml0
  have hown : s.vm.findClass "java/util/ArrayList" = some m.cls := findClass_of_methodNamed Bd.named
  have hnm := (name_of_methodNamed Bd.named Bd.method).1
  have X0 : Stand p l e ({ frames := 4, cells := 1, slots := 3, locals := 58 } : Room) s m #[(.ref a), (.ref bl)] below meth c s₁ [] 0 0 := Stand.of_body Bd
  have e0 : s₁.heap = h0 := by rw [← hh, Bd.state]; rfl
  have N0 := Fr.nil n0
  obtain ⟨F, hF⟩ : ∃ F, F = own_Fin s (Q6_3 Z a bl b kb w0 w1 w2 mo ee ma h0 n0) ({ frames := 4, cells := 1, slots := 3, locals := 58 } : Room).cells ({ frames := 4, cells := 1, slots := 3, locals := 58 } : Room).slots := ⟨_, rfl⟩
  show own_Ends p e below (own_Fin s (Q6_3 Z a bl b kb w0 w1 w2 mo ee ma h0 n0) ({ frames := 4, cells := 1, slots := 3, locals := 58 } : Room).cells ({ frames := 4, cells := 1, slots := 3, locals := 58 } : Room).slots) _
  rw [← hF, ef_rm6_3 m a bl]
  show own_Ends p e below F (s₁.setTop (mkF m 0 #[.val (.ref a), .val (.ref bl), .unset] []))
  refine own_step (fun _ k => XS.aloadN X0.here hx rfl (hb hby d6_0) rfl rfl k) ?_
  show own_Ends p e below F (s₁.setTop (mkF m 1 #[.val (.ref a), .val (.ref bl), .unset] [(.ref a)]))
  obtain ⟨_, _, ⟨T1, L1, k1, n1⟩, -, X1, ⟨Lc1, hQ1, l1, y1, z1⟩, st1⟩ := X0.specialBack hx (y := (⟨"java/util/AbstractList", "<init>", "()V"⟩ : MethodName)) rfl hown (mvT hZ (own_g hw 6 rfl)) (mvT hZ (own_g hw 7 rfl)) (mvT hZ (own_g hw 11 rfl)) (by decide) (backOf (W := 0) (rm2 l Z a0 hw [] a  h0 n0 Z0 EX ge F_modCount F_elementData F_size ) hZ (own_g hw 11 rfl) (own_g hw 10 rfl) (by decide) (by decide)) (g := (mkF m 1 #[.val (.ref a), .val (.ref bl), .unset] [(.ref a)])) rfl (by rw [hml]; rfl) (Steps.refl _) (a := a) (argsL := []) (rest := []) (lenOf pd__28_29V rfl) rfl (by show 2 * 0 + _ ≤ _; exact Nat.le_of_eq rfl) (hb hby d6_1) (fun _ _ => ⟨rfl, e0, (by decide : 0 + 0 ≤ _), (by decide : 0 + 0 ≤ _)⟩)
  dsimp only [Pt.U, Pt.locs, Pt.cells, Pt.slots] at X1 l1 y1 z1 st1 hQ1
  subst l1 y1 z1
  obtain ⟨rfl, Nq1, Kq1, fq0_1, fq1_1, fq2_1, fq3_1⟩ := hQ1
  have N1 := Fr.app N0 Nq1
  have Z1 : n0 ≤ T1.heap.size := Nat.le_trans Z0 Kq1.1
  have SZ1 : h0.size ≤ T1.heap.size := Nat.le_trans (Nat.le_refl h0.size) Kq1.1
  have S0_1 := own_Sta_keep SE Kq1 (allS (own_ns_exa EX) all0)
  refine own_trans st1 ?_
  show own_Ends p e below F (T1.setTop (mkF m 4 #[.val (.ref a), .val (.ref bl), .unset] []))
  refine own_step (fun _ k => XS.aloadN X1.here hx rfl (hb hby d6_4) rfl rfl k) ?_
  show own_Ends p e below F (T1.setTop (mkF m 5 #[.val (.ref a), .val (.ref bl), .unset] [(.ref bl)]))
  obtain ⟨cq2, kq2, qa2, qb2, qc2⟩ := isOf (s := s) (T := T1) hZ rfl (EL.keep Kq1)
  obtain ⟨_, _, ⟨T2, L2, k2, n2⟩, -, X2, ⟨Lc2, hQ2, l2, y2, z2⟩, st2⟩ := X1.interfaceBack hx (xi := (⟨"java/util/Collection", "toArray", "()[Ljava/lang/Object;"⟩ : MethodName)) (y := (⟨"java/util/ArrayList", "toArray", "()[Ljava/lang/Object;"⟩ : MethodName)) hown (mvT hZ (own_g hw 37 rfl)) (mvT hZ (own_g hw 38 rfl)) (mvT hZ (own_g hw 39 rfl)) (mvT hZ (own_g hw 40 rfl)) (mvT hZ (own_g hw 41 rfl)) (mvT hZ (own_g hw 42 rfl)) (mvT hZ (own_g hw 43 rfl)) (mvT hZ (own_g hw 44 rfl)) (by decide) (backOf (W := 0) (rm7_3 l Z a0 hw [] bl b kb w0 w1 w2 mo T1.heap n0 Z1 (VB.keep Kq1 (ninS (Ne.symm nav) nin0)) (XB.keep Kq1) (Hw0.keep Kq1) (Hw1.keep Kq1) (Hw2.keep Kq1) M_mo (EL.keep Kq1) (FE.keep Kq1 (ninS (Ne.symm nab) nin0)) (FZ.keep Kq1 (ninS (Ne.symm nab) nin0))) hZ (own_g hw 45 rfl) (own_g hw 2 rfl) (by decide) (by decide)) qa2 qb2 qc2 (g := (mkF m 5 #[.val (.ref a), .val (.ref bl), .unset] [(.ref bl)])) rfl (by rw [hml]; rfl) (Steps.refl _) (argsL := []) (rest := []) (lenOf pd__28_29_5bLjava_2flang_2fObject_3b rfl) rfl (by show 2 * 0 + _ ≤ _; exact Nat.le_of_eq rfl) (hb hby d6_5) (fun _ _ => ⟨rfl, rfl, (by decide : 0 + 1 ≤ _), (by decide : 0 + 3 ≤ _)⟩)
  dsimp only [Pt.U, Pt.locs, Pt.cells, Pt.slots] at X2 l2 y2 z2 st2 hQ2
  subst l2 y2 z2
  obtain ⟨c2, kc2, rfl, Nq2, Kq2, fq0_2, fq1_2⟩ := hQ2
  have N2 := Fr.app N1 Nq2
  have Z2 : n0 ≤ T2.heap.size := Nat.le_trans Z1 Kq2.1
  have SZ2 : h0.size ≤ T2.heap.size := Nat.le_trans SZ1 Kq2.1
  have S0_2 := own_Sta_keep S0_1 Kq2 all0
  have ne_a_c2 : a ≠ c2 := Nat.ne_of_lt (Nat.lt_of_lt_of_le (fq0_1).lt fq0_2)
  have ne_b_c2 : b ≠ c2 := Nat.ne_of_lt (Nat.lt_of_lt_of_le ((VB.keep Kq1 (ninS (Ne.symm nav) nin0))).lt fq0_2)
  have ne_bl_c2 : bl ≠ c2 := Nat.ne_of_lt (Nat.lt_of_lt_of_le ((EL.keep Kq1)).lt fq0_2)
  have ge_c2 : n0 ≤ c2 := Nat.le_trans Z1 fq0_2
  have sz_c2 : h0.size ≤ c2 := Nat.le_trans SZ1 fq0_2
  refine own_trans st2 ?_
  show own_Ends p e below F (T2.setTop (mkF m 10 #[.val (.ref a), .val (.ref bl), .unset] [(.ref c2)]))
  refine own_step (fun _ k => XS.astoreN X2.here hx rfl (hb hby d6_10) rfl rfl (l' := #[.val (.ref a), .val (.ref bl), .val (.ref c2)]) rfl k) ?_
  show own_Ends p e below F (T2.setTop (mkF m 11 #[.val (.ref a), .val (.ref bl), .val (.ref c2)] []))
  refine own_step (fun _ k => XS.aloadN X2.here hx rfl (hb hby d6_11) rfl rfl k) ?_
  show own_Ends p e below F (T2.setTop (mkF m 12 #[.val (.ref a), .val (.ref bl), .val (.ref c2)] [(.ref a)]))
  refine own_step (fun _ k => XS.aloadN X2.here hx rfl (hb hby d6_12) rfl rfl k) ?_
  show own_Ends p e below F (T2.setTop (mkF m 13 #[.val (.ref a), .val (.ref bl), .val (.ref c2)] [(.ref c2), (.ref a)]))
  obtain ⟨cl3, Ar3, q3, S3, M3, H3, G3⟩ := id fq1_2
  have al3 := X2.arraylength hx (by exact Ar3.1) (State.isArrayOf_alike hZ.alike Ar3.2.1) (g := (mkF m 13 #[.val (.ref a), .val (.ref bl), .val (.ref c2)] [(.ref c2), (.ref a)])) rfl rfl (hb hby d6_13)
  rw [len_of S3 M3] at al3
  refine own_step al3 ?_
  show own_Ends p e below F (T2.setTop (mkF m 14 #[.val (.ref a), .val (.ref bl), .val (.ref c2)] [(.int (3 : Int32)), (.ref a)]))
  refine own_step (fun _ k => XS.dupX1 X2.here hx rfl (hb hby d6_14) rfl rfl rfl k) ?_
  show own_Ends p e below F (T2.setTop (mkF m 15 #[.val (.ref a), .val (.ref bl), .val (.ref c2)] [(.int (3 : Int32)), (.ref a), (.int (3 : Int32))]))
  obtain ⟨T4, h4, X4, e4, W4, st4⟩ := putF X2 hx hZ hown (host := "") (Or.inl (own_g hw 46 rfl)) Via.refl rfl (fq3_1.keep Kq2 nin0) (fq0_1.keep Kq2) (Or.inl (own_g hw 47 rfl)) (own_g hw 1 rfl) (ty := .int) (by decide) rfl rfl (g := (mkF m 15 #[.val (.ref a), .val (.ref bl), .val (.ref c2)] [(.int (3 : Int32)), (.ref a), (.int (3 : Int32))])) rfl rfl (hb hby d6_15)
  refine own_step st4 ?_
  have F4 := Fld.same W4 (fq3_1.keep Kq2 nin0)
  have N4 := Fr.snoc X4 N2 ge
  have Z4 : n0 ≤ h4.size := by rw [W4.size]; exact Z2
  have SZ4 : h0.size ≤ h4.size := by rw [W4.size]; exact SZ2
  show own_Ends p e below F (T4.setTop (mkF m 18 #[.val (.ref a), .val (.ref bl), .val (.ref c2)] [(.int (3 : Int32))]))
  refine own_step (fun _ k => XS.ifNo X4.here hx rfl (hb hby d6_18) rfl ((if0 _ _).trans (feq (by decide : ¬ ((3 : Int32) = (0 : Int32)))).1) k) ?_
  show own_Ends p e below F (T4.setTop (mkF m 21 #[.val (.ref a), .val (.ref bl), .val (.ref c2)] []))
  refine own_step (fun _ k => XS.aloadN X4.here hx rfl (hb hby d6_21) rfl rfl k) ?_
  show own_Ends p e below F (T4.setTop (mkF m 22 #[.val (.ref a), .val (.ref bl), .val (.ref c2)] [(.ref bl)]))
  obtain ⟨T5, X5, e5, st5⟩ := own_gcI X4 hx hZ (xi := (⟨"java/util/Collection", "getClass", "()Ljava/lang/Class;"⟩ : MethodName)) hown (own_g hw 184 rfl) (own_g hw 53 rfl) (own_g hw 185 rfl) (own_g hw 186 rfl) (own_g hw 54 rfl) (own_g hw 80 rfl) (own_g hw 81 rfl) (own_g hw 44 rfl) (own_g hw 56 rfl) (by decide) (by decide) rfl rfl e4 (((EL.keep Kq1).keep Kq2).wr W4) M_ma (g := (mkF m 22 #[.val (.ref a), .val (.ref bl), .val (.ref c2)] [(.ref bl)])) rfl (by rw [hml]; rfl) (rest := []) rfl (hb hby d6_22) (by decide) (W := 0) (by show 2 * 0 + _ ≤ _; exact Nat.le_of_eq rfl) (by decide)
  refine own_step st5 ?_
  show own_Ends p e below F (T5.setTop (mkF m 27 #[.val (.ref a), .val (.ref bl), .val (.ref c2)] [(.ref ma)]))
  obtain ⟨T6, X6, e6, st6⟩ := own_ldcM X5 hx hZ hown (own_g hw 187 rfl) e5 M_ma (g := (mkF m 27 #[.val (.ref a), .val (.ref bl), .val (.ref c2)] [(.ref ma)])) rfl (hb hby d6_27)
  refine own_step st6 ?_
  show own_Ends p e below F (T6.setTop (mkF m 29 #[.val (.ref a), .val (.ref bl), .val (.ref c2)] [(.ref ma), (.ref ma)]))
  refine own_step (fun _ k => Jvm.RoadKit.acmp (below := below) (g := (mkF m 29 #[.val (.ref a), .val (.ref bl), .val (.ref c2)] [(.ref ma), (.ref ma)])) X6 hx rfl rfl rfl (pc0 := 29) (pc' := 32) (same := true) rfl (hb hby d6_29) rfl (decide_eq_true rfl) (by decide) (by decide) k) ?_
  show own_Ends p e below F (T6.setTop (mkF m 32 #[.val (.ref a), .val (.ref bl), .val (.ref c2)] []))
  refine own_step (fun _ k => XS.aloadN X6.here hx rfl (hb hby d6_32) rfl rfl k) ?_
  show own_Ends p e below F (T6.setTop (mkF m 33 #[.val (.ref a), .val (.ref bl), .val (.ref c2)] [(.ref a)]))
  refine own_step (fun _ k => XS.aloadN X6.here hx rfl (hb hby d6_33) rfl rfl k) ?_
  show own_Ends p e below F (T6.setTop (mkF m 34 #[.val (.ref a), .val (.ref bl), .val (.ref c2)] [(.ref c2), (.ref a)]))
  obtain ⟨T7, h7, X7, e7, W7, st7⟩ := putF X6 hx hZ hown (host := "") (Or.inl (own_g hw 24 rfl)) Via.refl e6 (Fld.other W4 (fq2_1.keep Kq2 nin0) (Or.inr (slot_ne (t := (.array (.object "java/lang/Object"))) (t' := .int) (Or.inl (own_g hw 25 rfl)) (Or.inl (own_g hw 47 rfl)) (by decide) (by decide) (by decide)))) ((fq0_1.keep Kq2).wr W4) (Or.inl (own_g hw 25 rfl)) (own_g hw 1 rfl) (ty := (.array (.object "java/lang/Object"))) (by decide) rfl rfl (g := (mkF m 34 #[.val (.ref a), .val (.ref bl), .val (.ref c2)] [(.ref c2), (.ref a)])) rfl rfl (hb hby d6_34)
  refine own_step st7 ?_
  have F7 := Fld.same W7 (Fld.other W4 (fq2_1.keep Kq2 nin0) (Or.inr (slot_ne (t := (.array (.object "java/lang/Object"))) (t' := .int) (Or.inl (own_g hw 25 rfl)) (Or.inl (own_g hw 47 rfl)) (by decide) (by decide) (by decide))))
  have N7 := Fr.snoc X7 N4 ge
  have Z7 : n0 ≤ h7.size := by rw [W7.size]; exact Z4
  have SZ7 : h0.size ≤ h7.size := by rw [W7.size]; exact SZ4
  show own_Ends p e below F (T7.setTop (mkF m 37 #[.val (.ref a), .val (.ref bl), .val (.ref c2)] []))
  refine own_step (fun _ k => XS.goto X7.here hx rfl (pc0 := 37) (pc' := 64) rfl (hb hby d6_37) (by decide) (by decide) k) ?_
  show own_Ends p e below F (T7.setTop (mkF m 64 #[.val (.ref a), .val (.ref bl), .val (.ref c2)] []))
  rw [hF]
  exact own_ret X7 (v := none) (fun _ => rfl) Bd.notSynchronized (fun fs hr => X7.returnOut hx Bd.returns (hb hby d6_64) hr) (by decide) (by decide) (by rw [e7]; exact ⟨rfl, N7, ((Keep.wr (Keep.wr (Keep.trans (Keep.trans (Keep.refl _ _) Kq1 (allS (Or.inl (List.mem_of_getElem? (i := 0) rfl)) all0)) Kq2 all0) W4 (Or.inl (List.mem_of_getElem? (i := 0) rfl))) W7 (Or.inl (List.mem_of_getElem? (i := 0) rfl))) : Keep h0 h7 [a]), (((fq0_1.keep Kq2).wr W4).wr W7)⟩)

theorem d14_0 : decode jdk_119_method_1_code 0 = .ok (.aload_n 0, 1) := by decide +kernel
theorem d14_1 : decode jdk_119_method_1_code 1 = .ok (.invokespecial 1, 3) := by decide +kernel
theorem d14_4 : decode jdk_119_method_1_code 4 = .ok (.aload_n 1, 1) := by decide +kernel
theorem d14_5 : decode jdk_119_method_1_code 5 = .ok (.ifnonnull 11, 3) := by decide +kernel
theorem d14_16 : decode jdk_119_method_1_code 16 = .ok (.aload_n 0, 1) := by decide +kernel
theorem d14_17 : decode jdk_119_method_1_code 17 = .ok (.aload_n 1, 1) := by decide +kernel
theorem d14_18 : decode jdk_119_method_1_code 18 = .ok (.putfield 10, 3) := by decide +kernel
theorem d14_21 : decode jdk_119_method_1_code 21 = .ok (.return_, 1) := by decide +kernel
theorem pn_java_util_Collections_UnmodifiableCollection : plainName "java/util/Collections$UnmodifiableCollection" = true := by first | (simp [plainName, overriddenIn]; done) | decide +kernel
theorem ef_rm14 (m : MethodId) (x0 : Addr) (x1 : Addr) : entryFrame m #[(.ref x0), (.ref x1)] 2 = mkF m 0 #[.val (.ref x0), .val (.ref x1)] [] := by first | (simp [entryFrame, mkF, argsToLocals, Value.category, maxLocals]; done) | rfl
def Q14 (Z : State) (a p1 : Addr) (h0 : Heap) (n0 : Nat) (v : Option Value) (h : Heap) (L : List Loc) : Prop := v = none ∧ Fr n0 L ∧ Keep h0 h [a] ∧ Exa Z h a "java/util/Collections$UnmodifiableRandomAccessList" ∧ Fld Z h a "java/util/Collections$UnmodifiableCollection" "c" "Ljava/util/Collection;" (.ref p1) ∧ Fld Z h a "java/util/Collections$UnmodifiableList" "list" "Ljava/util/List;" .null
set_option maxRecDepth 65536 in
set_option maxHeartbeats 40000000 in
theorem rm14 (l : Launch) (Z : State) (a0 : Array Value) (hw : ∀ d ∈ tables_1, d.before a0 Z = true) (ws : List Jvm.Cond) (a p1 : Addr) (h0 : Heap) (n0 : Nat) (Z0 : n0 ≤ h0.size) (EX : Exa Z h0 a "java/util/Collections$UnmodifiableRandomAccessList") (ge : n0 ≤ a) (F_c : Fld Z h0 a "java/util/Collections$UnmodifiableCollection" "c" "Ljava/util/Collection;" .null) (F_list : Fld Z h0 a "java/util/Collections$UnmodifiableList" "list" "Ljava/util/List;" .null) :
    MetFree l (⟨"java/util/Collections$UnmodifiableCollection", "<init>", "(Ljava/util/Collection;)V"⟩ : MethodName) (head1 (Jvm.Cond.code (⟨"java/util/Collections$UnmodifiableCollection", "<init>", "(Ljava/util/Collection;)V"⟩ : MethodName) jdk_119_method_1_code 2 none :: ws) ({ frames := 1, cells := 0, slots := 0, locals := 12 } : Room)) (fun ar U => ar = #[(.ref a), (.ref p1)] ∧ Z.Warmed39 U.vm ∧ U.heap = h0) (fun _ _ _ _ _ => True) (fun _ U o U' => ∃ v L, o = .returned v ∧ Q14 Z a p1 h0 n0 v U'.heap L ∧ FrameEnd U o U' L ({ frames := 1, cells := 0, slots := 0, locals := 12 } : Room).cells ({ frames := 1, cells := 0, slots := 0, locals := 12 } : Room).slots) := by
  refine MetFree.of_bodySF (plainFor_of_name pn_java_util_Collections_UnmodifiableCollection) hisR ?_
  intro p e s m args below meth c s₁ Bd hml0 hP hK
  obtain ⟨rfl, hZ, hh⟩ := hP
  have hx := Bd.exec
  have hby := Bd.bytes
  have hml : c.maxLocals = 2 := hml0
  have hown : s.vm.findClass "java/util/Collections$UnmodifiableCollection" = some m.cls := findClass_of_methodNamed Bd.named
  have hnm := (name_of_methodNamed Bd.named Bd.method).1
  have X0 : Stand p l e ({ frames := 1, cells := 0, slots := 0, locals := 12 } : Room) s m #[(.ref a), (.ref p1)] below meth c s₁ [] 0 0 := Stand.of_body Bd
  have e0 : s₁.heap = h0 := by rw [← hh, Bd.state]; rfl
  have N0 := Fr.nil n0
  obtain ⟨F, hF⟩ : ∃ F, F = own_Fin s (Q14 Z a p1 h0 n0) ({ frames := 1, cells := 0, slots := 0, locals := 12 } : Room).cells ({ frames := 1, cells := 0, slots := 0, locals := 12 } : Room).slots := ⟨_, rfl⟩
  show own_Ends p e below (own_Fin s (Q14 Z a p1 h0 n0) ({ frames := 1, cells := 0, slots := 0, locals := 12 } : Room).cells ({ frames := 1, cells := 0, slots := 0, locals := 12 } : Room).slots) _
  rw [← hF, ef_rm14 m a p1]
  show own_Ends p e below F (s₁.setTop (mkF m 0 #[.val (.ref a), .val (.ref p1)] []))
  refine own_step (fun _ k => XS.aloadN X0.here hx rfl (hb hby d14_0) rfl rfl k) ?_
  show own_Ends p e below F (s₁.setTop (mkF m 1 #[.val (.ref a), .val (.ref p1)] [(.ref a)]))
  obtain ⟨T1, X1, e1, st1⟩ := initO X0 hx hZ hown (own_g hw 108 rfl) (own_g hw 19 rfl) (own_g hw 20 rfl) e0 (g := (mkF m 1 #[.val (.ref a), .val (.ref p1)] [(.ref a)])) rfl (by rw [hml]; rfl) rfl (hb hby d14_1) (by decide) (W := 0) (by show 2 * 0 + _ ≤ _; exact Nat.le_of_eq rfl) (by decide)
  refine own_step st1 ?_
  show own_Ends p e below F (T1.setTop (mkF m 4 #[.val (.ref a), .val (.ref p1)] []))
  refine own_step (fun _ k => XS.aloadN X1.here hx rfl (hb hby d14_4) rfl rfl k) ?_
  show own_Ends p e below F (T1.setTop (mkF m 5 #[.val (.ref a), .val (.ref p1)] [(.ref p1)]))
  refine own_step (fun _ k => XS.ifnonnullYes X1.here hx rfl (pc0 := 5) (pc' := 16) rfl (hb hby d14_5) rfl (by decide) (by decide) k) ?_
  show own_Ends p e below F (T1.setTop (mkF m 16 #[.val (.ref a), .val (.ref p1)] []))
  refine own_step (fun _ k => XS.aloadN X1.here hx rfl (hb hby d14_16) rfl rfl k) ?_
  show own_Ends p e below F (T1.setTop (mkF m 17 #[.val (.ref a), .val (.ref p1)] [(.ref a)]))
  refine own_step (fun _ k => XS.aloadN X1.here hx rfl (hb hby d14_17) rfl rfl k) ?_
  show own_Ends p e below F (T1.setTop (mkF m 18 #[.val (.ref a), .val (.ref p1)] [(.ref p1), (.ref a)]))
  obtain ⟨T2, h2, X2, e2, W2, st2⟩ := putF X1 hx hZ hown (host := "") (Or.inl (own_g hw 109 rfl)) Via.refl e1 F_c EX (Or.inr ⟨(own_g hw 110 rfl), rfl, hnm⟩) (own_g hw 91 rfl) (ty := (.object "java/util/Collection")) (by decide) rfl rfl (g := (mkF m 18 #[.val (.ref a), .val (.ref p1)] [(.ref p1), (.ref a)])) rfl rfl (hb hby d14_18)
  refine own_step st2 ?_
  have F2 := Fld.same W2 F_c
  have N2 := Fr.snoc X2 N0 ge
  have Z2 : n0 ≤ h2.size := by rw [W2.size]; exact Z0
  have SZ2 : h0.size ≤ h2.size := by rw [W2.size]; exact (Nat.le_refl h0.size)
  show own_Ends p e below F (T2.setTop (mkF m 21 #[.val (.ref a), .val (.ref p1)] []))
  rw [hF]
  exact own_ret X2 (v := none) (fun _ => rfl) Bd.notSynchronized (fun fs hr => X2.returnOut hx Bd.returns (hb hby d14_21) hr) (by decide) (by decide) (by rw [e2]; exact ⟨rfl, N2, ((Keep.wr (Keep.refl _ _) W2 (Or.inl (List.mem_of_getElem? (i := 0) rfl))) : Keep h0 h2 [a]), (EX.wr W2), F2, (Fld.other W2 F_list (Or.inr (slot_ne (t := (.object "java/util/List")) (t' := (.object "java/util/Collection")) (Or.inr (own_g hw 112 rfl)) (Or.inr (own_g hw 110 rfl)) (by decide) (by decide) (by decide))))⟩)

theorem d13_0 : decode jdk_120_method_1_code 0 = .ok (.aload_n 0, 1) := by decide +kernel
theorem d13_1 : decode jdk_120_method_1_code 1 = .ok (.aload_n 1, 1) := by decide +kernel
theorem d13_2 : decode jdk_120_method_1_code 2 = .ok (.invokespecial 1, 3) := by decide +kernel
theorem d13_5 : decode jdk_120_method_1_code 5 = .ok (.aload_n 0, 1) := by decide +kernel
theorem d13_6 : decode jdk_120_method_1_code 6 = .ok (.aload_n 1, 1) := by decide +kernel
theorem d13_7 : decode jdk_120_method_1_code 7 = .ok (.putfield 7, 3) := by decide +kernel
theorem d13_10 : decode jdk_120_method_1_code 10 = .ok (.return_, 1) := by decide +kernel
theorem pn_java_util_Collections_UnmodifiableList : plainName "java/util/Collections$UnmodifiableList" = true := by first | (simp [plainName, overriddenIn]; done) | decide +kernel
theorem pd__28Ljava_2futil_2fCollection_3b_29V : parseMethodDescriptor "(Ljava/util/Collection;)V" = some ⟨[(.object "java/util/Collection")], none⟩ := by decide +kernel
theorem ef_rm13 (m : MethodId) (x0 : Addr) (x1 : Addr) : entryFrame m #[(.ref x0), (.ref x1)] 2 = mkF m 0 #[.val (.ref x0), .val (.ref x1)] [] := by first | (simp [entryFrame, mkF, argsToLocals, Value.category, maxLocals]; done) | rfl
def Q13 (Z : State) (a p1 : Addr) (h0 : Heap) (n0 : Nat) (v : Option Value) (h : Heap) (L : List Loc) : Prop := v = none ∧ Fr n0 L ∧ Keep h0 h [a] ∧ Exa Z h a "java/util/Collections$UnmodifiableRandomAccessList" ∧ Fld Z h a "java/util/Collections$UnmodifiableCollection" "c" "Ljava/util/Collection;" (.ref p1) ∧ Fld Z h a "java/util/Collections$UnmodifiableList" "list" "Ljava/util/List;" (.ref p1)
set_option maxRecDepth 65536 in
set_option maxHeartbeats 40000000 in
theorem rm13 (l : Launch) (Z : State) (a0 : Array Value) (hw : ∀ d ∈ tables_1, d.before a0 Z = true) (ws : List Jvm.Cond) (a p1 : Addr) (h0 : Heap) (n0 : Nat) (Z0 : n0 ≤ h0.size) (EX : Exa Z h0 a "java/util/Collections$UnmodifiableRandomAccessList") (ge : n0 ≤ a) (F_c : Fld Z h0 a "java/util/Collections$UnmodifiableCollection" "c" "Ljava/util/Collection;" .null) (F_list : Fld Z h0 a "java/util/Collections$UnmodifiableList" "list" "Ljava/util/List;" .null) :
    MetFree l (⟨"java/util/Collections$UnmodifiableList", "<init>", "(Ljava/util/List;)V"⟩ : MethodName) (head1 (Jvm.Cond.code (⟨"java/util/Collections$UnmodifiableList", "<init>", "(Ljava/util/List;)V"⟩ : MethodName) jdk_120_method_1_code 2 none :: ws) ({ frames := 2, cells := 0, slots := 0, locals := 25 } : Room)) (fun ar U => ar = #[(.ref a), (.ref p1)] ∧ Z.Warmed39 U.vm ∧ U.heap = h0) (fun _ _ _ _ _ => True) (fun _ U o U' => ∃ v L, o = .returned v ∧ Q13 Z a p1 h0 n0 v U'.heap L ∧ FrameEnd U o U' L ({ frames := 2, cells := 0, slots := 0, locals := 25 } : Room).cells ({ frames := 2, cells := 0, slots := 0, locals := 25 } : Room).slots) := by
  refine MetFree.of_bodySF (plainFor_of_name pn_java_util_Collections_UnmodifiableList) hisR ?_
  intro p e s m args below meth c s₁ Bd hml0 hP hK
  obtain ⟨rfl, hZ, hh⟩ := hP
  have hx := Bd.exec
  have hby := Bd.bytes
  have hml : c.maxLocals = 2 := hml0
  have hown : s.vm.findClass "java/util/Collections$UnmodifiableList" = some m.cls := findClass_of_methodNamed Bd.named
  have hnm := (name_of_methodNamed Bd.named Bd.method).1
  have X0 : Stand p l e ({ frames := 2, cells := 0, slots := 0, locals := 25 } : Room) s m #[(.ref a), (.ref p1)] below meth c s₁ [] 0 0 := Stand.of_body Bd
  have e0 : s₁.heap = h0 := by rw [← hh, Bd.state]; rfl
  have N0 := Fr.nil n0
  obtain ⟨F, hF⟩ : ∃ F, F = own_Fin s (Q13 Z a p1 h0 n0) ({ frames := 2, cells := 0, slots := 0, locals := 25 } : Room).cells ({ frames := 2, cells := 0, slots := 0, locals := 25 } : Room).slots := ⟨_, rfl⟩
  show own_Ends p e below (own_Fin s (Q13 Z a p1 h0 n0) ({ frames := 2, cells := 0, slots := 0, locals := 25 } : Room).cells ({ frames := 2, cells := 0, slots := 0, locals := 25 } : Room).slots) _
  rw [← hF, ef_rm13 m a p1]
  show own_Ends p e below F (s₁.setTop (mkF m 0 #[.val (.ref a), .val (.ref p1)] []))
  refine own_step (fun _ k => XS.aloadN X0.here hx rfl (hb hby d13_0) rfl rfl k) ?_
  show own_Ends p e below F (s₁.setTop (mkF m 1 #[.val (.ref a), .val (.ref p1)] [(.ref a)]))
  refine own_step (fun _ k => XS.aloadN X0.here hx rfl (hb hby d13_1) rfl rfl k) ?_
  show own_Ends p e below F (s₁.setTop (mkF m 2 #[.val (.ref a), .val (.ref p1)] [(.ref p1), (.ref a)]))
  obtain ⟨_, _, ⟨T1, L1, k1, n1⟩, -, X1, ⟨Lc1, hQ1, l1, y1, z1⟩, st1⟩ := X0.specialBack hx (y := (⟨"java/util/Collections$UnmodifiableCollection", "<init>", "(Ljava/util/Collection;)V"⟩ : MethodName)) rfl hown (mvT hZ (own_g hw 102 rfl)) (mvT hZ (own_g hw 103 rfl)) (mvT hZ (own_g hw 107 rfl)) (by decide) (backOf (W := 0) (rm14 l Z a0 hw [] a p1 h0 n0 Z0 EX ge F_c F_list) hZ (own_g hw 107 rfl) (own_g hw 106 rfl) (by decide) (by decide)) (g := (mkF m 2 #[.val (.ref a), .val (.ref p1)] [(.ref p1), (.ref a)])) rfl (by rw [hml]; rfl) (Steps.refl _) (a := a) (argsL := [(.ref p1)]) (rest := []) (lenOf pd__28Ljava_2futil_2fCollection_3b_29V rfl) rfl (by show 2 * 0 + _ ≤ _; exact Nat.le_of_eq rfl) (hb hby d13_2) (fun _ _ => ⟨rfl, e0, (by decide : 0 + 0 ≤ _), (by decide : 0 + 0 ≤ _)⟩)
  dsimp only [Pt.U, Pt.locs, Pt.cells, Pt.slots] at X1 l1 y1 z1 st1 hQ1
  subst l1 y1 z1
  obtain ⟨rfl, Nq1, Kq1, fq0_1, fq1_1, fq2_1⟩ := hQ1
  have N1 := Fr.app N0 Nq1
  have Z1 : n0 ≤ T1.heap.size := Nat.le_trans Z0 Kq1.1
  have SZ1 : h0.size ≤ T1.heap.size := Nat.le_trans (Nat.le_refl h0.size) Kq1.1
  refine own_trans st1 ?_
  show own_Ends p e below F (T1.setTop (mkF m 5 #[.val (.ref a), .val (.ref p1)] []))
  refine own_step (fun _ k => XS.aloadN X1.here hx rfl (hb hby d13_5) rfl rfl k) ?_
  show own_Ends p e below F (T1.setTop (mkF m 6 #[.val (.ref a), .val (.ref p1)] [(.ref a)]))
  refine own_step (fun _ k => XS.aloadN X1.here hx rfl (hb hby d13_6) rfl rfl k) ?_
  show own_Ends p e below F (T1.setTop (mkF m 7 #[.val (.ref a), .val (.ref p1)] [(.ref p1), (.ref a)]))
  obtain ⟨T2, h2, X2, e2, W2, st2⟩ := putF X1 hx hZ hown (host := "") (Or.inl (own_g hw 111 rfl)) Via.refl rfl fq2_1 fq0_1 (Or.inr ⟨(own_g hw 112 rfl), rfl, hnm⟩) (own_g hw 91 rfl) (ty := (.object "java/util/List")) (by decide) rfl rfl (g := (mkF m 7 #[.val (.ref a), .val (.ref p1)] [(.ref p1), (.ref a)])) rfl rfl (hb hby d13_7)
  refine own_step st2 ?_
  have F2 := Fld.same W2 fq2_1
  have N2 := Fr.snoc X2 N1 ge
  have Z2 : n0 ≤ h2.size := by rw [W2.size]; exact Z1
  have SZ2 : h0.size ≤ h2.size := by rw [W2.size]; exact SZ1
  show own_Ends p e below F (T2.setTop (mkF m 10 #[.val (.ref a), .val (.ref p1)] []))
  rw [hF]
  exact own_ret X2 (v := none) (fun _ => rfl) Bd.notSynchronized (fun fs hr => X2.returnOut hx Bd.returns (hb hby d13_10) hr) (by decide) (by decide) (by rw [e2]; exact ⟨rfl, N2, ((Keep.wr (Keep.trans (Keep.refl _ _) Kq1 (allS (Or.inl (List.mem_of_getElem? (i := 0) rfl)) all0)) W2 (Or.inl (List.mem_of_getElem? (i := 0) rfl))) : Keep h0 h2 [a]), (fq0_1.wr W2), (Fld.other W2 fq1_1 (Or.inr (slot_ne (t := (.object "java/util/Collection")) (t' := (.object "java/util/List")) (Or.inr (own_g hw 110 rfl)) (Or.inr (own_g hw 112 rfl)) (by decide) (by decide) (by decide)))), F2⟩)

theorem d12_0 : decode jdk_121_method_1_code 0 = .ok (.aload_n 0, 1) := by decide +kernel
theorem d12_1 : decode jdk_121_method_1_code 1 = .ok (.aload_n 1, 1) := by decide +kernel
theorem d12_2 : decode jdk_121_method_1_code 2 = .ok (.invokespecial 1, 3) := by decide +kernel
theorem d12_5 : decode jdk_121_method_1_code 5 = .ok (.return_, 1) := by decide +kernel
theorem pn_java_util_Collections_UnmodifiableRandomAccessList : plainName "java/util/Collections$UnmodifiableRandomAccessList" = true := by first | (simp [plainName, overriddenIn]; done) | decide +kernel
theorem pd__28Ljava_2futil_2fList_3b_29V : parseMethodDescriptor "(Ljava/util/List;)V" = some ⟨[(.object "java/util/List")], none⟩ := by decide +kernel
theorem ef_rm12 (m : MethodId) (x0 : Addr) (x1 : Addr) : entryFrame m #[(.ref x0), (.ref x1)] 2 = mkF m 0 #[.val (.ref x0), .val (.ref x1)] [] := by first | (simp [entryFrame, mkF, argsToLocals, Value.category, maxLocals]; done) | rfl
def Q12 (Z : State) (a p1 : Addr) (h0 : Heap) (n0 : Nat) (v : Option Value) (h : Heap) (L : List Loc) : Prop := v = none ∧ Fr n0 L ∧ Keep h0 h [a] ∧ Exa Z h a "java/util/Collections$UnmodifiableRandomAccessList" ∧ Fld Z h a "java/util/Collections$UnmodifiableCollection" "c" "Ljava/util/Collection;" (.ref p1) ∧ Fld Z h a "java/util/Collections$UnmodifiableList" "list" "Ljava/util/List;" (.ref p1)
set_option maxRecDepth 65536 in
set_option maxHeartbeats 40000000 in
theorem rm12 (l : Launch) (Z : State) (a0 : Array Value) (hw : ∀ d ∈ tables_1, d.before a0 Z = true) (ws : List Jvm.Cond) (a p1 : Addr) (h0 : Heap) (n0 : Nat) (Z0 : n0 ≤ h0.size) (EX : Exa Z h0 a "java/util/Collections$UnmodifiableRandomAccessList") (ge : n0 ≤ a) (F_c : Fld Z h0 a "java/util/Collections$UnmodifiableCollection" "c" "Ljava/util/Collection;" .null) (F_list : Fld Z h0 a "java/util/Collections$UnmodifiableList" "list" "Ljava/util/List;" .null) :
    MetFree l (⟨"java/util/Collections$UnmodifiableRandomAccessList", "<init>", "(Ljava/util/List;)V"⟩ : MethodName) (head1 (Jvm.Cond.code (⟨"java/util/Collections$UnmodifiableRandomAccessList", "<init>", "(Ljava/util/List;)V"⟩ : MethodName) jdk_121_method_1_code 2 none :: ws) ({ frames := 3, cells := 0, slots := 0, locals := 38 } : Room)) (fun ar U => ar = #[(.ref a), (.ref p1)] ∧ Z.Warmed39 U.vm ∧ U.heap = h0) (fun _ _ _ _ _ => True) (fun _ U o U' => ∃ v L, o = .returned v ∧ Q12 Z a p1 h0 n0 v U'.heap L ∧ FrameEnd U o U' L ({ frames := 3, cells := 0, slots := 0, locals := 38 } : Room).cells ({ frames := 3, cells := 0, slots := 0, locals := 38 } : Room).slots) := by
  refine MetFree.of_bodySF (plainFor_of_name pn_java_util_Collections_UnmodifiableRandomAccessList) hisR ?_
  intro p e s m args below meth c s₁ Bd hml0 hP hK
  obtain ⟨rfl, hZ, hh⟩ := hP
  have hx := Bd.exec
  have hby := Bd.bytes
  have hml : c.maxLocals = 2 := hml0
  have hown : s.vm.findClass "java/util/Collections$UnmodifiableRandomAccessList" = some m.cls := findClass_of_methodNamed Bd.named
  have hnm := (name_of_methodNamed Bd.named Bd.method).1
  have X0 : Stand p l e ({ frames := 3, cells := 0, slots := 0, locals := 38 } : Room) s m #[(.ref a), (.ref p1)] below meth c s₁ [] 0 0 := Stand.of_body Bd
  have e0 : s₁.heap = h0 := by rw [← hh, Bd.state]; rfl
  have N0 := Fr.nil n0
  obtain ⟨F, hF⟩ : ∃ F, F = own_Fin s (Q12 Z a p1 h0 n0) ({ frames := 3, cells := 0, slots := 0, locals := 38 } : Room).cells ({ frames := 3, cells := 0, slots := 0, locals := 38 } : Room).slots := ⟨_, rfl⟩
  show own_Ends p e below (own_Fin s (Q12 Z a p1 h0 n0) ({ frames := 3, cells := 0, slots := 0, locals := 38 } : Room).cells ({ frames := 3, cells := 0, slots := 0, locals := 38 } : Room).slots) _
  rw [← hF, ef_rm12 m a p1]
  show own_Ends p e below F (s₁.setTop (mkF m 0 #[.val (.ref a), .val (.ref p1)] []))
  refine own_step (fun _ k => XS.aloadN X0.here hx rfl (hb hby d12_0) rfl rfl k) ?_
  show own_Ends p e below F (s₁.setTop (mkF m 1 #[.val (.ref a), .val (.ref p1)] [(.ref a)]))
  refine own_step (fun _ k => XS.aloadN X0.here hx rfl (hb hby d12_1) rfl rfl k) ?_
  show own_Ends p e below F (s₁.setTop (mkF m 2 #[.val (.ref a), .val (.ref p1)] [(.ref p1), (.ref a)]))
  obtain ⟨_, _, ⟨T1, L1, k1, n1⟩, -, X1, ⟨Lc1, hQ1, l1, y1, z1⟩, st1⟩ := X0.specialBack hx (y := (⟨"java/util/Collections$UnmodifiableList", "<init>", "(Ljava/util/List;)V"⟩ : MethodName)) rfl hown (mvT hZ (own_g hw 96 rfl)) (mvT hZ (own_g hw 97 rfl)) (mvT hZ (own_g hw 101 rfl)) (by decide) (backOf (W := 0) (rm13 l Z a0 hw [] a p1 h0 n0 Z0 EX ge F_c F_list) hZ (own_g hw 101 rfl) (own_g hw 100 rfl) (by decide) (by decide)) (g := (mkF m 2 #[.val (.ref a), .val (.ref p1)] [(.ref p1), (.ref a)])) rfl (by rw [hml]; rfl) (Steps.refl _) (a := a) (argsL := [(.ref p1)]) (rest := []) (lenOf pd__28Ljava_2futil_2fList_3b_29V rfl) rfl (by show 2 * 0 + _ ≤ _; exact Nat.le_of_eq rfl) (hb hby d12_2) (fun _ _ => ⟨rfl, e0, (by decide : 0 + 0 ≤ _), (by decide : 0 + 0 ≤ _)⟩)
  dsimp only [Pt.U, Pt.locs, Pt.cells, Pt.slots] at X1 l1 y1 z1 st1 hQ1
  subst l1 y1 z1
  obtain ⟨rfl, Nq1, Kq1, fq0_1, fq1_1, fq2_1⟩ := hQ1
  have N1 := Fr.app N0 Nq1
  have Z1 : n0 ≤ T1.heap.size := Nat.le_trans Z0 Kq1.1
  have SZ1 : h0.size ≤ T1.heap.size := Nat.le_trans (Nat.le_refl h0.size) Kq1.1
  refine own_trans st1 ?_
  show own_Ends p e below F (T1.setTop (mkF m 5 #[.val (.ref a), .val (.ref p1)] []))
  rw [hF]
  exact own_ret X1 (v := none) (fun _ => rfl) Bd.notSynchronized (fun fs hr => X1.returnOut hx Bd.returns (hb hby d12_5) hr) (by decide) (by decide) (by exact ⟨rfl, N1, ((Keep.trans (Keep.refl _ _) Kq1 (allS (Or.inl (List.mem_of_getElem? (i := 0) rfl)) all0)) : Keep h0 T1.heap [a]), fq0_1, fq1_1, fq2_1⟩)

theorem d11_0 : decode jdk_79_method_35_code 0 = .ok (.aload_n 0, 1) := by decide +kernel
theorem d11_1 : decode jdk_79_method_35_code 1 = .ok (.invokeinterface 211 1, 5) := by decide +kernel
theorem d11_6 : decode jdk_79_method_35_code 6 = .ok (.ldc 212, 2) := by decide +kernel
theorem d11_8 : decode jdk_79_method_35_code 8 = .ok (.if_acmp .eq 14, 3) := by decide +kernel
theorem d11_11 : decode jdk_79_method_35_code 11 = .ok (.aload_n 0, 1) := by decide +kernel
theorem d11_12 : decode jdk_79_method_35_code 12 = .ok (.invokeinterface 214 1, 5) := by decide +kernel
theorem d11_17 : decode jdk_79_method_35_code 17 = .ok (.ldc 215, 2) := by decide +kernel
theorem d11_19 : decode jdk_79_method_35_code 19 = .ok (.if_acmp .ne 5, 3) := by decide +kernel
theorem d11_24 : decode jdk_79_method_35_code 24 = .ok (.aload_n 0, 1) := by decide +kernel
theorem d11_25 : decode jdk_79_method_35_code 25 = .ok (.instanceof 13, 3) := by decide +kernel
theorem d11_28 : decode jdk_79_method_35_code 28 = .ok (.ifCond .eq 14, 3) := by decide +kernel
theorem d11_31 : decode jdk_79_method_35_code 31 = .ok (.new 215, 3) := by decide +kernel
theorem d11_34 : decode jdk_79_method_35_code 34 = .ok (.dup, 1) := by decide +kernel
theorem d11_35 : decode jdk_79_method_35_code 35 = .ok (.aload_n 0, 1) := by decide +kernel
theorem d11_36 : decode jdk_79_method_35_code 36 = .ok (.invokespecial 217, 3) := by decide +kernel
theorem d11_39 : decode jdk_79_method_35_code 39 = .ok (.goto 11, 3) := by decide +kernel
theorem d11_50 : decode jdk_79_method_35_code 50 = .ok (.areturn, 1) := by decide +kernel
theorem pn_java_util_Collections : plainName "java/util/Collections" = true := by first | (simp [plainName, overriddenIn]; done) | decide +kernel
theorem ef_rm11 (m : MethodId) (x0 : Addr) : entryFrame m #[(.ref x0)] 1 = mkF m 0 #[.val (.ref x0)] [] := by first | (simp [entryFrame, mkF, argsToLocals, Value.category, maxLocals]; done) | rfl
def Q11 (Z : State) (b ma mu mv : Addr) (h0 : Heap) (n0 : Nat) (v : Option Value) (h : Heap) (L : List Loc) : Prop := ∃ c, v = some (.ref c) ∧ Fr n0 L ∧ Keep h0 h []
set_option maxRecDepth 65536 in
set_option maxHeartbeats 40000000 in
theorem rm11 (l : Launch) (Z : State) (a0 : Array Value) (hw : ∀ d ∈ tables_1, d.before a0 Z = true) (ws : List Jvm.Cond) (b ma mu mv : Addr) (h0 : Heap) (n0 : Nat) (Z0 : n0 ≤ h0.size) (EB : Exa Z h0 b "java/util/ArrayList") (M_ma : Mir Z "java/util/ArrayList" ma) (M_mu : Mir Z "java/util/Collections$UnmodifiableList" mu) (M_mv : Mir Z "java/util/Collections$UnmodifiableRandomAccessList" mv) :
    MetFree l (⟨"java/util/Collections", "unmodifiableList", "(Ljava/util/List;)Ljava/util/List;"⟩ : MethodName) (head1 (Jvm.Cond.code (⟨"java/util/Collections", "unmodifiableList", "(Ljava/util/List;)Ljava/util/List;"⟩ : MethodName) jdk_79_method_35_code 1 (some (.object "java/util/List")) :: ws) ({ frames := 4, cells := 1, slots := 2, locals := 52 } : Room)) (fun ar U => ar = #[(.ref b)] ∧ Z.Warmed39 U.vm ∧ U.heap = h0) (fun _ _ _ _ _ => True) (fun _ U o U' => ∃ v L, o = .returned v ∧ Q11 Z b ma mu mv h0 n0 v U'.heap L ∧ FrameEnd U o U' L ({ frames := 4, cells := 1, slots := 2, locals := 52 } : Room).cells ({ frames := 4, cells := 1, slots := 2, locals := 52 } : Room).slots) := by
  refine MetFree.of_bodySF (plainFor_of_name pn_java_util_Collections) hisR ?_
  intro p e s m args below meth c s₁ Bd hml0 hP hK
  obtain ⟨rfl, hZ, hh⟩ := hP
  have hx := Bd.exec
  have hby := Bd.bytes
  have hml : c.maxLocals = 1 := hml0
  have hown : s.vm.findClass "java/util/Collections" = some m.cls := findClass_of_methodNamed Bd.named
  have hnm := (name_of_methodNamed Bd.named Bd.method).1
  have X0 : Stand p l e ({ frames := 4, cells := 1, slots := 2, locals := 52 } : Room) s m #[(.ref b)] below meth c s₁ [] 0 0 := Stand.of_body Bd
  have e0 : s₁.heap = h0 := by rw [← hh, Bd.state]; rfl
  have N0 := Fr.nil n0
  obtain ⟨F, hF⟩ : ∃ F, F = own_Fin s (Q11 Z b ma mu mv h0 n0) ({ frames := 4, cells := 1, slots := 2, locals := 52 } : Room).cells ({ frames := 4, cells := 1, slots := 2, locals := 52 } : Room).slots := ⟨_, rfl⟩
  show own_Ends p e below (own_Fin s (Q11 Z b ma mu mv h0 n0) ({ frames := 4, cells := 1, slots := 2, locals := 52 } : Room).cells ({ frames := 4, cells := 1, slots := 2, locals := 52 } : Room).slots) _
  rw [← hF, ef_rm11 m b]
  show own_Ends p e below F (s₁.setTop (mkF m 0 #[.val (.ref b)] []))
  refine own_step (fun _ k => XS.aloadN X0.here hx rfl (hb hby d11_0) rfl rfl k) ?_
  show own_Ends p e below F (s₁.setTop (mkF m 1 #[.val (.ref b)] [(.ref b)]))
  obtain ⟨T1, X1, e1, st1⟩ := own_gcI X0 hx hZ (xi := (⟨"java/util/List", "getClass", "()Ljava/lang/Class;"⟩ : MethodName)) hown (own_g hw 77 rfl) (own_g hw 53 rfl) (own_g hw 78 rfl) (own_g hw 79 rfl) (own_g hw 54 rfl) (own_g hw 80 rfl) (own_g hw 81 rfl) (own_g hw 82 rfl) (own_g hw 56 rfl) (by decide) (by decide) rfl rfl e0 EB M_ma (g := (mkF m 1 #[.val (.ref b)] [(.ref b)])) rfl (by rw [hml]; rfl) (rest := []) rfl (hb hby d11_1) (by decide) (W := 0) (by show 2 * 0 + _ ≤ _; exact Nat.le_of_eq rfl) (by decide)
  refine own_step st1 ?_
  show own_Ends p e below F (T1.setTop (mkF m 6 #[.val (.ref b)] [(.ref ma)]))
  obtain ⟨T2, X2, e2, st2⟩ := own_ldcM X1 hx hZ hown (own_g hw 84 rfl) e1 M_mu (g := (mkF m 6 #[.val (.ref b)] [(.ref ma)])) rfl (hb hby d11_6)
  refine own_step st2 ?_
  show own_Ends p e below F (T2.setTop (mkF m 8 #[.val (.ref b)] [(.ref mu), (.ref ma)]))
  refine own_step (fun _ k => Jvm.RoadKit.acmp (below := below) (g := (mkF m 8 #[.val (.ref b)] [(.ref mu), (.ref ma)])) X2 hx rfl rfl rfl (pc0 := 8) (pc' := 11) (same := false) rfl (hb hby d11_8) rfl (decide_eq_false fun q => Mir.ne M_ma M_mu (by decide) (Value.ref.inj q)) (by decide) (by decide) k) ?_
  show own_Ends p e below F (T2.setTop (mkF m 11 #[.val (.ref b)] []))
  refine own_step (fun _ k => XS.aloadN X2.here hx rfl (hb hby d11_11) rfl rfl k) ?_
  show own_Ends p e below F (T2.setTop (mkF m 12 #[.val (.ref b)] [(.ref b)]))
  obtain ⟨T3, X3, e3, st3⟩ := own_gcI X2 hx hZ (xi := (⟨"java/util/List", "getClass", "()Ljava/lang/Class;"⟩ : MethodName)) hown (own_g hw 86 rfl) (own_g hw 53 rfl) (own_g hw 78 rfl) (own_g hw 79 rfl) (own_g hw 54 rfl) (own_g hw 80 rfl) (own_g hw 81 rfl) (own_g hw 82 rfl) (own_g hw 56 rfl) (by decide) (by decide) rfl rfl e2 EB M_ma (g := (mkF m 12 #[.val (.ref b)] [(.ref b)])) rfl (by rw [hml]; rfl) (rest := []) rfl (hb hby d11_12) (by decide) (W := 0) (by show 2 * 0 + _ ≤ _; exact Nat.le_of_eq rfl) (by decide)
  refine own_step st3 ?_
  show own_Ends p e below F (T3.setTop (mkF m 17 #[.val (.ref b)] [(.ref ma)]))
  obtain ⟨T4, X4, e4, st4⟩ := own_ldcM X3 hx hZ hown (own_g hw 87 rfl) e3 M_mv (g := (mkF m 17 #[.val (.ref b)] [(.ref ma)])) rfl (hb hby d11_17)
  refine own_step st4 ?_
  show own_Ends p e below F (T4.setTop (mkF m 19 #[.val (.ref b)] [(.ref mv), (.ref ma)]))
  refine own_step (fun _ k => Jvm.RoadKit.acmp (below := below) (g := (mkF m 19 #[.val (.ref b)] [(.ref mv), (.ref ma)])) X4 hx rfl rfl rfl (pc0 := 19) (pc' := 24) (same := false) rfl (hb hby d11_19) rfl (decide_eq_false fun q => Mir.ne M_ma M_mv (by decide) (Value.ref.inj q)) (by decide) (by decide) k) ?_
  show own_Ends p e below F (T4.setTop (mkF m 24 #[.val (.ref b)] []))
  refine own_step (fun _ k => XS.aloadN X4.here hx rfl (hb hby d11_24) rfl rfl k) ?_
  show own_Ends p e below F (T4.setTop (mkF m 25 #[.val (.ref b)] [(.ref b)]))
  obtain ⟨T5, X5, e5, st5⟩ := instY X4 hx hZ hown (own_g hw 89 rfl) e4 (Ins.of_exa EB (own_g hw 90 rfl)) (g := (mkF m 25 #[.val (.ref b)] [(.ref b)])) rfl rfl (hb hby d11_25)
  refine own_step st5 ?_
  show own_Ends p e below F (T5.setTop (mkF m 28 #[.val (.ref b)] [(.int (1 : Int32))]))
  refine own_step (fun _ k => XS.ifNo X5.here hx rfl (hb hby d11_28) rfl ((if0 _ _).trans (feq (by decide : ¬ ((1 : Int32) = (0 : Int32)))).1) k) ?_
  show own_Ends p e below F (T5.setTop (mkF m 31 #[.val (.ref b)] []))
  obtain ⟨T6, h6, X6, e6, E6, A6, D6, -, st6⟩ := newO X5 hx hZ hown (own_g hw 87 rfl) (own_g hw 91 rfl) (own_g hw 92 rfl) e5 (g := (mkF m 31 #[.val (.ref b)] [])) rfl (hb hby d11_31) (by decide) (by decide)
  obtain ⟨a6, g6⟩ : ∃ z, z = h0.size := ⟨_, rfl⟩
  rw [← g6] at A6 D6 st6
  have ge_a6 : n0 ≤ a6 := Nat.le_trans Z0 (Nat.le_of_eq g6.symm)
  have sz_a6 : h0.size ≤ a6 := Nat.le_trans (Nat.le_refl h0.size) (Nat.le_of_eq g6.symm)
  have ne_b_a6 : b ≠ a6 := Nat.ne_of_lt (by rw [g6]; exact EB.lt)
  have Z6 : n0 ≤ h6.size := Nat.le_trans Z0 E6.1
  have SZ6 : h0.size ≤ h6.size := Nat.le_trans (Nat.le_refl h0.size) E6.1
  have F6_c : Fld Z h6 a6 "java/util/Collections$UnmodifiableCollection" "c" "Ljava/util/Collection;" .null := D6 (Or.inr (own_g hw 110 rfl)) (ty := (.object "java/util/Collection")) (by decide)
  have F6_list : Fld Z h6 a6 "java/util/Collections$UnmodifiableList" "list" "Ljava/util/List;" .null := D6 (Or.inr (own_g hw 112 rfl)) (ty := (.object "java/util/List")) (by decide)
  refine own_step st6 ?_
  show own_Ends p e below F (T6.setTop (mkF m 34 #[.val (.ref b)] [(.ref a6)]))
  refine own_step (fun _ k => XS.dup X6.here hx rfl (hb hby d11_34) rfl rfl k) ?_
  show own_Ends p e below F (T6.setTop (mkF m 35 #[.val (.ref b)] [(.ref a6), (.ref a6)]))
  refine own_step (fun _ k => XS.aloadN X6.here hx rfl (hb hby d11_35) rfl rfl k) ?_
  show own_Ends p e below F (T6.setTop (mkF m 36 #[.val (.ref b)] [(.ref b), (.ref a6), (.ref a6)]))
  obtain ⟨_, _, ⟨T7, L7, k7, n7⟩, -, X7, ⟨Lc7, hQ7, l7, y7, z7⟩, st7⟩ := X6.specialBack hx (y := (⟨"java/util/Collections$UnmodifiableRandomAccessList", "<init>", "(Ljava/util/List;)V"⟩ : MethodName)) rfl hown (mvT hZ (own_g hw 93 rfl)) (mvT hZ (own_g hw 94 rfl)) (mvT hZ (own_g hw 95 rfl)) (by decide) (backOf (W := 1) (rm12 l Z a0 hw [] a6 b h6 n0 Z6 A6 ge_a6 F6_c F6_list) hZ (own_g hw 95 rfl) (own_g hw 92 rfl) (by decide) (by decide)) (g := (mkF m 36 #[.val (.ref b)] [(.ref b), (.ref a6), (.ref a6)])) rfl (by rw [hml]; rfl) (Steps.refl _) (a := a6) (argsL := [(.ref b)]) (rest := [(.ref a6)]) (lenOf pd__28Ljava_2futil_2fList_3b_29V rfl) rfl (by show 2 * 0 + _ ≤ _; exact Nat.le_of_eq rfl) (hb hby d11_36) (fun _ _ => ⟨rfl, e6, (by decide : 1 + 0 ≤ _), (by decide : 2 + 0 ≤ _)⟩)
  dsimp only [Pt.U, Pt.locs, Pt.cells, Pt.slots] at X7 l7 y7 z7 st7 hQ7
  subst l7 y7 z7
  obtain ⟨rfl, Nq7, Kq7, fq0_7, fq1_7, fq2_7⟩ := hQ7
  have N7 := Fr.app N0 Nq7
  have Z7 : n0 ≤ T7.heap.size := Nat.le_trans Z6 Kq7.1
  have SZ7 : h0.size ≤ T7.heap.size := Nat.le_trans SZ6 Kq7.1
  refine own_trans st7 ?_
  show own_Ends p e below F (T7.setTop (mkF m 39 #[.val (.ref b)] [(.ref a6)]))
  refine own_step (fun _ k => XS.goto X7.here hx rfl (pc0 := 39) (pc' := 50) rfl (hb hby d11_39) (by decide) (by decide) k) ?_
  show own_Ends p e below F (T7.setTop (mkF m 50 #[.val (.ref b)] [(.ref a6)]))
  rw [hF]
  exact own_ret X7 (v := (some (.ref a6))) (fun h => by rw [Bd.returns] at h; cases h) Bd.notSynchronized (fun fs hr => retOut X7 hx (t := (.object "java/util/List")) (w := (.ref a6)) (i := .areturn) Bd.returns rfl (Or.inr (Or.inr (Or.inr (Or.inr ⟨rfl, rfl, rfl⟩)))) (hb hby d11_50) hr) (by decide) (by decide) (by exact ⟨_, rfl, N7, ((Keep.trans (Keep.ext (Keep.refl _ _) E6) Kq7 (allS (Or.inr sz_a6) all0)) : Keep h0 T7.heap [])⟩)

theorem d5_0 : decode prog_39_method_1_code 0 = .ok (.aload_n 0, 1) := by decide +kernel
theorem d5_1 : decode prog_39_method_1_code 1 = .ok (.invokespecial 1, 3) := by decide +kernel
theorem d5_4 : decode prog_39_method_1_code 4 = .ok (.aload_n 0, 1) := by decide +kernel
theorem d5_5 : decode prog_39_method_1_code 5 = .ok (.new 7, 3) := by decide +kernel
theorem d5_8 : decode prog_39_method_1_code 8 = .ok (.dup, 1) := by decide +kernel
theorem d5_9 : decode prog_39_method_1_code 9 = .ok (.aload_n 1, 1) := by decide +kernel
theorem d5_10 : decode prog_39_method_1_code 10 = .ok (.invokespecial 9, 3) := by decide +kernel
theorem d5_13 : decode prog_39_method_1_code 13 = .ok (.invokestatic 12, 3) := by decide +kernel
theorem d5_16 : decode prog_39_method_1_code 16 = .ok (.putfield 18, 3) := by decide +kernel
theorem d5_19 : decode prog_39_method_1_code 19 = .ok (.aload_n 0, 1) := by decide +kernel
theorem d5_20 : decode prog_39_method_1_code 20 = .ok (.aload_n 2, 1) := by decide +kernel
theorem d5_21 : decode prog_39_method_1_code 21 = .ok (.putfield 24, 3) := by decide +kernel
theorem d5_24 : decode prog_39_method_1_code 24 = .ok (.aload_n 0, 1) := by decide +kernel
theorem d5_25 : decode prog_39_method_1_code 25 = .ok (.aload_n 3, 1) := by decide +kernel
theorem d5_26 : decode prog_39_method_1_code 26 = .ok (.putfield 28, 3) := by decide +kernel
theorem d5_29 : decode prog_39_method_1_code 29 = .ok (.return_, 1) := by decide +kernel
theorem pn_com_example_greater_than_greaterthan_page_Page : plainName "com/example/greater_than/greaterthan/page/Page" = true := by first | (simp [plainName, overriddenIn]; done) | decide +kernel
theorem pd__28Ljava_2futil_2fList_3b_29Ljava_2futil_2fList_3b : parseMethodDescriptor "(Ljava/util/List;)Ljava/util/List;" = some ⟨[(.object "java/util/List")], some (.object "java/util/List")⟩ := by decide +kernel
theorem ef_rm5_0 (m : MethodId) (x0 : Addr) (x1 : Addr) (x2 : Value) (x3 : Value) (c2 : Value.category x2 = 1) (c3 : Value.category x3 = 1) : entryFrame m #[(.ref x0), (.ref x1), x2, x3] 4 = mkF m 0 #[.val (.ref x0), .val (.ref x1), .val x2, .val x3] [] := by exact own_efl m [_, _, _, _] 4 (by intro v hv; simp only [List.mem_cons, List.not_mem_nil, or_false] at hv; rcases hv with rfl | rfl | rfl | rfl <;> first | rfl | assumption) rfl
def Q5_0 (Z : State) (a bl b : Addr) (kb : ClassId) (u1 u2 : Value) (ee ma mu mv mo : Addr) (h0 : Heap) (n0 : Nat) (v : Option Value) (h : Heap) (L : List Loc) : Prop := v = none ∧ Fr n0 L ∧ Keep h0 h [a] ∧ Exa Z h a "com/example/greater_than/greaterthan/page/Page" ∧ Fld Z h a "com/example/greater_than/greaterthan/page/Page" "previousCursor" "Ljava/lang/String;" u1 ∧ Fld Z h a "com/example/greater_than/greaterthan/page/Page" "nextCursor" "Ljava/lang/String;" u2
set_option maxRecDepth 65536 in
set_option maxHeartbeats 40000000 in
theorem rm5_0 (l : Launch) (Z : State) (a0 : Array Value) (hw : ∀ d ∈ tables_1, d.before a0 Z = true) (ws : List Jvm.Cond) (a bl b : Addr) (kb : ClassId) (u1 u2 : Value) (ee ma mu mv mo : Addr) (h0 : Heap) (n0 : Nat) (Z0 : n0 ≤ h0.size) (EX : Exa Z h0 a "com/example/greater_than/greaterthan/page/Page") (ge : n0 ≤ a) (F_rows : Fld Z h0 a "com/example/greater_than/greaterthan/page/Page" "rows" "Ljava/util/List;" .null) (F_previousCursor : Fld Z h0 a "com/example/greater_than/greaterthan/page/Page" "previousCursor" "Ljava/lang/String;" .null) (F_nextCursor : Fld Z h0 a "com/example/greater_than/greaterthan/page/Page" "nextCursor" "Ljava/lang/String;" .null) (VB : Arv Z h0 b kb (.object "java/lang/Object") (0 : Int32) [] .null) (XB : Exa Z h0 b "[Ljava/lang/Object;") (EL : Exa Z h0 bl "java/util/ArrayList") (FE : Fld Z h0 bl "java/util/ArrayList" "elementData" "[Ljava/lang/Object;" (.ref b)) (FZ : Fld Z h0 bl "java/util/ArrayList" "size" "I" (.int (0 : Int32))) (SE : Sta Z h0 "java/util/ArrayList" "EMPTY_ELEMENTDATA" "[Ljava/lang/Object;" (.ref ee)) (M_ma : Mir Z "java/util/ArrayList" ma) (M_mu : Mir Z "java/util/Collections$UnmodifiableList" mu) (M_mv : Mir Z "java/util/Collections$UnmodifiableRandomAccessList" mv) (M_mo : Mir Z "[Ljava/lang/Object;" mo) (r1 : u1.isRef = true) (r2 : u2.isRef = true) :
    MetFree l (⟨"com/example/greater_than/greaterthan/page/Page", "<init>", "(Ljava/util/List;Ljava/lang/String;Ljava/lang/String;)V"⟩ : MethodName) (head1 (Jvm.Cond.code (⟨"com/example/greater_than/greaterthan/page/Page", "<init>", "(Ljava/util/List;Ljava/lang/String;Ljava/lang/String;)V"⟩ : MethodName) prog_39_method_1_code 4 none :: ws) ({ frames := 5, cells := 3, slots := 5, locals := 74 } : Room)) (fun ar U => ar = #[(.ref a), (.ref bl), u1, u2] ∧ Z.Warmed39 U.vm ∧ U.heap = h0) (fun _ _ _ _ _ => True) (fun _ U o U' => ∃ v L, o = .returned v ∧ Q5_0 Z a bl b kb u1 u2 ee ma mu mv mo h0 n0 v U'.heap L ∧ FrameEnd U o U' L ({ frames := 5, cells := 3, slots := 5, locals := 74 } : Room).cells ({ frames := 5, cells := 3, slots := 5, locals := 74 } : Room).slots) := by
  refine MetFree.of_bodySF (plainFor_of_name pn_com_example_greater_than_greaterthan_page_Page) hisR ?_
  intro p e s m args below meth c s₁ Bd hml0 hP hK
  obtain ⟨rfl, hZ, hh⟩ := hP
  have hx := Bd.exec
  have hby := Bd.bytes
  have hml : c.maxLocals = 4 := hml0
  have hown : s.vm.findClass "com/example/greater_than/greaterthan/page/Page" = some m.cls := findClass_of_methodNamed Bd.named
  have hnm := (name_of_methodNamed Bd.named Bd.method).1
  have X0 : Stand p l e ({ frames := 5, cells := 3, slots := 5, locals := 74 } : Room) s m #[(.ref a), (.ref bl), u1, u2] below meth c s₁ [] 0 0 := Stand.of_body Bd
  have e0 : s₁.heap = h0 := by rw [← hh, Bd.state]; rfl
  have N0 := Fr.nil n0
  obtain ⟨F, hF⟩ : ∃ F, F = own_Fin s (Q5_0 Z a bl b kb u1 u2 ee ma mu mv mo h0 n0) ({ frames := 5, cells := 3, slots := 5, locals := 74 } : Room).cells ({ frames := 5, cells := 3, slots := 5, locals := 74 } : Room).slots := ⟨_, rfl⟩
  show own_Ends p e below (own_Fin s (Q5_0 Z a bl b kb u1 u2 ee ma mu mv mo h0 n0) ({ frames := 5, cells := 3, slots := 5, locals := 74 } : Room).cells ({ frames := 5, cells := 3, slots := 5, locals := 74 } : Room).slots) _
  rw [← hF, ef_rm5_0 m a bl u1 u2 (own_catR r1) (own_catR r2)]
  show own_Ends p e below F (s₁.setTop (mkF m 0 #[.val (.ref a), .val (.ref bl), .val u1, .val u2] []))
  refine own_step (fun _ k => XS.aloadN X0.here hx rfl (hb hby d5_0) rfl rfl k) ?_
  show own_Ends p e below F (s₁.setTop (mkF m 1 #[.val (.ref a), .val (.ref bl), .val u1, .val u2] [(.ref a)]))
  obtain ⟨T1, X1, e1, st1⟩ := initO X0 hx hZ hown (own_g hw 32 rfl) (own_g hw 19 rfl) (own_g hw 20 rfl) e0 (g := (mkF m 1 #[.val (.ref a), .val (.ref bl), .val u1, .val u2] [(.ref a)])) rfl (by rw [hml]; rfl) rfl (hb hby d5_1) (by decide) (W := 0) (by show 2 * 0 + _ ≤ _; exact Nat.le_of_eq rfl) (by decide)
  refine own_step st1 ?_
  show own_Ends p e below F (T1.setTop (mkF m 4 #[.val (.ref a), .val (.ref bl), .val u1, .val u2] []))
  refine own_step (fun _ k => XS.aloadN X1.here hx rfl (hb hby d5_4) rfl rfl k) ?_
  show own_Ends p e below F (T1.setTop (mkF m 5 #[.val (.ref a), .val (.ref bl), .val u1, .val u2] [(.ref a)]))
  obtain ⟨T2, h2, X2, e2, E2, A2, D2, -, st2⟩ := newO X1 hx hZ hown (own_g hw 33 rfl) (own_g hw 1 rfl) (own_g hw 2 rfl) e1 (g := (mkF m 5 #[.val (.ref a), .val (.ref bl), .val u1, .val u2] [(.ref a)])) rfl (hb hby d5_5) (by decide) (by decide)
  obtain ⟨a2, g2⟩ : ∃ z, z = h0.size := ⟨_, rfl⟩
  rw [← g2] at A2 D2 st2
  have ge_a2 : n0 ≤ a2 := Nat.le_trans Z0 (Nat.le_of_eq g2.symm)
  have sz_a2 : h0.size ≤ a2 := Nat.le_trans (Nat.le_refl h0.size) (Nat.le_of_eq g2.symm)
  have ne_a_a2 : a ≠ a2 := Nat.ne_of_lt (by rw [g2]; exact EX.lt)
  have ne_b_a2 : b ≠ a2 := Nat.ne_of_lt (by rw [g2]; exact VB.lt)
  have ne_bl_a2 : bl ≠ a2 := Nat.ne_of_lt (by rw [g2]; exact EL.lt)
  have Z2 : n0 ≤ h2.size := Nat.le_trans Z0 E2.1
  have SZ2 : h0.size ≤ h2.size := Nat.le_trans (Nat.le_refl h0.size) E2.1
  have F2_modCount : Fld Z h2 a2 "java/util/AbstractList" "modCount" "I" (.int (0 : Int32)) := D2 (Or.inl (own_g hw 22 rfl)) (ty := .int) (by decide)
  have F2_elementData : Fld Z h2 a2 "java/util/ArrayList" "elementData" "[Ljava/lang/Object;" .null := D2 (Or.inl (own_g hw 25 rfl)) (ty := (.array (.object "java/lang/Object"))) (by decide)
  have F2_size : Fld Z h2 a2 "java/util/ArrayList" "size" "I" (.int (0 : Int32)) := D2 (Or.inl (own_g hw 47 rfl)) (ty := .int) (by decide)
  refine own_step st2 ?_
  show own_Ends p e below F (T2.setTop (mkF m 8 #[.val (.ref a), .val (.ref bl), .val u1, .val u2] [(.ref a2), (.ref a)]))
  refine own_step (fun _ k => XS.dup X2.here hx rfl (hb hby d5_8) rfl rfl k) ?_
  show own_Ends p e below F (T2.setTop (mkF m 9 #[.val (.ref a), .val (.ref bl), .val u1, .val u2] [(.ref a2), (.ref a2), (.ref a)]))
  refine own_step (fun _ k => XS.aloadN X2.here hx rfl (hb hby d5_9) rfl rfl k) ?_
  show own_Ends p e below F (T2.setTop (mkF m 10 #[.val (.ref a), .val (.ref bl), .val u1, .val u2] [(.ref bl), (.ref a2), (.ref a2), (.ref a)]))
  obtain ⟨_, _, ⟨T3, L3, k3, n3⟩, -, X3, ⟨Lc3, hQ3, l3, y3, z3⟩, st3⟩ := X2.specialBack hx (y := (⟨"java/util/ArrayList", "<init>", "(Ljava/util/Collection;)V"⟩ : MethodName)) rfl hown (mvT hZ (own_g hw 34 rfl)) (mvT hZ (own_g hw 35 rfl)) (mvT hZ (own_g hw 36 rfl)) (by decide) (backOf (W := 2) (rm6_0 l Z a0 hw [] a2 bl b kb  mo ee ma h2 n0 Z2 A2 ge_a2 F2_modCount F2_elementData F2_size (VB.ext E2) (XB.ext E2) M_mo (EL.ext E2) (FE.ext E2) (FZ.ext E2) (Sta.ext E2 SE) M_ma (Ne.symm ne_bl_a2) (Ne.symm ne_b_a2)) hZ (own_g hw 36 rfl) (own_g hw 2 rfl) (by decide) (by decide)) (g := (mkF m 10 #[.val (.ref a), .val (.ref bl), .val u1, .val u2] [(.ref bl), (.ref a2), (.ref a2), (.ref a)])) rfl (by rw [hml]; rfl) (Steps.refl _) (a := a2) (argsL := [(.ref bl)]) (rest := [(.ref a2), (.ref a)]) (lenOf pd__28Ljava_2futil_2fCollection_3b_29V rfl) rfl (by show 2 * 0 + _ ≤ _; exact Nat.le_of_eq rfl) (hb hby d5_10) (fun _ _ => ⟨rfl, e2, (by decide : 1 + 1 ≤ _), (by decide : 3 + 0 ≤ _)⟩)
  dsimp only [Pt.U, Pt.locs, Pt.cells, Pt.slots] at X3 l3 y3 z3 st3 hQ3
  subst l3 y3 z3
  obtain ⟨rfl, Nq3, Kq3, fq0_3⟩ := hQ3
  have N3 := Fr.app N0 Nq3
  have Z3 : n0 ≤ T3.heap.size := Nat.le_trans Z2 Kq3.1
  have SZ3 : h0.size ≤ T3.heap.size := Nat.le_trans SZ2 Kq3.1
  have S0_3 := own_Sta_keep (Sta.ext E2 SE) Kq3 (allS (own_ns_exa A2) all0)
  refine own_trans st3 ?_
  show own_Ends p e below F (T3.setTop (mkF m 13 #[.val (.ref a), .val (.ref bl), .val u1, .val u2] [(.ref a2), (.ref a)]))
  obtain ⟨_, _, ⟨T4, L4, k4, n4⟩, -, X4, ⟨Lc4, hQ4, l4, y4, z4⟩, st4⟩ := Jvm.LawKit.callS X3 hx (y := (⟨"java/util/Collections", "unmodifiableList", "(Ljava/util/List;)Ljava/util/List;"⟩ : MethodName)) hown (mvT hZ (own_g hw 73 rfl)) (mvT hZ (own_g hw 74 rfl)) (mvT hZ (own_g hw 75 rfl)) (mvT hZ (own_g hw 76 rfl)) (by decide) (backOf (W := 1) (rm11 l Z a0 hw [] a2 ma mu mv T3.heap n0 Z3 fq0_3 M_ma M_mu M_mv) hZ (own_g hw 76 rfl) (own_g hw 75 rfl) (by decide) (by decide)) (g := (mkF m 13 #[.val (.ref a), .val (.ref bl), .val u1, .val u2] [(.ref a2), (.ref a)])) rfl (by rw [hml]; rfl) (argsL := [(.ref a2)]) (rest := [(.ref a)]) (lenOf pd__28Ljava_2futil_2fList_3b_29Ljava_2futil_2fList_3b rfl) rfl (by show 2 * 0 + _ ≤ _; exact Nat.le_of_eq rfl) (hb hby d5_13) (fun _ _ => ⟨rfl, rfl, (by decide : 2 + 1 ≤ _), (by decide : 3 + 2 ≤ _)⟩)
  dsimp only [Pt.U, Pt.locs, Pt.cells, Pt.slots] at X4 l4 y4 z4 st4 hQ4
  subst l4 y4 z4
  obtain ⟨c4, rfl, Nq4, Kq4⟩ := hQ4
  have N4 := Fr.app N3 Nq4
  have Z4 : n0 ≤ T4.heap.size := Nat.le_trans Z3 Kq4.1
  have SZ4 : h0.size ≤ T4.heap.size := Nat.le_trans SZ3 Kq4.1
  have S0_4 := own_Sta_keep S0_3 Kq4 all0
  refine own_step st4 ?_
  show own_Ends p e below F (T4.setTop (mkF m 16 #[.val (.ref a), .val (.ref bl), .val u1, .val u2] [(.ref c4), (.ref a)]))
  obtain ⟨T5, h5, X5, e5, W5, st5⟩ := putF X4 hx hZ hown (host := "") (Or.inl (own_g hw 113 rfl)) Via.refl rfl (((F_rows.ext E2).keep Kq3 (ninS ne_a_a2 nin0)).keep Kq4 nin0) (((EX.ext E2).keep Kq3).keep Kq4) (Or.inr ⟨(own_g hw 114 rfl), rfl, hnm⟩) (own_g hw 27 rfl) (ty := (.object "java/util/List")) (by decide) rfl rfl (g := (mkF m 16 #[.val (.ref a), .val (.ref bl), .val u1, .val u2] [(.ref c4), (.ref a)])) rfl rfl (hb hby d5_16)
  refine own_step st5 ?_
  have F5 := Fld.same W5 (((F_rows.ext E2).keep Kq3 (ninS ne_a_a2 nin0)).keep Kq4 nin0)
  have N5 := Fr.snoc X5 N4 ge
  have Z5 : n0 ≤ h5.size := by rw [W5.size]; exact Z4
  have SZ5 : h0.size ≤ h5.size := by rw [W5.size]; exact SZ4
  show own_Ends p e below F (T5.setTop (mkF m 19 #[.val (.ref a), .val (.ref bl), .val u1, .val u2] []))
  refine own_step (fun _ k => XS.aloadN X5.here hx rfl (hb hby d5_19) rfl rfl k) ?_
  show own_Ends p e below F (T5.setTop (mkF m 20 #[.val (.ref a), .val (.ref bl), .val u1, .val u2] [(.ref a)]))
  refine own_step (fun _ k => XS.aloadN X5.here hx rfl (hb hby d5_20) rfl r1 k) ?_
  show own_Ends p e below F (T5.setTop (mkF m 21 #[.val (.ref a), .val (.ref bl), .val u1, .val u2] [u1, (.ref a)]))
  obtain ⟨T6, h6, X6, e6, W6, st6⟩ := putF X5 hx hZ hown (host := "") (Or.inl (own_g hw 115 rfl)) Via.refl e5 (Fld.other W5 (((F_previousCursor.ext E2).keep Kq3 (ninS ne_a_a2 nin0)).keep Kq4 nin0) (Or.inr (slot_ne (t := (.object "java/lang/String")) (t' := (.object "java/util/List")) (Or.inr (own_g hw 116 rfl)) (Or.inr (own_g hw 114 rfl)) (by decide) (by decide) (by decide)))) ((((EX.ext E2).keep Kq3).keep Kq4).wr W5) (Or.inr ⟨(own_g hw 116 rfl), rfl, hnm⟩) (own_g hw 27 rfl) (ty := (.object "java/lang/String")) (by decide) (own_nvR r1) (own_fvR r1) (g := (mkF m 21 #[.val (.ref a), .val (.ref bl), .val u1, .val u2] [u1, (.ref a)])) rfl rfl (hb hby d5_21)
  refine own_step st6 ?_
  have F6 := Fld.same W6 (Fld.other W5 (((F_previousCursor.ext E2).keep Kq3 (ninS ne_a_a2 nin0)).keep Kq4 nin0) (Or.inr (slot_ne (t := (.object "java/lang/String")) (t' := (.object "java/util/List")) (Or.inr (own_g hw 116 rfl)) (Or.inr (own_g hw 114 rfl)) (by decide) (by decide) (by decide))))
  have N6 := Fr.snoc X6 N5 ge
  have Z6 : n0 ≤ h6.size := by rw [W6.size]; exact Z5
  have SZ6 : h0.size ≤ h6.size := by rw [W6.size]; exact SZ5
  show own_Ends p e below F (T6.setTop (mkF m 24 #[.val (.ref a), .val (.ref bl), .val u1, .val u2] []))
  refine own_step (fun _ k => XS.aloadN X6.here hx rfl (hb hby d5_24) rfl rfl k) ?_
  show own_Ends p e below F (T6.setTop (mkF m 25 #[.val (.ref a), .val (.ref bl), .val u1, .val u2] [(.ref a)]))
  refine own_step (fun _ k => XS.aloadN X6.here hx rfl (hb hby d5_25) rfl r2 k) ?_
  show own_Ends p e below F (T6.setTop (mkF m 26 #[.val (.ref a), .val (.ref bl), .val u1, .val u2] [u2, (.ref a)]))
  obtain ⟨T7, h7, X7, e7, W7, st7⟩ := putF X6 hx hZ hown (host := "") (Or.inl (own_g hw 117 rfl)) Via.refl e6 (Fld.other W6 (Fld.other W5 (((F_nextCursor.ext E2).keep Kq3 (ninS ne_a_a2 nin0)).keep Kq4 nin0) (Or.inr (slot_ne (t := (.object "java/lang/String")) (t' := (.object "java/util/List")) (Or.inr (own_g hw 118 rfl)) (Or.inr (own_g hw 114 rfl)) (by decide) (by decide) (by decide)))) (Or.inr (slot_ne (t := (.object "java/lang/String")) (t' := (.object "java/lang/String")) (Or.inr (own_g hw 118 rfl)) (Or.inr (own_g hw 116 rfl)) (by decide) (by decide) (by decide)))) (((((EX.ext E2).keep Kq3).keep Kq4).wr W5).wr W6) (Or.inr ⟨(own_g hw 118 rfl), rfl, hnm⟩) (own_g hw 27 rfl) (ty := (.object "java/lang/String")) (by decide) (own_nvR r2) (own_fvR r2) (g := (mkF m 26 #[.val (.ref a), .val (.ref bl), .val u1, .val u2] [u2, (.ref a)])) rfl rfl (hb hby d5_26)
  refine own_step st7 ?_
  have F7 := Fld.same W7 (Fld.other W6 (Fld.other W5 (((F_nextCursor.ext E2).keep Kq3 (ninS ne_a_a2 nin0)).keep Kq4 nin0) (Or.inr (slot_ne (t := (.object "java/lang/String")) (t' := (.object "java/util/List")) (Or.inr (own_g hw 118 rfl)) (Or.inr (own_g hw 114 rfl)) (by decide) (by decide) (by decide)))) (Or.inr (slot_ne (t := (.object "java/lang/String")) (t' := (.object "java/lang/String")) (Or.inr (own_g hw 118 rfl)) (Or.inr (own_g hw 116 rfl)) (by decide) (by decide) (by decide))))
  have N7 := Fr.snoc X7 N6 ge
  have Z7 : n0 ≤ h7.size := by rw [W7.size]; exact Z6
  have SZ7 : h0.size ≤ h7.size := by rw [W7.size]; exact SZ6
  show own_Ends p e below F (T7.setTop (mkF m 29 #[.val (.ref a), .val (.ref bl), .val u1, .val u2] []))
  rw [hF]
  exact own_ret X7 (v := none) (fun _ => rfl) Bd.notSynchronized (fun fs hr => X7.returnOut hx Bd.returns (hb hby d5_29) hr) (by decide) (by decide) (by rw [e7]; exact ⟨rfl, N7, ((Keep.wr (Keep.wr (Keep.wr (Keep.trans (Keep.trans (Keep.ext (Keep.refl _ _) E2) Kq3 (allS (Or.inr sz_a2) all0)) Kq4 all0) W5 (Or.inl (List.mem_of_getElem? (i := 0) rfl))) W6 (Or.inl (List.mem_of_getElem? (i := 0) rfl))) W7 (Or.inl (List.mem_of_getElem? (i := 0) rfl))) : Keep h0 h7 [a]), ((((((EX.ext E2).keep Kq3).keep Kq4).wr W5).wr W6).wr W7), (Fld.other W7 F6 (Or.inr (slot_ne (t := (.object "java/lang/String")) (t' := (.object "java/lang/String")) (Or.inr (own_g hw 116 rfl)) (Or.inr (own_g hw 118 rfl)) (by decide) (by decide) (by decide)))), F7⟩)

theorem ef_rm5_1 (m : MethodId) (x0 : Addr) (x1 : Addr) (x2 : Value) (x3 : Value) (c2 : Value.category x2 = 1) (c3 : Value.category x3 = 1) : entryFrame m #[(.ref x0), (.ref x1), x2, x3] 4 = mkF m 0 #[.val (.ref x0), .val (.ref x1), .val x2, .val x3] [] := by exact own_efl m [_, _, _, _] 4 (by intro v hv; simp only [List.mem_cons, List.not_mem_nil, or_false] at hv; rcases hv with rfl | rfl | rfl | rfl <;> first | rfl | assumption) rfl
def Q5_1 (Z : State) (a bl b : Addr) (kb : ClassId) (w0 : Value) (u1 u2 : Value) (ee ma mu mv mo : Addr) (h0 : Heap) (n0 : Nat) (v : Option Value) (h : Heap) (L : List Loc) : Prop := v = none ∧ Fr n0 L ∧ Keep h0 h [a] ∧ Exa Z h a "com/example/greater_than/greaterthan/page/Page" ∧ Fld Z h a "com/example/greater_than/greaterthan/page/Page" "previousCursor" "Ljava/lang/String;" u1 ∧ Fld Z h a "com/example/greater_than/greaterthan/page/Page" "nextCursor" "Ljava/lang/String;" u2
set_option maxRecDepth 65536 in
set_option maxHeartbeats 40000000 in
theorem rm5_1 (l : Launch) (Z : State) (a0 : Array Value) (hw : ∀ d ∈ tables_1, d.before a0 Z = true) (ws : List Jvm.Cond) (a bl b : Addr) (kb : ClassId) (w0 : Value) (u1 u2 : Value) (ee ma mu mv mo : Addr) (h0 : Heap) (n0 : Nat) (Z0 : n0 ≤ h0.size) (EX : Exa Z h0 a "com/example/greater_than/greaterthan/page/Page") (ge : n0 ≤ a) (F_rows : Fld Z h0 a "com/example/greater_than/greaterthan/page/Page" "rows" "Ljava/util/List;" .null) (F_previousCursor : Fld Z h0 a "com/example/greater_than/greaterthan/page/Page" "previousCursor" "Ljava/lang/String;" .null) (F_nextCursor : Fld Z h0 a "com/example/greater_than/greaterthan/page/Page" "nextCursor" "Ljava/lang/String;" .null) (VB : Arv Z h0 b kb (.object "java/lang/Object") (10 : Int32) [w0, .null, .null, .null, .null, .null, .null, .null, .null, .null] .null) (XB : Exa Z h0 b "[Ljava/lang/Object;") (Hw0 : own_Ob Z h0 w0) (EL : Exa Z h0 bl "java/util/ArrayList") (FE : Fld Z h0 bl "java/util/ArrayList" "elementData" "[Ljava/lang/Object;" (.ref b)) (FZ : Fld Z h0 bl "java/util/ArrayList" "size" "I" (.int (1 : Int32))) (SE : Sta Z h0 "java/util/ArrayList" "EMPTY_ELEMENTDATA" "[Ljava/lang/Object;" (.ref ee)) (M_ma : Mir Z "java/util/ArrayList" ma) (M_mu : Mir Z "java/util/Collections$UnmodifiableList" mu) (M_mv : Mir Z "java/util/Collections$UnmodifiableRandomAccessList" mv) (M_mo : Mir Z "[Ljava/lang/Object;" mo) (r1 : u1.isRef = true) (r2 : u2.isRef = true) :
    MetFree l (⟨"com/example/greater_than/greaterthan/page/Page", "<init>", "(Ljava/util/List;Ljava/lang/String;Ljava/lang/String;)V"⟩ : MethodName) (head1 (Jvm.Cond.code (⟨"com/example/greater_than/greaterthan/page/Page", "<init>", "(Ljava/util/List;Ljava/lang/String;Ljava/lang/String;)V"⟩ : MethodName) prog_39_method_1_code 4 none :: ws) ({ frames := 5, cells := 3, slots := 6, locals := 74 } : Room)) (fun ar U => ar = #[(.ref a), (.ref bl), u1, u2] ∧ Z.Warmed39 U.vm ∧ U.heap = h0) (fun _ _ _ _ _ => True) (fun _ U o U' => ∃ v L, o = .returned v ∧ Q5_1 Z a bl b kb w0 u1 u2 ee ma mu mv mo h0 n0 v U'.heap L ∧ FrameEnd U o U' L ({ frames := 5, cells := 3, slots := 6, locals := 74 } : Room).cells ({ frames := 5, cells := 3, slots := 6, locals := 74 } : Room).slots) := by
  refine MetFree.of_bodySF (plainFor_of_name pn_com_example_greater_than_greaterthan_page_Page) hisR ?_
  intro p e s m args below meth c s₁ Bd hml0 hP hK
  obtain ⟨rfl, hZ, hh⟩ := hP
  have hx := Bd.exec
  have hby := Bd.bytes
  have hml : c.maxLocals = 4 := hml0
  have hown : s.vm.findClass "com/example/greater_than/greaterthan/page/Page" = some m.cls := findClass_of_methodNamed Bd.named
  have hnm := (name_of_methodNamed Bd.named Bd.method).1
  have X0 : Stand p l e ({ frames := 5, cells := 3, slots := 6, locals := 74 } : Room) s m #[(.ref a), (.ref bl), u1, u2] below meth c s₁ [] 0 0 := Stand.of_body Bd
  have e0 : s₁.heap = h0 := by rw [← hh, Bd.state]; rfl
  have N0 := Fr.nil n0
  obtain ⟨F, hF⟩ : ∃ F, F = own_Fin s (Q5_1 Z a bl b kb w0 u1 u2 ee ma mu mv mo h0 n0) ({ frames := 5, cells := 3, slots := 6, locals := 74 } : Room).cells ({ frames := 5, cells := 3, slots := 6, locals := 74 } : Room).slots := ⟨_, rfl⟩
  show own_Ends p e below (own_Fin s (Q5_1 Z a bl b kb w0 u1 u2 ee ma mu mv mo h0 n0) ({ frames := 5, cells := 3, slots := 6, locals := 74 } : Room).cells ({ frames := 5, cells := 3, slots := 6, locals := 74 } : Room).slots) _
  rw [← hF, ef_rm5_1 m a bl u1 u2 (own_catR r1) (own_catR r2)]
  show own_Ends p e below F (s₁.setTop (mkF m 0 #[.val (.ref a), .val (.ref bl), .val u1, .val u2] []))
  refine own_step (fun _ k => XS.aloadN X0.here hx rfl (hb hby d5_0) rfl rfl k) ?_
  show own_Ends p e below F (s₁.setTop (mkF m 1 #[.val (.ref a), .val (.ref bl), .val u1, .val u2] [(.ref a)]))
  obtain ⟨T1, X1, e1, st1⟩ := initO X0 hx hZ hown (own_g hw 32 rfl) (own_g hw 19 rfl) (own_g hw 20 rfl) e0 (g := (mkF m 1 #[.val (.ref a), .val (.ref bl), .val u1, .val u2] [(.ref a)])) rfl (by rw [hml]; rfl) rfl (hb hby d5_1) (by decide) (W := 0) (by show 2 * 0 + _ ≤ _; exact Nat.le_of_eq rfl) (by decide)
  refine own_step st1 ?_
  show own_Ends p e below F (T1.setTop (mkF m 4 #[.val (.ref a), .val (.ref bl), .val u1, .val u2] []))
  refine own_step (fun _ k => XS.aloadN X1.here hx rfl (hb hby d5_4) rfl rfl k) ?_
  show own_Ends p e below F (T1.setTop (mkF m 5 #[.val (.ref a), .val (.ref bl), .val u1, .val u2] [(.ref a)]))
  obtain ⟨T2, h2, X2, e2, E2, A2, D2, -, st2⟩ := newO X1 hx hZ hown (own_g hw 33 rfl) (own_g hw 1 rfl) (own_g hw 2 rfl) e1 (g := (mkF m 5 #[.val (.ref a), .val (.ref bl), .val u1, .val u2] [(.ref a)])) rfl (hb hby d5_5) (by decide) (by decide)
  obtain ⟨a2, g2⟩ : ∃ z, z = h0.size := ⟨_, rfl⟩
  rw [← g2] at A2 D2 st2
  have ge_a2 : n0 ≤ a2 := Nat.le_trans Z0 (Nat.le_of_eq g2.symm)
  have sz_a2 : h0.size ≤ a2 := Nat.le_trans (Nat.le_refl h0.size) (Nat.le_of_eq g2.symm)
  have ne_a_a2 : a ≠ a2 := Nat.ne_of_lt (by rw [g2]; exact EX.lt)
  have ne_b_a2 : b ≠ a2 := Nat.ne_of_lt (by rw [g2]; exact VB.lt)
  have ne_bl_a2 : bl ≠ a2 := Nat.ne_of_lt (by rw [g2]; exact EL.lt)
  have Z2 : n0 ≤ h2.size := Nat.le_trans Z0 E2.1
  have SZ2 : h0.size ≤ h2.size := Nat.le_trans (Nat.le_refl h0.size) E2.1
  have F2_modCount : Fld Z h2 a2 "java/util/AbstractList" "modCount" "I" (.int (0 : Int32)) := D2 (Or.inl (own_g hw 22 rfl)) (ty := .int) (by decide)
  have F2_elementData : Fld Z h2 a2 "java/util/ArrayList" "elementData" "[Ljava/lang/Object;" .null := D2 (Or.inl (own_g hw 25 rfl)) (ty := (.array (.object "java/lang/Object"))) (by decide)
  have F2_size : Fld Z h2 a2 "java/util/ArrayList" "size" "I" (.int (0 : Int32)) := D2 (Or.inl (own_g hw 47 rfl)) (ty := .int) (by decide)
  refine own_step st2 ?_
  show own_Ends p e below F (T2.setTop (mkF m 8 #[.val (.ref a), .val (.ref bl), .val u1, .val u2] [(.ref a2), (.ref a)]))
  refine own_step (fun _ k => XS.dup X2.here hx rfl (hb hby d5_8) rfl rfl k) ?_
  show own_Ends p e below F (T2.setTop (mkF m 9 #[.val (.ref a), .val (.ref bl), .val u1, .val u2] [(.ref a2), (.ref a2), (.ref a)]))
  refine own_step (fun _ k => XS.aloadN X2.here hx rfl (hb hby d5_9) rfl rfl k) ?_
  show own_Ends p e below F (T2.setTop (mkF m 10 #[.val (.ref a), .val (.ref bl), .val u1, .val u2] [(.ref bl), (.ref a2), (.ref a2), (.ref a)]))
  obtain ⟨_, _, ⟨T3, L3, k3, n3⟩, -, X3, ⟨Lc3, hQ3, l3, y3, z3⟩, st3⟩ := X2.specialBack hx (y := (⟨"java/util/ArrayList", "<init>", "(Ljava/util/Collection;)V"⟩ : MethodName)) rfl hown (mvT hZ (own_g hw 34 rfl)) (mvT hZ (own_g hw 35 rfl)) (mvT hZ (own_g hw 36 rfl)) (by decide) (backOf (W := 2) (rm6_1 l Z a0 hw [] a2 bl b kb w0 mo ee ma h2 n0 Z2 A2 ge_a2 F2_modCount F2_elementData F2_size (VB.ext E2) (XB.ext E2) (Hw0.ext E2) M_mo (EL.ext E2) (FE.ext E2) (FZ.ext E2) (Sta.ext E2 SE) M_ma (Ne.symm ne_bl_a2) (Ne.symm ne_b_a2)) hZ (own_g hw 36 rfl) (own_g hw 2 rfl) (by decide) (by decide)) (g := (mkF m 10 #[.val (.ref a), .val (.ref bl), .val u1, .val u2] [(.ref bl), (.ref a2), (.ref a2), (.ref a)])) rfl (by rw [hml]; rfl) (Steps.refl _) (a := a2) (argsL := [(.ref bl)]) (rest := [(.ref a2), (.ref a)]) (lenOf pd__28Ljava_2futil_2fCollection_3b_29V rfl) rfl (by show 2 * 0 + _ ≤ _; exact Nat.le_of_eq rfl) (hb hby d5_10) (fun _ _ => ⟨rfl, e2, (by decide : 1 + 1 ≤ _), (by decide : 3 + 1 ≤ _)⟩)
  dsimp only [Pt.U, Pt.locs, Pt.cells, Pt.slots] at X3 l3 y3 z3 st3 hQ3
  subst l3 y3 z3
  obtain ⟨rfl, Nq3, Kq3, fq0_3⟩ := hQ3
  have N3 := Fr.app N0 Nq3
  have Z3 : n0 ≤ T3.heap.size := Nat.le_trans Z2 Kq3.1
  have SZ3 : h0.size ≤ T3.heap.size := Nat.le_trans SZ2 Kq3.1
  have S0_3 := own_Sta_keep (Sta.ext E2 SE) Kq3 (allS (own_ns_exa A2) all0)
  refine own_trans st3 ?_
  show own_Ends p e below F (T3.setTop (mkF m 13 #[.val (.ref a), .val (.ref bl), .val u1, .val u2] [(.ref a2), (.ref a)]))
  obtain ⟨_, _, ⟨T4, L4, k4, n4⟩, -, X4, ⟨Lc4, hQ4, l4, y4, z4⟩, st4⟩ := Jvm.LawKit.callS X3 hx (y := (⟨"java/util/Collections", "unmodifiableList", "(Ljava/util/List;)Ljava/util/List;"⟩ : MethodName)) hown (mvT hZ (own_g hw 73 rfl)) (mvT hZ (own_g hw 74 rfl)) (mvT hZ (own_g hw 75 rfl)) (mvT hZ (own_g hw 76 rfl)) (by decide) (backOf (W := 1) (rm11 l Z a0 hw [] a2 ma mu mv T3.heap n0 Z3 fq0_3 M_ma M_mu M_mv) hZ (own_g hw 76 rfl) (own_g hw 75 rfl) (by decide) (by decide)) (g := (mkF m 13 #[.val (.ref a), .val (.ref bl), .val u1, .val u2] [(.ref a2), (.ref a)])) rfl (by rw [hml]; rfl) (argsL := [(.ref a2)]) (rest := [(.ref a)]) (lenOf pd__28Ljava_2futil_2fList_3b_29Ljava_2futil_2fList_3b rfl) rfl (by show 2 * 0 + _ ≤ _; exact Nat.le_of_eq rfl) (hb hby d5_13) (fun _ _ => ⟨rfl, rfl, (by decide : 2 + 1 ≤ _), (by decide : 4 + 2 ≤ _)⟩)
  dsimp only [Pt.U, Pt.locs, Pt.cells, Pt.slots] at X4 l4 y4 z4 st4 hQ4
  subst l4 y4 z4
  obtain ⟨c4, rfl, Nq4, Kq4⟩ := hQ4
  have N4 := Fr.app N3 Nq4
  have Z4 : n0 ≤ T4.heap.size := Nat.le_trans Z3 Kq4.1
  have SZ4 : h0.size ≤ T4.heap.size := Nat.le_trans SZ3 Kq4.1
  have S0_4 := own_Sta_keep S0_3 Kq4 all0
  refine own_step st4 ?_
  show own_Ends p e below F (T4.setTop (mkF m 16 #[.val (.ref a), .val (.ref bl), .val u1, .val u2] [(.ref c4), (.ref a)]))
  obtain ⟨T5, h5, X5, e5, W5, st5⟩ := putF X4 hx hZ hown (host := "") (Or.inl (own_g hw 113 rfl)) Via.refl rfl (((F_rows.ext E2).keep Kq3 (ninS ne_a_a2 nin0)).keep Kq4 nin0) (((EX.ext E2).keep Kq3).keep Kq4) (Or.inr ⟨(own_g hw 114 rfl), rfl, hnm⟩) (own_g hw 27 rfl) (ty := (.object "java/util/List")) (by decide) rfl rfl (g := (mkF m 16 #[.val (.ref a), .val (.ref bl), .val u1, .val u2] [(.ref c4), (.ref a)])) rfl rfl (hb hby d5_16)
  refine own_step st5 ?_
  have F5 := Fld.same W5 (((F_rows.ext E2).keep Kq3 (ninS ne_a_a2 nin0)).keep Kq4 nin0)
  have N5 := Fr.snoc X5 N4 ge
  have Z5 : n0 ≤ h5.size := by rw [W5.size]; exact Z4
  have SZ5 : h0.size ≤ h5.size := by rw [W5.size]; exact SZ4
  show own_Ends p e below F (T5.setTop (mkF m 19 #[.val (.ref a), .val (.ref bl), .val u1, .val u2] []))
  refine own_step (fun _ k => XS.aloadN X5.here hx rfl (hb hby d5_19) rfl rfl k) ?_
  show own_Ends p e below F (T5.setTop (mkF m 20 #[.val (.ref a), .val (.ref bl), .val u1, .val u2] [(.ref a)]))
  refine own_step (fun _ k => XS.aloadN X5.here hx rfl (hb hby d5_20) rfl r1 k) ?_
  show own_Ends p e below F (T5.setTop (mkF m 21 #[.val (.ref a), .val (.ref bl), .val u1, .val u2] [u1, (.ref a)]))
  obtain ⟨T6, h6, X6, e6, W6, st6⟩ := putF X5 hx hZ hown (host := "") (Or.inl (own_g hw 115 rfl)) Via.refl e5 (Fld.other W5 (((F_previousCursor.ext E2).keep Kq3 (ninS ne_a_a2 nin0)).keep Kq4 nin0) (Or.inr (slot_ne (t := (.object "java/lang/String")) (t' := (.object "java/util/List")) (Or.inr (own_g hw 116 rfl)) (Or.inr (own_g hw 114 rfl)) (by decide) (by decide) (by decide)))) ((((EX.ext E2).keep Kq3).keep Kq4).wr W5) (Or.inr ⟨(own_g hw 116 rfl), rfl, hnm⟩) (own_g hw 27 rfl) (ty := (.object "java/lang/String")) (by decide) (own_nvR r1) (own_fvR r1) (g := (mkF m 21 #[.val (.ref a), .val (.ref bl), .val u1, .val u2] [u1, (.ref a)])) rfl rfl (hb hby d5_21)
  refine own_step st6 ?_
  have F6 := Fld.same W6 (Fld.other W5 (((F_previousCursor.ext E2).keep Kq3 (ninS ne_a_a2 nin0)).keep Kq4 nin0) (Or.inr (slot_ne (t := (.object "java/lang/String")) (t' := (.object "java/util/List")) (Or.inr (own_g hw 116 rfl)) (Or.inr (own_g hw 114 rfl)) (by decide) (by decide) (by decide))))
  have N6 := Fr.snoc X6 N5 ge
  have Z6 : n0 ≤ h6.size := by rw [W6.size]; exact Z5
  have SZ6 : h0.size ≤ h6.size := by rw [W6.size]; exact SZ5
  show own_Ends p e below F (T6.setTop (mkF m 24 #[.val (.ref a), .val (.ref bl), .val u1, .val u2] []))
  refine own_step (fun _ k => XS.aloadN X6.here hx rfl (hb hby d5_24) rfl rfl k) ?_
  show own_Ends p e below F (T6.setTop (mkF m 25 #[.val (.ref a), .val (.ref bl), .val u1, .val u2] [(.ref a)]))
  refine own_step (fun _ k => XS.aloadN X6.here hx rfl (hb hby d5_25) rfl r2 k) ?_
  show own_Ends p e below F (T6.setTop (mkF m 26 #[.val (.ref a), .val (.ref bl), .val u1, .val u2] [u2, (.ref a)]))
  obtain ⟨T7, h7, X7, e7, W7, st7⟩ := putF X6 hx hZ hown (host := "") (Or.inl (own_g hw 117 rfl)) Via.refl e6 (Fld.other W6 (Fld.other W5 (((F_nextCursor.ext E2).keep Kq3 (ninS ne_a_a2 nin0)).keep Kq4 nin0) (Or.inr (slot_ne (t := (.object "java/lang/String")) (t' := (.object "java/util/List")) (Or.inr (own_g hw 118 rfl)) (Or.inr (own_g hw 114 rfl)) (by decide) (by decide) (by decide)))) (Or.inr (slot_ne (t := (.object "java/lang/String")) (t' := (.object "java/lang/String")) (Or.inr (own_g hw 118 rfl)) (Or.inr (own_g hw 116 rfl)) (by decide) (by decide) (by decide)))) (((((EX.ext E2).keep Kq3).keep Kq4).wr W5).wr W6) (Or.inr ⟨(own_g hw 118 rfl), rfl, hnm⟩) (own_g hw 27 rfl) (ty := (.object "java/lang/String")) (by decide) (own_nvR r2) (own_fvR r2) (g := (mkF m 26 #[.val (.ref a), .val (.ref bl), .val u1, .val u2] [u2, (.ref a)])) rfl rfl (hb hby d5_26)
  refine own_step st7 ?_
  have F7 := Fld.same W7 (Fld.other W6 (Fld.other W5 (((F_nextCursor.ext E2).keep Kq3 (ninS ne_a_a2 nin0)).keep Kq4 nin0) (Or.inr (slot_ne (t := (.object "java/lang/String")) (t' := (.object "java/util/List")) (Or.inr (own_g hw 118 rfl)) (Or.inr (own_g hw 114 rfl)) (by decide) (by decide) (by decide)))) (Or.inr (slot_ne (t := (.object "java/lang/String")) (t' := (.object "java/lang/String")) (Or.inr (own_g hw 118 rfl)) (Or.inr (own_g hw 116 rfl)) (by decide) (by decide) (by decide))))
  have N7 := Fr.snoc X7 N6 ge
  have Z7 : n0 ≤ h7.size := by rw [W7.size]; exact Z6
  have SZ7 : h0.size ≤ h7.size := by rw [W7.size]; exact SZ6
  show own_Ends p e below F (T7.setTop (mkF m 29 #[.val (.ref a), .val (.ref bl), .val u1, .val u2] []))
  rw [hF]
  exact own_ret X7 (v := none) (fun _ => rfl) Bd.notSynchronized (fun fs hr => X7.returnOut hx Bd.returns (hb hby d5_29) hr) (by decide) (by decide) (by rw [e7]; exact ⟨rfl, N7, ((Keep.wr (Keep.wr (Keep.wr (Keep.trans (Keep.trans (Keep.ext (Keep.refl _ _) E2) Kq3 (allS (Or.inr sz_a2) all0)) Kq4 all0) W5 (Or.inl (List.mem_of_getElem? (i := 0) rfl))) W6 (Or.inl (List.mem_of_getElem? (i := 0) rfl))) W7 (Or.inl (List.mem_of_getElem? (i := 0) rfl))) : Keep h0 h7 [a]), ((((((EX.ext E2).keep Kq3).keep Kq4).wr W5).wr W6).wr W7), (Fld.other W7 F6 (Or.inr (slot_ne (t := (.object "java/lang/String")) (t' := (.object "java/lang/String")) (Or.inr (own_g hw 116 rfl)) (Or.inr (own_g hw 118 rfl)) (by decide) (by decide) (by decide)))), F7⟩)

theorem ef_rm5_2 (m : MethodId) (x0 : Addr) (x1 : Addr) (x2 : Value) (x3 : Value) (c2 : Value.category x2 = 1) (c3 : Value.category x3 = 1) : entryFrame m #[(.ref x0), (.ref x1), x2, x3] 4 = mkF m 0 #[.val (.ref x0), .val (.ref x1), .val x2, .val x3] [] := by exact own_efl m [_, _, _, _] 4 (by intro v hv; simp only [List.mem_cons, List.not_mem_nil, or_false] at hv; rcases hv with rfl | rfl | rfl | rfl <;> first | rfl | assumption) rfl
def Q5_2 (Z : State) (a bl b : Addr) (kb : ClassId) (w0 : Value) (w1 : Value) (u1 u2 : Value) (ee ma mu mv mo : Addr) (h0 : Heap) (n0 : Nat) (v : Option Value) (h : Heap) (L : List Loc) : Prop := v = none ∧ Fr n0 L ∧ Keep h0 h [a] ∧ Exa Z h a "com/example/greater_than/greaterthan/page/Page" ∧ Fld Z h a "com/example/greater_than/greaterthan/page/Page" "previousCursor" "Ljava/lang/String;" u1 ∧ Fld Z h a "com/example/greater_than/greaterthan/page/Page" "nextCursor" "Ljava/lang/String;" u2
set_option maxRecDepth 65536 in
set_option maxHeartbeats 40000000 in
theorem rm5_2 (l : Launch) (Z : State) (a0 : Array Value) (hw : ∀ d ∈ tables_1, d.before a0 Z = true) (ws : List Jvm.Cond) (a bl b : Addr) (kb : ClassId) (w0 : Value) (w1 : Value) (u1 u2 : Value) (ee ma mu mv mo : Addr) (h0 : Heap) (n0 : Nat) (Z0 : n0 ≤ h0.size) (EX : Exa Z h0 a "com/example/greater_than/greaterthan/page/Page") (ge : n0 ≤ a) (F_rows : Fld Z h0 a "com/example/greater_than/greaterthan/page/Page" "rows" "Ljava/util/List;" .null) (F_previousCursor : Fld Z h0 a "com/example/greater_than/greaterthan/page/Page" "previousCursor" "Ljava/lang/String;" .null) (F_nextCursor : Fld Z h0 a "com/example/greater_than/greaterthan/page/Page" "nextCursor" "Ljava/lang/String;" .null) (VB : Arv Z h0 b kb (.object "java/lang/Object") (10 : Int32) [w0, w1, .null, .null, .null, .null, .null, .null, .null, .null] .null) (XB : Exa Z h0 b "[Ljava/lang/Object;") (Hw0 : own_Ob Z h0 w0) (Hw1 : own_Ob Z h0 w1) (EL : Exa Z h0 bl "java/util/ArrayList") (FE : Fld Z h0 bl "java/util/ArrayList" "elementData" "[Ljava/lang/Object;" (.ref b)) (FZ : Fld Z h0 bl "java/util/ArrayList" "size" "I" (.int (2 : Int32))) (SE : Sta Z h0 "java/util/ArrayList" "EMPTY_ELEMENTDATA" "[Ljava/lang/Object;" (.ref ee)) (M_ma : Mir Z "java/util/ArrayList" ma) (M_mu : Mir Z "java/util/Collections$UnmodifiableList" mu) (M_mv : Mir Z "java/util/Collections$UnmodifiableRandomAccessList" mv) (M_mo : Mir Z "[Ljava/lang/Object;" mo) (r1 : u1.isRef = true) (r2 : u2.isRef = true) :
    MetFree l (⟨"com/example/greater_than/greaterthan/page/Page", "<init>", "(Ljava/util/List;Ljava/lang/String;Ljava/lang/String;)V"⟩ : MethodName) (head1 (Jvm.Cond.code (⟨"com/example/greater_than/greaterthan/page/Page", "<init>", "(Ljava/util/List;Ljava/lang/String;Ljava/lang/String;)V"⟩ : MethodName) prog_39_method_1_code 4 none :: ws) ({ frames := 5, cells := 3, slots := 7, locals := 74 } : Room)) (fun ar U => ar = #[(.ref a), (.ref bl), u1, u2] ∧ Z.Warmed39 U.vm ∧ U.heap = h0) (fun _ _ _ _ _ => True) (fun _ U o U' => ∃ v L, o = .returned v ∧ Q5_2 Z a bl b kb w0 w1 u1 u2 ee ma mu mv mo h0 n0 v U'.heap L ∧ FrameEnd U o U' L ({ frames := 5, cells := 3, slots := 7, locals := 74 } : Room).cells ({ frames := 5, cells := 3, slots := 7, locals := 74 } : Room).slots) := by
  refine MetFree.of_bodySF (plainFor_of_name pn_com_example_greater_than_greaterthan_page_Page) hisR ?_
  intro p e s m args below meth c s₁ Bd hml0 hP hK
  obtain ⟨rfl, hZ, hh⟩ := hP
  have hx := Bd.exec
  have hby := Bd.bytes
  have hml : c.maxLocals = 4 := hml0
  have hown : s.vm.findClass "com/example/greater_than/greaterthan/page/Page" = some m.cls := findClass_of_methodNamed Bd.named
  have hnm := (name_of_methodNamed Bd.named Bd.method).1
  have X0 : Stand p l e ({ frames := 5, cells := 3, slots := 7, locals := 74 } : Room) s m #[(.ref a), (.ref bl), u1, u2] below meth c s₁ [] 0 0 := Stand.of_body Bd
  have e0 : s₁.heap = h0 := by rw [← hh, Bd.state]; rfl
  have N0 := Fr.nil n0
  obtain ⟨F, hF⟩ : ∃ F, F = own_Fin s (Q5_2 Z a bl b kb w0 w1 u1 u2 ee ma mu mv mo h0 n0) ({ frames := 5, cells := 3, slots := 7, locals := 74 } : Room).cells ({ frames := 5, cells := 3, slots := 7, locals := 74 } : Room).slots := ⟨_, rfl⟩
  show own_Ends p e below (own_Fin s (Q5_2 Z a bl b kb w0 w1 u1 u2 ee ma mu mv mo h0 n0) ({ frames := 5, cells := 3, slots := 7, locals := 74 } : Room).cells ({ frames := 5, cells := 3, slots := 7, locals := 74 } : Room).slots) _
  rw [← hF, ef_rm5_2 m a bl u1 u2 (own_catR r1) (own_catR r2)]
  show own_Ends p e below F (s₁.setTop (mkF m 0 #[.val (.ref a), .val (.ref bl), .val u1, .val u2] []))
  refine own_step (fun _ k => XS.aloadN X0.here hx rfl (hb hby d5_0) rfl rfl k) ?_
  show own_Ends p e below F (s₁.setTop (mkF m 1 #[.val (.ref a), .val (.ref bl), .val u1, .val u2] [(.ref a)]))
  obtain ⟨T1, X1, e1, st1⟩ := initO X0 hx hZ hown (own_g hw 32 rfl) (own_g hw 19 rfl) (own_g hw 20 rfl) e0 (g := (mkF m 1 #[.val (.ref a), .val (.ref bl), .val u1, .val u2] [(.ref a)])) rfl (by rw [hml]; rfl) rfl (hb hby d5_1) (by decide) (W := 0) (by show 2 * 0 + _ ≤ _; exact Nat.le_of_eq rfl) (by decide)
  refine own_step st1 ?_
  show own_Ends p e below F (T1.setTop (mkF m 4 #[.val (.ref a), .val (.ref bl), .val u1, .val u2] []))
  refine own_step (fun _ k => XS.aloadN X1.here hx rfl (hb hby d5_4) rfl rfl k) ?_
  show own_Ends p e below F (T1.setTop (mkF m 5 #[.val (.ref a), .val (.ref bl), .val u1, .val u2] [(.ref a)]))
  obtain ⟨T2, h2, X2, e2, E2, A2, D2, -, st2⟩ := newO X1 hx hZ hown (own_g hw 33 rfl) (own_g hw 1 rfl) (own_g hw 2 rfl) e1 (g := (mkF m 5 #[.val (.ref a), .val (.ref bl), .val u1, .val u2] [(.ref a)])) rfl (hb hby d5_5) (by decide) (by decide)
  obtain ⟨a2, g2⟩ : ∃ z, z = h0.size := ⟨_, rfl⟩
  rw [← g2] at A2 D2 st2
  have ge_a2 : n0 ≤ a2 := Nat.le_trans Z0 (Nat.le_of_eq g2.symm)
  have sz_a2 : h0.size ≤ a2 := Nat.le_trans (Nat.le_refl h0.size) (Nat.le_of_eq g2.symm)
  have ne_a_a2 : a ≠ a2 := Nat.ne_of_lt (by rw [g2]; exact EX.lt)
  have ne_b_a2 : b ≠ a2 := Nat.ne_of_lt (by rw [g2]; exact VB.lt)
  have ne_bl_a2 : bl ≠ a2 := Nat.ne_of_lt (by rw [g2]; exact EL.lt)
  have Z2 : n0 ≤ h2.size := Nat.le_trans Z0 E2.1
  have SZ2 : h0.size ≤ h2.size := Nat.le_trans (Nat.le_refl h0.size) E2.1
  have F2_modCount : Fld Z h2 a2 "java/util/AbstractList" "modCount" "I" (.int (0 : Int32)) := D2 (Or.inl (own_g hw 22 rfl)) (ty := .int) (by decide)
  have F2_elementData : Fld Z h2 a2 "java/util/ArrayList" "elementData" "[Ljava/lang/Object;" .null := D2 (Or.inl (own_g hw 25 rfl)) (ty := (.array (.object "java/lang/Object"))) (by decide)
  have F2_size : Fld Z h2 a2 "java/util/ArrayList" "size" "I" (.int (0 : Int32)) := D2 (Or.inl (own_g hw 47 rfl)) (ty := .int) (by decide)
  refine own_step st2 ?_
  show own_Ends p e below F (T2.setTop (mkF m 8 #[.val (.ref a), .val (.ref bl), .val u1, .val u2] [(.ref a2), (.ref a)]))
  refine own_step (fun _ k => XS.dup X2.here hx rfl (hb hby d5_8) rfl rfl k) ?_
  show own_Ends p e below F (T2.setTop (mkF m 9 #[.val (.ref a), .val (.ref bl), .val u1, .val u2] [(.ref a2), (.ref a2), (.ref a)]))
  refine own_step (fun _ k => XS.aloadN X2.here hx rfl (hb hby d5_9) rfl rfl k) ?_
  show own_Ends p e below F (T2.setTop (mkF m 10 #[.val (.ref a), .val (.ref bl), .val u1, .val u2] [(.ref bl), (.ref a2), (.ref a2), (.ref a)]))
  obtain ⟨_, _, ⟨T3, L3, k3, n3⟩, -, X3, ⟨Lc3, hQ3, l3, y3, z3⟩, st3⟩ := X2.specialBack hx (y := (⟨"java/util/ArrayList", "<init>", "(Ljava/util/Collection;)V"⟩ : MethodName)) rfl hown (mvT hZ (own_g hw 34 rfl)) (mvT hZ (own_g hw 35 rfl)) (mvT hZ (own_g hw 36 rfl)) (by decide) (backOf (W := 2) (rm6_2 l Z a0 hw [] a2 bl b kb w0 w1 mo ee ma h2 n0 Z2 A2 ge_a2 F2_modCount F2_elementData F2_size (VB.ext E2) (XB.ext E2) (Hw0.ext E2) (Hw1.ext E2) M_mo (EL.ext E2) (FE.ext E2) (FZ.ext E2) (Sta.ext E2 SE) M_ma (Ne.symm ne_bl_a2) (Ne.symm ne_b_a2)) hZ (own_g hw 36 rfl) (own_g hw 2 rfl) (by decide) (by decide)) (g := (mkF m 10 #[.val (.ref a), .val (.ref bl), .val u1, .val u2] [(.ref bl), (.ref a2), (.ref a2), (.ref a)])) rfl (by rw [hml]; rfl) (Steps.refl _) (a := a2) (argsL := [(.ref bl)]) (rest := [(.ref a2), (.ref a)]) (lenOf pd__28Ljava_2futil_2fCollection_3b_29V rfl) rfl (by show 2 * 0 + _ ≤ _; exact Nat.le_of_eq rfl) (hb hby d5_10) (fun _ _ => ⟨rfl, e2, (by decide : 1 + 1 ≤ _), (by decide : 3 + 2 ≤ _)⟩)
  dsimp only [Pt.U, Pt.locs, Pt.cells, Pt.slots] at X3 l3 y3 z3 st3 hQ3
  subst l3 y3 z3
  obtain ⟨rfl, Nq3, Kq3, fq0_3⟩ := hQ3
  have N3 := Fr.app N0 Nq3
  have Z3 : n0 ≤ T3.heap.size := Nat.le_trans Z2 Kq3.1
  have SZ3 : h0.size ≤ T3.heap.size := Nat.le_trans SZ2 Kq3.1
  have S0_3 := own_Sta_keep (Sta.ext E2 SE) Kq3 (allS (own_ns_exa A2) all0)
  refine own_trans st3 ?_
  show own_Ends p e below F (T3.setTop (mkF m 13 #[.val (.ref a), .val (.ref bl), .val u1, .val u2] [(.ref a2), (.ref a)]))
  obtain ⟨_, _, ⟨T4, L4, k4, n4⟩, -, X4, ⟨Lc4, hQ4, l4, y4, z4⟩, st4⟩ := Jvm.LawKit.callS X3 hx (y := (⟨"java/util/Collections", "unmodifiableList", "(Ljava/util/List;)Ljava/util/List;"⟩ : MethodName)) hown (mvT hZ (own_g hw 73 rfl)) (mvT hZ (own_g hw 74 rfl)) (mvT hZ (own_g hw 75 rfl)) (mvT hZ (own_g hw 76 rfl)) (by decide) (backOf (W := 1) (rm11 l Z a0 hw [] a2 ma mu mv T3.heap n0 Z3 fq0_3 M_ma M_mu M_mv) hZ (own_g hw 76 rfl) (own_g hw 75 rfl) (by decide) (by decide)) (g := (mkF m 13 #[.val (.ref a), .val (.ref bl), .val u1, .val u2] [(.ref a2), (.ref a)])) rfl (by rw [hml]; rfl) (argsL := [(.ref a2)]) (rest := [(.ref a)]) (lenOf pd__28Ljava_2futil_2fList_3b_29Ljava_2futil_2fList_3b rfl) rfl (by show 2 * 0 + _ ≤ _; exact Nat.le_of_eq rfl) (hb hby d5_13) (fun _ _ => ⟨rfl, rfl, (by decide : 2 + 1 ≤ _), (by decide : 5 + 2 ≤ _)⟩)
  dsimp only [Pt.U, Pt.locs, Pt.cells, Pt.slots] at X4 l4 y4 z4 st4 hQ4
  subst l4 y4 z4
  obtain ⟨c4, rfl, Nq4, Kq4⟩ := hQ4
  have N4 := Fr.app N3 Nq4
  have Z4 : n0 ≤ T4.heap.size := Nat.le_trans Z3 Kq4.1
  have SZ4 : h0.size ≤ T4.heap.size := Nat.le_trans SZ3 Kq4.1
  have S0_4 := own_Sta_keep S0_3 Kq4 all0
  refine own_step st4 ?_
  show own_Ends p e below F (T4.setTop (mkF m 16 #[.val (.ref a), .val (.ref bl), .val u1, .val u2] [(.ref c4), (.ref a)]))
  obtain ⟨T5, h5, X5, e5, W5, st5⟩ := putF X4 hx hZ hown (host := "") (Or.inl (own_g hw 113 rfl)) Via.refl rfl (((F_rows.ext E2).keep Kq3 (ninS ne_a_a2 nin0)).keep Kq4 nin0) (((EX.ext E2).keep Kq3).keep Kq4) (Or.inr ⟨(own_g hw 114 rfl), rfl, hnm⟩) (own_g hw 27 rfl) (ty := (.object "java/util/List")) (by decide) rfl rfl (g := (mkF m 16 #[.val (.ref a), .val (.ref bl), .val u1, .val u2] [(.ref c4), (.ref a)])) rfl rfl (hb hby d5_16)
  refine own_step st5 ?_
  have F5 := Fld.same W5 (((F_rows.ext E2).keep Kq3 (ninS ne_a_a2 nin0)).keep Kq4 nin0)
  have N5 := Fr.snoc X5 N4 ge
  have Z5 : n0 ≤ h5.size := by rw [W5.size]; exact Z4
  have SZ5 : h0.size ≤ h5.size := by rw [W5.size]; exact SZ4
  show own_Ends p e below F (T5.setTop (mkF m 19 #[.val (.ref a), .val (.ref bl), .val u1, .val u2] []))
  refine own_step (fun _ k => XS.aloadN X5.here hx rfl (hb hby d5_19) rfl rfl k) ?_
  show own_Ends p e below F (T5.setTop (mkF m 20 #[.val (.ref a), .val (.ref bl), .val u1, .val u2] [(.ref a)]))
  refine own_step (fun _ k => XS.aloadN X5.here hx rfl (hb hby d5_20) rfl r1 k) ?_
  show own_Ends p e below F (T5.setTop (mkF m 21 #[.val (.ref a), .val (.ref bl), .val u1, .val u2] [u1, (.ref a)]))
  obtain ⟨T6, h6, X6, e6, W6, st6⟩ := putF X5 hx hZ hown (host := "") (Or.inl (own_g hw 115 rfl)) Via.refl e5 (Fld.other W5 (((F_previousCursor.ext E2).keep Kq3 (ninS ne_a_a2 nin0)).keep Kq4 nin0) (Or.inr (slot_ne (t := (.object "java/lang/String")) (t' := (.object "java/util/List")) (Or.inr (own_g hw 116 rfl)) (Or.inr (own_g hw 114 rfl)) (by decide) (by decide) (by decide)))) ((((EX.ext E2).keep Kq3).keep Kq4).wr W5) (Or.inr ⟨(own_g hw 116 rfl), rfl, hnm⟩) (own_g hw 27 rfl) (ty := (.object "java/lang/String")) (by decide) (own_nvR r1) (own_fvR r1) (g := (mkF m 21 #[.val (.ref a), .val (.ref bl), .val u1, .val u2] [u1, (.ref a)])) rfl rfl (hb hby d5_21)
  refine own_step st6 ?_
  have F6 := Fld.same W6 (Fld.other W5 (((F_previousCursor.ext E2).keep Kq3 (ninS ne_a_a2 nin0)).keep Kq4 nin0) (Or.inr (slot_ne (t := (.object "java/lang/String")) (t' := (.object "java/util/List")) (Or.inr (own_g hw 116 rfl)) (Or.inr (own_g hw 114 rfl)) (by decide) (by decide) (by decide))))
  have N6 := Fr.snoc X6 N5 ge
  have Z6 : n0 ≤ h6.size := by rw [W6.size]; exact Z5
  have SZ6 : h0.size ≤ h6.size := by rw [W6.size]; exact SZ5
  show own_Ends p e below F (T6.setTop (mkF m 24 #[.val (.ref a), .val (.ref bl), .val u1, .val u2] []))
  refine own_step (fun _ k => XS.aloadN X6.here hx rfl (hb hby d5_24) rfl rfl k) ?_
  show own_Ends p e below F (T6.setTop (mkF m 25 #[.val (.ref a), .val (.ref bl), .val u1, .val u2] [(.ref a)]))
  refine own_step (fun _ k => XS.aloadN X6.here hx rfl (hb hby d5_25) rfl r2 k) ?_
  show own_Ends p e below F (T6.setTop (mkF m 26 #[.val (.ref a), .val (.ref bl), .val u1, .val u2] [u2, (.ref a)]))
  obtain ⟨T7, h7, X7, e7, W7, st7⟩ := putF X6 hx hZ hown (host := "") (Or.inl (own_g hw 117 rfl)) Via.refl e6 (Fld.other W6 (Fld.other W5 (((F_nextCursor.ext E2).keep Kq3 (ninS ne_a_a2 nin0)).keep Kq4 nin0) (Or.inr (slot_ne (t := (.object "java/lang/String")) (t' := (.object "java/util/List")) (Or.inr (own_g hw 118 rfl)) (Or.inr (own_g hw 114 rfl)) (by decide) (by decide) (by decide)))) (Or.inr (slot_ne (t := (.object "java/lang/String")) (t' := (.object "java/lang/String")) (Or.inr (own_g hw 118 rfl)) (Or.inr (own_g hw 116 rfl)) (by decide) (by decide) (by decide)))) (((((EX.ext E2).keep Kq3).keep Kq4).wr W5).wr W6) (Or.inr ⟨(own_g hw 118 rfl), rfl, hnm⟩) (own_g hw 27 rfl) (ty := (.object "java/lang/String")) (by decide) (own_nvR r2) (own_fvR r2) (g := (mkF m 26 #[.val (.ref a), .val (.ref bl), .val u1, .val u2] [u2, (.ref a)])) rfl rfl (hb hby d5_26)
  refine own_step st7 ?_
  have F7 := Fld.same W7 (Fld.other W6 (Fld.other W5 (((F_nextCursor.ext E2).keep Kq3 (ninS ne_a_a2 nin0)).keep Kq4 nin0) (Or.inr (slot_ne (t := (.object "java/lang/String")) (t' := (.object "java/util/List")) (Or.inr (own_g hw 118 rfl)) (Or.inr (own_g hw 114 rfl)) (by decide) (by decide) (by decide)))) (Or.inr (slot_ne (t := (.object "java/lang/String")) (t' := (.object "java/lang/String")) (Or.inr (own_g hw 118 rfl)) (Or.inr (own_g hw 116 rfl)) (by decide) (by decide) (by decide))))
  have N7 := Fr.snoc X7 N6 ge
  have Z7 : n0 ≤ h7.size := by rw [W7.size]; exact Z6
  have SZ7 : h0.size ≤ h7.size := by rw [W7.size]; exact SZ6
  show own_Ends p e below F (T7.setTop (mkF m 29 #[.val (.ref a), .val (.ref bl), .val u1, .val u2] []))
  rw [hF]
  exact own_ret X7 (v := none) (fun _ => rfl) Bd.notSynchronized (fun fs hr => X7.returnOut hx Bd.returns (hb hby d5_29) hr) (by decide) (by decide) (by rw [e7]; exact ⟨rfl, N7, ((Keep.wr (Keep.wr (Keep.wr (Keep.trans (Keep.trans (Keep.ext (Keep.refl _ _) E2) Kq3 (allS (Or.inr sz_a2) all0)) Kq4 all0) W5 (Or.inl (List.mem_of_getElem? (i := 0) rfl))) W6 (Or.inl (List.mem_of_getElem? (i := 0) rfl))) W7 (Or.inl (List.mem_of_getElem? (i := 0) rfl))) : Keep h0 h7 [a]), ((((((EX.ext E2).keep Kq3).keep Kq4).wr W5).wr W6).wr W7), (Fld.other W7 F6 (Or.inr (slot_ne (t := (.object "java/lang/String")) (t' := (.object "java/lang/String")) (Or.inr (own_g hw 116 rfl)) (Or.inr (own_g hw 118 rfl)) (by decide) (by decide) (by decide)))), F7⟩)

theorem ef_rm5_3 (m : MethodId) (x0 : Addr) (x1 : Addr) (x2 : Value) (x3 : Value) (c2 : Value.category x2 = 1) (c3 : Value.category x3 = 1) : entryFrame m #[(.ref x0), (.ref x1), x2, x3] 4 = mkF m 0 #[.val (.ref x0), .val (.ref x1), .val x2, .val x3] [] := by exact own_efl m [_, _, _, _] 4 (by intro v hv; simp only [List.mem_cons, List.not_mem_nil, or_false] at hv; rcases hv with rfl | rfl | rfl | rfl <;> first | rfl | assumption) rfl
def Q5_3 (Z : State) (a bl b : Addr) (kb : ClassId) (w0 : Value) (w1 : Value) (w2 : Value) (u1 u2 : Value) (ee ma mu mv mo : Addr) (h0 : Heap) (n0 : Nat) (v : Option Value) (h : Heap) (L : List Loc) : Prop := v = none ∧ Fr n0 L ∧ Keep h0 h [a] ∧ Exa Z h a "com/example/greater_than/greaterthan/page/Page" ∧ Fld Z h a "com/example/greater_than/greaterthan/page/Page" "previousCursor" "Ljava/lang/String;" u1 ∧ Fld Z h a "com/example/greater_than/greaterthan/page/Page" "nextCursor" "Ljava/lang/String;" u2
set_option maxRecDepth 65536 in
set_option maxHeartbeats 40000000 in
theorem rm5_3 (l : Launch) (Z : State) (a0 : Array Value) (hw : ∀ d ∈ tables_1, d.before a0 Z = true) (ws : List Jvm.Cond) (a bl b : Addr) (kb : ClassId) (w0 : Value) (w1 : Value) (w2 : Value) (u1 u2 : Value) (ee ma mu mv mo : Addr) (h0 : Heap) (n0 : Nat) (Z0 : n0 ≤ h0.size) (EX : Exa Z h0 a "com/example/greater_than/greaterthan/page/Page") (ge : n0 ≤ a) (F_rows : Fld Z h0 a "com/example/greater_than/greaterthan/page/Page" "rows" "Ljava/util/List;" .null) (F_previousCursor : Fld Z h0 a "com/example/greater_than/greaterthan/page/Page" "previousCursor" "Ljava/lang/String;" .null) (F_nextCursor : Fld Z h0 a "com/example/greater_than/greaterthan/page/Page" "nextCursor" "Ljava/lang/String;" .null) (VB : Arv Z h0 b kb (.object "java/lang/Object") (10 : Int32) [w0, w1, w2, .null, .null, .null, .null, .null, .null, .null] .null) (XB : Exa Z h0 b "[Ljava/lang/Object;") (Hw0 : own_Ob Z h0 w0) (Hw1 : own_Ob Z h0 w1) (Hw2 : own_Ob Z h0 w2) (EL : Exa Z h0 bl "java/util/ArrayList") (FE : Fld Z h0 bl "java/util/ArrayList" "elementData" "[Ljava/lang/Object;" (.ref b)) (FZ : Fld Z h0 bl "java/util/ArrayList" "size" "I" (.int (3 : Int32))) (SE : Sta Z h0 "java/util/ArrayList" "EMPTY_ELEMENTDATA" "[Ljava/lang/Object;" (.ref ee)) (M_ma : Mir Z "java/util/ArrayList" ma) (M_mu : Mir Z "java/util/Collections$UnmodifiableList" mu) (M_mv : Mir Z "java/util/Collections$UnmodifiableRandomAccessList" mv) (M_mo : Mir Z "[Ljava/lang/Object;" mo) (r1 : u1.isRef = true) (r2 : u2.isRef = true) :
    MetFree l (⟨"com/example/greater_than/greaterthan/page/Page", "<init>", "(Ljava/util/List;Ljava/lang/String;Ljava/lang/String;)V"⟩ : MethodName) (head1 (Jvm.Cond.code (⟨"com/example/greater_than/greaterthan/page/Page", "<init>", "(Ljava/util/List;Ljava/lang/String;Ljava/lang/String;)V"⟩ : MethodName) prog_39_method_1_code 4 none :: ws) ({ frames := 5, cells := 3, slots := 8, locals := 74 } : Room)) (fun ar U => ar = #[(.ref a), (.ref bl), u1, u2] ∧ Z.Warmed39 U.vm ∧ U.heap = h0) (fun _ _ _ _ _ => True) (fun _ U o U' => ∃ v L, o = .returned v ∧ Q5_3 Z a bl b kb w0 w1 w2 u1 u2 ee ma mu mv mo h0 n0 v U'.heap L ∧ FrameEnd U o U' L ({ frames := 5, cells := 3, slots := 8, locals := 74 } : Room).cells ({ frames := 5, cells := 3, slots := 8, locals := 74 } : Room).slots) := by
  refine MetFree.of_bodySF (plainFor_of_name pn_com_example_greater_than_greaterthan_page_Page) hisR ?_
  intro p e s m args below meth c s₁ Bd hml0 hP hK
  obtain ⟨rfl, hZ, hh⟩ := hP
  have hx := Bd.exec
  have hby := Bd.bytes
  have hml : c.maxLocals = 4 := hml0
  have hown : s.vm.findClass "com/example/greater_than/greaterthan/page/Page" = some m.cls := findClass_of_methodNamed Bd.named
  have hnm := (name_of_methodNamed Bd.named Bd.method).1
  have X0 : Stand p l e ({ frames := 5, cells := 3, slots := 8, locals := 74 } : Room) s m #[(.ref a), (.ref bl), u1, u2] below meth c s₁ [] 0 0 := Stand.of_body Bd
  have e0 : s₁.heap = h0 := by rw [← hh, Bd.state]; rfl
  have N0 := Fr.nil n0
  obtain ⟨F, hF⟩ : ∃ F, F = own_Fin s (Q5_3 Z a bl b kb w0 w1 w2 u1 u2 ee ma mu mv mo h0 n0) ({ frames := 5, cells := 3, slots := 8, locals := 74 } : Room).cells ({ frames := 5, cells := 3, slots := 8, locals := 74 } : Room).slots := ⟨_, rfl⟩
  show own_Ends p e below (own_Fin s (Q5_3 Z a bl b kb w0 w1 w2 u1 u2 ee ma mu mv mo h0 n0) ({ frames := 5, cells := 3, slots := 8, locals := 74 } : Room).cells ({ frames := 5, cells := 3, slots := 8, locals := 74 } : Room).slots) _
  rw [← hF, ef_rm5_3 m a bl u1 u2 (own_catR r1) (own_catR r2)]
  show own_Ends p e below F (s₁.setTop (mkF m 0 #[.val (.ref a), .val (.ref bl), .val u1, .val u2] []))
  refine own_step (fun _ k => XS.aloadN X0.here hx rfl (hb hby d5_0) rfl rfl k) ?_
  show own_Ends p e below F (s₁.setTop (mkF m 1 #[.val (.ref a), .val (.ref bl), .val u1, .val u2] [(.ref a)]))
  obtain ⟨T1, X1, e1, st1⟩ := initO X0 hx hZ hown (own_g hw 32 rfl) (own_g hw 19 rfl) (own_g hw 20 rfl) e0 (g := (mkF m 1 #[.val (.ref a), .val (.ref bl), .val u1, .val u2] [(.ref a)])) rfl (by rw [hml]; rfl) rfl (hb hby d5_1) (by decide) (W := 0) (by show 2 * 0 + _ ≤ _; exact Nat.le_of_eq rfl) (by decide)
  refine own_step st1 ?_
  show own_Ends p e below F (T1.setTop (mkF m 4 #[.val (.ref a), .val (.ref bl), .val u1, .val u2] []))
  refine own_step (fun _ k => XS.aloadN X1.here hx rfl (hb hby d5_4) rfl rfl k) ?_
  show own_Ends p e below F (T1.setTop (mkF m 5 #[.val (.ref a), .val (.ref bl), .val u1, .val u2] [(.ref a)]))
  obtain ⟨T2, h2, X2, e2, E2, A2, D2, -, st2⟩ := newO X1 hx hZ hown (own_g hw 33 rfl) (own_g hw 1 rfl) (own_g hw 2 rfl) e1 (g := (mkF m 5 #[.val (.ref a), .val (.ref bl), .val u1, .val u2] [(.ref a)])) rfl (hb hby d5_5) (by decide) (by decide)
  obtain ⟨a2, g2⟩ : ∃ z, z = h0.size := ⟨_, rfl⟩
  rw [← g2] at A2 D2 st2
  have ge_a2 : n0 ≤ a2 := Nat.le_trans Z0 (Nat.le_of_eq g2.symm)
  have sz_a2 : h0.size ≤ a2 := Nat.le_trans (Nat.le_refl h0.size) (Nat.le_of_eq g2.symm)
  have ne_a_a2 : a ≠ a2 := Nat.ne_of_lt (by rw [g2]; exact EX.lt)
  have ne_b_a2 : b ≠ a2 := Nat.ne_of_lt (by rw [g2]; exact VB.lt)
  have ne_bl_a2 : bl ≠ a2 := Nat.ne_of_lt (by rw [g2]; exact EL.lt)
  have Z2 : n0 ≤ h2.size := Nat.le_trans Z0 E2.1
  have SZ2 : h0.size ≤ h2.size := Nat.le_trans (Nat.le_refl h0.size) E2.1
  have F2_modCount : Fld Z h2 a2 "java/util/AbstractList" "modCount" "I" (.int (0 : Int32)) := D2 (Or.inl (own_g hw 22 rfl)) (ty := .int) (by decide)
  have F2_elementData : Fld Z h2 a2 "java/util/ArrayList" "elementData" "[Ljava/lang/Object;" .null := D2 (Or.inl (own_g hw 25 rfl)) (ty := (.array (.object "java/lang/Object"))) (by decide)
  have F2_size : Fld Z h2 a2 "java/util/ArrayList" "size" "I" (.int (0 : Int32)) := D2 (Or.inl (own_g hw 47 rfl)) (ty := .int) (by decide)
  refine own_step st2 ?_
  show own_Ends p e below F (T2.setTop (mkF m 8 #[.val (.ref a), .val (.ref bl), .val u1, .val u2] [(.ref a2), (.ref a)]))
  refine own_step (fun _ k => XS.dup X2.here hx rfl (hb hby d5_8) rfl rfl k) ?_
  show own_Ends p e below F (T2.setTop (mkF m 9 #[.val (.ref a), .val (.ref bl), .val u1, .val u2] [(.ref a2), (.ref a2), (.ref a)]))
  refine own_step (fun _ k => XS.aloadN X2.here hx rfl (hb hby d5_9) rfl rfl k) ?_
  show own_Ends p e below F (T2.setTop (mkF m 10 #[.val (.ref a), .val (.ref bl), .val u1, .val u2] [(.ref bl), (.ref a2), (.ref a2), (.ref a)]))
  obtain ⟨_, _, ⟨T3, L3, k3, n3⟩, -, X3, ⟨Lc3, hQ3, l3, y3, z3⟩, st3⟩ := X2.specialBack hx (y := (⟨"java/util/ArrayList", "<init>", "(Ljava/util/Collection;)V"⟩ : MethodName)) rfl hown (mvT hZ (own_g hw 34 rfl)) (mvT hZ (own_g hw 35 rfl)) (mvT hZ (own_g hw 36 rfl)) (by decide) (backOf (W := 2) (rm6_3 l Z a0 hw [] a2 bl b kb w0 w1 w2 mo ee ma h2 n0 Z2 A2 ge_a2 F2_modCount F2_elementData F2_size (VB.ext E2) (XB.ext E2) (Hw0.ext E2) (Hw1.ext E2) (Hw2.ext E2) M_mo (EL.ext E2) (FE.ext E2) (FZ.ext E2) (Sta.ext E2 SE) M_ma (Ne.symm ne_bl_a2) (Ne.symm ne_b_a2)) hZ (own_g hw 36 rfl) (own_g hw 2 rfl) (by decide) (by decide)) (g := (mkF m 10 #[.val (.ref a), .val (.ref bl), .val u1, .val u2] [(.ref bl), (.ref a2), (.ref a2), (.ref a)])) rfl (by rw [hml]; rfl) (Steps.refl _) (a := a2) (argsL := [(.ref bl)]) (rest := [(.ref a2), (.ref a)]) (lenOf pd__28Ljava_2futil_2fCollection_3b_29V rfl) rfl (by show 2 * 0 + _ ≤ _; exact Nat.le_of_eq rfl) (hb hby d5_10) (fun _ _ => ⟨rfl, e2, (by decide : 1 + 1 ≤ _), (by decide : 3 + 3 ≤ _)⟩)
  dsimp only [Pt.U, Pt.locs, Pt.cells, Pt.slots] at X3 l3 y3 z3 st3 hQ3
  subst l3 y3 z3
  obtain ⟨rfl, Nq3, Kq3, fq0_3⟩ := hQ3
  have N3 := Fr.app N0 Nq3
  have Z3 : n0 ≤ T3.heap.size := Nat.le_trans Z2 Kq3.1
  have SZ3 : h0.size ≤ T3.heap.size := Nat.le_trans SZ2 Kq3.1
  have S0_3 := own_Sta_keep (Sta.ext E2 SE) Kq3 (allS (own_ns_exa A2) all0)
  refine own_trans st3 ?_
  show own_Ends p e below F (T3.setTop (mkF m 13 #[.val (.ref a), .val (.ref bl), .val u1, .val u2] [(.ref a2), (.ref a)]))
  obtain ⟨_, _, ⟨T4, L4, k4, n4⟩, -, X4, ⟨Lc4, hQ4, l4, y4, z4⟩, st4⟩ := Jvm.LawKit.callS X3 hx (y := (⟨"java/util/Collections", "unmodifiableList", "(Ljava/util/List;)Ljava/util/List;"⟩ : MethodName)) hown (mvT hZ (own_g hw 73 rfl)) (mvT hZ (own_g hw 74 rfl)) (mvT hZ (own_g hw 75 rfl)) (mvT hZ (own_g hw 76 rfl)) (by decide) (backOf (W := 1) (rm11 l Z a0 hw [] a2 ma mu mv T3.heap n0 Z3 fq0_3 M_ma M_mu M_mv) hZ (own_g hw 76 rfl) (own_g hw 75 rfl) (by decide) (by decide)) (g := (mkF m 13 #[.val (.ref a), .val (.ref bl), .val u1, .val u2] [(.ref a2), (.ref a)])) rfl (by rw [hml]; rfl) (argsL := [(.ref a2)]) (rest := [(.ref a)]) (lenOf pd__28Ljava_2futil_2fList_3b_29Ljava_2futil_2fList_3b rfl) rfl (by show 2 * 0 + _ ≤ _; exact Nat.le_of_eq rfl) (hb hby d5_13) (fun _ _ => ⟨rfl, rfl, (by decide : 2 + 1 ≤ _), (by decide : 6 + 2 ≤ _)⟩)
  dsimp only [Pt.U, Pt.locs, Pt.cells, Pt.slots] at X4 l4 y4 z4 st4 hQ4
  subst l4 y4 z4
  obtain ⟨c4, rfl, Nq4, Kq4⟩ := hQ4
  have N4 := Fr.app N3 Nq4
  have Z4 : n0 ≤ T4.heap.size := Nat.le_trans Z3 Kq4.1
  have SZ4 : h0.size ≤ T4.heap.size := Nat.le_trans SZ3 Kq4.1
  have S0_4 := own_Sta_keep S0_3 Kq4 all0
  refine own_step st4 ?_
  show own_Ends p e below F (T4.setTop (mkF m 16 #[.val (.ref a), .val (.ref bl), .val u1, .val u2] [(.ref c4), (.ref a)]))
  obtain ⟨T5, h5, X5, e5, W5, st5⟩ := putF X4 hx hZ hown (host := "") (Or.inl (own_g hw 113 rfl)) Via.refl rfl (((F_rows.ext E2).keep Kq3 (ninS ne_a_a2 nin0)).keep Kq4 nin0) (((EX.ext E2).keep Kq3).keep Kq4) (Or.inr ⟨(own_g hw 114 rfl), rfl, hnm⟩) (own_g hw 27 rfl) (ty := (.object "java/util/List")) (by decide) rfl rfl (g := (mkF m 16 #[.val (.ref a), .val (.ref bl), .val u1, .val u2] [(.ref c4), (.ref a)])) rfl rfl (hb hby d5_16)
  refine own_step st5 ?_
  have F5 := Fld.same W5 (((F_rows.ext E2).keep Kq3 (ninS ne_a_a2 nin0)).keep Kq4 nin0)
  have N5 := Fr.snoc X5 N4 ge
  have Z5 : n0 ≤ h5.size := by rw [W5.size]; exact Z4
  have SZ5 : h0.size ≤ h5.size := by rw [W5.size]; exact SZ4
  show own_Ends p e below F (T5.setTop (mkF m 19 #[.val (.ref a), .val (.ref bl), .val u1, .val u2] []))
  refine own_step (fun _ k => XS.aloadN X5.here hx rfl (hb hby d5_19) rfl rfl k) ?_
  show own_Ends p e below F (T5.setTop (mkF m 20 #[.val (.ref a), .val (.ref bl), .val u1, .val u2] [(.ref a)]))
  refine own_step (fun _ k => XS.aloadN X5.here hx rfl (hb hby d5_20) rfl r1 k) ?_
  show own_Ends p e below F (T5.setTop (mkF m 21 #[.val (.ref a), .val (.ref bl), .val u1, .val u2] [u1, (.ref a)]))
  obtain ⟨T6, h6, X6, e6, W6, st6⟩ := putF X5 hx hZ hown (host := "") (Or.inl (own_g hw 115 rfl)) Via.refl e5 (Fld.other W5 (((F_previousCursor.ext E2).keep Kq3 (ninS ne_a_a2 nin0)).keep Kq4 nin0) (Or.inr (slot_ne (t := (.object "java/lang/String")) (t' := (.object "java/util/List")) (Or.inr (own_g hw 116 rfl)) (Or.inr (own_g hw 114 rfl)) (by decide) (by decide) (by decide)))) ((((EX.ext E2).keep Kq3).keep Kq4).wr W5) (Or.inr ⟨(own_g hw 116 rfl), rfl, hnm⟩) (own_g hw 27 rfl) (ty := (.object "java/lang/String")) (by decide) (own_nvR r1) (own_fvR r1) (g := (mkF m 21 #[.val (.ref a), .val (.ref bl), .val u1, .val u2] [u1, (.ref a)])) rfl rfl (hb hby d5_21)
  refine own_step st6 ?_
  have F6 := Fld.same W6 (Fld.other W5 (((F_previousCursor.ext E2).keep Kq3 (ninS ne_a_a2 nin0)).keep Kq4 nin0) (Or.inr (slot_ne (t := (.object "java/lang/String")) (t' := (.object "java/util/List")) (Or.inr (own_g hw 116 rfl)) (Or.inr (own_g hw 114 rfl)) (by decide) (by decide) (by decide))))
  have N6 := Fr.snoc X6 N5 ge
  have Z6 : n0 ≤ h6.size := by rw [W6.size]; exact Z5
  have SZ6 : h0.size ≤ h6.size := by rw [W6.size]; exact SZ5
  show own_Ends p e below F (T6.setTop (mkF m 24 #[.val (.ref a), .val (.ref bl), .val u1, .val u2] []))
  refine own_step (fun _ k => XS.aloadN X6.here hx rfl (hb hby d5_24) rfl rfl k) ?_
  show own_Ends p e below F (T6.setTop (mkF m 25 #[.val (.ref a), .val (.ref bl), .val u1, .val u2] [(.ref a)]))
  refine own_step (fun _ k => XS.aloadN X6.here hx rfl (hb hby d5_25) rfl r2 k) ?_
  show own_Ends p e below F (T6.setTop (mkF m 26 #[.val (.ref a), .val (.ref bl), .val u1, .val u2] [u2, (.ref a)]))
  obtain ⟨T7, h7, X7, e7, W7, st7⟩ := putF X6 hx hZ hown (host := "") (Or.inl (own_g hw 117 rfl)) Via.refl e6 (Fld.other W6 (Fld.other W5 (((F_nextCursor.ext E2).keep Kq3 (ninS ne_a_a2 nin0)).keep Kq4 nin0) (Or.inr (slot_ne (t := (.object "java/lang/String")) (t' := (.object "java/util/List")) (Or.inr (own_g hw 118 rfl)) (Or.inr (own_g hw 114 rfl)) (by decide) (by decide) (by decide)))) (Or.inr (slot_ne (t := (.object "java/lang/String")) (t' := (.object "java/lang/String")) (Or.inr (own_g hw 118 rfl)) (Or.inr (own_g hw 116 rfl)) (by decide) (by decide) (by decide)))) (((((EX.ext E2).keep Kq3).keep Kq4).wr W5).wr W6) (Or.inr ⟨(own_g hw 118 rfl), rfl, hnm⟩) (own_g hw 27 rfl) (ty := (.object "java/lang/String")) (by decide) (own_nvR r2) (own_fvR r2) (g := (mkF m 26 #[.val (.ref a), .val (.ref bl), .val u1, .val u2] [u2, (.ref a)])) rfl rfl (hb hby d5_26)
  refine own_step st7 ?_
  have F7 := Fld.same W7 (Fld.other W6 (Fld.other W5 (((F_nextCursor.ext E2).keep Kq3 (ninS ne_a_a2 nin0)).keep Kq4 nin0) (Or.inr (slot_ne (t := (.object "java/lang/String")) (t' := (.object "java/util/List")) (Or.inr (own_g hw 118 rfl)) (Or.inr (own_g hw 114 rfl)) (by decide) (by decide) (by decide)))) (Or.inr (slot_ne (t := (.object "java/lang/String")) (t' := (.object "java/lang/String")) (Or.inr (own_g hw 118 rfl)) (Or.inr (own_g hw 116 rfl)) (by decide) (by decide) (by decide))))
  have N7 := Fr.snoc X7 N6 ge
  have Z7 : n0 ≤ h7.size := by rw [W7.size]; exact Z6
  have SZ7 : h0.size ≤ h7.size := by rw [W7.size]; exact SZ6
  show own_Ends p e below F (T7.setTop (mkF m 29 #[.val (.ref a), .val (.ref bl), .val u1, .val u2] []))
  rw [hF]
  exact own_ret X7 (v := none) (fun _ => rfl) Bd.notSynchronized (fun fs hr => X7.returnOut hx Bd.returns (hb hby d5_29) hr) (by decide) (by decide) (by rw [e7]; exact ⟨rfl, N7, ((Keep.wr (Keep.wr (Keep.wr (Keep.trans (Keep.trans (Keep.ext (Keep.refl _ _) E2) Kq3 (allS (Or.inr sz_a2) all0)) Kq4 all0) W5 (Or.inl (List.mem_of_getElem? (i := 0) rfl))) W6 (Or.inl (List.mem_of_getElem? (i := 0) rfl))) W7 (Or.inl (List.mem_of_getElem? (i := 0) rfl))) : Keep h0 h7 [a]), ((((((EX.ext E2).keep Kq3).keep Kq4).wr W5).wr W6).wr W7), (Fld.other W7 F6 (Or.inr (slot_ne (t := (.object "java/lang/String")) (t' := (.object "java/lang/String")) (Or.inr (own_g hw 116 rfl)) (Or.inr (own_g hw 118 rfl)) (by decide) (by decide) (by decide)))), F7⟩)

theorem d15_0 : decode prog_39_method_5_code 0 = .ok (.aload_n 0, 1) := by decide +kernel
theorem d15_1 : decode prog_39_method_5_code 1 = .ok (.getfield 24, 3) := by decide +kernel
theorem d15_4 : decode prog_39_method_5_code 4 = .ok (.ifnull 7, 3) := by decide +kernel
theorem d15_11 : decode prog_39_method_5_code 11 = .ok (.iconst 0, 1) := by decide +kernel
theorem d15_12 : decode prog_39_method_5_code 12 = .ok (.ireturn, 1) := by decide +kernel
theorem ef_rm15n (m : MethodId) (x0 : Addr) : entryFrame m #[(.ref x0)] 1 = mkF m 0 #[.val (.ref x0)] [] := by first | (simp [entryFrame, mkF, argsToLocals, Value.category, maxLocals]; done) | rfl
def Q15n (Z : State) (a : Addr) (h0 : Heap) (n0 : Nat) (v : Option Value) (h : Heap) (L : List Loc) : Prop := v = some (.int 0) ∧ Fr n0 L ∧ h = h0
set_option maxRecDepth 65536 in
set_option maxHeartbeats 40000000 in
theorem rm15n (l : Launch) (Z : State) (a0 : Array Value) (hw : ∀ d ∈ tables_1, d.before a0 Z = true) (ws : List Jvm.Cond) (a : Addr) (h0 : Heap) (n0 : Nat) (Z0 : n0 ≤ h0.size) (FG : Fld Z h0 a "com/example/greater_than/greaterthan/page/Page" "previousCursor" "Ljava/lang/String;" .null) :
    MetFree l (⟨"com/example/greater_than/greaterthan/page/Page", "hasPrevious", "()Z"⟩ : MethodName) (head1 (Jvm.Cond.code (⟨"com/example/greater_than/greaterthan/page/Page", "hasPrevious", "()Z"⟩ : MethodName) prog_39_method_5_code 1 (some .boolean) :: ws) ({ frames := 0, cells := 0, slots := 0, locals := 0 } : Room)) (fun ar U => ar = #[(.ref a)] ∧ Z.Warmed39 U.vm ∧ U.heap = h0) (fun _ _ _ _ _ => True) (fun _ U o U' => ∃ v L, o = .returned v ∧ Q15n Z a h0 n0 v U'.heap L ∧ FrameEnd U o U' L ({ frames := 0, cells := 0, slots := 0, locals := 0 } : Room).cells ({ frames := 0, cells := 0, slots := 0, locals := 0 } : Room).slots) := by
  refine MetFree.of_bodySF (plainFor_of_name pn_com_example_greater_than_greaterthan_page_Page) hisR ?_
  intro p e s m args below meth c s₁ Bd hml0 hP hK
  obtain ⟨rfl, hZ, hh⟩ := hP
  have hx := Bd.exec
  have hby := Bd.bytes
  have hml : c.maxLocals = 1 := hml0
  have hown : s.vm.findClass "com/example/greater_than/greaterthan/page/Page" = some m.cls := findClass_of_methodNamed Bd.named
  have hnm := (name_of_methodNamed Bd.named Bd.method).1
  have X0 : Stand p l e ({ frames := 0, cells := 0, slots := 0, locals := 0 } : Room) s m #[(.ref a)] below meth c s₁ [] 0 0 := Stand.of_body Bd
  have e0 : s₁.heap = h0 := by rw [← hh, Bd.state]; rfl
  have N0 := Fr.nil n0
  obtain ⟨F, hF⟩ : ∃ F, F = own_Fin s (Q15n Z a h0 n0) ({ frames := 0, cells := 0, slots := 0, locals := 0 } : Room).cells ({ frames := 0, cells := 0, slots := 0, locals := 0 } : Room).slots := ⟨_, rfl⟩
  show own_Ends p e below (own_Fin s (Q15n Z a h0 n0) ({ frames := 0, cells := 0, slots := 0, locals := 0 } : Room).cells ({ frames := 0, cells := 0, slots := 0, locals := 0 } : Room).slots) _
  rw [← hF, ef_rm15n m a]
  show own_Ends p e below F (s₁.setTop (mkF m 0 #[.val (.ref a)] []))
  refine own_step (fun _ k => XS.aloadN X0.here hx rfl (hb hby d15_0) rfl rfl k) ?_
  show own_Ends p e below F (s₁.setTop (mkF m 1 #[.val (.ref a)] [(.ref a)]))
  obtain ⟨T1, X1, e1, st1⟩ := getF X0 hx hZ hown (host := "") (Or.inl (own_g hw 115 rfl)) Via.refl e0 FG (g := (mkF m 1 #[.val (.ref a)] [(.ref a)])) rfl rfl (hb hby d15_1)
  refine own_step st1 ?_
  show own_Ends p e below F (T1.setTop (mkF m 4 #[.val (.ref a)] [.null]))
  refine own_step (fun _ k => XS.ifnullYes X1.here hx rfl (pc0 := 4) (pc' := 11) rfl (hb hby d15_4) rfl (by decide) (by decide) k) ?_
  show own_Ends p e below F (T1.setTop (mkF m 11 #[.val (.ref a)] []))
  refine own_step (fun _ k => XS.iconst X1.here hx rfl (hb hby d15_11) k) ?_
  show own_Ends p e below F (T1.setTop (mkF m 12 #[.val (.ref a)] [(.int (0 : Int32))]))
  rw [hF]
  exact own_ret X1 (v := (some (.int (nar .boolean (0 : Int32))))) (fun h => by rw [Bd.returns] at h; cases h) Bd.notSynchronized (fun fs hr => retN X1 hx (t := .boolean) Bd.returns (by simp) (hb hby d15_12) hr) (by decide) (by decide) (by rw [e1]; exact ⟨rfl, N0, rfl⟩)

theorem d15_7 : decode prog_39_method_5_code 7 = .ok (.iconst 1, 1) := by decide +kernel
theorem d15_8 : decode prog_39_method_5_code 8 = .ok (.goto 4, 3) := by decide +kernel
theorem ef_rm15r (m : MethodId) (x0 : Addr) : entryFrame m #[(.ref x0)] 1 = mkF m 0 #[.val (.ref x0)] [] := by first | (simp [entryFrame, mkF, argsToLocals, Value.category, maxLocals]; done) | rfl
def Q15r (Z : State) (a b : Addr) (h0 : Heap) (n0 : Nat) (v : Option Value) (h : Heap) (L : List Loc) : Prop := v = some (.int 1) ∧ Fr n0 L ∧ h = h0
set_option maxRecDepth 65536 in
set_option maxHeartbeats 40000000 in
theorem rm15r (l : Launch) (Z : State) (a0 : Array Value) (hw : ∀ d ∈ tables_1, d.before a0 Z = true) (ws : List Jvm.Cond) (a b : Addr) (h0 : Heap) (n0 : Nat) (Z0 : n0 ≤ h0.size) (FG : Fld Z h0 a "com/example/greater_than/greaterthan/page/Page" "previousCursor" "Ljava/lang/String;" (.ref b)) :
    MetFree l (⟨"com/example/greater_than/greaterthan/page/Page", "hasPrevious", "()Z"⟩ : MethodName) (head1 (Jvm.Cond.code (⟨"com/example/greater_than/greaterthan/page/Page", "hasPrevious", "()Z"⟩ : MethodName) prog_39_method_5_code 1 (some .boolean) :: ws) ({ frames := 0, cells := 0, slots := 0, locals := 0 } : Room)) (fun ar U => ar = #[(.ref a)] ∧ Z.Warmed39 U.vm ∧ U.heap = h0) (fun _ _ _ _ _ => True) (fun _ U o U' => ∃ v L, o = .returned v ∧ Q15r Z a b h0 n0 v U'.heap L ∧ FrameEnd U o U' L ({ frames := 0, cells := 0, slots := 0, locals := 0 } : Room).cells ({ frames := 0, cells := 0, slots := 0, locals := 0 } : Room).slots) := by
  refine MetFree.of_bodySF (plainFor_of_name pn_com_example_greater_than_greaterthan_page_Page) hisR ?_
  intro p e s m args below meth c s₁ Bd hml0 hP hK
  obtain ⟨rfl, hZ, hh⟩ := hP
  have hx := Bd.exec
  have hby := Bd.bytes
  have hml : c.maxLocals = 1 := hml0
  have hown : s.vm.findClass "com/example/greater_than/greaterthan/page/Page" = some m.cls := findClass_of_methodNamed Bd.named
  have hnm := (name_of_methodNamed Bd.named Bd.method).1
  have X0 : Stand p l e ({ frames := 0, cells := 0, slots := 0, locals := 0 } : Room) s m #[(.ref a)] below meth c s₁ [] 0 0 := Stand.of_body Bd
  have e0 : s₁.heap = h0 := by rw [← hh, Bd.state]; rfl
  have N0 := Fr.nil n0
  obtain ⟨F, hF⟩ : ∃ F, F = own_Fin s (Q15r Z a b h0 n0) ({ frames := 0, cells := 0, slots := 0, locals := 0 } : Room).cells ({ frames := 0, cells := 0, slots := 0, locals := 0 } : Room).slots := ⟨_, rfl⟩
  show own_Ends p e below (own_Fin s (Q15r Z a b h0 n0) ({ frames := 0, cells := 0, slots := 0, locals := 0 } : Room).cells ({ frames := 0, cells := 0, slots := 0, locals := 0 } : Room).slots) _
  rw [← hF, ef_rm15r m a]
  show own_Ends p e below F (s₁.setTop (mkF m 0 #[.val (.ref a)] []))
  refine own_step (fun _ k => XS.aloadN X0.here hx rfl (hb hby d15_0) rfl rfl k) ?_
  show own_Ends p e below F (s₁.setTop (mkF m 1 #[.val (.ref a)] [(.ref a)]))
  obtain ⟨T1, X1, e1, st1⟩ := getF X0 hx hZ hown (host := "") (Or.inl (own_g hw 115 rfl)) Via.refl e0 FG (g := (mkF m 1 #[.val (.ref a)] [(.ref a)])) rfl rfl (hb hby d15_1)
  refine own_step st1 ?_
  show own_Ends p e below F (T1.setTop (mkF m 4 #[.val (.ref a)] [(.ref b)]))
  refine own_step (fun _ k => XS.ifnullNo X1.here hx rfl (hb hby d15_4) rfl k) ?_
  show own_Ends p e below F (T1.setTop (mkF m 7 #[.val (.ref a)] []))
  refine own_step (fun _ k => XS.iconst X1.here hx rfl (hb hby d15_7) k) ?_
  show own_Ends p e below F (T1.setTop (mkF m 8 #[.val (.ref a)] [(.int (1 : Int32))]))
  refine own_step (fun _ k => XS.goto X1.here hx rfl (pc0 := 8) (pc' := 12) rfl (hb hby d15_8) (by decide) (by decide) k) ?_
  show own_Ends p e below F (T1.setTop (mkF m 12 #[.val (.ref a)] [(.int (1 : Int32))]))
  rw [hF]
  exact own_ret X1 (v := (some (.int (nar .boolean (1 : Int32))))) (fun h => by rw [Bd.returns] at h; cases h) Bd.notSynchronized (fun fs hr => retN X1 hx (t := .boolean) Bd.returns (by simp) (hb hby d15_12) hr) (by decide) (by decide) (by rw [e1]; exact ⟨rfl, N0, rfl⟩)

theorem d31_0 : decode jdk_43_method_3_code 0 = .ok (.iload_n 0, 1) := by decide +kernel
theorem d31_1 : decode jdk_43_method_3_code 1 = .ok (.sipush 255, 3) := by decide +kernel
theorem d31_4 : decode jdk_43_method_3_code 4 = .ok (.if_icmp .gt 7, 3) := by decide +kernel
theorem d31_7 : decode jdk_43_method_3_code 7 = .ok (.iconst 1, 1) := by decide +kernel
theorem d31_8 : decode jdk_43_method_3_code 8 = .ok (.goto 4, 3) := by decide +kernel
theorem d31_12 : decode jdk_43_method_3_code 12 = .ok (.ireturn, 1) := by decide +kernel
theorem pn_java_lang_StringLatin1 : plainName "java/lang/StringLatin1" = true := by first | (simp [plainName, overriddenIn]; done) | decide +kernel
theorem ef_rm31 (m : MethodId) (x0 : Int32) : entryFrame m #[(.int x0)] 1 = mkF m 0 #[.val (.int x0)] [] := by first | (simp [entryFrame, mkF, argsToLocals, Value.category, maxLocals]; done) | rfl
def Q31 (Z : State) (p1 : Int32) (h0 : Heap) (n0 : Nat) (v : Option Value) (h : Heap) (L : List Loc) : Prop := v = some (.int 1) ∧ Fr n0 L ∧ h = h0
set_option maxRecDepth 65536 in
set_option maxHeartbeats 40000000 in
theorem rm31 (l : Launch) (Z : State) (a0 : Array Value) (hw : ∀ d ∈ tables_1, d.before a0 Z = true) (ws : List Jvm.Cond) (p1 : Int32) (h0 : Heap) (n0 : Nat) (Z0 : n0 ≤ h0.size) (hp : ¬ p1 < 0 ∧ ¬ (255 : Int32) < p1) :
    MetFree l (⟨"java/lang/StringLatin1", "canEncode", "(C)Z"⟩ : MethodName) (head1 (Jvm.Cond.code (⟨"java/lang/StringLatin1", "canEncode", "(C)Z"⟩ : MethodName) jdk_43_method_3_code 1 (some .boolean) :: ws) ({ frames := 0, cells := 0, slots := 0, locals := 0 } : Room)) (fun ar U => ar = #[(.int p1)] ∧ Z.Warmed39 U.vm ∧ U.heap = h0) (fun _ _ _ _ _ => True) (fun _ U o U' => ∃ v L, o = .returned v ∧ Q31 Z p1 h0 n0 v U'.heap L ∧ FrameEnd U o U' L ({ frames := 0, cells := 0, slots := 0, locals := 0 } : Room).cells ({ frames := 0, cells := 0, slots := 0, locals := 0 } : Room).slots) := by
  refine MetFree.of_bodySF (plainFor_of_name pn_java_lang_StringLatin1) hisR ?_
  intro p e s m args below meth c s₁ Bd hml0 hP hK
  obtain ⟨rfl, hZ, hh⟩ := hP
  have hx := Bd.exec
  have hby := Bd.bytes
  have hml : c.maxLocals = 1 := hml0
  have hown : s.vm.findClass "java/lang/StringLatin1" = some m.cls := findClass_of_methodNamed Bd.named
  have hnm := (name_of_methodNamed Bd.named Bd.method).1
  have X0 : Stand p l e ({ frames := 0, cells := 0, slots := 0, locals := 0 } : Room) s m #[(.int p1)] below meth c s₁ [] 0 0 := Stand.of_body Bd
  have e0 : s₁.heap = h0 := by rw [← hh, Bd.state]; rfl
  have N0 := Fr.nil n0
  obtain ⟨F, hF⟩ : ∃ F, F = own_Fin s (Q31 Z p1 h0 n0) ({ frames := 0, cells := 0, slots := 0, locals := 0 } : Room).cells ({ frames := 0, cells := 0, slots := 0, locals := 0 } : Room).slots := ⟨_, rfl⟩
  show own_Ends p e below (own_Fin s (Q31 Z p1 h0 n0) ({ frames := 0, cells := 0, slots := 0, locals := 0 } : Room).cells ({ frames := 0, cells := 0, slots := 0, locals := 0 } : Room).slots) _
  rw [← hF, ef_rm31 m p1]
  show own_Ends p e below F (s₁.setTop (mkF m 0 #[.val (.int p1)] []))
  refine own_step (fun _ k => XS.iloadN X0.here hx rfl (hb hby d31_0) rfl k) ?_
  show own_Ends p e below F (s₁.setTop (mkF m 1 #[.val (.int p1)] [(.int p1)]))
  refine own_step (fun _ k => XS.sipush X0.here hx rfl (hb hby d31_1) k) ?_
  show own_Ends p e below F (s₁.setTop (mkF m 4 #[.val (.int p1)] [(.int (255 : Int32)), (.int p1)]))
  refine own_step (fun _ k => XS.icmpNo X0.here hx rfl (hb hby d31_4) rfl (flt (hp.2 : ¬ ((255 : Int32) < p1))).2.2.1 k) ?_
  show own_Ends p e below F (s₁.setTop (mkF m 7 #[.val (.int p1)] []))
  refine own_step (fun _ k => XS.iconst X0.here hx rfl (hb hby d31_7) k) ?_
  show own_Ends p e below F (s₁.setTop (mkF m 8 #[.val (.int p1)] [(.int (1 : Int32))]))
  refine own_step (fun _ k => XS.goto X0.here hx rfl (pc0 := 8) (pc' := 12) rfl (hb hby d31_8) (by decide) (by decide) k) ?_
  show own_Ends p e below F (s₁.setTop (mkF m 12 #[.val (.int p1)] [(.int (1 : Int32))]))
  rw [hF]
  exact own_ret X0 (v := (some (.int (nar .boolean (1 : Int32))))) (fun h => by rw [Bd.returns] at h; cases h) Bd.notSynchronized (fun fs hr => retN X0 hx (t := .boolean) Bd.returns (by simp) (hb hby d31_12) hr) (by decide) (by decide) (by rw [e0]; exact ⟨rfl, N0, rfl⟩)

theorem d32_0 : decode jdk_43_method_46_code 0 = .ok (.iconst 1, 1) := by decide +kernel
theorem d32_1 : decode jdk_43_method_46_code 1 = .ok (.newarray .byte, 2) := by decide +kernel
theorem d32_3 : decode jdk_43_method_46_code 3 = .ok (.dup, 1) := by decide +kernel
theorem d32_4 : decode jdk_43_method_46_code 4 = .ok (.iconst 0, 1) := by decide +kernel
theorem d32_5 : decode jdk_43_method_46_code 5 = .ok (.iload_n 0, 1) := by decide +kernel
theorem d32_6 : decode jdk_43_method_46_code 6 = .ok (.i2b, 1) := by decide +kernel
theorem d32_7 : decode jdk_43_method_46_code 7 = .ok (.bastore, 1) := by decide +kernel
theorem d32_8 : decode jdk_43_method_46_code 8 = .ok (.areturn, 1) := by decide +kernel
theorem ef_rm32 (m : MethodId) (x0 : Int32) : entryFrame m #[(.int x0)] 1 = mkF m 0 #[.val (.int x0)] [] := by first | (simp [entryFrame, mkF, argsToLocals, Value.category, maxLocals]; done) | rfl
def Q32 (Z : State) (p1 : Int32) (h0 : Heap) (n0 : Nat) (v : Option Value) (h : Heap) (L : List Loc) : Prop := ∃ c k, v = some (.ref c) ∧ Fr n0 L ∧ Keep h0 h [] ∧ h0.size ≤ c ∧ Arv Z h c k .byte (1 : Int32) [(.int (p1.toInt8.toInt32))] (.int (0 : Int32))
set_option maxRecDepth 65536 in
set_option maxHeartbeats 40000000 in
theorem rm32 (l : Launch) (Z : State) (a0 : Array Value) (hw : ∀ d ∈ tables_1, d.before a0 Z = true) (ws : List Jvm.Cond) (p1 : Int32) (h0 : Heap) (n0 : Nat) (Z0 : n0 ≤ h0.size)  :
    MetFree l (⟨"java/lang/StringLatin1", "toBytes", "(C)[B"⟩ : MethodName) (head1 (Jvm.Cond.code (⟨"java/lang/StringLatin1", "toBytes", "(C)[B"⟩ : MethodName) jdk_43_method_46_code 1 (some (.array .byte)) :: ws) ({ frames := 0, cells := 1, slots := 1, locals := 0 } : Room)) (fun ar U => ar = #[(.int p1)] ∧ Z.Warmed39 U.vm ∧ U.heap = h0) (fun _ _ _ _ _ => True) (fun _ U o U' => ∃ v L, o = .returned v ∧ Q32 Z p1 h0 n0 v U'.heap L ∧ FrameEnd U o U' L ({ frames := 0, cells := 1, slots := 1, locals := 0 } : Room).cells ({ frames := 0, cells := 1, slots := 1, locals := 0 } : Room).slots) := by
  refine MetFree.of_bodySF (plainFor_of_name pn_java_lang_StringLatin1) hisR ?_
  intro p e s m args below meth c s₁ Bd hml0 hP hK
  obtain ⟨rfl, hZ, hh⟩ := hP
  have hx := Bd.exec
  have hby := Bd.bytes
  have hml : c.maxLocals = 1 := hml0
  have hown : s.vm.findClass "java/lang/StringLatin1" = some m.cls := findClass_of_methodNamed Bd.named
  have hnm := (name_of_methodNamed Bd.named Bd.method).1
  have X0 : Stand p l e ({ frames := 0, cells := 1, slots := 1, locals := 0 } : Room) s m #[(.int p1)] below meth c s₁ [] 0 0 := Stand.of_body Bd
  have e0 : s₁.heap = h0 := by rw [← hh, Bd.state]; rfl
  have N0 := Fr.nil n0
  obtain ⟨F, hF⟩ : ∃ F, F = own_Fin s (Q32 Z p1 h0 n0) ({ frames := 0, cells := 1, slots := 1, locals := 0 } : Room).cells ({ frames := 0, cells := 1, slots := 1, locals := 0 } : Room).slots := ⟨_, rfl⟩
  show own_Ends p e below (own_Fin s (Q32 Z p1 h0 n0) ({ frames := 0, cells := 1, slots := 1, locals := 0 } : Room).cells ({ frames := 0, cells := 1, slots := 1, locals := 0 } : Room).slots) _
  rw [← hF, ef_rm32 m p1]
  show own_Ends p e below F (s₁.setTop (mkF m 0 #[.val (.int p1)] []))
  refine own_step (fun _ k => XS.iconst X0.here hx rfl (hb hby d32_0) k) ?_
  show own_Ends p e below F (s₁.setTop (mkF m 1 #[.val (.int p1)] [(.int (1 : Int32))]))
  obtain ⟨T1, h1, k1, X1, e1, E1, A1, st1⟩ := newP X0 hx hZ (own_g hw 131 rfl) e0 (g := (mkF m 1 #[.val (.int p1)] [(.int (1 : Int32))])) rfl (hb hby d32_1) rfl (by decide) (cap := 1) (by decide) (by decide) (by decide) (by decide)
  obtain ⟨a1, g1⟩ : ∃ z, z = h0.size := ⟨_, rfl⟩
  rw [← g1] at A1 st1
  have ge_a1 : n0 ≤ a1 := Nat.le_trans Z0 (Nat.le_of_eq g1.symm)
  have sz_a1 : h0.size ≤ a1 := Nat.le_trans (Nat.le_refl h0.size) (Nat.le_of_eq g1.symm)
  have Z1 : n0 ≤ h1.size := Nat.le_trans Z0 E1.1
  have SZ1 : h0.size ≤ h1.size := Nat.le_trans (Nat.le_refl h0.size) E1.1
  have V1 : Arv Z h1 a1 k1 .byte (1 : Int32) [(.int (0 : Int32))] (.int (0 : Int32)) := Arv.pad (Arv.new A1 (by decide)) (pad_rep [] _ 1)
  refine own_step st1 ?_
  show own_Ends p e below F (T1.setTop (mkF m 3 #[.val (.int p1)] [(.ref a1)]))
  refine own_step (fun _ k => XS.dup X1.here hx rfl (hb hby d32_3) rfl rfl k) ?_
  show own_Ends p e below F (T1.setTop (mkF m 4 #[.val (.int p1)] [(.ref a1), (.ref a1)]))
  refine own_step (fun _ k => XS.iconst X1.here hx rfl (hb hby d32_4) k) ?_
  show own_Ends p e below F (T1.setTop (mkF m 5 #[.val (.int p1)] [(.int (0 : Int32)), (.ref a1), (.ref a1)]))
  refine own_step (fun _ k => XS.iloadN X1.here hx rfl (hb hby d32_5) rfl k) ?_
  show own_Ends p e below F (T1.setTop (mkF m 6 #[.val (.int p1)] [(.int p1), (.int (0 : Int32)), (.ref a1), (.ref a1)]))
  refine own_step (fun _ k => XS.i2b X1.here hx rfl (hb hby d32_6) rfl k) ?_
  show own_Ends p e below F (T1.setTop (mkF m 7 #[.val (.int p1)] [(.int (p1.toInt8.toInt32)), (.int (0 : Int32)), (.ref a1), (.ref a1)]))
  obtain ⟨cl2, Ar2, q2, S2, M2, H2, G2⟩ := id V1
  have hin2 : ¬ ((0 : Int32) < 0 ∨ cl2.slots.size ≤ ((0 : Int32) : Int32).toNatClampNeg) := inb_of S2 ⟨by decide, by decide⟩
  obtain ⟨T2, h2, X2, e2, W2, st2⟩ := stB X1 hx hZ e1 Ar2 (j := (0 : Int32)) hin2 (g := (mkF m 7 #[.val (.int p1)] [(.int (p1.toInt8.toInt32)), (.int (0 : Int32)), (.ref a1), (.ref a1)])) rfl rfl (hb hby d32_7)
  rw [own_nar8 p1] at W2
  have V2 := Arv.set Ar2 q2 S2 M2 H2 G2 (fits_nar_byte p1) W2 0 rfl (Nat.le_of_ble_eq_true rfl)
  have V2 : Arv Z h2 a1 k1 .byte (1 : Int32) [(.int (p1.toInt8.toInt32))] (.int (0 : Int32)) := V2
  refine own_step st2 ?_
  have N2 := Fr.snoc X2 N0 ge_a1
  have Z2 : n0 ≤ h2.size := by rw [W2.size]; exact Z1
  have SZ2 : h0.size ≤ h2.size := by rw [W2.size]; exact SZ1
  show own_Ends p e below F (T2.setTop (mkF m 8 #[.val (.int p1)] [(.ref a1)]))
  rw [hF]
  exact own_ret X2 (v := (some (.ref a1))) (fun h => by rw [Bd.returns] at h; cases h) Bd.notSynchronized (fun fs hr => retOut X2 hx (t := (.array .byte)) (w := (.ref a1)) (i := .areturn) Bd.returns rfl (Or.inr (Or.inr (Or.inr (Or.inr ⟨rfl, rfl, rfl⟩)))) (hb hby d32_8) hr) (by decide) (by decide) (by rw [e2]; exact ⟨_, _, rfl, N2, ((Keep.wr (Keep.ext (Keep.refl _ _) E1) W2 (Or.inr sz_a1)) : Keep h0 h2 []), sz_a1, V2⟩)

theorem d33_0 : decode jdk_42_method_151_code 0 = .ok (.aload_n 0, 1) := by decide +kernel
theorem d33_1 : decode jdk_42_method_151_code 1 = .ok (.invokespecial 1, 3) := by decide +kernel
theorem d33_4 : decode jdk_42_method_151_code 4 = .ok (.aload_n 0, 1) := by decide +kernel
theorem d33_5 : decode jdk_42_method_151_code 5 = .ok (.aload_n 1, 1) := by decide +kernel
theorem d33_6 : decode jdk_42_method_151_code 6 = .ok (.putfield 9, 3) := by decide +kernel
theorem d33_9 : decode jdk_42_method_151_code 9 = .ok (.aload_n 0, 1) := by decide +kernel
theorem d33_10 : decode jdk_42_method_151_code 10 = .ok (.iload_n 2, 1) := by decide +kernel
theorem d33_11 : decode jdk_42_method_151_code 11 = .ok (.putfield 15, 3) := by decide +kernel
theorem d33_14 : decode jdk_42_method_151_code 14 = .ok (.return_, 1) := by decide +kernel
theorem pn_java_lang_String : plainName "java/lang/String" = true := by first | (simp [plainName, overriddenIn]; done) | decide +kernel
theorem ef_rm33 (m : MethodId) (x0 : Addr) (x1 : Addr) (x2 : Int32) : entryFrame m #[(.ref x0), (.ref x1), (.int x2)] 3 = mkF m 0 #[.val (.ref x0), .val (.ref x1), .val (.int x2)] [] := by first | (simp [entryFrame, mkF, argsToLocals, Value.category, maxLocals]; done) | rfl
def Q33 (Z : State) (a : Addr) (p1 : Addr) (h0 : Heap) (n0 : Nat) (v : Option Value) (h : Heap) (L : List Loc) : Prop := v = none ∧ Fr n0 L ∧ Keep h0 h [a] ∧ Exa Z h a "java/lang/String" ∧ Fld Z h a "java/lang/String" "value" "[B" (.ref p1) ∧ Fld Z h a "java/lang/String" "coder" "B" (.int (0 : Int32))
set_option maxRecDepth 65536 in
set_option maxHeartbeats 40000000 in
theorem rm33 (l : Launch) (Z : State) (a0 : Array Value) (hw : ∀ d ∈ tables_1, d.before a0 Z = true) (ws : List Jvm.Cond) (a : Addr) (p1 : Addr) (h0 : Heap) (n0 : Nat) (Z0 : n0 ≤ h0.size) (EX : Exa Z h0 a "java/lang/String") (ge : n0 ≤ a) (F_value : Fld Z h0 a "java/lang/String" "value" "[B" .null) (F_coder : Fld Z h0 a "java/lang/String" "coder" "B" (.int (0 : Int32))) :
    MetFree l (⟨"java/lang/String", "<init>", "([BB)V"⟩ : MethodName) (head1 (Jvm.Cond.code (⟨"java/lang/String", "<init>", "([BB)V"⟩ : MethodName) jdk_42_method_151_code 3 none :: ws) ({ frames := 1, cells := 0, slots := 0, locals := 12 } : Room)) (fun ar U => ar = #[(.ref a), (.ref p1), (.int (0 : Int32))] ∧ Z.Warmed39 U.vm ∧ U.heap = h0) (fun _ _ _ _ _ => True) (fun _ U o U' => ∃ v L, o = .returned v ∧ Q33 Z a p1 h0 n0 v U'.heap L ∧ FrameEnd U o U' L ({ frames := 1, cells := 0, slots := 0, locals := 12 } : Room).cells ({ frames := 1, cells := 0, slots := 0, locals := 12 } : Room).slots) := by
  refine MetFree.of_bodySF (plainFor_of_name pn_java_lang_String) hisR ?_
  intro p e s m args below meth c s₁ Bd hml0 hP hK
  obtain ⟨rfl, hZ, hh⟩ := hP
  have hx := Bd.exec
  have hby := Bd.bytes
  have hml : c.maxLocals = 3 := hml0
  have hown : s.vm.findClass "java/lang/String" = some m.cls := findClass_of_methodNamed Bd.named
  have hnm := (name_of_methodNamed Bd.named Bd.method).1
  have X0 : Stand p l e ({ frames := 1, cells := 0, slots := 0, locals := 12 } : Room) s m #[(.ref a), (.ref p1), (.int (0 : Int32))] below meth c s₁ [] 0 0 := Stand.of_body Bd
  have e0 : s₁.heap = h0 := by rw [← hh, Bd.state]; rfl
  have N0 := Fr.nil n0
  obtain ⟨F, hF⟩ : ∃ F, F = own_Fin s (Q33 Z a p1 h0 n0) ({ frames := 1, cells := 0, slots := 0, locals := 12 } : Room).cells ({ frames := 1, cells := 0, slots := 0, locals := 12 } : Room).slots := ⟨_, rfl⟩
  show own_Ends p e below (own_Fin s (Q33 Z a p1 h0 n0) ({ frames := 1, cells := 0, slots := 0, locals := 12 } : Room).cells ({ frames := 1, cells := 0, slots := 0, locals := 12 } : Room).slots) _
  rw [← hF, ef_rm33 m a p1 (0 : Int32)]
  show own_Ends p e below F (s₁.setTop (mkF m 0 #[.val (.ref a), .val (.ref p1), .val (.int (0 : Int32))] []))
  refine own_step (fun _ k => XS.aloadN X0.here hx rfl (hb hby d33_0) rfl rfl k) ?_
  show own_Ends p e below F (s₁.setTop (mkF m 1 #[.val (.ref a), .val (.ref p1), .val (.int (0 : Int32))] [(.ref a)]))
  obtain ⟨T1, X1, e1, st1⟩ := initO X0 hx hZ hown (own_g hw 198 rfl) (own_g hw 19 rfl) (own_g hw 20 rfl) e0 (g := (mkF m 1 #[.val (.ref a), .val (.ref p1), .val (.int (0 : Int32))] [(.ref a)])) rfl (by rw [hml]; rfl) rfl (hb hby d33_1) (by decide) (W := 0) (by show 2 * 0 + _ ≤ _; exact Nat.le_of_eq rfl) (by decide)
  refine own_step st1 ?_
  show own_Ends p e below F (T1.setTop (mkF m 4 #[.val (.ref a), .val (.ref p1), .val (.int (0 : Int32))] []))
  refine own_step (fun _ k => XS.aloadN X1.here hx rfl (hb hby d33_4) rfl rfl k) ?_
  show own_Ends p e below F (T1.setTop (mkF m 5 #[.val (.ref a), .val (.ref p1), .val (.int (0 : Int32))] [(.ref a)]))
  refine own_step (fun _ k => XS.aloadN X1.here hx rfl (hb hby d33_5) rfl rfl k) ?_
  show own_Ends p e below F (T1.setTop (mkF m 6 #[.val (.ref a), .val (.ref p1), .val (.int (0 : Int32))] [(.ref p1), (.ref a)]))
  obtain ⟨T2, h2, X2, e2, W2, st2⟩ := putF X1 hx hZ hown (host := "") (Or.inl (own_g hw 211 rfl)) Via.refl e1 F_value EX (Or.inr ⟨(own_g hw 132 rfl), rfl, hnm⟩) (own_g hw 130 rfl) (ty := (.array .byte)) (by decide) rfl rfl (g := (mkF m 6 #[.val (.ref a), .val (.ref p1), .val (.int (0 : Int32))] [(.ref p1), (.ref a)])) rfl rfl (hb hby d33_6)
  refine own_step st2 ?_
  have F2 := Fld.same W2 F_value
  have N2 := Fr.snoc X2 N0 ge
  have Z2 : n0 ≤ h2.size := by rw [W2.size]; exact Z0
  have SZ2 : h0.size ≤ h2.size := by rw [W2.size]; exact (Nat.le_refl h0.size)
  show own_Ends p e below F (T2.setTop (mkF m 9 #[.val (.ref a), .val (.ref p1), .val (.int (0 : Int32))] []))
  refine own_step (fun _ k => XS.aloadN X2.here hx rfl (hb hby d33_9) rfl rfl k) ?_
  show own_Ends p e below F (T2.setTop (mkF m 10 #[.val (.ref a), .val (.ref p1), .val (.int (0 : Int32))] [(.ref a)]))
  refine own_step (fun _ k => XS.iloadN X2.here hx rfl (hb hby d33_10) rfl k) ?_
  show own_Ends p e below F (T2.setTop (mkF m 11 #[.val (.ref a), .val (.ref p1), .val (.int (0 : Int32))] [(.int (0 : Int32)), (.ref a)]))
  obtain ⟨T3, h3, X3, e3, W3, st3⟩ := putFN X2 hx hZ hown (own_g hw 210 rfl) Via.refl e2 (Fld.other W2 F_coder (Or.inr (slot_ne (t := .byte) (t' := (.array .byte)) (Or.inr (own_g hw 133 rfl)) (Or.inr (own_g hw 132 rfl)) (by decide) (by decide) (by decide)))) (EX.wr W2) (Or.inr ⟨(own_g hw 133 rfl), rfl, hnm⟩) (own_g hw 130 rfl) (ty := .byte) (v' := (.int (0 : Int32))) (by decide) rfl rfl (g := (mkF m 11 #[.val (.ref a), .val (.ref p1), .val (.int (0 : Int32))] [(.int (0 : Int32)), (.ref a)])) rfl rfl (hb hby d33_11)
  refine own_step st3 ?_
  have F3 := Fld.same W3 (Fld.other W2 F_coder (Or.inr (slot_ne (t := .byte) (t' := (.array .byte)) (Or.inr (own_g hw 133 rfl)) (Or.inr (own_g hw 132 rfl)) (by decide) (by decide) (by decide))))
  have N3 := Fr.snoc X3 N2 ge
  have Z3 : n0 ≤ h3.size := by rw [W3.size]; exact Z2
  have SZ3 : h0.size ≤ h3.size := by rw [W3.size]; exact SZ2
  show own_Ends p e below F (T3.setTop (mkF m 14 #[.val (.ref a), .val (.ref p1), .val (.int (0 : Int32))] []))
  rw [hF]
  exact own_ret X3 (v := none) (fun _ => rfl) Bd.notSynchronized (fun fs hr => X3.returnOut hx Bd.returns (hb hby d33_14) hr) (by decide) (by decide) (by rw [e3]; exact ⟨rfl, N3, ((Keep.wr (Keep.wr (Keep.refl _ _) W2 (Or.inl (List.mem_of_getElem? (i := 0) rfl))) W3 (Or.inl (List.mem_of_getElem? (i := 0) rfl))) : Keep h0 h3 [a]), ((EX.wr W2).wr W3), (Fld.other W3 F2 (Or.inr (slot_ne (t := (.array .byte)) (t' := .byte) (Or.inr (own_g hw 132 rfl)) (Or.inr (own_g hw 133 rfl)) (by decide) (by decide) (by decide)))), F3⟩)

theorem d30_0 : decode jdk_42_method_139_code 0 = .ok (.getstatic 38, 3) := by decide +kernel
theorem d30_3 : decode jdk_42_method_139_code 3 = .ok (.ifCond .eq 23, 3) := by decide +kernel
theorem d30_6 : decode jdk_42_method_139_code 6 = .ok (.iload_n 0, 1) := by decide +kernel
theorem d30_7 : decode jdk_42_method_139_code 7 = .ok (.invokestatic 1015, 3) := by decide +kernel
theorem d30_10 : decode jdk_42_method_139_code 10 = .ok (.ifCond .eq 16, 3) := by decide +kernel
theorem d30_13 : decode jdk_42_method_139_code 13 = .ok (.new 10, 3) := by decide +kernel
theorem d30_16 : decode jdk_42_method_139_code 16 = .ok (.dup, 1) := by decide +kernel
theorem d30_17 : decode jdk_42_method_139_code 17 = .ok (.iload_n 0, 1) := by decide +kernel
theorem d30_18 : decode jdk_42_method_139_code 18 = .ok (.invokestatic 1018, 3) := by decide +kernel
theorem d30_21 : decode jdk_42_method_139_code 21 = .ok (.iconst 0, 1) := by decide +kernel
theorem d30_22 : decode jdk_42_method_139_code 22 = .ok (.invokespecial 209, 3) := by decide +kernel
theorem d30_25 : decode jdk_42_method_139_code 25 = .ok (.areturn, 1) := by decide +kernel
theorem pd__28C_29Z : parseMethodDescriptor "(C)Z" = some ⟨[.char], some .boolean⟩ := by decide +kernel
theorem pd__28C_29_5bB : parseMethodDescriptor "(C)[B" = some ⟨[.char], some (.array .byte)⟩ := by decide +kernel
theorem pd__28_5bBB_29V : parseMethodDescriptor "([BB)V" = some ⟨[(.array .byte), .byte], none⟩ := by decide +kernel
theorem ef_rm30 (m : MethodId) (x0 : Int32) : entryFrame m #[(.int x0)] 1 = mkF m 0 #[.val (.int x0)] [] := by first | (simp [entryFrame, mkF, argsToLocals, Value.category, maxLocals]; done) | rfl
def Q30 (Z : State) (p1 zc : Int32) (h0 : Heap) (n0 : Nat) (v : Option Value) (h : Heap) (L : List Loc) : Prop := ∃ c, v = some (.ref c) ∧ Fr n0 L ∧ Keep h0 h [] ∧ h0.size ≤ c ∧ own_Str Z h h.size c [p1]
set_option maxRecDepth 65536 in
set_option maxHeartbeats 40000000 in
theorem rm30 (l : Launch) (Z : State) (a0 : Array Value) (hw : ∀ d ∈ tables_1, d.before a0 Z = true) (ws : List Jvm.Cond) (p1 zc : Int32) (h0 : Heap) (n0 : Nat) (Z0 : n0 ≤ h0.size) (SC : Sta Z h0 "java/lang/String" "COMPACT_STRINGS" "Z" (.int zc)) (hz : ¬ zc = 0) (hp : ¬ p1 < 0 ∧ ¬ (255 : Int32) < p1) :
    MetFree l (⟨"java/lang/String", "valueOf", "(C)Ljava/lang/String;"⟩ : MethodName) (head1 (Jvm.Cond.code (⟨"java/lang/String", "valueOf", "(C)Ljava/lang/String;"⟩ : MethodName) jdk_42_method_139_code 1 (some (.object "java/lang/String")) :: ws) ({ frames := 2, cells := 2, slots := 5, locals := 27 } : Room)) (fun ar U => ar = #[(.int p1)] ∧ Z.Warmed39 U.vm ∧ U.heap = h0) (fun _ _ _ _ _ => True) (fun _ U o U' => ∃ v L, o = .returned v ∧ Q30 Z p1 zc h0 n0 v U'.heap L ∧ FrameEnd U o U' L ({ frames := 2, cells := 2, slots := 5, locals := 27 } : Room).cells ({ frames := 2, cells := 2, slots := 5, locals := 27 } : Room).slots) := by
  refine MetFree.of_bodySF (plainFor_of_name pn_java_lang_String) hisR ?_
  intro p e s m args below meth c s₁ Bd hml0 hP hK
  obtain ⟨rfl, hZ, hh⟩ := hP
  have hx := Bd.exec
  have hby := Bd.bytes
  have hml : c.maxLocals = 1 := hml0
  have hown : s.vm.findClass "java/lang/String" = some m.cls := findClass_of_methodNamed Bd.named
  have hnm := (name_of_methodNamed Bd.named Bd.method).1
  have X0 : Stand p l e ({ frames := 2, cells := 2, slots := 5, locals := 27 } : Room) s m #[(.int p1)] below meth c s₁ [] 0 0 := Stand.of_body Bd
  have e0 : s₁.heap = h0 := by rw [← hh, Bd.state]; rfl
  have N0 := Fr.nil n0
  obtain ⟨F, hF⟩ : ∃ F, F = own_Fin s (Q30 Z p1 zc h0 n0) ({ frames := 2, cells := 2, slots := 5, locals := 27 } : Room).cells ({ frames := 2, cells := 2, slots := 5, locals := 27 } : Room).slots := ⟨_, rfl⟩
  show own_Ends p e below (own_Fin s (Q30 Z p1 zc h0 n0) ({ frames := 2, cells := 2, slots := 5, locals := 27 } : Room).cells ({ frames := 2, cells := 2, slots := 5, locals := 27 } : Room).slots) _
  rw [← hF, ef_rm30 m p1]
  show own_Ends p e below F (s₁.setTop (mkF m 0 #[.val (.int p1)] []))
  obtain ⟨T1, X1, e1, st1⟩ := getS2 X0 hx hZ hown (host := "") (Or.inl (own_g hw 199 rfl)) Via.refl e0 SC (g := (mkF m 0 #[.val (.int p1)] [])) rfl (hb hby d30_0)
  refine own_step st1 ?_
  show own_Ends p e below F (T1.setTop (mkF m 3 #[.val (.int p1)] [(.int zc)]))
  refine own_step (fun _ k => XS.ifNo X1.here hx rfl (hb hby d30_3) rfl ((if0 _ _).trans (feq (hz : ¬ (zc = (0 : Int32)))).1) k) ?_
  show own_Ends p e below F (T1.setTop (mkF m 6 #[.val (.int p1)] []))
  refine own_step (fun _ k => XS.iloadN X1.here hx rfl (hb hby d30_6) rfl k) ?_
  show own_Ends p e below F (T1.setTop (mkF m 7 #[.val (.int p1)] [(.int p1)]))
  obtain ⟨_, _, ⟨T2, L2, k2, n2⟩, -, X2, ⟨Lc2, hQ2, l2, y2, z2⟩, st2⟩ := Jvm.LawKit.callS X1 hx (y := (⟨"java/lang/StringLatin1", "canEncode", "(C)Z"⟩ : MethodName)) hown (mvT hZ (own_g hw 215 rfl)) (mvT hZ (own_g hw 216 rfl)) (mvT hZ (own_g hw 217 rfl)) (mvT hZ (own_g hw 218 rfl)) (by decide) (backOf (W := 0) (rm31 l Z a0 hw [] p1 h0 n0 Z0 hp) hZ (own_g hw 218 rfl) (own_g hw 217 rfl) (by decide) (by decide)) (g := (mkF m 7 #[.val (.int p1)] [(.int p1)])) rfl (by rw [hml]; rfl) (argsL := [(.int p1)]) (rest := []) (lenOf pd__28C_29Z rfl) rfl (by show 2 * 0 + _ ≤ _; exact Nat.le_of_eq rfl) (hb hby d30_7) (fun _ _ => ⟨rfl, e1, (by decide : 0 + 0 ≤ _), (by decide : 0 + 0 ≤ _)⟩)
  dsimp only [Pt.U, Pt.locs, Pt.cells, Pt.slots] at X2 l2 y2 z2 st2 hQ2
  subst l2 y2 z2
  obtain ⟨rfl, Nq2, eq2⟩ := hQ2
  have N2 := Fr.app N0 Nq2
  refine own_step st2 ?_
  show own_Ends p e below F (T2.setTop (mkF m 10 #[.val (.int p1)] [(.int (1 : Int32))]))
  refine own_step (fun _ k => XS.ifNo X2.here hx rfl (hb hby d30_10) rfl ((if0 _ _).trans (feq (by decide : ¬ ((1 : Int32) = (0 : Int32)))).1) k) ?_
  show own_Ends p e below F (T2.setTop (mkF m 13 #[.val (.int p1)] []))
  obtain ⟨T3, h3, X3, e3, E3, A3, D3, -, st3⟩ := newO X2 hx hZ hown (own_g hw 219 rfl) (own_g hw 130 rfl) (own_g hw 129 rfl) eq2 (g := (mkF m 13 #[.val (.int p1)] [])) rfl (hb hby d30_13) (by decide) (by decide)
  obtain ⟨a3, g3⟩ : ∃ z, z = h0.size := ⟨_, rfl⟩
  rw [← g3] at A3 D3 st3
  have ge_a3 : n0 ≤ a3 := Nat.le_trans Z0 (Nat.le_of_eq g3.symm)
  have sz_a3 : h0.size ≤ a3 := Nat.le_trans (Nat.le_refl h0.size) (Nat.le_of_eq g3.symm)
  have Z3 : n0 ≤ h3.size := Nat.le_trans Z0 E3.1
  have SZ3 : h0.size ≤ h3.size := Nat.le_trans (Nat.le_refl h0.size) E3.1
  have F3_value : Fld Z h3 a3 "java/lang/String" "value" "[B" .null := D3 (Or.inr (own_g hw 132 rfl)) (ty := (.array .byte)) (by decide)
  have F3_coder : Fld Z h3 a3 "java/lang/String" "coder" "B" (.int (0 : Int32)) := D3 (Or.inr (own_g hw 133 rfl)) (ty := .byte) (by decide)
  refine own_step st3 ?_
  show own_Ends p e below F (T3.setTop (mkF m 16 #[.val (.int p1)] [(.ref a3)]))
  refine own_step (fun _ k => XS.dup X3.here hx rfl (hb hby d30_16) rfl rfl k) ?_
  show own_Ends p e below F (T3.setTop (mkF m 17 #[.val (.int p1)] [(.ref a3), (.ref a3)]))
  refine own_step (fun _ k => XS.iloadN X3.here hx rfl (hb hby d30_17) rfl k) ?_
  show own_Ends p e below F (T3.setTop (mkF m 18 #[.val (.int p1)] [(.int p1), (.ref a3), (.ref a3)]))
  obtain ⟨_, _, ⟨T4, L4, k4, n4⟩, -, X4, ⟨Lc4, hQ4, l4, y4, z4⟩, st4⟩ := Jvm.LawKit.callS X3 hx (y := (⟨"java/lang/StringLatin1", "toBytes", "(C)[B"⟩ : MethodName)) hown (mvT hZ (own_g hw 220 rfl)) (mvT hZ (own_g hw 221 rfl)) (mvT hZ (own_g hw 217 rfl)) (mvT hZ (own_g hw 222 rfl)) (by decide) (backOf (W := 2) (rm32 l Z a0 hw [] p1 h3 n0 Z3) hZ (own_g hw 222 rfl) (own_g hw 217 rfl) (by decide) (by decide)) (g := (mkF m 18 #[.val (.int p1)] [(.int p1), (.ref a3), (.ref a3)])) rfl (by rw [hml]; rfl) (argsL := [(.int p1)]) (rest := [(.ref a3), (.ref a3)]) (lenOf pd__28C_29_5bB rfl) rfl (by show 2 * 0 + _ ≤ _; exact Nat.le_of_eq rfl) (hb hby d30_18) (fun _ _ => ⟨rfl, e3, (by decide : 1 + 1 ≤ _), (by decide : 4 + 1 ≤ _)⟩)
  dsimp only [Pt.U, Pt.locs, Pt.cells, Pt.slots] at X4 l4 y4 z4 st4 hQ4
  subst l4 y4 z4
  obtain ⟨c4, kc4, rfl, Nq4, Kq4, fq0_4, fq1_4⟩ := hQ4
  have N4 := Fr.app N2 Nq4
  have Z4 : n0 ≤ T4.heap.size := Nat.le_trans Z3 Kq4.1
  have SZ4 : h0.size ≤ T4.heap.size := Nat.le_trans SZ3 Kq4.1
  have S0_4 := own_Sta_keep (Sta.ext E3 SC) Kq4 all0
  have ne_a3_c4 : a3 ≠ c4 := Nat.ne_of_lt (Nat.lt_of_lt_of_le (F3_value).lt fq0_4)
  have ge_c4 : n0 ≤ c4 := Nat.le_trans Z3 fq0_4
  have sz_c4 : h0.size ≤ c4 := Nat.le_trans SZ3 fq0_4
  refine own_step st4 ?_
  show own_Ends p e below F (T4.setTop (mkF m 21 #[.val (.int p1)] [(.ref c4), (.ref a3), (.ref a3)]))
  refine own_step (fun _ k => XS.iconst X4.here hx rfl (hb hby d30_21) k) ?_
  show own_Ends p e below F (T4.setTop (mkF m 22 #[.val (.int p1)] [(.int (0 : Int32)), (.ref c4), (.ref a3), (.ref a3)]))
  obtain ⟨_, _, ⟨T5, L5, k5, n5⟩, -, X5, ⟨Lc5, hQ5, l5, y5, z5⟩, st5⟩ := X4.specialBack hx (y := (⟨"java/lang/String", "<init>", "([BB)V"⟩ : MethodName)) rfl hown (mvT hZ (own_g hw 223 rfl)) (mvT hZ (own_g hw 224 rfl)) (mvT hZ (own_g hw 225 rfl)) (by decide) (backOf (W := 1) (rm33 l Z a0 hw [] a3 c4 T4.heap n0 Z4 (A3.keep Kq4) ge_a3 (F3_value.keep Kq4 nin0) (F3_coder.keep Kq4 nin0)) hZ (own_g hw 225 rfl) (own_g hw 129 rfl) (by decide) (by decide)) (g := (mkF m 22 #[.val (.int p1)] [(.int (0 : Int32)), (.ref c4), (.ref a3), (.ref a3)])) rfl (by rw [hml]; rfl) (Steps.refl _) (a := a3) (argsL := [(.ref c4), (.int (0 : Int32))]) (rest := [(.ref a3)]) (lenOf pd__28_5bBB_29V rfl) rfl (by show 2 * 0 + _ ≤ _; exact Nat.le_of_eq rfl) (hb hby d30_22) (fun _ _ => ⟨rfl, rfl, (by decide : 2 + 0 ≤ _), (by decide : 5 + 0 ≤ _)⟩)
  dsimp only [Pt.U, Pt.locs, Pt.cells, Pt.slots] at X5 l5 y5 z5 st5 hQ5
  subst l5 y5 z5
  obtain ⟨rfl, Nq5, Kq5, fq0_5, fq1_5, fq2_5⟩ := hQ5
  have N5 := Fr.app N4 Nq5
  have Z5 : n0 ≤ T5.heap.size := Nat.le_trans Z4 Kq5.1
  have SZ5 : h0.size ≤ T5.heap.size := Nat.le_trans SZ4 Kq5.1
  have S0_5 := own_Sta_keep S0_4 Kq5 (allS (own_ns_exa (A3.keep Kq4)) all0)
  refine own_trans st5 ?_
  show own_Ends p e below F (T5.setTop (mkF m 25 #[.val (.int p1)] [(.ref a3)]))
  rw [hF]
  exact own_ret X5 (v := (some (.ref a3))) (fun h => by rw [Bd.returns] at h; cases h) Bd.notSynchronized (fun fs hr => retOut X5 hx (t := (.object "java/lang/String")) (w := (.ref a3)) (i := .areturn) Bd.returns rfl (Or.inr (Or.inr (Or.inr (Or.inr ⟨rfl, rfl, rfl⟩)))) (hb hby d30_25) hr) (by decide) (by decide) (by exact ⟨_, rfl, N5, ((Keep.trans (Keep.trans (Keep.ext (Keep.refl _ _) E3) Kq4 all0) Kq5 (allS (Or.inr sz_a3) all0)) : Keep h0 T5.heap []), sz_a3, own_Str.mk (cs := [p1]) fq0_5 fq2_5 fq1_5 (fq1_4.keep Kq5 (ninS (Ne.symm ne_a3_c4) nin0)) rfl rfl (own_cS hp own_c0)⟩)

theorem own_sa : ∀ d ∈ Bundle.stringAtoms, d ∈ tables_1 := by decide +kernel
theorem d16_0 : decode method_2_code 0 = .ok (.iload_n 0, 1) := by decide +kernel
theorem d16_1 : decode method_2_code 1 = .ok (.ifCond .ne 6, 3) := by decide +kernel
theorem d16_4 : decode method_2_code 4 = .ok (.ldc 7, 2) := by decide +kernel
theorem d16_6 : decode method_2_code 6 = .ok (.areturn, 1) := by decide +kernel
theorem d16_7 : decode method_2_code 7 = .ok (.iload_n 0, 1) := by decide +kernel
theorem d16_8 : decode method_2_code 8 = .ok (.iconst 1, 1) := by decide +kernel
theorem d16_9 : decode method_2_code 9 = .ok (.if_icmp .ne 13, 3) := by decide +kernel
theorem d16_12 : decode method_2_code 12 = .ok (.iload_n 1, 1) := by decide +kernel
theorem d16_13 : decode method_2_code 13 = .ok (.sipush 255, 3) := by decide +kernel
theorem d16_16 : decode method_2_code 16 = .ok (.iand, 1) := by decide +kernel
theorem d16_17 : decode method_2_code 17 = .ok (.i2c, 1) := by decide +kernel
theorem d16_18 : decode method_2_code 18 = .ok (.invokestatic 9, 3) := by decide +kernel
theorem d16_21 : decode method_2_code 21 = .ok (.areturn, 1) := by decide +kernel
theorem d16_22 : decode method_2_code 22 = .ok (.iconst 2, 1) := by decide +kernel
theorem d16_23 : decode method_2_code 23 = .ok (.newarray .char, 2) := by decide +kernel
theorem d16_25 : decode method_2_code 25 = .ok (.astore_n 3, 1) := by decide +kernel
theorem d16_26 : decode method_2_code 26 = .ok (.aload_n 3, 1) := by decide +kernel
theorem d16_27 : decode method_2_code 27 = .ok (.iconst 0, 1) := by decide +kernel
theorem d16_28 : decode method_2_code 28 = .ok (.iload_n 1, 1) := by decide +kernel
theorem d16_29 : decode method_2_code 29 = .ok (.sipush 255, 3) := by decide +kernel
theorem d16_32 : decode method_2_code 32 = .ok (.iand, 1) := by decide +kernel
theorem d16_33 : decode method_2_code 33 = .ok (.i2c, 1) := by decide +kernel
theorem d16_34 : decode method_2_code 34 = .ok (.castore, 1) := by decide +kernel
theorem d16_35 : decode method_2_code 35 = .ok (.aload_n 3, 1) := by decide +kernel
theorem d16_36 : decode method_2_code 36 = .ok (.iconst 1, 1) := by decide +kernel
theorem d16_37 : decode method_2_code 37 = .ok (.iload_n 2, 1) := by decide +kernel
theorem d16_38 : decode method_2_code 38 = .ok (.sipush 255, 3) := by decide +kernel
theorem d16_41 : decode method_2_code 41 = .ok (.iand, 1) := by decide +kernel
theorem d16_42 : decode method_2_code 42 = .ok (.i2c, 1) := by decide +kernel
theorem d16_43 : decode method_2_code 43 = .ok (.castore, 1) := by decide +kernel
theorem d16_44 : decode method_2_code 44 = .ok (.new 10, 3) := by decide +kernel
theorem d16_47 : decode method_2_code 47 = .ok (.dup, 1) := by decide +kernel
theorem d16_48 : decode method_2_code 48 = .ok (.aload_n 3, 1) := by decide +kernel
theorem d16_49 : decode method_2_code 49 = .ok (.invokespecial 15, 3) := by decide +kernel
theorem d16_52 : decode method_2_code 52 = .ok (.areturn, 1) := by decide +kernel
theorem pn_com_example_greater_than_greaterthan_page_PageHasPreviousPinLaw : plainName "com/example/greater_than/greaterthan/page/PageHasPreviousPinLaw" = true := by first | (simp [plainName, overriddenIn]; done) | decide +kernel
theorem pd__28C_29Ljava_2flang_2fString_3b : parseMethodDescriptor "(C)Ljava/lang/String;" = some ⟨[.char], some (.object "java/lang/String")⟩ := by decide +kernel
theorem pd__28_5bC_29V : parseMethodDescriptor "([C)V" = some ⟨[(.array .char)], none⟩ := by decide +kernel
theorem ef_rm16 (m : MethodId) (x0 : Int32) (x1 : Int32) (x2 : Int32) : entryFrame m #[(.int x0), (.int x1), (.int x2)] 4 = mkF m 0 #[.val (.int x0), .val (.int x1), .val (.int x2), .unset] [] := by first | (simp [entryFrame, mkF, argsToLocals, Value.category, maxLocals]; done) | rfl
def Q16 (Z : State) (p1 p2 p3 zc : Int32) (h0 : Heap) (n0 : Nat) (v : Option Value) (h : Heap) (L : List Loc) : Prop := ∃ c, v = some (.ref c) ∧ Fr n0 L ∧ Keep h0 h []
set_option maxRecDepth 65536 in
set_option maxHeartbeats 40000000 in
theorem rm16 (l : Launch) (Z : State) (a0 : Array Value) (hw : ∀ d ∈ tables_1, d.before a0 Z = true) (ws : List Jvm.Cond) (p1 p2 p3 zc : Int32) (h0 : Heap) (n0 : Nat) (Z0 : n0 ≤ h0.size) (SC : Sta Z h0 "java/lang/String" "COMPACT_STRINGS" "Z" (.int zc)) (hz : ¬ zc = 0) :
    MetFree l (⟨"com/example/greater_than/greaterthan/page/PageHasPreviousPinLaw", "drawn", "(III)Ljava/lang/String;"⟩ : MethodName) (head1 (Jvm.Cond.code (⟨"com/example/greater_than/greaterthan/page/PageHasPreviousPinLaw", "drawn", "(III)Ljava/lang/String;"⟩ : MethodName) method_2_code 4 (some (.object "java/lang/String")) :: ws) ({ frames := 4, cells := 3, slots := 8, locals := 66 } : Room)) (fun ar U => ar = #[(.int p1), (.int p2), (.int p3)] ∧ Z.Warmed39 U.vm ∧ U.heap = h0) (fun _ _ _ _ _ => True) (fun _ U o U' => ∃ v L, o = .returned v ∧ Q16 Z p1 p2 p3 zc h0 n0 v U'.heap L ∧ ReturnedEndW U o U' L ({ frames := 4, cells := 3, slots := 8, locals := 66 } : Room).cells ({ frames := 4, cells := 3, slots := 8, locals := 66 } : Room).slots) := by
  refine MetFree.of_bodySF (plainFor_of_name pn_com_example_greater_than_greaterthan_page_PageHasPreviousPinLaw) hisR ?_
  intro p e s m args below meth c s₁ Bd hml0 hP hK
  obtain ⟨rfl, hZ, hh⟩ := hP
  have hx := Bd.exec
  have hby := Bd.bytes
  have hml : c.maxLocals = 4 := hml0
  have hown : s.vm.findClass "com/example/greater_than/greaterthan/page/PageHasPreviousPinLaw" = some m.cls := findClass_of_methodNamed Bd.named
  have hnm := (name_of_methodNamed Bd.named Bd.method).1
  have X0 : Stand p l e ({ frames := 4, cells := 3, slots := 8, locals := 66 } : Room) (s.setVm s.vm) m #[(.int p1), (.int p2), (.int p3)] below meth c s₁ [] 0 0 := Stand.of_body Bd
  have e0 : s₁.heap = h0 := by rw [← hh, Bd.state]; rfl
  have N0 := Fr.nil n0
  have hS : s.Since s.vm h0.size := (State.WarmedH.refl s).since _
  have hk := Nat.le_refl h0.size
  obtain ⟨F, hF⟩ : ∃ F, F = own_FinW s (Q16 Z p1 p2 p3 zc h0 n0) ({ frames := 4, cells := 3, slots := 8, locals := 66 } : Room).cells ({ frames := 4, cells := 3, slots := 8, locals := 66 } : Room).slots := ⟨_, rfl⟩
  show own_Ends p e below (own_FinW s (Q16 Z p1 p2 p3 zc h0 n0) ({ frames := 4, cells := 3, slots := 8, locals := 66 } : Room).cells ({ frames := 4, cells := 3, slots := 8, locals := 66 } : Room).slots) _
  rw [← hF, ef_rm16 m p1 p2 p3]
  show own_Ends p e below F (s₁.setTop (mkF m 0 #[.val (.int p1), .val (.int p2), .val (.int p3), .unset] []))
  refine own_step (fun _ k => XS.iloadN X0.here hx rfl (hb hby d16_0) rfl k) ?_
  show own_Ends p e below F (s₁.setTop (mkF m 1 #[.val (.int p1), .val (.int p2), .val (.int p3), .unset] [(.int p1)]))
  by_cases c1_1 : p1 = (0 : Int32)
  · refine own_step (fun _ k => XS.ifNo X0.here hx rfl (hb hby d16_1) rfl ((if0 _ _).trans (teq c1_1).2) k) ?_
    show own_Ends p e below F (s₁.setTop (mkF m 4 #[.val (.int p1), .val (.int p2), .val (.int p3), .unset] []))
    obtain ⟨a2, T2, h2, k2, X2, e2, E2, hS, hk, hZ, hown, st2⟩ := ldcS X0 hx hZ hown (own_g hw 128 rfl) (fun d hd => hw d (own_sa d hd)) e0 hS hk (g := (mkF m 4 #[.val (.int p1), .val (.int p2), .val (.int p3), .unset] [])) rfl (hb hby d16_4) (n := 0) (by decide) (by decide) (by decide) (by decide)
    have Z2 : n0 ≤ h2.size := Nat.le_trans Z0 E2.1
    have SZ2 : h0.size ≤ h2.size := Nat.le_trans (Nat.le_refl h0.size) E2.1
    refine own_step st2 ?_
    show own_Ends p e below F (T2.setTop (mkF m 6 #[.val (.int p1), .val (.int p2), .val (.int p3), .unset] [(.ref a2)]))
    rw [hF]
    exact own_retW X2 hS (by rw [e2]; exact hk) (v := (some (.ref a2))) (fun h => by rw [Bd.returns] at h; cases h) Bd.notSynchronized (fun fs hr => retOut X2 hx (t := (.object "java/lang/String")) (w := (.ref a2)) (i := .areturn) Bd.returns rfl (Or.inr (Or.inr (Or.inr (Or.inr ⟨rfl, rfl, rfl⟩)))) (hb hby d16_6) hr) (by decide) (by decide) (by rw [e2]; exact ⟨_, rfl, N0, ((Keep.ext (Keep.refl _ _) E2) : Keep h0 h2 [])⟩)
  · refine own_step (fun _ k => XS.ifYes X0.here hx rfl (pc0 := 1) (pc' := 7) rfl (hb hby d16_1) rfl ((if0 _ _).trans (feq c1_1).2) (by decide) (by decide) k) ?_
    show own_Ends p e below F (s₁.setTop (mkF m 7 #[.val (.int p1), .val (.int p2), .val (.int p3), .unset] []))
    refine own_step (fun _ k => XS.iloadN X0.here hx rfl (hb hby d16_7) rfl k) ?_
    show own_Ends p e below F (s₁.setTop (mkF m 8 #[.val (.int p1), .val (.int p2), .val (.int p3), .unset] [(.int p1)]))
    refine own_step (fun _ k => XS.iconst X0.here hx rfl (hb hby d16_8) k) ?_
    show own_Ends p e below F (s₁.setTop (mkF m 9 #[.val (.int p1), .val (.int p2), .val (.int p3), .unset] [(.int (1 : Int32)), (.int p1)]))
    by_cases c9_3 : p1 = (1 : Int32)
    · refine own_step (fun _ k => XS.icmpNo X0.here hx rfl (hb hby d16_9) rfl (teq c9_3).2 k) ?_
      show own_Ends p e below F (s₁.setTop (mkF m 12 #[.val (.int p1), .val (.int p2), .val (.int p3), .unset] []))
      refine own_step (fun _ k => XS.iloadN X0.here hx rfl (hb hby d16_12) rfl k) ?_
      show own_Ends p e below F (s₁.setTop (mkF m 13 #[.val (.int p1), .val (.int p2), .val (.int p3), .unset] [(.int p2)]))
      refine own_step (fun _ k => XS.sipush X0.here hx rfl (hb hby d16_13) k) ?_
      show own_Ends p e below F (s₁.setTop (mkF m 16 #[.val (.int p1), .val (.int p2), .val (.int p3), .unset] [(.int (255 : Int32)), (.int p2)]))
      refine own_step (fun _ k => XS.iand X0.here hx rfl (hb hby d16_16) rfl k) ?_
      show own_Ends p e below F (s₁.setTop (mkF m 17 #[.val (.int p1), .val (.int p2), .val (.int p3), .unset] [(.int (p2 &&& (255 : Int32)))]))
      refine own_step (fun _ k => XS.i2c X0.here hx rfl (hb hby d16_17) rfl k) ?_
      show own_Ends p e below F (s₁.setTop (mkF m 18 #[.val (.int p1), .val (.int p2), .val (.int p3), .unset] [(.int ((p2 &&& (255 : Int32)).toUInt32.toUInt16.toUInt32.toInt32))]))
      obtain ⟨v4, ev4⟩ : ∃ z : Int32, z = ((p2 &&& (255 : Int32)).toUInt32.toUInt16.toUInt32.toInt32) := ⟨_, rfl⟩
      rw [← ev4]
      show own_Ends p e below F (s₁.setTop (mkF m 18 #[.val (.int p1), .val (.int p2), .val (.int p3), .unset] [(.int v4)]))
      have ch_v4 := own_c8 ev4
      obtain ⟨_, _, ⟨T5, L5, k5, n5⟩, -, X5, ⟨Lc5, hQ5, l5, y5, z5⟩, st5⟩ := Jvm.LawKit.callS X0 hx (y := (⟨"java/lang/String", "valueOf", "(C)Ljava/lang/String;"⟩ : MethodName)) hown (mvT hZ (own_g hw 212 rfl)) (mvT hZ (own_g hw 213 rfl)) (mvT hZ (own_g hw 129 rfl)) (mvT hZ (own_g hw 214 rfl)) (by decide) (backOf (W := 0) (rm30 l Z a0 hw [] v4 zc h0 n0 Z0 SC hz ch_v4) hZ (own_g hw 214 rfl) (own_g hw 129 rfl) (by decide) (by decide)) (g := (mkF m 18 #[.val (.int p1), .val (.int p2), .val (.int p3), .unset] [(.int v4)])) rfl (by rw [hml]; rfl) (argsL := [(.int v4)]) (rest := []) (lenOf pd__28C_29Ljava_2flang_2fString_3b rfl) rfl (by show 2 * 0 + _ ≤ _; exact Nat.le_of_eq rfl) (hb hby d16_18) (fun _ _ => ⟨rfl, e0, (by decide : 0 + 2 ≤ _), (by decide : 0 + 5 ≤ _)⟩)
      dsimp only [Pt.U, Pt.locs, Pt.cells, Pt.slots] at X5 l5 y5 z5 st5 hQ5
      subst l5 y5 z5
      obtain ⟨c5, rfl, Nq5, Kq5, fq0_5, fq1_5⟩ := hQ5
      have N5 := Fr.app N0 Nq5
      have Z5 : n0 ≤ T5.heap.size := Nat.le_trans Z0 Kq5.1
      have SZ5 : h0.size ≤ T5.heap.size := Nat.le_trans (Nat.le_refl h0.size) Kq5.1
      have S0_5 := own_Sta_keep SC Kq5 all0
      have ge_c5 : n0 ≤ c5 := Nat.le_trans Z0 fq0_5
      have sz_c5 : h0.size ≤ c5 := Nat.le_trans (Nat.le_refl h0.size) fq0_5
      have str5 := fq1_5
      have fe5 := str5.exa
      have hk := Nat.le_trans hk Kq5.1
      refine own_step st5 ?_
      show own_Ends p e below F (T5.setTop (mkF m 21 #[.val (.int p1), .val (.int p2), .val (.int p3), .unset] [(.ref c5)]))
      rw [hF]
      exact own_retW X5 hS (by exact hk) (v := (some (.ref c5))) (fun h => by rw [Bd.returns] at h; cases h) Bd.notSynchronized (fun fs hr => retOut X5 hx (t := (.object "java/lang/String")) (w := (.ref c5)) (i := .areturn) Bd.returns rfl (Or.inr (Or.inr (Or.inr (Or.inr ⟨rfl, rfl, rfl⟩)))) (hb hby d16_21) hr) (by decide) (by decide) (by exact ⟨_, rfl, N5, ((Keep.trans (Keep.refl _ _) Kq5 all0) : Keep h0 T5.heap [])⟩)
    · refine own_step (fun _ k => XS.icmpYes X0.here hx rfl (pc0 := 9) (pc' := 22) rfl (hb hby d16_9) rfl (feq c9_3).2 (by decide) (by decide) k) ?_
      show own_Ends p e below F (s₁.setTop (mkF m 22 #[.val (.int p1), .val (.int p2), .val (.int p3), .unset] []))
      refine own_step (fun _ k => XS.iconst X0.here hx rfl (hb hby d16_22) k) ?_
      show own_Ends p e below F (s₁.setTop (mkF m 23 #[.val (.int p1), .val (.int p2), .val (.int p3), .unset] [(.int (2 : Int32))]))
      obtain ⟨T6, h6, k6, X6, e6, E6, A6, st6⟩ := newP X0 hx hZ (own_g hw 189 rfl) e0 (g := (mkF m 23 #[.val (.int p1), .val (.int p2), .val (.int p3), .unset] [(.int (2 : Int32))])) rfl (hb hby d16_23) rfl (by decide) (cap := 2) (by decide) (by decide) (by decide) (by decide)
      obtain ⟨a6, g6⟩ : ∃ z, z = h0.size := ⟨_, rfl⟩
      rw [← g6] at A6 st6
      have ge_a6 : n0 ≤ a6 := Nat.le_trans Z0 (Nat.le_of_eq g6.symm)
      have sz_a6 : h0.size ≤ a6 := Nat.le_trans (Nat.le_refl h0.size) (Nat.le_of_eq g6.symm)
      have Z6 : n0 ≤ h6.size := Nat.le_trans Z0 E6.1
      have SZ6 : h0.size ≤ h6.size := Nat.le_trans (Nat.le_refl h0.size) E6.1
      have hk := Nat.le_trans hk E6.1
      have V6 : Arv Z h6 a6 k6 .char (2 : Int32) [(.int (0 : Int32)), (.int (0 : Int32))] (.int (0 : Int32)) := Arv.pad (Arv.new A6 (by decide)) (pad_rep [] _ 2)
      refine own_step st6 ?_
      show own_Ends p e below F (T6.setTop (mkF m 25 #[.val (.int p1), .val (.int p2), .val (.int p3), .unset] [(.ref a6)]))
      refine own_step (fun _ k => XS.astoreN X6.here hx rfl (hb hby d16_25) rfl rfl (l' := #[.val (.int p1), .val (.int p2), .val (.int p3), .val (.ref a6)]) rfl k) ?_
      show own_Ends p e below F (T6.setTop (mkF m 26 #[.val (.int p1), .val (.int p2), .val (.int p3), .val (.ref a6)] []))
      refine own_step (fun _ k => XS.aloadN X6.here hx rfl (hb hby d16_26) rfl rfl k) ?_
      show own_Ends p e below F (T6.setTop (mkF m 27 #[.val (.int p1), .val (.int p2), .val (.int p3), .val (.ref a6)] [(.ref a6)]))
      refine own_step (fun _ k => XS.iconst X6.here hx rfl (hb hby d16_27) k) ?_
      show own_Ends p e below F (T6.setTop (mkF m 28 #[.val (.int p1), .val (.int p2), .val (.int p3), .val (.ref a6)] [(.int (0 : Int32)), (.ref a6)]))
      refine own_step (fun _ k => XS.iloadN X6.here hx rfl (hb hby d16_28) rfl k) ?_
      show own_Ends p e below F (T6.setTop (mkF m 29 #[.val (.int p1), .val (.int p2), .val (.int p3), .val (.ref a6)] [(.int p2), (.int (0 : Int32)), (.ref a6)]))
      refine own_step (fun _ k => XS.sipush X6.here hx rfl (hb hby d16_29) k) ?_
      show own_Ends p e below F (T6.setTop (mkF m 32 #[.val (.int p1), .val (.int p2), .val (.int p3), .val (.ref a6)] [(.int (255 : Int32)), (.int p2), (.int (0 : Int32)), (.ref a6)]))
      refine own_step (fun _ k => XS.iand X6.here hx rfl (hb hby d16_32) rfl k) ?_
      show own_Ends p e below F (T6.setTop (mkF m 33 #[.val (.int p1), .val (.int p2), .val (.int p3), .val (.ref a6)] [(.int (p2 &&& (255 : Int32))), (.int (0 : Int32)), (.ref a6)]))
      refine own_step (fun _ k => XS.i2c X6.here hx rfl (hb hby d16_33) rfl k) ?_
      show own_Ends p e below F (T6.setTop (mkF m 34 #[.val (.int p1), .val (.int p2), .val (.int p3), .val (.ref a6)] [(.int ((p2 &&& (255 : Int32)).toUInt32.toUInt16.toUInt32.toInt32)), (.int (0 : Int32)), (.ref a6)]))
      obtain ⟨v7, ev7⟩ : ∃ z : Int32, z = ((p2 &&& (255 : Int32)).toUInt32.toUInt16.toUInt32.toInt32) := ⟨_, rfl⟩
      rw [← ev7]
      show own_Ends p e below F (T6.setTop (mkF m 34 #[.val (.int p1), .val (.int p2), .val (.int p3), .val (.ref a6)] [(.int v7), (.int (0 : Int32)), (.ref a6)]))
      have ch_v7 := own_c8 ev7
      obtain ⟨cl8, Ar8, q8, S8, M8, H8, G8⟩ := id V6
      have hin8 : ¬ ((0 : Int32) < 0 ∨ cl8.slots.size ≤ ((0 : Int32) : Int32).toNatClampNeg) := inb_of S8 ⟨by decide, by decide⟩
      obtain ⟨T8, h8, X8, e8, W8, st8⟩ := stC X6 hx hZ e6 Ar8 (j := (0 : Int32)) hin8 (g := (mkF m 34 #[.val (.int p1), .val (.int p2), .val (.int p3), .val (.ref a6)] [(.int v7), (.int (0 : Int32)), (.ref a6)])) rfl rfl (hb hby d16_34)
      rw [own_narC ch_v7] at W8
      have V8 := Arv.set Ar8 q8 S8 M8 H8 G8 (own_fitC ch_v7) W8 0 rfl (Nat.le_of_ble_eq_true rfl)
      have V8 : Arv Z h8 a6 k6 .char (2 : Int32) [(.int v7), (.int (0 : Int32))] (.int (0 : Int32)) := V8
      refine own_step st8 ?_
      have N8 := Fr.snoc X8 N0 ge_a6
      have Z8 : n0 ≤ h8.size := by rw [W8.size]; exact Z6
      have SZ8 : h0.size ≤ h8.size := by rw [W8.size]; exact SZ6
      have hk := (W8.size.symm ▸ hk : _ ≤ h8.size)
      show own_Ends p e below F (T8.setTop (mkF m 35 #[.val (.int p1), .val (.int p2), .val (.int p3), .val (.ref a6)] []))
      refine own_step (fun _ k => XS.aloadN X8.here hx rfl (hb hby d16_35) rfl rfl k) ?_
      show own_Ends p e below F (T8.setTop (mkF m 36 #[.val (.int p1), .val (.int p2), .val (.int p3), .val (.ref a6)] [(.ref a6)]))
      refine own_step (fun _ k => XS.iconst X8.here hx rfl (hb hby d16_36) k) ?_
      show own_Ends p e below F (T8.setTop (mkF m 37 #[.val (.int p1), .val (.int p2), .val (.int p3), .val (.ref a6)] [(.int (1 : Int32)), (.ref a6)]))
      refine own_step (fun _ k => XS.iloadN X8.here hx rfl (hb hby d16_37) rfl k) ?_
      show own_Ends p e below F (T8.setTop (mkF m 38 #[.val (.int p1), .val (.int p2), .val (.int p3), .val (.ref a6)] [(.int p3), (.int (1 : Int32)), (.ref a6)]))
      refine own_step (fun _ k => XS.sipush X8.here hx rfl (hb hby d16_38) k) ?_
      show own_Ends p e below F (T8.setTop (mkF m 41 #[.val (.int p1), .val (.int p2), .val (.int p3), .val (.ref a6)] [(.int (255 : Int32)), (.int p3), (.int (1 : Int32)), (.ref a6)]))
      refine own_step (fun _ k => XS.iand X8.here hx rfl (hb hby d16_41) rfl k) ?_
      show own_Ends p e below F (T8.setTop (mkF m 42 #[.val (.int p1), .val (.int p2), .val (.int p3), .val (.ref a6)] [(.int (p3 &&& (255 : Int32))), (.int (1 : Int32)), (.ref a6)]))
      refine own_step (fun _ k => XS.i2c X8.here hx rfl (hb hby d16_42) rfl k) ?_
      show own_Ends p e below F (T8.setTop (mkF m 43 #[.val (.int p1), .val (.int p2), .val (.int p3), .val (.ref a6)] [(.int ((p3 &&& (255 : Int32)).toUInt32.toUInt16.toUInt32.toInt32)), (.int (1 : Int32)), (.ref a6)]))
      obtain ⟨v9, ev9⟩ : ∃ z : Int32, z = ((p3 &&& (255 : Int32)).toUInt32.toUInt16.toUInt32.toInt32) := ⟨_, rfl⟩
      rw [← ev9]
      show own_Ends p e below F (T8.setTop (mkF m 43 #[.val (.int p1), .val (.int p2), .val (.int p3), .val (.ref a6)] [(.int v9), (.int (1 : Int32)), (.ref a6)]))
      have ch_v9 := own_c8 ev9
      obtain ⟨cl10, Ar10, q10, S10, M10, H10, G10⟩ := id V8
      have hin10 : ¬ ((1 : Int32) < 0 ∨ cl10.slots.size ≤ ((1 : Int32) : Int32).toNatClampNeg) := inb_of S10 ⟨by decide, by decide⟩
      obtain ⟨T10, h10, X10, e10, W10, st10⟩ := stC X8 hx hZ e8 Ar10 (j := (1 : Int32)) hin10 (g := (mkF m 43 #[.val (.int p1), .val (.int p2), .val (.int p3), .val (.ref a6)] [(.int v9), (.int (1 : Int32)), (.ref a6)])) rfl rfl (hb hby d16_43)
      rw [own_narC ch_v9] at W10
      have V10 := Arv.set Ar10 q10 S10 M10 H10 G10 (own_fitC ch_v9) W10 1 rfl (Nat.le_of_ble_eq_true rfl)
      have V10 : Arv Z h10 a6 k6 .char (2 : Int32) [(.int v7), (.int v9)] (.int (0 : Int32)) := V10
      refine own_step st10 ?_
      have N10 := Fr.snoc X10 N8 ge_a6
      have Z10 : n0 ≤ h10.size := by rw [W10.size]; exact Z8
      have SZ10 : h0.size ≤ h10.size := by rw [W10.size]; exact SZ8
      have hk := (W10.size.symm ▸ hk : _ ≤ h10.size)
      show own_Ends p e below F (T10.setTop (mkF m 44 #[.val (.int p1), .val (.int p2), .val (.int p3), .val (.ref a6)] []))
      obtain ⟨T11, h11, X11, e11, E11, A11, D11, -, st11⟩ := newO X10 hx hZ hown (own_g hw 190 rfl) (own_g hw 130 rfl) (own_g hw 129 rfl) e10 (g := (mkF m 44 #[.val (.int p1), .val (.int p2), .val (.int p3), .val (.ref a6)] [])) rfl (hb hby d16_44) (by decide) (by decide)
      obtain ⟨a11, g11⟩ : ∃ z, z = h10.size := ⟨_, rfl⟩
      rw [← g11] at A11 D11 st11
      have ge_a11 : n0 ≤ a11 := Nat.le_trans Z10 (Nat.le_of_eq g11.symm)
      have sz_a11 : h0.size ≤ a11 := Nat.le_trans SZ10 (Nat.le_of_eq g11.symm)
      have ne_a6_a11 : a6 ≠ a11 := Nat.ne_of_lt (by rw [g11]; exact V10.lt)
      have Z11 : n0 ≤ h11.size := Nat.le_trans Z10 E11.1
      have SZ11 : h0.size ≤ h11.size := Nat.le_trans SZ10 E11.1
      have hk := Nat.le_trans hk E11.1
      have F11_value : Fld Z h11 a11 "java/lang/String" "value" "[B" .null := D11 (Or.inr (own_g hw 132 rfl)) (ty := (.array .byte)) (by decide)
      have F11_coder : Fld Z h11 a11 "java/lang/String" "coder" "B" (.int (0 : Int32)) := D11 (Or.inr (own_g hw 133 rfl)) (ty := .byte) (by decide)
      refine own_step st11 ?_
      show own_Ends p e below F (T11.setTop (mkF m 47 #[.val (.int p1), .val (.int p2), .val (.int p3), .val (.ref a6)] [(.ref a11)]))
      refine own_step (fun _ k => XS.dup X11.here hx rfl (hb hby d16_47) rfl rfl k) ?_
      show own_Ends p e below F (T11.setTop (mkF m 48 #[.val (.int p1), .val (.int p2), .val (.int p3), .val (.ref a6)] [(.ref a11), (.ref a11)]))
      refine own_step (fun _ k => XS.aloadN X11.here hx rfl (hb hby d16_48) rfl rfl k) ?_
      show own_Ends p e below F (T11.setTop (mkF m 49 #[.val (.int p1), .val (.int p2), .val (.int p3), .val (.ref a6)] [(.ref a6), (.ref a11), (.ref a11)]))
      obtain ⟨_, _, ⟨T12, L12, k12, n12⟩, -, X12, ⟨Lc12, hQ12, l12, y12, z12⟩, st12⟩ := X11.specialBack hx (y := (⟨"java/lang/String", "<init>", "([C)V"⟩ : MethodName)) rfl hown (mvT hZ (own_g hw 191 rfl)) (mvT hZ (own_g hw 192 rfl)) (mvT hZ (own_g hw 193 rfl)) (by decide) (StrChars.Road.backV (W := 1) hZ (fun d hd => hw d ((by decide +kernel : ∀ d ∈ StrChars.Road.words, d ∈ tables_1) d hd)) (kI := 4) (own_g hw 130 rfl) (cs := ([v7, v9] : List Int32)) (bs := ([v7, v9] : List Int32).map (fun c => c.toInt8.toInt32)) (n := 2) ge_a11 Z11 A11 F11_value F11_coder (V10.ext E11) (Sta.ext E11 (Sta.wr W10 (Sta.wr W8 (Sta.ext E6 SC)))) hz rfl rfl (by decide) (by decide) (own_cS ch_v7 (own_cS ch_v9 own_c0)) rfl (by decide) (by decide)) (g := (mkF m 49 #[.val (.int p1), .val (.int p2), .val (.int p3), .val (.ref a6)] [(.ref a6), (.ref a11), (.ref a11)])) rfl (by rw [hml]; rfl) (Steps.refl _) (a := a11) (argsL := [(.ref a6)]) (rest := [(.ref a11)]) (lenOf pd__28_5bC_29V rfl) rfl (by show 2 * 0 + _ ≤ _; exact Nat.le_of_eq rfl) (hb hby d16_49) (fun _ _ => ⟨rfl, e11, (by decide : 2 + 1 ≤ _), (by decide : 6 + 2 ≤ _)⟩)
      dsimp only [Pt.U, Pt.locs, Pt.cells, Pt.slots] at X12 l12 y12 z12 st12 hQ12
      subst l12 y12 z12
      obtain ⟨rfl, Nq12, Kq12, fe12, fc12, tt12, kt12, -, -, -, fv12, fa12⟩ := hQ12
      have N12 := Fr.app N10 Nq12
      have Z12 : n0 ≤ T12.heap.size := Nat.le_trans Z11 Kq12.1
      have SZ12 : h0.size ≤ T12.heap.size := Nat.le_trans SZ11 Kq12.1
      have S0_12 := own_Sta_keep (Sta.ext E11 (Sta.wr W10 (Sta.wr W8 (Sta.ext E6 SC)))) Kq12 (allS (own_ns_exa A11) all0)
      have str12 : own_Str Z T12.heap T12.heap.size a11 ([v7, v9] : List Int32) := own_Str.mk fe12 fc12 fv12 fa12 rfl rfl (own_cS ch_v7 (own_cS ch_v9 own_c0))
      have hk := Nat.le_trans hk Kq12.1
      refine own_trans st12 ?_
      show own_Ends p e below F (T12.setTop (mkF m 52 #[.val (.int p1), .val (.int p2), .val (.int p3), .val (.ref a6)] [(.ref a11)]))
      rw [hF]
      exact own_retW X12 hS (by exact hk) (v := (some (.ref a11))) (fun h => by rw [Bd.returns] at h; cases h) Bd.notSynchronized (fun fs hr => retOut X12 hx (t := (.object "java/lang/String")) (w := (.ref a11)) (i := .areturn) Bd.returns rfl (Or.inr (Or.inr (Or.inr (Or.inr ⟨rfl, rfl, rfl⟩)))) (hb hby d16_52) hr) (by decide) (by decide) (by exact ⟨_, rfl, N12, ((Keep.trans (Keep.ext (Keep.wr (Keep.wr (Keep.ext (Keep.refl _ _) E6) W8 (Or.inr sz_a6)) W10 (Or.inr sz_a6)) E11) Kq12 (allS (Or.inr sz_a11) all0)) : Keep h0 T12.heap [])⟩)

theorem pd__28III_29Ljava_2flang_2fString_3b : parseMethodDescriptor "(III)Ljava/lang/String;" = some ⟨[.int, .int, .int], some (.object "java/lang/String")⟩ := by decide +kernel
theorem pd__28Ljava_2futil_2fList_3bLjava_2flang_2fString_3bLjava_2flang_2fString_3b_29V : parseMethodDescriptor "(Ljava/util/List;Ljava/lang/String;Ljava/lang/String;)V" = some ⟨[(.object "java/util/List"), (.object "java/lang/String"), (.object "java/lang/String")], none⟩ := by decide +kernel
theorem pd__28_29Z : parseMethodDescriptor "()Z" = some ⟨[], some .boolean⟩ := by decide +kernel
theorem pd__28I_29Ljava_2flang_2fInteger_3b : parseMethodDescriptor "(I)Ljava/lang/Integer;" = some ⟨[.int], some (.object "java/lang/Integer")⟩ := by decide +kernel
theorem pd__28Ljava_2flang_2fObject_3b_29Z : parseMethodDescriptor "(Ljava/lang/Object;)Z" = some ⟨[(.object "java/lang/Object")], some .boolean⟩ := by decide +kernel
theorem ef_rm0 (m : MethodId) (x0 : Int32) (x1 : Int32) (x2 : Int32) (x3 : Int32) (x4 : Int32) (x5 : Int32) : entryFrame m #[(.int x0), (.int x1), (.int x2), (.int x3), (.int x4), (.int x5)] maxLocals = mkF m 0 #[.val (.int x0), .val (.int x1), .val (.int x2), .val (.int x3), .val (.int x4), .val (.int x5), .unset, .unset, .unset, .unset, .unset, .unset, .unset, .unset, .unset, .unset] [] := by first | (simp [entryFrame, mkF, argsToLocals, Value.category, maxLocals]; done) | rfl
def Q0 (Z : State) (p1 p2 p3 p4 p5 p6 : Int32) (zc : Int32) (dd : Addr) (kd : ClassId) (ee cc ma mu mv mo : Addr) (h0 : Heap) (n0 : Nat) (v : Option Value) (h : Heap) (L : List Loc) : Prop := v = some (.int 1) ∧ Fr n0 L
set_option maxRecDepth 65536 in
set_option maxHeartbeats 40000000 in
theorem rm0 (l : Launch) (Z : State) (a0 : Array Value) (hw : ∀ d ∈ tables_1, d.before a0 Z = true) (ws : List Jvm.Cond) (p1 p2 p3 p4 p5 p6 : Int32) (zc : Int32) (dd : Addr) (kd : ClassId) (ee cc ma mu mv mo : Addr) (h0 : Heap) (n0 : Nat) (Z0 : n0 ≤ h0.size) (SC : Sta Z h0 "java/lang/String" "COMPACT_STRINGS" "Z" (.int zc)) (hz : ¬ zc = 0) (SD : Sta Z h0 "java/util/ArrayList" "DEFAULTCAPACITY_EMPTY_ELEMENTDATA" "[Ljava/lang/Object;" (.ref dd)) (VD : Arv Z h0 dd kd (.object "java/lang/Object") (0 : Int32) [] .null) (XD : Exa Z h0 dd "[Ljava/lang/Object;") (SE : Sta Z h0 "java/util/ArrayList" "EMPTY_ELEMENTDATA" "[Ljava/lang/Object;" (.ref ee)) (SH : Sta Z h0 "java/lang/Integer$IntegerCache" "high" "I" (.int (127 : Int32))) (SK : Sta Z h0 "java/lang/Integer$IntegerCache" "cache" "[Ljava/lang/Integer;" (.ref cc)) (BC : own_Bx Z h0 cc) (M_ma : Mir Z "java/util/ArrayList" ma) (M_mu : Mir Z "java/util/Collections$UnmodifiableList" mu) (M_mv : Mir Z "java/util/Collections$UnmodifiableRandomAccessList" mv) (M_mo : Mir Z "[Ljava/lang/Object;" mo) :
    MetFree l x (head1 (Jvm.Cond.code x code maxLocals ret :: ws) room_1) (fun ar U => ar = #[(.int p1), (.int p2), (.int p3), (.int p4), (.int p5), (.int p6)] ∧ Z.Warmed39 U.vm ∧ U.heap = h0) (fun _ _ _ _ _ => True) (fun _ U o U' => ∃ v L, o = .returned v ∧ Q0 Z p1 p2 p3 p4 p5 p6 zc dd kd ee cc ma mu mv mo h0 n0 v U'.heap L ∧ ReturnedEndW U o U' L room_1.cells room_1.slots) := by
  refine MetFree.of_bodySF (plainFor_of_name pn_com_example_greater_than_greaterthan_page_PageHasPreviousPinLaw) hisR ?_
  intro p e s m args below meth c s₁ Bd hml0 hP hK
  obtain ⟨rfl, hZ, hh⟩ := hP
  have hx := Bd.exec
  have hby := Bd.bytes
  have hml : c.maxLocals = 16 := hml0
  have hown : s.vm.findClass "com/example/greater_than/greaterthan/page/PageHasPreviousPinLaw" = some m.cls := findClass_of_methodNamed Bd.named
  have hnm := (name_of_methodNamed Bd.named Bd.method).1
  have X0 : Stand p l e room_1 (s.setVm s.vm) m #[(.int p1), (.int p2), (.int p3), (.int p4), (.int p5), (.int p6)] below meth c s₁ [] 0 0 := Stand.of_body Bd
  have e0 : s₁.heap = h0 := by rw [← hh, Bd.state]; rfl
  have N0 := Fr.nil n0
  have hS : s.Since s.vm h0.size := (State.WarmedH.refl s).since _
  have hk := Nat.le_refl h0.size
  obtain ⟨F, hF⟩ : ∃ F, F = own_FinW s (Q0 Z p1 p2 p3 p4 p5 p6 zc dd kd ee cc ma mu mv mo h0 n0) room_1.cells room_1.slots := ⟨_, rfl⟩
  show own_Ends p e below (own_FinW s (Q0 Z p1 p2 p3 p4 p5 p6 zc dd kd ee cc ma mu mv mo h0 n0) room_1.cells room_1.slots) _
  rw [← hF, ef_rm0 m p1 p2 p3 p4 p5 p6]
  show own_Ends p e below F (s₁.setTop (mkF m 0 #[.val (.int p1), .val (.int p2), .val (.int p3), .val (.int p4), .val (.int p5), .val (.int p6), .unset, .unset, .unset, .unset, .unset, .unset, .unset, .unset, .unset, .unset] []))
  obtain ⟨A1, hA1⟩ : ∃ z : Array Slot, z = #[.val (.int p1), .val (.int p2), .val (.int p3), .val (.int p4), .val (.int p5), .val (.int p6), .unset, .unset, .unset, .unset, .unset, .unset, .unset, .unset, .unset, .unset] := ⟨_, rfl⟩
  rw [← hA1]
  show own_Ends p e below F (s₁.setTop (mkF m 0 A1 []))
  refine own_step (fun _ k => XS.iloadN X0.here hx rfl (hb hby at_0) (by rw [hA1]; rfl) k) ?_
  show own_Ends p e below F (s₁.setTop (mkF m 1 A1 [(.int p1)]))
  refine own_step (fun _ k => XS.iconst X0.here hx rfl (hb hby at_1) k) ?_
  show own_Ends p e below F (s₁.setTop (mkF m 2 A1 [(.int (1 : Int32)), (.int p1)]))
  refine own_step (fun _ k => XS.iand X0.here hx rfl (hb hby at_2) rfl k) ?_
  show own_Ends p e below F (s₁.setTop (mkF m 3 A1 [(.int (p1 &&& (1 : Int32)))]))
  by_cases c3_2 : (p1 &&& (1 : Int32)) = (0 : Int32)
  · refine own_step (fun _ k => XS.ifYes X0.here hx rfl (pc0 := 3) (pc' := 10) rfl (hb hby at_3) rfl ((if0 _ _).trans (teq c3_2).1) (by decide) (by decide) k) ?_
    show own_Ends p e below F (s₁.setTop (mkF m 10 A1 []))
    refine own_step (fun _ k => XS.iconst X0.here hx rfl (hb hby at_10) k) ?_
    show own_Ends p e below F (s₁.setTop (mkF m 11 A1 [(.int (0 : Int32))]))
    obtain ⟨A3, hA3⟩ : ∃ z : Array Slot, z = #[.val (.int p1), .val (.int p2), .val (.int p3), .val (.int p4), .val (.int p5), .val (.int p6), .val (.int (0 : Int32)), .unset, .unset, .unset, .unset, .unset, .unset, .unset, .unset, .unset] := ⟨_, rfl⟩
    refine own_step (fun _ k => XS.istore X0.here hx rfl (hb hby at_11) rfl (l' := A3) (by rw [hA1, hA3]; exact rfl) k) ?_
    show own_Ends p e below F (s₁.setTop (mkF m 13 A3 []))
    refine own_step (fun _ k => XS.iloadN X0.here hx rfl (hb hby at_13) (by rw [hA3]; rfl) k) ?_
    show own_Ends p e below F (s₁.setTop (mkF m 14 A3 [(.int p1)]))
    refine own_step (fun _ k => XS.iconst X0.here hx rfl (hb hby at_14) k) ?_
    show own_Ends p e below F (s₁.setTop (mkF m 15 A3 [(.int (2 : Int32)), (.int p1)]))
    refine own_step (fun _ k => XS.iand X0.here hx rfl (hb hby at_15) rfl k) ?_
    show own_Ends p e below F (s₁.setTop (mkF m 16 A3 [(.int (p1 &&& (2 : Int32)))]))
    have J16_5 : ∀ (z4 : Int32) (hz4 : z4 = (if (p1 &&& (2 : Int32)) = (0 : Int32) then (0 : Int32) else (1 : Int32))), own_Ends p e below F (s₁.setTop (mkF m 24 #[.val (.int p1), .val (.int p2), .val (.int p3), .val (.int p4), .val (.int p5), .val (.int p6), .val (.int (0 : Int32)), .unset, .unset, .unset, .unset, .unset, .unset, .unset, .unset, .unset] [(.int z4)])) := by
      intro z4 hz4
      obtain ⟨A7, hA7⟩ : ∃ z : Array Slot, z = #[.val (.int p1), .val (.int p2), .val (.int p3), .val (.int p4), .val (.int p5), .val (.int p6), .val (.int (0 : Int32)), .unset, .unset, .unset, .unset, .unset, .unset, .unset, .unset, .unset] := ⟨_, rfl⟩
      rw [← hA7]
      show own_Ends p e below F (s₁.setTop (mkF m 24 A7 [(.int z4)]))
      obtain ⟨A8, hA8⟩ : ∃ z : Array Slot, z = #[.val (.int p1), .val (.int p2), .val (.int p3), .val (.int p4), .val (.int p5), .val (.int p6), .val (.int (0 : Int32)), .val (.int z4), .unset, .unset, .unset, .unset, .unset, .unset, .unset, .unset] := ⟨_, rfl⟩
      refine own_step (fun _ k => XS.istore X0.here hx rfl (hb hby at_24) rfl (l' := A8) (by rw [hA7, hA8]; exact rfl) k) ?_
      show own_Ends p e below F (s₁.setTop (mkF m 26 A8 []))
      refine own_step (fun _ k => XS.iloadN X0.here hx rfl (hb hby at_26) (by rw [hA8]; rfl) k) ?_
      show own_Ends p e below F (s₁.setTop (mkF m 27 A8 [(.int p1)]))
      refine own_step (fun _ k => XS.iconst X0.here hx rfl (hb hby at_27) k) ?_
      show own_Ends p e below F (s₁.setTop (mkF m 28 A8 [(.int (2 : Int32)), (.int p1)]))
      refine own_step (fun _ k => XS.iushr X0.here hx rfl (hb hby at_28) rfl k) ?_
      show own_Ends p e below F (s₁.setTop (mkF m 29 A8 [(.int ((p1.toUInt32 >>> ((2 : Int32) &&& 31).toUInt32).toInt32))]))
      refine own_step (fun _ k => XS.iconst X0.here hx rfl (hb hby at_29) k) ?_
      show own_Ends p e below F (s₁.setTop (mkF m 30 A8 [(.int (3 : Int32)), (.int ((p1.toUInt32 >>> ((2 : Int32) &&& 31).toUInt32).toInt32))]))
      refine own_step (fun _ k => XS.iand X0.here hx rfl (hb hby at_30) rfl k) ?_
      show own_Ends p e below F (s₁.setTop (mkF m 31 A8 [(.int (((p1.toUInt32 >>> ((2 : Int32) &&& 31).toUInt32).toInt32) &&& (3 : Int32)))]))
      refine own_step (fun _ k => XS.iconst X0.here hx rfl (hb hby at_31) k) ?_
      show own_Ends p e below F (s₁.setTop (mkF m 32 A8 [(.int (3 : Int32)), (.int (((p1.toUInt32 >>> ((2 : Int32) &&& 31).toUInt32).toInt32) &&& (3 : Int32)))]))
      refine own_step (fun _ k => iremM (below := below) X0 hx rfl (hb hby at_32) rfl (by decide) k) ?_
      show own_Ends p e below F (s₁.setTop (mkF m 33 A8 [(.int ((((p1.toUInt32 >>> ((2 : Int32) &&& 31).toUInt32).toInt32) &&& (3 : Int32)) % (3 : Int32)))]))
      obtain ⟨v9, ev9⟩ : ∃ z : Int32, z = ((((p1.toUInt32 >>> ((2 : Int32) &&& 31).toUInt32).toInt32) &&& (3 : Int32)) % (3 : Int32)) := ⟨_, rfl⟩
      rw [← ev9]
      show own_Ends p e below F (s₁.setTop (mkF m 33 A8 [(.int v9)]))
      obtain ⟨A10, hA10⟩ : ∃ z : Array Slot, z = #[.val (.int p1), .val (.int p2), .val (.int p3), .val (.int p4), .val (.int p5), .val (.int p6), .val (.int (0 : Int32)), .val (.int z4), .val (.int v9), .unset, .unset, .unset, .unset, .unset, .unset, .unset] := ⟨_, rfl⟩
      refine own_step (fun _ k => XS.istore X0.here hx rfl (hb hby at_33) rfl (l' := A10) (by rw [hA8, hA10]; exact rfl) k) ?_
      show own_Ends p e below F (s₁.setTop (mkF m 35 A10 []))
      refine own_step (fun _ k => XS.iloadN X0.here hx rfl (hb hby at_35) (by rw [hA10]; rfl) k) ?_
      show own_Ends p e below F (s₁.setTop (mkF m 36 A10 [(.int p1)]))
      refine own_step (fun _ k => XS.iconst X0.here hx rfl (hb hby at_36) k) ?_
      show own_Ends p e below F (s₁.setTop (mkF m 37 A10 [(.int (4 : Int32)), (.int p1)]))
      refine own_step (fun _ k => XS.iushr X0.here hx rfl (hb hby at_37) rfl k) ?_
      show own_Ends p e below F (s₁.setTop (mkF m 38 A10 [(.int ((p1.toUInt32 >>> ((4 : Int32) &&& 31).toUInt32).toInt32))]))
      refine own_step (fun _ k => XS.iconst X0.here hx rfl (hb hby at_38) k) ?_
      show own_Ends p e below F (s₁.setTop (mkF m 39 A10 [(.int (3 : Int32)), (.int ((p1.toUInt32 >>> ((4 : Int32) &&& 31).toUInt32).toInt32))]))
      refine own_step (fun _ k => XS.iand X0.here hx rfl (hb hby at_39) rfl k) ?_
      show own_Ends p e below F (s₁.setTop (mkF m 40 A10 [(.int (((p1.toUInt32 >>> ((4 : Int32) &&& 31).toUInt32).toInt32) &&& (3 : Int32)))]))
      refine own_step (fun _ k => XS.iconst X0.here hx rfl (hb hby at_40) k) ?_
      show own_Ends p e below F (s₁.setTop (mkF m 41 A10 [(.int (3 : Int32)), (.int (((p1.toUInt32 >>> ((4 : Int32) &&& 31).toUInt32).toInt32) &&& (3 : Int32)))]))
      refine own_step (fun _ k => iremM (below := below) X0 hx rfl (hb hby at_41) rfl (by decide) k) ?_
      show own_Ends p e below F (s₁.setTop (mkF m 42 A10 [(.int ((((p1.toUInt32 >>> ((4 : Int32) &&& 31).toUInt32).toInt32) &&& (3 : Int32)) % (3 : Int32)))]))
      obtain ⟨v11, ev11⟩ : ∃ z : Int32, z = ((((p1.toUInt32 >>> ((4 : Int32) &&& 31).toUInt32).toInt32) &&& (3 : Int32)) % (3 : Int32)) := ⟨_, rfl⟩
      rw [← ev11]
      show own_Ends p e below F (s₁.setTop (mkF m 42 A10 [(.int v11)]))
      obtain ⟨A12, hA12⟩ : ∃ z : Array Slot, z = #[.val (.int p1), .val (.int p2), .val (.int p3), .val (.int p4), .val (.int p5), .val (.int p6), .val (.int (0 : Int32)), .val (.int z4), .val (.int v9), .val (.int v11), .unset, .unset, .unset, .unset, .unset, .unset] := ⟨_, rfl⟩
      refine own_step (fun _ k => XS.istore X0.here hx rfl (hb hby at_42) rfl (l' := A12) (by rw [hA10, hA12]; exact rfl) k) ?_
      show own_Ends p e below F (s₁.setTop (mkF m 44 A12 []))
      refine own_step (fun _ k => XS.iloadN X0.here hx rfl (hb hby at_44) (by rw [hA12]; rfl) k) ?_
      show own_Ends p e below F (s₁.setTop (mkF m 45 A12 [(.int p1)]))
      refine own_step (fun _ k => XS.bipush X0.here hx rfl (hb hby at_45) k) ?_
      show own_Ends p e below F (s₁.setTop (mkF m 47 A12 [(.int (6 : Int32)), (.int p1)]))
      refine own_step (fun _ k => XS.iushr X0.here hx rfl (hb hby at_47) rfl k) ?_
      show own_Ends p e below F (s₁.setTop (mkF m 48 A12 [(.int ((p1.toUInt32 >>> ((6 : Int32) &&& 31).toUInt32).toInt32))]))
      refine own_step (fun _ k => XS.iconst X0.here hx rfl (hb hby at_48) k) ?_
      show own_Ends p e below F (s₁.setTop (mkF m 49 A12 [(.int (3 : Int32)), (.int ((p1.toUInt32 >>> ((6 : Int32) &&& 31).toUInt32).toInt32))]))
      refine own_step (fun _ k => XS.iand X0.here hx rfl (hb hby at_49) rfl k) ?_
      show own_Ends p e below F (s₁.setTop (mkF m 50 A12 [(.int (((p1.toUInt32 >>> ((6 : Int32) &&& 31).toUInt32).toInt32) &&& (3 : Int32)))]))
      obtain ⟨v13, ev13⟩ : ∃ z : Int32, z = (((p1.toUInt32 >>> ((6 : Int32) &&& 31).toUInt32).toInt32) &&& (3 : Int32)) := ⟨_, rfl⟩
      rw [← ev13]
      show own_Ends p e below F (s₁.setTop (mkF m 50 A12 [(.int v13)]))
      obtain ⟨A14, hA14⟩ : ∃ z : Array Slot, z = #[.val (.int p1), .val (.int p2), .val (.int p3), .val (.int p4), .val (.int p5), .val (.int p6), .val (.int (0 : Int32)), .val (.int z4), .val (.int v9), .val (.int v11), .val (.int v13), .unset, .unset, .unset, .unset, .unset] := ⟨_, rfl⟩
      refine own_step (fun _ k => XS.istore X0.here hx rfl (hb hby at_50) rfl (l' := A14) (by rw [hA12, hA14]; exact rfl) k) ?_
      show own_Ends p e below F (s₁.setTop (mkF m 52 A14 []))
      refine own_step (fun _ k => XS.iloadN X0.here hx rfl (hb hby at_52) (by rw [hA14]; rfl) k) ?_
      show own_Ends p e below F (s₁.setTop (mkF m 53 A14 [(.int p1)]))
      refine own_step (fun _ k => XS.sipush X0.here hx rfl (hb hby at_53) k) ?_
      show own_Ends p e below F (s₁.setTop (mkF m 56 A14 [(.int (256 : Int32)), (.int p1)]))
      refine own_step (fun _ k => XS.iand X0.here hx rfl (hb hby at_56) rfl k) ?_
      show own_Ends p e below F (s₁.setTop (mkF m 57 A14 [(.int (p1 &&& (256 : Int32)))]))
      have J57_16 : ∀ (z15 : Int32) (hz15 : z15 = (if (p1 &&& (256 : Int32)) = (0 : Int32) then (0 : Int32) else (1 : Int32))), own_Ends p e below F (s₁.setTop (mkF m 65 #[.val (.int p1), .val (.int p2), .val (.int p3), .val (.int p4), .val (.int p5), .val (.int p6), .val (.int (0 : Int32)), .val (.int z4), .val (.int v9), .val (.int v11), .val (.int v13), .unset, .unset, .unset, .unset, .unset] [(.int z15)])) := by
        intro z15 hz15
        obtain ⟨A18, hA18⟩ : ∃ z : Array Slot, z = #[.val (.int p1), .val (.int p2), .val (.int p3), .val (.int p4), .val (.int p5), .val (.int p6), .val (.int (0 : Int32)), .val (.int z4), .val (.int v9), .val (.int v11), .val (.int v13), .unset, .unset, .unset, .unset, .unset] := ⟨_, rfl⟩
        rw [← hA18]
        show own_Ends p e below F (s₁.setTop (mkF m 65 A18 [(.int z15)]))
        obtain ⟨A19, hA19⟩ : ∃ z : Array Slot, z = #[.val (.int p1), .val (.int p2), .val (.int p3), .val (.int p4), .val (.int p5), .val (.int p6), .val (.int (0 : Int32)), .val (.int z4), .val (.int v9), .val (.int v11), .val (.int v13), .val (.int z15), .unset, .unset, .unset, .unset] := ⟨_, rfl⟩
        refine own_step (fun _ k => XS.istore X0.here hx rfl (hb hby at_65) rfl (l' := A19) (by rw [hA18, hA19]; exact rfl) k) ?_
        show own_Ends p e below F (s₁.setTop (mkF m 67 A19 []))
        refine own_step (fun _ k => XS.iload X0.here hx rfl (hb hby at_67) (by rw [hA19]; rfl) k) ?_
        show own_Ends p e below F (s₁.setTop (mkF m 69 A19 [(.int (0 : Int32))]))
        refine own_step (fun _ k => XS.ifYes X0.here hx rfl (pc0 := 69) (pc' := 82) rfl (hb hby at_69) rfl ((if0 _ _).trans (teq (by decide : (0 : Int32) = (0 : Int32))).1) (by decide) (by decide) k) ?_
        show own_Ends p e below F (s₁.setTop (mkF m 82 A19 []))
        refine own_step (fun _ k => XS.aconstNull X0.here hx rfl (hb hby at_82) k) ?_
        show own_Ends p e below F (s₁.setTop (mkF m 83 A19 [.null]))
        obtain ⟨A20, hA20⟩ : ∃ z : Array Slot, z = #[.val (.int p1), .val (.int p2), .val (.int p3), .val (.int p4), .val (.int p5), .val (.int p6), .val (.int (0 : Int32)), .val (.int z4), .val (.int v9), .val (.int v11), .val (.int v13), .val (.int z15), .val .null, .unset, .unset, .unset] := ⟨_, rfl⟩
        refine own_step (fun _ k => XS.astore X0.here hx rfl (hb hby at_83) rfl rfl (l' := A20) (by rw [hA19, hA20]; exact rfl) k) ?_
        show own_Ends p e below F (s₁.setTop (mkF m 85 A20 []))
        refine own_step (fun _ k => XS.iload X0.here hx rfl (hb hby at_85) (by rw [hA20]; rfl) k) ?_
        show own_Ends p e below F (s₁.setTop (mkF m 87 A20 [(.int z4)]))
        have J87_22 : ∀ (vm23 : Vm) (T23 : State) (l23 : List Loc) (h23 : Heap) (X23 : Stand p l e room_1 (s.setVm vm23) m #[(.int p1), (.int p2), (.int p3), (.int p4), (.int p5), (.int p6)] below meth c T23 l23 3 8) (e23 : T23.heap = h23) (N23 : Fr n0 l23) (z21 : Value) (hz21 : z21.isRef = true) (Z23 : n0 ≤ h23.size) (SZ23 : h0.size ≤ h23.size) (hZ : Z.Warmed39 vm23) (hown : vm23.findClass "com/example/greater_than/greaterthan/page/PageHasPreviousPinLaw" = some m.cls) (kk23 : Nat) (hS : s.Since vm23 kk23) (hk : kk23 ≤ h23.size) (SC23 : Sta Z h23 "java/lang/String" "COMPACT_STRINGS" "Z" (.int zc)) (SD23 : Sta Z h23 "java/util/ArrayList" "DEFAULTCAPACITY_EMPTY_ELEMENTDATA" "[Ljava/lang/Object;" (.ref dd)) (SE23 : Sta Z h23 "java/util/ArrayList" "EMPTY_ELEMENTDATA" "[Ljava/lang/Object;" (.ref ee)) (SH23 : Sta Z h23 "java/lang/Integer$IntegerCache" "high" "I" (.int (127 : Int32))) (SK23 : Sta Z h23 "java/lang/Integer$IntegerCache" "cache" "[Ljava/lang/Integer;" (.ref cc)) (VD23 : Arv Z h23 dd kd (.object "java/lang/Object") (0 : Int32) [] .null) (XD23 : Exa Z h23 dd "[Ljava/lang/Object;") (BC23 : own_Bx Z h23 cc), own_Ends p e below F (T23.setTop (mkF m 102 #[.val (.int p1), .val (.int p2), .val (.int p3), .val (.int p4), .val (.int p5), .val (.int p6), .val (.int (0 : Int32)), .val (.int z4), .val (.int v9), .val (.int v11), .val (.int v13), .val (.int z15), .val .null, .unset, .unset, .unset] [z21])) := by
          intro vm23 T23 l23 h23 X23 e23 N23 z21 hz21 Z23 SZ23 hZ hown kk23 hS hk SC23 SD23 SE23 SH23 SK23 VD23 XD23 BC23
          obtain ⟨A24, hA24⟩ : ∃ z : Array Slot, z = #[.val (.int p1), .val (.int p2), .val (.int p3), .val (.int p4), .val (.int p5), .val (.int p6), .val (.int (0 : Int32)), .val (.int z4), .val (.int v9), .val (.int v11), .val (.int v13), .val (.int z15), .val .null, .unset, .unset, .unset] := ⟨_, rfl⟩
          rw [← hA24]
          show own_Ends p e below F (T23.setTop (mkF m 102 A24 [z21]))
          obtain ⟨A25, hA25⟩ : ∃ z : Array Slot, z = #[.val (.int p1), .val (.int p2), .val (.int p3), .val (.int p4), .val (.int p5), .val (.int p6), .val (.int (0 : Int32)), .val (.int z4), .val (.int v9), .val (.int v11), .val (.int v13), .val (.int z15), .val .null, .val z21, .unset, .unset] := ⟨_, rfl⟩
          refine own_step (fun _ k => XS.astore X23.here hx rfl (hb hby at_102) rfl hz21 (l' := A25) (by rw [hA24, hA25]; exact (XS.store1 (o := .unset) rfl (Or.inl rfl) (own_catR hz21))) k) ?_
          show own_Ends p e below F (T23.setTop (mkF m 104 A25 []))
          obtain ⟨T26, h26, X26, e26, E26, A26, D26, -, st26⟩ := newO X23 hx hZ hown (own_g hw 0 rfl) (own_g hw 1 rfl) (own_g hw 2 rfl) e23 (g := (mkF m 104 A25 [])) rfl (hb hby at_104) (by decide) (by decide)
          obtain ⟨a26, g26⟩ : ∃ z, z = h23.size := ⟨_, rfl⟩
          rw [← g26] at A26 D26 st26
          have ge_a26 : n0 ≤ a26 := Nat.le_trans Z23 (Nat.le_of_eq g26.symm)
          have sz_a26 : h0.size ≤ a26 := Nat.le_trans SZ23 (Nat.le_of_eq g26.symm)
          have ne_dd_a26 : dd ≠ a26 := Nat.ne_of_lt (by rw [g26]; exact VD23.lt)
          have ne_cc_a26 : cc ≠ a26 := Nat.ne_of_lt (by rw [g26]; exact BC23.lt)
          have Z26 : n0 ≤ h26.size := Nat.le_trans Z23 E26.1
          have SZ26 : h0.size ≤ h26.size := Nat.le_trans SZ23 E26.1
          have hk := Nat.le_trans hk E26.1
          have F26_modCount : Fld Z h26 a26 "java/util/AbstractList" "modCount" "I" (.int (0 : Int32)) := D26 (Or.inl (own_g hw 22 rfl)) (ty := .int) (by decide)
          have F26_elementData : Fld Z h26 a26 "java/util/ArrayList" "elementData" "[Ljava/lang/Object;" .null := D26 (Or.inl (own_g hw 25 rfl)) (ty := (.array (.object "java/lang/Object"))) (by decide)
          have F26_size : Fld Z h26 a26 "java/util/ArrayList" "size" "I" (.int (0 : Int32)) := D26 (Or.inl (own_g hw 47 rfl)) (ty := .int) (by decide)
          refine own_step st26 ?_
          show own_Ends p e below F (T26.setTop (mkF m 107 A25 [(.ref a26)]))
          refine own_step (fun _ k => XS.dup X26.here hx rfl (hb hby at_107) rfl rfl k) ?_
          show own_Ends p e below F (T26.setTop (mkF m 108 A25 [(.ref a26), (.ref a26)]))
          obtain ⟨_, _, ⟨T27, L27, k27, n27⟩, -, X27, ⟨Lc27, hQ27, l27, y27, z27⟩, st27⟩ := X26.specialBack hx (y := (⟨"java/util/ArrayList", "<init>", "()V"⟩ : MethodName)) rfl hown (mvT hZ (own_g hw 3 rfl)) (mvT hZ (own_g hw 4 rfl)) (mvT hZ (own_g hw 5 rfl)) (by decide) (backOf (W := 1) (rm1 l Z a0 hw [] a26 dd h26 n0 Z26 A26 ge_a26 F26_modCount F26_elementData F26_size (Sta.ext E26 SD23)) hZ (own_g hw 5 rfl) (own_g hw 2 rfl) (by decide) (by decide)) (g := (mkF m 108 A25 [(.ref a26), (.ref a26)])) rfl (by rw [hml]; show A25.size = _; rw [hA25]; rfl) (Steps.refl _) (a := a26) (argsL := []) (rest := [(.ref a26)]) (lenOf pd__28_29V rfl) rfl (by show 2 * 0 + _ ≤ _; exact Nat.le_of_eq rfl) (hb hby at_108) (fun _ _ => ⟨rfl, e26, (by decide : 4 + 0 ≤ _), (by decide : 11 + 0 ≤ _)⟩)
          dsimp only [Pt.U, Pt.locs, Pt.cells, Pt.slots] at X27 l27 y27 z27 st27 hQ27
          subst l27 y27 z27
          obtain ⟨rfl, Nq27, Kq27, fq0_27, fq1_27, fq2_27, fq3_27⟩ := hQ27
          have N27 := Fr.app N23 Nq27
          have Z27 : n0 ≤ T27.heap.size := Nat.le_trans Z26 Kq27.1
          have SZ27 : h0.size ≤ T27.heap.size := Nat.le_trans SZ26 Kq27.1
          have S0_27 := own_Sta_keep (Sta.ext E26 SC23) Kq27 (allS (own_ns_exa A26) all0)
          have S1_27 := own_Sta_keep (Sta.ext E26 SD23) Kq27 (allS (own_ns_exa A26) all0)
          have S2_27 := own_Sta_keep (Sta.ext E26 SE23) Kq27 (allS (own_ns_exa A26) all0)
          have S3_27 := own_Sta_keep (Sta.ext E26 SH23) Kq27 (allS (own_ns_exa A26) all0)
          have S4_27 := own_Sta_keep (Sta.ext E26 SK23) Kq27 (allS (own_ns_exa A26) all0)
          have hk := Nat.le_trans hk Kq27.1
          refine own_trans st27 ?_
          show own_Ends p e below F (T27.setTop (mkF m 111 A25 [(.ref a26)]))
          obtain ⟨A28, hA28⟩ : ∃ z : Array Slot, z = #[.val (.int p1), .val (.int p2), .val (.int p3), .val (.int p4), .val (.int p5), .val (.int p6), .val (.int (0 : Int32)), .val (.int z4), .val (.int v9), .val (.int v11), .val (.int v13), .val (.int z15), .val .null, .val z21, .val (.ref a26), .unset] := ⟨_, rfl⟩
          refine own_step (fun _ k => XS.astore X27.here hx rfl (hb hby at_111) rfl rfl (l' := A28) (by rw [hA25, hA28]; exact rfl) k) ?_
          show own_Ends p e below F (T27.setTop (mkF m 113 A28 []))
          rcases own_m3e ev13 with rfl | rfl | rfl | rfl
          · show own_Ends p e below F (T27.setTop (mkF m 113 A28 []))
            refine own_step (fun _ k => XS.iload X27.here hx rfl (hb hby at_113) (by rw [hA28]; rfl) k) ?_
            show own_Ends p e below F (T27.setTop (mkF m 115 A28 [(.int (0 : Int32))]))
            refine own_step (fun _ k => XS.iconst X27.here hx rfl (hb hby at_115) k) ?_
            show own_Ends p e below F (T27.setTop (mkF m 116 A28 [(.int (1 : Int32)), (.int (0 : Int32))]))
            refine own_step (fun _ k => XS.icmpYes X27.here hx rfl (pc0 := 116) (pc' := 130) rfl (hb hby at_116) rfl (tlt (by decide : (0 : Int32) < (1 : Int32))).1 (by decide) (by decide) k) ?_
            show own_Ends p e below F (T27.setTop (mkF m 130 A28 []))
            refine own_step (fun _ k => XS.iload X27.here hx rfl (hb hby at_130) (by rw [hA28]; rfl) k) ?_
            show own_Ends p e below F (T27.setTop (mkF m 132 A28 [(.int (0 : Int32))]))
            refine own_step (fun _ k => XS.iconst X27.here hx rfl (hb hby at_132) k) ?_
            show own_Ends p e below F (T27.setTop (mkF m 133 A28 [(.int (2 : Int32)), (.int (0 : Int32))]))
            refine own_step (fun _ k => XS.icmpYes X27.here hx rfl (pc0 := 133) (pc' := 155) rfl (hb hby at_133) rfl (tlt (by decide : (0 : Int32) < (2 : Int32))).1 (by decide) (by decide) k) ?_
            show own_Ends p e below F (T27.setTop (mkF m 155 A28 []))
            refine own_step (fun _ k => XS.iload X27.here hx rfl (hb hby at_155) (by rw [hA28]; rfl) k) ?_
            show own_Ends p e below F (T27.setTop (mkF m 157 A28 [(.int (0 : Int32))]))
            refine own_step (fun _ k => XS.iconst X27.here hx rfl (hb hby at_157) k) ?_
            show own_Ends p e below F (T27.setTop (mkF m 158 A28 [(.int (3 : Int32)), (.int (0 : Int32))]))
            refine own_step (fun _ k => XS.icmpYes X27.here hx rfl (pc0 := 158) (pc' := 171) rfl (hb hby at_158) rfl (tlt (by decide : (0 : Int32) < (3 : Int32))).1 (by decide) (by decide) k) ?_
            show own_Ends p e below F (T27.setTop (mkF m 171 A28 []))
            obtain ⟨T29, h29, X29, e29, E29, A29, D29, -, st29⟩ := newO X27 hx hZ hown (own_g hw 26 rfl) (own_g hw 27 rfl) (own_g hw 28 rfl) rfl (g := (mkF m 171 A28 [])) rfl (hb hby at_171) (by decide) (by decide)
            obtain ⟨a29, g29⟩ : ∃ z, z = T27.heap.size := ⟨_, rfl⟩
            rw [← g29] at A29 D29 st29
            have ge_a29 : n0 ≤ a29 := Nat.le_trans Z27 (Nat.le_of_eq g29.symm)
            have sz_a29 : h0.size ≤ a29 := Nat.le_trans SZ27 (Nat.le_of_eq g29.symm)
            have ne_dd_a29 : dd ≠ a29 := Nat.ne_of_lt (by rw [g29]; exact ((VD23.ext E26).keep Kq27 (ninS ne_dd_a26 nin0)).lt)
            have ne_cc_a29 : cc ≠ a29 := Nat.ne_of_lt (by rw [g29]; exact ((BC23.ext E26).keep Kq27 (ninS ne_cc_a26 nin0)).lt)
            have ne_a26_a29 : a26 ≠ a29 := Nat.ne_of_lt (by rw [g29]; exact fq1_27.lt)
            have Z29 : n0 ≤ h29.size := Nat.le_trans Z27 E29.1
            have SZ29 : h0.size ≤ h29.size := Nat.le_trans SZ27 E29.1
            have hk := Nat.le_trans hk E29.1
            have F29_rows : Fld Z h29 a29 "com/example/greater_than/greaterthan/page/Page" "rows" "Ljava/util/List;" .null := D29 (Or.inr (own_g hw 114 rfl)) (ty := (.object "java/util/List")) (by decide)
            have F29_previousCursor : Fld Z h29 a29 "com/example/greater_than/greaterthan/page/Page" "previousCursor" "Ljava/lang/String;" .null := D29 (Or.inr (own_g hw 116 rfl)) (ty := (.object "java/lang/String")) (by decide)
            have F29_nextCursor : Fld Z h29 a29 "com/example/greater_than/greaterthan/page/Page" "nextCursor" "Ljava/lang/String;" .null := D29 (Or.inr (own_g hw 118 rfl)) (ty := (.object "java/lang/String")) (by decide)
            refine own_step st29 ?_
            show own_Ends p e below F (T29.setTop (mkF m 174 A28 [(.ref a29)]))
            refine own_step (fun _ k => XS.dup X29.here hx rfl (hb hby at_174) rfl rfl k) ?_
            show own_Ends p e below F (T29.setTop (mkF m 175 A28 [(.ref a29), (.ref a29)]))
            refine own_step (fun _ k => XS.aload X29.here hx rfl (hb hby at_175) (by rw [hA28]; rfl) rfl k) ?_
            show own_Ends p e below F (T29.setTop (mkF m 177 A28 [(.ref a26), (.ref a29), (.ref a29)]))
            refine own_step (fun _ k => XS.aload X29.here hx rfl (hb hby at_177) (by rw [hA28]; rfl) rfl k) ?_
            show own_Ends p e below F (T29.setTop (mkF m 179 A28 [.null, (.ref a26), (.ref a29), (.ref a29)]))
            refine own_step (fun _ k => XS.aload X29.here hx rfl (hb hby at_179) (by rw [hA28]; rfl) hz21 k) ?_
            show own_Ends p e below F (T29.setTop (mkF m 181 A28 [z21, .null, (.ref a26), (.ref a29), (.ref a29)]))
            obtain ⟨_, _, ⟨T30, L30, k30, n30⟩, -, X30, ⟨Lc30, hQ30, l30, y30, z30⟩, st30⟩ := X29.specialBack hx (y := (⟨"com/example/greater_than/greaterthan/page/Page", "<init>", "(Ljava/util/List;Ljava/lang/String;Ljava/lang/String;)V"⟩ : MethodName)) rfl hown (mvT hZ (own_g hw 29 rfl)) (mvT hZ (own_g hw 30 rfl)) (mvT hZ (own_g hw 31 rfl)) (by decide) (backOf (W := 1) (rm5_0 l Z a0 hw [] a29 a26 dd kd  .null z21 ee ma mu mv mo h29 n0 Z29 A29 ge_a29 F29_rows F29_previousCursor F29_nextCursor (((VD23.ext E26).keep Kq27 (ninS ne_dd_a26 nin0)).ext E29) (((XD23.ext E26).keep Kq27).ext E29) (fq0_27.ext E29) (fq2_27.ext E29) (fq3_27.ext E29) (Sta.ext E29 S2_27) M_ma M_mu M_mv M_mo rfl hz21) hZ (own_g hw 31 rfl) (own_g hw 28 rfl) (by decide) (by decide)) (g := (mkF m 181 A28 [z21, .null, (.ref a26), (.ref a29), (.ref a29)])) rfl (by rw [hml]; show A28.size = _; rw [hA28]; rfl) (Steps.refl _) (a := a29) (argsL := [(.ref a26), .null, z21]) (rest := [(.ref a29)]) (lenOf pd__28Ljava_2futil_2fList_3bLjava_2flang_2fString_3bLjava_2flang_2fString_3b_29V rfl) rfl (by show 2 * 0 + _ ≤ _; exact Nat.le_of_eq rfl) (hb hby at_181) (fun _ _ => ⟨rfl, e29, (by decide : 5 + 3 ≤ _), (by decide : 14 + 5 ≤ _)⟩)
            dsimp only [Pt.U, Pt.locs, Pt.cells, Pt.slots] at X30 l30 y30 z30 st30 hQ30
            subst l30 y30 z30
            obtain ⟨rfl, Nq30, Kq30, fq0_30, fq1_30, fq2_30⟩ := hQ30
            have N30 := Fr.app N27 Nq30
            have Z30 : n0 ≤ T30.heap.size := Nat.le_trans Z29 Kq30.1
            have SZ30 : h0.size ≤ T30.heap.size := Nat.le_trans SZ29 Kq30.1
            have S0_30 := own_Sta_keep (Sta.ext E29 S0_27) Kq30 (allS (own_ns_exa A29) all0)
            have S1_30 := own_Sta_keep (Sta.ext E29 S1_27) Kq30 (allS (own_ns_exa A29) all0)
            have S2_30 := own_Sta_keep (Sta.ext E29 S2_27) Kq30 (allS (own_ns_exa A29) all0)
            have S3_30 := own_Sta_keep (Sta.ext E29 S3_27) Kq30 (allS (own_ns_exa A29) all0)
            have S4_30 := own_Sta_keep (Sta.ext E29 S4_27) Kq30 (allS (own_ns_exa A29) all0)
            have hk := Nat.le_trans hk Kq30.1
            refine own_trans st30 ?_
            show own_Ends p e below F (T30.setTop (mkF m 184 A28 [(.ref a29)]))
            obtain ⟨A31, hA31⟩ : ∃ z : Array Slot, z = #[.val (.int p1), .val (.int p2), .val (.int p3), .val (.int p4), .val (.int p5), .val (.int p6), .val (.int (0 : Int32)), .val (.int z4), .val (.int v9), .val (.int v11), .val (.int (0 : Int32)), .val (.int z15), .val .null, .val z21, .val (.ref a26), .val (.ref a29)] := ⟨_, rfl⟩
            refine own_step (fun _ k => XS.astore X30.here hx rfl (hb hby at_184) rfl rfl (l' := A31) (by rw [hA28, hA31]; exact rfl) k) ?_
            show own_Ends p e below F (T30.setTop (mkF m 186 A31 []))
            refine own_step (fun _ k => XS.aload X30.here hx rfl (hb hby at_186) (by rw [hA31]; rfl) rfl k) ?_
            show own_Ends p e below F (T30.setTop (mkF m 188 A31 [(.ref a29)]))
            obtain ⟨cq32, kq32, qa32, qb32, qc32⟩ := isOf (s := (s.setVm vm23)) (T := T30) hZ rfl fq0_30
            obtain ⟨_, _, ⟨T32, L32, k32, n32⟩, -, X32, ⟨Lc32, hQ32, l32, y32, z32⟩, st32⟩ := X30.virtualBack hx (y := (⟨"com/example/greater_than/greaterthan/page/Page", "hasPrevious", "()Z"⟩ : MethodName)) (z := (⟨"com/example/greater_than/greaterthan/page/Page", "hasPrevious", "()Z"⟩ : MethodName)) hown (mvT hZ (own_g hw 119 rfl)) (mvT hZ (own_g hw 120 rfl)) (notFace_of_selects (args := #[]) (mvT hZ (own_g hw 122 rfl))) (mvT hZ (own_g hw 122 rfl)) (mvT hZ (own_g hw 121 rfl)) (by decide) (backOf (W := 0) (rm15n l Z a0 hw [] a29 T30.heap n0 Z30 fq1_30) hZ (own_g hw 123 rfl) (own_g hw 28 rfl) (by decide) (by decide)) qa32 qc32 (g := (mkF m 188 A31 [(.ref a29)])) rfl (by rw [hml]; show A31.size = _; rw [hA31]; rfl) (Steps.refl _) (argsL := []) (rest := []) (lenOf pd__28_29Z rfl) rfl (by show 2 * 0 + _ ≤ _; exact Nat.le_of_eq rfl) (hb hby at_188) (fun _ _ => ⟨rfl, rfl, (by decide : 8 + 0 ≤ _), (by decide : 19 + 0 ≤ _)⟩)
            dsimp only [Pt.U, Pt.locs, Pt.cells, Pt.slots] at X32 l32 y32 z32 st32 hQ32
            subst l32 y32 z32
            obtain ⟨rfl, Nq32, eq32⟩ := hQ32
            have N32 := Fr.app N30 Nq32
            refine own_trans st32 ?_
            show own_Ends p e below F (T32.setTop (mkF m 191 A31 [(.int (0 : Int32))]))
            refine own_step (fun _ k => XS.iload X32.here hx rfl (hb hby at_191) (by rw [hA31]; rfl) k) ?_
            show own_Ends p e below F (T32.setTop (mkF m 193 A31 [(.int (0 : Int32)), (.int (0 : Int32))]))
            refine own_step (fun _ k => XS.icmpNo X32.here hx rfl (hb hby at_193) rfl (teq (by decide : (0 : Int32) = (0 : Int32))).2 k) ?_
            show own_Ends p e below F (T32.setTop (mkF m 196 A31 []))
            refine own_step (fun _ k => XS.iconst X32.here hx rfl (hb hby at_196) k) ?_
            show own_Ends p e below F (T32.setTop (mkF m 197 A31 [(.int (1 : Int32))]))
            refine own_step (fun _ k => XS.goto X32.here hx rfl (pc0 := 197) (pc' := 201) rfl (hb hby at_197) (by decide) (by decide) k) ?_
            show own_Ends p e below F (T32.setTop (mkF m 201 A31 [(.int (1 : Int32))]))
            rw [hF]
            exact own_retW X32 hS (by rw [eq32]; exact hk) (v := (some (.int (nar .boolean (1 : Int32))))) (fun h => by rw [Bd.returns] at h; cases h) Bd.notSynchronized (fun fs hr => retN X32 hx (t := .boolean) Bd.returns (by simp) (hb hby at_201) hr) (by decide) (by decide) (by rw [eq32]; exact ⟨rfl, N32⟩)
          · show own_Ends p e below F (T27.setTop (mkF m 113 A28 []))
            refine own_step (fun _ k => XS.iload X27.here hx rfl (hb hby at_113) (by rw [hA28]; rfl) k) ?_
            show own_Ends p e below F (T27.setTop (mkF m 115 A28 [(.int (1 : Int32))]))
            refine own_step (fun _ k => XS.iconst X27.here hx rfl (hb hby at_115) k) ?_
            show own_Ends p e below F (T27.setTop (mkF m 116 A28 [(.int (1 : Int32)), (.int (1 : Int32))]))
            refine own_step (fun _ k => XS.icmpNo X27.here hx rfl (hb hby at_116) rfl (flt (by decide : ¬ ((1 : Int32) < (1 : Int32)))).1 k) ?_
            show own_Ends p e below F (T27.setTop (mkF m 119 A28 []))
            refine own_step (fun _ k => XS.aload X27.here hx rfl (hb hby at_119) (by rw [hA28]; rfl) rfl k) ?_
            show own_Ends p e below F (T27.setTop (mkF m 121 A28 [(.ref a26)]))
            refine own_step (fun _ k => XS.iload X27.here hx rfl (hb hby at_121) (by rw [hA28]; rfl) k) ?_
            show own_Ends p e below F (T27.setTop (mkF m 123 A28 [(.int p6), (.ref a26)]))
            obtain ⟨_, _, ⟨T33, L33, k33, n33⟩, -, X33, ⟨Lc33, hQ33, l33, y33, z33⟩, st33⟩ := Jvm.LawKit.callS X27 hx (y := (⟨"java/lang/Integer", "valueOf", "(I)Ljava/lang/Integer;"⟩ : MethodName)) hown (mvT hZ (own_g hw 136 rfl)) (mvT hZ (own_g hw 137 rfl)) (mvT hZ (own_g hw 138 rfl)) (mvT hZ (own_g hw 139 rfl)) (by decide) (backOf (W := 1) (rm17 l Z a0 hw [] p6 cc T27.heap n0 Z27 S3_27 S4_27 ((BC23.ext E26).keep Kq27 (ninS ne_cc_a26 nin0))) hZ (own_g hw 139 rfl) (own_g hw 138 rfl) (by decide) (by decide)) (g := (mkF m 123 A28 [(.int p6), (.ref a26)])) rfl (by rw [hml]; show A28.size = _; rw [hA28]; rfl) (argsL := [(.int p6)]) (rest := [(.ref a26)]) (lenOf pd__28I_29Ljava_2flang_2fInteger_3b rfl) rfl (by show 2 * 0 + _ ≤ _; exact Nat.le_of_eq rfl) (hb hby at_123) (fun _ _ => ⟨rfl, rfl, (by decide : 4 + 1 ≤ _), (by decide : 11 + 1 ≤ _)⟩)
            dsimp only [Pt.U, Pt.locs, Pt.cells, Pt.slots] at X33 l33 y33 z33 st33 hQ33
            subst l33 y33 z33
            obtain ⟨c33, rfl, Nq33, Kq33, fq0_33⟩ := hQ33
            have N33 := Fr.app N27 Nq33
            have Z33 : n0 ≤ T33.heap.size := Nat.le_trans Z27 Kq33.1
            have SZ33 : h0.size ≤ T33.heap.size := Nat.le_trans SZ27 Kq33.1
            have S0_33 := own_Sta_keep S0_27 Kq33 all0
            have S1_33 := own_Sta_keep S1_27 Kq33 all0
            have S2_33 := own_Sta_keep S2_27 Kq33 all0
            have S3_33 := own_Sta_keep S3_27 Kq33 all0
            have S4_33 := own_Sta_keep S4_27 Kq33 all0
            have hk := Nat.le_trans hk Kq33.1
            refine own_step st33 ?_
            show own_Ends p e below F (T33.setTop (mkF m 126 A28 [(.ref c33), (.ref a26)]))
            obtain ⟨cq34, kq34, qa34, qb34, qc34⟩ := isOf (s := (s.setVm vm23)) (T := T33) hZ rfl (fq0_27.keep Kq33)
            obtain ⟨_, _, ⟨T34, L34, k34, n34⟩, -, X34, ⟨Lc34, hQ34, l34, y34, z34⟩, st34⟩ := X33.virtualBack hx (y := (⟨"java/util/ArrayList", "add", "(Ljava/lang/Object;)Z"⟩ : MethodName)) (z := (⟨"java/util/ArrayList", "add", "(Ljava/lang/Object;)Z"⟩ : MethodName)) hown (mvT hZ (own_g hw 157 rfl)) (mvT hZ (own_g hw 158 rfl)) (notFace_of_selects (args := #[]) (mvT hZ (own_g hw 160 rfl))) (mvT hZ (own_g hw 160 rfl)) (mvT hZ (own_g hw 159 rfl)) (by decide) (backOf (W := 0) (rm20_0 l Z a0 hw [] a26 dd kd (.ref c33) T33.heap n0 Z33 (fq0_27.keep Kq33) ge_a26 (fq1_27.keep Kq33 nin0) (fq2_27.keep Kq33 nin0) (fq3_27.keep Kq33 nin0) (Or.inr ⟨_, _, _, rfl, fq0_33, (own_g hw 183 rfl)⟩) S1_33 (((VD23.ext E26).keep Kq27 (ninS ne_dd_a26 nin0)).keep Kq33 nin0)) hZ (own_g hw 161 rfl) (own_g hw 2 rfl) (by decide) (by decide)) qa34 qc34 (g := (mkF m 126 A28 [(.ref c33), (.ref a26)])) rfl (by rw [hml]; show A28.size = _; rw [hA28]; rfl) (Steps.refl _) (argsL := [(.ref c33)]) (rest := []) (lenOf pd__28Ljava_2flang_2fObject_3b_29Z rfl) rfl (by show 2 * 0 + _ ≤ _; exact Nat.le_of_eq rfl) (hb hby at_126) (fun _ _ => ⟨rfl, rfl, (by decide : 5 + 1 ≤ _), (by decide : 12 + 10 ≤ _)⟩)
            dsimp only [Pt.U, Pt.locs, Pt.cells, Pt.slots] at X34 l34 y34 z34 st34 hQ34
            subst l34 y34 z34
            obtain ⟨c34, kc34, rfl, Nq34, Kq34, fq0_34, fq1_34, fq2_34, fq3_34, fq4_34, fq5_34, fq6_34, fq7_34⟩ := hQ34
            have N34 := Fr.app N33 Nq34
            have Z34 : n0 ≤ T34.heap.size := Nat.le_trans Z33 Kq34.1
            have SZ34 : h0.size ≤ T34.heap.size := Nat.le_trans SZ33 Kq34.1
            have S0_34 := own_Sta_keep S0_33 Kq34 (allS (own_ns_exa (fq0_27.keep Kq33)) all0)
            have S1_34 := own_Sta_keep S1_33 Kq34 (allS (own_ns_exa (fq0_27.keep Kq33)) all0)
            have S2_34 := own_Sta_keep S2_33 Kq34 (allS (own_ns_exa (fq0_27.keep Kq33)) all0)
            have S3_34 := own_Sta_keep S3_33 Kq34 (allS (own_ns_exa (fq0_27.keep Kq33)) all0)
            have S4_34 := own_Sta_keep S4_33 Kq34 (allS (own_ns_exa (fq0_27.keep Kq33)) all0)
            have ne_dd_c34 : dd ≠ c34 := Nat.ne_of_lt (Nat.lt_of_lt_of_le ((((VD23.ext E26).keep Kq27 (ninS ne_dd_a26 nin0)).keep Kq33 nin0)).lt fq0_34)
            have ne_cc_c34 : cc ≠ c34 := Nat.ne_of_lt (Nat.lt_of_lt_of_le ((((BC23.ext E26).keep Kq27 (ninS ne_cc_a26 nin0)).keep Kq33 nin0)).lt fq0_34)
            have ne_a26_c34 : a26 ≠ c34 := Nat.ne_of_lt (Nat.lt_of_lt_of_le ((fq1_27.keep Kq33 nin0)).lt fq0_34)
            have ne_c33_c34 : c33 ≠ c34 := Nat.ne_of_lt (Nat.lt_of_lt_of_le (fq0_33).lt fq0_34)
            have ge_c34 : n0 ≤ c34 := Nat.le_trans Z33 fq0_34
            have sz_c34 : h0.size ≤ c34 := Nat.le_trans SZ33 fq0_34
            have hk := Nat.le_trans hk Kq34.1
            refine own_trans st34 ?_
            show own_Ends p e below F (T34.setTop (mkF m 129 A28 [(.int (1 : Int32))]))
            refine own_step (fun _ k => XS.pop X34.here hx rfl (hb hby at_129) rfl rfl k) ?_
            show own_Ends p e below F (T34.setTop (mkF m 130 A28 []))
            refine own_step (fun _ k => XS.iload X34.here hx rfl (hb hby at_130) (by rw [hA28]; rfl) k) ?_
            show own_Ends p e below F (T34.setTop (mkF m 132 A28 [(.int (1 : Int32))]))
            refine own_step (fun _ k => XS.iconst X34.here hx rfl (hb hby at_132) k) ?_
            show own_Ends p e below F (T34.setTop (mkF m 133 A28 [(.int (2 : Int32)), (.int (1 : Int32))]))
            refine own_step (fun _ k => XS.icmpYes X34.here hx rfl (pc0 := 133) (pc' := 155) rfl (hb hby at_133) rfl (tlt (by decide : (1 : Int32) < (2 : Int32))).1 (by decide) (by decide) k) ?_
            show own_Ends p e below F (T34.setTop (mkF m 155 A28 []))
            refine own_step (fun _ k => XS.iload X34.here hx rfl (hb hby at_155) (by rw [hA28]; rfl) k) ?_
            show own_Ends p e below F (T34.setTop (mkF m 157 A28 [(.int (1 : Int32))]))
            refine own_step (fun _ k => XS.iconst X34.here hx rfl (hb hby at_157) k) ?_
            show own_Ends p e below F (T34.setTop (mkF m 158 A28 [(.int (3 : Int32)), (.int (1 : Int32))]))
            refine own_step (fun _ k => XS.icmpYes X34.here hx rfl (pc0 := 158) (pc' := 171) rfl (hb hby at_158) rfl (tlt (by decide : (1 : Int32) < (3 : Int32))).1 (by decide) (by decide) k) ?_
            show own_Ends p e below F (T34.setTop (mkF m 171 A28 []))
            obtain ⟨T35, h35, X35, e35, E35, A35, D35, -, st35⟩ := newO X34 hx hZ hown (own_g hw 26 rfl) (own_g hw 27 rfl) (own_g hw 28 rfl) rfl (g := (mkF m 171 A28 [])) rfl (hb hby at_171) (by decide) (by decide)
            obtain ⟨a35, g35⟩ : ∃ z, z = T34.heap.size := ⟨_, rfl⟩
            rw [← g35] at A35 D35 st35
            have ge_a35 : n0 ≤ a35 := Nat.le_trans Z34 (Nat.le_of_eq g35.symm)
            have sz_a35 : h0.size ≤ a35 := Nat.le_trans SZ34 (Nat.le_of_eq g35.symm)
            have ne_dd_a35 : dd ≠ a35 := Nat.ne_of_lt (by rw [g35]; exact ((((VD23.ext E26).keep Kq27 (ninS ne_dd_a26 nin0)).keep Kq33 nin0).keep Kq34 (ninS ne_dd_a26 nin0)).lt)
            have ne_cc_a35 : cc ≠ a35 := Nat.ne_of_lt (by rw [g35]; exact ((((BC23.ext E26).keep Kq27 (ninS ne_cc_a26 nin0)).keep Kq33 nin0).keep Kq34 (ninS ne_cc_a26 nin0)).lt)
            have ne_a26_a35 : a26 ≠ a35 := Nat.ne_of_lt (by rw [g35]; exact fq2_34.lt)
            have ne_c33_a35 : c33 ≠ a35 := Nat.ne_of_lt (by rw [g35]; exact (fq0_33.keep Kq34).lt)
            have ne_c34_a35 : c34 ≠ a35 := Nat.ne_of_lt (by rw [g35]; exact fq5_34.lt)
            have Z35 : n0 ≤ h35.size := Nat.le_trans Z34 E35.1
            have SZ35 : h0.size ≤ h35.size := Nat.le_trans SZ34 E35.1
            have hk := Nat.le_trans hk E35.1
            have F35_rows : Fld Z h35 a35 "com/example/greater_than/greaterthan/page/Page" "rows" "Ljava/util/List;" .null := D35 (Or.inr (own_g hw 114 rfl)) (ty := (.object "java/util/List")) (by decide)
            have F35_previousCursor : Fld Z h35 a35 "com/example/greater_than/greaterthan/page/Page" "previousCursor" "Ljava/lang/String;" .null := D35 (Or.inr (own_g hw 116 rfl)) (ty := (.object "java/lang/String")) (by decide)
            have F35_nextCursor : Fld Z h35 a35 "com/example/greater_than/greaterthan/page/Page" "nextCursor" "Ljava/lang/String;" .null := D35 (Or.inr (own_g hw 118 rfl)) (ty := (.object "java/lang/String")) (by decide)
            refine own_step st35 ?_
            show own_Ends p e below F (T35.setTop (mkF m 174 A28 [(.ref a35)]))
            refine own_step (fun _ k => XS.dup X35.here hx rfl (hb hby at_174) rfl rfl k) ?_
            show own_Ends p e below F (T35.setTop (mkF m 175 A28 [(.ref a35), (.ref a35)]))
            refine own_step (fun _ k => XS.aload X35.here hx rfl (hb hby at_175) (by rw [hA28]; rfl) rfl k) ?_
            show own_Ends p e below F (T35.setTop (mkF m 177 A28 [(.ref a26), (.ref a35), (.ref a35)]))
            refine own_step (fun _ k => XS.aload X35.here hx rfl (hb hby at_177) (by rw [hA28]; rfl) rfl k) ?_
            show own_Ends p e below F (T35.setTop (mkF m 179 A28 [.null, (.ref a26), (.ref a35), (.ref a35)]))
            refine own_step (fun _ k => XS.aload X35.here hx rfl (hb hby at_179) (by rw [hA28]; rfl) hz21 k) ?_
            show own_Ends p e below F (T35.setTop (mkF m 181 A28 [z21, .null, (.ref a26), (.ref a35), (.ref a35)]))
            obtain ⟨_, _, ⟨T36, L36, k36, n36⟩, -, X36, ⟨Lc36, hQ36, l36, y36, z36⟩, st36⟩ := X35.specialBack hx (y := (⟨"com/example/greater_than/greaterthan/page/Page", "<init>", "(Ljava/util/List;Ljava/lang/String;Ljava/lang/String;)V"⟩ : MethodName)) rfl hown (mvT hZ (own_g hw 29 rfl)) (mvT hZ (own_g hw 30 rfl)) (mvT hZ (own_g hw 31 rfl)) (by decide) (backOf (W := 1) (rm5_1 l Z a0 hw [] a35 a26 c34 kc34 (.ref c33) .null z21 ee ma mu mv mo h35 n0 Z35 A35 ge_a35 F35_rows F35_previousCursor F35_nextCursor (fq5_34.ext E35) (fq7_34.ext E35) (Or.inr ⟨_, _, _, rfl, ((fq0_33.keep Kq34).ext E35), (own_g hw 183 rfl)⟩) (fq1_34.ext E35) (fq3_34.ext E35) (fq4_34.ext E35) (Sta.ext E35 S2_34) M_ma M_mu M_mv M_mo rfl hz21) hZ (own_g hw 31 rfl) (own_g hw 28 rfl) (by decide) (by decide)) (g := (mkF m 181 A28 [z21, .null, (.ref a26), (.ref a35), (.ref a35)])) rfl (by rw [hml]; show A28.size = _; rw [hA28]; rfl) (Steps.refl _) (a := a35) (argsL := [(.ref a26), .null, z21]) (rest := [(.ref a35)]) (lenOf pd__28Ljava_2futil_2fList_3bLjava_2flang_2fString_3bLjava_2flang_2fString_3b_29V rfl) rfl (by show 2 * 0 + _ ≤ _; exact Nat.le_of_eq rfl) (hb hby at_181) (fun _ _ => ⟨rfl, e35, (by decide : 7 + 3 ≤ _), (by decide : 25 + 6 ≤ _)⟩)
            dsimp only [Pt.U, Pt.locs, Pt.cells, Pt.slots] at X36 l36 y36 z36 st36 hQ36
            subst l36 y36 z36
            obtain ⟨rfl, Nq36, Kq36, fq0_36, fq1_36, fq2_36⟩ := hQ36
            have N36 := Fr.app N34 Nq36
            have Z36 : n0 ≤ T36.heap.size := Nat.le_trans Z35 Kq36.1
            have SZ36 : h0.size ≤ T36.heap.size := Nat.le_trans SZ35 Kq36.1
            have S0_36 := own_Sta_keep (Sta.ext E35 S0_34) Kq36 (allS (own_ns_exa A35) all0)
            have S1_36 := own_Sta_keep (Sta.ext E35 S1_34) Kq36 (allS (own_ns_exa A35) all0)
            have S2_36 := own_Sta_keep (Sta.ext E35 S2_34) Kq36 (allS (own_ns_exa A35) all0)
            have S3_36 := own_Sta_keep (Sta.ext E35 S3_34) Kq36 (allS (own_ns_exa A35) all0)
            have S4_36 := own_Sta_keep (Sta.ext E35 S4_34) Kq36 (allS (own_ns_exa A35) all0)
            have hk := Nat.le_trans hk Kq36.1
            refine own_trans st36 ?_
            show own_Ends p e below F (T36.setTop (mkF m 184 A28 [(.ref a35)]))
            obtain ⟨A37, hA37⟩ : ∃ z : Array Slot, z = #[.val (.int p1), .val (.int p2), .val (.int p3), .val (.int p4), .val (.int p5), .val (.int p6), .val (.int (0 : Int32)), .val (.int z4), .val (.int v9), .val (.int v11), .val (.int (1 : Int32)), .val (.int z15), .val .null, .val z21, .val (.ref a26), .val (.ref a35)] := ⟨_, rfl⟩
            refine own_step (fun _ k => XS.astore X36.here hx rfl (hb hby at_184) rfl rfl (l' := A37) (by rw [hA28, hA37]; exact rfl) k) ?_
            show own_Ends p e below F (T36.setTop (mkF m 186 A37 []))
            refine own_step (fun _ k => XS.aload X36.here hx rfl (hb hby at_186) (by rw [hA37]; rfl) rfl k) ?_
            show own_Ends p e below F (T36.setTop (mkF m 188 A37 [(.ref a35)]))
            obtain ⟨cq38, kq38, qa38, qb38, qc38⟩ := isOf (s := (s.setVm vm23)) (T := T36) hZ rfl fq0_36
            obtain ⟨_, _, ⟨T38, L38, k38, n38⟩, -, X38, ⟨Lc38, hQ38, l38, y38, z38⟩, st38⟩ := X36.virtualBack hx (y := (⟨"com/example/greater_than/greaterthan/page/Page", "hasPrevious", "()Z"⟩ : MethodName)) (z := (⟨"com/example/greater_than/greaterthan/page/Page", "hasPrevious", "()Z"⟩ : MethodName)) hown (mvT hZ (own_g hw 119 rfl)) (mvT hZ (own_g hw 120 rfl)) (notFace_of_selects (args := #[]) (mvT hZ (own_g hw 122 rfl))) (mvT hZ (own_g hw 122 rfl)) (mvT hZ (own_g hw 121 rfl)) (by decide) (backOf (W := 0) (rm15n l Z a0 hw [] a35 T36.heap n0 Z36 fq1_36) hZ (own_g hw 123 rfl) (own_g hw 28 rfl) (by decide) (by decide)) qa38 qc38 (g := (mkF m 188 A37 [(.ref a35)])) rfl (by rw [hml]; show A37.size = _; rw [hA37]; rfl) (Steps.refl _) (argsL := []) (rest := []) (lenOf pd__28_29Z rfl) rfl (by show 2 * 0 + _ ≤ _; exact Nat.le_of_eq rfl) (hb hby at_188) (fun _ _ => ⟨rfl, rfl, (by decide : 10 + 0 ≤ _), (by decide : 31 + 0 ≤ _)⟩)
            dsimp only [Pt.U, Pt.locs, Pt.cells, Pt.slots] at X38 l38 y38 z38 st38 hQ38
            subst l38 y38 z38
            obtain ⟨rfl, Nq38, eq38⟩ := hQ38
            have N38 := Fr.app N36 Nq38
            refine own_trans st38 ?_
            show own_Ends p e below F (T38.setTop (mkF m 191 A37 [(.int (0 : Int32))]))
            refine own_step (fun _ k => XS.iload X38.here hx rfl (hb hby at_191) (by rw [hA37]; rfl) k) ?_
            show own_Ends p e below F (T38.setTop (mkF m 193 A37 [(.int (0 : Int32)), (.int (0 : Int32))]))
            refine own_step (fun _ k => XS.icmpNo X38.here hx rfl (hb hby at_193) rfl (teq (by decide : (0 : Int32) = (0 : Int32))).2 k) ?_
            show own_Ends p e below F (T38.setTop (mkF m 196 A37 []))
            refine own_step (fun _ k => XS.iconst X38.here hx rfl (hb hby at_196) k) ?_
            show own_Ends p e below F (T38.setTop (mkF m 197 A37 [(.int (1 : Int32))]))
            refine own_step (fun _ k => XS.goto X38.here hx rfl (pc0 := 197) (pc' := 201) rfl (hb hby at_197) (by decide) (by decide) k) ?_
            show own_Ends p e below F (T38.setTop (mkF m 201 A37 [(.int (1 : Int32))]))
            rw [hF]
            exact own_retW X38 hS (by rw [eq38]; exact hk) (v := (some (.int (nar .boolean (1 : Int32))))) (fun h => by rw [Bd.returns] at h; cases h) Bd.notSynchronized (fun fs hr => retN X38 hx (t := .boolean) Bd.returns (by simp) (hb hby at_201) hr) (by decide) (by decide) (by rw [eq38]; exact ⟨rfl, N38⟩)
          · show own_Ends p e below F (T27.setTop (mkF m 113 A28 []))
            refine own_step (fun _ k => XS.iload X27.here hx rfl (hb hby at_113) (by rw [hA28]; rfl) k) ?_
            show own_Ends p e below F (T27.setTop (mkF m 115 A28 [(.int (2 : Int32))]))
            refine own_step (fun _ k => XS.iconst X27.here hx rfl (hb hby at_115) k) ?_
            show own_Ends p e below F (T27.setTop (mkF m 116 A28 [(.int (1 : Int32)), (.int (2 : Int32))]))
            refine own_step (fun _ k => XS.icmpNo X27.here hx rfl (hb hby at_116) rfl (flt (by decide : ¬ ((2 : Int32) < (1 : Int32)))).1 k) ?_
            show own_Ends p e below F (T27.setTop (mkF m 119 A28 []))
            refine own_step (fun _ k => XS.aload X27.here hx rfl (hb hby at_119) (by rw [hA28]; rfl) rfl k) ?_
            show own_Ends p e below F (T27.setTop (mkF m 121 A28 [(.ref a26)]))
            refine own_step (fun _ k => XS.iload X27.here hx rfl (hb hby at_121) (by rw [hA28]; rfl) k) ?_
            show own_Ends p e below F (T27.setTop (mkF m 123 A28 [(.int p6), (.ref a26)]))
            obtain ⟨_, _, ⟨T39, L39, k39, n39⟩, -, X39, ⟨Lc39, hQ39, l39, y39, z39⟩, st39⟩ := Jvm.LawKit.callS X27 hx (y := (⟨"java/lang/Integer", "valueOf", "(I)Ljava/lang/Integer;"⟩ : MethodName)) hown (mvT hZ (own_g hw 136 rfl)) (mvT hZ (own_g hw 137 rfl)) (mvT hZ (own_g hw 138 rfl)) (mvT hZ (own_g hw 139 rfl)) (by decide) (backOf (W := 1) (rm17 l Z a0 hw [] p6 cc T27.heap n0 Z27 S3_27 S4_27 ((BC23.ext E26).keep Kq27 (ninS ne_cc_a26 nin0))) hZ (own_g hw 139 rfl) (own_g hw 138 rfl) (by decide) (by decide)) (g := (mkF m 123 A28 [(.int p6), (.ref a26)])) rfl (by rw [hml]; show A28.size = _; rw [hA28]; rfl) (argsL := [(.int p6)]) (rest := [(.ref a26)]) (lenOf pd__28I_29Ljava_2flang_2fInteger_3b rfl) rfl (by show 2 * 0 + _ ≤ _; exact Nat.le_of_eq rfl) (hb hby at_123) (fun _ _ => ⟨rfl, rfl, (by decide : 4 + 1 ≤ _), (by decide : 11 + 1 ≤ _)⟩)
            dsimp only [Pt.U, Pt.locs, Pt.cells, Pt.slots] at X39 l39 y39 z39 st39 hQ39
            subst l39 y39 z39
            obtain ⟨c39, rfl, Nq39, Kq39, fq0_39⟩ := hQ39
            have N39 := Fr.app N27 Nq39
            have Z39 : n0 ≤ T39.heap.size := Nat.le_trans Z27 Kq39.1
            have SZ39 : h0.size ≤ T39.heap.size := Nat.le_trans SZ27 Kq39.1
            have S0_39 := own_Sta_keep S0_27 Kq39 all0
            have S1_39 := own_Sta_keep S1_27 Kq39 all0
            have S2_39 := own_Sta_keep S2_27 Kq39 all0
            have S3_39 := own_Sta_keep S3_27 Kq39 all0
            have S4_39 := own_Sta_keep S4_27 Kq39 all0
            have hk := Nat.le_trans hk Kq39.1
            refine own_step st39 ?_
            show own_Ends p e below F (T39.setTop (mkF m 126 A28 [(.ref c39), (.ref a26)]))
            obtain ⟨cq40, kq40, qa40, qb40, qc40⟩ := isOf (s := (s.setVm vm23)) (T := T39) hZ rfl (fq0_27.keep Kq39)
            obtain ⟨_, _, ⟨T40, L40, k40, n40⟩, -, X40, ⟨Lc40, hQ40, l40, y40, z40⟩, st40⟩ := X39.virtualBack hx (y := (⟨"java/util/ArrayList", "add", "(Ljava/lang/Object;)Z"⟩ : MethodName)) (z := (⟨"java/util/ArrayList", "add", "(Ljava/lang/Object;)Z"⟩ : MethodName)) hown (mvT hZ (own_g hw 157 rfl)) (mvT hZ (own_g hw 158 rfl)) (notFace_of_selects (args := #[]) (mvT hZ (own_g hw 160 rfl))) (mvT hZ (own_g hw 160 rfl)) (mvT hZ (own_g hw 159 rfl)) (by decide) (backOf (W := 0) (rm20_0 l Z a0 hw [] a26 dd kd (.ref c39) T39.heap n0 Z39 (fq0_27.keep Kq39) ge_a26 (fq1_27.keep Kq39 nin0) (fq2_27.keep Kq39 nin0) (fq3_27.keep Kq39 nin0) (Or.inr ⟨_, _, _, rfl, fq0_39, (own_g hw 183 rfl)⟩) S1_39 (((VD23.ext E26).keep Kq27 (ninS ne_dd_a26 nin0)).keep Kq39 nin0)) hZ (own_g hw 161 rfl) (own_g hw 2 rfl) (by decide) (by decide)) qa40 qc40 (g := (mkF m 126 A28 [(.ref c39), (.ref a26)])) rfl (by rw [hml]; show A28.size = _; rw [hA28]; rfl) (Steps.refl _) (argsL := [(.ref c39)]) (rest := []) (lenOf pd__28Ljava_2flang_2fObject_3b_29Z rfl) rfl (by show 2 * 0 + _ ≤ _; exact Nat.le_of_eq rfl) (hb hby at_126) (fun _ _ => ⟨rfl, rfl, (by decide : 5 + 1 ≤ _), (by decide : 12 + 10 ≤ _)⟩)
            dsimp only [Pt.U, Pt.locs, Pt.cells, Pt.slots] at X40 l40 y40 z40 st40 hQ40
            subst l40 y40 z40
            obtain ⟨c40, kc40, rfl, Nq40, Kq40, fq0_40, fq1_40, fq2_40, fq3_40, fq4_40, fq5_40, fq6_40, fq7_40⟩ := hQ40
            have N40 := Fr.app N39 Nq40
            have Z40 : n0 ≤ T40.heap.size := Nat.le_trans Z39 Kq40.1
            have SZ40 : h0.size ≤ T40.heap.size := Nat.le_trans SZ39 Kq40.1
            have S0_40 := own_Sta_keep S0_39 Kq40 (allS (own_ns_exa (fq0_27.keep Kq39)) all0)
            have S1_40 := own_Sta_keep S1_39 Kq40 (allS (own_ns_exa (fq0_27.keep Kq39)) all0)
            have S2_40 := own_Sta_keep S2_39 Kq40 (allS (own_ns_exa (fq0_27.keep Kq39)) all0)
            have S3_40 := own_Sta_keep S3_39 Kq40 (allS (own_ns_exa (fq0_27.keep Kq39)) all0)
            have S4_40 := own_Sta_keep S4_39 Kq40 (allS (own_ns_exa (fq0_27.keep Kq39)) all0)
            have ne_dd_c40 : dd ≠ c40 := Nat.ne_of_lt (Nat.lt_of_lt_of_le ((((VD23.ext E26).keep Kq27 (ninS ne_dd_a26 nin0)).keep Kq39 nin0)).lt fq0_40)
            have ne_cc_c40 : cc ≠ c40 := Nat.ne_of_lt (Nat.lt_of_lt_of_le ((((BC23.ext E26).keep Kq27 (ninS ne_cc_a26 nin0)).keep Kq39 nin0)).lt fq0_40)
            have ne_a26_c40 : a26 ≠ c40 := Nat.ne_of_lt (Nat.lt_of_lt_of_le ((fq1_27.keep Kq39 nin0)).lt fq0_40)
            have ne_c39_c40 : c39 ≠ c40 := Nat.ne_of_lt (Nat.lt_of_lt_of_le (fq0_39).lt fq0_40)
            have ge_c40 : n0 ≤ c40 := Nat.le_trans Z39 fq0_40
            have sz_c40 : h0.size ≤ c40 := Nat.le_trans SZ39 fq0_40
            have hk := Nat.le_trans hk Kq40.1
            refine own_trans st40 ?_
            show own_Ends p e below F (T40.setTop (mkF m 129 A28 [(.int (1 : Int32))]))
            refine own_step (fun _ k => XS.pop X40.here hx rfl (hb hby at_129) rfl rfl k) ?_
            show own_Ends p e below F (T40.setTop (mkF m 130 A28 []))
            refine own_step (fun _ k => XS.iload X40.here hx rfl (hb hby at_130) (by rw [hA28]; rfl) k) ?_
            show own_Ends p e below F (T40.setTop (mkF m 132 A28 [(.int (2 : Int32))]))
            refine own_step (fun _ k => XS.iconst X40.here hx rfl (hb hby at_132) k) ?_
            show own_Ends p e below F (T40.setTop (mkF m 133 A28 [(.int (2 : Int32)), (.int (2 : Int32))]))
            refine own_step (fun _ k => XS.icmpNo X40.here hx rfl (hb hby at_133) rfl (flt (by decide : ¬ ((2 : Int32) < (2 : Int32)))).1 k) ?_
            show own_Ends p e below F (T40.setTop (mkF m 136 A28 []))
            refine own_step (fun _ k => XS.aload X40.here hx rfl (hb hby at_136) (by rw [hA28]; rfl) rfl k) ?_
            show own_Ends p e below F (T40.setTop (mkF m 138 A28 [(.ref a26)]))
            refine own_step (fun _ k => XS.iload X40.here hx rfl (hb hby at_138) (by rw [hA28]; rfl) k) ?_
            show own_Ends p e below F (T40.setTop (mkF m 140 A28 [(.int z15), (.ref a26)]))
            by_cases c140_41 : z15 = (0 : Int32)
            · refine own_step (fun _ k => XS.ifYes X40.here hx rfl (pc0 := 140) (pc' := 147) rfl (hb hby at_140) rfl ((if0 _ _).trans (teq c140_41).1) (by decide) (by decide) k) ?_
              show own_Ends p e below F (T40.setTop (mkF m 147 A28 [(.ref a26)]))
              refine own_step (fun _ k => XS.iloadN X40.here hx rfl (hb hby at_147) (by rw [hA28]; rfl) k) ?_
              show own_Ends p e below F (T40.setTop (mkF m 148 A28 [(.int p2), (.ref a26)]))
              obtain ⟨_, _, ⟨T42, L42, k42, n42⟩, -, X42, ⟨Lc42, hQ42, l42, y42, z42⟩, st42⟩ := Jvm.LawKit.callS X40 hx (y := (⟨"java/lang/Integer", "valueOf", "(I)Ljava/lang/Integer;"⟩ : MethodName)) hown (mvT hZ (own_g hw 136 rfl)) (mvT hZ (own_g hw 137 rfl)) (mvT hZ (own_g hw 138 rfl)) (mvT hZ (own_g hw 139 rfl)) (by decide) (backOf (W := 1) (rm17 l Z a0 hw [] p2 cc T40.heap n0 Z40 S3_40 S4_40 ((((BC23.ext E26).keep Kq27 (ninS ne_cc_a26 nin0)).keep Kq39 nin0).keep Kq40 (ninS ne_cc_a26 nin0))) hZ (own_g hw 139 rfl) (own_g hw 138 rfl) (by decide) (by decide)) (g := (mkF m 148 A28 [(.int p2), (.ref a26)])) rfl (by rw [hml]; show A28.size = _; rw [hA28]; rfl) (argsL := [(.int p2)]) (rest := [(.ref a26)]) (lenOf pd__28I_29Ljava_2flang_2fInteger_3b rfl) rfl (by show 2 * 0 + _ ≤ _; exact Nat.le_of_eq rfl) (hb hby at_148) (fun _ _ => ⟨rfl, rfl, (by decide : 6 + 1 ≤ _), (by decide : 22 + 1 ≤ _)⟩)
              dsimp only [Pt.U, Pt.locs, Pt.cells, Pt.slots] at X42 l42 y42 z42 st42 hQ42
              subst l42 y42 z42
              obtain ⟨c42, rfl, Nq42, Kq42, fq0_42⟩ := hQ42
              have N42 := Fr.app N40 Nq42
              have Z42 : n0 ≤ T42.heap.size := Nat.le_trans Z40 Kq42.1
              have SZ42 : h0.size ≤ T42.heap.size := Nat.le_trans SZ40 Kq42.1
              have S0_42 := own_Sta_keep S0_40 Kq42 all0
              have S1_42 := own_Sta_keep S1_40 Kq42 all0
              have S2_42 := own_Sta_keep S2_40 Kq42 all0
              have S3_42 := own_Sta_keep S3_40 Kq42 all0
              have S4_42 := own_Sta_keep S4_40 Kq42 all0
              have hk := Nat.le_trans hk Kq42.1
              refine own_step st42 ?_
              show own_Ends p e below F (T42.setTop (mkF m 151 A28 [(.ref c42), (.ref a26)]))
              obtain ⟨cq43, kq43, qa43, qb43, qc43⟩ := isOf (s := (s.setVm vm23)) (T := T42) hZ rfl (fq1_40.keep Kq42)
              obtain ⟨_, _, ⟨T43, L43, k43, n43⟩, -, X43, ⟨Lc43, hQ43, l43, y43, z43⟩, st43⟩ := X42.virtualBack hx (y := (⟨"java/util/ArrayList", "add", "(Ljava/lang/Object;)Z"⟩ : MethodName)) (z := (⟨"java/util/ArrayList", "add", "(Ljava/lang/Object;)Z"⟩ : MethodName)) hown (mvT hZ (own_g hw 157 rfl)) (mvT hZ (own_g hw 158 rfl)) (notFace_of_selects (args := #[]) (mvT hZ (own_g hw 160 rfl))) (mvT hZ (own_g hw 160 rfl)) (mvT hZ (own_g hw 159 rfl)) (by decide) (backOf (W := 0) (rm20_1 l Z a0 hw [] a26 c40 kc40 (.ref c42) (.ref c39) T42.heap n0 Z42 (fq1_40.keep Kq42) ge_a26 (fq2_40.keep Kq42 nin0) (fq3_40.keep Kq42 nin0) (fq4_40.keep Kq42 nin0) (Or.inr ⟨_, _, _, rfl, fq0_42, (own_g hw 183 rfl)⟩) (fq5_40.keep Kq42 nin0) fq6_40 ge_c40) hZ (own_g hw 161 rfl) (own_g hw 2 rfl) (by decide) (by decide)) qa43 qc43 (g := (mkF m 151 A28 [(.ref c42), (.ref a26)])) rfl (by rw [hml]; show A28.size = _; rw [hA28]; rfl) (Steps.refl _) (argsL := [(.ref c42)]) (rest := []) (lenOf pd__28Ljava_2flang_2fObject_3b_29Z rfl) rfl (by show 2 * 0 + _ ≤ _; exact Nat.le_of_eq rfl) (hb hby at_151) (fun _ _ => ⟨rfl, rfl, (by decide : 7 + 0 ≤ _), (by decide : 23 + 0 ≤ _)⟩)
              dsimp only [Pt.U, Pt.locs, Pt.cells, Pt.slots] at X43 l43 y43 z43 st43 hQ43
              subst l43 y43 z43
              obtain ⟨rfl, Nq43, Kq43, fq0_43, fq1_43, fq2_43, fq3_43, fq4_43⟩ := hQ43
              have N43 := Fr.app N42 Nq43
              have Z43 : n0 ≤ T43.heap.size := Nat.le_trans Z42 Kq43.1
              have SZ43 : h0.size ≤ T43.heap.size := Nat.le_trans SZ42 Kq43.1
              have S0_43 := own_Sta_keep S0_42 Kq43 (allS (own_ns_exa (fq1_40.keep Kq42)) (allS (own_ns_exa (fq7_40.keep Kq42)) all0))
              have S1_43 := own_Sta_keep S1_42 Kq43 (allS (own_ns_exa (fq1_40.keep Kq42)) (allS (own_ns_exa (fq7_40.keep Kq42)) all0))
              have S2_43 := own_Sta_keep S2_42 Kq43 (allS (own_ns_exa (fq1_40.keep Kq42)) (allS (own_ns_exa (fq7_40.keep Kq42)) all0))
              have S3_43 := own_Sta_keep S3_42 Kq43 (allS (own_ns_exa (fq1_40.keep Kq42)) (allS (own_ns_exa (fq7_40.keep Kq42)) all0))
              have S4_43 := own_Sta_keep S4_42 Kq43 (allS (own_ns_exa (fq1_40.keep Kq42)) (allS (own_ns_exa (fq7_40.keep Kq42)) all0))
              have hk := Nat.le_trans hk Kq43.1
              refine own_trans st43 ?_
              show own_Ends p e below F (T43.setTop (mkF m 154 A28 [(.int (1 : Int32))]))
              refine own_step (fun _ k => XS.pop X43.here hx rfl (hb hby at_154) rfl rfl k) ?_
              show own_Ends p e below F (T43.setTop (mkF m 155 A28 []))
              refine own_step (fun _ k => XS.iload X43.here hx rfl (hb hby at_155) (by rw [hA28]; rfl) k) ?_
              show own_Ends p e below F (T43.setTop (mkF m 157 A28 [(.int (2 : Int32))]))
              refine own_step (fun _ k => XS.iconst X43.here hx rfl (hb hby at_157) k) ?_
              show own_Ends p e below F (T43.setTop (mkF m 158 A28 [(.int (3 : Int32)), (.int (2 : Int32))]))
              refine own_step (fun _ k => XS.icmpYes X43.here hx rfl (pc0 := 158) (pc' := 171) rfl (hb hby at_158) rfl (tlt (by decide : (2 : Int32) < (3 : Int32))).1 (by decide) (by decide) k) ?_
              show own_Ends p e below F (T43.setTop (mkF m 171 A28 []))
              obtain ⟨T44, h44, X44, e44, E44, A44, D44, -, st44⟩ := newO X43 hx hZ hown (own_g hw 26 rfl) (own_g hw 27 rfl) (own_g hw 28 rfl) rfl (g := (mkF m 171 A28 [])) rfl (hb hby at_171) (by decide) (by decide)
              obtain ⟨a44, g44⟩ : ∃ z, z = T43.heap.size := ⟨_, rfl⟩
              rw [← g44] at A44 D44 st44
              have ge_a44 : n0 ≤ a44 := Nat.le_trans Z43 (Nat.le_of_eq g44.symm)
              have sz_a44 : h0.size ≤ a44 := Nat.le_trans SZ43 (Nat.le_of_eq g44.symm)
              have ne_dd_a44 : dd ≠ a44 := Nat.ne_of_lt (by rw [g44]; exact ((((((VD23.ext E26).keep Kq27 (ninS ne_dd_a26 nin0)).keep Kq39 nin0).keep Kq40 (ninS ne_dd_a26 nin0)).keep Kq42 nin0).keep Kq43 (ninS ne_dd_a26 (ninS ne_dd_c40 nin0))).lt)
              have ne_cc_a44 : cc ≠ a44 := Nat.ne_of_lt (by rw [g44]; exact ((((((BC23.ext E26).keep Kq27 (ninS ne_cc_a26 nin0)).keep Kq39 nin0).keep Kq40 (ninS ne_cc_a26 nin0)).keep Kq42 nin0).keep Kq43 (ninS ne_cc_a26 (ninS ne_cc_c40 nin0))).lt)
              have ne_a26_a44 : a26 ≠ a44 := Nat.ne_of_lt (by rw [g44]; exact fq1_43.lt)
              have ne_c39_a44 : c39 ≠ a44 := Nat.ne_of_lt (by rw [g44]; exact (((fq0_39.keep Kq40).keep Kq42).keep Kq43).lt)
              have ne_c40_a44 : c40 ≠ a44 := Nat.ne_of_lt (by rw [g44]; exact fq4_43.lt)
              have ne_c42_a44 : c42 ≠ a44 := Nat.ne_of_lt (by rw [g44]; exact (fq0_42.keep Kq43).lt)
              have Z44 : n0 ≤ h44.size := Nat.le_trans Z43 E44.1
              have SZ44 : h0.size ≤ h44.size := Nat.le_trans SZ43 E44.1
              have hk := Nat.le_trans hk E44.1
              have F44_rows : Fld Z h44 a44 "com/example/greater_than/greaterthan/page/Page" "rows" "Ljava/util/List;" .null := D44 (Or.inr (own_g hw 114 rfl)) (ty := (.object "java/util/List")) (by decide)
              have F44_previousCursor : Fld Z h44 a44 "com/example/greater_than/greaterthan/page/Page" "previousCursor" "Ljava/lang/String;" .null := D44 (Or.inr (own_g hw 116 rfl)) (ty := (.object "java/lang/String")) (by decide)
              have F44_nextCursor : Fld Z h44 a44 "com/example/greater_than/greaterthan/page/Page" "nextCursor" "Ljava/lang/String;" .null := D44 (Or.inr (own_g hw 118 rfl)) (ty := (.object "java/lang/String")) (by decide)
              refine own_step st44 ?_
              show own_Ends p e below F (T44.setTop (mkF m 174 A28 [(.ref a44)]))
              refine own_step (fun _ k => XS.dup X44.here hx rfl (hb hby at_174) rfl rfl k) ?_
              show own_Ends p e below F (T44.setTop (mkF m 175 A28 [(.ref a44), (.ref a44)]))
              refine own_step (fun _ k => XS.aload X44.here hx rfl (hb hby at_175) (by rw [hA28]; rfl) rfl k) ?_
              show own_Ends p e below F (T44.setTop (mkF m 177 A28 [(.ref a26), (.ref a44), (.ref a44)]))
              refine own_step (fun _ k => XS.aload X44.here hx rfl (hb hby at_177) (by rw [hA28]; rfl) rfl k) ?_
              show own_Ends p e below F (T44.setTop (mkF m 179 A28 [.null, (.ref a26), (.ref a44), (.ref a44)]))
              refine own_step (fun _ k => XS.aload X44.here hx rfl (hb hby at_179) (by rw [hA28]; rfl) hz21 k) ?_
              show own_Ends p e below F (T44.setTop (mkF m 181 A28 [z21, .null, (.ref a26), (.ref a44), (.ref a44)]))
              obtain ⟨_, _, ⟨T45, L45, k45, n45⟩, -, X45, ⟨Lc45, hQ45, l45, y45, z45⟩, st45⟩ := X44.specialBack hx (y := (⟨"com/example/greater_than/greaterthan/page/Page", "<init>", "(Ljava/util/List;Ljava/lang/String;Ljava/lang/String;)V"⟩ : MethodName)) rfl hown (mvT hZ (own_g hw 29 rfl)) (mvT hZ (own_g hw 30 rfl)) (mvT hZ (own_g hw 31 rfl)) (by decide) (backOf (W := 1) (rm5_2 l Z a0 hw [] a44 a26 c40 kc40 (.ref c39) (.ref c42) .null z21 ee ma mu mv mo h44 n0 Z44 A44 ge_a44 F44_rows F44_previousCursor F44_nextCursor (fq4_43.ext E44) (((fq7_40.keep Kq42).keep Kq43).ext E44) (Or.inr ⟨_, _, _, rfl, ((((fq0_39.keep Kq40).keep Kq42).keep Kq43).ext E44), (own_g hw 183 rfl)⟩) (Or.inr ⟨_, _, _, rfl, ((fq0_42.keep Kq43).ext E44), (own_g hw 183 rfl)⟩) (fq0_43.ext E44) (fq2_43.ext E44) (fq3_43.ext E44) (Sta.ext E44 S2_43) M_ma M_mu M_mv M_mo rfl hz21) hZ (own_g hw 31 rfl) (own_g hw 28 rfl) (by decide) (by decide)) (g := (mkF m 181 A28 [z21, .null, (.ref a26), (.ref a44), (.ref a44)])) rfl (by rw [hml]; show A28.size = _; rw [hA28]; rfl) (Steps.refl _) (a := a44) (argsL := [(.ref a26), .null, z21]) (rest := [(.ref a44)]) (lenOf pd__28Ljava_2futil_2fList_3bLjava_2flang_2fString_3bLjava_2flang_2fString_3b_29V rfl) rfl (by show 2 * 0 + _ ≤ _; exact Nat.le_of_eq rfl) (hb hby at_181) (fun _ _ => ⟨rfl, e44, (by decide : 8 + 3 ≤ _), (by decide : 26 + 7 ≤ _)⟩)
              dsimp only [Pt.U, Pt.locs, Pt.cells, Pt.slots] at X45 l45 y45 z45 st45 hQ45
              subst l45 y45 z45
              obtain ⟨rfl, Nq45, Kq45, fq0_45, fq1_45, fq2_45⟩ := hQ45
              have N45 := Fr.app N43 Nq45
              have Z45 : n0 ≤ T45.heap.size := Nat.le_trans Z44 Kq45.1
              have SZ45 : h0.size ≤ T45.heap.size := Nat.le_trans SZ44 Kq45.1
              have S0_45 := own_Sta_keep (Sta.ext E44 S0_43) Kq45 (allS (own_ns_exa A44) all0)
              have S1_45 := own_Sta_keep (Sta.ext E44 S1_43) Kq45 (allS (own_ns_exa A44) all0)
              have S2_45 := own_Sta_keep (Sta.ext E44 S2_43) Kq45 (allS (own_ns_exa A44) all0)
              have S3_45 := own_Sta_keep (Sta.ext E44 S3_43) Kq45 (allS (own_ns_exa A44) all0)
              have S4_45 := own_Sta_keep (Sta.ext E44 S4_43) Kq45 (allS (own_ns_exa A44) all0)
              have hk := Nat.le_trans hk Kq45.1
              refine own_trans st45 ?_
              show own_Ends p e below F (T45.setTop (mkF m 184 A28 [(.ref a44)]))
              obtain ⟨A46, hA46⟩ : ∃ z : Array Slot, z = #[.val (.int p1), .val (.int p2), .val (.int p3), .val (.int p4), .val (.int p5), .val (.int p6), .val (.int (0 : Int32)), .val (.int z4), .val (.int v9), .val (.int v11), .val (.int (2 : Int32)), .val (.int z15), .val .null, .val z21, .val (.ref a26), .val (.ref a44)] := ⟨_, rfl⟩
              refine own_step (fun _ k => XS.astore X45.here hx rfl (hb hby at_184) rfl rfl (l' := A46) (by rw [hA28, hA46]; exact rfl) k) ?_
              show own_Ends p e below F (T45.setTop (mkF m 186 A46 []))
              refine own_step (fun _ k => XS.aload X45.here hx rfl (hb hby at_186) (by rw [hA46]; rfl) rfl k) ?_
              show own_Ends p e below F (T45.setTop (mkF m 188 A46 [(.ref a44)]))
              obtain ⟨cq47, kq47, qa47, qb47, qc47⟩ := isOf (s := (s.setVm vm23)) (T := T45) hZ rfl fq0_45
              obtain ⟨_, _, ⟨T47, L47, k47, n47⟩, -, X47, ⟨Lc47, hQ47, l47, y47, z47⟩, st47⟩ := X45.virtualBack hx (y := (⟨"com/example/greater_than/greaterthan/page/Page", "hasPrevious", "()Z"⟩ : MethodName)) (z := (⟨"com/example/greater_than/greaterthan/page/Page", "hasPrevious", "()Z"⟩ : MethodName)) hown (mvT hZ (own_g hw 119 rfl)) (mvT hZ (own_g hw 120 rfl)) (notFace_of_selects (args := #[]) (mvT hZ (own_g hw 122 rfl))) (mvT hZ (own_g hw 122 rfl)) (mvT hZ (own_g hw 121 rfl)) (by decide) (backOf (W := 0) (rm15n l Z a0 hw [] a44 T45.heap n0 Z45 fq1_45) hZ (own_g hw 123 rfl) (own_g hw 28 rfl) (by decide) (by decide)) qa47 qc47 (g := (mkF m 188 A46 [(.ref a44)])) rfl (by rw [hml]; show A46.size = _; rw [hA46]; rfl) (Steps.refl _) (argsL := []) (rest := []) (lenOf pd__28_29Z rfl) rfl (by show 2 * 0 + _ ≤ _; exact Nat.le_of_eq rfl) (hb hby at_188) (fun _ _ => ⟨rfl, rfl, (by decide : 11 + 0 ≤ _), (by decide : 33 + 0 ≤ _)⟩)
              dsimp only [Pt.U, Pt.locs, Pt.cells, Pt.slots] at X47 l47 y47 z47 st47 hQ47
              subst l47 y47 z47
              obtain ⟨rfl, Nq47, eq47⟩ := hQ47
              have N47 := Fr.app N45 Nq47
              refine own_trans st47 ?_
              show own_Ends p e below F (T47.setTop (mkF m 191 A46 [(.int (0 : Int32))]))
              refine own_step (fun _ k => XS.iload X47.here hx rfl (hb hby at_191) (by rw [hA46]; rfl) k) ?_
              show own_Ends p e below F (T47.setTop (mkF m 193 A46 [(.int (0 : Int32)), (.int (0 : Int32))]))
              refine own_step (fun _ k => XS.icmpNo X47.here hx rfl (hb hby at_193) rfl (teq (by decide : (0 : Int32) = (0 : Int32))).2 k) ?_
              show own_Ends p e below F (T47.setTop (mkF m 196 A46 []))
              refine own_step (fun _ k => XS.iconst X47.here hx rfl (hb hby at_196) k) ?_
              show own_Ends p e below F (T47.setTop (mkF m 197 A46 [(.int (1 : Int32))]))
              refine own_step (fun _ k => XS.goto X47.here hx rfl (pc0 := 197) (pc' := 201) rfl (hb hby at_197) (by decide) (by decide) k) ?_
              show own_Ends p e below F (T47.setTop (mkF m 201 A46 [(.int (1 : Int32))]))
              rw [hF]
              exact own_retW X47 hS (by rw [eq47]; exact hk) (v := (some (.int (nar .boolean (1 : Int32))))) (fun h => by rw [Bd.returns] at h; cases h) Bd.notSynchronized (fun fs hr => retN X47 hx (t := .boolean) Bd.returns (by simp) (hb hby at_201) hr) (by decide) (by decide) (by rw [eq47]; exact ⟨rfl, N47⟩)
            · refine own_step (fun _ k => XS.ifNo X40.here hx rfl (hb hby at_140) rfl ((if0 _ _).trans (feq c140_41).1) k) ?_
              show own_Ends p e below F (T40.setTop (mkF m 143 A28 [(.ref a26)]))
              refine own_step (fun _ k => XS.aconstNull X40.here hx rfl (hb hby at_143) k) ?_
              show own_Ends p e below F (T40.setTop (mkF m 144 A28 [.null, (.ref a26)]))
              refine own_step (fun _ k => XS.goto X40.here hx rfl (pc0 := 144) (pc' := 151) rfl (hb hby at_144) (by decide) (by decide) k) ?_
              show own_Ends p e below F (T40.setTop (mkF m 151 A28 [.null, (.ref a26)]))
              obtain ⟨cq48, kq48, qa48, qb48, qc48⟩ := isOf (s := (s.setVm vm23)) (T := T40) hZ rfl fq1_40
              obtain ⟨_, _, ⟨T48, L48, k48, n48⟩, -, X48, ⟨Lc48, hQ48, l48, y48, z48⟩, st48⟩ := X40.virtualBack hx (y := (⟨"java/util/ArrayList", "add", "(Ljava/lang/Object;)Z"⟩ : MethodName)) (z := (⟨"java/util/ArrayList", "add", "(Ljava/lang/Object;)Z"⟩ : MethodName)) hown (mvT hZ (own_g hw 157 rfl)) (mvT hZ (own_g hw 158 rfl)) (notFace_of_selects (args := #[]) (mvT hZ (own_g hw 160 rfl))) (mvT hZ (own_g hw 160 rfl)) (mvT hZ (own_g hw 159 rfl)) (by decide) (backOf (W := 0) (rm20_1 l Z a0 hw [] a26 c40 kc40 .null (.ref c39) T40.heap n0 Z40 fq1_40 ge_a26 fq2_40 fq3_40 fq4_40 (Or.inl rfl) fq5_40 fq6_40 ge_c40) hZ (own_g hw 161 rfl) (own_g hw 2 rfl) (by decide) (by decide)) qa48 qc48 (g := (mkF m 151 A28 [.null, (.ref a26)])) rfl (by rw [hml]; show A28.size = _; rw [hA28]; rfl) (Steps.refl _) (argsL := [.null]) (rest := []) (lenOf pd__28Ljava_2flang_2fObject_3b_29Z rfl) rfl (by show 2 * 0 + _ ≤ _; exact Nat.le_of_eq rfl) (hb hby at_151) (fun _ _ => ⟨rfl, rfl, (by decide : 6 + 0 ≤ _), (by decide : 22 + 0 ≤ _)⟩)
              dsimp only [Pt.U, Pt.locs, Pt.cells, Pt.slots] at X48 l48 y48 z48 st48 hQ48
              subst l48 y48 z48
              obtain ⟨rfl, Nq48, Kq48, fq0_48, fq1_48, fq2_48, fq3_48, fq4_48⟩ := hQ48
              have N48 := Fr.app N40 Nq48
              have Z48 : n0 ≤ T48.heap.size := Nat.le_trans Z40 Kq48.1
              have SZ48 : h0.size ≤ T48.heap.size := Nat.le_trans SZ40 Kq48.1
              have S0_48 := own_Sta_keep S0_40 Kq48 (allS (own_ns_exa fq1_40) (allS (own_ns_exa fq7_40) all0))
              have S1_48 := own_Sta_keep S1_40 Kq48 (allS (own_ns_exa fq1_40) (allS (own_ns_exa fq7_40) all0))
              have S2_48 := own_Sta_keep S2_40 Kq48 (allS (own_ns_exa fq1_40) (allS (own_ns_exa fq7_40) all0))
              have S3_48 := own_Sta_keep S3_40 Kq48 (allS (own_ns_exa fq1_40) (allS (own_ns_exa fq7_40) all0))
              have S4_48 := own_Sta_keep S4_40 Kq48 (allS (own_ns_exa fq1_40) (allS (own_ns_exa fq7_40) all0))
              have hk := Nat.le_trans hk Kq48.1
              refine own_trans st48 ?_
              show own_Ends p e below F (T48.setTop (mkF m 154 A28 [(.int (1 : Int32))]))
              refine own_step (fun _ k => XS.pop X48.here hx rfl (hb hby at_154) rfl rfl k) ?_
              show own_Ends p e below F (T48.setTop (mkF m 155 A28 []))
              refine own_step (fun _ k => XS.iload X48.here hx rfl (hb hby at_155) (by rw [hA28]; rfl) k) ?_
              show own_Ends p e below F (T48.setTop (mkF m 157 A28 [(.int (2 : Int32))]))
              refine own_step (fun _ k => XS.iconst X48.here hx rfl (hb hby at_157) k) ?_
              show own_Ends p e below F (T48.setTop (mkF m 158 A28 [(.int (3 : Int32)), (.int (2 : Int32))]))
              refine own_step (fun _ k => XS.icmpYes X48.here hx rfl (pc0 := 158) (pc' := 171) rfl (hb hby at_158) rfl (tlt (by decide : (2 : Int32) < (3 : Int32))).1 (by decide) (by decide) k) ?_
              show own_Ends p e below F (T48.setTop (mkF m 171 A28 []))
              obtain ⟨T49, h49, X49, e49, E49, A49, D49, -, st49⟩ := newO X48 hx hZ hown (own_g hw 26 rfl) (own_g hw 27 rfl) (own_g hw 28 rfl) rfl (g := (mkF m 171 A28 [])) rfl (hb hby at_171) (by decide) (by decide)
              obtain ⟨a49, g49⟩ : ∃ z, z = T48.heap.size := ⟨_, rfl⟩
              rw [← g49] at A49 D49 st49
              have ge_a49 : n0 ≤ a49 := Nat.le_trans Z48 (Nat.le_of_eq g49.symm)
              have sz_a49 : h0.size ≤ a49 := Nat.le_trans SZ48 (Nat.le_of_eq g49.symm)
              have ne_dd_a49 : dd ≠ a49 := Nat.ne_of_lt (by rw [g49]; exact (((((VD23.ext E26).keep Kq27 (ninS ne_dd_a26 nin0)).keep Kq39 nin0).keep Kq40 (ninS ne_dd_a26 nin0)).keep Kq48 (ninS ne_dd_a26 (ninS ne_dd_c40 nin0))).lt)
              have ne_cc_a49 : cc ≠ a49 := Nat.ne_of_lt (by rw [g49]; exact (((((BC23.ext E26).keep Kq27 (ninS ne_cc_a26 nin0)).keep Kq39 nin0).keep Kq40 (ninS ne_cc_a26 nin0)).keep Kq48 (ninS ne_cc_a26 (ninS ne_cc_c40 nin0))).lt)
              have ne_a26_a49 : a26 ≠ a49 := Nat.ne_of_lt (by rw [g49]; exact fq1_48.lt)
              have ne_c39_a49 : c39 ≠ a49 := Nat.ne_of_lt (by rw [g49]; exact ((fq0_39.keep Kq40).keep Kq48).lt)
              have ne_c40_a49 : c40 ≠ a49 := Nat.ne_of_lt (by rw [g49]; exact fq4_48.lt)
              have Z49 : n0 ≤ h49.size := Nat.le_trans Z48 E49.1
              have SZ49 : h0.size ≤ h49.size := Nat.le_trans SZ48 E49.1
              have hk := Nat.le_trans hk E49.1
              have F49_rows : Fld Z h49 a49 "com/example/greater_than/greaterthan/page/Page" "rows" "Ljava/util/List;" .null := D49 (Or.inr (own_g hw 114 rfl)) (ty := (.object "java/util/List")) (by decide)
              have F49_previousCursor : Fld Z h49 a49 "com/example/greater_than/greaterthan/page/Page" "previousCursor" "Ljava/lang/String;" .null := D49 (Or.inr (own_g hw 116 rfl)) (ty := (.object "java/lang/String")) (by decide)
              have F49_nextCursor : Fld Z h49 a49 "com/example/greater_than/greaterthan/page/Page" "nextCursor" "Ljava/lang/String;" .null := D49 (Or.inr (own_g hw 118 rfl)) (ty := (.object "java/lang/String")) (by decide)
              refine own_step st49 ?_
              show own_Ends p e below F (T49.setTop (mkF m 174 A28 [(.ref a49)]))
              refine own_step (fun _ k => XS.dup X49.here hx rfl (hb hby at_174) rfl rfl k) ?_
              show own_Ends p e below F (T49.setTop (mkF m 175 A28 [(.ref a49), (.ref a49)]))
              refine own_step (fun _ k => XS.aload X49.here hx rfl (hb hby at_175) (by rw [hA28]; rfl) rfl k) ?_
              show own_Ends p e below F (T49.setTop (mkF m 177 A28 [(.ref a26), (.ref a49), (.ref a49)]))
              refine own_step (fun _ k => XS.aload X49.here hx rfl (hb hby at_177) (by rw [hA28]; rfl) rfl k) ?_
              show own_Ends p e below F (T49.setTop (mkF m 179 A28 [.null, (.ref a26), (.ref a49), (.ref a49)]))
              refine own_step (fun _ k => XS.aload X49.here hx rfl (hb hby at_179) (by rw [hA28]; rfl) hz21 k) ?_
              show own_Ends p e below F (T49.setTop (mkF m 181 A28 [z21, .null, (.ref a26), (.ref a49), (.ref a49)]))
              obtain ⟨_, _, ⟨T50, L50, k50, n50⟩, -, X50, ⟨Lc50, hQ50, l50, y50, z50⟩, st50⟩ := X49.specialBack hx (y := (⟨"com/example/greater_than/greaterthan/page/Page", "<init>", "(Ljava/util/List;Ljava/lang/String;Ljava/lang/String;)V"⟩ : MethodName)) rfl hown (mvT hZ (own_g hw 29 rfl)) (mvT hZ (own_g hw 30 rfl)) (mvT hZ (own_g hw 31 rfl)) (by decide) (backOf (W := 1) (rm5_2 l Z a0 hw [] a49 a26 c40 kc40 (.ref c39) .null .null z21 ee ma mu mv mo h49 n0 Z49 A49 ge_a49 F49_rows F49_previousCursor F49_nextCursor (fq4_48.ext E49) ((fq7_40.keep Kq48).ext E49) (Or.inr ⟨_, _, _, rfl, (((fq0_39.keep Kq40).keep Kq48).ext E49), (own_g hw 183 rfl)⟩) (Or.inl rfl) (fq0_48.ext E49) (fq2_48.ext E49) (fq3_48.ext E49) (Sta.ext E49 S2_48) M_ma M_mu M_mv M_mo rfl hz21) hZ (own_g hw 31 rfl) (own_g hw 28 rfl) (by decide) (by decide)) (g := (mkF m 181 A28 [z21, .null, (.ref a26), (.ref a49), (.ref a49)])) rfl (by rw [hml]; show A28.size = _; rw [hA28]; rfl) (Steps.refl _) (a := a49) (argsL := [(.ref a26), .null, z21]) (rest := [(.ref a49)]) (lenOf pd__28Ljava_2futil_2fList_3bLjava_2flang_2fString_3bLjava_2flang_2fString_3b_29V rfl) rfl (by show 2 * 0 + _ ≤ _; exact Nat.le_of_eq rfl) (hb hby at_181) (fun _ _ => ⟨rfl, e49, (by decide : 7 + 3 ≤ _), (by decide : 25 + 7 ≤ _)⟩)
              dsimp only [Pt.U, Pt.locs, Pt.cells, Pt.slots] at X50 l50 y50 z50 st50 hQ50
              subst l50 y50 z50
              obtain ⟨rfl, Nq50, Kq50, fq0_50, fq1_50, fq2_50⟩ := hQ50
              have N50 := Fr.app N48 Nq50
              have Z50 : n0 ≤ T50.heap.size := Nat.le_trans Z49 Kq50.1
              have SZ50 : h0.size ≤ T50.heap.size := Nat.le_trans SZ49 Kq50.1
              have S0_50 := own_Sta_keep (Sta.ext E49 S0_48) Kq50 (allS (own_ns_exa A49) all0)
              have S1_50 := own_Sta_keep (Sta.ext E49 S1_48) Kq50 (allS (own_ns_exa A49) all0)
              have S2_50 := own_Sta_keep (Sta.ext E49 S2_48) Kq50 (allS (own_ns_exa A49) all0)
              have S3_50 := own_Sta_keep (Sta.ext E49 S3_48) Kq50 (allS (own_ns_exa A49) all0)
              have S4_50 := own_Sta_keep (Sta.ext E49 S4_48) Kq50 (allS (own_ns_exa A49) all0)
              have hk := Nat.le_trans hk Kq50.1
              refine own_trans st50 ?_
              show own_Ends p e below F (T50.setTop (mkF m 184 A28 [(.ref a49)]))
              obtain ⟨A51, hA51⟩ : ∃ z : Array Slot, z = #[.val (.int p1), .val (.int p2), .val (.int p3), .val (.int p4), .val (.int p5), .val (.int p6), .val (.int (0 : Int32)), .val (.int z4), .val (.int v9), .val (.int v11), .val (.int (2 : Int32)), .val (.int z15), .val .null, .val z21, .val (.ref a26), .val (.ref a49)] := ⟨_, rfl⟩
              refine own_step (fun _ k => XS.astore X50.here hx rfl (hb hby at_184) rfl rfl (l' := A51) (by rw [hA28, hA51]; exact rfl) k) ?_
              show own_Ends p e below F (T50.setTop (mkF m 186 A51 []))
              refine own_step (fun _ k => XS.aload X50.here hx rfl (hb hby at_186) (by rw [hA51]; rfl) rfl k) ?_
              show own_Ends p e below F (T50.setTop (mkF m 188 A51 [(.ref a49)]))
              obtain ⟨cq52, kq52, qa52, qb52, qc52⟩ := isOf (s := (s.setVm vm23)) (T := T50) hZ rfl fq0_50
              obtain ⟨_, _, ⟨T52, L52, k52, n52⟩, -, X52, ⟨Lc52, hQ52, l52, y52, z52⟩, st52⟩ := X50.virtualBack hx (y := (⟨"com/example/greater_than/greaterthan/page/Page", "hasPrevious", "()Z"⟩ : MethodName)) (z := (⟨"com/example/greater_than/greaterthan/page/Page", "hasPrevious", "()Z"⟩ : MethodName)) hown (mvT hZ (own_g hw 119 rfl)) (mvT hZ (own_g hw 120 rfl)) (notFace_of_selects (args := #[]) (mvT hZ (own_g hw 122 rfl))) (mvT hZ (own_g hw 122 rfl)) (mvT hZ (own_g hw 121 rfl)) (by decide) (backOf (W := 0) (rm15n l Z a0 hw [] a49 T50.heap n0 Z50 fq1_50) hZ (own_g hw 123 rfl) (own_g hw 28 rfl) (by decide) (by decide)) qa52 qc52 (g := (mkF m 188 A51 [(.ref a49)])) rfl (by rw [hml]; show A51.size = _; rw [hA51]; rfl) (Steps.refl _) (argsL := []) (rest := []) (lenOf pd__28_29Z rfl) rfl (by show 2 * 0 + _ ≤ _; exact Nat.le_of_eq rfl) (hb hby at_188) (fun _ _ => ⟨rfl, rfl, (by decide : 10 + 0 ≤ _), (by decide : 32 + 0 ≤ _)⟩)
              dsimp only [Pt.U, Pt.locs, Pt.cells, Pt.slots] at X52 l52 y52 z52 st52 hQ52
              subst l52 y52 z52
              obtain ⟨rfl, Nq52, eq52⟩ := hQ52
              have N52 := Fr.app N50 Nq52
              refine own_trans st52 ?_
              show own_Ends p e below F (T52.setTop (mkF m 191 A51 [(.int (0 : Int32))]))
              refine own_step (fun _ k => XS.iload X52.here hx rfl (hb hby at_191) (by rw [hA51]; rfl) k) ?_
              show own_Ends p e below F (T52.setTop (mkF m 193 A51 [(.int (0 : Int32)), (.int (0 : Int32))]))
              refine own_step (fun _ k => XS.icmpNo X52.here hx rfl (hb hby at_193) rfl (teq (by decide : (0 : Int32) = (0 : Int32))).2 k) ?_
              show own_Ends p e below F (T52.setTop (mkF m 196 A51 []))
              refine own_step (fun _ k => XS.iconst X52.here hx rfl (hb hby at_196) k) ?_
              show own_Ends p e below F (T52.setTop (mkF m 197 A51 [(.int (1 : Int32))]))
              refine own_step (fun _ k => XS.goto X52.here hx rfl (pc0 := 197) (pc' := 201) rfl (hb hby at_197) (by decide) (by decide) k) ?_
              show own_Ends p e below F (T52.setTop (mkF m 201 A51 [(.int (1 : Int32))]))
              rw [hF]
              exact own_retW X52 hS (by rw [eq52]; exact hk) (v := (some (.int (nar .boolean (1 : Int32))))) (fun h => by rw [Bd.returns] at h; cases h) Bd.notSynchronized (fun fs hr => retN X52 hx (t := .boolean) Bd.returns (by simp) (hb hby at_201) hr) (by decide) (by decide) (by rw [eq52]; exact ⟨rfl, N52⟩)
          · show own_Ends p e below F (T27.setTop (mkF m 113 A28 []))
            refine own_step (fun _ k => XS.iload X27.here hx rfl (hb hby at_113) (by rw [hA28]; rfl) k) ?_
            show own_Ends p e below F (T27.setTop (mkF m 115 A28 [(.int (3 : Int32))]))
            refine own_step (fun _ k => XS.iconst X27.here hx rfl (hb hby at_115) k) ?_
            show own_Ends p e below F (T27.setTop (mkF m 116 A28 [(.int (1 : Int32)), (.int (3 : Int32))]))
            refine own_step (fun _ k => XS.icmpNo X27.here hx rfl (hb hby at_116) rfl (flt (by decide : ¬ ((3 : Int32) < (1 : Int32)))).1 k) ?_
            show own_Ends p e below F (T27.setTop (mkF m 119 A28 []))
            refine own_step (fun _ k => XS.aload X27.here hx rfl (hb hby at_119) (by rw [hA28]; rfl) rfl k) ?_
            show own_Ends p e below F (T27.setTop (mkF m 121 A28 [(.ref a26)]))
            refine own_step (fun _ k => XS.iload X27.here hx rfl (hb hby at_121) (by rw [hA28]; rfl) k) ?_
            show own_Ends p e below F (T27.setTop (mkF m 123 A28 [(.int p6), (.ref a26)]))
            obtain ⟨_, _, ⟨T53, L53, k53, n53⟩, -, X53, ⟨Lc53, hQ53, l53, y53, z53⟩, st53⟩ := Jvm.LawKit.callS X27 hx (y := (⟨"java/lang/Integer", "valueOf", "(I)Ljava/lang/Integer;"⟩ : MethodName)) hown (mvT hZ (own_g hw 136 rfl)) (mvT hZ (own_g hw 137 rfl)) (mvT hZ (own_g hw 138 rfl)) (mvT hZ (own_g hw 139 rfl)) (by decide) (backOf (W := 1) (rm17 l Z a0 hw [] p6 cc T27.heap n0 Z27 S3_27 S4_27 ((BC23.ext E26).keep Kq27 (ninS ne_cc_a26 nin0))) hZ (own_g hw 139 rfl) (own_g hw 138 rfl) (by decide) (by decide)) (g := (mkF m 123 A28 [(.int p6), (.ref a26)])) rfl (by rw [hml]; show A28.size = _; rw [hA28]; rfl) (argsL := [(.int p6)]) (rest := [(.ref a26)]) (lenOf pd__28I_29Ljava_2flang_2fInteger_3b rfl) rfl (by show 2 * 0 + _ ≤ _; exact Nat.le_of_eq rfl) (hb hby at_123) (fun _ _ => ⟨rfl, rfl, (by decide : 4 + 1 ≤ _), (by decide : 11 + 1 ≤ _)⟩)
            dsimp only [Pt.U, Pt.locs, Pt.cells, Pt.slots] at X53 l53 y53 z53 st53 hQ53
            subst l53 y53 z53
            obtain ⟨c53, rfl, Nq53, Kq53, fq0_53⟩ := hQ53
            have N53 := Fr.app N27 Nq53
            have Z53 : n0 ≤ T53.heap.size := Nat.le_trans Z27 Kq53.1
            have SZ53 : h0.size ≤ T53.heap.size := Nat.le_trans SZ27 Kq53.1
            have S0_53 := own_Sta_keep S0_27 Kq53 all0
            have S1_53 := own_Sta_keep S1_27 Kq53 all0
            have S2_53 := own_Sta_keep S2_27 Kq53 all0
            have S3_53 := own_Sta_keep S3_27 Kq53 all0
            have S4_53 := own_Sta_keep S4_27 Kq53 all0
            have hk := Nat.le_trans hk Kq53.1
            refine own_step st53 ?_
            show own_Ends p e below F (T53.setTop (mkF m 126 A28 [(.ref c53), (.ref a26)]))
            obtain ⟨cq54, kq54, qa54, qb54, qc54⟩ := isOf (s := (s.setVm vm23)) (T := T53) hZ rfl (fq0_27.keep Kq53)
            obtain ⟨_, _, ⟨T54, L54, k54, n54⟩, -, X54, ⟨Lc54, hQ54, l54, y54, z54⟩, st54⟩ := X53.virtualBack hx (y := (⟨"java/util/ArrayList", "add", "(Ljava/lang/Object;)Z"⟩ : MethodName)) (z := (⟨"java/util/ArrayList", "add", "(Ljava/lang/Object;)Z"⟩ : MethodName)) hown (mvT hZ (own_g hw 157 rfl)) (mvT hZ (own_g hw 158 rfl)) (notFace_of_selects (args := #[]) (mvT hZ (own_g hw 160 rfl))) (mvT hZ (own_g hw 160 rfl)) (mvT hZ (own_g hw 159 rfl)) (by decide) (backOf (W := 0) (rm20_0 l Z a0 hw [] a26 dd kd (.ref c53) T53.heap n0 Z53 (fq0_27.keep Kq53) ge_a26 (fq1_27.keep Kq53 nin0) (fq2_27.keep Kq53 nin0) (fq3_27.keep Kq53 nin0) (Or.inr ⟨_, _, _, rfl, fq0_53, (own_g hw 183 rfl)⟩) S1_53 (((VD23.ext E26).keep Kq27 (ninS ne_dd_a26 nin0)).keep Kq53 nin0)) hZ (own_g hw 161 rfl) (own_g hw 2 rfl) (by decide) (by decide)) qa54 qc54 (g := (mkF m 126 A28 [(.ref c53), (.ref a26)])) rfl (by rw [hml]; show A28.size = _; rw [hA28]; rfl) (Steps.refl _) (argsL := [(.ref c53)]) (rest := []) (lenOf pd__28Ljava_2flang_2fObject_3b_29Z rfl) rfl (by show 2 * 0 + _ ≤ _; exact Nat.le_of_eq rfl) (hb hby at_126) (fun _ _ => ⟨rfl, rfl, (by decide : 5 + 1 ≤ _), (by decide : 12 + 10 ≤ _)⟩)
            dsimp only [Pt.U, Pt.locs, Pt.cells, Pt.slots] at X54 l54 y54 z54 st54 hQ54
            subst l54 y54 z54
            obtain ⟨c54, kc54, rfl, Nq54, Kq54, fq0_54, fq1_54, fq2_54, fq3_54, fq4_54, fq5_54, fq6_54, fq7_54⟩ := hQ54
            have N54 := Fr.app N53 Nq54
            have Z54 : n0 ≤ T54.heap.size := Nat.le_trans Z53 Kq54.1
            have SZ54 : h0.size ≤ T54.heap.size := Nat.le_trans SZ53 Kq54.1
            have S0_54 := own_Sta_keep S0_53 Kq54 (allS (own_ns_exa (fq0_27.keep Kq53)) all0)
            have S1_54 := own_Sta_keep S1_53 Kq54 (allS (own_ns_exa (fq0_27.keep Kq53)) all0)
            have S2_54 := own_Sta_keep S2_53 Kq54 (allS (own_ns_exa (fq0_27.keep Kq53)) all0)
            have S3_54 := own_Sta_keep S3_53 Kq54 (allS (own_ns_exa (fq0_27.keep Kq53)) all0)
            have S4_54 := own_Sta_keep S4_53 Kq54 (allS (own_ns_exa (fq0_27.keep Kq53)) all0)
            have ne_dd_c54 : dd ≠ c54 := Nat.ne_of_lt (Nat.lt_of_lt_of_le ((((VD23.ext E26).keep Kq27 (ninS ne_dd_a26 nin0)).keep Kq53 nin0)).lt fq0_54)
            have ne_cc_c54 : cc ≠ c54 := Nat.ne_of_lt (Nat.lt_of_lt_of_le ((((BC23.ext E26).keep Kq27 (ninS ne_cc_a26 nin0)).keep Kq53 nin0)).lt fq0_54)
            have ne_a26_c54 : a26 ≠ c54 := Nat.ne_of_lt (Nat.lt_of_lt_of_le ((fq1_27.keep Kq53 nin0)).lt fq0_54)
            have ne_c53_c54 : c53 ≠ c54 := Nat.ne_of_lt (Nat.lt_of_lt_of_le (fq0_53).lt fq0_54)
            have ge_c54 : n0 ≤ c54 := Nat.le_trans Z53 fq0_54
            have sz_c54 : h0.size ≤ c54 := Nat.le_trans SZ53 fq0_54
            have hk := Nat.le_trans hk Kq54.1
            refine own_trans st54 ?_
            show own_Ends p e below F (T54.setTop (mkF m 129 A28 [(.int (1 : Int32))]))
            refine own_step (fun _ k => XS.pop X54.here hx rfl (hb hby at_129) rfl rfl k) ?_
            show own_Ends p e below F (T54.setTop (mkF m 130 A28 []))
            refine own_step (fun _ k => XS.iload X54.here hx rfl (hb hby at_130) (by rw [hA28]; rfl) k) ?_
            show own_Ends p e below F (T54.setTop (mkF m 132 A28 [(.int (3 : Int32))]))
            refine own_step (fun _ k => XS.iconst X54.here hx rfl (hb hby at_132) k) ?_
            show own_Ends p e below F (T54.setTop (mkF m 133 A28 [(.int (2 : Int32)), (.int (3 : Int32))]))
            refine own_step (fun _ k => XS.icmpNo X54.here hx rfl (hb hby at_133) rfl (flt (by decide : ¬ ((3 : Int32) < (2 : Int32)))).1 k) ?_
            show own_Ends p e below F (T54.setTop (mkF m 136 A28 []))
            refine own_step (fun _ k => XS.aload X54.here hx rfl (hb hby at_136) (by rw [hA28]; rfl) rfl k) ?_
            show own_Ends p e below F (T54.setTop (mkF m 138 A28 [(.ref a26)]))
            refine own_step (fun _ k => XS.iload X54.here hx rfl (hb hby at_138) (by rw [hA28]; rfl) k) ?_
            show own_Ends p e below F (T54.setTop (mkF m 140 A28 [(.int z15), (.ref a26)]))
            by_cases c140_55 : z15 = (0 : Int32)
            · refine own_step (fun _ k => XS.ifYes X54.here hx rfl (pc0 := 140) (pc' := 147) rfl (hb hby at_140) rfl ((if0 _ _).trans (teq c140_55).1) (by decide) (by decide) k) ?_
              show own_Ends p e below F (T54.setTop (mkF m 147 A28 [(.ref a26)]))
              refine own_step (fun _ k => XS.iloadN X54.here hx rfl (hb hby at_147) (by rw [hA28]; rfl) k) ?_
              show own_Ends p e below F (T54.setTop (mkF m 148 A28 [(.int p2), (.ref a26)]))
              obtain ⟨_, _, ⟨T56, L56, k56, n56⟩, -, X56, ⟨Lc56, hQ56, l56, y56, z56⟩, st56⟩ := Jvm.LawKit.callS X54 hx (y := (⟨"java/lang/Integer", "valueOf", "(I)Ljava/lang/Integer;"⟩ : MethodName)) hown (mvT hZ (own_g hw 136 rfl)) (mvT hZ (own_g hw 137 rfl)) (mvT hZ (own_g hw 138 rfl)) (mvT hZ (own_g hw 139 rfl)) (by decide) (backOf (W := 1) (rm17 l Z a0 hw [] p2 cc T54.heap n0 Z54 S3_54 S4_54 ((((BC23.ext E26).keep Kq27 (ninS ne_cc_a26 nin0)).keep Kq53 nin0).keep Kq54 (ninS ne_cc_a26 nin0))) hZ (own_g hw 139 rfl) (own_g hw 138 rfl) (by decide) (by decide)) (g := (mkF m 148 A28 [(.int p2), (.ref a26)])) rfl (by rw [hml]; show A28.size = _; rw [hA28]; rfl) (argsL := [(.int p2)]) (rest := [(.ref a26)]) (lenOf pd__28I_29Ljava_2flang_2fInteger_3b rfl) rfl (by show 2 * 0 + _ ≤ _; exact Nat.le_of_eq rfl) (hb hby at_148) (fun _ _ => ⟨rfl, rfl, (by decide : 6 + 1 ≤ _), (by decide : 22 + 1 ≤ _)⟩)
              dsimp only [Pt.U, Pt.locs, Pt.cells, Pt.slots] at X56 l56 y56 z56 st56 hQ56
              subst l56 y56 z56
              obtain ⟨c56, rfl, Nq56, Kq56, fq0_56⟩ := hQ56
              have N56 := Fr.app N54 Nq56
              have Z56 : n0 ≤ T56.heap.size := Nat.le_trans Z54 Kq56.1
              have SZ56 : h0.size ≤ T56.heap.size := Nat.le_trans SZ54 Kq56.1
              have S0_56 := own_Sta_keep S0_54 Kq56 all0
              have S1_56 := own_Sta_keep S1_54 Kq56 all0
              have S2_56 := own_Sta_keep S2_54 Kq56 all0
              have S3_56 := own_Sta_keep S3_54 Kq56 all0
              have S4_56 := own_Sta_keep S4_54 Kq56 all0
              have hk := Nat.le_trans hk Kq56.1
              refine own_step st56 ?_
              show own_Ends p e below F (T56.setTop (mkF m 151 A28 [(.ref c56), (.ref a26)]))
              obtain ⟨cq57, kq57, qa57, qb57, qc57⟩ := isOf (s := (s.setVm vm23)) (T := T56) hZ rfl (fq1_54.keep Kq56)
              obtain ⟨_, _, ⟨T57, L57, k57, n57⟩, -, X57, ⟨Lc57, hQ57, l57, y57, z57⟩, st57⟩ := X56.virtualBack hx (y := (⟨"java/util/ArrayList", "add", "(Ljava/lang/Object;)Z"⟩ : MethodName)) (z := (⟨"java/util/ArrayList", "add", "(Ljava/lang/Object;)Z"⟩ : MethodName)) hown (mvT hZ (own_g hw 157 rfl)) (mvT hZ (own_g hw 158 rfl)) (notFace_of_selects (args := #[]) (mvT hZ (own_g hw 160 rfl))) (mvT hZ (own_g hw 160 rfl)) (mvT hZ (own_g hw 159 rfl)) (by decide) (backOf (W := 0) (rm20_1 l Z a0 hw [] a26 c54 kc54 (.ref c56) (.ref c53) T56.heap n0 Z56 (fq1_54.keep Kq56) ge_a26 (fq2_54.keep Kq56 nin0) (fq3_54.keep Kq56 nin0) (fq4_54.keep Kq56 nin0) (Or.inr ⟨_, _, _, rfl, fq0_56, (own_g hw 183 rfl)⟩) (fq5_54.keep Kq56 nin0) fq6_54 ge_c54) hZ (own_g hw 161 rfl) (own_g hw 2 rfl) (by decide) (by decide)) qa57 qc57 (g := (mkF m 151 A28 [(.ref c56), (.ref a26)])) rfl (by rw [hml]; show A28.size = _; rw [hA28]; rfl) (Steps.refl _) (argsL := [(.ref c56)]) (rest := []) (lenOf pd__28Ljava_2flang_2fObject_3b_29Z rfl) rfl (by show 2 * 0 + _ ≤ _; exact Nat.le_of_eq rfl) (hb hby at_151) (fun _ _ => ⟨rfl, rfl, (by decide : 7 + 0 ≤ _), (by decide : 23 + 0 ≤ _)⟩)
              dsimp only [Pt.U, Pt.locs, Pt.cells, Pt.slots] at X57 l57 y57 z57 st57 hQ57
              subst l57 y57 z57
              obtain ⟨rfl, Nq57, Kq57, fq0_57, fq1_57, fq2_57, fq3_57, fq4_57⟩ := hQ57
              have N57 := Fr.app N56 Nq57
              have Z57 : n0 ≤ T57.heap.size := Nat.le_trans Z56 Kq57.1
              have SZ57 : h0.size ≤ T57.heap.size := Nat.le_trans SZ56 Kq57.1
              have S0_57 := own_Sta_keep S0_56 Kq57 (allS (own_ns_exa (fq1_54.keep Kq56)) (allS (own_ns_exa (fq7_54.keep Kq56)) all0))
              have S1_57 := own_Sta_keep S1_56 Kq57 (allS (own_ns_exa (fq1_54.keep Kq56)) (allS (own_ns_exa (fq7_54.keep Kq56)) all0))
              have S2_57 := own_Sta_keep S2_56 Kq57 (allS (own_ns_exa (fq1_54.keep Kq56)) (allS (own_ns_exa (fq7_54.keep Kq56)) all0))
              have S3_57 := own_Sta_keep S3_56 Kq57 (allS (own_ns_exa (fq1_54.keep Kq56)) (allS (own_ns_exa (fq7_54.keep Kq56)) all0))
              have S4_57 := own_Sta_keep S4_56 Kq57 (allS (own_ns_exa (fq1_54.keep Kq56)) (allS (own_ns_exa (fq7_54.keep Kq56)) all0))
              have hk := Nat.le_trans hk Kq57.1
              refine own_trans st57 ?_
              show own_Ends p e below F (T57.setTop (mkF m 154 A28 [(.int (1 : Int32))]))
              refine own_step (fun _ k => XS.pop X57.here hx rfl (hb hby at_154) rfl rfl k) ?_
              show own_Ends p e below F (T57.setTop (mkF m 155 A28 []))
              refine own_step (fun _ k => XS.iload X57.here hx rfl (hb hby at_155) (by rw [hA28]; rfl) k) ?_
              show own_Ends p e below F (T57.setTop (mkF m 157 A28 [(.int (3 : Int32))]))
              refine own_step (fun _ k => XS.iconst X57.here hx rfl (hb hby at_157) k) ?_
              show own_Ends p e below F (T57.setTop (mkF m 158 A28 [(.int (3 : Int32)), (.int (3 : Int32))]))
              refine own_step (fun _ k => XS.icmpNo X57.here hx rfl (hb hby at_158) rfl (flt (by decide : ¬ ((3 : Int32) < (3 : Int32)))).1 k) ?_
              show own_Ends p e below F (T57.setTop (mkF m 161 A28 []))
              refine own_step (fun _ k => XS.aload X57.here hx rfl (hb hby at_161) (by rw [hA28]; rfl) rfl k) ?_
              show own_Ends p e below F (T57.setTop (mkF m 163 A28 [(.ref a26)]))
              refine own_step (fun _ k => XS.iloadN X57.here hx rfl (hb hby at_163) (by rw [hA28]; rfl) k) ?_
              show own_Ends p e below F (T57.setTop (mkF m 164 A28 [(.int p4), (.ref a26)]))
              obtain ⟨_, _, ⟨T58, L58, k58, n58⟩, -, X58, ⟨Lc58, hQ58, l58, y58, z58⟩, st58⟩ := Jvm.LawKit.callS X57 hx (y := (⟨"java/lang/Integer", "valueOf", "(I)Ljava/lang/Integer;"⟩ : MethodName)) hown (mvT hZ (own_g hw 136 rfl)) (mvT hZ (own_g hw 137 rfl)) (mvT hZ (own_g hw 138 rfl)) (mvT hZ (own_g hw 139 rfl)) (by decide) (backOf (W := 1) (rm17 l Z a0 hw [] p4 cc T57.heap n0 Z57 S3_57 S4_57 ((((((BC23.ext E26).keep Kq27 (ninS ne_cc_a26 nin0)).keep Kq53 nin0).keep Kq54 (ninS ne_cc_a26 nin0)).keep Kq56 nin0).keep Kq57 (ninS ne_cc_a26 (ninS ne_cc_c54 nin0)))) hZ (own_g hw 139 rfl) (own_g hw 138 rfl) (by decide) (by decide)) (g := (mkF m 164 A28 [(.int p4), (.ref a26)])) rfl (by rw [hml]; show A28.size = _; rw [hA28]; rfl) (argsL := [(.int p4)]) (rest := [(.ref a26)]) (lenOf pd__28I_29Ljava_2flang_2fInteger_3b rfl) rfl (by show 2 * 0 + _ ≤ _; exact Nat.le_of_eq rfl) (hb hby at_164) (fun _ _ => ⟨rfl, rfl, (by decide : 7 + 1 ≤ _), (by decide : 23 + 1 ≤ _)⟩)
              dsimp only [Pt.U, Pt.locs, Pt.cells, Pt.slots] at X58 l58 y58 z58 st58 hQ58
              subst l58 y58 z58
              obtain ⟨c58, rfl, Nq58, Kq58, fq0_58⟩ := hQ58
              have N58 := Fr.app N57 Nq58
              have Z58 : n0 ≤ T58.heap.size := Nat.le_trans Z57 Kq58.1
              have SZ58 : h0.size ≤ T58.heap.size := Nat.le_trans SZ57 Kq58.1
              have S0_58 := own_Sta_keep S0_57 Kq58 all0
              have S1_58 := own_Sta_keep S1_57 Kq58 all0
              have S2_58 := own_Sta_keep S2_57 Kq58 all0
              have S3_58 := own_Sta_keep S3_57 Kq58 all0
              have S4_58 := own_Sta_keep S4_57 Kq58 all0
              have hk := Nat.le_trans hk Kq58.1
              refine own_step st58 ?_
              show own_Ends p e below F (T58.setTop (mkF m 167 A28 [(.ref c58), (.ref a26)]))
              obtain ⟨cq59, kq59, qa59, qb59, qc59⟩ := isOf (s := (s.setVm vm23)) (T := T58) hZ rfl (fq0_57.keep Kq58)
              obtain ⟨_, _, ⟨T59, L59, k59, n59⟩, -, X59, ⟨Lc59, hQ59, l59, y59, z59⟩, st59⟩ := X58.virtualBack hx (y := (⟨"java/util/ArrayList", "add", "(Ljava/lang/Object;)Z"⟩ : MethodName)) (z := (⟨"java/util/ArrayList", "add", "(Ljava/lang/Object;)Z"⟩ : MethodName)) hown (mvT hZ (own_g hw 157 rfl)) (mvT hZ (own_g hw 158 rfl)) (notFace_of_selects (args := #[]) (mvT hZ (own_g hw 160 rfl))) (mvT hZ (own_g hw 160 rfl)) (mvT hZ (own_g hw 159 rfl)) (by decide) (backOf (W := 0) (rm20_2 l Z a0 hw [] a26 c54 kc54 (.ref c58) (.ref c53) (.ref c56) T58.heap n0 Z58 (fq0_57.keep Kq58) ge_a26 (fq1_57.keep Kq58 nin0) (fq2_57.keep Kq58 nin0) (fq3_57.keep Kq58 nin0) (Or.inr ⟨_, _, _, rfl, fq0_58, (own_g hw 183 rfl)⟩) (fq4_57.keep Kq58 nin0) fq6_54 ge_c54) hZ (own_g hw 161 rfl) (own_g hw 2 rfl) (by decide) (by decide)) qa59 qc59 (g := (mkF m 167 A28 [(.ref c58), (.ref a26)])) rfl (by rw [hml]; show A28.size = _; rw [hA28]; rfl) (Steps.refl _) (argsL := [(.ref c58)]) (rest := []) (lenOf pd__28Ljava_2flang_2fObject_3b_29Z rfl) rfl (by show 2 * 0 + _ ≤ _; exact Nat.le_of_eq rfl) (hb hby at_167) (fun _ _ => ⟨rfl, rfl, (by decide : 8 + 0 ≤ _), (by decide : 24 + 0 ≤ _)⟩)
              dsimp only [Pt.U, Pt.locs, Pt.cells, Pt.slots] at X59 l59 y59 z59 st59 hQ59
              subst l59 y59 z59
              obtain ⟨rfl, Nq59, Kq59, fq0_59, fq1_59, fq2_59, fq3_59, fq4_59⟩ := hQ59
              have N59 := Fr.app N58 Nq59
              have Z59 : n0 ≤ T59.heap.size := Nat.le_trans Z58 Kq59.1
              have SZ59 : h0.size ≤ T59.heap.size := Nat.le_trans SZ58 Kq59.1
              have S0_59 := own_Sta_keep S0_58 Kq59 (allS (own_ns_exa (fq0_57.keep Kq58)) (allS (own_ns_exa (((fq7_54.keep Kq56).keep Kq57).keep Kq58)) all0))
              have S1_59 := own_Sta_keep S1_58 Kq59 (allS (own_ns_exa (fq0_57.keep Kq58)) (allS (own_ns_exa (((fq7_54.keep Kq56).keep Kq57).keep Kq58)) all0))
              have S2_59 := own_Sta_keep S2_58 Kq59 (allS (own_ns_exa (fq0_57.keep Kq58)) (allS (own_ns_exa (((fq7_54.keep Kq56).keep Kq57).keep Kq58)) all0))
              have S3_59 := own_Sta_keep S3_58 Kq59 (allS (own_ns_exa (fq0_57.keep Kq58)) (allS (own_ns_exa (((fq7_54.keep Kq56).keep Kq57).keep Kq58)) all0))
              have S4_59 := own_Sta_keep S4_58 Kq59 (allS (own_ns_exa (fq0_57.keep Kq58)) (allS (own_ns_exa (((fq7_54.keep Kq56).keep Kq57).keep Kq58)) all0))
              have hk := Nat.le_trans hk Kq59.1
              refine own_trans st59 ?_
              show own_Ends p e below F (T59.setTop (mkF m 170 A28 [(.int (1 : Int32))]))
              refine own_step (fun _ k => XS.pop X59.here hx rfl (hb hby at_170) rfl rfl k) ?_
              show own_Ends p e below F (T59.setTop (mkF m 171 A28 []))
              obtain ⟨T60, h60, X60, e60, E60, A60, D60, -, st60⟩ := newO X59 hx hZ hown (own_g hw 26 rfl) (own_g hw 27 rfl) (own_g hw 28 rfl) rfl (g := (mkF m 171 A28 [])) rfl (hb hby at_171) (by decide) (by decide)
              obtain ⟨a60, g60⟩ : ∃ z, z = T59.heap.size := ⟨_, rfl⟩
              rw [← g60] at A60 D60 st60
              have ge_a60 : n0 ≤ a60 := Nat.le_trans Z59 (Nat.le_of_eq g60.symm)
              have sz_a60 : h0.size ≤ a60 := Nat.le_trans SZ59 (Nat.le_of_eq g60.symm)
              have ne_dd_a60 : dd ≠ a60 := Nat.ne_of_lt (by rw [g60]; exact ((((((((VD23.ext E26).keep Kq27 (ninS ne_dd_a26 nin0)).keep Kq53 nin0).keep Kq54 (ninS ne_dd_a26 nin0)).keep Kq56 nin0).keep Kq57 (ninS ne_dd_a26 (ninS ne_dd_c54 nin0))).keep Kq58 nin0).keep Kq59 (ninS ne_dd_a26 (ninS ne_dd_c54 nin0))).lt)
              have ne_cc_a60 : cc ≠ a60 := Nat.ne_of_lt (by rw [g60]; exact ((((((((BC23.ext E26).keep Kq27 (ninS ne_cc_a26 nin0)).keep Kq53 nin0).keep Kq54 (ninS ne_cc_a26 nin0)).keep Kq56 nin0).keep Kq57 (ninS ne_cc_a26 (ninS ne_cc_c54 nin0))).keep Kq58 nin0).keep Kq59 (ninS ne_cc_a26 (ninS ne_cc_c54 nin0))).lt)
              have ne_a26_a60 : a26 ≠ a60 := Nat.ne_of_lt (by rw [g60]; exact fq1_59.lt)
              have ne_c53_a60 : c53 ≠ a60 := Nat.ne_of_lt (by rw [g60]; exact (((((fq0_53.keep Kq54).keep Kq56).keep Kq57).keep Kq58).keep Kq59).lt)
              have ne_c54_a60 : c54 ≠ a60 := Nat.ne_of_lt (by rw [g60]; exact fq4_59.lt)
              have ne_c56_a60 : c56 ≠ a60 := Nat.ne_of_lt (by rw [g60]; exact (((fq0_56.keep Kq57).keep Kq58).keep Kq59).lt)
              have ne_c58_a60 : c58 ≠ a60 := Nat.ne_of_lt (by rw [g60]; exact (fq0_58.keep Kq59).lt)
              have Z60 : n0 ≤ h60.size := Nat.le_trans Z59 E60.1
              have SZ60 : h0.size ≤ h60.size := Nat.le_trans SZ59 E60.1
              have hk := Nat.le_trans hk E60.1
              have F60_rows : Fld Z h60 a60 "com/example/greater_than/greaterthan/page/Page" "rows" "Ljava/util/List;" .null := D60 (Or.inr (own_g hw 114 rfl)) (ty := (.object "java/util/List")) (by decide)
              have F60_previousCursor : Fld Z h60 a60 "com/example/greater_than/greaterthan/page/Page" "previousCursor" "Ljava/lang/String;" .null := D60 (Or.inr (own_g hw 116 rfl)) (ty := (.object "java/lang/String")) (by decide)
              have F60_nextCursor : Fld Z h60 a60 "com/example/greater_than/greaterthan/page/Page" "nextCursor" "Ljava/lang/String;" .null := D60 (Or.inr (own_g hw 118 rfl)) (ty := (.object "java/lang/String")) (by decide)
              refine own_step st60 ?_
              show own_Ends p e below F (T60.setTop (mkF m 174 A28 [(.ref a60)]))
              refine own_step (fun _ k => XS.dup X60.here hx rfl (hb hby at_174) rfl rfl k) ?_
              show own_Ends p e below F (T60.setTop (mkF m 175 A28 [(.ref a60), (.ref a60)]))
              refine own_step (fun _ k => XS.aload X60.here hx rfl (hb hby at_175) (by rw [hA28]; rfl) rfl k) ?_
              show own_Ends p e below F (T60.setTop (mkF m 177 A28 [(.ref a26), (.ref a60), (.ref a60)]))
              refine own_step (fun _ k => XS.aload X60.here hx rfl (hb hby at_177) (by rw [hA28]; rfl) rfl k) ?_
              show own_Ends p e below F (T60.setTop (mkF m 179 A28 [.null, (.ref a26), (.ref a60), (.ref a60)]))
              refine own_step (fun _ k => XS.aload X60.here hx rfl (hb hby at_179) (by rw [hA28]; rfl) hz21 k) ?_
              show own_Ends p e below F (T60.setTop (mkF m 181 A28 [z21, .null, (.ref a26), (.ref a60), (.ref a60)]))
              obtain ⟨_, _, ⟨T61, L61, k61, n61⟩, -, X61, ⟨Lc61, hQ61, l61, y61, z61⟩, st61⟩ := X60.specialBack hx (y := (⟨"com/example/greater_than/greaterthan/page/Page", "<init>", "(Ljava/util/List;Ljava/lang/String;Ljava/lang/String;)V"⟩ : MethodName)) rfl hown (mvT hZ (own_g hw 29 rfl)) (mvT hZ (own_g hw 30 rfl)) (mvT hZ (own_g hw 31 rfl)) (by decide) (backOf (W := 1) (rm5_3 l Z a0 hw [] a60 a26 c54 kc54 (.ref c53) (.ref c56) (.ref c58) .null z21 ee ma mu mv mo h60 n0 Z60 A60 ge_a60 F60_rows F60_previousCursor F60_nextCursor (fq4_59.ext E60) (((((fq7_54.keep Kq56).keep Kq57).keep Kq58).keep Kq59).ext E60) (Or.inr ⟨_, _, _, rfl, ((((((fq0_53.keep Kq54).keep Kq56).keep Kq57).keep Kq58).keep Kq59).ext E60), (own_g hw 183 rfl)⟩) (Or.inr ⟨_, _, _, rfl, ((((fq0_56.keep Kq57).keep Kq58).keep Kq59).ext E60), (own_g hw 183 rfl)⟩) (Or.inr ⟨_, _, _, rfl, ((fq0_58.keep Kq59).ext E60), (own_g hw 183 rfl)⟩) (fq0_59.ext E60) (fq2_59.ext E60) (fq3_59.ext E60) (Sta.ext E60 S2_59) M_ma M_mu M_mv M_mo rfl hz21) hZ (own_g hw 31 rfl) (own_g hw 28 rfl) (by decide) (by decide)) (g := (mkF m 181 A28 [z21, .null, (.ref a26), (.ref a60), (.ref a60)])) rfl (by rw [hml]; show A28.size = _; rw [hA28]; rfl) (Steps.refl _) (a := a60) (argsL := [(.ref a26), .null, z21]) (rest := [(.ref a60)]) (lenOf pd__28Ljava_2futil_2fList_3bLjava_2flang_2fString_3bLjava_2flang_2fString_3b_29V rfl) rfl (by show 2 * 0 + _ ≤ _; exact Nat.le_of_eq rfl) (hb hby at_181) (fun _ _ => ⟨rfl, e60, (by decide : 9 + 3 ≤ _), (by decide : 27 + 8 ≤ _)⟩)
              dsimp only [Pt.U, Pt.locs, Pt.cells, Pt.slots] at X61 l61 y61 z61 st61 hQ61
              subst l61 y61 z61
              obtain ⟨rfl, Nq61, Kq61, fq0_61, fq1_61, fq2_61⟩ := hQ61
              have N61 := Fr.app N59 Nq61
              have Z61 : n0 ≤ T61.heap.size := Nat.le_trans Z60 Kq61.1
              have SZ61 : h0.size ≤ T61.heap.size := Nat.le_trans SZ60 Kq61.1
              have S0_61 := own_Sta_keep (Sta.ext E60 S0_59) Kq61 (allS (own_ns_exa A60) all0)
              have S1_61 := own_Sta_keep (Sta.ext E60 S1_59) Kq61 (allS (own_ns_exa A60) all0)
              have S2_61 := own_Sta_keep (Sta.ext E60 S2_59) Kq61 (allS (own_ns_exa A60) all0)
              have S3_61 := own_Sta_keep (Sta.ext E60 S3_59) Kq61 (allS (own_ns_exa A60) all0)
              have S4_61 := own_Sta_keep (Sta.ext E60 S4_59) Kq61 (allS (own_ns_exa A60) all0)
              have hk := Nat.le_trans hk Kq61.1
              refine own_trans st61 ?_
              show own_Ends p e below F (T61.setTop (mkF m 184 A28 [(.ref a60)]))
              obtain ⟨A62, hA62⟩ : ∃ z : Array Slot, z = #[.val (.int p1), .val (.int p2), .val (.int p3), .val (.int p4), .val (.int p5), .val (.int p6), .val (.int (0 : Int32)), .val (.int z4), .val (.int v9), .val (.int v11), .val (.int (3 : Int32)), .val (.int z15), .val .null, .val z21, .val (.ref a26), .val (.ref a60)] := ⟨_, rfl⟩
              refine own_step (fun _ k => XS.astore X61.here hx rfl (hb hby at_184) rfl rfl (l' := A62) (by rw [hA28, hA62]; exact rfl) k) ?_
              show own_Ends p e below F (T61.setTop (mkF m 186 A62 []))
              refine own_step (fun _ k => XS.aload X61.here hx rfl (hb hby at_186) (by rw [hA62]; rfl) rfl k) ?_
              show own_Ends p e below F (T61.setTop (mkF m 188 A62 [(.ref a60)]))
              obtain ⟨cq63, kq63, qa63, qb63, qc63⟩ := isOf (s := (s.setVm vm23)) (T := T61) hZ rfl fq0_61
              obtain ⟨_, _, ⟨T63, L63, k63, n63⟩, -, X63, ⟨Lc63, hQ63, l63, y63, z63⟩, st63⟩ := X61.virtualBack hx (y := (⟨"com/example/greater_than/greaterthan/page/Page", "hasPrevious", "()Z"⟩ : MethodName)) (z := (⟨"com/example/greater_than/greaterthan/page/Page", "hasPrevious", "()Z"⟩ : MethodName)) hown (mvT hZ (own_g hw 119 rfl)) (mvT hZ (own_g hw 120 rfl)) (notFace_of_selects (args := #[]) (mvT hZ (own_g hw 122 rfl))) (mvT hZ (own_g hw 122 rfl)) (mvT hZ (own_g hw 121 rfl)) (by decide) (backOf (W := 0) (rm15n l Z a0 hw [] a60 T61.heap n0 Z61 fq1_61) hZ (own_g hw 123 rfl) (own_g hw 28 rfl) (by decide) (by decide)) qa63 qc63 (g := (mkF m 188 A62 [(.ref a60)])) rfl (by rw [hml]; show A62.size = _; rw [hA62]; rfl) (Steps.refl _) (argsL := []) (rest := []) (lenOf pd__28_29Z rfl) rfl (by show 2 * 0 + _ ≤ _; exact Nat.le_of_eq rfl) (hb hby at_188) (fun _ _ => ⟨rfl, rfl, (by decide : 12 + 0 ≤ _), (by decide : 35 + 0 ≤ _)⟩)
              dsimp only [Pt.U, Pt.locs, Pt.cells, Pt.slots] at X63 l63 y63 z63 st63 hQ63
              subst l63 y63 z63
              obtain ⟨rfl, Nq63, eq63⟩ := hQ63
              have N63 := Fr.app N61 Nq63
              refine own_trans st63 ?_
              show own_Ends p e below F (T63.setTop (mkF m 191 A62 [(.int (0 : Int32))]))
              refine own_step (fun _ k => XS.iload X63.here hx rfl (hb hby at_191) (by rw [hA62]; rfl) k) ?_
              show own_Ends p e below F (T63.setTop (mkF m 193 A62 [(.int (0 : Int32)), (.int (0 : Int32))]))
              refine own_step (fun _ k => XS.icmpNo X63.here hx rfl (hb hby at_193) rfl (teq (by decide : (0 : Int32) = (0 : Int32))).2 k) ?_
              show own_Ends p e below F (T63.setTop (mkF m 196 A62 []))
              refine own_step (fun _ k => XS.iconst X63.here hx rfl (hb hby at_196) k) ?_
              show own_Ends p e below F (T63.setTop (mkF m 197 A62 [(.int (1 : Int32))]))
              refine own_step (fun _ k => XS.goto X63.here hx rfl (pc0 := 197) (pc' := 201) rfl (hb hby at_197) (by decide) (by decide) k) ?_
              show own_Ends p e below F (T63.setTop (mkF m 201 A62 [(.int (1 : Int32))]))
              rw [hF]
              exact own_retW X63 hS (by rw [eq63]; exact hk) (v := (some (.int (nar .boolean (1 : Int32))))) (fun h => by rw [Bd.returns] at h; cases h) Bd.notSynchronized (fun fs hr => retN X63 hx (t := .boolean) Bd.returns (by simp) (hb hby at_201) hr) (by decide) (by decide) (by rw [eq63]; exact ⟨rfl, N63⟩)
            · refine own_step (fun _ k => XS.ifNo X54.here hx rfl (hb hby at_140) rfl ((if0 _ _).trans (feq c140_55).1) k) ?_
              show own_Ends p e below F (T54.setTop (mkF m 143 A28 [(.ref a26)]))
              refine own_step (fun _ k => XS.aconstNull X54.here hx rfl (hb hby at_143) k) ?_
              show own_Ends p e below F (T54.setTop (mkF m 144 A28 [.null, (.ref a26)]))
              refine own_step (fun _ k => XS.goto X54.here hx rfl (pc0 := 144) (pc' := 151) rfl (hb hby at_144) (by decide) (by decide) k) ?_
              show own_Ends p e below F (T54.setTop (mkF m 151 A28 [.null, (.ref a26)]))
              obtain ⟨cq64, kq64, qa64, qb64, qc64⟩ := isOf (s := (s.setVm vm23)) (T := T54) hZ rfl fq1_54
              obtain ⟨_, _, ⟨T64, L64, k64, n64⟩, -, X64, ⟨Lc64, hQ64, l64, y64, z64⟩, st64⟩ := X54.virtualBack hx (y := (⟨"java/util/ArrayList", "add", "(Ljava/lang/Object;)Z"⟩ : MethodName)) (z := (⟨"java/util/ArrayList", "add", "(Ljava/lang/Object;)Z"⟩ : MethodName)) hown (mvT hZ (own_g hw 157 rfl)) (mvT hZ (own_g hw 158 rfl)) (notFace_of_selects (args := #[]) (mvT hZ (own_g hw 160 rfl))) (mvT hZ (own_g hw 160 rfl)) (mvT hZ (own_g hw 159 rfl)) (by decide) (backOf (W := 0) (rm20_1 l Z a0 hw [] a26 c54 kc54 .null (.ref c53) T54.heap n0 Z54 fq1_54 ge_a26 fq2_54 fq3_54 fq4_54 (Or.inl rfl) fq5_54 fq6_54 ge_c54) hZ (own_g hw 161 rfl) (own_g hw 2 rfl) (by decide) (by decide)) qa64 qc64 (g := (mkF m 151 A28 [.null, (.ref a26)])) rfl (by rw [hml]; show A28.size = _; rw [hA28]; rfl) (Steps.refl _) (argsL := [.null]) (rest := []) (lenOf pd__28Ljava_2flang_2fObject_3b_29Z rfl) rfl (by show 2 * 0 + _ ≤ _; exact Nat.le_of_eq rfl) (hb hby at_151) (fun _ _ => ⟨rfl, rfl, (by decide : 6 + 0 ≤ _), (by decide : 22 + 0 ≤ _)⟩)
              dsimp only [Pt.U, Pt.locs, Pt.cells, Pt.slots] at X64 l64 y64 z64 st64 hQ64
              subst l64 y64 z64
              obtain ⟨rfl, Nq64, Kq64, fq0_64, fq1_64, fq2_64, fq3_64, fq4_64⟩ := hQ64
              have N64 := Fr.app N54 Nq64
              have Z64 : n0 ≤ T64.heap.size := Nat.le_trans Z54 Kq64.1
              have SZ64 : h0.size ≤ T64.heap.size := Nat.le_trans SZ54 Kq64.1
              have S0_64 := own_Sta_keep S0_54 Kq64 (allS (own_ns_exa fq1_54) (allS (own_ns_exa fq7_54) all0))
              have S1_64 := own_Sta_keep S1_54 Kq64 (allS (own_ns_exa fq1_54) (allS (own_ns_exa fq7_54) all0))
              have S2_64 := own_Sta_keep S2_54 Kq64 (allS (own_ns_exa fq1_54) (allS (own_ns_exa fq7_54) all0))
              have S3_64 := own_Sta_keep S3_54 Kq64 (allS (own_ns_exa fq1_54) (allS (own_ns_exa fq7_54) all0))
              have S4_64 := own_Sta_keep S4_54 Kq64 (allS (own_ns_exa fq1_54) (allS (own_ns_exa fq7_54) all0))
              have hk := Nat.le_trans hk Kq64.1
              refine own_trans st64 ?_
              show own_Ends p e below F (T64.setTop (mkF m 154 A28 [(.int (1 : Int32))]))
              refine own_step (fun _ k => XS.pop X64.here hx rfl (hb hby at_154) rfl rfl k) ?_
              show own_Ends p e below F (T64.setTop (mkF m 155 A28 []))
              refine own_step (fun _ k => XS.iload X64.here hx rfl (hb hby at_155) (by rw [hA28]; rfl) k) ?_
              show own_Ends p e below F (T64.setTop (mkF m 157 A28 [(.int (3 : Int32))]))
              refine own_step (fun _ k => XS.iconst X64.here hx rfl (hb hby at_157) k) ?_
              show own_Ends p e below F (T64.setTop (mkF m 158 A28 [(.int (3 : Int32)), (.int (3 : Int32))]))
              refine own_step (fun _ k => XS.icmpNo X64.here hx rfl (hb hby at_158) rfl (flt (by decide : ¬ ((3 : Int32) < (3 : Int32)))).1 k) ?_
              show own_Ends p e below F (T64.setTop (mkF m 161 A28 []))
              refine own_step (fun _ k => XS.aload X64.here hx rfl (hb hby at_161) (by rw [hA28]; rfl) rfl k) ?_
              show own_Ends p e below F (T64.setTop (mkF m 163 A28 [(.ref a26)]))
              refine own_step (fun _ k => XS.iloadN X64.here hx rfl (hb hby at_163) (by rw [hA28]; rfl) k) ?_
              show own_Ends p e below F (T64.setTop (mkF m 164 A28 [(.int p4), (.ref a26)]))
              obtain ⟨_, _, ⟨T65, L65, k65, n65⟩, -, X65, ⟨Lc65, hQ65, l65, y65, z65⟩, st65⟩ := Jvm.LawKit.callS X64 hx (y := (⟨"java/lang/Integer", "valueOf", "(I)Ljava/lang/Integer;"⟩ : MethodName)) hown (mvT hZ (own_g hw 136 rfl)) (mvT hZ (own_g hw 137 rfl)) (mvT hZ (own_g hw 138 rfl)) (mvT hZ (own_g hw 139 rfl)) (by decide) (backOf (W := 1) (rm17 l Z a0 hw [] p4 cc T64.heap n0 Z64 S3_64 S4_64 (((((BC23.ext E26).keep Kq27 (ninS ne_cc_a26 nin0)).keep Kq53 nin0).keep Kq54 (ninS ne_cc_a26 nin0)).keep Kq64 (ninS ne_cc_a26 (ninS ne_cc_c54 nin0)))) hZ (own_g hw 139 rfl) (own_g hw 138 rfl) (by decide) (by decide)) (g := (mkF m 164 A28 [(.int p4), (.ref a26)])) rfl (by rw [hml]; show A28.size = _; rw [hA28]; rfl) (argsL := [(.int p4)]) (rest := [(.ref a26)]) (lenOf pd__28I_29Ljava_2flang_2fInteger_3b rfl) rfl (by show 2 * 0 + _ ≤ _; exact Nat.le_of_eq rfl) (hb hby at_164) (fun _ _ => ⟨rfl, rfl, (by decide : 6 + 1 ≤ _), (by decide : 22 + 1 ≤ _)⟩)
              dsimp only [Pt.U, Pt.locs, Pt.cells, Pt.slots] at X65 l65 y65 z65 st65 hQ65
              subst l65 y65 z65
              obtain ⟨c65, rfl, Nq65, Kq65, fq0_65⟩ := hQ65
              have N65 := Fr.app N64 Nq65
              have Z65 : n0 ≤ T65.heap.size := Nat.le_trans Z64 Kq65.1
              have SZ65 : h0.size ≤ T65.heap.size := Nat.le_trans SZ64 Kq65.1
              have S0_65 := own_Sta_keep S0_64 Kq65 all0
              have S1_65 := own_Sta_keep S1_64 Kq65 all0
              have S2_65 := own_Sta_keep S2_64 Kq65 all0
              have S3_65 := own_Sta_keep S3_64 Kq65 all0
              have S4_65 := own_Sta_keep S4_64 Kq65 all0
              have hk := Nat.le_trans hk Kq65.1
              refine own_step st65 ?_
              show own_Ends p e below F (T65.setTop (mkF m 167 A28 [(.ref c65), (.ref a26)]))
              obtain ⟨cq66, kq66, qa66, qb66, qc66⟩ := isOf (s := (s.setVm vm23)) (T := T65) hZ rfl (fq0_64.keep Kq65)
              obtain ⟨_, _, ⟨T66, L66, k66, n66⟩, -, X66, ⟨Lc66, hQ66, l66, y66, z66⟩, st66⟩ := X65.virtualBack hx (y := (⟨"java/util/ArrayList", "add", "(Ljava/lang/Object;)Z"⟩ : MethodName)) (z := (⟨"java/util/ArrayList", "add", "(Ljava/lang/Object;)Z"⟩ : MethodName)) hown (mvT hZ (own_g hw 157 rfl)) (mvT hZ (own_g hw 158 rfl)) (notFace_of_selects (args := #[]) (mvT hZ (own_g hw 160 rfl))) (mvT hZ (own_g hw 160 rfl)) (mvT hZ (own_g hw 159 rfl)) (by decide) (backOf (W := 0) (rm20_2 l Z a0 hw [] a26 c54 kc54 (.ref c65) (.ref c53) .null T65.heap n0 Z65 (fq0_64.keep Kq65) ge_a26 (fq1_64.keep Kq65 nin0) (fq2_64.keep Kq65 nin0) (fq3_64.keep Kq65 nin0) (Or.inr ⟨_, _, _, rfl, fq0_65, (own_g hw 183 rfl)⟩) (fq4_64.keep Kq65 nin0) fq6_54 ge_c54) hZ (own_g hw 161 rfl) (own_g hw 2 rfl) (by decide) (by decide)) qa66 qc66 (g := (mkF m 167 A28 [(.ref c65), (.ref a26)])) rfl (by rw [hml]; show A28.size = _; rw [hA28]; rfl) (Steps.refl _) (argsL := [(.ref c65)]) (rest := []) (lenOf pd__28Ljava_2flang_2fObject_3b_29Z rfl) rfl (by show 2 * 0 + _ ≤ _; exact Nat.le_of_eq rfl) (hb hby at_167) (fun _ _ => ⟨rfl, rfl, (by decide : 7 + 0 ≤ _), (by decide : 23 + 0 ≤ _)⟩)
              dsimp only [Pt.U, Pt.locs, Pt.cells, Pt.slots] at X66 l66 y66 z66 st66 hQ66
              subst l66 y66 z66
              obtain ⟨rfl, Nq66, Kq66, fq0_66, fq1_66, fq2_66, fq3_66, fq4_66⟩ := hQ66
              have N66 := Fr.app N65 Nq66
              have Z66 : n0 ≤ T66.heap.size := Nat.le_trans Z65 Kq66.1
              have SZ66 : h0.size ≤ T66.heap.size := Nat.le_trans SZ65 Kq66.1
              have S0_66 := own_Sta_keep S0_65 Kq66 (allS (own_ns_exa (fq0_64.keep Kq65)) (allS (own_ns_exa ((fq7_54.keep Kq64).keep Kq65)) all0))
              have S1_66 := own_Sta_keep S1_65 Kq66 (allS (own_ns_exa (fq0_64.keep Kq65)) (allS (own_ns_exa ((fq7_54.keep Kq64).keep Kq65)) all0))
              have S2_66 := own_Sta_keep S2_65 Kq66 (allS (own_ns_exa (fq0_64.keep Kq65)) (allS (own_ns_exa ((fq7_54.keep Kq64).keep Kq65)) all0))
              have S3_66 := own_Sta_keep S3_65 Kq66 (allS (own_ns_exa (fq0_64.keep Kq65)) (allS (own_ns_exa ((fq7_54.keep Kq64).keep Kq65)) all0))
              have S4_66 := own_Sta_keep S4_65 Kq66 (allS (own_ns_exa (fq0_64.keep Kq65)) (allS (own_ns_exa ((fq7_54.keep Kq64).keep Kq65)) all0))
              have hk := Nat.le_trans hk Kq66.1
              refine own_trans st66 ?_
              show own_Ends p e below F (T66.setTop (mkF m 170 A28 [(.int (1 : Int32))]))
              refine own_step (fun _ k => XS.pop X66.here hx rfl (hb hby at_170) rfl rfl k) ?_
              show own_Ends p e below F (T66.setTop (mkF m 171 A28 []))
              obtain ⟨T67, h67, X67, e67, E67, A67, D67, -, st67⟩ := newO X66 hx hZ hown (own_g hw 26 rfl) (own_g hw 27 rfl) (own_g hw 28 rfl) rfl (g := (mkF m 171 A28 [])) rfl (hb hby at_171) (by decide) (by decide)
              obtain ⟨a67, g67⟩ : ∃ z, z = T66.heap.size := ⟨_, rfl⟩
              rw [← g67] at A67 D67 st67
              have ge_a67 : n0 ≤ a67 := Nat.le_trans Z66 (Nat.le_of_eq g67.symm)
              have sz_a67 : h0.size ≤ a67 := Nat.le_trans SZ66 (Nat.le_of_eq g67.symm)
              have ne_dd_a67 : dd ≠ a67 := Nat.ne_of_lt (by rw [g67]; exact (((((((VD23.ext E26).keep Kq27 (ninS ne_dd_a26 nin0)).keep Kq53 nin0).keep Kq54 (ninS ne_dd_a26 nin0)).keep Kq64 (ninS ne_dd_a26 (ninS ne_dd_c54 nin0))).keep Kq65 nin0).keep Kq66 (ninS ne_dd_a26 (ninS ne_dd_c54 nin0))).lt)
              have ne_cc_a67 : cc ≠ a67 := Nat.ne_of_lt (by rw [g67]; exact (((((((BC23.ext E26).keep Kq27 (ninS ne_cc_a26 nin0)).keep Kq53 nin0).keep Kq54 (ninS ne_cc_a26 nin0)).keep Kq64 (ninS ne_cc_a26 (ninS ne_cc_c54 nin0))).keep Kq65 nin0).keep Kq66 (ninS ne_cc_a26 (ninS ne_cc_c54 nin0))).lt)
              have ne_a26_a67 : a26 ≠ a67 := Nat.ne_of_lt (by rw [g67]; exact fq1_66.lt)
              have ne_c53_a67 : c53 ≠ a67 := Nat.ne_of_lt (by rw [g67]; exact ((((fq0_53.keep Kq54).keep Kq64).keep Kq65).keep Kq66).lt)
              have ne_c54_a67 : c54 ≠ a67 := Nat.ne_of_lt (by rw [g67]; exact fq4_66.lt)
              have ne_c65_a67 : c65 ≠ a67 := Nat.ne_of_lt (by rw [g67]; exact (fq0_65.keep Kq66).lt)
              have Z67 : n0 ≤ h67.size := Nat.le_trans Z66 E67.1
              have SZ67 : h0.size ≤ h67.size := Nat.le_trans SZ66 E67.1
              have hk := Nat.le_trans hk E67.1
              have F67_rows : Fld Z h67 a67 "com/example/greater_than/greaterthan/page/Page" "rows" "Ljava/util/List;" .null := D67 (Or.inr (own_g hw 114 rfl)) (ty := (.object "java/util/List")) (by decide)
              have F67_previousCursor : Fld Z h67 a67 "com/example/greater_than/greaterthan/page/Page" "previousCursor" "Ljava/lang/String;" .null := D67 (Or.inr (own_g hw 116 rfl)) (ty := (.object "java/lang/String")) (by decide)
              have F67_nextCursor : Fld Z h67 a67 "com/example/greater_than/greaterthan/page/Page" "nextCursor" "Ljava/lang/String;" .null := D67 (Or.inr (own_g hw 118 rfl)) (ty := (.object "java/lang/String")) (by decide)
              refine own_step st67 ?_
              show own_Ends p e below F (T67.setTop (mkF m 174 A28 [(.ref a67)]))
              refine own_step (fun _ k => XS.dup X67.here hx rfl (hb hby at_174) rfl rfl k) ?_
              show own_Ends p e below F (T67.setTop (mkF m 175 A28 [(.ref a67), (.ref a67)]))
              refine own_step (fun _ k => XS.aload X67.here hx rfl (hb hby at_175) (by rw [hA28]; rfl) rfl k) ?_
              show own_Ends p e below F (T67.setTop (mkF m 177 A28 [(.ref a26), (.ref a67), (.ref a67)]))
              refine own_step (fun _ k => XS.aload X67.here hx rfl (hb hby at_177) (by rw [hA28]; rfl) rfl k) ?_
              show own_Ends p e below F (T67.setTop (mkF m 179 A28 [.null, (.ref a26), (.ref a67), (.ref a67)]))
              refine own_step (fun _ k => XS.aload X67.here hx rfl (hb hby at_179) (by rw [hA28]; rfl) hz21 k) ?_
              show own_Ends p e below F (T67.setTop (mkF m 181 A28 [z21, .null, (.ref a26), (.ref a67), (.ref a67)]))
              obtain ⟨_, _, ⟨T68, L68, k68, n68⟩, -, X68, ⟨Lc68, hQ68, l68, y68, z68⟩, st68⟩ := X67.specialBack hx (y := (⟨"com/example/greater_than/greaterthan/page/Page", "<init>", "(Ljava/util/List;Ljava/lang/String;Ljava/lang/String;)V"⟩ : MethodName)) rfl hown (mvT hZ (own_g hw 29 rfl)) (mvT hZ (own_g hw 30 rfl)) (mvT hZ (own_g hw 31 rfl)) (by decide) (backOf (W := 1) (rm5_3 l Z a0 hw [] a67 a26 c54 kc54 (.ref c53) .null (.ref c65) .null z21 ee ma mu mv mo h67 n0 Z67 A67 ge_a67 F67_rows F67_previousCursor F67_nextCursor (fq4_66.ext E67) ((((fq7_54.keep Kq64).keep Kq65).keep Kq66).ext E67) (Or.inr ⟨_, _, _, rfl, (((((fq0_53.keep Kq54).keep Kq64).keep Kq65).keep Kq66).ext E67), (own_g hw 183 rfl)⟩) (Or.inl rfl) (Or.inr ⟨_, _, _, rfl, ((fq0_65.keep Kq66).ext E67), (own_g hw 183 rfl)⟩) (fq0_66.ext E67) (fq2_66.ext E67) (fq3_66.ext E67) (Sta.ext E67 S2_66) M_ma M_mu M_mv M_mo rfl hz21) hZ (own_g hw 31 rfl) (own_g hw 28 rfl) (by decide) (by decide)) (g := (mkF m 181 A28 [z21, .null, (.ref a26), (.ref a67), (.ref a67)])) rfl (by rw [hml]; show A28.size = _; rw [hA28]; rfl) (Steps.refl _) (a := a67) (argsL := [(.ref a26), .null, z21]) (rest := [(.ref a67)]) (lenOf pd__28Ljava_2futil_2fList_3bLjava_2flang_2fString_3bLjava_2flang_2fString_3b_29V rfl) rfl (by show 2 * 0 + _ ≤ _; exact Nat.le_of_eq rfl) (hb hby at_181) (fun _ _ => ⟨rfl, e67, (by decide : 8 + 3 ≤ _), (by decide : 26 + 8 ≤ _)⟩)
              dsimp only [Pt.U, Pt.locs, Pt.cells, Pt.slots] at X68 l68 y68 z68 st68 hQ68
              subst l68 y68 z68
              obtain ⟨rfl, Nq68, Kq68, fq0_68, fq1_68, fq2_68⟩ := hQ68
              have N68 := Fr.app N66 Nq68
              have Z68 : n0 ≤ T68.heap.size := Nat.le_trans Z67 Kq68.1
              have SZ68 : h0.size ≤ T68.heap.size := Nat.le_trans SZ67 Kq68.1
              have S0_68 := own_Sta_keep (Sta.ext E67 S0_66) Kq68 (allS (own_ns_exa A67) all0)
              have S1_68 := own_Sta_keep (Sta.ext E67 S1_66) Kq68 (allS (own_ns_exa A67) all0)
              have S2_68 := own_Sta_keep (Sta.ext E67 S2_66) Kq68 (allS (own_ns_exa A67) all0)
              have S3_68 := own_Sta_keep (Sta.ext E67 S3_66) Kq68 (allS (own_ns_exa A67) all0)
              have S4_68 := own_Sta_keep (Sta.ext E67 S4_66) Kq68 (allS (own_ns_exa A67) all0)
              have hk := Nat.le_trans hk Kq68.1
              refine own_trans st68 ?_
              show own_Ends p e below F (T68.setTop (mkF m 184 A28 [(.ref a67)]))
              obtain ⟨A69, hA69⟩ : ∃ z : Array Slot, z = #[.val (.int p1), .val (.int p2), .val (.int p3), .val (.int p4), .val (.int p5), .val (.int p6), .val (.int (0 : Int32)), .val (.int z4), .val (.int v9), .val (.int v11), .val (.int (3 : Int32)), .val (.int z15), .val .null, .val z21, .val (.ref a26), .val (.ref a67)] := ⟨_, rfl⟩
              refine own_step (fun _ k => XS.astore X68.here hx rfl (hb hby at_184) rfl rfl (l' := A69) (by rw [hA28, hA69]; exact rfl) k) ?_
              show own_Ends p e below F (T68.setTop (mkF m 186 A69 []))
              refine own_step (fun _ k => XS.aload X68.here hx rfl (hb hby at_186) (by rw [hA69]; rfl) rfl k) ?_
              show own_Ends p e below F (T68.setTop (mkF m 188 A69 [(.ref a67)]))
              obtain ⟨cq70, kq70, qa70, qb70, qc70⟩ := isOf (s := (s.setVm vm23)) (T := T68) hZ rfl fq0_68
              obtain ⟨_, _, ⟨T70, L70, k70, n70⟩, -, X70, ⟨Lc70, hQ70, l70, y70, z70⟩, st70⟩ := X68.virtualBack hx (y := (⟨"com/example/greater_than/greaterthan/page/Page", "hasPrevious", "()Z"⟩ : MethodName)) (z := (⟨"com/example/greater_than/greaterthan/page/Page", "hasPrevious", "()Z"⟩ : MethodName)) hown (mvT hZ (own_g hw 119 rfl)) (mvT hZ (own_g hw 120 rfl)) (notFace_of_selects (args := #[]) (mvT hZ (own_g hw 122 rfl))) (mvT hZ (own_g hw 122 rfl)) (mvT hZ (own_g hw 121 rfl)) (by decide) (backOf (W := 0) (rm15n l Z a0 hw [] a67 T68.heap n0 Z68 fq1_68) hZ (own_g hw 123 rfl) (own_g hw 28 rfl) (by decide) (by decide)) qa70 qc70 (g := (mkF m 188 A69 [(.ref a67)])) rfl (by rw [hml]; show A69.size = _; rw [hA69]; rfl) (Steps.refl _) (argsL := []) (rest := []) (lenOf pd__28_29Z rfl) rfl (by show 2 * 0 + _ ≤ _; exact Nat.le_of_eq rfl) (hb hby at_188) (fun _ _ => ⟨rfl, rfl, (by decide : 11 + 0 ≤ _), (by decide : 34 + 0 ≤ _)⟩)
              dsimp only [Pt.U, Pt.locs, Pt.cells, Pt.slots] at X70 l70 y70 z70 st70 hQ70
              subst l70 y70 z70
              obtain ⟨rfl, Nq70, eq70⟩ := hQ70
              have N70 := Fr.app N68 Nq70
              refine own_trans st70 ?_
              show own_Ends p e below F (T70.setTop (mkF m 191 A69 [(.int (0 : Int32))]))
              refine own_step (fun _ k => XS.iload X70.here hx rfl (hb hby at_191) (by rw [hA69]; rfl) k) ?_
              show own_Ends p e below F (T70.setTop (mkF m 193 A69 [(.int (0 : Int32)), (.int (0 : Int32))]))
              refine own_step (fun _ k => XS.icmpNo X70.here hx rfl (hb hby at_193) rfl (teq (by decide : (0 : Int32) = (0 : Int32))).2 k) ?_
              show own_Ends p e below F (T70.setTop (mkF m 196 A69 []))
              refine own_step (fun _ k => XS.iconst X70.here hx rfl (hb hby at_196) k) ?_
              show own_Ends p e below F (T70.setTop (mkF m 197 A69 [(.int (1 : Int32))]))
              refine own_step (fun _ k => XS.goto X70.here hx rfl (pc0 := 197) (pc' := 201) rfl (hb hby at_197) (by decide) (by decide) k) ?_
              show own_Ends p e below F (T70.setTop (mkF m 201 A69 [(.int (1 : Int32))]))
              rw [hF]
              exact own_retW X70 hS (by rw [eq70]; exact hk) (v := (some (.int (nar .boolean (1 : Int32))))) (fun h => by rw [Bd.returns] at h; cases h) Bd.notSynchronized (fun fs hr => retN X70 hx (t := .boolean) Bd.returns (by simp) (hb hby at_201) hr) (by decide) (by decide) (by rw [eq70]; exact ⟨rfl, N70⟩)
        by_cases c87_71 : z4 = (0 : Int32)
        · refine own_step (fun _ k => XS.ifYes X0.here hx rfl (pc0 := 87) (pc' := 101) rfl (hb hby at_87) rfl ((if0 _ _).trans (teq c87_71).1) (by decide) (by decide) k) ?_
          show own_Ends p e below F (s₁.setTop (mkF m 101 A20 []))
          refine own_step (fun _ k => XS.aconstNull X0.here hx rfl (hb hby at_101) k) ?_
          show own_Ends p e below F (s₁.setTop (mkF m 102 A20 [.null]))
          rw [hA20]
          exact J87_22 _ _ _ _ (own_mono X0 (by decide) (by decide)) e0 N0 _ rfl Z0 (Nat.le_refl h0.size) hZ hown _ hS hk SC SD SE SH SK VD XD BC
        · refine own_step (fun _ k => XS.ifNo X0.here hx rfl (hb hby at_87) rfl ((if0 _ _).trans (feq c87_71).1) k) ?_
          show own_Ends p e below F (s₁.setTop (mkF m 90 A20 []))
          refine own_step (fun _ k => XS.iload X0.here hx rfl (hb hby at_90) (by rw [hA20]; rfl) k) ?_
          show own_Ends p e below F (s₁.setTop (mkF m 92 A20 [(.int v11)]))
          refine own_step (fun _ k => XS.iloadN X0.here hx rfl (hb hby at_92) (by rw [hA20]; rfl) k) ?_
          show own_Ends p e below F (s₁.setTop (mkF m 93 A20 [(.int p4), (.int v11)]))
          refine own_step (fun _ k => XS.iload X0.here hx rfl (hb hby at_93) (by rw [hA20]; rfl) k) ?_
          show own_Ends p e below F (s₁.setTop (mkF m 95 A20 [(.int p5), (.int p4), (.int v11)]))
          obtain ⟨_, _, ⟨T72, L72, k72, n72⟩, -, X72, hS72, gr72, ⟨Lc72, hQ72, l72, y72, z72⟩, st72⟩ := callSS X0 hx (y := (⟨"com/example/greater_than/greaterthan/page/PageHasPreviousPinLaw", "drawn", "(III)Ljava/lang/String;"⟩ : MethodName)) hown (mvT hZ (own_g hw 124 rfl)) (mvT hZ (own_g hw 125 rfl)) (mvT hZ (own_g hw 126 rfl)) (mvT hZ (own_g hw 127 rfl)) (by decide) (backOfS (W := 0) (rm16 l Z a0 hw [] v11 p4 p5 zc h0 n0 Z0 SC hz) hZ (own_g hw 127 rfl) (own_g hw 126 rfl) (by decide) (by decide)) (g := (mkF m 95 A20 [(.int p5), (.int p4), (.int v11)])) rfl (by rw [hml]; show A20.size = _; rw [hA20]; rfl) (argsL := [(.int v11), (.int p4), (.int p5)]) (rest := []) (lenOf pd__28III_29Ljava_2flang_2fString_3b rfl) rfl (by show 2 * 0 + _ ≤ _; exact Nat.le_of_eq rfl) (hb hby at_95) (fun _ _ => ⟨rfl, e0, (by decide : 0 + 3 ≤ _), (by decide : 0 + 8 ≤ _)⟩)
          dsimp only [Pt.U, Pt.locs, Pt.cells, Pt.slots] at X72 l72 y72 z72 st72 hQ72 hS72 gr72
          subst l72 y72 z72
          obtain ⟨c72, rfl, Nq72, Kq72⟩ := hQ72
          have N72 := Fr.app N0 Nq72
          have Z72 : n0 ≤ T72.heap.size := Nat.le_trans Z0 Kq72.1
          have SZ72 : h0.size ≤ T72.heap.size := Nat.le_trans (Nat.le_refl h0.size) Kq72.1
          have S0_72 := own_Sta_keep SC Kq72 all0
          have S1_72 := own_Sta_keep SD Kq72 all0
          have S2_72 := own_Sta_keep SE Kq72 all0
          have S3_72 := own_Sta_keep SH Kq72 all0
          have S4_72 := own_Sta_keep SK Kq72 all0
          have hZ := own_warm hZ hS72
          have hown := own_find hown hS72
          have hS := foldS hS (by rw [e0]; exact hk) hS72 gr72
          have hk := Nat.le_refl T72.heap.size
          refine own_trans st72 ?_
          show own_Ends p e below F (T72.setTop (mkF m 98 A20 [(.ref c72)]))
          refine own_step (fun _ k => XS.goto X72.here hx rfl (pc0 := 98) (pc' := 102) rfl (hb hby at_98) (by decide) (by decide) k) ?_
          show own_Ends p e below F (T72.setTop (mkF m 102 A20 [(.ref c72)]))
          rw [hA20]
          exact J87_22 _ _ _ _ X72 rfl N72 _ rfl Z72 SZ72 hZ hown _ hS hk S0_72 S1_72 S2_72 S3_72 S4_72 (VD.keep Kq72 nin0) (XD.keep Kq72) (BC.keep Kq72 nin0)
      by_cases c57_73 : (p1 &&& (256 : Int32)) = (0 : Int32)
      · refine own_step (fun _ k => XS.ifYes X0.here hx rfl (pc0 := 57) (pc' := 64) rfl (hb hby at_57) rfl ((if0 _ _).trans (teq c57_73).1) (by decide) (by decide) k) ?_
        show own_Ends p e below F (s₁.setTop (mkF m 64 A14 []))
        refine own_step (fun _ k => XS.iconst X0.here hx rfl (hb hby at_64) k) ?_
        show own_Ends p e below F (s₁.setTop (mkF m 65 A14 [(.int (0 : Int32))]))
        rw [hA14]
        exact J57_16 _ (by simp only [if_true, if_false, c57_73])
      · refine own_step (fun _ k => XS.ifNo X0.here hx rfl (hb hby at_57) rfl ((if0 _ _).trans (feq c57_73).1) k) ?_
        show own_Ends p e below F (s₁.setTop (mkF m 60 A14 []))
        refine own_step (fun _ k => XS.iconst X0.here hx rfl (hb hby at_60) k) ?_
        show own_Ends p e below F (s₁.setTop (mkF m 61 A14 [(.int (1 : Int32))]))
        refine own_step (fun _ k => XS.goto X0.here hx rfl (pc0 := 61) (pc' := 65) rfl (hb hby at_61) (by decide) (by decide) k) ?_
        show own_Ends p e below F (s₁.setTop (mkF m 65 A14 [(.int (1 : Int32))]))
        rw [hA14]
        exact J57_16 _ (by simp only [if_true, if_false, c57_73])
    by_cases c16_74 : (p1 &&& (2 : Int32)) = (0 : Int32)
    · refine own_step (fun _ k => XS.ifYes X0.here hx rfl (pc0 := 16) (pc' := 23) rfl (hb hby at_16) rfl ((if0 _ _).trans (teq c16_74).1) (by decide) (by decide) k) ?_
      show own_Ends p e below F (s₁.setTop (mkF m 23 A3 []))
      refine own_step (fun _ k => XS.iconst X0.here hx rfl (hb hby at_23) k) ?_
      show own_Ends p e below F (s₁.setTop (mkF m 24 A3 [(.int (0 : Int32))]))
      rw [hA3]
      exact J16_5 _ (by simp only [if_true, if_false, c16_74])
    · refine own_step (fun _ k => XS.ifNo X0.here hx rfl (hb hby at_16) rfl ((if0 _ _).trans (feq c16_74).1) k) ?_
      show own_Ends p e below F (s₁.setTop (mkF m 19 A3 []))
      refine own_step (fun _ k => XS.iconst X0.here hx rfl (hb hby at_19) k) ?_
      show own_Ends p e below F (s₁.setTop (mkF m 20 A3 [(.int (1 : Int32))]))
      refine own_step (fun _ k => XS.goto X0.here hx rfl (pc0 := 20) (pc' := 24) rfl (hb hby at_20) (by decide) (by decide) k) ?_
      show own_Ends p e below F (s₁.setTop (mkF m 24 A3 [(.int (1 : Int32))]))
      rw [hA3]
      exact J16_5 _ (by simp only [if_true, if_false, c16_74])
  · refine own_step (fun _ k => XS.ifNo X0.here hx rfl (hb hby at_3) rfl ((if0 _ _).trans (feq c3_2).1) k) ?_
    show own_Ends p e below F (s₁.setTop (mkF m 6 A1 []))
    refine own_step (fun _ k => XS.iconst X0.here hx rfl (hb hby at_6) k) ?_
    show own_Ends p e below F (s₁.setTop (mkF m 7 A1 [(.int (1 : Int32))]))
    refine own_step (fun _ k => XS.goto X0.here hx rfl (pc0 := 7) (pc' := 11) rfl (hb hby at_7) (by decide) (by decide) k) ?_
    show own_Ends p e below F (s₁.setTop (mkF m 11 A1 [(.int (1 : Int32))]))
    obtain ⟨A75, hA75⟩ : ∃ z : Array Slot, z = #[.val (.int p1), .val (.int p2), .val (.int p3), .val (.int p4), .val (.int p5), .val (.int p6), .val (.int (1 : Int32)), .unset, .unset, .unset, .unset, .unset, .unset, .unset, .unset, .unset] := ⟨_, rfl⟩
    refine own_step (fun _ k => XS.istore X0.here hx rfl (hb hby at_11) rfl (l' := A75) (by rw [hA1, hA75]; exact rfl) k) ?_
    show own_Ends p e below F (s₁.setTop (mkF m 13 A75 []))
    refine own_step (fun _ k => XS.iloadN X0.here hx rfl (hb hby at_13) (by rw [hA75]; rfl) k) ?_
    show own_Ends p e below F (s₁.setTop (mkF m 14 A75 [(.int p1)]))
    refine own_step (fun _ k => XS.iconst X0.here hx rfl (hb hby at_14) k) ?_
    show own_Ends p e below F (s₁.setTop (mkF m 15 A75 [(.int (2 : Int32)), (.int p1)]))
    refine own_step (fun _ k => XS.iand X0.here hx rfl (hb hby at_15) rfl k) ?_
    show own_Ends p e below F (s₁.setTop (mkF m 16 A75 [(.int (p1 &&& (2 : Int32)))]))
    have J16_77 : ∀ (z76 : Int32) (hz76 : z76 = (if (p1 &&& (2 : Int32)) = (0 : Int32) then (0 : Int32) else (1 : Int32))), own_Ends p e below F (s₁.setTop (mkF m 24 #[.val (.int p1), .val (.int p2), .val (.int p3), .val (.int p4), .val (.int p5), .val (.int p6), .val (.int (1 : Int32)), .unset, .unset, .unset, .unset, .unset, .unset, .unset, .unset, .unset] [(.int z76)])) := by
      intro z76 hz76
      obtain ⟨A79, hA79⟩ : ∃ z : Array Slot, z = #[.val (.int p1), .val (.int p2), .val (.int p3), .val (.int p4), .val (.int p5), .val (.int p6), .val (.int (1 : Int32)), .unset, .unset, .unset, .unset, .unset, .unset, .unset, .unset, .unset] := ⟨_, rfl⟩
      rw [← hA79]
      show own_Ends p e below F (s₁.setTop (mkF m 24 A79 [(.int z76)]))
      obtain ⟨A80, hA80⟩ : ∃ z : Array Slot, z = #[.val (.int p1), .val (.int p2), .val (.int p3), .val (.int p4), .val (.int p5), .val (.int p6), .val (.int (1 : Int32)), .val (.int z76), .unset, .unset, .unset, .unset, .unset, .unset, .unset, .unset] := ⟨_, rfl⟩
      refine own_step (fun _ k => XS.istore X0.here hx rfl (hb hby at_24) rfl (l' := A80) (by rw [hA79, hA80]; exact rfl) k) ?_
      show own_Ends p e below F (s₁.setTop (mkF m 26 A80 []))
      refine own_step (fun _ k => XS.iloadN X0.here hx rfl (hb hby at_26) (by rw [hA80]; rfl) k) ?_
      show own_Ends p e below F (s₁.setTop (mkF m 27 A80 [(.int p1)]))
      refine own_step (fun _ k => XS.iconst X0.here hx rfl (hb hby at_27) k) ?_
      show own_Ends p e below F (s₁.setTop (mkF m 28 A80 [(.int (2 : Int32)), (.int p1)]))
      refine own_step (fun _ k => XS.iushr X0.here hx rfl (hb hby at_28) rfl k) ?_
      show own_Ends p e below F (s₁.setTop (mkF m 29 A80 [(.int ((p1.toUInt32 >>> ((2 : Int32) &&& 31).toUInt32).toInt32))]))
      refine own_step (fun _ k => XS.iconst X0.here hx rfl (hb hby at_29) k) ?_
      show own_Ends p e below F (s₁.setTop (mkF m 30 A80 [(.int (3 : Int32)), (.int ((p1.toUInt32 >>> ((2 : Int32) &&& 31).toUInt32).toInt32))]))
      refine own_step (fun _ k => XS.iand X0.here hx rfl (hb hby at_30) rfl k) ?_
      show own_Ends p e below F (s₁.setTop (mkF m 31 A80 [(.int (((p1.toUInt32 >>> ((2 : Int32) &&& 31).toUInt32).toInt32) &&& (3 : Int32)))]))
      refine own_step (fun _ k => XS.iconst X0.here hx rfl (hb hby at_31) k) ?_
      show own_Ends p e below F (s₁.setTop (mkF m 32 A80 [(.int (3 : Int32)), (.int (((p1.toUInt32 >>> ((2 : Int32) &&& 31).toUInt32).toInt32) &&& (3 : Int32)))]))
      refine own_step (fun _ k => iremM (below := below) X0 hx rfl (hb hby at_32) rfl (by decide) k) ?_
      show own_Ends p e below F (s₁.setTop (mkF m 33 A80 [(.int ((((p1.toUInt32 >>> ((2 : Int32) &&& 31).toUInt32).toInt32) &&& (3 : Int32)) % (3 : Int32)))]))
      obtain ⟨v81, ev81⟩ : ∃ z : Int32, z = ((((p1.toUInt32 >>> ((2 : Int32) &&& 31).toUInt32).toInt32) &&& (3 : Int32)) % (3 : Int32)) := ⟨_, rfl⟩
      rw [← ev81]
      show own_Ends p e below F (s₁.setTop (mkF m 33 A80 [(.int v81)]))
      obtain ⟨A82, hA82⟩ : ∃ z : Array Slot, z = #[.val (.int p1), .val (.int p2), .val (.int p3), .val (.int p4), .val (.int p5), .val (.int p6), .val (.int (1 : Int32)), .val (.int z76), .val (.int v81), .unset, .unset, .unset, .unset, .unset, .unset, .unset] := ⟨_, rfl⟩
      refine own_step (fun _ k => XS.istore X0.here hx rfl (hb hby at_33) rfl (l' := A82) (by rw [hA80, hA82]; exact rfl) k) ?_
      show own_Ends p e below F (s₁.setTop (mkF m 35 A82 []))
      refine own_step (fun _ k => XS.iloadN X0.here hx rfl (hb hby at_35) (by rw [hA82]; rfl) k) ?_
      show own_Ends p e below F (s₁.setTop (mkF m 36 A82 [(.int p1)]))
      refine own_step (fun _ k => XS.iconst X0.here hx rfl (hb hby at_36) k) ?_
      show own_Ends p e below F (s₁.setTop (mkF m 37 A82 [(.int (4 : Int32)), (.int p1)]))
      refine own_step (fun _ k => XS.iushr X0.here hx rfl (hb hby at_37) rfl k) ?_
      show own_Ends p e below F (s₁.setTop (mkF m 38 A82 [(.int ((p1.toUInt32 >>> ((4 : Int32) &&& 31).toUInt32).toInt32))]))
      refine own_step (fun _ k => XS.iconst X0.here hx rfl (hb hby at_38) k) ?_
      show own_Ends p e below F (s₁.setTop (mkF m 39 A82 [(.int (3 : Int32)), (.int ((p1.toUInt32 >>> ((4 : Int32) &&& 31).toUInt32).toInt32))]))
      refine own_step (fun _ k => XS.iand X0.here hx rfl (hb hby at_39) rfl k) ?_
      show own_Ends p e below F (s₁.setTop (mkF m 40 A82 [(.int (((p1.toUInt32 >>> ((4 : Int32) &&& 31).toUInt32).toInt32) &&& (3 : Int32)))]))
      refine own_step (fun _ k => XS.iconst X0.here hx rfl (hb hby at_40) k) ?_
      show own_Ends p e below F (s₁.setTop (mkF m 41 A82 [(.int (3 : Int32)), (.int (((p1.toUInt32 >>> ((4 : Int32) &&& 31).toUInt32).toInt32) &&& (3 : Int32)))]))
      refine own_step (fun _ k => iremM (below := below) X0 hx rfl (hb hby at_41) rfl (by decide) k) ?_
      show own_Ends p e below F (s₁.setTop (mkF m 42 A82 [(.int ((((p1.toUInt32 >>> ((4 : Int32) &&& 31).toUInt32).toInt32) &&& (3 : Int32)) % (3 : Int32)))]))
      obtain ⟨v83, ev83⟩ : ∃ z : Int32, z = ((((p1.toUInt32 >>> ((4 : Int32) &&& 31).toUInt32).toInt32) &&& (3 : Int32)) % (3 : Int32)) := ⟨_, rfl⟩
      rw [← ev83]
      show own_Ends p e below F (s₁.setTop (mkF m 42 A82 [(.int v83)]))
      obtain ⟨A84, hA84⟩ : ∃ z : Array Slot, z = #[.val (.int p1), .val (.int p2), .val (.int p3), .val (.int p4), .val (.int p5), .val (.int p6), .val (.int (1 : Int32)), .val (.int z76), .val (.int v81), .val (.int v83), .unset, .unset, .unset, .unset, .unset, .unset] := ⟨_, rfl⟩
      refine own_step (fun _ k => XS.istore X0.here hx rfl (hb hby at_42) rfl (l' := A84) (by rw [hA82, hA84]; exact rfl) k) ?_
      show own_Ends p e below F (s₁.setTop (mkF m 44 A84 []))
      refine own_step (fun _ k => XS.iloadN X0.here hx rfl (hb hby at_44) (by rw [hA84]; rfl) k) ?_
      show own_Ends p e below F (s₁.setTop (mkF m 45 A84 [(.int p1)]))
      refine own_step (fun _ k => XS.bipush X0.here hx rfl (hb hby at_45) k) ?_
      show own_Ends p e below F (s₁.setTop (mkF m 47 A84 [(.int (6 : Int32)), (.int p1)]))
      refine own_step (fun _ k => XS.iushr X0.here hx rfl (hb hby at_47) rfl k) ?_
      show own_Ends p e below F (s₁.setTop (mkF m 48 A84 [(.int ((p1.toUInt32 >>> ((6 : Int32) &&& 31).toUInt32).toInt32))]))
      refine own_step (fun _ k => XS.iconst X0.here hx rfl (hb hby at_48) k) ?_
      show own_Ends p e below F (s₁.setTop (mkF m 49 A84 [(.int (3 : Int32)), (.int ((p1.toUInt32 >>> ((6 : Int32) &&& 31).toUInt32).toInt32))]))
      refine own_step (fun _ k => XS.iand X0.here hx rfl (hb hby at_49) rfl k) ?_
      show own_Ends p e below F (s₁.setTop (mkF m 50 A84 [(.int (((p1.toUInt32 >>> ((6 : Int32) &&& 31).toUInt32).toInt32) &&& (3 : Int32)))]))
      obtain ⟨v85, ev85⟩ : ∃ z : Int32, z = (((p1.toUInt32 >>> ((6 : Int32) &&& 31).toUInt32).toInt32) &&& (3 : Int32)) := ⟨_, rfl⟩
      rw [← ev85]
      show own_Ends p e below F (s₁.setTop (mkF m 50 A84 [(.int v85)]))
      obtain ⟨A86, hA86⟩ : ∃ z : Array Slot, z = #[.val (.int p1), .val (.int p2), .val (.int p3), .val (.int p4), .val (.int p5), .val (.int p6), .val (.int (1 : Int32)), .val (.int z76), .val (.int v81), .val (.int v83), .val (.int v85), .unset, .unset, .unset, .unset, .unset] := ⟨_, rfl⟩
      refine own_step (fun _ k => XS.istore X0.here hx rfl (hb hby at_50) rfl (l' := A86) (by rw [hA84, hA86]; exact rfl) k) ?_
      show own_Ends p e below F (s₁.setTop (mkF m 52 A86 []))
      refine own_step (fun _ k => XS.iloadN X0.here hx rfl (hb hby at_52) (by rw [hA86]; rfl) k) ?_
      show own_Ends p e below F (s₁.setTop (mkF m 53 A86 [(.int p1)]))
      refine own_step (fun _ k => XS.sipush X0.here hx rfl (hb hby at_53) k) ?_
      show own_Ends p e below F (s₁.setTop (mkF m 56 A86 [(.int (256 : Int32)), (.int p1)]))
      refine own_step (fun _ k => XS.iand X0.here hx rfl (hb hby at_56) rfl k) ?_
      show own_Ends p e below F (s₁.setTop (mkF m 57 A86 [(.int (p1 &&& (256 : Int32)))]))
      have J57_88 : ∀ (z87 : Int32) (hz87 : z87 = (if (p1 &&& (256 : Int32)) = (0 : Int32) then (0 : Int32) else (1 : Int32))), own_Ends p e below F (s₁.setTop (mkF m 65 #[.val (.int p1), .val (.int p2), .val (.int p3), .val (.int p4), .val (.int p5), .val (.int p6), .val (.int (1 : Int32)), .val (.int z76), .val (.int v81), .val (.int v83), .val (.int v85), .unset, .unset, .unset, .unset, .unset] [(.int z87)])) := by
        intro z87 hz87
        obtain ⟨A90, hA90⟩ : ∃ z : Array Slot, z = #[.val (.int p1), .val (.int p2), .val (.int p3), .val (.int p4), .val (.int p5), .val (.int p6), .val (.int (1 : Int32)), .val (.int z76), .val (.int v81), .val (.int v83), .val (.int v85), .unset, .unset, .unset, .unset, .unset] := ⟨_, rfl⟩
        rw [← hA90]
        show own_Ends p e below F (s₁.setTop (mkF m 65 A90 [(.int z87)]))
        obtain ⟨A91, hA91⟩ : ∃ z : Array Slot, z = #[.val (.int p1), .val (.int p2), .val (.int p3), .val (.int p4), .val (.int p5), .val (.int p6), .val (.int (1 : Int32)), .val (.int z76), .val (.int v81), .val (.int v83), .val (.int v85), .val (.int z87), .unset, .unset, .unset, .unset] := ⟨_, rfl⟩
        refine own_step (fun _ k => XS.istore X0.here hx rfl (hb hby at_65) rfl (l' := A91) (by rw [hA90, hA91]; exact rfl) k) ?_
        show own_Ends p e below F (s₁.setTop (mkF m 67 A91 []))
        refine own_step (fun _ k => XS.iload X0.here hx rfl (hb hby at_67) (by rw [hA91]; rfl) k) ?_
        show own_Ends p e below F (s₁.setTop (mkF m 69 A91 [(.int (1 : Int32))]))
        refine own_step (fun _ k => XS.ifNo X0.here hx rfl (hb hby at_69) rfl ((if0 _ _).trans (feq (by decide : ¬ ((1 : Int32) = (0 : Int32)))).1) k) ?_
        show own_Ends p e below F (s₁.setTop (mkF m 72 A91 []))
        refine own_step (fun _ k => XS.iload X0.here hx rfl (hb hby at_72) (by rw [hA91]; rfl) k) ?_
        show own_Ends p e below F (s₁.setTop (mkF m 74 A91 [(.int v81)]))
        refine own_step (fun _ k => XS.iloadN X0.here hx rfl (hb hby at_74) (by rw [hA91]; rfl) k) ?_
        show own_Ends p e below F (s₁.setTop (mkF m 75 A91 [(.int p2), (.int v81)]))
        refine own_step (fun _ k => XS.iloadN X0.here hx rfl (hb hby at_75) (by rw [hA91]; rfl) k) ?_
        show own_Ends p e below F (s₁.setTop (mkF m 76 A91 [(.int p3), (.int p2), (.int v81)]))
        obtain ⟨_, _, ⟨T92, L92, k92, n92⟩, -, X92, hS92, gr92, ⟨Lc92, hQ92, l92, y92, z92⟩, st92⟩ := callSS X0 hx (y := (⟨"com/example/greater_than/greaterthan/page/PageHasPreviousPinLaw", "drawn", "(III)Ljava/lang/String;"⟩ : MethodName)) hown (mvT hZ (own_g hw 124 rfl)) (mvT hZ (own_g hw 125 rfl)) (mvT hZ (own_g hw 126 rfl)) (mvT hZ (own_g hw 127 rfl)) (by decide) (backOfS (W := 0) (rm16 l Z a0 hw [] v81 p2 p3 zc h0 n0 Z0 SC hz) hZ (own_g hw 127 rfl) (own_g hw 126 rfl) (by decide) (by decide)) (g := (mkF m 76 A91 [(.int p3), (.int p2), (.int v81)])) rfl (by rw [hml]; show A91.size = _; rw [hA91]; rfl) (argsL := [(.int v81), (.int p2), (.int p3)]) (rest := []) (lenOf pd__28III_29Ljava_2flang_2fString_3b rfl) rfl (by show 2 * 0 + _ ≤ _; exact Nat.le_of_eq rfl) (hb hby at_76) (fun _ _ => ⟨rfl, e0, (by decide : 0 + 3 ≤ _), (by decide : 0 + 8 ≤ _)⟩)
        dsimp only [Pt.U, Pt.locs, Pt.cells, Pt.slots] at X92 l92 y92 z92 st92 hQ92 hS92 gr92
        subst l92 y92 z92
        obtain ⟨c92, rfl, Nq92, Kq92⟩ := hQ92
        have N92 := Fr.app N0 Nq92
        have Z92 : n0 ≤ T92.heap.size := Nat.le_trans Z0 Kq92.1
        have SZ92 : h0.size ≤ T92.heap.size := Nat.le_trans (Nat.le_refl h0.size) Kq92.1
        have S0_92 := own_Sta_keep SC Kq92 all0
        have S1_92 := own_Sta_keep SD Kq92 all0
        have S2_92 := own_Sta_keep SE Kq92 all0
        have S3_92 := own_Sta_keep SH Kq92 all0
        have S4_92 := own_Sta_keep SK Kq92 all0
        have hZ := own_warm hZ hS92
        have hown := own_find hown hS92
        have hS := foldS hS (by rw [e0]; exact hk) hS92 gr92
        have hk := Nat.le_refl T92.heap.size
        refine own_trans st92 ?_
        show own_Ends p e below F (T92.setTop (mkF m 79 A91 [(.ref c92)]))
        refine own_step (fun _ k => XS.goto X92.here hx rfl (pc0 := 79) (pc' := 83) rfl (hb hby at_79) (by decide) (by decide) k) ?_
        show own_Ends p e below F (T92.setTop (mkF m 83 A91 [(.ref c92)]))
        obtain ⟨A93, hA93⟩ : ∃ z : Array Slot, z = #[.val (.int p1), .val (.int p2), .val (.int p3), .val (.int p4), .val (.int p5), .val (.int p6), .val (.int (1 : Int32)), .val (.int z76), .val (.int v81), .val (.int v83), .val (.int v85), .val (.int z87), .val (.ref c92), .unset, .unset, .unset] := ⟨_, rfl⟩
        refine own_step (fun _ k => XS.astore X92.here hx rfl (hb hby at_83) rfl rfl (l' := A93) (by rw [hA91, hA93]; exact rfl) k) ?_
        show own_Ends p e below F (T92.setTop (mkF m 85 A93 []))
        refine own_step (fun _ k => XS.iload X92.here hx rfl (hb hby at_85) (by rw [hA93]; rfl) k) ?_
        show own_Ends p e below F (T92.setTop (mkF m 87 A93 [(.int z76)]))
        have J87_95 : ∀ (vm96 : Vm) (T96 : State) (l96 : List Loc) (h96 : Heap) (X96 : Stand p l e room_1 (s.setVm vm96) m #[(.int p1), (.int p2), (.int p3), (.int p4), (.int p5), (.int p6)] below meth c T96 l96 6 16) (e96 : T96.heap = h96) (N96 : Fr n0 l96) (z94 : Value) (hz94 : z94.isRef = true) (Z96 : n0 ≤ h96.size) (SZ96 : h0.size ≤ h96.size) (hZ : Z.Warmed39 vm96) (hown : vm96.findClass "com/example/greater_than/greaterthan/page/PageHasPreviousPinLaw" = some m.cls) (kk96 : Nat) (hS : s.Since vm96 kk96) (hk : kk96 ≤ h96.size) (SC96 : Sta Z h96 "java/lang/String" "COMPACT_STRINGS" "Z" (.int zc)) (SD96 : Sta Z h96 "java/util/ArrayList" "DEFAULTCAPACITY_EMPTY_ELEMENTDATA" "[Ljava/lang/Object;" (.ref dd)) (SE96 : Sta Z h96 "java/util/ArrayList" "EMPTY_ELEMENTDATA" "[Ljava/lang/Object;" (.ref ee)) (SH96 : Sta Z h96 "java/lang/Integer$IntegerCache" "high" "I" (.int (127 : Int32))) (SK96 : Sta Z h96 "java/lang/Integer$IntegerCache" "cache" "[Ljava/lang/Integer;" (.ref cc)) (VD96 : Arv Z h96 dd kd (.object "java/lang/Object") (0 : Int32) [] .null) (XD96 : Exa Z h96 dd "[Ljava/lang/Object;") (BC96 : own_Bx Z h96 cc), own_Ends p e below F (T96.setTop (mkF m 102 #[.val (.int p1), .val (.int p2), .val (.int p3), .val (.int p4), .val (.int p5), .val (.int p6), .val (.int (1 : Int32)), .val (.int z76), .val (.int v81), .val (.int v83), .val (.int v85), .val (.int z87), .val (.ref c92), .unset, .unset, .unset] [z94])) := by
          intro vm96 T96 l96 h96 X96 e96 N96 z94 hz94 Z96 SZ96 hZ hown kk96 hS hk SC96 SD96 SE96 SH96 SK96 VD96 XD96 BC96
          obtain ⟨A97, hA97⟩ : ∃ z : Array Slot, z = #[.val (.int p1), .val (.int p2), .val (.int p3), .val (.int p4), .val (.int p5), .val (.int p6), .val (.int (1 : Int32)), .val (.int z76), .val (.int v81), .val (.int v83), .val (.int v85), .val (.int z87), .val (.ref c92), .unset, .unset, .unset] := ⟨_, rfl⟩
          rw [← hA97]
          show own_Ends p e below F (T96.setTop (mkF m 102 A97 [z94]))
          obtain ⟨A98, hA98⟩ : ∃ z : Array Slot, z = #[.val (.int p1), .val (.int p2), .val (.int p3), .val (.int p4), .val (.int p5), .val (.int p6), .val (.int (1 : Int32)), .val (.int z76), .val (.int v81), .val (.int v83), .val (.int v85), .val (.int z87), .val (.ref c92), .val z94, .unset, .unset] := ⟨_, rfl⟩
          refine own_step (fun _ k => XS.astore X96.here hx rfl (hb hby at_102) rfl hz94 (l' := A98) (by rw [hA97, hA98]; exact (XS.store1 (o := .unset) rfl (Or.inl rfl) (own_catR hz94))) k) ?_
          show own_Ends p e below F (T96.setTop (mkF m 104 A98 []))
          obtain ⟨T99, h99, X99, e99, E99, A99, D99, -, st99⟩ := newO X96 hx hZ hown (own_g hw 0 rfl) (own_g hw 1 rfl) (own_g hw 2 rfl) e96 (g := (mkF m 104 A98 [])) rfl (hb hby at_104) (by decide) (by decide)
          obtain ⟨a99, g99⟩ : ∃ z, z = h96.size := ⟨_, rfl⟩
          rw [← g99] at A99 D99 st99
          have ge_a99 : n0 ≤ a99 := Nat.le_trans Z96 (Nat.le_of_eq g99.symm)
          have sz_a99 : h0.size ≤ a99 := Nat.le_trans SZ96 (Nat.le_of_eq g99.symm)
          have ne_dd_a99 : dd ≠ a99 := Nat.ne_of_lt (by rw [g99]; exact VD96.lt)
          have ne_cc_a99 : cc ≠ a99 := Nat.ne_of_lt (by rw [g99]; exact BC96.lt)
          have Z99 : n0 ≤ h99.size := Nat.le_trans Z96 E99.1
          have SZ99 : h0.size ≤ h99.size := Nat.le_trans SZ96 E99.1
          have hk := Nat.le_trans hk E99.1
          have F99_modCount : Fld Z h99 a99 "java/util/AbstractList" "modCount" "I" (.int (0 : Int32)) := D99 (Or.inl (own_g hw 22 rfl)) (ty := .int) (by decide)
          have F99_elementData : Fld Z h99 a99 "java/util/ArrayList" "elementData" "[Ljava/lang/Object;" .null := D99 (Or.inl (own_g hw 25 rfl)) (ty := (.array (.object "java/lang/Object"))) (by decide)
          have F99_size : Fld Z h99 a99 "java/util/ArrayList" "size" "I" (.int (0 : Int32)) := D99 (Or.inl (own_g hw 47 rfl)) (ty := .int) (by decide)
          refine own_step st99 ?_
          show own_Ends p e below F (T99.setTop (mkF m 107 A98 [(.ref a99)]))
          refine own_step (fun _ k => XS.dup X99.here hx rfl (hb hby at_107) rfl rfl k) ?_
          show own_Ends p e below F (T99.setTop (mkF m 108 A98 [(.ref a99), (.ref a99)]))
          obtain ⟨_, _, ⟨T100, L100, k100, n100⟩, -, X100, ⟨Lc100, hQ100, l100, y100, z100⟩, st100⟩ := X99.specialBack hx (y := (⟨"java/util/ArrayList", "<init>", "()V"⟩ : MethodName)) rfl hown (mvT hZ (own_g hw 3 rfl)) (mvT hZ (own_g hw 4 rfl)) (mvT hZ (own_g hw 5 rfl)) (by decide) (backOf (W := 1) (rm1 l Z a0 hw [] a99 dd h99 n0 Z99 A99 ge_a99 F99_modCount F99_elementData F99_size (Sta.ext E99 SD96)) hZ (own_g hw 5 rfl) (own_g hw 2 rfl) (by decide) (by decide)) (g := (mkF m 108 A98 [(.ref a99), (.ref a99)])) rfl (by rw [hml]; show A98.size = _; rw [hA98]; rfl) (Steps.refl _) (a := a99) (argsL := []) (rest := [(.ref a99)]) (lenOf pd__28_29V rfl) rfl (by show 2 * 0 + _ ≤ _; exact Nat.le_of_eq rfl) (hb hby at_108) (fun _ _ => ⟨rfl, e99, (by decide : 7 + 0 ≤ _), (by decide : 19 + 0 ≤ _)⟩)
          dsimp only [Pt.U, Pt.locs, Pt.cells, Pt.slots] at X100 l100 y100 z100 st100 hQ100
          subst l100 y100 z100
          obtain ⟨rfl, Nq100, Kq100, fq0_100, fq1_100, fq2_100, fq3_100⟩ := hQ100
          have N100 := Fr.app N96 Nq100
          have Z100 : n0 ≤ T100.heap.size := Nat.le_trans Z99 Kq100.1
          have SZ100 : h0.size ≤ T100.heap.size := Nat.le_trans SZ99 Kq100.1
          have S0_100 := own_Sta_keep (Sta.ext E99 SC96) Kq100 (allS (own_ns_exa A99) all0)
          have S1_100 := own_Sta_keep (Sta.ext E99 SD96) Kq100 (allS (own_ns_exa A99) all0)
          have S2_100 := own_Sta_keep (Sta.ext E99 SE96) Kq100 (allS (own_ns_exa A99) all0)
          have S3_100 := own_Sta_keep (Sta.ext E99 SH96) Kq100 (allS (own_ns_exa A99) all0)
          have S4_100 := own_Sta_keep (Sta.ext E99 SK96) Kq100 (allS (own_ns_exa A99) all0)
          have hk := Nat.le_trans hk Kq100.1
          refine own_trans st100 ?_
          show own_Ends p e below F (T100.setTop (mkF m 111 A98 [(.ref a99)]))
          obtain ⟨A101, hA101⟩ : ∃ z : Array Slot, z = #[.val (.int p1), .val (.int p2), .val (.int p3), .val (.int p4), .val (.int p5), .val (.int p6), .val (.int (1 : Int32)), .val (.int z76), .val (.int v81), .val (.int v83), .val (.int v85), .val (.int z87), .val (.ref c92), .val z94, .val (.ref a99), .unset] := ⟨_, rfl⟩
          refine own_step (fun _ k => XS.astore X100.here hx rfl (hb hby at_111) rfl rfl (l' := A101) (by rw [hA98, hA101]; exact rfl) k) ?_
          show own_Ends p e below F (T100.setTop (mkF m 113 A101 []))
          rcases own_m3e ev85 with rfl | rfl | rfl | rfl
          · show own_Ends p e below F (T100.setTop (mkF m 113 A101 []))
            refine own_step (fun _ k => XS.iload X100.here hx rfl (hb hby at_113) (by rw [hA101]; rfl) k) ?_
            show own_Ends p e below F (T100.setTop (mkF m 115 A101 [(.int (0 : Int32))]))
            refine own_step (fun _ k => XS.iconst X100.here hx rfl (hb hby at_115) k) ?_
            show own_Ends p e below F (T100.setTop (mkF m 116 A101 [(.int (1 : Int32)), (.int (0 : Int32))]))
            refine own_step (fun _ k => XS.icmpYes X100.here hx rfl (pc0 := 116) (pc' := 130) rfl (hb hby at_116) rfl (tlt (by decide : (0 : Int32) < (1 : Int32))).1 (by decide) (by decide) k) ?_
            show own_Ends p e below F (T100.setTop (mkF m 130 A101 []))
            refine own_step (fun _ k => XS.iload X100.here hx rfl (hb hby at_130) (by rw [hA101]; rfl) k) ?_
            show own_Ends p e below F (T100.setTop (mkF m 132 A101 [(.int (0 : Int32))]))
            refine own_step (fun _ k => XS.iconst X100.here hx rfl (hb hby at_132) k) ?_
            show own_Ends p e below F (T100.setTop (mkF m 133 A101 [(.int (2 : Int32)), (.int (0 : Int32))]))
            refine own_step (fun _ k => XS.icmpYes X100.here hx rfl (pc0 := 133) (pc' := 155) rfl (hb hby at_133) rfl (tlt (by decide : (0 : Int32) < (2 : Int32))).1 (by decide) (by decide) k) ?_
            show own_Ends p e below F (T100.setTop (mkF m 155 A101 []))
            refine own_step (fun _ k => XS.iload X100.here hx rfl (hb hby at_155) (by rw [hA101]; rfl) k) ?_
            show own_Ends p e below F (T100.setTop (mkF m 157 A101 [(.int (0 : Int32))]))
            refine own_step (fun _ k => XS.iconst X100.here hx rfl (hb hby at_157) k) ?_
            show own_Ends p e below F (T100.setTop (mkF m 158 A101 [(.int (3 : Int32)), (.int (0 : Int32))]))
            refine own_step (fun _ k => XS.icmpYes X100.here hx rfl (pc0 := 158) (pc' := 171) rfl (hb hby at_158) rfl (tlt (by decide : (0 : Int32) < (3 : Int32))).1 (by decide) (by decide) k) ?_
            show own_Ends p e below F (T100.setTop (mkF m 171 A101 []))
            obtain ⟨T102, h102, X102, e102, E102, A102, D102, -, st102⟩ := newO X100 hx hZ hown (own_g hw 26 rfl) (own_g hw 27 rfl) (own_g hw 28 rfl) rfl (g := (mkF m 171 A101 [])) rfl (hb hby at_171) (by decide) (by decide)
            obtain ⟨a102, g102⟩ : ∃ z, z = T100.heap.size := ⟨_, rfl⟩
            rw [← g102] at A102 D102 st102
            have ge_a102 : n0 ≤ a102 := Nat.le_trans Z100 (Nat.le_of_eq g102.symm)
            have sz_a102 : h0.size ≤ a102 := Nat.le_trans SZ100 (Nat.le_of_eq g102.symm)
            have ne_dd_a102 : dd ≠ a102 := Nat.ne_of_lt (by rw [g102]; exact ((VD96.ext E99).keep Kq100 (ninS ne_dd_a99 nin0)).lt)
            have ne_cc_a102 : cc ≠ a102 := Nat.ne_of_lt (by rw [g102]; exact ((BC96.ext E99).keep Kq100 (ninS ne_cc_a99 nin0)).lt)
            have ne_a99_a102 : a99 ≠ a102 := Nat.ne_of_lt (by rw [g102]; exact fq1_100.lt)
            have Z102 : n0 ≤ h102.size := Nat.le_trans Z100 E102.1
            have SZ102 : h0.size ≤ h102.size := Nat.le_trans SZ100 E102.1
            have hk := Nat.le_trans hk E102.1
            have F102_rows : Fld Z h102 a102 "com/example/greater_than/greaterthan/page/Page" "rows" "Ljava/util/List;" .null := D102 (Or.inr (own_g hw 114 rfl)) (ty := (.object "java/util/List")) (by decide)
            have F102_previousCursor : Fld Z h102 a102 "com/example/greater_than/greaterthan/page/Page" "previousCursor" "Ljava/lang/String;" .null := D102 (Or.inr (own_g hw 116 rfl)) (ty := (.object "java/lang/String")) (by decide)
            have F102_nextCursor : Fld Z h102 a102 "com/example/greater_than/greaterthan/page/Page" "nextCursor" "Ljava/lang/String;" .null := D102 (Or.inr (own_g hw 118 rfl)) (ty := (.object "java/lang/String")) (by decide)
            refine own_step st102 ?_
            show own_Ends p e below F (T102.setTop (mkF m 174 A101 [(.ref a102)]))
            refine own_step (fun _ k => XS.dup X102.here hx rfl (hb hby at_174) rfl rfl k) ?_
            show own_Ends p e below F (T102.setTop (mkF m 175 A101 [(.ref a102), (.ref a102)]))
            refine own_step (fun _ k => XS.aload X102.here hx rfl (hb hby at_175) (by rw [hA101]; rfl) rfl k) ?_
            show own_Ends p e below F (T102.setTop (mkF m 177 A101 [(.ref a99), (.ref a102), (.ref a102)]))
            refine own_step (fun _ k => XS.aload X102.here hx rfl (hb hby at_177) (by rw [hA101]; rfl) rfl k) ?_
            show own_Ends p e below F (T102.setTop (mkF m 179 A101 [(.ref c92), (.ref a99), (.ref a102), (.ref a102)]))
            refine own_step (fun _ k => XS.aload X102.here hx rfl (hb hby at_179) (by rw [hA101]; rfl) hz94 k) ?_
            show own_Ends p e below F (T102.setTop (mkF m 181 A101 [z94, (.ref c92), (.ref a99), (.ref a102), (.ref a102)]))
            obtain ⟨_, _, ⟨T103, L103, k103, n103⟩, -, X103, ⟨Lc103, hQ103, l103, y103, z103⟩, st103⟩ := X102.specialBack hx (y := (⟨"com/example/greater_than/greaterthan/page/Page", "<init>", "(Ljava/util/List;Ljava/lang/String;Ljava/lang/String;)V"⟩ : MethodName)) rfl hown (mvT hZ (own_g hw 29 rfl)) (mvT hZ (own_g hw 30 rfl)) (mvT hZ (own_g hw 31 rfl)) (by decide) (backOf (W := 1) (rm5_0 l Z a0 hw [] a102 a99 dd kd  (.ref c92) z94 ee ma mu mv mo h102 n0 Z102 A102 ge_a102 F102_rows F102_previousCursor F102_nextCursor (((VD96.ext E99).keep Kq100 (ninS ne_dd_a99 nin0)).ext E102) (((XD96.ext E99).keep Kq100).ext E102) (fq0_100.ext E102) (fq2_100.ext E102) (fq3_100.ext E102) (Sta.ext E102 S2_100) M_ma M_mu M_mv M_mo rfl hz94) hZ (own_g hw 31 rfl) (own_g hw 28 rfl) (by decide) (by decide)) (g := (mkF m 181 A101 [z94, (.ref c92), (.ref a99), (.ref a102), (.ref a102)])) rfl (by rw [hml]; show A101.size = _; rw [hA101]; rfl) (Steps.refl _) (a := a102) (argsL := [(.ref a99), (.ref c92), z94]) (rest := [(.ref a102)]) (lenOf pd__28Ljava_2futil_2fList_3bLjava_2flang_2fString_3bLjava_2flang_2fString_3b_29V rfl) rfl (by show 2 * 0 + _ ≤ _; exact Nat.le_of_eq rfl) (hb hby at_181) (fun _ _ => ⟨rfl, e102, (by decide : 8 + 3 ≤ _), (by decide : 22 + 5 ≤ _)⟩)
            dsimp only [Pt.U, Pt.locs, Pt.cells, Pt.slots] at X103 l103 y103 z103 st103 hQ103
            subst l103 y103 z103
            obtain ⟨rfl, Nq103, Kq103, fq0_103, fq1_103, fq2_103⟩ := hQ103
            have N103 := Fr.app N100 Nq103
            have Z103 : n0 ≤ T103.heap.size := Nat.le_trans Z102 Kq103.1
            have SZ103 : h0.size ≤ T103.heap.size := Nat.le_trans SZ102 Kq103.1
            have S0_103 := own_Sta_keep (Sta.ext E102 S0_100) Kq103 (allS (own_ns_exa A102) all0)
            have S1_103 := own_Sta_keep (Sta.ext E102 S1_100) Kq103 (allS (own_ns_exa A102) all0)
            have S2_103 := own_Sta_keep (Sta.ext E102 S2_100) Kq103 (allS (own_ns_exa A102) all0)
            have S3_103 := own_Sta_keep (Sta.ext E102 S3_100) Kq103 (allS (own_ns_exa A102) all0)
            have S4_103 := own_Sta_keep (Sta.ext E102 S4_100) Kq103 (allS (own_ns_exa A102) all0)
            have hk := Nat.le_trans hk Kq103.1
            refine own_trans st103 ?_
            show own_Ends p e below F (T103.setTop (mkF m 184 A101 [(.ref a102)]))
            obtain ⟨A104, hA104⟩ : ∃ z : Array Slot, z = #[.val (.int p1), .val (.int p2), .val (.int p3), .val (.int p4), .val (.int p5), .val (.int p6), .val (.int (1 : Int32)), .val (.int z76), .val (.int v81), .val (.int v83), .val (.int (0 : Int32)), .val (.int z87), .val (.ref c92), .val z94, .val (.ref a99), .val (.ref a102)] := ⟨_, rfl⟩
            refine own_step (fun _ k => XS.astore X103.here hx rfl (hb hby at_184) rfl rfl (l' := A104) (by rw [hA101, hA104]; exact rfl) k) ?_
            show own_Ends p e below F (T103.setTop (mkF m 186 A104 []))
            refine own_step (fun _ k => XS.aload X103.here hx rfl (hb hby at_186) (by rw [hA104]; rfl) rfl k) ?_
            show own_Ends p e below F (T103.setTop (mkF m 188 A104 [(.ref a102)]))
            obtain ⟨cq105, kq105, qa105, qb105, qc105⟩ := isOf (s := (s.setVm vm96)) (T := T103) hZ rfl fq0_103
            obtain ⟨_, _, ⟨T105, L105, k105, n105⟩, -, X105, ⟨Lc105, hQ105, l105, y105, z105⟩, st105⟩ := X103.virtualBack hx (y := (⟨"com/example/greater_than/greaterthan/page/Page", "hasPrevious", "()Z"⟩ : MethodName)) (z := (⟨"com/example/greater_than/greaterthan/page/Page", "hasPrevious", "()Z"⟩ : MethodName)) hown (mvT hZ (own_g hw 119 rfl)) (mvT hZ (own_g hw 120 rfl)) (notFace_of_selects (args := #[]) (mvT hZ (own_g hw 122 rfl))) (mvT hZ (own_g hw 122 rfl)) (mvT hZ (own_g hw 121 rfl)) (by decide) (backOf (W := 0) (rm15r l Z a0 hw [] a102 c92 T103.heap n0 Z103 fq1_103) hZ (own_g hw 123 rfl) (own_g hw 28 rfl) (by decide) (by decide)) qa105 qc105 (g := (mkF m 188 A104 [(.ref a102)])) rfl (by rw [hml]; show A104.size = _; rw [hA104]; rfl) (Steps.refl _) (argsL := []) (rest := []) (lenOf pd__28_29Z rfl) rfl (by show 2 * 0 + _ ≤ _; exact Nat.le_of_eq rfl) (hb hby at_188) (fun _ _ => ⟨rfl, rfl, (by decide : 11 + 0 ≤ _), (by decide : 27 + 0 ≤ _)⟩)
            dsimp only [Pt.U, Pt.locs, Pt.cells, Pt.slots] at X105 l105 y105 z105 st105 hQ105
            subst l105 y105 z105
            obtain ⟨rfl, Nq105, eq105⟩ := hQ105
            have N105 := Fr.app N103 Nq105
            refine own_trans st105 ?_
            show own_Ends p e below F (T105.setTop (mkF m 191 A104 [(.int (1 : Int32))]))
            refine own_step (fun _ k => XS.iload X105.here hx rfl (hb hby at_191) (by rw [hA104]; rfl) k) ?_
            show own_Ends p e below F (T105.setTop (mkF m 193 A104 [(.int (1 : Int32)), (.int (1 : Int32))]))
            refine own_step (fun _ k => XS.icmpNo X105.here hx rfl (hb hby at_193) rfl (teq (by decide : (1 : Int32) = (1 : Int32))).2 k) ?_
            show own_Ends p e below F (T105.setTop (mkF m 196 A104 []))
            refine own_step (fun _ k => XS.iconst X105.here hx rfl (hb hby at_196) k) ?_
            show own_Ends p e below F (T105.setTop (mkF m 197 A104 [(.int (1 : Int32))]))
            refine own_step (fun _ k => XS.goto X105.here hx rfl (pc0 := 197) (pc' := 201) rfl (hb hby at_197) (by decide) (by decide) k) ?_
            show own_Ends p e below F (T105.setTop (mkF m 201 A104 [(.int (1 : Int32))]))
            rw [hF]
            exact own_retW X105 hS (by rw [eq105]; exact hk) (v := (some (.int (nar .boolean (1 : Int32))))) (fun h => by rw [Bd.returns] at h; cases h) Bd.notSynchronized (fun fs hr => retN X105 hx (t := .boolean) Bd.returns (by simp) (hb hby at_201) hr) (by decide) (by decide) (by rw [eq105]; exact ⟨rfl, N105⟩)
          · show own_Ends p e below F (T100.setTop (mkF m 113 A101 []))
            refine own_step (fun _ k => XS.iload X100.here hx rfl (hb hby at_113) (by rw [hA101]; rfl) k) ?_
            show own_Ends p e below F (T100.setTop (mkF m 115 A101 [(.int (1 : Int32))]))
            refine own_step (fun _ k => XS.iconst X100.here hx rfl (hb hby at_115) k) ?_
            show own_Ends p e below F (T100.setTop (mkF m 116 A101 [(.int (1 : Int32)), (.int (1 : Int32))]))
            refine own_step (fun _ k => XS.icmpNo X100.here hx rfl (hb hby at_116) rfl (flt (by decide : ¬ ((1 : Int32) < (1 : Int32)))).1 k) ?_
            show own_Ends p e below F (T100.setTop (mkF m 119 A101 []))
            refine own_step (fun _ k => XS.aload X100.here hx rfl (hb hby at_119) (by rw [hA101]; rfl) rfl k) ?_
            show own_Ends p e below F (T100.setTop (mkF m 121 A101 [(.ref a99)]))
            refine own_step (fun _ k => XS.iload X100.here hx rfl (hb hby at_121) (by rw [hA101]; rfl) k) ?_
            show own_Ends p e below F (T100.setTop (mkF m 123 A101 [(.int p6), (.ref a99)]))
            obtain ⟨_, _, ⟨T106, L106, k106, n106⟩, -, X106, ⟨Lc106, hQ106, l106, y106, z106⟩, st106⟩ := Jvm.LawKit.callS X100 hx (y := (⟨"java/lang/Integer", "valueOf", "(I)Ljava/lang/Integer;"⟩ : MethodName)) hown (mvT hZ (own_g hw 136 rfl)) (mvT hZ (own_g hw 137 rfl)) (mvT hZ (own_g hw 138 rfl)) (mvT hZ (own_g hw 139 rfl)) (by decide) (backOf (W := 1) (rm17 l Z a0 hw [] p6 cc T100.heap n0 Z100 S3_100 S4_100 ((BC96.ext E99).keep Kq100 (ninS ne_cc_a99 nin0))) hZ (own_g hw 139 rfl) (own_g hw 138 rfl) (by decide) (by decide)) (g := (mkF m 123 A101 [(.int p6), (.ref a99)])) rfl (by rw [hml]; show A101.size = _; rw [hA101]; rfl) (argsL := [(.int p6)]) (rest := [(.ref a99)]) (lenOf pd__28I_29Ljava_2flang_2fInteger_3b rfl) rfl (by show 2 * 0 + _ ≤ _; exact Nat.le_of_eq rfl) (hb hby at_123) (fun _ _ => ⟨rfl, rfl, (by decide : 7 + 1 ≤ _), (by decide : 19 + 1 ≤ _)⟩)
            dsimp only [Pt.U, Pt.locs, Pt.cells, Pt.slots] at X106 l106 y106 z106 st106 hQ106
            subst l106 y106 z106
            obtain ⟨c106, rfl, Nq106, Kq106, fq0_106⟩ := hQ106
            have N106 := Fr.app N100 Nq106
            have Z106 : n0 ≤ T106.heap.size := Nat.le_trans Z100 Kq106.1
            have SZ106 : h0.size ≤ T106.heap.size := Nat.le_trans SZ100 Kq106.1
            have S0_106 := own_Sta_keep S0_100 Kq106 all0
            have S1_106 := own_Sta_keep S1_100 Kq106 all0
            have S2_106 := own_Sta_keep S2_100 Kq106 all0
            have S3_106 := own_Sta_keep S3_100 Kq106 all0
            have S4_106 := own_Sta_keep S4_100 Kq106 all0
            have hk := Nat.le_trans hk Kq106.1
            refine own_step st106 ?_
            show own_Ends p e below F (T106.setTop (mkF m 126 A101 [(.ref c106), (.ref a99)]))
            obtain ⟨cq107, kq107, qa107, qb107, qc107⟩ := isOf (s := (s.setVm vm96)) (T := T106) hZ rfl (fq0_100.keep Kq106)
            obtain ⟨_, _, ⟨T107, L107, k107, n107⟩, -, X107, ⟨Lc107, hQ107, l107, y107, z107⟩, st107⟩ := X106.virtualBack hx (y := (⟨"java/util/ArrayList", "add", "(Ljava/lang/Object;)Z"⟩ : MethodName)) (z := (⟨"java/util/ArrayList", "add", "(Ljava/lang/Object;)Z"⟩ : MethodName)) hown (mvT hZ (own_g hw 157 rfl)) (mvT hZ (own_g hw 158 rfl)) (notFace_of_selects (args := #[]) (mvT hZ (own_g hw 160 rfl))) (mvT hZ (own_g hw 160 rfl)) (mvT hZ (own_g hw 159 rfl)) (by decide) (backOf (W := 0) (rm20_0 l Z a0 hw [] a99 dd kd (.ref c106) T106.heap n0 Z106 (fq0_100.keep Kq106) ge_a99 (fq1_100.keep Kq106 nin0) (fq2_100.keep Kq106 nin0) (fq3_100.keep Kq106 nin0) (Or.inr ⟨_, _, _, rfl, fq0_106, (own_g hw 183 rfl)⟩) S1_106 (((VD96.ext E99).keep Kq100 (ninS ne_dd_a99 nin0)).keep Kq106 nin0)) hZ (own_g hw 161 rfl) (own_g hw 2 rfl) (by decide) (by decide)) qa107 qc107 (g := (mkF m 126 A101 [(.ref c106), (.ref a99)])) rfl (by rw [hml]; show A101.size = _; rw [hA101]; rfl) (Steps.refl _) (argsL := [(.ref c106)]) (rest := []) (lenOf pd__28Ljava_2flang_2fObject_3b_29Z rfl) rfl (by show 2 * 0 + _ ≤ _; exact Nat.le_of_eq rfl) (hb hby at_126) (fun _ _ => ⟨rfl, rfl, (by decide : 8 + 1 ≤ _), (by decide : 20 + 10 ≤ _)⟩)
            dsimp only [Pt.U, Pt.locs, Pt.cells, Pt.slots] at X107 l107 y107 z107 st107 hQ107
            subst l107 y107 z107
            obtain ⟨c107, kc107, rfl, Nq107, Kq107, fq0_107, fq1_107, fq2_107, fq3_107, fq4_107, fq5_107, fq6_107, fq7_107⟩ := hQ107
            have N107 := Fr.app N106 Nq107
            have Z107 : n0 ≤ T107.heap.size := Nat.le_trans Z106 Kq107.1
            have SZ107 : h0.size ≤ T107.heap.size := Nat.le_trans SZ106 Kq107.1
            have S0_107 := own_Sta_keep S0_106 Kq107 (allS (own_ns_exa (fq0_100.keep Kq106)) all0)
            have S1_107 := own_Sta_keep S1_106 Kq107 (allS (own_ns_exa (fq0_100.keep Kq106)) all0)
            have S2_107 := own_Sta_keep S2_106 Kq107 (allS (own_ns_exa (fq0_100.keep Kq106)) all0)
            have S3_107 := own_Sta_keep S3_106 Kq107 (allS (own_ns_exa (fq0_100.keep Kq106)) all0)
            have S4_107 := own_Sta_keep S4_106 Kq107 (allS (own_ns_exa (fq0_100.keep Kq106)) all0)
            have ne_dd_c107 : dd ≠ c107 := Nat.ne_of_lt (Nat.lt_of_lt_of_le ((((VD96.ext E99).keep Kq100 (ninS ne_dd_a99 nin0)).keep Kq106 nin0)).lt fq0_107)
            have ne_cc_c107 : cc ≠ c107 := Nat.ne_of_lt (Nat.lt_of_lt_of_le ((((BC96.ext E99).keep Kq100 (ninS ne_cc_a99 nin0)).keep Kq106 nin0)).lt fq0_107)
            have ne_a99_c107 : a99 ≠ c107 := Nat.ne_of_lt (Nat.lt_of_lt_of_le ((fq1_100.keep Kq106 nin0)).lt fq0_107)
            have ne_c106_c107 : c106 ≠ c107 := Nat.ne_of_lt (Nat.lt_of_lt_of_le (fq0_106).lt fq0_107)
            have ge_c107 : n0 ≤ c107 := Nat.le_trans Z106 fq0_107
            have sz_c107 : h0.size ≤ c107 := Nat.le_trans SZ106 fq0_107
            have hk := Nat.le_trans hk Kq107.1
            refine own_trans st107 ?_
            show own_Ends p e below F (T107.setTop (mkF m 129 A101 [(.int (1 : Int32))]))
            refine own_step (fun _ k => XS.pop X107.here hx rfl (hb hby at_129) rfl rfl k) ?_
            show own_Ends p e below F (T107.setTop (mkF m 130 A101 []))
            refine own_step (fun _ k => XS.iload X107.here hx rfl (hb hby at_130) (by rw [hA101]; rfl) k) ?_
            show own_Ends p e below F (T107.setTop (mkF m 132 A101 [(.int (1 : Int32))]))
            refine own_step (fun _ k => XS.iconst X107.here hx rfl (hb hby at_132) k) ?_
            show own_Ends p e below F (T107.setTop (mkF m 133 A101 [(.int (2 : Int32)), (.int (1 : Int32))]))
            refine own_step (fun _ k => XS.icmpYes X107.here hx rfl (pc0 := 133) (pc' := 155) rfl (hb hby at_133) rfl (tlt (by decide : (1 : Int32) < (2 : Int32))).1 (by decide) (by decide) k) ?_
            show own_Ends p e below F (T107.setTop (mkF m 155 A101 []))
            refine own_step (fun _ k => XS.iload X107.here hx rfl (hb hby at_155) (by rw [hA101]; rfl) k) ?_
            show own_Ends p e below F (T107.setTop (mkF m 157 A101 [(.int (1 : Int32))]))
            refine own_step (fun _ k => XS.iconst X107.here hx rfl (hb hby at_157) k) ?_
            show own_Ends p e below F (T107.setTop (mkF m 158 A101 [(.int (3 : Int32)), (.int (1 : Int32))]))
            refine own_step (fun _ k => XS.icmpYes X107.here hx rfl (pc0 := 158) (pc' := 171) rfl (hb hby at_158) rfl (tlt (by decide : (1 : Int32) < (3 : Int32))).1 (by decide) (by decide) k) ?_
            show own_Ends p e below F (T107.setTop (mkF m 171 A101 []))
            obtain ⟨T108, h108, X108, e108, E108, A108, D108, -, st108⟩ := newO X107 hx hZ hown (own_g hw 26 rfl) (own_g hw 27 rfl) (own_g hw 28 rfl) rfl (g := (mkF m 171 A101 [])) rfl (hb hby at_171) (by decide) (by decide)
            obtain ⟨a108, g108⟩ : ∃ z, z = T107.heap.size := ⟨_, rfl⟩
            rw [← g108] at A108 D108 st108
            have ge_a108 : n0 ≤ a108 := Nat.le_trans Z107 (Nat.le_of_eq g108.symm)
            have sz_a108 : h0.size ≤ a108 := Nat.le_trans SZ107 (Nat.le_of_eq g108.symm)
            have ne_dd_a108 : dd ≠ a108 := Nat.ne_of_lt (by rw [g108]; exact ((((VD96.ext E99).keep Kq100 (ninS ne_dd_a99 nin0)).keep Kq106 nin0).keep Kq107 (ninS ne_dd_a99 nin0)).lt)
            have ne_cc_a108 : cc ≠ a108 := Nat.ne_of_lt (by rw [g108]; exact ((((BC96.ext E99).keep Kq100 (ninS ne_cc_a99 nin0)).keep Kq106 nin0).keep Kq107 (ninS ne_cc_a99 nin0)).lt)
            have ne_a99_a108 : a99 ≠ a108 := Nat.ne_of_lt (by rw [g108]; exact fq2_107.lt)
            have ne_c106_a108 : c106 ≠ a108 := Nat.ne_of_lt (by rw [g108]; exact (fq0_106.keep Kq107).lt)
            have ne_c107_a108 : c107 ≠ a108 := Nat.ne_of_lt (by rw [g108]; exact fq5_107.lt)
            have Z108 : n0 ≤ h108.size := Nat.le_trans Z107 E108.1
            have SZ108 : h0.size ≤ h108.size := Nat.le_trans SZ107 E108.1
            have hk := Nat.le_trans hk E108.1
            have F108_rows : Fld Z h108 a108 "com/example/greater_than/greaterthan/page/Page" "rows" "Ljava/util/List;" .null := D108 (Or.inr (own_g hw 114 rfl)) (ty := (.object "java/util/List")) (by decide)
            have F108_previousCursor : Fld Z h108 a108 "com/example/greater_than/greaterthan/page/Page" "previousCursor" "Ljava/lang/String;" .null := D108 (Or.inr (own_g hw 116 rfl)) (ty := (.object "java/lang/String")) (by decide)
            have F108_nextCursor : Fld Z h108 a108 "com/example/greater_than/greaterthan/page/Page" "nextCursor" "Ljava/lang/String;" .null := D108 (Or.inr (own_g hw 118 rfl)) (ty := (.object "java/lang/String")) (by decide)
            refine own_step st108 ?_
            show own_Ends p e below F (T108.setTop (mkF m 174 A101 [(.ref a108)]))
            refine own_step (fun _ k => XS.dup X108.here hx rfl (hb hby at_174) rfl rfl k) ?_
            show own_Ends p e below F (T108.setTop (mkF m 175 A101 [(.ref a108), (.ref a108)]))
            refine own_step (fun _ k => XS.aload X108.here hx rfl (hb hby at_175) (by rw [hA101]; rfl) rfl k) ?_
            show own_Ends p e below F (T108.setTop (mkF m 177 A101 [(.ref a99), (.ref a108), (.ref a108)]))
            refine own_step (fun _ k => XS.aload X108.here hx rfl (hb hby at_177) (by rw [hA101]; rfl) rfl k) ?_
            show own_Ends p e below F (T108.setTop (mkF m 179 A101 [(.ref c92), (.ref a99), (.ref a108), (.ref a108)]))
            refine own_step (fun _ k => XS.aload X108.here hx rfl (hb hby at_179) (by rw [hA101]; rfl) hz94 k) ?_
            show own_Ends p e below F (T108.setTop (mkF m 181 A101 [z94, (.ref c92), (.ref a99), (.ref a108), (.ref a108)]))
            obtain ⟨_, _, ⟨T109, L109, k109, n109⟩, -, X109, ⟨Lc109, hQ109, l109, y109, z109⟩, st109⟩ := X108.specialBack hx (y := (⟨"com/example/greater_than/greaterthan/page/Page", "<init>", "(Ljava/util/List;Ljava/lang/String;Ljava/lang/String;)V"⟩ : MethodName)) rfl hown (mvT hZ (own_g hw 29 rfl)) (mvT hZ (own_g hw 30 rfl)) (mvT hZ (own_g hw 31 rfl)) (by decide) (backOf (W := 1) (rm5_1 l Z a0 hw [] a108 a99 c107 kc107 (.ref c106) (.ref c92) z94 ee ma mu mv mo h108 n0 Z108 A108 ge_a108 F108_rows F108_previousCursor F108_nextCursor (fq5_107.ext E108) (fq7_107.ext E108) (Or.inr ⟨_, _, _, rfl, ((fq0_106.keep Kq107).ext E108), (own_g hw 183 rfl)⟩) (fq1_107.ext E108) (fq3_107.ext E108) (fq4_107.ext E108) (Sta.ext E108 S2_107) M_ma M_mu M_mv M_mo rfl hz94) hZ (own_g hw 31 rfl) (own_g hw 28 rfl) (by decide) (by decide)) (g := (mkF m 181 A101 [z94, (.ref c92), (.ref a99), (.ref a108), (.ref a108)])) rfl (by rw [hml]; show A101.size = _; rw [hA101]; rfl) (Steps.refl _) (a := a108) (argsL := [(.ref a99), (.ref c92), z94]) (rest := [(.ref a108)]) (lenOf pd__28Ljava_2futil_2fList_3bLjava_2flang_2fString_3bLjava_2flang_2fString_3b_29V rfl) rfl (by show 2 * 0 + _ ≤ _; exact Nat.le_of_eq rfl) (hb hby at_181) (fun _ _ => ⟨rfl, e108, (by decide : 10 + 3 ≤ _), (by decide : 33 + 6 ≤ _)⟩)
            dsimp only [Pt.U, Pt.locs, Pt.cells, Pt.slots] at X109 l109 y109 z109 st109 hQ109
            subst l109 y109 z109
            obtain ⟨rfl, Nq109, Kq109, fq0_109, fq1_109, fq2_109⟩ := hQ109
            have N109 := Fr.app N107 Nq109
            have Z109 : n0 ≤ T109.heap.size := Nat.le_trans Z108 Kq109.1
            have SZ109 : h0.size ≤ T109.heap.size := Nat.le_trans SZ108 Kq109.1
            have S0_109 := own_Sta_keep (Sta.ext E108 S0_107) Kq109 (allS (own_ns_exa A108) all0)
            have S1_109 := own_Sta_keep (Sta.ext E108 S1_107) Kq109 (allS (own_ns_exa A108) all0)
            have S2_109 := own_Sta_keep (Sta.ext E108 S2_107) Kq109 (allS (own_ns_exa A108) all0)
            have S3_109 := own_Sta_keep (Sta.ext E108 S3_107) Kq109 (allS (own_ns_exa A108) all0)
            have S4_109 := own_Sta_keep (Sta.ext E108 S4_107) Kq109 (allS (own_ns_exa A108) all0)
            have hk := Nat.le_trans hk Kq109.1
            refine own_trans st109 ?_
            show own_Ends p e below F (T109.setTop (mkF m 184 A101 [(.ref a108)]))
            obtain ⟨A110, hA110⟩ : ∃ z : Array Slot, z = #[.val (.int p1), .val (.int p2), .val (.int p3), .val (.int p4), .val (.int p5), .val (.int p6), .val (.int (1 : Int32)), .val (.int z76), .val (.int v81), .val (.int v83), .val (.int (1 : Int32)), .val (.int z87), .val (.ref c92), .val z94, .val (.ref a99), .val (.ref a108)] := ⟨_, rfl⟩
            refine own_step (fun _ k => XS.astore X109.here hx rfl (hb hby at_184) rfl rfl (l' := A110) (by rw [hA101, hA110]; exact rfl) k) ?_
            show own_Ends p e below F (T109.setTop (mkF m 186 A110 []))
            refine own_step (fun _ k => XS.aload X109.here hx rfl (hb hby at_186) (by rw [hA110]; rfl) rfl k) ?_
            show own_Ends p e below F (T109.setTop (mkF m 188 A110 [(.ref a108)]))
            obtain ⟨cq111, kq111, qa111, qb111, qc111⟩ := isOf (s := (s.setVm vm96)) (T := T109) hZ rfl fq0_109
            obtain ⟨_, _, ⟨T111, L111, k111, n111⟩, -, X111, ⟨Lc111, hQ111, l111, y111, z111⟩, st111⟩ := X109.virtualBack hx (y := (⟨"com/example/greater_than/greaterthan/page/Page", "hasPrevious", "()Z"⟩ : MethodName)) (z := (⟨"com/example/greater_than/greaterthan/page/Page", "hasPrevious", "()Z"⟩ : MethodName)) hown (mvT hZ (own_g hw 119 rfl)) (mvT hZ (own_g hw 120 rfl)) (notFace_of_selects (args := #[]) (mvT hZ (own_g hw 122 rfl))) (mvT hZ (own_g hw 122 rfl)) (mvT hZ (own_g hw 121 rfl)) (by decide) (backOf (W := 0) (rm15r l Z a0 hw [] a108 c92 T109.heap n0 Z109 fq1_109) hZ (own_g hw 123 rfl) (own_g hw 28 rfl) (by decide) (by decide)) qa111 qc111 (g := (mkF m 188 A110 [(.ref a108)])) rfl (by rw [hml]; show A110.size = _; rw [hA110]; rfl) (Steps.refl _) (argsL := []) (rest := []) (lenOf pd__28_29Z rfl) rfl (by show 2 * 0 + _ ≤ _; exact Nat.le_of_eq rfl) (hb hby at_188) (fun _ _ => ⟨rfl, rfl, (by decide : 13 + 0 ≤ _), (by decide : 39 + 0 ≤ _)⟩)
            dsimp only [Pt.U, Pt.locs, Pt.cells, Pt.slots] at X111 l111 y111 z111 st111 hQ111
            subst l111 y111 z111
            obtain ⟨rfl, Nq111, eq111⟩ := hQ111
            have N111 := Fr.app N109 Nq111
            refine own_trans st111 ?_
            show own_Ends p e below F (T111.setTop (mkF m 191 A110 [(.int (1 : Int32))]))
            refine own_step (fun _ k => XS.iload X111.here hx rfl (hb hby at_191) (by rw [hA110]; rfl) k) ?_
            show own_Ends p e below F (T111.setTop (mkF m 193 A110 [(.int (1 : Int32)), (.int (1 : Int32))]))
            refine own_step (fun _ k => XS.icmpNo X111.here hx rfl (hb hby at_193) rfl (teq (by decide : (1 : Int32) = (1 : Int32))).2 k) ?_
            show own_Ends p e below F (T111.setTop (mkF m 196 A110 []))
            refine own_step (fun _ k => XS.iconst X111.here hx rfl (hb hby at_196) k) ?_
            show own_Ends p e below F (T111.setTop (mkF m 197 A110 [(.int (1 : Int32))]))
            refine own_step (fun _ k => XS.goto X111.here hx rfl (pc0 := 197) (pc' := 201) rfl (hb hby at_197) (by decide) (by decide) k) ?_
            show own_Ends p e below F (T111.setTop (mkF m 201 A110 [(.int (1 : Int32))]))
            rw [hF]
            exact own_retW X111 hS (by rw [eq111]; exact hk) (v := (some (.int (nar .boolean (1 : Int32))))) (fun h => by rw [Bd.returns] at h; cases h) Bd.notSynchronized (fun fs hr => retN X111 hx (t := .boolean) Bd.returns (by simp) (hb hby at_201) hr) (by decide) (by decide) (by rw [eq111]; exact ⟨rfl, N111⟩)
          · show own_Ends p e below F (T100.setTop (mkF m 113 A101 []))
            refine own_step (fun _ k => XS.iload X100.here hx rfl (hb hby at_113) (by rw [hA101]; rfl) k) ?_
            show own_Ends p e below F (T100.setTop (mkF m 115 A101 [(.int (2 : Int32))]))
            refine own_step (fun _ k => XS.iconst X100.here hx rfl (hb hby at_115) k) ?_
            show own_Ends p e below F (T100.setTop (mkF m 116 A101 [(.int (1 : Int32)), (.int (2 : Int32))]))
            refine own_step (fun _ k => XS.icmpNo X100.here hx rfl (hb hby at_116) rfl (flt (by decide : ¬ ((2 : Int32) < (1 : Int32)))).1 k) ?_
            show own_Ends p e below F (T100.setTop (mkF m 119 A101 []))
            refine own_step (fun _ k => XS.aload X100.here hx rfl (hb hby at_119) (by rw [hA101]; rfl) rfl k) ?_
            show own_Ends p e below F (T100.setTop (mkF m 121 A101 [(.ref a99)]))
            refine own_step (fun _ k => XS.iload X100.here hx rfl (hb hby at_121) (by rw [hA101]; rfl) k) ?_
            show own_Ends p e below F (T100.setTop (mkF m 123 A101 [(.int p6), (.ref a99)]))
            obtain ⟨_, _, ⟨T112, L112, k112, n112⟩, -, X112, ⟨Lc112, hQ112, l112, y112, z112⟩, st112⟩ := Jvm.LawKit.callS X100 hx (y := (⟨"java/lang/Integer", "valueOf", "(I)Ljava/lang/Integer;"⟩ : MethodName)) hown (mvT hZ (own_g hw 136 rfl)) (mvT hZ (own_g hw 137 rfl)) (mvT hZ (own_g hw 138 rfl)) (mvT hZ (own_g hw 139 rfl)) (by decide) (backOf (W := 1) (rm17 l Z a0 hw [] p6 cc T100.heap n0 Z100 S3_100 S4_100 ((BC96.ext E99).keep Kq100 (ninS ne_cc_a99 nin0))) hZ (own_g hw 139 rfl) (own_g hw 138 rfl) (by decide) (by decide)) (g := (mkF m 123 A101 [(.int p6), (.ref a99)])) rfl (by rw [hml]; show A101.size = _; rw [hA101]; rfl) (argsL := [(.int p6)]) (rest := [(.ref a99)]) (lenOf pd__28I_29Ljava_2flang_2fInteger_3b rfl) rfl (by show 2 * 0 + _ ≤ _; exact Nat.le_of_eq rfl) (hb hby at_123) (fun _ _ => ⟨rfl, rfl, (by decide : 7 + 1 ≤ _), (by decide : 19 + 1 ≤ _)⟩)
            dsimp only [Pt.U, Pt.locs, Pt.cells, Pt.slots] at X112 l112 y112 z112 st112 hQ112
            subst l112 y112 z112
            obtain ⟨c112, rfl, Nq112, Kq112, fq0_112⟩ := hQ112
            have N112 := Fr.app N100 Nq112
            have Z112 : n0 ≤ T112.heap.size := Nat.le_trans Z100 Kq112.1
            have SZ112 : h0.size ≤ T112.heap.size := Nat.le_trans SZ100 Kq112.1
            have S0_112 := own_Sta_keep S0_100 Kq112 all0
            have S1_112 := own_Sta_keep S1_100 Kq112 all0
            have S2_112 := own_Sta_keep S2_100 Kq112 all0
            have S3_112 := own_Sta_keep S3_100 Kq112 all0
            have S4_112 := own_Sta_keep S4_100 Kq112 all0
            have hk := Nat.le_trans hk Kq112.1
            refine own_step st112 ?_
            show own_Ends p e below F (T112.setTop (mkF m 126 A101 [(.ref c112), (.ref a99)]))
            obtain ⟨cq113, kq113, qa113, qb113, qc113⟩ := isOf (s := (s.setVm vm96)) (T := T112) hZ rfl (fq0_100.keep Kq112)
            obtain ⟨_, _, ⟨T113, L113, k113, n113⟩, -, X113, ⟨Lc113, hQ113, l113, y113, z113⟩, st113⟩ := X112.virtualBack hx (y := (⟨"java/util/ArrayList", "add", "(Ljava/lang/Object;)Z"⟩ : MethodName)) (z := (⟨"java/util/ArrayList", "add", "(Ljava/lang/Object;)Z"⟩ : MethodName)) hown (mvT hZ (own_g hw 157 rfl)) (mvT hZ (own_g hw 158 rfl)) (notFace_of_selects (args := #[]) (mvT hZ (own_g hw 160 rfl))) (mvT hZ (own_g hw 160 rfl)) (mvT hZ (own_g hw 159 rfl)) (by decide) (backOf (W := 0) (rm20_0 l Z a0 hw [] a99 dd kd (.ref c112) T112.heap n0 Z112 (fq0_100.keep Kq112) ge_a99 (fq1_100.keep Kq112 nin0) (fq2_100.keep Kq112 nin0) (fq3_100.keep Kq112 nin0) (Or.inr ⟨_, _, _, rfl, fq0_112, (own_g hw 183 rfl)⟩) S1_112 (((VD96.ext E99).keep Kq100 (ninS ne_dd_a99 nin0)).keep Kq112 nin0)) hZ (own_g hw 161 rfl) (own_g hw 2 rfl) (by decide) (by decide)) qa113 qc113 (g := (mkF m 126 A101 [(.ref c112), (.ref a99)])) rfl (by rw [hml]; show A101.size = _; rw [hA101]; rfl) (Steps.refl _) (argsL := [(.ref c112)]) (rest := []) (lenOf pd__28Ljava_2flang_2fObject_3b_29Z rfl) rfl (by show 2 * 0 + _ ≤ _; exact Nat.le_of_eq rfl) (hb hby at_126) (fun _ _ => ⟨rfl, rfl, (by decide : 8 + 1 ≤ _), (by decide : 20 + 10 ≤ _)⟩)
            dsimp only [Pt.U, Pt.locs, Pt.cells, Pt.slots] at X113 l113 y113 z113 st113 hQ113
            subst l113 y113 z113
            obtain ⟨c113, kc113, rfl, Nq113, Kq113, fq0_113, fq1_113, fq2_113, fq3_113, fq4_113, fq5_113, fq6_113, fq7_113⟩ := hQ113
            have N113 := Fr.app N112 Nq113
            have Z113 : n0 ≤ T113.heap.size := Nat.le_trans Z112 Kq113.1
            have SZ113 : h0.size ≤ T113.heap.size := Nat.le_trans SZ112 Kq113.1
            have S0_113 := own_Sta_keep S0_112 Kq113 (allS (own_ns_exa (fq0_100.keep Kq112)) all0)
            have S1_113 := own_Sta_keep S1_112 Kq113 (allS (own_ns_exa (fq0_100.keep Kq112)) all0)
            have S2_113 := own_Sta_keep S2_112 Kq113 (allS (own_ns_exa (fq0_100.keep Kq112)) all0)
            have S3_113 := own_Sta_keep S3_112 Kq113 (allS (own_ns_exa (fq0_100.keep Kq112)) all0)
            have S4_113 := own_Sta_keep S4_112 Kq113 (allS (own_ns_exa (fq0_100.keep Kq112)) all0)
            have ne_dd_c113 : dd ≠ c113 := Nat.ne_of_lt (Nat.lt_of_lt_of_le ((((VD96.ext E99).keep Kq100 (ninS ne_dd_a99 nin0)).keep Kq112 nin0)).lt fq0_113)
            have ne_cc_c113 : cc ≠ c113 := Nat.ne_of_lt (Nat.lt_of_lt_of_le ((((BC96.ext E99).keep Kq100 (ninS ne_cc_a99 nin0)).keep Kq112 nin0)).lt fq0_113)
            have ne_a99_c113 : a99 ≠ c113 := Nat.ne_of_lt (Nat.lt_of_lt_of_le ((fq1_100.keep Kq112 nin0)).lt fq0_113)
            have ne_c112_c113 : c112 ≠ c113 := Nat.ne_of_lt (Nat.lt_of_lt_of_le (fq0_112).lt fq0_113)
            have ge_c113 : n0 ≤ c113 := Nat.le_trans Z112 fq0_113
            have sz_c113 : h0.size ≤ c113 := Nat.le_trans SZ112 fq0_113
            have hk := Nat.le_trans hk Kq113.1
            refine own_trans st113 ?_
            show own_Ends p e below F (T113.setTop (mkF m 129 A101 [(.int (1 : Int32))]))
            refine own_step (fun _ k => XS.pop X113.here hx rfl (hb hby at_129) rfl rfl k) ?_
            show own_Ends p e below F (T113.setTop (mkF m 130 A101 []))
            refine own_step (fun _ k => XS.iload X113.here hx rfl (hb hby at_130) (by rw [hA101]; rfl) k) ?_
            show own_Ends p e below F (T113.setTop (mkF m 132 A101 [(.int (2 : Int32))]))
            refine own_step (fun _ k => XS.iconst X113.here hx rfl (hb hby at_132) k) ?_
            show own_Ends p e below F (T113.setTop (mkF m 133 A101 [(.int (2 : Int32)), (.int (2 : Int32))]))
            refine own_step (fun _ k => XS.icmpNo X113.here hx rfl (hb hby at_133) rfl (flt (by decide : ¬ ((2 : Int32) < (2 : Int32)))).1 k) ?_
            show own_Ends p e below F (T113.setTop (mkF m 136 A101 []))
            refine own_step (fun _ k => XS.aload X113.here hx rfl (hb hby at_136) (by rw [hA101]; rfl) rfl k) ?_
            show own_Ends p e below F (T113.setTop (mkF m 138 A101 [(.ref a99)]))
            refine own_step (fun _ k => XS.iload X113.here hx rfl (hb hby at_138) (by rw [hA101]; rfl) k) ?_
            show own_Ends p e below F (T113.setTop (mkF m 140 A101 [(.int z87), (.ref a99)]))
            by_cases c140_114 : z87 = (0 : Int32)
            · refine own_step (fun _ k => XS.ifYes X113.here hx rfl (pc0 := 140) (pc' := 147) rfl (hb hby at_140) rfl ((if0 _ _).trans (teq c140_114).1) (by decide) (by decide) k) ?_
              show own_Ends p e below F (T113.setTop (mkF m 147 A101 [(.ref a99)]))
              refine own_step (fun _ k => XS.iloadN X113.here hx rfl (hb hby at_147) (by rw [hA101]; rfl) k) ?_
              show own_Ends p e below F (T113.setTop (mkF m 148 A101 [(.int p2), (.ref a99)]))
              obtain ⟨_, _, ⟨T115, L115, k115, n115⟩, -, X115, ⟨Lc115, hQ115, l115, y115, z115⟩, st115⟩ := Jvm.LawKit.callS X113 hx (y := (⟨"java/lang/Integer", "valueOf", "(I)Ljava/lang/Integer;"⟩ : MethodName)) hown (mvT hZ (own_g hw 136 rfl)) (mvT hZ (own_g hw 137 rfl)) (mvT hZ (own_g hw 138 rfl)) (mvT hZ (own_g hw 139 rfl)) (by decide) (backOf (W := 1) (rm17 l Z a0 hw [] p2 cc T113.heap n0 Z113 S3_113 S4_113 ((((BC96.ext E99).keep Kq100 (ninS ne_cc_a99 nin0)).keep Kq112 nin0).keep Kq113 (ninS ne_cc_a99 nin0))) hZ (own_g hw 139 rfl) (own_g hw 138 rfl) (by decide) (by decide)) (g := (mkF m 148 A101 [(.int p2), (.ref a99)])) rfl (by rw [hml]; show A101.size = _; rw [hA101]; rfl) (argsL := [(.int p2)]) (rest := [(.ref a99)]) (lenOf pd__28I_29Ljava_2flang_2fInteger_3b rfl) rfl (by show 2 * 0 + _ ≤ _; exact Nat.le_of_eq rfl) (hb hby at_148) (fun _ _ => ⟨rfl, rfl, (by decide : 9 + 1 ≤ _), (by decide : 30 + 1 ≤ _)⟩)
              dsimp only [Pt.U, Pt.locs, Pt.cells, Pt.slots] at X115 l115 y115 z115 st115 hQ115
              subst l115 y115 z115
              obtain ⟨c115, rfl, Nq115, Kq115, fq0_115⟩ := hQ115
              have N115 := Fr.app N113 Nq115
              have Z115 : n0 ≤ T115.heap.size := Nat.le_trans Z113 Kq115.1
              have SZ115 : h0.size ≤ T115.heap.size := Nat.le_trans SZ113 Kq115.1
              have S0_115 := own_Sta_keep S0_113 Kq115 all0
              have S1_115 := own_Sta_keep S1_113 Kq115 all0
              have S2_115 := own_Sta_keep S2_113 Kq115 all0
              have S3_115 := own_Sta_keep S3_113 Kq115 all0
              have S4_115 := own_Sta_keep S4_113 Kq115 all0
              have hk := Nat.le_trans hk Kq115.1
              refine own_step st115 ?_
              show own_Ends p e below F (T115.setTop (mkF m 151 A101 [(.ref c115), (.ref a99)]))
              obtain ⟨cq116, kq116, qa116, qb116, qc116⟩ := isOf (s := (s.setVm vm96)) (T := T115) hZ rfl (fq1_113.keep Kq115)
              obtain ⟨_, _, ⟨T116, L116, k116, n116⟩, -, X116, ⟨Lc116, hQ116, l116, y116, z116⟩, st116⟩ := X115.virtualBack hx (y := (⟨"java/util/ArrayList", "add", "(Ljava/lang/Object;)Z"⟩ : MethodName)) (z := (⟨"java/util/ArrayList", "add", "(Ljava/lang/Object;)Z"⟩ : MethodName)) hown (mvT hZ (own_g hw 157 rfl)) (mvT hZ (own_g hw 158 rfl)) (notFace_of_selects (args := #[]) (mvT hZ (own_g hw 160 rfl))) (mvT hZ (own_g hw 160 rfl)) (mvT hZ (own_g hw 159 rfl)) (by decide) (backOf (W := 0) (rm20_1 l Z a0 hw [] a99 c113 kc113 (.ref c115) (.ref c112) T115.heap n0 Z115 (fq1_113.keep Kq115) ge_a99 (fq2_113.keep Kq115 nin0) (fq3_113.keep Kq115 nin0) (fq4_113.keep Kq115 nin0) (Or.inr ⟨_, _, _, rfl, fq0_115, (own_g hw 183 rfl)⟩) (fq5_113.keep Kq115 nin0) fq6_113 ge_c113) hZ (own_g hw 161 rfl) (own_g hw 2 rfl) (by decide) (by decide)) qa116 qc116 (g := (mkF m 151 A101 [(.ref c115), (.ref a99)])) rfl (by rw [hml]; show A101.size = _; rw [hA101]; rfl) (Steps.refl _) (argsL := [(.ref c115)]) (rest := []) (lenOf pd__28Ljava_2flang_2fObject_3b_29Z rfl) rfl (by show 2 * 0 + _ ≤ _; exact Nat.le_of_eq rfl) (hb hby at_151) (fun _ _ => ⟨rfl, rfl, (by decide : 10 + 0 ≤ _), (by decide : 31 + 0 ≤ _)⟩)
              dsimp only [Pt.U, Pt.locs, Pt.cells, Pt.slots] at X116 l116 y116 z116 st116 hQ116
              subst l116 y116 z116
              obtain ⟨rfl, Nq116, Kq116, fq0_116, fq1_116, fq2_116, fq3_116, fq4_116⟩ := hQ116
              have N116 := Fr.app N115 Nq116
              have Z116 : n0 ≤ T116.heap.size := Nat.le_trans Z115 Kq116.1
              have SZ116 : h0.size ≤ T116.heap.size := Nat.le_trans SZ115 Kq116.1
              have S0_116 := own_Sta_keep S0_115 Kq116 (allS (own_ns_exa (fq1_113.keep Kq115)) (allS (own_ns_exa (fq7_113.keep Kq115)) all0))
              have S1_116 := own_Sta_keep S1_115 Kq116 (allS (own_ns_exa (fq1_113.keep Kq115)) (allS (own_ns_exa (fq7_113.keep Kq115)) all0))
              have S2_116 := own_Sta_keep S2_115 Kq116 (allS (own_ns_exa (fq1_113.keep Kq115)) (allS (own_ns_exa (fq7_113.keep Kq115)) all0))
              have S3_116 := own_Sta_keep S3_115 Kq116 (allS (own_ns_exa (fq1_113.keep Kq115)) (allS (own_ns_exa (fq7_113.keep Kq115)) all0))
              have S4_116 := own_Sta_keep S4_115 Kq116 (allS (own_ns_exa (fq1_113.keep Kq115)) (allS (own_ns_exa (fq7_113.keep Kq115)) all0))
              have hk := Nat.le_trans hk Kq116.1
              refine own_trans st116 ?_
              show own_Ends p e below F (T116.setTop (mkF m 154 A101 [(.int (1 : Int32))]))
              refine own_step (fun _ k => XS.pop X116.here hx rfl (hb hby at_154) rfl rfl k) ?_
              show own_Ends p e below F (T116.setTop (mkF m 155 A101 []))
              refine own_step (fun _ k => XS.iload X116.here hx rfl (hb hby at_155) (by rw [hA101]; rfl) k) ?_
              show own_Ends p e below F (T116.setTop (mkF m 157 A101 [(.int (2 : Int32))]))
              refine own_step (fun _ k => XS.iconst X116.here hx rfl (hb hby at_157) k) ?_
              show own_Ends p e below F (T116.setTop (mkF m 158 A101 [(.int (3 : Int32)), (.int (2 : Int32))]))
              refine own_step (fun _ k => XS.icmpYes X116.here hx rfl (pc0 := 158) (pc' := 171) rfl (hb hby at_158) rfl (tlt (by decide : (2 : Int32) < (3 : Int32))).1 (by decide) (by decide) k) ?_
              show own_Ends p e below F (T116.setTop (mkF m 171 A101 []))
              obtain ⟨T117, h117, X117, e117, E117, A117, D117, -, st117⟩ := newO X116 hx hZ hown (own_g hw 26 rfl) (own_g hw 27 rfl) (own_g hw 28 rfl) rfl (g := (mkF m 171 A101 [])) rfl (hb hby at_171) (by decide) (by decide)
              obtain ⟨a117, g117⟩ : ∃ z, z = T116.heap.size := ⟨_, rfl⟩
              rw [← g117] at A117 D117 st117
              have ge_a117 : n0 ≤ a117 := Nat.le_trans Z116 (Nat.le_of_eq g117.symm)
              have sz_a117 : h0.size ≤ a117 := Nat.le_trans SZ116 (Nat.le_of_eq g117.symm)
              have ne_dd_a117 : dd ≠ a117 := Nat.ne_of_lt (by rw [g117]; exact ((((((VD96.ext E99).keep Kq100 (ninS ne_dd_a99 nin0)).keep Kq112 nin0).keep Kq113 (ninS ne_dd_a99 nin0)).keep Kq115 nin0).keep Kq116 (ninS ne_dd_a99 (ninS ne_dd_c113 nin0))).lt)
              have ne_cc_a117 : cc ≠ a117 := Nat.ne_of_lt (by rw [g117]; exact ((((((BC96.ext E99).keep Kq100 (ninS ne_cc_a99 nin0)).keep Kq112 nin0).keep Kq113 (ninS ne_cc_a99 nin0)).keep Kq115 nin0).keep Kq116 (ninS ne_cc_a99 (ninS ne_cc_c113 nin0))).lt)
              have ne_a99_a117 : a99 ≠ a117 := Nat.ne_of_lt (by rw [g117]; exact fq1_116.lt)
              have ne_c112_a117 : c112 ≠ a117 := Nat.ne_of_lt (by rw [g117]; exact (((fq0_112.keep Kq113).keep Kq115).keep Kq116).lt)
              have ne_c113_a117 : c113 ≠ a117 := Nat.ne_of_lt (by rw [g117]; exact fq4_116.lt)
              have ne_c115_a117 : c115 ≠ a117 := Nat.ne_of_lt (by rw [g117]; exact (fq0_115.keep Kq116).lt)
              have Z117 : n0 ≤ h117.size := Nat.le_trans Z116 E117.1
              have SZ117 : h0.size ≤ h117.size := Nat.le_trans SZ116 E117.1
              have hk := Nat.le_trans hk E117.1
              have F117_rows : Fld Z h117 a117 "com/example/greater_than/greaterthan/page/Page" "rows" "Ljava/util/List;" .null := D117 (Or.inr (own_g hw 114 rfl)) (ty := (.object "java/util/List")) (by decide)
              have F117_previousCursor : Fld Z h117 a117 "com/example/greater_than/greaterthan/page/Page" "previousCursor" "Ljava/lang/String;" .null := D117 (Or.inr (own_g hw 116 rfl)) (ty := (.object "java/lang/String")) (by decide)
              have F117_nextCursor : Fld Z h117 a117 "com/example/greater_than/greaterthan/page/Page" "nextCursor" "Ljava/lang/String;" .null := D117 (Or.inr (own_g hw 118 rfl)) (ty := (.object "java/lang/String")) (by decide)
              refine own_step st117 ?_
              show own_Ends p e below F (T117.setTop (mkF m 174 A101 [(.ref a117)]))
              refine own_step (fun _ k => XS.dup X117.here hx rfl (hb hby at_174) rfl rfl k) ?_
              show own_Ends p e below F (T117.setTop (mkF m 175 A101 [(.ref a117), (.ref a117)]))
              refine own_step (fun _ k => XS.aload X117.here hx rfl (hb hby at_175) (by rw [hA101]; rfl) rfl k) ?_
              show own_Ends p e below F (T117.setTop (mkF m 177 A101 [(.ref a99), (.ref a117), (.ref a117)]))
              refine own_step (fun _ k => XS.aload X117.here hx rfl (hb hby at_177) (by rw [hA101]; rfl) rfl k) ?_
              show own_Ends p e below F (T117.setTop (mkF m 179 A101 [(.ref c92), (.ref a99), (.ref a117), (.ref a117)]))
              refine own_step (fun _ k => XS.aload X117.here hx rfl (hb hby at_179) (by rw [hA101]; rfl) hz94 k) ?_
              show own_Ends p e below F (T117.setTop (mkF m 181 A101 [z94, (.ref c92), (.ref a99), (.ref a117), (.ref a117)]))
              obtain ⟨_, _, ⟨T118, L118, k118, n118⟩, -, X118, ⟨Lc118, hQ118, l118, y118, z118⟩, st118⟩ := X117.specialBack hx (y := (⟨"com/example/greater_than/greaterthan/page/Page", "<init>", "(Ljava/util/List;Ljava/lang/String;Ljava/lang/String;)V"⟩ : MethodName)) rfl hown (mvT hZ (own_g hw 29 rfl)) (mvT hZ (own_g hw 30 rfl)) (mvT hZ (own_g hw 31 rfl)) (by decide) (backOf (W := 1) (rm5_2 l Z a0 hw [] a117 a99 c113 kc113 (.ref c112) (.ref c115) (.ref c92) z94 ee ma mu mv mo h117 n0 Z117 A117 ge_a117 F117_rows F117_previousCursor F117_nextCursor (fq4_116.ext E117) (((fq7_113.keep Kq115).keep Kq116).ext E117) (Or.inr ⟨_, _, _, rfl, ((((fq0_112.keep Kq113).keep Kq115).keep Kq116).ext E117), (own_g hw 183 rfl)⟩) (Or.inr ⟨_, _, _, rfl, ((fq0_115.keep Kq116).ext E117), (own_g hw 183 rfl)⟩) (fq0_116.ext E117) (fq2_116.ext E117) (fq3_116.ext E117) (Sta.ext E117 S2_116) M_ma M_mu M_mv M_mo rfl hz94) hZ (own_g hw 31 rfl) (own_g hw 28 rfl) (by decide) (by decide)) (g := (mkF m 181 A101 [z94, (.ref c92), (.ref a99), (.ref a117), (.ref a117)])) rfl (by rw [hml]; show A101.size = _; rw [hA101]; rfl) (Steps.refl _) (a := a117) (argsL := [(.ref a99), (.ref c92), z94]) (rest := [(.ref a117)]) (lenOf pd__28Ljava_2futil_2fList_3bLjava_2flang_2fString_3bLjava_2flang_2fString_3b_29V rfl) rfl (by show 2 * 0 + _ ≤ _; exact Nat.le_of_eq rfl) (hb hby at_181) (fun _ _ => ⟨rfl, e117, (by decide : 11 + 3 ≤ _), (by decide : 34 + 7 ≤ _)⟩)
              dsimp only [Pt.U, Pt.locs, Pt.cells, Pt.slots] at X118 l118 y118 z118 st118 hQ118
              subst l118 y118 z118
              obtain ⟨rfl, Nq118, Kq118, fq0_118, fq1_118, fq2_118⟩ := hQ118
              have N118 := Fr.app N116 Nq118
              have Z118 : n0 ≤ T118.heap.size := Nat.le_trans Z117 Kq118.1
              have SZ118 : h0.size ≤ T118.heap.size := Nat.le_trans SZ117 Kq118.1
              have S0_118 := own_Sta_keep (Sta.ext E117 S0_116) Kq118 (allS (own_ns_exa A117) all0)
              have S1_118 := own_Sta_keep (Sta.ext E117 S1_116) Kq118 (allS (own_ns_exa A117) all0)
              have S2_118 := own_Sta_keep (Sta.ext E117 S2_116) Kq118 (allS (own_ns_exa A117) all0)
              have S3_118 := own_Sta_keep (Sta.ext E117 S3_116) Kq118 (allS (own_ns_exa A117) all0)
              have S4_118 := own_Sta_keep (Sta.ext E117 S4_116) Kq118 (allS (own_ns_exa A117) all0)
              have hk := Nat.le_trans hk Kq118.1
              refine own_trans st118 ?_
              show own_Ends p e below F (T118.setTop (mkF m 184 A101 [(.ref a117)]))
              obtain ⟨A119, hA119⟩ : ∃ z : Array Slot, z = #[.val (.int p1), .val (.int p2), .val (.int p3), .val (.int p4), .val (.int p5), .val (.int p6), .val (.int (1 : Int32)), .val (.int z76), .val (.int v81), .val (.int v83), .val (.int (2 : Int32)), .val (.int z87), .val (.ref c92), .val z94, .val (.ref a99), .val (.ref a117)] := ⟨_, rfl⟩
              refine own_step (fun _ k => XS.astore X118.here hx rfl (hb hby at_184) rfl rfl (l' := A119) (by rw [hA101, hA119]; exact rfl) k) ?_
              show own_Ends p e below F (T118.setTop (mkF m 186 A119 []))
              refine own_step (fun _ k => XS.aload X118.here hx rfl (hb hby at_186) (by rw [hA119]; rfl) rfl k) ?_
              show own_Ends p e below F (T118.setTop (mkF m 188 A119 [(.ref a117)]))
              obtain ⟨cq120, kq120, qa120, qb120, qc120⟩ := isOf (s := (s.setVm vm96)) (T := T118) hZ rfl fq0_118
              obtain ⟨_, _, ⟨T120, L120, k120, n120⟩, -, X120, ⟨Lc120, hQ120, l120, y120, z120⟩, st120⟩ := X118.virtualBack hx (y := (⟨"com/example/greater_than/greaterthan/page/Page", "hasPrevious", "()Z"⟩ : MethodName)) (z := (⟨"com/example/greater_than/greaterthan/page/Page", "hasPrevious", "()Z"⟩ : MethodName)) hown (mvT hZ (own_g hw 119 rfl)) (mvT hZ (own_g hw 120 rfl)) (notFace_of_selects (args := #[]) (mvT hZ (own_g hw 122 rfl))) (mvT hZ (own_g hw 122 rfl)) (mvT hZ (own_g hw 121 rfl)) (by decide) (backOf (W := 0) (rm15r l Z a0 hw [] a117 c92 T118.heap n0 Z118 fq1_118) hZ (own_g hw 123 rfl) (own_g hw 28 rfl) (by decide) (by decide)) qa120 qc120 (g := (mkF m 188 A119 [(.ref a117)])) rfl (by rw [hml]; show A119.size = _; rw [hA119]; rfl) (Steps.refl _) (argsL := []) (rest := []) (lenOf pd__28_29Z rfl) rfl (by show 2 * 0 + _ ≤ _; exact Nat.le_of_eq rfl) (hb hby at_188) (fun _ _ => ⟨rfl, rfl, (by decide : 14 + 0 ≤ _), (by decide : 41 + 0 ≤ _)⟩)
              dsimp only [Pt.U, Pt.locs, Pt.cells, Pt.slots] at X120 l120 y120 z120 st120 hQ120
              subst l120 y120 z120
              obtain ⟨rfl, Nq120, eq120⟩ := hQ120
              have N120 := Fr.app N118 Nq120
              refine own_trans st120 ?_
              show own_Ends p e below F (T120.setTop (mkF m 191 A119 [(.int (1 : Int32))]))
              refine own_step (fun _ k => XS.iload X120.here hx rfl (hb hby at_191) (by rw [hA119]; rfl) k) ?_
              show own_Ends p e below F (T120.setTop (mkF m 193 A119 [(.int (1 : Int32)), (.int (1 : Int32))]))
              refine own_step (fun _ k => XS.icmpNo X120.here hx rfl (hb hby at_193) rfl (teq (by decide : (1 : Int32) = (1 : Int32))).2 k) ?_
              show own_Ends p e below F (T120.setTop (mkF m 196 A119 []))
              refine own_step (fun _ k => XS.iconst X120.here hx rfl (hb hby at_196) k) ?_
              show own_Ends p e below F (T120.setTop (mkF m 197 A119 [(.int (1 : Int32))]))
              refine own_step (fun _ k => XS.goto X120.here hx rfl (pc0 := 197) (pc' := 201) rfl (hb hby at_197) (by decide) (by decide) k) ?_
              show own_Ends p e below F (T120.setTop (mkF m 201 A119 [(.int (1 : Int32))]))
              rw [hF]
              exact own_retW X120 hS (by rw [eq120]; exact hk) (v := (some (.int (nar .boolean (1 : Int32))))) (fun h => by rw [Bd.returns] at h; cases h) Bd.notSynchronized (fun fs hr => retN X120 hx (t := .boolean) Bd.returns (by simp) (hb hby at_201) hr) (by decide) (by decide) (by rw [eq120]; exact ⟨rfl, N120⟩)
            · refine own_step (fun _ k => XS.ifNo X113.here hx rfl (hb hby at_140) rfl ((if0 _ _).trans (feq c140_114).1) k) ?_
              show own_Ends p e below F (T113.setTop (mkF m 143 A101 [(.ref a99)]))
              refine own_step (fun _ k => XS.aconstNull X113.here hx rfl (hb hby at_143) k) ?_
              show own_Ends p e below F (T113.setTop (mkF m 144 A101 [.null, (.ref a99)]))
              refine own_step (fun _ k => XS.goto X113.here hx rfl (pc0 := 144) (pc' := 151) rfl (hb hby at_144) (by decide) (by decide) k) ?_
              show own_Ends p e below F (T113.setTop (mkF m 151 A101 [.null, (.ref a99)]))
              obtain ⟨cq121, kq121, qa121, qb121, qc121⟩ := isOf (s := (s.setVm vm96)) (T := T113) hZ rfl fq1_113
              obtain ⟨_, _, ⟨T121, L121, k121, n121⟩, -, X121, ⟨Lc121, hQ121, l121, y121, z121⟩, st121⟩ := X113.virtualBack hx (y := (⟨"java/util/ArrayList", "add", "(Ljava/lang/Object;)Z"⟩ : MethodName)) (z := (⟨"java/util/ArrayList", "add", "(Ljava/lang/Object;)Z"⟩ : MethodName)) hown (mvT hZ (own_g hw 157 rfl)) (mvT hZ (own_g hw 158 rfl)) (notFace_of_selects (args := #[]) (mvT hZ (own_g hw 160 rfl))) (mvT hZ (own_g hw 160 rfl)) (mvT hZ (own_g hw 159 rfl)) (by decide) (backOf (W := 0) (rm20_1 l Z a0 hw [] a99 c113 kc113 .null (.ref c112) T113.heap n0 Z113 fq1_113 ge_a99 fq2_113 fq3_113 fq4_113 (Or.inl rfl) fq5_113 fq6_113 ge_c113) hZ (own_g hw 161 rfl) (own_g hw 2 rfl) (by decide) (by decide)) qa121 qc121 (g := (mkF m 151 A101 [.null, (.ref a99)])) rfl (by rw [hml]; show A101.size = _; rw [hA101]; rfl) (Steps.refl _) (argsL := [.null]) (rest := []) (lenOf pd__28Ljava_2flang_2fObject_3b_29Z rfl) rfl (by show 2 * 0 + _ ≤ _; exact Nat.le_of_eq rfl) (hb hby at_151) (fun _ _ => ⟨rfl, rfl, (by decide : 9 + 0 ≤ _), (by decide : 30 + 0 ≤ _)⟩)
              dsimp only [Pt.U, Pt.locs, Pt.cells, Pt.slots] at X121 l121 y121 z121 st121 hQ121
              subst l121 y121 z121
              obtain ⟨rfl, Nq121, Kq121, fq0_121, fq1_121, fq2_121, fq3_121, fq4_121⟩ := hQ121
              have N121 := Fr.app N113 Nq121
              have Z121 : n0 ≤ T121.heap.size := Nat.le_trans Z113 Kq121.1
              have SZ121 : h0.size ≤ T121.heap.size := Nat.le_trans SZ113 Kq121.1
              have S0_121 := own_Sta_keep S0_113 Kq121 (allS (own_ns_exa fq1_113) (allS (own_ns_exa fq7_113) all0))
              have S1_121 := own_Sta_keep S1_113 Kq121 (allS (own_ns_exa fq1_113) (allS (own_ns_exa fq7_113) all0))
              have S2_121 := own_Sta_keep S2_113 Kq121 (allS (own_ns_exa fq1_113) (allS (own_ns_exa fq7_113) all0))
              have S3_121 := own_Sta_keep S3_113 Kq121 (allS (own_ns_exa fq1_113) (allS (own_ns_exa fq7_113) all0))
              have S4_121 := own_Sta_keep S4_113 Kq121 (allS (own_ns_exa fq1_113) (allS (own_ns_exa fq7_113) all0))
              have hk := Nat.le_trans hk Kq121.1
              refine own_trans st121 ?_
              show own_Ends p e below F (T121.setTop (mkF m 154 A101 [(.int (1 : Int32))]))
              refine own_step (fun _ k => XS.pop X121.here hx rfl (hb hby at_154) rfl rfl k) ?_
              show own_Ends p e below F (T121.setTop (mkF m 155 A101 []))
              refine own_step (fun _ k => XS.iload X121.here hx rfl (hb hby at_155) (by rw [hA101]; rfl) k) ?_
              show own_Ends p e below F (T121.setTop (mkF m 157 A101 [(.int (2 : Int32))]))
              refine own_step (fun _ k => XS.iconst X121.here hx rfl (hb hby at_157) k) ?_
              show own_Ends p e below F (T121.setTop (mkF m 158 A101 [(.int (3 : Int32)), (.int (2 : Int32))]))
              refine own_step (fun _ k => XS.icmpYes X121.here hx rfl (pc0 := 158) (pc' := 171) rfl (hb hby at_158) rfl (tlt (by decide : (2 : Int32) < (3 : Int32))).1 (by decide) (by decide) k) ?_
              show own_Ends p e below F (T121.setTop (mkF m 171 A101 []))
              obtain ⟨T122, h122, X122, e122, E122, A122, D122, -, st122⟩ := newO X121 hx hZ hown (own_g hw 26 rfl) (own_g hw 27 rfl) (own_g hw 28 rfl) rfl (g := (mkF m 171 A101 [])) rfl (hb hby at_171) (by decide) (by decide)
              obtain ⟨a122, g122⟩ : ∃ z, z = T121.heap.size := ⟨_, rfl⟩
              rw [← g122] at A122 D122 st122
              have ge_a122 : n0 ≤ a122 := Nat.le_trans Z121 (Nat.le_of_eq g122.symm)
              have sz_a122 : h0.size ≤ a122 := Nat.le_trans SZ121 (Nat.le_of_eq g122.symm)
              have ne_dd_a122 : dd ≠ a122 := Nat.ne_of_lt (by rw [g122]; exact (((((VD96.ext E99).keep Kq100 (ninS ne_dd_a99 nin0)).keep Kq112 nin0).keep Kq113 (ninS ne_dd_a99 nin0)).keep Kq121 (ninS ne_dd_a99 (ninS ne_dd_c113 nin0))).lt)
              have ne_cc_a122 : cc ≠ a122 := Nat.ne_of_lt (by rw [g122]; exact (((((BC96.ext E99).keep Kq100 (ninS ne_cc_a99 nin0)).keep Kq112 nin0).keep Kq113 (ninS ne_cc_a99 nin0)).keep Kq121 (ninS ne_cc_a99 (ninS ne_cc_c113 nin0))).lt)
              have ne_a99_a122 : a99 ≠ a122 := Nat.ne_of_lt (by rw [g122]; exact fq1_121.lt)
              have ne_c112_a122 : c112 ≠ a122 := Nat.ne_of_lt (by rw [g122]; exact ((fq0_112.keep Kq113).keep Kq121).lt)
              have ne_c113_a122 : c113 ≠ a122 := Nat.ne_of_lt (by rw [g122]; exact fq4_121.lt)
              have Z122 : n0 ≤ h122.size := Nat.le_trans Z121 E122.1
              have SZ122 : h0.size ≤ h122.size := Nat.le_trans SZ121 E122.1
              have hk := Nat.le_trans hk E122.1
              have F122_rows : Fld Z h122 a122 "com/example/greater_than/greaterthan/page/Page" "rows" "Ljava/util/List;" .null := D122 (Or.inr (own_g hw 114 rfl)) (ty := (.object "java/util/List")) (by decide)
              have F122_previousCursor : Fld Z h122 a122 "com/example/greater_than/greaterthan/page/Page" "previousCursor" "Ljava/lang/String;" .null := D122 (Or.inr (own_g hw 116 rfl)) (ty := (.object "java/lang/String")) (by decide)
              have F122_nextCursor : Fld Z h122 a122 "com/example/greater_than/greaterthan/page/Page" "nextCursor" "Ljava/lang/String;" .null := D122 (Or.inr (own_g hw 118 rfl)) (ty := (.object "java/lang/String")) (by decide)
              refine own_step st122 ?_
              show own_Ends p e below F (T122.setTop (mkF m 174 A101 [(.ref a122)]))
              refine own_step (fun _ k => XS.dup X122.here hx rfl (hb hby at_174) rfl rfl k) ?_
              show own_Ends p e below F (T122.setTop (mkF m 175 A101 [(.ref a122), (.ref a122)]))
              refine own_step (fun _ k => XS.aload X122.here hx rfl (hb hby at_175) (by rw [hA101]; rfl) rfl k) ?_
              show own_Ends p e below F (T122.setTop (mkF m 177 A101 [(.ref a99), (.ref a122), (.ref a122)]))
              refine own_step (fun _ k => XS.aload X122.here hx rfl (hb hby at_177) (by rw [hA101]; rfl) rfl k) ?_
              show own_Ends p e below F (T122.setTop (mkF m 179 A101 [(.ref c92), (.ref a99), (.ref a122), (.ref a122)]))
              refine own_step (fun _ k => XS.aload X122.here hx rfl (hb hby at_179) (by rw [hA101]; rfl) hz94 k) ?_
              show own_Ends p e below F (T122.setTop (mkF m 181 A101 [z94, (.ref c92), (.ref a99), (.ref a122), (.ref a122)]))
              obtain ⟨_, _, ⟨T123, L123, k123, n123⟩, -, X123, ⟨Lc123, hQ123, l123, y123, z123⟩, st123⟩ := X122.specialBack hx (y := (⟨"com/example/greater_than/greaterthan/page/Page", "<init>", "(Ljava/util/List;Ljava/lang/String;Ljava/lang/String;)V"⟩ : MethodName)) rfl hown (mvT hZ (own_g hw 29 rfl)) (mvT hZ (own_g hw 30 rfl)) (mvT hZ (own_g hw 31 rfl)) (by decide) (backOf (W := 1) (rm5_2 l Z a0 hw [] a122 a99 c113 kc113 (.ref c112) .null (.ref c92) z94 ee ma mu mv mo h122 n0 Z122 A122 ge_a122 F122_rows F122_previousCursor F122_nextCursor (fq4_121.ext E122) ((fq7_113.keep Kq121).ext E122) (Or.inr ⟨_, _, _, rfl, (((fq0_112.keep Kq113).keep Kq121).ext E122), (own_g hw 183 rfl)⟩) (Or.inl rfl) (fq0_121.ext E122) (fq2_121.ext E122) (fq3_121.ext E122) (Sta.ext E122 S2_121) M_ma M_mu M_mv M_mo rfl hz94) hZ (own_g hw 31 rfl) (own_g hw 28 rfl) (by decide) (by decide)) (g := (mkF m 181 A101 [z94, (.ref c92), (.ref a99), (.ref a122), (.ref a122)])) rfl (by rw [hml]; show A101.size = _; rw [hA101]; rfl) (Steps.refl _) (a := a122) (argsL := [(.ref a99), (.ref c92), z94]) (rest := [(.ref a122)]) (lenOf pd__28Ljava_2futil_2fList_3bLjava_2flang_2fString_3bLjava_2flang_2fString_3b_29V rfl) rfl (by show 2 * 0 + _ ≤ _; exact Nat.le_of_eq rfl) (hb hby at_181) (fun _ _ => ⟨rfl, e122, (by decide : 10 + 3 ≤ _), (by decide : 33 + 7 ≤ _)⟩)
              dsimp only [Pt.U, Pt.locs, Pt.cells, Pt.slots] at X123 l123 y123 z123 st123 hQ123
              subst l123 y123 z123
              obtain ⟨rfl, Nq123, Kq123, fq0_123, fq1_123, fq2_123⟩ := hQ123
              have N123 := Fr.app N121 Nq123
              have Z123 : n0 ≤ T123.heap.size := Nat.le_trans Z122 Kq123.1
              have SZ123 : h0.size ≤ T123.heap.size := Nat.le_trans SZ122 Kq123.1
              have S0_123 := own_Sta_keep (Sta.ext E122 S0_121) Kq123 (allS (own_ns_exa A122) all0)
              have S1_123 := own_Sta_keep (Sta.ext E122 S1_121) Kq123 (allS (own_ns_exa A122) all0)
              have S2_123 := own_Sta_keep (Sta.ext E122 S2_121) Kq123 (allS (own_ns_exa A122) all0)
              have S3_123 := own_Sta_keep (Sta.ext E122 S3_121) Kq123 (allS (own_ns_exa A122) all0)
              have S4_123 := own_Sta_keep (Sta.ext E122 S4_121) Kq123 (allS (own_ns_exa A122) all0)
              have hk := Nat.le_trans hk Kq123.1
              refine own_trans st123 ?_
              show own_Ends p e below F (T123.setTop (mkF m 184 A101 [(.ref a122)]))
              obtain ⟨A124, hA124⟩ : ∃ z : Array Slot, z = #[.val (.int p1), .val (.int p2), .val (.int p3), .val (.int p4), .val (.int p5), .val (.int p6), .val (.int (1 : Int32)), .val (.int z76), .val (.int v81), .val (.int v83), .val (.int (2 : Int32)), .val (.int z87), .val (.ref c92), .val z94, .val (.ref a99), .val (.ref a122)] := ⟨_, rfl⟩
              refine own_step (fun _ k => XS.astore X123.here hx rfl (hb hby at_184) rfl rfl (l' := A124) (by rw [hA101, hA124]; exact rfl) k) ?_
              show own_Ends p e below F (T123.setTop (mkF m 186 A124 []))
              refine own_step (fun _ k => XS.aload X123.here hx rfl (hb hby at_186) (by rw [hA124]; rfl) rfl k) ?_
              show own_Ends p e below F (T123.setTop (mkF m 188 A124 [(.ref a122)]))
              obtain ⟨cq125, kq125, qa125, qb125, qc125⟩ := isOf (s := (s.setVm vm96)) (T := T123) hZ rfl fq0_123
              obtain ⟨_, _, ⟨T125, L125, k125, n125⟩, -, X125, ⟨Lc125, hQ125, l125, y125, z125⟩, st125⟩ := X123.virtualBack hx (y := (⟨"com/example/greater_than/greaterthan/page/Page", "hasPrevious", "()Z"⟩ : MethodName)) (z := (⟨"com/example/greater_than/greaterthan/page/Page", "hasPrevious", "()Z"⟩ : MethodName)) hown (mvT hZ (own_g hw 119 rfl)) (mvT hZ (own_g hw 120 rfl)) (notFace_of_selects (args := #[]) (mvT hZ (own_g hw 122 rfl))) (mvT hZ (own_g hw 122 rfl)) (mvT hZ (own_g hw 121 rfl)) (by decide) (backOf (W := 0) (rm15r l Z a0 hw [] a122 c92 T123.heap n0 Z123 fq1_123) hZ (own_g hw 123 rfl) (own_g hw 28 rfl) (by decide) (by decide)) qa125 qc125 (g := (mkF m 188 A124 [(.ref a122)])) rfl (by rw [hml]; show A124.size = _; rw [hA124]; rfl) (Steps.refl _) (argsL := []) (rest := []) (lenOf pd__28_29Z rfl) rfl (by show 2 * 0 + _ ≤ _; exact Nat.le_of_eq rfl) (hb hby at_188) (fun _ _ => ⟨rfl, rfl, (by decide : 13 + 0 ≤ _), (by decide : 40 + 0 ≤ _)⟩)
              dsimp only [Pt.U, Pt.locs, Pt.cells, Pt.slots] at X125 l125 y125 z125 st125 hQ125
              subst l125 y125 z125
              obtain ⟨rfl, Nq125, eq125⟩ := hQ125
              have N125 := Fr.app N123 Nq125
              refine own_trans st125 ?_
              show own_Ends p e below F (T125.setTop (mkF m 191 A124 [(.int (1 : Int32))]))
              refine own_step (fun _ k => XS.iload X125.here hx rfl (hb hby at_191) (by rw [hA124]; rfl) k) ?_
              show own_Ends p e below F (T125.setTop (mkF m 193 A124 [(.int (1 : Int32)), (.int (1 : Int32))]))
              refine own_step (fun _ k => XS.icmpNo X125.here hx rfl (hb hby at_193) rfl (teq (by decide : (1 : Int32) = (1 : Int32))).2 k) ?_
              show own_Ends p e below F (T125.setTop (mkF m 196 A124 []))
              refine own_step (fun _ k => XS.iconst X125.here hx rfl (hb hby at_196) k) ?_
              show own_Ends p e below F (T125.setTop (mkF m 197 A124 [(.int (1 : Int32))]))
              refine own_step (fun _ k => XS.goto X125.here hx rfl (pc0 := 197) (pc' := 201) rfl (hb hby at_197) (by decide) (by decide) k) ?_
              show own_Ends p e below F (T125.setTop (mkF m 201 A124 [(.int (1 : Int32))]))
              rw [hF]
              exact own_retW X125 hS (by rw [eq125]; exact hk) (v := (some (.int (nar .boolean (1 : Int32))))) (fun h => by rw [Bd.returns] at h; cases h) Bd.notSynchronized (fun fs hr => retN X125 hx (t := .boolean) Bd.returns (by simp) (hb hby at_201) hr) (by decide) (by decide) (by rw [eq125]; exact ⟨rfl, N125⟩)
          · show own_Ends p e below F (T100.setTop (mkF m 113 A101 []))
            refine own_step (fun _ k => XS.iload X100.here hx rfl (hb hby at_113) (by rw [hA101]; rfl) k) ?_
            show own_Ends p e below F (T100.setTop (mkF m 115 A101 [(.int (3 : Int32))]))
            refine own_step (fun _ k => XS.iconst X100.here hx rfl (hb hby at_115) k) ?_
            show own_Ends p e below F (T100.setTop (mkF m 116 A101 [(.int (1 : Int32)), (.int (3 : Int32))]))
            refine own_step (fun _ k => XS.icmpNo X100.here hx rfl (hb hby at_116) rfl (flt (by decide : ¬ ((3 : Int32) < (1 : Int32)))).1 k) ?_
            show own_Ends p e below F (T100.setTop (mkF m 119 A101 []))
            refine own_step (fun _ k => XS.aload X100.here hx rfl (hb hby at_119) (by rw [hA101]; rfl) rfl k) ?_
            show own_Ends p e below F (T100.setTop (mkF m 121 A101 [(.ref a99)]))
            refine own_step (fun _ k => XS.iload X100.here hx rfl (hb hby at_121) (by rw [hA101]; rfl) k) ?_
            show own_Ends p e below F (T100.setTop (mkF m 123 A101 [(.int p6), (.ref a99)]))
            obtain ⟨_, _, ⟨T126, L126, k126, n126⟩, -, X126, ⟨Lc126, hQ126, l126, y126, z126⟩, st126⟩ := Jvm.LawKit.callS X100 hx (y := (⟨"java/lang/Integer", "valueOf", "(I)Ljava/lang/Integer;"⟩ : MethodName)) hown (mvT hZ (own_g hw 136 rfl)) (mvT hZ (own_g hw 137 rfl)) (mvT hZ (own_g hw 138 rfl)) (mvT hZ (own_g hw 139 rfl)) (by decide) (backOf (W := 1) (rm17 l Z a0 hw [] p6 cc T100.heap n0 Z100 S3_100 S4_100 ((BC96.ext E99).keep Kq100 (ninS ne_cc_a99 nin0))) hZ (own_g hw 139 rfl) (own_g hw 138 rfl) (by decide) (by decide)) (g := (mkF m 123 A101 [(.int p6), (.ref a99)])) rfl (by rw [hml]; show A101.size = _; rw [hA101]; rfl) (argsL := [(.int p6)]) (rest := [(.ref a99)]) (lenOf pd__28I_29Ljava_2flang_2fInteger_3b rfl) rfl (by show 2 * 0 + _ ≤ _; exact Nat.le_of_eq rfl) (hb hby at_123) (fun _ _ => ⟨rfl, rfl, (by decide : 7 + 1 ≤ _), (by decide : 19 + 1 ≤ _)⟩)
            dsimp only [Pt.U, Pt.locs, Pt.cells, Pt.slots] at X126 l126 y126 z126 st126 hQ126
            subst l126 y126 z126
            obtain ⟨c126, rfl, Nq126, Kq126, fq0_126⟩ := hQ126
            have N126 := Fr.app N100 Nq126
            have Z126 : n0 ≤ T126.heap.size := Nat.le_trans Z100 Kq126.1
            have SZ126 : h0.size ≤ T126.heap.size := Nat.le_trans SZ100 Kq126.1
            have S0_126 := own_Sta_keep S0_100 Kq126 all0
            have S1_126 := own_Sta_keep S1_100 Kq126 all0
            have S2_126 := own_Sta_keep S2_100 Kq126 all0
            have S3_126 := own_Sta_keep S3_100 Kq126 all0
            have S4_126 := own_Sta_keep S4_100 Kq126 all0
            have hk := Nat.le_trans hk Kq126.1
            refine own_step st126 ?_
            show own_Ends p e below F (T126.setTop (mkF m 126 A101 [(.ref c126), (.ref a99)]))
            obtain ⟨cq127, kq127, qa127, qb127, qc127⟩ := isOf (s := (s.setVm vm96)) (T := T126) hZ rfl (fq0_100.keep Kq126)
            obtain ⟨_, _, ⟨T127, L127, k127, n127⟩, -, X127, ⟨Lc127, hQ127, l127, y127, z127⟩, st127⟩ := X126.virtualBack hx (y := (⟨"java/util/ArrayList", "add", "(Ljava/lang/Object;)Z"⟩ : MethodName)) (z := (⟨"java/util/ArrayList", "add", "(Ljava/lang/Object;)Z"⟩ : MethodName)) hown (mvT hZ (own_g hw 157 rfl)) (mvT hZ (own_g hw 158 rfl)) (notFace_of_selects (args := #[]) (mvT hZ (own_g hw 160 rfl))) (mvT hZ (own_g hw 160 rfl)) (mvT hZ (own_g hw 159 rfl)) (by decide) (backOf (W := 0) (rm20_0 l Z a0 hw [] a99 dd kd (.ref c126) T126.heap n0 Z126 (fq0_100.keep Kq126) ge_a99 (fq1_100.keep Kq126 nin0) (fq2_100.keep Kq126 nin0) (fq3_100.keep Kq126 nin0) (Or.inr ⟨_, _, _, rfl, fq0_126, (own_g hw 183 rfl)⟩) S1_126 (((VD96.ext E99).keep Kq100 (ninS ne_dd_a99 nin0)).keep Kq126 nin0)) hZ (own_g hw 161 rfl) (own_g hw 2 rfl) (by decide) (by decide)) qa127 qc127 (g := (mkF m 126 A101 [(.ref c126), (.ref a99)])) rfl (by rw [hml]; show A101.size = _; rw [hA101]; rfl) (Steps.refl _) (argsL := [(.ref c126)]) (rest := []) (lenOf pd__28Ljava_2flang_2fObject_3b_29Z rfl) rfl (by show 2 * 0 + _ ≤ _; exact Nat.le_of_eq rfl) (hb hby at_126) (fun _ _ => ⟨rfl, rfl, (by decide : 8 + 1 ≤ _), (by decide : 20 + 10 ≤ _)⟩)
            dsimp only [Pt.U, Pt.locs, Pt.cells, Pt.slots] at X127 l127 y127 z127 st127 hQ127
            subst l127 y127 z127
            obtain ⟨c127, kc127, rfl, Nq127, Kq127, fq0_127, fq1_127, fq2_127, fq3_127, fq4_127, fq5_127, fq6_127, fq7_127⟩ := hQ127
            have N127 := Fr.app N126 Nq127
            have Z127 : n0 ≤ T127.heap.size := Nat.le_trans Z126 Kq127.1
            have SZ127 : h0.size ≤ T127.heap.size := Nat.le_trans SZ126 Kq127.1
            have S0_127 := own_Sta_keep S0_126 Kq127 (allS (own_ns_exa (fq0_100.keep Kq126)) all0)
            have S1_127 := own_Sta_keep S1_126 Kq127 (allS (own_ns_exa (fq0_100.keep Kq126)) all0)
            have S2_127 := own_Sta_keep S2_126 Kq127 (allS (own_ns_exa (fq0_100.keep Kq126)) all0)
            have S3_127 := own_Sta_keep S3_126 Kq127 (allS (own_ns_exa (fq0_100.keep Kq126)) all0)
            have S4_127 := own_Sta_keep S4_126 Kq127 (allS (own_ns_exa (fq0_100.keep Kq126)) all0)
            have ne_dd_c127 : dd ≠ c127 := Nat.ne_of_lt (Nat.lt_of_lt_of_le ((((VD96.ext E99).keep Kq100 (ninS ne_dd_a99 nin0)).keep Kq126 nin0)).lt fq0_127)
            have ne_cc_c127 : cc ≠ c127 := Nat.ne_of_lt (Nat.lt_of_lt_of_le ((((BC96.ext E99).keep Kq100 (ninS ne_cc_a99 nin0)).keep Kq126 nin0)).lt fq0_127)
            have ne_a99_c127 : a99 ≠ c127 := Nat.ne_of_lt (Nat.lt_of_lt_of_le ((fq1_100.keep Kq126 nin0)).lt fq0_127)
            have ne_c126_c127 : c126 ≠ c127 := Nat.ne_of_lt (Nat.lt_of_lt_of_le (fq0_126).lt fq0_127)
            have ge_c127 : n0 ≤ c127 := Nat.le_trans Z126 fq0_127
            have sz_c127 : h0.size ≤ c127 := Nat.le_trans SZ126 fq0_127
            have hk := Nat.le_trans hk Kq127.1
            refine own_trans st127 ?_
            show own_Ends p e below F (T127.setTop (mkF m 129 A101 [(.int (1 : Int32))]))
            refine own_step (fun _ k => XS.pop X127.here hx rfl (hb hby at_129) rfl rfl k) ?_
            show own_Ends p e below F (T127.setTop (mkF m 130 A101 []))
            refine own_step (fun _ k => XS.iload X127.here hx rfl (hb hby at_130) (by rw [hA101]; rfl) k) ?_
            show own_Ends p e below F (T127.setTop (mkF m 132 A101 [(.int (3 : Int32))]))
            refine own_step (fun _ k => XS.iconst X127.here hx rfl (hb hby at_132) k) ?_
            show own_Ends p e below F (T127.setTop (mkF m 133 A101 [(.int (2 : Int32)), (.int (3 : Int32))]))
            refine own_step (fun _ k => XS.icmpNo X127.here hx rfl (hb hby at_133) rfl (flt (by decide : ¬ ((3 : Int32) < (2 : Int32)))).1 k) ?_
            show own_Ends p e below F (T127.setTop (mkF m 136 A101 []))
            refine own_step (fun _ k => XS.aload X127.here hx rfl (hb hby at_136) (by rw [hA101]; rfl) rfl k) ?_
            show own_Ends p e below F (T127.setTop (mkF m 138 A101 [(.ref a99)]))
            refine own_step (fun _ k => XS.iload X127.here hx rfl (hb hby at_138) (by rw [hA101]; rfl) k) ?_
            show own_Ends p e below F (T127.setTop (mkF m 140 A101 [(.int z87), (.ref a99)]))
            by_cases c140_128 : z87 = (0 : Int32)
            · refine own_step (fun _ k => XS.ifYes X127.here hx rfl (pc0 := 140) (pc' := 147) rfl (hb hby at_140) rfl ((if0 _ _).trans (teq c140_128).1) (by decide) (by decide) k) ?_
              show own_Ends p e below F (T127.setTop (mkF m 147 A101 [(.ref a99)]))
              refine own_step (fun _ k => XS.iloadN X127.here hx rfl (hb hby at_147) (by rw [hA101]; rfl) k) ?_
              show own_Ends p e below F (T127.setTop (mkF m 148 A101 [(.int p2), (.ref a99)]))
              obtain ⟨_, _, ⟨T129, L129, k129, n129⟩, -, X129, ⟨Lc129, hQ129, l129, y129, z129⟩, st129⟩ := Jvm.LawKit.callS X127 hx (y := (⟨"java/lang/Integer", "valueOf", "(I)Ljava/lang/Integer;"⟩ : MethodName)) hown (mvT hZ (own_g hw 136 rfl)) (mvT hZ (own_g hw 137 rfl)) (mvT hZ (own_g hw 138 rfl)) (mvT hZ (own_g hw 139 rfl)) (by decide) (backOf (W := 1) (rm17 l Z a0 hw [] p2 cc T127.heap n0 Z127 S3_127 S4_127 ((((BC96.ext E99).keep Kq100 (ninS ne_cc_a99 nin0)).keep Kq126 nin0).keep Kq127 (ninS ne_cc_a99 nin0))) hZ (own_g hw 139 rfl) (own_g hw 138 rfl) (by decide) (by decide)) (g := (mkF m 148 A101 [(.int p2), (.ref a99)])) rfl (by rw [hml]; show A101.size = _; rw [hA101]; rfl) (argsL := [(.int p2)]) (rest := [(.ref a99)]) (lenOf pd__28I_29Ljava_2flang_2fInteger_3b rfl) rfl (by show 2 * 0 + _ ≤ _; exact Nat.le_of_eq rfl) (hb hby at_148) (fun _ _ => ⟨rfl, rfl, (by decide : 9 + 1 ≤ _), (by decide : 30 + 1 ≤ _)⟩)
              dsimp only [Pt.U, Pt.locs, Pt.cells, Pt.slots] at X129 l129 y129 z129 st129 hQ129
              subst l129 y129 z129
              obtain ⟨c129, rfl, Nq129, Kq129, fq0_129⟩ := hQ129
              have N129 := Fr.app N127 Nq129
              have Z129 : n0 ≤ T129.heap.size := Nat.le_trans Z127 Kq129.1
              have SZ129 : h0.size ≤ T129.heap.size := Nat.le_trans SZ127 Kq129.1
              have S0_129 := own_Sta_keep S0_127 Kq129 all0
              have S1_129 := own_Sta_keep S1_127 Kq129 all0
              have S2_129 := own_Sta_keep S2_127 Kq129 all0
              have S3_129 := own_Sta_keep S3_127 Kq129 all0
              have S4_129 := own_Sta_keep S4_127 Kq129 all0
              have hk := Nat.le_trans hk Kq129.1
              refine own_step st129 ?_
              show own_Ends p e below F (T129.setTop (mkF m 151 A101 [(.ref c129), (.ref a99)]))
              obtain ⟨cq130, kq130, qa130, qb130, qc130⟩ := isOf (s := (s.setVm vm96)) (T := T129) hZ rfl (fq1_127.keep Kq129)
              obtain ⟨_, _, ⟨T130, L130, k130, n130⟩, -, X130, ⟨Lc130, hQ130, l130, y130, z130⟩, st130⟩ := X129.virtualBack hx (y := (⟨"java/util/ArrayList", "add", "(Ljava/lang/Object;)Z"⟩ : MethodName)) (z := (⟨"java/util/ArrayList", "add", "(Ljava/lang/Object;)Z"⟩ : MethodName)) hown (mvT hZ (own_g hw 157 rfl)) (mvT hZ (own_g hw 158 rfl)) (notFace_of_selects (args := #[]) (mvT hZ (own_g hw 160 rfl))) (mvT hZ (own_g hw 160 rfl)) (mvT hZ (own_g hw 159 rfl)) (by decide) (backOf (W := 0) (rm20_1 l Z a0 hw [] a99 c127 kc127 (.ref c129) (.ref c126) T129.heap n0 Z129 (fq1_127.keep Kq129) ge_a99 (fq2_127.keep Kq129 nin0) (fq3_127.keep Kq129 nin0) (fq4_127.keep Kq129 nin0) (Or.inr ⟨_, _, _, rfl, fq0_129, (own_g hw 183 rfl)⟩) (fq5_127.keep Kq129 nin0) fq6_127 ge_c127) hZ (own_g hw 161 rfl) (own_g hw 2 rfl) (by decide) (by decide)) qa130 qc130 (g := (mkF m 151 A101 [(.ref c129), (.ref a99)])) rfl (by rw [hml]; show A101.size = _; rw [hA101]; rfl) (Steps.refl _) (argsL := [(.ref c129)]) (rest := []) (lenOf pd__28Ljava_2flang_2fObject_3b_29Z rfl) rfl (by show 2 * 0 + _ ≤ _; exact Nat.le_of_eq rfl) (hb hby at_151) (fun _ _ => ⟨rfl, rfl, (by decide : 10 + 0 ≤ _), (by decide : 31 + 0 ≤ _)⟩)
              dsimp only [Pt.U, Pt.locs, Pt.cells, Pt.slots] at X130 l130 y130 z130 st130 hQ130
              subst l130 y130 z130
              obtain ⟨rfl, Nq130, Kq130, fq0_130, fq1_130, fq2_130, fq3_130, fq4_130⟩ := hQ130
              have N130 := Fr.app N129 Nq130
              have Z130 : n0 ≤ T130.heap.size := Nat.le_trans Z129 Kq130.1
              have SZ130 : h0.size ≤ T130.heap.size := Nat.le_trans SZ129 Kq130.1
              have S0_130 := own_Sta_keep S0_129 Kq130 (allS (own_ns_exa (fq1_127.keep Kq129)) (allS (own_ns_exa (fq7_127.keep Kq129)) all0))
              have S1_130 := own_Sta_keep S1_129 Kq130 (allS (own_ns_exa (fq1_127.keep Kq129)) (allS (own_ns_exa (fq7_127.keep Kq129)) all0))
              have S2_130 := own_Sta_keep S2_129 Kq130 (allS (own_ns_exa (fq1_127.keep Kq129)) (allS (own_ns_exa (fq7_127.keep Kq129)) all0))
              have S3_130 := own_Sta_keep S3_129 Kq130 (allS (own_ns_exa (fq1_127.keep Kq129)) (allS (own_ns_exa (fq7_127.keep Kq129)) all0))
              have S4_130 := own_Sta_keep S4_129 Kq130 (allS (own_ns_exa (fq1_127.keep Kq129)) (allS (own_ns_exa (fq7_127.keep Kq129)) all0))
              have hk := Nat.le_trans hk Kq130.1
              refine own_trans st130 ?_
              show own_Ends p e below F (T130.setTop (mkF m 154 A101 [(.int (1 : Int32))]))
              refine own_step (fun _ k => XS.pop X130.here hx rfl (hb hby at_154) rfl rfl k) ?_
              show own_Ends p e below F (T130.setTop (mkF m 155 A101 []))
              refine own_step (fun _ k => XS.iload X130.here hx rfl (hb hby at_155) (by rw [hA101]; rfl) k) ?_
              show own_Ends p e below F (T130.setTop (mkF m 157 A101 [(.int (3 : Int32))]))
              refine own_step (fun _ k => XS.iconst X130.here hx rfl (hb hby at_157) k) ?_
              show own_Ends p e below F (T130.setTop (mkF m 158 A101 [(.int (3 : Int32)), (.int (3 : Int32))]))
              refine own_step (fun _ k => XS.icmpNo X130.here hx rfl (hb hby at_158) rfl (flt (by decide : ¬ ((3 : Int32) < (3 : Int32)))).1 k) ?_
              show own_Ends p e below F (T130.setTop (mkF m 161 A101 []))
              refine own_step (fun _ k => XS.aload X130.here hx rfl (hb hby at_161) (by rw [hA101]; rfl) rfl k) ?_
              show own_Ends p e below F (T130.setTop (mkF m 163 A101 [(.ref a99)]))
              refine own_step (fun _ k => XS.iloadN X130.here hx rfl (hb hby at_163) (by rw [hA101]; rfl) k) ?_
              show own_Ends p e below F (T130.setTop (mkF m 164 A101 [(.int p4), (.ref a99)]))
              obtain ⟨_, _, ⟨T131, L131, k131, n131⟩, -, X131, ⟨Lc131, hQ131, l131, y131, z131⟩, st131⟩ := Jvm.LawKit.callS X130 hx (y := (⟨"java/lang/Integer", "valueOf", "(I)Ljava/lang/Integer;"⟩ : MethodName)) hown (mvT hZ (own_g hw 136 rfl)) (mvT hZ (own_g hw 137 rfl)) (mvT hZ (own_g hw 138 rfl)) (mvT hZ (own_g hw 139 rfl)) (by decide) (backOf (W := 1) (rm17 l Z a0 hw [] p4 cc T130.heap n0 Z130 S3_130 S4_130 ((((((BC96.ext E99).keep Kq100 (ninS ne_cc_a99 nin0)).keep Kq126 nin0).keep Kq127 (ninS ne_cc_a99 nin0)).keep Kq129 nin0).keep Kq130 (ninS ne_cc_a99 (ninS ne_cc_c127 nin0)))) hZ (own_g hw 139 rfl) (own_g hw 138 rfl) (by decide) (by decide)) (g := (mkF m 164 A101 [(.int p4), (.ref a99)])) rfl (by rw [hml]; show A101.size = _; rw [hA101]; rfl) (argsL := [(.int p4)]) (rest := [(.ref a99)]) (lenOf pd__28I_29Ljava_2flang_2fInteger_3b rfl) rfl (by show 2 * 0 + _ ≤ _; exact Nat.le_of_eq rfl) (hb hby at_164) (fun _ _ => ⟨rfl, rfl, (by decide : 10 + 1 ≤ _), (by decide : 31 + 1 ≤ _)⟩)
              dsimp only [Pt.U, Pt.locs, Pt.cells, Pt.slots] at X131 l131 y131 z131 st131 hQ131
              subst l131 y131 z131
              obtain ⟨c131, rfl, Nq131, Kq131, fq0_131⟩ := hQ131
              have N131 := Fr.app N130 Nq131
              have Z131 : n0 ≤ T131.heap.size := Nat.le_trans Z130 Kq131.1
              have SZ131 : h0.size ≤ T131.heap.size := Nat.le_trans SZ130 Kq131.1
              have S0_131 := own_Sta_keep S0_130 Kq131 all0
              have S1_131 := own_Sta_keep S1_130 Kq131 all0
              have S2_131 := own_Sta_keep S2_130 Kq131 all0
              have S3_131 := own_Sta_keep S3_130 Kq131 all0
              have S4_131 := own_Sta_keep S4_130 Kq131 all0
              have hk := Nat.le_trans hk Kq131.1
              refine own_step st131 ?_
              show own_Ends p e below F (T131.setTop (mkF m 167 A101 [(.ref c131), (.ref a99)]))
              obtain ⟨cq132, kq132, qa132, qb132, qc132⟩ := isOf (s := (s.setVm vm96)) (T := T131) hZ rfl (fq0_130.keep Kq131)
              obtain ⟨_, _, ⟨T132, L132, k132, n132⟩, -, X132, ⟨Lc132, hQ132, l132, y132, z132⟩, st132⟩ := X131.virtualBack hx (y := (⟨"java/util/ArrayList", "add", "(Ljava/lang/Object;)Z"⟩ : MethodName)) (z := (⟨"java/util/ArrayList", "add", "(Ljava/lang/Object;)Z"⟩ : MethodName)) hown (mvT hZ (own_g hw 157 rfl)) (mvT hZ (own_g hw 158 rfl)) (notFace_of_selects (args := #[]) (mvT hZ (own_g hw 160 rfl))) (mvT hZ (own_g hw 160 rfl)) (mvT hZ (own_g hw 159 rfl)) (by decide) (backOf (W := 0) (rm20_2 l Z a0 hw [] a99 c127 kc127 (.ref c131) (.ref c126) (.ref c129) T131.heap n0 Z131 (fq0_130.keep Kq131) ge_a99 (fq1_130.keep Kq131 nin0) (fq2_130.keep Kq131 nin0) (fq3_130.keep Kq131 nin0) (Or.inr ⟨_, _, _, rfl, fq0_131, (own_g hw 183 rfl)⟩) (fq4_130.keep Kq131 nin0) fq6_127 ge_c127) hZ (own_g hw 161 rfl) (own_g hw 2 rfl) (by decide) (by decide)) qa132 qc132 (g := (mkF m 167 A101 [(.ref c131), (.ref a99)])) rfl (by rw [hml]; show A101.size = _; rw [hA101]; rfl) (Steps.refl _) (argsL := [(.ref c131)]) (rest := []) (lenOf pd__28Ljava_2flang_2fObject_3b_29Z rfl) rfl (by show 2 * 0 + _ ≤ _; exact Nat.le_of_eq rfl) (hb hby at_167) (fun _ _ => ⟨rfl, rfl, (by decide : 11 + 0 ≤ _), (by decide : 32 + 0 ≤ _)⟩)
              dsimp only [Pt.U, Pt.locs, Pt.cells, Pt.slots] at X132 l132 y132 z132 st132 hQ132
              subst l132 y132 z132
              obtain ⟨rfl, Nq132, Kq132, fq0_132, fq1_132, fq2_132, fq3_132, fq4_132⟩ := hQ132
              have N132 := Fr.app N131 Nq132
              have Z132 : n0 ≤ T132.heap.size := Nat.le_trans Z131 Kq132.1
              have SZ132 : h0.size ≤ T132.heap.size := Nat.le_trans SZ131 Kq132.1
              have S0_132 := own_Sta_keep S0_131 Kq132 (allS (own_ns_exa (fq0_130.keep Kq131)) (allS (own_ns_exa (((fq7_127.keep Kq129).keep Kq130).keep Kq131)) all0))
              have S1_132 := own_Sta_keep S1_131 Kq132 (allS (own_ns_exa (fq0_130.keep Kq131)) (allS (own_ns_exa (((fq7_127.keep Kq129).keep Kq130).keep Kq131)) all0))
              have S2_132 := own_Sta_keep S2_131 Kq132 (allS (own_ns_exa (fq0_130.keep Kq131)) (allS (own_ns_exa (((fq7_127.keep Kq129).keep Kq130).keep Kq131)) all0))
              have S3_132 := own_Sta_keep S3_131 Kq132 (allS (own_ns_exa (fq0_130.keep Kq131)) (allS (own_ns_exa (((fq7_127.keep Kq129).keep Kq130).keep Kq131)) all0))
              have S4_132 := own_Sta_keep S4_131 Kq132 (allS (own_ns_exa (fq0_130.keep Kq131)) (allS (own_ns_exa (((fq7_127.keep Kq129).keep Kq130).keep Kq131)) all0))
              have hk := Nat.le_trans hk Kq132.1
              refine own_trans st132 ?_
              show own_Ends p e below F (T132.setTop (mkF m 170 A101 [(.int (1 : Int32))]))
              refine own_step (fun _ k => XS.pop X132.here hx rfl (hb hby at_170) rfl rfl k) ?_
              show own_Ends p e below F (T132.setTop (mkF m 171 A101 []))
              obtain ⟨T133, h133, X133, e133, E133, A133, D133, -, st133⟩ := newO X132 hx hZ hown (own_g hw 26 rfl) (own_g hw 27 rfl) (own_g hw 28 rfl) rfl (g := (mkF m 171 A101 [])) rfl (hb hby at_171) (by decide) (by decide)
              obtain ⟨a133, g133⟩ : ∃ z, z = T132.heap.size := ⟨_, rfl⟩
              rw [← g133] at A133 D133 st133
              have ge_a133 : n0 ≤ a133 := Nat.le_trans Z132 (Nat.le_of_eq g133.symm)
              have sz_a133 : h0.size ≤ a133 := Nat.le_trans SZ132 (Nat.le_of_eq g133.symm)
              have ne_dd_a133 : dd ≠ a133 := Nat.ne_of_lt (by rw [g133]; exact ((((((((VD96.ext E99).keep Kq100 (ninS ne_dd_a99 nin0)).keep Kq126 nin0).keep Kq127 (ninS ne_dd_a99 nin0)).keep Kq129 nin0).keep Kq130 (ninS ne_dd_a99 (ninS ne_dd_c127 nin0))).keep Kq131 nin0).keep Kq132 (ninS ne_dd_a99 (ninS ne_dd_c127 nin0))).lt)
              have ne_cc_a133 : cc ≠ a133 := Nat.ne_of_lt (by rw [g133]; exact ((((((((BC96.ext E99).keep Kq100 (ninS ne_cc_a99 nin0)).keep Kq126 nin0).keep Kq127 (ninS ne_cc_a99 nin0)).keep Kq129 nin0).keep Kq130 (ninS ne_cc_a99 (ninS ne_cc_c127 nin0))).keep Kq131 nin0).keep Kq132 (ninS ne_cc_a99 (ninS ne_cc_c127 nin0))).lt)
              have ne_a99_a133 : a99 ≠ a133 := Nat.ne_of_lt (by rw [g133]; exact fq1_132.lt)
              have ne_c126_a133 : c126 ≠ a133 := Nat.ne_of_lt (by rw [g133]; exact (((((fq0_126.keep Kq127).keep Kq129).keep Kq130).keep Kq131).keep Kq132).lt)
              have ne_c127_a133 : c127 ≠ a133 := Nat.ne_of_lt (by rw [g133]; exact fq4_132.lt)
              have ne_c129_a133 : c129 ≠ a133 := Nat.ne_of_lt (by rw [g133]; exact (((fq0_129.keep Kq130).keep Kq131).keep Kq132).lt)
              have ne_c131_a133 : c131 ≠ a133 := Nat.ne_of_lt (by rw [g133]; exact (fq0_131.keep Kq132).lt)
              have Z133 : n0 ≤ h133.size := Nat.le_trans Z132 E133.1
              have SZ133 : h0.size ≤ h133.size := Nat.le_trans SZ132 E133.1
              have hk := Nat.le_trans hk E133.1
              have F133_rows : Fld Z h133 a133 "com/example/greater_than/greaterthan/page/Page" "rows" "Ljava/util/List;" .null := D133 (Or.inr (own_g hw 114 rfl)) (ty := (.object "java/util/List")) (by decide)
              have F133_previousCursor : Fld Z h133 a133 "com/example/greater_than/greaterthan/page/Page" "previousCursor" "Ljava/lang/String;" .null := D133 (Or.inr (own_g hw 116 rfl)) (ty := (.object "java/lang/String")) (by decide)
              have F133_nextCursor : Fld Z h133 a133 "com/example/greater_than/greaterthan/page/Page" "nextCursor" "Ljava/lang/String;" .null := D133 (Or.inr (own_g hw 118 rfl)) (ty := (.object "java/lang/String")) (by decide)
              refine own_step st133 ?_
              show own_Ends p e below F (T133.setTop (mkF m 174 A101 [(.ref a133)]))
              refine own_step (fun _ k => XS.dup X133.here hx rfl (hb hby at_174) rfl rfl k) ?_
              show own_Ends p e below F (T133.setTop (mkF m 175 A101 [(.ref a133), (.ref a133)]))
              refine own_step (fun _ k => XS.aload X133.here hx rfl (hb hby at_175) (by rw [hA101]; rfl) rfl k) ?_
              show own_Ends p e below F (T133.setTop (mkF m 177 A101 [(.ref a99), (.ref a133), (.ref a133)]))
              refine own_step (fun _ k => XS.aload X133.here hx rfl (hb hby at_177) (by rw [hA101]; rfl) rfl k) ?_
              show own_Ends p e below F (T133.setTop (mkF m 179 A101 [(.ref c92), (.ref a99), (.ref a133), (.ref a133)]))
              refine own_step (fun _ k => XS.aload X133.here hx rfl (hb hby at_179) (by rw [hA101]; rfl) hz94 k) ?_
              show own_Ends p e below F (T133.setTop (mkF m 181 A101 [z94, (.ref c92), (.ref a99), (.ref a133), (.ref a133)]))
              obtain ⟨_, _, ⟨T134, L134, k134, n134⟩, -, X134, ⟨Lc134, hQ134, l134, y134, z134⟩, st134⟩ := X133.specialBack hx (y := (⟨"com/example/greater_than/greaterthan/page/Page", "<init>", "(Ljava/util/List;Ljava/lang/String;Ljava/lang/String;)V"⟩ : MethodName)) rfl hown (mvT hZ (own_g hw 29 rfl)) (mvT hZ (own_g hw 30 rfl)) (mvT hZ (own_g hw 31 rfl)) (by decide) (backOf (W := 1) (rm5_3 l Z a0 hw [] a133 a99 c127 kc127 (.ref c126) (.ref c129) (.ref c131) (.ref c92) z94 ee ma mu mv mo h133 n0 Z133 A133 ge_a133 F133_rows F133_previousCursor F133_nextCursor (fq4_132.ext E133) (((((fq7_127.keep Kq129).keep Kq130).keep Kq131).keep Kq132).ext E133) (Or.inr ⟨_, _, _, rfl, ((((((fq0_126.keep Kq127).keep Kq129).keep Kq130).keep Kq131).keep Kq132).ext E133), (own_g hw 183 rfl)⟩) (Or.inr ⟨_, _, _, rfl, ((((fq0_129.keep Kq130).keep Kq131).keep Kq132).ext E133), (own_g hw 183 rfl)⟩) (Or.inr ⟨_, _, _, rfl, ((fq0_131.keep Kq132).ext E133), (own_g hw 183 rfl)⟩) (fq0_132.ext E133) (fq2_132.ext E133) (fq3_132.ext E133) (Sta.ext E133 S2_132) M_ma M_mu M_mv M_mo rfl hz94) hZ (own_g hw 31 rfl) (own_g hw 28 rfl) (by decide) (by decide)) (g := (mkF m 181 A101 [z94, (.ref c92), (.ref a99), (.ref a133), (.ref a133)])) rfl (by rw [hml]; show A101.size = _; rw [hA101]; rfl) (Steps.refl _) (a := a133) (argsL := [(.ref a99), (.ref c92), z94]) (rest := [(.ref a133)]) (lenOf pd__28Ljava_2futil_2fList_3bLjava_2flang_2fString_3bLjava_2flang_2fString_3b_29V rfl) rfl (by show 2 * 0 + _ ≤ _; exact Nat.le_of_eq rfl) (hb hby at_181) (fun _ _ => ⟨rfl, e133, (by decide : 12 + 3 ≤ _), (by decide : 35 + 8 ≤ _)⟩)
              dsimp only [Pt.U, Pt.locs, Pt.cells, Pt.slots] at X134 l134 y134 z134 st134 hQ134
              subst l134 y134 z134
              obtain ⟨rfl, Nq134, Kq134, fq0_134, fq1_134, fq2_134⟩ := hQ134
              have N134 := Fr.app N132 Nq134
              have Z134 : n0 ≤ T134.heap.size := Nat.le_trans Z133 Kq134.1
              have SZ134 : h0.size ≤ T134.heap.size := Nat.le_trans SZ133 Kq134.1
              have S0_134 := own_Sta_keep (Sta.ext E133 S0_132) Kq134 (allS (own_ns_exa A133) all0)
              have S1_134 := own_Sta_keep (Sta.ext E133 S1_132) Kq134 (allS (own_ns_exa A133) all0)
              have S2_134 := own_Sta_keep (Sta.ext E133 S2_132) Kq134 (allS (own_ns_exa A133) all0)
              have S3_134 := own_Sta_keep (Sta.ext E133 S3_132) Kq134 (allS (own_ns_exa A133) all0)
              have S4_134 := own_Sta_keep (Sta.ext E133 S4_132) Kq134 (allS (own_ns_exa A133) all0)
              have hk := Nat.le_trans hk Kq134.1
              refine own_trans st134 ?_
              show own_Ends p e below F (T134.setTop (mkF m 184 A101 [(.ref a133)]))
              obtain ⟨A135, hA135⟩ : ∃ z : Array Slot, z = #[.val (.int p1), .val (.int p2), .val (.int p3), .val (.int p4), .val (.int p5), .val (.int p6), .val (.int (1 : Int32)), .val (.int z76), .val (.int v81), .val (.int v83), .val (.int (3 : Int32)), .val (.int z87), .val (.ref c92), .val z94, .val (.ref a99), .val (.ref a133)] := ⟨_, rfl⟩
              refine own_step (fun _ k => XS.astore X134.here hx rfl (hb hby at_184) rfl rfl (l' := A135) (by rw [hA101, hA135]; exact rfl) k) ?_
              show own_Ends p e below F (T134.setTop (mkF m 186 A135 []))
              refine own_step (fun _ k => XS.aload X134.here hx rfl (hb hby at_186) (by rw [hA135]; rfl) rfl k) ?_
              show own_Ends p e below F (T134.setTop (mkF m 188 A135 [(.ref a133)]))
              obtain ⟨cq136, kq136, qa136, qb136, qc136⟩ := isOf (s := (s.setVm vm96)) (T := T134) hZ rfl fq0_134
              obtain ⟨_, _, ⟨T136, L136, k136, n136⟩, -, X136, ⟨Lc136, hQ136, l136, y136, z136⟩, st136⟩ := X134.virtualBack hx (y := (⟨"com/example/greater_than/greaterthan/page/Page", "hasPrevious", "()Z"⟩ : MethodName)) (z := (⟨"com/example/greater_than/greaterthan/page/Page", "hasPrevious", "()Z"⟩ : MethodName)) hown (mvT hZ (own_g hw 119 rfl)) (mvT hZ (own_g hw 120 rfl)) (notFace_of_selects (args := #[]) (mvT hZ (own_g hw 122 rfl))) (mvT hZ (own_g hw 122 rfl)) (mvT hZ (own_g hw 121 rfl)) (by decide) (backOf (W := 0) (rm15r l Z a0 hw [] a133 c92 T134.heap n0 Z134 fq1_134) hZ (own_g hw 123 rfl) (own_g hw 28 rfl) (by decide) (by decide)) qa136 qc136 (g := (mkF m 188 A135 [(.ref a133)])) rfl (by rw [hml]; show A135.size = _; rw [hA135]; rfl) (Steps.refl _) (argsL := []) (rest := []) (lenOf pd__28_29Z rfl) rfl (by show 2 * 0 + _ ≤ _; exact Nat.le_of_eq rfl) (hb hby at_188) (fun _ _ => ⟨rfl, rfl, (by decide : 15 + 0 ≤ _), (by decide : 43 + 0 ≤ _)⟩)
              dsimp only [Pt.U, Pt.locs, Pt.cells, Pt.slots] at X136 l136 y136 z136 st136 hQ136
              subst l136 y136 z136
              obtain ⟨rfl, Nq136, eq136⟩ := hQ136
              have N136 := Fr.app N134 Nq136
              refine own_trans st136 ?_
              show own_Ends p e below F (T136.setTop (mkF m 191 A135 [(.int (1 : Int32))]))
              refine own_step (fun _ k => XS.iload X136.here hx rfl (hb hby at_191) (by rw [hA135]; rfl) k) ?_
              show own_Ends p e below F (T136.setTop (mkF m 193 A135 [(.int (1 : Int32)), (.int (1 : Int32))]))
              refine own_step (fun _ k => XS.icmpNo X136.here hx rfl (hb hby at_193) rfl (teq (by decide : (1 : Int32) = (1 : Int32))).2 k) ?_
              show own_Ends p e below F (T136.setTop (mkF m 196 A135 []))
              refine own_step (fun _ k => XS.iconst X136.here hx rfl (hb hby at_196) k) ?_
              show own_Ends p e below F (T136.setTop (mkF m 197 A135 [(.int (1 : Int32))]))
              refine own_step (fun _ k => XS.goto X136.here hx rfl (pc0 := 197) (pc' := 201) rfl (hb hby at_197) (by decide) (by decide) k) ?_
              show own_Ends p e below F (T136.setTop (mkF m 201 A135 [(.int (1 : Int32))]))
              rw [hF]
              exact own_retW X136 hS (by rw [eq136]; exact hk) (v := (some (.int (nar .boolean (1 : Int32))))) (fun h => by rw [Bd.returns] at h; cases h) Bd.notSynchronized (fun fs hr => retN X136 hx (t := .boolean) Bd.returns (by simp) (hb hby at_201) hr) (by decide) (by decide) (by rw [eq136]; exact ⟨rfl, N136⟩)
            · refine own_step (fun _ k => XS.ifNo X127.here hx rfl (hb hby at_140) rfl ((if0 _ _).trans (feq c140_128).1) k) ?_
              show own_Ends p e below F (T127.setTop (mkF m 143 A101 [(.ref a99)]))
              refine own_step (fun _ k => XS.aconstNull X127.here hx rfl (hb hby at_143) k) ?_
              show own_Ends p e below F (T127.setTop (mkF m 144 A101 [.null, (.ref a99)]))
              refine own_step (fun _ k => XS.goto X127.here hx rfl (pc0 := 144) (pc' := 151) rfl (hb hby at_144) (by decide) (by decide) k) ?_
              show own_Ends p e below F (T127.setTop (mkF m 151 A101 [.null, (.ref a99)]))
              obtain ⟨cq137, kq137, qa137, qb137, qc137⟩ := isOf (s := (s.setVm vm96)) (T := T127) hZ rfl fq1_127
              obtain ⟨_, _, ⟨T137, L137, k137, n137⟩, -, X137, ⟨Lc137, hQ137, l137, y137, z137⟩, st137⟩ := X127.virtualBack hx (y := (⟨"java/util/ArrayList", "add", "(Ljava/lang/Object;)Z"⟩ : MethodName)) (z := (⟨"java/util/ArrayList", "add", "(Ljava/lang/Object;)Z"⟩ : MethodName)) hown (mvT hZ (own_g hw 157 rfl)) (mvT hZ (own_g hw 158 rfl)) (notFace_of_selects (args := #[]) (mvT hZ (own_g hw 160 rfl))) (mvT hZ (own_g hw 160 rfl)) (mvT hZ (own_g hw 159 rfl)) (by decide) (backOf (W := 0) (rm20_1 l Z a0 hw [] a99 c127 kc127 .null (.ref c126) T127.heap n0 Z127 fq1_127 ge_a99 fq2_127 fq3_127 fq4_127 (Or.inl rfl) fq5_127 fq6_127 ge_c127) hZ (own_g hw 161 rfl) (own_g hw 2 rfl) (by decide) (by decide)) qa137 qc137 (g := (mkF m 151 A101 [.null, (.ref a99)])) rfl (by rw [hml]; show A101.size = _; rw [hA101]; rfl) (Steps.refl _) (argsL := [.null]) (rest := []) (lenOf pd__28Ljava_2flang_2fObject_3b_29Z rfl) rfl (by show 2 * 0 + _ ≤ _; exact Nat.le_of_eq rfl) (hb hby at_151) (fun _ _ => ⟨rfl, rfl, (by decide : 9 + 0 ≤ _), (by decide : 30 + 0 ≤ _)⟩)
              dsimp only [Pt.U, Pt.locs, Pt.cells, Pt.slots] at X137 l137 y137 z137 st137 hQ137
              subst l137 y137 z137
              obtain ⟨rfl, Nq137, Kq137, fq0_137, fq1_137, fq2_137, fq3_137, fq4_137⟩ := hQ137
              have N137 := Fr.app N127 Nq137
              have Z137 : n0 ≤ T137.heap.size := Nat.le_trans Z127 Kq137.1
              have SZ137 : h0.size ≤ T137.heap.size := Nat.le_trans SZ127 Kq137.1
              have S0_137 := own_Sta_keep S0_127 Kq137 (allS (own_ns_exa fq1_127) (allS (own_ns_exa fq7_127) all0))
              have S1_137 := own_Sta_keep S1_127 Kq137 (allS (own_ns_exa fq1_127) (allS (own_ns_exa fq7_127) all0))
              have S2_137 := own_Sta_keep S2_127 Kq137 (allS (own_ns_exa fq1_127) (allS (own_ns_exa fq7_127) all0))
              have S3_137 := own_Sta_keep S3_127 Kq137 (allS (own_ns_exa fq1_127) (allS (own_ns_exa fq7_127) all0))
              have S4_137 := own_Sta_keep S4_127 Kq137 (allS (own_ns_exa fq1_127) (allS (own_ns_exa fq7_127) all0))
              have hk := Nat.le_trans hk Kq137.1
              refine own_trans st137 ?_
              show own_Ends p e below F (T137.setTop (mkF m 154 A101 [(.int (1 : Int32))]))
              refine own_step (fun _ k => XS.pop X137.here hx rfl (hb hby at_154) rfl rfl k) ?_
              show own_Ends p e below F (T137.setTop (mkF m 155 A101 []))
              refine own_step (fun _ k => XS.iload X137.here hx rfl (hb hby at_155) (by rw [hA101]; rfl) k) ?_
              show own_Ends p e below F (T137.setTop (mkF m 157 A101 [(.int (3 : Int32))]))
              refine own_step (fun _ k => XS.iconst X137.here hx rfl (hb hby at_157) k) ?_
              show own_Ends p e below F (T137.setTop (mkF m 158 A101 [(.int (3 : Int32)), (.int (3 : Int32))]))
              refine own_step (fun _ k => XS.icmpNo X137.here hx rfl (hb hby at_158) rfl (flt (by decide : ¬ ((3 : Int32) < (3 : Int32)))).1 k) ?_
              show own_Ends p e below F (T137.setTop (mkF m 161 A101 []))
              refine own_step (fun _ k => XS.aload X137.here hx rfl (hb hby at_161) (by rw [hA101]; rfl) rfl k) ?_
              show own_Ends p e below F (T137.setTop (mkF m 163 A101 [(.ref a99)]))
              refine own_step (fun _ k => XS.iloadN X137.here hx rfl (hb hby at_163) (by rw [hA101]; rfl) k) ?_
              show own_Ends p e below F (T137.setTop (mkF m 164 A101 [(.int p4), (.ref a99)]))
              obtain ⟨_, _, ⟨T138, L138, k138, n138⟩, -, X138, ⟨Lc138, hQ138, l138, y138, z138⟩, st138⟩ := Jvm.LawKit.callS X137 hx (y := (⟨"java/lang/Integer", "valueOf", "(I)Ljava/lang/Integer;"⟩ : MethodName)) hown (mvT hZ (own_g hw 136 rfl)) (mvT hZ (own_g hw 137 rfl)) (mvT hZ (own_g hw 138 rfl)) (mvT hZ (own_g hw 139 rfl)) (by decide) (backOf (W := 1) (rm17 l Z a0 hw [] p4 cc T137.heap n0 Z137 S3_137 S4_137 (((((BC96.ext E99).keep Kq100 (ninS ne_cc_a99 nin0)).keep Kq126 nin0).keep Kq127 (ninS ne_cc_a99 nin0)).keep Kq137 (ninS ne_cc_a99 (ninS ne_cc_c127 nin0)))) hZ (own_g hw 139 rfl) (own_g hw 138 rfl) (by decide) (by decide)) (g := (mkF m 164 A101 [(.int p4), (.ref a99)])) rfl (by rw [hml]; show A101.size = _; rw [hA101]; rfl) (argsL := [(.int p4)]) (rest := [(.ref a99)]) (lenOf pd__28I_29Ljava_2flang_2fInteger_3b rfl) rfl (by show 2 * 0 + _ ≤ _; exact Nat.le_of_eq rfl) (hb hby at_164) (fun _ _ => ⟨rfl, rfl, (by decide : 9 + 1 ≤ _), (by decide : 30 + 1 ≤ _)⟩)
              dsimp only [Pt.U, Pt.locs, Pt.cells, Pt.slots] at X138 l138 y138 z138 st138 hQ138
              subst l138 y138 z138
              obtain ⟨c138, rfl, Nq138, Kq138, fq0_138⟩ := hQ138
              have N138 := Fr.app N137 Nq138
              have Z138 : n0 ≤ T138.heap.size := Nat.le_trans Z137 Kq138.1
              have SZ138 : h0.size ≤ T138.heap.size := Nat.le_trans SZ137 Kq138.1
              have S0_138 := own_Sta_keep S0_137 Kq138 all0
              have S1_138 := own_Sta_keep S1_137 Kq138 all0
              have S2_138 := own_Sta_keep S2_137 Kq138 all0
              have S3_138 := own_Sta_keep S3_137 Kq138 all0
              have S4_138 := own_Sta_keep S4_137 Kq138 all0
              have hk := Nat.le_trans hk Kq138.1
              refine own_step st138 ?_
              show own_Ends p e below F (T138.setTop (mkF m 167 A101 [(.ref c138), (.ref a99)]))
              obtain ⟨cq139, kq139, qa139, qb139, qc139⟩ := isOf (s := (s.setVm vm96)) (T := T138) hZ rfl (fq0_137.keep Kq138)
              obtain ⟨_, _, ⟨T139, L139, k139, n139⟩, -, X139, ⟨Lc139, hQ139, l139, y139, z139⟩, st139⟩ := X138.virtualBack hx (y := (⟨"java/util/ArrayList", "add", "(Ljava/lang/Object;)Z"⟩ : MethodName)) (z := (⟨"java/util/ArrayList", "add", "(Ljava/lang/Object;)Z"⟩ : MethodName)) hown (mvT hZ (own_g hw 157 rfl)) (mvT hZ (own_g hw 158 rfl)) (notFace_of_selects (args := #[]) (mvT hZ (own_g hw 160 rfl))) (mvT hZ (own_g hw 160 rfl)) (mvT hZ (own_g hw 159 rfl)) (by decide) (backOf (W := 0) (rm20_2 l Z a0 hw [] a99 c127 kc127 (.ref c138) (.ref c126) .null T138.heap n0 Z138 (fq0_137.keep Kq138) ge_a99 (fq1_137.keep Kq138 nin0) (fq2_137.keep Kq138 nin0) (fq3_137.keep Kq138 nin0) (Or.inr ⟨_, _, _, rfl, fq0_138, (own_g hw 183 rfl)⟩) (fq4_137.keep Kq138 nin0) fq6_127 ge_c127) hZ (own_g hw 161 rfl) (own_g hw 2 rfl) (by decide) (by decide)) qa139 qc139 (g := (mkF m 167 A101 [(.ref c138), (.ref a99)])) rfl (by rw [hml]; show A101.size = _; rw [hA101]; rfl) (Steps.refl _) (argsL := [(.ref c138)]) (rest := []) (lenOf pd__28Ljava_2flang_2fObject_3b_29Z rfl) rfl (by show 2 * 0 + _ ≤ _; exact Nat.le_of_eq rfl) (hb hby at_167) (fun _ _ => ⟨rfl, rfl, (by decide : 10 + 0 ≤ _), (by decide : 31 + 0 ≤ _)⟩)
              dsimp only [Pt.U, Pt.locs, Pt.cells, Pt.slots] at X139 l139 y139 z139 st139 hQ139
              subst l139 y139 z139
              obtain ⟨rfl, Nq139, Kq139, fq0_139, fq1_139, fq2_139, fq3_139, fq4_139⟩ := hQ139
              have N139 := Fr.app N138 Nq139
              have Z139 : n0 ≤ T139.heap.size := Nat.le_trans Z138 Kq139.1
              have SZ139 : h0.size ≤ T139.heap.size := Nat.le_trans SZ138 Kq139.1
              have S0_139 := own_Sta_keep S0_138 Kq139 (allS (own_ns_exa (fq0_137.keep Kq138)) (allS (own_ns_exa ((fq7_127.keep Kq137).keep Kq138)) all0))
              have S1_139 := own_Sta_keep S1_138 Kq139 (allS (own_ns_exa (fq0_137.keep Kq138)) (allS (own_ns_exa ((fq7_127.keep Kq137).keep Kq138)) all0))
              have S2_139 := own_Sta_keep S2_138 Kq139 (allS (own_ns_exa (fq0_137.keep Kq138)) (allS (own_ns_exa ((fq7_127.keep Kq137).keep Kq138)) all0))
              have S3_139 := own_Sta_keep S3_138 Kq139 (allS (own_ns_exa (fq0_137.keep Kq138)) (allS (own_ns_exa ((fq7_127.keep Kq137).keep Kq138)) all0))
              have S4_139 := own_Sta_keep S4_138 Kq139 (allS (own_ns_exa (fq0_137.keep Kq138)) (allS (own_ns_exa ((fq7_127.keep Kq137).keep Kq138)) all0))
              have hk := Nat.le_trans hk Kq139.1
              refine own_trans st139 ?_
              show own_Ends p e below F (T139.setTop (mkF m 170 A101 [(.int (1 : Int32))]))
              refine own_step (fun _ k => XS.pop X139.here hx rfl (hb hby at_170) rfl rfl k) ?_
              show own_Ends p e below F (T139.setTop (mkF m 171 A101 []))
              obtain ⟨T140, h140, X140, e140, E140, A140, D140, -, st140⟩ := newO X139 hx hZ hown (own_g hw 26 rfl) (own_g hw 27 rfl) (own_g hw 28 rfl) rfl (g := (mkF m 171 A101 [])) rfl (hb hby at_171) (by decide) (by decide)
              obtain ⟨a140, g140⟩ : ∃ z, z = T139.heap.size := ⟨_, rfl⟩
              rw [← g140] at A140 D140 st140
              have ge_a140 : n0 ≤ a140 := Nat.le_trans Z139 (Nat.le_of_eq g140.symm)
              have sz_a140 : h0.size ≤ a140 := Nat.le_trans SZ139 (Nat.le_of_eq g140.symm)
              have ne_dd_a140 : dd ≠ a140 := Nat.ne_of_lt (by rw [g140]; exact (((((((VD96.ext E99).keep Kq100 (ninS ne_dd_a99 nin0)).keep Kq126 nin0).keep Kq127 (ninS ne_dd_a99 nin0)).keep Kq137 (ninS ne_dd_a99 (ninS ne_dd_c127 nin0))).keep Kq138 nin0).keep Kq139 (ninS ne_dd_a99 (ninS ne_dd_c127 nin0))).lt)
              have ne_cc_a140 : cc ≠ a140 := Nat.ne_of_lt (by rw [g140]; exact (((((((BC96.ext E99).keep Kq100 (ninS ne_cc_a99 nin0)).keep Kq126 nin0).keep Kq127 (ninS ne_cc_a99 nin0)).keep Kq137 (ninS ne_cc_a99 (ninS ne_cc_c127 nin0))).keep Kq138 nin0).keep Kq139 (ninS ne_cc_a99 (ninS ne_cc_c127 nin0))).lt)
              have ne_a99_a140 : a99 ≠ a140 := Nat.ne_of_lt (by rw [g140]; exact fq1_139.lt)
              have ne_c126_a140 : c126 ≠ a140 := Nat.ne_of_lt (by rw [g140]; exact ((((fq0_126.keep Kq127).keep Kq137).keep Kq138).keep Kq139).lt)
              have ne_c127_a140 : c127 ≠ a140 := Nat.ne_of_lt (by rw [g140]; exact fq4_139.lt)
              have ne_c138_a140 : c138 ≠ a140 := Nat.ne_of_lt (by rw [g140]; exact (fq0_138.keep Kq139).lt)
              have Z140 : n0 ≤ h140.size := Nat.le_trans Z139 E140.1
              have SZ140 : h0.size ≤ h140.size := Nat.le_trans SZ139 E140.1
              have hk := Nat.le_trans hk E140.1
              have F140_rows : Fld Z h140 a140 "com/example/greater_than/greaterthan/page/Page" "rows" "Ljava/util/List;" .null := D140 (Or.inr (own_g hw 114 rfl)) (ty := (.object "java/util/List")) (by decide)
              have F140_previousCursor : Fld Z h140 a140 "com/example/greater_than/greaterthan/page/Page" "previousCursor" "Ljava/lang/String;" .null := D140 (Or.inr (own_g hw 116 rfl)) (ty := (.object "java/lang/String")) (by decide)
              have F140_nextCursor : Fld Z h140 a140 "com/example/greater_than/greaterthan/page/Page" "nextCursor" "Ljava/lang/String;" .null := D140 (Or.inr (own_g hw 118 rfl)) (ty := (.object "java/lang/String")) (by decide)
              refine own_step st140 ?_
              show own_Ends p e below F (T140.setTop (mkF m 174 A101 [(.ref a140)]))
              refine own_step (fun _ k => XS.dup X140.here hx rfl (hb hby at_174) rfl rfl k) ?_
              show own_Ends p e below F (T140.setTop (mkF m 175 A101 [(.ref a140), (.ref a140)]))
              refine own_step (fun _ k => XS.aload X140.here hx rfl (hb hby at_175) (by rw [hA101]; rfl) rfl k) ?_
              show own_Ends p e below F (T140.setTop (mkF m 177 A101 [(.ref a99), (.ref a140), (.ref a140)]))
              refine own_step (fun _ k => XS.aload X140.here hx rfl (hb hby at_177) (by rw [hA101]; rfl) rfl k) ?_
              show own_Ends p e below F (T140.setTop (mkF m 179 A101 [(.ref c92), (.ref a99), (.ref a140), (.ref a140)]))
              refine own_step (fun _ k => XS.aload X140.here hx rfl (hb hby at_179) (by rw [hA101]; rfl) hz94 k) ?_
              show own_Ends p e below F (T140.setTop (mkF m 181 A101 [z94, (.ref c92), (.ref a99), (.ref a140), (.ref a140)]))
              obtain ⟨_, _, ⟨T141, L141, k141, n141⟩, -, X141, ⟨Lc141, hQ141, l141, y141, z141⟩, st141⟩ := X140.specialBack hx (y := (⟨"com/example/greater_than/greaterthan/page/Page", "<init>", "(Ljava/util/List;Ljava/lang/String;Ljava/lang/String;)V"⟩ : MethodName)) rfl hown (mvT hZ (own_g hw 29 rfl)) (mvT hZ (own_g hw 30 rfl)) (mvT hZ (own_g hw 31 rfl)) (by decide) (backOf (W := 1) (rm5_3 l Z a0 hw [] a140 a99 c127 kc127 (.ref c126) .null (.ref c138) (.ref c92) z94 ee ma mu mv mo h140 n0 Z140 A140 ge_a140 F140_rows F140_previousCursor F140_nextCursor (fq4_139.ext E140) ((((fq7_127.keep Kq137).keep Kq138).keep Kq139).ext E140) (Or.inr ⟨_, _, _, rfl, (((((fq0_126.keep Kq127).keep Kq137).keep Kq138).keep Kq139).ext E140), (own_g hw 183 rfl)⟩) (Or.inl rfl) (Or.inr ⟨_, _, _, rfl, ((fq0_138.keep Kq139).ext E140), (own_g hw 183 rfl)⟩) (fq0_139.ext E140) (fq2_139.ext E140) (fq3_139.ext E140) (Sta.ext E140 S2_139) M_ma M_mu M_mv M_mo rfl hz94) hZ (own_g hw 31 rfl) (own_g hw 28 rfl) (by decide) (by decide)) (g := (mkF m 181 A101 [z94, (.ref c92), (.ref a99), (.ref a140), (.ref a140)])) rfl (by rw [hml]; show A101.size = _; rw [hA101]; rfl) (Steps.refl _) (a := a140) (argsL := [(.ref a99), (.ref c92), z94]) (rest := [(.ref a140)]) (lenOf pd__28Ljava_2futil_2fList_3bLjava_2flang_2fString_3bLjava_2flang_2fString_3b_29V rfl) rfl (by show 2 * 0 + _ ≤ _; exact Nat.le_of_eq rfl) (hb hby at_181) (fun _ _ => ⟨rfl, e140, (by decide : 11 + 3 ≤ _), (by decide : 34 + 8 ≤ _)⟩)
              dsimp only [Pt.U, Pt.locs, Pt.cells, Pt.slots] at X141 l141 y141 z141 st141 hQ141
              subst l141 y141 z141
              obtain ⟨rfl, Nq141, Kq141, fq0_141, fq1_141, fq2_141⟩ := hQ141
              have N141 := Fr.app N139 Nq141
              have Z141 : n0 ≤ T141.heap.size := Nat.le_trans Z140 Kq141.1
              have SZ141 : h0.size ≤ T141.heap.size := Nat.le_trans SZ140 Kq141.1
              have S0_141 := own_Sta_keep (Sta.ext E140 S0_139) Kq141 (allS (own_ns_exa A140) all0)
              have S1_141 := own_Sta_keep (Sta.ext E140 S1_139) Kq141 (allS (own_ns_exa A140) all0)
              have S2_141 := own_Sta_keep (Sta.ext E140 S2_139) Kq141 (allS (own_ns_exa A140) all0)
              have S3_141 := own_Sta_keep (Sta.ext E140 S3_139) Kq141 (allS (own_ns_exa A140) all0)
              have S4_141 := own_Sta_keep (Sta.ext E140 S4_139) Kq141 (allS (own_ns_exa A140) all0)
              have hk := Nat.le_trans hk Kq141.1
              refine own_trans st141 ?_
              show own_Ends p e below F (T141.setTop (mkF m 184 A101 [(.ref a140)]))
              obtain ⟨A142, hA142⟩ : ∃ z : Array Slot, z = #[.val (.int p1), .val (.int p2), .val (.int p3), .val (.int p4), .val (.int p5), .val (.int p6), .val (.int (1 : Int32)), .val (.int z76), .val (.int v81), .val (.int v83), .val (.int (3 : Int32)), .val (.int z87), .val (.ref c92), .val z94, .val (.ref a99), .val (.ref a140)] := ⟨_, rfl⟩
              refine own_step (fun _ k => XS.astore X141.here hx rfl (hb hby at_184) rfl rfl (l' := A142) (by rw [hA101, hA142]; exact rfl) k) ?_
              show own_Ends p e below F (T141.setTop (mkF m 186 A142 []))
              refine own_step (fun _ k => XS.aload X141.here hx rfl (hb hby at_186) (by rw [hA142]; rfl) rfl k) ?_
              show own_Ends p e below F (T141.setTop (mkF m 188 A142 [(.ref a140)]))
              obtain ⟨cq143, kq143, qa143, qb143, qc143⟩ := isOf (s := (s.setVm vm96)) (T := T141) hZ rfl fq0_141
              obtain ⟨_, _, ⟨T143, L143, k143, n143⟩, -, X143, ⟨Lc143, hQ143, l143, y143, z143⟩, st143⟩ := X141.virtualBack hx (y := (⟨"com/example/greater_than/greaterthan/page/Page", "hasPrevious", "()Z"⟩ : MethodName)) (z := (⟨"com/example/greater_than/greaterthan/page/Page", "hasPrevious", "()Z"⟩ : MethodName)) hown (mvT hZ (own_g hw 119 rfl)) (mvT hZ (own_g hw 120 rfl)) (notFace_of_selects (args := #[]) (mvT hZ (own_g hw 122 rfl))) (mvT hZ (own_g hw 122 rfl)) (mvT hZ (own_g hw 121 rfl)) (by decide) (backOf (W := 0) (rm15r l Z a0 hw [] a140 c92 T141.heap n0 Z141 fq1_141) hZ (own_g hw 123 rfl) (own_g hw 28 rfl) (by decide) (by decide)) qa143 qc143 (g := (mkF m 188 A142 [(.ref a140)])) rfl (by rw [hml]; show A142.size = _; rw [hA142]; rfl) (Steps.refl _) (argsL := []) (rest := []) (lenOf pd__28_29Z rfl) rfl (by show 2 * 0 + _ ≤ _; exact Nat.le_of_eq rfl) (hb hby at_188) (fun _ _ => ⟨rfl, rfl, (by decide : 14 + 0 ≤ _), (by decide : 42 + 0 ≤ _)⟩)
              dsimp only [Pt.U, Pt.locs, Pt.cells, Pt.slots] at X143 l143 y143 z143 st143 hQ143
              subst l143 y143 z143
              obtain ⟨rfl, Nq143, eq143⟩ := hQ143
              have N143 := Fr.app N141 Nq143
              refine own_trans st143 ?_
              show own_Ends p e below F (T143.setTop (mkF m 191 A142 [(.int (1 : Int32))]))
              refine own_step (fun _ k => XS.iload X143.here hx rfl (hb hby at_191) (by rw [hA142]; rfl) k) ?_
              show own_Ends p e below F (T143.setTop (mkF m 193 A142 [(.int (1 : Int32)), (.int (1 : Int32))]))
              refine own_step (fun _ k => XS.icmpNo X143.here hx rfl (hb hby at_193) rfl (teq (by decide : (1 : Int32) = (1 : Int32))).2 k) ?_
              show own_Ends p e below F (T143.setTop (mkF m 196 A142 []))
              refine own_step (fun _ k => XS.iconst X143.here hx rfl (hb hby at_196) k) ?_
              show own_Ends p e below F (T143.setTop (mkF m 197 A142 [(.int (1 : Int32))]))
              refine own_step (fun _ k => XS.goto X143.here hx rfl (pc0 := 197) (pc' := 201) rfl (hb hby at_197) (by decide) (by decide) k) ?_
              show own_Ends p e below F (T143.setTop (mkF m 201 A142 [(.int (1 : Int32))]))
              rw [hF]
              exact own_retW X143 hS (by rw [eq143]; exact hk) (v := (some (.int (nar .boolean (1 : Int32))))) (fun h => by rw [Bd.returns] at h; cases h) Bd.notSynchronized (fun fs hr => retN X143 hx (t := .boolean) Bd.returns (by simp) (hb hby at_201) hr) (by decide) (by decide) (by rw [eq143]; exact ⟨rfl, N143⟩)
        by_cases c87_144 : z76 = (0 : Int32)
        · refine own_step (fun _ k => XS.ifYes X92.here hx rfl (pc0 := 87) (pc' := 101) rfl (hb hby at_87) rfl ((if0 _ _).trans (teq c87_144).1) (by decide) (by decide) k) ?_
          show own_Ends p e below F (T92.setTop (mkF m 101 A93 []))
          refine own_step (fun _ k => XS.aconstNull X92.here hx rfl (hb hby at_101) k) ?_
          show own_Ends p e below F (T92.setTop (mkF m 102 A93 [.null]))
          rw [hA93]
          exact J87_95 _ _ _ _ (own_mono X92 (by decide) (by decide)) rfl N92 _ rfl Z92 SZ92 hZ hown _ hS hk S0_92 S1_92 S2_92 S3_92 S4_92 (VD.keep Kq92 nin0) (XD.keep Kq92) (BC.keep Kq92 nin0)
        · refine own_step (fun _ k => XS.ifNo X92.here hx rfl (hb hby at_87) rfl ((if0 _ _).trans (feq c87_144).1) k) ?_
          show own_Ends p e below F (T92.setTop (mkF m 90 A93 []))
          refine own_step (fun _ k => XS.iload X92.here hx rfl (hb hby at_90) (by rw [hA93]; rfl) k) ?_
          show own_Ends p e below F (T92.setTop (mkF m 92 A93 [(.int v83)]))
          refine own_step (fun _ k => XS.iloadN X92.here hx rfl (hb hby at_92) (by rw [hA93]; rfl) k) ?_
          show own_Ends p e below F (T92.setTop (mkF m 93 A93 [(.int p4), (.int v83)]))
          refine own_step (fun _ k => XS.iload X92.here hx rfl (hb hby at_93) (by rw [hA93]; rfl) k) ?_
          show own_Ends p e below F (T92.setTop (mkF m 95 A93 [(.int p5), (.int p4), (.int v83)]))
          obtain ⟨_, _, ⟨T145, L145, k145, n145⟩, -, X145, hS145, gr145, ⟨Lc145, hQ145, l145, y145, z145⟩, st145⟩ := callSS X92 hx (y := (⟨"com/example/greater_than/greaterthan/page/PageHasPreviousPinLaw", "drawn", "(III)Ljava/lang/String;"⟩ : MethodName)) hown (mvT hZ (own_g hw 124 rfl)) (mvT hZ (own_g hw 125 rfl)) (mvT hZ (own_g hw 126 rfl)) (mvT hZ (own_g hw 127 rfl)) (by decide) (backOfS (W := 0) (rm16 l Z a0 hw [] v83 p4 p5 zc T92.heap n0 Z92 S0_92 hz) hZ (own_g hw 127 rfl) (own_g hw 126 rfl) (by decide) (by decide)) (g := (mkF m 95 A93 [(.int p5), (.int p4), (.int v83)])) rfl (by rw [hml]; show A93.size = _; rw [hA93]; rfl) (argsL := [(.int v83), (.int p4), (.int p5)]) (rest := []) (lenOf pd__28III_29Ljava_2flang_2fString_3b rfl) rfl (by show 2 * 0 + _ ≤ _; exact Nat.le_of_eq rfl) (hb hby at_95) (fun _ _ => ⟨rfl, rfl, (by decide : 3 + 3 ≤ _), (by decide : 8 + 8 ≤ _)⟩)
          dsimp only [Pt.U, Pt.locs, Pt.cells, Pt.slots] at X145 l145 y145 z145 st145 hQ145 hS145 gr145
          subst l145 y145 z145
          obtain ⟨c145, rfl, Nq145, Kq145⟩ := hQ145
          have N145 := Fr.app N92 Nq145
          have Z145 : n0 ≤ T145.heap.size := Nat.le_trans Z92 Kq145.1
          have SZ145 : h0.size ≤ T145.heap.size := Nat.le_trans SZ92 Kq145.1
          have S0_145 := own_Sta_keep S0_92 Kq145 all0
          have S1_145 := own_Sta_keep S1_92 Kq145 all0
          have S2_145 := own_Sta_keep S2_92 Kq145 all0
          have S3_145 := own_Sta_keep S3_92 Kq145 all0
          have S4_145 := own_Sta_keep S4_92 Kq145 all0
          have hZ := own_warm hZ hS145
          have hown := own_find hown hS145
          have hS := foldS hS (by exact hk) hS145 gr145
          have hk := Nat.le_refl T145.heap.size
          refine own_trans st145 ?_
          show own_Ends p e below F (T145.setTop (mkF m 98 A93 [(.ref c145)]))
          refine own_step (fun _ k => XS.goto X145.here hx rfl (pc0 := 98) (pc' := 102) rfl (hb hby at_98) (by decide) (by decide) k) ?_
          show own_Ends p e below F (T145.setTop (mkF m 102 A93 [(.ref c145)]))
          rw [hA93]
          exact J87_95 _ _ _ _ X145 rfl N145 _ rfl Z145 SZ145 hZ hown _ hS hk S0_145 S1_145 S2_145 S3_145 S4_145 ((VD.keep Kq92 nin0).keep Kq145 nin0) ((XD.keep Kq92).keep Kq145) ((BC.keep Kq92 nin0).keep Kq145 nin0)
      by_cases c57_146 : (p1 &&& (256 : Int32)) = (0 : Int32)
      · refine own_step (fun _ k => XS.ifYes X0.here hx rfl (pc0 := 57) (pc' := 64) rfl (hb hby at_57) rfl ((if0 _ _).trans (teq c57_146).1) (by decide) (by decide) k) ?_
        show own_Ends p e below F (s₁.setTop (mkF m 64 A86 []))
        refine own_step (fun _ k => XS.iconst X0.here hx rfl (hb hby at_64) k) ?_
        show own_Ends p e below F (s₁.setTop (mkF m 65 A86 [(.int (0 : Int32))]))
        rw [hA86]
        exact J57_88 _ (by simp only [if_true, if_false, c57_146])
      · refine own_step (fun _ k => XS.ifNo X0.here hx rfl (hb hby at_57) rfl ((if0 _ _).trans (feq c57_146).1) k) ?_
        show own_Ends p e below F (s₁.setTop (mkF m 60 A86 []))
        refine own_step (fun _ k => XS.iconst X0.here hx rfl (hb hby at_60) k) ?_
        show own_Ends p e below F (s₁.setTop (mkF m 61 A86 [(.int (1 : Int32))]))
        refine own_step (fun _ k => XS.goto X0.here hx rfl (pc0 := 61) (pc' := 65) rfl (hb hby at_61) (by decide) (by decide) k) ?_
        show own_Ends p e below F (s₁.setTop (mkF m 65 A86 [(.int (1 : Int32))]))
        rw [hA86]
        exact J57_88 _ (by simp only [if_true, if_false, c57_146])
    by_cases c16_147 : (p1 &&& (2 : Int32)) = (0 : Int32)
    · refine own_step (fun _ k => XS.ifYes X0.here hx rfl (pc0 := 16) (pc' := 23) rfl (hb hby at_16) rfl ((if0 _ _).trans (teq c16_147).1) (by decide) (by decide) k) ?_
      show own_Ends p e below F (s₁.setTop (mkF m 23 A75 []))
      refine own_step (fun _ k => XS.iconst X0.here hx rfl (hb hby at_23) k) ?_
      show own_Ends p e below F (s₁.setTop (mkF m 24 A75 [(.int (0 : Int32))]))
      rw [hA75]
      exact J16_77 _ (by simp only [if_true, if_false, c16_147])
    · refine own_step (fun _ k => XS.ifNo X0.here hx rfl (hb hby at_16) rfl ((if0 _ _).trans (feq c16_147).1) k) ?_
      show own_Ends p e below F (s₁.setTop (mkF m 19 A75 []))
      refine own_step (fun _ k => XS.iconst X0.here hx rfl (hb hby at_19) k) ?_
      show own_Ends p e below F (s₁.setTop (mkF m 20 A75 [(.int (1 : Int32))]))
      refine own_step (fun _ k => XS.goto X0.here hx rfl (pc0 := 20) (pc' := 24) rfl (hb hby at_20) (by decide) (by decide) k) ?_
      show own_Ends p e below F (s₁.setTop (mkF m 24 A75 [(.int (1 : Int32))]))
      rw [hA75]
      exact J16_77 _ (by simp only [if_true, if_false, c16_147])

theorem own_scstart {Z : State} {args : Array Value} (h1 : (Jvm.Cond.initializedFor "java/lang/String" "COMPACT_STRINGS" "Z").before args Z = true) (h2 : (Jvm.Cond.isInt (Jvm.Term.static "java/lang/String" "COMPACT_STRINGS" "Z")).before args Z = true) (h3 : (Jvm.Cond.not (Jvm.Cond.eq (Jvm.Term.static "java/lang/String" "COMPACT_STRINGS" "Z") (Jvm.Term.int (0 : Int32)))).before args Z = true) : ∃ z : Int32, Sta Z Z.heap "java/lang/String" "COMPACT_STRINGS" "Z" (.int z) ∧ ¬ z = 0 := by
  obtain ⟨z, e⟩ := is_v (Cond.before_iff.mp h2)
  refine ⟨z, Sta.start e (Or.inl h1), ?_⟩
  have q := not_v (Cond.before_iff.mp h3)
  have q2 : (Jvm.Cond.eq (Jvm.Term.static "java/lang/String" "COMPACT_STRINGS" "Z") (Jvm.Term.int (0 : Int32))).value args Z none Z [] = some (decide (z = 0)) := by simp only [Cond.value, e]; first | done | rfl
  exact gotF q2 q

theorem own_mir {tb : Tables} {e : Env} {args : Array Value} {Z : State} {C : String} (h : pmirrorMade C tb e args Z) : ∃ m, Mir Z C m := by
  obtain ⟨c, k, m, h1, h2, h3, h4⟩ := h
  exact ⟨m, c, k, h1, h2, h3, h4⟩

set_option maxRecDepth 65536 in
set_option maxHeartbeats 40000000 in
theorem comes_1 {Post : Tables → Env → Array Value → State → Outcome → State → Prop} (hpost : ∀ tb e args s v u, (limb_1_1.after args s (.returned v) u = true ∧ limb_1_2.after args s (.returned v) u = true ∧ True) → ReturnedEndW s (.returned v) u (Jvm.fieldLocs frame_1_writes args s ++ Jvm.arrayLocs frame_1_arrays args s ++ Jvm.staticLocs frame_1_statics s) 40 1216 → Post tb e args s (.returned v) u) :
    ArmFor flags0 classFile x code maxLocals ret World_1 tables_1 room_1 Calls_1 rest_1 Pre_1 Post := by
  intro l hfl _ _ p e ha hc hk s m args below hf hA hF happ hP
  obtain ⟨hcalls, hrest, hpre⟩ := hP
  obtain ⟨-, -, -, hnamed, -, -, -, hat⟩ := (Spec.applies_iff hf).mp happ
  obtain ⟨hg, hn⟩ := and_e (Cond.before_iff.mp (show (Jvm.Cond.and given_1 narrow_1).before args s = true from hpre))
  obtain ⟨g0, r0⟩ := and_e hg
  obtain ⟨g1, r1⟩ := and_e r0
  obtain ⟨g2, r2⟩ := and_e r1
  obtain ⟨g3, r3⟩ := and_e r2
  obtain ⟨g4, r4⟩ := and_e r3
  obtain ⟨g5, r5⟩ := and_e r4
  have g6 := r5
  obtain ⟨w0, w1, w2, w3, w4, w5, rfl⟩ : ∃ w0 w1 w2 w3 w4 w5 : Value, args = #[w0, w1, w2, w3, w4, w5] := by
    have hs : args.size = 6 := by simpa [Cond.value, given_1] using g0
    obtain ⟨L⟩ := args
    match L, hs with
    | [w0, w1, w2, w3, w4, w5], _ => exact ⟨w0, w1, w2, w3, w4, w5, rfl⟩
  have hw := fun d (hd : d ∈ tables_1) => atoms_spec (ws := Jvm.Cond.code x code maxLocals ret :: tables_1) hat d (List.mem_cons_of_mem _ hd)
  have hfit : Fit s := fun {y c} hc i hi => by
    obtain ⟨ha, rfl⟩ := Array.getElem?_eq_some_iff.mp hc
    have q := List.all_eq_true.mp ((Array.all_eq_true_iff_forall_mem.mp hF) _ (Array.getElem_mem ha)) i (List.mem_range.mpr hi)
    simpa [Array.getElem?_eq_getElem hi] using q
  obtain ⟨i0, ei0⟩ := is_v g1
  obtain rfl : w0 = (.int i0) := Option.some.inj ei0
  obtain ⟨i1, ei1⟩ := is_v g2
  obtain rfl : w1 = (.int i1) := Option.some.inj ei1
  obtain ⟨i2, ei2⟩ := is_v g3
  obtain rfl : w2 = (.int i2) := Option.some.inj ei2
  obtain ⟨i3, ei3⟩ := is_v g4
  obtain rfl : w3 = (.int i3) := Option.some.inj ei3
  obtain ⟨i4, ei4⟩ := is_v g5
  obtain rfl : w4 = (.int i4) := Option.some.inj ei4
  obtain ⟨i5, ei5⟩ := is_v g6
  obtain rfl : w5 = (.int i5) := Option.some.inj ei5
  obtain ⟨hst, -⟩ := atoms_of (own := restOwn_1) jdkStatics_1 (by rw [← rest_1_c_eq]; exact hrest)
  obtain ⟨zc, SC, hz⟩ := own_scstart (hst _ (List.mem_of_getElem? (i := 17) rfl)) (hst _ (List.mem_of_getElem? (i := 18) rfl)) (hst _ (List.mem_of_getElem? (i := 19) rfl))
  obtain ⟨dd, edd⟩ := arr_v (Cond.before_iff.mp (hst _ (List.mem_of_getElem? (i := 6) rfl)))
  obtain ⟨cd, AD⟩ := Arr.start edd (Cond.before_iff.mp (hst _ (List.mem_of_getElem? (i := 6) rfl)))
  obtain ⟨qd, zd⟩ := own_len0 edd AD (Cond.before_iff.mp (hst _ (List.mem_of_getElem? (i := 8) rfl)))
  have SD : Sta s s.heap "java/util/ArrayList" "DEFAULTCAPACITY_EMPTY_ELEMENTDATA" "[Ljava/lang/Object;" (.ref dd) := Sta.start edd (Or.inr ⟨(own_g hw 2 rfl), hst _ (List.mem_of_getElem? (i := 2) rfl)⟩)
  have VD : Arv s s.heap dd cd.cls (.object "java/lang/Object") (0 : Int32) [] .null := Arv.start hfit AD qd zd (by decide) rfl trivial
  have XD : Exa s s.heap dd "[Ljava/lang/Object;" := Exa.start edd (Cond.before_iff.mp (hst _ (List.mem_of_getElem? (i := 7) rfl)))
  obtain ⟨ee, eee⟩ := exa_v (Cond.before_iff.mp (hst _ (List.mem_of_getElem? (i := 4) rfl)))
  have SE : Sta s s.heap "java/util/ArrayList" "EMPTY_ELEMENTDATA" "[Ljava/lang/Object;" (.ref ee) := Sta.start eee (Or.inl (hst _ (List.mem_of_getElem? (i := 1) rfl)))
  have SH : Sta s s.heap "java/lang/Integer$IntegerCache" "high" "I" (.int (127 : Int32)) := Sta.start (eqv_i (Term.int_eval (127)) (Cond.before_iff.mp (hst _ (List.mem_of_getElem? (i := 12) rfl)))) (Or.inl (hst _ (List.mem_of_getElem? (i := 10) rfl)))
  obtain ⟨cc, ecc⟩ := arr_v (Cond.before_iff.mp (hst _ (List.mem_of_getElem? (i := 13) rfl)))
  obtain ⟨cK, AK⟩ := Arr.start ecc (Cond.before_iff.mp (hst _ (List.mem_of_getElem? (i := 13) rfl)))
  obtain ⟨qK, zK⟩ := own_len0 ecc AK (Cond.before_iff.mp (hst _ (List.mem_of_getElem? (i := 15) rfl)))
  have SK : Sta s s.heap "java/lang/Integer$IntegerCache" "cache" "[Ljava/lang/Integer;" (.ref cc) := Sta.start ecc (Or.inr ⟨(own_g hw 141 rfl), (hst _ (List.mem_of_getElem? (i := 11) rfl))⟩)
  have BC : own_Bx s s.heap cc := own_Bx.start (val := fun j => .int (j - 128)) (Bxs.start (fun _ => ecc) AK qK zK (by decide) (Cond.before_iff.mp (hst _ (List.mem_of_getElem? (i := 16) rfl))) (fun X j hj hq => eqv_i (by simp [Term.eval, idx_at hj, (back32 hj).1]) hq))
  obtain ⟨mo, M_mo⟩ := own_mir hcalls.1
  obtain ⟨ma, M_ma⟩ := own_mir hcalls.2.1
  obtain ⟨mu, M_mu⟩ := own_mir hcalls.2.2.1
  obtain ⟨mv, M_mv⟩ := own_mir hcalls.2.2.2.1
  obtain ⟨n, o, h1, h2, h3, _, L, rfl, ⟨rfl, N⟩, hq⟩ := rm0 l s _ hw tables_1 i0 i1 i2 i3 i4 i5 zc dd _ ee cc ma mu mv mo s.heap s.heap.size (Nat.le_refl _) SC hz SD VD XD SE SH SK BC M_ma M_mu M_mv M_mo p e ha hc hk s m _ below hf ((Spec.applies_iff_loose hf).mp happ).1 ⟨rfl, State.Warmed39.refl s, rfl⟩ trivial
  refine ⟨n, _, h1, h2, h3, hpost _ _ _ _ _ _ ⟨Cond.after_iff.mpr rfl, Cond.after_iff.mpr (eq_i res_at (Term.int_eval (1)) rfl), trivial⟩ ⟨hq.1, hq.2.1, hq.2.2.1, (hq.2.2.2.sift fun y hy => Or.inr (N y hy)).mono (by decide) (by decide)⟩⟩
theorem main_1_1 : Claimed_1_1 := comes_1 fun _ _ _ _ _ _ h hF => ⟨h.1, hF⟩
theorem main_1_2 : Claimed_1_2 := comes_1 fun _ _ _ _ _ _ h hF => ⟨h.2.1, hF⟩

end Jvm.Pilot.@@N@@
namespace Jvm.Pilot.@@N@@
open Jvm Jvm.ClassFile Sem Op Lib Jvm.Free Jvm.Stand Jvm.Pilot.@@N@@.Jvm.D
/-! MADE BY PROGRAM (witnessworld.py) out of the Statement's table words and the real class files: 41 classes; the members and pool entries that the words name. The judged class is class 1, her method 2. -/
namespace start1
open Jvm.ClassFile
def u (s : String) : CpInfo := .utf8 (stringToUtf16 s)
/-- a pool by its gaps: so many unusable entries, then the entry; so many at the end -/
def gap : Nat → List CpInfo → List CpInfo
  | 0, r => r
  | n + 1, r => .unusable :: gap n r
def poolList (es : List (Nat × CpInfo)) (last : Nat) : List CpInfo := es.foldr (fun e r => gap e.1 (e.2 :: r)) (gap last [])
def pool (es : List (Nat × CpInfo)) (last : Nat) : Array CpInfo := ⟨poolList es last⟩
def fileOf (pool : Array CpInfo) (this : Nat) (attrs : Array Attribute := #[]) (ms : Array MethodInfo := #[]) (fl : Nat := 33) (sup : Nat := 0) (ifs : Array Nat := #[]) (fds : Array FieldInfo := #[]) : ClassFile where
  minorVersion := 0
  majorVersion := 65
  constantPool := pool
  accessFlags := fl
  thisClass := this
  superClass := sup
  interfaces := ifs
  fields := fds
  methods := ms
  attributes := attrs
def plain (name : String) (sup : Option ClassId) : Class where
  name := name
  kind := .ordinary
  loader := none
  accessFlags := 33
  super := sup
  interfaces := #[]
  cf := none
  fields := #[]
  methods := #[]
  instanceTypes := #[]
  staticTypes := #[]
  resolved := #[]
  callSites := []
  init := .initialized
  statics := none
  mirror := none

def pool0 : Array CpInfo := pool [(5, u "<init>"), (0, u "()V"), (1, .class_ 10), (1, u "java/lang/Object"), (0, u "getClass"), (0, u "()Ljava/lang/Class;")] 111

def k0c0 : Code := { maxStack := 0, maxLocals := 1, code := object_method_1_code, exceptionTable := #[], attributes := #[] }
def k0m0 : Method := { name := "<init>", desc := "()V", sig := { parameters := [], returnType := none }, accessFlags := 1, code := some k0c0 }
def k0m1 : Method := { name := "getClass", desc := "()Ljava/lang/Class;", sig := { parameters := [], returnType := some (.object "java/lang/Class") }, accessFlags := 273, code := none }
/-- java/lang/Object -/
def k0 : Class := { plain "java/lang/Object" none with
  accessFlags := 33
  interfaces := #[]
  cf := some (fileOf pool0 8 #[] #[{ accessFlags := 1, nameIndex := 5, descriptorIndex := 6, attributes := #[] }, { accessFlags := 273, nameIndex := 11, descriptorIndex := 12, attributes := #[] }] 33 0 #[] #[])
  fields := #[]
  methods := #[k0m0, k0m1]
  instanceTypes := #[]
  staticTypes := #[]
  resolved := Array.replicate 124 none
  statics := none }

def pool1 : Array CpInfo := pool [(2, .class_ 4), (0, .nameAndType 5 6), (0, u "java/lang/Object"), (0, u "<init>"), (0, u "()V"), (0, .string 8), (0, u ""), (0, .methodref 10 11), (0, .class_ 12), (0, .nameAndType 13 14), (0, u "java/lang/String"), (0, u "valueOf"), (0, u "(C)Ljava/lang/String;"), (0, .methodref 10 16), (0, .nameAndType 5 17), (0, u "([C)V"), (0, .methodref 19 20), (0, .class_ 21), (0, .nameAndType 22 23), (0, u "com/example/greater_than/greaterthan/page/PageHasPreviousPinLaw"), (0, u "drawn"), (0, u "(III)Ljava/lang/String;"), (0, .class_ 25), (0, u "java/util/ArrayList"), (0, .methodref 24 3), (0, .methodref 28 29), (0, .class_ 30), (0, .nameAndType 13 31), (0, u "java/lang/Integer"), (0, u "(I)Ljava/lang/Integer;"), (0, .methodref 24 33), (0, .nameAndType 34 35), (0, u "add"), (0, u "(Ljava/lang/Object;)Z"), (0, .class_ 37), (0, u "com/example/greater_than/greaterthan/page/Page"), (0, .methodref 36 39), (0, .nameAndType 5 40), (0, u "(Ljava/util/List;Ljava/lang/String;Ljava/lang/String;)V"), (0, .methodref 36 42), (0, .nameAndType 43 44), (0, u "hasPrevious"), (0, u "()Z"), (3, u "law"), (0, u "(IIIIII)Z")] 2

def k1m0 : Method := { name := "<init>", desc := "()V", sig := { parameters := [], returnType := none }, accessFlags := 1, code := none }
def k1c1 : Code := { maxStack := 4, maxLocals := 4, code := method_2_code, exceptionTable := #[], attributes := #[] }
def k1m1 : Method := { name := "drawn", desc := "(III)Ljava/lang/String;", sig := { parameters := [.int, .int, .int], returnType := some (.object "java/lang/String") }, accessFlags := 10, code := some k1c1 }
def k1c2 : Code := { maxStack := 5, maxLocals := 16, code := code, exceptionTable := #[], attributes := #[] }
def k1m2 : Method := { name := "law", desc := "(IIIIII)Z", sig := { parameters := [.int, .int, .int, .int, .int, .int], returnType := some .boolean }, accessFlags := 9, code := some k1c2 }
/-- com/example/greater_than/greaterthan/page/PageHasPreviousPinLaw -/
def k1 : Class := { plain "com/example/greater_than/greaterthan/page/PageHasPreviousPinLaw" (some 0) with
  accessFlags := 49
  interfaces := #[]
  cf := some (fileOf pool1 19 #[] #[{ accessFlags := 1, nameIndex := 5, descriptorIndex := 6, attributes := #[] }, { accessFlags := 10, nameIndex := 22, descriptorIndex := 23, attributes := #[] }, { accessFlags := 9, nameIndex := 48, descriptorIndex := 49, attributes := #[] }] 49 2 #[] #[])
  fields := #[]
  methods := #[k1m0, k1m1, k1m2]
  instanceTypes := #[]
  staticTypes := #[]
  resolved := Array.replicate 52 none
  statics := none }

def pool2 : Array CpInfo := pool [(8, .class_ 10), (1, u "java/lang/Iterable"), (24, .class_ 36), (0, u "java/lang/Object")] 25

/-- java/lang/Iterable -/
def k2 : Class := { plain "java/lang/Iterable" (some 0) with
  accessFlags := 1537
  interfaces := #[]
  cf := some (fileOf pool2 8 #[] #[] 1537 35 #[] #[])
  fields := #[]
  methods := #[]
  instanceTypes := #[]
  staticTypes := #[]
  resolved := Array.replicate 62 none
  statics := none }

def pool3 : Array CpInfo := pool [(10, .class_ 12), (1, u "java/util/Collection"), (0, u "toArray"), (46, .class_ 61), (0, u "java/lang/Object"), (0, .class_ 63), (0, u "java/lang/Iterable"), (6, u "()[Ljava/lang/Object;")] 44

def k3m0 : Method := { name := "toArray", desc := "()[Ljava/lang/Object;", sig := { parameters := [], returnType := some (.array (.object "java/lang/Object")) }, accessFlags := 1025, code := none }
/-- java/util/Collection -/
def k3 : Class := { plain "java/util/Collection" (some 0) with
  accessFlags := 1537
  interfaces := #[2]
  cf := some (fileOf pool3 10 #[] #[{ accessFlags := 1025, nameIndex := 13, descriptorIndex := 70, attributes := #[] }] 1537 60 #[62] #[])
  fields := #[]
  methods := #[k3m0]
  instanceTypes := #[]
  staticTypes := #[]
  resolved := Array.replicate 115 none
  statics := none }

def pool4 : Array CpInfo := pool [(1, .methodref 2 3), (0, .class_ 4), (0, .nameAndType 5 6), (0, u "java/lang/Object"), (0, u "<init>"), (0, u "()V"), (1, .class_ 10), (1, u "java/util/AbstractCollection"), (66, .class_ 78), (0, u "java/util/Collection")] 81

def k4c0 : Code := { maxStack := 1, maxLocals := 1, code := jdk_22_method_1_code, exceptionTable := #[], attributes := #[] }
def k4m0 : Method := { name := "<init>", desc := "()V", sig := { parameters := [], returnType := none }, accessFlags := 4, code := some k4c0 }
/-- java/util/AbstractCollection -/
def k4 : Class := { plain "java/util/AbstractCollection" (some 0) with
  accessFlags := 1057
  interfaces := #[3]
  cf := some (fileOf pool4 8 #[] #[{ accessFlags := 4, nameIndex := 5, descriptorIndex := 6, attributes := #[] }] 1057 2 #[77] #[])
  fields := #[]
  methods := #[k4m0]
  instanceTypes := #[]
  staticTypes := #[]
  resolved := Array.replicate 160 none
  statics := none }

def pool5 : Array CpInfo := pool [(8, .class_ 10), (1, u "java/util/SequencedCollection"), (15, .class_ 27), (0, u "java/lang/Object"), (0, .class_ 29), (0, u "java/util/Collection")] 27

/-- java/util/SequencedCollection -/
def k5 : Class := { plain "java/util/SequencedCollection" (some 0) with
  accessFlags := 1537
  interfaces := #[3]
  cf := some (fileOf pool5 8 #[] #[] 1537 26 #[28] #[])
  fields := #[]
  methods := #[]
  instanceTypes := #[]
  staticTypes := #[]
  resolved := Array.replicate 57 none
  statics := none }

def pool6 : Array CpInfo := pool [(8, .class_ 10), (1, u "java/util/List"), (92, .class_ 104), (0, u "java/lang/Object"), (15, .class_ 121), (0, u "java/util/SequencedCollection")] 129

/-- java/util/List -/
def k6 : Class := { plain "java/util/List" (some 0) with
  accessFlags := 1537
  interfaces := #[5]
  cf := some (fileOf pool6 8 #[] #[] 1537 103 #[120] #[])
  fields := #[]
  methods := #[]
  instanceTypes := #[]
  staticTypes := #[]
  resolved := Array.replicate 251 none
  statics := none }

def pool7 : Array CpInfo := pool [(1, .methodref 2 3), (0, .class_ 4), (0, .nameAndType 5 6), (0, u "java/util/AbstractCollection"), (0, u "<init>"), (0, u "()V"), (0, .fieldref 8 9), (0, .class_ 10), (0, .nameAndType 11 12), (0, u "java/util/AbstractList"), (0, u "modCount"), (0, u "I"), (64, .class_ 78), (0, u "java/util/AbstractList$Itr"), (3, .class_ 83), (0, u "java/util/AbstractList$ListItr"), (9, .class_ 94), (0, u "java/util/AbstractList$RandomAccessSubList"), (3, .class_ 99), (0, u "java/util/AbstractList$SubList"), (33, .class_ 134), (0, u "java/util/List"), (73, .class_ 209), (0, u "java/util/AbstractList$SubList$1"), (0, .class_ 211), (0, u "java/util/AbstractList$RandomAccessSpliterator")] 6

def k7c0 : Code := { maxStack := 2, maxLocals := 1, code := jdk_39_method_1_code, exceptionTable := #[], attributes := #[] }
def k7m0 : Method := { name := "<init>", desc := "()V", sig := { parameters := [], returnType := none }, accessFlags := 4, code := some k7c0 }
/-- java/util/AbstractList -/
def k7 : Class := { plain "java/util/AbstractList" (some 4) with
  accessFlags := 1057
  interfaces := #[6]
  cf := some (fileOf pool7 8 #[.nestMembers #[93, 98, 208, 210, 82, 77]] #[{ accessFlags := 4, nameIndex := 5, descriptorIndex := 6, attributes := #[] }] 1057 2 #[133] #[{ accessFlags := 132, nameIndex := 11, descriptorIndex := 12, attributes := #[] }])
  fields := #[{ name := "modCount", type := .int, accessFlags := 132, slot := 0, constantValue := 0 }]
  methods := #[k7m0]
  instanceTypes := #[.int]
  staticTypes := #[]
  resolved := Array.replicate 218 none
  statics := none }

def pool8 : Array CpInfo := pool [(1, .class_ 2), (0, u "java/util/RandomAccess"), (0, .class_ 4), (0, u "java/lang/Object")] 2

/-- java/util/RandomAccess -/
def k8 : Class := { plain "java/util/RandomAccess" (some 0) with
  accessFlags := 1537
  interfaces := #[]
  cf := some (fileOf pool8 1 #[] #[] 1537 3 #[] #[])
  fields := #[]
  methods := #[]
  instanceTypes := #[]
  staticTypes := #[]
  resolved := Array.replicate 7 none
  statics := none }

def pool9 : Array CpInfo := pool [(1, .class_ 2), (0, u "java/lang/Cloneable"), (0, .class_ 4), (0, u "java/lang/Object")] 2

/-- java/lang/Cloneable -/
def k9 : Class := { plain "java/lang/Cloneable" (some 0) with
  accessFlags := 1537
  interfaces := #[]
  cf := some (fileOf pool9 1 #[] #[] 1537 3 #[] #[])
  fields := #[]
  methods := #[]
  instanceTypes := #[]
  staticTypes := #[]
  resolved := Array.replicate 7 none
  statics := none }

def pool10 : Array CpInfo := pool [(1, .class_ 2), (0, u "java/io/Serializable"), (0, .class_ 4), (0, u "java/lang/Object")] 2

/-- java/io/Serializable -/
def k10 : Class := { plain "java/io/Serializable" (some 0) with
  accessFlags := 1537
  interfaces := #[]
  cf := some (fileOf pool10 1 #[] #[] 1537 3 #[] #[])
  fields := #[]
  methods := #[]
  instanceTypes := #[]
  staticTypes := #[]
  resolved := Array.replicate 7 none
  statics := none }

def pool11 : Array CpInfo := pool [(1, .methodref 2 3), (0, .class_ 4), (0, .nameAndType 5 6), (0, u "java/util/AbstractList"), (0, u "<init>"), (0, u "()V"), (0, .class_ 8), (0, u "java/lang/Object"), (0, .fieldref 10 11), (0, .class_ 12), (0, .nameAndType 13 14), (0, u "java/util/ArrayList"), (0, u "elementData"), (0, u "[Ljava/lang/Object;"), (0, .fieldref 10 16), (0, .nameAndType 17 14), (0, u "EMPTY_ELEMENTDATA"), (21, .fieldref 10 40), (0, .nameAndType 41 14), (0, u "DEFAULTCAPACITY_EMPTY_ELEMENTDATA"), (0, .interfaceMethodref 43 44), (0, .class_ 45), (0, .nameAndType 46 47), (0, u "java/util/Collection"), (0, u "toArray"), (0, u "()[Ljava/lang/Object;"), (0, .fieldref 10 49), (0, .nameAndType 50 51), (0, u "size"), (0, u "I"), (0, .interfaceMethodref 43 53), (0, .nameAndType 54 55), (0, u "getClass"), (0, u "()Ljava/lang/Class;"), (2, .class_ 60), (1, u "java/util/Arrays"), (0, u "copyOf"), (1, .fieldref 10 64), (0, .nameAndType 65 51), (0, u "modCount"), (0, .methodref 58 67), (0, .nameAndType 61 68), (0, u "([Ljava/lang/Object;I)[Ljava/lang/Object;"), (0, .methodref 10 70), (0, .nameAndType 71 72), (0, u "grow"), (0, u "(I)[Ljava/lang/Object;"), (6, .methodref 80 81), (0, .class_ 82), (0, .nameAndType 83 84), (0, u "java/lang/Math"), (0, u "max"), (0, u "(II)I"), (11, u "(Ljava/lang/Object;)Z"), (32, .methodref 10 130), (0, .nameAndType 71 47), (0, .methodref 10 132), (0, .nameAndType 133 134), (0, u "add"), (0, u "(Ljava/lang/Object;[Ljava/lang/Object;I)V"), (13, .class_ 149), (0, u "java/util/List"), (112, .class_ 263), (0, u "java/util/ArrayList$ListItr"), (3, .class_ 268), (0, u "java/util/ArrayList$Itr"), (7, .class_ 277), (0, u "java/util/ArrayList$SubList"), (12, .class_ 291), (0, u "java/util/ArrayList$ArrayListSpliterator"), (37, .class_ 330), (0, u "java/util/RandomAccess"), (0, .class_ 332), (0, u "java/lang/Cloneable"), (0, .class_ 334), (0, u "java/io/Serializable"), (0, u "serialVersionUID"), (0, u "J"), (3, u "DEFAULT_CAPACITY"), (10, u "(Ljava/util/Collection;)V"), (148, .class_ 501), (0, u "java/util/ArrayList$SubList$2"), (0, .class_ 503), (0, u "java/util/ArrayList$SubList$1")] 5

def k11c0 : Code := { maxStack := 2, maxLocals := 1, code := jdk_38_method_2_code, exceptionTable := #[], attributes := #[] }
def k11m0 : Method := { name := "<init>", desc := "()V", sig := { parameters := [], returnType := none }, accessFlags := 1, code := some k11c0 }
def k11c1 : Code := { maxStack := 4, maxLocals := 3, code := jdk_38_method_3_code, exceptionTable := #[], attributes := #[] }
def k11m1 : Method := { name := "<init>", desc := "(Ljava/util/Collection;)V", sig := { parameters := [(.object "java/util/Collection")], returnType := none }, accessFlags := 1, code := some k11c1 }
def k11c2 : Code := { maxStack := 4, maxLocals := 4, code := jdk_38_method_6_code, exceptionTable := #[], attributes := #[] }
def k11m2 : Method := { name := "grow", desc := "(I)[Ljava/lang/Object;", sig := { parameters := [.int], returnType := some (.array (.object "java/lang/Object")) }, accessFlags := 2, code := some k11c2 }
def k11c3 : Code := { maxStack := 3, maxLocals := 1, code := jdk_38_method_7_code, exceptionTable := #[], attributes := #[] }
def k11m3 : Method := { name := "grow", desc := "()[Ljava/lang/Object;", sig := { parameters := [], returnType := some (.array (.object "java/lang/Object")) }, accessFlags := 2, code := some k11c3 }
def k11c4 : Code := { maxStack := 2, maxLocals := 1, code := jdk_38_method_16_code, exceptionTable := #[], attributes := #[] }
def k11m4 : Method := { name := "toArray", desc := "()[Ljava/lang/Object;", sig := { parameters := [], returnType := some (.array (.object "java/lang/Object")) }, accessFlags := 1, code := some k11c4 }
def k11c5 : Code := { maxStack := 3, maxLocals := 4, code := jdk_38_method_24_code, exceptionTable := #[], attributes := #[] }
def k11m5 : Method := { name := "add", desc := "(Ljava/lang/Object;[Ljava/lang/Object;I)V", sig := { parameters := [(.object "java/lang/Object"), (.array (.object "java/lang/Object")), .int], returnType := none }, accessFlags := 2, code := some k11c5 }
def k11c6 : Code := { maxStack := 4, maxLocals := 2, code := jdk_38_method_25_code, exceptionTable := #[], attributes := #[] }
def k11m6 : Method := { name := "add", desc := "(Ljava/lang/Object;)Z", sig := { parameters := [(.object "java/lang/Object")], returnType := some .boolean }, accessFlags := 1, code := some k11c6 }
/-- java/util/ArrayList -/
def k11 : Class := { plain "java/util/ArrayList" (some 7) with
  accessFlags := 33
  interfaces := #[6, 8, 9, 10]
  cf := some (fileOf pool11 10 #[.nestMembers #[290, 276, 500, 502, 262, 267]] #[{ accessFlags := 1, nameIndex := 5, descriptorIndex := 6, attributes := #[] }, { accessFlags := 1, nameIndex := 5, descriptorIndex := 351, attributes := #[] }, { accessFlags := 2, nameIndex := 71, descriptorIndex := 72, attributes := #[] }, { accessFlags := 2, nameIndex := 71, descriptorIndex := 47, attributes := #[] }, { accessFlags := 1, nameIndex := 46, descriptorIndex := 47, attributes := #[] }, { accessFlags := 2, nameIndex := 133, descriptorIndex := 134, attributes := #[] }, { accessFlags := 1, nameIndex := 133, descriptorIndex := 96, attributes := #[] }] 33 2 #[148, 329, 331, 333] #[{ accessFlags := 26, nameIndex := 335, descriptorIndex := 336, attributes := #[] }, { accessFlags := 26, nameIndex := 340, descriptorIndex := 51, attributes := #[] }, { accessFlags := 26, nameIndex := 17, descriptorIndex := 14, attributes := #[] }, { accessFlags := 26, nameIndex := 41, descriptorIndex := 14, attributes := #[] }, { accessFlags := 128, nameIndex := 13, descriptorIndex := 14, attributes := #[] }, { accessFlags := 2, nameIndex := 50, descriptorIndex := 51, attributes := #[] }])
  fields := #[{ name := "serialVersionUID", type := .long, accessFlags := 26, slot := 0, constantValue := 0 }, { name := "DEFAULT_CAPACITY", type := .int, accessFlags := 26, slot := 1, constantValue := 0 }, { name := "EMPTY_ELEMENTDATA", type := (.array (.object "java/lang/Object")), accessFlags := 26, slot := 2, constantValue := 0 }, { name := "DEFAULTCAPACITY_EMPTY_ELEMENTDATA", type := (.array (.object "java/lang/Object")), accessFlags := 26, slot := 3, constantValue := 0 }, { name := "elementData", type := (.array (.object "java/lang/Object")), accessFlags := 128, slot := 1, constantValue := 0 }, { name := "size", type := .int, accessFlags := 2, slot := 2, constantValue := 0 }]
  methods := #[k11m0, k11m1, k11m2, k11m3, k11m4, k11m5, k11m6]
  instanceTypes := #[.int, (.array (.object "java/lang/Object")), .int]
  staticTypes := #[.long, .int, (.array (.object "java/lang/Object")), (.array (.object "java/lang/Object"))]
  resolved := Array.replicate 509 none
  mirror := some 5
  statics := some 0 }

def pool12 : Array CpInfo := pool [(1, .methodref 2 3), (0, .class_ 4), (0, .nameAndType 5 6), (0, u "java/lang/Object"), (0, u "<init>"), (0, u "()V"), (0, .class_ 8), (0, u "java/util/ArrayList"), (0, .methodref 7 10), (0, .nameAndType 5 11), (0, u "(Ljava/util/Collection;)V"), (0, .methodref 13 14), (0, .class_ 15), (0, .nameAndType 16 17), (0, u "java/util/Collections"), (0, u "unmodifiableList"), (0, u "(Ljava/util/List;)Ljava/util/List;"), (0, .fieldref 19 20), (0, .class_ 21), (0, .nameAndType 22 23), (0, u "com/example/greater_than/greaterthan/page/Page"), (0, u "rows"), (0, u "Ljava/util/List;"), (0, .fieldref 19 25), (0, .nameAndType 26 27), (0, u "previousCursor"), (0, u "Ljava/lang/String;"), (0, .fieldref 19 29), (0, .nameAndType 30 27), (0, u "nextCursor"), (8, u "(Ljava/util/List;Ljava/lang/String;Ljava/lang/String;)V"), (7, u "hasPrevious"), (0, u "()Z")] 5

def k12c0 : Code := { maxStack := 4, maxLocals := 4, code := prog_39_method_1_code, exceptionTable := #[], attributes := #[] }
def k12m0 : Method := { name := "<init>", desc := "(Ljava/util/List;Ljava/lang/String;Ljava/lang/String;)V", sig := { parameters := [(.object "java/util/List"), (.object "java/lang/String"), (.object "java/lang/String")], returnType := none }, accessFlags := 1, code := some k12c0 }
def k12c1 : Code := { maxStack := 1, maxLocals := 1, code := prog_39_method_5_code, exceptionTable := #[], attributes := #[] }
def k12m1 : Method := { name := "hasPrevious", desc := "()Z", sig := { parameters := [], returnType := some .boolean }, accessFlags := 1, code := some k12c1 }
/-- com/example/greater_than/greaterthan/page/Page -/
def k12 : Class := { plain "com/example/greater_than/greaterthan/page/Page" (some 0) with
  accessFlags := 49
  interfaces := #[]
  cf := some (fileOf pool12 19 #[] #[{ accessFlags := 1, nameIndex := 5, descriptorIndex := 39, attributes := #[] }, { accessFlags := 1, nameIndex := 47, descriptorIndex := 48, attributes := #[] }] 49 2 #[] #[{ accessFlags := 18, nameIndex := 22, descriptorIndex := 23, attributes := #[] }, { accessFlags := 18, nameIndex := 26, descriptorIndex := 27, attributes := #[] }, { accessFlags := 18, nameIndex := 30, descriptorIndex := 27, attributes := #[] }])
  fields := #[{ name := "rows", type := (.object "java/util/List"), accessFlags := 18, slot := 0, constantValue := 0 }, { name := "previousCursor", type := (.object "java/lang/String"), accessFlags := 18, slot := 1, constantValue := 0 }, { name := "nextCursor", type := (.object "java/lang/String"), accessFlags := 18, slot := 2, constantValue := 0 }]
  methods := #[k12m0, k12m1]
  instanceTypes := #[(.object "java/util/List"), (.object "java/lang/String"), (.object "java/lang/String")]
  staticTypes := #[]
  resolved := Array.replicate 54 none
  statics := none }

def pool13 : Array CpInfo := pool [(2, .class_ 4), (1, u "java/lang/Object"), (0, u "<init>"), (0, u "()V"), (7, .class_ 16), (1, u "java/util/Arrays"), (57, .class_ 76), (1, u "java/util/Arrays$NaturalOrder"), (9, .methodref 2 87), (0, .nameAndType 88 89), (0, u "getClass"), (0, u "()Ljava/lang/Class;"), (20, .class_ 111), (0, u "[Ljava/lang/Object;"), (1, .class_ 115), (1, u "java/util/Arrays$LegacyMergeSort"), (1, u "Z"), (32, .methodref 151 152), (0, .class_ 153), (0, .nameAndType 154 155), (0, u "java/lang/System"), (0, u "arraycopy"), (0, u "(Ljava/lang/Object;ILjava/lang/Object;II)V"), (144, .methodref 14 301), (0, .nameAndType 302 303), (0, u "copyOf"), (0, u "([Ljava/lang/Object;ILjava/lang/Class;)[Ljava/lang/Object;"), (0, .methodref 305 306), (0, .class_ 307), (0, .nameAndType 308 309), (0, u "java/lang/Math"), (0, u "min"), (0, u "(II)I"), (65, .class_ 376), (0, u "java/util/Arrays$ArrayList"), (68, u "$assertionsDisabled"), (269, u "MIN_ARRAY_SORT_GRAN"), (0, u "I"), (2, u "INSERTIONSORT_THRESHOLD"), (140, u "([Ljava/lang/Object;I)[Ljava/lang/Object;"), (114, .class_ 976), (0, u "java/util/Arrays$ArrayItr")] 52

def k13m0 : Method := { name := "<init>", desc := "()V", sig := { parameters := [], returnType := none }, accessFlags := 2, code := none }
def k13c1 : Code := { maxStack := 3, maxLocals := 2, code := jdk_65_method_119_code, exceptionTable := #[], attributes := #[] }
def k13m1 : Method := { name := "copyOf", desc := "([Ljava/lang/Object;I)[Ljava/lang/Object;", sig := { parameters := [(.array (.object "java/lang/Object")), .int], returnType := some (.array (.object "java/lang/Object")) }, accessFlags := 9, code := some k13c1 }
def k13c2 : Code := { maxStack := 6, maxLocals := 4, code := jdk_65_method_120_code, exceptionTable := #[], attributes := #[] }
def k13m2 : Method := { name := "copyOf", desc := "([Ljava/lang/Object;ILjava/lang/Class;)[Ljava/lang/Object;", sig := { parameters := [(.array (.object "java/lang/Object")), .int, (.object "java/lang/Class")], returnType := some (.array (.object "java/lang/Object")) }, accessFlags := 9, code := some k13c2 }
/-- java/util/Arrays -/
def k13 : Class := { plain "java/util/Arrays" (some 0) with
  accessFlags := 49
  interfaces := #[]
  cf := some (fileOf pool13 14 #[.nestMembers #[975, 375, 113, 74]] #[{ accessFlags := 2, nameIndex := 5, descriptorIndex := 6, attributes := #[] }, { accessFlags := 9, nameIndex := 302, descriptorIndex := 860, attributes := #[] }, { accessFlags := 9, nameIndex := 302, descriptorIndex := 303, attributes := #[] }] 49 2 #[] #[{ accessFlags := 26, nameIndex := 715, descriptorIndex := 716, attributes := #[] }, { accessFlags := 26, nameIndex := 719, descriptorIndex := 716, attributes := #[] }, { accessFlags := 4120, nameIndex := 445, descriptorIndex := 117, attributes := #[] }])
  fields := #[{ name := "MIN_ARRAY_SORT_GRAN", type := .int, accessFlags := 26, slot := 0, constantValue := 0 }, { name := "INSERTIONSORT_THRESHOLD", type := .int, accessFlags := 26, slot := 1, constantValue := 0 }, { name := "$assertionsDisabled", type := .boolean, accessFlags := 4120, slot := 2, constantValue := 0 }]
  methods := #[k13m0, k13m1, k13m2]
  instanceTypes := #[]
  staticTypes := #[.int, .int, .boolean]
  resolved := Array.replicate 1029 none
  statics := none }

def pool14 : Array CpInfo := pool [(1, .class_ 2), (0, u "java/lang/Math"), (1, .class_ 6), (1, u "java/lang/Object"), (0, u "<init>"), (0, u "()V"), (89, .class_ 100), (1, u "java/lang/Math$RandomNumberGeneratorHolder"), (71, u "negativeZeroFloatBits"), (0, u "J"), (2, u "negativeZeroDoubleBits"), (21, u "max"), (2, u "min"), (43, u "$assertionsDisabled"), (0, u "Z"), (88, u "(II)I"), (2, u "twoToTheDoubleScaleDown"), (0, u "D"), (4, u "twoToTheDoubleScaleUp"), (9, u "E"), (3, u "PI"), (2, u "TAU"), (2, u "DEGREES_TO_RADIANS"), (0, u "RADIANS_TO_DEGREES")] 94

def k14m0 : Method := { name := "<init>", desc := "()V", sig := { parameters := [], returnType := none }, accessFlags := 2, code := none }
def k14c1 : Code := { maxStack := 2, maxLocals := 2, code := jdk_29_method_65_code, exceptionTable := #[], attributes := #[] }
def k14m1 : Method := { name := "max", desc := "(II)I", sig := { parameters := [.int, .int], returnType := some .int }, accessFlags := 9, code := some k14c1 }
def k14c2 : Code := { maxStack := 2, maxLocals := 2, code := jdk_29_method_69_code, exceptionTable := #[], attributes := #[] }
def k14m2 : Method := { name := "min", desc := "(II)I", sig := { parameters := [.int, .int], returnType := some .int }, accessFlags := 9, code := some k14c2 }
/-- java/lang/Math -/
def k14 : Class := { plain "java/lang/Math" (some 0) with
  accessFlags := 49
  interfaces := #[]
  cf := some (fileOf pool14 1 #[.nestMembers #[98]] #[{ accessFlags := 2, nameIndex := 7, descriptorIndex := 8, attributes := #[] }, { accessFlags := 9, nameIndex := 198, descriptorIndex := 335, attributes := #[] }, { accessFlags := 9, nameIndex := 201, descriptorIndex := 335, attributes := #[] }] 49 4 #[] #[{ accessFlags := 25, nameIndex := 354, descriptorIndex := 339, attributes := #[] }, { accessFlags := 25, nameIndex := 358, descriptorIndex := 339, attributes := #[] }, { accessFlags := 25, nameIndex := 361, descriptorIndex := 339, attributes := #[] }, { accessFlags := 26, nameIndex := 364, descriptorIndex := 339, attributes := #[] }, { accessFlags := 26, nameIndex := 365, descriptorIndex := 339, attributes := #[] }, { accessFlags := 26, nameIndex := 172, descriptorIndex := 173, attributes := #[] }, { accessFlags := 26, nameIndex := 176, descriptorIndex := 173, attributes := #[] }, { accessFlags := 8, nameIndex := 344, descriptorIndex := 339, attributes := #[] }, { accessFlags := 8, nameIndex := 338, descriptorIndex := 339, attributes := #[] }, { accessFlags := 4120, nameIndex := 245, descriptorIndex := 246, attributes := #[] }])
  fields := #[{ name := "E", type := .double, accessFlags := 25, slot := 0, constantValue := 0 }, { name := "PI", type := .double, accessFlags := 25, slot := 1, constantValue := 0 }, { name := "TAU", type := .double, accessFlags := 25, slot := 2, constantValue := 0 }, { name := "DEGREES_TO_RADIANS", type := .double, accessFlags := 26, slot := 3, constantValue := 0 }, { name := "RADIANS_TO_DEGREES", type := .double, accessFlags := 26, slot := 4, constantValue := 0 }, { name := "negativeZeroFloatBits", type := .long, accessFlags := 26, slot := 5, constantValue := 0 }, { name := "negativeZeroDoubleBits", type := .long, accessFlags := 26, slot := 6, constantValue := 0 }, { name := "twoToTheDoubleScaleUp", type := .double, accessFlags := 8, slot := 7, constantValue := 0 }, { name := "twoToTheDoubleScaleDown", type := .double, accessFlags := 8, slot := 8, constantValue := 0 }, { name := "$assertionsDisabled", type := .boolean, accessFlags := 4120, slot := 9, constantValue := 0 }]
  methods := #[k14m0, k14m1, k14m2]
  instanceTypes := #[]
  staticTypes := #[.double, .double, .double, .double, .double, .long, .long, .double, .double, .boolean]
  resolved := Array.replicate 460 none
  statics := none }

def pool15 : Array CpInfo := pool [(2, .class_ 4), (1, u "java/lang/Object"), (0, u "<init>"), (0, u "()V"), (1, .class_ 10), (1, u "java/lang/System"), (0, u "allowSecurityManager"), (0, u "I"), (16, u "cons"), (0, u "Ljava/io/Console;"), (77, .class_ 110), (1, u "java/lang/System$CallersHolder"), (43, u "initialErrStream"), (0, u "Ljava/io/PrintStream;"), (19, u "security"), (0, u "Ljava/lang/SecurityManager;"), (31, .class_ 209), (0, u "java/lang/System$1"), (7, u "props"), (0, u "Ljava/util/Properties;"), (2, u "lineSeparator"), (0, u "Ljava/lang/String;"), (96, .class_ 321), (1, u "java/lang/System$LoggerFinder"), (5, .class_ 328), (0, u "java/lang/System$Logger"), (67, u "err"), (2, u "out"), (91, u "notSupportedJnuEncoding"), (15, u "in"), (17, u "initialIn"), (0, u "Ljava/io/InputStream;"), (35, u "bootLayer"), (0, u "Ljava/lang/ModuleLayer;"), (99, .class_ 664), (0, u "java/lang/System$2"), (9, u "NEVER"), (2, u "MAYBE"), (49, u "arraycopy"), (0, u "(Ljava/lang/Object;ILjava/lang/Object;II)V"), (72, .class_ 802), (0, u "java/lang/System$Logger$Level")] 31

def k15m0 : Method := { name := "<init>", desc := "()V", sig := { parameters := [], returnType := none }, accessFlags := 2, code := none }
def k15m1 : Method := { name := "arraycopy", desc := "(Ljava/lang/Object;ILjava/lang/Object;II)V", sig := { parameters := [(.object "java/lang/Object"), .int, (.object "java/lang/Object"), .int, .int], returnType := none }, accessFlags := 265, code := none }
/-- java/lang/System -/
def k15 : Class := { plain "java/lang/System" (some 0) with
  accessFlags := 49
  interfaces := #[]
  cf := some (fileOf pool15 8 #[.nestMembers #[319, 327, 801, 108, 663, 208]] #[{ accessFlags := 2, nameIndex := 5, descriptorIndex := 6, attributes := #[] }, { accessFlags := 265, nameIndex := 727, descriptorIndex := 728, attributes := #[] }] 49 2 #[] #[{ accessFlags := 25, nameIndex := 507, descriptorIndex := 526, attributes := #[] }, { accessFlags := 25, nameIndex := 399, descriptorIndex := 155, attributes := #[] }, { accessFlags := 25, nameIndex := 396, descriptorIndex := 155, attributes := #[] }, { accessFlags := 10, nameIndex := 525, descriptorIndex := 526, attributes := #[] }, { accessFlags := 26, nameIndex := 674, descriptorIndex := 12, attributes := #[] }, { accessFlags := 26, nameIndex := 677, descriptorIndex := 12, attributes := #[] }, { accessFlags := 10, nameIndex := 11, descriptorIndex := 12, attributes := #[] }, { accessFlags := 74, nameIndex := 175, descriptorIndex := 176, attributes := #[] }, { accessFlags := 10, nameIndex := 491, descriptorIndex := 222, attributes := #[] }, { accessFlags := 74, nameIndex := 29, descriptorIndex := 30, attributes := #[] }, { accessFlags := 74, nameIndex := 154, descriptorIndex := 155, attributes := #[] }, { accessFlags := 10, nameIndex := 217, descriptorIndex := 218, attributes := #[] }, { accessFlags := 10, nameIndex := 221, descriptorIndex := 222, attributes := #[] }, { accessFlags := 8, nameIndex := 562, descriptorIndex := 563, attributes := #[] }])
  fields := #[{ name := "in", type := (.object "java/io/InputStream"), accessFlags := 25, slot := 0, constantValue := 0 }, { name := "out", type := (.object "java/io/PrintStream"), accessFlags := 25, slot := 1, constantValue := 0 }, { name := "err", type := (.object "java/io/PrintStream"), accessFlags := 25, slot := 2, constantValue := 0 }, { name := "initialIn", type := (.object "java/io/InputStream"), accessFlags := 10, slot := 3, constantValue := 0 }, { name := "NEVER", type := .int, accessFlags := 26, slot := 4, constantValue := 0 }, { name := "MAYBE", type := .int, accessFlags := 26, slot := 5, constantValue := 0 }, { name := "allowSecurityManager", type := .int, accessFlags := 10, slot := 6, constantValue := 0 }, { name := "security", type := (.object "java/lang/SecurityManager"), accessFlags := 74, slot := 7, constantValue := 0 }, { name := "notSupportedJnuEncoding", type := (.object "java/lang/String"), accessFlags := 10, slot := 8, constantValue := 0 }, { name := "cons", type := (.object "java/io/Console"), accessFlags := 74, slot := 9, constantValue := 0 }, { name := "initialErrStream", type := (.object "java/io/PrintStream"), accessFlags := 74, slot := 10, constantValue := 0 }, { name := "props", type := (.object "java/util/Properties"), accessFlags := 10, slot := 11, constantValue := 0 }, { name := "lineSeparator", type := (.object "java/lang/String"), accessFlags := 10, slot := 12, constantValue := 0 }, { name := "bootLayer", type := (.object "java/lang/ModuleLayer"), accessFlags := 8, slot := 13, constantValue := 0 }]
  methods := #[k15m0, k15m1]
  instanceTypes := #[]
  staticTypes := #[(.object "java/io/InputStream"), (.object "java/io/PrintStream"), (.object "java/io/PrintStream"), (.object "java/io/InputStream"), .int, .int, .int, (.object "java/lang/SecurityManager"), (.object "java/lang/String"), (.object "java/io/Console"), (.object "java/io/PrintStream"), (.object "java/util/Properties"), (.object "java/lang/String"), (.object "java/lang/ModuleLayer")]
  resolved := Array.replicate 834 none
  statics := none }

def pool16 : Array CpInfo := pool [(2, .class_ 4), (1, u "java/lang/Object"), (0, u "<init>"), (0, u "()V"), (1, .class_ 10), (1, u "java/util/List"), (2, .class_ 14), (0, u "java/util/RandomAccess"), (4, .class_ 20), (0, u "java/util/Collections"), (63, u "r"), (0, u "Ljava/util/Random;"), (67, u "(Ljava/util/List;)V"), (9, .nameAndType 164 165), (0, u "getClass"), (0, u "()Ljava/lang/Class;"), (0, .class_ 167), (0, u "java/util/Collections$UnmodifiableCollection"), (6, .class_ 175), (0, u "java/util/Collections$UnmodifiableSequencedCollection"), (6, .class_ 183), (0, u "java/util/Collections$UnmodifiableSet"), (6, .class_ 191), (0, u "java/util/Collections$UnmodifiableSequencedSet"), (6, .class_ 199), (0, u "java/util/Collections$UnmodifiableSortedSet"), (6, .class_ 207), (0, u "java/util/Collections$UnmodifiableNavigableSet"), (3, .interfaceMethodref 8 163), (0, .class_ 213), (0, u "java/util/Collections$UnmodifiableList"), (0, .interfaceMethodref 8 163), (0, .class_ 216), (0, u "java/util/Collections$UnmodifiableRandomAccessList"), (0, .methodref 215 218), (0, .nameAndType 5 153), (4, .class_ 224), (0, u "java/util/Collections$UnmodifiableMap"), (6, .class_ 232), (0, u "java/util/Collections$UnmodifiableSequencedMap"), (4, .class_ 238), (0, u "java/util/Collections$UnmodifiableSortedMap"), (6, .class_ 246), (0, u "java/util/Collections$UnmodifiableNavigableMap"), (3, .class_ 251), (0, u "java/util/Collections$SynchronizedCollection"), (4, .class_ 257), (0, u "java/util/Collections$SynchronizedSet"), (4, .class_ 263), (0, u "java/util/Collections$SynchronizedSortedSet"), (1, .class_ 266), (0, u "java/util/Collections$SynchronizedNavigableSet"), (1, .class_ 269), (0, u "java/util/Collections$SynchronizedRandomAccessList"), (1, .class_ 272), (0, u "java/util/Collections$SynchronizedList"), (5, .class_ 279), (0, u "java/util/Collections$SynchronizedMap"), (1, .class_ 282), (0, u "java/util/Collections$SynchronizedSortedMap"), (1, .class_ 285), (0, u "java/util/Collections$SynchronizedNavigableMap"), (1, .class_ 288), (0, u "java/util/Collections$CheckedCollection"), (11, .class_ 301), (0, u "java/util/Collections$CheckedQueue"), (3, .class_ 306), (0, u "java/util/Collections$CheckedSet"), (3, .class_ 311), (0, u "java/util/Collections$CheckedSortedSet"), (3, .class_ 316), (0, u "java/util/Collections$CheckedNavigableSet"), (3, .class_ 321), (0, u "java/util/Collections$CheckedRandomAccessList"), (3, .class_ 326), (0, u "java/util/Collections$CheckedList"), (1, .class_ 329), (0, u "java/util/Collections$CheckedMap"), (3, .class_ 334), (0, u "java/util/Collections$CheckedSortedMap"), (3, .class_ 339), (0, u "java/util/Collections$CheckedNavigableMap"), (4, .class_ 346), (1, u "java/util/Collections$EmptyIterator"), (3, .class_ 352), (1, u "java/util/Collections$EmptyListIterator"), (2, .class_ 357), (1, u "java/util/Collections$EmptyEnumeration"), (4, u "EMPTY_SET"), (0, u "Ljava/util/Set;"), (6, u "EMPTY_LIST"), (0, u "Ljava/util/List;"), (2, u "EMPTY_MAP"), (0, u "Ljava/util/Map;"), (4, .class_ 381), (0, u "java/util/Collections$SingletonSet"), (2, .class_ 385), (0, u "java/util/Collections$1"), (1, .class_ 388), (0, u "java/util/Collections$2"), (1, .class_ 391), (0, u "java/util/Collections$SingletonList"), (1, .class_ 394), (0, u "java/util/Collections$SingletonMap"), (22, .class_ 418), (0, u "java/util/Collections$CopiesList"), (4, .class_ 425), (1, u "java/util/Collections$ReverseComparator"), (8, .class_ 435), (0, u "java/util/Collections$ReverseComparator2"), (6, .class_ 443), (0, u "java/util/Collections$3"), (25, .class_ 470), (0, u "java/util/Collections$SetFromMap"), (2, .class_ 474), (0, u "java/util/Collections$SequencedSetFromMap"), (3, .class_ 479), (0, u "java/util/Collections$AsLIFOQueue"), (11, .class_ 492), (0, u "java/util/Collections$EmptySet"), (1, .class_ 495), (0, u "java/util/Collections$EmptyList"), (1, .class_ 498), (0, u "java/util/Collections$EmptyMap"), (1, u "BINARYSEARCH_THRESHOLD"), (0, u "I"), (2, u "REVERSE_THRESHOLD"), (1, u "SHUFFLE_THRESHOLD"), (1, u "FILL_THRESHOLD"), (1, u "ROTATE_THRESHOLD"), (1, u "COPY_THRESHOLD"), (1, u "REPLACEALL_THRESHOLD"), (1, u "INDEXOFSUBLIST_THRESHOLD"), (129, u "unmodifiableList"), (0, u "(Ljava/util/List;)Ljava/util/List;"), (202, .class_ 851), (0, u "java/util/Collections$CheckedMap$CheckedEntrySet"), (0, .class_ 853), (0, u "java/util/Collections$CheckedMap$CheckedEntrySet$CheckedEntry"), (0, .class_ 855), (0, u "java/util/Collections$CheckedMap$CheckedEntrySet$1"), (0, .class_ 857), (0, u "java/util/Collections$CheckedList$1"), (0, .class_ 859), (0, u "java/util/Collections$CheckedCollection$1"), (0, .class_ 861), (0, u "java/util/Collections$UnmodifiableNavigableMap$EmptyNavigableMap"), (0, .class_ 863), (0, u "java/util/Collections$UnmodifiableMap$UnmodifiableEntrySet"), (0, .class_ 865), (0, u "java/util/Collections$UnmodifiableMap$UnmodifiableEntrySet$UnmodifiableEntry"), (0, .class_ 867), (0, u "java/util/Collections$UnmodifiableMap$UnmodifiableEntrySet$UnmodifiableEntrySetSpliterator"), (0, .class_ 869), (0, u "java/util/Collections$UnmodifiableMap$UnmodifiableEntrySet$1"), (0, .class_ 871), (0, u "java/util/Collections$UnmodifiableList$1"), (0, .class_ 873), (0, u "java/util/Collections$UnmodifiableNavigableSet$EmptyNavigableSet"), (0, .class_ 875), (0, u "java/util/Collections$UnmodifiableCollection$1")] 57

def k16m0 : Method := { name := "<init>", desc := "()V", sig := { parameters := [], returnType := none }, accessFlags := 2, code := none }
def k16c1 : Code := { maxStack := 3, maxLocals := 1, code := jdk_79_method_35_code, exceptionTable := #[], attributes := #[] }
def k16m1 : Method := { name := "unmodifiableList", desc := "(Ljava/util/List;)Ljava/util/List;", sig := { parameters := [(.object "java/util/List")], returnType := some (.object "java/util/List") }, accessFlags := 9, code := some k16c1 }
/-- java/util/Collections -/
def k16 : Class := { plain "java/util/Collections" (some 0) with
  accessFlags := 33
  interfaces := #[]
  cf := some (fileOf pool16 19 #[.nestMembers #[478, 473, 469, 434, 423, 417, 393, 390, 380, 497, 494, 491, 355, 350, 344, 338, 333, 328, 850, 852, 854, 320, 325, 856, 315, 310, 305, 300, 287, 858, 284, 281, 278, 268, 271, 265, 262, 256, 250, 245, 860, 237, 231, 223, 862, 864, 866, 868, 215, 212, 870, 206, 872, 198, 190, 182, 174, 166, 874, 442, 387, 384]] #[{ accessFlags := 2, nameIndex := 5, descriptorIndex := 6, attributes := #[] }, { accessFlags := 9, nameIndex := 646, descriptorIndex := 647, attributes := #[] }] 33 2 #[] #[{ accessFlags := 26, nameIndex := 500, descriptorIndex := 501, attributes := #[] }, { accessFlags := 26, nameIndex := 504, descriptorIndex := 501, attributes := #[] }, { accessFlags := 26, nameIndex := 506, descriptorIndex := 501, attributes := #[] }, { accessFlags := 26, nameIndex := 508, descriptorIndex := 501, attributes := #[] }, { accessFlags := 26, nameIndex := 510, descriptorIndex := 501, attributes := #[] }, { accessFlags := 26, nameIndex := 512, descriptorIndex := 501, attributes := #[] }, { accessFlags := 26, nameIndex := 514, descriptorIndex := 501, attributes := #[] }, { accessFlags := 26, nameIndex := 516, descriptorIndex := 501, attributes := #[] }, { accessFlags := 10, nameIndex := 84, descriptorIndex := 85, attributes := #[] }, { accessFlags := 25, nameIndex := 362, descriptorIndex := 363, attributes := #[] }, { accessFlags := 25, nameIndex := 370, descriptorIndex := 371, attributes := #[] }, { accessFlags := 25, nameIndex := 374, descriptorIndex := 375, attributes := #[] }])
  fields := #[{ name := "BINARYSEARCH_THRESHOLD", type := .int, accessFlags := 26, slot := 0, constantValue := 0 }, { name := "REVERSE_THRESHOLD", type := .int, accessFlags := 26, slot := 1, constantValue := 0 }, { name := "SHUFFLE_THRESHOLD", type := .int, accessFlags := 26, slot := 2, constantValue := 0 }, { name := "FILL_THRESHOLD", type := .int, accessFlags := 26, slot := 3, constantValue := 0 }, { name := "ROTATE_THRESHOLD", type := .int, accessFlags := 26, slot := 4, constantValue := 0 }, { name := "COPY_THRESHOLD", type := .int, accessFlags := 26, slot := 5, constantValue := 0 }, { name := "REPLACEALL_THRESHOLD", type := .int, accessFlags := 26, slot := 6, constantValue := 0 }, { name := "INDEXOFSUBLIST_THRESHOLD", type := .int, accessFlags := 26, slot := 7, constantValue := 0 }, { name := "r", type := (.object "java/util/Random"), accessFlags := 10, slot := 8, constantValue := 0 }, { name := "EMPTY_SET", type := (.object "java/util/Set"), accessFlags := 25, slot := 9, constantValue := 0 }, { name := "EMPTY_LIST", type := (.object "java/util/List"), accessFlags := 25, slot := 10, constantValue := 0 }, { name := "EMPTY_MAP", type := (.object "java/util/Map"), accessFlags := 25, slot := 11, constantValue := 0 }]
  methods := #[k16m0, k16m1]
  instanceTypes := #[]
  staticTypes := #[.int, .int, .int, .int, .int, .int, .int, .int, (.object "java/util/Random"), (.object "java/util/Set"), (.object "java/util/List"), (.object "java/util/Map")]
  resolved := Array.replicate 933 none
  statics := none }

def pool17 : Array CpInfo := pool [(1, .methodref 2 3), (0, .class_ 4), (0, .nameAndType 5 6), (0, u "java/lang/Object"), (0, u "<init>"), (0, u "()V"), (3, .fieldref 11 12), (0, .class_ 13), (0, .nameAndType 14 15), (0, u "java/util/Collections$UnmodifiableCollection"), (0, u "c"), (0, u "Ljava/util/Collection;"), (1, .class_ 19), (1, u "java/util/Collection"), (51, .class_ 72), (0, u "java/io/Serializable"), (0, u "serialVersionUID"), (0, u "J"), (5, u "(Ljava/util/Collection;)V"), (51, .class_ 133), (0, u "java/util/Collections")] 2

def k17c0 : Code := { maxStack := 2, maxLocals := 2, code := jdk_119_method_1_code, exceptionTable := #[], attributes := #[] }
def k17m0 : Method := { name := "<init>", desc := "(Ljava/util/Collection;)V", sig := { parameters := [(.object "java/util/Collection")], returnType := none }, accessFlags := 0, code := some k17c0 }
/-- java/util/Collections$UnmodifiableCollection -/
def k17 : Class := { plain "java/util/Collections$UnmodifiableCollection" (some 0) with
  accessFlags := 32
  interfaces := #[3, 10]
  cf := some (fileOf pool17 11 #[.nestHost 132] #[{ accessFlags := 0, nameIndex := 5, descriptorIndex := 80, attributes := #[] }] 32 2 #[17, 71] #[{ accessFlags := 26, nameIndex := 73, descriptorIndex := 74, attributes := #[] }, { accessFlags := 16, nameIndex := 14, descriptorIndex := 15, attributes := #[] }])
  fields := #[{ name := "serialVersionUID", type := .long, accessFlags := 26, slot := 0, constantValue := 0 }, { name := "c", type := (.object "java/util/Collection"), accessFlags := 16, slot := 0, constantValue := 0 }]
  methods := #[k17m0]
  instanceTypes := #[(.object "java/util/Collection")]
  staticTypes := #[.long]
  resolved := Array.replicate 136 none
  statics := none }

def pool18 : Array CpInfo := pool [(1, .methodref 2 3), (0, .class_ 4), (0, .nameAndType 5 6), (0, u "java/util/Collections$UnmodifiableCollection"), (0, u "<init>"), (0, u "(Ljava/util/Collection;)V"), (0, .fieldref 8 9), (0, .class_ 10), (0, .nameAndType 11 12), (0, u "java/util/Collections$UnmodifiableList"), (0, u "list"), (0, u "Ljava/util/List;"), (1, .class_ 16), (1, u "java/util/List"), (37, u "(Ljava/util/List;)V"), (5, u "serialVersionUID"), (0, u "J"), (59, .class_ 122), (0, u "java/util/Collections")] 4

def k18c0 : Code := { maxStack := 2, maxLocals := 2, code := jdk_120_method_1_code, exceptionTable := #[], attributes := #[] }
def k18m0 : Method := { name := "<init>", desc := "(Ljava/util/List;)V", sig := { parameters := [(.object "java/util/List")], returnType := none }, accessFlags := 0, code := some k18c0 }
/-- java/util/Collections$UnmodifiableList -/
def k18 : Class := { plain "java/util/Collections$UnmodifiableList" (some 17) with
  accessFlags := 32
  interfaces := #[6]
  cf := some (fileOf pool18 8 #[.nestHost 121] #[{ accessFlags := 0, nameIndex := 5, descriptorIndex := 54, attributes := #[] }] 32 2 #[14] #[{ accessFlags := 26, nameIndex := 60, descriptorIndex := 61, attributes := #[] }, { accessFlags := 16, nameIndex := 11, descriptorIndex := 12, attributes := #[] }])
  fields := #[{ name := "serialVersionUID", type := .long, accessFlags := 26, slot := 0, constantValue := 0 }, { name := "list", type := (.object "java/util/List"), accessFlags := 16, slot := 1, constantValue := 0 }]
  methods := #[k18m0]
  instanceTypes := #[(.object "java/util/Collection"), (.object "java/util/List")]
  staticTypes := #[.long]
  resolved := Array.replicate 127 none
  mirror := some 6
  statics := none }

def pool19 : Array CpInfo := pool [(1, .methodref 2 3), (0, .class_ 4), (0, .nameAndType 5 6), (0, u "java/util/Collections$UnmodifiableList"), (0, u "<init>"), (0, u "(Ljava/util/List;)V"), (0, .class_ 8), (0, u "java/util/Collections$UnmodifiableRandomAccessList"), (11, .class_ 21), (0, u "java/util/RandomAccess"), (0, u "serialVersionUID"), (0, u "J"), (23, .class_ 48), (0, u "java/util/Collections")] 3

def k19c0 : Code := { maxStack := 2, maxLocals := 2, code := jdk_121_method_1_code, exceptionTable := #[], attributes := #[] }
def k19m0 : Method := { name := "<init>", desc := "(Ljava/util/List;)V", sig := { parameters := [(.object "java/util/List")], returnType := none }, accessFlags := 0, code := some k19c0 }
/-- java/util/Collections$UnmodifiableRandomAccessList -/
def k19 : Class := { plain "java/util/Collections$UnmodifiableRandomAccessList" (some 18) with
  accessFlags := 32
  interfaces := #[8]
  cf := some (fileOf pool19 7 #[.nestHost 47] #[{ accessFlags := 0, nameIndex := 5, descriptorIndex := 6, attributes := #[] }] 32 2 #[20] #[{ accessFlags := 26, nameIndex := 22, descriptorIndex := 23, attributes := #[] }])
  fields := #[{ name := "serialVersionUID", type := .long, accessFlags := 26, slot := 0, constantValue := 0 }]
  methods := #[k19m0]
  instanceTypes := #[(.object "java/util/Collection"), (.object "java/util/List")]
  staticTypes := #[.long]
  resolved := Array.replicate 52 none
  mirror := some 7
  statics := none }

def pool20 : Array CpInfo := pool [(1, .class_ 2), (0, u "java/lang/Comparable"), (0, .class_ 4), (0, u "java/lang/Object")] 7

/-- java/lang/Comparable -/
def k20 : Class := { plain "java/lang/Comparable" (some 0) with
  accessFlags := 1537
  interfaces := #[]
  cf := some (fileOf pool20 1 #[] #[] 1537 3 #[] #[])
  fields := #[]
  methods := #[]
  instanceTypes := #[]
  staticTypes := #[]
  resolved := Array.replicate 12 none
  statics := none }

def pool21 : Array CpInfo := pool [(2, .class_ 4), (1, u "java/lang/CharSequence"), (42, .class_ 48), (0, u "java/lang/CharSequence$1CodePointIterator"), (10, .class_ 60), (0, u "java/lang/CharSequence$1CharIterator"), (5, .class_ 67), (0, u "java/lang/Object")] 63

/-- java/lang/CharSequence -/
def k21 : Class := { plain "java/lang/CharSequence" (some 0) with
  accessFlags := 1537
  interfaces := #[]
  cf := some (fileOf pool21 2 #[.nestMembers #[47, 59]] #[] 1537 66 #[] #[])
  fields := #[]
  methods := #[]
  instanceTypes := #[]
  staticTypes := #[]
  resolved := Array.replicate 131 none
  statics := none }

def pool22 : Array CpInfo := pool [(1, .class_ 2), (0, u "java/lang/constant/Constable"), (0, .class_ 4), (0, u "java/lang/Object")] 6

/-- java/lang/constant/Constable -/
def k22 : Class := { plain "java/lang/constant/Constable" (some 0) with
  accessFlags := 1537
  interfaces := #[]
  cf := some (fileOf pool22 1 #[] #[] 1537 3 #[] #[])
  fields := #[]
  methods := #[]
  instanceTypes := #[]
  staticTypes := #[]
  resolved := Array.replicate 11 none
  statics := none }

def pool23 : Array CpInfo := pool [(1, .class_ 2), (0, u "java/lang/constant/ConstantDesc"), (0, .class_ 4), (0, u "java/lang/Object")] 32

/-- java/lang/constant/ConstantDesc -/
def k23 : Class := { plain "java/lang/constant/ConstantDesc" (some 0) with
  accessFlags := 1537
  interfaces := #[]
  cf := some (fileOf pool23 1 #[] #[] 1537 3 #[] #[])
  fields := #[]
  methods := #[]
  instanceTypes := #[]
  staticTypes := #[]
  resolved := Array.replicate 37 none
  statics := none }

def pool24 : Array CpInfo := pool [(1, .methodref 2 3), (0, .class_ 4), (0, .nameAndType 5 6), (0, u "java/lang/Object"), (0, u "<init>"), (0, u "()V"), (2, .fieldref 10 11), (0, .class_ 12), (0, .nameAndType 13 14), (0, u "java/lang/String"), (0, u "value"), (0, u "[B"), (0, .fieldref 10 16), (0, .nameAndType 17 18), (0, u "coder"), (0, u "B"), (2, u "hash"), (0, u "I"), (2, u "hashIsZero"), (0, u "Z"), (0, .methodref 10 28), (0, .nameAndType 5 29), (0, u "([CIILjava/lang/Void;)V"), (8, .fieldref 10 39), (0, .nameAndType 40 26), (0, u "COMPACT_STRINGS"), (1, .class_ 44), (1, u "java/lang/StringUTF16"), (0, u "compress"), (1, .methodref 42 48), (0, .nameAndType 49 50), (0, u "coderFromArrayLen"), (0, u "([BI)B"), (2, u "toBytes"), (53, .class_ 109), (1, u "java/lang/StringLatin1"), (67, .methodref 42 178), (0, .nameAndType 45 179), (0, u "([CII)[B"), (29, .methodref 10 210), (0, .nameAndType 5 211), (0, u "([BB)V"), (157, u "(C)Z"), (205, .class_ 576), (0, u "java/lang/CharSequence"), (22, u "CASE_INSENSITIVE_ORDER"), (0, u "Ljava/util/Comparator;"), (181, u "valueOf"), (0, u "(C)Ljava/lang/String;"), (226, u "([C)V"), (4, .methodref 107 1016), (0, .nameAndType 1017 369), (0, u "canEncode"), (0, .methodref 107 1019), (0, .nameAndType 53 1020), (0, u "(C)[B"), (80, u "serialPersistentFields"), (0, u "[Ljava/io/ObjectStreamField;"), (0, .class_ 1104), (0, u "java/lang/String$CaseInsensitiveComparator"), (1, .class_ 1107), (0, u "java/io/Serializable"), (0, .class_ 1109), (0, u "java/lang/Comparable"), (0, .class_ 1111), (0, u "java/lang/constant/Constable"), (0, .class_ 1113), (0, u "java/lang/constant/ConstantDesc"), (2, u "serialVersionUID"), (0, u "J"), (3, u "REPL"), (0, u "C"), (2, u "LATIN1"), (1, u "UTF16")] 323

def k24m0 : Method := { name := "<init>", desc := "()V", sig := { parameters := [], returnType := none }, accessFlags := 1, code := none }
def k24c1 : Code := { maxStack := 5, maxLocals := 2, code := jdk_42_method_3_code, exceptionTable := #[], attributes := #[] }
def k24m1 : Method := { name := "<init>", desc := "([C)V", sig := { parameters := [(.array .char)], returnType := none }, accessFlags := 1, code := some k24c1 }
def k24c2 : Code := { maxStack := 4, maxLocals := 1, code := jdk_42_method_139_code, exceptionTable := #[], attributes := #[] }
def k24m2 : Method := { name := "valueOf", desc := "(C)Ljava/lang/String;", sig := { parameters := [.char], returnType := some (.object "java/lang/String") }, accessFlags := 9, code := some k24c2 }
def k24c3 : Code := { maxStack := 4, maxLocals := 6, code := jdk_42_method_149_code, exceptionTable := #[], attributes := #[] }
def k24m3 : Method := { name := "<init>", desc := "([CIILjava/lang/Void;)V", sig := { parameters := [(.array .char), .int, .int, (.object "java/lang/Void")], returnType := none }, accessFlags := 2, code := some k24c3 }
def k24c4 : Code := { maxStack := 2, maxLocals := 3, code := jdk_42_method_151_code, exceptionTable := #[], attributes := #[] }
def k24m4 : Method := { name := "<init>", desc := "([BB)V", sig := { parameters := [(.array .byte), .byte], returnType := none }, accessFlags := 0, code := some k24c4 }
/-- java/lang/String -/
def k24 : Class := { plain "java/lang/String" (some 0) with
  accessFlags := 49
  interfaces := #[10, 20, 21, 22, 23]
  cf := some (fileOf pool24 10 #[.nestMembers #[1103]] #[{ accessFlags := 1, nameIndex := 5, descriptorIndex := 6, attributes := #[] }, { accessFlags := 1, nameIndex := 5, descriptorIndex := 1010, attributes := #[] }, { accessFlags := 9, nameIndex := 782, descriptorIndex := 783, attributes := #[] }, { accessFlags := 2, nameIndex := 5, descriptorIndex := 29, attributes := #[] }, { accessFlags := 0, nameIndex := 5, descriptorIndex := 211, attributes := #[] }] 49 2 #[1106, 1108, 575, 1110, 1112] #[{ accessFlags := 18, nameIndex := 13, descriptorIndex := 14, attributes := #[] }, { accessFlags := 18, nameIndex := 17, descriptorIndex := 18, attributes := #[] }, { accessFlags := 2, nameIndex := 21, descriptorIndex := 22, attributes := #[] }, { accessFlags := 2, nameIndex := 25, descriptorIndex := 26, attributes := #[] }, { accessFlags := 26, nameIndex := 1116, descriptorIndex := 1117, attributes := #[] }, { accessFlags := 24, nameIndex := 40, descriptorIndex := 26, attributes := #[] }, { accessFlags := 26, nameIndex := 1101, descriptorIndex := 1102, attributes := #[] }, { accessFlags := 26, nameIndex := 1121, descriptorIndex := 1122, attributes := #[] }, { accessFlags := 25, nameIndex := 599, descriptorIndex := 600, attributes := #[] }, { accessFlags := 24, nameIndex := 1125, descriptorIndex := 18, attributes := #[] }, { accessFlags := 24, nameIndex := 1127, descriptorIndex := 18, attributes := #[] }])
  fields := #[{ name := "value", type := (.array .byte), accessFlags := 18, slot := 0, constantValue := 0 }, { name := "coder", type := .byte, accessFlags := 18, slot := 1, constantValue := 0 }, { name := "hash", type := .int, accessFlags := 2, slot := 2, constantValue := 0 }, { name := "hashIsZero", type := .boolean, accessFlags := 2, slot := 3, constantValue := 0 }, { name := "serialVersionUID", type := .long, accessFlags := 26, slot := 0, constantValue := 0 }, { name := "COMPACT_STRINGS", type := .boolean, accessFlags := 24, slot := 1, constantValue := 0 }, { name := "serialPersistentFields", type := (.array (.object "java/io/ObjectStreamField")), accessFlags := 26, slot := 2, constantValue := 0 }, { name := "REPL", type := .char, accessFlags := 26, slot := 3, constantValue := 0 }, { name := "CASE_INSENSITIVE_ORDER", type := (.object "java/util/Comparator"), accessFlags := 25, slot := 4, constantValue := 0 }, { name := "LATIN1", type := .byte, accessFlags := 24, slot := 5, constantValue := 0 }, { name := "UTF16", type := .byte, accessFlags := 24, slot := 6, constantValue := 0 }]
  methods := #[k24m0, k24m1, k24m2, k24m3, k24m4]
  instanceTypes := #[(.array .byte), .byte, .int, .boolean]
  staticTypes := #[.long, .boolean, (.array (.object "java/io/ObjectStreamField")), .char, (.object "java/util/Comparator"), .byte, .byte]
  resolved := Array.replicate 1451 none
  statics := some 1 }

def pool25 : Array CpInfo := pool [(1, .methodref 2 3), (0, .class_ 4), (0, .nameAndType 5 6), (0, u "java/lang/Object"), (0, u "<init>"), (0, u "()V"), (1, .class_ 10), (1, u "java/lang/Number"), (2, .class_ 14), (0, u "java/io/Serializable"), (0, u "serialVersionUID"), (0, u "J")] 20

def k25c0 : Code := { maxStack := 1, maxLocals := 1, code := jdk_18_method_1_code, exceptionTable := #[], attributes := #[] }
def k25m0 : Method := { name := "<init>", desc := "()V", sig := { parameters := [], returnType := none }, accessFlags := 1, code := some k25c0 }
/-- java/lang/Number -/
def k25 : Class := { plain "java/lang/Number" (some 0) with
  accessFlags := 1057
  interfaces := #[10]
  cf := some (fileOf pool25 8 #[] #[{ accessFlags := 1, nameIndex := 5, descriptorIndex := 6, attributes := #[] }] 1057 2 #[13] #[{ accessFlags := 26, nameIndex := 15, descriptorIndex := 16, attributes := #[] }])
  fields := #[{ name := "serialVersionUID", type := .long, accessFlags := 26, slot := 0, constantValue := 0 }]
  methods := #[k25m0]
  instanceTypes := #[]
  staticTypes := #[.long]
  resolved := Array.replicate 37 none
  statics := none }

def pool26 : Array CpInfo := pool [(1, .class_ 2), (0, u "java/lang/Integer"), (16, u "digits"), (0, u "[C"), (46, u "<init>"), (17, u "DigitOnes"), (0, u "[B"), (2, u "DigitTens"), (10, .nameAndType 67 101), (0, u "()V"), (85, u "valueOf"), (0, u "(I)Ljava/lang/Integer;"), (0, .class_ 190), (0, u "java/lang/Integer$IntegerCache"), (0, .fieldref 189 192), (0, .nameAndType 193 194), (0, u "high"), (0, u "I"), (0, .fieldref 189 196), (0, .nameAndType 197 198), (0, u "cache"), (0, u "[Ljava/lang/Integer;"), (0, .methodref 1 200), (0, .nameAndType 67 201), (0, u "(I)V"), (0, .methodref 203 100), (0, .class_ 204), (0, u "java/lang/Number"), (0, .fieldref 1 206), (0, .nameAndType 207 194), (0, u "value"), (94, u "TYPE"), (0, u "Ljava/lang/Class;"), (0, .class_ 305), (0, u "java/lang/Comparable"), (0, .class_ 307), (0, u "java/lang/constant/Constable"), (0, .class_ 309), (0, u "java/lang/constant/ConstantDesc"), (0, u "MIN_VALUE"), (1, u "MAX_VALUE"), (3, u "SIZE"), (1, u "BYTES"), (1, u "serialVersionUID"), (0, u "J")] 131

def k26c0 : Code := { maxStack := 3, maxLocals := 1, code := jdk_33_method_22_code, exceptionTable := #[], attributes := #[] }
def k26m0 : Method := { name := "valueOf", desc := "(I)Ljava/lang/Integer;", sig := { parameters := [.int], returnType := some (.object "java/lang/Integer") }, accessFlags := 9, code := some k26c0 }
def k26c1 : Code := { maxStack := 2, maxLocals := 2, code := jdk_33_method_23_code, exceptionTable := #[], attributes := #[] }
def k26m1 : Method := { name := "<init>", desc := "(I)V", sig := { parameters := [.int], returnType := none }, accessFlags := 1, code := some k26c1 }
/-- java/lang/Integer -/
def k26 : Class := { plain "java/lang/Integer" (some 25) with
  accessFlags := 49
  interfaces := #[20, 22, 23]
  cf := some (fileOf pool26 1 #[.nestMembers #[189]] #[{ accessFlags := 9, nameIndex := 187, descriptorIndex := 188, attributes := #[] }, { accessFlags := 1, nameIndex := 67, descriptorIndex := 201, attributes := #[] }] 49 203 #[304, 306, 308] #[{ accessFlags := 25, nameIndex := 310, descriptorIndex := 194, attributes := #[] }, { accessFlags := 25, nameIndex := 312, descriptorIndex := 194, attributes := #[] }, { accessFlags := 25, nameIndex := 302, descriptorIndex := 303, attributes := #[] }, { accessFlags := 24, nameIndex := 19, descriptorIndex := 20, attributes := #[] }, { accessFlags := 24, nameIndex := 89, descriptorIndex := 86, attributes := #[] }, { accessFlags := 24, nameIndex := 85, descriptorIndex := 86, attributes := #[] }, { accessFlags := 18, nameIndex := 207, descriptorIndex := 194, attributes := #[] }, { accessFlags := 25, nameIndex := 316, descriptorIndex := 194, attributes := #[] }, { accessFlags := 25, nameIndex := 318, descriptorIndex := 194, attributes := #[] }, { accessFlags := 26, nameIndex := 320, descriptorIndex := 321, attributes := #[] }])
  fields := #[{ name := "MIN_VALUE", type := .int, accessFlags := 25, slot := 0, constantValue := 0 }, { name := "MAX_VALUE", type := .int, accessFlags := 25, slot := 1, constantValue := 0 }, { name := "TYPE", type := (.object "java/lang/Class"), accessFlags := 25, slot := 2, constantValue := 0 }, { name := "digits", type := (.array .char), accessFlags := 24, slot := 3, constantValue := 0 }, { name := "DigitTens", type := (.array .byte), accessFlags := 24, slot := 4, constantValue := 0 }, { name := "DigitOnes", type := (.array .byte), accessFlags := 24, slot := 5, constantValue := 0 }, { name := "value", type := .int, accessFlags := 18, slot := 0, constantValue := 0 }, { name := "SIZE", type := .int, accessFlags := 25, slot := 6, constantValue := 0 }, { name := "BYTES", type := .int, accessFlags := 25, slot := 7, constantValue := 0 }, { name := "serialVersionUID", type := .long, accessFlags := 26, slot := 8, constantValue := 0 }]
  methods := #[k26m0, k26m1]
  instanceTypes := #[.int]
  staticTypes := #[.int, .int, (.object "java/lang/Class"), (.array .char), (.array .byte), (.array .byte), .int, .int, .long]
  resolved := Array.replicate 453 none
  statics := none }

def pool27 : Array CpInfo := pool [(2, .class_ 4), (1, u "java/lang/Object"), (0, u "<init>"), (0, u "()V"), (0, .class_ 8), (0, u "java/lang/Integer"), (7, .class_ 18), (1, u "java/lang/Integer$IntegerCache"), (0, u "$assertionsDisabled"), (0, u "Z"), (26, u "high"), (0, u "I"), (8, u "archivedCache"), (0, u "[Ljava/lang/Integer;"), (12, u "cache"), (0, u "low")] 27

def k27m0 : Method := { name := "<init>", desc := "()V", sig := { parameters := [], returnType := none }, accessFlags := 2, code := none }
/-- java/lang/Integer$IntegerCache -/
def k27 : Class := { plain "java/lang/Integer$IntegerCache" (some 0) with
  accessFlags := 48
  interfaces := #[]
  cf := some (fileOf pool27 16 #[.nestHost 7] #[{ accessFlags := 2, nameIndex := 5, descriptorIndex := 6, attributes := #[] }] 48 2 #[] #[{ accessFlags := 24, nameIndex := 72, descriptorIndex := 48, attributes := #[] }, { accessFlags := 24, nameIndex := 47, descriptorIndex := 48, attributes := #[] }, { accessFlags := 24, nameIndex := 71, descriptorIndex := 58, attributes := #[] }, { accessFlags := 8, nameIndex := 57, descriptorIndex := 58, attributes := #[] }, { accessFlags := 4120, nameIndex := 19, descriptorIndex := 20, attributes := #[] }])
  fields := #[{ name := "low", type := .int, accessFlags := 24, slot := 0, constantValue := 0 }, { name := "high", type := .int, accessFlags := 24, slot := 1, constantValue := 0 }, { name := "cache", type := (.array (.object "java/lang/Integer")), accessFlags := 24, slot := 2, constantValue := 0 }, { name := "archivedCache", type := (.array (.object "java/lang/Integer")), accessFlags := 8, slot := 3, constantValue := 0 }, { name := "$assertionsDisabled", type := .boolean, accessFlags := 4120, slot := 4, constantValue := 0 }]
  methods := #[k27m0]
  instanceTypes := #[]
  staticTypes := #[.int, .int, (.array (.object "java/lang/Integer")), (.array (.object "java/lang/Integer")), .boolean]
  resolved := Array.replicate 100 none
  statics := some 2 }

def pool28 : Array CpInfo := pool [(6, .class_ 8), (1, u "java/lang/Object"), (0, u "<init>"), (0, u "()V"), (1, .class_ 14), (1, u "java/lang/StringUTF16"), (31, u "$assertionsDisabled"), (0, u "Z"), (13, u "HI_BYTE_SHIFT"), (0, u "I"), (2, u "LO_BYTE_SHIFT"), (49, .methodref 12 116), (0, .nameAndType 117 118), (0, u "compress"), (0, u "([CI[BII)I"), (3, u "([CII)[B"), (138, u "coderFromArrayLen"), (0, u "([BI)B"), (106, .class_ 371), (1, u "java/lang/StringUTF16$LinesSpliterator"), (58, u "MAX_LENGTH"), (196, .class_ 628), (0, u "java/lang/StringUTF16$CodePointsSpliterator"), (0, .class_ 630), (0, u "java/lang/StringUTF16$CharsSpliterator")] 4

def k28m0 : Method := { name := "<init>", desc := "()V", sig := { parameters := [], returnType := none }, accessFlags := 0, code := none }
def k28c1 : Code := { maxStack := 2, maxLocals := 2, code := jdk_52_method_15_code, exceptionTable := #[], attributes := #[] }
def k28m1 : Method := { name := "coderFromArrayLen", desc := "([BI)B", sig := { parameters := [(.array .byte), .int], returnType := some .byte }, accessFlags := 8, code := some k28c1 }
def k28c2 : Code := { maxStack := 5, maxLocals := 6, code := jdk_52_method_16_code, exceptionTable := #[], attributes := #[] }
def k28m2 : Method := { name := "compress", desc := "([CII)[B", sig := { parameters := [(.array .char), .int, .int], returnType := some (.array .byte) }, accessFlags := 9, code := some k28c2 }
def k28c3 : Code := { maxStack := 3, maxLocals := 7, code := jdk_52_method_21_code, exceptionTable := #[], attributes := #[] }
def k28m3 : Method := { name := "compress", desc := "([CI[BII)I", sig := { parameters := [(.array .char), .int, (.array .byte), .int, .int], returnType := some .int }, accessFlags := 9, code := some k28c3 }
/-- java/lang/StringUTF16 -/
def k28 : Class := { plain "java/lang/StringUTF16" (some 0) with
  accessFlags := 48
  interfaces := #[]
  cf := some (fileOf pool28 12 #[.nestMembers #[627, 629, 369]] #[{ accessFlags := 0, nameIndex := 9, descriptorIndex := 10, attributes := #[] }, { accessFlags := 8, nameIndex := 261, descriptorIndex := 262, attributes := #[] }, { accessFlags := 9, nameIndex := 117, descriptorIndex := 122, attributes := #[] }, { accessFlags := 9, nameIndex := 117, descriptorIndex := 118, attributes := #[] }] 48 6 #[] #[{ accessFlags := 26, nameIndex := 61, descriptorIndex := 62, attributes := #[] }, { accessFlags := 26, nameIndex := 65, descriptorIndex := 62, attributes := #[] }, { accessFlags := 24, nameIndex := 430, descriptorIndex := 62, attributes := #[] }, { accessFlags := 4120, nameIndex := 46, descriptorIndex := 47, attributes := #[] }])
  fields := #[{ name := "HI_BYTE_SHIFT", type := .int, accessFlags := 26, slot := 0, constantValue := 0 }, { name := "LO_BYTE_SHIFT", type := .int, accessFlags := 26, slot := 1, constantValue := 0 }, { name := "MAX_LENGTH", type := .int, accessFlags := 24, slot := 2, constantValue := 0 }, { name := "$assertionsDisabled", type := .boolean, accessFlags := 4120, slot := 3, constantValue := 0 }]
  methods := #[k28m0, k28m1, k28m2, k28m3]
  instanceTypes := #[]
  staticTypes := #[.int, .int, .int, .boolean]
  resolved := Array.replicate 635 none
  statics := none }

def pool29 : Array CpInfo := pool [(4, .class_ 6), (1, u "java/lang/Object"), (0, u "<init>"), (0, u "()V"), (5, .class_ 16), (1, u "java/lang/StringLatin1"), (73, u "canEncode"), (14, u "(C)Z"), (15, u "$assertionsDisabled"), (0, u "Z"), (98, .class_ 223), (1, u "java/lang/StringLatin1$LinesSpliterator"), (156, u "toBytes"), (1, u "(C)[B"), (7, .class_ 391), (0, u "java/lang/StringLatin1$CharsSpliterator")] 3

def k29m0 : Method := { name := "<init>", desc := "()V", sig := { parameters := [], returnType := none }, accessFlags := 0, code := none }
def k29c1 : Code := { maxStack := 2, maxLocals := 1, code := jdk_43_method_3_code, exceptionTable := #[], attributes := #[] }
def k29m1 : Method := { name := "canEncode", desc := "(C)Z", sig := { parameters := [.char], returnType := some .boolean }, accessFlags := 9, code := some k29c1 }
def k29c2 : Code := { maxStack := 4, maxLocals := 1, code := jdk_43_method_46_code, exceptionTable := #[], attributes := #[] }
def k29m2 : Method := { name := "toBytes", desc := "(C)[B", sig := { parameters := [.char], returnType := some (.array .byte) }, accessFlags := 9, code := some k29c2 }
/-- java/lang/StringLatin1 -/
def k29 : Class := { plain "java/lang/StringLatin1" (some 0) with
  accessFlags := 48
  interfaces := #[]
  cf := some (fileOf pool29 14 #[.nestMembers #[390, 221]] #[{ accessFlags := 0, nameIndex := 7, descriptorIndex := 8, attributes := #[] }, { accessFlags := 9, nameIndex := 90, descriptorIndex := 105, attributes := #[] }, { accessFlags := 9, nameIndex := 380, descriptorIndex := 382, attributes := #[] }] 48 4 #[] #[{ accessFlags := 4120, nameIndex := 121, descriptorIndex := 122, attributes := #[] }])
  fields := #[{ name := "$assertionsDisabled", type := .boolean, accessFlags := 4120, slot := 0, constantValue := 0 }]
  methods := #[k29m0, k29m1, k29m2]
  instanceTypes := #[]
  staticTypes := #[.boolean]
  resolved := Array.replicate 395 none
  statics := none }

def pool30 : Array CpInfo := pool [(2, .class_ 4), (1, u "java/lang/Object"), (0, u "<init>"), (0, u "()V"), (17, .class_ 26), (1, u "jdk/internal/util/Preconditions"), (28, .class_ 56), (0, u "jdk/internal/util/Preconditions$4"), (57, .class_ 115), (0, u "jdk/internal/util/Preconditions$1"), (7, u "SIOOBE_FORMATTER"), (0, u "Ljava/util/function/BiFunction;"), (0, .class_ 126), (0, u "jdk/internal/util/Preconditions$2"), (3, u "AIOOBE_FORMATTER"), (0, .class_ 132), (0, u "jdk/internal/util/Preconditions$3"), (3, u "IOOBE_FORMATTER")] 57

def k30m0 : Method := { name := "<init>", desc := "()V", sig := { parameters := [], returnType := none }, accessFlags := 1, code := none }
/-- jdk/internal/util/Preconditions -/
def k30 : Class := { plain "jdk/internal/util/Preconditions" (some 0) with
  accessFlags := 33
  interfaces := #[]
  cf := some (fileOf pool30 24 #[.nestMembers #[55, 131, 125, 114]] #[{ accessFlags := 1, nameIndex := 5, descriptorIndex := 6, attributes := #[] }] 33 2 #[] #[{ accessFlags := 25, nameIndex := 123, descriptorIndex := 124, attributes := #[] }, { accessFlags := 25, nameIndex := 130, descriptorIndex := 124, attributes := #[] }, { accessFlags := 25, nameIndex := 136, descriptorIndex := 124, attributes := #[] }])
  fields := #[{ name := "SIOOBE_FORMATTER", type := (.object "java/util/function/BiFunction"), accessFlags := 25, slot := 0, constantValue := 0 }, { name := "AIOOBE_FORMATTER", type := (.object "java/util/function/BiFunction"), accessFlags := 25, slot := 1, constantValue := 0 }, { name := "IOOBE_FORMATTER", type := (.object "java/util/function/BiFunction"), accessFlags := 25, slot := 2, constantValue := 0 }]
  methods := #[k30m0]
  instanceTypes := #[]
  staticTypes := #[(.object "java/util/function/BiFunction"), (.object "java/util/function/BiFunction"), (.object "java/util/function/BiFunction")]
  resolved := Array.replicate 194 none
  statics := some 3 }

def pool31 : Array CpInfo := pool [(9, u "<init>"), (6, .class_ 18), (1, u "java/lang/Object"), (0, u "()V"), (1, .class_ 23), (1, u "jdk/internal/util/ArraysSupport"), (0, u "LOG2_ARRAY_LONG_INDEX_SCALE"), (0, u "I"), (2, u "U"), (0, u "Ljdk/internal/misc/Unsafe;"), (8, u "BIG_ENDIAN"), (0, u "Z"), (8, u "LOG2_BYTE_BIT_SIZE"), (4, u "LOG2_ARRAY_INT_INDEX_SCALE"), (54, u "JLA"), (0, u "Ljdk/internal/access/JavaLangAccess;"), (11, u "LOG2_ARRAY_BOOLEAN_INDEX_SCALE"), (9, u "LOG2_ARRAY_BYTE_INDEX_SCALE"), (5, u "LOG2_ARRAY_CHAR_INDEX_SCALE"), (5, u "LOG2_ARRAY_SHORT_INDEX_SCALE"), (18, u "LOG2_ARRAY_FLOAT_INDEX_SCALE"), (24, u "LOG2_ARRAY_DOUBLE_INDEX_SCALE"), (89, u "T_BOOLEAN"), (2, u "T_CHAR"), (1, u "T_FLOAT"), (1, u "T_DOUBLE"), (1, u "T_BYTE"), (1, u "T_SHORT"), (1, u "T_INT"), (1, u "T_LONG"), (1, u "SOFT_MAX_ARRAY_LENGTH")] 83

def k31m0 : Method := { name := "<init>", desc := "()V", sig := { parameters := [], returnType := none }, accessFlags := 2, code := none }
/-- jdk/internal/util/ArraysSupport -/
def k31 : Class := { plain "jdk/internal/util/ArraysSupport" (some 0) with
  accessFlags := 33
  interfaces := #[]
  cf := some (fileOf pool31 21 #[] #[{ accessFlags := 2, nameIndex := 9, descriptorIndex := 19, attributes := #[] }] 33 16 #[] #[{ accessFlags := 24, nameIndex := 28, descriptorIndex := 29, attributes := #[] }, { accessFlags := 26, nameIndex := 38, descriptorIndex := 39, attributes := #[] }, { accessFlags := 25, nameIndex := 121, descriptorIndex := 25, attributes := #[] }, { accessFlags := 25, nameIndex := 131, descriptorIndex := 25, attributes := #[] }, { accessFlags := 25, nameIndex := 137, descriptorIndex := 25, attributes := #[] }, { accessFlags := 25, nameIndex := 143, descriptorIndex := 25, attributes := #[] }, { accessFlags := 25, nameIndex := 53, descriptorIndex := 25, attributes := #[] }, { accessFlags := 25, nameIndex := 24, descriptorIndex := 25, attributes := #[] }, { accessFlags := 25, nameIndex := 162, descriptorIndex := 25, attributes := #[] }, { accessFlags := 25, nameIndex := 187, descriptorIndex := 25, attributes := #[] }, { accessFlags := 26, nameIndex := 48, descriptorIndex := 25, attributes := #[] }, { accessFlags := 25, nameIndex := 277, descriptorIndex := 25, attributes := #[] }, { accessFlags := 25, nameIndex := 280, descriptorIndex := 25, attributes := #[] }, { accessFlags := 25, nameIndex := 282, descriptorIndex := 25, attributes := #[] }, { accessFlags := 25, nameIndex := 284, descriptorIndex := 25, attributes := #[] }, { accessFlags := 25, nameIndex := 286, descriptorIndex := 25, attributes := #[] }, { accessFlags := 25, nameIndex := 288, descriptorIndex := 25, attributes := #[] }, { accessFlags := 25, nameIndex := 290, descriptorIndex := 25, attributes := #[] }, { accessFlags := 25, nameIndex := 292, descriptorIndex := 25, attributes := #[] }, { accessFlags := 26, nameIndex := 108, descriptorIndex := 109, attributes := #[] }, { accessFlags := 25, nameIndex := 294, descriptorIndex := 25, attributes := #[] }])
  fields := #[{ name := "U", type := (.object "jdk/internal/misc/Unsafe"), accessFlags := 24, slot := 0, constantValue := 0 }, { name := "BIG_ENDIAN", type := .boolean, accessFlags := 26, slot := 1, constantValue := 0 }, { name := "LOG2_ARRAY_BOOLEAN_INDEX_SCALE", type := .int, accessFlags := 25, slot := 2, constantValue := 0 }, { name := "LOG2_ARRAY_BYTE_INDEX_SCALE", type := .int, accessFlags := 25, slot := 3, constantValue := 0 }, { name := "LOG2_ARRAY_CHAR_INDEX_SCALE", type := .int, accessFlags := 25, slot := 4, constantValue := 0 }, { name := "LOG2_ARRAY_SHORT_INDEX_SCALE", type := .int, accessFlags := 25, slot := 5, constantValue := 0 }, { name := "LOG2_ARRAY_INT_INDEX_SCALE", type := .int, accessFlags := 25, slot := 6, constantValue := 0 }, { name := "LOG2_ARRAY_LONG_INDEX_SCALE", type := .int, accessFlags := 25, slot := 7, constantValue := 0 }, { name := "LOG2_ARRAY_FLOAT_INDEX_SCALE", type := .int, accessFlags := 25, slot := 8, constantValue := 0 }, { name := "LOG2_ARRAY_DOUBLE_INDEX_SCALE", type := .int, accessFlags := 25, slot := 9, constantValue := 0 }, { name := "LOG2_BYTE_BIT_SIZE", type := .int, accessFlags := 26, slot := 10, constantValue := 0 }, { name := "T_BOOLEAN", type := .int, accessFlags := 25, slot := 11, constantValue := 0 }, { name := "T_CHAR", type := .int, accessFlags := 25, slot := 12, constantValue := 0 }, { name := "T_FLOAT", type := .int, accessFlags := 25, slot := 13, constantValue := 0 }, { name := "T_DOUBLE", type := .int, accessFlags := 25, slot := 14, constantValue := 0 }, { name := "T_BYTE", type := .int, accessFlags := 25, slot := 15, constantValue := 0 }, { name := "T_SHORT", type := .int, accessFlags := 25, slot := 16, constantValue := 0 }, { name := "T_INT", type := .int, accessFlags := 25, slot := 17, constantValue := 0 }, { name := "T_LONG", type := .int, accessFlags := 25, slot := 18, constantValue := 0 }, { name := "JLA", type := (.object "jdk/internal/access/JavaLangAccess"), accessFlags := 26, slot := 19, constantValue := 0 }, { name := "SOFT_MAX_ARRAY_LENGTH", type := .int, accessFlags := 25, slot := 20, constantValue := 0 }]
  methods := #[k31m0]
  instanceTypes := #[]
  staticTypes := #[(.object "jdk/internal/misc/Unsafe"), .boolean, .int, .int, .int, .int, .int, .int, .int, .int, .int, .int, .int, .int, .int, .int, .int, .int, .int, (.object "jdk/internal/access/JavaLangAccess"), .int]
  resolved := Array.replicate 378 none
  statics := none }

def pool32 : Array CpInfo := pool [(1, u "java/lang/Class"), (0, .class_ 1), (0, u "java/lang/Object"), (0, .class_ 3)] 0

/-- java/lang/Class -/
def k32 : Class := { plain "java/lang/Class" (some 0) with
  accessFlags := 49
  interfaces := #[]
  cf := some (fileOf pool32 2 #[] #[] 49 4 #[] #[])
  fields := #[]
  methods := #[]
  instanceTypes := #[]
  staticTypes := #[]
  resolved := Array.replicate 5 none
  statics := none }

/-- the primitive byte -/
def k33 : Class := { plain "byte" none with kind := .primitive 'B', accessFlags := 0x411 }
/-- [B -/
def k34 : Class := { plain "[B" (some 0) with kind := .array 33 .byte, interfaces := #[9, 10], accessFlags := 1041 }

/-- the primitive char -/
def k35 : Class := { plain "char" none with kind := .primitive 'C', accessFlags := 0x411 }
/-- [C -/
def k36 : Class := { plain "[C" (some 0) with kind := .array 35 .char, interfaces := #[9, 10], accessFlags := 1041 }

/-- the primitive int -/
def k37 : Class := { plain "int" none with kind := .primitive 'I', accessFlags := 0x411 }
/-- [I -/
def k38 : Class := { plain "[I" (some 0) with kind := .array 37 .int, interfaces := #[9, 10], accessFlags := 1041 }

/-- [Ljava/lang/Integer; -/
def k39 : Class := { plain "[Ljava/lang/Integer;" (some 0) with kind := .array 26 (.object "java/lang/Integer"), interfaces := #[9, 10], accessFlags := 1041 }

/-- [Ljava/lang/Object; -/
def k40 : Class := { plain "[Ljava/lang/Object;" (some 0) with kind := .array 0 (.object "java/lang/Object"), interfaces := #[9, 10], accessFlags := 1041, mirror := some 4 }

def heap : Heap := #[{ cls := 11, slots := #[.long 0, .int 0, .ref 265, .ref 266], vm := .statics 11 },
  { cls := 24, slots := #[.long 0, .int 1, .null, .int 0, .null, .int 0, .int 0], vm := .statics 24 },
  { cls := 27, slots := #[.int 0, .int 127, .ref 8, .null, .int 0], vm := .statics 27 },
  { cls := 30, slots := #[.null, .null, .null], vm := .statics 30 },
  { cls := 32, slots := #[], vm := .mirror 40 },
  { cls := 32, slots := #[], vm := .mirror 11 },
  { cls := 32, slots := #[], vm := .mirror 18 },
  { cls := 32, slots := #[], vm := .mirror 19 },
  { cls := 39, slots := #[.ref 9, .ref 10, .ref 11, .ref 12, .ref 13, .ref 14, .ref 15, .ref 16, .ref 17, .ref 18, .ref 19, .ref 20, .ref 21, .ref 22, .ref 23, .ref 24, .ref 25, .ref 26, .ref 27, .ref 28, .ref 29, .ref 30, .ref 31, .ref 32, .ref 33, .ref 34, .ref 35, .ref 36, .ref 37, .ref 38, .ref 39, .ref 40, .ref 41, .ref 42, .ref 43, .ref 44, .ref 45, .ref 46, .ref 47, .ref 48, .ref 49, .ref 50, .ref 51, .ref 52, .ref 53, .ref 54, .ref 55, .ref 56, .ref 57, .ref 58, .ref 59, .ref 60, .ref 61, .ref 62, .ref 63, .ref 64, .ref 65, .ref 66, .ref 67, .ref 68, .ref 69, .ref 70, .ref 71, .ref 72, .ref 73, .ref 74, .ref 75, .ref 76, .ref 77, .ref 78, .ref 79, .ref 80, .ref 81, .ref 82, .ref 83, .ref 84, .ref 85, .ref 86, .ref 87, .ref 88, .ref 89, .ref 90, .ref 91, .ref 92, .ref 93, .ref 94, .ref 95, .ref 96, .ref 97, .ref 98, .ref 99, .ref 100, .ref 101, .ref 102, .ref 103, .ref 104, .ref 105, .ref 106, .ref 107, .ref 108, .ref 109, .ref 110, .ref 111, .ref 112, .ref 113, .ref 114, .ref 115, .ref 116, .ref 117, .ref 118, .ref 119, .ref 120, .ref 121, .ref 122, .ref 123, .ref 124, .ref 125, .ref 126, .ref 127, .ref 128, .ref 129, .ref 130, .ref 131, .ref 132, .ref 133, .ref 134, .ref 135, .ref 136, .ref 137, .ref 138, .ref 139, .ref 140, .ref 141, .ref 142, .ref 143, .ref 144, .ref 145, .ref 146, .ref 147, .ref 148, .ref 149, .ref 150, .ref 151, .ref 152, .ref 153, .ref 154, .ref 155, .ref 156, .ref 157, .ref 158, .ref 159, .ref 160, .ref 161, .ref 162, .ref 163, .ref 164, .ref 165, .ref 166, .ref 167, .ref 168, .ref 169, .ref 170, .ref 171, .ref 172, .ref 173, .ref 174, .ref 175, .ref 176, .ref 177, .ref 178, .ref 179, .ref 180, .ref 181, .ref 182, .ref 183, .ref 184, .ref 185, .ref 186, .ref 187, .ref 188, .ref 189, .ref 190, .ref 191, .ref 192, .ref 193, .ref 194, .ref 195, .ref 196, .ref 197, .ref 198, .ref 199, .ref 200, .ref 201, .ref 202, .ref 203, .ref 204, .ref 205, .ref 206, .ref 207, .ref 208, .ref 209, .ref 210, .ref 211, .ref 212, .ref 213, .ref 214, .ref 215, .ref 216, .ref 217, .ref 218, .ref 219, .ref 220, .ref 221, .ref 222, .ref 223, .ref 224, .ref 225, .ref 226, .ref 227, .ref 228, .ref 229, .ref 230, .ref 231, .ref 232, .ref 233, .ref 234, .ref 235, .ref 236, .ref 237, .ref 238, .ref 239, .ref 240, .ref 241, .ref 242, .ref 243, .ref 244, .ref 245, .ref 246, .ref 247, .ref 248, .ref 249, .ref 250, .ref 251, .ref 252, .ref 253, .ref 254, .ref 255, .ref 256, .ref 257, .ref 258, .ref 259, .ref 260, .ref 261, .ref 262, .ref 263, .ref 264], vm := .none },
  { cls := 26, slots := #[.int (-128)], vm := .none },
  { cls := 26, slots := #[.int (-127)], vm := .none },
  { cls := 26, slots := #[.int (-126)], vm := .none },
  { cls := 26, slots := #[.int (-125)], vm := .none },
  { cls := 26, slots := #[.int (-124)], vm := .none },
  { cls := 26, slots := #[.int (-123)], vm := .none },
  { cls := 26, slots := #[.int (-122)], vm := .none },
  { cls := 26, slots := #[.int (-121)], vm := .none },
  { cls := 26, slots := #[.int (-120)], vm := .none },
  { cls := 26, slots := #[.int (-119)], vm := .none },
  { cls := 26, slots := #[.int (-118)], vm := .none },
  { cls := 26, slots := #[.int (-117)], vm := .none },
  { cls := 26, slots := #[.int (-116)], vm := .none },
  { cls := 26, slots := #[.int (-115)], vm := .none },
  { cls := 26, slots := #[.int (-114)], vm := .none },
  { cls := 26, slots := #[.int (-113)], vm := .none },
  { cls := 26, slots := #[.int (-112)], vm := .none },
  { cls := 26, slots := #[.int (-111)], vm := .none },
  { cls := 26, slots := #[.int (-110)], vm := .none },
  { cls := 26, slots := #[.int (-109)], vm := .none },
  { cls := 26, slots := #[.int (-108)], vm := .none },
  { cls := 26, slots := #[.int (-107)], vm := .none },
  { cls := 26, slots := #[.int (-106)], vm := .none },
  { cls := 26, slots := #[.int (-105)], vm := .none },
  { cls := 26, slots := #[.int (-104)], vm := .none },
  { cls := 26, slots := #[.int (-103)], vm := .none },
  { cls := 26, slots := #[.int (-102)], vm := .none },
  { cls := 26, slots := #[.int (-101)], vm := .none },
  { cls := 26, slots := #[.int (-100)], vm := .none },
  { cls := 26, slots := #[.int (-99)], vm := .none },
  { cls := 26, slots := #[.int (-98)], vm := .none },
  { cls := 26, slots := #[.int (-97)], vm := .none },
  { cls := 26, slots := #[.int (-96)], vm := .none },
  { cls := 26, slots := #[.int (-95)], vm := .none },
  { cls := 26, slots := #[.int (-94)], vm := .none },
  { cls := 26, slots := #[.int (-93)], vm := .none },
  { cls := 26, slots := #[.int (-92)], vm := .none },
  { cls := 26, slots := #[.int (-91)], vm := .none },
  { cls := 26, slots := #[.int (-90)], vm := .none },
  { cls := 26, slots := #[.int (-89)], vm := .none },
  { cls := 26, slots := #[.int (-88)], vm := .none },
  { cls := 26, slots := #[.int (-87)], vm := .none },
  { cls := 26, slots := #[.int (-86)], vm := .none },
  { cls := 26, slots := #[.int (-85)], vm := .none },
  { cls := 26, slots := #[.int (-84)], vm := .none },
  { cls := 26, slots := #[.int (-83)], vm := .none },
  { cls := 26, slots := #[.int (-82)], vm := .none },
  { cls := 26, slots := #[.int (-81)], vm := .none },
  { cls := 26, slots := #[.int (-80)], vm := .none },
  { cls := 26, slots := #[.int (-79)], vm := .none },
  { cls := 26, slots := #[.int (-78)], vm := .none },
  { cls := 26, slots := #[.int (-77)], vm := .none },
  { cls := 26, slots := #[.int (-76)], vm := .none },
  { cls := 26, slots := #[.int (-75)], vm := .none },
  { cls := 26, slots := #[.int (-74)], vm := .none },
  { cls := 26, slots := #[.int (-73)], vm := .none },
  { cls := 26, slots := #[.int (-72)], vm := .none },
  { cls := 26, slots := #[.int (-71)], vm := .none },
  { cls := 26, slots := #[.int (-70)], vm := .none },
  { cls := 26, slots := #[.int (-69)], vm := .none },
  { cls := 26, slots := #[.int (-68)], vm := .none },
  { cls := 26, slots := #[.int (-67)], vm := .none },
  { cls := 26, slots := #[.int (-66)], vm := .none },
  { cls := 26, slots := #[.int (-65)], vm := .none },
  { cls := 26, slots := #[.int (-64)], vm := .none },
  { cls := 26, slots := #[.int (-63)], vm := .none },
  { cls := 26, slots := #[.int (-62)], vm := .none },
  { cls := 26, slots := #[.int (-61)], vm := .none },
  { cls := 26, slots := #[.int (-60)], vm := .none },
  { cls := 26, slots := #[.int (-59)], vm := .none },
  { cls := 26, slots := #[.int (-58)], vm := .none },
  { cls := 26, slots := #[.int (-57)], vm := .none },
  { cls := 26, slots := #[.int (-56)], vm := .none },
  { cls := 26, slots := #[.int (-55)], vm := .none },
  { cls := 26, slots := #[.int (-54)], vm := .none },
  { cls := 26, slots := #[.int (-53)], vm := .none },
  { cls := 26, slots := #[.int (-52)], vm := .none },
  { cls := 26, slots := #[.int (-51)], vm := .none },
  { cls := 26, slots := #[.int (-50)], vm := .none },
  { cls := 26, slots := #[.int (-49)], vm := .none },
  { cls := 26, slots := #[.int (-48)], vm := .none },
  { cls := 26, slots := #[.int (-47)], vm := .none },
  { cls := 26, slots := #[.int (-46)], vm := .none },
  { cls := 26, slots := #[.int (-45)], vm := .none },
  { cls := 26, slots := #[.int (-44)], vm := .none },
  { cls := 26, slots := #[.int (-43)], vm := .none },
  { cls := 26, slots := #[.int (-42)], vm := .none },
  { cls := 26, slots := #[.int (-41)], vm := .none },
  { cls := 26, slots := #[.int (-40)], vm := .none },
  { cls := 26, slots := #[.int (-39)], vm := .none },
  { cls := 26, slots := #[.int (-38)], vm := .none },
  { cls := 26, slots := #[.int (-37)], vm := .none },
  { cls := 26, slots := #[.int (-36)], vm := .none },
  { cls := 26, slots := #[.int (-35)], vm := .none },
  { cls := 26, slots := #[.int (-34)], vm := .none },
  { cls := 26, slots := #[.int (-33)], vm := .none },
  { cls := 26, slots := #[.int (-32)], vm := .none },
  { cls := 26, slots := #[.int (-31)], vm := .none },
  { cls := 26, slots := #[.int (-30)], vm := .none },
  { cls := 26, slots := #[.int (-29)], vm := .none },
  { cls := 26, slots := #[.int (-28)], vm := .none },
  { cls := 26, slots := #[.int (-27)], vm := .none },
  { cls := 26, slots := #[.int (-26)], vm := .none },
  { cls := 26, slots := #[.int (-25)], vm := .none },
  { cls := 26, slots := #[.int (-24)], vm := .none },
  { cls := 26, slots := #[.int (-23)], vm := .none },
  { cls := 26, slots := #[.int (-22)], vm := .none },
  { cls := 26, slots := #[.int (-21)], vm := .none },
  { cls := 26, slots := #[.int (-20)], vm := .none },
  { cls := 26, slots := #[.int (-19)], vm := .none },
  { cls := 26, slots := #[.int (-18)], vm := .none },
  { cls := 26, slots := #[.int (-17)], vm := .none },
  { cls := 26, slots := #[.int (-16)], vm := .none },
  { cls := 26, slots := #[.int (-15)], vm := .none },
  { cls := 26, slots := #[.int (-14)], vm := .none },
  { cls := 26, slots := #[.int (-13)], vm := .none },
  { cls := 26, slots := #[.int (-12)], vm := .none },
  { cls := 26, slots := #[.int (-11)], vm := .none },
  { cls := 26, slots := #[.int (-10)], vm := .none },
  { cls := 26, slots := #[.int (-9)], vm := .none },
  { cls := 26, slots := #[.int (-8)], vm := .none },
  { cls := 26, slots := #[.int (-7)], vm := .none },
  { cls := 26, slots := #[.int (-6)], vm := .none },
  { cls := 26, slots := #[.int (-5)], vm := .none },
  { cls := 26, slots := #[.int (-4)], vm := .none },
  { cls := 26, slots := #[.int (-3)], vm := .none },
  { cls := 26, slots := #[.int (-2)], vm := .none },
  { cls := 26, slots := #[.int (-1)], vm := .none },
  { cls := 26, slots := #[.int (0)], vm := .none },
  { cls := 26, slots := #[.int (1)], vm := .none },
  { cls := 26, slots := #[.int (2)], vm := .none },
  { cls := 26, slots := #[.int (3)], vm := .none },
  { cls := 26, slots := #[.int (4)], vm := .none },
  { cls := 26, slots := #[.int (5)], vm := .none },
  { cls := 26, slots := #[.int (6)], vm := .none },
  { cls := 26, slots := #[.int (7)], vm := .none },
  { cls := 26, slots := #[.int (8)], vm := .none },
  { cls := 26, slots := #[.int (9)], vm := .none },
  { cls := 26, slots := #[.int (10)], vm := .none },
  { cls := 26, slots := #[.int (11)], vm := .none },
  { cls := 26, slots := #[.int (12)], vm := .none },
  { cls := 26, slots := #[.int (13)], vm := .none },
  { cls := 26, slots := #[.int (14)], vm := .none },
  { cls := 26, slots := #[.int (15)], vm := .none },
  { cls := 26, slots := #[.int (16)], vm := .none },
  { cls := 26, slots := #[.int (17)], vm := .none },
  { cls := 26, slots := #[.int (18)], vm := .none },
  { cls := 26, slots := #[.int (19)], vm := .none },
  { cls := 26, slots := #[.int (20)], vm := .none },
  { cls := 26, slots := #[.int (21)], vm := .none },
  { cls := 26, slots := #[.int (22)], vm := .none },
  { cls := 26, slots := #[.int (23)], vm := .none },
  { cls := 26, slots := #[.int (24)], vm := .none },
  { cls := 26, slots := #[.int (25)], vm := .none },
  { cls := 26, slots := #[.int (26)], vm := .none },
  { cls := 26, slots := #[.int (27)], vm := .none },
  { cls := 26, slots := #[.int (28)], vm := .none },
  { cls := 26, slots := #[.int (29)], vm := .none },
  { cls := 26, slots := #[.int (30)], vm := .none },
  { cls := 26, slots := #[.int (31)], vm := .none },
  { cls := 26, slots := #[.int (32)], vm := .none },
  { cls := 26, slots := #[.int (33)], vm := .none },
  { cls := 26, slots := #[.int (34)], vm := .none },
  { cls := 26, slots := #[.int (35)], vm := .none },
  { cls := 26, slots := #[.int (36)], vm := .none },
  { cls := 26, slots := #[.int (37)], vm := .none },
  { cls := 26, slots := #[.int (38)], vm := .none },
  { cls := 26, slots := #[.int (39)], vm := .none },
  { cls := 26, slots := #[.int (40)], vm := .none },
  { cls := 26, slots := #[.int (41)], vm := .none },
  { cls := 26, slots := #[.int (42)], vm := .none },
  { cls := 26, slots := #[.int (43)], vm := .none },
  { cls := 26, slots := #[.int (44)], vm := .none },
  { cls := 26, slots := #[.int (45)], vm := .none },
  { cls := 26, slots := #[.int (46)], vm := .none },
  { cls := 26, slots := #[.int (47)], vm := .none },
  { cls := 26, slots := #[.int (48)], vm := .none },
  { cls := 26, slots := #[.int (49)], vm := .none },
  { cls := 26, slots := #[.int (50)], vm := .none },
  { cls := 26, slots := #[.int (51)], vm := .none },
  { cls := 26, slots := #[.int (52)], vm := .none },
  { cls := 26, slots := #[.int (53)], vm := .none },
  { cls := 26, slots := #[.int (54)], vm := .none },
  { cls := 26, slots := #[.int (55)], vm := .none },
  { cls := 26, slots := #[.int (56)], vm := .none },
  { cls := 26, slots := #[.int (57)], vm := .none },
  { cls := 26, slots := #[.int (58)], vm := .none },
  { cls := 26, slots := #[.int (59)], vm := .none },
  { cls := 26, slots := #[.int (60)], vm := .none },
  { cls := 26, slots := #[.int (61)], vm := .none },
  { cls := 26, slots := #[.int (62)], vm := .none },
  { cls := 26, slots := #[.int (63)], vm := .none },
  { cls := 26, slots := #[.int (64)], vm := .none },
  { cls := 26, slots := #[.int (65)], vm := .none },
  { cls := 26, slots := #[.int (66)], vm := .none },
  { cls := 26, slots := #[.int (67)], vm := .none },
  { cls := 26, slots := #[.int (68)], vm := .none },
  { cls := 26, slots := #[.int (69)], vm := .none },
  { cls := 26, slots := #[.int (70)], vm := .none },
  { cls := 26, slots := #[.int (71)], vm := .none },
  { cls := 26, slots := #[.int (72)], vm := .none },
  { cls := 26, slots := #[.int (73)], vm := .none },
  { cls := 26, slots := #[.int (74)], vm := .none },
  { cls := 26, slots := #[.int (75)], vm := .none },
  { cls := 26, slots := #[.int (76)], vm := .none },
  { cls := 26, slots := #[.int (77)], vm := .none },
  { cls := 26, slots := #[.int (78)], vm := .none },
  { cls := 26, slots := #[.int (79)], vm := .none },
  { cls := 26, slots := #[.int (80)], vm := .none },
  { cls := 26, slots := #[.int (81)], vm := .none },
  { cls := 26, slots := #[.int (82)], vm := .none },
  { cls := 26, slots := #[.int (83)], vm := .none },
  { cls := 26, slots := #[.int (84)], vm := .none },
  { cls := 26, slots := #[.int (85)], vm := .none },
  { cls := 26, slots := #[.int (86)], vm := .none },
  { cls := 26, slots := #[.int (87)], vm := .none },
  { cls := 26, slots := #[.int (88)], vm := .none },
  { cls := 26, slots := #[.int (89)], vm := .none },
  { cls := 26, slots := #[.int (90)], vm := .none },
  { cls := 26, slots := #[.int (91)], vm := .none },
  { cls := 26, slots := #[.int (92)], vm := .none },
  { cls := 26, slots := #[.int (93)], vm := .none },
  { cls := 26, slots := #[.int (94)], vm := .none },
  { cls := 26, slots := #[.int (95)], vm := .none },
  { cls := 26, slots := #[.int (96)], vm := .none },
  { cls := 26, slots := #[.int (97)], vm := .none },
  { cls := 26, slots := #[.int (98)], vm := .none },
  { cls := 26, slots := #[.int (99)], vm := .none },
  { cls := 26, slots := #[.int (100)], vm := .none },
  { cls := 26, slots := #[.int (101)], vm := .none },
  { cls := 26, slots := #[.int (102)], vm := .none },
  { cls := 26, slots := #[.int (103)], vm := .none },
  { cls := 26, slots := #[.int (104)], vm := .none },
  { cls := 26, slots := #[.int (105)], vm := .none },
  { cls := 26, slots := #[.int (106)], vm := .none },
  { cls := 26, slots := #[.int (107)], vm := .none },
  { cls := 26, slots := #[.int (108)], vm := .none },
  { cls := 26, slots := #[.int (109)], vm := .none },
  { cls := 26, slots := #[.int (110)], vm := .none },
  { cls := 26, slots := #[.int (111)], vm := .none },
  { cls := 26, slots := #[.int (112)], vm := .none },
  { cls := 26, slots := #[.int (113)], vm := .none },
  { cls := 26, slots := #[.int (114)], vm := .none },
  { cls := 26, slots := #[.int (115)], vm := .none },
  { cls := 26, slots := #[.int (116)], vm := .none },
  { cls := 26, slots := #[.int (117)], vm := .none },
  { cls := 26, slots := #[.int (118)], vm := .none },
  { cls := 26, slots := #[.int (119)], vm := .none },
  { cls := 26, slots := #[.int (120)], vm := .none },
  { cls := 26, slots := #[.int (121)], vm := .none },
  { cls := 26, slots := #[.int (122)], vm := .none },
  { cls := 26, slots := #[.int (123)], vm := .none },
  { cls := 26, slots := #[.int (124)], vm := .none },
  { cls := 26, slots := #[.int (125)], vm := .none },
  { cls := 26, slots := #[.int (126)], vm := .none },
  { cls := 26, slots := #[.int (127)], vm := .none },
  { cls := 40, slots := #[], vm := .none },
  { cls := 40, slots := #[], vm := .none }]
def classes : Array Class := #[k0, k1, k2, k3, k4, k5, k6, k7, k8, k9, k10, k11, k12, k13, k14, k15, k16, k17, k18, k19, k20, k21, k22, k23, k24, k25, k26, k27, k28, k29, k30, k31, k32, k33, k34, k35, k36, k37, k38, k39, k40]
def interned : List (Array UInt16 × Addr) := []
def slotsUsed : Nat := 531
def theMethod : MethodId := ⟨1, 2⟩
def args0 : Array Value := #[.int 5, .int 5, .int 5, .int 5, .int 5, .int 5]
def aboutOver (below : List Frame) : State where
  vm := { classes := classes, interned := interned.toArray }
  heap := heap
  slotsUsed := slotsUsed
  threads := #[{ frames := .invoking theMethod args0 :: below }]
def below0 : List Frame := [.native { method := ⟨0, 0⟩, args := #[] }]
def about1 : State := aboutOver below0
def p0 : Program := .bare "" "" ""
def e0 : Env := launch0.env 0 0 0
theorem w_frames : about1.frames = Frame.invoking theMethod args0 :: below0 := rfl
set_option maxRecDepth 65536 in
theorem w_args : argsFit about1.vm theMethod args0 = true := by decide +kernel
set_option maxRecDepth 65536 in
theorem w_heap : heapFits about1 = true := by decide +kernel
set_option maxRecDepth 65536 in
theorem w_runnable : about1.curStatus? = some .runnable := by decide +kernel
set_option maxRecDepth 65536 in
theorem w_alone : about1.alone = true := by decide +kernel
set_option maxRecDepth 65536 in
theorem w_named : about1.methodNamed? x = some theMethod := by decide +kernel
set_option maxRecDepth 65536 in
theorem w_hears : about1.hears theMethod below0 = true := by decide +kernel
set_option maxRecDepth 65536 in
theorem w_ripe : about1.ripe theMethod args0 below0 = true := by decide +kernel
theorem w_running : about1.status = .running := rfl
set_option maxRecDepth 65536 in
theorem w_room : about1.hasRoom e0.platform room_1 = true :=
  launch0.hasRoom_least _ room_1 (by decide +kernel) (by decide +kernel) (by decide +kernel) (by decide +kernel) (by decide +kernel) (by decide +kernel)
theorem allAtoms_all (ts : List Jvm.Cond) (a : Array Jvm.Value) (st : Jvm.State) : (allAtoms ts).before a st = ts.all (fun c => c.before a st) := by
  induction ts with
  | nil => rfl
  | cons c t ih =>
    show (Jvm.Cond.and c (allAtoms t)).before a st = _
    rw [Jvm.Cond.before_and, ih, List.all_cons]
def words1 : List Jvm.Cond := Jvm.Cond.code x code maxLocals ret :: tables_1
/-- a 'code' word, met by the world's own term for the bytes: nothing is compared byte by byte -/
theorem code_word {y : MethodName} {bytes : ByteArray} {mx : Nat} {rt : Option FieldType} {a : Array Value} {s : State} {m : MethodId} {meth : Method} {c : Code} (h1 : s.methodNamed? y = some m) (h2 : s.vm.method? m = some meth) (h3 : meth.code = some c) (h4 : c.code = bytes)
    (h5 : (c.maxLocals == mx && c.exceptionTable.isEmpty && decide (c.maxStack ≤ mostOperands) && decide (meth.sig.returnType = rt) && !meth.locks && decide (parseMethodDescriptor y.desc = some meth.sig)) = true) : (Jvm.Cond.code y bytes mx rt).before a s = true := by
  simp only [Bool.and_eq_true, beq_iff_eq, Bool.not_eq_true', decide_eq_true_eq] at h5
  obtain ⟨⟨⟨⟨⟨g1, g2⟩, g3⟩, g4⟩, g5⟩, g6⟩ := h5
  simp [Cond.before, Cond.holds, Cond.value, h1, h2, h3, h4, g1, g2, g3, g4, g5, g6]
def isCode : Jvm.Cond → Bool
  | .code _ _ _ _ => true
  | _ => false
theorem all_split {L : List Jvm.Cond} {P : Jvm.Cond → Bool} (h1 : L.all (fun c => isCode c || P c) = true) (h2 : ∀ c ∈ L.filter isCode, P c = true) : L.all P = true := by
  refine List.all_eq_true.mpr fun c hc => ?_
  have h := List.all_eq_true.mp h1 c hc
  rcases Bool.eq_false_or_eq_true (isCode c) with hi | hi
  · exact h2 c (List.mem_filter.mpr ⟨hc, hi⟩)
  · simpa [hi] using h
set_option maxRecDepth 65536 in
theorem w_c0 : (Jvm.Cond.code x code maxLocals ret).before args0 about1 = true := code_word (m := ⟨1, 2⟩) (meth := k1m2) (c := k1c2) (by decide +kernel) rfl rfl rfl (by decide +kernel)
set_option maxRecDepth 65536 in
theorem w_c1 : (Jvm.Cond.code ({ cls := "java/util/ArrayList", name := "<init>", desc := "()V" } : Jvm.MethodName) jdk_38_method_2_code (1 : Nat) (Option.none : Option Jvm.ClassFile.FieldType)).before args0 about1 = true := code_word (m := ⟨11, 0⟩) (meth := k11m0) (c := k11c0) (by decide +kernel) rfl rfl rfl (by decide +kernel)
set_option maxRecDepth 65536 in
theorem w_c2 : (Jvm.Cond.code ({ cls := "java/util/AbstractList", name := "<init>", desc := "()V" } : Jvm.MethodName) jdk_39_method_1_code (1 : Nat) (Option.none : Option Jvm.ClassFile.FieldType)).before args0 about1 = true := code_word (m := ⟨7, 0⟩) (meth := k7m0) (c := k7c0) (by decide +kernel) rfl rfl rfl (by decide +kernel)
set_option maxRecDepth 65536 in
theorem w_c3 : (Jvm.Cond.code ({ cls := "java/util/AbstractCollection", name := "<init>", desc := "()V" } : Jvm.MethodName) jdk_22_method_1_code (1 : Nat) (Option.none : Option Jvm.ClassFile.FieldType)).before args0 about1 = true := code_word (m := ⟨4, 0⟩) (meth := k4m0) (c := k4c0) (by decide +kernel) rfl rfl rfl (by decide +kernel)
set_option maxRecDepth 65536 in
theorem w_c4 : (Jvm.Cond.code ({ cls := "java/lang/Object", name := "<init>", desc := "()V" } : Jvm.MethodName) object_method_1_code (1 : Nat) (Option.none : Option Jvm.ClassFile.FieldType)).before args0 about1 = true := code_word (m := ⟨0, 0⟩) (meth := k0m0) (c := k0c0) (by decide +kernel) rfl rfl rfl (by decide +kernel)
set_option maxRecDepth 65536 in
theorem w_c5 : (Jvm.Cond.code ({ cls := "com/example/greater_than/greaterthan/page/Page", name := "<init>", desc := "(Ljava/util/List;Ljava/lang/String;Ljava/lang/String;)V" } : Jvm.MethodName) prog_39_method_1_code (4 : Nat) (Option.none : Option Jvm.ClassFile.FieldType)).before args0 about1 = true := code_word (m := ⟨12, 0⟩) (meth := k12m0) (c := k12c0) (by decide +kernel) rfl rfl rfl (by decide +kernel)
set_option maxRecDepth 65536 in
theorem w_c6 : (Jvm.Cond.code ({ cls := "java/util/ArrayList", name := "<init>", desc := "(Ljava/util/Collection;)V" } : Jvm.MethodName) jdk_38_method_3_code (3 : Nat) (Option.none : Option Jvm.ClassFile.FieldType)).before args0 about1 = true := code_word (m := ⟨11, 1⟩) (meth := k11m1) (c := k11c1) (by decide +kernel) rfl rfl rfl (by decide +kernel)
set_option maxRecDepth 65536 in
theorem w_c7 : (Jvm.Cond.code ({ cls := "java/util/ArrayList", name := "toArray", desc := "()[Ljava/lang/Object;" } : Jvm.MethodName) jdk_38_method_16_code (1 : Nat) (Option.some (Jvm.ClassFile.FieldType.array (Jvm.ClassFile.FieldType.object "java/lang/Object")))).before args0 about1 = true := code_word (m := ⟨11, 4⟩) (meth := k11m4) (c := k11c4) (by decide +kernel) rfl rfl rfl (by decide +kernel)
set_option maxRecDepth 65536 in
theorem w_c8 : (Jvm.Cond.code ({ cls := "java/util/Arrays", name := "copyOf", desc := "([Ljava/lang/Object;I)[Ljava/lang/Object;" } : Jvm.MethodName) jdk_65_method_119_code (2 : Nat) (Option.some (Jvm.ClassFile.FieldType.array (Jvm.ClassFile.FieldType.object "java/lang/Object")))).before args0 about1 = true := code_word (m := ⟨13, 1⟩) (meth := k13m1) (c := k13c1) (by decide +kernel) rfl rfl rfl (by decide +kernel)
set_option maxRecDepth 65536 in
theorem w_c9 : (Jvm.Cond.code ({ cls := "java/util/Arrays", name := "copyOf", desc := "([Ljava/lang/Object;ILjava/lang/Class;)[Ljava/lang/Object;" } : Jvm.MethodName) jdk_65_method_120_code (4 : Nat) (Option.some (Jvm.ClassFile.FieldType.array (Jvm.ClassFile.FieldType.object "java/lang/Object")))).before args0 about1 = true := code_word (m := ⟨13, 2⟩) (meth := k13m2) (c := k13c2) (by decide +kernel) rfl rfl rfl (by decide +kernel)
set_option maxRecDepth 65536 in
theorem w_c10 : (Jvm.Cond.code ({ cls := "java/lang/Math", name := "min", desc := "(II)I" } : Jvm.MethodName) jdk_29_method_69_code (2 : Nat) (Option.some Jvm.ClassFile.FieldType.int)).before args0 about1 = true := code_word (m := ⟨14, 2⟩) (meth := k14m2) (c := k14c2) (by decide +kernel) rfl rfl rfl (by decide +kernel)
set_option maxRecDepth 65536 in
theorem w_c11 : (Jvm.Cond.code ({ cls := "java/util/Collections", name := "unmodifiableList", desc := "(Ljava/util/List;)Ljava/util/List;" } : Jvm.MethodName) jdk_79_method_35_code (1 : Nat) (Option.some (Jvm.ClassFile.FieldType.object "java/util/List"))).before args0 about1 = true := code_word (m := ⟨16, 1⟩) (meth := k16m1) (c := k16c1) (by decide +kernel) rfl rfl rfl (by decide +kernel)
set_option maxRecDepth 65536 in
theorem w_c12 : (Jvm.Cond.code ({ cls := "java/util/Collections$UnmodifiableRandomAccessList", name := "<init>", desc := "(Ljava/util/List;)V" } : Jvm.MethodName) jdk_121_method_1_code (2 : Nat) (Option.none : Option Jvm.ClassFile.FieldType)).before args0 about1 = true := code_word (m := ⟨19, 0⟩) (meth := k19m0) (c := k19c0) (by decide +kernel) rfl rfl rfl (by decide +kernel)
set_option maxRecDepth 65536 in
theorem w_c13 : (Jvm.Cond.code ({ cls := "java/util/Collections$UnmodifiableList", name := "<init>", desc := "(Ljava/util/List;)V" } : Jvm.MethodName) jdk_120_method_1_code (2 : Nat) (Option.none : Option Jvm.ClassFile.FieldType)).before args0 about1 = true := code_word (m := ⟨18, 0⟩) (meth := k18m0) (c := k18c0) (by decide +kernel) rfl rfl rfl (by decide +kernel)
set_option maxRecDepth 65536 in
theorem w_c14 : (Jvm.Cond.code ({ cls := "java/util/Collections$UnmodifiableCollection", name := "<init>", desc := "(Ljava/util/Collection;)V" } : Jvm.MethodName) jdk_119_method_1_code (2 : Nat) (Option.none : Option Jvm.ClassFile.FieldType)).before args0 about1 = true := code_word (m := ⟨17, 0⟩) (meth := k17m0) (c := k17c0) (by decide +kernel) rfl rfl rfl (by decide +kernel)
set_option maxRecDepth 65536 in
theorem w_c15 : (Jvm.Cond.code ({ cls := "com/example/greater_than/greaterthan/page/Page", name := "hasPrevious", desc := "()Z" } : Jvm.MethodName) prog_39_method_5_code (1 : Nat) (Option.some Jvm.ClassFile.FieldType.boolean)).before args0 about1 = true := code_word (m := ⟨12, 1⟩) (meth := k12m1) (c := k12c1) (by decide +kernel) rfl rfl rfl (by decide +kernel)
set_option maxRecDepth 65536 in
theorem w_c16 : (Jvm.Cond.code ({ cls := "com/example/greater_than/greaterthan/page/PageHasPreviousPinLaw", name := "drawn", desc := "(III)Ljava/lang/String;" } : Jvm.MethodName) method_2_code (4 : Nat) (Option.some (Jvm.ClassFile.FieldType.object "java/lang/String"))).before args0 about1 = true := code_word (m := ⟨1, 1⟩) (meth := k1m1) (c := k1c1) (by decide +kernel) rfl rfl rfl (by decide +kernel)
set_option maxRecDepth 65536 in
theorem w_c17 : (Jvm.Cond.code ({ cls := "java/lang/Integer", name := "valueOf", desc := "(I)Ljava/lang/Integer;" } : Jvm.MethodName) jdk_33_method_22_code (1 : Nat) (Option.some (Jvm.ClassFile.FieldType.object "java/lang/Integer"))).before args0 about1 = true := code_word (m := ⟨26, 0⟩) (meth := k26m0) (c := k26c0) (by decide +kernel) rfl rfl rfl (by decide +kernel)
set_option maxRecDepth 65536 in
theorem w_c18 : (Jvm.Cond.code ({ cls := "java/lang/Integer", name := "<init>", desc := "(I)V" } : Jvm.MethodName) jdk_33_method_23_code (2 : Nat) (Option.none : Option Jvm.ClassFile.FieldType)).before args0 about1 = true := code_word (m := ⟨26, 1⟩) (meth := k26m1) (c := k26c1) (by decide +kernel) rfl rfl rfl (by decide +kernel)
set_option maxRecDepth 65536 in
theorem w_c19 : (Jvm.Cond.code ({ cls := "java/lang/Number", name := "<init>", desc := "()V" } : Jvm.MethodName) jdk_18_method_1_code (1 : Nat) (Option.none : Option Jvm.ClassFile.FieldType)).before args0 about1 = true := code_word (m := ⟨25, 0⟩) (meth := k25m0) (c := k25c0) (by decide +kernel) rfl rfl rfl (by decide +kernel)
set_option maxRecDepth 65536 in
theorem w_c20 : (Jvm.Cond.code ({ cls := "java/util/ArrayList", name := "add", desc := "(Ljava/lang/Object;)Z" } : Jvm.MethodName) jdk_38_method_25_code (2 : Nat) (Option.some Jvm.ClassFile.FieldType.boolean)).before args0 about1 = true := code_word (m := ⟨11, 6⟩) (meth := k11m6) (c := k11c6) (by decide +kernel) rfl rfl rfl (by decide +kernel)
set_option maxRecDepth 65536 in
theorem w_c21 : (Jvm.Cond.code ({ cls := "java/util/ArrayList", name := "add", desc := "(Ljava/lang/Object;[Ljava/lang/Object;I)V" } : Jvm.MethodName) jdk_38_method_24_code (4 : Nat) (Option.none : Option Jvm.ClassFile.FieldType)).before args0 about1 = true := code_word (m := ⟨11, 5⟩) (meth := k11m5) (c := k11c5) (by decide +kernel) rfl rfl rfl (by decide +kernel)
set_option maxRecDepth 65536 in
theorem w_c22 : (Jvm.Cond.code ({ cls := "java/util/ArrayList", name := "grow", desc := "()[Ljava/lang/Object;" } : Jvm.MethodName) jdk_38_method_7_code (1 : Nat) (Option.some (Jvm.ClassFile.FieldType.array (Jvm.ClassFile.FieldType.object "java/lang/Object")))).before args0 about1 = true := code_word (m := ⟨11, 3⟩) (meth := k11m3) (c := k11c3) (by decide +kernel) rfl rfl rfl (by decide +kernel)
set_option maxRecDepth 65536 in
theorem w_c23 : (Jvm.Cond.code ({ cls := "java/util/ArrayList", name := "grow", desc := "(I)[Ljava/lang/Object;" } : Jvm.MethodName) jdk_38_method_6_code (4 : Nat) (Option.some (Jvm.ClassFile.FieldType.array (Jvm.ClassFile.FieldType.object "java/lang/Object")))).before args0 about1 = true := code_word (m := ⟨11, 2⟩) (meth := k11m2) (c := k11c2) (by decide +kernel) rfl rfl rfl (by decide +kernel)
set_option maxRecDepth 65536 in
theorem w_c24 : (Jvm.Cond.code ({ cls := "java/lang/Math", name := "max", desc := "(II)I" } : Jvm.MethodName) jdk_29_method_65_code (2 : Nat) (Option.some Jvm.ClassFile.FieldType.int)).before args0 about1 = true := code_word (m := ⟨14, 1⟩) (meth := k14m1) (c := k14c1) (by decide +kernel) rfl rfl rfl (by decide +kernel)
set_option maxRecDepth 65536 in
theorem w_c25 : (Jvm.Cond.code ({ cls := "java/lang/String", name := "<init>", desc := "([C)V" } : Jvm.MethodName) jdk_42_method_3_code (2 : Nat) (Option.none : Option Jvm.ClassFile.FieldType)).before args0 about1 = true := code_word (m := ⟨24, 1⟩) (meth := k24m1) (c := k24c1) (by decide +kernel) rfl rfl rfl (by decide +kernel)
set_option maxRecDepth 65536 in
theorem w_c26 : (Jvm.Cond.code ({ cls := "java/lang/String", name := "<init>", desc := "([CIILjava/lang/Void;)V" } : Jvm.MethodName) jdk_42_method_149_code (6 : Nat) (Option.none : Option Jvm.ClassFile.FieldType)).before args0 about1 = true := code_word (m := ⟨24, 3⟩) (meth := k24m3) (c := k24c3) (by decide +kernel) rfl rfl rfl (by decide +kernel)
set_option maxRecDepth 65536 in
theorem w_c27 : (Jvm.Cond.code ({ cls := "java/lang/StringUTF16", name := "compress", desc := "([CII)[B" } : Jvm.MethodName) jdk_52_method_16_code (6 : Nat) (Option.some (Jvm.ClassFile.FieldType.array Jvm.ClassFile.FieldType.byte))).before args0 about1 = true := code_word (m := ⟨28, 2⟩) (meth := k28m2) (c := k28c2) (by decide +kernel) rfl rfl rfl (by decide +kernel)
set_option maxRecDepth 65536 in
theorem w_c28 : (Jvm.Cond.code ({ cls := "java/lang/StringUTF16", name := "compress", desc := "([CI[BII)I" } : Jvm.MethodName) jdk_52_method_21_code (7 : Nat) (Option.some Jvm.ClassFile.FieldType.int)).before args0 about1 = true := code_word (m := ⟨28, 3⟩) (meth := k28m3) (c := k28c3) (by decide +kernel) rfl rfl rfl (by decide +kernel)
set_option maxRecDepth 65536 in
theorem w_c29 : (Jvm.Cond.code ({ cls := "java/lang/StringUTF16", name := "coderFromArrayLen", desc := "([BI)B" } : Jvm.MethodName) jdk_52_method_15_code (2 : Nat) (Option.some Jvm.ClassFile.FieldType.byte)).before args0 about1 = true := code_word (m := ⟨28, 1⟩) (meth := k28m1) (c := k28c1) (by decide +kernel) rfl rfl rfl (by decide +kernel)
set_option maxRecDepth 65536 in
theorem w_c30 : (Jvm.Cond.code ({ cls := "java/lang/String", name := "valueOf", desc := "(C)Ljava/lang/String;" } : Jvm.MethodName) jdk_42_method_139_code (1 : Nat) (Option.some (Jvm.ClassFile.FieldType.object "java/lang/String"))).before args0 about1 = true := code_word (m := ⟨24, 2⟩) (meth := k24m2) (c := k24c2) (by decide +kernel) rfl rfl rfl (by decide +kernel)
set_option maxRecDepth 65536 in
theorem w_c31 : (Jvm.Cond.code ({ cls := "java/lang/StringLatin1", name := "canEncode", desc := "(C)Z" } : Jvm.MethodName) jdk_43_method_3_code (1 : Nat) (Option.some Jvm.ClassFile.FieldType.boolean)).before args0 about1 = true := code_word (m := ⟨29, 1⟩) (meth := k29m1) (c := k29c1) (by decide +kernel) rfl rfl rfl (by decide +kernel)
set_option maxRecDepth 65536 in
theorem w_c32 : (Jvm.Cond.code ({ cls := "java/lang/StringLatin1", name := "toBytes", desc := "(C)[B" } : Jvm.MethodName) jdk_43_method_46_code (1 : Nat) (Option.some (Jvm.ClassFile.FieldType.array Jvm.ClassFile.FieldType.byte))).before args0 about1 = true := code_word (m := ⟨29, 2⟩) (meth := k29m2) (c := k29c2) (by decide +kernel) rfl rfl rfl (by decide +kernel)
set_option maxRecDepth 65536 in
theorem w_c33 : (Jvm.Cond.code ({ cls := "java/lang/String", name := "<init>", desc := "([BB)V" } : Jvm.MethodName) jdk_42_method_151_code (3 : Nat) (Option.none : Option Jvm.ClassFile.FieldType)).before args0 about1 = true := code_word (m := ⟨24, 4⟩) (meth := k24m4) (c := k24c4) (by decide +kernel) rfl rfl rfl (by decide +kernel)
def codes1 : List Jvm.Cond := [Jvm.Cond.code x code maxLocals ret, Jvm.Cond.code ({ cls := "java/util/ArrayList", name := "<init>", desc := "()V" } : Jvm.MethodName) jdk_38_method_2_code (1 : Nat) (Option.none : Option Jvm.ClassFile.FieldType), Jvm.Cond.code ({ cls := "java/util/AbstractList", name := "<init>", desc := "()V" } : Jvm.MethodName) jdk_39_method_1_code (1 : Nat) (Option.none : Option Jvm.ClassFile.FieldType), Jvm.Cond.code ({ cls := "java/util/AbstractCollection", name := "<init>", desc := "()V" } : Jvm.MethodName) jdk_22_method_1_code (1 : Nat) (Option.none : Option Jvm.ClassFile.FieldType), Jvm.Cond.code ({ cls := "java/lang/Object", name := "<init>", desc := "()V" } : Jvm.MethodName) object_method_1_code (1 : Nat) (Option.none : Option Jvm.ClassFile.FieldType), Jvm.Cond.code ({ cls := "com/example/greater_than/greaterthan/page/Page", name := "<init>", desc := "(Ljava/util/List;Ljava/lang/String;Ljava/lang/String;)V" } : Jvm.MethodName) prog_39_method_1_code (4 : Nat) (Option.none : Option Jvm.ClassFile.FieldType), Jvm.Cond.code ({ cls := "java/util/ArrayList", name := "<init>", desc := "(Ljava/util/Collection;)V" } : Jvm.MethodName) jdk_38_method_3_code (3 : Nat) (Option.none : Option Jvm.ClassFile.FieldType), Jvm.Cond.code ({ cls := "java/util/ArrayList", name := "toArray", desc := "()[Ljava/lang/Object;" } : Jvm.MethodName) jdk_38_method_16_code (1 : Nat) (Option.some (Jvm.ClassFile.FieldType.array (Jvm.ClassFile.FieldType.object "java/lang/Object"))), Jvm.Cond.code ({ cls := "java/util/Arrays", name := "copyOf", desc := "([Ljava/lang/Object;I)[Ljava/lang/Object;" } : Jvm.MethodName) jdk_65_method_119_code (2 : Nat) (Option.some (Jvm.ClassFile.FieldType.array (Jvm.ClassFile.FieldType.object "java/lang/Object"))), Jvm.Cond.code ({ cls := "java/util/Arrays", name := "copyOf", desc := "([Ljava/lang/Object;ILjava/lang/Class;)[Ljava/lang/Object;" } : Jvm.MethodName) jdk_65_method_120_code (4 : Nat) (Option.some (Jvm.ClassFile.FieldType.array (Jvm.ClassFile.FieldType.object "java/lang/Object"))), Jvm.Cond.code ({ cls := "java/lang/Math", name := "min", desc := "(II)I" } : Jvm.MethodName) jdk_29_method_69_code (2 : Nat) (Option.some Jvm.ClassFile.FieldType.int), Jvm.Cond.code ({ cls := "java/util/Collections", name := "unmodifiableList", desc := "(Ljava/util/List;)Ljava/util/List;" } : Jvm.MethodName) jdk_79_method_35_code (1 : Nat) (Option.some (Jvm.ClassFile.FieldType.object "java/util/List")), Jvm.Cond.code ({ cls := "java/util/Collections$UnmodifiableRandomAccessList", name := "<init>", desc := "(Ljava/util/List;)V" } : Jvm.MethodName) jdk_121_method_1_code (2 : Nat) (Option.none : Option Jvm.ClassFile.FieldType), Jvm.Cond.code ({ cls := "java/util/Collections$UnmodifiableList", name := "<init>", desc := "(Ljava/util/List;)V" } : Jvm.MethodName) jdk_120_method_1_code (2 : Nat) (Option.none : Option Jvm.ClassFile.FieldType), Jvm.Cond.code ({ cls := "java/util/Collections$UnmodifiableCollection", name := "<init>", desc := "(Ljava/util/Collection;)V" } : Jvm.MethodName) jdk_119_method_1_code (2 : Nat) (Option.none : Option Jvm.ClassFile.FieldType), Jvm.Cond.code ({ cls := "com/example/greater_than/greaterthan/page/Page", name := "hasPrevious", desc := "()Z" } : Jvm.MethodName) prog_39_method_5_code (1 : Nat) (Option.some Jvm.ClassFile.FieldType.boolean), Jvm.Cond.code ({ cls := "com/example/greater_than/greaterthan/page/PageHasPreviousPinLaw", name := "drawn", desc := "(III)Ljava/lang/String;" } : Jvm.MethodName) method_2_code (4 : Nat) (Option.some (Jvm.ClassFile.FieldType.object "java/lang/String")), Jvm.Cond.code ({ cls := "java/lang/Integer", name := "valueOf", desc := "(I)Ljava/lang/Integer;" } : Jvm.MethodName) jdk_33_method_22_code (1 : Nat) (Option.some (Jvm.ClassFile.FieldType.object "java/lang/Integer")), Jvm.Cond.code ({ cls := "java/lang/Integer", name := "<init>", desc := "(I)V" } : Jvm.MethodName) jdk_33_method_23_code (2 : Nat) (Option.none : Option Jvm.ClassFile.FieldType), Jvm.Cond.code ({ cls := "java/lang/Number", name := "<init>", desc := "()V" } : Jvm.MethodName) jdk_18_method_1_code (1 : Nat) (Option.none : Option Jvm.ClassFile.FieldType), Jvm.Cond.code ({ cls := "java/util/ArrayList", name := "add", desc := "(Ljava/lang/Object;)Z" } : Jvm.MethodName) jdk_38_method_25_code (2 : Nat) (Option.some Jvm.ClassFile.FieldType.boolean), Jvm.Cond.code ({ cls := "java/util/ArrayList", name := "add", desc := "(Ljava/lang/Object;[Ljava/lang/Object;I)V" } : Jvm.MethodName) jdk_38_method_24_code (4 : Nat) (Option.none : Option Jvm.ClassFile.FieldType), Jvm.Cond.code ({ cls := "java/util/ArrayList", name := "grow", desc := "()[Ljava/lang/Object;" } : Jvm.MethodName) jdk_38_method_7_code (1 : Nat) (Option.some (Jvm.ClassFile.FieldType.array (Jvm.ClassFile.FieldType.object "java/lang/Object"))), Jvm.Cond.code ({ cls := "java/util/ArrayList", name := "grow", desc := "(I)[Ljava/lang/Object;" } : Jvm.MethodName) jdk_38_method_6_code (4 : Nat) (Option.some (Jvm.ClassFile.FieldType.array (Jvm.ClassFile.FieldType.object "java/lang/Object"))), Jvm.Cond.code ({ cls := "java/lang/Math", name := "max", desc := "(II)I" } : Jvm.MethodName) jdk_29_method_65_code (2 : Nat) (Option.some Jvm.ClassFile.FieldType.int), Jvm.Cond.code ({ cls := "java/lang/String", name := "<init>", desc := "([C)V" } : Jvm.MethodName) jdk_42_method_3_code (2 : Nat) (Option.none : Option Jvm.ClassFile.FieldType), Jvm.Cond.code ({ cls := "java/lang/String", name := "<init>", desc := "([CIILjava/lang/Void;)V" } : Jvm.MethodName) jdk_42_method_149_code (6 : Nat) (Option.none : Option Jvm.ClassFile.FieldType), Jvm.Cond.code ({ cls := "java/lang/StringUTF16", name := "compress", desc := "([CII)[B" } : Jvm.MethodName) jdk_52_method_16_code (6 : Nat) (Option.some (Jvm.ClassFile.FieldType.array Jvm.ClassFile.FieldType.byte)), Jvm.Cond.code ({ cls := "java/lang/StringUTF16", name := "compress", desc := "([CI[BII)I" } : Jvm.MethodName) jdk_52_method_21_code (7 : Nat) (Option.some Jvm.ClassFile.FieldType.int), Jvm.Cond.code ({ cls := "java/lang/StringUTF16", name := "coderFromArrayLen", desc := "([BI)B" } : Jvm.MethodName) jdk_52_method_15_code (2 : Nat) (Option.some Jvm.ClassFile.FieldType.byte), Jvm.Cond.code ({ cls := "java/lang/String", name := "valueOf", desc := "(C)Ljava/lang/String;" } : Jvm.MethodName) jdk_42_method_139_code (1 : Nat) (Option.some (Jvm.ClassFile.FieldType.object "java/lang/String")), Jvm.Cond.code ({ cls := "java/lang/StringLatin1", name := "canEncode", desc := "(C)Z" } : Jvm.MethodName) jdk_43_method_3_code (1 : Nat) (Option.some Jvm.ClassFile.FieldType.boolean), Jvm.Cond.code ({ cls := "java/lang/StringLatin1", name := "toBytes", desc := "(C)[B" } : Jvm.MethodName) jdk_43_method_46_code (1 : Nat) (Option.some (Jvm.ClassFile.FieldType.array Jvm.ClassFile.FieldType.byte)), Jvm.Cond.code ({ cls := "java/lang/String", name := "<init>", desc := "([BB)V" } : Jvm.MethodName) jdk_42_method_151_code (3 : Nat) (Option.none : Option Jvm.ClassFile.FieldType)]
set_option maxRecDepth 65536 in
theorem codes_eq : words1.filter isCode = codes1 := rfl
theorem w_codes : ∀ c ∈ words1.filter isCode, c.before args0 about1 = true := by
  rw [codes_eq]
  intro c hc
  simp only [codes1, List.mem_cons, List.not_mem_nil, or_false] at hc
  rcases hc with rfl | rfl | rfl | rfl | rfl | rfl | rfl | rfl | rfl | rfl | rfl | rfl | rfl | rfl | rfl | rfl | rfl | rfl | rfl | rfl | rfl | rfl | rfl | rfl | rfl | rfl | rfl | rfl | rfl | rfl | rfl | rfl | rfl | rfl
  · exact w_c0
  · exact w_c1
  · exact w_c2
  · exact w_c3
  · exact w_c4
  · exact w_c5
  · exact w_c6
  · exact w_c7
  · exact w_c8
  · exact w_c9
  · exact w_c10
  · exact w_c11
  · exact w_c12
  · exact w_c13
  · exact w_c14
  · exact w_c15
  · exact w_c16
  · exact w_c17
  · exact w_c18
  · exact w_c19
  · exact w_c20
  · exact w_c21
  · exact w_c22
  · exact w_c23
  · exact w_c24
  · exact w_c25
  · exact w_c26
  · exact w_c27
  · exact w_c28
  · exact w_c29
  · exact w_c30
  · exact w_c31
  · exact w_c32
  · exact w_c33
set_option maxRecDepth 65536 in
theorem w_t1 : (words1.take 24).all (fun c => isCode c || c.before args0 about1) = true := by decide +kernel
set_option maxRecDepth 65536 in
theorem w_t2 : ((words1.drop 24).take 24).all (fun c => isCode c || c.before args0 about1) = true := by decide +kernel
set_option maxRecDepth 65536 in
theorem w_t3 : (((words1.drop 24).drop 24).take 24).all (fun c => isCode c || c.before args0 about1) = true := by decide +kernel
set_option maxRecDepth 65536 in
theorem w_t4 : ((((words1.drop 24).drop 24).drop 24).take 24).all (fun c => isCode c || c.before args0 about1) = true := by decide +kernel
set_option maxRecDepth 65536 in
theorem w_t5 : (((((words1.drop 24).drop 24).drop 24).drop 24).take 24).all (fun c => isCode c || c.before args0 about1) = true := by decide +kernel
set_option maxRecDepth 65536 in
theorem w_t6 : ((((((words1.drop 24).drop 24).drop 24).drop 24).drop 24).take 24).all (fun c => isCode c || c.before args0 about1) = true := by decide +kernel
set_option maxRecDepth 65536 in
theorem w_t7 : (((((((words1.drop 24).drop 24).drop 24).drop 24).drop 24).drop 24).take 24).all (fun c => isCode c || c.before args0 about1) = true := by decide +kernel
set_option maxRecDepth 65536 in
theorem w_t8 : ((((((((words1.drop 24).drop 24).drop 24).drop 24).drop 24).drop 24).drop 24).take 24).all (fun c => isCode c || c.before args0 about1) = true := by decide +kernel
set_option maxRecDepth 65536 in
theorem w_t9 : (((((((((words1.drop 24).drop 24).drop 24).drop 24).drop 24).drop 24).drop 24).drop 24).take 24).all (fun c => isCode c || c.before args0 about1) = true := by decide +kernel
set_option maxRecDepth 65536 in
theorem w_t10 : (((((((((words1.drop 24).drop 24).drop 24).drop 24).drop 24).drop 24).drop 24).drop 24).drop 24).all (fun c => isCode c || c.before args0 about1) = true := by decide +kernel
theorem w_tables : (allAtoms (Jvm.Cond.code x code maxLocals ret :: tables_1)).before args0 about1 = true := by
  rw [allAtoms_all]
  show words1.all (fun c => c.before args0 about1) = true
  refine all_split ?_ w_codes
  rw [← List.take_append_drop 24 words1, List.all_append, w_t1, ← List.take_append_drop 24 (words1.drop 24), List.all_append, w_t2, ← List.take_append_drop 24 ((words1.drop 24).drop 24), List.all_append, w_t3, ← List.take_append_drop 24 (((words1.drop 24).drop 24).drop 24), List.all_append, w_t4, ← List.take_append_drop 24 ((((words1.drop 24).drop 24).drop 24).drop 24), List.all_append, w_t5, ← List.take_append_drop 24 (((((words1.drop 24).drop 24).drop 24).drop 24).drop 24), List.all_append, w_t6, ← List.take_append_drop 24 ((((((words1.drop 24).drop 24).drop 24).drop 24).drop 24).drop 24), List.all_append, w_t7, ← List.take_append_drop 24 (((((((words1.drop 24).drop 24).drop 24).drop 24).drop 24).drop 24).drop 24), List.all_append, w_t8, ← List.take_append_drop 24 ((((((((words1.drop 24).drop 24).drop 24).drop 24).drop 24).drop 24).drop 24).drop 24), List.all_append, w_t9, w_t10]
  rfl
set_option maxRecDepth 65536 in
theorem w_rest : rest_1_c.before args0 about1 = true := by decide +kernel
set_option maxRecDepth 65536 in
theorem w_case : (Jvm.Cond.and given_1 narrow_1).before args0 about1 = true := by decide +kernel
theorem w_applies : (headSpec (Jvm.Cond.code x code maxLocals ret :: tables_1) room_1).applies x e0.platform about1 = true :=
  (Spec.applies_iff w_frames).mpr ⟨w_running, w_runnable, w_alone, w_named, w_hears, w_ripe, w_room, w_tables⟩
set_option maxRecDepth 65536 in
theorem atStart : AtStart classFile x code maxLocals ret World_1 tables_1 room_1 Calls_1 rest_1 Pre_1 launch0 p0 e0 about1 theMethod args0 below0 :=
  ⟨lists_1, trivial, launch0.admits_env _ _ _, launch0.least_env, fairChoices_fair.cas, fairChoices_fair.clock, w_frames, w_args, w_heap, w_applies, ⟨⟨40, k40, 4, by decide +kernel, rfl, rfl, _, rfl, rfl⟩, ⟨⟨11, k11, 5, by decide +kernel, rfl, rfl, _, rfl, rfl⟩, ⟨⟨18, k18, 6, by decide +kernel, rfl, rfl, _, rfl, rfl⟩, ⟨⟨19, k19, 7, by decide +kernel, rfl, rfl, _, rfl, rfl⟩, trivial⟩⟩⟩⟩, w_rest, w_case⟩
end start1
theorem witness_1 : WitnessClaimed_1 := ⟨start1.p0, start1.e0, start1.about1, start1.theMethod, start1.args0, start1.below0, start1.atStart⟩
end Jvm.Pilot.@@N@@
